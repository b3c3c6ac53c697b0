import JvmDerived
import JvmDerived.Pilot.@@N@@Statement
import JvmDerived.Pilot.@@N@@Code
set_option linter.unusedVariables false
set_option linter.unusedSimpArgs false

namespace Jvm.Pilot.@@N@@
open Jvm Jvm.ClassFile Sem Op Lib Jvm.Free Jvm.Stand Jvm.LawKit Jvm.RoadKit Bundle Jvm.Pilot.@@N@@.Jvm.D
section Own
variable {p : Program} {l : Launch} {e : Env} {R : Room} {s : State} {m : MethodId} {args : Array Value} {below : List Frame} {meth : Method} {c : Code} {T T' : State} {locs : List Loc} {cells slots : Nat} {Q : Option Value → Heap → List Loc → Prop} {kc ks : Nat} {g g' : JFrame} {h : Heap}
def own_W (p : Program) (e : Env) (below : List Frame) (s : State) (Q : Option Value → Heap → List Loc → Prop) (kc ks : Nat) (T : State) (g : JFrame) : Prop :=
  ∃ s₂ o, Steps p.tables e below (T.setTop g) s₂ ∧ s₂.status = .running ∧ Ended s₂ below o ∧ ∃ v L, o = .returned v ∧ Q v s₂.heap L ∧ FrameEnd s o s₂ L kc ks
theorem own_go (st : ∀ t, Steps p.tables e below (T'.setTop g') t → Steps p.tables e below (T.setTop g) t) (k : own_W p e below s Q kc ks T' g') : own_W p e below s Q kc ks T g := by
  obtain ⟨s₂, o, h1, h2⟩ := k
  exact ⟨s₂, o, st _ h1, h2⟩
theorem own_ret (X : Stand p l e R s m args below meth c T locs cells slots) (hx : p.tables.exec = Jvm.exec) {pc : Nat} {Ls : Array Slot} {w : Value} {t : FieldType} {i : Instr} {rest : List Value} (hret : meth.sig.returnType = some t) (hlk : meth.locks = false) (hn : narrow t w = w)
    (hi : (i = .ireturn ∧ (t = .int ∨ t = .boolean ∨ t = .byte ∨ t = .char ∨ t = .short) ∧ ∃ z, w = .int z) ∨ (i = .lreturn ∧ t = .long ∧ ∃ z, w = .long z) ∨ (i = .dreturn ∧ t = .double ∧ ∃ z, w = .double z) ∨ (i = .freturn ∧ t = .float ∧ ∃ z, w = .float z) ∨ (i = .areturn ∧ t.isReference = true ∧ w.isRef = true))
    (hd : decode c.code pc = .ok (i, 1)) (eT : T.heap = h) (hQ : Q (some w) h locs) (hc : cells ≤ kc) (hs : slots ≤ ks) : own_W p e below s Q kc ks T (mkF m pc Ls (w :: rest)) := by
  obtain ⟨fs, hr, hrun, hended, hW, hsame⟩ := X.leave (v := some w) (fun q => by rw [hret] at q; cases q) hlk
  exact ⟨_, _, retOut X hx hret hn hi hd hr, hrun, hended, _, _, rfl, (show Q (some w) T.heap locs from eT ▸ hQ), ⟨_, rfl⟩, hW, hsame.mono hc hs⟩
theorem own_retN (X : Stand p l e R s m args below meth c T locs cells slots) (hx : p.tables.exec = Jvm.exec) {pc : Nat} {Ls : Array Slot} {z : Int32} {t : FieldType} {rest : List Value} (hret : meth.sig.returnType = some t) (hlk : meth.locks = false) (ht : t = .boolean ∨ t = .byte ∨ t = .char ∨ t = .short)
    (hd : decode c.code pc = .ok (.ireturn, 1)) (eT : T.heap = h) (hQ : Q (some (.int (nar t z))) h locs) (hc : cells ≤ kc) (hs : slots ≤ ks) : own_W p e below s Q kc ks T (mkF m pc Ls (.int z :: rest)) := by
  obtain ⟨fs, hr, hrun, hended, hW, hsame⟩ := X.leave (v := some (.int (nar t z))) (fun q => by rw [hret] at q; cases q) hlk
  exact ⟨_, _, retN X hx hret ht hd hr, hrun, hended, _, _, rfl, (show Q (some (.int (nar t z))) T.heap locs from eT ▸ hQ), ⟨_, rfl⟩, hW, hsame.mono hc hs⟩
theorem own_ret0 (X : Stand p l e R s m args below meth c T locs cells slots) (hx : p.tables.exec = Jvm.exec) {pc : Nat} {Ls : Array Slot} (hret : meth.sig.returnType = none) (hlk : meth.locks = false)
    (hd : decode c.code pc = .ok (.return_, 1)) (eT : T.heap = h) (hQ : Q none h locs) (hc : cells ≤ kc) (hs : slots ≤ ks) : own_W p e below s Q kc ks T (mkF m pc Ls []) := by
  obtain ⟨fs, hr, hrun, hended, hW, hsame⟩ := X.leave (v := none) (fun _ => rfl) hlk
  exact ⟨_, _, X.returnOut hx hret hd hr, hrun, hended, _, _, rfl, (show Q none T.heap locs from eT ▸ hQ), ⟨_, rfl⟩, hW, hsame.mono hc hs⟩
def own_WS (p : Program) (e : Env) (below : List Frame) (s : State) (Q : Option Value → Heap → List Loc → Prop) (kc ks : Nat) (T : State) (g : JFrame) : Prop :=
  ∃ s₂ o, Steps p.tables e below (T.setTop g) s₂ ∧ s₂.status = .running ∧ Ended s₂ below o ∧ ∃ v L, o = .returned v ∧ Q v s₂.heap L ∧ ReturnedEndW s o s₂ L kc ks
theorem own_goS (st : ∀ t, Steps p.tables e below (T'.setTop g') t → Steps p.tables e below (T.setTop g) t) (k : own_WS p e below s Q kc ks T' g') : own_WS p e below s Q kc ks T g := by
  obtain ⟨s₂, o, h1, h2⟩ := k
  exact ⟨s₂, o, st _ h1, h2⟩
theorem own_endW {t : State} {o : Outcome} {L : List Loc} {k n k' n' : Nat} (q : ReturnedEndW s o t L k n) (h1 : k ≤ k') (h2 : n ≤ n') : ReturnedEndW s o t L k' n' := ⟨q.1, q.2.1, q.2.2.1, q.2.2.2.mono h1 h2⟩
theorem own_retS {vm1 : Vm} {n1 : Nat} (X : Stand p l e R (s.setVm vm1) m args below meth c T locs cells slots) (hS : s.Since vm1 n1) (hx : p.tables.exec = Jvm.exec) {pc : Nat} {Ls : Array Slot} {w : Value} {t : FieldType} {i : Instr} {rest : List Value} (hret : meth.sig.returnType = some t) (hlk : meth.locks = false) (hn : narrow t w = w)
    (hi : (i = .ireturn ∧ (t = .int ∨ t = .boolean ∨ t = .byte ∨ t = .char ∨ t = .short) ∧ ∃ z, w = .int z) ∨ (i = .lreturn ∧ t = .long ∧ ∃ z, w = .long z) ∨ (i = .dreturn ∧ t = .double ∧ ∃ z, w = .double z) ∨ (i = .freturn ∧ t = .float ∧ ∃ z, w = .float z) ∨ (i = .areturn ∧ t.isReference = true ∧ w.isRef = true))
    (hd : decode c.code pc = .ok (i, 1)) (eT : T.heap = h) (hk : n1 ≤ h.size) (hQ : Q (some w) h locs) (hc : cells ≤ kc) (hs : slots ≤ ks) : own_WS p e below s Q kc ks T (mkF m pc Ls (w :: rest)) := by
  obtain ⟨fs, hr, hrun, hended, hW⟩ := X.leaveW hS (eT ▸ hk) (v := some w) (fun q => by rw [hret] at q; cases q) hlk
  exact ⟨_, _, retOut X hx hret hn hi hd hr, hrun, hended, _, _, rfl, (show Q (some w) T.heap locs from eT ▸ hQ), own_endW hW hc hs⟩
theorem own_retNS {vm1 : Vm} {n1 : Nat} (X : Stand p l e R (s.setVm vm1) m args below meth c T locs cells slots) (hS : s.Since vm1 n1) (hx : p.tables.exec = Jvm.exec) {pc : Nat} {Ls : Array Slot} {z : Int32} {t : FieldType} {rest : List Value} (hret : meth.sig.returnType = some t) (hlk : meth.locks = false) (ht : t = .boolean ∨ t = .byte ∨ t = .char ∨ t = .short)
    (hd : decode c.code pc = .ok (.ireturn, 1)) (eT : T.heap = h) (hk : n1 ≤ h.size) (hQ : Q (some (.int (nar t z))) h locs) (hc : cells ≤ kc) (hs : slots ≤ ks) : own_WS p e below s Q kc ks T (mkF m pc Ls (.int z :: rest)) := by
  obtain ⟨fs, hr, hrun, hended, hW⟩ := X.leaveW hS (eT ▸ hk) (v := some (.int (nar t z))) (fun q => by rw [hret] at q; cases q) hlk
  exact ⟨_, _, retN X hx hret ht hd hr, hrun, hended, _, _, rfl, (show Q (some (.int (nar t z))) T.heap locs from eT ▸ hQ), own_endW hW hc hs⟩
theorem own_ret0S {vm1 : Vm} {n1 : Nat} (X : Stand p l e R (s.setVm vm1) m args below meth c T locs cells slots) (hS : s.Since vm1 n1) (hx : p.tables.exec = Jvm.exec) {pc : Nat} {Ls : Array Slot} (hret : meth.sig.returnType = none) (hlk : meth.locks = false)
    (hd : decode c.code pc = .ok (.return_, 1)) (eT : T.heap = h) (hk : n1 ≤ h.size) (hQ : Q none h locs) (hc : cells ≤ kc) (hs : slots ≤ ks) : own_WS p e below s Q kc ks T (mkF m pc Ls []) := by
  obtain ⟨fs, hr, hrun, hended, hW⟩ := X.leaveW hS (eT ▸ hk) (v := none) (fun _ => rfl) hlk
  exact ⟨_, _, X.returnOut hx hret hd hr, hrun, hended, _, _, rfl, (show Q none T.heap locs from eT ▸ hQ), own_endW hW hc hs⟩
theorem own_ifc {α : Type} {c d : Prop} [Decidable c] [Decidable d] {x y : α} (h : c ↔ d) : (if c then x else y) = (if d then x else y) := by
  by_cases q : c
  · rw [if_pos q, if_pos (h.mp q)]
  · rw [if_neg q, if_neg (fun z => q (h.mpr z))]
theorem own_sta_keep {Z : State} {h h' : Heap} {C n d : String} {v : Value} {ws : List Addr} (F : Sta Z h C n d v) (K : Keep h h' ws) (q : ∀ x ∈ ws, ∀ cell : Cell, h[x]? = some cell → cell.vm.isStatics = false) : Sta Z h' C n d v := by
  obtain ⟨cf, i, k, f, st, cell, h1, h2, h3, h4, h5, h6, h7⟩ := F
  exact ⟨cf, i, k, f, st, cell, h1, h2, h3, h4, K.2.1 _ _ h5 (fun hm => by rw [q _ hm _ h5] at h6; cases h6), h6, h7⟩
end Own
theorem own_noSub {Z : State} {a0 : Array Value} {C O K : String} {n : Nat} (w : (Cond.superclass C O).before a0 Z = true) (wo : (Cond.noSuperclass O).before a0 Z = true) (wk : (Cond.instantiable K n).before a0 Z = true) (h1 : C ≠ K) (h2 : O ≠ K) : ∃ c t, Z.vm.findClass C = some c ∧ Z.vm.findClass K = some t ∧ Z.vm.assignable c t = false := by
  obtain ⟨o, ko, o1, o2, o3, -, -⟩ := Cond.noSuperclass_spec wo
  obtain ⟨t, kt, t1, t2, t3, t4, -, -⟩ := Cond.instantiable_spec wk
  obtain ⟨c, c0⟩ := found_sup w
  obtain ⟨q, k, kq, q1, q2, q3, q4, q5, -, q7⟩ := Cond.superclass_spec c0 w
  cases o1.symm.trans q1
  have ne1 := ids_ne c0 t1 h1
  have ne2 := ids_ne o1 t1 h2
  have t5 : kt.isInterface = false := by simp only [Bool.or_eq_false_iff] at t4; exact t4.1
  have ns : ∀ fuel, Z.vm.isSubclassAux fuel c t = false := fun fuel => by
    cases fuel with
    | zero => rfl
    | succ f =>
      cases f with
      | zero => simp [Vm.isSubclassAux, ne1, q2, q4]
      | succ f => simp [Vm.isSubclassAux, ne1, ne2, q2, q4, o2, o3]
  refine ⟨c, t, c0, t1, ?_⟩
  show Z.vm.assignableAux (255 + 1) c t = false
  simp [Vm.assignableAux, ne1, q2, t2, q5, t3, t5, Vm.isSubclass, ns]
theorem own_sub : ∀ w ∈ Bundle.stringAtoms, w ∈ tables_1 := by
  intro w hw
  simp only [Bundle.stringAtoms, List.mem_cons, List.not_mem_nil, or_false] at hw
  rcases hw with rfl | rfl | rfl | rfl | rfl | rfl | rfl
  · exact List.mem_of_getElem? (i := 3) rfl
  · exact List.mem_of_getElem? (i := 2) rfl
  · exact List.mem_of_getElem? (i := 20) rfl
  · exact List.mem_of_getElem? (i := 30) rfl
  · exact List.mem_of_getElem? (i := 28) rfl
  · exact List.mem_of_getElem? (i := 39) rfl
  · exact List.mem_of_getElem? (i := 40) rfl
theorem own_wS {a0 : Array Value} {Z : State} (hw : ∀ d ∈ tables_1, d.before a0 Z = true) : ∀ w ∈ Bundle.stringAtoms, w.before a0 Z = true := fun w h => hw w (own_sub w h)
theorem d5_0 : decode jdk_52_method_21_code 0 = .ok (.iconst 0, 1) := by decide +kernel
theorem d5_1 : decode jdk_52_method_21_code 1 = .ok (.istore 5, 2) := by decide +kernel
theorem d5_3 : decode jdk_52_method_21_code 3 = .ok (.iload 5, 2) := by decide +kernel
theorem d5_5 : decode jdk_52_method_21_code 5 = .ok (.iload 4, 2) := by decide +kernel
theorem d5_7 : decode jdk_52_method_21_code 7 = .ok (.if_icmp .ge 37, 3) := by decide +kernel
theorem d5_10 : decode jdk_52_method_21_code 10 = .ok (.aload_n 0, 1) := by decide +kernel
theorem d5_11 : decode jdk_52_method_21_code 11 = .ok (.iload_n 1, 1) := by decide +kernel
theorem d5_12 : decode jdk_52_method_21_code 12 = .ok (.caload, 1) := by decide +kernel
theorem d5_13 : decode jdk_52_method_21_code 13 = .ok (.istore 6, 2) := by decide +kernel
theorem d5_15 : decode jdk_52_method_21_code 15 = .ok (.iload 6, 2) := by decide +kernel
theorem d5_17 : decode jdk_52_method_21_code 17 = .ok (.sipush 255, 3) := by decide +kernel
theorem d5_20 : decode jdk_52_method_21_code 20 = .ok (.if_icmp .le 6, 3) := by decide +kernel
theorem d5_26 : decode jdk_52_method_21_code 26 = .ok (.aload_n 2, 1) := by decide +kernel
theorem d5_27 : decode jdk_52_method_21_code 27 = .ok (.iload_n 3, 1) := by decide +kernel
theorem d5_28 : decode jdk_52_method_21_code 28 = .ok (.iload 6, 2) := by decide +kernel
theorem d5_30 : decode jdk_52_method_21_code 30 = .ok (.i2b, 1) := by decide +kernel
theorem d5_31 : decode jdk_52_method_21_code 31 = .ok (.bastore, 1) := by decide +kernel
theorem d5_32 : decode jdk_52_method_21_code 32 = .ok (.iinc 1 1, 3) := by decide +kernel
theorem d5_35 : decode jdk_52_method_21_code 35 = .ok (.iinc 3 1, 3) := by decide +kernel
theorem d5_38 : decode jdk_52_method_21_code 38 = .ok (.iinc 5 1, 3) := by decide +kernel
theorem d5_41 : decode jdk_52_method_21_code 41 = .ok (.goto (-38), 3) := by decide +kernel
theorem d5_44 : decode jdk_52_method_21_code 44 = .ok (.iload 4, 2) := by decide +kernel
theorem d5_46 : decode jdk_52_method_21_code 46 = .ok (.ireturn, 1) := by decide +kernel
def Q_rmC5_1 (Z : State) (r0 : Addr) (r2 : Addr) (kc : ClassId) (c0_ : Int32) (kb : ClassId) (h0 : Heap) (n0 : Nat) (v : Option Value) (h : Heap) (L : List Loc) : Prop := v = some (.int (1 : Int32)) ∧ Fr n0 L ∧ Keep h0 h [r2] ∧ Arv Z h r2 kb .byte (1 : Int32) [(.int (nar .byte (c0_.toInt8.toInt32)))] (.int (0 : Int32))
theorem ef_rmC5_1 (m : MethodId) (x0 : Addr) (x1 : Int32) (x2 : Addr) (x3 : Int32) (x4 : Int32) : entryFrame m #[(.ref x0), (.int x1), (.ref x2), (.int x3), (.int x4)] 7 = mkF m 0 #[.val (.ref x0), .val (.int x1), .val (.ref x2), .val (.int x3), .val (.int x4), .unset, .unset] [] := by first | (simp [entryFrame, mkF, argsToLocals, Value.category]; done) | rfl
theorem pn_rmC5_1 : plainName "java/lang/StringUTF16" = true := by first | (simp [plainName, overriddenIn]; done) | decide +kernel
set_option maxRecDepth 65536 in
set_option maxHeartbeats 40000000 in
theorem rmC5_1 (l : Launch) (Z : State) (a0 : Array Value) (hw : ∀ d ∈ tables_1, d.before a0 Z = true) (ws : List Jvm.Cond) (r0 : Addr) (r2 : Addr) (kc : ClassId) (c0_ : Int32) (kb : ClassId) (h0 : Heap) (n0 : Nat) (Z0 : n0 ≤ h0.size) (hp0 : Arv Z h0 r0 kc .char (1 : Int32) [(.int c0_)] (.int (0 : Int32))) (hp1 : Arv Z h0 r2 kb .byte (1 : Int32) [(.int (0 : Int32))] (.int (0 : Int32))) (hp2 : n0 ≤ r2) (hp3 : r0 ≠ r2) (hh0 : ¬ (255 : Int32) < c0_) :
    MetFree l (⟨"java/lang/StringUTF16", "compress", "([CI[BII)I"⟩ : MethodName) (head1 (Jvm.Cond.code (⟨"java/lang/StringUTF16", "compress", "([CI[BII)I"⟩ : MethodName) jdk_52_method_21_code 7 (some .int) :: ws) ({ frames := 0, cells := 0, slots := 0, locals := 0 } : Room)) (fun a U => a = #[(.ref r0), (.int (0 : Int32)), (.ref r2), (.int (0 : Int32)), (.int (1 : Int32))] ∧ Z.Warmed39 U.vm ∧ U.heap = h0) (fun _ _ _ _ _ => True) (fun _ U o U' => ∃ v L, o = .returned v ∧ Q_rmC5_1 Z r0 r2 kc c0_ kb h0 n0 v U'.heap L ∧ FrameEnd U o U' L ({ frames := 0, cells := 0, slots := 0, locals := 0 } : Room).cells ({ frames := 0, cells := 0, slots := 0, locals := 0 } : Room).slots) := by
  refine MetFree.of_bodySF (plainFor_of_name pn_rmC5_1) hisR ?_
  intro p e s m args below meth c s₁ Bd hml0 hP hK
  obtain ⟨rfl, hZ, hh⟩ := hP
  have hx := Bd.exec
  have hby := Bd.bytes
  have hml : c.maxLocals = 7 := hml0
  have hown : s.vm.findClass "java/lang/StringUTF16" = some m.cls := findClass_of_methodNamed Bd.named
  have hnm := (name_of_methodNamed Bd.named Bd.method).1
  have hlk : meth.locks = false := BodyLoose.notSynchronized Bd
  have X0 : Stand p l e ({ frames := 0, cells := 0, slots := 0, locals := 0 } : Room) s m #[(.ref r0), (.int (0 : Int32)), (.ref r2), (.int (0 : Int32)), (.int (1 : Int32))] below meth c s₁ [] 0 0 := Stand.of_body Bd
  have e0 : s₁.heap = h0 := by rw [← hh, Bd.state]; rfl
  have N0 := Fr.nil n0
  show own_W p e below s (Q_rmC5_1 Z r0 r2 kc c0_ kb h0 n0) 0 0 s₁ (entryFrame m #[(.ref r0), (.int (0 : Int32)), (.ref r2), (.int (0 : Int32)), (.int (1 : Int32))] 7)
  skip
  skip
  refine own_go (T' := s₁) (g' := (mkF m 0 #[.val (.ref r0), .val (.int (0 : Int32)), .val (.ref r2), .val (.int (0 : Int32)), .val (.int (1 : Int32)), .unset, .unset] [])) (fun _ k => castTop (ef_rmC5_1 m r0 (0 : Int32) r2 (0 : Int32) (1 : Int32)) k) ?_
  refine own_go (T' := s₁) (g' := (mkF m 1 #[.val (.ref r0), .val (.int (0 : Int32)), .val (.ref r2), .val (.int (0 : Int32)), .val (.int (1 : Int32)), .unset, .unset] [(.int (0 : Int32))])) (fun _ k => XS.iconst X0.here hx rfl (hb hby d5_0) k) ?_
  refine own_go (T' := s₁) (g' := (mkF m 3 #[.val (.ref r0), .val (.int (0 : Int32)), .val (.ref r2), .val (.int (0 : Int32)), .val (.int (1 : Int32)), .val (.int (0 : Int32)), .unset] [])) (fun _ k => XS.istore X0.here hx rfl (hb hby d5_1) rfl (l' := #[.val (.ref r0), .val (.int (0 : Int32)), .val (.ref r2), .val (.int (0 : Int32)), .val (.int (1 : Int32)), .val (.int (0 : Int32)), .unset]) rfl k) ?_
  refine own_go (T' := s₁) (g' := (mkF m 5 #[.val (.ref r0), .val (.int (0 : Int32)), .val (.ref r2), .val (.int (0 : Int32)), .val (.int (1 : Int32)), .val (.int (0 : Int32)), .unset] [(.int (0 : Int32))])) (fun _ k => XS.iload X0.here hx rfl (hb hby d5_3) rfl k) ?_
  refine own_go (T' := s₁) (g' := (mkF m 7 #[.val (.ref r0), .val (.int (0 : Int32)), .val (.ref r2), .val (.int (0 : Int32)), .val (.int (1 : Int32)), .val (.int (0 : Int32)), .unset] [(.int (1 : Int32)), (.int (0 : Int32))])) (fun _ k => XS.iload X0.here hx rfl (hb hby d5_5) rfl k) ?_
  refine own_go (T' := s₁) (g' := (mkF m 10 #[.val (.ref r0), .val (.int (0 : Int32)), .val (.ref r2), .val (.int (0 : Int32)), .val (.int (1 : Int32)), .val (.int (0 : Int32)), .unset] [])) (fun _ k => XS.icmpNo X0.here hx rfl (hb hby d5_7) rfl (XT.ii_ge_f (by decide : (0 : Int32) < (1 : Int32))) k) ?_
  refine own_go (T' := s₁) (g' := (mkF m 11 #[.val (.ref r0), .val (.int (0 : Int32)), .val (.ref r2), .val (.int (0 : Int32)), .val (.int (1 : Int32)), .val (.int (0 : Int32)), .unset] [(.ref r0)])) (fun _ k => XS.aloadN X0.here hx rfl (hb hby d5_10) rfl rfl k) ?_
  refine own_go (T' := s₁) (g' := (mkF m 12 #[.val (.ref r0), .val (.int (0 : Int32)), .val (.ref r2), .val (.int (0 : Int32)), .val (.int (1 : Int32)), .val (.int (0 : Int32)), .unset] [(.int (0 : Int32)), (.ref r0)])) (fun _ k => XS.iloadN X0.here hx rfl (hb hby d5_11) rfl k) ?_
  obtain ⟨cl1, Ar1, q11, q21, q31, H1, G1⟩ := id hp0
  have hin1 := inb_of q21 (j := (0 : Int32)) (by decide)
  refine own_go (T' := s₁) (g' := (mkF m 13 #[.val (.ref r0), .val (.int (0 : Int32)), .val (.ref r2), .val (.int (0 : Int32)), .val (.int (1 : Int32)), .val (.int (0 : Int32)), .unset] [(.int c0_)])) (fun _ k => X0.caload hx (j := (0 : Int32)) (v := (.int c0_)) (by rw [e0]; exact Ar1.1) (State.isArrayOf_alike hZ.alike Ar1.2.1) Ar1.2.2 hin1 (Has.at H1 hin1 rfl) (g := (mkF m 12 #[.val (.ref r0), .val (.int (0 : Int32)), .val (.ref r2), .val (.int (0 : Int32)), .val (.int (1 : Int32)), .val (.int (0 : Int32)), .unset] [(.int (0 : Int32)), (.ref r0)])) rfl rfl (hb hby d5_12) _ k) ?_
  refine own_go (T' := s₁) (g' := (mkF m 15 #[.val (.ref r0), .val (.int (0 : Int32)), .val (.ref r2), .val (.int (0 : Int32)), .val (.int (1 : Int32)), .val (.int (0 : Int32)), .val (.int c0_)] [])) (fun _ k => XS.istore X0.here hx rfl (hb hby d5_13) rfl (l' := #[.val (.ref r0), .val (.int (0 : Int32)), .val (.ref r2), .val (.int (0 : Int32)), .val (.int (1 : Int32)), .val (.int (0 : Int32)), .val (.int c0_)]) rfl k) ?_
  refine own_go (T' := s₁) (g' := (mkF m 17 #[.val (.ref r0), .val (.int (0 : Int32)), .val (.ref r2), .val (.int (0 : Int32)), .val (.int (1 : Int32)), .val (.int (0 : Int32)), .val (.int c0_)] [(.int c0_)])) (fun _ k => XS.iload X0.here hx rfl (hb hby d5_15) rfl k) ?_
  refine own_go (T' := s₁) (g' := (mkF m 20 #[.val (.ref r0), .val (.int (0 : Int32)), .val (.ref r2), .val (.int (0 : Int32)), .val (.int (1 : Int32)), .val (.int (0 : Int32)), .val (.int c0_)] [(.int (255 : Int32)), (.int c0_)])) (fun _ k => XS.sipush X0.here hx rfl (hb hby d5_17) k) ?_
  refine own_go (T' := s₁) (g' := (mkF m 26 #[.val (.ref r0), .val (.int (0 : Int32)), .val (.ref r2), .val (.int (0 : Int32)), .val (.int (1 : Int32)), .val (.int (0 : Int32)), .val (.int c0_)] [])) (fun _ k => XS.icmpYes X0.here hx rfl (pc0 := 20) (pc' := 26) rfl (hb hby d5_20) rfl (XT.ii_le_t hh0) (by decide) (by decide) k) ?_
  refine own_go (T' := s₁) (g' := (mkF m 27 #[.val (.ref r0), .val (.int (0 : Int32)), .val (.ref r2), .val (.int (0 : Int32)), .val (.int (1 : Int32)), .val (.int (0 : Int32)), .val (.int c0_)] [(.ref r2)])) (fun _ k => XS.aloadN X0.here hx rfl (hb hby d5_26) rfl rfl k) ?_
  refine own_go (T' := s₁) (g' := (mkF m 28 #[.val (.ref r0), .val (.int (0 : Int32)), .val (.ref r2), .val (.int (0 : Int32)), .val (.int (1 : Int32)), .val (.int (0 : Int32)), .val (.int c0_)] [(.int (0 : Int32)), (.ref r2)])) (fun _ k => XS.iloadN X0.here hx rfl (hb hby d5_27) rfl k) ?_
  refine own_go (T' := s₁) (g' := (mkF m 30 #[.val (.ref r0), .val (.int (0 : Int32)), .val (.ref r2), .val (.int (0 : Int32)), .val (.int (1 : Int32)), .val (.int (0 : Int32)), .val (.int c0_)] [(.int c0_), (.int (0 : Int32)), (.ref r2)])) (fun _ k => XS.iload X0.here hx rfl (hb hby d5_28) rfl k) ?_
  refine own_go (T' := s₁) (g' := (mkF m 31 #[.val (.ref r0), .val (.int (0 : Int32)), .val (.ref r2), .val (.int (0 : Int32)), .val (.int (1 : Int32)), .val (.int (0 : Int32)), .val (.int c0_)] [(.int (c0_.toInt8.toInt32)), (.int (0 : Int32)), (.ref r2)])) (fun _ k => XT.i2b X0.here hx rfl (hb hby d5_30) rfl k) ?_
  obtain ⟨cl2, Ar2, q12, q22, q32, H2, G2⟩ := id hp1
  have hin2 := inb_of q22 (j := (0 : Int32)) (by decide)
  obtain ⟨T2, h2, X2, e2, W2, st2⟩ := stB X0 hx hZ e0 Ar2 (j := (0 : Int32)) hin2 (g := (mkF m 31 #[.val (.ref r0), .val (.int (0 : Int32)), .val (.ref r2), .val (.int (0 : Int32)), .val (.int (1 : Int32)), .val (.int (0 : Int32)), .val (.int c0_)] [(.int (c0_.toInt8.toInt32)), (.int (0 : Int32)), (.ref r2)])) rfl rfl (hb hby d5_31)
  have f3 : Arv Z h2 r0 kc .char (1 : Int32) [(.int c0_)] (.int (0 : Int32)) := (hp0.other W2 hp3)
  have V2 : Arv Z h2 r2 kb .byte (1 : Int32) [(.int (nar .byte (c0_.toInt8.toInt32)))] (.int (0 : Int32)) := Arv.set Ar2 q12 q22 q32 H2 G2 (fits_nar_byte _) W2 0 (by decide) (by simp)
  have N2 := Fr.snoc X2 N0 hp2
  have zs2 : n0 ≤ h2.size := by rw [W2.size]; exact Z0
  have kk2 : Keep h0 h2 [r2] := (Keep.refl h0 [r2]).wr W2 (Or.inl (List.mem_of_getElem? (i := 0) rfl))
  refine own_go (T' := T2) (g' := (mkF m 32 #[.val (.ref r0), .val (.int (0 : Int32)), .val (.ref r2), .val (.int (0 : Int32)), .val (.int (1 : Int32)), .val (.int (0 : Int32)), .val (.int c0_)] [])) (fun _ k => st2 _ k) ?_
  refine own_go (T' := T2) (g' := (mkF m 35 #[.val (.ref r0), .val (.int (1 : Int32)), .val (.ref r2), .val (.int (0 : Int32)), .val (.int (1 : Int32)), .val (.int (0 : Int32)), .val (.int c0_)] [])) (fun _ k => XS.iinc X2.here hx rfl (hb hby d5_32) rfl (l' := #[.val (.ref r0), .val (.int (1 : Int32)), .val (.ref r2), .val (.int (0 : Int32)), .val (.int (1 : Int32)), .val (.int (0 : Int32)), .val (.int c0_)]) rfl k) ?_
  refine own_go (T' := T2) (g' := (mkF m 38 #[.val (.ref r0), .val (.int (1 : Int32)), .val (.ref r2), .val (.int (1 : Int32)), .val (.int (1 : Int32)), .val (.int (0 : Int32)), .val (.int c0_)] [])) (fun _ k => XS.iinc X2.here hx rfl (hb hby d5_35) rfl (l' := #[.val (.ref r0), .val (.int (1 : Int32)), .val (.ref r2), .val (.int (1 : Int32)), .val (.int (1 : Int32)), .val (.int (0 : Int32)), .val (.int c0_)]) rfl k) ?_
  refine own_go (T' := T2) (g' := (mkF m 41 #[.val (.ref r0), .val (.int (1 : Int32)), .val (.ref r2), .val (.int (1 : Int32)), .val (.int (1 : Int32)), .val (.int (1 : Int32)), .val (.int c0_)] [])) (fun _ k => XS.iinc X2.here hx rfl (hb hby d5_38) rfl (l' := #[.val (.ref r0), .val (.int (1 : Int32)), .val (.ref r2), .val (.int (1 : Int32)), .val (.int (1 : Int32)), .val (.int (1 : Int32)), .val (.int c0_)]) rfl k) ?_
  refine own_go (T' := T2) (g' := (mkF m 3 #[.val (.ref r0), .val (.int (1 : Int32)), .val (.ref r2), .val (.int (1 : Int32)), .val (.int (1 : Int32)), .val (.int (1 : Int32)), .val (.int c0_)] [])) (fun _ k => XS.goto X2.here hx rfl (pc0 := 41) (pc' := 3) rfl (hb hby d5_41) (by decide) (by decide) k) ?_
  refine own_go (T' := T2) (g' := (mkF m 5 #[.val (.ref r0), .val (.int (1 : Int32)), .val (.ref r2), .val (.int (1 : Int32)), .val (.int (1 : Int32)), .val (.int (1 : Int32)), .val (.int c0_)] [(.int (1 : Int32))])) (fun _ k => XS.iload X2.here hx rfl (hb hby d5_3) rfl k) ?_
  refine own_go (T' := T2) (g' := (mkF m 7 #[.val (.ref r0), .val (.int (1 : Int32)), .val (.ref r2), .val (.int (1 : Int32)), .val (.int (1 : Int32)), .val (.int (1 : Int32)), .val (.int c0_)] [(.int (1 : Int32)), (.int (1 : Int32))])) (fun _ k => XS.iload X2.here hx rfl (hb hby d5_5) rfl k) ?_
  refine own_go (T' := T2) (g' := (mkF m 44 #[.val (.ref r0), .val (.int (1 : Int32)), .val (.ref r2), .val (.int (1 : Int32)), .val (.int (1 : Int32)), .val (.int (1 : Int32)), .val (.int c0_)] [])) (fun _ k => XS.icmpYes X2.here hx rfl (pc0 := 7) (pc' := 44) rfl (hb hby d5_7) rfl (XT.ii_ge_t (by decide : ¬ ((1 : Int32) < (1 : Int32)))) (by decide) (by decide) k) ?_
  refine own_go (T' := T2) (g' := (mkF m 46 #[.val (.ref r0), .val (.int (1 : Int32)), .val (.ref r2), .val (.int (1 : Int32)), .val (.int (1 : Int32)), .val (.int (1 : Int32)), .val (.int c0_)] [(.int (1 : Int32))])) (fun _ k => XS.iload X2.here hx rfl (hb hby d5_44) rfl k) ?_
  exact own_ret X2 hx Bd.returns hlk rfl (Or.inl ⟨rfl, Or.inl rfl, _, rfl⟩) (hb hby d5_46) e2 ⟨rfl, N2, kk2, V2⟩ (by decide) (by decide)
theorem own_pd0 : parseMethodDescriptor "([CI[BII)I" = some ⟨[(.array .char), .int, (.array .byte), .int, .int], some .int⟩ := by decide +kernel
theorem d4_0 : decode jdk_52_method_16_code 0 = .ok (.iload_n 2, 1) := by decide +kernel
theorem d4_1 : decode jdk_52_method_16_code 1 = .ok (.newarray .byte, 2) := by decide +kernel
theorem d4_3 : decode jdk_52_method_16_code 3 = .ok (.astore_n 3, 1) := by decide +kernel
theorem d4_4 : decode jdk_52_method_16_code 4 = .ok (.aload_n 0, 1) := by decide +kernel
theorem d4_5 : decode jdk_52_method_16_code 5 = .ok (.iload_n 1, 1) := by decide +kernel
theorem d4_6 : decode jdk_52_method_16_code 6 = .ok (.aload_n 3, 1) := by decide +kernel
theorem d4_7 : decode jdk_52_method_16_code 7 = .ok (.iconst 0, 1) := by decide +kernel
theorem d4_8 : decode jdk_52_method_16_code 8 = .ok (.iload_n 2, 1) := by decide +kernel
theorem d4_9 : decode jdk_52_method_16_code 9 = .ok (.invokestatic 115, 3) := by decide +kernel
theorem d4_12 : decode jdk_52_method_16_code 12 = .ok (.istore 4, 2) := by decide +kernel
theorem d4_14 : decode jdk_52_method_16_code 14 = .ok (.iload 4, 2) := by decide +kernel
theorem d4_16 : decode jdk_52_method_16_code 16 = .ok (.iload_n 2, 1) := by decide +kernel
theorem d4_17 : decode jdk_52_method_16_code 17 = .ok (.if_icmp .eq 40, 3) := by decide +kernel
theorem d4_57 : decode jdk_52_method_16_code 57 = .ok (.aload_n 3, 1) := by decide +kernel
theorem d4_58 : decode jdk_52_method_16_code 58 = .ok (.areturn, 1) := by decide +kernel
def Q_rmC3_1 (Z : State) (r0 : Addr) (kc : ClassId) (c0_ : Int32) (h0 : Heap) (n0 : Nat) (v : Option Value) (h : Heap) (L : List Loc) : Prop := ∃ (xb : Addr) (xk : ClassId), v = some (.ref xb) ∧ Fr n0 L ∧ Keep h0 h [] ∧ h0.size ≤ xb ∧ Arv Z h xb xk .byte (1 : Int32) [(.int (nar .byte (c0_.toInt8.toInt32)))] (.int (0 : Int32))
theorem ef_rmC3_1 (m : MethodId) (x0 : Addr) (x1 : Int32) (x2 : Int32) : entryFrame m #[(.ref x0), (.int x1), (.int x2)] 6 = mkF m 0 #[.val (.ref x0), .val (.int x1), .val (.int x2), .unset, .unset, .unset] [] := by first | (simp [entryFrame, mkF, argsToLocals, Value.category]; done) | rfl
theorem pn_rmC3_1 : plainName "java/lang/StringUTF16" = true := by first | (simp [plainName, overriddenIn]; done) | decide +kernel
set_option maxRecDepth 65536 in
set_option maxHeartbeats 40000000 in
theorem rmC3_1 (l : Launch) (Z : State) (a0 : Array Value) (hw : ∀ d ∈ tables_1, d.before a0 Z = true) (ws : List Jvm.Cond) (r0 : Addr) (kc : ClassId) (c0_ : Int32) (h0 : Heap) (n0 : Nat) (Z0 : n0 ≤ h0.size) (hp0 : Arv Z h0 r0 kc .char (1 : Int32) [(.int c0_)] (.int (0 : Int32))) (hh0 : ¬ (255 : Int32) < c0_) :
    MetFree l (⟨"java/lang/StringUTF16", "compress", "([CII)[B"⟩ : MethodName) (head1 (Jvm.Cond.code (⟨"java/lang/StringUTF16", "compress", "([CII)[B"⟩ : MethodName) jdk_52_method_16_code 6 (some (.array .byte)) :: ws) ({ frames := 1, cells := 1, slots := 1, locals := 40 } : Room)) (fun a U => a = #[(.ref r0), (.int (0 : Int32)), (.int (1 : Int32))] ∧ Z.Warmed39 U.vm ∧ U.heap = h0) (fun _ _ _ _ _ => True) (fun _ U o U' => ∃ v L, o = .returned v ∧ Q_rmC3_1 Z r0 kc c0_ h0 n0 v U'.heap L ∧ FrameEnd U o U' L ({ frames := 1, cells := 1, slots := 1, locals := 40 } : Room).cells ({ frames := 1, cells := 1, slots := 1, locals := 40 } : Room).slots) := by
  refine MetFree.of_bodySF (plainFor_of_name pn_rmC3_1) hisR ?_
  intro p e s m args below meth c s₁ Bd hml0 hP hK
  obtain ⟨rfl, hZ, hh⟩ := hP
  have hx := Bd.exec
  have hby := Bd.bytes
  have hml : c.maxLocals = 6 := hml0
  have hown : s.vm.findClass "java/lang/StringUTF16" = some m.cls := findClass_of_methodNamed Bd.named
  have hnm := (name_of_methodNamed Bd.named Bd.method).1
  have hlk : meth.locks = false := BodyLoose.notSynchronized Bd
  have X0 : Stand p l e ({ frames := 1, cells := 1, slots := 1, locals := 40 } : Room) s m #[(.ref r0), (.int (0 : Int32)), (.int (1 : Int32))] below meth c s₁ [] 0 0 := Stand.of_body Bd
  have e0 : s₁.heap = h0 := by rw [← hh, Bd.state]; rfl
  have N0 := Fr.nil n0
  show own_W p e below s (Q_rmC3_1 Z r0 kc c0_ h0 n0) 1 1 s₁ (entryFrame m #[(.ref r0), (.int (0 : Int32)), (.int (1 : Int32))] 6)
  skip
  skip
  refine own_go (T' := s₁) (g' := (mkF m 0 #[.val (.ref r0), .val (.int (0 : Int32)), .val (.int (1 : Int32)), .unset, .unset, .unset] [])) (fun _ k => castTop (ef_rmC3_1 m r0 (0 : Int32) (1 : Int32)) k) ?_
  refine own_go (T' := s₁) (g' := (mkF m 1 #[.val (.ref r0), .val (.int (0 : Int32)), .val (.int (1 : Int32)), .unset, .unset, .unset] [(.int (1 : Int32))])) (fun _ k => XS.iloadN X0.here hx rfl (hb hby d4_0) rfl k) ?_
  obtain ⟨T1, h1, k1, X1, e1, E1, A1, st1⟩ := newP X0 hx hZ (hw _ (List.mem_of_getElem? (i := 20) rfl)) e0 (g := (mkF m 1 #[.val (.ref r0), .val (.int (0 : Int32)), .val (.int (1 : Int32)), .unset, .unset, .unset] [(.int (1 : Int32))])) rfl (hb hby d4_1) rfl (by decide) (cap := 1) (by decide) (by decide) (by decide) (by decide)
  obtain ⟨b1, g1⟩ : ∃ z, z = h0.size := ⟨_, rfl⟩
  have ne2 : r0 ≠ b1 := Nat.ne_of_lt (Nat.lt_of_lt_of_le hp0.lt (Nat.le_of_eq g1.symm))
  rw [← g1] at A1 st1
  have f3 : Arv Z h1 r0 kc .char (1 : Int32) [(.int c0_)] (.int (0 : Int32)) := (hp0.ext E1)
  have V1 : Arv Z h1 b1 k1 .byte (1 : Int32) [(.int (0 : Int32))] (.int (0 : Int32)) := (Arv.new A1 (by decide)).pad (pad_rep [] (.int (0 : Int32)) 1)
  have ge1 : n0 ≤ b1 := Nat.le_trans Z0 (Nat.le_of_eq g1.symm)
  have sz1 : h0.size ≤ b1 := Nat.le_trans (Keep.refl h0 []).1 (Nat.le_of_eq g1.symm)
  have kk1 : Keep h0 h1 [] := (Keep.refl h0 []).ext E1
  have zs1 : n0 ≤ h1.size := Nat.le_trans Z0 E1.1
  refine own_go (T' := T1) (g' := (mkF m 3 #[.val (.ref r0), .val (.int (0 : Int32)), .val (.int (1 : Int32)), .unset, .unset, .unset] [(.ref b1)])) (fun _ k => st1 _ k) ?_
  refine own_go (T' := T1) (g' := (mkF m 4 #[.val (.ref r0), .val (.int (0 : Int32)), .val (.int (1 : Int32)), .val (.ref b1), .unset, .unset] [])) (fun _ k => XS.astoreN X1.here hx rfl (hb hby d4_3) rfl rfl (l' := #[.val (.ref r0), .val (.int (0 : Int32)), .val (.int (1 : Int32)), .val (.ref b1), .unset, .unset]) rfl k) ?_
  refine own_go (T' := T1) (g' := (mkF m 5 #[.val (.ref r0), .val (.int (0 : Int32)), .val (.int (1 : Int32)), .val (.ref b1), .unset, .unset] [(.ref r0)])) (fun _ k => XS.aloadN X1.here hx rfl (hb hby d4_4) rfl rfl k) ?_
  refine own_go (T' := T1) (g' := (mkF m 6 #[.val (.ref r0), .val (.int (0 : Int32)), .val (.int (1 : Int32)), .val (.ref b1), .unset, .unset] [(.int (0 : Int32)), (.ref r0)])) (fun _ k => XS.iloadN X1.here hx rfl (hb hby d4_5) rfl k) ?_
  refine own_go (T' := T1) (g' := (mkF m 7 #[.val (.ref r0), .val (.int (0 : Int32)), .val (.int (1 : Int32)), .val (.ref b1), .unset, .unset] [(.ref b1), (.int (0 : Int32)), (.ref r0)])) (fun _ k => XS.aloadN X1.here hx rfl (hb hby d4_6) rfl rfl k) ?_
  refine own_go (T' := T1) (g' := (mkF m 8 #[.val (.ref r0), .val (.int (0 : Int32)), .val (.int (1 : Int32)), .val (.ref b1), .unset, .unset] [(.int (0 : Int32)), (.ref b1), (.int (0 : Int32)), (.ref r0)])) (fun _ k => XS.iconst X1.here hx rfl (hb hby d4_7) k) ?_
  refine own_go (T' := T1) (g' := (mkF m 9 #[.val (.ref r0), .val (.int (0 : Int32)), .val (.int (1 : Int32)), .val (.ref b1), .unset, .unset] [(.int (1 : Int32)), (.int (0 : Int32)), (.ref b1), (.int (0 : Int32)), (.ref r0)])) (fun _ k => XS.iloadN X1.here hx rfl (hb hby d4_8) rfl k) ?_
  obtain ⟨_, _, ⟨T4, L4, k4, n4⟩, -, X4, ⟨Lc4, hQ4, l4, y4, z4⟩, st4⟩ := Jvm.LawKit.callS X1 hx (y := (⟨"java/lang/StringUTF16", "compress", "([CI[BII)I"⟩ : MethodName)) hown (mvT hZ (hw _ (List.mem_of_getElem? (i := 21) rfl))) (mvT hZ (hw _ (List.mem_of_getElem? (i := 22) rfl))) (mvT hZ (hw _ (List.mem_of_getElem? (i := 18) rfl))) (mvT hZ (hw _ (List.mem_of_getElem? (i := 23) rfl))) (by decide) (backOf (W := 0) (rmC5_1 l Z a0 hw [] r0 b1 kc c0_ k1 h1 n0 zs1 f3 V1 ge1 ne2 hh0) hZ (hw _ (List.mem_of_getElem? (i := 23) rfl)) (hw _ (List.mem_of_getElem? (i := 18) rfl)) (by decide) (by decide)) (g := (mkF m 9 #[.val (.ref r0), .val (.int (0 : Int32)), .val (.int (1 : Int32)), .val (.ref b1), .unset, .unset] [(.int (1 : Int32)), (.int (0 : Int32)), (.ref b1), (.int (0 : Int32)), (.ref r0)])) rfl (by rw [hml]; rfl) (argsL := [(.ref r0), (.int (0 : Int32)), (.ref b1), (.int (0 : Int32)), (.int (1 : Int32))]) (rest := []) (lenOf own_pd0 rfl) rfl (by show 2 * 0 + _ ≤ _; exact Nat.le_of_eq rfl) (hb hby d4_9) (fun _ _ => ⟨rfl, e1, (by decide : 1 + 0 ≤ _), (by decide : 1 + 0 ≤ _)⟩)
  dsimp only [Pt.U, Pt.locs, Pt.cells, Pt.slots] at X4 l4 y4 z4 st4 hQ4
  subst l4 y4 z4
  obtain ⟨rfl, N4q, K4, po5⟩ := hQ4
  have f6 : Arv Z T4.heap r0 kc .char (1 : Int32) [(.int c0_)] (.int (0 : Int32)) := (f3.keep K4 (ninS ne2 nin0))
  have zs4 : n0 ≤ T4.heap.size := Nat.le_trans zs1 K4.1
  have kk4 : Keep h0 T4.heap [] := kk1.trans K4 (allS (Or.inr sz1) all0)
  have N4 := Fr.app N0 N4q
  refine own_go (T' := T4) (g' := (mkF m 12 #[.val (.ref r0), .val (.int (0 : Int32)), .val (.int (1 : Int32)), .val (.ref b1), .unset, .unset] [(.int (1 : Int32))])) (fun _ k => st4 _ k) ?_
  refine own_go (T' := T4) (g' := (mkF m 14 #[.val (.ref r0), .val (.int (0 : Int32)), .val (.int (1 : Int32)), .val (.ref b1), .val (.int (1 : Int32)), .unset] [])) (fun _ k => XS.istore X4.here hx rfl (hb hby d4_12) rfl (l' := #[.val (.ref r0), .val (.int (0 : Int32)), .val (.int (1 : Int32)), .val (.ref b1), .val (.int (1 : Int32)), .unset]) rfl k) ?_
  refine own_go (T' := T4) (g' := (mkF m 16 #[.val (.ref r0), .val (.int (0 : Int32)), .val (.int (1 : Int32)), .val (.ref b1), .val (.int (1 : Int32)), .unset] [(.int (1 : Int32))])) (fun _ k => XS.iload X4.here hx rfl (hb hby d4_14) rfl k) ?_
  refine own_go (T' := T4) (g' := (mkF m 17 #[.val (.ref r0), .val (.int (0 : Int32)), .val (.int (1 : Int32)), .val (.ref b1), .val (.int (1 : Int32)), .unset] [(.int (1 : Int32)), (.int (1 : Int32))])) (fun _ k => XS.iloadN X4.here hx rfl (hb hby d4_16) rfl k) ?_
  refine own_go (T' := T4) (g' := (mkF m 57 #[.val (.ref r0), .val (.int (0 : Int32)), .val (.int (1 : Int32)), .val (.ref b1), .val (.int (1 : Int32)), .unset] [])) (fun _ k => XS.icmpYes X4.here hx rfl (pc0 := 17) (pc' := 57) rfl (hb hby d4_17) rfl (XT.ii_eq_t (rfl : (1 : Int32) = (1 : Int32))) (by decide) (by decide) k) ?_
  refine own_go (T' := T4) (g' := (mkF m 58 #[.val (.ref r0), .val (.int (0 : Int32)), .val (.int (1 : Int32)), .val (.ref b1), .val (.int (1 : Int32)), .unset] [(.ref b1)])) (fun _ k => XS.aloadN X4.here hx rfl (hb hby d4_57) rfl rfl k) ?_
  exact own_ret X4 hx Bd.returns hlk rfl (Or.inr (Or.inr (Or.inr (Or.inr ⟨rfl, rfl, rfl⟩)))) (hb hby d4_58) rfl ⟨b1, k1, rfl, N4, kk4, sz1, po5⟩ (by decide) (by decide)
def own_cfa1 (r0 : Addr) (kb : ClassId) (v0 : Int32) : Int32 := (nar .byte ((((0 : Int32).toUInt32 >>> ((31 : Int32) &&& 31).toUInt32).toInt32).toInt8.toInt32))
theorem d6_0 : decode jdk_52_method_15_code 0 = .ok (.iload_n 1, 1) := by decide +kernel
theorem d6_1 : decode jdk_52_method_15_code 1 = .ok (.aload_n 0, 1) := by decide +kernel
theorem d6_2 : decode jdk_52_method_15_code 2 = .ok (.arraylength, 1) := by decide +kernel
theorem d6_3 : decode jdk_52_method_15_code 3 = .ok (.isub, 1) := by decide +kernel
theorem d6_4 : decode jdk_52_method_15_code 4 = .ok (.bipush 31, 2) := by decide +kernel
theorem d6_6 : decode jdk_52_method_15_code 6 = .ok (.iushr, 1) := by decide +kernel
theorem d6_7 : decode jdk_52_method_15_code 7 = .ok (.i2b, 1) := by decide +kernel
theorem d6_8 : decode jdk_52_method_15_code 8 = .ok (.ireturn, 1) := by decide +kernel
def Q_rmCf_1 (Z : State) (r0 : Addr) (kb : ClassId) (v0 : Int32) (h0 : Heap) (n0 : Nat) (v : Option Value) (h : Heap) (L : List Loc) : Prop := v = some (.int (own_cfa1 r0 kb v0)) ∧ Fr n0 L ∧ h = h0
theorem ef_rmCf_1 (m : MethodId) (x0 : Addr) (x1 : Int32) : entryFrame m #[(.ref x0), (.int x1)] 2 = mkF m 0 #[.val (.ref x0), .val (.int x1)] [] := by first | (simp [entryFrame, mkF, argsToLocals, Value.category]; done) | rfl
theorem pn_rmCf_1 : plainName "java/lang/StringUTF16" = true := by first | (simp [plainName, overriddenIn]; done) | decide +kernel
set_option maxRecDepth 65536 in
set_option maxHeartbeats 40000000 in
theorem rmCf_1 (l : Launch) (Z : State) (a0 : Array Value) (hw : ∀ d ∈ tables_1, d.before a0 Z = true) (ws : List Jvm.Cond) (r0 : Addr) (kb : ClassId) (v0 : Int32) (h0 : Heap) (n0 : Nat) (Z0 : n0 ≤ h0.size) (hp0 : Arv Z h0 r0 kb .byte (1 : Int32) [(.int v0)] (.int (0 : Int32))) :
    MetFree l (⟨"java/lang/StringUTF16", "coderFromArrayLen", "([BI)B"⟩ : MethodName) (head1 (Jvm.Cond.code (⟨"java/lang/StringUTF16", "coderFromArrayLen", "([BI)B"⟩ : MethodName) jdk_52_method_15_code 2 (some .byte) :: ws) ({ frames := 0, cells := 0, slots := 0, locals := 0 } : Room)) (fun a U => a = #[(.ref r0), (.int (1 : Int32))] ∧ Z.Warmed39 U.vm ∧ U.heap = h0) (fun _ _ _ _ _ => True) (fun _ U o U' => ∃ v L, o = .returned v ∧ Q_rmCf_1 Z r0 kb v0 h0 n0 v U'.heap L ∧ FrameEnd U o U' L ({ frames := 0, cells := 0, slots := 0, locals := 0 } : Room).cells ({ frames := 0, cells := 0, slots := 0, locals := 0 } : Room).slots) := by
  refine MetFree.of_bodySF (plainFor_of_name pn_rmCf_1) hisR ?_
  intro p e s m args below meth c s₁ Bd hml0 hP hK
  obtain ⟨rfl, hZ, hh⟩ := hP
  have hx := Bd.exec
  have hby := Bd.bytes
  have hml : c.maxLocals = 2 := hml0
  have hown : s.vm.findClass "java/lang/StringUTF16" = some m.cls := findClass_of_methodNamed Bd.named
  have hnm := (name_of_methodNamed Bd.named Bd.method).1
  have hlk : meth.locks = false := BodyLoose.notSynchronized Bd
  have X0 : Stand p l e ({ frames := 0, cells := 0, slots := 0, locals := 0 } : Room) s m #[(.ref r0), (.int (1 : Int32))] below meth c s₁ [] 0 0 := Stand.of_body Bd
  have e0 : s₁.heap = h0 := by rw [← hh, Bd.state]; rfl
  have N0 := Fr.nil n0
  show own_W p e below s (Q_rmCf_1 Z r0 kb v0 h0 n0) 0 0 s₁ (entryFrame m #[(.ref r0), (.int (1 : Int32))] 2)
  skip
  skip
  refine own_go (T' := s₁) (g' := (mkF m 0 #[.val (.ref r0), .val (.int (1 : Int32))] [])) (fun _ k => castTop (ef_rmCf_1 m r0 (1 : Int32)) k) ?_
  refine own_go (T' := s₁) (g' := (mkF m 1 #[.val (.ref r0), .val (.int (1 : Int32))] [(.int (1 : Int32))])) (fun _ k => XS.iloadN X0.here hx rfl (hb hby d6_0) rfl k) ?_
  refine own_go (T' := s₁) (g' := (mkF m 2 #[.val (.ref r0), .val (.int (1 : Int32))] [(.ref r0), (.int (1 : Int32))])) (fun _ k => XS.aloadN X0.here hx rfl (hb hby d6_1) rfl rfl k) ?_
  obtain ⟨cl1, Ar1, q11, q21, q31, H1, G1⟩ := id hp0
  have st1 := X0.arraylength hx (by rw [e0]; exact Ar1.1) (State.isArrayOf_alike hZ.alike Ar1.2.1) (g := (mkF m 2 #[.val (.ref r0), .val (.int (1 : Int32))] [(.ref r0), (.int (1 : Int32))])) rfl rfl (hb hby d6_2)
  rw [len_of q21 q31] at st1
  refine own_go (T' := s₁) (g' := (mkF m 3 #[.val (.ref r0), .val (.int (1 : Int32))] [(.int (1 : Int32)), (.int (1 : Int32))])) (fun _ k => st1 _ k) ?_
  refine own_go (T' := s₁) (g' := (mkF m 4 #[.val (.ref r0), .val (.int (1 : Int32))] [(.int (0 : Int32))])) (fun _ k => XS.isub X0.here hx rfl (hb hby d6_3) rfl k) ?_
  refine own_go (T' := s₁) (g' := (mkF m 6 #[.val (.ref r0), .val (.int (1 : Int32))] [(.int (31 : Int32)), (.int (0 : Int32))])) (fun _ k => XS.bipush X0.here hx rfl (hb hby d6_4) k) ?_
  refine own_go (T' := s₁) (g' := (mkF m 7 #[.val (.ref r0), .val (.int (1 : Int32))] [(.int (((0 : Int32).toUInt32 >>> ((31 : Int32) &&& 31).toUInt32).toInt32))])) (fun _ k => XS.iushr X0.here hx rfl (hb hby d6_6) rfl k) ?_
  refine own_go (T' := s₁) (g' := (mkF m 8 #[.val (.ref r0), .val (.int (1 : Int32))] [(.int ((((0 : Int32).toUInt32 >>> ((31 : Int32) &&& 31).toUInt32).toInt32).toInt8.toInt32))])) (fun _ k => XT.i2b X0.here hx rfl (hb hby d6_7) rfl k) ?_
  exact own_retN X0 hx (t := .byte) Bd.returns hlk (by simp) (hb hby d6_8) e0 ⟨(by unfold own_cfa1; first | rfl | done), N0, rfl⟩ (by decide) (by decide)
theorem own_pd1 : parseMethodDescriptor "([CII)[B" = some ⟨[(.array .char), .int, .int], some (.array .byte)⟩ := by decide +kernel
theorem own_pd2 : parseMethodDescriptor "([BI)B" = some ⟨[(.array .byte), .int], some .byte⟩ := by decide +kernel
theorem d2_0 : decode jdk_42_method_149_code 0 = .ok (.aload_n 0, 1) := by decide +kernel
theorem d2_1 : decode jdk_42_method_149_code 1 = .ok (.invokespecial 1, 3) := by decide +kernel
theorem d2_4 : decode jdk_42_method_149_code 4 = .ok (.iload_n 3, 1) := by decide +kernel
theorem d2_5 : decode jdk_42_method_149_code 5 = .ok (.ifCond .ne 22, 3) := by decide +kernel
theorem d2_27 : decode jdk_42_method_149_code 27 = .ok (.getstatic 38, 3) := by decide +kernel
theorem d2_30 : decode jdk_42_method_149_code 30 = .ok (.ifCond .eq 28, 3) := by decide +kernel
theorem d2_33 : decode jdk_42_method_149_code 33 = .ok (.aload_n 1, 1) := by decide +kernel
theorem d2_34 : decode jdk_42_method_149_code 34 = .ok (.iload_n 2, 1) := by decide +kernel
theorem d2_35 : decode jdk_42_method_149_code 35 = .ok (.iload_n 3, 1) := by decide +kernel
theorem d2_36 : decode jdk_42_method_149_code 36 = .ok (.invokestatic 177, 3) := by decide +kernel
theorem d2_39 : decode jdk_42_method_149_code 39 = .ok (.astore 5, 2) := by decide +kernel
theorem d2_41 : decode jdk_42_method_149_code 41 = .ok (.aload_n 0, 1) := by decide +kernel
theorem d2_42 : decode jdk_42_method_149_code 42 = .ok (.aload 5, 2) := by decide +kernel
theorem d2_44 : decode jdk_42_method_149_code 44 = .ok (.iload_n 3, 1) := by decide +kernel
theorem d2_45 : decode jdk_42_method_149_code 45 = .ok (.invokestatic 47, 3) := by decide +kernel
theorem d2_48 : decode jdk_42_method_149_code 48 = .ok (.putfield 15, 3) := by decide +kernel
theorem d2_51 : decode jdk_42_method_149_code 51 = .ok (.aload_n 0, 1) := by decide +kernel
theorem d2_52 : decode jdk_42_method_149_code 52 = .ok (.aload 5, 2) := by decide +kernel
theorem d2_54 : decode jdk_42_method_149_code 54 = .ok (.putfield 9, 3) := by decide +kernel
theorem d2_57 : decode jdk_42_method_149_code 57 = .ok (.return_, 1) := by decide +kernel
def Q_rmS4_1 (Z : State) (r0 : Addr) (r1 : Addr) (kc : ClassId) (c0_ : Int32) (cs : Int32) (h0 : Heap) (n0 : Nat) (v : Option Value) (h : Heap) (L : List Loc) : Prop := ∃ (xb : Addr) (xk : ClassId), v = none ∧ Fr n0 L ∧ Keep h0 h [r0] ∧ h0.size ≤ xb ∧ Fld Z h r0 "java/lang/String" "value" "[B" (.ref xb) ∧ Fld Z h r0 "java/lang/String" "coder" "B" (.int (0 : Int32)) ∧ Arv Z h xb xk .byte (1 : Int32) [(.int (nar .byte (c0_.toInt8.toInt32)))] (.int (0 : Int32))
theorem ef_rmS4_1 (m : MethodId) (x0 : Addr) (x1 : Addr) (x2 : Int32) (x3 : Int32) : entryFrame m #[(.ref x0), (.ref x1), (.int x2), (.int x3), .null] 6 = mkF m 0 #[.val (.ref x0), .val (.ref x1), .val (.int x2), .val (.int x3), .val .null, .unset] [] := by first | (simp [entryFrame, mkF, argsToLocals, Value.category]; done) | rfl
theorem pn_rmS4_1 : plainName "java/lang/String" = true := by first | (simp [plainName, overriddenIn]; done) | decide +kernel
set_option maxRecDepth 65536 in
set_option maxHeartbeats 40000000 in
theorem rmS4_1 (l : Launch) (Z : State) (a0 : Array Value) (hw : ∀ d ∈ tables_1, d.before a0 Z = true) (ws : List Jvm.Cond) (r0 : Addr) (r1 : Addr) (kc : ClassId) (c0_ : Int32) (cs : Int32) (h0 : Heap) (n0 : Nat) (Z0 : n0 ≤ h0.size) (hp0 : Exa Z h0 r0 "java/lang/String") (hp1 : n0 ≤ r0) (hp2 : Fld Z h0 r0 "java/lang/String" "value" "[B" .null) (hp3 : Fld Z h0 r0 "java/lang/String" "coder" "B" (.int (0 : Int32))) (hp4 : Arv Z h0 r1 kc .char (1 : Int32) [(.int c0_)] (.int (0 : Int32))) (hp5 : Sta Z h0 "java/lang/String" "COMPACT_STRINGS" "Z" (.int cs)) (hh0 : ¬ cs = (0 : Int32)) (hh1 : ¬ (255 : Int32) < c0_) :
    MetFree l (⟨"java/lang/String", "<init>", "([CIILjava/lang/Void;)V"⟩ : MethodName) (head1 (Jvm.Cond.code (⟨"java/lang/String", "<init>", "([CIILjava/lang/Void;)V"⟩ : MethodName) jdk_42_method_149_code 6 none :: ws) ({ frames := 2, cells := 1, slots := 1, locals := 60 } : Room)) (fun a U => a = #[(.ref r0), (.ref r1), (.int (0 : Int32)), (.int (1 : Int32)), .null] ∧ Z.Warmed39 U.vm ∧ U.heap = h0) (fun _ _ _ _ _ => True) (fun _ U o U' => ∃ v L, o = .returned v ∧ Q_rmS4_1 Z r0 r1 kc c0_ cs h0 n0 v U'.heap L ∧ FrameEnd U o U' L ({ frames := 2, cells := 1, slots := 1, locals := 60 } : Room).cells ({ frames := 2, cells := 1, slots := 1, locals := 60 } : Room).slots) := by
  refine MetFree.of_bodySF (plainFor_of_name pn_rmS4_1) hisR ?_
  intro p e s m args below meth c s₁ Bd hml0 hP hK
  obtain ⟨rfl, hZ, hh⟩ := hP
  have hx := Bd.exec
  have hby := Bd.bytes
  have hml : c.maxLocals = 6 := hml0
  have hown : s.vm.findClass "java/lang/String" = some m.cls := findClass_of_methodNamed Bd.named
  have hnm := (name_of_methodNamed Bd.named Bd.method).1
  have hlk : meth.locks = false := BodyLoose.notSynchronized Bd
  have X0 : Stand p l e ({ frames := 2, cells := 1, slots := 1, locals := 60 } : Room) s m #[(.ref r0), (.ref r1), (.int (0 : Int32)), (.int (1 : Int32)), .null] below meth c s₁ [] 0 0 := Stand.of_body Bd
  have e0 : s₁.heap = h0 := by rw [← hh, Bd.state]; rfl
  have N0 := Fr.nil n0
  show own_W p e below s (Q_rmS4_1 Z r0 r1 kc c0_ cs h0 n0) 1 1 s₁ (entryFrame m #[(.ref r0), (.ref r1), (.int (0 : Int32)), (.int (1 : Int32)), .null] 6)
  skip
  skip
  refine own_go (T' := s₁) (g' := (mkF m 0 #[.val (.ref r0), .val (.ref r1), .val (.int (0 : Int32)), .val (.int (1 : Int32)), .val .null, .unset] [])) (fun _ k => castTop (ef_rmS4_1 m r0 r1 (0 : Int32) (1 : Int32)) k) ?_
  refine own_go (T' := s₁) (g' := (mkF m 1 #[.val (.ref r0), .val (.ref r1), .val (.int (0 : Int32)), .val (.int (1 : Int32)), .val .null, .unset] [(.ref r0)])) (fun _ k => XS.aloadN X0.here hx rfl (hb hby d2_0) rfl rfl k) ?_
  obtain ⟨T1, X1, e1, st1⟩ := initO X0 hx hZ hown (hw _ (List.mem_of_getElem? (i := 12) rfl)) (hw _ (List.mem_of_getElem? (i := 13) rfl)) (hw _ (List.mem_of_getElem? (i := 14) rfl)) e0 (g := (mkF m 1 #[.val (.ref r0), .val (.ref r1), .val (.int (0 : Int32)), .val (.int (1 : Int32)), .val .null, .unset] [(.ref r0)])) rfl (by rw [hml]; rfl) rfl (hb hby d2_1) (by decide) (W := 0) (by show 2 * 0 + _ ≤ _; exact Nat.le_of_eq rfl) (by decide)
  refine own_go (T' := T1) (g' := (mkF m 4 #[.val (.ref r0), .val (.ref r1), .val (.int (0 : Int32)), .val (.int (1 : Int32)), .val .null, .unset] [])) (fun _ k => st1 _ k) ?_
  refine own_go (T' := T1) (g' := (mkF m 5 #[.val (.ref r0), .val (.ref r1), .val (.int (0 : Int32)), .val (.int (1 : Int32)), .val .null, .unset] [(.int (1 : Int32))])) (fun _ k => XS.iloadN X1.here hx rfl (hb hby d2_4) rfl k) ?_
  refine own_go (T' := T1) (g' := (mkF m 27 #[.val (.ref r0), .val (.ref r1), .val (.int (0 : Int32)), .val (.int (1 : Int32)), .val .null, .unset] [])) (fun _ k => XS.ifYes X1.here hx rfl (pc0 := 5) (pc' := 27) rfl (hb hby d2_5) rfl (XT.i0_ne_t (by decide : ¬ ((1 : Int32) = (0 : Int32)))) (by decide) (by decide) k) ?_
  obtain ⟨T2, X2, e2, st2⟩ := getS2 X1 hx hZ hown (host := "") (Or.inl (hw _ (List.mem_of_getElem? (i := 15) rfl))) Via.refl e1 hp5 (g := (mkF m 27 #[.val (.ref r0), .val (.ref r1), .val (.int (0 : Int32)), .val (.int (1 : Int32)), .val .null, .unset] [])) rfl (hb hby d2_27)
  refine own_go (T' := T2) (g' := (mkF m 30 #[.val (.ref r0), .val (.ref r1), .val (.int (0 : Int32)), .val (.int (1 : Int32)), .val .null, .unset] [(.int cs)])) (fun _ k => st2 _ k) ?_
  refine own_go (T' := T2) (g' := (mkF m 33 #[.val (.ref r0), .val (.ref r1), .val (.int (0 : Int32)), .val (.int (1 : Int32)), .val .null, .unset] [])) (fun _ k => XS.ifNo X2.here hx rfl (hb hby d2_30) rfl (XT.i0_eq_f hh0) k) ?_
  refine own_go (T' := T2) (g' := (mkF m 34 #[.val (.ref r0), .val (.ref r1), .val (.int (0 : Int32)), .val (.int (1 : Int32)), .val .null, .unset] [(.ref r1)])) (fun _ k => XS.aloadN X2.here hx rfl (hb hby d2_33) rfl rfl k) ?_
  refine own_go (T' := T2) (g' := (mkF m 35 #[.val (.ref r0), .val (.ref r1), .val (.int (0 : Int32)), .val (.int (1 : Int32)), .val .null, .unset] [(.int (0 : Int32)), (.ref r1)])) (fun _ k => XS.iloadN X2.here hx rfl (hb hby d2_34) rfl k) ?_
  refine own_go (T' := T2) (g' := (mkF m 36 #[.val (.ref r0), .val (.ref r1), .val (.int (0 : Int32)), .val (.int (1 : Int32)), .val .null, .unset] [(.int (1 : Int32)), (.int (0 : Int32)), (.ref r1)])) (fun _ k => XS.iloadN X2.here hx rfl (hb hby d2_35) rfl k) ?_
  obtain ⟨_, _, ⟨T3, L3, k3, n3⟩, -, X3, ⟨Lc3, hQ3, l3, y3, z3⟩, st3⟩ := Jvm.LawKit.callS X2 hx (y := (⟨"java/lang/StringUTF16", "compress", "([CII)[B"⟩ : MethodName)) hown (mvT hZ (hw _ (List.mem_of_getElem? (i := 16) rfl))) (mvT hZ (hw _ (List.mem_of_getElem? (i := 17) rfl))) (mvT hZ (hw _ (List.mem_of_getElem? (i := 18) rfl))) (mvT hZ (hw _ (List.mem_of_getElem? (i := 19) rfl))) (by decide) (backOf (W := 0) (rmC3_1 l Z a0 hw [] r1 kc c0_ h0 n0 Z0 hp4 hh1) hZ (hw _ (List.mem_of_getElem? (i := 19) rfl)) (hw _ (List.mem_of_getElem? (i := 18) rfl)) (by decide) (by decide)) (g := (mkF m 36 #[.val (.ref r0), .val (.ref r1), .val (.int (0 : Int32)), .val (.int (1 : Int32)), .val .null, .unset] [(.int (1 : Int32)), (.int (0 : Int32)), (.ref r1)])) rfl (by rw [hml]; rfl) (argsL := [(.ref r1), (.int (0 : Int32)), (.int (1 : Int32))]) (rest := []) (lenOf own_pd1 rfl) rfl (by show 2 * 0 + _ ≤ _; exact Nat.le_of_eq rfl) (hb hby d2_36) (fun _ _ => ⟨rfl, e2, (by decide : 0 + 1 ≤ _), (by decide : 0 + 1 ≤ _)⟩)
  dsimp only [Pt.U, Pt.locs, Pt.cells, Pt.slots] at X3 l3 y3 z3 st3 hQ3
  subst l3 y3 z3
  obtain ⟨xb_3, xk_3, rfl, N3q, K3, po4, po5⟩ := hQ3
  have f6 : Exa Z T3.heap r0 "java/lang/String" := (hp0.keep K3)
  have f7 : Fld Z T3.heap r0 "java/lang/String" "value" "[B" .null := (hp2.keep K3 nin0)
  have f8 : Fld Z T3.heap r0 "java/lang/String" "coder" "B" (.int (0 : Int32)) := (hp3.keep K3 nin0)
  have f9 : Arv Z T3.heap r1 kc .char (1 : Int32) [(.int c0_)] (.int (0 : Int32)) := (hp4.keep K3 nin0)
  have f10 : Sta Z T3.heap "java/lang/String" "COMPACT_STRINGS" "Z" (.int cs) := (own_sta_keep hp5 K3 ns0)
  have ne11 : r0 ≠ xb_3 := Nat.ne_of_lt (Nat.lt_of_lt_of_le hp0.lt po4)
  have ne12 : r1 ≠ xb_3 := Nat.ne_of_lt (Nat.lt_of_lt_of_le hp4.lt po4)
  have ge13 : n0 ≤ xb_3 := Nat.le_trans Z0 po4
  have sz14 : h0.size ≤ xb_3 := Nat.le_trans (Keep.refl h0 [r0]).1 po4
  have zs3 : n0 ≤ T3.heap.size := Nat.le_trans Z0 K3.1
  have kk3 : Keep h0 T3.heap [r0] := (Keep.refl h0 [r0]).trans K3 all0
  have N3 := Fr.app N0 N3q
  refine own_go (T' := T3) (g' := (mkF m 39 #[.val (.ref r0), .val (.ref r1), .val (.int (0 : Int32)), .val (.int (1 : Int32)), .val .null, .unset] [(.ref xb_3)])) (fun _ k => st3 _ k) ?_
  refine own_go (T' := T3) (g' := (mkF m 41 #[.val (.ref r0), .val (.ref r1), .val (.int (0 : Int32)), .val (.int (1 : Int32)), .val .null, .val (.ref xb_3)] [])) (fun _ k => XS.astore X3.here hx rfl (hb hby d2_39) rfl rfl (l' := #[.val (.ref r0), .val (.ref r1), .val (.int (0 : Int32)), .val (.int (1 : Int32)), .val .null, .val (.ref xb_3)]) rfl k) ?_
  refine own_go (T' := T3) (g' := (mkF m 42 #[.val (.ref r0), .val (.ref r1), .val (.int (0 : Int32)), .val (.int (1 : Int32)), .val .null, .val (.ref xb_3)] [(.ref r0)])) (fun _ k => XS.aloadN X3.here hx rfl (hb hby d2_41) rfl rfl k) ?_
  refine own_go (T' := T3) (g' := (mkF m 44 #[.val (.ref r0), .val (.ref r1), .val (.int (0 : Int32)), .val (.int (1 : Int32)), .val .null, .val (.ref xb_3)] [(.ref xb_3), (.ref r0)])) (fun _ k => XS.aload X3.here hx rfl (hb hby d2_42) rfl rfl k) ?_
  refine own_go (T' := T3) (g' := (mkF m 45 #[.val (.ref r0), .val (.ref r1), .val (.int (0 : Int32)), .val (.int (1 : Int32)), .val .null, .val (.ref xb_3)] [(.int (1 : Int32)), (.ref xb_3), (.ref r0)])) (fun _ k => XS.iloadN X3.here hx rfl (hb hby d2_44) rfl k) ?_
  obtain ⟨_, _, ⟨T15, L15, k15, n15⟩, -, X15, ⟨Lc15, hQ15, l15, y15, z15⟩, st15⟩ := Jvm.LawKit.callS X3 hx (y := (⟨"java/lang/StringUTF16", "coderFromArrayLen", "([BI)B"⟩ : MethodName)) hown (mvT hZ (hw _ (List.mem_of_getElem? (i := 24) rfl))) (mvT hZ (hw _ (List.mem_of_getElem? (i := 25) rfl))) (mvT hZ (hw _ (List.mem_of_getElem? (i := 18) rfl))) (mvT hZ (hw _ (List.mem_of_getElem? (i := 26) rfl))) (by decide) (backOf (W := 1) (rmCf_1 l Z a0 hw [] xb_3 xk_3 (nar .byte (c0_.toInt8.toInt32)) T3.heap n0 zs3 po5) hZ (hw _ (List.mem_of_getElem? (i := 26) rfl)) (hw _ (List.mem_of_getElem? (i := 18) rfl)) (by decide) (by decide)) (g := (mkF m 45 #[.val (.ref r0), .val (.ref r1), .val (.int (0 : Int32)), .val (.int (1 : Int32)), .val .null, .val (.ref xb_3)] [(.int (1 : Int32)), (.ref xb_3), (.ref r0)])) rfl (by rw [hml]; rfl) (argsL := [(.ref xb_3), (.int (1 : Int32))]) (rest := [(.ref r0)]) (lenOf own_pd2 rfl) rfl (by show 2 * 0 + _ ≤ _; exact Nat.le_of_eq rfl) (hb hby d2_45) (fun _ _ => ⟨rfl, rfl, (by decide : 1 + 0 ≤ _), (by decide : 1 + 0 ≤ _)⟩)
  dsimp only [Pt.U, Pt.locs, Pt.cells, Pt.slots] at X15 l15 y15 z15 st15 hQ15
  subst l15 y15 z15
  obtain ⟨rfl, N15q, e15⟩ := hQ15
  have N15 := Fr.app N3 N15q
  refine own_go (T' := T15) (g' := (mkF m 48 #[.val (.ref r0), .val (.ref r1), .val (.int (0 : Int32)), .val (.int (1 : Int32)), .val .null, .val (.ref xb_3)] [(.int (own_cfa1 xb_3 xk_3 (nar .byte (c0_.toInt8.toInt32)))), (.ref r0)])) (fun _ k => st15 _ k) ?_
  obtain ⟨T16, h16, X16, e16, W16, st16⟩ := putFN X15 hx hZ hown (hw _ (List.mem_of_getElem? (i := 27) rfl)) Via.refl e15 f8 f6 (Or.inr ⟨(hw _ (List.mem_of_getElem? (i := 28) rfl)), rfl, hnm⟩) (hw _ (List.mem_of_getElem? (i := 2) rfl)) (ty := .byte) (v' := (.int (nar .byte (own_cfa1 xb_3 xk_3 (nar .byte (c0_.toInt8.toInt32)))))) (by decide) rfl (fits_nar_byte _) (g := (mkF m 48 #[.val (.ref r0), .val (.ref r1), .val (.int (0 : Int32)), .val (.int (1 : Int32)), .val .null, .val (.ref xb_3)] [(.int (own_cfa1 xb_3 xk_3 (nar .byte (c0_.toInt8.toInt32)))), (.ref r0)])) rfl rfl (hb hby d2_48)
  have f17 : Exa Z h16 r0 "java/lang/String" := (f6.wr W16)
  have f18 : Fld Z h16 r0 "java/lang/String" "value" "[B" .null := (f7.other W16 (Or.inr (slot_ne (Or.inr (hw _ (List.mem_of_getElem? (i := 30) rfl))) (Or.inr (hw _ (List.mem_of_getElem? (i := 28) rfl))) (by decide) (t := (.array .byte)) (t' := .byte) (by decide) (by decide))))
  have f19 : Sta Z h16 "java/lang/String" "COMPACT_STRINGS" "Z" (.int cs) := (f10.wr W16)
  have f20 : Arv Z h16 xb_3 xk_3 .byte (1 : Int32) [(.int (nar .byte (c0_.toInt8.toInt32)))] (.int (0 : Int32)) := (po5.other W16 (Ne.symm ne11))
  have fw16 : Fld Z h16 r0 "java/lang/String" "coder" "B" (.int (nar .byte (own_cfa1 xb_3 xk_3 (nar .byte (c0_.toInt8.toInt32))))) := f8.same W16
  have N16 := Fr.snoc X16 N15 hp1
  have zs16 : n0 ≤ h16.size := by rw [W16.size]; exact zs3
  have kk16 : Keep h0 h16 [r0] := kk3.wr W16 (Or.inl (List.mem_of_getElem? (i := 0) rfl))
  refine own_go (T' := T16) (g' := (mkF m 51 #[.val (.ref r0), .val (.ref r1), .val (.int (0 : Int32)), .val (.int (1 : Int32)), .val .null, .val (.ref xb_3)] [])) (fun _ k => st16 _ k) ?_
  have fr21 : Fld Z h16 r0 "java/lang/String" "coder" "B" (.int (0 : Int32)) := (show ((nar .byte (own_cfa1 xb_3 xk_3 (nar .byte (c0_.toInt8.toInt32)))) : Int32) = (0 : Int32) from (by unfold own_cfa1; decide)) ▸ fw16
  refine own_go (T' := T16) (g' := (mkF m 52 #[.val (.ref r0), .val (.ref r1), .val (.int (0 : Int32)), .val (.int (1 : Int32)), .val .null, .val (.ref xb_3)] [(.ref r0)])) (fun _ k => XS.aloadN X16.here hx rfl (hb hby d2_51) rfl rfl k) ?_
  refine own_go (T' := T16) (g' := (mkF m 54 #[.val (.ref r0), .val (.ref r1), .val (.int (0 : Int32)), .val (.int (1 : Int32)), .val .null, .val (.ref xb_3)] [(.ref xb_3), (.ref r0)])) (fun _ k => XS.aload X16.here hx rfl (hb hby d2_52) rfl rfl k) ?_
  obtain ⟨T22, h22, X22, e22, W22, st22⟩ := putF X16 hx hZ hown (host := "") (Or.inl (hw _ (List.mem_of_getElem? (i := 29) rfl))) Via.refl e16 f18 f17 (Or.inr ⟨(hw _ (List.mem_of_getElem? (i := 30) rfl)), rfl, hnm⟩) (hw _ (List.mem_of_getElem? (i := 2) rfl)) (ty := (.array .byte)) (by decide) rfl rfl (g := (mkF m 54 #[.val (.ref r0), .val (.ref r1), .val (.int (0 : Int32)), .val (.int (1 : Int32)), .val .null, .val (.ref xb_3)] [(.ref xb_3), (.ref r0)])) rfl rfl (hb hby d2_54)
  have f23 : Exa Z h22 r0 "java/lang/String" := (f17.wr W22)
  have f24 : Sta Z h22 "java/lang/String" "COMPACT_STRINGS" "Z" (.int cs) := (f19.wr W22)
  have f25 : Arv Z h22 xb_3 xk_3 .byte (1 : Int32) [(.int (nar .byte (c0_.toInt8.toInt32)))] (.int (0 : Int32)) := (f20.other W22 (Ne.symm ne11))
  have f26 : Fld Z h22 r0 "java/lang/String" "coder" "B" (.int (0 : Int32)) := (fr21.other W22 (Or.inr (slot_ne (Or.inr (hw _ (List.mem_of_getElem? (i := 28) rfl))) (Or.inr (hw _ (List.mem_of_getElem? (i := 30) rfl))) (by decide) (t := .byte) (t' := (.array .byte)) (by decide) (by decide))))
  have fw22 : Fld Z h22 r0 "java/lang/String" "value" "[B" (.ref xb_3) := f18.same W22
  have N22 := Fr.snoc X22 N16 hp1
  have zs22 : n0 ≤ h22.size := by rw [W22.size]; exact zs16
  have kk22 : Keep h0 h22 [r0] := kk16.wr W22 (Or.inl (List.mem_of_getElem? (i := 0) rfl))
  refine own_go (T' := T22) (g' := (mkF m 57 #[.val (.ref r0), .val (.ref r1), .val (.int (0 : Int32)), .val (.int (1 : Int32)), .val .null, .val (.ref xb_3)] [])) (fun _ k => st22 _ k) ?_
  exact own_ret0 X22 hx Bd.returns hlk (hb hby d2_57) e22 ⟨xb_3, xk_3, rfl, N22, kk22, sz14, fw22, f26, f25⟩ (by decide) (by decide)
theorem own_pd3 : parseMethodDescriptor "([CIILjava/lang/Void;)V" = some ⟨[(.array .char), .int, .int, (.object "java/lang/Void")], none⟩ := by decide +kernel
theorem d1_0 : decode jdk_42_method_3_code 0 = .ok (.aload_n 0, 1) := by decide +kernel
theorem d1_1 : decode jdk_42_method_3_code 1 = .ok (.aload_n 1, 1) := by decide +kernel
theorem d1_2 : decode jdk_42_method_3_code 2 = .ok (.iconst 0, 1) := by decide +kernel
theorem d1_3 : decode jdk_42_method_3_code 3 = .ok (.aload_n 1, 1) := by decide +kernel
theorem d1_4 : decode jdk_42_method_3_code 4 = .ok (.arraylength, 1) := by decide +kernel
theorem d1_5 : decode jdk_42_method_3_code 5 = .ok (.aconst_null, 1) := by decide +kernel
theorem d1_6 : decode jdk_42_method_3_code 6 = .ok (.invokespecial 27, 3) := by decide +kernel
theorem d1_9 : decode jdk_42_method_3_code 9 = .ok (.return_, 1) := by decide +kernel
def Q_rmS1_1 (Z : State) (r0 : Addr) (r1 : Addr) (kc : ClassId) (c0_ : Int32) (cs : Int32) (h0 : Heap) (n0 : Nat) (v : Option Value) (h : Heap) (L : List Loc) : Prop := ∃ (xb : Addr) (xk : ClassId), v = none ∧ Fr n0 L ∧ Keep h0 h [r0] ∧ h0.size ≤ xb ∧ Fld Z h r0 "java/lang/String" "value" "[B" (.ref xb) ∧ Fld Z h r0 "java/lang/String" "coder" "B" (.int (0 : Int32)) ∧ Arv Z h xb xk .byte (1 : Int32) [(.int (nar .byte (c0_.toInt8.toInt32)))] (.int (0 : Int32))
theorem ef_rmS1_1 (m : MethodId) (x0 : Addr) (x1 : Addr) : entryFrame m #[(.ref x0), (.ref x1)] 2 = mkF m 0 #[.val (.ref x0), .val (.ref x1)] [] := by first | (simp [entryFrame, mkF, argsToLocals, Value.category]; done) | rfl
theorem pn_rmS1_1 : plainName "java/lang/String" = true := by first | (simp [plainName, overriddenIn]; done) | decide +kernel
set_option maxRecDepth 65536 in
set_option maxHeartbeats 40000000 in
theorem rmS1_1 (l : Launch) (Z : State) (a0 : Array Value) (hw : ∀ d ∈ tables_1, d.before a0 Z = true) (ws : List Jvm.Cond) (r0 : Addr) (r1 : Addr) (kc : ClassId) (c0_ : Int32) (cs : Int32) (h0 : Heap) (n0 : Nat) (Z0 : n0 ≤ h0.size) (hp0 : Exa Z h0 r0 "java/lang/String") (hp1 : n0 ≤ r0) (hp2 : Fld Z h0 r0 "java/lang/String" "value" "[B" .null) (hp3 : Fld Z h0 r0 "java/lang/String" "coder" "B" (.int (0 : Int32))) (hp4 : Arv Z h0 r1 kc .char (1 : Int32) [(.int c0_)] (.int (0 : Int32))) (hp5 : Sta Z h0 "java/lang/String" "COMPACT_STRINGS" "Z" (.int cs)) (hh0 : ¬ cs = (0 : Int32)) (hh1 : ¬ (255 : Int32) < c0_) :
    MetFree l (⟨"java/lang/String", "<init>", "([C)V"⟩ : MethodName) (head1 (Jvm.Cond.code (⟨"java/lang/String", "<init>", "([C)V"⟩ : MethodName) jdk_42_method_3_code 2 none :: ws) ({ frames := 3, cells := 1, slots := 1, locals := 80 } : Room)) (fun a U => a = #[(.ref r0), (.ref r1)] ∧ Z.Warmed39 U.vm ∧ U.heap = h0) (fun _ _ _ _ _ => True) (fun _ U o U' => ∃ v L, o = .returned v ∧ Q_rmS1_1 Z r0 r1 kc c0_ cs h0 n0 v U'.heap L ∧ FrameEnd U o U' L ({ frames := 3, cells := 1, slots := 1, locals := 80 } : Room).cells ({ frames := 3, cells := 1, slots := 1, locals := 80 } : Room).slots) := by
  refine MetFree.of_bodySF (plainFor_of_name pn_rmS1_1) hisR ?_
  intro p e s m args below meth c s₁ Bd hml0 hP hK
  obtain ⟨rfl, hZ, hh⟩ := hP
  have hx := Bd.exec
  have hby := Bd.bytes
  have hml : c.maxLocals = 2 := hml0
  have hown : s.vm.findClass "java/lang/String" = some m.cls := findClass_of_methodNamed Bd.named
  have hnm := (name_of_methodNamed Bd.named Bd.method).1
  have hlk : meth.locks = false := BodyLoose.notSynchronized Bd
  have X0 : Stand p l e ({ frames := 3, cells := 1, slots := 1, locals := 80 } : Room) s m #[(.ref r0), (.ref r1)] below meth c s₁ [] 0 0 := Stand.of_body Bd
  have e0 : s₁.heap = h0 := by rw [← hh, Bd.state]; rfl
  have N0 := Fr.nil n0
  show own_W p e below s (Q_rmS1_1 Z r0 r1 kc c0_ cs h0 n0) 1 1 s₁ (entryFrame m #[(.ref r0), (.ref r1)] 2)
  skip
  skip
  refine own_go (T' := s₁) (g' := (mkF m 0 #[.val (.ref r0), .val (.ref r1)] [])) (fun _ k => castTop (ef_rmS1_1 m r0 r1) k) ?_
  refine own_go (T' := s₁) (g' := (mkF m 1 #[.val (.ref r0), .val (.ref r1)] [(.ref r0)])) (fun _ k => XS.aloadN X0.here hx rfl (hb hby d1_0) rfl rfl k) ?_
  refine own_go (T' := s₁) (g' := (mkF m 2 #[.val (.ref r0), .val (.ref r1)] [(.ref r1), (.ref r0)])) (fun _ k => XS.aloadN X0.here hx rfl (hb hby d1_1) rfl rfl k) ?_
  refine own_go (T' := s₁) (g' := (mkF m 3 #[.val (.ref r0), .val (.ref r1)] [(.int (0 : Int32)), (.ref r1), (.ref r0)])) (fun _ k => XS.iconst X0.here hx rfl (hb hby d1_2) k) ?_
  refine own_go (T' := s₁) (g' := (mkF m 4 #[.val (.ref r0), .val (.ref r1)] [(.ref r1), (.int (0 : Int32)), (.ref r1), (.ref r0)])) (fun _ k => XS.aloadN X0.here hx rfl (hb hby d1_3) rfl rfl k) ?_
  obtain ⟨cl1, Ar1, q11, q21, q31, H1, G1⟩ := id hp4
  have st1 := X0.arraylength hx (by rw [e0]; exact Ar1.1) (State.isArrayOf_alike hZ.alike Ar1.2.1) (g := (mkF m 4 #[.val (.ref r0), .val (.ref r1)] [(.ref r1), (.int (0 : Int32)), (.ref r1), (.ref r0)])) rfl rfl (hb hby d1_4)
  rw [len_of q21 q31] at st1
  refine own_go (T' := s₁) (g' := (mkF m 5 #[.val (.ref r0), .val (.ref r1)] [(.int (1 : Int32)), (.int (0 : Int32)), (.ref r1), (.ref r0)])) (fun _ k => st1 _ k) ?_
  refine own_go (T' := s₁) (g' := (mkF m 6 #[.val (.ref r0), .val (.ref r1)] [.null, (.int (1 : Int32)), (.int (0 : Int32)), (.ref r1), (.ref r0)])) (fun _ k => XS.aconstNull X0.here hx rfl (hb hby d1_5) k) ?_
  obtain ⟨_, _, ⟨T2, L2, k2, n2⟩, -, X2, ⟨Lc2, hQ2, l2, y2, z2⟩, st2⟩ := X0.specialBack hx (y := (⟨"java/lang/String", "<init>", "([CIILjava/lang/Void;)V"⟩ : MethodName)) rfl hown (mvT hZ (hw _ (List.mem_of_getElem? (i := 8) rfl))) (mvT hZ (hw _ (List.mem_of_getElem? (i := 9) rfl))) (mvT hZ (hw _ (List.mem_of_getElem? (i := 11) rfl))) (by decide) (backOf (W := 0) (rmS4_1 l Z a0 hw [] r0 r1 kc c0_ cs h0 n0 Z0 hp0 hp1 hp2 hp3 hp4 hp5 hh0 hh1) hZ (hw _ (List.mem_of_getElem? (i := 11) rfl)) (hw _ (List.mem_of_getElem? (i := 3) rfl)) (by decide) (by decide)) (g := (mkF m 6 #[.val (.ref r0), .val (.ref r1)] [.null, (.int (1 : Int32)), (.int (0 : Int32)), (.ref r1), (.ref r0)])) rfl (by rw [hml]; rfl) (Steps.refl _) (a := r0) (argsL := [(.ref r1), (.int (0 : Int32)), (.int (1 : Int32)), .null]) (rest := []) (lenOf own_pd3 rfl) rfl (by show 2 * 0 + _ ≤ _; exact Nat.le_of_eq rfl) (hb hby d1_6) (fun _ _ => ⟨rfl, e0, (by decide : 0 + 1 ≤ _), (by decide : 0 + 1 ≤ _)⟩)
  dsimp only [Pt.U, Pt.locs, Pt.cells, Pt.slots] at X2 l2 y2 z2 st2 hQ2
  subst l2 y2 z2
  obtain ⟨xb_2, xk_2, rfl, N2q, K2, po3, po4, po5, po6⟩ := hQ2
  have f7 : Exa Z T2.heap r0 "java/lang/String" := (hp0.keep K2)
  have f8 : Sta Z T2.heap "java/lang/String" "COMPACT_STRINGS" "Z" (.int cs) := (own_sta_keep hp5 K2 (nsS hp0.nostat ns0))
  have ne9 : r0 ≠ xb_2 := Nat.ne_of_lt (Nat.lt_of_lt_of_le hp0.lt po3)
  have ne10 : r1 ≠ xb_2 := Nat.ne_of_lt (Nat.lt_of_lt_of_le hp4.lt po3)
  have ge11 : n0 ≤ xb_2 := Nat.le_trans Z0 po3
  have sz12 : h0.size ≤ xb_2 := Nat.le_trans (Keep.refl h0 [r0]).1 po3
  have zs2 : n0 ≤ T2.heap.size := Nat.le_trans Z0 K2.1
  have kk2 : Keep h0 T2.heap [r0] := (Keep.refl h0 [r0]).trans K2 (allS (Or.inl (List.mem_of_getElem? (i := 0) rfl)) all0)
  have N2 := Fr.app N0 N2q
  refine own_go (T' := T2) (g' := (mkF m 9 #[.val (.ref r0), .val (.ref r1)] [])) (fun _ k => st2.trans k) ?_
  exact own_ret0 X2 hx Bd.returns hlk (hb hby d1_9) rfl ⟨xb_2, xk_2, rfl, N2, kk2, sz12, po4, po5, po6⟩ (by decide) (by decide)
def Q_rmC5_2 (Z : State) (r0 : Addr) (r2 : Addr) (kc : ClassId) (c0_ : Int32) (c1_ : Int32) (kb : ClassId) (h0 : Heap) (n0 : Nat) (v : Option Value) (h : Heap) (L : List Loc) : Prop := v = some (.int (2 : Int32)) ∧ Fr n0 L ∧ Keep h0 h [r2] ∧ Arv Z h r2 kb .byte (2 : Int32) [(.int (nar .byte (c0_.toInt8.toInt32))), (.int (nar .byte (c1_.toInt8.toInt32)))] (.int (0 : Int32))
theorem ef_rmC5_2 (m : MethodId) (x0 : Addr) (x1 : Int32) (x2 : Addr) (x3 : Int32) (x4 : Int32) : entryFrame m #[(.ref x0), (.int x1), (.ref x2), (.int x3), (.int x4)] 7 = mkF m 0 #[.val (.ref x0), .val (.int x1), .val (.ref x2), .val (.int x3), .val (.int x4), .unset, .unset] [] := by first | (simp [entryFrame, mkF, argsToLocals, Value.category]; done) | rfl
theorem pn_rmC5_2 : plainName "java/lang/StringUTF16" = true := by first | (simp [plainName, overriddenIn]; done) | decide +kernel
set_option maxRecDepth 65536 in
set_option maxHeartbeats 40000000 in
theorem rmC5_2 (l : Launch) (Z : State) (a0 : Array Value) (hw : ∀ d ∈ tables_1, d.before a0 Z = true) (ws : List Jvm.Cond) (r0 : Addr) (r2 : Addr) (kc : ClassId) (c0_ : Int32) (c1_ : Int32) (kb : ClassId) (h0 : Heap) (n0 : Nat) (Z0 : n0 ≤ h0.size) (hp0 : Arv Z h0 r0 kc .char (2 : Int32) [(.int c0_), (.int c1_)] (.int (0 : Int32))) (hp1 : Arv Z h0 r2 kb .byte (2 : Int32) [(.int (0 : Int32)), (.int (0 : Int32))] (.int (0 : Int32))) (hp2 : n0 ≤ r2) (hp3 : r0 ≠ r2) (hh0 : ¬ (255 : Int32) < c0_) (hh1 : ¬ (255 : Int32) < c1_) :
    MetFree l (⟨"java/lang/StringUTF16", "compress", "([CI[BII)I"⟩ : MethodName) (head1 (Jvm.Cond.code (⟨"java/lang/StringUTF16", "compress", "([CI[BII)I"⟩ : MethodName) jdk_52_method_21_code 7 (some .int) :: ws) ({ frames := 0, cells := 0, slots := 0, locals := 0 } : Room)) (fun a U => a = #[(.ref r0), (.int (0 : Int32)), (.ref r2), (.int (0 : Int32)), (.int (2 : Int32))] ∧ Z.Warmed39 U.vm ∧ U.heap = h0) (fun _ _ _ _ _ => True) (fun _ U o U' => ∃ v L, o = .returned v ∧ Q_rmC5_2 Z r0 r2 kc c0_ c1_ kb h0 n0 v U'.heap L ∧ FrameEnd U o U' L ({ frames := 0, cells := 0, slots := 0, locals := 0 } : Room).cells ({ frames := 0, cells := 0, slots := 0, locals := 0 } : Room).slots) := by
  refine MetFree.of_bodySF (plainFor_of_name pn_rmC5_2) hisR ?_
  intro p e s m args below meth c s₁ Bd hml0 hP hK
  obtain ⟨rfl, hZ, hh⟩ := hP
  have hx := Bd.exec
  have hby := Bd.bytes
  have hml : c.maxLocals = 7 := hml0
  have hown : s.vm.findClass "java/lang/StringUTF16" = some m.cls := findClass_of_methodNamed Bd.named
  have hnm := (name_of_methodNamed Bd.named Bd.method).1
  have hlk : meth.locks = false := BodyLoose.notSynchronized Bd
  have X0 : Stand p l e ({ frames := 0, cells := 0, slots := 0, locals := 0 } : Room) s m #[(.ref r0), (.int (0 : Int32)), (.ref r2), (.int (0 : Int32)), (.int (2 : Int32))] below meth c s₁ [] 0 0 := Stand.of_body Bd
  have e0 : s₁.heap = h0 := by rw [← hh, Bd.state]; rfl
  have N0 := Fr.nil n0
  show own_W p e below s (Q_rmC5_2 Z r0 r2 kc c0_ c1_ kb h0 n0) 0 0 s₁ (entryFrame m #[(.ref r0), (.int (0 : Int32)), (.ref r2), (.int (0 : Int32)), (.int (2 : Int32))] 7)
  skip
  skip
  refine own_go (T' := s₁) (g' := (mkF m 0 #[.val (.ref r0), .val (.int (0 : Int32)), .val (.ref r2), .val (.int (0 : Int32)), .val (.int (2 : Int32)), .unset, .unset] [])) (fun _ k => castTop (ef_rmC5_2 m r0 (0 : Int32) r2 (0 : Int32) (2 : Int32)) k) ?_
  refine own_go (T' := s₁) (g' := (mkF m 1 #[.val (.ref r0), .val (.int (0 : Int32)), .val (.ref r2), .val (.int (0 : Int32)), .val (.int (2 : Int32)), .unset, .unset] [(.int (0 : Int32))])) (fun _ k => XS.iconst X0.here hx rfl (hb hby d5_0) k) ?_
  refine own_go (T' := s₁) (g' := (mkF m 3 #[.val (.ref r0), .val (.int (0 : Int32)), .val (.ref r2), .val (.int (0 : Int32)), .val (.int (2 : Int32)), .val (.int (0 : Int32)), .unset] [])) (fun _ k => XS.istore X0.here hx rfl (hb hby d5_1) rfl (l' := #[.val (.ref r0), .val (.int (0 : Int32)), .val (.ref r2), .val (.int (0 : Int32)), .val (.int (2 : Int32)), .val (.int (0 : Int32)), .unset]) rfl k) ?_
  refine own_go (T' := s₁) (g' := (mkF m 5 #[.val (.ref r0), .val (.int (0 : Int32)), .val (.ref r2), .val (.int (0 : Int32)), .val (.int (2 : Int32)), .val (.int (0 : Int32)), .unset] [(.int (0 : Int32))])) (fun _ k => XS.iload X0.here hx rfl (hb hby d5_3) rfl k) ?_
  refine own_go (T' := s₁) (g' := (mkF m 7 #[.val (.ref r0), .val (.int (0 : Int32)), .val (.ref r2), .val (.int (0 : Int32)), .val (.int (2 : Int32)), .val (.int (0 : Int32)), .unset] [(.int (2 : Int32)), (.int (0 : Int32))])) (fun _ k => XS.iload X0.here hx rfl (hb hby d5_5) rfl k) ?_
  refine own_go (T' := s₁) (g' := (mkF m 10 #[.val (.ref r0), .val (.int (0 : Int32)), .val (.ref r2), .val (.int (0 : Int32)), .val (.int (2 : Int32)), .val (.int (0 : Int32)), .unset] [])) (fun _ k => XS.icmpNo X0.here hx rfl (hb hby d5_7) rfl (XT.ii_ge_f (by decide : (0 : Int32) < (2 : Int32))) k) ?_
  refine own_go (T' := s₁) (g' := (mkF m 11 #[.val (.ref r0), .val (.int (0 : Int32)), .val (.ref r2), .val (.int (0 : Int32)), .val (.int (2 : Int32)), .val (.int (0 : Int32)), .unset] [(.ref r0)])) (fun _ k => XS.aloadN X0.here hx rfl (hb hby d5_10) rfl rfl k) ?_
  refine own_go (T' := s₁) (g' := (mkF m 12 #[.val (.ref r0), .val (.int (0 : Int32)), .val (.ref r2), .val (.int (0 : Int32)), .val (.int (2 : Int32)), .val (.int (0 : Int32)), .unset] [(.int (0 : Int32)), (.ref r0)])) (fun _ k => XS.iloadN X0.here hx rfl (hb hby d5_11) rfl k) ?_
  obtain ⟨cl1, Ar1, q11, q21, q31, H1, G1⟩ := id hp0
  have hin1 := inb_of q21 (j := (0 : Int32)) (by decide)
  refine own_go (T' := s₁) (g' := (mkF m 13 #[.val (.ref r0), .val (.int (0 : Int32)), .val (.ref r2), .val (.int (0 : Int32)), .val (.int (2 : Int32)), .val (.int (0 : Int32)), .unset] [(.int c0_)])) (fun _ k => X0.caload hx (j := (0 : Int32)) (v := (.int c0_)) (by rw [e0]; exact Ar1.1) (State.isArrayOf_alike hZ.alike Ar1.2.1) Ar1.2.2 hin1 (Has.at H1 hin1 rfl) (g := (mkF m 12 #[.val (.ref r0), .val (.int (0 : Int32)), .val (.ref r2), .val (.int (0 : Int32)), .val (.int (2 : Int32)), .val (.int (0 : Int32)), .unset] [(.int (0 : Int32)), (.ref r0)])) rfl rfl (hb hby d5_12) _ k) ?_
  refine own_go (T' := s₁) (g' := (mkF m 15 #[.val (.ref r0), .val (.int (0 : Int32)), .val (.ref r2), .val (.int (0 : Int32)), .val (.int (2 : Int32)), .val (.int (0 : Int32)), .val (.int c0_)] [])) (fun _ k => XS.istore X0.here hx rfl (hb hby d5_13) rfl (l' := #[.val (.ref r0), .val (.int (0 : Int32)), .val (.ref r2), .val (.int (0 : Int32)), .val (.int (2 : Int32)), .val (.int (0 : Int32)), .val (.int c0_)]) rfl k) ?_
  refine own_go (T' := s₁) (g' := (mkF m 17 #[.val (.ref r0), .val (.int (0 : Int32)), .val (.ref r2), .val (.int (0 : Int32)), .val (.int (2 : Int32)), .val (.int (0 : Int32)), .val (.int c0_)] [(.int c0_)])) (fun _ k => XS.iload X0.here hx rfl (hb hby d5_15) rfl k) ?_
  refine own_go (T' := s₁) (g' := (mkF m 20 #[.val (.ref r0), .val (.int (0 : Int32)), .val (.ref r2), .val (.int (0 : Int32)), .val (.int (2 : Int32)), .val (.int (0 : Int32)), .val (.int c0_)] [(.int (255 : Int32)), (.int c0_)])) (fun _ k => XS.sipush X0.here hx rfl (hb hby d5_17) k) ?_
  refine own_go (T' := s₁) (g' := (mkF m 26 #[.val (.ref r0), .val (.int (0 : Int32)), .val (.ref r2), .val (.int (0 : Int32)), .val (.int (2 : Int32)), .val (.int (0 : Int32)), .val (.int c0_)] [])) (fun _ k => XS.icmpYes X0.here hx rfl (pc0 := 20) (pc' := 26) rfl (hb hby d5_20) rfl (XT.ii_le_t hh0) (by decide) (by decide) k) ?_
  refine own_go (T' := s₁) (g' := (mkF m 27 #[.val (.ref r0), .val (.int (0 : Int32)), .val (.ref r2), .val (.int (0 : Int32)), .val (.int (2 : Int32)), .val (.int (0 : Int32)), .val (.int c0_)] [(.ref r2)])) (fun _ k => XS.aloadN X0.here hx rfl (hb hby d5_26) rfl rfl k) ?_
  refine own_go (T' := s₁) (g' := (mkF m 28 #[.val (.ref r0), .val (.int (0 : Int32)), .val (.ref r2), .val (.int (0 : Int32)), .val (.int (2 : Int32)), .val (.int (0 : Int32)), .val (.int c0_)] [(.int (0 : Int32)), (.ref r2)])) (fun _ k => XS.iloadN X0.here hx rfl (hb hby d5_27) rfl k) ?_
  refine own_go (T' := s₁) (g' := (mkF m 30 #[.val (.ref r0), .val (.int (0 : Int32)), .val (.ref r2), .val (.int (0 : Int32)), .val (.int (2 : Int32)), .val (.int (0 : Int32)), .val (.int c0_)] [(.int c0_), (.int (0 : Int32)), (.ref r2)])) (fun _ k => XS.iload X0.here hx rfl (hb hby d5_28) rfl k) ?_
  refine own_go (T' := s₁) (g' := (mkF m 31 #[.val (.ref r0), .val (.int (0 : Int32)), .val (.ref r2), .val (.int (0 : Int32)), .val (.int (2 : Int32)), .val (.int (0 : Int32)), .val (.int c0_)] [(.int (c0_.toInt8.toInt32)), (.int (0 : Int32)), (.ref r2)])) (fun _ k => XT.i2b X0.here hx rfl (hb hby d5_30) rfl k) ?_
  obtain ⟨cl2, Ar2, q12, q22, q32, H2, G2⟩ := id hp1
  have hin2 := inb_of q22 (j := (0 : Int32)) (by decide)
  obtain ⟨T2, h2, X2, e2, W2, st2⟩ := stB X0 hx hZ e0 Ar2 (j := (0 : Int32)) hin2 (g := (mkF m 31 #[.val (.ref r0), .val (.int (0 : Int32)), .val (.ref r2), .val (.int (0 : Int32)), .val (.int (2 : Int32)), .val (.int (0 : Int32)), .val (.int c0_)] [(.int (c0_.toInt8.toInt32)), (.int (0 : Int32)), (.ref r2)])) rfl rfl (hb hby d5_31)
  have f3 : Arv Z h2 r0 kc .char (2 : Int32) [(.int c0_), (.int c1_)] (.int (0 : Int32)) := (hp0.other W2 hp3)
  have V2 : Arv Z h2 r2 kb .byte (2 : Int32) [(.int (nar .byte (c0_.toInt8.toInt32))), (.int (0 : Int32))] (.int (0 : Int32)) := Arv.set Ar2 q12 q22 q32 H2 G2 (fits_nar_byte _) W2 0 (by decide) (by simp)
  have N2 := Fr.snoc X2 N0 hp2
  have zs2 : n0 ≤ h2.size := by rw [W2.size]; exact Z0
  have kk2 : Keep h0 h2 [r2] := (Keep.refl h0 [r2]).wr W2 (Or.inl (List.mem_of_getElem? (i := 0) rfl))
  refine own_go (T' := T2) (g' := (mkF m 32 #[.val (.ref r0), .val (.int (0 : Int32)), .val (.ref r2), .val (.int (0 : Int32)), .val (.int (2 : Int32)), .val (.int (0 : Int32)), .val (.int c0_)] [])) (fun _ k => st2 _ k) ?_
  refine own_go (T' := T2) (g' := (mkF m 35 #[.val (.ref r0), .val (.int (1 : Int32)), .val (.ref r2), .val (.int (0 : Int32)), .val (.int (2 : Int32)), .val (.int (0 : Int32)), .val (.int c0_)] [])) (fun _ k => XS.iinc X2.here hx rfl (hb hby d5_32) rfl (l' := #[.val (.ref r0), .val (.int (1 : Int32)), .val (.ref r2), .val (.int (0 : Int32)), .val (.int (2 : Int32)), .val (.int (0 : Int32)), .val (.int c0_)]) rfl k) ?_
  refine own_go (T' := T2) (g' := (mkF m 38 #[.val (.ref r0), .val (.int (1 : Int32)), .val (.ref r2), .val (.int (1 : Int32)), .val (.int (2 : Int32)), .val (.int (0 : Int32)), .val (.int c0_)] [])) (fun _ k => XS.iinc X2.here hx rfl (hb hby d5_35) rfl (l' := #[.val (.ref r0), .val (.int (1 : Int32)), .val (.ref r2), .val (.int (1 : Int32)), .val (.int (2 : Int32)), .val (.int (0 : Int32)), .val (.int c0_)]) rfl k) ?_
  refine own_go (T' := T2) (g' := (mkF m 41 #[.val (.ref r0), .val (.int (1 : Int32)), .val (.ref r2), .val (.int (1 : Int32)), .val (.int (2 : Int32)), .val (.int (1 : Int32)), .val (.int c0_)] [])) (fun _ k => XS.iinc X2.here hx rfl (hb hby d5_38) rfl (l' := #[.val (.ref r0), .val (.int (1 : Int32)), .val (.ref r2), .val (.int (1 : Int32)), .val (.int (2 : Int32)), .val (.int (1 : Int32)), .val (.int c0_)]) rfl k) ?_
  refine own_go (T' := T2) (g' := (mkF m 3 #[.val (.ref r0), .val (.int (1 : Int32)), .val (.ref r2), .val (.int (1 : Int32)), .val (.int (2 : Int32)), .val (.int (1 : Int32)), .val (.int c0_)] [])) (fun _ k => XS.goto X2.here hx rfl (pc0 := 41) (pc' := 3) rfl (hb hby d5_41) (by decide) (by decide) k) ?_
  refine own_go (T' := T2) (g' := (mkF m 5 #[.val (.ref r0), .val (.int (1 : Int32)), .val (.ref r2), .val (.int (1 : Int32)), .val (.int (2 : Int32)), .val (.int (1 : Int32)), .val (.int c0_)] [(.int (1 : Int32))])) (fun _ k => XS.iload X2.here hx rfl (hb hby d5_3) rfl k) ?_
  refine own_go (T' := T2) (g' := (mkF m 7 #[.val (.ref r0), .val (.int (1 : Int32)), .val (.ref r2), .val (.int (1 : Int32)), .val (.int (2 : Int32)), .val (.int (1 : Int32)), .val (.int c0_)] [(.int (2 : Int32)), (.int (1 : Int32))])) (fun _ k => XS.iload X2.here hx rfl (hb hby d5_5) rfl k) ?_
  refine own_go (T' := T2) (g' := (mkF m 10 #[.val (.ref r0), .val (.int (1 : Int32)), .val (.ref r2), .val (.int (1 : Int32)), .val (.int (2 : Int32)), .val (.int (1 : Int32)), .val (.int c0_)] [])) (fun _ k => XS.icmpNo X2.here hx rfl (hb hby d5_7) rfl (XT.ii_ge_f (by decide : (1 : Int32) < (2 : Int32))) k) ?_
  refine own_go (T' := T2) (g' := (mkF m 11 #[.val (.ref r0), .val (.int (1 : Int32)), .val (.ref r2), .val (.int (1 : Int32)), .val (.int (2 : Int32)), .val (.int (1 : Int32)), .val (.int c0_)] [(.ref r0)])) (fun _ k => XS.aloadN X2.here hx rfl (hb hby d5_10) rfl rfl k) ?_
  refine own_go (T' := T2) (g' := (mkF m 12 #[.val (.ref r0), .val (.int (1 : Int32)), .val (.ref r2), .val (.int (1 : Int32)), .val (.int (2 : Int32)), .val (.int (1 : Int32)), .val (.int c0_)] [(.int (1 : Int32)), (.ref r0)])) (fun _ k => XS.iloadN X2.here hx rfl (hb hby d5_11) rfl k) ?_
  obtain ⟨cl4, Ar4, q14, q24, q34, H4, G4⟩ := id f3
  have hin4 := inb_of q24 (j := (1 : Int32)) (by decide)
  refine own_go (T' := T2) (g' := (mkF m 13 #[.val (.ref r0), .val (.int (1 : Int32)), .val (.ref r2), .val (.int (1 : Int32)), .val (.int (2 : Int32)), .val (.int (1 : Int32)), .val (.int c0_)] [(.int c1_)])) (fun _ k => X2.caload hx (j := (1 : Int32)) (v := (.int c1_)) (by rw [e2]; exact Ar4.1) (State.isArrayOf_alike hZ.alike Ar4.2.1) Ar4.2.2 hin4 (Has.at H4 hin4 rfl) (g := (mkF m 12 #[.val (.ref r0), .val (.int (1 : Int32)), .val (.ref r2), .val (.int (1 : Int32)), .val (.int (2 : Int32)), .val (.int (1 : Int32)), .val (.int c0_)] [(.int (1 : Int32)), (.ref r0)])) rfl rfl (hb hby d5_12) _ k) ?_
  refine own_go (T' := T2) (g' := (mkF m 15 #[.val (.ref r0), .val (.int (1 : Int32)), .val (.ref r2), .val (.int (1 : Int32)), .val (.int (2 : Int32)), .val (.int (1 : Int32)), .val (.int c1_)] [])) (fun _ k => XS.istore X2.here hx rfl (hb hby d5_13) rfl (l' := #[.val (.ref r0), .val (.int (1 : Int32)), .val (.ref r2), .val (.int (1 : Int32)), .val (.int (2 : Int32)), .val (.int (1 : Int32)), .val (.int c1_)]) rfl k) ?_
  refine own_go (T' := T2) (g' := (mkF m 17 #[.val (.ref r0), .val (.int (1 : Int32)), .val (.ref r2), .val (.int (1 : Int32)), .val (.int (2 : Int32)), .val (.int (1 : Int32)), .val (.int c1_)] [(.int c1_)])) (fun _ k => XS.iload X2.here hx rfl (hb hby d5_15) rfl k) ?_
  refine own_go (T' := T2) (g' := (mkF m 20 #[.val (.ref r0), .val (.int (1 : Int32)), .val (.ref r2), .val (.int (1 : Int32)), .val (.int (2 : Int32)), .val (.int (1 : Int32)), .val (.int c1_)] [(.int (255 : Int32)), (.int c1_)])) (fun _ k => XS.sipush X2.here hx rfl (hb hby d5_17) k) ?_
  refine own_go (T' := T2) (g' := (mkF m 26 #[.val (.ref r0), .val (.int (1 : Int32)), .val (.ref r2), .val (.int (1 : Int32)), .val (.int (2 : Int32)), .val (.int (1 : Int32)), .val (.int c1_)] [])) (fun _ k => XS.icmpYes X2.here hx rfl (pc0 := 20) (pc' := 26) rfl (hb hby d5_20) rfl (XT.ii_le_t hh1) (by decide) (by decide) k) ?_
  refine own_go (T' := T2) (g' := (mkF m 27 #[.val (.ref r0), .val (.int (1 : Int32)), .val (.ref r2), .val (.int (1 : Int32)), .val (.int (2 : Int32)), .val (.int (1 : Int32)), .val (.int c1_)] [(.ref r2)])) (fun _ k => XS.aloadN X2.here hx rfl (hb hby d5_26) rfl rfl k) ?_
  refine own_go (T' := T2) (g' := (mkF m 28 #[.val (.ref r0), .val (.int (1 : Int32)), .val (.ref r2), .val (.int (1 : Int32)), .val (.int (2 : Int32)), .val (.int (1 : Int32)), .val (.int c1_)] [(.int (1 : Int32)), (.ref r2)])) (fun _ k => XS.iloadN X2.here hx rfl (hb hby d5_27) rfl k) ?_
  refine own_go (T' := T2) (g' := (mkF m 30 #[.val (.ref r0), .val (.int (1 : Int32)), .val (.ref r2), .val (.int (1 : Int32)), .val (.int (2 : Int32)), .val (.int (1 : Int32)), .val (.int c1_)] [(.int c1_), (.int (1 : Int32)), (.ref r2)])) (fun _ k => XS.iload X2.here hx rfl (hb hby d5_28) rfl k) ?_
  refine own_go (T' := T2) (g' := (mkF m 31 #[.val (.ref r0), .val (.int (1 : Int32)), .val (.ref r2), .val (.int (1 : Int32)), .val (.int (2 : Int32)), .val (.int (1 : Int32)), .val (.int c1_)] [(.int (c1_.toInt8.toInt32)), (.int (1 : Int32)), (.ref r2)])) (fun _ k => XT.i2b X2.here hx rfl (hb hby d5_30) rfl k) ?_
  obtain ⟨cl5, Ar5, q15, q25, q35, H5, G5⟩ := id V2
  have hin5 := inb_of q25 (j := (1 : Int32)) (by decide)
  obtain ⟨T5, h5, X5, e5, W5, st5⟩ := stB X2 hx hZ e2 Ar5 (j := (1 : Int32)) hin5 (g := (mkF m 31 #[.val (.ref r0), .val (.int (1 : Int32)), .val (.ref r2), .val (.int (1 : Int32)), .val (.int (2 : Int32)), .val (.int (1 : Int32)), .val (.int c1_)] [(.int (c1_.toInt8.toInt32)), (.int (1 : Int32)), (.ref r2)])) rfl rfl (hb hby d5_31)
  have f6 : Arv Z h5 r0 kc .char (2 : Int32) [(.int c0_), (.int c1_)] (.int (0 : Int32)) := (f3.other W5 hp3)
  have V5 : Arv Z h5 r2 kb .byte (2 : Int32) [(.int (nar .byte (c0_.toInt8.toInt32))), (.int (nar .byte (c1_.toInt8.toInt32)))] (.int (0 : Int32)) := Arv.set Ar5 q15 q25 q35 H5 G5 (fits_nar_byte _) W5 1 (by decide) (by simp)
  have N5 := Fr.snoc X5 N2 hp2
  have zs5 : n0 ≤ h5.size := by rw [W5.size]; exact zs2
  have kk5 : Keep h0 h5 [r2] := kk2.wr W5 (Or.inl (List.mem_of_getElem? (i := 0) rfl))
  refine own_go (T' := T5) (g' := (mkF m 32 #[.val (.ref r0), .val (.int (1 : Int32)), .val (.ref r2), .val (.int (1 : Int32)), .val (.int (2 : Int32)), .val (.int (1 : Int32)), .val (.int c1_)] [])) (fun _ k => st5 _ k) ?_
  refine own_go (T' := T5) (g' := (mkF m 35 #[.val (.ref r0), .val (.int (2 : Int32)), .val (.ref r2), .val (.int (1 : Int32)), .val (.int (2 : Int32)), .val (.int (1 : Int32)), .val (.int c1_)] [])) (fun _ k => XS.iinc X5.here hx rfl (hb hby d5_32) rfl (l' := #[.val (.ref r0), .val (.int (2 : Int32)), .val (.ref r2), .val (.int (1 : Int32)), .val (.int (2 : Int32)), .val (.int (1 : Int32)), .val (.int c1_)]) rfl k) ?_
  refine own_go (T' := T5) (g' := (mkF m 38 #[.val (.ref r0), .val (.int (2 : Int32)), .val (.ref r2), .val (.int (2 : Int32)), .val (.int (2 : Int32)), .val (.int (1 : Int32)), .val (.int c1_)] [])) (fun _ k => XS.iinc X5.here hx rfl (hb hby d5_35) rfl (l' := #[.val (.ref r0), .val (.int (2 : Int32)), .val (.ref r2), .val (.int (2 : Int32)), .val (.int (2 : Int32)), .val (.int (1 : Int32)), .val (.int c1_)]) rfl k) ?_
  refine own_go (T' := T5) (g' := (mkF m 41 #[.val (.ref r0), .val (.int (2 : Int32)), .val (.ref r2), .val (.int (2 : Int32)), .val (.int (2 : Int32)), .val (.int (2 : Int32)), .val (.int c1_)] [])) (fun _ k => XS.iinc X5.here hx rfl (hb hby d5_38) rfl (l' := #[.val (.ref r0), .val (.int (2 : Int32)), .val (.ref r2), .val (.int (2 : Int32)), .val (.int (2 : Int32)), .val (.int (2 : Int32)), .val (.int c1_)]) rfl k) ?_
  refine own_go (T' := T5) (g' := (mkF m 3 #[.val (.ref r0), .val (.int (2 : Int32)), .val (.ref r2), .val (.int (2 : Int32)), .val (.int (2 : Int32)), .val (.int (2 : Int32)), .val (.int c1_)] [])) (fun _ k => XS.goto X5.here hx rfl (pc0 := 41) (pc' := 3) rfl (hb hby d5_41) (by decide) (by decide) k) ?_
  refine own_go (T' := T5) (g' := (mkF m 5 #[.val (.ref r0), .val (.int (2 : Int32)), .val (.ref r2), .val (.int (2 : Int32)), .val (.int (2 : Int32)), .val (.int (2 : Int32)), .val (.int c1_)] [(.int (2 : Int32))])) (fun _ k => XS.iload X5.here hx rfl (hb hby d5_3) rfl k) ?_
  refine own_go (T' := T5) (g' := (mkF m 7 #[.val (.ref r0), .val (.int (2 : Int32)), .val (.ref r2), .val (.int (2 : Int32)), .val (.int (2 : Int32)), .val (.int (2 : Int32)), .val (.int c1_)] [(.int (2 : Int32)), (.int (2 : Int32))])) (fun _ k => XS.iload X5.here hx rfl (hb hby d5_5) rfl k) ?_
  refine own_go (T' := T5) (g' := (mkF m 44 #[.val (.ref r0), .val (.int (2 : Int32)), .val (.ref r2), .val (.int (2 : Int32)), .val (.int (2 : Int32)), .val (.int (2 : Int32)), .val (.int c1_)] [])) (fun _ k => XS.icmpYes X5.here hx rfl (pc0 := 7) (pc' := 44) rfl (hb hby d5_7) rfl (XT.ii_ge_t (by decide : ¬ ((2 : Int32) < (2 : Int32)))) (by decide) (by decide) k) ?_
  refine own_go (T' := T5) (g' := (mkF m 46 #[.val (.ref r0), .val (.int (2 : Int32)), .val (.ref r2), .val (.int (2 : Int32)), .val (.int (2 : Int32)), .val (.int (2 : Int32)), .val (.int c1_)] [(.int (2 : Int32))])) (fun _ k => XS.iload X5.here hx rfl (hb hby d5_44) rfl k) ?_
  exact own_ret X5 hx Bd.returns hlk rfl (Or.inl ⟨rfl, Or.inl rfl, _, rfl⟩) (hb hby d5_46) e5 ⟨rfl, N5, kk5, V5⟩ (by decide) (by decide)
def Q_rmC3_2 (Z : State) (r0 : Addr) (kc : ClassId) (c0_ : Int32) (c1_ : Int32) (h0 : Heap) (n0 : Nat) (v : Option Value) (h : Heap) (L : List Loc) : Prop := ∃ (xb : Addr) (xk : ClassId), v = some (.ref xb) ∧ Fr n0 L ∧ Keep h0 h [] ∧ h0.size ≤ xb ∧ Arv Z h xb xk .byte (2 : Int32) [(.int (nar .byte (c0_.toInt8.toInt32))), (.int (nar .byte (c1_.toInt8.toInt32)))] (.int (0 : Int32))
theorem ef_rmC3_2 (m : MethodId) (x0 : Addr) (x1 : Int32) (x2 : Int32) : entryFrame m #[(.ref x0), (.int x1), (.int x2)] 6 = mkF m 0 #[.val (.ref x0), .val (.int x1), .val (.int x2), .unset, .unset, .unset] [] := by first | (simp [entryFrame, mkF, argsToLocals, Value.category]; done) | rfl
theorem pn_rmC3_2 : plainName "java/lang/StringUTF16" = true := by first | (simp [plainName, overriddenIn]; done) | decide +kernel
set_option maxRecDepth 65536 in
set_option maxHeartbeats 40000000 in
theorem rmC3_2 (l : Launch) (Z : State) (a0 : Array Value) (hw : ∀ d ∈ tables_1, d.before a0 Z = true) (ws : List Jvm.Cond) (r0 : Addr) (kc : ClassId) (c0_ : Int32) (c1_ : Int32) (h0 : Heap) (n0 : Nat) (Z0 : n0 ≤ h0.size) (hp0 : Arv Z h0 r0 kc .char (2 : Int32) [(.int c0_), (.int c1_)] (.int (0 : Int32))) (hh0 : ¬ (255 : Int32) < c0_) (hh1 : ¬ (255 : Int32) < c1_) :
    MetFree l (⟨"java/lang/StringUTF16", "compress", "([CII)[B"⟩ : MethodName) (head1 (Jvm.Cond.code (⟨"java/lang/StringUTF16", "compress", "([CII)[B"⟩ : MethodName) jdk_52_method_16_code 6 (some (.array .byte)) :: ws) ({ frames := 1, cells := 1, slots := 2, locals := 40 } : Room)) (fun a U => a = #[(.ref r0), (.int (0 : Int32)), (.int (2 : Int32))] ∧ Z.Warmed39 U.vm ∧ U.heap = h0) (fun _ _ _ _ _ => True) (fun _ U o U' => ∃ v L, o = .returned v ∧ Q_rmC3_2 Z r0 kc c0_ c1_ h0 n0 v U'.heap L ∧ FrameEnd U o U' L ({ frames := 1, cells := 1, slots := 2, locals := 40 } : Room).cells ({ frames := 1, cells := 1, slots := 2, locals := 40 } : Room).slots) := by
  refine MetFree.of_bodySF (plainFor_of_name pn_rmC3_2) hisR ?_
  intro p e s m args below meth c s₁ Bd hml0 hP hK
  obtain ⟨rfl, hZ, hh⟩ := hP
  have hx := Bd.exec
  have hby := Bd.bytes
  have hml : c.maxLocals = 6 := hml0
  have hown : s.vm.findClass "java/lang/StringUTF16" = some m.cls := findClass_of_methodNamed Bd.named
  have hnm := (name_of_methodNamed Bd.named Bd.method).1
  have hlk : meth.locks = false := BodyLoose.notSynchronized Bd
  have X0 : Stand p l e ({ frames := 1, cells := 1, slots := 2, locals := 40 } : Room) s m #[(.ref r0), (.int (0 : Int32)), (.int (2 : Int32))] below meth c s₁ [] 0 0 := Stand.of_body Bd
  have e0 : s₁.heap = h0 := by rw [← hh, Bd.state]; rfl
  have N0 := Fr.nil n0
  show own_W p e below s (Q_rmC3_2 Z r0 kc c0_ c1_ h0 n0) 1 2 s₁ (entryFrame m #[(.ref r0), (.int (0 : Int32)), (.int (2 : Int32))] 6)
  skip
  skip
  refine own_go (T' := s₁) (g' := (mkF m 0 #[.val (.ref r0), .val (.int (0 : Int32)), .val (.int (2 : Int32)), .unset, .unset, .unset] [])) (fun _ k => castTop (ef_rmC3_2 m r0 (0 : Int32) (2 : Int32)) k) ?_
  refine own_go (T' := s₁) (g' := (mkF m 1 #[.val (.ref r0), .val (.int (0 : Int32)), .val (.int (2 : Int32)), .unset, .unset, .unset] [(.int (2 : Int32))])) (fun _ k => XS.iloadN X0.here hx rfl (hb hby d4_0) rfl k) ?_
  obtain ⟨T1, h1, k1, X1, e1, E1, A1, st1⟩ := newP X0 hx hZ (hw _ (List.mem_of_getElem? (i := 20) rfl)) e0 (g := (mkF m 1 #[.val (.ref r0), .val (.int (0 : Int32)), .val (.int (2 : Int32)), .unset, .unset, .unset] [(.int (2 : Int32))])) rfl (hb hby d4_1) rfl (by decide) (cap := 2) (by decide) (by decide) (by decide) (by decide)
  obtain ⟨b1, g1⟩ : ∃ z, z = h0.size := ⟨_, rfl⟩
  have ne2 : r0 ≠ b1 := Nat.ne_of_lt (Nat.lt_of_lt_of_le hp0.lt (Nat.le_of_eq g1.symm))
  rw [← g1] at A1 st1
  have f3 : Arv Z h1 r0 kc .char (2 : Int32) [(.int c0_), (.int c1_)] (.int (0 : Int32)) := (hp0.ext E1)
  have V1 : Arv Z h1 b1 k1 .byte (2 : Int32) [(.int (0 : Int32)), (.int (0 : Int32))] (.int (0 : Int32)) := (Arv.new A1 (by decide)).pad (pad_rep [] (.int (0 : Int32)) 2)
  have ge1 : n0 ≤ b1 := Nat.le_trans Z0 (Nat.le_of_eq g1.symm)
  have sz1 : h0.size ≤ b1 := Nat.le_trans (Keep.refl h0 []).1 (Nat.le_of_eq g1.symm)
  have kk1 : Keep h0 h1 [] := (Keep.refl h0 []).ext E1
  have zs1 : n0 ≤ h1.size := Nat.le_trans Z0 E1.1
  refine own_go (T' := T1) (g' := (mkF m 3 #[.val (.ref r0), .val (.int (0 : Int32)), .val (.int (2 : Int32)), .unset, .unset, .unset] [(.ref b1)])) (fun _ k => st1 _ k) ?_
  refine own_go (T' := T1) (g' := (mkF m 4 #[.val (.ref r0), .val (.int (0 : Int32)), .val (.int (2 : Int32)), .val (.ref b1), .unset, .unset] [])) (fun _ k => XS.astoreN X1.here hx rfl (hb hby d4_3) rfl rfl (l' := #[.val (.ref r0), .val (.int (0 : Int32)), .val (.int (2 : Int32)), .val (.ref b1), .unset, .unset]) rfl k) ?_
  refine own_go (T' := T1) (g' := (mkF m 5 #[.val (.ref r0), .val (.int (0 : Int32)), .val (.int (2 : Int32)), .val (.ref b1), .unset, .unset] [(.ref r0)])) (fun _ k => XS.aloadN X1.here hx rfl (hb hby d4_4) rfl rfl k) ?_
  refine own_go (T' := T1) (g' := (mkF m 6 #[.val (.ref r0), .val (.int (0 : Int32)), .val (.int (2 : Int32)), .val (.ref b1), .unset, .unset] [(.int (0 : Int32)), (.ref r0)])) (fun _ k => XS.iloadN X1.here hx rfl (hb hby d4_5) rfl k) ?_
  refine own_go (T' := T1) (g' := (mkF m 7 #[.val (.ref r0), .val (.int (0 : Int32)), .val (.int (2 : Int32)), .val (.ref b1), .unset, .unset] [(.ref b1), (.int (0 : Int32)), (.ref r0)])) (fun _ k => XS.aloadN X1.here hx rfl (hb hby d4_6) rfl rfl k) ?_
  refine own_go (T' := T1) (g' := (mkF m 8 #[.val (.ref r0), .val (.int (0 : Int32)), .val (.int (2 : Int32)), .val (.ref b1), .unset, .unset] [(.int (0 : Int32)), (.ref b1), (.int (0 : Int32)), (.ref r0)])) (fun _ k => XS.iconst X1.here hx rfl (hb hby d4_7) k) ?_
  refine own_go (T' := T1) (g' := (mkF m 9 #[.val (.ref r0), .val (.int (0 : Int32)), .val (.int (2 : Int32)), .val (.ref b1), .unset, .unset] [(.int (2 : Int32)), (.int (0 : Int32)), (.ref b1), (.int (0 : Int32)), (.ref r0)])) (fun _ k => XS.iloadN X1.here hx rfl (hb hby d4_8) rfl k) ?_
  obtain ⟨_, _, ⟨T4, L4, k4, n4⟩, -, X4, ⟨Lc4, hQ4, l4, y4, z4⟩, st4⟩ := Jvm.LawKit.callS X1 hx (y := (⟨"java/lang/StringUTF16", "compress", "([CI[BII)I"⟩ : MethodName)) hown (mvT hZ (hw _ (List.mem_of_getElem? (i := 21) rfl))) (mvT hZ (hw _ (List.mem_of_getElem? (i := 22) rfl))) (mvT hZ (hw _ (List.mem_of_getElem? (i := 18) rfl))) (mvT hZ (hw _ (List.mem_of_getElem? (i := 23) rfl))) (by decide) (backOf (W := 0) (rmC5_2 l Z a0 hw [] r0 b1 kc c0_ c1_ k1 h1 n0 zs1 f3 V1 ge1 ne2 hh0 hh1) hZ (hw _ (List.mem_of_getElem? (i := 23) rfl)) (hw _ (List.mem_of_getElem? (i := 18) rfl)) (by decide) (by decide)) (g := (mkF m 9 #[.val (.ref r0), .val (.int (0 : Int32)), .val (.int (2 : Int32)), .val (.ref b1), .unset, .unset] [(.int (2 : Int32)), (.int (0 : Int32)), (.ref b1), (.int (0 : Int32)), (.ref r0)])) rfl (by rw [hml]; rfl) (argsL := [(.ref r0), (.int (0 : Int32)), (.ref b1), (.int (0 : Int32)), (.int (2 : Int32))]) (rest := []) (lenOf own_pd0 rfl) rfl (by show 2 * 0 + _ ≤ _; exact Nat.le_of_eq rfl) (hb hby d4_9) (fun _ _ => ⟨rfl, e1, (by decide : 1 + 0 ≤ _), (by decide : 2 + 0 ≤ _)⟩)
  dsimp only [Pt.U, Pt.locs, Pt.cells, Pt.slots] at X4 l4 y4 z4 st4 hQ4
  subst l4 y4 z4
  obtain ⟨rfl, N4q, K4, po5⟩ := hQ4
  have f6 : Arv Z T4.heap r0 kc .char (2 : Int32) [(.int c0_), (.int c1_)] (.int (0 : Int32)) := (f3.keep K4 (ninS ne2 nin0))
  have zs4 : n0 ≤ T4.heap.size := Nat.le_trans zs1 K4.1
  have kk4 : Keep h0 T4.heap [] := kk1.trans K4 (allS (Or.inr sz1) all0)
  have N4 := Fr.app N0 N4q
  refine own_go (T' := T4) (g' := (mkF m 12 #[.val (.ref r0), .val (.int (0 : Int32)), .val (.int (2 : Int32)), .val (.ref b1), .unset, .unset] [(.int (2 : Int32))])) (fun _ k => st4 _ k) ?_
  refine own_go (T' := T4) (g' := (mkF m 14 #[.val (.ref r0), .val (.int (0 : Int32)), .val (.int (2 : Int32)), .val (.ref b1), .val (.int (2 : Int32)), .unset] [])) (fun _ k => XS.istore X4.here hx rfl (hb hby d4_12) rfl (l' := #[.val (.ref r0), .val (.int (0 : Int32)), .val (.int (2 : Int32)), .val (.ref b1), .val (.int (2 : Int32)), .unset]) rfl k) ?_
  refine own_go (T' := T4) (g' := (mkF m 16 #[.val (.ref r0), .val (.int (0 : Int32)), .val (.int (2 : Int32)), .val (.ref b1), .val (.int (2 : Int32)), .unset] [(.int (2 : Int32))])) (fun _ k => XS.iload X4.here hx rfl (hb hby d4_14) rfl k) ?_
  refine own_go (T' := T4) (g' := (mkF m 17 #[.val (.ref r0), .val (.int (0 : Int32)), .val (.int (2 : Int32)), .val (.ref b1), .val (.int (2 : Int32)), .unset] [(.int (2 : Int32)), (.int (2 : Int32))])) (fun _ k => XS.iloadN X4.here hx rfl (hb hby d4_16) rfl k) ?_
  refine own_go (T' := T4) (g' := (mkF m 57 #[.val (.ref r0), .val (.int (0 : Int32)), .val (.int (2 : Int32)), .val (.ref b1), .val (.int (2 : Int32)), .unset] [])) (fun _ k => XS.icmpYes X4.here hx rfl (pc0 := 17) (pc' := 57) rfl (hb hby d4_17) rfl (XT.ii_eq_t (rfl : (2 : Int32) = (2 : Int32))) (by decide) (by decide) k) ?_
  refine own_go (T' := T4) (g' := (mkF m 58 #[.val (.ref r0), .val (.int (0 : Int32)), .val (.int (2 : Int32)), .val (.ref b1), .val (.int (2 : Int32)), .unset] [(.ref b1)])) (fun _ k => XS.aloadN X4.here hx rfl (hb hby d4_57) rfl rfl k) ?_
  exact own_ret X4 hx Bd.returns hlk rfl (Or.inr (Or.inr (Or.inr (Or.inr ⟨rfl, rfl, rfl⟩)))) (hb hby d4_58) rfl ⟨b1, k1, rfl, N4, kk4, sz1, po5⟩ (by decide) (by decide)
def own_cfa2 (r0 : Addr) (kb : ClassId) (v0 : Int32) (v1 : Int32) : Int32 := (nar .byte ((((0 : Int32).toUInt32 >>> ((31 : Int32) &&& 31).toUInt32).toInt32).toInt8.toInt32))
def Q_rmCf_2 (Z : State) (r0 : Addr) (kb : ClassId) (v0 : Int32) (v1 : Int32) (h0 : Heap) (n0 : Nat) (v : Option Value) (h : Heap) (L : List Loc) : Prop := v = some (.int (own_cfa2 r0 kb v0 v1)) ∧ Fr n0 L ∧ h = h0
theorem ef_rmCf_2 (m : MethodId) (x0 : Addr) (x1 : Int32) : entryFrame m #[(.ref x0), (.int x1)] 2 = mkF m 0 #[.val (.ref x0), .val (.int x1)] [] := by first | (simp [entryFrame, mkF, argsToLocals, Value.category]; done) | rfl
theorem pn_rmCf_2 : plainName "java/lang/StringUTF16" = true := by first | (simp [plainName, overriddenIn]; done) | decide +kernel
set_option maxRecDepth 65536 in
set_option maxHeartbeats 40000000 in
theorem rmCf_2 (l : Launch) (Z : State) (a0 : Array Value) (hw : ∀ d ∈ tables_1, d.before a0 Z = true) (ws : List Jvm.Cond) (r0 : Addr) (kb : ClassId) (v0 : Int32) (v1 : Int32) (h0 : Heap) (n0 : Nat) (Z0 : n0 ≤ h0.size) (hp0 : Arv Z h0 r0 kb .byte (2 : Int32) [(.int v0), (.int v1)] (.int (0 : Int32))) :
    MetFree l (⟨"java/lang/StringUTF16", "coderFromArrayLen", "([BI)B"⟩ : MethodName) (head1 (Jvm.Cond.code (⟨"java/lang/StringUTF16", "coderFromArrayLen", "([BI)B"⟩ : MethodName) jdk_52_method_15_code 2 (some .byte) :: ws) ({ frames := 0, cells := 0, slots := 0, locals := 0 } : Room)) (fun a U => a = #[(.ref r0), (.int (2 : Int32))] ∧ Z.Warmed39 U.vm ∧ U.heap = h0) (fun _ _ _ _ _ => True) (fun _ U o U' => ∃ v L, o = .returned v ∧ Q_rmCf_2 Z r0 kb v0 v1 h0 n0 v U'.heap L ∧ FrameEnd U o U' L ({ frames := 0, cells := 0, slots := 0, locals := 0 } : Room).cells ({ frames := 0, cells := 0, slots := 0, locals := 0 } : Room).slots) := by
  refine MetFree.of_bodySF (plainFor_of_name pn_rmCf_2) hisR ?_
  intro p e s m args below meth c s₁ Bd hml0 hP hK
  obtain ⟨rfl, hZ, hh⟩ := hP
  have hx := Bd.exec
  have hby := Bd.bytes
  have hml : c.maxLocals = 2 := hml0
  have hown : s.vm.findClass "java/lang/StringUTF16" = some m.cls := findClass_of_methodNamed Bd.named
  have hnm := (name_of_methodNamed Bd.named Bd.method).1
  have hlk : meth.locks = false := BodyLoose.notSynchronized Bd
  have X0 : Stand p l e ({ frames := 0, cells := 0, slots := 0, locals := 0 } : Room) s m #[(.ref r0), (.int (2 : Int32))] below meth c s₁ [] 0 0 := Stand.of_body Bd
  have e0 : s₁.heap = h0 := by rw [← hh, Bd.state]; rfl
  have N0 := Fr.nil n0
  show own_W p e below s (Q_rmCf_2 Z r0 kb v0 v1 h0 n0) 0 0 s₁ (entryFrame m #[(.ref r0), (.int (2 : Int32))] 2)
  skip
  skip
  refine own_go (T' := s₁) (g' := (mkF m 0 #[.val (.ref r0), .val (.int (2 : Int32))] [])) (fun _ k => castTop (ef_rmCf_2 m r0 (2 : Int32)) k) ?_
  refine own_go (T' := s₁) (g' := (mkF m 1 #[.val (.ref r0), .val (.int (2 : Int32))] [(.int (2 : Int32))])) (fun _ k => XS.iloadN X0.here hx rfl (hb hby d6_0) rfl k) ?_
  refine own_go (T' := s₁) (g' := (mkF m 2 #[.val (.ref r0), .val (.int (2 : Int32))] [(.ref r0), (.int (2 : Int32))])) (fun _ k => XS.aloadN X0.here hx rfl (hb hby d6_1) rfl rfl k) ?_
  obtain ⟨cl1, Ar1, q11, q21, q31, H1, G1⟩ := id hp0
  have st1 := X0.arraylength hx (by rw [e0]; exact Ar1.1) (State.isArrayOf_alike hZ.alike Ar1.2.1) (g := (mkF m 2 #[.val (.ref r0), .val (.int (2 : Int32))] [(.ref r0), (.int (2 : Int32))])) rfl rfl (hb hby d6_2)
  rw [len_of q21 q31] at st1
  refine own_go (T' := s₁) (g' := (mkF m 3 #[.val (.ref r0), .val (.int (2 : Int32))] [(.int (2 : Int32)), (.int (2 : Int32))])) (fun _ k => st1 _ k) ?_
  refine own_go (T' := s₁) (g' := (mkF m 4 #[.val (.ref r0), .val (.int (2 : Int32))] [(.int (0 : Int32))])) (fun _ k => XS.isub X0.here hx rfl (hb hby d6_3) rfl k) ?_
  refine own_go (T' := s₁) (g' := (mkF m 6 #[.val (.ref r0), .val (.int (2 : Int32))] [(.int (31 : Int32)), (.int (0 : Int32))])) (fun _ k => XS.bipush X0.here hx rfl (hb hby d6_4) k) ?_
  refine own_go (T' := s₁) (g' := (mkF m 7 #[.val (.ref r0), .val (.int (2 : Int32))] [(.int (((0 : Int32).toUInt32 >>> ((31 : Int32) &&& 31).toUInt32).toInt32))])) (fun _ k => XS.iushr X0.here hx rfl (hb hby d6_6) rfl k) ?_
  refine own_go (T' := s₁) (g' := (mkF m 8 #[.val (.ref r0), .val (.int (2 : Int32))] [(.int ((((0 : Int32).toUInt32 >>> ((31 : Int32) &&& 31).toUInt32).toInt32).toInt8.toInt32))])) (fun _ k => XT.i2b X0.here hx rfl (hb hby d6_7) rfl k) ?_
  exact own_retN X0 hx (t := .byte) Bd.returns hlk (by simp) (hb hby d6_8) e0 ⟨(by unfold own_cfa2; first | rfl | done), N0, rfl⟩ (by decide) (by decide)
def Q_rmS4_2 (Z : State) (r0 : Addr) (r1 : Addr) (kc : ClassId) (c0_ : Int32) (c1_ : Int32) (cs : Int32) (h0 : Heap) (n0 : Nat) (v : Option Value) (h : Heap) (L : List Loc) : Prop := ∃ (xb : Addr) (xk : ClassId), v = none ∧ Fr n0 L ∧ Keep h0 h [r0] ∧ h0.size ≤ xb ∧ Fld Z h r0 "java/lang/String" "value" "[B" (.ref xb) ∧ Fld Z h r0 "java/lang/String" "coder" "B" (.int (0 : Int32)) ∧ Arv Z h xb xk .byte (2 : Int32) [(.int (nar .byte (c0_.toInt8.toInt32))), (.int (nar .byte (c1_.toInt8.toInt32)))] (.int (0 : Int32))
theorem ef_rmS4_2 (m : MethodId) (x0 : Addr) (x1 : Addr) (x2 : Int32) (x3 : Int32) : entryFrame m #[(.ref x0), (.ref x1), (.int x2), (.int x3), .null] 6 = mkF m 0 #[.val (.ref x0), .val (.ref x1), .val (.int x2), .val (.int x3), .val .null, .unset] [] := by first | (simp [entryFrame, mkF, argsToLocals, Value.category]; done) | rfl
theorem pn_rmS4_2 : plainName "java/lang/String" = true := by first | (simp [plainName, overriddenIn]; done) | decide +kernel
set_option maxRecDepth 65536 in
set_option maxHeartbeats 40000000 in
theorem rmS4_2 (l : Launch) (Z : State) (a0 : Array Value) (hw : ∀ d ∈ tables_1, d.before a0 Z = true) (ws : List Jvm.Cond) (r0 : Addr) (r1 : Addr) (kc : ClassId) (c0_ : Int32) (c1_ : Int32) (cs : Int32) (h0 : Heap) (n0 : Nat) (Z0 : n0 ≤ h0.size) (hp0 : Exa Z h0 r0 "java/lang/String") (hp1 : n0 ≤ r0) (hp2 : Fld Z h0 r0 "java/lang/String" "value" "[B" .null) (hp3 : Fld Z h0 r0 "java/lang/String" "coder" "B" (.int (0 : Int32))) (hp4 : Arv Z h0 r1 kc .char (2 : Int32) [(.int c0_), (.int c1_)] (.int (0 : Int32))) (hp5 : Sta Z h0 "java/lang/String" "COMPACT_STRINGS" "Z" (.int cs)) (hh0 : ¬ cs = (0 : Int32)) (hh1 : ¬ (255 : Int32) < c0_) (hh2 : ¬ (255 : Int32) < c1_) :
    MetFree l (⟨"java/lang/String", "<init>", "([CIILjava/lang/Void;)V"⟩ : MethodName) (head1 (Jvm.Cond.code (⟨"java/lang/String", "<init>", "([CIILjava/lang/Void;)V"⟩ : MethodName) jdk_42_method_149_code 6 none :: ws) ({ frames := 2, cells := 1, slots := 2, locals := 60 } : Room)) (fun a U => a = #[(.ref r0), (.ref r1), (.int (0 : Int32)), (.int (2 : Int32)), .null] ∧ Z.Warmed39 U.vm ∧ U.heap = h0) (fun _ _ _ _ _ => True) (fun _ U o U' => ∃ v L, o = .returned v ∧ Q_rmS4_2 Z r0 r1 kc c0_ c1_ cs h0 n0 v U'.heap L ∧ FrameEnd U o U' L ({ frames := 2, cells := 1, slots := 2, locals := 60 } : Room).cells ({ frames := 2, cells := 1, slots := 2, locals := 60 } : Room).slots) := by
  refine MetFree.of_bodySF (plainFor_of_name pn_rmS4_2) hisR ?_
  intro p e s m args below meth c s₁ Bd hml0 hP hK
  obtain ⟨rfl, hZ, hh⟩ := hP
  have hx := Bd.exec
  have hby := Bd.bytes
  have hml : c.maxLocals = 6 := hml0
  have hown : s.vm.findClass "java/lang/String" = some m.cls := findClass_of_methodNamed Bd.named
  have hnm := (name_of_methodNamed Bd.named Bd.method).1
  have hlk : meth.locks = false := BodyLoose.notSynchronized Bd
  have X0 : Stand p l e ({ frames := 2, cells := 1, slots := 2, locals := 60 } : Room) s m #[(.ref r0), (.ref r1), (.int (0 : Int32)), (.int (2 : Int32)), .null] below meth c s₁ [] 0 0 := Stand.of_body Bd
  have e0 : s₁.heap = h0 := by rw [← hh, Bd.state]; rfl
  have N0 := Fr.nil n0
  show own_W p e below s (Q_rmS4_2 Z r0 r1 kc c0_ c1_ cs h0 n0) 1 2 s₁ (entryFrame m #[(.ref r0), (.ref r1), (.int (0 : Int32)), (.int (2 : Int32)), .null] 6)
  skip
  skip
  refine own_go (T' := s₁) (g' := (mkF m 0 #[.val (.ref r0), .val (.ref r1), .val (.int (0 : Int32)), .val (.int (2 : Int32)), .val .null, .unset] [])) (fun _ k => castTop (ef_rmS4_2 m r0 r1 (0 : Int32) (2 : Int32)) k) ?_
  refine own_go (T' := s₁) (g' := (mkF m 1 #[.val (.ref r0), .val (.ref r1), .val (.int (0 : Int32)), .val (.int (2 : Int32)), .val .null, .unset] [(.ref r0)])) (fun _ k => XS.aloadN X0.here hx rfl (hb hby d2_0) rfl rfl k) ?_
  obtain ⟨T1, X1, e1, st1⟩ := initO X0 hx hZ hown (hw _ (List.mem_of_getElem? (i := 12) rfl)) (hw _ (List.mem_of_getElem? (i := 13) rfl)) (hw _ (List.mem_of_getElem? (i := 14) rfl)) e0 (g := (mkF m 1 #[.val (.ref r0), .val (.ref r1), .val (.int (0 : Int32)), .val (.int (2 : Int32)), .val .null, .unset] [(.ref r0)])) rfl (by rw [hml]; rfl) rfl (hb hby d2_1) (by decide) (W := 0) (by show 2 * 0 + _ ≤ _; exact Nat.le_of_eq rfl) (by decide)
  refine own_go (T' := T1) (g' := (mkF m 4 #[.val (.ref r0), .val (.ref r1), .val (.int (0 : Int32)), .val (.int (2 : Int32)), .val .null, .unset] [])) (fun _ k => st1 _ k) ?_
  refine own_go (T' := T1) (g' := (mkF m 5 #[.val (.ref r0), .val (.ref r1), .val (.int (0 : Int32)), .val (.int (2 : Int32)), .val .null, .unset] [(.int (2 : Int32))])) (fun _ k => XS.iloadN X1.here hx rfl (hb hby d2_4) rfl k) ?_
  refine own_go (T' := T1) (g' := (mkF m 27 #[.val (.ref r0), .val (.ref r1), .val (.int (0 : Int32)), .val (.int (2 : Int32)), .val .null, .unset] [])) (fun _ k => XS.ifYes X1.here hx rfl (pc0 := 5) (pc' := 27) rfl (hb hby d2_5) rfl (XT.i0_ne_t (by decide : ¬ ((2 : Int32) = (0 : Int32)))) (by decide) (by decide) k) ?_
  obtain ⟨T2, X2, e2, st2⟩ := getS2 X1 hx hZ hown (host := "") (Or.inl (hw _ (List.mem_of_getElem? (i := 15) rfl))) Via.refl e1 hp5 (g := (mkF m 27 #[.val (.ref r0), .val (.ref r1), .val (.int (0 : Int32)), .val (.int (2 : Int32)), .val .null, .unset] [])) rfl (hb hby d2_27)
  refine own_go (T' := T2) (g' := (mkF m 30 #[.val (.ref r0), .val (.ref r1), .val (.int (0 : Int32)), .val (.int (2 : Int32)), .val .null, .unset] [(.int cs)])) (fun _ k => st2 _ k) ?_
  refine own_go (T' := T2) (g' := (mkF m 33 #[.val (.ref r0), .val (.ref r1), .val (.int (0 : Int32)), .val (.int (2 : Int32)), .val .null, .unset] [])) (fun _ k => XS.ifNo X2.here hx rfl (hb hby d2_30) rfl (XT.i0_eq_f hh0) k) ?_
  refine own_go (T' := T2) (g' := (mkF m 34 #[.val (.ref r0), .val (.ref r1), .val (.int (0 : Int32)), .val (.int (2 : Int32)), .val .null, .unset] [(.ref r1)])) (fun _ k => XS.aloadN X2.here hx rfl (hb hby d2_33) rfl rfl k) ?_
  refine own_go (T' := T2) (g' := (mkF m 35 #[.val (.ref r0), .val (.ref r1), .val (.int (0 : Int32)), .val (.int (2 : Int32)), .val .null, .unset] [(.int (0 : Int32)), (.ref r1)])) (fun _ k => XS.iloadN X2.here hx rfl (hb hby d2_34) rfl k) ?_
  refine own_go (T' := T2) (g' := (mkF m 36 #[.val (.ref r0), .val (.ref r1), .val (.int (0 : Int32)), .val (.int (2 : Int32)), .val .null, .unset] [(.int (2 : Int32)), (.int (0 : Int32)), (.ref r1)])) (fun _ k => XS.iloadN X2.here hx rfl (hb hby d2_35) rfl k) ?_
  obtain ⟨_, _, ⟨T3, L3, k3, n3⟩, -, X3, ⟨Lc3, hQ3, l3, y3, z3⟩, st3⟩ := Jvm.LawKit.callS X2 hx (y := (⟨"java/lang/StringUTF16", "compress", "([CII)[B"⟩ : MethodName)) hown (mvT hZ (hw _ (List.mem_of_getElem? (i := 16) rfl))) (mvT hZ (hw _ (List.mem_of_getElem? (i := 17) rfl))) (mvT hZ (hw _ (List.mem_of_getElem? (i := 18) rfl))) (mvT hZ (hw _ (List.mem_of_getElem? (i := 19) rfl))) (by decide) (backOf (W := 0) (rmC3_2 l Z a0 hw [] r1 kc c0_ c1_ h0 n0 Z0 hp4 hh1 hh2) hZ (hw _ (List.mem_of_getElem? (i := 19) rfl)) (hw _ (List.mem_of_getElem? (i := 18) rfl)) (by decide) (by decide)) (g := (mkF m 36 #[.val (.ref r0), .val (.ref r1), .val (.int (0 : Int32)), .val (.int (2 : Int32)), .val .null, .unset] [(.int (2 : Int32)), (.int (0 : Int32)), (.ref r1)])) rfl (by rw [hml]; rfl) (argsL := [(.ref r1), (.int (0 : Int32)), (.int (2 : Int32))]) (rest := []) (lenOf own_pd1 rfl) rfl (by show 2 * 0 + _ ≤ _; exact Nat.le_of_eq rfl) (hb hby d2_36) (fun _ _ => ⟨rfl, e2, (by decide : 0 + 1 ≤ _), (by decide : 0 + 2 ≤ _)⟩)
  dsimp only [Pt.U, Pt.locs, Pt.cells, Pt.slots] at X3 l3 y3 z3 st3 hQ3
  subst l3 y3 z3
  obtain ⟨xb_3, xk_3, rfl, N3q, K3, po4, po5⟩ := hQ3
  have f6 : Exa Z T3.heap r0 "java/lang/String" := (hp0.keep K3)
  have f7 : Fld Z T3.heap r0 "java/lang/String" "value" "[B" .null := (hp2.keep K3 nin0)
  have f8 : Fld Z T3.heap r0 "java/lang/String" "coder" "B" (.int (0 : Int32)) := (hp3.keep K3 nin0)
  have f9 : Arv Z T3.heap r1 kc .char (2 : Int32) [(.int c0_), (.int c1_)] (.int (0 : Int32)) := (hp4.keep K3 nin0)
  have f10 : Sta Z T3.heap "java/lang/String" "COMPACT_STRINGS" "Z" (.int cs) := (own_sta_keep hp5 K3 ns0)
  have ne11 : r0 ≠ xb_3 := Nat.ne_of_lt (Nat.lt_of_lt_of_le hp0.lt po4)
  have ne12 : r1 ≠ xb_3 := Nat.ne_of_lt (Nat.lt_of_lt_of_le hp4.lt po4)
  have ge13 : n0 ≤ xb_3 := Nat.le_trans Z0 po4
  have sz14 : h0.size ≤ xb_3 := Nat.le_trans (Keep.refl h0 [r0]).1 po4
  have zs3 : n0 ≤ T3.heap.size := Nat.le_trans Z0 K3.1
  have kk3 : Keep h0 T3.heap [r0] := (Keep.refl h0 [r0]).trans K3 all0
  have N3 := Fr.app N0 N3q
  refine own_go (T' := T3) (g' := (mkF m 39 #[.val (.ref r0), .val (.ref r1), .val (.int (0 : Int32)), .val (.int (2 : Int32)), .val .null, .unset] [(.ref xb_3)])) (fun _ k => st3 _ k) ?_
  refine own_go (T' := T3) (g' := (mkF m 41 #[.val (.ref r0), .val (.ref r1), .val (.int (0 : Int32)), .val (.int (2 : Int32)), .val .null, .val (.ref xb_3)] [])) (fun _ k => XS.astore X3.here hx rfl (hb hby d2_39) rfl rfl (l' := #[.val (.ref r0), .val (.ref r1), .val (.int (0 : Int32)), .val (.int (2 : Int32)), .val .null, .val (.ref xb_3)]) rfl k) ?_
  refine own_go (T' := T3) (g' := (mkF m 42 #[.val (.ref r0), .val (.ref r1), .val (.int (0 : Int32)), .val (.int (2 : Int32)), .val .null, .val (.ref xb_3)] [(.ref r0)])) (fun _ k => XS.aloadN X3.here hx rfl (hb hby d2_41) rfl rfl k) ?_
  refine own_go (T' := T3) (g' := (mkF m 44 #[.val (.ref r0), .val (.ref r1), .val (.int (0 : Int32)), .val (.int (2 : Int32)), .val .null, .val (.ref xb_3)] [(.ref xb_3), (.ref r0)])) (fun _ k => XS.aload X3.here hx rfl (hb hby d2_42) rfl rfl k) ?_
  refine own_go (T' := T3) (g' := (mkF m 45 #[.val (.ref r0), .val (.ref r1), .val (.int (0 : Int32)), .val (.int (2 : Int32)), .val .null, .val (.ref xb_3)] [(.int (2 : Int32)), (.ref xb_3), (.ref r0)])) (fun _ k => XS.iloadN X3.here hx rfl (hb hby d2_44) rfl k) ?_
  obtain ⟨_, _, ⟨T15, L15, k15, n15⟩, -, X15, ⟨Lc15, hQ15, l15, y15, z15⟩, st15⟩ := Jvm.LawKit.callS X3 hx (y := (⟨"java/lang/StringUTF16", "coderFromArrayLen", "([BI)B"⟩ : MethodName)) hown (mvT hZ (hw _ (List.mem_of_getElem? (i := 24) rfl))) (mvT hZ (hw _ (List.mem_of_getElem? (i := 25) rfl))) (mvT hZ (hw _ (List.mem_of_getElem? (i := 18) rfl))) (mvT hZ (hw _ (List.mem_of_getElem? (i := 26) rfl))) (by decide) (backOf (W := 1) (rmCf_2 l Z a0 hw [] xb_3 xk_3 (nar .byte (c0_.toInt8.toInt32)) (nar .byte (c1_.toInt8.toInt32)) T3.heap n0 zs3 po5) hZ (hw _ (List.mem_of_getElem? (i := 26) rfl)) (hw _ (List.mem_of_getElem? (i := 18) rfl)) (by decide) (by decide)) (g := (mkF m 45 #[.val (.ref r0), .val (.ref r1), .val (.int (0 : Int32)), .val (.int (2 : Int32)), .val .null, .val (.ref xb_3)] [(.int (2 : Int32)), (.ref xb_3), (.ref r0)])) rfl (by rw [hml]; rfl) (argsL := [(.ref xb_3), (.int (2 : Int32))]) (rest := [(.ref r0)]) (lenOf own_pd2 rfl) rfl (by show 2 * 0 + _ ≤ _; exact Nat.le_of_eq rfl) (hb hby d2_45) (fun _ _ => ⟨rfl, rfl, (by decide : 1 + 0 ≤ _), (by decide : 2 + 0 ≤ _)⟩)
  dsimp only [Pt.U, Pt.locs, Pt.cells, Pt.slots] at X15 l15 y15 z15 st15 hQ15
  subst l15 y15 z15
  obtain ⟨rfl, N15q, e15⟩ := hQ15
  have N15 := Fr.app N3 N15q
  refine own_go (T' := T15) (g' := (mkF m 48 #[.val (.ref r0), .val (.ref r1), .val (.int (0 : Int32)), .val (.int (2 : Int32)), .val .null, .val (.ref xb_3)] [(.int (own_cfa2 xb_3 xk_3 (nar .byte (c0_.toInt8.toInt32)) (nar .byte (c1_.toInt8.toInt32)))), (.ref r0)])) (fun _ k => st15 _ k) ?_
  obtain ⟨T16, h16, X16, e16, W16, st16⟩ := putFN X15 hx hZ hown (hw _ (List.mem_of_getElem? (i := 27) rfl)) Via.refl e15 f8 f6 (Or.inr ⟨(hw _ (List.mem_of_getElem? (i := 28) rfl)), rfl, hnm⟩) (hw _ (List.mem_of_getElem? (i := 2) rfl)) (ty := .byte) (v' := (.int (nar .byte (own_cfa2 xb_3 xk_3 (nar .byte (c0_.toInt8.toInt32)) (nar .byte (c1_.toInt8.toInt32)))))) (by decide) rfl (fits_nar_byte _) (g := (mkF m 48 #[.val (.ref r0), .val (.ref r1), .val (.int (0 : Int32)), .val (.int (2 : Int32)), .val .null, .val (.ref xb_3)] [(.int (own_cfa2 xb_3 xk_3 (nar .byte (c0_.toInt8.toInt32)) (nar .byte (c1_.toInt8.toInt32)))), (.ref r0)])) rfl rfl (hb hby d2_48)
  have f17 : Exa Z h16 r0 "java/lang/String" := (f6.wr W16)
  have f18 : Fld Z h16 r0 "java/lang/String" "value" "[B" .null := (f7.other W16 (Or.inr (slot_ne (Or.inr (hw _ (List.mem_of_getElem? (i := 30) rfl))) (Or.inr (hw _ (List.mem_of_getElem? (i := 28) rfl))) (by decide) (t := (.array .byte)) (t' := .byte) (by decide) (by decide))))
  have f19 : Sta Z h16 "java/lang/String" "COMPACT_STRINGS" "Z" (.int cs) := (f10.wr W16)
  have f20 : Arv Z h16 xb_3 xk_3 .byte (2 : Int32) [(.int (nar .byte (c0_.toInt8.toInt32))), (.int (nar .byte (c1_.toInt8.toInt32)))] (.int (0 : Int32)) := (po5.other W16 (Ne.symm ne11))
  have fw16 : Fld Z h16 r0 "java/lang/String" "coder" "B" (.int (nar .byte (own_cfa2 xb_3 xk_3 (nar .byte (c0_.toInt8.toInt32)) (nar .byte (c1_.toInt8.toInt32))))) := f8.same W16
  have N16 := Fr.snoc X16 N15 hp1
  have zs16 : n0 ≤ h16.size := by rw [W16.size]; exact zs3
  have kk16 : Keep h0 h16 [r0] := kk3.wr W16 (Or.inl (List.mem_of_getElem? (i := 0) rfl))
  refine own_go (T' := T16) (g' := (mkF m 51 #[.val (.ref r0), .val (.ref r1), .val (.int (0 : Int32)), .val (.int (2 : Int32)), .val .null, .val (.ref xb_3)] [])) (fun _ k => st16 _ k) ?_
  have fr21 : Fld Z h16 r0 "java/lang/String" "coder" "B" (.int (0 : Int32)) := (show ((nar .byte (own_cfa2 xb_3 xk_3 (nar .byte (c0_.toInt8.toInt32)) (nar .byte (c1_.toInt8.toInt32)))) : Int32) = (0 : Int32) from (by unfold own_cfa2; decide)) ▸ fw16
  refine own_go (T' := T16) (g' := (mkF m 52 #[.val (.ref r0), .val (.ref r1), .val (.int (0 : Int32)), .val (.int (2 : Int32)), .val .null, .val (.ref xb_3)] [(.ref r0)])) (fun _ k => XS.aloadN X16.here hx rfl (hb hby d2_51) rfl rfl k) ?_
  refine own_go (T' := T16) (g' := (mkF m 54 #[.val (.ref r0), .val (.ref r1), .val (.int (0 : Int32)), .val (.int (2 : Int32)), .val .null, .val (.ref xb_3)] [(.ref xb_3), (.ref r0)])) (fun _ k => XS.aload X16.here hx rfl (hb hby d2_52) rfl rfl k) ?_
  obtain ⟨T22, h22, X22, e22, W22, st22⟩ := putF X16 hx hZ hown (host := "") (Or.inl (hw _ (List.mem_of_getElem? (i := 29) rfl))) Via.refl e16 f18 f17 (Or.inr ⟨(hw _ (List.mem_of_getElem? (i := 30) rfl)), rfl, hnm⟩) (hw _ (List.mem_of_getElem? (i := 2) rfl)) (ty := (.array .byte)) (by decide) rfl rfl (g := (mkF m 54 #[.val (.ref r0), .val (.ref r1), .val (.int (0 : Int32)), .val (.int (2 : Int32)), .val .null, .val (.ref xb_3)] [(.ref xb_3), (.ref r0)])) rfl rfl (hb hby d2_54)
  have f23 : Exa Z h22 r0 "java/lang/String" := (f17.wr W22)
  have f24 : Sta Z h22 "java/lang/String" "COMPACT_STRINGS" "Z" (.int cs) := (f19.wr W22)
  have f25 : Arv Z h22 xb_3 xk_3 .byte (2 : Int32) [(.int (nar .byte (c0_.toInt8.toInt32))), (.int (nar .byte (c1_.toInt8.toInt32)))] (.int (0 : Int32)) := (f20.other W22 (Ne.symm ne11))
  have f26 : Fld Z h22 r0 "java/lang/String" "coder" "B" (.int (0 : Int32)) := (fr21.other W22 (Or.inr (slot_ne (Or.inr (hw _ (List.mem_of_getElem? (i := 28) rfl))) (Or.inr (hw _ (List.mem_of_getElem? (i := 30) rfl))) (by decide) (t := .byte) (t' := (.array .byte)) (by decide) (by decide))))
  have fw22 : Fld Z h22 r0 "java/lang/String" "value" "[B" (.ref xb_3) := f18.same W22
  have N22 := Fr.snoc X22 N16 hp1
  have zs22 : n0 ≤ h22.size := by rw [W22.size]; exact zs16
  have kk22 : Keep h0 h22 [r0] := kk16.wr W22 (Or.inl (List.mem_of_getElem? (i := 0) rfl))
  refine own_go (T' := T22) (g' := (mkF m 57 #[.val (.ref r0), .val (.ref r1), .val (.int (0 : Int32)), .val (.int (2 : Int32)), .val .null, .val (.ref xb_3)] [])) (fun _ k => st22 _ k) ?_
  exact own_ret0 X22 hx Bd.returns hlk (hb hby d2_57) e22 ⟨xb_3, xk_3, rfl, N22, kk22, sz14, fw22, f26, f25⟩ (by decide) (by decide)
def Q_rmS1_2 (Z : State) (r0 : Addr) (r1 : Addr) (kc : ClassId) (c0_ : Int32) (c1_ : Int32) (cs : Int32) (h0 : Heap) (n0 : Nat) (v : Option Value) (h : Heap) (L : List Loc) : Prop := ∃ (xb : Addr) (xk : ClassId), v = none ∧ Fr n0 L ∧ Keep h0 h [r0] ∧ h0.size ≤ xb ∧ Fld Z h r0 "java/lang/String" "value" "[B" (.ref xb) ∧ Fld Z h r0 "java/lang/String" "coder" "B" (.int (0 : Int32)) ∧ Arv Z h xb xk .byte (2 : Int32) [(.int (nar .byte (c0_.toInt8.toInt32))), (.int (nar .byte (c1_.toInt8.toInt32)))] (.int (0 : Int32))
theorem ef_rmS1_2 (m : MethodId) (x0 : Addr) (x1 : Addr) : entryFrame m #[(.ref x0), (.ref x1)] 2 = mkF m 0 #[.val (.ref x0), .val (.ref x1)] [] := by first | (simp [entryFrame, mkF, argsToLocals, Value.category]; done) | rfl
theorem pn_rmS1_2 : plainName "java/lang/String" = true := by first | (simp [plainName, overriddenIn]; done) | decide +kernel
set_option maxRecDepth 65536 in
set_option maxHeartbeats 40000000 in
theorem rmS1_2 (l : Launch) (Z : State) (a0 : Array Value) (hw : ∀ d ∈ tables_1, d.before a0 Z = true) (ws : List Jvm.Cond) (r0 : Addr) (r1 : Addr) (kc : ClassId) (c0_ : Int32) (c1_ : Int32) (cs : Int32) (h0 : Heap) (n0 : Nat) (Z0 : n0 ≤ h0.size) (hp0 : Exa Z h0 r0 "java/lang/String") (hp1 : n0 ≤ r0) (hp2 : Fld Z h0 r0 "java/lang/String" "value" "[B" .null) (hp3 : Fld Z h0 r0 "java/lang/String" "coder" "B" (.int (0 : Int32))) (hp4 : Arv Z h0 r1 kc .char (2 : Int32) [(.int c0_), (.int c1_)] (.int (0 : Int32))) (hp5 : Sta Z h0 "java/lang/String" "COMPACT_STRINGS" "Z" (.int cs)) (hh0 : ¬ cs = (0 : Int32)) (hh1 : ¬ (255 : Int32) < c0_) (hh2 : ¬ (255 : Int32) < c1_) :
    MetFree l (⟨"java/lang/String", "<init>", "([C)V"⟩ : MethodName) (head1 (Jvm.Cond.code (⟨"java/lang/String", "<init>", "([C)V"⟩ : MethodName) jdk_42_method_3_code 2 none :: ws) ({ frames := 3, cells := 1, slots := 2, locals := 80 } : Room)) (fun a U => a = #[(.ref r0), (.ref r1)] ∧ Z.Warmed39 U.vm ∧ U.heap = h0) (fun _ _ _ _ _ => True) (fun _ U o U' => ∃ v L, o = .returned v ∧ Q_rmS1_2 Z r0 r1 kc c0_ c1_ cs h0 n0 v U'.heap L ∧ FrameEnd U o U' L ({ frames := 3, cells := 1, slots := 2, locals := 80 } : Room).cells ({ frames := 3, cells := 1, slots := 2, locals := 80 } : Room).slots) := by
  refine MetFree.of_bodySF (plainFor_of_name pn_rmS1_2) hisR ?_
  intro p e s m args below meth c s₁ Bd hml0 hP hK
  obtain ⟨rfl, hZ, hh⟩ := hP
  have hx := Bd.exec
  have hby := Bd.bytes
  have hml : c.maxLocals = 2 := hml0
  have hown : s.vm.findClass "java/lang/String" = some m.cls := findClass_of_methodNamed Bd.named
  have hnm := (name_of_methodNamed Bd.named Bd.method).1
  have hlk : meth.locks = false := BodyLoose.notSynchronized Bd
  have X0 : Stand p l e ({ frames := 3, cells := 1, slots := 2, locals := 80 } : Room) s m #[(.ref r0), (.ref r1)] below meth c s₁ [] 0 0 := Stand.of_body Bd
  have e0 : s₁.heap = h0 := by rw [← hh, Bd.state]; rfl
  have N0 := Fr.nil n0
  show own_W p e below s (Q_rmS1_2 Z r0 r1 kc c0_ c1_ cs h0 n0) 1 2 s₁ (entryFrame m #[(.ref r0), (.ref r1)] 2)
  skip
  skip
  refine own_go (T' := s₁) (g' := (mkF m 0 #[.val (.ref r0), .val (.ref r1)] [])) (fun _ k => castTop (ef_rmS1_2 m r0 r1) k) ?_
  refine own_go (T' := s₁) (g' := (mkF m 1 #[.val (.ref r0), .val (.ref r1)] [(.ref r0)])) (fun _ k => XS.aloadN X0.here hx rfl (hb hby d1_0) rfl rfl k) ?_
  refine own_go (T' := s₁) (g' := (mkF m 2 #[.val (.ref r0), .val (.ref r1)] [(.ref r1), (.ref r0)])) (fun _ k => XS.aloadN X0.here hx rfl (hb hby d1_1) rfl rfl k) ?_
  refine own_go (T' := s₁) (g' := (mkF m 3 #[.val (.ref r0), .val (.ref r1)] [(.int (0 : Int32)), (.ref r1), (.ref r0)])) (fun _ k => XS.iconst X0.here hx rfl (hb hby d1_2) k) ?_
  refine own_go (T' := s₁) (g' := (mkF m 4 #[.val (.ref r0), .val (.ref r1)] [(.ref r1), (.int (0 : Int32)), (.ref r1), (.ref r0)])) (fun _ k => XS.aloadN X0.here hx rfl (hb hby d1_3) rfl rfl k) ?_
  obtain ⟨cl1, Ar1, q11, q21, q31, H1, G1⟩ := id hp4
  have st1 := X0.arraylength hx (by rw [e0]; exact Ar1.1) (State.isArrayOf_alike hZ.alike Ar1.2.1) (g := (mkF m 4 #[.val (.ref r0), .val (.ref r1)] [(.ref r1), (.int (0 : Int32)), (.ref r1), (.ref r0)])) rfl rfl (hb hby d1_4)
  rw [len_of q21 q31] at st1
  refine own_go (T' := s₁) (g' := (mkF m 5 #[.val (.ref r0), .val (.ref r1)] [(.int (2 : Int32)), (.int (0 : Int32)), (.ref r1), (.ref r0)])) (fun _ k => st1 _ k) ?_
  refine own_go (T' := s₁) (g' := (mkF m 6 #[.val (.ref r0), .val (.ref r1)] [.null, (.int (2 : Int32)), (.int (0 : Int32)), (.ref r1), (.ref r0)])) (fun _ k => XS.aconstNull X0.here hx rfl (hb hby d1_5) k) ?_
  obtain ⟨_, _, ⟨T2, L2, k2, n2⟩, -, X2, ⟨Lc2, hQ2, l2, y2, z2⟩, st2⟩ := X0.specialBack hx (y := (⟨"java/lang/String", "<init>", "([CIILjava/lang/Void;)V"⟩ : MethodName)) rfl hown (mvT hZ (hw _ (List.mem_of_getElem? (i := 8) rfl))) (mvT hZ (hw _ (List.mem_of_getElem? (i := 9) rfl))) (mvT hZ (hw _ (List.mem_of_getElem? (i := 11) rfl))) (by decide) (backOf (W := 0) (rmS4_2 l Z a0 hw [] r0 r1 kc c0_ c1_ cs h0 n0 Z0 hp0 hp1 hp2 hp3 hp4 hp5 hh0 hh1 hh2) hZ (hw _ (List.mem_of_getElem? (i := 11) rfl)) (hw _ (List.mem_of_getElem? (i := 3) rfl)) (by decide) (by decide)) (g := (mkF m 6 #[.val (.ref r0), .val (.ref r1)] [.null, (.int (2 : Int32)), (.int (0 : Int32)), (.ref r1), (.ref r0)])) rfl (by rw [hml]; rfl) (Steps.refl _) (a := r0) (argsL := [(.ref r1), (.int (0 : Int32)), (.int (2 : Int32)), .null]) (rest := []) (lenOf own_pd3 rfl) rfl (by show 2 * 0 + _ ≤ _; exact Nat.le_of_eq rfl) (hb hby d1_6) (fun _ _ => ⟨rfl, e0, (by decide : 0 + 1 ≤ _), (by decide : 0 + 2 ≤ _)⟩)
  dsimp only [Pt.U, Pt.locs, Pt.cells, Pt.slots] at X2 l2 y2 z2 st2 hQ2
  subst l2 y2 z2
  obtain ⟨xb_2, xk_2, rfl, N2q, K2, po3, po4, po5, po6⟩ := hQ2
  have f7 : Exa Z T2.heap r0 "java/lang/String" := (hp0.keep K2)
  have f8 : Sta Z T2.heap "java/lang/String" "COMPACT_STRINGS" "Z" (.int cs) := (own_sta_keep hp5 K2 (nsS hp0.nostat ns0))
  have ne9 : r0 ≠ xb_2 := Nat.ne_of_lt (Nat.lt_of_lt_of_le hp0.lt po3)
  have ne10 : r1 ≠ xb_2 := Nat.ne_of_lt (Nat.lt_of_lt_of_le hp4.lt po3)
  have ge11 : n0 ≤ xb_2 := Nat.le_trans Z0 po3
  have sz12 : h0.size ≤ xb_2 := Nat.le_trans (Keep.refl h0 [r0]).1 po3
  have zs2 : n0 ≤ T2.heap.size := Nat.le_trans Z0 K2.1
  have kk2 : Keep h0 T2.heap [r0] := (Keep.refl h0 [r0]).trans K2 (allS (Or.inl (List.mem_of_getElem? (i := 0) rfl)) all0)
  have N2 := Fr.app N0 N2q
  refine own_go (T' := T2) (g' := (mkF m 9 #[.val (.ref r0), .val (.ref r1)] [])) (fun _ k => st2.trans k) ?_
  exact own_ret0 X2 hx Bd.returns hlk (hb hby d1_9) rfl ⟨xb_2, xk_2, rfl, N2, kk2, sz12, po4, po5, po6⟩ (by decide) (by decide)
theorem d8_0 : decode jdk_31_method_11_code 0 = .ok (.aload_n 0, 1) := by decide +kernel
theorem d8_1 : decode jdk_31_method_11_code 1 = .ok (.ifnonnull 12, 3) := by decide +kernel
theorem d8_13 : decode jdk_31_method_11_code 13 = .ok (.aload_n 0, 1) := by decide +kernel
theorem d8_14 : decode jdk_31_method_11_code 14 = .ok (.areturn, 1) := by decide +kernel
def Q_rmNN (Z : State) (r0 : Addr) (r1 : Addr) (h0 : Heap) (n0 : Nat) (v : Option Value) (h : Heap) (L : List Loc) : Prop := v = some (.ref r0) ∧ Fr n0 L ∧ h = h0
theorem ef_rmNN (m : MethodId) (x0 : Addr) (x1 : Addr) : entryFrame m #[(.ref x0), (.ref x1)] 2 = mkF m 0 #[.val (.ref x0), .val (.ref x1)] [] := by first | (simp [entryFrame, mkF, argsToLocals, Value.category]; done) | rfl
theorem pn_rmNN : plainName "java/util/Objects" = true := by first | (simp [plainName, overriddenIn]; done) | decide +kernel
set_option maxRecDepth 65536 in
set_option maxHeartbeats 40000000 in
theorem rmNN (l : Launch) (Z : State) (a0 : Array Value) (hw : ∀ d ∈ tables_1, d.before a0 Z = true) (ws : List Jvm.Cond) (r0 : Addr) (r1 : Addr) (h0 : Heap) (n0 : Nat) (Z0 : n0 ≤ h0.size)  :
    MetFree l (⟨"java/util/Objects", "requireNonNull", "(Ljava/lang/Object;Ljava/lang/String;)Ljava/lang/Object;"⟩ : MethodName) (head1 (Jvm.Cond.code (⟨"java/util/Objects", "requireNonNull", "(Ljava/lang/Object;Ljava/lang/String;)Ljava/lang/Object;"⟩ : MethodName) jdk_31_method_11_code 2 (some (.object "java/lang/Object")) :: ws) ({ frames := 0, cells := 0, slots := 0, locals := 0 } : Room)) (fun a U => a = #[(.ref r0), (.ref r1)] ∧ Z.Warmed39 U.vm ∧ U.heap = h0) (fun _ _ _ _ _ => True) (fun _ U o U' => ∃ v L, o = .returned v ∧ Q_rmNN Z r0 r1 h0 n0 v U'.heap L ∧ FrameEnd U o U' L ({ frames := 0, cells := 0, slots := 0, locals := 0 } : Room).cells ({ frames := 0, cells := 0, slots := 0, locals := 0 } : Room).slots) := by
  refine MetFree.of_bodySF (plainFor_of_name pn_rmNN) hisR ?_
  intro p e s m args below meth c s₁ Bd hml0 hP hK
  obtain ⟨rfl, hZ, hh⟩ := hP
  have hx := Bd.exec
  have hby := Bd.bytes
  have hml : c.maxLocals = 2 := hml0
  have hown : s.vm.findClass "java/util/Objects" = some m.cls := findClass_of_methodNamed Bd.named
  have hnm := (name_of_methodNamed Bd.named Bd.method).1
  have hlk : meth.locks = false := BodyLoose.notSynchronized Bd
  have X0 : Stand p l e ({ frames := 0, cells := 0, slots := 0, locals := 0 } : Room) s m #[(.ref r0), (.ref r1)] below meth c s₁ [] 0 0 := Stand.of_body Bd
  have e0 : s₁.heap = h0 := by rw [← hh, Bd.state]; rfl
  have N0 := Fr.nil n0
  show own_W p e below s (Q_rmNN Z r0 r1 h0 n0) 0 0 s₁ (entryFrame m #[(.ref r0), (.ref r1)] 2)
  skip
  skip
  refine own_go (T' := s₁) (g' := (mkF m 0 #[.val (.ref r0), .val (.ref r1)] [])) (fun _ k => castTop (ef_rmNN m r0 r1) k) ?_
  refine own_go (T' := s₁) (g' := (mkF m 1 #[.val (.ref r0), .val (.ref r1)] [(.ref r0)])) (fun _ k => XS.aloadN X0.here hx rfl (hb hby d8_0) rfl rfl k) ?_
  refine own_go (T' := s₁) (g' := (mkF m 13 #[.val (.ref r0), .val (.ref r1)] [])) (fun _ k => XT.ifnonnullYes X0.here hx rfl (pc0 := 1) (pc' := 13) rfl (hb hby d8_1) rfl (by decide) (by decide) k) ?_
  refine own_go (T' := s₁) (g' := (mkF m 14 #[.val (.ref r0), .val (.ref r1)] [(.ref r0)])) (fun _ k => XS.aloadN X0.here hx rfl (hb hby d8_13) rfl rfl k) ?_
  exact own_ret X0 hx Bd.returns hlk rfl (Or.inr (Or.inr (Or.inr (Or.inr ⟨rfl, rfl, rfl⟩)))) (hb hby d8_14) e0 ⟨rfl, N0, rfl⟩ (by decide) (by decide)
def own_emp1 (r0 : Addr) (d1 : Addr) (kk : ClassId) (v0 : Int32) : Int32 := (0 : Int32)
theorem d9_0 : decode jdk_42_method_55_code 0 = .ok (.aload_n 0, 1) := by decide +kernel
theorem d9_1 : decode jdk_42_method_55_code 1 = .ok (.getfield 9, 3) := by decide +kernel
theorem d9_4 : decode jdk_42_method_55_code 4 = .ok (.arraylength, 1) := by decide +kernel
theorem d9_5 : decode jdk_42_method_55_code 5 = .ok (.ifCond .ne 7, 3) := by decide +kernel
theorem d9_12 : decode jdk_42_method_55_code 12 = .ok (.iconst 0, 1) := by decide +kernel
theorem d9_13 : decode jdk_42_method_55_code 13 = .ok (.ireturn, 1) := by decide +kernel
def Q_rmEmp1 (Z : State) (r0 : Addr) (d1 : Addr) (kk : ClassId) (v0 : Int32) (h0 : Heap) (n0 : Nat) (v : Option Value) (h : Heap) (L : List Loc) : Prop := v = some (.int (own_emp1 r0 d1 kk v0)) ∧ Fr n0 L ∧ h = h0
theorem ef_rmEmp1 (m : MethodId) (x0 : Addr) : entryFrame m #[(.ref x0)] 1 = mkF m 0 #[.val (.ref x0)] [] := by first | (simp [entryFrame, mkF, argsToLocals, Value.category]; done) | rfl
theorem pn_rmEmp1 : plainName "java/lang/String" = true := by first | (simp [plainName, overriddenIn]; done) | decide +kernel
set_option maxRecDepth 65536 in
set_option maxHeartbeats 40000000 in
theorem rmEmp1 (l : Launch) (Z : State) (a0 : Array Value) (hw : ∀ d ∈ tables_1, d.before a0 Z = true) (ws : List Jvm.Cond) (r0 : Addr) (d1 : Addr) (kk : ClassId) (v0 : Int32) (h0 : Heap) (n0 : Nat) (Z0 : n0 ≤ h0.size) (hp0 : Fld Z h0 r0 "java/lang/String" "value" "[B" (.ref d1)) (hp1 : Arv Z h0 d1 kk .byte (1 : Int32) [(.int v0)] (.int (0 : Int32))) :
    MetFree l (⟨"java/lang/String", "isEmpty", "()Z"⟩ : MethodName) (head1 (Jvm.Cond.code (⟨"java/lang/String", "isEmpty", "()Z"⟩ : MethodName) jdk_42_method_55_code 1 (some .boolean) :: ws) ({ frames := 0, cells := 0, slots := 0, locals := 0 } : Room)) (fun a U => a = #[(.ref r0)] ∧ Z.Warmed39 U.vm ∧ U.heap = h0) (fun _ _ _ _ _ => True) (fun _ U o U' => ∃ v L, o = .returned v ∧ Q_rmEmp1 Z r0 d1 kk v0 h0 n0 v U'.heap L ∧ FrameEnd U o U' L ({ frames := 0, cells := 0, slots := 0, locals := 0 } : Room).cells ({ frames := 0, cells := 0, slots := 0, locals := 0 } : Room).slots) := by
  refine MetFree.of_bodySF (plainFor_of_name pn_rmEmp1) hisR ?_
  intro p e s m args below meth c s₁ Bd hml0 hP hK
  obtain ⟨rfl, hZ, hh⟩ := hP
  have hx := Bd.exec
  have hby := Bd.bytes
  have hml : c.maxLocals = 1 := hml0
  have hown : s.vm.findClass "java/lang/String" = some m.cls := findClass_of_methodNamed Bd.named
  have hnm := (name_of_methodNamed Bd.named Bd.method).1
  have hlk : meth.locks = false := BodyLoose.notSynchronized Bd
  have X0 : Stand p l e ({ frames := 0, cells := 0, slots := 0, locals := 0 } : Room) s m #[(.ref r0)] below meth c s₁ [] 0 0 := Stand.of_body Bd
  have e0 : s₁.heap = h0 := by rw [← hh, Bd.state]; rfl
  have N0 := Fr.nil n0
  show own_W p e below s (Q_rmEmp1 Z r0 d1 kk v0 h0 n0) 0 0 s₁ (entryFrame m #[(.ref r0)] 1)
  skip
  skip
  refine own_go (T' := s₁) (g' := (mkF m 0 #[.val (.ref r0)] [])) (fun _ k => castTop (ef_rmEmp1 m r0) k) ?_
  refine own_go (T' := s₁) (g' := (mkF m 1 #[.val (.ref r0)] [(.ref r0)])) (fun _ k => XS.aloadN X0.here hx rfl (hb hby d9_0) rfl rfl k) ?_
  obtain ⟨T1, X1, e1, st1⟩ := getF X0 hx hZ hown (host := "") (Or.inl (hw _ (List.mem_of_getElem? (i := 29) rfl))) Via.refl e0 hp0 (g := (mkF m 1 #[.val (.ref r0)] [(.ref r0)])) rfl rfl (hb hby d9_1)
  refine own_go (T' := T1) (g' := (mkF m 4 #[.val (.ref r0)] [(.ref d1)])) (fun _ k => st1 _ k) ?_
  obtain ⟨cl2, Ar2, q12, q22, q32, H2, G2⟩ := id hp1
  have st2 := X1.arraylength hx (by rw [e1]; exact Ar2.1) (State.isArrayOf_alike hZ.alike Ar2.2.1) (g := (mkF m 4 #[.val (.ref r0)] [(.ref d1)])) rfl rfl (hb hby d9_4)
  rw [len_of q22 q32] at st2
  refine own_go (T' := T1) (g' := (mkF m 5 #[.val (.ref r0)] [(.int (1 : Int32))])) (fun _ k => st2 _ k) ?_
  refine own_go (T' := T1) (g' := (mkF m 12 #[.val (.ref r0)] [])) (fun _ k => XS.ifYes X1.here hx rfl (pc0 := 5) (pc' := 12) rfl (hb hby d9_5) rfl (XT.i0_ne_t (by decide : ¬ ((1 : Int32) = (0 : Int32)))) (by decide) (by decide) k) ?_
  refine own_go (T' := T1) (g' := (mkF m 13 #[.val (.ref r0)] [(.int (0 : Int32))])) (fun _ k => XS.iconst X1.here hx rfl (hb hby d9_12) k) ?_
  exact own_retN X1 hx (t := .boolean) Bd.returns hlk (by simp) (hb hby d9_13) e1 ⟨(by unfold own_emp1; first | rfl | done), N0, rfl⟩ (by decide) (by decide)
theorem own_pd4 : parseMethodDescriptor "(Ljava/lang/Object;Ljava/lang/String;)Ljava/lang/Object;" = some ⟨[(.object "java/lang/Object"), (.object "java/lang/String")], some (.object "java/lang/Object")⟩ := by decide +kernel
theorem own_pd5 : parseMethodDescriptor "()Z" = some ⟨[], some .boolean⟩ := by decide +kernel
theorem d7_0 : decode prog_13_method_1_code 0 = .ok (.aload_n 0, 1) := by decide +kernel
theorem d7_1 : decode prog_13_method_1_code 1 = .ok (.invokespecial 1, 3) := by decide +kernel
theorem d7_4 : decode prog_13_method_1_code 4 = .ok (.aload_n 1, 1) := by decide +kernel
theorem d7_5 : decode prog_13_method_1_code 5 = .ok (.ldc 7, 2) := by decide +kernel
theorem d7_7 : decode prog_13_method_1_code 7 = .ok (.invokestatic 9, 3) := by decide +kernel
theorem d7_10 : decode prog_13_method_1_code 10 = .ok (.pop, 1) := by decide +kernel
theorem d7_11 : decode prog_13_method_1_code 11 = .ok (.aload_n 1, 1) := by decide +kernel
theorem d7_12 : decode prog_13_method_1_code 12 = .ok (.invokevirtual 15, 3) := by decide +kernel
theorem d7_15 : decode prog_13_method_1_code 15 = .ok (.ifCond .eq 13, 3) := by decide +kernel
theorem d7_28 : decode prog_13_method_1_code 28 = .ok (.iload_n 2, 1) := by decide +kernel
theorem d7_29 : decode prog_13_method_1_code 29 = .ok (.ifCond .ge 18, 3) := by decide +kernel
theorem d7_47 : decode prog_13_method_1_code 47 = .ok (.aload_n 0, 1) := by decide +kernel
theorem d7_48 : decode prog_13_method_1_code 48 = .ok (.aload_n 1, 1) := by decide +kernel
theorem d7_49 : decode prog_13_method_1_code 49 = .ok (.putfield 32, 3) := by decide +kernel
theorem d7_52 : decode prog_13_method_1_code 52 = .ok (.aload_n 0, 1) := by decide +kernel
theorem d7_53 : decode prog_13_method_1_code 53 = .ok (.iload_n 2, 1) := by decide +kernel
theorem d7_54 : decode prog_13_method_1_code 54 = .ok (.putfield 37, 3) := by decide +kernel
theorem d7_57 : decode prog_13_method_1_code 57 = .ok (.return_, 1) := by decide +kernel
def Q_rmSrv1 (Z : State) (r0 : Addr) (r1 : Addr) (p2 : Int32) (d1 : Addr) (kk : ClassId) (v0 : Int32) (h0 : Heap) (n0 : Nat) (v : Option Value) (h : Heap) (L : List Loc) : Prop := v = none ∧ Fr n0 L ∧ Keep h0 h [r0] ∧ Fld Z h r0 "com/example/node_ring/nodering/pool/Server" "name" "Ljava/lang/String;" (.ref r1) ∧ Fld Z h r0 "com/example/node_ring/nodering/pool/Server" "weight" "I" (.int p2) ∧ Exa Z h r0 "com/example/node_ring/nodering/pool/Server"
theorem ef_rmSrv1 (m : MethodId) (x0 : Addr) (x1 : Addr) (x2 : Int32) : entryFrame m #[(.ref x0), (.ref x1), (.int x2)] 3 = mkF m 0 #[.val (.ref x0), .val (.ref x1), .val (.int x2)] [] := by first | (simp [entryFrame, mkF, argsToLocals, Value.category]; done) | rfl
theorem pn_rmSrv1 : plainName "com/example/node_ring/nodering/pool/Server" = true := by first | (simp [plainName, overriddenIn]; done) | decide +kernel
set_option maxRecDepth 65536 in
set_option maxHeartbeats 40000000 in
theorem rmSrv1 (l : Launch) (Z : State) (a0 : Array Value) (hw : ∀ d ∈ tables_1, d.before a0 Z = true) (ws : List Jvm.Cond) (r0 : Addr) (r1 : Addr) (p2 : Int32) (d1 : Addr) (kk : ClassId) (v0 : Int32) (h0 : Heap) (n0 : Nat) (Z0 : n0 ≤ h0.size) (hp0 : Exa Z h0 r0 "com/example/node_ring/nodering/pool/Server") (hp1 : n0 ≤ r0) (hp2 : Fld Z h0 r0 "com/example/node_ring/nodering/pool/Server" "name" "Ljava/lang/String;" .null) (hp3 : Fld Z h0 r0 "com/example/node_ring/nodering/pool/Server" "weight" "I" (.int (0 : Int32))) (hp4 : Exa Z h0 r1 "java/lang/String") (hp5 : Fld Z h0 r1 "java/lang/String" "value" "[B" (.ref d1)) (hp6 : Arv Z h0 d1 kk .byte (1 : Int32) [(.int v0)] (.int (0 : Int32))) (hh0 : ¬ p2 < (0 : Int32)) :
    MetFree l (⟨"com/example/node_ring/nodering/pool/Server", "<init>", "(Ljava/lang/String;I)V"⟩ : MethodName) (head1 (Jvm.Cond.code (⟨"com/example/node_ring/nodering/pool/Server", "<init>", "(Ljava/lang/String;I)V"⟩ : MethodName) prog_13_method_1_code 3 none :: ws) ({ frames := 1, cells := 2, slots := 20, locals := 13 } : Room)) (fun a U => a = #[(.ref r0), (.ref r1), (.int p2)] ∧ Z.Warmed39 U.vm ∧ U.heap = h0) (fun _ _ _ _ _ => True) (fun _ U o U' => ∃ v L, o = .returned v ∧ Q_rmSrv1 Z r0 r1 p2 d1 kk v0 h0 n0 v U'.heap L ∧ ReturnedEndW U o U' L ({ frames := 1, cells := 2, slots := 20, locals := 13 } : Room).cells ({ frames := 1, cells := 2, slots := 20, locals := 13 } : Room).slots) := by
  refine MetFree.of_bodySF (plainFor_of_name pn_rmSrv1) hisR ?_
  intro p e s m args below meth c s₁ Bd hml0 hP hK
  obtain ⟨rfl, hZ, hh⟩ := hP
  have hx := Bd.exec
  have hby := Bd.bytes
  have hml : c.maxLocals = 3 := hml0
  have hown : s.vm.findClass "com/example/node_ring/nodering/pool/Server" = some m.cls := findClass_of_methodNamed Bd.named
  have hnm := (name_of_methodNamed Bd.named Bd.method).1
  have hlk : meth.locks = false := BodyLoose.notSynchronized Bd
  have X0 : Stand p l e ({ frames := 1, cells := 2, slots := 20, locals := 13 } : Room) (s.setVm s.vm) m #[(.ref r0), (.ref r1), (.int p2)] below meth c s₁ [] 0 0 := Stand.of_body Bd
  have e0 : s₁.heap = h0 := by rw [← hh, Bd.state]; rfl
  have N0 := Fr.nil n0
  show own_WS p e below s (Q_rmSrv1 Z r0 r1 p2 d1 kk v0 h0 n0) 2 20 s₁ (entryFrame m #[(.ref r0), (.ref r1), (.int p2)] 3)
  have hS0 : s.Since s.vm 0 := (State.WarmedH.refl s).since 0
  have hk0 : 0 ≤ h0.size := Nat.zero_le _
  refine own_goS (T' := s₁) (g' := (mkF m 0 #[.val (.ref r0), .val (.ref r1), .val (.int p2)] [])) (fun _ k => castTop (ef_rmSrv1 m r0 r1 p2) k) ?_
  refine own_goS (T' := s₁) (g' := (mkF m 1 #[.val (.ref r0), .val (.ref r1), .val (.int p2)] [(.ref r0)])) (fun _ k => XS.aloadN X0.here hx rfl (hb hby d7_0) rfl rfl k) ?_
  obtain ⟨T1, X1, e1, st1⟩ := initO X0 hx hZ hown (hw _ (List.mem_of_getElem? (i := 37) rfl)) (hw _ (List.mem_of_getElem? (i := 13) rfl)) (hw _ (List.mem_of_getElem? (i := 14) rfl)) e0 (g := (mkF m 1 #[.val (.ref r0), .val (.ref r1), .val (.int p2)] [(.ref r0)])) rfl (by rw [hml]; rfl) rfl (hb hby d7_1) (by decide) (W := 0) (by show 2 * 0 + _ ≤ _; exact Nat.le_of_eq rfl) (by decide)
  refine own_goS (T' := T1) (g' := (mkF m 4 #[.val (.ref r0), .val (.ref r1), .val (.int p2)] [])) (fun _ k => st1 _ k) ?_
  refine own_goS (T' := T1) (g' := (mkF m 5 #[.val (.ref r0), .val (.ref r1), .val (.int p2)] [(.ref r1)])) (fun _ k => XS.aloadN X1.here hx rfl (hb hby d7_4) rfl rfl k) ?_
  obtain ⟨lt2, T2, h2, k2, X2, e2, E2, hS2, hk2, hZ2, hown2, st2⟩ := ldcS X1 hx hZ hown (hw _ (List.mem_of_getElem? (i := 38) rfl)) (own_wS hw) e1 hS0 hk0 (g := (mkF m 5 #[.val (.ref r0), .val (.ref r1), .val (.int p2)] [(.ref r1)])) rfl (hb hby d7_5) (n := 16) (by decide) (by decide) (by decide) (by decide)
  have f3 : Exa Z h2 r0 "com/example/node_ring/nodering/pool/Server" := (hp0.ext E2)
  have f4 : Fld Z h2 r0 "com/example/node_ring/nodering/pool/Server" "name" "Ljava/lang/String;" .null := (hp2.ext E2)
  have f5 : Fld Z h2 r0 "com/example/node_ring/nodering/pool/Server" "weight" "I" (.int (0 : Int32)) := (hp3.ext E2)
  have f6 : Exa Z h2 r1 "java/lang/String" := (hp4.ext E2)
  have f7 : Fld Z h2 r1 "java/lang/String" "value" "[B" (.ref d1) := (hp5.ext E2)
  have f8 : Arv Z h2 d1 kk .byte (1 : Int32) [(.int v0)] (.int (0 : Int32)) := (hp6.ext E2)
  have kk2 : Keep h0 h2 [r0] := (Keep.refl h0 [r0]).ext E2
  have zs2 : n0 ≤ h2.size := Nat.le_trans Z0 E2.1
  refine own_goS (T' := T2) (g' := (mkF m 7 #[.val (.ref r0), .val (.ref r1), .val (.int p2)] [(.ref lt2), (.ref r1)])) (fun _ k => st2 _ k) ?_
  obtain ⟨_, _, ⟨T9, L9, k9, n9⟩, -, X9, ⟨Lc9, hQ9, l9, y9, z9⟩, st9⟩ := Jvm.LawKit.callS X2 hx (y := (⟨"java/util/Objects", "requireNonNull", "(Ljava/lang/Object;Ljava/lang/String;)Ljava/lang/Object;"⟩ : MethodName)) hown2 (mvT hZ2 (hw _ (List.mem_of_getElem? (i := 41) rfl))) (mvT hZ2 (hw _ (List.mem_of_getElem? (i := 42) rfl))) (mvT hZ2 (hw _ (List.mem_of_getElem? (i := 43) rfl))) (mvT hZ2 (hw _ (List.mem_of_getElem? (i := 44) rfl))) (by decide) (backOf (W := 0) (rmNN l Z a0 hw [] r1 lt2 h2 n0 zs2 ) hZ2 (hw _ (List.mem_of_getElem? (i := 44) rfl)) (hw _ (List.mem_of_getElem? (i := 43) rfl)) (by decide) (by decide)) (g := (mkF m 7 #[.val (.ref r0), .val (.ref r1), .val (.int p2)] [(.ref lt2), (.ref r1)])) rfl (by rw [hml]; rfl) (argsL := [(.ref r1), (.ref lt2)]) (rest := []) (lenOf own_pd4 rfl) rfl (by show 2 * 0 + _ ≤ _; exact Nat.le_of_eq rfl) (hb hby d7_7) (fun _ _ => ⟨rfl, e2, (by decide : 2 + 0 ≤ _), (by decide : 20 + 0 ≤ _)⟩)
  dsimp only [Pt.U, Pt.locs, Pt.cells, Pt.slots] at X9 l9 y9 z9 st9 hQ9
  subst l9 y9 z9
  obtain ⟨rfl, N9q, e9⟩ := hQ9
  have N9 := Fr.app N0 N9q
  refine own_goS (T' := T9) (g' := (mkF m 10 #[.val (.ref r0), .val (.ref r1), .val (.int p2)] [(.ref r1)])) (fun _ k => st9 _ k) ?_
  refine own_goS (T' := T9) (g' := (mkF m 11 #[.val (.ref r0), .val (.ref r1), .val (.int p2)] [])) (fun _ k => XT.pop X9.here hx rfl (hb hby d7_10) rfl rfl k) ?_
  refine own_goS (T' := T9) (g' := (mkF m 12 #[.val (.ref r0), .val (.ref r1), .val (.int p2)] [(.ref r1)])) (fun _ k => XS.aloadN X9.here hx rfl (hb hby d7_11) rfl rfl k) ?_
  obtain ⟨cq10, kq10, q10a, q10b, q10c⟩ := isOf hZ2 e9 f6
  obtain ⟨_, _, ⟨T10, L10, k10, n10⟩, -, X10, ⟨Lc10, hQ10, l10, y10, z10⟩, st10⟩ := X9.virtualBack hx (y := (⟨"java/lang/String", "isEmpty", "()Z"⟩ : MethodName)) (z := (⟨"java/lang/String", "isEmpty", "()Z"⟩ : MethodName)) hown2 (mvT hZ2 (hw _ (List.mem_of_getElem? (i := 45) rfl))) (mvT hZ2 (hw _ (List.mem_of_getElem? (i := 46) rfl))) (notFace_of_selects (args := #[]) (mvT hZ2 (hw _ (List.mem_of_getElem? (i := 48) rfl)))) (mvT hZ2 (hw _ (List.mem_of_getElem? (i := 48) rfl))) (mvT hZ2 (hw _ (List.mem_of_getElem? (i := 47) rfl))) (by decide) (backOf (W := 0) (rmEmp1 l Z a0 hw [] r1 d1 kk v0 h2 n0 zs2 f7 f8) hZ2 (hw _ (List.mem_of_getElem? (i := 49) rfl)) (hw _ (List.mem_of_getElem? (i := 3) rfl)) (by decide) (by decide)) q10a q10c (g := (mkF m 12 #[.val (.ref r0), .val (.ref r1), .val (.int p2)] [(.ref r1)])) rfl (by rw [hml]; rfl) (Steps.refl _) (argsL := []) (rest := []) (lenOf own_pd5 rfl) rfl (by show 2 * 0 + _ ≤ _; exact Nat.le_of_eq rfl) (hb hby d7_12) (fun _ _ => ⟨rfl, e9, (by decide : 2 + 0 ≤ _), (by decide : 20 + 0 ≤ _)⟩)
  dsimp only [Pt.U, Pt.locs, Pt.cells, Pt.slots] at X10 l10 y10 z10 st10 hQ10
  subst l10 y10 z10
  obtain ⟨rfl, N10q, e10⟩ := hQ10
  have N10 := Fr.app N9 N10q
  refine own_goS (T' := T10) (g' := (mkF m 15 #[.val (.ref r0), .val (.ref r1), .val (.int p2)] [(.int (own_emp1 r1 d1 kk v0))])) (fun _ k => st10.trans k) ?_
  refine own_goS (T' := T10) (g' := (mkF m 28 #[.val (.ref r0), .val (.ref r1), .val (.int p2)] [])) (fun _ k => XS.ifYes X10.here hx rfl (pc0 := 15) (pc' := 28) rfl (hb hby d7_15) rfl (XT.i0_eq_t (by rfl)) (by decide) (by decide) k) ?_
  refine own_goS (T' := T10) (g' := (mkF m 29 #[.val (.ref r0), .val (.ref r1), .val (.int p2)] [(.int p2)])) (fun _ k => XS.iloadN X10.here hx rfl (hb hby d7_28) rfl k) ?_
  refine own_goS (T' := T10) (g' := (mkF m 47 #[.val (.ref r0), .val (.ref r1), .val (.int p2)] [])) (fun _ k => XS.ifYes X10.here hx rfl (pc0 := 29) (pc' := 47) rfl (hb hby d7_29) rfl (XT.i0_ge_t hh0) (by decide) (by decide) k) ?_
  refine own_goS (T' := T10) (g' := (mkF m 48 #[.val (.ref r0), .val (.ref r1), .val (.int p2)] [(.ref r0)])) (fun _ k => XS.aloadN X10.here hx rfl (hb hby d7_47) rfl rfl k) ?_
  refine own_goS (T' := T10) (g' := (mkF m 49 #[.val (.ref r0), .val (.ref r1), .val (.int p2)] [(.ref r1), (.ref r0)])) (fun _ k => XS.aloadN X10.here hx rfl (hb hby d7_48) rfl rfl k) ?_
  obtain ⟨T11, h11, X11, e11, W11, st11⟩ := putF X10 hx hZ2 hown2 (host := "") (Or.inl (hw _ (List.mem_of_getElem? (i := 50) rfl))) Via.refl e10 f4 f3 (Or.inr ⟨(hw _ (List.mem_of_getElem? (i := 51) rfl)), rfl, hnm⟩) (hw _ (List.mem_of_getElem? (i := 32) rfl)) (ty := (.object "java/lang/String")) (by decide) rfl rfl (g := (mkF m 49 #[.val (.ref r0), .val (.ref r1), .val (.int p2)] [(.ref r1), (.ref r0)])) rfl rfl (hb hby d7_49)
  have f12 : Exa Z h11 r0 "com/example/node_ring/nodering/pool/Server" := (f3.wr W11)
  have f13 : Fld Z h11 r0 "com/example/node_ring/nodering/pool/Server" "weight" "I" (.int (0 : Int32)) := (f5.other W11 (Or.inr (slot_ne (Or.inr (hw _ (List.mem_of_getElem? (i := 53) rfl))) (Or.inr (hw _ (List.mem_of_getElem? (i := 51) rfl))) (by decide) (t := .int) (t' := (.object "java/lang/String")) (by decide) (by decide))))
  have f14 : Exa Z h11 r1 "java/lang/String" := (f6.wr W11)
  have fw11 : Fld Z h11 r0 "com/example/node_ring/nodering/pool/Server" "name" "Ljava/lang/String;" (.ref r1) := f4.same W11
  have N11 := Fr.snoc X11 N10 hp1
  have zs11 : n0 ≤ h11.size := by rw [W11.size]; exact zs2
  have kk11 : Keep h0 h11 [r0] := kk2.wr W11 (Or.inl (List.mem_of_getElem? (i := 0) rfl))
  have hk15 := Nat.le_trans hk2 (Nat.le_of_eq W11.size.symm)
  refine own_goS (T' := T11) (g' := (mkF m 52 #[.val (.ref r0), .val (.ref r1), .val (.int p2)] [])) (fun _ k => st11 _ k) ?_
  refine own_goS (T' := T11) (g' := (mkF m 53 #[.val (.ref r0), .val (.ref r1), .val (.int p2)] [(.ref r0)])) (fun _ k => XS.aloadN X11.here hx rfl (hb hby d7_52) rfl rfl k) ?_
  refine own_goS (T' := T11) (g' := (mkF m 54 #[.val (.ref r0), .val (.ref r1), .val (.int p2)] [(.int p2), (.ref r0)])) (fun _ k => XS.iloadN X11.here hx rfl (hb hby d7_53) rfl k) ?_
  obtain ⟨T16, h16, X16, e16, W16, st16⟩ := putF X11 hx hZ2 hown2 (host := "") (Or.inl (hw _ (List.mem_of_getElem? (i := 52) rfl))) Via.refl e11 f13 f12 (Or.inr ⟨(hw _ (List.mem_of_getElem? (i := 53) rfl)), rfl, hnm⟩) (hw _ (List.mem_of_getElem? (i := 32) rfl)) (ty := .int) (by decide) rfl rfl (g := (mkF m 54 #[.val (.ref r0), .val (.ref r1), .val (.int p2)] [(.int p2), (.ref r0)])) rfl rfl (hb hby d7_54)
  have f17 : Exa Z h16 r0 "com/example/node_ring/nodering/pool/Server" := (f12.wr W16)
  have f18 : Exa Z h16 r1 "java/lang/String" := (f14.wr W16)
  have f19 : Fld Z h16 r0 "com/example/node_ring/nodering/pool/Server" "name" "Ljava/lang/String;" (.ref r1) := (fw11.other W16 (Or.inr (slot_ne (Or.inr (hw _ (List.mem_of_getElem? (i := 51) rfl))) (Or.inr (hw _ (List.mem_of_getElem? (i := 53) rfl))) (by decide) (t := (.object "java/lang/String")) (t' := .int) (by decide) (by decide))))
  have fw16 : Fld Z h16 r0 "com/example/node_ring/nodering/pool/Server" "weight" "I" (.int p2) := f13.same W16
  have N16 := Fr.snoc X16 N11 hp1
  have zs16 : n0 ≤ h16.size := by rw [W16.size]; exact zs11
  have kk16 : Keep h0 h16 [r0] := kk11.wr W16 (Or.inl (List.mem_of_getElem? (i := 0) rfl))
  have hk20 := Nat.le_trans hk15 (Nat.le_of_eq W16.size.symm)
  refine own_goS (T' := T16) (g' := (mkF m 57 #[.val (.ref r0), .val (.ref r1), .val (.int p2)] [])) (fun _ k => st16 _ k) ?_
  exact own_ret0S X16 hS2 hx Bd.returns hlk (hb hby d7_57) e16 hk20 ⟨rfl, N16, kk16, f19, fw16, f17⟩ (by decide) (by decide)
def own_emp2 (r0 : Addr) (d1 : Addr) (kk : ClassId) (v0 : Int32) (v1 : Int32) : Int32 := (0 : Int32)
def Q_rmEmp2 (Z : State) (r0 : Addr) (d1 : Addr) (kk : ClassId) (v0 : Int32) (v1 : Int32) (h0 : Heap) (n0 : Nat) (v : Option Value) (h : Heap) (L : List Loc) : Prop := v = some (.int (own_emp2 r0 d1 kk v0 v1)) ∧ Fr n0 L ∧ h = h0
theorem ef_rmEmp2 (m : MethodId) (x0 : Addr) : entryFrame m #[(.ref x0)] 1 = mkF m 0 #[.val (.ref x0)] [] := by first | (simp [entryFrame, mkF, argsToLocals, Value.category]; done) | rfl
theorem pn_rmEmp2 : plainName "java/lang/String" = true := by first | (simp [plainName, overriddenIn]; done) | decide +kernel
set_option maxRecDepth 65536 in
set_option maxHeartbeats 40000000 in
theorem rmEmp2 (l : Launch) (Z : State) (a0 : Array Value) (hw : ∀ d ∈ tables_1, d.before a0 Z = true) (ws : List Jvm.Cond) (r0 : Addr) (d1 : Addr) (kk : ClassId) (v0 : Int32) (v1 : Int32) (h0 : Heap) (n0 : Nat) (Z0 : n0 ≤ h0.size) (hp0 : Fld Z h0 r0 "java/lang/String" "value" "[B" (.ref d1)) (hp1 : Arv Z h0 d1 kk .byte (2 : Int32) [(.int v0), (.int v1)] (.int (0 : Int32))) :
    MetFree l (⟨"java/lang/String", "isEmpty", "()Z"⟩ : MethodName) (head1 (Jvm.Cond.code (⟨"java/lang/String", "isEmpty", "()Z"⟩ : MethodName) jdk_42_method_55_code 1 (some .boolean) :: ws) ({ frames := 0, cells := 0, slots := 0, locals := 0 } : Room)) (fun a U => a = #[(.ref r0)] ∧ Z.Warmed39 U.vm ∧ U.heap = h0) (fun _ _ _ _ _ => True) (fun _ U o U' => ∃ v L, o = .returned v ∧ Q_rmEmp2 Z r0 d1 kk v0 v1 h0 n0 v U'.heap L ∧ FrameEnd U o U' L ({ frames := 0, cells := 0, slots := 0, locals := 0 } : Room).cells ({ frames := 0, cells := 0, slots := 0, locals := 0 } : Room).slots) := by
  refine MetFree.of_bodySF (plainFor_of_name pn_rmEmp2) hisR ?_
  intro p e s m args below meth c s₁ Bd hml0 hP hK
  obtain ⟨rfl, hZ, hh⟩ := hP
  have hx := Bd.exec
  have hby := Bd.bytes
  have hml : c.maxLocals = 1 := hml0
  have hown : s.vm.findClass "java/lang/String" = some m.cls := findClass_of_methodNamed Bd.named
  have hnm := (name_of_methodNamed Bd.named Bd.method).1
  have hlk : meth.locks = false := BodyLoose.notSynchronized Bd
  have X0 : Stand p l e ({ frames := 0, cells := 0, slots := 0, locals := 0 } : Room) s m #[(.ref r0)] below meth c s₁ [] 0 0 := Stand.of_body Bd
  have e0 : s₁.heap = h0 := by rw [← hh, Bd.state]; rfl
  have N0 := Fr.nil n0
  show own_W p e below s (Q_rmEmp2 Z r0 d1 kk v0 v1 h0 n0) 0 0 s₁ (entryFrame m #[(.ref r0)] 1)
  skip
  skip
  refine own_go (T' := s₁) (g' := (mkF m 0 #[.val (.ref r0)] [])) (fun _ k => castTop (ef_rmEmp2 m r0) k) ?_
  refine own_go (T' := s₁) (g' := (mkF m 1 #[.val (.ref r0)] [(.ref r0)])) (fun _ k => XS.aloadN X0.here hx rfl (hb hby d9_0) rfl rfl k) ?_
  obtain ⟨T1, X1, e1, st1⟩ := getF X0 hx hZ hown (host := "") (Or.inl (hw _ (List.mem_of_getElem? (i := 29) rfl))) Via.refl e0 hp0 (g := (mkF m 1 #[.val (.ref r0)] [(.ref r0)])) rfl rfl (hb hby d9_1)
  refine own_go (T' := T1) (g' := (mkF m 4 #[.val (.ref r0)] [(.ref d1)])) (fun _ k => st1 _ k) ?_
  obtain ⟨cl2, Ar2, q12, q22, q32, H2, G2⟩ := id hp1
  have st2 := X1.arraylength hx (by rw [e1]; exact Ar2.1) (State.isArrayOf_alike hZ.alike Ar2.2.1) (g := (mkF m 4 #[.val (.ref r0)] [(.ref d1)])) rfl rfl (hb hby d9_4)
  rw [len_of q22 q32] at st2
  refine own_go (T' := T1) (g' := (mkF m 5 #[.val (.ref r0)] [(.int (2 : Int32))])) (fun _ k => st2 _ k) ?_
  refine own_go (T' := T1) (g' := (mkF m 12 #[.val (.ref r0)] [])) (fun _ k => XS.ifYes X1.here hx rfl (pc0 := 5) (pc' := 12) rfl (hb hby d9_5) rfl (XT.i0_ne_t (by decide : ¬ ((2 : Int32) = (0 : Int32)))) (by decide) (by decide) k) ?_
  refine own_go (T' := T1) (g' := (mkF m 13 #[.val (.ref r0)] [(.int (0 : Int32))])) (fun _ k => XS.iconst X1.here hx rfl (hb hby d9_12) k) ?_
  exact own_retN X1 hx (t := .boolean) Bd.returns hlk (by simp) (hb hby d9_13) e1 ⟨(by unfold own_emp2; first | rfl | done), N0, rfl⟩ (by decide) (by decide)
def Q_rmSrv2 (Z : State) (r0 : Addr) (r1 : Addr) (p2 : Int32) (d1 : Addr) (kk : ClassId) (v0 : Int32) (v1 : Int32) (h0 : Heap) (n0 : Nat) (v : Option Value) (h : Heap) (L : List Loc) : Prop := v = none ∧ Fr n0 L ∧ Keep h0 h [r0] ∧ Fld Z h r0 "com/example/node_ring/nodering/pool/Server" "name" "Ljava/lang/String;" (.ref r1) ∧ Fld Z h r0 "com/example/node_ring/nodering/pool/Server" "weight" "I" (.int p2) ∧ Exa Z h r0 "com/example/node_ring/nodering/pool/Server"
theorem ef_rmSrv2 (m : MethodId) (x0 : Addr) (x1 : Addr) (x2 : Int32) : entryFrame m #[(.ref x0), (.ref x1), (.int x2)] 3 = mkF m 0 #[.val (.ref x0), .val (.ref x1), .val (.int x2)] [] := by first | (simp [entryFrame, mkF, argsToLocals, Value.category]; done) | rfl
theorem pn_rmSrv2 : plainName "com/example/node_ring/nodering/pool/Server" = true := by first | (simp [plainName, overriddenIn]; done) | decide +kernel
set_option maxRecDepth 65536 in
set_option maxHeartbeats 40000000 in
theorem rmSrv2 (l : Launch) (Z : State) (a0 : Array Value) (hw : ∀ d ∈ tables_1, d.before a0 Z = true) (ws : List Jvm.Cond) (r0 : Addr) (r1 : Addr) (p2 : Int32) (d1 : Addr) (kk : ClassId) (v0 : Int32) (v1 : Int32) (h0 : Heap) (n0 : Nat) (Z0 : n0 ≤ h0.size) (hp0 : Exa Z h0 r0 "com/example/node_ring/nodering/pool/Server") (hp1 : n0 ≤ r0) (hp2 : Fld Z h0 r0 "com/example/node_ring/nodering/pool/Server" "name" "Ljava/lang/String;" .null) (hp3 : Fld Z h0 r0 "com/example/node_ring/nodering/pool/Server" "weight" "I" (.int (0 : Int32))) (hp4 : Exa Z h0 r1 "java/lang/String") (hp5 : Fld Z h0 r1 "java/lang/String" "value" "[B" (.ref d1)) (hp6 : Arv Z h0 d1 kk .byte (2 : Int32) [(.int v0), (.int v1)] (.int (0 : Int32))) (hh0 : ¬ p2 < (0 : Int32)) :
    MetFree l (⟨"com/example/node_ring/nodering/pool/Server", "<init>", "(Ljava/lang/String;I)V"⟩ : MethodName) (head1 (Jvm.Cond.code (⟨"com/example/node_ring/nodering/pool/Server", "<init>", "(Ljava/lang/String;I)V"⟩ : MethodName) prog_13_method_1_code 3 none :: ws) ({ frames := 1, cells := 2, slots := 20, locals := 13 } : Room)) (fun a U => a = #[(.ref r0), (.ref r1), (.int p2)] ∧ Z.Warmed39 U.vm ∧ U.heap = h0) (fun _ _ _ _ _ => True) (fun _ U o U' => ∃ v L, o = .returned v ∧ Q_rmSrv2 Z r0 r1 p2 d1 kk v0 v1 h0 n0 v U'.heap L ∧ ReturnedEndW U o U' L ({ frames := 1, cells := 2, slots := 20, locals := 13 } : Room).cells ({ frames := 1, cells := 2, slots := 20, locals := 13 } : Room).slots) := by
  refine MetFree.of_bodySF (plainFor_of_name pn_rmSrv2) hisR ?_
  intro p e s m args below meth c s₁ Bd hml0 hP hK
  obtain ⟨rfl, hZ, hh⟩ := hP
  have hx := Bd.exec
  have hby := Bd.bytes
  have hml : c.maxLocals = 3 := hml0
  have hown : s.vm.findClass "com/example/node_ring/nodering/pool/Server" = some m.cls := findClass_of_methodNamed Bd.named
  have hnm := (name_of_methodNamed Bd.named Bd.method).1
  have hlk : meth.locks = false := BodyLoose.notSynchronized Bd
  have X0 : Stand p l e ({ frames := 1, cells := 2, slots := 20, locals := 13 } : Room) (s.setVm s.vm) m #[(.ref r0), (.ref r1), (.int p2)] below meth c s₁ [] 0 0 := Stand.of_body Bd
  have e0 : s₁.heap = h0 := by rw [← hh, Bd.state]; rfl
  have N0 := Fr.nil n0
  show own_WS p e below s (Q_rmSrv2 Z r0 r1 p2 d1 kk v0 v1 h0 n0) 2 20 s₁ (entryFrame m #[(.ref r0), (.ref r1), (.int p2)] 3)
  have hS0 : s.Since s.vm 0 := (State.WarmedH.refl s).since 0
  have hk0 : 0 ≤ h0.size := Nat.zero_le _
  refine own_goS (T' := s₁) (g' := (mkF m 0 #[.val (.ref r0), .val (.ref r1), .val (.int p2)] [])) (fun _ k => castTop (ef_rmSrv2 m r0 r1 p2) k) ?_
  refine own_goS (T' := s₁) (g' := (mkF m 1 #[.val (.ref r0), .val (.ref r1), .val (.int p2)] [(.ref r0)])) (fun _ k => XS.aloadN X0.here hx rfl (hb hby d7_0) rfl rfl k) ?_
  obtain ⟨T1, X1, e1, st1⟩ := initO X0 hx hZ hown (hw _ (List.mem_of_getElem? (i := 37) rfl)) (hw _ (List.mem_of_getElem? (i := 13) rfl)) (hw _ (List.mem_of_getElem? (i := 14) rfl)) e0 (g := (mkF m 1 #[.val (.ref r0), .val (.ref r1), .val (.int p2)] [(.ref r0)])) rfl (by rw [hml]; rfl) rfl (hb hby d7_1) (by decide) (W := 0) (by show 2 * 0 + _ ≤ _; exact Nat.le_of_eq rfl) (by decide)
  refine own_goS (T' := T1) (g' := (mkF m 4 #[.val (.ref r0), .val (.ref r1), .val (.int p2)] [])) (fun _ k => st1 _ k) ?_
  refine own_goS (T' := T1) (g' := (mkF m 5 #[.val (.ref r0), .val (.ref r1), .val (.int p2)] [(.ref r1)])) (fun _ k => XS.aloadN X1.here hx rfl (hb hby d7_4) rfl rfl k) ?_
  obtain ⟨lt2, T2, h2, k2, X2, e2, E2, hS2, hk2, hZ2, hown2, st2⟩ := ldcS X1 hx hZ hown (hw _ (List.mem_of_getElem? (i := 38) rfl)) (own_wS hw) e1 hS0 hk0 (g := (mkF m 5 #[.val (.ref r0), .val (.ref r1), .val (.int p2)] [(.ref r1)])) rfl (hb hby d7_5) (n := 16) (by decide) (by decide) (by decide) (by decide)
  have f3 : Exa Z h2 r0 "com/example/node_ring/nodering/pool/Server" := (hp0.ext E2)
  have f4 : Fld Z h2 r0 "com/example/node_ring/nodering/pool/Server" "name" "Ljava/lang/String;" .null := (hp2.ext E2)
  have f5 : Fld Z h2 r0 "com/example/node_ring/nodering/pool/Server" "weight" "I" (.int (0 : Int32)) := (hp3.ext E2)
  have f6 : Exa Z h2 r1 "java/lang/String" := (hp4.ext E2)
  have f7 : Fld Z h2 r1 "java/lang/String" "value" "[B" (.ref d1) := (hp5.ext E2)
  have f8 : Arv Z h2 d1 kk .byte (2 : Int32) [(.int v0), (.int v1)] (.int (0 : Int32)) := (hp6.ext E2)
  have kk2 : Keep h0 h2 [r0] := (Keep.refl h0 [r0]).ext E2
  have zs2 : n0 ≤ h2.size := Nat.le_trans Z0 E2.1
  refine own_goS (T' := T2) (g' := (mkF m 7 #[.val (.ref r0), .val (.ref r1), .val (.int p2)] [(.ref lt2), (.ref r1)])) (fun _ k => st2 _ k) ?_
  obtain ⟨_, _, ⟨T9, L9, k9, n9⟩, -, X9, ⟨Lc9, hQ9, l9, y9, z9⟩, st9⟩ := Jvm.LawKit.callS X2 hx (y := (⟨"java/util/Objects", "requireNonNull", "(Ljava/lang/Object;Ljava/lang/String;)Ljava/lang/Object;"⟩ : MethodName)) hown2 (mvT hZ2 (hw _ (List.mem_of_getElem? (i := 41) rfl))) (mvT hZ2 (hw _ (List.mem_of_getElem? (i := 42) rfl))) (mvT hZ2 (hw _ (List.mem_of_getElem? (i := 43) rfl))) (mvT hZ2 (hw _ (List.mem_of_getElem? (i := 44) rfl))) (by decide) (backOf (W := 0) (rmNN l Z a0 hw [] r1 lt2 h2 n0 zs2 ) hZ2 (hw _ (List.mem_of_getElem? (i := 44) rfl)) (hw _ (List.mem_of_getElem? (i := 43) rfl)) (by decide) (by decide)) (g := (mkF m 7 #[.val (.ref r0), .val (.ref r1), .val (.int p2)] [(.ref lt2), (.ref r1)])) rfl (by rw [hml]; rfl) (argsL := [(.ref r1), (.ref lt2)]) (rest := []) (lenOf own_pd4 rfl) rfl (by show 2 * 0 + _ ≤ _; exact Nat.le_of_eq rfl) (hb hby d7_7) (fun _ _ => ⟨rfl, e2, (by decide : 2 + 0 ≤ _), (by decide : 20 + 0 ≤ _)⟩)
  dsimp only [Pt.U, Pt.locs, Pt.cells, Pt.slots] at X9 l9 y9 z9 st9 hQ9
  subst l9 y9 z9
  obtain ⟨rfl, N9q, e9⟩ := hQ9
  have N9 := Fr.app N0 N9q
  refine own_goS (T' := T9) (g' := (mkF m 10 #[.val (.ref r0), .val (.ref r1), .val (.int p2)] [(.ref r1)])) (fun _ k => st9 _ k) ?_
  refine own_goS (T' := T9) (g' := (mkF m 11 #[.val (.ref r0), .val (.ref r1), .val (.int p2)] [])) (fun _ k => XT.pop X9.here hx rfl (hb hby d7_10) rfl rfl k) ?_
  refine own_goS (T' := T9) (g' := (mkF m 12 #[.val (.ref r0), .val (.ref r1), .val (.int p2)] [(.ref r1)])) (fun _ k => XS.aloadN X9.here hx rfl (hb hby d7_11) rfl rfl k) ?_
  obtain ⟨cq10, kq10, q10a, q10b, q10c⟩ := isOf hZ2 e9 f6
  obtain ⟨_, _, ⟨T10, L10, k10, n10⟩, -, X10, ⟨Lc10, hQ10, l10, y10, z10⟩, st10⟩ := X9.virtualBack hx (y := (⟨"java/lang/String", "isEmpty", "()Z"⟩ : MethodName)) (z := (⟨"java/lang/String", "isEmpty", "()Z"⟩ : MethodName)) hown2 (mvT hZ2 (hw _ (List.mem_of_getElem? (i := 45) rfl))) (mvT hZ2 (hw _ (List.mem_of_getElem? (i := 46) rfl))) (notFace_of_selects (args := #[]) (mvT hZ2 (hw _ (List.mem_of_getElem? (i := 48) rfl)))) (mvT hZ2 (hw _ (List.mem_of_getElem? (i := 48) rfl))) (mvT hZ2 (hw _ (List.mem_of_getElem? (i := 47) rfl))) (by decide) (backOf (W := 0) (rmEmp2 l Z a0 hw [] r1 d1 kk v0 v1 h2 n0 zs2 f7 f8) hZ2 (hw _ (List.mem_of_getElem? (i := 49) rfl)) (hw _ (List.mem_of_getElem? (i := 3) rfl)) (by decide) (by decide)) q10a q10c (g := (mkF m 12 #[.val (.ref r0), .val (.ref r1), .val (.int p2)] [(.ref r1)])) rfl (by rw [hml]; rfl) (Steps.refl _) (argsL := []) (rest := []) (lenOf own_pd5 rfl) rfl (by show 2 * 0 + _ ≤ _; exact Nat.le_of_eq rfl) (hb hby d7_12) (fun _ _ => ⟨rfl, e9, (by decide : 2 + 0 ≤ _), (by decide : 20 + 0 ≤ _)⟩)
  dsimp only [Pt.U, Pt.locs, Pt.cells, Pt.slots] at X10 l10 y10 z10 st10 hQ10
  subst l10 y10 z10
  obtain ⟨rfl, N10q, e10⟩ := hQ10
  have N10 := Fr.app N9 N10q
  refine own_goS (T' := T10) (g' := (mkF m 15 #[.val (.ref r0), .val (.ref r1), .val (.int p2)] [(.int (own_emp2 r1 d1 kk v0 v1))])) (fun _ k => st10.trans k) ?_
  refine own_goS (T' := T10) (g' := (mkF m 28 #[.val (.ref r0), .val (.ref r1), .val (.int p2)] [])) (fun _ k => XS.ifYes X10.here hx rfl (pc0 := 15) (pc' := 28) rfl (hb hby d7_15) rfl (XT.i0_eq_t (by rfl)) (by decide) (by decide) k) ?_
  refine own_goS (T' := T10) (g' := (mkF m 29 #[.val (.ref r0), .val (.ref r1), .val (.int p2)] [(.int p2)])) (fun _ k => XS.iloadN X10.here hx rfl (hb hby d7_28) rfl k) ?_
  refine own_goS (T' := T10) (g' := (mkF m 47 #[.val (.ref r0), .val (.ref r1), .val (.int p2)] [])) (fun _ k => XS.ifYes X10.here hx rfl (pc0 := 29) (pc' := 47) rfl (hb hby d7_29) rfl (XT.i0_ge_t hh0) (by decide) (by decide) k) ?_
  refine own_goS (T' := T10) (g' := (mkF m 48 #[.val (.ref r0), .val (.ref r1), .val (.int p2)] [(.ref r0)])) (fun _ k => XS.aloadN X10.here hx rfl (hb hby d7_47) rfl rfl k) ?_
  refine own_goS (T' := T10) (g' := (mkF m 49 #[.val (.ref r0), .val (.ref r1), .val (.int p2)] [(.ref r1), (.ref r0)])) (fun _ k => XS.aloadN X10.here hx rfl (hb hby d7_48) rfl rfl k) ?_
  obtain ⟨T11, h11, X11, e11, W11, st11⟩ := putF X10 hx hZ2 hown2 (host := "") (Or.inl (hw _ (List.mem_of_getElem? (i := 50) rfl))) Via.refl e10 f4 f3 (Or.inr ⟨(hw _ (List.mem_of_getElem? (i := 51) rfl)), rfl, hnm⟩) (hw _ (List.mem_of_getElem? (i := 32) rfl)) (ty := (.object "java/lang/String")) (by decide) rfl rfl (g := (mkF m 49 #[.val (.ref r0), .val (.ref r1), .val (.int p2)] [(.ref r1), (.ref r0)])) rfl rfl (hb hby d7_49)
  have f12 : Exa Z h11 r0 "com/example/node_ring/nodering/pool/Server" := (f3.wr W11)
  have f13 : Fld Z h11 r0 "com/example/node_ring/nodering/pool/Server" "weight" "I" (.int (0 : Int32)) := (f5.other W11 (Or.inr (slot_ne (Or.inr (hw _ (List.mem_of_getElem? (i := 53) rfl))) (Or.inr (hw _ (List.mem_of_getElem? (i := 51) rfl))) (by decide) (t := .int) (t' := (.object "java/lang/String")) (by decide) (by decide))))
  have f14 : Exa Z h11 r1 "java/lang/String" := (f6.wr W11)
  have fw11 : Fld Z h11 r0 "com/example/node_ring/nodering/pool/Server" "name" "Ljava/lang/String;" (.ref r1) := f4.same W11
  have N11 := Fr.snoc X11 N10 hp1
  have zs11 : n0 ≤ h11.size := by rw [W11.size]; exact zs2
  have kk11 : Keep h0 h11 [r0] := kk2.wr W11 (Or.inl (List.mem_of_getElem? (i := 0) rfl))
  have hk15 := Nat.le_trans hk2 (Nat.le_of_eq W11.size.symm)
  refine own_goS (T' := T11) (g' := (mkF m 52 #[.val (.ref r0), .val (.ref r1), .val (.int p2)] [])) (fun _ k => st11 _ k) ?_
  refine own_goS (T' := T11) (g' := (mkF m 53 #[.val (.ref r0), .val (.ref r1), .val (.int p2)] [(.ref r0)])) (fun _ k => XS.aloadN X11.here hx rfl (hb hby d7_52) rfl rfl k) ?_
  refine own_goS (T' := T11) (g' := (mkF m 54 #[.val (.ref r0), .val (.ref r1), .val (.int p2)] [(.int p2), (.ref r0)])) (fun _ k => XS.iloadN X11.here hx rfl (hb hby d7_53) rfl k) ?_
  obtain ⟨T16, h16, X16, e16, W16, st16⟩ := putF X11 hx hZ2 hown2 (host := "") (Or.inl (hw _ (List.mem_of_getElem? (i := 52) rfl))) Via.refl e11 f13 f12 (Or.inr ⟨(hw _ (List.mem_of_getElem? (i := 53) rfl)), rfl, hnm⟩) (hw _ (List.mem_of_getElem? (i := 32) rfl)) (ty := .int) (by decide) rfl rfl (g := (mkF m 54 #[.val (.ref r0), .val (.ref r1), .val (.int p2)] [(.int p2), (.ref r0)])) rfl rfl (hb hby d7_54)
  have f17 : Exa Z h16 r0 "com/example/node_ring/nodering/pool/Server" := (f12.wr W16)
  have f18 : Exa Z h16 r1 "java/lang/String" := (f14.wr W16)
  have f19 : Fld Z h16 r0 "com/example/node_ring/nodering/pool/Server" "name" "Ljava/lang/String;" (.ref r1) := (fw11.other W16 (Or.inr (slot_ne (Or.inr (hw _ (List.mem_of_getElem? (i := 51) rfl))) (Or.inr (hw _ (List.mem_of_getElem? (i := 53) rfl))) (by decide) (t := (.object "java/lang/String")) (t' := .int) (by decide) (by decide))))
  have fw16 : Fld Z h16 r0 "com/example/node_ring/nodering/pool/Server" "weight" "I" (.int p2) := f13.same W16
  have N16 := Fr.snoc X16 N11 hp1
  have zs16 : n0 ≤ h16.size := by rw [W16.size]; exact zs11
  have kk16 : Keep h0 h16 [r0] := kk11.wr W16 (Or.inl (List.mem_of_getElem? (i := 0) rfl))
  have hk20 := Nat.le_trans hk15 (Nat.le_of_eq W16.size.symm)
  refine own_goS (T' := T16) (g' := (mkF m 57 #[.val (.ref r0), .val (.ref r1), .val (.int p2)] [])) (fun _ k => st16 _ k) ?_
  exact own_ret0S X16 hS2 hx Bd.returns hlk (hb hby d7_57) e16 hk20 ⟨rfl, N16, kk16, f19, fw16, f17⟩ (by decide) (by decide)
def own_l11 (r0 : Addr) (r1 : Addr) (ka : ClassId) (v0 : Int32) (kb : ClassId) (w0 : Int32) : Int32 := (if v0 = w0 then (1 : Int32) else (0 : Int32))
theorem d12_0 : decode jdk_43_method_13_code 0 = .ok (.aload_n 0, 1) := by decide +kernel
theorem d12_1 : decode jdk_43_method_13_code 1 = .ok (.arraylength, 1) := by decide +kernel
theorem d12_2 : decode jdk_43_method_13_code 2 = .ok (.aload_n 1, 1) := by decide +kernel
theorem d12_3 : decode jdk_43_method_13_code 3 = .ok (.arraylength, 1) := by decide +kernel
theorem d12_4 : decode jdk_43_method_13_code 4 = .ok (.if_icmp .ne 30, 3) := by decide +kernel
theorem d12_7 : decode jdk_43_method_13_code 7 = .ok (.iconst 0, 1) := by decide +kernel
theorem d12_8 : decode jdk_43_method_13_code 8 = .ok (.istore_n 2, 1) := by decide +kernel
theorem d12_9 : decode jdk_43_method_13_code 9 = .ok (.iload_n 2, 1) := by decide +kernel
theorem d12_10 : decode jdk_43_method_13_code 10 = .ok (.aload_n 0, 1) := by decide +kernel
theorem d12_11 : decode jdk_43_method_13_code 11 = .ok (.arraylength, 1) := by decide +kernel
theorem d12_12 : decode jdk_43_method_13_code 12 = .ok (.if_icmp .ge 20, 3) := by decide +kernel
theorem d12_15 : decode jdk_43_method_13_code 15 = .ok (.aload_n 0, 1) := by decide +kernel
theorem d12_16 : decode jdk_43_method_13_code 16 = .ok (.iload_n 2, 1) := by decide +kernel
theorem d12_17 : decode jdk_43_method_13_code 17 = .ok (.baload, 1) := by decide +kernel
theorem d12_18 : decode jdk_43_method_13_code 18 = .ok (.aload_n 1, 1) := by decide +kernel
theorem d12_19 : decode jdk_43_method_13_code 19 = .ok (.iload_n 2, 1) := by decide +kernel
theorem d12_20 : decode jdk_43_method_13_code 20 = .ok (.baload, 1) := by decide +kernel
theorem d12_21 : decode jdk_43_method_13_code 21 = .ok (.if_icmp .eq 5, 3) := by decide +kernel
theorem d12_24 : decode jdk_43_method_13_code 24 = .ok (.iconst 0, 1) := by decide +kernel
theorem d12_25 : decode jdk_43_method_13_code 25 = .ok (.ireturn, 1) := by decide +kernel
theorem d12_26 : decode jdk_43_method_13_code 26 = .ok (.iinc 2 1, 3) := by decide +kernel
theorem d12_29 : decode jdk_43_method_13_code 29 = .ok (.goto (-20), 3) := by decide +kernel
theorem d12_32 : decode jdk_43_method_13_code 32 = .ok (.iconst 1, 1) := by decide +kernel
theorem d12_33 : decode jdk_43_method_13_code 33 = .ok (.ireturn, 1) := by decide +kernel
def Q_rmL11 (Z : State) (r0 : Addr) (r1 : Addr) (ka : ClassId) (v0 : Int32) (kb : ClassId) (w0 : Int32) (h0 : Heap) (n0 : Nat) (v : Option Value) (h : Heap) (L : List Loc) : Prop := v = some (.int (own_l11 r0 r1 ka v0 kb w0)) ∧ Fr n0 L ∧ h = h0
theorem ef_rmL11 (m : MethodId) (x0 : Addr) (x1 : Addr) : entryFrame m #[(.ref x0), (.ref x1)] 3 = mkF m 0 #[.val (.ref x0), .val (.ref x1), .unset] [] := by first | (simp [entryFrame, mkF, argsToLocals, Value.category]; done) | rfl
theorem pn_rmL11 : plainName "java/lang/StringLatin1" = true := by first | (simp [plainName, overriddenIn]; done) | decide +kernel
set_option maxRecDepth 65536 in
set_option maxHeartbeats 40000000 in
theorem rmL11 (l : Launch) (Z : State) (a0 : Array Value) (hw : ∀ d ∈ tables_1, d.before a0 Z = true) (ws : List Jvm.Cond) (r0 : Addr) (r1 : Addr) (ka : ClassId) (v0 : Int32) (kb : ClassId) (w0 : Int32) (h0 : Heap) (n0 : Nat) (Z0 : n0 ≤ h0.size) (hp0 : Arv Z h0 r0 ka .byte (1 : Int32) [(.int v0)] (.int (0 : Int32))) (hp1 : Arv Z h0 r1 kb .byte (1 : Int32) [(.int w0)] (.int (0 : Int32))) :
    MetFree l (⟨"java/lang/StringLatin1", "equals", "([B[B)Z"⟩ : MethodName) (head1 (Jvm.Cond.code (⟨"java/lang/StringLatin1", "equals", "([B[B)Z"⟩ : MethodName) jdk_43_method_13_code 3 (some .boolean) :: ws) ({ frames := 0, cells := 0, slots := 0, locals := 0 } : Room)) (fun a U => a = #[(.ref r0), (.ref r1)] ∧ Z.Warmed39 U.vm ∧ U.heap = h0) (fun _ _ _ _ _ => True) (fun _ U o U' => ∃ v L, o = .returned v ∧ Q_rmL11 Z r0 r1 ka v0 kb w0 h0 n0 v U'.heap L ∧ FrameEnd U o U' L ({ frames := 0, cells := 0, slots := 0, locals := 0 } : Room).cells ({ frames := 0, cells := 0, slots := 0, locals := 0 } : Room).slots) := by
  refine MetFree.of_bodySF (plainFor_of_name pn_rmL11) hisR ?_
  intro p e s m args below meth c s₁ Bd hml0 hP hK
  obtain ⟨rfl, hZ, hh⟩ := hP
  have hx := Bd.exec
  have hby := Bd.bytes
  have hml : c.maxLocals = 3 := hml0
  have hown : s.vm.findClass "java/lang/StringLatin1" = some m.cls := findClass_of_methodNamed Bd.named
  have hnm := (name_of_methodNamed Bd.named Bd.method).1
  have hlk : meth.locks = false := BodyLoose.notSynchronized Bd
  have X0 : Stand p l e ({ frames := 0, cells := 0, slots := 0, locals := 0 } : Room) s m #[(.ref r0), (.ref r1)] below meth c s₁ [] 0 0 := Stand.of_body Bd
  have e0 : s₁.heap = h0 := by rw [← hh, Bd.state]; rfl
  have N0 := Fr.nil n0
  show own_W p e below s (Q_rmL11 Z r0 r1 ka v0 kb w0 h0 n0) 0 0 s₁ (entryFrame m #[(.ref r0), (.ref r1)] 3)
  skip
  skip
  refine own_go (T' := s₁) (g' := (mkF m 0 #[.val (.ref r0), .val (.ref r1), .unset] [])) (fun _ k => castTop (ef_rmL11 m r0 r1) k) ?_
  refine own_go (T' := s₁) (g' := (mkF m 1 #[.val (.ref r0), .val (.ref r1), .unset] [(.ref r0)])) (fun _ k => XS.aloadN X0.here hx rfl (hb hby d12_0) rfl rfl k) ?_
  obtain ⟨cl1, Ar1, q11, q21, q31, H1, G1⟩ := id hp0
  have st1 := X0.arraylength hx (by rw [e0]; exact Ar1.1) (State.isArrayOf_alike hZ.alike Ar1.2.1) (g := (mkF m 1 #[.val (.ref r0), .val (.ref r1), .unset] [(.ref r0)])) rfl rfl (hb hby d12_1)
  rw [len_of q21 q31] at st1
  refine own_go (T' := s₁) (g' := (mkF m 2 #[.val (.ref r0), .val (.ref r1), .unset] [(.int (1 : Int32))])) (fun _ k => st1 _ k) ?_
  refine own_go (T' := s₁) (g' := (mkF m 3 #[.val (.ref r0), .val (.ref r1), .unset] [(.ref r1), (.int (1 : Int32))])) (fun _ k => XS.aloadN X0.here hx rfl (hb hby d12_2) rfl rfl k) ?_
  obtain ⟨cl2, Ar2, q12, q22, q32, H2, G2⟩ := id hp1
  have st2 := X0.arraylength hx (by rw [e0]; exact Ar2.1) (State.isArrayOf_alike hZ.alike Ar2.2.1) (g := (mkF m 3 #[.val (.ref r0), .val (.ref r1), .unset] [(.ref r1), (.int (1 : Int32))])) rfl rfl (hb hby d12_3)
  rw [len_of q22 q32] at st2
  refine own_go (T' := s₁) (g' := (mkF m 4 #[.val (.ref r0), .val (.ref r1), .unset] [(.int (1 : Int32)), (.int (1 : Int32))])) (fun _ k => st2 _ k) ?_
  refine own_go (T' := s₁) (g' := (mkF m 7 #[.val (.ref r0), .val (.ref r1), .unset] [])) (fun _ k => XS.icmpNo X0.here hx rfl (hb hby d12_4) rfl (XT.ii_ne_f (rfl : (1 : Int32) = (1 : Int32))) k) ?_
  refine own_go (T' := s₁) (g' := (mkF m 8 #[.val (.ref r0), .val (.ref r1), .unset] [(.int (0 : Int32))])) (fun _ k => XS.iconst X0.here hx rfl (hb hby d12_7) k) ?_
  refine own_go (T' := s₁) (g' := (mkF m 9 #[.val (.ref r0), .val (.ref r1), .val (.int (0 : Int32))] [])) (fun _ k => XS.istoreN X0.here hx rfl (hb hby d12_8) rfl (l' := #[.val (.ref r0), .val (.ref r1), .val (.int (0 : Int32))]) rfl k) ?_
  refine own_go (T' := s₁) (g' := (mkF m 10 #[.val (.ref r0), .val (.ref r1), .val (.int (0 : Int32))] [(.int (0 : Int32))])) (fun _ k => XS.iloadN X0.here hx rfl (hb hby d12_9) rfl k) ?_
  refine own_go (T' := s₁) (g' := (mkF m 11 #[.val (.ref r0), .val (.ref r1), .val (.int (0 : Int32))] [(.ref r0), (.int (0 : Int32))])) (fun _ k => XS.aloadN X0.here hx rfl (hb hby d12_10) rfl rfl k) ?_
  obtain ⟨cl3, Ar3, q13, q23, q33, H3, G3⟩ := id hp0
  have st3 := X0.arraylength hx (by rw [e0]; exact Ar3.1) (State.isArrayOf_alike hZ.alike Ar3.2.1) (g := (mkF m 11 #[.val (.ref r0), .val (.ref r1), .val (.int (0 : Int32))] [(.ref r0), (.int (0 : Int32))])) rfl rfl (hb hby d12_11)
  rw [len_of q23 q33] at st3
  refine own_go (T' := s₁) (g' := (mkF m 12 #[.val (.ref r0), .val (.ref r1), .val (.int (0 : Int32))] [(.int (1 : Int32)), (.int (0 : Int32))])) (fun _ k => st3 _ k) ?_
  refine own_go (T' := s₁) (g' := (mkF m 15 #[.val (.ref r0), .val (.ref r1), .val (.int (0 : Int32))] [])) (fun _ k => XS.icmpNo X0.here hx rfl (hb hby d12_12) rfl (XT.ii_ge_f (by decide : (0 : Int32) < (1 : Int32))) k) ?_
  refine own_go (T' := s₁) (g' := (mkF m 16 #[.val (.ref r0), .val (.ref r1), .val (.int (0 : Int32))] [(.ref r0)])) (fun _ k => XS.aloadN X0.here hx rfl (hb hby d12_15) rfl rfl k) ?_
  refine own_go (T' := s₁) (g' := (mkF m 17 #[.val (.ref r0), .val (.ref r1), .val (.int (0 : Int32))] [(.int (0 : Int32)), (.ref r0)])) (fun _ k => XS.iloadN X0.here hx rfl (hb hby d12_16) rfl k) ?_
  obtain ⟨cl4, Ar4, q14, q24, q34, H4, G4⟩ := id hp0
  have hin4 := inb_of q24 (j := (0 : Int32)) (by decide)
  refine own_go (T' := s₁) (g' := (mkF m 18 #[.val (.ref r0), .val (.ref r1), .val (.int (0 : Int32))] [(.int v0)])) (fun _ k => X0.baloadBytes hx (j := (0 : Int32)) (v := (.int v0)) (by rw [e0]; exact Ar4.1) (State.isArrayOf_alike hZ.alike Ar4.2.1) Ar4.2.2 hin4 (Has.at H4 hin4 rfl) (g := (mkF m 17 #[.val (.ref r0), .val (.ref r1), .val (.int (0 : Int32))] [(.int (0 : Int32)), (.ref r0)])) rfl rfl (hb hby d12_17) _ k) ?_
  refine own_go (T' := s₁) (g' := (mkF m 19 #[.val (.ref r0), .val (.ref r1), .val (.int (0 : Int32))] [(.ref r1), (.int v0)])) (fun _ k => XS.aloadN X0.here hx rfl (hb hby d12_18) rfl rfl k) ?_
  refine own_go (T' := s₁) (g' := (mkF m 20 #[.val (.ref r0), .val (.ref r1), .val (.int (0 : Int32))] [(.int (0 : Int32)), (.ref r1), (.int v0)])) (fun _ k => XS.iloadN X0.here hx rfl (hb hby d12_19) rfl k) ?_
  obtain ⟨cl5, Ar5, q15, q25, q35, H5, G5⟩ := id hp1
  have hin5 := inb_of q25 (j := (0 : Int32)) (by decide)
  refine own_go (T' := s₁) (g' := (mkF m 21 #[.val (.ref r0), .val (.ref r1), .val (.int (0 : Int32))] [(.int w0), (.int v0)])) (fun _ k => X0.baloadBytes hx (j := (0 : Int32)) (v := (.int w0)) (by rw [e0]; exact Ar5.1) (State.isArrayOf_alike hZ.alike Ar5.2.1) Ar5.2.2 hin5 (Has.at H5 hin5 rfl) (g := (mkF m 20 #[.val (.ref r0), .val (.ref r1), .val (.int (0 : Int32))] [(.int (0 : Int32)), (.ref r1), (.int v0)])) rfl rfl (hb hby d12_20) _ k) ?_
  by_cases hc21_6 : v0 = w0
  · skip
    refine own_go (T' := s₁) (g' := (mkF m 26 #[.val (.ref r0), .val (.ref r1), .val (.int (0 : Int32))] [])) (fun _ k => XS.icmpYes X0.here hx rfl (pc0 := 21) (pc' := 26) rfl (hb hby d12_21) rfl (XT.ii_eq_t hc21_6) (by decide) (by decide) k) ?_
    refine own_go (T' := s₁) (g' := (mkF m 29 #[.val (.ref r0), .val (.ref r1), .val (.int (1 : Int32))] [])) (fun _ k => XS.iinc X0.here hx rfl (hb hby d12_26) rfl (l' := #[.val (.ref r0), .val (.ref r1), .val (.int (1 : Int32))]) rfl k) ?_
    refine own_go (T' := s₁) (g' := (mkF m 9 #[.val (.ref r0), .val (.ref r1), .val (.int (1 : Int32))] [])) (fun _ k => XS.goto X0.here hx rfl (pc0 := 29) (pc' := 9) rfl (hb hby d12_29) (by decide) (by decide) k) ?_
    refine own_go (T' := s₁) (g' := (mkF m 10 #[.val (.ref r0), .val (.ref r1), .val (.int (1 : Int32))] [(.int (1 : Int32))])) (fun _ k => XS.iloadN X0.here hx rfl (hb hby d12_9) rfl k) ?_
    refine own_go (T' := s₁) (g' := (mkF m 11 #[.val (.ref r0), .val (.ref r1), .val (.int (1 : Int32))] [(.ref r0), (.int (1 : Int32))])) (fun _ k => XS.aloadN X0.here hx rfl (hb hby d12_10) rfl rfl k) ?_
    obtain ⟨cl7, Ar7, q17, q27, q37, H7, G7⟩ := id hp0
    have st7 := X0.arraylength hx (by rw [e0]; exact Ar7.1) (State.isArrayOf_alike hZ.alike Ar7.2.1) (g := (mkF m 11 #[.val (.ref r0), .val (.ref r1), .val (.int (1 : Int32))] [(.ref r0), (.int (1 : Int32))])) rfl rfl (hb hby d12_11)
    rw [len_of q27 q37] at st7
    refine own_go (T' := s₁) (g' := (mkF m 12 #[.val (.ref r0), .val (.ref r1), .val (.int (1 : Int32))] [(.int (1 : Int32)), (.int (1 : Int32))])) (fun _ k => st7 _ k) ?_
    refine own_go (T' := s₁) (g' := (mkF m 32 #[.val (.ref r0), .val (.ref r1), .val (.int (1 : Int32))] [])) (fun _ k => XS.icmpYes X0.here hx rfl (pc0 := 12) (pc' := 32) rfl (hb hby d12_12) rfl (XT.ii_ge_t (by decide : ¬ ((1 : Int32) < (1 : Int32)))) (by decide) (by decide) k) ?_
    refine own_go (T' := s₁) (g' := (mkF m 33 #[.val (.ref r0), .val (.ref r1), .val (.int (1 : Int32))] [(.int (1 : Int32))])) (fun _ k => XS.iconst X0.here hx rfl (hb hby d12_32) k) ?_
    exact own_retN X0 hx (t := .boolean) Bd.returns hlk (by simp) (hb hby d12_33) e0 ⟨(by unfold own_l11; first | (rw [if_pos hc21_6]; done) | (rw [if_pos hc21_6]; rfl)), N0, rfl⟩ (by decide) (by decide)
  · skip
    refine own_go (T' := s₁) (g' := (mkF m 24 #[.val (.ref r0), .val (.ref r1), .val (.int (0 : Int32))] [])) (fun _ k => XS.icmpNo X0.here hx rfl (hb hby d12_21) rfl (XT.ii_eq_f hc21_6) k) ?_
    refine own_go (T' := s₁) (g' := (mkF m 25 #[.val (.ref r0), .val (.ref r1), .val (.int (0 : Int32))] [(.int (0 : Int32))])) (fun _ k => XS.iconst X0.here hx rfl (hb hby d12_24) k) ?_
    exact own_retN X0 hx (t := .boolean) Bd.returns hlk (by simp) (hb hby d12_25) e0 ⟨(by unfold own_l11; first | (rw [if_neg hc21_6]; done) | (rw [if_neg hc21_6]; rfl)), N0, rfl⟩ (by decide) (by decide)
def own_q11 (r0 : Addr) (r1 : Addr) (da : Addr) (ka : ClassId) (v0 : Int32) (db : Addr) (kb : ClassId) (w0 : Int32) (cs : Int32) : Int32 := (if (own_l11 da db ka v0 kb w0) = (0 : Int32) then (0 : Int32) else (1 : Int32))
theorem own_pd6 : parseMethodDescriptor "([B[B)Z" = some ⟨[(.array .byte), (.array .byte)], some .boolean⟩ := by decide +kernel
theorem d11_0 : decode jdk_42_method_66_code 0 = .ok (.aload_n 0, 1) := by decide +kernel
theorem d11_1 : decode jdk_42_method_66_code 1 = .ok (.aload_n 1, 1) := by decide +kernel
theorem d11_2 : decode jdk_42_method_66_code 2 = .ok (.if_acmp .ne 5, 3) := by decide +kernel
theorem d11_7 : decode jdk_42_method_66_code 7 = .ok (.aload_n 1, 1) := by decide +kernel
theorem d11_8 : decode jdk_42_method_66_code 8 = .ok (.instanceof 10, 3) := by decide +kernel
theorem d11_11 : decode jdk_42_method_66_code 11 = .ok (.ifCond .eq 43, 3) := by decide +kernel
theorem d11_14 : decode jdk_42_method_66_code 14 = .ok (.aload_n 1, 1) := by decide +kernel
theorem d11_15 : decode jdk_42_method_66_code 15 = .ok (.checkcast 10, 3) := by decide +kernel
theorem d11_18 : decode jdk_42_method_66_code 18 = .ok (.astore_n 2, 1) := by decide +kernel
theorem d11_19 : decode jdk_42_method_66_code 19 = .ok (.getstatic 38, 3) := by decide +kernel
theorem d11_22 : decode jdk_42_method_66_code 22 = .ok (.ifCond .eq 14, 3) := by decide +kernel
theorem d11_25 : decode jdk_42_method_66_code 25 = .ok (.aload_n 0, 1) := by decide +kernel
theorem d11_26 : decode jdk_42_method_66_code 26 = .ok (.getfield 15, 3) := by decide +kernel
theorem d11_29 : decode jdk_42_method_66_code 29 = .ok (.aload_n 2, 1) := by decide +kernel
theorem d11_30 : decode jdk_42_method_66_code 30 = .ok (.getfield 15, 3) := by decide +kernel
theorem d11_33 : decode jdk_42_method_66_code 33 = .ok (.if_icmp .ne 21, 3) := by decide +kernel
theorem d11_36 : decode jdk_42_method_66_code 36 = .ok (.aload_n 0, 1) := by decide +kernel
theorem d11_37 : decode jdk_42_method_66_code 37 = .ok (.getfield 9, 3) := by decide +kernel
theorem d11_40 : decode jdk_42_method_66_code 40 = .ok (.aload_n 2, 1) := by decide +kernel
theorem d11_41 : decode jdk_42_method_66_code 41 = .ok (.getfield 9, 3) := by decide +kernel
theorem d11_44 : decode jdk_42_method_66_code 44 = .ok (.invokestatic 541, 3) := by decide +kernel
theorem d11_47 : decode jdk_42_method_66_code 47 = .ok (.ifCond .eq 7, 3) := by decide +kernel
theorem d11_50 : decode jdk_42_method_66_code 50 = .ok (.iconst 1, 1) := by decide +kernel
theorem d11_51 : decode jdk_42_method_66_code 51 = .ok (.goto 4, 3) := by decide +kernel
theorem d11_54 : decode jdk_42_method_66_code 54 = .ok (.iconst 0, 1) := by decide +kernel
theorem d11_55 : decode jdk_42_method_66_code 55 = .ok (.ireturn, 1) := by decide +kernel
def Q_rmQ11 (Z : State) (r0 : Addr) (r1 : Addr) (da : Addr) (ka : ClassId) (v0 : Int32) (db : Addr) (kb : ClassId) (w0 : Int32) (cs : Int32) (h0 : Heap) (n0 : Nat) (v : Option Value) (h : Heap) (L : List Loc) : Prop := v = some (.int (own_q11 r0 r1 da ka v0 db kb w0 cs)) ∧ Fr n0 L ∧ h = h0
theorem ef_rmQ11 (m : MethodId) (x0 : Addr) (x1 : Addr) : entryFrame m #[(.ref x0), (.ref x1)] 3 = mkF m 0 #[.val (.ref x0), .val (.ref x1), .unset] [] := by first | (simp [entryFrame, mkF, argsToLocals, Value.category]; done) | rfl
theorem pn_rmQ11 : plainName "java/lang/String" = true := by first | (simp [plainName, overriddenIn]; done) | decide +kernel
set_option maxRecDepth 65536 in
set_option maxHeartbeats 40000000 in
theorem rmQ11 (l : Launch) (Z : State) (a0 : Array Value) (hw : ∀ d ∈ tables_1, d.before a0 Z = true) (ws : List Jvm.Cond) (r0 : Addr) (r1 : Addr) (da : Addr) (ka : ClassId) (v0 : Int32) (db : Addr) (kb : ClassId) (w0 : Int32) (cs : Int32) (h0 : Heap) (n0 : Nat) (Z0 : n0 ≤ h0.size) (hp0 : Exa Z h0 r0 "java/lang/String") (hp1 : Fld Z h0 r0 "java/lang/String" "coder" "B" (.int (0 : Int32))) (hp2 : Fld Z h0 r0 "java/lang/String" "value" "[B" (.ref da)) (hp3 : Arv Z h0 da ka .byte (1 : Int32) [(.int v0)] (.int (0 : Int32))) (hp4 : Exa Z h0 r1 "java/lang/String") (hp5 : Fld Z h0 r1 "java/lang/String" "coder" "B" (.int (0 : Int32))) (hp6 : Fld Z h0 r1 "java/lang/String" "value" "[B" (.ref db)) (hp7 : Arv Z h0 db kb .byte (1 : Int32) [(.int w0)] (.int (0 : Int32))) (hp8 : Sta Z h0 "java/lang/String" "COMPACT_STRINGS" "Z" (.int cs)) (hh0 : ¬ cs = (0 : Int32)) (hh1 : ¬ r0 = r1) :
    MetFree l (⟨"java/lang/String", "equals", "(Ljava/lang/Object;)Z"⟩ : MethodName) (head1 (Jvm.Cond.code (⟨"java/lang/String", "equals", "(Ljava/lang/Object;)Z"⟩ : MethodName) jdk_42_method_66_code 3 (some .boolean) :: ws) ({ frames := 1, cells := 0, slots := 0, locals := 14 } : Room)) (fun a U => a = #[(.ref r0), (.ref r1)] ∧ Z.Warmed39 U.vm ∧ U.heap = h0) (fun _ _ _ _ _ => True) (fun _ U o U' => ∃ v L, o = .returned v ∧ Q_rmQ11 Z r0 r1 da ka v0 db kb w0 cs h0 n0 v U'.heap L ∧ FrameEnd U o U' L ({ frames := 1, cells := 0, slots := 0, locals := 14 } : Room).cells ({ frames := 1, cells := 0, slots := 0, locals := 14 } : Room).slots) := by
  refine MetFree.of_bodySF (plainFor_of_name pn_rmQ11) hisR ?_
  intro p e s m args below meth c s₁ Bd hml0 hP hK
  obtain ⟨rfl, hZ, hh⟩ := hP
  have hx := Bd.exec
  have hby := Bd.bytes
  have hml : c.maxLocals = 3 := hml0
  have hown : s.vm.findClass "java/lang/String" = some m.cls := findClass_of_methodNamed Bd.named
  have hnm := (name_of_methodNamed Bd.named Bd.method).1
  have hlk : meth.locks = false := BodyLoose.notSynchronized Bd
  have X0 : Stand p l e ({ frames := 1, cells := 0, slots := 0, locals := 14 } : Room) s m #[(.ref r0), (.ref r1)] below meth c s₁ [] 0 0 := Stand.of_body Bd
  have e0 : s₁.heap = h0 := by rw [← hh, Bd.state]; rfl
  have N0 := Fr.nil n0
  show own_W p e below s (Q_rmQ11 Z r0 r1 da ka v0 db kb w0 cs h0 n0) 0 0 s₁ (entryFrame m #[(.ref r0), (.ref r1)] 3)
  skip
  skip
  refine own_go (T' := s₁) (g' := (mkF m 0 #[.val (.ref r0), .val (.ref r1), .unset] [])) (fun _ k => castTop (ef_rmQ11 m r0 r1) k) ?_
  refine own_go (T' := s₁) (g' := (mkF m 1 #[.val (.ref r0), .val (.ref r1), .unset] [(.ref r0)])) (fun _ k => XS.aloadN X0.here hx rfl (hb hby d11_0) rfl rfl k) ?_
  refine own_go (T' := s₁) (g' := (mkF m 2 #[.val (.ref r0), .val (.ref r1), .unset] [(.ref r1), (.ref r0)])) (fun _ k => XS.aloadN X0.here hx rfl (hb hby d11_1) rfl rfl k) ?_
  refine own_go (T' := s₁) (g' := (mkF m 7 #[.val (.ref r0), .val (.ref r1), .unset] [])) (fun _ k => XT.acmpYes X0.here hx rfl (pc0 := 2) (pc' := 7) rfl (hb hby d11_2) rfl rfl rfl (XT.aa_ne_t (fun q => hh1 (Value.ref.inj q))) (by decide) (by decide) k) ?_
  refine own_go (T' := s₁) (g' := (mkF m 8 #[.val (.ref r0), .val (.ref r1), .unset] [(.ref r1)])) (fun _ k => XS.aloadN X0.here hx rfl (hb hby d11_7) rfl rfl k) ?_
  obtain ⟨T1, X1, e1, st1⟩ := instY X0 hx hZ hown (hw _ (List.mem_of_getElem? (i := 66) rfl)) e0 (Ins.self hp4) (g := (mkF m 8 #[.val (.ref r0), .val (.ref r1), .unset] [(.ref r1)])) rfl rfl (hb hby d11_8)
  refine own_go (T' := T1) (g' := (mkF m 11 #[.val (.ref r0), .val (.ref r1), .unset] [(.int (1 : Int32))])) (fun _ k => st1 _ k) ?_
  refine own_go (T' := T1) (g' := (mkF m 14 #[.val (.ref r0), .val (.ref r1), .unset] [])) (fun _ k => XS.ifNo X1.here hx rfl (hb hby d11_11) rfl (XT.i0_eq_f (by decide : ¬ ((1 : Int32) = (0 : Int32)))) k) ?_
  refine own_go (T' := T1) (g' := (mkF m 15 #[.val (.ref r0), .val (.ref r1), .unset] [(.ref r1)])) (fun _ k => XS.aloadN X1.here hx rfl (hb hby d11_14) rfl rfl k) ?_
  obtain ⟨T2, X2, e2, st2⟩ := castY X1 hx hZ hown (hw _ (List.mem_of_getElem? (i := 66) rfl)) e1 (Ins.self hp4) (g := (mkF m 15 #[.val (.ref r0), .val (.ref r1), .unset] [(.ref r1)])) rfl rfl (hb hby d11_15)
  refine own_go (T' := T2) (g' := (mkF m 18 #[.val (.ref r0), .val (.ref r1), .unset] [(.ref r1)])) (fun _ k => st2 _ k) ?_
  refine own_go (T' := T2) (g' := (mkF m 19 #[.val (.ref r0), .val (.ref r1), .val (.ref r1)] [])) (fun _ k => XS.astoreN X2.here hx rfl (hb hby d11_18) rfl rfl (l' := #[.val (.ref r0), .val (.ref r1), .val (.ref r1)]) rfl k) ?_
  obtain ⟨T3, X3, e3, st3⟩ := getS2 X2 hx hZ hown (host := "") (Or.inl (hw _ (List.mem_of_getElem? (i := 15) rfl))) Via.refl e2 hp8 (g := (mkF m 19 #[.val (.ref r0), .val (.ref r1), .val (.ref r1)] [])) rfl (hb hby d11_19)
  refine own_go (T' := T3) (g' := (mkF m 22 #[.val (.ref r0), .val (.ref r1), .val (.ref r1)] [(.int cs)])) (fun _ k => st3 _ k) ?_
  refine own_go (T' := T3) (g' := (mkF m 25 #[.val (.ref r0), .val (.ref r1), .val (.ref r1)] [])) (fun _ k => XS.ifNo X3.here hx rfl (hb hby d11_22) rfl (XT.i0_eq_f hh0) k) ?_
  refine own_go (T' := T3) (g' := (mkF m 26 #[.val (.ref r0), .val (.ref r1), .val (.ref r1)] [(.ref r0)])) (fun _ k => XS.aloadN X3.here hx rfl (hb hby d11_25) rfl rfl k) ?_
  obtain ⟨T4, X4, e4, st4⟩ := getF X3 hx hZ hown (host := "") (Or.inl (hw _ (List.mem_of_getElem? (i := 27) rfl))) Via.refl e3 hp1 (g := (mkF m 26 #[.val (.ref r0), .val (.ref r1), .val (.ref r1)] [(.ref r0)])) rfl rfl (hb hby d11_26)
  refine own_go (T' := T4) (g' := (mkF m 29 #[.val (.ref r0), .val (.ref r1), .val (.ref r1)] [(.int (0 : Int32))])) (fun _ k => st4 _ k) ?_
  refine own_go (T' := T4) (g' := (mkF m 30 #[.val (.ref r0), .val (.ref r1), .val (.ref r1)] [(.ref r1), (.int (0 : Int32))])) (fun _ k => XS.aloadN X4.here hx rfl (hb hby d11_29) rfl rfl k) ?_
  obtain ⟨T5, X5, e5, st5⟩ := getF X4 hx hZ hown (host := "") (Or.inl (hw _ (List.mem_of_getElem? (i := 27) rfl))) Via.refl e4 hp5 (g := (mkF m 30 #[.val (.ref r0), .val (.ref r1), .val (.ref r1)] [(.ref r1), (.int (0 : Int32))])) rfl rfl (hb hby d11_30)
  refine own_go (T' := T5) (g' := (mkF m 33 #[.val (.ref r0), .val (.ref r1), .val (.ref r1)] [(.int (0 : Int32)), (.int (0 : Int32))])) (fun _ k => st5 _ k) ?_
  refine own_go (T' := T5) (g' := (mkF m 36 #[.val (.ref r0), .val (.ref r1), .val (.ref r1)] [])) (fun _ k => XS.icmpNo X5.here hx rfl (hb hby d11_33) rfl (XT.ii_ne_f (rfl : (0 : Int32) = (0 : Int32))) k) ?_
  refine own_go (T' := T5) (g' := (mkF m 37 #[.val (.ref r0), .val (.ref r1), .val (.ref r1)] [(.ref r0)])) (fun _ k => XS.aloadN X5.here hx rfl (hb hby d11_36) rfl rfl k) ?_
  obtain ⟨T6, X6, e6, st6⟩ := getF X5 hx hZ hown (host := "") (Or.inl (hw _ (List.mem_of_getElem? (i := 29) rfl))) Via.refl e5 hp2 (g := (mkF m 37 #[.val (.ref r0), .val (.ref r1), .val (.ref r1)] [(.ref r0)])) rfl rfl (hb hby d11_37)
  refine own_go (T' := T6) (g' := (mkF m 40 #[.val (.ref r0), .val (.ref r1), .val (.ref r1)] [(.ref da)])) (fun _ k => st6 _ k) ?_
  refine own_go (T' := T6) (g' := (mkF m 41 #[.val (.ref r0), .val (.ref r1), .val (.ref r1)] [(.ref r1), (.ref da)])) (fun _ k => XS.aloadN X6.here hx rfl (hb hby d11_40) rfl rfl k) ?_
  obtain ⟨T7, X7, e7, st7⟩ := getF X6 hx hZ hown (host := "") (Or.inl (hw _ (List.mem_of_getElem? (i := 29) rfl))) Via.refl e6 hp6 (g := (mkF m 41 #[.val (.ref r0), .val (.ref r1), .val (.ref r1)] [(.ref r1), (.ref da)])) rfl rfl (hb hby d11_41)
  refine own_go (T' := T7) (g' := (mkF m 44 #[.val (.ref r0), .val (.ref r1), .val (.ref r1)] [(.ref db), (.ref da)])) (fun _ k => st7 _ k) ?_
  obtain ⟨_, _, ⟨T8, L8, k8, n8⟩, -, X8, ⟨Lc8, hQ8, l8, y8, z8⟩, st8⟩ := Jvm.LawKit.callS X7 hx (y := (⟨"java/lang/StringLatin1", "equals", "([B[B)Z"⟩ : MethodName)) hown (mvT hZ (hw _ (List.mem_of_getElem? (i := 67) rfl))) (mvT hZ (hw _ (List.mem_of_getElem? (i := 68) rfl))) (mvT hZ (hw _ (List.mem_of_getElem? (i := 69) rfl))) (mvT hZ (hw _ (List.mem_of_getElem? (i := 70) rfl))) (by decide) (backOf (W := 0) (rmL11 l Z a0 hw [] da db ka v0 kb w0 h0 n0 Z0 hp3 hp7) hZ (hw _ (List.mem_of_getElem? (i := 70) rfl)) (hw _ (List.mem_of_getElem? (i := 69) rfl)) (by decide) (by decide)) (g := (mkF m 44 #[.val (.ref r0), .val (.ref r1), .val (.ref r1)] [(.ref db), (.ref da)])) rfl (by rw [hml]; rfl) (argsL := [(.ref da), (.ref db)]) (rest := []) (lenOf own_pd6 rfl) rfl (by show 2 * 0 + _ ≤ _; exact Nat.le_of_eq rfl) (hb hby d11_44) (fun _ _ => ⟨rfl, e7, (by decide : 0 + 0 ≤ _), (by decide : 0 + 0 ≤ _)⟩)
  dsimp only [Pt.U, Pt.locs, Pt.cells, Pt.slots] at X8 l8 y8 z8 st8 hQ8
  subst l8 y8 z8
  obtain ⟨rfl, N8q, e8⟩ := hQ8
  have N8 := Fr.app N0 N8q
  refine own_go (T' := T8) (g' := (mkF m 47 #[.val (.ref r0), .val (.ref r1), .val (.ref r1)] [(.int (own_l11 da db ka v0 kb w0))])) (fun _ k => st8 _ k) ?_
  by_cases hc47_9 : (own_l11 da db ka v0 kb w0) = (0 : Int32)
  · skip
    refine own_go (T' := T8) (g' := (mkF m 54 #[.val (.ref r0), .val (.ref r1), .val (.ref r1)] [])) (fun _ k => XS.ifYes X8.here hx rfl (pc0 := 47) (pc' := 54) rfl (hb hby d11_47) rfl (XT.i0_eq_t hc47_9) (by decide) (by decide) k) ?_
    refine own_go (T' := T8) (g' := (mkF m 55 #[.val (.ref r0), .val (.ref r1), .val (.ref r1)] [(.int (0 : Int32))])) (fun _ k => XS.iconst X8.here hx rfl (hb hby d11_54) k) ?_
    exact own_retN X8 hx (t := .boolean) Bd.returns hlk (by simp) (hb hby d11_55) e8 ⟨(by unfold own_q11; first | (rw [if_pos hc47_9]; done) | (rw [if_pos hc47_9]; rfl)), N8, rfl⟩ (by decide) (by decide)
  · skip
    refine own_go (T' := T8) (g' := (mkF m 50 #[.val (.ref r0), .val (.ref r1), .val (.ref r1)] [])) (fun _ k => XS.ifNo X8.here hx rfl (hb hby d11_47) rfl (XT.i0_eq_f hc47_9) k) ?_
    refine own_go (T' := T8) (g' := (mkF m 51 #[.val (.ref r0), .val (.ref r1), .val (.ref r1)] [(.int (1 : Int32))])) (fun _ k => XS.iconst X8.here hx rfl (hb hby d11_50) k) ?_
    refine own_go (T' := T8) (g' := (mkF m 55 #[.val (.ref r0), .val (.ref r1), .val (.ref r1)] [(.int (1 : Int32))])) (fun _ k => XS.goto X8.here hx rfl (pc0 := 51) (pc' := 55) rfl (hb hby d11_51) (by decide) (by decide) k) ?_
    exact own_retN X8 hx (t := .boolean) Bd.returns hlk (by simp) (hb hby d11_55) e8 ⟨(by unfold own_q11; first | (rw [if_neg hc47_9]; done) | (rw [if_neg hc47_9]; rfl)), N8, rfl⟩ (by decide) (by decide)
def own_s11 (r0 : Addr) (r1 : Addr) (nma : Addr) (wta : Int32) (da : Addr) (ka : ClassId) (v0 : Int32) (nmb : Addr) (wtb : Int32) (db : Addr) (kb : ClassId) (w0 : Int32) (cs : Int32) : Int32 := (if (own_q11 nma nmb da ka v0 db kb w0 cs) = (0 : Int32) then (0 : Int32) else (if wta = wtb then (1 : Int32) else (0 : Int32)))
theorem own_pd7 : parseMethodDescriptor "(Ljava/lang/Object;)Z" = some ⟨[(.object "java/lang/Object")], some .boolean⟩ := by decide +kernel
theorem d10_0 : decode prog_13_method_4_code 0 = .ok (.aload_n 1, 1) := by decide +kernel
theorem d10_1 : decode prog_13_method_4_code 1 = .ok (.instanceof 33, 3) := by decide +kernel
theorem d10_4 : decode prog_13_method_4_code 4 = .ok (.ifCond .eq 37, 3) := by decide +kernel
theorem d10_7 : decode prog_13_method_4_code 7 = .ok (.aload_n 1, 1) := by decide +kernel
theorem d10_8 : decode prog_13_method_4_code 8 = .ok (.checkcast 33, 3) := by decide +kernel
theorem d10_11 : decode prog_13_method_4_code 11 = .ok (.astore_n 2, 1) := by decide +kernel
theorem d10_12 : decode prog_13_method_4_code 12 = .ok (.aload_n 0, 1) := by decide +kernel
theorem d10_13 : decode prog_13_method_4_code 13 = .ok (.getfield 32, 3) := by decide +kernel
theorem d10_16 : decode prog_13_method_4_code 16 = .ok (.aload_n 2, 1) := by decide +kernel
theorem d10_17 : decode prog_13_method_4_code 17 = .ok (.getfield 32, 3) := by decide +kernel
theorem d10_20 : decode prog_13_method_4_code 20 = .ok (.invokevirtual 41, 3) := by decide +kernel
theorem d10_23 : decode prog_13_method_4_code 23 = .ok (.ifCond .eq 18, 3) := by decide +kernel
theorem d10_26 : decode prog_13_method_4_code 26 = .ok (.aload_n 0, 1) := by decide +kernel
theorem d10_27 : decode prog_13_method_4_code 27 = .ok (.getfield 37, 3) := by decide +kernel
theorem d10_30 : decode prog_13_method_4_code 30 = .ok (.aload_n 2, 1) := by decide +kernel
theorem d10_31 : decode prog_13_method_4_code 31 = .ok (.getfield 37, 3) := by decide +kernel
theorem d10_34 : decode prog_13_method_4_code 34 = .ok (.if_icmp .ne 7, 3) := by decide +kernel
theorem d10_37 : decode prog_13_method_4_code 37 = .ok (.iconst 1, 1) := by decide +kernel
theorem d10_38 : decode prog_13_method_4_code 38 = .ok (.goto 4, 3) := by decide +kernel
theorem d10_41 : decode prog_13_method_4_code 41 = .ok (.iconst 0, 1) := by decide +kernel
theorem d10_42 : decode prog_13_method_4_code 42 = .ok (.ireturn, 1) := by decide +kernel
def Q_rmE11 (Z : State) (r0 : Addr) (r1 : Addr) (nma : Addr) (wta : Int32) (da : Addr) (ka : ClassId) (v0 : Int32) (nmb : Addr) (wtb : Int32) (db : Addr) (kb : ClassId) (w0 : Int32) (cs : Int32) (h0 : Heap) (n0 : Nat) (v : Option Value) (h : Heap) (L : List Loc) : Prop := v = some (.int (own_s11 r0 r1 nma wta da ka v0 nmb wtb db kb w0 cs)) ∧ Fr n0 L ∧ h = h0
theorem ef_rmE11 (m : MethodId) (x0 : Addr) (x1 : Addr) : entryFrame m #[(.ref x0), (.ref x1)] 3 = mkF m 0 #[.val (.ref x0), .val (.ref x1), .unset] [] := by first | (simp [entryFrame, mkF, argsToLocals, Value.category]; done) | rfl
theorem pn_rmE11 : plainName "com/example/node_ring/nodering/pool/Server" = true := by first | (simp [plainName, overriddenIn]; done) | decide +kernel
set_option maxRecDepth 65536 in
set_option maxHeartbeats 40000000 in
theorem rmE11 (l : Launch) (Z : State) (a0 : Array Value) (hw : ∀ d ∈ tables_1, d.before a0 Z = true) (ws : List Jvm.Cond) (r0 : Addr) (r1 : Addr) (nma : Addr) (wta : Int32) (da : Addr) (ka : ClassId) (v0 : Int32) (nmb : Addr) (wtb : Int32) (db : Addr) (kb : ClassId) (w0 : Int32) (cs : Int32) (h0 : Heap) (n0 : Nat) (Z0 : n0 ≤ h0.size) (hp0 : Exa Z h0 r0 "com/example/node_ring/nodering/pool/Server") (hp1 : Fld Z h0 r0 "com/example/node_ring/nodering/pool/Server" "name" "Ljava/lang/String;" (.ref nma)) (hp2 : Fld Z h0 r0 "com/example/node_ring/nodering/pool/Server" "weight" "I" (.int wta)) (hp3 : Exa Z h0 nma "java/lang/String") (hp4 : Fld Z h0 nma "java/lang/String" "coder" "B" (.int (0 : Int32))) (hp5 : Fld Z h0 nma "java/lang/String" "value" "[B" (.ref da)) (hp6 : Arv Z h0 da ka .byte (1 : Int32) [(.int v0)] (.int (0 : Int32))) (hp7 : Exa Z h0 r1 "com/example/node_ring/nodering/pool/Server") (hp8 : Fld Z h0 r1 "com/example/node_ring/nodering/pool/Server" "name" "Ljava/lang/String;" (.ref nmb)) (hp9 : Fld Z h0 r1 "com/example/node_ring/nodering/pool/Server" "weight" "I" (.int wtb)) (hp10 : Exa Z h0 nmb "java/lang/String") (hp11 : Fld Z h0 nmb "java/lang/String" "coder" "B" (.int (0 : Int32))) (hp12 : Fld Z h0 nmb "java/lang/String" "value" "[B" (.ref db)) (hp13 : Arv Z h0 db kb .byte (1 : Int32) [(.int w0)] (.int (0 : Int32))) (hp14 : Sta Z h0 "java/lang/String" "COMPACT_STRINGS" "Z" (.int cs)) (hh0 : ¬ cs = (0 : Int32)) (hh1 : ¬ nma = nmb) :
    MetFree l (⟨"com/example/node_ring/nodering/pool/Server", "equals", "(Ljava/lang/Object;)Z"⟩ : MethodName) (head1 (Jvm.Cond.code (⟨"com/example/node_ring/nodering/pool/Server", "equals", "(Ljava/lang/Object;)Z"⟩ : MethodName) prog_13_method_4_code 3 (some .boolean) :: ws) ({ frames := 2, cells := 0, slots := 0, locals := 28 } : Room)) (fun a U => a = #[(.ref r0), (.ref r1)] ∧ Z.Warmed39 U.vm ∧ U.heap = h0) (fun _ _ _ _ _ => True) (fun _ U o U' => ∃ v L, o = .returned v ∧ Q_rmE11 Z r0 r1 nma wta da ka v0 nmb wtb db kb w0 cs h0 n0 v U'.heap L ∧ FrameEnd U o U' L ({ frames := 2, cells := 0, slots := 0, locals := 28 } : Room).cells ({ frames := 2, cells := 0, slots := 0, locals := 28 } : Room).slots) := by
  refine MetFree.of_bodySF (plainFor_of_name pn_rmE11) hisR ?_
  intro p e s m args below meth c s₁ Bd hml0 hP hK
  obtain ⟨rfl, hZ, hh⟩ := hP
  have hx := Bd.exec
  have hby := Bd.bytes
  have hml : c.maxLocals = 3 := hml0
  have hown : s.vm.findClass "com/example/node_ring/nodering/pool/Server" = some m.cls := findClass_of_methodNamed Bd.named
  have hnm := (name_of_methodNamed Bd.named Bd.method).1
  have hlk : meth.locks = false := BodyLoose.notSynchronized Bd
  have X0 : Stand p l e ({ frames := 2, cells := 0, slots := 0, locals := 28 } : Room) s m #[(.ref r0), (.ref r1)] below meth c s₁ [] 0 0 := Stand.of_body Bd
  have e0 : s₁.heap = h0 := by rw [← hh, Bd.state]; rfl
  have N0 := Fr.nil n0
  show own_W p e below s (Q_rmE11 Z r0 r1 nma wta da ka v0 nmb wtb db kb w0 cs h0 n0) 0 0 s₁ (entryFrame m #[(.ref r0), (.ref r1)] 3)
  skip
  skip
  refine own_go (T' := s₁) (g' := (mkF m 0 #[.val (.ref r0), .val (.ref r1), .unset] [])) (fun _ k => castTop (ef_rmE11 m r0 r1) k) ?_
  refine own_go (T' := s₁) (g' := (mkF m 1 #[.val (.ref r0), .val (.ref r1), .unset] [(.ref r1)])) (fun _ k => XS.aloadN X0.here hx rfl (hb hby d10_0) rfl rfl k) ?_
  obtain ⟨T1, X1, e1, st1⟩ := instY X0 hx hZ hown (hw _ (List.mem_of_getElem? (i := 59) rfl)) e0 (Ins.self hp7) (g := (mkF m 1 #[.val (.ref r0), .val (.ref r1), .unset] [(.ref r1)])) rfl rfl (hb hby d10_1)
  refine own_go (T' := T1) (g' := (mkF m 4 #[.val (.ref r0), .val (.ref r1), .unset] [(.int (1 : Int32))])) (fun _ k => st1 _ k) ?_
  refine own_go (T' := T1) (g' := (mkF m 7 #[.val (.ref r0), .val (.ref r1), .unset] [])) (fun _ k => XS.ifNo X1.here hx rfl (hb hby d10_4) rfl (XT.i0_eq_f (by decide : ¬ ((1 : Int32) = (0 : Int32)))) k) ?_
  refine own_go (T' := T1) (g' := (mkF m 8 #[.val (.ref r0), .val (.ref r1), .unset] [(.ref r1)])) (fun _ k => XS.aloadN X1.here hx rfl (hb hby d10_7) rfl rfl k) ?_
  obtain ⟨T2, X2, e2, st2⟩ := castY X1 hx hZ hown (hw _ (List.mem_of_getElem? (i := 59) rfl)) e1 (Ins.self hp7) (g := (mkF m 8 #[.val (.ref r0), .val (.ref r1), .unset] [(.ref r1)])) rfl rfl (hb hby d10_8)
  refine own_go (T' := T2) (g' := (mkF m 11 #[.val (.ref r0), .val (.ref r1), .unset] [(.ref r1)])) (fun _ k => st2 _ k) ?_
  refine own_go (T' := T2) (g' := (mkF m 12 #[.val (.ref r0), .val (.ref r1), .val (.ref r1)] [])) (fun _ k => XS.astoreN X2.here hx rfl (hb hby d10_11) rfl rfl (l' := #[.val (.ref r0), .val (.ref r1), .val (.ref r1)]) rfl k) ?_
  refine own_go (T' := T2) (g' := (mkF m 13 #[.val (.ref r0), .val (.ref r1), .val (.ref r1)] [(.ref r0)])) (fun _ k => XS.aloadN X2.here hx rfl (hb hby d10_12) rfl rfl k) ?_
  obtain ⟨T3, X3, e3, st3⟩ := getF X2 hx hZ hown (host := "") (Or.inl (hw _ (List.mem_of_getElem? (i := 50) rfl))) Via.refl e2 hp1 (g := (mkF m 13 #[.val (.ref r0), .val (.ref r1), .val (.ref r1)] [(.ref r0)])) rfl rfl (hb hby d10_13)
  refine own_go (T' := T3) (g' := (mkF m 16 #[.val (.ref r0), .val (.ref r1), .val (.ref r1)] [(.ref nma)])) (fun _ k => st3 _ k) ?_
  refine own_go (T' := T3) (g' := (mkF m 17 #[.val (.ref r0), .val (.ref r1), .val (.ref r1)] [(.ref r1), (.ref nma)])) (fun _ k => XS.aloadN X3.here hx rfl (hb hby d10_16) rfl rfl k) ?_
  obtain ⟨T4, X4, e4, st4⟩ := getF X3 hx hZ hown (host := "") (Or.inl (hw _ (List.mem_of_getElem? (i := 50) rfl))) Via.refl e3 hp8 (g := (mkF m 17 #[.val (.ref r0), .val (.ref r1), .val (.ref r1)] [(.ref r1), (.ref nma)])) rfl rfl (hb hby d10_17)
  refine own_go (T' := T4) (g' := (mkF m 20 #[.val (.ref r0), .val (.ref r1), .val (.ref r1)] [(.ref nmb), (.ref nma)])) (fun _ k => st4 _ k) ?_
  obtain ⟨cq5, kq5, q5a, q5b, q5c⟩ := isOf hZ e4 hp3
  obtain ⟨_, _, ⟨T5, L5, k5, n5⟩, -, X5, ⟨Lc5, hQ5, l5, y5, z5⟩, st5⟩ := X4.virtualBack hx (y := (⟨"java/lang/String", "equals", "(Ljava/lang/Object;)Z"⟩ : MethodName)) (z := (⟨"java/lang/String", "equals", "(Ljava/lang/Object;)Z"⟩ : MethodName)) hown (mvT hZ (hw _ (List.mem_of_getElem? (i := 61) rfl))) (mvT hZ (hw _ (List.mem_of_getElem? (i := 62) rfl))) (notFace_of_selects (args := #[]) (mvT hZ (hw _ (List.mem_of_getElem? (i := 64) rfl)))) (mvT hZ (hw _ (List.mem_of_getElem? (i := 64) rfl))) (mvT hZ (hw _ (List.mem_of_getElem? (i := 63) rfl))) (by decide) (backOf (W := 0) (rmQ11 l Z a0 hw [] nma nmb da ka v0 db kb w0 cs h0 n0 Z0 hp3 hp4 hp5 hp6 hp10 hp11 hp12 hp13 hp14 hh0 hh1) hZ (hw _ (List.mem_of_getElem? (i := 65) rfl)) (hw _ (List.mem_of_getElem? (i := 3) rfl)) (by decide) (by decide)) q5a q5c (g := (mkF m 20 #[.val (.ref r0), .val (.ref r1), .val (.ref r1)] [(.ref nmb), (.ref nma)])) rfl (by rw [hml]; rfl) (Steps.refl _) (argsL := [(.ref nmb)]) (rest := []) (lenOf own_pd7 rfl) rfl (by show 2 * 0 + _ ≤ _; exact Nat.le_of_eq rfl) (hb hby d10_20) (fun _ _ => ⟨rfl, e4, (by decide : 0 + 0 ≤ _), (by decide : 0 + 0 ≤ _)⟩)
  dsimp only [Pt.U, Pt.locs, Pt.cells, Pt.slots] at X5 l5 y5 z5 st5 hQ5
  subst l5 y5 z5
  obtain ⟨rfl, N5q, e5⟩ := hQ5
  have N5 := Fr.app N0 N5q
  refine own_go (T' := T5) (g' := (mkF m 23 #[.val (.ref r0), .val (.ref r1), .val (.ref r1)] [(.int (own_q11 nma nmb da ka v0 db kb w0 cs))])) (fun _ k => st5.trans k) ?_
  by_cases hc23_6 : (own_q11 nma nmb da ka v0 db kb w0 cs) = (0 : Int32)
  · skip
    refine own_go (T' := T5) (g' := (mkF m 41 #[.val (.ref r0), .val (.ref r1), .val (.ref r1)] [])) (fun _ k => XS.ifYes X5.here hx rfl (pc0 := 23) (pc' := 41) rfl (hb hby d10_23) rfl (XT.i0_eq_t hc23_6) (by decide) (by decide) k) ?_
    refine own_go (T' := T5) (g' := (mkF m 42 #[.val (.ref r0), .val (.ref r1), .val (.ref r1)] [(.int (0 : Int32))])) (fun _ k => XS.iconst X5.here hx rfl (hb hby d10_41) k) ?_
    exact own_retN X5 hx (t := .boolean) Bd.returns hlk (by simp) (hb hby d10_42) e5 ⟨(by unfold own_s11; first | (rw [if_pos hc23_6]; done) | (rw [if_pos hc23_6]; rfl)), N5, rfl⟩ (by decide) (by decide)
  · skip
    refine own_go (T' := T5) (g' := (mkF m 26 #[.val (.ref r0), .val (.ref r1), .val (.ref r1)] [])) (fun _ k => XS.ifNo X5.here hx rfl (hb hby d10_23) rfl (XT.i0_eq_f hc23_6) k) ?_
    refine own_go (T' := T5) (g' := (mkF m 27 #[.val (.ref r0), .val (.ref r1), .val (.ref r1)] [(.ref r0)])) (fun _ k => XS.aloadN X5.here hx rfl (hb hby d10_26) rfl rfl k) ?_
    obtain ⟨T7, X7, e7, st7⟩ := getF X5 hx hZ hown (host := "") (Or.inl (hw _ (List.mem_of_getElem? (i := 52) rfl))) Via.refl e5 hp2 (g := (mkF m 27 #[.val (.ref r0), .val (.ref r1), .val (.ref r1)] [(.ref r0)])) rfl rfl (hb hby d10_27)
    refine own_go (T' := T7) (g' := (mkF m 30 #[.val (.ref r0), .val (.ref r1), .val (.ref r1)] [(.int wta)])) (fun _ k => st7 _ k) ?_
    refine own_go (T' := T7) (g' := (mkF m 31 #[.val (.ref r0), .val (.ref r1), .val (.ref r1)] [(.ref r1), (.int wta)])) (fun _ k => XS.aloadN X7.here hx rfl (hb hby d10_30) rfl rfl k) ?_
    obtain ⟨T8, X8, e8, st8⟩ := getF X7 hx hZ hown (host := "") (Or.inl (hw _ (List.mem_of_getElem? (i := 52) rfl))) Via.refl e7 hp9 (g := (mkF m 31 #[.val (.ref r0), .val (.ref r1), .val (.ref r1)] [(.ref r1), (.int wta)])) rfl rfl (hb hby d10_31)
    refine own_go (T' := T8) (g' := (mkF m 34 #[.val (.ref r0), .val (.ref r1), .val (.ref r1)] [(.int wtb), (.int wta)])) (fun _ k => st8 _ k) ?_
    by_cases hc34_9 : wta = wtb
    · skip
      refine own_go (T' := T8) (g' := (mkF m 37 #[.val (.ref r0), .val (.ref r1), .val (.ref r1)] [])) (fun _ k => XS.icmpNo X8.here hx rfl (hb hby d10_34) rfl (XT.ii_ne_f hc34_9) k) ?_
      refine own_go (T' := T8) (g' := (mkF m 38 #[.val (.ref r0), .val (.ref r1), .val (.ref r1)] [(.int (1 : Int32))])) (fun _ k => XS.iconst X8.here hx rfl (hb hby d10_37) k) ?_
      refine own_go (T' := T8) (g' := (mkF m 42 #[.val (.ref r0), .val (.ref r1), .val (.ref r1)] [(.int (1 : Int32))])) (fun _ k => XS.goto X8.here hx rfl (pc0 := 38) (pc' := 42) rfl (hb hby d10_38) (by decide) (by decide) k) ?_
      exact own_retN X8 hx (t := .boolean) Bd.returns hlk (by simp) (hb hby d10_42) e8 ⟨(by unfold own_s11; first | (rw [if_neg hc23_6, if_pos hc34_9]; done) | (rw [if_neg hc23_6, if_pos hc34_9]; rfl)), N5, rfl⟩ (by decide) (by decide)
    · skip
      refine own_go (T' := T8) (g' := (mkF m 41 #[.val (.ref r0), .val (.ref r1), .val (.ref r1)] [])) (fun _ k => XS.icmpYes X8.here hx rfl (pc0 := 34) (pc' := 41) rfl (hb hby d10_34) rfl (XT.ii_ne_t hc34_9) (by decide) (by decide) k) ?_
      refine own_go (T' := T8) (g' := (mkF m 42 #[.val (.ref r0), .val (.ref r1), .val (.ref r1)] [(.int (0 : Int32))])) (fun _ k => XS.iconst X8.here hx rfl (hb hby d10_41) k) ?_
      exact own_retN X8 hx (t := .boolean) Bd.returns hlk (by simp) (hb hby d10_42) e8 ⟨(by unfold own_s11; first | (rw [if_neg hc23_6, if_neg hc34_9]; done) | (rw [if_neg hc23_6, if_neg hc34_9]; rfl)), N5, rfl⟩ (by decide) (by decide)
def own_l12 (r0 : Addr) (r1 : Addr) (ka : ClassId) (v0 : Int32) (kb : ClassId) (w0 : Int32) (w1 : Int32) : Int32 := (0 : Int32)
theorem d12_34 : decode jdk_43_method_13_code 34 = .ok (.iconst 0, 1) := by decide +kernel
theorem d12_35 : decode jdk_43_method_13_code 35 = .ok (.ireturn, 1) := by decide +kernel
def Q_rmL12 (Z : State) (r0 : Addr) (r1 : Addr) (ka : ClassId) (v0 : Int32) (kb : ClassId) (w0 : Int32) (w1 : Int32) (h0 : Heap) (n0 : Nat) (v : Option Value) (h : Heap) (L : List Loc) : Prop := v = some (.int (own_l12 r0 r1 ka v0 kb w0 w1)) ∧ Fr n0 L ∧ h = h0
theorem ef_rmL12 (m : MethodId) (x0 : Addr) (x1 : Addr) : entryFrame m #[(.ref x0), (.ref x1)] 3 = mkF m 0 #[.val (.ref x0), .val (.ref x1), .unset] [] := by first | (simp [entryFrame, mkF, argsToLocals, Value.category]; done) | rfl
theorem pn_rmL12 : plainName "java/lang/StringLatin1" = true := by first | (simp [plainName, overriddenIn]; done) | decide +kernel
set_option maxRecDepth 65536 in
set_option maxHeartbeats 40000000 in
theorem rmL12 (l : Launch) (Z : State) (a0 : Array Value) (hw : ∀ d ∈ tables_1, d.before a0 Z = true) (ws : List Jvm.Cond) (r0 : Addr) (r1 : Addr) (ka : ClassId) (v0 : Int32) (kb : ClassId) (w0 : Int32) (w1 : Int32) (h0 : Heap) (n0 : Nat) (Z0 : n0 ≤ h0.size) (hp0 : Arv Z h0 r0 ka .byte (1 : Int32) [(.int v0)] (.int (0 : Int32))) (hp1 : Arv Z h0 r1 kb .byte (2 : Int32) [(.int w0), (.int w1)] (.int (0 : Int32))) :
    MetFree l (⟨"java/lang/StringLatin1", "equals", "([B[B)Z"⟩ : MethodName) (head1 (Jvm.Cond.code (⟨"java/lang/StringLatin1", "equals", "([B[B)Z"⟩ : MethodName) jdk_43_method_13_code 3 (some .boolean) :: ws) ({ frames := 0, cells := 0, slots := 0, locals := 0 } : Room)) (fun a U => a = #[(.ref r0), (.ref r1)] ∧ Z.Warmed39 U.vm ∧ U.heap = h0) (fun _ _ _ _ _ => True) (fun _ U o U' => ∃ v L, o = .returned v ∧ Q_rmL12 Z r0 r1 ka v0 kb w0 w1 h0 n0 v U'.heap L ∧ FrameEnd U o U' L ({ frames := 0, cells := 0, slots := 0, locals := 0 } : Room).cells ({ frames := 0, cells := 0, slots := 0, locals := 0 } : Room).slots) := by
  refine MetFree.of_bodySF (plainFor_of_name pn_rmL12) hisR ?_
  intro p e s m args below meth c s₁ Bd hml0 hP hK
  obtain ⟨rfl, hZ, hh⟩ := hP
  have hx := Bd.exec
  have hby := Bd.bytes
  have hml : c.maxLocals = 3 := hml0
  have hown : s.vm.findClass "java/lang/StringLatin1" = some m.cls := findClass_of_methodNamed Bd.named
  have hnm := (name_of_methodNamed Bd.named Bd.method).1
  have hlk : meth.locks = false := BodyLoose.notSynchronized Bd
  have X0 : Stand p l e ({ frames := 0, cells := 0, slots := 0, locals := 0 } : Room) s m #[(.ref r0), (.ref r1)] below meth c s₁ [] 0 0 := Stand.of_body Bd
  have e0 : s₁.heap = h0 := by rw [← hh, Bd.state]; rfl
  have N0 := Fr.nil n0
  show own_W p e below s (Q_rmL12 Z r0 r1 ka v0 kb w0 w1 h0 n0) 0 0 s₁ (entryFrame m #[(.ref r0), (.ref r1)] 3)
  skip
  skip
  refine own_go (T' := s₁) (g' := (mkF m 0 #[.val (.ref r0), .val (.ref r1), .unset] [])) (fun _ k => castTop (ef_rmL12 m r0 r1) k) ?_
  refine own_go (T' := s₁) (g' := (mkF m 1 #[.val (.ref r0), .val (.ref r1), .unset] [(.ref r0)])) (fun _ k => XS.aloadN X0.here hx rfl (hb hby d12_0) rfl rfl k) ?_
  obtain ⟨cl1, Ar1, q11, q21, q31, H1, G1⟩ := id hp0
  have st1 := X0.arraylength hx (by rw [e0]; exact Ar1.1) (State.isArrayOf_alike hZ.alike Ar1.2.1) (g := (mkF m 1 #[.val (.ref r0), .val (.ref r1), .unset] [(.ref r0)])) rfl rfl (hb hby d12_1)
  rw [len_of q21 q31] at st1
  refine own_go (T' := s₁) (g' := (mkF m 2 #[.val (.ref r0), .val (.ref r1), .unset] [(.int (1 : Int32))])) (fun _ k => st1 _ k) ?_
  refine own_go (T' := s₁) (g' := (mkF m 3 #[.val (.ref r0), .val (.ref r1), .unset] [(.ref r1), (.int (1 : Int32))])) (fun _ k => XS.aloadN X0.here hx rfl (hb hby d12_2) rfl rfl k) ?_
  obtain ⟨cl2, Ar2, q12, q22, q32, H2, G2⟩ := id hp1
  have st2 := X0.arraylength hx (by rw [e0]; exact Ar2.1) (State.isArrayOf_alike hZ.alike Ar2.2.1) (g := (mkF m 3 #[.val (.ref r0), .val (.ref r1), .unset] [(.ref r1), (.int (1 : Int32))])) rfl rfl (hb hby d12_3)
  rw [len_of q22 q32] at st2
  refine own_go (T' := s₁) (g' := (mkF m 4 #[.val (.ref r0), .val (.ref r1), .unset] [(.int (2 : Int32)), (.int (1 : Int32))])) (fun _ k => st2 _ k) ?_
  refine own_go (T' := s₁) (g' := (mkF m 34 #[.val (.ref r0), .val (.ref r1), .unset] [])) (fun _ k => XS.icmpYes X0.here hx rfl (pc0 := 4) (pc' := 34) rfl (hb hby d12_4) rfl (XT.ii_ne_t (by decide : ¬ ((1 : Int32) = (2 : Int32)))) (by decide) (by decide) k) ?_
  refine own_go (T' := s₁) (g' := (mkF m 35 #[.val (.ref r0), .val (.ref r1), .unset] [(.int (0 : Int32))])) (fun _ k => XS.iconst X0.here hx rfl (hb hby d12_34) k) ?_
  exact own_retN X0 hx (t := .boolean) Bd.returns hlk (by simp) (hb hby d12_35) e0 ⟨(by unfold own_l12; first | rfl | done), N0, rfl⟩ (by decide) (by decide)
def own_q12 (r0 : Addr) (r1 : Addr) (da : Addr) (ka : ClassId) (v0 : Int32) (db : Addr) (kb : ClassId) (w0 : Int32) (w1 : Int32) (cs : Int32) : Int32 := (if (own_l12 da db ka v0 kb w0 w1) = (0 : Int32) then (0 : Int32) else (1 : Int32))
def Q_rmQ12 (Z : State) (r0 : Addr) (r1 : Addr) (da : Addr) (ka : ClassId) (v0 : Int32) (db : Addr) (kb : ClassId) (w0 : Int32) (w1 : Int32) (cs : Int32) (h0 : Heap) (n0 : Nat) (v : Option Value) (h : Heap) (L : List Loc) : Prop := v = some (.int (own_q12 r0 r1 da ka v0 db kb w0 w1 cs)) ∧ Fr n0 L ∧ h = h0
theorem ef_rmQ12 (m : MethodId) (x0 : Addr) (x1 : Addr) : entryFrame m #[(.ref x0), (.ref x1)] 3 = mkF m 0 #[.val (.ref x0), .val (.ref x1), .unset] [] := by first | (simp [entryFrame, mkF, argsToLocals, Value.category]; done) | rfl
theorem pn_rmQ12 : plainName "java/lang/String" = true := by first | (simp [plainName, overriddenIn]; done) | decide +kernel
set_option maxRecDepth 65536 in
set_option maxHeartbeats 40000000 in
theorem rmQ12 (l : Launch) (Z : State) (a0 : Array Value) (hw : ∀ d ∈ tables_1, d.before a0 Z = true) (ws : List Jvm.Cond) (r0 : Addr) (r1 : Addr) (da : Addr) (ka : ClassId) (v0 : Int32) (db : Addr) (kb : ClassId) (w0 : Int32) (w1 : Int32) (cs : Int32) (h0 : Heap) (n0 : Nat) (Z0 : n0 ≤ h0.size) (hp0 : Exa Z h0 r0 "java/lang/String") (hp1 : Fld Z h0 r0 "java/lang/String" "coder" "B" (.int (0 : Int32))) (hp2 : Fld Z h0 r0 "java/lang/String" "value" "[B" (.ref da)) (hp3 : Arv Z h0 da ka .byte (1 : Int32) [(.int v0)] (.int (0 : Int32))) (hp4 : Exa Z h0 r1 "java/lang/String") (hp5 : Fld Z h0 r1 "java/lang/String" "coder" "B" (.int (0 : Int32))) (hp6 : Fld Z h0 r1 "java/lang/String" "value" "[B" (.ref db)) (hp7 : Arv Z h0 db kb .byte (2 : Int32) [(.int w0), (.int w1)] (.int (0 : Int32))) (hp8 : Sta Z h0 "java/lang/String" "COMPACT_STRINGS" "Z" (.int cs)) (hh0 : ¬ cs = (0 : Int32)) (hh1 : ¬ r0 = r1) :
    MetFree l (⟨"java/lang/String", "equals", "(Ljava/lang/Object;)Z"⟩ : MethodName) (head1 (Jvm.Cond.code (⟨"java/lang/String", "equals", "(Ljava/lang/Object;)Z"⟩ : MethodName) jdk_42_method_66_code 3 (some .boolean) :: ws) ({ frames := 1, cells := 0, slots := 0, locals := 14 } : Room)) (fun a U => a = #[(.ref r0), (.ref r1)] ∧ Z.Warmed39 U.vm ∧ U.heap = h0) (fun _ _ _ _ _ => True) (fun _ U o U' => ∃ v L, o = .returned v ∧ Q_rmQ12 Z r0 r1 da ka v0 db kb w0 w1 cs h0 n0 v U'.heap L ∧ FrameEnd U o U' L ({ frames := 1, cells := 0, slots := 0, locals := 14 } : Room).cells ({ frames := 1, cells := 0, slots := 0, locals := 14 } : Room).slots) := by
  refine MetFree.of_bodySF (plainFor_of_name pn_rmQ12) hisR ?_
  intro p e s m args below meth c s₁ Bd hml0 hP hK
  obtain ⟨rfl, hZ, hh⟩ := hP
  have hx := Bd.exec
  have hby := Bd.bytes
  have hml : c.maxLocals = 3 := hml0
  have hown : s.vm.findClass "java/lang/String" = some m.cls := findClass_of_methodNamed Bd.named
  have hnm := (name_of_methodNamed Bd.named Bd.method).1
  have hlk : meth.locks = false := BodyLoose.notSynchronized Bd
  have X0 : Stand p l e ({ frames := 1, cells := 0, slots := 0, locals := 14 } : Room) s m #[(.ref r0), (.ref r1)] below meth c s₁ [] 0 0 := Stand.of_body Bd
  have e0 : s₁.heap = h0 := by rw [← hh, Bd.state]; rfl
  have N0 := Fr.nil n0
  show own_W p e below s (Q_rmQ12 Z r0 r1 da ka v0 db kb w0 w1 cs h0 n0) 0 0 s₁ (entryFrame m #[(.ref r0), (.ref r1)] 3)
  skip
  skip
  refine own_go (T' := s₁) (g' := (mkF m 0 #[.val (.ref r0), .val (.ref r1), .unset] [])) (fun _ k => castTop (ef_rmQ12 m r0 r1) k) ?_
  refine own_go (T' := s₁) (g' := (mkF m 1 #[.val (.ref r0), .val (.ref r1), .unset] [(.ref r0)])) (fun _ k => XS.aloadN X0.here hx rfl (hb hby d11_0) rfl rfl k) ?_
  refine own_go (T' := s₁) (g' := (mkF m 2 #[.val (.ref r0), .val (.ref r1), .unset] [(.ref r1), (.ref r0)])) (fun _ k => XS.aloadN X0.here hx rfl (hb hby d11_1) rfl rfl k) ?_
  refine own_go (T' := s₁) (g' := (mkF m 7 #[.val (.ref r0), .val (.ref r1), .unset] [])) (fun _ k => XT.acmpYes X0.here hx rfl (pc0 := 2) (pc' := 7) rfl (hb hby d11_2) rfl rfl rfl (XT.aa_ne_t (fun q => hh1 (Value.ref.inj q))) (by decide) (by decide) k) ?_
  refine own_go (T' := s₁) (g' := (mkF m 8 #[.val (.ref r0), .val (.ref r1), .unset] [(.ref r1)])) (fun _ k => XS.aloadN X0.here hx rfl (hb hby d11_7) rfl rfl k) ?_
  obtain ⟨T1, X1, e1, st1⟩ := instY X0 hx hZ hown (hw _ (List.mem_of_getElem? (i := 66) rfl)) e0 (Ins.self hp4) (g := (mkF m 8 #[.val (.ref r0), .val (.ref r1), .unset] [(.ref r1)])) rfl rfl (hb hby d11_8)
  refine own_go (T' := T1) (g' := (mkF m 11 #[.val (.ref r0), .val (.ref r1), .unset] [(.int (1 : Int32))])) (fun _ k => st1 _ k) ?_
  refine own_go (T' := T1) (g' := (mkF m 14 #[.val (.ref r0), .val (.ref r1), .unset] [])) (fun _ k => XS.ifNo X1.here hx rfl (hb hby d11_11) rfl (XT.i0_eq_f (by decide : ¬ ((1 : Int32) = (0 : Int32)))) k) ?_
  refine own_go (T' := T1) (g' := (mkF m 15 #[.val (.ref r0), .val (.ref r1), .unset] [(.ref r1)])) (fun _ k => XS.aloadN X1.here hx rfl (hb hby d11_14) rfl rfl k) ?_
  obtain ⟨T2, X2, e2, st2⟩ := castY X1 hx hZ hown (hw _ (List.mem_of_getElem? (i := 66) rfl)) e1 (Ins.self hp4) (g := (mkF m 15 #[.val (.ref r0), .val (.ref r1), .unset] [(.ref r1)])) rfl rfl (hb hby d11_15)
  refine own_go (T' := T2) (g' := (mkF m 18 #[.val (.ref r0), .val (.ref r1), .unset] [(.ref r1)])) (fun _ k => st2 _ k) ?_
  refine own_go (T' := T2) (g' := (mkF m 19 #[.val (.ref r0), .val (.ref r1), .val (.ref r1)] [])) (fun _ k => XS.astoreN X2.here hx rfl (hb hby d11_18) rfl rfl (l' := #[.val (.ref r0), .val (.ref r1), .val (.ref r1)]) rfl k) ?_
  obtain ⟨T3, X3, e3, st3⟩ := getS2 X2 hx hZ hown (host := "") (Or.inl (hw _ (List.mem_of_getElem? (i := 15) rfl))) Via.refl e2 hp8 (g := (mkF m 19 #[.val (.ref r0), .val (.ref r1), .val (.ref r1)] [])) rfl (hb hby d11_19)
  refine own_go (T' := T3) (g' := (mkF m 22 #[.val (.ref r0), .val (.ref r1), .val (.ref r1)] [(.int cs)])) (fun _ k => st3 _ k) ?_
  refine own_go (T' := T3) (g' := (mkF m 25 #[.val (.ref r0), .val (.ref r1), .val (.ref r1)] [])) (fun _ k => XS.ifNo X3.here hx rfl (hb hby d11_22) rfl (XT.i0_eq_f hh0) k) ?_
  refine own_go (T' := T3) (g' := (mkF m 26 #[.val (.ref r0), .val (.ref r1), .val (.ref r1)] [(.ref r0)])) (fun _ k => XS.aloadN X3.here hx rfl (hb hby d11_25) rfl rfl k) ?_
  obtain ⟨T4, X4, e4, st4⟩ := getF X3 hx hZ hown (host := "") (Or.inl (hw _ (List.mem_of_getElem? (i := 27) rfl))) Via.refl e3 hp1 (g := (mkF m 26 #[.val (.ref r0), .val (.ref r1), .val (.ref r1)] [(.ref r0)])) rfl rfl (hb hby d11_26)
  refine own_go (T' := T4) (g' := (mkF m 29 #[.val (.ref r0), .val (.ref r1), .val (.ref r1)] [(.int (0 : Int32))])) (fun _ k => st4 _ k) ?_
  refine own_go (T' := T4) (g' := (mkF m 30 #[.val (.ref r0), .val (.ref r1), .val (.ref r1)] [(.ref r1), (.int (0 : Int32))])) (fun _ k => XS.aloadN X4.here hx rfl (hb hby d11_29) rfl rfl k) ?_
  obtain ⟨T5, X5, e5, st5⟩ := getF X4 hx hZ hown (host := "") (Or.inl (hw _ (List.mem_of_getElem? (i := 27) rfl))) Via.refl e4 hp5 (g := (mkF m 30 #[.val (.ref r0), .val (.ref r1), .val (.ref r1)] [(.ref r1), (.int (0 : Int32))])) rfl rfl (hb hby d11_30)
  refine own_go (T' := T5) (g' := (mkF m 33 #[.val (.ref r0), .val (.ref r1), .val (.ref r1)] [(.int (0 : Int32)), (.int (0 : Int32))])) (fun _ k => st5 _ k) ?_
  refine own_go (T' := T5) (g' := (mkF m 36 #[.val (.ref r0), .val (.ref r1), .val (.ref r1)] [])) (fun _ k => XS.icmpNo X5.here hx rfl (hb hby d11_33) rfl (XT.ii_ne_f (rfl : (0 : Int32) = (0 : Int32))) k) ?_
  refine own_go (T' := T5) (g' := (mkF m 37 #[.val (.ref r0), .val (.ref r1), .val (.ref r1)] [(.ref r0)])) (fun _ k => XS.aloadN X5.here hx rfl (hb hby d11_36) rfl rfl k) ?_
  obtain ⟨T6, X6, e6, st6⟩ := getF X5 hx hZ hown (host := "") (Or.inl (hw _ (List.mem_of_getElem? (i := 29) rfl))) Via.refl e5 hp2 (g := (mkF m 37 #[.val (.ref r0), .val (.ref r1), .val (.ref r1)] [(.ref r0)])) rfl rfl (hb hby d11_37)
  refine own_go (T' := T6) (g' := (mkF m 40 #[.val (.ref r0), .val (.ref r1), .val (.ref r1)] [(.ref da)])) (fun _ k => st6 _ k) ?_
  refine own_go (T' := T6) (g' := (mkF m 41 #[.val (.ref r0), .val (.ref r1), .val (.ref r1)] [(.ref r1), (.ref da)])) (fun _ k => XS.aloadN X6.here hx rfl (hb hby d11_40) rfl rfl k) ?_
  obtain ⟨T7, X7, e7, st7⟩ := getF X6 hx hZ hown (host := "") (Or.inl (hw _ (List.mem_of_getElem? (i := 29) rfl))) Via.refl e6 hp6 (g := (mkF m 41 #[.val (.ref r0), .val (.ref r1), .val (.ref r1)] [(.ref r1), (.ref da)])) rfl rfl (hb hby d11_41)
  refine own_go (T' := T7) (g' := (mkF m 44 #[.val (.ref r0), .val (.ref r1), .val (.ref r1)] [(.ref db), (.ref da)])) (fun _ k => st7 _ k) ?_
  obtain ⟨_, _, ⟨T8, L8, k8, n8⟩, -, X8, ⟨Lc8, hQ8, l8, y8, z8⟩, st8⟩ := Jvm.LawKit.callS X7 hx (y := (⟨"java/lang/StringLatin1", "equals", "([B[B)Z"⟩ : MethodName)) hown (mvT hZ (hw _ (List.mem_of_getElem? (i := 67) rfl))) (mvT hZ (hw _ (List.mem_of_getElem? (i := 68) rfl))) (mvT hZ (hw _ (List.mem_of_getElem? (i := 69) rfl))) (mvT hZ (hw _ (List.mem_of_getElem? (i := 70) rfl))) (by decide) (backOf (W := 0) (rmL12 l Z a0 hw [] da db ka v0 kb w0 w1 h0 n0 Z0 hp3 hp7) hZ (hw _ (List.mem_of_getElem? (i := 70) rfl)) (hw _ (List.mem_of_getElem? (i := 69) rfl)) (by decide) (by decide)) (g := (mkF m 44 #[.val (.ref r0), .val (.ref r1), .val (.ref r1)] [(.ref db), (.ref da)])) rfl (by rw [hml]; rfl) (argsL := [(.ref da), (.ref db)]) (rest := []) (lenOf own_pd6 rfl) rfl (by show 2 * 0 + _ ≤ _; exact Nat.le_of_eq rfl) (hb hby d11_44) (fun _ _ => ⟨rfl, e7, (by decide : 0 + 0 ≤ _), (by decide : 0 + 0 ≤ _)⟩)
  dsimp only [Pt.U, Pt.locs, Pt.cells, Pt.slots] at X8 l8 y8 z8 st8 hQ8
  subst l8 y8 z8
  obtain ⟨rfl, N8q, e8⟩ := hQ8
  have N8 := Fr.app N0 N8q
  refine own_go (T' := T8) (g' := (mkF m 47 #[.val (.ref r0), .val (.ref r1), .val (.ref r1)] [(.int (own_l12 da db ka v0 kb w0 w1))])) (fun _ k => st8 _ k) ?_
  by_cases hc47_9 : (own_l12 da db ka v0 kb w0 w1) = (0 : Int32)
  · skip
    refine own_go (T' := T8) (g' := (mkF m 54 #[.val (.ref r0), .val (.ref r1), .val (.ref r1)] [])) (fun _ k => XS.ifYes X8.here hx rfl (pc0 := 47) (pc' := 54) rfl (hb hby d11_47) rfl (XT.i0_eq_t hc47_9) (by decide) (by decide) k) ?_
    refine own_go (T' := T8) (g' := (mkF m 55 #[.val (.ref r0), .val (.ref r1), .val (.ref r1)] [(.int (0 : Int32))])) (fun _ k => XS.iconst X8.here hx rfl (hb hby d11_54) k) ?_
    exact own_retN X8 hx (t := .boolean) Bd.returns hlk (by simp) (hb hby d11_55) e8 ⟨(by unfold own_q12; first | (rw [if_pos hc47_9]; done) | (rw [if_pos hc47_9]; rfl)), N8, rfl⟩ (by decide) (by decide)
  · skip
    refine own_go (T' := T8) (g' := (mkF m 50 #[.val (.ref r0), .val (.ref r1), .val (.ref r1)] [])) (fun _ k => XS.ifNo X8.here hx rfl (hb hby d11_47) rfl (XT.i0_eq_f hc47_9) k) ?_
    refine own_go (T' := T8) (g' := (mkF m 51 #[.val (.ref r0), .val (.ref r1), .val (.ref r1)] [(.int (1 : Int32))])) (fun _ k => XS.iconst X8.here hx rfl (hb hby d11_50) k) ?_
    refine own_go (T' := T8) (g' := (mkF m 55 #[.val (.ref r0), .val (.ref r1), .val (.ref r1)] [(.int (1 : Int32))])) (fun _ k => XS.goto X8.here hx rfl (pc0 := 51) (pc' := 55) rfl (hb hby d11_51) (by decide) (by decide) k) ?_
    exact own_retN X8 hx (t := .boolean) Bd.returns hlk (by simp) (hb hby d11_55) e8 ⟨(by unfold own_q12; first | (rw [if_neg hc47_9]; done) | (rw [if_neg hc47_9]; rfl)), N8, rfl⟩ (by decide) (by decide)
def own_s12 (r0 : Addr) (r1 : Addr) (nma : Addr) (wta : Int32) (da : Addr) (ka : ClassId) (v0 : Int32) (nmb : Addr) (wtb : Int32) (db : Addr) (kb : ClassId) (w0 : Int32) (w1 : Int32) (cs : Int32) : Int32 := (if (own_q12 nma nmb da ka v0 db kb w0 w1 cs) = (0 : Int32) then (0 : Int32) else (if wta = wtb then (1 : Int32) else (0 : Int32)))
def Q_rmE12 (Z : State) (r0 : Addr) (r1 : Addr) (nma : Addr) (wta : Int32) (da : Addr) (ka : ClassId) (v0 : Int32) (nmb : Addr) (wtb : Int32) (db : Addr) (kb : ClassId) (w0 : Int32) (w1 : Int32) (cs : Int32) (h0 : Heap) (n0 : Nat) (v : Option Value) (h : Heap) (L : List Loc) : Prop := v = some (.int (own_s12 r0 r1 nma wta da ka v0 nmb wtb db kb w0 w1 cs)) ∧ Fr n0 L ∧ h = h0
theorem ef_rmE12 (m : MethodId) (x0 : Addr) (x1 : Addr) : entryFrame m #[(.ref x0), (.ref x1)] 3 = mkF m 0 #[.val (.ref x0), .val (.ref x1), .unset] [] := by first | (simp [entryFrame, mkF, argsToLocals, Value.category]; done) | rfl
theorem pn_rmE12 : plainName "com/example/node_ring/nodering/pool/Server" = true := by first | (simp [plainName, overriddenIn]; done) | decide +kernel
set_option maxRecDepth 65536 in
set_option maxHeartbeats 40000000 in
theorem rmE12 (l : Launch) (Z : State) (a0 : Array Value) (hw : ∀ d ∈ tables_1, d.before a0 Z = true) (ws : List Jvm.Cond) (r0 : Addr) (r1 : Addr) (nma : Addr) (wta : Int32) (da : Addr) (ka : ClassId) (v0 : Int32) (nmb : Addr) (wtb : Int32) (db : Addr) (kb : ClassId) (w0 : Int32) (w1 : Int32) (cs : Int32) (h0 : Heap) (n0 : Nat) (Z0 : n0 ≤ h0.size) (hp0 : Exa Z h0 r0 "com/example/node_ring/nodering/pool/Server") (hp1 : Fld Z h0 r0 "com/example/node_ring/nodering/pool/Server" "name" "Ljava/lang/String;" (.ref nma)) (hp2 : Fld Z h0 r0 "com/example/node_ring/nodering/pool/Server" "weight" "I" (.int wta)) (hp3 : Exa Z h0 nma "java/lang/String") (hp4 : Fld Z h0 nma "java/lang/String" "coder" "B" (.int (0 : Int32))) (hp5 : Fld Z h0 nma "java/lang/String" "value" "[B" (.ref da)) (hp6 : Arv Z h0 da ka .byte (1 : Int32) [(.int v0)] (.int (0 : Int32))) (hp7 : Exa Z h0 r1 "com/example/node_ring/nodering/pool/Server") (hp8 : Fld Z h0 r1 "com/example/node_ring/nodering/pool/Server" "name" "Ljava/lang/String;" (.ref nmb)) (hp9 : Fld Z h0 r1 "com/example/node_ring/nodering/pool/Server" "weight" "I" (.int wtb)) (hp10 : Exa Z h0 nmb "java/lang/String") (hp11 : Fld Z h0 nmb "java/lang/String" "coder" "B" (.int (0 : Int32))) (hp12 : Fld Z h0 nmb "java/lang/String" "value" "[B" (.ref db)) (hp13 : Arv Z h0 db kb .byte (2 : Int32) [(.int w0), (.int w1)] (.int (0 : Int32))) (hp14 : Sta Z h0 "java/lang/String" "COMPACT_STRINGS" "Z" (.int cs)) (hh0 : ¬ cs = (0 : Int32)) (hh1 : ¬ nma = nmb) :
    MetFree l (⟨"com/example/node_ring/nodering/pool/Server", "equals", "(Ljava/lang/Object;)Z"⟩ : MethodName) (head1 (Jvm.Cond.code (⟨"com/example/node_ring/nodering/pool/Server", "equals", "(Ljava/lang/Object;)Z"⟩ : MethodName) prog_13_method_4_code 3 (some .boolean) :: ws) ({ frames := 2, cells := 0, slots := 0, locals := 28 } : Room)) (fun a U => a = #[(.ref r0), (.ref r1)] ∧ Z.Warmed39 U.vm ∧ U.heap = h0) (fun _ _ _ _ _ => True) (fun _ U o U' => ∃ v L, o = .returned v ∧ Q_rmE12 Z r0 r1 nma wta da ka v0 nmb wtb db kb w0 w1 cs h0 n0 v U'.heap L ∧ FrameEnd U o U' L ({ frames := 2, cells := 0, slots := 0, locals := 28 } : Room).cells ({ frames := 2, cells := 0, slots := 0, locals := 28 } : Room).slots) := by
  refine MetFree.of_bodySF (plainFor_of_name pn_rmE12) hisR ?_
  intro p e s m args below meth c s₁ Bd hml0 hP hK
  obtain ⟨rfl, hZ, hh⟩ := hP
  have hx := Bd.exec
  have hby := Bd.bytes
  have hml : c.maxLocals = 3 := hml0
  have hown : s.vm.findClass "com/example/node_ring/nodering/pool/Server" = some m.cls := findClass_of_methodNamed Bd.named
  have hnm := (name_of_methodNamed Bd.named Bd.method).1
  have hlk : meth.locks = false := BodyLoose.notSynchronized Bd
  have X0 : Stand p l e ({ frames := 2, cells := 0, slots := 0, locals := 28 } : Room) s m #[(.ref r0), (.ref r1)] below meth c s₁ [] 0 0 := Stand.of_body Bd
  have e0 : s₁.heap = h0 := by rw [← hh, Bd.state]; rfl
  have N0 := Fr.nil n0
  show own_W p e below s (Q_rmE12 Z r0 r1 nma wta da ka v0 nmb wtb db kb w0 w1 cs h0 n0) 0 0 s₁ (entryFrame m #[(.ref r0), (.ref r1)] 3)
  skip
  skip
  refine own_go (T' := s₁) (g' := (mkF m 0 #[.val (.ref r0), .val (.ref r1), .unset] [])) (fun _ k => castTop (ef_rmE12 m r0 r1) k) ?_
  refine own_go (T' := s₁) (g' := (mkF m 1 #[.val (.ref r0), .val (.ref r1), .unset] [(.ref r1)])) (fun _ k => XS.aloadN X0.here hx rfl (hb hby d10_0) rfl rfl k) ?_
  obtain ⟨T1, X1, e1, st1⟩ := instY X0 hx hZ hown (hw _ (List.mem_of_getElem? (i := 59) rfl)) e0 (Ins.self hp7) (g := (mkF m 1 #[.val (.ref r0), .val (.ref r1), .unset] [(.ref r1)])) rfl rfl (hb hby d10_1)
  refine own_go (T' := T1) (g' := (mkF m 4 #[.val (.ref r0), .val (.ref r1), .unset] [(.int (1 : Int32))])) (fun _ k => st1 _ k) ?_
  refine own_go (T' := T1) (g' := (mkF m 7 #[.val (.ref r0), .val (.ref r1), .unset] [])) (fun _ k => XS.ifNo X1.here hx rfl (hb hby d10_4) rfl (XT.i0_eq_f (by decide : ¬ ((1 : Int32) = (0 : Int32)))) k) ?_
  refine own_go (T' := T1) (g' := (mkF m 8 #[.val (.ref r0), .val (.ref r1), .unset] [(.ref r1)])) (fun _ k => XS.aloadN X1.here hx rfl (hb hby d10_7) rfl rfl k) ?_
  obtain ⟨T2, X2, e2, st2⟩ := castY X1 hx hZ hown (hw _ (List.mem_of_getElem? (i := 59) rfl)) e1 (Ins.self hp7) (g := (mkF m 8 #[.val (.ref r0), .val (.ref r1), .unset] [(.ref r1)])) rfl rfl (hb hby d10_8)
  refine own_go (T' := T2) (g' := (mkF m 11 #[.val (.ref r0), .val (.ref r1), .unset] [(.ref r1)])) (fun _ k => st2 _ k) ?_
  refine own_go (T' := T2) (g' := (mkF m 12 #[.val (.ref r0), .val (.ref r1), .val (.ref r1)] [])) (fun _ k => XS.astoreN X2.here hx rfl (hb hby d10_11) rfl rfl (l' := #[.val (.ref r0), .val (.ref r1), .val (.ref r1)]) rfl k) ?_
  refine own_go (T' := T2) (g' := (mkF m 13 #[.val (.ref r0), .val (.ref r1), .val (.ref r1)] [(.ref r0)])) (fun _ k => XS.aloadN X2.here hx rfl (hb hby d10_12) rfl rfl k) ?_
  obtain ⟨T3, X3, e3, st3⟩ := getF X2 hx hZ hown (host := "") (Or.inl (hw _ (List.mem_of_getElem? (i := 50) rfl))) Via.refl e2 hp1 (g := (mkF m 13 #[.val (.ref r0), .val (.ref r1), .val (.ref r1)] [(.ref r0)])) rfl rfl (hb hby d10_13)
  refine own_go (T' := T3) (g' := (mkF m 16 #[.val (.ref r0), .val (.ref r1), .val (.ref r1)] [(.ref nma)])) (fun _ k => st3 _ k) ?_
  refine own_go (T' := T3) (g' := (mkF m 17 #[.val (.ref r0), .val (.ref r1), .val (.ref r1)] [(.ref r1), (.ref nma)])) (fun _ k => XS.aloadN X3.here hx rfl (hb hby d10_16) rfl rfl k) ?_
  obtain ⟨T4, X4, e4, st4⟩ := getF X3 hx hZ hown (host := "") (Or.inl (hw _ (List.mem_of_getElem? (i := 50) rfl))) Via.refl e3 hp8 (g := (mkF m 17 #[.val (.ref r0), .val (.ref r1), .val (.ref r1)] [(.ref r1), (.ref nma)])) rfl rfl (hb hby d10_17)
  refine own_go (T' := T4) (g' := (mkF m 20 #[.val (.ref r0), .val (.ref r1), .val (.ref r1)] [(.ref nmb), (.ref nma)])) (fun _ k => st4 _ k) ?_
  obtain ⟨cq5, kq5, q5a, q5b, q5c⟩ := isOf hZ e4 hp3
  obtain ⟨_, _, ⟨T5, L5, k5, n5⟩, -, X5, ⟨Lc5, hQ5, l5, y5, z5⟩, st5⟩ := X4.virtualBack hx (y := (⟨"java/lang/String", "equals", "(Ljava/lang/Object;)Z"⟩ : MethodName)) (z := (⟨"java/lang/String", "equals", "(Ljava/lang/Object;)Z"⟩ : MethodName)) hown (mvT hZ (hw _ (List.mem_of_getElem? (i := 61) rfl))) (mvT hZ (hw _ (List.mem_of_getElem? (i := 62) rfl))) (notFace_of_selects (args := #[]) (mvT hZ (hw _ (List.mem_of_getElem? (i := 64) rfl)))) (mvT hZ (hw _ (List.mem_of_getElem? (i := 64) rfl))) (mvT hZ (hw _ (List.mem_of_getElem? (i := 63) rfl))) (by decide) (backOf (W := 0) (rmQ12 l Z a0 hw [] nma nmb da ka v0 db kb w0 w1 cs h0 n0 Z0 hp3 hp4 hp5 hp6 hp10 hp11 hp12 hp13 hp14 hh0 hh1) hZ (hw _ (List.mem_of_getElem? (i := 65) rfl)) (hw _ (List.mem_of_getElem? (i := 3) rfl)) (by decide) (by decide)) q5a q5c (g := (mkF m 20 #[.val (.ref r0), .val (.ref r1), .val (.ref r1)] [(.ref nmb), (.ref nma)])) rfl (by rw [hml]; rfl) (Steps.refl _) (argsL := [(.ref nmb)]) (rest := []) (lenOf own_pd7 rfl) rfl (by show 2 * 0 + _ ≤ _; exact Nat.le_of_eq rfl) (hb hby d10_20) (fun _ _ => ⟨rfl, e4, (by decide : 0 + 0 ≤ _), (by decide : 0 + 0 ≤ _)⟩)
  dsimp only [Pt.U, Pt.locs, Pt.cells, Pt.slots] at X5 l5 y5 z5 st5 hQ5
  subst l5 y5 z5
  obtain ⟨rfl, N5q, e5⟩ := hQ5
  have N5 := Fr.app N0 N5q
  refine own_go (T' := T5) (g' := (mkF m 23 #[.val (.ref r0), .val (.ref r1), .val (.ref r1)] [(.int (own_q12 nma nmb da ka v0 db kb w0 w1 cs))])) (fun _ k => st5.trans k) ?_
  by_cases hc23_6 : (own_q12 nma nmb da ka v0 db kb w0 w1 cs) = (0 : Int32)
  · skip
    refine own_go (T' := T5) (g' := (mkF m 41 #[.val (.ref r0), .val (.ref r1), .val (.ref r1)] [])) (fun _ k => XS.ifYes X5.here hx rfl (pc0 := 23) (pc' := 41) rfl (hb hby d10_23) rfl (XT.i0_eq_t hc23_6) (by decide) (by decide) k) ?_
    refine own_go (T' := T5) (g' := (mkF m 42 #[.val (.ref r0), .val (.ref r1), .val (.ref r1)] [(.int (0 : Int32))])) (fun _ k => XS.iconst X5.here hx rfl (hb hby d10_41) k) ?_
    exact own_retN X5 hx (t := .boolean) Bd.returns hlk (by simp) (hb hby d10_42) e5 ⟨(by unfold own_s12; first | (rw [if_pos hc23_6]; done) | (rw [if_pos hc23_6]; rfl)), N5, rfl⟩ (by decide) (by decide)
  · skip
    refine own_go (T' := T5) (g' := (mkF m 26 #[.val (.ref r0), .val (.ref r1), .val (.ref r1)] [])) (fun _ k => XS.ifNo X5.here hx rfl (hb hby d10_23) rfl (XT.i0_eq_f hc23_6) k) ?_
    refine own_go (T' := T5) (g' := (mkF m 27 #[.val (.ref r0), .val (.ref r1), .val (.ref r1)] [(.ref r0)])) (fun _ k => XS.aloadN X5.here hx rfl (hb hby d10_26) rfl rfl k) ?_
    obtain ⟨T7, X7, e7, st7⟩ := getF X5 hx hZ hown (host := "") (Or.inl (hw _ (List.mem_of_getElem? (i := 52) rfl))) Via.refl e5 hp2 (g := (mkF m 27 #[.val (.ref r0), .val (.ref r1), .val (.ref r1)] [(.ref r0)])) rfl rfl (hb hby d10_27)
    refine own_go (T' := T7) (g' := (mkF m 30 #[.val (.ref r0), .val (.ref r1), .val (.ref r1)] [(.int wta)])) (fun _ k => st7 _ k) ?_
    refine own_go (T' := T7) (g' := (mkF m 31 #[.val (.ref r0), .val (.ref r1), .val (.ref r1)] [(.ref r1), (.int wta)])) (fun _ k => XS.aloadN X7.here hx rfl (hb hby d10_30) rfl rfl k) ?_
    obtain ⟨T8, X8, e8, st8⟩ := getF X7 hx hZ hown (host := "") (Or.inl (hw _ (List.mem_of_getElem? (i := 52) rfl))) Via.refl e7 hp9 (g := (mkF m 31 #[.val (.ref r0), .val (.ref r1), .val (.ref r1)] [(.ref r1), (.int wta)])) rfl rfl (hb hby d10_31)
    refine own_go (T' := T8) (g' := (mkF m 34 #[.val (.ref r0), .val (.ref r1), .val (.ref r1)] [(.int wtb), (.int wta)])) (fun _ k => st8 _ k) ?_
    by_cases hc34_9 : wta = wtb
    · skip
      refine own_go (T' := T8) (g' := (mkF m 37 #[.val (.ref r0), .val (.ref r1), .val (.ref r1)] [])) (fun _ k => XS.icmpNo X8.here hx rfl (hb hby d10_34) rfl (XT.ii_ne_f hc34_9) k) ?_
      refine own_go (T' := T8) (g' := (mkF m 38 #[.val (.ref r0), .val (.ref r1), .val (.ref r1)] [(.int (1 : Int32))])) (fun _ k => XS.iconst X8.here hx rfl (hb hby d10_37) k) ?_
      refine own_go (T' := T8) (g' := (mkF m 42 #[.val (.ref r0), .val (.ref r1), .val (.ref r1)] [(.int (1 : Int32))])) (fun _ k => XS.goto X8.here hx rfl (pc0 := 38) (pc' := 42) rfl (hb hby d10_38) (by decide) (by decide) k) ?_
      exact own_retN X8 hx (t := .boolean) Bd.returns hlk (by simp) (hb hby d10_42) e8 ⟨(by unfold own_s12; first | (rw [if_neg hc23_6, if_pos hc34_9]; done) | (rw [if_neg hc23_6, if_pos hc34_9]; rfl)), N5, rfl⟩ (by decide) (by decide)
    · skip
      refine own_go (T' := T8) (g' := (mkF m 41 #[.val (.ref r0), .val (.ref r1), .val (.ref r1)] [])) (fun _ k => XS.icmpYes X8.here hx rfl (pc0 := 34) (pc' := 41) rfl (hb hby d10_34) rfl (XT.ii_ne_t hc34_9) (by decide) (by decide) k) ?_
      refine own_go (T' := T8) (g' := (mkF m 42 #[.val (.ref r0), .val (.ref r1), .val (.ref r1)] [(.int (0 : Int32))])) (fun _ k => XS.iconst X8.here hx rfl (hb hby d10_41) k) ?_
      exact own_retN X8 hx (t := .boolean) Bd.returns hlk (by simp) (hb hby d10_42) e8 ⟨(by unfold own_s12; first | (rw [if_neg hc23_6, if_neg hc34_9]; done) | (rw [if_neg hc23_6, if_neg hc34_9]; rfl)), N5, rfl⟩ (by decide) (by decide)
def own_l21 (r0 : Addr) (r1 : Addr) (ka : ClassId) (v0 : Int32) (v1 : Int32) (kb : ClassId) (w0 : Int32) : Int32 := (0 : Int32)
def Q_rmL21 (Z : State) (r0 : Addr) (r1 : Addr) (ka : ClassId) (v0 : Int32) (v1 : Int32) (kb : ClassId) (w0 : Int32) (h0 : Heap) (n0 : Nat) (v : Option Value) (h : Heap) (L : List Loc) : Prop := v = some (.int (own_l21 r0 r1 ka v0 v1 kb w0)) ∧ Fr n0 L ∧ h = h0
theorem ef_rmL21 (m : MethodId) (x0 : Addr) (x1 : Addr) : entryFrame m #[(.ref x0), (.ref x1)] 3 = mkF m 0 #[.val (.ref x0), .val (.ref x1), .unset] [] := by first | (simp [entryFrame, mkF, argsToLocals, Value.category]; done) | rfl
theorem pn_rmL21 : plainName "java/lang/StringLatin1" = true := by first | (simp [plainName, overriddenIn]; done) | decide +kernel
set_option maxRecDepth 65536 in
set_option maxHeartbeats 40000000 in
theorem rmL21 (l : Launch) (Z : State) (a0 : Array Value) (hw : ∀ d ∈ tables_1, d.before a0 Z = true) (ws : List Jvm.Cond) (r0 : Addr) (r1 : Addr) (ka : ClassId) (v0 : Int32) (v1 : Int32) (kb : ClassId) (w0 : Int32) (h0 : Heap) (n0 : Nat) (Z0 : n0 ≤ h0.size) (hp0 : Arv Z h0 r0 ka .byte (2 : Int32) [(.int v0), (.int v1)] (.int (0 : Int32))) (hp1 : Arv Z h0 r1 kb .byte (1 : Int32) [(.int w0)] (.int (0 : Int32))) :
    MetFree l (⟨"java/lang/StringLatin1", "equals", "([B[B)Z"⟩ : MethodName) (head1 (Jvm.Cond.code (⟨"java/lang/StringLatin1", "equals", "([B[B)Z"⟩ : MethodName) jdk_43_method_13_code 3 (some .boolean) :: ws) ({ frames := 0, cells := 0, slots := 0, locals := 0 } : Room)) (fun a U => a = #[(.ref r0), (.ref r1)] ∧ Z.Warmed39 U.vm ∧ U.heap = h0) (fun _ _ _ _ _ => True) (fun _ U o U' => ∃ v L, o = .returned v ∧ Q_rmL21 Z r0 r1 ka v0 v1 kb w0 h0 n0 v U'.heap L ∧ FrameEnd U o U' L ({ frames := 0, cells := 0, slots := 0, locals := 0 } : Room).cells ({ frames := 0, cells := 0, slots := 0, locals := 0 } : Room).slots) := by
  refine MetFree.of_bodySF (plainFor_of_name pn_rmL21) hisR ?_
  intro p e s m args below meth c s₁ Bd hml0 hP hK
  obtain ⟨rfl, hZ, hh⟩ := hP
  have hx := Bd.exec
  have hby := Bd.bytes
  have hml : c.maxLocals = 3 := hml0
  have hown : s.vm.findClass "java/lang/StringLatin1" = some m.cls := findClass_of_methodNamed Bd.named
  have hnm := (name_of_methodNamed Bd.named Bd.method).1
  have hlk : meth.locks = false := BodyLoose.notSynchronized Bd
  have X0 : Stand p l e ({ frames := 0, cells := 0, slots := 0, locals := 0 } : Room) s m #[(.ref r0), (.ref r1)] below meth c s₁ [] 0 0 := Stand.of_body Bd
  have e0 : s₁.heap = h0 := by rw [← hh, Bd.state]; rfl
  have N0 := Fr.nil n0
  show own_W p e below s (Q_rmL21 Z r0 r1 ka v0 v1 kb w0 h0 n0) 0 0 s₁ (entryFrame m #[(.ref r0), (.ref r1)] 3)
  skip
  skip
  refine own_go (T' := s₁) (g' := (mkF m 0 #[.val (.ref r0), .val (.ref r1), .unset] [])) (fun _ k => castTop (ef_rmL21 m r0 r1) k) ?_
  refine own_go (T' := s₁) (g' := (mkF m 1 #[.val (.ref r0), .val (.ref r1), .unset] [(.ref r0)])) (fun _ k => XS.aloadN X0.here hx rfl (hb hby d12_0) rfl rfl k) ?_
  obtain ⟨cl1, Ar1, q11, q21, q31, H1, G1⟩ := id hp0
  have st1 := X0.arraylength hx (by rw [e0]; exact Ar1.1) (State.isArrayOf_alike hZ.alike Ar1.2.1) (g := (mkF m 1 #[.val (.ref r0), .val (.ref r1), .unset] [(.ref r0)])) rfl rfl (hb hby d12_1)
  rw [len_of q21 q31] at st1
  refine own_go (T' := s₁) (g' := (mkF m 2 #[.val (.ref r0), .val (.ref r1), .unset] [(.int (2 : Int32))])) (fun _ k => st1 _ k) ?_
  refine own_go (T' := s₁) (g' := (mkF m 3 #[.val (.ref r0), .val (.ref r1), .unset] [(.ref r1), (.int (2 : Int32))])) (fun _ k => XS.aloadN X0.here hx rfl (hb hby d12_2) rfl rfl k) ?_
  obtain ⟨cl2, Ar2, q12, q22, q32, H2, G2⟩ := id hp1
  have st2 := X0.arraylength hx (by rw [e0]; exact Ar2.1) (State.isArrayOf_alike hZ.alike Ar2.2.1) (g := (mkF m 3 #[.val (.ref r0), .val (.ref r1), .unset] [(.ref r1), (.int (2 : Int32))])) rfl rfl (hb hby d12_3)
  rw [len_of q22 q32] at st2
  refine own_go (T' := s₁) (g' := (mkF m 4 #[.val (.ref r0), .val (.ref r1), .unset] [(.int (1 : Int32)), (.int (2 : Int32))])) (fun _ k => st2 _ k) ?_
  refine own_go (T' := s₁) (g' := (mkF m 34 #[.val (.ref r0), .val (.ref r1), .unset] [])) (fun _ k => XS.icmpYes X0.here hx rfl (pc0 := 4) (pc' := 34) rfl (hb hby d12_4) rfl (XT.ii_ne_t (by decide : ¬ ((2 : Int32) = (1 : Int32)))) (by decide) (by decide) k) ?_
  refine own_go (T' := s₁) (g' := (mkF m 35 #[.val (.ref r0), .val (.ref r1), .unset] [(.int (0 : Int32))])) (fun _ k => XS.iconst X0.here hx rfl (hb hby d12_34) k) ?_
  exact own_retN X0 hx (t := .boolean) Bd.returns hlk (by simp) (hb hby d12_35) e0 ⟨(by unfold own_l21; first | rfl | done), N0, rfl⟩ (by decide) (by decide)
def own_q21 (r0 : Addr) (r1 : Addr) (da : Addr) (ka : ClassId) (v0 : Int32) (v1 : Int32) (db : Addr) (kb : ClassId) (w0 : Int32) (cs : Int32) : Int32 := (if (own_l21 da db ka v0 v1 kb w0) = (0 : Int32) then (0 : Int32) else (1 : Int32))
def Q_rmQ21 (Z : State) (r0 : Addr) (r1 : Addr) (da : Addr) (ka : ClassId) (v0 : Int32) (v1 : Int32) (db : Addr) (kb : ClassId) (w0 : Int32) (cs : Int32) (h0 : Heap) (n0 : Nat) (v : Option Value) (h : Heap) (L : List Loc) : Prop := v = some (.int (own_q21 r0 r1 da ka v0 v1 db kb w0 cs)) ∧ Fr n0 L ∧ h = h0
theorem ef_rmQ21 (m : MethodId) (x0 : Addr) (x1 : Addr) : entryFrame m #[(.ref x0), (.ref x1)] 3 = mkF m 0 #[.val (.ref x0), .val (.ref x1), .unset] [] := by first | (simp [entryFrame, mkF, argsToLocals, Value.category]; done) | rfl
theorem pn_rmQ21 : plainName "java/lang/String" = true := by first | (simp [plainName, overriddenIn]; done) | decide +kernel
set_option maxRecDepth 65536 in
set_option maxHeartbeats 40000000 in
theorem rmQ21 (l : Launch) (Z : State) (a0 : Array Value) (hw : ∀ d ∈ tables_1, d.before a0 Z = true) (ws : List Jvm.Cond) (r0 : Addr) (r1 : Addr) (da : Addr) (ka : ClassId) (v0 : Int32) (v1 : Int32) (db : Addr) (kb : ClassId) (w0 : Int32) (cs : Int32) (h0 : Heap) (n0 : Nat) (Z0 : n0 ≤ h0.size) (hp0 : Exa Z h0 r0 "java/lang/String") (hp1 : Fld Z h0 r0 "java/lang/String" "coder" "B" (.int (0 : Int32))) (hp2 : Fld Z h0 r0 "java/lang/String" "value" "[B" (.ref da)) (hp3 : Arv Z h0 da ka .byte (2 : Int32) [(.int v0), (.int v1)] (.int (0 : Int32))) (hp4 : Exa Z h0 r1 "java/lang/String") (hp5 : Fld Z h0 r1 "java/lang/String" "coder" "B" (.int (0 : Int32))) (hp6 : Fld Z h0 r1 "java/lang/String" "value" "[B" (.ref db)) (hp7 : Arv Z h0 db kb .byte (1 : Int32) [(.int w0)] (.int (0 : Int32))) (hp8 : Sta Z h0 "java/lang/String" "COMPACT_STRINGS" "Z" (.int cs)) (hh0 : ¬ cs = (0 : Int32)) (hh1 : ¬ r0 = r1) :
    MetFree l (⟨"java/lang/String", "equals", "(Ljava/lang/Object;)Z"⟩ : MethodName) (head1 (Jvm.Cond.code (⟨"java/lang/String", "equals", "(Ljava/lang/Object;)Z"⟩ : MethodName) jdk_42_method_66_code 3 (some .boolean) :: ws) ({ frames := 1, cells := 0, slots := 0, locals := 14 } : Room)) (fun a U => a = #[(.ref r0), (.ref r1)] ∧ Z.Warmed39 U.vm ∧ U.heap = h0) (fun _ _ _ _ _ => True) (fun _ U o U' => ∃ v L, o = .returned v ∧ Q_rmQ21 Z r0 r1 da ka v0 v1 db kb w0 cs h0 n0 v U'.heap L ∧ FrameEnd U o U' L ({ frames := 1, cells := 0, slots := 0, locals := 14 } : Room).cells ({ frames := 1, cells := 0, slots := 0, locals := 14 } : Room).slots) := by
  refine MetFree.of_bodySF (plainFor_of_name pn_rmQ21) hisR ?_
  intro p e s m args below meth c s₁ Bd hml0 hP hK
  obtain ⟨rfl, hZ, hh⟩ := hP
  have hx := Bd.exec
  have hby := Bd.bytes
  have hml : c.maxLocals = 3 := hml0
  have hown : s.vm.findClass "java/lang/String" = some m.cls := findClass_of_methodNamed Bd.named
  have hnm := (name_of_methodNamed Bd.named Bd.method).1
  have hlk : meth.locks = false := BodyLoose.notSynchronized Bd
  have X0 : Stand p l e ({ frames := 1, cells := 0, slots := 0, locals := 14 } : Room) s m #[(.ref r0), (.ref r1)] below meth c s₁ [] 0 0 := Stand.of_body Bd
  have e0 : s₁.heap = h0 := by rw [← hh, Bd.state]; rfl
  have N0 := Fr.nil n0
  show own_W p e below s (Q_rmQ21 Z r0 r1 da ka v0 v1 db kb w0 cs h0 n0) 0 0 s₁ (entryFrame m #[(.ref r0), (.ref r1)] 3)
  skip
  skip
  refine own_go (T' := s₁) (g' := (mkF m 0 #[.val (.ref r0), .val (.ref r1), .unset] [])) (fun _ k => castTop (ef_rmQ21 m r0 r1) k) ?_
  refine own_go (T' := s₁) (g' := (mkF m 1 #[.val (.ref r0), .val (.ref r1), .unset] [(.ref r0)])) (fun _ k => XS.aloadN X0.here hx rfl (hb hby d11_0) rfl rfl k) ?_
  refine own_go (T' := s₁) (g' := (mkF m 2 #[.val (.ref r0), .val (.ref r1), .unset] [(.ref r1), (.ref r0)])) (fun _ k => XS.aloadN X0.here hx rfl (hb hby d11_1) rfl rfl k) ?_
  refine own_go (T' := s₁) (g' := (mkF m 7 #[.val (.ref r0), .val (.ref r1), .unset] [])) (fun _ k => XT.acmpYes X0.here hx rfl (pc0 := 2) (pc' := 7) rfl (hb hby d11_2) rfl rfl rfl (XT.aa_ne_t (fun q => hh1 (Value.ref.inj q))) (by decide) (by decide) k) ?_
  refine own_go (T' := s₁) (g' := (mkF m 8 #[.val (.ref r0), .val (.ref r1), .unset] [(.ref r1)])) (fun _ k => XS.aloadN X0.here hx rfl (hb hby d11_7) rfl rfl k) ?_
  obtain ⟨T1, X1, e1, st1⟩ := instY X0 hx hZ hown (hw _ (List.mem_of_getElem? (i := 66) rfl)) e0 (Ins.self hp4) (g := (mkF m 8 #[.val (.ref r0), .val (.ref r1), .unset] [(.ref r1)])) rfl rfl (hb hby d11_8)
  refine own_go (T' := T1) (g' := (mkF m 11 #[.val (.ref r0), .val (.ref r1), .unset] [(.int (1 : Int32))])) (fun _ k => st1 _ k) ?_
  refine own_go (T' := T1) (g' := (mkF m 14 #[.val (.ref r0), .val (.ref r1), .unset] [])) (fun _ k => XS.ifNo X1.here hx rfl (hb hby d11_11) rfl (XT.i0_eq_f (by decide : ¬ ((1 : Int32) = (0 : Int32)))) k) ?_
  refine own_go (T' := T1) (g' := (mkF m 15 #[.val (.ref r0), .val (.ref r1), .unset] [(.ref r1)])) (fun _ k => XS.aloadN X1.here hx rfl (hb hby d11_14) rfl rfl k) ?_
  obtain ⟨T2, X2, e2, st2⟩ := castY X1 hx hZ hown (hw _ (List.mem_of_getElem? (i := 66) rfl)) e1 (Ins.self hp4) (g := (mkF m 15 #[.val (.ref r0), .val (.ref r1), .unset] [(.ref r1)])) rfl rfl (hb hby d11_15)
  refine own_go (T' := T2) (g' := (mkF m 18 #[.val (.ref r0), .val (.ref r1), .unset] [(.ref r1)])) (fun _ k => st2 _ k) ?_
  refine own_go (T' := T2) (g' := (mkF m 19 #[.val (.ref r0), .val (.ref r1), .val (.ref r1)] [])) (fun _ k => XS.astoreN X2.here hx rfl (hb hby d11_18) rfl rfl (l' := #[.val (.ref r0), .val (.ref r1), .val (.ref r1)]) rfl k) ?_
  obtain ⟨T3, X3, e3, st3⟩ := getS2 X2 hx hZ hown (host := "") (Or.inl (hw _ (List.mem_of_getElem? (i := 15) rfl))) Via.refl e2 hp8 (g := (mkF m 19 #[.val (.ref r0), .val (.ref r1), .val (.ref r1)] [])) rfl (hb hby d11_19)
  refine own_go (T' := T3) (g' := (mkF m 22 #[.val (.ref r0), .val (.ref r1), .val (.ref r1)] [(.int cs)])) (fun _ k => st3 _ k) ?_
  refine own_go (T' := T3) (g' := (mkF m 25 #[.val (.ref r0), .val (.ref r1), .val (.ref r1)] [])) (fun _ k => XS.ifNo X3.here hx rfl (hb hby d11_22) rfl (XT.i0_eq_f hh0) k) ?_
  refine own_go (T' := T3) (g' := (mkF m 26 #[.val (.ref r0), .val (.ref r1), .val (.ref r1)] [(.ref r0)])) (fun _ k => XS.aloadN X3.here hx rfl (hb hby d11_25) rfl rfl k) ?_
  obtain ⟨T4, X4, e4, st4⟩ := getF X3 hx hZ hown (host := "") (Or.inl (hw _ (List.mem_of_getElem? (i := 27) rfl))) Via.refl e3 hp1 (g := (mkF m 26 #[.val (.ref r0), .val (.ref r1), .val (.ref r1)] [(.ref r0)])) rfl rfl (hb hby d11_26)
  refine own_go (T' := T4) (g' := (mkF m 29 #[.val (.ref r0), .val (.ref r1), .val (.ref r1)] [(.int (0 : Int32))])) (fun _ k => st4 _ k) ?_
  refine own_go (T' := T4) (g' := (mkF m 30 #[.val (.ref r0), .val (.ref r1), .val (.ref r1)] [(.ref r1), (.int (0 : Int32))])) (fun _ k => XS.aloadN X4.here hx rfl (hb hby d11_29) rfl rfl k) ?_
  obtain ⟨T5, X5, e5, st5⟩ := getF X4 hx hZ hown (host := "") (Or.inl (hw _ (List.mem_of_getElem? (i := 27) rfl))) Via.refl e4 hp5 (g := (mkF m 30 #[.val (.ref r0), .val (.ref r1), .val (.ref r1)] [(.ref r1), (.int (0 : Int32))])) rfl rfl (hb hby d11_30)
  refine own_go (T' := T5) (g' := (mkF m 33 #[.val (.ref r0), .val (.ref r1), .val (.ref r1)] [(.int (0 : Int32)), (.int (0 : Int32))])) (fun _ k => st5 _ k) ?_
  refine own_go (T' := T5) (g' := (mkF m 36 #[.val (.ref r0), .val (.ref r1), .val (.ref r1)] [])) (fun _ k => XS.icmpNo X5.here hx rfl (hb hby d11_33) rfl (XT.ii_ne_f (rfl : (0 : Int32) = (0 : Int32))) k) ?_
  refine own_go (T' := T5) (g' := (mkF m 37 #[.val (.ref r0), .val (.ref r1), .val (.ref r1)] [(.ref r0)])) (fun _ k => XS.aloadN X5.here hx rfl (hb hby d11_36) rfl rfl k) ?_
  obtain ⟨T6, X6, e6, st6⟩ := getF X5 hx hZ hown (host := "") (Or.inl (hw _ (List.mem_of_getElem? (i := 29) rfl))) Via.refl e5 hp2 (g := (mkF m 37 #[.val (.ref r0), .val (.ref r1), .val (.ref r1)] [(.ref r0)])) rfl rfl (hb hby d11_37)
  refine own_go (T' := T6) (g' := (mkF m 40 #[.val (.ref r0), .val (.ref r1), .val (.ref r1)] [(.ref da)])) (fun _ k => st6 _ k) ?_
  refine own_go (T' := T6) (g' := (mkF m 41 #[.val (.ref r0), .val (.ref r1), .val (.ref r1)] [(.ref r1), (.ref da)])) (fun _ k => XS.aloadN X6.here hx rfl (hb hby d11_40) rfl rfl k) ?_
  obtain ⟨T7, X7, e7, st7⟩ := getF X6 hx hZ hown (host := "") (Or.inl (hw _ (List.mem_of_getElem? (i := 29) rfl))) Via.refl e6 hp6 (g := (mkF m 41 #[.val (.ref r0), .val (.ref r1), .val (.ref r1)] [(.ref r1), (.ref da)])) rfl rfl (hb hby d11_41)
  refine own_go (T' := T7) (g' := (mkF m 44 #[.val (.ref r0), .val (.ref r1), .val (.ref r1)] [(.ref db), (.ref da)])) (fun _ k => st7 _ k) ?_
  obtain ⟨_, _, ⟨T8, L8, k8, n8⟩, -, X8, ⟨Lc8, hQ8, l8, y8, z8⟩, st8⟩ := Jvm.LawKit.callS X7 hx (y := (⟨"java/lang/StringLatin1", "equals", "([B[B)Z"⟩ : MethodName)) hown (mvT hZ (hw _ (List.mem_of_getElem? (i := 67) rfl))) (mvT hZ (hw _ (List.mem_of_getElem? (i := 68) rfl))) (mvT hZ (hw _ (List.mem_of_getElem? (i := 69) rfl))) (mvT hZ (hw _ (List.mem_of_getElem? (i := 70) rfl))) (by decide) (backOf (W := 0) (rmL21 l Z a0 hw [] da db ka v0 v1 kb w0 h0 n0 Z0 hp3 hp7) hZ (hw _ (List.mem_of_getElem? (i := 70) rfl)) (hw _ (List.mem_of_getElem? (i := 69) rfl)) (by decide) (by decide)) (g := (mkF m 44 #[.val (.ref r0), .val (.ref r1), .val (.ref r1)] [(.ref db), (.ref da)])) rfl (by rw [hml]; rfl) (argsL := [(.ref da), (.ref db)]) (rest := []) (lenOf own_pd6 rfl) rfl (by show 2 * 0 + _ ≤ _; exact Nat.le_of_eq rfl) (hb hby d11_44) (fun _ _ => ⟨rfl, e7, (by decide : 0 + 0 ≤ _), (by decide : 0 + 0 ≤ _)⟩)
  dsimp only [Pt.U, Pt.locs, Pt.cells, Pt.slots] at X8 l8 y8 z8 st8 hQ8
  subst l8 y8 z8
  obtain ⟨rfl, N8q, e8⟩ := hQ8
  have N8 := Fr.app N0 N8q
  refine own_go (T' := T8) (g' := (mkF m 47 #[.val (.ref r0), .val (.ref r1), .val (.ref r1)] [(.int (own_l21 da db ka v0 v1 kb w0))])) (fun _ k => st8 _ k) ?_
  by_cases hc47_9 : (own_l21 da db ka v0 v1 kb w0) = (0 : Int32)
  · skip
    refine own_go (T' := T8) (g' := (mkF m 54 #[.val (.ref r0), .val (.ref r1), .val (.ref r1)] [])) (fun _ k => XS.ifYes X8.here hx rfl (pc0 := 47) (pc' := 54) rfl (hb hby d11_47) rfl (XT.i0_eq_t hc47_9) (by decide) (by decide) k) ?_
    refine own_go (T' := T8) (g' := (mkF m 55 #[.val (.ref r0), .val (.ref r1), .val (.ref r1)] [(.int (0 : Int32))])) (fun _ k => XS.iconst X8.here hx rfl (hb hby d11_54) k) ?_
    exact own_retN X8 hx (t := .boolean) Bd.returns hlk (by simp) (hb hby d11_55) e8 ⟨(by unfold own_q21; first | (rw [if_pos hc47_9]; done) | (rw [if_pos hc47_9]; rfl)), N8, rfl⟩ (by decide) (by decide)
  · skip
    refine own_go (T' := T8) (g' := (mkF m 50 #[.val (.ref r0), .val (.ref r1), .val (.ref r1)] [])) (fun _ k => XS.ifNo X8.here hx rfl (hb hby d11_47) rfl (XT.i0_eq_f hc47_9) k) ?_
    refine own_go (T' := T8) (g' := (mkF m 51 #[.val (.ref r0), .val (.ref r1), .val (.ref r1)] [(.int (1 : Int32))])) (fun _ k => XS.iconst X8.here hx rfl (hb hby d11_50) k) ?_
    refine own_go (T' := T8) (g' := (mkF m 55 #[.val (.ref r0), .val (.ref r1), .val (.ref r1)] [(.int (1 : Int32))])) (fun _ k => XS.goto X8.here hx rfl (pc0 := 51) (pc' := 55) rfl (hb hby d11_51) (by decide) (by decide) k) ?_
    exact own_retN X8 hx (t := .boolean) Bd.returns hlk (by simp) (hb hby d11_55) e8 ⟨(by unfold own_q21; first | (rw [if_neg hc47_9]; done) | (rw [if_neg hc47_9]; rfl)), N8, rfl⟩ (by decide) (by decide)
def own_s21 (r0 : Addr) (r1 : Addr) (nma : Addr) (wta : Int32) (da : Addr) (ka : ClassId) (v0 : Int32) (v1 : Int32) (nmb : Addr) (wtb : Int32) (db : Addr) (kb : ClassId) (w0 : Int32) (cs : Int32) : Int32 := (if (own_q21 nma nmb da ka v0 v1 db kb w0 cs) = (0 : Int32) then (0 : Int32) else (if wta = wtb then (1 : Int32) else (0 : Int32)))
def Q_rmE21 (Z : State) (r0 : Addr) (r1 : Addr) (nma : Addr) (wta : Int32) (da : Addr) (ka : ClassId) (v0 : Int32) (v1 : Int32) (nmb : Addr) (wtb : Int32) (db : Addr) (kb : ClassId) (w0 : Int32) (cs : Int32) (h0 : Heap) (n0 : Nat) (v : Option Value) (h : Heap) (L : List Loc) : Prop := v = some (.int (own_s21 r0 r1 nma wta da ka v0 v1 nmb wtb db kb w0 cs)) ∧ Fr n0 L ∧ h = h0
theorem ef_rmE21 (m : MethodId) (x0 : Addr) (x1 : Addr) : entryFrame m #[(.ref x0), (.ref x1)] 3 = mkF m 0 #[.val (.ref x0), .val (.ref x1), .unset] [] := by first | (simp [entryFrame, mkF, argsToLocals, Value.category]; done) | rfl
theorem pn_rmE21 : plainName "com/example/node_ring/nodering/pool/Server" = true := by first | (simp [plainName, overriddenIn]; done) | decide +kernel
set_option maxRecDepth 65536 in
set_option maxHeartbeats 40000000 in
theorem rmE21 (l : Launch) (Z : State) (a0 : Array Value) (hw : ∀ d ∈ tables_1, d.before a0 Z = true) (ws : List Jvm.Cond) (r0 : Addr) (r1 : Addr) (nma : Addr) (wta : Int32) (da : Addr) (ka : ClassId) (v0 : Int32) (v1 : Int32) (nmb : Addr) (wtb : Int32) (db : Addr) (kb : ClassId) (w0 : Int32) (cs : Int32) (h0 : Heap) (n0 : Nat) (Z0 : n0 ≤ h0.size) (hp0 : Exa Z h0 r0 "com/example/node_ring/nodering/pool/Server") (hp1 : Fld Z h0 r0 "com/example/node_ring/nodering/pool/Server" "name" "Ljava/lang/String;" (.ref nma)) (hp2 : Fld Z h0 r0 "com/example/node_ring/nodering/pool/Server" "weight" "I" (.int wta)) (hp3 : Exa Z h0 nma "java/lang/String") (hp4 : Fld Z h0 nma "java/lang/String" "coder" "B" (.int (0 : Int32))) (hp5 : Fld Z h0 nma "java/lang/String" "value" "[B" (.ref da)) (hp6 : Arv Z h0 da ka .byte (2 : Int32) [(.int v0), (.int v1)] (.int (0 : Int32))) (hp7 : Exa Z h0 r1 "com/example/node_ring/nodering/pool/Server") (hp8 : Fld Z h0 r1 "com/example/node_ring/nodering/pool/Server" "name" "Ljava/lang/String;" (.ref nmb)) (hp9 : Fld Z h0 r1 "com/example/node_ring/nodering/pool/Server" "weight" "I" (.int wtb)) (hp10 : Exa Z h0 nmb "java/lang/String") (hp11 : Fld Z h0 nmb "java/lang/String" "coder" "B" (.int (0 : Int32))) (hp12 : Fld Z h0 nmb "java/lang/String" "value" "[B" (.ref db)) (hp13 : Arv Z h0 db kb .byte (1 : Int32) [(.int w0)] (.int (0 : Int32))) (hp14 : Sta Z h0 "java/lang/String" "COMPACT_STRINGS" "Z" (.int cs)) (hh0 : ¬ cs = (0 : Int32)) (hh1 : ¬ nma = nmb) :
    MetFree l (⟨"com/example/node_ring/nodering/pool/Server", "equals", "(Ljava/lang/Object;)Z"⟩ : MethodName) (head1 (Jvm.Cond.code (⟨"com/example/node_ring/nodering/pool/Server", "equals", "(Ljava/lang/Object;)Z"⟩ : MethodName) prog_13_method_4_code 3 (some .boolean) :: ws) ({ frames := 2, cells := 0, slots := 0, locals := 28 } : Room)) (fun a U => a = #[(.ref r0), (.ref r1)] ∧ Z.Warmed39 U.vm ∧ U.heap = h0) (fun _ _ _ _ _ => True) (fun _ U o U' => ∃ v L, o = .returned v ∧ Q_rmE21 Z r0 r1 nma wta da ka v0 v1 nmb wtb db kb w0 cs h0 n0 v U'.heap L ∧ FrameEnd U o U' L ({ frames := 2, cells := 0, slots := 0, locals := 28 } : Room).cells ({ frames := 2, cells := 0, slots := 0, locals := 28 } : Room).slots) := by
  refine MetFree.of_bodySF (plainFor_of_name pn_rmE21) hisR ?_
  intro p e s m args below meth c s₁ Bd hml0 hP hK
  obtain ⟨rfl, hZ, hh⟩ := hP
  have hx := Bd.exec
  have hby := Bd.bytes
  have hml : c.maxLocals = 3 := hml0
  have hown : s.vm.findClass "com/example/node_ring/nodering/pool/Server" = some m.cls := findClass_of_methodNamed Bd.named
  have hnm := (name_of_methodNamed Bd.named Bd.method).1
  have hlk : meth.locks = false := BodyLoose.notSynchronized Bd
  have X0 : Stand p l e ({ frames := 2, cells := 0, slots := 0, locals := 28 } : Room) s m #[(.ref r0), (.ref r1)] below meth c s₁ [] 0 0 := Stand.of_body Bd
  have e0 : s₁.heap = h0 := by rw [← hh, Bd.state]; rfl
  have N0 := Fr.nil n0
  show own_W p e below s (Q_rmE21 Z r0 r1 nma wta da ka v0 v1 nmb wtb db kb w0 cs h0 n0) 0 0 s₁ (entryFrame m #[(.ref r0), (.ref r1)] 3)
  skip
  skip
  refine own_go (T' := s₁) (g' := (mkF m 0 #[.val (.ref r0), .val (.ref r1), .unset] [])) (fun _ k => castTop (ef_rmE21 m r0 r1) k) ?_
  refine own_go (T' := s₁) (g' := (mkF m 1 #[.val (.ref r0), .val (.ref r1), .unset] [(.ref r1)])) (fun _ k => XS.aloadN X0.here hx rfl (hb hby d10_0) rfl rfl k) ?_
  obtain ⟨T1, X1, e1, st1⟩ := instY X0 hx hZ hown (hw _ (List.mem_of_getElem? (i := 59) rfl)) e0 (Ins.self hp7) (g := (mkF m 1 #[.val (.ref r0), .val (.ref r1), .unset] [(.ref r1)])) rfl rfl (hb hby d10_1)
  refine own_go (T' := T1) (g' := (mkF m 4 #[.val (.ref r0), .val (.ref r1), .unset] [(.int (1 : Int32))])) (fun _ k => st1 _ k) ?_
  refine own_go (T' := T1) (g' := (mkF m 7 #[.val (.ref r0), .val (.ref r1), .unset] [])) (fun _ k => XS.ifNo X1.here hx rfl (hb hby d10_4) rfl (XT.i0_eq_f (by decide : ¬ ((1 : Int32) = (0 : Int32)))) k) ?_
  refine own_go (T' := T1) (g' := (mkF m 8 #[.val (.ref r0), .val (.ref r1), .unset] [(.ref r1)])) (fun _ k => XS.aloadN X1.here hx rfl (hb hby d10_7) rfl rfl k) ?_
  obtain ⟨T2, X2, e2, st2⟩ := castY X1 hx hZ hown (hw _ (List.mem_of_getElem? (i := 59) rfl)) e1 (Ins.self hp7) (g := (mkF m 8 #[.val (.ref r0), .val (.ref r1), .unset] [(.ref r1)])) rfl rfl (hb hby d10_8)
  refine own_go (T' := T2) (g' := (mkF m 11 #[.val (.ref r0), .val (.ref r1), .unset] [(.ref r1)])) (fun _ k => st2 _ k) ?_
  refine own_go (T' := T2) (g' := (mkF m 12 #[.val (.ref r0), .val (.ref r1), .val (.ref r1)] [])) (fun _ k => XS.astoreN X2.here hx rfl (hb hby d10_11) rfl rfl (l' := #[.val (.ref r0), .val (.ref r1), .val (.ref r1)]) rfl k) ?_
  refine own_go (T' := T2) (g' := (mkF m 13 #[.val (.ref r0), .val (.ref r1), .val (.ref r1)] [(.ref r0)])) (fun _ k => XS.aloadN X2.here hx rfl (hb hby d10_12) rfl rfl k) ?_
  obtain ⟨T3, X3, e3, st3⟩ := getF X2 hx hZ hown (host := "") (Or.inl (hw _ (List.mem_of_getElem? (i := 50) rfl))) Via.refl e2 hp1 (g := (mkF m 13 #[.val (.ref r0), .val (.ref r1), .val (.ref r1)] [(.ref r0)])) rfl rfl (hb hby d10_13)
  refine own_go (T' := T3) (g' := (mkF m 16 #[.val (.ref r0), .val (.ref r1), .val (.ref r1)] [(.ref nma)])) (fun _ k => st3 _ k) ?_
  refine own_go (T' := T3) (g' := (mkF m 17 #[.val (.ref r0), .val (.ref r1), .val (.ref r1)] [(.ref r1), (.ref nma)])) (fun _ k => XS.aloadN X3.here hx rfl (hb hby d10_16) rfl rfl k) ?_
  obtain ⟨T4, X4, e4, st4⟩ := getF X3 hx hZ hown (host := "") (Or.inl (hw _ (List.mem_of_getElem? (i := 50) rfl))) Via.refl e3 hp8 (g := (mkF m 17 #[.val (.ref r0), .val (.ref r1), .val (.ref r1)] [(.ref r1), (.ref nma)])) rfl rfl (hb hby d10_17)
  refine own_go (T' := T4) (g' := (mkF m 20 #[.val (.ref r0), .val (.ref r1), .val (.ref r1)] [(.ref nmb), (.ref nma)])) (fun _ k => st4 _ k) ?_
  obtain ⟨cq5, kq5, q5a, q5b, q5c⟩ := isOf hZ e4 hp3
  obtain ⟨_, _, ⟨T5, L5, k5, n5⟩, -, X5, ⟨Lc5, hQ5, l5, y5, z5⟩, st5⟩ := X4.virtualBack hx (y := (⟨"java/lang/String", "equals", "(Ljava/lang/Object;)Z"⟩ : MethodName)) (z := (⟨"java/lang/String", "equals", "(Ljava/lang/Object;)Z"⟩ : MethodName)) hown (mvT hZ (hw _ (List.mem_of_getElem? (i := 61) rfl))) (mvT hZ (hw _ (List.mem_of_getElem? (i := 62) rfl))) (notFace_of_selects (args := #[]) (mvT hZ (hw _ (List.mem_of_getElem? (i := 64) rfl)))) (mvT hZ (hw _ (List.mem_of_getElem? (i := 64) rfl))) (mvT hZ (hw _ (List.mem_of_getElem? (i := 63) rfl))) (by decide) (backOf (W := 0) (rmQ21 l Z a0 hw [] nma nmb da ka v0 v1 db kb w0 cs h0 n0 Z0 hp3 hp4 hp5 hp6 hp10 hp11 hp12 hp13 hp14 hh0 hh1) hZ (hw _ (List.mem_of_getElem? (i := 65) rfl)) (hw _ (List.mem_of_getElem? (i := 3) rfl)) (by decide) (by decide)) q5a q5c (g := (mkF m 20 #[.val (.ref r0), .val (.ref r1), .val (.ref r1)] [(.ref nmb), (.ref nma)])) rfl (by rw [hml]; rfl) (Steps.refl _) (argsL := [(.ref nmb)]) (rest := []) (lenOf own_pd7 rfl) rfl (by show 2 * 0 + _ ≤ _; exact Nat.le_of_eq rfl) (hb hby d10_20) (fun _ _ => ⟨rfl, e4, (by decide : 0 + 0 ≤ _), (by decide : 0 + 0 ≤ _)⟩)
  dsimp only [Pt.U, Pt.locs, Pt.cells, Pt.slots] at X5 l5 y5 z5 st5 hQ5
  subst l5 y5 z5
  obtain ⟨rfl, N5q, e5⟩ := hQ5
  have N5 := Fr.app N0 N5q
  refine own_go (T' := T5) (g' := (mkF m 23 #[.val (.ref r0), .val (.ref r1), .val (.ref r1)] [(.int (own_q21 nma nmb da ka v0 v1 db kb w0 cs))])) (fun _ k => st5.trans k) ?_
  by_cases hc23_6 : (own_q21 nma nmb da ka v0 v1 db kb w0 cs) = (0 : Int32)
  · skip
    refine own_go (T' := T5) (g' := (mkF m 41 #[.val (.ref r0), .val (.ref r1), .val (.ref r1)] [])) (fun _ k => XS.ifYes X5.here hx rfl (pc0 := 23) (pc' := 41) rfl (hb hby d10_23) rfl (XT.i0_eq_t hc23_6) (by decide) (by decide) k) ?_
    refine own_go (T' := T5) (g' := (mkF m 42 #[.val (.ref r0), .val (.ref r1), .val (.ref r1)] [(.int (0 : Int32))])) (fun _ k => XS.iconst X5.here hx rfl (hb hby d10_41) k) ?_
    exact own_retN X5 hx (t := .boolean) Bd.returns hlk (by simp) (hb hby d10_42) e5 ⟨(by unfold own_s21; first | (rw [if_pos hc23_6]; done) | (rw [if_pos hc23_6]; rfl)), N5, rfl⟩ (by decide) (by decide)
  · skip
    refine own_go (T' := T5) (g' := (mkF m 26 #[.val (.ref r0), .val (.ref r1), .val (.ref r1)] [])) (fun _ k => XS.ifNo X5.here hx rfl (hb hby d10_23) rfl (XT.i0_eq_f hc23_6) k) ?_
    refine own_go (T' := T5) (g' := (mkF m 27 #[.val (.ref r0), .val (.ref r1), .val (.ref r1)] [(.ref r0)])) (fun _ k => XS.aloadN X5.here hx rfl (hb hby d10_26) rfl rfl k) ?_
    obtain ⟨T7, X7, e7, st7⟩ := getF X5 hx hZ hown (host := "") (Or.inl (hw _ (List.mem_of_getElem? (i := 52) rfl))) Via.refl e5 hp2 (g := (mkF m 27 #[.val (.ref r0), .val (.ref r1), .val (.ref r1)] [(.ref r0)])) rfl rfl (hb hby d10_27)
    refine own_go (T' := T7) (g' := (mkF m 30 #[.val (.ref r0), .val (.ref r1), .val (.ref r1)] [(.int wta)])) (fun _ k => st7 _ k) ?_
    refine own_go (T' := T7) (g' := (mkF m 31 #[.val (.ref r0), .val (.ref r1), .val (.ref r1)] [(.ref r1), (.int wta)])) (fun _ k => XS.aloadN X7.here hx rfl (hb hby d10_30) rfl rfl k) ?_
    obtain ⟨T8, X8, e8, st8⟩ := getF X7 hx hZ hown (host := "") (Or.inl (hw _ (List.mem_of_getElem? (i := 52) rfl))) Via.refl e7 hp9 (g := (mkF m 31 #[.val (.ref r0), .val (.ref r1), .val (.ref r1)] [(.ref r1), (.int wta)])) rfl rfl (hb hby d10_31)
    refine own_go (T' := T8) (g' := (mkF m 34 #[.val (.ref r0), .val (.ref r1), .val (.ref r1)] [(.int wtb), (.int wta)])) (fun _ k => st8 _ k) ?_
    by_cases hc34_9 : wta = wtb
    · skip
      refine own_go (T' := T8) (g' := (mkF m 37 #[.val (.ref r0), .val (.ref r1), .val (.ref r1)] [])) (fun _ k => XS.icmpNo X8.here hx rfl (hb hby d10_34) rfl (XT.ii_ne_f hc34_9) k) ?_
      refine own_go (T' := T8) (g' := (mkF m 38 #[.val (.ref r0), .val (.ref r1), .val (.ref r1)] [(.int (1 : Int32))])) (fun _ k => XS.iconst X8.here hx rfl (hb hby d10_37) k) ?_
      refine own_go (T' := T8) (g' := (mkF m 42 #[.val (.ref r0), .val (.ref r1), .val (.ref r1)] [(.int (1 : Int32))])) (fun _ k => XS.goto X8.here hx rfl (pc0 := 38) (pc' := 42) rfl (hb hby d10_38) (by decide) (by decide) k) ?_
      exact own_retN X8 hx (t := .boolean) Bd.returns hlk (by simp) (hb hby d10_42) e8 ⟨(by unfold own_s21; first | (rw [if_neg hc23_6, if_pos hc34_9]; done) | (rw [if_neg hc23_6, if_pos hc34_9]; rfl)), N5, rfl⟩ (by decide) (by decide)
    · skip
      refine own_go (T' := T8) (g' := (mkF m 41 #[.val (.ref r0), .val (.ref r1), .val (.ref r1)] [])) (fun _ k => XS.icmpYes X8.here hx rfl (pc0 := 34) (pc' := 41) rfl (hb hby d10_34) rfl (XT.ii_ne_t hc34_9) (by decide) (by decide) k) ?_
      refine own_go (T' := T8) (g' := (mkF m 42 #[.val (.ref r0), .val (.ref r1), .val (.ref r1)] [(.int (0 : Int32))])) (fun _ k => XS.iconst X8.here hx rfl (hb hby d10_41) k) ?_
      exact own_retN X8 hx (t := .boolean) Bd.returns hlk (by simp) (hb hby d10_42) e8 ⟨(by unfold own_s21; first | (rw [if_neg hc23_6, if_neg hc34_9]; done) | (rw [if_neg hc23_6, if_neg hc34_9]; rfl)), N5, rfl⟩ (by decide) (by decide)
def own_l22 (r0 : Addr) (r1 : Addr) (ka : ClassId) (v0 : Int32) (v1 : Int32) (kb : ClassId) (w0 : Int32) (w1 : Int32) : Int32 := (if v0 = w0 then (if v1 = w1 then (1 : Int32) else (0 : Int32)) else (0 : Int32))
def Q_rmL22 (Z : State) (r0 : Addr) (r1 : Addr) (ka : ClassId) (v0 : Int32) (v1 : Int32) (kb : ClassId) (w0 : Int32) (w1 : Int32) (h0 : Heap) (n0 : Nat) (v : Option Value) (h : Heap) (L : List Loc) : Prop := v = some (.int (own_l22 r0 r1 ka v0 v1 kb w0 w1)) ∧ Fr n0 L ∧ h = h0
theorem ef_rmL22 (m : MethodId) (x0 : Addr) (x1 : Addr) : entryFrame m #[(.ref x0), (.ref x1)] 3 = mkF m 0 #[.val (.ref x0), .val (.ref x1), .unset] [] := by first | (simp [entryFrame, mkF, argsToLocals, Value.category]; done) | rfl
theorem pn_rmL22 : plainName "java/lang/StringLatin1" = true := by first | (simp [plainName, overriddenIn]; done) | decide +kernel
set_option maxRecDepth 65536 in
set_option maxHeartbeats 40000000 in
theorem rmL22 (l : Launch) (Z : State) (a0 : Array Value) (hw : ∀ d ∈ tables_1, d.before a0 Z = true) (ws : List Jvm.Cond) (r0 : Addr) (r1 : Addr) (ka : ClassId) (v0 : Int32) (v1 : Int32) (kb : ClassId) (w0 : Int32) (w1 : Int32) (h0 : Heap) (n0 : Nat) (Z0 : n0 ≤ h0.size) (hp0 : Arv Z h0 r0 ka .byte (2 : Int32) [(.int v0), (.int v1)] (.int (0 : Int32))) (hp1 : Arv Z h0 r1 kb .byte (2 : Int32) [(.int w0), (.int w1)] (.int (0 : Int32))) :
    MetFree l (⟨"java/lang/StringLatin1", "equals", "([B[B)Z"⟩ : MethodName) (head1 (Jvm.Cond.code (⟨"java/lang/StringLatin1", "equals", "([B[B)Z"⟩ : MethodName) jdk_43_method_13_code 3 (some .boolean) :: ws) ({ frames := 0, cells := 0, slots := 0, locals := 0 } : Room)) (fun a U => a = #[(.ref r0), (.ref r1)] ∧ Z.Warmed39 U.vm ∧ U.heap = h0) (fun _ _ _ _ _ => True) (fun _ U o U' => ∃ v L, o = .returned v ∧ Q_rmL22 Z r0 r1 ka v0 v1 kb w0 w1 h0 n0 v U'.heap L ∧ FrameEnd U o U' L ({ frames := 0, cells := 0, slots := 0, locals := 0 } : Room).cells ({ frames := 0, cells := 0, slots := 0, locals := 0 } : Room).slots) := by
  refine MetFree.of_bodySF (plainFor_of_name pn_rmL22) hisR ?_
  intro p e s m args below meth c s₁ Bd hml0 hP hK
  obtain ⟨rfl, hZ, hh⟩ := hP
  have hx := Bd.exec
  have hby := Bd.bytes
  have hml : c.maxLocals = 3 := hml0
  have hown : s.vm.findClass "java/lang/StringLatin1" = some m.cls := findClass_of_methodNamed Bd.named
  have hnm := (name_of_methodNamed Bd.named Bd.method).1
  have hlk : meth.locks = false := BodyLoose.notSynchronized Bd
  have X0 : Stand p l e ({ frames := 0, cells := 0, slots := 0, locals := 0 } : Room) s m #[(.ref r0), (.ref r1)] below meth c s₁ [] 0 0 := Stand.of_body Bd
  have e0 : s₁.heap = h0 := by rw [← hh, Bd.state]; rfl
  have N0 := Fr.nil n0
  show own_W p e below s (Q_rmL22 Z r0 r1 ka v0 v1 kb w0 w1 h0 n0) 0 0 s₁ (entryFrame m #[(.ref r0), (.ref r1)] 3)
  skip
  skip
  refine own_go (T' := s₁) (g' := (mkF m 0 #[.val (.ref r0), .val (.ref r1), .unset] [])) (fun _ k => castTop (ef_rmL22 m r0 r1) k) ?_
  refine own_go (T' := s₁) (g' := (mkF m 1 #[.val (.ref r0), .val (.ref r1), .unset] [(.ref r0)])) (fun _ k => XS.aloadN X0.here hx rfl (hb hby d12_0) rfl rfl k) ?_
  obtain ⟨cl1, Ar1, q11, q21, q31, H1, G1⟩ := id hp0
  have st1 := X0.arraylength hx (by rw [e0]; exact Ar1.1) (State.isArrayOf_alike hZ.alike Ar1.2.1) (g := (mkF m 1 #[.val (.ref r0), .val (.ref r1), .unset] [(.ref r0)])) rfl rfl (hb hby d12_1)
  rw [len_of q21 q31] at st1
  refine own_go (T' := s₁) (g' := (mkF m 2 #[.val (.ref r0), .val (.ref r1), .unset] [(.int (2 : Int32))])) (fun _ k => st1 _ k) ?_
  refine own_go (T' := s₁) (g' := (mkF m 3 #[.val (.ref r0), .val (.ref r1), .unset] [(.ref r1), (.int (2 : Int32))])) (fun _ k => XS.aloadN X0.here hx rfl (hb hby d12_2) rfl rfl k) ?_
  obtain ⟨cl2, Ar2, q12, q22, q32, H2, G2⟩ := id hp1
  have st2 := X0.arraylength hx (by rw [e0]; exact Ar2.1) (State.isArrayOf_alike hZ.alike Ar2.2.1) (g := (mkF m 3 #[.val (.ref r0), .val (.ref r1), .unset] [(.ref r1), (.int (2 : Int32))])) rfl rfl (hb hby d12_3)
  rw [len_of q22 q32] at st2
  refine own_go (T' := s₁) (g' := (mkF m 4 #[.val (.ref r0), .val (.ref r1), .unset] [(.int (2 : Int32)), (.int (2 : Int32))])) (fun _ k => st2 _ k) ?_
  refine own_go (T' := s₁) (g' := (mkF m 7 #[.val (.ref r0), .val (.ref r1), .unset] [])) (fun _ k => XS.icmpNo X0.here hx rfl (hb hby d12_4) rfl (XT.ii_ne_f (rfl : (2 : Int32) = (2 : Int32))) k) ?_
  refine own_go (T' := s₁) (g' := (mkF m 8 #[.val (.ref r0), .val (.ref r1), .unset] [(.int (0 : Int32))])) (fun _ k => XS.iconst X0.here hx rfl (hb hby d12_7) k) ?_
  refine own_go (T' := s₁) (g' := (mkF m 9 #[.val (.ref r0), .val (.ref r1), .val (.int (0 : Int32))] [])) (fun _ k => XS.istoreN X0.here hx rfl (hb hby d12_8) rfl (l' := #[.val (.ref r0), .val (.ref r1), .val (.int (0 : Int32))]) rfl k) ?_
  refine own_go (T' := s₁) (g' := (mkF m 10 #[.val (.ref r0), .val (.ref r1), .val (.int (0 : Int32))] [(.int (0 : Int32))])) (fun _ k => XS.iloadN X0.here hx rfl (hb hby d12_9) rfl k) ?_
  refine own_go (T' := s₁) (g' := (mkF m 11 #[.val (.ref r0), .val (.ref r1), .val (.int (0 : Int32))] [(.ref r0), (.int (0 : Int32))])) (fun _ k => XS.aloadN X0.here hx rfl (hb hby d12_10) rfl rfl k) ?_
  obtain ⟨cl3, Ar3, q13, q23, q33, H3, G3⟩ := id hp0
  have st3 := X0.arraylength hx (by rw [e0]; exact Ar3.1) (State.isArrayOf_alike hZ.alike Ar3.2.1) (g := (mkF m 11 #[.val (.ref r0), .val (.ref r1), .val (.int (0 : Int32))] [(.ref r0), (.int (0 : Int32))])) rfl rfl (hb hby d12_11)
  rw [len_of q23 q33] at st3
  refine own_go (T' := s₁) (g' := (mkF m 12 #[.val (.ref r0), .val (.ref r1), .val (.int (0 : Int32))] [(.int (2 : Int32)), (.int (0 : Int32))])) (fun _ k => st3 _ k) ?_
  refine own_go (T' := s₁) (g' := (mkF m 15 #[.val (.ref r0), .val (.ref r1), .val (.int (0 : Int32))] [])) (fun _ k => XS.icmpNo X0.here hx rfl (hb hby d12_12) rfl (XT.ii_ge_f (by decide : (0 : Int32) < (2 : Int32))) k) ?_
  refine own_go (T' := s₁) (g' := (mkF m 16 #[.val (.ref r0), .val (.ref r1), .val (.int (0 : Int32))] [(.ref r0)])) (fun _ k => XS.aloadN X0.here hx rfl (hb hby d12_15) rfl rfl k) ?_
  refine own_go (T' := s₁) (g' := (mkF m 17 #[.val (.ref r0), .val (.ref r1), .val (.int (0 : Int32))] [(.int (0 : Int32)), (.ref r0)])) (fun _ k => XS.iloadN X0.here hx rfl (hb hby d12_16) rfl k) ?_
  obtain ⟨cl4, Ar4, q14, q24, q34, H4, G4⟩ := id hp0
  have hin4 := inb_of q24 (j := (0 : Int32)) (by decide)
  refine own_go (T' := s₁) (g' := (mkF m 18 #[.val (.ref r0), .val (.ref r1), .val (.int (0 : Int32))] [(.int v0)])) (fun _ k => X0.baloadBytes hx (j := (0 : Int32)) (v := (.int v0)) (by rw [e0]; exact Ar4.1) (State.isArrayOf_alike hZ.alike Ar4.2.1) Ar4.2.2 hin4 (Has.at H4 hin4 rfl) (g := (mkF m 17 #[.val (.ref r0), .val (.ref r1), .val (.int (0 : Int32))] [(.int (0 : Int32)), (.ref r0)])) rfl rfl (hb hby d12_17) _ k) ?_
  refine own_go (T' := s₁) (g' := (mkF m 19 #[.val (.ref r0), .val (.ref r1), .val (.int (0 : Int32))] [(.ref r1), (.int v0)])) (fun _ k => XS.aloadN X0.here hx rfl (hb hby d12_18) rfl rfl k) ?_
  refine own_go (T' := s₁) (g' := (mkF m 20 #[.val (.ref r0), .val (.ref r1), .val (.int (0 : Int32))] [(.int (0 : Int32)), (.ref r1), (.int v0)])) (fun _ k => XS.iloadN X0.here hx rfl (hb hby d12_19) rfl k) ?_
  obtain ⟨cl5, Ar5, q15, q25, q35, H5, G5⟩ := id hp1
  have hin5 := inb_of q25 (j := (0 : Int32)) (by decide)
  refine own_go (T' := s₁) (g' := (mkF m 21 #[.val (.ref r0), .val (.ref r1), .val (.int (0 : Int32))] [(.int w0), (.int v0)])) (fun _ k => X0.baloadBytes hx (j := (0 : Int32)) (v := (.int w0)) (by rw [e0]; exact Ar5.1) (State.isArrayOf_alike hZ.alike Ar5.2.1) Ar5.2.2 hin5 (Has.at H5 hin5 rfl) (g := (mkF m 20 #[.val (.ref r0), .val (.ref r1), .val (.int (0 : Int32))] [(.int (0 : Int32)), (.ref r1), (.int v0)])) rfl rfl (hb hby d12_20) _ k) ?_
  by_cases hc21_6 : v0 = w0
  · skip
    refine own_go (T' := s₁) (g' := (mkF m 26 #[.val (.ref r0), .val (.ref r1), .val (.int (0 : Int32))] [])) (fun _ k => XS.icmpYes X0.here hx rfl (pc0 := 21) (pc' := 26) rfl (hb hby d12_21) rfl (XT.ii_eq_t hc21_6) (by decide) (by decide) k) ?_
    refine own_go (T' := s₁) (g' := (mkF m 29 #[.val (.ref r0), .val (.ref r1), .val (.int (1 : Int32))] [])) (fun _ k => XS.iinc X0.here hx rfl (hb hby d12_26) rfl (l' := #[.val (.ref r0), .val (.ref r1), .val (.int (1 : Int32))]) rfl k) ?_
    refine own_go (T' := s₁) (g' := (mkF m 9 #[.val (.ref r0), .val (.ref r1), .val (.int (1 : Int32))] [])) (fun _ k => XS.goto X0.here hx rfl (pc0 := 29) (pc' := 9) rfl (hb hby d12_29) (by decide) (by decide) k) ?_
    refine own_go (T' := s₁) (g' := (mkF m 10 #[.val (.ref r0), .val (.ref r1), .val (.int (1 : Int32))] [(.int (1 : Int32))])) (fun _ k => XS.iloadN X0.here hx rfl (hb hby d12_9) rfl k) ?_
    refine own_go (T' := s₁) (g' := (mkF m 11 #[.val (.ref r0), .val (.ref r1), .val (.int (1 : Int32))] [(.ref r0), (.int (1 : Int32))])) (fun _ k => XS.aloadN X0.here hx rfl (hb hby d12_10) rfl rfl k) ?_
    obtain ⟨cl7, Ar7, q17, q27, q37, H7, G7⟩ := id hp0
    have st7 := X0.arraylength hx (by rw [e0]; exact Ar7.1) (State.isArrayOf_alike hZ.alike Ar7.2.1) (g := (mkF m 11 #[.val (.ref r0), .val (.ref r1), .val (.int (1 : Int32))] [(.ref r0), (.int (1 : Int32))])) rfl rfl (hb hby d12_11)
    rw [len_of q27 q37] at st7
    refine own_go (T' := s₁) (g' := (mkF m 12 #[.val (.ref r0), .val (.ref r1), .val (.int (1 : Int32))] [(.int (2 : Int32)), (.int (1 : Int32))])) (fun _ k => st7 _ k) ?_
    refine own_go (T' := s₁) (g' := (mkF m 15 #[.val (.ref r0), .val (.ref r1), .val (.int (1 : Int32))] [])) (fun _ k => XS.icmpNo X0.here hx rfl (hb hby d12_12) rfl (XT.ii_ge_f (by decide : (1 : Int32) < (2 : Int32))) k) ?_
    refine own_go (T' := s₁) (g' := (mkF m 16 #[.val (.ref r0), .val (.ref r1), .val (.int (1 : Int32))] [(.ref r0)])) (fun _ k => XS.aloadN X0.here hx rfl (hb hby d12_15) rfl rfl k) ?_
    refine own_go (T' := s₁) (g' := (mkF m 17 #[.val (.ref r0), .val (.ref r1), .val (.int (1 : Int32))] [(.int (1 : Int32)), (.ref r0)])) (fun _ k => XS.iloadN X0.here hx rfl (hb hby d12_16) rfl k) ?_
    obtain ⟨cl8, Ar8, q18, q28, q38, H8, G8⟩ := id hp0
    have hin8 := inb_of q28 (j := (1 : Int32)) (by decide)
    refine own_go (T' := s₁) (g' := (mkF m 18 #[.val (.ref r0), .val (.ref r1), .val (.int (1 : Int32))] [(.int v1)])) (fun _ k => X0.baloadBytes hx (j := (1 : Int32)) (v := (.int v1)) (by rw [e0]; exact Ar8.1) (State.isArrayOf_alike hZ.alike Ar8.2.1) Ar8.2.2 hin8 (Has.at H8 hin8 rfl) (g := (mkF m 17 #[.val (.ref r0), .val (.ref r1), .val (.int (1 : Int32))] [(.int (1 : Int32)), (.ref r0)])) rfl rfl (hb hby d12_17) _ k) ?_
    refine own_go (T' := s₁) (g' := (mkF m 19 #[.val (.ref r0), .val (.ref r1), .val (.int (1 : Int32))] [(.ref r1), (.int v1)])) (fun _ k => XS.aloadN X0.here hx rfl (hb hby d12_18) rfl rfl k) ?_
    refine own_go (T' := s₁) (g' := (mkF m 20 #[.val (.ref r0), .val (.ref r1), .val (.int (1 : Int32))] [(.int (1 : Int32)), (.ref r1), (.int v1)])) (fun _ k => XS.iloadN X0.here hx rfl (hb hby d12_19) rfl k) ?_
    obtain ⟨cl9, Ar9, q19, q29, q39, H9, G9⟩ := id hp1
    have hin9 := inb_of q29 (j := (1 : Int32)) (by decide)
    refine own_go (T' := s₁) (g' := (mkF m 21 #[.val (.ref r0), .val (.ref r1), .val (.int (1 : Int32))] [(.int w1), (.int v1)])) (fun _ k => X0.baloadBytes hx (j := (1 : Int32)) (v := (.int w1)) (by rw [e0]; exact Ar9.1) (State.isArrayOf_alike hZ.alike Ar9.2.1) Ar9.2.2 hin9 (Has.at H9 hin9 rfl) (g := (mkF m 20 #[.val (.ref r0), .val (.ref r1), .val (.int (1 : Int32))] [(.int (1 : Int32)), (.ref r1), (.int v1)])) rfl rfl (hb hby d12_20) _ k) ?_
    by_cases hc21_10 : v1 = w1
    · skip
      refine own_go (T' := s₁) (g' := (mkF m 26 #[.val (.ref r0), .val (.ref r1), .val (.int (1 : Int32))] [])) (fun _ k => XS.icmpYes X0.here hx rfl (pc0 := 21) (pc' := 26) rfl (hb hby d12_21) rfl (XT.ii_eq_t hc21_10) (by decide) (by decide) k) ?_
      refine own_go (T' := s₁) (g' := (mkF m 29 #[.val (.ref r0), .val (.ref r1), .val (.int (2 : Int32))] [])) (fun _ k => XS.iinc X0.here hx rfl (hb hby d12_26) rfl (l' := #[.val (.ref r0), .val (.ref r1), .val (.int (2 : Int32))]) rfl k) ?_
      refine own_go (T' := s₁) (g' := (mkF m 9 #[.val (.ref r0), .val (.ref r1), .val (.int (2 : Int32))] [])) (fun _ k => XS.goto X0.here hx rfl (pc0 := 29) (pc' := 9) rfl (hb hby d12_29) (by decide) (by decide) k) ?_
      refine own_go (T' := s₁) (g' := (mkF m 10 #[.val (.ref r0), .val (.ref r1), .val (.int (2 : Int32))] [(.int (2 : Int32))])) (fun _ k => XS.iloadN X0.here hx rfl (hb hby d12_9) rfl k) ?_
      refine own_go (T' := s₁) (g' := (mkF m 11 #[.val (.ref r0), .val (.ref r1), .val (.int (2 : Int32))] [(.ref r0), (.int (2 : Int32))])) (fun _ k => XS.aloadN X0.here hx rfl (hb hby d12_10) rfl rfl k) ?_
      obtain ⟨cl11, Ar11, q111, q211, q311, H11, G11⟩ := id hp0
      have st11 := X0.arraylength hx (by rw [e0]; exact Ar11.1) (State.isArrayOf_alike hZ.alike Ar11.2.1) (g := (mkF m 11 #[.val (.ref r0), .val (.ref r1), .val (.int (2 : Int32))] [(.ref r0), (.int (2 : Int32))])) rfl rfl (hb hby d12_11)
      rw [len_of q211 q311] at st11
      refine own_go (T' := s₁) (g' := (mkF m 12 #[.val (.ref r0), .val (.ref r1), .val (.int (2 : Int32))] [(.int (2 : Int32)), (.int (2 : Int32))])) (fun _ k => st11 _ k) ?_
      refine own_go (T' := s₁) (g' := (mkF m 32 #[.val (.ref r0), .val (.ref r1), .val (.int (2 : Int32))] [])) (fun _ k => XS.icmpYes X0.here hx rfl (pc0 := 12) (pc' := 32) rfl (hb hby d12_12) rfl (XT.ii_ge_t (by decide : ¬ ((2 : Int32) < (2 : Int32)))) (by decide) (by decide) k) ?_
      refine own_go (T' := s₁) (g' := (mkF m 33 #[.val (.ref r0), .val (.ref r1), .val (.int (2 : Int32))] [(.int (1 : Int32))])) (fun _ k => XS.iconst X0.here hx rfl (hb hby d12_32) k) ?_
      exact own_retN X0 hx (t := .boolean) Bd.returns hlk (by simp) (hb hby d12_33) e0 ⟨(by unfold own_l22; first | (rw [if_pos hc21_6, if_pos hc21_10]; done) | (rw [if_pos hc21_6, if_pos hc21_10]; rfl)), N0, rfl⟩ (by decide) (by decide)
    · skip
      refine own_go (T' := s₁) (g' := (mkF m 24 #[.val (.ref r0), .val (.ref r1), .val (.int (1 : Int32))] [])) (fun _ k => XS.icmpNo X0.here hx rfl (hb hby d12_21) rfl (XT.ii_eq_f hc21_10) k) ?_
      refine own_go (T' := s₁) (g' := (mkF m 25 #[.val (.ref r0), .val (.ref r1), .val (.int (1 : Int32))] [(.int (0 : Int32))])) (fun _ k => XS.iconst X0.here hx rfl (hb hby d12_24) k) ?_
      exact own_retN X0 hx (t := .boolean) Bd.returns hlk (by simp) (hb hby d12_25) e0 ⟨(by unfold own_l22; first | (rw [if_pos hc21_6, if_neg hc21_10]; done) | (rw [if_pos hc21_6, if_neg hc21_10]; rfl)), N0, rfl⟩ (by decide) (by decide)
  · skip
    refine own_go (T' := s₁) (g' := (mkF m 24 #[.val (.ref r0), .val (.ref r1), .val (.int (0 : Int32))] [])) (fun _ k => XS.icmpNo X0.here hx rfl (hb hby d12_21) rfl (XT.ii_eq_f hc21_6) k) ?_
    refine own_go (T' := s₁) (g' := (mkF m 25 #[.val (.ref r0), .val (.ref r1), .val (.int (0 : Int32))] [(.int (0 : Int32))])) (fun _ k => XS.iconst X0.here hx rfl (hb hby d12_24) k) ?_
    exact own_retN X0 hx (t := .boolean) Bd.returns hlk (by simp) (hb hby d12_25) e0 ⟨(by unfold own_l22; first | (rw [if_neg hc21_6]; done) | (rw [if_neg hc21_6]; rfl)), N0, rfl⟩ (by decide) (by decide)
def own_q22 (r0 : Addr) (r1 : Addr) (da : Addr) (ka : ClassId) (v0 : Int32) (v1 : Int32) (db : Addr) (kb : ClassId) (w0 : Int32) (w1 : Int32) (cs : Int32) : Int32 := (if (own_l22 da db ka v0 v1 kb w0 w1) = (0 : Int32) then (0 : Int32) else (1 : Int32))
def Q_rmQ22 (Z : State) (r0 : Addr) (r1 : Addr) (da : Addr) (ka : ClassId) (v0 : Int32) (v1 : Int32) (db : Addr) (kb : ClassId) (w0 : Int32) (w1 : Int32) (cs : Int32) (h0 : Heap) (n0 : Nat) (v : Option Value) (h : Heap) (L : List Loc) : Prop := v = some (.int (own_q22 r0 r1 da ka v0 v1 db kb w0 w1 cs)) ∧ Fr n0 L ∧ h = h0
theorem ef_rmQ22 (m : MethodId) (x0 : Addr) (x1 : Addr) : entryFrame m #[(.ref x0), (.ref x1)] 3 = mkF m 0 #[.val (.ref x0), .val (.ref x1), .unset] [] := by first | (simp [entryFrame, mkF, argsToLocals, Value.category]; done) | rfl
theorem pn_rmQ22 : plainName "java/lang/String" = true := by first | (simp [plainName, overriddenIn]; done) | decide +kernel
set_option maxRecDepth 65536 in
set_option maxHeartbeats 40000000 in
theorem rmQ22 (l : Launch) (Z : State) (a0 : Array Value) (hw : ∀ d ∈ tables_1, d.before a0 Z = true) (ws : List Jvm.Cond) (r0 : Addr) (r1 : Addr) (da : Addr) (ka : ClassId) (v0 : Int32) (v1 : Int32) (db : Addr) (kb : ClassId) (w0 : Int32) (w1 : Int32) (cs : Int32) (h0 : Heap) (n0 : Nat) (Z0 : n0 ≤ h0.size) (hp0 : Exa Z h0 r0 "java/lang/String") (hp1 : Fld Z h0 r0 "java/lang/String" "coder" "B" (.int (0 : Int32))) (hp2 : Fld Z h0 r0 "java/lang/String" "value" "[B" (.ref da)) (hp3 : Arv Z h0 da ka .byte (2 : Int32) [(.int v0), (.int v1)] (.int (0 : Int32))) (hp4 : Exa Z h0 r1 "java/lang/String") (hp5 : Fld Z h0 r1 "java/lang/String" "coder" "B" (.int (0 : Int32))) (hp6 : Fld Z h0 r1 "java/lang/String" "value" "[B" (.ref db)) (hp7 : Arv Z h0 db kb .byte (2 : Int32) [(.int w0), (.int w1)] (.int (0 : Int32))) (hp8 : Sta Z h0 "java/lang/String" "COMPACT_STRINGS" "Z" (.int cs)) (hh0 : ¬ cs = (0 : Int32)) (hh1 : ¬ r0 = r1) :
    MetFree l (⟨"java/lang/String", "equals", "(Ljava/lang/Object;)Z"⟩ : MethodName) (head1 (Jvm.Cond.code (⟨"java/lang/String", "equals", "(Ljava/lang/Object;)Z"⟩ : MethodName) jdk_42_method_66_code 3 (some .boolean) :: ws) ({ frames := 1, cells := 0, slots := 0, locals := 14 } : Room)) (fun a U => a = #[(.ref r0), (.ref r1)] ∧ Z.Warmed39 U.vm ∧ U.heap = h0) (fun _ _ _ _ _ => True) (fun _ U o U' => ∃ v L, o = .returned v ∧ Q_rmQ22 Z r0 r1 da ka v0 v1 db kb w0 w1 cs h0 n0 v U'.heap L ∧ FrameEnd U o U' L ({ frames := 1, cells := 0, slots := 0, locals := 14 } : Room).cells ({ frames := 1, cells := 0, slots := 0, locals := 14 } : Room).slots) := by
  refine MetFree.of_bodySF (plainFor_of_name pn_rmQ22) hisR ?_
  intro p e s m args below meth c s₁ Bd hml0 hP hK
  obtain ⟨rfl, hZ, hh⟩ := hP
  have hx := Bd.exec
  have hby := Bd.bytes
  have hml : c.maxLocals = 3 := hml0
  have hown : s.vm.findClass "java/lang/String" = some m.cls := findClass_of_methodNamed Bd.named
  have hnm := (name_of_methodNamed Bd.named Bd.method).1
  have hlk : meth.locks = false := BodyLoose.notSynchronized Bd
  have X0 : Stand p l e ({ frames := 1, cells := 0, slots := 0, locals := 14 } : Room) s m #[(.ref r0), (.ref r1)] below meth c s₁ [] 0 0 := Stand.of_body Bd
  have e0 : s₁.heap = h0 := by rw [← hh, Bd.state]; rfl
  have N0 := Fr.nil n0
  show own_W p e below s (Q_rmQ22 Z r0 r1 da ka v0 v1 db kb w0 w1 cs h0 n0) 0 0 s₁ (entryFrame m #[(.ref r0), (.ref r1)] 3)
  skip
  skip
  refine own_go (T' := s₁) (g' := (mkF m 0 #[.val (.ref r0), .val (.ref r1), .unset] [])) (fun _ k => castTop (ef_rmQ22 m r0 r1) k) ?_
  refine own_go (T' := s₁) (g' := (mkF m 1 #[.val (.ref r0), .val (.ref r1), .unset] [(.ref r0)])) (fun _ k => XS.aloadN X0.here hx rfl (hb hby d11_0) rfl rfl k) ?_
  refine own_go (T' := s₁) (g' := (mkF m 2 #[.val (.ref r0), .val (.ref r1), .unset] [(.ref r1), (.ref r0)])) (fun _ k => XS.aloadN X0.here hx rfl (hb hby d11_1) rfl rfl k) ?_
  refine own_go (T' := s₁) (g' := (mkF m 7 #[.val (.ref r0), .val (.ref r1), .unset] [])) (fun _ k => XT.acmpYes X0.here hx rfl (pc0 := 2) (pc' := 7) rfl (hb hby d11_2) rfl rfl rfl (XT.aa_ne_t (fun q => hh1 (Value.ref.inj q))) (by decide) (by decide) k) ?_
  refine own_go (T' := s₁) (g' := (mkF m 8 #[.val (.ref r0), .val (.ref r1), .unset] [(.ref r1)])) (fun _ k => XS.aloadN X0.here hx rfl (hb hby d11_7) rfl rfl k) ?_
  obtain ⟨T1, X1, e1, st1⟩ := instY X0 hx hZ hown (hw _ (List.mem_of_getElem? (i := 66) rfl)) e0 (Ins.self hp4) (g := (mkF m 8 #[.val (.ref r0), .val (.ref r1), .unset] [(.ref r1)])) rfl rfl (hb hby d11_8)
  refine own_go (T' := T1) (g' := (mkF m 11 #[.val (.ref r0), .val (.ref r1), .unset] [(.int (1 : Int32))])) (fun _ k => st1 _ k) ?_
  refine own_go (T' := T1) (g' := (mkF m 14 #[.val (.ref r0), .val (.ref r1), .unset] [])) (fun _ k => XS.ifNo X1.here hx rfl (hb hby d11_11) rfl (XT.i0_eq_f (by decide : ¬ ((1 : Int32) = (0 : Int32)))) k) ?_
  refine own_go (T' := T1) (g' := (mkF m 15 #[.val (.ref r0), .val (.ref r1), .unset] [(.ref r1)])) (fun _ k => XS.aloadN X1.here hx rfl (hb hby d11_14) rfl rfl k) ?_
  obtain ⟨T2, X2, e2, st2⟩ := castY X1 hx hZ hown (hw _ (List.mem_of_getElem? (i := 66) rfl)) e1 (Ins.self hp4) (g := (mkF m 15 #[.val (.ref r0), .val (.ref r1), .unset] [(.ref r1)])) rfl rfl (hb hby d11_15)
  refine own_go (T' := T2) (g' := (mkF m 18 #[.val (.ref r0), .val (.ref r1), .unset] [(.ref r1)])) (fun _ k => st2 _ k) ?_
  refine own_go (T' := T2) (g' := (mkF m 19 #[.val (.ref r0), .val (.ref r1), .val (.ref r1)] [])) (fun _ k => XS.astoreN X2.here hx rfl (hb hby d11_18) rfl rfl (l' := #[.val (.ref r0), .val (.ref r1), .val (.ref r1)]) rfl k) ?_
  obtain ⟨T3, X3, e3, st3⟩ := getS2 X2 hx hZ hown (host := "") (Or.inl (hw _ (List.mem_of_getElem? (i := 15) rfl))) Via.refl e2 hp8 (g := (mkF m 19 #[.val (.ref r0), .val (.ref r1), .val (.ref r1)] [])) rfl (hb hby d11_19)
  refine own_go (T' := T3) (g' := (mkF m 22 #[.val (.ref r0), .val (.ref r1), .val (.ref r1)] [(.int cs)])) (fun _ k => st3 _ k) ?_
  refine own_go (T' := T3) (g' := (mkF m 25 #[.val (.ref r0), .val (.ref r1), .val (.ref r1)] [])) (fun _ k => XS.ifNo X3.here hx rfl (hb hby d11_22) rfl (XT.i0_eq_f hh0) k) ?_
  refine own_go (T' := T3) (g' := (mkF m 26 #[.val (.ref r0), .val (.ref r1), .val (.ref r1)] [(.ref r0)])) (fun _ k => XS.aloadN X3.here hx rfl (hb hby d11_25) rfl rfl k) ?_
  obtain ⟨T4, X4, e4, st4⟩ := getF X3 hx hZ hown (host := "") (Or.inl (hw _ (List.mem_of_getElem? (i := 27) rfl))) Via.refl e3 hp1 (g := (mkF m 26 #[.val (.ref r0), .val (.ref r1), .val (.ref r1)] [(.ref r0)])) rfl rfl (hb hby d11_26)
  refine own_go (T' := T4) (g' := (mkF m 29 #[.val (.ref r0), .val (.ref r1), .val (.ref r1)] [(.int (0 : Int32))])) (fun _ k => st4 _ k) ?_
  refine own_go (T' := T4) (g' := (mkF m 30 #[.val (.ref r0), .val (.ref r1), .val (.ref r1)] [(.ref r1), (.int (0 : Int32))])) (fun _ k => XS.aloadN X4.here hx rfl (hb hby d11_29) rfl rfl k) ?_
  obtain ⟨T5, X5, e5, st5⟩ := getF X4 hx hZ hown (host := "") (Or.inl (hw _ (List.mem_of_getElem? (i := 27) rfl))) Via.refl e4 hp5 (g := (mkF m 30 #[.val (.ref r0), .val (.ref r1), .val (.ref r1)] [(.ref r1), (.int (0 : Int32))])) rfl rfl (hb hby d11_30)
  refine own_go (T' := T5) (g' := (mkF m 33 #[.val (.ref r0), .val (.ref r1), .val (.ref r1)] [(.int (0 : Int32)), (.int (0 : Int32))])) (fun _ k => st5 _ k) ?_
  refine own_go (T' := T5) (g' := (mkF m 36 #[.val (.ref r0), .val (.ref r1), .val (.ref r1)] [])) (fun _ k => XS.icmpNo X5.here hx rfl (hb hby d11_33) rfl (XT.ii_ne_f (rfl : (0 : Int32) = (0 : Int32))) k) ?_
  refine own_go (T' := T5) (g' := (mkF m 37 #[.val (.ref r0), .val (.ref r1), .val (.ref r1)] [(.ref r0)])) (fun _ k => XS.aloadN X5.here hx rfl (hb hby d11_36) rfl rfl k) ?_
  obtain ⟨T6, X6, e6, st6⟩ := getF X5 hx hZ hown (host := "") (Or.inl (hw _ (List.mem_of_getElem? (i := 29) rfl))) Via.refl e5 hp2 (g := (mkF m 37 #[.val (.ref r0), .val (.ref r1), .val (.ref r1)] [(.ref r0)])) rfl rfl (hb hby d11_37)
  refine own_go (T' := T6) (g' := (mkF m 40 #[.val (.ref r0), .val (.ref r1), .val (.ref r1)] [(.ref da)])) (fun _ k => st6 _ k) ?_
  refine own_go (T' := T6) (g' := (mkF m 41 #[.val (.ref r0), .val (.ref r1), .val (.ref r1)] [(.ref r1), (.ref da)])) (fun _ k => XS.aloadN X6.here hx rfl (hb hby d11_40) rfl rfl k) ?_
  obtain ⟨T7, X7, e7, st7⟩ := getF X6 hx hZ hown (host := "") (Or.inl (hw _ (List.mem_of_getElem? (i := 29) rfl))) Via.refl e6 hp6 (g := (mkF m 41 #[.val (.ref r0), .val (.ref r1), .val (.ref r1)] [(.ref r1), (.ref da)])) rfl rfl (hb hby d11_41)
  refine own_go (T' := T7) (g' := (mkF m 44 #[.val (.ref r0), .val (.ref r1), .val (.ref r1)] [(.ref db), (.ref da)])) (fun _ k => st7 _ k) ?_
  obtain ⟨_, _, ⟨T8, L8, k8, n8⟩, -, X8, ⟨Lc8, hQ8, l8, y8, z8⟩, st8⟩ := Jvm.LawKit.callS X7 hx (y := (⟨"java/lang/StringLatin1", "equals", "([B[B)Z"⟩ : MethodName)) hown (mvT hZ (hw _ (List.mem_of_getElem? (i := 67) rfl))) (mvT hZ (hw _ (List.mem_of_getElem? (i := 68) rfl))) (mvT hZ (hw _ (List.mem_of_getElem? (i := 69) rfl))) (mvT hZ (hw _ (List.mem_of_getElem? (i := 70) rfl))) (by decide) (backOf (W := 0) (rmL22 l Z a0 hw [] da db ka v0 v1 kb w0 w1 h0 n0 Z0 hp3 hp7) hZ (hw _ (List.mem_of_getElem? (i := 70) rfl)) (hw _ (List.mem_of_getElem? (i := 69) rfl)) (by decide) (by decide)) (g := (mkF m 44 #[.val (.ref r0), .val (.ref r1), .val (.ref r1)] [(.ref db), (.ref da)])) rfl (by rw [hml]; rfl) (argsL := [(.ref da), (.ref db)]) (rest := []) (lenOf own_pd6 rfl) rfl (by show 2 * 0 + _ ≤ _; exact Nat.le_of_eq rfl) (hb hby d11_44) (fun _ _ => ⟨rfl, e7, (by decide : 0 + 0 ≤ _), (by decide : 0 + 0 ≤ _)⟩)
  dsimp only [Pt.U, Pt.locs, Pt.cells, Pt.slots] at X8 l8 y8 z8 st8 hQ8
  subst l8 y8 z8
  obtain ⟨rfl, N8q, e8⟩ := hQ8
  have N8 := Fr.app N0 N8q
  refine own_go (T' := T8) (g' := (mkF m 47 #[.val (.ref r0), .val (.ref r1), .val (.ref r1)] [(.int (own_l22 da db ka v0 v1 kb w0 w1))])) (fun _ k => st8 _ k) ?_
  by_cases hc47_9 : (own_l22 da db ka v0 v1 kb w0 w1) = (0 : Int32)
  · skip
    refine own_go (T' := T8) (g' := (mkF m 54 #[.val (.ref r0), .val (.ref r1), .val (.ref r1)] [])) (fun _ k => XS.ifYes X8.here hx rfl (pc0 := 47) (pc' := 54) rfl (hb hby d11_47) rfl (XT.i0_eq_t hc47_9) (by decide) (by decide) k) ?_
    refine own_go (T' := T8) (g' := (mkF m 55 #[.val (.ref r0), .val (.ref r1), .val (.ref r1)] [(.int (0 : Int32))])) (fun _ k => XS.iconst X8.here hx rfl (hb hby d11_54) k) ?_
    exact own_retN X8 hx (t := .boolean) Bd.returns hlk (by simp) (hb hby d11_55) e8 ⟨(by unfold own_q22; first | (rw [if_pos hc47_9]; done) | (rw [if_pos hc47_9]; rfl)), N8, rfl⟩ (by decide) (by decide)
  · skip
    refine own_go (T' := T8) (g' := (mkF m 50 #[.val (.ref r0), .val (.ref r1), .val (.ref r1)] [])) (fun _ k => XS.ifNo X8.here hx rfl (hb hby d11_47) rfl (XT.i0_eq_f hc47_9) k) ?_
    refine own_go (T' := T8) (g' := (mkF m 51 #[.val (.ref r0), .val (.ref r1), .val (.ref r1)] [(.int (1 : Int32))])) (fun _ k => XS.iconst X8.here hx rfl (hb hby d11_50) k) ?_
    refine own_go (T' := T8) (g' := (mkF m 55 #[.val (.ref r0), .val (.ref r1), .val (.ref r1)] [(.int (1 : Int32))])) (fun _ k => XS.goto X8.here hx rfl (pc0 := 51) (pc' := 55) rfl (hb hby d11_51) (by decide) (by decide) k) ?_
    exact own_retN X8 hx (t := .boolean) Bd.returns hlk (by simp) (hb hby d11_55) e8 ⟨(by unfold own_q22; first | (rw [if_neg hc47_9]; done) | (rw [if_neg hc47_9]; rfl)), N8, rfl⟩ (by decide) (by decide)
def own_s22 (r0 : Addr) (r1 : Addr) (nma : Addr) (wta : Int32) (da : Addr) (ka : ClassId) (v0 : Int32) (v1 : Int32) (nmb : Addr) (wtb : Int32) (db : Addr) (kb : ClassId) (w0 : Int32) (w1 : Int32) (cs : Int32) : Int32 := (if (own_q22 nma nmb da ka v0 v1 db kb w0 w1 cs) = (0 : Int32) then (0 : Int32) else (if wta = wtb then (1 : Int32) else (0 : Int32)))
def Q_rmE22 (Z : State) (r0 : Addr) (r1 : Addr) (nma : Addr) (wta : Int32) (da : Addr) (ka : ClassId) (v0 : Int32) (v1 : Int32) (nmb : Addr) (wtb : Int32) (db : Addr) (kb : ClassId) (w0 : Int32) (w1 : Int32) (cs : Int32) (h0 : Heap) (n0 : Nat) (v : Option Value) (h : Heap) (L : List Loc) : Prop := v = some (.int (own_s22 r0 r1 nma wta da ka v0 v1 nmb wtb db kb w0 w1 cs)) ∧ Fr n0 L ∧ h = h0
theorem ef_rmE22 (m : MethodId) (x0 : Addr) (x1 : Addr) : entryFrame m #[(.ref x0), (.ref x1)] 3 = mkF m 0 #[.val (.ref x0), .val (.ref x1), .unset] [] := by first | (simp [entryFrame, mkF, argsToLocals, Value.category]; done) | rfl
theorem pn_rmE22 : plainName "com/example/node_ring/nodering/pool/Server" = true := by first | (simp [plainName, overriddenIn]; done) | decide +kernel
set_option maxRecDepth 65536 in
set_option maxHeartbeats 40000000 in
theorem rmE22 (l : Launch) (Z : State) (a0 : Array Value) (hw : ∀ d ∈ tables_1, d.before a0 Z = true) (ws : List Jvm.Cond) (r0 : Addr) (r1 : Addr) (nma : Addr) (wta : Int32) (da : Addr) (ka : ClassId) (v0 : Int32) (v1 : Int32) (nmb : Addr) (wtb : Int32) (db : Addr) (kb : ClassId) (w0 : Int32) (w1 : Int32) (cs : Int32) (h0 : Heap) (n0 : Nat) (Z0 : n0 ≤ h0.size) (hp0 : Exa Z h0 r0 "com/example/node_ring/nodering/pool/Server") (hp1 : Fld Z h0 r0 "com/example/node_ring/nodering/pool/Server" "name" "Ljava/lang/String;" (.ref nma)) (hp2 : Fld Z h0 r0 "com/example/node_ring/nodering/pool/Server" "weight" "I" (.int wta)) (hp3 : Exa Z h0 nma "java/lang/String") (hp4 : Fld Z h0 nma "java/lang/String" "coder" "B" (.int (0 : Int32))) (hp5 : Fld Z h0 nma "java/lang/String" "value" "[B" (.ref da)) (hp6 : Arv Z h0 da ka .byte (2 : Int32) [(.int v0), (.int v1)] (.int (0 : Int32))) (hp7 : Exa Z h0 r1 "com/example/node_ring/nodering/pool/Server") (hp8 : Fld Z h0 r1 "com/example/node_ring/nodering/pool/Server" "name" "Ljava/lang/String;" (.ref nmb)) (hp9 : Fld Z h0 r1 "com/example/node_ring/nodering/pool/Server" "weight" "I" (.int wtb)) (hp10 : Exa Z h0 nmb "java/lang/String") (hp11 : Fld Z h0 nmb "java/lang/String" "coder" "B" (.int (0 : Int32))) (hp12 : Fld Z h0 nmb "java/lang/String" "value" "[B" (.ref db)) (hp13 : Arv Z h0 db kb .byte (2 : Int32) [(.int w0), (.int w1)] (.int (0 : Int32))) (hp14 : Sta Z h0 "java/lang/String" "COMPACT_STRINGS" "Z" (.int cs)) (hh0 : ¬ cs = (0 : Int32)) (hh1 : ¬ nma = nmb) :
    MetFree l (⟨"com/example/node_ring/nodering/pool/Server", "equals", "(Ljava/lang/Object;)Z"⟩ : MethodName) (head1 (Jvm.Cond.code (⟨"com/example/node_ring/nodering/pool/Server", "equals", "(Ljava/lang/Object;)Z"⟩ : MethodName) prog_13_method_4_code 3 (some .boolean) :: ws) ({ frames := 2, cells := 0, slots := 0, locals := 28 } : Room)) (fun a U => a = #[(.ref r0), (.ref r1)] ∧ Z.Warmed39 U.vm ∧ U.heap = h0) (fun _ _ _ _ _ => True) (fun _ U o U' => ∃ v L, o = .returned v ∧ Q_rmE22 Z r0 r1 nma wta da ka v0 v1 nmb wtb db kb w0 w1 cs h0 n0 v U'.heap L ∧ FrameEnd U o U' L ({ frames := 2, cells := 0, slots := 0, locals := 28 } : Room).cells ({ frames := 2, cells := 0, slots := 0, locals := 28 } : Room).slots) := by
  refine MetFree.of_bodySF (plainFor_of_name pn_rmE22) hisR ?_
  intro p e s m args below meth c s₁ Bd hml0 hP hK
  obtain ⟨rfl, hZ, hh⟩ := hP
  have hx := Bd.exec
  have hby := Bd.bytes
  have hml : c.maxLocals = 3 := hml0
  have hown : s.vm.findClass "com/example/node_ring/nodering/pool/Server" = some m.cls := findClass_of_methodNamed Bd.named
  have hnm := (name_of_methodNamed Bd.named Bd.method).1
  have hlk : meth.locks = false := BodyLoose.notSynchronized Bd
  have X0 : Stand p l e ({ frames := 2, cells := 0, slots := 0, locals := 28 } : Room) s m #[(.ref r0), (.ref r1)] below meth c s₁ [] 0 0 := Stand.of_body Bd
  have e0 : s₁.heap = h0 := by rw [← hh, Bd.state]; rfl
  have N0 := Fr.nil n0
  show own_W p e below s (Q_rmE22 Z r0 r1 nma wta da ka v0 v1 nmb wtb db kb w0 w1 cs h0 n0) 0 0 s₁ (entryFrame m #[(.ref r0), (.ref r1)] 3)
  skip
  skip
  refine own_go (T' := s₁) (g' := (mkF m 0 #[.val (.ref r0), .val (.ref r1), .unset] [])) (fun _ k => castTop (ef_rmE22 m r0 r1) k) ?_
  refine own_go (T' := s₁) (g' := (mkF m 1 #[.val (.ref r0), .val (.ref r1), .unset] [(.ref r1)])) (fun _ k => XS.aloadN X0.here hx rfl (hb hby d10_0) rfl rfl k) ?_
  obtain ⟨T1, X1, e1, st1⟩ := instY X0 hx hZ hown (hw _ (List.mem_of_getElem? (i := 59) rfl)) e0 (Ins.self hp7) (g := (mkF m 1 #[.val (.ref r0), .val (.ref r1), .unset] [(.ref r1)])) rfl rfl (hb hby d10_1)
  refine own_go (T' := T1) (g' := (mkF m 4 #[.val (.ref r0), .val (.ref r1), .unset] [(.int (1 : Int32))])) (fun _ k => st1 _ k) ?_
  refine own_go (T' := T1) (g' := (mkF m 7 #[.val (.ref r0), .val (.ref r1), .unset] [])) (fun _ k => XS.ifNo X1.here hx rfl (hb hby d10_4) rfl (XT.i0_eq_f (by decide : ¬ ((1 : Int32) = (0 : Int32)))) k) ?_
  refine own_go (T' := T1) (g' := (mkF m 8 #[.val (.ref r0), .val (.ref r1), .unset] [(.ref r1)])) (fun _ k => XS.aloadN X1.here hx rfl (hb hby d10_7) rfl rfl k) ?_
  obtain ⟨T2, X2, e2, st2⟩ := castY X1 hx hZ hown (hw _ (List.mem_of_getElem? (i := 59) rfl)) e1 (Ins.self hp7) (g := (mkF m 8 #[.val (.ref r0), .val (.ref r1), .unset] [(.ref r1)])) rfl rfl (hb hby d10_8)
  refine own_go (T' := T2) (g' := (mkF m 11 #[.val (.ref r0), .val (.ref r1), .unset] [(.ref r1)])) (fun _ k => st2 _ k) ?_
  refine own_go (T' := T2) (g' := (mkF m 12 #[.val (.ref r0), .val (.ref r1), .val (.ref r1)] [])) (fun _ k => XS.astoreN X2.here hx rfl (hb hby d10_11) rfl rfl (l' := #[.val (.ref r0), .val (.ref r1), .val (.ref r1)]) rfl k) ?_
  refine own_go (T' := T2) (g' := (mkF m 13 #[.val (.ref r0), .val (.ref r1), .val (.ref r1)] [(.ref r0)])) (fun _ k => XS.aloadN X2.here hx rfl (hb hby d10_12) rfl rfl k) ?_
  obtain ⟨T3, X3, e3, st3⟩ := getF X2 hx hZ hown (host := "") (Or.inl (hw _ (List.mem_of_getElem? (i := 50) rfl))) Via.refl e2 hp1 (g := (mkF m 13 #[.val (.ref r0), .val (.ref r1), .val (.ref r1)] [(.ref r0)])) rfl rfl (hb hby d10_13)
  refine own_go (T' := T3) (g' := (mkF m 16 #[.val (.ref r0), .val (.ref r1), .val (.ref r1)] [(.ref nma)])) (fun _ k => st3 _ k) ?_
  refine own_go (T' := T3) (g' := (mkF m 17 #[.val (.ref r0), .val (.ref r1), .val (.ref r1)] [(.ref r1), (.ref nma)])) (fun _ k => XS.aloadN X3.here hx rfl (hb hby d10_16) rfl rfl k) ?_
  obtain ⟨T4, X4, e4, st4⟩ := getF X3 hx hZ hown (host := "") (Or.inl (hw _ (List.mem_of_getElem? (i := 50) rfl))) Via.refl e3 hp8 (g := (mkF m 17 #[.val (.ref r0), .val (.ref r1), .val (.ref r1)] [(.ref r1), (.ref nma)])) rfl rfl (hb hby d10_17)
  refine own_go (T' := T4) (g' := (mkF m 20 #[.val (.ref r0), .val (.ref r1), .val (.ref r1)] [(.ref nmb), (.ref nma)])) (fun _ k => st4 _ k) ?_
  obtain ⟨cq5, kq5, q5a, q5b, q5c⟩ := isOf hZ e4 hp3
  obtain ⟨_, _, ⟨T5, L5, k5, n5⟩, -, X5, ⟨Lc5, hQ5, l5, y5, z5⟩, st5⟩ := X4.virtualBack hx (y := (⟨"java/lang/String", "equals", "(Ljava/lang/Object;)Z"⟩ : MethodName)) (z := (⟨"java/lang/String", "equals", "(Ljava/lang/Object;)Z"⟩ : MethodName)) hown (mvT hZ (hw _ (List.mem_of_getElem? (i := 61) rfl))) (mvT hZ (hw _ (List.mem_of_getElem? (i := 62) rfl))) (notFace_of_selects (args := #[]) (mvT hZ (hw _ (List.mem_of_getElem? (i := 64) rfl)))) (mvT hZ (hw _ (List.mem_of_getElem? (i := 64) rfl))) (mvT hZ (hw _ (List.mem_of_getElem? (i := 63) rfl))) (by decide) (backOf (W := 0) (rmQ22 l Z a0 hw [] nma nmb da ka v0 v1 db kb w0 w1 cs h0 n0 Z0 hp3 hp4 hp5 hp6 hp10 hp11 hp12 hp13 hp14 hh0 hh1) hZ (hw _ (List.mem_of_getElem? (i := 65) rfl)) (hw _ (List.mem_of_getElem? (i := 3) rfl)) (by decide) (by decide)) q5a q5c (g := (mkF m 20 #[.val (.ref r0), .val (.ref r1), .val (.ref r1)] [(.ref nmb), (.ref nma)])) rfl (by rw [hml]; rfl) (Steps.refl _) (argsL := [(.ref nmb)]) (rest := []) (lenOf own_pd7 rfl) rfl (by show 2 * 0 + _ ≤ _; exact Nat.le_of_eq rfl) (hb hby d10_20) (fun _ _ => ⟨rfl, e4, (by decide : 0 + 0 ≤ _), (by decide : 0 + 0 ≤ _)⟩)
  dsimp only [Pt.U, Pt.locs, Pt.cells, Pt.slots] at X5 l5 y5 z5 st5 hQ5
  subst l5 y5 z5
  obtain ⟨rfl, N5q, e5⟩ := hQ5
  have N5 := Fr.app N0 N5q
  refine own_go (T' := T5) (g' := (mkF m 23 #[.val (.ref r0), .val (.ref r1), .val (.ref r1)] [(.int (own_q22 nma nmb da ka v0 v1 db kb w0 w1 cs))])) (fun _ k => st5.trans k) ?_
  by_cases hc23_6 : (own_q22 nma nmb da ka v0 v1 db kb w0 w1 cs) = (0 : Int32)
  · skip
    refine own_go (T' := T5) (g' := (mkF m 41 #[.val (.ref r0), .val (.ref r1), .val (.ref r1)] [])) (fun _ k => XS.ifYes X5.here hx rfl (pc0 := 23) (pc' := 41) rfl (hb hby d10_23) rfl (XT.i0_eq_t hc23_6) (by decide) (by decide) k) ?_
    refine own_go (T' := T5) (g' := (mkF m 42 #[.val (.ref r0), .val (.ref r1), .val (.ref r1)] [(.int (0 : Int32))])) (fun _ k => XS.iconst X5.here hx rfl (hb hby d10_41) k) ?_
    exact own_retN X5 hx (t := .boolean) Bd.returns hlk (by simp) (hb hby d10_42) e5 ⟨(by unfold own_s22; first | (rw [if_pos hc23_6]; done) | (rw [if_pos hc23_6]; rfl)), N5, rfl⟩ (by decide) (by decide)
  · skip
    refine own_go (T' := T5) (g' := (mkF m 26 #[.val (.ref r0), .val (.ref r1), .val (.ref r1)] [])) (fun _ k => XS.ifNo X5.here hx rfl (hb hby d10_23) rfl (XT.i0_eq_f hc23_6) k) ?_
    refine own_go (T' := T5) (g' := (mkF m 27 #[.val (.ref r0), .val (.ref r1), .val (.ref r1)] [(.ref r0)])) (fun _ k => XS.aloadN X5.here hx rfl (hb hby d10_26) rfl rfl k) ?_
    obtain ⟨T7, X7, e7, st7⟩ := getF X5 hx hZ hown (host := "") (Or.inl (hw _ (List.mem_of_getElem? (i := 52) rfl))) Via.refl e5 hp2 (g := (mkF m 27 #[.val (.ref r0), .val (.ref r1), .val (.ref r1)] [(.ref r0)])) rfl rfl (hb hby d10_27)
    refine own_go (T' := T7) (g' := (mkF m 30 #[.val (.ref r0), .val (.ref r1), .val (.ref r1)] [(.int wta)])) (fun _ k => st7 _ k) ?_
    refine own_go (T' := T7) (g' := (mkF m 31 #[.val (.ref r0), .val (.ref r1), .val (.ref r1)] [(.ref r1), (.int wta)])) (fun _ k => XS.aloadN X7.here hx rfl (hb hby d10_30) rfl rfl k) ?_
    obtain ⟨T8, X8, e8, st8⟩ := getF X7 hx hZ hown (host := "") (Or.inl (hw _ (List.mem_of_getElem? (i := 52) rfl))) Via.refl e7 hp9 (g := (mkF m 31 #[.val (.ref r0), .val (.ref r1), .val (.ref r1)] [(.ref r1), (.int wta)])) rfl rfl (hb hby d10_31)
    refine own_go (T' := T8) (g' := (mkF m 34 #[.val (.ref r0), .val (.ref r1), .val (.ref r1)] [(.int wtb), (.int wta)])) (fun _ k => st8 _ k) ?_
    by_cases hc34_9 : wta = wtb
    · skip
      refine own_go (T' := T8) (g' := (mkF m 37 #[.val (.ref r0), .val (.ref r1), .val (.ref r1)] [])) (fun _ k => XS.icmpNo X8.here hx rfl (hb hby d10_34) rfl (XT.ii_ne_f hc34_9) k) ?_
      refine own_go (T' := T8) (g' := (mkF m 38 #[.val (.ref r0), .val (.ref r1), .val (.ref r1)] [(.int (1 : Int32))])) (fun _ k => XS.iconst X8.here hx rfl (hb hby d10_37) k) ?_
      refine own_go (T' := T8) (g' := (mkF m 42 #[.val (.ref r0), .val (.ref r1), .val (.ref r1)] [(.int (1 : Int32))])) (fun _ k => XS.goto X8.here hx rfl (pc0 := 38) (pc' := 42) rfl (hb hby d10_38) (by decide) (by decide) k) ?_
      exact own_retN X8 hx (t := .boolean) Bd.returns hlk (by simp) (hb hby d10_42) e8 ⟨(by unfold own_s22; first | (rw [if_neg hc23_6, if_pos hc34_9]; done) | (rw [if_neg hc23_6, if_pos hc34_9]; rfl)), N5, rfl⟩ (by decide) (by decide)
    · skip
      refine own_go (T' := T8) (g' := (mkF m 41 #[.val (.ref r0), .val (.ref r1), .val (.ref r1)] [])) (fun _ k => XS.icmpYes X8.here hx rfl (pc0 := 34) (pc' := 41) rfl (hb hby d10_34) rfl (XT.ii_ne_t hc34_9) (by decide) (by decide) k) ?_
      refine own_go (T' := T8) (g' := (mkF m 42 #[.val (.ref r0), .val (.ref r1), .val (.ref r1)] [(.int (0 : Int32))])) (fun _ k => XS.iconst X8.here hx rfl (hb hby d10_41) k) ?_
      exact own_retN X8 hx (t := .boolean) Bd.returns hlk (by simp) (hb hby d10_42) e8 ⟨(by unfold own_s22; first | (rw [if_neg hc23_6, if_neg hc34_9]; done) | (rw [if_neg hc23_6, if_neg hc34_9]; rfl)), N5, rfl⟩ (by decide) (by decide)
def own_qS (r0 : Addr) : Int32 := (1 : Int32)
theorem d11_5 : decode jdk_42_method_66_code 5 = .ok (.iconst 1, 1) := by decide +kernel
theorem d11_6 : decode jdk_42_method_66_code 6 = .ok (.ireturn, 1) := by decide +kernel
def Q_rmQS (Z : State) (r0 : Addr) (h0 : Heap) (n0 : Nat) (v : Option Value) (h : Heap) (L : List Loc) : Prop := v = some (.int (own_qS r0)) ∧ Fr n0 L ∧ h = h0
theorem ef_rmQS (m : MethodId) (x0 : Addr) (x1 : Addr) : entryFrame m #[(.ref x0), (.ref x1)] 3 = mkF m 0 #[.val (.ref x0), .val (.ref x1), .unset] [] := by first | (simp [entryFrame, mkF, argsToLocals, Value.category]; done) | rfl
theorem pn_rmQS : plainName "java/lang/String" = true := by first | (simp [plainName, overriddenIn]; done) | decide +kernel
set_option maxRecDepth 65536 in
set_option maxHeartbeats 40000000 in
theorem rmQS (l : Launch) (Z : State) (a0 : Array Value) (hw : ∀ d ∈ tables_1, d.before a0 Z = true) (ws : List Jvm.Cond) (r0 : Addr) (h0 : Heap) (n0 : Nat) (Z0 : n0 ≤ h0.size)  :
    MetFree l (⟨"java/lang/String", "equals", "(Ljava/lang/Object;)Z"⟩ : MethodName) (head1 (Jvm.Cond.code (⟨"java/lang/String", "equals", "(Ljava/lang/Object;)Z"⟩ : MethodName) jdk_42_method_66_code 3 (some .boolean) :: ws) ({ frames := 0, cells := 0, slots := 0, locals := 0 } : Room)) (fun a U => a = #[(.ref r0), (.ref r0)] ∧ Z.Warmed39 U.vm ∧ U.heap = h0) (fun _ _ _ _ _ => True) (fun _ U o U' => ∃ v L, o = .returned v ∧ Q_rmQS Z r0 h0 n0 v U'.heap L ∧ FrameEnd U o U' L ({ frames := 0, cells := 0, slots := 0, locals := 0 } : Room).cells ({ frames := 0, cells := 0, slots := 0, locals := 0 } : Room).slots) := by
  refine MetFree.of_bodySF (plainFor_of_name pn_rmQS) hisR ?_
  intro p e s m args below meth c s₁ Bd hml0 hP hK
  obtain ⟨rfl, hZ, hh⟩ := hP
  have hx := Bd.exec
  have hby := Bd.bytes
  have hml : c.maxLocals = 3 := hml0
  have hown : s.vm.findClass "java/lang/String" = some m.cls := findClass_of_methodNamed Bd.named
  have hnm := (name_of_methodNamed Bd.named Bd.method).1
  have hlk : meth.locks = false := BodyLoose.notSynchronized Bd
  have X0 : Stand p l e ({ frames := 0, cells := 0, slots := 0, locals := 0 } : Room) s m #[(.ref r0), (.ref r0)] below meth c s₁ [] 0 0 := Stand.of_body Bd
  have e0 : s₁.heap = h0 := by rw [← hh, Bd.state]; rfl
  have N0 := Fr.nil n0
  show own_W p e below s (Q_rmQS Z r0 h0 n0) 0 0 s₁ (entryFrame m #[(.ref r0), (.ref r0)] 3)
  skip
  skip
  refine own_go (T' := s₁) (g' := (mkF m 0 #[.val (.ref r0), .val (.ref r0), .unset] [])) (fun _ k => castTop (ef_rmQS m r0 r0) k) ?_
  refine own_go (T' := s₁) (g' := (mkF m 1 #[.val (.ref r0), .val (.ref r0), .unset] [(.ref r0)])) (fun _ k => XS.aloadN X0.here hx rfl (hb hby d11_0) rfl rfl k) ?_
  refine own_go (T' := s₁) (g' := (mkF m 2 #[.val (.ref r0), .val (.ref r0), .unset] [(.ref r0), (.ref r0)])) (fun _ k => XS.aloadN X0.here hx rfl (hb hby d11_1) rfl rfl k) ?_
  refine own_go (T' := s₁) (g' := (mkF m 5 #[.val (.ref r0), .val (.ref r0), .unset] [])) (fun _ k => XT.acmpNo X0.here hx rfl (hb hby d11_2) rfl rfl rfl (XT.aa_ne_f rfl) k) ?_
  refine own_go (T' := s₁) (g' := (mkF m 6 #[.val (.ref r0), .val (.ref r0), .unset] [(.int (1 : Int32))])) (fun _ k => XS.iconst X0.here hx rfl (hb hby d11_5) k) ?_
  exact own_retN X0 hx (t := .boolean) Bd.returns hlk (by simp) (hb hby d11_6) e0 ⟨(by unfold own_qS; first | rfl | done), N0, rfl⟩ (by decide) (by decide)
def own_sS (r0 : Addr) (nma : Addr) (wta : Int32) : Int32 := (1 : Int32)
def Q_rmES (Z : State) (r0 : Addr) (nma : Addr) (wta : Int32) (h0 : Heap) (n0 : Nat) (v : Option Value) (h : Heap) (L : List Loc) : Prop := v = some (.int (own_sS r0 nma wta)) ∧ Fr n0 L ∧ h = h0
theorem ef_rmES (m : MethodId) (x0 : Addr) (x1 : Addr) : entryFrame m #[(.ref x0), (.ref x1)] 3 = mkF m 0 #[.val (.ref x0), .val (.ref x1), .unset] [] := by first | (simp [entryFrame, mkF, argsToLocals, Value.category]; done) | rfl
theorem pn_rmES : plainName "com/example/node_ring/nodering/pool/Server" = true := by first | (simp [plainName, overriddenIn]; done) | decide +kernel
set_option maxRecDepth 65536 in
set_option maxHeartbeats 40000000 in
theorem rmES (l : Launch) (Z : State) (a0 : Array Value) (hw : ∀ d ∈ tables_1, d.before a0 Z = true) (ws : List Jvm.Cond) (r0 : Addr) (nma : Addr) (wta : Int32) (h0 : Heap) (n0 : Nat) (Z0 : n0 ≤ h0.size) (hp0 : Exa Z h0 r0 "com/example/node_ring/nodering/pool/Server") (hp1 : Fld Z h0 r0 "com/example/node_ring/nodering/pool/Server" "name" "Ljava/lang/String;" (.ref nma)) (hp2 : Fld Z h0 r0 "com/example/node_ring/nodering/pool/Server" "weight" "I" (.int wta)) (hp3 : Exa Z h0 nma "java/lang/String") :
    MetFree l (⟨"com/example/node_ring/nodering/pool/Server", "equals", "(Ljava/lang/Object;)Z"⟩ : MethodName) (head1 (Jvm.Cond.code (⟨"com/example/node_ring/nodering/pool/Server", "equals", "(Ljava/lang/Object;)Z"⟩ : MethodName) prog_13_method_4_code 3 (some .boolean) :: ws) ({ frames := 1, cells := 0, slots := 0, locals := 14 } : Room)) (fun a U => a = #[(.ref r0), (.ref r0)] ∧ Z.Warmed39 U.vm ∧ U.heap = h0) (fun _ _ _ _ _ => True) (fun _ U o U' => ∃ v L, o = .returned v ∧ Q_rmES Z r0 nma wta h0 n0 v U'.heap L ∧ FrameEnd U o U' L ({ frames := 1, cells := 0, slots := 0, locals := 14 } : Room).cells ({ frames := 1, cells := 0, slots := 0, locals := 14 } : Room).slots) := by
  refine MetFree.of_bodySF (plainFor_of_name pn_rmES) hisR ?_
  intro p e s m args below meth c s₁ Bd hml0 hP hK
  obtain ⟨rfl, hZ, hh⟩ := hP
  have hx := Bd.exec
  have hby := Bd.bytes
  have hml : c.maxLocals = 3 := hml0
  have hown : s.vm.findClass "com/example/node_ring/nodering/pool/Server" = some m.cls := findClass_of_methodNamed Bd.named
  have hnm := (name_of_methodNamed Bd.named Bd.method).1
  have hlk : meth.locks = false := BodyLoose.notSynchronized Bd
  have X0 : Stand p l e ({ frames := 1, cells := 0, slots := 0, locals := 14 } : Room) s m #[(.ref r0), (.ref r0)] below meth c s₁ [] 0 0 := Stand.of_body Bd
  have e0 : s₁.heap = h0 := by rw [← hh, Bd.state]; rfl
  have N0 := Fr.nil n0
  show own_W p e below s (Q_rmES Z r0 nma wta h0 n0) 0 0 s₁ (entryFrame m #[(.ref r0), (.ref r0)] 3)
  skip
  skip
  refine own_go (T' := s₁) (g' := (mkF m 0 #[.val (.ref r0), .val (.ref r0), .unset] [])) (fun _ k => castTop (ef_rmES m r0 r0) k) ?_
  refine own_go (T' := s₁) (g' := (mkF m 1 #[.val (.ref r0), .val (.ref r0), .unset] [(.ref r0)])) (fun _ k => XS.aloadN X0.here hx rfl (hb hby d10_0) rfl rfl k) ?_
  obtain ⟨T1, X1, e1, st1⟩ := instY X0 hx hZ hown (hw _ (List.mem_of_getElem? (i := 59) rfl)) e0 (Ins.self hp0) (g := (mkF m 1 #[.val (.ref r0), .val (.ref r0), .unset] [(.ref r0)])) rfl rfl (hb hby d10_1)
  refine own_go (T' := T1) (g' := (mkF m 4 #[.val (.ref r0), .val (.ref r0), .unset] [(.int (1 : Int32))])) (fun _ k => st1 _ k) ?_
  refine own_go (T' := T1) (g' := (mkF m 7 #[.val (.ref r0), .val (.ref r0), .unset] [])) (fun _ k => XS.ifNo X1.here hx rfl (hb hby d10_4) rfl (XT.i0_eq_f (by decide : ¬ ((1 : Int32) = (0 : Int32)))) k) ?_
  refine own_go (T' := T1) (g' := (mkF m 8 #[.val (.ref r0), .val (.ref r0), .unset] [(.ref r0)])) (fun _ k => XS.aloadN X1.here hx rfl (hb hby d10_7) rfl rfl k) ?_
  obtain ⟨T2, X2, e2, st2⟩ := castY X1 hx hZ hown (hw _ (List.mem_of_getElem? (i := 59) rfl)) e1 (Ins.self hp0) (g := (mkF m 8 #[.val (.ref r0), .val (.ref r0), .unset] [(.ref r0)])) rfl rfl (hb hby d10_8)
  refine own_go (T' := T2) (g' := (mkF m 11 #[.val (.ref r0), .val (.ref r0), .unset] [(.ref r0)])) (fun _ k => st2 _ k) ?_
  refine own_go (T' := T2) (g' := (mkF m 12 #[.val (.ref r0), .val (.ref r0), .val (.ref r0)] [])) (fun _ k => XS.astoreN X2.here hx rfl (hb hby d10_11) rfl rfl (l' := #[.val (.ref r0), .val (.ref r0), .val (.ref r0)]) rfl k) ?_
  refine own_go (T' := T2) (g' := (mkF m 13 #[.val (.ref r0), .val (.ref r0), .val (.ref r0)] [(.ref r0)])) (fun _ k => XS.aloadN X2.here hx rfl (hb hby d10_12) rfl rfl k) ?_
  obtain ⟨T3, X3, e3, st3⟩ := getF X2 hx hZ hown (host := "") (Or.inl (hw _ (List.mem_of_getElem? (i := 50) rfl))) Via.refl e2 hp1 (g := (mkF m 13 #[.val (.ref r0), .val (.ref r0), .val (.ref r0)] [(.ref r0)])) rfl rfl (hb hby d10_13)
  refine own_go (T' := T3) (g' := (mkF m 16 #[.val (.ref r0), .val (.ref r0), .val (.ref r0)] [(.ref nma)])) (fun _ k => st3 _ k) ?_
  refine own_go (T' := T3) (g' := (mkF m 17 #[.val (.ref r0), .val (.ref r0), .val (.ref r0)] [(.ref r0), (.ref nma)])) (fun _ k => XS.aloadN X3.here hx rfl (hb hby d10_16) rfl rfl k) ?_
  obtain ⟨T4, X4, e4, st4⟩ := getF X3 hx hZ hown (host := "") (Or.inl (hw _ (List.mem_of_getElem? (i := 50) rfl))) Via.refl e3 hp1 (g := (mkF m 17 #[.val (.ref r0), .val (.ref r0), .val (.ref r0)] [(.ref r0), (.ref nma)])) rfl rfl (hb hby d10_17)
  refine own_go (T' := T4) (g' := (mkF m 20 #[.val (.ref r0), .val (.ref r0), .val (.ref r0)] [(.ref nma), (.ref nma)])) (fun _ k => st4 _ k) ?_
  obtain ⟨cq5, kq5, q5a, q5b, q5c⟩ := isOf hZ e4 hp3
  obtain ⟨_, _, ⟨T5, L5, k5, n5⟩, -, X5, ⟨Lc5, hQ5, l5, y5, z5⟩, st5⟩ := X4.virtualBack hx (y := (⟨"java/lang/String", "equals", "(Ljava/lang/Object;)Z"⟩ : MethodName)) (z := (⟨"java/lang/String", "equals", "(Ljava/lang/Object;)Z"⟩ : MethodName)) hown (mvT hZ (hw _ (List.mem_of_getElem? (i := 61) rfl))) (mvT hZ (hw _ (List.mem_of_getElem? (i := 62) rfl))) (notFace_of_selects (args := #[]) (mvT hZ (hw _ (List.mem_of_getElem? (i := 64) rfl)))) (mvT hZ (hw _ (List.mem_of_getElem? (i := 64) rfl))) (mvT hZ (hw _ (List.mem_of_getElem? (i := 63) rfl))) (by decide) (backOf (W := 0) (rmQS l Z a0 hw [] nma h0 n0 Z0 ) hZ (hw _ (List.mem_of_getElem? (i := 65) rfl)) (hw _ (List.mem_of_getElem? (i := 3) rfl)) (by decide) (by decide)) q5a q5c (g := (mkF m 20 #[.val (.ref r0), .val (.ref r0), .val (.ref r0)] [(.ref nma), (.ref nma)])) rfl (by rw [hml]; rfl) (Steps.refl _) (argsL := [(.ref nma)]) (rest := []) (lenOf own_pd7 rfl) rfl (by show 2 * 0 + _ ≤ _; exact Nat.le_of_eq rfl) (hb hby d10_20) (fun _ _ => ⟨rfl, e4, (by decide : 0 + 0 ≤ _), (by decide : 0 + 0 ≤ _)⟩)
  dsimp only [Pt.U, Pt.locs, Pt.cells, Pt.slots] at X5 l5 y5 z5 st5 hQ5
  subst l5 y5 z5
  obtain ⟨rfl, N5q, e5⟩ := hQ5
  have N5 := Fr.app N0 N5q
  refine own_go (T' := T5) (g' := (mkF m 23 #[.val (.ref r0), .val (.ref r0), .val (.ref r0)] [(.int (own_qS nma))])) (fun _ k => st5.trans k) ?_
  refine own_go (T' := T5) (g' := (mkF m 26 #[.val (.ref r0), .val (.ref r0), .val (.ref r0)] [])) (fun _ k => XS.ifNo X5.here hx rfl (hb hby d10_23) rfl (XT.i0_eq_f (by unfold own_qS; decide)) k) ?_
  refine own_go (T' := T5) (g' := (mkF m 27 #[.val (.ref r0), .val (.ref r0), .val (.ref r0)] [(.ref r0)])) (fun _ k => XS.aloadN X5.here hx rfl (hb hby d10_26) rfl rfl k) ?_
  obtain ⟨T6, X6, e6, st6⟩ := getF X5 hx hZ hown (host := "") (Or.inl (hw _ (List.mem_of_getElem? (i := 52) rfl))) Via.refl e5 hp2 (g := (mkF m 27 #[.val (.ref r0), .val (.ref r0), .val (.ref r0)] [(.ref r0)])) rfl rfl (hb hby d10_27)
  refine own_go (T' := T6) (g' := (mkF m 30 #[.val (.ref r0), .val (.ref r0), .val (.ref r0)] [(.int wta)])) (fun _ k => st6 _ k) ?_
  refine own_go (T' := T6) (g' := (mkF m 31 #[.val (.ref r0), .val (.ref r0), .val (.ref r0)] [(.ref r0), (.int wta)])) (fun _ k => XS.aloadN X6.here hx rfl (hb hby d10_30) rfl rfl k) ?_
  obtain ⟨T7, X7, e7, st7⟩ := getF X6 hx hZ hown (host := "") (Or.inl (hw _ (List.mem_of_getElem? (i := 52) rfl))) Via.refl e6 hp2 (g := (mkF m 31 #[.val (.ref r0), .val (.ref r0), .val (.ref r0)] [(.ref r0), (.int wta)])) rfl rfl (hb hby d10_31)
  refine own_go (T' := T7) (g' := (mkF m 34 #[.val (.ref r0), .val (.ref r0), .val (.ref r0)] [(.int wta), (.int wta)])) (fun _ k => st7 _ k) ?_
  refine own_go (T' := T7) (g' := (mkF m 37 #[.val (.ref r0), .val (.ref r0), .val (.ref r0)] [])) (fun _ k => XS.icmpNo X7.here hx rfl (hb hby d10_34) rfl (XT.ii_ne_f (rfl : wta = wta)) k) ?_
  refine own_go (T' := T7) (g' := (mkF m 38 #[.val (.ref r0), .val (.ref r0), .val (.ref r0)] [(.int (1 : Int32))])) (fun _ k => XS.iconst X7.here hx rfl (hb hby d10_37) k) ?_
  refine own_go (T' := T7) (g' := (mkF m 42 #[.val (.ref r0), .val (.ref r0), .val (.ref r0)] [(.int (1 : Int32))])) (fun _ k => XS.goto X7.here hx rfl (pc0 := 38) (pc' := 42) rfl (hb hby d10_38) (by decide) (by decide) k) ?_
  exact own_retN X7 hx (t := .boolean) Bd.returns hlk (by simp) (hb hby d10_42) e7 ⟨(by unfold own_sS; first | rfl | done), N5, rfl⟩ (by decide) (by decide)
def own_sN (r0 : Addr) : Int32 := (0 : Int32)
def Q_rmEN (Z : State) (r0 : Addr) (h0 : Heap) (n0 : Nat) (v : Option Value) (h : Heap) (L : List Loc) : Prop := v = some (.int (own_sN r0)) ∧ Fr n0 L ∧ h = h0
theorem ef_rmEN (m : MethodId) (x0 : Addr) : entryFrame m #[(.ref x0), .null] 3 = mkF m 0 #[.val (.ref x0), .val .null, .unset] [] := by first | (simp [entryFrame, mkF, argsToLocals, Value.category]; done) | rfl
theorem pn_rmEN : plainName "com/example/node_ring/nodering/pool/Server" = true := by first | (simp [plainName, overriddenIn]; done) | decide +kernel
set_option maxRecDepth 65536 in
set_option maxHeartbeats 40000000 in
theorem rmEN (l : Launch) (Z : State) (a0 : Array Value) (hw : ∀ d ∈ tables_1, d.before a0 Z = true) (ws : List Jvm.Cond) (r0 : Addr) (h0 : Heap) (n0 : Nat) (Z0 : n0 ≤ h0.size)  :
    MetFree l (⟨"com/example/node_ring/nodering/pool/Server", "equals", "(Ljava/lang/Object;)Z"⟩ : MethodName) (head1 (Jvm.Cond.code (⟨"com/example/node_ring/nodering/pool/Server", "equals", "(Ljava/lang/Object;)Z"⟩ : MethodName) prog_13_method_4_code 3 (some .boolean) :: ws) ({ frames := 0, cells := 0, slots := 0, locals := 0 } : Room)) (fun a U => a = #[(.ref r0), .null] ∧ Z.Warmed39 U.vm ∧ U.heap = h0) (fun _ _ _ _ _ => True) (fun _ U o U' => ∃ v L, o = .returned v ∧ Q_rmEN Z r0 h0 n0 v U'.heap L ∧ FrameEnd U o U' L ({ frames := 0, cells := 0, slots := 0, locals := 0 } : Room).cells ({ frames := 0, cells := 0, slots := 0, locals := 0 } : Room).slots) := by
  refine MetFree.of_bodySF (plainFor_of_name pn_rmEN) hisR ?_
  intro p e s m args below meth c s₁ Bd hml0 hP hK
  obtain ⟨rfl, hZ, hh⟩ := hP
  have hx := Bd.exec
  have hby := Bd.bytes
  have hml : c.maxLocals = 3 := hml0
  have hown : s.vm.findClass "com/example/node_ring/nodering/pool/Server" = some m.cls := findClass_of_methodNamed Bd.named
  have hnm := (name_of_methodNamed Bd.named Bd.method).1
  have hlk : meth.locks = false := BodyLoose.notSynchronized Bd
  have X0 : Stand p l e ({ frames := 0, cells := 0, slots := 0, locals := 0 } : Room) s m #[(.ref r0), .null] below meth c s₁ [] 0 0 := Stand.of_body Bd
  have e0 : s₁.heap = h0 := by rw [← hh, Bd.state]; rfl
  have N0 := Fr.nil n0
  show own_W p e below s (Q_rmEN Z r0 h0 n0) 0 0 s₁ (entryFrame m #[(.ref r0), .null] 3)
  skip
  skip
  refine own_go (T' := s₁) (g' := (mkF m 0 #[.val (.ref r0), .val .null, .unset] [])) (fun _ k => castTop (ef_rmEN m r0) k) ?_
  refine own_go (T' := s₁) (g' := (mkF m 1 #[.val (.ref r0), .val .null, .unset] [.null])) (fun _ k => XS.aloadN X0.here hx rfl (hb hby d10_0) rfl rfl k) ?_
  refine own_go (T' := s₁) (g' := (mkF m 4 #[.val (.ref r0), .val .null, .unset] [(.int (0 : Int32))])) (fun _ k => Jvm.Stand.instanceofNull X0 hx (g := (mkF m 1 #[.val (.ref r0), .val .null, .unset] [.null])) rfl rfl (hb hby d10_1) _ k) ?_
  refine own_go (T' := s₁) (g' := (mkF m 41 #[.val (.ref r0), .val .null, .unset] [])) (fun _ k => XS.ifYes X0.here hx rfl (pc0 := 4) (pc' := 41) rfl (hb hby d10_4) rfl (XT.i0_eq_t (rfl : (0 : Int32) = (0 : Int32))) (by decide) (by decide) k) ?_
  refine own_go (T' := s₁) (g' := (mkF m 42 #[.val (.ref r0), .val .null, .unset] [(.int (0 : Int32))])) (fun _ k => XS.iconst X0.here hx rfl (hb hby d10_41) k) ?_
  exact own_retN X0 hx (t := .boolean) Bd.returns hlk (by simp) (hb hby d10_42) e0 ⟨(by unfold own_sN; first | rfl | done), N0, rfl⟩ (by decide) (by decide)
def own_sT (r0 : Addr) (r1 : Addr) : Int32 := (0 : Int32)
def Q_rmET (Z : State) (r0 : Addr) (r1 : Addr) (h0 : Heap) (n0 : Nat) (v : Option Value) (h : Heap) (L : List Loc) : Prop := v = some (.int (own_sT r0 r1)) ∧ Fr n0 L ∧ h = h0
theorem ef_rmET (m : MethodId) (x0 : Addr) (x1 : Addr) : entryFrame m #[(.ref x0), (.ref x1)] 3 = mkF m 0 #[.val (.ref x0), .val (.ref x1), .unset] [] := by first | (simp [entryFrame, mkF, argsToLocals, Value.category]; done) | rfl
theorem pn_rmET : plainName "com/example/node_ring/nodering/pool/Server" = true := by first | (simp [plainName, overriddenIn]; done) | decide +kernel
set_option maxRecDepth 65536 in
set_option maxHeartbeats 40000000 in
theorem rmET (l : Launch) (Z : State) (a0 : Array Value) (hw : ∀ d ∈ tables_1, d.before a0 Z = true) (ws : List Jvm.Cond) (r0 : Addr) (r1 : Addr) (h0 : Heap) (n0 : Nat) (Z0 : n0 ≤ h0.size) (hp0 : Exa Z h0 r1 "java/lang/String") :
    MetFree l (⟨"com/example/node_ring/nodering/pool/Server", "equals", "(Ljava/lang/Object;)Z"⟩ : MethodName) (head1 (Jvm.Cond.code (⟨"com/example/node_ring/nodering/pool/Server", "equals", "(Ljava/lang/Object;)Z"⟩ : MethodName) prog_13_method_4_code 3 (some .boolean) :: ws) ({ frames := 0, cells := 0, slots := 0, locals := 0 } : Room)) (fun a U => a = #[(.ref r0), (.ref r1)] ∧ Z.Warmed39 U.vm ∧ U.heap = h0) (fun _ _ _ _ _ => True) (fun _ U o U' => ∃ v L, o = .returned v ∧ Q_rmET Z r0 r1 h0 n0 v U'.heap L ∧ FrameEnd U o U' L ({ frames := 0, cells := 0, slots := 0, locals := 0 } : Room).cells ({ frames := 0, cells := 0, slots := 0, locals := 0 } : Room).slots) := by
  refine MetFree.of_bodySF (plainFor_of_name pn_rmET) hisR ?_
  intro p e s m args below meth c s₁ Bd hml0 hP hK
  obtain ⟨rfl, hZ, hh⟩ := hP
  have hx := Bd.exec
  have hby := Bd.bytes
  have hml : c.maxLocals = 3 := hml0
  have hown : s.vm.findClass "com/example/node_ring/nodering/pool/Server" = some m.cls := findClass_of_methodNamed Bd.named
  have hnm := (name_of_methodNamed Bd.named Bd.method).1
  have hlk : meth.locks = false := BodyLoose.notSynchronized Bd
  have X0 : Stand p l e ({ frames := 0, cells := 0, slots := 0, locals := 0 } : Room) s m #[(.ref r0), (.ref r1)] below meth c s₁ [] 0 0 := Stand.of_body Bd
  have e0 : s₁.heap = h0 := by rw [← hh, Bd.state]; rfl
  have N0 := Fr.nil n0
  show own_W p e below s (Q_rmET Z r0 r1 h0 n0) 0 0 s₁ (entryFrame m #[(.ref r0), (.ref r1)] 3)
  skip
  skip
  refine own_go (T' := s₁) (g' := (mkF m 0 #[.val (.ref r0), .val (.ref r1), .unset] [])) (fun _ k => castTop (ef_rmET m r0 r1) k) ?_
  refine own_go (T' := s₁) (g' := (mkF m 1 #[.val (.ref r0), .val (.ref r1), .unset] [(.ref r1)])) (fun _ k => XS.aloadN X0.here hx rfl (hb hby d10_0) rfl rfl k) ?_
  obtain ⟨T1, X1, e1, st1⟩ := instNo X0 hx hZ hown (hw _ (List.mem_of_getElem? (i := 59) rfl)) e0 hp0 (own_noSub (hw _ (List.mem_of_getElem? (i := 71) rfl)) (hw _ (List.mem_of_getElem? (i := 72) rfl)) (hw _ (List.mem_of_getElem? (i := 32) rfl)) (by decide) (by decide)) (g := (mkF m 1 #[.val (.ref r0), .val (.ref r1), .unset] [(.ref r1)])) rfl rfl (hb hby d10_1)
  refine own_go (T' := T1) (g' := (mkF m 4 #[.val (.ref r0), .val (.ref r1), .unset] [(.int (0 : Int32))])) (fun _ k => st1 _ k) ?_
  refine own_go (T' := T1) (g' := (mkF m 41 #[.val (.ref r0), .val (.ref r1), .unset] [])) (fun _ k => XS.ifYes X1.here hx rfl (pc0 := 4) (pc' := 41) rfl (hb hby d10_4) rfl (XT.i0_eq_t (rfl : (0 : Int32) = (0 : Int32))) (by decide) (by decide) k) ?_
  refine own_go (T' := T1) (g' := (mkF m 42 #[.val (.ref r0), .val (.ref r1), .unset] [(.int (0 : Int32))])) (fun _ k => XS.iconst X1.here hx rfl (hb hby d10_41) k) ?_
  exact own_retN X1 hx (t := .boolean) Bd.returns hlk (by simp) (hb hby d10_42) e1 ⟨(by unfold own_sT; first | rfl | done), N0, rfl⟩ (by decide) (by decide)
def own_C (c : Int32) : Prop := 0 ≤ c.toInt ∧ c.toInt ≤ 255
theorem own_C0 (x : Int32) : own_C ((x &&& (255 : Int32)).toUInt32.toUInt16.toUInt32.toInt32) := by
  rw [i2c_mask]
  have h0 : (x &&& (255 : Int32)).toInt = x.toInt % 256 := c_mask x 255 8 (by decide) (by decide)
  constructor <;> omega
theorem own_Cn {c : Int32} (h : own_C c) : ¬ (255 : Int32) < c := by
  rw [Int32.lt_iff_toInt_lt, show (255 : Int32).toInt = 255 from rfl]; have := h.2; omega
theorem own_Ci {c : Prop} [Decidable c] {a b v : Int32} (ha : own_C a) (hb : own_C b) (h : v = if c then a else b) : own_C v := by
  subst h; split <;> assumption
theorem own_Wi {c : Prop} [Decidable c] {a b v : Int32} (ha : ¬ a < (0 : Int32)) (hb : ¬ b < (0 : Int32)) (h : v = if c then a else b) : ¬ v < (0 : Int32) := by
  subst h; split <;> assumption
theorem own_w0 (x : Int32) : ¬ (x &&& (2147483647 : Int32)) < (0 : Int32) := by
  have h0 : (x &&& (2147483647 : Int32)).toInt = x.toInt % 2147483648 := c_mask x 2147483647 31 (by decide) (by decide)
  rw [Int32.lt_iff_toInt_lt, show (0 : Int32).toInt = 0 from rfl]; omega
theorem own_12 (x : Int32) : ((1 : Int32) + (x &&& (1 : Int32))) = (1 : Int32) ∨ ((1 : Int32) + (x &&& (1 : Int32))) = (2 : Int32) := by
  have h0 : (x &&& (1 : Int32)).toInt = x.toInt % 2 := c_mask x 1 1 (by decide) (by decide)
  have h1 := c_iadd 1 (x &&& (1 : Int32))
  have h2 := rng32 ((1 : Int32) + (x &&& (1 : Int32)))
  simp only [← Int32.toInt_inj, show (1 : Int32).toInt = 1 from rfl, show (2 : Int32).toInt = 2 from rfl] at *
  omega
theorem own_nc {c : Int32} (h : own_C c) : nar .char c = c := by
  have h1 := c_i2c c
  have := h.1; have := h.2
  exact Int32.toInt_inj.mp (show (c.toUInt32.toUInt16.toUInt32.toInt32).toInt = c.toInt by omega)
theorem own_by {a b : Int32} (ha : own_C a) (hb : own_C b) : (nar .byte (a.toInt8.toInt32) = nar .byte (b.toInt8.toInt32)) ↔ a = b := by
  constructor
  · intro q
    have h1 := c_i2b a
    have h2 := c_i2b b
    have h3 := c_i2b a.toInt8.toInt32
    have h4 := c_i2b b.toInt8.toInt32
    have q' : a.toInt8.toInt32.toInt8.toInt32.toInt = b.toInt8.toInt32.toInt8.toInt32.toInt := congrArg Int32.toInt q
    have := ha.1; have := ha.2; have := hb.1; have := hb.2
    exact Int32.toInt_inj.mp (by omega)
  · intro q; rw [q]

theorem own_f1 {a b na nb da db : Addr} {ka kb : ClassId} {wA wB u v c x y : Int32} (hu : own_C u) (hv : own_C v) (hx : x = if u = v then (1 : Int32) else 0) (hy : y = if x = 0 then (0 : Int32) else (if wA = wB then 1 else 0)) : own_s11 a b na wA da ka (nar .byte (u.toInt8.toInt32)) nb wB db kb (nar .byte (v.toInt8.toInt32)) c = y := by
  subst hy hx
  unfold own_s11 own_q11 own_l11
  simp only [own_by hu hv]
  by_cases q : u = v <;> by_cases r : wA = wB <;> simp [q, r]
theorem own_f2 {a b na nb da db : Addr} {ka kb : ClassId} {wA wB u v u' v' c x y : Int32} (hu : own_C u) (hv : own_C v) (hu' : own_C u') (hv' : own_C v') (hx : x = if u = v then (if u' = v' then (1 : Int32) else 0) else 0) (hy : y = if x = 0 then (0 : Int32) else (if wA = wB then 1 else 0)) : own_s22 a b na wA da ka (nar .byte (u.toInt8.toInt32)) (nar .byte (u'.toInt8.toInt32)) nb wB db kb (nar .byte (v.toInt8.toInt32)) (nar .byte (v'.toInt8.toInt32)) c = y := by
  subst hy hx
  unfold own_s22 own_q22 own_l22
  simp only [own_by hu hv, own_by hu' hv']
  by_cases q : u = v <;> by_cases q' : u' = v' <;> by_cases r : wA = wB <;> simp [q, q', r]
theorem own_sw1 {u v x : Int32} (hx : x = if u = v then (1 : Int32) else 0) : x = if v = u then (1 : Int32) else 0 := by
  subst hx; by_cases q : u = v
  · subst q; rfl
  · rw [if_neg q, if_neg (fun z => q z.symm)]
theorem own_sw2 {u v u' v' x : Int32} (hx : x = if u = v then (if u' = v' then (1 : Int32) else 0) else 0) : x = if v = u then (if v' = u' then (1 : Int32) else 0) else 0 := by
  subst hx
  rw [own_ifc (eq_comm (a := u))]; split
  · exact own_ifc (eq_comm (a := u'))
  · rfl
theorem own_sw3 {wA wB x y : Int32} (hy : y = if x = 0 then (0 : Int32) else (if wA = wB then 1 else 0)) : y = if x = 0 then (0 : Int32) else (if wB = wA then 1 else 0) := by
  subst hy; split
  · rfl
  · exact own_ifc eq_comm
theorem own_pd8 : parseMethodDescriptor "([C)V" = some ⟨[(.array .char)], none⟩ := by decide +kernel
theorem own_pd9 : parseMethodDescriptor "(Ljava/lang/String;I)V" = some ⟨[(.object "java/lang/String"), .int], none⟩ := by decide +kernel
def Q_rm0 (Z : State) (p0 : Int32) (p1 : Int32) (p2 : Int32) (p3 : Int32) (p4 : Int32) (cs : Int32) (h0 : Heap) (n0 : Nat) (v : Option Value) (h : Heap) (L : List Loc) : Prop := v = some (.int 1) ∧ Fr n0 L
theorem ef_rm0 (m : MethodId) (x0 : Int32) (x1 : Int32) (x2 : Int32) (x3 : Int32) (x4 : Int32) : entryFrame m #[(.int x0), (.int x1), (.int x2), (.int x3), (.int x4)] maxLocals = mkF m 0 #[.val (.int x0), .val (.int x1), .val (.int x2), .val (.int x3), .val (.int x4), .unset, .unset, .unset, .unset, .unset, .unset, .unset, .unset, .unset, .unset, .unset, .unset, .unset, .unset, .unset, .unset] [] := by first | (simp [entryFrame, mkF, argsToLocals, Value.category, maxLocals]; done) | rfl
theorem pn_rm0 : plainName "com/example/node_ring/nodering/pool/ServerEqualsPinLaw" = true := by first | (simp [plainName, overriddenIn]; done) | decide +kernel
set_option maxRecDepth 65536 in
set_option maxHeartbeats 40000000 in
theorem rm0 (l : Launch) (Z : State) (a0 : Array Value) (hw : ∀ d ∈ tables_1, d.before a0 Z = true) (ws : List Jvm.Cond) (p0 : Int32) (p1 : Int32) (p2 : Int32) (p3 : Int32) (p4 : Int32) (cs : Int32) (h0 : Heap) (n0 : Nat) (Z0 : n0 ≤ h0.size) (hp0 : Sta Z h0 "java/lang/String" "COMPACT_STRINGS" "Z" (.int cs)) (hh0 : ¬ cs = (0 : Int32)) :
    MetFree l x (head1 (Jvm.Cond.code x code maxLocals ret :: ws) room_1) (fun a U => a = #[(.int p0), (.int p1), (.int p2), (.int p3), (.int p4)] ∧ Z.Warmed39 U.vm ∧ U.heap = h0) (fun _ _ _ _ _ => True) (fun _ U o U' => ∃ v L, o = .returned v ∧ Q_rm0 Z p0 p1 p2 p3 p4 cs h0 n0 v U'.heap L ∧ ReturnedEndW U o U' L 32 1152) := by
  refine MetFree.of_bodySF (plainFor_of_name pn_rm0) hisR ?_
  intro p e s m args below meth c s₁ Bd hml0 hP hK
  obtain ⟨rfl, hZ, hh⟩ := hP
  have hx := Bd.exec
  have hby := Bd.bytes
  have hml : c.maxLocals = 21 := hml0
  have hown : s.vm.findClass "com/example/node_ring/nodering/pool/ServerEqualsPinLaw" = some m.cls := findClass_of_methodNamed Bd.named
  have hnm := (name_of_methodNamed Bd.named Bd.method).1
  have hlk : meth.locks = false := BodyLoose.notSynchronized Bd
  have X0 : Stand p l e room_1 (s.setVm s.vm) m #[(.int p0), (.int p1), (.int p2), (.int p3), (.int p4)] below meth c s₁ [] 0 0 := Stand.of_body Bd
  have e0 : s₁.heap = h0 := by rw [← hh, Bd.state]; rfl
  have N0 := Fr.nil n0
  show own_WS p e below s (Q_rm0 Z p0 p1 p2 p3 p4 cs h0 n0) 32 1152 s₁ (entryFrame m #[(.int p0), (.int p1), (.int p2), (.int p3), (.int p4)] maxLocals)
  have hS0 : s.Since s.vm 0 := (State.WarmedH.refl s).since 0
  have hk0 : 0 ≤ h0.size := Nat.zero_le _
  refine own_goS (T' := s₁) (g' := (mkF m 0 #[.val (.int p0), .val (.int p1), .val (.int p2), .val (.int p3), .val (.int p4), .unset, .unset, .unset, .unset, .unset, .unset, .unset, .unset, .unset, .unset, .unset, .unset, .unset, .unset, .unset, .unset] [])) (fun _ k => castTop (ef_rm0 m p0 p1 p2 p3 p4) k) ?_
  refine own_goS (T' := s₁) (g' := (mkF m 1 #[.val (.int p0), .val (.int p1), .val (.int p2), .val (.int p3), .val (.int p4), .unset, .unset, .unset, .unset, .unset, .unset, .unset, .unset, .unset, .unset, .unset, .unset, .unset, .unset, .unset, .unset] [(.int (1 : Int32))])) (fun _ k => XS.iconst X0.here hx rfl (hb hby at_0) k) ?_
  refine own_goS (T' := s₁) (g' := (mkF m 3 #[.val (.int p0), .val (.int p1), .val (.int p2), .val (.int p3), .val (.int p4), .unset, .unset, .unset, .unset, .unset, .unset, .unset, .unset, .unset, .unset, .unset, .unset, .unset, .unset, .unset, .unset] [(.int p4), (.int (1 : Int32))])) (fun _ k => XS.iload X0.here hx rfl (hb hby at_1) rfl k) ?_
  refine own_goS (T' := s₁) (g' := (mkF m 4 #[.val (.int p0), .val (.int p1), .val (.int p2), .val (.int p3), .val (.int p4), .unset, .unset, .unset, .unset, .unset, .unset, .unset, .unset, .unset, .unset, .unset, .unset, .unset, .unset, .unset, .unset] [(.int (1 : Int32)), (.int p4), (.int (1 : Int32))])) (fun _ k => XS.iconst X0.here hx rfl (hb hby at_3) k) ?_
  refine own_goS (T' := s₁) (g' := (mkF m 5 #[.val (.int p0), .val (.int p1), .val (.int p2), .val (.int p3), .val (.int p4), .unset, .unset, .unset, .unset, .unset, .unset, .unset, .unset, .unset, .unset, .unset, .unset, .unset, .unset, .unset, .unset] [(.int (p4 &&& (1 : Int32))), (.int (1 : Int32))])) (fun _ k => XS.iand X0.here hx rfl (hb hby at_4) rfl k) ?_
  refine own_goS (T' := s₁) (g' := (mkF m 6 #[.val (.int p0), .val (.int p1), .val (.int p2), .val (.int p3), .val (.int p4), .unset, .unset, .unset, .unset, .unset, .unset, .unset, .unset, .unset, .unset, .unset, .unset, .unset, .unset, .unset, .unset] [(.int ((1 : Int32) + (p4 &&& (1 : Int32))))])) (fun _ k => XS.iadd X0.here hx rfl (hb hby at_5) rfl k) ?_
  refine own_goS (T' := s₁) (g' := (mkF m 8 #[.val (.int p0), .val (.int p1), .val (.int p2), .val (.int p3), .val (.int p4), .val (.int ((1 : Int32) + (p4 &&& (1 : Int32)))), .unset, .unset, .unset, .unset, .unset, .unset, .unset, .unset, .unset, .unset, .unset, .unset, .unset, .unset, .unset] [])) (fun _ k => XS.istore X0.here hx rfl (hb hby at_6) rfl (l' := #[.val (.int p0), .val (.int p1), .val (.int p2), .val (.int p3), .val (.int p4), .val (.int ((1 : Int32) + (p4 &&& (1 : Int32)))), .unset, .unset, .unset, .unset, .unset, .unset, .unset, .unset, .unset, .unset, .unset, .unset, .unset, .unset, .unset]) rfl k) ?_
  refine own_goS (T' := s₁) (g' := (mkF m 9 #[.val (.int p0), .val (.int p1), .val (.int p2), .val (.int p3), .val (.int p4), .val (.int ((1 : Int32) + (p4 &&& (1 : Int32)))), .unset, .unset, .unset, .unset, .unset, .unset, .unset, .unset, .unset, .unset, .unset, .unset, .unset, .unset, .unset] [(.int (1 : Int32))])) (fun _ k => XS.iconst X0.here hx rfl (hb hby at_8) k) ?_
  refine own_goS (T' := s₁) (g' := (mkF m 11 #[.val (.int p0), .val (.int p1), .val (.int p2), .val (.int p3), .val (.int p4), .val (.int ((1 : Int32) + (p4 &&& (1 : Int32)))), .unset, .unset, .unset, .unset, .unset, .unset, .unset, .unset, .unset, .unset, .unset, .unset, .unset, .unset, .unset] [(.int p4), (.int (1 : Int32))])) (fun _ k => XS.iload X0.here hx rfl (hb hby at_9) rfl k) ?_
  refine own_goS (T' := s₁) (g' := (mkF m 12 #[.val (.int p0), .val (.int p1), .val (.int p2), .val (.int p3), .val (.int p4), .val (.int ((1 : Int32) + (p4 &&& (1 : Int32)))), .unset, .unset, .unset, .unset, .unset, .unset, .unset, .unset, .unset, .unset, .unset, .unset, .unset, .unset, .unset] [(.int (1 : Int32)), (.int p4), (.int (1 : Int32))])) (fun _ k => XS.iconst X0.here hx rfl (hb hby at_11) k) ?_
  refine own_goS (T' := s₁) (g' := (mkF m 13 #[.val (.int p0), .val (.int p1), .val (.int p2), .val (.int p3), .val (.int p4), .val (.int ((1 : Int32) + (p4 &&& (1 : Int32)))), .unset, .unset, .unset, .unset, .unset, .unset, .unset, .unset, .unset, .unset, .unset, .unset, .unset, .unset, .unset] [(.int ((p4.toUInt32 >>> ((1 : Int32) &&& 31).toUInt32).toInt32)), (.int (1 : Int32))])) (fun _ k => XS.iushr X0.here hx rfl (hb hby at_12) rfl k) ?_
  refine own_goS (T' := s₁) (g' := (mkF m 14 #[.val (.int p0), .val (.int p1), .val (.int p2), .val (.int p3), .val (.int p4), .val (.int ((1 : Int32) + (p4 &&& (1 : Int32)))), .unset, .unset, .unset, .unset, .unset, .unset, .unset, .unset, .unset, .unset, .unset, .unset, .unset, .unset, .unset] [(.int (1 : Int32)), (.int ((p4.toUInt32 >>> ((1 : Int32) &&& 31).toUInt32).toInt32)), (.int (1 : Int32))])) (fun _ k => XS.iconst X0.here hx rfl (hb hby at_13) k) ?_
  refine own_goS (T' := s₁) (g' := (mkF m 15 #[.val (.int p0), .val (.int p1), .val (.int p2), .val (.int p3), .val (.int p4), .val (.int ((1 : Int32) + (p4 &&& (1 : Int32)))), .unset, .unset, .unset, .unset, .unset, .unset, .unset, .unset, .unset, .unset, .unset, .unset, .unset, .unset, .unset] [(.int (((p4.toUInt32 >>> ((1 : Int32) &&& 31).toUInt32).toInt32) &&& (1 : Int32))), (.int (1 : Int32))])) (fun _ k => XS.iand X0.here hx rfl (hb hby at_14) rfl k) ?_
  refine own_goS (T' := s₁) (g' := (mkF m 16 #[.val (.int p0), .val (.int p1), .val (.int p2), .val (.int p3), .val (.int p4), .val (.int ((1 : Int32) + (p4 &&& (1 : Int32)))), .unset, .unset, .unset, .unset, .unset, .unset, .unset, .unset, .unset, .unset, .unset, .unset, .unset, .unset, .unset] [(.int ((1 : Int32) + (((p4.toUInt32 >>> ((1 : Int32) &&& 31).toUInt32).toInt32) &&& (1 : Int32))))])) (fun _ k => XS.iadd X0.here hx rfl (hb hby at_15) rfl k) ?_
  refine own_goS (T' := s₁) (g' := (mkF m 18 #[.val (.int p0), .val (.int p1), .val (.int p2), .val (.int p3), .val (.int p4), .val (.int ((1 : Int32) + (p4 &&& (1 : Int32)))), .val (.int ((1 : Int32) + (((p4.toUInt32 >>> ((1 : Int32) &&& 31).toUInt32).toInt32) &&& (1 : Int32)))), .unset, .unset, .unset, .unset, .unset, .unset, .unset, .unset, .unset, .unset, .unset, .unset, .unset, .unset] [])) (fun _ k => XS.istore X0.here hx rfl (hb hby at_16) rfl (l' := #[.val (.int p0), .val (.int p1), .val (.int p2), .val (.int p3), .val (.int p4), .val (.int ((1 : Int32) + (p4 &&& (1 : Int32)))), .val (.int ((1 : Int32) + (((p4.toUInt32 >>> ((1 : Int32) &&& 31).toUInt32).toInt32) &&& (1 : Int32)))), .unset, .unset, .unset, .unset, .unset, .unset, .unset, .unset, .unset, .unset, .unset, .unset, .unset, .unset]) rfl k) ?_
  refine own_goS (T' := s₁) (g' := (mkF m 19 #[.val (.int p0), .val (.int p1), .val (.int p2), .val (.int p3), .val (.int p4), .val (.int ((1 : Int32) + (p4 &&& (1 : Int32)))), .val (.int ((1 : Int32) + (((p4.toUInt32 >>> ((1 : Int32) &&& 31).toUInt32).toInt32) &&& (1 : Int32)))), .unset, .unset, .unset, .unset, .unset, .unset, .unset, .unset, .unset, .unset, .unset, .unset, .unset, .unset] [(.int p0)])) (fun _ k => XS.iloadN X0.here hx rfl (hb hby at_18) rfl k) ?_
  refine own_goS (T' := s₁) (g' := (mkF m 22 #[.val (.int p0), .val (.int p1), .val (.int p2), .val (.int p3), .val (.int p4), .val (.int ((1 : Int32) + (p4 &&& (1 : Int32)))), .val (.int ((1 : Int32) + (((p4.toUInt32 >>> ((1 : Int32) &&& 31).toUInt32).toInt32) &&& (1 : Int32)))), .unset, .unset, .unset, .unset, .unset, .unset, .unset, .unset, .unset, .unset, .unset, .unset, .unset, .unset] [(.int (255 : Int32)), (.int p0)])) (fun _ k => XS.sipush X0.here hx rfl (hb hby at_19) k) ?_
  refine own_goS (T' := s₁) (g' := (mkF m 23 #[.val (.int p0), .val (.int p1), .val (.int p2), .val (.int p3), .val (.int p4), .val (.int ((1 : Int32) + (p4 &&& (1 : Int32)))), .val (.int ((1 : Int32) + (((p4.toUInt32 >>> ((1 : Int32) &&& 31).toUInt32).toInt32) &&& (1 : Int32)))), .unset, .unset, .unset, .unset, .unset, .unset, .unset, .unset, .unset, .unset, .unset, .unset, .unset, .unset] [(.int (p0 &&& (255 : Int32)))])) (fun _ k => XS.iand X0.here hx rfl (hb hby at_22) rfl k) ?_
  refine own_goS (T' := s₁) (g' := (mkF m 24 #[.val (.int p0), .val (.int p1), .val (.int p2), .val (.int p3), .val (.int p4), .val (.int ((1 : Int32) + (p4 &&& (1 : Int32)))), .val (.int ((1 : Int32) + (((p4.toUInt32 >>> ((1 : Int32) &&& 31).toUInt32).toInt32) &&& (1 : Int32)))), .unset, .unset, .unset, .unset, .unset, .unset, .unset, .unset, .unset, .unset, .unset, .unset, .unset, .unset] [(.int ((p0 &&& (255 : Int32)).toUInt32.toUInt16.toUInt32.toInt32))])) (fun _ k => XT.i2c X0.here hx rfl (hb hby at_23) rfl k) ?_
  refine own_goS (T' := s₁) (g' := (mkF m 26 #[.val (.int p0), .val (.int p1), .val (.int p2), .val (.int p3), .val (.int p4), .val (.int ((1 : Int32) + (p4 &&& (1 : Int32)))), .val (.int ((1 : Int32) + (((p4.toUInt32 >>> ((1 : Int32) &&& 31).toUInt32).toInt32) &&& (1 : Int32)))), .val (.int ((p0 &&& (255 : Int32)).toUInt32.toUInt16.toUInt32.toInt32)), .unset, .unset, .unset, .unset, .unset, .unset, .unset, .unset, .unset, .unset, .unset, .unset, .unset] [])) (fun _ k => XS.istore X0.here hx rfl (hb hby at_24) rfl (l' := #[.val (.int p0), .val (.int p1), .val (.int p2), .val (.int p3), .val (.int p4), .val (.int ((1 : Int32) + (p4 &&& (1 : Int32)))), .val (.int ((1 : Int32) + (((p4.toUInt32 >>> ((1 : Int32) &&& 31).toUInt32).toInt32) &&& (1 : Int32)))), .val (.int ((p0 &&& (255 : Int32)).toUInt32.toUInt16.toUInt32.toInt32)), .unset, .unset, .unset, .unset, .unset, .unset, .unset, .unset, .unset, .unset, .unset, .unset, .unset]) rfl k) ?_
  refine own_goS (T' := s₁) (g' := (mkF m 27 #[.val (.int p0), .val (.int p1), .val (.int p2), .val (.int p3), .val (.int p4), .val (.int ((1 : Int32) + (p4 &&& (1 : Int32)))), .val (.int ((1 : Int32) + (((p4.toUInt32 >>> ((1 : Int32) &&& 31).toUInt32).toInt32) &&& (1 : Int32)))), .val (.int ((p0 &&& (255 : Int32)).toUInt32.toUInt16.toUInt32.toInt32)), .unset, .unset, .unset, .unset, .unset, .unset, .unset, .unset, .unset, .unset, .unset, .unset, .unset] [(.int p0)])) (fun _ k => XS.iloadN X0.here hx rfl (hb hby at_26) rfl k) ?_
  refine own_goS (T' := s₁) (g' := (mkF m 29 #[.val (.int p0), .val (.int p1), .val (.int p2), .val (.int p3), .val (.int p4), .val (.int ((1 : Int32) + (p4 &&& (1 : Int32)))), .val (.int ((1 : Int32) + (((p4.toUInt32 >>> ((1 : Int32) &&& 31).toUInt32).toInt32) &&& (1 : Int32)))), .val (.int ((p0 &&& (255 : Int32)).toUInt32.toUInt16.toUInt32.toInt32)), .unset, .unset, .unset, .unset, .unset, .unset, .unset, .unset, .unset, .unset, .unset, .unset, .unset] [(.int (8 : Int32)), (.int p0)])) (fun _ k => XS.bipush X0.here hx rfl (hb hby at_27) k) ?_
  refine own_goS (T' := s₁) (g' := (mkF m 30 #[.val (.int p0), .val (.int p1), .val (.int p2), .val (.int p3), .val (.int p4), .val (.int ((1 : Int32) + (p4 &&& (1 : Int32)))), .val (.int ((1 : Int32) + (((p4.toUInt32 >>> ((1 : Int32) &&& 31).toUInt32).toInt32) &&& (1 : Int32)))), .val (.int ((p0 &&& (255 : Int32)).toUInt32.toUInt16.toUInt32.toInt32)), .unset, .unset, .unset, .unset, .unset, .unset, .unset, .unset, .unset, .unset, .unset, .unset, .unset] [(.int ((p0.toUInt32 >>> ((8 : Int32) &&& 31).toUInt32).toInt32))])) (fun _ k => XS.iushr X0.here hx rfl (hb hby at_29) rfl k) ?_
  refine own_goS (T' := s₁) (g' := (mkF m 33 #[.val (.int p0), .val (.int p1), .val (.int p2), .val (.int p3), .val (.int p4), .val (.int ((1 : Int32) + (p4 &&& (1 : Int32)))), .val (.int ((1 : Int32) + (((p4.toUInt32 >>> ((1 : Int32) &&& 31).toUInt32).toInt32) &&& (1 : Int32)))), .val (.int ((p0 &&& (255 : Int32)).toUInt32.toUInt16.toUInt32.toInt32)), .unset, .unset, .unset, .unset, .unset, .unset, .unset, .unset, .unset, .unset, .unset, .unset, .unset] [(.int (255 : Int32)), (.int ((p0.toUInt32 >>> ((8 : Int32) &&& 31).toUInt32).toInt32))])) (fun _ k => XS.sipush X0.here hx rfl (hb hby at_30) k) ?_
  refine own_goS (T' := s₁) (g' := (mkF m 34 #[.val (.int p0), .val (.int p1), .val (.int p2), .val (.int p3), .val (.int p4), .val (.int ((1 : Int32) + (p4 &&& (1 : Int32)))), .val (.int ((1 : Int32) + (((p4.toUInt32 >>> ((1 : Int32) &&& 31).toUInt32).toInt32) &&& (1 : Int32)))), .val (.int ((p0 &&& (255 : Int32)).toUInt32.toUInt16.toUInt32.toInt32)), .unset, .unset, .unset, .unset, .unset, .unset, .unset, .unset, .unset, .unset, .unset, .unset, .unset] [(.int (((p0.toUInt32 >>> ((8 : Int32) &&& 31).toUInt32).toInt32) &&& (255 : Int32)))])) (fun _ k => XS.iand X0.here hx rfl (hb hby at_33) rfl k) ?_
  refine own_goS (T' := s₁) (g' := (mkF m 35 #[.val (.int p0), .val (.int p1), .val (.int p2), .val (.int p3), .val (.int p4), .val (.int ((1 : Int32) + (p4 &&& (1 : Int32)))), .val (.int ((1 : Int32) + (((p4.toUInt32 >>> ((1 : Int32) &&& 31).toUInt32).toInt32) &&& (1 : Int32)))), .val (.int ((p0 &&& (255 : Int32)).toUInt32.toUInt16.toUInt32.toInt32)), .unset, .unset, .unset, .unset, .unset, .unset, .unset, .unset, .unset, .unset, .unset, .unset, .unset] [(.int ((((p0.toUInt32 >>> ((8 : Int32) &&& 31).toUInt32).toInt32) &&& (255 : Int32)).toUInt32.toUInt16.toUInt32.toInt32))])) (fun _ k => XT.i2c X0.here hx rfl (hb hby at_34) rfl k) ?_
  refine own_goS (T' := s₁) (g' := (mkF m 37 #[.val (.int p0), .val (.int p1), .val (.int p2), .val (.int p3), .val (.int p4), .val (.int ((1 : Int32) + (p4 &&& (1 : Int32)))), .val (.int ((1 : Int32) + (((p4.toUInt32 >>> ((1 : Int32) &&& 31).toUInt32).toInt32) &&& (1 : Int32)))), .val (.int ((p0 &&& (255 : Int32)).toUInt32.toUInt16.toUInt32.toInt32)), .val (.int ((((p0.toUInt32 >>> ((8 : Int32) &&& 31).toUInt32).toInt32) &&& (255 : Int32)).toUInt32.toUInt16.toUInt32.toInt32)), .unset, .unset, .unset, .unset, .unset, .unset, .unset, .unset, .unset, .unset, .unset, .unset] [])) (fun _ k => XS.istore X0.here hx rfl (hb hby at_35) rfl (l' := #[.val (.int p0), .val (.int p1), .val (.int p2), .val (.int p3), .val (.int p4), .val (.int ((1 : Int32) + (p4 &&& (1 : Int32)))), .val (.int ((1 : Int32) + (((p4.toUInt32 >>> ((1 : Int32) &&& 31).toUInt32).toInt32) &&& (1 : Int32)))), .val (.int ((p0 &&& (255 : Int32)).toUInt32.toUInt16.toUInt32.toInt32)), .val (.int ((((p0.toUInt32 >>> ((8 : Int32) &&& 31).toUInt32).toInt32) &&& (255 : Int32)).toUInt32.toUInt16.toUInt32.toInt32)), .unset, .unset, .unset, .unset, .unset, .unset, .unset, .unset, .unset, .unset, .unset, .unset]) rfl k) ?_
  refine own_goS (T' := s₁) (g' := (mkF m 39 #[.val (.int p0), .val (.int p1), .val (.int p2), .val (.int p3), .val (.int p4), .val (.int ((1 : Int32) + (p4 &&& (1 : Int32)))), .val (.int ((1 : Int32) + (((p4.toUInt32 >>> ((1 : Int32) &&& 31).toUInt32).toInt32) &&& (1 : Int32)))), .val (.int ((p0 &&& (255 : Int32)).toUInt32.toUInt16.toUInt32.toInt32)), .val (.int ((((p0.toUInt32 >>> ((8 : Int32) &&& 31).toUInt32).toInt32) &&& (255 : Int32)).toUInt32.toUInt16.toUInt32.toInt32)), .unset, .unset, .unset, .unset, .unset, .unset, .unset, .unset, .unset, .unset, .unset, .unset] [(.int p4)])) (fun _ k => XS.iload X0.here hx rfl (hb hby at_37) rfl k) ?_
  refine own_goS (T' := s₁) (g' := (mkF m 40 #[.val (.int p0), .val (.int p1), .val (.int p2), .val (.int p3), .val (.int p4), .val (.int ((1 : Int32) + (p4 &&& (1 : Int32)))), .val (.int ((1 : Int32) + (((p4.toUInt32 >>> ((1 : Int32) &&& 31).toUInt32).toInt32) &&& (1 : Int32)))), .val (.int ((p0 &&& (255 : Int32)).toUInt32.toUInt16.toUInt32.toInt32)), .val (.int ((((p0.toUInt32 >>> ((8 : Int32) &&& 31).toUInt32).toInt32) &&& (255 : Int32)).toUInt32.toUInt16.toUInt32.toInt32)), .unset, .unset, .unset, .unset, .unset, .unset, .unset, .unset, .unset, .unset, .unset, .unset] [(.int (2 : Int32)), (.int p4)])) (fun _ k => XS.iconst X0.here hx rfl (hb hby at_39) k) ?_
  refine own_goS (T' := s₁) (g' := (mkF m 41 #[.val (.int p0), .val (.int p1), .val (.int p2), .val (.int p3), .val (.int p4), .val (.int ((1 : Int32) + (p4 &&& (1 : Int32)))), .val (.int ((1 : Int32) + (((p4.toUInt32 >>> ((1 : Int32) &&& 31).toUInt32).toInt32) &&& (1 : Int32)))), .val (.int ((p0 &&& (255 : Int32)).toUInt32.toUInt16.toUInt32.toInt32)), .val (.int ((((p0.toUInt32 >>> ((8 : Int32) &&& 31).toUInt32).toInt32) &&& (255 : Int32)).toUInt32.toUInt16.toUInt32.toInt32)), .unset, .unset, .unset, .unset, .unset, .unset, .unset, .unset, .unset, .unset, .unset, .unset] [(.int ((p4.toUInt32 >>> ((2 : Int32) &&& 31).toUInt32).toInt32))])) (fun _ k => XS.iushr X0.here hx rfl (hb hby at_40) rfl k) ?_
  refine own_goS (T' := s₁) (g' := (mkF m 42 #[.val (.int p0), .val (.int p1), .val (.int p2), .val (.int p3), .val (.int p4), .val (.int ((1 : Int32) + (p4 &&& (1 : Int32)))), .val (.int ((1 : Int32) + (((p4.toUInt32 >>> ((1 : Int32) &&& 31).toUInt32).toInt32) &&& (1 : Int32)))), .val (.int ((p0 &&& (255 : Int32)).toUInt32.toUInt16.toUInt32.toInt32)), .val (.int ((((p0.toUInt32 >>> ((8 : Int32) &&& 31).toUInt32).toInt32) &&& (255 : Int32)).toUInt32.toUInt16.toUInt32.toInt32)), .unset, .unset, .unset, .unset, .unset, .unset, .unset, .unset, .unset, .unset, .unset, .unset] [(.int (1 : Int32)), (.int ((p4.toUInt32 >>> ((2 : Int32) &&& 31).toUInt32).toInt32))])) (fun _ k => XS.iconst X0.here hx rfl (hb hby at_41) k) ?_
  refine own_goS (T' := s₁) (g' := (mkF m 43 #[.val (.int p0), .val (.int p1), .val (.int p2), .val (.int p3), .val (.int p4), .val (.int ((1 : Int32) + (p4 &&& (1 : Int32)))), .val (.int ((1 : Int32) + (((p4.toUInt32 >>> ((1 : Int32) &&& 31).toUInt32).toInt32) &&& (1 : Int32)))), .val (.int ((p0 &&& (255 : Int32)).toUInt32.toUInt16.toUInt32.toInt32)), .val (.int ((((p0.toUInt32 >>> ((8 : Int32) &&& 31).toUInt32).toInt32) &&& (255 : Int32)).toUInt32.toUInt16.toUInt32.toInt32)), .unset, .unset, .unset, .unset, .unset, .unset, .unset, .unset, .unset, .unset, .unset, .unset] [(.int (((p4.toUInt32 >>> ((2 : Int32) &&& 31).toUInt32).toInt32) &&& (1 : Int32)))])) (fun _ k => XS.iand X0.here hx rfl (hb hby at_42) rfl k) ?_
  have J51_1 : ∀ (xS0_1 : Int32) (hxS0_1 : xS0_1 = (if (((p4.toUInt32 >>> ((2 : Int32) &&& 31).toUInt32).toInt32) &&& (1 : Int32)) = (0 : Int32) then (0 : Int32) else (1 : Int32))), own_WS p e below s (Q_rm0 Z p0 p1 p2 p3 p4 cs h0 n0) 32 1152 s₁ (mkF m 51 #[.val (.int p0), .val (.int p1), .val (.int p2), .val (.int p3), .val (.int p4), .val (.int ((1 : Int32) + (p4 &&& (1 : Int32)))), .val (.int ((1 : Int32) + (((p4.toUInt32 >>> ((1 : Int32) &&& 31).toUInt32).toInt32) &&& (1 : Int32)))), .val (.int ((p0 &&& (255 : Int32)).toUInt32.toUInt16.toUInt32.toInt32)), .val (.int ((((p0.toUInt32 >>> ((8 : Int32) &&& 31).toUInt32).toInt32) &&& (255 : Int32)).toUInt32.toUInt16.toUInt32.toInt32)), .unset, .unset, .unset, .unset, .unset, .unset, .unset, .unset, .unset, .unset, .unset, .unset] [(.int xS0_1)]) := by
    intro xS0_1 hxS0_1
    refine own_goS (T' := s₁) (g' := (mkF m 53 #[.val (.int p0), .val (.int p1), .val (.int p2), .val (.int p3), .val (.int p4), .val (.int ((1 : Int32) + (p4 &&& (1 : Int32)))), .val (.int ((1 : Int32) + (((p4.toUInt32 >>> ((1 : Int32) &&& 31).toUInt32).toInt32) &&& (1 : Int32)))), .val (.int ((p0 &&& (255 : Int32)).toUInt32.toUInt16.toUInt32.toInt32)), .val (.int ((((p0.toUInt32 >>> ((8 : Int32) &&& 31).toUInt32).toInt32) &&& (255 : Int32)).toUInt32.toUInt16.toUInt32.toInt32)), .val (.int xS0_1), .unset, .unset, .unset, .unset, .unset, .unset, .unset, .unset, .unset, .unset, .unset] [])) (fun _ k => XS.istore X0.here hx rfl (hb hby at_51) rfl (l' := #[.val (.int p0), .val (.int p1), .val (.int p2), .val (.int p3), .val (.int p4), .val (.int ((1 : Int32) + (p4 &&& (1 : Int32)))), .val (.int ((1 : Int32) + (((p4.toUInt32 >>> ((1 : Int32) &&& 31).toUInt32).toInt32) &&& (1 : Int32)))), .val (.int ((p0 &&& (255 : Int32)).toUInt32.toUInt16.toUInt32.toInt32)), .val (.int ((((p0.toUInt32 >>> ((8 : Int32) &&& 31).toUInt32).toInt32) &&& (255 : Int32)).toUInt32.toUInt16.toUInt32.toInt32)), .val (.int xS0_1), .unset, .unset, .unset, .unset, .unset, .unset, .unset, .unset, .unset, .unset, .unset]) rfl k) ?_
    refine own_goS (T' := s₁) (g' := (mkF m 55 #[.val (.int p0), .val (.int p1), .val (.int p2), .val (.int p3), .val (.int p4), .val (.int ((1 : Int32) + (p4 &&& (1 : Int32)))), .val (.int ((1 : Int32) + (((p4.toUInt32 >>> ((1 : Int32) &&& 31).toUInt32).toInt32) &&& (1 : Int32)))), .val (.int ((p0 &&& (255 : Int32)).toUInt32.toUInt16.toUInt32.toInt32)), .val (.int ((((p0.toUInt32 >>> ((8 : Int32) &&& 31).toUInt32).toInt32) &&& (255 : Int32)).toUInt32.toUInt16.toUInt32.toInt32)), .val (.int xS0_1), .unset, .unset, .unset, .unset, .unset, .unset, .unset, .unset, .unset, .unset, .unset] [(.int xS0_1)])) (fun _ k => XS.iload X0.here hx rfl (hb hby at_53) rfl k) ?_
    have J69_2 : ∀ (xS0_2 : Int32) (hxS0_2 : xS0_2 = (if xS0_1 = (0 : Int32) then ((p1 &&& (255 : Int32)).toUInt32.toUInt16.toUInt32.toInt32) else ((p0 &&& (255 : Int32)).toUInt32.toUInt16.toUInt32.toInt32))), own_WS p e below s (Q_rm0 Z p0 p1 p2 p3 p4 cs h0 n0) 32 1152 s₁ (mkF m 69 #[.val (.int p0), .val (.int p1), .val (.int p2), .val (.int p3), .val (.int p4), .val (.int ((1 : Int32) + (p4 &&& (1 : Int32)))), .val (.int ((1 : Int32) + (((p4.toUInt32 >>> ((1 : Int32) &&& 31).toUInt32).toInt32) &&& (1 : Int32)))), .val (.int ((p0 &&& (255 : Int32)).toUInt32.toUInt16.toUInt32.toInt32)), .val (.int ((((p0.toUInt32 >>> ((8 : Int32) &&& 31).toUInt32).toInt32) &&& (255 : Int32)).toUInt32.toUInt16.toUInt32.toInt32)), .val (.int xS0_1), .unset, .unset, .unset, .unset, .unset, .unset, .unset, .unset, .unset, .unset, .unset] [(.int xS0_2)]) := by
      intro xS0_2 hxS0_2
      refine own_goS (T' := s₁) (g' := (mkF m 71 #[.val (.int p0), .val (.int p1), .val (.int p2), .val (.int p3), .val (.int p4), .val (.int ((1 : Int32) + (p4 &&& (1 : Int32)))), .val (.int ((1 : Int32) + (((p4.toUInt32 >>> ((1 : Int32) &&& 31).toUInt32).toInt32) &&& (1 : Int32)))), .val (.int ((p0 &&& (255 : Int32)).toUInt32.toUInt16.toUInt32.toInt32)), .val (.int ((((p0.toUInt32 >>> ((8 : Int32) &&& 31).toUInt32).toInt32) &&& (255 : Int32)).toUInt32.toUInt16.toUInt32.toInt32)), .val (.int xS0_1), .val (.int xS0_2), .unset, .unset, .unset, .unset, .unset, .unset, .unset, .unset, .unset, .unset] [])) (fun _ k => XS.istore X0.here hx rfl (hb hby at_69) rfl (l' := #[.val (.int p0), .val (.int p1), .val (.int p2), .val (.int p3), .val (.int p4), .val (.int ((1 : Int32) + (p4 &&& (1 : Int32)))), .val (.int ((1 : Int32) + (((p4.toUInt32 >>> ((1 : Int32) &&& 31).toUInt32).toInt32) &&& (1 : Int32)))), .val (.int ((p0 &&& (255 : Int32)).toUInt32.toUInt16.toUInt32.toInt32)), .val (.int ((((p0.toUInt32 >>> ((8 : Int32) &&& 31).toUInt32).toInt32) &&& (255 : Int32)).toUInt32.toUInt16.toUInt32.toInt32)), .val (.int xS0_1), .val (.int xS0_2), .unset, .unset, .unset, .unset, .unset, .unset, .unset, .unset, .unset, .unset]) rfl k) ?_
      refine own_goS (T' := s₁) (g' := (mkF m 73 #[.val (.int p0), .val (.int p1), .val (.int p2), .val (.int p3), .val (.int p4), .val (.int ((1 : Int32) + (p4 &&& (1 : Int32)))), .val (.int ((1 : Int32) + (((p4.toUInt32 >>> ((1 : Int32) &&& 31).toUInt32).toInt32) &&& (1 : Int32)))), .val (.int ((p0 &&& (255 : Int32)).toUInt32.toUInt16.toUInt32.toInt32)), .val (.int ((((p0.toUInt32 >>> ((8 : Int32) &&& 31).toUInt32).toInt32) &&& (255 : Int32)).toUInt32.toUInt16.toUInt32.toInt32)), .val (.int xS0_1), .val (.int xS0_2), .unset, .unset, .unset, .unset, .unset, .unset, .unset, .unset, .unset, .unset] [(.int xS0_1)])) (fun _ k => XS.iload X0.here hx rfl (hb hby at_71) rfl k) ?_
      have J90_3 : ∀ (xS0_3 : Int32) (hxS0_3 : xS0_3 = (if xS0_1 = (0 : Int32) then ((((p1.toUInt32 >>> ((8 : Int32) &&& 31).toUInt32).toInt32) &&& (255 : Int32)).toUInt32.toUInt16.toUInt32.toInt32) else ((((p0.toUInt32 >>> ((8 : Int32) &&& 31).toUInt32).toInt32) &&& (255 : Int32)).toUInt32.toUInt16.toUInt32.toInt32))), own_WS p e below s (Q_rm0 Z p0 p1 p2 p3 p4 cs h0 n0) 32 1152 s₁ (mkF m 90 #[.val (.int p0), .val (.int p1), .val (.int p2), .val (.int p3), .val (.int p4), .val (.int ((1 : Int32) + (p4 &&& (1 : Int32)))), .val (.int ((1 : Int32) + (((p4.toUInt32 >>> ((1 : Int32) &&& 31).toUInt32).toInt32) &&& (1 : Int32)))), .val (.int ((p0 &&& (255 : Int32)).toUInt32.toUInt16.toUInt32.toInt32)), .val (.int ((((p0.toUInt32 >>> ((8 : Int32) &&& 31).toUInt32).toInt32) &&& (255 : Int32)).toUInt32.toUInt16.toUInt32.toInt32)), .val (.int xS0_1), .val (.int xS0_2), .unset, .unset, .unset, .unset, .unset, .unset, .unset, .unset, .unset, .unset] [(.int xS0_3)]) := by
        intro xS0_3 hxS0_3
        refine own_goS (T' := s₁) (g' := (mkF m 92 #[.val (.int p0), .val (.int p1), .val (.int p2), .val (.int p3), .val (.int p4), .val (.int ((1 : Int32) + (p4 &&& (1 : Int32)))), .val (.int ((1 : Int32) + (((p4.toUInt32 >>> ((1 : Int32) &&& 31).toUInt32).toInt32) &&& (1 : Int32)))), .val (.int ((p0 &&& (255 : Int32)).toUInt32.toUInt16.toUInt32.toInt32)), .val (.int ((((p0.toUInt32 >>> ((8 : Int32) &&& 31).toUInt32).toInt32) &&& (255 : Int32)).toUInt32.toUInt16.toUInt32.toInt32)), .val (.int xS0_1), .val (.int xS0_2), .val (.int xS0_3), .unset, .unset, .unset, .unset, .unset, .unset, .unset, .unset, .unset] [])) (fun _ k => XS.istore X0.here hx rfl (hb hby at_90) rfl (l' := #[.val (.int p0), .val (.int p1), .val (.int p2), .val (.int p3), .val (.int p4), .val (.int ((1 : Int32) + (p4 &&& (1 : Int32)))), .val (.int ((1 : Int32) + (((p4.toUInt32 >>> ((1 : Int32) &&& 31).toUInt32).toInt32) &&& (1 : Int32)))), .val (.int ((p0 &&& (255 : Int32)).toUInt32.toUInt16.toUInt32.toInt32)), .val (.int ((((p0.toUInt32 >>> ((8 : Int32) &&& 31).toUInt32).toInt32) &&& (255 : Int32)).toUInt32.toUInt16.toUInt32.toInt32)), .val (.int xS0_1), .val (.int xS0_2), .val (.int xS0_3), .unset, .unset, .unset, .unset, .unset, .unset, .unset, .unset, .unset]) rfl k) ?_
        refine own_goS (T' := s₁) (g' := (mkF m 93 #[.val (.int p0), .val (.int p1), .val (.int p2), .val (.int p3), .val (.int p4), .val (.int ((1 : Int32) + (p4 &&& (1 : Int32)))), .val (.int ((1 : Int32) + (((p4.toUInt32 >>> ((1 : Int32) &&& 31).toUInt32).toInt32) &&& (1 : Int32)))), .val (.int ((p0 &&& (255 : Int32)).toUInt32.toUInt16.toUInt32.toInt32)), .val (.int ((((p0.toUInt32 >>> ((8 : Int32) &&& 31).toUInt32).toInt32) &&& (255 : Int32)).toUInt32.toUInt16.toUInt32.toInt32)), .val (.int xS0_1), .val (.int xS0_2), .val (.int xS0_3), .unset, .unset, .unset, .unset, .unset, .unset, .unset, .unset, .unset] [(.int p2)])) (fun _ k => XS.iloadN X0.here hx rfl (hb hby at_92) rfl k) ?_
        refine own_goS (T' := s₁) (g' := (mkF m 95 #[.val (.int p0), .val (.int p1), .val (.int p2), .val (.int p3), .val (.int p4), .val (.int ((1 : Int32) + (p4 &&& (1 : Int32)))), .val (.int ((1 : Int32) + (((p4.toUInt32 >>> ((1 : Int32) &&& 31).toUInt32).toInt32) &&& (1 : Int32)))), .val (.int ((p0 &&& (255 : Int32)).toUInt32.toUInt16.toUInt32.toInt32)), .val (.int ((((p0.toUInt32 >>> ((8 : Int32) &&& 31).toUInt32).toInt32) &&& (255 : Int32)).toUInt32.toUInt16.toUInt32.toInt32)), .val (.int xS0_1), .val (.int xS0_2), .val (.int xS0_3), .unset, .unset, .unset, .unset, .unset, .unset, .unset, .unset, .unset] [(.int (2147483647 : Int32)), (.int p2)])) (fun _ k => X0.ldcInt hx hown (mvT hZ (hw _ (List.mem_of_getElem? (i := 0) rfl))) (g := (mkF m 93 #[.val (.int p0), .val (.int p1), .val (.int p2), .val (.int p3), .val (.int p4), .val (.int ((1 : Int32) + (p4 &&& (1 : Int32)))), .val (.int ((1 : Int32) + (((p4.toUInt32 >>> ((1 : Int32) &&& 31).toUInt32).toInt32) &&& (1 : Int32)))), .val (.int ((p0 &&& (255 : Int32)).toUInt32.toUInt16.toUInt32.toInt32)), .val (.int ((((p0.toUInt32 >>> ((8 : Int32) &&& 31).toUInt32).toInt32) &&& (255 : Int32)).toUInt32.toUInt16.toUInt32.toInt32)), .val (.int xS0_1), .val (.int xS0_2), .val (.int xS0_3), .unset, .unset, .unset, .unset, .unset, .unset, .unset, .unset, .unset] [(.int p2)])) rfl (hb hby at_93) _ k) ?_
        refine own_goS (T' := s₁) (g' := (mkF m 96 #[.val (.int p0), .val (.int p1), .val (.int p2), .val (.int p3), .val (.int p4), .val (.int ((1 : Int32) + (p4 &&& (1 : Int32)))), .val (.int ((1 : Int32) + (((p4.toUInt32 >>> ((1 : Int32) &&& 31).toUInt32).toInt32) &&& (1 : Int32)))), .val (.int ((p0 &&& (255 : Int32)).toUInt32.toUInt16.toUInt32.toInt32)), .val (.int ((((p0.toUInt32 >>> ((8 : Int32) &&& 31).toUInt32).toInt32) &&& (255 : Int32)).toUInt32.toUInt16.toUInt32.toInt32)), .val (.int xS0_1), .val (.int xS0_2), .val (.int xS0_3), .unset, .unset, .unset, .unset, .unset, .unset, .unset, .unset, .unset] [(.int (p2 &&& (2147483647 : Int32)))])) (fun _ k => XS.iand X0.here hx rfl (hb hby at_95) rfl k) ?_
        refine own_goS (T' := s₁) (g' := (mkF m 98 #[.val (.int p0), .val (.int p1), .val (.int p2), .val (.int p3), .val (.int p4), .val (.int ((1 : Int32) + (p4 &&& (1 : Int32)))), .val (.int ((1 : Int32) + (((p4.toUInt32 >>> ((1 : Int32) &&& 31).toUInt32).toInt32) &&& (1 : Int32)))), .val (.int ((p0 &&& (255 : Int32)).toUInt32.toUInt16.toUInt32.toInt32)), .val (.int ((((p0.toUInt32 >>> ((8 : Int32) &&& 31).toUInt32).toInt32) &&& (255 : Int32)).toUInt32.toUInt16.toUInt32.toInt32)), .val (.int xS0_1), .val (.int xS0_2), .val (.int xS0_3), .val (.int (p2 &&& (2147483647 : Int32))), .unset, .unset, .unset, .unset, .unset, .unset, .unset, .unset] [])) (fun _ k => XS.istore X0.here hx rfl (hb hby at_96) rfl (l' := #[.val (.int p0), .val (.int p1), .val (.int p2), .val (.int p3), .val (.int p4), .val (.int ((1 : Int32) + (p4 &&& (1 : Int32)))), .val (.int ((1 : Int32) + (((p4.toUInt32 >>> ((1 : Int32) &&& 31).toUInt32).toInt32) &&& (1 : Int32)))), .val (.int ((p0 &&& (255 : Int32)).toUInt32.toUInt16.toUInt32.toInt32)), .val (.int ((((p0.toUInt32 >>> ((8 : Int32) &&& 31).toUInt32).toInt32) &&& (255 : Int32)).toUInt32.toUInt16.toUInt32.toInt32)), .val (.int xS0_1), .val (.int xS0_2), .val (.int xS0_3), .val (.int (p2 &&& (2147483647 : Int32))), .unset, .unset, .unset, .unset, .unset, .unset, .unset, .unset]) rfl k) ?_
        refine own_goS (T' := s₁) (g' := (mkF m 100 #[.val (.int p0), .val (.int p1), .val (.int p2), .val (.int p3), .val (.int p4), .val (.int ((1 : Int32) + (p4 &&& (1 : Int32)))), .val (.int ((1 : Int32) + (((p4.toUInt32 >>> ((1 : Int32) &&& 31).toUInt32).toInt32) &&& (1 : Int32)))), .val (.int ((p0 &&& (255 : Int32)).toUInt32.toUInt16.toUInt32.toInt32)), .val (.int ((((p0.toUInt32 >>> ((8 : Int32) &&& 31).toUInt32).toInt32) &&& (255 : Int32)).toUInt32.toUInt16.toUInt32.toInt32)), .val (.int xS0_1), .val (.int xS0_2), .val (.int xS0_3), .val (.int (p2 &&& (2147483647 : Int32))), .unset, .unset, .unset, .unset, .unset, .unset, .unset, .unset] [(.int p4)])) (fun _ k => XS.iload X0.here hx rfl (hb hby at_98) rfl k) ?_
        refine own_goS (T' := s₁) (g' := (mkF m 101 #[.val (.int p0), .val (.int p1), .val (.int p2), .val (.int p3), .val (.int p4), .val (.int ((1 : Int32) + (p4 &&& (1 : Int32)))), .val (.int ((1 : Int32) + (((p4.toUInt32 >>> ((1 : Int32) &&& 31).toUInt32).toInt32) &&& (1 : Int32)))), .val (.int ((p0 &&& (255 : Int32)).toUInt32.toUInt16.toUInt32.toInt32)), .val (.int ((((p0.toUInt32 >>> ((8 : Int32) &&& 31).toUInt32).toInt32) &&& (255 : Int32)).toUInt32.toUInt16.toUInt32.toInt32)), .val (.int xS0_1), .val (.int xS0_2), .val (.int xS0_3), .val (.int (p2 &&& (2147483647 : Int32))), .unset, .unset, .unset, .unset, .unset, .unset, .unset, .unset] [(.int (3 : Int32)), (.int p4)])) (fun _ k => XS.iconst X0.here hx rfl (hb hby at_100) k) ?_
        refine own_goS (T' := s₁) (g' := (mkF m 102 #[.val (.int p0), .val (.int p1), .val (.int p2), .val (.int p3), .val (.int p4), .val (.int ((1 : Int32) + (p4 &&& (1 : Int32)))), .val (.int ((1 : Int32) + (((p4.toUInt32 >>> ((1 : Int32) &&& 31).toUInt32).toInt32) &&& (1 : Int32)))), .val (.int ((p0 &&& (255 : Int32)).toUInt32.toUInt16.toUInt32.toInt32)), .val (.int ((((p0.toUInt32 >>> ((8 : Int32) &&& 31).toUInt32).toInt32) &&& (255 : Int32)).toUInt32.toUInt16.toUInt32.toInt32)), .val (.int xS0_1), .val (.int xS0_2), .val (.int xS0_3), .val (.int (p2 &&& (2147483647 : Int32))), .unset, .unset, .unset, .unset, .unset, .unset, .unset, .unset] [(.int ((p4.toUInt32 >>> ((3 : Int32) &&& 31).toUInt32).toInt32))])) (fun _ k => XS.iushr X0.here hx rfl (hb hby at_101) rfl k) ?_
        refine own_goS (T' := s₁) (g' := (mkF m 103 #[.val (.int p0), .val (.int p1), .val (.int p2), .val (.int p3), .val (.int p4), .val (.int ((1 : Int32) + (p4 &&& (1 : Int32)))), .val (.int ((1 : Int32) + (((p4.toUInt32 >>> ((1 : Int32) &&& 31).toUInt32).toInt32) &&& (1 : Int32)))), .val (.int ((p0 &&& (255 : Int32)).toUInt32.toUInt16.toUInt32.toInt32)), .val (.int ((((p0.toUInt32 >>> ((8 : Int32) &&& 31).toUInt32).toInt32) &&& (255 : Int32)).toUInt32.toUInt16.toUInt32.toInt32)), .val (.int xS0_1), .val (.int xS0_2), .val (.int xS0_3), .val (.int (p2 &&& (2147483647 : Int32))), .unset, .unset, .unset, .unset, .unset, .unset, .unset, .unset] [(.int (1 : Int32)), (.int ((p4.toUInt32 >>> ((3 : Int32) &&& 31).toUInt32).toInt32))])) (fun _ k => XS.iconst X0.here hx rfl (hb hby at_102) k) ?_
        refine own_goS (T' := s₁) (g' := (mkF m 104 #[.val (.int p0), .val (.int p1), .val (.int p2), .val (.int p3), .val (.int p4), .val (.int ((1 : Int32) + (p4 &&& (1 : Int32)))), .val (.int ((1 : Int32) + (((p4.toUInt32 >>> ((1 : Int32) &&& 31).toUInt32).toInt32) &&& (1 : Int32)))), .val (.int ((p0 &&& (255 : Int32)).toUInt32.toUInt16.toUInt32.toInt32)), .val (.int ((((p0.toUInt32 >>> ((8 : Int32) &&& 31).toUInt32).toInt32) &&& (255 : Int32)).toUInt32.toUInt16.toUInt32.toInt32)), .val (.int xS0_1), .val (.int xS0_2), .val (.int xS0_3), .val (.int (p2 &&& (2147483647 : Int32))), .unset, .unset, .unset, .unset, .unset, .unset, .unset, .unset] [(.int (((p4.toUInt32 >>> ((3 : Int32) &&& 31).toUInt32).toInt32) &&& (1 : Int32)))])) (fun _ k => XS.iand X0.here hx rfl (hb hby at_103) rfl k) ?_
        have J116_4 : ∀ (xS0_4 : Int32) (hxS0_4 : xS0_4 = (if (((p4.toUInt32 >>> ((3 : Int32) &&& 31).toUInt32).toInt32) &&& (1 : Int32)) = (0 : Int32) then (p3 &&& (2147483647 : Int32)) else (p2 &&& (2147483647 : Int32)))), own_WS p e below s (Q_rm0 Z p0 p1 p2 p3 p4 cs h0 n0) 32 1152 s₁ (mkF m 116 #[.val (.int p0), .val (.int p1), .val (.int p2), .val (.int p3), .val (.int p4), .val (.int ((1 : Int32) + (p4 &&& (1 : Int32)))), .val (.int ((1 : Int32) + (((p4.toUInt32 >>> ((1 : Int32) &&& 31).toUInt32).toInt32) &&& (1 : Int32)))), .val (.int ((p0 &&& (255 : Int32)).toUInt32.toUInt16.toUInt32.toInt32)), .val (.int ((((p0.toUInt32 >>> ((8 : Int32) &&& 31).toUInt32).toInt32) &&& (255 : Int32)).toUInt32.toUInt16.toUInt32.toInt32)), .val (.int xS0_1), .val (.int xS0_2), .val (.int xS0_3), .val (.int (p2 &&& (2147483647 : Int32))), .unset, .unset, .unset, .unset, .unset, .unset, .unset, .unset] [(.int xS0_4)]) := by
          intro xS0_4 hxS0_4
          refine own_goS (T' := s₁) (g' := (mkF m 118 #[.val (.int p0), .val (.int p1), .val (.int p2), .val (.int p3), .val (.int p4), .val (.int ((1 : Int32) + (p4 &&& (1 : Int32)))), .val (.int ((1 : Int32) + (((p4.toUInt32 >>> ((1 : Int32) &&& 31).toUInt32).toInt32) &&& (1 : Int32)))), .val (.int ((p0 &&& (255 : Int32)).toUInt32.toUInt16.toUInt32.toInt32)), .val (.int ((((p0.toUInt32 >>> ((8 : Int32) &&& 31).toUInt32).toInt32) &&& (255 : Int32)).toUInt32.toUInt16.toUInt32.toInt32)), .val (.int xS0_1), .val (.int xS0_2), .val (.int xS0_3), .val (.int (p2 &&& (2147483647 : Int32))), .val (.int xS0_4), .unset, .unset, .unset, .unset, .unset, .unset, .unset] [])) (fun _ k => XS.istore X0.here hx rfl (hb hby at_116) rfl (l' := #[.val (.int p0), .val (.int p1), .val (.int p2), .val (.int p3), .val (.int p4), .val (.int ((1 : Int32) + (p4 &&& (1 : Int32)))), .val (.int ((1 : Int32) + (((p4.toUInt32 >>> ((1 : Int32) &&& 31).toUInt32).toInt32) &&& (1 : Int32)))), .val (.int ((p0 &&& (255 : Int32)).toUInt32.toUInt16.toUInt32.toInt32)), .val (.int ((((p0.toUInt32 >>> ((8 : Int32) &&& 31).toUInt32).toInt32) &&& (255 : Int32)).toUInt32.toUInt16.toUInt32.toInt32)), .val (.int xS0_1), .val (.int xS0_2), .val (.int xS0_3), .val (.int (p2 &&& (2147483647 : Int32))), .val (.int xS0_4), .unset, .unset, .unset, .unset, .unset, .unset, .unset]) rfl k) ?_
          refine own_goS (T' := s₁) (g' := (mkF m 120 #[.val (.int p0), .val (.int p1), .val (.int p2), .val (.int p3), .val (.int p4), .val (.int ((1 : Int32) + (p4 &&& (1 : Int32)))), .val (.int ((1 : Int32) + (((p4.toUInt32 >>> ((1 : Int32) &&& 31).toUInt32).toInt32) &&& (1 : Int32)))), .val (.int ((p0 &&& (255 : Int32)).toUInt32.toUInt16.toUInt32.toInt32)), .val (.int ((((p0.toUInt32 >>> ((8 : Int32) &&& 31).toUInt32).toInt32) &&& (255 : Int32)).toUInt32.toUInt16.toUInt32.toInt32)), .val (.int xS0_1), .val (.int xS0_2), .val (.int xS0_3), .val (.int (p2 &&& (2147483647 : Int32))), .val (.int xS0_4), .unset, .unset, .unset, .unset, .unset, .unset, .unset] [(.int p4)])) (fun _ k => XS.iload X0.here hx rfl (hb hby at_118) rfl k) ?_
          refine own_goS (T' := s₁) (g' := (mkF m 121 #[.val (.int p0), .val (.int p1), .val (.int p2), .val (.int p3), .val (.int p4), .val (.int ((1 : Int32) + (p4 &&& (1 : Int32)))), .val (.int ((1 : Int32) + (((p4.toUInt32 >>> ((1 : Int32) &&& 31).toUInt32).toInt32) &&& (1 : Int32)))), .val (.int ((p0 &&& (255 : Int32)).toUInt32.toUInt16.toUInt32.toInt32)), .val (.int ((((p0.toUInt32 >>> ((8 : Int32) &&& 31).toUInt32).toInt32) &&& (255 : Int32)).toUInt32.toUInt16.toUInt32.toInt32)), .val (.int xS0_1), .val (.int xS0_2), .val (.int xS0_3), .val (.int (p2 &&& (2147483647 : Int32))), .val (.int xS0_4), .unset, .unset, .unset, .unset, .unset, .unset, .unset] [(.int (4 : Int32)), (.int p4)])) (fun _ k => XS.iconst X0.here hx rfl (hb hby at_120) k) ?_
          refine own_goS (T' := s₁) (g' := (mkF m 122 #[.val (.int p0), .val (.int p1), .val (.int p2), .val (.int p3), .val (.int p4), .val (.int ((1 : Int32) + (p4 &&& (1 : Int32)))), .val (.int ((1 : Int32) + (((p4.toUInt32 >>> ((1 : Int32) &&& 31).toUInt32).toInt32) &&& (1 : Int32)))), .val (.int ((p0 &&& (255 : Int32)).toUInt32.toUInt16.toUInt32.toInt32)), .val (.int ((((p0.toUInt32 >>> ((8 : Int32) &&& 31).toUInt32).toInt32) &&& (255 : Int32)).toUInt32.toUInt16.toUInt32.toInt32)), .val (.int xS0_1), .val (.int xS0_2), .val (.int xS0_3), .val (.int (p2 &&& (2147483647 : Int32))), .val (.int xS0_4), .unset, .unset, .unset, .unset, .unset, .unset, .unset] [(.int ((p4.toUInt32 >>> ((4 : Int32) &&& 31).toUInt32).toInt32))])) (fun _ k => XS.iushr X0.here hx rfl (hb hby at_121) rfl k) ?_
          refine own_goS (T' := s₁) (g' := (mkF m 123 #[.val (.int p0), .val (.int p1), .val (.int p2), .val (.int p3), .val (.int p4), .val (.int ((1 : Int32) + (p4 &&& (1 : Int32)))), .val (.int ((1 : Int32) + (((p4.toUInt32 >>> ((1 : Int32) &&& 31).toUInt32).toInt32) &&& (1 : Int32)))), .val (.int ((p0 &&& (255 : Int32)).toUInt32.toUInt16.toUInt32.toInt32)), .val (.int ((((p0.toUInt32 >>> ((8 : Int32) &&& 31).toUInt32).toInt32) &&& (255 : Int32)).toUInt32.toUInt16.toUInt32.toInt32)), .val (.int xS0_1), .val (.int xS0_2), .val (.int xS0_3), .val (.int (p2 &&& (2147483647 : Int32))), .val (.int xS0_4), .unset, .unset, .unset, .unset, .unset, .unset, .unset] [(.int (3 : Int32)), (.int ((p4.toUInt32 >>> ((4 : Int32) &&& 31).toUInt32).toInt32))])) (fun _ k => XS.iconst X0.here hx rfl (hb hby at_122) k) ?_
          refine own_goS (T' := s₁) (g' := (mkF m 124 #[.val (.int p0), .val (.int p1), .val (.int p2), .val (.int p3), .val (.int p4), .val (.int ((1 : Int32) + (p4 &&& (1 : Int32)))), .val (.int ((1 : Int32) + (((p4.toUInt32 >>> ((1 : Int32) &&& 31).toUInt32).toInt32) &&& (1 : Int32)))), .val (.int ((p0 &&& (255 : Int32)).toUInt32.toUInt16.toUInt32.toInt32)), .val (.int ((((p0.toUInt32 >>> ((8 : Int32) &&& 31).toUInt32).toInt32) &&& (255 : Int32)).toUInt32.toUInt16.toUInt32.toInt32)), .val (.int xS0_1), .val (.int xS0_2), .val (.int xS0_3), .val (.int (p2 &&& (2147483647 : Int32))), .val (.int xS0_4), .unset, .unset, .unset, .unset, .unset, .unset, .unset] [(.int (((p4.toUInt32 >>> ((4 : Int32) &&& 31).toUInt32).toInt32) &&& (3 : Int32)))])) (fun _ k => XS.iand X0.here hx rfl (hb hby at_123) rfl k) ?_
          refine own_goS (T' := s₁) (g' := (mkF m 126 #[.val (.int p0), .val (.int p1), .val (.int p2), .val (.int p3), .val (.int p4), .val (.int ((1 : Int32) + (p4 &&& (1 : Int32)))), .val (.int ((1 : Int32) + (((p4.toUInt32 >>> ((1 : Int32) &&& 31).toUInt32).toInt32) &&& (1 : Int32)))), .val (.int ((p0 &&& (255 : Int32)).toUInt32.toUInt16.toUInt32.toInt32)), .val (.int ((((p0.toUInt32 >>> ((8 : Int32) &&& 31).toUInt32).toInt32) &&& (255 : Int32)).toUInt32.toUInt16.toUInt32.toInt32)), .val (.int xS0_1), .val (.int xS0_2), .val (.int xS0_3), .val (.int (p2 &&& (2147483647 : Int32))), .val (.int xS0_4), .val (.int (((p4.toUInt32 >>> ((4 : Int32) &&& 31).toUInt32).toInt32) &&& (3 : Int32))), .unset, .unset, .unset, .unset, .unset, .unset] [])) (fun _ k => XS.istore X0.here hx rfl (hb hby at_124) rfl (l' := #[.val (.int p0), .val (.int p1), .val (.int p2), .val (.int p3), .val (.int p4), .val (.int ((1 : Int32) + (p4 &&& (1 : Int32)))), .val (.int ((1 : Int32) + (((p4.toUInt32 >>> ((1 : Int32) &&& 31).toUInt32).toInt32) &&& (1 : Int32)))), .val (.int ((p0 &&& (255 : Int32)).toUInt32.toUInt16.toUInt32.toInt32)), .val (.int ((((p0.toUInt32 >>> ((8 : Int32) &&& 31).toUInt32).toInt32) &&& (255 : Int32)).toUInt32.toUInt16.toUInt32.toInt32)), .val (.int xS0_1), .val (.int xS0_2), .val (.int xS0_3), .val (.int (p2 &&& (2147483647 : Int32))), .val (.int xS0_4), .val (.int (((p4.toUInt32 >>> ((4 : Int32) &&& 31).toUInt32).toInt32) &&& (3 : Int32))), .unset, .unset, .unset, .unset, .unset, .unset]) rfl k) ?_
          have G126_5 : ∀ (y5 : Int32) (hy5 : y5 = ((1 : Int32) + (p4 &&& (1 : Int32)))) (y6 : Int32) (hy6 : y6 = ((1 : Int32) + (((p4.toUInt32 >>> ((1 : Int32) &&& 31).toUInt32).toInt32) &&& (1 : Int32)))) (y7 : Int32) (hy7 : y7 = ((p0 &&& (255 : Int32)).toUInt32.toUInt16.toUInt32.toInt32)) (y8 : Int32) (hy8 : y8 = ((((p0.toUInt32 >>> ((8 : Int32) &&& 31).toUInt32).toInt32) &&& (255 : Int32)).toUInt32.toUInt16.toUInt32.toInt32)) (y10 : Int32) (hy10 : y10 = xS0_2) (y11 : Int32) (hy11 : y11 = xS0_3) (y12 : Int32) (hy12 : y12 = (p2 &&& (2147483647 : Int32))) (y13 : Int32) (hy13 : y13 = xS0_4) (y14 : Int32), own_WS p e below s (Q_rm0 Z p0 p1 p2 p3 p4 cs h0 n0) 32 1152 s₁ (mkF m 126 #[.val (.int p0), .val (.int p1), .val (.int p2), .val (.int p3), .val (.int p4), .val (.int y5), .val (.int y6), .val (.int y7), .val (.int y8), .val (.int xS0_1), .val (.int y10), .val (.int y11), .val (.int y12), .val (.int y13), .val (.int y14), .unset, .unset, .unset, .unset, .unset, .unset] []) := by
            intro y5 hy5 y6 hy6 y7 hy7 y8 hy8 y10 hy10 y11 hy11 y12 hy12 y13 hy13 y14
            have hC7 : own_C y7 := by rw [hy7]; exact own_C0 _
            have hC8 : own_C y8 := by rw [hy8]; exact own_C0 _
            have hC10 : own_C y10 := by rw [hy10]; exact own_Ci (own_C0 _) (own_C0 _) hxS0_2
            have hC11 : own_C y11 := by rw [hy11]; exact own_Ci (own_C0 _) (own_C0 _) hxS0_3
            have hW12 : ¬ y12 < (0 : Int32) := by rw [hy12]; exact own_w0 _
            have hW13 : ¬ y13 < (0 : Int32) := by rw [hy13]; exact own_Wi (own_w0 _) (own_w0 _) hxS0_4
            have h12_5 : y5 = (1 : Int32) ∨ y5 = (2 : Int32) := by rw [hy5]; exact own_12 _
            have h12_6 : y6 = (1 : Int32) ∨ y6 = (2 : Int32) := by rw [hy6]; exact own_12 _
            refine own_goS (T' := s₁) (g' := (mkF m 128 #[.val (.int p0), .val (.int p1), .val (.int p2), .val (.int p3), .val (.int p4), .val (.int y5), .val (.int y6), .val (.int y7), .val (.int y8), .val (.int xS0_1), .val (.int y10), .val (.int y11), .val (.int y12), .val (.int y13), .val (.int y14), .unset, .unset, .unset, .unset, .unset, .unset] [(.int y5)])) (fun _ k => XS.iload X0.here hx rfl (hb hby at_126) rfl k) ?_
            refine own_goS (T' := s₁) (g' := (mkF m 129 #[.val (.int p0), .val (.int p1), .val (.int p2), .val (.int p3), .val (.int p4), .val (.int y5), .val (.int y6), .val (.int y7), .val (.int y8), .val (.int xS0_1), .val (.int y10), .val (.int y11), .val (.int y12), .val (.int y13), .val (.int y14), .unset, .unset, .unset, .unset, .unset, .unset] [(.int (1 : Int32)), (.int y5)])) (fun _ k => XS.iconst X0.here hx rfl (hb hby at_128) k) ?_
            by_cases hc129_6 : y5 = (1 : Int32)
            · skip
              refine own_goS (T' := s₁) (g' := (mkF m 132 #[.val (.int p0), .val (.int p1), .val (.int p2), .val (.int p3), .val (.int p4), .val (.int y5), .val (.int y6), .val (.int y7), .val (.int y8), .val (.int xS0_1), .val (.int y10), .val (.int y11), .val (.int y12), .val (.int y13), .val (.int y14), .unset, .unset, .unset, .unset, .unset, .unset] [])) (fun _ k => XS.icmpNo X0.here hx rfl (hb hby at_129) rfl (XT.ii_ne_f hc129_6) k) ?_
              refine own_goS (T' := s₁) (g' := (mkF m 132 #[.val (.int p0), .val (.int p1), .val (.int p2), .val (.int p3), .val (.int p4), .val (.int (1 : Int32)), .val (.int y6), .val (.int y7), .val (.int y8), .val (.int xS0_1), .val (.int y10), .val (.int y11), .val (.int y12), .val (.int y13), .val (.int y14), .unset, .unset, .unset, .unset, .unset, .unset] [])) (fun _ k => castTop (by rw [hc129_6]) k) ?_
              obtain ⟨T7, h7, X7, e7, E7, A7, D7, -, st7⟩ := newO X0 hx hZ hown (hw _ (List.mem_of_getElem? (i := 1) rfl)) (hw _ (List.mem_of_getElem? (i := 2) rfl)) (hw _ (List.mem_of_getElem? (i := 3) rfl)) e0 (g := (mkF m 132 #[.val (.int p0), .val (.int p1), .val (.int p2), .val (.int p3), .val (.int p4), .val (.int (1 : Int32)), .val (.int y6), .val (.int y7), .val (.int y8), .val (.int xS0_1), .val (.int y10), .val (.int y11), .val (.int y12), .val (.int y13), .val (.int y14), .unset, .unset, .unset, .unset, .unset, .unset] [])) rfl (hb hby at_132) (by decide) (by decide)
              obtain ⟨b7, g7⟩ : ∃ z, z = h0.size := ⟨_, rfl⟩
              rw [← g7] at A7 D7 st7
              have f8 : Sta Z h7 "java/lang/String" "COMPACT_STRINGS" "Z" (.int cs) := (hp0.ext E7)
              have fn9 : Fld Z h7 b7 "java/lang/String" "coder" "B" (.int (0 : Int32)) := D7 (Or.inr (hw _ (List.mem_of_getElem? (i := 28) rfl))) (ty := .byte) (by decide)
              have fn10 : Fld Z h7 b7 "java/lang/String" "value" "[B" .null := D7 (Or.inr (hw _ (List.mem_of_getElem? (i := 30) rfl))) (ty := (.array .byte)) (by decide)
              have ge7 : n0 ≤ b7 := Nat.le_trans Z0 (Nat.le_of_eq g7.symm)
              have zs7 : n0 ≤ h7.size := Nat.le_trans Z0 E7.1
              have hk11 := Nat.le_trans hk0 (E7.1)
              refine own_goS (T' := T7) (g' := (mkF m 135 #[.val (.int p0), .val (.int p1), .val (.int p2), .val (.int p3), .val (.int p4), .val (.int (1 : Int32)), .val (.int y6), .val (.int y7), .val (.int y8), .val (.int xS0_1), .val (.int y10), .val (.int y11), .val (.int y12), .val (.int y13), .val (.int y14), .unset, .unset, .unset, .unset, .unset, .unset] [(.ref b7)])) (fun _ k => st7 _ k) ?_
              refine own_goS (T' := T7) (g' := (mkF m 136 #[.val (.int p0), .val (.int p1), .val (.int p2), .val (.int p3), .val (.int p4), .val (.int (1 : Int32)), .val (.int y6), .val (.int y7), .val (.int y8), .val (.int xS0_1), .val (.int y10), .val (.int y11), .val (.int y12), .val (.int y13), .val (.int y14), .unset, .unset, .unset, .unset, .unset, .unset] [(.ref b7), (.ref b7)])) (fun _ k => XS.dup X7.here hx rfl (hb hby at_135) rfl rfl k) ?_
              refine own_goS (T' := T7) (g' := (mkF m 137 #[.val (.int p0), .val (.int p1), .val (.int p2), .val (.int p3), .val (.int p4), .val (.int (1 : Int32)), .val (.int y6), .val (.int y7), .val (.int y8), .val (.int xS0_1), .val (.int y10), .val (.int y11), .val (.int y12), .val (.int y13), .val (.int y14), .unset, .unset, .unset, .unset, .unset, .unset] [(.int (1 : Int32)), (.ref b7), (.ref b7)])) (fun _ k => XS.iconst X7.here hx rfl (hb hby at_136) k) ?_
              obtain ⟨T12, h12, k12, X12, e12, E12, A12, st12⟩ := newP X7 hx hZ (hw _ (List.mem_of_getElem? (i := 4) rfl)) e7 (g := (mkF m 137 #[.val (.int p0), .val (.int p1), .val (.int p2), .val (.int p3), .val (.int p4), .val (.int (1 : Int32)), .val (.int y6), .val (.int y7), .val (.int y8), .val (.int xS0_1), .val (.int y10), .val (.int y11), .val (.int y12), .val (.int y13), .val (.int y14), .unset, .unset, .unset, .unset, .unset, .unset] [(.int (1 : Int32)), (.ref b7), (.ref b7)])) rfl (hb hby at_137) rfl (by decide) (cap := 1) (by decide) (by decide) (by decide) (by decide)
              obtain ⟨b12, g12⟩ : ∃ z, z = h7.size := ⟨_, rfl⟩
              have ne13 : b7 ≠ b12 := Nat.ne_of_lt (Nat.lt_of_lt_of_le A7.lt (Nat.le_of_eq g12.symm))
              rw [← g12] at A12 st12
              have f14 : Sta Z h12 "java/lang/String" "COMPACT_STRINGS" "Z" (.int cs) := (f8.ext E12)
              have f15 : Exa Z h12 b7 "java/lang/String" := (A7.ext E12)
              have f16 : Fld Z h12 b7 "java/lang/String" "coder" "B" (.int (0 : Int32)) := (fn9.ext E12)
              have f17 : Fld Z h12 b7 "java/lang/String" "value" "[B" .null := (fn10.ext E12)
              have V12 : Arv Z h12 b12 k12 .char (1 : Int32) [(.int (0 : Int32))] (.int (0 : Int32)) := (Arv.new A12 (by decide)).pad (pad_rep [] (.int (0 : Int32)) 1)
              have ge12 : n0 ≤ b12 := Nat.le_trans zs7 (Nat.le_of_eq g12.symm)
              have zs12 : n0 ≤ h12.size := Nat.le_trans zs7 E12.1
              have hk18 := Nat.le_trans hk11 (E12.1)
              refine own_goS (T' := T12) (g' := (mkF m 139 #[.val (.int p0), .val (.int p1), .val (.int p2), .val (.int p3), .val (.int p4), .val (.int (1 : Int32)), .val (.int y6), .val (.int y7), .val (.int y8), .val (.int xS0_1), .val (.int y10), .val (.int y11), .val (.int y12), .val (.int y13), .val (.int y14), .unset, .unset, .unset, .unset, .unset, .unset] [(.ref b12), (.ref b7), (.ref b7)])) (fun _ k => st12 _ k) ?_
              refine own_goS (T' := T12) (g' := (mkF m 140 #[.val (.int p0), .val (.int p1), .val (.int p2), .val (.int p3), .val (.int p4), .val (.int (1 : Int32)), .val (.int y6), .val (.int y7), .val (.int y8), .val (.int xS0_1), .val (.int y10), .val (.int y11), .val (.int y12), .val (.int y13), .val (.int y14), .unset, .unset, .unset, .unset, .unset, .unset] [(.ref b12), (.ref b12), (.ref b7), (.ref b7)])) (fun _ k => XS.dup X12.here hx rfl (hb hby at_139) rfl rfl k) ?_
              refine own_goS (T' := T12) (g' := (mkF m 141 #[.val (.int p0), .val (.int p1), .val (.int p2), .val (.int p3), .val (.int p4), .val (.int (1 : Int32)), .val (.int y6), .val (.int y7), .val (.int y8), .val (.int xS0_1), .val (.int y10), .val (.int y11), .val (.int y12), .val (.int y13), .val (.int y14), .unset, .unset, .unset, .unset, .unset, .unset] [(.int (0 : Int32)), (.ref b12), (.ref b12), (.ref b7), (.ref b7)])) (fun _ k => XS.iconst X12.here hx rfl (hb hby at_140) k) ?_
              refine own_goS (T' := T12) (g' := (mkF m 143 #[.val (.int p0), .val (.int p1), .val (.int p2), .val (.int p3), .val (.int p4), .val (.int (1 : Int32)), .val (.int y6), .val (.int y7), .val (.int y8), .val (.int xS0_1), .val (.int y10), .val (.int y11), .val (.int y12), .val (.int y13), .val (.int y14), .unset, .unset, .unset, .unset, .unset, .unset] [(.int y7), (.int (0 : Int32)), (.ref b12), (.ref b12), (.ref b7), (.ref b7)])) (fun _ k => XS.iload X12.here hx rfl (hb hby at_141) rfl k) ?_
              obtain ⟨cl19, Ar19, q119, q219, q319, H19, G19⟩ := id V12
              have hin19 := inb_of q219 (j := (0 : Int32)) (by decide)
              obtain ⟨T19, h19, X19, e19, W19, st19⟩ := stC X12 hx hZ e12 Ar19 (j := (0 : Int32)) hin19 (g := (mkF m 143 #[.val (.int p0), .val (.int p1), .val (.int p2), .val (.int p3), .val (.int p4), .val (.int (1 : Int32)), .val (.int y6), .val (.int y7), .val (.int y8), .val (.int xS0_1), .val (.int y10), .val (.int y11), .val (.int y12), .val (.int y13), .val (.int y14), .unset, .unset, .unset, .unset, .unset, .unset] [(.int y7), (.int (0 : Int32)), (.ref b12), (.ref b12), (.ref b7), (.ref b7)])) rfl rfl (hb hby at_143)
              have f20 : Sta Z h19 "java/lang/String" "COMPACT_STRINGS" "Z" (.int cs) := (f14.wr W19)
              have f21 : Exa Z h19 b7 "java/lang/String" := (f15.wr W19)
              have f22 : Fld Z h19 b7 "java/lang/String" "coder" "B" (.int (0 : Int32)) := (f16.other W19 (Or.inl ne13))
              have f23 : Fld Z h19 b7 "java/lang/String" "value" "[B" .null := (f17.other W19 (Or.inl ne13))
              have V19 : Arv Z h19 b12 k12 .char (1 : Int32) [(.int (nar .char y7))] (.int (0 : Int32)) := Arv.set Ar19 q119 q219 q319 H19 G19 (fits_nar_char _) W19 0 (by decide) (by simp)
              have N19 := Fr.snoc X19 N0 ge12
              have zs19 : n0 ≤ h19.size := by rw [W19.size]; exact zs12
              have hk24 := Nat.le_trans hk18 (Nat.le_of_eq W19.size.symm)
              refine own_goS (T' := T19) (g' := (mkF m 144 #[.val (.int p0), .val (.int p1), .val (.int p2), .val (.int p3), .val (.int p4), .val (.int (1 : Int32)), .val (.int y6), .val (.int y7), .val (.int y8), .val (.int xS0_1), .val (.int y10), .val (.int y11), .val (.int y12), .val (.int y13), .val (.int y14), .unset, .unset, .unset, .unset, .unset, .unset] [(.ref b12), (.ref b7), (.ref b7)])) (fun _ k => st19 _ k) ?_
              have fz25 : Arv Z h19 b12 k12 .char (1 : Int32) [(.int y7)] (.int (0 : Int32)) := by have q := V19; rw [own_nc hC7] at q; exact q
              obtain ⟨_, _, ⟨T26, L26, k26, n26⟩, -, X26, ⟨Lc26, hQ26, l26, y26, z26⟩, st26⟩ := X19.specialBack hx (y := (⟨"java/lang/String", "<init>", "([C)V"⟩ : MethodName)) rfl hown (mvT hZ (hw _ (List.mem_of_getElem? (i := 5) rfl))) (mvT hZ (hw _ (List.mem_of_getElem? (i := 6) rfl))) (mvT hZ (hw _ (List.mem_of_getElem? (i := 7) rfl))) (by decide) (backOf (W := 1) (rmS1_1 l Z a0 hw [] b7 b12 k12 y7 cs h19 n0 zs19 f21 ge7 f23 f22 fz25 f20 hh0 (own_Cn hC7)) hZ (hw _ (List.mem_of_getElem? (i := 7) rfl)) (hw _ (List.mem_of_getElem? (i := 3) rfl)) (by decide) (by decide)) (g := (mkF m 144 #[.val (.int p0), .val (.int p1), .val (.int p2), .val (.int p3), .val (.int p4), .val (.int (1 : Int32)), .val (.int y6), .val (.int y7), .val (.int y8), .val (.int xS0_1), .val (.int y10), .val (.int y11), .val (.int y12), .val (.int y13), .val (.int y14), .unset, .unset, .unset, .unset, .unset, .unset] [(.ref b12), (.ref b7), (.ref b7)])) rfl (by rw [hml]; rfl) (Steps.refl _) (a := b7) (argsL := [(.ref b12)]) (rest := [(.ref b7)]) (lenOf own_pd8 rfl) rfl (by show 2 * 0 + _ ≤ _; exact Nat.le_of_eq rfl) (hb hby at_144) (fun _ _ => ⟨rfl, e19, (by decide : 2 + 1 ≤ _), (by decide : 5 + 1 ≤ _)⟩)
              dsimp only [Pt.U, Pt.locs, Pt.cells, Pt.slots] at X26 l26 y26 z26 st26 hQ26
              subst l26 y26 z26
              obtain ⟨xb_26, xk_26, rfl, N26q, K26, po27, po28, po29, po30⟩ := hQ26
              have f31 : Sta Z T26.heap "java/lang/String" "COMPACT_STRINGS" "Z" (.int cs) := (own_sta_keep f20 K26 (nsS f21.nostat ns0))
              have f32 : Exa Z T26.heap b7 "java/lang/String" := (f21.keep K26)
              have f33 : Arv Z T26.heap b12 k12 .char (1 : Int32) [(.int y7)] (.int (0 : Int32)) := (fz25.keep K26 (ninS (Ne.symm ne13) nin0))
              have ne34 : b7 ≠ xb_26 := Nat.ne_of_lt (Nat.lt_of_lt_of_le f21.lt po27)
              have ne35 : b12 ≠ xb_26 := Nat.ne_of_lt (Nat.lt_of_lt_of_le fz25.lt po27)
              have ge36 : n0 ≤ xb_26 := Nat.le_trans zs19 po27
              have zs26 : n0 ≤ T26.heap.size := Nat.le_trans zs19 K26.1
              have hk37 := Nat.le_trans hk24 (K26.1)
              have N26 := Fr.app N19 N26q
              refine own_goS (T' := T26) (g' := (mkF m 147 #[.val (.int p0), .val (.int p1), .val (.int p2), .val (.int p3), .val (.int p4), .val (.int (1 : Int32)), .val (.int y6), .val (.int y7), .val (.int y8), .val (.int xS0_1), .val (.int y10), .val (.int y11), .val (.int y12), .val (.int y13), .val (.int y14), .unset, .unset, .unset, .unset, .unset, .unset] [(.ref b7)])) (fun _ k => st26.trans k) ?_
              refine own_goS (T' := T26) (g' := (mkF m 170 #[.val (.int p0), .val (.int p1), .val (.int p2), .val (.int p3), .val (.int p4), .val (.int (1 : Int32)), .val (.int y6), .val (.int y7), .val (.int y8), .val (.int xS0_1), .val (.int y10), .val (.int y11), .val (.int y12), .val (.int y13), .val (.int y14), .unset, .unset, .unset, .unset, .unset, .unset] [(.ref b7)])) (fun _ k => XS.goto X26.here hx rfl (pc0 := 147) (pc' := 170) rfl (hb hby at_147) (by decide) (by decide) k) ?_
              refine own_goS (T' := T26) (g' := (mkF m 172 #[.val (.int p0), .val (.int p1), .val (.int p2), .val (.int p3), .val (.int p4), .val (.int (1 : Int32)), .val (.int y6), .val (.int y7), .val (.int y8), .val (.int xS0_1), .val (.int y10), .val (.int y11), .val (.int y12), .val (.int y13), .val (.int y14), .val (.ref b7), .unset, .unset, .unset, .unset, .unset] [])) (fun _ k => XS.astore X26.here hx rfl (hb hby at_170) rfl rfl (l' := #[.val (.int p0), .val (.int p1), .val (.int p2), .val (.int p3), .val (.int p4), .val (.int (1 : Int32)), .val (.int y6), .val (.int y7), .val (.int y8), .val (.int xS0_1), .val (.int y10), .val (.int y11), .val (.int y12), .val (.int y13), .val (.int y14), .val (.ref b7), .unset, .unset, .unset, .unset, .unset]) rfl k) ?_
              refine own_goS (T' := T26) (g' := (mkF m 174 #[.val (.int p0), .val (.int p1), .val (.int p2), .val (.int p3), .val (.int p4), .val (.int (1 : Int32)), .val (.int y6), .val (.int y7), .val (.int y8), .val (.int xS0_1), .val (.int y10), .val (.int y11), .val (.int y12), .val (.int y13), .val (.int y14), .val (.ref b7), .unset, .unset, .unset, .unset, .unset] [(.int y6)])) (fun _ k => XS.iload X26.here hx rfl (hb hby at_172) rfl k) ?_
              refine own_goS (T' := T26) (g' := (mkF m 175 #[.val (.int p0), .val (.int p1), .val (.int p2), .val (.int p3), .val (.int p4), .val (.int (1 : Int32)), .val (.int y6), .val (.int y7), .val (.int y8), .val (.int xS0_1), .val (.int y10), .val (.int y11), .val (.int y12), .val (.int y13), .val (.int y14), .val (.ref b7), .unset, .unset, .unset, .unset, .unset] [(.int (1 : Int32)), (.int y6)])) (fun _ k => XS.iconst X26.here hx rfl (hb hby at_174) k) ?_
              by_cases hc175_38 : y6 = (1 : Int32)
              · skip
                refine own_goS (T' := T26) (g' := (mkF m 178 #[.val (.int p0), .val (.int p1), .val (.int p2), .val (.int p3), .val (.int p4), .val (.int (1 : Int32)), .val (.int y6), .val (.int y7), .val (.int y8), .val (.int xS0_1), .val (.int y10), .val (.int y11), .val (.int y12), .val (.int y13), .val (.int y14), .val (.ref b7), .unset, .unset, .unset, .unset, .unset] [])) (fun _ k => XS.icmpNo X26.here hx rfl (hb hby at_175) rfl (XT.ii_ne_f hc175_38) k) ?_
                refine own_goS (T' := T26) (g' := (mkF m 178 #[.val (.int p0), .val (.int p1), .val (.int p2), .val (.int p3), .val (.int p4), .val (.int (1 : Int32)), .val (.int (1 : Int32)), .val (.int y7), .val (.int y8), .val (.int xS0_1), .val (.int y10), .val (.int y11), .val (.int y12), .val (.int y13), .val (.int y14), .val (.ref b7), .unset, .unset, .unset, .unset, .unset] [])) (fun _ k => castTop (by rw [hc175_38]) k) ?_
                obtain ⟨T39, h39, X39, e39, E39, A39, D39, -, st39⟩ := newO X26 hx hZ hown (hw _ (List.mem_of_getElem? (i := 1) rfl)) (hw _ (List.mem_of_getElem? (i := 2) rfl)) (hw _ (List.mem_of_getElem? (i := 3) rfl)) rfl (g := (mkF m 178 #[.val (.int p0), .val (.int p1), .val (.int p2), .val (.int p3), .val (.int p4), .val (.int (1 : Int32)), .val (.int (1 : Int32)), .val (.int y7), .val (.int y8), .val (.int xS0_1), .val (.int y10), .val (.int y11), .val (.int y12), .val (.int y13), .val (.int y14), .val (.ref b7), .unset, .unset, .unset, .unset, .unset] [])) rfl (hb hby at_178) (by decide) (by decide)
                obtain ⟨b39, g39⟩ : ∃ z, z = T26.heap.size := ⟨_, rfl⟩
                have ne40 : b7 ≠ b39 := Nat.ne_of_lt (Nat.lt_of_lt_of_le f32.lt (Nat.le_of_eq g39.symm))
                have ne41 : b12 ≠ b39 := Nat.ne_of_lt (Nat.lt_of_lt_of_le f33.lt (Nat.le_of_eq g39.symm))
                have ne42 : xb_26 ≠ b39 := Nat.ne_of_lt (Nat.lt_of_lt_of_le po30.lt (Nat.le_of_eq g39.symm))
                rw [← g39] at A39 D39 st39
                have f43 : Sta Z h39 "java/lang/String" "COMPACT_STRINGS" "Z" (.int cs) := (f31.ext E39)
                have f44 : Exa Z h39 b7 "java/lang/String" := (f32.ext E39)
                have f45 : Arv Z h39 b12 k12 .char (1 : Int32) [(.int y7)] (.int (0 : Int32)) := (f33.ext E39)
                have f46 : Fld Z h39 b7 "java/lang/String" "value" "[B" (.ref xb_26) := (po28.ext E39)
                have f47 : Fld Z h39 b7 "java/lang/String" "coder" "B" (.int (0 : Int32)) := (po29.ext E39)
                have f48 : Arv Z h39 xb_26 xk_26 .byte (1 : Int32) [(.int (nar .byte (y7.toInt8.toInt32)))] (.int (0 : Int32)) := (po30.ext E39)
                have fn49 : Fld Z h39 b39 "java/lang/String" "coder" "B" (.int (0 : Int32)) := D39 (Or.inr (hw _ (List.mem_of_getElem? (i := 28) rfl))) (ty := .byte) (by decide)
                have fn50 : Fld Z h39 b39 "java/lang/String" "value" "[B" .null := D39 (Or.inr (hw _ (List.mem_of_getElem? (i := 30) rfl))) (ty := (.array .byte)) (by decide)
                have ge39 : n0 ≤ b39 := Nat.le_trans zs26 (Nat.le_of_eq g39.symm)
                have zs39 : n0 ≤ h39.size := Nat.le_trans zs26 E39.1
                have hk51 := Nat.le_trans hk37 (E39.1)
                refine own_goS (T' := T39) (g' := (mkF m 181 #[.val (.int p0), .val (.int p1), .val (.int p2), .val (.int p3), .val (.int p4), .val (.int (1 : Int32)), .val (.int (1 : Int32)), .val (.int y7), .val (.int y8), .val (.int xS0_1), .val (.int y10), .val (.int y11), .val (.int y12), .val (.int y13), .val (.int y14), .val (.ref b7), .unset, .unset, .unset, .unset, .unset] [(.ref b39)])) (fun _ k => st39 _ k) ?_
                refine own_goS (T' := T39) (g' := (mkF m 182 #[.val (.int p0), .val (.int p1), .val (.int p2), .val (.int p3), .val (.int p4), .val (.int (1 : Int32)), .val (.int (1 : Int32)), .val (.int y7), .val (.int y8), .val (.int xS0_1), .val (.int y10), .val (.int y11), .val (.int y12), .val (.int y13), .val (.int y14), .val (.ref b7), .unset, .unset, .unset, .unset, .unset] [(.ref b39), (.ref b39)])) (fun _ k => XS.dup X39.here hx rfl (hb hby at_181) rfl rfl k) ?_
                refine own_goS (T' := T39) (g' := (mkF m 183 #[.val (.int p0), .val (.int p1), .val (.int p2), .val (.int p3), .val (.int p4), .val (.int (1 : Int32)), .val (.int (1 : Int32)), .val (.int y7), .val (.int y8), .val (.int xS0_1), .val (.int y10), .val (.int y11), .val (.int y12), .val (.int y13), .val (.int y14), .val (.ref b7), .unset, .unset, .unset, .unset, .unset] [(.int (1 : Int32)), (.ref b39), (.ref b39)])) (fun _ k => XS.iconst X39.here hx rfl (hb hby at_182) k) ?_
                obtain ⟨T52, h52, k52, X52, e52, E52, A52, st52⟩ := newP X39 hx hZ (hw _ (List.mem_of_getElem? (i := 4) rfl)) e39 (g := (mkF m 183 #[.val (.int p0), .val (.int p1), .val (.int p2), .val (.int p3), .val (.int p4), .val (.int (1 : Int32)), .val (.int (1 : Int32)), .val (.int y7), .val (.int y8), .val (.int xS0_1), .val (.int y10), .val (.int y11), .val (.int y12), .val (.int y13), .val (.int y14), .val (.ref b7), .unset, .unset, .unset, .unset, .unset] [(.int (1 : Int32)), (.ref b39), (.ref b39)])) rfl (hb hby at_183) rfl (by decide) (cap := 1) (by decide) (by decide) (by decide) (by decide)
                obtain ⟨b52, g52⟩ : ∃ z, z = h39.size := ⟨_, rfl⟩
                have ne53 : b7 ≠ b52 := Nat.ne_of_lt (Nat.lt_of_lt_of_le f44.lt (Nat.le_of_eq g52.symm))
                have ne54 : b12 ≠ b52 := Nat.ne_of_lt (Nat.lt_of_lt_of_le f45.lt (Nat.le_of_eq g52.symm))
                have ne55 : xb_26 ≠ b52 := Nat.ne_of_lt (Nat.lt_of_lt_of_le f48.lt (Nat.le_of_eq g52.symm))
                have ne56 : b39 ≠ b52 := Nat.ne_of_lt (Nat.lt_of_lt_of_le A39.lt (Nat.le_of_eq g52.symm))
                rw [← g52] at A52 st52
                have f57 : Sta Z h52 "java/lang/String" "COMPACT_STRINGS" "Z" (.int cs) := (f43.ext E52)
                have f58 : Exa Z h52 b7 "java/lang/String" := (f44.ext E52)
                have f59 : Arv Z h52 b12 k12 .char (1 : Int32) [(.int y7)] (.int (0 : Int32)) := (f45.ext E52)
                have f60 : Fld Z h52 b7 "java/lang/String" "value" "[B" (.ref xb_26) := (f46.ext E52)
                have f61 : Fld Z h52 b7 "java/lang/String" "coder" "B" (.int (0 : Int32)) := (f47.ext E52)
                have f62 : Arv Z h52 xb_26 xk_26 .byte (1 : Int32) [(.int (nar .byte (y7.toInt8.toInt32)))] (.int (0 : Int32)) := (f48.ext E52)
                have f63 : Exa Z h52 b39 "java/lang/String" := (A39.ext E52)
                have f64 : Fld Z h52 b39 "java/lang/String" "coder" "B" (.int (0 : Int32)) := (fn49.ext E52)
                have f65 : Fld Z h52 b39 "java/lang/String" "value" "[B" .null := (fn50.ext E52)
                have V52 : Arv Z h52 b52 k52 .char (1 : Int32) [(.int (0 : Int32))] (.int (0 : Int32)) := (Arv.new A52 (by decide)).pad (pad_rep [] (.int (0 : Int32)) 1)
                have ge52 : n0 ≤ b52 := Nat.le_trans zs39 (Nat.le_of_eq g52.symm)
                have zs52 : n0 ≤ h52.size := Nat.le_trans zs39 E52.1
                have hk66 := Nat.le_trans hk51 (E52.1)
                refine own_goS (T' := T52) (g' := (mkF m 185 #[.val (.int p0), .val (.int p1), .val (.int p2), .val (.int p3), .val (.int p4), .val (.int (1 : Int32)), .val (.int (1 : Int32)), .val (.int y7), .val (.int y8), .val (.int xS0_1), .val (.int y10), .val (.int y11), .val (.int y12), .val (.int y13), .val (.int y14), .val (.ref b7), .unset, .unset, .unset, .unset, .unset] [(.ref b52), (.ref b39), (.ref b39)])) (fun _ k => st52 _ k) ?_
                refine own_goS (T' := T52) (g' := (mkF m 186 #[.val (.int p0), .val (.int p1), .val (.int p2), .val (.int p3), .val (.int p4), .val (.int (1 : Int32)), .val (.int (1 : Int32)), .val (.int y7), .val (.int y8), .val (.int xS0_1), .val (.int y10), .val (.int y11), .val (.int y12), .val (.int y13), .val (.int y14), .val (.ref b7), .unset, .unset, .unset, .unset, .unset] [(.ref b52), (.ref b52), (.ref b39), (.ref b39)])) (fun _ k => XS.dup X52.here hx rfl (hb hby at_185) rfl rfl k) ?_
                refine own_goS (T' := T52) (g' := (mkF m 187 #[.val (.int p0), .val (.int p1), .val (.int p2), .val (.int p3), .val (.int p4), .val (.int (1 : Int32)), .val (.int (1 : Int32)), .val (.int y7), .val (.int y8), .val (.int xS0_1), .val (.int y10), .val (.int y11), .val (.int y12), .val (.int y13), .val (.int y14), .val (.ref b7), .unset, .unset, .unset, .unset, .unset] [(.int (0 : Int32)), (.ref b52), (.ref b52), (.ref b39), (.ref b39)])) (fun _ k => XS.iconst X52.here hx rfl (hb hby at_186) k) ?_
                refine own_goS (T' := T52) (g' := (mkF m 189 #[.val (.int p0), .val (.int p1), .val (.int p2), .val (.int p3), .val (.int p4), .val (.int (1 : Int32)), .val (.int (1 : Int32)), .val (.int y7), .val (.int y8), .val (.int xS0_1), .val (.int y10), .val (.int y11), .val (.int y12), .val (.int y13), .val (.int y14), .val (.ref b7), .unset, .unset, .unset, .unset, .unset] [(.int y10), (.int (0 : Int32)), (.ref b52), (.ref b52), (.ref b39), (.ref b39)])) (fun _ k => XS.iload X52.here hx rfl (hb hby at_187) rfl k) ?_
                obtain ⟨cl67, Ar67, q167, q267, q367, H67, G67⟩ := id V52
                have hin67 := inb_of q267 (j := (0 : Int32)) (by decide)
                obtain ⟨T67, h67, X67, e67, W67, st67⟩ := stC X52 hx hZ e52 Ar67 (j := (0 : Int32)) hin67 (g := (mkF m 189 #[.val (.int p0), .val (.int p1), .val (.int p2), .val (.int p3), .val (.int p4), .val (.int (1 : Int32)), .val (.int (1 : Int32)), .val (.int y7), .val (.int y8), .val (.int xS0_1), .val (.int y10), .val (.int y11), .val (.int y12), .val (.int y13), .val (.int y14), .val (.ref b7), .unset, .unset, .unset, .unset, .unset] [(.int y10), (.int (0 : Int32)), (.ref b52), (.ref b52), (.ref b39), (.ref b39)])) rfl rfl (hb hby at_189)
                have f68 : Sta Z h67 "java/lang/String" "COMPACT_STRINGS" "Z" (.int cs) := (f57.wr W67)
                have f69 : Exa Z h67 b7 "java/lang/String" := (f58.wr W67)
                have f70 : Arv Z h67 b12 k12 .char (1 : Int32) [(.int y7)] (.int (0 : Int32)) := (f59.other W67 ne54)
                have f71 : Fld Z h67 b7 "java/lang/String" "value" "[B" (.ref xb_26) := (f60.other W67 (Or.inl ne53))
                have f72 : Fld Z h67 b7 "java/lang/String" "coder" "B" (.int (0 : Int32)) := (f61.other W67 (Or.inl ne53))
                have f73 : Arv Z h67 xb_26 xk_26 .byte (1 : Int32) [(.int (nar .byte (y7.toInt8.toInt32)))] (.int (0 : Int32)) := (f62.other W67 ne55)
                have f74 : Exa Z h67 b39 "java/lang/String" := (f63.wr W67)
                have f75 : Fld Z h67 b39 "java/lang/String" "coder" "B" (.int (0 : Int32)) := (f64.other W67 (Or.inl ne56))
                have f76 : Fld Z h67 b39 "java/lang/String" "value" "[B" .null := (f65.other W67 (Or.inl ne56))
                have V67 : Arv Z h67 b52 k52 .char (1 : Int32) [(.int (nar .char y10))] (.int (0 : Int32)) := Arv.set Ar67 q167 q267 q367 H67 G67 (fits_nar_char _) W67 0 (by decide) (by simp)
                have N67 := Fr.snoc X67 N26 ge52
                have zs67 : n0 ≤ h67.size := by rw [W67.size]; exact zs52
                have hk77 := Nat.le_trans hk66 (Nat.le_of_eq W67.size.symm)
                refine own_goS (T' := T67) (g' := (mkF m 190 #[.val (.int p0), .val (.int p1), .val (.int p2), .val (.int p3), .val (.int p4), .val (.int (1 : Int32)), .val (.int (1 : Int32)), .val (.int y7), .val (.int y8), .val (.int xS0_1), .val (.int y10), .val (.int y11), .val (.int y12), .val (.int y13), .val (.int y14), .val (.ref b7), .unset, .unset, .unset, .unset, .unset] [(.ref b52), (.ref b39), (.ref b39)])) (fun _ k => st67 _ k) ?_
                have fz78 : Arv Z h67 b52 k52 .char (1 : Int32) [(.int y10)] (.int (0 : Int32)) := by have q := V67; rw [own_nc hC10] at q; exact q
                obtain ⟨_, _, ⟨T79, L79, k79, n79⟩, -, X79, ⟨Lc79, hQ79, l79, y79, z79⟩, st79⟩ := X67.specialBack hx (y := (⟨"java/lang/String", "<init>", "([C)V"⟩ : MethodName)) rfl hown (mvT hZ (hw _ (List.mem_of_getElem? (i := 5) rfl))) (mvT hZ (hw _ (List.mem_of_getElem? (i := 6) rfl))) (mvT hZ (hw _ (List.mem_of_getElem? (i := 7) rfl))) (by decide) (backOf (W := 1) (rmS1_1 l Z a0 hw [] b39 b52 k52 y10 cs h67 n0 zs67 f74 ge39 f76 f75 fz78 f68 hh0 (own_Cn hC10)) hZ (hw _ (List.mem_of_getElem? (i := 7) rfl)) (hw _ (List.mem_of_getElem? (i := 3) rfl)) (by decide) (by decide)) (g := (mkF m 190 #[.val (.int p0), .val (.int p1), .val (.int p2), .val (.int p3), .val (.int p4), .val (.int (1 : Int32)), .val (.int (1 : Int32)), .val (.int y7), .val (.int y8), .val (.int xS0_1), .val (.int y10), .val (.int y11), .val (.int y12), .val (.int y13), .val (.int y14), .val (.ref b7), .unset, .unset, .unset, .unset, .unset] [(.ref b52), (.ref b39), (.ref b39)])) rfl (by rw [hml]; rfl) (Steps.refl _) (a := b39) (argsL := [(.ref b52)]) (rest := [(.ref b39)]) (lenOf own_pd8 rfl) rfl (by show 2 * 0 + _ ≤ _; exact Nat.le_of_eq rfl) (hb hby at_190) (fun _ _ => ⟨rfl, e67, (by decide : 5 + 1 ≤ _), (by decide : 11 + 1 ≤ _)⟩)
                dsimp only [Pt.U, Pt.locs, Pt.cells, Pt.slots] at X79 l79 y79 z79 st79 hQ79
                subst l79 y79 z79
                obtain ⟨xb_79, xk_79, rfl, N79q, K79, po80, po81, po82, po83⟩ := hQ79
                have f84 : Sta Z T79.heap "java/lang/String" "COMPACT_STRINGS" "Z" (.int cs) := (own_sta_keep f68 K79 (nsS f74.nostat ns0))
                have f85 : Exa Z T79.heap b7 "java/lang/String" := (f69.keep K79)
                have f86 : Arv Z T79.heap b12 k12 .char (1 : Int32) [(.int y7)] (.int (0 : Int32)) := (f70.keep K79 (ninS ne41 nin0))
                have f87 : Fld Z T79.heap b7 "java/lang/String" "value" "[B" (.ref xb_26) := (f71.keep K79 (ninS ne40 nin0))
                have f88 : Fld Z T79.heap b7 "java/lang/String" "coder" "B" (.int (0 : Int32)) := (f72.keep K79 (ninS ne40 nin0))
                have f89 : Arv Z T79.heap xb_26 xk_26 .byte (1 : Int32) [(.int (nar .byte (y7.toInt8.toInt32)))] (.int (0 : Int32)) := (f73.keep K79 (ninS ne42 nin0))
                have f90 : Exa Z T79.heap b39 "java/lang/String" := (f74.keep K79)
                have f91 : Arv Z T79.heap b52 k52 .char (1 : Int32) [(.int y10)] (.int (0 : Int32)) := (fz78.keep K79 (ninS (Ne.symm ne56) nin0))
                have ne92 : b7 ≠ xb_79 := Nat.ne_of_lt (Nat.lt_of_lt_of_le f69.lt po80)
                have ne93 : b12 ≠ xb_79 := Nat.ne_of_lt (Nat.lt_of_lt_of_le f70.lt po80)
                have ne94 : xb_26 ≠ xb_79 := Nat.ne_of_lt (Nat.lt_of_lt_of_le f73.lt po80)
                have ne95 : b39 ≠ xb_79 := Nat.ne_of_lt (Nat.lt_of_lt_of_le f74.lt po80)
                have ne96 : b52 ≠ xb_79 := Nat.ne_of_lt (Nat.lt_of_lt_of_le fz78.lt po80)
                have ge97 : n0 ≤ xb_79 := Nat.le_trans zs67 po80
                have zs79 : n0 ≤ T79.heap.size := Nat.le_trans zs67 K79.1
                have hk98 := Nat.le_trans hk77 (K79.1)
                have N79 := Fr.app N67 N79q
                refine own_goS (T' := T79) (g' := (mkF m 193 #[.val (.int p0), .val (.int p1), .val (.int p2), .val (.int p3), .val (.int p4), .val (.int (1 : Int32)), .val (.int (1 : Int32)), .val (.int y7), .val (.int y8), .val (.int xS0_1), .val (.int y10), .val (.int y11), .val (.int y12), .val (.int y13), .val (.int y14), .val (.ref b7), .unset, .unset, .unset, .unset, .unset] [(.ref b39)])) (fun _ k => st79.trans k) ?_
                refine own_goS (T' := T79) (g' := (mkF m 216 #[.val (.int p0), .val (.int p1), .val (.int p2), .val (.int p3), .val (.int p4), .val (.int (1 : Int32)), .val (.int (1 : Int32)), .val (.int y7), .val (.int y8), .val (.int xS0_1), .val (.int y10), .val (.int y11), .val (.int y12), .val (.int y13), .val (.int y14), .val (.ref b7), .unset, .unset, .unset, .unset, .unset] [(.ref b39)])) (fun _ k => XS.goto X79.here hx rfl (pc0 := 193) (pc' := 216) rfl (hb hby at_193) (by decide) (by decide) k) ?_
                refine own_goS (T' := T79) (g' := (mkF m 218 #[.val (.int p0), .val (.int p1), .val (.int p2), .val (.int p3), .val (.int p4), .val (.int (1 : Int32)), .val (.int (1 : Int32)), .val (.int y7), .val (.int y8), .val (.int xS0_1), .val (.int y10), .val (.int y11), .val (.int y12), .val (.int y13), .val (.int y14), .val (.ref b7), .val (.ref b39), .unset, .unset, .unset, .unset] [])) (fun _ k => XS.astore X79.here hx rfl (hb hby at_216) rfl rfl (l' := #[.val (.int p0), .val (.int p1), .val (.int p2), .val (.int p3), .val (.int p4), .val (.int (1 : Int32)), .val (.int (1 : Int32)), .val (.int y7), .val (.int y8), .val (.int xS0_1), .val (.int y10), .val (.int y11), .val (.int y12), .val (.int y13), .val (.int y14), .val (.ref b7), .val (.ref b39), .unset, .unset, .unset, .unset]) rfl k) ?_
                obtain ⟨T99, h99, X99, e99, E99, A99, D99, -, st99⟩ := newO X79 hx hZ hown (hw _ (List.mem_of_getElem? (i := 31) rfl)) (hw _ (List.mem_of_getElem? (i := 32) rfl)) (hw _ (List.mem_of_getElem? (i := 33) rfl)) rfl (g := (mkF m 218 #[.val (.int p0), .val (.int p1), .val (.int p2), .val (.int p3), .val (.int p4), .val (.int (1 : Int32)), .val (.int (1 : Int32)), .val (.int y7), .val (.int y8), .val (.int xS0_1), .val (.int y10), .val (.int y11), .val (.int y12), .val (.int y13), .val (.int y14), .val (.ref b7), .val (.ref b39), .unset, .unset, .unset, .unset] [])) rfl (hb hby at_218) (by decide) (by decide)
                obtain ⟨b99, g99⟩ : ∃ z, z = T79.heap.size := ⟨_, rfl⟩
                have ne100 : b7 ≠ b99 := Nat.ne_of_lt (Nat.lt_of_lt_of_le f85.lt (Nat.le_of_eq g99.symm))
                have ne101 : b12 ≠ b99 := Nat.ne_of_lt (Nat.lt_of_lt_of_le f86.lt (Nat.le_of_eq g99.symm))
                have ne102 : xb_26 ≠ b99 := Nat.ne_of_lt (Nat.lt_of_lt_of_le f89.lt (Nat.le_of_eq g99.symm))
                have ne103 : b39 ≠ b99 := Nat.ne_of_lt (Nat.lt_of_lt_of_le f90.lt (Nat.le_of_eq g99.symm))
                have ne104 : b52 ≠ b99 := Nat.ne_of_lt (Nat.lt_of_lt_of_le f91.lt (Nat.le_of_eq g99.symm))
                have ne105 : xb_79 ≠ b99 := Nat.ne_of_lt (Nat.lt_of_lt_of_le po83.lt (Nat.le_of_eq g99.symm))
                rw [← g99] at A99 D99 st99
                have f106 : Sta Z h99 "java/lang/String" "COMPACT_STRINGS" "Z" (.int cs) := (f84.ext E99)
                have f107 : Exa Z h99 b7 "java/lang/String" := (f85.ext E99)
                have f108 : Arv Z h99 b12 k12 .char (1 : Int32) [(.int y7)] (.int (0 : Int32)) := (f86.ext E99)
                have f109 : Fld Z h99 b7 "java/lang/String" "value" "[B" (.ref xb_26) := (f87.ext E99)
                have f110 : Fld Z h99 b7 "java/lang/String" "coder" "B" (.int (0 : Int32)) := (f88.ext E99)
                have f111 : Arv Z h99 xb_26 xk_26 .byte (1 : Int32) [(.int (nar .byte (y7.toInt8.toInt32)))] (.int (0 : Int32)) := (f89.ext E99)
                have f112 : Exa Z h99 b39 "java/lang/String" := (f90.ext E99)
                have f113 : Arv Z h99 b52 k52 .char (1 : Int32) [(.int y10)] (.int (0 : Int32)) := (f91.ext E99)
                have f114 : Fld Z h99 b39 "java/lang/String" "value" "[B" (.ref xb_79) := (po81.ext E99)
                have f115 : Fld Z h99 b39 "java/lang/String" "coder" "B" (.int (0 : Int32)) := (po82.ext E99)
                have f116 : Arv Z h99 xb_79 xk_79 .byte (1 : Int32) [(.int (nar .byte (y10.toInt8.toInt32)))] (.int (0 : Int32)) := (po83.ext E99)
                have fn117 : Fld Z h99 b99 "com/example/node_ring/nodering/pool/Server" "name" "Ljava/lang/String;" .null := D99 (Or.inr (hw _ (List.mem_of_getElem? (i := 51) rfl))) (ty := (.object "java/lang/String")) (by decide)
                have fn118 : Fld Z h99 b99 "com/example/node_ring/nodering/pool/Server" "weight" "I" (.int (0 : Int32)) := D99 (Or.inr (hw _ (List.mem_of_getElem? (i := 53) rfl))) (ty := .int) (by decide)
                have ge99 : n0 ≤ b99 := Nat.le_trans zs79 (Nat.le_of_eq g99.symm)
                have zs99 : n0 ≤ h99.size := Nat.le_trans zs79 E99.1
                have hk119 := Nat.le_trans hk98 (E99.1)
                refine own_goS (T' := T99) (g' := (mkF m 221 #[.val (.int p0), .val (.int p1), .val (.int p2), .val (.int p3), .val (.int p4), .val (.int (1 : Int32)), .val (.int (1 : Int32)), .val (.int y7), .val (.int y8), .val (.int xS0_1), .val (.int y10), .val (.int y11), .val (.int y12), .val (.int y13), .val (.int y14), .val (.ref b7), .val (.ref b39), .unset, .unset, .unset, .unset] [(.ref b99)])) (fun _ k => st99 _ k) ?_
                refine own_goS (T' := T99) (g' := (mkF m 222 #[.val (.int p0), .val (.int p1), .val (.int p2), .val (.int p3), .val (.int p4), .val (.int (1 : Int32)), .val (.int (1 : Int32)), .val (.int y7), .val (.int y8), .val (.int xS0_1), .val (.int y10), .val (.int y11), .val (.int y12), .val (.int y13), .val (.int y14), .val (.ref b7), .val (.ref b39), .unset, .unset, .unset, .unset] [(.ref b99), (.ref b99)])) (fun _ k => XS.dup X99.here hx rfl (hb hby at_221) rfl rfl k) ?_
                refine own_goS (T' := T99) (g' := (mkF m 224 #[.val (.int p0), .val (.int p1), .val (.int p2), .val (.int p3), .val (.int p4), .val (.int (1 : Int32)), .val (.int (1 : Int32)), .val (.int y7), .val (.int y8), .val (.int xS0_1), .val (.int y10), .val (.int y11), .val (.int y12), .val (.int y13), .val (.int y14), .val (.ref b7), .val (.ref b39), .unset, .unset, .unset, .unset] [(.ref b7), (.ref b99), (.ref b99)])) (fun _ k => XS.aload X99.here hx rfl (hb hby at_222) rfl rfl k) ?_
                refine own_goS (T' := T99) (g' := (mkF m 226 #[.val (.int p0), .val (.int p1), .val (.int p2), .val (.int p3), .val (.int p4), .val (.int (1 : Int32)), .val (.int (1 : Int32)), .val (.int y7), .val (.int y8), .val (.int xS0_1), .val (.int y10), .val (.int y11), .val (.int y12), .val (.int y13), .val (.int y14), .val (.ref b7), .val (.ref b39), .unset, .unset, .unset, .unset] [(.int y12), (.ref b7), (.ref b99), (.ref b99)])) (fun _ k => XS.iload X99.here hx rfl (hb hby at_224) rfl k) ?_
                obtain ⟨_, _, ⟨T120, L120, k120, n120⟩, -, XX120, hs2120, hg2120, ⟨Lc120, hQ120, l120, y120, z120⟩, st120⟩ := X99.specialBackS hx (y := (⟨"com/example/node_ring/nodering/pool/Server", "<init>", "(Ljava/lang/String;I)V"⟩ : MethodName)) rfl hown (mvT hZ (hw _ (List.mem_of_getElem? (i := 34) rfl))) (mvT hZ (hw _ (List.mem_of_getElem? (i := 35) rfl))) (mvT hZ (hw _ (List.mem_of_getElem? (i := 36) rfl))) (by decide) (backOfS (W := 1) (rmSrv1 l Z a0 hw [] b99 b7 y12 xb_26 xk_26 (nar .byte (y7.toInt8.toInt32)) h99 n0 zs99 A99 ge99 fn117 fn118 f107 f109 f111 hW12) hZ (hw _ (List.mem_of_getElem? (i := 36) rfl)) (hw _ (List.mem_of_getElem? (i := 33) rfl)) (by decide) (by decide)) (g := (mkF m 226 #[.val (.int p0), .val (.int p1), .val (.int p2), .val (.int p3), .val (.int p4), .val (.int (1 : Int32)), .val (.int (1 : Int32)), .val (.int y7), .val (.int y8), .val (.int xS0_1), .val (.int y10), .val (.int y11), .val (.int y12), .val (.int y13), .val (.int y14), .val (.ref b7), .val (.ref b39), .unset, .unset, .unset, .unset] [(.int y12), (.ref b7), (.ref b99), (.ref b99)])) rfl (by rw [hml]; rfl) (Steps.refl _) (a := b99) (argsL := [(.ref b7), (.int y12)]) (rest := [(.ref b99)]) (lenOf own_pd9 rfl) rfl (by show 2 * 0 + _ ≤ _; exact Nat.le_of_eq rfl) (hb hby at_226) (fun _ _ => ⟨rfl, e99, (by decide : 7 + 2 ≤ _), (by decide : 14 + 20 ≤ _)⟩)
                dsimp only [Pt.U, Pt.locs, Pt.cells, Pt.slots] at XX120 hs2120 hg2120 l120 y120 z120 st120 hQ120
                subst l120 y120 z120
                obtain ⟨X120, hS120, hZ120, hown120⟩ := rebS hS0 (n1 := T99.heap.size) (by rw [e99]; exact hk119) XX120 hs2120 hg2120 hZ hown
                obtain ⟨rfl, N120q, K120, po121, po122, po123⟩ := hQ120
                have f124 : Sta Z T120.heap "java/lang/String" "COMPACT_STRINGS" "Z" (.int cs) := (own_sta_keep f106 K120 (nsS A99.nostat ns0))
                have f125 : Exa Z T120.heap b7 "java/lang/String" := (f107.keep K120)
                have f126 : Arv Z T120.heap b12 k12 .char (1 : Int32) [(.int y7)] (.int (0 : Int32)) := (f108.keep K120 (ninS ne101 nin0))
                have f127 : Fld Z T120.heap b7 "java/lang/String" "value" "[B" (.ref xb_26) := (f109.keep K120 (ninS ne100 nin0))
                have f128 : Fld Z T120.heap b7 "java/lang/String" "coder" "B" (.int (0 : Int32)) := (f110.keep K120 (ninS ne100 nin0))
                have f129 : Arv Z T120.heap xb_26 xk_26 .byte (1 : Int32) [(.int (nar .byte (y7.toInt8.toInt32)))] (.int (0 : Int32)) := (f111.keep K120 (ninS ne102 nin0))
                have f130 : Exa Z T120.heap b39 "java/lang/String" := (f112.keep K120)
                have f131 : Arv Z T120.heap b52 k52 .char (1 : Int32) [(.int y10)] (.int (0 : Int32)) := (f113.keep K120 (ninS ne104 nin0))
                have f132 : Fld Z T120.heap b39 "java/lang/String" "value" "[B" (.ref xb_79) := (f114.keep K120 (ninS ne103 nin0))
                have f133 : Fld Z T120.heap b39 "java/lang/String" "coder" "B" (.int (0 : Int32)) := (f115.keep K120 (ninS ne103 nin0))
                have f134 : Arv Z T120.heap xb_79 xk_79 .byte (1 : Int32) [(.int (nar .byte (y10.toInt8.toInt32)))] (.int (0 : Int32)) := (f116.keep K120 (ninS ne105 nin0))
                have f135 : Exa Z T120.heap b99 "com/example/node_ring/nodering/pool/Server" := (A99.keep K120)
                have zs120 : n0 ≤ T120.heap.size := Nat.le_trans zs99 K120.1
                have hk120 : T120.heap.size ≤ T120.heap.size := Nat.le_refl _
                have N120 := Fr.app N79 N120q
                refine own_goS (T' := T120) (g' := (mkF m 229 #[.val (.int p0), .val (.int p1), .val (.int p2), .val (.int p3), .val (.int p4), .val (.int (1 : Int32)), .val (.int (1 : Int32)), .val (.int y7), .val (.int y8), .val (.int xS0_1), .val (.int y10), .val (.int y11), .val (.int y12), .val (.int y13), .val (.int y14), .val (.ref b7), .val (.ref b39), .unset, .unset, .unset, .unset] [(.ref b99)])) (fun _ k => st120.trans k) ?_
                refine own_goS (T' := T120) (g' := (mkF m 231 #[.val (.int p0), .val (.int p1), .val (.int p2), .val (.int p3), .val (.int p4), .val (.int (1 : Int32)), .val (.int (1 : Int32)), .val (.int y7), .val (.int y8), .val (.int xS0_1), .val (.int y10), .val (.int y11), .val (.int y12), .val (.int y13), .val (.int y14), .val (.ref b7), .val (.ref b39), .val (.ref b99), .unset, .unset, .unset] [])) (fun _ k => XS.astore X120.here hx rfl (hb hby at_229) rfl rfl (l' := #[.val (.int p0), .val (.int p1), .val (.int p2), .val (.int p3), .val (.int p4), .val (.int (1 : Int32)), .val (.int (1 : Int32)), .val (.int y7), .val (.int y8), .val (.int xS0_1), .val (.int y10), .val (.int y11), .val (.int y12), .val (.int y13), .val (.int y14), .val (.ref b7), .val (.ref b39), .val (.ref b99), .unset, .unset, .unset]) rfl k) ?_
                obtain ⟨T136, h136, X136, e136, E136, A136, D136, -, st136⟩ := newO X120 hx hZ120 hown120 (hw _ (List.mem_of_getElem? (i := 31) rfl)) (hw _ (List.mem_of_getElem? (i := 32) rfl)) (hw _ (List.mem_of_getElem? (i := 33) rfl)) rfl (g := (mkF m 231 #[.val (.int p0), .val (.int p1), .val (.int p2), .val (.int p3), .val (.int p4), .val (.int (1 : Int32)), .val (.int (1 : Int32)), .val (.int y7), .val (.int y8), .val (.int xS0_1), .val (.int y10), .val (.int y11), .val (.int y12), .val (.int y13), .val (.int y14), .val (.ref b7), .val (.ref b39), .val (.ref b99), .unset, .unset, .unset] [])) rfl (hb hby at_231) (by decide) (by decide)
                obtain ⟨b136, g136⟩ : ∃ z, z = T120.heap.size := ⟨_, rfl⟩
                have ne137 : b7 ≠ b136 := Nat.ne_of_lt (Nat.lt_of_lt_of_le f125.lt (Nat.le_of_eq g136.symm))
                have ne138 : b12 ≠ b136 := Nat.ne_of_lt (Nat.lt_of_lt_of_le f126.lt (Nat.le_of_eq g136.symm))
                have ne139 : xb_26 ≠ b136 := Nat.ne_of_lt (Nat.lt_of_lt_of_le f129.lt (Nat.le_of_eq g136.symm))
                have ne140 : b39 ≠ b136 := Nat.ne_of_lt (Nat.lt_of_lt_of_le f130.lt (Nat.le_of_eq g136.symm))
                have ne141 : b52 ≠ b136 := Nat.ne_of_lt (Nat.lt_of_lt_of_le f131.lt (Nat.le_of_eq g136.symm))
                have ne142 : xb_79 ≠ b136 := Nat.ne_of_lt (Nat.lt_of_lt_of_le f134.lt (Nat.le_of_eq g136.symm))
                have ne143 : b99 ≠ b136 := Nat.ne_of_lt (Nat.lt_of_lt_of_le po123.lt (Nat.le_of_eq g136.symm))
                rw [← g136] at A136 D136 st136
                have f144 : Sta Z h136 "java/lang/String" "COMPACT_STRINGS" "Z" (.int cs) := (f124.ext E136)
                have f145 : Exa Z h136 b7 "java/lang/String" := (f125.ext E136)
                have f146 : Arv Z h136 b12 k12 .char (1 : Int32) [(.int y7)] (.int (0 : Int32)) := (f126.ext E136)
                have f147 : Fld Z h136 b7 "java/lang/String" "value" "[B" (.ref xb_26) := (f127.ext E136)
                have f148 : Fld Z h136 b7 "java/lang/String" "coder" "B" (.int (0 : Int32)) := (f128.ext E136)
                have f149 : Arv Z h136 xb_26 xk_26 .byte (1 : Int32) [(.int (nar .byte (y7.toInt8.toInt32)))] (.int (0 : Int32)) := (f129.ext E136)
                have f150 : Exa Z h136 b39 "java/lang/String" := (f130.ext E136)
                have f151 : Arv Z h136 b52 k52 .char (1 : Int32) [(.int y10)] (.int (0 : Int32)) := (f131.ext E136)
                have f152 : Fld Z h136 b39 "java/lang/String" "value" "[B" (.ref xb_79) := (f132.ext E136)
                have f153 : Fld Z h136 b39 "java/lang/String" "coder" "B" (.int (0 : Int32)) := (f133.ext E136)
                have f154 : Arv Z h136 xb_79 xk_79 .byte (1 : Int32) [(.int (nar .byte (y10.toInt8.toInt32)))] (.int (0 : Int32)) := (f134.ext E136)
                have f155 : Exa Z h136 b99 "com/example/node_ring/nodering/pool/Server" := (po123.ext E136)
                have f156 : Fld Z h136 b99 "com/example/node_ring/nodering/pool/Server" "name" "Ljava/lang/String;" (.ref b7) := (po121.ext E136)
                have f157 : Fld Z h136 b99 "com/example/node_ring/nodering/pool/Server" "weight" "I" (.int y12) := (po122.ext E136)
                have fn158 : Fld Z h136 b136 "com/example/node_ring/nodering/pool/Server" "name" "Ljava/lang/String;" .null := D136 (Or.inr (hw _ (List.mem_of_getElem? (i := 51) rfl))) (ty := (.object "java/lang/String")) (by decide)
                have fn159 : Fld Z h136 b136 "com/example/node_ring/nodering/pool/Server" "weight" "I" (.int (0 : Int32)) := D136 (Or.inr (hw _ (List.mem_of_getElem? (i := 53) rfl))) (ty := .int) (by decide)
                have ge136 : n0 ≤ b136 := Nat.le_trans zs120 (Nat.le_of_eq g136.symm)
                have zs136 : n0 ≤ h136.size := Nat.le_trans zs120 E136.1
                have hk160 := Nat.le_trans hk120 (E136.1)
                refine own_goS (T' := T136) (g' := (mkF m 234 #[.val (.int p0), .val (.int p1), .val (.int p2), .val (.int p3), .val (.int p4), .val (.int (1 : Int32)), .val (.int (1 : Int32)), .val (.int y7), .val (.int y8), .val (.int xS0_1), .val (.int y10), .val (.int y11), .val (.int y12), .val (.int y13), .val (.int y14), .val (.ref b7), .val (.ref b39), .val (.ref b99), .unset, .unset, .unset] [(.ref b136)])) (fun _ k => st136 _ k) ?_
                refine own_goS (T' := T136) (g' := (mkF m 235 #[.val (.int p0), .val (.int p1), .val (.int p2), .val (.int p3), .val (.int p4), .val (.int (1 : Int32)), .val (.int (1 : Int32)), .val (.int y7), .val (.int y8), .val (.int xS0_1), .val (.int y10), .val (.int y11), .val (.int y12), .val (.int y13), .val (.int y14), .val (.ref b7), .val (.ref b39), .val (.ref b99), .unset, .unset, .unset] [(.ref b136), (.ref b136)])) (fun _ k => XS.dup X136.here hx rfl (hb hby at_234) rfl rfl k) ?_
                refine own_goS (T' := T136) (g' := (mkF m 237 #[.val (.int p0), .val (.int p1), .val (.int p2), .val (.int p3), .val (.int p4), .val (.int (1 : Int32)), .val (.int (1 : Int32)), .val (.int y7), .val (.int y8), .val (.int xS0_1), .val (.int y10), .val (.int y11), .val (.int y12), .val (.int y13), .val (.int y14), .val (.ref b7), .val (.ref b39), .val (.ref b99), .unset, .unset, .unset] [(.ref b39), (.ref b136), (.ref b136)])) (fun _ k => XS.aload X136.here hx rfl (hb hby at_235) rfl rfl k) ?_
                refine own_goS (T' := T136) (g' := (mkF m 239 #[.val (.int p0), .val (.int p1), .val (.int p2), .val (.int p3), .val (.int p4), .val (.int (1 : Int32)), .val (.int (1 : Int32)), .val (.int y7), .val (.int y8), .val (.int xS0_1), .val (.int y10), .val (.int y11), .val (.int y12), .val (.int y13), .val (.int y14), .val (.ref b7), .val (.ref b39), .val (.ref b99), .unset, .unset, .unset] [(.int y13), (.ref b39), (.ref b136), (.ref b136)])) (fun _ k => XS.iload X136.here hx rfl (hb hby at_237) rfl k) ?_
                obtain ⟨_, _, ⟨T161, L161, k161, n161⟩, -, XX161, hs2161, hg2161, ⟨Lc161, hQ161, l161, y161, z161⟩, st161⟩ := X136.specialBackS hx (y := (⟨"com/example/node_ring/nodering/pool/Server", "<init>", "(Ljava/lang/String;I)V"⟩ : MethodName)) rfl hown120 (mvT hZ120 (hw _ (List.mem_of_getElem? (i := 34) rfl))) (mvT hZ120 (hw _ (List.mem_of_getElem? (i := 35) rfl))) (mvT hZ120 (hw _ (List.mem_of_getElem? (i := 36) rfl))) (by decide) (backOfS (W := 1) (rmSrv1 l Z a0 hw [] b136 b39 y13 xb_79 xk_79 (nar .byte (y10.toInt8.toInt32)) h136 n0 zs136 A136 ge136 fn158 fn159 f150 f152 f154 hW13) hZ120 (hw _ (List.mem_of_getElem? (i := 36) rfl)) (hw _ (List.mem_of_getElem? (i := 33) rfl)) (by decide) (by decide)) (g := (mkF m 239 #[.val (.int p0), .val (.int p1), .val (.int p2), .val (.int p3), .val (.int p4), .val (.int (1 : Int32)), .val (.int (1 : Int32)), .val (.int y7), .val (.int y8), .val (.int xS0_1), .val (.int y10), .val (.int y11), .val (.int y12), .val (.int y13), .val (.int y14), .val (.ref b7), .val (.ref b39), .val (.ref b99), .unset, .unset, .unset] [(.int y13), (.ref b39), (.ref b136), (.ref b136)])) rfl (by rw [hml]; rfl) (Steps.refl _) (a := b136) (argsL := [(.ref b39), (.int y13)]) (rest := [(.ref b136)]) (lenOf own_pd9 rfl) rfl (by show 2 * 0 + _ ≤ _; exact Nat.le_of_eq rfl) (hb hby at_239) (fun _ _ => ⟨rfl, e136, (by decide : 10 + 2 ≤ _), (by decide : 36 + 20 ≤ _)⟩)
                dsimp only [Pt.U, Pt.locs, Pt.cells, Pt.slots] at XX161 hs2161 hg2161 l161 y161 z161 st161 hQ161
                subst l161 y161 z161
                obtain ⟨X161, hS161, hZ161, hown161⟩ := rebS hS120 (n1 := T136.heap.size) (by rw [e136]; exact hk160) XX161 hs2161 hg2161 hZ120 hown120
                obtain ⟨rfl, N161q, K161, po162, po163, po164⟩ := hQ161
                have f165 : Sta Z T161.heap "java/lang/String" "COMPACT_STRINGS" "Z" (.int cs) := (own_sta_keep f144 K161 (nsS A136.nostat ns0))
                have f166 : Exa Z T161.heap b7 "java/lang/String" := (f145.keep K161)
                have f167 : Arv Z T161.heap b12 k12 .char (1 : Int32) [(.int y7)] (.int (0 : Int32)) := (f146.keep K161 (ninS ne138 nin0))
                have f168 : Fld Z T161.heap b7 "java/lang/String" "value" "[B" (.ref xb_26) := (f147.keep K161 (ninS ne137 nin0))
                have f169 : Fld Z T161.heap b7 "java/lang/String" "coder" "B" (.int (0 : Int32)) := (f148.keep K161 (ninS ne137 nin0))
                have f170 : Arv Z T161.heap xb_26 xk_26 .byte (1 : Int32) [(.int (nar .byte (y7.toInt8.toInt32)))] (.int (0 : Int32)) := (f149.keep K161 (ninS ne139 nin0))
                have f171 : Exa Z T161.heap b39 "java/lang/String" := (f150.keep K161)
                have f172 : Arv Z T161.heap b52 k52 .char (1 : Int32) [(.int y10)] (.int (0 : Int32)) := (f151.keep K161 (ninS ne141 nin0))
                have f173 : Fld Z T161.heap b39 "java/lang/String" "value" "[B" (.ref xb_79) := (f152.keep K161 (ninS ne140 nin0))
                have f174 : Fld Z T161.heap b39 "java/lang/String" "coder" "B" (.int (0 : Int32)) := (f153.keep K161 (ninS ne140 nin0))
                have f175 : Arv Z T161.heap xb_79 xk_79 .byte (1 : Int32) [(.int (nar .byte (y10.toInt8.toInt32)))] (.int (0 : Int32)) := (f154.keep K161 (ninS ne142 nin0))
                have f176 : Exa Z T161.heap b99 "com/example/node_ring/nodering/pool/Server" := (f155.keep K161)
                have f177 : Fld Z T161.heap b99 "com/example/node_ring/nodering/pool/Server" "name" "Ljava/lang/String;" (.ref b7) := (f156.keep K161 (ninS ne143 nin0))
                have f178 : Fld Z T161.heap b99 "com/example/node_ring/nodering/pool/Server" "weight" "I" (.int y12) := (f157.keep K161 (ninS ne143 nin0))
                have f179 : Exa Z T161.heap b136 "com/example/node_ring/nodering/pool/Server" := (A136.keep K161)
                have zs161 : n0 ≤ T161.heap.size := Nat.le_trans zs136 K161.1
                have hk161 : T161.heap.size ≤ T161.heap.size := Nat.le_refl _
                have N161 := Fr.app N120 N161q
                refine own_goS (T' := T161) (g' := (mkF m 242 #[.val (.int p0), .val (.int p1), .val (.int p2), .val (.int p3), .val (.int p4), .val (.int (1 : Int32)), .val (.int (1 : Int32)), .val (.int y7), .val (.int y8), .val (.int xS0_1), .val (.int y10), .val (.int y11), .val (.int y12), .val (.int y13), .val (.int y14), .val (.ref b7), .val (.ref b39), .val (.ref b99), .unset, .unset, .unset] [(.ref b136)])) (fun _ k => st161.trans k) ?_
                refine own_goS (T' := T161) (g' := (mkF m 244 #[.val (.int p0), .val (.int p1), .val (.int p2), .val (.int p3), .val (.int p4), .val (.int (1 : Int32)), .val (.int (1 : Int32)), .val (.int y7), .val (.int y8), .val (.int xS0_1), .val (.int y10), .val (.int y11), .val (.int y12), .val (.int y13), .val (.int y14), .val (.ref b7), .val (.ref b39), .val (.ref b99), .val (.ref b136), .unset, .unset] [])) (fun _ k => XS.astore X161.here hx rfl (hb hby at_242) rfl rfl (l' := #[.val (.int p0), .val (.int p1), .val (.int p2), .val (.int p3), .val (.int p4), .val (.int (1 : Int32)), .val (.int (1 : Int32)), .val (.int y7), .val (.int y8), .val (.int xS0_1), .val (.int y10), .val (.int y11), .val (.int y12), .val (.int y13), .val (.int y14), .val (.ref b7), .val (.ref b39), .val (.ref b99), .val (.ref b136), .unset, .unset]) rfl k) ?_
                refine own_goS (T' := T161) (g' := (mkF m 246 #[.val (.int p0), .val (.int p1), .val (.int p2), .val (.int p3), .val (.int p4), .val (.int (1 : Int32)), .val (.int (1 : Int32)), .val (.int y7), .val (.int y8), .val (.int xS0_1), .val (.int y10), .val (.int y11), .val (.int y12), .val (.int y13), .val (.int y14), .val (.ref b7), .val (.ref b39), .val (.ref b99), .val (.ref b136), .unset, .unset] [(.int y14)])) (fun _ k => XS.iload X161.here hx rfl (hb hby at_244) rfl k) ?_
                refine own_goS (T' := T161) (g' := (mkF m 247 #[.val (.int p0), .val (.int p1), .val (.int p2), .val (.int p3), .val (.int p4), .val (.int (1 : Int32)), .val (.int (1 : Int32)), .val (.int y7), .val (.int y8), .val (.int xS0_1), .val (.int y10), .val (.int y11), .val (.int y12), .val (.int y13), .val (.int y14), .val (.ref b7), .val (.ref b39), .val (.ref b99), .val (.ref b136), .unset, .unset] [(.int (1 : Int32)), (.int y14)])) (fun _ k => XS.iconst X161.here hx rfl (hb hby at_246) k) ?_
                by_cases hc247_180 : y14 = (1 : Int32)
                · skip
                  refine own_goS (T' := T161) (g' := (mkF m 250 #[.val (.int p0), .val (.int p1), .val (.int p2), .val (.int p3), .val (.int p4), .val (.int (1 : Int32)), .val (.int (1 : Int32)), .val (.int y7), .val (.int y8), .val (.int xS0_1), .val (.int y10), .val (.int y11), .val (.int y12), .val (.int y13), .val (.int y14), .val (.ref b7), .val (.ref b39), .val (.ref b99), .val (.ref b136), .unset, .unset] [])) (fun _ k => XS.icmpNo X161.here hx rfl (hb hby at_247) rfl (XT.ii_ne_f hc247_180) k) ?_
                  refine own_goS (T' := T161) (g' := (mkF m 252 #[.val (.int p0), .val (.int p1), .val (.int p2), .val (.int p3), .val (.int p4), .val (.int (1 : Int32)), .val (.int (1 : Int32)), .val (.int y7), .val (.int y8), .val (.int xS0_1), .val (.int y10), .val (.int y11), .val (.int y12), .val (.int y13), .val (.int y14), .val (.ref b7), .val (.ref b39), .val (.ref b99), .val (.ref b136), .unset, .unset] [(.ref b99)])) (fun _ k => XS.aload X161.here hx rfl (hb hby at_250) rfl rfl k) ?_
                  refine own_goS (T' := T161) (g' := (mkF m 253 #[.val (.int p0), .val (.int p1), .val (.int p2), .val (.int p3), .val (.int p4), .val (.int (1 : Int32)), .val (.int (1 : Int32)), .val (.int y7), .val (.int y8), .val (.int xS0_1), .val (.int y10), .val (.int y11), .val (.int y12), .val (.int y13), .val (.int y14), .val (.ref b7), .val (.ref b39), .val (.ref b99), .val (.ref b136), .unset, .unset] [.null, (.ref b99)])) (fun _ k => XS.aconstNull X161.here hx rfl (hb hby at_252) k) ?_
                  obtain ⟨cq181, kq181, q181a, q181b, q181c⟩ := isOf hZ161 rfl f176
                  obtain ⟨_, _, ⟨T181, L181, k181, n181⟩, -, X181, ⟨Lc181, hQ181, l181, y181, z181⟩, st181⟩ := X161.virtualBack hx (y := (⟨"com/example/node_ring/nodering/pool/Server", "equals", "(Ljava/lang/Object;)Z"⟩ : MethodName)) (z := (⟨"com/example/node_ring/nodering/pool/Server", "equals", "(Ljava/lang/Object;)Z"⟩ : MethodName)) hown161 (mvT hZ161 (hw _ (List.mem_of_getElem? (i := 54) rfl))) (mvT hZ161 (hw _ (List.mem_of_getElem? (i := 55) rfl))) (notFace_of_selects (args := #[]) (mvT hZ161 (hw _ (List.mem_of_getElem? (i := 57) rfl)))) (mvT hZ161 (hw _ (List.mem_of_getElem? (i := 57) rfl))) (mvT hZ161 (hw _ (List.mem_of_getElem? (i := 56) rfl))) (by decide) (backOf (W := 0) (rmEN l Z a0 hw [] b99 T161.heap n0 zs161 ) hZ161 (hw _ (List.mem_of_getElem? (i := 58) rfl)) (hw _ (List.mem_of_getElem? (i := 33) rfl)) (by decide) (by decide)) q181a q181c (g := (mkF m 253 #[.val (.int p0), .val (.int p1), .val (.int p2), .val (.int p3), .val (.int p4), .val (.int (1 : Int32)), .val (.int (1 : Int32)), .val (.int y7), .val (.int y8), .val (.int xS0_1), .val (.int y10), .val (.int y11), .val (.int y12), .val (.int y13), .val (.int y14), .val (.ref b7), .val (.ref b39), .val (.ref b99), .val (.ref b136), .unset, .unset] [.null, (.ref b99)])) rfl (by rw [hml]; rfl) (Steps.refl _) (argsL := [.null]) (rest := []) (lenOf own_pd7 rfl) rfl (by show 2 * 0 + _ ≤ _; exact Nat.le_of_eq rfl) (hb hby at_253) (fun _ _ => ⟨rfl, rfl, (by decide : 12 + 0 ≤ _), (by decide : 56 + 0 ≤ _)⟩)
                  dsimp only [Pt.U, Pt.locs, Pt.cells, Pt.slots] at X181 l181 y181 z181 st181 hQ181
                  subst l181 y181 z181
                  obtain ⟨rfl, N181q, e181⟩ := hQ181
                  have N181 := Fr.app N161 N181q
                  refine own_goS (T' := T181) (g' := (mkF m 256 #[.val (.int p0), .val (.int p1), .val (.int p2), .val (.int p3), .val (.int p4), .val (.int (1 : Int32)), .val (.int (1 : Int32)), .val (.int y7), .val (.int y8), .val (.int xS0_1), .val (.int y10), .val (.int y11), .val (.int y12), .val (.int y13), .val (.int y14), .val (.ref b7), .val (.ref b39), .val (.ref b99), .val (.ref b136), .unset, .unset] [(.int (own_sN b99))])) (fun _ k => st181.trans k) ?_
                  refine own_goS (T' := T181) (g' := (mkF m 259 #[.val (.int p0), .val (.int p1), .val (.int p2), .val (.int p3), .val (.int p4), .val (.int (1 : Int32)), .val (.int (1 : Int32)), .val (.int y7), .val (.int y8), .val (.int xS0_1), .val (.int y10), .val (.int y11), .val (.int y12), .val (.int y13), .val (.int y14), .val (.ref b7), .val (.ref b39), .val (.ref b99), .val (.ref b136), .unset, .unset] [])) (fun _ k => XS.ifNo X181.here hx rfl (hb hby at_256) rfl (XT.i0_ne_f (by rfl)) k) ?_
                  refine own_goS (T' := T181) (g' := (mkF m 260 #[.val (.int p0), .val (.int p1), .val (.int p2), .val (.int p3), .val (.int p4), .val (.int (1 : Int32)), .val (.int (1 : Int32)), .val (.int y7), .val (.int y8), .val (.int xS0_1), .val (.int y10), .val (.int y11), .val (.int y12), .val (.int y13), .val (.int y14), .val (.ref b7), .val (.ref b39), .val (.ref b99), .val (.ref b136), .unset, .unset] [(.int (1 : Int32))])) (fun _ k => XS.iconst X181.here hx rfl (hb hby at_259) k) ?_
                  refine own_goS (T' := T181) (g' := (mkF m 264 #[.val (.int p0), .val (.int p1), .val (.int p2), .val (.int p3), .val (.int p4), .val (.int (1 : Int32)), .val (.int (1 : Int32)), .val (.int y7), .val (.int y8), .val (.int xS0_1), .val (.int y10), .val (.int y11), .val (.int y12), .val (.int y13), .val (.int y14), .val (.ref b7), .val (.ref b39), .val (.ref b99), .val (.ref b136), .unset, .unset] [(.int (1 : Int32))])) (fun _ k => XS.goto X181.here hx rfl (pc0 := 260) (pc' := 264) rfl (hb hby at_260) (by decide) (by decide) k) ?_
                  exact own_retNS X181 hS161 hx (t := .boolean) Bd.returns hlk (by simp) (hb hby at_264) e181 hk161 ⟨rfl, N181⟩ (by decide) (by decide)
                · skip
                  refine own_goS (T' := T161) (g' := (mkF m 265 #[.val (.int p0), .val (.int p1), .val (.int p2), .val (.int p3), .val (.int p4), .val (.int (1 : Int32)), .val (.int (1 : Int32)), .val (.int y7), .val (.int y8), .val (.int xS0_1), .val (.int y10), .val (.int y11), .val (.int y12), .val (.int y13), .val (.int y14), .val (.ref b7), .val (.ref b39), .val (.ref b99), .val (.ref b136), .unset, .unset] [])) (fun _ k => XS.icmpYes X161.here hx rfl (pc0 := 247) (pc' := 265) rfl (hb hby at_247) rfl (XT.ii_ne_t hc247_180) (by decide) (by decide) k) ?_
                  refine own_goS (T' := T161) (g' := (mkF m 267 #[.val (.int p0), .val (.int p1), .val (.int p2), .val (.int p3), .val (.int p4), .val (.int (1 : Int32)), .val (.int (1 : Int32)), .val (.int y7), .val (.int y8), .val (.int xS0_1), .val (.int y10), .val (.int y11), .val (.int y12), .val (.int y13), .val (.int y14), .val (.ref b7), .val (.ref b39), .val (.ref b99), .val (.ref b136), .unset, .unset] [(.int y14)])) (fun _ k => XS.iload X161.here hx rfl (hb hby at_265) rfl k) ?_
                  refine own_goS (T' := T161) (g' := (mkF m 268 #[.val (.int p0), .val (.int p1), .val (.int p2), .val (.int p3), .val (.int p4), .val (.int (1 : Int32)), .val (.int (1 : Int32)), .val (.int y7), .val (.int y8), .val (.int xS0_1), .val (.int y10), .val (.int y11), .val (.int y12), .val (.int y13), .val (.int y14), .val (.ref b7), .val (.ref b39), .val (.ref b99), .val (.ref b136), .unset, .unset] [(.int (2 : Int32)), (.int y14)])) (fun _ k => XS.iconst X161.here hx rfl (hb hby at_267) k) ?_
                  by_cases hc268_182 : y14 = (2 : Int32)
                  · skip
                    refine own_goS (T' := T161) (g' := (mkF m 271 #[.val (.int p0), .val (.int p1), .val (.int p2), .val (.int p3), .val (.int p4), .val (.int (1 : Int32)), .val (.int (1 : Int32)), .val (.int y7), .val (.int y8), .val (.int xS0_1), .val (.int y10), .val (.int y11), .val (.int y12), .val (.int y13), .val (.int y14), .val (.ref b7), .val (.ref b39), .val (.ref b99), .val (.ref b136), .unset, .unset] [])) (fun _ k => XS.icmpNo X161.here hx rfl (hb hby at_268) rfl (XT.ii_ne_f hc268_182) k) ?_
                    refine own_goS (T' := T161) (g' := (mkF m 273 #[.val (.int p0), .val (.int p1), .val (.int p2), .val (.int p3), .val (.int p4), .val (.int (1 : Int32)), .val (.int (1 : Int32)), .val (.int y7), .val (.int y8), .val (.int xS0_1), .val (.int y10), .val (.int y11), .val (.int y12), .val (.int y13), .val (.int y14), .val (.ref b7), .val (.ref b39), .val (.ref b99), .val (.ref b136), .unset, .unset] [(.ref b99)])) (fun _ k => XS.aload X161.here hx rfl (hb hby at_271) rfl rfl k) ?_
                    refine own_goS (T' := T161) (g' := (mkF m 275 #[.val (.int p0), .val (.int p1), .val (.int p2), .val (.int p3), .val (.int p4), .val (.int (1 : Int32)), .val (.int (1 : Int32)), .val (.int y7), .val (.int y8), .val (.int xS0_1), .val (.int y10), .val (.int y11), .val (.int y12), .val (.int y13), .val (.int y14), .val (.ref b7), .val (.ref b39), .val (.ref b99), .val (.ref b136), .unset, .unset] [(.ref b7), (.ref b99)])) (fun _ k => XS.aload X161.here hx rfl (hb hby at_273) rfl rfl k) ?_
                    obtain ⟨cq183, kq183, q183a, q183b, q183c⟩ := isOf hZ161 rfl f176
                    obtain ⟨_, _, ⟨T183, L183, k183, n183⟩, -, X183, ⟨Lc183, hQ183, l183, y183, z183⟩, st183⟩ := X161.virtualBack hx (y := (⟨"com/example/node_ring/nodering/pool/Server", "equals", "(Ljava/lang/Object;)Z"⟩ : MethodName)) (z := (⟨"com/example/node_ring/nodering/pool/Server", "equals", "(Ljava/lang/Object;)Z"⟩ : MethodName)) hown161 (mvT hZ161 (hw _ (List.mem_of_getElem? (i := 54) rfl))) (mvT hZ161 (hw _ (List.mem_of_getElem? (i := 55) rfl))) (notFace_of_selects (args := #[]) (mvT hZ161 (hw _ (List.mem_of_getElem? (i := 57) rfl)))) (mvT hZ161 (hw _ (List.mem_of_getElem? (i := 57) rfl))) (mvT hZ161 (hw _ (List.mem_of_getElem? (i := 56) rfl))) (by decide) (backOf (W := 0) (rmET l Z a0 hw [] b99 b7 T161.heap n0 zs161 f166) hZ161 (hw _ (List.mem_of_getElem? (i := 58) rfl)) (hw _ (List.mem_of_getElem? (i := 33) rfl)) (by decide) (by decide)) q183a q183c (g := (mkF m 275 #[.val (.int p0), .val (.int p1), .val (.int p2), .val (.int p3), .val (.int p4), .val (.int (1 : Int32)), .val (.int (1 : Int32)), .val (.int y7), .val (.int y8), .val (.int xS0_1), .val (.int y10), .val (.int y11), .val (.int y12), .val (.int y13), .val (.int y14), .val (.ref b7), .val (.ref b39), .val (.ref b99), .val (.ref b136), .unset, .unset] [(.ref b7), (.ref b99)])) rfl (by rw [hml]; rfl) (Steps.refl _) (argsL := [(.ref b7)]) (rest := []) (lenOf own_pd7 rfl) rfl (by show 2 * 0 + _ ≤ _; exact Nat.le_of_eq rfl) (hb hby at_275) (fun _ _ => ⟨rfl, rfl, (by decide : 12 + 0 ≤ _), (by decide : 56 + 0 ≤ _)⟩)
                    dsimp only [Pt.U, Pt.locs, Pt.cells, Pt.slots] at X183 l183 y183 z183 st183 hQ183
                    subst l183 y183 z183
                    obtain ⟨rfl, N183q, e183⟩ := hQ183
                    have N183 := Fr.app N161 N183q
                    refine own_goS (T' := T183) (g' := (mkF m 278 #[.val (.int p0), .val (.int p1), .val (.int p2), .val (.int p3), .val (.int p4), .val (.int (1 : Int32)), .val (.int (1 : Int32)), .val (.int y7), .val (.int y8), .val (.int xS0_1), .val (.int y10), .val (.int y11), .val (.int y12), .val (.int y13), .val (.int y14), .val (.ref b7), .val (.ref b39), .val (.ref b99), .val (.ref b136), .unset, .unset] [(.int (own_sT b99 b7))])) (fun _ k => st183.trans k) ?_
                    refine own_goS (T' := T183) (g' := (mkF m 281 #[.val (.int p0), .val (.int p1), .val (.int p2), .val (.int p3), .val (.int p4), .val (.int (1 : Int32)), .val (.int (1 : Int32)), .val (.int y7), .val (.int y8), .val (.int xS0_1), .val (.int y10), .val (.int y11), .val (.int y12), .val (.int y13), .val (.int y14), .val (.ref b7), .val (.ref b39), .val (.ref b99), .val (.ref b136), .unset, .unset] [])) (fun _ k => XS.ifNo X183.here hx rfl (hb hby at_278) rfl (XT.i0_ne_f (by rfl)) k) ?_
                    refine own_goS (T' := T183) (g' := (mkF m 282 #[.val (.int p0), .val (.int p1), .val (.int p2), .val (.int p3), .val (.int p4), .val (.int (1 : Int32)), .val (.int (1 : Int32)), .val (.int y7), .val (.int y8), .val (.int xS0_1), .val (.int y10), .val (.int y11), .val (.int y12), .val (.int y13), .val (.int y14), .val (.ref b7), .val (.ref b39), .val (.ref b99), .val (.ref b136), .unset, .unset] [(.int (1 : Int32))])) (fun _ k => XS.iconst X183.here hx rfl (hb hby at_281) k) ?_
                    refine own_goS (T' := T183) (g' := (mkF m 286 #[.val (.int p0), .val (.int p1), .val (.int p2), .val (.int p3), .val (.int p4), .val (.int (1 : Int32)), .val (.int (1 : Int32)), .val (.int y7), .val (.int y8), .val (.int xS0_1), .val (.int y10), .val (.int y11), .val (.int y12), .val (.int y13), .val (.int y14), .val (.ref b7), .val (.ref b39), .val (.ref b99), .val (.ref b136), .unset, .unset] [(.int (1 : Int32))])) (fun _ k => XS.goto X183.here hx rfl (pc0 := 282) (pc' := 286) rfl (hb hby at_282) (by decide) (by decide) k) ?_
                    exact own_retNS X183 hS161 hx (t := .boolean) Bd.returns hlk (by simp) (hb hby at_286) e183 hk161 ⟨rfl, N183⟩ (by decide) (by decide)
                  · skip
                    refine own_goS (T' := T161) (g' := (mkF m 287 #[.val (.int p0), .val (.int p1), .val (.int p2), .val (.int p3), .val (.int p4), .val (.int (1 : Int32)), .val (.int (1 : Int32)), .val (.int y7), .val (.int y8), .val (.int xS0_1), .val (.int y10), .val (.int y11), .val (.int y12), .val (.int y13), .val (.int y14), .val (.ref b7), .val (.ref b39), .val (.ref b99), .val (.ref b136), .unset, .unset] [])) (fun _ k => XS.icmpYes X161.here hx rfl (pc0 := 268) (pc' := 287) rfl (hb hby at_268) rfl (XT.ii_ne_t hc268_182) (by decide) (by decide) k) ?_
                    refine own_goS (T' := T161) (g' := (mkF m 289 #[.val (.int p0), .val (.int p1), .val (.int p2), .val (.int p3), .val (.int p4), .val (.int (1 : Int32)), .val (.int (1 : Int32)), .val (.int y7), .val (.int y8), .val (.int xS0_1), .val (.int y10), .val (.int y11), .val (.int y12), .val (.int y13), .val (.int y14), .val (.ref b7), .val (.ref b39), .val (.ref b99), .val (.ref b136), .unset, .unset] [(.int y14)])) (fun _ k => XS.iload X161.here hx rfl (hb hby at_287) rfl k) ?_
                    refine own_goS (T' := T161) (g' := (mkF m 290 #[.val (.int p0), .val (.int p1), .val (.int p2), .val (.int p3), .val (.int p4), .val (.int (1 : Int32)), .val (.int (1 : Int32)), .val (.int y7), .val (.int y8), .val (.int xS0_1), .val (.int y10), .val (.int y11), .val (.int y12), .val (.int y13), .val (.int y14), .val (.ref b7), .val (.ref b39), .val (.ref b99), .val (.ref b136), .unset, .unset] [(.int (3 : Int32)), (.int y14)])) (fun _ k => XS.iconst X161.here hx rfl (hb hby at_289) k) ?_
                    by_cases hc290_184 : y14 = (3 : Int32)
                    · skip
                      refine own_goS (T' := T161) (g' := (mkF m 293 #[.val (.int p0), .val (.int p1), .val (.int p2), .val (.int p3), .val (.int p4), .val (.int (1 : Int32)), .val (.int (1 : Int32)), .val (.int y7), .val (.int y8), .val (.int xS0_1), .val (.int y10), .val (.int y11), .val (.int y12), .val (.int y13), .val (.int y14), .val (.ref b7), .val (.ref b39), .val (.ref b99), .val (.ref b136), .unset, .unset] [])) (fun _ k => XS.icmpNo X161.here hx rfl (hb hby at_290) rfl (XT.ii_ne_f hc290_184) k) ?_
                      refine own_goS (T' := T161) (g' := (mkF m 295 #[.val (.int p0), .val (.int p1), .val (.int p2), .val (.int p3), .val (.int p4), .val (.int (1 : Int32)), .val (.int (1 : Int32)), .val (.int y7), .val (.int y8), .val (.int xS0_1), .val (.int y10), .val (.int y11), .val (.int y12), .val (.int y13), .val (.int y14), .val (.ref b7), .val (.ref b39), .val (.ref b99), .val (.ref b136), .unset, .unset] [(.ref b99)])) (fun _ k => XS.aload X161.here hx rfl (hb hby at_293) rfl rfl k) ?_
                      refine own_goS (T' := T161) (g' := (mkF m 297 #[.val (.int p0), .val (.int p1), .val (.int p2), .val (.int p3), .val (.int p4), .val (.int (1 : Int32)), .val (.int (1 : Int32)), .val (.int y7), .val (.int y8), .val (.int xS0_1), .val (.int y10), .val (.int y11), .val (.int y12), .val (.int y13), .val (.int y14), .val (.ref b7), .val (.ref b39), .val (.ref b99), .val (.ref b136), .unset, .unset] [(.ref b99), (.ref b99)])) (fun _ k => XS.aload X161.here hx rfl (hb hby at_295) rfl rfl k) ?_
                      obtain ⟨cq185, kq185, q185a, q185b, q185c⟩ := isOf hZ161 rfl f176
                      obtain ⟨_, _, ⟨T185, L185, k185, n185⟩, -, X185, ⟨Lc185, hQ185, l185, y185, z185⟩, st185⟩ := X161.virtualBack hx (y := (⟨"com/example/node_ring/nodering/pool/Server", "equals", "(Ljava/lang/Object;)Z"⟩ : MethodName)) (z := (⟨"com/example/node_ring/nodering/pool/Server", "equals", "(Ljava/lang/Object;)Z"⟩ : MethodName)) hown161 (mvT hZ161 (hw _ (List.mem_of_getElem? (i := 54) rfl))) (mvT hZ161 (hw _ (List.mem_of_getElem? (i := 55) rfl))) (notFace_of_selects (args := #[]) (mvT hZ161 (hw _ (List.mem_of_getElem? (i := 57) rfl)))) (mvT hZ161 (hw _ (List.mem_of_getElem? (i := 57) rfl))) (mvT hZ161 (hw _ (List.mem_of_getElem? (i := 56) rfl))) (by decide) (backOf (W := 0) (rmES l Z a0 hw [] b99 b7 y12 T161.heap n0 zs161 f176 f177 f178 f166) hZ161 (hw _ (List.mem_of_getElem? (i := 58) rfl)) (hw _ (List.mem_of_getElem? (i := 33) rfl)) (by decide) (by decide)) q185a q185c (g := (mkF m 297 #[.val (.int p0), .val (.int p1), .val (.int p2), .val (.int p3), .val (.int p4), .val (.int (1 : Int32)), .val (.int (1 : Int32)), .val (.int y7), .val (.int y8), .val (.int xS0_1), .val (.int y10), .val (.int y11), .val (.int y12), .val (.int y13), .val (.int y14), .val (.ref b7), .val (.ref b39), .val (.ref b99), .val (.ref b136), .unset, .unset] [(.ref b99), (.ref b99)])) rfl (by rw [hml]; rfl) (Steps.refl _) (argsL := [(.ref b99)]) (rest := []) (lenOf own_pd7 rfl) rfl (by show 2 * 0 + _ ≤ _; exact Nat.le_of_eq rfl) (hb hby at_297) (fun _ _ => ⟨rfl, rfl, (by decide : 12 + 0 ≤ _), (by decide : 56 + 0 ≤ _)⟩)
                      dsimp only [Pt.U, Pt.locs, Pt.cells, Pt.slots] at X185 l185 y185 z185 st185 hQ185
                      subst l185 y185 z185
                      obtain ⟨rfl, N185q, e185⟩ := hQ185
                      have N185 := Fr.app N161 N185q
                      refine own_goS (T' := T185) (g' := (mkF m 300 #[.val (.int p0), .val (.int p1), .val (.int p2), .val (.int p3), .val (.int p4), .val (.int (1 : Int32)), .val (.int (1 : Int32)), .val (.int y7), .val (.int y8), .val (.int xS0_1), .val (.int y10), .val (.int y11), .val (.int y12), .val (.int y13), .val (.int y14), .val (.ref b7), .val (.ref b39), .val (.ref b99), .val (.ref b136), .unset, .unset] [(.int (own_sS b99 b7 y12))])) (fun _ k => st185.trans k) ?_
                      exact own_retNS X185 hS161 hx (t := .boolean) Bd.returns hlk (by simp) (hb hby at_300) e185 hk161 ⟨(by unfold own_sS; rfl), N185⟩ (by decide) (by decide)
                    · skip
                      refine own_goS (T' := T161) (g' := (mkF m 301 #[.val (.int p0), .val (.int p1), .val (.int p2), .val (.int p3), .val (.int p4), .val (.int (1 : Int32)), .val (.int (1 : Int32)), .val (.int y7), .val (.int y8), .val (.int xS0_1), .val (.int y10), .val (.int y11), .val (.int y12), .val (.int y13), .val (.int y14), .val (.ref b7), .val (.ref b39), .val (.ref b99), .val (.ref b136), .unset, .unset] [])) (fun _ k => XS.icmpYes X161.here hx rfl (pc0 := 290) (pc' := 301) rfl (hb hby at_290) rfl (XT.ii_ne_t hc290_184) (by decide) (by decide) k) ?_
                      refine own_goS (T' := T161) (g' := (mkF m 303 #[.val (.int p0), .val (.int p1), .val (.int p2), .val (.int p3), .val (.int p4), .val (.int (1 : Int32)), .val (.int (1 : Int32)), .val (.int y7), .val (.int y8), .val (.int xS0_1), .val (.int y10), .val (.int y11), .val (.int y12), .val (.int y13), .val (.int y14), .val (.ref b7), .val (.ref b39), .val (.ref b99), .val (.ref b136), .unset, .unset] [(.int (1 : Int32))])) (fun _ k => XS.iload X161.here hx rfl (hb hby at_301) rfl k) ?_
                      refine own_goS (T' := T161) (g' := (mkF m 305 #[.val (.int p0), .val (.int p1), .val (.int p2), .val (.int p3), .val (.int p4), .val (.int (1 : Int32)), .val (.int (1 : Int32)), .val (.int y7), .val (.int y8), .val (.int xS0_1), .val (.int y10), .val (.int y11), .val (.int y12), .val (.int y13), .val (.int y14), .val (.ref b7), .val (.ref b39), .val (.ref b99), .val (.ref b136), .unset, .unset] [(.int (1 : Int32)), (.int (1 : Int32))])) (fun _ k => XS.iload X161.here hx rfl (hb hby at_303) rfl k) ?_
                      have J333_186 : ∀ (xS0_186 : Int32) (hxS0_186 : xS0_186 = (if y7 = y10 then (1 : Int32) else (0 : Int32))), own_WS p e below s (Q_rm0 Z p0 p1 p2 p3 p4 cs h0 n0) 32 1152 T161 (mkF m 333 #[.val (.int p0), .val (.int p1), .val (.int p2), .val (.int p3), .val (.int p4), .val (.int (1 : Int32)), .val (.int (1 : Int32)), .val (.int y7), .val (.int y8), .val (.int xS0_1), .val (.int y10), .val (.int y11), .val (.int y12), .val (.int y13), .val (.int y14), .val (.ref b7), .val (.ref b39), .val (.ref b99), .val (.ref b136), .unset, .unset] [(.int xS0_186)]) := by
                        intro xS0_186 hxS0_186
                        refine own_goS (T' := T161) (g' := (mkF m 335 #[.val (.int p0), .val (.int p1), .val (.int p2), .val (.int p3), .val (.int p4), .val (.int (1 : Int32)), .val (.int (1 : Int32)), .val (.int y7), .val (.int y8), .val (.int xS0_1), .val (.int y10), .val (.int y11), .val (.int y12), .val (.int y13), .val (.int y14), .val (.ref b7), .val (.ref b39), .val (.ref b99), .val (.ref b136), .val (.int xS0_186), .unset] [])) (fun _ k => XS.istore X161.here hx rfl (hb hby at_333) rfl (l' := #[.val (.int p0), .val (.int p1), .val (.int p2), .val (.int p3), .val (.int p4), .val (.int (1 : Int32)), .val (.int (1 : Int32)), .val (.int y7), .val (.int y8), .val (.int xS0_1), .val (.int y10), .val (.int y11), .val (.int y12), .val (.int y13), .val (.int y14), .val (.ref b7), .val (.ref b39), .val (.ref b99), .val (.ref b136), .val (.int xS0_186), .unset]) rfl k) ?_
                        refine own_goS (T' := T161) (g' := (mkF m 337 #[.val (.int p0), .val (.int p1), .val (.int p2), .val (.int p3), .val (.int p4), .val (.int (1 : Int32)), .val (.int (1 : Int32)), .val (.int y7), .val (.int y8), .val (.int xS0_1), .val (.int y10), .val (.int y11), .val (.int y12), .val (.int y13), .val (.int y14), .val (.ref b7), .val (.ref b39), .val (.ref b99), .val (.ref b136), .val (.int xS0_186), .unset] [(.int xS0_186)])) (fun _ k => XS.iload X161.here hx rfl (hb hby at_335) rfl k) ?_
                        have J352_187 : ∀ (xS0_187 : Int32) (hxS0_187 : xS0_187 = (if xS0_186 = (0 : Int32) then (0 : Int32) else (if y12 = y13 then (1 : Int32) else (0 : Int32)))), own_WS p e below s (Q_rm0 Z p0 p1 p2 p3 p4 cs h0 n0) 32 1152 T161 (mkF m 352 #[.val (.int p0), .val (.int p1), .val (.int p2), .val (.int p3), .val (.int p4), .val (.int (1 : Int32)), .val (.int (1 : Int32)), .val (.int y7), .val (.int y8), .val (.int xS0_1), .val (.int y10), .val (.int y11), .val (.int y12), .val (.int y13), .val (.int y14), .val (.ref b7), .val (.ref b39), .val (.ref b99), .val (.ref b136), .val (.int xS0_186), .unset] [(.int xS0_187)]) := by
                          intro xS0_187 hxS0_187
                          refine own_goS (T' := T161) (g' := (mkF m 354 #[.val (.int p0), .val (.int p1), .val (.int p2), .val (.int p3), .val (.int p4), .val (.int (1 : Int32)), .val (.int (1 : Int32)), .val (.int y7), .val (.int y8), .val (.int xS0_1), .val (.int y10), .val (.int y11), .val (.int y12), .val (.int y13), .val (.int y14), .val (.ref b7), .val (.ref b39), .val (.ref b99), .val (.ref b136), .val (.int xS0_186), .val (.int xS0_187)] [])) (fun _ k => XS.istore X161.here hx rfl (hb hby at_352) rfl (l' := #[.val (.int p0), .val (.int p1), .val (.int p2), .val (.int p3), .val (.int p4), .val (.int (1 : Int32)), .val (.int (1 : Int32)), .val (.int y7), .val (.int y8), .val (.int xS0_1), .val (.int y10), .val (.int y11), .val (.int y12), .val (.int y13), .val (.int y14), .val (.ref b7), .val (.ref b39), .val (.ref b99), .val (.ref b136), .val (.int xS0_186), .val (.int xS0_187)]) rfl k) ?_
                          refine own_goS (T' := T161) (g' := (mkF m 356 #[.val (.int p0), .val (.int p1), .val (.int p2), .val (.int p3), .val (.int p4), .val (.int (1 : Int32)), .val (.int (1 : Int32)), .val (.int y7), .val (.int y8), .val (.int xS0_1), .val (.int y10), .val (.int y11), .val (.int y12), .val (.int y13), .val (.int y14), .val (.ref b7), .val (.ref b39), .val (.ref b99), .val (.ref b136), .val (.int xS0_186), .val (.int xS0_187)] [(.ref b99)])) (fun _ k => XS.aload X161.here hx rfl (hb hby at_354) rfl rfl k) ?_
                          refine own_goS (T' := T161) (g' := (mkF m 358 #[.val (.int p0), .val (.int p1), .val (.int p2), .val (.int p3), .val (.int p4), .val (.int (1 : Int32)), .val (.int (1 : Int32)), .val (.int y7), .val (.int y8), .val (.int xS0_1), .val (.int y10), .val (.int y11), .val (.int y12), .val (.int y13), .val (.int y14), .val (.ref b7), .val (.ref b39), .val (.ref b99), .val (.ref b136), .val (.int xS0_186), .val (.int xS0_187)] [(.ref b136), (.ref b99)])) (fun _ k => XS.aload X161.here hx rfl (hb hby at_356) rfl rfl k) ?_
                          obtain ⟨cq188, kq188, q188a, q188b, q188c⟩ := isOf hZ161 rfl f176
                          obtain ⟨_, _, ⟨T188, L188, k188, n188⟩, -, X188, ⟨Lc188, hQ188, l188, y188, z188⟩, st188⟩ := X161.virtualBack hx (y := (⟨"com/example/node_ring/nodering/pool/Server", "equals", "(Ljava/lang/Object;)Z"⟩ : MethodName)) (z := (⟨"com/example/node_ring/nodering/pool/Server", "equals", "(Ljava/lang/Object;)Z"⟩ : MethodName)) hown161 (mvT hZ161 (hw _ (List.mem_of_getElem? (i := 54) rfl))) (mvT hZ161 (hw _ (List.mem_of_getElem? (i := 55) rfl))) (notFace_of_selects (args := #[]) (mvT hZ161 (hw _ (List.mem_of_getElem? (i := 57) rfl)))) (mvT hZ161 (hw _ (List.mem_of_getElem? (i := 57) rfl))) (mvT hZ161 (hw _ (List.mem_of_getElem? (i := 56) rfl))) (by decide) (backOf (W := 0) (rmE11 l Z a0 hw [] b99 b136 b7 y12 xb_26 xk_26 (nar .byte (y7.toInt8.toInt32)) b39 y13 xb_79 xk_79 (nar .byte (y10.toInt8.toInt32)) cs T161.heap n0 zs161 f176 f177 f178 f166 f169 f168 f170 po164 po162 po163 f171 f174 f173 f175 f165 hh0 ne40) hZ161 (hw _ (List.mem_of_getElem? (i := 58) rfl)) (hw _ (List.mem_of_getElem? (i := 33) rfl)) (by decide) (by decide)) q188a q188c (g := (mkF m 358 #[.val (.int p0), .val (.int p1), .val (.int p2), .val (.int p3), .val (.int p4), .val (.int (1 : Int32)), .val (.int (1 : Int32)), .val (.int y7), .val (.int y8), .val (.int xS0_1), .val (.int y10), .val (.int y11), .val (.int y12), .val (.int y13), .val (.int y14), .val (.ref b7), .val (.ref b39), .val (.ref b99), .val (.ref b136), .val (.int xS0_186), .val (.int xS0_187)] [(.ref b136), (.ref b99)])) rfl (by rw [hml]; rfl) (Steps.refl _) (argsL := [(.ref b136)]) (rest := []) (lenOf own_pd7 rfl) rfl (by show 2 * 0 + _ ≤ _; exact Nat.le_of_eq rfl) (hb hby at_358) (fun _ _ => ⟨rfl, rfl, (by decide : 12 + 0 ≤ _), (by decide : 56 + 0 ≤ _)⟩)
                          dsimp only [Pt.U, Pt.locs, Pt.cells, Pt.slots] at X188 l188 y188 z188 st188 hQ188
                          subst l188 y188 z188
                          obtain ⟨rfl, N188q, e188⟩ := hQ188
                          have N188 := Fr.app N161 N188q
                          refine own_goS (T' := T188) (g' := (mkF m 361 #[.val (.int p0), .val (.int p1), .val (.int p2), .val (.int p3), .val (.int p4), .val (.int (1 : Int32)), .val (.int (1 : Int32)), .val (.int y7), .val (.int y8), .val (.int xS0_1), .val (.int y10), .val (.int y11), .val (.int y12), .val (.int y13), .val (.int y14), .val (.ref b7), .val (.ref b39), .val (.ref b99), .val (.ref b136), .val (.int xS0_186), .val (.int xS0_187)] [(.int (own_s11 b99 b136 b7 y12 xb_26 xk_26 (nar .byte (y7.toInt8.toInt32)) b39 y13 xb_79 xk_79 (nar .byte (y10.toInt8.toInt32)) cs))])) (fun _ k => st188.trans k) ?_
                          refine own_goS (T' := T188) (g' := (mkF m 363 #[.val (.int p0), .val (.int p1), .val (.int p2), .val (.int p3), .val (.int p4), .val (.int (1 : Int32)), .val (.int (1 : Int32)), .val (.int y7), .val (.int y8), .val (.int xS0_1), .val (.int y10), .val (.int y11), .val (.int y12), .val (.int y13), .val (.int y14), .val (.ref b7), .val (.ref b39), .val (.ref b99), .val (.ref b136), .val (.int xS0_186), .val (.int xS0_187)] [(.int xS0_187), (.int (own_s11 b99 b136 b7 y12 xb_26 xk_26 (nar .byte (y7.toInt8.toInt32)) b39 y13 xb_79 xk_79 (nar .byte (y10.toInt8.toInt32)) cs))])) (fun _ k => XS.iload X188.here hx rfl (hb hby at_361) rfl k) ?_
                          refine own_goS (T' := T188) (g' := (mkF m 366 #[.val (.int p0), .val (.int p1), .val (.int p2), .val (.int p3), .val (.int p4), .val (.int (1 : Int32)), .val (.int (1 : Int32)), .val (.int y7), .val (.int y8), .val (.int xS0_1), .val (.int y10), .val (.int y11), .val (.int y12), .val (.int y13), .val (.int y14), .val (.ref b7), .val (.ref b39), .val (.ref b99), .val (.ref b136), .val (.int xS0_186), .val (.int xS0_187)] [])) (fun _ k => XS.icmpNo X188.here hx rfl (hb hby at_363) rfl (XT.ii_ne_f (own_f1 hC7 hC10 hxS0_186 hxS0_187)) k) ?_
                          refine own_goS (T' := T188) (g' := (mkF m 368 #[.val (.int p0), .val (.int p1), .val (.int p2), .val (.int p3), .val (.int p4), .val (.int (1 : Int32)), .val (.int (1 : Int32)), .val (.int y7), .val (.int y8), .val (.int xS0_1), .val (.int y10), .val (.int y11), .val (.int y12), .val (.int y13), .val (.int y14), .val (.ref b7), .val (.ref b39), .val (.ref b99), .val (.ref b136), .val (.int xS0_186), .val (.int xS0_187)] [(.ref b136)])) (fun _ k => XS.aload X188.here hx rfl (hb hby at_366) rfl rfl k) ?_
                          refine own_goS (T' := T188) (g' := (mkF m 370 #[.val (.int p0), .val (.int p1), .val (.int p2), .val (.int p3), .val (.int p4), .val (.int (1 : Int32)), .val (.int (1 : Int32)), .val (.int y7), .val (.int y8), .val (.int xS0_1), .val (.int y10), .val (.int y11), .val (.int y12), .val (.int y13), .val (.int y14), .val (.ref b7), .val (.ref b39), .val (.ref b99), .val (.ref b136), .val (.int xS0_186), .val (.int xS0_187)] [(.ref b99), (.ref b136)])) (fun _ k => XS.aload X188.here hx rfl (hb hby at_368) rfl rfl k) ?_
                          obtain ⟨cq189, kq189, q189a, q189b, q189c⟩ := isOf hZ161 e188 po164
                          obtain ⟨_, _, ⟨T189, L189, k189, n189⟩, -, X189, ⟨Lc189, hQ189, l189, y189, z189⟩, st189⟩ := X188.virtualBack hx (y := (⟨"com/example/node_ring/nodering/pool/Server", "equals", "(Ljava/lang/Object;)Z"⟩ : MethodName)) (z := (⟨"com/example/node_ring/nodering/pool/Server", "equals", "(Ljava/lang/Object;)Z"⟩ : MethodName)) hown161 (mvT hZ161 (hw _ (List.mem_of_getElem? (i := 54) rfl))) (mvT hZ161 (hw _ (List.mem_of_getElem? (i := 55) rfl))) (notFace_of_selects (args := #[]) (mvT hZ161 (hw _ (List.mem_of_getElem? (i := 57) rfl)))) (mvT hZ161 (hw _ (List.mem_of_getElem? (i := 57) rfl))) (mvT hZ161 (hw _ (List.mem_of_getElem? (i := 56) rfl))) (by decide) (backOf (W := 0) (rmE11 l Z a0 hw [] b136 b99 b39 y13 xb_79 xk_79 (nar .byte (y10.toInt8.toInt32)) b7 y12 xb_26 xk_26 (nar .byte (y7.toInt8.toInt32)) cs T161.heap n0 zs161 po164 po162 po163 f171 f174 f173 f175 f176 f177 f178 f166 f169 f168 f170 f165 hh0 (Ne.symm ne40)) hZ161 (hw _ (List.mem_of_getElem? (i := 58) rfl)) (hw _ (List.mem_of_getElem? (i := 33) rfl)) (by decide) (by decide)) q189a q189c (g := (mkF m 370 #[.val (.int p0), .val (.int p1), .val (.int p2), .val (.int p3), .val (.int p4), .val (.int (1 : Int32)), .val (.int (1 : Int32)), .val (.int y7), .val (.int y8), .val (.int xS0_1), .val (.int y10), .val (.int y11), .val (.int y12), .val (.int y13), .val (.int y14), .val (.ref b7), .val (.ref b39), .val (.ref b99), .val (.ref b136), .val (.int xS0_186), .val (.int xS0_187)] [(.ref b99), (.ref b136)])) rfl (by rw [hml]; rfl) (Steps.refl _) (argsL := [(.ref b99)]) (rest := []) (lenOf own_pd7 rfl) rfl (by show 2 * 0 + _ ≤ _; exact Nat.le_of_eq rfl) (hb hby at_370) (fun _ _ => ⟨rfl, e188, (by decide : 12 + 0 ≤ _), (by decide : 56 + 0 ≤ _)⟩)
                          dsimp only [Pt.U, Pt.locs, Pt.cells, Pt.slots] at X189 l189 y189 z189 st189 hQ189
                          subst l189 y189 z189
                          obtain ⟨rfl, N189q, e189⟩ := hQ189
                          have N189 := Fr.app N188 N189q
                          refine own_goS (T' := T189) (g' := (mkF m 373 #[.val (.int p0), .val (.int p1), .val (.int p2), .val (.int p3), .val (.int p4), .val (.int (1 : Int32)), .val (.int (1 : Int32)), .val (.int y7), .val (.int y8), .val (.int xS0_1), .val (.int y10), .val (.int y11), .val (.int y12), .val (.int y13), .val (.int y14), .val (.ref b7), .val (.ref b39), .val (.ref b99), .val (.ref b136), .val (.int xS0_186), .val (.int xS0_187)] [(.int (own_s11 b136 b99 b39 y13 xb_79 xk_79 (nar .byte (y10.toInt8.toInt32)) b7 y12 xb_26 xk_26 (nar .byte (y7.toInt8.toInt32)) cs))])) (fun _ k => st189.trans k) ?_
                          refine own_goS (T' := T189) (g' := (mkF m 375 #[.val (.int p0), .val (.int p1), .val (.int p2), .val (.int p3), .val (.int p4), .val (.int (1 : Int32)), .val (.int (1 : Int32)), .val (.int y7), .val (.int y8), .val (.int xS0_1), .val (.int y10), .val (.int y11), .val (.int y12), .val (.int y13), .val (.int y14), .val (.ref b7), .val (.ref b39), .val (.ref b99), .val (.ref b136), .val (.int xS0_186), .val (.int xS0_187)] [(.int xS0_187), (.int (own_s11 b136 b99 b39 y13 xb_79 xk_79 (nar .byte (y10.toInt8.toInt32)) b7 y12 xb_26 xk_26 (nar .byte (y7.toInt8.toInt32)) cs))])) (fun _ k => XS.iload X189.here hx rfl (hb hby at_373) rfl k) ?_
                          refine own_goS (T' := T189) (g' := (mkF m 378 #[.val (.int p0), .val (.int p1), .val (.int p2), .val (.int p3), .val (.int p4), .val (.int (1 : Int32)), .val (.int (1 : Int32)), .val (.int y7), .val (.int y8), .val (.int xS0_1), .val (.int y10), .val (.int y11), .val (.int y12), .val (.int y13), .val (.int y14), .val (.ref b7), .val (.ref b39), .val (.ref b99), .val (.ref b136), .val (.int xS0_186), .val (.int xS0_187)] [])) (fun _ k => XS.icmpNo X189.here hx rfl (hb hby at_375) rfl (XT.ii_ne_f (own_f1 hC10 hC7 (own_sw1 hxS0_186) (own_sw3 hxS0_187))) k) ?_
                          refine own_goS (T' := T189) (g' := (mkF m 379 #[.val (.int p0), .val (.int p1), .val (.int p2), .val (.int p3), .val (.int p4), .val (.int (1 : Int32)), .val (.int (1 : Int32)), .val (.int y7), .val (.int y8), .val (.int xS0_1), .val (.int y10), .val (.int y11), .val (.int y12), .val (.int y13), .val (.int y14), .val (.ref b7), .val (.ref b39), .val (.ref b99), .val (.ref b136), .val (.int xS0_186), .val (.int xS0_187)] [(.int (1 : Int32))])) (fun _ k => XS.iconst X189.here hx rfl (hb hby at_378) k) ?_
                          refine own_goS (T' := T189) (g' := (mkF m 383 #[.val (.int p0), .val (.int p1), .val (.int p2), .val (.int p3), .val (.int p4), .val (.int (1 : Int32)), .val (.int (1 : Int32)), .val (.int y7), .val (.int y8), .val (.int xS0_1), .val (.int y10), .val (.int y11), .val (.int y12), .val (.int y13), .val (.int y14), .val (.ref b7), .val (.ref b39), .val (.ref b99), .val (.ref b136), .val (.int xS0_186), .val (.int xS0_187)] [(.int (1 : Int32))])) (fun _ k => XS.goto X189.here hx rfl (pc0 := 379) (pc' := 383) rfl (hb hby at_379) (by decide) (by decide) k) ?_
                          exact own_retNS X189 hS161 hx (t := .boolean) Bd.returns hlk (by simp) (hb hby at_383) e189 hk161 ⟨rfl, N189⟩ (by decide) (by decide)
                        by_cases hc337_190 : xS0_186 = (0 : Int32)
                        · skip
                          refine own_goS (T' := T161) (g' := (mkF m 351 #[.val (.int p0), .val (.int p1), .val (.int p2), .val (.int p3), .val (.int p4), .val (.int (1 : Int32)), .val (.int (1 : Int32)), .val (.int y7), .val (.int y8), .val (.int xS0_1), .val (.int y10), .val (.int y11), .val (.int y12), .val (.int y13), .val (.int y14), .val (.ref b7), .val (.ref b39), .val (.ref b99), .val (.ref b136), .val (.int xS0_186), .unset] [])) (fun _ k => XS.ifYes X161.here hx rfl (pc0 := 337) (pc' := 351) rfl (hb hby at_337) rfl (XT.i0_eq_t hc337_190) (by decide) (by decide) k) ?_
                          refine own_goS (T' := T161) (g' := (mkF m 352 #[.val (.int p0), .val (.int p1), .val (.int p2), .val (.int p3), .val (.int p4), .val (.int (1 : Int32)), .val (.int (1 : Int32)), .val (.int y7), .val (.int y8), .val (.int xS0_1), .val (.int y10), .val (.int y11), .val (.int y12), .val (.int y13), .val (.int y14), .val (.ref b7), .val (.ref b39), .val (.ref b99), .val (.ref b136), .val (.int xS0_186), .unset] [(.int (0 : Int32))])) (fun _ k => XS.iconst X161.here hx rfl (hb hby at_351) k) ?_
                          exact J352_187 _ (by rw [if_pos hc337_190])
                        · skip
                          refine own_goS (T' := T161) (g' := (mkF m 340 #[.val (.int p0), .val (.int p1), .val (.int p2), .val (.int p3), .val (.int p4), .val (.int (1 : Int32)), .val (.int (1 : Int32)), .val (.int y7), .val (.int y8), .val (.int xS0_1), .val (.int y10), .val (.int y11), .val (.int y12), .val (.int y13), .val (.int y14), .val (.ref b7), .val (.ref b39), .val (.ref b99), .val (.ref b136), .val (.int xS0_186), .unset] [])) (fun _ k => XS.ifNo X161.here hx rfl (hb hby at_337) rfl (XT.i0_eq_f hc337_190) k) ?_
                          refine own_goS (T' := T161) (g' := (mkF m 342 #[.val (.int p0), .val (.int p1), .val (.int p2), .val (.int p3), .val (.int p4), .val (.int (1 : Int32)), .val (.int (1 : Int32)), .val (.int y7), .val (.int y8), .val (.int xS0_1), .val (.int y10), .val (.int y11), .val (.int y12), .val (.int y13), .val (.int y14), .val (.ref b7), .val (.ref b39), .val (.ref b99), .val (.ref b136), .val (.int xS0_186), .unset] [(.int y12)])) (fun _ k => XS.iload X161.here hx rfl (hb hby at_340) rfl k) ?_
                          refine own_goS (T' := T161) (g' := (mkF m 344 #[.val (.int p0), .val (.int p1), .val (.int p2), .val (.int p3), .val (.int p4), .val (.int (1 : Int32)), .val (.int (1 : Int32)), .val (.int y7), .val (.int y8), .val (.int xS0_1), .val (.int y10), .val (.int y11), .val (.int y12), .val (.int y13), .val (.int y14), .val (.ref b7), .val (.ref b39), .val (.ref b99), .val (.ref b136), .val (.int xS0_186), .unset] [(.int y13), (.int y12)])) (fun _ k => XS.iload X161.here hx rfl (hb hby at_342) rfl k) ?_
                          by_cases hc344_191 : y12 = y13
                          · skip
                            refine own_goS (T' := T161) (g' := (mkF m 347 #[.val (.int p0), .val (.int p1), .val (.int p2), .val (.int p3), .val (.int p4), .val (.int (1 : Int32)), .val (.int (1 : Int32)), .val (.int y7), .val (.int y8), .val (.int xS0_1), .val (.int y10), .val (.int y11), .val (.int y12), .val (.int y13), .val (.int y14), .val (.ref b7), .val (.ref b39), .val (.ref b99), .val (.ref b136), .val (.int xS0_186), .unset] [])) (fun _ k => XS.icmpNo X161.here hx rfl (hb hby at_344) rfl (XT.ii_ne_f hc344_191) k) ?_
                            refine own_goS (T' := T161) (g' := (mkF m 348 #[.val (.int p0), .val (.int p1), .val (.int p2), .val (.int p3), .val (.int p4), .val (.int (1 : Int32)), .val (.int (1 : Int32)), .val (.int y7), .val (.int y8), .val (.int xS0_1), .val (.int y10), .val (.int y11), .val (.int y12), .val (.int y13), .val (.int y14), .val (.ref b7), .val (.ref b39), .val (.ref b99), .val (.ref b136), .val (.int xS0_186), .unset] [(.int (1 : Int32))])) (fun _ k => XS.iconst X161.here hx rfl (hb hby at_347) k) ?_
                            refine own_goS (T' := T161) (g' := (mkF m 352 #[.val (.int p0), .val (.int p1), .val (.int p2), .val (.int p3), .val (.int p4), .val (.int (1 : Int32)), .val (.int (1 : Int32)), .val (.int y7), .val (.int y8), .val (.int xS0_1), .val (.int y10), .val (.int y11), .val (.int y12), .val (.int y13), .val (.int y14), .val (.ref b7), .val (.ref b39), .val (.ref b99), .val (.ref b136), .val (.int xS0_186), .unset] [(.int (1 : Int32))])) (fun _ k => XS.goto X161.here hx rfl (pc0 := 348) (pc' := 352) rfl (hb hby at_348) (by decide) (by decide) k) ?_
                            exact J352_187 _ (by rw [if_neg hc337_190, if_pos hc344_191])
                          · skip
                            refine own_goS (T' := T161) (g' := (mkF m 351 #[.val (.int p0), .val (.int p1), .val (.int p2), .val (.int p3), .val (.int p4), .val (.int (1 : Int32)), .val (.int (1 : Int32)), .val (.int y7), .val (.int y8), .val (.int xS0_1), .val (.int y10), .val (.int y11), .val (.int y12), .val (.int y13), .val (.int y14), .val (.ref b7), .val (.ref b39), .val (.ref b99), .val (.ref b136), .val (.int xS0_186), .unset] [])) (fun _ k => XS.icmpYes X161.here hx rfl (pc0 := 344) (pc' := 351) rfl (hb hby at_344) rfl (XT.ii_ne_t hc344_191) (by decide) (by decide) k) ?_
                            refine own_goS (T' := T161) (g' := (mkF m 352 #[.val (.int p0), .val (.int p1), .val (.int p2), .val (.int p3), .val (.int p4), .val (.int (1 : Int32)), .val (.int (1 : Int32)), .val (.int y7), .val (.int y8), .val (.int xS0_1), .val (.int y10), .val (.int y11), .val (.int y12), .val (.int y13), .val (.int y14), .val (.ref b7), .val (.ref b39), .val (.ref b99), .val (.ref b136), .val (.int xS0_186), .unset] [(.int (0 : Int32))])) (fun _ k => XS.iconst X161.here hx rfl (hb hby at_351) k) ?_
                            exact J352_187 _ (by rw [if_neg hc337_190, if_neg hc344_191])
                      refine own_goS (T' := T161) (g' := (mkF m 308 #[.val (.int p0), .val (.int p1), .val (.int p2), .val (.int p3), .val (.int p4), .val (.int (1 : Int32)), .val (.int (1 : Int32)), .val (.int y7), .val (.int y8), .val (.int xS0_1), .val (.int y10), .val (.int y11), .val (.int y12), .val (.int y13), .val (.int y14), .val (.ref b7), .val (.ref b39), .val (.ref b99), .val (.ref b136), .unset, .unset] [])) (fun _ k => XS.icmpNo X161.here hx rfl (hb hby at_305) rfl (XT.ii_ne_f (rfl : (1 : Int32) = (1 : Int32))) k) ?_
                      refine own_goS (T' := T161) (g' := (mkF m 310 #[.val (.int p0), .val (.int p1), .val (.int p2), .val (.int p3), .val (.int p4), .val (.int (1 : Int32)), .val (.int (1 : Int32)), .val (.int y7), .val (.int y8), .val (.int xS0_1), .val (.int y10), .val (.int y11), .val (.int y12), .val (.int y13), .val (.int y14), .val (.ref b7), .val (.ref b39), .val (.ref b99), .val (.ref b136), .unset, .unset] [(.int y7)])) (fun _ k => XS.iload X161.here hx rfl (hb hby at_308) rfl k) ?_
                      refine own_goS (T' := T161) (g' := (mkF m 312 #[.val (.int p0), .val (.int p1), .val (.int p2), .val (.int p3), .val (.int p4), .val (.int (1 : Int32)), .val (.int (1 : Int32)), .val (.int y7), .val (.int y8), .val (.int xS0_1), .val (.int y10), .val (.int y11), .val (.int y12), .val (.int y13), .val (.int y14), .val (.ref b7), .val (.ref b39), .val (.ref b99), .val (.ref b136), .unset, .unset] [(.int y10), (.int y7)])) (fun _ k => XS.iload X161.here hx rfl (hb hby at_310) rfl k) ?_
                      by_cases hc312_192 : y7 = y10
                      · skip
                        refine own_goS (T' := T161) (g' := (mkF m 315 #[.val (.int p0), .val (.int p1), .val (.int p2), .val (.int p3), .val (.int p4), .val (.int (1 : Int32)), .val (.int (1 : Int32)), .val (.int y7), .val (.int y8), .val (.int xS0_1), .val (.int y10), .val (.int y11), .val (.int y12), .val (.int y13), .val (.int y14), .val (.ref b7), .val (.ref b39), .val (.ref b99), .val (.ref b136), .unset, .unset] [])) (fun _ k => XS.icmpNo X161.here hx rfl (hb hby at_312) rfl (XT.ii_ne_f hc312_192) k) ?_
                        refine own_goS (T' := T161) (g' := (mkF m 317 #[.val (.int p0), .val (.int p1), .val (.int p2), .val (.int p3), .val (.int p4), .val (.int (1 : Int32)), .val (.int (1 : Int32)), .val (.int y7), .val (.int y8), .val (.int xS0_1), .val (.int y10), .val (.int y11), .val (.int y12), .val (.int y13), .val (.int y14), .val (.ref b7), .val (.ref b39), .val (.ref b99), .val (.ref b136), .unset, .unset] [(.int (1 : Int32))])) (fun _ k => XS.iload X161.here hx rfl (hb hby at_315) rfl k) ?_
                        refine own_goS (T' := T161) (g' := (mkF m 318 #[.val (.int p0), .val (.int p1), .val (.int p2), .val (.int p3), .val (.int p4), .val (.int (1 : Int32)), .val (.int (1 : Int32)), .val (.int y7), .val (.int y8), .val (.int xS0_1), .val (.int y10), .val (.int y11), .val (.int y12), .val (.int y13), .val (.int y14), .val (.ref b7), .val (.ref b39), .val (.ref b99), .val (.ref b136), .unset, .unset] [(.int (1 : Int32)), (.int (1 : Int32))])) (fun _ k => XS.iconst X161.here hx rfl (hb hby at_317) k) ?_
                        refine own_goS (T' := T161) (g' := (mkF m 328 #[.val (.int p0), .val (.int p1), .val (.int p2), .val (.int p3), .val (.int p4), .val (.int (1 : Int32)), .val (.int (1 : Int32)), .val (.int y7), .val (.int y8), .val (.int xS0_1), .val (.int y10), .val (.int y11), .val (.int y12), .val (.int y13), .val (.int y14), .val (.ref b7), .val (.ref b39), .val (.ref b99), .val (.ref b136), .unset, .unset] [])) (fun _ k => XS.icmpYes X161.here hx rfl (pc0 := 318) (pc' := 328) rfl (hb hby at_318) rfl (XT.ii_eq_t (rfl : (1 : Int32) = (1 : Int32))) (by decide) (by decide) k) ?_
                        refine own_goS (T' := T161) (g' := (mkF m 329 #[.val (.int p0), .val (.int p1), .val (.int p2), .val (.int p3), .val (.int p4), .val (.int (1 : Int32)), .val (.int (1 : Int32)), .val (.int y7), .val (.int y8), .val (.int xS0_1), .val (.int y10), .val (.int y11), .val (.int y12), .val (.int y13), .val (.int y14), .val (.ref b7), .val (.ref b39), .val (.ref b99), .val (.ref b136), .unset, .unset] [(.int (1 : Int32))])) (fun _ k => XS.iconst X161.here hx rfl (hb hby at_328) k) ?_
                        refine own_goS (T' := T161) (g' := (mkF m 333 #[.val (.int p0), .val (.int p1), .val (.int p2), .val (.int p3), .val (.int p4), .val (.int (1 : Int32)), .val (.int (1 : Int32)), .val (.int y7), .val (.int y8), .val (.int xS0_1), .val (.int y10), .val (.int y11), .val (.int y12), .val (.int y13), .val (.int y14), .val (.ref b7), .val (.ref b39), .val (.ref b99), .val (.ref b136), .unset, .unset] [(.int (1 : Int32))])) (fun _ k => XS.goto X161.here hx rfl (pc0 := 329) (pc' := 333) rfl (hb hby at_329) (by decide) (by decide) k) ?_
                        exact J333_186 _ (by rw [if_pos hc312_192])
                      · skip
                        refine own_goS (T' := T161) (g' := (mkF m 332 #[.val (.int p0), .val (.int p1), .val (.int p2), .val (.int p3), .val (.int p4), .val (.int (1 : Int32)), .val (.int (1 : Int32)), .val (.int y7), .val (.int y8), .val (.int xS0_1), .val (.int y10), .val (.int y11), .val (.int y12), .val (.int y13), .val (.int y14), .val (.ref b7), .val (.ref b39), .val (.ref b99), .val (.ref b136), .unset, .unset] [])) (fun _ k => XS.icmpYes X161.here hx rfl (pc0 := 312) (pc' := 332) rfl (hb hby at_312) rfl (XT.ii_ne_t hc312_192) (by decide) (by decide) k) ?_
                        refine own_goS (T' := T161) (g' := (mkF m 333 #[.val (.int p0), .val (.int p1), .val (.int p2), .val (.int p3), .val (.int p4), .val (.int (1 : Int32)), .val (.int (1 : Int32)), .val (.int y7), .val (.int y8), .val (.int xS0_1), .val (.int y10), .val (.int y11), .val (.int y12), .val (.int y13), .val (.int y14), .val (.ref b7), .val (.ref b39), .val (.ref b99), .val (.ref b136), .unset, .unset] [(.int (0 : Int32))])) (fun _ k => XS.iconst X161.here hx rfl (hb hby at_332) k) ?_
                        exact J333_186 _ (by rw [if_neg hc312_192])
              · skip
                refine own_goS (T' := T26) (g' := (mkF m 196 #[.val (.int p0), .val (.int p1), .val (.int p2), .val (.int p3), .val (.int p4), .val (.int (1 : Int32)), .val (.int y6), .val (.int y7), .val (.int y8), .val (.int xS0_1), .val (.int y10), .val (.int y11), .val (.int y12), .val (.int y13), .val (.int y14), .val (.ref b7), .unset, .unset, .unset, .unset, .unset] [])) (fun _ k => XS.icmpYes X26.here hx rfl (pc0 := 175) (pc' := 196) rfl (hb hby at_175) rfl (XT.ii_ne_t hc175_38) (by decide) (by decide) k) ?_
                refine own_goS (T' := T26) (g' := (mkF m 196 #[.val (.int p0), .val (.int p1), .val (.int p2), .val (.int p3), .val (.int p4), .val (.int (1 : Int32)), .val (.int (2 : Int32)), .val (.int y7), .val (.int y8), .val (.int xS0_1), .val (.int y10), .val (.int y11), .val (.int y12), .val (.int y13), .val (.int y14), .val (.ref b7), .unset, .unset, .unset, .unset, .unset] [])) (fun _ k => castTop (by rw [h12_6.resolve_left hc175_38]) k) ?_
                obtain ⟨T193, h193, X193, e193, E193, A193, D193, -, st193⟩ := newO X26 hx hZ hown (hw _ (List.mem_of_getElem? (i := 1) rfl)) (hw _ (List.mem_of_getElem? (i := 2) rfl)) (hw _ (List.mem_of_getElem? (i := 3) rfl)) rfl (g := (mkF m 196 #[.val (.int p0), .val (.int p1), .val (.int p2), .val (.int p3), .val (.int p4), .val (.int (1 : Int32)), .val (.int (2 : Int32)), .val (.int y7), .val (.int y8), .val (.int xS0_1), .val (.int y10), .val (.int y11), .val (.int y12), .val (.int y13), .val (.int y14), .val (.ref b7), .unset, .unset, .unset, .unset, .unset] [])) rfl (hb hby at_196) (by decide) (by decide)
                obtain ⟨b193, g193⟩ : ∃ z, z = T26.heap.size := ⟨_, rfl⟩
                have ne194 : b7 ≠ b193 := Nat.ne_of_lt (Nat.lt_of_lt_of_le f32.lt (Nat.le_of_eq g193.symm))
                have ne195 : b12 ≠ b193 := Nat.ne_of_lt (Nat.lt_of_lt_of_le f33.lt (Nat.le_of_eq g193.symm))
                have ne196 : xb_26 ≠ b193 := Nat.ne_of_lt (Nat.lt_of_lt_of_le po30.lt (Nat.le_of_eq g193.symm))
                rw [← g193] at A193 D193 st193
                have f197 : Sta Z h193 "java/lang/String" "COMPACT_STRINGS" "Z" (.int cs) := (f31.ext E193)
                have f198 : Exa Z h193 b7 "java/lang/String" := (f32.ext E193)
                have f199 : Arv Z h193 b12 k12 .char (1 : Int32) [(.int y7)] (.int (0 : Int32)) := (f33.ext E193)
                have f200 : Fld Z h193 b7 "java/lang/String" "value" "[B" (.ref xb_26) := (po28.ext E193)
                have f201 : Fld Z h193 b7 "java/lang/String" "coder" "B" (.int (0 : Int32)) := (po29.ext E193)
                have f202 : Arv Z h193 xb_26 xk_26 .byte (1 : Int32) [(.int (nar .byte (y7.toInt8.toInt32)))] (.int (0 : Int32)) := (po30.ext E193)
                have fn203 : Fld Z h193 b193 "java/lang/String" "coder" "B" (.int (0 : Int32)) := D193 (Or.inr (hw _ (List.mem_of_getElem? (i := 28) rfl))) (ty := .byte) (by decide)
                have fn204 : Fld Z h193 b193 "java/lang/String" "value" "[B" .null := D193 (Or.inr (hw _ (List.mem_of_getElem? (i := 30) rfl))) (ty := (.array .byte)) (by decide)
                have ge193 : n0 ≤ b193 := Nat.le_trans zs26 (Nat.le_of_eq g193.symm)
                have zs193 : n0 ≤ h193.size := Nat.le_trans zs26 E193.1
                have hk205 := Nat.le_trans hk37 (E193.1)
                refine own_goS (T' := T193) (g' := (mkF m 199 #[.val (.int p0), .val (.int p1), .val (.int p2), .val (.int p3), .val (.int p4), .val (.int (1 : Int32)), .val (.int (2 : Int32)), .val (.int y7), .val (.int y8), .val (.int xS0_1), .val (.int y10), .val (.int y11), .val (.int y12), .val (.int y13), .val (.int y14), .val (.ref b7), .unset, .unset, .unset, .unset, .unset] [(.ref b193)])) (fun _ k => st193 _ k) ?_
                refine own_goS (T' := T193) (g' := (mkF m 200 #[.val (.int p0), .val (.int p1), .val (.int p2), .val (.int p3), .val (.int p4), .val (.int (1 : Int32)), .val (.int (2 : Int32)), .val (.int y7), .val (.int y8), .val (.int xS0_1), .val (.int y10), .val (.int y11), .val (.int y12), .val (.int y13), .val (.int y14), .val (.ref b7), .unset, .unset, .unset, .unset, .unset] [(.ref b193), (.ref b193)])) (fun _ k => XS.dup X193.here hx rfl (hb hby at_199) rfl rfl k) ?_
                refine own_goS (T' := T193) (g' := (mkF m 201 #[.val (.int p0), .val (.int p1), .val (.int p2), .val (.int p3), .val (.int p4), .val (.int (1 : Int32)), .val (.int (2 : Int32)), .val (.int y7), .val (.int y8), .val (.int xS0_1), .val (.int y10), .val (.int y11), .val (.int y12), .val (.int y13), .val (.int y14), .val (.ref b7), .unset, .unset, .unset, .unset, .unset] [(.int (2 : Int32)), (.ref b193), (.ref b193)])) (fun _ k => XS.iconst X193.here hx rfl (hb hby at_200) k) ?_
                obtain ⟨T206, h206, k206, X206, e206, E206, A206, st206⟩ := newP X193 hx hZ (hw _ (List.mem_of_getElem? (i := 4) rfl)) e193 (g := (mkF m 201 #[.val (.int p0), .val (.int p1), .val (.int p2), .val (.int p3), .val (.int p4), .val (.int (1 : Int32)), .val (.int (2 : Int32)), .val (.int y7), .val (.int y8), .val (.int xS0_1), .val (.int y10), .val (.int y11), .val (.int y12), .val (.int y13), .val (.int y14), .val (.ref b7), .unset, .unset, .unset, .unset, .unset] [(.int (2 : Int32)), (.ref b193), (.ref b193)])) rfl (hb hby at_201) rfl (by decide) (cap := 2) (by decide) (by decide) (by decide) (by decide)
                obtain ⟨b206, g206⟩ : ∃ z, z = h193.size := ⟨_, rfl⟩
                have ne207 : b7 ≠ b206 := Nat.ne_of_lt (Nat.lt_of_lt_of_le f198.lt (Nat.le_of_eq g206.symm))
                have ne208 : b12 ≠ b206 := Nat.ne_of_lt (Nat.lt_of_lt_of_le f199.lt (Nat.le_of_eq g206.symm))
                have ne209 : xb_26 ≠ b206 := Nat.ne_of_lt (Nat.lt_of_lt_of_le f202.lt (Nat.le_of_eq g206.symm))
                have ne210 : b193 ≠ b206 := Nat.ne_of_lt (Nat.lt_of_lt_of_le A193.lt (Nat.le_of_eq g206.symm))
                rw [← g206] at A206 st206
                have f211 : Sta Z h206 "java/lang/String" "COMPACT_STRINGS" "Z" (.int cs) := (f197.ext E206)
                have f212 : Exa Z h206 b7 "java/lang/String" := (f198.ext E206)
                have f213 : Arv Z h206 b12 k12 .char (1 : Int32) [(.int y7)] (.int (0 : Int32)) := (f199.ext E206)
                have f214 : Fld Z h206 b7 "java/lang/String" "value" "[B" (.ref xb_26) := (f200.ext E206)
                have f215 : Fld Z h206 b7 "java/lang/String" "coder" "B" (.int (0 : Int32)) := (f201.ext E206)
                have f216 : Arv Z h206 xb_26 xk_26 .byte (1 : Int32) [(.int (nar .byte (y7.toInt8.toInt32)))] (.int (0 : Int32)) := (f202.ext E206)
                have f217 : Exa Z h206 b193 "java/lang/String" := (A193.ext E206)
                have f218 : Fld Z h206 b193 "java/lang/String" "coder" "B" (.int (0 : Int32)) := (fn203.ext E206)
                have f219 : Fld Z h206 b193 "java/lang/String" "value" "[B" .null := (fn204.ext E206)
                have V206 : Arv Z h206 b206 k206 .char (2 : Int32) [(.int (0 : Int32)), (.int (0 : Int32))] (.int (0 : Int32)) := (Arv.new A206 (by decide)).pad (pad_rep [] (.int (0 : Int32)) 2)
                have ge206 : n0 ≤ b206 := Nat.le_trans zs193 (Nat.le_of_eq g206.symm)
                have zs206 : n0 ≤ h206.size := Nat.le_trans zs193 E206.1
                have hk220 := Nat.le_trans hk205 (E206.1)
                refine own_goS (T' := T206) (g' := (mkF m 203 #[.val (.int p0), .val (.int p1), .val (.int p2), .val (.int p3), .val (.int p4), .val (.int (1 : Int32)), .val (.int (2 : Int32)), .val (.int y7), .val (.int y8), .val (.int xS0_1), .val (.int y10), .val (.int y11), .val (.int y12), .val (.int y13), .val (.int y14), .val (.ref b7), .unset, .unset, .unset, .unset, .unset] [(.ref b206), (.ref b193), (.ref b193)])) (fun _ k => st206 _ k) ?_
                refine own_goS (T' := T206) (g' := (mkF m 204 #[.val (.int p0), .val (.int p1), .val (.int p2), .val (.int p3), .val (.int p4), .val (.int (1 : Int32)), .val (.int (2 : Int32)), .val (.int y7), .val (.int y8), .val (.int xS0_1), .val (.int y10), .val (.int y11), .val (.int y12), .val (.int y13), .val (.int y14), .val (.ref b7), .unset, .unset, .unset, .unset, .unset] [(.ref b206), (.ref b206), (.ref b193), (.ref b193)])) (fun _ k => XS.dup X206.here hx rfl (hb hby at_203) rfl rfl k) ?_
                refine own_goS (T' := T206) (g' := (mkF m 205 #[.val (.int p0), .val (.int p1), .val (.int p2), .val (.int p3), .val (.int p4), .val (.int (1 : Int32)), .val (.int (2 : Int32)), .val (.int y7), .val (.int y8), .val (.int xS0_1), .val (.int y10), .val (.int y11), .val (.int y12), .val (.int y13), .val (.int y14), .val (.ref b7), .unset, .unset, .unset, .unset, .unset] [(.int (0 : Int32)), (.ref b206), (.ref b206), (.ref b193), (.ref b193)])) (fun _ k => XS.iconst X206.here hx rfl (hb hby at_204) k) ?_
                refine own_goS (T' := T206) (g' := (mkF m 207 #[.val (.int p0), .val (.int p1), .val (.int p2), .val (.int p3), .val (.int p4), .val (.int (1 : Int32)), .val (.int (2 : Int32)), .val (.int y7), .val (.int y8), .val (.int xS0_1), .val (.int y10), .val (.int y11), .val (.int y12), .val (.int y13), .val (.int y14), .val (.ref b7), .unset, .unset, .unset, .unset, .unset] [(.int y10), (.int (0 : Int32)), (.ref b206), (.ref b206), (.ref b193), (.ref b193)])) (fun _ k => XS.iload X206.here hx rfl (hb hby at_205) rfl k) ?_
                obtain ⟨cl221, Ar221, q1221, q2221, q3221, H221, G221⟩ := id V206
                have hin221 := inb_of q2221 (j := (0 : Int32)) (by decide)
                obtain ⟨T221, h221, X221, e221, W221, st221⟩ := stC X206 hx hZ e206 Ar221 (j := (0 : Int32)) hin221 (g := (mkF m 207 #[.val (.int p0), .val (.int p1), .val (.int p2), .val (.int p3), .val (.int p4), .val (.int (1 : Int32)), .val (.int (2 : Int32)), .val (.int y7), .val (.int y8), .val (.int xS0_1), .val (.int y10), .val (.int y11), .val (.int y12), .val (.int y13), .val (.int y14), .val (.ref b7), .unset, .unset, .unset, .unset, .unset] [(.int y10), (.int (0 : Int32)), (.ref b206), (.ref b206), (.ref b193), (.ref b193)])) rfl rfl (hb hby at_207)
                have f222 : Sta Z h221 "java/lang/String" "COMPACT_STRINGS" "Z" (.int cs) := (f211.wr W221)
                have f223 : Exa Z h221 b7 "java/lang/String" := (f212.wr W221)
                have f224 : Arv Z h221 b12 k12 .char (1 : Int32) [(.int y7)] (.int (0 : Int32)) := (f213.other W221 ne208)
                have f225 : Fld Z h221 b7 "java/lang/String" "value" "[B" (.ref xb_26) := (f214.other W221 (Or.inl ne207))
                have f226 : Fld Z h221 b7 "java/lang/String" "coder" "B" (.int (0 : Int32)) := (f215.other W221 (Or.inl ne207))
                have f227 : Arv Z h221 xb_26 xk_26 .byte (1 : Int32) [(.int (nar .byte (y7.toInt8.toInt32)))] (.int (0 : Int32)) := (f216.other W221 ne209)
                have f228 : Exa Z h221 b193 "java/lang/String" := (f217.wr W221)
                have f229 : Fld Z h221 b193 "java/lang/String" "coder" "B" (.int (0 : Int32)) := (f218.other W221 (Or.inl ne210))
                have f230 : Fld Z h221 b193 "java/lang/String" "value" "[B" .null := (f219.other W221 (Or.inl ne210))
                have V221 : Arv Z h221 b206 k206 .char (2 : Int32) [(.int (nar .char y10)), (.int (0 : Int32))] (.int (0 : Int32)) := Arv.set Ar221 q1221 q2221 q3221 H221 G221 (fits_nar_char _) W221 0 (by decide) (by simp)
                have N221 := Fr.snoc X221 N26 ge206
                have zs221 : n0 ≤ h221.size := by rw [W221.size]; exact zs206
                have hk231 := Nat.le_trans hk220 (Nat.le_of_eq W221.size.symm)
                refine own_goS (T' := T221) (g' := (mkF m 208 #[.val (.int p0), .val (.int p1), .val (.int p2), .val (.int p3), .val (.int p4), .val (.int (1 : Int32)), .val (.int (2 : Int32)), .val (.int y7), .val (.int y8), .val (.int xS0_1), .val (.int y10), .val (.int y11), .val (.int y12), .val (.int y13), .val (.int y14), .val (.ref b7), .unset, .unset, .unset, .unset, .unset] [(.ref b206), (.ref b193), (.ref b193)])) (fun _ k => st221 _ k) ?_
                refine own_goS (T' := T221) (g' := (mkF m 209 #[.val (.int p0), .val (.int p1), .val (.int p2), .val (.int p3), .val (.int p4), .val (.int (1 : Int32)), .val (.int (2 : Int32)), .val (.int y7), .val (.int y8), .val (.int xS0_1), .val (.int y10), .val (.int y11), .val (.int y12), .val (.int y13), .val (.int y14), .val (.ref b7), .unset, .unset, .unset, .unset, .unset] [(.ref b206), (.ref b206), (.ref b193), (.ref b193)])) (fun _ k => XS.dup X221.here hx rfl (hb hby at_208) rfl rfl k) ?_
                refine own_goS (T' := T221) (g' := (mkF m 210 #[.val (.int p0), .val (.int p1), .val (.int p2), .val (.int p3), .val (.int p4), .val (.int (1 : Int32)), .val (.int (2 : Int32)), .val (.int y7), .val (.int y8), .val (.int xS0_1), .val (.int y10), .val (.int y11), .val (.int y12), .val (.int y13), .val (.int y14), .val (.ref b7), .unset, .unset, .unset, .unset, .unset] [(.int (1 : Int32)), (.ref b206), (.ref b206), (.ref b193), (.ref b193)])) (fun _ k => XS.iconst X221.here hx rfl (hb hby at_209) k) ?_
                refine own_goS (T' := T221) (g' := (mkF m 212 #[.val (.int p0), .val (.int p1), .val (.int p2), .val (.int p3), .val (.int p4), .val (.int (1 : Int32)), .val (.int (2 : Int32)), .val (.int y7), .val (.int y8), .val (.int xS0_1), .val (.int y10), .val (.int y11), .val (.int y12), .val (.int y13), .val (.int y14), .val (.ref b7), .unset, .unset, .unset, .unset, .unset] [(.int y11), (.int (1 : Int32)), (.ref b206), (.ref b206), (.ref b193), (.ref b193)])) (fun _ k => XS.iload X221.here hx rfl (hb hby at_210) rfl k) ?_
                obtain ⟨cl232, Ar232, q1232, q2232, q3232, H232, G232⟩ := id V221
                have hin232 := inb_of q2232 (j := (1 : Int32)) (by decide)
                obtain ⟨T232, h232, X232, e232, W232, st232⟩ := stC X221 hx hZ e221 Ar232 (j := (1 : Int32)) hin232 (g := (mkF m 212 #[.val (.int p0), .val (.int p1), .val (.int p2), .val (.int p3), .val (.int p4), .val (.int (1 : Int32)), .val (.int (2 : Int32)), .val (.int y7), .val (.int y8), .val (.int xS0_1), .val (.int y10), .val (.int y11), .val (.int y12), .val (.int y13), .val (.int y14), .val (.ref b7), .unset, .unset, .unset, .unset, .unset] [(.int y11), (.int (1 : Int32)), (.ref b206), (.ref b206), (.ref b193), (.ref b193)])) rfl rfl (hb hby at_212)
                have f233 : Sta Z h232 "java/lang/String" "COMPACT_STRINGS" "Z" (.int cs) := (f222.wr W232)
                have f234 : Exa Z h232 b7 "java/lang/String" := (f223.wr W232)
                have f235 : Arv Z h232 b12 k12 .char (1 : Int32) [(.int y7)] (.int (0 : Int32)) := (f224.other W232 ne208)
                have f236 : Fld Z h232 b7 "java/lang/String" "value" "[B" (.ref xb_26) := (f225.other W232 (Or.inl ne207))
                have f237 : Fld Z h232 b7 "java/lang/String" "coder" "B" (.int (0 : Int32)) := (f226.other W232 (Or.inl ne207))
                have f238 : Arv Z h232 xb_26 xk_26 .byte (1 : Int32) [(.int (nar .byte (y7.toInt8.toInt32)))] (.int (0 : Int32)) := (f227.other W232 ne209)
                have f239 : Exa Z h232 b193 "java/lang/String" := (f228.wr W232)
                have f240 : Fld Z h232 b193 "java/lang/String" "coder" "B" (.int (0 : Int32)) := (f229.other W232 (Or.inl ne210))
                have f241 : Fld Z h232 b193 "java/lang/String" "value" "[B" .null := (f230.other W232 (Or.inl ne210))
                have V232 : Arv Z h232 b206 k206 .char (2 : Int32) [(.int (nar .char y10)), (.int (nar .char y11))] (.int (0 : Int32)) := Arv.set Ar232 q1232 q2232 q3232 H232 G232 (fits_nar_char _) W232 1 (by decide) (by simp)
                have N232 := Fr.snoc X232 N221 ge206
                have zs232 : n0 ≤ h232.size := by rw [W232.size]; exact zs221
                have hk242 := Nat.le_trans hk231 (Nat.le_of_eq W232.size.symm)
                refine own_goS (T' := T232) (g' := (mkF m 213 #[.val (.int p0), .val (.int p1), .val (.int p2), .val (.int p3), .val (.int p4), .val (.int (1 : Int32)), .val (.int (2 : Int32)), .val (.int y7), .val (.int y8), .val (.int xS0_1), .val (.int y10), .val (.int y11), .val (.int y12), .val (.int y13), .val (.int y14), .val (.ref b7), .unset, .unset, .unset, .unset, .unset] [(.ref b206), (.ref b193), (.ref b193)])) (fun _ k => st232 _ k) ?_
                have fz243 : Arv Z h232 b206 k206 .char (2 : Int32) [(.int y10), (.int y11)] (.int (0 : Int32)) := by have q := V232; rw [own_nc hC10, own_nc hC11] at q; exact q
                obtain ⟨_, _, ⟨T244, L244, k244, n244⟩, -, X244, ⟨Lc244, hQ244, l244, y244, z244⟩, st244⟩ := X232.specialBack hx (y := (⟨"java/lang/String", "<init>", "([C)V"⟩ : MethodName)) rfl hown (mvT hZ (hw _ (List.mem_of_getElem? (i := 5) rfl))) (mvT hZ (hw _ (List.mem_of_getElem? (i := 6) rfl))) (mvT hZ (hw _ (List.mem_of_getElem? (i := 7) rfl))) (by decide) (backOf (W := 1) (rmS1_2 l Z a0 hw [] b193 b206 k206 y10 y11 cs h232 n0 zs232 f239 ge193 f241 f240 fz243 f233 hh0 (own_Cn hC10) (own_Cn hC11)) hZ (hw _ (List.mem_of_getElem? (i := 7) rfl)) (hw _ (List.mem_of_getElem? (i := 3) rfl)) (by decide) (by decide)) (g := (mkF m 213 #[.val (.int p0), .val (.int p1), .val (.int p2), .val (.int p3), .val (.int p4), .val (.int (1 : Int32)), .val (.int (2 : Int32)), .val (.int y7), .val (.int y8), .val (.int xS0_1), .val (.int y10), .val (.int y11), .val (.int y12), .val (.int y13), .val (.int y14), .val (.ref b7), .unset, .unset, .unset, .unset, .unset] [(.ref b206), (.ref b193), (.ref b193)])) rfl (by rw [hml]; rfl) (Steps.refl _) (a := b193) (argsL := [(.ref b206)]) (rest := [(.ref b193)]) (lenOf own_pd8 rfl) rfl (by show 2 * 0 + _ ≤ _; exact Nat.le_of_eq rfl) (hb hby at_213) (fun _ _ => ⟨rfl, e232, (by decide : 5 + 1 ≤ _), (by decide : 12 + 2 ≤ _)⟩)
                dsimp only [Pt.U, Pt.locs, Pt.cells, Pt.slots] at X244 l244 y244 z244 st244 hQ244
                subst l244 y244 z244
                obtain ⟨xb_244, xk_244, rfl, N244q, K244, po245, po246, po247, po248⟩ := hQ244
                have f249 : Sta Z T244.heap "java/lang/String" "COMPACT_STRINGS" "Z" (.int cs) := (own_sta_keep f233 K244 (nsS f239.nostat ns0))
                have f250 : Exa Z T244.heap b7 "java/lang/String" := (f234.keep K244)
                have f251 : Arv Z T244.heap b12 k12 .char (1 : Int32) [(.int y7)] (.int (0 : Int32)) := (f235.keep K244 (ninS ne195 nin0))
                have f252 : Fld Z T244.heap b7 "java/lang/String" "value" "[B" (.ref xb_26) := (f236.keep K244 (ninS ne194 nin0))
                have f253 : Fld Z T244.heap b7 "java/lang/String" "coder" "B" (.int (0 : Int32)) := (f237.keep K244 (ninS ne194 nin0))
                have f254 : Arv Z T244.heap xb_26 xk_26 .byte (1 : Int32) [(.int (nar .byte (y7.toInt8.toInt32)))] (.int (0 : Int32)) := (f238.keep K244 (ninS ne196 nin0))
                have f255 : Exa Z T244.heap b193 "java/lang/String" := (f239.keep K244)
                have f256 : Arv Z T244.heap b206 k206 .char (2 : Int32) [(.int y10), (.int y11)] (.int (0 : Int32)) := (fz243.keep K244 (ninS (Ne.symm ne210) nin0))
                have ne257 : b7 ≠ xb_244 := Nat.ne_of_lt (Nat.lt_of_lt_of_le f234.lt po245)
                have ne258 : b12 ≠ xb_244 := Nat.ne_of_lt (Nat.lt_of_lt_of_le f235.lt po245)
                have ne259 : xb_26 ≠ xb_244 := Nat.ne_of_lt (Nat.lt_of_lt_of_le f238.lt po245)
                have ne260 : b193 ≠ xb_244 := Nat.ne_of_lt (Nat.lt_of_lt_of_le f239.lt po245)
                have ne261 : b206 ≠ xb_244 := Nat.ne_of_lt (Nat.lt_of_lt_of_le fz243.lt po245)
                have ge262 : n0 ≤ xb_244 := Nat.le_trans zs232 po245
                have zs244 : n0 ≤ T244.heap.size := Nat.le_trans zs232 K244.1
                have hk263 := Nat.le_trans hk242 (K244.1)
                have N244 := Fr.app N232 N244q
                refine own_goS (T' := T244) (g' := (mkF m 216 #[.val (.int p0), .val (.int p1), .val (.int p2), .val (.int p3), .val (.int p4), .val (.int (1 : Int32)), .val (.int (2 : Int32)), .val (.int y7), .val (.int y8), .val (.int xS0_1), .val (.int y10), .val (.int y11), .val (.int y12), .val (.int y13), .val (.int y14), .val (.ref b7), .unset, .unset, .unset, .unset, .unset] [(.ref b193)])) (fun _ k => st244.trans k) ?_
                refine own_goS (T' := T244) (g' := (mkF m 218 #[.val (.int p0), .val (.int p1), .val (.int p2), .val (.int p3), .val (.int p4), .val (.int (1 : Int32)), .val (.int (2 : Int32)), .val (.int y7), .val (.int y8), .val (.int xS0_1), .val (.int y10), .val (.int y11), .val (.int y12), .val (.int y13), .val (.int y14), .val (.ref b7), .val (.ref b193), .unset, .unset, .unset, .unset] [])) (fun _ k => XS.astore X244.here hx rfl (hb hby at_216) rfl rfl (l' := #[.val (.int p0), .val (.int p1), .val (.int p2), .val (.int p3), .val (.int p4), .val (.int (1 : Int32)), .val (.int (2 : Int32)), .val (.int y7), .val (.int y8), .val (.int xS0_1), .val (.int y10), .val (.int y11), .val (.int y12), .val (.int y13), .val (.int y14), .val (.ref b7), .val (.ref b193), .unset, .unset, .unset, .unset]) rfl k) ?_
                obtain ⟨T264, h264, X264, e264, E264, A264, D264, -, st264⟩ := newO X244 hx hZ hown (hw _ (List.mem_of_getElem? (i := 31) rfl)) (hw _ (List.mem_of_getElem? (i := 32) rfl)) (hw _ (List.mem_of_getElem? (i := 33) rfl)) rfl (g := (mkF m 218 #[.val (.int p0), .val (.int p1), .val (.int p2), .val (.int p3), .val (.int p4), .val (.int (1 : Int32)), .val (.int (2 : Int32)), .val (.int y7), .val (.int y8), .val (.int xS0_1), .val (.int y10), .val (.int y11), .val (.int y12), .val (.int y13), .val (.int y14), .val (.ref b7), .val (.ref b193), .unset, .unset, .unset, .unset] [])) rfl (hb hby at_218) (by decide) (by decide)
                obtain ⟨b264, g264⟩ : ∃ z, z = T244.heap.size := ⟨_, rfl⟩
                have ne265 : b7 ≠ b264 := Nat.ne_of_lt (Nat.lt_of_lt_of_le f250.lt (Nat.le_of_eq g264.symm))
                have ne266 : b12 ≠ b264 := Nat.ne_of_lt (Nat.lt_of_lt_of_le f251.lt (Nat.le_of_eq g264.symm))
                have ne267 : xb_26 ≠ b264 := Nat.ne_of_lt (Nat.lt_of_lt_of_le f254.lt (Nat.le_of_eq g264.symm))
                have ne268 : b193 ≠ b264 := Nat.ne_of_lt (Nat.lt_of_lt_of_le f255.lt (Nat.le_of_eq g264.symm))
                have ne269 : b206 ≠ b264 := Nat.ne_of_lt (Nat.lt_of_lt_of_le f256.lt (Nat.le_of_eq g264.symm))
                have ne270 : xb_244 ≠ b264 := Nat.ne_of_lt (Nat.lt_of_lt_of_le po248.lt (Nat.le_of_eq g264.symm))
                rw [← g264] at A264 D264 st264
                have f271 : Sta Z h264 "java/lang/String" "COMPACT_STRINGS" "Z" (.int cs) := (f249.ext E264)
                have f272 : Exa Z h264 b7 "java/lang/String" := (f250.ext E264)
                have f273 : Arv Z h264 b12 k12 .char (1 : Int32) [(.int y7)] (.int (0 : Int32)) := (f251.ext E264)
                have f274 : Fld Z h264 b7 "java/lang/String" "value" "[B" (.ref xb_26) := (f252.ext E264)
                have f275 : Fld Z h264 b7 "java/lang/String" "coder" "B" (.int (0 : Int32)) := (f253.ext E264)
                have f276 : Arv Z h264 xb_26 xk_26 .byte (1 : Int32) [(.int (nar .byte (y7.toInt8.toInt32)))] (.int (0 : Int32)) := (f254.ext E264)
                have f277 : Exa Z h264 b193 "java/lang/String" := (f255.ext E264)
                have f278 : Arv Z h264 b206 k206 .char (2 : Int32) [(.int y10), (.int y11)] (.int (0 : Int32)) := (f256.ext E264)
                have f279 : Fld Z h264 b193 "java/lang/String" "value" "[B" (.ref xb_244) := (po246.ext E264)
                have f280 : Fld Z h264 b193 "java/lang/String" "coder" "B" (.int (0 : Int32)) := (po247.ext E264)
                have f281 : Arv Z h264 xb_244 xk_244 .byte (2 : Int32) [(.int (nar .byte (y10.toInt8.toInt32))), (.int (nar .byte (y11.toInt8.toInt32)))] (.int (0 : Int32)) := (po248.ext E264)
                have fn282 : Fld Z h264 b264 "com/example/node_ring/nodering/pool/Server" "name" "Ljava/lang/String;" .null := D264 (Or.inr (hw _ (List.mem_of_getElem? (i := 51) rfl))) (ty := (.object "java/lang/String")) (by decide)
                have fn283 : Fld Z h264 b264 "com/example/node_ring/nodering/pool/Server" "weight" "I" (.int (0 : Int32)) := D264 (Or.inr (hw _ (List.mem_of_getElem? (i := 53) rfl))) (ty := .int) (by decide)
                have ge264 : n0 ≤ b264 := Nat.le_trans zs244 (Nat.le_of_eq g264.symm)
                have zs264 : n0 ≤ h264.size := Nat.le_trans zs244 E264.1
                have hk284 := Nat.le_trans hk263 (E264.1)
                refine own_goS (T' := T264) (g' := (mkF m 221 #[.val (.int p0), .val (.int p1), .val (.int p2), .val (.int p3), .val (.int p4), .val (.int (1 : Int32)), .val (.int (2 : Int32)), .val (.int y7), .val (.int y8), .val (.int xS0_1), .val (.int y10), .val (.int y11), .val (.int y12), .val (.int y13), .val (.int y14), .val (.ref b7), .val (.ref b193), .unset, .unset, .unset, .unset] [(.ref b264)])) (fun _ k => st264 _ k) ?_
                refine own_goS (T' := T264) (g' := (mkF m 222 #[.val (.int p0), .val (.int p1), .val (.int p2), .val (.int p3), .val (.int p4), .val (.int (1 : Int32)), .val (.int (2 : Int32)), .val (.int y7), .val (.int y8), .val (.int xS0_1), .val (.int y10), .val (.int y11), .val (.int y12), .val (.int y13), .val (.int y14), .val (.ref b7), .val (.ref b193), .unset, .unset, .unset, .unset] [(.ref b264), (.ref b264)])) (fun _ k => XS.dup X264.here hx rfl (hb hby at_221) rfl rfl k) ?_
                refine own_goS (T' := T264) (g' := (mkF m 224 #[.val (.int p0), .val (.int p1), .val (.int p2), .val (.int p3), .val (.int p4), .val (.int (1 : Int32)), .val (.int (2 : Int32)), .val (.int y7), .val (.int y8), .val (.int xS0_1), .val (.int y10), .val (.int y11), .val (.int y12), .val (.int y13), .val (.int y14), .val (.ref b7), .val (.ref b193), .unset, .unset, .unset, .unset] [(.ref b7), (.ref b264), (.ref b264)])) (fun _ k => XS.aload X264.here hx rfl (hb hby at_222) rfl rfl k) ?_
                refine own_goS (T' := T264) (g' := (mkF m 226 #[.val (.int p0), .val (.int p1), .val (.int p2), .val (.int p3), .val (.int p4), .val (.int (1 : Int32)), .val (.int (2 : Int32)), .val (.int y7), .val (.int y8), .val (.int xS0_1), .val (.int y10), .val (.int y11), .val (.int y12), .val (.int y13), .val (.int y14), .val (.ref b7), .val (.ref b193), .unset, .unset, .unset, .unset] [(.int y12), (.ref b7), (.ref b264), (.ref b264)])) (fun _ k => XS.iload X264.here hx rfl (hb hby at_224) rfl k) ?_
                obtain ⟨_, _, ⟨T285, L285, k285, n285⟩, -, XX285, hs2285, hg2285, ⟨Lc285, hQ285, l285, y285, z285⟩, st285⟩ := X264.specialBackS hx (y := (⟨"com/example/node_ring/nodering/pool/Server", "<init>", "(Ljava/lang/String;I)V"⟩ : MethodName)) rfl hown (mvT hZ (hw _ (List.mem_of_getElem? (i := 34) rfl))) (mvT hZ (hw _ (List.mem_of_getElem? (i := 35) rfl))) (mvT hZ (hw _ (List.mem_of_getElem? (i := 36) rfl))) (by decide) (backOfS (W := 1) (rmSrv1 l Z a0 hw [] b264 b7 y12 xb_26 xk_26 (nar .byte (y7.toInt8.toInt32)) h264 n0 zs264 A264 ge264 fn282 fn283 f272 f274 f276 hW12) hZ (hw _ (List.mem_of_getElem? (i := 36) rfl)) (hw _ (List.mem_of_getElem? (i := 33) rfl)) (by decide) (by decide)) (g := (mkF m 226 #[.val (.int p0), .val (.int p1), .val (.int p2), .val (.int p3), .val (.int p4), .val (.int (1 : Int32)), .val (.int (2 : Int32)), .val (.int y7), .val (.int y8), .val (.int xS0_1), .val (.int y10), .val (.int y11), .val (.int y12), .val (.int y13), .val (.int y14), .val (.ref b7), .val (.ref b193), .unset, .unset, .unset, .unset] [(.int y12), (.ref b7), (.ref b264), (.ref b264)])) rfl (by rw [hml]; rfl) (Steps.refl _) (a := b264) (argsL := [(.ref b7), (.int y12)]) (rest := [(.ref b264)]) (lenOf own_pd9 rfl) rfl (by show 2 * 0 + _ ≤ _; exact Nat.le_of_eq rfl) (hb hby at_226) (fun _ _ => ⟨rfl, e264, (by decide : 7 + 2 ≤ _), (by decide : 16 + 20 ≤ _)⟩)
                dsimp only [Pt.U, Pt.locs, Pt.cells, Pt.slots] at XX285 hs2285 hg2285 l285 y285 z285 st285 hQ285
                subst l285 y285 z285
                obtain ⟨X285, hS285, hZ285, hown285⟩ := rebS hS0 (n1 := T264.heap.size) (by rw [e264]; exact hk284) XX285 hs2285 hg2285 hZ hown
                obtain ⟨rfl, N285q, K285, po286, po287, po288⟩ := hQ285
                have f289 : Sta Z T285.heap "java/lang/String" "COMPACT_STRINGS" "Z" (.int cs) := (own_sta_keep f271 K285 (nsS A264.nostat ns0))
                have f290 : Exa Z T285.heap b7 "java/lang/String" := (f272.keep K285)
                have f291 : Arv Z T285.heap b12 k12 .char (1 : Int32) [(.int y7)] (.int (0 : Int32)) := (f273.keep K285 (ninS ne266 nin0))
                have f292 : Fld Z T285.heap b7 "java/lang/String" "value" "[B" (.ref xb_26) := (f274.keep K285 (ninS ne265 nin0))
                have f293 : Fld Z T285.heap b7 "java/lang/String" "coder" "B" (.int (0 : Int32)) := (f275.keep K285 (ninS ne265 nin0))
                have f294 : Arv Z T285.heap xb_26 xk_26 .byte (1 : Int32) [(.int (nar .byte (y7.toInt8.toInt32)))] (.int (0 : Int32)) := (f276.keep K285 (ninS ne267 nin0))
                have f295 : Exa Z T285.heap b193 "java/lang/String" := (f277.keep K285)
                have f296 : Arv Z T285.heap b206 k206 .char (2 : Int32) [(.int y10), (.int y11)] (.int (0 : Int32)) := (f278.keep K285 (ninS ne269 nin0))
                have f297 : Fld Z T285.heap b193 "java/lang/String" "value" "[B" (.ref xb_244) := (f279.keep K285 (ninS ne268 nin0))
                have f298 : Fld Z T285.heap b193 "java/lang/String" "coder" "B" (.int (0 : Int32)) := (f280.keep K285 (ninS ne268 nin0))
                have f299 : Arv Z T285.heap xb_244 xk_244 .byte (2 : Int32) [(.int (nar .byte (y10.toInt8.toInt32))), (.int (nar .byte (y11.toInt8.toInt32)))] (.int (0 : Int32)) := (f281.keep K285 (ninS ne270 nin0))
                have f300 : Exa Z T285.heap b264 "com/example/node_ring/nodering/pool/Server" := (A264.keep K285)
                have zs285 : n0 ≤ T285.heap.size := Nat.le_trans zs264 K285.1
                have hk285 : T285.heap.size ≤ T285.heap.size := Nat.le_refl _
                have N285 := Fr.app N244 N285q
                refine own_goS (T' := T285) (g' := (mkF m 229 #[.val (.int p0), .val (.int p1), .val (.int p2), .val (.int p3), .val (.int p4), .val (.int (1 : Int32)), .val (.int (2 : Int32)), .val (.int y7), .val (.int y8), .val (.int xS0_1), .val (.int y10), .val (.int y11), .val (.int y12), .val (.int y13), .val (.int y14), .val (.ref b7), .val (.ref b193), .unset, .unset, .unset, .unset] [(.ref b264)])) (fun _ k => st285.trans k) ?_
                refine own_goS (T' := T285) (g' := (mkF m 231 #[.val (.int p0), .val (.int p1), .val (.int p2), .val (.int p3), .val (.int p4), .val (.int (1 : Int32)), .val (.int (2 : Int32)), .val (.int y7), .val (.int y8), .val (.int xS0_1), .val (.int y10), .val (.int y11), .val (.int y12), .val (.int y13), .val (.int y14), .val (.ref b7), .val (.ref b193), .val (.ref b264), .unset, .unset, .unset] [])) (fun _ k => XS.astore X285.here hx rfl (hb hby at_229) rfl rfl (l' := #[.val (.int p0), .val (.int p1), .val (.int p2), .val (.int p3), .val (.int p4), .val (.int (1 : Int32)), .val (.int (2 : Int32)), .val (.int y7), .val (.int y8), .val (.int xS0_1), .val (.int y10), .val (.int y11), .val (.int y12), .val (.int y13), .val (.int y14), .val (.ref b7), .val (.ref b193), .val (.ref b264), .unset, .unset, .unset]) rfl k) ?_
                obtain ⟨T301, h301, X301, e301, E301, A301, D301, -, st301⟩ := newO X285 hx hZ285 hown285 (hw _ (List.mem_of_getElem? (i := 31) rfl)) (hw _ (List.mem_of_getElem? (i := 32) rfl)) (hw _ (List.mem_of_getElem? (i := 33) rfl)) rfl (g := (mkF m 231 #[.val (.int p0), .val (.int p1), .val (.int p2), .val (.int p3), .val (.int p4), .val (.int (1 : Int32)), .val (.int (2 : Int32)), .val (.int y7), .val (.int y8), .val (.int xS0_1), .val (.int y10), .val (.int y11), .val (.int y12), .val (.int y13), .val (.int y14), .val (.ref b7), .val (.ref b193), .val (.ref b264), .unset, .unset, .unset] [])) rfl (hb hby at_231) (by decide) (by decide)
                obtain ⟨b301, g301⟩ : ∃ z, z = T285.heap.size := ⟨_, rfl⟩
                have ne302 : b7 ≠ b301 := Nat.ne_of_lt (Nat.lt_of_lt_of_le f290.lt (Nat.le_of_eq g301.symm))
                have ne303 : b12 ≠ b301 := Nat.ne_of_lt (Nat.lt_of_lt_of_le f291.lt (Nat.le_of_eq g301.symm))
                have ne304 : xb_26 ≠ b301 := Nat.ne_of_lt (Nat.lt_of_lt_of_le f294.lt (Nat.le_of_eq g301.symm))
                have ne305 : b193 ≠ b301 := Nat.ne_of_lt (Nat.lt_of_lt_of_le f295.lt (Nat.le_of_eq g301.symm))
                have ne306 : b206 ≠ b301 := Nat.ne_of_lt (Nat.lt_of_lt_of_le f296.lt (Nat.le_of_eq g301.symm))
                have ne307 : xb_244 ≠ b301 := Nat.ne_of_lt (Nat.lt_of_lt_of_le f299.lt (Nat.le_of_eq g301.symm))
                have ne308 : b264 ≠ b301 := Nat.ne_of_lt (Nat.lt_of_lt_of_le po288.lt (Nat.le_of_eq g301.symm))
                rw [← g301] at A301 D301 st301
                have f309 : Sta Z h301 "java/lang/String" "COMPACT_STRINGS" "Z" (.int cs) := (f289.ext E301)
                have f310 : Exa Z h301 b7 "java/lang/String" := (f290.ext E301)
                have f311 : Arv Z h301 b12 k12 .char (1 : Int32) [(.int y7)] (.int (0 : Int32)) := (f291.ext E301)
                have f312 : Fld Z h301 b7 "java/lang/String" "value" "[B" (.ref xb_26) := (f292.ext E301)
                have f313 : Fld Z h301 b7 "java/lang/String" "coder" "B" (.int (0 : Int32)) := (f293.ext E301)
                have f314 : Arv Z h301 xb_26 xk_26 .byte (1 : Int32) [(.int (nar .byte (y7.toInt8.toInt32)))] (.int (0 : Int32)) := (f294.ext E301)
                have f315 : Exa Z h301 b193 "java/lang/String" := (f295.ext E301)
                have f316 : Arv Z h301 b206 k206 .char (2 : Int32) [(.int y10), (.int y11)] (.int (0 : Int32)) := (f296.ext E301)
                have f317 : Fld Z h301 b193 "java/lang/String" "value" "[B" (.ref xb_244) := (f297.ext E301)
                have f318 : Fld Z h301 b193 "java/lang/String" "coder" "B" (.int (0 : Int32)) := (f298.ext E301)
                have f319 : Arv Z h301 xb_244 xk_244 .byte (2 : Int32) [(.int (nar .byte (y10.toInt8.toInt32))), (.int (nar .byte (y11.toInt8.toInt32)))] (.int (0 : Int32)) := (f299.ext E301)
                have f320 : Exa Z h301 b264 "com/example/node_ring/nodering/pool/Server" := (po288.ext E301)
                have f321 : Fld Z h301 b264 "com/example/node_ring/nodering/pool/Server" "name" "Ljava/lang/String;" (.ref b7) := (po286.ext E301)
                have f322 : Fld Z h301 b264 "com/example/node_ring/nodering/pool/Server" "weight" "I" (.int y12) := (po287.ext E301)
                have fn323 : Fld Z h301 b301 "com/example/node_ring/nodering/pool/Server" "name" "Ljava/lang/String;" .null := D301 (Or.inr (hw _ (List.mem_of_getElem? (i := 51) rfl))) (ty := (.object "java/lang/String")) (by decide)
                have fn324 : Fld Z h301 b301 "com/example/node_ring/nodering/pool/Server" "weight" "I" (.int (0 : Int32)) := D301 (Or.inr (hw _ (List.mem_of_getElem? (i := 53) rfl))) (ty := .int) (by decide)
                have ge301 : n0 ≤ b301 := Nat.le_trans zs285 (Nat.le_of_eq g301.symm)
                have zs301 : n0 ≤ h301.size := Nat.le_trans zs285 E301.1
                have hk325 := Nat.le_trans hk285 (E301.1)
                refine own_goS (T' := T301) (g' := (mkF m 234 #[.val (.int p0), .val (.int p1), .val (.int p2), .val (.int p3), .val (.int p4), .val (.int (1 : Int32)), .val (.int (2 : Int32)), .val (.int y7), .val (.int y8), .val (.int xS0_1), .val (.int y10), .val (.int y11), .val (.int y12), .val (.int y13), .val (.int y14), .val (.ref b7), .val (.ref b193), .val (.ref b264), .unset, .unset, .unset] [(.ref b301)])) (fun _ k => st301 _ k) ?_
                refine own_goS (T' := T301) (g' := (mkF m 235 #[.val (.int p0), .val (.int p1), .val (.int p2), .val (.int p3), .val (.int p4), .val (.int (1 : Int32)), .val (.int (2 : Int32)), .val (.int y7), .val (.int y8), .val (.int xS0_1), .val (.int y10), .val (.int y11), .val (.int y12), .val (.int y13), .val (.int y14), .val (.ref b7), .val (.ref b193), .val (.ref b264), .unset, .unset, .unset] [(.ref b301), (.ref b301)])) (fun _ k => XS.dup X301.here hx rfl (hb hby at_234) rfl rfl k) ?_
                refine own_goS (T' := T301) (g' := (mkF m 237 #[.val (.int p0), .val (.int p1), .val (.int p2), .val (.int p3), .val (.int p4), .val (.int (1 : Int32)), .val (.int (2 : Int32)), .val (.int y7), .val (.int y8), .val (.int xS0_1), .val (.int y10), .val (.int y11), .val (.int y12), .val (.int y13), .val (.int y14), .val (.ref b7), .val (.ref b193), .val (.ref b264), .unset, .unset, .unset] [(.ref b193), (.ref b301), (.ref b301)])) (fun _ k => XS.aload X301.here hx rfl (hb hby at_235) rfl rfl k) ?_
                refine own_goS (T' := T301) (g' := (mkF m 239 #[.val (.int p0), .val (.int p1), .val (.int p2), .val (.int p3), .val (.int p4), .val (.int (1 : Int32)), .val (.int (2 : Int32)), .val (.int y7), .val (.int y8), .val (.int xS0_1), .val (.int y10), .val (.int y11), .val (.int y12), .val (.int y13), .val (.int y14), .val (.ref b7), .val (.ref b193), .val (.ref b264), .unset, .unset, .unset] [(.int y13), (.ref b193), (.ref b301), (.ref b301)])) (fun _ k => XS.iload X301.here hx rfl (hb hby at_237) rfl k) ?_
                obtain ⟨_, _, ⟨T326, L326, k326, n326⟩, -, XX326, hs2326, hg2326, ⟨Lc326, hQ326, l326, y326, z326⟩, st326⟩ := X301.specialBackS hx (y := (⟨"com/example/node_ring/nodering/pool/Server", "<init>", "(Ljava/lang/String;I)V"⟩ : MethodName)) rfl hown285 (mvT hZ285 (hw _ (List.mem_of_getElem? (i := 34) rfl))) (mvT hZ285 (hw _ (List.mem_of_getElem? (i := 35) rfl))) (mvT hZ285 (hw _ (List.mem_of_getElem? (i := 36) rfl))) (by decide) (backOfS (W := 1) (rmSrv2 l Z a0 hw [] b301 b193 y13 xb_244 xk_244 (nar .byte (y10.toInt8.toInt32)) (nar .byte (y11.toInt8.toInt32)) h301 n0 zs301 A301 ge301 fn323 fn324 f315 f317 f319 hW13) hZ285 (hw _ (List.mem_of_getElem? (i := 36) rfl)) (hw _ (List.mem_of_getElem? (i := 33) rfl)) (by decide) (by decide)) (g := (mkF m 239 #[.val (.int p0), .val (.int p1), .val (.int p2), .val (.int p3), .val (.int p4), .val (.int (1 : Int32)), .val (.int (2 : Int32)), .val (.int y7), .val (.int y8), .val (.int xS0_1), .val (.int y10), .val (.int y11), .val (.int y12), .val (.int y13), .val (.int y14), .val (.ref b7), .val (.ref b193), .val (.ref b264), .unset, .unset, .unset] [(.int y13), (.ref b193), (.ref b301), (.ref b301)])) rfl (by rw [hml]; rfl) (Steps.refl _) (a := b301) (argsL := [(.ref b193), (.int y13)]) (rest := [(.ref b301)]) (lenOf own_pd9 rfl) rfl (by show 2 * 0 + _ ≤ _; exact Nat.le_of_eq rfl) (hb hby at_239) (fun _ _ => ⟨rfl, e301, (by decide : 10 + 2 ≤ _), (by decide : 38 + 20 ≤ _)⟩)
                dsimp only [Pt.U, Pt.locs, Pt.cells, Pt.slots] at XX326 hs2326 hg2326 l326 y326 z326 st326 hQ326
                subst l326 y326 z326
                obtain ⟨X326, hS326, hZ326, hown326⟩ := rebS hS285 (n1 := T301.heap.size) (by rw [e301]; exact hk325) XX326 hs2326 hg2326 hZ285 hown285
                obtain ⟨rfl, N326q, K326, po327, po328, po329⟩ := hQ326
                have f330 : Sta Z T326.heap "java/lang/String" "COMPACT_STRINGS" "Z" (.int cs) := (own_sta_keep f309 K326 (nsS A301.nostat ns0))
                have f331 : Exa Z T326.heap b7 "java/lang/String" := (f310.keep K326)
                have f332 : Arv Z T326.heap b12 k12 .char (1 : Int32) [(.int y7)] (.int (0 : Int32)) := (f311.keep K326 (ninS ne303 nin0))
                have f333 : Fld Z T326.heap b7 "java/lang/String" "value" "[B" (.ref xb_26) := (f312.keep K326 (ninS ne302 nin0))
                have f334 : Fld Z T326.heap b7 "java/lang/String" "coder" "B" (.int (0 : Int32)) := (f313.keep K326 (ninS ne302 nin0))
                have f335 : Arv Z T326.heap xb_26 xk_26 .byte (1 : Int32) [(.int (nar .byte (y7.toInt8.toInt32)))] (.int (0 : Int32)) := (f314.keep K326 (ninS ne304 nin0))
                have f336 : Exa Z T326.heap b193 "java/lang/String" := (f315.keep K326)
                have f337 : Arv Z T326.heap b206 k206 .char (2 : Int32) [(.int y10), (.int y11)] (.int (0 : Int32)) := (f316.keep K326 (ninS ne306 nin0))
                have f338 : Fld Z T326.heap b193 "java/lang/String" "value" "[B" (.ref xb_244) := (f317.keep K326 (ninS ne305 nin0))
                have f339 : Fld Z T326.heap b193 "java/lang/String" "coder" "B" (.int (0 : Int32)) := (f318.keep K326 (ninS ne305 nin0))
                have f340 : Arv Z T326.heap xb_244 xk_244 .byte (2 : Int32) [(.int (nar .byte (y10.toInt8.toInt32))), (.int (nar .byte (y11.toInt8.toInt32)))] (.int (0 : Int32)) := (f319.keep K326 (ninS ne307 nin0))
                have f341 : Exa Z T326.heap b264 "com/example/node_ring/nodering/pool/Server" := (f320.keep K326)
                have f342 : Fld Z T326.heap b264 "com/example/node_ring/nodering/pool/Server" "name" "Ljava/lang/String;" (.ref b7) := (f321.keep K326 (ninS ne308 nin0))
                have f343 : Fld Z T326.heap b264 "com/example/node_ring/nodering/pool/Server" "weight" "I" (.int y12) := (f322.keep K326 (ninS ne308 nin0))
                have f344 : Exa Z T326.heap b301 "com/example/node_ring/nodering/pool/Server" := (A301.keep K326)
                have zs326 : n0 ≤ T326.heap.size := Nat.le_trans zs301 K326.1
                have hk326 : T326.heap.size ≤ T326.heap.size := Nat.le_refl _
                have N326 := Fr.app N285 N326q
                refine own_goS (T' := T326) (g' := (mkF m 242 #[.val (.int p0), .val (.int p1), .val (.int p2), .val (.int p3), .val (.int p4), .val (.int (1 : Int32)), .val (.int (2 : Int32)), .val (.int y7), .val (.int y8), .val (.int xS0_1), .val (.int y10), .val (.int y11), .val (.int y12), .val (.int y13), .val (.int y14), .val (.ref b7), .val (.ref b193), .val (.ref b264), .unset, .unset, .unset] [(.ref b301)])) (fun _ k => st326.trans k) ?_
                refine own_goS (T' := T326) (g' := (mkF m 244 #[.val (.int p0), .val (.int p1), .val (.int p2), .val (.int p3), .val (.int p4), .val (.int (1 : Int32)), .val (.int (2 : Int32)), .val (.int y7), .val (.int y8), .val (.int xS0_1), .val (.int y10), .val (.int y11), .val (.int y12), .val (.int y13), .val (.int y14), .val (.ref b7), .val (.ref b193), .val (.ref b264), .val (.ref b301), .unset, .unset] [])) (fun _ k => XS.astore X326.here hx rfl (hb hby at_242) rfl rfl (l' := #[.val (.int p0), .val (.int p1), .val (.int p2), .val (.int p3), .val (.int p4), .val (.int (1 : Int32)), .val (.int (2 : Int32)), .val (.int y7), .val (.int y8), .val (.int xS0_1), .val (.int y10), .val (.int y11), .val (.int y12), .val (.int y13), .val (.int y14), .val (.ref b7), .val (.ref b193), .val (.ref b264), .val (.ref b301), .unset, .unset]) rfl k) ?_
                refine own_goS (T' := T326) (g' := (mkF m 246 #[.val (.int p0), .val (.int p1), .val (.int p2), .val (.int p3), .val (.int p4), .val (.int (1 : Int32)), .val (.int (2 : Int32)), .val (.int y7), .val (.int y8), .val (.int xS0_1), .val (.int y10), .val (.int y11), .val (.int y12), .val (.int y13), .val (.int y14), .val (.ref b7), .val (.ref b193), .val (.ref b264), .val (.ref b301), .unset, .unset] [(.int y14)])) (fun _ k => XS.iload X326.here hx rfl (hb hby at_244) rfl k) ?_
                refine own_goS (T' := T326) (g' := (mkF m 247 #[.val (.int p0), .val (.int p1), .val (.int p2), .val (.int p3), .val (.int p4), .val (.int (1 : Int32)), .val (.int (2 : Int32)), .val (.int y7), .val (.int y8), .val (.int xS0_1), .val (.int y10), .val (.int y11), .val (.int y12), .val (.int y13), .val (.int y14), .val (.ref b7), .val (.ref b193), .val (.ref b264), .val (.ref b301), .unset, .unset] [(.int (1 : Int32)), (.int y14)])) (fun _ k => XS.iconst X326.here hx rfl (hb hby at_246) k) ?_
                by_cases hc247_345 : y14 = (1 : Int32)
                · skip
                  refine own_goS (T' := T326) (g' := (mkF m 250 #[.val (.int p0), .val (.int p1), .val (.int p2), .val (.int p3), .val (.int p4), .val (.int (1 : Int32)), .val (.int (2 : Int32)), .val (.int y7), .val (.int y8), .val (.int xS0_1), .val (.int y10), .val (.int y11), .val (.int y12), .val (.int y13), .val (.int y14), .val (.ref b7), .val (.ref b193), .val (.ref b264), .val (.ref b301), .unset, .unset] [])) (fun _ k => XS.icmpNo X326.here hx rfl (hb hby at_247) rfl (XT.ii_ne_f hc247_345) k) ?_
                  refine own_goS (T' := T326) (g' := (mkF m 252 #[.val (.int p0), .val (.int p1), .val (.int p2), .val (.int p3), .val (.int p4), .val (.int (1 : Int32)), .val (.int (2 : Int32)), .val (.int y7), .val (.int y8), .val (.int xS0_1), .val (.int y10), .val (.int y11), .val (.int y12), .val (.int y13), .val (.int y14), .val (.ref b7), .val (.ref b193), .val (.ref b264), .val (.ref b301), .unset, .unset] [(.ref b264)])) (fun _ k => XS.aload X326.here hx rfl (hb hby at_250) rfl rfl k) ?_
                  refine own_goS (T' := T326) (g' := (mkF m 253 #[.val (.int p0), .val (.int p1), .val (.int p2), .val (.int p3), .val (.int p4), .val (.int (1 : Int32)), .val (.int (2 : Int32)), .val (.int y7), .val (.int y8), .val (.int xS0_1), .val (.int y10), .val (.int y11), .val (.int y12), .val (.int y13), .val (.int y14), .val (.ref b7), .val (.ref b193), .val (.ref b264), .val (.ref b301), .unset, .unset] [.null, (.ref b264)])) (fun _ k => XS.aconstNull X326.here hx rfl (hb hby at_252) k) ?_
                  obtain ⟨cq346, kq346, q346a, q346b, q346c⟩ := isOf hZ326 rfl f341
                  obtain ⟨_, _, ⟨T346, L346, k346, n346⟩, -, X346, ⟨Lc346, hQ346, l346, y346, z346⟩, st346⟩ := X326.virtualBack hx (y := (⟨"com/example/node_ring/nodering/pool/Server", "equals", "(Ljava/lang/Object;)Z"⟩ : MethodName)) (z := (⟨"com/example/node_ring/nodering/pool/Server", "equals", "(Ljava/lang/Object;)Z"⟩ : MethodName)) hown326 (mvT hZ326 (hw _ (List.mem_of_getElem? (i := 54) rfl))) (mvT hZ326 (hw _ (List.mem_of_getElem? (i := 55) rfl))) (notFace_of_selects (args := #[]) (mvT hZ326 (hw _ (List.mem_of_getElem? (i := 57) rfl)))) (mvT hZ326 (hw _ (List.mem_of_getElem? (i := 57) rfl))) (mvT hZ326 (hw _ (List.mem_of_getElem? (i := 56) rfl))) (by decide) (backOf (W := 0) (rmEN l Z a0 hw [] b264 T326.heap n0 zs326 ) hZ326 (hw _ (List.mem_of_getElem? (i := 58) rfl)) (hw _ (List.mem_of_getElem? (i := 33) rfl)) (by decide) (by decide)) q346a q346c (g := (mkF m 253 #[.val (.int p0), .val (.int p1), .val (.int p2), .val (.int p3), .val (.int p4), .val (.int (1 : Int32)), .val (.int (2 : Int32)), .val (.int y7), .val (.int y8), .val (.int xS0_1), .val (.int y10), .val (.int y11), .val (.int y12), .val (.int y13), .val (.int y14), .val (.ref b7), .val (.ref b193), .val (.ref b264), .val (.ref b301), .unset, .unset] [.null, (.ref b264)])) rfl (by rw [hml]; rfl) (Steps.refl _) (argsL := [.null]) (rest := []) (lenOf own_pd7 rfl) rfl (by show 2 * 0 + _ ≤ _; exact Nat.le_of_eq rfl) (hb hby at_253) (fun _ _ => ⟨rfl, rfl, (by decide : 12 + 0 ≤ _), (by decide : 58 + 0 ≤ _)⟩)
                  dsimp only [Pt.U, Pt.locs, Pt.cells, Pt.slots] at X346 l346 y346 z346 st346 hQ346
                  subst l346 y346 z346
                  obtain ⟨rfl, N346q, e346⟩ := hQ346
                  have N346 := Fr.app N326 N346q
                  refine own_goS (T' := T346) (g' := (mkF m 256 #[.val (.int p0), .val (.int p1), .val (.int p2), .val (.int p3), .val (.int p4), .val (.int (1 : Int32)), .val (.int (2 : Int32)), .val (.int y7), .val (.int y8), .val (.int xS0_1), .val (.int y10), .val (.int y11), .val (.int y12), .val (.int y13), .val (.int y14), .val (.ref b7), .val (.ref b193), .val (.ref b264), .val (.ref b301), .unset, .unset] [(.int (own_sN b264))])) (fun _ k => st346.trans k) ?_
                  refine own_goS (T' := T346) (g' := (mkF m 259 #[.val (.int p0), .val (.int p1), .val (.int p2), .val (.int p3), .val (.int p4), .val (.int (1 : Int32)), .val (.int (2 : Int32)), .val (.int y7), .val (.int y8), .val (.int xS0_1), .val (.int y10), .val (.int y11), .val (.int y12), .val (.int y13), .val (.int y14), .val (.ref b7), .val (.ref b193), .val (.ref b264), .val (.ref b301), .unset, .unset] [])) (fun _ k => XS.ifNo X346.here hx rfl (hb hby at_256) rfl (XT.i0_ne_f (by rfl)) k) ?_
                  refine own_goS (T' := T346) (g' := (mkF m 260 #[.val (.int p0), .val (.int p1), .val (.int p2), .val (.int p3), .val (.int p4), .val (.int (1 : Int32)), .val (.int (2 : Int32)), .val (.int y7), .val (.int y8), .val (.int xS0_1), .val (.int y10), .val (.int y11), .val (.int y12), .val (.int y13), .val (.int y14), .val (.ref b7), .val (.ref b193), .val (.ref b264), .val (.ref b301), .unset, .unset] [(.int (1 : Int32))])) (fun _ k => XS.iconst X346.here hx rfl (hb hby at_259) k) ?_
                  refine own_goS (T' := T346) (g' := (mkF m 264 #[.val (.int p0), .val (.int p1), .val (.int p2), .val (.int p3), .val (.int p4), .val (.int (1 : Int32)), .val (.int (2 : Int32)), .val (.int y7), .val (.int y8), .val (.int xS0_1), .val (.int y10), .val (.int y11), .val (.int y12), .val (.int y13), .val (.int y14), .val (.ref b7), .val (.ref b193), .val (.ref b264), .val (.ref b301), .unset, .unset] [(.int (1 : Int32))])) (fun _ k => XS.goto X346.here hx rfl (pc0 := 260) (pc' := 264) rfl (hb hby at_260) (by decide) (by decide) k) ?_
                  exact own_retNS X346 hS326 hx (t := .boolean) Bd.returns hlk (by simp) (hb hby at_264) e346 hk326 ⟨rfl, N346⟩ (by decide) (by decide)
                · skip
                  refine own_goS (T' := T326) (g' := (mkF m 265 #[.val (.int p0), .val (.int p1), .val (.int p2), .val (.int p3), .val (.int p4), .val (.int (1 : Int32)), .val (.int (2 : Int32)), .val (.int y7), .val (.int y8), .val (.int xS0_1), .val (.int y10), .val (.int y11), .val (.int y12), .val (.int y13), .val (.int y14), .val (.ref b7), .val (.ref b193), .val (.ref b264), .val (.ref b301), .unset, .unset] [])) (fun _ k => XS.icmpYes X326.here hx rfl (pc0 := 247) (pc' := 265) rfl (hb hby at_247) rfl (XT.ii_ne_t hc247_345) (by decide) (by decide) k) ?_
                  refine own_goS (T' := T326) (g' := (mkF m 267 #[.val (.int p0), .val (.int p1), .val (.int p2), .val (.int p3), .val (.int p4), .val (.int (1 : Int32)), .val (.int (2 : Int32)), .val (.int y7), .val (.int y8), .val (.int xS0_1), .val (.int y10), .val (.int y11), .val (.int y12), .val (.int y13), .val (.int y14), .val (.ref b7), .val (.ref b193), .val (.ref b264), .val (.ref b301), .unset, .unset] [(.int y14)])) (fun _ k => XS.iload X326.here hx rfl (hb hby at_265) rfl k) ?_
                  refine own_goS (T' := T326) (g' := (mkF m 268 #[.val (.int p0), .val (.int p1), .val (.int p2), .val (.int p3), .val (.int p4), .val (.int (1 : Int32)), .val (.int (2 : Int32)), .val (.int y7), .val (.int y8), .val (.int xS0_1), .val (.int y10), .val (.int y11), .val (.int y12), .val (.int y13), .val (.int y14), .val (.ref b7), .val (.ref b193), .val (.ref b264), .val (.ref b301), .unset, .unset] [(.int (2 : Int32)), (.int y14)])) (fun _ k => XS.iconst X326.here hx rfl (hb hby at_267) k) ?_
                  by_cases hc268_347 : y14 = (2 : Int32)
                  · skip
                    refine own_goS (T' := T326) (g' := (mkF m 271 #[.val (.int p0), .val (.int p1), .val (.int p2), .val (.int p3), .val (.int p4), .val (.int (1 : Int32)), .val (.int (2 : Int32)), .val (.int y7), .val (.int y8), .val (.int xS0_1), .val (.int y10), .val (.int y11), .val (.int y12), .val (.int y13), .val (.int y14), .val (.ref b7), .val (.ref b193), .val (.ref b264), .val (.ref b301), .unset, .unset] [])) (fun _ k => XS.icmpNo X326.here hx rfl (hb hby at_268) rfl (XT.ii_ne_f hc268_347) k) ?_
                    refine own_goS (T' := T326) (g' := (mkF m 273 #[.val (.int p0), .val (.int p1), .val (.int p2), .val (.int p3), .val (.int p4), .val (.int (1 : Int32)), .val (.int (2 : Int32)), .val (.int y7), .val (.int y8), .val (.int xS0_1), .val (.int y10), .val (.int y11), .val (.int y12), .val (.int y13), .val (.int y14), .val (.ref b7), .val (.ref b193), .val (.ref b264), .val (.ref b301), .unset, .unset] [(.ref b264)])) (fun _ k => XS.aload X326.here hx rfl (hb hby at_271) rfl rfl k) ?_
                    refine own_goS (T' := T326) (g' := (mkF m 275 #[.val (.int p0), .val (.int p1), .val (.int p2), .val (.int p3), .val (.int p4), .val (.int (1 : Int32)), .val (.int (2 : Int32)), .val (.int y7), .val (.int y8), .val (.int xS0_1), .val (.int y10), .val (.int y11), .val (.int y12), .val (.int y13), .val (.int y14), .val (.ref b7), .val (.ref b193), .val (.ref b264), .val (.ref b301), .unset, .unset] [(.ref b7), (.ref b264)])) (fun _ k => XS.aload X326.here hx rfl (hb hby at_273) rfl rfl k) ?_
                    obtain ⟨cq348, kq348, q348a, q348b, q348c⟩ := isOf hZ326 rfl f341
                    obtain ⟨_, _, ⟨T348, L348, k348, n348⟩, -, X348, ⟨Lc348, hQ348, l348, y348, z348⟩, st348⟩ := X326.virtualBack hx (y := (⟨"com/example/node_ring/nodering/pool/Server", "equals", "(Ljava/lang/Object;)Z"⟩ : MethodName)) (z := (⟨"com/example/node_ring/nodering/pool/Server", "equals", "(Ljava/lang/Object;)Z"⟩ : MethodName)) hown326 (mvT hZ326 (hw _ (List.mem_of_getElem? (i := 54) rfl))) (mvT hZ326 (hw _ (List.mem_of_getElem? (i := 55) rfl))) (notFace_of_selects (args := #[]) (mvT hZ326 (hw _ (List.mem_of_getElem? (i := 57) rfl)))) (mvT hZ326 (hw _ (List.mem_of_getElem? (i := 57) rfl))) (mvT hZ326 (hw _ (List.mem_of_getElem? (i := 56) rfl))) (by decide) (backOf (W := 0) (rmET l Z a0 hw [] b264 b7 T326.heap n0 zs326 f331) hZ326 (hw _ (List.mem_of_getElem? (i := 58) rfl)) (hw _ (List.mem_of_getElem? (i := 33) rfl)) (by decide) (by decide)) q348a q348c (g := (mkF m 275 #[.val (.int p0), .val (.int p1), .val (.int p2), .val (.int p3), .val (.int p4), .val (.int (1 : Int32)), .val (.int (2 : Int32)), .val (.int y7), .val (.int y8), .val (.int xS0_1), .val (.int y10), .val (.int y11), .val (.int y12), .val (.int y13), .val (.int y14), .val (.ref b7), .val (.ref b193), .val (.ref b264), .val (.ref b301), .unset, .unset] [(.ref b7), (.ref b264)])) rfl (by rw [hml]; rfl) (Steps.refl _) (argsL := [(.ref b7)]) (rest := []) (lenOf own_pd7 rfl) rfl (by show 2 * 0 + _ ≤ _; exact Nat.le_of_eq rfl) (hb hby at_275) (fun _ _ => ⟨rfl, rfl, (by decide : 12 + 0 ≤ _), (by decide : 58 + 0 ≤ _)⟩)
                    dsimp only [Pt.U, Pt.locs, Pt.cells, Pt.slots] at X348 l348 y348 z348 st348 hQ348
                    subst l348 y348 z348
                    obtain ⟨rfl, N348q, e348⟩ := hQ348
                    have N348 := Fr.app N326 N348q
                    refine own_goS (T' := T348) (g' := (mkF m 278 #[.val (.int p0), .val (.int p1), .val (.int p2), .val (.int p3), .val (.int p4), .val (.int (1 : Int32)), .val (.int (2 : Int32)), .val (.int y7), .val (.int y8), .val (.int xS0_1), .val (.int y10), .val (.int y11), .val (.int y12), .val (.int y13), .val (.int y14), .val (.ref b7), .val (.ref b193), .val (.ref b264), .val (.ref b301), .unset, .unset] [(.int (own_sT b264 b7))])) (fun _ k => st348.trans k) ?_
                    refine own_goS (T' := T348) (g' := (mkF m 281 #[.val (.int p0), .val (.int p1), .val (.int p2), .val (.int p3), .val (.int p4), .val (.int (1 : Int32)), .val (.int (2 : Int32)), .val (.int y7), .val (.int y8), .val (.int xS0_1), .val (.int y10), .val (.int y11), .val (.int y12), .val (.int y13), .val (.int y14), .val (.ref b7), .val (.ref b193), .val (.ref b264), .val (.ref b301), .unset, .unset] [])) (fun _ k => XS.ifNo X348.here hx rfl (hb hby at_278) rfl (XT.i0_ne_f (by rfl)) k) ?_
                    refine own_goS (T' := T348) (g' := (mkF m 282 #[.val (.int p0), .val (.int p1), .val (.int p2), .val (.int p3), .val (.int p4), .val (.int (1 : Int32)), .val (.int (2 : Int32)), .val (.int y7), .val (.int y8), .val (.int xS0_1), .val (.int y10), .val (.int y11), .val (.int y12), .val (.int y13), .val (.int y14), .val (.ref b7), .val (.ref b193), .val (.ref b264), .val (.ref b301), .unset, .unset] [(.int (1 : Int32))])) (fun _ k => XS.iconst X348.here hx rfl (hb hby at_281) k) ?_
                    refine own_goS (T' := T348) (g' := (mkF m 286 #[.val (.int p0), .val (.int p1), .val (.int p2), .val (.int p3), .val (.int p4), .val (.int (1 : Int32)), .val (.int (2 : Int32)), .val (.int y7), .val (.int y8), .val (.int xS0_1), .val (.int y10), .val (.int y11), .val (.int y12), .val (.int y13), .val (.int y14), .val (.ref b7), .val (.ref b193), .val (.ref b264), .val (.ref b301), .unset, .unset] [(.int (1 : Int32))])) (fun _ k => XS.goto X348.here hx rfl (pc0 := 282) (pc' := 286) rfl (hb hby at_282) (by decide) (by decide) k) ?_
                    exact own_retNS X348 hS326 hx (t := .boolean) Bd.returns hlk (by simp) (hb hby at_286) e348 hk326 ⟨rfl, N348⟩ (by decide) (by decide)
                  · skip
                    refine own_goS (T' := T326) (g' := (mkF m 287 #[.val (.int p0), .val (.int p1), .val (.int p2), .val (.int p3), .val (.int p4), .val (.int (1 : Int32)), .val (.int (2 : Int32)), .val (.int y7), .val (.int y8), .val (.int xS0_1), .val (.int y10), .val (.int y11), .val (.int y12), .val (.int y13), .val (.int y14), .val (.ref b7), .val (.ref b193), .val (.ref b264), .val (.ref b301), .unset, .unset] [])) (fun _ k => XS.icmpYes X326.here hx rfl (pc0 := 268) (pc' := 287) rfl (hb hby at_268) rfl (XT.ii_ne_t hc268_347) (by decide) (by decide) k) ?_
                    refine own_goS (T' := T326) (g' := (mkF m 289 #[.val (.int p0), .val (.int p1), .val (.int p2), .val (.int p3), .val (.int p4), .val (.int (1 : Int32)), .val (.int (2 : Int32)), .val (.int y7), .val (.int y8), .val (.int xS0_1), .val (.int y10), .val (.int y11), .val (.int y12), .val (.int y13), .val (.int y14), .val (.ref b7), .val (.ref b193), .val (.ref b264), .val (.ref b301), .unset, .unset] [(.int y14)])) (fun _ k => XS.iload X326.here hx rfl (hb hby at_287) rfl k) ?_
                    refine own_goS (T' := T326) (g' := (mkF m 290 #[.val (.int p0), .val (.int p1), .val (.int p2), .val (.int p3), .val (.int p4), .val (.int (1 : Int32)), .val (.int (2 : Int32)), .val (.int y7), .val (.int y8), .val (.int xS0_1), .val (.int y10), .val (.int y11), .val (.int y12), .val (.int y13), .val (.int y14), .val (.ref b7), .val (.ref b193), .val (.ref b264), .val (.ref b301), .unset, .unset] [(.int (3 : Int32)), (.int y14)])) (fun _ k => XS.iconst X326.here hx rfl (hb hby at_289) k) ?_
                    by_cases hc290_349 : y14 = (3 : Int32)
                    · skip
                      refine own_goS (T' := T326) (g' := (mkF m 293 #[.val (.int p0), .val (.int p1), .val (.int p2), .val (.int p3), .val (.int p4), .val (.int (1 : Int32)), .val (.int (2 : Int32)), .val (.int y7), .val (.int y8), .val (.int xS0_1), .val (.int y10), .val (.int y11), .val (.int y12), .val (.int y13), .val (.int y14), .val (.ref b7), .val (.ref b193), .val (.ref b264), .val (.ref b301), .unset, .unset] [])) (fun _ k => XS.icmpNo X326.here hx rfl (hb hby at_290) rfl (XT.ii_ne_f hc290_349) k) ?_
                      refine own_goS (T' := T326) (g' := (mkF m 295 #[.val (.int p0), .val (.int p1), .val (.int p2), .val (.int p3), .val (.int p4), .val (.int (1 : Int32)), .val (.int (2 : Int32)), .val (.int y7), .val (.int y8), .val (.int xS0_1), .val (.int y10), .val (.int y11), .val (.int y12), .val (.int y13), .val (.int y14), .val (.ref b7), .val (.ref b193), .val (.ref b264), .val (.ref b301), .unset, .unset] [(.ref b264)])) (fun _ k => XS.aload X326.here hx rfl (hb hby at_293) rfl rfl k) ?_
                      refine own_goS (T' := T326) (g' := (mkF m 297 #[.val (.int p0), .val (.int p1), .val (.int p2), .val (.int p3), .val (.int p4), .val (.int (1 : Int32)), .val (.int (2 : Int32)), .val (.int y7), .val (.int y8), .val (.int xS0_1), .val (.int y10), .val (.int y11), .val (.int y12), .val (.int y13), .val (.int y14), .val (.ref b7), .val (.ref b193), .val (.ref b264), .val (.ref b301), .unset, .unset] [(.ref b264), (.ref b264)])) (fun _ k => XS.aload X326.here hx rfl (hb hby at_295) rfl rfl k) ?_
                      obtain ⟨cq350, kq350, q350a, q350b, q350c⟩ := isOf hZ326 rfl f341
                      obtain ⟨_, _, ⟨T350, L350, k350, n350⟩, -, X350, ⟨Lc350, hQ350, l350, y350, z350⟩, st350⟩ := X326.virtualBack hx (y := (⟨"com/example/node_ring/nodering/pool/Server", "equals", "(Ljava/lang/Object;)Z"⟩ : MethodName)) (z := (⟨"com/example/node_ring/nodering/pool/Server", "equals", "(Ljava/lang/Object;)Z"⟩ : MethodName)) hown326 (mvT hZ326 (hw _ (List.mem_of_getElem? (i := 54) rfl))) (mvT hZ326 (hw _ (List.mem_of_getElem? (i := 55) rfl))) (notFace_of_selects (args := #[]) (mvT hZ326 (hw _ (List.mem_of_getElem? (i := 57) rfl)))) (mvT hZ326 (hw _ (List.mem_of_getElem? (i := 57) rfl))) (mvT hZ326 (hw _ (List.mem_of_getElem? (i := 56) rfl))) (by decide) (backOf (W := 0) (rmES l Z a0 hw [] b264 b7 y12 T326.heap n0 zs326 f341 f342 f343 f331) hZ326 (hw _ (List.mem_of_getElem? (i := 58) rfl)) (hw _ (List.mem_of_getElem? (i := 33) rfl)) (by decide) (by decide)) q350a q350c (g := (mkF m 297 #[.val (.int p0), .val (.int p1), .val (.int p2), .val (.int p3), .val (.int p4), .val (.int (1 : Int32)), .val (.int (2 : Int32)), .val (.int y7), .val (.int y8), .val (.int xS0_1), .val (.int y10), .val (.int y11), .val (.int y12), .val (.int y13), .val (.int y14), .val (.ref b7), .val (.ref b193), .val (.ref b264), .val (.ref b301), .unset, .unset] [(.ref b264), (.ref b264)])) rfl (by rw [hml]; rfl) (Steps.refl _) (argsL := [(.ref b264)]) (rest := []) (lenOf own_pd7 rfl) rfl (by show 2 * 0 + _ ≤ _; exact Nat.le_of_eq rfl) (hb hby at_297) (fun _ _ => ⟨rfl, rfl, (by decide : 12 + 0 ≤ _), (by decide : 58 + 0 ≤ _)⟩)
                      dsimp only [Pt.U, Pt.locs, Pt.cells, Pt.slots] at X350 l350 y350 z350 st350 hQ350
                      subst l350 y350 z350
                      obtain ⟨rfl, N350q, e350⟩ := hQ350
                      have N350 := Fr.app N326 N350q
                      refine own_goS (T' := T350) (g' := (mkF m 300 #[.val (.int p0), .val (.int p1), .val (.int p2), .val (.int p3), .val (.int p4), .val (.int (1 : Int32)), .val (.int (2 : Int32)), .val (.int y7), .val (.int y8), .val (.int xS0_1), .val (.int y10), .val (.int y11), .val (.int y12), .val (.int y13), .val (.int y14), .val (.ref b7), .val (.ref b193), .val (.ref b264), .val (.ref b301), .unset, .unset] [(.int (own_sS b264 b7 y12))])) (fun _ k => st350.trans k) ?_
                      exact own_retNS X350 hS326 hx (t := .boolean) Bd.returns hlk (by simp) (hb hby at_300) e350 hk326 ⟨(by unfold own_sS; rfl), N350⟩ (by decide) (by decide)
                    · skip
                      refine own_goS (T' := T326) (g' := (mkF m 301 #[.val (.int p0), .val (.int p1), .val (.int p2), .val (.int p3), .val (.int p4), .val (.int (1 : Int32)), .val (.int (2 : Int32)), .val (.int y7), .val (.int y8), .val (.int xS0_1), .val (.int y10), .val (.int y11), .val (.int y12), .val (.int y13), .val (.int y14), .val (.ref b7), .val (.ref b193), .val (.ref b264), .val (.ref b301), .unset, .unset] [])) (fun _ k => XS.icmpYes X326.here hx rfl (pc0 := 290) (pc' := 301) rfl (hb hby at_290) rfl (XT.ii_ne_t hc290_349) (by decide) (by decide) k) ?_
                      refine own_goS (T' := T326) (g' := (mkF m 303 #[.val (.int p0), .val (.int p1), .val (.int p2), .val (.int p3), .val (.int p4), .val (.int (1 : Int32)), .val (.int (2 : Int32)), .val (.int y7), .val (.int y8), .val (.int xS0_1), .val (.int y10), .val (.int y11), .val (.int y12), .val (.int y13), .val (.int y14), .val (.ref b7), .val (.ref b193), .val (.ref b264), .val (.ref b301), .unset, .unset] [(.int (1 : Int32))])) (fun _ k => XS.iload X326.here hx rfl (hb hby at_301) rfl k) ?_
                      refine own_goS (T' := T326) (g' := (mkF m 305 #[.val (.int p0), .val (.int p1), .val (.int p2), .val (.int p3), .val (.int p4), .val (.int (1 : Int32)), .val (.int (2 : Int32)), .val (.int y7), .val (.int y8), .val (.int xS0_1), .val (.int y10), .val (.int y11), .val (.int y12), .val (.int y13), .val (.int y14), .val (.ref b7), .val (.ref b193), .val (.ref b264), .val (.ref b301), .unset, .unset] [(.int (2 : Int32)), (.int (1 : Int32))])) (fun _ k => XS.iload X326.here hx rfl (hb hby at_303) rfl k) ?_
                      refine own_goS (T' := T326) (g' := (mkF m 332 #[.val (.int p0), .val (.int p1), .val (.int p2), .val (.int p3), .val (.int p4), .val (.int (1 : Int32)), .val (.int (2 : Int32)), .val (.int y7), .val (.int y8), .val (.int xS0_1), .val (.int y10), .val (.int y11), .val (.int y12), .val (.int y13), .val (.int y14), .val (.ref b7), .val (.ref b193), .val (.ref b264), .val (.ref b301), .unset, .unset] [])) (fun _ k => XS.icmpYes X326.here hx rfl (pc0 := 305) (pc' := 332) rfl (hb hby at_305) rfl (XT.ii_ne_t (by decide : ¬ ((1 : Int32) = (2 : Int32)))) (by decide) (by decide) k) ?_
                      refine own_goS (T' := T326) (g' := (mkF m 333 #[.val (.int p0), .val (.int p1), .val (.int p2), .val (.int p3), .val (.int p4), .val (.int (1 : Int32)), .val (.int (2 : Int32)), .val (.int y7), .val (.int y8), .val (.int xS0_1), .val (.int y10), .val (.int y11), .val (.int y12), .val (.int y13), .val (.int y14), .val (.ref b7), .val (.ref b193), .val (.ref b264), .val (.ref b301), .unset, .unset] [(.int (0 : Int32))])) (fun _ k => XS.iconst X326.here hx rfl (hb hby at_332) k) ?_
                      refine own_goS (T' := T326) (g' := (mkF m 335 #[.val (.int p0), .val (.int p1), .val (.int p2), .val (.int p3), .val (.int p4), .val (.int (1 : Int32)), .val (.int (2 : Int32)), .val (.int y7), .val (.int y8), .val (.int xS0_1), .val (.int y10), .val (.int y11), .val (.int y12), .val (.int y13), .val (.int y14), .val (.ref b7), .val (.ref b193), .val (.ref b264), .val (.ref b301), .val (.int (0 : Int32)), .unset] [])) (fun _ k => XS.istore X326.here hx rfl (hb hby at_333) rfl (l' := #[.val (.int p0), .val (.int p1), .val (.int p2), .val (.int p3), .val (.int p4), .val (.int (1 : Int32)), .val (.int (2 : Int32)), .val (.int y7), .val (.int y8), .val (.int xS0_1), .val (.int y10), .val (.int y11), .val (.int y12), .val (.int y13), .val (.int y14), .val (.ref b7), .val (.ref b193), .val (.ref b264), .val (.ref b301), .val (.int (0 : Int32)), .unset]) rfl k) ?_
                      refine own_goS (T' := T326) (g' := (mkF m 337 #[.val (.int p0), .val (.int p1), .val (.int p2), .val (.int p3), .val (.int p4), .val (.int (1 : Int32)), .val (.int (2 : Int32)), .val (.int y7), .val (.int y8), .val (.int xS0_1), .val (.int y10), .val (.int y11), .val (.int y12), .val (.int y13), .val (.int y14), .val (.ref b7), .val (.ref b193), .val (.ref b264), .val (.ref b301), .val (.int (0 : Int32)), .unset] [(.int (0 : Int32))])) (fun _ k => XS.iload X326.here hx rfl (hb hby at_335) rfl k) ?_
                      refine own_goS (T' := T326) (g' := (mkF m 351 #[.val (.int p0), .val (.int p1), .val (.int p2), .val (.int p3), .val (.int p4), .val (.int (1 : Int32)), .val (.int (2 : Int32)), .val (.int y7), .val (.int y8), .val (.int xS0_1), .val (.int y10), .val (.int y11), .val (.int y12), .val (.int y13), .val (.int y14), .val (.ref b7), .val (.ref b193), .val (.ref b264), .val (.ref b301), .val (.int (0 : Int32)), .unset] [])) (fun _ k => XS.ifYes X326.here hx rfl (pc0 := 337) (pc' := 351) rfl (hb hby at_337) rfl (XT.i0_eq_t (rfl : (0 : Int32) = (0 : Int32))) (by decide) (by decide) k) ?_
                      refine own_goS (T' := T326) (g' := (mkF m 352 #[.val (.int p0), .val (.int p1), .val (.int p2), .val (.int p3), .val (.int p4), .val (.int (1 : Int32)), .val (.int (2 : Int32)), .val (.int y7), .val (.int y8), .val (.int xS0_1), .val (.int y10), .val (.int y11), .val (.int y12), .val (.int y13), .val (.int y14), .val (.ref b7), .val (.ref b193), .val (.ref b264), .val (.ref b301), .val (.int (0 : Int32)), .unset] [(.int (0 : Int32))])) (fun _ k => XS.iconst X326.here hx rfl (hb hby at_351) k) ?_
                      refine own_goS (T' := T326) (g' := (mkF m 354 #[.val (.int p0), .val (.int p1), .val (.int p2), .val (.int p3), .val (.int p4), .val (.int (1 : Int32)), .val (.int (2 : Int32)), .val (.int y7), .val (.int y8), .val (.int xS0_1), .val (.int y10), .val (.int y11), .val (.int y12), .val (.int y13), .val (.int y14), .val (.ref b7), .val (.ref b193), .val (.ref b264), .val (.ref b301), .val (.int (0 : Int32)), .val (.int (0 : Int32))] [])) (fun _ k => XS.istore X326.here hx rfl (hb hby at_352) rfl (l' := #[.val (.int p0), .val (.int p1), .val (.int p2), .val (.int p3), .val (.int p4), .val (.int (1 : Int32)), .val (.int (2 : Int32)), .val (.int y7), .val (.int y8), .val (.int xS0_1), .val (.int y10), .val (.int y11), .val (.int y12), .val (.int y13), .val (.int y14), .val (.ref b7), .val (.ref b193), .val (.ref b264), .val (.ref b301), .val (.int (0 : Int32)), .val (.int (0 : Int32))]) rfl k) ?_
                      refine own_goS (T' := T326) (g' := (mkF m 356 #[.val (.int p0), .val (.int p1), .val (.int p2), .val (.int p3), .val (.int p4), .val (.int (1 : Int32)), .val (.int (2 : Int32)), .val (.int y7), .val (.int y8), .val (.int xS0_1), .val (.int y10), .val (.int y11), .val (.int y12), .val (.int y13), .val (.int y14), .val (.ref b7), .val (.ref b193), .val (.ref b264), .val (.ref b301), .val (.int (0 : Int32)), .val (.int (0 : Int32))] [(.ref b264)])) (fun _ k => XS.aload X326.here hx rfl (hb hby at_354) rfl rfl k) ?_
                      refine own_goS (T' := T326) (g' := (mkF m 358 #[.val (.int p0), .val (.int p1), .val (.int p2), .val (.int p3), .val (.int p4), .val (.int (1 : Int32)), .val (.int (2 : Int32)), .val (.int y7), .val (.int y8), .val (.int xS0_1), .val (.int y10), .val (.int y11), .val (.int y12), .val (.int y13), .val (.int y14), .val (.ref b7), .val (.ref b193), .val (.ref b264), .val (.ref b301), .val (.int (0 : Int32)), .val (.int (0 : Int32))] [(.ref b301), (.ref b264)])) (fun _ k => XS.aload X326.here hx rfl (hb hby at_356) rfl rfl k) ?_
                      obtain ⟨cq351, kq351, q351a, q351b, q351c⟩ := isOf hZ326 rfl f341
                      obtain ⟨_, _, ⟨T351, L351, k351, n351⟩, -, X351, ⟨Lc351, hQ351, l351, y351, z351⟩, st351⟩ := X326.virtualBack hx (y := (⟨"com/example/node_ring/nodering/pool/Server", "equals", "(Ljava/lang/Object;)Z"⟩ : MethodName)) (z := (⟨"com/example/node_ring/nodering/pool/Server", "equals", "(Ljava/lang/Object;)Z"⟩ : MethodName)) hown326 (mvT hZ326 (hw _ (List.mem_of_getElem? (i := 54) rfl))) (mvT hZ326 (hw _ (List.mem_of_getElem? (i := 55) rfl))) (notFace_of_selects (args := #[]) (mvT hZ326 (hw _ (List.mem_of_getElem? (i := 57) rfl)))) (mvT hZ326 (hw _ (List.mem_of_getElem? (i := 57) rfl))) (mvT hZ326 (hw _ (List.mem_of_getElem? (i := 56) rfl))) (by decide) (backOf (W := 0) (rmE12 l Z a0 hw [] b264 b301 b7 y12 xb_26 xk_26 (nar .byte (y7.toInt8.toInt32)) b193 y13 xb_244 xk_244 (nar .byte (y10.toInt8.toInt32)) (nar .byte (y11.toInt8.toInt32)) cs T326.heap n0 zs326 f341 f342 f343 f331 f334 f333 f335 po329 po327 po328 f336 f339 f338 f340 f330 hh0 ne194) hZ326 (hw _ (List.mem_of_getElem? (i := 58) rfl)) (hw _ (List.mem_of_getElem? (i := 33) rfl)) (by decide) (by decide)) q351a q351c (g := (mkF m 358 #[.val (.int p0), .val (.int p1), .val (.int p2), .val (.int p3), .val (.int p4), .val (.int (1 : Int32)), .val (.int (2 : Int32)), .val (.int y7), .val (.int y8), .val (.int xS0_1), .val (.int y10), .val (.int y11), .val (.int y12), .val (.int y13), .val (.int y14), .val (.ref b7), .val (.ref b193), .val (.ref b264), .val (.ref b301), .val (.int (0 : Int32)), .val (.int (0 : Int32))] [(.ref b301), (.ref b264)])) rfl (by rw [hml]; rfl) (Steps.refl _) (argsL := [(.ref b301)]) (rest := []) (lenOf own_pd7 rfl) rfl (by show 2 * 0 + _ ≤ _; exact Nat.le_of_eq rfl) (hb hby at_358) (fun _ _ => ⟨rfl, rfl, (by decide : 12 + 0 ≤ _), (by decide : 58 + 0 ≤ _)⟩)
                      dsimp only [Pt.U, Pt.locs, Pt.cells, Pt.slots] at X351 l351 y351 z351 st351 hQ351
                      subst l351 y351 z351
                      obtain ⟨rfl, N351q, e351⟩ := hQ351
                      have N351 := Fr.app N326 N351q
                      refine own_goS (T' := T351) (g' := (mkF m 361 #[.val (.int p0), .val (.int p1), .val (.int p2), .val (.int p3), .val (.int p4), .val (.int (1 : Int32)), .val (.int (2 : Int32)), .val (.int y7), .val (.int y8), .val (.int xS0_1), .val (.int y10), .val (.int y11), .val (.int y12), .val (.int y13), .val (.int y14), .val (.ref b7), .val (.ref b193), .val (.ref b264), .val (.ref b301), .val (.int (0 : Int32)), .val (.int (0 : Int32))] [(.int (own_s12 b264 b301 b7 y12 xb_26 xk_26 (nar .byte (y7.toInt8.toInt32)) b193 y13 xb_244 xk_244 (nar .byte (y10.toInt8.toInt32)) (nar .byte (y11.toInt8.toInt32)) cs))])) (fun _ k => st351.trans k) ?_
                      refine own_goS (T' := T351) (g' := (mkF m 363 #[.val (.int p0), .val (.int p1), .val (.int p2), .val (.int p3), .val (.int p4), .val (.int (1 : Int32)), .val (.int (2 : Int32)), .val (.int y7), .val (.int y8), .val (.int xS0_1), .val (.int y10), .val (.int y11), .val (.int y12), .val (.int y13), .val (.int y14), .val (.ref b7), .val (.ref b193), .val (.ref b264), .val (.ref b301), .val (.int (0 : Int32)), .val (.int (0 : Int32))] [(.int (0 : Int32)), (.int (own_s12 b264 b301 b7 y12 xb_26 xk_26 (nar .byte (y7.toInt8.toInt32)) b193 y13 xb_244 xk_244 (nar .byte (y10.toInt8.toInt32)) (nar .byte (y11.toInt8.toInt32)) cs))])) (fun _ k => XS.iload X351.here hx rfl (hb hby at_361) rfl k) ?_
                      refine own_goS (T' := T351) (g' := (mkF m 366 #[.val (.int p0), .val (.int p1), .val (.int p2), .val (.int p3), .val (.int p4), .val (.int (1 : Int32)), .val (.int (2 : Int32)), .val (.int y7), .val (.int y8), .val (.int xS0_1), .val (.int y10), .val (.int y11), .val (.int y12), .val (.int y13), .val (.int y14), .val (.ref b7), .val (.ref b193), .val (.ref b264), .val (.ref b301), .val (.int (0 : Int32)), .val (.int (0 : Int32))] [])) (fun _ k => XS.icmpNo X351.here hx rfl (hb hby at_363) rfl (XT.ii_ne_f (by unfold own_s12 own_q12 own_l12; simp)) k) ?_
                      refine own_goS (T' := T351) (g' := (mkF m 368 #[.val (.int p0), .val (.int p1), .val (.int p2), .val (.int p3), .val (.int p4), .val (.int (1 : Int32)), .val (.int (2 : Int32)), .val (.int y7), .val (.int y8), .val (.int xS0_1), .val (.int y10), .val (.int y11), .val (.int y12), .val (.int y13), .val (.int y14), .val (.ref b7), .val (.ref b193), .val (.ref b264), .val (.ref b301), .val (.int (0 : Int32)), .val (.int (0 : Int32))] [(.ref b301)])) (fun _ k => XS.aload X351.here hx rfl (hb hby at_366) rfl rfl k) ?_
                      refine own_goS (T' := T351) (g' := (mkF m 370 #[.val (.int p0), .val (.int p1), .val (.int p2), .val (.int p3), .val (.int p4), .val (.int (1 : Int32)), .val (.int (2 : Int32)), .val (.int y7), .val (.int y8), .val (.int xS0_1), .val (.int y10), .val (.int y11), .val (.int y12), .val (.int y13), .val (.int y14), .val (.ref b7), .val (.ref b193), .val (.ref b264), .val (.ref b301), .val (.int (0 : Int32)), .val (.int (0 : Int32))] [(.ref b264), (.ref b301)])) (fun _ k => XS.aload X351.here hx rfl (hb hby at_368) rfl rfl k) ?_
                      obtain ⟨cq352, kq352, q352a, q352b, q352c⟩ := isOf hZ326 e351 po329
                      obtain ⟨_, _, ⟨T352, L352, k352, n352⟩, -, X352, ⟨Lc352, hQ352, l352, y352, z352⟩, st352⟩ := X351.virtualBack hx (y := (⟨"com/example/node_ring/nodering/pool/Server", "equals", "(Ljava/lang/Object;)Z"⟩ : MethodName)) (z := (⟨"com/example/node_ring/nodering/pool/Server", "equals", "(Ljava/lang/Object;)Z"⟩ : MethodName)) hown326 (mvT hZ326 (hw _ (List.mem_of_getElem? (i := 54) rfl))) (mvT hZ326 (hw _ (List.mem_of_getElem? (i := 55) rfl))) (notFace_of_selects (args := #[]) (mvT hZ326 (hw _ (List.mem_of_getElem? (i := 57) rfl)))) (mvT hZ326 (hw _ (List.mem_of_getElem? (i := 57) rfl))) (mvT hZ326 (hw _ (List.mem_of_getElem? (i := 56) rfl))) (by decide) (backOf (W := 0) (rmE21 l Z a0 hw [] b301 b264 b193 y13 xb_244 xk_244 (nar .byte (y10.toInt8.toInt32)) (nar .byte (y11.toInt8.toInt32)) b7 y12 xb_26 xk_26 (nar .byte (y7.toInt8.toInt32)) cs T326.heap n0 zs326 po329 po327 po328 f336 f339 f338 f340 f341 f342 f343 f331 f334 f333 f335 f330 hh0 (Ne.symm ne194)) hZ326 (hw _ (List.mem_of_getElem? (i := 58) rfl)) (hw _ (List.mem_of_getElem? (i := 33) rfl)) (by decide) (by decide)) q352a q352c (g := (mkF m 370 #[.val (.int p0), .val (.int p1), .val (.int p2), .val (.int p3), .val (.int p4), .val (.int (1 : Int32)), .val (.int (2 : Int32)), .val (.int y7), .val (.int y8), .val (.int xS0_1), .val (.int y10), .val (.int y11), .val (.int y12), .val (.int y13), .val (.int y14), .val (.ref b7), .val (.ref b193), .val (.ref b264), .val (.ref b301), .val (.int (0 : Int32)), .val (.int (0 : Int32))] [(.ref b264), (.ref b301)])) rfl (by rw [hml]; rfl) (Steps.refl _) (argsL := [(.ref b264)]) (rest := []) (lenOf own_pd7 rfl) rfl (by show 2 * 0 + _ ≤ _; exact Nat.le_of_eq rfl) (hb hby at_370) (fun _ _ => ⟨rfl, e351, (by decide : 12 + 0 ≤ _), (by decide : 58 + 0 ≤ _)⟩)
                      dsimp only [Pt.U, Pt.locs, Pt.cells, Pt.slots] at X352 l352 y352 z352 st352 hQ352
                      subst l352 y352 z352
                      obtain ⟨rfl, N352q, e352⟩ := hQ352
                      have N352 := Fr.app N351 N352q
                      refine own_goS (T' := T352) (g' := (mkF m 373 #[.val (.int p0), .val (.int p1), .val (.int p2), .val (.int p3), .val (.int p4), .val (.int (1 : Int32)), .val (.int (2 : Int32)), .val (.int y7), .val (.int y8), .val (.int xS0_1), .val (.int y10), .val (.int y11), .val (.int y12), .val (.int y13), .val (.int y14), .val (.ref b7), .val (.ref b193), .val (.ref b264), .val (.ref b301), .val (.int (0 : Int32)), .val (.int (0 : Int32))] [(.int (own_s21 b301 b264 b193 y13 xb_244 xk_244 (nar .byte (y10.toInt8.toInt32)) (nar .byte (y11.toInt8.toInt32)) b7 y12 xb_26 xk_26 (nar .byte (y7.toInt8.toInt32)) cs))])) (fun _ k => st352.trans k) ?_
                      refine own_goS (T' := T352) (g' := (mkF m 375 #[.val (.int p0), .val (.int p1), .val (.int p2), .val (.int p3), .val (.int p4), .val (.int (1 : Int32)), .val (.int (2 : Int32)), .val (.int y7), .val (.int y8), .val (.int xS0_1), .val (.int y10), .val (.int y11), .val (.int y12), .val (.int y13), .val (.int y14), .val (.ref b7), .val (.ref b193), .val (.ref b264), .val (.ref b301), .val (.int (0 : Int32)), .val (.int (0 : Int32))] [(.int (0 : Int32)), (.int (own_s21 b301 b264 b193 y13 xb_244 xk_244 (nar .byte (y10.toInt8.toInt32)) (nar .byte (y11.toInt8.toInt32)) b7 y12 xb_26 xk_26 (nar .byte (y7.toInt8.toInt32)) cs))])) (fun _ k => XS.iload X352.here hx rfl (hb hby at_373) rfl k) ?_
                      refine own_goS (T' := T352) (g' := (mkF m 378 #[.val (.int p0), .val (.int p1), .val (.int p2), .val (.int p3), .val (.int p4), .val (.int (1 : Int32)), .val (.int (2 : Int32)), .val (.int y7), .val (.int y8), .val (.int xS0_1), .val (.int y10), .val (.int y11), .val (.int y12), .val (.int y13), .val (.int y14), .val (.ref b7), .val (.ref b193), .val (.ref b264), .val (.ref b301), .val (.int (0 : Int32)), .val (.int (0 : Int32))] [])) (fun _ k => XS.icmpNo X352.here hx rfl (hb hby at_375) rfl (XT.ii_ne_f (by unfold own_s21 own_q21 own_l21; simp)) k) ?_
                      refine own_goS (T' := T352) (g' := (mkF m 379 #[.val (.int p0), .val (.int p1), .val (.int p2), .val (.int p3), .val (.int p4), .val (.int (1 : Int32)), .val (.int (2 : Int32)), .val (.int y7), .val (.int y8), .val (.int xS0_1), .val (.int y10), .val (.int y11), .val (.int y12), .val (.int y13), .val (.int y14), .val (.ref b7), .val (.ref b193), .val (.ref b264), .val (.ref b301), .val (.int (0 : Int32)), .val (.int (0 : Int32))] [(.int (1 : Int32))])) (fun _ k => XS.iconst X352.here hx rfl (hb hby at_378) k) ?_
                      refine own_goS (T' := T352) (g' := (mkF m 383 #[.val (.int p0), .val (.int p1), .val (.int p2), .val (.int p3), .val (.int p4), .val (.int (1 : Int32)), .val (.int (2 : Int32)), .val (.int y7), .val (.int y8), .val (.int xS0_1), .val (.int y10), .val (.int y11), .val (.int y12), .val (.int y13), .val (.int y14), .val (.ref b7), .val (.ref b193), .val (.ref b264), .val (.ref b301), .val (.int (0 : Int32)), .val (.int (0 : Int32))] [(.int (1 : Int32))])) (fun _ k => XS.goto X352.here hx rfl (pc0 := 379) (pc' := 383) rfl (hb hby at_379) (by decide) (by decide) k) ?_
                      exact own_retNS X352 hS326 hx (t := .boolean) Bd.returns hlk (by simp) (hb hby at_383) e352 hk326 ⟨rfl, N352⟩ (by decide) (by decide)
            · skip
              refine own_goS (T' := s₁) (g' := (mkF m 150 #[.val (.int p0), .val (.int p1), .val (.int p2), .val (.int p3), .val (.int p4), .val (.int y5), .val (.int y6), .val (.int y7), .val (.int y8), .val (.int xS0_1), .val (.int y10), .val (.int y11), .val (.int y12), .val (.int y13), .val (.int y14), .unset, .unset, .unset, .unset, .unset, .unset] [])) (fun _ k => XS.icmpYes X0.here hx rfl (pc0 := 129) (pc' := 150) rfl (hb hby at_129) rfl (XT.ii_ne_t hc129_6) (by decide) (by decide) k) ?_
              refine own_goS (T' := s₁) (g' := (mkF m 150 #[.val (.int p0), .val (.int p1), .val (.int p2), .val (.int p3), .val (.int p4), .val (.int (2 : Int32)), .val (.int y6), .val (.int y7), .val (.int y8), .val (.int xS0_1), .val (.int y10), .val (.int y11), .val (.int y12), .val (.int y13), .val (.int y14), .unset, .unset, .unset, .unset, .unset, .unset] [])) (fun _ k => castTop (by rw [h12_5.resolve_left hc129_6]) k) ?_
              obtain ⟨T353, h353, X353, e353, E353, A353, D353, -, st353⟩ := newO X0 hx hZ hown (hw _ (List.mem_of_getElem? (i := 1) rfl)) (hw _ (List.mem_of_getElem? (i := 2) rfl)) (hw _ (List.mem_of_getElem? (i := 3) rfl)) e0 (g := (mkF m 150 #[.val (.int p0), .val (.int p1), .val (.int p2), .val (.int p3), .val (.int p4), .val (.int (2 : Int32)), .val (.int y6), .val (.int y7), .val (.int y8), .val (.int xS0_1), .val (.int y10), .val (.int y11), .val (.int y12), .val (.int y13), .val (.int y14), .unset, .unset, .unset, .unset, .unset, .unset] [])) rfl (hb hby at_150) (by decide) (by decide)
              obtain ⟨b353, g353⟩ : ∃ z, z = h0.size := ⟨_, rfl⟩
              rw [← g353] at A353 D353 st353
              have f354 : Sta Z h353 "java/lang/String" "COMPACT_STRINGS" "Z" (.int cs) := (hp0.ext E353)
              have fn355 : Fld Z h353 b353 "java/lang/String" "coder" "B" (.int (0 : Int32)) := D353 (Or.inr (hw _ (List.mem_of_getElem? (i := 28) rfl))) (ty := .byte) (by decide)
              have fn356 : Fld Z h353 b353 "java/lang/String" "value" "[B" .null := D353 (Or.inr (hw _ (List.mem_of_getElem? (i := 30) rfl))) (ty := (.array .byte)) (by decide)
              have ge353 : n0 ≤ b353 := Nat.le_trans Z0 (Nat.le_of_eq g353.symm)
              have zs353 : n0 ≤ h353.size := Nat.le_trans Z0 E353.1
              have hk357 := Nat.le_trans hk0 (E353.1)
              refine own_goS (T' := T353) (g' := (mkF m 153 #[.val (.int p0), .val (.int p1), .val (.int p2), .val (.int p3), .val (.int p4), .val (.int (2 : Int32)), .val (.int y6), .val (.int y7), .val (.int y8), .val (.int xS0_1), .val (.int y10), .val (.int y11), .val (.int y12), .val (.int y13), .val (.int y14), .unset, .unset, .unset, .unset, .unset, .unset] [(.ref b353)])) (fun _ k => st353 _ k) ?_
              refine own_goS (T' := T353) (g' := (mkF m 154 #[.val (.int p0), .val (.int p1), .val (.int p2), .val (.int p3), .val (.int p4), .val (.int (2 : Int32)), .val (.int y6), .val (.int y7), .val (.int y8), .val (.int xS0_1), .val (.int y10), .val (.int y11), .val (.int y12), .val (.int y13), .val (.int y14), .unset, .unset, .unset, .unset, .unset, .unset] [(.ref b353), (.ref b353)])) (fun _ k => XS.dup X353.here hx rfl (hb hby at_153) rfl rfl k) ?_
              refine own_goS (T' := T353) (g' := (mkF m 155 #[.val (.int p0), .val (.int p1), .val (.int p2), .val (.int p3), .val (.int p4), .val (.int (2 : Int32)), .val (.int y6), .val (.int y7), .val (.int y8), .val (.int xS0_1), .val (.int y10), .val (.int y11), .val (.int y12), .val (.int y13), .val (.int y14), .unset, .unset, .unset, .unset, .unset, .unset] [(.int (2 : Int32)), (.ref b353), (.ref b353)])) (fun _ k => XS.iconst X353.here hx rfl (hb hby at_154) k) ?_
              obtain ⟨T358, h358, k358, X358, e358, E358, A358, st358⟩ := newP X353 hx hZ (hw _ (List.mem_of_getElem? (i := 4) rfl)) e353 (g := (mkF m 155 #[.val (.int p0), .val (.int p1), .val (.int p2), .val (.int p3), .val (.int p4), .val (.int (2 : Int32)), .val (.int y6), .val (.int y7), .val (.int y8), .val (.int xS0_1), .val (.int y10), .val (.int y11), .val (.int y12), .val (.int y13), .val (.int y14), .unset, .unset, .unset, .unset, .unset, .unset] [(.int (2 : Int32)), (.ref b353), (.ref b353)])) rfl (hb hby at_155) rfl (by decide) (cap := 2) (by decide) (by decide) (by decide) (by decide)
              obtain ⟨b358, g358⟩ : ∃ z, z = h353.size := ⟨_, rfl⟩
              have ne359 : b353 ≠ b358 := Nat.ne_of_lt (Nat.lt_of_lt_of_le A353.lt (Nat.le_of_eq g358.symm))
              rw [← g358] at A358 st358
              have f360 : Sta Z h358 "java/lang/String" "COMPACT_STRINGS" "Z" (.int cs) := (f354.ext E358)
              have f361 : Exa Z h358 b353 "java/lang/String" := (A353.ext E358)
              have f362 : Fld Z h358 b353 "java/lang/String" "coder" "B" (.int (0 : Int32)) := (fn355.ext E358)
              have f363 : Fld Z h358 b353 "java/lang/String" "value" "[B" .null := (fn356.ext E358)
              have V358 : Arv Z h358 b358 k358 .char (2 : Int32) [(.int (0 : Int32)), (.int (0 : Int32))] (.int (0 : Int32)) := (Arv.new A358 (by decide)).pad (pad_rep [] (.int (0 : Int32)) 2)
              have ge358 : n0 ≤ b358 := Nat.le_trans zs353 (Nat.le_of_eq g358.symm)
              have zs358 : n0 ≤ h358.size := Nat.le_trans zs353 E358.1
              have hk364 := Nat.le_trans hk357 (E358.1)
              refine own_goS (T' := T358) (g' := (mkF m 157 #[.val (.int p0), .val (.int p1), .val (.int p2), .val (.int p3), .val (.int p4), .val (.int (2 : Int32)), .val (.int y6), .val (.int y7), .val (.int y8), .val (.int xS0_1), .val (.int y10), .val (.int y11), .val (.int y12), .val (.int y13), .val (.int y14), .unset, .unset, .unset, .unset, .unset, .unset] [(.ref b358), (.ref b353), (.ref b353)])) (fun _ k => st358 _ k) ?_
              refine own_goS (T' := T358) (g' := (mkF m 158 #[.val (.int p0), .val (.int p1), .val (.int p2), .val (.int p3), .val (.int p4), .val (.int (2 : Int32)), .val (.int y6), .val (.int y7), .val (.int y8), .val (.int xS0_1), .val (.int y10), .val (.int y11), .val (.int y12), .val (.int y13), .val (.int y14), .unset, .unset, .unset, .unset, .unset, .unset] [(.ref b358), (.ref b358), (.ref b353), (.ref b353)])) (fun _ k => XS.dup X358.here hx rfl (hb hby at_157) rfl rfl k) ?_
              refine own_goS (T' := T358) (g' := (mkF m 159 #[.val (.int p0), .val (.int p1), .val (.int p2), .val (.int p3), .val (.int p4), .val (.int (2 : Int32)), .val (.int y6), .val (.int y7), .val (.int y8), .val (.int xS0_1), .val (.int y10), .val (.int y11), .val (.int y12), .val (.int y13), .val (.int y14), .unset, .unset, .unset, .unset, .unset, .unset] [(.int (0 : Int32)), (.ref b358), (.ref b358), (.ref b353), (.ref b353)])) (fun _ k => XS.iconst X358.here hx rfl (hb hby at_158) k) ?_
              refine own_goS (T' := T358) (g' := (mkF m 161 #[.val (.int p0), .val (.int p1), .val (.int p2), .val (.int p3), .val (.int p4), .val (.int (2 : Int32)), .val (.int y6), .val (.int y7), .val (.int y8), .val (.int xS0_1), .val (.int y10), .val (.int y11), .val (.int y12), .val (.int y13), .val (.int y14), .unset, .unset, .unset, .unset, .unset, .unset] [(.int y7), (.int (0 : Int32)), (.ref b358), (.ref b358), (.ref b353), (.ref b353)])) (fun _ k => XS.iload X358.here hx rfl (hb hby at_159) rfl k) ?_
              obtain ⟨cl365, Ar365, q1365, q2365, q3365, H365, G365⟩ := id V358
              have hin365 := inb_of q2365 (j := (0 : Int32)) (by decide)
              obtain ⟨T365, h365, X365, e365, W365, st365⟩ := stC X358 hx hZ e358 Ar365 (j := (0 : Int32)) hin365 (g := (mkF m 161 #[.val (.int p0), .val (.int p1), .val (.int p2), .val (.int p3), .val (.int p4), .val (.int (2 : Int32)), .val (.int y6), .val (.int y7), .val (.int y8), .val (.int xS0_1), .val (.int y10), .val (.int y11), .val (.int y12), .val (.int y13), .val (.int y14), .unset, .unset, .unset, .unset, .unset, .unset] [(.int y7), (.int (0 : Int32)), (.ref b358), (.ref b358), (.ref b353), (.ref b353)])) rfl rfl (hb hby at_161)
              have f366 : Sta Z h365 "java/lang/String" "COMPACT_STRINGS" "Z" (.int cs) := (f360.wr W365)
              have f367 : Exa Z h365 b353 "java/lang/String" := (f361.wr W365)
              have f368 : Fld Z h365 b353 "java/lang/String" "coder" "B" (.int (0 : Int32)) := (f362.other W365 (Or.inl ne359))
              have f369 : Fld Z h365 b353 "java/lang/String" "value" "[B" .null := (f363.other W365 (Or.inl ne359))
              have V365 : Arv Z h365 b358 k358 .char (2 : Int32) [(.int (nar .char y7)), (.int (0 : Int32))] (.int (0 : Int32)) := Arv.set Ar365 q1365 q2365 q3365 H365 G365 (fits_nar_char _) W365 0 (by decide) (by simp)
              have N365 := Fr.snoc X365 N0 ge358
              have zs365 : n0 ≤ h365.size := by rw [W365.size]; exact zs358
              have hk370 := Nat.le_trans hk364 (Nat.le_of_eq W365.size.symm)
              refine own_goS (T' := T365) (g' := (mkF m 162 #[.val (.int p0), .val (.int p1), .val (.int p2), .val (.int p3), .val (.int p4), .val (.int (2 : Int32)), .val (.int y6), .val (.int y7), .val (.int y8), .val (.int xS0_1), .val (.int y10), .val (.int y11), .val (.int y12), .val (.int y13), .val (.int y14), .unset, .unset, .unset, .unset, .unset, .unset] [(.ref b358), (.ref b353), (.ref b353)])) (fun _ k => st365 _ k) ?_
              refine own_goS (T' := T365) (g' := (mkF m 163 #[.val (.int p0), .val (.int p1), .val (.int p2), .val (.int p3), .val (.int p4), .val (.int (2 : Int32)), .val (.int y6), .val (.int y7), .val (.int y8), .val (.int xS0_1), .val (.int y10), .val (.int y11), .val (.int y12), .val (.int y13), .val (.int y14), .unset, .unset, .unset, .unset, .unset, .unset] [(.ref b358), (.ref b358), (.ref b353), (.ref b353)])) (fun _ k => XS.dup X365.here hx rfl (hb hby at_162) rfl rfl k) ?_
              refine own_goS (T' := T365) (g' := (mkF m 164 #[.val (.int p0), .val (.int p1), .val (.int p2), .val (.int p3), .val (.int p4), .val (.int (2 : Int32)), .val (.int y6), .val (.int y7), .val (.int y8), .val (.int xS0_1), .val (.int y10), .val (.int y11), .val (.int y12), .val (.int y13), .val (.int y14), .unset, .unset, .unset, .unset, .unset, .unset] [(.int (1 : Int32)), (.ref b358), (.ref b358), (.ref b353), (.ref b353)])) (fun _ k => XS.iconst X365.here hx rfl (hb hby at_163) k) ?_
              refine own_goS (T' := T365) (g' := (mkF m 166 #[.val (.int p0), .val (.int p1), .val (.int p2), .val (.int p3), .val (.int p4), .val (.int (2 : Int32)), .val (.int y6), .val (.int y7), .val (.int y8), .val (.int xS0_1), .val (.int y10), .val (.int y11), .val (.int y12), .val (.int y13), .val (.int y14), .unset, .unset, .unset, .unset, .unset, .unset] [(.int y8), (.int (1 : Int32)), (.ref b358), (.ref b358), (.ref b353), (.ref b353)])) (fun _ k => XS.iload X365.here hx rfl (hb hby at_164) rfl k) ?_
              obtain ⟨cl371, Ar371, q1371, q2371, q3371, H371, G371⟩ := id V365
              have hin371 := inb_of q2371 (j := (1 : Int32)) (by decide)
              obtain ⟨T371, h371, X371, e371, W371, st371⟩ := stC X365 hx hZ e365 Ar371 (j := (1 : Int32)) hin371 (g := (mkF m 166 #[.val (.int p0), .val (.int p1), .val (.int p2), .val (.int p3), .val (.int p4), .val (.int (2 : Int32)), .val (.int y6), .val (.int y7), .val (.int y8), .val (.int xS0_1), .val (.int y10), .val (.int y11), .val (.int y12), .val (.int y13), .val (.int y14), .unset, .unset, .unset, .unset, .unset, .unset] [(.int y8), (.int (1 : Int32)), (.ref b358), (.ref b358), (.ref b353), (.ref b353)])) rfl rfl (hb hby at_166)
              have f372 : Sta Z h371 "java/lang/String" "COMPACT_STRINGS" "Z" (.int cs) := (f366.wr W371)
              have f373 : Exa Z h371 b353 "java/lang/String" := (f367.wr W371)
              have f374 : Fld Z h371 b353 "java/lang/String" "coder" "B" (.int (0 : Int32)) := (f368.other W371 (Or.inl ne359))
              have f375 : Fld Z h371 b353 "java/lang/String" "value" "[B" .null := (f369.other W371 (Or.inl ne359))
              have V371 : Arv Z h371 b358 k358 .char (2 : Int32) [(.int (nar .char y7)), (.int (nar .char y8))] (.int (0 : Int32)) := Arv.set Ar371 q1371 q2371 q3371 H371 G371 (fits_nar_char _) W371 1 (by decide) (by simp)
              have N371 := Fr.snoc X371 N365 ge358
              have zs371 : n0 ≤ h371.size := by rw [W371.size]; exact zs365
              have hk376 := Nat.le_trans hk370 (Nat.le_of_eq W371.size.symm)
              refine own_goS (T' := T371) (g' := (mkF m 167 #[.val (.int p0), .val (.int p1), .val (.int p2), .val (.int p3), .val (.int p4), .val (.int (2 : Int32)), .val (.int y6), .val (.int y7), .val (.int y8), .val (.int xS0_1), .val (.int y10), .val (.int y11), .val (.int y12), .val (.int y13), .val (.int y14), .unset, .unset, .unset, .unset, .unset, .unset] [(.ref b358), (.ref b353), (.ref b353)])) (fun _ k => st371 _ k) ?_
              have fz377 : Arv Z h371 b358 k358 .char (2 : Int32) [(.int y7), (.int y8)] (.int (0 : Int32)) := by have q := V371; rw [own_nc hC7, own_nc hC8] at q; exact q
              obtain ⟨_, _, ⟨T378, L378, k378, n378⟩, -, X378, ⟨Lc378, hQ378, l378, y378, z378⟩, st378⟩ := X371.specialBack hx (y := (⟨"java/lang/String", "<init>", "([C)V"⟩ : MethodName)) rfl hown (mvT hZ (hw _ (List.mem_of_getElem? (i := 5) rfl))) (mvT hZ (hw _ (List.mem_of_getElem? (i := 6) rfl))) (mvT hZ (hw _ (List.mem_of_getElem? (i := 7) rfl))) (by decide) (backOf (W := 1) (rmS1_2 l Z a0 hw [] b353 b358 k358 y7 y8 cs h371 n0 zs371 f373 ge353 f375 f374 fz377 f372 hh0 (own_Cn hC7) (own_Cn hC8)) hZ (hw _ (List.mem_of_getElem? (i := 7) rfl)) (hw _ (List.mem_of_getElem? (i := 3) rfl)) (by decide) (by decide)) (g := (mkF m 167 #[.val (.int p0), .val (.int p1), .val (.int p2), .val (.int p3), .val (.int p4), .val (.int (2 : Int32)), .val (.int y6), .val (.int y7), .val (.int y8), .val (.int xS0_1), .val (.int y10), .val (.int y11), .val (.int y12), .val (.int y13), .val (.int y14), .unset, .unset, .unset, .unset, .unset, .unset] [(.ref b358), (.ref b353), (.ref b353)])) rfl (by rw [hml]; rfl) (Steps.refl _) (a := b353) (argsL := [(.ref b358)]) (rest := [(.ref b353)]) (lenOf own_pd8 rfl) rfl (by show 2 * 0 + _ ≤ _; exact Nat.le_of_eq rfl) (hb hby at_167) (fun _ _ => ⟨rfl, e371, (by decide : 2 + 1 ≤ _), (by decide : 6 + 2 ≤ _)⟩)
              dsimp only [Pt.U, Pt.locs, Pt.cells, Pt.slots] at X378 l378 y378 z378 st378 hQ378
              subst l378 y378 z378
              obtain ⟨xb_378, xk_378, rfl, N378q, K378, po379, po380, po381, po382⟩ := hQ378
              have f383 : Sta Z T378.heap "java/lang/String" "COMPACT_STRINGS" "Z" (.int cs) := (own_sta_keep f372 K378 (nsS f373.nostat ns0))
              have f384 : Exa Z T378.heap b353 "java/lang/String" := (f373.keep K378)
              have f385 : Arv Z T378.heap b358 k358 .char (2 : Int32) [(.int y7), (.int y8)] (.int (0 : Int32)) := (fz377.keep K378 (ninS (Ne.symm ne359) nin0))
              have ne386 : b353 ≠ xb_378 := Nat.ne_of_lt (Nat.lt_of_lt_of_le f373.lt po379)
              have ne387 : b358 ≠ xb_378 := Nat.ne_of_lt (Nat.lt_of_lt_of_le fz377.lt po379)
              have ge388 : n0 ≤ xb_378 := Nat.le_trans zs371 po379
              have zs378 : n0 ≤ T378.heap.size := Nat.le_trans zs371 K378.1
              have hk389 := Nat.le_trans hk376 (K378.1)
              have N378 := Fr.app N371 N378q
              refine own_goS (T' := T378) (g' := (mkF m 170 #[.val (.int p0), .val (.int p1), .val (.int p2), .val (.int p3), .val (.int p4), .val (.int (2 : Int32)), .val (.int y6), .val (.int y7), .val (.int y8), .val (.int xS0_1), .val (.int y10), .val (.int y11), .val (.int y12), .val (.int y13), .val (.int y14), .unset, .unset, .unset, .unset, .unset, .unset] [(.ref b353)])) (fun _ k => st378.trans k) ?_
              refine own_goS (T' := T378) (g' := (mkF m 172 #[.val (.int p0), .val (.int p1), .val (.int p2), .val (.int p3), .val (.int p4), .val (.int (2 : Int32)), .val (.int y6), .val (.int y7), .val (.int y8), .val (.int xS0_1), .val (.int y10), .val (.int y11), .val (.int y12), .val (.int y13), .val (.int y14), .val (.ref b353), .unset, .unset, .unset, .unset, .unset] [])) (fun _ k => XS.astore X378.here hx rfl (hb hby at_170) rfl rfl (l' := #[.val (.int p0), .val (.int p1), .val (.int p2), .val (.int p3), .val (.int p4), .val (.int (2 : Int32)), .val (.int y6), .val (.int y7), .val (.int y8), .val (.int xS0_1), .val (.int y10), .val (.int y11), .val (.int y12), .val (.int y13), .val (.int y14), .val (.ref b353), .unset, .unset, .unset, .unset, .unset]) rfl k) ?_
              refine own_goS (T' := T378) (g' := (mkF m 174 #[.val (.int p0), .val (.int p1), .val (.int p2), .val (.int p3), .val (.int p4), .val (.int (2 : Int32)), .val (.int y6), .val (.int y7), .val (.int y8), .val (.int xS0_1), .val (.int y10), .val (.int y11), .val (.int y12), .val (.int y13), .val (.int y14), .val (.ref b353), .unset, .unset, .unset, .unset, .unset] [(.int y6)])) (fun _ k => XS.iload X378.here hx rfl (hb hby at_172) rfl k) ?_
              refine own_goS (T' := T378) (g' := (mkF m 175 #[.val (.int p0), .val (.int p1), .val (.int p2), .val (.int p3), .val (.int p4), .val (.int (2 : Int32)), .val (.int y6), .val (.int y7), .val (.int y8), .val (.int xS0_1), .val (.int y10), .val (.int y11), .val (.int y12), .val (.int y13), .val (.int y14), .val (.ref b353), .unset, .unset, .unset, .unset, .unset] [(.int (1 : Int32)), (.int y6)])) (fun _ k => XS.iconst X378.here hx rfl (hb hby at_174) k) ?_
              by_cases hc175_390 : y6 = (1 : Int32)
              · skip
                refine own_goS (T' := T378) (g' := (mkF m 178 #[.val (.int p0), .val (.int p1), .val (.int p2), .val (.int p3), .val (.int p4), .val (.int (2 : Int32)), .val (.int y6), .val (.int y7), .val (.int y8), .val (.int xS0_1), .val (.int y10), .val (.int y11), .val (.int y12), .val (.int y13), .val (.int y14), .val (.ref b353), .unset, .unset, .unset, .unset, .unset] [])) (fun _ k => XS.icmpNo X378.here hx rfl (hb hby at_175) rfl (XT.ii_ne_f hc175_390) k) ?_
                refine own_goS (T' := T378) (g' := (mkF m 178 #[.val (.int p0), .val (.int p1), .val (.int p2), .val (.int p3), .val (.int p4), .val (.int (2 : Int32)), .val (.int (1 : Int32)), .val (.int y7), .val (.int y8), .val (.int xS0_1), .val (.int y10), .val (.int y11), .val (.int y12), .val (.int y13), .val (.int y14), .val (.ref b353), .unset, .unset, .unset, .unset, .unset] [])) (fun _ k => castTop (by rw [hc175_390]) k) ?_
                obtain ⟨T391, h391, X391, e391, E391, A391, D391, -, st391⟩ := newO X378 hx hZ hown (hw _ (List.mem_of_getElem? (i := 1) rfl)) (hw _ (List.mem_of_getElem? (i := 2) rfl)) (hw _ (List.mem_of_getElem? (i := 3) rfl)) rfl (g := (mkF m 178 #[.val (.int p0), .val (.int p1), .val (.int p2), .val (.int p3), .val (.int p4), .val (.int (2 : Int32)), .val (.int (1 : Int32)), .val (.int y7), .val (.int y8), .val (.int xS0_1), .val (.int y10), .val (.int y11), .val (.int y12), .val (.int y13), .val (.int y14), .val (.ref b353), .unset, .unset, .unset, .unset, .unset] [])) rfl (hb hby at_178) (by decide) (by decide)
                obtain ⟨b391, g391⟩ : ∃ z, z = T378.heap.size := ⟨_, rfl⟩
                have ne392 : b353 ≠ b391 := Nat.ne_of_lt (Nat.lt_of_lt_of_le f384.lt (Nat.le_of_eq g391.symm))
                have ne393 : b358 ≠ b391 := Nat.ne_of_lt (Nat.lt_of_lt_of_le f385.lt (Nat.le_of_eq g391.symm))
                have ne394 : xb_378 ≠ b391 := Nat.ne_of_lt (Nat.lt_of_lt_of_le po382.lt (Nat.le_of_eq g391.symm))
                rw [← g391] at A391 D391 st391
                have f395 : Sta Z h391 "java/lang/String" "COMPACT_STRINGS" "Z" (.int cs) := (f383.ext E391)
                have f396 : Exa Z h391 b353 "java/lang/String" := (f384.ext E391)
                have f397 : Arv Z h391 b358 k358 .char (2 : Int32) [(.int y7), (.int y8)] (.int (0 : Int32)) := (f385.ext E391)
                have f398 : Fld Z h391 b353 "java/lang/String" "value" "[B" (.ref xb_378) := (po380.ext E391)
                have f399 : Fld Z h391 b353 "java/lang/String" "coder" "B" (.int (0 : Int32)) := (po381.ext E391)
                have f400 : Arv Z h391 xb_378 xk_378 .byte (2 : Int32) [(.int (nar .byte (y7.toInt8.toInt32))), (.int (nar .byte (y8.toInt8.toInt32)))] (.int (0 : Int32)) := (po382.ext E391)
                have fn401 : Fld Z h391 b391 "java/lang/String" "coder" "B" (.int (0 : Int32)) := D391 (Or.inr (hw _ (List.mem_of_getElem? (i := 28) rfl))) (ty := .byte) (by decide)
                have fn402 : Fld Z h391 b391 "java/lang/String" "value" "[B" .null := D391 (Or.inr (hw _ (List.mem_of_getElem? (i := 30) rfl))) (ty := (.array .byte)) (by decide)
                have ge391 : n0 ≤ b391 := Nat.le_trans zs378 (Nat.le_of_eq g391.symm)
                have zs391 : n0 ≤ h391.size := Nat.le_trans zs378 E391.1
                have hk403 := Nat.le_trans hk389 (E391.1)
                refine own_goS (T' := T391) (g' := (mkF m 181 #[.val (.int p0), .val (.int p1), .val (.int p2), .val (.int p3), .val (.int p4), .val (.int (2 : Int32)), .val (.int (1 : Int32)), .val (.int y7), .val (.int y8), .val (.int xS0_1), .val (.int y10), .val (.int y11), .val (.int y12), .val (.int y13), .val (.int y14), .val (.ref b353), .unset, .unset, .unset, .unset, .unset] [(.ref b391)])) (fun _ k => st391 _ k) ?_
                refine own_goS (T' := T391) (g' := (mkF m 182 #[.val (.int p0), .val (.int p1), .val (.int p2), .val (.int p3), .val (.int p4), .val (.int (2 : Int32)), .val (.int (1 : Int32)), .val (.int y7), .val (.int y8), .val (.int xS0_1), .val (.int y10), .val (.int y11), .val (.int y12), .val (.int y13), .val (.int y14), .val (.ref b353), .unset, .unset, .unset, .unset, .unset] [(.ref b391), (.ref b391)])) (fun _ k => XS.dup X391.here hx rfl (hb hby at_181) rfl rfl k) ?_
                refine own_goS (T' := T391) (g' := (mkF m 183 #[.val (.int p0), .val (.int p1), .val (.int p2), .val (.int p3), .val (.int p4), .val (.int (2 : Int32)), .val (.int (1 : Int32)), .val (.int y7), .val (.int y8), .val (.int xS0_1), .val (.int y10), .val (.int y11), .val (.int y12), .val (.int y13), .val (.int y14), .val (.ref b353), .unset, .unset, .unset, .unset, .unset] [(.int (1 : Int32)), (.ref b391), (.ref b391)])) (fun _ k => XS.iconst X391.here hx rfl (hb hby at_182) k) ?_
                obtain ⟨T404, h404, k404, X404, e404, E404, A404, st404⟩ := newP X391 hx hZ (hw _ (List.mem_of_getElem? (i := 4) rfl)) e391 (g := (mkF m 183 #[.val (.int p0), .val (.int p1), .val (.int p2), .val (.int p3), .val (.int p4), .val (.int (2 : Int32)), .val (.int (1 : Int32)), .val (.int y7), .val (.int y8), .val (.int xS0_1), .val (.int y10), .val (.int y11), .val (.int y12), .val (.int y13), .val (.int y14), .val (.ref b353), .unset, .unset, .unset, .unset, .unset] [(.int (1 : Int32)), (.ref b391), (.ref b391)])) rfl (hb hby at_183) rfl (by decide) (cap := 1) (by decide) (by decide) (by decide) (by decide)
                obtain ⟨b404, g404⟩ : ∃ z, z = h391.size := ⟨_, rfl⟩
                have ne405 : b353 ≠ b404 := Nat.ne_of_lt (Nat.lt_of_lt_of_le f396.lt (Nat.le_of_eq g404.symm))
                have ne406 : b358 ≠ b404 := Nat.ne_of_lt (Nat.lt_of_lt_of_le f397.lt (Nat.le_of_eq g404.symm))
                have ne407 : xb_378 ≠ b404 := Nat.ne_of_lt (Nat.lt_of_lt_of_le f400.lt (Nat.le_of_eq g404.symm))
                have ne408 : b391 ≠ b404 := Nat.ne_of_lt (Nat.lt_of_lt_of_le A391.lt (Nat.le_of_eq g404.symm))
                rw [← g404] at A404 st404
                have f409 : Sta Z h404 "java/lang/String" "COMPACT_STRINGS" "Z" (.int cs) := (f395.ext E404)
                have f410 : Exa Z h404 b353 "java/lang/String" := (f396.ext E404)
                have f411 : Arv Z h404 b358 k358 .char (2 : Int32) [(.int y7), (.int y8)] (.int (0 : Int32)) := (f397.ext E404)
                have f412 : Fld Z h404 b353 "java/lang/String" "value" "[B" (.ref xb_378) := (f398.ext E404)
                have f413 : Fld Z h404 b353 "java/lang/String" "coder" "B" (.int (0 : Int32)) := (f399.ext E404)
                have f414 : Arv Z h404 xb_378 xk_378 .byte (2 : Int32) [(.int (nar .byte (y7.toInt8.toInt32))), (.int (nar .byte (y8.toInt8.toInt32)))] (.int (0 : Int32)) := (f400.ext E404)
                have f415 : Exa Z h404 b391 "java/lang/String" := (A391.ext E404)
                have f416 : Fld Z h404 b391 "java/lang/String" "coder" "B" (.int (0 : Int32)) := (fn401.ext E404)
                have f417 : Fld Z h404 b391 "java/lang/String" "value" "[B" .null := (fn402.ext E404)
                have V404 : Arv Z h404 b404 k404 .char (1 : Int32) [(.int (0 : Int32))] (.int (0 : Int32)) := (Arv.new A404 (by decide)).pad (pad_rep [] (.int (0 : Int32)) 1)
                have ge404 : n0 ≤ b404 := Nat.le_trans zs391 (Nat.le_of_eq g404.symm)
                have zs404 : n0 ≤ h404.size := Nat.le_trans zs391 E404.1
                have hk418 := Nat.le_trans hk403 (E404.1)
                refine own_goS (T' := T404) (g' := (mkF m 185 #[.val (.int p0), .val (.int p1), .val (.int p2), .val (.int p3), .val (.int p4), .val (.int (2 : Int32)), .val (.int (1 : Int32)), .val (.int y7), .val (.int y8), .val (.int xS0_1), .val (.int y10), .val (.int y11), .val (.int y12), .val (.int y13), .val (.int y14), .val (.ref b353), .unset, .unset, .unset, .unset, .unset] [(.ref b404), (.ref b391), (.ref b391)])) (fun _ k => st404 _ k) ?_
                refine own_goS (T' := T404) (g' := (mkF m 186 #[.val (.int p0), .val (.int p1), .val (.int p2), .val (.int p3), .val (.int p4), .val (.int (2 : Int32)), .val (.int (1 : Int32)), .val (.int y7), .val (.int y8), .val (.int xS0_1), .val (.int y10), .val (.int y11), .val (.int y12), .val (.int y13), .val (.int y14), .val (.ref b353), .unset, .unset, .unset, .unset, .unset] [(.ref b404), (.ref b404), (.ref b391), (.ref b391)])) (fun _ k => XS.dup X404.here hx rfl (hb hby at_185) rfl rfl k) ?_
                refine own_goS (T' := T404) (g' := (mkF m 187 #[.val (.int p0), .val (.int p1), .val (.int p2), .val (.int p3), .val (.int p4), .val (.int (2 : Int32)), .val (.int (1 : Int32)), .val (.int y7), .val (.int y8), .val (.int xS0_1), .val (.int y10), .val (.int y11), .val (.int y12), .val (.int y13), .val (.int y14), .val (.ref b353), .unset, .unset, .unset, .unset, .unset] [(.int (0 : Int32)), (.ref b404), (.ref b404), (.ref b391), (.ref b391)])) (fun _ k => XS.iconst X404.here hx rfl (hb hby at_186) k) ?_
                refine own_goS (T' := T404) (g' := (mkF m 189 #[.val (.int p0), .val (.int p1), .val (.int p2), .val (.int p3), .val (.int p4), .val (.int (2 : Int32)), .val (.int (1 : Int32)), .val (.int y7), .val (.int y8), .val (.int xS0_1), .val (.int y10), .val (.int y11), .val (.int y12), .val (.int y13), .val (.int y14), .val (.ref b353), .unset, .unset, .unset, .unset, .unset] [(.int y10), (.int (0 : Int32)), (.ref b404), (.ref b404), (.ref b391), (.ref b391)])) (fun _ k => XS.iload X404.here hx rfl (hb hby at_187) rfl k) ?_
                obtain ⟨cl419, Ar419, q1419, q2419, q3419, H419, G419⟩ := id V404
                have hin419 := inb_of q2419 (j := (0 : Int32)) (by decide)
                obtain ⟨T419, h419, X419, e419, W419, st419⟩ := stC X404 hx hZ e404 Ar419 (j := (0 : Int32)) hin419 (g := (mkF m 189 #[.val (.int p0), .val (.int p1), .val (.int p2), .val (.int p3), .val (.int p4), .val (.int (2 : Int32)), .val (.int (1 : Int32)), .val (.int y7), .val (.int y8), .val (.int xS0_1), .val (.int y10), .val (.int y11), .val (.int y12), .val (.int y13), .val (.int y14), .val (.ref b353), .unset, .unset, .unset, .unset, .unset] [(.int y10), (.int (0 : Int32)), (.ref b404), (.ref b404), (.ref b391), (.ref b391)])) rfl rfl (hb hby at_189)
                have f420 : Sta Z h419 "java/lang/String" "COMPACT_STRINGS" "Z" (.int cs) := (f409.wr W419)
                have f421 : Exa Z h419 b353 "java/lang/String" := (f410.wr W419)
                have f422 : Arv Z h419 b358 k358 .char (2 : Int32) [(.int y7), (.int y8)] (.int (0 : Int32)) := (f411.other W419 ne406)
                have f423 : Fld Z h419 b353 "java/lang/String" "value" "[B" (.ref xb_378) := (f412.other W419 (Or.inl ne405))
                have f424 : Fld Z h419 b353 "java/lang/String" "coder" "B" (.int (0 : Int32)) := (f413.other W419 (Or.inl ne405))
                have f425 : Arv Z h419 xb_378 xk_378 .byte (2 : Int32) [(.int (nar .byte (y7.toInt8.toInt32))), (.int (nar .byte (y8.toInt8.toInt32)))] (.int (0 : Int32)) := (f414.other W419 ne407)
                have f426 : Exa Z h419 b391 "java/lang/String" := (f415.wr W419)
                have f427 : Fld Z h419 b391 "java/lang/String" "coder" "B" (.int (0 : Int32)) := (f416.other W419 (Or.inl ne408))
                have f428 : Fld Z h419 b391 "java/lang/String" "value" "[B" .null := (f417.other W419 (Or.inl ne408))
                have V419 : Arv Z h419 b404 k404 .char (1 : Int32) [(.int (nar .char y10))] (.int (0 : Int32)) := Arv.set Ar419 q1419 q2419 q3419 H419 G419 (fits_nar_char _) W419 0 (by decide) (by simp)
                have N419 := Fr.snoc X419 N378 ge404
                have zs419 : n0 ≤ h419.size := by rw [W419.size]; exact zs404
                have hk429 := Nat.le_trans hk418 (Nat.le_of_eq W419.size.symm)
                refine own_goS (T' := T419) (g' := (mkF m 190 #[.val (.int p0), .val (.int p1), .val (.int p2), .val (.int p3), .val (.int p4), .val (.int (2 : Int32)), .val (.int (1 : Int32)), .val (.int y7), .val (.int y8), .val (.int xS0_1), .val (.int y10), .val (.int y11), .val (.int y12), .val (.int y13), .val (.int y14), .val (.ref b353), .unset, .unset, .unset, .unset, .unset] [(.ref b404), (.ref b391), (.ref b391)])) (fun _ k => st419 _ k) ?_
                have fz430 : Arv Z h419 b404 k404 .char (1 : Int32) [(.int y10)] (.int (0 : Int32)) := by have q := V419; rw [own_nc hC10] at q; exact q
                obtain ⟨_, _, ⟨T431, L431, k431, n431⟩, -, X431, ⟨Lc431, hQ431, l431, y431, z431⟩, st431⟩ := X419.specialBack hx (y := (⟨"java/lang/String", "<init>", "([C)V"⟩ : MethodName)) rfl hown (mvT hZ (hw _ (List.mem_of_getElem? (i := 5) rfl))) (mvT hZ (hw _ (List.mem_of_getElem? (i := 6) rfl))) (mvT hZ (hw _ (List.mem_of_getElem? (i := 7) rfl))) (by decide) (backOf (W := 1) (rmS1_1 l Z a0 hw [] b391 b404 k404 y10 cs h419 n0 zs419 f426 ge391 f428 f427 fz430 f420 hh0 (own_Cn hC10)) hZ (hw _ (List.mem_of_getElem? (i := 7) rfl)) (hw _ (List.mem_of_getElem? (i := 3) rfl)) (by decide) (by decide)) (g := (mkF m 190 #[.val (.int p0), .val (.int p1), .val (.int p2), .val (.int p3), .val (.int p4), .val (.int (2 : Int32)), .val (.int (1 : Int32)), .val (.int y7), .val (.int y8), .val (.int xS0_1), .val (.int y10), .val (.int y11), .val (.int y12), .val (.int y13), .val (.int y14), .val (.ref b353), .unset, .unset, .unset, .unset, .unset] [(.ref b404), (.ref b391), (.ref b391)])) rfl (by rw [hml]; rfl) (Steps.refl _) (a := b391) (argsL := [(.ref b404)]) (rest := [(.ref b391)]) (lenOf own_pd8 rfl) rfl (by show 2 * 0 + _ ≤ _; exact Nat.le_of_eq rfl) (hb hby at_190) (fun _ _ => ⟨rfl, e419, (by decide : 5 + 1 ≤ _), (by decide : 13 + 1 ≤ _)⟩)
                dsimp only [Pt.U, Pt.locs, Pt.cells, Pt.slots] at X431 l431 y431 z431 st431 hQ431
                subst l431 y431 z431
                obtain ⟨xb_431, xk_431, rfl, N431q, K431, po432, po433, po434, po435⟩ := hQ431
                have f436 : Sta Z T431.heap "java/lang/String" "COMPACT_STRINGS" "Z" (.int cs) := (own_sta_keep f420 K431 (nsS f426.nostat ns0))
                have f437 : Exa Z T431.heap b353 "java/lang/String" := (f421.keep K431)
                have f438 : Arv Z T431.heap b358 k358 .char (2 : Int32) [(.int y7), (.int y8)] (.int (0 : Int32)) := (f422.keep K431 (ninS ne393 nin0))
                have f439 : Fld Z T431.heap b353 "java/lang/String" "value" "[B" (.ref xb_378) := (f423.keep K431 (ninS ne392 nin0))
                have f440 : Fld Z T431.heap b353 "java/lang/String" "coder" "B" (.int (0 : Int32)) := (f424.keep K431 (ninS ne392 nin0))
                have f441 : Arv Z T431.heap xb_378 xk_378 .byte (2 : Int32) [(.int (nar .byte (y7.toInt8.toInt32))), (.int (nar .byte (y8.toInt8.toInt32)))] (.int (0 : Int32)) := (f425.keep K431 (ninS ne394 nin0))
                have f442 : Exa Z T431.heap b391 "java/lang/String" := (f426.keep K431)
                have f443 : Arv Z T431.heap b404 k404 .char (1 : Int32) [(.int y10)] (.int (0 : Int32)) := (fz430.keep K431 (ninS (Ne.symm ne408) nin0))
                have ne444 : b353 ≠ xb_431 := Nat.ne_of_lt (Nat.lt_of_lt_of_le f421.lt po432)
                have ne445 : b358 ≠ xb_431 := Nat.ne_of_lt (Nat.lt_of_lt_of_le f422.lt po432)
                have ne446 : xb_378 ≠ xb_431 := Nat.ne_of_lt (Nat.lt_of_lt_of_le f425.lt po432)
                have ne447 : b391 ≠ xb_431 := Nat.ne_of_lt (Nat.lt_of_lt_of_le f426.lt po432)
                have ne448 : b404 ≠ xb_431 := Nat.ne_of_lt (Nat.lt_of_lt_of_le fz430.lt po432)
                have ge449 : n0 ≤ xb_431 := Nat.le_trans zs419 po432
                have zs431 : n0 ≤ T431.heap.size := Nat.le_trans zs419 K431.1
                have hk450 := Nat.le_trans hk429 (K431.1)
                have N431 := Fr.app N419 N431q
                refine own_goS (T' := T431) (g' := (mkF m 193 #[.val (.int p0), .val (.int p1), .val (.int p2), .val (.int p3), .val (.int p4), .val (.int (2 : Int32)), .val (.int (1 : Int32)), .val (.int y7), .val (.int y8), .val (.int xS0_1), .val (.int y10), .val (.int y11), .val (.int y12), .val (.int y13), .val (.int y14), .val (.ref b353), .unset, .unset, .unset, .unset, .unset] [(.ref b391)])) (fun _ k => st431.trans k) ?_
                refine own_goS (T' := T431) (g' := (mkF m 216 #[.val (.int p0), .val (.int p1), .val (.int p2), .val (.int p3), .val (.int p4), .val (.int (2 : Int32)), .val (.int (1 : Int32)), .val (.int y7), .val (.int y8), .val (.int xS0_1), .val (.int y10), .val (.int y11), .val (.int y12), .val (.int y13), .val (.int y14), .val (.ref b353), .unset, .unset, .unset, .unset, .unset] [(.ref b391)])) (fun _ k => XS.goto X431.here hx rfl (pc0 := 193) (pc' := 216) rfl (hb hby at_193) (by decide) (by decide) k) ?_
                refine own_goS (T' := T431) (g' := (mkF m 218 #[.val (.int p0), .val (.int p1), .val (.int p2), .val (.int p3), .val (.int p4), .val (.int (2 : Int32)), .val (.int (1 : Int32)), .val (.int y7), .val (.int y8), .val (.int xS0_1), .val (.int y10), .val (.int y11), .val (.int y12), .val (.int y13), .val (.int y14), .val (.ref b353), .val (.ref b391), .unset, .unset, .unset, .unset] [])) (fun _ k => XS.astore X431.here hx rfl (hb hby at_216) rfl rfl (l' := #[.val (.int p0), .val (.int p1), .val (.int p2), .val (.int p3), .val (.int p4), .val (.int (2 : Int32)), .val (.int (1 : Int32)), .val (.int y7), .val (.int y8), .val (.int xS0_1), .val (.int y10), .val (.int y11), .val (.int y12), .val (.int y13), .val (.int y14), .val (.ref b353), .val (.ref b391), .unset, .unset, .unset, .unset]) rfl k) ?_
                obtain ⟨T451, h451, X451, e451, E451, A451, D451, -, st451⟩ := newO X431 hx hZ hown (hw _ (List.mem_of_getElem? (i := 31) rfl)) (hw _ (List.mem_of_getElem? (i := 32) rfl)) (hw _ (List.mem_of_getElem? (i := 33) rfl)) rfl (g := (mkF m 218 #[.val (.int p0), .val (.int p1), .val (.int p2), .val (.int p3), .val (.int p4), .val (.int (2 : Int32)), .val (.int (1 : Int32)), .val (.int y7), .val (.int y8), .val (.int xS0_1), .val (.int y10), .val (.int y11), .val (.int y12), .val (.int y13), .val (.int y14), .val (.ref b353), .val (.ref b391), .unset, .unset, .unset, .unset] [])) rfl (hb hby at_218) (by decide) (by decide)
                obtain ⟨b451, g451⟩ : ∃ z, z = T431.heap.size := ⟨_, rfl⟩
                have ne452 : b353 ≠ b451 := Nat.ne_of_lt (Nat.lt_of_lt_of_le f437.lt (Nat.le_of_eq g451.symm))
                have ne453 : b358 ≠ b451 := Nat.ne_of_lt (Nat.lt_of_lt_of_le f438.lt (Nat.le_of_eq g451.symm))
                have ne454 : xb_378 ≠ b451 := Nat.ne_of_lt (Nat.lt_of_lt_of_le f441.lt (Nat.le_of_eq g451.symm))
                have ne455 : b391 ≠ b451 := Nat.ne_of_lt (Nat.lt_of_lt_of_le f442.lt (Nat.le_of_eq g451.symm))
                have ne456 : b404 ≠ b451 := Nat.ne_of_lt (Nat.lt_of_lt_of_le f443.lt (Nat.le_of_eq g451.symm))
                have ne457 : xb_431 ≠ b451 := Nat.ne_of_lt (Nat.lt_of_lt_of_le po435.lt (Nat.le_of_eq g451.symm))
                rw [← g451] at A451 D451 st451
                have f458 : Sta Z h451 "java/lang/String" "COMPACT_STRINGS" "Z" (.int cs) := (f436.ext E451)
                have f459 : Exa Z h451 b353 "java/lang/String" := (f437.ext E451)
                have f460 : Arv Z h451 b358 k358 .char (2 : Int32) [(.int y7), (.int y8)] (.int (0 : Int32)) := (f438.ext E451)
                have f461 : Fld Z h451 b353 "java/lang/String" "value" "[B" (.ref xb_378) := (f439.ext E451)
                have f462 : Fld Z h451 b353 "java/lang/String" "coder" "B" (.int (0 : Int32)) := (f440.ext E451)
                have f463 : Arv Z h451 xb_378 xk_378 .byte (2 : Int32) [(.int (nar .byte (y7.toInt8.toInt32))), (.int (nar .byte (y8.toInt8.toInt32)))] (.int (0 : Int32)) := (f441.ext E451)
                have f464 : Exa Z h451 b391 "java/lang/String" := (f442.ext E451)
                have f465 : Arv Z h451 b404 k404 .char (1 : Int32) [(.int y10)] (.int (0 : Int32)) := (f443.ext E451)
                have f466 : Fld Z h451 b391 "java/lang/String" "value" "[B" (.ref xb_431) := (po433.ext E451)
                have f467 : Fld Z h451 b391 "java/lang/String" "coder" "B" (.int (0 : Int32)) := (po434.ext E451)
                have f468 : Arv Z h451 xb_431 xk_431 .byte (1 : Int32) [(.int (nar .byte (y10.toInt8.toInt32)))] (.int (0 : Int32)) := (po435.ext E451)
                have fn469 : Fld Z h451 b451 "com/example/node_ring/nodering/pool/Server" "name" "Ljava/lang/String;" .null := D451 (Or.inr (hw _ (List.mem_of_getElem? (i := 51) rfl))) (ty := (.object "java/lang/String")) (by decide)
                have fn470 : Fld Z h451 b451 "com/example/node_ring/nodering/pool/Server" "weight" "I" (.int (0 : Int32)) := D451 (Or.inr (hw _ (List.mem_of_getElem? (i := 53) rfl))) (ty := .int) (by decide)
                have ge451 : n0 ≤ b451 := Nat.le_trans zs431 (Nat.le_of_eq g451.symm)
                have zs451 : n0 ≤ h451.size := Nat.le_trans zs431 E451.1
                have hk471 := Nat.le_trans hk450 (E451.1)
                refine own_goS (T' := T451) (g' := (mkF m 221 #[.val (.int p0), .val (.int p1), .val (.int p2), .val (.int p3), .val (.int p4), .val (.int (2 : Int32)), .val (.int (1 : Int32)), .val (.int y7), .val (.int y8), .val (.int xS0_1), .val (.int y10), .val (.int y11), .val (.int y12), .val (.int y13), .val (.int y14), .val (.ref b353), .val (.ref b391), .unset, .unset, .unset, .unset] [(.ref b451)])) (fun _ k => st451 _ k) ?_
                refine own_goS (T' := T451) (g' := (mkF m 222 #[.val (.int p0), .val (.int p1), .val (.int p2), .val (.int p3), .val (.int p4), .val (.int (2 : Int32)), .val (.int (1 : Int32)), .val (.int y7), .val (.int y8), .val (.int xS0_1), .val (.int y10), .val (.int y11), .val (.int y12), .val (.int y13), .val (.int y14), .val (.ref b353), .val (.ref b391), .unset, .unset, .unset, .unset] [(.ref b451), (.ref b451)])) (fun _ k => XS.dup X451.here hx rfl (hb hby at_221) rfl rfl k) ?_
                refine own_goS (T' := T451) (g' := (mkF m 224 #[.val (.int p0), .val (.int p1), .val (.int p2), .val (.int p3), .val (.int p4), .val (.int (2 : Int32)), .val (.int (1 : Int32)), .val (.int y7), .val (.int y8), .val (.int xS0_1), .val (.int y10), .val (.int y11), .val (.int y12), .val (.int y13), .val (.int y14), .val (.ref b353), .val (.ref b391), .unset, .unset, .unset, .unset] [(.ref b353), (.ref b451), (.ref b451)])) (fun _ k => XS.aload X451.here hx rfl (hb hby at_222) rfl rfl k) ?_
                refine own_goS (T' := T451) (g' := (mkF m 226 #[.val (.int p0), .val (.int p1), .val (.int p2), .val (.int p3), .val (.int p4), .val (.int (2 : Int32)), .val (.int (1 : Int32)), .val (.int y7), .val (.int y8), .val (.int xS0_1), .val (.int y10), .val (.int y11), .val (.int y12), .val (.int y13), .val (.int y14), .val (.ref b353), .val (.ref b391), .unset, .unset, .unset, .unset] [(.int y12), (.ref b353), (.ref b451), (.ref b451)])) (fun _ k => XS.iload X451.here hx rfl (hb hby at_224) rfl k) ?_
                obtain ⟨_, _, ⟨T472, L472, k472, n472⟩, -, XX472, hs2472, hg2472, ⟨Lc472, hQ472, l472, y472, z472⟩, st472⟩ := X451.specialBackS hx (y := (⟨"com/example/node_ring/nodering/pool/Server", "<init>", "(Ljava/lang/String;I)V"⟩ : MethodName)) rfl hown (mvT hZ (hw _ (List.mem_of_getElem? (i := 34) rfl))) (mvT hZ (hw _ (List.mem_of_getElem? (i := 35) rfl))) (mvT hZ (hw _ (List.mem_of_getElem? (i := 36) rfl))) (by decide) (backOfS (W := 1) (rmSrv2 l Z a0 hw [] b451 b353 y12 xb_378 xk_378 (nar .byte (y7.toInt8.toInt32)) (nar .byte (y8.toInt8.toInt32)) h451 n0 zs451 A451 ge451 fn469 fn470 f459 f461 f463 hW12) hZ (hw _ (List.mem_of_getElem? (i := 36) rfl)) (hw _ (List.mem_of_getElem? (i := 33) rfl)) (by decide) (by decide)) (g := (mkF m 226 #[.val (.int p0), .val (.int p1), .val (.int p2), .val (.int p3), .val (.int p4), .val (.int (2 : Int32)), .val (.int (1 : Int32)), .val (.int y7), .val (.int y8), .val (.int xS0_1), .val (.int y10), .val (.int y11), .val (.int y12), .val (.int y13), .val (.int y14), .val (.ref b353), .val (.ref b391), .unset, .unset, .unset, .unset] [(.int y12), (.ref b353), (.ref b451), (.ref b451)])) rfl (by rw [hml]; rfl) (Steps.refl _) (a := b451) (argsL := [(.ref b353), (.int y12)]) (rest := [(.ref b451)]) (lenOf own_pd9 rfl) rfl (by show 2 * 0 + _ ≤ _; exact Nat.le_of_eq rfl) (hb hby at_226) (fun _ _ => ⟨rfl, e451, (by decide : 7 + 2 ≤ _), (by decide : 16 + 20 ≤ _)⟩)
                dsimp only [Pt.U, Pt.locs, Pt.cells, Pt.slots] at XX472 hs2472 hg2472 l472 y472 z472 st472 hQ472
                subst l472 y472 z472
                obtain ⟨X472, hS472, hZ472, hown472⟩ := rebS hS0 (n1 := T451.heap.size) (by rw [e451]; exact hk471) XX472 hs2472 hg2472 hZ hown
                obtain ⟨rfl, N472q, K472, po473, po474, po475⟩ := hQ472
                have f476 : Sta Z T472.heap "java/lang/String" "COMPACT_STRINGS" "Z" (.int cs) := (own_sta_keep f458 K472 (nsS A451.nostat ns0))
                have f477 : Exa Z T472.heap b353 "java/lang/String" := (f459.keep K472)
                have f478 : Arv Z T472.heap b358 k358 .char (2 : Int32) [(.int y7), (.int y8)] (.int (0 : Int32)) := (f460.keep K472 (ninS ne453 nin0))
                have f479 : Fld Z T472.heap b353 "java/lang/String" "value" "[B" (.ref xb_378) := (f461.keep K472 (ninS ne452 nin0))
                have f480 : Fld Z T472.heap b353 "java/lang/String" "coder" "B" (.int (0 : Int32)) := (f462.keep K472 (ninS ne452 nin0))
                have f481 : Arv Z T472.heap xb_378 xk_378 .byte (2 : Int32) [(.int (nar .byte (y7.toInt8.toInt32))), (.int (nar .byte (y8.toInt8.toInt32)))] (.int (0 : Int32)) := (f463.keep K472 (ninS ne454 nin0))
                have f482 : Exa Z T472.heap b391 "java/lang/String" := (f464.keep K472)
                have f483 : Arv Z T472.heap b404 k404 .char (1 : Int32) [(.int y10)] (.int (0 : Int32)) := (f465.keep K472 (ninS ne456 nin0))
                have f484 : Fld Z T472.heap b391 "java/lang/String" "value" "[B" (.ref xb_431) := (f466.keep K472 (ninS ne455 nin0))
                have f485 : Fld Z T472.heap b391 "java/lang/String" "coder" "B" (.int (0 : Int32)) := (f467.keep K472 (ninS ne455 nin0))
                have f486 : Arv Z T472.heap xb_431 xk_431 .byte (1 : Int32) [(.int (nar .byte (y10.toInt8.toInt32)))] (.int (0 : Int32)) := (f468.keep K472 (ninS ne457 nin0))
                have f487 : Exa Z T472.heap b451 "com/example/node_ring/nodering/pool/Server" := (A451.keep K472)
                have zs472 : n0 ≤ T472.heap.size := Nat.le_trans zs451 K472.1
                have hk472 : T472.heap.size ≤ T472.heap.size := Nat.le_refl _
                have N472 := Fr.app N431 N472q
                refine own_goS (T' := T472) (g' := (mkF m 229 #[.val (.int p0), .val (.int p1), .val (.int p2), .val (.int p3), .val (.int p4), .val (.int (2 : Int32)), .val (.int (1 : Int32)), .val (.int y7), .val (.int y8), .val (.int xS0_1), .val (.int y10), .val (.int y11), .val (.int y12), .val (.int y13), .val (.int y14), .val (.ref b353), .val (.ref b391), .unset, .unset, .unset, .unset] [(.ref b451)])) (fun _ k => st472.trans k) ?_
                refine own_goS (T' := T472) (g' := (mkF m 231 #[.val (.int p0), .val (.int p1), .val (.int p2), .val (.int p3), .val (.int p4), .val (.int (2 : Int32)), .val (.int (1 : Int32)), .val (.int y7), .val (.int y8), .val (.int xS0_1), .val (.int y10), .val (.int y11), .val (.int y12), .val (.int y13), .val (.int y14), .val (.ref b353), .val (.ref b391), .val (.ref b451), .unset, .unset, .unset] [])) (fun _ k => XS.astore X472.here hx rfl (hb hby at_229) rfl rfl (l' := #[.val (.int p0), .val (.int p1), .val (.int p2), .val (.int p3), .val (.int p4), .val (.int (2 : Int32)), .val (.int (1 : Int32)), .val (.int y7), .val (.int y8), .val (.int xS0_1), .val (.int y10), .val (.int y11), .val (.int y12), .val (.int y13), .val (.int y14), .val (.ref b353), .val (.ref b391), .val (.ref b451), .unset, .unset, .unset]) rfl k) ?_
                obtain ⟨T488, h488, X488, e488, E488, A488, D488, -, st488⟩ := newO X472 hx hZ472 hown472 (hw _ (List.mem_of_getElem? (i := 31) rfl)) (hw _ (List.mem_of_getElem? (i := 32) rfl)) (hw _ (List.mem_of_getElem? (i := 33) rfl)) rfl (g := (mkF m 231 #[.val (.int p0), .val (.int p1), .val (.int p2), .val (.int p3), .val (.int p4), .val (.int (2 : Int32)), .val (.int (1 : Int32)), .val (.int y7), .val (.int y8), .val (.int xS0_1), .val (.int y10), .val (.int y11), .val (.int y12), .val (.int y13), .val (.int y14), .val (.ref b353), .val (.ref b391), .val (.ref b451), .unset, .unset, .unset] [])) rfl (hb hby at_231) (by decide) (by decide)
                obtain ⟨b488, g488⟩ : ∃ z, z = T472.heap.size := ⟨_, rfl⟩
                have ne489 : b353 ≠ b488 := Nat.ne_of_lt (Nat.lt_of_lt_of_le f477.lt (Nat.le_of_eq g488.symm))
                have ne490 : b358 ≠ b488 := Nat.ne_of_lt (Nat.lt_of_lt_of_le f478.lt (Nat.le_of_eq g488.symm))
                have ne491 : xb_378 ≠ b488 := Nat.ne_of_lt (Nat.lt_of_lt_of_le f481.lt (Nat.le_of_eq g488.symm))
                have ne492 : b391 ≠ b488 := Nat.ne_of_lt (Nat.lt_of_lt_of_le f482.lt (Nat.le_of_eq g488.symm))
                have ne493 : b404 ≠ b488 := Nat.ne_of_lt (Nat.lt_of_lt_of_le f483.lt (Nat.le_of_eq g488.symm))
                have ne494 : xb_431 ≠ b488 := Nat.ne_of_lt (Nat.lt_of_lt_of_le f486.lt (Nat.le_of_eq g488.symm))
                have ne495 : b451 ≠ b488 := Nat.ne_of_lt (Nat.lt_of_lt_of_le po475.lt (Nat.le_of_eq g488.symm))
                rw [← g488] at A488 D488 st488
                have f496 : Sta Z h488 "java/lang/String" "COMPACT_STRINGS" "Z" (.int cs) := (f476.ext E488)
                have f497 : Exa Z h488 b353 "java/lang/String" := (f477.ext E488)
                have f498 : Arv Z h488 b358 k358 .char (2 : Int32) [(.int y7), (.int y8)] (.int (0 : Int32)) := (f478.ext E488)
                have f499 : Fld Z h488 b353 "java/lang/String" "value" "[B" (.ref xb_378) := (f479.ext E488)
                have f500 : Fld Z h488 b353 "java/lang/String" "coder" "B" (.int (0 : Int32)) := (f480.ext E488)
                have f501 : Arv Z h488 xb_378 xk_378 .byte (2 : Int32) [(.int (nar .byte (y7.toInt8.toInt32))), (.int (nar .byte (y8.toInt8.toInt32)))] (.int (0 : Int32)) := (f481.ext E488)
                have f502 : Exa Z h488 b391 "java/lang/String" := (f482.ext E488)
                have f503 : Arv Z h488 b404 k404 .char (1 : Int32) [(.int y10)] (.int (0 : Int32)) := (f483.ext E488)
                have f504 : Fld Z h488 b391 "java/lang/String" "value" "[B" (.ref xb_431) := (f484.ext E488)
                have f505 : Fld Z h488 b391 "java/lang/String" "coder" "B" (.int (0 : Int32)) := (f485.ext E488)
                have f506 : Arv Z h488 xb_431 xk_431 .byte (1 : Int32) [(.int (nar .byte (y10.toInt8.toInt32)))] (.int (0 : Int32)) := (f486.ext E488)
                have f507 : Exa Z h488 b451 "com/example/node_ring/nodering/pool/Server" := (po475.ext E488)
                have f508 : Fld Z h488 b451 "com/example/node_ring/nodering/pool/Server" "name" "Ljava/lang/String;" (.ref b353) := (po473.ext E488)
                have f509 : Fld Z h488 b451 "com/example/node_ring/nodering/pool/Server" "weight" "I" (.int y12) := (po474.ext E488)
                have fn510 : Fld Z h488 b488 "com/example/node_ring/nodering/pool/Server" "name" "Ljava/lang/String;" .null := D488 (Or.inr (hw _ (List.mem_of_getElem? (i := 51) rfl))) (ty := (.object "java/lang/String")) (by decide)
                have fn511 : Fld Z h488 b488 "com/example/node_ring/nodering/pool/Server" "weight" "I" (.int (0 : Int32)) := D488 (Or.inr (hw _ (List.mem_of_getElem? (i := 53) rfl))) (ty := .int) (by decide)
                have ge488 : n0 ≤ b488 := Nat.le_trans zs472 (Nat.le_of_eq g488.symm)
                have zs488 : n0 ≤ h488.size := Nat.le_trans zs472 E488.1
                have hk512 := Nat.le_trans hk472 (E488.1)
                refine own_goS (T' := T488) (g' := (mkF m 234 #[.val (.int p0), .val (.int p1), .val (.int p2), .val (.int p3), .val (.int p4), .val (.int (2 : Int32)), .val (.int (1 : Int32)), .val (.int y7), .val (.int y8), .val (.int xS0_1), .val (.int y10), .val (.int y11), .val (.int y12), .val (.int y13), .val (.int y14), .val (.ref b353), .val (.ref b391), .val (.ref b451), .unset, .unset, .unset] [(.ref b488)])) (fun _ k => st488 _ k) ?_
                refine own_goS (T' := T488) (g' := (mkF m 235 #[.val (.int p0), .val (.int p1), .val (.int p2), .val (.int p3), .val (.int p4), .val (.int (2 : Int32)), .val (.int (1 : Int32)), .val (.int y7), .val (.int y8), .val (.int xS0_1), .val (.int y10), .val (.int y11), .val (.int y12), .val (.int y13), .val (.int y14), .val (.ref b353), .val (.ref b391), .val (.ref b451), .unset, .unset, .unset] [(.ref b488), (.ref b488)])) (fun _ k => XS.dup X488.here hx rfl (hb hby at_234) rfl rfl k) ?_
                refine own_goS (T' := T488) (g' := (mkF m 237 #[.val (.int p0), .val (.int p1), .val (.int p2), .val (.int p3), .val (.int p4), .val (.int (2 : Int32)), .val (.int (1 : Int32)), .val (.int y7), .val (.int y8), .val (.int xS0_1), .val (.int y10), .val (.int y11), .val (.int y12), .val (.int y13), .val (.int y14), .val (.ref b353), .val (.ref b391), .val (.ref b451), .unset, .unset, .unset] [(.ref b391), (.ref b488), (.ref b488)])) (fun _ k => XS.aload X488.here hx rfl (hb hby at_235) rfl rfl k) ?_
                refine own_goS (T' := T488) (g' := (mkF m 239 #[.val (.int p0), .val (.int p1), .val (.int p2), .val (.int p3), .val (.int p4), .val (.int (2 : Int32)), .val (.int (1 : Int32)), .val (.int y7), .val (.int y8), .val (.int xS0_1), .val (.int y10), .val (.int y11), .val (.int y12), .val (.int y13), .val (.int y14), .val (.ref b353), .val (.ref b391), .val (.ref b451), .unset, .unset, .unset] [(.int y13), (.ref b391), (.ref b488), (.ref b488)])) (fun _ k => XS.iload X488.here hx rfl (hb hby at_237) rfl k) ?_
                obtain ⟨_, _, ⟨T513, L513, k513, n513⟩, -, XX513, hs2513, hg2513, ⟨Lc513, hQ513, l513, y513, z513⟩, st513⟩ := X488.specialBackS hx (y := (⟨"com/example/node_ring/nodering/pool/Server", "<init>", "(Ljava/lang/String;I)V"⟩ : MethodName)) rfl hown472 (mvT hZ472 (hw _ (List.mem_of_getElem? (i := 34) rfl))) (mvT hZ472 (hw _ (List.mem_of_getElem? (i := 35) rfl))) (mvT hZ472 (hw _ (List.mem_of_getElem? (i := 36) rfl))) (by decide) (backOfS (W := 1) (rmSrv1 l Z a0 hw [] b488 b391 y13 xb_431 xk_431 (nar .byte (y10.toInt8.toInt32)) h488 n0 zs488 A488 ge488 fn510 fn511 f502 f504 f506 hW13) hZ472 (hw _ (List.mem_of_getElem? (i := 36) rfl)) (hw _ (List.mem_of_getElem? (i := 33) rfl)) (by decide) (by decide)) (g := (mkF m 239 #[.val (.int p0), .val (.int p1), .val (.int p2), .val (.int p3), .val (.int p4), .val (.int (2 : Int32)), .val (.int (1 : Int32)), .val (.int y7), .val (.int y8), .val (.int xS0_1), .val (.int y10), .val (.int y11), .val (.int y12), .val (.int y13), .val (.int y14), .val (.ref b353), .val (.ref b391), .val (.ref b451), .unset, .unset, .unset] [(.int y13), (.ref b391), (.ref b488), (.ref b488)])) rfl (by rw [hml]; rfl) (Steps.refl _) (a := b488) (argsL := [(.ref b391), (.int y13)]) (rest := [(.ref b488)]) (lenOf own_pd9 rfl) rfl (by show 2 * 0 + _ ≤ _; exact Nat.le_of_eq rfl) (hb hby at_239) (fun _ _ => ⟨rfl, e488, (by decide : 10 + 2 ≤ _), (by decide : 38 + 20 ≤ _)⟩)
                dsimp only [Pt.U, Pt.locs, Pt.cells, Pt.slots] at XX513 hs2513 hg2513 l513 y513 z513 st513 hQ513
                subst l513 y513 z513
                obtain ⟨X513, hS513, hZ513, hown513⟩ := rebS hS472 (n1 := T488.heap.size) (by rw [e488]; exact hk512) XX513 hs2513 hg2513 hZ472 hown472
                obtain ⟨rfl, N513q, K513, po514, po515, po516⟩ := hQ513
                have f517 : Sta Z T513.heap "java/lang/String" "COMPACT_STRINGS" "Z" (.int cs) := (own_sta_keep f496 K513 (nsS A488.nostat ns0))
                have f518 : Exa Z T513.heap b353 "java/lang/String" := (f497.keep K513)
                have f519 : Arv Z T513.heap b358 k358 .char (2 : Int32) [(.int y7), (.int y8)] (.int (0 : Int32)) := (f498.keep K513 (ninS ne490 nin0))
                have f520 : Fld Z T513.heap b353 "java/lang/String" "value" "[B" (.ref xb_378) := (f499.keep K513 (ninS ne489 nin0))
                have f521 : Fld Z T513.heap b353 "java/lang/String" "coder" "B" (.int (0 : Int32)) := (f500.keep K513 (ninS ne489 nin0))
                have f522 : Arv Z T513.heap xb_378 xk_378 .byte (2 : Int32) [(.int (nar .byte (y7.toInt8.toInt32))), (.int (nar .byte (y8.toInt8.toInt32)))] (.int (0 : Int32)) := (f501.keep K513 (ninS ne491 nin0))
                have f523 : Exa Z T513.heap b391 "java/lang/String" := (f502.keep K513)
                have f524 : Arv Z T513.heap b404 k404 .char (1 : Int32) [(.int y10)] (.int (0 : Int32)) := (f503.keep K513 (ninS ne493 nin0))
                have f525 : Fld Z T513.heap b391 "java/lang/String" "value" "[B" (.ref xb_431) := (f504.keep K513 (ninS ne492 nin0))
                have f526 : Fld Z T513.heap b391 "java/lang/String" "coder" "B" (.int (0 : Int32)) := (f505.keep K513 (ninS ne492 nin0))
                have f527 : Arv Z T513.heap xb_431 xk_431 .byte (1 : Int32) [(.int (nar .byte (y10.toInt8.toInt32)))] (.int (0 : Int32)) := (f506.keep K513 (ninS ne494 nin0))
                have f528 : Exa Z T513.heap b451 "com/example/node_ring/nodering/pool/Server" := (f507.keep K513)
                have f529 : Fld Z T513.heap b451 "com/example/node_ring/nodering/pool/Server" "name" "Ljava/lang/String;" (.ref b353) := (f508.keep K513 (ninS ne495 nin0))
                have f530 : Fld Z T513.heap b451 "com/example/node_ring/nodering/pool/Server" "weight" "I" (.int y12) := (f509.keep K513 (ninS ne495 nin0))
                have f531 : Exa Z T513.heap b488 "com/example/node_ring/nodering/pool/Server" := (A488.keep K513)
                have zs513 : n0 ≤ T513.heap.size := Nat.le_trans zs488 K513.1
                have hk513 : T513.heap.size ≤ T513.heap.size := Nat.le_refl _
                have N513 := Fr.app N472 N513q
                refine own_goS (T' := T513) (g' := (mkF m 242 #[.val (.int p0), .val (.int p1), .val (.int p2), .val (.int p3), .val (.int p4), .val (.int (2 : Int32)), .val (.int (1 : Int32)), .val (.int y7), .val (.int y8), .val (.int xS0_1), .val (.int y10), .val (.int y11), .val (.int y12), .val (.int y13), .val (.int y14), .val (.ref b353), .val (.ref b391), .val (.ref b451), .unset, .unset, .unset] [(.ref b488)])) (fun _ k => st513.trans k) ?_
                refine own_goS (T' := T513) (g' := (mkF m 244 #[.val (.int p0), .val (.int p1), .val (.int p2), .val (.int p3), .val (.int p4), .val (.int (2 : Int32)), .val (.int (1 : Int32)), .val (.int y7), .val (.int y8), .val (.int xS0_1), .val (.int y10), .val (.int y11), .val (.int y12), .val (.int y13), .val (.int y14), .val (.ref b353), .val (.ref b391), .val (.ref b451), .val (.ref b488), .unset, .unset] [])) (fun _ k => XS.astore X513.here hx rfl (hb hby at_242) rfl rfl (l' := #[.val (.int p0), .val (.int p1), .val (.int p2), .val (.int p3), .val (.int p4), .val (.int (2 : Int32)), .val (.int (1 : Int32)), .val (.int y7), .val (.int y8), .val (.int xS0_1), .val (.int y10), .val (.int y11), .val (.int y12), .val (.int y13), .val (.int y14), .val (.ref b353), .val (.ref b391), .val (.ref b451), .val (.ref b488), .unset, .unset]) rfl k) ?_
                refine own_goS (T' := T513) (g' := (mkF m 246 #[.val (.int p0), .val (.int p1), .val (.int p2), .val (.int p3), .val (.int p4), .val (.int (2 : Int32)), .val (.int (1 : Int32)), .val (.int y7), .val (.int y8), .val (.int xS0_1), .val (.int y10), .val (.int y11), .val (.int y12), .val (.int y13), .val (.int y14), .val (.ref b353), .val (.ref b391), .val (.ref b451), .val (.ref b488), .unset, .unset] [(.int y14)])) (fun _ k => XS.iload X513.here hx rfl (hb hby at_244) rfl k) ?_
                refine own_goS (T' := T513) (g' := (mkF m 247 #[.val (.int p0), .val (.int p1), .val (.int p2), .val (.int p3), .val (.int p4), .val (.int (2 : Int32)), .val (.int (1 : Int32)), .val (.int y7), .val (.int y8), .val (.int xS0_1), .val (.int y10), .val (.int y11), .val (.int y12), .val (.int y13), .val (.int y14), .val (.ref b353), .val (.ref b391), .val (.ref b451), .val (.ref b488), .unset, .unset] [(.int (1 : Int32)), (.int y14)])) (fun _ k => XS.iconst X513.here hx rfl (hb hby at_246) k) ?_
                by_cases hc247_532 : y14 = (1 : Int32)
                · skip
                  refine own_goS (T' := T513) (g' := (mkF m 250 #[.val (.int p0), .val (.int p1), .val (.int p2), .val (.int p3), .val (.int p4), .val (.int (2 : Int32)), .val (.int (1 : Int32)), .val (.int y7), .val (.int y8), .val (.int xS0_1), .val (.int y10), .val (.int y11), .val (.int y12), .val (.int y13), .val (.int y14), .val (.ref b353), .val (.ref b391), .val (.ref b451), .val (.ref b488), .unset, .unset] [])) (fun _ k => XS.icmpNo X513.here hx rfl (hb hby at_247) rfl (XT.ii_ne_f hc247_532) k) ?_
                  refine own_goS (T' := T513) (g' := (mkF m 252 #[.val (.int p0), .val (.int p1), .val (.int p2), .val (.int p3), .val (.int p4), .val (.int (2 : Int32)), .val (.int (1 : Int32)), .val (.int y7), .val (.int y8), .val (.int xS0_1), .val (.int y10), .val (.int y11), .val (.int y12), .val (.int y13), .val (.int y14), .val (.ref b353), .val (.ref b391), .val (.ref b451), .val (.ref b488), .unset, .unset] [(.ref b451)])) (fun _ k => XS.aload X513.here hx rfl (hb hby at_250) rfl rfl k) ?_
                  refine own_goS (T' := T513) (g' := (mkF m 253 #[.val (.int p0), .val (.int p1), .val (.int p2), .val (.int p3), .val (.int p4), .val (.int (2 : Int32)), .val (.int (1 : Int32)), .val (.int y7), .val (.int y8), .val (.int xS0_1), .val (.int y10), .val (.int y11), .val (.int y12), .val (.int y13), .val (.int y14), .val (.ref b353), .val (.ref b391), .val (.ref b451), .val (.ref b488), .unset, .unset] [.null, (.ref b451)])) (fun _ k => XS.aconstNull X513.here hx rfl (hb hby at_252) k) ?_
                  obtain ⟨cq533, kq533, q533a, q533b, q533c⟩ := isOf hZ513 rfl f528
                  obtain ⟨_, _, ⟨T533, L533, k533, n533⟩, -, X533, ⟨Lc533, hQ533, l533, y533, z533⟩, st533⟩ := X513.virtualBack hx (y := (⟨"com/example/node_ring/nodering/pool/Server", "equals", "(Ljava/lang/Object;)Z"⟩ : MethodName)) (z := (⟨"com/example/node_ring/nodering/pool/Server", "equals", "(Ljava/lang/Object;)Z"⟩ : MethodName)) hown513 (mvT hZ513 (hw _ (List.mem_of_getElem? (i := 54) rfl))) (mvT hZ513 (hw _ (List.mem_of_getElem? (i := 55) rfl))) (notFace_of_selects (args := #[]) (mvT hZ513 (hw _ (List.mem_of_getElem? (i := 57) rfl)))) (mvT hZ513 (hw _ (List.mem_of_getElem? (i := 57) rfl))) (mvT hZ513 (hw _ (List.mem_of_getElem? (i := 56) rfl))) (by decide) (backOf (W := 0) (rmEN l Z a0 hw [] b451 T513.heap n0 zs513 ) hZ513 (hw _ (List.mem_of_getElem? (i := 58) rfl)) (hw _ (List.mem_of_getElem? (i := 33) rfl)) (by decide) (by decide)) q533a q533c (g := (mkF m 253 #[.val (.int p0), .val (.int p1), .val (.int p2), .val (.int p3), .val (.int p4), .val (.int (2 : Int32)), .val (.int (1 : Int32)), .val (.int y7), .val (.int y8), .val (.int xS0_1), .val (.int y10), .val (.int y11), .val (.int y12), .val (.int y13), .val (.int y14), .val (.ref b353), .val (.ref b391), .val (.ref b451), .val (.ref b488), .unset, .unset] [.null, (.ref b451)])) rfl (by rw [hml]; rfl) (Steps.refl _) (argsL := [.null]) (rest := []) (lenOf own_pd7 rfl) rfl (by show 2 * 0 + _ ≤ _; exact Nat.le_of_eq rfl) (hb hby at_253) (fun _ _ => ⟨rfl, rfl, (by decide : 12 + 0 ≤ _), (by decide : 58 + 0 ≤ _)⟩)
                  dsimp only [Pt.U, Pt.locs, Pt.cells, Pt.slots] at X533 l533 y533 z533 st533 hQ533
                  subst l533 y533 z533
                  obtain ⟨rfl, N533q, e533⟩ := hQ533
                  have N533 := Fr.app N513 N533q
                  refine own_goS (T' := T533) (g' := (mkF m 256 #[.val (.int p0), .val (.int p1), .val (.int p2), .val (.int p3), .val (.int p4), .val (.int (2 : Int32)), .val (.int (1 : Int32)), .val (.int y7), .val (.int y8), .val (.int xS0_1), .val (.int y10), .val (.int y11), .val (.int y12), .val (.int y13), .val (.int y14), .val (.ref b353), .val (.ref b391), .val (.ref b451), .val (.ref b488), .unset, .unset] [(.int (own_sN b451))])) (fun _ k => st533.trans k) ?_
                  refine own_goS (T' := T533) (g' := (mkF m 259 #[.val (.int p0), .val (.int p1), .val (.int p2), .val (.int p3), .val (.int p4), .val (.int (2 : Int32)), .val (.int (1 : Int32)), .val (.int y7), .val (.int y8), .val (.int xS0_1), .val (.int y10), .val (.int y11), .val (.int y12), .val (.int y13), .val (.int y14), .val (.ref b353), .val (.ref b391), .val (.ref b451), .val (.ref b488), .unset, .unset] [])) (fun _ k => XS.ifNo X533.here hx rfl (hb hby at_256) rfl (XT.i0_ne_f (by rfl)) k) ?_
                  refine own_goS (T' := T533) (g' := (mkF m 260 #[.val (.int p0), .val (.int p1), .val (.int p2), .val (.int p3), .val (.int p4), .val (.int (2 : Int32)), .val (.int (1 : Int32)), .val (.int y7), .val (.int y8), .val (.int xS0_1), .val (.int y10), .val (.int y11), .val (.int y12), .val (.int y13), .val (.int y14), .val (.ref b353), .val (.ref b391), .val (.ref b451), .val (.ref b488), .unset, .unset] [(.int (1 : Int32))])) (fun _ k => XS.iconst X533.here hx rfl (hb hby at_259) k) ?_
                  refine own_goS (T' := T533) (g' := (mkF m 264 #[.val (.int p0), .val (.int p1), .val (.int p2), .val (.int p3), .val (.int p4), .val (.int (2 : Int32)), .val (.int (1 : Int32)), .val (.int y7), .val (.int y8), .val (.int xS0_1), .val (.int y10), .val (.int y11), .val (.int y12), .val (.int y13), .val (.int y14), .val (.ref b353), .val (.ref b391), .val (.ref b451), .val (.ref b488), .unset, .unset] [(.int (1 : Int32))])) (fun _ k => XS.goto X533.here hx rfl (pc0 := 260) (pc' := 264) rfl (hb hby at_260) (by decide) (by decide) k) ?_
                  exact own_retNS X533 hS513 hx (t := .boolean) Bd.returns hlk (by simp) (hb hby at_264) e533 hk513 ⟨rfl, N533⟩ (by decide) (by decide)
                · skip
                  refine own_goS (T' := T513) (g' := (mkF m 265 #[.val (.int p0), .val (.int p1), .val (.int p2), .val (.int p3), .val (.int p4), .val (.int (2 : Int32)), .val (.int (1 : Int32)), .val (.int y7), .val (.int y8), .val (.int xS0_1), .val (.int y10), .val (.int y11), .val (.int y12), .val (.int y13), .val (.int y14), .val (.ref b353), .val (.ref b391), .val (.ref b451), .val (.ref b488), .unset, .unset] [])) (fun _ k => XS.icmpYes X513.here hx rfl (pc0 := 247) (pc' := 265) rfl (hb hby at_247) rfl (XT.ii_ne_t hc247_532) (by decide) (by decide) k) ?_
                  refine own_goS (T' := T513) (g' := (mkF m 267 #[.val (.int p0), .val (.int p1), .val (.int p2), .val (.int p3), .val (.int p4), .val (.int (2 : Int32)), .val (.int (1 : Int32)), .val (.int y7), .val (.int y8), .val (.int xS0_1), .val (.int y10), .val (.int y11), .val (.int y12), .val (.int y13), .val (.int y14), .val (.ref b353), .val (.ref b391), .val (.ref b451), .val (.ref b488), .unset, .unset] [(.int y14)])) (fun _ k => XS.iload X513.here hx rfl (hb hby at_265) rfl k) ?_
                  refine own_goS (T' := T513) (g' := (mkF m 268 #[.val (.int p0), .val (.int p1), .val (.int p2), .val (.int p3), .val (.int p4), .val (.int (2 : Int32)), .val (.int (1 : Int32)), .val (.int y7), .val (.int y8), .val (.int xS0_1), .val (.int y10), .val (.int y11), .val (.int y12), .val (.int y13), .val (.int y14), .val (.ref b353), .val (.ref b391), .val (.ref b451), .val (.ref b488), .unset, .unset] [(.int (2 : Int32)), (.int y14)])) (fun _ k => XS.iconst X513.here hx rfl (hb hby at_267) k) ?_
                  by_cases hc268_534 : y14 = (2 : Int32)
                  · skip
                    refine own_goS (T' := T513) (g' := (mkF m 271 #[.val (.int p0), .val (.int p1), .val (.int p2), .val (.int p3), .val (.int p4), .val (.int (2 : Int32)), .val (.int (1 : Int32)), .val (.int y7), .val (.int y8), .val (.int xS0_1), .val (.int y10), .val (.int y11), .val (.int y12), .val (.int y13), .val (.int y14), .val (.ref b353), .val (.ref b391), .val (.ref b451), .val (.ref b488), .unset, .unset] [])) (fun _ k => XS.icmpNo X513.here hx rfl (hb hby at_268) rfl (XT.ii_ne_f hc268_534) k) ?_
                    refine own_goS (T' := T513) (g' := (mkF m 273 #[.val (.int p0), .val (.int p1), .val (.int p2), .val (.int p3), .val (.int p4), .val (.int (2 : Int32)), .val (.int (1 : Int32)), .val (.int y7), .val (.int y8), .val (.int xS0_1), .val (.int y10), .val (.int y11), .val (.int y12), .val (.int y13), .val (.int y14), .val (.ref b353), .val (.ref b391), .val (.ref b451), .val (.ref b488), .unset, .unset] [(.ref b451)])) (fun _ k => XS.aload X513.here hx rfl (hb hby at_271) rfl rfl k) ?_
                    refine own_goS (T' := T513) (g' := (mkF m 275 #[.val (.int p0), .val (.int p1), .val (.int p2), .val (.int p3), .val (.int p4), .val (.int (2 : Int32)), .val (.int (1 : Int32)), .val (.int y7), .val (.int y8), .val (.int xS0_1), .val (.int y10), .val (.int y11), .val (.int y12), .val (.int y13), .val (.int y14), .val (.ref b353), .val (.ref b391), .val (.ref b451), .val (.ref b488), .unset, .unset] [(.ref b353), (.ref b451)])) (fun _ k => XS.aload X513.here hx rfl (hb hby at_273) rfl rfl k) ?_
                    obtain ⟨cq535, kq535, q535a, q535b, q535c⟩ := isOf hZ513 rfl f528
                    obtain ⟨_, _, ⟨T535, L535, k535, n535⟩, -, X535, ⟨Lc535, hQ535, l535, y535, z535⟩, st535⟩ := X513.virtualBack hx (y := (⟨"com/example/node_ring/nodering/pool/Server", "equals", "(Ljava/lang/Object;)Z"⟩ : MethodName)) (z := (⟨"com/example/node_ring/nodering/pool/Server", "equals", "(Ljava/lang/Object;)Z"⟩ : MethodName)) hown513 (mvT hZ513 (hw _ (List.mem_of_getElem? (i := 54) rfl))) (mvT hZ513 (hw _ (List.mem_of_getElem? (i := 55) rfl))) (notFace_of_selects (args := #[]) (mvT hZ513 (hw _ (List.mem_of_getElem? (i := 57) rfl)))) (mvT hZ513 (hw _ (List.mem_of_getElem? (i := 57) rfl))) (mvT hZ513 (hw _ (List.mem_of_getElem? (i := 56) rfl))) (by decide) (backOf (W := 0) (rmET l Z a0 hw [] b451 b353 T513.heap n0 zs513 f518) hZ513 (hw _ (List.mem_of_getElem? (i := 58) rfl)) (hw _ (List.mem_of_getElem? (i := 33) rfl)) (by decide) (by decide)) q535a q535c (g := (mkF m 275 #[.val (.int p0), .val (.int p1), .val (.int p2), .val (.int p3), .val (.int p4), .val (.int (2 : Int32)), .val (.int (1 : Int32)), .val (.int y7), .val (.int y8), .val (.int xS0_1), .val (.int y10), .val (.int y11), .val (.int y12), .val (.int y13), .val (.int y14), .val (.ref b353), .val (.ref b391), .val (.ref b451), .val (.ref b488), .unset, .unset] [(.ref b353), (.ref b451)])) rfl (by rw [hml]; rfl) (Steps.refl _) (argsL := [(.ref b353)]) (rest := []) (lenOf own_pd7 rfl) rfl (by show 2 * 0 + _ ≤ _; exact Nat.le_of_eq rfl) (hb hby at_275) (fun _ _ => ⟨rfl, rfl, (by decide : 12 + 0 ≤ _), (by decide : 58 + 0 ≤ _)⟩)
                    dsimp only [Pt.U, Pt.locs, Pt.cells, Pt.slots] at X535 l535 y535 z535 st535 hQ535
                    subst l535 y535 z535
                    obtain ⟨rfl, N535q, e535⟩ := hQ535
                    have N535 := Fr.app N513 N535q
                    refine own_goS (T' := T535) (g' := (mkF m 278 #[.val (.int p0), .val (.int p1), .val (.int p2), .val (.int p3), .val (.int p4), .val (.int (2 : Int32)), .val (.int (1 : Int32)), .val (.int y7), .val (.int y8), .val (.int xS0_1), .val (.int y10), .val (.int y11), .val (.int y12), .val (.int y13), .val (.int y14), .val (.ref b353), .val (.ref b391), .val (.ref b451), .val (.ref b488), .unset, .unset] [(.int (own_sT b451 b353))])) (fun _ k => st535.trans k) ?_
                    refine own_goS (T' := T535) (g' := (mkF m 281 #[.val (.int p0), .val (.int p1), .val (.int p2), .val (.int p3), .val (.int p4), .val (.int (2 : Int32)), .val (.int (1 : Int32)), .val (.int y7), .val (.int y8), .val (.int xS0_1), .val (.int y10), .val (.int y11), .val (.int y12), .val (.int y13), .val (.int y14), .val (.ref b353), .val (.ref b391), .val (.ref b451), .val (.ref b488), .unset, .unset] [])) (fun _ k => XS.ifNo X535.here hx rfl (hb hby at_278) rfl (XT.i0_ne_f (by rfl)) k) ?_
                    refine own_goS (T' := T535) (g' := (mkF m 282 #[.val (.int p0), .val (.int p1), .val (.int p2), .val (.int p3), .val (.int p4), .val (.int (2 : Int32)), .val (.int (1 : Int32)), .val (.int y7), .val (.int y8), .val (.int xS0_1), .val (.int y10), .val (.int y11), .val (.int y12), .val (.int y13), .val (.int y14), .val (.ref b353), .val (.ref b391), .val (.ref b451), .val (.ref b488), .unset, .unset] [(.int (1 : Int32))])) (fun _ k => XS.iconst X535.here hx rfl (hb hby at_281) k) ?_
                    refine own_goS (T' := T535) (g' := (mkF m 286 #[.val (.int p0), .val (.int p1), .val (.int p2), .val (.int p3), .val (.int p4), .val (.int (2 : Int32)), .val (.int (1 : Int32)), .val (.int y7), .val (.int y8), .val (.int xS0_1), .val (.int y10), .val (.int y11), .val (.int y12), .val (.int y13), .val (.int y14), .val (.ref b353), .val (.ref b391), .val (.ref b451), .val (.ref b488), .unset, .unset] [(.int (1 : Int32))])) (fun _ k => XS.goto X535.here hx rfl (pc0 := 282) (pc' := 286) rfl (hb hby at_282) (by decide) (by decide) k) ?_
                    exact own_retNS X535 hS513 hx (t := .boolean) Bd.returns hlk (by simp) (hb hby at_286) e535 hk513 ⟨rfl, N535⟩ (by decide) (by decide)
                  · skip
                    refine own_goS (T' := T513) (g' := (mkF m 287 #[.val (.int p0), .val (.int p1), .val (.int p2), .val (.int p3), .val (.int p4), .val (.int (2 : Int32)), .val (.int (1 : Int32)), .val (.int y7), .val (.int y8), .val (.int xS0_1), .val (.int y10), .val (.int y11), .val (.int y12), .val (.int y13), .val (.int y14), .val (.ref b353), .val (.ref b391), .val (.ref b451), .val (.ref b488), .unset, .unset] [])) (fun _ k => XS.icmpYes X513.here hx rfl (pc0 := 268) (pc' := 287) rfl (hb hby at_268) rfl (XT.ii_ne_t hc268_534) (by decide) (by decide) k) ?_
                    refine own_goS (T' := T513) (g' := (mkF m 289 #[.val (.int p0), .val (.int p1), .val (.int p2), .val (.int p3), .val (.int p4), .val (.int (2 : Int32)), .val (.int (1 : Int32)), .val (.int y7), .val (.int y8), .val (.int xS0_1), .val (.int y10), .val (.int y11), .val (.int y12), .val (.int y13), .val (.int y14), .val (.ref b353), .val (.ref b391), .val (.ref b451), .val (.ref b488), .unset, .unset] [(.int y14)])) (fun _ k => XS.iload X513.here hx rfl (hb hby at_287) rfl k) ?_
                    refine own_goS (T' := T513) (g' := (mkF m 290 #[.val (.int p0), .val (.int p1), .val (.int p2), .val (.int p3), .val (.int p4), .val (.int (2 : Int32)), .val (.int (1 : Int32)), .val (.int y7), .val (.int y8), .val (.int xS0_1), .val (.int y10), .val (.int y11), .val (.int y12), .val (.int y13), .val (.int y14), .val (.ref b353), .val (.ref b391), .val (.ref b451), .val (.ref b488), .unset, .unset] [(.int (3 : Int32)), (.int y14)])) (fun _ k => XS.iconst X513.here hx rfl (hb hby at_289) k) ?_
                    by_cases hc290_536 : y14 = (3 : Int32)
                    · skip
                      refine own_goS (T' := T513) (g' := (mkF m 293 #[.val (.int p0), .val (.int p1), .val (.int p2), .val (.int p3), .val (.int p4), .val (.int (2 : Int32)), .val (.int (1 : Int32)), .val (.int y7), .val (.int y8), .val (.int xS0_1), .val (.int y10), .val (.int y11), .val (.int y12), .val (.int y13), .val (.int y14), .val (.ref b353), .val (.ref b391), .val (.ref b451), .val (.ref b488), .unset, .unset] [])) (fun _ k => XS.icmpNo X513.here hx rfl (hb hby at_290) rfl (XT.ii_ne_f hc290_536) k) ?_
                      refine own_goS (T' := T513) (g' := (mkF m 295 #[.val (.int p0), .val (.int p1), .val (.int p2), .val (.int p3), .val (.int p4), .val (.int (2 : Int32)), .val (.int (1 : Int32)), .val (.int y7), .val (.int y8), .val (.int xS0_1), .val (.int y10), .val (.int y11), .val (.int y12), .val (.int y13), .val (.int y14), .val (.ref b353), .val (.ref b391), .val (.ref b451), .val (.ref b488), .unset, .unset] [(.ref b451)])) (fun _ k => XS.aload X513.here hx rfl (hb hby at_293) rfl rfl k) ?_
                      refine own_goS (T' := T513) (g' := (mkF m 297 #[.val (.int p0), .val (.int p1), .val (.int p2), .val (.int p3), .val (.int p4), .val (.int (2 : Int32)), .val (.int (1 : Int32)), .val (.int y7), .val (.int y8), .val (.int xS0_1), .val (.int y10), .val (.int y11), .val (.int y12), .val (.int y13), .val (.int y14), .val (.ref b353), .val (.ref b391), .val (.ref b451), .val (.ref b488), .unset, .unset] [(.ref b451), (.ref b451)])) (fun _ k => XS.aload X513.here hx rfl (hb hby at_295) rfl rfl k) ?_
                      obtain ⟨cq537, kq537, q537a, q537b, q537c⟩ := isOf hZ513 rfl f528
                      obtain ⟨_, _, ⟨T537, L537, k537, n537⟩, -, X537, ⟨Lc537, hQ537, l537, y537, z537⟩, st537⟩ := X513.virtualBack hx (y := (⟨"com/example/node_ring/nodering/pool/Server", "equals", "(Ljava/lang/Object;)Z"⟩ : MethodName)) (z := (⟨"com/example/node_ring/nodering/pool/Server", "equals", "(Ljava/lang/Object;)Z"⟩ : MethodName)) hown513 (mvT hZ513 (hw _ (List.mem_of_getElem? (i := 54) rfl))) (mvT hZ513 (hw _ (List.mem_of_getElem? (i := 55) rfl))) (notFace_of_selects (args := #[]) (mvT hZ513 (hw _ (List.mem_of_getElem? (i := 57) rfl)))) (mvT hZ513 (hw _ (List.mem_of_getElem? (i := 57) rfl))) (mvT hZ513 (hw _ (List.mem_of_getElem? (i := 56) rfl))) (by decide) (backOf (W := 0) (rmES l Z a0 hw [] b451 b353 y12 T513.heap n0 zs513 f528 f529 f530 f518) hZ513 (hw _ (List.mem_of_getElem? (i := 58) rfl)) (hw _ (List.mem_of_getElem? (i := 33) rfl)) (by decide) (by decide)) q537a q537c (g := (mkF m 297 #[.val (.int p0), .val (.int p1), .val (.int p2), .val (.int p3), .val (.int p4), .val (.int (2 : Int32)), .val (.int (1 : Int32)), .val (.int y7), .val (.int y8), .val (.int xS0_1), .val (.int y10), .val (.int y11), .val (.int y12), .val (.int y13), .val (.int y14), .val (.ref b353), .val (.ref b391), .val (.ref b451), .val (.ref b488), .unset, .unset] [(.ref b451), (.ref b451)])) rfl (by rw [hml]; rfl) (Steps.refl _) (argsL := [(.ref b451)]) (rest := []) (lenOf own_pd7 rfl) rfl (by show 2 * 0 + _ ≤ _; exact Nat.le_of_eq rfl) (hb hby at_297) (fun _ _ => ⟨rfl, rfl, (by decide : 12 + 0 ≤ _), (by decide : 58 + 0 ≤ _)⟩)
                      dsimp only [Pt.U, Pt.locs, Pt.cells, Pt.slots] at X537 l537 y537 z537 st537 hQ537
                      subst l537 y537 z537
                      obtain ⟨rfl, N537q, e537⟩ := hQ537
                      have N537 := Fr.app N513 N537q
                      refine own_goS (T' := T537) (g' := (mkF m 300 #[.val (.int p0), .val (.int p1), .val (.int p2), .val (.int p3), .val (.int p4), .val (.int (2 : Int32)), .val (.int (1 : Int32)), .val (.int y7), .val (.int y8), .val (.int xS0_1), .val (.int y10), .val (.int y11), .val (.int y12), .val (.int y13), .val (.int y14), .val (.ref b353), .val (.ref b391), .val (.ref b451), .val (.ref b488), .unset, .unset] [(.int (own_sS b451 b353 y12))])) (fun _ k => st537.trans k) ?_
                      exact own_retNS X537 hS513 hx (t := .boolean) Bd.returns hlk (by simp) (hb hby at_300) e537 hk513 ⟨(by unfold own_sS; rfl), N537⟩ (by decide) (by decide)
                    · skip
                      refine own_goS (T' := T513) (g' := (mkF m 301 #[.val (.int p0), .val (.int p1), .val (.int p2), .val (.int p3), .val (.int p4), .val (.int (2 : Int32)), .val (.int (1 : Int32)), .val (.int y7), .val (.int y8), .val (.int xS0_1), .val (.int y10), .val (.int y11), .val (.int y12), .val (.int y13), .val (.int y14), .val (.ref b353), .val (.ref b391), .val (.ref b451), .val (.ref b488), .unset, .unset] [])) (fun _ k => XS.icmpYes X513.here hx rfl (pc0 := 290) (pc' := 301) rfl (hb hby at_290) rfl (XT.ii_ne_t hc290_536) (by decide) (by decide) k) ?_
                      refine own_goS (T' := T513) (g' := (mkF m 303 #[.val (.int p0), .val (.int p1), .val (.int p2), .val (.int p3), .val (.int p4), .val (.int (2 : Int32)), .val (.int (1 : Int32)), .val (.int y7), .val (.int y8), .val (.int xS0_1), .val (.int y10), .val (.int y11), .val (.int y12), .val (.int y13), .val (.int y14), .val (.ref b353), .val (.ref b391), .val (.ref b451), .val (.ref b488), .unset, .unset] [(.int (2 : Int32))])) (fun _ k => XS.iload X513.here hx rfl (hb hby at_301) rfl k) ?_
                      refine own_goS (T' := T513) (g' := (mkF m 305 #[.val (.int p0), .val (.int p1), .val (.int p2), .val (.int p3), .val (.int p4), .val (.int (2 : Int32)), .val (.int (1 : Int32)), .val (.int y7), .val (.int y8), .val (.int xS0_1), .val (.int y10), .val (.int y11), .val (.int y12), .val (.int y13), .val (.int y14), .val (.ref b353), .val (.ref b391), .val (.ref b451), .val (.ref b488), .unset, .unset] [(.int (1 : Int32)), (.int (2 : Int32))])) (fun _ k => XS.iload X513.here hx rfl (hb hby at_303) rfl k) ?_
                      refine own_goS (T' := T513) (g' := (mkF m 332 #[.val (.int p0), .val (.int p1), .val (.int p2), .val (.int p3), .val (.int p4), .val (.int (2 : Int32)), .val (.int (1 : Int32)), .val (.int y7), .val (.int y8), .val (.int xS0_1), .val (.int y10), .val (.int y11), .val (.int y12), .val (.int y13), .val (.int y14), .val (.ref b353), .val (.ref b391), .val (.ref b451), .val (.ref b488), .unset, .unset] [])) (fun _ k => XS.icmpYes X513.here hx rfl (pc0 := 305) (pc' := 332) rfl (hb hby at_305) rfl (XT.ii_ne_t (by decide : ¬ ((2 : Int32) = (1 : Int32)))) (by decide) (by decide) k) ?_
                      refine own_goS (T' := T513) (g' := (mkF m 333 #[.val (.int p0), .val (.int p1), .val (.int p2), .val (.int p3), .val (.int p4), .val (.int (2 : Int32)), .val (.int (1 : Int32)), .val (.int y7), .val (.int y8), .val (.int xS0_1), .val (.int y10), .val (.int y11), .val (.int y12), .val (.int y13), .val (.int y14), .val (.ref b353), .val (.ref b391), .val (.ref b451), .val (.ref b488), .unset, .unset] [(.int (0 : Int32))])) (fun _ k => XS.iconst X513.here hx rfl (hb hby at_332) k) ?_
                      refine own_goS (T' := T513) (g' := (mkF m 335 #[.val (.int p0), .val (.int p1), .val (.int p2), .val (.int p3), .val (.int p4), .val (.int (2 : Int32)), .val (.int (1 : Int32)), .val (.int y7), .val (.int y8), .val (.int xS0_1), .val (.int y10), .val (.int y11), .val (.int y12), .val (.int y13), .val (.int y14), .val (.ref b353), .val (.ref b391), .val (.ref b451), .val (.ref b488), .val (.int (0 : Int32)), .unset] [])) (fun _ k => XS.istore X513.here hx rfl (hb hby at_333) rfl (l' := #[.val (.int p0), .val (.int p1), .val (.int p2), .val (.int p3), .val (.int p4), .val (.int (2 : Int32)), .val (.int (1 : Int32)), .val (.int y7), .val (.int y8), .val (.int xS0_1), .val (.int y10), .val (.int y11), .val (.int y12), .val (.int y13), .val (.int y14), .val (.ref b353), .val (.ref b391), .val (.ref b451), .val (.ref b488), .val (.int (0 : Int32)), .unset]) rfl k) ?_
                      refine own_goS (T' := T513) (g' := (mkF m 337 #[.val (.int p0), .val (.int p1), .val (.int p2), .val (.int p3), .val (.int p4), .val (.int (2 : Int32)), .val (.int (1 : Int32)), .val (.int y7), .val (.int y8), .val (.int xS0_1), .val (.int y10), .val (.int y11), .val (.int y12), .val (.int y13), .val (.int y14), .val (.ref b353), .val (.ref b391), .val (.ref b451), .val (.ref b488), .val (.int (0 : Int32)), .unset] [(.int (0 : Int32))])) (fun _ k => XS.iload X513.here hx rfl (hb hby at_335) rfl k) ?_
                      refine own_goS (T' := T513) (g' := (mkF m 351 #[.val (.int p0), .val (.int p1), .val (.int p2), .val (.int p3), .val (.int p4), .val (.int (2 : Int32)), .val (.int (1 : Int32)), .val (.int y7), .val (.int y8), .val (.int xS0_1), .val (.int y10), .val (.int y11), .val (.int y12), .val (.int y13), .val (.int y14), .val (.ref b353), .val (.ref b391), .val (.ref b451), .val (.ref b488), .val (.int (0 : Int32)), .unset] [])) (fun _ k => XS.ifYes X513.here hx rfl (pc0 := 337) (pc' := 351) rfl (hb hby at_337) rfl (XT.i0_eq_t (rfl : (0 : Int32) = (0 : Int32))) (by decide) (by decide) k) ?_
                      refine own_goS (T' := T513) (g' := (mkF m 352 #[.val (.int p0), .val (.int p1), .val (.int p2), .val (.int p3), .val (.int p4), .val (.int (2 : Int32)), .val (.int (1 : Int32)), .val (.int y7), .val (.int y8), .val (.int xS0_1), .val (.int y10), .val (.int y11), .val (.int y12), .val (.int y13), .val (.int y14), .val (.ref b353), .val (.ref b391), .val (.ref b451), .val (.ref b488), .val (.int (0 : Int32)), .unset] [(.int (0 : Int32))])) (fun _ k => XS.iconst X513.here hx rfl (hb hby at_351) k) ?_
                      refine own_goS (T' := T513) (g' := (mkF m 354 #[.val (.int p0), .val (.int p1), .val (.int p2), .val (.int p3), .val (.int p4), .val (.int (2 : Int32)), .val (.int (1 : Int32)), .val (.int y7), .val (.int y8), .val (.int xS0_1), .val (.int y10), .val (.int y11), .val (.int y12), .val (.int y13), .val (.int y14), .val (.ref b353), .val (.ref b391), .val (.ref b451), .val (.ref b488), .val (.int (0 : Int32)), .val (.int (0 : Int32))] [])) (fun _ k => XS.istore X513.here hx rfl (hb hby at_352) rfl (l' := #[.val (.int p0), .val (.int p1), .val (.int p2), .val (.int p3), .val (.int p4), .val (.int (2 : Int32)), .val (.int (1 : Int32)), .val (.int y7), .val (.int y8), .val (.int xS0_1), .val (.int y10), .val (.int y11), .val (.int y12), .val (.int y13), .val (.int y14), .val (.ref b353), .val (.ref b391), .val (.ref b451), .val (.ref b488), .val (.int (0 : Int32)), .val (.int (0 : Int32))]) rfl k) ?_
                      refine own_goS (T' := T513) (g' := (mkF m 356 #[.val (.int p0), .val (.int p1), .val (.int p2), .val (.int p3), .val (.int p4), .val (.int (2 : Int32)), .val (.int (1 : Int32)), .val (.int y7), .val (.int y8), .val (.int xS0_1), .val (.int y10), .val (.int y11), .val (.int y12), .val (.int y13), .val (.int y14), .val (.ref b353), .val (.ref b391), .val (.ref b451), .val (.ref b488), .val (.int (0 : Int32)), .val (.int (0 : Int32))] [(.ref b451)])) (fun _ k => XS.aload X513.here hx rfl (hb hby at_354) rfl rfl k) ?_
                      refine own_goS (T' := T513) (g' := (mkF m 358 #[.val (.int p0), .val (.int p1), .val (.int p2), .val (.int p3), .val (.int p4), .val (.int (2 : Int32)), .val (.int (1 : Int32)), .val (.int y7), .val (.int y8), .val (.int xS0_1), .val (.int y10), .val (.int y11), .val (.int y12), .val (.int y13), .val (.int y14), .val (.ref b353), .val (.ref b391), .val (.ref b451), .val (.ref b488), .val (.int (0 : Int32)), .val (.int (0 : Int32))] [(.ref b488), (.ref b451)])) (fun _ k => XS.aload X513.here hx rfl (hb hby at_356) rfl rfl k) ?_
                      obtain ⟨cq538, kq538, q538a, q538b, q538c⟩ := isOf hZ513 rfl f528
                      obtain ⟨_, _, ⟨T538, L538, k538, n538⟩, -, X538, ⟨Lc538, hQ538, l538, y538, z538⟩, st538⟩ := X513.virtualBack hx (y := (⟨"com/example/node_ring/nodering/pool/Server", "equals", "(Ljava/lang/Object;)Z"⟩ : MethodName)) (z := (⟨"com/example/node_ring/nodering/pool/Server", "equals", "(Ljava/lang/Object;)Z"⟩ : MethodName)) hown513 (mvT hZ513 (hw _ (List.mem_of_getElem? (i := 54) rfl))) (mvT hZ513 (hw _ (List.mem_of_getElem? (i := 55) rfl))) (notFace_of_selects (args := #[]) (mvT hZ513 (hw _ (List.mem_of_getElem? (i := 57) rfl)))) (mvT hZ513 (hw _ (List.mem_of_getElem? (i := 57) rfl))) (mvT hZ513 (hw _ (List.mem_of_getElem? (i := 56) rfl))) (by decide) (backOf (W := 0) (rmE21 l Z a0 hw [] b451 b488 b353 y12 xb_378 xk_378 (nar .byte (y7.toInt8.toInt32)) (nar .byte (y8.toInt8.toInt32)) b391 y13 xb_431 xk_431 (nar .byte (y10.toInt8.toInt32)) cs T513.heap n0 zs513 f528 f529 f530 f518 f521 f520 f522 po516 po514 po515 f523 f526 f525 f527 f517 hh0 ne392) hZ513 (hw _ (List.mem_of_getElem? (i := 58) rfl)) (hw _ (List.mem_of_getElem? (i := 33) rfl)) (by decide) (by decide)) q538a q538c (g := (mkF m 358 #[.val (.int p0), .val (.int p1), .val (.int p2), .val (.int p3), .val (.int p4), .val (.int (2 : Int32)), .val (.int (1 : Int32)), .val (.int y7), .val (.int y8), .val (.int xS0_1), .val (.int y10), .val (.int y11), .val (.int y12), .val (.int y13), .val (.int y14), .val (.ref b353), .val (.ref b391), .val (.ref b451), .val (.ref b488), .val (.int (0 : Int32)), .val (.int (0 : Int32))] [(.ref b488), (.ref b451)])) rfl (by rw [hml]; rfl) (Steps.refl _) (argsL := [(.ref b488)]) (rest := []) (lenOf own_pd7 rfl) rfl (by show 2 * 0 + _ ≤ _; exact Nat.le_of_eq rfl) (hb hby at_358) (fun _ _ => ⟨rfl, rfl, (by decide : 12 + 0 ≤ _), (by decide : 58 + 0 ≤ _)⟩)
                      dsimp only [Pt.U, Pt.locs, Pt.cells, Pt.slots] at X538 l538 y538 z538 st538 hQ538
                      subst l538 y538 z538
                      obtain ⟨rfl, N538q, e538⟩ := hQ538
                      have N538 := Fr.app N513 N538q
                      refine own_goS (T' := T538) (g' := (mkF m 361 #[.val (.int p0), .val (.int p1), .val (.int p2), .val (.int p3), .val (.int p4), .val (.int (2 : Int32)), .val (.int (1 : Int32)), .val (.int y7), .val (.int y8), .val (.int xS0_1), .val (.int y10), .val (.int y11), .val (.int y12), .val (.int y13), .val (.int y14), .val (.ref b353), .val (.ref b391), .val (.ref b451), .val (.ref b488), .val (.int (0 : Int32)), .val (.int (0 : Int32))] [(.int (own_s21 b451 b488 b353 y12 xb_378 xk_378 (nar .byte (y7.toInt8.toInt32)) (nar .byte (y8.toInt8.toInt32)) b391 y13 xb_431 xk_431 (nar .byte (y10.toInt8.toInt32)) cs))])) (fun _ k => st538.trans k) ?_
                      refine own_goS (T' := T538) (g' := (mkF m 363 #[.val (.int p0), .val (.int p1), .val (.int p2), .val (.int p3), .val (.int p4), .val (.int (2 : Int32)), .val (.int (1 : Int32)), .val (.int y7), .val (.int y8), .val (.int xS0_1), .val (.int y10), .val (.int y11), .val (.int y12), .val (.int y13), .val (.int y14), .val (.ref b353), .val (.ref b391), .val (.ref b451), .val (.ref b488), .val (.int (0 : Int32)), .val (.int (0 : Int32))] [(.int (0 : Int32)), (.int (own_s21 b451 b488 b353 y12 xb_378 xk_378 (nar .byte (y7.toInt8.toInt32)) (nar .byte (y8.toInt8.toInt32)) b391 y13 xb_431 xk_431 (nar .byte (y10.toInt8.toInt32)) cs))])) (fun _ k => XS.iload X538.here hx rfl (hb hby at_361) rfl k) ?_
                      refine own_goS (T' := T538) (g' := (mkF m 366 #[.val (.int p0), .val (.int p1), .val (.int p2), .val (.int p3), .val (.int p4), .val (.int (2 : Int32)), .val (.int (1 : Int32)), .val (.int y7), .val (.int y8), .val (.int xS0_1), .val (.int y10), .val (.int y11), .val (.int y12), .val (.int y13), .val (.int y14), .val (.ref b353), .val (.ref b391), .val (.ref b451), .val (.ref b488), .val (.int (0 : Int32)), .val (.int (0 : Int32))] [])) (fun _ k => XS.icmpNo X538.here hx rfl (hb hby at_363) rfl (XT.ii_ne_f (by unfold own_s21 own_q21 own_l21; simp)) k) ?_
                      refine own_goS (T' := T538) (g' := (mkF m 368 #[.val (.int p0), .val (.int p1), .val (.int p2), .val (.int p3), .val (.int p4), .val (.int (2 : Int32)), .val (.int (1 : Int32)), .val (.int y7), .val (.int y8), .val (.int xS0_1), .val (.int y10), .val (.int y11), .val (.int y12), .val (.int y13), .val (.int y14), .val (.ref b353), .val (.ref b391), .val (.ref b451), .val (.ref b488), .val (.int (0 : Int32)), .val (.int (0 : Int32))] [(.ref b488)])) (fun _ k => XS.aload X538.here hx rfl (hb hby at_366) rfl rfl k) ?_
                      refine own_goS (T' := T538) (g' := (mkF m 370 #[.val (.int p0), .val (.int p1), .val (.int p2), .val (.int p3), .val (.int p4), .val (.int (2 : Int32)), .val (.int (1 : Int32)), .val (.int y7), .val (.int y8), .val (.int xS0_1), .val (.int y10), .val (.int y11), .val (.int y12), .val (.int y13), .val (.int y14), .val (.ref b353), .val (.ref b391), .val (.ref b451), .val (.ref b488), .val (.int (0 : Int32)), .val (.int (0 : Int32))] [(.ref b451), (.ref b488)])) (fun _ k => XS.aload X538.here hx rfl (hb hby at_368) rfl rfl k) ?_
                      obtain ⟨cq539, kq539, q539a, q539b, q539c⟩ := isOf hZ513 e538 po516
                      obtain ⟨_, _, ⟨T539, L539, k539, n539⟩, -, X539, ⟨Lc539, hQ539, l539, y539, z539⟩, st539⟩ := X538.virtualBack hx (y := (⟨"com/example/node_ring/nodering/pool/Server", "equals", "(Ljava/lang/Object;)Z"⟩ : MethodName)) (z := (⟨"com/example/node_ring/nodering/pool/Server", "equals", "(Ljava/lang/Object;)Z"⟩ : MethodName)) hown513 (mvT hZ513 (hw _ (List.mem_of_getElem? (i := 54) rfl))) (mvT hZ513 (hw _ (List.mem_of_getElem? (i := 55) rfl))) (notFace_of_selects (args := #[]) (mvT hZ513 (hw _ (List.mem_of_getElem? (i := 57) rfl)))) (mvT hZ513 (hw _ (List.mem_of_getElem? (i := 57) rfl))) (mvT hZ513 (hw _ (List.mem_of_getElem? (i := 56) rfl))) (by decide) (backOf (W := 0) (rmE12 l Z a0 hw [] b488 b451 b391 y13 xb_431 xk_431 (nar .byte (y10.toInt8.toInt32)) b353 y12 xb_378 xk_378 (nar .byte (y7.toInt8.toInt32)) (nar .byte (y8.toInt8.toInt32)) cs T513.heap n0 zs513 po516 po514 po515 f523 f526 f525 f527 f528 f529 f530 f518 f521 f520 f522 f517 hh0 (Ne.symm ne392)) hZ513 (hw _ (List.mem_of_getElem? (i := 58) rfl)) (hw _ (List.mem_of_getElem? (i := 33) rfl)) (by decide) (by decide)) q539a q539c (g := (mkF m 370 #[.val (.int p0), .val (.int p1), .val (.int p2), .val (.int p3), .val (.int p4), .val (.int (2 : Int32)), .val (.int (1 : Int32)), .val (.int y7), .val (.int y8), .val (.int xS0_1), .val (.int y10), .val (.int y11), .val (.int y12), .val (.int y13), .val (.int y14), .val (.ref b353), .val (.ref b391), .val (.ref b451), .val (.ref b488), .val (.int (0 : Int32)), .val (.int (0 : Int32))] [(.ref b451), (.ref b488)])) rfl (by rw [hml]; rfl) (Steps.refl _) (argsL := [(.ref b451)]) (rest := []) (lenOf own_pd7 rfl) rfl (by show 2 * 0 + _ ≤ _; exact Nat.le_of_eq rfl) (hb hby at_370) (fun _ _ => ⟨rfl, e538, (by decide : 12 + 0 ≤ _), (by decide : 58 + 0 ≤ _)⟩)
                      dsimp only [Pt.U, Pt.locs, Pt.cells, Pt.slots] at X539 l539 y539 z539 st539 hQ539
                      subst l539 y539 z539
                      obtain ⟨rfl, N539q, e539⟩ := hQ539
                      have N539 := Fr.app N538 N539q
                      refine own_goS (T' := T539) (g' := (mkF m 373 #[.val (.int p0), .val (.int p1), .val (.int p2), .val (.int p3), .val (.int p4), .val (.int (2 : Int32)), .val (.int (1 : Int32)), .val (.int y7), .val (.int y8), .val (.int xS0_1), .val (.int y10), .val (.int y11), .val (.int y12), .val (.int y13), .val (.int y14), .val (.ref b353), .val (.ref b391), .val (.ref b451), .val (.ref b488), .val (.int (0 : Int32)), .val (.int (0 : Int32))] [(.int (own_s12 b488 b451 b391 y13 xb_431 xk_431 (nar .byte (y10.toInt8.toInt32)) b353 y12 xb_378 xk_378 (nar .byte (y7.toInt8.toInt32)) (nar .byte (y8.toInt8.toInt32)) cs))])) (fun _ k => st539.trans k) ?_
                      refine own_goS (T' := T539) (g' := (mkF m 375 #[.val (.int p0), .val (.int p1), .val (.int p2), .val (.int p3), .val (.int p4), .val (.int (2 : Int32)), .val (.int (1 : Int32)), .val (.int y7), .val (.int y8), .val (.int xS0_1), .val (.int y10), .val (.int y11), .val (.int y12), .val (.int y13), .val (.int y14), .val (.ref b353), .val (.ref b391), .val (.ref b451), .val (.ref b488), .val (.int (0 : Int32)), .val (.int (0 : Int32))] [(.int (0 : Int32)), (.int (own_s12 b488 b451 b391 y13 xb_431 xk_431 (nar .byte (y10.toInt8.toInt32)) b353 y12 xb_378 xk_378 (nar .byte (y7.toInt8.toInt32)) (nar .byte (y8.toInt8.toInt32)) cs))])) (fun _ k => XS.iload X539.here hx rfl (hb hby at_373) rfl k) ?_
                      refine own_goS (T' := T539) (g' := (mkF m 378 #[.val (.int p0), .val (.int p1), .val (.int p2), .val (.int p3), .val (.int p4), .val (.int (2 : Int32)), .val (.int (1 : Int32)), .val (.int y7), .val (.int y8), .val (.int xS0_1), .val (.int y10), .val (.int y11), .val (.int y12), .val (.int y13), .val (.int y14), .val (.ref b353), .val (.ref b391), .val (.ref b451), .val (.ref b488), .val (.int (0 : Int32)), .val (.int (0 : Int32))] [])) (fun _ k => XS.icmpNo X539.here hx rfl (hb hby at_375) rfl (XT.ii_ne_f (by unfold own_s12 own_q12 own_l12; simp)) k) ?_
                      refine own_goS (T' := T539) (g' := (mkF m 379 #[.val (.int p0), .val (.int p1), .val (.int p2), .val (.int p3), .val (.int p4), .val (.int (2 : Int32)), .val (.int (1 : Int32)), .val (.int y7), .val (.int y8), .val (.int xS0_1), .val (.int y10), .val (.int y11), .val (.int y12), .val (.int y13), .val (.int y14), .val (.ref b353), .val (.ref b391), .val (.ref b451), .val (.ref b488), .val (.int (0 : Int32)), .val (.int (0 : Int32))] [(.int (1 : Int32))])) (fun _ k => XS.iconst X539.here hx rfl (hb hby at_378) k) ?_
                      refine own_goS (T' := T539) (g' := (mkF m 383 #[.val (.int p0), .val (.int p1), .val (.int p2), .val (.int p3), .val (.int p4), .val (.int (2 : Int32)), .val (.int (1 : Int32)), .val (.int y7), .val (.int y8), .val (.int xS0_1), .val (.int y10), .val (.int y11), .val (.int y12), .val (.int y13), .val (.int y14), .val (.ref b353), .val (.ref b391), .val (.ref b451), .val (.ref b488), .val (.int (0 : Int32)), .val (.int (0 : Int32))] [(.int (1 : Int32))])) (fun _ k => XS.goto X539.here hx rfl (pc0 := 379) (pc' := 383) rfl (hb hby at_379) (by decide) (by decide) k) ?_
                      exact own_retNS X539 hS513 hx (t := .boolean) Bd.returns hlk (by simp) (hb hby at_383) e539 hk513 ⟨rfl, N539⟩ (by decide) (by decide)
              · skip
                refine own_goS (T' := T378) (g' := (mkF m 196 #[.val (.int p0), .val (.int p1), .val (.int p2), .val (.int p3), .val (.int p4), .val (.int (2 : Int32)), .val (.int y6), .val (.int y7), .val (.int y8), .val (.int xS0_1), .val (.int y10), .val (.int y11), .val (.int y12), .val (.int y13), .val (.int y14), .val (.ref b353), .unset, .unset, .unset, .unset, .unset] [])) (fun _ k => XS.icmpYes X378.here hx rfl (pc0 := 175) (pc' := 196) rfl (hb hby at_175) rfl (XT.ii_ne_t hc175_390) (by decide) (by decide) k) ?_
                refine own_goS (T' := T378) (g' := (mkF m 196 #[.val (.int p0), .val (.int p1), .val (.int p2), .val (.int p3), .val (.int p4), .val (.int (2 : Int32)), .val (.int (2 : Int32)), .val (.int y7), .val (.int y8), .val (.int xS0_1), .val (.int y10), .val (.int y11), .val (.int y12), .val (.int y13), .val (.int y14), .val (.ref b353), .unset, .unset, .unset, .unset, .unset] [])) (fun _ k => castTop (by rw [h12_6.resolve_left hc175_390]) k) ?_
                obtain ⟨T540, h540, X540, e540, E540, A540, D540, -, st540⟩ := newO X378 hx hZ hown (hw _ (List.mem_of_getElem? (i := 1) rfl)) (hw _ (List.mem_of_getElem? (i := 2) rfl)) (hw _ (List.mem_of_getElem? (i := 3) rfl)) rfl (g := (mkF m 196 #[.val (.int p0), .val (.int p1), .val (.int p2), .val (.int p3), .val (.int p4), .val (.int (2 : Int32)), .val (.int (2 : Int32)), .val (.int y7), .val (.int y8), .val (.int xS0_1), .val (.int y10), .val (.int y11), .val (.int y12), .val (.int y13), .val (.int y14), .val (.ref b353), .unset, .unset, .unset, .unset, .unset] [])) rfl (hb hby at_196) (by decide) (by decide)
                obtain ⟨b540, g540⟩ : ∃ z, z = T378.heap.size := ⟨_, rfl⟩
                have ne541 : b353 ≠ b540 := Nat.ne_of_lt (Nat.lt_of_lt_of_le f384.lt (Nat.le_of_eq g540.symm))
                have ne542 : b358 ≠ b540 := Nat.ne_of_lt (Nat.lt_of_lt_of_le f385.lt (Nat.le_of_eq g540.symm))
                have ne543 : xb_378 ≠ b540 := Nat.ne_of_lt (Nat.lt_of_lt_of_le po382.lt (Nat.le_of_eq g540.symm))
                rw [← g540] at A540 D540 st540
                have f544 : Sta Z h540 "java/lang/String" "COMPACT_STRINGS" "Z" (.int cs) := (f383.ext E540)
                have f545 : Exa Z h540 b353 "java/lang/String" := (f384.ext E540)
                have f546 : Arv Z h540 b358 k358 .char (2 : Int32) [(.int y7), (.int y8)] (.int (0 : Int32)) := (f385.ext E540)
                have f547 : Fld Z h540 b353 "java/lang/String" "value" "[B" (.ref xb_378) := (po380.ext E540)
                have f548 : Fld Z h540 b353 "java/lang/String" "coder" "B" (.int (0 : Int32)) := (po381.ext E540)
                have f549 : Arv Z h540 xb_378 xk_378 .byte (2 : Int32) [(.int (nar .byte (y7.toInt8.toInt32))), (.int (nar .byte (y8.toInt8.toInt32)))] (.int (0 : Int32)) := (po382.ext E540)
                have fn550 : Fld Z h540 b540 "java/lang/String" "coder" "B" (.int (0 : Int32)) := D540 (Or.inr (hw _ (List.mem_of_getElem? (i := 28) rfl))) (ty := .byte) (by decide)
                have fn551 : Fld Z h540 b540 "java/lang/String" "value" "[B" .null := D540 (Or.inr (hw _ (List.mem_of_getElem? (i := 30) rfl))) (ty := (.array .byte)) (by decide)
                have ge540 : n0 ≤ b540 := Nat.le_trans zs378 (Nat.le_of_eq g540.symm)
                have zs540 : n0 ≤ h540.size := Nat.le_trans zs378 E540.1
                have hk552 := Nat.le_trans hk389 (E540.1)
                refine own_goS (T' := T540) (g' := (mkF m 199 #[.val (.int p0), .val (.int p1), .val (.int p2), .val (.int p3), .val (.int p4), .val (.int (2 : Int32)), .val (.int (2 : Int32)), .val (.int y7), .val (.int y8), .val (.int xS0_1), .val (.int y10), .val (.int y11), .val (.int y12), .val (.int y13), .val (.int y14), .val (.ref b353), .unset, .unset, .unset, .unset, .unset] [(.ref b540)])) (fun _ k => st540 _ k) ?_
                refine own_goS (T' := T540) (g' := (mkF m 200 #[.val (.int p0), .val (.int p1), .val (.int p2), .val (.int p3), .val (.int p4), .val (.int (2 : Int32)), .val (.int (2 : Int32)), .val (.int y7), .val (.int y8), .val (.int xS0_1), .val (.int y10), .val (.int y11), .val (.int y12), .val (.int y13), .val (.int y14), .val (.ref b353), .unset, .unset, .unset, .unset, .unset] [(.ref b540), (.ref b540)])) (fun _ k => XS.dup X540.here hx rfl (hb hby at_199) rfl rfl k) ?_
                refine own_goS (T' := T540) (g' := (mkF m 201 #[.val (.int p0), .val (.int p1), .val (.int p2), .val (.int p3), .val (.int p4), .val (.int (2 : Int32)), .val (.int (2 : Int32)), .val (.int y7), .val (.int y8), .val (.int xS0_1), .val (.int y10), .val (.int y11), .val (.int y12), .val (.int y13), .val (.int y14), .val (.ref b353), .unset, .unset, .unset, .unset, .unset] [(.int (2 : Int32)), (.ref b540), (.ref b540)])) (fun _ k => XS.iconst X540.here hx rfl (hb hby at_200) k) ?_
                obtain ⟨T553, h553, k553, X553, e553, E553, A553, st553⟩ := newP X540 hx hZ (hw _ (List.mem_of_getElem? (i := 4) rfl)) e540 (g := (mkF m 201 #[.val (.int p0), .val (.int p1), .val (.int p2), .val (.int p3), .val (.int p4), .val (.int (2 : Int32)), .val (.int (2 : Int32)), .val (.int y7), .val (.int y8), .val (.int xS0_1), .val (.int y10), .val (.int y11), .val (.int y12), .val (.int y13), .val (.int y14), .val (.ref b353), .unset, .unset, .unset, .unset, .unset] [(.int (2 : Int32)), (.ref b540), (.ref b540)])) rfl (hb hby at_201) rfl (by decide) (cap := 2) (by decide) (by decide) (by decide) (by decide)
                obtain ⟨b553, g553⟩ : ∃ z, z = h540.size := ⟨_, rfl⟩
                have ne554 : b353 ≠ b553 := Nat.ne_of_lt (Nat.lt_of_lt_of_le f545.lt (Nat.le_of_eq g553.symm))
                have ne555 : b358 ≠ b553 := Nat.ne_of_lt (Nat.lt_of_lt_of_le f546.lt (Nat.le_of_eq g553.symm))
                have ne556 : xb_378 ≠ b553 := Nat.ne_of_lt (Nat.lt_of_lt_of_le f549.lt (Nat.le_of_eq g553.symm))
                have ne557 : b540 ≠ b553 := Nat.ne_of_lt (Nat.lt_of_lt_of_le A540.lt (Nat.le_of_eq g553.symm))
                rw [← g553] at A553 st553
                have f558 : Sta Z h553 "java/lang/String" "COMPACT_STRINGS" "Z" (.int cs) := (f544.ext E553)
                have f559 : Exa Z h553 b353 "java/lang/String" := (f545.ext E553)
                have f560 : Arv Z h553 b358 k358 .char (2 : Int32) [(.int y7), (.int y8)] (.int (0 : Int32)) := (f546.ext E553)
                have f561 : Fld Z h553 b353 "java/lang/String" "value" "[B" (.ref xb_378) := (f547.ext E553)
                have f562 : Fld Z h553 b353 "java/lang/String" "coder" "B" (.int (0 : Int32)) := (f548.ext E553)
                have f563 : Arv Z h553 xb_378 xk_378 .byte (2 : Int32) [(.int (nar .byte (y7.toInt8.toInt32))), (.int (nar .byte (y8.toInt8.toInt32)))] (.int (0 : Int32)) := (f549.ext E553)
                have f564 : Exa Z h553 b540 "java/lang/String" := (A540.ext E553)
                have f565 : Fld Z h553 b540 "java/lang/String" "coder" "B" (.int (0 : Int32)) := (fn550.ext E553)
                have f566 : Fld Z h553 b540 "java/lang/String" "value" "[B" .null := (fn551.ext E553)
                have V553 : Arv Z h553 b553 k553 .char (2 : Int32) [(.int (0 : Int32)), (.int (0 : Int32))] (.int (0 : Int32)) := (Arv.new A553 (by decide)).pad (pad_rep [] (.int (0 : Int32)) 2)
                have ge553 : n0 ≤ b553 := Nat.le_trans zs540 (Nat.le_of_eq g553.symm)
                have zs553 : n0 ≤ h553.size := Nat.le_trans zs540 E553.1
                have hk567 := Nat.le_trans hk552 (E553.1)
                refine own_goS (T' := T553) (g' := (mkF m 203 #[.val (.int p0), .val (.int p1), .val (.int p2), .val (.int p3), .val (.int p4), .val (.int (2 : Int32)), .val (.int (2 : Int32)), .val (.int y7), .val (.int y8), .val (.int xS0_1), .val (.int y10), .val (.int y11), .val (.int y12), .val (.int y13), .val (.int y14), .val (.ref b353), .unset, .unset, .unset, .unset, .unset] [(.ref b553), (.ref b540), (.ref b540)])) (fun _ k => st553 _ k) ?_
                refine own_goS (T' := T553) (g' := (mkF m 204 #[.val (.int p0), .val (.int p1), .val (.int p2), .val (.int p3), .val (.int p4), .val (.int (2 : Int32)), .val (.int (2 : Int32)), .val (.int y7), .val (.int y8), .val (.int xS0_1), .val (.int y10), .val (.int y11), .val (.int y12), .val (.int y13), .val (.int y14), .val (.ref b353), .unset, .unset, .unset, .unset, .unset] [(.ref b553), (.ref b553), (.ref b540), (.ref b540)])) (fun _ k => XS.dup X553.here hx rfl (hb hby at_203) rfl rfl k) ?_
                refine own_goS (T' := T553) (g' := (mkF m 205 #[.val (.int p0), .val (.int p1), .val (.int p2), .val (.int p3), .val (.int p4), .val (.int (2 : Int32)), .val (.int (2 : Int32)), .val (.int y7), .val (.int y8), .val (.int xS0_1), .val (.int y10), .val (.int y11), .val (.int y12), .val (.int y13), .val (.int y14), .val (.ref b353), .unset, .unset, .unset, .unset, .unset] [(.int (0 : Int32)), (.ref b553), (.ref b553), (.ref b540), (.ref b540)])) (fun _ k => XS.iconst X553.here hx rfl (hb hby at_204) k) ?_
                refine own_goS (T' := T553) (g' := (mkF m 207 #[.val (.int p0), .val (.int p1), .val (.int p2), .val (.int p3), .val (.int p4), .val (.int (2 : Int32)), .val (.int (2 : Int32)), .val (.int y7), .val (.int y8), .val (.int xS0_1), .val (.int y10), .val (.int y11), .val (.int y12), .val (.int y13), .val (.int y14), .val (.ref b353), .unset, .unset, .unset, .unset, .unset] [(.int y10), (.int (0 : Int32)), (.ref b553), (.ref b553), (.ref b540), (.ref b540)])) (fun _ k => XS.iload X553.here hx rfl (hb hby at_205) rfl k) ?_
                obtain ⟨cl568, Ar568, q1568, q2568, q3568, H568, G568⟩ := id V553
                have hin568 := inb_of q2568 (j := (0 : Int32)) (by decide)
                obtain ⟨T568, h568, X568, e568, W568, st568⟩ := stC X553 hx hZ e553 Ar568 (j := (0 : Int32)) hin568 (g := (mkF m 207 #[.val (.int p0), .val (.int p1), .val (.int p2), .val (.int p3), .val (.int p4), .val (.int (2 : Int32)), .val (.int (2 : Int32)), .val (.int y7), .val (.int y8), .val (.int xS0_1), .val (.int y10), .val (.int y11), .val (.int y12), .val (.int y13), .val (.int y14), .val (.ref b353), .unset, .unset, .unset, .unset, .unset] [(.int y10), (.int (0 : Int32)), (.ref b553), (.ref b553), (.ref b540), (.ref b540)])) rfl rfl (hb hby at_207)
                have f569 : Sta Z h568 "java/lang/String" "COMPACT_STRINGS" "Z" (.int cs) := (f558.wr W568)
                have f570 : Exa Z h568 b353 "java/lang/String" := (f559.wr W568)
                have f571 : Arv Z h568 b358 k358 .char (2 : Int32) [(.int y7), (.int y8)] (.int (0 : Int32)) := (f560.other W568 ne555)
                have f572 : Fld Z h568 b353 "java/lang/String" "value" "[B" (.ref xb_378) := (f561.other W568 (Or.inl ne554))
                have f573 : Fld Z h568 b353 "java/lang/String" "coder" "B" (.int (0 : Int32)) := (f562.other W568 (Or.inl ne554))
                have f574 : Arv Z h568 xb_378 xk_378 .byte (2 : Int32) [(.int (nar .byte (y7.toInt8.toInt32))), (.int (nar .byte (y8.toInt8.toInt32)))] (.int (0 : Int32)) := (f563.other W568 ne556)
                have f575 : Exa Z h568 b540 "java/lang/String" := (f564.wr W568)
                have f576 : Fld Z h568 b540 "java/lang/String" "coder" "B" (.int (0 : Int32)) := (f565.other W568 (Or.inl ne557))
                have f577 : Fld Z h568 b540 "java/lang/String" "value" "[B" .null := (f566.other W568 (Or.inl ne557))
                have V568 : Arv Z h568 b553 k553 .char (2 : Int32) [(.int (nar .char y10)), (.int (0 : Int32))] (.int (0 : Int32)) := Arv.set Ar568 q1568 q2568 q3568 H568 G568 (fits_nar_char _) W568 0 (by decide) (by simp)
                have N568 := Fr.snoc X568 N378 ge553
                have zs568 : n0 ≤ h568.size := by rw [W568.size]; exact zs553
                have hk578 := Nat.le_trans hk567 (Nat.le_of_eq W568.size.symm)
                refine own_goS (T' := T568) (g' := (mkF m 208 #[.val (.int p0), .val (.int p1), .val (.int p2), .val (.int p3), .val (.int p4), .val (.int (2 : Int32)), .val (.int (2 : Int32)), .val (.int y7), .val (.int y8), .val (.int xS0_1), .val (.int y10), .val (.int y11), .val (.int y12), .val (.int y13), .val (.int y14), .val (.ref b353), .unset, .unset, .unset, .unset, .unset] [(.ref b553), (.ref b540), (.ref b540)])) (fun _ k => st568 _ k) ?_
                refine own_goS (T' := T568) (g' := (mkF m 209 #[.val (.int p0), .val (.int p1), .val (.int p2), .val (.int p3), .val (.int p4), .val (.int (2 : Int32)), .val (.int (2 : Int32)), .val (.int y7), .val (.int y8), .val (.int xS0_1), .val (.int y10), .val (.int y11), .val (.int y12), .val (.int y13), .val (.int y14), .val (.ref b353), .unset, .unset, .unset, .unset, .unset] [(.ref b553), (.ref b553), (.ref b540), (.ref b540)])) (fun _ k => XS.dup X568.here hx rfl (hb hby at_208) rfl rfl k) ?_
                refine own_goS (T' := T568) (g' := (mkF m 210 #[.val (.int p0), .val (.int p1), .val (.int p2), .val (.int p3), .val (.int p4), .val (.int (2 : Int32)), .val (.int (2 : Int32)), .val (.int y7), .val (.int y8), .val (.int xS0_1), .val (.int y10), .val (.int y11), .val (.int y12), .val (.int y13), .val (.int y14), .val (.ref b353), .unset, .unset, .unset, .unset, .unset] [(.int (1 : Int32)), (.ref b553), (.ref b553), (.ref b540), (.ref b540)])) (fun _ k => XS.iconst X568.here hx rfl (hb hby at_209) k) ?_
                refine own_goS (T' := T568) (g' := (mkF m 212 #[.val (.int p0), .val (.int p1), .val (.int p2), .val (.int p3), .val (.int p4), .val (.int (2 : Int32)), .val (.int (2 : Int32)), .val (.int y7), .val (.int y8), .val (.int xS0_1), .val (.int y10), .val (.int y11), .val (.int y12), .val (.int y13), .val (.int y14), .val (.ref b353), .unset, .unset, .unset, .unset, .unset] [(.int y11), (.int (1 : Int32)), (.ref b553), (.ref b553), (.ref b540), (.ref b540)])) (fun _ k => XS.iload X568.here hx rfl (hb hby at_210) rfl k) ?_
                obtain ⟨cl579, Ar579, q1579, q2579, q3579, H579, G579⟩ := id V568
                have hin579 := inb_of q2579 (j := (1 : Int32)) (by decide)
                obtain ⟨T579, h579, X579, e579, W579, st579⟩ := stC X568 hx hZ e568 Ar579 (j := (1 : Int32)) hin579 (g := (mkF m 212 #[.val (.int p0), .val (.int p1), .val (.int p2), .val (.int p3), .val (.int p4), .val (.int (2 : Int32)), .val (.int (2 : Int32)), .val (.int y7), .val (.int y8), .val (.int xS0_1), .val (.int y10), .val (.int y11), .val (.int y12), .val (.int y13), .val (.int y14), .val (.ref b353), .unset, .unset, .unset, .unset, .unset] [(.int y11), (.int (1 : Int32)), (.ref b553), (.ref b553), (.ref b540), (.ref b540)])) rfl rfl (hb hby at_212)
                have f580 : Sta Z h579 "java/lang/String" "COMPACT_STRINGS" "Z" (.int cs) := (f569.wr W579)
                have f581 : Exa Z h579 b353 "java/lang/String" := (f570.wr W579)
                have f582 : Arv Z h579 b358 k358 .char (2 : Int32) [(.int y7), (.int y8)] (.int (0 : Int32)) := (f571.other W579 ne555)
                have f583 : Fld Z h579 b353 "java/lang/String" "value" "[B" (.ref xb_378) := (f572.other W579 (Or.inl ne554))
                have f584 : Fld Z h579 b353 "java/lang/String" "coder" "B" (.int (0 : Int32)) := (f573.other W579 (Or.inl ne554))
                have f585 : Arv Z h579 xb_378 xk_378 .byte (2 : Int32) [(.int (nar .byte (y7.toInt8.toInt32))), (.int (nar .byte (y8.toInt8.toInt32)))] (.int (0 : Int32)) := (f574.other W579 ne556)
                have f586 : Exa Z h579 b540 "java/lang/String" := (f575.wr W579)
                have f587 : Fld Z h579 b540 "java/lang/String" "coder" "B" (.int (0 : Int32)) := (f576.other W579 (Or.inl ne557))
                have f588 : Fld Z h579 b540 "java/lang/String" "value" "[B" .null := (f577.other W579 (Or.inl ne557))
                have V579 : Arv Z h579 b553 k553 .char (2 : Int32) [(.int (nar .char y10)), (.int (nar .char y11))] (.int (0 : Int32)) := Arv.set Ar579 q1579 q2579 q3579 H579 G579 (fits_nar_char _) W579 1 (by decide) (by simp)
                have N579 := Fr.snoc X579 N568 ge553
                have zs579 : n0 ≤ h579.size := by rw [W579.size]; exact zs568
                have hk589 := Nat.le_trans hk578 (Nat.le_of_eq W579.size.symm)
                refine own_goS (T' := T579) (g' := (mkF m 213 #[.val (.int p0), .val (.int p1), .val (.int p2), .val (.int p3), .val (.int p4), .val (.int (2 : Int32)), .val (.int (2 : Int32)), .val (.int y7), .val (.int y8), .val (.int xS0_1), .val (.int y10), .val (.int y11), .val (.int y12), .val (.int y13), .val (.int y14), .val (.ref b353), .unset, .unset, .unset, .unset, .unset] [(.ref b553), (.ref b540), (.ref b540)])) (fun _ k => st579 _ k) ?_
                have fz590 : Arv Z h579 b553 k553 .char (2 : Int32) [(.int y10), (.int y11)] (.int (0 : Int32)) := by have q := V579; rw [own_nc hC10, own_nc hC11] at q; exact q
                obtain ⟨_, _, ⟨T591, L591, k591, n591⟩, -, X591, ⟨Lc591, hQ591, l591, y591, z591⟩, st591⟩ := X579.specialBack hx (y := (⟨"java/lang/String", "<init>", "([C)V"⟩ : MethodName)) rfl hown (mvT hZ (hw _ (List.mem_of_getElem? (i := 5) rfl))) (mvT hZ (hw _ (List.mem_of_getElem? (i := 6) rfl))) (mvT hZ (hw _ (List.mem_of_getElem? (i := 7) rfl))) (by decide) (backOf (W := 1) (rmS1_2 l Z a0 hw [] b540 b553 k553 y10 y11 cs h579 n0 zs579 f586 ge540 f588 f587 fz590 f580 hh0 (own_Cn hC10) (own_Cn hC11)) hZ (hw _ (List.mem_of_getElem? (i := 7) rfl)) (hw _ (List.mem_of_getElem? (i := 3) rfl)) (by decide) (by decide)) (g := (mkF m 213 #[.val (.int p0), .val (.int p1), .val (.int p2), .val (.int p3), .val (.int p4), .val (.int (2 : Int32)), .val (.int (2 : Int32)), .val (.int y7), .val (.int y8), .val (.int xS0_1), .val (.int y10), .val (.int y11), .val (.int y12), .val (.int y13), .val (.int y14), .val (.ref b353), .unset, .unset, .unset, .unset, .unset] [(.ref b553), (.ref b540), (.ref b540)])) rfl (by rw [hml]; rfl) (Steps.refl _) (a := b540) (argsL := [(.ref b553)]) (rest := [(.ref b540)]) (lenOf own_pd8 rfl) rfl (by show 2 * 0 + _ ≤ _; exact Nat.le_of_eq rfl) (hb hby at_213) (fun _ _ => ⟨rfl, e579, (by decide : 5 + 1 ≤ _), (by decide : 14 + 2 ≤ _)⟩)
                dsimp only [Pt.U, Pt.locs, Pt.cells, Pt.slots] at X591 l591 y591 z591 st591 hQ591
                subst l591 y591 z591
                obtain ⟨xb_591, xk_591, rfl, N591q, K591, po592, po593, po594, po595⟩ := hQ591
                have f596 : Sta Z T591.heap "java/lang/String" "COMPACT_STRINGS" "Z" (.int cs) := (own_sta_keep f580 K591 (nsS f586.nostat ns0))
                have f597 : Exa Z T591.heap b353 "java/lang/String" := (f581.keep K591)
                have f598 : Arv Z T591.heap b358 k358 .char (2 : Int32) [(.int y7), (.int y8)] (.int (0 : Int32)) := (f582.keep K591 (ninS ne542 nin0))
                have f599 : Fld Z T591.heap b353 "java/lang/String" "value" "[B" (.ref xb_378) := (f583.keep K591 (ninS ne541 nin0))
                have f600 : Fld Z T591.heap b353 "java/lang/String" "coder" "B" (.int (0 : Int32)) := (f584.keep K591 (ninS ne541 nin0))
                have f601 : Arv Z T591.heap xb_378 xk_378 .byte (2 : Int32) [(.int (nar .byte (y7.toInt8.toInt32))), (.int (nar .byte (y8.toInt8.toInt32)))] (.int (0 : Int32)) := (f585.keep K591 (ninS ne543 nin0))
                have f602 : Exa Z T591.heap b540 "java/lang/String" := (f586.keep K591)
                have f603 : Arv Z T591.heap b553 k553 .char (2 : Int32) [(.int y10), (.int y11)] (.int (0 : Int32)) := (fz590.keep K591 (ninS (Ne.symm ne557) nin0))
                have ne604 : b353 ≠ xb_591 := Nat.ne_of_lt (Nat.lt_of_lt_of_le f581.lt po592)
                have ne605 : b358 ≠ xb_591 := Nat.ne_of_lt (Nat.lt_of_lt_of_le f582.lt po592)
                have ne606 : xb_378 ≠ xb_591 := Nat.ne_of_lt (Nat.lt_of_lt_of_le f585.lt po592)
                have ne607 : b540 ≠ xb_591 := Nat.ne_of_lt (Nat.lt_of_lt_of_le f586.lt po592)
                have ne608 : b553 ≠ xb_591 := Nat.ne_of_lt (Nat.lt_of_lt_of_le fz590.lt po592)
                have ge609 : n0 ≤ xb_591 := Nat.le_trans zs579 po592
                have zs591 : n0 ≤ T591.heap.size := Nat.le_trans zs579 K591.1
                have hk610 := Nat.le_trans hk589 (K591.1)
                have N591 := Fr.app N579 N591q
                refine own_goS (T' := T591) (g' := (mkF m 216 #[.val (.int p0), .val (.int p1), .val (.int p2), .val (.int p3), .val (.int p4), .val (.int (2 : Int32)), .val (.int (2 : Int32)), .val (.int y7), .val (.int y8), .val (.int xS0_1), .val (.int y10), .val (.int y11), .val (.int y12), .val (.int y13), .val (.int y14), .val (.ref b353), .unset, .unset, .unset, .unset, .unset] [(.ref b540)])) (fun _ k => st591.trans k) ?_
                refine own_goS (T' := T591) (g' := (mkF m 218 #[.val (.int p0), .val (.int p1), .val (.int p2), .val (.int p3), .val (.int p4), .val (.int (2 : Int32)), .val (.int (2 : Int32)), .val (.int y7), .val (.int y8), .val (.int xS0_1), .val (.int y10), .val (.int y11), .val (.int y12), .val (.int y13), .val (.int y14), .val (.ref b353), .val (.ref b540), .unset, .unset, .unset, .unset] [])) (fun _ k => XS.astore X591.here hx rfl (hb hby at_216) rfl rfl (l' := #[.val (.int p0), .val (.int p1), .val (.int p2), .val (.int p3), .val (.int p4), .val (.int (2 : Int32)), .val (.int (2 : Int32)), .val (.int y7), .val (.int y8), .val (.int xS0_1), .val (.int y10), .val (.int y11), .val (.int y12), .val (.int y13), .val (.int y14), .val (.ref b353), .val (.ref b540), .unset, .unset, .unset, .unset]) rfl k) ?_
                obtain ⟨T611, h611, X611, e611, E611, A611, D611, -, st611⟩ := newO X591 hx hZ hown (hw _ (List.mem_of_getElem? (i := 31) rfl)) (hw _ (List.mem_of_getElem? (i := 32) rfl)) (hw _ (List.mem_of_getElem? (i := 33) rfl)) rfl (g := (mkF m 218 #[.val (.int p0), .val (.int p1), .val (.int p2), .val (.int p3), .val (.int p4), .val (.int (2 : Int32)), .val (.int (2 : Int32)), .val (.int y7), .val (.int y8), .val (.int xS0_1), .val (.int y10), .val (.int y11), .val (.int y12), .val (.int y13), .val (.int y14), .val (.ref b353), .val (.ref b540), .unset, .unset, .unset, .unset] [])) rfl (hb hby at_218) (by decide) (by decide)
                obtain ⟨b611, g611⟩ : ∃ z, z = T591.heap.size := ⟨_, rfl⟩
                have ne612 : b353 ≠ b611 := Nat.ne_of_lt (Nat.lt_of_lt_of_le f597.lt (Nat.le_of_eq g611.symm))
                have ne613 : b358 ≠ b611 := Nat.ne_of_lt (Nat.lt_of_lt_of_le f598.lt (Nat.le_of_eq g611.symm))
                have ne614 : xb_378 ≠ b611 := Nat.ne_of_lt (Nat.lt_of_lt_of_le f601.lt (Nat.le_of_eq g611.symm))
                have ne615 : b540 ≠ b611 := Nat.ne_of_lt (Nat.lt_of_lt_of_le f602.lt (Nat.le_of_eq g611.symm))
                have ne616 : b553 ≠ b611 := Nat.ne_of_lt (Nat.lt_of_lt_of_le f603.lt (Nat.le_of_eq g611.symm))
                have ne617 : xb_591 ≠ b611 := Nat.ne_of_lt (Nat.lt_of_lt_of_le po595.lt (Nat.le_of_eq g611.symm))
                rw [← g611] at A611 D611 st611
                have f618 : Sta Z h611 "java/lang/String" "COMPACT_STRINGS" "Z" (.int cs) := (f596.ext E611)
                have f619 : Exa Z h611 b353 "java/lang/String" := (f597.ext E611)
                have f620 : Arv Z h611 b358 k358 .char (2 : Int32) [(.int y7), (.int y8)] (.int (0 : Int32)) := (f598.ext E611)
                have f621 : Fld Z h611 b353 "java/lang/String" "value" "[B" (.ref xb_378) := (f599.ext E611)
                have f622 : Fld Z h611 b353 "java/lang/String" "coder" "B" (.int (0 : Int32)) := (f600.ext E611)
                have f623 : Arv Z h611 xb_378 xk_378 .byte (2 : Int32) [(.int (nar .byte (y7.toInt8.toInt32))), (.int (nar .byte (y8.toInt8.toInt32)))] (.int (0 : Int32)) := (f601.ext E611)
                have f624 : Exa Z h611 b540 "java/lang/String" := (f602.ext E611)
                have f625 : Arv Z h611 b553 k553 .char (2 : Int32) [(.int y10), (.int y11)] (.int (0 : Int32)) := (f603.ext E611)
                have f626 : Fld Z h611 b540 "java/lang/String" "value" "[B" (.ref xb_591) := (po593.ext E611)
                have f627 : Fld Z h611 b540 "java/lang/String" "coder" "B" (.int (0 : Int32)) := (po594.ext E611)
                have f628 : Arv Z h611 xb_591 xk_591 .byte (2 : Int32) [(.int (nar .byte (y10.toInt8.toInt32))), (.int (nar .byte (y11.toInt8.toInt32)))] (.int (0 : Int32)) := (po595.ext E611)
                have fn629 : Fld Z h611 b611 "com/example/node_ring/nodering/pool/Server" "name" "Ljava/lang/String;" .null := D611 (Or.inr (hw _ (List.mem_of_getElem? (i := 51) rfl))) (ty := (.object "java/lang/String")) (by decide)
                have fn630 : Fld Z h611 b611 "com/example/node_ring/nodering/pool/Server" "weight" "I" (.int (0 : Int32)) := D611 (Or.inr (hw _ (List.mem_of_getElem? (i := 53) rfl))) (ty := .int) (by decide)
                have ge611 : n0 ≤ b611 := Nat.le_trans zs591 (Nat.le_of_eq g611.symm)
                have zs611 : n0 ≤ h611.size := Nat.le_trans zs591 E611.1
                have hk631 := Nat.le_trans hk610 (E611.1)
                refine own_goS (T' := T611) (g' := (mkF m 221 #[.val (.int p0), .val (.int p1), .val (.int p2), .val (.int p3), .val (.int p4), .val (.int (2 : Int32)), .val (.int (2 : Int32)), .val (.int y7), .val (.int y8), .val (.int xS0_1), .val (.int y10), .val (.int y11), .val (.int y12), .val (.int y13), .val (.int y14), .val (.ref b353), .val (.ref b540), .unset, .unset, .unset, .unset] [(.ref b611)])) (fun _ k => st611 _ k) ?_
                refine own_goS (T' := T611) (g' := (mkF m 222 #[.val (.int p0), .val (.int p1), .val (.int p2), .val (.int p3), .val (.int p4), .val (.int (2 : Int32)), .val (.int (2 : Int32)), .val (.int y7), .val (.int y8), .val (.int xS0_1), .val (.int y10), .val (.int y11), .val (.int y12), .val (.int y13), .val (.int y14), .val (.ref b353), .val (.ref b540), .unset, .unset, .unset, .unset] [(.ref b611), (.ref b611)])) (fun _ k => XS.dup X611.here hx rfl (hb hby at_221) rfl rfl k) ?_
                refine own_goS (T' := T611) (g' := (mkF m 224 #[.val (.int p0), .val (.int p1), .val (.int p2), .val (.int p3), .val (.int p4), .val (.int (2 : Int32)), .val (.int (2 : Int32)), .val (.int y7), .val (.int y8), .val (.int xS0_1), .val (.int y10), .val (.int y11), .val (.int y12), .val (.int y13), .val (.int y14), .val (.ref b353), .val (.ref b540), .unset, .unset, .unset, .unset] [(.ref b353), (.ref b611), (.ref b611)])) (fun _ k => XS.aload X611.here hx rfl (hb hby at_222) rfl rfl k) ?_
                refine own_goS (T' := T611) (g' := (mkF m 226 #[.val (.int p0), .val (.int p1), .val (.int p2), .val (.int p3), .val (.int p4), .val (.int (2 : Int32)), .val (.int (2 : Int32)), .val (.int y7), .val (.int y8), .val (.int xS0_1), .val (.int y10), .val (.int y11), .val (.int y12), .val (.int y13), .val (.int y14), .val (.ref b353), .val (.ref b540), .unset, .unset, .unset, .unset] [(.int y12), (.ref b353), (.ref b611), (.ref b611)])) (fun _ k => XS.iload X611.here hx rfl (hb hby at_224) rfl k) ?_
                obtain ⟨_, _, ⟨T632, L632, k632, n632⟩, -, XX632, hs2632, hg2632, ⟨Lc632, hQ632, l632, y632, z632⟩, st632⟩ := X611.specialBackS hx (y := (⟨"com/example/node_ring/nodering/pool/Server", "<init>", "(Ljava/lang/String;I)V"⟩ : MethodName)) rfl hown (mvT hZ (hw _ (List.mem_of_getElem? (i := 34) rfl))) (mvT hZ (hw _ (List.mem_of_getElem? (i := 35) rfl))) (mvT hZ (hw _ (List.mem_of_getElem? (i := 36) rfl))) (by decide) (backOfS (W := 1) (rmSrv2 l Z a0 hw [] b611 b353 y12 xb_378 xk_378 (nar .byte (y7.toInt8.toInt32)) (nar .byte (y8.toInt8.toInt32)) h611 n0 zs611 A611 ge611 fn629 fn630 f619 f621 f623 hW12) hZ (hw _ (List.mem_of_getElem? (i := 36) rfl)) (hw _ (List.mem_of_getElem? (i := 33) rfl)) (by decide) (by decide)) (g := (mkF m 226 #[.val (.int p0), .val (.int p1), .val (.int p2), .val (.int p3), .val (.int p4), .val (.int (2 : Int32)), .val (.int (2 : Int32)), .val (.int y7), .val (.int y8), .val (.int xS0_1), .val (.int y10), .val (.int y11), .val (.int y12), .val (.int y13), .val (.int y14), .val (.ref b353), .val (.ref b540), .unset, .unset, .unset, .unset] [(.int y12), (.ref b353), (.ref b611), (.ref b611)])) rfl (by rw [hml]; rfl) (Steps.refl _) (a := b611) (argsL := [(.ref b353), (.int y12)]) (rest := [(.ref b611)]) (lenOf own_pd9 rfl) rfl (by show 2 * 0 + _ ≤ _; exact Nat.le_of_eq rfl) (hb hby at_226) (fun _ _ => ⟨rfl, e611, (by decide : 7 + 2 ≤ _), (by decide : 18 + 20 ≤ _)⟩)
                dsimp only [Pt.U, Pt.locs, Pt.cells, Pt.slots] at XX632 hs2632 hg2632 l632 y632 z632 st632 hQ632
                subst l632 y632 z632
                obtain ⟨X632, hS632, hZ632, hown632⟩ := rebS hS0 (n1 := T611.heap.size) (by rw [e611]; exact hk631) XX632 hs2632 hg2632 hZ hown
                obtain ⟨rfl, N632q, K632, po633, po634, po635⟩ := hQ632
                have f636 : Sta Z T632.heap "java/lang/String" "COMPACT_STRINGS" "Z" (.int cs) := (own_sta_keep f618 K632 (nsS A611.nostat ns0))
                have f637 : Exa Z T632.heap b353 "java/lang/String" := (f619.keep K632)
                have f638 : Arv Z T632.heap b358 k358 .char (2 : Int32) [(.int y7), (.int y8)] (.int (0 : Int32)) := (f620.keep K632 (ninS ne613 nin0))
                have f639 : Fld Z T632.heap b353 "java/lang/String" "value" "[B" (.ref xb_378) := (f621.keep K632 (ninS ne612 nin0))
                have f640 : Fld Z T632.heap b353 "java/lang/String" "coder" "B" (.int (0 : Int32)) := (f622.keep K632 (ninS ne612 nin0))
                have f641 : Arv Z T632.heap xb_378 xk_378 .byte (2 : Int32) [(.int (nar .byte (y7.toInt8.toInt32))), (.int (nar .byte (y8.toInt8.toInt32)))] (.int (0 : Int32)) := (f623.keep K632 (ninS ne614 nin0))
                have f642 : Exa Z T632.heap b540 "java/lang/String" := (f624.keep K632)
                have f643 : Arv Z T632.heap b553 k553 .char (2 : Int32) [(.int y10), (.int y11)] (.int (0 : Int32)) := (f625.keep K632 (ninS ne616 nin0))
                have f644 : Fld Z T632.heap b540 "java/lang/String" "value" "[B" (.ref xb_591) := (f626.keep K632 (ninS ne615 nin0))
                have f645 : Fld Z T632.heap b540 "java/lang/String" "coder" "B" (.int (0 : Int32)) := (f627.keep K632 (ninS ne615 nin0))
                have f646 : Arv Z T632.heap xb_591 xk_591 .byte (2 : Int32) [(.int (nar .byte (y10.toInt8.toInt32))), (.int (nar .byte (y11.toInt8.toInt32)))] (.int (0 : Int32)) := (f628.keep K632 (ninS ne617 nin0))
                have f647 : Exa Z T632.heap b611 "com/example/node_ring/nodering/pool/Server" := (A611.keep K632)
                have zs632 : n0 ≤ T632.heap.size := Nat.le_trans zs611 K632.1
                have hk632 : T632.heap.size ≤ T632.heap.size := Nat.le_refl _
                have N632 := Fr.app N591 N632q
                refine own_goS (T' := T632) (g' := (mkF m 229 #[.val (.int p0), .val (.int p1), .val (.int p2), .val (.int p3), .val (.int p4), .val (.int (2 : Int32)), .val (.int (2 : Int32)), .val (.int y7), .val (.int y8), .val (.int xS0_1), .val (.int y10), .val (.int y11), .val (.int y12), .val (.int y13), .val (.int y14), .val (.ref b353), .val (.ref b540), .unset, .unset, .unset, .unset] [(.ref b611)])) (fun _ k => st632.trans k) ?_
                refine own_goS (T' := T632) (g' := (mkF m 231 #[.val (.int p0), .val (.int p1), .val (.int p2), .val (.int p3), .val (.int p4), .val (.int (2 : Int32)), .val (.int (2 : Int32)), .val (.int y7), .val (.int y8), .val (.int xS0_1), .val (.int y10), .val (.int y11), .val (.int y12), .val (.int y13), .val (.int y14), .val (.ref b353), .val (.ref b540), .val (.ref b611), .unset, .unset, .unset] [])) (fun _ k => XS.astore X632.here hx rfl (hb hby at_229) rfl rfl (l' := #[.val (.int p0), .val (.int p1), .val (.int p2), .val (.int p3), .val (.int p4), .val (.int (2 : Int32)), .val (.int (2 : Int32)), .val (.int y7), .val (.int y8), .val (.int xS0_1), .val (.int y10), .val (.int y11), .val (.int y12), .val (.int y13), .val (.int y14), .val (.ref b353), .val (.ref b540), .val (.ref b611), .unset, .unset, .unset]) rfl k) ?_
                obtain ⟨T648, h648, X648, e648, E648, A648, D648, -, st648⟩ := newO X632 hx hZ632 hown632 (hw _ (List.mem_of_getElem? (i := 31) rfl)) (hw _ (List.mem_of_getElem? (i := 32) rfl)) (hw _ (List.mem_of_getElem? (i := 33) rfl)) rfl (g := (mkF m 231 #[.val (.int p0), .val (.int p1), .val (.int p2), .val (.int p3), .val (.int p4), .val (.int (2 : Int32)), .val (.int (2 : Int32)), .val (.int y7), .val (.int y8), .val (.int xS0_1), .val (.int y10), .val (.int y11), .val (.int y12), .val (.int y13), .val (.int y14), .val (.ref b353), .val (.ref b540), .val (.ref b611), .unset, .unset, .unset] [])) rfl (hb hby at_231) (by decide) (by decide)
                obtain ⟨b648, g648⟩ : ∃ z, z = T632.heap.size := ⟨_, rfl⟩
                have ne649 : b353 ≠ b648 := Nat.ne_of_lt (Nat.lt_of_lt_of_le f637.lt (Nat.le_of_eq g648.symm))
                have ne650 : b358 ≠ b648 := Nat.ne_of_lt (Nat.lt_of_lt_of_le f638.lt (Nat.le_of_eq g648.symm))
                have ne651 : xb_378 ≠ b648 := Nat.ne_of_lt (Nat.lt_of_lt_of_le f641.lt (Nat.le_of_eq g648.symm))
                have ne652 : b540 ≠ b648 := Nat.ne_of_lt (Nat.lt_of_lt_of_le f642.lt (Nat.le_of_eq g648.symm))
                have ne653 : b553 ≠ b648 := Nat.ne_of_lt (Nat.lt_of_lt_of_le f643.lt (Nat.le_of_eq g648.symm))
                have ne654 : xb_591 ≠ b648 := Nat.ne_of_lt (Nat.lt_of_lt_of_le f646.lt (Nat.le_of_eq g648.symm))
                have ne655 : b611 ≠ b648 := Nat.ne_of_lt (Nat.lt_of_lt_of_le po635.lt (Nat.le_of_eq g648.symm))
                rw [← g648] at A648 D648 st648
                have f656 : Sta Z h648 "java/lang/String" "COMPACT_STRINGS" "Z" (.int cs) := (f636.ext E648)
                have f657 : Exa Z h648 b353 "java/lang/String" := (f637.ext E648)
                have f658 : Arv Z h648 b358 k358 .char (2 : Int32) [(.int y7), (.int y8)] (.int (0 : Int32)) := (f638.ext E648)
                have f659 : Fld Z h648 b353 "java/lang/String" "value" "[B" (.ref xb_378) := (f639.ext E648)
                have f660 : Fld Z h648 b353 "java/lang/String" "coder" "B" (.int (0 : Int32)) := (f640.ext E648)
                have f661 : Arv Z h648 xb_378 xk_378 .byte (2 : Int32) [(.int (nar .byte (y7.toInt8.toInt32))), (.int (nar .byte (y8.toInt8.toInt32)))] (.int (0 : Int32)) := (f641.ext E648)
                have f662 : Exa Z h648 b540 "java/lang/String" := (f642.ext E648)
                have f663 : Arv Z h648 b553 k553 .char (2 : Int32) [(.int y10), (.int y11)] (.int (0 : Int32)) := (f643.ext E648)
                have f664 : Fld Z h648 b540 "java/lang/String" "value" "[B" (.ref xb_591) := (f644.ext E648)
                have f665 : Fld Z h648 b540 "java/lang/String" "coder" "B" (.int (0 : Int32)) := (f645.ext E648)
                have f666 : Arv Z h648 xb_591 xk_591 .byte (2 : Int32) [(.int (nar .byte (y10.toInt8.toInt32))), (.int (nar .byte (y11.toInt8.toInt32)))] (.int (0 : Int32)) := (f646.ext E648)
                have f667 : Exa Z h648 b611 "com/example/node_ring/nodering/pool/Server" := (po635.ext E648)
                have f668 : Fld Z h648 b611 "com/example/node_ring/nodering/pool/Server" "name" "Ljava/lang/String;" (.ref b353) := (po633.ext E648)
                have f669 : Fld Z h648 b611 "com/example/node_ring/nodering/pool/Server" "weight" "I" (.int y12) := (po634.ext E648)
                have fn670 : Fld Z h648 b648 "com/example/node_ring/nodering/pool/Server" "name" "Ljava/lang/String;" .null := D648 (Or.inr (hw _ (List.mem_of_getElem? (i := 51) rfl))) (ty := (.object "java/lang/String")) (by decide)
                have fn671 : Fld Z h648 b648 "com/example/node_ring/nodering/pool/Server" "weight" "I" (.int (0 : Int32)) := D648 (Or.inr (hw _ (List.mem_of_getElem? (i := 53) rfl))) (ty := .int) (by decide)
                have ge648 : n0 ≤ b648 := Nat.le_trans zs632 (Nat.le_of_eq g648.symm)
                have zs648 : n0 ≤ h648.size := Nat.le_trans zs632 E648.1
                have hk672 := Nat.le_trans hk632 (E648.1)
                refine own_goS (T' := T648) (g' := (mkF m 234 #[.val (.int p0), .val (.int p1), .val (.int p2), .val (.int p3), .val (.int p4), .val (.int (2 : Int32)), .val (.int (2 : Int32)), .val (.int y7), .val (.int y8), .val (.int xS0_1), .val (.int y10), .val (.int y11), .val (.int y12), .val (.int y13), .val (.int y14), .val (.ref b353), .val (.ref b540), .val (.ref b611), .unset, .unset, .unset] [(.ref b648)])) (fun _ k => st648 _ k) ?_
                refine own_goS (T' := T648) (g' := (mkF m 235 #[.val (.int p0), .val (.int p1), .val (.int p2), .val (.int p3), .val (.int p4), .val (.int (2 : Int32)), .val (.int (2 : Int32)), .val (.int y7), .val (.int y8), .val (.int xS0_1), .val (.int y10), .val (.int y11), .val (.int y12), .val (.int y13), .val (.int y14), .val (.ref b353), .val (.ref b540), .val (.ref b611), .unset, .unset, .unset] [(.ref b648), (.ref b648)])) (fun _ k => XS.dup X648.here hx rfl (hb hby at_234) rfl rfl k) ?_
                refine own_goS (T' := T648) (g' := (mkF m 237 #[.val (.int p0), .val (.int p1), .val (.int p2), .val (.int p3), .val (.int p4), .val (.int (2 : Int32)), .val (.int (2 : Int32)), .val (.int y7), .val (.int y8), .val (.int xS0_1), .val (.int y10), .val (.int y11), .val (.int y12), .val (.int y13), .val (.int y14), .val (.ref b353), .val (.ref b540), .val (.ref b611), .unset, .unset, .unset] [(.ref b540), (.ref b648), (.ref b648)])) (fun _ k => XS.aload X648.here hx rfl (hb hby at_235) rfl rfl k) ?_
                refine own_goS (T' := T648) (g' := (mkF m 239 #[.val (.int p0), .val (.int p1), .val (.int p2), .val (.int p3), .val (.int p4), .val (.int (2 : Int32)), .val (.int (2 : Int32)), .val (.int y7), .val (.int y8), .val (.int xS0_1), .val (.int y10), .val (.int y11), .val (.int y12), .val (.int y13), .val (.int y14), .val (.ref b353), .val (.ref b540), .val (.ref b611), .unset, .unset, .unset] [(.int y13), (.ref b540), (.ref b648), (.ref b648)])) (fun _ k => XS.iload X648.here hx rfl (hb hby at_237) rfl k) ?_
                obtain ⟨_, _, ⟨T673, L673, k673, n673⟩, -, XX673, hs2673, hg2673, ⟨Lc673, hQ673, l673, y673, z673⟩, st673⟩ := X648.specialBackS hx (y := (⟨"com/example/node_ring/nodering/pool/Server", "<init>", "(Ljava/lang/String;I)V"⟩ : MethodName)) rfl hown632 (mvT hZ632 (hw _ (List.mem_of_getElem? (i := 34) rfl))) (mvT hZ632 (hw _ (List.mem_of_getElem? (i := 35) rfl))) (mvT hZ632 (hw _ (List.mem_of_getElem? (i := 36) rfl))) (by decide) (backOfS (W := 1) (rmSrv2 l Z a0 hw [] b648 b540 y13 xb_591 xk_591 (nar .byte (y10.toInt8.toInt32)) (nar .byte (y11.toInt8.toInt32)) h648 n0 zs648 A648 ge648 fn670 fn671 f662 f664 f666 hW13) hZ632 (hw _ (List.mem_of_getElem? (i := 36) rfl)) (hw _ (List.mem_of_getElem? (i := 33) rfl)) (by decide) (by decide)) (g := (mkF m 239 #[.val (.int p0), .val (.int p1), .val (.int p2), .val (.int p3), .val (.int p4), .val (.int (2 : Int32)), .val (.int (2 : Int32)), .val (.int y7), .val (.int y8), .val (.int xS0_1), .val (.int y10), .val (.int y11), .val (.int y12), .val (.int y13), .val (.int y14), .val (.ref b353), .val (.ref b540), .val (.ref b611), .unset, .unset, .unset] [(.int y13), (.ref b540), (.ref b648), (.ref b648)])) rfl (by rw [hml]; rfl) (Steps.refl _) (a := b648) (argsL := [(.ref b540), (.int y13)]) (rest := [(.ref b648)]) (lenOf own_pd9 rfl) rfl (by show 2 * 0 + _ ≤ _; exact Nat.le_of_eq rfl) (hb hby at_239) (fun _ _ => ⟨rfl, e648, (by decide : 10 + 2 ≤ _), (by decide : 40 + 20 ≤ _)⟩)
                dsimp only [Pt.U, Pt.locs, Pt.cells, Pt.slots] at XX673 hs2673 hg2673 l673 y673 z673 st673 hQ673
                subst l673 y673 z673
                obtain ⟨X673, hS673, hZ673, hown673⟩ := rebS hS632 (n1 := T648.heap.size) (by rw [e648]; exact hk672) XX673 hs2673 hg2673 hZ632 hown632
                obtain ⟨rfl, N673q, K673, po674, po675, po676⟩ := hQ673
                have f677 : Sta Z T673.heap "java/lang/String" "COMPACT_STRINGS" "Z" (.int cs) := (own_sta_keep f656 K673 (nsS A648.nostat ns0))
                have f678 : Exa Z T673.heap b353 "java/lang/String" := (f657.keep K673)
                have f679 : Arv Z T673.heap b358 k358 .char (2 : Int32) [(.int y7), (.int y8)] (.int (0 : Int32)) := (f658.keep K673 (ninS ne650 nin0))
                have f680 : Fld Z T673.heap b353 "java/lang/String" "value" "[B" (.ref xb_378) := (f659.keep K673 (ninS ne649 nin0))
                have f681 : Fld Z T673.heap b353 "java/lang/String" "coder" "B" (.int (0 : Int32)) := (f660.keep K673 (ninS ne649 nin0))
                have f682 : Arv Z T673.heap xb_378 xk_378 .byte (2 : Int32) [(.int (nar .byte (y7.toInt8.toInt32))), (.int (nar .byte (y8.toInt8.toInt32)))] (.int (0 : Int32)) := (f661.keep K673 (ninS ne651 nin0))
                have f683 : Exa Z T673.heap b540 "java/lang/String" := (f662.keep K673)
                have f684 : Arv Z T673.heap b553 k553 .char (2 : Int32) [(.int y10), (.int y11)] (.int (0 : Int32)) := (f663.keep K673 (ninS ne653 nin0))
                have f685 : Fld Z T673.heap b540 "java/lang/String" "value" "[B" (.ref xb_591) := (f664.keep K673 (ninS ne652 nin0))
                have f686 : Fld Z T673.heap b540 "java/lang/String" "coder" "B" (.int (0 : Int32)) := (f665.keep K673 (ninS ne652 nin0))
                have f687 : Arv Z T673.heap xb_591 xk_591 .byte (2 : Int32) [(.int (nar .byte (y10.toInt8.toInt32))), (.int (nar .byte (y11.toInt8.toInt32)))] (.int (0 : Int32)) := (f666.keep K673 (ninS ne654 nin0))
                have f688 : Exa Z T673.heap b611 "com/example/node_ring/nodering/pool/Server" := (f667.keep K673)
                have f689 : Fld Z T673.heap b611 "com/example/node_ring/nodering/pool/Server" "name" "Ljava/lang/String;" (.ref b353) := (f668.keep K673 (ninS ne655 nin0))
                have f690 : Fld Z T673.heap b611 "com/example/node_ring/nodering/pool/Server" "weight" "I" (.int y12) := (f669.keep K673 (ninS ne655 nin0))
                have f691 : Exa Z T673.heap b648 "com/example/node_ring/nodering/pool/Server" := (A648.keep K673)
                have zs673 : n0 ≤ T673.heap.size := Nat.le_trans zs648 K673.1
                have hk673 : T673.heap.size ≤ T673.heap.size := Nat.le_refl _
                have N673 := Fr.app N632 N673q
                refine own_goS (T' := T673) (g' := (mkF m 242 #[.val (.int p0), .val (.int p1), .val (.int p2), .val (.int p3), .val (.int p4), .val (.int (2 : Int32)), .val (.int (2 : Int32)), .val (.int y7), .val (.int y8), .val (.int xS0_1), .val (.int y10), .val (.int y11), .val (.int y12), .val (.int y13), .val (.int y14), .val (.ref b353), .val (.ref b540), .val (.ref b611), .unset, .unset, .unset] [(.ref b648)])) (fun _ k => st673.trans k) ?_
                refine own_goS (T' := T673) (g' := (mkF m 244 #[.val (.int p0), .val (.int p1), .val (.int p2), .val (.int p3), .val (.int p4), .val (.int (2 : Int32)), .val (.int (2 : Int32)), .val (.int y7), .val (.int y8), .val (.int xS0_1), .val (.int y10), .val (.int y11), .val (.int y12), .val (.int y13), .val (.int y14), .val (.ref b353), .val (.ref b540), .val (.ref b611), .val (.ref b648), .unset, .unset] [])) (fun _ k => XS.astore X673.here hx rfl (hb hby at_242) rfl rfl (l' := #[.val (.int p0), .val (.int p1), .val (.int p2), .val (.int p3), .val (.int p4), .val (.int (2 : Int32)), .val (.int (2 : Int32)), .val (.int y7), .val (.int y8), .val (.int xS0_1), .val (.int y10), .val (.int y11), .val (.int y12), .val (.int y13), .val (.int y14), .val (.ref b353), .val (.ref b540), .val (.ref b611), .val (.ref b648), .unset, .unset]) rfl k) ?_
                refine own_goS (T' := T673) (g' := (mkF m 246 #[.val (.int p0), .val (.int p1), .val (.int p2), .val (.int p3), .val (.int p4), .val (.int (2 : Int32)), .val (.int (2 : Int32)), .val (.int y7), .val (.int y8), .val (.int xS0_1), .val (.int y10), .val (.int y11), .val (.int y12), .val (.int y13), .val (.int y14), .val (.ref b353), .val (.ref b540), .val (.ref b611), .val (.ref b648), .unset, .unset] [(.int y14)])) (fun _ k => XS.iload X673.here hx rfl (hb hby at_244) rfl k) ?_
                refine own_goS (T' := T673) (g' := (mkF m 247 #[.val (.int p0), .val (.int p1), .val (.int p2), .val (.int p3), .val (.int p4), .val (.int (2 : Int32)), .val (.int (2 : Int32)), .val (.int y7), .val (.int y8), .val (.int xS0_1), .val (.int y10), .val (.int y11), .val (.int y12), .val (.int y13), .val (.int y14), .val (.ref b353), .val (.ref b540), .val (.ref b611), .val (.ref b648), .unset, .unset] [(.int (1 : Int32)), (.int y14)])) (fun _ k => XS.iconst X673.here hx rfl (hb hby at_246) k) ?_
                by_cases hc247_692 : y14 = (1 : Int32)
                · skip
                  refine own_goS (T' := T673) (g' := (mkF m 250 #[.val (.int p0), .val (.int p1), .val (.int p2), .val (.int p3), .val (.int p4), .val (.int (2 : Int32)), .val (.int (2 : Int32)), .val (.int y7), .val (.int y8), .val (.int xS0_1), .val (.int y10), .val (.int y11), .val (.int y12), .val (.int y13), .val (.int y14), .val (.ref b353), .val (.ref b540), .val (.ref b611), .val (.ref b648), .unset, .unset] [])) (fun _ k => XS.icmpNo X673.here hx rfl (hb hby at_247) rfl (XT.ii_ne_f hc247_692) k) ?_
                  refine own_goS (T' := T673) (g' := (mkF m 252 #[.val (.int p0), .val (.int p1), .val (.int p2), .val (.int p3), .val (.int p4), .val (.int (2 : Int32)), .val (.int (2 : Int32)), .val (.int y7), .val (.int y8), .val (.int xS0_1), .val (.int y10), .val (.int y11), .val (.int y12), .val (.int y13), .val (.int y14), .val (.ref b353), .val (.ref b540), .val (.ref b611), .val (.ref b648), .unset, .unset] [(.ref b611)])) (fun _ k => XS.aload X673.here hx rfl (hb hby at_250) rfl rfl k) ?_
                  refine own_goS (T' := T673) (g' := (mkF m 253 #[.val (.int p0), .val (.int p1), .val (.int p2), .val (.int p3), .val (.int p4), .val (.int (2 : Int32)), .val (.int (2 : Int32)), .val (.int y7), .val (.int y8), .val (.int xS0_1), .val (.int y10), .val (.int y11), .val (.int y12), .val (.int y13), .val (.int y14), .val (.ref b353), .val (.ref b540), .val (.ref b611), .val (.ref b648), .unset, .unset] [.null, (.ref b611)])) (fun _ k => XS.aconstNull X673.here hx rfl (hb hby at_252) k) ?_
                  obtain ⟨cq693, kq693, q693a, q693b, q693c⟩ := isOf hZ673 rfl f688
                  obtain ⟨_, _, ⟨T693, L693, k693, n693⟩, -, X693, ⟨Lc693, hQ693, l693, y693, z693⟩, st693⟩ := X673.virtualBack hx (y := (⟨"com/example/node_ring/nodering/pool/Server", "equals", "(Ljava/lang/Object;)Z"⟩ : MethodName)) (z := (⟨"com/example/node_ring/nodering/pool/Server", "equals", "(Ljava/lang/Object;)Z"⟩ : MethodName)) hown673 (mvT hZ673 (hw _ (List.mem_of_getElem? (i := 54) rfl))) (mvT hZ673 (hw _ (List.mem_of_getElem? (i := 55) rfl))) (notFace_of_selects (args := #[]) (mvT hZ673 (hw _ (List.mem_of_getElem? (i := 57) rfl)))) (mvT hZ673 (hw _ (List.mem_of_getElem? (i := 57) rfl))) (mvT hZ673 (hw _ (List.mem_of_getElem? (i := 56) rfl))) (by decide) (backOf (W := 0) (rmEN l Z a0 hw [] b611 T673.heap n0 zs673 ) hZ673 (hw _ (List.mem_of_getElem? (i := 58) rfl)) (hw _ (List.mem_of_getElem? (i := 33) rfl)) (by decide) (by decide)) q693a q693c (g := (mkF m 253 #[.val (.int p0), .val (.int p1), .val (.int p2), .val (.int p3), .val (.int p4), .val (.int (2 : Int32)), .val (.int (2 : Int32)), .val (.int y7), .val (.int y8), .val (.int xS0_1), .val (.int y10), .val (.int y11), .val (.int y12), .val (.int y13), .val (.int y14), .val (.ref b353), .val (.ref b540), .val (.ref b611), .val (.ref b648), .unset, .unset] [.null, (.ref b611)])) rfl (by rw [hml]; rfl) (Steps.refl _) (argsL := [.null]) (rest := []) (lenOf own_pd7 rfl) rfl (by show 2 * 0 + _ ≤ _; exact Nat.le_of_eq rfl) (hb hby at_253) (fun _ _ => ⟨rfl, rfl, (by decide : 12 + 0 ≤ _), (by decide : 60 + 0 ≤ _)⟩)
                  dsimp only [Pt.U, Pt.locs, Pt.cells, Pt.slots] at X693 l693 y693 z693 st693 hQ693
                  subst l693 y693 z693
                  obtain ⟨rfl, N693q, e693⟩ := hQ693
                  have N693 := Fr.app N673 N693q
                  refine own_goS (T' := T693) (g' := (mkF m 256 #[.val (.int p0), .val (.int p1), .val (.int p2), .val (.int p3), .val (.int p4), .val (.int (2 : Int32)), .val (.int (2 : Int32)), .val (.int y7), .val (.int y8), .val (.int xS0_1), .val (.int y10), .val (.int y11), .val (.int y12), .val (.int y13), .val (.int y14), .val (.ref b353), .val (.ref b540), .val (.ref b611), .val (.ref b648), .unset, .unset] [(.int (own_sN b611))])) (fun _ k => st693.trans k) ?_
                  refine own_goS (T' := T693) (g' := (mkF m 259 #[.val (.int p0), .val (.int p1), .val (.int p2), .val (.int p3), .val (.int p4), .val (.int (2 : Int32)), .val (.int (2 : Int32)), .val (.int y7), .val (.int y8), .val (.int xS0_1), .val (.int y10), .val (.int y11), .val (.int y12), .val (.int y13), .val (.int y14), .val (.ref b353), .val (.ref b540), .val (.ref b611), .val (.ref b648), .unset, .unset] [])) (fun _ k => XS.ifNo X693.here hx rfl (hb hby at_256) rfl (XT.i0_ne_f (by rfl)) k) ?_
                  refine own_goS (T' := T693) (g' := (mkF m 260 #[.val (.int p0), .val (.int p1), .val (.int p2), .val (.int p3), .val (.int p4), .val (.int (2 : Int32)), .val (.int (2 : Int32)), .val (.int y7), .val (.int y8), .val (.int xS0_1), .val (.int y10), .val (.int y11), .val (.int y12), .val (.int y13), .val (.int y14), .val (.ref b353), .val (.ref b540), .val (.ref b611), .val (.ref b648), .unset, .unset] [(.int (1 : Int32))])) (fun _ k => XS.iconst X693.here hx rfl (hb hby at_259) k) ?_
                  refine own_goS (T' := T693) (g' := (mkF m 264 #[.val (.int p0), .val (.int p1), .val (.int p2), .val (.int p3), .val (.int p4), .val (.int (2 : Int32)), .val (.int (2 : Int32)), .val (.int y7), .val (.int y8), .val (.int xS0_1), .val (.int y10), .val (.int y11), .val (.int y12), .val (.int y13), .val (.int y14), .val (.ref b353), .val (.ref b540), .val (.ref b611), .val (.ref b648), .unset, .unset] [(.int (1 : Int32))])) (fun _ k => XS.goto X693.here hx rfl (pc0 := 260) (pc' := 264) rfl (hb hby at_260) (by decide) (by decide) k) ?_
                  exact own_retNS X693 hS673 hx (t := .boolean) Bd.returns hlk (by simp) (hb hby at_264) e693 hk673 ⟨rfl, N693⟩ (by decide) (by decide)
                · skip
                  refine own_goS (T' := T673) (g' := (mkF m 265 #[.val (.int p0), .val (.int p1), .val (.int p2), .val (.int p3), .val (.int p4), .val (.int (2 : Int32)), .val (.int (2 : Int32)), .val (.int y7), .val (.int y8), .val (.int xS0_1), .val (.int y10), .val (.int y11), .val (.int y12), .val (.int y13), .val (.int y14), .val (.ref b353), .val (.ref b540), .val (.ref b611), .val (.ref b648), .unset, .unset] [])) (fun _ k => XS.icmpYes X673.here hx rfl (pc0 := 247) (pc' := 265) rfl (hb hby at_247) rfl (XT.ii_ne_t hc247_692) (by decide) (by decide) k) ?_
                  refine own_goS (T' := T673) (g' := (mkF m 267 #[.val (.int p0), .val (.int p1), .val (.int p2), .val (.int p3), .val (.int p4), .val (.int (2 : Int32)), .val (.int (2 : Int32)), .val (.int y7), .val (.int y8), .val (.int xS0_1), .val (.int y10), .val (.int y11), .val (.int y12), .val (.int y13), .val (.int y14), .val (.ref b353), .val (.ref b540), .val (.ref b611), .val (.ref b648), .unset, .unset] [(.int y14)])) (fun _ k => XS.iload X673.here hx rfl (hb hby at_265) rfl k) ?_
                  refine own_goS (T' := T673) (g' := (mkF m 268 #[.val (.int p0), .val (.int p1), .val (.int p2), .val (.int p3), .val (.int p4), .val (.int (2 : Int32)), .val (.int (2 : Int32)), .val (.int y7), .val (.int y8), .val (.int xS0_1), .val (.int y10), .val (.int y11), .val (.int y12), .val (.int y13), .val (.int y14), .val (.ref b353), .val (.ref b540), .val (.ref b611), .val (.ref b648), .unset, .unset] [(.int (2 : Int32)), (.int y14)])) (fun _ k => XS.iconst X673.here hx rfl (hb hby at_267) k) ?_
                  by_cases hc268_694 : y14 = (2 : Int32)
                  · skip
                    refine own_goS (T' := T673) (g' := (mkF m 271 #[.val (.int p0), .val (.int p1), .val (.int p2), .val (.int p3), .val (.int p4), .val (.int (2 : Int32)), .val (.int (2 : Int32)), .val (.int y7), .val (.int y8), .val (.int xS0_1), .val (.int y10), .val (.int y11), .val (.int y12), .val (.int y13), .val (.int y14), .val (.ref b353), .val (.ref b540), .val (.ref b611), .val (.ref b648), .unset, .unset] [])) (fun _ k => XS.icmpNo X673.here hx rfl (hb hby at_268) rfl (XT.ii_ne_f hc268_694) k) ?_
                    refine own_goS (T' := T673) (g' := (mkF m 273 #[.val (.int p0), .val (.int p1), .val (.int p2), .val (.int p3), .val (.int p4), .val (.int (2 : Int32)), .val (.int (2 : Int32)), .val (.int y7), .val (.int y8), .val (.int xS0_1), .val (.int y10), .val (.int y11), .val (.int y12), .val (.int y13), .val (.int y14), .val (.ref b353), .val (.ref b540), .val (.ref b611), .val (.ref b648), .unset, .unset] [(.ref b611)])) (fun _ k => XS.aload X673.here hx rfl (hb hby at_271) rfl rfl k) ?_
                    refine own_goS (T' := T673) (g' := (mkF m 275 #[.val (.int p0), .val (.int p1), .val (.int p2), .val (.int p3), .val (.int p4), .val (.int (2 : Int32)), .val (.int (2 : Int32)), .val (.int y7), .val (.int y8), .val (.int xS0_1), .val (.int y10), .val (.int y11), .val (.int y12), .val (.int y13), .val (.int y14), .val (.ref b353), .val (.ref b540), .val (.ref b611), .val (.ref b648), .unset, .unset] [(.ref b353), (.ref b611)])) (fun _ k => XS.aload X673.here hx rfl (hb hby at_273) rfl rfl k) ?_
                    obtain ⟨cq695, kq695, q695a, q695b, q695c⟩ := isOf hZ673 rfl f688
                    obtain ⟨_, _, ⟨T695, L695, k695, n695⟩, -, X695, ⟨Lc695, hQ695, l695, y695, z695⟩, st695⟩ := X673.virtualBack hx (y := (⟨"com/example/node_ring/nodering/pool/Server", "equals", "(Ljava/lang/Object;)Z"⟩ : MethodName)) (z := (⟨"com/example/node_ring/nodering/pool/Server", "equals", "(Ljava/lang/Object;)Z"⟩ : MethodName)) hown673 (mvT hZ673 (hw _ (List.mem_of_getElem? (i := 54) rfl))) (mvT hZ673 (hw _ (List.mem_of_getElem? (i := 55) rfl))) (notFace_of_selects (args := #[]) (mvT hZ673 (hw _ (List.mem_of_getElem? (i := 57) rfl)))) (mvT hZ673 (hw _ (List.mem_of_getElem? (i := 57) rfl))) (mvT hZ673 (hw _ (List.mem_of_getElem? (i := 56) rfl))) (by decide) (backOf (W := 0) (rmET l Z a0 hw [] b611 b353 T673.heap n0 zs673 f678) hZ673 (hw _ (List.mem_of_getElem? (i := 58) rfl)) (hw _ (List.mem_of_getElem? (i := 33) rfl)) (by decide) (by decide)) q695a q695c (g := (mkF m 275 #[.val (.int p0), .val (.int p1), .val (.int p2), .val (.int p3), .val (.int p4), .val (.int (2 : Int32)), .val (.int (2 : Int32)), .val (.int y7), .val (.int y8), .val (.int xS0_1), .val (.int y10), .val (.int y11), .val (.int y12), .val (.int y13), .val (.int y14), .val (.ref b353), .val (.ref b540), .val (.ref b611), .val (.ref b648), .unset, .unset] [(.ref b353), (.ref b611)])) rfl (by rw [hml]; rfl) (Steps.refl _) (argsL := [(.ref b353)]) (rest := []) (lenOf own_pd7 rfl) rfl (by show 2 * 0 + _ ≤ _; exact Nat.le_of_eq rfl) (hb hby at_275) (fun _ _ => ⟨rfl, rfl, (by decide : 12 + 0 ≤ _), (by decide : 60 + 0 ≤ _)⟩)
                    dsimp only [Pt.U, Pt.locs, Pt.cells, Pt.slots] at X695 l695 y695 z695 st695 hQ695
                    subst l695 y695 z695
                    obtain ⟨rfl, N695q, e695⟩ := hQ695
                    have N695 := Fr.app N673 N695q
                    refine own_goS (T' := T695) (g' := (mkF m 278 #[.val (.int p0), .val (.int p1), .val (.int p2), .val (.int p3), .val (.int p4), .val (.int (2 : Int32)), .val (.int (2 : Int32)), .val (.int y7), .val (.int y8), .val (.int xS0_1), .val (.int y10), .val (.int y11), .val (.int y12), .val (.int y13), .val (.int y14), .val (.ref b353), .val (.ref b540), .val (.ref b611), .val (.ref b648), .unset, .unset] [(.int (own_sT b611 b353))])) (fun _ k => st695.trans k) ?_
                    refine own_goS (T' := T695) (g' := (mkF m 281 #[.val (.int p0), .val (.int p1), .val (.int p2), .val (.int p3), .val (.int p4), .val (.int (2 : Int32)), .val (.int (2 : Int32)), .val (.int y7), .val (.int y8), .val (.int xS0_1), .val (.int y10), .val (.int y11), .val (.int y12), .val (.int y13), .val (.int y14), .val (.ref b353), .val (.ref b540), .val (.ref b611), .val (.ref b648), .unset, .unset] [])) (fun _ k => XS.ifNo X695.here hx rfl (hb hby at_278) rfl (XT.i0_ne_f (by rfl)) k) ?_
                    refine own_goS (T' := T695) (g' := (mkF m 282 #[.val (.int p0), .val (.int p1), .val (.int p2), .val (.int p3), .val (.int p4), .val (.int (2 : Int32)), .val (.int (2 : Int32)), .val (.int y7), .val (.int y8), .val (.int xS0_1), .val (.int y10), .val (.int y11), .val (.int y12), .val (.int y13), .val (.int y14), .val (.ref b353), .val (.ref b540), .val (.ref b611), .val (.ref b648), .unset, .unset] [(.int (1 : Int32))])) (fun _ k => XS.iconst X695.here hx rfl (hb hby at_281) k) ?_
                    refine own_goS (T' := T695) (g' := (mkF m 286 #[.val (.int p0), .val (.int p1), .val (.int p2), .val (.int p3), .val (.int p4), .val (.int (2 : Int32)), .val (.int (2 : Int32)), .val (.int y7), .val (.int y8), .val (.int xS0_1), .val (.int y10), .val (.int y11), .val (.int y12), .val (.int y13), .val (.int y14), .val (.ref b353), .val (.ref b540), .val (.ref b611), .val (.ref b648), .unset, .unset] [(.int (1 : Int32))])) (fun _ k => XS.goto X695.here hx rfl (pc0 := 282) (pc' := 286) rfl (hb hby at_282) (by decide) (by decide) k) ?_
                    exact own_retNS X695 hS673 hx (t := .boolean) Bd.returns hlk (by simp) (hb hby at_286) e695 hk673 ⟨rfl, N695⟩ (by decide) (by decide)
                  · skip
                    refine own_goS (T' := T673) (g' := (mkF m 287 #[.val (.int p0), .val (.int p1), .val (.int p2), .val (.int p3), .val (.int p4), .val (.int (2 : Int32)), .val (.int (2 : Int32)), .val (.int y7), .val (.int y8), .val (.int xS0_1), .val (.int y10), .val (.int y11), .val (.int y12), .val (.int y13), .val (.int y14), .val (.ref b353), .val (.ref b540), .val (.ref b611), .val (.ref b648), .unset, .unset] [])) (fun _ k => XS.icmpYes X673.here hx rfl (pc0 := 268) (pc' := 287) rfl (hb hby at_268) rfl (XT.ii_ne_t hc268_694) (by decide) (by decide) k) ?_
                    refine own_goS (T' := T673) (g' := (mkF m 289 #[.val (.int p0), .val (.int p1), .val (.int p2), .val (.int p3), .val (.int p4), .val (.int (2 : Int32)), .val (.int (2 : Int32)), .val (.int y7), .val (.int y8), .val (.int xS0_1), .val (.int y10), .val (.int y11), .val (.int y12), .val (.int y13), .val (.int y14), .val (.ref b353), .val (.ref b540), .val (.ref b611), .val (.ref b648), .unset, .unset] [(.int y14)])) (fun _ k => XS.iload X673.here hx rfl (hb hby at_287) rfl k) ?_
                    refine own_goS (T' := T673) (g' := (mkF m 290 #[.val (.int p0), .val (.int p1), .val (.int p2), .val (.int p3), .val (.int p4), .val (.int (2 : Int32)), .val (.int (2 : Int32)), .val (.int y7), .val (.int y8), .val (.int xS0_1), .val (.int y10), .val (.int y11), .val (.int y12), .val (.int y13), .val (.int y14), .val (.ref b353), .val (.ref b540), .val (.ref b611), .val (.ref b648), .unset, .unset] [(.int (3 : Int32)), (.int y14)])) (fun _ k => XS.iconst X673.here hx rfl (hb hby at_289) k) ?_
                    by_cases hc290_696 : y14 = (3 : Int32)
                    · skip
                      refine own_goS (T' := T673) (g' := (mkF m 293 #[.val (.int p0), .val (.int p1), .val (.int p2), .val (.int p3), .val (.int p4), .val (.int (2 : Int32)), .val (.int (2 : Int32)), .val (.int y7), .val (.int y8), .val (.int xS0_1), .val (.int y10), .val (.int y11), .val (.int y12), .val (.int y13), .val (.int y14), .val (.ref b353), .val (.ref b540), .val (.ref b611), .val (.ref b648), .unset, .unset] [])) (fun _ k => XS.icmpNo X673.here hx rfl (hb hby at_290) rfl (XT.ii_ne_f hc290_696) k) ?_
                      refine own_goS (T' := T673) (g' := (mkF m 295 #[.val (.int p0), .val (.int p1), .val (.int p2), .val (.int p3), .val (.int p4), .val (.int (2 : Int32)), .val (.int (2 : Int32)), .val (.int y7), .val (.int y8), .val (.int xS0_1), .val (.int y10), .val (.int y11), .val (.int y12), .val (.int y13), .val (.int y14), .val (.ref b353), .val (.ref b540), .val (.ref b611), .val (.ref b648), .unset, .unset] [(.ref b611)])) (fun _ k => XS.aload X673.here hx rfl (hb hby at_293) rfl rfl k) ?_
                      refine own_goS (T' := T673) (g' := (mkF m 297 #[.val (.int p0), .val (.int p1), .val (.int p2), .val (.int p3), .val (.int p4), .val (.int (2 : Int32)), .val (.int (2 : Int32)), .val (.int y7), .val (.int y8), .val (.int xS0_1), .val (.int y10), .val (.int y11), .val (.int y12), .val (.int y13), .val (.int y14), .val (.ref b353), .val (.ref b540), .val (.ref b611), .val (.ref b648), .unset, .unset] [(.ref b611), (.ref b611)])) (fun _ k => XS.aload X673.here hx rfl (hb hby at_295) rfl rfl k) ?_
                      obtain ⟨cq697, kq697, q697a, q697b, q697c⟩ := isOf hZ673 rfl f688
                      obtain ⟨_, _, ⟨T697, L697, k697, n697⟩, -, X697, ⟨Lc697, hQ697, l697, y697, z697⟩, st697⟩ := X673.virtualBack hx (y := (⟨"com/example/node_ring/nodering/pool/Server", "equals", "(Ljava/lang/Object;)Z"⟩ : MethodName)) (z := (⟨"com/example/node_ring/nodering/pool/Server", "equals", "(Ljava/lang/Object;)Z"⟩ : MethodName)) hown673 (mvT hZ673 (hw _ (List.mem_of_getElem? (i := 54) rfl))) (mvT hZ673 (hw _ (List.mem_of_getElem? (i := 55) rfl))) (notFace_of_selects (args := #[]) (mvT hZ673 (hw _ (List.mem_of_getElem? (i := 57) rfl)))) (mvT hZ673 (hw _ (List.mem_of_getElem? (i := 57) rfl))) (mvT hZ673 (hw _ (List.mem_of_getElem? (i := 56) rfl))) (by decide) (backOf (W := 0) (rmES l Z a0 hw [] b611 b353 y12 T673.heap n0 zs673 f688 f689 f690 f678) hZ673 (hw _ (List.mem_of_getElem? (i := 58) rfl)) (hw _ (List.mem_of_getElem? (i := 33) rfl)) (by decide) (by decide)) q697a q697c (g := (mkF m 297 #[.val (.int p0), .val (.int p1), .val (.int p2), .val (.int p3), .val (.int p4), .val (.int (2 : Int32)), .val (.int (2 : Int32)), .val (.int y7), .val (.int y8), .val (.int xS0_1), .val (.int y10), .val (.int y11), .val (.int y12), .val (.int y13), .val (.int y14), .val (.ref b353), .val (.ref b540), .val (.ref b611), .val (.ref b648), .unset, .unset] [(.ref b611), (.ref b611)])) rfl (by rw [hml]; rfl) (Steps.refl _) (argsL := [(.ref b611)]) (rest := []) (lenOf own_pd7 rfl) rfl (by show 2 * 0 + _ ≤ _; exact Nat.le_of_eq rfl) (hb hby at_297) (fun _ _ => ⟨rfl, rfl, (by decide : 12 + 0 ≤ _), (by decide : 60 + 0 ≤ _)⟩)
                      dsimp only [Pt.U, Pt.locs, Pt.cells, Pt.slots] at X697 l697 y697 z697 st697 hQ697
                      subst l697 y697 z697
                      obtain ⟨rfl, N697q, e697⟩ := hQ697
                      have N697 := Fr.app N673 N697q
                      refine own_goS (T' := T697) (g' := (mkF m 300 #[.val (.int p0), .val (.int p1), .val (.int p2), .val (.int p3), .val (.int p4), .val (.int (2 : Int32)), .val (.int (2 : Int32)), .val (.int y7), .val (.int y8), .val (.int xS0_1), .val (.int y10), .val (.int y11), .val (.int y12), .val (.int y13), .val (.int y14), .val (.ref b353), .val (.ref b540), .val (.ref b611), .val (.ref b648), .unset, .unset] [(.int (own_sS b611 b353 y12))])) (fun _ k => st697.trans k) ?_
                      exact own_retNS X697 hS673 hx (t := .boolean) Bd.returns hlk (by simp) (hb hby at_300) e697 hk673 ⟨(by unfold own_sS; rfl), N697⟩ (by decide) (by decide)
                    · skip
                      refine own_goS (T' := T673) (g' := (mkF m 301 #[.val (.int p0), .val (.int p1), .val (.int p2), .val (.int p3), .val (.int p4), .val (.int (2 : Int32)), .val (.int (2 : Int32)), .val (.int y7), .val (.int y8), .val (.int xS0_1), .val (.int y10), .val (.int y11), .val (.int y12), .val (.int y13), .val (.int y14), .val (.ref b353), .val (.ref b540), .val (.ref b611), .val (.ref b648), .unset, .unset] [])) (fun _ k => XS.icmpYes X673.here hx rfl (pc0 := 290) (pc' := 301) rfl (hb hby at_290) rfl (XT.ii_ne_t hc290_696) (by decide) (by decide) k) ?_
                      refine own_goS (T' := T673) (g' := (mkF m 303 #[.val (.int p0), .val (.int p1), .val (.int p2), .val (.int p3), .val (.int p4), .val (.int (2 : Int32)), .val (.int (2 : Int32)), .val (.int y7), .val (.int y8), .val (.int xS0_1), .val (.int y10), .val (.int y11), .val (.int y12), .val (.int y13), .val (.int y14), .val (.ref b353), .val (.ref b540), .val (.ref b611), .val (.ref b648), .unset, .unset] [(.int (2 : Int32))])) (fun _ k => XS.iload X673.here hx rfl (hb hby at_301) rfl k) ?_
                      refine own_goS (T' := T673) (g' := (mkF m 305 #[.val (.int p0), .val (.int p1), .val (.int p2), .val (.int p3), .val (.int p4), .val (.int (2 : Int32)), .val (.int (2 : Int32)), .val (.int y7), .val (.int y8), .val (.int xS0_1), .val (.int y10), .val (.int y11), .val (.int y12), .val (.int y13), .val (.int y14), .val (.ref b353), .val (.ref b540), .val (.ref b611), .val (.ref b648), .unset, .unset] [(.int (2 : Int32)), (.int (2 : Int32))])) (fun _ k => XS.iload X673.here hx rfl (hb hby at_303) rfl k) ?_
                      have J333_698 : ∀ (xS0_698 : Int32) (hxS0_698 : xS0_698 = (if y7 = y10 then (if y8 = y11 then (1 : Int32) else (0 : Int32)) else (0 : Int32))), own_WS p e below s (Q_rm0 Z p0 p1 p2 p3 p4 cs h0 n0) 32 1152 T673 (mkF m 333 #[.val (.int p0), .val (.int p1), .val (.int p2), .val (.int p3), .val (.int p4), .val (.int (2 : Int32)), .val (.int (2 : Int32)), .val (.int y7), .val (.int y8), .val (.int xS0_1), .val (.int y10), .val (.int y11), .val (.int y12), .val (.int y13), .val (.int y14), .val (.ref b353), .val (.ref b540), .val (.ref b611), .val (.ref b648), .unset, .unset] [(.int xS0_698)]) := by
                        intro xS0_698 hxS0_698
                        refine own_goS (T' := T673) (g' := (mkF m 335 #[.val (.int p0), .val (.int p1), .val (.int p2), .val (.int p3), .val (.int p4), .val (.int (2 : Int32)), .val (.int (2 : Int32)), .val (.int y7), .val (.int y8), .val (.int xS0_1), .val (.int y10), .val (.int y11), .val (.int y12), .val (.int y13), .val (.int y14), .val (.ref b353), .val (.ref b540), .val (.ref b611), .val (.ref b648), .val (.int xS0_698), .unset] [])) (fun _ k => XS.istore X673.here hx rfl (hb hby at_333) rfl (l' := #[.val (.int p0), .val (.int p1), .val (.int p2), .val (.int p3), .val (.int p4), .val (.int (2 : Int32)), .val (.int (2 : Int32)), .val (.int y7), .val (.int y8), .val (.int xS0_1), .val (.int y10), .val (.int y11), .val (.int y12), .val (.int y13), .val (.int y14), .val (.ref b353), .val (.ref b540), .val (.ref b611), .val (.ref b648), .val (.int xS0_698), .unset]) rfl k) ?_
                        refine own_goS (T' := T673) (g' := (mkF m 337 #[.val (.int p0), .val (.int p1), .val (.int p2), .val (.int p3), .val (.int p4), .val (.int (2 : Int32)), .val (.int (2 : Int32)), .val (.int y7), .val (.int y8), .val (.int xS0_1), .val (.int y10), .val (.int y11), .val (.int y12), .val (.int y13), .val (.int y14), .val (.ref b353), .val (.ref b540), .val (.ref b611), .val (.ref b648), .val (.int xS0_698), .unset] [(.int xS0_698)])) (fun _ k => XS.iload X673.here hx rfl (hb hby at_335) rfl k) ?_
                        have J352_699 : ∀ (xS0_699 : Int32) (hxS0_699 : xS0_699 = (if xS0_698 = (0 : Int32) then (0 : Int32) else (if y12 = y13 then (1 : Int32) else (0 : Int32)))), own_WS p e below s (Q_rm0 Z p0 p1 p2 p3 p4 cs h0 n0) 32 1152 T673 (mkF m 352 #[.val (.int p0), .val (.int p1), .val (.int p2), .val (.int p3), .val (.int p4), .val (.int (2 : Int32)), .val (.int (2 : Int32)), .val (.int y7), .val (.int y8), .val (.int xS0_1), .val (.int y10), .val (.int y11), .val (.int y12), .val (.int y13), .val (.int y14), .val (.ref b353), .val (.ref b540), .val (.ref b611), .val (.ref b648), .val (.int xS0_698), .unset] [(.int xS0_699)]) := by
                          intro xS0_699 hxS0_699
                          refine own_goS (T' := T673) (g' := (mkF m 354 #[.val (.int p0), .val (.int p1), .val (.int p2), .val (.int p3), .val (.int p4), .val (.int (2 : Int32)), .val (.int (2 : Int32)), .val (.int y7), .val (.int y8), .val (.int xS0_1), .val (.int y10), .val (.int y11), .val (.int y12), .val (.int y13), .val (.int y14), .val (.ref b353), .val (.ref b540), .val (.ref b611), .val (.ref b648), .val (.int xS0_698), .val (.int xS0_699)] [])) (fun _ k => XS.istore X673.here hx rfl (hb hby at_352) rfl (l' := #[.val (.int p0), .val (.int p1), .val (.int p2), .val (.int p3), .val (.int p4), .val (.int (2 : Int32)), .val (.int (2 : Int32)), .val (.int y7), .val (.int y8), .val (.int xS0_1), .val (.int y10), .val (.int y11), .val (.int y12), .val (.int y13), .val (.int y14), .val (.ref b353), .val (.ref b540), .val (.ref b611), .val (.ref b648), .val (.int xS0_698), .val (.int xS0_699)]) rfl k) ?_
                          refine own_goS (T' := T673) (g' := (mkF m 356 #[.val (.int p0), .val (.int p1), .val (.int p2), .val (.int p3), .val (.int p4), .val (.int (2 : Int32)), .val (.int (2 : Int32)), .val (.int y7), .val (.int y8), .val (.int xS0_1), .val (.int y10), .val (.int y11), .val (.int y12), .val (.int y13), .val (.int y14), .val (.ref b353), .val (.ref b540), .val (.ref b611), .val (.ref b648), .val (.int xS0_698), .val (.int xS0_699)] [(.ref b611)])) (fun _ k => XS.aload X673.here hx rfl (hb hby at_354) rfl rfl k) ?_
                          refine own_goS (T' := T673) (g' := (mkF m 358 #[.val (.int p0), .val (.int p1), .val (.int p2), .val (.int p3), .val (.int p4), .val (.int (2 : Int32)), .val (.int (2 : Int32)), .val (.int y7), .val (.int y8), .val (.int xS0_1), .val (.int y10), .val (.int y11), .val (.int y12), .val (.int y13), .val (.int y14), .val (.ref b353), .val (.ref b540), .val (.ref b611), .val (.ref b648), .val (.int xS0_698), .val (.int xS0_699)] [(.ref b648), (.ref b611)])) (fun _ k => XS.aload X673.here hx rfl (hb hby at_356) rfl rfl k) ?_
                          obtain ⟨cq700, kq700, q700a, q700b, q700c⟩ := isOf hZ673 rfl f688
                          obtain ⟨_, _, ⟨T700, L700, k700, n700⟩, -, X700, ⟨Lc700, hQ700, l700, y700, z700⟩, st700⟩ := X673.virtualBack hx (y := (⟨"com/example/node_ring/nodering/pool/Server", "equals", "(Ljava/lang/Object;)Z"⟩ : MethodName)) (z := (⟨"com/example/node_ring/nodering/pool/Server", "equals", "(Ljava/lang/Object;)Z"⟩ : MethodName)) hown673 (mvT hZ673 (hw _ (List.mem_of_getElem? (i := 54) rfl))) (mvT hZ673 (hw _ (List.mem_of_getElem? (i := 55) rfl))) (notFace_of_selects (args := #[]) (mvT hZ673 (hw _ (List.mem_of_getElem? (i := 57) rfl)))) (mvT hZ673 (hw _ (List.mem_of_getElem? (i := 57) rfl))) (mvT hZ673 (hw _ (List.mem_of_getElem? (i := 56) rfl))) (by decide) (backOf (W := 0) (rmE22 l Z a0 hw [] b611 b648 b353 y12 xb_378 xk_378 (nar .byte (y7.toInt8.toInt32)) (nar .byte (y8.toInt8.toInt32)) b540 y13 xb_591 xk_591 (nar .byte (y10.toInt8.toInt32)) (nar .byte (y11.toInt8.toInt32)) cs T673.heap n0 zs673 f688 f689 f690 f678 f681 f680 f682 po676 po674 po675 f683 f686 f685 f687 f677 hh0 ne541) hZ673 (hw _ (List.mem_of_getElem? (i := 58) rfl)) (hw _ (List.mem_of_getElem? (i := 33) rfl)) (by decide) (by decide)) q700a q700c (g := (mkF m 358 #[.val (.int p0), .val (.int p1), .val (.int p2), .val (.int p3), .val (.int p4), .val (.int (2 : Int32)), .val (.int (2 : Int32)), .val (.int y7), .val (.int y8), .val (.int xS0_1), .val (.int y10), .val (.int y11), .val (.int y12), .val (.int y13), .val (.int y14), .val (.ref b353), .val (.ref b540), .val (.ref b611), .val (.ref b648), .val (.int xS0_698), .val (.int xS0_699)] [(.ref b648), (.ref b611)])) rfl (by rw [hml]; rfl) (Steps.refl _) (argsL := [(.ref b648)]) (rest := []) (lenOf own_pd7 rfl) rfl (by show 2 * 0 + _ ≤ _; exact Nat.le_of_eq rfl) (hb hby at_358) (fun _ _ => ⟨rfl, rfl, (by decide : 12 + 0 ≤ _), (by decide : 60 + 0 ≤ _)⟩)
                          dsimp only [Pt.U, Pt.locs, Pt.cells, Pt.slots] at X700 l700 y700 z700 st700 hQ700
                          subst l700 y700 z700
                          obtain ⟨rfl, N700q, e700⟩ := hQ700
                          have N700 := Fr.app N673 N700q
                          refine own_goS (T' := T700) (g' := (mkF m 361 #[.val (.int p0), .val (.int p1), .val (.int p2), .val (.int p3), .val (.int p4), .val (.int (2 : Int32)), .val (.int (2 : Int32)), .val (.int y7), .val (.int y8), .val (.int xS0_1), .val (.int y10), .val (.int y11), .val (.int y12), .val (.int y13), .val (.int y14), .val (.ref b353), .val (.ref b540), .val (.ref b611), .val (.ref b648), .val (.int xS0_698), .val (.int xS0_699)] [(.int (own_s22 b611 b648 b353 y12 xb_378 xk_378 (nar .byte (y7.toInt8.toInt32)) (nar .byte (y8.toInt8.toInt32)) b540 y13 xb_591 xk_591 (nar .byte (y10.toInt8.toInt32)) (nar .byte (y11.toInt8.toInt32)) cs))])) (fun _ k => st700.trans k) ?_
                          refine own_goS (T' := T700) (g' := (mkF m 363 #[.val (.int p0), .val (.int p1), .val (.int p2), .val (.int p3), .val (.int p4), .val (.int (2 : Int32)), .val (.int (2 : Int32)), .val (.int y7), .val (.int y8), .val (.int xS0_1), .val (.int y10), .val (.int y11), .val (.int y12), .val (.int y13), .val (.int y14), .val (.ref b353), .val (.ref b540), .val (.ref b611), .val (.ref b648), .val (.int xS0_698), .val (.int xS0_699)] [(.int xS0_699), (.int (own_s22 b611 b648 b353 y12 xb_378 xk_378 (nar .byte (y7.toInt8.toInt32)) (nar .byte (y8.toInt8.toInt32)) b540 y13 xb_591 xk_591 (nar .byte (y10.toInt8.toInt32)) (nar .byte (y11.toInt8.toInt32)) cs))])) (fun _ k => XS.iload X700.here hx rfl (hb hby at_361) rfl k) ?_
                          refine own_goS (T' := T700) (g' := (mkF m 366 #[.val (.int p0), .val (.int p1), .val (.int p2), .val (.int p3), .val (.int p4), .val (.int (2 : Int32)), .val (.int (2 : Int32)), .val (.int y7), .val (.int y8), .val (.int xS0_1), .val (.int y10), .val (.int y11), .val (.int y12), .val (.int y13), .val (.int y14), .val (.ref b353), .val (.ref b540), .val (.ref b611), .val (.ref b648), .val (.int xS0_698), .val (.int xS0_699)] [])) (fun _ k => XS.icmpNo X700.here hx rfl (hb hby at_363) rfl (XT.ii_ne_f (own_f2 hC7 hC10 hC8 hC11 hxS0_698 hxS0_699)) k) ?_
                          refine own_goS (T' := T700) (g' := (mkF m 368 #[.val (.int p0), .val (.int p1), .val (.int p2), .val (.int p3), .val (.int p4), .val (.int (2 : Int32)), .val (.int (2 : Int32)), .val (.int y7), .val (.int y8), .val (.int xS0_1), .val (.int y10), .val (.int y11), .val (.int y12), .val (.int y13), .val (.int y14), .val (.ref b353), .val (.ref b540), .val (.ref b611), .val (.ref b648), .val (.int xS0_698), .val (.int xS0_699)] [(.ref b648)])) (fun _ k => XS.aload X700.here hx rfl (hb hby at_366) rfl rfl k) ?_
                          refine own_goS (T' := T700) (g' := (mkF m 370 #[.val (.int p0), .val (.int p1), .val (.int p2), .val (.int p3), .val (.int p4), .val (.int (2 : Int32)), .val (.int (2 : Int32)), .val (.int y7), .val (.int y8), .val (.int xS0_1), .val (.int y10), .val (.int y11), .val (.int y12), .val (.int y13), .val (.int y14), .val (.ref b353), .val (.ref b540), .val (.ref b611), .val (.ref b648), .val (.int xS0_698), .val (.int xS0_699)] [(.ref b611), (.ref b648)])) (fun _ k => XS.aload X700.here hx rfl (hb hby at_368) rfl rfl k) ?_
                          obtain ⟨cq701, kq701, q701a, q701b, q701c⟩ := isOf hZ673 e700 po676
                          obtain ⟨_, _, ⟨T701, L701, k701, n701⟩, -, X701, ⟨Lc701, hQ701, l701, y701, z701⟩, st701⟩ := X700.virtualBack hx (y := (⟨"com/example/node_ring/nodering/pool/Server", "equals", "(Ljava/lang/Object;)Z"⟩ : MethodName)) (z := (⟨"com/example/node_ring/nodering/pool/Server", "equals", "(Ljava/lang/Object;)Z"⟩ : MethodName)) hown673 (mvT hZ673 (hw _ (List.mem_of_getElem? (i := 54) rfl))) (mvT hZ673 (hw _ (List.mem_of_getElem? (i := 55) rfl))) (notFace_of_selects (args := #[]) (mvT hZ673 (hw _ (List.mem_of_getElem? (i := 57) rfl)))) (mvT hZ673 (hw _ (List.mem_of_getElem? (i := 57) rfl))) (mvT hZ673 (hw _ (List.mem_of_getElem? (i := 56) rfl))) (by decide) (backOf (W := 0) (rmE22 l Z a0 hw [] b648 b611 b540 y13 xb_591 xk_591 (nar .byte (y10.toInt8.toInt32)) (nar .byte (y11.toInt8.toInt32)) b353 y12 xb_378 xk_378 (nar .byte (y7.toInt8.toInt32)) (nar .byte (y8.toInt8.toInt32)) cs T673.heap n0 zs673 po676 po674 po675 f683 f686 f685 f687 f688 f689 f690 f678 f681 f680 f682 f677 hh0 (Ne.symm ne541)) hZ673 (hw _ (List.mem_of_getElem? (i := 58) rfl)) (hw _ (List.mem_of_getElem? (i := 33) rfl)) (by decide) (by decide)) q701a q701c (g := (mkF m 370 #[.val (.int p0), .val (.int p1), .val (.int p2), .val (.int p3), .val (.int p4), .val (.int (2 : Int32)), .val (.int (2 : Int32)), .val (.int y7), .val (.int y8), .val (.int xS0_1), .val (.int y10), .val (.int y11), .val (.int y12), .val (.int y13), .val (.int y14), .val (.ref b353), .val (.ref b540), .val (.ref b611), .val (.ref b648), .val (.int xS0_698), .val (.int xS0_699)] [(.ref b611), (.ref b648)])) rfl (by rw [hml]; rfl) (Steps.refl _) (argsL := [(.ref b611)]) (rest := []) (lenOf own_pd7 rfl) rfl (by show 2 * 0 + _ ≤ _; exact Nat.le_of_eq rfl) (hb hby at_370) (fun _ _ => ⟨rfl, e700, (by decide : 12 + 0 ≤ _), (by decide : 60 + 0 ≤ _)⟩)
                          dsimp only [Pt.U, Pt.locs, Pt.cells, Pt.slots] at X701 l701 y701 z701 st701 hQ701
                          subst l701 y701 z701
                          obtain ⟨rfl, N701q, e701⟩ := hQ701
                          have N701 := Fr.app N700 N701q
                          refine own_goS (T' := T701) (g' := (mkF m 373 #[.val (.int p0), .val (.int p1), .val (.int p2), .val (.int p3), .val (.int p4), .val (.int (2 : Int32)), .val (.int (2 : Int32)), .val (.int y7), .val (.int y8), .val (.int xS0_1), .val (.int y10), .val (.int y11), .val (.int y12), .val (.int y13), .val (.int y14), .val (.ref b353), .val (.ref b540), .val (.ref b611), .val (.ref b648), .val (.int xS0_698), .val (.int xS0_699)] [(.int (own_s22 b648 b611 b540 y13 xb_591 xk_591 (nar .byte (y10.toInt8.toInt32)) (nar .byte (y11.toInt8.toInt32)) b353 y12 xb_378 xk_378 (nar .byte (y7.toInt8.toInt32)) (nar .byte (y8.toInt8.toInt32)) cs))])) (fun _ k => st701.trans k) ?_
                          refine own_goS (T' := T701) (g' := (mkF m 375 #[.val (.int p0), .val (.int p1), .val (.int p2), .val (.int p3), .val (.int p4), .val (.int (2 : Int32)), .val (.int (2 : Int32)), .val (.int y7), .val (.int y8), .val (.int xS0_1), .val (.int y10), .val (.int y11), .val (.int y12), .val (.int y13), .val (.int y14), .val (.ref b353), .val (.ref b540), .val (.ref b611), .val (.ref b648), .val (.int xS0_698), .val (.int xS0_699)] [(.int xS0_699), (.int (own_s22 b648 b611 b540 y13 xb_591 xk_591 (nar .byte (y10.toInt8.toInt32)) (nar .byte (y11.toInt8.toInt32)) b353 y12 xb_378 xk_378 (nar .byte (y7.toInt8.toInt32)) (nar .byte (y8.toInt8.toInt32)) cs))])) (fun _ k => XS.iload X701.here hx rfl (hb hby at_373) rfl k) ?_
                          refine own_goS (T' := T701) (g' := (mkF m 378 #[.val (.int p0), .val (.int p1), .val (.int p2), .val (.int p3), .val (.int p4), .val (.int (2 : Int32)), .val (.int (2 : Int32)), .val (.int y7), .val (.int y8), .val (.int xS0_1), .val (.int y10), .val (.int y11), .val (.int y12), .val (.int y13), .val (.int y14), .val (.ref b353), .val (.ref b540), .val (.ref b611), .val (.ref b648), .val (.int xS0_698), .val (.int xS0_699)] [])) (fun _ k => XS.icmpNo X701.here hx rfl (hb hby at_375) rfl (XT.ii_ne_f (own_f2 hC10 hC7 hC11 hC8 (own_sw2 hxS0_698) (own_sw3 hxS0_699))) k) ?_
                          refine own_goS (T' := T701) (g' := (mkF m 379 #[.val (.int p0), .val (.int p1), .val (.int p2), .val (.int p3), .val (.int p4), .val (.int (2 : Int32)), .val (.int (2 : Int32)), .val (.int y7), .val (.int y8), .val (.int xS0_1), .val (.int y10), .val (.int y11), .val (.int y12), .val (.int y13), .val (.int y14), .val (.ref b353), .val (.ref b540), .val (.ref b611), .val (.ref b648), .val (.int xS0_698), .val (.int xS0_699)] [(.int (1 : Int32))])) (fun _ k => XS.iconst X701.here hx rfl (hb hby at_378) k) ?_
                          refine own_goS (T' := T701) (g' := (mkF m 383 #[.val (.int p0), .val (.int p1), .val (.int p2), .val (.int p3), .val (.int p4), .val (.int (2 : Int32)), .val (.int (2 : Int32)), .val (.int y7), .val (.int y8), .val (.int xS0_1), .val (.int y10), .val (.int y11), .val (.int y12), .val (.int y13), .val (.int y14), .val (.ref b353), .val (.ref b540), .val (.ref b611), .val (.ref b648), .val (.int xS0_698), .val (.int xS0_699)] [(.int (1 : Int32))])) (fun _ k => XS.goto X701.here hx rfl (pc0 := 379) (pc' := 383) rfl (hb hby at_379) (by decide) (by decide) k) ?_
                          exact own_retNS X701 hS673 hx (t := .boolean) Bd.returns hlk (by simp) (hb hby at_383) e701 hk673 ⟨rfl, N701⟩ (by decide) (by decide)
                        by_cases hc337_702 : xS0_698 = (0 : Int32)
                        · skip
                          refine own_goS (T' := T673) (g' := (mkF m 351 #[.val (.int p0), .val (.int p1), .val (.int p2), .val (.int p3), .val (.int p4), .val (.int (2 : Int32)), .val (.int (2 : Int32)), .val (.int y7), .val (.int y8), .val (.int xS0_1), .val (.int y10), .val (.int y11), .val (.int y12), .val (.int y13), .val (.int y14), .val (.ref b353), .val (.ref b540), .val (.ref b611), .val (.ref b648), .val (.int xS0_698), .unset] [])) (fun _ k => XS.ifYes X673.here hx rfl (pc0 := 337) (pc' := 351) rfl (hb hby at_337) rfl (XT.i0_eq_t hc337_702) (by decide) (by decide) k) ?_
                          refine own_goS (T' := T673) (g' := (mkF m 352 #[.val (.int p0), .val (.int p1), .val (.int p2), .val (.int p3), .val (.int p4), .val (.int (2 : Int32)), .val (.int (2 : Int32)), .val (.int y7), .val (.int y8), .val (.int xS0_1), .val (.int y10), .val (.int y11), .val (.int y12), .val (.int y13), .val (.int y14), .val (.ref b353), .val (.ref b540), .val (.ref b611), .val (.ref b648), .val (.int xS0_698), .unset] [(.int (0 : Int32))])) (fun _ k => XS.iconst X673.here hx rfl (hb hby at_351) k) ?_
                          exact J352_699 _ (by rw [if_pos hc337_702])
                        · skip
                          refine own_goS (T' := T673) (g' := (mkF m 340 #[.val (.int p0), .val (.int p1), .val (.int p2), .val (.int p3), .val (.int p4), .val (.int (2 : Int32)), .val (.int (2 : Int32)), .val (.int y7), .val (.int y8), .val (.int xS0_1), .val (.int y10), .val (.int y11), .val (.int y12), .val (.int y13), .val (.int y14), .val (.ref b353), .val (.ref b540), .val (.ref b611), .val (.ref b648), .val (.int xS0_698), .unset] [])) (fun _ k => XS.ifNo X673.here hx rfl (hb hby at_337) rfl (XT.i0_eq_f hc337_702) k) ?_
                          refine own_goS (T' := T673) (g' := (mkF m 342 #[.val (.int p0), .val (.int p1), .val (.int p2), .val (.int p3), .val (.int p4), .val (.int (2 : Int32)), .val (.int (2 : Int32)), .val (.int y7), .val (.int y8), .val (.int xS0_1), .val (.int y10), .val (.int y11), .val (.int y12), .val (.int y13), .val (.int y14), .val (.ref b353), .val (.ref b540), .val (.ref b611), .val (.ref b648), .val (.int xS0_698), .unset] [(.int y12)])) (fun _ k => XS.iload X673.here hx rfl (hb hby at_340) rfl k) ?_
                          refine own_goS (T' := T673) (g' := (mkF m 344 #[.val (.int p0), .val (.int p1), .val (.int p2), .val (.int p3), .val (.int p4), .val (.int (2 : Int32)), .val (.int (2 : Int32)), .val (.int y7), .val (.int y8), .val (.int xS0_1), .val (.int y10), .val (.int y11), .val (.int y12), .val (.int y13), .val (.int y14), .val (.ref b353), .val (.ref b540), .val (.ref b611), .val (.ref b648), .val (.int xS0_698), .unset] [(.int y13), (.int y12)])) (fun _ k => XS.iload X673.here hx rfl (hb hby at_342) rfl k) ?_
                          by_cases hc344_703 : y12 = y13
                          · skip
                            refine own_goS (T' := T673) (g' := (mkF m 347 #[.val (.int p0), .val (.int p1), .val (.int p2), .val (.int p3), .val (.int p4), .val (.int (2 : Int32)), .val (.int (2 : Int32)), .val (.int y7), .val (.int y8), .val (.int xS0_1), .val (.int y10), .val (.int y11), .val (.int y12), .val (.int y13), .val (.int y14), .val (.ref b353), .val (.ref b540), .val (.ref b611), .val (.ref b648), .val (.int xS0_698), .unset] [])) (fun _ k => XS.icmpNo X673.here hx rfl (hb hby at_344) rfl (XT.ii_ne_f hc344_703) k) ?_
                            refine own_goS (T' := T673) (g' := (mkF m 348 #[.val (.int p0), .val (.int p1), .val (.int p2), .val (.int p3), .val (.int p4), .val (.int (2 : Int32)), .val (.int (2 : Int32)), .val (.int y7), .val (.int y8), .val (.int xS0_1), .val (.int y10), .val (.int y11), .val (.int y12), .val (.int y13), .val (.int y14), .val (.ref b353), .val (.ref b540), .val (.ref b611), .val (.ref b648), .val (.int xS0_698), .unset] [(.int (1 : Int32))])) (fun _ k => XS.iconst X673.here hx rfl (hb hby at_347) k) ?_
                            refine own_goS (T' := T673) (g' := (mkF m 352 #[.val (.int p0), .val (.int p1), .val (.int p2), .val (.int p3), .val (.int p4), .val (.int (2 : Int32)), .val (.int (2 : Int32)), .val (.int y7), .val (.int y8), .val (.int xS0_1), .val (.int y10), .val (.int y11), .val (.int y12), .val (.int y13), .val (.int y14), .val (.ref b353), .val (.ref b540), .val (.ref b611), .val (.ref b648), .val (.int xS0_698), .unset] [(.int (1 : Int32))])) (fun _ k => XS.goto X673.here hx rfl (pc0 := 348) (pc' := 352) rfl (hb hby at_348) (by decide) (by decide) k) ?_
                            exact J352_699 _ (by rw [if_neg hc337_702, if_pos hc344_703])
                          · skip
                            refine own_goS (T' := T673) (g' := (mkF m 351 #[.val (.int p0), .val (.int p1), .val (.int p2), .val (.int p3), .val (.int p4), .val (.int (2 : Int32)), .val (.int (2 : Int32)), .val (.int y7), .val (.int y8), .val (.int xS0_1), .val (.int y10), .val (.int y11), .val (.int y12), .val (.int y13), .val (.int y14), .val (.ref b353), .val (.ref b540), .val (.ref b611), .val (.ref b648), .val (.int xS0_698), .unset] [])) (fun _ k => XS.icmpYes X673.here hx rfl (pc0 := 344) (pc' := 351) rfl (hb hby at_344) rfl (XT.ii_ne_t hc344_703) (by decide) (by decide) k) ?_
                            refine own_goS (T' := T673) (g' := (mkF m 352 #[.val (.int p0), .val (.int p1), .val (.int p2), .val (.int p3), .val (.int p4), .val (.int (2 : Int32)), .val (.int (2 : Int32)), .val (.int y7), .val (.int y8), .val (.int xS0_1), .val (.int y10), .val (.int y11), .val (.int y12), .val (.int y13), .val (.int y14), .val (.ref b353), .val (.ref b540), .val (.ref b611), .val (.ref b648), .val (.int xS0_698), .unset] [(.int (0 : Int32))])) (fun _ k => XS.iconst X673.here hx rfl (hb hby at_351) k) ?_
                            exact J352_699 _ (by rw [if_neg hc337_702, if_neg hc344_703])
                      refine own_goS (T' := T673) (g' := (mkF m 308 #[.val (.int p0), .val (.int p1), .val (.int p2), .val (.int p3), .val (.int p4), .val (.int (2 : Int32)), .val (.int (2 : Int32)), .val (.int y7), .val (.int y8), .val (.int xS0_1), .val (.int y10), .val (.int y11), .val (.int y12), .val (.int y13), .val (.int y14), .val (.ref b353), .val (.ref b540), .val (.ref b611), .val (.ref b648), .unset, .unset] [])) (fun _ k => XS.icmpNo X673.here hx rfl (hb hby at_305) rfl (XT.ii_ne_f (rfl : (2 : Int32) = (2 : Int32))) k) ?_
                      refine own_goS (T' := T673) (g' := (mkF m 310 #[.val (.int p0), .val (.int p1), .val (.int p2), .val (.int p3), .val (.int p4), .val (.int (2 : Int32)), .val (.int (2 : Int32)), .val (.int y7), .val (.int y8), .val (.int xS0_1), .val (.int y10), .val (.int y11), .val (.int y12), .val (.int y13), .val (.int y14), .val (.ref b353), .val (.ref b540), .val (.ref b611), .val (.ref b648), .unset, .unset] [(.int y7)])) (fun _ k => XS.iload X673.here hx rfl (hb hby at_308) rfl k) ?_
                      refine own_goS (T' := T673) (g' := (mkF m 312 #[.val (.int p0), .val (.int p1), .val (.int p2), .val (.int p3), .val (.int p4), .val (.int (2 : Int32)), .val (.int (2 : Int32)), .val (.int y7), .val (.int y8), .val (.int xS0_1), .val (.int y10), .val (.int y11), .val (.int y12), .val (.int y13), .val (.int y14), .val (.ref b353), .val (.ref b540), .val (.ref b611), .val (.ref b648), .unset, .unset] [(.int y10), (.int y7)])) (fun _ k => XS.iload X673.here hx rfl (hb hby at_310) rfl k) ?_
                      by_cases hc312_704 : y7 = y10
                      · skip
                        refine own_goS (T' := T673) (g' := (mkF m 315 #[.val (.int p0), .val (.int p1), .val (.int p2), .val (.int p3), .val (.int p4), .val (.int (2 : Int32)), .val (.int (2 : Int32)), .val (.int y7), .val (.int y8), .val (.int xS0_1), .val (.int y10), .val (.int y11), .val (.int y12), .val (.int y13), .val (.int y14), .val (.ref b353), .val (.ref b540), .val (.ref b611), .val (.ref b648), .unset, .unset] [])) (fun _ k => XS.icmpNo X673.here hx rfl (hb hby at_312) rfl (XT.ii_ne_f hc312_704) k) ?_
                        refine own_goS (T' := T673) (g' := (mkF m 317 #[.val (.int p0), .val (.int p1), .val (.int p2), .val (.int p3), .val (.int p4), .val (.int (2 : Int32)), .val (.int (2 : Int32)), .val (.int y7), .val (.int y8), .val (.int xS0_1), .val (.int y10), .val (.int y11), .val (.int y12), .val (.int y13), .val (.int y14), .val (.ref b353), .val (.ref b540), .val (.ref b611), .val (.ref b648), .unset, .unset] [(.int (2 : Int32))])) (fun _ k => XS.iload X673.here hx rfl (hb hby at_315) rfl k) ?_
                        refine own_goS (T' := T673) (g' := (mkF m 318 #[.val (.int p0), .val (.int p1), .val (.int p2), .val (.int p3), .val (.int p4), .val (.int (2 : Int32)), .val (.int (2 : Int32)), .val (.int y7), .val (.int y8), .val (.int xS0_1), .val (.int y10), .val (.int y11), .val (.int y12), .val (.int y13), .val (.int y14), .val (.ref b353), .val (.ref b540), .val (.ref b611), .val (.ref b648), .unset, .unset] [(.int (1 : Int32)), (.int (2 : Int32))])) (fun _ k => XS.iconst X673.here hx rfl (hb hby at_317) k) ?_
                        refine own_goS (T' := T673) (g' := (mkF m 321 #[.val (.int p0), .val (.int p1), .val (.int p2), .val (.int p3), .val (.int p4), .val (.int (2 : Int32)), .val (.int (2 : Int32)), .val (.int y7), .val (.int y8), .val (.int xS0_1), .val (.int y10), .val (.int y11), .val (.int y12), .val (.int y13), .val (.int y14), .val (.ref b353), .val (.ref b540), .val (.ref b611), .val (.ref b648), .unset, .unset] [])) (fun _ k => XS.icmpNo X673.here hx rfl (hb hby at_318) rfl (XT.ii_eq_f (by decide : ¬ ((2 : Int32) = (1 : Int32)))) k) ?_
                        refine own_goS (T' := T673) (g' := (mkF m 323 #[.val (.int p0), .val (.int p1), .val (.int p2), .val (.int p3), .val (.int p4), .val (.int (2 : Int32)), .val (.int (2 : Int32)), .val (.int y7), .val (.int y8), .val (.int xS0_1), .val (.int y10), .val (.int y11), .val (.int y12), .val (.int y13), .val (.int y14), .val (.ref b353), .val (.ref b540), .val (.ref b611), .val (.ref b648), .unset, .unset] [(.int y8)])) (fun _ k => XS.iload X673.here hx rfl (hb hby at_321) rfl k) ?_
                        refine own_goS (T' := T673) (g' := (mkF m 325 #[.val (.int p0), .val (.int p1), .val (.int p2), .val (.int p3), .val (.int p4), .val (.int (2 : Int32)), .val (.int (2 : Int32)), .val (.int y7), .val (.int y8), .val (.int xS0_1), .val (.int y10), .val (.int y11), .val (.int y12), .val (.int y13), .val (.int y14), .val (.ref b353), .val (.ref b540), .val (.ref b611), .val (.ref b648), .unset, .unset] [(.int y11), (.int y8)])) (fun _ k => XS.iload X673.here hx rfl (hb hby at_323) rfl k) ?_
                        by_cases hc325_705 : y8 = y11
                        · skip
                          refine own_goS (T' := T673) (g' := (mkF m 328 #[.val (.int p0), .val (.int p1), .val (.int p2), .val (.int p3), .val (.int p4), .val (.int (2 : Int32)), .val (.int (2 : Int32)), .val (.int y7), .val (.int y8), .val (.int xS0_1), .val (.int y10), .val (.int y11), .val (.int y12), .val (.int y13), .val (.int y14), .val (.ref b353), .val (.ref b540), .val (.ref b611), .val (.ref b648), .unset, .unset] [])) (fun _ k => XS.icmpNo X673.here hx rfl (hb hby at_325) rfl (XT.ii_ne_f hc325_705) k) ?_
                          refine own_goS (T' := T673) (g' := (mkF m 329 #[.val (.int p0), .val (.int p1), .val (.int p2), .val (.int p3), .val (.int p4), .val (.int (2 : Int32)), .val (.int (2 : Int32)), .val (.int y7), .val (.int y8), .val (.int xS0_1), .val (.int y10), .val (.int y11), .val (.int y12), .val (.int y13), .val (.int y14), .val (.ref b353), .val (.ref b540), .val (.ref b611), .val (.ref b648), .unset, .unset] [(.int (1 : Int32))])) (fun _ k => XS.iconst X673.here hx rfl (hb hby at_328) k) ?_
                          refine own_goS (T' := T673) (g' := (mkF m 333 #[.val (.int p0), .val (.int p1), .val (.int p2), .val (.int p3), .val (.int p4), .val (.int (2 : Int32)), .val (.int (2 : Int32)), .val (.int y7), .val (.int y8), .val (.int xS0_1), .val (.int y10), .val (.int y11), .val (.int y12), .val (.int y13), .val (.int y14), .val (.ref b353), .val (.ref b540), .val (.ref b611), .val (.ref b648), .unset, .unset] [(.int (1 : Int32))])) (fun _ k => XS.goto X673.here hx rfl (pc0 := 329) (pc' := 333) rfl (hb hby at_329) (by decide) (by decide) k) ?_
                          exact J333_698 _ (by rw [if_pos hc312_704, if_pos hc325_705])
                        · skip
                          refine own_goS (T' := T673) (g' := (mkF m 332 #[.val (.int p0), .val (.int p1), .val (.int p2), .val (.int p3), .val (.int p4), .val (.int (2 : Int32)), .val (.int (2 : Int32)), .val (.int y7), .val (.int y8), .val (.int xS0_1), .val (.int y10), .val (.int y11), .val (.int y12), .val (.int y13), .val (.int y14), .val (.ref b353), .val (.ref b540), .val (.ref b611), .val (.ref b648), .unset, .unset] [])) (fun _ k => XS.icmpYes X673.here hx rfl (pc0 := 325) (pc' := 332) rfl (hb hby at_325) rfl (XT.ii_ne_t hc325_705) (by decide) (by decide) k) ?_
                          refine own_goS (T' := T673) (g' := (mkF m 333 #[.val (.int p0), .val (.int p1), .val (.int p2), .val (.int p3), .val (.int p4), .val (.int (2 : Int32)), .val (.int (2 : Int32)), .val (.int y7), .val (.int y8), .val (.int xS0_1), .val (.int y10), .val (.int y11), .val (.int y12), .val (.int y13), .val (.int y14), .val (.ref b353), .val (.ref b540), .val (.ref b611), .val (.ref b648), .unset, .unset] [(.int (0 : Int32))])) (fun _ k => XS.iconst X673.here hx rfl (hb hby at_332) k) ?_
                          exact J333_698 _ (by rw [if_pos hc312_704, if_neg hc325_705])
                      · skip
                        refine own_goS (T' := T673) (g' := (mkF m 332 #[.val (.int p0), .val (.int p1), .val (.int p2), .val (.int p3), .val (.int p4), .val (.int (2 : Int32)), .val (.int (2 : Int32)), .val (.int y7), .val (.int y8), .val (.int xS0_1), .val (.int y10), .val (.int y11), .val (.int y12), .val (.int y13), .val (.int y14), .val (.ref b353), .val (.ref b540), .val (.ref b611), .val (.ref b648), .unset, .unset] [])) (fun _ k => XS.icmpYes X673.here hx rfl (pc0 := 312) (pc' := 332) rfl (hb hby at_312) rfl (XT.ii_ne_t hc312_704) (by decide) (by decide) k) ?_
                        refine own_goS (T' := T673) (g' := (mkF m 333 #[.val (.int p0), .val (.int p1), .val (.int p2), .val (.int p3), .val (.int p4), .val (.int (2 : Int32)), .val (.int (2 : Int32)), .val (.int y7), .val (.int y8), .val (.int xS0_1), .val (.int y10), .val (.int y11), .val (.int y12), .val (.int y13), .val (.int y14), .val (.ref b353), .val (.ref b540), .val (.ref b611), .val (.ref b648), .unset, .unset] [(.int (0 : Int32))])) (fun _ k => XS.iconst X673.here hx rfl (hb hby at_332) k) ?_
                        exact J333_698 _ (by rw [if_neg hc312_704])
          exact G126_5 _ rfl _ rfl _ rfl _ rfl _ rfl _ rfl _ rfl _ rfl _
        by_cases hc104_706 : (((p4.toUInt32 >>> ((3 : Int32) &&& 31).toUInt32).toInt32) &&& (1 : Int32)) = (0 : Int32)
        · skip
          refine own_goS (T' := s₁) (g' := (mkF m 112 #[.val (.int p0), .val (.int p1), .val (.int p2), .val (.int p3), .val (.int p4), .val (.int ((1 : Int32) + (p4 &&& (1 : Int32)))), .val (.int ((1 : Int32) + (((p4.toUInt32 >>> ((1 : Int32) &&& 31).toUInt32).toInt32) &&& (1 : Int32)))), .val (.int ((p0 &&& (255 : Int32)).toUInt32.toUInt16.toUInt32.toInt32)), .val (.int ((((p0.toUInt32 >>> ((8 : Int32) &&& 31).toUInt32).toInt32) &&& (255 : Int32)).toUInt32.toUInt16.toUInt32.toInt32)), .val (.int xS0_1), .val (.int xS0_2), .val (.int xS0_3), .val (.int (p2 &&& (2147483647 : Int32))), .unset, .unset, .unset, .unset, .unset, .unset, .unset, .unset] [])) (fun _ k => XS.ifYes X0.here hx rfl (pc0 := 104) (pc' := 112) rfl (hb hby at_104) rfl (XT.i0_eq_t hc104_706) (by decide) (by decide) k) ?_
          refine own_goS (T' := s₁) (g' := (mkF m 113 #[.val (.int p0), .val (.int p1), .val (.int p2), .val (.int p3), .val (.int p4), .val (.int ((1 : Int32) + (p4 &&& (1 : Int32)))), .val (.int ((1 : Int32) + (((p4.toUInt32 >>> ((1 : Int32) &&& 31).toUInt32).toInt32) &&& (1 : Int32)))), .val (.int ((p0 &&& (255 : Int32)).toUInt32.toUInt16.toUInt32.toInt32)), .val (.int ((((p0.toUInt32 >>> ((8 : Int32) &&& 31).toUInt32).toInt32) &&& (255 : Int32)).toUInt32.toUInt16.toUInt32.toInt32)), .val (.int xS0_1), .val (.int xS0_2), .val (.int xS0_3), .val (.int (p2 &&& (2147483647 : Int32))), .unset, .unset, .unset, .unset, .unset, .unset, .unset, .unset] [(.int p3)])) (fun _ k => XS.iloadN X0.here hx rfl (hb hby at_112) rfl k) ?_
          refine own_goS (T' := s₁) (g' := (mkF m 115 #[.val (.int p0), .val (.int p1), .val (.int p2), .val (.int p3), .val (.int p4), .val (.int ((1 : Int32) + (p4 &&& (1 : Int32)))), .val (.int ((1 : Int32) + (((p4.toUInt32 >>> ((1 : Int32) &&& 31).toUInt32).toInt32) &&& (1 : Int32)))), .val (.int ((p0 &&& (255 : Int32)).toUInt32.toUInt16.toUInt32.toInt32)), .val (.int ((((p0.toUInt32 >>> ((8 : Int32) &&& 31).toUInt32).toInt32) &&& (255 : Int32)).toUInt32.toUInt16.toUInt32.toInt32)), .val (.int xS0_1), .val (.int xS0_2), .val (.int xS0_3), .val (.int (p2 &&& (2147483647 : Int32))), .unset, .unset, .unset, .unset, .unset, .unset, .unset, .unset] [(.int (2147483647 : Int32)), (.int p3)])) (fun _ k => X0.ldcInt hx hown (mvT hZ (hw _ (List.mem_of_getElem? (i := 0) rfl))) (g := (mkF m 113 #[.val (.int p0), .val (.int p1), .val (.int p2), .val (.int p3), .val (.int p4), .val (.int ((1 : Int32) + (p4 &&& (1 : Int32)))), .val (.int ((1 : Int32) + (((p4.toUInt32 >>> ((1 : Int32) &&& 31).toUInt32).toInt32) &&& (1 : Int32)))), .val (.int ((p0 &&& (255 : Int32)).toUInt32.toUInt16.toUInt32.toInt32)), .val (.int ((((p0.toUInt32 >>> ((8 : Int32) &&& 31).toUInt32).toInt32) &&& (255 : Int32)).toUInt32.toUInt16.toUInt32.toInt32)), .val (.int xS0_1), .val (.int xS0_2), .val (.int xS0_3), .val (.int (p2 &&& (2147483647 : Int32))), .unset, .unset, .unset, .unset, .unset, .unset, .unset, .unset] [(.int p3)])) rfl (hb hby at_113) _ k) ?_
          refine own_goS (T' := s₁) (g' := (mkF m 116 #[.val (.int p0), .val (.int p1), .val (.int p2), .val (.int p3), .val (.int p4), .val (.int ((1 : Int32) + (p4 &&& (1 : Int32)))), .val (.int ((1 : Int32) + (((p4.toUInt32 >>> ((1 : Int32) &&& 31).toUInt32).toInt32) &&& (1 : Int32)))), .val (.int ((p0 &&& (255 : Int32)).toUInt32.toUInt16.toUInt32.toInt32)), .val (.int ((((p0.toUInt32 >>> ((8 : Int32) &&& 31).toUInt32).toInt32) &&& (255 : Int32)).toUInt32.toUInt16.toUInt32.toInt32)), .val (.int xS0_1), .val (.int xS0_2), .val (.int xS0_3), .val (.int (p2 &&& (2147483647 : Int32))), .unset, .unset, .unset, .unset, .unset, .unset, .unset, .unset] [(.int (p3 &&& (2147483647 : Int32)))])) (fun _ k => XS.iand X0.here hx rfl (hb hby at_115) rfl k) ?_
          exact J116_4 _ (by rw [if_pos hc104_706])
        · skip
          refine own_goS (T' := s₁) (g' := (mkF m 107 #[.val (.int p0), .val (.int p1), .val (.int p2), .val (.int p3), .val (.int p4), .val (.int ((1 : Int32) + (p4 &&& (1 : Int32)))), .val (.int ((1 : Int32) + (((p4.toUInt32 >>> ((1 : Int32) &&& 31).toUInt32).toInt32) &&& (1 : Int32)))), .val (.int ((p0 &&& (255 : Int32)).toUInt32.toUInt16.toUInt32.toInt32)), .val (.int ((((p0.toUInt32 >>> ((8 : Int32) &&& 31).toUInt32).toInt32) &&& (255 : Int32)).toUInt32.toUInt16.toUInt32.toInt32)), .val (.int xS0_1), .val (.int xS0_2), .val (.int xS0_3), .val (.int (p2 &&& (2147483647 : Int32))), .unset, .unset, .unset, .unset, .unset, .unset, .unset, .unset] [])) (fun _ k => XS.ifNo X0.here hx rfl (hb hby at_104) rfl (XT.i0_eq_f hc104_706) k) ?_
          refine own_goS (T' := s₁) (g' := (mkF m 109 #[.val (.int p0), .val (.int p1), .val (.int p2), .val (.int p3), .val (.int p4), .val (.int ((1 : Int32) + (p4 &&& (1 : Int32)))), .val (.int ((1 : Int32) + (((p4.toUInt32 >>> ((1 : Int32) &&& 31).toUInt32).toInt32) &&& (1 : Int32)))), .val (.int ((p0 &&& (255 : Int32)).toUInt32.toUInt16.toUInt32.toInt32)), .val (.int ((((p0.toUInt32 >>> ((8 : Int32) &&& 31).toUInt32).toInt32) &&& (255 : Int32)).toUInt32.toUInt16.toUInt32.toInt32)), .val (.int xS0_1), .val (.int xS0_2), .val (.int xS0_3), .val (.int (p2 &&& (2147483647 : Int32))), .unset, .unset, .unset, .unset, .unset, .unset, .unset, .unset] [(.int (p2 &&& (2147483647 : Int32)))])) (fun _ k => XS.iload X0.here hx rfl (hb hby at_107) rfl k) ?_
          refine own_goS (T' := s₁) (g' := (mkF m 116 #[.val (.int p0), .val (.int p1), .val (.int p2), .val (.int p3), .val (.int p4), .val (.int ((1 : Int32) + (p4 &&& (1 : Int32)))), .val (.int ((1 : Int32) + (((p4.toUInt32 >>> ((1 : Int32) &&& 31).toUInt32).toInt32) &&& (1 : Int32)))), .val (.int ((p0 &&& (255 : Int32)).toUInt32.toUInt16.toUInt32.toInt32)), .val (.int ((((p0.toUInt32 >>> ((8 : Int32) &&& 31).toUInt32).toInt32) &&& (255 : Int32)).toUInt32.toUInt16.toUInt32.toInt32)), .val (.int xS0_1), .val (.int xS0_2), .val (.int xS0_3), .val (.int (p2 &&& (2147483647 : Int32))), .unset, .unset, .unset, .unset, .unset, .unset, .unset, .unset] [(.int (p2 &&& (2147483647 : Int32)))])) (fun _ k => XS.goto X0.here hx rfl (pc0 := 109) (pc' := 116) rfl (hb hby at_109) (by decide) (by decide) k) ?_
          exact J116_4 _ (by rw [if_neg hc104_706])
      by_cases hc73_707 : xS0_1 = (0 : Int32)
      · skip
        refine own_goS (T' := s₁) (g' := (mkF m 81 #[.val (.int p0), .val (.int p1), .val (.int p2), .val (.int p3), .val (.int p4), .val (.int ((1 : Int32) + (p4 &&& (1 : Int32)))), .val (.int ((1 : Int32) + (((p4.toUInt32 >>> ((1 : Int32) &&& 31).toUInt32).toInt32) &&& (1 : Int32)))), .val (.int ((p0 &&& (255 : Int32)).toUInt32.toUInt16.toUInt32.toInt32)), .val (.int ((((p0.toUInt32 >>> ((8 : Int32) &&& 31).toUInt32).toInt32) &&& (255 : Int32)).toUInt32.toUInt16.toUInt32.toInt32)), .val (.int xS0_1), .val (.int xS0_2), .unset, .unset, .unset, .unset, .unset, .unset, .unset, .unset, .unset, .unset] [])) (fun _ k => XS.ifYes X0.here hx rfl (pc0 := 73) (pc' := 81) rfl (hb hby at_73) rfl (XT.i0_eq_t hc73_707) (by decide) (by decide) k) ?_
        refine own_goS (T' := s₁) (g' := (mkF m 82 #[.val (.int p0), .val (.int p1), .val (.int p2), .val (.int p3), .val (.int p4), .val (.int ((1 : Int32) + (p4 &&& (1 : Int32)))), .val (.int ((1 : Int32) + (((p4.toUInt32 >>> ((1 : Int32) &&& 31).toUInt32).toInt32) &&& (1 : Int32)))), .val (.int ((p0 &&& (255 : Int32)).toUInt32.toUInt16.toUInt32.toInt32)), .val (.int ((((p0.toUInt32 >>> ((8 : Int32) &&& 31).toUInt32).toInt32) &&& (255 : Int32)).toUInt32.toUInt16.toUInt32.toInt32)), .val (.int xS0_1), .val (.int xS0_2), .unset, .unset, .unset, .unset, .unset, .unset, .unset, .unset, .unset, .unset] [(.int p1)])) (fun _ k => XS.iloadN X0.here hx rfl (hb hby at_81) rfl k) ?_
        refine own_goS (T' := s₁) (g' := (mkF m 84 #[.val (.int p0), .val (.int p1), .val (.int p2), .val (.int p3), .val (.int p4), .val (.int ((1 : Int32) + (p4 &&& (1 : Int32)))), .val (.int ((1 : Int32) + (((p4.toUInt32 >>> ((1 : Int32) &&& 31).toUInt32).toInt32) &&& (1 : Int32)))), .val (.int ((p0 &&& (255 : Int32)).toUInt32.toUInt16.toUInt32.toInt32)), .val (.int ((((p0.toUInt32 >>> ((8 : Int32) &&& 31).toUInt32).toInt32) &&& (255 : Int32)).toUInt32.toUInt16.toUInt32.toInt32)), .val (.int xS0_1), .val (.int xS0_2), .unset, .unset, .unset, .unset, .unset, .unset, .unset, .unset, .unset, .unset] [(.int (8 : Int32)), (.int p1)])) (fun _ k => XS.bipush X0.here hx rfl (hb hby at_82) k) ?_
        refine own_goS (T' := s₁) (g' := (mkF m 85 #[.val (.int p0), .val (.int p1), .val (.int p2), .val (.int p3), .val (.int p4), .val (.int ((1 : Int32) + (p4 &&& (1 : Int32)))), .val (.int ((1 : Int32) + (((p4.toUInt32 >>> ((1 : Int32) &&& 31).toUInt32).toInt32) &&& (1 : Int32)))), .val (.int ((p0 &&& (255 : Int32)).toUInt32.toUInt16.toUInt32.toInt32)), .val (.int ((((p0.toUInt32 >>> ((8 : Int32) &&& 31).toUInt32).toInt32) &&& (255 : Int32)).toUInt32.toUInt16.toUInt32.toInt32)), .val (.int xS0_1), .val (.int xS0_2), .unset, .unset, .unset, .unset, .unset, .unset, .unset, .unset, .unset, .unset] [(.int ((p1.toUInt32 >>> ((8 : Int32) &&& 31).toUInt32).toInt32))])) (fun _ k => XS.iushr X0.here hx rfl (hb hby at_84) rfl k) ?_
        refine own_goS (T' := s₁) (g' := (mkF m 88 #[.val (.int p0), .val (.int p1), .val (.int p2), .val (.int p3), .val (.int p4), .val (.int ((1 : Int32) + (p4 &&& (1 : Int32)))), .val (.int ((1 : Int32) + (((p4.toUInt32 >>> ((1 : Int32) &&& 31).toUInt32).toInt32) &&& (1 : Int32)))), .val (.int ((p0 &&& (255 : Int32)).toUInt32.toUInt16.toUInt32.toInt32)), .val (.int ((((p0.toUInt32 >>> ((8 : Int32) &&& 31).toUInt32).toInt32) &&& (255 : Int32)).toUInt32.toUInt16.toUInt32.toInt32)), .val (.int xS0_1), .val (.int xS0_2), .unset, .unset, .unset, .unset, .unset, .unset, .unset, .unset, .unset, .unset] [(.int (255 : Int32)), (.int ((p1.toUInt32 >>> ((8 : Int32) &&& 31).toUInt32).toInt32))])) (fun _ k => XS.sipush X0.here hx rfl (hb hby at_85) k) ?_
        refine own_goS (T' := s₁) (g' := (mkF m 89 #[.val (.int p0), .val (.int p1), .val (.int p2), .val (.int p3), .val (.int p4), .val (.int ((1 : Int32) + (p4 &&& (1 : Int32)))), .val (.int ((1 : Int32) + (((p4.toUInt32 >>> ((1 : Int32) &&& 31).toUInt32).toInt32) &&& (1 : Int32)))), .val (.int ((p0 &&& (255 : Int32)).toUInt32.toUInt16.toUInt32.toInt32)), .val (.int ((((p0.toUInt32 >>> ((8 : Int32) &&& 31).toUInt32).toInt32) &&& (255 : Int32)).toUInt32.toUInt16.toUInt32.toInt32)), .val (.int xS0_1), .val (.int xS0_2), .unset, .unset, .unset, .unset, .unset, .unset, .unset, .unset, .unset, .unset] [(.int (((p1.toUInt32 >>> ((8 : Int32) &&& 31).toUInt32).toInt32) &&& (255 : Int32)))])) (fun _ k => XS.iand X0.here hx rfl (hb hby at_88) rfl k) ?_
        refine own_goS (T' := s₁) (g' := (mkF m 90 #[.val (.int p0), .val (.int p1), .val (.int p2), .val (.int p3), .val (.int p4), .val (.int ((1 : Int32) + (p4 &&& (1 : Int32)))), .val (.int ((1 : Int32) + (((p4.toUInt32 >>> ((1 : Int32) &&& 31).toUInt32).toInt32) &&& (1 : Int32)))), .val (.int ((p0 &&& (255 : Int32)).toUInt32.toUInt16.toUInt32.toInt32)), .val (.int ((((p0.toUInt32 >>> ((8 : Int32) &&& 31).toUInt32).toInt32) &&& (255 : Int32)).toUInt32.toUInt16.toUInt32.toInt32)), .val (.int xS0_1), .val (.int xS0_2), .unset, .unset, .unset, .unset, .unset, .unset, .unset, .unset, .unset, .unset] [(.int ((((p1.toUInt32 >>> ((8 : Int32) &&& 31).toUInt32).toInt32) &&& (255 : Int32)).toUInt32.toUInt16.toUInt32.toInt32))])) (fun _ k => XT.i2c X0.here hx rfl (hb hby at_89) rfl k) ?_
        exact J90_3 _ (by rw [if_pos hc73_707])
      · skip
        refine own_goS (T' := s₁) (g' := (mkF m 76 #[.val (.int p0), .val (.int p1), .val (.int p2), .val (.int p3), .val (.int p4), .val (.int ((1 : Int32) + (p4 &&& (1 : Int32)))), .val (.int ((1 : Int32) + (((p4.toUInt32 >>> ((1 : Int32) &&& 31).toUInt32).toInt32) &&& (1 : Int32)))), .val (.int ((p0 &&& (255 : Int32)).toUInt32.toUInt16.toUInt32.toInt32)), .val (.int ((((p0.toUInt32 >>> ((8 : Int32) &&& 31).toUInt32).toInt32) &&& (255 : Int32)).toUInt32.toUInt16.toUInt32.toInt32)), .val (.int xS0_1), .val (.int xS0_2), .unset, .unset, .unset, .unset, .unset, .unset, .unset, .unset, .unset, .unset] [])) (fun _ k => XS.ifNo X0.here hx rfl (hb hby at_73) rfl (XT.i0_eq_f hc73_707) k) ?_
        refine own_goS (T' := s₁) (g' := (mkF m 78 #[.val (.int p0), .val (.int p1), .val (.int p2), .val (.int p3), .val (.int p4), .val (.int ((1 : Int32) + (p4 &&& (1 : Int32)))), .val (.int ((1 : Int32) + (((p4.toUInt32 >>> ((1 : Int32) &&& 31).toUInt32).toInt32) &&& (1 : Int32)))), .val (.int ((p0 &&& (255 : Int32)).toUInt32.toUInt16.toUInt32.toInt32)), .val (.int ((((p0.toUInt32 >>> ((8 : Int32) &&& 31).toUInt32).toInt32) &&& (255 : Int32)).toUInt32.toUInt16.toUInt32.toInt32)), .val (.int xS0_1), .val (.int xS0_2), .unset, .unset, .unset, .unset, .unset, .unset, .unset, .unset, .unset, .unset] [(.int ((((p0.toUInt32 >>> ((8 : Int32) &&& 31).toUInt32).toInt32) &&& (255 : Int32)).toUInt32.toUInt16.toUInt32.toInt32))])) (fun _ k => XS.iload X0.here hx rfl (hb hby at_76) rfl k) ?_
        refine own_goS (T' := s₁) (g' := (mkF m 90 #[.val (.int p0), .val (.int p1), .val (.int p2), .val (.int p3), .val (.int p4), .val (.int ((1 : Int32) + (p4 &&& (1 : Int32)))), .val (.int ((1 : Int32) + (((p4.toUInt32 >>> ((1 : Int32) &&& 31).toUInt32).toInt32) &&& (1 : Int32)))), .val (.int ((p0 &&& (255 : Int32)).toUInt32.toUInt16.toUInt32.toInt32)), .val (.int ((((p0.toUInt32 >>> ((8 : Int32) &&& 31).toUInt32).toInt32) &&& (255 : Int32)).toUInt32.toUInt16.toUInt32.toInt32)), .val (.int xS0_1), .val (.int xS0_2), .unset, .unset, .unset, .unset, .unset, .unset, .unset, .unset, .unset, .unset] [(.int ((((p0.toUInt32 >>> ((8 : Int32) &&& 31).toUInt32).toInt32) &&& (255 : Int32)).toUInt32.toUInt16.toUInt32.toInt32))])) (fun _ k => XS.goto X0.here hx rfl (pc0 := 78) (pc' := 90) rfl (hb hby at_78) (by decide) (by decide) k) ?_
        exact J90_3 _ (by rw [if_neg hc73_707])
    by_cases hc55_708 : xS0_1 = (0 : Int32)
    · skip
      refine own_goS (T' := s₁) (g' := (mkF m 63 #[.val (.int p0), .val (.int p1), .val (.int p2), .val (.int p3), .val (.int p4), .val (.int ((1 : Int32) + (p4 &&& (1 : Int32)))), .val (.int ((1 : Int32) + (((p4.toUInt32 >>> ((1 : Int32) &&& 31).toUInt32).toInt32) &&& (1 : Int32)))), .val (.int ((p0 &&& (255 : Int32)).toUInt32.toUInt16.toUInt32.toInt32)), .val (.int ((((p0.toUInt32 >>> ((8 : Int32) &&& 31).toUInt32).toInt32) &&& (255 : Int32)).toUInt32.toUInt16.toUInt32.toInt32)), .val (.int xS0_1), .unset, .unset, .unset, .unset, .unset, .unset, .unset, .unset, .unset, .unset, .unset] [])) (fun _ k => XS.ifYes X0.here hx rfl (pc0 := 55) (pc' := 63) rfl (hb hby at_55) rfl (XT.i0_eq_t hc55_708) (by decide) (by decide) k) ?_
      refine own_goS (T' := s₁) (g' := (mkF m 64 #[.val (.int p0), .val (.int p1), .val (.int p2), .val (.int p3), .val (.int p4), .val (.int ((1 : Int32) + (p4 &&& (1 : Int32)))), .val (.int ((1 : Int32) + (((p4.toUInt32 >>> ((1 : Int32) &&& 31).toUInt32).toInt32) &&& (1 : Int32)))), .val (.int ((p0 &&& (255 : Int32)).toUInt32.toUInt16.toUInt32.toInt32)), .val (.int ((((p0.toUInt32 >>> ((8 : Int32) &&& 31).toUInt32).toInt32) &&& (255 : Int32)).toUInt32.toUInt16.toUInt32.toInt32)), .val (.int xS0_1), .unset, .unset, .unset, .unset, .unset, .unset, .unset, .unset, .unset, .unset, .unset] [(.int p1)])) (fun _ k => XS.iloadN X0.here hx rfl (hb hby at_63) rfl k) ?_
      refine own_goS (T' := s₁) (g' := (mkF m 67 #[.val (.int p0), .val (.int p1), .val (.int p2), .val (.int p3), .val (.int p4), .val (.int ((1 : Int32) + (p4 &&& (1 : Int32)))), .val (.int ((1 : Int32) + (((p4.toUInt32 >>> ((1 : Int32) &&& 31).toUInt32).toInt32) &&& (1 : Int32)))), .val (.int ((p0 &&& (255 : Int32)).toUInt32.toUInt16.toUInt32.toInt32)), .val (.int ((((p0.toUInt32 >>> ((8 : Int32) &&& 31).toUInt32).toInt32) &&& (255 : Int32)).toUInt32.toUInt16.toUInt32.toInt32)), .val (.int xS0_1), .unset, .unset, .unset, .unset, .unset, .unset, .unset, .unset, .unset, .unset, .unset] [(.int (255 : Int32)), (.int p1)])) (fun _ k => XS.sipush X0.here hx rfl (hb hby at_64) k) ?_
      refine own_goS (T' := s₁) (g' := (mkF m 68 #[.val (.int p0), .val (.int p1), .val (.int p2), .val (.int p3), .val (.int p4), .val (.int ((1 : Int32) + (p4 &&& (1 : Int32)))), .val (.int ((1 : Int32) + (((p4.toUInt32 >>> ((1 : Int32) &&& 31).toUInt32).toInt32) &&& (1 : Int32)))), .val (.int ((p0 &&& (255 : Int32)).toUInt32.toUInt16.toUInt32.toInt32)), .val (.int ((((p0.toUInt32 >>> ((8 : Int32) &&& 31).toUInt32).toInt32) &&& (255 : Int32)).toUInt32.toUInt16.toUInt32.toInt32)), .val (.int xS0_1), .unset, .unset, .unset, .unset, .unset, .unset, .unset, .unset, .unset, .unset, .unset] [(.int (p1 &&& (255 : Int32)))])) (fun _ k => XS.iand X0.here hx rfl (hb hby at_67) rfl k) ?_
      refine own_goS (T' := s₁) (g' := (mkF m 69 #[.val (.int p0), .val (.int p1), .val (.int p2), .val (.int p3), .val (.int p4), .val (.int ((1 : Int32) + (p4 &&& (1 : Int32)))), .val (.int ((1 : Int32) + (((p4.toUInt32 >>> ((1 : Int32) &&& 31).toUInt32).toInt32) &&& (1 : Int32)))), .val (.int ((p0 &&& (255 : Int32)).toUInt32.toUInt16.toUInt32.toInt32)), .val (.int ((((p0.toUInt32 >>> ((8 : Int32) &&& 31).toUInt32).toInt32) &&& (255 : Int32)).toUInt32.toUInt16.toUInt32.toInt32)), .val (.int xS0_1), .unset, .unset, .unset, .unset, .unset, .unset, .unset, .unset, .unset, .unset, .unset] [(.int ((p1 &&& (255 : Int32)).toUInt32.toUInt16.toUInt32.toInt32))])) (fun _ k => XT.i2c X0.here hx rfl (hb hby at_68) rfl k) ?_
      exact J69_2 _ (by rw [if_pos hc55_708])
    · skip
      refine own_goS (T' := s₁) (g' := (mkF m 58 #[.val (.int p0), .val (.int p1), .val (.int p2), .val (.int p3), .val (.int p4), .val (.int ((1 : Int32) + (p4 &&& (1 : Int32)))), .val (.int ((1 : Int32) + (((p4.toUInt32 >>> ((1 : Int32) &&& 31).toUInt32).toInt32) &&& (1 : Int32)))), .val (.int ((p0 &&& (255 : Int32)).toUInt32.toUInt16.toUInt32.toInt32)), .val (.int ((((p0.toUInt32 >>> ((8 : Int32) &&& 31).toUInt32).toInt32) &&& (255 : Int32)).toUInt32.toUInt16.toUInt32.toInt32)), .val (.int xS0_1), .unset, .unset, .unset, .unset, .unset, .unset, .unset, .unset, .unset, .unset, .unset] [])) (fun _ k => XS.ifNo X0.here hx rfl (hb hby at_55) rfl (XT.i0_eq_f hc55_708) k) ?_
      refine own_goS (T' := s₁) (g' := (mkF m 60 #[.val (.int p0), .val (.int p1), .val (.int p2), .val (.int p3), .val (.int p4), .val (.int ((1 : Int32) + (p4 &&& (1 : Int32)))), .val (.int ((1 : Int32) + (((p4.toUInt32 >>> ((1 : Int32) &&& 31).toUInt32).toInt32) &&& (1 : Int32)))), .val (.int ((p0 &&& (255 : Int32)).toUInt32.toUInt16.toUInt32.toInt32)), .val (.int ((((p0.toUInt32 >>> ((8 : Int32) &&& 31).toUInt32).toInt32) &&& (255 : Int32)).toUInt32.toUInt16.toUInt32.toInt32)), .val (.int xS0_1), .unset, .unset, .unset, .unset, .unset, .unset, .unset, .unset, .unset, .unset, .unset] [(.int ((p0 &&& (255 : Int32)).toUInt32.toUInt16.toUInt32.toInt32))])) (fun _ k => XS.iload X0.here hx rfl (hb hby at_58) rfl k) ?_
      refine own_goS (T' := s₁) (g' := (mkF m 69 #[.val (.int p0), .val (.int p1), .val (.int p2), .val (.int p3), .val (.int p4), .val (.int ((1 : Int32) + (p4 &&& (1 : Int32)))), .val (.int ((1 : Int32) + (((p4.toUInt32 >>> ((1 : Int32) &&& 31).toUInt32).toInt32) &&& (1 : Int32)))), .val (.int ((p0 &&& (255 : Int32)).toUInt32.toUInt16.toUInt32.toInt32)), .val (.int ((((p0.toUInt32 >>> ((8 : Int32) &&& 31).toUInt32).toInt32) &&& (255 : Int32)).toUInt32.toUInt16.toUInt32.toInt32)), .val (.int xS0_1), .unset, .unset, .unset, .unset, .unset, .unset, .unset, .unset, .unset, .unset, .unset] [(.int ((p0 &&& (255 : Int32)).toUInt32.toUInt16.toUInt32.toInt32))])) (fun _ k => XS.goto X0.here hx rfl (pc0 := 60) (pc' := 69) rfl (hb hby at_60) (by decide) (by decide) k) ?_
      exact J69_2 _ (by rw [if_neg hc55_708])
  by_cases hc43_709 : (((p4.toUInt32 >>> ((2 : Int32) &&& 31).toUInt32).toInt32) &&& (1 : Int32)) = (0 : Int32)
  · skip
    refine own_goS (T' := s₁) (g' := (mkF m 50 #[.val (.int p0), .val (.int p1), .val (.int p2), .val (.int p3), .val (.int p4), .val (.int ((1 : Int32) + (p4 &&& (1 : Int32)))), .val (.int ((1 : Int32) + (((p4.toUInt32 >>> ((1 : Int32) &&& 31).toUInt32).toInt32) &&& (1 : Int32)))), .val (.int ((p0 &&& (255 : Int32)).toUInt32.toUInt16.toUInt32.toInt32)), .val (.int ((((p0.toUInt32 >>> ((8 : Int32) &&& 31).toUInt32).toInt32) &&& (255 : Int32)).toUInt32.toUInt16.toUInt32.toInt32)), .unset, .unset, .unset, .unset, .unset, .unset, .unset, .unset, .unset, .unset, .unset, .unset] [])) (fun _ k => XS.ifYes X0.here hx rfl (pc0 := 43) (pc' := 50) rfl (hb hby at_43) rfl (XT.i0_eq_t hc43_709) (by decide) (by decide) k) ?_
    refine own_goS (T' := s₁) (g' := (mkF m 51 #[.val (.int p0), .val (.int p1), .val (.int p2), .val (.int p3), .val (.int p4), .val (.int ((1 : Int32) + (p4 &&& (1 : Int32)))), .val (.int ((1 : Int32) + (((p4.toUInt32 >>> ((1 : Int32) &&& 31).toUInt32).toInt32) &&& (1 : Int32)))), .val (.int ((p0 &&& (255 : Int32)).toUInt32.toUInt16.toUInt32.toInt32)), .val (.int ((((p0.toUInt32 >>> ((8 : Int32) &&& 31).toUInt32).toInt32) &&& (255 : Int32)).toUInt32.toUInt16.toUInt32.toInt32)), .unset, .unset, .unset, .unset, .unset, .unset, .unset, .unset, .unset, .unset, .unset, .unset] [(.int (0 : Int32))])) (fun _ k => XS.iconst X0.here hx rfl (hb hby at_50) k) ?_
    exact J51_1 _ (by rw [if_pos hc43_709])
  · skip
    refine own_goS (T' := s₁) (g' := (mkF m 46 #[.val (.int p0), .val (.int p1), .val (.int p2), .val (.int p3), .val (.int p4), .val (.int ((1 : Int32) + (p4 &&& (1 : Int32)))), .val (.int ((1 : Int32) + (((p4.toUInt32 >>> ((1 : Int32) &&& 31).toUInt32).toInt32) &&& (1 : Int32)))), .val (.int ((p0 &&& (255 : Int32)).toUInt32.toUInt16.toUInt32.toInt32)), .val (.int ((((p0.toUInt32 >>> ((8 : Int32) &&& 31).toUInt32).toInt32) &&& (255 : Int32)).toUInt32.toUInt16.toUInt32.toInt32)), .unset, .unset, .unset, .unset, .unset, .unset, .unset, .unset, .unset, .unset, .unset, .unset] [])) (fun _ k => XS.ifNo X0.here hx rfl (hb hby at_43) rfl (XT.i0_eq_f hc43_709) k) ?_
    refine own_goS (T' := s₁) (g' := (mkF m 47 #[.val (.int p0), .val (.int p1), .val (.int p2), .val (.int p3), .val (.int p4), .val (.int ((1 : Int32) + (p4 &&& (1 : Int32)))), .val (.int ((1 : Int32) + (((p4.toUInt32 >>> ((1 : Int32) &&& 31).toUInt32).toInt32) &&& (1 : Int32)))), .val (.int ((p0 &&& (255 : Int32)).toUInt32.toUInt16.toUInt32.toInt32)), .val (.int ((((p0.toUInt32 >>> ((8 : Int32) &&& 31).toUInt32).toInt32) &&& (255 : Int32)).toUInt32.toUInt16.toUInt32.toInt32)), .unset, .unset, .unset, .unset, .unset, .unset, .unset, .unset, .unset, .unset, .unset, .unset] [(.int (1 : Int32))])) (fun _ k => XS.iconst X0.here hx rfl (hb hby at_46) k) ?_
    refine own_goS (T' := s₁) (g' := (mkF m 51 #[.val (.int p0), .val (.int p1), .val (.int p2), .val (.int p3), .val (.int p4), .val (.int ((1 : Int32) + (p4 &&& (1 : Int32)))), .val (.int ((1 : Int32) + (((p4.toUInt32 >>> ((1 : Int32) &&& 31).toUInt32).toInt32) &&& (1 : Int32)))), .val (.int ((p0 &&& (255 : Int32)).toUInt32.toUInt16.toUInt32.toInt32)), .val (.int ((((p0.toUInt32 >>> ((8 : Int32) &&& 31).toUInt32).toInt32) &&& (255 : Int32)).toUInt32.toUInt16.toUInt32.toInt32)), .unset, .unset, .unset, .unset, .unset, .unset, .unset, .unset, .unset, .unset, .unset, .unset] [(.int (1 : Int32))])) (fun _ k => XS.goto X0.here hx rfl (pc0 := 47) (pc' := 51) rfl (hb hby at_47) (by decide) (by decide) k) ?_
    exact J51_1 _ (by rw [if_neg hc43_709])
set_option maxRecDepth 65536 in
set_option maxHeartbeats 40000000 in
theorem comes_1 {Post : Tables → Env → Array Value → State → Outcome → State → Prop} (hpost : ∀ tb e args s v u, (limb_1_1.after args s (.returned v) u = true ∧ limb_1_2.after args s (.returned v) u = true ∧ True) → ReturnedEndW s (.returned v) u (Jvm.fieldLocs frame_1_writes args s ++ Jvm.arrayLocs frame_1_arrays args s ++ Jvm.staticLocs frame_1_statics s) 32 1152 → Post tb e args s (.returned v) u) :
    ArmFor flags0 classFile x code maxLocals ret World_1 tables_1 room_1 Calls_1 rest_1 Pre_1 Post := by
  intro l hfl _ _ p e ha hc hk s m args below hf hA hF happ hP
  obtain ⟨hcalls, hrest, hpre⟩ := hP
  obtain ⟨-, -, -, hnamed, -, -, -, hat⟩ := (Spec.applies_iff hf).mp happ
  obtain ⟨hg, hn⟩ := and_e (Cond.before_iff.mp (show (Jvm.Cond.and given_1 narrow_1).before args s = true from hpre))
  obtain ⟨g1, g2⟩ := and_e hg
  obtain ⟨g3, g4⟩ := and_e g2
  obtain ⟨g5, g6⟩ := and_e g4
  obtain ⟨g7, g8⟩ := and_e g6
  obtain ⟨g9, g10⟩ := and_e g8
  obtain ⟨w0, w1, w2, w3, w4, rfl⟩ : ∃ w0 w1 w2 w3 w4 : Value, args = #[w0, w1, w2, w3, w4] := by
    have hs : args.size = 5 := by simpa [Cond.value, given_1] using g1
    obtain ⟨L⟩ := args
    match L, hs with
    | [w0, w1, w2, w3, w4], _ => exact ⟨w0, w1, w2, w3, w4, rfl⟩
  have hw := fun d (hd : d ∈ tables_1) => atoms_spec (ws := Jvm.Cond.code x code maxLocals ret :: tables_1) hat d (List.mem_cons_of_mem _ hd)
  have hfit : Fit s := fun {y c} hc i hi => by
    obtain ⟨ha, rfl⟩ := Array.getElem?_eq_some_iff.mp hc
    have q := List.all_eq_true.mp ((Array.all_eq_true_iff_forall_mem.mp hF) _ (Array.getElem_mem ha)) i (List.mem_range.mpr hi)
    simpa [Array.getElem?_eq_getElem hi] using q
  obtain ⟨hsets, hown0⟩ := atoms_of _ (rest_1_c_eq ▸ (show rest_1_c.before _ s = true from hrest))
  have hr0 := Cond.before_iff.mp hown0
  obtain ⟨i0, ei0⟩ := is_v g3
  obtain rfl : w0 = (.int i0) := Option.some.inj ei0
  obtain ⟨i1, ei1⟩ := is_v g5
  obtain rfl : w1 = (.int i1) := Option.some.inj ei1
  obtain ⟨i2, ei2⟩ := is_v g7
  obtain rfl : w2 = (.int i2) := Option.some.inj ei2
  obtain ⟨i3, ei3⟩ := is_v g9
  obtain rfl : w3 = (.int i3) := Option.some.inj ei3
  obtain ⟨i4, ei4⟩ := is_v g10
  obtain rfl : w4 = (.int i4) := Option.some.inj ei4
  obtain ⟨csv, ecs⟩ := is_v (Cond.before_iff.mp (hsets _ (List.mem_of_getElem? (i := 1) rfl)))
  have Scs : Sta s s.heap "java/lang/String" "COMPACT_STRINGS" "Z" (.int csv) := Sta.start ecs (Or.inl (hsets _ (List.mem_of_getElem? (i := 0) rfl)))
  have ncs : ¬ csv = (0 : Int32) := gotF (Cond.eq_ints ecs (Term.int_eval (0))) (not_v (Cond.before_iff.mp (hsets _ (List.mem_of_getElem? (i := 2) rfl))))
  obtain ⟨n, o, h1, h2, h3, _, L, rfl, ⟨rfl, N⟩, hq⟩ := rm0 l s _ hw tables_1 i0 i1 i2 i3 i4 csv s.heap s.heap.size (Nat.le_refl _) Scs ncs p e ha hc hk s m _ below hf ((Spec.applies_iff_loose hf).mp happ).1 ⟨rfl, State.Warmed39.refl s, rfl⟩ trivial
  refine ⟨n, _, h1, h2, h3, hpost _ _ _ _ _ _ ⟨Cond.after_iff.mpr rfl, Cond.after_iff.mpr (eq_i res_at (Term.int_eval (1)) rfl), trivial⟩ ⟨hq.1, hq.2.1, hq.2.2.1, (hq.2.2.2.sift fun y hy => Or.inr (N y hy)).mono (by decide) (by decide)⟩⟩
theorem main_1_1 : Claimed_1_1 := comes_1 fun _ _ _ _ _ _ h hF => ⟨h.1, hF⟩
theorem main_1_2 : Claimed_1_2 := comes_1 fun _ _ _ _ _ _ h hF => ⟨h.2.1, hF⟩
end Jvm.Pilot.@@N@@
namespace Jvm.Pilot.@@N@@
open Jvm Jvm.ClassFile Sem Op Lib Jvm.Free Jvm.Stand Jvm.Pilot.@@N@@.Jvm.D
/-! MADE BY PROGRAM (witnessworld.py) out of the Statement's table words and the real class files: 21 classes; the members and pool entries that the words name. The judged class is class 1, her method 1. -/
namespace start1
open Jvm.ClassFile
def u (s : String) : CpInfo := .utf8 (stringToUtf16 s)
/-- a pool by its gaps: so many unusable entries, then the entry; so many at the end -/
def gap : Nat → List CpInfo → List CpInfo
  | 0, r => r
  | n + 1, r => .unusable :: gap n r
def poolList (es : List (Nat × CpInfo)) (last : Nat) : List CpInfo := es.foldr (fun e r => gap e.1 (e.2 :: r)) (gap last [])
def pool (es : List (Nat × CpInfo)) (last : Nat) : Array CpInfo := ⟨poolList es last⟩
def fileOf (pool : Array CpInfo) (this : Nat) (attrs : Array Attribute := #[]) (ms : Array MethodInfo := #[]) (fl : Nat := 33) (sup : Nat := 0) (ifs : Array Nat := #[]) (fds : Array FieldInfo := #[]) : ClassFile where
  minorVersion := 0
  majorVersion := 65
  constantPool := pool
  accessFlags := fl
  thisClass := this
  superClass := sup
  interfaces := ifs
  fields := fds
  methods := ms
  attributes := attrs
def plain (name : String) (sup : Option ClassId) : Class where
  name := name
  kind := .ordinary
  loader := none
  accessFlags := 33
  super := sup
  interfaces := #[]
  cf := none
  fields := #[]
  methods := #[]
  instanceTypes := #[]
  staticTypes := #[]
  resolved := #[]
  callSites := []
  init := .initialized
  statics := none
  mirror := none

def pool0 : Array CpInfo := pool [(5, u "<init>"), (0, u "()V"), (1, .class_ 10), (1, u "java/lang/Object")] 113

def k0c0 : Code := { maxStack := 0, maxLocals := 1, code := object_method_1_code, exceptionTable := #[], attributes := #[] }
def k0m0 : Method := { name := "<init>", desc := "()V", sig := { parameters := [], returnType := none }, accessFlags := 1, code := some k0c0 }
/-- java/lang/Object -/
def k0 : Class := { plain "java/lang/Object" none with
  accessFlags := 33
  interfaces := #[]
  cf := some (fileOf pool0 8 #[] #[{ accessFlags := 1, nameIndex := 5, descriptorIndex := 6, attributes := #[] }] 33 0 #[] #[])
  fields := #[]
  methods := #[k0m0]
  instanceTypes := #[]
  staticTypes := #[]
  resolved := Array.replicate 124 none
  statics := none }

def pool1 : Array CpInfo := pool [(2, .class_ 4), (1, u "java/lang/Object"), (0, u "<init>"), (0, u "()V"), (0, .integer 2147483647), (0, .class_ 9), (0, u "java/lang/String"), (0, .methodref 8 11), (0, .nameAndType 5 12), (0, u "([C)V"), (0, .class_ 14), (0, u "com/example/node_ring/nodering/pool/Server"), (0, .methodref 13 16), (0, .nameAndType 5 17), (0, u "(Ljava/lang/String;I)V"), (0, .methodref 13 19), (0, .nameAndType 20 21), (0, u "equals"), (0, u "(Ljava/lang/Object;)Z"), (0, .class_ 23), (0, u "com/example/node_ring/nodering/pool/ServerEqualsPinLaw"), (2, u "law"), (0, u "(IIIII)Z")] 3

def k1m0 : Method := { name := "<init>", desc := "()V", sig := { parameters := [], returnType := none }, accessFlags := 1, code := none }
def k1c1 : Code := { maxStack := 6, maxLocals := 21, code := code, exceptionTable := #[], attributes := #[] }
def k1m1 : Method := { name := "law", desc := "(IIIII)Z", sig := { parameters := [.int, .int, .int, .int, .int], returnType := some .boolean }, accessFlags := 9, code := some k1c1 }
/-- com/example/node_ring/nodering/pool/ServerEqualsPinLaw -/
def k1 : Class := { plain "com/example/node_ring/nodering/pool/ServerEqualsPinLaw" (some 0) with
  accessFlags := 49
  interfaces := #[]
  cf := some (fileOf pool1 22 #[] #[{ accessFlags := 1, nameIndex := 5, descriptorIndex := 6, attributes := #[] }, { accessFlags := 9, nameIndex := 26, descriptorIndex := 27, attributes := #[] }] 49 2 #[] #[])
  fields := #[]
  methods := #[k1m0, k1m1]
  instanceTypes := #[]
  staticTypes := #[]
  resolved := Array.replicate 31 none
  statics := none }

def pool2 : Array CpInfo := pool [(1, .class_ 2), (0, u "java/io/Serializable"), (0, .class_ 4), (0, u "java/lang/Object")] 2

/-- java/io/Serializable -/
def k2 : Class := { plain "java/io/Serializable" (some 0) with
  accessFlags := 1537
  interfaces := #[]
  cf := some (fileOf pool2 1 #[] #[] 1537 3 #[] #[])
  fields := #[]
  methods := #[]
  instanceTypes := #[]
  staticTypes := #[]
  resolved := Array.replicate 7 none
  statics := none }

def pool3 : Array CpInfo := pool [(1, .class_ 2), (0, u "java/lang/Comparable"), (0, .class_ 4), (0, u "java/lang/Object")] 7

/-- java/lang/Comparable -/
def k3 : Class := { plain "java/lang/Comparable" (some 0) with
  accessFlags := 1537
  interfaces := #[]
  cf := some (fileOf pool3 1 #[] #[] 1537 3 #[] #[])
  fields := #[]
  methods := #[]
  instanceTypes := #[]
  staticTypes := #[]
  resolved := Array.replicate 12 none
  statics := none }

def pool4 : Array CpInfo := pool [(2, .class_ 4), (1, u "java/lang/CharSequence"), (42, .class_ 48), (0, u "java/lang/CharSequence$1CodePointIterator"), (10, .class_ 60), (0, u "java/lang/CharSequence$1CharIterator"), (5, .class_ 67), (0, u "java/lang/Object")] 63

/-- java/lang/CharSequence -/
def k4 : Class := { plain "java/lang/CharSequence" (some 0) with
  accessFlags := 1537
  interfaces := #[]
  cf := some (fileOf pool4 2 #[.nestMembers #[47, 59]] #[] 1537 66 #[] #[])
  fields := #[]
  methods := #[]
  instanceTypes := #[]
  staticTypes := #[]
  resolved := Array.replicate 131 none
  statics := none }

def pool5 : Array CpInfo := pool [(1, .class_ 2), (0, u "java/lang/constant/Constable"), (0, .class_ 4), (0, u "java/lang/Object")] 6

/-- java/lang/constant/Constable -/
def k5 : Class := { plain "java/lang/constant/Constable" (some 0) with
  accessFlags := 1537
  interfaces := #[]
  cf := some (fileOf pool5 1 #[] #[] 1537 3 #[] #[])
  fields := #[]
  methods := #[]
  instanceTypes := #[]
  staticTypes := #[]
  resolved := Array.replicate 11 none
  statics := none }

def pool6 : Array CpInfo := pool [(1, .class_ 2), (0, u "java/lang/constant/ConstantDesc"), (0, .class_ 4), (0, u "java/lang/Object")] 32

/-- java/lang/constant/ConstantDesc -/
def k6 : Class := { plain "java/lang/constant/ConstantDesc" (some 0) with
  accessFlags := 1537
  interfaces := #[]
  cf := some (fileOf pool6 1 #[] #[] 1537 3 #[] #[])
  fields := #[]
  methods := #[]
  instanceTypes := #[]
  staticTypes := #[]
  resolved := Array.replicate 37 none
  statics := none }

def pool7 : Array CpInfo := pool [(1, .methodref 2 3), (0, .class_ 4), (0, .nameAndType 5 6), (0, u "java/lang/Object"), (0, u "<init>"), (0, u "()V"), (2, .fieldref 10 11), (0, .class_ 12), (0, .nameAndType 13 14), (0, u "java/lang/String"), (0, u "value"), (0, u "[B"), (0, .fieldref 10 16), (0, .nameAndType 17 18), (0, u "coder"), (0, u "B"), (2, u "hash"), (0, u "I"), (2, u "hashIsZero"), (0, u "Z"), (0, .methodref 10 28), (0, .nameAndType 5 29), (0, u "([CIILjava/lang/Void;)V"), (8, .fieldref 10 39), (0, .nameAndType 40 26), (0, u "COMPACT_STRINGS"), (1, .class_ 44), (1, u "java/lang/StringUTF16"), (0, u "compress"), (1, .methodref 42 48), (0, .nameAndType 49 50), (0, u "coderFromArrayLen"), (0, u "([BI)B"), (56, .class_ 109), (1, u "java/lang/StringLatin1"), (32, u "()Z"), (34, .methodref 42 178), (0, .nameAndType 45 179), (0, u "([CII)[B"), (361, .methodref 107 542), (0, .nameAndType 543 544), (0, u "equals"), (0, u "([B[B)Z"), (28, u "(Ljava/lang/Object;)Z"), (1, .class_ 576), (0, u "java/lang/CharSequence"), (22, u "CASE_INSENSITIVE_ORDER"), (0, u "Ljava/util/Comparator;"), (91, u "isEmpty"), (317, u "([C)V"), (90, u "serialPersistentFields"), (0, u "[Ljava/io/ObjectStreamField;"), (0, .class_ 1104), (0, u "java/lang/String$CaseInsensitiveComparator"), (1, .class_ 1107), (0, u "java/io/Serializable"), (0, .class_ 1109), (0, u "java/lang/Comparable"), (0, .class_ 1111), (0, u "java/lang/constant/Constable"), (0, .class_ 1113), (0, u "java/lang/constant/ConstantDesc"), (2, u "serialVersionUID"), (0, u "J"), (3, u "REPL"), (0, u "C"), (2, u "LATIN1"), (1, u "UTF16")] 323

def k7m0 : Method := { name := "<init>", desc := "()V", sig := { parameters := [], returnType := none }, accessFlags := 1, code := none }
def k7c1 : Code := { maxStack := 5, maxLocals := 2, code := jdk_42_method_3_code, exceptionTable := #[], attributes := #[] }
def k7m1 : Method := { name := "<init>", desc := "([C)V", sig := { parameters := [(.array .char)], returnType := none }, accessFlags := 1, code := some k7c1 }
def k7c2 : Code := { maxStack := 1, maxLocals := 1, code := jdk_42_method_55_code, exceptionTable := #[], attributes := #[] }
def k7m2 : Method := { name := "isEmpty", desc := "()Z", sig := { parameters := [], returnType := some .boolean }, accessFlags := 1, code := some k7c2 }
def k7c3 : Code := { maxStack := 2, maxLocals := 3, code := jdk_42_method_66_code, exceptionTable := #[], attributes := #[] }
def k7m3 : Method := { name := "equals", desc := "(Ljava/lang/Object;)Z", sig := { parameters := [(.object "java/lang/Object")], returnType := some .boolean }, accessFlags := 1, code := some k7c3 }
def k7c4 : Code := { maxStack := 4, maxLocals := 6, code := jdk_42_method_149_code, exceptionTable := #[], attributes := #[] }
def k7m4 : Method := { name := "<init>", desc := "([CIILjava/lang/Void;)V", sig := { parameters := [(.array .char), .int, .int, (.object "java/lang/Void")], returnType := none }, accessFlags := 2, code := some k7c4 }
/-- java/lang/String -/
def k7 : Class := { plain "java/lang/String" (some 0) with
  accessFlags := 49
  interfaces := #[2, 3, 4, 5, 6]
  cf := some (fileOf pool7 10 #[.nestMembers #[1103]] #[{ accessFlags := 1, nameIndex := 5, descriptorIndex := 6, attributes := #[] }, { accessFlags := 1, nameIndex := 5, descriptorIndex := 1010, attributes := #[] }, { accessFlags := 1, nameIndex := 692, descriptorIndex := 142, attributes := #[] }, { accessFlags := 1, nameIndex := 543, descriptorIndex := 573, attributes := #[] }, { accessFlags := 2, nameIndex := 5, descriptorIndex := 29, attributes := #[] }] 49 2 #[1106, 1108, 575, 1110, 1112] #[{ accessFlags := 18, nameIndex := 13, descriptorIndex := 14, attributes := #[] }, { accessFlags := 18, nameIndex := 17, descriptorIndex := 18, attributes := #[] }, { accessFlags := 2, nameIndex := 21, descriptorIndex := 22, attributes := #[] }, { accessFlags := 2, nameIndex := 25, descriptorIndex := 26, attributes := #[] }, { accessFlags := 26, nameIndex := 1116, descriptorIndex := 1117, attributes := #[] }, { accessFlags := 24, nameIndex := 40, descriptorIndex := 26, attributes := #[] }, { accessFlags := 26, nameIndex := 1101, descriptorIndex := 1102, attributes := #[] }, { accessFlags := 26, nameIndex := 1121, descriptorIndex := 1122, attributes := #[] }, { accessFlags := 25, nameIndex := 599, descriptorIndex := 600, attributes := #[] }, { accessFlags := 24, nameIndex := 1125, descriptorIndex := 18, attributes := #[] }, { accessFlags := 24, nameIndex := 1127, descriptorIndex := 18, attributes := #[] }])
  fields := #[{ name := "value", type := (.array .byte), accessFlags := 18, slot := 0, constantValue := 0 }, { name := "coder", type := .byte, accessFlags := 18, slot := 1, constantValue := 0 }, { name := "hash", type := .int, accessFlags := 2, slot := 2, constantValue := 0 }, { name := "hashIsZero", type := .boolean, accessFlags := 2, slot := 3, constantValue := 0 }, { name := "serialVersionUID", type := .long, accessFlags := 26, slot := 0, constantValue := 0 }, { name := "COMPACT_STRINGS", type := .boolean, accessFlags := 24, slot := 1, constantValue := 0 }, { name := "serialPersistentFields", type := (.array (.object "java/io/ObjectStreamField")), accessFlags := 26, slot := 2, constantValue := 0 }, { name := "REPL", type := .char, accessFlags := 26, slot := 3, constantValue := 0 }, { name := "CASE_INSENSITIVE_ORDER", type := (.object "java/util/Comparator"), accessFlags := 25, slot := 4, constantValue := 0 }, { name := "LATIN1", type := .byte, accessFlags := 24, slot := 5, constantValue := 0 }, { name := "UTF16", type := .byte, accessFlags := 24, slot := 6, constantValue := 0 }]
  methods := #[k7m0, k7m1, k7m2, k7m3, k7m4]
  instanceTypes := #[(.array .byte), .byte, .int, .boolean]
  staticTypes := #[.long, .boolean, (.array (.object "java/io/ObjectStreamField")), .char, (.object "java/util/Comparator"), .byte, .byte]
  resolved := Array.replicate 1451 none
  statics := some 0 }

def pool8 : Array CpInfo := pool [(6, .class_ 8), (1, u "java/lang/Object"), (0, u "<init>"), (0, u "()V"), (1, .class_ 14), (1, u "java/lang/StringUTF16"), (31, u "$assertionsDisabled"), (0, u "Z"), (13, u "HI_BYTE_SHIFT"), (0, u "I"), (2, u "LO_BYTE_SHIFT"), (49, .methodref 12 116), (0, .nameAndType 117 118), (0, u "compress"), (0, u "([CI[BII)I"), (3, u "([CII)[B"), (138, u "coderFromArrayLen"), (0, u "([BI)B"), (106, .class_ 371), (1, u "java/lang/StringUTF16$LinesSpliterator"), (58, u "MAX_LENGTH"), (196, .class_ 628), (0, u "java/lang/StringUTF16$CodePointsSpliterator"), (0, .class_ 630), (0, u "java/lang/StringUTF16$CharsSpliterator")] 4

def k8m0 : Method := { name := "<init>", desc := "()V", sig := { parameters := [], returnType := none }, accessFlags := 0, code := none }
def k8c1 : Code := { maxStack := 2, maxLocals := 2, code := jdk_52_method_15_code, exceptionTable := #[], attributes := #[] }
def k8m1 : Method := { name := "coderFromArrayLen", desc := "([BI)B", sig := { parameters := [(.array .byte), .int], returnType := some .byte }, accessFlags := 8, code := some k8c1 }
def k8c2 : Code := { maxStack := 5, maxLocals := 6, code := jdk_52_method_16_code, exceptionTable := #[], attributes := #[] }
def k8m2 : Method := { name := "compress", desc := "([CII)[B", sig := { parameters := [(.array .char), .int, .int], returnType := some (.array .byte) }, accessFlags := 9, code := some k8c2 }
def k8c3 : Code := { maxStack := 3, maxLocals := 7, code := jdk_52_method_21_code, exceptionTable := #[], attributes := #[] }
def k8m3 : Method := { name := "compress", desc := "([CI[BII)I", sig := { parameters := [(.array .char), .int, (.array .byte), .int, .int], returnType := some .int }, accessFlags := 9, code := some k8c3 }
/-- java/lang/StringUTF16 -/
def k8 : Class := { plain "java/lang/StringUTF16" (some 0) with
  accessFlags := 48
  interfaces := #[]
  cf := some (fileOf pool8 12 #[.nestMembers #[627, 629, 369]] #[{ accessFlags := 0, nameIndex := 9, descriptorIndex := 10, attributes := #[] }, { accessFlags := 8, nameIndex := 261, descriptorIndex := 262, attributes := #[] }, { accessFlags := 9, nameIndex := 117, descriptorIndex := 122, attributes := #[] }, { accessFlags := 9, nameIndex := 117, descriptorIndex := 118, attributes := #[] }] 48 6 #[] #[{ accessFlags := 26, nameIndex := 61, descriptorIndex := 62, attributes := #[] }, { accessFlags := 26, nameIndex := 65, descriptorIndex := 62, attributes := #[] }, { accessFlags := 24, nameIndex := 430, descriptorIndex := 62, attributes := #[] }, { accessFlags := 4120, nameIndex := 46, descriptorIndex := 47, attributes := #[] }])
  fields := #[{ name := "HI_BYTE_SHIFT", type := .int, accessFlags := 26, slot := 0, constantValue := 0 }, { name := "LO_BYTE_SHIFT", type := .int, accessFlags := 26, slot := 1, constantValue := 0 }, { name := "MAX_LENGTH", type := .int, accessFlags := 24, slot := 2, constantValue := 0 }, { name := "$assertionsDisabled", type := .boolean, accessFlags := 4120, slot := 3, constantValue := 0 }]
  methods := #[k8m0, k8m1, k8m2, k8m3]
  instanceTypes := #[]
  staticTypes := #[.int, .int, .int, .boolean]
  resolved := Array.replicate 635 none
  statics := none }

def pool9 : Array CpInfo := pool [(1, .methodref 2 3), (0, .class_ 4), (0, .nameAndType 5 6), (0, u "java/lang/Object"), (0, u "<init>"), (0, u "()V"), (0, .string 8), (0, u "name"), (0, .methodref 10 11), (0, .class_ 12), (0, .nameAndType 13 14), (0, u "java/util/Objects"), (0, u "requireNonNull"), (0, u "(Ljava/lang/Object;Ljava/lang/String;)Ljava/lang/Object;"), (0, .methodref 16 17), (0, .class_ 18), (0, .nameAndType 19 20), (0, u "java/lang/String"), (0, u "isEmpty"), (0, u "()Z"), (11, .fieldref 33 34), (0, .class_ 35), (0, .nameAndType 8 36), (0, u "com/example/node_ring/nodering/pool/Server"), (0, u "Ljava/lang/String;"), (0, .fieldref 33 38), (0, .nameAndType 39 40), (0, u "weight"), (0, u "I"), (0, .methodref 16 42), (0, .nameAndType 43 44), (0, u "equals"), (0, u "(Ljava/lang/Object;)Z"), (27, u "NAME_BYTE_ORDER"), (0, u "Ljava/util/Comparator;"), (2, u "(Ljava/lang/String;I)V")] 40

def k9c0 : Code := { maxStack := 4, maxLocals := 3, code := prog_13_method_1_code, exceptionTable := #[], attributes := #[] }
def k9m0 : Method := { name := "<init>", desc := "(Ljava/lang/String;I)V", sig := { parameters := [(.object "java/lang/String"), .int], returnType := none }, accessFlags := 1, code := some k9c0 }
def k9c1 : Code := { maxStack := 2, maxLocals := 3, code := prog_13_method_4_code, exceptionTable := #[], attributes := #[] }
def k9m1 : Method := { name := "equals", desc := "(Ljava/lang/Object;)Z", sig := { parameters := [(.object "java/lang/Object")], returnType := some .boolean }, accessFlags := 1, code := some k9c1 }
/-- com/example/node_ring/nodering/pool/Server -/
def k9 : Class := { plain "com/example/node_ring/nodering/pool/Server" (some 0) with
  accessFlags := 49
  interfaces := #[]
  cf := some (fileOf pool9 33 #[] #[{ accessFlags := 1, nameIndex := 5, descriptorIndex := 76, attributes := #[] }, { accessFlags := 1, nameIndex := 43, descriptorIndex := 44, attributes := #[] }] 49 2 #[] #[{ accessFlags := 25, nameIndex := 72, descriptorIndex := 73, attributes := #[] }, { accessFlags := 18, nameIndex := 8, descriptorIndex := 36, attributes := #[] }, { accessFlags := 18, nameIndex := 39, descriptorIndex := 40, attributes := #[] }])
  fields := #[{ name := "NAME_BYTE_ORDER", type := (.object "java/util/Comparator"), accessFlags := 25, slot := 0, constantValue := 0 }, { name := "name", type := (.object "java/lang/String"), accessFlags := 18, slot := 0, constantValue := 0 }, { name := "weight", type := .int, accessFlags := 18, slot := 1, constantValue := 0 }]
  methods := #[k9m0, k9m1]
  instanceTypes := #[(.object "java/lang/String"), .int]
  staticTypes := #[(.object "java/util/Comparator")]
  resolved := Array.replicate 117 none
  statics := none }

def pool10 : Array CpInfo := pool [(2, .class_ 4), (1, u "java/lang/Object"), (0, u "<init>"), (0, u "()V"), (35, .class_ 44), (1, u "java/util/Objects"), (0, u "requireNonNull"), (48, u "(Ljava/lang/Object;Ljava/lang/String;)Ljava/lang/Object;")] 89

def k10m0 : Method := { name := "<init>", desc := "()V", sig := { parameters := [], returnType := none }, accessFlags := 2, code := none }
def k10c1 : Code := { maxStack := 3, maxLocals := 2, code := jdk_31_method_11_code, exceptionTable := #[], attributes := #[] }
def k10m1 : Method := { name := "requireNonNull", desc := "(Ljava/lang/Object;Ljava/lang/String;)Ljava/lang/Object;", sig := { parameters := [(.object "java/lang/Object"), (.object "java/lang/String")], returnType := some (.object "java/lang/Object") }, accessFlags := 9, code := some k10c1 }
/-- java/util/Objects -/
def k10 : Class := { plain "java/util/Objects" (some 0) with
  accessFlags := 49
  interfaces := #[]
  cf := some (fileOf pool10 42 #[] #[{ accessFlags := 2, nameIndex := 5, descriptorIndex := 6, attributes := #[] }, { accessFlags := 9, nameIndex := 45, descriptorIndex := 94, attributes := #[] }] 49 2 #[] #[])
  fields := #[]
  methods := #[k10m0, k10m1]
  instanceTypes := #[]
  staticTypes := #[]
  resolved := Array.replicate 184 none
  statics := none }

def pool11 : Array CpInfo := pool [(4, .class_ 6), (1, u "java/lang/Object"), (0, u "<init>"), (0, u "()V"), (5, .class_ 16), (1, u "java/lang/StringLatin1"), (104, u "$assertionsDisabled"), (0, u "Z"), (98, .class_ 223), (1, u "java/lang/StringLatin1$LinesSpliterator"), (57, u "equals"), (0, u "([B[B)Z"), (107, .class_ 391), (0, u "java/lang/StringLatin1$CharsSpliterator")] 3

def k11m0 : Method := { name := "<init>", desc := "()V", sig := { parameters := [], returnType := none }, accessFlags := 0, code := none }
def k11c1 : Code := { maxStack := 3, maxLocals := 3, code := jdk_43_method_13_code, exceptionTable := #[], attributes := #[] }
def k11m1 : Method := { name := "equals", desc := "([B[B)Z", sig := { parameters := [(.array .byte), (.array .byte)], returnType := some .boolean }, accessFlags := 9, code := some k11c1 }
/-- java/lang/StringLatin1 -/
def k11 : Class := { plain "java/lang/StringLatin1" (some 0) with
  accessFlags := 48
  interfaces := #[]
  cf := some (fileOf pool11 14 #[.nestMembers #[390, 221]] #[{ accessFlags := 0, nameIndex := 7, descriptorIndex := 8, attributes := #[] }, { accessFlags := 9, nameIndex := 281, descriptorIndex := 282, attributes := #[] }] 48 4 #[] #[{ accessFlags := 4120, nameIndex := 121, descriptorIndex := 122, attributes := #[] }])
  fields := #[{ name := "$assertionsDisabled", type := .boolean, accessFlags := 4120, slot := 0, constantValue := 0 }]
  methods := #[k11m0, k11m1]
  instanceTypes := #[]
  staticTypes := #[.boolean]
  resolved := Array.replicate 395 none
  statics := none }

def pool12 : Array CpInfo := pool [(2, .class_ 4), (1, u "java/lang/Object"), (0, u "<init>"), (0, u "()V"), (17, .class_ 26), (1, u "jdk/internal/util/Preconditions"), (28, .class_ 56), (0, u "jdk/internal/util/Preconditions$4"), (57, .class_ 115), (0, u "jdk/internal/util/Preconditions$1"), (7, u "SIOOBE_FORMATTER"), (0, u "Ljava/util/function/BiFunction;"), (0, .class_ 126), (0, u "jdk/internal/util/Preconditions$2"), (3, u "AIOOBE_FORMATTER"), (0, .class_ 132), (0, u "jdk/internal/util/Preconditions$3"), (3, u "IOOBE_FORMATTER")] 57

def k12m0 : Method := { name := "<init>", desc := "()V", sig := { parameters := [], returnType := none }, accessFlags := 1, code := none }
/-- jdk/internal/util/Preconditions -/
def k12 : Class := { plain "jdk/internal/util/Preconditions" (some 0) with
  accessFlags := 33
  interfaces := #[]
  cf := some (fileOf pool12 24 #[.nestMembers #[55, 131, 125, 114]] #[{ accessFlags := 1, nameIndex := 5, descriptorIndex := 6, attributes := #[] }] 33 2 #[] #[{ accessFlags := 25, nameIndex := 123, descriptorIndex := 124, attributes := #[] }, { accessFlags := 25, nameIndex := 130, descriptorIndex := 124, attributes := #[] }, { accessFlags := 25, nameIndex := 136, descriptorIndex := 124, attributes := #[] }])
  fields := #[{ name := "SIOOBE_FORMATTER", type := (.object "java/util/function/BiFunction"), accessFlags := 25, slot := 0, constantValue := 0 }, { name := "AIOOBE_FORMATTER", type := (.object "java/util/function/BiFunction"), accessFlags := 25, slot := 1, constantValue := 0 }, { name := "IOOBE_FORMATTER", type := (.object "java/util/function/BiFunction"), accessFlags := 25, slot := 2, constantValue := 0 }]
  methods := #[k12m0]
  instanceTypes := #[]
  staticTypes := #[(.object "java/util/function/BiFunction"), (.object "java/util/function/BiFunction"), (.object "java/util/function/BiFunction")]
  resolved := Array.replicate 194 none
  statics := some 1 }

def pool13 : Array CpInfo := pool [(9, u "<init>"), (6, .class_ 18), (1, u "java/lang/Object"), (0, u "()V"), (1, .class_ 23), (1, u "jdk/internal/util/ArraysSupport"), (0, u "LOG2_ARRAY_LONG_INDEX_SCALE"), (0, u "I"), (2, u "U"), (0, u "Ljdk/internal/misc/Unsafe;"), (8, u "BIG_ENDIAN"), (0, u "Z"), (8, u "LOG2_BYTE_BIT_SIZE"), (4, u "LOG2_ARRAY_INT_INDEX_SCALE"), (54, u "JLA"), (0, u "Ljdk/internal/access/JavaLangAccess;"), (11, u "LOG2_ARRAY_BOOLEAN_INDEX_SCALE"), (9, u "LOG2_ARRAY_BYTE_INDEX_SCALE"), (5, u "LOG2_ARRAY_CHAR_INDEX_SCALE"), (5, u "LOG2_ARRAY_SHORT_INDEX_SCALE"), (18, u "LOG2_ARRAY_FLOAT_INDEX_SCALE"), (24, u "LOG2_ARRAY_DOUBLE_INDEX_SCALE"), (89, u "T_BOOLEAN"), (2, u "T_CHAR"), (1, u "T_FLOAT"), (1, u "T_DOUBLE"), (1, u "T_BYTE"), (1, u "T_SHORT"), (1, u "T_INT"), (1, u "T_LONG"), (1, u "SOFT_MAX_ARRAY_LENGTH")] 83

def k13m0 : Method := { name := "<init>", desc := "()V", sig := { parameters := [], returnType := none }, accessFlags := 2, code := none }
/-- jdk/internal/util/ArraysSupport -/
def k13 : Class := { plain "jdk/internal/util/ArraysSupport" (some 0) with
  accessFlags := 33
  interfaces := #[]
  cf := some (fileOf pool13 21 #[] #[{ accessFlags := 2, nameIndex := 9, descriptorIndex := 19, attributes := #[] }] 33 16 #[] #[{ accessFlags := 24, nameIndex := 28, descriptorIndex := 29, attributes := #[] }, { accessFlags := 26, nameIndex := 38, descriptorIndex := 39, attributes := #[] }, { accessFlags := 25, nameIndex := 121, descriptorIndex := 25, attributes := #[] }, { accessFlags := 25, nameIndex := 131, descriptorIndex := 25, attributes := #[] }, { accessFlags := 25, nameIndex := 137, descriptorIndex := 25, attributes := #[] }, { accessFlags := 25, nameIndex := 143, descriptorIndex := 25, attributes := #[] }, { accessFlags := 25, nameIndex := 53, descriptorIndex := 25, attributes := #[] }, { accessFlags := 25, nameIndex := 24, descriptorIndex := 25, attributes := #[] }, { accessFlags := 25, nameIndex := 162, descriptorIndex := 25, attributes := #[] }, { accessFlags := 25, nameIndex := 187, descriptorIndex := 25, attributes := #[] }, { accessFlags := 26, nameIndex := 48, descriptorIndex := 25, attributes := #[] }, { accessFlags := 25, nameIndex := 277, descriptorIndex := 25, attributes := #[] }, { accessFlags := 25, nameIndex := 280, descriptorIndex := 25, attributes := #[] }, { accessFlags := 25, nameIndex := 282, descriptorIndex := 25, attributes := #[] }, { accessFlags := 25, nameIndex := 284, descriptorIndex := 25, attributes := #[] }, { accessFlags := 25, nameIndex := 286, descriptorIndex := 25, attributes := #[] }, { accessFlags := 25, nameIndex := 288, descriptorIndex := 25, attributes := #[] }, { accessFlags := 25, nameIndex := 290, descriptorIndex := 25, attributes := #[] }, { accessFlags := 25, nameIndex := 292, descriptorIndex := 25, attributes := #[] }, { accessFlags := 26, nameIndex := 108, descriptorIndex := 109, attributes := #[] }, { accessFlags := 25, nameIndex := 294, descriptorIndex := 25, attributes := #[] }])
  fields := #[{ name := "U", type := (.object "jdk/internal/misc/Unsafe"), accessFlags := 24, slot := 0, constantValue := 0 }, { name := "BIG_ENDIAN", type := .boolean, accessFlags := 26, slot := 1, constantValue := 0 }, { name := "LOG2_ARRAY_BOOLEAN_INDEX_SCALE", type := .int, accessFlags := 25, slot := 2, constantValue := 0 }, { name := "LOG2_ARRAY_BYTE_INDEX_SCALE", type := .int, accessFlags := 25, slot := 3, constantValue := 0 }, { name := "LOG2_ARRAY_CHAR_INDEX_SCALE", type := .int, accessFlags := 25, slot := 4, constantValue := 0 }, { name := "LOG2_ARRAY_SHORT_INDEX_SCALE", type := .int, accessFlags := 25, slot := 5, constantValue := 0 }, { name := "LOG2_ARRAY_INT_INDEX_SCALE", type := .int, accessFlags := 25, slot := 6, constantValue := 0 }, { name := "LOG2_ARRAY_LONG_INDEX_SCALE", type := .int, accessFlags := 25, slot := 7, constantValue := 0 }, { name := "LOG2_ARRAY_FLOAT_INDEX_SCALE", type := .int, accessFlags := 25, slot := 8, constantValue := 0 }, { name := "LOG2_ARRAY_DOUBLE_INDEX_SCALE", type := .int, accessFlags := 25, slot := 9, constantValue := 0 }, { name := "LOG2_BYTE_BIT_SIZE", type := .int, accessFlags := 26, slot := 10, constantValue := 0 }, { name := "T_BOOLEAN", type := .int, accessFlags := 25, slot := 11, constantValue := 0 }, { name := "T_CHAR", type := .int, accessFlags := 25, slot := 12, constantValue := 0 }, { name := "T_FLOAT", type := .int, accessFlags := 25, slot := 13, constantValue := 0 }, { name := "T_DOUBLE", type := .int, accessFlags := 25, slot := 14, constantValue := 0 }, { name := "T_BYTE", type := .int, accessFlags := 25, slot := 15, constantValue := 0 }, { name := "T_SHORT", type := .int, accessFlags := 25, slot := 16, constantValue := 0 }, { name := "T_INT", type := .int, accessFlags := 25, slot := 17, constantValue := 0 }, { name := "T_LONG", type := .int, accessFlags := 25, slot := 18, constantValue := 0 }, { name := "JLA", type := (.object "jdk/internal/access/JavaLangAccess"), accessFlags := 26, slot := 19, constantValue := 0 }, { name := "SOFT_MAX_ARRAY_LENGTH", type := .int, accessFlags := 25, slot := 20, constantValue := 0 }]
  methods := #[k13m0]
  instanceTypes := #[]
  staticTypes := #[(.object "jdk/internal/misc/Unsafe"), .boolean, .int, .int, .int, .int, .int, .int, .int, .int, .int, .int, .int, .int, .int, .int, .int, .int, .int, (.object "jdk/internal/access/JavaLangAccess"), .int]
  resolved := Array.replicate 378 none
  statics := none }

def pool14 : Array CpInfo := pool [(1, u "java/lang/Cloneable"), (0, .class_ 1), (0, u "java/lang/Object"), (0, .class_ 3)] 3

/-- java/lang/Cloneable -/
def k14 : Class := { plain "java/lang/Cloneable" (some 0) with
  accessFlags := 1537
  interfaces := #[]
  cf := some (fileOf pool14 2 #[] #[] 1537 4 #[] #[])
  fields := #[]
  methods := #[]
  instanceTypes := #[]
  staticTypes := #[]
  resolved := Array.replicate 8 none
  statics := none }

/-- the primitive byte -/
def k15 : Class := { plain "byte" none with kind := .primitive 'B', accessFlags := 0x411 }
/-- [B -/
def k16 : Class := { plain "[B" (some 0) with kind := .array 15 .byte, interfaces := #[14, 2], accessFlags := 1041 }

/-- the primitive char -/
def k17 : Class := { plain "char" none with kind := .primitive 'C', accessFlags := 0x411 }
/-- [C -/
def k18 : Class := { plain "[C" (some 0) with kind := .array 17 .char, interfaces := #[14, 2], accessFlags := 1041 }

/-- the primitive int -/
def k19 : Class := { plain "int" none with kind := .primitive 'I', accessFlags := 0x411 }
/-- [I -/
def k20 : Class := { plain "[I" (some 0) with kind := .array 19 .int, interfaces := #[14, 2], accessFlags := 1041 }

def heap : Heap := #[{ cls := 7, slots := #[.long 0, .int 1, .null, .int 0, .null, .int 0, .int 0], vm := .statics 7 },
  { cls := 12, slots := #[.null, .null, .null], vm := .statics 12 }]
def classes : Array Class := #[k0, k1, k2, k3, k4, k5, k6, k7, k8, k9, k10, k11, k12, k13, k14, k15, k16, k17, k18, k19, k20]
def interned : List (Array UInt16 × Addr) := []
def slotsUsed : Nat := 10
def theMethod : MethodId := ⟨1, 1⟩
def args0 : Array Value := #[.int 5, .int 3, .int 5, .int 65, .int 3]
def aboutOver (below : List Frame) : State where
  vm := { classes := classes, interned := interned.toArray }
  heap := heap
  slotsUsed := slotsUsed
  threads := #[{ frames := .invoking theMethod args0 :: below }]
def below0 : List Frame := [.native { method := ⟨0, 0⟩, args := #[] }]
def about1 : State := aboutOver below0
def p0 : Program := .bare "" "" ""
def e0 : Env := launch0.env 0 0 0
theorem w_frames : about1.frames = Frame.invoking theMethod args0 :: below0 := rfl
set_option maxRecDepth 65536 in
theorem w_args : argsFit about1.vm theMethod args0 = true := by decide +kernel
set_option maxRecDepth 65536 in
theorem w_heap : heapFits about1 = true := by decide +kernel
set_option maxRecDepth 65536 in
theorem w_runnable : about1.curStatus? = some .runnable := by decide +kernel
set_option maxRecDepth 65536 in
theorem w_alone : about1.alone = true := by decide +kernel
set_option maxRecDepth 65536 in
theorem w_named : about1.methodNamed? x = some theMethod := by decide +kernel
set_option maxRecDepth 65536 in
theorem w_hears : about1.hears theMethod below0 = true := by decide +kernel
set_option maxRecDepth 65536 in
theorem w_ripe : about1.ripe theMethod args0 below0 = true := by decide +kernel
theorem w_running : about1.status = .running := rfl
set_option maxRecDepth 65536 in
theorem w_room : about1.hasRoom e0.platform room_1 = true :=
  launch0.hasRoom_least _ room_1 (by decide +kernel) (by decide +kernel) (by decide +kernel) (by decide +kernel) (by decide +kernel) (by decide +kernel)
theorem allAtoms_all (ts : List Jvm.Cond) (a : Array Jvm.Value) (st : Jvm.State) : (allAtoms ts).before a st = ts.all (fun c => c.before a st) := by
  induction ts with
  | nil => rfl
  | cons c t ih =>
    show (Jvm.Cond.and c (allAtoms t)).before a st = _
    rw [Jvm.Cond.before_and, ih, List.all_cons]
def words1 : List Jvm.Cond := Jvm.Cond.code x code maxLocals ret :: tables_1
/-- a 'code' word, met by the world's own term for the bytes: nothing is compared byte by byte -/
theorem code_word {y : MethodName} {bytes : ByteArray} {mx : Nat} {rt : Option FieldType} {a : Array Value} {s : State} {m : MethodId} {meth : Method} {c : Code} (h1 : s.methodNamed? y = some m) (h2 : s.vm.method? m = some meth) (h3 : meth.code = some c) (h4 : c.code = bytes)
    (h5 : (c.maxLocals == mx && c.exceptionTable.isEmpty && decide (c.maxStack ≤ mostOperands) && decide (meth.sig.returnType = rt) && !meth.locks && decide (parseMethodDescriptor y.desc = some meth.sig)) = true) : (Jvm.Cond.code y bytes mx rt).before a s = true := by
  simp only [Bool.and_eq_true, beq_iff_eq, Bool.not_eq_true', decide_eq_true_eq] at h5
  obtain ⟨⟨⟨⟨⟨g1, g2⟩, g3⟩, g4⟩, g5⟩, g6⟩ := h5
  simp [Cond.before, Cond.holds, Cond.value, h1, h2, h3, h4, g1, g2, g3, g4, g5, g6]
def isCode : Jvm.Cond → Bool
  | .code _ _ _ _ => true
  | _ => false
theorem all_split {L : List Jvm.Cond} {P : Jvm.Cond → Bool} (h1 : L.all (fun c => isCode c || P c) = true) (h2 : ∀ c ∈ L.filter isCode, P c = true) : L.all P = true := by
  refine List.all_eq_true.mpr fun c hc => ?_
  have h := List.all_eq_true.mp h1 c hc
  rcases Bool.eq_false_or_eq_true (isCode c) with hi | hi
  · exact h2 c (List.mem_filter.mpr ⟨hc, hi⟩)
  · simpa [hi] using h
set_option maxRecDepth 65536 in
theorem w_c0 : (Jvm.Cond.code x code maxLocals ret).before args0 about1 = true := code_word (m := ⟨1, 1⟩) (meth := k1m1) (c := k1c1) (by decide +kernel) rfl rfl rfl (by decide +kernel)
set_option maxRecDepth 65536 in
theorem w_c1 : (Jvm.Cond.code ({ cls := "java/lang/String", name := "<init>", desc := "([C)V" } : Jvm.MethodName) jdk_42_method_3_code (2 : Nat) (Option.none : Option Jvm.ClassFile.FieldType)).before args0 about1 = true := code_word (m := ⟨7, 1⟩) (meth := k7m1) (c := k7c1) (by decide +kernel) rfl rfl rfl (by decide +kernel)
set_option maxRecDepth 65536 in
theorem w_c2 : (Jvm.Cond.code ({ cls := "java/lang/String", name := "<init>", desc := "([CIILjava/lang/Void;)V" } : Jvm.MethodName) jdk_42_method_149_code (6 : Nat) (Option.none : Option Jvm.ClassFile.FieldType)).before args0 about1 = true := code_word (m := ⟨7, 4⟩) (meth := k7m4) (c := k7c4) (by decide +kernel) rfl rfl rfl (by decide +kernel)
set_option maxRecDepth 65536 in
theorem w_c3 : (Jvm.Cond.code ({ cls := "java/lang/Object", name := "<init>", desc := "()V" } : Jvm.MethodName) object_method_1_code (1 : Nat) (Option.none : Option Jvm.ClassFile.FieldType)).before args0 about1 = true := code_word (m := ⟨0, 0⟩) (meth := k0m0) (c := k0c0) (by decide +kernel) rfl rfl rfl (by decide +kernel)
set_option maxRecDepth 65536 in
theorem w_c4 : (Jvm.Cond.code ({ cls := "java/lang/StringUTF16", name := "compress", desc := "([CII)[B" } : Jvm.MethodName) jdk_52_method_16_code (6 : Nat) (Option.some (Jvm.ClassFile.FieldType.array Jvm.ClassFile.FieldType.byte))).before args0 about1 = true := code_word (m := ⟨8, 2⟩) (meth := k8m2) (c := k8c2) (by decide +kernel) rfl rfl rfl (by decide +kernel)
set_option maxRecDepth 65536 in
theorem w_c5 : (Jvm.Cond.code ({ cls := "java/lang/StringUTF16", name := "compress", desc := "([CI[BII)I" } : Jvm.MethodName) jdk_52_method_21_code (7 : Nat) (Option.some Jvm.ClassFile.FieldType.int)).before args0 about1 = true := code_word (m := ⟨8, 3⟩) (meth := k8m3) (c := k8c3) (by decide +kernel) rfl rfl rfl (by decide +kernel)
set_option maxRecDepth 65536 in
theorem w_c6 : (Jvm.Cond.code ({ cls := "java/lang/StringUTF16", name := "coderFromArrayLen", desc := "([BI)B" } : Jvm.MethodName) jdk_52_method_15_code (2 : Nat) (Option.some Jvm.ClassFile.FieldType.byte)).before args0 about1 = true := code_word (m := ⟨8, 1⟩) (meth := k8m1) (c := k8c1) (by decide +kernel) rfl rfl rfl (by decide +kernel)
set_option maxRecDepth 65536 in
theorem w_c7 : (Jvm.Cond.code ({ cls := "com/example/node_ring/nodering/pool/Server", name := "<init>", desc := "(Ljava/lang/String;I)V" } : Jvm.MethodName) prog_13_method_1_code (3 : Nat) (Option.none : Option Jvm.ClassFile.FieldType)).before args0 about1 = true := code_word (m := ⟨9, 0⟩) (meth := k9m0) (c := k9c0) (by decide +kernel) rfl rfl rfl (by decide +kernel)
set_option maxRecDepth 65536 in
theorem w_c8 : (Jvm.Cond.code ({ cls := "java/util/Objects", name := "requireNonNull", desc := "(Ljava/lang/Object;Ljava/lang/String;)Ljava/lang/Object;" } : Jvm.MethodName) jdk_31_method_11_code (2 : Nat) (Option.some (Jvm.ClassFile.FieldType.object "java/lang/Object"))).before args0 about1 = true := code_word (m := ⟨10, 1⟩) (meth := k10m1) (c := k10c1) (by decide +kernel) rfl rfl rfl (by decide +kernel)
set_option maxRecDepth 65536 in
theorem w_c9 : (Jvm.Cond.code ({ cls := "java/lang/String", name := "isEmpty", desc := "()Z" } : Jvm.MethodName) jdk_42_method_55_code (1 : Nat) (Option.some Jvm.ClassFile.FieldType.boolean)).before args0 about1 = true := code_word (m := ⟨7, 2⟩) (meth := k7m2) (c := k7c2) (by decide +kernel) rfl rfl rfl (by decide +kernel)
set_option maxRecDepth 65536 in
theorem w_c10 : (Jvm.Cond.code ({ cls := "com/example/node_ring/nodering/pool/Server", name := "equals", desc := "(Ljava/lang/Object;)Z" } : Jvm.MethodName) prog_13_method_4_code (3 : Nat) (Option.some Jvm.ClassFile.FieldType.boolean)).before args0 about1 = true := code_word (m := ⟨9, 1⟩) (meth := k9m1) (c := k9c1) (by decide +kernel) rfl rfl rfl (by decide +kernel)
set_option maxRecDepth 65536 in
theorem w_c11 : (Jvm.Cond.code ({ cls := "java/lang/String", name := "equals", desc := "(Ljava/lang/Object;)Z" } : Jvm.MethodName) jdk_42_method_66_code (3 : Nat) (Option.some Jvm.ClassFile.FieldType.boolean)).before args0 about1 = true := code_word (m := ⟨7, 3⟩) (meth := k7m3) (c := k7c3) (by decide +kernel) rfl rfl rfl (by decide +kernel)
set_option maxRecDepth 65536 in
theorem w_c12 : (Jvm.Cond.code ({ cls := "java/lang/StringLatin1", name := "equals", desc := "([B[B)Z" } : Jvm.MethodName) jdk_43_method_13_code (3 : Nat) (Option.some Jvm.ClassFile.FieldType.boolean)).before args0 about1 = true := code_word (m := ⟨11, 1⟩) (meth := k11m1) (c := k11c1) (by decide +kernel) rfl rfl rfl (by decide +kernel)
def codes1 : List Jvm.Cond := [Jvm.Cond.code x code maxLocals ret, Jvm.Cond.code ({ cls := "java/lang/String", name := "<init>", desc := "([C)V" } : Jvm.MethodName) jdk_42_method_3_code (2 : Nat) (Option.none : Option Jvm.ClassFile.FieldType), Jvm.Cond.code ({ cls := "java/lang/String", name := "<init>", desc := "([CIILjava/lang/Void;)V" } : Jvm.MethodName) jdk_42_method_149_code (6 : Nat) (Option.none : Option Jvm.ClassFile.FieldType), Jvm.Cond.code ({ cls := "java/lang/Object", name := "<init>", desc := "()V" } : Jvm.MethodName) object_method_1_code (1 : Nat) (Option.none : Option Jvm.ClassFile.FieldType), Jvm.Cond.code ({ cls := "java/lang/StringUTF16", name := "compress", desc := "([CII)[B" } : Jvm.MethodName) jdk_52_method_16_code (6 : Nat) (Option.some (Jvm.ClassFile.FieldType.array Jvm.ClassFile.FieldType.byte)), Jvm.Cond.code ({ cls := "java/lang/StringUTF16", name := "compress", desc := "([CI[BII)I" } : Jvm.MethodName) jdk_52_method_21_code (7 : Nat) (Option.some Jvm.ClassFile.FieldType.int), Jvm.Cond.code ({ cls := "java/lang/StringUTF16", name := "coderFromArrayLen", desc := "([BI)B" } : Jvm.MethodName) jdk_52_method_15_code (2 : Nat) (Option.some Jvm.ClassFile.FieldType.byte), Jvm.Cond.code ({ cls := "com/example/node_ring/nodering/pool/Server", name := "<init>", desc := "(Ljava/lang/String;I)V" } : Jvm.MethodName) prog_13_method_1_code (3 : Nat) (Option.none : Option Jvm.ClassFile.FieldType), Jvm.Cond.code ({ cls := "java/util/Objects", name := "requireNonNull", desc := "(Ljava/lang/Object;Ljava/lang/String;)Ljava/lang/Object;" } : Jvm.MethodName) jdk_31_method_11_code (2 : Nat) (Option.some (Jvm.ClassFile.FieldType.object "java/lang/Object")), Jvm.Cond.code ({ cls := "java/lang/String", name := "isEmpty", desc := "()Z" } : Jvm.MethodName) jdk_42_method_55_code (1 : Nat) (Option.some Jvm.ClassFile.FieldType.boolean), Jvm.Cond.code ({ cls := "com/example/node_ring/nodering/pool/Server", name := "equals", desc := "(Ljava/lang/Object;)Z" } : Jvm.MethodName) prog_13_method_4_code (3 : Nat) (Option.some Jvm.ClassFile.FieldType.boolean), Jvm.Cond.code ({ cls := "java/lang/String", name := "equals", desc := "(Ljava/lang/Object;)Z" } : Jvm.MethodName) jdk_42_method_66_code (3 : Nat) (Option.some Jvm.ClassFile.FieldType.boolean), Jvm.Cond.code ({ cls := "java/lang/StringLatin1", name := "equals", desc := "([B[B)Z" } : Jvm.MethodName) jdk_43_method_13_code (3 : Nat) (Option.some Jvm.ClassFile.FieldType.boolean)]
set_option maxRecDepth 65536 in
theorem codes_eq : words1.filter isCode = codes1 := rfl
theorem w_codes : ∀ c ∈ words1.filter isCode, c.before args0 about1 = true := by
  rw [codes_eq]
  intro c hc
  simp only [codes1, List.mem_cons, List.not_mem_nil, or_false] at hc
  rcases hc with rfl | rfl | rfl | rfl | rfl | rfl | rfl | rfl | rfl | rfl | rfl | rfl | rfl
  · exact w_c0
  · exact w_c1
  · exact w_c2
  · exact w_c3
  · exact w_c4
  · exact w_c5
  · exact w_c6
  · exact w_c7
  · exact w_c8
  · exact w_c9
  · exact w_c10
  · exact w_c11
  · exact w_c12
set_option maxRecDepth 65536 in
theorem w_t1 : (words1.take 24).all (fun c => isCode c || c.before args0 about1) = true := by decide +kernel
set_option maxRecDepth 65536 in
theorem w_t2 : ((words1.drop 24).take 24).all (fun c => isCode c || c.before args0 about1) = true := by decide +kernel
set_option maxRecDepth 65536 in
theorem w_t3 : (((words1.drop 24).drop 24).take 24).all (fun c => isCode c || c.before args0 about1) = true := by decide +kernel
set_option maxRecDepth 65536 in
theorem w_t4 : (((words1.drop 24).drop 24).drop 24).all (fun c => isCode c || c.before args0 about1) = true := by decide +kernel
theorem w_tables : (allAtoms (Jvm.Cond.code x code maxLocals ret :: tables_1)).before args0 about1 = true := by
  rw [allAtoms_all]
  show words1.all (fun c => c.before args0 about1) = true
  refine all_split ?_ w_codes
  rw [← List.take_append_drop 24 words1, List.all_append, w_t1, ← List.take_append_drop 24 (words1.drop 24), List.all_append, w_t2, ← List.take_append_drop 24 ((words1.drop 24).drop 24), List.all_append, w_t3, w_t4]
  rfl
set_option maxRecDepth 65536 in
theorem w_rest : rest_1_c.before args0 about1 = true := by decide +kernel
set_option maxRecDepth 65536 in
theorem w_case : (Jvm.Cond.and given_1 narrow_1).before args0 about1 = true := by decide +kernel
theorem w_applies : (headSpec (Jvm.Cond.code x code maxLocals ret :: tables_1) room_1).applies x e0.platform about1 = true :=
  (Spec.applies_iff w_frames).mpr ⟨w_running, w_runnable, w_alone, w_named, w_hears, w_ripe, w_room, w_tables⟩
theorem atStart : AtStart classFile x code maxLocals ret World_1 tables_1 room_1 Calls_1 rest_1 Pre_1 launch0 p0 e0 about1 theMethod args0 below0 :=
  ⟨lists_1, trivial, launch0.admits_env _ _ _, launch0.least_env, fairChoices_fair.cas, fairChoices_fair.clock, w_frames, w_args, w_heap, w_applies, trivial, w_rest, w_case⟩
end start1
theorem witness_1 : WitnessClaimed_1 := ⟨start1.p0, start1.e0, start1.about1, start1.theMethod, start1.args0, start1.below0, start1.atStart⟩
end Jvm.Pilot.@@N@@
