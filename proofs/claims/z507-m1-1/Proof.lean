import JvmDerived
import JvmDerived.Pilot.@@N@@Statement
import JvmDerived.Pilot.@@N@@Code
set_option linter.unusedVariables false
set_option linter.unusedSimpArgs false

namespace Jvm.Pilot.@@N@@
open Jvm Jvm.ClassFile Sem Op Lib Jvm.Free Jvm.Stand Jvm.LawKit Jvm.RoadKit Bundle Jvm.Pilot.@@N@@.Jvm.D
section Own
variable {p : Program} {l : Launch} {e : Env} {R : Room} {s : State} {m : MethodId} {args : Array Value} {below : List Frame} {meth : Method} {c : Code} {T T' : State} {locs : List Loc} {cells slots : Nat} {Q : Option Value → Heap → List Loc → Prop} {kc ks : Nat} {g g' : JFrame} {h : Heap}
def own_W (p : Program) (e : Env) (below : List Frame) (s : State) (Q : Option Value → Heap → List Loc → Prop) (kc ks : Nat) (T : State) (g : JFrame) : Prop :=
  ∃ s₂ o, Steps p.tables e below (T.setTop g) s₂ ∧ s₂.status = .running ∧ Ended s₂ below o ∧ ∃ v L, o = .returned v ∧ Q v s₂.heap L ∧ FrameEnd s o s₂ L kc ks
theorem own_go (st : ∀ t, Steps p.tables e below (T'.setTop g') t → Steps p.tables e below (T.setTop g) t) (k : own_W p e below s Q kc ks T' g') : own_W p e below s Q kc ks T g := by
  obtain ⟨s₂, o, h1, h2⟩ := k
  exact ⟨s₂, o, st _ h1, h2⟩
theorem own_ret (X : Stand p l e R s m args below meth c T locs cells slots) (hx : p.tables.exec = Jvm.exec) {pc : Nat} {Ls : Array Slot} {w : Value} {t : FieldType} {i : Instr} {rest : List Value} (hret : meth.sig.returnType = some t) (hlk : meth.locks = false) (hn : narrow t w = w)
    (hi : (i = .ireturn ∧ (t = .int ∨ t = .boolean ∨ t = .byte ∨ t = .char ∨ t = .short) ∧ ∃ z, w = .int z) ∨ (i = .lreturn ∧ t = .long ∧ ∃ z, w = .long z) ∨ (i = .dreturn ∧ t = .double ∧ ∃ z, w = .double z) ∨ (i = .freturn ∧ t = .float ∧ ∃ z, w = .float z) ∨ (i = .areturn ∧ t.isReference = true ∧ w.isRef = true))
    (hd : decode c.code pc = .ok (i, 1)) (eT : T.heap = h) (hQ : Q (some w) h locs) (hc : cells ≤ kc) (hs : slots ≤ ks) : own_W p e below s Q kc ks T (mkF m pc Ls (w :: rest)) := by
  obtain ⟨fs, hr, hrun, hended, hW, hsame⟩ := X.leave (v := some w) (fun q => by rw [hret] at q; cases q) hlk
  exact ⟨_, _, retOut X hx hret hn hi hd hr, hrun, hended, _, _, rfl, (show Q (some w) T.heap locs from eT ▸ hQ), ⟨_, rfl⟩, hW, hsame.mono hc hs⟩
theorem own_retN (X : Stand p l e R s m args below meth c T locs cells slots) (hx : p.tables.exec = Jvm.exec) {pc : Nat} {Ls : Array Slot} {z : Int32} {t : FieldType} {rest : List Value} (hret : meth.sig.returnType = some t) (hlk : meth.locks = false) (ht : t = .boolean ∨ t = .byte ∨ t = .char ∨ t = .short)
    (hd : decode c.code pc = .ok (.ireturn, 1)) (eT : T.heap = h) (hQ : Q (some (.int (nar t z))) h locs) (hc : cells ≤ kc) (hs : slots ≤ ks) : own_W p e below s Q kc ks T (mkF m pc Ls (.int z :: rest)) := by
  obtain ⟨fs, hr, hrun, hended, hW, hsame⟩ := X.leave (v := some (.int (nar t z))) (fun q => by rw [hret] at q; cases q) hlk
  exact ⟨_, _, retN X hx hret ht hd hr, hrun, hended, _, _, rfl, (show Q (some (.int (nar t z))) T.heap locs from eT ▸ hQ), ⟨_, rfl⟩, hW, hsame.mono hc hs⟩
theorem own_ret0 (X : Stand p l e R s m args below meth c T locs cells slots) (hx : p.tables.exec = Jvm.exec) {pc : Nat} {Ls : Array Slot} (hret : meth.sig.returnType = none) (hlk : meth.locks = false)
    (hd : decode c.code pc = .ok (.return_, 1)) (eT : T.heap = h) (hQ : Q none h locs) (hc : cells ≤ kc) (hs : slots ≤ ks) : own_W p e below s Q kc ks T (mkF m pc Ls []) := by
  obtain ⟨fs, hr, hrun, hended, hW, hsame⟩ := X.leave (v := none) (fun _ => rfl) hlk
  exact ⟨_, _, X.returnOut hx hret hd hr, hrun, hended, _, _, rfl, (show Q none T.heap locs from eT ▸ hQ), ⟨_, rfl⟩, hW, hsame.mono hc hs⟩
def own_WS (p : Program) (e : Env) (below : List Frame) (s : State) (Q : Option Value → Heap → List Loc → Prop) (kc ks : Nat) (T : State) (g : JFrame) : Prop :=
  ∃ s₂ o, Steps p.tables e below (T.setTop g) s₂ ∧ s₂.status = .running ∧ Ended s₂ below o ∧ ∃ v L, o = .returned v ∧ Q v s₂.heap L ∧ ReturnedEndW s o s₂ L kc ks
theorem own_goS (st : ∀ t, Steps p.tables e below (T'.setTop g') t → Steps p.tables e below (T.setTop g) t) (k : own_WS p e below s Q kc ks T' g') : own_WS p e below s Q kc ks T g := by
  obtain ⟨s₂, o, h1, h2⟩ := k
  exact ⟨s₂, o, st _ h1, h2⟩
theorem own_endW {t : State} {o : Outcome} {L : List Loc} {k n k' n' : Nat} (q : ReturnedEndW s o t L k n) (h1 : k ≤ k') (h2 : n ≤ n') : ReturnedEndW s o t L k' n' := ⟨q.1, q.2.1, q.2.2.1, q.2.2.2.mono h1 h2⟩
theorem own_retS {vm1 : Vm} {n1 : Nat} (X : Stand p l e R (s.setVm vm1) m args below meth c T locs cells slots) (hS : s.Since vm1 n1) (hx : p.tables.exec = Jvm.exec) {pc : Nat} {Ls : Array Slot} {w : Value} {t : FieldType} {i : Instr} {rest : List Value} (hret : meth.sig.returnType = some t) (hlk : meth.locks = false) (hn : narrow t w = w)
    (hi : (i = .ireturn ∧ (t = .int ∨ t = .boolean ∨ t = .byte ∨ t = .char ∨ t = .short) ∧ ∃ z, w = .int z) ∨ (i = .lreturn ∧ t = .long ∧ ∃ z, w = .long z) ∨ (i = .dreturn ∧ t = .double ∧ ∃ z, w = .double z) ∨ (i = .freturn ∧ t = .float ∧ ∃ z, w = .float z) ∨ (i = .areturn ∧ t.isReference = true ∧ w.isRef = true))
    (hd : decode c.code pc = .ok (i, 1)) (eT : T.heap = h) (hk : n1 ≤ h.size) (hQ : Q (some w) h locs) (hc : cells ≤ kc) (hs : slots ≤ ks) : own_WS p e below s Q kc ks T (mkF m pc Ls (w :: rest)) := by
  obtain ⟨fs, hr, hrun, hended, hW⟩ := X.leaveW hS (eT ▸ hk) (v := some w) (fun q => by rw [hret] at q; cases q) hlk
  exact ⟨_, _, retOut X hx hret hn hi hd hr, hrun, hended, _, _, rfl, (show Q (some w) T.heap locs from eT ▸ hQ), own_endW hW hc hs⟩
theorem own_retNS {vm1 : Vm} {n1 : Nat} (X : Stand p l e R (s.setVm vm1) m args below meth c T locs cells slots) (hS : s.Since vm1 n1) (hx : p.tables.exec = Jvm.exec) {pc : Nat} {Ls : Array Slot} {z : Int32} {t : FieldType} {rest : List Value} (hret : meth.sig.returnType = some t) (hlk : meth.locks = false) (ht : t = .boolean ∨ t = .byte ∨ t = .char ∨ t = .short)
    (hd : decode c.code pc = .ok (.ireturn, 1)) (eT : T.heap = h) (hk : n1 ≤ h.size) (hQ : Q (some (.int (nar t z))) h locs) (hc : cells ≤ kc) (hs : slots ≤ ks) : own_WS p e below s Q kc ks T (mkF m pc Ls (.int z :: rest)) := by
  obtain ⟨fs, hr, hrun, hended, hW⟩ := X.leaveW hS (eT ▸ hk) (v := some (.int (nar t z))) (fun q => by rw [hret] at q; cases q) hlk
  exact ⟨_, _, retN X hx hret ht hd hr, hrun, hended, _, _, rfl, (show Q (some (.int (nar t z))) T.heap locs from eT ▸ hQ), own_endW hW hc hs⟩
theorem own_ret0S {vm1 : Vm} {n1 : Nat} (X : Stand p l e R (s.setVm vm1) m args below meth c T locs cells slots) (hS : s.Since vm1 n1) (hx : p.tables.exec = Jvm.exec) {pc : Nat} {Ls : Array Slot} (hret : meth.sig.returnType = none) (hlk : meth.locks = false)
    (hd : decode c.code pc = .ok (.return_, 1)) (eT : T.heap = h) (hk : n1 ≤ h.size) (hQ : Q none h locs) (hc : cells ≤ kc) (hs : slots ≤ ks) : own_WS p e below s Q kc ks T (mkF m pc Ls []) := by
  obtain ⟨fs, hr, hrun, hended, hW⟩ := X.leaveW hS (eT ▸ hk) (v := none) (fun _ => rfl) hlk
  exact ⟨_, _, X.returnOut hx hret hd hr, hrun, hended, _, _, rfl, (show Q none T.heap locs from eT ▸ hQ), own_endW hW hc hs⟩
theorem own_ifc {α : Type} {c d : Prop} [Decidable c] [Decidable d] {x y : α} (h : c ↔ d) : (if c then x else y) = (if d then x else y) := by
  by_cases q : c
  · rw [if_pos q, if_pos (h.mp q)]
  · rw [if_neg q, if_neg (fun z => q (h.mpr z))]
theorem own_sta_keep {Z : State} {h h' : Heap} {C n d : String} {v : Value} {ws : List Addr} (F : Sta Z h C n d v) (K : Keep h h' ws) (q : ∀ x ∈ ws, ∀ cell : Cell, h[x]? = some cell → cell.vm.isStatics = false) : Sta Z h' C n d v := by
  obtain ⟨cf, i, k, f, st, cell, h1, h2, h3, h4, h5, h6, h7⟩ := F
  exact ⟨cf, i, k, f, st, cell, h1, h2, h3, h4, K.2.1 _ _ h5 (fun hm => by rw [q _ hm _ h5] at h6; cases h6), h6, h7⟩
end Own
theorem d1_0 : decode method_3_code 0 = .ok (.iload_n 0, 1) := by decide +kernel
theorem d1_1 : decode method_3_code 1 = .ok (.ifCond .ne 7, 3) := by decide +kernel
theorem d1_4 : decode method_3_code 4 = .ok (.getstatic 30, 3) := by decide +kernel
theorem d1_7 : decode method_3_code 7 = .ok (.areturn, 1) := by decide +kernel
def Q_rmP0 (Z : State) (s0_ : Addr) (h0 : Heap) (n0 : Nat) (v : Option Value) (h : Heap) (L : List Loc) : Prop := v = some (.ref s0_) ∧ Fr n0 L ∧ h = h0
theorem ef_rmP0 (m : MethodId) (x0 : Int32) : entryFrame m #[(.int x0)] 1 = mkF m 0 #[.val (.int x0)] [] := by first | (simp [entryFrame, mkF, argsToLocals, Value.category]; done) | rfl
theorem pn_rmP0 : plainName "com/example/labels_in_order/labelsinorder/ComparisonOrderingPinLaw" = true := by first | (simp [plainName, overriddenIn]; done) | decide +kernel
set_option maxRecDepth 65536 in
set_option maxHeartbeats 40000000 in
theorem rmP0 (l : Launch) (Z : State) (a0 : Array Value) (hw : ∀ d ∈ tables_1, d.before a0 Z = true) (ws : List Jvm.Cond) (s0_ : Addr) (h0 : Heap) (n0 : Nat) (Z0 : n0 ≤ h0.size) (hp0 : Sta Z h0 "com/example/labels_in_order/labelsinorder/Comparison" "EQUAL" "Lcom/example/labels_in_order/labelsinorder/Comparison;" (.ref s0_)) :
    MetFree l (⟨"com/example/labels_in_order/labelsinorder/ComparisonOrderingPinLaw", "pick", "(I)Lcom/example/labels_in_order/labelsinorder/Comparison;"⟩ : MethodName) (head1 (Jvm.Cond.code (⟨"com/example/labels_in_order/labelsinorder/ComparisonOrderingPinLaw", "pick", "(I)Lcom/example/labels_in_order/labelsinorder/Comparison;"⟩ : MethodName) method_3_code 1 (some (.object "com/example/labels_in_order/labelsinorder/Comparison")) :: ws) ({ frames := 0, cells := 0, slots := 0, locals := 0 } : Room)) (fun a U => a = #[(.int (0 : Int32))] ∧ Z.Warmed39 U.vm ∧ U.heap = h0) (fun _ _ _ _ _ => True) (fun _ U o U' => ∃ v L, o = .returned v ∧ Q_rmP0 Z s0_ h0 n0 v U'.heap L ∧ FrameEnd U o U' L ({ frames := 0, cells := 0, slots := 0, locals := 0 } : Room).cells ({ frames := 0, cells := 0, slots := 0, locals := 0 } : Room).slots) := by
  refine MetFree.of_bodySF (plainFor_of_name pn_rmP0) hisR ?_
  intro p e s m args below meth c s₁ Bd hml0 hP hK
  obtain ⟨rfl, hZ, hh⟩ := hP
  have hx := Bd.exec
  have hby := Bd.bytes
  have hml : c.maxLocals = 1 := hml0
  have hown : s.vm.findClass "com/example/labels_in_order/labelsinorder/ComparisonOrderingPinLaw" = some m.cls := findClass_of_methodNamed Bd.named
  have hnm := (name_of_methodNamed Bd.named Bd.method).1
  have hlk : meth.locks = false := BodyLoose.notSynchronized Bd
  have X0 : Stand p l e ({ frames := 0, cells := 0, slots := 0, locals := 0 } : Room) s m #[(.int (0 : Int32))] below meth c s₁ [] 0 0 := Stand.of_body Bd
  have e0 : s₁.heap = h0 := by rw [← hh, Bd.state]; rfl
  have N0 := Fr.nil n0
  show own_W p e below s (Q_rmP0 Z s0_ h0 n0) 0 0 s₁ (entryFrame m #[(.int (0 : Int32))] 1)
  skip
  skip
  refine own_go (T' := s₁) (g' := (mkF m 0 #[.val (.int (0 : Int32))] [])) (fun _ k => castTop (ef_rmP0 m (0 : Int32)) k) ?_
  refine own_go (T' := s₁) (g' := (mkF m 1 #[.val (.int (0 : Int32))] [(.int (0 : Int32))])) (fun _ k => XS.iloadN X0.here hx rfl (hb hby d1_0) rfl k) ?_
  refine own_go (T' := s₁) (g' := (mkF m 4 #[.val (.int (0 : Int32))] [])) (fun _ k => XS.ifNo X0.here hx rfl (hb hby d1_1) rfl (XT.i0_ne_f (rfl : (0 : Int32) = (0 : Int32))) k) ?_
  obtain ⟨T1, X1, e1, st1⟩ := getS2 X0 hx hZ hown (host := "") (Or.inl (hw _ (List.mem_of_getElem? (i := 5) rfl))) Via.refl e0 hp0 (g := (mkF m 4 #[.val (.int (0 : Int32))] [])) rfl (hb hby d1_4)
  refine own_go (T' := T1) (g' := (mkF m 7 #[.val (.int (0 : Int32))] [(.ref s0_)])) (fun _ k => st1 _ k) ?_
  exact own_ret X1 hx Bd.returns hlk rfl (Or.inr (Or.inr (Or.inr (Or.inr ⟨rfl, rfl, rfl⟩)))) (hb hby d1_7) e1 ⟨rfl, N0, rfl⟩ (by decide) (by decide)
theorem d1_8 : decode method_3_code 8 = .ok (.iload_n 0, 1) := by decide +kernel
theorem d1_9 : decode method_3_code 9 = .ok (.iconst 1, 1) := by decide +kernel
theorem d1_10 : decode method_3_code 10 = .ok (.if_icmp .ne 7, 3) := by decide +kernel
theorem d1_13 : decode method_3_code 13 = .ok (.getstatic 34, 3) := by decide +kernel
theorem d1_16 : decode method_3_code 16 = .ok (.areturn, 1) := by decide +kernel
def Q_rmP1 (Z : State) (s1_ : Addr) (h0 : Heap) (n0 : Nat) (v : Option Value) (h : Heap) (L : List Loc) : Prop := v = some (.ref s1_) ∧ Fr n0 L ∧ h = h0
theorem ef_rmP1 (m : MethodId) (x0 : Int32) : entryFrame m #[(.int x0)] 1 = mkF m 0 #[.val (.int x0)] [] := by first | (simp [entryFrame, mkF, argsToLocals, Value.category]; done) | rfl
theorem pn_rmP1 : plainName "com/example/labels_in_order/labelsinorder/ComparisonOrderingPinLaw" = true := by first | (simp [plainName, overriddenIn]; done) | decide +kernel
set_option maxRecDepth 65536 in
set_option maxHeartbeats 40000000 in
theorem rmP1 (l : Launch) (Z : State) (a0 : Array Value) (hw : ∀ d ∈ tables_1, d.before a0 Z = true) (ws : List Jvm.Cond) (s1_ : Addr) (h0 : Heap) (n0 : Nat) (Z0 : n0 ≤ h0.size) (hp0 : Sta Z h0 "com/example/labels_in_order/labelsinorder/Comparison" "NOT_EQUAL" "Lcom/example/labels_in_order/labelsinorder/Comparison;" (.ref s1_)) :
    MetFree l (⟨"com/example/labels_in_order/labelsinorder/ComparisonOrderingPinLaw", "pick", "(I)Lcom/example/labels_in_order/labelsinorder/Comparison;"⟩ : MethodName) (head1 (Jvm.Cond.code (⟨"com/example/labels_in_order/labelsinorder/ComparisonOrderingPinLaw", "pick", "(I)Lcom/example/labels_in_order/labelsinorder/Comparison;"⟩ : MethodName) method_3_code 1 (some (.object "com/example/labels_in_order/labelsinorder/Comparison")) :: ws) ({ frames := 0, cells := 0, slots := 0, locals := 0 } : Room)) (fun a U => a = #[(.int (1 : Int32))] ∧ Z.Warmed39 U.vm ∧ U.heap = h0) (fun _ _ _ _ _ => True) (fun _ U o U' => ∃ v L, o = .returned v ∧ Q_rmP1 Z s1_ h0 n0 v U'.heap L ∧ FrameEnd U o U' L ({ frames := 0, cells := 0, slots := 0, locals := 0 } : Room).cells ({ frames := 0, cells := 0, slots := 0, locals := 0 } : Room).slots) := by
  refine MetFree.of_bodySF (plainFor_of_name pn_rmP1) hisR ?_
  intro p e s m args below meth c s₁ Bd hml0 hP hK
  obtain ⟨rfl, hZ, hh⟩ := hP
  have hx := Bd.exec
  have hby := Bd.bytes
  have hml : c.maxLocals = 1 := hml0
  have hown : s.vm.findClass "com/example/labels_in_order/labelsinorder/ComparisonOrderingPinLaw" = some m.cls := findClass_of_methodNamed Bd.named
  have hnm := (name_of_methodNamed Bd.named Bd.method).1
  have hlk : meth.locks = false := BodyLoose.notSynchronized Bd
  have X0 : Stand p l e ({ frames := 0, cells := 0, slots := 0, locals := 0 } : Room) s m #[(.int (1 : Int32))] below meth c s₁ [] 0 0 := Stand.of_body Bd
  have e0 : s₁.heap = h0 := by rw [← hh, Bd.state]; rfl
  have N0 := Fr.nil n0
  show own_W p e below s (Q_rmP1 Z s1_ h0 n0) 0 0 s₁ (entryFrame m #[(.int (1 : Int32))] 1)
  skip
  skip
  refine own_go (T' := s₁) (g' := (mkF m 0 #[.val (.int (1 : Int32))] [])) (fun _ k => castTop (ef_rmP1 m (1 : Int32)) k) ?_
  refine own_go (T' := s₁) (g' := (mkF m 1 #[.val (.int (1 : Int32))] [(.int (1 : Int32))])) (fun _ k => XS.iloadN X0.here hx rfl (hb hby d1_0) rfl k) ?_
  refine own_go (T' := s₁) (g' := (mkF m 8 #[.val (.int (1 : Int32))] [])) (fun _ k => XS.ifYes X0.here hx rfl (pc0 := 1) (pc' := 8) rfl (hb hby d1_1) rfl (XT.i0_ne_t (by decide : ¬ ((1 : Int32) = (0 : Int32)))) (by decide) (by decide) k) ?_
  refine own_go (T' := s₁) (g' := (mkF m 9 #[.val (.int (1 : Int32))] [(.int (1 : Int32))])) (fun _ k => XS.iloadN X0.here hx rfl (hb hby d1_8) rfl k) ?_
  refine own_go (T' := s₁) (g' := (mkF m 10 #[.val (.int (1 : Int32))] [(.int (1 : Int32)), (.int (1 : Int32))])) (fun _ k => XS.iconst X0.here hx rfl (hb hby d1_9) k) ?_
  refine own_go (T' := s₁) (g' := (mkF m 13 #[.val (.int (1 : Int32))] [])) (fun _ k => XS.icmpNo X0.here hx rfl (hb hby d1_10) rfl (XT.ii_ne_f (rfl : (1 : Int32) = (1 : Int32))) k) ?_
  obtain ⟨T1, X1, e1, st1⟩ := getS2 X0 hx hZ hown (host := "") (Or.inl (hw _ (List.mem_of_getElem? (i := 55) rfl))) Via.refl e0 hp0 (g := (mkF m 13 #[.val (.int (1 : Int32))] [])) rfl (hb hby d1_13)
  refine own_go (T' := T1) (g' := (mkF m 16 #[.val (.int (1 : Int32))] [(.ref s1_)])) (fun _ k => st1 _ k) ?_
  exact own_ret X1 hx Bd.returns hlk rfl (Or.inr (Or.inr (Or.inr (Or.inr ⟨rfl, rfl, rfl⟩)))) (hb hby d1_16) e1 ⟨rfl, N0, rfl⟩ (by decide) (by decide)
theorem d1_17 : decode method_3_code 17 = .ok (.iload_n 0, 1) := by decide +kernel
theorem d1_18 : decode method_3_code 18 = .ok (.iconst 2, 1) := by decide +kernel
theorem d1_19 : decode method_3_code 19 = .ok (.if_icmp .ne 7, 3) := by decide +kernel
theorem d1_22 : decode method_3_code 22 = .ok (.getstatic 37, 3) := by decide +kernel
theorem d1_25 : decode method_3_code 25 = .ok (.areturn, 1) := by decide +kernel
def Q_rmP2 (Z : State) (s2_ : Addr) (h0 : Heap) (n0 : Nat) (v : Option Value) (h : Heap) (L : List Loc) : Prop := v = some (.ref s2_) ∧ Fr n0 L ∧ h = h0
theorem ef_rmP2 (m : MethodId) (x0 : Int32) : entryFrame m #[(.int x0)] 1 = mkF m 0 #[.val (.int x0)] [] := by first | (simp [entryFrame, mkF, argsToLocals, Value.category]; done) | rfl
theorem pn_rmP2 : plainName "com/example/labels_in_order/labelsinorder/ComparisonOrderingPinLaw" = true := by first | (simp [plainName, overriddenIn]; done) | decide +kernel
set_option maxRecDepth 65536 in
set_option maxHeartbeats 40000000 in
theorem rmP2 (l : Launch) (Z : State) (a0 : Array Value) (hw : ∀ d ∈ tables_1, d.before a0 Z = true) (ws : List Jvm.Cond) (s2_ : Addr) (h0 : Heap) (n0 : Nat) (Z0 : n0 ≤ h0.size) (hp0 : Sta Z h0 "com/example/labels_in_order/labelsinorder/Comparison" "LESS" "Lcom/example/labels_in_order/labelsinorder/Comparison;" (.ref s2_)) :
    MetFree l (⟨"com/example/labels_in_order/labelsinorder/ComparisonOrderingPinLaw", "pick", "(I)Lcom/example/labels_in_order/labelsinorder/Comparison;"⟩ : MethodName) (head1 (Jvm.Cond.code (⟨"com/example/labels_in_order/labelsinorder/ComparisonOrderingPinLaw", "pick", "(I)Lcom/example/labels_in_order/labelsinorder/Comparison;"⟩ : MethodName) method_3_code 1 (some (.object "com/example/labels_in_order/labelsinorder/Comparison")) :: ws) ({ frames := 0, cells := 0, slots := 0, locals := 0 } : Room)) (fun a U => a = #[(.int (2 : Int32))] ∧ Z.Warmed39 U.vm ∧ U.heap = h0) (fun _ _ _ _ _ => True) (fun _ U o U' => ∃ v L, o = .returned v ∧ Q_rmP2 Z s2_ h0 n0 v U'.heap L ∧ FrameEnd U o U' L ({ frames := 0, cells := 0, slots := 0, locals := 0 } : Room).cells ({ frames := 0, cells := 0, slots := 0, locals := 0 } : Room).slots) := by
  refine MetFree.of_bodySF (plainFor_of_name pn_rmP2) hisR ?_
  intro p e s m args below meth c s₁ Bd hml0 hP hK
  obtain ⟨rfl, hZ, hh⟩ := hP
  have hx := Bd.exec
  have hby := Bd.bytes
  have hml : c.maxLocals = 1 := hml0
  have hown : s.vm.findClass "com/example/labels_in_order/labelsinorder/ComparisonOrderingPinLaw" = some m.cls := findClass_of_methodNamed Bd.named
  have hnm := (name_of_methodNamed Bd.named Bd.method).1
  have hlk : meth.locks = false := BodyLoose.notSynchronized Bd
  have X0 : Stand p l e ({ frames := 0, cells := 0, slots := 0, locals := 0 } : Room) s m #[(.int (2 : Int32))] below meth c s₁ [] 0 0 := Stand.of_body Bd
  have e0 : s₁.heap = h0 := by rw [← hh, Bd.state]; rfl
  have N0 := Fr.nil n0
  show own_W p e below s (Q_rmP2 Z s2_ h0 n0) 0 0 s₁ (entryFrame m #[(.int (2 : Int32))] 1)
  skip
  skip
  refine own_go (T' := s₁) (g' := (mkF m 0 #[.val (.int (2 : Int32))] [])) (fun _ k => castTop (ef_rmP2 m (2 : Int32)) k) ?_
  refine own_go (T' := s₁) (g' := (mkF m 1 #[.val (.int (2 : Int32))] [(.int (2 : Int32))])) (fun _ k => XS.iloadN X0.here hx rfl (hb hby d1_0) rfl k) ?_
  refine own_go (T' := s₁) (g' := (mkF m 8 #[.val (.int (2 : Int32))] [])) (fun _ k => XS.ifYes X0.here hx rfl (pc0 := 1) (pc' := 8) rfl (hb hby d1_1) rfl (XT.i0_ne_t (by decide : ¬ ((2 : Int32) = (0 : Int32)))) (by decide) (by decide) k) ?_
  refine own_go (T' := s₁) (g' := (mkF m 9 #[.val (.int (2 : Int32))] [(.int (2 : Int32))])) (fun _ k => XS.iloadN X0.here hx rfl (hb hby d1_8) rfl k) ?_
  refine own_go (T' := s₁) (g' := (mkF m 10 #[.val (.int (2 : Int32))] [(.int (1 : Int32)), (.int (2 : Int32))])) (fun _ k => XS.iconst X0.here hx rfl (hb hby d1_9) k) ?_
  refine own_go (T' := s₁) (g' := (mkF m 17 #[.val (.int (2 : Int32))] [])) (fun _ k => XS.icmpYes X0.here hx rfl (pc0 := 10) (pc' := 17) rfl (hb hby d1_10) rfl (XT.ii_ne_t (by decide : ¬ ((2 : Int32) = (1 : Int32)))) (by decide) (by decide) k) ?_
  refine own_go (T' := s₁) (g' := (mkF m 18 #[.val (.int (2 : Int32))] [(.int (2 : Int32))])) (fun _ k => XS.iloadN X0.here hx rfl (hb hby d1_17) rfl k) ?_
  refine own_go (T' := s₁) (g' := (mkF m 19 #[.val (.int (2 : Int32))] [(.int (2 : Int32)), (.int (2 : Int32))])) (fun _ k => XS.iconst X0.here hx rfl (hb hby d1_18) k) ?_
  refine own_go (T' := s₁) (g' := (mkF m 22 #[.val (.int (2 : Int32))] [])) (fun _ k => XS.icmpNo X0.here hx rfl (hb hby d1_19) rfl (XT.ii_ne_f (rfl : (2 : Int32) = (2 : Int32))) k) ?_
  obtain ⟨T1, X1, e1, st1⟩ := getS2 X0 hx hZ hown (host := "") (Or.inl (hw _ (List.mem_of_getElem? (i := 53) rfl))) Via.refl e0 hp0 (g := (mkF m 22 #[.val (.int (2 : Int32))] [])) rfl (hb hby d1_22)
  refine own_go (T' := T1) (g' := (mkF m 25 #[.val (.int (2 : Int32))] [(.ref s2_)])) (fun _ k => st1 _ k) ?_
  exact own_ret X1 hx Bd.returns hlk rfl (Or.inr (Or.inr (Or.inr (Or.inr ⟨rfl, rfl, rfl⟩)))) (hb hby d1_25) e1 ⟨rfl, N0, rfl⟩ (by decide) (by decide)
theorem d1_26 : decode method_3_code 26 = .ok (.iload_n 0, 1) := by decide +kernel
theorem d1_27 : decode method_3_code 27 = .ok (.iconst 3, 1) := by decide +kernel
theorem d1_28 : decode method_3_code 28 = .ok (.if_icmp .ne 7, 3) := by decide +kernel
theorem d1_31 : decode method_3_code 31 = .ok (.getstatic 40, 3) := by decide +kernel
theorem d1_34 : decode method_3_code 34 = .ok (.areturn, 1) := by decide +kernel
def Q_rmP3 (Z : State) (s3_ : Addr) (h0 : Heap) (n0 : Nat) (v : Option Value) (h : Heap) (L : List Loc) : Prop := v = some (.ref s3_) ∧ Fr n0 L ∧ h = h0
theorem ef_rmP3 (m : MethodId) (x0 : Int32) : entryFrame m #[(.int x0)] 1 = mkF m 0 #[.val (.int x0)] [] := by first | (simp [entryFrame, mkF, argsToLocals, Value.category]; done) | rfl
theorem pn_rmP3 : plainName "com/example/labels_in_order/labelsinorder/ComparisonOrderingPinLaw" = true := by first | (simp [plainName, overriddenIn]; done) | decide +kernel
set_option maxRecDepth 65536 in
set_option maxHeartbeats 40000000 in
theorem rmP3 (l : Launch) (Z : State) (a0 : Array Value) (hw : ∀ d ∈ tables_1, d.before a0 Z = true) (ws : List Jvm.Cond) (s3_ : Addr) (h0 : Heap) (n0 : Nat) (Z0 : n0 ≤ h0.size) (hp0 : Sta Z h0 "com/example/labels_in_order/labelsinorder/Comparison" "LESS_OR_EQUAL" "Lcom/example/labels_in_order/labelsinorder/Comparison;" (.ref s3_)) :
    MetFree l (⟨"com/example/labels_in_order/labelsinorder/ComparisonOrderingPinLaw", "pick", "(I)Lcom/example/labels_in_order/labelsinorder/Comparison;"⟩ : MethodName) (head1 (Jvm.Cond.code (⟨"com/example/labels_in_order/labelsinorder/ComparisonOrderingPinLaw", "pick", "(I)Lcom/example/labels_in_order/labelsinorder/Comparison;"⟩ : MethodName) method_3_code 1 (some (.object "com/example/labels_in_order/labelsinorder/Comparison")) :: ws) ({ frames := 0, cells := 0, slots := 0, locals := 0 } : Room)) (fun a U => a = #[(.int (3 : Int32))] ∧ Z.Warmed39 U.vm ∧ U.heap = h0) (fun _ _ _ _ _ => True) (fun _ U o U' => ∃ v L, o = .returned v ∧ Q_rmP3 Z s3_ h0 n0 v U'.heap L ∧ FrameEnd U o U' L ({ frames := 0, cells := 0, slots := 0, locals := 0 } : Room).cells ({ frames := 0, cells := 0, slots := 0, locals := 0 } : Room).slots) := by
  refine MetFree.of_bodySF (plainFor_of_name pn_rmP3) hisR ?_
  intro p e s m args below meth c s₁ Bd hml0 hP hK
  obtain ⟨rfl, hZ, hh⟩ := hP
  have hx := Bd.exec
  have hby := Bd.bytes
  have hml : c.maxLocals = 1 := hml0
  have hown : s.vm.findClass "com/example/labels_in_order/labelsinorder/ComparisonOrderingPinLaw" = some m.cls := findClass_of_methodNamed Bd.named
  have hnm := (name_of_methodNamed Bd.named Bd.method).1
  have hlk : meth.locks = false := BodyLoose.notSynchronized Bd
  have X0 : Stand p l e ({ frames := 0, cells := 0, slots := 0, locals := 0 } : Room) s m #[(.int (3 : Int32))] below meth c s₁ [] 0 0 := Stand.of_body Bd
  have e0 : s₁.heap = h0 := by rw [← hh, Bd.state]; rfl
  have N0 := Fr.nil n0
  show own_W p e below s (Q_rmP3 Z s3_ h0 n0) 0 0 s₁ (entryFrame m #[(.int (3 : Int32))] 1)
  skip
  skip
  refine own_go (T' := s₁) (g' := (mkF m 0 #[.val (.int (3 : Int32))] [])) (fun _ k => castTop (ef_rmP3 m (3 : Int32)) k) ?_
  refine own_go (T' := s₁) (g' := (mkF m 1 #[.val (.int (3 : Int32))] [(.int (3 : Int32))])) (fun _ k => XS.iloadN X0.here hx rfl (hb hby d1_0) rfl k) ?_
  refine own_go (T' := s₁) (g' := (mkF m 8 #[.val (.int (3 : Int32))] [])) (fun _ k => XS.ifYes X0.here hx rfl (pc0 := 1) (pc' := 8) rfl (hb hby d1_1) rfl (XT.i0_ne_t (by decide : ¬ ((3 : Int32) = (0 : Int32)))) (by decide) (by decide) k) ?_
  refine own_go (T' := s₁) (g' := (mkF m 9 #[.val (.int (3 : Int32))] [(.int (3 : Int32))])) (fun _ k => XS.iloadN X0.here hx rfl (hb hby d1_8) rfl k) ?_
  refine own_go (T' := s₁) (g' := (mkF m 10 #[.val (.int (3 : Int32))] [(.int (1 : Int32)), (.int (3 : Int32))])) (fun _ k => XS.iconst X0.here hx rfl (hb hby d1_9) k) ?_
  refine own_go (T' := s₁) (g' := (mkF m 17 #[.val (.int (3 : Int32))] [])) (fun _ k => XS.icmpYes X0.here hx rfl (pc0 := 10) (pc' := 17) rfl (hb hby d1_10) rfl (XT.ii_ne_t (by decide : ¬ ((3 : Int32) = (1 : Int32)))) (by decide) (by decide) k) ?_
  refine own_go (T' := s₁) (g' := (mkF m 18 #[.val (.int (3 : Int32))] [(.int (3 : Int32))])) (fun _ k => XS.iloadN X0.here hx rfl (hb hby d1_17) rfl k) ?_
  refine own_go (T' := s₁) (g' := (mkF m 19 #[.val (.int (3 : Int32))] [(.int (2 : Int32)), (.int (3 : Int32))])) (fun _ k => XS.iconst X0.here hx rfl (hb hby d1_18) k) ?_
  refine own_go (T' := s₁) (g' := (mkF m 26 #[.val (.int (3 : Int32))] [])) (fun _ k => XS.icmpYes X0.here hx rfl (pc0 := 19) (pc' := 26) rfl (hb hby d1_19) rfl (XT.ii_ne_t (by decide : ¬ ((3 : Int32) = (2 : Int32)))) (by decide) (by decide) k) ?_
  refine own_go (T' := s₁) (g' := (mkF m 27 #[.val (.int (3 : Int32))] [(.int (3 : Int32))])) (fun _ k => XS.iloadN X0.here hx rfl (hb hby d1_26) rfl k) ?_
  refine own_go (T' := s₁) (g' := (mkF m 28 #[.val (.int (3 : Int32))] [(.int (3 : Int32)), (.int (3 : Int32))])) (fun _ k => XS.iconst X0.here hx rfl (hb hby d1_27) k) ?_
  refine own_go (T' := s₁) (g' := (mkF m 31 #[.val (.int (3 : Int32))] [])) (fun _ k => XS.icmpNo X0.here hx rfl (hb hby d1_28) rfl (XT.ii_ne_f (rfl : (3 : Int32) = (3 : Int32))) k) ?_
  obtain ⟨T1, X1, e1, st1⟩ := getS2 X0 hx hZ hown (host := "") (Or.inl (hw _ (List.mem_of_getElem? (i := 49) rfl))) Via.refl e0 hp0 (g := (mkF m 31 #[.val (.int (3 : Int32))] [])) rfl (hb hby d1_31)
  refine own_go (T' := T1) (g' := (mkF m 34 #[.val (.int (3 : Int32))] [(.ref s3_)])) (fun _ k => st1 _ k) ?_
  exact own_ret X1 hx Bd.returns hlk rfl (Or.inr (Or.inr (Or.inr (Or.inr ⟨rfl, rfl, rfl⟩)))) (hb hby d1_34) e1 ⟨rfl, N0, rfl⟩ (by decide) (by decide)
theorem d1_35 : decode method_3_code 35 = .ok (.iload_n 0, 1) := by decide +kernel
theorem d1_36 : decode method_3_code 36 = .ok (.iconst 4, 1) := by decide +kernel
theorem d1_37 : decode method_3_code 37 = .ok (.if_icmp .ne 7, 3) := by decide +kernel
theorem d1_40 : decode method_3_code 40 = .ok (.getstatic 43, 3) := by decide +kernel
theorem d1_43 : decode method_3_code 43 = .ok (.areturn, 1) := by decide +kernel
def Q_rmP4 (Z : State) (s4_ : Addr) (h0 : Heap) (n0 : Nat) (v : Option Value) (h : Heap) (L : List Loc) : Prop := v = some (.ref s4_) ∧ Fr n0 L ∧ h = h0
theorem ef_rmP4 (m : MethodId) (x0 : Int32) : entryFrame m #[(.int x0)] 1 = mkF m 0 #[.val (.int x0)] [] := by first | (simp [entryFrame, mkF, argsToLocals, Value.category]; done) | rfl
theorem pn_rmP4 : plainName "com/example/labels_in_order/labelsinorder/ComparisonOrderingPinLaw" = true := by first | (simp [plainName, overriddenIn]; done) | decide +kernel
set_option maxRecDepth 65536 in
set_option maxHeartbeats 40000000 in
theorem rmP4 (l : Launch) (Z : State) (a0 : Array Value) (hw : ∀ d ∈ tables_1, d.before a0 Z = true) (ws : List Jvm.Cond) (s4_ : Addr) (h0 : Heap) (n0 : Nat) (Z0 : n0 ≤ h0.size) (hp0 : Sta Z h0 "com/example/labels_in_order/labelsinorder/Comparison" "GREATER" "Lcom/example/labels_in_order/labelsinorder/Comparison;" (.ref s4_)) :
    MetFree l (⟨"com/example/labels_in_order/labelsinorder/ComparisonOrderingPinLaw", "pick", "(I)Lcom/example/labels_in_order/labelsinorder/Comparison;"⟩ : MethodName) (head1 (Jvm.Cond.code (⟨"com/example/labels_in_order/labelsinorder/ComparisonOrderingPinLaw", "pick", "(I)Lcom/example/labels_in_order/labelsinorder/Comparison;"⟩ : MethodName) method_3_code 1 (some (.object "com/example/labels_in_order/labelsinorder/Comparison")) :: ws) ({ frames := 0, cells := 0, slots := 0, locals := 0 } : Room)) (fun a U => a = #[(.int (4 : Int32))] ∧ Z.Warmed39 U.vm ∧ U.heap = h0) (fun _ _ _ _ _ => True) (fun _ U o U' => ∃ v L, o = .returned v ∧ Q_rmP4 Z s4_ h0 n0 v U'.heap L ∧ FrameEnd U o U' L ({ frames := 0, cells := 0, slots := 0, locals := 0 } : Room).cells ({ frames := 0, cells := 0, slots := 0, locals := 0 } : Room).slots) := by
  refine MetFree.of_bodySF (plainFor_of_name pn_rmP4) hisR ?_
  intro p e s m args below meth c s₁ Bd hml0 hP hK
  obtain ⟨rfl, hZ, hh⟩ := hP
  have hx := Bd.exec
  have hby := Bd.bytes
  have hml : c.maxLocals = 1 := hml0
  have hown : s.vm.findClass "com/example/labels_in_order/labelsinorder/ComparisonOrderingPinLaw" = some m.cls := findClass_of_methodNamed Bd.named
  have hnm := (name_of_methodNamed Bd.named Bd.method).1
  have hlk : meth.locks = false := BodyLoose.notSynchronized Bd
  have X0 : Stand p l e ({ frames := 0, cells := 0, slots := 0, locals := 0 } : Room) s m #[(.int (4 : Int32))] below meth c s₁ [] 0 0 := Stand.of_body Bd
  have e0 : s₁.heap = h0 := by rw [← hh, Bd.state]; rfl
  have N0 := Fr.nil n0
  show own_W p e below s (Q_rmP4 Z s4_ h0 n0) 0 0 s₁ (entryFrame m #[(.int (4 : Int32))] 1)
  skip
  skip
  refine own_go (T' := s₁) (g' := (mkF m 0 #[.val (.int (4 : Int32))] [])) (fun _ k => castTop (ef_rmP4 m (4 : Int32)) k) ?_
  refine own_go (T' := s₁) (g' := (mkF m 1 #[.val (.int (4 : Int32))] [(.int (4 : Int32))])) (fun _ k => XS.iloadN X0.here hx rfl (hb hby d1_0) rfl k) ?_
  refine own_go (T' := s₁) (g' := (mkF m 8 #[.val (.int (4 : Int32))] [])) (fun _ k => XS.ifYes X0.here hx rfl (pc0 := 1) (pc' := 8) rfl (hb hby d1_1) rfl (XT.i0_ne_t (by decide : ¬ ((4 : Int32) = (0 : Int32)))) (by decide) (by decide) k) ?_
  refine own_go (T' := s₁) (g' := (mkF m 9 #[.val (.int (4 : Int32))] [(.int (4 : Int32))])) (fun _ k => XS.iloadN X0.here hx rfl (hb hby d1_8) rfl k) ?_
  refine own_go (T' := s₁) (g' := (mkF m 10 #[.val (.int (4 : Int32))] [(.int (1 : Int32)), (.int (4 : Int32))])) (fun _ k => XS.iconst X0.here hx rfl (hb hby d1_9) k) ?_
  refine own_go (T' := s₁) (g' := (mkF m 17 #[.val (.int (4 : Int32))] [])) (fun _ k => XS.icmpYes X0.here hx rfl (pc0 := 10) (pc' := 17) rfl (hb hby d1_10) rfl (XT.ii_ne_t (by decide : ¬ ((4 : Int32) = (1 : Int32)))) (by decide) (by decide) k) ?_
  refine own_go (T' := s₁) (g' := (mkF m 18 #[.val (.int (4 : Int32))] [(.int (4 : Int32))])) (fun _ k => XS.iloadN X0.here hx rfl (hb hby d1_17) rfl k) ?_
  refine own_go (T' := s₁) (g' := (mkF m 19 #[.val (.int (4 : Int32))] [(.int (2 : Int32)), (.int (4 : Int32))])) (fun _ k => XS.iconst X0.here hx rfl (hb hby d1_18) k) ?_
  refine own_go (T' := s₁) (g' := (mkF m 26 #[.val (.int (4 : Int32))] [])) (fun _ k => XS.icmpYes X0.here hx rfl (pc0 := 19) (pc' := 26) rfl (hb hby d1_19) rfl (XT.ii_ne_t (by decide : ¬ ((4 : Int32) = (2 : Int32)))) (by decide) (by decide) k) ?_
  refine own_go (T' := s₁) (g' := (mkF m 27 #[.val (.int (4 : Int32))] [(.int (4 : Int32))])) (fun _ k => XS.iloadN X0.here hx rfl (hb hby d1_26) rfl k) ?_
  refine own_go (T' := s₁) (g' := (mkF m 28 #[.val (.int (4 : Int32))] [(.int (3 : Int32)), (.int (4 : Int32))])) (fun _ k => XS.iconst X0.here hx rfl (hb hby d1_27) k) ?_
  refine own_go (T' := s₁) (g' := (mkF m 35 #[.val (.int (4 : Int32))] [])) (fun _ k => XS.icmpYes X0.here hx rfl (pc0 := 28) (pc' := 35) rfl (hb hby d1_28) rfl (XT.ii_ne_t (by decide : ¬ ((4 : Int32) = (3 : Int32)))) (by decide) (by decide) k) ?_
  refine own_go (T' := s₁) (g' := (mkF m 36 #[.val (.int (4 : Int32))] [(.int (4 : Int32))])) (fun _ k => XS.iloadN X0.here hx rfl (hb hby d1_35) rfl k) ?_
  refine own_go (T' := s₁) (g' := (mkF m 37 #[.val (.int (4 : Int32))] [(.int (4 : Int32)), (.int (4 : Int32))])) (fun _ k => XS.iconst X0.here hx rfl (hb hby d1_36) k) ?_
  refine own_go (T' := s₁) (g' := (mkF m 40 #[.val (.int (4 : Int32))] [])) (fun _ k => XS.icmpNo X0.here hx rfl (hb hby d1_37) rfl (XT.ii_ne_f (rfl : (4 : Int32) = (4 : Int32))) k) ?_
  obtain ⟨T1, X1, e1, st1⟩ := getS2 X0 hx hZ hown (host := "") (Or.inl (hw _ (List.mem_of_getElem? (i := 58) rfl))) Via.refl e0 hp0 (g := (mkF m 40 #[.val (.int (4 : Int32))] [])) rfl (hb hby d1_40)
  refine own_go (T' := T1) (g' := (mkF m 43 #[.val (.int (4 : Int32))] [(.ref s4_)])) (fun _ k => st1 _ k) ?_
  exact own_ret X1 hx Bd.returns hlk rfl (Or.inr (Or.inr (Or.inr (Or.inr ⟨rfl, rfl, rfl⟩)))) (hb hby d1_43) e1 ⟨rfl, N0, rfl⟩ (by decide) (by decide)
theorem d1_44 : decode method_3_code 44 = .ok (.getstatic 46, 3) := by decide +kernel
theorem d1_47 : decode method_3_code 47 = .ok (.areturn, 1) := by decide +kernel
def Q_rmP5 (Z : State) (s5_ : Addr) (h0 : Heap) (n0 : Nat) (v : Option Value) (h : Heap) (L : List Loc) : Prop := v = some (.ref s5_) ∧ Fr n0 L ∧ h = h0
theorem ef_rmP5 (m : MethodId) (x0 : Int32) : entryFrame m #[(.int x0)] 1 = mkF m 0 #[.val (.int x0)] [] := by first | (simp [entryFrame, mkF, argsToLocals, Value.category]; done) | rfl
theorem pn_rmP5 : plainName "com/example/labels_in_order/labelsinorder/ComparisonOrderingPinLaw" = true := by first | (simp [plainName, overriddenIn]; done) | decide +kernel
set_option maxRecDepth 65536 in
set_option maxHeartbeats 40000000 in
theorem rmP5 (l : Launch) (Z : State) (a0 : Array Value) (hw : ∀ d ∈ tables_1, d.before a0 Z = true) (ws : List Jvm.Cond) (s5_ : Addr) (h0 : Heap) (n0 : Nat) (Z0 : n0 ≤ h0.size) (hp0 : Sta Z h0 "com/example/labels_in_order/labelsinorder/Comparison" "GREATER_OR_EQUAL" "Lcom/example/labels_in_order/labelsinorder/Comparison;" (.ref s5_)) :
    MetFree l (⟨"com/example/labels_in_order/labelsinorder/ComparisonOrderingPinLaw", "pick", "(I)Lcom/example/labels_in_order/labelsinorder/Comparison;"⟩ : MethodName) (head1 (Jvm.Cond.code (⟨"com/example/labels_in_order/labelsinorder/ComparisonOrderingPinLaw", "pick", "(I)Lcom/example/labels_in_order/labelsinorder/Comparison;"⟩ : MethodName) method_3_code 1 (some (.object "com/example/labels_in_order/labelsinorder/Comparison")) :: ws) ({ frames := 0, cells := 0, slots := 0, locals := 0 } : Room)) (fun a U => a = #[(.int (5 : Int32))] ∧ Z.Warmed39 U.vm ∧ U.heap = h0) (fun _ _ _ _ _ => True) (fun _ U o U' => ∃ v L, o = .returned v ∧ Q_rmP5 Z s5_ h0 n0 v U'.heap L ∧ FrameEnd U o U' L ({ frames := 0, cells := 0, slots := 0, locals := 0 } : Room).cells ({ frames := 0, cells := 0, slots := 0, locals := 0 } : Room).slots) := by
  refine MetFree.of_bodySF (plainFor_of_name pn_rmP5) hisR ?_
  intro p e s m args below meth c s₁ Bd hml0 hP hK
  obtain ⟨rfl, hZ, hh⟩ := hP
  have hx := Bd.exec
  have hby := Bd.bytes
  have hml : c.maxLocals = 1 := hml0
  have hown : s.vm.findClass "com/example/labels_in_order/labelsinorder/ComparisonOrderingPinLaw" = some m.cls := findClass_of_methodNamed Bd.named
  have hnm := (name_of_methodNamed Bd.named Bd.method).1
  have hlk : meth.locks = false := BodyLoose.notSynchronized Bd
  have X0 : Stand p l e ({ frames := 0, cells := 0, slots := 0, locals := 0 } : Room) s m #[(.int (5 : Int32))] below meth c s₁ [] 0 0 := Stand.of_body Bd
  have e0 : s₁.heap = h0 := by rw [← hh, Bd.state]; rfl
  have N0 := Fr.nil n0
  show own_W p e below s (Q_rmP5 Z s5_ h0 n0) 0 0 s₁ (entryFrame m #[(.int (5 : Int32))] 1)
  skip
  skip
  refine own_go (T' := s₁) (g' := (mkF m 0 #[.val (.int (5 : Int32))] [])) (fun _ k => castTop (ef_rmP5 m (5 : Int32)) k) ?_
  refine own_go (T' := s₁) (g' := (mkF m 1 #[.val (.int (5 : Int32))] [(.int (5 : Int32))])) (fun _ k => XS.iloadN X0.here hx rfl (hb hby d1_0) rfl k) ?_
  refine own_go (T' := s₁) (g' := (mkF m 8 #[.val (.int (5 : Int32))] [])) (fun _ k => XS.ifYes X0.here hx rfl (pc0 := 1) (pc' := 8) rfl (hb hby d1_1) rfl (XT.i0_ne_t (by decide : ¬ ((5 : Int32) = (0 : Int32)))) (by decide) (by decide) k) ?_
  refine own_go (T' := s₁) (g' := (mkF m 9 #[.val (.int (5 : Int32))] [(.int (5 : Int32))])) (fun _ k => XS.iloadN X0.here hx rfl (hb hby d1_8) rfl k) ?_
  refine own_go (T' := s₁) (g' := (mkF m 10 #[.val (.int (5 : Int32))] [(.int (1 : Int32)), (.int (5 : Int32))])) (fun _ k => XS.iconst X0.here hx rfl (hb hby d1_9) k) ?_
  refine own_go (T' := s₁) (g' := (mkF m 17 #[.val (.int (5 : Int32))] [])) (fun _ k => XS.icmpYes X0.here hx rfl (pc0 := 10) (pc' := 17) rfl (hb hby d1_10) rfl (XT.ii_ne_t (by decide : ¬ ((5 : Int32) = (1 : Int32)))) (by decide) (by decide) k) ?_
  refine own_go (T' := s₁) (g' := (mkF m 18 #[.val (.int (5 : Int32))] [(.int (5 : Int32))])) (fun _ k => XS.iloadN X0.here hx rfl (hb hby d1_17) rfl k) ?_
  refine own_go (T' := s₁) (g' := (mkF m 19 #[.val (.int (5 : Int32))] [(.int (2 : Int32)), (.int (5 : Int32))])) (fun _ k => XS.iconst X0.here hx rfl (hb hby d1_18) k) ?_
  refine own_go (T' := s₁) (g' := (mkF m 26 #[.val (.int (5 : Int32))] [])) (fun _ k => XS.icmpYes X0.here hx rfl (pc0 := 19) (pc' := 26) rfl (hb hby d1_19) rfl (XT.ii_ne_t (by decide : ¬ ((5 : Int32) = (2 : Int32)))) (by decide) (by decide) k) ?_
  refine own_go (T' := s₁) (g' := (mkF m 27 #[.val (.int (5 : Int32))] [(.int (5 : Int32))])) (fun _ k => XS.iloadN X0.here hx rfl (hb hby d1_26) rfl k) ?_
  refine own_go (T' := s₁) (g' := (mkF m 28 #[.val (.int (5 : Int32))] [(.int (3 : Int32)), (.int (5 : Int32))])) (fun _ k => XS.iconst X0.here hx rfl (hb hby d1_27) k) ?_
  refine own_go (T' := s₁) (g' := (mkF m 35 #[.val (.int (5 : Int32))] [])) (fun _ k => XS.icmpYes X0.here hx rfl (pc0 := 28) (pc' := 35) rfl (hb hby d1_28) rfl (XT.ii_ne_t (by decide : ¬ ((5 : Int32) = (3 : Int32)))) (by decide) (by decide) k) ?_
  refine own_go (T' := s₁) (g' := (mkF m 36 #[.val (.int (5 : Int32))] [(.int (5 : Int32))])) (fun _ k => XS.iloadN X0.here hx rfl (hb hby d1_35) rfl k) ?_
  refine own_go (T' := s₁) (g' := (mkF m 37 #[.val (.int (5 : Int32))] [(.int (4 : Int32)), (.int (5 : Int32))])) (fun _ k => XS.iconst X0.here hx rfl (hb hby d1_36) k) ?_
  refine own_go (T' := s₁) (g' := (mkF m 44 #[.val (.int (5 : Int32))] [])) (fun _ k => XS.icmpYes X0.here hx rfl (pc0 := 37) (pc' := 44) rfl (hb hby d1_37) rfl (XT.ii_ne_t (by decide : ¬ ((5 : Int32) = (4 : Int32)))) (by decide) (by decide) k) ?_
  obtain ⟨T1, X1, e1, st1⟩ := getS2 X0 hx hZ hown (host := "") (Or.inl (hw _ (List.mem_of_getElem? (i := 56) rfl))) Via.refl e0 hp0 (g := (mkF m 44 #[.val (.int (5 : Int32))] [])) rfl (hb hby d1_44)
  refine own_go (T' := T1) (g' := (mkF m 47 #[.val (.int (5 : Int32))] [(.ref s5_)])) (fun _ k => st1 _ k) ?_
  exact own_ret X1 hx Bd.returns hlk rfl (Or.inr (Or.inr (Or.inr (Or.inr ⟨rfl, rfl, rfl⟩)))) (hb hby d1_47) e1 ⟨rfl, N0, rfl⟩ (by decide) (by decide)
theorem d2_0 : decode prog_8_method_5_code 0 = .ok (.aload_n 0, 1) := by decide +kernel
theorem d2_1 : decode prog_8_method_5_code 1 = .ok (.getfield 41, 3) := by decide +kernel
theorem d2_4 : decode prog_8_method_5_code 4 = .ok (.areturn, 1) := by decide +kernel
def Q_rmW (Z : State) (r0 : Addr) (w1 : Addr) (h0 : Heap) (n0 : Nat) (v : Option Value) (h : Heap) (L : List Loc) : Prop := v = some (.ref w1) ∧ Fr n0 L ∧ h = h0
theorem ef_rmW (m : MethodId) (x0 : Addr) : entryFrame m #[(.ref x0)] 1 = mkF m 0 #[.val (.ref x0)] [] := by first | (simp [entryFrame, mkF, argsToLocals, Value.category]; done) | rfl
theorem pn_rmW : plainName "com/example/labels_in_order/labelsinorder/Comparison" = true := by first | (simp [plainName, overriddenIn]; done) | decide +kernel
set_option maxRecDepth 65536 in
set_option maxHeartbeats 40000000 in
theorem rmW (l : Launch) (Z : State) (a0 : Array Value) (hw : ∀ d ∈ tables_1, d.before a0 Z = true) (ws : List Jvm.Cond) (r0 : Addr) (w1 : Addr) (h0 : Heap) (n0 : Nat) (Z0 : n0 ≤ h0.size) (hp0 : Fld Z h0 r0 "com/example/labels_in_order/labelsinorder/Comparison" "written" "Ljava/lang/String;" (.ref w1)) :
    MetFree l (⟨"com/example/labels_in_order/labelsinorder/Comparison", "written", "()Ljava/lang/String;"⟩ : MethodName) (head1 (Jvm.Cond.code (⟨"com/example/labels_in_order/labelsinorder/Comparison", "written", "()Ljava/lang/String;"⟩ : MethodName) prog_8_method_5_code 1 (some (.object "java/lang/String")) :: ws) ({ frames := 0, cells := 0, slots := 0, locals := 0 } : Room)) (fun a U => a = #[(.ref r0)] ∧ Z.Warmed39 U.vm ∧ U.heap = h0) (fun _ _ _ _ _ => True) (fun _ U o U' => ∃ v L, o = .returned v ∧ Q_rmW Z r0 w1 h0 n0 v U'.heap L ∧ FrameEnd U o U' L ({ frames := 0, cells := 0, slots := 0, locals := 0 } : Room).cells ({ frames := 0, cells := 0, slots := 0, locals := 0 } : Room).slots) := by
  refine MetFree.of_bodySF (plainFor_of_name pn_rmW) hisR ?_
  intro p e s m args below meth c s₁ Bd hml0 hP hK
  obtain ⟨rfl, hZ, hh⟩ := hP
  have hx := Bd.exec
  have hby := Bd.bytes
  have hml : c.maxLocals = 1 := hml0
  have hown : s.vm.findClass "com/example/labels_in_order/labelsinorder/Comparison" = some m.cls := findClass_of_methodNamed Bd.named
  have hnm := (name_of_methodNamed Bd.named Bd.method).1
  have hlk : meth.locks = false := BodyLoose.notSynchronized Bd
  have X0 : Stand p l e ({ frames := 0, cells := 0, slots := 0, locals := 0 } : Room) s m #[(.ref r0)] below meth c s₁ [] 0 0 := Stand.of_body Bd
  have e0 : s₁.heap = h0 := by rw [← hh, Bd.state]; rfl
  have N0 := Fr.nil n0
  show own_W p e below s (Q_rmW Z r0 w1 h0 n0) 0 0 s₁ (entryFrame m #[(.ref r0)] 1)
  skip
  skip
  refine own_go (T' := s₁) (g' := (mkF m 0 #[.val (.ref r0)] [])) (fun _ k => castTop (ef_rmW m r0) k) ?_
  refine own_go (T' := s₁) (g' := (mkF m 1 #[.val (.ref r0)] [(.ref r0)])) (fun _ k => XS.aloadN X0.here hx rfl (hb hby d2_0) rfl rfl k) ?_
  obtain ⟨T1, X1, e1, st1⟩ := getF X0 hx hZ hown (host := "") (Or.inl (hw _ (List.mem_of_getElem? (i := 13) rfl))) Via.refl e0 hp0 (g := (mkF m 1 #[.val (.ref r0)] [(.ref r0)])) rfl rfl (hb hby d2_1)
  refine own_go (T' := T1) (g' := (mkF m 4 #[.val (.ref r0)] [(.ref w1)])) (fun _ k => st1 _ k) ?_
  exact own_ret X1 hx Bd.returns hlk rfl (Or.inr (Or.inr (Or.inr (Or.inr ⟨rfl, rfl, rfl⟩)))) (hb hby d2_4) e1 ⟨rfl, N0, rfl⟩ (by decide) (by decide)
def own_isL (r0 : Addr) (cs : Int32) : Int32 := (if cs = (0 : Int32) then (0 : Int32) else (1 : Int32))
theorem d4_0 : decode jdk_42_method_154_code 0 = .ok (.getstatic 38, 3) := by decide +kernel
theorem d4_3 : decode jdk_42_method_154_code 3 = .ok (.ifCond .eq 14, 3) := by decide +kernel
theorem d4_6 : decode jdk_42_method_154_code 6 = .ok (.aload_n 0, 1) := by decide +kernel
theorem d4_7 : decode jdk_42_method_154_code 7 = .ok (.getfield 15, 3) := by decide +kernel
theorem d4_10 : decode jdk_42_method_154_code 10 = .ok (.ifCond .ne 7, 3) := by decide +kernel
theorem d4_13 : decode jdk_42_method_154_code 13 = .ok (.iconst 1, 1) := by decide +kernel
theorem d4_14 : decode jdk_42_method_154_code 14 = .ok (.goto 4, 3) := by decide +kernel
theorem d4_17 : decode jdk_42_method_154_code 17 = .ok (.iconst 0, 1) := by decide +kernel
theorem d4_18 : decode jdk_42_method_154_code 18 = .ok (.ireturn, 1) := by decide +kernel
def Q_rmIsL (Z : State) (r0 : Addr) (cs : Int32) (h0 : Heap) (n0 : Nat) (v : Option Value) (h : Heap) (L : List Loc) : Prop := v = some (.int (own_isL r0 cs)) ∧ Fr n0 L ∧ h = h0
theorem ef_rmIsL (m : MethodId) (x0 : Addr) : entryFrame m #[(.ref x0)] 1 = mkF m 0 #[.val (.ref x0)] [] := by first | (simp [entryFrame, mkF, argsToLocals, Value.category]; done) | rfl
theorem pn_rmIsL : plainName "java/lang/String" = true := by first | (simp [plainName, overriddenIn]; done) | decide +kernel
set_option maxRecDepth 65536 in
set_option maxHeartbeats 40000000 in
theorem rmIsL (l : Launch) (Z : State) (a0 : Array Value) (hw : ∀ d ∈ tables_1, d.before a0 Z = true) (ws : List Jvm.Cond) (r0 : Addr) (cs : Int32) (h0 : Heap) (n0 : Nat) (Z0 : n0 ≤ h0.size) (hp0 : Sta Z h0 "java/lang/String" "COMPACT_STRINGS" "Z" (.int cs)) (hp1 : Fld Z h0 r0 "java/lang/String" "coder" "B" (.int (0 : Int32))) :
    MetFree l (⟨"java/lang/String", "isLatin1", "()Z"⟩ : MethodName) (head1 (Jvm.Cond.code (⟨"java/lang/String", "isLatin1", "()Z"⟩ : MethodName) jdk_42_method_154_code 1 (some .boolean) :: ws) ({ frames := 0, cells := 0, slots := 0, locals := 0 } : Room)) (fun a U => a = #[(.ref r0)] ∧ Z.Warmed39 U.vm ∧ U.heap = h0) (fun _ _ _ _ _ => True) (fun _ U o U' => ∃ v L, o = .returned v ∧ Q_rmIsL Z r0 cs h0 n0 v U'.heap L ∧ FrameEnd U o U' L ({ frames := 0, cells := 0, slots := 0, locals := 0 } : Room).cells ({ frames := 0, cells := 0, slots := 0, locals := 0 } : Room).slots) := by
  refine MetFree.of_bodySF (plainFor_of_name pn_rmIsL) hisR ?_
  intro p e s m args below meth c s₁ Bd hml0 hP hK
  obtain ⟨rfl, hZ, hh⟩ := hP
  have hx := Bd.exec
  have hby := Bd.bytes
  have hml : c.maxLocals = 1 := hml0
  have hown : s.vm.findClass "java/lang/String" = some m.cls := findClass_of_methodNamed Bd.named
  have hnm := (name_of_methodNamed Bd.named Bd.method).1
  have hlk : meth.locks = false := BodyLoose.notSynchronized Bd
  have X0 : Stand p l e ({ frames := 0, cells := 0, slots := 0, locals := 0 } : Room) s m #[(.ref r0)] below meth c s₁ [] 0 0 := Stand.of_body Bd
  have e0 : s₁.heap = h0 := by rw [← hh, Bd.state]; rfl
  have N0 := Fr.nil n0
  show own_W p e below s (Q_rmIsL Z r0 cs h0 n0) 0 0 s₁ (entryFrame m #[(.ref r0)] 1)
  skip
  skip
  refine own_go (T' := s₁) (g' := (mkF m 0 #[.val (.ref r0)] [])) (fun _ k => castTop (ef_rmIsL m r0) k) ?_
  obtain ⟨T1, X1, e1, st1⟩ := getS2 X0 hx hZ hown (host := "") (Or.inl (hw _ (List.mem_of_getElem? (i := 26) rfl))) Via.refl e0 hp0 (g := (mkF m 0 #[.val (.ref r0)] [])) rfl (hb hby d4_0)
  refine own_go (T' := T1) (g' := (mkF m 3 #[.val (.ref r0)] [(.int cs)])) (fun _ k => st1 _ k) ?_
  by_cases hc3_2 : cs = (0 : Int32)
  · skip
    refine own_go (T' := T1) (g' := (mkF m 17 #[.val (.ref r0)] [])) (fun _ k => XS.ifYes X1.here hx rfl (pc0 := 3) (pc' := 17) rfl (hb hby d4_3) rfl (XT.i0_eq_t hc3_2) (by decide) (by decide) k) ?_
    refine own_go (T' := T1) (g' := (mkF m 18 #[.val (.ref r0)] [(.int (0 : Int32))])) (fun _ k => XS.iconst X1.here hx rfl (hb hby d4_17) k) ?_
    exact own_retN X1 hx (t := .boolean) Bd.returns hlk (by simp) (hb hby d4_18) e1 ⟨(by unfold own_isL; first | (rw [if_pos hc3_2]; done) | (rw [if_pos hc3_2]; rfl)), N0, rfl⟩ (by decide) (by decide)
  · skip
    refine own_go (T' := T1) (g' := (mkF m 6 #[.val (.ref r0)] [])) (fun _ k => XS.ifNo X1.here hx rfl (hb hby d4_3) rfl (XT.i0_eq_f hc3_2) k) ?_
    refine own_go (T' := T1) (g' := (mkF m 7 #[.val (.ref r0)] [(.ref r0)])) (fun _ k => XS.aloadN X1.here hx rfl (hb hby d4_6) rfl rfl k) ?_
    obtain ⟨T3, X3, e3, st3⟩ := getF X1 hx hZ hown (host := "") (Or.inl (hw _ (List.mem_of_getElem? (i := 27) rfl))) Via.refl e1 hp1 (g := (mkF m 7 #[.val (.ref r0)] [(.ref r0)])) rfl rfl (hb hby d4_7)
    refine own_go (T' := T3) (g' := (mkF m 10 #[.val (.ref r0)] [(.int (0 : Int32))])) (fun _ k => st3 _ k) ?_
    refine own_go (T' := T3) (g' := (mkF m 13 #[.val (.ref r0)] [])) (fun _ k => XS.ifNo X3.here hx rfl (hb hby d4_10) rfl (XT.i0_ne_f (rfl : (0 : Int32) = (0 : Int32))) k) ?_
    refine own_go (T' := T3) (g' := (mkF m 14 #[.val (.ref r0)] [(.int (1 : Int32))])) (fun _ k => XS.iconst X3.here hx rfl (hb hby d4_13) k) ?_
    refine own_go (T' := T3) (g' := (mkF m 18 #[.val (.ref r0)] [(.int (1 : Int32))])) (fun _ k => XS.goto X3.here hx rfl (pc0 := 14) (pc' := 18) rfl (hb hby d4_14) (by decide) (by decide) k) ?_
    exact own_retN X3 hx (t := .boolean) Bd.returns hlk (by simp) (hb hby d4_18) e3 ⟨(by unfold own_isL; first | (rw [if_neg hc3_2]; done) | (rw [if_neg hc3_2]; rfl)), N0, rfl⟩ (by decide) (by decide)
def own_pci (p1 : Int32) (u2 : Value) : Int32 := (0 : Int32)
theorem d7_0 : decode jdk_41_method_11_code 0 = .ok (.iload_n 0, 1) := by decide +kernel
theorem d7_1 : decode jdk_41_method_11_code 1 = .ok (.ifCond .lt 8, 3) := by decide +kernel
theorem d7_4 : decode jdk_41_method_11_code 4 = .ok (.iload_n 0, 1) := by decide +kernel
theorem d7_5 : decode jdk_41_method_11_code 5 = .ok (.iload_n 1, 1) := by decide +kernel
theorem d7_6 : decode jdk_41_method_11_code 6 = .ok (.if_icmp .lt 10, 3) := by decide +kernel
theorem d7_16 : decode jdk_41_method_11_code 16 = .ok (.iload_n 0, 1) := by decide +kernel
theorem d7_17 : decode jdk_41_method_11_code 17 = .ok (.ireturn, 1) := by decide +kernel
def Q_rmPci (Z : State) (p1 : Int32) (u2 : Value) (h0 : Heap) (n0 : Nat) (v : Option Value) (h : Heap) (L : List Loc) : Prop := v = some (.int (own_pci p1 u2)) ∧ Fr n0 L ∧ h = h0
theorem ef_rmPci (m : MethodId) (x0 : Int32) (x1 : Int32) (x2 : Value) (hx2 : x2.isRef = true) : entryFrame m #[(.int x0), (.int x1), x2] 3 = mkF m 0 #[.val (.int x0), .val (.int x1), .val x2] [] := by rcases ref_cases hx2 with rfl | ⟨_, rfl⟩ <;> first | (simp [entryFrame, mkF, argsToLocals, Value.category]; done) | rfl
theorem pn_rmPci : plainName "jdk/internal/util/Preconditions" = true := by first | (simp [plainName, overriddenIn]; done) | decide +kernel
set_option maxRecDepth 65536 in
set_option maxHeartbeats 40000000 in
theorem rmPci (l : Launch) (Z : State) (a0 : Array Value) (hw : ∀ d ∈ tables_1, d.before a0 Z = true) (ws : List Jvm.Cond) (p1 : Int32) (u2 : Value) (h0 : Heap) (n0 : Nat) (Z0 : n0 ≤ h0.size) (hh0 : u2.isRef = true) (hh1 : (0 : Int32) < p1) :
    MetFree l (⟨"jdk/internal/util/Preconditions", "checkIndex", "(IILjava/util/function/BiFunction;)I"⟩ : MethodName) (head1 (Jvm.Cond.code (⟨"jdk/internal/util/Preconditions", "checkIndex", "(IILjava/util/function/BiFunction;)I"⟩ : MethodName) jdk_41_method_11_code 3 (some .int) :: ws) ({ frames := 0, cells := 0, slots := 0, locals := 0 } : Room)) (fun a U => a = #[(.int (0 : Int32)), (.int p1), u2] ∧ Z.Warmed39 U.vm ∧ U.heap = h0) (fun _ _ _ _ _ => True) (fun _ U o U' => ∃ v L, o = .returned v ∧ Q_rmPci Z p1 u2 h0 n0 v U'.heap L ∧ FrameEnd U o U' L ({ frames := 0, cells := 0, slots := 0, locals := 0 } : Room).cells ({ frames := 0, cells := 0, slots := 0, locals := 0 } : Room).slots) := by
  refine MetFree.of_bodySF (plainFor_of_name pn_rmPci) hisR ?_
  intro p e s m args below meth c s₁ Bd hml0 hP hK
  obtain ⟨rfl, hZ, hh⟩ := hP
  have hx := Bd.exec
  have hby := Bd.bytes
  have hml : c.maxLocals = 3 := hml0
  have hown : s.vm.findClass "jdk/internal/util/Preconditions" = some m.cls := findClass_of_methodNamed Bd.named
  have hnm := (name_of_methodNamed Bd.named Bd.method).1
  have hlk : meth.locks = false := BodyLoose.notSynchronized Bd
  have X0 : Stand p l e ({ frames := 0, cells := 0, slots := 0, locals := 0 } : Room) s m #[(.int (0 : Int32)), (.int p1), u2] below meth c s₁ [] 0 0 := Stand.of_body Bd
  have e0 : s₁.heap = h0 := by rw [← hh, Bd.state]; rfl
  have N0 := Fr.nil n0
  show own_W p e below s (Q_rmPci Z p1 u2 h0 n0) 0 0 s₁ (entryFrame m #[(.int (0 : Int32)), (.int p1), u2] 3)
  skip
  skip
  refine own_go (T' := s₁) (g' := (mkF m 0 #[.val (.int (0 : Int32)), .val (.int p1), .val u2] [])) (fun _ k => castTop (ef_rmPci m (0 : Int32) p1 u2 hh0) k) ?_
  refine own_go (T' := s₁) (g' := (mkF m 1 #[.val (.int (0 : Int32)), .val (.int p1), .val u2] [(.int (0 : Int32))])) (fun _ k => XS.iloadN X0.here hx rfl (hb hby d7_0) rfl k) ?_
  refine own_go (T' := s₁) (g' := (mkF m 4 #[.val (.int (0 : Int32)), .val (.int p1), .val u2] [])) (fun _ k => XS.ifNo X0.here hx rfl (hb hby d7_1) rfl (XT.i0_lt_f (by decide : ¬ ((0 : Int32) < (0 : Int32)))) k) ?_
  refine own_go (T' := s₁) (g' := (mkF m 5 #[.val (.int (0 : Int32)), .val (.int p1), .val u2] [(.int (0 : Int32))])) (fun _ k => XS.iloadN X0.here hx rfl (hb hby d7_4) rfl k) ?_
  refine own_go (T' := s₁) (g' := (mkF m 6 #[.val (.int (0 : Int32)), .val (.int p1), .val u2] [(.int p1), (.int (0 : Int32))])) (fun _ k => XS.iloadN X0.here hx rfl (hb hby d7_5) rfl k) ?_
  refine own_go (T' := s₁) (g' := (mkF m 16 #[.val (.int (0 : Int32)), .val (.int p1), .val u2] [])) (fun _ k => XS.icmpYes X0.here hx rfl (pc0 := 6) (pc' := 16) rfl (hb hby d7_6) rfl (XT.ii_lt_t hh1) (by decide) (by decide) k) ?_
  refine own_go (T' := s₁) (g' := (mkF m 17 #[.val (.int (0 : Int32)), .val (.int p1), .val u2] [(.int (0 : Int32))])) (fun _ k => XS.iloadN X0.here hx rfl (hb hby d7_16) rfl k) ?_
  exact own_ret X0 hx Bd.returns hlk rfl (Or.inl ⟨rfl, Or.inl rfl, _, rfl⟩) (hb hby d7_17) e0 ⟨(by unfold own_pci; first | rfl | done), N0, rfl⟩ (by decide) (by decide)
theorem own_pd0 : parseMethodDescriptor "(IILjava/util/function/BiFunction;)I" = some ⟨[.int, .int, (.object "java/util/function/BiFunction")], some .int⟩ := by decide +kernel
theorem d6_0 : decode jdk_42_method_155_code 0 = .ok (.iload_n 0, 1) := by decide +kernel
theorem d6_1 : decode jdk_42_method_155_code 1 = .ok (.iload_n 1, 1) := by decide +kernel
theorem d6_2 : decode jdk_42_method_155_code 2 = .ok (.getstatic 1053, 3) := by decide +kernel
theorem d6_5 : decode jdk_42_method_155_code 5 = .ok (.invokestatic 1059, 3) := by decide +kernel
theorem d6_8 : decode jdk_42_method_155_code 8 = .ok (.pop, 1) := by decide +kernel
theorem d6_9 : decode jdk_42_method_155_code 9 = .ok (.return_, 1) := by decide +kernel
def Q_rmCi (Z : State) (p1 : Int32) (fm : Value) (h0 : Heap) (n0 : Nat) (v : Option Value) (h : Heap) (L : List Loc) : Prop := v = none ∧ Fr n0 L ∧ h = h0
theorem ef_rmCi (m : MethodId) (x0 : Int32) (x1 : Int32) : entryFrame m #[(.int x0), (.int x1)] 2 = mkF m 0 #[.val (.int x0), .val (.int x1)] [] := by first | (simp [entryFrame, mkF, argsToLocals, Value.category]; done) | rfl
theorem pn_rmCi : plainName "java/lang/String" = true := by first | (simp [plainName, overriddenIn]; done) | decide +kernel
set_option maxRecDepth 65536 in
set_option maxHeartbeats 40000000 in
theorem rmCi (l : Launch) (Z : State) (a0 : Array Value) (hw : ∀ d ∈ tables_1, d.before a0 Z = true) (ws : List Jvm.Cond) (p1 : Int32) (fm : Value) (h0 : Heap) (n0 : Nat) (Z0 : n0 ≤ h0.size) (hp0 : Sta Z h0 "jdk/internal/util/Preconditions" "SIOOBE_FORMATTER" "Ljava/util/function/BiFunction;" fm) (hh0 : fm.isRef = true) (hh1 : (0 : Int32) < p1) :
    MetFree l (⟨"java/lang/String", "checkIndex", "(II)V"⟩ : MethodName) (head1 (Jvm.Cond.code (⟨"java/lang/String", "checkIndex", "(II)V"⟩ : MethodName) jdk_42_method_155_code 2 none :: ws) ({ frames := 1, cells := 0, slots := 0, locals := 14 } : Room)) (fun a U => a = #[(.int (0 : Int32)), (.int p1)] ∧ Z.Warmed39 U.vm ∧ U.heap = h0) (fun _ _ _ _ _ => True) (fun _ U o U' => ∃ v L, o = .returned v ∧ Q_rmCi Z p1 fm h0 n0 v U'.heap L ∧ FrameEnd U o U' L ({ frames := 1, cells := 0, slots := 0, locals := 14 } : Room).cells ({ frames := 1, cells := 0, slots := 0, locals := 14 } : Room).slots) := by
  refine MetFree.of_bodySF (plainFor_of_name pn_rmCi) hisR ?_
  intro p e s m args below meth c s₁ Bd hml0 hP hK
  obtain ⟨rfl, hZ, hh⟩ := hP
  have hx := Bd.exec
  have hby := Bd.bytes
  have hml : c.maxLocals = 2 := hml0
  have hown : s.vm.findClass "java/lang/String" = some m.cls := findClass_of_methodNamed Bd.named
  have hnm := (name_of_methodNamed Bd.named Bd.method).1
  have hlk : meth.locks = false := BodyLoose.notSynchronized Bd
  have X0 : Stand p l e ({ frames := 1, cells := 0, slots := 0, locals := 14 } : Room) s m #[(.int (0 : Int32)), (.int p1)] below meth c s₁ [] 0 0 := Stand.of_body Bd
  have e0 : s₁.heap = h0 := by rw [← hh, Bd.state]; rfl
  have N0 := Fr.nil n0
  show own_W p e below s (Q_rmCi Z p1 fm h0 n0) 0 0 s₁ (entryFrame m #[(.int (0 : Int32)), (.int p1)] 2)
  skip
  skip
  refine own_go (T' := s₁) (g' := (mkF m 0 #[.val (.int (0 : Int32)), .val (.int p1)] [])) (fun _ k => castTop (ef_rmCi m (0 : Int32) p1) k) ?_
  refine own_go (T' := s₁) (g' := (mkF m 1 #[.val (.int (0 : Int32)), .val (.int p1)] [(.int (0 : Int32))])) (fun _ k => XS.iloadN X0.here hx rfl (hb hby d6_0) rfl k) ?_
  refine own_go (T' := s₁) (g' := (mkF m 2 #[.val (.int (0 : Int32)), .val (.int p1)] [(.int p1), (.int (0 : Int32))])) (fun _ k => XS.iloadN X0.here hx rfl (hb hby d6_1) rfl k) ?_
  obtain ⟨T1, X1, e1, st1⟩ := getS2 X0 hx hZ hown (host := "") (Or.inl (hw _ (List.mem_of_getElem? (i := 38) rfl))) Via.refl e0 hp0 (g := (mkF m 2 #[.val (.int (0 : Int32)), .val (.int p1)] [(.int p1), (.int (0 : Int32))])) rfl (hb hby d6_2)
  refine own_go (T' := T1) (g' := (mkF m 5 #[.val (.int (0 : Int32)), .val (.int p1)] [fm, (.int p1), (.int (0 : Int32))])) (fun _ k => st1 _ k) ?_
  obtain ⟨_, _, ⟨T2, L2, k2, n2⟩, -, X2, ⟨Lc2, hQ2, l2, y2, z2⟩, st2⟩ := Jvm.LawKit.callS X1 hx (y := (⟨"jdk/internal/util/Preconditions", "checkIndex", "(IILjava/util/function/BiFunction;)I"⟩ : MethodName)) hown (mvT hZ (hw _ (List.mem_of_getElem? (i := 40) rfl))) (mvT hZ (hw _ (List.mem_of_getElem? (i := 41) rfl))) (mvT hZ (hw _ (List.mem_of_getElem? (i := 39) rfl))) (mvT hZ (hw _ (List.mem_of_getElem? (i := 42) rfl))) (by decide) (backOf (W := 0) (rmPci l Z a0 hw [] p1 fm h0 n0 Z0 hh0 hh1) hZ (hw _ (List.mem_of_getElem? (i := 42) rfl)) (hw _ (List.mem_of_getElem? (i := 39) rfl)) (by decide) (by decide)) (g := (mkF m 5 #[.val (.int (0 : Int32)), .val (.int p1)] [fm, (.int p1), (.int (0 : Int32))])) rfl (by rw [hml]; rfl) (argsL := [(.int (0 : Int32)), (.int p1), fm]) (rest := []) (lenOf own_pd0 rfl) rfl (by show 2 * 0 + _ ≤ _; exact Nat.le_of_eq rfl) (hb hby d6_5) (fun _ _ => ⟨rfl, e1, (by decide : 0 + 0 ≤ _), (by decide : 0 + 0 ≤ _)⟩)
  dsimp only [Pt.U, Pt.locs, Pt.cells, Pt.slots] at X2 l2 y2 z2 st2 hQ2
  subst l2 y2 z2
  obtain ⟨rfl, N2q, e2⟩ := hQ2
  have N2 := Fr.app N0 N2q
  refine own_go (T' := T2) (g' := (mkF m 8 #[.val (.int (0 : Int32)), .val (.int p1)] [(.int (own_pci p1 fm))])) (fun _ k => st2 _ k) ?_
  refine own_go (T' := T2) (g' := (mkF m 9 #[.val (.int (0 : Int32)), .val (.int p1)] [])) (fun _ k => XT.pop X2.here hx rfl (hb hby d6_8) rfl rfl k) ?_
  exact own_ret0 X2 hx Bd.returns hlk (hb hby d6_9) e2 ⟨rfl, N2, rfl⟩ (by decide) (by decide)
def own_lch1 (r0 : Addr) (kk : ClassId) (v0 : Int32) (fm : Value) : Int32 := (nar .char ((v0 &&& (255 : Int32)).toUInt32.toUInt16.toUInt32.toInt32))
theorem own_pd1 : parseMethodDescriptor "(II)V" = some ⟨[.int, .int], none⟩ := by decide +kernel
theorem d5_0 : decode jdk_43_method_2_code 0 = .ok (.iload_n 1, 1) := by decide +kernel
theorem d5_1 : decode jdk_43_method_2_code 1 = .ok (.aload_n 0, 1) := by decide +kernel
theorem d5_2 : decode jdk_43_method_2_code 2 = .ok (.arraylength, 1) := by decide +kernel
theorem d5_3 : decode jdk_43_method_2_code 3 = .ok (.invokestatic 9, 3) := by decide +kernel
theorem d5_6 : decode jdk_43_method_2_code 6 = .ok (.aload_n 0, 1) := by decide +kernel
theorem d5_7 : decode jdk_43_method_2_code 7 = .ok (.iload_n 1, 1) := by decide +kernel
theorem d5_8 : decode jdk_43_method_2_code 8 = .ok (.baload, 1) := by decide +kernel
theorem d5_9 : decode jdk_43_method_2_code 9 = .ok (.sipush 255, 3) := by decide +kernel
theorem d5_12 : decode jdk_43_method_2_code 12 = .ok (.iand, 1) := by decide +kernel
theorem d5_13 : decode jdk_43_method_2_code 13 = .ok (.i2c, 1) := by decide +kernel
theorem d5_14 : decode jdk_43_method_2_code 14 = .ok (.ireturn, 1) := by decide +kernel
def Q_rmLch1 (Z : State) (r0 : Addr) (kk : ClassId) (v0 : Int32) (fm : Value) (h0 : Heap) (n0 : Nat) (v : Option Value) (h : Heap) (L : List Loc) : Prop := v = some (.int (own_lch1 r0 kk v0 fm)) ∧ Fr n0 L ∧ h = h0
theorem ef_rmLch1 (m : MethodId) (x0 : Addr) (x1 : Int32) : entryFrame m #[(.ref x0), (.int x1)] 2 = mkF m 0 #[.val (.ref x0), .val (.int x1)] [] := by first | (simp [entryFrame, mkF, argsToLocals, Value.category]; done) | rfl
theorem pn_rmLch1 : plainName "java/lang/StringLatin1" = true := by first | (simp [plainName, overriddenIn]; done) | decide +kernel
set_option maxRecDepth 65536 in
set_option maxHeartbeats 40000000 in
theorem rmLch1 (l : Launch) (Z : State) (a0 : Array Value) (hw : ∀ d ∈ tables_1, d.before a0 Z = true) (ws : List Jvm.Cond) (r0 : Addr) (kk : ClassId) (v0 : Int32) (fm : Value) (h0 : Heap) (n0 : Nat) (Z0 : n0 ≤ h0.size) (hp0 : Arv Z h0 r0 kk .byte (1 : Int32) [(.int v0)] (.int (0 : Int32))) (hp1 : Sta Z h0 "jdk/internal/util/Preconditions" "SIOOBE_FORMATTER" "Ljava/util/function/BiFunction;" fm) (hh0 : fm.isRef = true) :
    MetFree l (⟨"java/lang/StringLatin1", "charAt", "([BI)C"⟩ : MethodName) (head1 (Jvm.Cond.code (⟨"java/lang/StringLatin1", "charAt", "([BI)C"⟩ : MethodName) jdk_43_method_2_code 2 (some .char) :: ws) ({ frames := 2, cells := 0, slots := 0, locals := 27 } : Room)) (fun a U => a = #[(.ref r0), (.int (0 : Int32))] ∧ Z.Warmed39 U.vm ∧ U.heap = h0) (fun _ _ _ _ _ => True) (fun _ U o U' => ∃ v L, o = .returned v ∧ Q_rmLch1 Z r0 kk v0 fm h0 n0 v U'.heap L ∧ FrameEnd U o U' L ({ frames := 2, cells := 0, slots := 0, locals := 27 } : Room).cells ({ frames := 2, cells := 0, slots := 0, locals := 27 } : Room).slots) := by
  refine MetFree.of_bodySF (plainFor_of_name pn_rmLch1) hisR ?_
  intro p e s m args below meth c s₁ Bd hml0 hP hK
  obtain ⟨rfl, hZ, hh⟩ := hP
  have hx := Bd.exec
  have hby := Bd.bytes
  have hml : c.maxLocals = 2 := hml0
  have hown : s.vm.findClass "java/lang/StringLatin1" = some m.cls := findClass_of_methodNamed Bd.named
  have hnm := (name_of_methodNamed Bd.named Bd.method).1
  have hlk : meth.locks = false := BodyLoose.notSynchronized Bd
  have X0 : Stand p l e ({ frames := 2, cells := 0, slots := 0, locals := 27 } : Room) s m #[(.ref r0), (.int (0 : Int32))] below meth c s₁ [] 0 0 := Stand.of_body Bd
  have e0 : s₁.heap = h0 := by rw [← hh, Bd.state]; rfl
  have N0 := Fr.nil n0
  show own_W p e below s (Q_rmLch1 Z r0 kk v0 fm h0 n0) 0 0 s₁ (entryFrame m #[(.ref r0), (.int (0 : Int32))] 2)
  skip
  skip
  refine own_go (T' := s₁) (g' := (mkF m 0 #[.val (.ref r0), .val (.int (0 : Int32))] [])) (fun _ k => castTop (ef_rmLch1 m r0 (0 : Int32)) k) ?_
  refine own_go (T' := s₁) (g' := (mkF m 1 #[.val (.ref r0), .val (.int (0 : Int32))] [(.int (0 : Int32))])) (fun _ k => XS.iloadN X0.here hx rfl (hb hby d5_0) rfl k) ?_
  refine own_go (T' := s₁) (g' := (mkF m 2 #[.val (.ref r0), .val (.int (0 : Int32))] [(.ref r0), (.int (0 : Int32))])) (fun _ k => XS.aloadN X0.here hx rfl (hb hby d5_1) rfl rfl k) ?_
  obtain ⟨cl1, Ar1, q11, q21, q31, H1, G1⟩ := id hp0
  have st1 := X0.arraylength hx (by rw [e0]; exact Ar1.1) (State.isArrayOf_alike hZ.alike Ar1.2.1) (g := (mkF m 2 #[.val (.ref r0), .val (.int (0 : Int32))] [(.ref r0), (.int (0 : Int32))])) rfl rfl (hb hby d5_2)
  rw [len_of q21 q31] at st1
  refine own_go (T' := s₁) (g' := (mkF m 3 #[.val (.ref r0), .val (.int (0 : Int32))] [(.int (1 : Int32)), (.int (0 : Int32))])) (fun _ k => st1 _ k) ?_
  obtain ⟨_, _, ⟨T2, L2, k2, n2⟩, -, X2, ⟨Lc2, hQ2, l2, y2, z2⟩, st2⟩ := Jvm.LawKit.callS X0 hx (y := (⟨"java/lang/String", "checkIndex", "(II)V"⟩ : MethodName)) hown (mvT hZ (hw _ (List.mem_of_getElem? (i := 35) rfl))) (mvT hZ (hw _ (List.mem_of_getElem? (i := 36) rfl))) (mvT hZ (hw _ (List.mem_of_getElem? (i := 19) rfl))) (mvT hZ (hw _ (List.mem_of_getElem? (i := 37) rfl))) (by decide) (backOf (W := 0) (rmCi l Z a0 hw [] (1 : Int32) fm h0 n0 Z0 hp1 hh0 (by decide)) hZ (hw _ (List.mem_of_getElem? (i := 37) rfl)) (hw _ (List.mem_of_getElem? (i := 19) rfl)) (by decide) (by decide)) (g := (mkF m 3 #[.val (.ref r0), .val (.int (0 : Int32))] [(.int (1 : Int32)), (.int (0 : Int32))])) rfl (by rw [hml]; rfl) (argsL := [(.int (0 : Int32)), (.int (1 : Int32))]) (rest := []) (lenOf own_pd1 rfl) rfl (by show 2 * 0 + _ ≤ _; exact Nat.le_of_eq rfl) (hb hby d5_3) (fun _ _ => ⟨rfl, e0, (by decide : 0 + 0 ≤ _), (by decide : 0 + 0 ≤ _)⟩)
  dsimp only [Pt.U, Pt.locs, Pt.cells, Pt.slots] at X2 l2 y2 z2 st2 hQ2
  subst l2 y2 z2
  obtain ⟨rfl, N2q, e2⟩ := hQ2
  have N2 := Fr.app N0 N2q
  refine own_go (T' := T2) (g' := (mkF m 6 #[.val (.ref r0), .val (.int (0 : Int32))] [])) (fun _ k => st2 _ k) ?_
  refine own_go (T' := T2) (g' := (mkF m 7 #[.val (.ref r0), .val (.int (0 : Int32))] [(.ref r0)])) (fun _ k => XS.aloadN X2.here hx rfl (hb hby d5_6) rfl rfl k) ?_
  refine own_go (T' := T2) (g' := (mkF m 8 #[.val (.ref r0), .val (.int (0 : Int32))] [(.int (0 : Int32)), (.ref r0)])) (fun _ k => XS.iloadN X2.here hx rfl (hb hby d5_7) rfl k) ?_
  obtain ⟨cl3, Ar3, q13, q23, q33, H3, G3⟩ := id hp0
  have hin3 := inb_of q23 (j := (0 : Int32)) (by decide)
  refine own_go (T' := T2) (g' := (mkF m 9 #[.val (.ref r0), .val (.int (0 : Int32))] [(.int v0)])) (fun _ k => X2.baloadBytes hx (j := (0 : Int32)) (v := (.int v0)) (by rw [e2]; exact Ar3.1) (State.isArrayOf_alike hZ.alike Ar3.2.1) Ar3.2.2 hin3 (Has.at H3 hin3 rfl) (g := (mkF m 8 #[.val (.ref r0), .val (.int (0 : Int32))] [(.int (0 : Int32)), (.ref r0)])) rfl rfl (hb hby d5_8) _ k) ?_
  refine own_go (T' := T2) (g' := (mkF m 12 #[.val (.ref r0), .val (.int (0 : Int32))] [(.int (255 : Int32)), (.int v0)])) (fun _ k => XS.sipush X2.here hx rfl (hb hby d5_9) k) ?_
  refine own_go (T' := T2) (g' := (mkF m 13 #[.val (.ref r0), .val (.int (0 : Int32))] [(.int (v0 &&& (255 : Int32)))])) (fun _ k => XS.iand X2.here hx rfl (hb hby d5_12) rfl k) ?_
  refine own_go (T' := T2) (g' := (mkF m 14 #[.val (.ref r0), .val (.int (0 : Int32))] [(.int ((v0 &&& (255 : Int32)).toUInt32.toUInt16.toUInt32.toInt32))])) (fun _ k => XT.i2c X2.here hx rfl (hb hby d5_13) rfl k) ?_
  exact own_retN X2 hx (t := .char) Bd.returns hlk (by simp) (hb hby d5_14) e2 ⟨(by unfold own_lch1; first | rfl | done), N2, rfl⟩ (by decide) (by decide)
def own_cha1 (r0 : Addr) (d1 : Addr) (kk : ClassId) (v0 : Int32) (cs : Int32) (fm : Value) : Int32 := (nar .char (own_lch1 d1 kk v0 fm))
theorem own_pd2 : parseMethodDescriptor "()Z" = some ⟨[], some .boolean⟩ := by decide +kernel
theorem own_pd3 : parseMethodDescriptor "([BI)C" = some ⟨[(.array .byte), .int], some .char⟩ := by decide +kernel
theorem d3_0 : decode jdk_42_method_56_code 0 = .ok (.aload_n 0, 1) := by decide +kernel
theorem d3_1 : decode jdk_42_method_56_code 1 = .ok (.invokevirtual 492, 3) := by decide +kernel
theorem d3_4 : decode jdk_42_method_56_code 4 = .ok (.ifCond .eq 12, 3) := by decide +kernel
theorem d3_7 : decode jdk_42_method_56_code 7 = .ok (.aload_n 0, 1) := by decide +kernel
theorem d3_8 : decode jdk_42_method_56_code 8 = .ok (.getfield 9, 3) := by decide +kernel
theorem d3_11 : decode jdk_42_method_56_code 11 = .ok (.iload_n 1, 1) := by decide +kernel
theorem d3_12 : decode jdk_42_method_56_code 12 = .ok (.invokestatic 495, 3) := by decide +kernel
theorem d3_15 : decode jdk_42_method_56_code 15 = .ok (.ireturn, 1) := by decide +kernel
def Q_rmCha1 (Z : State) (r0 : Addr) (d1 : Addr) (kk : ClassId) (v0 : Int32) (cs : Int32) (fm : Value) (h0 : Heap) (n0 : Nat) (v : Option Value) (h : Heap) (L : List Loc) : Prop := v = some (.int (own_cha1 r0 d1 kk v0 cs fm)) ∧ Fr n0 L ∧ h = h0
theorem ef_rmCha1 (m : MethodId) (x0 : Addr) (x1 : Int32) : entryFrame m #[(.ref x0), (.int x1)] 2 = mkF m 0 #[.val (.ref x0), .val (.int x1)] [] := by first | (simp [entryFrame, mkF, argsToLocals, Value.category]; done) | rfl
theorem pn_rmCha1 : plainName "java/lang/String" = true := by first | (simp [plainName, overriddenIn]; done) | decide +kernel
set_option maxRecDepth 65536 in
set_option maxHeartbeats 40000000 in
theorem rmCha1 (l : Launch) (Z : State) (a0 : Array Value) (hw : ∀ d ∈ tables_1, d.before a0 Z = true) (ws : List Jvm.Cond) (r0 : Addr) (d1 : Addr) (kk : ClassId) (v0 : Int32) (cs : Int32) (fm : Value) (h0 : Heap) (n0 : Nat) (Z0 : n0 ≤ h0.size) (hp0 : Exa Z h0 r0 "java/lang/String") (hp1 : Fld Z h0 r0 "java/lang/String" "coder" "B" (.int (0 : Int32))) (hp2 : Fld Z h0 r0 "java/lang/String" "value" "[B" (.ref d1)) (hp3 : Arv Z h0 d1 kk .byte (1 : Int32) [(.int v0)] (.int (0 : Int32))) (hp4 : Sta Z h0 "java/lang/String" "COMPACT_STRINGS" "Z" (.int cs)) (hp5 : Sta Z h0 "jdk/internal/util/Preconditions" "SIOOBE_FORMATTER" "Ljava/util/function/BiFunction;" fm) (hh0 : fm.isRef = true) (hh1 : ¬ cs = (0 : Int32)) :
    MetFree l (⟨"java/lang/String", "charAt", "(I)C"⟩ : MethodName) (head1 (Jvm.Cond.code (⟨"java/lang/String", "charAt", "(I)C"⟩ : MethodName) jdk_42_method_56_code 2 (some .char) :: ws) ({ frames := 3, cells := 0, slots := 0, locals := 40 } : Room)) (fun a U => a = #[(.ref r0), (.int (0 : Int32))] ∧ Z.Warmed39 U.vm ∧ U.heap = h0) (fun _ _ _ _ _ => True) (fun _ U o U' => ∃ v L, o = .returned v ∧ Q_rmCha1 Z r0 d1 kk v0 cs fm h0 n0 v U'.heap L ∧ FrameEnd U o U' L ({ frames := 3, cells := 0, slots := 0, locals := 40 } : Room).cells ({ frames := 3, cells := 0, slots := 0, locals := 40 } : Room).slots) := by
  refine MetFree.of_bodySF (plainFor_of_name pn_rmCha1) hisR ?_
  intro p e s m args below meth c s₁ Bd hml0 hP hK
  obtain ⟨rfl, hZ, hh⟩ := hP
  have hx := Bd.exec
  have hby := Bd.bytes
  have hml : c.maxLocals = 2 := hml0
  have hown : s.vm.findClass "java/lang/String" = some m.cls := findClass_of_methodNamed Bd.named
  have hnm := (name_of_methodNamed Bd.named Bd.method).1
  have hlk : meth.locks = false := BodyLoose.notSynchronized Bd
  have X0 : Stand p l e ({ frames := 3, cells := 0, slots := 0, locals := 40 } : Room) s m #[(.ref r0), (.int (0 : Int32))] below meth c s₁ [] 0 0 := Stand.of_body Bd
  have e0 : s₁.heap = h0 := by rw [← hh, Bd.state]; rfl
  have N0 := Fr.nil n0
  show own_W p e below s (Q_rmCha1 Z r0 d1 kk v0 cs fm h0 n0) 0 0 s₁ (entryFrame m #[(.ref r0), (.int (0 : Int32))] 2)
  skip
  skip
  refine own_go (T' := s₁) (g' := (mkF m 0 #[.val (.ref r0), .val (.int (0 : Int32))] [])) (fun _ k => castTop (ef_rmCha1 m r0 (0 : Int32)) k) ?_
  refine own_go (T' := s₁) (g' := (mkF m 1 #[.val (.ref r0), .val (.int (0 : Int32))] [(.ref r0)])) (fun _ k => XS.aloadN X0.here hx rfl (hb hby d3_0) rfl rfl k) ?_
  obtain ⟨cq1, kq1, q1a, q1b, q1c⟩ := isOf hZ e0 hp0
  obtain ⟨_, _, ⟨T1, L1, k1, n1⟩, -, X1, ⟨Lc1, hQ1, l1, y1, z1⟩, st1⟩ := X0.virtualBack hx (y := (⟨"java/lang/String", "isLatin1", "()Z"⟩ : MethodName)) (z := (⟨"java/lang/String", "isLatin1", "()Z"⟩ : MethodName)) hown (mvT hZ (hw _ (List.mem_of_getElem? (i := 21) rfl))) (mvT hZ (hw _ (List.mem_of_getElem? (i := 22) rfl))) (notFace_of_selects (args := #[]) (mvT hZ (hw _ (List.mem_of_getElem? (i := 24) rfl)))) (mvT hZ (hw _ (List.mem_of_getElem? (i := 24) rfl))) (mvT hZ (hw _ (List.mem_of_getElem? (i := 23) rfl))) (by decide) (backOf (W := 0) (rmIsL l Z a0 hw [] r0 cs h0 n0 Z0 hp4 hp1) hZ (hw _ (List.mem_of_getElem? (i := 25) rfl)) (hw _ (List.mem_of_getElem? (i := 19) rfl)) (by decide) (by decide)) q1a q1c (g := (mkF m 1 #[.val (.ref r0), .val (.int (0 : Int32))] [(.ref r0)])) rfl (by rw [hml]; rfl) (Steps.refl _) (argsL := []) (rest := []) (lenOf own_pd2 rfl) rfl (by show 2 * 0 + _ ≤ _; exact Nat.le_of_eq rfl) (hb hby d3_1) (fun _ _ => ⟨rfl, e0, (by decide : 0 + 0 ≤ _), (by decide : 0 + 0 ≤ _)⟩)
  dsimp only [Pt.U, Pt.locs, Pt.cells, Pt.slots] at X1 l1 y1 z1 st1 hQ1
  subst l1 y1 z1
  obtain ⟨rfl, N1q, e1⟩ := hQ1
  have N1 := Fr.app N0 N1q
  refine own_go (T' := T1) (g' := (mkF m 4 #[.val (.ref r0), .val (.int (0 : Int32))] [(.int (own_isL r0 cs))])) (fun _ k => st1.trans k) ?_
  refine own_go (T' := T1) (g' := (mkF m 7 #[.val (.ref r0), .val (.int (0 : Int32))] [])) (fun _ k => XS.ifNo X1.here hx rfl (hb hby d3_4) rfl (XT.i0_eq_f (by unfold own_isL; rw [if_neg hh1]; decide)) k) ?_
  refine own_go (T' := T1) (g' := (mkF m 8 #[.val (.ref r0), .val (.int (0 : Int32))] [(.ref r0)])) (fun _ k => XS.aloadN X1.here hx rfl (hb hby d3_7) rfl rfl k) ?_
  obtain ⟨T2, X2, e2, st2⟩ := getF X1 hx hZ hown (host := "") (Or.inl (hw _ (List.mem_of_getElem? (i := 29) rfl))) Via.refl e1 hp2 (g := (mkF m 8 #[.val (.ref r0), .val (.int (0 : Int32))] [(.ref r0)])) rfl rfl (hb hby d3_8)
  refine own_go (T' := T2) (g' := (mkF m 11 #[.val (.ref r0), .val (.int (0 : Int32))] [(.ref d1)])) (fun _ k => st2 _ k) ?_
  refine own_go (T' := T2) (g' := (mkF m 12 #[.val (.ref r0), .val (.int (0 : Int32))] [(.int (0 : Int32)), (.ref d1)])) (fun _ k => XS.iloadN X2.here hx rfl (hb hby d3_11) rfl k) ?_
  obtain ⟨_, _, ⟨T3, L3, k3, n3⟩, -, X3, ⟨Lc3, hQ3, l3, y3, z3⟩, st3⟩ := Jvm.LawKit.callS X2 hx (y := (⟨"java/lang/StringLatin1", "charAt", "([BI)C"⟩ : MethodName)) hown (mvT hZ (hw _ (List.mem_of_getElem? (i := 31) rfl))) (mvT hZ (hw _ (List.mem_of_getElem? (i := 32) rfl))) (mvT hZ (hw _ (List.mem_of_getElem? (i := 33) rfl))) (mvT hZ (hw _ (List.mem_of_getElem? (i := 34) rfl))) (by decide) (backOf (W := 0) (rmLch1 l Z a0 hw [] d1 kk v0 fm h0 n0 Z0 hp3 hp5 hh0) hZ (hw _ (List.mem_of_getElem? (i := 34) rfl)) (hw _ (List.mem_of_getElem? (i := 33) rfl)) (by decide) (by decide)) (g := (mkF m 12 #[.val (.ref r0), .val (.int (0 : Int32))] [(.int (0 : Int32)), (.ref d1)])) rfl (by rw [hml]; rfl) (argsL := [(.ref d1), (.int (0 : Int32))]) (rest := []) (lenOf own_pd3 rfl) rfl (by show 2 * 0 + _ ≤ _; exact Nat.le_of_eq rfl) (hb hby d3_12) (fun _ _ => ⟨rfl, e2, (by decide : 0 + 0 ≤ _), (by decide : 0 + 0 ≤ _)⟩)
  dsimp only [Pt.U, Pt.locs, Pt.cells, Pt.slots] at X3 l3 y3 z3 st3 hQ3
  subst l3 y3 z3
  obtain ⟨rfl, N3q, e3⟩ := hQ3
  have N3 := Fr.app N1 N3q
  refine own_go (T' := T3) (g' := (mkF m 15 #[.val (.ref r0), .val (.int (0 : Int32))] [(.int (own_lch1 d1 kk v0 fm))])) (fun _ k => st3 _ k) ?_
  exact own_retN X3 hx (t := .char) Bd.returns hlk (by simp) (hb hby d3_15) e3 ⟨(by unfold own_cha1; first | rfl | done), N3, rfl⟩ (by decide) (by decide)
def own_lch2 (r0 : Addr) (kk : ClassId) (v0 : Int32) (v1 : Int32) (fm : Value) : Int32 := (nar .char ((v0 &&& (255 : Int32)).toUInt32.toUInt16.toUInt32.toInt32))
def Q_rmLch2 (Z : State) (r0 : Addr) (kk : ClassId) (v0 : Int32) (v1 : Int32) (fm : Value) (h0 : Heap) (n0 : Nat) (v : Option Value) (h : Heap) (L : List Loc) : Prop := v = some (.int (own_lch2 r0 kk v0 v1 fm)) ∧ Fr n0 L ∧ h = h0
theorem ef_rmLch2 (m : MethodId) (x0 : Addr) (x1 : Int32) : entryFrame m #[(.ref x0), (.int x1)] 2 = mkF m 0 #[.val (.ref x0), .val (.int x1)] [] := by first | (simp [entryFrame, mkF, argsToLocals, Value.category]; done) | rfl
theorem pn_rmLch2 : plainName "java/lang/StringLatin1" = true := by first | (simp [plainName, overriddenIn]; done) | decide +kernel
set_option maxRecDepth 65536 in
set_option maxHeartbeats 40000000 in
theorem rmLch2 (l : Launch) (Z : State) (a0 : Array Value) (hw : ∀ d ∈ tables_1, d.before a0 Z = true) (ws : List Jvm.Cond) (r0 : Addr) (kk : ClassId) (v0 : Int32) (v1 : Int32) (fm : Value) (h0 : Heap) (n0 : Nat) (Z0 : n0 ≤ h0.size) (hp0 : Arv Z h0 r0 kk .byte (2 : Int32) [(.int v0), (.int v1)] (.int (0 : Int32))) (hp1 : Sta Z h0 "jdk/internal/util/Preconditions" "SIOOBE_FORMATTER" "Ljava/util/function/BiFunction;" fm) (hh0 : fm.isRef = true) :
    MetFree l (⟨"java/lang/StringLatin1", "charAt", "([BI)C"⟩ : MethodName) (head1 (Jvm.Cond.code (⟨"java/lang/StringLatin1", "charAt", "([BI)C"⟩ : MethodName) jdk_43_method_2_code 2 (some .char) :: ws) ({ frames := 2, cells := 0, slots := 0, locals := 27 } : Room)) (fun a U => a = #[(.ref r0), (.int (0 : Int32))] ∧ Z.Warmed39 U.vm ∧ U.heap = h0) (fun _ _ _ _ _ => True) (fun _ U o U' => ∃ v L, o = .returned v ∧ Q_rmLch2 Z r0 kk v0 v1 fm h0 n0 v U'.heap L ∧ FrameEnd U o U' L ({ frames := 2, cells := 0, slots := 0, locals := 27 } : Room).cells ({ frames := 2, cells := 0, slots := 0, locals := 27 } : Room).slots) := by
  refine MetFree.of_bodySF (plainFor_of_name pn_rmLch2) hisR ?_
  intro p e s m args below meth c s₁ Bd hml0 hP hK
  obtain ⟨rfl, hZ, hh⟩ := hP
  have hx := Bd.exec
  have hby := Bd.bytes
  have hml : c.maxLocals = 2 := hml0
  have hown : s.vm.findClass "java/lang/StringLatin1" = some m.cls := findClass_of_methodNamed Bd.named
  have hnm := (name_of_methodNamed Bd.named Bd.method).1
  have hlk : meth.locks = false := BodyLoose.notSynchronized Bd
  have X0 : Stand p l e ({ frames := 2, cells := 0, slots := 0, locals := 27 } : Room) s m #[(.ref r0), (.int (0 : Int32))] below meth c s₁ [] 0 0 := Stand.of_body Bd
  have e0 : s₁.heap = h0 := by rw [← hh, Bd.state]; rfl
  have N0 := Fr.nil n0
  show own_W p e below s (Q_rmLch2 Z r0 kk v0 v1 fm h0 n0) 0 0 s₁ (entryFrame m #[(.ref r0), (.int (0 : Int32))] 2)
  skip
  skip
  refine own_go (T' := s₁) (g' := (mkF m 0 #[.val (.ref r0), .val (.int (0 : Int32))] [])) (fun _ k => castTop (ef_rmLch2 m r0 (0 : Int32)) k) ?_
  refine own_go (T' := s₁) (g' := (mkF m 1 #[.val (.ref r0), .val (.int (0 : Int32))] [(.int (0 : Int32))])) (fun _ k => XS.iloadN X0.here hx rfl (hb hby d5_0) rfl k) ?_
  refine own_go (T' := s₁) (g' := (mkF m 2 #[.val (.ref r0), .val (.int (0 : Int32))] [(.ref r0), (.int (0 : Int32))])) (fun _ k => XS.aloadN X0.here hx rfl (hb hby d5_1) rfl rfl k) ?_
  obtain ⟨cl1, Ar1, q11, q21, q31, H1, G1⟩ := id hp0
  have st1 := X0.arraylength hx (by rw [e0]; exact Ar1.1) (State.isArrayOf_alike hZ.alike Ar1.2.1) (g := (mkF m 2 #[.val (.ref r0), .val (.int (0 : Int32))] [(.ref r0), (.int (0 : Int32))])) rfl rfl (hb hby d5_2)
  rw [len_of q21 q31] at st1
  refine own_go (T' := s₁) (g' := (mkF m 3 #[.val (.ref r0), .val (.int (0 : Int32))] [(.int (2 : Int32)), (.int (0 : Int32))])) (fun _ k => st1 _ k) ?_
  obtain ⟨_, _, ⟨T2, L2, k2, n2⟩, -, X2, ⟨Lc2, hQ2, l2, y2, z2⟩, st2⟩ := Jvm.LawKit.callS X0 hx (y := (⟨"java/lang/String", "checkIndex", "(II)V"⟩ : MethodName)) hown (mvT hZ (hw _ (List.mem_of_getElem? (i := 35) rfl))) (mvT hZ (hw _ (List.mem_of_getElem? (i := 36) rfl))) (mvT hZ (hw _ (List.mem_of_getElem? (i := 19) rfl))) (mvT hZ (hw _ (List.mem_of_getElem? (i := 37) rfl))) (by decide) (backOf (W := 0) (rmCi l Z a0 hw [] (2 : Int32) fm h0 n0 Z0 hp1 hh0 (by decide)) hZ (hw _ (List.mem_of_getElem? (i := 37) rfl)) (hw _ (List.mem_of_getElem? (i := 19) rfl)) (by decide) (by decide)) (g := (mkF m 3 #[.val (.ref r0), .val (.int (0 : Int32))] [(.int (2 : Int32)), (.int (0 : Int32))])) rfl (by rw [hml]; rfl) (argsL := [(.int (0 : Int32)), (.int (2 : Int32))]) (rest := []) (lenOf own_pd1 rfl) rfl (by show 2 * 0 + _ ≤ _; exact Nat.le_of_eq rfl) (hb hby d5_3) (fun _ _ => ⟨rfl, e0, (by decide : 0 + 0 ≤ _), (by decide : 0 + 0 ≤ _)⟩)
  dsimp only [Pt.U, Pt.locs, Pt.cells, Pt.slots] at X2 l2 y2 z2 st2 hQ2
  subst l2 y2 z2
  obtain ⟨rfl, N2q, e2⟩ := hQ2
  have N2 := Fr.app N0 N2q
  refine own_go (T' := T2) (g' := (mkF m 6 #[.val (.ref r0), .val (.int (0 : Int32))] [])) (fun _ k => st2 _ k) ?_
  refine own_go (T' := T2) (g' := (mkF m 7 #[.val (.ref r0), .val (.int (0 : Int32))] [(.ref r0)])) (fun _ k => XS.aloadN X2.here hx rfl (hb hby d5_6) rfl rfl k) ?_
  refine own_go (T' := T2) (g' := (mkF m 8 #[.val (.ref r0), .val (.int (0 : Int32))] [(.int (0 : Int32)), (.ref r0)])) (fun _ k => XS.iloadN X2.here hx rfl (hb hby d5_7) rfl k) ?_
  obtain ⟨cl3, Ar3, q13, q23, q33, H3, G3⟩ := id hp0
  have hin3 := inb_of q23 (j := (0 : Int32)) (by decide)
  refine own_go (T' := T2) (g' := (mkF m 9 #[.val (.ref r0), .val (.int (0 : Int32))] [(.int v0)])) (fun _ k => X2.baloadBytes hx (j := (0 : Int32)) (v := (.int v0)) (by rw [e2]; exact Ar3.1) (State.isArrayOf_alike hZ.alike Ar3.2.1) Ar3.2.2 hin3 (Has.at H3 hin3 rfl) (g := (mkF m 8 #[.val (.ref r0), .val (.int (0 : Int32))] [(.int (0 : Int32)), (.ref r0)])) rfl rfl (hb hby d5_8) _ k) ?_
  refine own_go (T' := T2) (g' := (mkF m 12 #[.val (.ref r0), .val (.int (0 : Int32))] [(.int (255 : Int32)), (.int v0)])) (fun _ k => XS.sipush X2.here hx rfl (hb hby d5_9) k) ?_
  refine own_go (T' := T2) (g' := (mkF m 13 #[.val (.ref r0), .val (.int (0 : Int32))] [(.int (v0 &&& (255 : Int32)))])) (fun _ k => XS.iand X2.here hx rfl (hb hby d5_12) rfl k) ?_
  refine own_go (T' := T2) (g' := (mkF m 14 #[.val (.ref r0), .val (.int (0 : Int32))] [(.int ((v0 &&& (255 : Int32)).toUInt32.toUInt16.toUInt32.toInt32))])) (fun _ k => XT.i2c X2.here hx rfl (hb hby d5_13) rfl k) ?_
  exact own_retN X2 hx (t := .char) Bd.returns hlk (by simp) (hb hby d5_14) e2 ⟨(by unfold own_lch2; first | rfl | done), N2, rfl⟩ (by decide) (by decide)
def own_cha2 (r0 : Addr) (d1 : Addr) (kk : ClassId) (v0 : Int32) (v1 : Int32) (cs : Int32) (fm : Value) : Int32 := (nar .char (own_lch2 d1 kk v0 v1 fm))
def Q_rmCha2 (Z : State) (r0 : Addr) (d1 : Addr) (kk : ClassId) (v0 : Int32) (v1 : Int32) (cs : Int32) (fm : Value) (h0 : Heap) (n0 : Nat) (v : Option Value) (h : Heap) (L : List Loc) : Prop := v = some (.int (own_cha2 r0 d1 kk v0 v1 cs fm)) ∧ Fr n0 L ∧ h = h0
theorem ef_rmCha2 (m : MethodId) (x0 : Addr) (x1 : Int32) : entryFrame m #[(.ref x0), (.int x1)] 2 = mkF m 0 #[.val (.ref x0), .val (.int x1)] [] := by first | (simp [entryFrame, mkF, argsToLocals, Value.category]; done) | rfl
theorem pn_rmCha2 : plainName "java/lang/String" = true := by first | (simp [plainName, overriddenIn]; done) | decide +kernel
set_option maxRecDepth 65536 in
set_option maxHeartbeats 40000000 in
theorem rmCha2 (l : Launch) (Z : State) (a0 : Array Value) (hw : ∀ d ∈ tables_1, d.before a0 Z = true) (ws : List Jvm.Cond) (r0 : Addr) (d1 : Addr) (kk : ClassId) (v0 : Int32) (v1 : Int32) (cs : Int32) (fm : Value) (h0 : Heap) (n0 : Nat) (Z0 : n0 ≤ h0.size) (hp0 : Exa Z h0 r0 "java/lang/String") (hp1 : Fld Z h0 r0 "java/lang/String" "coder" "B" (.int (0 : Int32))) (hp2 : Fld Z h0 r0 "java/lang/String" "value" "[B" (.ref d1)) (hp3 : Arv Z h0 d1 kk .byte (2 : Int32) [(.int v0), (.int v1)] (.int (0 : Int32))) (hp4 : Sta Z h0 "java/lang/String" "COMPACT_STRINGS" "Z" (.int cs)) (hp5 : Sta Z h0 "jdk/internal/util/Preconditions" "SIOOBE_FORMATTER" "Ljava/util/function/BiFunction;" fm) (hh0 : fm.isRef = true) (hh1 : ¬ cs = (0 : Int32)) :
    MetFree l (⟨"java/lang/String", "charAt", "(I)C"⟩ : MethodName) (head1 (Jvm.Cond.code (⟨"java/lang/String", "charAt", "(I)C"⟩ : MethodName) jdk_42_method_56_code 2 (some .char) :: ws) ({ frames := 3, cells := 0, slots := 0, locals := 40 } : Room)) (fun a U => a = #[(.ref r0), (.int (0 : Int32))] ∧ Z.Warmed39 U.vm ∧ U.heap = h0) (fun _ _ _ _ _ => True) (fun _ U o U' => ∃ v L, o = .returned v ∧ Q_rmCha2 Z r0 d1 kk v0 v1 cs fm h0 n0 v U'.heap L ∧ FrameEnd U o U' L ({ frames := 3, cells := 0, slots := 0, locals := 40 } : Room).cells ({ frames := 3, cells := 0, slots := 0, locals := 40 } : Room).slots) := by
  refine MetFree.of_bodySF (plainFor_of_name pn_rmCha2) hisR ?_
  intro p e s m args below meth c s₁ Bd hml0 hP hK
  obtain ⟨rfl, hZ, hh⟩ := hP
  have hx := Bd.exec
  have hby := Bd.bytes
  have hml : c.maxLocals = 2 := hml0
  have hown : s.vm.findClass "java/lang/String" = some m.cls := findClass_of_methodNamed Bd.named
  have hnm := (name_of_methodNamed Bd.named Bd.method).1
  have hlk : meth.locks = false := BodyLoose.notSynchronized Bd
  have X0 : Stand p l e ({ frames := 3, cells := 0, slots := 0, locals := 40 } : Room) s m #[(.ref r0), (.int (0 : Int32))] below meth c s₁ [] 0 0 := Stand.of_body Bd
  have e0 : s₁.heap = h0 := by rw [← hh, Bd.state]; rfl
  have N0 := Fr.nil n0
  show own_W p e below s (Q_rmCha2 Z r0 d1 kk v0 v1 cs fm h0 n0) 0 0 s₁ (entryFrame m #[(.ref r0), (.int (0 : Int32))] 2)
  skip
  skip
  refine own_go (T' := s₁) (g' := (mkF m 0 #[.val (.ref r0), .val (.int (0 : Int32))] [])) (fun _ k => castTop (ef_rmCha2 m r0 (0 : Int32)) k) ?_
  refine own_go (T' := s₁) (g' := (mkF m 1 #[.val (.ref r0), .val (.int (0 : Int32))] [(.ref r0)])) (fun _ k => XS.aloadN X0.here hx rfl (hb hby d3_0) rfl rfl k) ?_
  obtain ⟨cq1, kq1, q1a, q1b, q1c⟩ := isOf hZ e0 hp0
  obtain ⟨_, _, ⟨T1, L1, k1, n1⟩, -, X1, ⟨Lc1, hQ1, l1, y1, z1⟩, st1⟩ := X0.virtualBack hx (y := (⟨"java/lang/String", "isLatin1", "()Z"⟩ : MethodName)) (z := (⟨"java/lang/String", "isLatin1", "()Z"⟩ : MethodName)) hown (mvT hZ (hw _ (List.mem_of_getElem? (i := 21) rfl))) (mvT hZ (hw _ (List.mem_of_getElem? (i := 22) rfl))) (notFace_of_selects (args := #[]) (mvT hZ (hw _ (List.mem_of_getElem? (i := 24) rfl)))) (mvT hZ (hw _ (List.mem_of_getElem? (i := 24) rfl))) (mvT hZ (hw _ (List.mem_of_getElem? (i := 23) rfl))) (by decide) (backOf (W := 0) (rmIsL l Z a0 hw [] r0 cs h0 n0 Z0 hp4 hp1) hZ (hw _ (List.mem_of_getElem? (i := 25) rfl)) (hw _ (List.mem_of_getElem? (i := 19) rfl)) (by decide) (by decide)) q1a q1c (g := (mkF m 1 #[.val (.ref r0), .val (.int (0 : Int32))] [(.ref r0)])) rfl (by rw [hml]; rfl) (Steps.refl _) (argsL := []) (rest := []) (lenOf own_pd2 rfl) rfl (by show 2 * 0 + _ ≤ _; exact Nat.le_of_eq rfl) (hb hby d3_1) (fun _ _ => ⟨rfl, e0, (by decide : 0 + 0 ≤ _), (by decide : 0 + 0 ≤ _)⟩)
  dsimp only [Pt.U, Pt.locs, Pt.cells, Pt.slots] at X1 l1 y1 z1 st1 hQ1
  subst l1 y1 z1
  obtain ⟨rfl, N1q, e1⟩ := hQ1
  have N1 := Fr.app N0 N1q
  refine own_go (T' := T1) (g' := (mkF m 4 #[.val (.ref r0), .val (.int (0 : Int32))] [(.int (own_isL r0 cs))])) (fun _ k => st1.trans k) ?_
  refine own_go (T' := T1) (g' := (mkF m 7 #[.val (.ref r0), .val (.int (0 : Int32))] [])) (fun _ k => XS.ifNo X1.here hx rfl (hb hby d3_4) rfl (XT.i0_eq_f (by unfold own_isL; rw [if_neg hh1]; decide)) k) ?_
  refine own_go (T' := T1) (g' := (mkF m 8 #[.val (.ref r0), .val (.int (0 : Int32))] [(.ref r0)])) (fun _ k => XS.aloadN X1.here hx rfl (hb hby d3_7) rfl rfl k) ?_
  obtain ⟨T2, X2, e2, st2⟩ := getF X1 hx hZ hown (host := "") (Or.inl (hw _ (List.mem_of_getElem? (i := 29) rfl))) Via.refl e1 hp2 (g := (mkF m 8 #[.val (.ref r0), .val (.int (0 : Int32))] [(.ref r0)])) rfl rfl (hb hby d3_8)
  refine own_go (T' := T2) (g' := (mkF m 11 #[.val (.ref r0), .val (.int (0 : Int32))] [(.ref d1)])) (fun _ k => st2 _ k) ?_
  refine own_go (T' := T2) (g' := (mkF m 12 #[.val (.ref r0), .val (.int (0 : Int32))] [(.int (0 : Int32)), (.ref d1)])) (fun _ k => XS.iloadN X2.here hx rfl (hb hby d3_11) rfl k) ?_
  obtain ⟨_, _, ⟨T3, L3, k3, n3⟩, -, X3, ⟨Lc3, hQ3, l3, y3, z3⟩, st3⟩ := Jvm.LawKit.callS X2 hx (y := (⟨"java/lang/StringLatin1", "charAt", "([BI)C"⟩ : MethodName)) hown (mvT hZ (hw _ (List.mem_of_getElem? (i := 31) rfl))) (mvT hZ (hw _ (List.mem_of_getElem? (i := 32) rfl))) (mvT hZ (hw _ (List.mem_of_getElem? (i := 33) rfl))) (mvT hZ (hw _ (List.mem_of_getElem? (i := 34) rfl))) (by decide) (backOf (W := 0) (rmLch2 l Z a0 hw [] d1 kk v0 v1 fm h0 n0 Z0 hp3 hp5 hh0) hZ (hw _ (List.mem_of_getElem? (i := 34) rfl)) (hw _ (List.mem_of_getElem? (i := 33) rfl)) (by decide) (by decide)) (g := (mkF m 12 #[.val (.ref r0), .val (.int (0 : Int32))] [(.int (0 : Int32)), (.ref d1)])) rfl (by rw [hml]; rfl) (argsL := [(.ref d1), (.int (0 : Int32))]) (rest := []) (lenOf own_pd3 rfl) rfl (by show 2 * 0 + _ ≤ _; exact Nat.le_of_eq rfl) (hb hby d3_12) (fun _ _ => ⟨rfl, e2, (by decide : 0 + 0 ≤ _), (by decide : 0 + 0 ≤ _)⟩)
  dsimp only [Pt.U, Pt.locs, Pt.cells, Pt.slots] at X3 l3 y3 z3 st3 hQ3
  subst l3 y3 z3
  obtain ⟨rfl, N3q, e3⟩ := hQ3
  have N3 := Fr.app N1 N3q
  refine own_go (T' := T3) (g' := (mkF m 15 #[.val (.ref r0), .val (.int (0 : Int32))] [(.int (own_lch2 d1 kk v0 v1 fm))])) (fun _ k => st3 _ k) ?_
  exact own_retN X3 hx (t := .char) Bd.returns hlk (by simp) (hb hby d3_15) e3 ⟨(by unfold own_cha2; first | rfl | done), N3, rfl⟩ (by decide) (by decide)
def own_ord (r0 : Addr) (s0_ : Addr) (s1_ : Addr) : Int32 := (if r0 = s0_ then (0 : Int32) else (if r0 = s1_ then (0 : Int32) else (1 : Int32)))
theorem d8_0 : decode prog_8_method_6_code 0 = .ok (.aload_n 0, 1) := by decide +kernel
theorem d8_1 : decode prog_8_method_6_code 1 = .ok (.getstatic 3, 3) := by decide +kernel
theorem d8_4 : decode prog_8_method_6_code 4 = .ok (.if_acmp .eq 14, 3) := by decide +kernel
theorem d8_7 : decode prog_8_method_6_code 7 = .ok (.aload_n 0, 1) := by decide +kernel
theorem d8_8 : decode prog_8_method_6_code 8 = .ok (.getstatic 7, 3) := by decide +kernel
theorem d8_11 : decode prog_8_method_6_code 11 = .ok (.if_acmp .eq 7, 3) := by decide +kernel
theorem d8_14 : decode prog_8_method_6_code 14 = .ok (.iconst 1, 1) := by decide +kernel
theorem d8_15 : decode prog_8_method_6_code 15 = .ok (.goto 4, 3) := by decide +kernel
theorem d8_18 : decode prog_8_method_6_code 18 = .ok (.iconst 0, 1) := by decide +kernel
theorem d8_19 : decode prog_8_method_6_code 19 = .ok (.ireturn, 1) := by decide +kernel
def Q_rmO (Z : State) (r0 : Addr) (s0_ : Addr) (s1_ : Addr) (h0 : Heap) (n0 : Nat) (v : Option Value) (h : Heap) (L : List Loc) : Prop := v = some (.int (own_ord r0 s0_ s1_)) ∧ Fr n0 L ∧ h = h0
theorem ef_rmO (m : MethodId) (x0 : Addr) : entryFrame m #[(.ref x0)] 1 = mkF m 0 #[.val (.ref x0)] [] := by first | (simp [entryFrame, mkF, argsToLocals, Value.category]; done) | rfl
theorem pn_rmO : plainName "com/example/labels_in_order/labelsinorder/Comparison" = true := by first | (simp [plainName, overriddenIn]; done) | decide +kernel
set_option maxRecDepth 65536 in
set_option maxHeartbeats 40000000 in
theorem rmO (l : Launch) (Z : State) (a0 : Array Value) (hw : ∀ d ∈ tables_1, d.before a0 Z = true) (ws : List Jvm.Cond) (r0 : Addr) (s0_ : Addr) (s1_ : Addr) (h0 : Heap) (n0 : Nat) (Z0 : n0 ≤ h0.size) (hp0 : Sta Z h0 "com/example/labels_in_order/labelsinorder/Comparison" "EQUAL" "Lcom/example/labels_in_order/labelsinorder/Comparison;" (.ref s0_)) (hp1 : Sta Z h0 "com/example/labels_in_order/labelsinorder/Comparison" "NOT_EQUAL" "Lcom/example/labels_in_order/labelsinorder/Comparison;" (.ref s1_)) :
    MetFree l (⟨"com/example/labels_in_order/labelsinorder/Comparison", "ordering", "()Z"⟩ : MethodName) (head1 (Jvm.Cond.code (⟨"com/example/labels_in_order/labelsinorder/Comparison", "ordering", "()Z"⟩ : MethodName) prog_8_method_6_code 1 (some .boolean) :: ws) ({ frames := 0, cells := 0, slots := 0, locals := 0 } : Room)) (fun a U => a = #[(.ref r0)] ∧ Z.Warmed39 U.vm ∧ U.heap = h0) (fun _ _ _ _ _ => True) (fun _ U o U' => ∃ v L, o = .returned v ∧ Q_rmO Z r0 s0_ s1_ h0 n0 v U'.heap L ∧ FrameEnd U o U' L ({ frames := 0, cells := 0, slots := 0, locals := 0 } : Room).cells ({ frames := 0, cells := 0, slots := 0, locals := 0 } : Room).slots) := by
  refine MetFree.of_bodySF (plainFor_of_name pn_rmO) hisR ?_
  intro p e s m args below meth c s₁ Bd hml0 hP hK
  obtain ⟨rfl, hZ, hh⟩ := hP
  have hx := Bd.exec
  have hby := Bd.bytes
  have hml : c.maxLocals = 1 := hml0
  have hown : s.vm.findClass "com/example/labels_in_order/labelsinorder/Comparison" = some m.cls := findClass_of_methodNamed Bd.named
  have hnm := (name_of_methodNamed Bd.named Bd.method).1
  have hlk : meth.locks = false := BodyLoose.notSynchronized Bd
  have X0 : Stand p l e ({ frames := 0, cells := 0, slots := 0, locals := 0 } : Room) s m #[(.ref r0)] below meth c s₁ [] 0 0 := Stand.of_body Bd
  have e0 : s₁.heap = h0 := by rw [← hh, Bd.state]; rfl
  have N0 := Fr.nil n0
  show own_W p e below s (Q_rmO Z r0 s0_ s1_ h0 n0) 0 0 s₁ (entryFrame m #[(.ref r0)] 1)
  skip
  skip
  refine own_go (T' := s₁) (g' := (mkF m 0 #[.val (.ref r0)] [])) (fun _ k => castTop (ef_rmO m r0) k) ?_
  refine own_go (T' := s₁) (g' := (mkF m 1 #[.val (.ref r0)] [(.ref r0)])) (fun _ k => XS.aloadN X0.here hx rfl (hb hby d8_0) rfl rfl k) ?_
  obtain ⟨T1, X1, e1, st1⟩ := getS2 X0 hx hZ hown (host := "") (Or.inl (hw _ (List.mem_of_getElem? (i := 48) rfl))) Via.refl e0 hp0 (g := (mkF m 1 #[.val (.ref r0)] [(.ref r0)])) rfl (hb hby d8_1)
  refine own_go (T' := T1) (g' := (mkF m 4 #[.val (.ref r0)] [(.ref s0_), (.ref r0)])) (fun _ k => st1 _ k) ?_
  by_cases hc4_2 : r0 = s0_
  · skip
    refine own_go (T' := T1) (g' := (mkF m 18 #[.val (.ref r0)] [])) (fun _ k => XT.acmpYes X1.here hx rfl (pc0 := 4) (pc' := 18) rfl (hb hby d8_4) rfl rfl rfl (XT.aa_eq_t (congrArg Value.ref hc4_2)) (by decide) (by decide) k) ?_
    refine own_go (T' := T1) (g' := (mkF m 19 #[.val (.ref r0)] [(.int (0 : Int32))])) (fun _ k => XS.iconst X1.here hx rfl (hb hby d8_18) k) ?_
    exact own_retN X1 hx (t := .boolean) Bd.returns hlk (by simp) (hb hby d8_19) e1 ⟨(by unfold own_ord; first | (rw [if_pos hc4_2]; done) | (rw [if_pos hc4_2]; rfl)), N0, rfl⟩ (by decide) (by decide)
  · skip
    refine own_go (T' := T1) (g' := (mkF m 7 #[.val (.ref r0)] [])) (fun _ k => XT.acmpNo X1.here hx rfl (hb hby d8_4) rfl rfl rfl (XT.aa_eq_f (fun q => hc4_2 (Value.ref.inj q))) k) ?_
    refine own_go (T' := T1) (g' := (mkF m 8 #[.val (.ref r0)] [(.ref r0)])) (fun _ k => XS.aloadN X1.here hx rfl (hb hby d8_7) rfl rfl k) ?_
    obtain ⟨T3, X3, e3, st3⟩ := getS2 X1 hx hZ hown (host := "") (Or.inl (hw _ (List.mem_of_getElem? (i := 51) rfl))) Via.refl e1 hp1 (g := (mkF m 8 #[.val (.ref r0)] [(.ref r0)])) rfl (hb hby d8_8)
    refine own_go (T' := T3) (g' := (mkF m 11 #[.val (.ref r0)] [(.ref s1_), (.ref r0)])) (fun _ k => st3 _ k) ?_
    by_cases hc11_4 : r0 = s1_
    · skip
      refine own_go (T' := T3) (g' := (mkF m 18 #[.val (.ref r0)] [])) (fun _ k => XT.acmpYes X3.here hx rfl (pc0 := 11) (pc' := 18) rfl (hb hby d8_11) rfl rfl rfl (XT.aa_eq_t (congrArg Value.ref hc11_4)) (by decide) (by decide) k) ?_
      refine own_go (T' := T3) (g' := (mkF m 19 #[.val (.ref r0)] [(.int (0 : Int32))])) (fun _ k => XS.iconst X3.here hx rfl (hb hby d8_18) k) ?_
      exact own_retN X3 hx (t := .boolean) Bd.returns hlk (by simp) (hb hby d8_19) e3 ⟨(by unfold own_ord; first | (rw [if_neg hc4_2, if_pos hc11_4]; done) | (rw [if_neg hc4_2, if_pos hc11_4]; rfl)), N0, rfl⟩ (by decide) (by decide)
    · skip
      refine own_go (T' := T3) (g' := (mkF m 14 #[.val (.ref r0)] [])) (fun _ k => XT.acmpNo X3.here hx rfl (hb hby d8_11) rfl rfl rfl (XT.aa_eq_f (fun q => hc11_4 (Value.ref.inj q))) k) ?_
      refine own_go (T' := T3) (g' := (mkF m 15 #[.val (.ref r0)] [(.int (1 : Int32))])) (fun _ k => XS.iconst X3.here hx rfl (hb hby d8_14) k) ?_
      refine own_go (T' := T3) (g' := (mkF m 19 #[.val (.ref r0)] [(.int (1 : Int32))])) (fun _ k => XS.goto X3.here hx rfl (pc0 := 15) (pc' := 19) rfl (hb hby d8_15) (by decide) (by decide) k) ?_
      exact own_retN X3 hx (t := .boolean) Bd.returns hlk (by simp) (hb hby d8_19) e3 ⟨(by unfold own_ord; first | (rw [if_neg hc4_2, if_neg hc11_4]; done) | (rw [if_neg hc4_2, if_neg hc11_4]; rfl)), N0, rfl⟩ (by decide) (by decide)
theorem own_rem (a : Int32) : ((a &&& (2147483647 : Int32)) % (6 : Int32)) = 0 ∨ ((a &&& (2147483647 : Int32)) % (6 : Int32)) = 1 ∨ ((a &&& (2147483647 : Int32)) % (6 : Int32)) = 2 ∨ ((a &&& (2147483647 : Int32)) % (6 : Int32)) = 3 ∨ ((a &&& (2147483647 : Int32)) % (6 : Int32)) = 4 ∨ ((a &&& (2147483647 : Int32)) % (6 : Int32)) = 5 := by
  have h0 : (a &&& (2147483647 : Int32)).toInt = a.toInt % 2147483648 := c_mask a 2147483647 31 (by decide) (by decide)
  have h1 := (c_irem (a &&& (2147483647 : Int32)) 6 6 rfl).1 (by omega)
  simp only [← Int32.toInt_inj, show (0 : Int32).toInt = 0 from rfl, show (1 : Int32).toInt = 1 from rfl, show (2 : Int32).toInt = 2 from rfl, show (3 : Int32).toInt = 3 from rfl, show (4 : Int32).toInt = 4 from rfl, show (5 : Int32).toInt = 5 from rfl]
  omega
theorem own_pd4 : parseMethodDescriptor "(I)Lcom/example/labels_in_order/labelsinorder/Comparison;" = some ⟨[.int], some (.object "com/example/labels_in_order/labelsinorder/Comparison")⟩ := by decide +kernel
theorem own_pd5 : parseMethodDescriptor "()Ljava/lang/String;" = some ⟨[], some (.object "java/lang/String")⟩ := by decide +kernel
theorem own_pd6 : parseMethodDescriptor "(I)C" = some ⟨[.int], some .char⟩ := by decide +kernel
def Q_rm0 (Z : State) (p0 : Int32) (s0_ : Addr) (s1_ : Addr) (s2_ : Addr) (s3_ : Addr) (s4_ : Addr) (s5_ : Addr) (cs : Int32) (fm : Value) (w0_ : Addr) (d0_ : Addr) (kk0 : ClassId) (w1_ : Addr) (d1_ : Addr) (kk1 : ClassId) (w2_ : Addr) (d2_ : Addr) (kk2 : ClassId) (w3_ : Addr) (d3_ : Addr) (kk3 : ClassId) (w4_ : Addr) (d4_ : Addr) (kk4 : ClassId) (w5_ : Addr) (d5_ : Addr) (kk5 : ClassId) (h0 : Heap) (n0 : Nat) (v : Option Value) (h : Heap) (L : List Loc) : Prop := v = some (.int 1) ∧ Fr n0 L
theorem ef_rm0 (m : MethodId) (x0 : Int32) : entryFrame m #[(.int x0)] maxLocals = mkF m 0 #[.val (.int x0), .unset, .unset, .unset, .unset, .unset] [] := by first | (simp [entryFrame, mkF, argsToLocals, Value.category, maxLocals]; done) | rfl
theorem pn_rm0 : plainName "com/example/labels_in_order/labelsinorder/ComparisonOrderingPinLaw" = true := by first | (simp [plainName, overriddenIn]; done) | decide +kernel
set_option maxRecDepth 65536 in
set_option maxHeartbeats 40000000 in
theorem rm0 (l : Launch) (Z : State) (a0 : Array Value) (hw : ∀ d ∈ tables_1, d.before a0 Z = true) (ws : List Jvm.Cond) (p0 : Int32) (s0_ : Addr) (s1_ : Addr) (s2_ : Addr) (s3_ : Addr) (s4_ : Addr) (s5_ : Addr) (cs : Int32) (fm : Value) (w0_ : Addr) (d0_ : Addr) (kk0 : ClassId) (w1_ : Addr) (d1_ : Addr) (kk1 : ClassId) (w2_ : Addr) (d2_ : Addr) (kk2 : ClassId) (w3_ : Addr) (d3_ : Addr) (kk3 : ClassId) (w4_ : Addr) (d4_ : Addr) (kk4 : ClassId) (w5_ : Addr) (d5_ : Addr) (kk5 : ClassId) (h0 : Heap) (n0 : Nat) (Z0 : n0 ≤ h0.size) (hp0 : Sta Z h0 "com/example/labels_in_order/labelsinorder/Comparison" "EQUAL" "Lcom/example/labels_in_order/labelsinorder/Comparison;" (.ref s0_)) (hp1 : Sta Z h0 "com/example/labels_in_order/labelsinorder/Comparison" "NOT_EQUAL" "Lcom/example/labels_in_order/labelsinorder/Comparison;" (.ref s1_)) (hp2 : Sta Z h0 "com/example/labels_in_order/labelsinorder/Comparison" "LESS" "Lcom/example/labels_in_order/labelsinorder/Comparison;" (.ref s2_)) (hp3 : Sta Z h0 "com/example/labels_in_order/labelsinorder/Comparison" "LESS_OR_EQUAL" "Lcom/example/labels_in_order/labelsinorder/Comparison;" (.ref s3_)) (hp4 : Sta Z h0 "com/example/labels_in_order/labelsinorder/Comparison" "GREATER" "Lcom/example/labels_in_order/labelsinorder/Comparison;" (.ref s4_)) (hp5 : Sta Z h0 "com/example/labels_in_order/labelsinorder/Comparison" "GREATER_OR_EQUAL" "Lcom/example/labels_in_order/labelsinorder/Comparison;" (.ref s5_)) (hp6 : Sta Z h0 "java/lang/String" "COMPACT_STRINGS" "Z" (.int cs)) (hp7 : Sta Z h0 "jdk/internal/util/Preconditions" "SIOOBE_FORMATTER" "Ljava/util/function/BiFunction;" fm) (hp8 : Exa Z h0 s0_ "com/example/labels_in_order/labelsinorder/Comparison") (hp9 : Fld Z h0 s0_ "com/example/labels_in_order/labelsinorder/Comparison" "written" "Ljava/lang/String;" (.ref w0_)) (hp10 : Exa Z h0 w0_ "java/lang/String") (hp11 : Fld Z h0 w0_ "java/lang/String" "coder" "B" (.int (0 : Int32))) (hp12 : Fld Z h0 w0_ "java/lang/String" "value" "[B" (.ref d0_)) (hp13 : Arv Z h0 d0_ kk0 .byte (1 : Int32) [(.int (61 : Int32))] (.int (0 : Int32))) (hp14 : Exa Z h0 s1_ "com/example/labels_in_order/labelsinorder/Comparison") (hp15 : Fld Z h0 s1_ "com/example/labels_in_order/labelsinorder/Comparison" "written" "Ljava/lang/String;" (.ref w1_)) (hp16 : Exa Z h0 w1_ "java/lang/String") (hp17 : Fld Z h0 w1_ "java/lang/String" "coder" "B" (.int (0 : Int32))) (hp18 : Fld Z h0 w1_ "java/lang/String" "value" "[B" (.ref d1_)) (hp19 : Arv Z h0 d1_ kk1 .byte (2 : Int32) [(.int (33 : Int32)), (.int (61 : Int32))] (.int (0 : Int32))) (hp20 : Exa Z h0 s2_ "com/example/labels_in_order/labelsinorder/Comparison") (hp21 : Fld Z h0 s2_ "com/example/labels_in_order/labelsinorder/Comparison" "written" "Ljava/lang/String;" (.ref w2_)) (hp22 : Exa Z h0 w2_ "java/lang/String") (hp23 : Fld Z h0 w2_ "java/lang/String" "coder" "B" (.int (0 : Int32))) (hp24 : Fld Z h0 w2_ "java/lang/String" "value" "[B" (.ref d2_)) (hp25 : Arv Z h0 d2_ kk2 .byte (1 : Int32) [(.int (60 : Int32))] (.int (0 : Int32))) (hp26 : Exa Z h0 s3_ "com/example/labels_in_order/labelsinorder/Comparison") (hp27 : Fld Z h0 s3_ "com/example/labels_in_order/labelsinorder/Comparison" "written" "Ljava/lang/String;" (.ref w3_)) (hp28 : Exa Z h0 w3_ "java/lang/String") (hp29 : Fld Z h0 w3_ "java/lang/String" "coder" "B" (.int (0 : Int32))) (hp30 : Fld Z h0 w3_ "java/lang/String" "value" "[B" (.ref d3_)) (hp31 : Arv Z h0 d3_ kk3 .byte (2 : Int32) [(.int (60 : Int32)), (.int (61 : Int32))] (.int (0 : Int32))) (hp32 : Exa Z h0 s4_ "com/example/labels_in_order/labelsinorder/Comparison") (hp33 : Fld Z h0 s4_ "com/example/labels_in_order/labelsinorder/Comparison" "written" "Ljava/lang/String;" (.ref w4_)) (hp34 : Exa Z h0 w4_ "java/lang/String") (hp35 : Fld Z h0 w4_ "java/lang/String" "coder" "B" (.int (0 : Int32))) (hp36 : Fld Z h0 w4_ "java/lang/String" "value" "[B" (.ref d4_)) (hp37 : Arv Z h0 d4_ kk4 .byte (1 : Int32) [(.int (62 : Int32))] (.int (0 : Int32))) (hp38 : Exa Z h0 s5_ "com/example/labels_in_order/labelsinorder/Comparison") (hp39 : Fld Z h0 s5_ "com/example/labels_in_order/labelsinorder/Comparison" "written" "Ljava/lang/String;" (.ref w5_)) (hp40 : Exa Z h0 w5_ "java/lang/String") (hp41 : Fld Z h0 w5_ "java/lang/String" "coder" "B" (.int (0 : Int32))) (hp42 : Fld Z h0 w5_ "java/lang/String" "value" "[B" (.ref d5_)) (hp43 : Arv Z h0 d5_ kk5 .byte (2 : Int32) [(.int (62 : Int32)), (.int (61 : Int32))] (.int (0 : Int32))) (hh0 : fm.isRef = true) (hh1 : ¬ cs = (0 : Int32)) (hh2 : ¬ s2_ = s0_) (hh3 : ¬ s2_ = s1_) (hh4 : ¬ s3_ = s0_) (hh5 : ¬ s3_ = s1_) (hh6 : ¬ s4_ = s0_) (hh7 : ¬ s4_ = s1_) (hh8 : ¬ s5_ = s0_) (hh9 : ¬ s5_ = s1_) :
    MetFree l x (head1 (Jvm.Cond.code x code maxLocals ret :: ws) room_1) (fun a U => a = #[(.int p0)] ∧ Z.Warmed39 U.vm ∧ U.heap = h0) (fun _ _ _ _ _ => True) (fun _ U o U' => ∃ v L, o = .returned v ∧ Q_rm0 Z p0 s0_ s1_ s2_ s3_ s4_ s5_ cs fm w0_ d0_ kk0 w1_ d1_ kk1 w2_ d2_ kk2 w3_ d3_ kk3 w4_ d4_ kk4 w5_ d5_ kk5 h0 n0 v U'.heap L ∧ FrameEnd U o U' L 0 0) := by
  refine MetFree.of_bodySF (plainFor_of_name pn_rm0) hisR ?_
  intro p e s m args below meth c s₁ Bd hml0 hP hK
  obtain ⟨rfl, hZ, hh⟩ := hP
  have hx := Bd.exec
  have hby := Bd.bytes
  have hml : c.maxLocals = 6 := hml0
  have hown : s.vm.findClass "com/example/labels_in_order/labelsinorder/ComparisonOrderingPinLaw" = some m.cls := findClass_of_methodNamed Bd.named
  have hnm := (name_of_methodNamed Bd.named Bd.method).1
  have hlk : meth.locks = false := BodyLoose.notSynchronized Bd
  have X0 : Stand p l e room_1 s m #[(.int p0)] below meth c s₁ [] 0 0 := Stand.of_body Bd
  have e0 : s₁.heap = h0 := by rw [← hh, Bd.state]; rfl
  have N0 := Fr.nil n0
  show own_W p e below s (Q_rm0 Z p0 s0_ s1_ s2_ s3_ s4_ s5_ cs fm w0_ d0_ kk0 w1_ d1_ kk1 w2_ d2_ kk2 w3_ d3_ kk3 w4_ d4_ kk4 w5_ d5_ kk5 h0 n0) 0 0 s₁ (entryFrame m #[(.int p0)] maxLocals)
  skip
  skip
  refine own_go (T' := s₁) (g' := (mkF m 0 #[.val (.int p0), .unset, .unset, .unset, .unset, .unset] [])) (fun _ k => castTop (ef_rm0 m p0) k) ?_
  refine own_go (T' := s₁) (g' := (mkF m 1 #[.val (.int p0), .unset, .unset, .unset, .unset, .unset] [(.int p0)])) (fun _ k => XS.iloadN X0.here hx rfl (hb hby at_0) rfl k) ?_
  refine own_go (T' := s₁) (g' := (mkF m 3 #[.val (.int p0), .unset, .unset, .unset, .unset, .unset] [(.int (2147483647 : Int32)), (.int p0)])) (fun _ k => X0.ldcInt hx hown (mvT hZ (hw _ (List.mem_of_getElem? (i := 0) rfl))) (g := (mkF m 1 #[.val (.int p0), .unset, .unset, .unset, .unset, .unset] [(.int p0)])) rfl (hb hby at_1) _ k) ?_
  refine own_go (T' := s₁) (g' := (mkF m 4 #[.val (.int p0), .unset, .unset, .unset, .unset, .unset] [(.int (p0 &&& (2147483647 : Int32)))])) (fun _ k => XS.iand X0.here hx rfl (hb hby at_3) rfl k) ?_
  refine own_go (T' := s₁) (g' := (mkF m 6 #[.val (.int p0), .unset, .unset, .unset, .unset, .unset] [(.int (6 : Int32)), (.int (p0 &&& (2147483647 : Int32)))])) (fun _ k => XS.bipush X0.here hx rfl (hb hby at_4) k) ?_
  refine own_go (T' := s₁) (g' := (mkF m 7 #[.val (.int p0), .unset, .unset, .unset, .unset, .unset] [(.int ((p0 &&& (2147483647 : Int32)) % (6 : Int32)))])) (fun _ k => iremM X0 hx rfl (hb hby at_6) rfl (by decide) k) ?_
  refine own_go (T' := s₁) (g' := (mkF m 8 #[.val (.int p0), .val (.int ((p0 &&& (2147483647 : Int32)) % (6 : Int32))), .unset, .unset, .unset, .unset] [])) (fun _ k => XS.istoreN X0.here hx rfl (hb hby at_7) rfl (l' := #[.val (.int p0), .val (.int ((p0 &&& (2147483647 : Int32)) % (6 : Int32))), .unset, .unset, .unset, .unset]) rfl k) ?_
  rcases own_rem p0 with hk | hk | hk | hk | hk | hk
  · skip
    refine own_go (T' := s₁) (g' := (mkF m 8 #[.val (.int p0), .val (.int (0 : Int32)), .unset, .unset, .unset, .unset] [])) (fun _ k => castTop (by rw [hk]) k) ?_
    refine own_go (T' := s₁) (g' := (mkF m 9 #[.val (.int p0), .val (.int (0 : Int32)), .unset, .unset, .unset, .unset] [(.int (0 : Int32))])) (fun _ k => XS.iloadN X0.here hx rfl (hb hby at_8) rfl k) ?_
    obtain ⟨_, _, ⟨T1, L1, k1, n1⟩, -, X1, ⟨Lc1, hQ1, l1, y1, z1⟩, st1⟩ := Jvm.LawKit.callS X0 hx (y := (⟨"com/example/labels_in_order/labelsinorder/ComparisonOrderingPinLaw", "pick", "(I)Lcom/example/labels_in_order/labelsinorder/Comparison;"⟩ : MethodName)) hown (mvT hZ (hw _ (List.mem_of_getElem? (i := 1) rfl))) (mvT hZ (hw _ (List.mem_of_getElem? (i := 2) rfl))) (mvT hZ (hw _ (List.mem_of_getElem? (i := 3) rfl))) (mvT hZ (hw _ (List.mem_of_getElem? (i := 4) rfl))) (by decide) (backOf (W := 0) (rmP0 l Z a0 hw [] s0_ h0 n0 Z0 hp0) hZ (hw _ (List.mem_of_getElem? (i := 4) rfl)) (hw _ (List.mem_of_getElem? (i := 3) rfl)) (by decide) (by decide)) (g := (mkF m 9 #[.val (.int p0), .val (.int (0 : Int32)), .unset, .unset, .unset, .unset] [(.int (0 : Int32))])) rfl (by rw [hml]; rfl) (argsL := [(.int (0 : Int32))]) (rest := []) (lenOf own_pd4 rfl) rfl (by show 2 * 0 + _ ≤ _; exact Nat.le_of_eq rfl) (hb hby at_9) (fun _ _ => ⟨rfl, e0, (by decide : 0 + 0 ≤ _), (by decide : 0 + 0 ≤ _)⟩)
    dsimp only [Pt.U, Pt.locs, Pt.cells, Pt.slots] at X1 l1 y1 z1 st1 hQ1
    subst l1 y1 z1
    obtain ⟨rfl, N1q, e1⟩ := hQ1
    have N1 := Fr.app N0 N1q
    refine own_go (T' := T1) (g' := (mkF m 12 #[.val (.int p0), .val (.int (0 : Int32)), .unset, .unset, .unset, .unset] [(.ref s0_)])) (fun _ k => st1 _ k) ?_
    refine own_go (T' := T1) (g' := (mkF m 13 #[.val (.int p0), .val (.int (0 : Int32)), .val (.ref s0_), .unset, .unset, .unset] [])) (fun _ k => XS.astoreN X1.here hx rfl (hb hby at_12) rfl rfl (l' := #[.val (.int p0), .val (.int (0 : Int32)), .val (.ref s0_), .unset, .unset, .unset]) rfl k) ?_
    refine own_go (T' := T1) (g' := (mkF m 14 #[.val (.int p0), .val (.int (0 : Int32)), .val (.ref s0_), .unset, .unset, .unset] [(.ref s0_)])) (fun _ k => XS.aloadN X1.here hx rfl (hb hby at_13) rfl rfl k) ?_
    obtain ⟨cq2, kq2, q2a, q2b, q2c⟩ := isOf hZ e1 hp8
    obtain ⟨_, _, ⟨T2, L2, k2, n2⟩, -, X2, ⟨Lc2, hQ2, l2, y2, z2⟩, st2⟩ := X1.virtualBack hx (y := (⟨"com/example/labels_in_order/labelsinorder/Comparison", "written", "()Ljava/lang/String;"⟩ : MethodName)) (z := (⟨"com/example/labels_in_order/labelsinorder/Comparison", "written", "()Ljava/lang/String;"⟩ : MethodName)) hown (mvT hZ (hw _ (List.mem_of_getElem? (i := 8) rfl))) (mvT hZ (hw _ (List.mem_of_getElem? (i := 9) rfl))) (notFace_of_selects (args := #[]) (mvT hZ (hw _ (List.mem_of_getElem? (i := 11) rfl)))) (mvT hZ (hw _ (List.mem_of_getElem? (i := 11) rfl))) (mvT hZ (hw _ (List.mem_of_getElem? (i := 10) rfl))) (by decide) (backOf (W := 0) (rmW l Z a0 hw [] s0_ w0_ h0 n0 Z0 hp9) hZ (hw _ (List.mem_of_getElem? (i := 12) rfl)) (hw _ (List.mem_of_getElem? (i := 6) rfl)) (by decide) (by decide)) q2a q2c (g := (mkF m 14 #[.val (.int p0), .val (.int (0 : Int32)), .val (.ref s0_), .unset, .unset, .unset] [(.ref s0_)])) rfl (by rw [hml]; rfl) (Steps.refl _) (argsL := []) (rest := []) (lenOf own_pd5 rfl) rfl (by show 2 * 0 + _ ≤ _; exact Nat.le_of_eq rfl) (hb hby at_14) (fun _ _ => ⟨rfl, e1, (by decide : 0 + 0 ≤ _), (by decide : 0 + 0 ≤ _)⟩)
    dsimp only [Pt.U, Pt.locs, Pt.cells, Pt.slots] at X2 l2 y2 z2 st2 hQ2
    subst l2 y2 z2
    obtain ⟨rfl, N2q, e2⟩ := hQ2
    have N2 := Fr.app N1 N2q
    refine own_go (T' := T2) (g' := (mkF m 17 #[.val (.int p0), .val (.int (0 : Int32)), .val (.ref s0_), .unset, .unset, .unset] [(.ref w0_)])) (fun _ k => st2.trans k) ?_
    refine own_go (T' := T2) (g' := (mkF m 18 #[.val (.int p0), .val (.int (0 : Int32)), .val (.ref s0_), .val (.ref w0_), .unset, .unset] [])) (fun _ k => XS.astoreN X2.here hx rfl (hb hby at_17) rfl rfl (l' := #[.val (.int p0), .val (.int (0 : Int32)), .val (.ref s0_), .val (.ref w0_), .unset, .unset]) rfl k) ?_
    refine own_go (T' := T2) (g' := (mkF m 19 #[.val (.int p0), .val (.int (0 : Int32)), .val (.ref s0_), .val (.ref w0_), .unset, .unset] [(.ref w0_)])) (fun _ k => XS.aloadN X2.here hx rfl (hb hby at_18) rfl rfl k) ?_
    refine own_go (T' := T2) (g' := (mkF m 20 #[.val (.int p0), .val (.int (0 : Int32)), .val (.ref s0_), .val (.ref w0_), .unset, .unset] [(.int (0 : Int32)), (.ref w0_)])) (fun _ k => XS.iconst X2.here hx rfl (hb hby at_19) k) ?_
    obtain ⟨cq3, kq3, q3a, q3b, q3c⟩ := isOf hZ e2 hp10
    obtain ⟨_, _, ⟨T3, L3, k3, n3⟩, -, X3, ⟨Lc3, hQ3, l3, y3, z3⟩, st3⟩ := X2.virtualBack hx (y := (⟨"java/lang/String", "charAt", "(I)C"⟩ : MethodName)) (z := (⟨"java/lang/String", "charAt", "(I)C"⟩ : MethodName)) hown (mvT hZ (hw _ (List.mem_of_getElem? (i := 15) rfl))) (mvT hZ (hw _ (List.mem_of_getElem? (i := 16) rfl))) (notFace_of_selects (args := #[]) (mvT hZ (hw _ (List.mem_of_getElem? (i := 18) rfl)))) (mvT hZ (hw _ (List.mem_of_getElem? (i := 18) rfl))) (mvT hZ (hw _ (List.mem_of_getElem? (i := 17) rfl))) (by decide) (backOf (W := 0) (rmCha1 l Z a0 hw [] w0_ d0_ kk0 (61 : Int32) cs fm h0 n0 Z0 hp10 hp11 hp12 hp13 hp6 hp7 hh0 hh1) hZ (hw _ (List.mem_of_getElem? (i := 20) rfl)) (hw _ (List.mem_of_getElem? (i := 19) rfl)) (by decide) (by decide)) q3a q3c (g := (mkF m 20 #[.val (.int p0), .val (.int (0 : Int32)), .val (.ref s0_), .val (.ref w0_), .unset, .unset] [(.int (0 : Int32)), (.ref w0_)])) rfl (by rw [hml]; rfl) (Steps.refl _) (argsL := [(.int (0 : Int32))]) (rest := []) (lenOf own_pd6 rfl) rfl (by show 2 * 0 + _ ≤ _; exact Nat.le_of_eq rfl) (hb hby at_20) (fun _ _ => ⟨rfl, e2, (by decide : 0 + 0 ≤ _), (by decide : 0 + 0 ≤ _)⟩)
    dsimp only [Pt.U, Pt.locs, Pt.cells, Pt.slots] at X3 l3 y3 z3 st3 hQ3
    subst l3 y3 z3
    obtain ⟨rfl, N3q, e3⟩ := hQ3
    have N3 := Fr.app N2 N3q
    refine own_go (T' := T3) (g' := (mkF m 23 #[.val (.int p0), .val (.int (0 : Int32)), .val (.ref s0_), .val (.ref w0_), .unset, .unset] [(.int (own_cha1 w0_ d0_ kk0 (61 : Int32) cs fm))])) (fun _ k => st3.trans k) ?_
    refine own_go (T' := T3) (g' := (mkF m 25 #[.val (.int p0), .val (.int (0 : Int32)), .val (.ref s0_), .val (.ref w0_), .val (.int (own_cha1 w0_ d0_ kk0 (61 : Int32) cs fm)), .unset] [])) (fun _ k => XS.istore X3.here hx rfl (hb hby at_23) rfl (l' := #[.val (.int p0), .val (.int (0 : Int32)), .val (.ref s0_), .val (.ref w0_), .val (.int (own_cha1 w0_ d0_ kk0 (61 : Int32) cs fm)), .unset]) rfl k) ?_
    refine own_go (T' := T3) (g' := (mkF m 27 #[.val (.int p0), .val (.int (0 : Int32)), .val (.ref s0_), .val (.ref w0_), .val (.int (own_cha1 w0_ d0_ kk0 (61 : Int32) cs fm)), .unset] [(.int (own_cha1 w0_ d0_ kk0 (61 : Int32) cs fm))])) (fun _ k => XS.iload X3.here hx rfl (hb hby at_25) rfl k) ?_
    refine own_go (T' := T3) (g' := (mkF m 29 #[.val (.int p0), .val (.int (0 : Int32)), .val (.ref s0_), .val (.ref w0_), .val (.int (own_cha1 w0_ d0_ kk0 (61 : Int32) cs fm)), .unset] [(.int (60 : Int32)), (.int (own_cha1 w0_ d0_ kk0 (61 : Int32) cs fm))])) (fun _ k => XS.bipush X3.here hx rfl (hb hby at_27) k) ?_
    refine own_go (T' := T3) (g' := (mkF m 32 #[.val (.int p0), .val (.int (0 : Int32)), .val (.ref s0_), .val (.ref w0_), .val (.int (own_cha1 w0_ d0_ kk0 (61 : Int32) cs fm)), .unset] [])) (fun _ k => XS.icmpNo X3.here hx rfl (hb hby at_29) rfl (XT.ii_eq_f (by unfold own_cha1 own_lch1; decide)) k) ?_
    refine own_go (T' := T3) (g' := (mkF m 34 #[.val (.int p0), .val (.int (0 : Int32)), .val (.ref s0_), .val (.ref w0_), .val (.int (own_cha1 w0_ d0_ kk0 (61 : Int32) cs fm)), .unset] [(.int (own_cha1 w0_ d0_ kk0 (61 : Int32) cs fm))])) (fun _ k => XS.iload X3.here hx rfl (hb hby at_32) rfl k) ?_
    refine own_go (T' := T3) (g' := (mkF m 36 #[.val (.int p0), .val (.int (0 : Int32)), .val (.ref s0_), .val (.ref w0_), .val (.int (own_cha1 w0_ d0_ kk0 (61 : Int32) cs fm)), .unset] [(.int (62 : Int32)), (.int (own_cha1 w0_ d0_ kk0 (61 : Int32) cs fm))])) (fun _ k => XS.bipush X3.here hx rfl (hb hby at_34) k) ?_
    refine own_go (T' := T3) (g' := (mkF m 43 #[.val (.int p0), .val (.int (0 : Int32)), .val (.ref s0_), .val (.ref w0_), .val (.int (own_cha1 w0_ d0_ kk0 (61 : Int32) cs fm)), .unset] [])) (fun _ k => XS.icmpYes X3.here hx rfl (pc0 := 36) (pc' := 43) rfl (hb hby at_36) rfl (XT.ii_ne_t (by unfold own_cha1 own_lch1; decide)) (by decide) (by decide) k) ?_
    refine own_go (T' := T3) (g' := (mkF m 44 #[.val (.int p0), .val (.int (0 : Int32)), .val (.ref s0_), .val (.ref w0_), .val (.int (own_cha1 w0_ d0_ kk0 (61 : Int32) cs fm)), .unset] [(.int (0 : Int32))])) (fun _ k => XS.iconst X3.here hx rfl (hb hby at_43) k) ?_
    refine own_go (T' := T3) (g' := (mkF m 46 #[.val (.int p0), .val (.int (0 : Int32)), .val (.ref s0_), .val (.ref w0_), .val (.int (own_cha1 w0_ d0_ kk0 (61 : Int32) cs fm)), .val (.int (0 : Int32))] [])) (fun _ k => XS.istore X3.here hx rfl (hb hby at_44) rfl (l' := #[.val (.int p0), .val (.int (0 : Int32)), .val (.ref s0_), .val (.ref w0_), .val (.int (own_cha1 w0_ d0_ kk0 (61 : Int32) cs fm)), .val (.int (0 : Int32))]) rfl k) ?_
    refine own_go (T' := T3) (g' := (mkF m 47 #[.val (.int p0), .val (.int (0 : Int32)), .val (.ref s0_), .val (.ref w0_), .val (.int (own_cha1 w0_ d0_ kk0 (61 : Int32) cs fm)), .val (.int (0 : Int32))] [(.ref s0_)])) (fun _ k => XS.aloadN X3.here hx rfl (hb hby at_46) rfl rfl k) ?_
    obtain ⟨cq4, kq4, q4a, q4b, q4c⟩ := isOf hZ e3 hp8
    obtain ⟨_, _, ⟨T4, L4, k4, n4⟩, -, X4, ⟨Lc4, hQ4, l4, y4, z4⟩, st4⟩ := X3.virtualBack hx (y := (⟨"com/example/labels_in_order/labelsinorder/Comparison", "ordering", "()Z"⟩ : MethodName)) (z := (⟨"com/example/labels_in_order/labelsinorder/Comparison", "ordering", "()Z"⟩ : MethodName)) hown (mvT hZ (hw _ (List.mem_of_getElem? (i := 43) rfl))) (mvT hZ (hw _ (List.mem_of_getElem? (i := 44) rfl))) (notFace_of_selects (args := #[]) (mvT hZ (hw _ (List.mem_of_getElem? (i := 46) rfl)))) (mvT hZ (hw _ (List.mem_of_getElem? (i := 46) rfl))) (mvT hZ (hw _ (List.mem_of_getElem? (i := 45) rfl))) (by decide) (backOf (W := 0) (rmO l Z a0 hw [] s0_ s0_ s1_ h0 n0 Z0 hp0 hp1) hZ (hw _ (List.mem_of_getElem? (i := 47) rfl)) (hw _ (List.mem_of_getElem? (i := 6) rfl)) (by decide) (by decide)) q4a q4c (g := (mkF m 47 #[.val (.int p0), .val (.int (0 : Int32)), .val (.ref s0_), .val (.ref w0_), .val (.int (own_cha1 w0_ d0_ kk0 (61 : Int32) cs fm)), .val (.int (0 : Int32))] [(.ref s0_)])) rfl (by rw [hml]; rfl) (Steps.refl _) (argsL := []) (rest := []) (lenOf own_pd2 rfl) rfl (by show 2 * 0 + _ ≤ _; exact Nat.le_of_eq rfl) (hb hby at_47) (fun _ _ => ⟨rfl, e3, (by decide : 0 + 0 ≤ _), (by decide : 0 + 0 ≤ _)⟩)
    dsimp only [Pt.U, Pt.locs, Pt.cells, Pt.slots] at X4 l4 y4 z4 st4 hQ4
    subst l4 y4 z4
    obtain ⟨rfl, N4q, e4⟩ := hQ4
    have N4 := Fr.app N3 N4q
    refine own_go (T' := T4) (g' := (mkF m 50 #[.val (.int p0), .val (.int (0 : Int32)), .val (.ref s0_), .val (.ref w0_), .val (.int (own_cha1 w0_ d0_ kk0 (61 : Int32) cs fm)), .val (.int (0 : Int32))] [(.int (own_ord s0_ s0_ s1_))])) (fun _ k => st4.trans k) ?_
    refine own_go (T' := T4) (g' := (mkF m 52 #[.val (.int p0), .val (.int (0 : Int32)), .val (.ref s0_), .val (.ref w0_), .val (.int (own_cha1 w0_ d0_ kk0 (61 : Int32) cs fm)), .val (.int (0 : Int32))] [(.int (0 : Int32)), (.int (own_ord s0_ s0_ s1_))])) (fun _ k => XS.iload X4.here hx rfl (hb hby at_50) rfl k) ?_
    refine own_go (T' := T4) (g' := (mkF m 55 #[.val (.int p0), .val (.int (0 : Int32)), .val (.ref s0_), .val (.ref w0_), .val (.int (own_cha1 w0_ d0_ kk0 (61 : Int32) cs fm)), .val (.int (0 : Int32))] [])) (fun _ k => XS.icmpNo X4.here hx rfl (hb hby at_52) rfl (XT.ii_ne_f (by unfold own_ord; simp [])) k) ?_
    refine own_go (T' := T4) (g' := (mkF m 56 #[.val (.int p0), .val (.int (0 : Int32)), .val (.ref s0_), .val (.ref w0_), .val (.int (own_cha1 w0_ d0_ kk0 (61 : Int32) cs fm)), .val (.int (0 : Int32))] [(.int (1 : Int32))])) (fun _ k => XS.iconst X4.here hx rfl (hb hby at_55) k) ?_
    refine own_go (T' := T4) (g' := (mkF m 60 #[.val (.int p0), .val (.int (0 : Int32)), .val (.ref s0_), .val (.ref w0_), .val (.int (own_cha1 w0_ d0_ kk0 (61 : Int32) cs fm)), .val (.int (0 : Int32))] [(.int (1 : Int32))])) (fun _ k => XS.goto X4.here hx rfl (pc0 := 56) (pc' := 60) rfl (hb hby at_56) (by decide) (by decide) k) ?_
    exact own_retN X4 hx (t := .boolean) Bd.returns hlk (by simp) (hb hby at_60) e4 ⟨rfl, N4⟩ (by decide) (by decide)
  · skip
    refine own_go (T' := s₁) (g' := (mkF m 8 #[.val (.int p0), .val (.int (1 : Int32)), .unset, .unset, .unset, .unset] [])) (fun _ k => castTop (by rw [hk]) k) ?_
    refine own_go (T' := s₁) (g' := (mkF m 9 #[.val (.int p0), .val (.int (1 : Int32)), .unset, .unset, .unset, .unset] [(.int (1 : Int32))])) (fun _ k => XS.iloadN X0.here hx rfl (hb hby at_8) rfl k) ?_
    obtain ⟨_, _, ⟨T5, L5, k5, n5⟩, -, X5, ⟨Lc5, hQ5, l5, y5, z5⟩, st5⟩ := Jvm.LawKit.callS X0 hx (y := (⟨"com/example/labels_in_order/labelsinorder/ComparisonOrderingPinLaw", "pick", "(I)Lcom/example/labels_in_order/labelsinorder/Comparison;"⟩ : MethodName)) hown (mvT hZ (hw _ (List.mem_of_getElem? (i := 1) rfl))) (mvT hZ (hw _ (List.mem_of_getElem? (i := 2) rfl))) (mvT hZ (hw _ (List.mem_of_getElem? (i := 3) rfl))) (mvT hZ (hw _ (List.mem_of_getElem? (i := 4) rfl))) (by decide) (backOf (W := 0) (rmP1 l Z a0 hw [] s1_ h0 n0 Z0 hp1) hZ (hw _ (List.mem_of_getElem? (i := 4) rfl)) (hw _ (List.mem_of_getElem? (i := 3) rfl)) (by decide) (by decide)) (g := (mkF m 9 #[.val (.int p0), .val (.int (1 : Int32)), .unset, .unset, .unset, .unset] [(.int (1 : Int32))])) rfl (by rw [hml]; rfl) (argsL := [(.int (1 : Int32))]) (rest := []) (lenOf own_pd4 rfl) rfl (by show 2 * 0 + _ ≤ _; exact Nat.le_of_eq rfl) (hb hby at_9) (fun _ _ => ⟨rfl, e0, (by decide : 0 + 0 ≤ _), (by decide : 0 + 0 ≤ _)⟩)
    dsimp only [Pt.U, Pt.locs, Pt.cells, Pt.slots] at X5 l5 y5 z5 st5 hQ5
    subst l5 y5 z5
    obtain ⟨rfl, N5q, e5⟩ := hQ5
    have N5 := Fr.app N0 N5q
    refine own_go (T' := T5) (g' := (mkF m 12 #[.val (.int p0), .val (.int (1 : Int32)), .unset, .unset, .unset, .unset] [(.ref s1_)])) (fun _ k => st5 _ k) ?_
    refine own_go (T' := T5) (g' := (mkF m 13 #[.val (.int p0), .val (.int (1 : Int32)), .val (.ref s1_), .unset, .unset, .unset] [])) (fun _ k => XS.astoreN X5.here hx rfl (hb hby at_12) rfl rfl (l' := #[.val (.int p0), .val (.int (1 : Int32)), .val (.ref s1_), .unset, .unset, .unset]) rfl k) ?_
    refine own_go (T' := T5) (g' := (mkF m 14 #[.val (.int p0), .val (.int (1 : Int32)), .val (.ref s1_), .unset, .unset, .unset] [(.ref s1_)])) (fun _ k => XS.aloadN X5.here hx rfl (hb hby at_13) rfl rfl k) ?_
    obtain ⟨cq6, kq6, q6a, q6b, q6c⟩ := isOf hZ e5 hp14
    obtain ⟨_, _, ⟨T6, L6, k6, n6⟩, -, X6, ⟨Lc6, hQ6, l6, y6, z6⟩, st6⟩ := X5.virtualBack hx (y := (⟨"com/example/labels_in_order/labelsinorder/Comparison", "written", "()Ljava/lang/String;"⟩ : MethodName)) (z := (⟨"com/example/labels_in_order/labelsinorder/Comparison", "written", "()Ljava/lang/String;"⟩ : MethodName)) hown (mvT hZ (hw _ (List.mem_of_getElem? (i := 8) rfl))) (mvT hZ (hw _ (List.mem_of_getElem? (i := 9) rfl))) (notFace_of_selects (args := #[]) (mvT hZ (hw _ (List.mem_of_getElem? (i := 11) rfl)))) (mvT hZ (hw _ (List.mem_of_getElem? (i := 11) rfl))) (mvT hZ (hw _ (List.mem_of_getElem? (i := 10) rfl))) (by decide) (backOf (W := 0) (rmW l Z a0 hw [] s1_ w1_ h0 n0 Z0 hp15) hZ (hw _ (List.mem_of_getElem? (i := 12) rfl)) (hw _ (List.mem_of_getElem? (i := 6) rfl)) (by decide) (by decide)) q6a q6c (g := (mkF m 14 #[.val (.int p0), .val (.int (1 : Int32)), .val (.ref s1_), .unset, .unset, .unset] [(.ref s1_)])) rfl (by rw [hml]; rfl) (Steps.refl _) (argsL := []) (rest := []) (lenOf own_pd5 rfl) rfl (by show 2 * 0 + _ ≤ _; exact Nat.le_of_eq rfl) (hb hby at_14) (fun _ _ => ⟨rfl, e5, (by decide : 0 + 0 ≤ _), (by decide : 0 + 0 ≤ _)⟩)
    dsimp only [Pt.U, Pt.locs, Pt.cells, Pt.slots] at X6 l6 y6 z6 st6 hQ6
    subst l6 y6 z6
    obtain ⟨rfl, N6q, e6⟩ := hQ6
    have N6 := Fr.app N5 N6q
    refine own_go (T' := T6) (g' := (mkF m 17 #[.val (.int p0), .val (.int (1 : Int32)), .val (.ref s1_), .unset, .unset, .unset] [(.ref w1_)])) (fun _ k => st6.trans k) ?_
    refine own_go (T' := T6) (g' := (mkF m 18 #[.val (.int p0), .val (.int (1 : Int32)), .val (.ref s1_), .val (.ref w1_), .unset, .unset] [])) (fun _ k => XS.astoreN X6.here hx rfl (hb hby at_17) rfl rfl (l' := #[.val (.int p0), .val (.int (1 : Int32)), .val (.ref s1_), .val (.ref w1_), .unset, .unset]) rfl k) ?_
    refine own_go (T' := T6) (g' := (mkF m 19 #[.val (.int p0), .val (.int (1 : Int32)), .val (.ref s1_), .val (.ref w1_), .unset, .unset] [(.ref w1_)])) (fun _ k => XS.aloadN X6.here hx rfl (hb hby at_18) rfl rfl k) ?_
    refine own_go (T' := T6) (g' := (mkF m 20 #[.val (.int p0), .val (.int (1 : Int32)), .val (.ref s1_), .val (.ref w1_), .unset, .unset] [(.int (0 : Int32)), (.ref w1_)])) (fun _ k => XS.iconst X6.here hx rfl (hb hby at_19) k) ?_
    obtain ⟨cq7, kq7, q7a, q7b, q7c⟩ := isOf hZ e6 hp16
    obtain ⟨_, _, ⟨T7, L7, k7, n7⟩, -, X7, ⟨Lc7, hQ7, l7, y7, z7⟩, st7⟩ := X6.virtualBack hx (y := (⟨"java/lang/String", "charAt", "(I)C"⟩ : MethodName)) (z := (⟨"java/lang/String", "charAt", "(I)C"⟩ : MethodName)) hown (mvT hZ (hw _ (List.mem_of_getElem? (i := 15) rfl))) (mvT hZ (hw _ (List.mem_of_getElem? (i := 16) rfl))) (notFace_of_selects (args := #[]) (mvT hZ (hw _ (List.mem_of_getElem? (i := 18) rfl)))) (mvT hZ (hw _ (List.mem_of_getElem? (i := 18) rfl))) (mvT hZ (hw _ (List.mem_of_getElem? (i := 17) rfl))) (by decide) (backOf (W := 0) (rmCha2 l Z a0 hw [] w1_ d1_ kk1 (33 : Int32) (61 : Int32) cs fm h0 n0 Z0 hp16 hp17 hp18 hp19 hp6 hp7 hh0 hh1) hZ (hw _ (List.mem_of_getElem? (i := 20) rfl)) (hw _ (List.mem_of_getElem? (i := 19) rfl)) (by decide) (by decide)) q7a q7c (g := (mkF m 20 #[.val (.int p0), .val (.int (1 : Int32)), .val (.ref s1_), .val (.ref w1_), .unset, .unset] [(.int (0 : Int32)), (.ref w1_)])) rfl (by rw [hml]; rfl) (Steps.refl _) (argsL := [(.int (0 : Int32))]) (rest := []) (lenOf own_pd6 rfl) rfl (by show 2 * 0 + _ ≤ _; exact Nat.le_of_eq rfl) (hb hby at_20) (fun _ _ => ⟨rfl, e6, (by decide : 0 + 0 ≤ _), (by decide : 0 + 0 ≤ _)⟩)
    dsimp only [Pt.U, Pt.locs, Pt.cells, Pt.slots] at X7 l7 y7 z7 st7 hQ7
    subst l7 y7 z7
    obtain ⟨rfl, N7q, e7⟩ := hQ7
    have N7 := Fr.app N6 N7q
    refine own_go (T' := T7) (g' := (mkF m 23 #[.val (.int p0), .val (.int (1 : Int32)), .val (.ref s1_), .val (.ref w1_), .unset, .unset] [(.int (own_cha2 w1_ d1_ kk1 (33 : Int32) (61 : Int32) cs fm))])) (fun _ k => st7.trans k) ?_
    refine own_go (T' := T7) (g' := (mkF m 25 #[.val (.int p0), .val (.int (1 : Int32)), .val (.ref s1_), .val (.ref w1_), .val (.int (own_cha2 w1_ d1_ kk1 (33 : Int32) (61 : Int32) cs fm)), .unset] [])) (fun _ k => XS.istore X7.here hx rfl (hb hby at_23) rfl (l' := #[.val (.int p0), .val (.int (1 : Int32)), .val (.ref s1_), .val (.ref w1_), .val (.int (own_cha2 w1_ d1_ kk1 (33 : Int32) (61 : Int32) cs fm)), .unset]) rfl k) ?_
    refine own_go (T' := T7) (g' := (mkF m 27 #[.val (.int p0), .val (.int (1 : Int32)), .val (.ref s1_), .val (.ref w1_), .val (.int (own_cha2 w1_ d1_ kk1 (33 : Int32) (61 : Int32) cs fm)), .unset] [(.int (own_cha2 w1_ d1_ kk1 (33 : Int32) (61 : Int32) cs fm))])) (fun _ k => XS.iload X7.here hx rfl (hb hby at_25) rfl k) ?_
    refine own_go (T' := T7) (g' := (mkF m 29 #[.val (.int p0), .val (.int (1 : Int32)), .val (.ref s1_), .val (.ref w1_), .val (.int (own_cha2 w1_ d1_ kk1 (33 : Int32) (61 : Int32) cs fm)), .unset] [(.int (60 : Int32)), (.int (own_cha2 w1_ d1_ kk1 (33 : Int32) (61 : Int32) cs fm))])) (fun _ k => XS.bipush X7.here hx rfl (hb hby at_27) k) ?_
    refine own_go (T' := T7) (g' := (mkF m 32 #[.val (.int p0), .val (.int (1 : Int32)), .val (.ref s1_), .val (.ref w1_), .val (.int (own_cha2 w1_ d1_ kk1 (33 : Int32) (61 : Int32) cs fm)), .unset] [])) (fun _ k => XS.icmpNo X7.here hx rfl (hb hby at_29) rfl (XT.ii_eq_f (by unfold own_cha2 own_lch2; decide)) k) ?_
    refine own_go (T' := T7) (g' := (mkF m 34 #[.val (.int p0), .val (.int (1 : Int32)), .val (.ref s1_), .val (.ref w1_), .val (.int (own_cha2 w1_ d1_ kk1 (33 : Int32) (61 : Int32) cs fm)), .unset] [(.int (own_cha2 w1_ d1_ kk1 (33 : Int32) (61 : Int32) cs fm))])) (fun _ k => XS.iload X7.here hx rfl (hb hby at_32) rfl k) ?_
    refine own_go (T' := T7) (g' := (mkF m 36 #[.val (.int p0), .val (.int (1 : Int32)), .val (.ref s1_), .val (.ref w1_), .val (.int (own_cha2 w1_ d1_ kk1 (33 : Int32) (61 : Int32) cs fm)), .unset] [(.int (62 : Int32)), (.int (own_cha2 w1_ d1_ kk1 (33 : Int32) (61 : Int32) cs fm))])) (fun _ k => XS.bipush X7.here hx rfl (hb hby at_34) k) ?_
    refine own_go (T' := T7) (g' := (mkF m 43 #[.val (.int p0), .val (.int (1 : Int32)), .val (.ref s1_), .val (.ref w1_), .val (.int (own_cha2 w1_ d1_ kk1 (33 : Int32) (61 : Int32) cs fm)), .unset] [])) (fun _ k => XS.icmpYes X7.here hx rfl (pc0 := 36) (pc' := 43) rfl (hb hby at_36) rfl (XT.ii_ne_t (by unfold own_cha2 own_lch2; decide)) (by decide) (by decide) k) ?_
    refine own_go (T' := T7) (g' := (mkF m 44 #[.val (.int p0), .val (.int (1 : Int32)), .val (.ref s1_), .val (.ref w1_), .val (.int (own_cha2 w1_ d1_ kk1 (33 : Int32) (61 : Int32) cs fm)), .unset] [(.int (0 : Int32))])) (fun _ k => XS.iconst X7.here hx rfl (hb hby at_43) k) ?_
    refine own_go (T' := T7) (g' := (mkF m 46 #[.val (.int p0), .val (.int (1 : Int32)), .val (.ref s1_), .val (.ref w1_), .val (.int (own_cha2 w1_ d1_ kk1 (33 : Int32) (61 : Int32) cs fm)), .val (.int (0 : Int32))] [])) (fun _ k => XS.istore X7.here hx rfl (hb hby at_44) rfl (l' := #[.val (.int p0), .val (.int (1 : Int32)), .val (.ref s1_), .val (.ref w1_), .val (.int (own_cha2 w1_ d1_ kk1 (33 : Int32) (61 : Int32) cs fm)), .val (.int (0 : Int32))]) rfl k) ?_
    refine own_go (T' := T7) (g' := (mkF m 47 #[.val (.int p0), .val (.int (1 : Int32)), .val (.ref s1_), .val (.ref w1_), .val (.int (own_cha2 w1_ d1_ kk1 (33 : Int32) (61 : Int32) cs fm)), .val (.int (0 : Int32))] [(.ref s1_)])) (fun _ k => XS.aloadN X7.here hx rfl (hb hby at_46) rfl rfl k) ?_
    obtain ⟨cq8, kq8, q8a, q8b, q8c⟩ := isOf hZ e7 hp14
    obtain ⟨_, _, ⟨T8, L8, k8, n8⟩, -, X8, ⟨Lc8, hQ8, l8, y8, z8⟩, st8⟩ := X7.virtualBack hx (y := (⟨"com/example/labels_in_order/labelsinorder/Comparison", "ordering", "()Z"⟩ : MethodName)) (z := (⟨"com/example/labels_in_order/labelsinorder/Comparison", "ordering", "()Z"⟩ : MethodName)) hown (mvT hZ (hw _ (List.mem_of_getElem? (i := 43) rfl))) (mvT hZ (hw _ (List.mem_of_getElem? (i := 44) rfl))) (notFace_of_selects (args := #[]) (mvT hZ (hw _ (List.mem_of_getElem? (i := 46) rfl)))) (mvT hZ (hw _ (List.mem_of_getElem? (i := 46) rfl))) (mvT hZ (hw _ (List.mem_of_getElem? (i := 45) rfl))) (by decide) (backOf (W := 0) (rmO l Z a0 hw [] s1_ s0_ s1_ h0 n0 Z0 hp0 hp1) hZ (hw _ (List.mem_of_getElem? (i := 47) rfl)) (hw _ (List.mem_of_getElem? (i := 6) rfl)) (by decide) (by decide)) q8a q8c (g := (mkF m 47 #[.val (.int p0), .val (.int (1 : Int32)), .val (.ref s1_), .val (.ref w1_), .val (.int (own_cha2 w1_ d1_ kk1 (33 : Int32) (61 : Int32) cs fm)), .val (.int (0 : Int32))] [(.ref s1_)])) rfl (by rw [hml]; rfl) (Steps.refl _) (argsL := []) (rest := []) (lenOf own_pd2 rfl) rfl (by show 2 * 0 + _ ≤ _; exact Nat.le_of_eq rfl) (hb hby at_47) (fun _ _ => ⟨rfl, e7, (by decide : 0 + 0 ≤ _), (by decide : 0 + 0 ≤ _)⟩)
    dsimp only [Pt.U, Pt.locs, Pt.cells, Pt.slots] at X8 l8 y8 z8 st8 hQ8
    subst l8 y8 z8
    obtain ⟨rfl, N8q, e8⟩ := hQ8
    have N8 := Fr.app N7 N8q
    refine own_go (T' := T8) (g' := (mkF m 50 #[.val (.int p0), .val (.int (1 : Int32)), .val (.ref s1_), .val (.ref w1_), .val (.int (own_cha2 w1_ d1_ kk1 (33 : Int32) (61 : Int32) cs fm)), .val (.int (0 : Int32))] [(.int (own_ord s1_ s0_ s1_))])) (fun _ k => st8.trans k) ?_
    refine own_go (T' := T8) (g' := (mkF m 52 #[.val (.int p0), .val (.int (1 : Int32)), .val (.ref s1_), .val (.ref w1_), .val (.int (own_cha2 w1_ d1_ kk1 (33 : Int32) (61 : Int32) cs fm)), .val (.int (0 : Int32))] [(.int (0 : Int32)), (.int (own_ord s1_ s0_ s1_))])) (fun _ k => XS.iload X8.here hx rfl (hb hby at_50) rfl k) ?_
    refine own_go (T' := T8) (g' := (mkF m 55 #[.val (.int p0), .val (.int (1 : Int32)), .val (.ref s1_), .val (.ref w1_), .val (.int (own_cha2 w1_ d1_ kk1 (33 : Int32) (61 : Int32) cs fm)), .val (.int (0 : Int32))] [])) (fun _ k => XS.icmpNo X8.here hx rfl (hb hby at_52) rfl (XT.ii_ne_f (by unfold own_ord; simp [])) k) ?_
    refine own_go (T' := T8) (g' := (mkF m 56 #[.val (.int p0), .val (.int (1 : Int32)), .val (.ref s1_), .val (.ref w1_), .val (.int (own_cha2 w1_ d1_ kk1 (33 : Int32) (61 : Int32) cs fm)), .val (.int (0 : Int32))] [(.int (1 : Int32))])) (fun _ k => XS.iconst X8.here hx rfl (hb hby at_55) k) ?_
    refine own_go (T' := T8) (g' := (mkF m 60 #[.val (.int p0), .val (.int (1 : Int32)), .val (.ref s1_), .val (.ref w1_), .val (.int (own_cha2 w1_ d1_ kk1 (33 : Int32) (61 : Int32) cs fm)), .val (.int (0 : Int32))] [(.int (1 : Int32))])) (fun _ k => XS.goto X8.here hx rfl (pc0 := 56) (pc' := 60) rfl (hb hby at_56) (by decide) (by decide) k) ?_
    exact own_retN X8 hx (t := .boolean) Bd.returns hlk (by simp) (hb hby at_60) e8 ⟨rfl, N8⟩ (by decide) (by decide)
  · skip
    refine own_go (T' := s₁) (g' := (mkF m 8 #[.val (.int p0), .val (.int (2 : Int32)), .unset, .unset, .unset, .unset] [])) (fun _ k => castTop (by rw [hk]) k) ?_
    refine own_go (T' := s₁) (g' := (mkF m 9 #[.val (.int p0), .val (.int (2 : Int32)), .unset, .unset, .unset, .unset] [(.int (2 : Int32))])) (fun _ k => XS.iloadN X0.here hx rfl (hb hby at_8) rfl k) ?_
    obtain ⟨_, _, ⟨T9, L9, k9, n9⟩, -, X9, ⟨Lc9, hQ9, l9, y9, z9⟩, st9⟩ := Jvm.LawKit.callS X0 hx (y := (⟨"com/example/labels_in_order/labelsinorder/ComparisonOrderingPinLaw", "pick", "(I)Lcom/example/labels_in_order/labelsinorder/Comparison;"⟩ : MethodName)) hown (mvT hZ (hw _ (List.mem_of_getElem? (i := 1) rfl))) (mvT hZ (hw _ (List.mem_of_getElem? (i := 2) rfl))) (mvT hZ (hw _ (List.mem_of_getElem? (i := 3) rfl))) (mvT hZ (hw _ (List.mem_of_getElem? (i := 4) rfl))) (by decide) (backOf (W := 0) (rmP2 l Z a0 hw [] s2_ h0 n0 Z0 hp2) hZ (hw _ (List.mem_of_getElem? (i := 4) rfl)) (hw _ (List.mem_of_getElem? (i := 3) rfl)) (by decide) (by decide)) (g := (mkF m 9 #[.val (.int p0), .val (.int (2 : Int32)), .unset, .unset, .unset, .unset] [(.int (2 : Int32))])) rfl (by rw [hml]; rfl) (argsL := [(.int (2 : Int32))]) (rest := []) (lenOf own_pd4 rfl) rfl (by show 2 * 0 + _ ≤ _; exact Nat.le_of_eq rfl) (hb hby at_9) (fun _ _ => ⟨rfl, e0, (by decide : 0 + 0 ≤ _), (by decide : 0 + 0 ≤ _)⟩)
    dsimp only [Pt.U, Pt.locs, Pt.cells, Pt.slots] at X9 l9 y9 z9 st9 hQ9
    subst l9 y9 z9
    obtain ⟨rfl, N9q, e9⟩ := hQ9
    have N9 := Fr.app N0 N9q
    refine own_go (T' := T9) (g' := (mkF m 12 #[.val (.int p0), .val (.int (2 : Int32)), .unset, .unset, .unset, .unset] [(.ref s2_)])) (fun _ k => st9 _ k) ?_
    refine own_go (T' := T9) (g' := (mkF m 13 #[.val (.int p0), .val (.int (2 : Int32)), .val (.ref s2_), .unset, .unset, .unset] [])) (fun _ k => XS.astoreN X9.here hx rfl (hb hby at_12) rfl rfl (l' := #[.val (.int p0), .val (.int (2 : Int32)), .val (.ref s2_), .unset, .unset, .unset]) rfl k) ?_
    refine own_go (T' := T9) (g' := (mkF m 14 #[.val (.int p0), .val (.int (2 : Int32)), .val (.ref s2_), .unset, .unset, .unset] [(.ref s2_)])) (fun _ k => XS.aloadN X9.here hx rfl (hb hby at_13) rfl rfl k) ?_
    obtain ⟨cq10, kq10, q10a, q10b, q10c⟩ := isOf hZ e9 hp20
    obtain ⟨_, _, ⟨T10, L10, k10, n10⟩, -, X10, ⟨Lc10, hQ10, l10, y10, z10⟩, st10⟩ := X9.virtualBack hx (y := (⟨"com/example/labels_in_order/labelsinorder/Comparison", "written", "()Ljava/lang/String;"⟩ : MethodName)) (z := (⟨"com/example/labels_in_order/labelsinorder/Comparison", "written", "()Ljava/lang/String;"⟩ : MethodName)) hown (mvT hZ (hw _ (List.mem_of_getElem? (i := 8) rfl))) (mvT hZ (hw _ (List.mem_of_getElem? (i := 9) rfl))) (notFace_of_selects (args := #[]) (mvT hZ (hw _ (List.mem_of_getElem? (i := 11) rfl)))) (mvT hZ (hw _ (List.mem_of_getElem? (i := 11) rfl))) (mvT hZ (hw _ (List.mem_of_getElem? (i := 10) rfl))) (by decide) (backOf (W := 0) (rmW l Z a0 hw [] s2_ w2_ h0 n0 Z0 hp21) hZ (hw _ (List.mem_of_getElem? (i := 12) rfl)) (hw _ (List.mem_of_getElem? (i := 6) rfl)) (by decide) (by decide)) q10a q10c (g := (mkF m 14 #[.val (.int p0), .val (.int (2 : Int32)), .val (.ref s2_), .unset, .unset, .unset] [(.ref s2_)])) rfl (by rw [hml]; rfl) (Steps.refl _) (argsL := []) (rest := []) (lenOf own_pd5 rfl) rfl (by show 2 * 0 + _ ≤ _; exact Nat.le_of_eq rfl) (hb hby at_14) (fun _ _ => ⟨rfl, e9, (by decide : 0 + 0 ≤ _), (by decide : 0 + 0 ≤ _)⟩)
    dsimp only [Pt.U, Pt.locs, Pt.cells, Pt.slots] at X10 l10 y10 z10 st10 hQ10
    subst l10 y10 z10
    obtain ⟨rfl, N10q, e10⟩ := hQ10
    have N10 := Fr.app N9 N10q
    refine own_go (T' := T10) (g' := (mkF m 17 #[.val (.int p0), .val (.int (2 : Int32)), .val (.ref s2_), .unset, .unset, .unset] [(.ref w2_)])) (fun _ k => st10.trans k) ?_
    refine own_go (T' := T10) (g' := (mkF m 18 #[.val (.int p0), .val (.int (2 : Int32)), .val (.ref s2_), .val (.ref w2_), .unset, .unset] [])) (fun _ k => XS.astoreN X10.here hx rfl (hb hby at_17) rfl rfl (l' := #[.val (.int p0), .val (.int (2 : Int32)), .val (.ref s2_), .val (.ref w2_), .unset, .unset]) rfl k) ?_
    refine own_go (T' := T10) (g' := (mkF m 19 #[.val (.int p0), .val (.int (2 : Int32)), .val (.ref s2_), .val (.ref w2_), .unset, .unset] [(.ref w2_)])) (fun _ k => XS.aloadN X10.here hx rfl (hb hby at_18) rfl rfl k) ?_
    refine own_go (T' := T10) (g' := (mkF m 20 #[.val (.int p0), .val (.int (2 : Int32)), .val (.ref s2_), .val (.ref w2_), .unset, .unset] [(.int (0 : Int32)), (.ref w2_)])) (fun _ k => XS.iconst X10.here hx rfl (hb hby at_19) k) ?_
    obtain ⟨cq11, kq11, q11a, q11b, q11c⟩ := isOf hZ e10 hp22
    obtain ⟨_, _, ⟨T11, L11, k11, n11⟩, -, X11, ⟨Lc11, hQ11, l11, y11, z11⟩, st11⟩ := X10.virtualBack hx (y := (⟨"java/lang/String", "charAt", "(I)C"⟩ : MethodName)) (z := (⟨"java/lang/String", "charAt", "(I)C"⟩ : MethodName)) hown (mvT hZ (hw _ (List.mem_of_getElem? (i := 15) rfl))) (mvT hZ (hw _ (List.mem_of_getElem? (i := 16) rfl))) (notFace_of_selects (args := #[]) (mvT hZ (hw _ (List.mem_of_getElem? (i := 18) rfl)))) (mvT hZ (hw _ (List.mem_of_getElem? (i := 18) rfl))) (mvT hZ (hw _ (List.mem_of_getElem? (i := 17) rfl))) (by decide) (backOf (W := 0) (rmCha1 l Z a0 hw [] w2_ d2_ kk2 (60 : Int32) cs fm h0 n0 Z0 hp22 hp23 hp24 hp25 hp6 hp7 hh0 hh1) hZ (hw _ (List.mem_of_getElem? (i := 20) rfl)) (hw _ (List.mem_of_getElem? (i := 19) rfl)) (by decide) (by decide)) q11a q11c (g := (mkF m 20 #[.val (.int p0), .val (.int (2 : Int32)), .val (.ref s2_), .val (.ref w2_), .unset, .unset] [(.int (0 : Int32)), (.ref w2_)])) rfl (by rw [hml]; rfl) (Steps.refl _) (argsL := [(.int (0 : Int32))]) (rest := []) (lenOf own_pd6 rfl) rfl (by show 2 * 0 + _ ≤ _; exact Nat.le_of_eq rfl) (hb hby at_20) (fun _ _ => ⟨rfl, e10, (by decide : 0 + 0 ≤ _), (by decide : 0 + 0 ≤ _)⟩)
    dsimp only [Pt.U, Pt.locs, Pt.cells, Pt.slots] at X11 l11 y11 z11 st11 hQ11
    subst l11 y11 z11
    obtain ⟨rfl, N11q, e11⟩ := hQ11
    have N11 := Fr.app N10 N11q
    refine own_go (T' := T11) (g' := (mkF m 23 #[.val (.int p0), .val (.int (2 : Int32)), .val (.ref s2_), .val (.ref w2_), .unset, .unset] [(.int (own_cha1 w2_ d2_ kk2 (60 : Int32) cs fm))])) (fun _ k => st11.trans k) ?_
    refine own_go (T' := T11) (g' := (mkF m 25 #[.val (.int p0), .val (.int (2 : Int32)), .val (.ref s2_), .val (.ref w2_), .val (.int (own_cha1 w2_ d2_ kk2 (60 : Int32) cs fm)), .unset] [])) (fun _ k => XS.istore X11.here hx rfl (hb hby at_23) rfl (l' := #[.val (.int p0), .val (.int (2 : Int32)), .val (.ref s2_), .val (.ref w2_), .val (.int (own_cha1 w2_ d2_ kk2 (60 : Int32) cs fm)), .unset]) rfl k) ?_
    refine own_go (T' := T11) (g' := (mkF m 27 #[.val (.int p0), .val (.int (2 : Int32)), .val (.ref s2_), .val (.ref w2_), .val (.int (own_cha1 w2_ d2_ kk2 (60 : Int32) cs fm)), .unset] [(.int (own_cha1 w2_ d2_ kk2 (60 : Int32) cs fm))])) (fun _ k => XS.iload X11.here hx rfl (hb hby at_25) rfl k) ?_
    refine own_go (T' := T11) (g' := (mkF m 29 #[.val (.int p0), .val (.int (2 : Int32)), .val (.ref s2_), .val (.ref w2_), .val (.int (own_cha1 w2_ d2_ kk2 (60 : Int32) cs fm)), .unset] [(.int (60 : Int32)), (.int (own_cha1 w2_ d2_ kk2 (60 : Int32) cs fm))])) (fun _ k => XS.bipush X11.here hx rfl (hb hby at_27) k) ?_
    refine own_go (T' := T11) (g' := (mkF m 39 #[.val (.int p0), .val (.int (2 : Int32)), .val (.ref s2_), .val (.ref w2_), .val (.int (own_cha1 w2_ d2_ kk2 (60 : Int32) cs fm)), .unset] [])) (fun _ k => XS.icmpYes X11.here hx rfl (pc0 := 29) (pc' := 39) rfl (hb hby at_29) rfl (XT.ii_eq_t (by unfold own_cha1 own_lch1; decide)) (by decide) (by decide) k) ?_
    refine own_go (T' := T11) (g' := (mkF m 40 #[.val (.int p0), .val (.int (2 : Int32)), .val (.ref s2_), .val (.ref w2_), .val (.int (own_cha1 w2_ d2_ kk2 (60 : Int32) cs fm)), .unset] [(.int (1 : Int32))])) (fun _ k => XS.iconst X11.here hx rfl (hb hby at_39) k) ?_
    refine own_go (T' := T11) (g' := (mkF m 44 #[.val (.int p0), .val (.int (2 : Int32)), .val (.ref s2_), .val (.ref w2_), .val (.int (own_cha1 w2_ d2_ kk2 (60 : Int32) cs fm)), .unset] [(.int (1 : Int32))])) (fun _ k => XS.goto X11.here hx rfl (pc0 := 40) (pc' := 44) rfl (hb hby at_40) (by decide) (by decide) k) ?_
    refine own_go (T' := T11) (g' := (mkF m 46 #[.val (.int p0), .val (.int (2 : Int32)), .val (.ref s2_), .val (.ref w2_), .val (.int (own_cha1 w2_ d2_ kk2 (60 : Int32) cs fm)), .val (.int (1 : Int32))] [])) (fun _ k => XS.istore X11.here hx rfl (hb hby at_44) rfl (l' := #[.val (.int p0), .val (.int (2 : Int32)), .val (.ref s2_), .val (.ref w2_), .val (.int (own_cha1 w2_ d2_ kk2 (60 : Int32) cs fm)), .val (.int (1 : Int32))]) rfl k) ?_
    refine own_go (T' := T11) (g' := (mkF m 47 #[.val (.int p0), .val (.int (2 : Int32)), .val (.ref s2_), .val (.ref w2_), .val (.int (own_cha1 w2_ d2_ kk2 (60 : Int32) cs fm)), .val (.int (1 : Int32))] [(.ref s2_)])) (fun _ k => XS.aloadN X11.here hx rfl (hb hby at_46) rfl rfl k) ?_
    obtain ⟨cq12, kq12, q12a, q12b, q12c⟩ := isOf hZ e11 hp20
    obtain ⟨_, _, ⟨T12, L12, k12, n12⟩, -, X12, ⟨Lc12, hQ12, l12, y12, z12⟩, st12⟩ := X11.virtualBack hx (y := (⟨"com/example/labels_in_order/labelsinorder/Comparison", "ordering", "()Z"⟩ : MethodName)) (z := (⟨"com/example/labels_in_order/labelsinorder/Comparison", "ordering", "()Z"⟩ : MethodName)) hown (mvT hZ (hw _ (List.mem_of_getElem? (i := 43) rfl))) (mvT hZ (hw _ (List.mem_of_getElem? (i := 44) rfl))) (notFace_of_selects (args := #[]) (mvT hZ (hw _ (List.mem_of_getElem? (i := 46) rfl)))) (mvT hZ (hw _ (List.mem_of_getElem? (i := 46) rfl))) (mvT hZ (hw _ (List.mem_of_getElem? (i := 45) rfl))) (by decide) (backOf (W := 0) (rmO l Z a0 hw [] s2_ s0_ s1_ h0 n0 Z0 hp0 hp1) hZ (hw _ (List.mem_of_getElem? (i := 47) rfl)) (hw _ (List.mem_of_getElem? (i := 6) rfl)) (by decide) (by decide)) q12a q12c (g := (mkF m 47 #[.val (.int p0), .val (.int (2 : Int32)), .val (.ref s2_), .val (.ref w2_), .val (.int (own_cha1 w2_ d2_ kk2 (60 : Int32) cs fm)), .val (.int (1 : Int32))] [(.ref s2_)])) rfl (by rw [hml]; rfl) (Steps.refl _) (argsL := []) (rest := []) (lenOf own_pd2 rfl) rfl (by show 2 * 0 + _ ≤ _; exact Nat.le_of_eq rfl) (hb hby at_47) (fun _ _ => ⟨rfl, e11, (by decide : 0 + 0 ≤ _), (by decide : 0 + 0 ≤ _)⟩)
    dsimp only [Pt.U, Pt.locs, Pt.cells, Pt.slots] at X12 l12 y12 z12 st12 hQ12
    subst l12 y12 z12
    obtain ⟨rfl, N12q, e12⟩ := hQ12
    have N12 := Fr.app N11 N12q
    refine own_go (T' := T12) (g' := (mkF m 50 #[.val (.int p0), .val (.int (2 : Int32)), .val (.ref s2_), .val (.ref w2_), .val (.int (own_cha1 w2_ d2_ kk2 (60 : Int32) cs fm)), .val (.int (1 : Int32))] [(.int (own_ord s2_ s0_ s1_))])) (fun _ k => st12.trans k) ?_
    refine own_go (T' := T12) (g' := (mkF m 52 #[.val (.int p0), .val (.int (2 : Int32)), .val (.ref s2_), .val (.ref w2_), .val (.int (own_cha1 w2_ d2_ kk2 (60 : Int32) cs fm)), .val (.int (1 : Int32))] [(.int (1 : Int32)), (.int (own_ord s2_ s0_ s1_))])) (fun _ k => XS.iload X12.here hx rfl (hb hby at_50) rfl k) ?_
    refine own_go (T' := T12) (g' := (mkF m 55 #[.val (.int p0), .val (.int (2 : Int32)), .val (.ref s2_), .val (.ref w2_), .val (.int (own_cha1 w2_ d2_ kk2 (60 : Int32) cs fm)), .val (.int (1 : Int32))] [])) (fun _ k => XS.icmpNo X12.here hx rfl (hb hby at_52) rfl (XT.ii_ne_f (by unfold own_ord; simp [hh2, hh3])) k) ?_
    refine own_go (T' := T12) (g' := (mkF m 56 #[.val (.int p0), .val (.int (2 : Int32)), .val (.ref s2_), .val (.ref w2_), .val (.int (own_cha1 w2_ d2_ kk2 (60 : Int32) cs fm)), .val (.int (1 : Int32))] [(.int (1 : Int32))])) (fun _ k => XS.iconst X12.here hx rfl (hb hby at_55) k) ?_
    refine own_go (T' := T12) (g' := (mkF m 60 #[.val (.int p0), .val (.int (2 : Int32)), .val (.ref s2_), .val (.ref w2_), .val (.int (own_cha1 w2_ d2_ kk2 (60 : Int32) cs fm)), .val (.int (1 : Int32))] [(.int (1 : Int32))])) (fun _ k => XS.goto X12.here hx rfl (pc0 := 56) (pc' := 60) rfl (hb hby at_56) (by decide) (by decide) k) ?_
    exact own_retN X12 hx (t := .boolean) Bd.returns hlk (by simp) (hb hby at_60) e12 ⟨rfl, N12⟩ (by decide) (by decide)
  · skip
    refine own_go (T' := s₁) (g' := (mkF m 8 #[.val (.int p0), .val (.int (3 : Int32)), .unset, .unset, .unset, .unset] [])) (fun _ k => castTop (by rw [hk]) k) ?_
    refine own_go (T' := s₁) (g' := (mkF m 9 #[.val (.int p0), .val (.int (3 : Int32)), .unset, .unset, .unset, .unset] [(.int (3 : Int32))])) (fun _ k => XS.iloadN X0.here hx rfl (hb hby at_8) rfl k) ?_
    obtain ⟨_, _, ⟨T13, L13, k13, n13⟩, -, X13, ⟨Lc13, hQ13, l13, y13, z13⟩, st13⟩ := Jvm.LawKit.callS X0 hx (y := (⟨"com/example/labels_in_order/labelsinorder/ComparisonOrderingPinLaw", "pick", "(I)Lcom/example/labels_in_order/labelsinorder/Comparison;"⟩ : MethodName)) hown (mvT hZ (hw _ (List.mem_of_getElem? (i := 1) rfl))) (mvT hZ (hw _ (List.mem_of_getElem? (i := 2) rfl))) (mvT hZ (hw _ (List.mem_of_getElem? (i := 3) rfl))) (mvT hZ (hw _ (List.mem_of_getElem? (i := 4) rfl))) (by decide) (backOf (W := 0) (rmP3 l Z a0 hw [] s3_ h0 n0 Z0 hp3) hZ (hw _ (List.mem_of_getElem? (i := 4) rfl)) (hw _ (List.mem_of_getElem? (i := 3) rfl)) (by decide) (by decide)) (g := (mkF m 9 #[.val (.int p0), .val (.int (3 : Int32)), .unset, .unset, .unset, .unset] [(.int (3 : Int32))])) rfl (by rw [hml]; rfl) (argsL := [(.int (3 : Int32))]) (rest := []) (lenOf own_pd4 rfl) rfl (by show 2 * 0 + _ ≤ _; exact Nat.le_of_eq rfl) (hb hby at_9) (fun _ _ => ⟨rfl, e0, (by decide : 0 + 0 ≤ _), (by decide : 0 + 0 ≤ _)⟩)
    dsimp only [Pt.U, Pt.locs, Pt.cells, Pt.slots] at X13 l13 y13 z13 st13 hQ13
    subst l13 y13 z13
    obtain ⟨rfl, N13q, e13⟩ := hQ13
    have N13 := Fr.app N0 N13q
    refine own_go (T' := T13) (g' := (mkF m 12 #[.val (.int p0), .val (.int (3 : Int32)), .unset, .unset, .unset, .unset] [(.ref s3_)])) (fun _ k => st13 _ k) ?_
    refine own_go (T' := T13) (g' := (mkF m 13 #[.val (.int p0), .val (.int (3 : Int32)), .val (.ref s3_), .unset, .unset, .unset] [])) (fun _ k => XS.astoreN X13.here hx rfl (hb hby at_12) rfl rfl (l' := #[.val (.int p0), .val (.int (3 : Int32)), .val (.ref s3_), .unset, .unset, .unset]) rfl k) ?_
    refine own_go (T' := T13) (g' := (mkF m 14 #[.val (.int p0), .val (.int (3 : Int32)), .val (.ref s3_), .unset, .unset, .unset] [(.ref s3_)])) (fun _ k => XS.aloadN X13.here hx rfl (hb hby at_13) rfl rfl k) ?_
    obtain ⟨cq14, kq14, q14a, q14b, q14c⟩ := isOf hZ e13 hp26
    obtain ⟨_, _, ⟨T14, L14, k14, n14⟩, -, X14, ⟨Lc14, hQ14, l14, y14, z14⟩, st14⟩ := X13.virtualBack hx (y := (⟨"com/example/labels_in_order/labelsinorder/Comparison", "written", "()Ljava/lang/String;"⟩ : MethodName)) (z := (⟨"com/example/labels_in_order/labelsinorder/Comparison", "written", "()Ljava/lang/String;"⟩ : MethodName)) hown (mvT hZ (hw _ (List.mem_of_getElem? (i := 8) rfl))) (mvT hZ (hw _ (List.mem_of_getElem? (i := 9) rfl))) (notFace_of_selects (args := #[]) (mvT hZ (hw _ (List.mem_of_getElem? (i := 11) rfl)))) (mvT hZ (hw _ (List.mem_of_getElem? (i := 11) rfl))) (mvT hZ (hw _ (List.mem_of_getElem? (i := 10) rfl))) (by decide) (backOf (W := 0) (rmW l Z a0 hw [] s3_ w3_ h0 n0 Z0 hp27) hZ (hw _ (List.mem_of_getElem? (i := 12) rfl)) (hw _ (List.mem_of_getElem? (i := 6) rfl)) (by decide) (by decide)) q14a q14c (g := (mkF m 14 #[.val (.int p0), .val (.int (3 : Int32)), .val (.ref s3_), .unset, .unset, .unset] [(.ref s3_)])) rfl (by rw [hml]; rfl) (Steps.refl _) (argsL := []) (rest := []) (lenOf own_pd5 rfl) rfl (by show 2 * 0 + _ ≤ _; exact Nat.le_of_eq rfl) (hb hby at_14) (fun _ _ => ⟨rfl, e13, (by decide : 0 + 0 ≤ _), (by decide : 0 + 0 ≤ _)⟩)
    dsimp only [Pt.U, Pt.locs, Pt.cells, Pt.slots] at X14 l14 y14 z14 st14 hQ14
    subst l14 y14 z14
    obtain ⟨rfl, N14q, e14⟩ := hQ14
    have N14 := Fr.app N13 N14q
    refine own_go (T' := T14) (g' := (mkF m 17 #[.val (.int p0), .val (.int (3 : Int32)), .val (.ref s3_), .unset, .unset, .unset] [(.ref w3_)])) (fun _ k => st14.trans k) ?_
    refine own_go (T' := T14) (g' := (mkF m 18 #[.val (.int p0), .val (.int (3 : Int32)), .val (.ref s3_), .val (.ref w3_), .unset, .unset] [])) (fun _ k => XS.astoreN X14.here hx rfl (hb hby at_17) rfl rfl (l' := #[.val (.int p0), .val (.int (3 : Int32)), .val (.ref s3_), .val (.ref w3_), .unset, .unset]) rfl k) ?_
    refine own_go (T' := T14) (g' := (mkF m 19 #[.val (.int p0), .val (.int (3 : Int32)), .val (.ref s3_), .val (.ref w3_), .unset, .unset] [(.ref w3_)])) (fun _ k => XS.aloadN X14.here hx rfl (hb hby at_18) rfl rfl k) ?_
    refine own_go (T' := T14) (g' := (mkF m 20 #[.val (.int p0), .val (.int (3 : Int32)), .val (.ref s3_), .val (.ref w3_), .unset, .unset] [(.int (0 : Int32)), (.ref w3_)])) (fun _ k => XS.iconst X14.here hx rfl (hb hby at_19) k) ?_
    obtain ⟨cq15, kq15, q15a, q15b, q15c⟩ := isOf hZ e14 hp28
    obtain ⟨_, _, ⟨T15, L15, k15, n15⟩, -, X15, ⟨Lc15, hQ15, l15, y15, z15⟩, st15⟩ := X14.virtualBack hx (y := (⟨"java/lang/String", "charAt", "(I)C"⟩ : MethodName)) (z := (⟨"java/lang/String", "charAt", "(I)C"⟩ : MethodName)) hown (mvT hZ (hw _ (List.mem_of_getElem? (i := 15) rfl))) (mvT hZ (hw _ (List.mem_of_getElem? (i := 16) rfl))) (notFace_of_selects (args := #[]) (mvT hZ (hw _ (List.mem_of_getElem? (i := 18) rfl)))) (mvT hZ (hw _ (List.mem_of_getElem? (i := 18) rfl))) (mvT hZ (hw _ (List.mem_of_getElem? (i := 17) rfl))) (by decide) (backOf (W := 0) (rmCha2 l Z a0 hw [] w3_ d3_ kk3 (60 : Int32) (61 : Int32) cs fm h0 n0 Z0 hp28 hp29 hp30 hp31 hp6 hp7 hh0 hh1) hZ (hw _ (List.mem_of_getElem? (i := 20) rfl)) (hw _ (List.mem_of_getElem? (i := 19) rfl)) (by decide) (by decide)) q15a q15c (g := (mkF m 20 #[.val (.int p0), .val (.int (3 : Int32)), .val (.ref s3_), .val (.ref w3_), .unset, .unset] [(.int (0 : Int32)), (.ref w3_)])) rfl (by rw [hml]; rfl) (Steps.refl _) (argsL := [(.int (0 : Int32))]) (rest := []) (lenOf own_pd6 rfl) rfl (by show 2 * 0 + _ ≤ _; exact Nat.le_of_eq rfl) (hb hby at_20) (fun _ _ => ⟨rfl, e14, (by decide : 0 + 0 ≤ _), (by decide : 0 + 0 ≤ _)⟩)
    dsimp only [Pt.U, Pt.locs, Pt.cells, Pt.slots] at X15 l15 y15 z15 st15 hQ15
    subst l15 y15 z15
    obtain ⟨rfl, N15q, e15⟩ := hQ15
    have N15 := Fr.app N14 N15q
    refine own_go (T' := T15) (g' := (mkF m 23 #[.val (.int p0), .val (.int (3 : Int32)), .val (.ref s3_), .val (.ref w3_), .unset, .unset] [(.int (own_cha2 w3_ d3_ kk3 (60 : Int32) (61 : Int32) cs fm))])) (fun _ k => st15.trans k) ?_
    refine own_go (T' := T15) (g' := (mkF m 25 #[.val (.int p0), .val (.int (3 : Int32)), .val (.ref s3_), .val (.ref w3_), .val (.int (own_cha2 w3_ d3_ kk3 (60 : Int32) (61 : Int32) cs fm)), .unset] [])) (fun _ k => XS.istore X15.here hx rfl (hb hby at_23) rfl (l' := #[.val (.int p0), .val (.int (3 : Int32)), .val (.ref s3_), .val (.ref w3_), .val (.int (own_cha2 w3_ d3_ kk3 (60 : Int32) (61 : Int32) cs fm)), .unset]) rfl k) ?_
    refine own_go (T' := T15) (g' := (mkF m 27 #[.val (.int p0), .val (.int (3 : Int32)), .val (.ref s3_), .val (.ref w3_), .val (.int (own_cha2 w3_ d3_ kk3 (60 : Int32) (61 : Int32) cs fm)), .unset] [(.int (own_cha2 w3_ d3_ kk3 (60 : Int32) (61 : Int32) cs fm))])) (fun _ k => XS.iload X15.here hx rfl (hb hby at_25) rfl k) ?_
    refine own_go (T' := T15) (g' := (mkF m 29 #[.val (.int p0), .val (.int (3 : Int32)), .val (.ref s3_), .val (.ref w3_), .val (.int (own_cha2 w3_ d3_ kk3 (60 : Int32) (61 : Int32) cs fm)), .unset] [(.int (60 : Int32)), (.int (own_cha2 w3_ d3_ kk3 (60 : Int32) (61 : Int32) cs fm))])) (fun _ k => XS.bipush X15.here hx rfl (hb hby at_27) k) ?_
    refine own_go (T' := T15) (g' := (mkF m 39 #[.val (.int p0), .val (.int (3 : Int32)), .val (.ref s3_), .val (.ref w3_), .val (.int (own_cha2 w3_ d3_ kk3 (60 : Int32) (61 : Int32) cs fm)), .unset] [])) (fun _ k => XS.icmpYes X15.here hx rfl (pc0 := 29) (pc' := 39) rfl (hb hby at_29) rfl (XT.ii_eq_t (by unfold own_cha2 own_lch2; decide)) (by decide) (by decide) k) ?_
    refine own_go (T' := T15) (g' := (mkF m 40 #[.val (.int p0), .val (.int (3 : Int32)), .val (.ref s3_), .val (.ref w3_), .val (.int (own_cha2 w3_ d3_ kk3 (60 : Int32) (61 : Int32) cs fm)), .unset] [(.int (1 : Int32))])) (fun _ k => XS.iconst X15.here hx rfl (hb hby at_39) k) ?_
    refine own_go (T' := T15) (g' := (mkF m 44 #[.val (.int p0), .val (.int (3 : Int32)), .val (.ref s3_), .val (.ref w3_), .val (.int (own_cha2 w3_ d3_ kk3 (60 : Int32) (61 : Int32) cs fm)), .unset] [(.int (1 : Int32))])) (fun _ k => XS.goto X15.here hx rfl (pc0 := 40) (pc' := 44) rfl (hb hby at_40) (by decide) (by decide) k) ?_
    refine own_go (T' := T15) (g' := (mkF m 46 #[.val (.int p0), .val (.int (3 : Int32)), .val (.ref s3_), .val (.ref w3_), .val (.int (own_cha2 w3_ d3_ kk3 (60 : Int32) (61 : Int32) cs fm)), .val (.int (1 : Int32))] [])) (fun _ k => XS.istore X15.here hx rfl (hb hby at_44) rfl (l' := #[.val (.int p0), .val (.int (3 : Int32)), .val (.ref s3_), .val (.ref w3_), .val (.int (own_cha2 w3_ d3_ kk3 (60 : Int32) (61 : Int32) cs fm)), .val (.int (1 : Int32))]) rfl k) ?_
    refine own_go (T' := T15) (g' := (mkF m 47 #[.val (.int p0), .val (.int (3 : Int32)), .val (.ref s3_), .val (.ref w3_), .val (.int (own_cha2 w3_ d3_ kk3 (60 : Int32) (61 : Int32) cs fm)), .val (.int (1 : Int32))] [(.ref s3_)])) (fun _ k => XS.aloadN X15.here hx rfl (hb hby at_46) rfl rfl k) ?_
    obtain ⟨cq16, kq16, q16a, q16b, q16c⟩ := isOf hZ e15 hp26
    obtain ⟨_, _, ⟨T16, L16, k16, n16⟩, -, X16, ⟨Lc16, hQ16, l16, y16, z16⟩, st16⟩ := X15.virtualBack hx (y := (⟨"com/example/labels_in_order/labelsinorder/Comparison", "ordering", "()Z"⟩ : MethodName)) (z := (⟨"com/example/labels_in_order/labelsinorder/Comparison", "ordering", "()Z"⟩ : MethodName)) hown (mvT hZ (hw _ (List.mem_of_getElem? (i := 43) rfl))) (mvT hZ (hw _ (List.mem_of_getElem? (i := 44) rfl))) (notFace_of_selects (args := #[]) (mvT hZ (hw _ (List.mem_of_getElem? (i := 46) rfl)))) (mvT hZ (hw _ (List.mem_of_getElem? (i := 46) rfl))) (mvT hZ (hw _ (List.mem_of_getElem? (i := 45) rfl))) (by decide) (backOf (W := 0) (rmO l Z a0 hw [] s3_ s0_ s1_ h0 n0 Z0 hp0 hp1) hZ (hw _ (List.mem_of_getElem? (i := 47) rfl)) (hw _ (List.mem_of_getElem? (i := 6) rfl)) (by decide) (by decide)) q16a q16c (g := (mkF m 47 #[.val (.int p0), .val (.int (3 : Int32)), .val (.ref s3_), .val (.ref w3_), .val (.int (own_cha2 w3_ d3_ kk3 (60 : Int32) (61 : Int32) cs fm)), .val (.int (1 : Int32))] [(.ref s3_)])) rfl (by rw [hml]; rfl) (Steps.refl _) (argsL := []) (rest := []) (lenOf own_pd2 rfl) rfl (by show 2 * 0 + _ ≤ _; exact Nat.le_of_eq rfl) (hb hby at_47) (fun _ _ => ⟨rfl, e15, (by decide : 0 + 0 ≤ _), (by decide : 0 + 0 ≤ _)⟩)
    dsimp only [Pt.U, Pt.locs, Pt.cells, Pt.slots] at X16 l16 y16 z16 st16 hQ16
    subst l16 y16 z16
    obtain ⟨rfl, N16q, e16⟩ := hQ16
    have N16 := Fr.app N15 N16q
    refine own_go (T' := T16) (g' := (mkF m 50 #[.val (.int p0), .val (.int (3 : Int32)), .val (.ref s3_), .val (.ref w3_), .val (.int (own_cha2 w3_ d3_ kk3 (60 : Int32) (61 : Int32) cs fm)), .val (.int (1 : Int32))] [(.int (own_ord s3_ s0_ s1_))])) (fun _ k => st16.trans k) ?_
    refine own_go (T' := T16) (g' := (mkF m 52 #[.val (.int p0), .val (.int (3 : Int32)), .val (.ref s3_), .val (.ref w3_), .val (.int (own_cha2 w3_ d3_ kk3 (60 : Int32) (61 : Int32) cs fm)), .val (.int (1 : Int32))] [(.int (1 : Int32)), (.int (own_ord s3_ s0_ s1_))])) (fun _ k => XS.iload X16.here hx rfl (hb hby at_50) rfl k) ?_
    refine own_go (T' := T16) (g' := (mkF m 55 #[.val (.int p0), .val (.int (3 : Int32)), .val (.ref s3_), .val (.ref w3_), .val (.int (own_cha2 w3_ d3_ kk3 (60 : Int32) (61 : Int32) cs fm)), .val (.int (1 : Int32))] [])) (fun _ k => XS.icmpNo X16.here hx rfl (hb hby at_52) rfl (XT.ii_ne_f (by unfold own_ord; simp [hh4, hh5])) k) ?_
    refine own_go (T' := T16) (g' := (mkF m 56 #[.val (.int p0), .val (.int (3 : Int32)), .val (.ref s3_), .val (.ref w3_), .val (.int (own_cha2 w3_ d3_ kk3 (60 : Int32) (61 : Int32) cs fm)), .val (.int (1 : Int32))] [(.int (1 : Int32))])) (fun _ k => XS.iconst X16.here hx rfl (hb hby at_55) k) ?_
    refine own_go (T' := T16) (g' := (mkF m 60 #[.val (.int p0), .val (.int (3 : Int32)), .val (.ref s3_), .val (.ref w3_), .val (.int (own_cha2 w3_ d3_ kk3 (60 : Int32) (61 : Int32) cs fm)), .val (.int (1 : Int32))] [(.int (1 : Int32))])) (fun _ k => XS.goto X16.here hx rfl (pc0 := 56) (pc' := 60) rfl (hb hby at_56) (by decide) (by decide) k) ?_
    exact own_retN X16 hx (t := .boolean) Bd.returns hlk (by simp) (hb hby at_60) e16 ⟨rfl, N16⟩ (by decide) (by decide)
  · skip
    refine own_go (T' := s₁) (g' := (mkF m 8 #[.val (.int p0), .val (.int (4 : Int32)), .unset, .unset, .unset, .unset] [])) (fun _ k => castTop (by rw [hk]) k) ?_
    refine own_go (T' := s₁) (g' := (mkF m 9 #[.val (.int p0), .val (.int (4 : Int32)), .unset, .unset, .unset, .unset] [(.int (4 : Int32))])) (fun _ k => XS.iloadN X0.here hx rfl (hb hby at_8) rfl k) ?_
    obtain ⟨_, _, ⟨T17, L17, k17, n17⟩, -, X17, ⟨Lc17, hQ17, l17, y17, z17⟩, st17⟩ := Jvm.LawKit.callS X0 hx (y := (⟨"com/example/labels_in_order/labelsinorder/ComparisonOrderingPinLaw", "pick", "(I)Lcom/example/labels_in_order/labelsinorder/Comparison;"⟩ : MethodName)) hown (mvT hZ (hw _ (List.mem_of_getElem? (i := 1) rfl))) (mvT hZ (hw _ (List.mem_of_getElem? (i := 2) rfl))) (mvT hZ (hw _ (List.mem_of_getElem? (i := 3) rfl))) (mvT hZ (hw _ (List.mem_of_getElem? (i := 4) rfl))) (by decide) (backOf (W := 0) (rmP4 l Z a0 hw [] s4_ h0 n0 Z0 hp4) hZ (hw _ (List.mem_of_getElem? (i := 4) rfl)) (hw _ (List.mem_of_getElem? (i := 3) rfl)) (by decide) (by decide)) (g := (mkF m 9 #[.val (.int p0), .val (.int (4 : Int32)), .unset, .unset, .unset, .unset] [(.int (4 : Int32))])) rfl (by rw [hml]; rfl) (argsL := [(.int (4 : Int32))]) (rest := []) (lenOf own_pd4 rfl) rfl (by show 2 * 0 + _ ≤ _; exact Nat.le_of_eq rfl) (hb hby at_9) (fun _ _ => ⟨rfl, e0, (by decide : 0 + 0 ≤ _), (by decide : 0 + 0 ≤ _)⟩)
    dsimp only [Pt.U, Pt.locs, Pt.cells, Pt.slots] at X17 l17 y17 z17 st17 hQ17
    subst l17 y17 z17
    obtain ⟨rfl, N17q, e17⟩ := hQ17
    have N17 := Fr.app N0 N17q
    refine own_go (T' := T17) (g' := (mkF m 12 #[.val (.int p0), .val (.int (4 : Int32)), .unset, .unset, .unset, .unset] [(.ref s4_)])) (fun _ k => st17 _ k) ?_
    refine own_go (T' := T17) (g' := (mkF m 13 #[.val (.int p0), .val (.int (4 : Int32)), .val (.ref s4_), .unset, .unset, .unset] [])) (fun _ k => XS.astoreN X17.here hx rfl (hb hby at_12) rfl rfl (l' := #[.val (.int p0), .val (.int (4 : Int32)), .val (.ref s4_), .unset, .unset, .unset]) rfl k) ?_
    refine own_go (T' := T17) (g' := (mkF m 14 #[.val (.int p0), .val (.int (4 : Int32)), .val (.ref s4_), .unset, .unset, .unset] [(.ref s4_)])) (fun _ k => XS.aloadN X17.here hx rfl (hb hby at_13) rfl rfl k) ?_
    obtain ⟨cq18, kq18, q18a, q18b, q18c⟩ := isOf hZ e17 hp32
    obtain ⟨_, _, ⟨T18, L18, k18, n18⟩, -, X18, ⟨Lc18, hQ18, l18, y18, z18⟩, st18⟩ := X17.virtualBack hx (y := (⟨"com/example/labels_in_order/labelsinorder/Comparison", "written", "()Ljava/lang/String;"⟩ : MethodName)) (z := (⟨"com/example/labels_in_order/labelsinorder/Comparison", "written", "()Ljava/lang/String;"⟩ : MethodName)) hown (mvT hZ (hw _ (List.mem_of_getElem? (i := 8) rfl))) (mvT hZ (hw _ (List.mem_of_getElem? (i := 9) rfl))) (notFace_of_selects (args := #[]) (mvT hZ (hw _ (List.mem_of_getElem? (i := 11) rfl)))) (mvT hZ (hw _ (List.mem_of_getElem? (i := 11) rfl))) (mvT hZ (hw _ (List.mem_of_getElem? (i := 10) rfl))) (by decide) (backOf (W := 0) (rmW l Z a0 hw [] s4_ w4_ h0 n0 Z0 hp33) hZ (hw _ (List.mem_of_getElem? (i := 12) rfl)) (hw _ (List.mem_of_getElem? (i := 6) rfl)) (by decide) (by decide)) q18a q18c (g := (mkF m 14 #[.val (.int p0), .val (.int (4 : Int32)), .val (.ref s4_), .unset, .unset, .unset] [(.ref s4_)])) rfl (by rw [hml]; rfl) (Steps.refl _) (argsL := []) (rest := []) (lenOf own_pd5 rfl) rfl (by show 2 * 0 + _ ≤ _; exact Nat.le_of_eq rfl) (hb hby at_14) (fun _ _ => ⟨rfl, e17, (by decide : 0 + 0 ≤ _), (by decide : 0 + 0 ≤ _)⟩)
    dsimp only [Pt.U, Pt.locs, Pt.cells, Pt.slots] at X18 l18 y18 z18 st18 hQ18
    subst l18 y18 z18
    obtain ⟨rfl, N18q, e18⟩ := hQ18
    have N18 := Fr.app N17 N18q
    refine own_go (T' := T18) (g' := (mkF m 17 #[.val (.int p0), .val (.int (4 : Int32)), .val (.ref s4_), .unset, .unset, .unset] [(.ref w4_)])) (fun _ k => st18.trans k) ?_
    refine own_go (T' := T18) (g' := (mkF m 18 #[.val (.int p0), .val (.int (4 : Int32)), .val (.ref s4_), .val (.ref w4_), .unset, .unset] [])) (fun _ k => XS.astoreN X18.here hx rfl (hb hby at_17) rfl rfl (l' := #[.val (.int p0), .val (.int (4 : Int32)), .val (.ref s4_), .val (.ref w4_), .unset, .unset]) rfl k) ?_
    refine own_go (T' := T18) (g' := (mkF m 19 #[.val (.int p0), .val (.int (4 : Int32)), .val (.ref s4_), .val (.ref w4_), .unset, .unset] [(.ref w4_)])) (fun _ k => XS.aloadN X18.here hx rfl (hb hby at_18) rfl rfl k) ?_
    refine own_go (T' := T18) (g' := (mkF m 20 #[.val (.int p0), .val (.int (4 : Int32)), .val (.ref s4_), .val (.ref w4_), .unset, .unset] [(.int (0 : Int32)), (.ref w4_)])) (fun _ k => XS.iconst X18.here hx rfl (hb hby at_19) k) ?_
    obtain ⟨cq19, kq19, q19a, q19b, q19c⟩ := isOf hZ e18 hp34
    obtain ⟨_, _, ⟨T19, L19, k19, n19⟩, -, X19, ⟨Lc19, hQ19, l19, y19, z19⟩, st19⟩ := X18.virtualBack hx (y := (⟨"java/lang/String", "charAt", "(I)C"⟩ : MethodName)) (z := (⟨"java/lang/String", "charAt", "(I)C"⟩ : MethodName)) hown (mvT hZ (hw _ (List.mem_of_getElem? (i := 15) rfl))) (mvT hZ (hw _ (List.mem_of_getElem? (i := 16) rfl))) (notFace_of_selects (args := #[]) (mvT hZ (hw _ (List.mem_of_getElem? (i := 18) rfl)))) (mvT hZ (hw _ (List.mem_of_getElem? (i := 18) rfl))) (mvT hZ (hw _ (List.mem_of_getElem? (i := 17) rfl))) (by decide) (backOf (W := 0) (rmCha1 l Z a0 hw [] w4_ d4_ kk4 (62 : Int32) cs fm h0 n0 Z0 hp34 hp35 hp36 hp37 hp6 hp7 hh0 hh1) hZ (hw _ (List.mem_of_getElem? (i := 20) rfl)) (hw _ (List.mem_of_getElem? (i := 19) rfl)) (by decide) (by decide)) q19a q19c (g := (mkF m 20 #[.val (.int p0), .val (.int (4 : Int32)), .val (.ref s4_), .val (.ref w4_), .unset, .unset] [(.int (0 : Int32)), (.ref w4_)])) rfl (by rw [hml]; rfl) (Steps.refl _) (argsL := [(.int (0 : Int32))]) (rest := []) (lenOf own_pd6 rfl) rfl (by show 2 * 0 + _ ≤ _; exact Nat.le_of_eq rfl) (hb hby at_20) (fun _ _ => ⟨rfl, e18, (by decide : 0 + 0 ≤ _), (by decide : 0 + 0 ≤ _)⟩)
    dsimp only [Pt.U, Pt.locs, Pt.cells, Pt.slots] at X19 l19 y19 z19 st19 hQ19
    subst l19 y19 z19
    obtain ⟨rfl, N19q, e19⟩ := hQ19
    have N19 := Fr.app N18 N19q
    refine own_go (T' := T19) (g' := (mkF m 23 #[.val (.int p0), .val (.int (4 : Int32)), .val (.ref s4_), .val (.ref w4_), .unset, .unset] [(.int (own_cha1 w4_ d4_ kk4 (62 : Int32) cs fm))])) (fun _ k => st19.trans k) ?_
    refine own_go (T' := T19) (g' := (mkF m 25 #[.val (.int p0), .val (.int (4 : Int32)), .val (.ref s4_), .val (.ref w4_), .val (.int (own_cha1 w4_ d4_ kk4 (62 : Int32) cs fm)), .unset] [])) (fun _ k => XS.istore X19.here hx rfl (hb hby at_23) rfl (l' := #[.val (.int p0), .val (.int (4 : Int32)), .val (.ref s4_), .val (.ref w4_), .val (.int (own_cha1 w4_ d4_ kk4 (62 : Int32) cs fm)), .unset]) rfl k) ?_
    refine own_go (T' := T19) (g' := (mkF m 27 #[.val (.int p0), .val (.int (4 : Int32)), .val (.ref s4_), .val (.ref w4_), .val (.int (own_cha1 w4_ d4_ kk4 (62 : Int32) cs fm)), .unset] [(.int (own_cha1 w4_ d4_ kk4 (62 : Int32) cs fm))])) (fun _ k => XS.iload X19.here hx rfl (hb hby at_25) rfl k) ?_
    refine own_go (T' := T19) (g' := (mkF m 29 #[.val (.int p0), .val (.int (4 : Int32)), .val (.ref s4_), .val (.ref w4_), .val (.int (own_cha1 w4_ d4_ kk4 (62 : Int32) cs fm)), .unset] [(.int (60 : Int32)), (.int (own_cha1 w4_ d4_ kk4 (62 : Int32) cs fm))])) (fun _ k => XS.bipush X19.here hx rfl (hb hby at_27) k) ?_
    refine own_go (T' := T19) (g' := (mkF m 32 #[.val (.int p0), .val (.int (4 : Int32)), .val (.ref s4_), .val (.ref w4_), .val (.int (own_cha1 w4_ d4_ kk4 (62 : Int32) cs fm)), .unset] [])) (fun _ k => XS.icmpNo X19.here hx rfl (hb hby at_29) rfl (XT.ii_eq_f (by unfold own_cha1 own_lch1; decide)) k) ?_
    refine own_go (T' := T19) (g' := (mkF m 34 #[.val (.int p0), .val (.int (4 : Int32)), .val (.ref s4_), .val (.ref w4_), .val (.int (own_cha1 w4_ d4_ kk4 (62 : Int32) cs fm)), .unset] [(.int (own_cha1 w4_ d4_ kk4 (62 : Int32) cs fm))])) (fun _ k => XS.iload X19.here hx rfl (hb hby at_32) rfl k) ?_
    refine own_go (T' := T19) (g' := (mkF m 36 #[.val (.int p0), .val (.int (4 : Int32)), .val (.ref s4_), .val (.ref w4_), .val (.int (own_cha1 w4_ d4_ kk4 (62 : Int32) cs fm)), .unset] [(.int (62 : Int32)), (.int (own_cha1 w4_ d4_ kk4 (62 : Int32) cs fm))])) (fun _ k => XS.bipush X19.here hx rfl (hb hby at_34) k) ?_
    refine own_go (T' := T19) (g' := (mkF m 39 #[.val (.int p0), .val (.int (4 : Int32)), .val (.ref s4_), .val (.ref w4_), .val (.int (own_cha1 w4_ d4_ kk4 (62 : Int32) cs fm)), .unset] [])) (fun _ k => XS.icmpNo X19.here hx rfl (hb hby at_36) rfl (XT.ii_ne_f (by unfold own_cha1 own_lch1; decide)) k) ?_
    refine own_go (T' := T19) (g' := (mkF m 40 #[.val (.int p0), .val (.int (4 : Int32)), .val (.ref s4_), .val (.ref w4_), .val (.int (own_cha1 w4_ d4_ kk4 (62 : Int32) cs fm)), .unset] [(.int (1 : Int32))])) (fun _ k => XS.iconst X19.here hx rfl (hb hby at_39) k) ?_
    refine own_go (T' := T19) (g' := (mkF m 44 #[.val (.int p0), .val (.int (4 : Int32)), .val (.ref s4_), .val (.ref w4_), .val (.int (own_cha1 w4_ d4_ kk4 (62 : Int32) cs fm)), .unset] [(.int (1 : Int32))])) (fun _ k => XS.goto X19.here hx rfl (pc0 := 40) (pc' := 44) rfl (hb hby at_40) (by decide) (by decide) k) ?_
    refine own_go (T' := T19) (g' := (mkF m 46 #[.val (.int p0), .val (.int (4 : Int32)), .val (.ref s4_), .val (.ref w4_), .val (.int (own_cha1 w4_ d4_ kk4 (62 : Int32) cs fm)), .val (.int (1 : Int32))] [])) (fun _ k => XS.istore X19.here hx rfl (hb hby at_44) rfl (l' := #[.val (.int p0), .val (.int (4 : Int32)), .val (.ref s4_), .val (.ref w4_), .val (.int (own_cha1 w4_ d4_ kk4 (62 : Int32) cs fm)), .val (.int (1 : Int32))]) rfl k) ?_
    refine own_go (T' := T19) (g' := (mkF m 47 #[.val (.int p0), .val (.int (4 : Int32)), .val (.ref s4_), .val (.ref w4_), .val (.int (own_cha1 w4_ d4_ kk4 (62 : Int32) cs fm)), .val (.int (1 : Int32))] [(.ref s4_)])) (fun _ k => XS.aloadN X19.here hx rfl (hb hby at_46) rfl rfl k) ?_
    obtain ⟨cq20, kq20, q20a, q20b, q20c⟩ := isOf hZ e19 hp32
    obtain ⟨_, _, ⟨T20, L20, k20, n20⟩, -, X20, ⟨Lc20, hQ20, l20, y20, z20⟩, st20⟩ := X19.virtualBack hx (y := (⟨"com/example/labels_in_order/labelsinorder/Comparison", "ordering", "()Z"⟩ : MethodName)) (z := (⟨"com/example/labels_in_order/labelsinorder/Comparison", "ordering", "()Z"⟩ : MethodName)) hown (mvT hZ (hw _ (List.mem_of_getElem? (i := 43) rfl))) (mvT hZ (hw _ (List.mem_of_getElem? (i := 44) rfl))) (notFace_of_selects (args := #[]) (mvT hZ (hw _ (List.mem_of_getElem? (i := 46) rfl)))) (mvT hZ (hw _ (List.mem_of_getElem? (i := 46) rfl))) (mvT hZ (hw _ (List.mem_of_getElem? (i := 45) rfl))) (by decide) (backOf (W := 0) (rmO l Z a0 hw [] s4_ s0_ s1_ h0 n0 Z0 hp0 hp1) hZ (hw _ (List.mem_of_getElem? (i := 47) rfl)) (hw _ (List.mem_of_getElem? (i := 6) rfl)) (by decide) (by decide)) q20a q20c (g := (mkF m 47 #[.val (.int p0), .val (.int (4 : Int32)), .val (.ref s4_), .val (.ref w4_), .val (.int (own_cha1 w4_ d4_ kk4 (62 : Int32) cs fm)), .val (.int (1 : Int32))] [(.ref s4_)])) rfl (by rw [hml]; rfl) (Steps.refl _) (argsL := []) (rest := []) (lenOf own_pd2 rfl) rfl (by show 2 * 0 + _ ≤ _; exact Nat.le_of_eq rfl) (hb hby at_47) (fun _ _ => ⟨rfl, e19, (by decide : 0 + 0 ≤ _), (by decide : 0 + 0 ≤ _)⟩)
    dsimp only [Pt.U, Pt.locs, Pt.cells, Pt.slots] at X20 l20 y20 z20 st20 hQ20
    subst l20 y20 z20
    obtain ⟨rfl, N20q, e20⟩ := hQ20
    have N20 := Fr.app N19 N20q
    refine own_go (T' := T20) (g' := (mkF m 50 #[.val (.int p0), .val (.int (4 : Int32)), .val (.ref s4_), .val (.ref w4_), .val (.int (own_cha1 w4_ d4_ kk4 (62 : Int32) cs fm)), .val (.int (1 : Int32))] [(.int (own_ord s4_ s0_ s1_))])) (fun _ k => st20.trans k) ?_
    refine own_go (T' := T20) (g' := (mkF m 52 #[.val (.int p0), .val (.int (4 : Int32)), .val (.ref s4_), .val (.ref w4_), .val (.int (own_cha1 w4_ d4_ kk4 (62 : Int32) cs fm)), .val (.int (1 : Int32))] [(.int (1 : Int32)), (.int (own_ord s4_ s0_ s1_))])) (fun _ k => XS.iload X20.here hx rfl (hb hby at_50) rfl k) ?_
    refine own_go (T' := T20) (g' := (mkF m 55 #[.val (.int p0), .val (.int (4 : Int32)), .val (.ref s4_), .val (.ref w4_), .val (.int (own_cha1 w4_ d4_ kk4 (62 : Int32) cs fm)), .val (.int (1 : Int32))] [])) (fun _ k => XS.icmpNo X20.here hx rfl (hb hby at_52) rfl (XT.ii_ne_f (by unfold own_ord; simp [hh6, hh7])) k) ?_
    refine own_go (T' := T20) (g' := (mkF m 56 #[.val (.int p0), .val (.int (4 : Int32)), .val (.ref s4_), .val (.ref w4_), .val (.int (own_cha1 w4_ d4_ kk4 (62 : Int32) cs fm)), .val (.int (1 : Int32))] [(.int (1 : Int32))])) (fun _ k => XS.iconst X20.here hx rfl (hb hby at_55) k) ?_
    refine own_go (T' := T20) (g' := (mkF m 60 #[.val (.int p0), .val (.int (4 : Int32)), .val (.ref s4_), .val (.ref w4_), .val (.int (own_cha1 w4_ d4_ kk4 (62 : Int32) cs fm)), .val (.int (1 : Int32))] [(.int (1 : Int32))])) (fun _ k => XS.goto X20.here hx rfl (pc0 := 56) (pc' := 60) rfl (hb hby at_56) (by decide) (by decide) k) ?_
    exact own_retN X20 hx (t := .boolean) Bd.returns hlk (by simp) (hb hby at_60) e20 ⟨rfl, N20⟩ (by decide) (by decide)
  · skip
    refine own_go (T' := s₁) (g' := (mkF m 8 #[.val (.int p0), .val (.int (5 : Int32)), .unset, .unset, .unset, .unset] [])) (fun _ k => castTop (by rw [hk]) k) ?_
    refine own_go (T' := s₁) (g' := (mkF m 9 #[.val (.int p0), .val (.int (5 : Int32)), .unset, .unset, .unset, .unset] [(.int (5 : Int32))])) (fun _ k => XS.iloadN X0.here hx rfl (hb hby at_8) rfl k) ?_
    obtain ⟨_, _, ⟨T21, L21, k21, n21⟩, -, X21, ⟨Lc21, hQ21, l21, y21, z21⟩, st21⟩ := Jvm.LawKit.callS X0 hx (y := (⟨"com/example/labels_in_order/labelsinorder/ComparisonOrderingPinLaw", "pick", "(I)Lcom/example/labels_in_order/labelsinorder/Comparison;"⟩ : MethodName)) hown (mvT hZ (hw _ (List.mem_of_getElem? (i := 1) rfl))) (mvT hZ (hw _ (List.mem_of_getElem? (i := 2) rfl))) (mvT hZ (hw _ (List.mem_of_getElem? (i := 3) rfl))) (mvT hZ (hw _ (List.mem_of_getElem? (i := 4) rfl))) (by decide) (backOf (W := 0) (rmP5 l Z a0 hw [] s5_ h0 n0 Z0 hp5) hZ (hw _ (List.mem_of_getElem? (i := 4) rfl)) (hw _ (List.mem_of_getElem? (i := 3) rfl)) (by decide) (by decide)) (g := (mkF m 9 #[.val (.int p0), .val (.int (5 : Int32)), .unset, .unset, .unset, .unset] [(.int (5 : Int32))])) rfl (by rw [hml]; rfl) (argsL := [(.int (5 : Int32))]) (rest := []) (lenOf own_pd4 rfl) rfl (by show 2 * 0 + _ ≤ _; exact Nat.le_of_eq rfl) (hb hby at_9) (fun _ _ => ⟨rfl, e0, (by decide : 0 + 0 ≤ _), (by decide : 0 + 0 ≤ _)⟩)
    dsimp only [Pt.U, Pt.locs, Pt.cells, Pt.slots] at X21 l21 y21 z21 st21 hQ21
    subst l21 y21 z21
    obtain ⟨rfl, N21q, e21⟩ := hQ21
    have N21 := Fr.app N0 N21q
    refine own_go (T' := T21) (g' := (mkF m 12 #[.val (.int p0), .val (.int (5 : Int32)), .unset, .unset, .unset, .unset] [(.ref s5_)])) (fun _ k => st21 _ k) ?_
    refine own_go (T' := T21) (g' := (mkF m 13 #[.val (.int p0), .val (.int (5 : Int32)), .val (.ref s5_), .unset, .unset, .unset] [])) (fun _ k => XS.astoreN X21.here hx rfl (hb hby at_12) rfl rfl (l' := #[.val (.int p0), .val (.int (5 : Int32)), .val (.ref s5_), .unset, .unset, .unset]) rfl k) ?_
    refine own_go (T' := T21) (g' := (mkF m 14 #[.val (.int p0), .val (.int (5 : Int32)), .val (.ref s5_), .unset, .unset, .unset] [(.ref s5_)])) (fun _ k => XS.aloadN X21.here hx rfl (hb hby at_13) rfl rfl k) ?_
    obtain ⟨cq22, kq22, q22a, q22b, q22c⟩ := isOf hZ e21 hp38
    obtain ⟨_, _, ⟨T22, L22, k22, n22⟩, -, X22, ⟨Lc22, hQ22, l22, y22, z22⟩, st22⟩ := X21.virtualBack hx (y := (⟨"com/example/labels_in_order/labelsinorder/Comparison", "written", "()Ljava/lang/String;"⟩ : MethodName)) (z := (⟨"com/example/labels_in_order/labelsinorder/Comparison", "written", "()Ljava/lang/String;"⟩ : MethodName)) hown (mvT hZ (hw _ (List.mem_of_getElem? (i := 8) rfl))) (mvT hZ (hw _ (List.mem_of_getElem? (i := 9) rfl))) (notFace_of_selects (args := #[]) (mvT hZ (hw _ (List.mem_of_getElem? (i := 11) rfl)))) (mvT hZ (hw _ (List.mem_of_getElem? (i := 11) rfl))) (mvT hZ (hw _ (List.mem_of_getElem? (i := 10) rfl))) (by decide) (backOf (W := 0) (rmW l Z a0 hw [] s5_ w5_ h0 n0 Z0 hp39) hZ (hw _ (List.mem_of_getElem? (i := 12) rfl)) (hw _ (List.mem_of_getElem? (i := 6) rfl)) (by decide) (by decide)) q22a q22c (g := (mkF m 14 #[.val (.int p0), .val (.int (5 : Int32)), .val (.ref s5_), .unset, .unset, .unset] [(.ref s5_)])) rfl (by rw [hml]; rfl) (Steps.refl _) (argsL := []) (rest := []) (lenOf own_pd5 rfl) rfl (by show 2 * 0 + _ ≤ _; exact Nat.le_of_eq rfl) (hb hby at_14) (fun _ _ => ⟨rfl, e21, (by decide : 0 + 0 ≤ _), (by decide : 0 + 0 ≤ _)⟩)
    dsimp only [Pt.U, Pt.locs, Pt.cells, Pt.slots] at X22 l22 y22 z22 st22 hQ22
    subst l22 y22 z22
    obtain ⟨rfl, N22q, e22⟩ := hQ22
    have N22 := Fr.app N21 N22q
    refine own_go (T' := T22) (g' := (mkF m 17 #[.val (.int p0), .val (.int (5 : Int32)), .val (.ref s5_), .unset, .unset, .unset] [(.ref w5_)])) (fun _ k => st22.trans k) ?_
    refine own_go (T' := T22) (g' := (mkF m 18 #[.val (.int p0), .val (.int (5 : Int32)), .val (.ref s5_), .val (.ref w5_), .unset, .unset] [])) (fun _ k => XS.astoreN X22.here hx rfl (hb hby at_17) rfl rfl (l' := #[.val (.int p0), .val (.int (5 : Int32)), .val (.ref s5_), .val (.ref w5_), .unset, .unset]) rfl k) ?_
    refine own_go (T' := T22) (g' := (mkF m 19 #[.val (.int p0), .val (.int (5 : Int32)), .val (.ref s5_), .val (.ref w5_), .unset, .unset] [(.ref w5_)])) (fun _ k => XS.aloadN X22.here hx rfl (hb hby at_18) rfl rfl k) ?_
    refine own_go (T' := T22) (g' := (mkF m 20 #[.val (.int p0), .val (.int (5 : Int32)), .val (.ref s5_), .val (.ref w5_), .unset, .unset] [(.int (0 : Int32)), (.ref w5_)])) (fun _ k => XS.iconst X22.here hx rfl (hb hby at_19) k) ?_
    obtain ⟨cq23, kq23, q23a, q23b, q23c⟩ := isOf hZ e22 hp40
    obtain ⟨_, _, ⟨T23, L23, k23, n23⟩, -, X23, ⟨Lc23, hQ23, l23, y23, z23⟩, st23⟩ := X22.virtualBack hx (y := (⟨"java/lang/String", "charAt", "(I)C"⟩ : MethodName)) (z := (⟨"java/lang/String", "charAt", "(I)C"⟩ : MethodName)) hown (mvT hZ (hw _ (List.mem_of_getElem? (i := 15) rfl))) (mvT hZ (hw _ (List.mem_of_getElem? (i := 16) rfl))) (notFace_of_selects (args := #[]) (mvT hZ (hw _ (List.mem_of_getElem? (i := 18) rfl)))) (mvT hZ (hw _ (List.mem_of_getElem? (i := 18) rfl))) (mvT hZ (hw _ (List.mem_of_getElem? (i := 17) rfl))) (by decide) (backOf (W := 0) (rmCha2 l Z a0 hw [] w5_ d5_ kk5 (62 : Int32) (61 : Int32) cs fm h0 n0 Z0 hp40 hp41 hp42 hp43 hp6 hp7 hh0 hh1) hZ (hw _ (List.mem_of_getElem? (i := 20) rfl)) (hw _ (List.mem_of_getElem? (i := 19) rfl)) (by decide) (by decide)) q23a q23c (g := (mkF m 20 #[.val (.int p0), .val (.int (5 : Int32)), .val (.ref s5_), .val (.ref w5_), .unset, .unset] [(.int (0 : Int32)), (.ref w5_)])) rfl (by rw [hml]; rfl) (Steps.refl _) (argsL := [(.int (0 : Int32))]) (rest := []) (lenOf own_pd6 rfl) rfl (by show 2 * 0 + _ ≤ _; exact Nat.le_of_eq rfl) (hb hby at_20) (fun _ _ => ⟨rfl, e22, (by decide : 0 + 0 ≤ _), (by decide : 0 + 0 ≤ _)⟩)
    dsimp only [Pt.U, Pt.locs, Pt.cells, Pt.slots] at X23 l23 y23 z23 st23 hQ23
    subst l23 y23 z23
    obtain ⟨rfl, N23q, e23⟩ := hQ23
    have N23 := Fr.app N22 N23q
    refine own_go (T' := T23) (g' := (mkF m 23 #[.val (.int p0), .val (.int (5 : Int32)), .val (.ref s5_), .val (.ref w5_), .unset, .unset] [(.int (own_cha2 w5_ d5_ kk5 (62 : Int32) (61 : Int32) cs fm))])) (fun _ k => st23.trans k) ?_
    refine own_go (T' := T23) (g' := (mkF m 25 #[.val (.int p0), .val (.int (5 : Int32)), .val (.ref s5_), .val (.ref w5_), .val (.int (own_cha2 w5_ d5_ kk5 (62 : Int32) (61 : Int32) cs fm)), .unset] [])) (fun _ k => XS.istore X23.here hx rfl (hb hby at_23) rfl (l' := #[.val (.int p0), .val (.int (5 : Int32)), .val (.ref s5_), .val (.ref w5_), .val (.int (own_cha2 w5_ d5_ kk5 (62 : Int32) (61 : Int32) cs fm)), .unset]) rfl k) ?_
    refine own_go (T' := T23) (g' := (mkF m 27 #[.val (.int p0), .val (.int (5 : Int32)), .val (.ref s5_), .val (.ref w5_), .val (.int (own_cha2 w5_ d5_ kk5 (62 : Int32) (61 : Int32) cs fm)), .unset] [(.int (own_cha2 w5_ d5_ kk5 (62 : Int32) (61 : Int32) cs fm))])) (fun _ k => XS.iload X23.here hx rfl (hb hby at_25) rfl k) ?_
    refine own_go (T' := T23) (g' := (mkF m 29 #[.val (.int p0), .val (.int (5 : Int32)), .val (.ref s5_), .val (.ref w5_), .val (.int (own_cha2 w5_ d5_ kk5 (62 : Int32) (61 : Int32) cs fm)), .unset] [(.int (60 : Int32)), (.int (own_cha2 w5_ d5_ kk5 (62 : Int32) (61 : Int32) cs fm))])) (fun _ k => XS.bipush X23.here hx rfl (hb hby at_27) k) ?_
    refine own_go (T' := T23) (g' := (mkF m 32 #[.val (.int p0), .val (.int (5 : Int32)), .val (.ref s5_), .val (.ref w5_), .val (.int (own_cha2 w5_ d5_ kk5 (62 : Int32) (61 : Int32) cs fm)), .unset] [])) (fun _ k => XS.icmpNo X23.here hx rfl (hb hby at_29) rfl (XT.ii_eq_f (by unfold own_cha2 own_lch2; decide)) k) ?_
    refine own_go (T' := T23) (g' := (mkF m 34 #[.val (.int p0), .val (.int (5 : Int32)), .val (.ref s5_), .val (.ref w5_), .val (.int (own_cha2 w5_ d5_ kk5 (62 : Int32) (61 : Int32) cs fm)), .unset] [(.int (own_cha2 w5_ d5_ kk5 (62 : Int32) (61 : Int32) cs fm))])) (fun _ k => XS.iload X23.here hx rfl (hb hby at_32) rfl k) ?_
    refine own_go (T' := T23) (g' := (mkF m 36 #[.val (.int p0), .val (.int (5 : Int32)), .val (.ref s5_), .val (.ref w5_), .val (.int (own_cha2 w5_ d5_ kk5 (62 : Int32) (61 : Int32) cs fm)), .unset] [(.int (62 : Int32)), (.int (own_cha2 w5_ d5_ kk5 (62 : Int32) (61 : Int32) cs fm))])) (fun _ k => XS.bipush X23.here hx rfl (hb hby at_34) k) ?_
    refine own_go (T' := T23) (g' := (mkF m 39 #[.val (.int p0), .val (.int (5 : Int32)), .val (.ref s5_), .val (.ref w5_), .val (.int (own_cha2 w5_ d5_ kk5 (62 : Int32) (61 : Int32) cs fm)), .unset] [])) (fun _ k => XS.icmpNo X23.here hx rfl (hb hby at_36) rfl (XT.ii_ne_f (by unfold own_cha2 own_lch2; decide)) k) ?_
    refine own_go (T' := T23) (g' := (mkF m 40 #[.val (.int p0), .val (.int (5 : Int32)), .val (.ref s5_), .val (.ref w5_), .val (.int (own_cha2 w5_ d5_ kk5 (62 : Int32) (61 : Int32) cs fm)), .unset] [(.int (1 : Int32))])) (fun _ k => XS.iconst X23.here hx rfl (hb hby at_39) k) ?_
    refine own_go (T' := T23) (g' := (mkF m 44 #[.val (.int p0), .val (.int (5 : Int32)), .val (.ref s5_), .val (.ref w5_), .val (.int (own_cha2 w5_ d5_ kk5 (62 : Int32) (61 : Int32) cs fm)), .unset] [(.int (1 : Int32))])) (fun _ k => XS.goto X23.here hx rfl (pc0 := 40) (pc' := 44) rfl (hb hby at_40) (by decide) (by decide) k) ?_
    refine own_go (T' := T23) (g' := (mkF m 46 #[.val (.int p0), .val (.int (5 : Int32)), .val (.ref s5_), .val (.ref w5_), .val (.int (own_cha2 w5_ d5_ kk5 (62 : Int32) (61 : Int32) cs fm)), .val (.int (1 : Int32))] [])) (fun _ k => XS.istore X23.here hx rfl (hb hby at_44) rfl (l' := #[.val (.int p0), .val (.int (5 : Int32)), .val (.ref s5_), .val (.ref w5_), .val (.int (own_cha2 w5_ d5_ kk5 (62 : Int32) (61 : Int32) cs fm)), .val (.int (1 : Int32))]) rfl k) ?_
    refine own_go (T' := T23) (g' := (mkF m 47 #[.val (.int p0), .val (.int (5 : Int32)), .val (.ref s5_), .val (.ref w5_), .val (.int (own_cha2 w5_ d5_ kk5 (62 : Int32) (61 : Int32) cs fm)), .val (.int (1 : Int32))] [(.ref s5_)])) (fun _ k => XS.aloadN X23.here hx rfl (hb hby at_46) rfl rfl k) ?_
    obtain ⟨cq24, kq24, q24a, q24b, q24c⟩ := isOf hZ e23 hp38
    obtain ⟨_, _, ⟨T24, L24, k24, n24⟩, -, X24, ⟨Lc24, hQ24, l24, y24, z24⟩, st24⟩ := X23.virtualBack hx (y := (⟨"com/example/labels_in_order/labelsinorder/Comparison", "ordering", "()Z"⟩ : MethodName)) (z := (⟨"com/example/labels_in_order/labelsinorder/Comparison", "ordering", "()Z"⟩ : MethodName)) hown (mvT hZ (hw _ (List.mem_of_getElem? (i := 43) rfl))) (mvT hZ (hw _ (List.mem_of_getElem? (i := 44) rfl))) (notFace_of_selects (args := #[]) (mvT hZ (hw _ (List.mem_of_getElem? (i := 46) rfl)))) (mvT hZ (hw _ (List.mem_of_getElem? (i := 46) rfl))) (mvT hZ (hw _ (List.mem_of_getElem? (i := 45) rfl))) (by decide) (backOf (W := 0) (rmO l Z a0 hw [] s5_ s0_ s1_ h0 n0 Z0 hp0 hp1) hZ (hw _ (List.mem_of_getElem? (i := 47) rfl)) (hw _ (List.mem_of_getElem? (i := 6) rfl)) (by decide) (by decide)) q24a q24c (g := (mkF m 47 #[.val (.int p0), .val (.int (5 : Int32)), .val (.ref s5_), .val (.ref w5_), .val (.int (own_cha2 w5_ d5_ kk5 (62 : Int32) (61 : Int32) cs fm)), .val (.int (1 : Int32))] [(.ref s5_)])) rfl (by rw [hml]; rfl) (Steps.refl _) (argsL := []) (rest := []) (lenOf own_pd2 rfl) rfl (by show 2 * 0 + _ ≤ _; exact Nat.le_of_eq rfl) (hb hby at_47) (fun _ _ => ⟨rfl, e23, (by decide : 0 + 0 ≤ _), (by decide : 0 + 0 ≤ _)⟩)
    dsimp only [Pt.U, Pt.locs, Pt.cells, Pt.slots] at X24 l24 y24 z24 st24 hQ24
    subst l24 y24 z24
    obtain ⟨rfl, N24q, e24⟩ := hQ24
    have N24 := Fr.app N23 N24q
    refine own_go (T' := T24) (g' := (mkF m 50 #[.val (.int p0), .val (.int (5 : Int32)), .val (.ref s5_), .val (.ref w5_), .val (.int (own_cha2 w5_ d5_ kk5 (62 : Int32) (61 : Int32) cs fm)), .val (.int (1 : Int32))] [(.int (own_ord s5_ s0_ s1_))])) (fun _ k => st24.trans k) ?_
    refine own_go (T' := T24) (g' := (mkF m 52 #[.val (.int p0), .val (.int (5 : Int32)), .val (.ref s5_), .val (.ref w5_), .val (.int (own_cha2 w5_ d5_ kk5 (62 : Int32) (61 : Int32) cs fm)), .val (.int (1 : Int32))] [(.int (1 : Int32)), (.int (own_ord s5_ s0_ s1_))])) (fun _ k => XS.iload X24.here hx rfl (hb hby at_50) rfl k) ?_
    refine own_go (T' := T24) (g' := (mkF m 55 #[.val (.int p0), .val (.int (5 : Int32)), .val (.ref s5_), .val (.ref w5_), .val (.int (own_cha2 w5_ d5_ kk5 (62 : Int32) (61 : Int32) cs fm)), .val (.int (1 : Int32))] [])) (fun _ k => XS.icmpNo X24.here hx rfl (hb hby at_52) rfl (XT.ii_ne_f (by unfold own_ord; simp [hh8, hh9])) k) ?_
    refine own_go (T' := T24) (g' := (mkF m 56 #[.val (.int p0), .val (.int (5 : Int32)), .val (.ref s5_), .val (.ref w5_), .val (.int (own_cha2 w5_ d5_ kk5 (62 : Int32) (61 : Int32) cs fm)), .val (.int (1 : Int32))] [(.int (1 : Int32))])) (fun _ k => XS.iconst X24.here hx rfl (hb hby at_55) k) ?_
    refine own_go (T' := T24) (g' := (mkF m 60 #[.val (.int p0), .val (.int (5 : Int32)), .val (.ref s5_), .val (.ref w5_), .val (.int (own_cha2 w5_ d5_ kk5 (62 : Int32) (61 : Int32) cs fm)), .val (.int (1 : Int32))] [(.int (1 : Int32))])) (fun _ k => XS.goto X24.here hx rfl (pc0 := 56) (pc' := 60) rfl (hb hby at_56) (by decide) (by decide) k) ?_
    exact own_retN X24 hx (t := .boolean) Bd.returns hlk (by simp) (hb hby at_60) e24 ⟨rfl, N24⟩ (by decide) (by decide)
theorem own_arv {args : Array Value} {s : State} {t : Term} {a : Addr} {n : Int32} {vs : List Value} {dv : Value} (hf : Fit s) (ev : t.eval args s none [] s = some (.ref a)) (hA : (Cond.arrayOf t .byte).value args s none s [] = some true)
    (hL : (Cond.eq (Term.length t) (.int n)).value args s none s [] = some true) (hn : ¬ n < 0) (hl : n.toNatClampNeg = vs.length) (hv : ∀ cl, s.heap[a]? = some cl → HasL cl 0 vs) : ∃ k, Arv s s.heap a k .byte n vs dv := by
  obtain ⟨c, A⟩ := Arr.start ev hA
  have h := Jvm.Free.NT.SwA.eq_int (Cond.before_iff.mpr hL)
  have ha : s.arrayAt? a = some c := IntBox.arrayAt_of A.1 A.2.1 A.2.2
  simp only [Term.eval, ev, ha, Option.bind_eq_bind, Option.bind_some] at h
  split at h
  · rename_i q
    exact ⟨_, Arv.start hf A q (Value.int.inj (Option.some.inj h)) hn hl (hv _ A.1)⟩
  · cases h
theorem own_el {args : Array Value} {s : State} {t : Term} {a : Addr} {i v : Int32} {cl : Cell} (ev : t.eval args s none [] s = some (.ref a)) (h : (Cond.eq (Term.elem t (.int i)) (.int v)).value args s none s [] = some true) (hc : s.heap[a]? = some cl) : cl.slots[i.toNatClampNeg]? = some (.int v) :=
  (elem_in (Jvm.Free.NT.SwA.eq_int (Cond.before_iff.mpr h)) ev (Term.int_eval i) hc).2
set_option maxRecDepth 65536 in
set_option maxHeartbeats 40000000 in
theorem comes_1 {Post : Tables → Env → Array Value → State → Outcome → State → Prop} (hpost : ∀ tb e args s v u, (limb_1_1.after args s (.returned v) u = true ∧ limb_1_2.after args s (.returned v) u = true ∧ True) → FrameEnd s (.returned v) u (Jvm.fieldLocs frame_1_writes args s ++ Jvm.arrayLocs frame_1_arrays args s ++ Jvm.staticLocs frame_1_statics s) 0 0 → Post tb e args s (.returned v) u) :
    ArmFor flags0 classFile x code maxLocals ret World_1 tables_1 room_1 Calls_1 rest_1 Pre_1 Post := by
  intro l hfl _ _ p e ha hc hk s m args below hf hA hF happ hP
  obtain ⟨hcalls, hrest, hpre⟩ := hP
  obtain ⟨-, -, -, hnamed, -, -, -, hat⟩ := (Spec.applies_iff hf).mp happ
  obtain ⟨hg, hn⟩ := and_e (Cond.before_iff.mp (show (Jvm.Cond.and given_1 narrow_1).before args s = true from hpre))
  obtain ⟨g1, g2⟩ := and_e hg
  obtain ⟨w0, rfl⟩ : ∃ w0 : Value, args = #[w0] := by
    have hs : args.size = 1 := by simpa [Cond.value, given_1] using g1
    obtain ⟨L⟩ := args
    match L, hs with
    | [w0], _ => exact ⟨w0, rfl⟩
  have hw := fun d (hd : d ∈ tables_1) => atoms_spec (ws := Jvm.Cond.code x code maxLocals ret :: tables_1) hat d (List.mem_cons_of_mem _ hd)
  have hfit : Fit s := fun {y c} hc i hi => by
    obtain ⟨ha, rfl⟩ := Array.getElem?_eq_some_iff.mp hc
    have q := List.all_eq_true.mp ((Array.all_eq_true_iff_forall_mem.mp hF) _ (Array.getElem_mem ha)) i (List.mem_range.mpr hi)
    simpa [Array.getElem?_eq_getElem hi] using q
  obtain ⟨hsets, hown0⟩ := atoms_of _ (rest_1_c_eq ▸ (show rest_1_c.before _ s = true from hrest))
  have hr0 := Cond.before_iff.mp hown0
  obtain ⟨i0, ei0⟩ := is_v g2
  obtain rfl : w0 = (.int i0) := Option.some.inj ei0
  obtain ⟨nw1, nv1⟩ := and_e hn
  obtain ⟨nw2, nv2⟩ := and_e nv1
  obtain ⟨nw3, nv3⟩ := and_e nv2
  obtain ⟨nw4, nv4⟩ := and_e nv3
  obtain ⟨nw5, nv5⟩ := and_e nv4
  obtain ⟨nw6, nv6⟩ := and_e nv5
  obtain ⟨nw7, nv7⟩ := and_e nv6
  obtain ⟨nw8, nv8⟩ := and_e nv7
  obtain ⟨nw9, nv9⟩ := and_e nv8
  obtain ⟨nw10, nv10⟩ := and_e nv9
  obtain ⟨nw11, nv11⟩ := and_e nv10
  obtain ⟨nw12, nv12⟩ := and_e nv11
  obtain ⟨nw13, nv13⟩ := and_e nv12
  obtain ⟨nw14, nv14⟩ := and_e nv13
  obtain ⟨nw15, nv15⟩ := and_e nv14
  obtain ⟨nw16, nv16⟩ := and_e nv15
  obtain ⟨nw17, nv17⟩ := and_e nv16
  obtain ⟨nw18, nv18⟩ := and_e nv17
  obtain ⟨nw19, nv19⟩ := and_e nv18
  obtain ⟨nw20, nv20⟩ := and_e nv19
  obtain ⟨nw21, nv21⟩ := and_e nv20
  obtain ⟨nw22, nv22⟩ := and_e nv21
  obtain ⟨nw23, nv23⟩ := and_e nv22
  obtain ⟨nw24, nv24⟩ := and_e nv23
  obtain ⟨nw25, nv25⟩ := and_e nv24
  obtain ⟨nw26, nv26⟩ := and_e nv25
  obtain ⟨nw27, nv27⟩ := and_e nv26
  obtain ⟨nw28, nv28⟩ := and_e nv27
  obtain ⟨nw29, nv29⟩ := and_e nv28
  obtain ⟨nw30, nv30⟩ := and_e nv29
  obtain ⟨nw31, nv31⟩ := and_e nv30
  obtain ⟨nw32, nv32⟩ := and_e nv31
  obtain ⟨nw33, nv33⟩ := and_e nv32
  obtain ⟨nw34, nv34⟩ := and_e nv33
  obtain ⟨nw35, nv35⟩ := and_e nv34
  obtain ⟨nw36, nv36⟩ := and_e nv35
  obtain ⟨nw37, nv37⟩ := and_e nv36
  obtain ⟨nw38, nv38⟩ := and_e nv37
  obtain ⟨nw39, nv39⟩ := and_e nv38
  obtain ⟨nw40, nv40⟩ := and_e nv39
  obtain ⟨nw41, nv41⟩ := and_e nv40
  obtain ⟨nw42, nv42⟩ := and_e nv41
  obtain ⟨nw43, nv43⟩ := and_e nv42
  obtain ⟨nw44, nv44⟩ := and_e nv43
  obtain ⟨s0_, ev_s0_⟩ := exa_v nw1
  have E_s0_ : Exa s s.heap s0_ "com/example/labels_in_order/labelsinorder/Comparison" := Exa.start ev_s0_ nw1
  have S_s0_ : Sta s s.heap "com/example/labels_in_order/labelsinorder/Comparison" "EQUAL" "Lcom/example/labels_in_order/labelsinorder/Comparison;" (.ref s0_) := Sta.start ev_s0_ (Or.inr ⟨(hw _ (List.mem_of_getElem? (i := 6) rfl)), (hw _ (List.mem_of_getElem? (i := 7) rfl))⟩)
  have O_s0_ := Fld.start ((fld_at ev_s0_).symm.trans (Jvm.Free.NT.SwA.eq_int (Cond.before_iff.mpr nw14)))
  obtain ⟨w0_, ev_w0_⟩ := exa_v nw2
  have E_w0_ : Exa s s.heap w0_ "java/lang/String" := Exa.start ev_w0_ nw2
  have F_s0_ := Fld.start ((fld_at ev_s0_).symm.trans ev_w0_)
  have C_w0_ := Fld.start ((fld_at ev_w0_).symm.trans (Jvm.Free.NT.SwA.eq_int (Cond.before_iff.mpr nw3)))
  obtain ⟨d0_, ev_d0_⟩ := arr_v nw4
  have V_w0_ := Fld.start ((fld_at ev_w0_).symm.trans ev_d0_)
  obtain ⟨kk0, A_d0_⟩ := own_arv (dv := (.int (0 : Int32))) (vs := [(.int (61 : Int32))]) hfit ev_d0_ nw4 nw5 (by decide) (by decide) (fun cl hc => ⟨own_el ev_d0_ nw6 hc, trivial⟩)
  obtain ⟨s1_, ev_s1_⟩ := exa_v nw15
  have E_s1_ : Exa s s.heap s1_ "com/example/labels_in_order/labelsinorder/Comparison" := Exa.start ev_s1_ nw15
  have S_s1_ : Sta s s.heap "com/example/labels_in_order/labelsinorder/Comparison" "NOT_EQUAL" "Lcom/example/labels_in_order/labelsinorder/Comparison;" (.ref s1_) := Sta.start ev_s1_ (Or.inr ⟨(hw _ (List.mem_of_getElem? (i := 6) rfl)), (hw _ (List.mem_of_getElem? (i := 52) rfl))⟩)
  have O_s1_ := Fld.start ((fld_at ev_s1_).symm.trans (Jvm.Free.NT.SwA.eq_int (Cond.before_iff.mpr nw16)))
  obtain ⟨w1_, ev_w1_⟩ := exa_v nw24
  have E_w1_ : Exa s s.heap w1_ "java/lang/String" := Exa.start ev_w1_ nw24
  have F_s1_ := Fld.start ((fld_at ev_s1_).symm.trans ev_w1_)
  have C_w1_ := Fld.start ((fld_at ev_w1_).symm.trans (Jvm.Free.NT.SwA.eq_int (Cond.before_iff.mpr nw25)))
  obtain ⟨d1_, ev_d1_⟩ := arr_v nw26
  have V_w1_ := Fld.start ((fld_at ev_w1_).symm.trans ev_d1_)
  obtain ⟨kk1, A_d1_⟩ := own_arv (dv := (.int (0 : Int32))) (vs := [(.int (33 : Int32)), (.int (61 : Int32))]) hfit ev_d1_ nw26 nw27 (by decide) (by decide) (fun cl hc => ⟨own_el ev_d1_ nw28 hc, own_el ev_d1_ nw44 hc, trivial⟩)
  obtain ⟨s2_, ev_s2_⟩ := exa_v nw17
  have E_s2_ : Exa s s.heap s2_ "com/example/labels_in_order/labelsinorder/Comparison" := Exa.start ev_s2_ nw17
  have S_s2_ : Sta s s.heap "com/example/labels_in_order/labelsinorder/Comparison" "LESS" "Lcom/example/labels_in_order/labelsinorder/Comparison;" (.ref s2_) := Sta.start ev_s2_ (Or.inr ⟨(hw _ (List.mem_of_getElem? (i := 6) rfl)), (hw _ (List.mem_of_getElem? (i := 54) rfl))⟩)
  have O_s2_ := Fld.start ((fld_at ev_s2_).symm.trans (Jvm.Free.NT.SwA.eq_int (Cond.before_iff.mpr nw23)))
  obtain ⟨w2_, ev_w2_⟩ := exa_v nw18
  have E_w2_ : Exa s s.heap w2_ "java/lang/String" := Exa.start ev_w2_ nw18
  have F_s2_ := Fld.start ((fld_at ev_s2_).symm.trans ev_w2_)
  have C_w2_ := Fld.start ((fld_at ev_w2_).symm.trans (Jvm.Free.NT.SwA.eq_int (Cond.before_iff.mpr nw19)))
  obtain ⟨d2_, ev_d2_⟩ := arr_v nw20
  have V_w2_ := Fld.start ((fld_at ev_w2_).symm.trans ev_d2_)
  obtain ⟨kk2, A_d2_⟩ := own_arv (dv := (.int (0 : Int32))) (vs := [(.int (60 : Int32))]) hfit ev_d2_ nw20 nw21 (by decide) (by decide) (fun cl hc => ⟨own_el ev_d2_ nw22 hc, trivial⟩)
  obtain ⟨s3_, ev_s3_⟩ := exa_v nw7
  have E_s3_ : Exa s s.heap s3_ "com/example/labels_in_order/labelsinorder/Comparison" := Exa.start ev_s3_ nw7
  have S_s3_ : Sta s s.heap "com/example/labels_in_order/labelsinorder/Comparison" "LESS_OR_EQUAL" "Lcom/example/labels_in_order/labelsinorder/Comparison;" (.ref s3_) := Sta.start ev_s3_ (Or.inr ⟨(hw _ (List.mem_of_getElem? (i := 6) rfl)), (hw _ (List.mem_of_getElem? (i := 50) rfl))⟩)
  have O_s3_ := Fld.start ((fld_at ev_s3_).symm.trans (Jvm.Free.NT.SwA.eq_int (Cond.before_iff.mpr nw13)))
  obtain ⟨w3_, ev_w3_⟩ := exa_v nw8
  have E_w3_ : Exa s s.heap w3_ "java/lang/String" := Exa.start ev_w3_ nw8
  have F_s3_ := Fld.start ((fld_at ev_s3_).symm.trans ev_w3_)
  have C_w3_ := Fld.start ((fld_at ev_w3_).symm.trans (Jvm.Free.NT.SwA.eq_int (Cond.before_iff.mpr nw9)))
  obtain ⟨d3_, ev_d3_⟩ := arr_v nw10
  have V_w3_ := Fld.start ((fld_at ev_w3_).symm.trans ev_d3_)
  obtain ⟨kk3, A_d3_⟩ := own_arv (dv := (.int (0 : Int32))) (vs := [(.int (60 : Int32)), (.int (61 : Int32))]) hfit ev_d3_ nw10 nw11 (by decide) (by decide) (fun cl hc => ⟨own_el ev_d3_ nw12 hc, own_el ev_d3_ nw43 hc, trivial⟩)
  obtain ⟨s4_, ev_s4_⟩ := exa_v nw36
  have E_s4_ : Exa s s.heap s4_ "com/example/labels_in_order/labelsinorder/Comparison" := Exa.start ev_s4_ nw36
  have S_s4_ : Sta s s.heap "com/example/labels_in_order/labelsinorder/Comparison" "GREATER" "Lcom/example/labels_in_order/labelsinorder/Comparison;" (.ref s4_) := Sta.start ev_s4_ (Or.inr ⟨(hw _ (List.mem_of_getElem? (i := 6) rfl)), (hw _ (List.mem_of_getElem? (i := 59) rfl))⟩)
  have O_s4_ := Fld.start ((fld_at ev_s4_).symm.trans (Jvm.Free.NT.SwA.eq_int (Cond.before_iff.mpr nw42)))
  obtain ⟨w4_, ev_w4_⟩ := exa_v nw37
  have E_w4_ : Exa s s.heap w4_ "java/lang/String" := Exa.start ev_w4_ nw37
  have F_s4_ := Fld.start ((fld_at ev_s4_).symm.trans ev_w4_)
  have C_w4_ := Fld.start ((fld_at ev_w4_).symm.trans (Jvm.Free.NT.SwA.eq_int (Cond.before_iff.mpr nw38)))
  obtain ⟨d4_, ev_d4_⟩ := arr_v nw39
  have V_w4_ := Fld.start ((fld_at ev_w4_).symm.trans ev_d4_)
  obtain ⟨kk4, A_d4_⟩ := own_arv (dv := (.int (0 : Int32))) (vs := [(.int (62 : Int32))]) hfit ev_d4_ nw39 nw40 (by decide) (by decide) (fun cl hc => ⟨own_el ev_d4_ nw41 hc, trivial⟩)
  obtain ⟨s5_, ev_s5_⟩ := exa_v nw29
  have E_s5_ : Exa s s.heap s5_ "com/example/labels_in_order/labelsinorder/Comparison" := Exa.start ev_s5_ nw29
  have S_s5_ : Sta s s.heap "com/example/labels_in_order/labelsinorder/Comparison" "GREATER_OR_EQUAL" "Lcom/example/labels_in_order/labelsinorder/Comparison;" (.ref s5_) := Sta.start ev_s5_ (Or.inr ⟨(hw _ (List.mem_of_getElem? (i := 6) rfl)), (hw _ (List.mem_of_getElem? (i := 57) rfl))⟩)
  have O_s5_ := Fld.start ((fld_at ev_s5_).symm.trans (Jvm.Free.NT.SwA.eq_int (Cond.before_iff.mpr nw35)))
  obtain ⟨w5_, ev_w5_⟩ := exa_v nw30
  have E_w5_ : Exa s s.heap w5_ "java/lang/String" := Exa.start ev_w5_ nw30
  have F_s5_ := Fld.start ((fld_at ev_s5_).symm.trans ev_w5_)
  have C_w5_ := Fld.start ((fld_at ev_w5_).symm.trans (Jvm.Free.NT.SwA.eq_int (Cond.before_iff.mpr nw31)))
  obtain ⟨d5_, ev_d5_⟩ := arr_v nw32
  have V_w5_ := Fld.start ((fld_at ev_w5_).symm.trans ev_d5_)
  obtain ⟨kk5, A_d5_⟩ := own_arv (dv := (.int (0 : Int32))) (vs := [(.int (62 : Int32)), (.int (61 : Int32))]) hfit ev_d5_ nw32 nw33 (by decide) (by decide) (fun cl hc => ⟨own_el ev_d5_ nw34 hc, own_el ev_d5_ nv44 hc, trivial⟩)
  obtain ⟨csv, ecs⟩ := is_v (Cond.before_iff.mp (hsets _ (List.mem_of_getElem? (i := 1) rfl)))
  have Scs : Sta s s.heap "java/lang/String" "COMPACT_STRINGS" "Z" (.int csv) := Sta.start ecs (Or.inl (hsets _ (List.mem_of_getElem? (i := 0) rfl)))
  have ncs : ¬ csv = (0 : Int32) := gotF (Cond.eq_ints ecs (Term.int_eval (0))) (not_v (Cond.before_iff.mp (hsets _ (List.mem_of_getElem? (i := 2) rfl))))
  obtain ⟨fmv, efm, rfm⟩ := isR_v (Cond.before_iff.mp (hsets _ (List.mem_of_getElem? (i := 8) rfl)))
  have Sfm : Sta s s.heap "jdk/internal/util/Preconditions" "SIOOBE_FORMATTER" "Ljava/util/function/BiFunction;" fmv := Sta.start efm (Or.inl (hsets _ (List.mem_of_getElem? (i := 7) rfl)))
  obtain ⟨n, o, h1, h2, h3, _, L, rfl, ⟨rfl, N⟩, hq⟩ := rm0 l s _ hw tables_1 i0 s0_ s1_ s2_ s3_ s4_ s5_ csv fmv w0_ d0_ kk0 w1_ d1_ kk1 w2_ d2_ kk2 w3_ d3_ kk3 w4_ d4_ kk4 w5_ d5_ kk5 s.heap s.heap.size (Nat.le_refl _) S_s0_ S_s1_ S_s2_ S_s3_ S_s4_ S_s5_ Scs Sfm E_s0_ F_s0_ E_w0_ C_w0_ V_w0_ A_d0_ E_s1_ F_s1_ E_w1_ C_w1_ V_w1_ A_d1_ E_s2_ F_s2_ E_w2_ C_w2_ V_w2_ A_d2_ E_s3_ F_s3_ E_w3_ C_w3_ V_w3_ A_d3_ E_s4_ F_s4_ E_w4_ C_w4_ V_w4_ A_d4_ E_s5_ F_s5_ E_w5_ C_w5_ V_w5_ A_d5_ rfm ncs (O_s2_.ne O_s0_ (by decide)) (O_s2_.ne O_s1_ (by decide)) (O_s3_.ne O_s0_ (by decide)) (O_s3_.ne O_s1_ (by decide)) (O_s4_.ne O_s0_ (by decide)) (O_s4_.ne O_s1_ (by decide)) (O_s5_.ne O_s0_ (by decide)) (O_s5_.ne O_s1_ (by decide)) p e ha hc hk s m _ below hf ((Spec.applies_iff_loose hf).mp happ).1 ⟨rfl, State.Warmed39.refl s, rfl⟩ trivial
  refine ⟨n, _, h1, h2, h3, hpost _ _ _ _ _ _ ⟨Cond.after_iff.mpr rfl, Cond.after_iff.mpr (eq_i res_at (Term.int_eval (1)) rfl), trivial⟩ ⟨hq.1, hq.2.1, (hq.2.2.sift fun y hy => Or.inr (N y hy)).mono (by decide) (by decide)⟩⟩
theorem main_1_1 : Claimed_1_1 := comes_1 fun _ _ _ _ _ _ h hF => ⟨h.1, hF⟩
theorem main_1_2 : Claimed_1_2 := comes_1 fun _ _ _ _ _ _ h hF => ⟨h.2.1, hF⟩
end Jvm.Pilot.@@N@@
namespace Jvm.Pilot.@@N@@
open Jvm Jvm.ClassFile Sem Op Lib Jvm.Free Jvm.Stand Jvm.Pilot.@@N@@.Jvm.D
/-! MADE BY PROGRAM (witnessworld.py) out of the Statement's table words and the real class files: 18 classes; the members and pool entries that the words name. The judged class is class 1, her method 1. -/
namespace start1
open Jvm.ClassFile
def u (s : String) : CpInfo := .utf8 (stringToUtf16 s)
/-- a pool by its gaps: so many unusable entries, then the entry; so many at the end -/
def gap : Nat → List CpInfo → List CpInfo
  | 0, r => r
  | n + 1, r => .unusable :: gap n r
def poolList (es : List (Nat × CpInfo)) (last : Nat) : List CpInfo := es.foldr (fun e r => gap e.1 (e.2 :: r)) (gap last [])
def pool (es : List (Nat × CpInfo)) (last : Nat) : Array CpInfo := ⟨poolList es last⟩
def fileOf (pool : Array CpInfo) (this : Nat) (attrs : Array Attribute := #[]) (ms : Array MethodInfo := #[]) (fl : Nat := 33) (sup : Nat := 0) (ifs : Array Nat := #[]) (fds : Array FieldInfo := #[]) : ClassFile where
  minorVersion := 0
  majorVersion := 65
  constantPool := pool
  accessFlags := fl
  thisClass := this
  superClass := sup
  interfaces := ifs
  fields := fds
  methods := ms
  attributes := attrs
def plain (name : String) (sup : Option ClassId) : Class where
  name := name
  kind := .ordinary
  loader := none
  accessFlags := 33
  super := sup
  interfaces := #[]
  cf := none
  fields := #[]
  methods := #[]
  instanceTypes := #[]
  staticTypes := #[]
  resolved := #[]
  callSites := []
  init := .initialized
  statics := none
  mirror := none

def pool0 : Array CpInfo := pool [(5, u "<init>"), (0, u "()V"), (1, .class_ 10), (1, u "java/lang/Object")] 113

def k0m0 : Method := { name := "<init>", desc := "()V", sig := { parameters := [], returnType := none }, accessFlags := 1, code := none }
/-- java/lang/Object -/
def k0 : Class := { plain "java/lang/Object" none with
  accessFlags := 33
  interfaces := #[]
  cf := some (fileOf pool0 8 #[] #[{ accessFlags := 1, nameIndex := 5, descriptorIndex := 6, attributes := #[] }] 33 0 #[] #[])
  fields := #[]
  methods := #[k0m0]
  instanceTypes := #[]
  staticTypes := #[]
  resolved := Array.replicate 124 none
  statics := none }

def pool1 : Array CpInfo := pool [(2, .class_ 4), (1, u "java/lang/Object"), (0, u "<init>"), (0, u "()V"), (0, .integer 2147483647), (0, .methodref 9 10), (0, .class_ 11), (0, .nameAndType 12 13), (0, u "com/example/labels_in_order/labelsinorder/ComparisonOrderingPinLaw"), (0, u "pick"), (0, u "(I)Lcom/example/labels_in_order/labelsinorder/Comparison;"), (0, .methodref 15 16), (0, .class_ 17), (0, .nameAndType 18 19), (0, u "com/example/labels_in_order/labelsinorder/Comparison"), (0, u "written"), (0, u "()Ljava/lang/String;"), (0, .methodref 21 22), (0, .class_ 23), (0, .nameAndType 24 25), (0, u "java/lang/String"), (0, u "charAt"), (0, u "(I)C"), (0, .methodref 15 27), (0, .nameAndType 28 29), (0, u "ordering"), (0, u "()Z"), (0, .fieldref 15 31), (0, .nameAndType 32 33), (0, u "EQUAL"), (0, u "Lcom/example/labels_in_order/labelsinorder/Comparison;"), (0, .fieldref 15 35), (0, .nameAndType 36 33), (0, u "NOT_EQUAL"), (0, .fieldref 15 38), (0, .nameAndType 39 33), (0, u "LESS"), (0, .fieldref 15 41), (0, .nameAndType 42 33), (0, u "LESS_OR_EQUAL"), (0, .fieldref 15 44), (0, .nameAndType 45 33), (0, u "GREATER"), (0, .fieldref 15 47), (0, .nameAndType 48 33), (0, u "GREATER_OR_EQUAL"), (2, u "law"), (0, u "(I)Z")] 3

def k1m0 : Method := { name := "<init>", desc := "()V", sig := { parameters := [], returnType := none }, accessFlags := 1, code := none }
def k1c1 : Code := { maxStack := 2, maxLocals := 6, code := code, exceptionTable := #[], attributes := #[] }
def k1m1 : Method := { name := "law", desc := "(I)Z", sig := { parameters := [.int], returnType := some .boolean }, accessFlags := 9, code := some k1c1 }
def k1c2 : Code := { maxStack := 2, maxLocals := 1, code := method_3_code, exceptionTable := #[], attributes := #[] }
def k1m2 : Method := { name := "pick", desc := "(I)Lcom/example/labels_in_order/labelsinorder/Comparison;", sig := { parameters := [.int], returnType := some (.object "com/example/labels_in_order/labelsinorder/Comparison") }, accessFlags := 10, code := some k1c2 }
/-- com/example/labels_in_order/labelsinorder/ComparisonOrderingPinLaw -/
def k1 : Class := { plain "com/example/labels_in_order/labelsinorder/ComparisonOrderingPinLaw" (some 0) with
  accessFlags := 49
  interfaces := #[]
  cf := some (fileOf pool1 9 #[] #[{ accessFlags := 1, nameIndex := 5, descriptorIndex := 6, attributes := #[] }, { accessFlags := 9, nameIndex := 51, descriptorIndex := 52, attributes := #[] }, { accessFlags := 10, nameIndex := 12, descriptorIndex := 13, attributes := #[] }] 49 2 #[] #[])
  fields := #[]
  methods := #[k1m0, k1m1, k1m2]
  instanceTypes := #[]
  staticTypes := #[]
  resolved := Array.replicate 56 none
  statics := none }

def pool2 : Array CpInfo := pool [(1, .class_ 2), (0, u "java/lang/constant/Constable"), (0, .class_ 4), (0, u "java/lang/Object")] 6

/-- java/lang/constant/Constable -/
def k2 : Class := { plain "java/lang/constant/Constable" (some 0) with
  accessFlags := 1537
  interfaces := #[]
  cf := some (fileOf pool2 1 #[] #[] 1537 3 #[] #[])
  fields := #[]
  methods := #[]
  instanceTypes := #[]
  staticTypes := #[]
  resolved := Array.replicate 11 none
  statics := none }

def pool3 : Array CpInfo := pool [(1, .class_ 2), (0, u "java/lang/Comparable"), (0, .class_ 4), (0, u "java/lang/Object")] 7

/-- java/lang/Comparable -/
def k3 : Class := { plain "java/lang/Comparable" (some 0) with
  accessFlags := 1537
  interfaces := #[]
  cf := some (fileOf pool3 1 #[] #[] 1537 3 #[] #[])
  fields := #[]
  methods := #[]
  instanceTypes := #[]
  staticTypes := #[]
  resolved := Array.replicate 12 none
  statics := none }

def pool4 : Array CpInfo := pool [(1, .class_ 2), (0, u "java/io/Serializable"), (0, .class_ 4), (0, u "java/lang/Object")] 2

/-- java/io/Serializable -/
def k4 : Class := { plain "java/io/Serializable" (some 0) with
  accessFlags := 1537
  interfaces := #[]
  cf := some (fileOf pool4 1 #[] #[] 1537 3 #[] #[])
  fields := #[]
  methods := #[]
  instanceTypes := #[]
  staticTypes := #[]
  resolved := Array.replicate 7 none
  statics := none }

def pool5 : Array CpInfo := pool [(2, .class_ 4), (1, u "java/lang/Enum"), (0, u "name"), (0, u "Ljava/lang/String;"), (2, u "ordinal"), (0, u "I"), (1, .class_ 14), (1, u "java/lang/Object"), (4, u "hash"), (86, .class_ 108), (1, u "java/lang/Enum$EnumDesc"), (2, .class_ 112), (0, u "java/lang/constant/Constable"), (0, .class_ 114), (0, u "java/lang/Comparable"), (0, .class_ 116), (0, u "java/io/Serializable")] 87

/-- java/lang/Enum -/
def k5 : Class := { plain "java/lang/Enum" (some 0) with
  accessFlags := 1057
  interfaces := #[2, 3, 4]
  cf := some (fileOf pool5 2 #[.nestMembers #[106]] #[] 1057 12 #[111, 113, 115] #[{ accessFlags := 18, nameIndex := 5, descriptorIndex := 6, attributes := #[] }, { accessFlags := 18, nameIndex := 9, descriptorIndex := 10, attributes := #[] }, { accessFlags := 2, nameIndex := 19, descriptorIndex := 10, attributes := #[] }])
  fields := #[{ name := "name", type := (.object "java/lang/String"), accessFlags := 18, slot := 0, constantValue := 0 }, { name := "ordinal", type := .int, accessFlags := 18, slot := 1, constantValue := 0 }, { name := "hash", type := .int, accessFlags := 2, slot := 2, constantValue := 0 }]
  methods := #[]
  instanceTypes := #[(.object "java/lang/String"), .int, .int]
  staticTypes := #[]
  resolved := Array.replicate 204 none
  statics := none }

def pool6 : Array CpInfo := pool [(1, .class_ 2), (0, u "com/example/labels_in_order/labelsinorder/Comparison"), (0, .fieldref 1 4), (0, .nameAndType 5 6), (0, u "EQUAL"), (0, u "Lcom/example/labels_in_order/labelsinorder/Comparison;"), (0, .fieldref 1 8), (0, .nameAndType 9 6), (0, u "NOT_EQUAL"), (2, u "LESS"), (2, u "LESS_OR_EQUAL"), (2, u "GREATER"), (2, u "GREATER_OR_EQUAL"), (2, u "$VALUES"), (0, u "[Lcom/example/labels_in_order/labelsinorder/Comparison;"), (6, .class_ 34), (1, u "java/lang/Enum"), (6, .fieldref 1 42), (0, .nameAndType 43 44), (0, u "written"), (0, u "Ljava/lang/String;"), (50, u "()Ljava/lang/String;"), (0, u "ordering"), (0, u "()Z")] 9

def k6c0 : Code := { maxStack := 1, maxLocals := 1, code := prog_8_method_5_code, exceptionTable := #[], attributes := #[] }
def k6m0 : Method := { name := "written", desc := "()Ljava/lang/String;", sig := { parameters := [], returnType := some (.object "java/lang/String") }, accessFlags := 0, code := some k6c0 }
def k6c1 : Code := { maxStack := 2, maxLocals := 1, code := prog_8_method_6_code, exceptionTable := #[], attributes := #[] }
def k6m1 : Method := { name := "ordering", desc := "()Z", sig := { parameters := [], returnType := some .boolean }, accessFlags := 0, code := some k6c1 }
/-- com/example/labels_in_order/labelsinorder/Comparison -/
def k6 : Class := { plain "com/example/labels_in_order/labelsinorder/Comparison" (some 5) with
  accessFlags := 16432
  interfaces := #[]
  cf := some (fileOf pool6 1 #[] #[{ accessFlags := 0, nameIndex := 43, descriptorIndex := 95, attributes := #[] }, { accessFlags := 0, nameIndex := 96, descriptorIndex := 97, attributes := #[] }] 16432 32 #[] #[{ accessFlags := 16409, nameIndex := 5, descriptorIndex := 6, attributes := #[] }, { accessFlags := 16409, nameIndex := 9, descriptorIndex := 6, attributes := #[] }, { accessFlags := 16409, nameIndex := 12, descriptorIndex := 6, attributes := #[] }, { accessFlags := 16409, nameIndex := 15, descriptorIndex := 6, attributes := #[] }, { accessFlags := 16409, nameIndex := 18, descriptorIndex := 6, attributes := #[] }, { accessFlags := 16409, nameIndex := 21, descriptorIndex := 6, attributes := #[] }, { accessFlags := 18, nameIndex := 43, descriptorIndex := 44, attributes := #[] }, { accessFlags := 4122, nameIndex := 24, descriptorIndex := 25, attributes := #[] }])
  fields := #[{ name := "EQUAL", type := (.object "com/example/labels_in_order/labelsinorder/Comparison"), accessFlags := 16409, slot := 0, constantValue := 0 }, { name := "NOT_EQUAL", type := (.object "com/example/labels_in_order/labelsinorder/Comparison"), accessFlags := 16409, slot := 1, constantValue := 0 }, { name := "LESS", type := (.object "com/example/labels_in_order/labelsinorder/Comparison"), accessFlags := 16409, slot := 2, constantValue := 0 }, { name := "LESS_OR_EQUAL", type := (.object "com/example/labels_in_order/labelsinorder/Comparison"), accessFlags := 16409, slot := 3, constantValue := 0 }, { name := "GREATER", type := (.object "com/example/labels_in_order/labelsinorder/Comparison"), accessFlags := 16409, slot := 4, constantValue := 0 }, { name := "GREATER_OR_EQUAL", type := (.object "com/example/labels_in_order/labelsinorder/Comparison"), accessFlags := 16409, slot := 5, constantValue := 0 }, { name := "written", type := (.object "java/lang/String"), accessFlags := 18, slot := 3, constantValue := 0 }, { name := "$VALUES", type := (.array (.object "com/example/labels_in_order/labelsinorder/Comparison")), accessFlags := 4122, slot := 6, constantValue := 0 }]
  methods := #[k6m0, k6m1]
  instanceTypes := #[(.object "java/lang/String"), .int, .int, (.object "java/lang/String")]
  staticTypes := #[(.object "com/example/labels_in_order/labelsinorder/Comparison"), (.object "com/example/labels_in_order/labelsinorder/Comparison"), (.object "com/example/labels_in_order/labelsinorder/Comparison"), (.object "com/example/labels_in_order/labelsinorder/Comparison"), (.object "com/example/labels_in_order/labelsinorder/Comparison"), (.object "com/example/labels_in_order/labelsinorder/Comparison"), (.array (.object "com/example/labels_in_order/labelsinorder/Comparison"))]
  resolved := Array.replicate 107 none
  statics := some 0 }

def pool7 : Array CpInfo := pool [(2, .class_ 4), (1, u "java/lang/CharSequence"), (42, .class_ 48), (0, u "java/lang/CharSequence$1CodePointIterator"), (10, .class_ 60), (0, u "java/lang/CharSequence$1CharIterator"), (5, .class_ 67), (0, u "java/lang/Object")] 63

/-- java/lang/CharSequence -/
def k7 : Class := { plain "java/lang/CharSequence" (some 0) with
  accessFlags := 1537
  interfaces := #[]
  cf := some (fileOf pool7 2 #[.nestMembers #[47, 59]] #[] 1537 66 #[] #[])
  fields := #[]
  methods := #[]
  instanceTypes := #[]
  staticTypes := #[]
  resolved := Array.replicate 131 none
  statics := none }

def pool8 : Array CpInfo := pool [(1, .class_ 2), (0, u "java/lang/constant/ConstantDesc"), (0, .class_ 4), (0, u "java/lang/Object")] 32

/-- java/lang/constant/ConstantDesc -/
def k8 : Class := { plain "java/lang/constant/ConstantDesc" (some 0) with
  accessFlags := 1537
  interfaces := #[]
  cf := some (fileOf pool8 1 #[] #[] 1537 3 #[] #[])
  fields := #[]
  methods := #[]
  instanceTypes := #[]
  staticTypes := #[]
  resolved := Array.replicate 37 none
  statics := none }

def pool9 : Array CpInfo := pool [(2, .class_ 4), (1, u "java/lang/Object"), (0, u "<init>"), (0, u "()V"), (2, .fieldref 10 11), (0, .class_ 12), (0, .nameAndType 13 14), (0, u "java/lang/String"), (0, u "value"), (0, u "[B"), (0, .fieldref 10 16), (0, .nameAndType 17 18), (0, u "coder"), (0, u "B"), (2, u "hash"), (0, u "I"), (2, u "hashIsZero"), (0, u "Z"), (11, .fieldref 10 39), (0, .nameAndType 40 26), (0, u "COMPACT_STRINGS"), (66, .class_ 109), (1, u "java/lang/StringLatin1"), (32, u "()Z"), (220, u "([BI)C"), (27, u "(II)V"), (35, u "(I)C"), (64, .methodref 10 493), (0, .nameAndType 494 142), (0, u "isLatin1"), (0, .methodref 107 496), (0, .nameAndType 497 363), (0, u "charAt"), (3, u "checkIndex"), (73, .class_ 576), (0, u "java/lang/CharSequence"), (22, u "CASE_INSENSITIVE_ORDER"), (0, u "Ljava/util/Comparator;"), (452, .fieldref 1054 1055), (0, .class_ 1056), (0, .nameAndType 1057 1058), (0, u "jdk/internal/util/Preconditions"), (0, u "SIOOBE_FORMATTER"), (0, u "Ljava/util/function/BiFunction;"), (0, .methodref 1054 1060), (0, .nameAndType 501 1061), (0, u "(IILjava/util/function/BiFunction;)I"), (39, u "serialPersistentFields"), (0, u "[Ljava/io/ObjectStreamField;"), (0, .class_ 1104), (0, u "java/lang/String$CaseInsensitiveComparator"), (1, .class_ 1107), (0, u "java/io/Serializable"), (0, .class_ 1109), (0, u "java/lang/Comparable"), (0, .class_ 1111), (0, u "java/lang/constant/Constable"), (0, .class_ 1113), (0, u "java/lang/constant/ConstantDesc"), (2, u "serialVersionUID"), (0, u "J"), (3, u "REPL"), (0, u "C"), (2, u "LATIN1"), (1, u "UTF16")] 323

def k9m0 : Method := { name := "<init>", desc := "()V", sig := { parameters := [], returnType := none }, accessFlags := 1, code := none }
def k9c1 : Code := { maxStack := 2, maxLocals := 2, code := jdk_42_method_56_code, exceptionTable := #[], attributes := #[] }
def k9m1 : Method := { name := "charAt", desc := "(I)C", sig := { parameters := [.int], returnType := some .char }, accessFlags := 1, code := some k9c1 }
def k9c2 : Code := { maxStack := 1, maxLocals := 1, code := jdk_42_method_154_code, exceptionTable := #[], attributes := #[] }
def k9m2 : Method := { name := "isLatin1", desc := "()Z", sig := { parameters := [], returnType := some .boolean }, accessFlags := 0, code := some k9c2 }
def k9c3 : Code := { maxStack := 3, maxLocals := 2, code := jdk_42_method_155_code, exceptionTable := #[], attributes := #[] }
def k9m3 : Method := { name := "checkIndex", desc := "(II)V", sig := { parameters := [.int, .int], returnType := none }, accessFlags := 8, code := some k9c3 }
/-- java/lang/String -/
def k9 : Class := { plain "java/lang/String" (some 0) with
  accessFlags := 49
  interfaces := #[4, 3, 7, 2, 8]
  cf := some (fileOf pool9 10 #[.nestMembers #[1103]] #[{ accessFlags := 1, nameIndex := 5, descriptorIndex := 6, attributes := #[] }, { accessFlags := 1, nameIndex := 497, descriptorIndex := 427, attributes := #[] }, { accessFlags := 0, nameIndex := 494, descriptorIndex := 142, attributes := #[] }, { accessFlags := 8, nameIndex := 501, descriptorIndex := 391, attributes := #[] }] 49 2 #[1106, 1108, 575, 1110, 1112] #[{ accessFlags := 18, nameIndex := 13, descriptorIndex := 14, attributes := #[] }, { accessFlags := 18, nameIndex := 17, descriptorIndex := 18, attributes := #[] }, { accessFlags := 2, nameIndex := 21, descriptorIndex := 22, attributes := #[] }, { accessFlags := 2, nameIndex := 25, descriptorIndex := 26, attributes := #[] }, { accessFlags := 26, nameIndex := 1116, descriptorIndex := 1117, attributes := #[] }, { accessFlags := 24, nameIndex := 40, descriptorIndex := 26, attributes := #[] }, { accessFlags := 26, nameIndex := 1101, descriptorIndex := 1102, attributes := #[] }, { accessFlags := 26, nameIndex := 1121, descriptorIndex := 1122, attributes := #[] }, { accessFlags := 25, nameIndex := 599, descriptorIndex := 600, attributes := #[] }, { accessFlags := 24, nameIndex := 1125, descriptorIndex := 18, attributes := #[] }, { accessFlags := 24, nameIndex := 1127, descriptorIndex := 18, attributes := #[] }])
  fields := #[{ name := "value", type := (.array .byte), accessFlags := 18, slot := 0, constantValue := 0 }, { name := "coder", type := .byte, accessFlags := 18, slot := 1, constantValue := 0 }, { name := "hash", type := .int, accessFlags := 2, slot := 2, constantValue := 0 }, { name := "hashIsZero", type := .boolean, accessFlags := 2, slot := 3, constantValue := 0 }, { name := "serialVersionUID", type := .long, accessFlags := 26, slot := 0, constantValue := 0 }, { name := "COMPACT_STRINGS", type := .boolean, accessFlags := 24, slot := 1, constantValue := 0 }, { name := "serialPersistentFields", type := (.array (.object "java/io/ObjectStreamField")), accessFlags := 26, slot := 2, constantValue := 0 }, { name := "REPL", type := .char, accessFlags := 26, slot := 3, constantValue := 0 }, { name := "CASE_INSENSITIVE_ORDER", type := (.object "java/util/Comparator"), accessFlags := 25, slot := 4, constantValue := 0 }, { name := "LATIN1", type := .byte, accessFlags := 24, slot := 5, constantValue := 0 }, { name := "UTF16", type := .byte, accessFlags := 24, slot := 6, constantValue := 0 }]
  methods := #[k9m0, k9m1, k9m2, k9m3]
  instanceTypes := #[(.array .byte), .byte, .int, .boolean]
  staticTypes := #[.long, .boolean, (.array (.object "java/io/ObjectStreamField")), .char, (.object "java/util/Comparator"), .byte, .byte]
  resolved := Array.replicate 1451 none
  statics := some 1 }

def pool10 : Array CpInfo := pool [(1, .class_ 2), (0, u "java/lang/String"), (1, .class_ 6), (1, u "java/lang/Object"), (0, u "<init>"), (0, u "()V"), (0, .methodref 1 10), (0, .nameAndType 11 12), (0, u "checkIndex"), (0, u "(II)V"), (1, .class_ 16), (1, u "java/lang/StringLatin1"), (36, u "([BI)C"), (67, u "$assertionsDisabled"), (0, u "Z"), (98, .class_ 223), (1, u "java/lang/StringLatin1$LinesSpliterator"), (28, u "charAt"), (137, .class_ 391), (0, u "java/lang/StringLatin1$CharsSpliterator")] 3

def k10m0 : Method := { name := "<init>", desc := "()V", sig := { parameters := [], returnType := none }, accessFlags := 0, code := none }
def k10c1 : Code := { maxStack := 2, maxLocals := 2, code := jdk_43_method_2_code, exceptionTable := #[], attributes := #[] }
def k10m1 : Method := { name := "charAt", desc := "([BI)C", sig := { parameters := [(.array .byte), .int], returnType := some .char }, accessFlags := 9, code := some k10c1 }
/-- java/lang/StringLatin1 -/
def k10 : Class := { plain "java/lang/StringLatin1" (some 0) with
  accessFlags := 48
  interfaces := #[]
  cf := some (fileOf pool10 14 #[.nestMembers #[390, 221]] #[{ accessFlags := 0, nameIndex := 7, descriptorIndex := 8, attributes := #[] }, { accessFlags := 9, nameIndex := 252, descriptorIndex := 53, attributes := #[] }] 48 4 #[] #[{ accessFlags := 4120, nameIndex := 121, descriptorIndex := 122, attributes := #[] }])
  fields := #[{ name := "$assertionsDisabled", type := .boolean, accessFlags := 4120, slot := 0, constantValue := 0 }]
  methods := #[k10m0, k10m1]
  instanceTypes := #[]
  staticTypes := #[.boolean]
  resolved := Array.replicate 395 none
  statics := none }

def pool11 : Array CpInfo := pool [(2, .class_ 4), (1, u "java/lang/Object"), (0, u "<init>"), (0, u "()V"), (17, .class_ 26), (1, u "jdk/internal/util/Preconditions"), (6, u "checkIndex"), (21, .class_ 56), (0, u "jdk/internal/util/Preconditions$4"), (57, .class_ 115), (0, u "jdk/internal/util/Preconditions$1"), (7, u "SIOOBE_FORMATTER"), (0, u "Ljava/util/function/BiFunction;"), (0, .class_ 126), (0, u "jdk/internal/util/Preconditions$2"), (3, u "AIOOBE_FORMATTER"), (0, .class_ 132), (0, u "jdk/internal/util/Preconditions$3"), (3, u "IOOBE_FORMATTER"), (41, u "(IILjava/util/function/BiFunction;)I")] 15

def k11m0 : Method := { name := "<init>", desc := "()V", sig := { parameters := [], returnType := none }, accessFlags := 1, code := none }
def k11c1 : Code := { maxStack := 3, maxLocals := 3, code := jdk_41_method_11_code, exceptionTable := #[], attributes := #[] }
def k11m1 : Method := { name := "checkIndex", desc := "(IILjava/util/function/BiFunction;)I", sig := { parameters := [.int, .int, (.object "java/util/function/BiFunction")], returnType := some .int }, accessFlags := 9, code := some k11c1 }
/-- jdk/internal/util/Preconditions -/
def k11 : Class := { plain "jdk/internal/util/Preconditions" (some 0) with
  accessFlags := 33
  interfaces := #[]
  cf := some (fileOf pool11 24 #[.nestMembers #[55, 131, 125, 114]] #[{ accessFlags := 1, nameIndex := 5, descriptorIndex := 6, attributes := #[] }, { accessFlags := 9, nameIndex := 33, descriptorIndex := 178, attributes := #[] }] 33 2 #[] #[{ accessFlags := 25, nameIndex := 123, descriptorIndex := 124, attributes := #[] }, { accessFlags := 25, nameIndex := 130, descriptorIndex := 124, attributes := #[] }, { accessFlags := 25, nameIndex := 136, descriptorIndex := 124, attributes := #[] }])
  fields := #[{ name := "SIOOBE_FORMATTER", type := (.object "java/util/function/BiFunction"), accessFlags := 25, slot := 0, constantValue := 0 }, { name := "AIOOBE_FORMATTER", type := (.object "java/util/function/BiFunction"), accessFlags := 25, slot := 1, constantValue := 0 }, { name := "IOOBE_FORMATTER", type := (.object "java/util/function/BiFunction"), accessFlags := 25, slot := 2, constantValue := 0 }]
  methods := #[k11m0, k11m1]
  instanceTypes := #[]
  staticTypes := #[(.object "java/util/function/BiFunction"), (.object "java/util/function/BiFunction"), (.object "java/util/function/BiFunction")]
  resolved := Array.replicate 194 none
  statics := some 2 }

def pool12 : Array CpInfo := pool [(9, u "<init>"), (6, .class_ 18), (1, u "java/lang/Object"), (0, u "()V"), (1, .class_ 23), (1, u "jdk/internal/util/ArraysSupport"), (0, u "LOG2_ARRAY_LONG_INDEX_SCALE"), (0, u "I"), (2, u "U"), (0, u "Ljdk/internal/misc/Unsafe;"), (8, u "BIG_ENDIAN"), (0, u "Z"), (8, u "LOG2_BYTE_BIT_SIZE"), (4, u "LOG2_ARRAY_INT_INDEX_SCALE"), (54, u "JLA"), (0, u "Ljdk/internal/access/JavaLangAccess;"), (11, u "LOG2_ARRAY_BOOLEAN_INDEX_SCALE"), (9, u "LOG2_ARRAY_BYTE_INDEX_SCALE"), (5, u "LOG2_ARRAY_CHAR_INDEX_SCALE"), (5, u "LOG2_ARRAY_SHORT_INDEX_SCALE"), (18, u "LOG2_ARRAY_FLOAT_INDEX_SCALE"), (24, u "LOG2_ARRAY_DOUBLE_INDEX_SCALE"), (89, u "T_BOOLEAN"), (2, u "T_CHAR"), (1, u "T_FLOAT"), (1, u "T_DOUBLE"), (1, u "T_BYTE"), (1, u "T_SHORT"), (1, u "T_INT"), (1, u "T_LONG"), (1, u "SOFT_MAX_ARRAY_LENGTH")] 83

def k12m0 : Method := { name := "<init>", desc := "()V", sig := { parameters := [], returnType := none }, accessFlags := 2, code := none }
/-- jdk/internal/util/ArraysSupport -/
def k12 : Class := { plain "jdk/internal/util/ArraysSupport" (some 0) with
  accessFlags := 33
  interfaces := #[]
  cf := some (fileOf pool12 21 #[] #[{ accessFlags := 2, nameIndex := 9, descriptorIndex := 19, attributes := #[] }] 33 16 #[] #[{ accessFlags := 24, nameIndex := 28, descriptorIndex := 29, attributes := #[] }, { accessFlags := 26, nameIndex := 38, descriptorIndex := 39, attributes := #[] }, { accessFlags := 25, nameIndex := 121, descriptorIndex := 25, attributes := #[] }, { accessFlags := 25, nameIndex := 131, descriptorIndex := 25, attributes := #[] }, { accessFlags := 25, nameIndex := 137, descriptorIndex := 25, attributes := #[] }, { accessFlags := 25, nameIndex := 143, descriptorIndex := 25, attributes := #[] }, { accessFlags := 25, nameIndex := 53, descriptorIndex := 25, attributes := #[] }, { accessFlags := 25, nameIndex := 24, descriptorIndex := 25, attributes := #[] }, { accessFlags := 25, nameIndex := 162, descriptorIndex := 25, attributes := #[] }, { accessFlags := 25, nameIndex := 187, descriptorIndex := 25, attributes := #[] }, { accessFlags := 26, nameIndex := 48, descriptorIndex := 25, attributes := #[] }, { accessFlags := 25, nameIndex := 277, descriptorIndex := 25, attributes := #[] }, { accessFlags := 25, nameIndex := 280, descriptorIndex := 25, attributes := #[] }, { accessFlags := 25, nameIndex := 282, descriptorIndex := 25, attributes := #[] }, { accessFlags := 25, nameIndex := 284, descriptorIndex := 25, attributes := #[] }, { accessFlags := 25, nameIndex := 286, descriptorIndex := 25, attributes := #[] }, { accessFlags := 25, nameIndex := 288, descriptorIndex := 25, attributes := #[] }, { accessFlags := 25, nameIndex := 290, descriptorIndex := 25, attributes := #[] }, { accessFlags := 25, nameIndex := 292, descriptorIndex := 25, attributes := #[] }, { accessFlags := 26, nameIndex := 108, descriptorIndex := 109, attributes := #[] }, { accessFlags := 25, nameIndex := 294, descriptorIndex := 25, attributes := #[] }])
  fields := #[{ name := "U", type := (.object "jdk/internal/misc/Unsafe"), accessFlags := 24, slot := 0, constantValue := 0 }, { name := "BIG_ENDIAN", type := .boolean, accessFlags := 26, slot := 1, constantValue := 0 }, { name := "LOG2_ARRAY_BOOLEAN_INDEX_SCALE", type := .int, accessFlags := 25, slot := 2, constantValue := 0 }, { name := "LOG2_ARRAY_BYTE_INDEX_SCALE", type := .int, accessFlags := 25, slot := 3, constantValue := 0 }, { name := "LOG2_ARRAY_CHAR_INDEX_SCALE", type := .int, accessFlags := 25, slot := 4, constantValue := 0 }, { name := "LOG2_ARRAY_SHORT_INDEX_SCALE", type := .int, accessFlags := 25, slot := 5, constantValue := 0 }, { name := "LOG2_ARRAY_INT_INDEX_SCALE", type := .int, accessFlags := 25, slot := 6, constantValue := 0 }, { name := "LOG2_ARRAY_LONG_INDEX_SCALE", type := .int, accessFlags := 25, slot := 7, constantValue := 0 }, { name := "LOG2_ARRAY_FLOAT_INDEX_SCALE", type := .int, accessFlags := 25, slot := 8, constantValue := 0 }, { name := "LOG2_ARRAY_DOUBLE_INDEX_SCALE", type := .int, accessFlags := 25, slot := 9, constantValue := 0 }, { name := "LOG2_BYTE_BIT_SIZE", type := .int, accessFlags := 26, slot := 10, constantValue := 0 }, { name := "T_BOOLEAN", type := .int, accessFlags := 25, slot := 11, constantValue := 0 }, { name := "T_CHAR", type := .int, accessFlags := 25, slot := 12, constantValue := 0 }, { name := "T_FLOAT", type := .int, accessFlags := 25, slot := 13, constantValue := 0 }, { name := "T_DOUBLE", type := .int, accessFlags := 25, slot := 14, constantValue := 0 }, { name := "T_BYTE", type := .int, accessFlags := 25, slot := 15, constantValue := 0 }, { name := "T_SHORT", type := .int, accessFlags := 25, slot := 16, constantValue := 0 }, { name := "T_INT", type := .int, accessFlags := 25, slot := 17, constantValue := 0 }, { name := "T_LONG", type := .int, accessFlags := 25, slot := 18, constantValue := 0 }, { name := "JLA", type := (.object "jdk/internal/access/JavaLangAccess"), accessFlags := 26, slot := 19, constantValue := 0 }, { name := "SOFT_MAX_ARRAY_LENGTH", type := .int, accessFlags := 25, slot := 20, constantValue := 0 }]
  methods := #[k12m0]
  instanceTypes := #[]
  staticTypes := #[(.object "jdk/internal/misc/Unsafe"), .boolean, .int, .int, .int, .int, .int, .int, .int, .int, .int, .int, .int, .int, .int, .int, .int, .int, .int, (.object "jdk/internal/access/JavaLangAccess"), .int]
  resolved := Array.replicate 378 none
  statics := none }

def pool13 : Array CpInfo := pool [(1, u "java/lang/Cloneable"), (0, .class_ 1), (0, u "java/lang/Object"), (0, .class_ 3)] 3

/-- java/lang/Cloneable -/
def k13 : Class := { plain "java/lang/Cloneable" (some 0) with
  accessFlags := 1537
  interfaces := #[]
  cf := some (fileOf pool13 2 #[] #[] 1537 4 #[] #[])
  fields := #[]
  methods := #[]
  instanceTypes := #[]
  staticTypes := #[]
  resolved := Array.replicate 8 none
  statics := none }

/-- the primitive byte -/
def k14 : Class := { plain "byte" none with kind := .primitive 'B', accessFlags := 0x411 }
/-- [B -/
def k15 : Class := { plain "[B" (some 0) with kind := .array 14 .byte, interfaces := #[13, 4], accessFlags := 1041 }

/-- the primitive int -/
def k16 : Class := { plain "int" none with kind := .primitive 'I', accessFlags := 0x411 }
/-- [I -/
def k17 : Class := { plain "[I" (some 0) with kind := .array 16 .int, interfaces := #[13, 4], accessFlags := 1041 }

def heap : Heap := #[{ cls := 6, slots := #[.ref 15, .ref 16, .ref 17, .ref 18, .ref 19, .ref 20, .null], vm := .statics 6 },
  { cls := 9, slots := #[.long 0, .int 1, .null, .int 0, .null, .int 0, .int 0], vm := .statics 9 },
  { cls := 11, slots := #[.null, .null, .null], vm := .statics 11 },
  { cls := 15, slots := #[.int 61], vm := .none },
  { cls := 15, slots := #[.int 33, .int 61], vm := .none },
  { cls := 15, slots := #[.int 60], vm := .none },
  { cls := 15, slots := #[.int 60, .int 61], vm := .none },
  { cls := 15, slots := #[.int 62], vm := .none },
  { cls := 15, slots := #[.int 62, .int 61], vm := .none },
  { cls := 9, slots := #[.ref 3, .int 0, .int 0, .int 0], vm := .none },
  { cls := 9, slots := #[.ref 4, .int 0, .int 0, .int 0], vm := .none },
  { cls := 9, slots := #[.ref 5, .int 0, .int 0, .int 0], vm := .none },
  { cls := 9, slots := #[.ref 6, .int 0, .int 0, .int 0], vm := .none },
  { cls := 9, slots := #[.ref 7, .int 0, .int 0, .int 0], vm := .none },
  { cls := 9, slots := #[.ref 8, .int 0, .int 0, .int 0], vm := .none },
  { cls := 6, slots := #[.null, .int 0, .int 0, .ref 9], vm := .none },
  { cls := 6, slots := #[.null, .int 1, .int 0, .ref 10], vm := .none },
  { cls := 6, slots := #[.null, .int 2, .int 0, .ref 11], vm := .none },
  { cls := 6, slots := #[.null, .int 3, .int 0, .ref 12], vm := .none },
  { cls := 6, slots := #[.null, .int 4, .int 0, .ref 13], vm := .none },
  { cls := 6, slots := #[.null, .int 5, .int 0, .ref 14], vm := .none }]
def classes : Array Class := #[k0, k1, k2, k3, k4, k5, k6, k7, k8, k9, k10, k11, k12, k13, k14, k15, k16, k17]
def interned : List (Array UInt16 × Addr) := []
def slotsUsed : Nat := 74
def theMethod : MethodId := ⟨1, 1⟩
def args0 : Array Value := #[.int 1]
def aboutOver (below : List Frame) : State where
  vm := { classes := classes, interned := interned.toArray }
  heap := heap
  slotsUsed := slotsUsed
  threads := #[{ frames := .invoking theMethod args0 :: below }]
def below0 : List Frame := [.native { method := ⟨0, 0⟩, args := #[] }]
def about1 : State := aboutOver below0
def p0 : Program := .bare "" "" ""
def e0 : Env := launch0.env 0 0 0
theorem w_frames : about1.frames = Frame.invoking theMethod args0 :: below0 := rfl
set_option maxRecDepth 65536 in
theorem w_args : argsFit about1.vm theMethod args0 = true := by decide +kernel
set_option maxRecDepth 65536 in
theorem w_heap : heapFits about1 = true := by decide +kernel
set_option maxRecDepth 65536 in
theorem w_runnable : about1.curStatus? = some .runnable := by decide +kernel
set_option maxRecDepth 65536 in
theorem w_alone : about1.alone = true := by decide +kernel
set_option maxRecDepth 65536 in
theorem w_named : about1.methodNamed? x = some theMethod := by decide +kernel
set_option maxRecDepth 65536 in
theorem w_hears : about1.hears theMethod below0 = true := by decide +kernel
set_option maxRecDepth 65536 in
theorem w_ripe : about1.ripe theMethod args0 below0 = true := by decide +kernel
theorem w_running : about1.status = .running := rfl
set_option maxRecDepth 65536 in
theorem w_room : about1.hasRoom e0.platform room_1 = true :=
  launch0.hasRoom_least _ room_1 (by decide +kernel) (by decide +kernel) (by decide +kernel) (by decide +kernel) (by decide +kernel) (by decide +kernel)
theorem allAtoms_all (ts : List Jvm.Cond) (a : Array Jvm.Value) (st : Jvm.State) : (allAtoms ts).before a st = ts.all (fun c => c.before a st) := by
  induction ts with
  | nil => rfl
  | cons c t ih =>
    show (Jvm.Cond.and c (allAtoms t)).before a st = _
    rw [Jvm.Cond.before_and, ih, List.all_cons]
def words1 : List Jvm.Cond := Jvm.Cond.code x code maxLocals ret :: tables_1
/-- a 'code' word, met by the world's own term for the bytes: nothing is compared byte by byte -/
theorem code_word {y : MethodName} {bytes : ByteArray} {mx : Nat} {rt : Option FieldType} {a : Array Value} {s : State} {m : MethodId} {meth : Method} {c : Code} (h1 : s.methodNamed? y = some m) (h2 : s.vm.method? m = some meth) (h3 : meth.code = some c) (h4 : c.code = bytes)
    (h5 : (c.maxLocals == mx && c.exceptionTable.isEmpty && decide (c.maxStack ≤ mostOperands) && decide (meth.sig.returnType = rt) && !meth.locks && decide (parseMethodDescriptor y.desc = some meth.sig)) = true) : (Jvm.Cond.code y bytes mx rt).before a s = true := by
  simp only [Bool.and_eq_true, beq_iff_eq, Bool.not_eq_true', decide_eq_true_eq] at h5
  obtain ⟨⟨⟨⟨⟨g1, g2⟩, g3⟩, g4⟩, g5⟩, g6⟩ := h5
  simp [Cond.before, Cond.holds, Cond.value, h1, h2, h3, h4, g1, g2, g3, g4, g5, g6]
def isCode : Jvm.Cond → Bool
  | .code _ _ _ _ => true
  | _ => false
theorem all_split {L : List Jvm.Cond} {P : Jvm.Cond → Bool} (h1 : L.all (fun c => isCode c || P c) = true) (h2 : ∀ c ∈ L.filter isCode, P c = true) : L.all P = true := by
  refine List.all_eq_true.mpr fun c hc => ?_
  have h := List.all_eq_true.mp h1 c hc
  rcases Bool.eq_false_or_eq_true (isCode c) with hi | hi
  · exact h2 c (List.mem_filter.mpr ⟨hc, hi⟩)
  · simpa [hi] using h
set_option maxRecDepth 65536 in
theorem w_c0 : (Jvm.Cond.code x code maxLocals ret).before args0 about1 = true := code_word (m := ⟨1, 1⟩) (meth := k1m1) (c := k1c1) (by decide +kernel) rfl rfl rfl (by decide +kernel)
set_option maxRecDepth 65536 in
theorem w_c1 : (Jvm.Cond.code ({ cls := "com/example/labels_in_order/labelsinorder/ComparisonOrderingPinLaw", name := "pick", desc := "(I)Lcom/example/labels_in_order/labelsinorder/Comparison;" } : Jvm.MethodName) method_3_code (1 : Nat) (Option.some (Jvm.ClassFile.FieldType.object "com/example/labels_in_order/labelsinorder/Comparison"))).before args0 about1 = true := code_word (m := ⟨1, 2⟩) (meth := k1m2) (c := k1c2) (by decide +kernel) rfl rfl rfl (by decide +kernel)
set_option maxRecDepth 65536 in
theorem w_c2 : (Jvm.Cond.code ({ cls := "com/example/labels_in_order/labelsinorder/Comparison", name := "written", desc := "()Ljava/lang/String;" } : Jvm.MethodName) prog_8_method_5_code (1 : Nat) (Option.some (Jvm.ClassFile.FieldType.object "java/lang/String"))).before args0 about1 = true := code_word (m := ⟨6, 0⟩) (meth := k6m0) (c := k6c0) (by decide +kernel) rfl rfl rfl (by decide +kernel)
set_option maxRecDepth 65536 in
theorem w_c3 : (Jvm.Cond.code ({ cls := "java/lang/String", name := "charAt", desc := "(I)C" } : Jvm.MethodName) jdk_42_method_56_code (2 : Nat) (Option.some Jvm.ClassFile.FieldType.char)).before args0 about1 = true := code_word (m := ⟨9, 1⟩) (meth := k9m1) (c := k9c1) (by decide +kernel) rfl rfl rfl (by decide +kernel)
set_option maxRecDepth 65536 in
theorem w_c4 : (Jvm.Cond.code ({ cls := "java/lang/String", name := "isLatin1", desc := "()Z" } : Jvm.MethodName) jdk_42_method_154_code (1 : Nat) (Option.some Jvm.ClassFile.FieldType.boolean)).before args0 about1 = true := code_word (m := ⟨9, 2⟩) (meth := k9m2) (c := k9c2) (by decide +kernel) rfl rfl rfl (by decide +kernel)
set_option maxRecDepth 65536 in
theorem w_c5 : (Jvm.Cond.code ({ cls := "java/lang/StringLatin1", name := "charAt", desc := "([BI)C" } : Jvm.MethodName) jdk_43_method_2_code (2 : Nat) (Option.some Jvm.ClassFile.FieldType.char)).before args0 about1 = true := code_word (m := ⟨10, 1⟩) (meth := k10m1) (c := k10c1) (by decide +kernel) rfl rfl rfl (by decide +kernel)
set_option maxRecDepth 65536 in
theorem w_c6 : (Jvm.Cond.code ({ cls := "java/lang/String", name := "checkIndex", desc := "(II)V" } : Jvm.MethodName) jdk_42_method_155_code (2 : Nat) (Option.none : Option Jvm.ClassFile.FieldType)).before args0 about1 = true := code_word (m := ⟨9, 3⟩) (meth := k9m3) (c := k9c3) (by decide +kernel) rfl rfl rfl (by decide +kernel)
set_option maxRecDepth 65536 in
theorem w_c7 : (Jvm.Cond.code ({ cls := "jdk/internal/util/Preconditions", name := "checkIndex", desc := "(IILjava/util/function/BiFunction;)I" } : Jvm.MethodName) jdk_41_method_11_code (3 : Nat) (Option.some Jvm.ClassFile.FieldType.int)).before args0 about1 = true := code_word (m := ⟨11, 1⟩) (meth := k11m1) (c := k11c1) (by decide +kernel) rfl rfl rfl (by decide +kernel)
set_option maxRecDepth 65536 in
theorem w_c8 : (Jvm.Cond.code ({ cls := "com/example/labels_in_order/labelsinorder/Comparison", name := "ordering", desc := "()Z" } : Jvm.MethodName) prog_8_method_6_code (1 : Nat) (Option.some Jvm.ClassFile.FieldType.boolean)).before args0 about1 = true := code_word (m := ⟨6, 1⟩) (meth := k6m1) (c := k6c1) (by decide +kernel) rfl rfl rfl (by decide +kernel)
def codes1 : List Jvm.Cond := [Jvm.Cond.code x code maxLocals ret, Jvm.Cond.code ({ cls := "com/example/labels_in_order/labelsinorder/ComparisonOrderingPinLaw", name := "pick", desc := "(I)Lcom/example/labels_in_order/labelsinorder/Comparison;" } : Jvm.MethodName) method_3_code (1 : Nat) (Option.some (Jvm.ClassFile.FieldType.object "com/example/labels_in_order/labelsinorder/Comparison")), Jvm.Cond.code ({ cls := "com/example/labels_in_order/labelsinorder/Comparison", name := "written", desc := "()Ljava/lang/String;" } : Jvm.MethodName) prog_8_method_5_code (1 : Nat) (Option.some (Jvm.ClassFile.FieldType.object "java/lang/String")), Jvm.Cond.code ({ cls := "java/lang/String", name := "charAt", desc := "(I)C" } : Jvm.MethodName) jdk_42_method_56_code (2 : Nat) (Option.some Jvm.ClassFile.FieldType.char), Jvm.Cond.code ({ cls := "java/lang/String", name := "isLatin1", desc := "()Z" } : Jvm.MethodName) jdk_42_method_154_code (1 : Nat) (Option.some Jvm.ClassFile.FieldType.boolean), Jvm.Cond.code ({ cls := "java/lang/StringLatin1", name := "charAt", desc := "([BI)C" } : Jvm.MethodName) jdk_43_method_2_code (2 : Nat) (Option.some Jvm.ClassFile.FieldType.char), Jvm.Cond.code ({ cls := "java/lang/String", name := "checkIndex", desc := "(II)V" } : Jvm.MethodName) jdk_42_method_155_code (2 : Nat) (Option.none : Option Jvm.ClassFile.FieldType), Jvm.Cond.code ({ cls := "jdk/internal/util/Preconditions", name := "checkIndex", desc := "(IILjava/util/function/BiFunction;)I" } : Jvm.MethodName) jdk_41_method_11_code (3 : Nat) (Option.some Jvm.ClassFile.FieldType.int), Jvm.Cond.code ({ cls := "com/example/labels_in_order/labelsinorder/Comparison", name := "ordering", desc := "()Z" } : Jvm.MethodName) prog_8_method_6_code (1 : Nat) (Option.some Jvm.ClassFile.FieldType.boolean)]
set_option maxRecDepth 65536 in
theorem codes_eq : words1.filter isCode = codes1 := rfl
theorem w_codes : ∀ c ∈ words1.filter isCode, c.before args0 about1 = true := by
  rw [codes_eq]
  intro c hc
  simp only [codes1, List.mem_cons, List.not_mem_nil, or_false] at hc
  rcases hc with rfl | rfl | rfl | rfl | rfl | rfl | rfl | rfl | rfl
  · exact w_c0
  · exact w_c1
  · exact w_c2
  · exact w_c3
  · exact w_c4
  · exact w_c5
  · exact w_c6
  · exact w_c7
  · exact w_c8
set_option maxRecDepth 65536 in
theorem w_t1 : (words1.take 24).all (fun c => isCode c || c.before args0 about1) = true := by decide +kernel
set_option maxRecDepth 65536 in
theorem w_t2 : ((words1.drop 24).take 24).all (fun c => isCode c || c.before args0 about1) = true := by decide +kernel
set_option maxRecDepth 65536 in
theorem w_t3 : ((words1.drop 24).drop 24).all (fun c => isCode c || c.before args0 about1) = true := by decide +kernel
theorem w_tables : (allAtoms (Jvm.Cond.code x code maxLocals ret :: tables_1)).before args0 about1 = true := by
  rw [allAtoms_all]
  show words1.all (fun c => c.before args0 about1) = true
  refine all_split ?_ w_codes
  rw [← List.take_append_drop 24 words1, List.all_append, w_t1, ← List.take_append_drop 24 (words1.drop 24), List.all_append, w_t2, w_t3]
  rfl
set_option maxRecDepth 65536 in
theorem w_rest : rest_1_c.before args0 about1 = true := by decide +kernel
set_option maxRecDepth 65536 in
theorem w_case : (Jvm.Cond.and given_1 narrow_1).before args0 about1 = true := by decide +kernel
theorem w_applies : (headSpec (Jvm.Cond.code x code maxLocals ret :: tables_1) room_1).applies x e0.platform about1 = true :=
  (Spec.applies_iff w_frames).mpr ⟨w_running, w_runnable, w_alone, w_named, w_hears, w_ripe, w_room, w_tables⟩
theorem atStart : AtStart classFile x code maxLocals ret World_1 tables_1 room_1 Calls_1 rest_1 Pre_1 launch0 p0 e0 about1 theMethod args0 below0 :=
  ⟨lists_1, trivial, launch0.admits_env _ _ _, launch0.least_env, fairChoices_fair.cas, fairChoices_fair.clock, w_frames, w_args, w_heap, w_applies, trivial, w_rest, w_case⟩
end start1
theorem witness_1 : WitnessClaimed_1 := ⟨start1.p0, start1.e0, start1.about1, start1.theMethod, start1.args0, start1.below0, start1.atStart⟩
end Jvm.Pilot.@@N@@
