import JvmDerived
import JvmDerived.Pilot.@@N@@Statement
import JvmDerived.Pilot.@@N@@Code
set_option linter.unusedVariables false
set_option linter.unusedSimpArgs false

namespace Jvm.Pilot.@@N@@
open Jvm Jvm.ClassFile Sem Op Lib Jvm.Free Jvm.Stand Jvm.LawKit Jvm.RoadKit Bundle Jvm.Pilot.@@N@@.Jvm.D
section Own
variable {p : Program} {l : Launch} {e : Env} {R : Room} {s : State} {m : MethodId} {args : Array Value} {below : List Frame} {meth : Method} {c : Code} {T T' : State} {locs : List Loc} {cells slots : Nat} {Q : Option Value → Heap → List Loc → Prop} {kc ks : Nat} {g g' : JFrame} {h : Heap}
def own_W (p : Program) (e : Env) (below : List Frame) (s : State) (Q : Option Value → Heap → List Loc → Prop) (kc ks : Nat) (T : State) (g : JFrame) : Prop :=
  ∃ s₂ o, Steps p.tables e below (T.setTop g) s₂ ∧ s₂.status = .running ∧ Ended s₂ below o ∧ ∃ v L, o = .returned v ∧ Q v s₂.heap L ∧ FrameEnd s o s₂ L kc ks
theorem own_go (st : ∀ t, Steps p.tables e below (T'.setTop g') t → Steps p.tables e below (T.setTop g) t) (k : own_W p e below s Q kc ks T' g') : own_W p e below s Q kc ks T g := by
  obtain ⟨s₂, o, h1, h2⟩ := k
  exact ⟨s₂, o, st _ h1, h2⟩
theorem own_ret (X : Stand p l e R s m args below meth c T locs cells slots) (hx : p.tables.exec = Jvm.exec) {pc : Nat} {Ls : Array Slot} {w : Value} {t : FieldType} {i : Instr} {rest : List Value} (hret : meth.sig.returnType = some t) (hlk : meth.locks = false) (hn : narrow t w = w)
    (hi : (i = .ireturn ∧ (t = .int ∨ t = .boolean ∨ t = .byte ∨ t = .char ∨ t = .short) ∧ ∃ z, w = .int z) ∨ (i = .lreturn ∧ t = .long ∧ ∃ z, w = .long z) ∨ (i = .dreturn ∧ t = .double ∧ ∃ z, w = .double z) ∨ (i = .freturn ∧ t = .float ∧ ∃ z, w = .float z) ∨ (i = .areturn ∧ t.isReference = true ∧ w.isRef = true))
    (hd : decode c.code pc = .ok (i, 1)) (eT : T.heap = h) (hQ : Q (some w) h locs) (hc : cells ≤ kc) (hs : slots ≤ ks) : own_W p e below s Q kc ks T (mkF m pc Ls (w :: rest)) := by
  obtain ⟨fs, hr, hrun, hended, hW, hsame⟩ := X.leave (v := some w) (fun q => by rw [hret] at q; cases q) hlk
  exact ⟨_, _, retOut X hx hret hn hi hd hr, hrun, hended, _, _, rfl, (show Q (some w) T.heap locs from eT ▸ hQ), ⟨_, rfl⟩, hW, hsame.mono hc hs⟩
theorem own_retN (X : Stand p l e R s m args below meth c T locs cells slots) (hx : p.tables.exec = Jvm.exec) {pc : Nat} {Ls : Array Slot} {z : Int32} {t : FieldType} {rest : List Value} (hret : meth.sig.returnType = some t) (hlk : meth.locks = false) (ht : t = .boolean ∨ t = .byte ∨ t = .char ∨ t = .short)
    (hd : decode c.code pc = .ok (.ireturn, 1)) (eT : T.heap = h) (hQ : Q (some (.int (nar t z))) h locs) (hc : cells ≤ kc) (hs : slots ≤ ks) : own_W p e below s Q kc ks T (mkF m pc Ls (.int z :: rest)) := by
  obtain ⟨fs, hr, hrun, hended, hW, hsame⟩ := X.leave (v := some (.int (nar t z))) (fun q => by rw [hret] at q; cases q) hlk
  exact ⟨_, _, retN X hx hret ht hd hr, hrun, hended, _, _, rfl, (show Q (some (.int (nar t z))) T.heap locs from eT ▸ hQ), ⟨_, rfl⟩, hW, hsame.mono hc hs⟩
theorem own_ret0 (X : Stand p l e R s m args below meth c T locs cells slots) (hx : p.tables.exec = Jvm.exec) {pc : Nat} {Ls : Array Slot} (hret : meth.sig.returnType = none) (hlk : meth.locks = false)
    (hd : decode c.code pc = .ok (.return_, 1)) (eT : T.heap = h) (hQ : Q none h locs) (hc : cells ≤ kc) (hs : slots ≤ ks) : own_W p e below s Q kc ks T (mkF m pc Ls []) := by
  obtain ⟨fs, hr, hrun, hended, hW, hsame⟩ := X.leave (v := none) (fun _ => rfl) hlk
  exact ⟨_, _, X.returnOut hx hret hd hr, hrun, hended, _, _, rfl, (show Q none T.heap locs from eT ▸ hQ), ⟨_, rfl⟩, hW, hsame.mono hc hs⟩
def own_WS (p : Program) (e : Env) (below : List Frame) (s : State) (Q : Option Value → Heap → List Loc → Prop) (kc ks : Nat) (T : State) (g : JFrame) : Prop :=
  ∃ s₂ o, Steps p.tables e below (T.setTop g) s₂ ∧ s₂.status = .running ∧ Ended s₂ below o ∧ ∃ v L, o = .returned v ∧ Q v s₂.heap L ∧ ReturnedEndW s o s₂ L kc ks
theorem own_goS (st : ∀ t, Steps p.tables e below (T'.setTop g') t → Steps p.tables e below (T.setTop g) t) (k : own_WS p e below s Q kc ks T' g') : own_WS p e below s Q kc ks T g := by
  obtain ⟨s₂, o, h1, h2⟩ := k
  exact ⟨s₂, o, st _ h1, h2⟩
theorem own_endW {t : State} {o : Outcome} {L : List Loc} {k n k' n' : Nat} (q : ReturnedEndW s o t L k n) (h1 : k ≤ k') (h2 : n ≤ n') : ReturnedEndW s o t L k' n' := ⟨q.1, q.2.1, q.2.2.1, q.2.2.2.mono h1 h2⟩
theorem own_retS {vm1 : Vm} {n1 : Nat} (X : Stand p l e R (s.setVm vm1) m args below meth c T locs cells slots) (hS : s.Since vm1 n1) (hx : p.tables.exec = Jvm.exec) {pc : Nat} {Ls : Array Slot} {w : Value} {t : FieldType} {i : Instr} {rest : List Value} (hret : meth.sig.returnType = some t) (hlk : meth.locks = false) (hn : narrow t w = w)
    (hi : (i = .ireturn ∧ (t = .int ∨ t = .boolean ∨ t = .byte ∨ t = .char ∨ t = .short) ∧ ∃ z, w = .int z) ∨ (i = .lreturn ∧ t = .long ∧ ∃ z, w = .long z) ∨ (i = .dreturn ∧ t = .double ∧ ∃ z, w = .double z) ∨ (i = .freturn ∧ t = .float ∧ ∃ z, w = .float z) ∨ (i = .areturn ∧ t.isReference = true ∧ w.isRef = true))
    (hd : decode c.code pc = .ok (i, 1)) (eT : T.heap = h) (hk : n1 ≤ h.size) (hQ : Q (some w) h locs) (hc : cells ≤ kc) (hs : slots ≤ ks) : own_WS p e below s Q kc ks T (mkF m pc Ls (w :: rest)) := by
  obtain ⟨fs, hr, hrun, hended, hW⟩ := X.leaveW hS (eT ▸ hk) (v := some w) (fun q => by rw [hret] at q; cases q) hlk
  exact ⟨_, _, retOut X hx hret hn hi hd hr, hrun, hended, _, _, rfl, (show Q (some w) T.heap locs from eT ▸ hQ), own_endW hW hc hs⟩
theorem own_retNS {vm1 : Vm} {n1 : Nat} (X : Stand p l e R (s.setVm vm1) m args below meth c T locs cells slots) (hS : s.Since vm1 n1) (hx : p.tables.exec = Jvm.exec) {pc : Nat} {Ls : Array Slot} {z : Int32} {t : FieldType} {rest : List Value} (hret : meth.sig.returnType = some t) (hlk : meth.locks = false) (ht : t = .boolean ∨ t = .byte ∨ t = .char ∨ t = .short)
    (hd : decode c.code pc = .ok (.ireturn, 1)) (eT : T.heap = h) (hk : n1 ≤ h.size) (hQ : Q (some (.int (nar t z))) h locs) (hc : cells ≤ kc) (hs : slots ≤ ks) : own_WS p e below s Q kc ks T (mkF m pc Ls (.int z :: rest)) := by
  obtain ⟨fs, hr, hrun, hended, hW⟩ := X.leaveW hS (eT ▸ hk) (v := some (.int (nar t z))) (fun q => by rw [hret] at q; cases q) hlk
  exact ⟨_, _, retN X hx hret ht hd hr, hrun, hended, _, _, rfl, (show Q (some (.int (nar t z))) T.heap locs from eT ▸ hQ), own_endW hW hc hs⟩
theorem own_ret0S {vm1 : Vm} {n1 : Nat} (X : Stand p l e R (s.setVm vm1) m args below meth c T locs cells slots) (hS : s.Since vm1 n1) (hx : p.tables.exec = Jvm.exec) {pc : Nat} {Ls : Array Slot} (hret : meth.sig.returnType = none) (hlk : meth.locks = false)
    (hd : decode c.code pc = .ok (.return_, 1)) (eT : T.heap = h) (hk : n1 ≤ h.size) (hQ : Q none h locs) (hc : cells ≤ kc) (hs : slots ≤ ks) : own_WS p e below s Q kc ks T (mkF m pc Ls []) := by
  obtain ⟨fs, hr, hrun, hended, hW⟩ := X.leaveW hS (eT ▸ hk) (v := none) (fun _ => rfl) hlk
  exact ⟨_, _, X.returnOut hx hret hd hr, hrun, hended, _, _, rfl, (show Q none T.heap locs from eT ▸ hQ), own_endW hW hc hs⟩
theorem own_sta_keep {Z : State} {h h' : Heap} {C n d : String} {v : Value} {ws : List Addr} (F : Sta Z h C n d v) (K : Keep h h' ws) (q : ∀ x ∈ ws, ∀ cell : Cell, h[x]? = some cell → cell.vm.isStatics = false) : Sta Z h' C n d v := by
  obtain ⟨cf, i, k, f, st, cell, h1, h2, h3, h4, h5, h6, h7⟩ := F
  exact ⟨cf, i, k, f, st, cell, h1, h2, h3, h4, K.2.1 _ _ h5 (fun hm => by rw [q _ hm _ h5] at h6; cases h6), h6, h7⟩
end Own
def own_canEnc (p0 : Int32) : Int32 := (if (255 : Int32) < p0 then (0 : Int32) else (1 : Int32))
theorem d2_0 : decode jdk_43_method_3_code 0 = .ok (.iload_n 0, 1) := by decide +kernel
theorem d2_1 : decode jdk_43_method_3_code 1 = .ok (.sipush 255, 3) := by decide +kernel
theorem d2_4 : decode jdk_43_method_3_code 4 = .ok (.if_icmp .gt 7, 3) := by decide +kernel
theorem d2_7 : decode jdk_43_method_3_code 7 = .ok (.iconst 1, 1) := by decide +kernel
theorem d2_8 : decode jdk_43_method_3_code 8 = .ok (.goto 4, 3) := by decide +kernel
theorem d2_11 : decode jdk_43_method_3_code 11 = .ok (.iconst 0, 1) := by decide +kernel
theorem d2_12 : decode jdk_43_method_3_code 12 = .ok (.ireturn, 1) := by decide +kernel
def Q_rmCan (Z : State) (p0 : Int32) (h0 : Heap) (n0 : Nat) (v : Option Value) (h : Heap) (L : List Loc) : Prop := v = some (.int (own_canEnc p0)) ∧ Fr n0 L ∧ h = h0
theorem ef_rmCan (m : MethodId) (x0 : Int32) : entryFrame m #[(.int x0)] 1 = mkF m 0 #[.val (.int x0)] [] := by first | (simp [entryFrame, mkF, argsToLocals, Value.category]; done) | rfl
theorem pn_rmCan : plainName "java/lang/StringLatin1" = true := by first | (simp [plainName, overriddenIn]; done) | decide +kernel
set_option maxRecDepth 65536 in
set_option maxHeartbeats 40000000 in
theorem rmCan (l : Launch) (Z : State) (a0 : Array Value) (hw : ∀ d ∈ tables_1, d.before a0 Z = true) (ws : List Jvm.Cond) (p0 : Int32) (h0 : Heap) (n0 : Nat) (Z0 : n0 ≤ h0.size)  :
    MetFree l (⟨"java/lang/StringLatin1", "canEncode", "(C)Z"⟩ : MethodName) (head1 (Jvm.Cond.code (⟨"java/lang/StringLatin1", "canEncode", "(C)Z"⟩ : MethodName) jdk_43_method_3_code 1 (some .boolean) :: ws) ({ frames := 0, cells := 0, slots := 0, locals := 0 } : Room)) (fun a U => a = #[(.int p0)] ∧ Z.Warmed39 U.vm ∧ U.heap = h0) (fun _ _ _ _ _ => True) (fun _ U o U' => ∃ v L, o = .returned v ∧ Q_rmCan Z p0 h0 n0 v U'.heap L ∧ FrameEnd U o U' L ({ frames := 0, cells := 0, slots := 0, locals := 0 } : Room).cells ({ frames := 0, cells := 0, slots := 0, locals := 0 } : Room).slots) := by
  refine MetFree.of_bodySF (plainFor_of_name pn_rmCan) hisR ?_
  intro p e s m args below meth c s₁ Bd hml0 hP hK
  obtain ⟨rfl, hZ, hh⟩ := hP
  have hx := Bd.exec
  have hby := Bd.bytes
  have hml : c.maxLocals = 1 := hml0
  have hown : s.vm.findClass "java/lang/StringLatin1" = some m.cls := findClass_of_methodNamed Bd.named
  have hnm := (name_of_methodNamed Bd.named Bd.method).1
  have hlk : meth.locks = false := BodyLoose.notSynchronized Bd
  have X0 : Stand p l e ({ frames := 0, cells := 0, slots := 0, locals := 0 } : Room) s m #[(.int p0)] below meth c s₁ [] 0 0 := Stand.of_body Bd
  have e0 : s₁.heap = h0 := by rw [← hh, Bd.state]; rfl
  have N0 := Fr.nil n0
  show own_W p e below s (Q_rmCan Z p0 h0 n0) 0 0 s₁ (entryFrame m #[(.int p0)] 1)
  skip
  skip
  refine own_go (T' := s₁) (g' := (mkF m 0 #[.val (.int p0)] [])) (fun _ k => castTop (ef_rmCan m p0) k) ?_
  refine own_go (T' := s₁) (g' := (mkF m 1 #[.val (.int p0)] [(.int p0)])) (fun _ k => XS.iloadN X0.here hx rfl (hb hby d2_0) rfl k) ?_
  refine own_go (T' := s₁) (g' := (mkF m 4 #[.val (.int p0)] [(.int (255 : Int32)), (.int p0)])) (fun _ k => XS.sipush X0.here hx rfl (hb hby d2_1) k) ?_
  by_cases hc4_1 : (255 : Int32) < p0
  · skip
    refine own_go (T' := s₁) (g' := (mkF m 11 #[.val (.int p0)] [])) (fun _ k => XS.icmpYes X0.here hx rfl (pc0 := 4) (pc' := 11) rfl (hb hby d2_4) rfl (XT.ii_gt_t hc4_1) (by decide) (by decide) k) ?_
    refine own_go (T' := s₁) (g' := (mkF m 12 #[.val (.int p0)] [(.int (0 : Int32))])) (fun _ k => XS.iconst X0.here hx rfl (hb hby d2_11) k) ?_
    exact own_retN X0 hx (t := .boolean) Bd.returns hlk (by simp) (hb hby d2_12) e0 ⟨(by unfold own_canEnc; first | (rw [if_pos hc4_1]; done) | (rw [if_pos hc4_1]; rfl)), N0, rfl⟩ (by decide) (by decide)
  · skip
    refine own_go (T' := s₁) (g' := (mkF m 7 #[.val (.int p0)] [])) (fun _ k => XS.icmpNo X0.here hx rfl (hb hby d2_4) rfl (XT.ii_gt_f hc4_1) k) ?_
    refine own_go (T' := s₁) (g' := (mkF m 8 #[.val (.int p0)] [(.int (1 : Int32))])) (fun _ k => XS.iconst X0.here hx rfl (hb hby d2_7) k) ?_
    refine own_go (T' := s₁) (g' := (mkF m 12 #[.val (.int p0)] [(.int (1 : Int32))])) (fun _ k => XS.goto X0.here hx rfl (pc0 := 8) (pc' := 12) rfl (hb hby d2_8) (by decide) (by decide) k) ?_
    exact own_retN X0 hx (t := .boolean) Bd.returns hlk (by simp) (hb hby d2_12) e0 ⟨(by unfold own_canEnc; first | (rw [if_neg hc4_1]; done) | (rw [if_neg hc4_1]; rfl)), N0, rfl⟩ (by decide) (by decide)
theorem d3_0 : decode jdk_43_method_46_code 0 = .ok (.iconst 1, 1) := by decide +kernel
theorem d3_1 : decode jdk_43_method_46_code 1 = .ok (.newarray .byte, 2) := by decide +kernel
theorem d3_3 : decode jdk_43_method_46_code 3 = .ok (.dup, 1) := by decide +kernel
theorem d3_4 : decode jdk_43_method_46_code 4 = .ok (.iconst 0, 1) := by decide +kernel
theorem d3_5 : decode jdk_43_method_46_code 5 = .ok (.iload_n 0, 1) := by decide +kernel
theorem d3_6 : decode jdk_43_method_46_code 6 = .ok (.i2b, 1) := by decide +kernel
theorem d3_7 : decode jdk_43_method_46_code 7 = .ok (.bastore, 1) := by decide +kernel
theorem d3_8 : decode jdk_43_method_46_code 8 = .ok (.areturn, 1) := by decide +kernel
def Q_rmToB (Z : State) (p0 : Int32) (h0 : Heap) (n0 : Nat) (v : Option Value) (h : Heap) (L : List Loc) : Prop := ∃ (xb : Addr) (xk : ClassId), v = some (.ref xb) ∧ Fr n0 L ∧ Keep h0 h [] ∧ h0.size ≤ xb ∧ Arv Z h xb xk .byte (1 : Int32) [(.int (nar .byte (p0.toInt8.toInt32)))] (.int (0 : Int32))
theorem ef_rmToB (m : MethodId) (x0 : Int32) : entryFrame m #[(.int x0)] 1 = mkF m 0 #[.val (.int x0)] [] := by first | (simp [entryFrame, mkF, argsToLocals, Value.category]; done) | rfl
theorem pn_rmToB : plainName "java/lang/StringLatin1" = true := by first | (simp [plainName, overriddenIn]; done) | decide +kernel
set_option maxRecDepth 65536 in
set_option maxHeartbeats 40000000 in
theorem rmToB (l : Launch) (Z : State) (a0 : Array Value) (hw : ∀ d ∈ tables_1, d.before a0 Z = true) (ws : List Jvm.Cond) (p0 : Int32) (h0 : Heap) (n0 : Nat) (Z0 : n0 ≤ h0.size)  :
    MetFree l (⟨"java/lang/StringLatin1", "toBytes", "(C)[B"⟩ : MethodName) (head1 (Jvm.Cond.code (⟨"java/lang/StringLatin1", "toBytes", "(C)[B"⟩ : MethodName) jdk_43_method_46_code 1 (some (.array .byte)) :: ws) ({ frames := 0, cells := 1, slots := 1, locals := 0 } : Room)) (fun a U => a = #[(.int p0)] ∧ Z.Warmed39 U.vm ∧ U.heap = h0) (fun _ _ _ _ _ => True) (fun _ U o U' => ∃ v L, o = .returned v ∧ Q_rmToB Z p0 h0 n0 v U'.heap L ∧ FrameEnd U o U' L ({ frames := 0, cells := 1, slots := 1, locals := 0 } : Room).cells ({ frames := 0, cells := 1, slots := 1, locals := 0 } : Room).slots) := by
  refine MetFree.of_bodySF (plainFor_of_name pn_rmToB) hisR ?_
  intro p e s m args below meth c s₁ Bd hml0 hP hK
  obtain ⟨rfl, hZ, hh⟩ := hP
  have hx := Bd.exec
  have hby := Bd.bytes
  have hml : c.maxLocals = 1 := hml0
  have hown : s.vm.findClass "java/lang/StringLatin1" = some m.cls := findClass_of_methodNamed Bd.named
  have hnm := (name_of_methodNamed Bd.named Bd.method).1
  have hlk : meth.locks = false := BodyLoose.notSynchronized Bd
  have X0 : Stand p l e ({ frames := 0, cells := 1, slots := 1, locals := 0 } : Room) s m #[(.int p0)] below meth c s₁ [] 0 0 := Stand.of_body Bd
  have e0 : s₁.heap = h0 := by rw [← hh, Bd.state]; rfl
  have N0 := Fr.nil n0
  show own_W p e below s (Q_rmToB Z p0 h0 n0) 1 1 s₁ (entryFrame m #[(.int p0)] 1)
  skip
  skip
  refine own_go (T' := s₁) (g' := (mkF m 0 #[.val (.int p0)] [])) (fun _ k => castTop (ef_rmToB m p0) k) ?_
  refine own_go (T' := s₁) (g' := (mkF m 1 #[.val (.int p0)] [(.int (1 : Int32))])) (fun _ k => XS.iconst X0.here hx rfl (hb hby d3_0) k) ?_
  obtain ⟨T1, h1, k1, X1, e1, E1, A1, st1⟩ := newP X0 hx hZ (hw _ (List.mem_of_getElem? (i := 14) rfl)) e0 (g := (mkF m 1 #[.val (.int p0)] [(.int (1 : Int32))])) rfl (hb hby d3_1) rfl (by decide) (cap := 1) (by decide) (by decide) (by decide) (by decide)
  obtain ⟨b1, g1⟩ : ∃ z, z = h0.size := ⟨_, rfl⟩
  rw [← g1] at A1 st1
  have V1 : Arv Z h1 b1 k1 .byte (1 : Int32) [(.int (0 : Int32))] (.int (0 : Int32)) := (Arv.new A1 (by decide)).pad (pad_rep [] (.int (0 : Int32)) 1)
  have ge1 : n0 ≤ b1 := Nat.le_trans Z0 (Nat.le_of_eq g1.symm)
  have sz1 : h0.size ≤ b1 := Nat.le_trans (Keep.refl h0 []).1 (Nat.le_of_eq g1.symm)
  have kk1 : Keep h0 h1 [] := (Keep.refl h0 []).ext E1
  have zs1 : n0 ≤ h1.size := Nat.le_trans Z0 E1.1
  refine own_go (T' := T1) (g' := (mkF m 3 #[.val (.int p0)] [(.ref b1)])) (fun _ k => st1 _ k) ?_
  refine own_go (T' := T1) (g' := (mkF m 4 #[.val (.int p0)] [(.ref b1), (.ref b1)])) (fun _ k => XS.dup X1.here hx rfl (hb hby d3_3) rfl rfl k) ?_
  refine own_go (T' := T1) (g' := (mkF m 5 #[.val (.int p0)] [(.int (0 : Int32)), (.ref b1), (.ref b1)])) (fun _ k => XS.iconst X1.here hx rfl (hb hby d3_4) k) ?_
  refine own_go (T' := T1) (g' := (mkF m 6 #[.val (.int p0)] [(.int p0), (.int (0 : Int32)), (.ref b1), (.ref b1)])) (fun _ k => XS.iloadN X1.here hx rfl (hb hby d3_5) rfl k) ?_
  refine own_go (T' := T1) (g' := (mkF m 7 #[.val (.int p0)] [(.int (p0.toInt8.toInt32)), (.int (0 : Int32)), (.ref b1), (.ref b1)])) (fun _ k => XT.i2b X1.here hx rfl (hb hby d3_6) rfl k) ?_
  obtain ⟨cl2, Ar2, q12, q22, q32, H2, G2⟩ := id V1
  have hin2 := inb_of q22 (j := (0 : Int32)) (by decide)
  obtain ⟨T2, h2, X2, e2, W2, st2⟩ := stB X1 hx hZ e1 Ar2 (j := (0 : Int32)) hin2 (g := (mkF m 7 #[.val (.int p0)] [(.int (p0.toInt8.toInt32)), (.int (0 : Int32)), (.ref b1), (.ref b1)])) rfl rfl (hb hby d3_7)
  have V2 : Arv Z h2 b1 k1 .byte (1 : Int32) [(.int (nar .byte (p0.toInt8.toInt32)))] (.int (0 : Int32)) := Arv.set Ar2 q12 q22 q32 H2 G2 (fits_nar_byte _) W2 0 (by decide) (by decide)
  have N2 := Fr.snoc X2 N0 ge1
  have zs2 : n0 ≤ h2.size := by rw [W2.size]; exact zs1
  have kk2 : Keep h0 h2 [] := kk1.wr W2 (Or.inr sz1)
  refine own_go (T' := T2) (g' := (mkF m 8 #[.val (.int p0)] [(.ref b1)])) (fun _ k => st2 _ k) ?_
  exact own_ret X2 hx Bd.returns hlk rfl (Or.inr (Or.inr (Or.inr (Or.inr ⟨rfl, rfl, rfl⟩)))) (hb hby d3_8) e2 ⟨b1, k1, rfl, N2, kk2, sz1, V2⟩ (by decide) (by decide)
theorem d4_0 : decode jdk_42_method_151_code 0 = .ok (.aload_n 0, 1) := by decide +kernel
theorem d4_1 : decode jdk_42_method_151_code 1 = .ok (.invokespecial 1, 3) := by decide +kernel
theorem d4_4 : decode jdk_42_method_151_code 4 = .ok (.aload_n 0, 1) := by decide +kernel
theorem d4_5 : decode jdk_42_method_151_code 5 = .ok (.aload_n 1, 1) := by decide +kernel
theorem d4_6 : decode jdk_42_method_151_code 6 = .ok (.putfield 9, 3) := by decide +kernel
theorem d4_9 : decode jdk_42_method_151_code 9 = .ok (.aload_n 0, 1) := by decide +kernel
theorem d4_10 : decode jdk_42_method_151_code 10 = .ok (.iload_n 2, 1) := by decide +kernel
theorem d4_11 : decode jdk_42_method_151_code 11 = .ok (.putfield 15, 3) := by decide +kernel
theorem d4_14 : decode jdk_42_method_151_code 14 = .ok (.return_, 1) := by decide +kernel
def Q_rmStr (Z : State) (r0 : Addr) (r1 : Addr) (h0 : Heap) (n0 : Nat) (v : Option Value) (h : Heap) (L : List Loc) : Prop := v = none ∧ Fr n0 L ∧ Keep h0 h [r0] ∧ Fld Z h r0 "java/lang/String" "value" "[B" (.ref r1) ∧ Fld Z h r0 "java/lang/String" "coder" "B" (.int (0 : Int32)) ∧ Exa Z h r0 "java/lang/String"
theorem ef_rmStr (m : MethodId) (x0 : Addr) (x1 : Addr) (x2 : Int32) : entryFrame m #[(.ref x0), (.ref x1), (.int x2)] 3 = mkF m 0 #[.val (.ref x0), .val (.ref x1), .val (.int x2)] [] := by first | (simp [entryFrame, mkF, argsToLocals, Value.category]; done) | rfl
theorem pn_rmStr : plainName "java/lang/String" = true := by first | (simp [plainName, overriddenIn]; done) | decide +kernel
set_option maxRecDepth 65536 in
set_option maxHeartbeats 40000000 in
theorem rmStr (l : Launch) (Z : State) (a0 : Array Value) (hw : ∀ d ∈ tables_1, d.before a0 Z = true) (ws : List Jvm.Cond) (r0 : Addr) (r1 : Addr) (h0 : Heap) (n0 : Nat) (Z0 : n0 ≤ h0.size) (hp0 : Exa Z h0 r0 "java/lang/String") (hp1 : n0 ≤ r0) (hp2 : Fld Z h0 r0 "java/lang/String" "value" "[B" .null) (hp3 : Fld Z h0 r0 "java/lang/String" "coder" "B" (.int (0 : Int32))) :
    MetFree l (⟨"java/lang/String", "<init>", "([BB)V"⟩ : MethodName) (head1 (Jvm.Cond.code (⟨"java/lang/String", "<init>", "([BB)V"⟩ : MethodName) jdk_42_method_151_code 3 none :: ws) ({ frames := 1, cells := 0, slots := 0, locals := 12 } : Room)) (fun a U => a = #[(.ref r0), (.ref r1), (.int (0 : Int32))] ∧ Z.Warmed39 U.vm ∧ U.heap = h0) (fun _ _ _ _ _ => True) (fun _ U o U' => ∃ v L, o = .returned v ∧ Q_rmStr Z r0 r1 h0 n0 v U'.heap L ∧ FrameEnd U o U' L ({ frames := 1, cells := 0, slots := 0, locals := 12 } : Room).cells ({ frames := 1, cells := 0, slots := 0, locals := 12 } : Room).slots) := by
  refine MetFree.of_bodySF (plainFor_of_name pn_rmStr) hisR ?_
  intro p e s m args below meth c s₁ Bd hml0 hP hK
  obtain ⟨rfl, hZ, hh⟩ := hP
  have hx := Bd.exec
  have hby := Bd.bytes
  have hml : c.maxLocals = 3 := hml0
  have hown : s.vm.findClass "java/lang/String" = some m.cls := findClass_of_methodNamed Bd.named
  have hnm := (name_of_methodNamed Bd.named Bd.method).1
  have hlk : meth.locks = false := BodyLoose.notSynchronized Bd
  have X0 : Stand p l e ({ frames := 1, cells := 0, slots := 0, locals := 12 } : Room) s m #[(.ref r0), (.ref r1), (.int (0 : Int32))] below meth c s₁ [] 0 0 := Stand.of_body Bd
  have e0 : s₁.heap = h0 := by rw [← hh, Bd.state]; rfl
  have N0 := Fr.nil n0
  show own_W p e below s (Q_rmStr Z r0 r1 h0 n0) 0 0 s₁ (entryFrame m #[(.ref r0), (.ref r1), (.int (0 : Int32))] 3)
  skip
  skip
  refine own_go (T' := s₁) (g' := (mkF m 0 #[.val (.ref r0), .val (.ref r1), .val (.int (0 : Int32))] [])) (fun _ k => castTop (ef_rmStr m r0 r1 (0 : Int32)) k) ?_
  refine own_go (T' := s₁) (g' := (mkF m 1 #[.val (.ref r0), .val (.ref r1), .val (.int (0 : Int32))] [(.ref r0)])) (fun _ k => XS.aloadN X0.here hx rfl (hb hby d4_0) rfl rfl k) ?_
  obtain ⟨T1, X1, e1, st1⟩ := initO X0 hx hZ hown (hw _ (List.mem_of_getElem? (i := 19) rfl)) (hw _ (List.mem_of_getElem? (i := 20) rfl)) (hw _ (List.mem_of_getElem? (i := 21) rfl)) e0 (g := (mkF m 1 #[.val (.ref r0), .val (.ref r1), .val (.int (0 : Int32))] [(.ref r0)])) rfl (by rw [hml]; rfl) rfl (hb hby d4_1) (by decide) (W := 0) (by show 2 * 0 + _ ≤ _; exact Nat.le_of_eq rfl) (by decide)
  refine own_go (T' := T1) (g' := (mkF m 4 #[.val (.ref r0), .val (.ref r1), .val (.int (0 : Int32))] [])) (fun _ k => st1 _ k) ?_
  refine own_go (T' := T1) (g' := (mkF m 5 #[.val (.ref r0), .val (.ref r1), .val (.int (0 : Int32))] [(.ref r0)])) (fun _ k => XS.aloadN X1.here hx rfl (hb hby d4_4) rfl rfl k) ?_
  refine own_go (T' := T1) (g' := (mkF m 6 #[.val (.ref r0), .val (.ref r1), .val (.int (0 : Int32))] [(.ref r1), (.ref r0)])) (fun _ k => XS.aloadN X1.here hx rfl (hb hby d4_5) rfl rfl k) ?_
  obtain ⟨T2, h2, X2, e2, W2, st2⟩ := putF X1 hx hZ hown (host := "") (Or.inl (hw _ (List.mem_of_getElem? (i := 22) rfl))) Via.refl e1 hp2 hp0 (Or.inr ⟨(hw _ (List.mem_of_getElem? (i := 23) rfl)), rfl, hnm⟩) (hw _ (List.mem_of_getElem? (i := 10) rfl)) (ty := (.array .byte)) (by decide) rfl rfl (g := (mkF m 6 #[.val (.ref r0), .val (.ref r1), .val (.int (0 : Int32))] [(.ref r1), (.ref r0)])) rfl rfl (hb hby d4_6)
  have f3 : Exa Z h2 r0 "java/lang/String" := (hp0.wr W2)
  have f4 : Fld Z h2 r0 "java/lang/String" "coder" "B" (.int (0 : Int32)) := (hp3.other W2 (Or.inr (slot_ne (Or.inr (hw _ (List.mem_of_getElem? (i := 25) rfl))) (Or.inr (hw _ (List.mem_of_getElem? (i := 23) rfl))) (by decide) (t := .byte) (t' := (.array .byte)) (by decide) (by decide))))
  have fw2 : Fld Z h2 r0 "java/lang/String" "value" "[B" (.ref r1) := hp2.same W2
  have N2 := Fr.snoc X2 N0 hp1
  have zs2 : n0 ≤ h2.size := by rw [W2.size]; exact Z0
  have kk2 : Keep h0 h2 [r0] := (Keep.refl h0 [r0]).wr W2 (Or.inl (List.mem_of_getElem? (i := 0) rfl))
  refine own_go (T' := T2) (g' := (mkF m 9 #[.val (.ref r0), .val (.ref r1), .val (.int (0 : Int32))] [])) (fun _ k => st2 _ k) ?_
  refine own_go (T' := T2) (g' := (mkF m 10 #[.val (.ref r0), .val (.ref r1), .val (.int (0 : Int32))] [(.ref r0)])) (fun _ k => XS.aloadN X2.here hx rfl (hb hby d4_9) rfl rfl k) ?_
  refine own_go (T' := T2) (g' := (mkF m 11 #[.val (.ref r0), .val (.ref r1), .val (.int (0 : Int32))] [(.int (0 : Int32)), (.ref r0)])) (fun _ k => XS.iloadN X2.here hx rfl (hb hby d4_10) rfl k) ?_
  obtain ⟨T5, h5, X5, e5, W5, st5⟩ := putFN X2 hx hZ hown (hw _ (List.mem_of_getElem? (i := 24) rfl)) Via.refl e2 f4 f3 (Or.inr ⟨(hw _ (List.mem_of_getElem? (i := 25) rfl)), rfl, hnm⟩) (hw _ (List.mem_of_getElem? (i := 10) rfl)) (ty := .byte) (v' := (.int (0 : Int32))) (by decide) rfl (by decide) (g := (mkF m 11 #[.val (.ref r0), .val (.ref r1), .val (.int (0 : Int32))] [(.int (0 : Int32)), (.ref r0)])) rfl rfl (hb hby d4_11)
  have f6 : Exa Z h5 r0 "java/lang/String" := (f3.wr W5)
  have f7 : Fld Z h5 r0 "java/lang/String" "value" "[B" (.ref r1) := (fw2.other W5 (Or.inr (slot_ne (Or.inr (hw _ (List.mem_of_getElem? (i := 23) rfl))) (Or.inr (hw _ (List.mem_of_getElem? (i := 25) rfl))) (by decide) (t := (.array .byte)) (t' := .byte) (by decide) (by decide))))
  have fw5 : Fld Z h5 r0 "java/lang/String" "coder" "B" (.int (0 : Int32)) := f4.same W5
  have N5 := Fr.snoc X5 N2 hp1
  have zs5 : n0 ≤ h5.size := by rw [W5.size]; exact zs2
  have kk5 : Keep h0 h5 [r0] := kk2.wr W5 (Or.inl (List.mem_of_getElem? (i := 0) rfl))
  refine own_go (T' := T5) (g' := (mkF m 14 #[.val (.ref r0), .val (.ref r1), .val (.int (0 : Int32))] [])) (fun _ k => st5 _ k) ?_
  exact own_ret0 X5 hx Bd.returns hlk (hb hby d4_14) e5 ⟨rfl, N5, kk5, f7, fw5, f6⟩ (by decide) (by decide)
theorem own_canYes {x : Int32} (h : ¬ (255 : Int32) < x) : ¬ own_canEnc x = (0 : Int32) := by
  unfold own_canEnc; rw [if_neg h]; decide
theorem own_pd0 : parseMethodDescriptor "(C)Z" = some ⟨[.char], some .boolean⟩ := by decide +kernel
theorem own_pd1 : parseMethodDescriptor "(C)[B" = some ⟨[.char], some (.array .byte)⟩ := by decide +kernel
theorem own_pd2 : parseMethodDescriptor "([BB)V" = some ⟨[(.array .byte), .byte], none⟩ := by decide +kernel
theorem d1_0 : decode jdk_42_method_139_code 0 = .ok (.getstatic 38, 3) := by decide +kernel
theorem d1_3 : decode jdk_42_method_139_code 3 = .ok (.ifCond .eq 23, 3) := by decide +kernel
theorem d1_6 : decode jdk_42_method_139_code 6 = .ok (.iload_n 0, 1) := by decide +kernel
theorem d1_7 : decode jdk_42_method_139_code 7 = .ok (.invokestatic 1015, 3) := by decide +kernel
theorem d1_10 : decode jdk_42_method_139_code 10 = .ok (.ifCond .eq 16, 3) := by decide +kernel
theorem d1_13 : decode jdk_42_method_139_code 13 = .ok (.new 10, 3) := by decide +kernel
theorem d1_16 : decode jdk_42_method_139_code 16 = .ok (.dup, 1) := by decide +kernel
theorem d1_17 : decode jdk_42_method_139_code 17 = .ok (.iload_n 0, 1) := by decide +kernel
theorem d1_18 : decode jdk_42_method_139_code 18 = .ok (.invokestatic 1018, 3) := by decide +kernel
theorem d1_21 : decode jdk_42_method_139_code 21 = .ok (.iconst 0, 1) := by decide +kernel
theorem d1_22 : decode jdk_42_method_139_code 22 = .ok (.invokespecial 209, 3) := by decide +kernel
theorem d1_25 : decode jdk_42_method_139_code 25 = .ok (.areturn, 1) := by decide +kernel
def Q_rmVal (Z : State) (p0 : Int32) (cs : Int32) (h0 : Heap) (n0 : Nat) (v : Option Value) (h : Heap) (L : List Loc) : Prop := ∃ (xs : Addr) (xb : Addr) (xk : ClassId), v = some (.ref xs) ∧ Fr n0 L ∧ Keep h0 h [] ∧ h0.size ≤ xs ∧ h0.size ≤ xb ∧ xs ≠ xb ∧ Exa Z h xs "java/lang/String" ∧ Fld Z h xs "java/lang/String" "value" "[B" (.ref xb) ∧ Fld Z h xs "java/lang/String" "coder" "B" (.int (0 : Int32)) ∧ Arv Z h xb xk .byte (1 : Int32) [(.int (nar .byte (p0.toInt8.toInt32)))] (.int (0 : Int32))
theorem ef_rmVal (m : MethodId) (x0 : Int32) : entryFrame m #[(.int x0)] 1 = mkF m 0 #[.val (.int x0)] [] := by first | (simp [entryFrame, mkF, argsToLocals, Value.category]; done) | rfl
theorem pn_rmVal : plainName "java/lang/String" = true := by first | (simp [plainName, overriddenIn]; done) | decide +kernel
set_option maxRecDepth 65536 in
set_option maxHeartbeats 40000000 in
theorem rmVal (l : Launch) (Z : State) (a0 : Array Value) (hw : ∀ d ∈ tables_1, d.before a0 Z = true) (ws : List Jvm.Cond) (p0 : Int32) (cs : Int32) (h0 : Heap) (n0 : Nat) (Z0 : n0 ≤ h0.size) (hp0 : Sta Z h0 "java/lang/String" "COMPACT_STRINGS" "Z" (.int cs)) (hh0 : ¬ cs = (0 : Int32)) (hh1 : ¬ (255 : Int32) < p0) :
    MetFree l (⟨"java/lang/String", "valueOf", "(C)Ljava/lang/String;"⟩ : MethodName) (head1 (Jvm.Cond.code (⟨"java/lang/String", "valueOf", "(C)Ljava/lang/String;"⟩ : MethodName) jdk_42_method_139_code 1 (some (.object "java/lang/String")) :: ws) ({ frames := 2, cells := 2, slots := 5, locals := 40 } : Room)) (fun a U => a = #[(.int p0)] ∧ Z.Warmed39 U.vm ∧ U.heap = h0) (fun _ _ _ _ _ => True) (fun _ U o U' => ∃ v L, o = .returned v ∧ Q_rmVal Z p0 cs h0 n0 v U'.heap L ∧ FrameEnd U o U' L ({ frames := 2, cells := 2, slots := 5, locals := 40 } : Room).cells ({ frames := 2, cells := 2, slots := 5, locals := 40 } : Room).slots) := by
  refine MetFree.of_bodySF (plainFor_of_name pn_rmVal) hisR ?_
  intro p e s m args below meth c s₁ Bd hml0 hP hK
  obtain ⟨rfl, hZ, hh⟩ := hP
  have hx := Bd.exec
  have hby := Bd.bytes
  have hml : c.maxLocals = 1 := hml0
  have hown : s.vm.findClass "java/lang/String" = some m.cls := findClass_of_methodNamed Bd.named
  have hnm := (name_of_methodNamed Bd.named Bd.method).1
  have hlk : meth.locks = false := BodyLoose.notSynchronized Bd
  have X0 : Stand p l e ({ frames := 2, cells := 2, slots := 5, locals := 40 } : Room) s m #[(.int p0)] below meth c s₁ [] 0 0 := Stand.of_body Bd
  have e0 : s₁.heap = h0 := by rw [← hh, Bd.state]; rfl
  have N0 := Fr.nil n0
  show own_W p e below s (Q_rmVal Z p0 cs h0 n0) 2 5 s₁ (entryFrame m #[(.int p0)] 1)
  skip
  skip
  refine own_go (T' := s₁) (g' := (mkF m 0 #[.val (.int p0)] [])) (fun _ k => castTop (ef_rmVal m p0) k) ?_
  obtain ⟨T1, X1, e1, st1⟩ := getS2 X0 hx hZ hown (host := "") (Or.inl (hw _ (List.mem_of_getElem? (i := 4) rfl))) Via.refl e0 hp0 (g := (mkF m 0 #[.val (.int p0)] [])) rfl (hb hby d1_0)
  refine own_go (T' := T1) (g' := (mkF m 3 #[.val (.int p0)] [(.int cs)])) (fun _ k => st1 _ k) ?_
  refine own_go (T' := T1) (g' := (mkF m 6 #[.val (.int p0)] [])) (fun _ k => XS.ifNo X1.here hx rfl (hb hby d1_3) rfl (XT.i0_eq_f hh0) k) ?_
  refine own_go (T' := T1) (g' := (mkF m 7 #[.val (.int p0)] [(.int p0)])) (fun _ k => XS.iloadN X1.here hx rfl (hb hby d1_6) rfl k) ?_
  obtain ⟨_, _, ⟨T2, L2, k2, n2⟩, -, X2, ⟨Lc2, hQ2, l2, y2, z2⟩, st2⟩ := Jvm.LawKit.callS X1 hx (y := (⟨"java/lang/StringLatin1", "canEncode", "(C)Z"⟩ : MethodName)) hown (mvT hZ (hw _ (List.mem_of_getElem? (i := 5) rfl))) (mvT hZ (hw _ (List.mem_of_getElem? (i := 6) rfl))) (mvT hZ (hw _ (List.mem_of_getElem? (i := 7) rfl))) (mvT hZ (hw _ (List.mem_of_getElem? (i := 8) rfl))) (by decide) (backOf (W := 0) (rmCan l Z a0 hw [] p0 h0 n0 Z0 ) hZ (hw _ (List.mem_of_getElem? (i := 8) rfl)) (hw _ (List.mem_of_getElem? (i := 7) rfl)) (by decide) (by decide)) (g := (mkF m 7 #[.val (.int p0)] [(.int p0)])) rfl (by rw [hml]; rfl) (argsL := [(.int p0)]) (rest := []) (lenOf own_pd0 rfl) rfl (by show 2 * 0 + _ ≤ _; exact Nat.le_of_eq rfl) (hb hby d1_7) (fun _ _ => ⟨rfl, e1, (by decide : 0 + 0 ≤ _), (by decide : 0 + 0 ≤ _)⟩)
  dsimp only [Pt.U, Pt.locs, Pt.cells, Pt.slots] at X2 l2 y2 z2 st2 hQ2
  subst l2 y2 z2
  obtain ⟨rfl, N2q, e2⟩ := hQ2
  have N2 := Fr.app N0 N2q
  refine own_go (T' := T2) (g' := (mkF m 10 #[.val (.int p0)] [(.int (own_canEnc p0))])) (fun _ k => st2 _ k) ?_
  refine own_go (T' := T2) (g' := (mkF m 13 #[.val (.int p0)] [])) (fun _ k => XS.ifNo X2.here hx rfl (hb hby d1_10) rfl (XT.i0_eq_f (own_canYes hh1)) k) ?_
  obtain ⟨T3, h3, X3, e3, E3, A3, D3, -, st3⟩ := newO X2 hx hZ hown (hw _ (List.mem_of_getElem? (i := 9) rfl)) (hw _ (List.mem_of_getElem? (i := 10) rfl)) (hw _ (List.mem_of_getElem? (i := 2) rfl)) e2 (g := (mkF m 13 #[.val (.int p0)] [])) rfl (hb hby d1_13) (by decide) (by decide)
  obtain ⟨b3, g3⟩ : ∃ z, z = h0.size := ⟨_, rfl⟩
  rw [← g3] at A3 D3 st3
  have f4 : Sta Z h3 "java/lang/String" "COMPACT_STRINGS" "Z" (.int cs) := (hp0.ext E3)
  have fn5 : Fld Z h3 b3 "java/lang/String" "value" "[B" .null := D3 (Or.inr (hw _ (List.mem_of_getElem? (i := 23) rfl))) (ty := (.array .byte)) (by decide)
  have fn6 : Fld Z h3 b3 "java/lang/String" "coder" "B" (.int (0 : Int32)) := D3 (Or.inr (hw _ (List.mem_of_getElem? (i := 25) rfl))) (ty := .byte) (by decide)
  have ge3 : n0 ≤ b3 := Nat.le_trans Z0 (Nat.le_of_eq g3.symm)
  have sz3 : h0.size ≤ b3 := Nat.le_trans (Keep.refl h0 []).1 (Nat.le_of_eq g3.symm)
  have kk3 : Keep h0 h3 [] := (Keep.refl h0 []).ext E3
  have zs3 : n0 ≤ h3.size := Nat.le_trans Z0 E3.1
  refine own_go (T' := T3) (g' := (mkF m 16 #[.val (.int p0)] [(.ref b3)])) (fun _ k => st3 _ k) ?_
  refine own_go (T' := T3) (g' := (mkF m 17 #[.val (.int p0)] [(.ref b3), (.ref b3)])) (fun _ k => XS.dup X3.here hx rfl (hb hby d1_16) rfl rfl k) ?_
  refine own_go (T' := T3) (g' := (mkF m 18 #[.val (.int p0)] [(.int p0), (.ref b3), (.ref b3)])) (fun _ k => XS.iloadN X3.here hx rfl (hb hby d1_17) rfl k) ?_
  obtain ⟨_, _, ⟨T7, L7, k7, n7⟩, -, X7, ⟨Lc7, hQ7, l7, y7, z7⟩, st7⟩ := Jvm.LawKit.callS X3 hx (y := (⟨"java/lang/StringLatin1", "toBytes", "(C)[B"⟩ : MethodName)) hown (mvT hZ (hw _ (List.mem_of_getElem? (i := 11) rfl))) (mvT hZ (hw _ (List.mem_of_getElem? (i := 12) rfl))) (mvT hZ (hw _ (List.mem_of_getElem? (i := 7) rfl))) (mvT hZ (hw _ (List.mem_of_getElem? (i := 13) rfl))) (by decide) (backOf (W := 2) (rmToB l Z a0 hw [] p0 h3 n0 zs3 ) hZ (hw _ (List.mem_of_getElem? (i := 13) rfl)) (hw _ (List.mem_of_getElem? (i := 7) rfl)) (by decide) (by decide)) (g := (mkF m 18 #[.val (.int p0)] [(.int p0), (.ref b3), (.ref b3)])) rfl (by rw [hml]; rfl) (argsL := [(.int p0)]) (rest := [(.ref b3), (.ref b3)]) (lenOf own_pd1 rfl) rfl (by show 2 * 0 + _ ≤ _; exact Nat.le_of_eq rfl) (hb hby d1_18) (fun _ _ => ⟨rfl, e3, (by decide : 1 + 1 ≤ _), (by decide : 4 + 1 ≤ _)⟩)
  dsimp only [Pt.U, Pt.locs, Pt.cells, Pt.slots] at X7 l7 y7 z7 st7 hQ7
  subst l7 y7 z7
  obtain ⟨xb_7, xk_7, rfl, N7q, K7, po8, po9⟩ := hQ7
  have f10 : Sta Z T7.heap "java/lang/String" "COMPACT_STRINGS" "Z" (.int cs) := (own_sta_keep f4 K7 ns0)
  have f11 : Exa Z T7.heap b3 "java/lang/String" := (A3.keep K7)
  have f12 : Fld Z T7.heap b3 "java/lang/String" "value" "[B" .null := (fn5.keep K7 nin0)
  have f13 : Fld Z T7.heap b3 "java/lang/String" "coder" "B" (.int (0 : Int32)) := (fn6.keep K7 nin0)
  have ne14 : b3 ≠ xb_7 := Nat.ne_of_lt (Nat.lt_of_lt_of_le A3.lt po8)
  have ge15 : n0 ≤ xb_7 := Nat.le_trans zs3 po8
  have sz16 : h0.size ≤ xb_7 := Nat.le_trans kk3.1 po8
  have zs7 : n0 ≤ T7.heap.size := Nat.le_trans zs3 K7.1
  have kk7 : Keep h0 T7.heap [] := kk3.trans K7 all0
  have N7 := Fr.app N2 N7q
  refine own_go (T' := T7) (g' := (mkF m 21 #[.val (.int p0)] [(.ref xb_7), (.ref b3), (.ref b3)])) (fun _ k => st7 _ k) ?_
  refine own_go (T' := T7) (g' := (mkF m 22 #[.val (.int p0)] [(.int (0 : Int32)), (.ref xb_7), (.ref b3), (.ref b3)])) (fun _ k => XS.iconst X7.here hx rfl (hb hby d1_21) k) ?_
  obtain ⟨_, _, ⟨T17, L17, k17, n17⟩, -, X17, ⟨Lc17, hQ17, l17, y17, z17⟩, st17⟩ := X7.specialBack hx (y := (⟨"java/lang/String", "<init>", "([BB)V"⟩ : MethodName)) rfl hown (mvT hZ (hw _ (List.mem_of_getElem? (i := 15) rfl))) (mvT hZ (hw _ (List.mem_of_getElem? (i := 16) rfl))) (mvT hZ (hw _ (List.mem_of_getElem? (i := 18) rfl))) (by decide) (backOf (W := 1) (rmStr l Z a0 hw [] b3 xb_7 T7.heap n0 zs7 f11 ge3 f12 f13) hZ (hw _ (List.mem_of_getElem? (i := 18) rfl)) (hw _ (List.mem_of_getElem? (i := 2) rfl)) (by decide) (by decide)) (g := (mkF m 22 #[.val (.int p0)] [(.int (0 : Int32)), (.ref xb_7), (.ref b3), (.ref b3)])) rfl (by rw [hml]; rfl) (Steps.refl _) (a := b3) (argsL := [(.ref xb_7), (.int (0 : Int32))]) (rest := [(.ref b3)]) (lenOf own_pd2 rfl) rfl (by show 2 * 0 + _ ≤ _; exact Nat.le_of_eq rfl) (hb hby d1_22) (fun _ _ => ⟨rfl, rfl, (by decide : 2 + 0 ≤ _), (by decide : 5 + 0 ≤ _)⟩)
  dsimp only [Pt.U, Pt.locs, Pt.cells, Pt.slots] at X17 l17 y17 z17 st17 hQ17
  subst l17 y17 z17
  obtain ⟨rfl, N17q, K17, po18, po19, po20⟩ := hQ17
  have f21 : Sta Z T17.heap "java/lang/String" "COMPACT_STRINGS" "Z" (.int cs) := (own_sta_keep f10 K17 (nsS f11.nostat ns0))
  have f22 : Exa Z T17.heap b3 "java/lang/String" := (f11.keep K17)
  have f23 : Arv Z T17.heap xb_7 xk_7 .byte (1 : Int32) [(.int (nar .byte (p0.toInt8.toInt32)))] (.int (0 : Int32)) := (po9.keep K17 (ninS (Ne.symm ne14) nin0))
  have zs17 : n0 ≤ T17.heap.size := Nat.le_trans zs7 K17.1
  have kk17 : Keep h0 T17.heap [] := kk7.trans K17 (allS (Or.inr sz3) all0)
  have N17 := Fr.app N7 N17q
  refine own_go (T' := T17) (g' := (mkF m 25 #[.val (.int p0)] [(.ref b3)])) (fun _ k => st17.trans k) ?_
  exact own_ret X17 hx Bd.returns hlk rfl (Or.inr (Or.inr (Or.inr (Or.inr ⟨rfl, rfl, rfl⟩)))) (hb hby d1_25) rfl ⟨b3, xb_7, xk_7, rfl, N17, kk17, sz3, sz16, ne14, po20, po18, po19, f23⟩ (by decide) (by decide)
theorem d6_0 : decode prog_21_method_1_code 0 = .ok (.aload_n 0, 1) := by decide +kernel
theorem d6_1 : decode prog_21_method_1_code 1 = .ok (.invokespecial 1, 3) := by decide +kernel
theorem d6_4 : decode prog_21_method_1_code 4 = .ok (.aload_n 0, 1) := by decide +kernel
theorem d6_5 : decode prog_21_method_1_code 5 = .ok (.iload_n 1, 1) := by decide +kernel
theorem d6_6 : decode prog_21_method_1_code 6 = .ok (.putfield 7, 3) := by decide +kernel
theorem d6_9 : decode prog_21_method_1_code 9 = .ok (.aload_n 0, 1) := by decide +kernel
theorem d6_10 : decode prog_21_method_1_code 10 = .ok (.aload_n 2, 1) := by decide +kernel
theorem d6_11 : decode prog_21_method_1_code 11 = .ok (.putfield 13, 3) := by decide +kernel
theorem d6_14 : decode prog_21_method_1_code 14 = .ok (.return_, 1) := by decide +kernel
def Q_rmRole (Z : State) (r0 : Addr) (p1 : Int32) (r2 : Addr) (h0 : Heap) (n0 : Nat) (v : Option Value) (h : Heap) (L : List Loc) : Prop := v = none ∧ Fr n0 L ∧ Keep h0 h [r0] ∧ Fld Z h r0 "com/example/cardinal_tableau/cardinaltableau/model/Role" "inverse" "Lcom/example/cardinal_tableau/cardinaltableau/model/Role;" .null ∧ Fld Z h r0 "com/example/cardinal_tableau/cardinaltableau/model/Role" "id" "I" (.int p1) ∧ Fld Z h r0 "com/example/cardinal_tableau/cardinaltableau/model/Role" "iri" "Ljava/lang/String;" (.ref r2) ∧ Exa Z h r0 "com/example/cardinal_tableau/cardinaltableau/model/Role"
theorem ef_rmRole (m : MethodId) (x0 : Addr) (x1 : Int32) (x2 : Addr) : entryFrame m #[(.ref x0), (.int x1), (.ref x2)] 3 = mkF m 0 #[.val (.ref x0), .val (.int x1), .val (.ref x2)] [] := by first | (simp [entryFrame, mkF, argsToLocals, Value.category]; done) | rfl
theorem pn_rmRole : plainName "com/example/cardinal_tableau/cardinaltableau/model/Role" = true := by first | (simp [plainName, overriddenIn]; done) | decide +kernel
set_option maxRecDepth 65536 in
set_option maxHeartbeats 40000000 in
theorem rmRole (l : Launch) (Z : State) (a0 : Array Value) (hw : ∀ d ∈ tables_1, d.before a0 Z = true) (ws : List Jvm.Cond) (r0 : Addr) (p1 : Int32) (r2 : Addr) (h0 : Heap) (n0 : Nat) (Z0 : n0 ≤ h0.size) (hp0 : Exa Z h0 r0 "com/example/cardinal_tableau/cardinaltableau/model/Role") (hp1 : n0 ≤ r0) (hp2 : Fld Z h0 r0 "com/example/cardinal_tableau/cardinaltableau/model/Role" "id" "I" (.int (0 : Int32))) (hp3 : Fld Z h0 r0 "com/example/cardinal_tableau/cardinaltableau/model/Role" "iri" "Ljava/lang/String;" .null) (hp4 : Fld Z h0 r0 "com/example/cardinal_tableau/cardinaltableau/model/Role" "inverse" "Lcom/example/cardinal_tableau/cardinaltableau/model/Role;" .null) :
    MetFree l (⟨"com/example/cardinal_tableau/cardinaltableau/model/Role", "<init>", "(ILjava/lang/String;)V"⟩ : MethodName) (head1 (Jvm.Cond.code (⟨"com/example/cardinal_tableau/cardinaltableau/model/Role", "<init>", "(ILjava/lang/String;)V"⟩ : MethodName) prog_21_method_1_code 3 none :: ws) ({ frames := 1, cells := 0, slots := 0, locals := 12 } : Room)) (fun a U => a = #[(.ref r0), (.int p1), (.ref r2)] ∧ Z.Warmed39 U.vm ∧ U.heap = h0) (fun _ _ _ _ _ => True) (fun _ U o U' => ∃ v L, o = .returned v ∧ Q_rmRole Z r0 p1 r2 h0 n0 v U'.heap L ∧ FrameEnd U o U' L ({ frames := 1, cells := 0, slots := 0, locals := 12 } : Room).cells ({ frames := 1, cells := 0, slots := 0, locals := 12 } : Room).slots) := by
  refine MetFree.of_bodySF (plainFor_of_name pn_rmRole) hisR ?_
  intro p e s m args below meth c s₁ Bd hml0 hP hK
  obtain ⟨rfl, hZ, hh⟩ := hP
  have hx := Bd.exec
  have hby := Bd.bytes
  have hml : c.maxLocals = 3 := hml0
  have hown : s.vm.findClass "com/example/cardinal_tableau/cardinaltableau/model/Role" = some m.cls := findClass_of_methodNamed Bd.named
  have hnm := (name_of_methodNamed Bd.named Bd.method).1
  have hlk : meth.locks = false := BodyLoose.notSynchronized Bd
  have X0 : Stand p l e ({ frames := 1, cells := 0, slots := 0, locals := 12 } : Room) s m #[(.ref r0), (.int p1), (.ref r2)] below meth c s₁ [] 0 0 := Stand.of_body Bd
  have e0 : s₁.heap = h0 := by rw [← hh, Bd.state]; rfl
  have N0 := Fr.nil n0
  show own_W p e below s (Q_rmRole Z r0 p1 r2 h0 n0) 0 0 s₁ (entryFrame m #[(.ref r0), (.int p1), (.ref r2)] 3)
  skip
  skip
  refine own_go (T' := s₁) (g' := (mkF m 0 #[.val (.ref r0), .val (.int p1), .val (.ref r2)] [])) (fun _ k => castTop (ef_rmRole m r0 p1 r2) k) ?_
  refine own_go (T' := s₁) (g' := (mkF m 1 #[.val (.ref r0), .val (.int p1), .val (.ref r2)] [(.ref r0)])) (fun _ k => XS.aloadN X0.here hx rfl (hb hby d6_0) rfl rfl k) ?_
  obtain ⟨T1, X1, e1, st1⟩ := initO X0 hx hZ hown (hw _ (List.mem_of_getElem? (i := 32) rfl)) (hw _ (List.mem_of_getElem? (i := 20) rfl)) (hw _ (List.mem_of_getElem? (i := 21) rfl)) e0 (g := (mkF m 1 #[.val (.ref r0), .val (.int p1), .val (.ref r2)] [(.ref r0)])) rfl (by rw [hml]; rfl) rfl (hb hby d6_1) (by decide) (W := 0) (by show 2 * 0 + _ ≤ _; exact Nat.le_of_eq rfl) (by decide)
  refine own_go (T' := T1) (g' := (mkF m 4 #[.val (.ref r0), .val (.int p1), .val (.ref r2)] [])) (fun _ k => st1 _ k) ?_
  refine own_go (T' := T1) (g' := (mkF m 5 #[.val (.ref r0), .val (.int p1), .val (.ref r2)] [(.ref r0)])) (fun _ k => XS.aloadN X1.here hx rfl (hb hby d6_4) rfl rfl k) ?_
  refine own_go (T' := T1) (g' := (mkF m 6 #[.val (.ref r0), .val (.int p1), .val (.ref r2)] [(.int p1), (.ref r0)])) (fun _ k => XS.iloadN X1.here hx rfl (hb hby d6_5) rfl k) ?_
  obtain ⟨T2, h2, X2, e2, W2, st2⟩ := putF X1 hx hZ hown (host := "") (Or.inl (hw _ (List.mem_of_getElem? (i := 33) rfl))) Via.refl e1 hp2 hp0 (Or.inr ⟨(hw _ (List.mem_of_getElem? (i := 34) rfl)), rfl, hnm⟩) (hw _ (List.mem_of_getElem? (i := 27) rfl)) (ty := .int) (by decide) rfl rfl (g := (mkF m 6 #[.val (.ref r0), .val (.int p1), .val (.ref r2)] [(.int p1), (.ref r0)])) rfl rfl (hb hby d6_6)
  have f3 : Exa Z h2 r0 "com/example/cardinal_tableau/cardinaltableau/model/Role" := (hp0.wr W2)
  have f4 : Fld Z h2 r0 "com/example/cardinal_tableau/cardinaltableau/model/Role" "iri" "Ljava/lang/String;" .null := (hp3.other W2 (Or.inr (slot_ne (Or.inr (hw _ (List.mem_of_getElem? (i := 36) rfl))) (Or.inr (hw _ (List.mem_of_getElem? (i := 34) rfl))) (by decide) (t := (.object "java/lang/String")) (t' := .int) (by decide) (by decide))))
  have f5 : Fld Z h2 r0 "com/example/cardinal_tableau/cardinaltableau/model/Role" "inverse" "Lcom/example/cardinal_tableau/cardinaltableau/model/Role;" .null := (hp4.other W2 (Or.inr (slot_ne (Or.inl (hw _ (List.mem_of_getElem? (i := 43) rfl))) (Or.inr (hw _ (List.mem_of_getElem? (i := 34) rfl))) (by decide) (t := (.object "com/example/cardinal_tableau/cardinaltableau/model/Role")) (t' := .int) (by decide) (by decide))))
  have fw2 : Fld Z h2 r0 "com/example/cardinal_tableau/cardinaltableau/model/Role" "id" "I" (.int p1) := hp2.same W2
  have N2 := Fr.snoc X2 N0 hp1
  have zs2 : n0 ≤ h2.size := by rw [W2.size]; exact Z0
  have kk2 : Keep h0 h2 [r0] := (Keep.refl h0 [r0]).wr W2 (Or.inl (List.mem_of_getElem? (i := 0) rfl))
  refine own_go (T' := T2) (g' := (mkF m 9 #[.val (.ref r0), .val (.int p1), .val (.ref r2)] [])) (fun _ k => st2 _ k) ?_
  refine own_go (T' := T2) (g' := (mkF m 10 #[.val (.ref r0), .val (.int p1), .val (.ref r2)] [(.ref r0)])) (fun _ k => XS.aloadN X2.here hx rfl (hb hby d6_9) rfl rfl k) ?_
  refine own_go (T' := T2) (g' := (mkF m 11 #[.val (.ref r0), .val (.int p1), .val (.ref r2)] [(.ref r2), (.ref r0)])) (fun _ k => XS.aloadN X2.here hx rfl (hb hby d6_10) rfl rfl k) ?_
  obtain ⟨T6, h6, X6, e6, W6, st6⟩ := putF X2 hx hZ hown (host := "") (Or.inl (hw _ (List.mem_of_getElem? (i := 35) rfl))) Via.refl e2 f4 f3 (Or.inr ⟨(hw _ (List.mem_of_getElem? (i := 36) rfl)), rfl, hnm⟩) (hw _ (List.mem_of_getElem? (i := 27) rfl)) (ty := (.object "java/lang/String")) (by decide) rfl rfl (g := (mkF m 11 #[.val (.ref r0), .val (.int p1), .val (.ref r2)] [(.ref r2), (.ref r0)])) rfl rfl (hb hby d6_11)
  have f7 : Exa Z h6 r0 "com/example/cardinal_tableau/cardinaltableau/model/Role" := (f3.wr W6)
  have f8 : Fld Z h6 r0 "com/example/cardinal_tableau/cardinaltableau/model/Role" "inverse" "Lcom/example/cardinal_tableau/cardinaltableau/model/Role;" .null := (f5.other W6 (Or.inr (slot_ne (Or.inl (hw _ (List.mem_of_getElem? (i := 43) rfl))) (Or.inr (hw _ (List.mem_of_getElem? (i := 36) rfl))) (by decide) (t := (.object "com/example/cardinal_tableau/cardinaltableau/model/Role")) (t' := (.object "java/lang/String")) (by decide) (by decide))))
  have f9 : Fld Z h6 r0 "com/example/cardinal_tableau/cardinaltableau/model/Role" "id" "I" (.int p1) := (fw2.other W6 (Or.inr (slot_ne (Or.inr (hw _ (List.mem_of_getElem? (i := 34) rfl))) (Or.inr (hw _ (List.mem_of_getElem? (i := 36) rfl))) (by decide) (t := .int) (t' := (.object "java/lang/String")) (by decide) (by decide))))
  have fw6 : Fld Z h6 r0 "com/example/cardinal_tableau/cardinaltableau/model/Role" "iri" "Ljava/lang/String;" (.ref r2) := f4.same W6
  have N6 := Fr.snoc X6 N2 hp1
  have zs6 : n0 ≤ h6.size := by rw [W6.size]; exact zs2
  have kk6 : Keep h0 h6 [r0] := kk2.wr W6 (Or.inl (List.mem_of_getElem? (i := 0) rfl))
  refine own_go (T' := T6) (g' := (mkF m 14 #[.val (.ref r0), .val (.int p1), .val (.ref r2)] [])) (fun _ k => st6 _ k) ?_
  exact own_ret0 X6 hx Bd.returns hlk (hb hby d6_14) e6 ⟨rfl, N6, kk6, f8, f9, fw6, f7⟩ (by decide) (by decide)
theorem d7_0 : decode prog_21_method_5_code 0 = .ok (.aload_n 0, 1) := by decide +kernel
theorem d7_1 : decode prog_21_method_5_code 1 = .ok (.aload_n 1, 1) := by decide +kernel
theorem d7_2 : decode prog_21_method_5_code 2 = .ok (.putfield 17, 3) := by decide +kernel
theorem d7_5 : decode prog_21_method_5_code 5 = .ok (.return_, 1) := by decide +kernel
def Q_rmSet (Z : State) (r0 : Addr) (r1 : Addr) (uold : Value) (idv : Int32) (h0 : Heap) (n0 : Nat) (v : Option Value) (h : Heap) (L : List Loc) : Prop := v = none ∧ Fr n0 L ∧ Keep h0 h [r0] ∧ Fld Z h r0 "com/example/cardinal_tableau/cardinaltableau/model/Role" "inverse" "Lcom/example/cardinal_tableau/cardinaltableau/model/Role;" (.ref r1) ∧ Fld Z h r0 "com/example/cardinal_tableau/cardinaltableau/model/Role" "id" "I" (.int idv)
theorem ef_rmSet (m : MethodId) (x0 : Addr) (x1 : Addr) : entryFrame m #[(.ref x0), (.ref x1)] 2 = mkF m 0 #[.val (.ref x0), .val (.ref x1)] [] := by first | (simp [entryFrame, mkF, argsToLocals, Value.category]; done) | rfl
theorem pn_rmSet : plainName "com/example/cardinal_tableau/cardinaltableau/model/Role" = true := by first | (simp [plainName, overriddenIn]; done) | decide +kernel
set_option maxRecDepth 65536 in
set_option maxHeartbeats 40000000 in
theorem rmSet (l : Launch) (Z : State) (a0 : Array Value) (hw : ∀ d ∈ tables_1, d.before a0 Z = true) (ws : List Jvm.Cond) (r0 : Addr) (r1 : Addr) (uold : Value) (idv : Int32) (h0 : Heap) (n0 : Nat) (Z0 : n0 ≤ h0.size) (hp0 : Exa Z h0 r0 "com/example/cardinal_tableau/cardinaltableau/model/Role") (hp1 : n0 ≤ r0) (hp2 : Fld Z h0 r0 "com/example/cardinal_tableau/cardinaltableau/model/Role" "inverse" "Lcom/example/cardinal_tableau/cardinaltableau/model/Role;" uold) (hp3 : Fld Z h0 r0 "com/example/cardinal_tableau/cardinaltableau/model/Role" "id" "I" (.int idv)) :
    MetFree l (⟨"com/example/cardinal_tableau/cardinaltableau/model/Role", "setInverse", "(Lcom/example/cardinal_tableau/cardinaltableau/model/Role;)V"⟩ : MethodName) (head1 (Jvm.Cond.code (⟨"com/example/cardinal_tableau/cardinaltableau/model/Role", "setInverse", "(Lcom/example/cardinal_tableau/cardinaltableau/model/Role;)V"⟩ : MethodName) prog_21_method_5_code 2 none :: ws) ({ frames := 0, cells := 0, slots := 0, locals := 0 } : Room)) (fun a U => a = #[(.ref r0), (.ref r1)] ∧ Z.Warmed39 U.vm ∧ U.heap = h0) (fun _ _ _ _ _ => True) (fun _ U o U' => ∃ v L, o = .returned v ∧ Q_rmSet Z r0 r1 uold idv h0 n0 v U'.heap L ∧ FrameEnd U o U' L ({ frames := 0, cells := 0, slots := 0, locals := 0 } : Room).cells ({ frames := 0, cells := 0, slots := 0, locals := 0 } : Room).slots) := by
  refine MetFree.of_bodySF (plainFor_of_name pn_rmSet) hisR ?_
  intro p e s m args below meth c s₁ Bd hml0 hP hK
  obtain ⟨rfl, hZ, hh⟩ := hP
  have hx := Bd.exec
  have hby := Bd.bytes
  have hml : c.maxLocals = 2 := hml0
  have hown : s.vm.findClass "com/example/cardinal_tableau/cardinaltableau/model/Role" = some m.cls := findClass_of_methodNamed Bd.named
  have hnm := (name_of_methodNamed Bd.named Bd.method).1
  have hlk : meth.locks = false := BodyLoose.notSynchronized Bd
  have X0 : Stand p l e ({ frames := 0, cells := 0, slots := 0, locals := 0 } : Room) s m #[(.ref r0), (.ref r1)] below meth c s₁ [] 0 0 := Stand.of_body Bd
  have e0 : s₁.heap = h0 := by rw [← hh, Bd.state]; rfl
  have N0 := Fr.nil n0
  show own_W p e below s (Q_rmSet Z r0 r1 uold idv h0 n0) 0 0 s₁ (entryFrame m #[(.ref r0), (.ref r1)] 2)
  skip
  skip
  refine own_go (T' := s₁) (g' := (mkF m 0 #[.val (.ref r0), .val (.ref r1)] [])) (fun _ k => castTop (ef_rmSet m r0 r1) k) ?_
  refine own_go (T' := s₁) (g' := (mkF m 1 #[.val (.ref r0), .val (.ref r1)] [(.ref r0)])) (fun _ k => XS.aloadN X0.here hx rfl (hb hby d7_0) rfl rfl k) ?_
  refine own_go (T' := s₁) (g' := (mkF m 2 #[.val (.ref r0), .val (.ref r1)] [(.ref r1), (.ref r0)])) (fun _ k => XS.aloadN X0.here hx rfl (hb hby d7_1) rfl rfl k) ?_
  obtain ⟨T1, h1, X1, e1, W1, st1⟩ := putF X0 hx hZ hown (host := "") (Or.inl (hw _ (List.mem_of_getElem? (i := 42) rfl))) Via.refl e0 hp2 hp0 (Or.inl (hw _ (List.mem_of_getElem? (i := 43) rfl))) (hw _ (List.mem_of_getElem? (i := 27) rfl)) (ty := (.object "com/example/cardinal_tableau/cardinaltableau/model/Role")) (by decide) rfl rfl (g := (mkF m 2 #[.val (.ref r0), .val (.ref r1)] [(.ref r1), (.ref r0)])) rfl rfl (hb hby d7_2)
  have f2 : Exa Z h1 r0 "com/example/cardinal_tableau/cardinaltableau/model/Role" := (hp0.wr W1)
  have f3 : Fld Z h1 r0 "com/example/cardinal_tableau/cardinaltableau/model/Role" "id" "I" (.int idv) := (hp3.other W1 (Or.inr (slot_ne (Or.inr (hw _ (List.mem_of_getElem? (i := 34) rfl))) (Or.inl (hw _ (List.mem_of_getElem? (i := 43) rfl))) (by decide) (t := .int) (t' := (.object "com/example/cardinal_tableau/cardinaltableau/model/Role")) (by decide) (by decide))))
  have fw1 : Fld Z h1 r0 "com/example/cardinal_tableau/cardinaltableau/model/Role" "inverse" "Lcom/example/cardinal_tableau/cardinaltableau/model/Role;" (.ref r1) := hp2.same W1
  have N1 := Fr.snoc X1 N0 hp1
  have zs1 : n0 ≤ h1.size := by rw [W1.size]; exact Z0
  have kk1 : Keep h0 h1 [r0] := (Keep.refl h0 [r0]).wr W1 (Or.inl (List.mem_of_getElem? (i := 0) rfl))
  refine own_go (T' := T1) (g' := (mkF m 5 #[.val (.ref r0), .val (.ref r1)] [])) (fun _ k => st1 _ k) ?_
  exact own_ret0 X1 hx Bd.returns hlk (hb hby d7_5) e1 ⟨rfl, N1, kk1, fw1, f3⟩ (by decide) (by decide)
def own_isInv (r0 : Addr) (inv : Addr) (idv : Int32) (idw : Int32) : Int32 := (if inv = r0 then (0 : Int32) else (if idw < idv then (1 : Int32) else (0 : Int32)))
theorem d8_0 : decode prog_21_method_7_code 0 = .ok (.aload_n 0, 1) := by decide +kernel
theorem d8_1 : decode prog_21_method_7_code 1 = .ok (.getfield 17, 3) := by decide +kernel
theorem d8_4 : decode prog_21_method_7_code 4 = .ok (.aload_n 0, 1) := by decide +kernel
theorem d8_5 : decode prog_21_method_7_code 5 = .ok (.if_acmp .eq 21, 3) := by decide +kernel
theorem d8_8 : decode prog_21_method_7_code 8 = .ok (.aload_n 0, 1) := by decide +kernel
theorem d8_9 : decode prog_21_method_7_code 9 = .ok (.getfield 17, 3) := by decide +kernel
theorem d8_12 : decode prog_21_method_7_code 12 = .ok (.getfield 7, 3) := by decide +kernel
theorem d8_15 : decode prog_21_method_7_code 15 = .ok (.aload_n 0, 1) := by decide +kernel
theorem d8_16 : decode prog_21_method_7_code 16 = .ok (.getfield 7, 3) := by decide +kernel
theorem d8_19 : decode prog_21_method_7_code 19 = .ok (.if_icmp .ge 7, 3) := by decide +kernel
theorem d8_22 : decode prog_21_method_7_code 22 = .ok (.iconst 1, 1) := by decide +kernel
theorem d8_23 : decode prog_21_method_7_code 23 = .ok (.goto 4, 3) := by decide +kernel
theorem d8_26 : decode prog_21_method_7_code 26 = .ok (.iconst 0, 1) := by decide +kernel
theorem d8_27 : decode prog_21_method_7_code 27 = .ok (.ireturn, 1) := by decide +kernel
def Q_rmIs (Z : State) (r0 : Addr) (inv : Addr) (idv : Int32) (idw : Int32) (h0 : Heap) (n0 : Nat) (v : Option Value) (h : Heap) (L : List Loc) : Prop := v = some (.int (own_isInv r0 inv idv idw)) ∧ Fr n0 L ∧ h = h0
theorem ef_rmIs (m : MethodId) (x0 : Addr) : entryFrame m #[(.ref x0)] 1 = mkF m 0 #[.val (.ref x0)] [] := by first | (simp [entryFrame, mkF, argsToLocals, Value.category]; done) | rfl
theorem pn_rmIs : plainName "com/example/cardinal_tableau/cardinaltableau/model/Role" = true := by first | (simp [plainName, overriddenIn]; done) | decide +kernel
set_option maxRecDepth 65536 in
set_option maxHeartbeats 40000000 in
theorem rmIs (l : Launch) (Z : State) (a0 : Array Value) (hw : ∀ d ∈ tables_1, d.before a0 Z = true) (ws : List Jvm.Cond) (r0 : Addr) (inv : Addr) (idv : Int32) (idw : Int32) (h0 : Heap) (n0 : Nat) (Z0 : n0 ≤ h0.size) (hp0 : Fld Z h0 r0 "com/example/cardinal_tableau/cardinaltableau/model/Role" "inverse" "Lcom/example/cardinal_tableau/cardinaltableau/model/Role;" (.ref inv)) (hp1 : Fld Z h0 r0 "com/example/cardinal_tableau/cardinaltableau/model/Role" "id" "I" (.int idv)) (hp2 : Fld Z h0 inv "com/example/cardinal_tableau/cardinaltableau/model/Role" "id" "I" (.int idw)) :
    MetFree l (⟨"com/example/cardinal_tableau/cardinaltableau/model/Role", "isInverse", "()Z"⟩ : MethodName) (head1 (Jvm.Cond.code (⟨"com/example/cardinal_tableau/cardinaltableau/model/Role", "isInverse", "()Z"⟩ : MethodName) prog_21_method_7_code 1 (some .boolean) :: ws) ({ frames := 0, cells := 0, slots := 0, locals := 0 } : Room)) (fun a U => a = #[(.ref r0)] ∧ Z.Warmed39 U.vm ∧ U.heap = h0) (fun _ _ _ _ _ => True) (fun _ U o U' => ∃ v L, o = .returned v ∧ Q_rmIs Z r0 inv idv idw h0 n0 v U'.heap L ∧ FrameEnd U o U' L ({ frames := 0, cells := 0, slots := 0, locals := 0 } : Room).cells ({ frames := 0, cells := 0, slots := 0, locals := 0 } : Room).slots) := by
  refine MetFree.of_bodySF (plainFor_of_name pn_rmIs) hisR ?_
  intro p e s m args below meth c s₁ Bd hml0 hP hK
  obtain ⟨rfl, hZ, hh⟩ := hP
  have hx := Bd.exec
  have hby := Bd.bytes
  have hml : c.maxLocals = 1 := hml0
  have hown : s.vm.findClass "com/example/cardinal_tableau/cardinaltableau/model/Role" = some m.cls := findClass_of_methodNamed Bd.named
  have hnm := (name_of_methodNamed Bd.named Bd.method).1
  have hlk : meth.locks = false := BodyLoose.notSynchronized Bd
  have X0 : Stand p l e ({ frames := 0, cells := 0, slots := 0, locals := 0 } : Room) s m #[(.ref r0)] below meth c s₁ [] 0 0 := Stand.of_body Bd
  have e0 : s₁.heap = h0 := by rw [← hh, Bd.state]; rfl
  have N0 := Fr.nil n0
  show own_W p e below s (Q_rmIs Z r0 inv idv idw h0 n0) 0 0 s₁ (entryFrame m #[(.ref r0)] 1)
  skip
  skip
  refine own_go (T' := s₁) (g' := (mkF m 0 #[.val (.ref r0)] [])) (fun _ k => castTop (ef_rmIs m r0) k) ?_
  refine own_go (T' := s₁) (g' := (mkF m 1 #[.val (.ref r0)] [(.ref r0)])) (fun _ k => XS.aloadN X0.here hx rfl (hb hby d8_0) rfl rfl k) ?_
  obtain ⟨T1, X1, e1, st1⟩ := getF X0 hx hZ hown (host := "") (Or.inl (hw _ (List.mem_of_getElem? (i := 42) rfl))) Via.refl e0 hp0 (g := (mkF m 1 #[.val (.ref r0)] [(.ref r0)])) rfl rfl (hb hby d8_1)
  refine own_go (T' := T1) (g' := (mkF m 4 #[.val (.ref r0)] [(.ref inv)])) (fun _ k => st1 _ k) ?_
  refine own_go (T' := T1) (g' := (mkF m 5 #[.val (.ref r0)] [(.ref r0), (.ref inv)])) (fun _ k => XS.aloadN X1.here hx rfl (hb hby d8_4) rfl rfl k) ?_
  by_cases hc5_2 : inv = r0
  · skip
    refine own_go (T' := T1) (g' := (mkF m 26 #[.val (.ref r0)] [])) (fun _ k => XT.acmpYes X1.here hx rfl (pc0 := 5) (pc' := 26) rfl (hb hby d8_5) rfl rfl rfl (XT.aa_eq_t (congrArg Value.ref hc5_2)) (by decide) (by decide) k) ?_
    refine own_go (T' := T1) (g' := (mkF m 27 #[.val (.ref r0)] [(.int (0 : Int32))])) (fun _ k => XS.iconst X1.here hx rfl (hb hby d8_26) k) ?_
    exact own_retN X1 hx (t := .boolean) Bd.returns hlk (by simp) (hb hby d8_27) e1 ⟨(by unfold own_isInv; first | (rw [if_pos hc5_2]; done) | (rw [if_pos hc5_2]; rfl)), N0, rfl⟩ (by decide) (by decide)
  · skip
    refine own_go (T' := T1) (g' := (mkF m 8 #[.val (.ref r0)] [])) (fun _ k => XT.acmpNo X1.here hx rfl (hb hby d8_5) rfl rfl rfl (XT.aa_eq_f (fun q => hc5_2 (Value.ref.inj q))) k) ?_
    refine own_go (T' := T1) (g' := (mkF m 9 #[.val (.ref r0)] [(.ref r0)])) (fun _ k => XS.aloadN X1.here hx rfl (hb hby d8_8) rfl rfl k) ?_
    obtain ⟨T3, X3, e3, st3⟩ := getF X1 hx hZ hown (host := "") (Or.inl (hw _ (List.mem_of_getElem? (i := 42) rfl))) Via.refl e1 hp0 (g := (mkF m 9 #[.val (.ref r0)] [(.ref r0)])) rfl rfl (hb hby d8_9)
    refine own_go (T' := T3) (g' := (mkF m 12 #[.val (.ref r0)] [(.ref inv)])) (fun _ k => st3 _ k) ?_
    obtain ⟨T4, X4, e4, st4⟩ := getF X3 hx hZ hown (host := "") (Or.inl (hw _ (List.mem_of_getElem? (i := 33) rfl))) Via.refl e3 hp2 (g := (mkF m 12 #[.val (.ref r0)] [(.ref inv)])) rfl rfl (hb hby d8_12)
    refine own_go (T' := T4) (g' := (mkF m 15 #[.val (.ref r0)] [(.int idw)])) (fun _ k => st4 _ k) ?_
    refine own_go (T' := T4) (g' := (mkF m 16 #[.val (.ref r0)] [(.ref r0), (.int idw)])) (fun _ k => XS.aloadN X4.here hx rfl (hb hby d8_15) rfl rfl k) ?_
    obtain ⟨T5, X5, e5, st5⟩ := getF X4 hx hZ hown (host := "") (Or.inl (hw _ (List.mem_of_getElem? (i := 33) rfl))) Via.refl e4 hp1 (g := (mkF m 16 #[.val (.ref r0)] [(.ref r0), (.int idw)])) rfl rfl (hb hby d8_16)
    refine own_go (T' := T5) (g' := (mkF m 19 #[.val (.ref r0)] [(.int idv), (.int idw)])) (fun _ k => st5 _ k) ?_
    by_cases hc19_6 : idw < idv
    · skip
      refine own_go (T' := T5) (g' := (mkF m 22 #[.val (.ref r0)] [])) (fun _ k => XS.icmpNo X5.here hx rfl (hb hby d8_19) rfl (XT.ii_ge_f hc19_6) k) ?_
      refine own_go (T' := T5) (g' := (mkF m 23 #[.val (.ref r0)] [(.int (1 : Int32))])) (fun _ k => XS.iconst X5.here hx rfl (hb hby d8_22) k) ?_
      refine own_go (T' := T5) (g' := (mkF m 27 #[.val (.ref r0)] [(.int (1 : Int32))])) (fun _ k => XS.goto X5.here hx rfl (pc0 := 23) (pc' := 27) rfl (hb hby d8_23) (by decide) (by decide) k) ?_
      exact own_retN X5 hx (t := .boolean) Bd.returns hlk (by simp) (hb hby d8_27) e5 ⟨(by unfold own_isInv; first | (rw [if_neg hc5_2, if_pos hc19_6]; done) | (rw [if_neg hc5_2, if_pos hc19_6]; rfl)), N0, rfl⟩ (by decide) (by decide)
    · skip
      refine own_go (T' := T5) (g' := (mkF m 26 #[.val (.ref r0)] [])) (fun _ k => XS.icmpYes X5.here hx rfl (pc0 := 19) (pc' := 26) rfl (hb hby d8_19) rfl (XT.ii_ge_t hc19_6) (by decide) (by decide) k) ?_
      refine own_go (T' := T5) (g' := (mkF m 27 #[.val (.ref r0)] [(.int (0 : Int32))])) (fun _ k => XS.iconst X5.here hx rfl (hb hby d8_26) k) ?_
      exact own_retN X5 hx (t := .boolean) Bd.returns hlk (by simp) (hb hby d8_27) e5 ⟨(by unfold own_isInv; first | (rw [if_neg hc5_2, if_neg hc19_6]; done) | (rw [if_neg hc5_2, if_neg hc19_6]; rfl)), N0, rfl⟩ (by decide) (by decide)
theorem own_ch (x : Int32) : ¬ (255 : Int32) < ((x &&& (255 : Int32)).toUInt32.toUInt16.toUInt32.toInt32) := by
  rw [i2c_mask]
  have h0 : (x &&& (255 : Int32)).toInt = x.toInt % 256 := c_mask x 255 8 (by decide) (by decide)
  rw [Int32.lt_iff_toInt_lt, show (255 : Int32).toInt = 255 from rfl]; omega
theorem own_A {a b : Addr} (h : ¬ b = a) {i j v : Int32} (hv : v = if j < i then 1 else 0) : own_isInv a b i j = v := by
  subst hv; unfold own_isInv; rw [if_neg h]
theorem own_S {a : Addr} {i j : Int32} : own_isInv a a i j = 0 := by unfold own_isInv; rw [if_pos rfl]
theorem own_nj {i j v : Int32} (hv : v = if j = i then i + 1 else j) : ¬ v = i := by
  subst hv
  have h1 := c_iadd i 1
  have h2 := rng32 i
  have h3 := rng32 (i + 1)
  have z1 : (1 : Int32).toInt = 1 := rfl
  split
  · intro q; rw [← Int32.toInt_inj] at q; omega
  · assumption
theorem own_X {a b : Addr} (h : a ≠ b) {i j v w : Int32} (hj : ¬ j = i) (hw : w = if own_isInv a b i j = own_isInv b a j i then 0 else 1) : ¬ w = 0 := by
  subst hw
  rw [own_A (Ne.symm h) rfl, own_A h rfl]
  rw [← Int32.toInt_inj] at hj
  have : ¬ ((if j < i then (1 : Int32) else 0) = if i < j then (1 : Int32) else 0) := by
    simp only [Int32.lt_iff_toInt_lt]
    by_cases q : j.toInt < i.toInt
    · rw [if_pos q, if_neg (by omega)]; decide
    · rw [if_neg q, if_pos (by omega)]; decide
  rw [if_neg this]; decide

theorem own_pd3 : parseMethodDescriptor "(C)Ljava/lang/String;" = some ⟨[.char], some (.object "java/lang/String")⟩ := by decide +kernel
theorem own_pd4 : parseMethodDescriptor "(ILjava/lang/String;)V" = some ⟨[.int, (.object "java/lang/String")], none⟩ := by decide +kernel
theorem own_pd5 : parseMethodDescriptor "(Lcom/example/cardinal_tableau/cardinaltableau/model/Role;)V" = some ⟨[(.object "com/example/cardinal_tableau/cardinaltableau/model/Role")], none⟩ := by decide +kernel
theorem own_pd6 : parseMethodDescriptor "()Z" = some ⟨[], some .boolean⟩ := by decide +kernel
def Q_rm0 (Z : State) (p0 : Int32) (p1 : Int32) (p2 : Int32) (p3 : Int32) (cs : Int32) (h0 : Heap) (n0 : Nat) (v : Option Value) (h : Heap) (L : List Loc) : Prop := v = some (.int 1) ∧ Fr n0 L
theorem ef_rm0 (m : MethodId) (x0 : Int32) (x1 : Int32) (x2 : Int32) (x3 : Int32) : entryFrame m #[(.int x0), (.int x1), (.int x2), (.int x3)] maxLocals = mkF m 0 #[.val (.int x0), .val (.int x1), .val (.int x2), .val (.int x3), .unset, .unset, .unset, .unset, .unset, .unset, .unset, .unset, .unset, .unset] [] := by first | (simp [entryFrame, mkF, argsToLocals, Value.category, maxLocals]; done) | rfl
theorem pn_rm0 : plainName "com/example/cardinal_tableau/cardinaltableau/model/RoleIsInversePinLaw" = true := by first | (simp [plainName, overriddenIn]; done) | decide +kernel
set_option maxRecDepth 65536 in
set_option maxHeartbeats 40000000 in
theorem rm0 (l : Launch) (Z : State) (a0 : Array Value) (hw : ∀ d ∈ tables_1, d.before a0 Z = true) (ws : List Jvm.Cond) (p0 : Int32) (p1 : Int32) (p2 : Int32) (p3 : Int32) (cs : Int32) (h0 : Heap) (n0 : Nat) (Z0 : n0 ≤ h0.size) (hp0 : Sta Z h0 "java/lang/String" "COMPACT_STRINGS" "Z" (.int cs)) (hh0 : ¬ cs = (0 : Int32)) :
    MetFree l x (head1 (Jvm.Cond.code x code maxLocals ret :: ws) room_1) (fun a U => a = #[(.int p0), (.int p1), (.int p2), (.int p3)] ∧ Z.Warmed39 U.vm ∧ U.heap = h0) (fun _ _ _ _ _ => True) (fun _ U o U' => ∃ v L, o = .returned v ∧ Q_rm0 Z p0 p1 p2 p3 cs h0 n0 v U'.heap L ∧ FrameEnd U o U' L 24 128) := by
  refine MetFree.of_bodySF (plainFor_of_name pn_rm0) hisR ?_
  intro p e s m args below meth c s₁ Bd hml0 hP hK
  obtain ⟨rfl, hZ, hh⟩ := hP
  have hx := Bd.exec
  have hby := Bd.bytes
  have hml : c.maxLocals = 14 := hml0
  have hown : s.vm.findClass "com/example/cardinal_tableau/cardinaltableau/model/RoleIsInversePinLaw" = some m.cls := findClass_of_methodNamed Bd.named
  have hnm := (name_of_methodNamed Bd.named Bd.method).1
  have hlk : meth.locks = false := BodyLoose.notSynchronized Bd
  have X0 : Stand p l e room_1 s m #[(.int p0), (.int p1), (.int p2), (.int p3)] below meth c s₁ [] 0 0 := Stand.of_body Bd
  have e0 : s₁.heap = h0 := by rw [← hh, Bd.state]; rfl
  have N0 := Fr.nil n0
  show own_W p e below s (Q_rm0 Z p0 p1 p2 p3 cs h0 n0) 24 128 s₁ (entryFrame m #[(.int p0), (.int p1), (.int p2), (.int p3)] maxLocals)
  skip
  skip
  refine own_go (T' := s₁) (g' := (mkF m 0 #[.val (.int p0), .val (.int p1), .val (.int p2), .val (.int p3), .unset, .unset, .unset, .unset, .unset, .unset, .unset, .unset, .unset, .unset] [])) (fun _ k => castTop (ef_rm0 m p0 p1 p2 p3) k) ?_
  refine own_go (T' := s₁) (g' := (mkF m 1 #[.val (.int p0), .val (.int p1), .val (.int p2), .val (.int p3), .unset, .unset, .unset, .unset, .unset, .unset, .unset, .unset, .unset, .unset] [(.int p3)])) (fun _ k => XS.iloadN X0.here hx rfl (hb hby at_0) rfl k) ?_
  refine own_go (T' := s₁) (g' := (mkF m 4 #[.val (.int p0), .val (.int p1), .val (.int p2), .val (.int p3), .unset, .unset, .unset, .unset, .unset, .unset, .unset, .unset, .unset, .unset] [(.int (255 : Int32)), (.int p3)])) (fun _ k => XS.sipush X0.here hx rfl (hb hby at_1) k) ?_
  refine own_go (T' := s₁) (g' := (mkF m 5 #[.val (.int p0), .val (.int p1), .val (.int p2), .val (.int p3), .unset, .unset, .unset, .unset, .unset, .unset, .unset, .unset, .unset, .unset] [(.int (p3 &&& (255 : Int32)))])) (fun _ k => XS.iand X0.here hx rfl (hb hby at_4) rfl k) ?_
  refine own_go (T' := s₁) (g' := (mkF m 6 #[.val (.int p0), .val (.int p1), .val (.int p2), .val (.int p3), .unset, .unset, .unset, .unset, .unset, .unset, .unset, .unset, .unset, .unset] [(.int ((p3 &&& (255 : Int32)).toUInt32.toUInt16.toUInt32.toInt32))])) (fun _ k => XT.i2c X0.here hx rfl (hb hby at_5) rfl k) ?_
  obtain ⟨_, _, ⟨T1, L1, k1, n1⟩, -, X1, ⟨Lc1, hQ1, l1, y1, z1⟩, st1⟩ := Jvm.LawKit.callS X0 hx (y := (⟨"java/lang/String", "valueOf", "(C)Ljava/lang/String;"⟩ : MethodName)) hown (mvT hZ (hw _ (List.mem_of_getElem? (i := 0) rfl))) (mvT hZ (hw _ (List.mem_of_getElem? (i := 1) rfl))) (mvT hZ (hw _ (List.mem_of_getElem? (i := 2) rfl))) (mvT hZ (hw _ (List.mem_of_getElem? (i := 3) rfl))) (by decide) (backOf (W := 0) (rmVal l Z a0 hw [] ((p3 &&& (255 : Int32)).toUInt32.toUInt16.toUInt32.toInt32) cs h0 n0 Z0 hp0 hh0 (own_ch _)) hZ (hw _ (List.mem_of_getElem? (i := 3) rfl)) (hw _ (List.mem_of_getElem? (i := 2) rfl)) (by decide) (by decide)) (g := (mkF m 6 #[.val (.int p0), .val (.int p1), .val (.int p2), .val (.int p3), .unset, .unset, .unset, .unset, .unset, .unset, .unset, .unset, .unset, .unset] [(.int ((p3 &&& (255 : Int32)).toUInt32.toUInt16.toUInt32.toInt32))])) rfl (by rw [hml]; rfl) (argsL := [(.int ((p3 &&& (255 : Int32)).toUInt32.toUInt16.toUInt32.toInt32))]) (rest := []) (lenOf own_pd3 rfl) rfl (by show 2 * 0 + _ ≤ _; exact Nat.le_of_eq rfl) (hb hby at_6) (fun _ _ => ⟨rfl, e0, (by decide : 0 + 2 ≤ _), (by decide : 0 + 5 ≤ _)⟩)
  dsimp only [Pt.U, Pt.locs, Pt.cells, Pt.slots] at X1 l1 y1 z1 st1 hQ1
  subst l1 y1 z1
  obtain ⟨xs_1, xb_1, xk_1, rfl, N1q, K1, po2, po3, po4, po5, po6, po7, po8⟩ := hQ1
  have f9 : Sta Z T1.heap "java/lang/String" "COMPACT_STRINGS" "Z" (.int cs) := (own_sta_keep hp0 K1 ns0)
  have ge10 : n0 ≤ xs_1 := Nat.le_trans Z0 po2
  have ge11 : n0 ≤ xb_1 := Nat.le_trans Z0 po3
  have zs1 : n0 ≤ T1.heap.size := Nat.le_trans Z0 K1.1
  have N1 := Fr.app N0 N1q
  refine own_go (T' := T1) (g' := (mkF m 9 #[.val (.int p0), .val (.int p1), .val (.int p2), .val (.int p3), .unset, .unset, .unset, .unset, .unset, .unset, .unset, .unset, .unset, .unset] [(.ref xs_1)])) (fun _ k => st1 _ k) ?_
  refine own_go (T' := T1) (g' := (mkF m 11 #[.val (.int p0), .val (.int p1), .val (.int p2), .val (.int p3), .val (.ref xs_1), .unset, .unset, .unset, .unset, .unset, .unset, .unset, .unset, .unset] [])) (fun _ k => XS.astore X1.here hx rfl (hb hby at_9) rfl rfl (l' := #[.val (.int p0), .val (.int p1), .val (.int p2), .val (.int p3), .val (.ref xs_1), .unset, .unset, .unset, .unset, .unset, .unset, .unset, .unset, .unset]) rfl k) ?_
  refine own_go (T' := T1) (g' := (mkF m 12 #[.val (.int p0), .val (.int p1), .val (.int p2), .val (.int p3), .val (.ref xs_1), .unset, .unset, .unset, .unset, .unset, .unset, .unset, .unset, .unset] [(.int p1)])) (fun _ k => XS.iloadN X1.here hx rfl (hb hby at_11) rfl k) ?_
  refine own_go (T' := T1) (g' := (mkF m 13 #[.val (.int p0), .val (.int p1), .val (.int p2), .val (.int p3), .val (.ref xs_1), .unset, .unset, .unset, .unset, .unset, .unset, .unset, .unset, .unset] [(.int p0), (.int p1)])) (fun _ k => XS.iloadN X1.here hx rfl (hb hby at_12) rfl k) ?_
  have J23_12 : ∀ (xS0_12 : Int32) (hxS0_12 : xS0_12 = (if p1 = p0 then (p0 + (1 : Int32)) else p1)), own_W p e below s (Q_rm0 Z p0 p1 p2 p3 cs h0 n0) 24 128 T1 (mkF m 23 #[.val (.int p0), .val (.int p1), .val (.int p2), .val (.int p3), .val (.ref xs_1), .unset, .unset, .unset, .unset, .unset, .unset, .unset, .unset, .unset] [(.int xS0_12)]) := by
    intro xS0_12 hxS0_12
    refine own_go (T' := T1) (g' := (mkF m 25 #[.val (.int p0), .val (.int p1), .val (.int p2), .val (.int p3), .val (.ref xs_1), .val (.int xS0_12), .unset, .unset, .unset, .unset, .unset, .unset, .unset, .unset] [])) (fun _ k => XS.istore X1.here hx rfl (hb hby at_23) rfl (l' := #[.val (.int p0), .val (.int p1), .val (.int p2), .val (.int p3), .val (.ref xs_1), .val (.int xS0_12), .unset, .unset, .unset, .unset, .unset, .unset, .unset, .unset]) rfl k) ?_
    obtain ⟨T13, h13, X13, e13, E13, A13, D13, -, st13⟩ := newO X1 hx hZ hown (hw _ (List.mem_of_getElem? (i := 26) rfl)) (hw _ (List.mem_of_getElem? (i := 27) rfl)) (hw _ (List.mem_of_getElem? (i := 28) rfl)) rfl (g := (mkF m 25 #[.val (.int p0), .val (.int p1), .val (.int p2), .val (.int p3), .val (.ref xs_1), .val (.int xS0_12), .unset, .unset, .unset, .unset, .unset, .unset, .unset, .unset] [])) rfl (hb hby at_25) (by decide) (by decide)
    obtain ⟨b13, g13⟩ : ∃ z, z = T1.heap.size := ⟨_, rfl⟩
    have ne14 : xs_1 ≠ b13 := Nat.ne_of_lt (Nat.lt_of_lt_of_le po5.lt (Nat.le_of_eq g13.symm))
    have ne15 : xb_1 ≠ b13 := Nat.ne_of_lt (Nat.lt_of_lt_of_le po8.lt (Nat.le_of_eq g13.symm))
    rw [← g13] at A13 D13 st13
    have f16 : Sta Z h13 "java/lang/String" "COMPACT_STRINGS" "Z" (.int cs) := (f9.ext E13)
    have f17 : Exa Z h13 xs_1 "java/lang/String" := (po5.ext E13)
    have f18 : Fld Z h13 xs_1 "java/lang/String" "value" "[B" (.ref xb_1) := (po6.ext E13)
    have f19 : Fld Z h13 xs_1 "java/lang/String" "coder" "B" (.int (0 : Int32)) := (po7.ext E13)
    have f20 : Arv Z h13 xb_1 xk_1 .byte (1 : Int32) [(.int (nar .byte (((p3 &&& (255 : Int32)).toUInt32.toUInt16.toUInt32.toInt32).toInt8.toInt32)))] (.int (0 : Int32)) := (po8.ext E13)
    have fn21 : Fld Z h13 b13 "com/example/cardinal_tableau/cardinaltableau/model/Role" "id" "I" (.int (0 : Int32)) := D13 (Or.inr (hw _ (List.mem_of_getElem? (i := 34) rfl))) (ty := .int) (by decide)
    have fn22 : Fld Z h13 b13 "com/example/cardinal_tableau/cardinaltableau/model/Role" "iri" "Ljava/lang/String;" .null := D13 (Or.inr (hw _ (List.mem_of_getElem? (i := 36) rfl))) (ty := (.object "java/lang/String")) (by decide)
    have fn23 : Fld Z h13 b13 "com/example/cardinal_tableau/cardinaltableau/model/Role" "inverse" "Lcom/example/cardinal_tableau/cardinaltableau/model/Role;" .null := D13 (Or.inl (hw _ (List.mem_of_getElem? (i := 43) rfl))) (ty := (.object "com/example/cardinal_tableau/cardinaltableau/model/Role")) (by decide)
    have ge13 : n0 ≤ b13 := Nat.le_trans zs1 (Nat.le_of_eq g13.symm)
    have zs13 : n0 ≤ h13.size := Nat.le_trans zs1 E13.1
    refine own_go (T' := T13) (g' := (mkF m 28 #[.val (.int p0), .val (.int p1), .val (.int p2), .val (.int p3), .val (.ref xs_1), .val (.int xS0_12), .unset, .unset, .unset, .unset, .unset, .unset, .unset, .unset] [(.ref b13)])) (fun _ k => st13 _ k) ?_
    refine own_go (T' := T13) (g' := (mkF m 29 #[.val (.int p0), .val (.int p1), .val (.int p2), .val (.int p3), .val (.ref xs_1), .val (.int xS0_12), .unset, .unset, .unset, .unset, .unset, .unset, .unset, .unset] [(.ref b13), (.ref b13)])) (fun _ k => XS.dup X13.here hx rfl (hb hby at_28) rfl rfl k) ?_
    refine own_go (T' := T13) (g' := (mkF m 30 #[.val (.int p0), .val (.int p1), .val (.int p2), .val (.int p3), .val (.ref xs_1), .val (.int xS0_12), .unset, .unset, .unset, .unset, .unset, .unset, .unset, .unset] [(.int p0), (.ref b13), (.ref b13)])) (fun _ k => XS.iloadN X13.here hx rfl (hb hby at_29) rfl k) ?_
    refine own_go (T' := T13) (g' := (mkF m 32 #[.val (.int p0), .val (.int p1), .val (.int p2), .val (.int p3), .val (.ref xs_1), .val (.int xS0_12), .unset, .unset, .unset, .unset, .unset, .unset, .unset, .unset] [(.ref xs_1), (.int p0), (.ref b13), (.ref b13)])) (fun _ k => XS.aload X13.here hx rfl (hb hby at_30) rfl rfl k) ?_
    obtain ⟨_, _, ⟨T24, L24, k24, n24⟩, -, X24, ⟨Lc24, hQ24, l24, y24, z24⟩, st24⟩ := X13.specialBack hx (y := (⟨"com/example/cardinal_tableau/cardinaltableau/model/Role", "<init>", "(ILjava/lang/String;)V"⟩ : MethodName)) rfl hown (mvT hZ (hw _ (List.mem_of_getElem? (i := 29) rfl))) (mvT hZ (hw _ (List.mem_of_getElem? (i := 30) rfl))) (mvT hZ (hw _ (List.mem_of_getElem? (i := 31) rfl))) (by decide) (backOf (W := 1) (rmRole l Z a0 hw [] b13 p0 xs_1 h13 n0 zs13 A13 ge13 fn21 fn22 fn23) hZ (hw _ (List.mem_of_getElem? (i := 31) rfl)) (hw _ (List.mem_of_getElem? (i := 28) rfl)) (by decide) (by decide)) (g := (mkF m 32 #[.val (.int p0), .val (.int p1), .val (.int p2), .val (.int p3), .val (.ref xs_1), .val (.int xS0_12), .unset, .unset, .unset, .unset, .unset, .unset, .unset, .unset] [(.ref xs_1), (.int p0), (.ref b13), (.ref b13)])) rfl (by rw [hml]; rfl) (Steps.refl _) (a := b13) (argsL := [(.int p0), (.ref xs_1)]) (rest := [(.ref b13)]) (lenOf own_pd4 rfl) rfl (by show 2 * 0 + _ ≤ _; exact Nat.le_of_eq rfl) (hb hby at_32) (fun _ _ => ⟨rfl, e13, (by decide : 3 + 0 ≤ _), (by decide : 8 + 0 ≤ _)⟩)
    dsimp only [Pt.U, Pt.locs, Pt.cells, Pt.slots] at X24 l24 y24 z24 st24 hQ24
    subst l24 y24 z24
    obtain ⟨rfl, N24q, K24, po25, po26, po27, po28⟩ := hQ24
    have f29 : Sta Z T24.heap "java/lang/String" "COMPACT_STRINGS" "Z" (.int cs) := (own_sta_keep f16 K24 (nsS A13.nostat ns0))
    have f30 : Exa Z T24.heap xs_1 "java/lang/String" := (f17.keep K24)
    have f31 : Fld Z T24.heap xs_1 "java/lang/String" "value" "[B" (.ref xb_1) := (f18.keep K24 (ninS ne14 nin0))
    have f32 : Fld Z T24.heap xs_1 "java/lang/String" "coder" "B" (.int (0 : Int32)) := (f19.keep K24 (ninS ne14 nin0))
    have f33 : Arv Z T24.heap xb_1 xk_1 .byte (1 : Int32) [(.int (nar .byte (((p3 &&& (255 : Int32)).toUInt32.toUInt16.toUInt32.toInt32).toInt8.toInt32)))] (.int (0 : Int32)) := (f20.keep K24 (ninS ne15 nin0))
    have f34 : Exa Z T24.heap b13 "com/example/cardinal_tableau/cardinaltableau/model/Role" := (A13.keep K24)
    have zs24 : n0 ≤ T24.heap.size := Nat.le_trans zs13 K24.1
    have N24 := Fr.app N1 N24q
    refine own_go (T' := T24) (g' := (mkF m 35 #[.val (.int p0), .val (.int p1), .val (.int p2), .val (.int p3), .val (.ref xs_1), .val (.int xS0_12), .unset, .unset, .unset, .unset, .unset, .unset, .unset, .unset] [(.ref b13)])) (fun _ k => st24.trans k) ?_
    refine own_go (T' := T24) (g' := (mkF m 37 #[.val (.int p0), .val (.int p1), .val (.int p2), .val (.int p3), .val (.ref xs_1), .val (.int xS0_12), .val (.ref b13), .unset, .unset, .unset, .unset, .unset, .unset, .unset] [])) (fun _ k => XS.astore X24.here hx rfl (hb hby at_35) rfl rfl (l' := #[.val (.int p0), .val (.int p1), .val (.int p2), .val (.int p3), .val (.ref xs_1), .val (.int xS0_12), .val (.ref b13), .unset, .unset, .unset, .unset, .unset, .unset, .unset]) rfl k) ?_
    obtain ⟨T35, h35, X35, e35, E35, A35, D35, -, st35⟩ := newO X24 hx hZ hown (hw _ (List.mem_of_getElem? (i := 26) rfl)) (hw _ (List.mem_of_getElem? (i := 27) rfl)) (hw _ (List.mem_of_getElem? (i := 28) rfl)) rfl (g := (mkF m 37 #[.val (.int p0), .val (.int p1), .val (.int p2), .val (.int p3), .val (.ref xs_1), .val (.int xS0_12), .val (.ref b13), .unset, .unset, .unset, .unset, .unset, .unset, .unset] [])) rfl (hb hby at_37) (by decide) (by decide)
    obtain ⟨b35, g35⟩ : ∃ z, z = T24.heap.size := ⟨_, rfl⟩
    have ne36 : xs_1 ≠ b35 := Nat.ne_of_lt (Nat.lt_of_lt_of_le f30.lt (Nat.le_of_eq g35.symm))
    have ne37 : xb_1 ≠ b35 := Nat.ne_of_lt (Nat.lt_of_lt_of_le f33.lt (Nat.le_of_eq g35.symm))
    have ne38 : b13 ≠ b35 := Nat.ne_of_lt (Nat.lt_of_lt_of_le po28.lt (Nat.le_of_eq g35.symm))
    rw [← g35] at A35 D35 st35
    have f39 : Sta Z h35 "java/lang/String" "COMPACT_STRINGS" "Z" (.int cs) := (f29.ext E35)
    have f40 : Exa Z h35 xs_1 "java/lang/String" := (f30.ext E35)
    have f41 : Fld Z h35 xs_1 "java/lang/String" "value" "[B" (.ref xb_1) := (f31.ext E35)
    have f42 : Fld Z h35 xs_1 "java/lang/String" "coder" "B" (.int (0 : Int32)) := (f32.ext E35)
    have f43 : Arv Z h35 xb_1 xk_1 .byte (1 : Int32) [(.int (nar .byte (((p3 &&& (255 : Int32)).toUInt32.toUInt16.toUInt32.toInt32).toInt8.toInt32)))] (.int (0 : Int32)) := (f33.ext E35)
    have f44 : Exa Z h35 b13 "com/example/cardinal_tableau/cardinaltableau/model/Role" := (po28.ext E35)
    have f45 : Fld Z h35 b13 "com/example/cardinal_tableau/cardinaltableau/model/Role" "inverse" "Lcom/example/cardinal_tableau/cardinaltableau/model/Role;" .null := (po25.ext E35)
    have f46 : Fld Z h35 b13 "com/example/cardinal_tableau/cardinaltableau/model/Role" "id" "I" (.int p0) := (po26.ext E35)
    have f47 : Fld Z h35 b13 "com/example/cardinal_tableau/cardinaltableau/model/Role" "iri" "Ljava/lang/String;" (.ref xs_1) := (po27.ext E35)
    have fn48 : Fld Z h35 b35 "com/example/cardinal_tableau/cardinaltableau/model/Role" "id" "I" (.int (0 : Int32)) := D35 (Or.inr (hw _ (List.mem_of_getElem? (i := 34) rfl))) (ty := .int) (by decide)
    have fn49 : Fld Z h35 b35 "com/example/cardinal_tableau/cardinaltableau/model/Role" "iri" "Ljava/lang/String;" .null := D35 (Or.inr (hw _ (List.mem_of_getElem? (i := 36) rfl))) (ty := (.object "java/lang/String")) (by decide)
    have fn50 : Fld Z h35 b35 "com/example/cardinal_tableau/cardinaltableau/model/Role" "inverse" "Lcom/example/cardinal_tableau/cardinaltableau/model/Role;" .null := D35 (Or.inl (hw _ (List.mem_of_getElem? (i := 43) rfl))) (ty := (.object "com/example/cardinal_tableau/cardinaltableau/model/Role")) (by decide)
    have ge35 : n0 ≤ b35 := Nat.le_trans zs24 (Nat.le_of_eq g35.symm)
    have zs35 : n0 ≤ h35.size := Nat.le_trans zs24 E35.1
    refine own_go (T' := T35) (g' := (mkF m 40 #[.val (.int p0), .val (.int p1), .val (.int p2), .val (.int p3), .val (.ref xs_1), .val (.int xS0_12), .val (.ref b13), .unset, .unset, .unset, .unset, .unset, .unset, .unset] [(.ref b35)])) (fun _ k => st35 _ k) ?_
    refine own_go (T' := T35) (g' := (mkF m 41 #[.val (.int p0), .val (.int p1), .val (.int p2), .val (.int p3), .val (.ref xs_1), .val (.int xS0_12), .val (.ref b13), .unset, .unset, .unset, .unset, .unset, .unset, .unset] [(.ref b35), (.ref b35)])) (fun _ k => XS.dup X35.here hx rfl (hb hby at_40) rfl rfl k) ?_
    refine own_go (T' := T35) (g' := (mkF m 43 #[.val (.int p0), .val (.int p1), .val (.int p2), .val (.int p3), .val (.ref xs_1), .val (.int xS0_12), .val (.ref b13), .unset, .unset, .unset, .unset, .unset, .unset, .unset] [(.int xS0_12), (.ref b35), (.ref b35)])) (fun _ k => XS.iload X35.here hx rfl (hb hby at_41) rfl k) ?_
    refine own_go (T' := T35) (g' := (mkF m 45 #[.val (.int p0), .val (.int p1), .val (.int p2), .val (.int p3), .val (.ref xs_1), .val (.int xS0_12), .val (.ref b13), .unset, .unset, .unset, .unset, .unset, .unset, .unset] [(.ref xs_1), (.int xS0_12), (.ref b35), (.ref b35)])) (fun _ k => XS.aload X35.here hx rfl (hb hby at_43) rfl rfl k) ?_
    obtain ⟨_, _, ⟨T51, L51, k51, n51⟩, -, X51, ⟨Lc51, hQ51, l51, y51, z51⟩, st51⟩ := X35.specialBack hx (y := (⟨"com/example/cardinal_tableau/cardinaltableau/model/Role", "<init>", "(ILjava/lang/String;)V"⟩ : MethodName)) rfl hown (mvT hZ (hw _ (List.mem_of_getElem? (i := 29) rfl))) (mvT hZ (hw _ (List.mem_of_getElem? (i := 30) rfl))) (mvT hZ (hw _ (List.mem_of_getElem? (i := 31) rfl))) (by decide) (backOf (W := 1) (rmRole l Z a0 hw [] b35 xS0_12 xs_1 h35 n0 zs35 A35 ge35 fn48 fn49 fn50) hZ (hw _ (List.mem_of_getElem? (i := 31) rfl)) (hw _ (List.mem_of_getElem? (i := 28) rfl)) (by decide) (by decide)) (g := (mkF m 45 #[.val (.int p0), .val (.int p1), .val (.int p2), .val (.int p3), .val (.ref xs_1), .val (.int xS0_12), .val (.ref b13), .unset, .unset, .unset, .unset, .unset, .unset, .unset] [(.ref xs_1), (.int xS0_12), (.ref b35), (.ref b35)])) rfl (by rw [hml]; rfl) (Steps.refl _) (a := b35) (argsL := [(.int xS0_12), (.ref xs_1)]) (rest := [(.ref b35)]) (lenOf own_pd4 rfl) rfl (by show 2 * 0 + _ ≤ _; exact Nat.le_of_eq rfl) (hb hby at_45) (fun _ _ => ⟨rfl, e35, (by decide : 4 + 0 ≤ _), (by decide : 11 + 0 ≤ _)⟩)
    dsimp only [Pt.U, Pt.locs, Pt.cells, Pt.slots] at X51 l51 y51 z51 st51 hQ51
    subst l51 y51 z51
    obtain ⟨rfl, N51q, K51, po52, po53, po54, po55⟩ := hQ51
    have f56 : Sta Z T51.heap "java/lang/String" "COMPACT_STRINGS" "Z" (.int cs) := (own_sta_keep f39 K51 (nsS A35.nostat ns0))
    have f57 : Exa Z T51.heap xs_1 "java/lang/String" := (f40.keep K51)
    have f58 : Fld Z T51.heap xs_1 "java/lang/String" "value" "[B" (.ref xb_1) := (f41.keep K51 (ninS ne36 nin0))
    have f59 : Fld Z T51.heap xs_1 "java/lang/String" "coder" "B" (.int (0 : Int32)) := (f42.keep K51 (ninS ne36 nin0))
    have f60 : Arv Z T51.heap xb_1 xk_1 .byte (1 : Int32) [(.int (nar .byte (((p3 &&& (255 : Int32)).toUInt32.toUInt16.toUInt32.toInt32).toInt8.toInt32)))] (.int (0 : Int32)) := (f43.keep K51 (ninS ne37 nin0))
    have f61 : Exa Z T51.heap b13 "com/example/cardinal_tableau/cardinaltableau/model/Role" := (f44.keep K51)
    have f62 : Fld Z T51.heap b13 "com/example/cardinal_tableau/cardinaltableau/model/Role" "inverse" "Lcom/example/cardinal_tableau/cardinaltableau/model/Role;" .null := (f45.keep K51 (ninS ne38 nin0))
    have f63 : Fld Z T51.heap b13 "com/example/cardinal_tableau/cardinaltableau/model/Role" "id" "I" (.int p0) := (f46.keep K51 (ninS ne38 nin0))
    have f64 : Fld Z T51.heap b13 "com/example/cardinal_tableau/cardinaltableau/model/Role" "iri" "Ljava/lang/String;" (.ref xs_1) := (f47.keep K51 (ninS ne38 nin0))
    have f65 : Exa Z T51.heap b35 "com/example/cardinal_tableau/cardinaltableau/model/Role" := (A35.keep K51)
    have zs51 : n0 ≤ T51.heap.size := Nat.le_trans zs35 K51.1
    have N51 := Fr.app N24 N51q
    refine own_go (T' := T51) (g' := (mkF m 48 #[.val (.int p0), .val (.int p1), .val (.int p2), .val (.int p3), .val (.ref xs_1), .val (.int xS0_12), .val (.ref b13), .unset, .unset, .unset, .unset, .unset, .unset, .unset] [(.ref b35)])) (fun _ k => st51.trans k) ?_
    refine own_go (T' := T51) (g' := (mkF m 50 #[.val (.int p0), .val (.int p1), .val (.int p2), .val (.int p3), .val (.ref xs_1), .val (.int xS0_12), .val (.ref b13), .val (.ref b35), .unset, .unset, .unset, .unset, .unset, .unset] [])) (fun _ k => XS.astore X51.here hx rfl (hb hby at_48) rfl rfl (l' := #[.val (.int p0), .val (.int p1), .val (.int p2), .val (.int p3), .val (.ref xs_1), .val (.int xS0_12), .val (.ref b13), .val (.ref b35), .unset, .unset, .unset, .unset, .unset, .unset]) rfl k) ?_
    refine own_go (T' := T51) (g' := (mkF m 52 #[.val (.int p0), .val (.int p1), .val (.int p2), .val (.int p3), .val (.ref xs_1), .val (.int xS0_12), .val (.ref b13), .val (.ref b35), .unset, .unset, .unset, .unset, .unset, .unset] [(.ref b13)])) (fun _ k => XS.aload X51.here hx rfl (hb hby at_50) rfl rfl k) ?_
    refine own_go (T' := T51) (g' := (mkF m 54 #[.val (.int p0), .val (.int p1), .val (.int p2), .val (.int p3), .val (.ref xs_1), .val (.int xS0_12), .val (.ref b13), .val (.ref b35), .unset, .unset, .unset, .unset, .unset, .unset] [(.ref b35), (.ref b13)])) (fun _ k => XS.aload X51.here hx rfl (hb hby at_52) rfl rfl k) ?_
    obtain ⟨cq66, kq66, q66a, q66b, q66c⟩ := isOf hZ rfl f61
    obtain ⟨_, _, ⟨T66, L66, k66, n66⟩, -, X66, ⟨Lc66, hQ66, l66, y66, z66⟩, st66⟩ := X51.virtualBack hx (y := (⟨"com/example/cardinal_tableau/cardinaltableau/model/Role", "setInverse", "(Lcom/example/cardinal_tableau/cardinaltableau/model/Role;)V"⟩ : MethodName)) (z := (⟨"com/example/cardinal_tableau/cardinaltableau/model/Role", "setInverse", "(Lcom/example/cardinal_tableau/cardinaltableau/model/Role;)V"⟩ : MethodName)) hown (mvT hZ (hw _ (List.mem_of_getElem? (i := 37) rfl))) (mvT hZ (hw _ (List.mem_of_getElem? (i := 38) rfl))) (notFace_of_selects (args := #[]) (mvT hZ (hw _ (List.mem_of_getElem? (i := 40) rfl)))) (mvT hZ (hw _ (List.mem_of_getElem? (i := 40) rfl))) (mvT hZ (hw _ (List.mem_of_getElem? (i := 39) rfl))) (by decide) (backOf (W := 0) (rmSet l Z a0 hw [] b13 b35 .null p0 T51.heap n0 zs51 f61 ge13 f62 f63) hZ (hw _ (List.mem_of_getElem? (i := 41) rfl)) (hw _ (List.mem_of_getElem? (i := 28) rfl)) (by decide) (by decide)) q66a q66c (g := (mkF m 54 #[.val (.int p0), .val (.int p1), .val (.int p2), .val (.int p3), .val (.ref xs_1), .val (.int xS0_12), .val (.ref b13), .val (.ref b35), .unset, .unset, .unset, .unset, .unset, .unset] [(.ref b35), (.ref b13)])) rfl (by rw [hml]; rfl) (Steps.refl _) (argsL := [(.ref b35)]) (rest := []) (lenOf own_pd5 rfl) rfl (by show 2 * 0 + _ ≤ _; exact Nat.le_of_eq rfl) (hb hby at_54) (fun _ _ => ⟨rfl, rfl, (by decide : 4 + 0 ≤ _), (by decide : 11 + 0 ≤ _)⟩)
    dsimp only [Pt.U, Pt.locs, Pt.cells, Pt.slots] at X66 l66 y66 z66 st66 hQ66
    subst l66 y66 z66
    obtain ⟨rfl, N66q, K66, po67, po68⟩ := hQ66
    have f69 : Sta Z T66.heap "java/lang/String" "COMPACT_STRINGS" "Z" (.int cs) := (own_sta_keep f56 K66 (nsS f61.nostat ns0))
    have f70 : Exa Z T66.heap xs_1 "java/lang/String" := (f57.keep K66)
    have f71 : Fld Z T66.heap xs_1 "java/lang/String" "value" "[B" (.ref xb_1) := (f58.keep K66 (ninS ne14 nin0))
    have f72 : Fld Z T66.heap xs_1 "java/lang/String" "coder" "B" (.int (0 : Int32)) := (f59.keep K66 (ninS ne14 nin0))
    have f73 : Arv Z T66.heap xb_1 xk_1 .byte (1 : Int32) [(.int (nar .byte (((p3 &&& (255 : Int32)).toUInt32.toUInt16.toUInt32.toInt32).toInt8.toInt32)))] (.int (0 : Int32)) := (f60.keep K66 (ninS ne15 nin0))
    have f74 : Exa Z T66.heap b13 "com/example/cardinal_tableau/cardinaltableau/model/Role" := (f61.keep K66)
    have f75 : Exa Z T66.heap b35 "com/example/cardinal_tableau/cardinaltableau/model/Role" := (po55.keep K66)
    have f76 : Fld Z T66.heap b35 "com/example/cardinal_tableau/cardinaltableau/model/Role" "inverse" "Lcom/example/cardinal_tableau/cardinaltableau/model/Role;" .null := (po52.keep K66 (ninS (Ne.symm ne38) nin0))
    have f77 : Fld Z T66.heap b35 "com/example/cardinal_tableau/cardinaltableau/model/Role" "id" "I" (.int xS0_12) := (po53.keep K66 (ninS (Ne.symm ne38) nin0))
    have f78 : Fld Z T66.heap b35 "com/example/cardinal_tableau/cardinaltableau/model/Role" "iri" "Ljava/lang/String;" (.ref xs_1) := (po54.keep K66 (ninS (Ne.symm ne38) nin0))
    have zs66 : n0 ≤ T66.heap.size := Nat.le_trans zs51 K66.1
    have N66 := Fr.app N51 N66q
    refine own_go (T' := T66) (g' := (mkF m 57 #[.val (.int p0), .val (.int p1), .val (.int p2), .val (.int p3), .val (.ref xs_1), .val (.int xS0_12), .val (.ref b13), .val (.ref b35), .unset, .unset, .unset, .unset, .unset, .unset] [])) (fun _ k => st66.trans k) ?_
    refine own_go (T' := T66) (g' := (mkF m 59 #[.val (.int p0), .val (.int p1), .val (.int p2), .val (.int p3), .val (.ref xs_1), .val (.int xS0_12), .val (.ref b13), .val (.ref b35), .unset, .unset, .unset, .unset, .unset, .unset] [(.ref b35)])) (fun _ k => XS.aload X66.here hx rfl (hb hby at_57) rfl rfl k) ?_
    refine own_go (T' := T66) (g' := (mkF m 61 #[.val (.int p0), .val (.int p1), .val (.int p2), .val (.int p3), .val (.ref xs_1), .val (.int xS0_12), .val (.ref b13), .val (.ref b35), .unset, .unset, .unset, .unset, .unset, .unset] [(.ref b13), (.ref b35)])) (fun _ k => XS.aload X66.here hx rfl (hb hby at_59) rfl rfl k) ?_
    obtain ⟨cq79, kq79, q79a, q79b, q79c⟩ := isOf hZ rfl f75
    obtain ⟨_, _, ⟨T79, L79, k79, n79⟩, -, X79, ⟨Lc79, hQ79, l79, y79, z79⟩, st79⟩ := X66.virtualBack hx (y := (⟨"com/example/cardinal_tableau/cardinaltableau/model/Role", "setInverse", "(Lcom/example/cardinal_tableau/cardinaltableau/model/Role;)V"⟩ : MethodName)) (z := (⟨"com/example/cardinal_tableau/cardinaltableau/model/Role", "setInverse", "(Lcom/example/cardinal_tableau/cardinaltableau/model/Role;)V"⟩ : MethodName)) hown (mvT hZ (hw _ (List.mem_of_getElem? (i := 37) rfl))) (mvT hZ (hw _ (List.mem_of_getElem? (i := 38) rfl))) (notFace_of_selects (args := #[]) (mvT hZ (hw _ (List.mem_of_getElem? (i := 40) rfl)))) (mvT hZ (hw _ (List.mem_of_getElem? (i := 40) rfl))) (mvT hZ (hw _ (List.mem_of_getElem? (i := 39) rfl))) (by decide) (backOf (W := 0) (rmSet l Z a0 hw [] b35 b13 .null xS0_12 T66.heap n0 zs66 f75 ge35 f76 f77) hZ (hw _ (List.mem_of_getElem? (i := 41) rfl)) (hw _ (List.mem_of_getElem? (i := 28) rfl)) (by decide) (by decide)) q79a q79c (g := (mkF m 61 #[.val (.int p0), .val (.int p1), .val (.int p2), .val (.int p3), .val (.ref xs_1), .val (.int xS0_12), .val (.ref b13), .val (.ref b35), .unset, .unset, .unset, .unset, .unset, .unset] [(.ref b13), (.ref b35)])) rfl (by rw [hml]; rfl) (Steps.refl _) (argsL := [(.ref b13)]) (rest := []) (lenOf own_pd5 rfl) rfl (by show 2 * 0 + _ ≤ _; exact Nat.le_of_eq rfl) (hb hby at_61) (fun _ _ => ⟨rfl, rfl, (by decide : 4 + 0 ≤ _), (by decide : 11 + 0 ≤ _)⟩)
    dsimp only [Pt.U, Pt.locs, Pt.cells, Pt.slots] at X79 l79 y79 z79 st79 hQ79
    subst l79 y79 z79
    obtain ⟨rfl, N79q, K79, po80, po81⟩ := hQ79
    have f82 : Sta Z T79.heap "java/lang/String" "COMPACT_STRINGS" "Z" (.int cs) := (own_sta_keep f69 K79 (nsS f75.nostat ns0))
    have f83 : Exa Z T79.heap xs_1 "java/lang/String" := (f70.keep K79)
    have f84 : Fld Z T79.heap xs_1 "java/lang/String" "value" "[B" (.ref xb_1) := (f71.keep K79 (ninS ne36 nin0))
    have f85 : Fld Z T79.heap xs_1 "java/lang/String" "coder" "B" (.int (0 : Int32)) := (f72.keep K79 (ninS ne36 nin0))
    have f86 : Arv Z T79.heap xb_1 xk_1 .byte (1 : Int32) [(.int (nar .byte (((p3 &&& (255 : Int32)).toUInt32.toUInt16.toUInt32.toInt32).toInt8.toInt32)))] (.int (0 : Int32)) := (f73.keep K79 (ninS ne37 nin0))
    have f87 : Exa Z T79.heap b13 "com/example/cardinal_tableau/cardinaltableau/model/Role" := (f74.keep K79)
    have f88 : Exa Z T79.heap b35 "com/example/cardinal_tableau/cardinaltableau/model/Role" := (f75.keep K79)
    have f89 : Fld Z T79.heap b13 "com/example/cardinal_tableau/cardinaltableau/model/Role" "inverse" "Lcom/example/cardinal_tableau/cardinaltableau/model/Role;" (.ref b35) := (po67.keep K79 (ninS ne38 nin0))
    have f90 : Fld Z T79.heap b13 "com/example/cardinal_tableau/cardinaltableau/model/Role" "id" "I" (.int p0) := (po68.keep K79 (ninS ne38 nin0))
    have zs79 : n0 ≤ T79.heap.size := Nat.le_trans zs66 K79.1
    have N79 := Fr.app N66 N79q
    refine own_go (T' := T79) (g' := (mkF m 64 #[.val (.int p0), .val (.int p1), .val (.int p2), .val (.int p3), .val (.ref xs_1), .val (.int xS0_12), .val (.ref b13), .val (.ref b35), .unset, .unset, .unset, .unset, .unset, .unset] [])) (fun _ k => st79.trans k) ?_
    obtain ⟨T91, h91, X91, e91, E91, A91, D91, -, st91⟩ := newO X79 hx hZ hown (hw _ (List.mem_of_getElem? (i := 26) rfl)) (hw _ (List.mem_of_getElem? (i := 27) rfl)) (hw _ (List.mem_of_getElem? (i := 28) rfl)) rfl (g := (mkF m 64 #[.val (.int p0), .val (.int p1), .val (.int p2), .val (.int p3), .val (.ref xs_1), .val (.int xS0_12), .val (.ref b13), .val (.ref b35), .unset, .unset, .unset, .unset, .unset, .unset] [])) rfl (hb hby at_64) (by decide) (by decide)
    obtain ⟨b91, g91⟩ : ∃ z, z = T79.heap.size := ⟨_, rfl⟩
    have ne92 : xs_1 ≠ b91 := Nat.ne_of_lt (Nat.lt_of_lt_of_le f83.lt (Nat.le_of_eq g91.symm))
    have ne93 : xb_1 ≠ b91 := Nat.ne_of_lt (Nat.lt_of_lt_of_le f86.lt (Nat.le_of_eq g91.symm))
    have ne94 : b13 ≠ b91 := Nat.ne_of_lt (Nat.lt_of_lt_of_le f87.lt (Nat.le_of_eq g91.symm))
    have ne95 : b35 ≠ b91 := Nat.ne_of_lt (Nat.lt_of_lt_of_le f88.lt (Nat.le_of_eq g91.symm))
    rw [← g91] at A91 D91 st91
    have f96 : Sta Z h91 "java/lang/String" "COMPACT_STRINGS" "Z" (.int cs) := (f82.ext E91)
    have f97 : Exa Z h91 xs_1 "java/lang/String" := (f83.ext E91)
    have f98 : Fld Z h91 xs_1 "java/lang/String" "value" "[B" (.ref xb_1) := (f84.ext E91)
    have f99 : Fld Z h91 xs_1 "java/lang/String" "coder" "B" (.int (0 : Int32)) := (f85.ext E91)
    have f100 : Arv Z h91 xb_1 xk_1 .byte (1 : Int32) [(.int (nar .byte (((p3 &&& (255 : Int32)).toUInt32.toUInt16.toUInt32.toInt32).toInt8.toInt32)))] (.int (0 : Int32)) := (f86.ext E91)
    have f101 : Exa Z h91 b13 "com/example/cardinal_tableau/cardinaltableau/model/Role" := (f87.ext E91)
    have f102 : Exa Z h91 b35 "com/example/cardinal_tableau/cardinaltableau/model/Role" := (f88.ext E91)
    have f103 : Fld Z h91 b13 "com/example/cardinal_tableau/cardinaltableau/model/Role" "inverse" "Lcom/example/cardinal_tableau/cardinaltableau/model/Role;" (.ref b35) := (f89.ext E91)
    have f104 : Fld Z h91 b13 "com/example/cardinal_tableau/cardinaltableau/model/Role" "id" "I" (.int p0) := (f90.ext E91)
    have f105 : Fld Z h91 b35 "com/example/cardinal_tableau/cardinaltableau/model/Role" "inverse" "Lcom/example/cardinal_tableau/cardinaltableau/model/Role;" (.ref b13) := (po80.ext E91)
    have f106 : Fld Z h91 b35 "com/example/cardinal_tableau/cardinaltableau/model/Role" "id" "I" (.int xS0_12) := (po81.ext E91)
    have fn107 : Fld Z h91 b91 "com/example/cardinal_tableau/cardinaltableau/model/Role" "id" "I" (.int (0 : Int32)) := D91 (Or.inr (hw _ (List.mem_of_getElem? (i := 34) rfl))) (ty := .int) (by decide)
    have fn108 : Fld Z h91 b91 "com/example/cardinal_tableau/cardinaltableau/model/Role" "iri" "Ljava/lang/String;" .null := D91 (Or.inr (hw _ (List.mem_of_getElem? (i := 36) rfl))) (ty := (.object "java/lang/String")) (by decide)
    have fn109 : Fld Z h91 b91 "com/example/cardinal_tableau/cardinaltableau/model/Role" "inverse" "Lcom/example/cardinal_tableau/cardinaltableau/model/Role;" .null := D91 (Or.inl (hw _ (List.mem_of_getElem? (i := 43) rfl))) (ty := (.object "com/example/cardinal_tableau/cardinaltableau/model/Role")) (by decide)
    have ge91 : n0 ≤ b91 := Nat.le_trans zs79 (Nat.le_of_eq g91.symm)
    have zs91 : n0 ≤ h91.size := Nat.le_trans zs79 E91.1
    refine own_go (T' := T91) (g' := (mkF m 67 #[.val (.int p0), .val (.int p1), .val (.int p2), .val (.int p3), .val (.ref xs_1), .val (.int xS0_12), .val (.ref b13), .val (.ref b35), .unset, .unset, .unset, .unset, .unset, .unset] [(.ref b91)])) (fun _ k => st91 _ k) ?_
    refine own_go (T' := T91) (g' := (mkF m 68 #[.val (.int p0), .val (.int p1), .val (.int p2), .val (.int p3), .val (.ref xs_1), .val (.int xS0_12), .val (.ref b13), .val (.ref b35), .unset, .unset, .unset, .unset, .unset, .unset] [(.ref b91), (.ref b91)])) (fun _ k => XS.dup X91.here hx rfl (hb hby at_67) rfl rfl k) ?_
    refine own_go (T' := T91) (g' := (mkF m 69 #[.val (.int p0), .val (.int p1), .val (.int p2), .val (.int p3), .val (.ref xs_1), .val (.int xS0_12), .val (.ref b13), .val (.ref b35), .unset, .unset, .unset, .unset, .unset, .unset] [(.int p2), (.ref b91), (.ref b91)])) (fun _ k => XS.iloadN X91.here hx rfl (hb hby at_68) rfl k) ?_
    refine own_go (T' := T91) (g' := (mkF m 70 #[.val (.int p0), .val (.int p1), .val (.int p2), .val (.int p3), .val (.ref xs_1), .val (.int xS0_12), .val (.ref b13), .val (.ref b35), .unset, .unset, .unset, .unset, .unset, .unset] [(.int p3), (.int p2), (.ref b91), (.ref b91)])) (fun _ k => XS.iloadN X91.here hx rfl (hb hby at_69) rfl k) ?_
    refine own_go (T' := T91) (g' := (mkF m 72 #[.val (.int p0), .val (.int p1), .val (.int p2), .val (.int p3), .val (.ref xs_1), .val (.int xS0_12), .val (.ref b13), .val (.ref b35), .unset, .unset, .unset, .unset, .unset, .unset] [(.int (8 : Int32)), (.int p3), (.int p2), (.ref b91), (.ref b91)])) (fun _ k => XS.bipush X91.here hx rfl (hb hby at_70) k) ?_
    refine own_go (T' := T91) (g' := (mkF m 73 #[.val (.int p0), .val (.int p1), .val (.int p2), .val (.int p3), .val (.ref xs_1), .val (.int xS0_12), .val (.ref b13), .val (.ref b35), .unset, .unset, .unset, .unset, .unset, .unset] [(.int ((p3.toUInt32 >>> ((8 : Int32) &&& 31).toUInt32).toInt32)), (.int p2), (.ref b91), (.ref b91)])) (fun _ k => XS.iushr X91.here hx rfl (hb hby at_72) rfl k) ?_
    refine own_go (T' := T91) (g' := (mkF m 76 #[.val (.int p0), .val (.int p1), .val (.int p2), .val (.int p3), .val (.ref xs_1), .val (.int xS0_12), .val (.ref b13), .val (.ref b35), .unset, .unset, .unset, .unset, .unset, .unset] [(.int (255 : Int32)), (.int ((p3.toUInt32 >>> ((8 : Int32) &&& 31).toUInt32).toInt32)), (.int p2), (.ref b91), (.ref b91)])) (fun _ k => XS.sipush X91.here hx rfl (hb hby at_73) k) ?_
    refine own_go (T' := T91) (g' := (mkF m 77 #[.val (.int p0), .val (.int p1), .val (.int p2), .val (.int p3), .val (.ref xs_1), .val (.int xS0_12), .val (.ref b13), .val (.ref b35), .unset, .unset, .unset, .unset, .unset, .unset] [(.int (((p3.toUInt32 >>> ((8 : Int32) &&& 31).toUInt32).toInt32) &&& (255 : Int32))), (.int p2), (.ref b91), (.ref b91)])) (fun _ k => XS.iand X91.here hx rfl (hb hby at_76) rfl k) ?_
    refine own_go (T' := T91) (g' := (mkF m 78 #[.val (.int p0), .val (.int p1), .val (.int p2), .val (.int p3), .val (.ref xs_1), .val (.int xS0_12), .val (.ref b13), .val (.ref b35), .unset, .unset, .unset, .unset, .unset, .unset] [(.int ((((p3.toUInt32 >>> ((8 : Int32) &&& 31).toUInt32).toInt32) &&& (255 : Int32)).toUInt32.toUInt16.toUInt32.toInt32)), (.int p2), (.ref b91), (.ref b91)])) (fun _ k => XT.i2c X91.here hx rfl (hb hby at_77) rfl k) ?_
    obtain ⟨_, _, ⟨T110, L110, k110, n110⟩, -, X110, ⟨Lc110, hQ110, l110, y110, z110⟩, st110⟩ := Jvm.LawKit.callS X91 hx (y := (⟨"java/lang/String", "valueOf", "(C)Ljava/lang/String;"⟩ : MethodName)) hown (mvT hZ (hw _ (List.mem_of_getElem? (i := 0) rfl))) (mvT hZ (hw _ (List.mem_of_getElem? (i := 1) rfl))) (mvT hZ (hw _ (List.mem_of_getElem? (i := 2) rfl))) (mvT hZ (hw _ (List.mem_of_getElem? (i := 3) rfl))) (by decide) (backOf (W := 3) (rmVal l Z a0 hw [] ((((p3.toUInt32 >>> ((8 : Int32) &&& 31).toUInt32).toInt32) &&& (255 : Int32)).toUInt32.toUInt16.toUInt32.toInt32) cs h91 n0 zs91 f96 hh0 (own_ch _)) hZ (hw _ (List.mem_of_getElem? (i := 3) rfl)) (hw _ (List.mem_of_getElem? (i := 2) rfl)) (by decide) (by decide)) (g := (mkF m 78 #[.val (.int p0), .val (.int p1), .val (.int p2), .val (.int p3), .val (.ref xs_1), .val (.int xS0_12), .val (.ref b13), .val (.ref b35), .unset, .unset, .unset, .unset, .unset, .unset] [(.int ((((p3.toUInt32 >>> ((8 : Int32) &&& 31).toUInt32).toInt32) &&& (255 : Int32)).toUInt32.toUInt16.toUInt32.toInt32)), (.int p2), (.ref b91), (.ref b91)])) rfl (by rw [hml]; rfl) (argsL := [(.int ((((p3.toUInt32 >>> ((8 : Int32) &&& 31).toUInt32).toInt32) &&& (255 : Int32)).toUInt32.toUInt16.toUInt32.toInt32))]) (rest := [(.int p2), (.ref b91), (.ref b91)]) (lenOf own_pd3 rfl) rfl (by show 2 * 0 + _ ≤ _; exact Nat.le_of_eq rfl) (hb hby at_78) (fun _ _ => ⟨rfl, e91, (by decide : 5 + 2 ≤ _), (by decide : 14 + 5 ≤ _)⟩)
    dsimp only [Pt.U, Pt.locs, Pt.cells, Pt.slots] at X110 l110 y110 z110 st110 hQ110
    subst l110 y110 z110
    obtain ⟨xs_110, xb_110, xk_110, rfl, N110q, K110, po111, po112, po113, po114, po115, po116, po117⟩ := hQ110
    have f118 : Sta Z T110.heap "java/lang/String" "COMPACT_STRINGS" "Z" (.int cs) := (own_sta_keep f96 K110 ns0)
    have f119 : Exa Z T110.heap xs_1 "java/lang/String" := (f97.keep K110)
    have f120 : Fld Z T110.heap xs_1 "java/lang/String" "value" "[B" (.ref xb_1) := (f98.keep K110 nin0)
    have f121 : Fld Z T110.heap xs_1 "java/lang/String" "coder" "B" (.int (0 : Int32)) := (f99.keep K110 nin0)
    have f122 : Arv Z T110.heap xb_1 xk_1 .byte (1 : Int32) [(.int (nar .byte (((p3 &&& (255 : Int32)).toUInt32.toUInt16.toUInt32.toInt32).toInt8.toInt32)))] (.int (0 : Int32)) := (f100.keep K110 nin0)
    have f123 : Exa Z T110.heap b13 "com/example/cardinal_tableau/cardinaltableau/model/Role" := (f101.keep K110)
    have f124 : Exa Z T110.heap b35 "com/example/cardinal_tableau/cardinaltableau/model/Role" := (f102.keep K110)
    have f125 : Fld Z T110.heap b13 "com/example/cardinal_tableau/cardinaltableau/model/Role" "inverse" "Lcom/example/cardinal_tableau/cardinaltableau/model/Role;" (.ref b35) := (f103.keep K110 nin0)
    have f126 : Fld Z T110.heap b13 "com/example/cardinal_tableau/cardinaltableau/model/Role" "id" "I" (.int p0) := (f104.keep K110 nin0)
    have f127 : Fld Z T110.heap b35 "com/example/cardinal_tableau/cardinaltableau/model/Role" "inverse" "Lcom/example/cardinal_tableau/cardinaltableau/model/Role;" (.ref b13) := (f105.keep K110 nin0)
    have f128 : Fld Z T110.heap b35 "com/example/cardinal_tableau/cardinaltableau/model/Role" "id" "I" (.int xS0_12) := (f106.keep K110 nin0)
    have f129 : Exa Z T110.heap b91 "com/example/cardinal_tableau/cardinaltableau/model/Role" := (A91.keep K110)
    have f130 : Fld Z T110.heap b91 "com/example/cardinal_tableau/cardinaltableau/model/Role" "id" "I" (.int (0 : Int32)) := (fn107.keep K110 nin0)
    have f131 : Fld Z T110.heap b91 "com/example/cardinal_tableau/cardinaltableau/model/Role" "iri" "Ljava/lang/String;" .null := (fn108.keep K110 nin0)
    have f132 : Fld Z T110.heap b91 "com/example/cardinal_tableau/cardinaltableau/model/Role" "inverse" "Lcom/example/cardinal_tableau/cardinaltableau/model/Role;" .null := (fn109.keep K110 nin0)
    have ne133 : xs_1 ≠ xs_110 := Nat.ne_of_lt (Nat.lt_of_lt_of_le f97.lt po111)
    have ne134 : xb_1 ≠ xs_110 := Nat.ne_of_lt (Nat.lt_of_lt_of_le f100.lt po111)
    have ne135 : b13 ≠ xs_110 := Nat.ne_of_lt (Nat.lt_of_lt_of_le f101.lt po111)
    have ne136 : b35 ≠ xs_110 := Nat.ne_of_lt (Nat.lt_of_lt_of_le f102.lt po111)
    have ne137 : b91 ≠ xs_110 := Nat.ne_of_lt (Nat.lt_of_lt_of_le A91.lt po111)
    have ge138 : n0 ≤ xs_110 := Nat.le_trans zs91 po111
    have ne139 : xs_1 ≠ xb_110 := Nat.ne_of_lt (Nat.lt_of_lt_of_le f97.lt po112)
    have ne140 : xb_1 ≠ xb_110 := Nat.ne_of_lt (Nat.lt_of_lt_of_le f100.lt po112)
    have ne141 : b13 ≠ xb_110 := Nat.ne_of_lt (Nat.lt_of_lt_of_le f101.lt po112)
    have ne142 : b35 ≠ xb_110 := Nat.ne_of_lt (Nat.lt_of_lt_of_le f102.lt po112)
    have ne143 : b91 ≠ xb_110 := Nat.ne_of_lt (Nat.lt_of_lt_of_le A91.lt po112)
    have ge144 : n0 ≤ xb_110 := Nat.le_trans zs91 po112
    have zs110 : n0 ≤ T110.heap.size := Nat.le_trans zs91 K110.1
    have N110 := Fr.app N79 N110q
    refine own_go (T' := T110) (g' := (mkF m 81 #[.val (.int p0), .val (.int p1), .val (.int p2), .val (.int p3), .val (.ref xs_1), .val (.int xS0_12), .val (.ref b13), .val (.ref b35), .unset, .unset, .unset, .unset, .unset, .unset] [(.ref xs_110), (.int p2), (.ref b91), (.ref b91)])) (fun _ k => st110 _ k) ?_
    obtain ⟨_, _, ⟨T145, L145, k145, n145⟩, -, X145, ⟨Lc145, hQ145, l145, y145, z145⟩, st145⟩ := X110.specialBack hx (y := (⟨"com/example/cardinal_tableau/cardinaltableau/model/Role", "<init>", "(ILjava/lang/String;)V"⟩ : MethodName)) rfl hown (mvT hZ (hw _ (List.mem_of_getElem? (i := 29) rfl))) (mvT hZ (hw _ (List.mem_of_getElem? (i := 30) rfl))) (mvT hZ (hw _ (List.mem_of_getElem? (i := 31) rfl))) (by decide) (backOf (W := 1) (rmRole l Z a0 hw [] b91 p2 xs_110 T110.heap n0 zs110 f129 ge91 f130 f131 f132) hZ (hw _ (List.mem_of_getElem? (i := 31) rfl)) (hw _ (List.mem_of_getElem? (i := 28) rfl)) (by decide) (by decide)) (g := (mkF m 81 #[.val (.int p0), .val (.int p1), .val (.int p2), .val (.int p3), .val (.ref xs_1), .val (.int xS0_12), .val (.ref b13), .val (.ref b35), .unset, .unset, .unset, .unset, .unset, .unset] [(.ref xs_110), (.int p2), (.ref b91), (.ref b91)])) rfl (by rw [hml]; rfl) (Steps.refl _) (a := b91) (argsL := [(.int p2), (.ref xs_110)]) (rest := [(.ref b91)]) (lenOf own_pd4 rfl) rfl (by show 2 * 0 + _ ≤ _; exact Nat.le_of_eq rfl) (hb hby at_81) (fun _ _ => ⟨rfl, rfl, (by decide : 7 + 0 ≤ _), (by decide : 19 + 0 ≤ _)⟩)
    dsimp only [Pt.U, Pt.locs, Pt.cells, Pt.slots] at X145 l145 y145 z145 st145 hQ145
    subst l145 y145 z145
    obtain ⟨rfl, N145q, K145, po146, po147, po148, po149⟩ := hQ145
    have f150 : Sta Z T145.heap "java/lang/String" "COMPACT_STRINGS" "Z" (.int cs) := (own_sta_keep f118 K145 (nsS f129.nostat ns0))
    have f151 : Exa Z T145.heap xs_1 "java/lang/String" := (f119.keep K145)
    have f152 : Fld Z T145.heap xs_1 "java/lang/String" "value" "[B" (.ref xb_1) := (f120.keep K145 (ninS ne92 nin0))
    have f153 : Fld Z T145.heap xs_1 "java/lang/String" "coder" "B" (.int (0 : Int32)) := (f121.keep K145 (ninS ne92 nin0))
    have f154 : Arv Z T145.heap xb_1 xk_1 .byte (1 : Int32) [(.int (nar .byte (((p3 &&& (255 : Int32)).toUInt32.toUInt16.toUInt32.toInt32).toInt8.toInt32)))] (.int (0 : Int32)) := (f122.keep K145 (ninS ne93 nin0))
    have f155 : Exa Z T145.heap b13 "com/example/cardinal_tableau/cardinaltableau/model/Role" := (f123.keep K145)
    have f156 : Exa Z T145.heap b35 "com/example/cardinal_tableau/cardinaltableau/model/Role" := (f124.keep K145)
    have f157 : Fld Z T145.heap b13 "com/example/cardinal_tableau/cardinaltableau/model/Role" "inverse" "Lcom/example/cardinal_tableau/cardinaltableau/model/Role;" (.ref b35) := (f125.keep K145 (ninS ne94 nin0))
    have f158 : Fld Z T145.heap b13 "com/example/cardinal_tableau/cardinaltableau/model/Role" "id" "I" (.int p0) := (f126.keep K145 (ninS ne94 nin0))
    have f159 : Fld Z T145.heap b35 "com/example/cardinal_tableau/cardinaltableau/model/Role" "inverse" "Lcom/example/cardinal_tableau/cardinaltableau/model/Role;" (.ref b13) := (f127.keep K145 (ninS ne95 nin0))
    have f160 : Fld Z T145.heap b35 "com/example/cardinal_tableau/cardinaltableau/model/Role" "id" "I" (.int xS0_12) := (f128.keep K145 (ninS ne95 nin0))
    have f161 : Exa Z T145.heap b91 "com/example/cardinal_tableau/cardinaltableau/model/Role" := (f129.keep K145)
    have f162 : Exa Z T145.heap xs_110 "java/lang/String" := (po114.keep K145)
    have f163 : Fld Z T145.heap xs_110 "java/lang/String" "value" "[B" (.ref xb_110) := (po115.keep K145 (ninS (Ne.symm ne137) nin0))
    have f164 : Fld Z T145.heap xs_110 "java/lang/String" "coder" "B" (.int (0 : Int32)) := (po116.keep K145 (ninS (Ne.symm ne137) nin0))
    have f165 : Arv Z T145.heap xb_110 xk_110 .byte (1 : Int32) [(.int (nar .byte (((((p3.toUInt32 >>> ((8 : Int32) &&& 31).toUInt32).toInt32) &&& (255 : Int32)).toUInt32.toUInt16.toUInt32.toInt32).toInt8.toInt32)))] (.int (0 : Int32)) := (po117.keep K145 (ninS (Ne.symm ne143) nin0))
    have zs145 : n0 ≤ T145.heap.size := Nat.le_trans zs110 K145.1
    have N145 := Fr.app N110 N145q
    refine own_go (T' := T145) (g' := (mkF m 84 #[.val (.int p0), .val (.int p1), .val (.int p2), .val (.int p3), .val (.ref xs_1), .val (.int xS0_12), .val (.ref b13), .val (.ref b35), .unset, .unset, .unset, .unset, .unset, .unset] [(.ref b91)])) (fun _ k => st145.trans k) ?_
    refine own_go (T' := T145) (g' := (mkF m 86 #[.val (.int p0), .val (.int p1), .val (.int p2), .val (.int p3), .val (.ref xs_1), .val (.int xS0_12), .val (.ref b13), .val (.ref b35), .val (.ref b91), .unset, .unset, .unset, .unset, .unset] [])) (fun _ k => XS.astore X145.here hx rfl (hb hby at_84) rfl rfl (l' := #[.val (.int p0), .val (.int p1), .val (.int p2), .val (.int p3), .val (.ref xs_1), .val (.int xS0_12), .val (.ref b13), .val (.ref b35), .val (.ref b91), .unset, .unset, .unset, .unset, .unset]) rfl k) ?_
    refine own_go (T' := T145) (g' := (mkF m 88 #[.val (.int p0), .val (.int p1), .val (.int p2), .val (.int p3), .val (.ref xs_1), .val (.int xS0_12), .val (.ref b13), .val (.ref b35), .val (.ref b91), .unset, .unset, .unset, .unset, .unset] [(.ref b91)])) (fun _ k => XS.aload X145.here hx rfl (hb hby at_86) rfl rfl k) ?_
    refine own_go (T' := T145) (g' := (mkF m 90 #[.val (.int p0), .val (.int p1), .val (.int p2), .val (.int p3), .val (.ref xs_1), .val (.int xS0_12), .val (.ref b13), .val (.ref b35), .val (.ref b91), .unset, .unset, .unset, .unset, .unset] [(.ref b91), (.ref b91)])) (fun _ k => XS.aload X145.here hx rfl (hb hby at_88) rfl rfl k) ?_
    obtain ⟨cq166, kq166, q166a, q166b, q166c⟩ := isOf hZ rfl po149
    obtain ⟨_, _, ⟨T166, L166, k166, n166⟩, -, X166, ⟨Lc166, hQ166, l166, y166, z166⟩, st166⟩ := X145.virtualBack hx (y := (⟨"com/example/cardinal_tableau/cardinaltableau/model/Role", "setInverse", "(Lcom/example/cardinal_tableau/cardinaltableau/model/Role;)V"⟩ : MethodName)) (z := (⟨"com/example/cardinal_tableau/cardinaltableau/model/Role", "setInverse", "(Lcom/example/cardinal_tableau/cardinaltableau/model/Role;)V"⟩ : MethodName)) hown (mvT hZ (hw _ (List.mem_of_getElem? (i := 37) rfl))) (mvT hZ (hw _ (List.mem_of_getElem? (i := 38) rfl))) (notFace_of_selects (args := #[]) (mvT hZ (hw _ (List.mem_of_getElem? (i := 40) rfl)))) (mvT hZ (hw _ (List.mem_of_getElem? (i := 40) rfl))) (mvT hZ (hw _ (List.mem_of_getElem? (i := 39) rfl))) (by decide) (backOf (W := 0) (rmSet l Z a0 hw [] b91 b91 .null p2 T145.heap n0 zs145 po149 ge91 po146 po147) hZ (hw _ (List.mem_of_getElem? (i := 41) rfl)) (hw _ (List.mem_of_getElem? (i := 28) rfl)) (by decide) (by decide)) q166a q166c (g := (mkF m 90 #[.val (.int p0), .val (.int p1), .val (.int p2), .val (.int p3), .val (.ref xs_1), .val (.int xS0_12), .val (.ref b13), .val (.ref b35), .val (.ref b91), .unset, .unset, .unset, .unset, .unset] [(.ref b91), (.ref b91)])) rfl (by rw [hml]; rfl) (Steps.refl _) (argsL := [(.ref b91)]) (rest := []) (lenOf own_pd5 rfl) rfl (by show 2 * 0 + _ ≤ _; exact Nat.le_of_eq rfl) (hb hby at_90) (fun _ _ => ⟨rfl, rfl, (by decide : 7 + 0 ≤ _), (by decide : 19 + 0 ≤ _)⟩)
    dsimp only [Pt.U, Pt.locs, Pt.cells, Pt.slots] at X166 l166 y166 z166 st166 hQ166
    subst l166 y166 z166
    obtain ⟨rfl, N166q, K166, po167, po168⟩ := hQ166
    have f169 : Sta Z T166.heap "java/lang/String" "COMPACT_STRINGS" "Z" (.int cs) := (own_sta_keep f150 K166 (nsS po149.nostat ns0))
    have f170 : Exa Z T166.heap xs_1 "java/lang/String" := (f151.keep K166)
    have f171 : Fld Z T166.heap xs_1 "java/lang/String" "value" "[B" (.ref xb_1) := (f152.keep K166 (ninS ne92 nin0))
    have f172 : Fld Z T166.heap xs_1 "java/lang/String" "coder" "B" (.int (0 : Int32)) := (f153.keep K166 (ninS ne92 nin0))
    have f173 : Arv Z T166.heap xb_1 xk_1 .byte (1 : Int32) [(.int (nar .byte (((p3 &&& (255 : Int32)).toUInt32.toUInt16.toUInt32.toInt32).toInt8.toInt32)))] (.int (0 : Int32)) := (f154.keep K166 (ninS ne93 nin0))
    have f174 : Exa Z T166.heap b13 "com/example/cardinal_tableau/cardinaltableau/model/Role" := (f155.keep K166)
    have f175 : Exa Z T166.heap b35 "com/example/cardinal_tableau/cardinaltableau/model/Role" := (f156.keep K166)
    have f176 : Fld Z T166.heap b13 "com/example/cardinal_tableau/cardinaltableau/model/Role" "inverse" "Lcom/example/cardinal_tableau/cardinaltableau/model/Role;" (.ref b35) := (f157.keep K166 (ninS ne94 nin0))
    have f177 : Fld Z T166.heap b13 "com/example/cardinal_tableau/cardinaltableau/model/Role" "id" "I" (.int p0) := (f158.keep K166 (ninS ne94 nin0))
    have f178 : Fld Z T166.heap b35 "com/example/cardinal_tableau/cardinaltableau/model/Role" "inverse" "Lcom/example/cardinal_tableau/cardinaltableau/model/Role;" (.ref b13) := (f159.keep K166 (ninS ne95 nin0))
    have f179 : Fld Z T166.heap b35 "com/example/cardinal_tableau/cardinaltableau/model/Role" "id" "I" (.int xS0_12) := (f160.keep K166 (ninS ne95 nin0))
    have f180 : Exa Z T166.heap b91 "com/example/cardinal_tableau/cardinaltableau/model/Role" := (po149.keep K166)
    have f181 : Exa Z T166.heap xs_110 "java/lang/String" := (f162.keep K166)
    have f182 : Fld Z T166.heap xs_110 "java/lang/String" "value" "[B" (.ref xb_110) := (f163.keep K166 (ninS (Ne.symm ne137) nin0))
    have f183 : Fld Z T166.heap xs_110 "java/lang/String" "coder" "B" (.int (0 : Int32)) := (f164.keep K166 (ninS (Ne.symm ne137) nin0))
    have f184 : Arv Z T166.heap xb_110 xk_110 .byte (1 : Int32) [(.int (nar .byte (((((p3.toUInt32 >>> ((8 : Int32) &&& 31).toUInt32).toInt32) &&& (255 : Int32)).toUInt32.toUInt16.toUInt32.toInt32).toInt8.toInt32)))] (.int (0 : Int32)) := (f165.keep K166 (ninS (Ne.symm ne143) nin0))
    have zs166 : n0 ≤ T166.heap.size := Nat.le_trans zs145 K166.1
    have N166 := Fr.app N145 N166q
    refine own_go (T' := T166) (g' := (mkF m 93 #[.val (.int p0), .val (.int p1), .val (.int p2), .val (.int p3), .val (.ref xs_1), .val (.int xS0_12), .val (.ref b13), .val (.ref b35), .val (.ref b91), .unset, .unset, .unset, .unset, .unset] [])) (fun _ k => st166.trans k) ?_
    refine own_go (T' := T166) (g' := (mkF m 95 #[.val (.int p0), .val (.int p1), .val (.int p2), .val (.int p3), .val (.ref xs_1), .val (.int xS0_12), .val (.ref b13), .val (.ref b35), .val (.ref b91), .unset, .unset, .unset, .unset, .unset] [(.ref b13)])) (fun _ k => XS.aload X166.here hx rfl (hb hby at_93) rfl rfl k) ?_
    obtain ⟨cq185, kq185, q185a, q185b, q185c⟩ := isOf hZ rfl f174
    obtain ⟨_, _, ⟨T185, L185, k185, n185⟩, -, X185, ⟨Lc185, hQ185, l185, y185, z185⟩, st185⟩ := X166.virtualBack hx (y := (⟨"com/example/cardinal_tableau/cardinaltableau/model/Role", "isInverse", "()Z"⟩ : MethodName)) (z := (⟨"com/example/cardinal_tableau/cardinaltableau/model/Role", "isInverse", "()Z"⟩ : MethodName)) hown (mvT hZ (hw _ (List.mem_of_getElem? (i := 44) rfl))) (mvT hZ (hw _ (List.mem_of_getElem? (i := 45) rfl))) (notFace_of_selects (args := #[]) (mvT hZ (hw _ (List.mem_of_getElem? (i := 47) rfl)))) (mvT hZ (hw _ (List.mem_of_getElem? (i := 47) rfl))) (mvT hZ (hw _ (List.mem_of_getElem? (i := 46) rfl))) (by decide) (backOf (W := 0) (rmIs l Z a0 hw [] b13 b35 p0 xS0_12 T166.heap n0 zs166 f176 f177 f179) hZ (hw _ (List.mem_of_getElem? (i := 48) rfl)) (hw _ (List.mem_of_getElem? (i := 28) rfl)) (by decide) (by decide)) q185a q185c (g := (mkF m 95 #[.val (.int p0), .val (.int p1), .val (.int p2), .val (.int p3), .val (.ref xs_1), .val (.int xS0_12), .val (.ref b13), .val (.ref b35), .val (.ref b91), .unset, .unset, .unset, .unset, .unset] [(.ref b13)])) rfl (by rw [hml]; rfl) (Steps.refl _) (argsL := []) (rest := []) (lenOf own_pd6 rfl) rfl (by show 2 * 0 + _ ≤ _; exact Nat.le_of_eq rfl) (hb hby at_95) (fun _ _ => ⟨rfl, rfl, (by decide : 7 + 0 ≤ _), (by decide : 19 + 0 ≤ _)⟩)
    dsimp only [Pt.U, Pt.locs, Pt.cells, Pt.slots] at X185 l185 y185 z185 st185 hQ185
    subst l185 y185 z185
    obtain ⟨rfl, N185q, e185⟩ := hQ185
    have N185 := Fr.app N166 N185q
    refine own_go (T' := T185) (g' := (mkF m 98 #[.val (.int p0), .val (.int p1), .val (.int p2), .val (.int p3), .val (.ref xs_1), .val (.int xS0_12), .val (.ref b13), .val (.ref b35), .val (.ref b91), .unset, .unset, .unset, .unset, .unset] [(.int (own_isInv b13 b35 p0 xS0_12))])) (fun _ k => st185.trans k) ?_
    refine own_go (T' := T185) (g' := (mkF m 100 #[.val (.int p0), .val (.int p1), .val (.int p2), .val (.int p3), .val (.ref xs_1), .val (.int xS0_12), .val (.ref b13), .val (.ref b35), .val (.ref b91), .val (.int (own_isInv b13 b35 p0 xS0_12)), .unset, .unset, .unset, .unset] [])) (fun _ k => XS.istore X185.here hx rfl (hb hby at_98) rfl (l' := #[.val (.int p0), .val (.int p1), .val (.int p2), .val (.int p3), .val (.ref xs_1), .val (.int xS0_12), .val (.ref b13), .val (.ref b35), .val (.ref b91), .val (.int (own_isInv b13 b35 p0 xS0_12)), .unset, .unset, .unset, .unset]) rfl k) ?_
    refine own_go (T' := T185) (g' := (mkF m 102 #[.val (.int p0), .val (.int p1), .val (.int p2), .val (.int p3), .val (.ref xs_1), .val (.int xS0_12), .val (.ref b13), .val (.ref b35), .val (.ref b91), .val (.int (own_isInv b13 b35 p0 xS0_12)), .unset, .unset, .unset, .unset] [(.ref b35)])) (fun _ k => XS.aload X185.here hx rfl (hb hby at_100) rfl rfl k) ?_
    obtain ⟨cq186, kq186, q186a, q186b, q186c⟩ := isOf hZ e185 f175
    obtain ⟨_, _, ⟨T186, L186, k186, n186⟩, -, X186, ⟨Lc186, hQ186, l186, y186, z186⟩, st186⟩ := X185.virtualBack hx (y := (⟨"com/example/cardinal_tableau/cardinaltableau/model/Role", "isInverse", "()Z"⟩ : MethodName)) (z := (⟨"com/example/cardinal_tableau/cardinaltableau/model/Role", "isInverse", "()Z"⟩ : MethodName)) hown (mvT hZ (hw _ (List.mem_of_getElem? (i := 44) rfl))) (mvT hZ (hw _ (List.mem_of_getElem? (i := 45) rfl))) (notFace_of_selects (args := #[]) (mvT hZ (hw _ (List.mem_of_getElem? (i := 47) rfl)))) (mvT hZ (hw _ (List.mem_of_getElem? (i := 47) rfl))) (mvT hZ (hw _ (List.mem_of_getElem? (i := 46) rfl))) (by decide) (backOf (W := 0) (rmIs l Z a0 hw [] b35 b13 xS0_12 p0 T166.heap n0 zs166 f178 f179 f177) hZ (hw _ (List.mem_of_getElem? (i := 48) rfl)) (hw _ (List.mem_of_getElem? (i := 28) rfl)) (by decide) (by decide)) q186a q186c (g := (mkF m 102 #[.val (.int p0), .val (.int p1), .val (.int p2), .val (.int p3), .val (.ref xs_1), .val (.int xS0_12), .val (.ref b13), .val (.ref b35), .val (.ref b91), .val (.int (own_isInv b13 b35 p0 xS0_12)), .unset, .unset, .unset, .unset] [(.ref b35)])) rfl (by rw [hml]; rfl) (Steps.refl _) (argsL := []) (rest := []) (lenOf own_pd6 rfl) rfl (by show 2 * 0 + _ ≤ _; exact Nat.le_of_eq rfl) (hb hby at_102) (fun _ _ => ⟨rfl, e185, (by decide : 7 + 0 ≤ _), (by decide : 19 + 0 ≤ _)⟩)
    dsimp only [Pt.U, Pt.locs, Pt.cells, Pt.slots] at X186 l186 y186 z186 st186 hQ186
    subst l186 y186 z186
    obtain ⟨rfl, N186q, e186⟩ := hQ186
    have N186 := Fr.app N185 N186q
    refine own_go (T' := T186) (g' := (mkF m 105 #[.val (.int p0), .val (.int p1), .val (.int p2), .val (.int p3), .val (.ref xs_1), .val (.int xS0_12), .val (.ref b13), .val (.ref b35), .val (.ref b91), .val (.int (own_isInv b13 b35 p0 xS0_12)), .unset, .unset, .unset, .unset] [(.int (own_isInv b35 b13 xS0_12 p0))])) (fun _ k => st186.trans k) ?_
    refine own_go (T' := T186) (g' := (mkF m 107 #[.val (.int p0), .val (.int p1), .val (.int p2), .val (.int p3), .val (.ref xs_1), .val (.int xS0_12), .val (.ref b13), .val (.ref b35), .val (.ref b91), .val (.int (own_isInv b13 b35 p0 xS0_12)), .val (.int (own_isInv b35 b13 xS0_12 p0)), .unset, .unset, .unset] [])) (fun _ k => XS.istore X186.here hx rfl (hb hby at_105) rfl (l' := #[.val (.int p0), .val (.int p1), .val (.int p2), .val (.int p3), .val (.ref xs_1), .val (.int xS0_12), .val (.ref b13), .val (.ref b35), .val (.ref b91), .val (.int (own_isInv b13 b35 p0 xS0_12)), .val (.int (own_isInv b35 b13 xS0_12 p0)), .unset, .unset, .unset]) rfl k) ?_
    refine own_go (T' := T186) (g' := (mkF m 109 #[.val (.int p0), .val (.int p1), .val (.int p2), .val (.int p3), .val (.ref xs_1), .val (.int xS0_12), .val (.ref b13), .val (.ref b35), .val (.ref b91), .val (.int (own_isInv b13 b35 p0 xS0_12)), .val (.int (own_isInv b35 b13 xS0_12 p0)), .unset, .unset, .unset] [(.ref b91)])) (fun _ k => XS.aload X186.here hx rfl (hb hby at_107) rfl rfl k) ?_
    obtain ⟨cq187, kq187, q187a, q187b, q187c⟩ := isOf hZ e186 f180
    obtain ⟨_, _, ⟨T187, L187, k187, n187⟩, -, X187, ⟨Lc187, hQ187, l187, y187, z187⟩, st187⟩ := X186.virtualBack hx (y := (⟨"com/example/cardinal_tableau/cardinaltableau/model/Role", "isInverse", "()Z"⟩ : MethodName)) (z := (⟨"com/example/cardinal_tableau/cardinaltableau/model/Role", "isInverse", "()Z"⟩ : MethodName)) hown (mvT hZ (hw _ (List.mem_of_getElem? (i := 44) rfl))) (mvT hZ (hw _ (List.mem_of_getElem? (i := 45) rfl))) (notFace_of_selects (args := #[]) (mvT hZ (hw _ (List.mem_of_getElem? (i := 47) rfl)))) (mvT hZ (hw _ (List.mem_of_getElem? (i := 47) rfl))) (mvT hZ (hw _ (List.mem_of_getElem? (i := 46) rfl))) (by decide) (backOf (W := 0) (rmIs l Z a0 hw [] b91 b91 p2 p2 T166.heap n0 zs166 po167 po168 po168) hZ (hw _ (List.mem_of_getElem? (i := 48) rfl)) (hw _ (List.mem_of_getElem? (i := 28) rfl)) (by decide) (by decide)) q187a q187c (g := (mkF m 109 #[.val (.int p0), .val (.int p1), .val (.int p2), .val (.int p3), .val (.ref xs_1), .val (.int xS0_12), .val (.ref b13), .val (.ref b35), .val (.ref b91), .val (.int (own_isInv b13 b35 p0 xS0_12)), .val (.int (own_isInv b35 b13 xS0_12 p0)), .unset, .unset, .unset] [(.ref b91)])) rfl (by rw [hml]; rfl) (Steps.refl _) (argsL := []) (rest := []) (lenOf own_pd6 rfl) rfl (by show 2 * 0 + _ ≤ _; exact Nat.le_of_eq rfl) (hb hby at_109) (fun _ _ => ⟨rfl, e186, (by decide : 7 + 0 ≤ _), (by decide : 19 + 0 ≤ _)⟩)
    dsimp only [Pt.U, Pt.locs, Pt.cells, Pt.slots] at X187 l187 y187 z187 st187 hQ187
    subst l187 y187 z187
    obtain ⟨rfl, N187q, e187⟩ := hQ187
    have N187 := Fr.app N186 N187q
    refine own_go (T' := T187) (g' := (mkF m 112 #[.val (.int p0), .val (.int p1), .val (.int p2), .val (.int p3), .val (.ref xs_1), .val (.int xS0_12), .val (.ref b13), .val (.ref b35), .val (.ref b91), .val (.int (own_isInv b13 b35 p0 xS0_12)), .val (.int (own_isInv b35 b13 xS0_12 p0)), .unset, .unset, .unset] [(.int (own_isInv b91 b91 p2 p2))])) (fun _ k => st187.trans k) ?_
    refine own_go (T' := T187) (g' := (mkF m 114 #[.val (.int p0), .val (.int p1), .val (.int p2), .val (.int p3), .val (.ref xs_1), .val (.int xS0_12), .val (.ref b13), .val (.ref b35), .val (.ref b91), .val (.int (own_isInv b13 b35 p0 xS0_12)), .val (.int (own_isInv b35 b13 xS0_12 p0)), .val (.int (own_isInv b91 b91 p2 p2)), .unset, .unset] [])) (fun _ k => XS.istore X187.here hx rfl (hb hby at_112) rfl (l' := #[.val (.int p0), .val (.int p1), .val (.int p2), .val (.int p3), .val (.ref xs_1), .val (.int xS0_12), .val (.ref b13), .val (.ref b35), .val (.ref b91), .val (.int (own_isInv b13 b35 p0 xS0_12)), .val (.int (own_isInv b35 b13 xS0_12 p0)), .val (.int (own_isInv b91 b91 p2 p2)), .unset, .unset]) rfl k) ?_
    refine own_go (T' := T187) (g' := (mkF m 116 #[.val (.int p0), .val (.int p1), .val (.int p2), .val (.int p3), .val (.ref xs_1), .val (.int xS0_12), .val (.ref b13), .val (.ref b35), .val (.ref b91), .val (.int (own_isInv b13 b35 p0 xS0_12)), .val (.int (own_isInv b35 b13 xS0_12 p0)), .val (.int (own_isInv b91 b91 p2 p2)), .unset, .unset] [(.int (own_isInv b13 b35 p0 xS0_12))])) (fun _ k => XS.iload X187.here hx rfl (hb hby at_114) rfl k) ?_
    refine own_go (T' := T187) (g' := (mkF m 118 #[.val (.int p0), .val (.int p1), .val (.int p2), .val (.int p3), .val (.ref xs_1), .val (.int xS0_12), .val (.ref b13), .val (.ref b35), .val (.ref b91), .val (.int (own_isInv b13 b35 p0 xS0_12)), .val (.int (own_isInv b35 b13 xS0_12 p0)), .val (.int (own_isInv b91 b91 p2 p2)), .unset, .unset] [(.int (own_isInv b35 b13 xS0_12 p0)), (.int (own_isInv b13 b35 p0 xS0_12))])) (fun _ k => XS.iload X187.here hx rfl (hb hby at_116) rfl k) ?_
    have J126_188 : ∀ (xS0_188 : Int32) (hxS0_188 : xS0_188 = (if (own_isInv b13 b35 p0 xS0_12) = (own_isInv b35 b13 xS0_12 p0) then (0 : Int32) else (1 : Int32))), own_W p e below s (Q_rm0 Z p0 p1 p2 p3 cs h0 n0) 24 128 T187 (mkF m 126 #[.val (.int p0), .val (.int p1), .val (.int p2), .val (.int p3), .val (.ref xs_1), .val (.int xS0_12), .val (.ref b13), .val (.ref b35), .val (.ref b91), .val (.int (own_isInv b13 b35 p0 xS0_12)), .val (.int (own_isInv b35 b13 xS0_12 p0)), .val (.int (own_isInv b91 b91 p2 p2)), .unset, .unset] [(.int xS0_188)]) := by
      intro xS0_188 hxS0_188
      refine own_go (T' := T187) (g' := (mkF m 128 #[.val (.int p0), .val (.int p1), .val (.int p2), .val (.int p3), .val (.ref xs_1), .val (.int xS0_12), .val (.ref b13), .val (.ref b35), .val (.ref b91), .val (.int (own_isInv b13 b35 p0 xS0_12)), .val (.int (own_isInv b35 b13 xS0_12 p0)), .val (.int (own_isInv b91 b91 p2 p2)), .val (.int xS0_188), .unset] [])) (fun _ k => XS.istore X187.here hx rfl (hb hby at_126) rfl (l' := #[.val (.int p0), .val (.int p1), .val (.int p2), .val (.int p3), .val (.ref xs_1), .val (.int xS0_12), .val (.ref b13), .val (.ref b35), .val (.ref b91), .val (.int (own_isInv b13 b35 p0 xS0_12)), .val (.int (own_isInv b35 b13 xS0_12 p0)), .val (.int (own_isInv b91 b91 p2 p2)), .val (.int xS0_188), .unset]) rfl k) ?_
      refine own_go (T' := T187) (g' := (mkF m 130 #[.val (.int p0), .val (.int p1), .val (.int p2), .val (.int p3), .val (.ref xs_1), .val (.int xS0_12), .val (.ref b13), .val (.ref b35), .val (.ref b91), .val (.int (own_isInv b13 b35 p0 xS0_12)), .val (.int (own_isInv b35 b13 xS0_12 p0)), .val (.int (own_isInv b91 b91 p2 p2)), .val (.int xS0_188), .unset] [(.int (own_isInv b13 b35 p0 xS0_12))])) (fun _ k => XS.iload X187.here hx rfl (hb hby at_128) rfl k) ?_
      refine own_go (T' := T187) (g' := (mkF m 131 #[.val (.int p0), .val (.int p1), .val (.int p2), .val (.int p3), .val (.ref xs_1), .val (.int xS0_12), .val (.ref b13), .val (.ref b35), .val (.ref b91), .val (.int (own_isInv b13 b35 p0 xS0_12)), .val (.int (own_isInv b35 b13 xS0_12 p0)), .val (.int (own_isInv b91 b91 p2 p2)), .val (.int xS0_188), .unset] [(.int p0), (.int (own_isInv b13 b35 p0 xS0_12))])) (fun _ k => XS.iloadN X187.here hx rfl (hb hby at_130) rfl k) ?_
      refine own_go (T' := T187) (g' := (mkF m 133 #[.val (.int p0), .val (.int p1), .val (.int p2), .val (.int p3), .val (.ref xs_1), .val (.int xS0_12), .val (.ref b13), .val (.ref b35), .val (.ref b91), .val (.int (own_isInv b13 b35 p0 xS0_12)), .val (.int (own_isInv b35 b13 xS0_12 p0)), .val (.int (own_isInv b91 b91 p2 p2)), .val (.int xS0_188), .unset] [(.int xS0_12), (.int p0), (.int (own_isInv b13 b35 p0 xS0_12))])) (fun _ k => XS.iload X187.here hx rfl (hb hby at_131) rfl k) ?_
      have J141_189 : ∀ (xS0_189 : Int32) (hxS0_189 : xS0_189 = (if xS0_12 < p0 then (1 : Int32) else (0 : Int32))), own_W p e below s (Q_rm0 Z p0 p1 p2 p3 cs h0 n0) 24 128 T187 (mkF m 141 #[.val (.int p0), .val (.int p1), .val (.int p2), .val (.int p3), .val (.ref xs_1), .val (.int xS0_12), .val (.ref b13), .val (.ref b35), .val (.ref b91), .val (.int (own_isInv b13 b35 p0 xS0_12)), .val (.int (own_isInv b35 b13 xS0_12 p0)), .val (.int (own_isInv b91 b91 p2 p2)), .val (.int xS0_188), .unset] [(.int xS0_189), (.int (own_isInv b13 b35 p0 xS0_12))]) := by
        intro xS0_189 hxS0_189
        refine own_go (T' := T187) (g' := (mkF m 144 #[.val (.int p0), .val (.int p1), .val (.int p2), .val (.int p3), .val (.ref xs_1), .val (.int xS0_12), .val (.ref b13), .val (.ref b35), .val (.ref b91), .val (.int (own_isInv b13 b35 p0 xS0_12)), .val (.int (own_isInv b35 b13 xS0_12 p0)), .val (.int (own_isInv b91 b91 p2 p2)), .val (.int xS0_188), .unset] [])) (fun _ k => XS.icmpNo X187.here hx rfl (hb hby at_141) rfl (XT.ii_ne_f (own_A (Ne.symm ne38) hxS0_189)) k) ?_
        refine own_go (T' := T187) (g' := (mkF m 146 #[.val (.int p0), .val (.int p1), .val (.int p2), .val (.int p3), .val (.ref xs_1), .val (.int xS0_12), .val (.ref b13), .val (.ref b35), .val (.ref b91), .val (.int (own_isInv b13 b35 p0 xS0_12)), .val (.int (own_isInv b35 b13 xS0_12 p0)), .val (.int (own_isInv b91 b91 p2 p2)), .val (.int xS0_188), .unset] [(.int (own_isInv b35 b13 xS0_12 p0))])) (fun _ k => XS.iload X187.here hx rfl (hb hby at_144) rfl k) ?_
        refine own_go (T' := T187) (g' := (mkF m 148 #[.val (.int p0), .val (.int p1), .val (.int p2), .val (.int p3), .val (.ref xs_1), .val (.int xS0_12), .val (.ref b13), .val (.ref b35), .val (.ref b91), .val (.int (own_isInv b13 b35 p0 xS0_12)), .val (.int (own_isInv b35 b13 xS0_12 p0)), .val (.int (own_isInv b91 b91 p2 p2)), .val (.int xS0_188), .unset] [(.int xS0_12), (.int (own_isInv b35 b13 xS0_12 p0))])) (fun _ k => XS.iload X187.here hx rfl (hb hby at_146) rfl k) ?_
        refine own_go (T' := T187) (g' := (mkF m 149 #[.val (.int p0), .val (.int p1), .val (.int p2), .val (.int p3), .val (.ref xs_1), .val (.int xS0_12), .val (.ref b13), .val (.ref b35), .val (.ref b91), .val (.int (own_isInv b13 b35 p0 xS0_12)), .val (.int (own_isInv b35 b13 xS0_12 p0)), .val (.int (own_isInv b91 b91 p2 p2)), .val (.int xS0_188), .unset] [(.int p0), (.int xS0_12), (.int (own_isInv b35 b13 xS0_12 p0))])) (fun _ k => XS.iloadN X187.here hx rfl (hb hby at_148) rfl k) ?_
        have J157_190 : ∀ (xS0_190 : Int32) (hxS0_190 : xS0_190 = (if p0 < xS0_12 then (1 : Int32) else (0 : Int32))), own_W p e below s (Q_rm0 Z p0 p1 p2 p3 cs h0 n0) 24 128 T187 (mkF m 157 #[.val (.int p0), .val (.int p1), .val (.int p2), .val (.int p3), .val (.ref xs_1), .val (.int xS0_12), .val (.ref b13), .val (.ref b35), .val (.ref b91), .val (.int (own_isInv b13 b35 p0 xS0_12)), .val (.int (own_isInv b35 b13 xS0_12 p0)), .val (.int (own_isInv b91 b91 p2 p2)), .val (.int xS0_188), .unset] [(.int xS0_190), (.int (own_isInv b35 b13 xS0_12 p0))]) := by
          intro xS0_190 hxS0_190
          refine own_go (T' := T187) (g' := (mkF m 160 #[.val (.int p0), .val (.int p1), .val (.int p2), .val (.int p3), .val (.ref xs_1), .val (.int xS0_12), .val (.ref b13), .val (.ref b35), .val (.ref b91), .val (.int (own_isInv b13 b35 p0 xS0_12)), .val (.int (own_isInv b35 b13 xS0_12 p0)), .val (.int (own_isInv b91 b91 p2 p2)), .val (.int xS0_188), .unset] [])) (fun _ k => XS.icmpNo X187.here hx rfl (hb hby at_157) rfl (XT.ii_ne_f (own_A ne38 hxS0_190)) k) ?_
          refine own_go (T' := T187) (g' := (mkF m 161 #[.val (.int p0), .val (.int p1), .val (.int p2), .val (.int p3), .val (.ref xs_1), .val (.int xS0_12), .val (.ref b13), .val (.ref b35), .val (.ref b91), .val (.int (own_isInv b13 b35 p0 xS0_12)), .val (.int (own_isInv b35 b13 xS0_12 p0)), .val (.int (own_isInv b91 b91 p2 p2)), .val (.int xS0_188), .unset] [(.int (1 : Int32))])) (fun _ k => XS.iconst X187.here hx rfl (hb hby at_160) k) ?_
          refine own_go (T' := T187) (g' := (mkF m 165 #[.val (.int p0), .val (.int p1), .val (.int p2), .val (.int p3), .val (.ref xs_1), .val (.int xS0_12), .val (.ref b13), .val (.ref b35), .val (.ref b91), .val (.int (own_isInv b13 b35 p0 xS0_12)), .val (.int (own_isInv b35 b13 xS0_12 p0)), .val (.int (own_isInv b91 b91 p2 p2)), .val (.int xS0_188), .unset] [(.int (1 : Int32))])) (fun _ k => XS.goto X187.here hx rfl (pc0 := 161) (pc' := 165) rfl (hb hby at_161) (by decide) (by decide) k) ?_
          refine own_go (T' := T187) (g' := (mkF m 167 #[.val (.int p0), .val (.int p1), .val (.int p2), .val (.int p3), .val (.ref xs_1), .val (.int xS0_12), .val (.ref b13), .val (.ref b35), .val (.ref b91), .val (.int (own_isInv b13 b35 p0 xS0_12)), .val (.int (own_isInv b35 b13 xS0_12 p0)), .val (.int (own_isInv b91 b91 p2 p2)), .val (.int xS0_188), .val (.int (1 : Int32))] [])) (fun _ k => XS.istore X187.here hx rfl (hb hby at_165) rfl (l' := #[.val (.int p0), .val (.int p1), .val (.int p2), .val (.int p3), .val (.ref xs_1), .val (.int xS0_12), .val (.ref b13), .val (.ref b35), .val (.ref b91), .val (.int (own_isInv b13 b35 p0 xS0_12)), .val (.int (own_isInv b35 b13 xS0_12 p0)), .val (.int (own_isInv b91 b91 p2 p2)), .val (.int xS0_188), .val (.int (1 : Int32))]) rfl k) ?_
          refine own_go (T' := T187) (g' := (mkF m 169 #[.val (.int p0), .val (.int p1), .val (.int p2), .val (.int p3), .val (.ref xs_1), .val (.int xS0_12), .val (.ref b13), .val (.ref b35), .val (.ref b91), .val (.int (own_isInv b13 b35 p0 xS0_12)), .val (.int (own_isInv b35 b13 xS0_12 p0)), .val (.int (own_isInv b91 b91 p2 p2)), .val (.int xS0_188), .val (.int (1 : Int32))] [(.int xS0_188)])) (fun _ k => XS.iload X187.here hx rfl (hb hby at_167) rfl k) ?_
          refine own_go (T' := T187) (g' := (mkF m 172 #[.val (.int p0), .val (.int p1), .val (.int p2), .val (.int p3), .val (.ref xs_1), .val (.int xS0_12), .val (.ref b13), .val (.ref b35), .val (.ref b91), .val (.int (own_isInv b13 b35 p0 xS0_12)), .val (.int (own_isInv b35 b13 xS0_12 p0)), .val (.int (own_isInv b91 b91 p2 p2)), .val (.int xS0_188), .val (.int (1 : Int32))] [])) (fun _ k => XS.ifNo X187.here hx rfl (hb hby at_169) rfl (XT.i0_eq_f (own_X ne38 (own_nj hxS0_12) hxS0_188 (v := 0))) k) ?_
          refine own_go (T' := T187) (g' := (mkF m 174 #[.val (.int p0), .val (.int p1), .val (.int p2), .val (.int p3), .val (.ref xs_1), .val (.int xS0_12), .val (.ref b13), .val (.ref b35), .val (.ref b91), .val (.int (own_isInv b13 b35 p0 xS0_12)), .val (.int (own_isInv b35 b13 xS0_12 p0)), .val (.int (own_isInv b91 b91 p2 p2)), .val (.int xS0_188), .val (.int (1 : Int32))] [(.int (1 : Int32))])) (fun _ k => XS.iload X187.here hx rfl (hb hby at_172) rfl k) ?_
          refine own_go (T' := T187) (g' := (mkF m 177 #[.val (.int p0), .val (.int p1), .val (.int p2), .val (.int p3), .val (.ref xs_1), .val (.int xS0_12), .val (.ref b13), .val (.ref b35), .val (.ref b91), .val (.int (own_isInv b13 b35 p0 xS0_12)), .val (.int (own_isInv b35 b13 xS0_12 p0)), .val (.int (own_isInv b91 b91 p2 p2)), .val (.int xS0_188), .val (.int (1 : Int32))] [])) (fun _ k => XS.ifNo X187.here hx rfl (hb hby at_174) rfl (XT.i0_eq_f (by decide : ¬ ((1 : Int32) = (0 : Int32)))) k) ?_
          refine own_go (T' := T187) (g' := (mkF m 179 #[.val (.int p0), .val (.int p1), .val (.int p2), .val (.int p3), .val (.ref xs_1), .val (.int xS0_12), .val (.ref b13), .val (.ref b35), .val (.ref b91), .val (.int (own_isInv b13 b35 p0 xS0_12)), .val (.int (own_isInv b35 b13 xS0_12 p0)), .val (.int (own_isInv b91 b91 p2 p2)), .val (.int xS0_188), .val (.int (1 : Int32))] [(.int (own_isInv b91 b91 p2 p2))])) (fun _ k => XS.iload X187.here hx rfl (hb hby at_177) rfl k) ?_
          refine own_go (T' := T187) (g' := (mkF m 182 #[.val (.int p0), .val (.int p1), .val (.int p2), .val (.int p3), .val (.ref xs_1), .val (.int xS0_12), .val (.ref b13), .val (.ref b35), .val (.ref b91), .val (.int (own_isInv b13 b35 p0 xS0_12)), .val (.int (own_isInv b35 b13 xS0_12 p0)), .val (.int (own_isInv b91 b91 p2 p2)), .val (.int xS0_188), .val (.int (1 : Int32))] [])) (fun _ k => XS.ifNo X187.here hx rfl (hb hby at_179) rfl (XT.i0_ne_f own_S) k) ?_
          refine own_go (T' := T187) (g' := (mkF m 183 #[.val (.int p0), .val (.int p1), .val (.int p2), .val (.int p3), .val (.ref xs_1), .val (.int xS0_12), .val (.ref b13), .val (.ref b35), .val (.ref b91), .val (.int (own_isInv b13 b35 p0 xS0_12)), .val (.int (own_isInv b35 b13 xS0_12 p0)), .val (.int (own_isInv b91 b91 p2 p2)), .val (.int xS0_188), .val (.int (1 : Int32))] [(.int (1 : Int32))])) (fun _ k => XS.iconst X187.here hx rfl (hb hby at_182) k) ?_
          refine own_go (T' := T187) (g' := (mkF m 187 #[.val (.int p0), .val (.int p1), .val (.int p2), .val (.int p3), .val (.ref xs_1), .val (.int xS0_12), .val (.ref b13), .val (.ref b35), .val (.ref b91), .val (.int (own_isInv b13 b35 p0 xS0_12)), .val (.int (own_isInv b35 b13 xS0_12 p0)), .val (.int (own_isInv b91 b91 p2 p2)), .val (.int xS0_188), .val (.int (1 : Int32))] [(.int (1 : Int32))])) (fun _ k => XS.goto X187.here hx rfl (pc0 := 183) (pc' := 187) rfl (hb hby at_183) (by decide) (by decide) k) ?_
          exact own_retN X187 hx (t := .boolean) Bd.returns hlk (by simp) (hb hby at_187) e187 ⟨rfl, N187⟩ (by decide) (by decide)
        by_cases hc149_191 : p0 < xS0_12
        · skip
          refine own_go (T' := T187) (g' := (mkF m 152 #[.val (.int p0), .val (.int p1), .val (.int p2), .val (.int p3), .val (.ref xs_1), .val (.int xS0_12), .val (.ref b13), .val (.ref b35), .val (.ref b91), .val (.int (own_isInv b13 b35 p0 xS0_12)), .val (.int (own_isInv b35 b13 xS0_12 p0)), .val (.int (own_isInv b91 b91 p2 p2)), .val (.int xS0_188), .unset] [(.int (own_isInv b35 b13 xS0_12 p0))])) (fun _ k => XS.icmpNo X187.here hx rfl (hb hby at_149) rfl (XT.ii_le_f hc149_191) k) ?_
          refine own_go (T' := T187) (g' := (mkF m 153 #[.val (.int p0), .val (.int p1), .val (.int p2), .val (.int p3), .val (.ref xs_1), .val (.int xS0_12), .val (.ref b13), .val (.ref b35), .val (.ref b91), .val (.int (own_isInv b13 b35 p0 xS0_12)), .val (.int (own_isInv b35 b13 xS0_12 p0)), .val (.int (own_isInv b91 b91 p2 p2)), .val (.int xS0_188), .unset] [(.int (1 : Int32)), (.int (own_isInv b35 b13 xS0_12 p0))])) (fun _ k => XS.iconst X187.here hx rfl (hb hby at_152) k) ?_
          refine own_go (T' := T187) (g' := (mkF m 157 #[.val (.int p0), .val (.int p1), .val (.int p2), .val (.int p3), .val (.ref xs_1), .val (.int xS0_12), .val (.ref b13), .val (.ref b35), .val (.ref b91), .val (.int (own_isInv b13 b35 p0 xS0_12)), .val (.int (own_isInv b35 b13 xS0_12 p0)), .val (.int (own_isInv b91 b91 p2 p2)), .val (.int xS0_188), .unset] [(.int (1 : Int32)), (.int (own_isInv b35 b13 xS0_12 p0))])) (fun _ k => XS.goto X187.here hx rfl (pc0 := 153) (pc' := 157) rfl (hb hby at_153) (by decide) (by decide) k) ?_
          exact J157_190 _ (by rw [if_pos hc149_191])
        · skip
          refine own_go (T' := T187) (g' := (mkF m 156 #[.val (.int p0), .val (.int p1), .val (.int p2), .val (.int p3), .val (.ref xs_1), .val (.int xS0_12), .val (.ref b13), .val (.ref b35), .val (.ref b91), .val (.int (own_isInv b13 b35 p0 xS0_12)), .val (.int (own_isInv b35 b13 xS0_12 p0)), .val (.int (own_isInv b91 b91 p2 p2)), .val (.int xS0_188), .unset] [(.int (own_isInv b35 b13 xS0_12 p0))])) (fun _ k => XS.icmpYes X187.here hx rfl (pc0 := 149) (pc' := 156) rfl (hb hby at_149) rfl (XT.ii_le_t hc149_191) (by decide) (by decide) k) ?_
          refine own_go (T' := T187) (g' := (mkF m 157 #[.val (.int p0), .val (.int p1), .val (.int p2), .val (.int p3), .val (.ref xs_1), .val (.int xS0_12), .val (.ref b13), .val (.ref b35), .val (.ref b91), .val (.int (own_isInv b13 b35 p0 xS0_12)), .val (.int (own_isInv b35 b13 xS0_12 p0)), .val (.int (own_isInv b91 b91 p2 p2)), .val (.int xS0_188), .unset] [(.int (0 : Int32)), (.int (own_isInv b35 b13 xS0_12 p0))])) (fun _ k => XS.iconst X187.here hx rfl (hb hby at_156) k) ?_
          exact J157_190 _ (by rw [if_neg hc149_191])
      by_cases hc133_192 : xS0_12 < p0
      · skip
        refine own_go (T' := T187) (g' := (mkF m 136 #[.val (.int p0), .val (.int p1), .val (.int p2), .val (.int p3), .val (.ref xs_1), .val (.int xS0_12), .val (.ref b13), .val (.ref b35), .val (.ref b91), .val (.int (own_isInv b13 b35 p0 xS0_12)), .val (.int (own_isInv b35 b13 xS0_12 p0)), .val (.int (own_isInv b91 b91 p2 p2)), .val (.int xS0_188), .unset] [(.int (own_isInv b13 b35 p0 xS0_12))])) (fun _ k => XS.icmpNo X187.here hx rfl (hb hby at_133) rfl (XT.ii_le_f hc133_192) k) ?_
        refine own_go (T' := T187) (g' := (mkF m 137 #[.val (.int p0), .val (.int p1), .val (.int p2), .val (.int p3), .val (.ref xs_1), .val (.int xS0_12), .val (.ref b13), .val (.ref b35), .val (.ref b91), .val (.int (own_isInv b13 b35 p0 xS0_12)), .val (.int (own_isInv b35 b13 xS0_12 p0)), .val (.int (own_isInv b91 b91 p2 p2)), .val (.int xS0_188), .unset] [(.int (1 : Int32)), (.int (own_isInv b13 b35 p0 xS0_12))])) (fun _ k => XS.iconst X187.here hx rfl (hb hby at_136) k) ?_
        refine own_go (T' := T187) (g' := (mkF m 141 #[.val (.int p0), .val (.int p1), .val (.int p2), .val (.int p3), .val (.ref xs_1), .val (.int xS0_12), .val (.ref b13), .val (.ref b35), .val (.ref b91), .val (.int (own_isInv b13 b35 p0 xS0_12)), .val (.int (own_isInv b35 b13 xS0_12 p0)), .val (.int (own_isInv b91 b91 p2 p2)), .val (.int xS0_188), .unset] [(.int (1 : Int32)), (.int (own_isInv b13 b35 p0 xS0_12))])) (fun _ k => XS.goto X187.here hx rfl (pc0 := 137) (pc' := 141) rfl (hb hby at_137) (by decide) (by decide) k) ?_
        exact J141_189 _ (by rw [if_pos hc133_192])
      · skip
        refine own_go (T' := T187) (g' := (mkF m 140 #[.val (.int p0), .val (.int p1), .val (.int p2), .val (.int p3), .val (.ref xs_1), .val (.int xS0_12), .val (.ref b13), .val (.ref b35), .val (.ref b91), .val (.int (own_isInv b13 b35 p0 xS0_12)), .val (.int (own_isInv b35 b13 xS0_12 p0)), .val (.int (own_isInv b91 b91 p2 p2)), .val (.int xS0_188), .unset] [(.int (own_isInv b13 b35 p0 xS0_12))])) (fun _ k => XS.icmpYes X187.here hx rfl (pc0 := 133) (pc' := 140) rfl (hb hby at_133) rfl (XT.ii_le_t hc133_192) (by decide) (by decide) k) ?_
        refine own_go (T' := T187) (g' := (mkF m 141 #[.val (.int p0), .val (.int p1), .val (.int p2), .val (.int p3), .val (.ref xs_1), .val (.int xS0_12), .val (.ref b13), .val (.ref b35), .val (.ref b91), .val (.int (own_isInv b13 b35 p0 xS0_12)), .val (.int (own_isInv b35 b13 xS0_12 p0)), .val (.int (own_isInv b91 b91 p2 p2)), .val (.int xS0_188), .unset] [(.int (0 : Int32)), (.int (own_isInv b13 b35 p0 xS0_12))])) (fun _ k => XS.iconst X187.here hx rfl (hb hby at_140) k) ?_
        exact J141_189 _ (by rw [if_neg hc133_192])
    by_cases hc118_193 : (own_isInv b13 b35 p0 xS0_12) = (own_isInv b35 b13 xS0_12 p0)
    · skip
      refine own_go (T' := T187) (g' := (mkF m 125 #[.val (.int p0), .val (.int p1), .val (.int p2), .val (.int p3), .val (.ref xs_1), .val (.int xS0_12), .val (.ref b13), .val (.ref b35), .val (.ref b91), .val (.int (own_isInv b13 b35 p0 xS0_12)), .val (.int (own_isInv b35 b13 xS0_12 p0)), .val (.int (own_isInv b91 b91 p2 p2)), .unset, .unset] [])) (fun _ k => XS.icmpYes X187.here hx rfl (pc0 := 118) (pc' := 125) rfl (hb hby at_118) rfl (XT.ii_eq_t hc118_193) (by decide) (by decide) k) ?_
      refine own_go (T' := T187) (g' := (mkF m 126 #[.val (.int p0), .val (.int p1), .val (.int p2), .val (.int p3), .val (.ref xs_1), .val (.int xS0_12), .val (.ref b13), .val (.ref b35), .val (.ref b91), .val (.int (own_isInv b13 b35 p0 xS0_12)), .val (.int (own_isInv b35 b13 xS0_12 p0)), .val (.int (own_isInv b91 b91 p2 p2)), .unset, .unset] [(.int (0 : Int32))])) (fun _ k => XS.iconst X187.here hx rfl (hb hby at_125) k) ?_
      exact J126_188 _ (by rw [if_pos hc118_193])
    · skip
      refine own_go (T' := T187) (g' := (mkF m 121 #[.val (.int p0), .val (.int p1), .val (.int p2), .val (.int p3), .val (.ref xs_1), .val (.int xS0_12), .val (.ref b13), .val (.ref b35), .val (.ref b91), .val (.int (own_isInv b13 b35 p0 xS0_12)), .val (.int (own_isInv b35 b13 xS0_12 p0)), .val (.int (own_isInv b91 b91 p2 p2)), .unset, .unset] [])) (fun _ k => XS.icmpNo X187.here hx rfl (hb hby at_118) rfl (XT.ii_eq_f hc118_193) k) ?_
      refine own_go (T' := T187) (g' := (mkF m 122 #[.val (.int p0), .val (.int p1), .val (.int p2), .val (.int p3), .val (.ref xs_1), .val (.int xS0_12), .val (.ref b13), .val (.ref b35), .val (.ref b91), .val (.int (own_isInv b13 b35 p0 xS0_12)), .val (.int (own_isInv b35 b13 xS0_12 p0)), .val (.int (own_isInv b91 b91 p2 p2)), .unset, .unset] [(.int (1 : Int32))])) (fun _ k => XS.iconst X187.here hx rfl (hb hby at_121) k) ?_
      refine own_go (T' := T187) (g' := (mkF m 126 #[.val (.int p0), .val (.int p1), .val (.int p2), .val (.int p3), .val (.ref xs_1), .val (.int xS0_12), .val (.ref b13), .val (.ref b35), .val (.ref b91), .val (.int (own_isInv b13 b35 p0 xS0_12)), .val (.int (own_isInv b35 b13 xS0_12 p0)), .val (.int (own_isInv b91 b91 p2 p2)), .unset, .unset] [(.int (1 : Int32))])) (fun _ k => XS.goto X187.here hx rfl (pc0 := 122) (pc' := 126) rfl (hb hby at_122) (by decide) (by decide) k) ?_
      exact J126_188 _ (by rw [if_neg hc118_193])
  by_cases hc13_194 : p1 = p0
  · skip
    refine own_go (T' := T1) (g' := (mkF m 16 #[.val (.int p0), .val (.int p1), .val (.int p2), .val (.int p3), .val (.ref xs_1), .unset, .unset, .unset, .unset, .unset, .unset, .unset, .unset, .unset] [])) (fun _ k => XS.icmpNo X1.here hx rfl (hb hby at_13) rfl (XT.ii_ne_f hc13_194) k) ?_
    refine own_go (T' := T1) (g' := (mkF m 17 #[.val (.int p0), .val (.int p1), .val (.int p2), .val (.int p3), .val (.ref xs_1), .unset, .unset, .unset, .unset, .unset, .unset, .unset, .unset, .unset] [(.int p0)])) (fun _ k => XS.iloadN X1.here hx rfl (hb hby at_16) rfl k) ?_
    refine own_go (T' := T1) (g' := (mkF m 18 #[.val (.int p0), .val (.int p1), .val (.int p2), .val (.int p3), .val (.ref xs_1), .unset, .unset, .unset, .unset, .unset, .unset, .unset, .unset, .unset] [(.int (1 : Int32)), (.int p0)])) (fun _ k => XS.iconst X1.here hx rfl (hb hby at_17) k) ?_
    refine own_go (T' := T1) (g' := (mkF m 19 #[.val (.int p0), .val (.int p1), .val (.int p2), .val (.int p3), .val (.ref xs_1), .unset, .unset, .unset, .unset, .unset, .unset, .unset, .unset, .unset] [(.int (p0 + (1 : Int32)))])) (fun _ k => XS.iadd X1.here hx rfl (hb hby at_18) rfl k) ?_
    refine own_go (T' := T1) (g' := (mkF m 23 #[.val (.int p0), .val (.int p1), .val (.int p2), .val (.int p3), .val (.ref xs_1), .unset, .unset, .unset, .unset, .unset, .unset, .unset, .unset, .unset] [(.int (p0 + (1 : Int32)))])) (fun _ k => XS.goto X1.here hx rfl (pc0 := 19) (pc' := 23) rfl (hb hby at_19) (by decide) (by decide) k) ?_
    exact J23_12 _ (by rw [if_pos hc13_194])
  · skip
    refine own_go (T' := T1) (g' := (mkF m 22 #[.val (.int p0), .val (.int p1), .val (.int p2), .val (.int p3), .val (.ref xs_1), .unset, .unset, .unset, .unset, .unset, .unset, .unset, .unset, .unset] [])) (fun _ k => XS.icmpYes X1.here hx rfl (pc0 := 13) (pc' := 22) rfl (hb hby at_13) rfl (XT.ii_ne_t hc13_194) (by decide) (by decide) k) ?_
    refine own_go (T' := T1) (g' := (mkF m 23 #[.val (.int p0), .val (.int p1), .val (.int p2), .val (.int p3), .val (.ref xs_1), .unset, .unset, .unset, .unset, .unset, .unset, .unset, .unset, .unset] [(.int p1)])) (fun _ k => XS.iloadN X1.here hx rfl (hb hby at_22) rfl k) ?_
    exact J23_12 _ (by rw [if_neg hc13_194])
set_option maxRecDepth 65536 in
set_option maxHeartbeats 40000000 in
theorem comes_1 {Post : Tables → Env → Array Value → State → Outcome → State → Prop} (hpost : ∀ tb e args s v u, (limb_1_1.after args s (.returned v) u = true ∧ limb_1_2.after args s (.returned v) u = true ∧ True) → FrameEnd s (.returned v) u (Jvm.fieldLocs frame_1_writes args s ++ Jvm.arrayLocs frame_1_arrays args s ++ Jvm.staticLocs frame_1_statics s) 24 128 → Post tb e args s (.returned v) u) :
    ArmFor flags0 classFile x code maxLocals ret World_1 tables_1 room_1 Calls_1 rest_1 Pre_1 Post := by
  intro l hfl _ _ p e ha hc hk s m args below hf hA hF happ hP
  obtain ⟨hcalls, hrest, hpre⟩ := hP
  obtain ⟨-, -, -, hnamed, -, -, -, hat⟩ := (Spec.applies_iff hf).mp happ
  obtain ⟨hg, hn⟩ := and_e (Cond.before_iff.mp (show (Jvm.Cond.and given_1 narrow_1).before args s = true from hpre))
  obtain ⟨g1, g2⟩ := and_e hg
  obtain ⟨g3, g4⟩ := and_e g2
  obtain ⟨g5, g6⟩ := and_e g4
  obtain ⟨g7, g8⟩ := and_e g6
  obtain ⟨w0, w1, w2, w3, rfl⟩ : ∃ w0 w1 w2 w3 : Value, args = #[w0, w1, w2, w3] := by
    have hs : args.size = 4 := by simpa [Cond.value, given_1] using g1
    obtain ⟨L⟩ := args
    match L, hs with
    | [w0, w1, w2, w3], _ => exact ⟨w0, w1, w2, w3, rfl⟩
  have hw := fun d (hd : d ∈ tables_1) => atoms_spec (ws := Jvm.Cond.code x code maxLocals ret :: tables_1) hat d (List.mem_cons_of_mem _ hd)
  have hfit : Fit s := fun {y c} hc i hi => by
    obtain ⟨ha, rfl⟩ := Array.getElem?_eq_some_iff.mp hc
    have q := List.all_eq_true.mp ((Array.all_eq_true_iff_forall_mem.mp hF) _ (Array.getElem_mem ha)) i (List.mem_range.mpr hi)
    simpa [Array.getElem?_eq_getElem hi] using q
  obtain ⟨hsets, hown0⟩ := atoms_of _ (rest_1_c_eq ▸ (show rest_1_c.before _ s = true from hrest))
  have hr0 := Cond.before_iff.mp hown0
  obtain ⟨i0, ei0⟩ := is_v g3
  obtain rfl : w0 = (.int i0) := Option.some.inj ei0
  obtain ⟨i1, ei1⟩ := is_v g5
  obtain rfl : w1 = (.int i1) := Option.some.inj ei1
  obtain ⟨i2, ei2⟩ := is_v g7
  obtain rfl : w2 = (.int i2) := Option.some.inj ei2
  obtain ⟨i3, ei3⟩ := is_v g8
  obtain rfl : w3 = (.int i3) := Option.some.inj ei3
  obtain ⟨csv, ecs⟩ := is_v (Cond.before_iff.mp (hsets _ (List.mem_of_getElem? (i := 1) rfl)))
  have Scs : Sta s s.heap "java/lang/String" "COMPACT_STRINGS" "Z" (.int csv) := Sta.start ecs (Or.inl (hsets _ (List.mem_of_getElem? (i := 0) rfl)))
  have ncs : ¬ csv = (0 : Int32) := gotF (Cond.eq_ints ecs (Term.int_eval (0))) (not_v (Cond.before_iff.mp (hsets _ (List.mem_of_getElem? (i := 2) rfl))))
  obtain ⟨n, o, h1, h2, h3, _, L, rfl, ⟨rfl, N⟩, hq⟩ := rm0 l s _ hw tables_1 i0 i1 i2 i3 csv s.heap s.heap.size (Nat.le_refl _) Scs ncs p e ha hc hk s m _ below hf ((Spec.applies_iff_loose hf).mp happ).1 ⟨rfl, State.Warmed39.refl s, rfl⟩ trivial
  refine ⟨n, _, h1, h2, h3, hpost _ _ _ _ _ _ ⟨Cond.after_iff.mpr rfl, Cond.after_iff.mpr (eq_i res_at (Term.int_eval (1)) rfl), trivial⟩ ⟨hq.1, hq.2.1, (hq.2.2.sift fun y hy => Or.inr (N y hy)).mono (by decide) (by decide)⟩⟩
theorem main_1_1 : Claimed_1_1 := comes_1 fun _ _ _ _ _ _ h hF => ⟨h.1, hF⟩
theorem main_1_2 : Claimed_1_2 := comes_1 fun _ _ _ _ _ _ h hF => ⟨h.2.1, hF⟩
end Jvm.Pilot.@@N@@
namespace Jvm.Pilot.@@N@@
open Jvm Jvm.ClassFile Sem Op Lib Jvm.Free Jvm.Stand Jvm.Pilot.@@N@@.Jvm.D
/-! MADE BY PROGRAM (witnessworld.py) out of the Statement's table words and the real class files: 15 classes; the members and pool entries that the words name. The judged class is class 1, her method 1. -/
namespace start1
open Jvm.ClassFile
def u (s : String) : CpInfo := .utf8 (stringToUtf16 s)
/-- a pool by its gaps: so many unusable entries, then the entry; so many at the end -/
def gap : Nat → List CpInfo → List CpInfo
  | 0, r => r
  | n + 1, r => .unusable :: gap n r
def poolList (es : List (Nat × CpInfo)) (last : Nat) : List CpInfo := es.foldr (fun e r => gap e.1 (e.2 :: r)) (gap last [])
def pool (es : List (Nat × CpInfo)) (last : Nat) : Array CpInfo := ⟨poolList es last⟩
def fileOf (pool : Array CpInfo) (this : Nat) (attrs : Array Attribute := #[]) (ms : Array MethodInfo := #[]) (fl : Nat := 33) (sup : Nat := 0) (ifs : Array Nat := #[]) (fds : Array FieldInfo := #[]) : ClassFile where
  minorVersion := 0
  majorVersion := 65
  constantPool := pool
  accessFlags := fl
  thisClass := this
  superClass := sup
  interfaces := ifs
  fields := fds
  methods := ms
  attributes := attrs
def plain (name : String) (sup : Option ClassId) : Class where
  name := name
  kind := .ordinary
  loader := none
  accessFlags := 33
  super := sup
  interfaces := #[]
  cf := none
  fields := #[]
  methods := #[]
  instanceTypes := #[]
  staticTypes := #[]
  resolved := #[]
  callSites := []
  init := .initialized
  statics := none
  mirror := none

def pool0 : Array CpInfo := pool [(5, u "<init>"), (0, u "()V"), (1, .class_ 10), (1, u "java/lang/Object")] 113

def k0c0 : Code := { maxStack := 0, maxLocals := 1, code := object_method_1_code, exceptionTable := #[], attributes := #[] }
def k0m0 : Method := { name := "<init>", desc := "()V", sig := { parameters := [], returnType := none }, accessFlags := 1, code := some k0c0 }
/-- java/lang/Object -/
def k0 : Class := { plain "java/lang/Object" none with
  accessFlags := 33
  interfaces := #[]
  cf := some (fileOf pool0 8 #[] #[{ accessFlags := 1, nameIndex := 5, descriptorIndex := 6, attributes := #[] }] 33 0 #[] #[])
  fields := #[]
  methods := #[k0m0]
  instanceTypes := #[]
  staticTypes := #[]
  resolved := Array.replicate 124 none
  statics := none }

def pool1 : Array CpInfo := pool [(2, .class_ 4), (1, u "java/lang/Object"), (0, u "<init>"), (0, u "()V"), (0, .methodref 8 9), (0, .class_ 10), (0, .nameAndType 11 12), (0, u "java/lang/String"), (0, u "valueOf"), (0, u "(C)Ljava/lang/String;"), (0, .class_ 14), (0, u "com/example/cardinal_tableau/cardinaltableau/model/Role"), (0, .methodref 13 16), (0, .nameAndType 5 17), (0, u "(ILjava/lang/String;)V"), (0, .methodref 13 19), (0, .nameAndType 20 21), (0, u "setInverse"), (0, u "(Lcom/example/cardinal_tableau/cardinaltableau/model/Role;)V"), (0, .methodref 13 23), (0, .nameAndType 24 25), (0, u "isInverse"), (0, u "()Z"), (0, .class_ 27), (0, u "com/example/cardinal_tableau/cardinaltableau/model/RoleIsInversePinLaw"), (2, u "law"), (0, u "(IIII)Z")] 3

def k1m0 : Method := { name := "<init>", desc := "()V", sig := { parameters := [], returnType := none }, accessFlags := 1, code := none }
def k1c1 : Code := { maxStack := 5, maxLocals := 14, code := code, exceptionTable := #[], attributes := #[] }
def k1m1 : Method := { name := "law", desc := "(IIII)Z", sig := { parameters := [.int, .int, .int, .int], returnType := some .boolean }, accessFlags := 9, code := some k1c1 }
/-- com/example/cardinal_tableau/cardinaltableau/model/RoleIsInversePinLaw -/
def k1 : Class := { plain "com/example/cardinal_tableau/cardinaltableau/model/RoleIsInversePinLaw" (some 0) with
  accessFlags := 49
  interfaces := #[]
  cf := some (fileOf pool1 26 #[] #[{ accessFlags := 1, nameIndex := 5, descriptorIndex := 6, attributes := #[] }, { accessFlags := 9, nameIndex := 30, descriptorIndex := 31, attributes := #[] }] 49 2 #[] #[])
  fields := #[]
  methods := #[k1m0, k1m1]
  instanceTypes := #[]
  staticTypes := #[]
  resolved := Array.replicate 35 none
  statics := none }

def pool2 : Array CpInfo := pool [(1, .class_ 2), (0, u "java/io/Serializable"), (0, .class_ 4), (0, u "java/lang/Object")] 2

/-- java/io/Serializable -/
def k2 : Class := { plain "java/io/Serializable" (some 0) with
  accessFlags := 1537
  interfaces := #[]
  cf := some (fileOf pool2 1 #[] #[] 1537 3 #[] #[])
  fields := #[]
  methods := #[]
  instanceTypes := #[]
  staticTypes := #[]
  resolved := Array.replicate 7 none
  statics := none }

def pool3 : Array CpInfo := pool [(1, .class_ 2), (0, u "java/lang/Comparable"), (0, .class_ 4), (0, u "java/lang/Object")] 7

/-- java/lang/Comparable -/
def k3 : Class := { plain "java/lang/Comparable" (some 0) with
  accessFlags := 1537
  interfaces := #[]
  cf := some (fileOf pool3 1 #[] #[] 1537 3 #[] #[])
  fields := #[]
  methods := #[]
  instanceTypes := #[]
  staticTypes := #[]
  resolved := Array.replicate 12 none
  statics := none }

def pool4 : Array CpInfo := pool [(2, .class_ 4), (1, u "java/lang/CharSequence"), (42, .class_ 48), (0, u "java/lang/CharSequence$1CodePointIterator"), (10, .class_ 60), (0, u "java/lang/CharSequence$1CharIterator"), (5, .class_ 67), (0, u "java/lang/Object")] 63

/-- java/lang/CharSequence -/
def k4 : Class := { plain "java/lang/CharSequence" (some 0) with
  accessFlags := 1537
  interfaces := #[]
  cf := some (fileOf pool4 2 #[.nestMembers #[47, 59]] #[] 1537 66 #[] #[])
  fields := #[]
  methods := #[]
  instanceTypes := #[]
  staticTypes := #[]
  resolved := Array.replicate 131 none
  statics := none }

def pool5 : Array CpInfo := pool [(1, .class_ 2), (0, u "java/lang/constant/Constable"), (0, .class_ 4), (0, u "java/lang/Object")] 6

/-- java/lang/constant/Constable -/
def k5 : Class := { plain "java/lang/constant/Constable" (some 0) with
  accessFlags := 1537
  interfaces := #[]
  cf := some (fileOf pool5 1 #[] #[] 1537 3 #[] #[])
  fields := #[]
  methods := #[]
  instanceTypes := #[]
  staticTypes := #[]
  resolved := Array.replicate 11 none
  statics := none }

def pool6 : Array CpInfo := pool [(1, .class_ 2), (0, u "java/lang/constant/ConstantDesc"), (0, .class_ 4), (0, u "java/lang/Object")] 32

/-- java/lang/constant/ConstantDesc -/
def k6 : Class := { plain "java/lang/constant/ConstantDesc" (some 0) with
  accessFlags := 1537
  interfaces := #[]
  cf := some (fileOf pool6 1 #[] #[] 1537 3 #[] #[])
  fields := #[]
  methods := #[]
  instanceTypes := #[]
  staticTypes := #[]
  resolved := Array.replicate 37 none
  statics := none }

def pool7 : Array CpInfo := pool [(1, .methodref 2 3), (0, .class_ 4), (0, .nameAndType 5 6), (0, u "java/lang/Object"), (0, u "<init>"), (0, u "()V"), (2, .fieldref 10 11), (0, .class_ 12), (0, .nameAndType 13 14), (0, u "java/lang/String"), (0, u "value"), (0, u "[B"), (0, .fieldref 10 16), (0, .nameAndType 17 18), (0, u "coder"), (0, u "B"), (2, u "hash"), (0, u "I"), (2, u "hashIsZero"), (0, u "Z"), (11, .fieldref 10 39), (0, .nameAndType 40 26), (0, u "COMPACT_STRINGS"), (12, u "toBytes"), (53, .class_ 109), (1, u "java/lang/StringLatin1"), (99, .methodref 10 210), (0, .nameAndType 5 211), (0, u "([BB)V"), (157, u "(C)Z"), (205, .class_ 576), (0, u "java/lang/CharSequence"), (22, u "CASE_INSENSITIVE_ORDER"), (0, u "Ljava/util/Comparator;"), (181, u "valueOf"), (0, u "(C)Ljava/lang/String;"), (231, .methodref 107 1016), (0, .nameAndType 1017 369), (0, u "canEncode"), (0, .methodref 107 1019), (0, .nameAndType 53 1020), (0, u "(C)[B"), (80, u "serialPersistentFields"), (0, u "[Ljava/io/ObjectStreamField;"), (0, .class_ 1104), (0, u "java/lang/String$CaseInsensitiveComparator"), (1, .class_ 1107), (0, u "java/io/Serializable"), (0, .class_ 1109), (0, u "java/lang/Comparable"), (0, .class_ 1111), (0, u "java/lang/constant/Constable"), (0, .class_ 1113), (0, u "java/lang/constant/ConstantDesc"), (2, u "serialVersionUID"), (0, u "J"), (3, u "REPL"), (0, u "C"), (2, u "LATIN1"), (1, u "UTF16")] 323

def k7m0 : Method := { name := "<init>", desc := "()V", sig := { parameters := [], returnType := none }, accessFlags := 1, code := none }
def k7c1 : Code := { maxStack := 4, maxLocals := 1, code := jdk_42_method_139_code, exceptionTable := #[], attributes := #[] }
def k7m1 : Method := { name := "valueOf", desc := "(C)Ljava/lang/String;", sig := { parameters := [.char], returnType := some (.object "java/lang/String") }, accessFlags := 9, code := some k7c1 }
def k7c2 : Code := { maxStack := 2, maxLocals := 3, code := jdk_42_method_151_code, exceptionTable := #[], attributes := #[] }
def k7m2 : Method := { name := "<init>", desc := "([BB)V", sig := { parameters := [(.array .byte), .byte], returnType := none }, accessFlags := 0, code := some k7c2 }
/-- java/lang/String -/
def k7 : Class := { plain "java/lang/String" (some 0) with
  accessFlags := 49
  interfaces := #[2, 3, 4, 5, 6]
  cf := some (fileOf pool7 10 #[.nestMembers #[1103]] #[{ accessFlags := 1, nameIndex := 5, descriptorIndex := 6, attributes := #[] }, { accessFlags := 9, nameIndex := 782, descriptorIndex := 783, attributes := #[] }, { accessFlags := 0, nameIndex := 5, descriptorIndex := 211, attributes := #[] }] 49 2 #[1106, 1108, 575, 1110, 1112] #[{ accessFlags := 18, nameIndex := 13, descriptorIndex := 14, attributes := #[] }, { accessFlags := 18, nameIndex := 17, descriptorIndex := 18, attributes := #[] }, { accessFlags := 2, nameIndex := 21, descriptorIndex := 22, attributes := #[] }, { accessFlags := 2, nameIndex := 25, descriptorIndex := 26, attributes := #[] }, { accessFlags := 26, nameIndex := 1116, descriptorIndex := 1117, attributes := #[] }, { accessFlags := 24, nameIndex := 40, descriptorIndex := 26, attributes := #[] }, { accessFlags := 26, nameIndex := 1101, descriptorIndex := 1102, attributes := #[] }, { accessFlags := 26, nameIndex := 1121, descriptorIndex := 1122, attributes := #[] }, { accessFlags := 25, nameIndex := 599, descriptorIndex := 600, attributes := #[] }, { accessFlags := 24, nameIndex := 1125, descriptorIndex := 18, attributes := #[] }, { accessFlags := 24, nameIndex := 1127, descriptorIndex := 18, attributes := #[] }])
  fields := #[{ name := "value", type := (.array .byte), accessFlags := 18, slot := 0, constantValue := 0 }, { name := "coder", type := .byte, accessFlags := 18, slot := 1, constantValue := 0 }, { name := "hash", type := .int, accessFlags := 2, slot := 2, constantValue := 0 }, { name := "hashIsZero", type := .boolean, accessFlags := 2, slot := 3, constantValue := 0 }, { name := "serialVersionUID", type := .long, accessFlags := 26, slot := 0, constantValue := 0 }, { name := "COMPACT_STRINGS", type := .boolean, accessFlags := 24, slot := 1, constantValue := 0 }, { name := "serialPersistentFields", type := (.array (.object "java/io/ObjectStreamField")), accessFlags := 26, slot := 2, constantValue := 0 }, { name := "REPL", type := .char, accessFlags := 26, slot := 3, constantValue := 0 }, { name := "CASE_INSENSITIVE_ORDER", type := (.object "java/util/Comparator"), accessFlags := 25, slot := 4, constantValue := 0 }, { name := "LATIN1", type := .byte, accessFlags := 24, slot := 5, constantValue := 0 }, { name := "UTF16", type := .byte, accessFlags := 24, slot := 6, constantValue := 0 }]
  methods := #[k7m0, k7m1, k7m2]
  instanceTypes := #[(.array .byte), .byte, .int, .boolean]
  staticTypes := #[.long, .boolean, (.array (.object "java/io/ObjectStreamField")), .char, (.object "java/util/Comparator"), .byte, .byte]
  resolved := Array.replicate 1451 none
  statics := some 0 }

def pool8 : Array CpInfo := pool [(4, .class_ 6), (1, u "java/lang/Object"), (0, u "<init>"), (0, u "()V"), (5, .class_ 16), (1, u "java/lang/StringLatin1"), (73, u "canEncode"), (14, u "(C)Z"), (15, u "$assertionsDisabled"), (0, u "Z"), (98, .class_ 223), (1, u "java/lang/StringLatin1$LinesSpliterator"), (156, u "toBytes"), (1, u "(C)[B"), (7, .class_ 391), (0, u "java/lang/StringLatin1$CharsSpliterator")] 3

def k8m0 : Method := { name := "<init>", desc := "()V", sig := { parameters := [], returnType := none }, accessFlags := 0, code := none }
def k8c1 : Code := { maxStack := 2, maxLocals := 1, code := jdk_43_method_3_code, exceptionTable := #[], attributes := #[] }
def k8m1 : Method := { name := "canEncode", desc := "(C)Z", sig := { parameters := [.char], returnType := some .boolean }, accessFlags := 9, code := some k8c1 }
def k8c2 : Code := { maxStack := 4, maxLocals := 1, code := jdk_43_method_46_code, exceptionTable := #[], attributes := #[] }
def k8m2 : Method := { name := "toBytes", desc := "(C)[B", sig := { parameters := [.char], returnType := some (.array .byte) }, accessFlags := 9, code := some k8c2 }
/-- java/lang/StringLatin1 -/
def k8 : Class := { plain "java/lang/StringLatin1" (some 0) with
  accessFlags := 48
  interfaces := #[]
  cf := some (fileOf pool8 14 #[.nestMembers #[390, 221]] #[{ accessFlags := 0, nameIndex := 7, descriptorIndex := 8, attributes := #[] }, { accessFlags := 9, nameIndex := 90, descriptorIndex := 105, attributes := #[] }, { accessFlags := 9, nameIndex := 380, descriptorIndex := 382, attributes := #[] }] 48 4 #[] #[{ accessFlags := 4120, nameIndex := 121, descriptorIndex := 122, attributes := #[] }])
  fields := #[{ name := "$assertionsDisabled", type := .boolean, accessFlags := 4120, slot := 0, constantValue := 0 }]
  methods := #[k8m0, k8m1, k8m2]
  instanceTypes := #[]
  staticTypes := #[.boolean]
  resolved := Array.replicate 395 none
  statics := none }

def pool9 : Array CpInfo := pool [(1, .methodref 2 3), (0, .class_ 4), (0, .nameAndType 5 6), (0, u "java/lang/Object"), (0, u "<init>"), (0, u "()V"), (0, .fieldref 8 9), (0, .class_ 10), (0, .nameAndType 11 12), (0, u "com/example/cardinal_tableau/cardinaltableau/model/Role"), (0, u "id"), (0, u "I"), (0, .fieldref 8 14), (0, .nameAndType 15 16), (0, u "iri"), (0, u "Ljava/lang/String;"), (0, .fieldref 8 18), (0, .nameAndType 19 20), (0, u "inverse"), (0, u "Lcom/example/cardinal_tableau/cardinaltableau/model/Role;"), (14, u "()Z"), (16, u "isInverse"), (1, u "(ILjava/lang/String;)V"), (8, u "setInverse"), (0, u "(Lcom/example/cardinal_tableau/cardinaltableau/model/Role;)V")] 27

def k9c0 : Code := { maxStack := 2, maxLocals := 3, code := prog_21_method_1_code, exceptionTable := #[], attributes := #[] }
def k9m0 : Method := { name := "<init>", desc := "(ILjava/lang/String;)V", sig := { parameters := [.int, (.object "java/lang/String")], returnType := none }, accessFlags := 0, code := some k9c0 }
def k9c1 : Code := { maxStack := 2, maxLocals := 2, code := prog_21_method_5_code, exceptionTable := #[], attributes := #[] }
def k9m1 : Method := { name := "setInverse", desc := "(Lcom/example/cardinal_tableau/cardinaltableau/model/Role;)V", sig := { parameters := [(.object "com/example/cardinal_tableau/cardinaltableau/model/Role")], returnType := none }, accessFlags := 0, code := some k9c1 }
def k9c2 : Code := { maxStack := 2, maxLocals := 1, code := prog_21_method_7_code, exceptionTable := #[], attributes := #[] }
def k9m2 : Method := { name := "isInverse", desc := "()Z", sig := { parameters := [], returnType := some .boolean }, accessFlags := 1, code := some k9c2 }
/-- com/example/cardinal_tableau/cardinaltableau/model/Role -/
def k9 : Class := { plain "com/example/cardinal_tableau/cardinaltableau/model/Role" (some 0) with
  accessFlags := 49
  interfaces := #[]
  cf := some (fileOf pool9 8 #[] #[{ accessFlags := 0, nameIndex := 5, descriptorIndex := 54, attributes := #[] }, { accessFlags := 0, nameIndex := 63, descriptorIndex := 64, attributes := #[] }, { accessFlags := 1, nameIndex := 52, descriptorIndex := 35, attributes := #[] }] 49 2 #[] #[{ accessFlags := 18, nameIndex := 11, descriptorIndex := 12, attributes := #[] }, { accessFlags := 18, nameIndex := 15, descriptorIndex := 16, attributes := #[] }, { accessFlags := 2, nameIndex := 19, descriptorIndex := 20, attributes := #[] }])
  fields := #[{ name := "id", type := .int, accessFlags := 18, slot := 0, constantValue := 0 }, { name := "iri", type := (.object "java/lang/String"), accessFlags := 18, slot := 1, constantValue := 0 }, { name := "inverse", type := (.object "com/example/cardinal_tableau/cardinaltableau/model/Role"), accessFlags := 2, slot := 2, constantValue := 0 }]
  methods := #[k9m0, k9m1, k9m2]
  instanceTypes := #[.int, (.object "java/lang/String"), (.object "com/example/cardinal_tableau/cardinaltableau/model/Role")]
  staticTypes := #[]
  resolved := Array.replicate 92 none
  statics := none }

def pool10 : Array CpInfo := pool [(2, .class_ 4), (1, u "java/lang/Object"), (0, u "<init>"), (0, u "()V"), (17, .class_ 26), (1, u "jdk/internal/util/Preconditions"), (28, .class_ 56), (0, u "jdk/internal/util/Preconditions$4"), (57, .class_ 115), (0, u "jdk/internal/util/Preconditions$1"), (7, u "SIOOBE_FORMATTER"), (0, u "Ljava/util/function/BiFunction;"), (0, .class_ 126), (0, u "jdk/internal/util/Preconditions$2"), (3, u "AIOOBE_FORMATTER"), (0, .class_ 132), (0, u "jdk/internal/util/Preconditions$3"), (3, u "IOOBE_FORMATTER")] 57

def k10m0 : Method := { name := "<init>", desc := "()V", sig := { parameters := [], returnType := none }, accessFlags := 1, code := none }
/-- jdk/internal/util/Preconditions -/
def k10 : Class := { plain "jdk/internal/util/Preconditions" (some 0) with
  accessFlags := 33
  interfaces := #[]
  cf := some (fileOf pool10 24 #[.nestMembers #[55, 131, 125, 114]] #[{ accessFlags := 1, nameIndex := 5, descriptorIndex := 6, attributes := #[] }] 33 2 #[] #[{ accessFlags := 25, nameIndex := 123, descriptorIndex := 124, attributes := #[] }, { accessFlags := 25, nameIndex := 130, descriptorIndex := 124, attributes := #[] }, { accessFlags := 25, nameIndex := 136, descriptorIndex := 124, attributes := #[] }])
  fields := #[{ name := "SIOOBE_FORMATTER", type := (.object "java/util/function/BiFunction"), accessFlags := 25, slot := 0, constantValue := 0 }, { name := "AIOOBE_FORMATTER", type := (.object "java/util/function/BiFunction"), accessFlags := 25, slot := 1, constantValue := 0 }, { name := "IOOBE_FORMATTER", type := (.object "java/util/function/BiFunction"), accessFlags := 25, slot := 2, constantValue := 0 }]
  methods := #[k10m0]
  instanceTypes := #[]
  staticTypes := #[(.object "java/util/function/BiFunction"), (.object "java/util/function/BiFunction"), (.object "java/util/function/BiFunction")]
  resolved := Array.replicate 194 none
  statics := some 1 }

def pool11 : Array CpInfo := pool [(9, u "<init>"), (6, .class_ 18), (1, u "java/lang/Object"), (0, u "()V"), (1, .class_ 23), (1, u "jdk/internal/util/ArraysSupport"), (0, u "LOG2_ARRAY_LONG_INDEX_SCALE"), (0, u "I"), (2, u "U"), (0, u "Ljdk/internal/misc/Unsafe;"), (8, u "BIG_ENDIAN"), (0, u "Z"), (8, u "LOG2_BYTE_BIT_SIZE"), (4, u "LOG2_ARRAY_INT_INDEX_SCALE"), (54, u "JLA"), (0, u "Ljdk/internal/access/JavaLangAccess;"), (11, u "LOG2_ARRAY_BOOLEAN_INDEX_SCALE"), (9, u "LOG2_ARRAY_BYTE_INDEX_SCALE"), (5, u "LOG2_ARRAY_CHAR_INDEX_SCALE"), (5, u "LOG2_ARRAY_SHORT_INDEX_SCALE"), (18, u "LOG2_ARRAY_FLOAT_INDEX_SCALE"), (24, u "LOG2_ARRAY_DOUBLE_INDEX_SCALE"), (89, u "T_BOOLEAN"), (2, u "T_CHAR"), (1, u "T_FLOAT"), (1, u "T_DOUBLE"), (1, u "T_BYTE"), (1, u "T_SHORT"), (1, u "T_INT"), (1, u "T_LONG"), (1, u "SOFT_MAX_ARRAY_LENGTH")] 83

def k11m0 : Method := { name := "<init>", desc := "()V", sig := { parameters := [], returnType := none }, accessFlags := 2, code := none }
/-- jdk/internal/util/ArraysSupport -/
def k11 : Class := { plain "jdk/internal/util/ArraysSupport" (some 0) with
  accessFlags := 33
  interfaces := #[]
  cf := some (fileOf pool11 21 #[] #[{ accessFlags := 2, nameIndex := 9, descriptorIndex := 19, attributes := #[] }] 33 16 #[] #[{ accessFlags := 24, nameIndex := 28, descriptorIndex := 29, attributes := #[] }, { accessFlags := 26, nameIndex := 38, descriptorIndex := 39, attributes := #[] }, { accessFlags := 25, nameIndex := 121, descriptorIndex := 25, attributes := #[] }, { accessFlags := 25, nameIndex := 131, descriptorIndex := 25, attributes := #[] }, { accessFlags := 25, nameIndex := 137, descriptorIndex := 25, attributes := #[] }, { accessFlags := 25, nameIndex := 143, descriptorIndex := 25, attributes := #[] }, { accessFlags := 25, nameIndex := 53, descriptorIndex := 25, attributes := #[] }, { accessFlags := 25, nameIndex := 24, descriptorIndex := 25, attributes := #[] }, { accessFlags := 25, nameIndex := 162, descriptorIndex := 25, attributes := #[] }, { accessFlags := 25, nameIndex := 187, descriptorIndex := 25, attributes := #[] }, { accessFlags := 26, nameIndex := 48, descriptorIndex := 25, attributes := #[] }, { accessFlags := 25, nameIndex := 277, descriptorIndex := 25, attributes := #[] }, { accessFlags := 25, nameIndex := 280, descriptorIndex := 25, attributes := #[] }, { accessFlags := 25, nameIndex := 282, descriptorIndex := 25, attributes := #[] }, { accessFlags := 25, nameIndex := 284, descriptorIndex := 25, attributes := #[] }, { accessFlags := 25, nameIndex := 286, descriptorIndex := 25, attributes := #[] }, { accessFlags := 25, nameIndex := 288, descriptorIndex := 25, attributes := #[] }, { accessFlags := 25, nameIndex := 290, descriptorIndex := 25, attributes := #[] }, { accessFlags := 25, nameIndex := 292, descriptorIndex := 25, attributes := #[] }, { accessFlags := 26, nameIndex := 108, descriptorIndex := 109, attributes := #[] }, { accessFlags := 25, nameIndex := 294, descriptorIndex := 25, attributes := #[] }])
  fields := #[{ name := "U", type := (.object "jdk/internal/misc/Unsafe"), accessFlags := 24, slot := 0, constantValue := 0 }, { name := "BIG_ENDIAN", type := .boolean, accessFlags := 26, slot := 1, constantValue := 0 }, { name := "LOG2_ARRAY_BOOLEAN_INDEX_SCALE", type := .int, accessFlags := 25, slot := 2, constantValue := 0 }, { name := "LOG2_ARRAY_BYTE_INDEX_SCALE", type := .int, accessFlags := 25, slot := 3, constantValue := 0 }, { name := "LOG2_ARRAY_CHAR_INDEX_SCALE", type := .int, accessFlags := 25, slot := 4, constantValue := 0 }, { name := "LOG2_ARRAY_SHORT_INDEX_SCALE", type := .int, accessFlags := 25, slot := 5, constantValue := 0 }, { name := "LOG2_ARRAY_INT_INDEX_SCALE", type := .int, accessFlags := 25, slot := 6, constantValue := 0 }, { name := "LOG2_ARRAY_LONG_INDEX_SCALE", type := .int, accessFlags := 25, slot := 7, constantValue := 0 }, { name := "LOG2_ARRAY_FLOAT_INDEX_SCALE", type := .int, accessFlags := 25, slot := 8, constantValue := 0 }, { name := "LOG2_ARRAY_DOUBLE_INDEX_SCALE", type := .int, accessFlags := 25, slot := 9, constantValue := 0 }, { name := "LOG2_BYTE_BIT_SIZE", type := .int, accessFlags := 26, slot := 10, constantValue := 0 }, { name := "T_BOOLEAN", type := .int, accessFlags := 25, slot := 11, constantValue := 0 }, { name := "T_CHAR", type := .int, accessFlags := 25, slot := 12, constantValue := 0 }, { name := "T_FLOAT", type := .int, accessFlags := 25, slot := 13, constantValue := 0 }, { name := "T_DOUBLE", type := .int, accessFlags := 25, slot := 14, constantValue := 0 }, { name := "T_BYTE", type := .int, accessFlags := 25, slot := 15, constantValue := 0 }, { name := "T_SHORT", type := .int, accessFlags := 25, slot := 16, constantValue := 0 }, { name := "T_INT", type := .int, accessFlags := 25, slot := 17, constantValue := 0 }, { name := "T_LONG", type := .int, accessFlags := 25, slot := 18, constantValue := 0 }, { name := "JLA", type := (.object "jdk/internal/access/JavaLangAccess"), accessFlags := 26, slot := 19, constantValue := 0 }, { name := "SOFT_MAX_ARRAY_LENGTH", type := .int, accessFlags := 25, slot := 20, constantValue := 0 }]
  methods := #[k11m0]
  instanceTypes := #[]
  staticTypes := #[(.object "jdk/internal/misc/Unsafe"), .boolean, .int, .int, .int, .int, .int, .int, .int, .int, .int, .int, .int, .int, .int, .int, .int, .int, .int, (.object "jdk/internal/access/JavaLangAccess"), .int]
  resolved := Array.replicate 378 none
  statics := none }

def pool12 : Array CpInfo := pool [(1, u "java/lang/Cloneable"), (0, .class_ 1), (0, u "java/lang/Object"), (0, .class_ 3)] 3

/-- java/lang/Cloneable -/
def k12 : Class := { plain "java/lang/Cloneable" (some 0) with
  accessFlags := 1537
  interfaces := #[]
  cf := some (fileOf pool12 2 #[] #[] 1537 4 #[] #[])
  fields := #[]
  methods := #[]
  instanceTypes := #[]
  staticTypes := #[]
  resolved := Array.replicate 8 none
  statics := none }

/-- the primitive byte -/
def k13 : Class := { plain "byte" none with kind := .primitive 'B', accessFlags := 0x411 }
/-- [B -/
def k14 : Class := { plain "[B" (some 0) with kind := .array 13 .byte, interfaces := #[12, 2], accessFlags := 1041 }

def heap : Heap := #[{ cls := 7, slots := #[.long 0, .int 1, .null, .int 0, .null, .int 0, .int 0], vm := .statics 7 },
  { cls := 10, slots := #[.null, .null, .null], vm := .statics 10 }]
def classes : Array Class := #[k0, k1, k2, k3, k4, k5, k6, k7, k8, k9, k10, k11, k12, k13, k14]
def interned : List (Array UInt16 × Addr) := []
def slotsUsed : Nat := 10
def theMethod : MethodId := ⟨1, 1⟩
def args0 : Array Value := #[.int 5, .int 3, .int 5, .int 65]
def aboutOver (below : List Frame) : State where
  vm := { classes := classes, interned := interned.toArray }
  heap := heap
  slotsUsed := slotsUsed
  threads := #[{ frames := .invoking theMethod args0 :: below }]
def below0 : List Frame := [.native { method := ⟨0, 0⟩, args := #[] }]
def about1 : State := aboutOver below0
def p0 : Program := .bare "" "" ""
def e0 : Env := launch0.env 0 0 0
theorem w_frames : about1.frames = Frame.invoking theMethod args0 :: below0 := rfl
set_option maxRecDepth 65536 in
theorem w_args : argsFit about1.vm theMethod args0 = true := by decide +kernel
set_option maxRecDepth 65536 in
theorem w_heap : heapFits about1 = true := by decide +kernel
set_option maxRecDepth 65536 in
theorem w_runnable : about1.curStatus? = some .runnable := by decide +kernel
set_option maxRecDepth 65536 in
theorem w_alone : about1.alone = true := by decide +kernel
set_option maxRecDepth 65536 in
theorem w_named : about1.methodNamed? x = some theMethod := by decide +kernel
set_option maxRecDepth 65536 in
theorem w_hears : about1.hears theMethod below0 = true := by decide +kernel
set_option maxRecDepth 65536 in
theorem w_ripe : about1.ripe theMethod args0 below0 = true := by decide +kernel
theorem w_running : about1.status = .running := rfl
set_option maxRecDepth 65536 in
theorem w_room : about1.hasRoom e0.platform room_1 = true :=
  launch0.hasRoom_least _ room_1 (by decide +kernel) (by decide +kernel) (by decide +kernel) (by decide +kernel) (by decide +kernel) (by decide +kernel)
theorem allAtoms_all (ts : List Jvm.Cond) (a : Array Jvm.Value) (st : Jvm.State) : (allAtoms ts).before a st = ts.all (fun c => c.before a st) := by
  induction ts with
  | nil => rfl
  | cons c t ih =>
    show (Jvm.Cond.and c (allAtoms t)).before a st = _
    rw [Jvm.Cond.before_and, ih, List.all_cons]
def words1 : List Jvm.Cond := Jvm.Cond.code x code maxLocals ret :: tables_1
/-- a 'code' word, met by the world's own term for the bytes: nothing is compared byte by byte -/
theorem code_word {y : MethodName} {bytes : ByteArray} {mx : Nat} {rt : Option FieldType} {a : Array Value} {s : State} {m : MethodId} {meth : Method} {c : Code} (h1 : s.methodNamed? y = some m) (h2 : s.vm.method? m = some meth) (h3 : meth.code = some c) (h4 : c.code = bytes)
    (h5 : (c.maxLocals == mx && c.exceptionTable.isEmpty && decide (c.maxStack ≤ mostOperands) && decide (meth.sig.returnType = rt) && !meth.locks && decide (parseMethodDescriptor y.desc = some meth.sig)) = true) : (Jvm.Cond.code y bytes mx rt).before a s = true := by
  simp only [Bool.and_eq_true, beq_iff_eq, Bool.not_eq_true', decide_eq_true_eq] at h5
  obtain ⟨⟨⟨⟨⟨g1, g2⟩, g3⟩, g4⟩, g5⟩, g6⟩ := h5
  simp [Cond.before, Cond.holds, Cond.value, h1, h2, h3, h4, g1, g2, g3, g4, g5, g6]
def isCode : Jvm.Cond → Bool
  | .code _ _ _ _ => true
  | _ => false
theorem all_split {L : List Jvm.Cond} {P : Jvm.Cond → Bool} (h1 : L.all (fun c => isCode c || P c) = true) (h2 : ∀ c ∈ L.filter isCode, P c = true) : L.all P = true := by
  refine List.all_eq_true.mpr fun c hc => ?_
  have h := List.all_eq_true.mp h1 c hc
  rcases Bool.eq_false_or_eq_true (isCode c) with hi | hi
  · exact h2 c (List.mem_filter.mpr ⟨hc, hi⟩)
  · simpa [hi] using h
set_option maxRecDepth 65536 in
theorem w_c0 : (Jvm.Cond.code x code maxLocals ret).before args0 about1 = true := code_word (m := ⟨1, 1⟩) (meth := k1m1) (c := k1c1) (by decide +kernel) rfl rfl rfl (by decide +kernel)
set_option maxRecDepth 65536 in
theorem w_c1 : (Jvm.Cond.code ({ cls := "java/lang/String", name := "valueOf", desc := "(C)Ljava/lang/String;" } : Jvm.MethodName) jdk_42_method_139_code (1 : Nat) (Option.some (Jvm.ClassFile.FieldType.object "java/lang/String"))).before args0 about1 = true := code_word (m := ⟨7, 1⟩) (meth := k7m1) (c := k7c1) (by decide +kernel) rfl rfl rfl (by decide +kernel)
set_option maxRecDepth 65536 in
theorem w_c2 : (Jvm.Cond.code ({ cls := "java/lang/StringLatin1", name := "canEncode", desc := "(C)Z" } : Jvm.MethodName) jdk_43_method_3_code (1 : Nat) (Option.some Jvm.ClassFile.FieldType.boolean)).before args0 about1 = true := code_word (m := ⟨8, 1⟩) (meth := k8m1) (c := k8c1) (by decide +kernel) rfl rfl rfl (by decide +kernel)
set_option maxRecDepth 65536 in
theorem w_c3 : (Jvm.Cond.code ({ cls := "java/lang/StringLatin1", name := "toBytes", desc := "(C)[B" } : Jvm.MethodName) jdk_43_method_46_code (1 : Nat) (Option.some (Jvm.ClassFile.FieldType.array Jvm.ClassFile.FieldType.byte))).before args0 about1 = true := code_word (m := ⟨8, 2⟩) (meth := k8m2) (c := k8c2) (by decide +kernel) rfl rfl rfl (by decide +kernel)
set_option maxRecDepth 65536 in
theorem w_c4 : (Jvm.Cond.code ({ cls := "java/lang/String", name := "<init>", desc := "([BB)V" } : Jvm.MethodName) jdk_42_method_151_code (3 : Nat) (Option.none : Option Jvm.ClassFile.FieldType)).before args0 about1 = true := code_word (m := ⟨7, 2⟩) (meth := k7m2) (c := k7c2) (by decide +kernel) rfl rfl rfl (by decide +kernel)
set_option maxRecDepth 65536 in
theorem w_c5 : (Jvm.Cond.code ({ cls := "java/lang/Object", name := "<init>", desc := "()V" } : Jvm.MethodName) object_method_1_code (1 : Nat) (Option.none : Option Jvm.ClassFile.FieldType)).before args0 about1 = true := code_word (m := ⟨0, 0⟩) (meth := k0m0) (c := k0c0) (by decide +kernel) rfl rfl rfl (by decide +kernel)
set_option maxRecDepth 65536 in
theorem w_c6 : (Jvm.Cond.code ({ cls := "com/example/cardinal_tableau/cardinaltableau/model/Role", name := "<init>", desc := "(ILjava/lang/String;)V" } : Jvm.MethodName) prog_21_method_1_code (3 : Nat) (Option.none : Option Jvm.ClassFile.FieldType)).before args0 about1 = true := code_word (m := ⟨9, 0⟩) (meth := k9m0) (c := k9c0) (by decide +kernel) rfl rfl rfl (by decide +kernel)
set_option maxRecDepth 65536 in
theorem w_c7 : (Jvm.Cond.code ({ cls := "com/example/cardinal_tableau/cardinaltableau/model/Role", name := "setInverse", desc := "(Lcom/example/cardinal_tableau/cardinaltableau/model/Role;)V" } : Jvm.MethodName) prog_21_method_5_code (2 : Nat) (Option.none : Option Jvm.ClassFile.FieldType)).before args0 about1 = true := code_word (m := ⟨9, 1⟩) (meth := k9m1) (c := k9c1) (by decide +kernel) rfl rfl rfl (by decide +kernel)
set_option maxRecDepth 65536 in
theorem w_c8 : (Jvm.Cond.code ({ cls := "com/example/cardinal_tableau/cardinaltableau/model/Role", name := "isInverse", desc := "()Z" } : Jvm.MethodName) prog_21_method_7_code (1 : Nat) (Option.some Jvm.ClassFile.FieldType.boolean)).before args0 about1 = true := code_word (m := ⟨9, 2⟩) (meth := k9m2) (c := k9c2) (by decide +kernel) rfl rfl rfl (by decide +kernel)
def codes1 : List Jvm.Cond := [Jvm.Cond.code x code maxLocals ret, Jvm.Cond.code ({ cls := "java/lang/String", name := "valueOf", desc := "(C)Ljava/lang/String;" } : Jvm.MethodName) jdk_42_method_139_code (1 : Nat) (Option.some (Jvm.ClassFile.FieldType.object "java/lang/String")), Jvm.Cond.code ({ cls := "java/lang/StringLatin1", name := "canEncode", desc := "(C)Z" } : Jvm.MethodName) jdk_43_method_3_code (1 : Nat) (Option.some Jvm.ClassFile.FieldType.boolean), Jvm.Cond.code ({ cls := "java/lang/StringLatin1", name := "toBytes", desc := "(C)[B" } : Jvm.MethodName) jdk_43_method_46_code (1 : Nat) (Option.some (Jvm.ClassFile.FieldType.array Jvm.ClassFile.FieldType.byte)), Jvm.Cond.code ({ cls := "java/lang/String", name := "<init>", desc := "([BB)V" } : Jvm.MethodName) jdk_42_method_151_code (3 : Nat) (Option.none : Option Jvm.ClassFile.FieldType), Jvm.Cond.code ({ cls := "java/lang/Object", name := "<init>", desc := "()V" } : Jvm.MethodName) object_method_1_code (1 : Nat) (Option.none : Option Jvm.ClassFile.FieldType), Jvm.Cond.code ({ cls := "com/example/cardinal_tableau/cardinaltableau/model/Role", name := "<init>", desc := "(ILjava/lang/String;)V" } : Jvm.MethodName) prog_21_method_1_code (3 : Nat) (Option.none : Option Jvm.ClassFile.FieldType), Jvm.Cond.code ({ cls := "com/example/cardinal_tableau/cardinaltableau/model/Role", name := "setInverse", desc := "(Lcom/example/cardinal_tableau/cardinaltableau/model/Role;)V" } : Jvm.MethodName) prog_21_method_5_code (2 : Nat) (Option.none : Option Jvm.ClassFile.FieldType), Jvm.Cond.code ({ cls := "com/example/cardinal_tableau/cardinaltableau/model/Role", name := "isInverse", desc := "()Z" } : Jvm.MethodName) prog_21_method_7_code (1 : Nat) (Option.some Jvm.ClassFile.FieldType.boolean)]
set_option maxRecDepth 65536 in
theorem codes_eq : words1.filter isCode = codes1 := rfl
theorem w_codes : ∀ c ∈ words1.filter isCode, c.before args0 about1 = true := by
  rw [codes_eq]
  intro c hc
  simp only [codes1, List.mem_cons, List.not_mem_nil, or_false] at hc
  rcases hc with rfl | rfl | rfl | rfl | rfl | rfl | rfl | rfl | rfl
  · exact w_c0
  · exact w_c1
  · exact w_c2
  · exact w_c3
  · exact w_c4
  · exact w_c5
  · exact w_c6
  · exact w_c7
  · exact w_c8
set_option maxRecDepth 65536 in
theorem w_t1 : (words1.take 24).all (fun c => isCode c || c.before args0 about1) = true := by decide +kernel
set_option maxRecDepth 65536 in
theorem w_t2 : ((words1.drop 24).take 24).all (fun c => isCode c || c.before args0 about1) = true := by decide +kernel
set_option maxRecDepth 65536 in
theorem w_t3 : ((words1.drop 24).drop 24).all (fun c => isCode c || c.before args0 about1) = true := by decide +kernel
theorem w_tables : (allAtoms (Jvm.Cond.code x code maxLocals ret :: tables_1)).before args0 about1 = true := by
  rw [allAtoms_all]
  show words1.all (fun c => c.before args0 about1) = true
  refine all_split ?_ w_codes
  rw [← List.take_append_drop 24 words1, List.all_append, w_t1, ← List.take_append_drop 24 (words1.drop 24), List.all_append, w_t2, w_t3]
  rfl
set_option maxRecDepth 65536 in
theorem w_rest : rest_1_c.before args0 about1 = true := by decide +kernel
set_option maxRecDepth 65536 in
theorem w_case : (Jvm.Cond.and given_1 narrow_1).before args0 about1 = true := by decide +kernel
theorem w_applies : (headSpec (Jvm.Cond.code x code maxLocals ret :: tables_1) room_1).applies x e0.platform about1 = true :=
  (Spec.applies_iff w_frames).mpr ⟨w_running, w_runnable, w_alone, w_named, w_hears, w_ripe, w_room, w_tables⟩
theorem atStart : AtStart classFile x code maxLocals ret World_1 tables_1 room_1 Calls_1 rest_1 Pre_1 launch0 p0 e0 about1 theMethod args0 below0 :=
  ⟨lists_1, trivial, launch0.admits_env _ _ _, launch0.least_env, fairChoices_fair.cas, fairChoices_fair.clock, w_frames, w_args, w_heap, w_applies, trivial, w_rest, w_case⟩
end start1
theorem witness_1 : WitnessClaimed_1 := ⟨start1.p0, start1.e0, start1.about1, start1.theMethod, start1.args0, start1.below0, start1.atStart⟩
end Jvm.Pilot.@@N@@
