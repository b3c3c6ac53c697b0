import JvmDerived
import JvmDerived.Pilot.@@N@@Statement
import JvmDerived.Pilot.@@N@@Code
set_option linter.unusedVariables false
set_option linter.unusedSimpArgs false

namespace Jvm.Pilot.@@N@@
open Jvm Jvm.ClassFile Sem Op Lib Jvm.Free Jvm.Stand Jvm.LawKit Jvm.RoadKit Bundle Jvm.Pilot.@@N@@.Jvm.D
section Own
variable {p : Program} {l : Launch} {e : Env} {R : Room} {s : State} {m : MethodId} {args : Array Value} {below : List Frame} {meth : Method} {c : Code} {T T' : State} {locs : List Loc} {cells slots : Nat} {Q : Option Value → Heap → List Loc → Prop} {kc ks : Nat} {g g' : JFrame} {h : Heap}
def own_W (p : Program) (e : Env) (below : List Frame) (s : State) (Q : Option Value → Heap → List Loc → Prop) (kc ks : Nat) (T : State) (g : JFrame) : Prop :=
  ∃ s₂ o, Steps p.tables e below (T.setTop g) s₂ ∧ s₂.status = .running ∧ Ended s₂ below o ∧ ∃ v L, o = .returned v ∧ Q v s₂.heap L ∧ FrameEnd s o s₂ L kc ks
theorem own_go (st : ∀ t, Steps p.tables e below (T'.setTop g') t → Steps p.tables e below (T.setTop g) t) (k : own_W p e below s Q kc ks T' g') : own_W p e below s Q kc ks T g := by
  obtain ⟨s₂, o, h1, h2⟩ := k
  exact ⟨s₂, o, st _ h1, h2⟩
theorem own_ret (X : Stand p l e R s m args below meth c T locs cells slots) (hx : p.tables.exec = Jvm.exec) {pc : Nat} {Ls : Array Slot} {w : Value} {t : FieldType} {i : Instr} {rest : List Value} (hret : meth.sig.returnType = some t) (hlk : meth.locks = false) (hn : narrow t w = w)
    (hi : (i = .ireturn ∧ (t = .int ∨ t = .boolean ∨ t = .byte ∨ t = .char ∨ t = .short) ∧ ∃ z, w = .int z) ∨ (i = .lreturn ∧ t = .long ∧ ∃ z, w = .long z) ∨ (i = .dreturn ∧ t = .double ∧ ∃ z, w = .double z) ∨ (i = .freturn ∧ t = .float ∧ ∃ z, w = .float z) ∨ (i = .areturn ∧ t.isReference = true ∧ w.isRef = true))
    (hd : decode c.code pc = .ok (i, 1)) (eT : T.heap = h) (hQ : Q (some w) h locs) (hc : cells ≤ kc) (hs : slots ≤ ks) : own_W p e below s Q kc ks T (mkF m pc Ls (w :: rest)) := by
  obtain ⟨fs, hr, hrun, hended, hW, hsame⟩ := X.leave (v := some w) (fun q => by rw [hret] at q; cases q) hlk
  exact ⟨_, _, retOut X hx hret hn hi hd hr, hrun, hended, _, _, rfl, (show Q (some w) T.heap locs from eT ▸ hQ), ⟨_, rfl⟩, hW, hsame.mono hc hs⟩
theorem own_retN (X : Stand p l e R s m args below meth c T locs cells slots) (hx : p.tables.exec = Jvm.exec) {pc : Nat} {Ls : Array Slot} {z : Int32} {t : FieldType} {rest : List Value} (hret : meth.sig.returnType = some t) (hlk : meth.locks = false) (ht : t = .boolean ∨ t = .byte ∨ t = .char ∨ t = .short)
    (hd : decode c.code pc = .ok (.ireturn, 1)) (eT : T.heap = h) (hQ : Q (some (.int (nar t z))) h locs) (hc : cells ≤ kc) (hs : slots ≤ ks) : own_W p e below s Q kc ks T (mkF m pc Ls (.int z :: rest)) := by
  obtain ⟨fs, hr, hrun, hended, hW, hsame⟩ := X.leave (v := some (.int (nar t z))) (fun q => by rw [hret] at q; cases q) hlk
  exact ⟨_, _, retN X hx hret ht hd hr, hrun, hended, _, _, rfl, (show Q (some (.int (nar t z))) T.heap locs from eT ▸ hQ), ⟨_, rfl⟩, hW, hsame.mono hc hs⟩
theorem own_ret0 (X : Stand p l e R s m args below meth c T locs cells slots) (hx : p.tables.exec = Jvm.exec) {pc : Nat} {Ls : Array Slot} (hret : meth.sig.returnType = none) (hlk : meth.locks = false)
    (hd : decode c.code pc = .ok (.return_, 1)) (eT : T.heap = h) (hQ : Q none h locs) (hc : cells ≤ kc) (hs : slots ≤ ks) : own_W p e below s Q kc ks T (mkF m pc Ls []) := by
  obtain ⟨fs, hr, hrun, hended, hW, hsame⟩ := X.leave (v := none) (fun _ => rfl) hlk
  exact ⟨_, _, X.returnOut hx hret hd hr, hrun, hended, _, _, rfl, (show Q none T.heap locs from eT ▸ hQ), ⟨_, rfl⟩, hW, hsame.mono hc hs⟩
def own_WS (p : Program) (e : Env) (below : List Frame) (s : State) (Q : Option Value → Heap → List Loc → Prop) (kc ks : Nat) (T : State) (g : JFrame) : Prop :=
  ∃ s₂ o, Steps p.tables e below (T.setTop g) s₂ ∧ s₂.status = .running ∧ Ended s₂ below o ∧ ∃ v L, o = .returned v ∧ Q v s₂.heap L ∧ ReturnedEndW s o s₂ L kc ks
theorem own_goS (st : ∀ t, Steps p.tables e below (T'.setTop g') t → Steps p.tables e below (T.setTop g) t) (k : own_WS p e below s Q kc ks T' g') : own_WS p e below s Q kc ks T g := by
  obtain ⟨s₂, o, h1, h2⟩ := k
  exact ⟨s₂, o, st _ h1, h2⟩
theorem own_endW {t : State} {o : Outcome} {L : List Loc} {k n k' n' : Nat} (q : ReturnedEndW s o t L k n) (h1 : k ≤ k') (h2 : n ≤ n') : ReturnedEndW s o t L k' n' := ⟨q.1, q.2.1, q.2.2.1, q.2.2.2.mono h1 h2⟩
theorem own_retS {vm1 : Vm} {n1 : Nat} (X : Stand p l e R (s.setVm vm1) m args below meth c T locs cells slots) (hS : s.Since vm1 n1) (hx : p.tables.exec = Jvm.exec) {pc : Nat} {Ls : Array Slot} {w : Value} {t : FieldType} {i : Instr} {rest : List Value} (hret : meth.sig.returnType = some t) (hlk : meth.locks = false) (hn : narrow t w = w)
    (hi : (i = .ireturn ∧ (t = .int ∨ t = .boolean ∨ t = .byte ∨ t = .char ∨ t = .short) ∧ ∃ z, w = .int z) ∨ (i = .lreturn ∧ t = .long ∧ ∃ z, w = .long z) ∨ (i = .dreturn ∧ t = .double ∧ ∃ z, w = .double z) ∨ (i = .freturn ∧ t = .float ∧ ∃ z, w = .float z) ∨ (i = .areturn ∧ t.isReference = true ∧ w.isRef = true))
    (hd : decode c.code pc = .ok (i, 1)) (eT : T.heap = h) (hk : n1 ≤ h.size) (hQ : Q (some w) h locs) (hc : cells ≤ kc) (hs : slots ≤ ks) : own_WS p e below s Q kc ks T (mkF m pc Ls (w :: rest)) := by
  obtain ⟨fs, hr, hrun, hended, hW⟩ := X.leaveW hS (eT ▸ hk) (v := some w) (fun q => by rw [hret] at q; cases q) hlk
  exact ⟨_, _, retOut X hx hret hn hi hd hr, hrun, hended, _, _, rfl, (show Q (some w) T.heap locs from eT ▸ hQ), own_endW hW hc hs⟩
theorem own_retNS {vm1 : Vm} {n1 : Nat} (X : Stand p l e R (s.setVm vm1) m args below meth c T locs cells slots) (hS : s.Since vm1 n1) (hx : p.tables.exec = Jvm.exec) {pc : Nat} {Ls : Array Slot} {z : Int32} {t : FieldType} {rest : List Value} (hret : meth.sig.returnType = some t) (hlk : meth.locks = false) (ht : t = .boolean ∨ t = .byte ∨ t = .char ∨ t = .short)
    (hd : decode c.code pc = .ok (.ireturn, 1)) (eT : T.heap = h) (hk : n1 ≤ h.size) (hQ : Q (some (.int (nar t z))) h locs) (hc : cells ≤ kc) (hs : slots ≤ ks) : own_WS p e below s Q kc ks T (mkF m pc Ls (.int z :: rest)) := by
  obtain ⟨fs, hr, hrun, hended, hW⟩ := X.leaveW hS (eT ▸ hk) (v := some (.int (nar t z))) (fun q => by rw [hret] at q; cases q) hlk
  exact ⟨_, _, retN X hx hret ht hd hr, hrun, hended, _, _, rfl, (show Q (some (.int (nar t z))) T.heap locs from eT ▸ hQ), own_endW hW hc hs⟩
theorem own_ret0S {vm1 : Vm} {n1 : Nat} (X : Stand p l e R (s.setVm vm1) m args below meth c T locs cells slots) (hS : s.Since vm1 n1) (hx : p.tables.exec = Jvm.exec) {pc : Nat} {Ls : Array Slot} (hret : meth.sig.returnType = none) (hlk : meth.locks = false)
    (hd : decode c.code pc = .ok (.return_, 1)) (eT : T.heap = h) (hk : n1 ≤ h.size) (hQ : Q none h locs) (hc : cells ≤ kc) (hs : slots ≤ ks) : own_WS p e below s Q kc ks T (mkF m pc Ls []) := by
  obtain ⟨fs, hr, hrun, hended, hW⟩ := X.leaveW hS (eT ▸ hk) (v := none) (fun _ => rfl) hlk
  exact ⟨_, _, X.returnOut hx hret hd hr, hrun, hended, _, _, rfl, (show Q none T.heap locs from eT ▸ hQ), own_endW hW hc hs⟩
theorem own_sta_keep {Z : State} {h h' : Heap} {C n d : String} {v : Value} {ws : List Addr} (F : Sta Z h C n d v) (K : Keep h h' ws) (q : ∀ x ∈ ws, ∀ cell : Cell, h[x]? = some cell → cell.vm.isStatics = false) : Sta Z h' C n d v := by
  obtain ⟨cf, i, k, f, st, cell, h1, h2, h3, h4, h5, h6, h7⟩ := F
  exact ⟨cf, i, k, f, st, cell, h1, h2, h3, h4, K.2.1 _ _ h5 (fun hm => by rw [q _ hm _ h5] at h6; cases h6), h6, h7⟩
end Own
def own_inside (r0 : Addr) (sf : Addr) (sl : Addr) : Int32 := (if r0 = sf then (1 : Int32) else (if r0 = sl then (1 : Int32) else (0 : Int32)))
theorem d1_0 : decode prog_42_method_4_code 0 = .ok (.aload_n 0, 1) := by decide +kernel
theorem d1_1 : decode prog_42_method_4_code 1 = .ok (.getstatic 10, 3) := by decide +kernel
theorem d1_4 : decode prog_42_method_4_code 4 = .ok (.if_acmp .eq 10, 3) := by decide +kernel
theorem d1_7 : decode prog_42_method_4_code 7 = .ok (.aload_n 0, 1) := by decide +kernel
theorem d1_8 : decode prog_42_method_4_code 8 = .ok (.getstatic 13, 3) := by decide +kernel
theorem d1_11 : decode prog_42_method_4_code 11 = .ok (.if_acmp .ne 7, 3) := by decide +kernel
theorem d1_14 : decode prog_42_method_4_code 14 = .ok (.iconst 1, 1) := by decide +kernel
theorem d1_15 : decode prog_42_method_4_code 15 = .ok (.goto 4, 3) := by decide +kernel
theorem d1_18 : decode prog_42_method_4_code 18 = .ok (.iconst 0, 1) := by decide +kernel
theorem d1_19 : decode prog_42_method_4_code 19 = .ok (.ireturn, 1) := by decide +kernel
def Q_rm1 (Z : State) (r0 : Addr) (sf : Addr) (sl : Addr) (h0 : Heap) (n0 : Nat) (v : Option Value) (h : Heap) (L : List Loc) : Prop := v = some (.int (own_inside r0 sf sl)) ∧ Fr n0 L ∧ h = h0
theorem ef_rm1 (m : MethodId) (x0 : Addr) : entryFrame m #[(.ref x0)] 1 = mkF m 0 #[.val (.ref x0)] [] := by first | (simp [entryFrame, mkF, argsToLocals, Value.category]; done) | rfl
theorem pn_rm1 : plainName "com/example/labels_in_order/labelsinorder/Placement" = true := by first | (simp [plainName, overriddenIn]; done) | decide +kernel
set_option maxRecDepth 65536 in
set_option maxHeartbeats 40000000 in
theorem rm1 (l : Launch) (Z : State) (a0 : Array Value) (hw : ∀ d ∈ tables_1, d.before a0 Z = true) (ws : List Jvm.Cond) (r0 : Addr) (sf : Addr) (sl : Addr) (h0 : Heap) (n0 : Nat) (Z0 : n0 ≤ h0.size) (hp0 : Sta Z h0 "com/example/labels_in_order/labelsinorder/Placement" "FIRST_CHILD" "Lcom/example/labels_in_order/labelsinorder/Placement;" (.ref sf)) (hp1 : Sta Z h0 "com/example/labels_in_order/labelsinorder/Placement" "LAST_CHILD" "Lcom/example/labels_in_order/labelsinorder/Placement;" (.ref sl)) :
    MetFree l (⟨"com/example/labels_in_order/labelsinorder/Placement", "inside", "()Z"⟩ : MethodName) (head1 (Jvm.Cond.code (⟨"com/example/labels_in_order/labelsinorder/Placement", "inside", "()Z"⟩ : MethodName) prog_42_method_4_code 1 (some .boolean) :: ws) ({ frames := 0, cells := 0, slots := 0, locals := 0 } : Room)) (fun a U => a = #[(.ref r0)] ∧ Z.Warmed39 U.vm ∧ U.heap = h0) (fun _ _ _ _ _ => True) (fun _ U o U' => ∃ v L, o = .returned v ∧ Q_rm1 Z r0 sf sl h0 n0 v U'.heap L ∧ FrameEnd U o U' L ({ frames := 0, cells := 0, slots := 0, locals := 0 } : Room).cells ({ frames := 0, cells := 0, slots := 0, locals := 0 } : Room).slots) := by
  refine MetFree.of_bodySF (plainFor_of_name pn_rm1) hisR ?_
  intro p e s m args below meth c s₁ Bd hml0 hP hK
  obtain ⟨rfl, hZ, hh⟩ := hP
  have hx := Bd.exec
  have hby := Bd.bytes
  have hml : c.maxLocals = 1 := hml0
  have hown : s.vm.findClass "com/example/labels_in_order/labelsinorder/Placement" = some m.cls := findClass_of_methodNamed Bd.named
  have hnm := (name_of_methodNamed Bd.named Bd.method).1
  have hlk : meth.locks = false := BodyLoose.notSynchronized Bd
  have X0 : Stand p l e ({ frames := 0, cells := 0, slots := 0, locals := 0 } : Room) s m #[(.ref r0)] below meth c s₁ [] 0 0 := Stand.of_body Bd
  have e0 : s₁.heap = h0 := by rw [← hh, Bd.state]; rfl
  have N0 := Fr.nil n0
  show own_W p e below s (Q_rm1 Z r0 sf sl h0 n0) 0 0 s₁ (entryFrame m #[(.ref r0)] 1)
  skip
  skip
  refine own_go (T' := s₁) (g' := (mkF m 0 #[.val (.ref r0)] [])) (fun _ k => castTop (ef_rm1 m r0) k) ?_
  refine own_go (T' := s₁) (g' := (mkF m 1 #[.val (.ref r0)] [(.ref r0)])) (fun _ k => XS.aloadN X0.here hx rfl (hb hby d1_0) rfl rfl k) ?_
  obtain ⟨T1, X1, e1, st1⟩ := getS2 X0 hx hZ hown (host := "") (Or.inl (hw _ (List.mem_of_getElem? (i := 8) rfl))) Via.refl e0 hp0 (g := (mkF m 1 #[.val (.ref r0)] [(.ref r0)])) rfl (hb hby d1_1)
  refine own_go (T' := T1) (g' := (mkF m 4 #[.val (.ref r0)] [(.ref sf), (.ref r0)])) (fun _ k => st1 _ k) ?_
  by_cases hc4_2 : r0 = sf
  · skip
    refine own_go (T' := T1) (g' := (mkF m 14 #[.val (.ref r0)] [])) (fun _ k => XT.acmpYes X1.here hx rfl (pc0 := 4) (pc' := 14) rfl (hb hby d1_4) rfl rfl rfl (XT.aa_eq_t (congrArg Value.ref hc4_2)) (by decide) (by decide) k) ?_
    refine own_go (T' := T1) (g' := (mkF m 15 #[.val (.ref r0)] [(.int (1 : Int32))])) (fun _ k => XS.iconst X1.here hx rfl (hb hby d1_14) k) ?_
    refine own_go (T' := T1) (g' := (mkF m 19 #[.val (.ref r0)] [(.int (1 : Int32))])) (fun _ k => XS.goto X1.here hx rfl (pc0 := 15) (pc' := 19) rfl (hb hby d1_15) (by decide) (by decide) k) ?_
    exact own_retN X1 hx (t := .boolean) Bd.returns hlk (by simp) (hb hby d1_19) e1 ⟨(by unfold own_inside; first | (rw [if_pos hc4_2]; done) | (rw [if_pos hc4_2]; rfl)), N0, rfl⟩ (by decide) (by decide)
  · skip
    refine own_go (T' := T1) (g' := (mkF m 7 #[.val (.ref r0)] [])) (fun _ k => XT.acmpNo X1.here hx rfl (hb hby d1_4) rfl rfl rfl (XT.aa_eq_f (fun q => hc4_2 (Value.ref.inj q))) k) ?_
    refine own_go (T' := T1) (g' := (mkF m 8 #[.val (.ref r0)] [(.ref r0)])) (fun _ k => XS.aloadN X1.here hx rfl (hb hby d1_7) rfl rfl k) ?_
    obtain ⟨T3, X3, e3, st3⟩ := getS2 X1 hx hZ hown (host := "") (Or.inl (hw _ (List.mem_of_getElem? (i := 10) rfl))) Via.refl e1 hp1 (g := (mkF m 8 #[.val (.ref r0)] [(.ref r0)])) rfl (hb hby d1_8)
    refine own_go (T' := T3) (g' := (mkF m 11 #[.val (.ref r0)] [(.ref sl), (.ref r0)])) (fun _ k => st3 _ k) ?_
    by_cases hc11_4 : r0 = sl
    · skip
      refine own_go (T' := T3) (g' := (mkF m 14 #[.val (.ref r0)] [])) (fun _ k => XT.acmpNo X3.here hx rfl (hb hby d1_11) rfl rfl rfl (XT.aa_ne_f (congrArg Value.ref hc11_4)) k) ?_
      refine own_go (T' := T3) (g' := (mkF m 15 #[.val (.ref r0)] [(.int (1 : Int32))])) (fun _ k => XS.iconst X3.here hx rfl (hb hby d1_14) k) ?_
      refine own_go (T' := T3) (g' := (mkF m 19 #[.val (.ref r0)] [(.int (1 : Int32))])) (fun _ k => XS.goto X3.here hx rfl (pc0 := 15) (pc' := 19) rfl (hb hby d1_15) (by decide) (by decide) k) ?_
      exact own_retN X3 hx (t := .boolean) Bd.returns hlk (by simp) (hb hby d1_19) e3 ⟨(by unfold own_inside; first | (rw [if_neg hc4_2, if_pos hc11_4]; done) | (rw [if_neg hc4_2, if_pos hc11_4]; rfl)), N0, rfl⟩ (by decide) (by decide)
    · skip
      refine own_go (T' := T3) (g' := (mkF m 18 #[.val (.ref r0)] [])) (fun _ k => XT.acmpYes X3.here hx rfl (pc0 := 11) (pc' := 18) rfl (hb hby d1_11) rfl rfl rfl (XT.aa_ne_t (fun q => hc11_4 (Value.ref.inj q))) (by decide) (by decide) k) ?_
      refine own_go (T' := T3) (g' := (mkF m 19 #[.val (.ref r0)] [(.int (0 : Int32))])) (fun _ k => XS.iconst X3.here hx rfl (hb hby d1_18) k) ?_
      exact own_retN X3 hx (t := .boolean) Bd.returns hlk (by simp) (hb hby d1_19) e3 ⟨(by unfold own_inside; first | (rw [if_neg hc4_2, if_neg hc11_4]; done) | (rw [if_neg hc4_2, if_neg hc11_4]; rfl)), N0, rfl⟩ (by decide) (by decide)
theorem own_pd0 : parseMethodDescriptor "()Z" = some ⟨[], some .boolean⟩ := by decide +kernel
def Q_rm0 (Z : State) (p0 : Int32) (sb : Addr) (sa : Addr) (sf : Addr) (sl : Addr) (h0 : Heap) (n0 : Nat) (v : Option Value) (h : Heap) (L : List Loc) : Prop := v = some (.int 1) ∧ Fr n0 L
theorem ef_rm0 (m : MethodId) (x0 : Int32) : entryFrame m #[(.int x0)] maxLocals = mkF m 0 #[.val (.int x0), .unset, .unset, .unset] [] := by first | (simp [entryFrame, mkF, argsToLocals, Value.category, maxLocals]; done) | rfl
theorem pn_rm0 : plainName "com/example/labels_in_order/labelsinorder/PlacementInsidePinLaw" = true := by first | (simp [plainName, overriddenIn]; done) | decide +kernel
set_option maxRecDepth 65536 in
set_option maxHeartbeats 40000000 in
theorem rm0 (l : Launch) (Z : State) (a0 : Array Value) (hw : ∀ d ∈ tables_1, d.before a0 Z = true) (ws : List Jvm.Cond) (p0 : Int32) (sb : Addr) (sa : Addr) (sf : Addr) (sl : Addr) (h0 : Heap) (n0 : Nat) (Z0 : n0 ≤ h0.size) (hp0 : Sta Z h0 "com/example/labels_in_order/labelsinorder/Placement" "BEFORE" "Lcom/example/labels_in_order/labelsinorder/Placement;" (.ref sb)) (hp1 : Sta Z h0 "com/example/labels_in_order/labelsinorder/Placement" "AFTER" "Lcom/example/labels_in_order/labelsinorder/Placement;" (.ref sa)) (hp2 : Sta Z h0 "com/example/labels_in_order/labelsinorder/Placement" "FIRST_CHILD" "Lcom/example/labels_in_order/labelsinorder/Placement;" (.ref sf)) (hp3 : Sta Z h0 "com/example/labels_in_order/labelsinorder/Placement" "LAST_CHILD" "Lcom/example/labels_in_order/labelsinorder/Placement;" (.ref sl)) (hp4 : Exa Z h0 sb "com/example/labels_in_order/labelsinorder/Placement") (hp5 : Exa Z h0 sa "com/example/labels_in_order/labelsinorder/Placement") (hp6 : Exa Z h0 sf "com/example/labels_in_order/labelsinorder/Placement") (hp7 : Exa Z h0 sl "com/example/labels_in_order/labelsinorder/Placement") (hh0 : ¬ sb = sf) (hh1 : ¬ sb = sl) (hh2 : ¬ sa = sf) (hh3 : ¬ sa = sl) :
    MetFree l x (head1 (Jvm.Cond.code x code maxLocals ret :: ws) room_1) (fun a U => a = #[(.int p0)] ∧ Z.Warmed39 U.vm ∧ U.heap = h0) (fun _ _ _ _ _ => True) (fun _ U o U' => ∃ v L, o = .returned v ∧ Q_rm0 Z p0 sb sa sf sl h0 n0 v U'.heap L ∧ FrameEnd U o U' L 0 0) := by
  refine MetFree.of_bodySF (plainFor_of_name pn_rm0) hisR ?_
  intro p e s m args below meth c s₁ Bd hml0 hP hK
  obtain ⟨rfl, hZ, hh⟩ := hP
  have hx := Bd.exec
  have hby := Bd.bytes
  have hml : c.maxLocals = 4 := hml0
  have hown : s.vm.findClass "com/example/labels_in_order/labelsinorder/PlacementInsidePinLaw" = some m.cls := findClass_of_methodNamed Bd.named
  have hnm := (name_of_methodNamed Bd.named Bd.method).1
  have hlk : meth.locks = false := BodyLoose.notSynchronized Bd
  have X0 : Stand p l e room_1 s m #[(.int p0)] below meth c s₁ [] 0 0 := Stand.of_body Bd
  have e0 : s₁.heap = h0 := by rw [← hh, Bd.state]; rfl
  have N0 := Fr.nil n0
  show own_W p e below s (Q_rm0 Z p0 sb sa sf sl h0 n0) 0 0 s₁ (entryFrame m #[(.int p0)] maxLocals)
  skip
  skip
  refine own_go (T' := s₁) (g' := (mkF m 0 #[.val (.int p0), .unset, .unset, .unset] [])) (fun _ k => castTop (ef_rm0 m p0) k) ?_
  refine own_go (T' := s₁) (g' := (mkF m 1 #[.val (.int p0), .unset, .unset, .unset] [(.int p0)])) (fun _ k => XS.iloadN X0.here hx rfl (hb hby at_0) rfl k) ?_
  refine own_go (T' := s₁) (g' := (mkF m 2 #[.val (.int p0), .unset, .unset, .unset] [(.int (3 : Int32)), (.int p0)])) (fun _ k => XS.iconst X0.here hx rfl (hb hby at_1) k) ?_
  refine own_go (T' := s₁) (g' := (mkF m 3 #[.val (.int p0), .unset, .unset, .unset] [(.int (p0 &&& (3 : Int32)))])) (fun _ k => XS.iand X0.here hx rfl (hb hby at_2) rfl k) ?_
  refine own_go (T' := s₁) (g' := (mkF m 4 #[.val (.int p0), .val (.int (p0 &&& (3 : Int32))), .unset, .unset] [])) (fun _ k => XS.istoreN X0.here hx rfl (hb hby at_3) rfl (l' := #[.val (.int p0), .val (.int (p0 &&& (3 : Int32))), .unset, .unset]) rfl k) ?_
  refine own_go (T' := s₁) (g' := (mkF m 5 #[.val (.int p0), .val (.int (p0 &&& (3 : Int32))), .unset, .unset] [(.int (p0 &&& (3 : Int32)))])) (fun _ k => XS.iloadN X0.here hx rfl (hb hby at_4) rfl k) ?_
  by_cases hc5_1 : (p0 &&& (3 : Int32)) = (0 : Int32)
  · skip
    refine own_go (T' := s₁) (g' := (mkF m 8 #[.val (.int p0), .val (.int (p0 &&& (3 : Int32))), .unset, .unset] [])) (fun _ k => XS.ifNo X0.here hx rfl (hb hby at_5) rfl (XT.i0_ne_f hc5_1) k) ?_
    obtain ⟨T2, X2, e2, st2⟩ := getS2 X0 hx hZ hown (host := "") (Or.inl (hw _ (List.mem_of_getElem? (i := 0) rfl))) Via.refl e0 hp0 (g := (mkF m 8 #[.val (.int p0), .val (.int (p0 &&& (3 : Int32))), .unset, .unset] [])) rfl (hb hby at_8)
    refine own_go (T' := T2) (g' := (mkF m 11 #[.val (.int p0), .val (.int (p0 &&& (3 : Int32))), .unset, .unset] [(.ref sb)])) (fun _ k => st2 _ k) ?_
    refine own_go (T' := T2) (g' := (mkF m 12 #[.val (.int p0), .val (.int (p0 &&& (3 : Int32))), .val (.ref sb), .unset] [])) (fun _ k => XS.astoreN X2.here hx rfl (hb hby at_11) rfl rfl (l' := #[.val (.int p0), .val (.int (p0 &&& (3 : Int32))), .val (.ref sb), .unset]) rfl k) ?_
    refine own_go (T' := T2) (g' := (mkF m 13 #[.val (.int p0), .val (.int (p0 &&& (3 : Int32))), .val (.ref sb), .unset] [(.int (0 : Int32))])) (fun _ k => XS.iconst X2.here hx rfl (hb hby at_12) k) ?_
    refine own_go (T' := T2) (g' := (mkF m 14 #[.val (.int p0), .val (.int (p0 &&& (3 : Int32))), .val (.ref sb), .val (.int (0 : Int32))] [])) (fun _ k => XS.istoreN X2.here hx rfl (hb hby at_13) rfl (l' := #[.val (.int p0), .val (.int (p0 &&& (3 : Int32))), .val (.ref sb), .val (.int (0 : Int32))]) rfl k) ?_
    refine own_go (T' := T2) (g' := (mkF m 51 #[.val (.int p0), .val (.int (p0 &&& (3 : Int32))), .val (.ref sb), .val (.int (0 : Int32))] [])) (fun _ k => XS.goto X2.here hx rfl (pc0 := 14) (pc' := 51) rfl (hb hby at_14) (by decide) (by decide) k) ?_
    refine own_go (T' := T2) (g' := (mkF m 52 #[.val (.int p0), .val (.int (p0 &&& (3 : Int32))), .val (.ref sb), .val (.int (0 : Int32))] [(.ref sb)])) (fun _ k => XS.aloadN X2.here hx rfl (hb hby at_51) rfl rfl k) ?_
    obtain ⟨cq3, kq3, q3a, q3b, q3c⟩ := isOf hZ e2 hp4
    obtain ⟨_, _, ⟨T3, L3, k3, n3⟩, -, X3, ⟨Lc3, hQ3, l3, y3, z3⟩, st3⟩ := X2.virtualBack hx (y := (⟨"com/example/labels_in_order/labelsinorder/Placement", "inside", "()Z"⟩ : MethodName)) (z := (⟨"com/example/labels_in_order/labelsinorder/Placement", "inside", "()Z"⟩ : MethodName)) hown (mvT hZ (hw _ (List.mem_of_getElem? (i := 3) rfl))) (mvT hZ (hw _ (List.mem_of_getElem? (i := 4) rfl))) (notFace_of_selects (args := #[]) (mvT hZ (hw _ (List.mem_of_getElem? (i := 6) rfl)))) (mvT hZ (hw _ (List.mem_of_getElem? (i := 6) rfl))) (mvT hZ (hw _ (List.mem_of_getElem? (i := 5) rfl))) (by decide) (backOf (W := 0) (rm1 l Z a0 hw [] sb sf sl h0 n0 Z0 hp2 hp3) hZ (hw _ (List.mem_of_getElem? (i := 7) rfl)) (hw _ (List.mem_of_getElem? (i := 1) rfl)) (by decide) (by decide)) q3a q3c (g := (mkF m 52 #[.val (.int p0), .val (.int (p0 &&& (3 : Int32))), .val (.ref sb), .val (.int (0 : Int32))] [(.ref sb)])) rfl (by rw [hml]; rfl) (Steps.refl _) (argsL := []) (rest := []) (lenOf own_pd0 rfl) rfl (by show 2 * 0 + _ ≤ _; exact Nat.le_of_eq rfl) (hb hby at_52) (fun _ _ => ⟨rfl, e2, (by decide : 0 + 0 ≤ _), (by decide : 0 + 0 ≤ _)⟩)
    dsimp only [Pt.U, Pt.locs, Pt.cells, Pt.slots] at X3 l3 y3 z3 st3 hQ3
    subst l3 y3 z3
    obtain ⟨rfl, N3q, e3⟩ := hQ3
    have N3 := Fr.app N0 N3q
    refine own_go (T' := T3) (g' := (mkF m 55 #[.val (.int p0), .val (.int (p0 &&& (3 : Int32))), .val (.ref sb), .val (.int (0 : Int32))] [(.int (own_inside sb sf sl))])) (fun _ k => st3.trans k) ?_
    refine own_go (T' := T3) (g' := (mkF m 56 #[.val (.int p0), .val (.int (p0 &&& (3 : Int32))), .val (.ref sb), .val (.int (0 : Int32))] [(.int (0 : Int32)), (.int (own_inside sb sf sl))])) (fun _ k => XS.iloadN X3.here hx rfl (hb hby at_55) rfl k) ?_
    refine own_go (T' := T3) (g' := (mkF m 59 #[.val (.int p0), .val (.int (p0 &&& (3 : Int32))), .val (.ref sb), .val (.int (0 : Int32))] [])) (fun _ k => XS.icmpNo X3.here hx rfl (hb hby at_56) rfl (XT.ii_ne_f (by unfold own_inside; simp [hh0, hh1, hh2, hh3])) k) ?_
    refine own_go (T' := T3) (g' := (mkF m 60 #[.val (.int p0), .val (.int (p0 &&& (3 : Int32))), .val (.ref sb), .val (.int (0 : Int32))] [(.int (1 : Int32))])) (fun _ k => XS.iconst X3.here hx rfl (hb hby at_59) k) ?_
    refine own_go (T' := T3) (g' := (mkF m 64 #[.val (.int p0), .val (.int (p0 &&& (3 : Int32))), .val (.ref sb), .val (.int (0 : Int32))] [(.int (1 : Int32))])) (fun _ k => XS.goto X3.here hx rfl (pc0 := 60) (pc' := 64) rfl (hb hby at_60) (by decide) (by decide) k) ?_
    exact own_retN X3 hx (t := .boolean) Bd.returns hlk (by simp) (hb hby at_64) e3 ⟨rfl, N3⟩ (by decide) (by decide)
  · skip
    refine own_go (T' := s₁) (g' := (mkF m 17 #[.val (.int p0), .val (.int (p0 &&& (3 : Int32))), .unset, .unset] [])) (fun _ k => XS.ifYes X0.here hx rfl (pc0 := 5) (pc' := 17) rfl (hb hby at_5) rfl (XT.i0_ne_t hc5_1) (by decide) (by decide) k) ?_
    refine own_go (T' := s₁) (g' := (mkF m 18 #[.val (.int p0), .val (.int (p0 &&& (3 : Int32))), .unset, .unset] [(.int (p0 &&& (3 : Int32)))])) (fun _ k => XS.iloadN X0.here hx rfl (hb hby at_17) rfl k) ?_
    refine own_go (T' := s₁) (g' := (mkF m 19 #[.val (.int p0), .val (.int (p0 &&& (3 : Int32))), .unset, .unset] [(.int (1 : Int32)), (.int (p0 &&& (3 : Int32)))])) (fun _ k => XS.iconst X0.here hx rfl (hb hby at_18) k) ?_
    by_cases hc19_4 : (p0 &&& (3 : Int32)) = (1 : Int32)
    · skip
      refine own_go (T' := s₁) (g' := (mkF m 22 #[.val (.int p0), .val (.int (p0 &&& (3 : Int32))), .unset, .unset] [])) (fun _ k => XS.icmpNo X0.here hx rfl (hb hby at_19) rfl (XT.ii_ne_f hc19_4) k) ?_
      obtain ⟨T5, X5, e5, st5⟩ := getS2 X0 hx hZ hown (host := "") (Or.inl (hw _ (List.mem_of_getElem? (i := 14) rfl))) Via.refl e0 hp1 (g := (mkF m 22 #[.val (.int p0), .val (.int (p0 &&& (3 : Int32))), .unset, .unset] [])) rfl (hb hby at_22)
      refine own_go (T' := T5) (g' := (mkF m 25 #[.val (.int p0), .val (.int (p0 &&& (3 : Int32))), .unset, .unset] [(.ref sa)])) (fun _ k => st5 _ k) ?_
      refine own_go (T' := T5) (g' := (mkF m 26 #[.val (.int p0), .val (.int (p0 &&& (3 : Int32))), .val (.ref sa), .unset] [])) (fun _ k => XS.astoreN X5.here hx rfl (hb hby at_25) rfl rfl (l' := #[.val (.int p0), .val (.int (p0 &&& (3 : Int32))), .val (.ref sa), .unset]) rfl k) ?_
      refine own_go (T' := T5) (g' := (mkF m 27 #[.val (.int p0), .val (.int (p0 &&& (3 : Int32))), .val (.ref sa), .unset] [(.int (0 : Int32))])) (fun _ k => XS.iconst X5.here hx rfl (hb hby at_26) k) ?_
      refine own_go (T' := T5) (g' := (mkF m 28 #[.val (.int p0), .val (.int (p0 &&& (3 : Int32))), .val (.ref sa), .val (.int (0 : Int32))] [])) (fun _ k => XS.istoreN X5.here hx rfl (hb hby at_27) rfl (l' := #[.val (.int p0), .val (.int (p0 &&& (3 : Int32))), .val (.ref sa), .val (.int (0 : Int32))]) rfl k) ?_
      refine own_go (T' := T5) (g' := (mkF m 51 #[.val (.int p0), .val (.int (p0 &&& (3 : Int32))), .val (.ref sa), .val (.int (0 : Int32))] [])) (fun _ k => XS.goto X5.here hx rfl (pc0 := 28) (pc' := 51) rfl (hb hby at_28) (by decide) (by decide) k) ?_
      refine own_go (T' := T5) (g' := (mkF m 52 #[.val (.int p0), .val (.int (p0 &&& (3 : Int32))), .val (.ref sa), .val (.int (0 : Int32))] [(.ref sa)])) (fun _ k => XS.aloadN X5.here hx rfl (hb hby at_51) rfl rfl k) ?_
      obtain ⟨cq6, kq6, q6a, q6b, q6c⟩ := isOf hZ e5 hp5
      obtain ⟨_, _, ⟨T6, L6, k6, n6⟩, -, X6, ⟨Lc6, hQ6, l6, y6, z6⟩, st6⟩ := X5.virtualBack hx (y := (⟨"com/example/labels_in_order/labelsinorder/Placement", "inside", "()Z"⟩ : MethodName)) (z := (⟨"com/example/labels_in_order/labelsinorder/Placement", "inside", "()Z"⟩ : MethodName)) hown (mvT hZ (hw _ (List.mem_of_getElem? (i := 3) rfl))) (mvT hZ (hw _ (List.mem_of_getElem? (i := 4) rfl))) (notFace_of_selects (args := #[]) (mvT hZ (hw _ (List.mem_of_getElem? (i := 6) rfl)))) (mvT hZ (hw _ (List.mem_of_getElem? (i := 6) rfl))) (mvT hZ (hw _ (List.mem_of_getElem? (i := 5) rfl))) (by decide) (backOf (W := 0) (rm1 l Z a0 hw [] sa sf sl h0 n0 Z0 hp2 hp3) hZ (hw _ (List.mem_of_getElem? (i := 7) rfl)) (hw _ (List.mem_of_getElem? (i := 1) rfl)) (by decide) (by decide)) q6a q6c (g := (mkF m 52 #[.val (.int p0), .val (.int (p0 &&& (3 : Int32))), .val (.ref sa), .val (.int (0 : Int32))] [(.ref sa)])) rfl (by rw [hml]; rfl) (Steps.refl _) (argsL := []) (rest := []) (lenOf own_pd0 rfl) rfl (by show 2 * 0 + _ ≤ _; exact Nat.le_of_eq rfl) (hb hby at_52) (fun _ _ => ⟨rfl, e5, (by decide : 0 + 0 ≤ _), (by decide : 0 + 0 ≤ _)⟩)
      dsimp only [Pt.U, Pt.locs, Pt.cells, Pt.slots] at X6 l6 y6 z6 st6 hQ6
      subst l6 y6 z6
      obtain ⟨rfl, N6q, e6⟩ := hQ6
      have N6 := Fr.app N0 N6q
      refine own_go (T' := T6) (g' := (mkF m 55 #[.val (.int p0), .val (.int (p0 &&& (3 : Int32))), .val (.ref sa), .val (.int (0 : Int32))] [(.int (own_inside sa sf sl))])) (fun _ k => st6.trans k) ?_
      refine own_go (T' := T6) (g' := (mkF m 56 #[.val (.int p0), .val (.int (p0 &&& (3 : Int32))), .val (.ref sa), .val (.int (0 : Int32))] [(.int (0 : Int32)), (.int (own_inside sa sf sl))])) (fun _ k => XS.iloadN X6.here hx rfl (hb hby at_55) rfl k) ?_
      refine own_go (T' := T6) (g' := (mkF m 59 #[.val (.int p0), .val (.int (p0 &&& (3 : Int32))), .val (.ref sa), .val (.int (0 : Int32))] [])) (fun _ k => XS.icmpNo X6.here hx rfl (hb hby at_56) rfl (XT.ii_ne_f (by unfold own_inside; simp [hh0, hh1, hh2, hh3])) k) ?_
      refine own_go (T' := T6) (g' := (mkF m 60 #[.val (.int p0), .val (.int (p0 &&& (3 : Int32))), .val (.ref sa), .val (.int (0 : Int32))] [(.int (1 : Int32))])) (fun _ k => XS.iconst X6.here hx rfl (hb hby at_59) k) ?_
      refine own_go (T' := T6) (g' := (mkF m 64 #[.val (.int p0), .val (.int (p0 &&& (3 : Int32))), .val (.ref sa), .val (.int (0 : Int32))] [(.int (1 : Int32))])) (fun _ k => XS.goto X6.here hx rfl (pc0 := 60) (pc' := 64) rfl (hb hby at_60) (by decide) (by decide) k) ?_
      exact own_retN X6 hx (t := .boolean) Bd.returns hlk (by simp) (hb hby at_64) e6 ⟨rfl, N6⟩ (by decide) (by decide)
    · skip
      refine own_go (T' := s₁) (g' := (mkF m 31 #[.val (.int p0), .val (.int (p0 &&& (3 : Int32))), .unset, .unset] [])) (fun _ k => XS.icmpYes X0.here hx rfl (pc0 := 19) (pc' := 31) rfl (hb hby at_19) rfl (XT.ii_ne_t hc19_4) (by decide) (by decide) k) ?_
      refine own_go (T' := s₁) (g' := (mkF m 32 #[.val (.int p0), .val (.int (p0 &&& (3 : Int32))), .unset, .unset] [(.int (p0 &&& (3 : Int32)))])) (fun _ k => XS.iloadN X0.here hx rfl (hb hby at_31) rfl k) ?_
      refine own_go (T' := s₁) (g' := (mkF m 33 #[.val (.int p0), .val (.int (p0 &&& (3 : Int32))), .unset, .unset] [(.int (2 : Int32)), (.int (p0 &&& (3 : Int32)))])) (fun _ k => XS.iconst X0.here hx rfl (hb hby at_32) k) ?_
      by_cases hc33_7 : (p0 &&& (3 : Int32)) = (2 : Int32)
      · skip
        refine own_go (T' := s₁) (g' := (mkF m 36 #[.val (.int p0), .val (.int (p0 &&& (3 : Int32))), .unset, .unset] [])) (fun _ k => XS.icmpNo X0.here hx rfl (hb hby at_33) rfl (XT.ii_ne_f hc33_7) k) ?_
        obtain ⟨T8, X8, e8, st8⟩ := getS2 X0 hx hZ hown (host := "") (Or.inl (hw _ (List.mem_of_getElem? (i := 13) rfl))) Via.refl e0 hp2 (g := (mkF m 36 #[.val (.int p0), .val (.int (p0 &&& (3 : Int32))), .unset, .unset] [])) rfl (hb hby at_36)
        refine own_go (T' := T8) (g' := (mkF m 39 #[.val (.int p0), .val (.int (p0 &&& (3 : Int32))), .unset, .unset] [(.ref sf)])) (fun _ k => st8 _ k) ?_
        refine own_go (T' := T8) (g' := (mkF m 40 #[.val (.int p0), .val (.int (p0 &&& (3 : Int32))), .val (.ref sf), .unset] [])) (fun _ k => XS.astoreN X8.here hx rfl (hb hby at_39) rfl rfl (l' := #[.val (.int p0), .val (.int (p0 &&& (3 : Int32))), .val (.ref sf), .unset]) rfl k) ?_
        refine own_go (T' := T8) (g' := (mkF m 41 #[.val (.int p0), .val (.int (p0 &&& (3 : Int32))), .val (.ref sf), .unset] [(.int (1 : Int32))])) (fun _ k => XS.iconst X8.here hx rfl (hb hby at_40) k) ?_
        refine own_go (T' := T8) (g' := (mkF m 42 #[.val (.int p0), .val (.int (p0 &&& (3 : Int32))), .val (.ref sf), .val (.int (1 : Int32))] [])) (fun _ k => XS.istoreN X8.here hx rfl (hb hby at_41) rfl (l' := #[.val (.int p0), .val (.int (p0 &&& (3 : Int32))), .val (.ref sf), .val (.int (1 : Int32))]) rfl k) ?_
        refine own_go (T' := T8) (g' := (mkF m 51 #[.val (.int p0), .val (.int (p0 &&& (3 : Int32))), .val (.ref sf), .val (.int (1 : Int32))] [])) (fun _ k => XS.goto X8.here hx rfl (pc0 := 42) (pc' := 51) rfl (hb hby at_42) (by decide) (by decide) k) ?_
        refine own_go (T' := T8) (g' := (mkF m 52 #[.val (.int p0), .val (.int (p0 &&& (3 : Int32))), .val (.ref sf), .val (.int (1 : Int32))] [(.ref sf)])) (fun _ k => XS.aloadN X8.here hx rfl (hb hby at_51) rfl rfl k) ?_
        obtain ⟨cq9, kq9, q9a, q9b, q9c⟩ := isOf hZ e8 hp6
        obtain ⟨_, _, ⟨T9, L9, k9, n9⟩, -, X9, ⟨Lc9, hQ9, l9, y9, z9⟩, st9⟩ := X8.virtualBack hx (y := (⟨"com/example/labels_in_order/labelsinorder/Placement", "inside", "()Z"⟩ : MethodName)) (z := (⟨"com/example/labels_in_order/labelsinorder/Placement", "inside", "()Z"⟩ : MethodName)) hown (mvT hZ (hw _ (List.mem_of_getElem? (i := 3) rfl))) (mvT hZ (hw _ (List.mem_of_getElem? (i := 4) rfl))) (notFace_of_selects (args := #[]) (mvT hZ (hw _ (List.mem_of_getElem? (i := 6) rfl)))) (mvT hZ (hw _ (List.mem_of_getElem? (i := 6) rfl))) (mvT hZ (hw _ (List.mem_of_getElem? (i := 5) rfl))) (by decide) (backOf (W := 0) (rm1 l Z a0 hw [] sf sf sl h0 n0 Z0 hp2 hp3) hZ (hw _ (List.mem_of_getElem? (i := 7) rfl)) (hw _ (List.mem_of_getElem? (i := 1) rfl)) (by decide) (by decide)) q9a q9c (g := (mkF m 52 #[.val (.int p0), .val (.int (p0 &&& (3 : Int32))), .val (.ref sf), .val (.int (1 : Int32))] [(.ref sf)])) rfl (by rw [hml]; rfl) (Steps.refl _) (argsL := []) (rest := []) (lenOf own_pd0 rfl) rfl (by show 2 * 0 + _ ≤ _; exact Nat.le_of_eq rfl) (hb hby at_52) (fun _ _ => ⟨rfl, e8, (by decide : 0 + 0 ≤ _), (by decide : 0 + 0 ≤ _)⟩)
        dsimp only [Pt.U, Pt.locs, Pt.cells, Pt.slots] at X9 l9 y9 z9 st9 hQ9
        subst l9 y9 z9
        obtain ⟨rfl, N9q, e9⟩ := hQ9
        have N9 := Fr.app N0 N9q
        refine own_go (T' := T9) (g' := (mkF m 55 #[.val (.int p0), .val (.int (p0 &&& (3 : Int32))), .val (.ref sf), .val (.int (1 : Int32))] [(.int (own_inside sf sf sl))])) (fun _ k => st9.trans k) ?_
        refine own_go (T' := T9) (g' := (mkF m 56 #[.val (.int p0), .val (.int (p0 &&& (3 : Int32))), .val (.ref sf), .val (.int (1 : Int32))] [(.int (1 : Int32)), (.int (own_inside sf sf sl))])) (fun _ k => XS.iloadN X9.here hx rfl (hb hby at_55) rfl k) ?_
        refine own_go (T' := T9) (g' := (mkF m 59 #[.val (.int p0), .val (.int (p0 &&& (3 : Int32))), .val (.ref sf), .val (.int (1 : Int32))] [])) (fun _ k => XS.icmpNo X9.here hx rfl (hb hby at_56) rfl (XT.ii_ne_f (by unfold own_inside; simp [hh0, hh1, hh2, hh3])) k) ?_
        refine own_go (T' := T9) (g' := (mkF m 60 #[.val (.int p0), .val (.int (p0 &&& (3 : Int32))), .val (.ref sf), .val (.int (1 : Int32))] [(.int (1 : Int32))])) (fun _ k => XS.iconst X9.here hx rfl (hb hby at_59) k) ?_
        refine own_go (T' := T9) (g' := (mkF m 64 #[.val (.int p0), .val (.int (p0 &&& (3 : Int32))), .val (.ref sf), .val (.int (1 : Int32))] [(.int (1 : Int32))])) (fun _ k => XS.goto X9.here hx rfl (pc0 := 60) (pc' := 64) rfl (hb hby at_60) (by decide) (by decide) k) ?_
        exact own_retN X9 hx (t := .boolean) Bd.returns hlk (by simp) (hb hby at_64) e9 ⟨rfl, N9⟩ (by decide) (by decide)
      · skip
        refine own_go (T' := s₁) (g' := (mkF m 45 #[.val (.int p0), .val (.int (p0 &&& (3 : Int32))), .unset, .unset] [])) (fun _ k => XS.icmpYes X0.here hx rfl (pc0 := 33) (pc' := 45) rfl (hb hby at_33) rfl (XT.ii_ne_t hc33_7) (by decide) (by decide) k) ?_
        obtain ⟨T10, X10, e10, st10⟩ := getS2 X0 hx hZ hown (host := "") (Or.inl (hw _ (List.mem_of_getElem? (i := 12) rfl))) Via.refl e0 hp3 (g := (mkF m 45 #[.val (.int p0), .val (.int (p0 &&& (3 : Int32))), .unset, .unset] [])) rfl (hb hby at_45)
        refine own_go (T' := T10) (g' := (mkF m 48 #[.val (.int p0), .val (.int (p0 &&& (3 : Int32))), .unset, .unset] [(.ref sl)])) (fun _ k => st10 _ k) ?_
        refine own_go (T' := T10) (g' := (mkF m 49 #[.val (.int p0), .val (.int (p0 &&& (3 : Int32))), .val (.ref sl), .unset] [])) (fun _ k => XS.astoreN X10.here hx rfl (hb hby at_48) rfl rfl (l' := #[.val (.int p0), .val (.int (p0 &&& (3 : Int32))), .val (.ref sl), .unset]) rfl k) ?_
        refine own_go (T' := T10) (g' := (mkF m 50 #[.val (.int p0), .val (.int (p0 &&& (3 : Int32))), .val (.ref sl), .unset] [(.int (1 : Int32))])) (fun _ k => XS.iconst X10.here hx rfl (hb hby at_49) k) ?_
        refine own_go (T' := T10) (g' := (mkF m 51 #[.val (.int p0), .val (.int (p0 &&& (3 : Int32))), .val (.ref sl), .val (.int (1 : Int32))] [])) (fun _ k => XS.istoreN X10.here hx rfl (hb hby at_50) rfl (l' := #[.val (.int p0), .val (.int (p0 &&& (3 : Int32))), .val (.ref sl), .val (.int (1 : Int32))]) rfl k) ?_
        refine own_go (T' := T10) (g' := (mkF m 52 #[.val (.int p0), .val (.int (p0 &&& (3 : Int32))), .val (.ref sl), .val (.int (1 : Int32))] [(.ref sl)])) (fun _ k => XS.aloadN X10.here hx rfl (hb hby at_51) rfl rfl k) ?_
        obtain ⟨cq11, kq11, q11a, q11b, q11c⟩ := isOf hZ e10 hp7
        obtain ⟨_, _, ⟨T11, L11, k11, n11⟩, -, X11, ⟨Lc11, hQ11, l11, y11, z11⟩, st11⟩ := X10.virtualBack hx (y := (⟨"com/example/labels_in_order/labelsinorder/Placement", "inside", "()Z"⟩ : MethodName)) (z := (⟨"com/example/labels_in_order/labelsinorder/Placement", "inside", "()Z"⟩ : MethodName)) hown (mvT hZ (hw _ (List.mem_of_getElem? (i := 3) rfl))) (mvT hZ (hw _ (List.mem_of_getElem? (i := 4) rfl))) (notFace_of_selects (args := #[]) (mvT hZ (hw _ (List.mem_of_getElem? (i := 6) rfl)))) (mvT hZ (hw _ (List.mem_of_getElem? (i := 6) rfl))) (mvT hZ (hw _ (List.mem_of_getElem? (i := 5) rfl))) (by decide) (backOf (W := 0) (rm1 l Z a0 hw [] sl sf sl h0 n0 Z0 hp2 hp3) hZ (hw _ (List.mem_of_getElem? (i := 7) rfl)) (hw _ (List.mem_of_getElem? (i := 1) rfl)) (by decide) (by decide)) q11a q11c (g := (mkF m 52 #[.val (.int p0), .val (.int (p0 &&& (3 : Int32))), .val (.ref sl), .val (.int (1 : Int32))] [(.ref sl)])) rfl (by rw [hml]; rfl) (Steps.refl _) (argsL := []) (rest := []) (lenOf own_pd0 rfl) rfl (by show 2 * 0 + _ ≤ _; exact Nat.le_of_eq rfl) (hb hby at_52) (fun _ _ => ⟨rfl, e10, (by decide : 0 + 0 ≤ _), (by decide : 0 + 0 ≤ _)⟩)
        dsimp only [Pt.U, Pt.locs, Pt.cells, Pt.slots] at X11 l11 y11 z11 st11 hQ11
        subst l11 y11 z11
        obtain ⟨rfl, N11q, e11⟩ := hQ11
        have N11 := Fr.app N0 N11q
        refine own_go (T' := T11) (g' := (mkF m 55 #[.val (.int p0), .val (.int (p0 &&& (3 : Int32))), .val (.ref sl), .val (.int (1 : Int32))] [(.int (own_inside sl sf sl))])) (fun _ k => st11.trans k) ?_
        refine own_go (T' := T11) (g' := (mkF m 56 #[.val (.int p0), .val (.int (p0 &&& (3 : Int32))), .val (.ref sl), .val (.int (1 : Int32))] [(.int (1 : Int32)), (.int (own_inside sl sf sl))])) (fun _ k => XS.iloadN X11.here hx rfl (hb hby at_55) rfl k) ?_
        refine own_go (T' := T11) (g' := (mkF m 59 #[.val (.int p0), .val (.int (p0 &&& (3 : Int32))), .val (.ref sl), .val (.int (1 : Int32))] [])) (fun _ k => XS.icmpNo X11.here hx rfl (hb hby at_56) rfl (XT.ii_ne_f (by unfold own_inside; simp [hh0, hh1, hh2, hh3])) k) ?_
        refine own_go (T' := T11) (g' := (mkF m 60 #[.val (.int p0), .val (.int (p0 &&& (3 : Int32))), .val (.ref sl), .val (.int (1 : Int32))] [(.int (1 : Int32))])) (fun _ k => XS.iconst X11.here hx rfl (hb hby at_59) k) ?_
        refine own_go (T' := T11) (g' := (mkF m 64 #[.val (.int p0), .val (.int (p0 &&& (3 : Int32))), .val (.ref sl), .val (.int (1 : Int32))] [(.int (1 : Int32))])) (fun _ k => XS.goto X11.here hx rfl (pc0 := 60) (pc' := 64) rfl (hb hby at_60) (by decide) (by decide) k) ?_
        exact own_retN X11 hx (t := .boolean) Bd.returns hlk (by simp) (hb hby at_64) e11 ⟨rfl, N11⟩ (by decide) (by decide)
set_option maxRecDepth 65536 in
set_option maxHeartbeats 40000000 in
theorem comes_1 {Post : Tables → Env → Array Value → State → Outcome → State → Prop} (hpost : ∀ tb e args s v u, (limb_1_1.after args s (.returned v) u = true ∧ limb_1_2.after args s (.returned v) u = true ∧ True) → FrameEnd s (.returned v) u (Jvm.fieldLocs frame_1_writes args s ++ Jvm.arrayLocs frame_1_arrays args s ++ Jvm.staticLocs frame_1_statics s) 0 0 → Post tb e args s (.returned v) u) :
    ArmFor flags0 classFile x code maxLocals ret World_1 tables_1 room_1 Calls_1 rest_1 Pre_1 Post := by
  intro l hfl _ _ p e ha hc hk s m args below hf hA hF happ hP
  obtain ⟨hcalls, hrest, hpre⟩ := hP
  obtain ⟨-, -, -, hnamed, -, -, -, hat⟩ := (Spec.applies_iff hf).mp happ
  obtain ⟨hg, hn⟩ := and_e (Cond.before_iff.mp (show (Jvm.Cond.and given_1 narrow_1).before args s = true from hpre))
  obtain ⟨g1, g2⟩ := and_e hg
  obtain ⟨w0, rfl⟩ : ∃ w0 : Value, args = #[w0] := by
    have hs : args.size = 1 := by simpa [Cond.value, given_1] using g1
    obtain ⟨L⟩ := args
    match L, hs with
    | [w0], _ => exact ⟨w0, rfl⟩
  have hw := fun d (hd : d ∈ tables_1) => atoms_spec (ws := Jvm.Cond.code x code maxLocals ret :: tables_1) hat d (List.mem_cons_of_mem _ hd)
  have hfit : Fit s := fun {y c} hc i hi => by
    obtain ⟨ha, rfl⟩ := Array.getElem?_eq_some_iff.mp hc
    have q := List.all_eq_true.mp ((Array.all_eq_true_iff_forall_mem.mp hF) _ (Array.getElem_mem ha)) i (List.mem_range.mpr hi)
    simpa [Array.getElem?_eq_getElem hi] using q
  obtain ⟨i0, ei0⟩ := is_v g2
  obtain rfl : w0 = (.int i0) := Option.some.inj ei0
  obtain ⟨nw1, nv1⟩ := and_e hn
  obtain ⟨nw2, nv2⟩ := and_e nv1
  obtain ⟨nw3, nv3⟩ := and_e nv2
  obtain ⟨nw4, nv4⟩ := and_e nv3
  obtain ⟨nw5, nv5⟩ := and_e nv4
  obtain ⟨nw6, nv6⟩ := and_e nv5
  obtain ⟨nw7, nv7⟩ := and_e nv6
  obtain ⟨sb, ev_sb⟩ := exa_v nw1
  have E_sb : Exa s s.heap sb "com/example/labels_in_order/labelsinorder/Placement" := Exa.start ev_sb nw1
  have S_sb : Sta s s.heap "com/example/labels_in_order/labelsinorder/Placement" "BEFORE" "Lcom/example/labels_in_order/labelsinorder/Placement;" (.ref sb) := Sta.start ev_sb (Or.inr ⟨(hw _ (List.mem_of_getElem? (i := 1) rfl)), (hw _ (List.mem_of_getElem? (i := 2) rfl))⟩)
  obtain ⟨sf, ev_sf⟩ := exa_v nw2
  have E_sf : Exa s s.heap sf "com/example/labels_in_order/labelsinorder/Placement" := Exa.start ev_sf nw2
  have S_sf : Sta s s.heap "com/example/labels_in_order/labelsinorder/Placement" "FIRST_CHILD" "Lcom/example/labels_in_order/labelsinorder/Placement;" (.ref sf) := Sta.start ev_sf (Or.inr ⟨(hw _ (List.mem_of_getElem? (i := 1) rfl)), (hw _ (List.mem_of_getElem? (i := 9) rfl))⟩)
  obtain ⟨sl, ev_sl⟩ := exa_v nw5
  have E_sl : Exa s s.heap sl "com/example/labels_in_order/labelsinorder/Placement" := Exa.start ev_sl nw5
  have S_sl : Sta s s.heap "com/example/labels_in_order/labelsinorder/Placement" "LAST_CHILD" "Lcom/example/labels_in_order/labelsinorder/Placement;" (.ref sl) := Sta.start ev_sl (Or.inr ⟨(hw _ (List.mem_of_getElem? (i := 1) rfl)), (hw _ (List.mem_of_getElem? (i := 11) rfl))⟩)
  obtain ⟨sa, ev_sa⟩ := exa_v nw7
  have E_sa : Exa s s.heap sa "com/example/labels_in_order/labelsinorder/Placement" := Exa.start ev_sa nw7
  have S_sa : Sta s s.heap "com/example/labels_in_order/labelsinorder/Placement" "AFTER" "Lcom/example/labels_in_order/labelsinorder/Placement;" (.ref sa) := Sta.start ev_sa (Or.inr ⟨(hw _ (List.mem_of_getElem? (i := 1) rfl)), (hw _ (List.mem_of_getElem? (i := 15) rfl))⟩)
  have F_sb := Fld.start ((fld_at ev_sb).symm.trans (Jvm.Free.NT.SwA.eq_int (Cond.before_iff.mpr nw3)))
  have F_sf := Fld.start ((fld_at ev_sf).symm.trans (Jvm.Free.NT.SwA.eq_int (Cond.before_iff.mpr nw4)))
  have F_sl := Fld.start ((fld_at ev_sl).symm.trans (Jvm.Free.NT.SwA.eq_int (Cond.before_iff.mpr nw6)))
  have F_sa := Fld.start ((fld_at ev_sa).symm.trans (Jvm.Free.NT.SwA.eq_int (Cond.before_iff.mpr nv7)))
  obtain ⟨n, o, h1, h2, h3, _, L, rfl, ⟨rfl, N⟩, hq⟩ := rm0 l s _ hw tables_1 i0 sb sa sf sl s.heap s.heap.size (Nat.le_refl _) S_sb S_sa S_sf S_sl E_sb E_sa E_sf E_sl (F_sb.ne F_sf (by decide)) (F_sb.ne F_sl (by decide)) (F_sa.ne F_sf (by decide)) (F_sa.ne F_sl (by decide)) p e ha hc hk s m _ below hf ((Spec.applies_iff_loose hf).mp happ).1 ⟨rfl, State.Warmed39.refl s, rfl⟩ trivial
  refine ⟨n, _, h1, h2, h3, hpost _ _ _ _ _ _ ⟨Cond.after_iff.mpr rfl, Cond.after_iff.mpr (eq_i res_at (Term.int_eval (1)) rfl), trivial⟩ ⟨hq.1, hq.2.1, (hq.2.2.sift fun y hy => Or.inr (N y hy)).mono (by decide) (by decide)⟩⟩
theorem main_1_1 : Claimed_1_1 := comes_1 fun _ _ _ _ _ _ h hF => ⟨h.1, hF⟩
theorem main_1_2 : Claimed_1_2 := comes_1 fun _ _ _ _ _ _ h hF => ⟨h.2.1, hF⟩
end Jvm.Pilot.@@N@@
namespace Jvm.Pilot.@@N@@
open Jvm Jvm.ClassFile Sem Op Lib Jvm.Free Jvm.Stand Jvm.Pilot.@@N@@.Jvm.D
/-! MADE BY PROGRAM (witnessworld.py) out of the Statement's table words and the real class files: 10 classes; the members and pool entries that the words name. The judged class is class 1, her method 1. -/
namespace start1
open Jvm.ClassFile
def u (s : String) : CpInfo := .utf8 (stringToUtf16 s)
/-- a pool by its gaps: so many unusable entries, then the entry; so many at the end -/
def gap : Nat → List CpInfo → List CpInfo
  | 0, r => r
  | n + 1, r => .unusable :: gap n r
def poolList (es : List (Nat × CpInfo)) (last : Nat) : List CpInfo := es.foldr (fun e r => gap e.1 (e.2 :: r)) (gap last [])
def pool (es : List (Nat × CpInfo)) (last : Nat) : Array CpInfo := ⟨poolList es last⟩
def fileOf (pool : Array CpInfo) (this : Nat) (attrs : Array Attribute := #[]) (ms : Array MethodInfo := #[]) (fl : Nat := 33) (sup : Nat := 0) (ifs : Array Nat := #[]) (fds : Array FieldInfo := #[]) : ClassFile where
  minorVersion := 0
  majorVersion := 65
  constantPool := pool
  accessFlags := fl
  thisClass := this
  superClass := sup
  interfaces := ifs
  fields := fds
  methods := ms
  attributes := attrs
def plain (name : String) (sup : Option ClassId) : Class where
  name := name
  kind := .ordinary
  loader := none
  accessFlags := 33
  super := sup
  interfaces := #[]
  cf := none
  fields := #[]
  methods := #[]
  instanceTypes := #[]
  staticTypes := #[]
  resolved := #[]
  callSites := []
  init := .initialized
  statics := none
  mirror := none

def pool0 : Array CpInfo := pool [(5, u "<init>"), (0, u "()V"), (1, .class_ 10), (1, u "java/lang/Object")] 113

def k0m0 : Method := { name := "<init>", desc := "()V", sig := { parameters := [], returnType := none }, accessFlags := 1, code := none }
/-- java/lang/Object -/
def k0 : Class := { plain "java/lang/Object" none with
  accessFlags := 33
  interfaces := #[]
  cf := some (fileOf pool0 8 #[] #[{ accessFlags := 1, nameIndex := 5, descriptorIndex := 6, attributes := #[] }] 33 0 #[] #[])
  fields := #[]
  methods := #[k0m0]
  instanceTypes := #[]
  staticTypes := #[]
  resolved := Array.replicate 124 none
  statics := none }

def pool1 : Array CpInfo := pool [(2, .class_ 4), (1, u "java/lang/Object"), (0, u "<init>"), (0, u "()V"), (0, .fieldref 8 9), (0, .class_ 10), (0, .nameAndType 11 12), (0, u "com/example/labels_in_order/labelsinorder/Placement"), (0, u "BEFORE"), (0, u "Lcom/example/labels_in_order/labelsinorder/Placement;"), (0, .fieldref 8 14), (0, .nameAndType 15 12), (0, u "AFTER"), (0, .fieldref 8 17), (0, .nameAndType 18 12), (0, u "FIRST_CHILD"), (0, .fieldref 8 20), (0, .nameAndType 21 12), (0, u "LAST_CHILD"), (0, .methodref 8 23), (0, .nameAndType 24 25), (0, u "inside"), (0, u "()Z"), (0, .class_ 27), (0, u "com/example/labels_in_order/labelsinorder/PlacementInsidePinLaw"), (2, u "law"), (0, u "(I)Z")] 3

def k1m0 : Method := { name := "<init>", desc := "()V", sig := { parameters := [], returnType := none }, accessFlags := 1, code := none }
def k1c1 : Code := { maxStack := 2, maxLocals := 4, code := code, exceptionTable := #[], attributes := #[] }
def k1m1 : Method := { name := "law", desc := "(I)Z", sig := { parameters := [.int], returnType := some .boolean }, accessFlags := 9, code := some k1c1 }
/-- com/example/labels_in_order/labelsinorder/PlacementInsidePinLaw -/
def k1 : Class := { plain "com/example/labels_in_order/labelsinorder/PlacementInsidePinLaw" (some 0) with
  accessFlags := 49
  interfaces := #[]
  cf := some (fileOf pool1 26 #[] #[{ accessFlags := 1, nameIndex := 5, descriptorIndex := 6, attributes := #[] }, { accessFlags := 9, nameIndex := 30, descriptorIndex := 31, attributes := #[] }] 49 2 #[] #[])
  fields := #[]
  methods := #[k1m0, k1m1]
  instanceTypes := #[]
  staticTypes := #[]
  resolved := Array.replicate 35 none
  statics := none }

def pool2 : Array CpInfo := pool [(1, .class_ 2), (0, u "java/lang/constant/Constable"), (0, .class_ 4), (0, u "java/lang/Object")] 6

/-- java/lang/constant/Constable -/
def k2 : Class := { plain "java/lang/constant/Constable" (some 0) with
  accessFlags := 1537
  interfaces := #[]
  cf := some (fileOf pool2 1 #[] #[] 1537 3 #[] #[])
  fields := #[]
  methods := #[]
  instanceTypes := #[]
  staticTypes := #[]
  resolved := Array.replicate 11 none
  statics := none }

def pool3 : Array CpInfo := pool [(1, .class_ 2), (0, u "java/lang/Comparable"), (0, .class_ 4), (0, u "java/lang/Object")] 7

/-- java/lang/Comparable -/
def k3 : Class := { plain "java/lang/Comparable" (some 0) with
  accessFlags := 1537
  interfaces := #[]
  cf := some (fileOf pool3 1 #[] #[] 1537 3 #[] #[])
  fields := #[]
  methods := #[]
  instanceTypes := #[]
  staticTypes := #[]
  resolved := Array.replicate 12 none
  statics := none }

def pool4 : Array CpInfo := pool [(1, .class_ 2), (0, u "java/io/Serializable"), (0, .class_ 4), (0, u "java/lang/Object")] 2

/-- java/io/Serializable -/
def k4 : Class := { plain "java/io/Serializable" (some 0) with
  accessFlags := 1537
  interfaces := #[]
  cf := some (fileOf pool4 1 #[] #[] 1537 3 #[] #[])
  fields := #[]
  methods := #[]
  instanceTypes := #[]
  staticTypes := #[]
  resolved := Array.replicate 7 none
  statics := none }

def pool5 : Array CpInfo := pool [(2, .class_ 4), (1, u "java/lang/Enum"), (0, u "name"), (0, u "Ljava/lang/String;"), (2, u "ordinal"), (0, u "I"), (1, .class_ 14), (1, u "java/lang/Object"), (4, u "hash"), (86, .class_ 108), (1, u "java/lang/Enum$EnumDesc"), (2, .class_ 112), (0, u "java/lang/constant/Constable"), (0, .class_ 114), (0, u "java/lang/Comparable"), (0, .class_ 116), (0, u "java/io/Serializable")] 87

/-- java/lang/Enum -/
def k5 : Class := { plain "java/lang/Enum" (some 0) with
  accessFlags := 1057
  interfaces := #[2, 3, 4]
  cf := some (fileOf pool5 2 #[.nestMembers #[106]] #[] 1057 12 #[111, 113, 115] #[{ accessFlags := 18, nameIndex := 5, descriptorIndex := 6, attributes := #[] }, { accessFlags := 18, nameIndex := 9, descriptorIndex := 10, attributes := #[] }, { accessFlags := 2, nameIndex := 19, descriptorIndex := 10, attributes := #[] }])
  fields := #[{ name := "name", type := (.object "java/lang/String"), accessFlags := 18, slot := 0, constantValue := 0 }, { name := "ordinal", type := .int, accessFlags := 18, slot := 1, constantValue := 0 }, { name := "hash", type := .int, accessFlags := 2, slot := 2, constantValue := 0 }]
  methods := #[]
  instanceTypes := #[(.object "java/lang/String"), .int, .int]
  staticTypes := #[]
  resolved := Array.replicate 204 none
  statics := none }

def pool6 : Array CpInfo := pool [(1, .class_ 2), (0, u "com/example/labels_in_order/labelsinorder/Placement"), (2, u "BEFORE"), (0, u "Lcom/example/labels_in_order/labelsinorder/Placement;"), (2, u "AFTER"), (0, .fieldref 1 11), (0, .nameAndType 12 6), (0, u "FIRST_CHILD"), (0, .fieldref 1 14), (0, .nameAndType 15 6), (0, u "LAST_CHILD"), (2, u "$VALUES"), (0, u "[Lcom/example/labels_in_order/labelsinorder/Placement;"), (6, .class_ 28), (1, u "java/lang/Enum"), (22, u "inside"), (0, u "()Z")] 5

def k6c0 : Code := { maxStack := 2, maxLocals := 1, code := prog_42_method_4_code, exceptionTable := #[], attributes := #[] }
def k6m0 : Method := { name := "inside", desc := "()Z", sig := { parameters := [], returnType := some .boolean }, accessFlags := 0, code := some k6c0 }
/-- com/example/labels_in_order/labelsinorder/Placement -/
def k6 : Class := { plain "com/example/labels_in_order/labelsinorder/Placement" (some 5) with
  accessFlags := 16433
  interfaces := #[]
  cf := some (fileOf pool6 1 #[] #[{ accessFlags := 0, nameIndex := 51, descriptorIndex := 52, attributes := #[] }] 16433 26 #[] #[{ accessFlags := 16409, nameIndex := 5, descriptorIndex := 6, attributes := #[] }, { accessFlags := 16409, nameIndex := 9, descriptorIndex := 6, attributes := #[] }, { accessFlags := 16409, nameIndex := 12, descriptorIndex := 6, attributes := #[] }, { accessFlags := 16409, nameIndex := 15, descriptorIndex := 6, attributes := #[] }, { accessFlags := 4122, nameIndex := 18, descriptorIndex := 19, attributes := #[] }])
  fields := #[{ name := "BEFORE", type := (.object "com/example/labels_in_order/labelsinorder/Placement"), accessFlags := 16409, slot := 0, constantValue := 0 }, { name := "AFTER", type := (.object "com/example/labels_in_order/labelsinorder/Placement"), accessFlags := 16409, slot := 1, constantValue := 0 }, { name := "FIRST_CHILD", type := (.object "com/example/labels_in_order/labelsinorder/Placement"), accessFlags := 16409, slot := 2, constantValue := 0 }, { name := "LAST_CHILD", type := (.object "com/example/labels_in_order/labelsinorder/Placement"), accessFlags := 16409, slot := 3, constantValue := 0 }, { name := "$VALUES", type := (.array (.object "com/example/labels_in_order/labelsinorder/Placement")), accessFlags := 4122, slot := 4, constantValue := 0 }]
  methods := #[k6m0]
  instanceTypes := #[(.object "java/lang/String"), .int, .int]
  staticTypes := #[(.object "com/example/labels_in_order/labelsinorder/Placement"), (.object "com/example/labels_in_order/labelsinorder/Placement"), (.object "com/example/labels_in_order/labelsinorder/Placement"), (.object "com/example/labels_in_order/labelsinorder/Placement"), (.array (.object "com/example/labels_in_order/labelsinorder/Placement"))]
  resolved := Array.replicate 58 none
  statics := some 0 }

def pool7 : Array CpInfo := pool [(1, u "java/lang/Cloneable"), (0, .class_ 1), (0, u "java/lang/Object"), (0, .class_ 3)] 3

/-- java/lang/Cloneable -/
def k7 : Class := { plain "java/lang/Cloneable" (some 0) with
  accessFlags := 1537
  interfaces := #[]
  cf := some (fileOf pool7 2 #[] #[] 1537 4 #[] #[])
  fields := #[]
  methods := #[]
  instanceTypes := #[]
  staticTypes := #[]
  resolved := Array.replicate 8 none
  statics := none }

/-- the primitive byte -/
def k8 : Class := { plain "byte" none with kind := .primitive 'B', accessFlags := 0x411 }
/-- [B -/
def k9 : Class := { plain "[B" (some 0) with kind := .array 8 .byte, interfaces := #[7, 4], accessFlags := 1041 }

def heap : Heap := #[{ cls := 6, slots := #[.ref 1, .ref 2, .ref 3, .ref 4, .null], vm := .statics 6 },
  { cls := 6, slots := #[.null, .int 0, .int 0], vm := .none },
  { cls := 6, slots := #[.null, .int 1, .int 0], vm := .none },
  { cls := 6, slots := #[.null, .int 2, .int 0], vm := .none },
  { cls := 6, slots := #[.null, .int 3, .int 0], vm := .none }]
def classes : Array Class := #[k0, k1, k2, k3, k4, k5, k6, k7, k8, k9]
def interned : List (Array UInt16 × Addr) := []
def slotsUsed : Nat := 17
def theMethod : MethodId := ⟨1, 1⟩
def args0 : Array Value := #[.int 1]
def aboutOver (below : List Frame) : State where
  vm := { classes := classes, interned := interned.toArray }
  heap := heap
  slotsUsed := slotsUsed
  threads := #[{ frames := .invoking theMethod args0 :: below }]
def below0 : List Frame := [.native { method := ⟨0, 0⟩, args := #[] }]
def about1 : State := aboutOver below0
def p0 : Program := .bare "" "" ""
def e0 : Env := launch0.env 0 0 0
theorem w_frames : about1.frames = Frame.invoking theMethod args0 :: below0 := rfl
set_option maxRecDepth 65536 in
theorem w_args : argsFit about1.vm theMethod args0 = true := by decide +kernel
set_option maxRecDepth 65536 in
theorem w_heap : heapFits about1 = true := by decide +kernel
set_option maxRecDepth 65536 in
theorem w_runnable : about1.curStatus? = some .runnable := by decide +kernel
set_option maxRecDepth 65536 in
theorem w_alone : about1.alone = true := by decide +kernel
set_option maxRecDepth 65536 in
theorem w_named : about1.methodNamed? x = some theMethod := by decide +kernel
set_option maxRecDepth 65536 in
theorem w_hears : about1.hears theMethod below0 = true := by decide +kernel
set_option maxRecDepth 65536 in
theorem w_ripe : about1.ripe theMethod args0 below0 = true := by decide +kernel
theorem w_running : about1.status = .running := rfl
set_option maxRecDepth 65536 in
theorem w_room : about1.hasRoom e0.platform room_1 = true :=
  launch0.hasRoom_least _ room_1 (by decide +kernel) (by decide +kernel) (by decide +kernel) (by decide +kernel) (by decide +kernel) (by decide +kernel)
theorem allAtoms_all (ts : List Jvm.Cond) (a : Array Jvm.Value) (st : Jvm.State) : (allAtoms ts).before a st = ts.all (fun c => c.before a st) := by
  induction ts with
  | nil => rfl
  | cons c t ih =>
    show (Jvm.Cond.and c (allAtoms t)).before a st = _
    rw [Jvm.Cond.before_and, ih, List.all_cons]
def words1 : List Jvm.Cond := Jvm.Cond.code x code maxLocals ret :: tables_1
/-- a 'code' word, met by the world's own term for the bytes: nothing is compared byte by byte -/
theorem code_word {y : MethodName} {bytes : ByteArray} {mx : Nat} {rt : Option FieldType} {a : Array Value} {s : State} {m : MethodId} {meth : Method} {c : Code} (h1 : s.methodNamed? y = some m) (h2 : s.vm.method? m = some meth) (h3 : meth.code = some c) (h4 : c.code = bytes)
    (h5 : (c.maxLocals == mx && c.exceptionTable.isEmpty && decide (c.maxStack ≤ mostOperands) && decide (meth.sig.returnType = rt) && !meth.locks && decide (parseMethodDescriptor y.desc = some meth.sig)) = true) : (Jvm.Cond.code y bytes mx rt).before a s = true := by
  simp only [Bool.and_eq_true, beq_iff_eq, Bool.not_eq_true', decide_eq_true_eq] at h5
  obtain ⟨⟨⟨⟨⟨g1, g2⟩, g3⟩, g4⟩, g5⟩, g6⟩ := h5
  simp [Cond.before, Cond.holds, Cond.value, h1, h2, h3, h4, g1, g2, g3, g4, g5, g6]
def isCode : Jvm.Cond → Bool
  | .code _ _ _ _ => true
  | _ => false
theorem all_split {L : List Jvm.Cond} {P : Jvm.Cond → Bool} (h1 : L.all (fun c => isCode c || P c) = true) (h2 : ∀ c ∈ L.filter isCode, P c = true) : L.all P = true := by
  refine List.all_eq_true.mpr fun c hc => ?_
  have h := List.all_eq_true.mp h1 c hc
  rcases Bool.eq_false_or_eq_true (isCode c) with hi | hi
  · exact h2 c (List.mem_filter.mpr ⟨hc, hi⟩)
  · simpa [hi] using h
set_option maxRecDepth 65536 in
theorem w_c0 : (Jvm.Cond.code x code maxLocals ret).before args0 about1 = true := code_word (m := ⟨1, 1⟩) (meth := k1m1) (c := k1c1) (by decide +kernel) rfl rfl rfl (by decide +kernel)
set_option maxRecDepth 65536 in
theorem w_c1 : (Jvm.Cond.code ({ cls := "com/example/labels_in_order/labelsinorder/Placement", name := "inside", desc := "()Z" } : Jvm.MethodName) prog_42_method_4_code (1 : Nat) (Option.some Jvm.ClassFile.FieldType.boolean)).before args0 about1 = true := code_word (m := ⟨6, 0⟩) (meth := k6m0) (c := k6c0) (by decide +kernel) rfl rfl rfl (by decide +kernel)
def codes1 : List Jvm.Cond := [Jvm.Cond.code x code maxLocals ret, Jvm.Cond.code ({ cls := "com/example/labels_in_order/labelsinorder/Placement", name := "inside", desc := "()Z" } : Jvm.MethodName) prog_42_method_4_code (1 : Nat) (Option.some Jvm.ClassFile.FieldType.boolean)]
set_option maxRecDepth 65536 in
theorem codes_eq : words1.filter isCode = codes1 := rfl
theorem w_codes : ∀ c ∈ words1.filter isCode, c.before args0 about1 = true := by
  rw [codes_eq]
  intro c hc
  simp only [codes1, List.mem_cons, List.not_mem_nil, or_false] at hc
  rcases hc with rfl | rfl
  · exact w_c0
  · exact w_c1
set_option maxRecDepth 65536 in
theorem w_t1 : words1.all (fun c => isCode c || c.before args0 about1) = true := by decide +kernel
theorem w_tables : (allAtoms (Jvm.Cond.code x code maxLocals ret :: tables_1)).before args0 about1 = true := by
  rw [allAtoms_all]
  show words1.all (fun c => c.before args0 about1) = true
  refine all_split ?_ w_codes
  rw [w_t1]
set_option maxRecDepth 65536 in
theorem w_case : (Jvm.Cond.and given_1 narrow_1).before args0 about1 = true := by decide +kernel
theorem w_applies : (headSpec (Jvm.Cond.code x code maxLocals ret :: tables_1) room_1).applies x e0.platform about1 = true :=
  (Spec.applies_iff w_frames).mpr ⟨w_running, w_runnable, w_alone, w_named, w_hears, w_ripe, w_room, w_tables⟩
theorem atStart : AtStart classFile x code maxLocals ret World_1 tables_1 room_1 Calls_1 rest_1 Pre_1 launch0 p0 e0 about1 theMethod args0 below0 :=
  ⟨lists_1, trivial, launch0.admits_env _ _ _, launch0.least_env, fairChoices_fair.cas, fairChoices_fair.clock, w_frames, w_args, w_heap, w_applies, trivial, trivial, w_case⟩
end start1
theorem witness_1 : WitnessClaimed_1 := ⟨start1.p0, start1.e0, start1.about1, start1.theMethod, start1.args0, start1.below0, start1.atStart⟩
end Jvm.Pilot.@@N@@
