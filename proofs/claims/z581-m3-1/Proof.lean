import JvmDerived
import JvmDerived.Pilot.@@N@@Statement
import JvmDerived.Pilot.@@N@@Code
set_option linter.unusedVariables false
set_option linter.unusedSimpArgs false

namespace Jvm.Pilot.@@N@@
open Jvm Jvm.ClassFile Sem Op Lib Jvm.Free Jvm.Stand Jvm.LawKit Jvm.RoadKit Bundle Jvm.Pilot.@@N@@.Jvm.D
section Own
variable {p : Program} {l : Launch} {e : Env} {R : Room} {s : State} {m : MethodId} {args : Array Value} {below : List Frame} {meth : Method} {c : Code} {T T' : State} {locs : List Loc} {cells slots : Nat} {Q : Option Value → Heap → List Loc → Prop} {kc ks : Nat} {g g' : JFrame} {h : Heap}
def own_W (p : Program) (e : Env) (below : List Frame) (s : State) (Q : Option Value → Heap → List Loc → Prop) (kc ks : Nat) (T : State) (g : JFrame) : Prop :=
  ∃ s₂ o, Steps p.tables e below (T.setTop g) s₂ ∧ s₂.status = .running ∧ Ended s₂ below o ∧ ∃ v L, o = .returned v ∧ Q v s₂.heap L ∧ FrameEnd s o s₂ L kc ks
theorem own_go (st : ∀ t, Steps p.tables e below (T'.setTop g') t → Steps p.tables e below (T.setTop g) t) (k : own_W p e below s Q kc ks T' g') : own_W p e below s Q kc ks T g := by
  obtain ⟨s₂, o, h1, h2⟩ := k
  exact ⟨s₂, o, st _ h1, h2⟩
theorem own_ret (X : Stand p l e R s m args below meth c T locs cells slots) (hx : p.tables.exec = Jvm.exec) {pc : Nat} {Ls : Array Slot} {w : Value} {t : FieldType} {i : Instr} {rest : List Value} (hret : meth.sig.returnType = some t) (hlk : meth.locks = false) (hn : narrow t w = w)
    (hi : (i = .ireturn ∧ (t = .int ∨ t = .boolean ∨ t = .byte ∨ t = .char ∨ t = .short) ∧ ∃ z, w = .int z) ∨ (i = .lreturn ∧ t = .long ∧ ∃ z, w = .long z) ∨ (i = .dreturn ∧ t = .double ∧ ∃ z, w = .double z) ∨ (i = .freturn ∧ t = .float ∧ ∃ z, w = .float z) ∨ (i = .areturn ∧ t.isReference = true ∧ w.isRef = true))
    (hd : decode c.code pc = .ok (i, 1)) (eT : T.heap = h) (hQ : Q (some w) h locs) (hc : cells ≤ kc) (hs : slots ≤ ks) : own_W p e below s Q kc ks T (mkF m pc Ls (w :: rest)) := by
  obtain ⟨fs, hr, hrun, hended, hW, hsame⟩ := X.leave (v := some w) (fun q => by rw [hret] at q; cases q) hlk
  exact ⟨_, _, retOut X hx hret hn hi hd hr, hrun, hended, _, _, rfl, (show Q (some w) T.heap locs from eT ▸ hQ), ⟨_, rfl⟩, hW, hsame.mono hc hs⟩
theorem own_retN (X : Stand p l e R s m args below meth c T locs cells slots) (hx : p.tables.exec = Jvm.exec) {pc : Nat} {Ls : Array Slot} {z : Int32} {t : FieldType} {rest : List Value} (hret : meth.sig.returnType = some t) (hlk : meth.locks = false) (ht : t = .boolean ∨ t = .byte ∨ t = .char ∨ t = .short)
    (hd : decode c.code pc = .ok (.ireturn, 1)) (eT : T.heap = h) (hQ : Q (some (.int (nar t z))) h locs) (hc : cells ≤ kc) (hs : slots ≤ ks) : own_W p e below s Q kc ks T (mkF m pc Ls (.int z :: rest)) := by
  obtain ⟨fs, hr, hrun, hended, hW, hsame⟩ := X.leave (v := some (.int (nar t z))) (fun q => by rw [hret] at q; cases q) hlk
  exact ⟨_, _, retN X hx hret ht hd hr, hrun, hended, _, _, rfl, (show Q (some (.int (nar t z))) T.heap locs from eT ▸ hQ), ⟨_, rfl⟩, hW, hsame.mono hc hs⟩
theorem own_ret0 (X : Stand p l e R s m args below meth c T locs cells slots) (hx : p.tables.exec = Jvm.exec) {pc : Nat} {Ls : Array Slot} (hret : meth.sig.returnType = none) (hlk : meth.locks = false)
    (hd : decode c.code pc = .ok (.return_, 1)) (eT : T.heap = h) (hQ : Q none h locs) (hc : cells ≤ kc) (hs : slots ≤ ks) : own_W p e below s Q kc ks T (mkF m pc Ls []) := by
  obtain ⟨fs, hr, hrun, hended, hW, hsame⟩ := X.leave (v := none) (fun _ => rfl) hlk
  exact ⟨_, _, X.returnOut hx hret hd hr, hrun, hended, _, _, rfl, (show Q none T.heap locs from eT ▸ hQ), ⟨_, rfl⟩, hW, hsame.mono hc hs⟩
def own_WS (p : Program) (e : Env) (below : List Frame) (s : State) (Q : Option Value → Heap → List Loc → Prop) (kc ks : Nat) (T : State) (g : JFrame) : Prop :=
  ∃ s₂ o, Steps p.tables e below (T.setTop g) s₂ ∧ s₂.status = .running ∧ Ended s₂ below o ∧ ∃ v L, o = .returned v ∧ Q v s₂.heap L ∧ ReturnedEndW s o s₂ L kc ks
theorem own_goS (st : ∀ t, Steps p.tables e below (T'.setTop g') t → Steps p.tables e below (T.setTop g) t) (k : own_WS p e below s Q kc ks T' g') : own_WS p e below s Q kc ks T g := by
  obtain ⟨s₂, o, h1, h2⟩ := k
  exact ⟨s₂, o, st _ h1, h2⟩
theorem own_endW {t : State} {o : Outcome} {L : List Loc} {k n k' n' : Nat} (q : ReturnedEndW s o t L k n) (h1 : k ≤ k') (h2 : n ≤ n') : ReturnedEndW s o t L k' n' := ⟨q.1, q.2.1, q.2.2.1, q.2.2.2.mono h1 h2⟩
theorem own_retS {vm1 : Vm} {n1 : Nat} (X : Stand p l e R (s.setVm vm1) m args below meth c T locs cells slots) (hS : s.Since vm1 n1) (hx : p.tables.exec = Jvm.exec) {pc : Nat} {Ls : Array Slot} {w : Value} {t : FieldType} {i : Instr} {rest : List Value} (hret : meth.sig.returnType = some t) (hlk : meth.locks = false) (hn : narrow t w = w)
    (hi : (i = .ireturn ∧ (t = .int ∨ t = .boolean ∨ t = .byte ∨ t = .char ∨ t = .short) ∧ ∃ z, w = .int z) ∨ (i = .lreturn ∧ t = .long ∧ ∃ z, w = .long z) ∨ (i = .dreturn ∧ t = .double ∧ ∃ z, w = .double z) ∨ (i = .freturn ∧ t = .float ∧ ∃ z, w = .float z) ∨ (i = .areturn ∧ t.isReference = true ∧ w.isRef = true))
    (hd : decode c.code pc = .ok (i, 1)) (eT : T.heap = h) (hk : n1 ≤ h.size) (hQ : Q (some w) h locs) (hc : cells ≤ kc) (hs : slots ≤ ks) : own_WS p e below s Q kc ks T (mkF m pc Ls (w :: rest)) := by
  obtain ⟨fs, hr, hrun, hended, hW⟩ := X.leaveW hS (eT ▸ hk) (v := some w) (fun q => by rw [hret] at q; cases q) hlk
  exact ⟨_, _, retOut X hx hret hn hi hd hr, hrun, hended, _, _, rfl, (show Q (some w) T.heap locs from eT ▸ hQ), own_endW hW hc hs⟩
theorem own_retNS {vm1 : Vm} {n1 : Nat} (X : Stand p l e R (s.setVm vm1) m args below meth c T locs cells slots) (hS : s.Since vm1 n1) (hx : p.tables.exec = Jvm.exec) {pc : Nat} {Ls : Array Slot} {z : Int32} {t : FieldType} {rest : List Value} (hret : meth.sig.returnType = some t) (hlk : meth.locks = false) (ht : t = .boolean ∨ t = .byte ∨ t = .char ∨ t = .short)
    (hd : decode c.code pc = .ok (.ireturn, 1)) (eT : T.heap = h) (hk : n1 ≤ h.size) (hQ : Q (some (.int (nar t z))) h locs) (hc : cells ≤ kc) (hs : slots ≤ ks) : own_WS p e below s Q kc ks T (mkF m pc Ls (.int z :: rest)) := by
  obtain ⟨fs, hr, hrun, hended, hW⟩ := X.leaveW hS (eT ▸ hk) (v := some (.int (nar t z))) (fun q => by rw [hret] at q; cases q) hlk
  exact ⟨_, _, retN X hx hret ht hd hr, hrun, hended, _, _, rfl, (show Q (some (.int (nar t z))) T.heap locs from eT ▸ hQ), own_endW hW hc hs⟩
theorem own_ret0S {vm1 : Vm} {n1 : Nat} (X : Stand p l e R (s.setVm vm1) m args below meth c T locs cells slots) (hS : s.Since vm1 n1) (hx : p.tables.exec = Jvm.exec) {pc : Nat} {Ls : Array Slot} (hret : meth.sig.returnType = none) (hlk : meth.locks = false)
    (hd : decode c.code pc = .ok (.return_, 1)) (eT : T.heap = h) (hk : n1 ≤ h.size) (hQ : Q none h locs) (hc : cells ≤ kc) (hs : slots ≤ ks) : own_WS p e below s Q kc ks T (mkF m pc Ls []) := by
  obtain ⟨fs, hr, hrun, hended, hW⟩ := X.leaveW hS (eT ▸ hk) (v := none) (fun _ => rfl) hlk
  exact ⟨_, _, X.returnOut hx hret hd hr, hrun, hended, _, _, rfl, (show Q none T.heap locs from eT ▸ hQ), own_endW hW hc hs⟩
theorem own_ifc {α : Type} {c d : Prop} [Decidable c] [Decidable d] {x y : α} (h : c ↔ d) : (if c then x else y) = (if d then x else y) := by
  by_cases q : c
  · rw [if_pos q, if_pos (h.mp q)]
  · rw [if_neg q, if_neg (fun z => q (h.mpr z))]
theorem own_sta_keep {Z : State} {h h' : Heap} {C n d : String} {v : Value} {ws : List Addr} (F : Sta Z h C n d v) (K : Keep h h' ws) (q : ∀ x ∈ ws, ∀ cell : Cell, h[x]? = some cell → cell.vm.isStatics = false) : Sta Z h' C n d v := by
  obtain ⟨cf, i, k, f, st, cell, h1, h2, h3, h4, h5, h6, h7⟩ := F
  exact ⟨cf, i, k, f, st, cell, h1, h2, h3, h4, K.2.1 _ _ h5 (fun hm => by rw [q _ hm _ h5] at h6; cases h6), h6, h7⟩
end Own
theorem d1_0 : decode prog_16_method_1_code 0 = .ok (.aload_n 0, 1) := by decide +kernel
theorem d1_1 : decode prog_16_method_1_code 1 = .ok (.invokespecial 1, 3) := by decide +kernel
theorem d1_4 : decode prog_16_method_1_code 4 = .ok (.aload_n 0, 1) := by decide +kernel
theorem d1_5 : decode prog_16_method_1_code 5 = .ok (.getstatic 7, 3) := by decide +kernel
theorem d1_8 : decode prog_16_method_1_code 8 = .ok (.putfield 13, 3) := by decide +kernel
theorem d1_11 : decode prog_16_method_1_code 11 = .ok (.aload_n 0, 1) := by decide +kernel
theorem d1_12 : decode prog_16_method_1_code 12 = .ok (.iconst (-1), 1) := by decide +kernel
theorem d1_13 : decode prog_16_method_1_code 13 = .ok (.putfield 18, 3) := by decide +kernel
theorem d1_16 : decode prog_16_method_1_code 16 = .ok (.return_, 1) := by decide +kernel
def Q_rm1 (Z : State) (r0 : Addr) (tu : Addr) (h0 : Heap) (n0 : Nat) (v : Option Value) (h : Heap) (L : List Loc) : Prop := v = none ∧ Fr n0 L ∧ Keep h0 h [r0] ∧ Fld Z h r0 "org/loopwright/Message" "mWhen" "J" (.long (0 : Int64)) ∧ Fld Z h r0 "org/loopwright/Message" "mSeq" "J" (.long (0 : Int64)) ∧ Fld Z h r0 "org/loopwright/Message" "mDueUnit" "Ljava/util/concurrent/TimeUnit;" (.ref tu) ∧ Fld Z h r0 "org/loopwright/Message" "mHeapAt" "I" (.int (-1 : Int32)) ∧ Exa Z h r0 "org/loopwright/Message"
theorem ef_rm1 (m : MethodId) (x0 : Addr) : entryFrame m #[(.ref x0)] 1 = mkF m 0 #[.val (.ref x0)] [] := by first | (simp [entryFrame, mkF, argsToLocals, Value.category]; done) | rfl
theorem pn_rm1 : plainName "org/loopwright/Message" = true := by first | (simp [plainName, overriddenIn]; done) | decide +kernel
set_option maxRecDepth 65536 in
set_option maxHeartbeats 40000000 in
theorem rm1 (l : Launch) (Z : State) (a0 : Array Value) (hw : ∀ d ∈ tables_1, d.before a0 Z = true) (ws : List Jvm.Cond) (r0 : Addr) (tu : Addr) (h0 : Heap) (n0 : Nat) (Z0 : n0 ≤ h0.size) (hp0 : Exa Z h0 r0 "org/loopwright/Message") (hp1 : n0 ≤ r0) (hp2 : Fld Z h0 r0 "org/loopwright/Message" "mDueUnit" "Ljava/util/concurrent/TimeUnit;" .null) (hp3 : Fld Z h0 r0 "org/loopwright/Message" "mHeapAt" "I" (.int (0 : Int32))) (hp4 : Fld Z h0 r0 "org/loopwright/Message" "mWhen" "J" (.long (0 : Int64))) (hp5 : Fld Z h0 r0 "org/loopwright/Message" "mSeq" "J" (.long (0 : Int64))) (hp6 : Sta Z h0 "java/util/concurrent/TimeUnit" "MILLISECONDS" "Ljava/util/concurrent/TimeUnit;" (.ref tu)) :
    MetFree l (⟨"org/loopwright/Message", "<init>", "()V"⟩ : MethodName) (head1 (Jvm.Cond.code (⟨"org/loopwright/Message", "<init>", "()V"⟩ : MethodName) prog_16_method_1_code 1 none :: ws) ({ frames := 1, cells := 0, slots := 0, locals := 12 } : Room)) (fun a U => a = #[(.ref r0)] ∧ Z.Warmed39 U.vm ∧ U.heap = h0) (fun _ _ _ _ _ => True) (fun _ U o U' => ∃ v L, o = .returned v ∧ Q_rm1 Z r0 tu h0 n0 v U'.heap L ∧ FrameEnd U o U' L ({ frames := 1, cells := 0, slots := 0, locals := 12 } : Room).cells ({ frames := 1, cells := 0, slots := 0, locals := 12 } : Room).slots) := by
  refine MetFree.of_bodySF (plainFor_of_name pn_rm1) hisR ?_
  intro p e s m args below meth c s₁ Bd hml0 hP hK
  obtain ⟨rfl, hZ, hh⟩ := hP
  have hx := Bd.exec
  have hby := Bd.bytes
  have hml : c.maxLocals = 1 := hml0
  have hown : s.vm.findClass "org/loopwright/Message" = some m.cls := findClass_of_methodNamed Bd.named
  have hnm := (name_of_methodNamed Bd.named Bd.method).1
  have hlk : meth.locks = false := BodyLoose.notSynchronized Bd
  have X0 : Stand p l e ({ frames := 1, cells := 0, slots := 0, locals := 12 } : Room) s m #[(.ref r0)] below meth c s₁ [] 0 0 := Stand.of_body Bd
  have e0 : s₁.heap = h0 := by rw [← hh, Bd.state]; rfl
  have N0 := Fr.nil n0
  show own_W p e below s (Q_rm1 Z r0 tu h0 n0) 0 0 s₁ (entryFrame m #[(.ref r0)] 1)
  skip
  skip
  refine own_go (T' := s₁) (g' := (mkF m 0 #[.val (.ref r0)] [])) (fun _ k => castTop (ef_rm1 m r0) k) ?_
  refine own_go (T' := s₁) (g' := (mkF m 1 #[.val (.ref r0)] [(.ref r0)])) (fun _ k => XS.aloadN X0.here hx rfl (hb hby d1_0) rfl rfl k) ?_
  obtain ⟨T1, X1, e1, st1⟩ := initO X0 hx hZ hown (hw _ (List.mem_of_getElem? (i := 6) rfl)) (hw _ (List.mem_of_getElem? (i := 7) rfl)) (hw _ (List.mem_of_getElem? (i := 8) rfl)) e0 (g := (mkF m 1 #[.val (.ref r0)] [(.ref r0)])) rfl (by rw [hml]; rfl) rfl (hb hby d1_1) (by decide) (W := 0) (by show 2 * 0 + _ ≤ _; exact Nat.le_of_eq rfl) (by decide)
  refine own_go (T' := T1) (g' := (mkF m 4 #[.val (.ref r0)] [])) (fun _ k => st1 _ k) ?_
  refine own_go (T' := T1) (g' := (mkF m 5 #[.val (.ref r0)] [(.ref r0)])) (fun _ k => XS.aloadN X1.here hx rfl (hb hby d1_4) rfl rfl k) ?_
  obtain ⟨T2, X2, e2, st2⟩ := getS2 X1 hx hZ hown (host := "") (Or.inl (hw _ (List.mem_of_getElem? (i := 9) rfl))) Via.refl e1 hp6 (g := (mkF m 5 #[.val (.ref r0)] [(.ref r0)])) rfl (hb hby d1_5)
  refine own_go (T' := T2) (g' := (mkF m 8 #[.val (.ref r0)] [(.ref tu), (.ref r0)])) (fun _ k => st2 _ k) ?_
  obtain ⟨T3, h3, X3, e3, W3, st3⟩ := putF X2 hx hZ hown (host := "") (Or.inl (hw _ (List.mem_of_getElem? (i := 11) rfl))) Via.refl e2 hp2 hp0 (Or.inl (hw _ (List.mem_of_getElem? (i := 12) rfl))) (hw _ (List.mem_of_getElem? (i := 1) rfl)) (ty := (.object "java/util/concurrent/TimeUnit")) (by decide) rfl rfl (g := (mkF m 8 #[.val (.ref r0)] [(.ref tu), (.ref r0)])) rfl rfl (hb hby d1_8)
  have f4 : Exa Z h3 r0 "org/loopwright/Message" := (hp0.wr W3)
  have f5 : Fld Z h3 r0 "org/loopwright/Message" "mHeapAt" "I" (.int (0 : Int32)) := (hp3.other W3 (Or.inr (slot_ne (Or.inl (hw _ (List.mem_of_getElem? (i := 14) rfl))) (Or.inl (hw _ (List.mem_of_getElem? (i := 12) rfl))) (by decide) (t := .int) (t' := (.object "java/util/concurrent/TimeUnit")) (by decide) (by decide))))
  have f6 : Fld Z h3 r0 "org/loopwright/Message" "mWhen" "J" (.long (0 : Int64)) := (hp4.other W3 (Or.inr (slot_ne (Or.inl (hw _ (List.mem_of_getElem? (i := 16) rfl))) (Or.inl (hw _ (List.mem_of_getElem? (i := 12) rfl))) (by decide) (t := .long) (t' := (.object "java/util/concurrent/TimeUnit")) (by decide) (by decide))))
  have f7 : Fld Z h3 r0 "org/loopwright/Message" "mSeq" "J" (.long (0 : Int64)) := (hp5.other W3 (Or.inr (slot_ne (Or.inl (hw _ (List.mem_of_getElem? (i := 18) rfl))) (Or.inl (hw _ (List.mem_of_getElem? (i := 12) rfl))) (by decide) (t := .long) (t' := (.object "java/util/concurrent/TimeUnit")) (by decide) (by decide))))
  have f8 : Sta Z h3 "java/util/concurrent/TimeUnit" "MILLISECONDS" "Ljava/util/concurrent/TimeUnit;" (.ref tu) := (hp6.wr W3)
  have fw3 : Fld Z h3 r0 "org/loopwright/Message" "mDueUnit" "Ljava/util/concurrent/TimeUnit;" (.ref tu) := hp2.same W3
  have N3 := Fr.snoc X3 N0 hp1
  have zs3 : n0 ≤ h3.size := by rw [W3.size]; exact Z0
  have kk3 : Keep h0 h3 [r0] := (Keep.refl h0 [r0]).wr W3 (Or.inl (List.mem_of_getElem? (i := 0) rfl))
  refine own_go (T' := T3) (g' := (mkF m 11 #[.val (.ref r0)] [])) (fun _ k => st3 _ k) ?_
  refine own_go (T' := T3) (g' := (mkF m 12 #[.val (.ref r0)] [(.ref r0)])) (fun _ k => XS.aloadN X3.here hx rfl (hb hby d1_11) rfl rfl k) ?_
  refine own_go (T' := T3) (g' := (mkF m 13 #[.val (.ref r0)] [(.int (-1 : Int32)), (.ref r0)])) (fun _ k => XS.iconst X3.here hx rfl (hb hby d1_12) k) ?_
  obtain ⟨T9, h9, X9, e9, W9, st9⟩ := putF X3 hx hZ hown (host := "") (Or.inl (hw _ (List.mem_of_getElem? (i := 13) rfl))) Via.refl e3 f5 f4 (Or.inl (hw _ (List.mem_of_getElem? (i := 14) rfl))) (hw _ (List.mem_of_getElem? (i := 1) rfl)) (ty := .int) (by decide) rfl rfl (g := (mkF m 13 #[.val (.ref r0)] [(.int (-1 : Int32)), (.ref r0)])) rfl rfl (hb hby d1_13)
  have f10 : Exa Z h9 r0 "org/loopwright/Message" := (f4.wr W9)
  have f11 : Fld Z h9 r0 "org/loopwright/Message" "mWhen" "J" (.long (0 : Int64)) := (f6.other W9 (Or.inr (slot_ne (Or.inl (hw _ (List.mem_of_getElem? (i := 16) rfl))) (Or.inl (hw _ (List.mem_of_getElem? (i := 14) rfl))) (by decide) (t := .long) (t' := .int) (by decide) (by decide))))
  have f12 : Fld Z h9 r0 "org/loopwright/Message" "mSeq" "J" (.long (0 : Int64)) := (f7.other W9 (Or.inr (slot_ne (Or.inl (hw _ (List.mem_of_getElem? (i := 18) rfl))) (Or.inl (hw _ (List.mem_of_getElem? (i := 14) rfl))) (by decide) (t := .long) (t' := .int) (by decide) (by decide))))
  have f13 : Sta Z h9 "java/util/concurrent/TimeUnit" "MILLISECONDS" "Ljava/util/concurrent/TimeUnit;" (.ref tu) := (f8.wr W9)
  have f14 : Fld Z h9 r0 "org/loopwright/Message" "mDueUnit" "Ljava/util/concurrent/TimeUnit;" (.ref tu) := (fw3.other W9 (Or.inr (slot_ne (Or.inl (hw _ (List.mem_of_getElem? (i := 12) rfl))) (Or.inl (hw _ (List.mem_of_getElem? (i := 14) rfl))) (by decide) (t := (.object "java/util/concurrent/TimeUnit")) (t' := .int) (by decide) (by decide))))
  have fw9 : Fld Z h9 r0 "org/loopwright/Message" "mHeapAt" "I" (.int (-1 : Int32)) := f5.same W9
  have N9 := Fr.snoc X9 N3 hp1
  have zs9 : n0 ≤ h9.size := by rw [W9.size]; exact zs3
  have kk9 : Keep h0 h9 [r0] := kk3.wr W9 (Or.inl (List.mem_of_getElem? (i := 0) rfl))
  refine own_go (T' := T9) (g' := (mkF m 16 #[.val (.ref r0)] [])) (fun _ k => st9 _ k) ?_
  exact own_ret0 X9 hx Bd.returns hlk (hb hby d1_16) e9 ⟨rfl, N9, kk9, f11, f12, f14, fw9, f10⟩ (by decide) (by decide)
def own_prec (r0 : Addr) (q1 : Int64) (q2 : Int64) (wn : Int64) (sq : Int64) : Int32 := (if wn < q1 then (1 : Int32) else (if wn = q1 then (if sq < q2 then (1 : Int32) else (0 : Int32)) else (0 : Int32)))
theorem d3_0 : decode prog_18_method_9_code 0 = .ok (.aload_n 0, 1) := by decide +kernel
theorem d3_1 : decode prog_18_method_9_code 1 = .ok (.getfield 131, 3) := by decide +kernel
theorem d3_4 : decode prog_18_method_9_code 4 = .ok (.lload_n 1, 1) := by decide +kernel
theorem d3_5 : decode prog_18_method_9_code 5 = .ok (.lcmp, 1) := by decide +kernel
theorem d3_6 : decode prog_18_method_9_code 6 = .ok (.ifCond .lt 21, 3) := by decide +kernel
theorem d3_9 : decode prog_18_method_9_code 9 = .ok (.aload_n 0, 1) := by decide +kernel
theorem d3_10 : decode prog_18_method_9_code 10 = .ok (.getfield 131, 3) := by decide +kernel
theorem d3_13 : decode prog_18_method_9_code 13 = .ok (.lload_n 1, 1) := by decide +kernel
theorem d3_14 : decode prog_18_method_9_code 14 = .ok (.lcmp, 1) := by decide +kernel
theorem d3_15 : decode prog_18_method_9_code 15 = .ok (.ifCond .ne 16, 3) := by decide +kernel
theorem d3_18 : decode prog_18_method_9_code 18 = .ok (.aload_n 0, 1) := by decide +kernel
theorem d3_19 : decode prog_18_method_9_code 19 = .ok (.getfield 135, 3) := by decide +kernel
theorem d3_22 : decode prog_18_method_9_code 22 = .ok (.lload_n 3, 1) := by decide +kernel
theorem d3_23 : decode prog_18_method_9_code 23 = .ok (.lcmp, 1) := by decide +kernel
theorem d3_24 : decode prog_18_method_9_code 24 = .ok (.ifCond .ge 7, 3) := by decide +kernel
theorem d3_27 : decode prog_18_method_9_code 27 = .ok (.iconst 1, 1) := by decide +kernel
theorem d3_28 : decode prog_18_method_9_code 28 = .ok (.goto 4, 3) := by decide +kernel
theorem d3_31 : decode prog_18_method_9_code 31 = .ok (.iconst 0, 1) := by decide +kernel
theorem d3_32 : decode prog_18_method_9_code 32 = .ok (.ireturn, 1) := by decide +kernel
def Q_rm2 (Z : State) (r0 : Addr) (q1 : Int64) (q2 : Int64) (wn : Int64) (sq : Int64) (h0 : Heap) (n0 : Nat) (v : Option Value) (h : Heap) (L : List Loc) : Prop := v = some (.int (own_prec r0 q1 q2 wn sq)) ∧ Fr n0 L ∧ h = h0
theorem ef_rm2 (m : MethodId) (x0 : Addr) (x1 : Int64) (x2 : Int64) : entryFrame m #[(.ref x0), (.long x1), (.long x2)] 5 = mkF m 0 #[.val (.ref x0), .val (.long x1), .second, .val (.long x2), .second] [] := by first | (simp [entryFrame, mkF, argsToLocals, Value.category]; done) | rfl
theorem pn_rm2 : plainName "org/loopwright/MessageHeap" = true := by first | (simp [plainName, overriddenIn]; done) | decide +kernel
set_option maxRecDepth 65536 in
set_option maxHeartbeats 40000000 in
theorem rm2 (l : Launch) (Z : State) (a0 : Array Value) (hw : ∀ d ∈ tables_1, d.before a0 Z = true) (ws : List Jvm.Cond) (r0 : Addr) (q1 : Int64) (q2 : Int64) (wn : Int64) (sq : Int64) (h0 : Heap) (n0 : Nat) (Z0 : n0 ≤ h0.size) (hp0 : Fld Z h0 r0 "org/loopwright/Message" "mWhen" "J" (.long wn)) (hp1 : Fld Z h0 r0 "org/loopwright/Message" "mSeq" "J" (.long sq)) :
    MetFree l (⟨"org/loopwright/MessageHeap", "precedes", "(Lorg/loopwright/Message;JJ)Z"⟩ : MethodName) (head1 (Jvm.Cond.code (⟨"org/loopwright/MessageHeap", "precedes", "(Lorg/loopwright/Message;JJ)Z"⟩ : MethodName) prog_18_method_9_code 5 (some .boolean) :: ws) ({ frames := 0, cells := 0, slots := 0, locals := 0 } : Room)) (fun a U => a = #[(.ref r0), (.long q1), (.long q2)] ∧ Z.Warmed39 U.vm ∧ U.heap = h0) (fun _ _ _ _ _ => True) (fun _ U o U' => ∃ v L, o = .returned v ∧ Q_rm2 Z r0 q1 q2 wn sq h0 n0 v U'.heap L ∧ FrameEnd U o U' L ({ frames := 0, cells := 0, slots := 0, locals := 0 } : Room).cells ({ frames := 0, cells := 0, slots := 0, locals := 0 } : Room).slots) := by
  refine MetFree.of_bodySF (plainFor_of_name pn_rm2) hisR ?_
  intro p e s m args below meth c s₁ Bd hml0 hP hK
  obtain ⟨rfl, hZ, hh⟩ := hP
  have hx := Bd.exec
  have hby := Bd.bytes
  have hml : c.maxLocals = 5 := hml0
  have hown : s.vm.findClass "org/loopwright/MessageHeap" = some m.cls := findClass_of_methodNamed Bd.named
  have hnm := (name_of_methodNamed Bd.named Bd.method).1
  have hlk : meth.locks = false := BodyLoose.notSynchronized Bd
  have X0 : Stand p l e ({ frames := 0, cells := 0, slots := 0, locals := 0 } : Room) s m #[(.ref r0), (.long q1), (.long q2)] below meth c s₁ [] 0 0 := Stand.of_body Bd
  have e0 : s₁.heap = h0 := by rw [← hh, Bd.state]; rfl
  have N0 := Fr.nil n0
  show own_W p e below s (Q_rm2 Z r0 q1 q2 wn sq h0 n0) 0 0 s₁ (entryFrame m #[(.ref r0), (.long q1), (.long q2)] 5)
  skip
  skip
  refine own_go (T' := s₁) (g' := (mkF m 0 #[.val (.ref r0), .val (.long q1), .second, .val (.long q2), .second] [])) (fun _ k => castTop (ef_rm2 m r0 q1 q2) k) ?_
  refine own_go (T' := s₁) (g' := (mkF m 1 #[.val (.ref r0), .val (.long q1), .second, .val (.long q2), .second] [(.ref r0)])) (fun _ k => XS.aloadN X0.here hx rfl (hb hby d3_0) rfl rfl k) ?_
  obtain ⟨T1, X1, e1, st1⟩ := getF X0 hx hZ hown (host := "") (Or.inl (hw _ (List.mem_of_getElem? (i := 23) rfl))) Via.refl e0 hp0 (g := (mkF m 1 #[.val (.ref r0), .val (.long q1), .second, .val (.long q2), .second] [(.ref r0)])) rfl rfl (hb hby d3_1)
  refine own_go (T' := T1) (g' := (mkF m 4 #[.val (.ref r0), .val (.long q1), .second, .val (.long q2), .second] [(.long wn)])) (fun _ k => st1 _ k) ?_
  refine own_go (T' := T1) (g' := (mkF m 5 #[.val (.ref r0), .val (.long q1), .second, .val (.long q2), .second] [(.long q1), (.long wn)])) (fun _ k => XT.lloadN X1.here hx rfl (hb hby d3_4) rfl k) ?_
  refine own_go (T' := T1) (g' := (mkF m 6 #[.val (.ref r0), .val (.long q1), .second, .val (.long q2), .second] [(.int (XT.cmpL wn q1))])) (fun _ k => XT.lcmp X1.here hx rfl (hb hby d3_5) rfl k) ?_
  by_cases hc6_2 : wn < q1
  · skip
    refine own_go (T' := T1) (g' := (mkF m 27 #[.val (.ref r0), .val (.long q1), .second, .val (.long q2), .second] [])) (fun _ k => XS.ifYes X1.here hx rfl (pc0 := 6) (pc' := 27) rfl (hb hby d3_6) rfl (XT.ll_lt_t hc6_2) (by decide) (by decide) k) ?_
    refine own_go (T' := T1) (g' := (mkF m 28 #[.val (.ref r0), .val (.long q1), .second, .val (.long q2), .second] [(.int (1 : Int32))])) (fun _ k => XS.iconst X1.here hx rfl (hb hby d3_27) k) ?_
    refine own_go (T' := T1) (g' := (mkF m 32 #[.val (.ref r0), .val (.long q1), .second, .val (.long q2), .second] [(.int (1 : Int32))])) (fun _ k => XS.goto X1.here hx rfl (pc0 := 28) (pc' := 32) rfl (hb hby d3_28) (by decide) (by decide) k) ?_
    exact own_retN X1 hx (t := .boolean) Bd.returns hlk (by simp) (hb hby d3_32) e1 ⟨(by unfold own_prec; first | (rw [if_pos hc6_2]; done) | (rw [if_pos hc6_2]; rfl)), N0, rfl⟩ (by decide) (by decide)
  · skip
    refine own_go (T' := T1) (g' := (mkF m 9 #[.val (.ref r0), .val (.long q1), .second, .val (.long q2), .second] [])) (fun _ k => XS.ifNo X1.here hx rfl (hb hby d3_6) rfl (XT.ll_lt_f hc6_2) k) ?_
    refine own_go (T' := T1) (g' := (mkF m 10 #[.val (.ref r0), .val (.long q1), .second, .val (.long q2), .second] [(.ref r0)])) (fun _ k => XS.aloadN X1.here hx rfl (hb hby d3_9) rfl rfl k) ?_
    obtain ⟨T3, X3, e3, st3⟩ := getF X1 hx hZ hown (host := "") (Or.inl (hw _ (List.mem_of_getElem? (i := 23) rfl))) Via.refl e1 hp0 (g := (mkF m 10 #[.val (.ref r0), .val (.long q1), .second, .val (.long q2), .second] [(.ref r0)])) rfl rfl (hb hby d3_10)
    refine own_go (T' := T3) (g' := (mkF m 13 #[.val (.ref r0), .val (.long q1), .second, .val (.long q2), .second] [(.long wn)])) (fun _ k => st3 _ k) ?_
    refine own_go (T' := T3) (g' := (mkF m 14 #[.val (.ref r0), .val (.long q1), .second, .val (.long q2), .second] [(.long q1), (.long wn)])) (fun _ k => XT.lloadN X3.here hx rfl (hb hby d3_13) rfl k) ?_
    refine own_go (T' := T3) (g' := (mkF m 15 #[.val (.ref r0), .val (.long q1), .second, .val (.long q2), .second] [(.int (XT.cmpL wn q1))])) (fun _ k => XT.lcmp X3.here hx rfl (hb hby d3_14) rfl k) ?_
    by_cases hc15_4 : wn = q1
    · skip
      refine own_go (T' := T3) (g' := (mkF m 18 #[.val (.ref r0), .val (.long q1), .second, .val (.long q2), .second] [])) (fun _ k => XS.ifNo X3.here hx rfl (hb hby d3_15) rfl (XT.ll_ne_f hc15_4) k) ?_
      refine own_go (T' := T3) (g' := (mkF m 19 #[.val (.ref r0), .val (.long q1), .second, .val (.long q2), .second] [(.ref r0)])) (fun _ k => XS.aloadN X3.here hx rfl (hb hby d3_18) rfl rfl k) ?_
      obtain ⟨T5, X5, e5, st5⟩ := getF X3 hx hZ hown (host := "") (Or.inl (hw _ (List.mem_of_getElem? (i := 24) rfl))) Via.refl e3 hp1 (g := (mkF m 19 #[.val (.ref r0), .val (.long q1), .second, .val (.long q2), .second] [(.ref r0)])) rfl rfl (hb hby d3_19)
      refine own_go (T' := T5) (g' := (mkF m 22 #[.val (.ref r0), .val (.long q1), .second, .val (.long q2), .second] [(.long sq)])) (fun _ k => st5 _ k) ?_
      refine own_go (T' := T5) (g' := (mkF m 23 #[.val (.ref r0), .val (.long q1), .second, .val (.long q2), .second] [(.long q2), (.long sq)])) (fun _ k => XT.lloadN X5.here hx rfl (hb hby d3_22) rfl k) ?_
      refine own_go (T' := T5) (g' := (mkF m 24 #[.val (.ref r0), .val (.long q1), .second, .val (.long q2), .second] [(.int (XT.cmpL sq q2))])) (fun _ k => XT.lcmp X5.here hx rfl (hb hby d3_23) rfl k) ?_
      by_cases hc24_6 : sq < q2
      · skip
        refine own_go (T' := T5) (g' := (mkF m 27 #[.val (.ref r0), .val (.long q1), .second, .val (.long q2), .second] [])) (fun _ k => XS.ifNo X5.here hx rfl (hb hby d3_24) rfl (XT.ll_ge_f hc24_6) k) ?_
        refine own_go (T' := T5) (g' := (mkF m 28 #[.val (.ref r0), .val (.long q1), .second, .val (.long q2), .second] [(.int (1 : Int32))])) (fun _ k => XS.iconst X5.here hx rfl (hb hby d3_27) k) ?_
        refine own_go (T' := T5) (g' := (mkF m 32 #[.val (.ref r0), .val (.long q1), .second, .val (.long q2), .second] [(.int (1 : Int32))])) (fun _ k => XS.goto X5.here hx rfl (pc0 := 28) (pc' := 32) rfl (hb hby d3_28) (by decide) (by decide) k) ?_
        exact own_retN X5 hx (t := .boolean) Bd.returns hlk (by simp) (hb hby d3_32) e5 ⟨(by unfold own_prec; first | (rw [if_neg hc6_2, if_pos hc15_4, if_pos hc24_6]; done) | (rw [if_neg hc6_2, if_pos hc15_4, if_pos hc24_6]; rfl)), N0, rfl⟩ (by decide) (by decide)
      · skip
        refine own_go (T' := T5) (g' := (mkF m 31 #[.val (.ref r0), .val (.long q1), .second, .val (.long q2), .second] [])) (fun _ k => XS.ifYes X5.here hx rfl (pc0 := 24) (pc' := 31) rfl (hb hby d3_24) rfl (XT.ll_ge_t hc24_6) (by decide) (by decide) k) ?_
        refine own_go (T' := T5) (g' := (mkF m 32 #[.val (.ref r0), .val (.long q1), .second, .val (.long q2), .second] [(.int (0 : Int32))])) (fun _ k => XS.iconst X5.here hx rfl (hb hby d3_31) k) ?_
        exact own_retN X5 hx (t := .boolean) Bd.returns hlk (by simp) (hb hby d3_32) e5 ⟨(by unfold own_prec; first | (rw [if_neg hc6_2, if_pos hc15_4, if_neg hc24_6]; done) | (rw [if_neg hc6_2, if_pos hc15_4, if_neg hc24_6]; rfl)), N0, rfl⟩ (by decide) (by decide)
    · skip
      refine own_go (T' := T3) (g' := (mkF m 31 #[.val (.ref r0), .val (.long q1), .second, .val (.long q2), .second] [])) (fun _ k => XS.ifYes X3.here hx rfl (pc0 := 15) (pc' := 31) rfl (hb hby d3_15) rfl (XT.ll_ne_t hc15_4) (by decide) (by decide) k) ?_
      refine own_go (T' := T3) (g' := (mkF m 32 #[.val (.ref r0), .val (.long q1), .second, .val (.long q2), .second] [(.int (0 : Int32))])) (fun _ k => XS.iconst X3.here hx rfl (hb hby d3_31) k) ?_
      exact own_retN X3 hx (t := .boolean) Bd.returns hlk (by simp) (hb hby d3_32) e3 ⟨(by unfold own_prec; first | (rw [if_neg hc6_2, if_neg hc15_4]; done) | (rw [if_neg hc6_2, if_neg hc15_4]; rfl)), N0, rfl⟩ (by decide) (by decide)
theorem own_p (a b c : Addr) (w1 s1 wb sb x18 x19 x20 : Int64) : True := trivial
theorem own_aa (b : Addr) (w1 s1 : Int64) : own_prec b w1 s1 w1 s1 = 0 := by
  unfold own_prec
  rw [if_neg (Int64.lt_irrefl), if_pos rfl, if_neg (Int64.lt_irrefl)]
theorem own_ab (a : Addr) (w1 s1 wb sb : Int64) {E : Int32} (hE : E = if w1 = wb then (if s1 < sb then 1 else 0) else (if w1 < wb then 1 else 0)) : own_prec a wb sb w1 s1 = E := by
  subst hE
  unfold own_prec
  by_cases h1 : w1 < wb
  · have h2 : ¬ w1 = wb := fun q => by subst q; exact Int64.lt_irrefl h1
    rw [if_pos h1, if_neg h2, if_pos h1]
  · by_cases h2 : w1 = wb
    · rw [if_neg h1, if_pos h2, if_pos h2]
    · rw [if_neg h1, if_neg h2, if_neg h2, if_neg h1]
theorem own_same (a b : Addr) (w1 s1 wb sb : Int64) {S O : Int32} (hS : S = if w1 = wb then (if s1 = sb then 1 else 0) else 0)
    (hO : O = if S = 0 then (if own_prec a wb sb w1 s1 = own_prec b w1 s1 wb sb then 0 else 1) else (if own_prec a wb sb w1 s1 = 0 then (if own_prec b w1 s1 wb sb = 0 then 1 else 0) else 0)) : ¬ O = 0 := by
  subst hO
  subst hS
  have tri : ∀ x y : Int64, x < y ∨ x = y ∨ y < x := fun x y => by
    rcases Int.lt_trichotomy x.toInt y.toInt with q | q | q
    · exact Or.inl (Int64.lt_iff_toInt_lt.mpr q)
    · exact Or.inr (Or.inl (Int64.toInt_inj.mp q))
    · exact Or.inr (Or.inr (Int64.lt_iff_toInt_lt.mpr q))
  have asy : ∀ {x y : Int64}, x < y → ¬ y < x := fun {x y} h q => by rw [Int64.lt_iff_toInt_lt] at h q; omega
  have irr : ∀ {x y : Int64}, x < y → ¬ x = y := fun {x y} h q => by subst q; exact Int64.lt_irrefl h
  rcases tri w1 wb with h | h | h
  · unfold own_prec
    simp [h, asy h, irr h, Ne.symm (irr h)]
  · subst h
    rcases tri s1 sb with g | g | g
    · unfold own_prec
      simp [g, asy g, irr g, Ne.symm (irr g), Int64.lt_irrefl]
    · subst g
      unfold own_prec
      simp [Int64.lt_irrefl]
    · unfold own_prec
      simp [g, asy g, irr g, Ne.symm (irr g), Int64.lt_irrefl]
  · unfold own_prec
    simp [h, asy h, irr h, Ne.symm (irr h)]

theorem own_pd0 : parseMethodDescriptor "()V" = some ⟨[], none⟩ := by decide +kernel
theorem own_pd1 : parseMethodDescriptor "(Lorg/loopwright/Message;JJ)Z" = some ⟨[(.object "org/loopwright/Message"), .long, .long], some .boolean⟩ := by decide +kernel
def Q_rm0 (Z : State) (q0 : Int64) (q1 : Int64) (q2 : Int64) (q3 : Int64) (p4 : Int32) (tu : Addr) (h0 : Heap) (n0 : Nat) (v : Option Value) (h : Heap) (L : List Loc) : Prop := v = some (.int 1) ∧ Fr n0 L
theorem ef_rm0 (m : MethodId) (x0 : Int64) (x1 : Int64) (x2 : Int64) (x3 : Int64) (x4 : Int32) : entryFrame m #[(.long x0), (.long x1), (.long x2), (.long x3), (.int x4)] maxLocals = mkF m 0 #[.val (.long x0), .second, .val (.long x1), .second, .val (.long x2), .second, .val (.long x3), .second, .val (.int x4), .unset, .unset, .unset, .unset, .unset, .unset, .unset, .unset, .unset, .unset, .unset, .unset] [] := by first | (simp [entryFrame, mkF, argsToLocals, Value.category, maxLocals]; done) | rfl
theorem pn_rm0 : plainName "org/loopwright/MessageHeapPrecedesPinLaw" = true := by first | (simp [plainName, overriddenIn]; done) | decide +kernel
set_option maxRecDepth 65536 in
set_option maxHeartbeats 40000000 in
theorem rm0 (l : Launch) (Z : State) (a0 : Array Value) (hw : ∀ d ∈ tables_1, d.before a0 Z = true) (ws : List Jvm.Cond) (q0 : Int64) (q1 : Int64) (q2 : Int64) (q3 : Int64) (p4 : Int32) (tu : Addr) (h0 : Heap) (n0 : Nat) (Z0 : n0 ≤ h0.size) (hp0 : Sta Z h0 "java/util/concurrent/TimeUnit" "MILLISECONDS" "Ljava/util/concurrent/TimeUnit;" (.ref tu)) :
    MetFree l x (head1 (Jvm.Cond.code x code maxLocals ret :: ws) room_1) (fun a U => a = #[(.long q0), (.long q1), (.long q2), (.long q3), (.int p4)] ∧ Z.Warmed39 U.vm ∧ U.heap = h0) (fun _ _ _ _ _ => True) (fun _ U o U' => ∃ v L, o = .returned v ∧ Q_rm0 Z q0 q1 q2 q3 p4 tu h0 n0 v U'.heap L ∧ FrameEnd U o U' L 16 192) := by
  refine MetFree.of_bodySF (plainFor_of_name pn_rm0) hisR ?_
  intro p e s m args below meth c s₁ Bd hml0 hP hK
  obtain ⟨rfl, hZ, hh⟩ := hP
  have hx := Bd.exec
  have hby := Bd.bytes
  have hml : c.maxLocals = 21 := hml0
  have hown : s.vm.findClass "org/loopwright/MessageHeapPrecedesPinLaw" = some m.cls := findClass_of_methodNamed Bd.named
  have hnm := (name_of_methodNamed Bd.named Bd.method).1
  have hlk : meth.locks = false := BodyLoose.notSynchronized Bd
  have X0 : Stand p l e room_1 s m #[(.long q0), (.long q1), (.long q2), (.long q3), (.int p4)] below meth c s₁ [] 0 0 := Stand.of_body Bd
  have e0 : s₁.heap = h0 := by rw [← hh, Bd.state]; rfl
  have N0 := Fr.nil n0
  show own_W p e below s (Q_rm0 Z q0 q1 q2 q3 p4 tu h0 n0) 16 192 s₁ (entryFrame m #[(.long q0), (.long q1), (.long q2), (.long q3), (.int p4)] maxLocals)
  skip
  skip
  refine own_go (T' := s₁) (g' := (mkF m 0 #[.val (.long q0), .second, .val (.long q1), .second, .val (.long q2), .second, .val (.long q3), .second, .val (.int p4), .unset, .unset, .unset, .unset, .unset, .unset, .unset, .unset, .unset, .unset, .unset, .unset] [])) (fun _ k => castTop (ef_rm0 m q0 q1 q2 q3 p4) k) ?_
  refine own_go (T' := s₁) (g' := (mkF m 2 #[.val (.long q0), .second, .val (.long q1), .second, .val (.long q2), .second, .val (.long q3), .second, .val (.int p4), .unset, .unset, .unset, .unset, .unset, .unset, .unset, .unset, .unset, .unset, .unset, .unset] [(.int p4)])) (fun _ k => XS.iload X0.here hx rfl (hb hby at_0) rfl k) ?_
  refine own_go (T' := s₁) (g' := (mkF m 3 #[.val (.long q0), .second, .val (.long q1), .second, .val (.long q2), .second, .val (.long q3), .second, .val (.int p4), .unset, .unset, .unset, .unset, .unset, .unset, .unset, .unset, .unset, .unset, .unset, .unset] [(.int (1 : Int32)), (.int p4)])) (fun _ k => XS.iconst X0.here hx rfl (hb hby at_2) k) ?_
  refine own_go (T' := s₁) (g' := (mkF m 4 #[.val (.long q0), .second, .val (.long q1), .second, .val (.long q2), .second, .val (.long q3), .second, .val (.int p4), .unset, .unset, .unset, .unset, .unset, .unset, .unset, .unset, .unset, .unset, .unset, .unset] [(.int (p4 &&& (1 : Int32)))])) (fun _ k => XS.iand X0.here hx rfl (hb hby at_3) rfl k) ?_
  have J13_1 : ∀ (xS0_1 : Int64) (hxS0_1 : xS0_1 = (if (p4 &&& (1 : Int32)) = (0 : Int32) then q2 else q0)), own_W p e below s (Q_rm0 Z q0 q1 q2 q3 p4 tu h0 n0) 16 192 s₁ (mkF m 13 #[.val (.long q0), .second, .val (.long q1), .second, .val (.long q2), .second, .val (.long q3), .second, .val (.int p4), .unset, .unset, .unset, .unset, .unset, .unset, .unset, .unset, .unset, .unset, .unset, .unset] [(.long xS0_1)]) := by
    intro xS0_1 hxS0_1
    refine own_go (T' := s₁) (g' := (mkF m 15 #[.val (.long q0), .second, .val (.long q1), .second, .val (.long q2), .second, .val (.long q3), .second, .val (.int p4), .val (.long xS0_1), .second, .unset, .unset, .unset, .unset, .unset, .unset, .unset, .unset, .unset, .unset] [])) (fun _ k => XT.lstore X0.here hx rfl (hb hby at_13) rfl (l' := #[.val (.long q0), .second, .val (.long q1), .second, .val (.long q2), .second, .val (.long q3), .second, .val (.int p4), .val (.long xS0_1), .second, .unset, .unset, .unset, .unset, .unset, .unset, .unset, .unset, .unset, .unset]) rfl k) ?_
    refine own_go (T' := s₁) (g' := (mkF m 17 #[.val (.long q0), .second, .val (.long q1), .second, .val (.long q2), .second, .val (.long q3), .second, .val (.int p4), .val (.long xS0_1), .second, .unset, .unset, .unset, .unset, .unset, .unset, .unset, .unset, .unset, .unset] [(.int p4)])) (fun _ k => XS.iload X0.here hx rfl (hb hby at_15) rfl k) ?_
    refine own_go (T' := s₁) (g' := (mkF m 18 #[.val (.long q0), .second, .val (.long q1), .second, .val (.long q2), .second, .val (.long q3), .second, .val (.int p4), .val (.long xS0_1), .second, .unset, .unset, .unset, .unset, .unset, .unset, .unset, .unset, .unset, .unset] [(.int (2 : Int32)), (.int p4)])) (fun _ k => XS.iconst X0.here hx rfl (hb hby at_17) k) ?_
    refine own_go (T' := s₁) (g' := (mkF m 19 #[.val (.long q0), .second, .val (.long q1), .second, .val (.long q2), .second, .val (.long q3), .second, .val (.int p4), .val (.long xS0_1), .second, .unset, .unset, .unset, .unset, .unset, .unset, .unset, .unset, .unset, .unset] [(.int (p4 &&& (2 : Int32)))])) (fun _ k => XS.iand X0.here hx rfl (hb hby at_18) rfl k) ?_
    have J28_2 : ∀ (xS0_2 : Int64) (hxS0_2 : xS0_2 = (if (p4 &&& (2 : Int32)) = (0 : Int32) then q3 else q1)), own_W p e below s (Q_rm0 Z q0 q1 q2 q3 p4 tu h0 n0) 16 192 s₁ (mkF m 28 #[.val (.long q0), .second, .val (.long q1), .second, .val (.long q2), .second, .val (.long q3), .second, .val (.int p4), .val (.long xS0_1), .second, .unset, .unset, .unset, .unset, .unset, .unset, .unset, .unset, .unset, .unset] [(.long xS0_2)]) := by
      intro xS0_2 hxS0_2
      refine own_go (T' := s₁) (g' := (mkF m 30 #[.val (.long q0), .second, .val (.long q1), .second, .val (.long q2), .second, .val (.long q3), .second, .val (.int p4), .val (.long xS0_1), .second, .val (.long xS0_2), .second, .unset, .unset, .unset, .unset, .unset, .unset, .unset, .unset] [])) (fun _ k => XT.lstore X0.here hx rfl (hb hby at_28) rfl (l' := #[.val (.long q0), .second, .val (.long q1), .second, .val (.long q2), .second, .val (.long q3), .second, .val (.int p4), .val (.long xS0_1), .second, .val (.long xS0_2), .second, .unset, .unset, .unset, .unset, .unset, .unset, .unset, .unset]) rfl k) ?_
      obtain ⟨T3, h3, X3, e3, E3, A3, D3, -, st3⟩ := newO X0 hx hZ hown (hw _ (List.mem_of_getElem? (i := 0) rfl)) (hw _ (List.mem_of_getElem? (i := 1) rfl)) (hw _ (List.mem_of_getElem? (i := 2) rfl)) e0 (g := (mkF m 30 #[.val (.long q0), .second, .val (.long q1), .second, .val (.long q2), .second, .val (.long q3), .second, .val (.int p4), .val (.long xS0_1), .second, .val (.long xS0_2), .second, .unset, .unset, .unset, .unset, .unset, .unset, .unset, .unset] [])) rfl (hb hby at_30) (by decide) (by decide)
      obtain ⟨b3, g3⟩ : ∃ z, z = h0.size := ⟨_, rfl⟩
      rw [← g3] at A3 D3 st3
      have f4 : Sta Z h3 "java/util/concurrent/TimeUnit" "MILLISECONDS" "Ljava/util/concurrent/TimeUnit;" (.ref tu) := (hp0.ext E3)
      have fn5 : Fld Z h3 b3 "org/loopwright/Message" "mDueUnit" "Ljava/util/concurrent/TimeUnit;" .null := D3 (Or.inl (hw _ (List.mem_of_getElem? (i := 12) rfl))) (ty := (.object "java/util/concurrent/TimeUnit")) (by decide)
      have fn6 : Fld Z h3 b3 "org/loopwright/Message" "mHeapAt" "I" (.int (0 : Int32)) := D3 (Or.inl (hw _ (List.mem_of_getElem? (i := 14) rfl))) (ty := .int) (by decide)
      have fn7 : Fld Z h3 b3 "org/loopwright/Message" "mWhen" "J" (.long (0 : Int64)) := D3 (Or.inl (hw _ (List.mem_of_getElem? (i := 16) rfl))) (ty := .long) (by decide)
      have fn8 : Fld Z h3 b3 "org/loopwright/Message" "mSeq" "J" (.long (0 : Int64)) := D3 (Or.inl (hw _ (List.mem_of_getElem? (i := 18) rfl))) (ty := .long) (by decide)
      have ge3 : n0 ≤ b3 := Nat.le_trans Z0 (Nat.le_of_eq g3.symm)
      have zs3 : n0 ≤ h3.size := Nat.le_trans Z0 E3.1
      refine own_go (T' := T3) (g' := (mkF m 33 #[.val (.long q0), .second, .val (.long q1), .second, .val (.long q2), .second, .val (.long q3), .second, .val (.int p4), .val (.long xS0_1), .second, .val (.long xS0_2), .second, .unset, .unset, .unset, .unset, .unset, .unset, .unset, .unset] [(.ref b3)])) (fun _ k => st3 _ k) ?_
      refine own_go (T' := T3) (g' := (mkF m 34 #[.val (.long q0), .second, .val (.long q1), .second, .val (.long q2), .second, .val (.long q3), .second, .val (.int p4), .val (.long xS0_1), .second, .val (.long xS0_2), .second, .unset, .unset, .unset, .unset, .unset, .unset, .unset, .unset] [(.ref b3), (.ref b3)])) (fun _ k => XS.dup X3.here hx rfl (hb hby at_33) rfl rfl k) ?_
      obtain ⟨_, _, ⟨T9, L9, k9, n9⟩, -, X9, ⟨Lc9, hQ9, l9, y9, z9⟩, st9⟩ := X3.specialBack hx (y := (⟨"org/loopwright/Message", "<init>", "()V"⟩ : MethodName)) rfl hown (mvT hZ (hw _ (List.mem_of_getElem? (i := 3) rfl))) (mvT hZ (hw _ (List.mem_of_getElem? (i := 4) rfl))) (mvT hZ (hw _ (List.mem_of_getElem? (i := 5) rfl))) (by decide) (backOf (W := 1) (rm1 l Z a0 hw [] b3 tu h3 n0 zs3 A3 ge3 fn5 fn6 fn7 fn8 f4) hZ (hw _ (List.mem_of_getElem? (i := 5) rfl)) (hw _ (List.mem_of_getElem? (i := 2) rfl)) (by decide) (by decide)) (g := (mkF m 34 #[.val (.long q0), .second, .val (.long q1), .second, .val (.long q2), .second, .val (.long q3), .second, .val (.int p4), .val (.long xS0_1), .second, .val (.long xS0_2), .second, .unset, .unset, .unset, .unset, .unset, .unset, .unset, .unset] [(.ref b3), (.ref b3)])) rfl (by rw [hml]; rfl) (Steps.refl _) (a := b3) (argsL := []) (rest := [(.ref b3)]) (lenOf own_pd0 rfl) rfl (by show 2 * 0 + _ ≤ _; exact Nat.le_of_eq rfl) (hb hby at_34) (fun _ _ => ⟨rfl, e3, (by decide : 1 + 0 ≤ _), (by decide : 22 + 0 ≤ _)⟩)
      dsimp only [Pt.U, Pt.locs, Pt.cells, Pt.slots] at X9 l9 y9 z9 st9 hQ9
      subst l9 y9 z9
      obtain ⟨rfl, N9q, K9, po10, po11, po12, po13, po14⟩ := hQ9
      have f15 : Sta Z T9.heap "java/util/concurrent/TimeUnit" "MILLISECONDS" "Ljava/util/concurrent/TimeUnit;" (.ref tu) := (own_sta_keep f4 K9 (nsS A3.nostat ns0))
      have f16 : Exa Z T9.heap b3 "org/loopwright/Message" := (A3.keep K9)
      have zs9 : n0 ≤ T9.heap.size := Nat.le_trans zs3 K9.1
      have N9 := Fr.app N0 N9q
      refine own_go (T' := T9) (g' := (mkF m 37 #[.val (.long q0), .second, .val (.long q1), .second, .val (.long q2), .second, .val (.long q3), .second, .val (.int p4), .val (.long xS0_1), .second, .val (.long xS0_2), .second, .unset, .unset, .unset, .unset, .unset, .unset, .unset, .unset] [(.ref b3)])) (fun _ k => st9.trans k) ?_
      refine own_go (T' := T9) (g' := (mkF m 39 #[.val (.long q0), .second, .val (.long q1), .second, .val (.long q2), .second, .val (.long q3), .second, .val (.int p4), .val (.long xS0_1), .second, .val (.long xS0_2), .second, .val (.ref b3), .unset, .unset, .unset, .unset, .unset, .unset, .unset] [])) (fun _ k => XS.astore X9.here hx rfl (hb hby at_37) rfl rfl (l' := #[.val (.long q0), .second, .val (.long q1), .second, .val (.long q2), .second, .val (.long q3), .second, .val (.int p4), .val (.long xS0_1), .second, .val (.long xS0_2), .second, .val (.ref b3), .unset, .unset, .unset, .unset, .unset, .unset, .unset]) rfl k) ?_
      refine own_go (T' := T9) (g' := (mkF m 41 #[.val (.long q0), .second, .val (.long q1), .second, .val (.long q2), .second, .val (.long q3), .second, .val (.int p4), .val (.long xS0_1), .second, .val (.long xS0_2), .second, .val (.ref b3), .unset, .unset, .unset, .unset, .unset, .unset, .unset] [(.ref b3)])) (fun _ k => XS.aload X9.here hx rfl (hb hby at_39) rfl rfl k) ?_
      refine own_go (T' := T9) (g' := (mkF m 42 #[.val (.long q0), .second, .val (.long q1), .second, .val (.long q2), .second, .val (.long q3), .second, .val (.int p4), .val (.long xS0_1), .second, .val (.long xS0_2), .second, .val (.ref b3), .unset, .unset, .unset, .unset, .unset, .unset, .unset] [(.long q0), (.ref b3)])) (fun _ k => XT.lloadN X9.here hx rfl (hb hby at_41) rfl k) ?_
      obtain ⟨T17, h17, X17, e17, W17, st17⟩ := putF X9 hx hZ hown (host := "") (Or.inl (hw _ (List.mem_of_getElem? (i := 15) rfl))) Via.refl rfl po10 po14 (Or.inl (hw _ (List.mem_of_getElem? (i := 16) rfl))) (hw _ (List.mem_of_getElem? (i := 1) rfl)) (ty := .long) (by decide) rfl rfl (g := (mkF m 42 #[.val (.long q0), .second, .val (.long q1), .second, .val (.long q2), .second, .val (.long q3), .second, .val (.int p4), .val (.long xS0_1), .second, .val (.long xS0_2), .second, .val (.ref b3), .unset, .unset, .unset, .unset, .unset, .unset, .unset] [(.long q0), (.ref b3)])) rfl rfl (hb hby at_42)
      have f18 : Sta Z h17 "java/util/concurrent/TimeUnit" "MILLISECONDS" "Ljava/util/concurrent/TimeUnit;" (.ref tu) := (f15.wr W17)
      have f19 : Exa Z h17 b3 "org/loopwright/Message" := (po14.wr W17)
      have f20 : Fld Z h17 b3 "org/loopwright/Message" "mSeq" "J" (.long (0 : Int64)) := (po11.other W17 (Or.inr (slot_ne (Or.inl (hw _ (List.mem_of_getElem? (i := 18) rfl))) (Or.inl (hw _ (List.mem_of_getElem? (i := 16) rfl))) (by decide) (t := .long) (t' := .long) (by decide) (by decide))))
      have f21 : Fld Z h17 b3 "org/loopwright/Message" "mDueUnit" "Ljava/util/concurrent/TimeUnit;" (.ref tu) := (po12.other W17 (Or.inr (slot_ne (Or.inl (hw _ (List.mem_of_getElem? (i := 12) rfl))) (Or.inl (hw _ (List.mem_of_getElem? (i := 16) rfl))) (by decide) (t := (.object "java/util/concurrent/TimeUnit")) (t' := .long) (by decide) (by decide))))
      have f22 : Fld Z h17 b3 "org/loopwright/Message" "mHeapAt" "I" (.int (-1 : Int32)) := (po13.other W17 (Or.inr (slot_ne (Or.inl (hw _ (List.mem_of_getElem? (i := 14) rfl))) (Or.inl (hw _ (List.mem_of_getElem? (i := 16) rfl))) (by decide) (t := .int) (t' := .long) (by decide) (by decide))))
      have fw17 : Fld Z h17 b3 "org/loopwright/Message" "mWhen" "J" (.long q0) := po10.same W17
      have N17 := Fr.snoc X17 N9 ge3
      have zs17 : n0 ≤ h17.size := by rw [W17.size]; exact zs9
      refine own_go (T' := T17) (g' := (mkF m 45 #[.val (.long q0), .second, .val (.long q1), .second, .val (.long q2), .second, .val (.long q3), .second, .val (.int p4), .val (.long xS0_1), .second, .val (.long xS0_2), .second, .val (.ref b3), .unset, .unset, .unset, .unset, .unset, .unset, .unset] [])) (fun _ k => st17 _ k) ?_
      refine own_go (T' := T17) (g' := (mkF m 47 #[.val (.long q0), .second, .val (.long q1), .second, .val (.long q2), .second, .val (.long q3), .second, .val (.int p4), .val (.long xS0_1), .second, .val (.long xS0_2), .second, .val (.ref b3), .unset, .unset, .unset, .unset, .unset, .unset, .unset] [(.ref b3)])) (fun _ k => XS.aload X17.here hx rfl (hb hby at_45) rfl rfl k) ?_
      refine own_go (T' := T17) (g' := (mkF m 48 #[.val (.long q0), .second, .val (.long q1), .second, .val (.long q2), .second, .val (.long q3), .second, .val (.int p4), .val (.long xS0_1), .second, .val (.long xS0_2), .second, .val (.ref b3), .unset, .unset, .unset, .unset, .unset, .unset, .unset] [(.long q1), (.ref b3)])) (fun _ k => XT.lloadN X17.here hx rfl (hb hby at_47) rfl k) ?_
      obtain ⟨T23, h23, X23, e23, W23, st23⟩ := putF X17 hx hZ hown (host := "") (Or.inl (hw _ (List.mem_of_getElem? (i := 17) rfl))) Via.refl e17 f20 f19 (Or.inl (hw _ (List.mem_of_getElem? (i := 18) rfl))) (hw _ (List.mem_of_getElem? (i := 1) rfl)) (ty := .long) (by decide) rfl rfl (g := (mkF m 48 #[.val (.long q0), .second, .val (.long q1), .second, .val (.long q2), .second, .val (.long q3), .second, .val (.int p4), .val (.long xS0_1), .second, .val (.long xS0_2), .second, .val (.ref b3), .unset, .unset, .unset, .unset, .unset, .unset, .unset] [(.long q1), (.ref b3)])) rfl rfl (hb hby at_48)
      have f24 : Sta Z h23 "java/util/concurrent/TimeUnit" "MILLISECONDS" "Ljava/util/concurrent/TimeUnit;" (.ref tu) := (f18.wr W23)
      have f25 : Exa Z h23 b3 "org/loopwright/Message" := (f19.wr W23)
      have f26 : Fld Z h23 b3 "org/loopwright/Message" "mDueUnit" "Ljava/util/concurrent/TimeUnit;" (.ref tu) := (f21.other W23 (Or.inr (slot_ne (Or.inl (hw _ (List.mem_of_getElem? (i := 12) rfl))) (Or.inl (hw _ (List.mem_of_getElem? (i := 18) rfl))) (by decide) (t := (.object "java/util/concurrent/TimeUnit")) (t' := .long) (by decide) (by decide))))
      have f27 : Fld Z h23 b3 "org/loopwright/Message" "mHeapAt" "I" (.int (-1 : Int32)) := (f22.other W23 (Or.inr (slot_ne (Or.inl (hw _ (List.mem_of_getElem? (i := 14) rfl))) (Or.inl (hw _ (List.mem_of_getElem? (i := 18) rfl))) (by decide) (t := .int) (t' := .long) (by decide) (by decide))))
      have f28 : Fld Z h23 b3 "org/loopwright/Message" "mWhen" "J" (.long q0) := (fw17.other W23 (Or.inr (slot_ne (Or.inl (hw _ (List.mem_of_getElem? (i := 16) rfl))) (Or.inl (hw _ (List.mem_of_getElem? (i := 18) rfl))) (by decide) (t := .long) (t' := .long) (by decide) (by decide))))
      have fw23 : Fld Z h23 b3 "org/loopwright/Message" "mSeq" "J" (.long q1) := f20.same W23
      have N23 := Fr.snoc X23 N17 ge3
      have zs23 : n0 ≤ h23.size := by rw [W23.size]; exact zs17
      refine own_go (T' := T23) (g' := (mkF m 51 #[.val (.long q0), .second, .val (.long q1), .second, .val (.long q2), .second, .val (.long q3), .second, .val (.int p4), .val (.long xS0_1), .second, .val (.long xS0_2), .second, .val (.ref b3), .unset, .unset, .unset, .unset, .unset, .unset, .unset] [])) (fun _ k => st23 _ k) ?_
      obtain ⟨T29, h29, X29, e29, E29, A29, D29, -, st29⟩ := newO X23 hx hZ hown (hw _ (List.mem_of_getElem? (i := 0) rfl)) (hw _ (List.mem_of_getElem? (i := 1) rfl)) (hw _ (List.mem_of_getElem? (i := 2) rfl)) e23 (g := (mkF m 51 #[.val (.long q0), .second, .val (.long q1), .second, .val (.long q2), .second, .val (.long q3), .second, .val (.int p4), .val (.long xS0_1), .second, .val (.long xS0_2), .second, .val (.ref b3), .unset, .unset, .unset, .unset, .unset, .unset, .unset] [])) rfl (hb hby at_51) (by decide) (by decide)
      obtain ⟨b29, g29⟩ : ∃ z, z = h23.size := ⟨_, rfl⟩
      have ne30 : b3 ≠ b29 := Nat.ne_of_lt (Nat.lt_of_lt_of_le f25.lt (Nat.le_of_eq g29.symm))
      rw [← g29] at A29 D29 st29
      have f31 : Sta Z h29 "java/util/concurrent/TimeUnit" "MILLISECONDS" "Ljava/util/concurrent/TimeUnit;" (.ref tu) := (f24.ext E29)
      have f32 : Exa Z h29 b3 "org/loopwright/Message" := (f25.ext E29)
      have f33 : Fld Z h29 b3 "org/loopwright/Message" "mDueUnit" "Ljava/util/concurrent/TimeUnit;" (.ref tu) := (f26.ext E29)
      have f34 : Fld Z h29 b3 "org/loopwright/Message" "mHeapAt" "I" (.int (-1 : Int32)) := (f27.ext E29)
      have f35 : Fld Z h29 b3 "org/loopwright/Message" "mWhen" "J" (.long q0) := (f28.ext E29)
      have f36 : Fld Z h29 b3 "org/loopwright/Message" "mSeq" "J" (.long q1) := (fw23.ext E29)
      have fn37 : Fld Z h29 b29 "org/loopwright/Message" "mDueUnit" "Ljava/util/concurrent/TimeUnit;" .null := D29 (Or.inl (hw _ (List.mem_of_getElem? (i := 12) rfl))) (ty := (.object "java/util/concurrent/TimeUnit")) (by decide)
      have fn38 : Fld Z h29 b29 "org/loopwright/Message" "mHeapAt" "I" (.int (0 : Int32)) := D29 (Or.inl (hw _ (List.mem_of_getElem? (i := 14) rfl))) (ty := .int) (by decide)
      have fn39 : Fld Z h29 b29 "org/loopwright/Message" "mWhen" "J" (.long (0 : Int64)) := D29 (Or.inl (hw _ (List.mem_of_getElem? (i := 16) rfl))) (ty := .long) (by decide)
      have fn40 : Fld Z h29 b29 "org/loopwright/Message" "mSeq" "J" (.long (0 : Int64)) := D29 (Or.inl (hw _ (List.mem_of_getElem? (i := 18) rfl))) (ty := .long) (by decide)
      have ge29 : n0 ≤ b29 := Nat.le_trans zs23 (Nat.le_of_eq g29.symm)
      have zs29 : n0 ≤ h29.size := Nat.le_trans zs23 E29.1
      refine own_go (T' := T29) (g' := (mkF m 54 #[.val (.long q0), .second, .val (.long q1), .second, .val (.long q2), .second, .val (.long q3), .second, .val (.int p4), .val (.long xS0_1), .second, .val (.long xS0_2), .second, .val (.ref b3), .unset, .unset, .unset, .unset, .unset, .unset, .unset] [(.ref b29)])) (fun _ k => st29 _ k) ?_
      refine own_go (T' := T29) (g' := (mkF m 55 #[.val (.long q0), .second, .val (.long q1), .second, .val (.long q2), .second, .val (.long q3), .second, .val (.int p4), .val (.long xS0_1), .second, .val (.long xS0_2), .second, .val (.ref b3), .unset, .unset, .unset, .unset, .unset, .unset, .unset] [(.ref b29), (.ref b29)])) (fun _ k => XS.dup X29.here hx rfl (hb hby at_54) rfl rfl k) ?_
      obtain ⟨_, _, ⟨T41, L41, k41, n41⟩, -, X41, ⟨Lc41, hQ41, l41, y41, z41⟩, st41⟩ := X29.specialBack hx (y := (⟨"org/loopwright/Message", "<init>", "()V"⟩ : MethodName)) rfl hown (mvT hZ (hw _ (List.mem_of_getElem? (i := 3) rfl))) (mvT hZ (hw _ (List.mem_of_getElem? (i := 4) rfl))) (mvT hZ (hw _ (List.mem_of_getElem? (i := 5) rfl))) (by decide) (backOf (W := 1) (rm1 l Z a0 hw [] b29 tu h29 n0 zs29 A29 ge29 fn37 fn38 fn39 fn40 f31) hZ (hw _ (List.mem_of_getElem? (i := 5) rfl)) (hw _ (List.mem_of_getElem? (i := 2) rfl)) (by decide) (by decide)) (g := (mkF m 55 #[.val (.long q0), .second, .val (.long q1), .second, .val (.long q2), .second, .val (.long q3), .second, .val (.int p4), .val (.long xS0_1), .second, .val (.long xS0_2), .second, .val (.ref b3), .unset, .unset, .unset, .unset, .unset, .unset, .unset] [(.ref b29), (.ref b29)])) rfl (by rw [hml]; rfl) (Steps.refl _) (a := b29) (argsL := []) (rest := [(.ref b29)]) (lenOf own_pd0 rfl) rfl (by show 2 * 0 + _ ≤ _; exact Nat.le_of_eq rfl) (hb hby at_55) (fun _ _ => ⟨rfl, e29, (by decide : 2 + 0 ≤ _), (by decide : 44 + 0 ≤ _)⟩)
      dsimp only [Pt.U, Pt.locs, Pt.cells, Pt.slots] at X41 l41 y41 z41 st41 hQ41
      subst l41 y41 z41
      obtain ⟨rfl, N41q, K41, po42, po43, po44, po45, po46⟩ := hQ41
      have f47 : Sta Z T41.heap "java/util/concurrent/TimeUnit" "MILLISECONDS" "Ljava/util/concurrent/TimeUnit;" (.ref tu) := (own_sta_keep f31 K41 (nsS A29.nostat ns0))
      have f48 : Exa Z T41.heap b3 "org/loopwright/Message" := (f32.keep K41)
      have f49 : Fld Z T41.heap b3 "org/loopwright/Message" "mDueUnit" "Ljava/util/concurrent/TimeUnit;" (.ref tu) := (f33.keep K41 (ninS ne30 nin0))
      have f50 : Fld Z T41.heap b3 "org/loopwright/Message" "mHeapAt" "I" (.int (-1 : Int32)) := (f34.keep K41 (ninS ne30 nin0))
      have f51 : Fld Z T41.heap b3 "org/loopwright/Message" "mWhen" "J" (.long q0) := (f35.keep K41 (ninS ne30 nin0))
      have f52 : Fld Z T41.heap b3 "org/loopwright/Message" "mSeq" "J" (.long q1) := (f36.keep K41 (ninS ne30 nin0))
      have f53 : Exa Z T41.heap b29 "org/loopwright/Message" := (A29.keep K41)
      have zs41 : n0 ≤ T41.heap.size := Nat.le_trans zs29 K41.1
      have N41 := Fr.app N23 N41q
      refine own_go (T' := T41) (g' := (mkF m 58 #[.val (.long q0), .second, .val (.long q1), .second, .val (.long q2), .second, .val (.long q3), .second, .val (.int p4), .val (.long xS0_1), .second, .val (.long xS0_2), .second, .val (.ref b3), .unset, .unset, .unset, .unset, .unset, .unset, .unset] [(.ref b29)])) (fun _ k => st41.trans k) ?_
      refine own_go (T' := T41) (g' := (mkF m 60 #[.val (.long q0), .second, .val (.long q1), .second, .val (.long q2), .second, .val (.long q3), .second, .val (.int p4), .val (.long xS0_1), .second, .val (.long xS0_2), .second, .val (.ref b3), .val (.ref b29), .unset, .unset, .unset, .unset, .unset, .unset] [])) (fun _ k => XS.astore X41.here hx rfl (hb hby at_58) rfl rfl (l' := #[.val (.long q0), .second, .val (.long q1), .second, .val (.long q2), .second, .val (.long q3), .second, .val (.int p4), .val (.long xS0_1), .second, .val (.long xS0_2), .second, .val (.ref b3), .val (.ref b29), .unset, .unset, .unset, .unset, .unset, .unset]) rfl k) ?_
      refine own_go (T' := T41) (g' := (mkF m 62 #[.val (.long q0), .second, .val (.long q1), .second, .val (.long q2), .second, .val (.long q3), .second, .val (.int p4), .val (.long xS0_1), .second, .val (.long xS0_2), .second, .val (.ref b3), .val (.ref b29), .unset, .unset, .unset, .unset, .unset, .unset] [(.ref b29)])) (fun _ k => XS.aload X41.here hx rfl (hb hby at_60) rfl rfl k) ?_
      refine own_go (T' := T41) (g' := (mkF m 64 #[.val (.long q0), .second, .val (.long q1), .second, .val (.long q2), .second, .val (.long q3), .second, .val (.int p4), .val (.long xS0_1), .second, .val (.long xS0_2), .second, .val (.ref b3), .val (.ref b29), .unset, .unset, .unset, .unset, .unset, .unset] [(.long xS0_1), (.ref b29)])) (fun _ k => XT.lload X41.here hx rfl (hb hby at_62) rfl k) ?_
      obtain ⟨T54, h54, X54, e54, W54, st54⟩ := putF X41 hx hZ hown (host := "") (Or.inl (hw _ (List.mem_of_getElem? (i := 15) rfl))) Via.refl rfl po42 po46 (Or.inl (hw _ (List.mem_of_getElem? (i := 16) rfl))) (hw _ (List.mem_of_getElem? (i := 1) rfl)) (ty := .long) (by decide) rfl rfl (g := (mkF m 64 #[.val (.long q0), .second, .val (.long q1), .second, .val (.long q2), .second, .val (.long q3), .second, .val (.int p4), .val (.long xS0_1), .second, .val (.long xS0_2), .second, .val (.ref b3), .val (.ref b29), .unset, .unset, .unset, .unset, .unset, .unset] [(.long xS0_1), (.ref b29)])) rfl rfl (hb hby at_64)
      have f55 : Sta Z h54 "java/util/concurrent/TimeUnit" "MILLISECONDS" "Ljava/util/concurrent/TimeUnit;" (.ref tu) := (f47.wr W54)
      have f56 : Exa Z h54 b3 "org/loopwright/Message" := (f48.wr W54)
      have f57 : Fld Z h54 b3 "org/loopwright/Message" "mDueUnit" "Ljava/util/concurrent/TimeUnit;" (.ref tu) := (f49.other W54 (Or.inl ne30))
      have f58 : Fld Z h54 b3 "org/loopwright/Message" "mHeapAt" "I" (.int (-1 : Int32)) := (f50.other W54 (Or.inl ne30))
      have f59 : Fld Z h54 b3 "org/loopwright/Message" "mWhen" "J" (.long q0) := (f51.other W54 (Or.inl ne30))
      have f60 : Fld Z h54 b3 "org/loopwright/Message" "mSeq" "J" (.long q1) := (f52.other W54 (Or.inl ne30))
      have f61 : Exa Z h54 b29 "org/loopwright/Message" := (po46.wr W54)
      have f62 : Fld Z h54 b29 "org/loopwright/Message" "mSeq" "J" (.long (0 : Int64)) := (po43.other W54 (Or.inr (slot_ne (Or.inl (hw _ (List.mem_of_getElem? (i := 18) rfl))) (Or.inl (hw _ (List.mem_of_getElem? (i := 16) rfl))) (by decide) (t := .long) (t' := .long) (by decide) (by decide))))
      have f63 : Fld Z h54 b29 "org/loopwright/Message" "mDueUnit" "Ljava/util/concurrent/TimeUnit;" (.ref tu) := (po44.other W54 (Or.inr (slot_ne (Or.inl (hw _ (List.mem_of_getElem? (i := 12) rfl))) (Or.inl (hw _ (List.mem_of_getElem? (i := 16) rfl))) (by decide) (t := (.object "java/util/concurrent/TimeUnit")) (t' := .long) (by decide) (by decide))))
      have f64 : Fld Z h54 b29 "org/loopwright/Message" "mHeapAt" "I" (.int (-1 : Int32)) := (po45.other W54 (Or.inr (slot_ne (Or.inl (hw _ (List.mem_of_getElem? (i := 14) rfl))) (Or.inl (hw _ (List.mem_of_getElem? (i := 16) rfl))) (by decide) (t := .int) (t' := .long) (by decide) (by decide))))
      have fw54 : Fld Z h54 b29 "org/loopwright/Message" "mWhen" "J" (.long xS0_1) := po42.same W54
      have N54 := Fr.snoc X54 N41 ge29
      have zs54 : n0 ≤ h54.size := by rw [W54.size]; exact zs41
      refine own_go (T' := T54) (g' := (mkF m 67 #[.val (.long q0), .second, .val (.long q1), .second, .val (.long q2), .second, .val (.long q3), .second, .val (.int p4), .val (.long xS0_1), .second, .val (.long xS0_2), .second, .val (.ref b3), .val (.ref b29), .unset, .unset, .unset, .unset, .unset, .unset] [])) (fun _ k => st54 _ k) ?_
      refine own_go (T' := T54) (g' := (mkF m 69 #[.val (.long q0), .second, .val (.long q1), .second, .val (.long q2), .second, .val (.long q3), .second, .val (.int p4), .val (.long xS0_1), .second, .val (.long xS0_2), .second, .val (.ref b3), .val (.ref b29), .unset, .unset, .unset, .unset, .unset, .unset] [(.ref b29)])) (fun _ k => XS.aload X54.here hx rfl (hb hby at_67) rfl rfl k) ?_
      refine own_go (T' := T54) (g' := (mkF m 71 #[.val (.long q0), .second, .val (.long q1), .second, .val (.long q2), .second, .val (.long q3), .second, .val (.int p4), .val (.long xS0_1), .second, .val (.long xS0_2), .second, .val (.ref b3), .val (.ref b29), .unset, .unset, .unset, .unset, .unset, .unset] [(.long xS0_2), (.ref b29)])) (fun _ k => XT.lload X54.here hx rfl (hb hby at_69) rfl k) ?_
      obtain ⟨T65, h65, X65, e65, W65, st65⟩ := putF X54 hx hZ hown (host := "") (Or.inl (hw _ (List.mem_of_getElem? (i := 17) rfl))) Via.refl e54 f62 f61 (Or.inl (hw _ (List.mem_of_getElem? (i := 18) rfl))) (hw _ (List.mem_of_getElem? (i := 1) rfl)) (ty := .long) (by decide) rfl rfl (g := (mkF m 71 #[.val (.long q0), .second, .val (.long q1), .second, .val (.long q2), .second, .val (.long q3), .second, .val (.int p4), .val (.long xS0_1), .second, .val (.long xS0_2), .second, .val (.ref b3), .val (.ref b29), .unset, .unset, .unset, .unset, .unset, .unset] [(.long xS0_2), (.ref b29)])) rfl rfl (hb hby at_71)
      have f66 : Sta Z h65 "java/util/concurrent/TimeUnit" "MILLISECONDS" "Ljava/util/concurrent/TimeUnit;" (.ref tu) := (f55.wr W65)
      have f67 : Exa Z h65 b3 "org/loopwright/Message" := (f56.wr W65)
      have f68 : Fld Z h65 b3 "org/loopwright/Message" "mDueUnit" "Ljava/util/concurrent/TimeUnit;" (.ref tu) := (f57.other W65 (Or.inl ne30))
      have f69 : Fld Z h65 b3 "org/loopwright/Message" "mHeapAt" "I" (.int (-1 : Int32)) := (f58.other W65 (Or.inl ne30))
      have f70 : Fld Z h65 b3 "org/loopwright/Message" "mWhen" "J" (.long q0) := (f59.other W65 (Or.inl ne30))
      have f71 : Fld Z h65 b3 "org/loopwright/Message" "mSeq" "J" (.long q1) := (f60.other W65 (Or.inl ne30))
      have f72 : Exa Z h65 b29 "org/loopwright/Message" := (f61.wr W65)
      have f73 : Fld Z h65 b29 "org/loopwright/Message" "mDueUnit" "Ljava/util/concurrent/TimeUnit;" (.ref tu) := (f63.other W65 (Or.inr (slot_ne (Or.inl (hw _ (List.mem_of_getElem? (i := 12) rfl))) (Or.inl (hw _ (List.mem_of_getElem? (i := 18) rfl))) (by decide) (t := (.object "java/util/concurrent/TimeUnit")) (t' := .long) (by decide) (by decide))))
      have f74 : Fld Z h65 b29 "org/loopwright/Message" "mHeapAt" "I" (.int (-1 : Int32)) := (f64.other W65 (Or.inr (slot_ne (Or.inl (hw _ (List.mem_of_getElem? (i := 14) rfl))) (Or.inl (hw _ (List.mem_of_getElem? (i := 18) rfl))) (by decide) (t := .int) (t' := .long) (by decide) (by decide))))
      have f75 : Fld Z h65 b29 "org/loopwright/Message" "mWhen" "J" (.long xS0_1) := (fw54.other W65 (Or.inr (slot_ne (Or.inl (hw _ (List.mem_of_getElem? (i := 16) rfl))) (Or.inl (hw _ (List.mem_of_getElem? (i := 18) rfl))) (by decide) (t := .long) (t' := .long) (by decide) (by decide))))
      have fw65 : Fld Z h65 b29 "org/loopwright/Message" "mSeq" "J" (.long xS0_2) := f62.same W65
      have N65 := Fr.snoc X65 N54 ge29
      have zs65 : n0 ≤ h65.size := by rw [W65.size]; exact zs54
      refine own_go (T' := T65) (g' := (mkF m 74 #[.val (.long q0), .second, .val (.long q1), .second, .val (.long q2), .second, .val (.long q3), .second, .val (.int p4), .val (.long xS0_1), .second, .val (.long xS0_2), .second, .val (.ref b3), .val (.ref b29), .unset, .unset, .unset, .unset, .unset, .unset] [])) (fun _ k => st65 _ k) ?_
      refine own_go (T' := T65) (g' := (mkF m 76 #[.val (.long q0), .second, .val (.long q1), .second, .val (.long q2), .second, .val (.long q3), .second, .val (.int p4), .val (.long xS0_1), .second, .val (.long xS0_2), .second, .val (.ref b3), .val (.ref b29), .unset, .unset, .unset, .unset, .unset, .unset] [(.ref b3)])) (fun _ k => XS.aload X65.here hx rfl (hb hby at_74) rfl rfl k) ?_
      refine own_go (T' := T65) (g' := (mkF m 77 #[.val (.long q0), .second, .val (.long q1), .second, .val (.long q2), .second, .val (.long q3), .second, .val (.int p4), .val (.long xS0_1), .second, .val (.long xS0_2), .second, .val (.ref b3), .val (.ref b29), .unset, .unset, .unset, .unset, .unset, .unset] [(.long q0), (.ref b3)])) (fun _ k => XT.lloadN X65.here hx rfl (hb hby at_76) rfl k) ?_
      refine own_go (T' := T65) (g' := (mkF m 78 #[.val (.long q0), .second, .val (.long q1), .second, .val (.long q2), .second, .val (.long q3), .second, .val (.int p4), .val (.long xS0_1), .second, .val (.long xS0_2), .second, .val (.ref b3), .val (.ref b29), .unset, .unset, .unset, .unset, .unset, .unset] [(.long q1), (.long q0), (.ref b3)])) (fun _ k => XT.lloadN X65.here hx rfl (hb hby at_77) rfl k) ?_
      obtain ⟨_, _, ⟨T76, L76, k76, n76⟩, -, X76, ⟨Lc76, hQ76, l76, y76, z76⟩, st76⟩ := Jvm.LawKit.callS X65 hx (y := (⟨"org/loopwright/MessageHeap", "precedes", "(Lorg/loopwright/Message;JJ)Z"⟩ : MethodName)) hown (mvT hZ (hw _ (List.mem_of_getElem? (i := 19) rfl))) (mvT hZ (hw _ (List.mem_of_getElem? (i := 20) rfl))) (mvT hZ (hw _ (List.mem_of_getElem? (i := 21) rfl))) (mvT hZ (hw _ (List.mem_of_getElem? (i := 22) rfl))) (by decide) (backOf (W := 0) (rm2 l Z a0 hw [] b3 q0 q1 q0 q1 h65 n0 zs65 f70 f71) hZ (hw _ (List.mem_of_getElem? (i := 22) rfl)) (hw _ (List.mem_of_getElem? (i := 21) rfl)) (by decide) (by decide)) (g := (mkF m 78 #[.val (.long q0), .second, .val (.long q1), .second, .val (.long q2), .second, .val (.long q3), .second, .val (.int p4), .val (.long xS0_1), .second, .val (.long xS0_2), .second, .val (.ref b3), .val (.ref b29), .unset, .unset, .unset, .unset, .unset, .unset] [(.long q1), (.long q0), (.ref b3)])) rfl (by rw [hml]; rfl) (argsL := [(.ref b3), (.long q0), (.long q1)]) (rest := []) (lenOf own_pd1 rfl) rfl (by show 2 * 0 + _ ≤ _; exact Nat.le_of_eq rfl) (hb hby at_78) (fun _ _ => ⟨rfl, e65, (by decide : 2 + 0 ≤ _), (by decide : 44 + 0 ≤ _)⟩)
      dsimp only [Pt.U, Pt.locs, Pt.cells, Pt.slots] at X76 l76 y76 z76 st76 hQ76
      subst l76 y76 z76
      obtain ⟨rfl, N76q, e76⟩ := hQ76
      have N76 := Fr.app N65 N76q
      refine own_go (T' := T76) (g' := (mkF m 81 #[.val (.long q0), .second, .val (.long q1), .second, .val (.long q2), .second, .val (.long q3), .second, .val (.int p4), .val (.long xS0_1), .second, .val (.long xS0_2), .second, .val (.ref b3), .val (.ref b29), .unset, .unset, .unset, .unset, .unset, .unset] [(.int (own_prec b3 q0 q1 q0 q1))])) (fun _ k => st76 _ k) ?_
      refine own_go (T' := T76) (g' := (mkF m 83 #[.val (.long q0), .second, .val (.long q1), .second, .val (.long q2), .second, .val (.long q3), .second, .val (.int p4), .val (.long xS0_1), .second, .val (.long xS0_2), .second, .val (.ref b3), .val (.ref b29), .val (.int (own_prec b3 q0 q1 q0 q1)), .unset, .unset, .unset, .unset, .unset] [])) (fun _ k => XS.istore X76.here hx rfl (hb hby at_81) rfl (l' := #[.val (.long q0), .second, .val (.long q1), .second, .val (.long q2), .second, .val (.long q3), .second, .val (.int p4), .val (.long xS0_1), .second, .val (.long xS0_2), .second, .val (.ref b3), .val (.ref b29), .val (.int (own_prec b3 q0 q1 q0 q1)), .unset, .unset, .unset, .unset, .unset]) rfl k) ?_
      refine own_go (T' := T76) (g' := (mkF m 85 #[.val (.long q0), .second, .val (.long q1), .second, .val (.long q2), .second, .val (.long q3), .second, .val (.int p4), .val (.long xS0_1), .second, .val (.long xS0_2), .second, .val (.ref b3), .val (.ref b29), .val (.int (own_prec b3 q0 q1 q0 q1)), .unset, .unset, .unset, .unset, .unset] [(.ref b3)])) (fun _ k => XS.aload X76.here hx rfl (hb hby at_83) rfl rfl k) ?_
      refine own_go (T' := T76) (g' := (mkF m 87 #[.val (.long q0), .second, .val (.long q1), .second, .val (.long q2), .second, .val (.long q3), .second, .val (.int p4), .val (.long xS0_1), .second, .val (.long xS0_2), .second, .val (.ref b3), .val (.ref b29), .val (.int (own_prec b3 q0 q1 q0 q1)), .unset, .unset, .unset, .unset, .unset] [(.long xS0_1), (.ref b3)])) (fun _ k => XT.lload X76.here hx rfl (hb hby at_85) rfl k) ?_
      refine own_go (T' := T76) (g' := (mkF m 89 #[.val (.long q0), .second, .val (.long q1), .second, .val (.long q2), .second, .val (.long q3), .second, .val (.int p4), .val (.long xS0_1), .second, .val (.long xS0_2), .second, .val (.ref b3), .val (.ref b29), .val (.int (own_prec b3 q0 q1 q0 q1)), .unset, .unset, .unset, .unset, .unset] [(.long xS0_2), (.long xS0_1), (.ref b3)])) (fun _ k => XT.lload X76.here hx rfl (hb hby at_87) rfl k) ?_
      obtain ⟨_, _, ⟨T77, L77, k77, n77⟩, -, X77, ⟨Lc77, hQ77, l77, y77, z77⟩, st77⟩ := Jvm.LawKit.callS X76 hx (y := (⟨"org/loopwright/MessageHeap", "precedes", "(Lorg/loopwright/Message;JJ)Z"⟩ : MethodName)) hown (mvT hZ (hw _ (List.mem_of_getElem? (i := 19) rfl))) (mvT hZ (hw _ (List.mem_of_getElem? (i := 20) rfl))) (mvT hZ (hw _ (List.mem_of_getElem? (i := 21) rfl))) (mvT hZ (hw _ (List.mem_of_getElem? (i := 22) rfl))) (by decide) (backOf (W := 0) (rm2 l Z a0 hw [] b3 xS0_1 xS0_2 q0 q1 h65 n0 zs65 f70 f71) hZ (hw _ (List.mem_of_getElem? (i := 22) rfl)) (hw _ (List.mem_of_getElem? (i := 21) rfl)) (by decide) (by decide)) (g := (mkF m 89 #[.val (.long q0), .second, .val (.long q1), .second, .val (.long q2), .second, .val (.long q3), .second, .val (.int p4), .val (.long xS0_1), .second, .val (.long xS0_2), .second, .val (.ref b3), .val (.ref b29), .val (.int (own_prec b3 q0 q1 q0 q1)), .unset, .unset, .unset, .unset, .unset] [(.long xS0_2), (.long xS0_1), (.ref b3)])) rfl (by rw [hml]; rfl) (argsL := [(.ref b3), (.long xS0_1), (.long xS0_2)]) (rest := []) (lenOf own_pd1 rfl) rfl (by show 2 * 0 + _ ≤ _; exact Nat.le_of_eq rfl) (hb hby at_89) (fun _ _ => ⟨rfl, e76, (by decide : 2 + 0 ≤ _), (by decide : 44 + 0 ≤ _)⟩)
      dsimp only [Pt.U, Pt.locs, Pt.cells, Pt.slots] at X77 l77 y77 z77 st77 hQ77
      subst l77 y77 z77
      obtain ⟨rfl, N77q, e77⟩ := hQ77
      have N77 := Fr.app N76 N77q
      refine own_go (T' := T77) (g' := (mkF m 92 #[.val (.long q0), .second, .val (.long q1), .second, .val (.long q2), .second, .val (.long q3), .second, .val (.int p4), .val (.long xS0_1), .second, .val (.long xS0_2), .second, .val (.ref b3), .val (.ref b29), .val (.int (own_prec b3 q0 q1 q0 q1)), .unset, .unset, .unset, .unset, .unset] [(.int (own_prec b3 xS0_1 xS0_2 q0 q1))])) (fun _ k => st77 _ k) ?_
      refine own_go (T' := T77) (g' := (mkF m 94 #[.val (.long q0), .second, .val (.long q1), .second, .val (.long q2), .second, .val (.long q3), .second, .val (.int p4), .val (.long xS0_1), .second, .val (.long xS0_2), .second, .val (.ref b3), .val (.ref b29), .val (.int (own_prec b3 q0 q1 q0 q1)), .val (.int (own_prec b3 xS0_1 xS0_2 q0 q1)), .unset, .unset, .unset, .unset] [])) (fun _ k => XS.istore X77.here hx rfl (hb hby at_92) rfl (l' := #[.val (.long q0), .second, .val (.long q1), .second, .val (.long q2), .second, .val (.long q3), .second, .val (.int p4), .val (.long xS0_1), .second, .val (.long xS0_2), .second, .val (.ref b3), .val (.ref b29), .val (.int (own_prec b3 q0 q1 q0 q1)), .val (.int (own_prec b3 xS0_1 xS0_2 q0 q1)), .unset, .unset, .unset, .unset]) rfl k) ?_
      refine own_go (T' := T77) (g' := (mkF m 96 #[.val (.long q0), .second, .val (.long q1), .second, .val (.long q2), .second, .val (.long q3), .second, .val (.int p4), .val (.long xS0_1), .second, .val (.long xS0_2), .second, .val (.ref b3), .val (.ref b29), .val (.int (own_prec b3 q0 q1 q0 q1)), .val (.int (own_prec b3 xS0_1 xS0_2 q0 q1)), .unset, .unset, .unset, .unset] [(.ref b29)])) (fun _ k => XS.aload X77.here hx rfl (hb hby at_94) rfl rfl k) ?_
      refine own_go (T' := T77) (g' := (mkF m 97 #[.val (.long q0), .second, .val (.long q1), .second, .val (.long q2), .second, .val (.long q3), .second, .val (.int p4), .val (.long xS0_1), .second, .val (.long xS0_2), .second, .val (.ref b3), .val (.ref b29), .val (.int (own_prec b3 q0 q1 q0 q1)), .val (.int (own_prec b3 xS0_1 xS0_2 q0 q1)), .unset, .unset, .unset, .unset] [(.long q0), (.ref b29)])) (fun _ k => XT.lloadN X77.here hx rfl (hb hby at_96) rfl k) ?_
      refine own_go (T' := T77) (g' := (mkF m 98 #[.val (.long q0), .second, .val (.long q1), .second, .val (.long q2), .second, .val (.long q3), .second, .val (.int p4), .val (.long xS0_1), .second, .val (.long xS0_2), .second, .val (.ref b3), .val (.ref b29), .val (.int (own_prec b3 q0 q1 q0 q1)), .val (.int (own_prec b3 xS0_1 xS0_2 q0 q1)), .unset, .unset, .unset, .unset] [(.long q1), (.long q0), (.ref b29)])) (fun _ k => XT.lloadN X77.here hx rfl (hb hby at_97) rfl k) ?_
      obtain ⟨_, _, ⟨T78, L78, k78, n78⟩, -, X78, ⟨Lc78, hQ78, l78, y78, z78⟩, st78⟩ := Jvm.LawKit.callS X77 hx (y := (⟨"org/loopwright/MessageHeap", "precedes", "(Lorg/loopwright/Message;JJ)Z"⟩ : MethodName)) hown (mvT hZ (hw _ (List.mem_of_getElem? (i := 19) rfl))) (mvT hZ (hw _ (List.mem_of_getElem? (i := 20) rfl))) (mvT hZ (hw _ (List.mem_of_getElem? (i := 21) rfl))) (mvT hZ (hw _ (List.mem_of_getElem? (i := 22) rfl))) (by decide) (backOf (W := 0) (rm2 l Z a0 hw [] b29 q0 q1 xS0_1 xS0_2 h65 n0 zs65 f75 fw65) hZ (hw _ (List.mem_of_getElem? (i := 22) rfl)) (hw _ (List.mem_of_getElem? (i := 21) rfl)) (by decide) (by decide)) (g := (mkF m 98 #[.val (.long q0), .second, .val (.long q1), .second, .val (.long q2), .second, .val (.long q3), .second, .val (.int p4), .val (.long xS0_1), .second, .val (.long xS0_2), .second, .val (.ref b3), .val (.ref b29), .val (.int (own_prec b3 q0 q1 q0 q1)), .val (.int (own_prec b3 xS0_1 xS0_2 q0 q1)), .unset, .unset, .unset, .unset] [(.long q1), (.long q0), (.ref b29)])) rfl (by rw [hml]; rfl) (argsL := [(.ref b29), (.long q0), (.long q1)]) (rest := []) (lenOf own_pd1 rfl) rfl (by show 2 * 0 + _ ≤ _; exact Nat.le_of_eq rfl) (hb hby at_98) (fun _ _ => ⟨rfl, e77, (by decide : 2 + 0 ≤ _), (by decide : 44 + 0 ≤ _)⟩)
      dsimp only [Pt.U, Pt.locs, Pt.cells, Pt.slots] at X78 l78 y78 z78 st78 hQ78
      subst l78 y78 z78
      obtain ⟨rfl, N78q, e78⟩ := hQ78
      have N78 := Fr.app N77 N78q
      refine own_go (T' := T78) (g' := (mkF m 101 #[.val (.long q0), .second, .val (.long q1), .second, .val (.long q2), .second, .val (.long q3), .second, .val (.int p4), .val (.long xS0_1), .second, .val (.long xS0_2), .second, .val (.ref b3), .val (.ref b29), .val (.int (own_prec b3 q0 q1 q0 q1)), .val (.int (own_prec b3 xS0_1 xS0_2 q0 q1)), .unset, .unset, .unset, .unset] [(.int (own_prec b29 q0 q1 xS0_1 xS0_2))])) (fun _ k => st78 _ k) ?_
      refine own_go (T' := T78) (g' := (mkF m 103 #[.val (.long q0), .second, .val (.long q1), .second, .val (.long q2), .second, .val (.long q3), .second, .val (.int p4), .val (.long xS0_1), .second, .val (.long xS0_2), .second, .val (.ref b3), .val (.ref b29), .val (.int (own_prec b3 q0 q1 q0 q1)), .val (.int (own_prec b3 xS0_1 xS0_2 q0 q1)), .val (.int (own_prec b29 q0 q1 xS0_1 xS0_2)), .unset, .unset, .unset] [])) (fun _ k => XS.istore X78.here hx rfl (hb hby at_101) rfl (l' := #[.val (.long q0), .second, .val (.long q1), .second, .val (.long q2), .second, .val (.long q3), .second, .val (.int p4), .val (.long xS0_1), .second, .val (.long xS0_2), .second, .val (.ref b3), .val (.ref b29), .val (.int (own_prec b3 q0 q1 q0 q1)), .val (.int (own_prec b3 xS0_1 xS0_2 q0 q1)), .val (.int (own_prec b29 q0 q1 xS0_1 xS0_2)), .unset, .unset, .unset]) rfl k) ?_
      refine own_go (T' := T78) (g' := (mkF m 104 #[.val (.long q0), .second, .val (.long q1), .second, .val (.long q2), .second, .val (.long q3), .second, .val (.int p4), .val (.long xS0_1), .second, .val (.long xS0_2), .second, .val (.ref b3), .val (.ref b29), .val (.int (own_prec b3 q0 q1 q0 q1)), .val (.int (own_prec b3 xS0_1 xS0_2 q0 q1)), .val (.int (own_prec b29 q0 q1 xS0_1 xS0_2)), .unset, .unset, .unset] [(.long q0)])) (fun _ k => XT.lloadN X78.here hx rfl (hb hby at_103) rfl k) ?_
      refine own_go (T' := T78) (g' := (mkF m 106 #[.val (.long q0), .second, .val (.long q1), .second, .val (.long q2), .second, .val (.long q3), .second, .val (.int p4), .val (.long xS0_1), .second, .val (.long xS0_2), .second, .val (.ref b3), .val (.ref b29), .val (.int (own_prec b3 q0 q1 q0 q1)), .val (.int (own_prec b3 xS0_1 xS0_2 q0 q1)), .val (.int (own_prec b29 q0 q1 xS0_1 xS0_2)), .unset, .unset, .unset] [(.long xS0_1), (.long q0)])) (fun _ k => XT.lload X78.here hx rfl (hb hby at_104) rfl k) ?_
      refine own_go (T' := T78) (g' := (mkF m 107 #[.val (.long q0), .second, .val (.long q1), .second, .val (.long q2), .second, .val (.long q3), .second, .val (.int p4), .val (.long xS0_1), .second, .val (.long xS0_2), .second, .val (.ref b3), .val (.ref b29), .val (.int (own_prec b3 q0 q1 q0 q1)), .val (.int (own_prec b3 xS0_1 xS0_2 q0 q1)), .val (.int (own_prec b29 q0 q1 xS0_1 xS0_2)), .unset, .unset, .unset] [(.int (XT.cmpL q0 xS0_1))])) (fun _ k => XT.lcmp X78.here hx rfl (hb hby at_106) rfl k) ?_
      have J141_79 : ∀ (xL18_79 : Int32) (hxL18_79 : xL18_79 = (if q0 = xS0_1 then (if q1 < xS0_2 then (1 : Int32) else (0 : Int32)) else (if q0 < xS0_1 then (1 : Int32) else (0 : Int32)))), own_W p e below s (Q_rm0 Z q0 q1 q2 q3 p4 tu h0 n0) 16 192 T78 (mkF m 141 #[.val (.long q0), .second, .val (.long q1), .second, .val (.long q2), .second, .val (.long q3), .second, .val (.int p4), .val (.long xS0_1), .second, .val (.long xS0_2), .second, .val (.ref b3), .val (.ref b29), .val (.int (own_prec b3 q0 q1 q0 q1)), .val (.int (own_prec b3 xS0_1 xS0_2 q0 q1)), .val (.int (own_prec b29 q0 q1 xS0_1 xS0_2)), .val (.int xL18_79), .unset, .unset] []) := by
        intro xL18_79 hxL18_79
        refine own_go (T' := T78) (g' := (mkF m 142 #[.val (.long q0), .second, .val (.long q1), .second, .val (.long q2), .second, .val (.long q3), .second, .val (.int p4), .val (.long xS0_1), .second, .val (.long xS0_2), .second, .val (.ref b3), .val (.ref b29), .val (.int (own_prec b3 q0 q1 q0 q1)), .val (.int (own_prec b3 xS0_1 xS0_2 q0 q1)), .val (.int (own_prec b29 q0 q1 xS0_1 xS0_2)), .val (.int xL18_79), .unset, .unset] [(.long q0)])) (fun _ k => XT.lloadN X78.here hx rfl (hb hby at_141) rfl k) ?_
        refine own_go (T' := T78) (g' := (mkF m 144 #[.val (.long q0), .second, .val (.long q1), .second, .val (.long q2), .second, .val (.long q3), .second, .val (.int p4), .val (.long xS0_1), .second, .val (.long xS0_2), .second, .val (.ref b3), .val (.ref b29), .val (.int (own_prec b3 q0 q1 q0 q1)), .val (.int (own_prec b3 xS0_1 xS0_2 q0 q1)), .val (.int (own_prec b29 q0 q1 xS0_1 xS0_2)), .val (.int xL18_79), .unset, .unset] [(.long xS0_1), (.long q0)])) (fun _ k => XT.lload X78.here hx rfl (hb hby at_142) rfl k) ?_
        refine own_go (T' := T78) (g' := (mkF m 145 #[.val (.long q0), .second, .val (.long q1), .second, .val (.long q2), .second, .val (.long q3), .second, .val (.int p4), .val (.long xS0_1), .second, .val (.long xS0_2), .second, .val (.ref b3), .val (.ref b29), .val (.int (own_prec b3 q0 q1 q0 q1)), .val (.int (own_prec b3 xS0_1 xS0_2 q0 q1)), .val (.int (own_prec b29 q0 q1 xS0_1 xS0_2)), .val (.int xL18_79), .unset, .unset] [(.int (XT.cmpL q0 xS0_1))])) (fun _ k => XT.lcmp X78.here hx rfl (hb hby at_144) rfl k) ?_
        have J160_80 : ∀ (xS0_80 : Int32) (hxS0_80 : xS0_80 = (if q0 = xS0_1 then (if q1 = xS0_2 then (1 : Int32) else (0 : Int32)) else (0 : Int32))), own_W p e below s (Q_rm0 Z q0 q1 q2 q3 p4 tu h0 n0) 16 192 T78 (mkF m 160 #[.val (.long q0), .second, .val (.long q1), .second, .val (.long q2), .second, .val (.long q3), .second, .val (.int p4), .val (.long xS0_1), .second, .val (.long xS0_2), .second, .val (.ref b3), .val (.ref b29), .val (.int (own_prec b3 q0 q1 q0 q1)), .val (.int (own_prec b3 xS0_1 xS0_2 q0 q1)), .val (.int (own_prec b29 q0 q1 xS0_1 xS0_2)), .val (.int xL18_79), .unset, .unset] [(.int xS0_80)]) := by
          intro xS0_80 hxS0_80
          refine own_go (T' := T78) (g' := (mkF m 162 #[.val (.long q0), .second, .val (.long q1), .second, .val (.long q2), .second, .val (.long q3), .second, .val (.int p4), .val (.long xS0_1), .second, .val (.long xS0_2), .second, .val (.ref b3), .val (.ref b29), .val (.int (own_prec b3 q0 q1 q0 q1)), .val (.int (own_prec b3 xS0_1 xS0_2 q0 q1)), .val (.int (own_prec b29 q0 q1 xS0_1 xS0_2)), .val (.int xL18_79), .val (.int xS0_80), .unset] [])) (fun _ k => XS.istore X78.here hx rfl (hb hby at_160) rfl (l' := #[.val (.long q0), .second, .val (.long q1), .second, .val (.long q2), .second, .val (.long q3), .second, .val (.int p4), .val (.long xS0_1), .second, .val (.long xS0_2), .second, .val (.ref b3), .val (.ref b29), .val (.int (own_prec b3 q0 q1 q0 q1)), .val (.int (own_prec b3 xS0_1 xS0_2 q0 q1)), .val (.int (own_prec b29 q0 q1 xS0_1 xS0_2)), .val (.int xL18_79), .val (.int xS0_80), .unset]) rfl k) ?_
          refine own_go (T' := T78) (g' := (mkF m 164 #[.val (.long q0), .second, .val (.long q1), .second, .val (.long q2), .second, .val (.long q3), .second, .val (.int p4), .val (.long xS0_1), .second, .val (.long xS0_2), .second, .val (.ref b3), .val (.ref b29), .val (.int (own_prec b3 q0 q1 q0 q1)), .val (.int (own_prec b3 xS0_1 xS0_2 q0 q1)), .val (.int (own_prec b29 q0 q1 xS0_1 xS0_2)), .val (.int xL18_79), .val (.int xS0_80), .unset] [(.int xS0_80)])) (fun _ k => XS.iload X78.here hx rfl (hb hby at_162) rfl k) ?_
          have J197_81 : ∀ (xS0_81 : Int32) (hxS0_81 : xS0_81 = (if xS0_80 = (0 : Int32) then (if (own_prec b3 xS0_1 xS0_2 q0 q1) = (own_prec b29 q0 q1 xS0_1 xS0_2) then (0 : Int32) else (1 : Int32)) else (if (own_prec b3 xS0_1 xS0_2 q0 q1) = (0 : Int32) then (if (own_prec b29 q0 q1 xS0_1 xS0_2) = (0 : Int32) then (1 : Int32) else (0 : Int32)) else (0 : Int32)))), own_W p e below s (Q_rm0 Z q0 q1 q2 q3 p4 tu h0 n0) 16 192 T78 (mkF m 197 #[.val (.long q0), .second, .val (.long q1), .second, .val (.long q2), .second, .val (.long q3), .second, .val (.int p4), .val (.long xS0_1), .second, .val (.long xS0_2), .second, .val (.ref b3), .val (.ref b29), .val (.int (own_prec b3 q0 q1 q0 q1)), .val (.int (own_prec b3 xS0_1 xS0_2 q0 q1)), .val (.int (own_prec b29 q0 q1 xS0_1 xS0_2)), .val (.int xL18_79), .val (.int xS0_80), .unset] [(.int xS0_81)]) := by
            intro xS0_81 hxS0_81
            refine own_go (T' := T78) (g' := (mkF m 199 #[.val (.long q0), .second, .val (.long q1), .second, .val (.long q2), .second, .val (.long q3), .second, .val (.int p4), .val (.long xS0_1), .second, .val (.long xS0_2), .second, .val (.ref b3), .val (.ref b29), .val (.int (own_prec b3 q0 q1 q0 q1)), .val (.int (own_prec b3 xS0_1 xS0_2 q0 q1)), .val (.int (own_prec b29 q0 q1 xS0_1 xS0_2)), .val (.int xL18_79), .val (.int xS0_80), .val (.int xS0_81)] [])) (fun _ k => XS.istore X78.here hx rfl (hb hby at_197) rfl (l' := #[.val (.long q0), .second, .val (.long q1), .second, .val (.long q2), .second, .val (.long q3), .second, .val (.int p4), .val (.long xS0_1), .second, .val (.long xS0_2), .second, .val (.ref b3), .val (.ref b29), .val (.int (own_prec b3 q0 q1 q0 q1)), .val (.int (own_prec b3 xS0_1 xS0_2 q0 q1)), .val (.int (own_prec b29 q0 q1 xS0_1 xS0_2)), .val (.int xL18_79), .val (.int xS0_80), .val (.int xS0_81)]) rfl k) ?_
            refine own_go (T' := T78) (g' := (mkF m 201 #[.val (.long q0), .second, .val (.long q1), .second, .val (.long q2), .second, .val (.long q3), .second, .val (.int p4), .val (.long xS0_1), .second, .val (.long xS0_2), .second, .val (.ref b3), .val (.ref b29), .val (.int (own_prec b3 q0 q1 q0 q1)), .val (.int (own_prec b3 xS0_1 xS0_2 q0 q1)), .val (.int (own_prec b29 q0 q1 xS0_1 xS0_2)), .val (.int xL18_79), .val (.int xS0_80), .val (.int xS0_81)] [(.int (own_prec b3 q0 q1 q0 q1))])) (fun _ k => XS.iload X78.here hx rfl (hb hby at_199) rfl k) ?_
            refine own_go (T' := T78) (g' := (mkF m 204 #[.val (.long q0), .second, .val (.long q1), .second, .val (.long q2), .second, .val (.long q3), .second, .val (.int p4), .val (.long xS0_1), .second, .val (.long xS0_2), .second, .val (.ref b3), .val (.ref b29), .val (.int (own_prec b3 q0 q1 q0 q1)), .val (.int (own_prec b3 xS0_1 xS0_2 q0 q1)), .val (.int (own_prec b29 q0 q1 xS0_1 xS0_2)), .val (.int xL18_79), .val (.int xS0_80), .val (.int xS0_81)] [])) (fun _ k => XS.ifNo X78.here hx rfl (hb hby at_201) rfl (XT.i0_ne_f (own_aa _ _ _)) k) ?_
            refine own_go (T' := T78) (g' := (mkF m 206 #[.val (.long q0), .second, .val (.long q1), .second, .val (.long q2), .second, .val (.long q3), .second, .val (.int p4), .val (.long xS0_1), .second, .val (.long xS0_2), .second, .val (.ref b3), .val (.ref b29), .val (.int (own_prec b3 q0 q1 q0 q1)), .val (.int (own_prec b3 xS0_1 xS0_2 q0 q1)), .val (.int (own_prec b29 q0 q1 xS0_1 xS0_2)), .val (.int xL18_79), .val (.int xS0_80), .val (.int xS0_81)] [(.int xS0_81)])) (fun _ k => XS.iload X78.here hx rfl (hb hby at_204) rfl k) ?_
            refine own_go (T' := T78) (g' := (mkF m 209 #[.val (.long q0), .second, .val (.long q1), .second, .val (.long q2), .second, .val (.long q3), .second, .val (.int p4), .val (.long xS0_1), .second, .val (.long xS0_2), .second, .val (.ref b3), .val (.ref b29), .val (.int (own_prec b3 q0 q1 q0 q1)), .val (.int (own_prec b3 xS0_1 xS0_2 q0 q1)), .val (.int (own_prec b29 q0 q1 xS0_1 xS0_2)), .val (.int xL18_79), .val (.int xS0_80), .val (.int xS0_81)] [])) (fun _ k => XS.ifNo X78.here hx rfl (hb hby at_206) rfl (XT.i0_eq_f (own_same _ _ _ _ _ _ hxS0_80 hxS0_81)) k) ?_
            refine own_go (T' := T78) (g' := (mkF m 211 #[.val (.long q0), .second, .val (.long q1), .second, .val (.long q2), .second, .val (.long q3), .second, .val (.int p4), .val (.long xS0_1), .second, .val (.long xS0_2), .second, .val (.ref b3), .val (.ref b29), .val (.int (own_prec b3 q0 q1 q0 q1)), .val (.int (own_prec b3 xS0_1 xS0_2 q0 q1)), .val (.int (own_prec b29 q0 q1 xS0_1 xS0_2)), .val (.int xL18_79), .val (.int xS0_80), .val (.int xS0_81)] [(.int (own_prec b3 xS0_1 xS0_2 q0 q1))])) (fun _ k => XS.iload X78.here hx rfl (hb hby at_209) rfl k) ?_
            refine own_go (T' := T78) (g' := (mkF m 213 #[.val (.long q0), .second, .val (.long q1), .second, .val (.long q2), .second, .val (.long q3), .second, .val (.int p4), .val (.long xS0_1), .second, .val (.long xS0_2), .second, .val (.ref b3), .val (.ref b29), .val (.int (own_prec b3 q0 q1 q0 q1)), .val (.int (own_prec b3 xS0_1 xS0_2 q0 q1)), .val (.int (own_prec b29 q0 q1 xS0_1 xS0_2)), .val (.int xL18_79), .val (.int xS0_80), .val (.int xS0_81)] [(.int xL18_79), (.int (own_prec b3 xS0_1 xS0_2 q0 q1))])) (fun _ k => XS.iload X78.here hx rfl (hb hby at_211) rfl k) ?_
            refine own_go (T' := T78) (g' := (mkF m 216 #[.val (.long q0), .second, .val (.long q1), .second, .val (.long q2), .second, .val (.long q3), .second, .val (.int p4), .val (.long xS0_1), .second, .val (.long xS0_2), .second, .val (.ref b3), .val (.ref b29), .val (.int (own_prec b3 q0 q1 q0 q1)), .val (.int (own_prec b3 xS0_1 xS0_2 q0 q1)), .val (.int (own_prec b29 q0 q1 xS0_1 xS0_2)), .val (.int xL18_79), .val (.int xS0_80), .val (.int xS0_81)] [])) (fun _ k => XS.icmpNo X78.here hx rfl (hb hby at_213) rfl (XT.ii_ne_f (own_ab _ _ _ _ _ hxL18_79)) k) ?_
            refine own_go (T' := T78) (g' := (mkF m 217 #[.val (.long q0), .second, .val (.long q1), .second, .val (.long q2), .second, .val (.long q3), .second, .val (.int p4), .val (.long xS0_1), .second, .val (.long xS0_2), .second, .val (.ref b3), .val (.ref b29), .val (.int (own_prec b3 q0 q1 q0 q1)), .val (.int (own_prec b3 xS0_1 xS0_2 q0 q1)), .val (.int (own_prec b29 q0 q1 xS0_1 xS0_2)), .val (.int xL18_79), .val (.int xS0_80), .val (.int xS0_81)] [(.int (1 : Int32))])) (fun _ k => XS.iconst X78.here hx rfl (hb hby at_216) k) ?_
            refine own_go (T' := T78) (g' := (mkF m 221 #[.val (.long q0), .second, .val (.long q1), .second, .val (.long q2), .second, .val (.long q3), .second, .val (.int p4), .val (.long xS0_1), .second, .val (.long xS0_2), .second, .val (.ref b3), .val (.ref b29), .val (.int (own_prec b3 q0 q1 q0 q1)), .val (.int (own_prec b3 xS0_1 xS0_2 q0 q1)), .val (.int (own_prec b29 q0 q1 xS0_1 xS0_2)), .val (.int xL18_79), .val (.int xS0_80), .val (.int xS0_81)] [(.int (1 : Int32))])) (fun _ k => XS.goto X78.here hx rfl (pc0 := 217) (pc' := 221) rfl (hb hby at_217) (by decide) (by decide) k) ?_
            exact own_retN X78 hx (t := .boolean) Bd.returns hlk (by simp) (hb hby at_221) e78 ⟨rfl, N78⟩ (by decide) (by decide)
          by_cases hc164_82 : xS0_80 = (0 : Int32)
          · skip
            refine own_go (T' := T78) (g' := (mkF m 185 #[.val (.long q0), .second, .val (.long q1), .second, .val (.long q2), .second, .val (.long q3), .second, .val (.int p4), .val (.long xS0_1), .second, .val (.long xS0_2), .second, .val (.ref b3), .val (.ref b29), .val (.int (own_prec b3 q0 q1 q0 q1)), .val (.int (own_prec b3 xS0_1 xS0_2 q0 q1)), .val (.int (own_prec b29 q0 q1 xS0_1 xS0_2)), .val (.int xL18_79), .val (.int xS0_80), .unset] [])) (fun _ k => XS.ifYes X78.here hx rfl (pc0 := 164) (pc' := 185) rfl (hb hby at_164) rfl (XT.i0_eq_t hc164_82) (by decide) (by decide) k) ?_
            refine own_go (T' := T78) (g' := (mkF m 187 #[.val (.long q0), .second, .val (.long q1), .second, .val (.long q2), .second, .val (.long q3), .second, .val (.int p4), .val (.long xS0_1), .second, .val (.long xS0_2), .second, .val (.ref b3), .val (.ref b29), .val (.int (own_prec b3 q0 q1 q0 q1)), .val (.int (own_prec b3 xS0_1 xS0_2 q0 q1)), .val (.int (own_prec b29 q0 q1 xS0_1 xS0_2)), .val (.int xL18_79), .val (.int xS0_80), .unset] [(.int (own_prec b3 xS0_1 xS0_2 q0 q1))])) (fun _ k => XS.iload X78.here hx rfl (hb hby at_185) rfl k) ?_
            refine own_go (T' := T78) (g' := (mkF m 189 #[.val (.long q0), .second, .val (.long q1), .second, .val (.long q2), .second, .val (.long q3), .second, .val (.int p4), .val (.long xS0_1), .second, .val (.long xS0_2), .second, .val (.ref b3), .val (.ref b29), .val (.int (own_prec b3 q0 q1 q0 q1)), .val (.int (own_prec b3 xS0_1 xS0_2 q0 q1)), .val (.int (own_prec b29 q0 q1 xS0_1 xS0_2)), .val (.int xL18_79), .val (.int xS0_80), .unset] [(.int (own_prec b29 q0 q1 xS0_1 xS0_2)), (.int (own_prec b3 xS0_1 xS0_2 q0 q1))])) (fun _ k => XS.iload X78.here hx rfl (hb hby at_187) rfl k) ?_
            by_cases hc189_83 : (own_prec b3 xS0_1 xS0_2 q0 q1) = (own_prec b29 q0 q1 xS0_1 xS0_2)
            · skip
              refine own_go (T' := T78) (g' := (mkF m 196 #[.val (.long q0), .second, .val (.long q1), .second, .val (.long q2), .second, .val (.long q3), .second, .val (.int p4), .val (.long xS0_1), .second, .val (.long xS0_2), .second, .val (.ref b3), .val (.ref b29), .val (.int (own_prec b3 q0 q1 q0 q1)), .val (.int (own_prec b3 xS0_1 xS0_2 q0 q1)), .val (.int (own_prec b29 q0 q1 xS0_1 xS0_2)), .val (.int xL18_79), .val (.int xS0_80), .unset] [])) (fun _ k => XS.icmpYes X78.here hx rfl (pc0 := 189) (pc' := 196) rfl (hb hby at_189) rfl (XT.ii_eq_t hc189_83) (by decide) (by decide) k) ?_
              refine own_go (T' := T78) (g' := (mkF m 197 #[.val (.long q0), .second, .val (.long q1), .second, .val (.long q2), .second, .val (.long q3), .second, .val (.int p4), .val (.long xS0_1), .second, .val (.long xS0_2), .second, .val (.ref b3), .val (.ref b29), .val (.int (own_prec b3 q0 q1 q0 q1)), .val (.int (own_prec b3 xS0_1 xS0_2 q0 q1)), .val (.int (own_prec b29 q0 q1 xS0_1 xS0_2)), .val (.int xL18_79), .val (.int xS0_80), .unset] [(.int (0 : Int32))])) (fun _ k => XS.iconst X78.here hx rfl (hb hby at_196) k) ?_
              exact J197_81 _ (by rw [if_pos hc164_82, if_pos hc189_83])
            · skip
              refine own_go (T' := T78) (g' := (mkF m 192 #[.val (.long q0), .second, .val (.long q1), .second, .val (.long q2), .second, .val (.long q3), .second, .val (.int p4), .val (.long xS0_1), .second, .val (.long xS0_2), .second, .val (.ref b3), .val (.ref b29), .val (.int (own_prec b3 q0 q1 q0 q1)), .val (.int (own_prec b3 xS0_1 xS0_2 q0 q1)), .val (.int (own_prec b29 q0 q1 xS0_1 xS0_2)), .val (.int xL18_79), .val (.int xS0_80), .unset] [])) (fun _ k => XS.icmpNo X78.here hx rfl (hb hby at_189) rfl (XT.ii_eq_f hc189_83) k) ?_
              refine own_go (T' := T78) (g' := (mkF m 193 #[.val (.long q0), .second, .val (.long q1), .second, .val (.long q2), .second, .val (.long q3), .second, .val (.int p4), .val (.long xS0_1), .second, .val (.long xS0_2), .second, .val (.ref b3), .val (.ref b29), .val (.int (own_prec b3 q0 q1 q0 q1)), .val (.int (own_prec b3 xS0_1 xS0_2 q0 q1)), .val (.int (own_prec b29 q0 q1 xS0_1 xS0_2)), .val (.int xL18_79), .val (.int xS0_80), .unset] [(.int (1 : Int32))])) (fun _ k => XS.iconst X78.here hx rfl (hb hby at_192) k) ?_
              refine own_go (T' := T78) (g' := (mkF m 197 #[.val (.long q0), .second, .val (.long q1), .second, .val (.long q2), .second, .val (.long q3), .second, .val (.int p4), .val (.long xS0_1), .second, .val (.long xS0_2), .second, .val (.ref b3), .val (.ref b29), .val (.int (own_prec b3 q0 q1 q0 q1)), .val (.int (own_prec b3 xS0_1 xS0_2 q0 q1)), .val (.int (own_prec b29 q0 q1 xS0_1 xS0_2)), .val (.int xL18_79), .val (.int xS0_80), .unset] [(.int (1 : Int32))])) (fun _ k => XS.goto X78.here hx rfl (pc0 := 193) (pc' := 197) rfl (hb hby at_193) (by decide) (by decide) k) ?_
              exact J197_81 _ (by rw [if_pos hc164_82, if_neg hc189_83])
          · skip
            refine own_go (T' := T78) (g' := (mkF m 167 #[.val (.long q0), .second, .val (.long q1), .second, .val (.long q2), .second, .val (.long q3), .second, .val (.int p4), .val (.long xS0_1), .second, .val (.long xS0_2), .second, .val (.ref b3), .val (.ref b29), .val (.int (own_prec b3 q0 q1 q0 q1)), .val (.int (own_prec b3 xS0_1 xS0_2 q0 q1)), .val (.int (own_prec b29 q0 q1 xS0_1 xS0_2)), .val (.int xL18_79), .val (.int xS0_80), .unset] [])) (fun _ k => XS.ifNo X78.here hx rfl (hb hby at_164) rfl (XT.i0_eq_f hc164_82) k) ?_
            refine own_go (T' := T78) (g' := (mkF m 169 #[.val (.long q0), .second, .val (.long q1), .second, .val (.long q2), .second, .val (.long q3), .second, .val (.int p4), .val (.long xS0_1), .second, .val (.long xS0_2), .second, .val (.ref b3), .val (.ref b29), .val (.int (own_prec b3 q0 q1 q0 q1)), .val (.int (own_prec b3 xS0_1 xS0_2 q0 q1)), .val (.int (own_prec b29 q0 q1 xS0_1 xS0_2)), .val (.int xL18_79), .val (.int xS0_80), .unset] [(.int (own_prec b3 xS0_1 xS0_2 q0 q1))])) (fun _ k => XS.iload X78.here hx rfl (hb hby at_167) rfl k) ?_
            by_cases hc169_84 : (own_prec b3 xS0_1 xS0_2 q0 q1) = (0 : Int32)
            · skip
              refine own_go (T' := T78) (g' := (mkF m 172 #[.val (.long q0), .second, .val (.long q1), .second, .val (.long q2), .second, .val (.long q3), .second, .val (.int p4), .val (.long xS0_1), .second, .val (.long xS0_2), .second, .val (.ref b3), .val (.ref b29), .val (.int (own_prec b3 q0 q1 q0 q1)), .val (.int (own_prec b3 xS0_1 xS0_2 q0 q1)), .val (.int (own_prec b29 q0 q1 xS0_1 xS0_2)), .val (.int xL18_79), .val (.int xS0_80), .unset] [])) (fun _ k => XS.ifNo X78.here hx rfl (hb hby at_169) rfl (XT.i0_ne_f hc169_84) k) ?_
              refine own_go (T' := T78) (g' := (mkF m 174 #[.val (.long q0), .second, .val (.long q1), .second, .val (.long q2), .second, .val (.long q3), .second, .val (.int p4), .val (.long xS0_1), .second, .val (.long xS0_2), .second, .val (.ref b3), .val (.ref b29), .val (.int (own_prec b3 q0 q1 q0 q1)), .val (.int (own_prec b3 xS0_1 xS0_2 q0 q1)), .val (.int (own_prec b29 q0 q1 xS0_1 xS0_2)), .val (.int xL18_79), .val (.int xS0_80), .unset] [(.int (own_prec b29 q0 q1 xS0_1 xS0_2))])) (fun _ k => XS.iload X78.here hx rfl (hb hby at_172) rfl k) ?_
              by_cases hc174_85 : (own_prec b29 q0 q1 xS0_1 xS0_2) = (0 : Int32)
              · skip
                refine own_go (T' := T78) (g' := (mkF m 177 #[.val (.long q0), .second, .val (.long q1), .second, .val (.long q2), .second, .val (.long q3), .second, .val (.int p4), .val (.long xS0_1), .second, .val (.long xS0_2), .second, .val (.ref b3), .val (.ref b29), .val (.int (own_prec b3 q0 q1 q0 q1)), .val (.int (own_prec b3 xS0_1 xS0_2 q0 q1)), .val (.int (own_prec b29 q0 q1 xS0_1 xS0_2)), .val (.int xL18_79), .val (.int xS0_80), .unset] [])) (fun _ k => XS.ifNo X78.here hx rfl (hb hby at_174) rfl (XT.i0_ne_f hc174_85) k) ?_
                refine own_go (T' := T78) (g' := (mkF m 178 #[.val (.long q0), .second, .val (.long q1), .second, .val (.long q2), .second, .val (.long q3), .second, .val (.int p4), .val (.long xS0_1), .second, .val (.long xS0_2), .second, .val (.ref b3), .val (.ref b29), .val (.int (own_prec b3 q0 q1 q0 q1)), .val (.int (own_prec b3 xS0_1 xS0_2 q0 q1)), .val (.int (own_prec b29 q0 q1 xS0_1 xS0_2)), .val (.int xL18_79), .val (.int xS0_80), .unset] [(.int (1 : Int32))])) (fun _ k => XS.iconst X78.here hx rfl (hb hby at_177) k) ?_
                refine own_go (T' := T78) (g' := (mkF m 197 #[.val (.long q0), .second, .val (.long q1), .second, .val (.long q2), .second, .val (.long q3), .second, .val (.int p4), .val (.long xS0_1), .second, .val (.long xS0_2), .second, .val (.ref b3), .val (.ref b29), .val (.int (own_prec b3 q0 q1 q0 q1)), .val (.int (own_prec b3 xS0_1 xS0_2 q0 q1)), .val (.int (own_prec b29 q0 q1 xS0_1 xS0_2)), .val (.int xL18_79), .val (.int xS0_80), .unset] [(.int (1 : Int32))])) (fun _ k => XS.goto X78.here hx rfl (pc0 := 178) (pc' := 197) rfl (hb hby at_178) (by decide) (by decide) k) ?_
                exact J197_81 _ (by rw [if_neg hc164_82, if_pos hc169_84, if_pos hc174_85])
              · skip
                refine own_go (T' := T78) (g' := (mkF m 181 #[.val (.long q0), .second, .val (.long q1), .second, .val (.long q2), .second, .val (.long q3), .second, .val (.int p4), .val (.long xS0_1), .second, .val (.long xS0_2), .second, .val (.ref b3), .val (.ref b29), .val (.int (own_prec b3 q0 q1 q0 q1)), .val (.int (own_prec b3 xS0_1 xS0_2 q0 q1)), .val (.int (own_prec b29 q0 q1 xS0_1 xS0_2)), .val (.int xL18_79), .val (.int xS0_80), .unset] [])) (fun _ k => XS.ifYes X78.here hx rfl (pc0 := 174) (pc' := 181) rfl (hb hby at_174) rfl (XT.i0_ne_t hc174_85) (by decide) (by decide) k) ?_
                refine own_go (T' := T78) (g' := (mkF m 182 #[.val (.long q0), .second, .val (.long q1), .second, .val (.long q2), .second, .val (.long q3), .second, .val (.int p4), .val (.long xS0_1), .second, .val (.long xS0_2), .second, .val (.ref b3), .val (.ref b29), .val (.int (own_prec b3 q0 q1 q0 q1)), .val (.int (own_prec b3 xS0_1 xS0_2 q0 q1)), .val (.int (own_prec b29 q0 q1 xS0_1 xS0_2)), .val (.int xL18_79), .val (.int xS0_80), .unset] [(.int (0 : Int32))])) (fun _ k => XS.iconst X78.here hx rfl (hb hby at_181) k) ?_
                refine own_go (T' := T78) (g' := (mkF m 197 #[.val (.long q0), .second, .val (.long q1), .second, .val (.long q2), .second, .val (.long q3), .second, .val (.int p4), .val (.long xS0_1), .second, .val (.long xS0_2), .second, .val (.ref b3), .val (.ref b29), .val (.int (own_prec b3 q0 q1 q0 q1)), .val (.int (own_prec b3 xS0_1 xS0_2 q0 q1)), .val (.int (own_prec b29 q0 q1 xS0_1 xS0_2)), .val (.int xL18_79), .val (.int xS0_80), .unset] [(.int (0 : Int32))])) (fun _ k => XS.goto X78.here hx rfl (pc0 := 182) (pc' := 197) rfl (hb hby at_182) (by decide) (by decide) k) ?_
                exact J197_81 _ (by rw [if_neg hc164_82, if_pos hc169_84, if_neg hc174_85])
            · skip
              refine own_go (T' := T78) (g' := (mkF m 181 #[.val (.long q0), .second, .val (.long q1), .second, .val (.long q2), .second, .val (.long q3), .second, .val (.int p4), .val (.long xS0_1), .second, .val (.long xS0_2), .second, .val (.ref b3), .val (.ref b29), .val (.int (own_prec b3 q0 q1 q0 q1)), .val (.int (own_prec b3 xS0_1 xS0_2 q0 q1)), .val (.int (own_prec b29 q0 q1 xS0_1 xS0_2)), .val (.int xL18_79), .val (.int xS0_80), .unset] [])) (fun _ k => XS.ifYes X78.here hx rfl (pc0 := 169) (pc' := 181) rfl (hb hby at_169) rfl (XT.i0_ne_t hc169_84) (by decide) (by decide) k) ?_
              refine own_go (T' := T78) (g' := (mkF m 182 #[.val (.long q0), .second, .val (.long q1), .second, .val (.long q2), .second, .val (.long q3), .second, .val (.int p4), .val (.long xS0_1), .second, .val (.long xS0_2), .second, .val (.ref b3), .val (.ref b29), .val (.int (own_prec b3 q0 q1 q0 q1)), .val (.int (own_prec b3 xS0_1 xS0_2 q0 q1)), .val (.int (own_prec b29 q0 q1 xS0_1 xS0_2)), .val (.int xL18_79), .val (.int xS0_80), .unset] [(.int (0 : Int32))])) (fun _ k => XS.iconst X78.here hx rfl (hb hby at_181) k) ?_
              refine own_go (T' := T78) (g' := (mkF m 197 #[.val (.long q0), .second, .val (.long q1), .second, .val (.long q2), .second, .val (.long q3), .second, .val (.int p4), .val (.long xS0_1), .second, .val (.long xS0_2), .second, .val (.ref b3), .val (.ref b29), .val (.int (own_prec b3 q0 q1 q0 q1)), .val (.int (own_prec b3 xS0_1 xS0_2 q0 q1)), .val (.int (own_prec b29 q0 q1 xS0_1 xS0_2)), .val (.int xL18_79), .val (.int xS0_80), .unset] [(.int (0 : Int32))])) (fun _ k => XS.goto X78.here hx rfl (pc0 := 182) (pc' := 197) rfl (hb hby at_182) (by decide) (by decide) k) ?_
              exact J197_81 _ (by rw [if_neg hc164_82, if_neg hc169_84])
        by_cases hc145_86 : q0 = xS0_1
        · skip
          refine own_go (T' := T78) (g' := (mkF m 148 #[.val (.long q0), .second, .val (.long q1), .second, .val (.long q2), .second, .val (.long q3), .second, .val (.int p4), .val (.long xS0_1), .second, .val (.long xS0_2), .second, .val (.ref b3), .val (.ref b29), .val (.int (own_prec b3 q0 q1 q0 q1)), .val (.int (own_prec b3 xS0_1 xS0_2 q0 q1)), .val (.int (own_prec b29 q0 q1 xS0_1 xS0_2)), .val (.int xL18_79), .unset, .unset] [])) (fun _ k => XS.ifNo X78.here hx rfl (hb hby at_145) rfl (XT.ll_ne_f hc145_86) k) ?_
          refine own_go (T' := T78) (g' := (mkF m 149 #[.val (.long q0), .second, .val (.long q1), .second, .val (.long q2), .second, .val (.long q3), .second, .val (.int p4), .val (.long xS0_1), .second, .val (.long xS0_2), .second, .val (.ref b3), .val (.ref b29), .val (.int (own_prec b3 q0 q1 q0 q1)), .val (.int (own_prec b3 xS0_1 xS0_2 q0 q1)), .val (.int (own_prec b29 q0 q1 xS0_1 xS0_2)), .val (.int xL18_79), .unset, .unset] [(.long q1)])) (fun _ k => XT.lloadN X78.here hx rfl (hb hby at_148) rfl k) ?_
          refine own_go (T' := T78) (g' := (mkF m 151 #[.val (.long q0), .second, .val (.long q1), .second, .val (.long q2), .second, .val (.long q3), .second, .val (.int p4), .val (.long xS0_1), .second, .val (.long xS0_2), .second, .val (.ref b3), .val (.ref b29), .val (.int (own_prec b3 q0 q1 q0 q1)), .val (.int (own_prec b3 xS0_1 xS0_2 q0 q1)), .val (.int (own_prec b29 q0 q1 xS0_1 xS0_2)), .val (.int xL18_79), .unset, .unset] [(.long xS0_2), (.long q1)])) (fun _ k => XT.lload X78.here hx rfl (hb hby at_149) rfl k) ?_
          refine own_go (T' := T78) (g' := (mkF m 152 #[.val (.long q0), .second, .val (.long q1), .second, .val (.long q2), .second, .val (.long q3), .second, .val (.int p4), .val (.long xS0_1), .second, .val (.long xS0_2), .second, .val (.ref b3), .val (.ref b29), .val (.int (own_prec b3 q0 q1 q0 q1)), .val (.int (own_prec b3 xS0_1 xS0_2 q0 q1)), .val (.int (own_prec b29 q0 q1 xS0_1 xS0_2)), .val (.int xL18_79), .unset, .unset] [(.int (XT.cmpL q1 xS0_2))])) (fun _ k => XT.lcmp X78.here hx rfl (hb hby at_151) rfl k) ?_
          by_cases hc152_87 : q1 = xS0_2
          · skip
            refine own_go (T' := T78) (g' := (mkF m 155 #[.val (.long q0), .second, .val (.long q1), .second, .val (.long q2), .second, .val (.long q3), .second, .val (.int p4), .val (.long xS0_1), .second, .val (.long xS0_2), .second, .val (.ref b3), .val (.ref b29), .val (.int (own_prec b3 q0 q1 q0 q1)), .val (.int (own_prec b3 xS0_1 xS0_2 q0 q1)), .val (.int (own_prec b29 q0 q1 xS0_1 xS0_2)), .val (.int xL18_79), .unset, .unset] [])) (fun _ k => XS.ifNo X78.here hx rfl (hb hby at_152) rfl (XT.ll_ne_f hc152_87) k) ?_
            refine own_go (T' := T78) (g' := (mkF m 156 #[.val (.long q0), .second, .val (.long q1), .second, .val (.long q2), .second, .val (.long q3), .second, .val (.int p4), .val (.long xS0_1), .second, .val (.long xS0_2), .second, .val (.ref b3), .val (.ref b29), .val (.int (own_prec b3 q0 q1 q0 q1)), .val (.int (own_prec b3 xS0_1 xS0_2 q0 q1)), .val (.int (own_prec b29 q0 q1 xS0_1 xS0_2)), .val (.int xL18_79), .unset, .unset] [(.int (1 : Int32))])) (fun _ k => XS.iconst X78.here hx rfl (hb hby at_155) k) ?_
            refine own_go (T' := T78) (g' := (mkF m 160 #[.val (.long q0), .second, .val (.long q1), .second, .val (.long q2), .second, .val (.long q3), .second, .val (.int p4), .val (.long xS0_1), .second, .val (.long xS0_2), .second, .val (.ref b3), .val (.ref b29), .val (.int (own_prec b3 q0 q1 q0 q1)), .val (.int (own_prec b3 xS0_1 xS0_2 q0 q1)), .val (.int (own_prec b29 q0 q1 xS0_1 xS0_2)), .val (.int xL18_79), .unset, .unset] [(.int (1 : Int32))])) (fun _ k => XS.goto X78.here hx rfl (pc0 := 156) (pc' := 160) rfl (hb hby at_156) (by decide) (by decide) k) ?_
            exact J160_80 _ (by rw [if_pos hc145_86, if_pos hc152_87])
          · skip
            refine own_go (T' := T78) (g' := (mkF m 159 #[.val (.long q0), .second, .val (.long q1), .second, .val (.long q2), .second, .val (.long q3), .second, .val (.int p4), .val (.long xS0_1), .second, .val (.long xS0_2), .second, .val (.ref b3), .val (.ref b29), .val (.int (own_prec b3 q0 q1 q0 q1)), .val (.int (own_prec b3 xS0_1 xS0_2 q0 q1)), .val (.int (own_prec b29 q0 q1 xS0_1 xS0_2)), .val (.int xL18_79), .unset, .unset] [])) (fun _ k => XS.ifYes X78.here hx rfl (pc0 := 152) (pc' := 159) rfl (hb hby at_152) rfl (XT.ll_ne_t hc152_87) (by decide) (by decide) k) ?_
            refine own_go (T' := T78) (g' := (mkF m 160 #[.val (.long q0), .second, .val (.long q1), .second, .val (.long q2), .second, .val (.long q3), .second, .val (.int p4), .val (.long xS0_1), .second, .val (.long xS0_2), .second, .val (.ref b3), .val (.ref b29), .val (.int (own_prec b3 q0 q1 q0 q1)), .val (.int (own_prec b3 xS0_1 xS0_2 q0 q1)), .val (.int (own_prec b29 q0 q1 xS0_1 xS0_2)), .val (.int xL18_79), .unset, .unset] [(.int (0 : Int32))])) (fun _ k => XS.iconst X78.here hx rfl (hb hby at_159) k) ?_
            exact J160_80 _ (by rw [if_pos hc145_86, if_neg hc152_87])
        · skip
          refine own_go (T' := T78) (g' := (mkF m 159 #[.val (.long q0), .second, .val (.long q1), .second, .val (.long q2), .second, .val (.long q3), .second, .val (.int p4), .val (.long xS0_1), .second, .val (.long xS0_2), .second, .val (.ref b3), .val (.ref b29), .val (.int (own_prec b3 q0 q1 q0 q1)), .val (.int (own_prec b3 xS0_1 xS0_2 q0 q1)), .val (.int (own_prec b29 q0 q1 xS0_1 xS0_2)), .val (.int xL18_79), .unset, .unset] [])) (fun _ k => XS.ifYes X78.here hx rfl (pc0 := 145) (pc' := 159) rfl (hb hby at_145) rfl (XT.ll_ne_t hc145_86) (by decide) (by decide) k) ?_
          refine own_go (T' := T78) (g' := (mkF m 160 #[.val (.long q0), .second, .val (.long q1), .second, .val (.long q2), .second, .val (.long q3), .second, .val (.int p4), .val (.long xS0_1), .second, .val (.long xS0_2), .second, .val (.ref b3), .val (.ref b29), .val (.int (own_prec b3 q0 q1 q0 q1)), .val (.int (own_prec b3 xS0_1 xS0_2 q0 q1)), .val (.int (own_prec b29 q0 q1 xS0_1 xS0_2)), .val (.int xL18_79), .unset, .unset] [(.int (0 : Int32))])) (fun _ k => XS.iconst X78.here hx rfl (hb hby at_159) k) ?_
          exact J160_80 _ (by rw [if_neg hc145_86])
      by_cases hc107_88 : q0 = xS0_1
      · skip
        refine own_go (T' := T78) (g' := (mkF m 127 #[.val (.long q0), .second, .val (.long q1), .second, .val (.long q2), .second, .val (.long q3), .second, .val (.int p4), .val (.long xS0_1), .second, .val (.long xS0_2), .second, .val (.ref b3), .val (.ref b29), .val (.int (own_prec b3 q0 q1 q0 q1)), .val (.int (own_prec b3 xS0_1 xS0_2 q0 q1)), .val (.int (own_prec b29 q0 q1 xS0_1 xS0_2)), .unset, .unset, .unset] [])) (fun _ k => XS.ifYes X78.here hx rfl (pc0 := 107) (pc' := 127) rfl (hb hby at_107) rfl (XT.ll_eq_t hc107_88) (by decide) (by decide) k) ?_
        refine own_go (T' := T78) (g' := (mkF m 128 #[.val (.long q0), .second, .val (.long q1), .second, .val (.long q2), .second, .val (.long q3), .second, .val (.int p4), .val (.long xS0_1), .second, .val (.long xS0_2), .second, .val (.ref b3), .val (.ref b29), .val (.int (own_prec b3 q0 q1 q0 q1)), .val (.int (own_prec b3 xS0_1 xS0_2 q0 q1)), .val (.int (own_prec b29 q0 q1 xS0_1 xS0_2)), .unset, .unset, .unset] [(.long q1)])) (fun _ k => XT.lloadN X78.here hx rfl (hb hby at_127) rfl k) ?_
        refine own_go (T' := T78) (g' := (mkF m 130 #[.val (.long q0), .second, .val (.long q1), .second, .val (.long q2), .second, .val (.long q3), .second, .val (.int p4), .val (.long xS0_1), .second, .val (.long xS0_2), .second, .val (.ref b3), .val (.ref b29), .val (.int (own_prec b3 q0 q1 q0 q1)), .val (.int (own_prec b3 xS0_1 xS0_2 q0 q1)), .val (.int (own_prec b29 q0 q1 xS0_1 xS0_2)), .unset, .unset, .unset] [(.long xS0_2), (.long q1)])) (fun _ k => XT.lload X78.here hx rfl (hb hby at_128) rfl k) ?_
        refine own_go (T' := T78) (g' := (mkF m 131 #[.val (.long q0), .second, .val (.long q1), .second, .val (.long q2), .second, .val (.long q3), .second, .val (.int p4), .val (.long xS0_1), .second, .val (.long xS0_2), .second, .val (.ref b3), .val (.ref b29), .val (.int (own_prec b3 q0 q1 q0 q1)), .val (.int (own_prec b3 xS0_1 xS0_2 q0 q1)), .val (.int (own_prec b29 q0 q1 xS0_1 xS0_2)), .unset, .unset, .unset] [(.int (XT.cmpL q1 xS0_2))])) (fun _ k => XT.lcmp X78.here hx rfl (hb hby at_130) rfl k) ?_
        by_cases hc131_89 : q1 < xS0_2
        · skip
          refine own_go (T' := T78) (g' := (mkF m 134 #[.val (.long q0), .second, .val (.long q1), .second, .val (.long q2), .second, .val (.long q3), .second, .val (.int p4), .val (.long xS0_1), .second, .val (.long xS0_2), .second, .val (.ref b3), .val (.ref b29), .val (.int (own_prec b3 q0 q1 q0 q1)), .val (.int (own_prec b3 xS0_1 xS0_2 q0 q1)), .val (.int (own_prec b29 q0 q1 xS0_1 xS0_2)), .unset, .unset, .unset] [])) (fun _ k => XS.ifNo X78.here hx rfl (hb hby at_131) rfl (XT.ll_ge_f hc131_89) k) ?_
          refine own_go (T' := T78) (g' := (mkF m 135 #[.val (.long q0), .second, .val (.long q1), .second, .val (.long q2), .second, .val (.long q3), .second, .val (.int p4), .val (.long xS0_1), .second, .val (.long xS0_2), .second, .val (.ref b3), .val (.ref b29), .val (.int (own_prec b3 q0 q1 q0 q1)), .val (.int (own_prec b3 xS0_1 xS0_2 q0 q1)), .val (.int (own_prec b29 q0 q1 xS0_1 xS0_2)), .unset, .unset, .unset] [(.int (1 : Int32))])) (fun _ k => XS.iconst X78.here hx rfl (hb hby at_134) k) ?_
          refine own_go (T' := T78) (g' := (mkF m 139 #[.val (.long q0), .second, .val (.long q1), .second, .val (.long q2), .second, .val (.long q3), .second, .val (.int p4), .val (.long xS0_1), .second, .val (.long xS0_2), .second, .val (.ref b3), .val (.ref b29), .val (.int (own_prec b3 q0 q1 q0 q1)), .val (.int (own_prec b3 xS0_1 xS0_2 q0 q1)), .val (.int (own_prec b29 q0 q1 xS0_1 xS0_2)), .unset, .unset, .unset] [(.int (1 : Int32))])) (fun _ k => XS.goto X78.here hx rfl (pc0 := 135) (pc' := 139) rfl (hb hby at_135) (by decide) (by decide) k) ?_
          refine own_go (T' := T78) (g' := (mkF m 141 #[.val (.long q0), .second, .val (.long q1), .second, .val (.long q2), .second, .val (.long q3), .second, .val (.int p4), .val (.long xS0_1), .second, .val (.long xS0_2), .second, .val (.ref b3), .val (.ref b29), .val (.int (own_prec b3 q0 q1 q0 q1)), .val (.int (own_prec b3 xS0_1 xS0_2 q0 q1)), .val (.int (own_prec b29 q0 q1 xS0_1 xS0_2)), .val (.int (1 : Int32)), .unset, .unset] [])) (fun _ k => XS.istore X78.here hx rfl (hb hby at_139) rfl (l' := #[.val (.long q0), .second, .val (.long q1), .second, .val (.long q2), .second, .val (.long q3), .second, .val (.int p4), .val (.long xS0_1), .second, .val (.long xS0_2), .second, .val (.ref b3), .val (.ref b29), .val (.int (own_prec b3 q0 q1 q0 q1)), .val (.int (own_prec b3 xS0_1 xS0_2 q0 q1)), .val (.int (own_prec b29 q0 q1 xS0_1 xS0_2)), .val (.int (1 : Int32)), .unset, .unset]) rfl k) ?_
          exact J141_79 _ (by rw [if_pos hc107_88, if_pos hc131_89])
        · skip
          refine own_go (T' := T78) (g' := (mkF m 138 #[.val (.long q0), .second, .val (.long q1), .second, .val (.long q2), .second, .val (.long q3), .second, .val (.int p4), .val (.long xS0_1), .second, .val (.long xS0_2), .second, .val (.ref b3), .val (.ref b29), .val (.int (own_prec b3 q0 q1 q0 q1)), .val (.int (own_prec b3 xS0_1 xS0_2 q0 q1)), .val (.int (own_prec b29 q0 q1 xS0_1 xS0_2)), .unset, .unset, .unset] [])) (fun _ k => XS.ifYes X78.here hx rfl (pc0 := 131) (pc' := 138) rfl (hb hby at_131) rfl (XT.ll_ge_t hc131_89) (by decide) (by decide) k) ?_
          refine own_go (T' := T78) (g' := (mkF m 139 #[.val (.long q0), .second, .val (.long q1), .second, .val (.long q2), .second, .val (.long q3), .second, .val (.int p4), .val (.long xS0_1), .second, .val (.long xS0_2), .second, .val (.ref b3), .val (.ref b29), .val (.int (own_prec b3 q0 q1 q0 q1)), .val (.int (own_prec b3 xS0_1 xS0_2 q0 q1)), .val (.int (own_prec b29 q0 q1 xS0_1 xS0_2)), .unset, .unset, .unset] [(.int (0 : Int32))])) (fun _ k => XS.iconst X78.here hx rfl (hb hby at_138) k) ?_
          refine own_go (T' := T78) (g' := (mkF m 141 #[.val (.long q0), .second, .val (.long q1), .second, .val (.long q2), .second, .val (.long q3), .second, .val (.int p4), .val (.long xS0_1), .second, .val (.long xS0_2), .second, .val (.ref b3), .val (.ref b29), .val (.int (own_prec b3 q0 q1 q0 q1)), .val (.int (own_prec b3 xS0_1 xS0_2 q0 q1)), .val (.int (own_prec b29 q0 q1 xS0_1 xS0_2)), .val (.int (0 : Int32)), .unset, .unset] [])) (fun _ k => XS.istore X78.here hx rfl (hb hby at_139) rfl (l' := #[.val (.long q0), .second, .val (.long q1), .second, .val (.long q2), .second, .val (.long q3), .second, .val (.int p4), .val (.long xS0_1), .second, .val (.long xS0_2), .second, .val (.ref b3), .val (.ref b29), .val (.int (own_prec b3 q0 q1 q0 q1)), .val (.int (own_prec b3 xS0_1 xS0_2 q0 q1)), .val (.int (own_prec b29 q0 q1 xS0_1 xS0_2)), .val (.int (0 : Int32)), .unset, .unset]) rfl k) ?_
          exact J141_79 _ (by rw [if_pos hc107_88, if_neg hc131_89])
      · skip
        refine own_go (T' := T78) (g' := (mkF m 110 #[.val (.long q0), .second, .val (.long q1), .second, .val (.long q2), .second, .val (.long q3), .second, .val (.int p4), .val (.long xS0_1), .second, .val (.long xS0_2), .second, .val (.ref b3), .val (.ref b29), .val (.int (own_prec b3 q0 q1 q0 q1)), .val (.int (own_prec b3 xS0_1 xS0_2 q0 q1)), .val (.int (own_prec b29 q0 q1 xS0_1 xS0_2)), .unset, .unset, .unset] [])) (fun _ k => XS.ifNo X78.here hx rfl (hb hby at_107) rfl (XT.ll_eq_f hc107_88) k) ?_
        refine own_go (T' := T78) (g' := (mkF m 111 #[.val (.long q0), .second, .val (.long q1), .second, .val (.long q2), .second, .val (.long q3), .second, .val (.int p4), .val (.long xS0_1), .second, .val (.long xS0_2), .second, .val (.ref b3), .val (.ref b29), .val (.int (own_prec b3 q0 q1 q0 q1)), .val (.int (own_prec b3 xS0_1 xS0_2 q0 q1)), .val (.int (own_prec b29 q0 q1 xS0_1 xS0_2)), .unset, .unset, .unset] [(.long q0)])) (fun _ k => XT.lloadN X78.here hx rfl (hb hby at_110) rfl k) ?_
        refine own_go (T' := T78) (g' := (mkF m 113 #[.val (.long q0), .second, .val (.long q1), .second, .val (.long q2), .second, .val (.long q3), .second, .val (.int p4), .val (.long xS0_1), .second, .val (.long xS0_2), .second, .val (.ref b3), .val (.ref b29), .val (.int (own_prec b3 q0 q1 q0 q1)), .val (.int (own_prec b3 xS0_1 xS0_2 q0 q1)), .val (.int (own_prec b29 q0 q1 xS0_1 xS0_2)), .unset, .unset, .unset] [(.long xS0_1), (.long q0)])) (fun _ k => XT.lload X78.here hx rfl (hb hby at_111) rfl k) ?_
        refine own_go (T' := T78) (g' := (mkF m 114 #[.val (.long q0), .second, .val (.long q1), .second, .val (.long q2), .second, .val (.long q3), .second, .val (.int p4), .val (.long xS0_1), .second, .val (.long xS0_2), .second, .val (.ref b3), .val (.ref b29), .val (.int (own_prec b3 q0 q1 q0 q1)), .val (.int (own_prec b3 xS0_1 xS0_2 q0 q1)), .val (.int (own_prec b29 q0 q1 xS0_1 xS0_2)), .unset, .unset, .unset] [(.int (XT.cmpL q0 xS0_1))])) (fun _ k => XT.lcmp X78.here hx rfl (hb hby at_113) rfl k) ?_
        by_cases hc114_90 : q0 < xS0_1
        · skip
          refine own_go (T' := T78) (g' := (mkF m 117 #[.val (.long q0), .second, .val (.long q1), .second, .val (.long q2), .second, .val (.long q3), .second, .val (.int p4), .val (.long xS0_1), .second, .val (.long xS0_2), .second, .val (.ref b3), .val (.ref b29), .val (.int (own_prec b3 q0 q1 q0 q1)), .val (.int (own_prec b3 xS0_1 xS0_2 q0 q1)), .val (.int (own_prec b29 q0 q1 xS0_1 xS0_2)), .unset, .unset, .unset] [])) (fun _ k => XS.ifNo X78.here hx rfl (hb hby at_114) rfl (XT.ll_ge_f hc114_90) k) ?_
          refine own_go (T' := T78) (g' := (mkF m 118 #[.val (.long q0), .second, .val (.long q1), .second, .val (.long q2), .second, .val (.long q3), .second, .val (.int p4), .val (.long xS0_1), .second, .val (.long xS0_2), .second, .val (.ref b3), .val (.ref b29), .val (.int (own_prec b3 q0 q1 q0 q1)), .val (.int (own_prec b3 xS0_1 xS0_2 q0 q1)), .val (.int (own_prec b29 q0 q1 xS0_1 xS0_2)), .unset, .unset, .unset] [(.int (1 : Int32))])) (fun _ k => XS.iconst X78.here hx rfl (hb hby at_117) k) ?_
          refine own_go (T' := T78) (g' := (mkF m 122 #[.val (.long q0), .second, .val (.long q1), .second, .val (.long q2), .second, .val (.long q3), .second, .val (.int p4), .val (.long xS0_1), .second, .val (.long xS0_2), .second, .val (.ref b3), .val (.ref b29), .val (.int (own_prec b3 q0 q1 q0 q1)), .val (.int (own_prec b3 xS0_1 xS0_2 q0 q1)), .val (.int (own_prec b29 q0 q1 xS0_1 xS0_2)), .unset, .unset, .unset] [(.int (1 : Int32))])) (fun _ k => XS.goto X78.here hx rfl (pc0 := 118) (pc' := 122) rfl (hb hby at_118) (by decide) (by decide) k) ?_
          refine own_go (T' := T78) (g' := (mkF m 124 #[.val (.long q0), .second, .val (.long q1), .second, .val (.long q2), .second, .val (.long q3), .second, .val (.int p4), .val (.long xS0_1), .second, .val (.long xS0_2), .second, .val (.ref b3), .val (.ref b29), .val (.int (own_prec b3 q0 q1 q0 q1)), .val (.int (own_prec b3 xS0_1 xS0_2 q0 q1)), .val (.int (own_prec b29 q0 q1 xS0_1 xS0_2)), .val (.int (1 : Int32)), .unset, .unset] [])) (fun _ k => XS.istore X78.here hx rfl (hb hby at_122) rfl (l' := #[.val (.long q0), .second, .val (.long q1), .second, .val (.long q2), .second, .val (.long q3), .second, .val (.int p4), .val (.long xS0_1), .second, .val (.long xS0_2), .second, .val (.ref b3), .val (.ref b29), .val (.int (own_prec b3 q0 q1 q0 q1)), .val (.int (own_prec b3 xS0_1 xS0_2 q0 q1)), .val (.int (own_prec b29 q0 q1 xS0_1 xS0_2)), .val (.int (1 : Int32)), .unset, .unset]) rfl k) ?_
          refine own_go (T' := T78) (g' := (mkF m 141 #[.val (.long q0), .second, .val (.long q1), .second, .val (.long q2), .second, .val (.long q3), .second, .val (.int p4), .val (.long xS0_1), .second, .val (.long xS0_2), .second, .val (.ref b3), .val (.ref b29), .val (.int (own_prec b3 q0 q1 q0 q1)), .val (.int (own_prec b3 xS0_1 xS0_2 q0 q1)), .val (.int (own_prec b29 q0 q1 xS0_1 xS0_2)), .val (.int (1 : Int32)), .unset, .unset] [])) (fun _ k => XS.goto X78.here hx rfl (pc0 := 124) (pc' := 141) rfl (hb hby at_124) (by decide) (by decide) k) ?_
          exact J141_79 _ (by rw [if_neg hc107_88, if_pos hc114_90])
        · skip
          refine own_go (T' := T78) (g' := (mkF m 121 #[.val (.long q0), .second, .val (.long q1), .second, .val (.long q2), .second, .val (.long q3), .second, .val (.int p4), .val (.long xS0_1), .second, .val (.long xS0_2), .second, .val (.ref b3), .val (.ref b29), .val (.int (own_prec b3 q0 q1 q0 q1)), .val (.int (own_prec b3 xS0_1 xS0_2 q0 q1)), .val (.int (own_prec b29 q0 q1 xS0_1 xS0_2)), .unset, .unset, .unset] [])) (fun _ k => XS.ifYes X78.here hx rfl (pc0 := 114) (pc' := 121) rfl (hb hby at_114) rfl (XT.ll_ge_t hc114_90) (by decide) (by decide) k) ?_
          refine own_go (T' := T78) (g' := (mkF m 122 #[.val (.long q0), .second, .val (.long q1), .second, .val (.long q2), .second, .val (.long q3), .second, .val (.int p4), .val (.long xS0_1), .second, .val (.long xS0_2), .second, .val (.ref b3), .val (.ref b29), .val (.int (own_prec b3 q0 q1 q0 q1)), .val (.int (own_prec b3 xS0_1 xS0_2 q0 q1)), .val (.int (own_prec b29 q0 q1 xS0_1 xS0_2)), .unset, .unset, .unset] [(.int (0 : Int32))])) (fun _ k => XS.iconst X78.here hx rfl (hb hby at_121) k) ?_
          refine own_go (T' := T78) (g' := (mkF m 124 #[.val (.long q0), .second, .val (.long q1), .second, .val (.long q2), .second, .val (.long q3), .second, .val (.int p4), .val (.long xS0_1), .second, .val (.long xS0_2), .second, .val (.ref b3), .val (.ref b29), .val (.int (own_prec b3 q0 q1 q0 q1)), .val (.int (own_prec b3 xS0_1 xS0_2 q0 q1)), .val (.int (own_prec b29 q0 q1 xS0_1 xS0_2)), .val (.int (0 : Int32)), .unset, .unset] [])) (fun _ k => XS.istore X78.here hx rfl (hb hby at_122) rfl (l' := #[.val (.long q0), .second, .val (.long q1), .second, .val (.long q2), .second, .val (.long q3), .second, .val (.int p4), .val (.long xS0_1), .second, .val (.long xS0_2), .second, .val (.ref b3), .val (.ref b29), .val (.int (own_prec b3 q0 q1 q0 q1)), .val (.int (own_prec b3 xS0_1 xS0_2 q0 q1)), .val (.int (own_prec b29 q0 q1 xS0_1 xS0_2)), .val (.int (0 : Int32)), .unset, .unset]) rfl k) ?_
          refine own_go (T' := T78) (g' := (mkF m 141 #[.val (.long q0), .second, .val (.long q1), .second, .val (.long q2), .second, .val (.long q3), .second, .val (.int p4), .val (.long xS0_1), .second, .val (.long xS0_2), .second, .val (.ref b3), .val (.ref b29), .val (.int (own_prec b3 q0 q1 q0 q1)), .val (.int (own_prec b3 xS0_1 xS0_2 q0 q1)), .val (.int (own_prec b29 q0 q1 xS0_1 xS0_2)), .val (.int (0 : Int32)), .unset, .unset] [])) (fun _ k => XS.goto X78.here hx rfl (pc0 := 124) (pc' := 141) rfl (hb hby at_124) (by decide) (by decide) k) ?_
          exact J141_79 _ (by rw [if_neg hc107_88, if_neg hc114_90])
    by_cases hc19_91 : (p4 &&& (2 : Int32)) = (0 : Int32)
    · skip
      refine own_go (T' := s₁) (g' := (mkF m 26 #[.val (.long q0), .second, .val (.long q1), .second, .val (.long q2), .second, .val (.long q3), .second, .val (.int p4), .val (.long xS0_1), .second, .unset, .unset, .unset, .unset, .unset, .unset, .unset, .unset, .unset, .unset] [])) (fun _ k => XS.ifYes X0.here hx rfl (pc0 := 19) (pc' := 26) rfl (hb hby at_19) rfl (XT.i0_eq_t hc19_91) (by decide) (by decide) k) ?_
      refine own_go (T' := s₁) (g' := (mkF m 28 #[.val (.long q0), .second, .val (.long q1), .second, .val (.long q2), .second, .val (.long q3), .second, .val (.int p4), .val (.long xS0_1), .second, .unset, .unset, .unset, .unset, .unset, .unset, .unset, .unset, .unset, .unset] [(.long q3)])) (fun _ k => XT.lload X0.here hx rfl (hb hby at_26) rfl k) ?_
      exact J28_2 _ (by rw [if_pos hc19_91])
    · skip
      refine own_go (T' := s₁) (g' := (mkF m 22 #[.val (.long q0), .second, .val (.long q1), .second, .val (.long q2), .second, .val (.long q3), .second, .val (.int p4), .val (.long xS0_1), .second, .unset, .unset, .unset, .unset, .unset, .unset, .unset, .unset, .unset, .unset] [])) (fun _ k => XS.ifNo X0.here hx rfl (hb hby at_19) rfl (XT.i0_eq_f hc19_91) k) ?_
      refine own_go (T' := s₁) (g' := (mkF m 23 #[.val (.long q0), .second, .val (.long q1), .second, .val (.long q2), .second, .val (.long q3), .second, .val (.int p4), .val (.long xS0_1), .second, .unset, .unset, .unset, .unset, .unset, .unset, .unset, .unset, .unset, .unset] [(.long q1)])) (fun _ k => XT.lloadN X0.here hx rfl (hb hby at_22) rfl k) ?_
      refine own_go (T' := s₁) (g' := (mkF m 28 #[.val (.long q0), .second, .val (.long q1), .second, .val (.long q2), .second, .val (.long q3), .second, .val (.int p4), .val (.long xS0_1), .second, .unset, .unset, .unset, .unset, .unset, .unset, .unset, .unset, .unset, .unset] [(.long q1)])) (fun _ k => XS.goto X0.here hx rfl (pc0 := 23) (pc' := 28) rfl (hb hby at_23) (by decide) (by decide) k) ?_
      exact J28_2 _ (by rw [if_neg hc19_91])
  by_cases hc4_92 : (p4 &&& (1 : Int32)) = (0 : Int32)
  · skip
    refine own_go (T' := s₁) (g' := (mkF m 11 #[.val (.long q0), .second, .val (.long q1), .second, .val (.long q2), .second, .val (.long q3), .second, .val (.int p4), .unset, .unset, .unset, .unset, .unset, .unset, .unset, .unset, .unset, .unset, .unset, .unset] [])) (fun _ k => XS.ifYes X0.here hx rfl (pc0 := 4) (pc' := 11) rfl (hb hby at_4) rfl (XT.i0_eq_t hc4_92) (by decide) (by decide) k) ?_
    refine own_go (T' := s₁) (g' := (mkF m 13 #[.val (.long q0), .second, .val (.long q1), .second, .val (.long q2), .second, .val (.long q3), .second, .val (.int p4), .unset, .unset, .unset, .unset, .unset, .unset, .unset, .unset, .unset, .unset, .unset, .unset] [(.long q2)])) (fun _ k => XT.lload X0.here hx rfl (hb hby at_11) rfl k) ?_
    exact J13_1 _ (by rw [if_pos hc4_92])
  · skip
    refine own_go (T' := s₁) (g' := (mkF m 7 #[.val (.long q0), .second, .val (.long q1), .second, .val (.long q2), .second, .val (.long q3), .second, .val (.int p4), .unset, .unset, .unset, .unset, .unset, .unset, .unset, .unset, .unset, .unset, .unset, .unset] [])) (fun _ k => XS.ifNo X0.here hx rfl (hb hby at_4) rfl (XT.i0_eq_f hc4_92) k) ?_
    refine own_go (T' := s₁) (g' := (mkF m 8 #[.val (.long q0), .second, .val (.long q1), .second, .val (.long q2), .second, .val (.long q3), .second, .val (.int p4), .unset, .unset, .unset, .unset, .unset, .unset, .unset, .unset, .unset, .unset, .unset, .unset] [(.long q0)])) (fun _ k => XT.lloadN X0.here hx rfl (hb hby at_7) rfl k) ?_
    refine own_go (T' := s₁) (g' := (mkF m 13 #[.val (.long q0), .second, .val (.long q1), .second, .val (.long q2), .second, .val (.long q3), .second, .val (.int p4), .unset, .unset, .unset, .unset, .unset, .unset, .unset, .unset, .unset, .unset, .unset, .unset] [(.long q0)])) (fun _ k => XS.goto X0.here hx rfl (pc0 := 8) (pc' := 13) rfl (hb hby at_8) (by decide) (by decide) k) ?_
    exact J13_1 _ (by rw [if_neg hc4_92])
set_option maxRecDepth 65536 in
set_option maxHeartbeats 40000000 in
theorem comes_1 {Post : Tables → Env → Array Value → State → Outcome → State → Prop} (hpost : ∀ tb e args s v u, (limb_1_1.after args s (.returned v) u = true ∧ limb_1_2.after args s (.returned v) u = true ∧ True) → FrameEnd s (.returned v) u (Jvm.fieldLocs frame_1_writes args s ++ Jvm.arrayLocs frame_1_arrays args s ++ Jvm.staticLocs frame_1_statics s) 16 192 → Post tb e args s (.returned v) u) :
    ArmFor flags0 classFile x code maxLocals ret World_1 tables_1 room_1 Calls_1 rest_1 Pre_1 Post := by
  intro l hfl _ _ p e ha hc hk s m args below hf hA hF happ hP
  obtain ⟨hcalls, hrest, hpre⟩ := hP
  obtain ⟨-, -, -, hnamed, -, -, -, hat⟩ := (Spec.applies_iff hf).mp happ
  obtain ⟨hg, hn⟩ := and_e (Cond.before_iff.mp (show (Jvm.Cond.and given_1 narrow_1).before args s = true from hpre))
  obtain ⟨g1, g2⟩ := and_e hg
  obtain ⟨g3, g4⟩ := and_e g2
  obtain ⟨g5, g6⟩ := and_e g4
  obtain ⟨g7, g8⟩ := and_e g6
  obtain ⟨g9, g10⟩ := and_e g8
  obtain ⟨w0, w1, w2, w3, w4, rfl⟩ : ∃ w0 w1 w2 w3 w4 : Value, args = #[w0, w1, w2, w3, w4] := by
    have hs : args.size = 5 := by simpa [Cond.value, given_1] using g1
    obtain ⟨L⟩ := args
    match L, hs with
    | [w0, w1, w2, w3, w4], _ => exact ⟨w0, w1, w2, w3, w4, rfl⟩
  have hw := fun d (hd : d ∈ tables_1) => atoms_spec (ws := Jvm.Cond.code x code maxLocals ret :: tables_1) hat d (List.mem_cons_of_mem _ hd)
  have hfit : Fit s := fun {y c} hc i hi => by
    obtain ⟨ha, rfl⟩ := Array.getElem?_eq_some_iff.mp hc
    have q := List.all_eq_true.mp ((Array.all_eq_true_iff_forall_mem.mp hF) _ (Array.getElem_mem ha)) i (List.mem_range.mpr hi)
    simpa [Array.getElem?_eq_getElem hi] using q
  obtain ⟨hsets, hown0⟩ := atoms_of _ (rest_1_c_eq ▸ (show rest_1_c.before _ s = true from hrest))
  have hr0 := Cond.before_iff.mp hown0
  obtain ⟨i0, ei0⟩ := isL_v g3
  obtain rfl : w0 = (.long i0) := Option.some.inj ei0
  obtain ⟨i1, ei1⟩ := isL_v g5
  obtain rfl : w1 = (.long i1) := Option.some.inj ei1
  obtain ⟨i2, ei2⟩ := isL_v g7
  obtain rfl : w2 = (.long i2) := Option.some.inj ei2
  obtain ⟨i3, ei3⟩ := isL_v g9
  obtain rfl : w3 = (.long i3) := Option.some.inj ei3
  obtain ⟨i4, ei4⟩ := is_v g10
  obtain rfl : w4 = (.int i4) := Option.some.inj ei4
  obtain ⟨tu, ct, cellt, kt, et1, -⟩ := Cond.exactly_spec (hsets _ (List.mem_of_getElem? (i := 2) rfl))
  have St : Sta s s.heap "java/util/concurrent/TimeUnit" "MILLISECONDS" "Ljava/util/concurrent/TimeUnit;" (.ref tu) := Sta.start et1 (Or.inl (hsets _ (List.mem_of_getElem? (i := 1) rfl)))
  obtain ⟨n, o, h1, h2, h3, _, L, rfl, ⟨rfl, N⟩, hq⟩ := rm0 l s _ hw tables_1 i0 i1 i2 i3 i4 tu s.heap s.heap.size (Nat.le_refl _) St p e ha hc hk s m _ below hf ((Spec.applies_iff_loose hf).mp happ).1 ⟨rfl, State.Warmed39.refl s, rfl⟩ trivial
  refine ⟨n, _, h1, h2, h3, hpost _ _ _ _ _ _ ⟨Cond.after_iff.mpr rfl, Cond.after_iff.mpr (eq_i res_at (Term.int_eval (1)) rfl), trivial⟩ ⟨hq.1, hq.2.1, (hq.2.2.sift fun y hy => Or.inr (N y hy)).mono (by decide) (by decide)⟩⟩
theorem main_1_1 : Claimed_1_1 := comes_1 fun _ _ _ _ _ _ h hF => ⟨h.1, hF⟩
theorem main_1_2 : Claimed_1_2 := comes_1 fun _ _ _ _ _ _ h hF => ⟨h.2.1, hF⟩
end Jvm.Pilot.@@N@@
namespace Jvm.Pilot.@@N@@
open Jvm Jvm.ClassFile Sem Op Lib Jvm.Free Jvm.Stand Jvm.Pilot.@@N@@.Jvm.D
/-! MADE BY PROGRAM (witnessworld.py) out of the Statement's table words and the real class files: 17 classes; the members and pool entries that the words name. The judged class is class 1, her method 1. -/
namespace start1
open Jvm.ClassFile
def u (s : String) : CpInfo := .utf8 (stringToUtf16 s)
/-- a pool by its gaps: so many unusable entries, then the entry; so many at the end -/
def gap : Nat → List CpInfo → List CpInfo
  | 0, r => r
  | n + 1, r => .unusable :: gap n r
def poolList (es : List (Nat × CpInfo)) (last : Nat) : List CpInfo := es.foldr (fun e r => gap e.1 (e.2 :: r)) (gap last [])
def pool (es : List (Nat × CpInfo)) (last : Nat) : Array CpInfo := ⟨poolList es last⟩
def fileOf (pool : Array CpInfo) (this : Nat) (attrs : Array Attribute := #[]) (ms : Array MethodInfo := #[]) (fl : Nat := 33) (sup : Nat := 0) (ifs : Array Nat := #[]) (fds : Array FieldInfo := #[]) : ClassFile where
  minorVersion := 0
  majorVersion := 65
  constantPool := pool
  accessFlags := fl
  thisClass := this
  superClass := sup
  interfaces := ifs
  fields := fds
  methods := ms
  attributes := attrs
def plain (name : String) (sup : Option ClassId) : Class where
  name := name
  kind := .ordinary
  loader := none
  accessFlags := 33
  super := sup
  interfaces := #[]
  cf := none
  fields := #[]
  methods := #[]
  instanceTypes := #[]
  staticTypes := #[]
  resolved := #[]
  callSites := []
  init := .initialized
  statics := none
  mirror := none

def pool0 : Array CpInfo := pool [(5, u "<init>"), (0, u "()V"), (1, .class_ 10), (1, u "java/lang/Object")] 113

def k0c0 : Code := { maxStack := 0, maxLocals := 1, code := object_method_1_code, exceptionTable := #[], attributes := #[] }
def k0m0 : Method := { name := "<init>", desc := "()V", sig := { parameters := [], returnType := none }, accessFlags := 1, code := some k0c0 }
/-- java/lang/Object -/
def k0 : Class := { plain "java/lang/Object" none with
  accessFlags := 33
  interfaces := #[]
  cf := some (fileOf pool0 8 #[] #[{ accessFlags := 1, nameIndex := 5, descriptorIndex := 6, attributes := #[] }] 33 0 #[] #[])
  fields := #[]
  methods := #[k0m0]
  instanceTypes := #[]
  staticTypes := #[]
  resolved := Array.replicate 124 none
  statics := none }

def pool1 : Array CpInfo := pool [(2, .class_ 4), (0, .nameAndType 5 6), (0, u "java/lang/Object"), (0, u "<init>"), (0, u "()V"), (0, .class_ 8), (0, u "org/loopwright/Message"), (0, .methodref 7 3), (0, .fieldref 7 11), (0, .nameAndType 12 13), (0, u "mWhen"), (0, u "J"), (0, .fieldref 7 15), (0, .nameAndType 16 13), (0, u "mSeq"), (0, .methodref 18 19), (0, .class_ 20), (0, .nameAndType 21 22), (0, u "org/loopwright/MessageHeap"), (0, u "precedes"), (0, u "(Lorg/loopwright/Message;JJ)Z"), (0, .class_ 24), (0, u "org/loopwright/MessageHeapPrecedesPinLaw"), (2, u "law"), (0, u "(JJJJI)Z")] 3

def k1m0 : Method := { name := "<init>", desc := "()V", sig := { parameters := [], returnType := none }, accessFlags := 1, code := none }
def k1c1 : Code := { maxStack := 5, maxLocals := 21, code := code, exceptionTable := #[], attributes := #[] }
def k1m1 : Method := { name := "law", desc := "(JJJJI)Z", sig := { parameters := [.long, .long, .long, .long, .int], returnType := some .boolean }, accessFlags := 9, code := some k1c1 }
/-- org/loopwright/MessageHeapPrecedesPinLaw -/
def k1 : Class := { plain "org/loopwright/MessageHeapPrecedesPinLaw" (some 0) with
  accessFlags := 49
  interfaces := #[]
  cf := some (fileOf pool1 23 #[] #[{ accessFlags := 1, nameIndex := 5, descriptorIndex := 6, attributes := #[] }, { accessFlags := 9, nameIndex := 27, descriptorIndex := 28, attributes := #[] }] 49 2 #[] #[])
  fields := #[]
  methods := #[k1m0, k1m1]
  instanceTypes := #[]
  staticTypes := #[]
  resolved := Array.replicate 32 none
  statics := none }

def pool2 : Array CpInfo := pool [(1, .methodref 2 3), (0, .class_ 4), (0, .nameAndType 5 6), (0, u "java/lang/Object"), (0, u "<init>"), (0, u "()V"), (0, .fieldref 8 9), (0, .class_ 10), (0, .nameAndType 11 12), (0, u "java/util/concurrent/TimeUnit"), (0, u "MILLISECONDS"), (0, u "Ljava/util/concurrent/TimeUnit;"), (0, .fieldref 14 15), (0, .class_ 16), (0, .nameAndType 17 12), (0, u "org/loopwright/Message"), (0, u "mDueUnit"), (0, .fieldref 14 19), (0, .nameAndType 20 21), (0, u "mHeapAt"), (0, u "I"), (2, u "POOLED"), (0, u "Ljava/util/concurrent/atomic/AtomicInteger;"), (13, u "POOL"), (0, u "Ljava/util/concurrent/atomic/AtomicReferenceArray;"), (14, u "mInUse"), (0, u "Z"), (5, u "mTarget"), (0, u "Lorg/loopwright/Handler;"), (5, u "what"), (5, u "arg1"), (2, u "arg2"), (2, u "obj"), (0, u "Ljava/lang/Object;"), (5, u "mCallback"), (0, u "Ljava/lang/Runnable;"), (13, u "mAsynchronous"), (2, u "mWhen"), (0, u "J"), (2, u "mDueTicks"), (31, .class_ 143), (0, u "org/loopwright/Message$DropListener"), (8, u "IN_USE"), (0, u "Ljava/lang/invoke/VarHandle;"), (36, u "MAX_POOL_SIZE"), (4, u "mSeq"), (0, u "mHeldBy"), (0, u "Lorg/loopwright/MessageHeap;"), (0, u "mRun"), (0, u "Lorg/loopwright/MessageRing;"), (0, u "mRunAt"), (0, u "mHandlerRing"), (0, u "mHandlerAt"), (0, u "mObjEntry"), (0, u "mObjAt"), (0, u "mKeyEntry"), (0, u "mKeyAt")] 43

def k2c0 : Code := { maxStack := 2, maxLocals := 1, code := prog_16_method_1_code, exceptionTable := #[], attributes := #[] }
def k2m0 : Method := { name := "<init>", desc := "()V", sig := { parameters := [], returnType := none }, accessFlags := 0, code := some k2c0 }
/-- org/loopwright/Message -/
def k2 : Class := { plain "org/loopwright/Message" (some 0) with
  accessFlags := 49
  interfaces := #[]
  cf := some (fileOf pool2 14 #[.nestMembers #[142]] #[{ accessFlags := 0, nameIndex := 5, descriptorIndex := 6, attributes := #[] }] 49 2 #[] #[{ accessFlags := 26, nameIndex := 190, descriptorIndex := 21, attributes := #[] }, { accessFlags := 26, nameIndex := 152, descriptorIndex := 153, attributes := #[] }, { accessFlags := 26, nameIndex := 39, descriptorIndex := 40, attributes := #[] }, { accessFlags := 26, nameIndex := 24, descriptorIndex := 25, attributes := #[] }, { accessFlags := 1, nameIndex := 69, descriptorIndex := 21, attributes := #[] }, { accessFlags := 1, nameIndex := 75, descriptorIndex := 21, attributes := #[] }, { accessFlags := 1, nameIndex := 78, descriptorIndex := 21, attributes := #[] }, { accessFlags := 1, nameIndex := 81, descriptorIndex := 82, attributes := #[] }, { accessFlags := 0, nameIndex := 62, descriptorIndex := 63, attributes := #[] }, { accessFlags := 0, nameIndex := 88, descriptorIndex := 89, attributes := #[] }, { accessFlags := 2, nameIndex := 103, descriptorIndex := 56, attributes := #[] }, { accessFlags := 0, nameIndex := 106, descriptorIndex := 107, attributes := #[] }, { accessFlags := 0, nameIndex := 110, descriptorIndex := 107, attributes := #[] }, { accessFlags := 0, nameIndex := 17, descriptorIndex := 12, attributes := #[] }, { accessFlags := 0, nameIndex := 195, descriptorIndex := 107, attributes := #[] }, { accessFlags := 0, nameIndex := 196, descriptorIndex := 197, attributes := #[] }, { accessFlags := 0, nameIndex := 20, descriptorIndex := 21, attributes := #[] }, { accessFlags := 0, nameIndex := 198, descriptorIndex := 199, attributes := #[] }, { accessFlags := 0, nameIndex := 200, descriptorIndex := 21, attributes := #[] }, { accessFlags := 0, nameIndex := 201, descriptorIndex := 199, attributes := #[] }, { accessFlags := 0, nameIndex := 202, descriptorIndex := 21, attributes := #[] }, { accessFlags := 0, nameIndex := 203, descriptorIndex := 82, attributes := #[] }, { accessFlags := 0, nameIndex := 204, descriptorIndex := 21, attributes := #[] }, { accessFlags := 0, nameIndex := 205, descriptorIndex := 82, attributes := #[] }, { accessFlags := 0, nameIndex := 206, descriptorIndex := 21, attributes := #[] }, { accessFlags := 66, nameIndex := 55, descriptorIndex := 56, attributes := #[] }])
  fields := #[{ name := "MAX_POOL_SIZE", type := .int, accessFlags := 26, slot := 0, constantValue := 0 }, { name := "IN_USE", type := (.object "java/lang/invoke/VarHandle"), accessFlags := 26, slot := 1, constantValue := 0 }, { name := "POOL", type := (.object "java/util/concurrent/atomic/AtomicReferenceArray"), accessFlags := 26, slot := 2, constantValue := 0 }, { name := "POOLED", type := (.object "java/util/concurrent/atomic/AtomicInteger"), accessFlags := 26, slot := 3, constantValue := 0 }, { name := "what", type := .int, accessFlags := 1, slot := 0, constantValue := 0 }, { name := "arg1", type := .int, accessFlags := 1, slot := 1, constantValue := 0 }, { name := "arg2", type := .int, accessFlags := 1, slot := 2, constantValue := 0 }, { name := "obj", type := (.object "java/lang/Object"), accessFlags := 1, slot := 3, constantValue := 0 }, { name := "mTarget", type := (.object "org/loopwright/Handler"), accessFlags := 0, slot := 4, constantValue := 0 }, { name := "mCallback", type := (.object "java/lang/Runnable"), accessFlags := 0, slot := 5, constantValue := 0 }, { name := "mAsynchronous", type := .boolean, accessFlags := 2, slot := 6, constantValue := 0 }, { name := "mWhen", type := .long, accessFlags := 0, slot := 7, constantValue := 0 }, { name := "mDueTicks", type := .long, accessFlags := 0, slot := 8, constantValue := 0 }, { name := "mDueUnit", type := (.object "java/util/concurrent/TimeUnit"), accessFlags := 0, slot := 9, constantValue := 0 }, { name := "mSeq", type := .long, accessFlags := 0, slot := 10, constantValue := 0 }, { name := "mHeldBy", type := (.object "org/loopwright/MessageHeap"), accessFlags := 0, slot := 11, constantValue := 0 }, { name := "mHeapAt", type := .int, accessFlags := 0, slot := 12, constantValue := 0 }, { name := "mRun", type := (.object "org/loopwright/MessageRing"), accessFlags := 0, slot := 13, constantValue := 0 }, { name := "mRunAt", type := .int, accessFlags := 0, slot := 14, constantValue := 0 }, { name := "mHandlerRing", type := (.object "org/loopwright/MessageRing"), accessFlags := 0, slot := 15, constantValue := 0 }, { name := "mHandlerAt", type := .int, accessFlags := 0, slot := 16, constantValue := 0 }, { name := "mObjEntry", type := (.object "java/lang/Object"), accessFlags := 0, slot := 17, constantValue := 0 }, { name := "mObjAt", type := .int, accessFlags := 0, slot := 18, constantValue := 0 }, { name := "mKeyEntry", type := (.object "java/lang/Object"), accessFlags := 0, slot := 19, constantValue := 0 }, { name := "mKeyAt", type := .int, accessFlags := 0, slot := 20, constantValue := 0 }, { name := "mInUse", type := .boolean, accessFlags := 66, slot := 21, constantValue := 0 }]
  methods := #[k2m0]
  instanceTypes := #[.int, .int, .int, (.object "java/lang/Object"), (.object "org/loopwright/Handler"), (.object "java/lang/Runnable"), .boolean, .long, .long, (.object "java/util/concurrent/TimeUnit"), .long, (.object "org/loopwright/MessageHeap"), .int, (.object "org/loopwright/MessageRing"), .int, (.object "org/loopwright/MessageRing"), .int, (.object "java/lang/Object"), .int, (.object "java/lang/Object"), .int, .boolean]
  staticTypes := #[.int, (.object "java/lang/invoke/VarHandle"), (.object "java/util/concurrent/atomic/AtomicReferenceArray"), (.object "java/util/concurrent/atomic/AtomicInteger")]
  resolved := Array.replicate 250 none
  statics := none }

def pool3 : Array CpInfo := pool [(1, .class_ 2), (0, u "java/lang/constant/Constable"), (0, .class_ 4), (0, u "java/lang/Object")] 6

/-- java/lang/constant/Constable -/
def k3 : Class := { plain "java/lang/constant/Constable" (some 0) with
  accessFlags := 1537
  interfaces := #[]
  cf := some (fileOf pool3 1 #[] #[] 1537 3 #[] #[])
  fields := #[]
  methods := #[]
  instanceTypes := #[]
  staticTypes := #[]
  resolved := Array.replicate 11 none
  statics := none }

def pool4 : Array CpInfo := pool [(1, .class_ 2), (0, u "java/lang/Comparable"), (0, .class_ 4), (0, u "java/lang/Object")] 7

/-- java/lang/Comparable -/
def k4 : Class := { plain "java/lang/Comparable" (some 0) with
  accessFlags := 1537
  interfaces := #[]
  cf := some (fileOf pool4 1 #[] #[] 1537 3 #[] #[])
  fields := #[]
  methods := #[]
  instanceTypes := #[]
  staticTypes := #[]
  resolved := Array.replicate 12 none
  statics := none }

def pool5 : Array CpInfo := pool [(1, .class_ 2), (0, u "java/io/Serializable"), (0, .class_ 4), (0, u "java/lang/Object")] 2

/-- java/io/Serializable -/
def k5 : Class := { plain "java/io/Serializable" (some 0) with
  accessFlags := 1537
  interfaces := #[]
  cf := some (fileOf pool5 1 #[] #[] 1537 3 #[] #[])
  fields := #[]
  methods := #[]
  instanceTypes := #[]
  staticTypes := #[]
  resolved := Array.replicate 7 none
  statics := none }

def pool6 : Array CpInfo := pool [(2, .class_ 4), (1, u "java/lang/Enum"), (0, u "name"), (0, u "Ljava/lang/String;"), (2, u "ordinal"), (0, u "I"), (1, .class_ 14), (1, u "java/lang/Object"), (4, u "hash"), (86, .class_ 108), (1, u "java/lang/Enum$EnumDesc"), (2, .class_ 112), (0, u "java/lang/constant/Constable"), (0, .class_ 114), (0, u "java/lang/Comparable"), (0, .class_ 116), (0, u "java/io/Serializable")] 87

/-- java/lang/Enum -/
def k6 : Class := { plain "java/lang/Enum" (some 0) with
  accessFlags := 1057
  interfaces := #[3, 4, 5]
  cf := some (fileOf pool6 2 #[.nestMembers #[106]] #[] 1057 12 #[111, 113, 115] #[{ accessFlags := 18, nameIndex := 5, descriptorIndex := 6, attributes := #[] }, { accessFlags := 18, nameIndex := 9, descriptorIndex := 10, attributes := #[] }, { accessFlags := 2, nameIndex := 19, descriptorIndex := 10, attributes := #[] }])
  fields := #[{ name := "name", type := (.object "java/lang/String"), accessFlags := 18, slot := 0, constantValue := 0 }, { name := "ordinal", type := .int, accessFlags := 18, slot := 1, constantValue := 0 }, { name := "hash", type := .int, accessFlags := 2, slot := 2, constantValue := 0 }]
  methods := #[]
  instanceTypes := #[(.object "java/lang/String"), .int, .int]
  staticTypes := #[]
  resolved := Array.replicate 204 none
  statics := none }

def pool7 : Array CpInfo := pool [(1, .class_ 2), (0, u "java/util/concurrent/TimeUnit"), (2, u "NANOSECONDS"), (0, u "Ljava/util/concurrent/TimeUnit;"), (2, u "MICROSECONDS"), (2, u "MILLISECONDS"), (2, u "SECONDS"), (2, u "MINUTES"), (2, u "HOURS"), (2, u "DAYS"), (2, u "$VALUES"), (0, u "[Ljava/util/concurrent/TimeUnit;"), (6, .class_ 37), (1, u "java/lang/Enum"), (8, u "scale"), (0, u "J"), (6, u "maxNanos"), (4, u "microRatio"), (2, u "maxMicros"), (4, u "milliRatio"), (0, u "I"), (2, u "maxMillis"), (4, u "secRatio"), (2, u "maxSecs"), (83, .class_ 165), (1, u "java/util/concurrent/TimeUnit$1"), (46, u "NANO_SCALE"), (3, u "MICRO_SCALE"), (0, u "MILLI_SCALE"), (0, u "SECOND_SCALE"), (0, u "MINUTE_SCALE"), (0, u "HOUR_SCALE"), (0, u "DAY_SCALE")] 61

/-- java/util/concurrent/TimeUnit -/
def k7 : Class := { plain "java/util/concurrent/TimeUnit" (some 6) with
  accessFlags := 16433
  interfaces := #[]
  cf := some (fileOf pool7 1 #[.nestMembers #[163]] #[] 16433 35 #[] #[{ accessFlags := 16409, nameIndex := 5, descriptorIndex := 6, attributes := #[] }, { accessFlags := 16409, nameIndex := 9, descriptorIndex := 6, attributes := #[] }, { accessFlags := 16409, nameIndex := 12, descriptorIndex := 6, attributes := #[] }, { accessFlags := 16409, nameIndex := 15, descriptorIndex := 6, attributes := #[] }, { accessFlags := 16409, nameIndex := 18, descriptorIndex := 6, attributes := #[] }, { accessFlags := 16409, nameIndex := 21, descriptorIndex := 6, attributes := #[] }, { accessFlags := 16409, nameIndex := 24, descriptorIndex := 6, attributes := #[] }, { accessFlags := 26, nameIndex := 212, descriptorIndex := 47, attributes := #[] }, { accessFlags := 26, nameIndex := 216, descriptorIndex := 47, attributes := #[] }, { accessFlags := 26, nameIndex := 217, descriptorIndex := 47, attributes := #[] }, { accessFlags := 26, nameIndex := 218, descriptorIndex := 47, attributes := #[] }, { accessFlags := 26, nameIndex := 219, descriptorIndex := 47, attributes := #[] }, { accessFlags := 26, nameIndex := 220, descriptorIndex := 47, attributes := #[] }, { accessFlags := 26, nameIndex := 221, descriptorIndex := 47, attributes := #[] }, { accessFlags := 18, nameIndex := 46, descriptorIndex := 47, attributes := #[] }, { accessFlags := 18, nameIndex := 54, descriptorIndex := 47, attributes := #[] }, { accessFlags := 18, nameIndex := 62, descriptorIndex := 47, attributes := #[] }, { accessFlags := 18, nameIndex := 71, descriptorIndex := 47, attributes := #[] }, { accessFlags := 18, nameIndex := 79, descriptorIndex := 47, attributes := #[] }, { accessFlags := 18, nameIndex := 59, descriptorIndex := 47, attributes := #[] }, { accessFlags := 18, nameIndex := 67, descriptorIndex := 68, attributes := #[] }, { accessFlags := 18, nameIndex := 76, descriptorIndex := 68, attributes := #[] }, { accessFlags := 4122, nameIndex := 27, descriptorIndex := 28, attributes := #[] }])
  fields := #[{ name := "NANOSECONDS", type := (.object "java/util/concurrent/TimeUnit"), accessFlags := 16409, slot := 0, constantValue := 0 }, { name := "MICROSECONDS", type := (.object "java/util/concurrent/TimeUnit"), accessFlags := 16409, slot := 1, constantValue := 0 }, { name := "MILLISECONDS", type := (.object "java/util/concurrent/TimeUnit"), accessFlags := 16409, slot := 2, constantValue := 0 }, { name := "SECONDS", type := (.object "java/util/concurrent/TimeUnit"), accessFlags := 16409, slot := 3, constantValue := 0 }, { name := "MINUTES", type := (.object "java/util/concurrent/TimeUnit"), accessFlags := 16409, slot := 4, constantValue := 0 }, { name := "HOURS", type := (.object "java/util/concurrent/TimeUnit"), accessFlags := 16409, slot := 5, constantValue := 0 }, { name := "DAYS", type := (.object "java/util/concurrent/TimeUnit"), accessFlags := 16409, slot := 6, constantValue := 0 }, { name := "NANO_SCALE", type := .long, accessFlags := 26, slot := 7, constantValue := 0 }, { name := "MICRO_SCALE", type := .long, accessFlags := 26, slot := 8, constantValue := 0 }, { name := "MILLI_SCALE", type := .long, accessFlags := 26, slot := 9, constantValue := 0 }, { name := "SECOND_SCALE", type := .long, accessFlags := 26, slot := 10, constantValue := 0 }, { name := "MINUTE_SCALE", type := .long, accessFlags := 26, slot := 11, constantValue := 0 }, { name := "HOUR_SCALE", type := .long, accessFlags := 26, slot := 12, constantValue := 0 }, { name := "DAY_SCALE", type := .long, accessFlags := 26, slot := 13, constantValue := 0 }, { name := "scale", type := .long, accessFlags := 18, slot := 3, constantValue := 0 }, { name := "maxNanos", type := .long, accessFlags := 18, slot := 4, constantValue := 0 }, { name := "maxMicros", type := .long, accessFlags := 18, slot := 5, constantValue := 0 }, { name := "maxMillis", type := .long, accessFlags := 18, slot := 6, constantValue := 0 }, { name := "maxSecs", type := .long, accessFlags := 18, slot := 7, constantValue := 0 }, { name := "microRatio", type := .long, accessFlags := 18, slot := 8, constantValue := 0 }, { name := "milliRatio", type := .int, accessFlags := 18, slot := 9, constantValue := 0 }, { name := "secRatio", type := .int, accessFlags := 18, slot := 10, constantValue := 0 }, { name := "$VALUES", type := (.array (.object "java/util/concurrent/TimeUnit")), accessFlags := 4122, slot := 14, constantValue := 0 }]
  methods := #[]
  instanceTypes := #[(.object "java/lang/String"), .int, .int, .long, .long, .long, .long, .long, .long, .int, .int]
  staticTypes := #[(.object "java/util/concurrent/TimeUnit"), (.object "java/util/concurrent/TimeUnit"), (.object "java/util/concurrent/TimeUnit"), (.object "java/util/concurrent/TimeUnit"), (.object "java/util/concurrent/TimeUnit"), (.object "java/util/concurrent/TimeUnit"), (.object "java/util/concurrent/TimeUnit"), .long, .long, .long, .long, .long, .long, .long, (.array (.object "java/util/concurrent/TimeUnit"))]
  resolved := Array.replicate 283 none
  statics := some 0 }

def pool8 : Array CpInfo := pool [(2, .class_ 4), (1, u "java/lang/Object"), (2, .class_ 8), (0, u "org/loopwright/MessageHeap"), (0, .class_ 10), (0, u "org/loopwright/Message"), (2, u "mHeap"), (0, u "[Lorg/loopwright/Message;"), (13, u "mDueRun"), (0, u "Lorg/loopwright/MessageRing;"), (2, u "mLaterRun"), (2, u "mIndex"), (0, u "Lorg/loopwright/MessageIndex;"), (2, u "mHead"), (0, u "Lorg/loopwright/Message;"), (10, u "precedes"), (4, u "I"), (9, u "mHeapSize"), (38, .class_ 107), (1, u "org/loopwright/MessageHeap$Rule"), (23, .fieldref 9 132), (0, .nameAndType 133 134), (0, u "mWhen"), (0, u "J"), (0, .fieldref 9 136), (0, .nameAndType 137 134), (0, u "mSeq"), (2, u "(Lorg/loopwright/Message;JJ)Z"), (22, u "INITIAL_CAPACITY")] 19

def k8c0 : Code := { maxStack := 4, maxLocals := 5, code := prog_18_method_9_code, exceptionTable := #[], attributes := #[] }
def k8m0 : Method := { name := "precedes", desc := "(Lorg/loopwright/Message;JJ)Z", sig := { parameters := [(.object "org/loopwright/Message"), .long, .long], returnType := some .boolean }, accessFlags := 8, code := some k8c0 }
/-- org/loopwright/MessageHeap -/
def k8 : Class := { plain "org/loopwright/MessageHeap" (some 0) with
  accessFlags := 48
  interfaces := #[]
  cf := some (fileOf pool8 7 #[.nestMembers #[105]] #[{ accessFlags := 8, nameIndex := 51, descriptorIndex := 140, attributes := #[] }] 48 2 #[] #[{ accessFlags := 26, nameIndex := 163, descriptorIndex := 56, attributes := #[] }, { accessFlags := 18, nameIndex := 35, descriptorIndex := 36, attributes := #[] }, { accessFlags := 2, nameIndex := 13, descriptorIndex := 14, attributes := #[] }, { accessFlags := 2, nameIndex := 66, descriptorIndex := 56, attributes := #[] }, { accessFlags := 18, nameIndex := 28, descriptorIndex := 29, attributes := #[] }, { accessFlags := 18, nameIndex := 32, descriptorIndex := 29, attributes := #[] }, { accessFlags := 2, nameIndex := 39, descriptorIndex := 40, attributes := #[] }])
  fields := #[{ name := "INITIAL_CAPACITY", type := .int, accessFlags := 26, slot := 0, constantValue := 0 }, { name := "mIndex", type := (.object "org/loopwright/MessageIndex"), accessFlags := 18, slot := 0, constantValue := 0 }, { name := "mHeap", type := (.array (.object "org/loopwright/Message")), accessFlags := 2, slot := 1, constantValue := 0 }, { name := "mHeapSize", type := .int, accessFlags := 2, slot := 2, constantValue := 0 }, { name := "mDueRun", type := (.object "org/loopwright/MessageRing"), accessFlags := 18, slot := 3, constantValue := 0 }, { name := "mLaterRun", type := (.object "org/loopwright/MessageRing"), accessFlags := 18, slot := 4, constantValue := 0 }, { name := "mHead", type := (.object "org/loopwright/Message"), accessFlags := 2, slot := 5, constantValue := 0 }]
  methods := #[k8m0]
  instanceTypes := #[(.object "org/loopwright/MessageIndex"), (.array (.object "org/loopwright/Message")), .int, (.object "org/loopwright/MessageRing"), (.object "org/loopwright/MessageRing"), (.object "org/loopwright/Message")]
  staticTypes := #[.int]
  resolved := Array.replicate 183 none
  statics := none }

def pool9 : Array CpInfo := pool [(2, .class_ 4), (1, u "java/lang/CharSequence"), (42, .class_ 48), (0, u "java/lang/CharSequence$1CodePointIterator"), (10, .class_ 60), (0, u "java/lang/CharSequence$1CharIterator"), (5, .class_ 67), (0, u "java/lang/Object")] 63

/-- java/lang/CharSequence -/
def k9 : Class := { plain "java/lang/CharSequence" (some 0) with
  accessFlags := 1537
  interfaces := #[]
  cf := some (fileOf pool9 2 #[.nestMembers #[47, 59]] #[] 1537 66 #[] #[])
  fields := #[]
  methods := #[]
  instanceTypes := #[]
  staticTypes := #[]
  resolved := Array.replicate 131 none
  statics := none }

def pool10 : Array CpInfo := pool [(1, .class_ 2), (0, u "java/lang/constant/ConstantDesc"), (0, .class_ 4), (0, u "java/lang/Object")] 32

/-- java/lang/constant/ConstantDesc -/
def k10 : Class := { plain "java/lang/constant/ConstantDesc" (some 0) with
  accessFlags := 1537
  interfaces := #[]
  cf := some (fileOf pool10 1 #[] #[] 1537 3 #[] #[])
  fields := #[]
  methods := #[]
  instanceTypes := #[]
  staticTypes := #[]
  resolved := Array.replicate 37 none
  statics := none }

def pool11 : Array CpInfo := pool [(2, .class_ 4), (1, u "java/lang/Object"), (0, u "<init>"), (0, u "()V"), (3, .class_ 12), (1, u "java/lang/String"), (0, u "value"), (0, u "[B"), (2, u "coder"), (0, u "B"), (2, u "hash"), (0, u "I"), (2, u "hashIsZero"), (0, u "Z"), (13, u "COMPACT_STRINGS"), (534, .class_ 576), (0, u "java/lang/CharSequence"), (22, u "CASE_INSENSITIVE_ORDER"), (0, u "Ljava/util/Comparator;"), (500, u "serialPersistentFields"), (0, u "[Ljava/io/ObjectStreamField;"), (0, .class_ 1104), (0, u "java/lang/String$CaseInsensitiveComparator"), (1, .class_ 1107), (0, u "java/io/Serializable"), (0, .class_ 1109), (0, u "java/lang/Comparable"), (0, .class_ 1111), (0, u "java/lang/constant/Constable"), (0, .class_ 1113), (0, u "java/lang/constant/ConstantDesc"), (2, u "serialVersionUID"), (0, u "J"), (3, u "REPL"), (0, u "C"), (2, u "LATIN1"), (1, u "UTF16")] 323

def k11m0 : Method := { name := "<init>", desc := "()V", sig := { parameters := [], returnType := none }, accessFlags := 1, code := none }
/-- java/lang/String -/
def k11 : Class := { plain "java/lang/String" (some 0) with
  accessFlags := 49
  interfaces := #[5, 4, 9, 3, 10]
  cf := some (fileOf pool11 10 #[.nestMembers #[1103]] #[{ accessFlags := 1, nameIndex := 5, descriptorIndex := 6, attributes := #[] }] 49 2 #[1106, 1108, 575, 1110, 1112] #[{ accessFlags := 18, nameIndex := 13, descriptorIndex := 14, attributes := #[] }, { accessFlags := 18, nameIndex := 17, descriptorIndex := 18, attributes := #[] }, { accessFlags := 2, nameIndex := 21, descriptorIndex := 22, attributes := #[] }, { accessFlags := 2, nameIndex := 25, descriptorIndex := 26, attributes := #[] }, { accessFlags := 26, nameIndex := 1116, descriptorIndex := 1117, attributes := #[] }, { accessFlags := 24, nameIndex := 40, descriptorIndex := 26, attributes := #[] }, { accessFlags := 26, nameIndex := 1101, descriptorIndex := 1102, attributes := #[] }, { accessFlags := 26, nameIndex := 1121, descriptorIndex := 1122, attributes := #[] }, { accessFlags := 25, nameIndex := 599, descriptorIndex := 600, attributes := #[] }, { accessFlags := 24, nameIndex := 1125, descriptorIndex := 18, attributes := #[] }, { accessFlags := 24, nameIndex := 1127, descriptorIndex := 18, attributes := #[] }])
  fields := #[{ name := "value", type := (.array .byte), accessFlags := 18, slot := 0, constantValue := 0 }, { name := "coder", type := .byte, accessFlags := 18, slot := 1, constantValue := 0 }, { name := "hash", type := .int, accessFlags := 2, slot := 2, constantValue := 0 }, { name := "hashIsZero", type := .boolean, accessFlags := 2, slot := 3, constantValue := 0 }, { name := "serialVersionUID", type := .long, accessFlags := 26, slot := 0, constantValue := 0 }, { name := "COMPACT_STRINGS", type := .boolean, accessFlags := 24, slot := 1, constantValue := 0 }, { name := "serialPersistentFields", type := (.array (.object "java/io/ObjectStreamField")), accessFlags := 26, slot := 2, constantValue := 0 }, { name := "REPL", type := .char, accessFlags := 26, slot := 3, constantValue := 0 }, { name := "CASE_INSENSITIVE_ORDER", type := (.object "java/util/Comparator"), accessFlags := 25, slot := 4, constantValue := 0 }, { name := "LATIN1", type := .byte, accessFlags := 24, slot := 5, constantValue := 0 }, { name := "UTF16", type := .byte, accessFlags := 24, slot := 6, constantValue := 0 }]
  methods := #[k11m0]
  instanceTypes := #[(.array .byte), .byte, .int, .boolean]
  staticTypes := #[.long, .boolean, (.array (.object "java/io/ObjectStreamField")), .char, (.object "java/util/Comparator"), .byte, .byte]
  resolved := Array.replicate 1451 none
  statics := none }

def pool12 : Array CpInfo := pool [(1, u "java/lang/Cloneable"), (0, .class_ 1), (0, u "java/lang/Object"), (0, .class_ 3)] 3

/-- java/lang/Cloneable -/
def k12 : Class := { plain "java/lang/Cloneable" (some 0) with
  accessFlags := 1537
  interfaces := #[]
  cf := some (fileOf pool12 2 #[] #[] 1537 4 #[] #[])
  fields := #[]
  methods := #[]
  instanceTypes := #[]
  staticTypes := #[]
  resolved := Array.replicate 8 none
  statics := none }

/-- the primitive byte -/
def k13 : Class := { plain "byte" none with kind := .primitive 'B', accessFlags := 0x411 }
/-- [B -/
def k14 : Class := { plain "[B" (some 0) with kind := .array 13 .byte, interfaces := #[12, 5], accessFlags := 1041 }

/-- the primitive int -/
def k15 : Class := { plain "int" none with kind := .primitive 'I', accessFlags := 0x411 }
/-- [I -/
def k16 : Class := { plain "[I" (some 0) with kind := .array 15 .int, interfaces := #[12, 5], accessFlags := 1041 }

def heap : Heap := #[{ cls := 7, slots := #[.null, .null, .ref 2, .null, .null, .null, .null, .long 0, .long 0, .long 0, .long 0, .long 0, .long 0, .long 0, .null], vm := .statics 7 },
  { cls := 11, slots := #[.null, .int 0, .int 0, .int 0], vm := .none },
  { cls := 7, slots := #[.ref 1, .int 2, .int 0, .long 1000000, .long 9223372036854, .long 9223372036854775, .long 9223372036854775807, .long 9223372036854775, .long 1000, .int 1, .int 1000], vm := .none }]
def classes : Array Class := #[k0, k1, k2, k3, k4, k5, k6, k7, k8, k9, k10, k11, k12, k13, k14, k15, k16]
def interned : List (Array UInt16 × Addr) := []
def slotsUsed : Nat := 30
def theMethod : MethodId := ⟨1, 1⟩
def args0 : Array Value := #[.long 5, .long 3, .long 5, .long 3, .int 3]
def aboutOver (below : List Frame) : State where
  vm := { classes := classes, interned := interned.toArray }
  heap := heap
  slotsUsed := slotsUsed
  threads := #[{ frames := .invoking theMethod args0 :: below }]
def below0 : List Frame := [.native { method := ⟨0, 0⟩, args := #[] }]
def about1 : State := aboutOver below0
def p0 : Program := .bare "" "" ""
def e0 : Env := launch0.env 0 0 0
theorem w_frames : about1.frames = Frame.invoking theMethod args0 :: below0 := rfl
set_option maxRecDepth 65536 in
theorem w_args : argsFit about1.vm theMethod args0 = true := by decide +kernel
set_option maxRecDepth 65536 in
theorem w_heap : heapFits about1 = true := by decide +kernel
set_option maxRecDepth 65536 in
theorem w_runnable : about1.curStatus? = some .runnable := by decide +kernel
set_option maxRecDepth 65536 in
theorem w_alone : about1.alone = true := by decide +kernel
set_option maxRecDepth 65536 in
theorem w_named : about1.methodNamed? x = some theMethod := by decide +kernel
set_option maxRecDepth 65536 in
theorem w_hears : about1.hears theMethod below0 = true := by decide +kernel
set_option maxRecDepth 65536 in
theorem w_ripe : about1.ripe theMethod args0 below0 = true := by decide +kernel
theorem w_running : about1.status = .running := rfl
set_option maxRecDepth 65536 in
theorem w_room : about1.hasRoom e0.platform room_1 = true :=
  launch0.hasRoom_least _ room_1 (by decide +kernel) (by decide +kernel) (by decide +kernel) (by decide +kernel) (by decide +kernel) (by decide +kernel)
theorem allAtoms_all (ts : List Jvm.Cond) (a : Array Jvm.Value) (st : Jvm.State) : (allAtoms ts).before a st = ts.all (fun c => c.before a st) := by
  induction ts with
  | nil => rfl
  | cons c t ih =>
    show (Jvm.Cond.and c (allAtoms t)).before a st = _
    rw [Jvm.Cond.before_and, ih, List.all_cons]
def words1 : List Jvm.Cond := Jvm.Cond.code x code maxLocals ret :: tables_1
/-- a 'code' word, met by the world's own term for the bytes: nothing is compared byte by byte -/
theorem code_word {y : MethodName} {bytes : ByteArray} {mx : Nat} {rt : Option FieldType} {a : Array Value} {s : State} {m : MethodId} {meth : Method} {c : Code} (h1 : s.methodNamed? y = some m) (h2 : s.vm.method? m = some meth) (h3 : meth.code = some c) (h4 : c.code = bytes)
    (h5 : (c.maxLocals == mx && c.exceptionTable.isEmpty && decide (c.maxStack ≤ mostOperands) && decide (meth.sig.returnType = rt) && !meth.locks && decide (parseMethodDescriptor y.desc = some meth.sig)) = true) : (Jvm.Cond.code y bytes mx rt).before a s = true := by
  simp only [Bool.and_eq_true, beq_iff_eq, Bool.not_eq_true', decide_eq_true_eq] at h5
  obtain ⟨⟨⟨⟨⟨g1, g2⟩, g3⟩, g4⟩, g5⟩, g6⟩ := h5
  simp [Cond.before, Cond.holds, Cond.value, h1, h2, h3, h4, g1, g2, g3, g4, g5, g6]
def isCode : Jvm.Cond → Bool
  | .code _ _ _ _ => true
  | _ => false
theorem all_split {L : List Jvm.Cond} {P : Jvm.Cond → Bool} (h1 : L.all (fun c => isCode c || P c) = true) (h2 : ∀ c ∈ L.filter isCode, P c = true) : L.all P = true := by
  refine List.all_eq_true.mpr fun c hc => ?_
  have h := List.all_eq_true.mp h1 c hc
  rcases Bool.eq_false_or_eq_true (isCode c) with hi | hi
  · exact h2 c (List.mem_filter.mpr ⟨hc, hi⟩)
  · simpa [hi] using h
set_option maxRecDepth 65536 in
theorem w_c0 : (Jvm.Cond.code x code maxLocals ret).before args0 about1 = true := code_word (m := ⟨1, 1⟩) (meth := k1m1) (c := k1c1) (by decide +kernel) rfl rfl rfl (by decide +kernel)
set_option maxRecDepth 65536 in
theorem w_c1 : (Jvm.Cond.code ({ cls := "org/loopwright/Message", name := "<init>", desc := "()V" } : Jvm.MethodName) prog_16_method_1_code (1 : Nat) (Option.none : Option Jvm.ClassFile.FieldType)).before args0 about1 = true := code_word (m := ⟨2, 0⟩) (meth := k2m0) (c := k2c0) (by decide +kernel) rfl rfl rfl (by decide +kernel)
set_option maxRecDepth 65536 in
theorem w_c2 : (Jvm.Cond.code ({ cls := "java/lang/Object", name := "<init>", desc := "()V" } : Jvm.MethodName) object_method_1_code (1 : Nat) (Option.none : Option Jvm.ClassFile.FieldType)).before args0 about1 = true := code_word (m := ⟨0, 0⟩) (meth := k0m0) (c := k0c0) (by decide +kernel) rfl rfl rfl (by decide +kernel)
set_option maxRecDepth 65536 in
theorem w_c3 : (Jvm.Cond.code ({ cls := "org/loopwright/MessageHeap", name := "precedes", desc := "(Lorg/loopwright/Message;JJ)Z" } : Jvm.MethodName) prog_18_method_9_code (5 : Nat) (Option.some Jvm.ClassFile.FieldType.boolean)).before args0 about1 = true := code_word (m := ⟨8, 0⟩) (meth := k8m0) (c := k8c0) (by decide +kernel) rfl rfl rfl (by decide +kernel)
def codes1 : List Jvm.Cond := [Jvm.Cond.code x code maxLocals ret, Jvm.Cond.code ({ cls := "org/loopwright/Message", name := "<init>", desc := "()V" } : Jvm.MethodName) prog_16_method_1_code (1 : Nat) (Option.none : Option Jvm.ClassFile.FieldType), Jvm.Cond.code ({ cls := "java/lang/Object", name := "<init>", desc := "()V" } : Jvm.MethodName) object_method_1_code (1 : Nat) (Option.none : Option Jvm.ClassFile.FieldType), Jvm.Cond.code ({ cls := "org/loopwright/MessageHeap", name := "precedes", desc := "(Lorg/loopwright/Message;JJ)Z" } : Jvm.MethodName) prog_18_method_9_code (5 : Nat) (Option.some Jvm.ClassFile.FieldType.boolean)]
set_option maxRecDepth 65536 in
theorem codes_eq : words1.filter isCode = codes1 := rfl
theorem w_codes : ∀ c ∈ words1.filter isCode, c.before args0 about1 = true := by
  rw [codes_eq]
  intro c hc
  simp only [codes1, List.mem_cons, List.not_mem_nil, or_false] at hc
  rcases hc with rfl | rfl | rfl | rfl
  · exact w_c0
  · exact w_c1
  · exact w_c2
  · exact w_c3
set_option maxRecDepth 65536 in
theorem w_t1 : (words1.take 24).all (fun c => isCode c || c.before args0 about1) = true := by decide +kernel
set_option maxRecDepth 65536 in
theorem w_t2 : (words1.drop 24).all (fun c => isCode c || c.before args0 about1) = true := by decide +kernel
theorem w_tables : (allAtoms (Jvm.Cond.code x code maxLocals ret :: tables_1)).before args0 about1 = true := by
  rw [allAtoms_all]
  show words1.all (fun c => c.before args0 about1) = true
  refine all_split ?_ w_codes
  rw [← List.take_append_drop 24 words1, List.all_append, w_t1, w_t2]
  rfl
set_option maxRecDepth 65536 in
theorem w_rest : rest_1_c.before args0 about1 = true := by decide +kernel
set_option maxRecDepth 65536 in
theorem w_case : (Jvm.Cond.and given_1 narrow_1).before args0 about1 = true := by decide +kernel
theorem w_applies : (headSpec (Jvm.Cond.code x code maxLocals ret :: tables_1) room_1).applies x e0.platform about1 = true :=
  (Spec.applies_iff w_frames).mpr ⟨w_running, w_runnable, w_alone, w_named, w_hears, w_ripe, w_room, w_tables⟩
theorem atStart : AtStart classFile x code maxLocals ret World_1 tables_1 room_1 Calls_1 rest_1 Pre_1 launch0 p0 e0 about1 theMethod args0 below0 :=
  ⟨lists_1, trivial, launch0.admits_env _ _ _, launch0.least_env, fairChoices_fair.cas, fairChoices_fair.clock, w_frames, w_args, w_heap, w_applies, trivial, w_rest, w_case⟩
end start1
theorem witness_1 : WitnessClaimed_1 := ⟨start1.p0, start1.e0, start1.about1, start1.theMethod, start1.args0, start1.below0, start1.atStart⟩
end Jvm.Pilot.@@N@@
