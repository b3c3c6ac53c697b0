import JvmDerived
import JvmDerived.Pilot.@@N@@Statement
import JvmDerived.Pilot.@@N@@Code
set_option linter.unusedVariables false
set_option linter.unusedSimpArgs false

namespace Jvm.Pilot.@@N@@
open Jvm Jvm.ClassFile Sem Op Lib Jvm.Free Jvm.Stand Jvm.LawKit Jvm.RoadKit Bundle Jvm.Pilot.@@N@@.Jvm.D
section Own
variable {p : Program} {l : Launch} {e : Env} {R : Room} {s : State} {m : MethodId} {args : Array Value} {below : List Frame} {meth : Method} {c : Code} {T T' : State} {locs : List Loc} {cells slots : Nat} {Q : Option Value → Heap → List Loc → Prop} {kc ks : Nat} {g g' : JFrame} {h : Heap}
def own_W (p : Program) (e : Env) (below : List Frame) (s : State) (Q : Option Value → Heap → List Loc → Prop) (kc ks : Nat) (T : State) (g : JFrame) : Prop :=
  ∃ s₂ o, Steps p.tables e below (T.setTop g) s₂ ∧ s₂.status = .running ∧ Ended s₂ below o ∧ ∃ v L, o = .returned v ∧ Q v s₂.heap L ∧ FrameEnd s o s₂ L kc ks
theorem own_go (st : ∀ t, Steps p.tables e below (T'.setTop g') t → Steps p.tables e below (T.setTop g) t) (k : own_W p e below s Q kc ks T' g') : own_W p e below s Q kc ks T g := by
  obtain ⟨s₂, o, h1, h2⟩ := k
  exact ⟨s₂, o, st _ h1, h2⟩
theorem own_ret (X : Stand p l e R s m args below meth c T locs cells slots) (hx : p.tables.exec = Jvm.exec) {pc : Nat} {Ls : Array Slot} {w : Value} {t : FieldType} {i : Instr} {rest : List Value} (hret : meth.sig.returnType = some t) (hlk : meth.locks = false) (hn : narrow t w = w)
    (hi : (i = .ireturn ∧ (t = .int ∨ t = .boolean ∨ t = .byte ∨ t = .char ∨ t = .short) ∧ ∃ z, w = .int z) ∨ (i = .lreturn ∧ t = .long ∧ ∃ z, w = .long z) ∨ (i = .dreturn ∧ t = .double ∧ ∃ z, w = .double z) ∨ (i = .freturn ∧ t = .float ∧ ∃ z, w = .float z) ∨ (i = .areturn ∧ t.isReference = true ∧ w.isRef = true))
    (hd : decode c.code pc = .ok (i, 1)) (eT : T.heap = h) (hQ : Q (some w) h locs) (hc : cells ≤ kc) (hs : slots ≤ ks) : own_W p e below s Q kc ks T (mkF m pc Ls (w :: rest)) := by
  obtain ⟨fs, hr, hrun, hended, hW, hsame⟩ := X.leave (v := some w) (fun q => by rw [hret] at q; cases q) hlk
  exact ⟨_, _, retOut X hx hret hn hi hd hr, hrun, hended, _, _, rfl, (show Q (some w) T.heap locs from eT ▸ hQ), ⟨_, rfl⟩, hW, hsame.mono hc hs⟩
theorem own_retN (X : Stand p l e R s m args below meth c T locs cells slots) (hx : p.tables.exec = Jvm.exec) {pc : Nat} {Ls : Array Slot} {z : Int32} {t : FieldType} {rest : List Value} (hret : meth.sig.returnType = some t) (hlk : meth.locks = false) (ht : t = .boolean ∨ t = .byte ∨ t = .char ∨ t = .short)
    (hd : decode c.code pc = .ok (.ireturn, 1)) (eT : T.heap = h) (hQ : Q (some (.int (nar t z))) h locs) (hc : cells ≤ kc) (hs : slots ≤ ks) : own_W p e below s Q kc ks T (mkF m pc Ls (.int z :: rest)) := by
  obtain ⟨fs, hr, hrun, hended, hW, hsame⟩ := X.leave (v := some (.int (nar t z))) (fun q => by rw [hret] at q; cases q) hlk
  exact ⟨_, _, retN X hx hret ht hd hr, hrun, hended, _, _, rfl, (show Q (some (.int (nar t z))) T.heap locs from eT ▸ hQ), ⟨_, rfl⟩, hW, hsame.mono hc hs⟩
theorem own_ret0 (X : Stand p l e R s m args below meth c T locs cells slots) (hx : p.tables.exec = Jvm.exec) {pc : Nat} {Ls : Array Slot} (hret : meth.sig.returnType = none) (hlk : meth.locks = false)
    (hd : decode c.code pc = .ok (.return_, 1)) (eT : T.heap = h) (hQ : Q none h locs) (hc : cells ≤ kc) (hs : slots ≤ ks) : own_W p e below s Q kc ks T (mkF m pc Ls []) := by
  obtain ⟨fs, hr, hrun, hended, hW, hsame⟩ := X.leave (v := none) (fun _ => rfl) hlk
  exact ⟨_, _, X.returnOut hx hret hd hr, hrun, hended, _, _, rfl, (show Q none T.heap locs from eT ▸ hQ), ⟨_, rfl⟩, hW, hsame.mono hc hs⟩
def own_WS (p : Program) (e : Env) (below : List Frame) (s : State) (Q : Option Value → Heap → List Loc → Prop) (kc ks : Nat) (T : State) (g : JFrame) : Prop :=
  ∃ s₂ o, Steps p.tables e below (T.setTop g) s₂ ∧ s₂.status = .running ∧ Ended s₂ below o ∧ ∃ v L, o = .returned v ∧ Q v s₂.heap L ∧ ReturnedEndW s o s₂ L kc ks
theorem own_goS (st : ∀ t, Steps p.tables e below (T'.setTop g') t → Steps p.tables e below (T.setTop g) t) (k : own_WS p e below s Q kc ks T' g') : own_WS p e below s Q kc ks T g := by
  obtain ⟨s₂, o, h1, h2⟩ := k
  exact ⟨s₂, o, st _ h1, h2⟩
theorem own_endW {t : State} {o : Outcome} {L : List Loc} {k n k' n' : Nat} (q : ReturnedEndW s o t L k n) (h1 : k ≤ k') (h2 : n ≤ n') : ReturnedEndW s o t L k' n' := ⟨q.1, q.2.1, q.2.2.1, q.2.2.2.mono h1 h2⟩
theorem own_retS {vm1 : Vm} {n1 : Nat} (X : Stand p l e R (s.setVm vm1) m args below meth c T locs cells slots) (hS : s.Since vm1 n1) (hx : p.tables.exec = Jvm.exec) {pc : Nat} {Ls : Array Slot} {w : Value} {t : FieldType} {i : Instr} {rest : List Value} (hret : meth.sig.returnType = some t) (hlk : meth.locks = false) (hn : narrow t w = w)
    (hi : (i = .ireturn ∧ (t = .int ∨ t = .boolean ∨ t = .byte ∨ t = .char ∨ t = .short) ∧ ∃ z, w = .int z) ∨ (i = .lreturn ∧ t = .long ∧ ∃ z, w = .long z) ∨ (i = .dreturn ∧ t = .double ∧ ∃ z, w = .double z) ∨ (i = .freturn ∧ t = .float ∧ ∃ z, w = .float z) ∨ (i = .areturn ∧ t.isReference = true ∧ w.isRef = true))
    (hd : decode c.code pc = .ok (i, 1)) (eT : T.heap = h) (hk : n1 ≤ h.size) (hQ : Q (some w) h locs) (hc : cells ≤ kc) (hs : slots ≤ ks) : own_WS p e below s Q kc ks T (mkF m pc Ls (w :: rest)) := by
  obtain ⟨fs, hr, hrun, hended, hW⟩ := X.leaveW hS (eT ▸ hk) (v := some w) (fun q => by rw [hret] at q; cases q) hlk
  exact ⟨_, _, retOut X hx hret hn hi hd hr, hrun, hended, _, _, rfl, (show Q (some w) T.heap locs from eT ▸ hQ), own_endW hW hc hs⟩
theorem own_retNS {vm1 : Vm} {n1 : Nat} (X : Stand p l e R (s.setVm vm1) m args below meth c T locs cells slots) (hS : s.Since vm1 n1) (hx : p.tables.exec = Jvm.exec) {pc : Nat} {Ls : Array Slot} {z : Int32} {t : FieldType} {rest : List Value} (hret : meth.sig.returnType = some t) (hlk : meth.locks = false) (ht : t = .boolean ∨ t = .byte ∨ t = .char ∨ t = .short)
    (hd : decode c.code pc = .ok (.ireturn, 1)) (eT : T.heap = h) (hk : n1 ≤ h.size) (hQ : Q (some (.int (nar t z))) h locs) (hc : cells ≤ kc) (hs : slots ≤ ks) : own_WS p e below s Q kc ks T (mkF m pc Ls (.int z :: rest)) := by
  obtain ⟨fs, hr, hrun, hended, hW⟩ := X.leaveW hS (eT ▸ hk) (v := some (.int (nar t z))) (fun q => by rw [hret] at q; cases q) hlk
  exact ⟨_, _, retN X hx hret ht hd hr, hrun, hended, _, _, rfl, (show Q (some (.int (nar t z))) T.heap locs from eT ▸ hQ), own_endW hW hc hs⟩
theorem own_ret0S {vm1 : Vm} {n1 : Nat} (X : Stand p l e R (s.setVm vm1) m args below meth c T locs cells slots) (hS : s.Since vm1 n1) (hx : p.tables.exec = Jvm.exec) {pc : Nat} {Ls : Array Slot} (hret : meth.sig.returnType = none) (hlk : meth.locks = false)
    (hd : decode c.code pc = .ok (.return_, 1)) (eT : T.heap = h) (hk : n1 ≤ h.size) (hQ : Q none h locs) (hc : cells ≤ kc) (hs : slots ≤ ks) : own_WS p e below s Q kc ks T (mkF m pc Ls []) := by
  obtain ⟨fs, hr, hrun, hended, hW⟩ := X.leaveW hS (eT ▸ hk) (v := none) (fun _ => rfl) hlk
  exact ⟨_, _, X.returnOut hx hret hd hr, hrun, hended, _, _, rfl, (show Q none T.heap locs from eT ▸ hQ), own_endW hW hc hs⟩
theorem own_ifc {α : Type} {c d : Prop} [Decidable c] [Decidable d] {x y : α} (h : c ↔ d) : (if c then x else y) = (if d then x else y) := by
  by_cases q : c
  · rw [if_pos q, if_pos (h.mp q)]
  · rw [if_neg q, if_neg (fun z => q (h.mpr z))]
theorem own_sta_keep {Z : State} {h h' : Heap} {C n d : String} {v : Value} {ws : List Addr} (F : Sta Z h C n d v) (K : Keep h h' ws) (q : ∀ x ∈ ws, ∀ cell : Cell, h[x]? = some cell → cell.vm.isStatics = false) : Sta Z h' C n d v := by
  obtain ⟨cf, i, k, f, st, cell, h1, h2, h3, h4, h5, h6, h7⟩ := F
  exact ⟨cf, i, k, f, st, cell, h1, h2, h3, h4, K.2.1 _ _ h5 (fun hm => by rw [q _ hm _ h5] at h6; cases h6), h6, h7⟩
end Own
theorem d2_0 : decode jdk_30_method_1_code 0 = .ok (.aload_n 0, 1) := by decide +kernel
theorem d2_1 : decode jdk_30_method_1_code 1 = .ok (.invokespecial 1, 3) := by decide +kernel
theorem d2_4 : decode jdk_30_method_1_code 4 = .ok (.return_, 1) := by decide +kernel
def Q_rmRec (Z : State) (r0 : Addr) (h0 : Heap) (n0 : Nat) (v : Option Value) (h : Heap) (L : List Loc) : Prop := v = none ∧ Fr n0 L ∧ h = h0
theorem ef_rmRec (m : MethodId) (x0 : Addr) : entryFrame m #[(.ref x0)] 1 = mkF m 0 #[.val (.ref x0)] [] := by first | (simp [entryFrame, mkF, argsToLocals, Value.category]; done) | rfl
theorem pn_rmRec : plainName "java/lang/Record" = true := by first | (simp [plainName, overriddenIn]; done) | decide +kernel
set_option maxRecDepth 65536 in
set_option maxHeartbeats 40000000 in
theorem rmRec (l : Launch) (Z : State) (a0 : Array Value) (hw : ∀ d ∈ tables_1, d.before a0 Z = true) (ws : List Jvm.Cond) (r0 : Addr) (h0 : Heap) (n0 : Nat) (Z0 : n0 ≤ h0.size)  :
    MetFree l (⟨"java/lang/Record", "<init>", "()V"⟩ : MethodName) (head1 (Jvm.Cond.code (⟨"java/lang/Record", "<init>", "()V"⟩ : MethodName) jdk_30_method_1_code 1 none :: ws) ({ frames := 1, cells := 0, slots := 0, locals := 12 } : Room)) (fun a U => a = #[(.ref r0)] ∧ Z.Warmed39 U.vm ∧ U.heap = h0) (fun _ _ _ _ _ => True) (fun _ U o U' => ∃ v L, o = .returned v ∧ Q_rmRec Z r0 h0 n0 v U'.heap L ∧ FrameEnd U o U' L ({ frames := 1, cells := 0, slots := 0, locals := 12 } : Room).cells ({ frames := 1, cells := 0, slots := 0, locals := 12 } : Room).slots) := by
  refine MetFree.of_bodySF (plainFor_of_name pn_rmRec) hisR ?_
  intro p e s m args below meth c s₁ Bd hml0 hP hK
  obtain ⟨rfl, hZ, hh⟩ := hP
  have hx := Bd.exec
  have hby := Bd.bytes
  have hml : c.maxLocals = 1 := hml0
  have hown : s.vm.findClass "java/lang/Record" = some m.cls := findClass_of_methodNamed Bd.named
  have hnm := (name_of_methodNamed Bd.named Bd.method).1
  have hlk : meth.locks = false := BodyLoose.notSynchronized Bd
  have X0 : Stand p l e ({ frames := 1, cells := 0, slots := 0, locals := 12 } : Room) s m #[(.ref r0)] below meth c s₁ [] 0 0 := Stand.of_body Bd
  have e0 : s₁.heap = h0 := by rw [← hh, Bd.state]; rfl
  have N0 := Fr.nil n0
  show own_W p e below s (Q_rmRec Z r0 h0 n0) 0 0 s₁ (entryFrame m #[(.ref r0)] 1)
  skip
  skip
  refine own_go (T' := s₁) (g' := (mkF m 0 #[.val (.ref r0)] [])) (fun _ k => castTop (ef_rmRec m r0) k) ?_
  refine own_go (T' := s₁) (g' := (mkF m 1 #[.val (.ref r0)] [(.ref r0)])) (fun _ k => XS.aloadN X0.here hx rfl (hb hby d2_0) rfl rfl k) ?_
  obtain ⟨T1, X1, e1, st1⟩ := initO X0 hx hZ hown (hw _ (List.mem_of_getElem? (i := 12) rfl)) (hw _ (List.mem_of_getElem? (i := 13) rfl)) (hw _ (List.mem_of_getElem? (i := 14) rfl)) e0 (g := (mkF m 1 #[.val (.ref r0)] [(.ref r0)])) rfl (by rw [hml]; rfl) rfl (hb hby d2_1) (by decide) (W := 0) (by show 2 * 0 + _ ≤ _; exact Nat.le_of_eq rfl) (by decide)
  refine own_go (T' := T1) (g' := (mkF m 4 #[.val (.ref r0)] [])) (fun _ k => st1 _ k) ?_
  exact own_ret0 X1 hx Bd.returns hlk (hb hby d2_4) e1 ⟨rfl, N0, rfl⟩ (by decide) (by decide)
theorem own_pd0 : parseMethodDescriptor "()V" = some ⟨[], none⟩ := by decide +kernel
theorem d1_0 : decode prog_17_method_1_code 0 = .ok (.aload_n 0, 1) := by decide +kernel
theorem d1_1 : decode prog_17_method_1_code 1 = .ok (.invokespecial 1, 3) := by decide +kernel
theorem d1_4 : decode prog_17_method_1_code 4 = .ok (.aload_n 0, 1) := by decide +kernel
theorem d1_5 : decode prog_17_method_1_code 5 = .ok (.dload_n 1, 1) := by decide +kernel
theorem d1_6 : decode prog_17_method_1_code 6 = .ok (.putfield 7, 3) := by decide +kernel
theorem d1_9 : decode prog_17_method_1_code 9 = .ok (.aload_n 0, 1) := by decide +kernel
theorem d1_10 : decode prog_17_method_1_code 10 = .ok (.dload_n 3, 1) := by decide +kernel
theorem d1_11 : decode prog_17_method_1_code 11 = .ok (.putfield 13, 3) := by decide +kernel
theorem d1_14 : decode prog_17_method_1_code 14 = .ok (.aload_n 0, 1) := by decide +kernel
theorem d1_15 : decode prog_17_method_1_code 15 = .ok (.iload 5, 2) := by decide +kernel
theorem d1_17 : decode prog_17_method_1_code 17 = .ok (.putfield 16, 3) := by decide +kernel
theorem d1_20 : decode prog_17_method_1_code 20 = .ok (.aload_n 0, 1) := by decide +kernel
theorem d1_21 : decode prog_17_method_1_code 21 = .ok (.iload 6, 2) := by decide +kernel
theorem d1_23 : decode prog_17_method_1_code 23 = .ok (.putfield 20, 3) := by decide +kernel
theorem d1_26 : decode prog_17_method_1_code 26 = .ok (.return_, 1) := by decide +kernel
def Q_rmPt (Z : State) (r0 : Addr) (d1 : UInt64) (d2 : UInt64) (p3 : Int32) (p4 : Int32) (h0 : Heap) (n0 : Nat) (v : Option Value) (h : Heap) (L : List Loc) : Prop := v = none ∧ Fr n0 L ∧ Keep h0 h [r0] ∧ Fld Z h r0 "com/example/tapfall/tapfall/gesture/Point" "x" "D" (.double d1) ∧ Fld Z h r0 "com/example/tapfall/tapfall/gesture/Point" "y" "D" (.double d2) ∧ Fld Z h r0 "com/example/tapfall/tapfall/gesture/Point" "binaryX" "Z" (.int (nar .boolean p3)) ∧ Fld Z h r0 "com/example/tapfall/tapfall/gesture/Point" "binaryY" "Z" (.int (nar .boolean p4)) ∧ Exa Z h r0 "com/example/tapfall/tapfall/gesture/Point"
theorem ef_rmPt (m : MethodId) (x0 : Addr) (x1 : UInt64) (x2 : UInt64) (x3 : Int32) (x4 : Int32) : entryFrame m #[(.ref x0), (.double x1), (.double x2), (.int x3), (.int x4)] 7 = mkF m 0 #[.val (.ref x0), .val (.double x1), .second, .val (.double x2), .second, .val (.int x3), .val (.int x4)] [] := by first | (simp [entryFrame, mkF, argsToLocals, Value.category]; done) | rfl
theorem pn_rmPt : plainName "com/example/tapfall/tapfall/gesture/Point" = true := by first | (simp [plainName, overriddenIn]; done) | decide +kernel
set_option maxRecDepth 65536 in
set_option maxHeartbeats 40000000 in
theorem rmPt (l : Launch) (Z : State) (a0 : Array Value) (hw : ∀ d ∈ tables_1, d.before a0 Z = true) (ws : List Jvm.Cond) (r0 : Addr) (d1 : UInt64) (d2 : UInt64) (p3 : Int32) (p4 : Int32) (h0 : Heap) (n0 : Nat) (Z0 : n0 ≤ h0.size) (hp0 : Exa Z h0 r0 "com/example/tapfall/tapfall/gesture/Point") (hp1 : n0 ≤ r0) (hp2 : Fld Z h0 r0 "com/example/tapfall/tapfall/gesture/Point" "x" "D" (.double 0)) (hp3 : Fld Z h0 r0 "com/example/tapfall/tapfall/gesture/Point" "y" "D" (.double 0)) (hp4 : Fld Z h0 r0 "com/example/tapfall/tapfall/gesture/Point" "binaryX" "Z" (.int (0 : Int32))) (hp5 : Fld Z h0 r0 "com/example/tapfall/tapfall/gesture/Point" "binaryY" "Z" (.int (0 : Int32))) :
    MetFree l (⟨"com/example/tapfall/tapfall/gesture/Point", "<init>", "(DDZZ)V"⟩ : MethodName) (head1 (Jvm.Cond.code (⟨"com/example/tapfall/tapfall/gesture/Point", "<init>", "(DDZZ)V"⟩ : MethodName) prog_17_method_1_code 7 none :: ws) ({ frames := 2, cells := 0, slots := 0, locals := 24 } : Room)) (fun a U => a = #[(.ref r0), (.double d1), (.double d2), (.int p3), (.int p4)] ∧ Z.Warmed39 U.vm ∧ U.heap = h0) (fun _ _ _ _ _ => True) (fun _ U o U' => ∃ v L, o = .returned v ∧ Q_rmPt Z r0 d1 d2 p3 p4 h0 n0 v U'.heap L ∧ FrameEnd U o U' L ({ frames := 2, cells := 0, slots := 0, locals := 24 } : Room).cells ({ frames := 2, cells := 0, slots := 0, locals := 24 } : Room).slots) := by
  refine MetFree.of_bodySF (plainFor_of_name pn_rmPt) hisR ?_
  intro p e s m args below meth c s₁ Bd hml0 hP hK
  obtain ⟨rfl, hZ, hh⟩ := hP
  have hx := Bd.exec
  have hby := Bd.bytes
  have hml : c.maxLocals = 7 := hml0
  have hown : s.vm.findClass "com/example/tapfall/tapfall/gesture/Point" = some m.cls := findClass_of_methodNamed Bd.named
  have hnm := (name_of_methodNamed Bd.named Bd.method).1
  have hlk : meth.locks = false := BodyLoose.notSynchronized Bd
  have X0 : Stand p l e ({ frames := 2, cells := 0, slots := 0, locals := 24 } : Room) s m #[(.ref r0), (.double d1), (.double d2), (.int p3), (.int p4)] below meth c s₁ [] 0 0 := Stand.of_body Bd
  have e0 : s₁.heap = h0 := by rw [← hh, Bd.state]; rfl
  have N0 := Fr.nil n0
  show own_W p e below s (Q_rmPt Z r0 d1 d2 p3 p4 h0 n0) 0 0 s₁ (entryFrame m #[(.ref r0), (.double d1), (.double d2), (.int p3), (.int p4)] 7)
  skip
  skip
  refine own_go (T' := s₁) (g' := (mkF m 0 #[.val (.ref r0), .val (.double d1), .second, .val (.double d2), .second, .val (.int p3), .val (.int p4)] [])) (fun _ k => castTop (ef_rmPt m r0 d1 d2 p3 p4) k) ?_
  refine own_go (T' := s₁) (g' := (mkF m 1 #[.val (.ref r0), .val (.double d1), .second, .val (.double d2), .second, .val (.int p3), .val (.int p4)] [(.ref r0)])) (fun _ k => XS.aloadN X0.here hx rfl (hb hby d1_0) rfl rfl k) ?_
  obtain ⟨_, _, ⟨T1, L1, k1, n1⟩, -, X1, ⟨Lc1, hQ1, l1, y1, z1⟩, st1⟩ := X0.specialBack hx (y := (⟨"java/lang/Record", "<init>", "()V"⟩ : MethodName)) rfl hown (mvT hZ (hw _ (List.mem_of_getElem? (i := 7) rfl))) (mvT hZ (hw _ (List.mem_of_getElem? (i := 8) rfl))) (mvT hZ (hw _ (List.mem_of_getElem? (i := 11) rfl))) (by decide) (backOf (W := 0) (rmRec l Z a0 hw [] r0 h0 n0 Z0 ) hZ (hw _ (List.mem_of_getElem? (i := 11) rfl)) (hw _ (List.mem_of_getElem? (i := 10) rfl)) (by decide) (by decide)) (g := (mkF m 1 #[.val (.ref r0), .val (.double d1), .second, .val (.double d2), .second, .val (.int p3), .val (.int p4)] [(.ref r0)])) rfl (by rw [hml]; rfl) (Steps.refl _) (a := r0) (argsL := []) (rest := []) (lenOf own_pd0 rfl) rfl (by show 2 * 0 + _ ≤ _; exact Nat.le_of_eq rfl) (hb hby d1_1) (fun _ _ => ⟨rfl, e0, (by decide : 0 + 0 ≤ _), (by decide : 0 + 0 ≤ _)⟩)
  dsimp only [Pt.U, Pt.locs, Pt.cells, Pt.slots] at X1 l1 y1 z1 st1 hQ1
  subst l1 y1 z1
  obtain ⟨rfl, N1q, e1⟩ := hQ1
  have N1 := Fr.app N0 N1q
  refine own_go (T' := T1) (g' := (mkF m 4 #[.val (.ref r0), .val (.double d1), .second, .val (.double d2), .second, .val (.int p3), .val (.int p4)] [])) (fun _ k => st1.trans k) ?_
  refine own_go (T' := T1) (g' := (mkF m 5 #[.val (.ref r0), .val (.double d1), .second, .val (.double d2), .second, .val (.int p3), .val (.int p4)] [(.ref r0)])) (fun _ k => XS.aloadN X1.here hx rfl (hb hby d1_4) rfl rfl k) ?_
  refine own_go (T' := T1) (g' := (mkF m 6 #[.val (.ref r0), .val (.double d1), .second, .val (.double d2), .second, .val (.int p3), .val (.int p4)] [(.double d1), (.ref r0)])) (fun _ k => XS.dloadN X1.here hx rfl (hb hby d1_5) rfl k) ?_
  obtain ⟨T2, h2, X2, e2, W2, st2⟩ := putF X1 hx hZ hown (host := "") (Or.inl (hw _ (List.mem_of_getElem? (i := 15) rfl))) Via.refl e1 hp2 hp0 (Or.inr ⟨(hw _ (List.mem_of_getElem? (i := 16) rfl)), rfl, hnm⟩) (hw _ (List.mem_of_getElem? (i := 1) rfl)) (ty := .double) (by decide) rfl rfl (g := (mkF m 6 #[.val (.ref r0), .val (.double d1), .second, .val (.double d2), .second, .val (.int p3), .val (.int p4)] [(.double d1), (.ref r0)])) rfl rfl (hb hby d1_6)
  have f3 : Exa Z h2 r0 "com/example/tapfall/tapfall/gesture/Point" := (hp0.wr W2)
  have f4 : Fld Z h2 r0 "com/example/tapfall/tapfall/gesture/Point" "y" "D" (.double 0) := (hp3.other W2 (Or.inr (slot_ne (Or.inr (hw _ (List.mem_of_getElem? (i := 18) rfl))) (Or.inr (hw _ (List.mem_of_getElem? (i := 16) rfl))) (by decide) (t := .double) (t' := .double) (by decide) (by decide))))
  have f5 : Fld Z h2 r0 "com/example/tapfall/tapfall/gesture/Point" "binaryX" "Z" (.int (0 : Int32)) := (hp4.other W2 (Or.inr (slot_ne (Or.inr (hw _ (List.mem_of_getElem? (i := 20) rfl))) (Or.inr (hw _ (List.mem_of_getElem? (i := 16) rfl))) (by decide) (t := .boolean) (t' := .double) (by decide) (by decide))))
  have f6 : Fld Z h2 r0 "com/example/tapfall/tapfall/gesture/Point" "binaryY" "Z" (.int (0 : Int32)) := (hp5.other W2 (Or.inr (slot_ne (Or.inr (hw _ (List.mem_of_getElem? (i := 22) rfl))) (Or.inr (hw _ (List.mem_of_getElem? (i := 16) rfl))) (by decide) (t := .boolean) (t' := .double) (by decide) (by decide))))
  have fw2 : Fld Z h2 r0 "com/example/tapfall/tapfall/gesture/Point" "x" "D" (.double d1) := hp2.same W2
  have N2 := Fr.snoc X2 N1 hp1
  have zs2 : n0 ≤ h2.size := by rw [W2.size]; exact Z0
  have kk2 : Keep h0 h2 [r0] := (Keep.refl h0 [r0]).wr W2 (Or.inl (List.mem_of_getElem? (i := 0) rfl))
  refine own_go (T' := T2) (g' := (mkF m 9 #[.val (.ref r0), .val (.double d1), .second, .val (.double d2), .second, .val (.int p3), .val (.int p4)] [])) (fun _ k => st2 _ k) ?_
  refine own_go (T' := T2) (g' := (mkF m 10 #[.val (.ref r0), .val (.double d1), .second, .val (.double d2), .second, .val (.int p3), .val (.int p4)] [(.ref r0)])) (fun _ k => XS.aloadN X2.here hx rfl (hb hby d1_9) rfl rfl k) ?_
  refine own_go (T' := T2) (g' := (mkF m 11 #[.val (.ref r0), .val (.double d1), .second, .val (.double d2), .second, .val (.int p3), .val (.int p4)] [(.double d2), (.ref r0)])) (fun _ k => XS.dloadN X2.here hx rfl (hb hby d1_10) rfl k) ?_
  obtain ⟨T7, h7, X7, e7, W7, st7⟩ := putF X2 hx hZ hown (host := "") (Or.inl (hw _ (List.mem_of_getElem? (i := 17) rfl))) Via.refl e2 f4 f3 (Or.inr ⟨(hw _ (List.mem_of_getElem? (i := 18) rfl)), rfl, hnm⟩) (hw _ (List.mem_of_getElem? (i := 1) rfl)) (ty := .double) (by decide) rfl rfl (g := (mkF m 11 #[.val (.ref r0), .val (.double d1), .second, .val (.double d2), .second, .val (.int p3), .val (.int p4)] [(.double d2), (.ref r0)])) rfl rfl (hb hby d1_11)
  have f8 : Exa Z h7 r0 "com/example/tapfall/tapfall/gesture/Point" := (f3.wr W7)
  have f9 : Fld Z h7 r0 "com/example/tapfall/tapfall/gesture/Point" "binaryX" "Z" (.int (0 : Int32)) := (f5.other W7 (Or.inr (slot_ne (Or.inr (hw _ (List.mem_of_getElem? (i := 20) rfl))) (Or.inr (hw _ (List.mem_of_getElem? (i := 18) rfl))) (by decide) (t := .boolean) (t' := .double) (by decide) (by decide))))
  have f10 : Fld Z h7 r0 "com/example/tapfall/tapfall/gesture/Point" "binaryY" "Z" (.int (0 : Int32)) := (f6.other W7 (Or.inr (slot_ne (Or.inr (hw _ (List.mem_of_getElem? (i := 22) rfl))) (Or.inr (hw _ (List.mem_of_getElem? (i := 18) rfl))) (by decide) (t := .boolean) (t' := .double) (by decide) (by decide))))
  have f11 : Fld Z h7 r0 "com/example/tapfall/tapfall/gesture/Point" "x" "D" (.double d1) := (fw2.other W7 (Or.inr (slot_ne (Or.inr (hw _ (List.mem_of_getElem? (i := 16) rfl))) (Or.inr (hw _ (List.mem_of_getElem? (i := 18) rfl))) (by decide) (t := .double) (t' := .double) (by decide) (by decide))))
  have fw7 : Fld Z h7 r0 "com/example/tapfall/tapfall/gesture/Point" "y" "D" (.double d2) := f4.same W7
  have N7 := Fr.snoc X7 N2 hp1
  have zs7 : n0 ≤ h7.size := by rw [W7.size]; exact zs2
  have kk7 : Keep h0 h7 [r0] := kk2.wr W7 (Or.inl (List.mem_of_getElem? (i := 0) rfl))
  refine own_go (T' := T7) (g' := (mkF m 14 #[.val (.ref r0), .val (.double d1), .second, .val (.double d2), .second, .val (.int p3), .val (.int p4)] [])) (fun _ k => st7 _ k) ?_
  refine own_go (T' := T7) (g' := (mkF m 15 #[.val (.ref r0), .val (.double d1), .second, .val (.double d2), .second, .val (.int p3), .val (.int p4)] [(.ref r0)])) (fun _ k => XS.aloadN X7.here hx rfl (hb hby d1_14) rfl rfl k) ?_
  refine own_go (T' := T7) (g' := (mkF m 17 #[.val (.ref r0), .val (.double d1), .second, .val (.double d2), .second, .val (.int p3), .val (.int p4)] [(.int p3), (.ref r0)])) (fun _ k => XS.iload X7.here hx rfl (hb hby d1_15) rfl k) ?_
  obtain ⟨T12, h12, X12, e12, W12, st12⟩ := putFN X7 hx hZ hown (hw _ (List.mem_of_getElem? (i := 19) rfl)) Via.refl e7 f9 f8 (Or.inr ⟨(hw _ (List.mem_of_getElem? (i := 20) rfl)), rfl, hnm⟩) (hw _ (List.mem_of_getElem? (i := 1) rfl)) (ty := .boolean) (v' := (.int (nar .boolean p3))) (by decide) rfl (fits_nar_bool _) (g := (mkF m 17 #[.val (.ref r0), .val (.double d1), .second, .val (.double d2), .second, .val (.int p3), .val (.int p4)] [(.int p3), (.ref r0)])) rfl rfl (hb hby d1_17)
  have f13 : Exa Z h12 r0 "com/example/tapfall/tapfall/gesture/Point" := (f8.wr W12)
  have f14 : Fld Z h12 r0 "com/example/tapfall/tapfall/gesture/Point" "binaryY" "Z" (.int (0 : Int32)) := (f10.other W12 (Or.inr (slot_ne (Or.inr (hw _ (List.mem_of_getElem? (i := 22) rfl))) (Or.inr (hw _ (List.mem_of_getElem? (i := 20) rfl))) (by decide) (t := .boolean) (t' := .boolean) (by decide) (by decide))))
  have f15 : Fld Z h12 r0 "com/example/tapfall/tapfall/gesture/Point" "x" "D" (.double d1) := (f11.other W12 (Or.inr (slot_ne (Or.inr (hw _ (List.mem_of_getElem? (i := 16) rfl))) (Or.inr (hw _ (List.mem_of_getElem? (i := 20) rfl))) (by decide) (t := .double) (t' := .boolean) (by decide) (by decide))))
  have f16 : Fld Z h12 r0 "com/example/tapfall/tapfall/gesture/Point" "y" "D" (.double d2) := (fw7.other W12 (Or.inr (slot_ne (Or.inr (hw _ (List.mem_of_getElem? (i := 18) rfl))) (Or.inr (hw _ (List.mem_of_getElem? (i := 20) rfl))) (by decide) (t := .double) (t' := .boolean) (by decide) (by decide))))
  have fw12 : Fld Z h12 r0 "com/example/tapfall/tapfall/gesture/Point" "binaryX" "Z" (.int (nar .boolean p3)) := f9.same W12
  have N12 := Fr.snoc X12 N7 hp1
  have zs12 : n0 ≤ h12.size := by rw [W12.size]; exact zs7
  have kk12 : Keep h0 h12 [r0] := kk7.wr W12 (Or.inl (List.mem_of_getElem? (i := 0) rfl))
  refine own_go (T' := T12) (g' := (mkF m 20 #[.val (.ref r0), .val (.double d1), .second, .val (.double d2), .second, .val (.int p3), .val (.int p4)] [])) (fun _ k => st12 _ k) ?_
  refine own_go (T' := T12) (g' := (mkF m 21 #[.val (.ref r0), .val (.double d1), .second, .val (.double d2), .second, .val (.int p3), .val (.int p4)] [(.ref r0)])) (fun _ k => XS.aloadN X12.here hx rfl (hb hby d1_20) rfl rfl k) ?_
  refine own_go (T' := T12) (g' := (mkF m 23 #[.val (.ref r0), .val (.double d1), .second, .val (.double d2), .second, .val (.int p3), .val (.int p4)] [(.int p4), (.ref r0)])) (fun _ k => XS.iload X12.here hx rfl (hb hby d1_21) rfl k) ?_
  obtain ⟨T17, h17, X17, e17, W17, st17⟩ := putFN X12 hx hZ hown (hw _ (List.mem_of_getElem? (i := 21) rfl)) Via.refl e12 f14 f13 (Or.inr ⟨(hw _ (List.mem_of_getElem? (i := 22) rfl)), rfl, hnm⟩) (hw _ (List.mem_of_getElem? (i := 1) rfl)) (ty := .boolean) (v' := (.int (nar .boolean p4))) (by decide) rfl (fits_nar_bool _) (g := (mkF m 23 #[.val (.ref r0), .val (.double d1), .second, .val (.double d2), .second, .val (.int p3), .val (.int p4)] [(.int p4), (.ref r0)])) rfl rfl (hb hby d1_23)
  have f18 : Exa Z h17 r0 "com/example/tapfall/tapfall/gesture/Point" := (f13.wr W17)
  have f19 : Fld Z h17 r0 "com/example/tapfall/tapfall/gesture/Point" "x" "D" (.double d1) := (f15.other W17 (Or.inr (slot_ne (Or.inr (hw _ (List.mem_of_getElem? (i := 16) rfl))) (Or.inr (hw _ (List.mem_of_getElem? (i := 22) rfl))) (by decide) (t := .double) (t' := .boolean) (by decide) (by decide))))
  have f20 : Fld Z h17 r0 "com/example/tapfall/tapfall/gesture/Point" "y" "D" (.double d2) := (f16.other W17 (Or.inr (slot_ne (Or.inr (hw _ (List.mem_of_getElem? (i := 18) rfl))) (Or.inr (hw _ (List.mem_of_getElem? (i := 22) rfl))) (by decide) (t := .double) (t' := .boolean) (by decide) (by decide))))
  have f21 : Fld Z h17 r0 "com/example/tapfall/tapfall/gesture/Point" "binaryX" "Z" (.int (nar .boolean p3)) := (fw12.other W17 (Or.inr (slot_ne (Or.inr (hw _ (List.mem_of_getElem? (i := 20) rfl))) (Or.inr (hw _ (List.mem_of_getElem? (i := 22) rfl))) (by decide) (t := .boolean) (t' := .boolean) (by decide) (by decide))))
  have fw17 : Fld Z h17 r0 "com/example/tapfall/tapfall/gesture/Point" "binaryY" "Z" (.int (nar .boolean p4)) := f14.same W17
  have N17 := Fr.snoc X17 N12 hp1
  have zs17 : n0 ≤ h17.size := by rw [W17.size]; exact zs12
  have kk17 : Keep h0 h17 [r0] := kk12.wr W17 (Or.inl (List.mem_of_getElem? (i := 0) rfl))
  refine own_go (T' := T17) (g' := (mkF m 26 #[.val (.ref r0), .val (.double d1), .second, .val (.double d2), .second, .val (.int p3), .val (.int p4)] [])) (fun _ k => st17 _ k) ?_
  exact own_ret0 X17 hx Bd.returns hlk (hb hby d1_26) e17 ⟨rfl, N17, kk17, f19, f20, f21, fw17, f18⟩ (by decide) (by decide)
def own_same (r0 : Addr) (r1 : Addr) (xa : UInt64) (ya : UInt64) (xb : UInt64) (yb : UInt64) : Int32 := (if (cmpValue (FP.dcmp xa xb) .l) = (0 : Int32) then (if (cmpValue (FP.dcmp ya yb) .l) = (0 : Int32) then (1 : Int32) else (0 : Int32)) else (0 : Int32))
theorem d4_0 : decode prog_17_method_3_code 0 = .ok (.aload_n 0, 1) := by decide +kernel
theorem d4_1 : decode prog_17_method_3_code 1 = .ok (.getfield 7, 3) := by decide +kernel
theorem d4_4 : decode prog_17_method_3_code 4 = .ok (.aload_n 1, 1) := by decide +kernel
theorem d4_5 : decode prog_17_method_3_code 5 = .ok (.getfield 7, 3) := by decide +kernel
theorem d4_8 : decode prog_17_method_3_code 8 = .ok (.dcmp .l, 1) := by decide +kernel
theorem d4_9 : decode prog_17_method_3_code 9 = .ok (.ifCond .ne 19, 3) := by decide +kernel
theorem d4_12 : decode prog_17_method_3_code 12 = .ok (.aload_n 0, 1) := by decide +kernel
theorem d4_13 : decode prog_17_method_3_code 13 = .ok (.getfield 13, 3) := by decide +kernel
theorem d4_16 : decode prog_17_method_3_code 16 = .ok (.aload_n 1, 1) := by decide +kernel
theorem d4_17 : decode prog_17_method_3_code 17 = .ok (.getfield 13, 3) := by decide +kernel
theorem d4_20 : decode prog_17_method_3_code 20 = .ok (.dcmp .l, 1) := by decide +kernel
theorem d4_21 : decode prog_17_method_3_code 21 = .ok (.ifCond .ne 7, 3) := by decide +kernel
theorem d4_24 : decode prog_17_method_3_code 24 = .ok (.iconst 1, 1) := by decide +kernel
theorem d4_25 : decode prog_17_method_3_code 25 = .ok (.goto 4, 3) := by decide +kernel
theorem d4_28 : decode prog_17_method_3_code 28 = .ok (.iconst 0, 1) := by decide +kernel
theorem d4_29 : decode prog_17_method_3_code 29 = .ok (.ireturn, 1) := by decide +kernel
def Q_rmSame (Z : State) (r0 : Addr) (r1 : Addr) (xa : UInt64) (ya : UInt64) (xb : UInt64) (yb : UInt64) (h0 : Heap) (n0 : Nat) (v : Option Value) (h : Heap) (L : List Loc) : Prop := v = some (.int (own_same r0 r1 xa ya xb yb)) ∧ Fr n0 L ∧ h = h0
theorem ef_rmSame (m : MethodId) (x0 : Addr) (x1 : Addr) : entryFrame m #[(.ref x0), (.ref x1)] 2 = mkF m 0 #[.val (.ref x0), .val (.ref x1)] [] := by first | (simp [entryFrame, mkF, argsToLocals, Value.category]; done) | rfl
theorem pn_rmSame : plainName "com/example/tapfall/tapfall/gesture/Point" = true := by first | (simp [plainName, overriddenIn]; done) | decide +kernel
set_option maxRecDepth 65536 in
set_option maxHeartbeats 40000000 in
theorem rmSame (l : Launch) (Z : State) (a0 : Array Value) (hw : ∀ d ∈ tables_1, d.before a0 Z = true) (ws : List Jvm.Cond) (r0 : Addr) (r1 : Addr) (xa : UInt64) (ya : UInt64) (xb : UInt64) (yb : UInt64) (h0 : Heap) (n0 : Nat) (Z0 : n0 ≤ h0.size) (hp0 : Fld Z h0 r0 "com/example/tapfall/tapfall/gesture/Point" "x" "D" (.double xa)) (hp1 : Fld Z h0 r0 "com/example/tapfall/tapfall/gesture/Point" "y" "D" (.double ya)) (hp2 : Fld Z h0 r1 "com/example/tapfall/tapfall/gesture/Point" "x" "D" (.double xb)) (hp3 : Fld Z h0 r1 "com/example/tapfall/tapfall/gesture/Point" "y" "D" (.double yb)) :
    MetFree l (⟨"com/example/tapfall/tapfall/gesture/Point", "sameDoubles", "(Lcom/example/tapfall/tapfall/gesture/Point;)Z"⟩ : MethodName) (head1 (Jvm.Cond.code (⟨"com/example/tapfall/tapfall/gesture/Point", "sameDoubles", "(Lcom/example/tapfall/tapfall/gesture/Point;)Z"⟩ : MethodName) prog_17_method_3_code 2 (some .boolean) :: ws) ({ frames := 0, cells := 0, slots := 0, locals := 0 } : Room)) (fun a U => a = #[(.ref r0), (.ref r1)] ∧ Z.Warmed39 U.vm ∧ U.heap = h0) (fun _ _ _ _ _ => True) (fun _ U o U' => ∃ v L, o = .returned v ∧ Q_rmSame Z r0 r1 xa ya xb yb h0 n0 v U'.heap L ∧ FrameEnd U o U' L ({ frames := 0, cells := 0, slots := 0, locals := 0 } : Room).cells ({ frames := 0, cells := 0, slots := 0, locals := 0 } : Room).slots) := by
  refine MetFree.of_bodySF (plainFor_of_name pn_rmSame) hisR ?_
  intro p e s m args below meth c s₁ Bd hml0 hP hK
  obtain ⟨rfl, hZ, hh⟩ := hP
  have hx := Bd.exec
  have hby := Bd.bytes
  have hml : c.maxLocals = 2 := hml0
  have hown : s.vm.findClass "com/example/tapfall/tapfall/gesture/Point" = some m.cls := findClass_of_methodNamed Bd.named
  have hnm := (name_of_methodNamed Bd.named Bd.method).1
  have hlk : meth.locks = false := BodyLoose.notSynchronized Bd
  have X0 : Stand p l e ({ frames := 0, cells := 0, slots := 0, locals := 0 } : Room) s m #[(.ref r0), (.ref r1)] below meth c s₁ [] 0 0 := Stand.of_body Bd
  have e0 : s₁.heap = h0 := by rw [← hh, Bd.state]; rfl
  have N0 := Fr.nil n0
  show own_W p e below s (Q_rmSame Z r0 r1 xa ya xb yb h0 n0) 0 0 s₁ (entryFrame m #[(.ref r0), (.ref r1)] 2)
  skip
  skip
  refine own_go (T' := s₁) (g' := (mkF m 0 #[.val (.ref r0), .val (.ref r1)] [])) (fun _ k => castTop (ef_rmSame m r0 r1) k) ?_
  refine own_go (T' := s₁) (g' := (mkF m 1 #[.val (.ref r0), .val (.ref r1)] [(.ref r0)])) (fun _ k => XS.aloadN X0.here hx rfl (hb hby d4_0) rfl rfl k) ?_
  obtain ⟨T1, X1, e1, st1⟩ := getF X0 hx hZ hown (host := "") (Or.inl (hw _ (List.mem_of_getElem? (i := 15) rfl))) Via.refl e0 hp0 (g := (mkF m 1 #[.val (.ref r0), .val (.ref r1)] [(.ref r0)])) rfl rfl (hb hby d4_1)
  refine own_go (T' := T1) (g' := (mkF m 4 #[.val (.ref r0), .val (.ref r1)] [(.double xa)])) (fun _ k => st1 _ k) ?_
  refine own_go (T' := T1) (g' := (mkF m 5 #[.val (.ref r0), .val (.ref r1)] [(.ref r1), (.double xa)])) (fun _ k => XS.aloadN X1.here hx rfl (hb hby d4_4) rfl rfl k) ?_
  obtain ⟨T2, X2, e2, st2⟩ := getF X1 hx hZ hown (host := "") (Or.inl (hw _ (List.mem_of_getElem? (i := 15) rfl))) Via.refl e1 hp2 (g := (mkF m 5 #[.val (.ref r0), .val (.ref r1)] [(.ref r1), (.double xa)])) rfl rfl (hb hby d4_5)
  refine own_go (T' := T2) (g' := (mkF m 8 #[.val (.ref r0), .val (.ref r1)] [(.double xb), (.double xa)])) (fun _ k => st2 _ k) ?_
  refine own_go (T' := T2) (g' := (mkF m 9 #[.val (.ref r0), .val (.ref r1)] [(.int (cmpValue (FP.dcmp xa xb) .l))])) (fun _ k => XS.dcmpS X2.here hx rfl (hb hby d4_8) rfl rfl k) ?_
  by_cases hc9_3 : (cmpValue (FP.dcmp xa xb) .l) = (0 : Int32)
  · skip
    refine own_go (T' := T2) (g' := (mkF m 12 #[.val (.ref r0), .val (.ref r1)] [])) (fun _ k => XS.ifNo X2.here hx rfl (hb hby d4_9) rfl (XT.i0_ne_f hc9_3) k) ?_
    refine own_go (T' := T2) (g' := (mkF m 13 #[.val (.ref r0), .val (.ref r1)] [(.ref r0)])) (fun _ k => XS.aloadN X2.here hx rfl (hb hby d4_12) rfl rfl k) ?_
    obtain ⟨T4, X4, e4, st4⟩ := getF X2 hx hZ hown (host := "") (Or.inl (hw _ (List.mem_of_getElem? (i := 17) rfl))) Via.refl e2 hp1 (g := (mkF m 13 #[.val (.ref r0), .val (.ref r1)] [(.ref r0)])) rfl rfl (hb hby d4_13)
    refine own_go (T' := T4) (g' := (mkF m 16 #[.val (.ref r0), .val (.ref r1)] [(.double ya)])) (fun _ k => st4 _ k) ?_
    refine own_go (T' := T4) (g' := (mkF m 17 #[.val (.ref r0), .val (.ref r1)] [(.ref r1), (.double ya)])) (fun _ k => XS.aloadN X4.here hx rfl (hb hby d4_16) rfl rfl k) ?_
    obtain ⟨T5, X5, e5, st5⟩ := getF X4 hx hZ hown (host := "") (Or.inl (hw _ (List.mem_of_getElem? (i := 17) rfl))) Via.refl e4 hp3 (g := (mkF m 17 #[.val (.ref r0), .val (.ref r1)] [(.ref r1), (.double ya)])) rfl rfl (hb hby d4_17)
    refine own_go (T' := T5) (g' := (mkF m 20 #[.val (.ref r0), .val (.ref r1)] [(.double yb), (.double ya)])) (fun _ k => st5 _ k) ?_
    refine own_go (T' := T5) (g' := (mkF m 21 #[.val (.ref r0), .val (.ref r1)] [(.int (cmpValue (FP.dcmp ya yb) .l))])) (fun _ k => XS.dcmpS X5.here hx rfl (hb hby d4_20) rfl rfl k) ?_
    by_cases hc21_6 : (cmpValue (FP.dcmp ya yb) .l) = (0 : Int32)
    · skip
      refine own_go (T' := T5) (g' := (mkF m 24 #[.val (.ref r0), .val (.ref r1)] [])) (fun _ k => XS.ifNo X5.here hx rfl (hb hby d4_21) rfl (XT.i0_ne_f hc21_6) k) ?_
      refine own_go (T' := T5) (g' := (mkF m 25 #[.val (.ref r0), .val (.ref r1)] [(.int (1 : Int32))])) (fun _ k => XS.iconst X5.here hx rfl (hb hby d4_24) k) ?_
      refine own_go (T' := T5) (g' := (mkF m 29 #[.val (.ref r0), .val (.ref r1)] [(.int (1 : Int32))])) (fun _ k => XS.goto X5.here hx rfl (pc0 := 25) (pc' := 29) rfl (hb hby d4_25) (by decide) (by decide) k) ?_
      exact own_retN X5 hx (t := .boolean) Bd.returns hlk (by simp) (hb hby d4_29) e5 ⟨(by unfold own_same; first | (rw [if_pos hc9_3, if_pos hc21_6]; done) | (rw [if_pos hc9_3, if_pos hc21_6]; rfl)), N0, rfl⟩ (by decide) (by decide)
    · skip
      refine own_go (T' := T5) (g' := (mkF m 28 #[.val (.ref r0), .val (.ref r1)] [])) (fun _ k => XS.ifYes X5.here hx rfl (pc0 := 21) (pc' := 28) rfl (hb hby d4_21) rfl (XT.i0_ne_t hc21_6) (by decide) (by decide) k) ?_
      refine own_go (T' := T5) (g' := (mkF m 29 #[.val (.ref r0), .val (.ref r1)] [(.int (0 : Int32))])) (fun _ k => XS.iconst X5.here hx rfl (hb hby d4_28) k) ?_
      exact own_retN X5 hx (t := .boolean) Bd.returns hlk (by simp) (hb hby d4_29) e5 ⟨(by unfold own_same; first | (rw [if_pos hc9_3, if_neg hc21_6]; done) | (rw [if_pos hc9_3, if_neg hc21_6]; rfl)), N0, rfl⟩ (by decide) (by decide)
  · skip
    refine own_go (T' := T2) (g' := (mkF m 28 #[.val (.ref r0), .val (.ref r1)] [])) (fun _ k => XS.ifYes X2.here hx rfl (pc0 := 9) (pc' := 28) rfl (hb hby d4_9) rfl (XT.i0_ne_t hc9_3) (by decide) (by decide) k) ?_
    refine own_go (T' := T2) (g' := (mkF m 29 #[.val (.ref r0), .val (.ref r1)] [(.int (0 : Int32))])) (fun _ k => XS.iconst X2.here hx rfl (hb hby d4_28) k) ?_
    exact own_retN X2 hx (t := .boolean) Bd.returns hlk (by simp) (hb hby d4_29) e2 ⟨(by unfold own_same; first | (rw [if_neg hc9_3]; done) | (rw [if_neg hc9_3]; rfl)), N0, rfl⟩ (by decide) (by decide)
/-- the double 0.25 -/
abbrev own_q : UInt64 := (4598175219545276416 : UInt64)
theorem own_vq : FP.Core.val64 own_q = .fin false (2 ^ 52) (-54) := by decide +kernel
theorem own_shape (a : Int32) : (a.toInt = 0 ∧ FP.Core.val64 (FP.dmul (FP.i2d a) own_q) = .fin false 0 FP.Core.b64.qmin) ∨ (a.toInt ≠ 0 ∧ ∃ (k : Nat), k ≤ 52 ∧ 0 < a.toInt.natAbs ∧ FP.Core.val64 (FP.dmul (FP.i2d a) own_q) = .fin (decide (a.toInt < 0)) (a.toInt.natAbs * 2 ^ k) (-(k : Int) - 2)) := by
  have hv : FP.Core.val64 (FP.i2d a) = FP.Core.roundRatio FP.Core.b64 (decide (a.toInt < 0)) a.toInt.natAbs 1 0 := FP.Core.val64_i2d a
  have hm : FP.Core.val64 (FP.dmul (FP.i2d a) own_q) = FP.Core.round FP.Core.b64 (FP.Core.exactProduct (FP.Core.val64 (FP.i2d a)) (FP.Core.val64 own_q)) := FP.Core.val64_dmul _ _
  rw [own_vq] at hm
  by_cases h0 : a.toInt = 0
  · left
    refine ⟨h0, ?_⟩
    have ha : a = 0 := Int32.toInt_inj.mp (by rw [h0]; rfl)
    subst ha
    decide +kernel
  · right
    have hr := rng32 a
    have hn : 0 < a.toInt.natAbs := by omega
    have hL1 := Nat.log2_self_le (n := a.toInt.natAbs) (by omega)
    have hL2 := Nat.lt_log2_self (n := a.toInt.natAbs)
    generalize hLe : a.toInt.natAbs.log2 = L at hL1 hL2
    have hL : L ≤ 31 := by
      rcases Nat.lt_or_ge 31 L with q | q
      · have := Nat.pow_le_pow_right (n := 2) (by decide) q
        have : 2 ^ 32 = 4294967296 := by decide
        omega
      · exact q
    have e52 : 2 ^ L * 2 ^ (52 - L) = 2 ^ 52 := by rw [← Nat.pow_add]; congr 1; omega
    have e53 : 2 ^ (L + 1) * 2 ^ (52 - L) = 2 ^ 53 := by rw [← Nat.pow_add]; congr 1; omega
    have c1 : 2 ^ 52 ≤ a.toInt.natAbs * 2 ^ (52 - L) := by rw [← e52]; exact Nat.mul_le_mul_right _ hL1
    have c2 : a.toInt.natAbs * 2 ^ (52 - L) < 2 ^ 53 := by rw [← e53]; exact Nat.mul_lt_mul_of_pos_right hL2 (Nat.two_pow_pos _)
    have qmn : FP.Core.b64.qmin = -1074 := by decide
    have qmx : FP.Core.b64.qmax = 971 := by decide
    have tl : FP.Core.b64.tails = 2 ^ 52 := by decide
    have bp : FP.Core.b64.p = 53 := by decide
    have hi : FP.Core.val64 (FP.i2d a) = .fin (decide (a.toInt < 0)) (a.toInt.natAbs * 2 ^ (52 - L)) (-((52 - L : Nat) : Int)) := by
      rw [hv]
      refine FP.Core.roundRatio_exact FP.Core.good_b64 (by decide) ⟨by rw [bp]; exact c2, by rw [qmn]; omega, by rw [qmx]; omega, Or.inr (by rw [tl]; exact c1)⟩ ?_
      rw [show ((0 : Int) - -((52 - L : Nat) : Int)).toNat = 52 - L by omega, show (-((52 - L : Nat) : Int) - 0).toNat = 0 by omega]
      simp
    refine ⟨h0, 52 - L, by omega, hn, ?_⟩
    rw [hm, hi]
    show FP.Core.roundRatio FP.Core.b64 (decide (a.toInt < 0) != false) (a.toInt.natAbs * 2 ^ (52 - L) * 2 ^ 52) 1 (-((52 - L : Nat) : Int) + -54) = _
    rw [show (decide (a.toInt < 0) != false) = decide (a.toInt < 0) by cases decide (a.toInt < 0) <;> rfl]
    refine FP.Core.roundRatio_exact FP.Core.good_b64 (by decide) ⟨by rw [bp]; exact c2, by rw [qmn]; omega, by rw [qmx]; omega, Or.inr (by rw [tl]; exact c1)⟩ ?_
    rw [show (-((52 - L : Nat) : Int) + -54 - (-((52 - L : Nat) : Int) - 2)).toNat = 0 by omega, show (-((52 - L : Nat) : Int) - 2 - (-((52 - L : Nat) : Int) + -54)).toNat = 52 by omega]
    simp
theorem own_nn (a : Int32) : Jvm.Free.Fl.NoNaN64 (FP.dmul (FP.i2d a) own_q) := by
  refine Jvm.Free.Fl.dmul_out ?_ ?_
  · rw [i2d_w]; exact Jvm.Free.Fl.l2d_fin _
  · exact Jvm.Free.Fl.fin64_core.mpr ⟨_, _, _, own_vq⟩
theorem own_inj {n m k j : Nat} (h : n * 2 ^ k * 2 ^ j = m * 2 ^ j * 2 ^ k) : n = m := by
  have : n * (2 ^ k * 2 ^ j) = m * (2 ^ k * 2 ^ j) := by rw [← Nat.mul_assoc, h, Nat.mul_assoc, Nat.mul_comm (2 ^ j)]
  exact Nat.eq_of_mul_eq_mul_right (Nat.mul_pos (Nat.two_pow_pos _) (Nat.two_pow_pos _)) this
theorem own_cmp (a b : Int32) : (cmpValue (FP.dcmp (FP.dmul (FP.i2d a) own_q) (FP.dmul (FP.i2d b) own_q)) .l = (0 : Int32)) ↔ a = b := by
  constructor
  · intro h
    have hd : FP.dcmp (FP.dmul (FP.i2d a) own_q) (FP.dmul (FP.i2d b) own_q) = FP.Core.order (FP.Core.val64 (FP.dmul (FP.i2d a) own_q)) (FP.Core.val64 (FP.dmul (FP.i2d b) own_q)) := rfl
    rw [hd] at h
    have he : ∀ X Y : Int, cmpValue (some (compare X Y)) .l = (0 : Int32) → X = Y := fun X Y q => by
      rw [FP.Core.compare_ite] at q
      by_cases h1 : X < Y
      · rw [if_pos h1] at q; exact absurd q (by decide)
      · rw [if_neg h1] at q
        by_cases h2 : X = Y
        · exact h2
        · rw [if_neg h2] at q; exact absurd q (by decide)
    rcases own_shape a with ⟨a0, ea⟩ | ⟨a0, k, hk, ha, ea⟩ <;> rcases own_shape b with ⟨b0, eb⟩ | ⟨b0, j, hj, hb, eb⟩
    · exact Int32.toInt_inj.mp (by rw [a0, b0])
    · rw [ea, eb] at h
      have q := he _ _ h
      unfold FP.Core.inUnits at q
      rw [Nat.zero_mul, FP.Core.signed_zero] at q
      have q' := (FP.Core.signed_eq_zero _ _).mp q.symm
      exact absurd q' (Nat.ne_of_gt (Nat.mul_pos (Nat.mul_pos hb (Nat.two_pow_pos _)) (Nat.two_pow_pos _)))
    · rw [ea, eb] at h
      have q := he _ _ h
      unfold FP.Core.inUnits at q
      rw [Nat.zero_mul, FP.Core.signed_zero] at q
      have q' := (FP.Core.signed_eq_zero _ _).mp q
      exact absurd q' (Nat.ne_of_gt (Nat.mul_pos (Nat.mul_pos ha (Nat.two_pow_pos _)) (Nat.two_pow_pos _)))
    · rw [ea, eb] at h
      have q := he _ _ h
      unfold FP.Core.inUnits at q
      have na := congrArg Int.natAbs q
      rw [FP.Core.natAbs_signed, FP.Core.natAbs_signed] at na
      have nab : a.toInt.natAbs = b.toInt.natAbs := by
        rcases Nat.le_total k j with hkj | hkj
        · rw [show (-(k : Int) - 2 - min (-(k : Int) - 2) (-(j : Int) - 2)).toNat = j - k by omega, show (-(j : Int) - 2 - min (-(k : Int) - 2) (-(j : Int) - 2)).toNat = 0 by omega, Nat.pow_zero, Nat.mul_one, Nat.mul_assoc, ← Nat.pow_add, show k + (j - k) = j by omega] at na
          exact Nat.eq_of_mul_eq_mul_right (Nat.two_pow_pos _) na
        · rw [show (-(k : Int) - 2 - min (-(k : Int) - 2) (-(j : Int) - 2)).toNat = 0 by omega, show (-(j : Int) - 2 - min (-(k : Int) - 2) (-(j : Int) - 2)).toNat = k - j by omega, Nat.pow_zero, Nat.mul_one, Nat.mul_assoc, ← Nat.pow_add, show j + (k - j) = k by omega] at na
          exact Nat.eq_of_mul_eq_mul_right (Nat.two_pow_pos _) na
      have sg : (a.toInt < 0) ↔ (b.toInt < 0) := by
        have p1 : 0 < a.toInt.natAbs * 2 ^ k * 2 ^ (-(k : Int) - 2 - min (-(k : Int) - 2) (-(j : Int) - 2)).toNat := Nat.mul_pos (Nat.mul_pos ha (Nat.two_pow_pos _)) (Nat.two_pow_pos _)
        have p2 : 0 < b.toInt.natAbs * 2 ^ j * 2 ^ (-(j : Int) - 2 - min (-(k : Int) - 2) (-(j : Int) - 2)).toNat := Nat.mul_pos (Nat.mul_pos hb (Nat.two_pow_pos _)) (Nat.two_pow_pos _)
        have s1 := FP.Core.signed_lt_zero (decide (a.toInt < 0)) p1
        have s2 := FP.Core.signed_lt_zero (decide (b.toInt < 0)) p2
        rw [q, s2] at s1
        have := decide_eq_decide.mp s1
        exact this.symm
      refine Int32.toInt_inj.mp ?_
      omega
  · intro h
    subst h
    exact dcmpV_self (own_nn a) _
theorem own_law {r0 r1 : Addr} {a b c d v : Int32} (h : v = if a = c then (if b = d then (1 : Int32) else (0 : Int32)) else (0 : Int32)) : own_same r0 r1 (FP.dmul (FP.i2d a) own_q) (FP.dmul (FP.i2d b) own_q) (FP.dmul (FP.i2d c) own_q) (FP.dmul (FP.i2d d) own_q) = v := by
  subst h
  unfold own_same
  rw [own_ifc (own_cmp a c), own_ifc (own_cmp b d)]
theorem own_swap {a b c d v : Int32} (h : v = if a = c then (if b = d then (1 : Int32) else (0 : Int32)) else (0 : Int32)) : v = if c = a then (if d = b then (1 : Int32) else (0 : Int32)) else (0 : Int32) := by
  subst h
  rw [own_ifc (eq_comm (a := a)), own_ifc (eq_comm (a := b))]

theorem own_pd1 : parseMethodDescriptor "(DDZZ)V" = some ⟨[.double, .double, .boolean, .boolean], none⟩ := by decide +kernel
theorem own_pd2 : parseMethodDescriptor "(Lcom/example/tapfall/tapfall/gesture/Point;)Z" = some ⟨[(.object "com/example/tapfall/tapfall/gesture/Point")], some .boolean⟩ := by decide +kernel
def Q_rm0 (Z : State) (p0 : Int32) (p1 : Int32) (p2 : Int32) (p3 : Int32) (p4 : Int32) (h0 : Heap) (n0 : Nat) (v : Option Value) (h : Heap) (L : List Loc) : Prop := v = some (.int 1) ∧ Fr n0 L
theorem ef_rm0 (m : MethodId) (x0 : Int32) (x1 : Int32) (x2 : Int32) (x3 : Int32) (x4 : Int32) : entryFrame m #[(.int x0), (.int x1), (.int x2), (.int x3), (.int x4)] maxLocals = mkF m 0 #[.val (.int x0), .val (.int x1), .val (.int x2), .val (.int x3), .val (.int x4), .unset, .unset, .unset, .unset, .unset] [] := by first | (simp [entryFrame, mkF, argsToLocals, Value.category, maxLocals]; done) | rfl
theorem pn_rm0 : plainName "com/example/tapfall/tapfall/gesture/PointSameDoublesPinLaw" = true := by first | (simp [plainName, overriddenIn]; done) | decide +kernel
set_option maxRecDepth 65536 in
set_option maxHeartbeats 40000000 in
theorem rm0 (l : Launch) (Z : State) (a0 : Array Value) (hw : ∀ d ∈ tables_1, d.before a0 Z = true) (ws : List Jvm.Cond) (p0 : Int32) (p1 : Int32) (p2 : Int32) (p3 : Int32) (p4 : Int32) (h0 : Heap) (n0 : Nat) (Z0 : n0 ≤ h0.size)  :
    MetFree l x (head1 (Jvm.Cond.code x code maxLocals ret :: ws) room_1) (fun a U => a = #[(.int p0), (.int p1), (.int p2), (.int p3), (.int p4)] ∧ Z.Warmed39 U.vm ∧ U.heap = h0) (fun _ _ _ _ _ => True) (fun _ U o U' => ∃ v L, o = .returned v ∧ Q_rm0 Z p0 p1 p2 p3 p4 h0 n0 v U'.heap L ∧ FrameEnd U o U' L 16 128) := by
  refine MetFree.of_bodySF (plainFor_of_name pn_rm0) hisR ?_
  intro p e s m args below meth c s₁ Bd hml0 hP hK
  obtain ⟨rfl, hZ, hh⟩ := hP
  have hx := Bd.exec
  have hby := Bd.bytes
  have hml : c.maxLocals = 10 := hml0
  have hown : s.vm.findClass "com/example/tapfall/tapfall/gesture/PointSameDoublesPinLaw" = some m.cls := findClass_of_methodNamed Bd.named
  have hnm := (name_of_methodNamed Bd.named Bd.method).1
  have hlk : meth.locks = false := BodyLoose.notSynchronized Bd
  have X0 : Stand p l e room_1 s m #[(.int p0), (.int p1), (.int p2), (.int p3), (.int p4)] below meth c s₁ [] 0 0 := Stand.of_body Bd
  have e0 : s₁.heap = h0 := by rw [← hh, Bd.state]; rfl
  have N0 := Fr.nil n0
  show own_W p e below s (Q_rm0 Z p0 p1 p2 p3 p4 h0 n0) 16 128 s₁ (entryFrame m #[(.int p0), (.int p1), (.int p2), (.int p3), (.int p4)] maxLocals)
  skip
  skip
  refine own_go (T' := s₁) (g' := (mkF m 0 #[.val (.int p0), .val (.int p1), .val (.int p2), .val (.int p3), .val (.int p4), .unset, .unset, .unset, .unset, .unset] [])) (fun _ k => castTop (ef_rm0 m p0 p1 p2 p3 p4) k) ?_
  refine own_go (T' := s₁) (g' := (mkF m 2 #[.val (.int p0), .val (.int p1), .val (.int p2), .val (.int p3), .val (.int p4), .unset, .unset, .unset, .unset, .unset] [(.int p4)])) (fun _ k => XS.iload X0.here hx rfl (hb hby at_0) rfl k) ?_
  refine own_go (T' := s₁) (g' := (mkF m 3 #[.val (.int p0), .val (.int p1), .val (.int p2), .val (.int p3), .val (.int p4), .unset, .unset, .unset, .unset, .unset] [(.int (2 : Int32)), (.int p4)])) (fun _ k => XS.iconst X0.here hx rfl (hb hby at_2) k) ?_
  refine own_go (T' := s₁) (g' := (mkF m 4 #[.val (.int p0), .val (.int p1), .val (.int p2), .val (.int p3), .val (.int p4), .unset, .unset, .unset, .unset, .unset] [(.int (p4 >>> ((2 : Int32) &&& 31)))])) (fun _ k => XS.ishr X0.here hx rfl (hb hby at_3) rfl k) ?_
  refine own_go (T' := s₁) (g' := (mkF m 5 #[.val (.int p0), .val (.int p1), .val (.int p2), .val (.int p3), .val (.int p4), .unset, .unset, .unset, .unset, .unset] [(.int (1 : Int32)), (.int (p4 >>> ((2 : Int32) &&& 31)))])) (fun _ k => XS.iconst X0.here hx rfl (hb hby at_4) k) ?_
  refine own_go (T' := s₁) (g' := (mkF m 6 #[.val (.int p0), .val (.int p1), .val (.int p2), .val (.int p3), .val (.int p4), .unset, .unset, .unset, .unset, .unset] [(.int ((p4 >>> ((2 : Int32) &&& 31)) &&& (1 : Int32)))])) (fun _ k => XS.iand X0.here hx rfl (hb hby at_5) rfl k) ?_
  have J14_1 : ∀ (xS0_1 : Int32) (hxS0_1 : xS0_1 = (if ((p4 >>> ((2 : Int32) &&& 31)) &&& (1 : Int32)) = (0 : Int32) then p2 else p0)), own_W p e below s (Q_rm0 Z p0 p1 p2 p3 p4 h0 n0) 16 128 s₁ (mkF m 14 #[.val (.int p0), .val (.int p1), .val (.int p2), .val (.int p3), .val (.int p4), .unset, .unset, .unset, .unset, .unset] [(.int xS0_1)]) := by
    intro xS0_1 hxS0_1
    refine own_go (T' := s₁) (g' := (mkF m 16 #[.val (.int p0), .val (.int p1), .val (.int p2), .val (.int p3), .val (.int p4), .val (.int xS0_1), .unset, .unset, .unset, .unset] [])) (fun _ k => XS.istore X0.here hx rfl (hb hby at_14) rfl (l' := #[.val (.int p0), .val (.int p1), .val (.int p2), .val (.int p3), .val (.int p4), .val (.int xS0_1), .unset, .unset, .unset, .unset]) rfl k) ?_
    refine own_go (T' := s₁) (g' := (mkF m 18 #[.val (.int p0), .val (.int p1), .val (.int p2), .val (.int p3), .val (.int p4), .val (.int xS0_1), .unset, .unset, .unset, .unset] [(.int p4)])) (fun _ k => XS.iload X0.here hx rfl (hb hby at_16) rfl k) ?_
    refine own_go (T' := s₁) (g' := (mkF m 19 #[.val (.int p0), .val (.int p1), .val (.int p2), .val (.int p3), .val (.int p4), .val (.int xS0_1), .unset, .unset, .unset, .unset] [(.int (3 : Int32)), (.int p4)])) (fun _ k => XS.iconst X0.here hx rfl (hb hby at_18) k) ?_
    refine own_go (T' := s₁) (g' := (mkF m 20 #[.val (.int p0), .val (.int p1), .val (.int p2), .val (.int p3), .val (.int p4), .val (.int xS0_1), .unset, .unset, .unset, .unset] [(.int (p4 >>> ((3 : Int32) &&& 31)))])) (fun _ k => XS.ishr X0.here hx rfl (hb hby at_19) rfl k) ?_
    refine own_go (T' := s₁) (g' := (mkF m 21 #[.val (.int p0), .val (.int p1), .val (.int p2), .val (.int p3), .val (.int p4), .val (.int xS0_1), .unset, .unset, .unset, .unset] [(.int (1 : Int32)), (.int (p4 >>> ((3 : Int32) &&& 31)))])) (fun _ k => XS.iconst X0.here hx rfl (hb hby at_20) k) ?_
    refine own_go (T' := s₁) (g' := (mkF m 22 #[.val (.int p0), .val (.int p1), .val (.int p2), .val (.int p3), .val (.int p4), .val (.int xS0_1), .unset, .unset, .unset, .unset] [(.int ((p4 >>> ((3 : Int32) &&& 31)) &&& (1 : Int32)))])) (fun _ k => XS.iand X0.here hx rfl (hb hby at_21) rfl k) ?_
    have J30_2 : ∀ (xS0_2 : Int32) (hxS0_2 : xS0_2 = (if ((p4 >>> ((3 : Int32) &&& 31)) &&& (1 : Int32)) = (0 : Int32) then p3 else p1)), own_W p e below s (Q_rm0 Z p0 p1 p2 p3 p4 h0 n0) 16 128 s₁ (mkF m 30 #[.val (.int p0), .val (.int p1), .val (.int p2), .val (.int p3), .val (.int p4), .val (.int xS0_1), .unset, .unset, .unset, .unset] [(.int xS0_2)]) := by
      intro xS0_2 hxS0_2
      refine own_go (T' := s₁) (g' := (mkF m 32 #[.val (.int p0), .val (.int p1), .val (.int p2), .val (.int p3), .val (.int p4), .val (.int xS0_1), .val (.int xS0_2), .unset, .unset, .unset] [])) (fun _ k => XS.istore X0.here hx rfl (hb hby at_30) rfl (l' := #[.val (.int p0), .val (.int p1), .val (.int p2), .val (.int p3), .val (.int p4), .val (.int xS0_1), .val (.int xS0_2), .unset, .unset, .unset]) rfl k) ?_
      obtain ⟨T3, h3, X3, e3, E3, A3, D3, -, st3⟩ := newO X0 hx hZ hown (hw _ (List.mem_of_getElem? (i := 0) rfl)) (hw _ (List.mem_of_getElem? (i := 1) rfl)) (hw _ (List.mem_of_getElem? (i := 2) rfl)) e0 (g := (mkF m 32 #[.val (.int p0), .val (.int p1), .val (.int p2), .val (.int p3), .val (.int p4), .val (.int xS0_1), .val (.int xS0_2), .unset, .unset, .unset] [])) rfl (hb hby at_32) (by decide) (by decide)
      obtain ⟨b3, g3⟩ : ∃ z, z = h0.size := ⟨_, rfl⟩
      rw [← g3] at A3 D3 st3
      have fn4 : Fld Z h3 b3 "com/example/tapfall/tapfall/gesture/Point" "x" "D" (.double 0) := D3 (Or.inr (hw _ (List.mem_of_getElem? (i := 16) rfl))) (ty := .double) (by decide)
      have fn5 : Fld Z h3 b3 "com/example/tapfall/tapfall/gesture/Point" "y" "D" (.double 0) := D3 (Or.inr (hw _ (List.mem_of_getElem? (i := 18) rfl))) (ty := .double) (by decide)
      have fn6 : Fld Z h3 b3 "com/example/tapfall/tapfall/gesture/Point" "binaryX" "Z" (.int (0 : Int32)) := D3 (Or.inr (hw _ (List.mem_of_getElem? (i := 20) rfl))) (ty := .boolean) (by decide)
      have fn7 : Fld Z h3 b3 "com/example/tapfall/tapfall/gesture/Point" "binaryY" "Z" (.int (0 : Int32)) := D3 (Or.inr (hw _ (List.mem_of_getElem? (i := 22) rfl))) (ty := .boolean) (by decide)
      have ge3 : n0 ≤ b3 := Nat.le_trans Z0 (Nat.le_of_eq g3.symm)
      have zs3 : n0 ≤ h3.size := Nat.le_trans Z0 E3.1
      refine own_go (T' := T3) (g' := (mkF m 35 #[.val (.int p0), .val (.int p1), .val (.int p2), .val (.int p3), .val (.int p4), .val (.int xS0_1), .val (.int xS0_2), .unset, .unset, .unset] [(.ref b3)])) (fun _ k => st3 _ k) ?_
      refine own_go (T' := T3) (g' := (mkF m 36 #[.val (.int p0), .val (.int p1), .val (.int p2), .val (.int p3), .val (.int p4), .val (.int xS0_1), .val (.int xS0_2), .unset, .unset, .unset] [(.ref b3), (.ref b3)])) (fun _ k => XS.dup X3.here hx rfl (hb hby at_35) rfl rfl k) ?_
      refine own_go (T' := T3) (g' := (mkF m 37 #[.val (.int p0), .val (.int p1), .val (.int p2), .val (.int p3), .val (.int p4), .val (.int xS0_1), .val (.int xS0_2), .unset, .unset, .unset] [(.int p0), (.ref b3), (.ref b3)])) (fun _ k => XS.iloadN X3.here hx rfl (hb hby at_36) rfl k) ?_
      refine own_go (T' := T3) (g' := (mkF m 38 #[.val (.int p0), .val (.int p1), .val (.int p2), .val (.int p3), .val (.int p4), .val (.int xS0_1), .val (.int xS0_2), .unset, .unset, .unset] [(.double (FP.i2d p0)), (.ref b3), (.ref b3)])) (fun _ k => XS.i2dS X3.here hx rfl (hb hby at_37) rfl rfl k) ?_
      refine own_go (T' := T3) (g' := (mkF m 41 #[.val (.int p0), .val (.int p1), .val (.int p2), .val (.int p3), .val (.int p4), .val (.int xS0_1), .val (.int xS0_2), .unset, .unset, .unset] [(.double (4598175219545276416 : UInt64)), (.double (FP.i2d p0)), (.ref b3), (.ref b3)])) (fun _ k => X3.ldc2DoubleC hx hown (mvT hZ (hw _ (List.mem_of_getElem? (i := 3) rfl))) (g := (mkF m 38 #[.val (.int p0), .val (.int p1), .val (.int p2), .val (.int p3), .val (.int p4), .val (.int xS0_1), .val (.int xS0_2), .unset, .unset, .unset] [(.double (FP.i2d p0)), (.ref b3), (.ref b3)])) rfl (hb hby at_38) _ k) ?_
      refine own_go (T' := T3) (g' := (mkF m 42 #[.val (.int p0), .val (.int p1), .val (.int p2), .val (.int p3), .val (.int p4), .val (.int xS0_1), .val (.int xS0_2), .unset, .unset, .unset] [(.double (FP.dmul (FP.i2d p0) (4598175219545276416 : UInt64))), (.ref b3), (.ref b3)])) (fun _ k => XS.dmulS X3.here hx rfl (hb hby at_41) rfl (own_nn _) rfl k) ?_
      refine own_go (T' := T3) (g' := (mkF m 43 #[.val (.int p0), .val (.int p1), .val (.int p2), .val (.int p3), .val (.int p4), .val (.int xS0_1), .val (.int xS0_2), .unset, .unset, .unset] [(.int p1), (.double (FP.dmul (FP.i2d p0) (4598175219545276416 : UInt64))), (.ref b3), (.ref b3)])) (fun _ k => XS.iloadN X3.here hx rfl (hb hby at_42) rfl k) ?_
      refine own_go (T' := T3) (g' := (mkF m 44 #[.val (.int p0), .val (.int p1), .val (.int p2), .val (.int p3), .val (.int p4), .val (.int xS0_1), .val (.int xS0_2), .unset, .unset, .unset] [(.double (FP.i2d p1)), (.double (FP.dmul (FP.i2d p0) (4598175219545276416 : UInt64))), (.ref b3), (.ref b3)])) (fun _ k => XS.i2dS X3.here hx rfl (hb hby at_43) rfl rfl k) ?_
      refine own_go (T' := T3) (g' := (mkF m 47 #[.val (.int p0), .val (.int p1), .val (.int p2), .val (.int p3), .val (.int p4), .val (.int xS0_1), .val (.int xS0_2), .unset, .unset, .unset] [(.double (4598175219545276416 : UInt64)), (.double (FP.i2d p1)), (.double (FP.dmul (FP.i2d p0) (4598175219545276416 : UInt64))), (.ref b3), (.ref b3)])) (fun _ k => X3.ldc2DoubleC hx hown (mvT hZ (hw _ (List.mem_of_getElem? (i := 3) rfl))) (g := (mkF m 44 #[.val (.int p0), .val (.int p1), .val (.int p2), .val (.int p3), .val (.int p4), .val (.int xS0_1), .val (.int xS0_2), .unset, .unset, .unset] [(.double (FP.i2d p1)), (.double (FP.dmul (FP.i2d p0) (4598175219545276416 : UInt64))), (.ref b3), (.ref b3)])) rfl (hb hby at_44) _ k) ?_
      refine own_go (T' := T3) (g' := (mkF m 48 #[.val (.int p0), .val (.int p1), .val (.int p2), .val (.int p3), .val (.int p4), .val (.int xS0_1), .val (.int xS0_2), .unset, .unset, .unset] [(.double (FP.dmul (FP.i2d p1) (4598175219545276416 : UInt64))), (.double (FP.dmul (FP.i2d p0) (4598175219545276416 : UInt64))), (.ref b3), (.ref b3)])) (fun _ k => XS.dmulS X3.here hx rfl (hb hby at_47) rfl (own_nn _) rfl k) ?_
      refine own_go (T' := T3) (g' := (mkF m 50 #[.val (.int p0), .val (.int p1), .val (.int p2), .val (.int p3), .val (.int p4), .val (.int xS0_1), .val (.int xS0_2), .unset, .unset, .unset] [(.int p4), (.double (FP.dmul (FP.i2d p1) (4598175219545276416 : UInt64))), (.double (FP.dmul (FP.i2d p0) (4598175219545276416 : UInt64))), (.ref b3), (.ref b3)])) (fun _ k => XS.iload X3.here hx rfl (hb hby at_48) rfl k) ?_
      refine own_go (T' := T3) (g' := (mkF m 51 #[.val (.int p0), .val (.int p1), .val (.int p2), .val (.int p3), .val (.int p4), .val (.int xS0_1), .val (.int xS0_2), .unset, .unset, .unset] [(.int (1 : Int32)), (.int p4), (.double (FP.dmul (FP.i2d p1) (4598175219545276416 : UInt64))), (.double (FP.dmul (FP.i2d p0) (4598175219545276416 : UInt64))), (.ref b3), (.ref b3)])) (fun _ k => XS.iconst X3.here hx rfl (hb hby at_50) k) ?_
      refine own_go (T' := T3) (g' := (mkF m 52 #[.val (.int p0), .val (.int p1), .val (.int p2), .val (.int p3), .val (.int p4), .val (.int xS0_1), .val (.int xS0_2), .unset, .unset, .unset] [(.int (p4 &&& (1 : Int32))), (.double (FP.dmul (FP.i2d p1) (4598175219545276416 : UInt64))), (.double (FP.dmul (FP.i2d p0) (4598175219545276416 : UInt64))), (.ref b3), (.ref b3)])) (fun _ k => XS.iand X3.here hx rfl (hb hby at_51) rfl k) ?_
      have J60_8 : ∀ (xS0_8 : Int32) (hxS0_8 : xS0_8 = (if (p4 &&& (1 : Int32)) = (0 : Int32) then (0 : Int32) else (1 : Int32))), own_W p e below s (Q_rm0 Z p0 p1 p2 p3 p4 h0 n0) 16 128 T3 (mkF m 60 #[.val (.int p0), .val (.int p1), .val (.int p2), .val (.int p3), .val (.int p4), .val (.int xS0_1), .val (.int xS0_2), .unset, .unset, .unset] [(.int xS0_8), (.double (FP.dmul (FP.i2d p1) (4598175219545276416 : UInt64))), (.double (FP.dmul (FP.i2d p0) (4598175219545276416 : UInt64))), (.ref b3), (.ref b3)]) := by
        intro xS0_8 hxS0_8
        refine own_go (T' := T3) (g' := (mkF m 62 #[.val (.int p0), .val (.int p1), .val (.int p2), .val (.int p3), .val (.int p4), .val (.int xS0_1), .val (.int xS0_2), .unset, .unset, .unset] [(.int p4), (.int xS0_8), (.double (FP.dmul (FP.i2d p1) (4598175219545276416 : UInt64))), (.double (FP.dmul (FP.i2d p0) (4598175219545276416 : UInt64))), (.ref b3), (.ref b3)])) (fun _ k => XS.iload X3.here hx rfl (hb hby at_60) rfl k) ?_
        refine own_go (T' := T3) (g' := (mkF m 63 #[.val (.int p0), .val (.int p1), .val (.int p2), .val (.int p3), .val (.int p4), .val (.int xS0_1), .val (.int xS0_2), .unset, .unset, .unset] [(.int (2 : Int32)), (.int p4), (.int xS0_8), (.double (FP.dmul (FP.i2d p1) (4598175219545276416 : UInt64))), (.double (FP.dmul (FP.i2d p0) (4598175219545276416 : UInt64))), (.ref b3), (.ref b3)])) (fun _ k => XS.iconst X3.here hx rfl (hb hby at_62) k) ?_
        refine own_go (T' := T3) (g' := (mkF m 64 #[.val (.int p0), .val (.int p1), .val (.int p2), .val (.int p3), .val (.int p4), .val (.int xS0_1), .val (.int xS0_2), .unset, .unset, .unset] [(.int (p4 &&& (2 : Int32))), (.int xS0_8), (.double (FP.dmul (FP.i2d p1) (4598175219545276416 : UInt64))), (.double (FP.dmul (FP.i2d p0) (4598175219545276416 : UInt64))), (.ref b3), (.ref b3)])) (fun _ k => XS.iand X3.here hx rfl (hb hby at_63) rfl k) ?_
        have J72_9 : ∀ (xS0_9 : Int32) (hxS0_9 : xS0_9 = (if (p4 &&& (2 : Int32)) = (0 : Int32) then (0 : Int32) else (1 : Int32))), own_W p e below s (Q_rm0 Z p0 p1 p2 p3 p4 h0 n0) 16 128 T3 (mkF m 72 #[.val (.int p0), .val (.int p1), .val (.int p2), .val (.int p3), .val (.int p4), .val (.int xS0_1), .val (.int xS0_2), .unset, .unset, .unset] [(.int xS0_9), (.int xS0_8), (.double (FP.dmul (FP.i2d p1) (4598175219545276416 : UInt64))), (.double (FP.dmul (FP.i2d p0) (4598175219545276416 : UInt64))), (.ref b3), (.ref b3)]) := by
          intro xS0_9 hxS0_9
          obtain ⟨_, _, ⟨T10, L10, k10, n10⟩, -, X10, ⟨Lc10, hQ10, l10, y10, z10⟩, st10⟩ := X3.specialBack hx (y := (⟨"com/example/tapfall/tapfall/gesture/Point", "<init>", "(DDZZ)V"⟩ : MethodName)) rfl hown (mvT hZ (hw _ (List.mem_of_getElem? (i := 4) rfl))) (mvT hZ (hw _ (List.mem_of_getElem? (i := 5) rfl))) (mvT hZ (hw _ (List.mem_of_getElem? (i := 6) rfl))) (by decide) (backOf (W := 1) (rmPt l Z a0 hw [] b3 (FP.dmul (FP.i2d p0) (4598175219545276416 : UInt64)) (FP.dmul (FP.i2d p1) (4598175219545276416 : UInt64)) xS0_8 xS0_9 h3 n0 zs3 A3 ge3 fn4 fn5 fn6 fn7) hZ (hw _ (List.mem_of_getElem? (i := 6) rfl)) (hw _ (List.mem_of_getElem? (i := 2) rfl)) (by decide) (by decide)) (g := (mkF m 72 #[.val (.int p0), .val (.int p1), .val (.int p2), .val (.int p3), .val (.int p4), .val (.int xS0_1), .val (.int xS0_2), .unset, .unset, .unset] [(.int xS0_9), (.int xS0_8), (.double (FP.dmul (FP.i2d p1) (4598175219545276416 : UInt64))), (.double (FP.dmul (FP.i2d p0) (4598175219545276416 : UInt64))), (.ref b3), (.ref b3)])) rfl (by rw [hml]; rfl) (Steps.refl _) (a := b3) (argsL := [(.double (FP.dmul (FP.i2d p0) (4598175219545276416 : UInt64))), (.double (FP.dmul (FP.i2d p1) (4598175219545276416 : UInt64))), (.int xS0_8), (.int xS0_9)]) (rest := [(.ref b3)]) (lenOf own_pd1 rfl) rfl (by show 2 * 0 + _ ≤ _; exact Nat.le_of_eq rfl) (hb hby at_72) (fun _ _ => ⟨rfl, e3, (by decide : 1 + 0 ≤ _), (by decide : 4 + 0 ≤ _)⟩)
          dsimp only [Pt.U, Pt.locs, Pt.cells, Pt.slots] at X10 l10 y10 z10 st10 hQ10
          subst l10 y10 z10
          obtain ⟨rfl, N10q, K10, po11, po12, po13, po14, po15⟩ := hQ10
          have f16 : Exa Z T10.heap b3 "com/example/tapfall/tapfall/gesture/Point" := (A3.keep K10)
          have zs10 : n0 ≤ T10.heap.size := Nat.le_trans zs3 K10.1
          have N10 := Fr.app N0 N10q
          refine own_go (T' := T10) (g' := (mkF m 75 #[.val (.int p0), .val (.int p1), .val (.int p2), .val (.int p3), .val (.int p4), .val (.int xS0_1), .val (.int xS0_2), .unset, .unset, .unset] [(.ref b3)])) (fun _ k => st10.trans k) ?_
          refine own_go (T' := T10) (g' := (mkF m 77 #[.val (.int p0), .val (.int p1), .val (.int p2), .val (.int p3), .val (.int p4), .val (.int xS0_1), .val (.int xS0_2), .val (.ref b3), .unset, .unset] [])) (fun _ k => XS.astore X10.here hx rfl (hb hby at_75) rfl rfl (l' := #[.val (.int p0), .val (.int p1), .val (.int p2), .val (.int p3), .val (.int p4), .val (.int xS0_1), .val (.int xS0_2), .val (.ref b3), .unset, .unset]) rfl k) ?_
          obtain ⟨T17, h17, X17, e17, E17, A17, D17, -, st17⟩ := newO X10 hx hZ hown (hw _ (List.mem_of_getElem? (i := 0) rfl)) (hw _ (List.mem_of_getElem? (i := 1) rfl)) (hw _ (List.mem_of_getElem? (i := 2) rfl)) rfl (g := (mkF m 77 #[.val (.int p0), .val (.int p1), .val (.int p2), .val (.int p3), .val (.int p4), .val (.int xS0_1), .val (.int xS0_2), .val (.ref b3), .unset, .unset] [])) rfl (hb hby at_77) (by decide) (by decide)
          obtain ⟨b17, g17⟩ : ∃ z, z = T10.heap.size := ⟨_, rfl⟩
          have ne18 : b3 ≠ b17 := Nat.ne_of_lt (Nat.lt_of_lt_of_le po15.lt (Nat.le_of_eq g17.symm))
          rw [← g17] at A17 D17 st17
          have f19 : Exa Z h17 b3 "com/example/tapfall/tapfall/gesture/Point" := (po15.ext E17)
          have f20 : Fld Z h17 b3 "com/example/tapfall/tapfall/gesture/Point" "x" "D" (.double (FP.dmul (FP.i2d p0) (4598175219545276416 : UInt64))) := (po11.ext E17)
          have f21 : Fld Z h17 b3 "com/example/tapfall/tapfall/gesture/Point" "y" "D" (.double (FP.dmul (FP.i2d p1) (4598175219545276416 : UInt64))) := (po12.ext E17)
          have f22 : Fld Z h17 b3 "com/example/tapfall/tapfall/gesture/Point" "binaryX" "Z" (.int (nar .boolean xS0_8)) := (po13.ext E17)
          have f23 : Fld Z h17 b3 "com/example/tapfall/tapfall/gesture/Point" "binaryY" "Z" (.int (nar .boolean xS0_9)) := (po14.ext E17)
          have fn24 : Fld Z h17 b17 "com/example/tapfall/tapfall/gesture/Point" "x" "D" (.double 0) := D17 (Or.inr (hw _ (List.mem_of_getElem? (i := 16) rfl))) (ty := .double) (by decide)
          have fn25 : Fld Z h17 b17 "com/example/tapfall/tapfall/gesture/Point" "y" "D" (.double 0) := D17 (Or.inr (hw _ (List.mem_of_getElem? (i := 18) rfl))) (ty := .double) (by decide)
          have fn26 : Fld Z h17 b17 "com/example/tapfall/tapfall/gesture/Point" "binaryX" "Z" (.int (0 : Int32)) := D17 (Or.inr (hw _ (List.mem_of_getElem? (i := 20) rfl))) (ty := .boolean) (by decide)
          have fn27 : Fld Z h17 b17 "com/example/tapfall/tapfall/gesture/Point" "binaryY" "Z" (.int (0 : Int32)) := D17 (Or.inr (hw _ (List.mem_of_getElem? (i := 22) rfl))) (ty := .boolean) (by decide)
          have ge17 : n0 ≤ b17 := Nat.le_trans zs10 (Nat.le_of_eq g17.symm)
          have zs17 : n0 ≤ h17.size := Nat.le_trans zs10 E17.1
          refine own_go (T' := T17) (g' := (mkF m 80 #[.val (.int p0), .val (.int p1), .val (.int p2), .val (.int p3), .val (.int p4), .val (.int xS0_1), .val (.int xS0_2), .val (.ref b3), .unset, .unset] [(.ref b17)])) (fun _ k => st17 _ k) ?_
          refine own_go (T' := T17) (g' := (mkF m 81 #[.val (.int p0), .val (.int p1), .val (.int p2), .val (.int p3), .val (.int p4), .val (.int xS0_1), .val (.int xS0_2), .val (.ref b3), .unset, .unset] [(.ref b17), (.ref b17)])) (fun _ k => XS.dup X17.here hx rfl (hb hby at_80) rfl rfl k) ?_
          refine own_go (T' := T17) (g' := (mkF m 83 #[.val (.int p0), .val (.int p1), .val (.int p2), .val (.int p3), .val (.int p4), .val (.int xS0_1), .val (.int xS0_2), .val (.ref b3), .unset, .unset] [(.int xS0_1), (.ref b17), (.ref b17)])) (fun _ k => XS.iload X17.here hx rfl (hb hby at_81) rfl k) ?_
          refine own_go (T' := T17) (g' := (mkF m 84 #[.val (.int p0), .val (.int p1), .val (.int p2), .val (.int p3), .val (.int p4), .val (.int xS0_1), .val (.int xS0_2), .val (.ref b3), .unset, .unset] [(.double (FP.i2d xS0_1)), (.ref b17), (.ref b17)])) (fun _ k => XS.i2dS X17.here hx rfl (hb hby at_83) rfl rfl k) ?_
          refine own_go (T' := T17) (g' := (mkF m 87 #[.val (.int p0), .val (.int p1), .val (.int p2), .val (.int p3), .val (.int p4), .val (.int xS0_1), .val (.int xS0_2), .val (.ref b3), .unset, .unset] [(.double (4598175219545276416 : UInt64)), (.double (FP.i2d xS0_1)), (.ref b17), (.ref b17)])) (fun _ k => X17.ldc2DoubleC hx hown (mvT hZ (hw _ (List.mem_of_getElem? (i := 3) rfl))) (g := (mkF m 84 #[.val (.int p0), .val (.int p1), .val (.int p2), .val (.int p3), .val (.int p4), .val (.int xS0_1), .val (.int xS0_2), .val (.ref b3), .unset, .unset] [(.double (FP.i2d xS0_1)), (.ref b17), (.ref b17)])) rfl (hb hby at_84) _ k) ?_
          refine own_go (T' := T17) (g' := (mkF m 88 #[.val (.int p0), .val (.int p1), .val (.int p2), .val (.int p3), .val (.int p4), .val (.int xS0_1), .val (.int xS0_2), .val (.ref b3), .unset, .unset] [(.double (FP.dmul (FP.i2d xS0_1) (4598175219545276416 : UInt64))), (.ref b17), (.ref b17)])) (fun _ k => XS.dmulS X17.here hx rfl (hb hby at_87) rfl (own_nn _) rfl k) ?_
          refine own_go (T' := T17) (g' := (mkF m 90 #[.val (.int p0), .val (.int p1), .val (.int p2), .val (.int p3), .val (.int p4), .val (.int xS0_1), .val (.int xS0_2), .val (.ref b3), .unset, .unset] [(.int xS0_2), (.double (FP.dmul (FP.i2d xS0_1) (4598175219545276416 : UInt64))), (.ref b17), (.ref b17)])) (fun _ k => XS.iload X17.here hx rfl (hb hby at_88) rfl k) ?_
          refine own_go (T' := T17) (g' := (mkF m 91 #[.val (.int p0), .val (.int p1), .val (.int p2), .val (.int p3), .val (.int p4), .val (.int xS0_1), .val (.int xS0_2), .val (.ref b3), .unset, .unset] [(.double (FP.i2d xS0_2)), (.double (FP.dmul (FP.i2d xS0_1) (4598175219545276416 : UInt64))), (.ref b17), (.ref b17)])) (fun _ k => XS.i2dS X17.here hx rfl (hb hby at_90) rfl rfl k) ?_
          refine own_go (T' := T17) (g' := (mkF m 94 #[.val (.int p0), .val (.int p1), .val (.int p2), .val (.int p3), .val (.int p4), .val (.int xS0_1), .val (.int xS0_2), .val (.ref b3), .unset, .unset] [(.double (4598175219545276416 : UInt64)), (.double (FP.i2d xS0_2)), (.double (FP.dmul (FP.i2d xS0_1) (4598175219545276416 : UInt64))), (.ref b17), (.ref b17)])) (fun _ k => X17.ldc2DoubleC hx hown (mvT hZ (hw _ (List.mem_of_getElem? (i := 3) rfl))) (g := (mkF m 91 #[.val (.int p0), .val (.int p1), .val (.int p2), .val (.int p3), .val (.int p4), .val (.int xS0_1), .val (.int xS0_2), .val (.ref b3), .unset, .unset] [(.double (FP.i2d xS0_2)), (.double (FP.dmul (FP.i2d xS0_1) (4598175219545276416 : UInt64))), (.ref b17), (.ref b17)])) rfl (hb hby at_91) _ k) ?_
          refine own_go (T' := T17) (g' := (mkF m 95 #[.val (.int p0), .val (.int p1), .val (.int p2), .val (.int p3), .val (.int p4), .val (.int xS0_1), .val (.int xS0_2), .val (.ref b3), .unset, .unset] [(.double (FP.dmul (FP.i2d xS0_2) (4598175219545276416 : UInt64))), (.double (FP.dmul (FP.i2d xS0_1) (4598175219545276416 : UInt64))), (.ref b17), (.ref b17)])) (fun _ k => XS.dmulS X17.here hx rfl (hb hby at_94) rfl (own_nn _) rfl k) ?_
          refine own_go (T' := T17) (g' := (mkF m 97 #[.val (.int p0), .val (.int p1), .val (.int p2), .val (.int p3), .val (.int p4), .val (.int xS0_1), .val (.int xS0_2), .val (.ref b3), .unset, .unset] [(.int p4), (.double (FP.dmul (FP.i2d xS0_2) (4598175219545276416 : UInt64))), (.double (FP.dmul (FP.i2d xS0_1) (4598175219545276416 : UInt64))), (.ref b17), (.ref b17)])) (fun _ k => XS.iload X17.here hx rfl (hb hby at_95) rfl k) ?_
          refine own_go (T' := T17) (g' := (mkF m 99 #[.val (.int p0), .val (.int p1), .val (.int p2), .val (.int p3), .val (.int p4), .val (.int xS0_1), .val (.int xS0_2), .val (.ref b3), .unset, .unset] [(.int (16 : Int32)), (.int p4), (.double (FP.dmul (FP.i2d xS0_2) (4598175219545276416 : UInt64))), (.double (FP.dmul (FP.i2d xS0_1) (4598175219545276416 : UInt64))), (.ref b17), (.ref b17)])) (fun _ k => XS.bipush X17.here hx rfl (hb hby at_97) k) ?_
          refine own_go (T' := T17) (g' := (mkF m 100 #[.val (.int p0), .val (.int p1), .val (.int p2), .val (.int p3), .val (.int p4), .val (.int xS0_1), .val (.int xS0_2), .val (.ref b3), .unset, .unset] [(.int (p4 &&& (16 : Int32))), (.double (FP.dmul (FP.i2d xS0_2) (4598175219545276416 : UInt64))), (.double (FP.dmul (FP.i2d xS0_1) (4598175219545276416 : UInt64))), (.ref b17), (.ref b17)])) (fun _ k => XS.iand X17.here hx rfl (hb hby at_99) rfl k) ?_
          have J108_28 : ∀ (xS0_28 : Int32) (hxS0_28 : xS0_28 = (if (p4 &&& (16 : Int32)) = (0 : Int32) then (0 : Int32) else (1 : Int32))), own_W p e below s (Q_rm0 Z p0 p1 p2 p3 p4 h0 n0) 16 128 T17 (mkF m 108 #[.val (.int p0), .val (.int p1), .val (.int p2), .val (.int p3), .val (.int p4), .val (.int xS0_1), .val (.int xS0_2), .val (.ref b3), .unset, .unset] [(.int xS0_28), (.double (FP.dmul (FP.i2d xS0_2) (4598175219545276416 : UInt64))), (.double (FP.dmul (FP.i2d xS0_1) (4598175219545276416 : UInt64))), (.ref b17), (.ref b17)]) := by
            intro xS0_28 hxS0_28
            refine own_go (T' := T17) (g' := (mkF m 110 #[.val (.int p0), .val (.int p1), .val (.int p2), .val (.int p3), .val (.int p4), .val (.int xS0_1), .val (.int xS0_2), .val (.ref b3), .unset, .unset] [(.int p4), (.int xS0_28), (.double (FP.dmul (FP.i2d xS0_2) (4598175219545276416 : UInt64))), (.double (FP.dmul (FP.i2d xS0_1) (4598175219545276416 : UInt64))), (.ref b17), (.ref b17)])) (fun _ k => XS.iload X17.here hx rfl (hb hby at_108) rfl k) ?_
            refine own_go (T' := T17) (g' := (mkF m 112 #[.val (.int p0), .val (.int p1), .val (.int p2), .val (.int p3), .val (.int p4), .val (.int xS0_1), .val (.int xS0_2), .val (.ref b3), .unset, .unset] [(.int (32 : Int32)), (.int p4), (.int xS0_28), (.double (FP.dmul (FP.i2d xS0_2) (4598175219545276416 : UInt64))), (.double (FP.dmul (FP.i2d xS0_1) (4598175219545276416 : UInt64))), (.ref b17), (.ref b17)])) (fun _ k => XS.bipush X17.here hx rfl (hb hby at_110) k) ?_
            refine own_go (T' := T17) (g' := (mkF m 113 #[.val (.int p0), .val (.int p1), .val (.int p2), .val (.int p3), .val (.int p4), .val (.int xS0_1), .val (.int xS0_2), .val (.ref b3), .unset, .unset] [(.int (p4 &&& (32 : Int32))), (.int xS0_28), (.double (FP.dmul (FP.i2d xS0_2) (4598175219545276416 : UInt64))), (.double (FP.dmul (FP.i2d xS0_1) (4598175219545276416 : UInt64))), (.ref b17), (.ref b17)])) (fun _ k => XS.iand X17.here hx rfl (hb hby at_112) rfl k) ?_
            have J121_29 : ∀ (xS0_29 : Int32) (hxS0_29 : xS0_29 = (if (p4 &&& (32 : Int32)) = (0 : Int32) then (0 : Int32) else (1 : Int32))), own_W p e below s (Q_rm0 Z p0 p1 p2 p3 p4 h0 n0) 16 128 T17 (mkF m 121 #[.val (.int p0), .val (.int p1), .val (.int p2), .val (.int p3), .val (.int p4), .val (.int xS0_1), .val (.int xS0_2), .val (.ref b3), .unset, .unset] [(.int xS0_29), (.int xS0_28), (.double (FP.dmul (FP.i2d xS0_2) (4598175219545276416 : UInt64))), (.double (FP.dmul (FP.i2d xS0_1) (4598175219545276416 : UInt64))), (.ref b17), (.ref b17)]) := by
              intro xS0_29 hxS0_29
              obtain ⟨_, _, ⟨T30, L30, k30, n30⟩, -, X30, ⟨Lc30, hQ30, l30, y30, z30⟩, st30⟩ := X17.specialBack hx (y := (⟨"com/example/tapfall/tapfall/gesture/Point", "<init>", "(DDZZ)V"⟩ : MethodName)) rfl hown (mvT hZ (hw _ (List.mem_of_getElem? (i := 4) rfl))) (mvT hZ (hw _ (List.mem_of_getElem? (i := 5) rfl))) (mvT hZ (hw _ (List.mem_of_getElem? (i := 6) rfl))) (by decide) (backOf (W := 1) (rmPt l Z a0 hw [] b17 (FP.dmul (FP.i2d xS0_1) (4598175219545276416 : UInt64)) (FP.dmul (FP.i2d xS0_2) (4598175219545276416 : UInt64)) xS0_28 xS0_29 h17 n0 zs17 A17 ge17 fn24 fn25 fn26 fn27) hZ (hw _ (List.mem_of_getElem? (i := 6) rfl)) (hw _ (List.mem_of_getElem? (i := 2) rfl)) (by decide) (by decide)) (g := (mkF m 121 #[.val (.int p0), .val (.int p1), .val (.int p2), .val (.int p3), .val (.int p4), .val (.int xS0_1), .val (.int xS0_2), .val (.ref b3), .unset, .unset] [(.int xS0_29), (.int xS0_28), (.double (FP.dmul (FP.i2d xS0_2) (4598175219545276416 : UInt64))), (.double (FP.dmul (FP.i2d xS0_1) (4598175219545276416 : UInt64))), (.ref b17), (.ref b17)])) rfl (by rw [hml]; rfl) (Steps.refl _) (a := b17) (argsL := [(.double (FP.dmul (FP.i2d xS0_1) (4598175219545276416 : UInt64))), (.double (FP.dmul (FP.i2d xS0_2) (4598175219545276416 : UInt64))), (.int xS0_28), (.int xS0_29)]) (rest := [(.ref b17)]) (lenOf own_pd1 rfl) rfl (by show 2 * 0 + _ ≤ _; exact Nat.le_of_eq rfl) (hb hby at_121) (fun _ _ => ⟨rfl, e17, (by decide : 2 + 0 ≤ _), (by decide : 8 + 0 ≤ _)⟩)
              dsimp only [Pt.U, Pt.locs, Pt.cells, Pt.slots] at X30 l30 y30 z30 st30 hQ30
              subst l30 y30 z30
              obtain ⟨rfl, N30q, K30, po31, po32, po33, po34, po35⟩ := hQ30
              have f36 : Exa Z T30.heap b3 "com/example/tapfall/tapfall/gesture/Point" := (f19.keep K30)
              have f37 : Fld Z T30.heap b3 "com/example/tapfall/tapfall/gesture/Point" "x" "D" (.double (FP.dmul (FP.i2d p0) (4598175219545276416 : UInt64))) := (f20.keep K30 (ninS ne18 nin0))
              have f38 : Fld Z T30.heap b3 "com/example/tapfall/tapfall/gesture/Point" "y" "D" (.double (FP.dmul (FP.i2d p1) (4598175219545276416 : UInt64))) := (f21.keep K30 (ninS ne18 nin0))
              have f39 : Fld Z T30.heap b3 "com/example/tapfall/tapfall/gesture/Point" "binaryX" "Z" (.int (nar .boolean xS0_8)) := (f22.keep K30 (ninS ne18 nin0))
              have f40 : Fld Z T30.heap b3 "com/example/tapfall/tapfall/gesture/Point" "binaryY" "Z" (.int (nar .boolean xS0_9)) := (f23.keep K30 (ninS ne18 nin0))
              have f41 : Exa Z T30.heap b17 "com/example/tapfall/tapfall/gesture/Point" := (A17.keep K30)
              have zs30 : n0 ≤ T30.heap.size := Nat.le_trans zs17 K30.1
              have N30 := Fr.app N10 N30q
              refine own_go (T' := T30) (g' := (mkF m 124 #[.val (.int p0), .val (.int p1), .val (.int p2), .val (.int p3), .val (.int p4), .val (.int xS0_1), .val (.int xS0_2), .val (.ref b3), .unset, .unset] [(.ref b17)])) (fun _ k => st30.trans k) ?_
              refine own_go (T' := T30) (g' := (mkF m 126 #[.val (.int p0), .val (.int p1), .val (.int p2), .val (.int p3), .val (.int p4), .val (.int xS0_1), .val (.int xS0_2), .val (.ref b3), .val (.ref b17), .unset] [])) (fun _ k => XS.astore X30.here hx rfl (hb hby at_124) rfl rfl (l' := #[.val (.int p0), .val (.int p1), .val (.int p2), .val (.int p3), .val (.int p4), .val (.int xS0_1), .val (.int xS0_2), .val (.ref b3), .val (.ref b17), .unset]) rfl k) ?_
              refine own_go (T' := T30) (g' := (mkF m 127 #[.val (.int p0), .val (.int p1), .val (.int p2), .val (.int p3), .val (.int p4), .val (.int xS0_1), .val (.int xS0_2), .val (.ref b3), .val (.ref b17), .unset] [(.int p0)])) (fun _ k => XS.iloadN X30.here hx rfl (hb hby at_126) rfl k) ?_
              refine own_go (T' := T30) (g' := (mkF m 129 #[.val (.int p0), .val (.int p1), .val (.int p2), .val (.int p3), .val (.int p4), .val (.int xS0_1), .val (.int xS0_2), .val (.ref b3), .val (.ref b17), .unset] [(.int xS0_1), (.int p0)])) (fun _ k => XS.iload X30.here hx rfl (hb hby at_127) rfl k) ?_
              have J143_42 : ∀ (xS0_42 : Int32) (hxS0_42 : xS0_42 = (if p0 = xS0_1 then (if p1 = xS0_2 then (1 : Int32) else (0 : Int32)) else (0 : Int32))), own_W p e below s (Q_rm0 Z p0 p1 p2 p3 p4 h0 n0) 16 128 T30 (mkF m 143 #[.val (.int p0), .val (.int p1), .val (.int p2), .val (.int p3), .val (.int p4), .val (.int xS0_1), .val (.int xS0_2), .val (.ref b3), .val (.ref b17), .unset] [(.int xS0_42)]) := by
                intro xS0_42 hxS0_42
                refine own_go (T' := T30) (g' := (mkF m 145 #[.val (.int p0), .val (.int p1), .val (.int p2), .val (.int p3), .val (.int p4), .val (.int xS0_1), .val (.int xS0_2), .val (.ref b3), .val (.ref b17), .val (.int xS0_42)] [])) (fun _ k => XS.istore X30.here hx rfl (hb hby at_143) rfl (l' := #[.val (.int p0), .val (.int p1), .val (.int p2), .val (.int p3), .val (.int p4), .val (.int xS0_1), .val (.int xS0_2), .val (.ref b3), .val (.ref b17), .val (.int xS0_42)]) rfl k) ?_
                refine own_go (T' := T30) (g' := (mkF m 147 #[.val (.int p0), .val (.int p1), .val (.int p2), .val (.int p3), .val (.int p4), .val (.int xS0_1), .val (.int xS0_2), .val (.ref b3), .val (.ref b17), .val (.int xS0_42)] [(.ref b3)])) (fun _ k => XS.aload X30.here hx rfl (hb hby at_145) rfl rfl k) ?_
                refine own_go (T' := T30) (g' := (mkF m 149 #[.val (.int p0), .val (.int p1), .val (.int p2), .val (.int p3), .val (.int p4), .val (.int xS0_1), .val (.int xS0_2), .val (.ref b3), .val (.ref b17), .val (.int xS0_42)] [(.ref b17), (.ref b3)])) (fun _ k => XS.aload X30.here hx rfl (hb hby at_147) rfl rfl k) ?_
                obtain ⟨cq43, kq43, q43a, q43b, q43c⟩ := isOf hZ rfl f36
                obtain ⟨_, _, ⟨T43, L43, k43, n43⟩, -, X43, ⟨Lc43, hQ43, l43, y43, z43⟩, st43⟩ := X30.virtualBack hx (y := (⟨"com/example/tapfall/tapfall/gesture/Point", "sameDoubles", "(Lcom/example/tapfall/tapfall/gesture/Point;)Z"⟩ : MethodName)) (z := (⟨"com/example/tapfall/tapfall/gesture/Point", "sameDoubles", "(Lcom/example/tapfall/tapfall/gesture/Point;)Z"⟩ : MethodName)) hown (mvT hZ (hw _ (List.mem_of_getElem? (i := 23) rfl))) (mvT hZ (hw _ (List.mem_of_getElem? (i := 24) rfl))) (notFace_of_selects (args := #[]) (mvT hZ (hw _ (List.mem_of_getElem? (i := 26) rfl)))) (mvT hZ (hw _ (List.mem_of_getElem? (i := 26) rfl))) (mvT hZ (hw _ (List.mem_of_getElem? (i := 25) rfl))) (by decide) (backOf (W := 0) (rmSame l Z a0 hw [] b3 b17 (FP.dmul (FP.i2d p0) (4598175219545276416 : UInt64)) (FP.dmul (FP.i2d p1) (4598175219545276416 : UInt64)) (FP.dmul (FP.i2d xS0_1) (4598175219545276416 : UInt64)) (FP.dmul (FP.i2d xS0_2) (4598175219545276416 : UInt64)) T30.heap n0 zs30 f37 f38 po31 po32) hZ (hw _ (List.mem_of_getElem? (i := 27) rfl)) (hw _ (List.mem_of_getElem? (i := 2) rfl)) (by decide) (by decide)) q43a q43c (g := (mkF m 149 #[.val (.int p0), .val (.int p1), .val (.int p2), .val (.int p3), .val (.int p4), .val (.int xS0_1), .val (.int xS0_2), .val (.ref b3), .val (.ref b17), .val (.int xS0_42)] [(.ref b17), (.ref b3)])) rfl (by rw [hml]; rfl) (Steps.refl _) (argsL := [(.ref b17)]) (rest := []) (lenOf own_pd2 rfl) rfl (by show 2 * 0 + _ ≤ _; exact Nat.le_of_eq rfl) (hb hby at_149) (fun _ _ => ⟨rfl, rfl, (by decide : 2 + 0 ≤ _), (by decide : 8 + 0 ≤ _)⟩)
                dsimp only [Pt.U, Pt.locs, Pt.cells, Pt.slots] at X43 l43 y43 z43 st43 hQ43
                subst l43 y43 z43
                obtain ⟨rfl, N43q, e43⟩ := hQ43
                have N43 := Fr.app N30 N43q
                refine own_go (T' := T43) (g' := (mkF m 152 #[.val (.int p0), .val (.int p1), .val (.int p2), .val (.int p3), .val (.int p4), .val (.int xS0_1), .val (.int xS0_2), .val (.ref b3), .val (.ref b17), .val (.int xS0_42)] [(.int (own_same b3 b17 (FP.dmul (FP.i2d p0) (4598175219545276416 : UInt64)) (FP.dmul (FP.i2d p1) (4598175219545276416 : UInt64)) (FP.dmul (FP.i2d xS0_1) (4598175219545276416 : UInt64)) (FP.dmul (FP.i2d xS0_2) (4598175219545276416 : UInt64))))])) (fun _ k => st43.trans k) ?_
                refine own_go (T' := T43) (g' := (mkF m 154 #[.val (.int p0), .val (.int p1), .val (.int p2), .val (.int p3), .val (.int p4), .val (.int xS0_1), .val (.int xS0_2), .val (.ref b3), .val (.ref b17), .val (.int xS0_42)] [(.int xS0_42), (.int (own_same b3 b17 (FP.dmul (FP.i2d p0) (4598175219545276416 : UInt64)) (FP.dmul (FP.i2d p1) (4598175219545276416 : UInt64)) (FP.dmul (FP.i2d xS0_1) (4598175219545276416 : UInt64)) (FP.dmul (FP.i2d xS0_2) (4598175219545276416 : UInt64))))])) (fun _ k => XS.iload X43.here hx rfl (hb hby at_152) rfl k) ?_
                refine own_go (T' := T43) (g' := (mkF m 157 #[.val (.int p0), .val (.int p1), .val (.int p2), .val (.int p3), .val (.int p4), .val (.int xS0_1), .val (.int xS0_2), .val (.ref b3), .val (.ref b17), .val (.int xS0_42)] [])) (fun _ k => XS.icmpNo X43.here hx rfl (hb hby at_154) rfl (XT.ii_ne_f (own_law hxS0_42)) k) ?_
                refine own_go (T' := T43) (g' := (mkF m 159 #[.val (.int p0), .val (.int p1), .val (.int p2), .val (.int p3), .val (.int p4), .val (.int xS0_1), .val (.int xS0_2), .val (.ref b3), .val (.ref b17), .val (.int xS0_42)] [(.ref b17)])) (fun _ k => XS.aload X43.here hx rfl (hb hby at_157) rfl rfl k) ?_
                refine own_go (T' := T43) (g' := (mkF m 161 #[.val (.int p0), .val (.int p1), .val (.int p2), .val (.int p3), .val (.int p4), .val (.int xS0_1), .val (.int xS0_2), .val (.ref b3), .val (.ref b17), .val (.int xS0_42)] [(.ref b3), (.ref b17)])) (fun _ k => XS.aload X43.here hx rfl (hb hby at_159) rfl rfl k) ?_
                obtain ⟨cq44, kq44, q44a, q44b, q44c⟩ := isOf hZ e43 po35
                obtain ⟨_, _, ⟨T44, L44, k44, n44⟩, -, X44, ⟨Lc44, hQ44, l44, y44, z44⟩, st44⟩ := X43.virtualBack hx (y := (⟨"com/example/tapfall/tapfall/gesture/Point", "sameDoubles", "(Lcom/example/tapfall/tapfall/gesture/Point;)Z"⟩ : MethodName)) (z := (⟨"com/example/tapfall/tapfall/gesture/Point", "sameDoubles", "(Lcom/example/tapfall/tapfall/gesture/Point;)Z"⟩ : MethodName)) hown (mvT hZ (hw _ (List.mem_of_getElem? (i := 23) rfl))) (mvT hZ (hw _ (List.mem_of_getElem? (i := 24) rfl))) (notFace_of_selects (args := #[]) (mvT hZ (hw _ (List.mem_of_getElem? (i := 26) rfl)))) (mvT hZ (hw _ (List.mem_of_getElem? (i := 26) rfl))) (mvT hZ (hw _ (List.mem_of_getElem? (i := 25) rfl))) (by decide) (backOf (W := 0) (rmSame l Z a0 hw [] b17 b3 (FP.dmul (FP.i2d xS0_1) (4598175219545276416 : UInt64)) (FP.dmul (FP.i2d xS0_2) (4598175219545276416 : UInt64)) (FP.dmul (FP.i2d p0) (4598175219545276416 : UInt64)) (FP.dmul (FP.i2d p1) (4598175219545276416 : UInt64)) T30.heap n0 zs30 po31 po32 f37 f38) hZ (hw _ (List.mem_of_getElem? (i := 27) rfl)) (hw _ (List.mem_of_getElem? (i := 2) rfl)) (by decide) (by decide)) q44a q44c (g := (mkF m 161 #[.val (.int p0), .val (.int p1), .val (.int p2), .val (.int p3), .val (.int p4), .val (.int xS0_1), .val (.int xS0_2), .val (.ref b3), .val (.ref b17), .val (.int xS0_42)] [(.ref b3), (.ref b17)])) rfl (by rw [hml]; rfl) (Steps.refl _) (argsL := [(.ref b3)]) (rest := []) (lenOf own_pd2 rfl) rfl (by show 2 * 0 + _ ≤ _; exact Nat.le_of_eq rfl) (hb hby at_161) (fun _ _ => ⟨rfl, e43, (by decide : 2 + 0 ≤ _), (by decide : 8 + 0 ≤ _)⟩)
                dsimp only [Pt.U, Pt.locs, Pt.cells, Pt.slots] at X44 l44 y44 z44 st44 hQ44
                subst l44 y44 z44
                obtain ⟨rfl, N44q, e44⟩ := hQ44
                have N44 := Fr.app N43 N44q
                refine own_go (T' := T44) (g' := (mkF m 164 #[.val (.int p0), .val (.int p1), .val (.int p2), .val (.int p3), .val (.int p4), .val (.int xS0_1), .val (.int xS0_2), .val (.ref b3), .val (.ref b17), .val (.int xS0_42)] [(.int (own_same b17 b3 (FP.dmul (FP.i2d xS0_1) (4598175219545276416 : UInt64)) (FP.dmul (FP.i2d xS0_2) (4598175219545276416 : UInt64)) (FP.dmul (FP.i2d p0) (4598175219545276416 : UInt64)) (FP.dmul (FP.i2d p1) (4598175219545276416 : UInt64))))])) (fun _ k => st44.trans k) ?_
                refine own_go (T' := T44) (g' := (mkF m 166 #[.val (.int p0), .val (.int p1), .val (.int p2), .val (.int p3), .val (.int p4), .val (.int xS0_1), .val (.int xS0_2), .val (.ref b3), .val (.ref b17), .val (.int xS0_42)] [(.int xS0_42), (.int (own_same b17 b3 (FP.dmul (FP.i2d xS0_1) (4598175219545276416 : UInt64)) (FP.dmul (FP.i2d xS0_2) (4598175219545276416 : UInt64)) (FP.dmul (FP.i2d p0) (4598175219545276416 : UInt64)) (FP.dmul (FP.i2d p1) (4598175219545276416 : UInt64))))])) (fun _ k => XS.iload X44.here hx rfl (hb hby at_164) rfl k) ?_
                refine own_go (T' := T44) (g' := (mkF m 169 #[.val (.int p0), .val (.int p1), .val (.int p2), .val (.int p3), .val (.int p4), .val (.int xS0_1), .val (.int xS0_2), .val (.ref b3), .val (.ref b17), .val (.int xS0_42)] [])) (fun _ k => XS.icmpNo X44.here hx rfl (hb hby at_166) rfl (XT.ii_ne_f (own_law (own_swap hxS0_42))) k) ?_
                refine own_go (T' := T44) (g' := (mkF m 170 #[.val (.int p0), .val (.int p1), .val (.int p2), .val (.int p3), .val (.int p4), .val (.int xS0_1), .val (.int xS0_2), .val (.ref b3), .val (.ref b17), .val (.int xS0_42)] [(.int (1 : Int32))])) (fun _ k => XS.iconst X44.here hx rfl (hb hby at_169) k) ?_
                refine own_go (T' := T44) (g' := (mkF m 174 #[.val (.int p0), .val (.int p1), .val (.int p2), .val (.int p3), .val (.int p4), .val (.int xS0_1), .val (.int xS0_2), .val (.ref b3), .val (.ref b17), .val (.int xS0_42)] [(.int (1 : Int32))])) (fun _ k => XS.goto X44.here hx rfl (pc0 := 170) (pc' := 174) rfl (hb hby at_170) (by decide) (by decide) k) ?_
                exact own_retN X44 hx (t := .boolean) Bd.returns hlk (by simp) (hb hby at_174) e44 ⟨rfl, N44⟩ (by decide) (by decide)
              by_cases hc129_45 : p0 = xS0_1
              · skip
                refine own_go (T' := T30) (g' := (mkF m 132 #[.val (.int p0), .val (.int p1), .val (.int p2), .val (.int p3), .val (.int p4), .val (.int xS0_1), .val (.int xS0_2), .val (.ref b3), .val (.ref b17), .unset] [])) (fun _ k => XS.icmpNo X30.here hx rfl (hb hby at_129) rfl (XT.ii_ne_f hc129_45) k) ?_
                refine own_go (T' := T30) (g' := (mkF m 133 #[.val (.int p0), .val (.int p1), .val (.int p2), .val (.int p3), .val (.int p4), .val (.int xS0_1), .val (.int xS0_2), .val (.ref b3), .val (.ref b17), .unset] [(.int p1)])) (fun _ k => XS.iloadN X30.here hx rfl (hb hby at_132) rfl k) ?_
                refine own_go (T' := T30) (g' := (mkF m 135 #[.val (.int p0), .val (.int p1), .val (.int p2), .val (.int p3), .val (.int p4), .val (.int xS0_1), .val (.int xS0_2), .val (.ref b3), .val (.ref b17), .unset] [(.int xS0_2), (.int p1)])) (fun _ k => XS.iload X30.here hx rfl (hb hby at_133) rfl k) ?_
                by_cases hc135_46 : p1 = xS0_2
                · skip
                  refine own_go (T' := T30) (g' := (mkF m 138 #[.val (.int p0), .val (.int p1), .val (.int p2), .val (.int p3), .val (.int p4), .val (.int xS0_1), .val (.int xS0_2), .val (.ref b3), .val (.ref b17), .unset] [])) (fun _ k => XS.icmpNo X30.here hx rfl (hb hby at_135) rfl (XT.ii_ne_f hc135_46) k) ?_
                  refine own_go (T' := T30) (g' := (mkF m 139 #[.val (.int p0), .val (.int p1), .val (.int p2), .val (.int p3), .val (.int p4), .val (.int xS0_1), .val (.int xS0_2), .val (.ref b3), .val (.ref b17), .unset] [(.int (1 : Int32))])) (fun _ k => XS.iconst X30.here hx rfl (hb hby at_138) k) ?_
                  refine own_go (T' := T30) (g' := (mkF m 143 #[.val (.int p0), .val (.int p1), .val (.int p2), .val (.int p3), .val (.int p4), .val (.int xS0_1), .val (.int xS0_2), .val (.ref b3), .val (.ref b17), .unset] [(.int (1 : Int32))])) (fun _ k => XS.goto X30.here hx rfl (pc0 := 139) (pc' := 143) rfl (hb hby at_139) (by decide) (by decide) k) ?_
                  exact J143_42 _ (by rw [if_pos hc129_45, if_pos hc135_46])
                · skip
                  refine own_go (T' := T30) (g' := (mkF m 142 #[.val (.int p0), .val (.int p1), .val (.int p2), .val (.int p3), .val (.int p4), .val (.int xS0_1), .val (.int xS0_2), .val (.ref b3), .val (.ref b17), .unset] [])) (fun _ k => XS.icmpYes X30.here hx rfl (pc0 := 135) (pc' := 142) rfl (hb hby at_135) rfl (XT.ii_ne_t hc135_46) (by decide) (by decide) k) ?_
                  refine own_go (T' := T30) (g' := (mkF m 143 #[.val (.int p0), .val (.int p1), .val (.int p2), .val (.int p3), .val (.int p4), .val (.int xS0_1), .val (.int xS0_2), .val (.ref b3), .val (.ref b17), .unset] [(.int (0 : Int32))])) (fun _ k => XS.iconst X30.here hx rfl (hb hby at_142) k) ?_
                  exact J143_42 _ (by rw [if_pos hc129_45, if_neg hc135_46])
              · skip
                refine own_go (T' := T30) (g' := (mkF m 142 #[.val (.int p0), .val (.int p1), .val (.int p2), .val (.int p3), .val (.int p4), .val (.int xS0_1), .val (.int xS0_2), .val (.ref b3), .val (.ref b17), .unset] [])) (fun _ k => XS.icmpYes X30.here hx rfl (pc0 := 129) (pc' := 142) rfl (hb hby at_129) rfl (XT.ii_ne_t hc129_45) (by decide) (by decide) k) ?_
                refine own_go (T' := T30) (g' := (mkF m 143 #[.val (.int p0), .val (.int p1), .val (.int p2), .val (.int p3), .val (.int p4), .val (.int xS0_1), .val (.int xS0_2), .val (.ref b3), .val (.ref b17), .unset] [(.int (0 : Int32))])) (fun _ k => XS.iconst X30.here hx rfl (hb hby at_142) k) ?_
                exact J143_42 _ (by rw [if_neg hc129_45])
            by_cases hc113_47 : (p4 &&& (32 : Int32)) = (0 : Int32)
            · skip
              refine own_go (T' := T17) (g' := (mkF m 120 #[.val (.int p0), .val (.int p1), .val (.int p2), .val (.int p3), .val (.int p4), .val (.int xS0_1), .val (.int xS0_2), .val (.ref b3), .unset, .unset] [(.int xS0_28), (.double (FP.dmul (FP.i2d xS0_2) (4598175219545276416 : UInt64))), (.double (FP.dmul (FP.i2d xS0_1) (4598175219545276416 : UInt64))), (.ref b17), (.ref b17)])) (fun _ k => XS.ifYes X17.here hx rfl (pc0 := 113) (pc' := 120) rfl (hb hby at_113) rfl (XT.i0_eq_t hc113_47) (by decide) (by decide) k) ?_
              refine own_go (T' := T17) (g' := (mkF m 121 #[.val (.int p0), .val (.int p1), .val (.int p2), .val (.int p3), .val (.int p4), .val (.int xS0_1), .val (.int xS0_2), .val (.ref b3), .unset, .unset] [(.int (0 : Int32)), (.int xS0_28), (.double (FP.dmul (FP.i2d xS0_2) (4598175219545276416 : UInt64))), (.double (FP.dmul (FP.i2d xS0_1) (4598175219545276416 : UInt64))), (.ref b17), (.ref b17)])) (fun _ k => XS.iconst X17.here hx rfl (hb hby at_120) k) ?_
              exact J121_29 _ (by rw [if_pos hc113_47])
            · skip
              refine own_go (T' := T17) (g' := (mkF m 116 #[.val (.int p0), .val (.int p1), .val (.int p2), .val (.int p3), .val (.int p4), .val (.int xS0_1), .val (.int xS0_2), .val (.ref b3), .unset, .unset] [(.int xS0_28), (.double (FP.dmul (FP.i2d xS0_2) (4598175219545276416 : UInt64))), (.double (FP.dmul (FP.i2d xS0_1) (4598175219545276416 : UInt64))), (.ref b17), (.ref b17)])) (fun _ k => XS.ifNo X17.here hx rfl (hb hby at_113) rfl (XT.i0_eq_f hc113_47) k) ?_
              refine own_go (T' := T17) (g' := (mkF m 117 #[.val (.int p0), .val (.int p1), .val (.int p2), .val (.int p3), .val (.int p4), .val (.int xS0_1), .val (.int xS0_2), .val (.ref b3), .unset, .unset] [(.int (1 : Int32)), (.int xS0_28), (.double (FP.dmul (FP.i2d xS0_2) (4598175219545276416 : UInt64))), (.double (FP.dmul (FP.i2d xS0_1) (4598175219545276416 : UInt64))), (.ref b17), (.ref b17)])) (fun _ k => XS.iconst X17.here hx rfl (hb hby at_116) k) ?_
              refine own_go (T' := T17) (g' := (mkF m 121 #[.val (.int p0), .val (.int p1), .val (.int p2), .val (.int p3), .val (.int p4), .val (.int xS0_1), .val (.int xS0_2), .val (.ref b3), .unset, .unset] [(.int (1 : Int32)), (.int xS0_28), (.double (FP.dmul (FP.i2d xS0_2) (4598175219545276416 : UInt64))), (.double (FP.dmul (FP.i2d xS0_1) (4598175219545276416 : UInt64))), (.ref b17), (.ref b17)])) (fun _ k => XS.goto X17.here hx rfl (pc0 := 117) (pc' := 121) rfl (hb hby at_117) (by decide) (by decide) k) ?_
              exact J121_29 _ (by rw [if_neg hc113_47])
          by_cases hc100_48 : (p4 &&& (16 : Int32)) = (0 : Int32)
          · skip
            refine own_go (T' := T17) (g' := (mkF m 107 #[.val (.int p0), .val (.int p1), .val (.int p2), .val (.int p3), .val (.int p4), .val (.int xS0_1), .val (.int xS0_2), .val (.ref b3), .unset, .unset] [(.double (FP.dmul (FP.i2d xS0_2) (4598175219545276416 : UInt64))), (.double (FP.dmul (FP.i2d xS0_1) (4598175219545276416 : UInt64))), (.ref b17), (.ref b17)])) (fun _ k => XS.ifYes X17.here hx rfl (pc0 := 100) (pc' := 107) rfl (hb hby at_100) rfl (XT.i0_eq_t hc100_48) (by decide) (by decide) k) ?_
            refine own_go (T' := T17) (g' := (mkF m 108 #[.val (.int p0), .val (.int p1), .val (.int p2), .val (.int p3), .val (.int p4), .val (.int xS0_1), .val (.int xS0_2), .val (.ref b3), .unset, .unset] [(.int (0 : Int32)), (.double (FP.dmul (FP.i2d xS0_2) (4598175219545276416 : UInt64))), (.double (FP.dmul (FP.i2d xS0_1) (4598175219545276416 : UInt64))), (.ref b17), (.ref b17)])) (fun _ k => XS.iconst X17.here hx rfl (hb hby at_107) k) ?_
            exact J108_28 _ (by rw [if_pos hc100_48])
          · skip
            refine own_go (T' := T17) (g' := (mkF m 103 #[.val (.int p0), .val (.int p1), .val (.int p2), .val (.int p3), .val (.int p4), .val (.int xS0_1), .val (.int xS0_2), .val (.ref b3), .unset, .unset] [(.double (FP.dmul (FP.i2d xS0_2) (4598175219545276416 : UInt64))), (.double (FP.dmul (FP.i2d xS0_1) (4598175219545276416 : UInt64))), (.ref b17), (.ref b17)])) (fun _ k => XS.ifNo X17.here hx rfl (hb hby at_100) rfl (XT.i0_eq_f hc100_48) k) ?_
            refine own_go (T' := T17) (g' := (mkF m 104 #[.val (.int p0), .val (.int p1), .val (.int p2), .val (.int p3), .val (.int p4), .val (.int xS0_1), .val (.int xS0_2), .val (.ref b3), .unset, .unset] [(.int (1 : Int32)), (.double (FP.dmul (FP.i2d xS0_2) (4598175219545276416 : UInt64))), (.double (FP.dmul (FP.i2d xS0_1) (4598175219545276416 : UInt64))), (.ref b17), (.ref b17)])) (fun _ k => XS.iconst X17.here hx rfl (hb hby at_103) k) ?_
            refine own_go (T' := T17) (g' := (mkF m 108 #[.val (.int p0), .val (.int p1), .val (.int p2), .val (.int p3), .val (.int p4), .val (.int xS0_1), .val (.int xS0_2), .val (.ref b3), .unset, .unset] [(.int (1 : Int32)), (.double (FP.dmul (FP.i2d xS0_2) (4598175219545276416 : UInt64))), (.double (FP.dmul (FP.i2d xS0_1) (4598175219545276416 : UInt64))), (.ref b17), (.ref b17)])) (fun _ k => XS.goto X17.here hx rfl (pc0 := 104) (pc' := 108) rfl (hb hby at_104) (by decide) (by decide) k) ?_
            exact J108_28 _ (by rw [if_neg hc100_48])
        by_cases hc64_49 : (p4 &&& (2 : Int32)) = (0 : Int32)
        · skip
          refine own_go (T' := T3) (g' := (mkF m 71 #[.val (.int p0), .val (.int p1), .val (.int p2), .val (.int p3), .val (.int p4), .val (.int xS0_1), .val (.int xS0_2), .unset, .unset, .unset] [(.int xS0_8), (.double (FP.dmul (FP.i2d p1) (4598175219545276416 : UInt64))), (.double (FP.dmul (FP.i2d p0) (4598175219545276416 : UInt64))), (.ref b3), (.ref b3)])) (fun _ k => XS.ifYes X3.here hx rfl (pc0 := 64) (pc' := 71) rfl (hb hby at_64) rfl (XT.i0_eq_t hc64_49) (by decide) (by decide) k) ?_
          refine own_go (T' := T3) (g' := (mkF m 72 #[.val (.int p0), .val (.int p1), .val (.int p2), .val (.int p3), .val (.int p4), .val (.int xS0_1), .val (.int xS0_2), .unset, .unset, .unset] [(.int (0 : Int32)), (.int xS0_8), (.double (FP.dmul (FP.i2d p1) (4598175219545276416 : UInt64))), (.double (FP.dmul (FP.i2d p0) (4598175219545276416 : UInt64))), (.ref b3), (.ref b3)])) (fun _ k => XS.iconst X3.here hx rfl (hb hby at_71) k) ?_
          exact J72_9 _ (by rw [if_pos hc64_49])
        · skip
          refine own_go (T' := T3) (g' := (mkF m 67 #[.val (.int p0), .val (.int p1), .val (.int p2), .val (.int p3), .val (.int p4), .val (.int xS0_1), .val (.int xS0_2), .unset, .unset, .unset] [(.int xS0_8), (.double (FP.dmul (FP.i2d p1) (4598175219545276416 : UInt64))), (.double (FP.dmul (FP.i2d p0) (4598175219545276416 : UInt64))), (.ref b3), (.ref b3)])) (fun _ k => XS.ifNo X3.here hx rfl (hb hby at_64) rfl (XT.i0_eq_f hc64_49) k) ?_
          refine own_go (T' := T3) (g' := (mkF m 68 #[.val (.int p0), .val (.int p1), .val (.int p2), .val (.int p3), .val (.int p4), .val (.int xS0_1), .val (.int xS0_2), .unset, .unset, .unset] [(.int (1 : Int32)), (.int xS0_8), (.double (FP.dmul (FP.i2d p1) (4598175219545276416 : UInt64))), (.double (FP.dmul (FP.i2d p0) (4598175219545276416 : UInt64))), (.ref b3), (.ref b3)])) (fun _ k => XS.iconst X3.here hx rfl (hb hby at_67) k) ?_
          refine own_go (T' := T3) (g' := (mkF m 72 #[.val (.int p0), .val (.int p1), .val (.int p2), .val (.int p3), .val (.int p4), .val (.int xS0_1), .val (.int xS0_2), .unset, .unset, .unset] [(.int (1 : Int32)), (.int xS0_8), (.double (FP.dmul (FP.i2d p1) (4598175219545276416 : UInt64))), (.double (FP.dmul (FP.i2d p0) (4598175219545276416 : UInt64))), (.ref b3), (.ref b3)])) (fun _ k => XS.goto X3.here hx rfl (pc0 := 68) (pc' := 72) rfl (hb hby at_68) (by decide) (by decide) k) ?_
          exact J72_9 _ (by rw [if_neg hc64_49])
      by_cases hc52_50 : (p4 &&& (1 : Int32)) = (0 : Int32)
      · skip
        refine own_go (T' := T3) (g' := (mkF m 59 #[.val (.int p0), .val (.int p1), .val (.int p2), .val (.int p3), .val (.int p4), .val (.int xS0_1), .val (.int xS0_2), .unset, .unset, .unset] [(.double (FP.dmul (FP.i2d p1) (4598175219545276416 : UInt64))), (.double (FP.dmul (FP.i2d p0) (4598175219545276416 : UInt64))), (.ref b3), (.ref b3)])) (fun _ k => XS.ifYes X3.here hx rfl (pc0 := 52) (pc' := 59) rfl (hb hby at_52) rfl (XT.i0_eq_t hc52_50) (by decide) (by decide) k) ?_
        refine own_go (T' := T3) (g' := (mkF m 60 #[.val (.int p0), .val (.int p1), .val (.int p2), .val (.int p3), .val (.int p4), .val (.int xS0_1), .val (.int xS0_2), .unset, .unset, .unset] [(.int (0 : Int32)), (.double (FP.dmul (FP.i2d p1) (4598175219545276416 : UInt64))), (.double (FP.dmul (FP.i2d p0) (4598175219545276416 : UInt64))), (.ref b3), (.ref b3)])) (fun _ k => XS.iconst X3.here hx rfl (hb hby at_59) k) ?_
        exact J60_8 _ (by rw [if_pos hc52_50])
      · skip
        refine own_go (T' := T3) (g' := (mkF m 55 #[.val (.int p0), .val (.int p1), .val (.int p2), .val (.int p3), .val (.int p4), .val (.int xS0_1), .val (.int xS0_2), .unset, .unset, .unset] [(.double (FP.dmul (FP.i2d p1) (4598175219545276416 : UInt64))), (.double (FP.dmul (FP.i2d p0) (4598175219545276416 : UInt64))), (.ref b3), (.ref b3)])) (fun _ k => XS.ifNo X3.here hx rfl (hb hby at_52) rfl (XT.i0_eq_f hc52_50) k) ?_
        refine own_go (T' := T3) (g' := (mkF m 56 #[.val (.int p0), .val (.int p1), .val (.int p2), .val (.int p3), .val (.int p4), .val (.int xS0_1), .val (.int xS0_2), .unset, .unset, .unset] [(.int (1 : Int32)), (.double (FP.dmul (FP.i2d p1) (4598175219545276416 : UInt64))), (.double (FP.dmul (FP.i2d p0) (4598175219545276416 : UInt64))), (.ref b3), (.ref b3)])) (fun _ k => XS.iconst X3.here hx rfl (hb hby at_55) k) ?_
        refine own_go (T' := T3) (g' := (mkF m 60 #[.val (.int p0), .val (.int p1), .val (.int p2), .val (.int p3), .val (.int p4), .val (.int xS0_1), .val (.int xS0_2), .unset, .unset, .unset] [(.int (1 : Int32)), (.double (FP.dmul (FP.i2d p1) (4598175219545276416 : UInt64))), (.double (FP.dmul (FP.i2d p0) (4598175219545276416 : UInt64))), (.ref b3), (.ref b3)])) (fun _ k => XS.goto X3.here hx rfl (pc0 := 56) (pc' := 60) rfl (hb hby at_56) (by decide) (by decide) k) ?_
        exact J60_8 _ (by rw [if_neg hc52_50])
    by_cases hc22_51 : ((p4 >>> ((3 : Int32) &&& 31)) &&& (1 : Int32)) = (0 : Int32)
    · skip
      refine own_go (T' := s₁) (g' := (mkF m 29 #[.val (.int p0), .val (.int p1), .val (.int p2), .val (.int p3), .val (.int p4), .val (.int xS0_1), .unset, .unset, .unset, .unset] [])) (fun _ k => XS.ifYes X0.here hx rfl (pc0 := 22) (pc' := 29) rfl (hb hby at_22) rfl (XT.i0_eq_t hc22_51) (by decide) (by decide) k) ?_
      refine own_go (T' := s₁) (g' := (mkF m 30 #[.val (.int p0), .val (.int p1), .val (.int p2), .val (.int p3), .val (.int p4), .val (.int xS0_1), .unset, .unset, .unset, .unset] [(.int p3)])) (fun _ k => XS.iloadN X0.here hx rfl (hb hby at_29) rfl k) ?_
      exact J30_2 _ (by rw [if_pos hc22_51])
    · skip
      refine own_go (T' := s₁) (g' := (mkF m 25 #[.val (.int p0), .val (.int p1), .val (.int p2), .val (.int p3), .val (.int p4), .val (.int xS0_1), .unset, .unset, .unset, .unset] [])) (fun _ k => XS.ifNo X0.here hx rfl (hb hby at_22) rfl (XT.i0_eq_f hc22_51) k) ?_
      refine own_go (T' := s₁) (g' := (mkF m 26 #[.val (.int p0), .val (.int p1), .val (.int p2), .val (.int p3), .val (.int p4), .val (.int xS0_1), .unset, .unset, .unset, .unset] [(.int p1)])) (fun _ k => XS.iloadN X0.here hx rfl (hb hby at_25) rfl k) ?_
      refine own_go (T' := s₁) (g' := (mkF m 30 #[.val (.int p0), .val (.int p1), .val (.int p2), .val (.int p3), .val (.int p4), .val (.int xS0_1), .unset, .unset, .unset, .unset] [(.int p1)])) (fun _ k => XS.goto X0.here hx rfl (pc0 := 26) (pc' := 30) rfl (hb hby at_26) (by decide) (by decide) k) ?_
      exact J30_2 _ (by rw [if_neg hc22_51])
  by_cases hc6_52 : ((p4 >>> ((2 : Int32) &&& 31)) &&& (1 : Int32)) = (0 : Int32)
  · skip
    refine own_go (T' := s₁) (g' := (mkF m 13 #[.val (.int p0), .val (.int p1), .val (.int p2), .val (.int p3), .val (.int p4), .unset, .unset, .unset, .unset, .unset] [])) (fun _ k => XS.ifYes X0.here hx rfl (pc0 := 6) (pc' := 13) rfl (hb hby at_6) rfl (XT.i0_eq_t hc6_52) (by decide) (by decide) k) ?_
    refine own_go (T' := s₁) (g' := (mkF m 14 #[.val (.int p0), .val (.int p1), .val (.int p2), .val (.int p3), .val (.int p4), .unset, .unset, .unset, .unset, .unset] [(.int p2)])) (fun _ k => XS.iloadN X0.here hx rfl (hb hby at_13) rfl k) ?_
    exact J14_1 _ (by rw [if_pos hc6_52])
  · skip
    refine own_go (T' := s₁) (g' := (mkF m 9 #[.val (.int p0), .val (.int p1), .val (.int p2), .val (.int p3), .val (.int p4), .unset, .unset, .unset, .unset, .unset] [])) (fun _ k => XS.ifNo X0.here hx rfl (hb hby at_6) rfl (XT.i0_eq_f hc6_52) k) ?_
    refine own_go (T' := s₁) (g' := (mkF m 10 #[.val (.int p0), .val (.int p1), .val (.int p2), .val (.int p3), .val (.int p4), .unset, .unset, .unset, .unset, .unset] [(.int p0)])) (fun _ k => XS.iloadN X0.here hx rfl (hb hby at_9) rfl k) ?_
    refine own_go (T' := s₁) (g' := (mkF m 14 #[.val (.int p0), .val (.int p1), .val (.int p2), .val (.int p3), .val (.int p4), .unset, .unset, .unset, .unset, .unset] [(.int p0)])) (fun _ k => XS.goto X0.here hx rfl (pc0 := 10) (pc' := 14) rfl (hb hby at_10) (by decide) (by decide) k) ?_
    exact J14_1 _ (by rw [if_neg hc6_52])
set_option maxRecDepth 65536 in
set_option maxHeartbeats 40000000 in
theorem comes_1 {Post : Tables → Env → Array Value → State → Outcome → State → Prop} (hpost : ∀ tb e args s v u, (limb_1_1.after args s (.returned v) u = true ∧ limb_1_2.after args s (.returned v) u = true ∧ True) → FrameEnd s (.returned v) u (Jvm.fieldLocs frame_1_writes args s ++ Jvm.arrayLocs frame_1_arrays args s ++ Jvm.staticLocs frame_1_statics s) 16 128 → Post tb e args s (.returned v) u) :
    ArmFor flags0 classFile x code maxLocals ret World_1 tables_1 room_1 Calls_1 rest_1 Pre_1 Post := by
  intro l hfl _ _ p e ha hc hk s m args below hf hA hF happ hP
  obtain ⟨hcalls, hrest, hpre⟩ := hP
  obtain ⟨-, -, -, hnamed, -, -, -, hat⟩ := (Spec.applies_iff hf).mp happ
  obtain ⟨hg, hn⟩ := and_e (Cond.before_iff.mp (show (Jvm.Cond.and given_1 narrow_1).before args s = true from hpre))
  obtain ⟨g1, g2⟩ := and_e hg
  obtain ⟨g3, g4⟩ := and_e g2
  obtain ⟨g5, g6⟩ := and_e g4
  obtain ⟨g7, g8⟩ := and_e g6
  obtain ⟨g9, g10⟩ := and_e g8
  obtain ⟨w0, w1, w2, w3, w4, rfl⟩ : ∃ w0 w1 w2 w3 w4 : Value, args = #[w0, w1, w2, w3, w4] := by
    have hs : args.size = 5 := by simpa [Cond.value, given_1] using g1
    obtain ⟨L⟩ := args
    match L, hs with
    | [w0, w1, w2, w3, w4], _ => exact ⟨w0, w1, w2, w3, w4, rfl⟩
  have hw := fun d (hd : d ∈ tables_1) => atoms_spec (ws := Jvm.Cond.code x code maxLocals ret :: tables_1) hat d (List.mem_cons_of_mem _ hd)
  have hfit : Fit s := fun {y c} hc i hi => by
    obtain ⟨ha, rfl⟩ := Array.getElem?_eq_some_iff.mp hc
    have q := List.all_eq_true.mp ((Array.all_eq_true_iff_forall_mem.mp hF) _ (Array.getElem_mem ha)) i (List.mem_range.mpr hi)
    simpa [Array.getElem?_eq_getElem hi] using q
  obtain ⟨i0, ei0⟩ := is_v g3
  obtain rfl : w0 = (.int i0) := Option.some.inj ei0
  obtain ⟨i1, ei1⟩ := is_v g5
  obtain rfl : w1 = (.int i1) := Option.some.inj ei1
  obtain ⟨i2, ei2⟩ := is_v g7
  obtain rfl : w2 = (.int i2) := Option.some.inj ei2
  obtain ⟨i3, ei3⟩ := is_v g9
  obtain rfl : w3 = (.int i3) := Option.some.inj ei3
  obtain ⟨i4, ei4⟩ := is_v g10
  obtain rfl : w4 = (.int i4) := Option.some.inj ei4
  obtain ⟨n, o, h1, h2, h3, _, L, rfl, ⟨rfl, N⟩, hq⟩ := rm0 l s _ hw tables_1 i0 i1 i2 i3 i4 s.heap s.heap.size (Nat.le_refl _)  p e ha hc hk s m _ below hf ((Spec.applies_iff_loose hf).mp happ).1 ⟨rfl, State.Warmed39.refl s, rfl⟩ trivial
  refine ⟨n, _, h1, h2, h3, hpost _ _ _ _ _ _ ⟨Cond.after_iff.mpr rfl, Cond.after_iff.mpr (eq_i res_at (Term.int_eval (1)) rfl), trivial⟩ ⟨hq.1, hq.2.1, (hq.2.2.sift fun y hy => Or.inr (N y hy)).mono (by decide) (by decide)⟩⟩
theorem main_1_1 : Claimed_1_1 := comes_1 fun _ _ _ _ _ _ h hF => ⟨h.1, hF⟩
theorem main_1_2 : Claimed_1_2 := comes_1 fun _ _ _ _ _ _ h hF => ⟨h.2.1, hF⟩
end Jvm.Pilot.@@N@@
namespace Jvm.Pilot.@@N@@
open Jvm Jvm.ClassFile Sem Op Lib Jvm.Free Jvm.Stand Jvm.Pilot.@@N@@.Jvm.D
/-! MADE BY PROGRAM (witnessworld.py) out of the Statement's table words and the real class files: 10 classes; the members and pool entries that the words name. The judged class is class 1, her method 1. -/
namespace start1
open Jvm.ClassFile
def u (s : String) : CpInfo := .utf8 (stringToUtf16 s)
/-- a pool by its gaps: so many unusable entries, then the entry; so many at the end -/
def gap : Nat → List CpInfo → List CpInfo
  | 0, r => r
  | n + 1, r => .unusable :: gap n r
def poolList (es : List (Nat × CpInfo)) (last : Nat) : List CpInfo := es.foldr (fun e r => gap e.1 (e.2 :: r)) (gap last [])
def pool (es : List (Nat × CpInfo)) (last : Nat) : Array CpInfo := ⟨poolList es last⟩
def fileOf (pool : Array CpInfo) (this : Nat) (attrs : Array Attribute := #[]) (ms : Array MethodInfo := #[]) (fl : Nat := 33) (sup : Nat := 0) (ifs : Array Nat := #[]) (fds : Array FieldInfo := #[]) : ClassFile where
  minorVersion := 0
  majorVersion := 65
  constantPool := pool
  accessFlags := fl
  thisClass := this
  superClass := sup
  interfaces := ifs
  fields := fds
  methods := ms
  attributes := attrs
def plain (name : String) (sup : Option ClassId) : Class where
  name := name
  kind := .ordinary
  loader := none
  accessFlags := 33
  super := sup
  interfaces := #[]
  cf := none
  fields := #[]
  methods := #[]
  instanceTypes := #[]
  staticTypes := #[]
  resolved := #[]
  callSites := []
  init := .initialized
  statics := none
  mirror := none

def pool0 : Array CpInfo := pool [(5, u "<init>"), (0, u "()V"), (1, .class_ 10), (1, u "java/lang/Object")] 113

def k0c0 : Code := { maxStack := 0, maxLocals := 1, code := object_method_1_code, exceptionTable := #[], attributes := #[] }
def k0m0 : Method := { name := "<init>", desc := "()V", sig := { parameters := [], returnType := none }, accessFlags := 1, code := some k0c0 }
/-- java/lang/Object -/
def k0 : Class := { plain "java/lang/Object" none with
  accessFlags := 33
  interfaces := #[]
  cf := some (fileOf pool0 8 #[] #[{ accessFlags := 1, nameIndex := 5, descriptorIndex := 6, attributes := #[] }] 33 0 #[] #[])
  fields := #[]
  methods := #[k0m0]
  instanceTypes := #[]
  staticTypes := #[]
  resolved := Array.replicate 124 none
  statics := none }

def pool1 : Array CpInfo := pool [(2, .class_ 4), (1, u "java/lang/Object"), (0, u "<init>"), (0, u "()V"), (0, .class_ 8), (0, u "com/example/tapfall/tapfall/gesture/Point"), (0, .double 4598175219545276416), (1, .methodref 7 12), (0, .nameAndType 5 13), (0, u "(DDZZ)V"), (0, .methodref 7 15), (0, .nameAndType 16 17), (0, u "sameDoubles"), (0, u "(Lcom/example/tapfall/tapfall/gesture/Point;)Z"), (0, .class_ 19), (0, u "com/example/tapfall/tapfall/gesture/PointSameDoublesPinLaw"), (2, u "law"), (0, u "(IIIII)Z")] 3

def k1m0 : Method := { name := "<init>", desc := "()V", sig := { parameters := [], returnType := none }, accessFlags := 1, code := none }
def k1c1 : Code := { maxStack := 9, maxLocals := 10, code := code, exceptionTable := #[], attributes := #[] }
def k1m1 : Method := { name := "law", desc := "(IIIII)Z", sig := { parameters := [.int, .int, .int, .int, .int], returnType := some .boolean }, accessFlags := 9, code := some k1c1 }
/-- com/example/tapfall/tapfall/gesture/PointSameDoublesPinLaw -/
def k1 : Class := { plain "com/example/tapfall/tapfall/gesture/PointSameDoublesPinLaw" (some 0) with
  accessFlags := 49
  interfaces := #[]
  cf := some (fileOf pool1 18 #[] #[{ accessFlags := 1, nameIndex := 5, descriptorIndex := 6, attributes := #[] }, { accessFlags := 9, nameIndex := 22, descriptorIndex := 23, attributes := #[] }] 49 2 #[] #[])
  fields := #[]
  methods := #[k1m0, k1m1]
  instanceTypes := #[]
  staticTypes := #[]
  resolved := Array.replicate 27 none
  statics := none }

def pool2 : Array CpInfo := pool [(1, .methodref 2 3), (0, .class_ 4), (0, .nameAndType 5 6), (0, u "java/lang/Object"), (0, u "<init>"), (0, u "()V"), (0, .class_ 8), (0, u "java/lang/Record")] 13

def k2c0 : Code := { maxStack := 1, maxLocals := 1, code := jdk_30_method_1_code, exceptionTable := #[], attributes := #[] }
def k2m0 : Method := { name := "<init>", desc := "()V", sig := { parameters := [], returnType := none }, accessFlags := 4, code := some k2c0 }
/-- java/lang/Record -/
def k2 : Class := { plain "java/lang/Record" (some 0) with
  accessFlags := 1057
  interfaces := #[]
  cf := some (fileOf pool2 7 #[] #[{ accessFlags := 4, nameIndex := 5, descriptorIndex := 6, attributes := #[] }] 1057 2 #[] #[])
  fields := #[]
  methods := #[k2m0]
  instanceTypes := #[]
  staticTypes := #[]
  resolved := Array.replicate 22 none
  statics := none }

def pool3 : Array CpInfo := pool [(1, .methodref 2 3), (0, .class_ 4), (0, .nameAndType 5 6), (0, u "java/lang/Record"), (0, u "<init>"), (0, u "()V"), (0, .fieldref 8 9), (0, .class_ 10), (0, .nameAndType 11 12), (0, u "com/example/tapfall/tapfall/gesture/Point"), (0, u "x"), (0, u "D"), (0, .fieldref 8 14), (0, .nameAndType 15 12), (0, u "y"), (0, .fieldref 8 17), (0, .nameAndType 18 19), (0, u "binaryX"), (0, u "Z"), (0, .fieldref 8 21), (0, .nameAndType 22 19), (0, u "binaryY"), (14, u "(DDZZ)V"), (14, u "ORIGIN"), (0, u "Lcom/example/tapfall/tapfall/gesture/Point;"), (6, u "sameDoubles"), (0, u "(Lcom/example/tapfall/tapfall/gesture/Point;)Z")] 28

def k3c0 : Code := { maxStack := 3, maxLocals := 7, code := prog_17_method_1_code, exceptionTable := #[], attributes := #[] }
def k3m0 : Method := { name := "<init>", desc := "(DDZZ)V", sig := { parameters := [.double, .double, .boolean, .boolean], returnType := none }, accessFlags := 0, code := some k3c0 }
def k3c1 : Code := { maxStack := 4, maxLocals := 2, code := prog_17_method_3_code, exceptionTable := #[], attributes := #[] }
def k3m1 : Method := { name := "sameDoubles", desc := "(Lcom/example/tapfall/tapfall/gesture/Point;)Z", sig := { parameters := [(.object "com/example/tapfall/tapfall/gesture/Point")], returnType := some .boolean }, accessFlags := 0, code := some k3c1 }
/-- com/example/tapfall/tapfall/gesture/Point -/
def k3 : Class := { plain "com/example/tapfall/tapfall/gesture/Point" (some 2) with
  accessFlags := 48
  interfaces := #[]
  cf := some (fileOf pool3 8 #[] #[{ accessFlags := 0, nameIndex := 5, descriptorIndex := 37, attributes := #[] }, { accessFlags := 0, nameIndex := 60, descriptorIndex := 61, attributes := #[] }] 48 2 #[] #[{ accessFlags := 18, nameIndex := 11, descriptorIndex := 12, attributes := #[] }, { accessFlags := 18, nameIndex := 15, descriptorIndex := 12, attributes := #[] }, { accessFlags := 18, nameIndex := 18, descriptorIndex := 19, attributes := #[] }, { accessFlags := 18, nameIndex := 22, descriptorIndex := 19, attributes := #[] }, { accessFlags := 24, nameIndex := 52, descriptorIndex := 53, attributes := #[] }])
  fields := #[{ name := "x", type := .double, accessFlags := 18, slot := 0, constantValue := 0 }, { name := "y", type := .double, accessFlags := 18, slot := 1, constantValue := 0 }, { name := "binaryX", type := .boolean, accessFlags := 18, slot := 2, constantValue := 0 }, { name := "binaryY", type := .boolean, accessFlags := 18, slot := 3, constantValue := 0 }, { name := "ORIGIN", type := (.object "com/example/tapfall/tapfall/gesture/Point"), accessFlags := 24, slot := 0, constantValue := 0 }]
  methods := #[k3m0, k3m1]
  instanceTypes := #[.double, .double, .boolean, .boolean]
  staticTypes := #[(.object "com/example/tapfall/tapfall/gesture/Point")]
  resolved := Array.replicate 90 none
  statics := none }

def pool4 : Array CpInfo := pool [(1, u "java/lang/Cloneable"), (0, .class_ 1), (0, u "java/lang/Object"), (0, .class_ 3)] 3

/-- java/lang/Cloneable -/
def k4 : Class := { plain "java/lang/Cloneable" (some 0) with
  accessFlags := 1537
  interfaces := #[]
  cf := some (fileOf pool4 2 #[] #[] 1537 4 #[] #[])
  fields := #[]
  methods := #[]
  instanceTypes := #[]
  staticTypes := #[]
  resolved := Array.replicate 8 none
  statics := none }

def pool5 : Array CpInfo := pool [(1, u "java/io/Serializable"), (0, .class_ 1), (0, u "java/lang/Object"), (0, .class_ 3)] 3

/-- java/io/Serializable -/
def k5 : Class := { plain "java/io/Serializable" (some 0) with
  accessFlags := 1537
  interfaces := #[]
  cf := some (fileOf pool5 2 #[] #[] 1537 4 #[] #[])
  fields := #[]
  methods := #[]
  instanceTypes := #[]
  staticTypes := #[]
  resolved := Array.replicate 8 none
  statics := none }

/-- the primitive byte -/
def k6 : Class := { plain "byte" none with kind := .primitive 'B', accessFlags := 0x411 }
/-- [B -/
def k7 : Class := { plain "[B" (some 0) with kind := .array 6 .byte, interfaces := #[4, 5], accessFlags := 1041 }

/-- the primitive int -/
def k8 : Class := { plain "int" none with kind := .primitive 'I', accessFlags := 0x411 }
/-- [I -/
def k9 : Class := { plain "[I" (some 0) with kind := .array 8 .int, interfaces := #[4, 5], accessFlags := 1041 }

def heap : Heap := #[]
def classes : Array Class := #[k0, k1, k2, k3, k4, k5, k6, k7, k8, k9]
def interned : List (Array UInt16 × Addr) := []
def slotsUsed : Nat := 0
def theMethod : MethodId := ⟨1, 1⟩
def args0 : Array Value := #[.int 5, .int 3, .int 5, .int 65, .int 3]
def aboutOver (below : List Frame) : State where
  vm := { classes := classes, interned := interned.toArray }
  heap := heap
  slotsUsed := slotsUsed
  threads := #[{ frames := .invoking theMethod args0 :: below }]
def below0 : List Frame := [.native { method := ⟨0, 0⟩, args := #[] }]
def about1 : State := aboutOver below0
def p0 : Program := .bare "" "" ""
def e0 : Env := launch0.env 0 0 0
theorem w_frames : about1.frames = Frame.invoking theMethod args0 :: below0 := rfl
set_option maxRecDepth 65536 in
theorem w_args : argsFit about1.vm theMethod args0 = true := by decide +kernel
set_option maxRecDepth 65536 in
theorem w_heap : heapFits about1 = true := by decide +kernel
set_option maxRecDepth 65536 in
theorem w_runnable : about1.curStatus? = some .runnable := by decide +kernel
set_option maxRecDepth 65536 in
theorem w_alone : about1.alone = true := by decide +kernel
set_option maxRecDepth 65536 in
theorem w_named : about1.methodNamed? x = some theMethod := by decide +kernel
set_option maxRecDepth 65536 in
theorem w_hears : about1.hears theMethod below0 = true := by decide +kernel
set_option maxRecDepth 65536 in
theorem w_ripe : about1.ripe theMethod args0 below0 = true := by decide +kernel
theorem w_running : about1.status = .running := rfl
set_option maxRecDepth 65536 in
theorem w_room : about1.hasRoom e0.platform room_1 = true :=
  launch0.hasRoom_least _ room_1 (by decide +kernel) (by decide +kernel) (by decide +kernel) (by decide +kernel) (by decide +kernel) (by decide +kernel)
theorem allAtoms_all (ts : List Jvm.Cond) (a : Array Jvm.Value) (st : Jvm.State) : (allAtoms ts).before a st = ts.all (fun c => c.before a st) := by
  induction ts with
  | nil => rfl
  | cons c t ih =>
    show (Jvm.Cond.and c (allAtoms t)).before a st = _
    rw [Jvm.Cond.before_and, ih, List.all_cons]
def words1 : List Jvm.Cond := Jvm.Cond.code x code maxLocals ret :: tables_1
/-- a 'code' word, met by the world's own term for the bytes: nothing is compared byte by byte -/
theorem code_word {y : MethodName} {bytes : ByteArray} {mx : Nat} {rt : Option FieldType} {a : Array Value} {s : State} {m : MethodId} {meth : Method} {c : Code} (h1 : s.methodNamed? y = some m) (h2 : s.vm.method? m = some meth) (h3 : meth.code = some c) (h4 : c.code = bytes)
    (h5 : (c.maxLocals == mx && c.exceptionTable.isEmpty && decide (c.maxStack ≤ mostOperands) && decide (meth.sig.returnType = rt) && !meth.locks && decide (parseMethodDescriptor y.desc = some meth.sig)) = true) : (Jvm.Cond.code y bytes mx rt).before a s = true := by
  simp only [Bool.and_eq_true, beq_iff_eq, Bool.not_eq_true', decide_eq_true_eq] at h5
  obtain ⟨⟨⟨⟨⟨g1, g2⟩, g3⟩, g4⟩, g5⟩, g6⟩ := h5
  simp [Cond.before, Cond.holds, Cond.value, h1, h2, h3, h4, g1, g2, g3, g4, g5, g6]
def isCode : Jvm.Cond → Bool
  | .code _ _ _ _ => true
  | _ => false
theorem all_split {L : List Jvm.Cond} {P : Jvm.Cond → Bool} (h1 : L.all (fun c => isCode c || P c) = true) (h2 : ∀ c ∈ L.filter isCode, P c = true) : L.all P = true := by
  refine List.all_eq_true.mpr fun c hc => ?_
  have h := List.all_eq_true.mp h1 c hc
  rcases Bool.eq_false_or_eq_true (isCode c) with hi | hi
  · exact h2 c (List.mem_filter.mpr ⟨hc, hi⟩)
  · simpa [hi] using h
set_option maxRecDepth 65536 in
theorem w_c0 : (Jvm.Cond.code x code maxLocals ret).before args0 about1 = true := code_word (m := ⟨1, 1⟩) (meth := k1m1) (c := k1c1) (by decide +kernel) rfl rfl rfl (by decide +kernel)
set_option maxRecDepth 65536 in
theorem w_c1 : (Jvm.Cond.code ({ cls := "com/example/tapfall/tapfall/gesture/Point", name := "<init>", desc := "(DDZZ)V" } : Jvm.MethodName) prog_17_method_1_code (7 : Nat) (Option.none : Option Jvm.ClassFile.FieldType)).before args0 about1 = true := code_word (m := ⟨3, 0⟩) (meth := k3m0) (c := k3c0) (by decide +kernel) rfl rfl rfl (by decide +kernel)
set_option maxRecDepth 65536 in
theorem w_c2 : (Jvm.Cond.code ({ cls := "java/lang/Record", name := "<init>", desc := "()V" } : Jvm.MethodName) jdk_30_method_1_code (1 : Nat) (Option.none : Option Jvm.ClassFile.FieldType)).before args0 about1 = true := code_word (m := ⟨2, 0⟩) (meth := k2m0) (c := k2c0) (by decide +kernel) rfl rfl rfl (by decide +kernel)
set_option maxRecDepth 65536 in
theorem w_c3 : (Jvm.Cond.code ({ cls := "java/lang/Object", name := "<init>", desc := "()V" } : Jvm.MethodName) object_method_1_code (1 : Nat) (Option.none : Option Jvm.ClassFile.FieldType)).before args0 about1 = true := code_word (m := ⟨0, 0⟩) (meth := k0m0) (c := k0c0) (by decide +kernel) rfl rfl rfl (by decide +kernel)
set_option maxRecDepth 65536 in
theorem w_c4 : (Jvm.Cond.code ({ cls := "com/example/tapfall/tapfall/gesture/Point", name := "sameDoubles", desc := "(Lcom/example/tapfall/tapfall/gesture/Point;)Z" } : Jvm.MethodName) prog_17_method_3_code (2 : Nat) (Option.some Jvm.ClassFile.FieldType.boolean)).before args0 about1 = true := code_word (m := ⟨3, 1⟩) (meth := k3m1) (c := k3c1) (by decide +kernel) rfl rfl rfl (by decide +kernel)
def codes1 : List Jvm.Cond := [Jvm.Cond.code x code maxLocals ret, Jvm.Cond.code ({ cls := "com/example/tapfall/tapfall/gesture/Point", name := "<init>", desc := "(DDZZ)V" } : Jvm.MethodName) prog_17_method_1_code (7 : Nat) (Option.none : Option Jvm.ClassFile.FieldType), Jvm.Cond.code ({ cls := "java/lang/Record", name := "<init>", desc := "()V" } : Jvm.MethodName) jdk_30_method_1_code (1 : Nat) (Option.none : Option Jvm.ClassFile.FieldType), Jvm.Cond.code ({ cls := "java/lang/Object", name := "<init>", desc := "()V" } : Jvm.MethodName) object_method_1_code (1 : Nat) (Option.none : Option Jvm.ClassFile.FieldType), Jvm.Cond.code ({ cls := "com/example/tapfall/tapfall/gesture/Point", name := "sameDoubles", desc := "(Lcom/example/tapfall/tapfall/gesture/Point;)Z" } : Jvm.MethodName) prog_17_method_3_code (2 : Nat) (Option.some Jvm.ClassFile.FieldType.boolean)]
set_option maxRecDepth 65536 in
theorem codes_eq : words1.filter isCode = codes1 := rfl
theorem w_codes : ∀ c ∈ words1.filter isCode, c.before args0 about1 = true := by
  rw [codes_eq]
  intro c hc
  simp only [codes1, List.mem_cons, List.not_mem_nil, or_false] at hc
  rcases hc with rfl | rfl | rfl | rfl | rfl
  · exact w_c0
  · exact w_c1
  · exact w_c2
  · exact w_c3
  · exact w_c4
set_option maxRecDepth 65536 in
theorem w_t1 : (words1.take 24).all (fun c => isCode c || c.before args0 about1) = true := by decide +kernel
set_option maxRecDepth 65536 in
theorem w_t2 : (words1.drop 24).all (fun c => isCode c || c.before args0 about1) = true := by decide +kernel
theorem w_tables : (allAtoms (Jvm.Cond.code x code maxLocals ret :: tables_1)).before args0 about1 = true := by
  rw [allAtoms_all]
  show words1.all (fun c => c.before args0 about1) = true
  refine all_split ?_ w_codes
  rw [← List.take_append_drop 24 words1, List.all_append, w_t1, w_t2]
  rfl
set_option maxRecDepth 65536 in
theorem w_case : (Jvm.Cond.and given_1 narrow_1).before args0 about1 = true := by decide +kernel
theorem w_applies : (headSpec (Jvm.Cond.code x code maxLocals ret :: tables_1) room_1).applies x e0.platform about1 = true :=
  (Spec.applies_iff w_frames).mpr ⟨w_running, w_runnable, w_alone, w_named, w_hears, w_ripe, w_room, w_tables⟩
theorem atStart : AtStart classFile x code maxLocals ret World_1 tables_1 room_1 Calls_1 rest_1 Pre_1 launch0 p0 e0 about1 theMethod args0 below0 :=
  ⟨lists_1, trivial, launch0.admits_env _ _ _, launch0.least_env, fairChoices_fair.cas, fairChoices_fair.clock, w_frames, w_args, w_heap, w_applies, trivial, trivial, w_case⟩
end start1
theorem witness_1 : WitnessClaimed_1 := ⟨start1.p0, start1.e0, start1.about1, start1.theMethod, start1.args0, start1.below0, start1.atStart⟩
end Jvm.Pilot.@@N@@
