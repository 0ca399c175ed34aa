import JvmDerived
import JvmDerived.Pilot.@@N@@Statement
import JvmDerived.Pilot.@@N@@Code
set_option linter.unusedVariables false
set_option linter.unusedSimpArgs false
namespace Jvm.Pilot.@@N@@
open Jvm Jvm.ClassFile Sem Op Lib Jvm.Free Jvm.Stand Jvm.LawKit Jvm.RoadKit Bundle Jvm.Pilot.@@N@@.Jvm.D
section Own
variable {p : Program} {l : Launch} {e : Env} {R : Room} {s : State} {m : MethodId} {args : Array Value} {below : List Frame} {meth : Method} {c : Code} {T : State} {locs : List Loc} {cells slots : Nat}
def Go (p : Program) (e : Env) (below : List Frame) (F : State → Outcome → Prop) (t : State) : Prop := ∃ s₂ o, Steps p.tables e below t s₂ ∧ F s₂ o
theorem Go.via {F : State → Outcome → Prop} {a b : State} (h : ∀ t, Steps p.tables e below b t → Steps p.tables e below a t) (g : Go p e below F b) : Go p e below F a := by
  obtain ⟨s₂, o, k, f⟩ := g
  exact ⟨s₂, o, h _ k, f⟩
theorem Go.tr {F : State → Outcome → Prop} {a b : State} (h : Steps p.tables e below a b) (g : Go p e below F b) : Go p e below F a := by
  obtain ⟨s₂, o, k, f⟩ := g
  exact ⟨s₂, o, h.trans k, f⟩
def FinE (s : State) (below : List Frame) (Q : Option Value → Heap → List Loc → Prop) (C S : Nat) (s₂ : State) (o : Outcome) : Prop := s₂.status = .running ∧ Ended s₂ below o ∧ ∃ v L, o = .returned v ∧ Q v s₂.heap L ∧ FrameEnd s o s₂ L C S
variable {Q : Option Value → Heap → List Loc → Prop} {C S : Nat}
theorem own_retN (X : Stand p l e R s m args below meth c T locs cells slots) (hx : p.tables.exec = Jvm.exec) (hlk : meth.locks = false) {pc : Nat} {Ls : Array Slot} {z : Int32} {t : FieldType} {rest : List Value} (hret : meth.sig.returnType = some t) (ht : t = .boolean ∨ t = .byte ∨ t = .char ∨ t = .short)
    (hd : decode c.code pc = .ok (.ireturn, 1)) (hQ : Q (some (.int (nar t z))) T.heap locs) (hc : cells ≤ C) (hs : slots ≤ S) : Go p e below (FinE s below Q C S) (T.setTop (mkF m pc Ls (.int z :: rest))) := by
  obtain ⟨fs, hr, hrun, hended, hW, hsame⟩ := X.leave (v := some (.int (nar t z))) (fun h => by rw [hret] at h; cases h) hlk
  exact ⟨_, _, retN X hx hret ht hd hr, hrun, hended, _, _, rfl, hQ, ⟨_, rfl⟩, hW, hsame.mono hc hs⟩
theorem own_retI (X : Stand p l e R s m args below meth c T locs cells slots) (hx : p.tables.exec = Jvm.exec) (hlk : meth.locks = false) {pc : Nat} {Ls : Array Slot} {z : Int32} {rest : List Value} (hret : meth.sig.returnType = some .int)
    (hd : decode c.code pc = .ok (.ireturn, 1)) (hQ : Q (some (.int z)) T.heap locs) (hc : cells ≤ C) (hs : slots ≤ S) : Go p e below (FinE s below Q C S) (T.setTop (mkF m pc Ls (.int z :: rest))) := by
  obtain ⟨fs, hr, hrun, hended, hW, hsame⟩ := X.leave (v := some (.int z)) (fun h => by rw [hret] at h; cases h) hlk
  refine ⟨T.setFrames fs, _, ?_, hrun, hended, _, _, rfl, hQ, ⟨_, rfl⟩, hW, hsame.mono hc hs⟩
  have hm' : T.vm.method? m = some meth := X.method'
  have hn : narrow .int (.int z) = .int z := rfl
  show Steps p.tables e below (T.setTop { method := m, pc := pc, locals := Ls, stack := _ :: rest, locked := none }) _
  jvm_step X.here [X.here.top, hx, hd, hm', hret, hn]
  first | (intro acts; rw [hr _ acts rfl rfl rfl]) | rw [hr _ _ rfl rfl rfl]
  exact Steps.refl _
theorem own_retA (X : Stand p l e R s m args below meth c T locs cells slots) (hx : p.tables.exec = Jvm.exec) (hlk : meth.locks = false) {pc : Nat} {Ls : Array Slot} {v : Value} {rest : List Value} {t : FieldType} (hret : meth.sig.returnType = some t) (ht : t.isReference = true) (hv : v.isRef = true)
    (hd : decode c.code pc = .ok (.areturn, 1)) (hQ : Q (some v) T.heap locs) (hc : cells ≤ C) (hs : slots ≤ S) : Go p e below (FinE s below Q C S) (T.setTop (mkF m pc Ls (v :: rest))) := by
  obtain ⟨fs, hr, hrun, hended, hW, hsame⟩ := X.leave (v := some v) (fun h => by rw [hret] at h; cases h) hlk
  refine ⟨T.setFrames fs, _, ?_, hrun, hended, _, _, rfl, hQ, ⟨_, rfl⟩, hW, hsame.mono hc hs⟩
  have hm' : T.vm.method? m = some meth := X.method'
  show Steps p.tables e below (T.setTop { method := m, pc := pc, locals := Ls, stack := _ :: rest, locked := none }) _
  jvm_step X.here [X.here.top, hx, hd, hm', hret, hv, ht]
  first | (intro acts; rw [hr _ acts rfl rfl rfl]) | rw [hr _ _ rfl rfl rfl]
  exact Steps.refl _
theorem own_retV (X : Stand p l e R s m args below meth c T locs cells slots) (hx : p.tables.exec = Jvm.exec) (hlk : meth.locks = false) {pc : Nat} {Ls : Array Slot} (hret : meth.sig.returnType = none)
    (hd : decode c.code pc = .ok (.return_, 1)) (hQ : Q none T.heap locs) (hc : cells ≤ C) (hs : slots ≤ S) : Go p e below (FinE s below Q C S) (T.setTop (mkF m pc Ls [])) := by
  obtain ⟨fs, hr, hrun, hended, hW, hsame⟩ := X.leave (v := none) (fun _ => rfl) hlk
  exact ⟨T.setFrames fs, _, X.returnOut hx hret hd hr, hrun, hended, _, _, rfl, hQ, ⟨_, rfl⟩, hW, hsame.mono hc hs⟩
end Own
theorem d1_0 : decode prog_10_method_4_code 0 = .ok (.iload_n 0, 1) := by decide +kernel
theorem d1_1 : decode prog_10_method_4_code 1 = .ok (.ifCond .eq 14, 3) := by decide +kernel
theorem d1_15 : decode prog_10_method_4_code 15 = .ok (.iload_n 0, 1) := by decide +kernel
theorem d1_16 : decode prog_10_method_4_code 16 = .ok (.ifCond .eq 10, 3) := by decide +kernel
theorem d1_26 : decode prog_10_method_4_code 26 = .ok (.iload_n 1, 1) := by decide +kernel
theorem d1_27 : decode prog_10_method_4_code 27 = .ok (.ifCond .eq 10, 3) := by decide +kernel
theorem d1_37 : decode prog_10_method_4_code 37 = .ok (.getstatic 13, 3) := by decide +kernel
theorem d1_40 : decode prog_10_method_4_code 40 = .ok (.astore_n 2, 1) := by decide +kernel
theorem d1_41 : decode prog_10_method_4_code 41 = .ok (.aload_n 2, 1) := by decide +kernel
theorem d1_42 : decode prog_10_method_4_code 42 = .ok (.areturn, 1) := by decide +kernel
theorem pn_com_example_pinakes_pinakes_model_CompletionStatus : plainName "com/example/pinakes/pinakes/model/CompletionStatus" = true := by first | (simp [plainName, overriddenIn]; done) | decide +kernel
theorem d1_30 : decode prog_10_method_4_code 30 = .ok (.getstatic 7, 3) := by decide +kernel
theorem d1_33 : decode prog_10_method_4_code 33 = .ok (.astore_n 2, 1) := by decide +kernel
theorem d1_34 : decode prog_10_method_4_code 34 = .ok (.goto 7, 3) := by decide +kernel
theorem d1_4 : decode prog_10_method_4_code 4 = .ok (.iload_n 1, 1) := by decide +kernel
theorem d1_5 : decode prog_10_method_4_code 5 = .ok (.ifCond .eq 10, 3) := by decide +kernel
theorem d1_19 : decode prog_10_method_4_code 19 = .ok (.getstatic 10, 3) := by decide +kernel
theorem d1_22 : decode prog_10_method_4_code 22 = .ok (.astore_n 2, 1) := by decide +kernel
theorem d1_23 : decode prog_10_method_4_code 23 = .ok (.goto 18, 3) := by decide +kernel
theorem d1_8 : decode prog_10_method_4_code 8 = .ok (.getstatic 3, 3) := by decide +kernel
theorem d1_11 : decode prog_10_method_4_code 11 = .ok (.astore_n 2, 1) := by decide +kernel
theorem d1_12 : decode prog_10_method_4_code 12 = .ok (.goto 29, 3) := by decide +kernel
theorem pd_0 : parseMethodDescriptor "(ZZ)Lcom/example/pinakes/pinakes/model/CompletionStatus;" = some ⟨[.boolean, .boolean], some (.object "com/example/pinakes/pinakes/model/CompletionStatus")⟩ := by decide +kernel
theorem pn_com_example_pinakes_pinakes_model_CompletionStatusOfPinLaw : plainName "com/example/pinakes/pinakes/model/CompletionStatusOfPinLaw" = true := by first | (simp [plainName, overriddenIn]; done) | decide +kernel
theorem ef_rm1_00 (m : MethodId)  : entryFrame m #[(.int (0 : Int32)), (.int (0 : Int32))] 3 = mkF m 0 #[.val (.int (0 : Int32)), .val (.int (0 : Int32)), .unset] [] := by first | (simp [entryFrame, mkF, argsToLocals, Value.category]; done) | rfl
def Q1_00 (Z : State) (w_COMPLETE : Addr) (w_FROM_KEY_INCOMPLETE : Addr) (w_TO_KEY_INCOMPLETE : Addr) (w_BOTH_INCOMPLETE : Addr) (h0 : Heap) (n0 : Nat) (v : Option Value) (h : Heap) (L : List Loc) : Prop := v = some (.ref w_BOTH_INCOMPLETE) ∧ Fr n0 L ∧ h = h0
set_option maxRecDepth 65536 in
set_option maxHeartbeats 40000000 in
theorem rm1_00 (l : Launch) (Z : State) (a0 : Array Value) (hw : ∀ d ∈ tables_1, d.before a0 Z = true) (ws : List Jvm.Cond) (w_COMPLETE : Addr) (w_FROM_KEY_INCOMPLETE : Addr) (w_TO_KEY_INCOMPLETE : Addr) (w_BOTH_INCOMPLETE : Addr) (h0 : Heap) (n0 : Nat) (Z0 : n0 ≤ h0.size) (O0 : Old Z n0 h0) (S_COMPLETE : Sta Z Z.heap "com/example/pinakes/pinakes/model/CompletionStatus" "COMPLETE" "Lcom/example/pinakes/pinakes/model/CompletionStatus;" (.ref w_COMPLETE)) (S_FROM_KEY_INCOMPLETE : Sta Z Z.heap "com/example/pinakes/pinakes/model/CompletionStatus" "FROM_KEY_INCOMPLETE" "Lcom/example/pinakes/pinakes/model/CompletionStatus;" (.ref w_FROM_KEY_INCOMPLETE)) (S_TO_KEY_INCOMPLETE : Sta Z Z.heap "com/example/pinakes/pinakes/model/CompletionStatus" "TO_KEY_INCOMPLETE" "Lcom/example/pinakes/pinakes/model/CompletionStatus;" (.ref w_TO_KEY_INCOMPLETE)) (S_BOTH_INCOMPLETE : Sta Z Z.heap "com/example/pinakes/pinakes/model/CompletionStatus" "BOTH_INCOMPLETE" "Lcom/example/pinakes/pinakes/model/CompletionStatus;" (.ref w_BOTH_INCOMPLETE)) :
    MetFree l (⟨"com/example/pinakes/pinakes/model/CompletionStatus", "of", "(ZZ)Lcom/example/pinakes/pinakes/model/CompletionStatus;"⟩ : MethodName) (head1 (Jvm.Cond.code (⟨"com/example/pinakes/pinakes/model/CompletionStatus", "of", "(ZZ)Lcom/example/pinakes/pinakes/model/CompletionStatus;"⟩ : MethodName) prog_10_method_4_code 3 (some (.object "com/example/pinakes/pinakes/model/CompletionStatus")) :: ws) ({ frames := 0, cells := 0, slots := 0, locals := 0 } : Room)) (fun a U => a = #[(.int (0 : Int32)), (.int (0 : Int32))] ∧ Z.Warmed39 U.vm ∧ U.heap = h0) (fun _ _ _ _ _ => True) (fun _ U o U' => ∃ v L, o = .returned v ∧ Q1_00 Z w_COMPLETE w_FROM_KEY_INCOMPLETE w_TO_KEY_INCOMPLETE w_BOTH_INCOMPLETE h0 n0 v U'.heap L ∧ FrameEnd U o U' L ({ frames := 0, cells := 0, slots := 0, locals := 0 } : Room).cells ({ frames := 0, cells := 0, slots := 0, locals := 0 } : Room).slots) := by
  refine MetFree.of_bodySF (plainFor_of_name pn_com_example_pinakes_pinakes_model_CompletionStatus) hisR ?_
  intro p e s m args below meth c s₁ Bd hml0 hP hK
  obtain ⟨rfl, hZ, hh⟩ := hP
  have hx := Bd.exec
  have hby := Bd.bytes
  have hlk : meth.locks = false := Bd.notSynchronized
  have hml : c.maxLocals = 3 := hml0
  have hown : s.vm.findClass "com/example/pinakes/pinakes/model/CompletionStatus" = some m.cls := findClass_of_methodNamed Bd.named
  have hnm := (name_of_methodNamed Bd.named Bd.method).1
  have X0 : Stand p l e ({ frames := 0, cells := 0, slots := 0, locals := 0 } : Room) s m #[(.int (0 : Int32)), (.int (0 : Int32))] below meth c s₁ [] 0 0 := Stand.of_body Bd
  have e0 : s₁.heap = h0 := by rw [← hh, Bd.state]; rfl
  have N0 := Fr.nil n0
  show Go p e below (FinE s below (Q1_00 Z w_COMPLETE w_FROM_KEY_INCOMPLETE w_TO_KEY_INCOMPLETE w_BOTH_INCOMPLETE h0 n0) ({ frames := 0, cells := 0, slots := 0, locals := 0 } : Room).cells ({ frames := 0, cells := 0, slots := 0, locals := 0 } : Room).slots) (s₁.setTop (entryFrame m #[(.int (0 : Int32)), (.int (0 : Int32))] 3))
  refine Go.via (fun t k => castTop (ef_rm1_00 m ) k) ?_
  show Go p e below _ (s₁.setTop (mkF m 0 #[.val (.int (0 : Int32)), .val (.int (0 : Int32)), .unset] []))
  refine Go.via (fun _ => XS.iloadN X0.here hx rfl (hb hby d1_0) rfl) ?_
  show Go p e below _ (s₁.setTop (mkF m 1 #[.val (.int (0 : Int32)), .val (.int (0 : Int32)), .unset] [(.int (0 : Int32))]))
  refine Go.via (fun _ => XS.ifYes X0.here hx rfl (pc0 := 1) (pc' := 15) rfl (hb hby d1_1) rfl (by decide) (by decide) (by decide)) ?_
  show Go p e below _ (s₁.setTop (mkF m 15 #[.val (.int (0 : Int32)), .val (.int (0 : Int32)), .unset] []))
  refine Go.via (fun _ => XS.iloadN X0.here hx rfl (hb hby d1_15) rfl) ?_
  show Go p e below _ (s₁.setTop (mkF m 16 #[.val (.int (0 : Int32)), .val (.int (0 : Int32)), .unset] [(.int (0 : Int32))]))
  refine Go.via (fun _ => XS.ifYes X0.here hx rfl (pc0 := 16) (pc' := 26) rfl (hb hby d1_16) rfl (by decide) (by decide) (by decide)) ?_
  show Go p e below _ (s₁.setTop (mkF m 26 #[.val (.int (0 : Int32)), .val (.int (0 : Int32)), .unset] []))
  refine Go.via (fun _ => XS.iloadN X0.here hx rfl (hb hby d1_26) rfl) ?_
  show Go p e below _ (s₁.setTop (mkF m 27 #[.val (.int (0 : Int32)), .val (.int (0 : Int32)), .unset] [(.int (0 : Int32))]))
  refine Go.via (fun _ => XS.ifYes X0.here hx rfl (pc0 := 27) (pc' := 37) rfl (hb hby d1_27) rfl (by decide) (by decide) (by decide)) ?_
  show Go p e below _ (s₁.setTop (mkF m 37 #[.val (.int (0 : Int32)), .val (.int (0 : Int32)), .unset] []))
  obtain ⟨T1, X1, e1, st1⟩ := getS2 X0 hx hZ hown (host := "") (Or.inl (hw _ (List.mem_of_getElem? (i := 13) rfl))) Via.refl e0 (S_BOTH_INCOMPLETE.ext O0.2) (g := (mkF m 37 #[.val (.int (0 : Int32)), .val (.int (0 : Int32)), .unset] [])) rfl (hb hby d1_37)
  refine Go.via st1 ?_
  show Go p e below _ (T1.setTop (mkF m 40 #[.val (.int (0 : Int32)), .val (.int (0 : Int32)), .unset] [(.ref w_BOTH_INCOMPLETE)]))
  refine Go.via (fun _ => XS.astoreN X1.here hx rfl (hb hby d1_40) rfl rfl (l' := #[.val (.int (0 : Int32)), .val (.int (0 : Int32)), .val (.ref w_BOTH_INCOMPLETE)]) rfl) ?_
  show Go p e below _ (T1.setTop (mkF m 41 #[.val (.int (0 : Int32)), .val (.int (0 : Int32)), .val (.ref w_BOTH_INCOMPLETE)] []))
  refine Go.via (fun _ => XS.aloadN X1.here hx rfl (hb hby d1_41) rfl rfl) ?_
  show Go p e below _ (T1.setTop (mkF m 42 #[.val (.int (0 : Int32)), .val (.int (0 : Int32)), .val (.ref w_BOTH_INCOMPLETE)] [(.ref w_BOTH_INCOMPLETE)]))
  exact own_retA X1 hx hlk Bd.returns rfl rfl (hb hby d1_42) (by show Q1_00 Z w_COMPLETE w_FROM_KEY_INCOMPLETE w_TO_KEY_INCOMPLETE w_BOTH_INCOMPLETE h0 n0 _ T1.heap _; rw [e1]; exact ⟨rfl, N0, rfl⟩) (by decide) (by decide)
theorem ef_rm1_01 (m : MethodId)  : entryFrame m #[(.int (0 : Int32)), (.int (1 : Int32))] 3 = mkF m 0 #[.val (.int (0 : Int32)), .val (.int (1 : Int32)), .unset] [] := by first | (simp [entryFrame, mkF, argsToLocals, Value.category]; done) | rfl
def Q1_01 (Z : State) (w_COMPLETE : Addr) (w_FROM_KEY_INCOMPLETE : Addr) (w_TO_KEY_INCOMPLETE : Addr) (w_BOTH_INCOMPLETE : Addr) (h0 : Heap) (n0 : Nat) (v : Option Value) (h : Heap) (L : List Loc) : Prop := v = some (.ref w_FROM_KEY_INCOMPLETE) ∧ Fr n0 L ∧ h = h0
set_option maxRecDepth 65536 in
set_option maxHeartbeats 40000000 in
theorem rm1_01 (l : Launch) (Z : State) (a0 : Array Value) (hw : ∀ d ∈ tables_1, d.before a0 Z = true) (ws : List Jvm.Cond) (w_COMPLETE : Addr) (w_FROM_KEY_INCOMPLETE : Addr) (w_TO_KEY_INCOMPLETE : Addr) (w_BOTH_INCOMPLETE : Addr) (h0 : Heap) (n0 : Nat) (Z0 : n0 ≤ h0.size) (O0 : Old Z n0 h0) (S_COMPLETE : Sta Z Z.heap "com/example/pinakes/pinakes/model/CompletionStatus" "COMPLETE" "Lcom/example/pinakes/pinakes/model/CompletionStatus;" (.ref w_COMPLETE)) (S_FROM_KEY_INCOMPLETE : Sta Z Z.heap "com/example/pinakes/pinakes/model/CompletionStatus" "FROM_KEY_INCOMPLETE" "Lcom/example/pinakes/pinakes/model/CompletionStatus;" (.ref w_FROM_KEY_INCOMPLETE)) (S_TO_KEY_INCOMPLETE : Sta Z Z.heap "com/example/pinakes/pinakes/model/CompletionStatus" "TO_KEY_INCOMPLETE" "Lcom/example/pinakes/pinakes/model/CompletionStatus;" (.ref w_TO_KEY_INCOMPLETE)) (S_BOTH_INCOMPLETE : Sta Z Z.heap "com/example/pinakes/pinakes/model/CompletionStatus" "BOTH_INCOMPLETE" "Lcom/example/pinakes/pinakes/model/CompletionStatus;" (.ref w_BOTH_INCOMPLETE)) :
    MetFree l (⟨"com/example/pinakes/pinakes/model/CompletionStatus", "of", "(ZZ)Lcom/example/pinakes/pinakes/model/CompletionStatus;"⟩ : MethodName) (head1 (Jvm.Cond.code (⟨"com/example/pinakes/pinakes/model/CompletionStatus", "of", "(ZZ)Lcom/example/pinakes/pinakes/model/CompletionStatus;"⟩ : MethodName) prog_10_method_4_code 3 (some (.object "com/example/pinakes/pinakes/model/CompletionStatus")) :: ws) ({ frames := 0, cells := 0, slots := 0, locals := 0 } : Room)) (fun a U => a = #[(.int (0 : Int32)), (.int (1 : Int32))] ∧ Z.Warmed39 U.vm ∧ U.heap = h0) (fun _ _ _ _ _ => True) (fun _ U o U' => ∃ v L, o = .returned v ∧ Q1_01 Z w_COMPLETE w_FROM_KEY_INCOMPLETE w_TO_KEY_INCOMPLETE w_BOTH_INCOMPLETE h0 n0 v U'.heap L ∧ FrameEnd U o U' L ({ frames := 0, cells := 0, slots := 0, locals := 0 } : Room).cells ({ frames := 0, cells := 0, slots := 0, locals := 0 } : Room).slots) := by
  refine MetFree.of_bodySF (plainFor_of_name pn_com_example_pinakes_pinakes_model_CompletionStatus) hisR ?_
  intro p e s m args below meth c s₁ Bd hml0 hP hK
  obtain ⟨rfl, hZ, hh⟩ := hP
  have hx := Bd.exec
  have hby := Bd.bytes
  have hlk : meth.locks = false := Bd.notSynchronized
  have hml : c.maxLocals = 3 := hml0
  have hown : s.vm.findClass "com/example/pinakes/pinakes/model/CompletionStatus" = some m.cls := findClass_of_methodNamed Bd.named
  have hnm := (name_of_methodNamed Bd.named Bd.method).1
  have X0 : Stand p l e ({ frames := 0, cells := 0, slots := 0, locals := 0 } : Room) s m #[(.int (0 : Int32)), (.int (1 : Int32))] below meth c s₁ [] 0 0 := Stand.of_body Bd
  have e0 : s₁.heap = h0 := by rw [← hh, Bd.state]; rfl
  have N0 := Fr.nil n0
  show Go p e below (FinE s below (Q1_01 Z w_COMPLETE w_FROM_KEY_INCOMPLETE w_TO_KEY_INCOMPLETE w_BOTH_INCOMPLETE h0 n0) ({ frames := 0, cells := 0, slots := 0, locals := 0 } : Room).cells ({ frames := 0, cells := 0, slots := 0, locals := 0 } : Room).slots) (s₁.setTop (entryFrame m #[(.int (0 : Int32)), (.int (1 : Int32))] 3))
  refine Go.via (fun t k => castTop (ef_rm1_01 m ) k) ?_
  show Go p e below _ (s₁.setTop (mkF m 0 #[.val (.int (0 : Int32)), .val (.int (1 : Int32)), .unset] []))
  refine Go.via (fun _ => XS.iloadN X0.here hx rfl (hb hby d1_0) rfl) ?_
  show Go p e below _ (s₁.setTop (mkF m 1 #[.val (.int (0 : Int32)), .val (.int (1 : Int32)), .unset] [(.int (0 : Int32))]))
  refine Go.via (fun _ => XS.ifYes X0.here hx rfl (pc0 := 1) (pc' := 15) rfl (hb hby d1_1) rfl (by decide) (by decide) (by decide)) ?_
  show Go p e below _ (s₁.setTop (mkF m 15 #[.val (.int (0 : Int32)), .val (.int (1 : Int32)), .unset] []))
  refine Go.via (fun _ => XS.iloadN X0.here hx rfl (hb hby d1_15) rfl) ?_
  show Go p e below _ (s₁.setTop (mkF m 16 #[.val (.int (0 : Int32)), .val (.int (1 : Int32)), .unset] [(.int (0 : Int32))]))
  refine Go.via (fun _ => XS.ifYes X0.here hx rfl (pc0 := 16) (pc' := 26) rfl (hb hby d1_16) rfl (by decide) (by decide) (by decide)) ?_
  show Go p e below _ (s₁.setTop (mkF m 26 #[.val (.int (0 : Int32)), .val (.int (1 : Int32)), .unset] []))
  refine Go.via (fun _ => XS.iloadN X0.here hx rfl (hb hby d1_26) rfl) ?_
  show Go p e below _ (s₁.setTop (mkF m 27 #[.val (.int (0 : Int32)), .val (.int (1 : Int32)), .unset] [(.int (1 : Int32))]))
  refine Go.via (fun _ => XS.ifNo X0.here hx rfl (hb hby d1_27) rfl (by decide)) ?_
  show Go p e below _ (s₁.setTop (mkF m 30 #[.val (.int (0 : Int32)), .val (.int (1 : Int32)), .unset] []))
  obtain ⟨T1, X1, e1, st1⟩ := getS2 X0 hx hZ hown (host := "") (Or.inl (hw _ (List.mem_of_getElem? (i := 4) rfl))) Via.refl e0 (S_FROM_KEY_INCOMPLETE.ext O0.2) (g := (mkF m 30 #[.val (.int (0 : Int32)), .val (.int (1 : Int32)), .unset] [])) rfl (hb hby d1_30)
  refine Go.via st1 ?_
  show Go p e below _ (T1.setTop (mkF m 33 #[.val (.int (0 : Int32)), .val (.int (1 : Int32)), .unset] [(.ref w_FROM_KEY_INCOMPLETE)]))
  refine Go.via (fun _ => XS.astoreN X1.here hx rfl (hb hby d1_33) rfl rfl (l' := #[.val (.int (0 : Int32)), .val (.int (1 : Int32)), .val (.ref w_FROM_KEY_INCOMPLETE)]) rfl) ?_
  show Go p e below _ (T1.setTop (mkF m 34 #[.val (.int (0 : Int32)), .val (.int (1 : Int32)), .val (.ref w_FROM_KEY_INCOMPLETE)] []))
  refine Go.via (fun _ => XS.goto X1.here hx rfl (pc0 := 34) (pc' := 41) rfl (hb hby d1_34) (by decide) (by decide)) ?_
  show Go p e below _ (T1.setTop (mkF m 41 #[.val (.int (0 : Int32)), .val (.int (1 : Int32)), .val (.ref w_FROM_KEY_INCOMPLETE)] []))
  refine Go.via (fun _ => XS.aloadN X1.here hx rfl (hb hby d1_41) rfl rfl) ?_
  show Go p e below _ (T1.setTop (mkF m 42 #[.val (.int (0 : Int32)), .val (.int (1 : Int32)), .val (.ref w_FROM_KEY_INCOMPLETE)] [(.ref w_FROM_KEY_INCOMPLETE)]))
  exact own_retA X1 hx hlk Bd.returns rfl rfl (hb hby d1_42) (by show Q1_01 Z w_COMPLETE w_FROM_KEY_INCOMPLETE w_TO_KEY_INCOMPLETE w_BOTH_INCOMPLETE h0 n0 _ T1.heap _; rw [e1]; exact ⟨rfl, N0, rfl⟩) (by decide) (by decide)
theorem ef_rm1_10 (m : MethodId)  : entryFrame m #[(.int (1 : Int32)), (.int (0 : Int32))] 3 = mkF m 0 #[.val (.int (1 : Int32)), .val (.int (0 : Int32)), .unset] [] := by first | (simp [entryFrame, mkF, argsToLocals, Value.category]; done) | rfl
def Q1_10 (Z : State) (w_COMPLETE : Addr) (w_FROM_KEY_INCOMPLETE : Addr) (w_TO_KEY_INCOMPLETE : Addr) (w_BOTH_INCOMPLETE : Addr) (h0 : Heap) (n0 : Nat) (v : Option Value) (h : Heap) (L : List Loc) : Prop := v = some (.ref w_TO_KEY_INCOMPLETE) ∧ Fr n0 L ∧ h = h0
set_option maxRecDepth 65536 in
set_option maxHeartbeats 40000000 in
theorem rm1_10 (l : Launch) (Z : State) (a0 : Array Value) (hw : ∀ d ∈ tables_1, d.before a0 Z = true) (ws : List Jvm.Cond) (w_COMPLETE : Addr) (w_FROM_KEY_INCOMPLETE : Addr) (w_TO_KEY_INCOMPLETE : Addr) (w_BOTH_INCOMPLETE : Addr) (h0 : Heap) (n0 : Nat) (Z0 : n0 ≤ h0.size) (O0 : Old Z n0 h0) (S_COMPLETE : Sta Z Z.heap "com/example/pinakes/pinakes/model/CompletionStatus" "COMPLETE" "Lcom/example/pinakes/pinakes/model/CompletionStatus;" (.ref w_COMPLETE)) (S_FROM_KEY_INCOMPLETE : Sta Z Z.heap "com/example/pinakes/pinakes/model/CompletionStatus" "FROM_KEY_INCOMPLETE" "Lcom/example/pinakes/pinakes/model/CompletionStatus;" (.ref w_FROM_KEY_INCOMPLETE)) (S_TO_KEY_INCOMPLETE : Sta Z Z.heap "com/example/pinakes/pinakes/model/CompletionStatus" "TO_KEY_INCOMPLETE" "Lcom/example/pinakes/pinakes/model/CompletionStatus;" (.ref w_TO_KEY_INCOMPLETE)) (S_BOTH_INCOMPLETE : Sta Z Z.heap "com/example/pinakes/pinakes/model/CompletionStatus" "BOTH_INCOMPLETE" "Lcom/example/pinakes/pinakes/model/CompletionStatus;" (.ref w_BOTH_INCOMPLETE)) :
    MetFree l (⟨"com/example/pinakes/pinakes/model/CompletionStatus", "of", "(ZZ)Lcom/example/pinakes/pinakes/model/CompletionStatus;"⟩ : MethodName) (head1 (Jvm.Cond.code (⟨"com/example/pinakes/pinakes/model/CompletionStatus", "of", "(ZZ)Lcom/example/pinakes/pinakes/model/CompletionStatus;"⟩ : MethodName) prog_10_method_4_code 3 (some (.object "com/example/pinakes/pinakes/model/CompletionStatus")) :: ws) ({ frames := 0, cells := 0, slots := 0, locals := 0 } : Room)) (fun a U => a = #[(.int (1 : Int32)), (.int (0 : Int32))] ∧ Z.Warmed39 U.vm ∧ U.heap = h0) (fun _ _ _ _ _ => True) (fun _ U o U' => ∃ v L, o = .returned v ∧ Q1_10 Z w_COMPLETE w_FROM_KEY_INCOMPLETE w_TO_KEY_INCOMPLETE w_BOTH_INCOMPLETE h0 n0 v U'.heap L ∧ FrameEnd U o U' L ({ frames := 0, cells := 0, slots := 0, locals := 0 } : Room).cells ({ frames := 0, cells := 0, slots := 0, locals := 0 } : Room).slots) := by
  refine MetFree.of_bodySF (plainFor_of_name pn_com_example_pinakes_pinakes_model_CompletionStatus) hisR ?_
  intro p e s m args below meth c s₁ Bd hml0 hP hK
  obtain ⟨rfl, hZ, hh⟩ := hP
  have hx := Bd.exec
  have hby := Bd.bytes
  have hlk : meth.locks = false := Bd.notSynchronized
  have hml : c.maxLocals = 3 := hml0
  have hown : s.vm.findClass "com/example/pinakes/pinakes/model/CompletionStatus" = some m.cls := findClass_of_methodNamed Bd.named
  have hnm := (name_of_methodNamed Bd.named Bd.method).1
  have X0 : Stand p l e ({ frames := 0, cells := 0, slots := 0, locals := 0 } : Room) s m #[(.int (1 : Int32)), (.int (0 : Int32))] below meth c s₁ [] 0 0 := Stand.of_body Bd
  have e0 : s₁.heap = h0 := by rw [← hh, Bd.state]; rfl
  have N0 := Fr.nil n0
  show Go p e below (FinE s below (Q1_10 Z w_COMPLETE w_FROM_KEY_INCOMPLETE w_TO_KEY_INCOMPLETE w_BOTH_INCOMPLETE h0 n0) ({ frames := 0, cells := 0, slots := 0, locals := 0 } : Room).cells ({ frames := 0, cells := 0, slots := 0, locals := 0 } : Room).slots) (s₁.setTop (entryFrame m #[(.int (1 : Int32)), (.int (0 : Int32))] 3))
  refine Go.via (fun t k => castTop (ef_rm1_10 m ) k) ?_
  show Go p e below _ (s₁.setTop (mkF m 0 #[.val (.int (1 : Int32)), .val (.int (0 : Int32)), .unset] []))
  refine Go.via (fun _ => XS.iloadN X0.here hx rfl (hb hby d1_0) rfl) ?_
  show Go p e below _ (s₁.setTop (mkF m 1 #[.val (.int (1 : Int32)), .val (.int (0 : Int32)), .unset] [(.int (1 : Int32))]))
  refine Go.via (fun _ => XS.ifNo X0.here hx rfl (hb hby d1_1) rfl (by decide)) ?_
  show Go p e below _ (s₁.setTop (mkF m 4 #[.val (.int (1 : Int32)), .val (.int (0 : Int32)), .unset] []))
  refine Go.via (fun _ => XS.iloadN X0.here hx rfl (hb hby d1_4) rfl) ?_
  show Go p e below _ (s₁.setTop (mkF m 5 #[.val (.int (1 : Int32)), .val (.int (0 : Int32)), .unset] [(.int (0 : Int32))]))
  refine Go.via (fun _ => XS.ifYes X0.here hx rfl (pc0 := 5) (pc' := 15) rfl (hb hby d1_5) rfl (by decide) (by decide) (by decide)) ?_
  show Go p e below _ (s₁.setTop (mkF m 15 #[.val (.int (1 : Int32)), .val (.int (0 : Int32)), .unset] []))
  refine Go.via (fun _ => XS.iloadN X0.here hx rfl (hb hby d1_15) rfl) ?_
  show Go p e below _ (s₁.setTop (mkF m 16 #[.val (.int (1 : Int32)), .val (.int (0 : Int32)), .unset] [(.int (1 : Int32))]))
  refine Go.via (fun _ => XS.ifNo X0.here hx rfl (hb hby d1_16) rfl (by decide)) ?_
  show Go p e below _ (s₁.setTop (mkF m 19 #[.val (.int (1 : Int32)), .val (.int (0 : Int32)), .unset] []))
  obtain ⟨T1, X1, e1, st1⟩ := getS2 X0 hx hZ hown (host := "") (Or.inl (hw _ (List.mem_of_getElem? (i := 15) rfl))) Via.refl e0 (S_TO_KEY_INCOMPLETE.ext O0.2) (g := (mkF m 19 #[.val (.int (1 : Int32)), .val (.int (0 : Int32)), .unset] [])) rfl (hb hby d1_19)
  refine Go.via st1 ?_
  show Go p e below _ (T1.setTop (mkF m 22 #[.val (.int (1 : Int32)), .val (.int (0 : Int32)), .unset] [(.ref w_TO_KEY_INCOMPLETE)]))
  refine Go.via (fun _ => XS.astoreN X1.here hx rfl (hb hby d1_22) rfl rfl (l' := #[.val (.int (1 : Int32)), .val (.int (0 : Int32)), .val (.ref w_TO_KEY_INCOMPLETE)]) rfl) ?_
  show Go p e below _ (T1.setTop (mkF m 23 #[.val (.int (1 : Int32)), .val (.int (0 : Int32)), .val (.ref w_TO_KEY_INCOMPLETE)] []))
  refine Go.via (fun _ => XS.goto X1.here hx rfl (pc0 := 23) (pc' := 41) rfl (hb hby d1_23) (by decide) (by decide)) ?_
  show Go p e below _ (T1.setTop (mkF m 41 #[.val (.int (1 : Int32)), .val (.int (0 : Int32)), .val (.ref w_TO_KEY_INCOMPLETE)] []))
  refine Go.via (fun _ => XS.aloadN X1.here hx rfl (hb hby d1_41) rfl rfl) ?_
  show Go p e below _ (T1.setTop (mkF m 42 #[.val (.int (1 : Int32)), .val (.int (0 : Int32)), .val (.ref w_TO_KEY_INCOMPLETE)] [(.ref w_TO_KEY_INCOMPLETE)]))
  exact own_retA X1 hx hlk Bd.returns rfl rfl (hb hby d1_42) (by show Q1_10 Z w_COMPLETE w_FROM_KEY_INCOMPLETE w_TO_KEY_INCOMPLETE w_BOTH_INCOMPLETE h0 n0 _ T1.heap _; rw [e1]; exact ⟨rfl, N0, rfl⟩) (by decide) (by decide)
theorem ef_rm1_11 (m : MethodId)  : entryFrame m #[(.int (1 : Int32)), (.int (1 : Int32))] 3 = mkF m 0 #[.val (.int (1 : Int32)), .val (.int (1 : Int32)), .unset] [] := by first | (simp [entryFrame, mkF, argsToLocals, Value.category]; done) | rfl
def Q1_11 (Z : State) (w_COMPLETE : Addr) (w_FROM_KEY_INCOMPLETE : Addr) (w_TO_KEY_INCOMPLETE : Addr) (w_BOTH_INCOMPLETE : Addr) (h0 : Heap) (n0 : Nat) (v : Option Value) (h : Heap) (L : List Loc) : Prop := v = some (.ref w_COMPLETE) ∧ Fr n0 L ∧ h = h0
set_option maxRecDepth 65536 in
set_option maxHeartbeats 40000000 in
theorem rm1_11 (l : Launch) (Z : State) (a0 : Array Value) (hw : ∀ d ∈ tables_1, d.before a0 Z = true) (ws : List Jvm.Cond) (w_COMPLETE : Addr) (w_FROM_KEY_INCOMPLETE : Addr) (w_TO_KEY_INCOMPLETE : Addr) (w_BOTH_INCOMPLETE : Addr) (h0 : Heap) (n0 : Nat) (Z0 : n0 ≤ h0.size) (O0 : Old Z n0 h0) (S_COMPLETE : Sta Z Z.heap "com/example/pinakes/pinakes/model/CompletionStatus" "COMPLETE" "Lcom/example/pinakes/pinakes/model/CompletionStatus;" (.ref w_COMPLETE)) (S_FROM_KEY_INCOMPLETE : Sta Z Z.heap "com/example/pinakes/pinakes/model/CompletionStatus" "FROM_KEY_INCOMPLETE" "Lcom/example/pinakes/pinakes/model/CompletionStatus;" (.ref w_FROM_KEY_INCOMPLETE)) (S_TO_KEY_INCOMPLETE : Sta Z Z.heap "com/example/pinakes/pinakes/model/CompletionStatus" "TO_KEY_INCOMPLETE" "Lcom/example/pinakes/pinakes/model/CompletionStatus;" (.ref w_TO_KEY_INCOMPLETE)) (S_BOTH_INCOMPLETE : Sta Z Z.heap "com/example/pinakes/pinakes/model/CompletionStatus" "BOTH_INCOMPLETE" "Lcom/example/pinakes/pinakes/model/CompletionStatus;" (.ref w_BOTH_INCOMPLETE)) :
    MetFree l (⟨"com/example/pinakes/pinakes/model/CompletionStatus", "of", "(ZZ)Lcom/example/pinakes/pinakes/model/CompletionStatus;"⟩ : MethodName) (head1 (Jvm.Cond.code (⟨"com/example/pinakes/pinakes/model/CompletionStatus", "of", "(ZZ)Lcom/example/pinakes/pinakes/model/CompletionStatus;"⟩ : MethodName) prog_10_method_4_code 3 (some (.object "com/example/pinakes/pinakes/model/CompletionStatus")) :: ws) ({ frames := 0, cells := 0, slots := 0, locals := 0 } : Room)) (fun a U => a = #[(.int (1 : Int32)), (.int (1 : Int32))] ∧ Z.Warmed39 U.vm ∧ U.heap = h0) (fun _ _ _ _ _ => True) (fun _ U o U' => ∃ v L, o = .returned v ∧ Q1_11 Z w_COMPLETE w_FROM_KEY_INCOMPLETE w_TO_KEY_INCOMPLETE w_BOTH_INCOMPLETE h0 n0 v U'.heap L ∧ FrameEnd U o U' L ({ frames := 0, cells := 0, slots := 0, locals := 0 } : Room).cells ({ frames := 0, cells := 0, slots := 0, locals := 0 } : Room).slots) := by
  refine MetFree.of_bodySF (plainFor_of_name pn_com_example_pinakes_pinakes_model_CompletionStatus) hisR ?_
  intro p e s m args below meth c s₁ Bd hml0 hP hK
  obtain ⟨rfl, hZ, hh⟩ := hP
  have hx := Bd.exec
  have hby := Bd.bytes
  have hlk : meth.locks = false := Bd.notSynchronized
  have hml : c.maxLocals = 3 := hml0
  have hown : s.vm.findClass "com/example/pinakes/pinakes/model/CompletionStatus" = some m.cls := findClass_of_methodNamed Bd.named
  have hnm := (name_of_methodNamed Bd.named Bd.method).1
  have X0 : Stand p l e ({ frames := 0, cells := 0, slots := 0, locals := 0 } : Room) s m #[(.int (1 : Int32)), (.int (1 : Int32))] below meth c s₁ [] 0 0 := Stand.of_body Bd
  have e0 : s₁.heap = h0 := by rw [← hh, Bd.state]; rfl
  have N0 := Fr.nil n0
  show Go p e below (FinE s below (Q1_11 Z w_COMPLETE w_FROM_KEY_INCOMPLETE w_TO_KEY_INCOMPLETE w_BOTH_INCOMPLETE h0 n0) ({ frames := 0, cells := 0, slots := 0, locals := 0 } : Room).cells ({ frames := 0, cells := 0, slots := 0, locals := 0 } : Room).slots) (s₁.setTop (entryFrame m #[(.int (1 : Int32)), (.int (1 : Int32))] 3))
  refine Go.via (fun t k => castTop (ef_rm1_11 m ) k) ?_
  show Go p e below _ (s₁.setTop (mkF m 0 #[.val (.int (1 : Int32)), .val (.int (1 : Int32)), .unset] []))
  refine Go.via (fun _ => XS.iloadN X0.here hx rfl (hb hby d1_0) rfl) ?_
  show Go p e below _ (s₁.setTop (mkF m 1 #[.val (.int (1 : Int32)), .val (.int (1 : Int32)), .unset] [(.int (1 : Int32))]))
  refine Go.via (fun _ => XS.ifNo X0.here hx rfl (hb hby d1_1) rfl (by decide)) ?_
  show Go p e below _ (s₁.setTop (mkF m 4 #[.val (.int (1 : Int32)), .val (.int (1 : Int32)), .unset] []))
  refine Go.via (fun _ => XS.iloadN X0.here hx rfl (hb hby d1_4) rfl) ?_
  show Go p e below _ (s₁.setTop (mkF m 5 #[.val (.int (1 : Int32)), .val (.int (1 : Int32)), .unset] [(.int (1 : Int32))]))
  refine Go.via (fun _ => XS.ifNo X0.here hx rfl (hb hby d1_5) rfl (by decide)) ?_
  show Go p e below _ (s₁.setTop (mkF m 8 #[.val (.int (1 : Int32)), .val (.int (1 : Int32)), .unset] []))
  obtain ⟨T1, X1, e1, st1⟩ := getS2 X0 hx hZ hown (host := "") (Or.inl (hw _ (List.mem_of_getElem? (i := 14) rfl))) Via.refl e0 (S_COMPLETE.ext O0.2) (g := (mkF m 8 #[.val (.int (1 : Int32)), .val (.int (1 : Int32)), .unset] [])) rfl (hb hby d1_8)
  refine Go.via st1 ?_
  show Go p e below _ (T1.setTop (mkF m 11 #[.val (.int (1 : Int32)), .val (.int (1 : Int32)), .unset] [(.ref w_COMPLETE)]))
  refine Go.via (fun _ => XS.astoreN X1.here hx rfl (hb hby d1_11) rfl rfl (l' := #[.val (.int (1 : Int32)), .val (.int (1 : Int32)), .val (.ref w_COMPLETE)]) rfl) ?_
  show Go p e below _ (T1.setTop (mkF m 12 #[.val (.int (1 : Int32)), .val (.int (1 : Int32)), .val (.ref w_COMPLETE)] []))
  refine Go.via (fun _ => XS.goto X1.here hx rfl (pc0 := 12) (pc' := 41) rfl (hb hby d1_12) (by decide) (by decide)) ?_
  show Go p e below _ (T1.setTop (mkF m 41 #[.val (.int (1 : Int32)), .val (.int (1 : Int32)), .val (.ref w_COMPLETE)] []))
  refine Go.via (fun _ => XS.aloadN X1.here hx rfl (hb hby d1_41) rfl rfl) ?_
  show Go p e below _ (T1.setTop (mkF m 42 #[.val (.int (1 : Int32)), .val (.int (1 : Int32)), .val (.ref w_COMPLETE)] [(.ref w_COMPLETE)]))
  exact own_retA X1 hx hlk Bd.returns rfl rfl (hb hby d1_42) (by show Q1_11 Z w_COMPLETE w_FROM_KEY_INCOMPLETE w_TO_KEY_INCOMPLETE w_BOTH_INCOMPLETE h0 n0 _ T1.heap _; rw [e1]; exact ⟨rfl, N0, rfl⟩) (by decide) (by decide)
theorem ef_rm0 (m : MethodId) (x0 : Int32) (x1 : Int32) : entryFrame m #[(.int x0), (.int x1)] maxLocals = mkF m 0 #[.val (.int x0), .val (.int x1), .unset, .unset, .unset, .unset, .unset, .unset, .unset, .unset, .unset] [] := by first | (simp [entryFrame, mkF, argsToLocals, Value.category, maxLocals]; done) | rfl
def Q0 (Z : State) (p1 : Int32) (p2 : Int32) (w_COMPLETE : Addr) (w_FROM_KEY_INCOMPLETE : Addr) (w_TO_KEY_INCOMPLETE : Addr) (w_BOTH_INCOMPLETE : Addr) (h0 : Heap) (n0 : Nat) (v : Option Value) (h : Heap) (L : List Loc) : Prop := v = some (.int 1) ∧ Fr n0 L
set_option maxRecDepth 65536 in
set_option maxHeartbeats 40000000 in
theorem rm0 (l : Launch) (Z : State) (a0 : Array Value) (hw : ∀ d ∈ tables_1, d.before a0 Z = true) (ws : List Jvm.Cond) (p1 : Int32) (p2 : Int32) (w_COMPLETE : Addr) (w_FROM_KEY_INCOMPLETE : Addr) (w_TO_KEY_INCOMPLETE : Addr) (w_BOTH_INCOMPLETE : Addr) (h0 : Heap) (n0 : Nat) (Z0 : n0 ≤ h0.size) (O0 : Old Z n0 h0) (S_COMPLETE : Sta Z Z.heap "com/example/pinakes/pinakes/model/CompletionStatus" "COMPLETE" "Lcom/example/pinakes/pinakes/model/CompletionStatus;" (.ref w_COMPLETE)) (S_FROM_KEY_INCOMPLETE : Sta Z Z.heap "com/example/pinakes/pinakes/model/CompletionStatus" "FROM_KEY_INCOMPLETE" "Lcom/example/pinakes/pinakes/model/CompletionStatus;" (.ref w_FROM_KEY_INCOMPLETE)) (S_TO_KEY_INCOMPLETE : Sta Z Z.heap "com/example/pinakes/pinakes/model/CompletionStatus" "TO_KEY_INCOMPLETE" "Lcom/example/pinakes/pinakes/model/CompletionStatus;" (.ref w_TO_KEY_INCOMPLETE)) (S_BOTH_INCOMPLETE : Sta Z Z.heap "com/example/pinakes/pinakes/model/CompletionStatus" "BOTH_INCOMPLETE" "Lcom/example/pinakes/pinakes/model/CompletionStatus;" (.ref w_BOTH_INCOMPLETE)) (ne_COMPLETE_FROM_KEY_INCOMPLETE : w_COMPLETE ≠ w_FROM_KEY_INCOMPLETE) (ne_COMPLETE_TO_KEY_INCOMPLETE : w_COMPLETE ≠ w_TO_KEY_INCOMPLETE) (ne_COMPLETE_BOTH_INCOMPLETE : w_COMPLETE ≠ w_BOTH_INCOMPLETE) (ne_FROM_KEY_INCOMPLETE_TO_KEY_INCOMPLETE : w_FROM_KEY_INCOMPLETE ≠ w_TO_KEY_INCOMPLETE) (ne_FROM_KEY_INCOMPLETE_BOTH_INCOMPLETE : w_FROM_KEY_INCOMPLETE ≠ w_BOTH_INCOMPLETE) (ne_TO_KEY_INCOMPLETE_BOTH_INCOMPLETE : w_TO_KEY_INCOMPLETE ≠ w_BOTH_INCOMPLETE) :
    MetFree l x (head1 (Jvm.Cond.code x code maxLocals ret :: ws) room_1) (fun a U => a = #[(.int p1), (.int p2)] ∧ Z.Warmed39 U.vm ∧ U.heap = h0) (fun _ _ _ _ _ => True) (fun _ U o U' => ∃ v L, o = .returned v ∧ Q0 Z p1 p2 w_COMPLETE w_FROM_KEY_INCOMPLETE w_TO_KEY_INCOMPLETE w_BOTH_INCOMPLETE h0 n0 v U'.heap L ∧ FrameEnd U o U' L room_1.cells room_1.slots) := by
  refine MetFree.of_bodySF (plainFor_of_name pn_com_example_pinakes_pinakes_model_CompletionStatusOfPinLaw) hisR ?_
  intro p e s m args below meth c s₁ Bd hml0 hP hK
  obtain ⟨rfl, hZ, hh⟩ := hP
  have hx := Bd.exec
  have hby := Bd.bytes
  have hlk : meth.locks = false := Bd.notSynchronized
  have hml : c.maxLocals = 11 := hml0
  have hown : s.vm.findClass "com/example/pinakes/pinakes/model/CompletionStatusOfPinLaw" = some m.cls := findClass_of_methodNamed Bd.named
  have hnm := (name_of_methodNamed Bd.named Bd.method).1
  have X0 : Stand p l e room_1 s m #[(.int p1), (.int p2)] below meth c s₁ [] 0 0 := Stand.of_body Bd
  have e0 : s₁.heap = h0 := by rw [← hh, Bd.state]; rfl
  have N0 := Fr.nil n0
  show Go p e below (FinE s below (Q0 Z p1 p2 w_COMPLETE w_FROM_KEY_INCOMPLETE w_TO_KEY_INCOMPLETE w_BOTH_INCOMPLETE h0 n0) room_1.cells room_1.slots) (s₁.setTop (entryFrame m #[(.int p1), (.int p2)] maxLocals))
  refine Go.via (fun t k => castTop (ef_rm0 m p1 p2) k) ?_
  show Go p e below _ (s₁.setTop (mkF m 0 #[.val (.int p1), .val (.int p2), .unset, .unset, .unset, .unset, .unset, .unset, .unset, .unset, .unset] []))
  refine Go.via (fun _ => XS.iloadN X0.here hx rfl (hb hby at_0) rfl) ?_
  show Go p e below _ (s₁.setTop (mkF m 1 #[.val (.int p1), .val (.int p2), .unset, .unset, .unset, .unset, .unset, .unset, .unset, .unset, .unset] [(.int p1)]))
  refine Go.via (fun _ => XS.iconst X0.here hx rfl (hb hby at_1)) ?_
  show Go p e below _ (s₁.setTop (mkF m 2 #[.val (.int p1), .val (.int p2), .unset, .unset, .unset, .unset, .unset, .unset, .unset, .unset, .unset] [(.int (1 : Int32)), (.int p1)]))
  refine Go.via (fun _ => XS.iand X0.here hx rfl (hb hby at_2) rfl) ?_
  show Go p e below _ (s₁.setTop (mkF m 3 #[.val (.int p1), .val (.int p2), .unset, .unset, .unset, .unset, .unset, .unset, .unset, .unset, .unset] [(.int (p1 &&& (1 : Int32)))]))
  by_cases hc1 : (p1 &&& (1 : Int32)) = (0 : Int32)
  · -- yes
    show Go p e below _ (s₁.setTop (mkF m 3 #[.val (.int p1), .val (.int p2), .unset, .unset, .unset, .unset, .unset, .unset, .unset, .unset, .unset] [(.int (p1 &&& (1 : Int32)))]))
    show Go p e below _ (s₁.setTop (mkF m 3 #[.val (.int p1), .val (.int p2), .unset, .unset, .unset, .unset, .unset, .unset, .unset, .unset, .unset] [(.int (p1 &&& (1 : Int32)))]))
    refine Go.via (fun _ => XS.ifYes X0.here hx rfl (pc0 := 3) (pc' := 10) rfl (hb hby at_3) rfl ((if0 _ _).trans (teq hc1).1) (by decide) (by decide)) ?_
    show Go p e below _ (s₁.setTop (mkF m 10 #[.val (.int p1), .val (.int p2), .unset, .unset, .unset, .unset, .unset, .unset, .unset, .unset, .unset] []))
    refine Go.via (fun _ => XS.iconst X0.here hx rfl (hb hby at_10)) ?_
    show Go p e below _ (s₁.setTop (mkF m 11 #[.val (.int p1), .val (.int p2), .unset, .unset, .unset, .unset, .unset, .unset, .unset, .unset, .unset] [(.int (0 : Int32))]))
    refine Go.via (fun _ => XS.istoreN X0.here hx rfl (hb hby at_11) rfl (l' := #[.val (.int p1), .val (.int p2), .val (.int (0 : Int32)), .unset, .unset, .unset, .unset, .unset, .unset, .unset, .unset]) rfl) ?_
    show Go p e below _ (s₁.setTop (mkF m 12 #[.val (.int p1), .val (.int p2), .val (.int (0 : Int32)), .unset, .unset, .unset, .unset, .unset, .unset, .unset, .unset] []))
    refine Go.via (fun _ => XS.iloadN X0.here hx rfl (hb hby at_12) rfl) ?_
    show Go p e below _ (s₁.setTop (mkF m 13 #[.val (.int p1), .val (.int p2), .val (.int (0 : Int32)), .unset, .unset, .unset, .unset, .unset, .unset, .unset, .unset] [(.int p2)]))
    refine Go.via (fun _ => XS.iconst X0.here hx rfl (hb hby at_13)) ?_
    show Go p e below _ (s₁.setTop (mkF m 14 #[.val (.int p1), .val (.int p2), .val (.int (0 : Int32)), .unset, .unset, .unset, .unset, .unset, .unset, .unset, .unset] [(.int (1 : Int32)), (.int p2)]))
    refine Go.via (fun _ => XS.iand X0.here hx rfl (hb hby at_14) rfl) ?_
    show Go p e below _ (s₁.setTop (mkF m 15 #[.val (.int p1), .val (.int p2), .val (.int (0 : Int32)), .unset, .unset, .unset, .unset, .unset, .unset, .unset, .unset] [(.int (p2 &&& (1 : Int32)))]))
    by_cases hc2 : (p2 &&& (1 : Int32)) = (0 : Int32)
    · -- yes
      show Go p e below _ (s₁.setTop (mkF m 15 #[.val (.int p1), .val (.int p2), .val (.int (0 : Int32)), .unset, .unset, .unset, .unset, .unset, .unset, .unset, .unset] [(.int (p2 &&& (1 : Int32)))]))
      show Go p e below _ (s₁.setTop (mkF m 15 #[.val (.int p1), .val (.int p2), .val (.int (0 : Int32)), .unset, .unset, .unset, .unset, .unset, .unset, .unset, .unset] [(.int (p2 &&& (1 : Int32)))]))
      refine Go.via (fun _ => XS.ifYes X0.here hx rfl (pc0 := 15) (pc' := 22) rfl (hb hby at_15) rfl ((if0 _ _).trans (teq hc2).1) (by decide) (by decide)) ?_
      show Go p e below _ (s₁.setTop (mkF m 22 #[.val (.int p1), .val (.int p2), .val (.int (0 : Int32)), .unset, .unset, .unset, .unset, .unset, .unset, .unset, .unset] []))
      refine Go.via (fun _ => XS.iconst X0.here hx rfl (hb hby at_22)) ?_
      show Go p e below _ (s₁.setTop (mkF m 23 #[.val (.int p1), .val (.int p2), .val (.int (0 : Int32)), .unset, .unset, .unset, .unset, .unset, .unset, .unset, .unset] [(.int (0 : Int32))]))
      refine Go.via (fun _ => XS.istoreN X0.here hx rfl (hb hby at_23) rfl (l' := #[.val (.int p1), .val (.int p2), .val (.int (0 : Int32)), .val (.int (0 : Int32)), .unset, .unset, .unset, .unset, .unset, .unset, .unset]) rfl) ?_
      show Go p e below _ (s₁.setTop (mkF m 24 #[.val (.int p1), .val (.int p2), .val (.int (0 : Int32)), .val (.int (0 : Int32)), .unset, .unset, .unset, .unset, .unset, .unset, .unset] []))
      refine Go.via (fun _ => XS.iloadN X0.here hx rfl (hb hby at_24) rfl) ?_
      show Go p e below _ (s₁.setTop (mkF m 25 #[.val (.int p1), .val (.int p2), .val (.int (0 : Int32)), .val (.int (0 : Int32)), .unset, .unset, .unset, .unset, .unset, .unset, .unset] [(.int (0 : Int32))]))
      refine Go.via (fun _ => XS.iloadN X0.here hx rfl (hb hby at_25) rfl) ?_
      show Go p e below _ (s₁.setTop (mkF m 26 #[.val (.int p1), .val (.int p2), .val (.int (0 : Int32)), .val (.int (0 : Int32)), .unset, .unset, .unset, .unset, .unset, .unset, .unset] [(.int (0 : Int32)), (.int (0 : Int32))]))
      obtain ⟨_, _, ⟨T3, L3, k3, n3⟩, -, X3, ⟨Lc3, hQ3, l3, y3, z3⟩, st3⟩ := Jvm.LawKit.callS X0 hx (y := (⟨"com/example/pinakes/pinakes/model/CompletionStatus", "of", "(ZZ)Lcom/example/pinakes/pinakes/model/CompletionStatus;"⟩ : MethodName)) hown (mvT hZ (hw _ (List.mem_of_getElem? (i := 0) rfl))) (mvT hZ (hw _ (List.mem_of_getElem? (i := 1) rfl))) (mvT hZ (hw _ (List.mem_of_getElem? (i := 2) rfl))) (mvT hZ (hw _ (List.mem_of_getElem? (i := 3) rfl))) (by decide) (backOf (W := 0) (rm1_00 l Z a0 hw [] w_COMPLETE w_FROM_KEY_INCOMPLETE w_TO_KEY_INCOMPLETE w_BOTH_INCOMPLETE h0 n0 Z0 O0 S_COMPLETE S_FROM_KEY_INCOMPLETE S_TO_KEY_INCOMPLETE S_BOTH_INCOMPLETE) hZ (hw _ (List.mem_of_getElem? (i := 3) rfl)) (hw _ (List.mem_of_getElem? (i := 2) rfl)) (by decide) (by decide)) (g := (mkF m 26 #[.val (.int p1), .val (.int p2), .val (.int (0 : Int32)), .val (.int (0 : Int32)), .unset, .unset, .unset, .unset, .unset, .unset, .unset] [(.int (0 : Int32)), (.int (0 : Int32))])) rfl (by rw [hml]; rfl) (argsL := [(.int (0 : Int32)), (.int (0 : Int32))]) (rest := []) (lenOf pd_0 rfl) rfl (by show 2 * 0 + _ ≤ _; exact Nat.le_of_eq rfl) (hb hby at_26) (fun _ _ => ⟨rfl, e0, (by decide : 0 + 0 ≤ _), (by decide : 0 + 0 ≤ _)⟩)
      dsimp only [Pt.U, Pt.locs, Pt.cells, Pt.slots] at X3 l3 y3 z3 st3 hQ3
      subst l3 y3 z3
      obtain ⟨rfl, N3q, e3q⟩ := hQ3
      have N3 := Fr.app N0 N3q
      refine Go.via st3 ?_
      show Go p e below _ (T3.setTop (mkF m 29 #[.val (.int p1), .val (.int p2), .val (.int (0 : Int32)), .val (.int (0 : Int32)), .unset, .unset, .unset, .unset, .unset, .unset, .unset] [(.ref w_BOTH_INCOMPLETE)]))
      refine Go.via (fun _ => XS.astore X3.here hx rfl (hb hby at_29) rfl rfl (l' := #[.val (.int p1), .val (.int p2), .val (.int (0 : Int32)), .val (.int (0 : Int32)), .val (.ref w_BOTH_INCOMPLETE), .unset, .unset, .unset, .unset, .unset, .unset]) rfl) ?_
      show Go p e below _ (T3.setTop (mkF m 31 #[.val (.int p1), .val (.int p2), .val (.int (0 : Int32)), .val (.int (0 : Int32)), .val (.ref w_BOTH_INCOMPLETE), .unset, .unset, .unset, .unset, .unset, .unset] []))
      refine Go.via (fun _ => XS.aload X3.here hx rfl (hb hby at_31) rfl rfl) ?_
      show Go p e below _ (T3.setTop (mkF m 33 #[.val (.int p1), .val (.int p2), .val (.int (0 : Int32)), .val (.int (0 : Int32)), .val (.ref w_BOTH_INCOMPLETE), .unset, .unset, .unset, .unset, .unset, .unset] [(.ref w_BOTH_INCOMPLETE)]))
      refine Go.via (fun _ => XS.ifnonnullYes X3.here hx rfl (pc0 := 33) (pc' := 38) rfl (hb hby at_33) rfl (by decide) (by decide)) ?_
      show Go p e below _ (T3.setTop (mkF m 38 #[.val (.int p1), .val (.int p2), .val (.int (0 : Int32)), .val (.int (0 : Int32)), .val (.ref w_BOTH_INCOMPLETE), .unset, .unset, .unset, .unset, .unset, .unset] []))
      refine Go.via (fun _ => XS.iloadN X3.here hx rfl (hb hby at_38) rfl) ?_
      show Go p e below _ (T3.setTop (mkF m 39 #[.val (.int p1), .val (.int p2), .val (.int (0 : Int32)), .val (.int (0 : Int32)), .val (.ref w_BOTH_INCOMPLETE), .unset, .unset, .unset, .unset, .unset, .unset] [(.int (0 : Int32))]))
      refine Go.via (fun _ => XS.ifNo X3.here hx rfl (hb hby at_39) rfl (by decide)) ?_
      show Go p e below _ (T3.setTop (mkF m 42 #[.val (.int p1), .val (.int p2), .val (.int (0 : Int32)), .val (.int (0 : Int32)), .val (.ref w_BOTH_INCOMPLETE), .unset, .unset, .unset, .unset, .unset, .unset] []))
      refine Go.via (fun _ => XS.iconst X3.here hx rfl (hb hby at_42)) ?_
      show Go p e below _ (T3.setTop (mkF m 43 #[.val (.int p1), .val (.int p2), .val (.int (0 : Int32)), .val (.int (0 : Int32)), .val (.ref w_BOTH_INCOMPLETE), .unset, .unset, .unset, .unset, .unset, .unset] [(.int (1 : Int32))]))
      refine Go.via (fun _ => XS.goto X3.here hx rfl (pc0 := 43) (pc' := 47) rfl (hb hby at_43) (by decide) (by decide)) ?_
      show Go p e below _ (T3.setTop (mkF m 47 #[.val (.int p1), .val (.int p2), .val (.int (0 : Int32)), .val (.int (0 : Int32)), .val (.ref w_BOTH_INCOMPLETE), .unset, .unset, .unset, .unset, .unset, .unset] [(.int (1 : Int32))]))
      refine Go.via (fun _ => XS.istore X3.here hx rfl (hb hby at_47) rfl (l' := #[.val (.int p1), .val (.int p2), .val (.int (0 : Int32)), .val (.int (0 : Int32)), .val (.ref w_BOTH_INCOMPLETE), .val (.int (1 : Int32)), .unset, .unset, .unset, .unset, .unset]) rfl) ?_
      show Go p e below _ (T3.setTop (mkF m 49 #[.val (.int p1), .val (.int p2), .val (.int (0 : Int32)), .val (.int (0 : Int32)), .val (.ref w_BOTH_INCOMPLETE), .val (.int (1 : Int32)), .unset, .unset, .unset, .unset, .unset] []))
      refine Go.via (fun _ => XS.iloadN X3.here hx rfl (hb hby at_49) rfl) ?_
      show Go p e below _ (T3.setTop (mkF m 50 #[.val (.int p1), .val (.int p2), .val (.int (0 : Int32)), .val (.int (0 : Int32)), .val (.ref w_BOTH_INCOMPLETE), .val (.int (1 : Int32)), .unset, .unset, .unset, .unset, .unset] [(.int (0 : Int32))]))
      refine Go.via (fun _ => XS.ifNo X3.here hx rfl (hb hby at_50) rfl (by decide)) ?_
      show Go p e below _ (T3.setTop (mkF m 53 #[.val (.int p1), .val (.int p2), .val (.int (0 : Int32)), .val (.int (0 : Int32)), .val (.ref w_BOTH_INCOMPLETE), .val (.int (1 : Int32)), .unset, .unset, .unset, .unset, .unset] []))
      refine Go.via (fun _ => XS.iconst X3.here hx rfl (hb hby at_53)) ?_
      show Go p e below _ (T3.setTop (mkF m 54 #[.val (.int p1), .val (.int p2), .val (.int (0 : Int32)), .val (.int (0 : Int32)), .val (.ref w_BOTH_INCOMPLETE), .val (.int (1 : Int32)), .unset, .unset, .unset, .unset, .unset] [(.int (1 : Int32))]))
      refine Go.via (fun _ => XS.goto X3.here hx rfl (pc0 := 54) (pc' := 58) rfl (hb hby at_54) (by decide) (by decide)) ?_
      show Go p e below _ (T3.setTop (mkF m 58 #[.val (.int p1), .val (.int p2), .val (.int (0 : Int32)), .val (.int (0 : Int32)), .val (.ref w_BOTH_INCOMPLETE), .val (.int (1 : Int32)), .unset, .unset, .unset, .unset, .unset] [(.int (1 : Int32))]))
      refine Go.via (fun _ => XS.istore X3.here hx rfl (hb hby at_58) rfl (l' := #[.val (.int p1), .val (.int p2), .val (.int (0 : Int32)), .val (.int (0 : Int32)), .val (.ref w_BOTH_INCOMPLETE), .val (.int (1 : Int32)), .val (.int (1 : Int32)), .unset, .unset, .unset, .unset]) rfl) ?_
      show Go p e below _ (T3.setTop (mkF m 60 #[.val (.int p1), .val (.int p2), .val (.int (0 : Int32)), .val (.int (0 : Int32)), .val (.ref w_BOTH_INCOMPLETE), .val (.int (1 : Int32)), .val (.int (1 : Int32)), .unset, .unset, .unset, .unset] []))
      refine Go.via (fun _ => XS.aload X3.here hx rfl (hb hby at_60) rfl rfl) ?_
      show Go p e below _ (T3.setTop (mkF m 62 #[.val (.int p1), .val (.int p2), .val (.int (0 : Int32)), .val (.int (0 : Int32)), .val (.ref w_BOTH_INCOMPLETE), .val (.int (1 : Int32)), .val (.int (1 : Int32)), .unset, .unset, .unset, .unset] [(.ref w_BOTH_INCOMPLETE)]))
      obtain ⟨T4, X4, e4, st4⟩ := getS2 X3 hx hZ hown (host := "") (Or.inl (hw _ (List.mem_of_getElem? (i := 6) rfl))) Via.refl e3q (S_COMPLETE.ext O0.2) (g := (mkF m 62 #[.val (.int p1), .val (.int p2), .val (.int (0 : Int32)), .val (.int (0 : Int32)), .val (.ref w_BOTH_INCOMPLETE), .val (.int (1 : Int32)), .val (.int (1 : Int32)), .unset, .unset, .unset, .unset] [(.ref w_BOTH_INCOMPLETE)])) rfl (hb hby at_62)
      refine Go.via st4 ?_
      show Go p e below _ (T4.setTop (mkF m 65 #[.val (.int p1), .val (.int p2), .val (.int (0 : Int32)), .val (.int (0 : Int32)), .val (.ref w_BOTH_INCOMPLETE), .val (.int (1 : Int32)), .val (.int (1 : Int32)), .unset, .unset, .unset, .unset] [(.ref w_COMPLETE), (.ref w_BOTH_INCOMPLETE)]))
      refine Go.via (fun _ => Jvm.RoadKit.acmp (g := (mkF m 65 #[.val (.int p1), .val (.int p2), .val (.int (0 : Int32)), .val (.int (0 : Int32)), .val (.ref w_BOTH_INCOMPLETE), .val (.int (1 : Int32)), .val (.int (1 : Int32)), .unset, .unset, .unset, .unset] [(.ref w_COMPLETE), (.ref w_BOTH_INCOMPLETE)])) X4 hx rfl rfl rfl (pc0 := 65) (pc' := 72) (same := false) rfl (hb hby at_65) rfl (decide_eq_false fun q => (Ne.symm ne_COMPLETE_BOTH_INCOMPLETE) (Value.ref.inj q)) (by decide) (by decide)) ?_
      show Go p e below _ (T4.setTop (mkF m 72 #[.val (.int p1), .val (.int p2), .val (.int (0 : Int32)), .val (.int (0 : Int32)), .val (.ref w_BOTH_INCOMPLETE), .val (.int (1 : Int32)), .val (.int (1 : Int32)), .unset, .unset, .unset, .unset] []))
      refine Go.via (fun _ => XS.iconst X4.here hx rfl (hb hby at_72)) ?_
      show Go p e below _ (T4.setTop (mkF m 73 #[.val (.int p1), .val (.int p2), .val (.int (0 : Int32)), .val (.int (0 : Int32)), .val (.ref w_BOTH_INCOMPLETE), .val (.int (1 : Int32)), .val (.int (1 : Int32)), .unset, .unset, .unset, .unset] [(.int (0 : Int32))]))
      refine Go.via (fun _ => XS.iload X4.here hx rfl (hb hby at_73) rfl) ?_
      show Go p e below _ (T4.setTop (mkF m 75 #[.val (.int p1), .val (.int p2), .val (.int (0 : Int32)), .val (.int (0 : Int32)), .val (.ref w_BOTH_INCOMPLETE), .val (.int (1 : Int32)), .val (.int (1 : Int32)), .unset, .unset, .unset, .unset] [(.int (1 : Int32)), (.int (0 : Int32))]))
      refine Go.via (fun _ => XS.ifYes X4.here hx rfl (pc0 := 75) (pc' := 87) rfl (hb hby at_75) rfl (by decide) (by decide) (by decide)) ?_
      show Go p e below _ (T4.setTop (mkF m 87 #[.val (.int p1), .val (.int p2), .val (.int (0 : Int32)), .val (.int (0 : Int32)), .val (.ref w_BOTH_INCOMPLETE), .val (.int (1 : Int32)), .val (.int (1 : Int32)), .unset, .unset, .unset, .unset] [(.int (0 : Int32))]))
      refine Go.via (fun _ => XS.iconst X4.here hx rfl (hb hby at_87)) ?_
      show Go p e below _ (T4.setTop (mkF m 88 #[.val (.int p1), .val (.int p2), .val (.int (0 : Int32)), .val (.int (0 : Int32)), .val (.ref w_BOTH_INCOMPLETE), .val (.int (1 : Int32)), .val (.int (1 : Int32)), .unset, .unset, .unset, .unset] [(.int (0 : Int32)), (.int (0 : Int32))]))
      refine Go.via (fun _ => XS.icmpNo X4.here hx rfl (hb hby at_88) rfl (by decide)) ?_
      show Go p e below _ (T4.setTop (mkF m 91 #[.val (.int p1), .val (.int p2), .val (.int (0 : Int32)), .val (.int (0 : Int32)), .val (.ref w_BOTH_INCOMPLETE), .val (.int (1 : Int32)), .val (.int (1 : Int32)), .unset, .unset, .unset, .unset] []))
      refine Go.via (fun _ => XS.iconst X4.here hx rfl (hb hby at_91)) ?_
      show Go p e below _ (T4.setTop (mkF m 92 #[.val (.int p1), .val (.int p2), .val (.int (0 : Int32)), .val (.int (0 : Int32)), .val (.ref w_BOTH_INCOMPLETE), .val (.int (1 : Int32)), .val (.int (1 : Int32)), .unset, .unset, .unset, .unset] [(.int (1 : Int32))]))
      refine Go.via (fun _ => XS.goto X4.here hx rfl (pc0 := 92) (pc' := 96) rfl (hb hby at_92) (by decide) (by decide)) ?_
      show Go p e below _ (T4.setTop (mkF m 96 #[.val (.int p1), .val (.int p2), .val (.int (0 : Int32)), .val (.int (0 : Int32)), .val (.ref w_BOTH_INCOMPLETE), .val (.int (1 : Int32)), .val (.int (1 : Int32)), .unset, .unset, .unset, .unset] [(.int (1 : Int32))]))
      refine Go.via (fun _ => XS.istore X4.here hx rfl (hb hby at_96) rfl (l' := #[.val (.int p1), .val (.int p2), .val (.int (0 : Int32)), .val (.int (0 : Int32)), .val (.ref w_BOTH_INCOMPLETE), .val (.int (1 : Int32)), .val (.int (1 : Int32)), .val (.int (1 : Int32)), .unset, .unset, .unset]) rfl) ?_
      show Go p e below _ (T4.setTop (mkF m 98 #[.val (.int p1), .val (.int p2), .val (.int (0 : Int32)), .val (.int (0 : Int32)), .val (.ref w_BOTH_INCOMPLETE), .val (.int (1 : Int32)), .val (.int (1 : Int32)), .val (.int (1 : Int32)), .unset, .unset, .unset] []))
      refine Go.via (fun _ => XS.aload X4.here hx rfl (hb hby at_98) rfl rfl) ?_
      show Go p e below _ (T4.setTop (mkF m 100 #[.val (.int p1), .val (.int p2), .val (.int (0 : Int32)), .val (.int (0 : Int32)), .val (.ref w_BOTH_INCOMPLETE), .val (.int (1 : Int32)), .val (.int (1 : Int32)), .val (.int (1 : Int32)), .unset, .unset, .unset] [(.ref w_BOTH_INCOMPLETE)]))
      obtain ⟨T5, X5, e5, st5⟩ := getS2 X4 hx hZ hown (host := "") (Or.inl (hw _ (List.mem_of_getElem? (i := 8) rfl))) Via.refl e4 (S_FROM_KEY_INCOMPLETE.ext O0.2) (g := (mkF m 100 #[.val (.int p1), .val (.int p2), .val (.int (0 : Int32)), .val (.int (0 : Int32)), .val (.ref w_BOTH_INCOMPLETE), .val (.int (1 : Int32)), .val (.int (1 : Int32)), .val (.int (1 : Int32)), .unset, .unset, .unset] [(.ref w_BOTH_INCOMPLETE)])) rfl (hb hby at_100)
      refine Go.via st5 ?_
      show Go p e below _ (T5.setTop (mkF m 103 #[.val (.int p1), .val (.int p2), .val (.int (0 : Int32)), .val (.int (0 : Int32)), .val (.ref w_BOTH_INCOMPLETE), .val (.int (1 : Int32)), .val (.int (1 : Int32)), .val (.int (1 : Int32)), .unset, .unset, .unset] [(.ref w_FROM_KEY_INCOMPLETE), (.ref w_BOTH_INCOMPLETE)]))
      refine Go.via (fun _ => Jvm.RoadKit.acmp (g := (mkF m 103 #[.val (.int p1), .val (.int p2), .val (.int (0 : Int32)), .val (.int (0 : Int32)), .val (.ref w_BOTH_INCOMPLETE), .val (.int (1 : Int32)), .val (.int (1 : Int32)), .val (.int (1 : Int32)), .unset, .unset, .unset] [(.ref w_FROM_KEY_INCOMPLETE), (.ref w_BOTH_INCOMPLETE)])) X5 hx rfl rfl rfl (pc0 := 103) (pc' := 110) (same := false) rfl (hb hby at_103) rfl (decide_eq_false fun q => (Ne.symm ne_FROM_KEY_INCOMPLETE_BOTH_INCOMPLETE) (Value.ref.inj q)) (by decide) (by decide)) ?_
      show Go p e below _ (T5.setTop (mkF m 110 #[.val (.int p1), .val (.int p2), .val (.int (0 : Int32)), .val (.int (0 : Int32)), .val (.ref w_BOTH_INCOMPLETE), .val (.int (1 : Int32)), .val (.int (1 : Int32)), .val (.int (1 : Int32)), .unset, .unset, .unset] []))
      refine Go.via (fun _ => XS.iconst X5.here hx rfl (hb hby at_110)) ?_
      show Go p e below _ (T5.setTop (mkF m 111 #[.val (.int p1), .val (.int p2), .val (.int (0 : Int32)), .val (.int (0 : Int32)), .val (.ref w_BOTH_INCOMPLETE), .val (.int (1 : Int32)), .val (.int (1 : Int32)), .val (.int (1 : Int32)), .unset, .unset, .unset] [(.int (0 : Int32))]))
      refine Go.via (fun _ => XS.iload X5.here hx rfl (hb hby at_111) rfl) ?_
      show Go p e below _ (T5.setTop (mkF m 113 #[.val (.int p1), .val (.int p2), .val (.int (0 : Int32)), .val (.int (0 : Int32)), .val (.ref w_BOTH_INCOMPLETE), .val (.int (1 : Int32)), .val (.int (1 : Int32)), .val (.int (1 : Int32)), .unset, .unset, .unset] [(.int (1 : Int32)), (.int (0 : Int32))]))
      refine Go.via (fun _ => XS.ifNo X5.here hx rfl (hb hby at_113) rfl (by decide)) ?_
      show Go p e below _ (T5.setTop (mkF m 116 #[.val (.int p1), .val (.int p2), .val (.int (0 : Int32)), .val (.int (0 : Int32)), .val (.ref w_BOTH_INCOMPLETE), .val (.int (1 : Int32)), .val (.int (1 : Int32)), .val (.int (1 : Int32)), .unset, .unset, .unset] [(.int (0 : Int32))]))
      refine Go.via (fun _ => XS.iload X5.here hx rfl (hb hby at_116) rfl) ?_
      show Go p e below _ (T5.setTop (mkF m 118 #[.val (.int p1), .val (.int p2), .val (.int (0 : Int32)), .val (.int (0 : Int32)), .val (.ref w_BOTH_INCOMPLETE), .val (.int (1 : Int32)), .val (.int (1 : Int32)), .val (.int (1 : Int32)), .unset, .unset, .unset] [(.int (1 : Int32)), (.int (0 : Int32))]))
      refine Go.via (fun _ => XS.ifYes X5.here hx rfl (pc0 := 118) (pc' := 125) rfl (hb hby at_118) rfl (by decide) (by decide) (by decide)) ?_
      show Go p e below _ (T5.setTop (mkF m 125 #[.val (.int p1), .val (.int p2), .val (.int (0 : Int32)), .val (.int (0 : Int32)), .val (.ref w_BOTH_INCOMPLETE), .val (.int (1 : Int32)), .val (.int (1 : Int32)), .val (.int (1 : Int32)), .unset, .unset, .unset] [(.int (0 : Int32))]))
      refine Go.via (fun _ => XS.iconst X5.here hx rfl (hb hby at_125)) ?_
      show Go p e below _ (T5.setTop (mkF m 126 #[.val (.int p1), .val (.int p2), .val (.int (0 : Int32)), .val (.int (0 : Int32)), .val (.ref w_BOTH_INCOMPLETE), .val (.int (1 : Int32)), .val (.int (1 : Int32)), .val (.int (1 : Int32)), .unset, .unset, .unset] [(.int (0 : Int32)), (.int (0 : Int32))]))
      refine Go.via (fun _ => XS.icmpNo X5.here hx rfl (hb hby at_126) rfl (by decide)) ?_
      show Go p e below _ (T5.setTop (mkF m 129 #[.val (.int p1), .val (.int p2), .val (.int (0 : Int32)), .val (.int (0 : Int32)), .val (.ref w_BOTH_INCOMPLETE), .val (.int (1 : Int32)), .val (.int (1 : Int32)), .val (.int (1 : Int32)), .unset, .unset, .unset] []))
      refine Go.via (fun _ => XS.iconst X5.here hx rfl (hb hby at_129)) ?_
      show Go p e below _ (T5.setTop (mkF m 130 #[.val (.int p1), .val (.int p2), .val (.int (0 : Int32)), .val (.int (0 : Int32)), .val (.ref w_BOTH_INCOMPLETE), .val (.int (1 : Int32)), .val (.int (1 : Int32)), .val (.int (1 : Int32)), .unset, .unset, .unset] [(.int (1 : Int32))]))
      refine Go.via (fun _ => XS.goto X5.here hx rfl (pc0 := 130) (pc' := 134) rfl (hb hby at_130) (by decide) (by decide)) ?_
      show Go p e below _ (T5.setTop (mkF m 134 #[.val (.int p1), .val (.int p2), .val (.int (0 : Int32)), .val (.int (0 : Int32)), .val (.ref w_BOTH_INCOMPLETE), .val (.int (1 : Int32)), .val (.int (1 : Int32)), .val (.int (1 : Int32)), .unset, .unset, .unset] [(.int (1 : Int32))]))
      refine Go.via (fun _ => XS.istore X5.here hx rfl (hb hby at_134) rfl (l' := #[.val (.int p1), .val (.int p2), .val (.int (0 : Int32)), .val (.int (0 : Int32)), .val (.ref w_BOTH_INCOMPLETE), .val (.int (1 : Int32)), .val (.int (1 : Int32)), .val (.int (1 : Int32)), .val (.int (1 : Int32)), .unset, .unset]) rfl) ?_
      show Go p e below _ (T5.setTop (mkF m 136 #[.val (.int p1), .val (.int p2), .val (.int (0 : Int32)), .val (.int (0 : Int32)), .val (.ref w_BOTH_INCOMPLETE), .val (.int (1 : Int32)), .val (.int (1 : Int32)), .val (.int (1 : Int32)), .val (.int (1 : Int32)), .unset, .unset] []))
      refine Go.via (fun _ => XS.aload X5.here hx rfl (hb hby at_136) rfl rfl) ?_
      show Go p e below _ (T5.setTop (mkF m 138 #[.val (.int p1), .val (.int p2), .val (.int (0 : Int32)), .val (.int (0 : Int32)), .val (.ref w_BOTH_INCOMPLETE), .val (.int (1 : Int32)), .val (.int (1 : Int32)), .val (.int (1 : Int32)), .val (.int (1 : Int32)), .unset, .unset] [(.ref w_BOTH_INCOMPLETE)]))
      obtain ⟨T6, X6, e6, st6⟩ := getS2 X5 hx hZ hown (host := "") (Or.inl (hw _ (List.mem_of_getElem? (i := 9) rfl))) Via.refl e5 (S_TO_KEY_INCOMPLETE.ext O0.2) (g := (mkF m 138 #[.val (.int p1), .val (.int p2), .val (.int (0 : Int32)), .val (.int (0 : Int32)), .val (.ref w_BOTH_INCOMPLETE), .val (.int (1 : Int32)), .val (.int (1 : Int32)), .val (.int (1 : Int32)), .val (.int (1 : Int32)), .unset, .unset] [(.ref w_BOTH_INCOMPLETE)])) rfl (hb hby at_138)
      refine Go.via st6 ?_
      show Go p e below _ (T6.setTop (mkF m 141 #[.val (.int p1), .val (.int p2), .val (.int (0 : Int32)), .val (.int (0 : Int32)), .val (.ref w_BOTH_INCOMPLETE), .val (.int (1 : Int32)), .val (.int (1 : Int32)), .val (.int (1 : Int32)), .val (.int (1 : Int32)), .unset, .unset] [(.ref w_TO_KEY_INCOMPLETE), (.ref w_BOTH_INCOMPLETE)]))
      refine Go.via (fun _ => Jvm.RoadKit.acmp (g := (mkF m 141 #[.val (.int p1), .val (.int p2), .val (.int (0 : Int32)), .val (.int (0 : Int32)), .val (.ref w_BOTH_INCOMPLETE), .val (.int (1 : Int32)), .val (.int (1 : Int32)), .val (.int (1 : Int32)), .val (.int (1 : Int32)), .unset, .unset] [(.ref w_TO_KEY_INCOMPLETE), (.ref w_BOTH_INCOMPLETE)])) X6 hx rfl rfl rfl (pc0 := 141) (pc' := 148) (same := false) rfl (hb hby at_141) rfl (decide_eq_false fun q => (Ne.symm ne_TO_KEY_INCOMPLETE_BOTH_INCOMPLETE) (Value.ref.inj q)) (by decide) (by decide)) ?_
      show Go p e below _ (T6.setTop (mkF m 148 #[.val (.int p1), .val (.int p2), .val (.int (0 : Int32)), .val (.int (0 : Int32)), .val (.ref w_BOTH_INCOMPLETE), .val (.int (1 : Int32)), .val (.int (1 : Int32)), .val (.int (1 : Int32)), .val (.int (1 : Int32)), .unset, .unset] []))
      refine Go.via (fun _ => XS.iconst X6.here hx rfl (hb hby at_148)) ?_
      show Go p e below _ (T6.setTop (mkF m 149 #[.val (.int p1), .val (.int p2), .val (.int (0 : Int32)), .val (.int (0 : Int32)), .val (.ref w_BOTH_INCOMPLETE), .val (.int (1 : Int32)), .val (.int (1 : Int32)), .val (.int (1 : Int32)), .val (.int (1 : Int32)), .unset, .unset] [(.int (0 : Int32))]))
      refine Go.via (fun _ => XS.iload X6.here hx rfl (hb hby at_149) rfl) ?_
      show Go p e below _ (T6.setTop (mkF m 151 #[.val (.int p1), .val (.int p2), .val (.int (0 : Int32)), .val (.int (0 : Int32)), .val (.ref w_BOTH_INCOMPLETE), .val (.int (1 : Int32)), .val (.int (1 : Int32)), .val (.int (1 : Int32)), .val (.int (1 : Int32)), .unset, .unset] [(.int (1 : Int32)), (.int (0 : Int32))]))
      refine Go.via (fun _ => XS.ifYes X6.here hx rfl (pc0 := 151) (pc' := 163) rfl (hb hby at_151) rfl (by decide) (by decide) (by decide)) ?_
      show Go p e below _ (T6.setTop (mkF m 163 #[.val (.int p1), .val (.int p2), .val (.int (0 : Int32)), .val (.int (0 : Int32)), .val (.ref w_BOTH_INCOMPLETE), .val (.int (1 : Int32)), .val (.int (1 : Int32)), .val (.int (1 : Int32)), .val (.int (1 : Int32)), .unset, .unset] [(.int (0 : Int32))]))
      refine Go.via (fun _ => XS.iconst X6.here hx rfl (hb hby at_163)) ?_
      show Go p e below _ (T6.setTop (mkF m 164 #[.val (.int p1), .val (.int p2), .val (.int (0 : Int32)), .val (.int (0 : Int32)), .val (.ref w_BOTH_INCOMPLETE), .val (.int (1 : Int32)), .val (.int (1 : Int32)), .val (.int (1 : Int32)), .val (.int (1 : Int32)), .unset, .unset] [(.int (0 : Int32)), (.int (0 : Int32))]))
      refine Go.via (fun _ => XS.icmpNo X6.here hx rfl (hb hby at_164) rfl (by decide)) ?_
      show Go p e below _ (T6.setTop (mkF m 167 #[.val (.int p1), .val (.int p2), .val (.int (0 : Int32)), .val (.int (0 : Int32)), .val (.ref w_BOTH_INCOMPLETE), .val (.int (1 : Int32)), .val (.int (1 : Int32)), .val (.int (1 : Int32)), .val (.int (1 : Int32)), .unset, .unset] []))
      refine Go.via (fun _ => XS.iconst X6.here hx rfl (hb hby at_167)) ?_
      show Go p e below _ (T6.setTop (mkF m 168 #[.val (.int p1), .val (.int p2), .val (.int (0 : Int32)), .val (.int (0 : Int32)), .val (.ref w_BOTH_INCOMPLETE), .val (.int (1 : Int32)), .val (.int (1 : Int32)), .val (.int (1 : Int32)), .val (.int (1 : Int32)), .unset, .unset] [(.int (1 : Int32))]))
      refine Go.via (fun _ => XS.goto X6.here hx rfl (pc0 := 168) (pc' := 172) rfl (hb hby at_168) (by decide) (by decide)) ?_
      show Go p e below _ (T6.setTop (mkF m 172 #[.val (.int p1), .val (.int p2), .val (.int (0 : Int32)), .val (.int (0 : Int32)), .val (.ref w_BOTH_INCOMPLETE), .val (.int (1 : Int32)), .val (.int (1 : Int32)), .val (.int (1 : Int32)), .val (.int (1 : Int32)), .unset, .unset] [(.int (1 : Int32))]))
      refine Go.via (fun _ => XS.istore X6.here hx rfl (hb hby at_172) rfl (l' := #[.val (.int p1), .val (.int p2), .val (.int (0 : Int32)), .val (.int (0 : Int32)), .val (.ref w_BOTH_INCOMPLETE), .val (.int (1 : Int32)), .val (.int (1 : Int32)), .val (.int (1 : Int32)), .val (.int (1 : Int32)), .val (.int (1 : Int32)), .unset]) rfl) ?_
      show Go p e below _ (T6.setTop (mkF m 174 #[.val (.int p1), .val (.int p2), .val (.int (0 : Int32)), .val (.int (0 : Int32)), .val (.ref w_BOTH_INCOMPLETE), .val (.int (1 : Int32)), .val (.int (1 : Int32)), .val (.int (1 : Int32)), .val (.int (1 : Int32)), .val (.int (1 : Int32)), .unset] []))
      refine Go.via (fun _ => XS.aload X6.here hx rfl (hb hby at_174) rfl rfl) ?_
      show Go p e below _ (T6.setTop (mkF m 176 #[.val (.int p1), .val (.int p2), .val (.int (0 : Int32)), .val (.int (0 : Int32)), .val (.ref w_BOTH_INCOMPLETE), .val (.int (1 : Int32)), .val (.int (1 : Int32)), .val (.int (1 : Int32)), .val (.int (1 : Int32)), .val (.int (1 : Int32)), .unset] [(.ref w_BOTH_INCOMPLETE)]))
      obtain ⟨T7, X7, e7, st7⟩ := getS2 X6 hx hZ hown (host := "") (Or.inl (hw _ (List.mem_of_getElem? (i := 11) rfl))) Via.refl e6 (S_BOTH_INCOMPLETE.ext O0.2) (g := (mkF m 176 #[.val (.int p1), .val (.int p2), .val (.int (0 : Int32)), .val (.int (0 : Int32)), .val (.ref w_BOTH_INCOMPLETE), .val (.int (1 : Int32)), .val (.int (1 : Int32)), .val (.int (1 : Int32)), .val (.int (1 : Int32)), .val (.int (1 : Int32)), .unset] [(.ref w_BOTH_INCOMPLETE)])) rfl (hb hby at_176)
      refine Go.via st7 ?_
      show Go p e below _ (T7.setTop (mkF m 179 #[.val (.int p1), .val (.int p2), .val (.int (0 : Int32)), .val (.int (0 : Int32)), .val (.ref w_BOTH_INCOMPLETE), .val (.int (1 : Int32)), .val (.int (1 : Int32)), .val (.int (1 : Int32)), .val (.int (1 : Int32)), .val (.int (1 : Int32)), .unset] [(.ref w_BOTH_INCOMPLETE), (.ref w_BOTH_INCOMPLETE)]))
      refine Go.via (fun _ => Jvm.RoadKit.acmp (g := (mkF m 179 #[.val (.int p1), .val (.int p2), .val (.int (0 : Int32)), .val (.int (0 : Int32)), .val (.ref w_BOTH_INCOMPLETE), .val (.int (1 : Int32)), .val (.int (1 : Int32)), .val (.int (1 : Int32)), .val (.int (1 : Int32)), .val (.int (1 : Int32)), .unset] [(.ref w_BOTH_INCOMPLETE), (.ref w_BOTH_INCOMPLETE)])) X7 hx rfl rfl rfl (pc0 := 179) (pc' := 182) (same := true) rfl (hb hby at_179) rfl (decide_eq_true rfl) (by decide) (by decide)) ?_
      show Go p e below _ (T7.setTop (mkF m 182 #[.val (.int p1), .val (.int p2), .val (.int (0 : Int32)), .val (.int (0 : Int32)), .val (.ref w_BOTH_INCOMPLETE), .val (.int (1 : Int32)), .val (.int (1 : Int32)), .val (.int (1 : Int32)), .val (.int (1 : Int32)), .val (.int (1 : Int32)), .unset] []))
      refine Go.via (fun _ => XS.iconst X7.here hx rfl (hb hby at_182)) ?_
      show Go p e below _ (T7.setTop (mkF m 183 #[.val (.int p1), .val (.int p2), .val (.int (0 : Int32)), .val (.int (0 : Int32)), .val (.ref w_BOTH_INCOMPLETE), .val (.int (1 : Int32)), .val (.int (1 : Int32)), .val (.int (1 : Int32)), .val (.int (1 : Int32)), .val (.int (1 : Int32)), .unset] [(.int (1 : Int32))]))
      refine Go.via (fun _ => XS.goto X7.here hx rfl (pc0 := 183) (pc' := 187) rfl (hb hby at_183) (by decide) (by decide)) ?_
      show Go p e below _ (T7.setTop (mkF m 187 #[.val (.int p1), .val (.int p2), .val (.int (0 : Int32)), .val (.int (0 : Int32)), .val (.ref w_BOTH_INCOMPLETE), .val (.int (1 : Int32)), .val (.int (1 : Int32)), .val (.int (1 : Int32)), .val (.int (1 : Int32)), .val (.int (1 : Int32)), .unset] [(.int (1 : Int32))]))
      refine Go.via (fun _ => XS.iload X7.here hx rfl (hb hby at_187) rfl) ?_
      show Go p e below _ (T7.setTop (mkF m 189 #[.val (.int p1), .val (.int p2), .val (.int (0 : Int32)), .val (.int (0 : Int32)), .val (.ref w_BOTH_INCOMPLETE), .val (.int (1 : Int32)), .val (.int (1 : Int32)), .val (.int (1 : Int32)), .val (.int (1 : Int32)), .val (.int (1 : Int32)), .unset] [(.int (1 : Int32)), (.int (1 : Int32))]))
      refine Go.via (fun _ => XS.ifNo X7.here hx rfl (hb hby at_189) rfl (by decide)) ?_
      show Go p e below _ (T7.setTop (mkF m 192 #[.val (.int p1), .val (.int p2), .val (.int (0 : Int32)), .val (.int (0 : Int32)), .val (.ref w_BOTH_INCOMPLETE), .val (.int (1 : Int32)), .val (.int (1 : Int32)), .val (.int (1 : Int32)), .val (.int (1 : Int32)), .val (.int (1 : Int32)), .unset] [(.int (1 : Int32))]))
      refine Go.via (fun _ => XS.iload X7.here hx rfl (hb hby at_192) rfl) ?_
      show Go p e below _ (T7.setTop (mkF m 194 #[.val (.int p1), .val (.int p2), .val (.int (0 : Int32)), .val (.int (0 : Int32)), .val (.ref w_BOTH_INCOMPLETE), .val (.int (1 : Int32)), .val (.int (1 : Int32)), .val (.int (1 : Int32)), .val (.int (1 : Int32)), .val (.int (1 : Int32)), .unset] [(.int (1 : Int32)), (.int (1 : Int32))]))
      refine Go.via (fun _ => XS.ifNo X7.here hx rfl (hb hby at_194) rfl (by decide)) ?_
      show Go p e below _ (T7.setTop (mkF m 197 #[.val (.int p1), .val (.int p2), .val (.int (0 : Int32)), .val (.int (0 : Int32)), .val (.ref w_BOTH_INCOMPLETE), .val (.int (1 : Int32)), .val (.int (1 : Int32)), .val (.int (1 : Int32)), .val (.int (1 : Int32)), .val (.int (1 : Int32)), .unset] [(.int (1 : Int32))]))
      refine Go.via (fun _ => XS.iconst X7.here hx rfl (hb hby at_197)) ?_
      show Go p e below _ (T7.setTop (mkF m 198 #[.val (.int p1), .val (.int p2), .val (.int (0 : Int32)), .val (.int (0 : Int32)), .val (.ref w_BOTH_INCOMPLETE), .val (.int (1 : Int32)), .val (.int (1 : Int32)), .val (.int (1 : Int32)), .val (.int (1 : Int32)), .val (.int (1 : Int32)), .unset] [(.int (1 : Int32)), (.int (1 : Int32))]))
      refine Go.via (fun _ => XS.goto X7.here hx rfl (pc0 := 198) (pc' := 202) rfl (hb hby at_198) (by decide) (by decide)) ?_
      show Go p e below _ (T7.setTop (mkF m 202 #[.val (.int p1), .val (.int p2), .val (.int (0 : Int32)), .val (.int (0 : Int32)), .val (.ref w_BOTH_INCOMPLETE), .val (.int (1 : Int32)), .val (.int (1 : Int32)), .val (.int (1 : Int32)), .val (.int (1 : Int32)), .val (.int (1 : Int32)), .unset] [(.int (1 : Int32)), (.int (1 : Int32))]))
      refine Go.via (fun _ => XS.icmpNo X7.here hx rfl (hb hby at_202) rfl (by decide)) ?_
      show Go p e below _ (T7.setTop (mkF m 205 #[.val (.int p1), .val (.int p2), .val (.int (0 : Int32)), .val (.int (0 : Int32)), .val (.ref w_BOTH_INCOMPLETE), .val (.int (1 : Int32)), .val (.int (1 : Int32)), .val (.int (1 : Int32)), .val (.int (1 : Int32)), .val (.int (1 : Int32)), .unset] []))
      refine Go.via (fun _ => XS.iconst X7.here hx rfl (hb hby at_205)) ?_
      show Go p e below _ (T7.setTop (mkF m 206 #[.val (.int p1), .val (.int p2), .val (.int (0 : Int32)), .val (.int (0 : Int32)), .val (.ref w_BOTH_INCOMPLETE), .val (.int (1 : Int32)), .val (.int (1 : Int32)), .val (.int (1 : Int32)), .val (.int (1 : Int32)), .val (.int (1 : Int32)), .unset] [(.int (1 : Int32))]))
      refine Go.via (fun _ => XS.goto X7.here hx rfl (pc0 := 206) (pc' := 210) rfl (hb hby at_206) (by decide) (by decide)) ?_
      show Go p e below _ (T7.setTop (mkF m 210 #[.val (.int p1), .val (.int p2), .val (.int (0 : Int32)), .val (.int (0 : Int32)), .val (.ref w_BOTH_INCOMPLETE), .val (.int (1 : Int32)), .val (.int (1 : Int32)), .val (.int (1 : Int32)), .val (.int (1 : Int32)), .val (.int (1 : Int32)), .unset] [(.int (1 : Int32))]))
      refine Go.via (fun _ => XS.istore X7.here hx rfl (hb hby at_210) rfl (l' := #[.val (.int p1), .val (.int p2), .val (.int (0 : Int32)), .val (.int (0 : Int32)), .val (.ref w_BOTH_INCOMPLETE), .val (.int (1 : Int32)), .val (.int (1 : Int32)), .val (.int (1 : Int32)), .val (.int (1 : Int32)), .val (.int (1 : Int32)), .val (.int (1 : Int32))]) rfl) ?_
      show Go p e below _ (T7.setTop (mkF m 212 #[.val (.int p1), .val (.int p2), .val (.int (0 : Int32)), .val (.int (0 : Int32)), .val (.ref w_BOTH_INCOMPLETE), .val (.int (1 : Int32)), .val (.int (1 : Int32)), .val (.int (1 : Int32)), .val (.int (1 : Int32)), .val (.int (1 : Int32)), .val (.int (1 : Int32))] []))
      refine Go.via (fun _ => XS.iload X7.here hx rfl (hb hby at_212) rfl) ?_
      show Go p e below _ (T7.setTop (mkF m 214 #[.val (.int p1), .val (.int p2), .val (.int (0 : Int32)), .val (.int (0 : Int32)), .val (.ref w_BOTH_INCOMPLETE), .val (.int (1 : Int32)), .val (.int (1 : Int32)), .val (.int (1 : Int32)), .val (.int (1 : Int32)), .val (.int (1 : Int32)), .val (.int (1 : Int32))] [(.int (1 : Int32))]))
      refine Go.via (fun _ => XS.ifNo X7.here hx rfl (hb hby at_214) rfl (by decide)) ?_
      show Go p e below _ (T7.setTop (mkF m 217 #[.val (.int p1), .val (.int p2), .val (.int (0 : Int32)), .val (.int (0 : Int32)), .val (.ref w_BOTH_INCOMPLETE), .val (.int (1 : Int32)), .val (.int (1 : Int32)), .val (.int (1 : Int32)), .val (.int (1 : Int32)), .val (.int (1 : Int32)), .val (.int (1 : Int32))] []))
      refine Go.via (fun _ => XS.iload X7.here hx rfl (hb hby at_217) rfl) ?_
      show Go p e below _ (T7.setTop (mkF m 219 #[.val (.int p1), .val (.int p2), .val (.int (0 : Int32)), .val (.int (0 : Int32)), .val (.ref w_BOTH_INCOMPLETE), .val (.int (1 : Int32)), .val (.int (1 : Int32)), .val (.int (1 : Int32)), .val (.int (1 : Int32)), .val (.int (1 : Int32)), .val (.int (1 : Int32))] [(.int (1 : Int32))]))
      refine Go.via (fun _ => XS.ifNo X7.here hx rfl (hb hby at_219) rfl (by decide)) ?_
      show Go p e below _ (T7.setTop (mkF m 222 #[.val (.int p1), .val (.int p2), .val (.int (0 : Int32)), .val (.int (0 : Int32)), .val (.ref w_BOTH_INCOMPLETE), .val (.int (1 : Int32)), .val (.int (1 : Int32)), .val (.int (1 : Int32)), .val (.int (1 : Int32)), .val (.int (1 : Int32)), .val (.int (1 : Int32))] []))
      refine Go.via (fun _ => XS.iload X7.here hx rfl (hb hby at_222) rfl) ?_
      show Go p e below _ (T7.setTop (mkF m 224 #[.val (.int p1), .val (.int p2), .val (.int (0 : Int32)), .val (.int (0 : Int32)), .val (.ref w_BOTH_INCOMPLETE), .val (.int (1 : Int32)), .val (.int (1 : Int32)), .val (.int (1 : Int32)), .val (.int (1 : Int32)), .val (.int (1 : Int32)), .val (.int (1 : Int32))] [(.int (1 : Int32))]))
      refine Go.via (fun _ => XS.ifNo X7.here hx rfl (hb hby at_224) rfl (by decide)) ?_
      show Go p e below _ (T7.setTop (mkF m 227 #[.val (.int p1), .val (.int p2), .val (.int (0 : Int32)), .val (.int (0 : Int32)), .val (.ref w_BOTH_INCOMPLETE), .val (.int (1 : Int32)), .val (.int (1 : Int32)), .val (.int (1 : Int32)), .val (.int (1 : Int32)), .val (.int (1 : Int32)), .val (.int (1 : Int32))] []))
      refine Go.via (fun _ => XS.iload X7.here hx rfl (hb hby at_227) rfl) ?_
      show Go p e below _ (T7.setTop (mkF m 229 #[.val (.int p1), .val (.int p2), .val (.int (0 : Int32)), .val (.int (0 : Int32)), .val (.ref w_BOTH_INCOMPLETE), .val (.int (1 : Int32)), .val (.int (1 : Int32)), .val (.int (1 : Int32)), .val (.int (1 : Int32)), .val (.int (1 : Int32)), .val (.int (1 : Int32))] [(.int (1 : Int32))]))
      refine Go.via (fun _ => XS.ifNo X7.here hx rfl (hb hby at_229) rfl (by decide)) ?_
      show Go p e below _ (T7.setTop (mkF m 232 #[.val (.int p1), .val (.int p2), .val (.int (0 : Int32)), .val (.int (0 : Int32)), .val (.ref w_BOTH_INCOMPLETE), .val (.int (1 : Int32)), .val (.int (1 : Int32)), .val (.int (1 : Int32)), .val (.int (1 : Int32)), .val (.int (1 : Int32)), .val (.int (1 : Int32))] []))
      refine Go.via (fun _ => XS.iconst X7.here hx rfl (hb hby at_232)) ?_
      show Go p e below _ (T7.setTop (mkF m 233 #[.val (.int p1), .val (.int p2), .val (.int (0 : Int32)), .val (.int (0 : Int32)), .val (.ref w_BOTH_INCOMPLETE), .val (.int (1 : Int32)), .val (.int (1 : Int32)), .val (.int (1 : Int32)), .val (.int (1 : Int32)), .val (.int (1 : Int32)), .val (.int (1 : Int32))] [(.int (1 : Int32))]))
      refine Go.via (fun _ => XS.goto X7.here hx rfl (pc0 := 233) (pc' := 237) rfl (hb hby at_233) (by decide) (by decide)) ?_
      show Go p e below _ (T7.setTop (mkF m 237 #[.val (.int p1), .val (.int p2), .val (.int (0 : Int32)), .val (.int (0 : Int32)), .val (.ref w_BOTH_INCOMPLETE), .val (.int (1 : Int32)), .val (.int (1 : Int32)), .val (.int (1 : Int32)), .val (.int (1 : Int32)), .val (.int (1 : Int32)), .val (.int (1 : Int32))] [(.int (1 : Int32))]))
      exact own_retN X7 hx hlk (t := .boolean) Bd.returns (by simp) (hb hby at_237) (by show Q0 Z p1 p2 w_COMPLETE w_FROM_KEY_INCOMPLETE w_TO_KEY_INCOMPLETE w_BOTH_INCOMPLETE h0 n0 _ T7.heap _; rw [e7]; exact ⟨rfl, N3⟩) (by decide) (by decide)
    · -- no
      show Go p e below _ (s₁.setTop (mkF m 15 #[.val (.int p1), .val (.int p2), .val (.int (0 : Int32)), .unset, .unset, .unset, .unset, .unset, .unset, .unset, .unset] [(.int (p2 &&& (1 : Int32)))]))
      show Go p e below _ (s₁.setTop (mkF m 15 #[.val (.int p1), .val (.int p2), .val (.int (0 : Int32)), .unset, .unset, .unset, .unset, .unset, .unset, .unset, .unset] [(.int (p2 &&& (1 : Int32)))]))
      refine Go.via (fun _ => XS.ifNo X0.here hx rfl (hb hby at_15) rfl ((if0 _ _).trans (feq hc2).1)) ?_
      show Go p e below _ (s₁.setTop (mkF m 18 #[.val (.int p1), .val (.int p2), .val (.int (0 : Int32)), .unset, .unset, .unset, .unset, .unset, .unset, .unset, .unset] []))
      refine Go.via (fun _ => XS.iconst X0.here hx rfl (hb hby at_18)) ?_
      show Go p e below _ (s₁.setTop (mkF m 19 #[.val (.int p1), .val (.int p2), .val (.int (0 : Int32)), .unset, .unset, .unset, .unset, .unset, .unset, .unset, .unset] [(.int (1 : Int32))]))
      refine Go.via (fun _ => XS.goto X0.here hx rfl (pc0 := 19) (pc' := 23) rfl (hb hby at_19) (by decide) (by decide)) ?_
      show Go p e below _ (s₁.setTop (mkF m 23 #[.val (.int p1), .val (.int p2), .val (.int (0 : Int32)), .unset, .unset, .unset, .unset, .unset, .unset, .unset, .unset] [(.int (1 : Int32))]))
      refine Go.via (fun _ => XS.istoreN X0.here hx rfl (hb hby at_23) rfl (l' := #[.val (.int p1), .val (.int p2), .val (.int (0 : Int32)), .val (.int (1 : Int32)), .unset, .unset, .unset, .unset, .unset, .unset, .unset]) rfl) ?_
      show Go p e below _ (s₁.setTop (mkF m 24 #[.val (.int p1), .val (.int p2), .val (.int (0 : Int32)), .val (.int (1 : Int32)), .unset, .unset, .unset, .unset, .unset, .unset, .unset] []))
      refine Go.via (fun _ => XS.iloadN X0.here hx rfl (hb hby at_24) rfl) ?_
      show Go p e below _ (s₁.setTop (mkF m 25 #[.val (.int p1), .val (.int p2), .val (.int (0 : Int32)), .val (.int (1 : Int32)), .unset, .unset, .unset, .unset, .unset, .unset, .unset] [(.int (0 : Int32))]))
      refine Go.via (fun _ => XS.iloadN X0.here hx rfl (hb hby at_25) rfl) ?_
      show Go p e below _ (s₁.setTop (mkF m 26 #[.val (.int p1), .val (.int p2), .val (.int (0 : Int32)), .val (.int (1 : Int32)), .unset, .unset, .unset, .unset, .unset, .unset, .unset] [(.int (1 : Int32)), (.int (0 : Int32))]))
      obtain ⟨_, _, ⟨T8, L8, k8, n8⟩, -, X8, ⟨Lc8, hQ8, l8, y8, z8⟩, st8⟩ := Jvm.LawKit.callS X0 hx (y := (⟨"com/example/pinakes/pinakes/model/CompletionStatus", "of", "(ZZ)Lcom/example/pinakes/pinakes/model/CompletionStatus;"⟩ : MethodName)) hown (mvT hZ (hw _ (List.mem_of_getElem? (i := 0) rfl))) (mvT hZ (hw _ (List.mem_of_getElem? (i := 1) rfl))) (mvT hZ (hw _ (List.mem_of_getElem? (i := 2) rfl))) (mvT hZ (hw _ (List.mem_of_getElem? (i := 3) rfl))) (by decide) (backOf (W := 0) (rm1_01 l Z a0 hw [] w_COMPLETE w_FROM_KEY_INCOMPLETE w_TO_KEY_INCOMPLETE w_BOTH_INCOMPLETE h0 n0 Z0 O0 S_COMPLETE S_FROM_KEY_INCOMPLETE S_TO_KEY_INCOMPLETE S_BOTH_INCOMPLETE) hZ (hw _ (List.mem_of_getElem? (i := 3) rfl)) (hw _ (List.mem_of_getElem? (i := 2) rfl)) (by decide) (by decide)) (g := (mkF m 26 #[.val (.int p1), .val (.int p2), .val (.int (0 : Int32)), .val (.int (1 : Int32)), .unset, .unset, .unset, .unset, .unset, .unset, .unset] [(.int (1 : Int32)), (.int (0 : Int32))])) rfl (by rw [hml]; rfl) (argsL := [(.int (0 : Int32)), (.int (1 : Int32))]) (rest := []) (lenOf pd_0 rfl) rfl (by show 2 * 0 + _ ≤ _; exact Nat.le_of_eq rfl) (hb hby at_26) (fun _ _ => ⟨rfl, e0, (by decide : 0 + 0 ≤ _), (by decide : 0 + 0 ≤ _)⟩)
      dsimp only [Pt.U, Pt.locs, Pt.cells, Pt.slots] at X8 l8 y8 z8 st8 hQ8
      subst l8 y8 z8
      obtain ⟨rfl, N8q, e8q⟩ := hQ8
      have N8 := Fr.app N0 N8q
      refine Go.via st8 ?_
      show Go p e below _ (T8.setTop (mkF m 29 #[.val (.int p1), .val (.int p2), .val (.int (0 : Int32)), .val (.int (1 : Int32)), .unset, .unset, .unset, .unset, .unset, .unset, .unset] [(.ref w_FROM_KEY_INCOMPLETE)]))
      refine Go.via (fun _ => XS.astore X8.here hx rfl (hb hby at_29) rfl rfl (l' := #[.val (.int p1), .val (.int p2), .val (.int (0 : Int32)), .val (.int (1 : Int32)), .val (.ref w_FROM_KEY_INCOMPLETE), .unset, .unset, .unset, .unset, .unset, .unset]) rfl) ?_
      show Go p e below _ (T8.setTop (mkF m 31 #[.val (.int p1), .val (.int p2), .val (.int (0 : Int32)), .val (.int (1 : Int32)), .val (.ref w_FROM_KEY_INCOMPLETE), .unset, .unset, .unset, .unset, .unset, .unset] []))
      refine Go.via (fun _ => XS.aload X8.here hx rfl (hb hby at_31) rfl rfl) ?_
      show Go p e below _ (T8.setTop (mkF m 33 #[.val (.int p1), .val (.int p2), .val (.int (0 : Int32)), .val (.int (1 : Int32)), .val (.ref w_FROM_KEY_INCOMPLETE), .unset, .unset, .unset, .unset, .unset, .unset] [(.ref w_FROM_KEY_INCOMPLETE)]))
      refine Go.via (fun _ => XS.ifnonnullYes X8.here hx rfl (pc0 := 33) (pc' := 38) rfl (hb hby at_33) rfl (by decide) (by decide)) ?_
      show Go p e below _ (T8.setTop (mkF m 38 #[.val (.int p1), .val (.int p2), .val (.int (0 : Int32)), .val (.int (1 : Int32)), .val (.ref w_FROM_KEY_INCOMPLETE), .unset, .unset, .unset, .unset, .unset, .unset] []))
      refine Go.via (fun _ => XS.iloadN X8.here hx rfl (hb hby at_38) rfl) ?_
      show Go p e below _ (T8.setTop (mkF m 39 #[.val (.int p1), .val (.int p2), .val (.int (0 : Int32)), .val (.int (1 : Int32)), .val (.ref w_FROM_KEY_INCOMPLETE), .unset, .unset, .unset, .unset, .unset, .unset] [(.int (0 : Int32))]))
      refine Go.via (fun _ => XS.ifNo X8.here hx rfl (hb hby at_39) rfl (by decide)) ?_
      show Go p e below _ (T8.setTop (mkF m 42 #[.val (.int p1), .val (.int p2), .val (.int (0 : Int32)), .val (.int (1 : Int32)), .val (.ref w_FROM_KEY_INCOMPLETE), .unset, .unset, .unset, .unset, .unset, .unset] []))
      refine Go.via (fun _ => XS.iconst X8.here hx rfl (hb hby at_42)) ?_
      show Go p e below _ (T8.setTop (mkF m 43 #[.val (.int p1), .val (.int p2), .val (.int (0 : Int32)), .val (.int (1 : Int32)), .val (.ref w_FROM_KEY_INCOMPLETE), .unset, .unset, .unset, .unset, .unset, .unset] [(.int (1 : Int32))]))
      refine Go.via (fun _ => XS.goto X8.here hx rfl (pc0 := 43) (pc' := 47) rfl (hb hby at_43) (by decide) (by decide)) ?_
      show Go p e below _ (T8.setTop (mkF m 47 #[.val (.int p1), .val (.int p2), .val (.int (0 : Int32)), .val (.int (1 : Int32)), .val (.ref w_FROM_KEY_INCOMPLETE), .unset, .unset, .unset, .unset, .unset, .unset] [(.int (1 : Int32))]))
      refine Go.via (fun _ => XS.istore X8.here hx rfl (hb hby at_47) rfl (l' := #[.val (.int p1), .val (.int p2), .val (.int (0 : Int32)), .val (.int (1 : Int32)), .val (.ref w_FROM_KEY_INCOMPLETE), .val (.int (1 : Int32)), .unset, .unset, .unset, .unset, .unset]) rfl) ?_
      show Go p e below _ (T8.setTop (mkF m 49 #[.val (.int p1), .val (.int p2), .val (.int (0 : Int32)), .val (.int (1 : Int32)), .val (.ref w_FROM_KEY_INCOMPLETE), .val (.int (1 : Int32)), .unset, .unset, .unset, .unset, .unset] []))
      refine Go.via (fun _ => XS.iloadN X8.here hx rfl (hb hby at_49) rfl) ?_
      show Go p e below _ (T8.setTop (mkF m 50 #[.val (.int p1), .val (.int p2), .val (.int (0 : Int32)), .val (.int (1 : Int32)), .val (.ref w_FROM_KEY_INCOMPLETE), .val (.int (1 : Int32)), .unset, .unset, .unset, .unset, .unset] [(.int (1 : Int32))]))
      refine Go.via (fun _ => XS.ifYes X8.here hx rfl (pc0 := 50) (pc' := 57) rfl (hb hby at_50) rfl (by decide) (by decide) (by decide)) ?_
      show Go p e below _ (T8.setTop (mkF m 57 #[.val (.int p1), .val (.int p2), .val (.int (0 : Int32)), .val (.int (1 : Int32)), .val (.ref w_FROM_KEY_INCOMPLETE), .val (.int (1 : Int32)), .unset, .unset, .unset, .unset, .unset] []))
      refine Go.via (fun _ => XS.iconst X8.here hx rfl (hb hby at_57)) ?_
      show Go p e below _ (T8.setTop (mkF m 58 #[.val (.int p1), .val (.int p2), .val (.int (0 : Int32)), .val (.int (1 : Int32)), .val (.ref w_FROM_KEY_INCOMPLETE), .val (.int (1 : Int32)), .unset, .unset, .unset, .unset, .unset] [(.int (0 : Int32))]))
      refine Go.via (fun _ => XS.istore X8.here hx rfl (hb hby at_58) rfl (l' := #[.val (.int p1), .val (.int p2), .val (.int (0 : Int32)), .val (.int (1 : Int32)), .val (.ref w_FROM_KEY_INCOMPLETE), .val (.int (1 : Int32)), .val (.int (0 : Int32)), .unset, .unset, .unset, .unset]) rfl) ?_
      show Go p e below _ (T8.setTop (mkF m 60 #[.val (.int p1), .val (.int p2), .val (.int (0 : Int32)), .val (.int (1 : Int32)), .val (.ref w_FROM_KEY_INCOMPLETE), .val (.int (1 : Int32)), .val (.int (0 : Int32)), .unset, .unset, .unset, .unset] []))
      refine Go.via (fun _ => XS.aload X8.here hx rfl (hb hby at_60) rfl rfl) ?_
      show Go p e below _ (T8.setTop (mkF m 62 #[.val (.int p1), .val (.int p2), .val (.int (0 : Int32)), .val (.int (1 : Int32)), .val (.ref w_FROM_KEY_INCOMPLETE), .val (.int (1 : Int32)), .val (.int (0 : Int32)), .unset, .unset, .unset, .unset] [(.ref w_FROM_KEY_INCOMPLETE)]))
      obtain ⟨T9, X9, e9, st9⟩ := getS2 X8 hx hZ hown (host := "") (Or.inl (hw _ (List.mem_of_getElem? (i := 6) rfl))) Via.refl e8q (S_COMPLETE.ext O0.2) (g := (mkF m 62 #[.val (.int p1), .val (.int p2), .val (.int (0 : Int32)), .val (.int (1 : Int32)), .val (.ref w_FROM_KEY_INCOMPLETE), .val (.int (1 : Int32)), .val (.int (0 : Int32)), .unset, .unset, .unset, .unset] [(.ref w_FROM_KEY_INCOMPLETE)])) rfl (hb hby at_62)
      refine Go.via st9 ?_
      show Go p e below _ (T9.setTop (mkF m 65 #[.val (.int p1), .val (.int p2), .val (.int (0 : Int32)), .val (.int (1 : Int32)), .val (.ref w_FROM_KEY_INCOMPLETE), .val (.int (1 : Int32)), .val (.int (0 : Int32)), .unset, .unset, .unset, .unset] [(.ref w_COMPLETE), (.ref w_FROM_KEY_INCOMPLETE)]))
      refine Go.via (fun _ => Jvm.RoadKit.acmp (g := (mkF m 65 #[.val (.int p1), .val (.int p2), .val (.int (0 : Int32)), .val (.int (1 : Int32)), .val (.ref w_FROM_KEY_INCOMPLETE), .val (.int (1 : Int32)), .val (.int (0 : Int32)), .unset, .unset, .unset, .unset] [(.ref w_COMPLETE), (.ref w_FROM_KEY_INCOMPLETE)])) X9 hx rfl rfl rfl (pc0 := 65) (pc' := 72) (same := false) rfl (hb hby at_65) rfl (decide_eq_false fun q => (Ne.symm ne_COMPLETE_FROM_KEY_INCOMPLETE) (Value.ref.inj q)) (by decide) (by decide)) ?_
      show Go p e below _ (T9.setTop (mkF m 72 #[.val (.int p1), .val (.int p2), .val (.int (0 : Int32)), .val (.int (1 : Int32)), .val (.ref w_FROM_KEY_INCOMPLETE), .val (.int (1 : Int32)), .val (.int (0 : Int32)), .unset, .unset, .unset, .unset] []))
      refine Go.via (fun _ => XS.iconst X9.here hx rfl (hb hby at_72)) ?_
      show Go p e below _ (T9.setTop (mkF m 73 #[.val (.int p1), .val (.int p2), .val (.int (0 : Int32)), .val (.int (1 : Int32)), .val (.ref w_FROM_KEY_INCOMPLETE), .val (.int (1 : Int32)), .val (.int (0 : Int32)), .unset, .unset, .unset, .unset] [(.int (0 : Int32))]))
      refine Go.via (fun _ => XS.iload X9.here hx rfl (hb hby at_73) rfl) ?_
      show Go p e below _ (T9.setTop (mkF m 75 #[.val (.int p1), .val (.int p2), .val (.int (0 : Int32)), .val (.int (1 : Int32)), .val (.ref w_FROM_KEY_INCOMPLETE), .val (.int (1 : Int32)), .val (.int (0 : Int32)), .unset, .unset, .unset, .unset] [(.int (1 : Int32)), (.int (0 : Int32))]))
      refine Go.via (fun _ => XS.ifYes X9.here hx rfl (pc0 := 75) (pc' := 87) rfl (hb hby at_75) rfl (by decide) (by decide) (by decide)) ?_
      show Go p e below _ (T9.setTop (mkF m 87 #[.val (.int p1), .val (.int p2), .val (.int (0 : Int32)), .val (.int (1 : Int32)), .val (.ref w_FROM_KEY_INCOMPLETE), .val (.int (1 : Int32)), .val (.int (0 : Int32)), .unset, .unset, .unset, .unset] [(.int (0 : Int32))]))
      refine Go.via (fun _ => XS.iconst X9.here hx rfl (hb hby at_87)) ?_
      show Go p e below _ (T9.setTop (mkF m 88 #[.val (.int p1), .val (.int p2), .val (.int (0 : Int32)), .val (.int (1 : Int32)), .val (.ref w_FROM_KEY_INCOMPLETE), .val (.int (1 : Int32)), .val (.int (0 : Int32)), .unset, .unset, .unset, .unset] [(.int (0 : Int32)), (.int (0 : Int32))]))
      refine Go.via (fun _ => XS.icmpNo X9.here hx rfl (hb hby at_88) rfl (by decide)) ?_
      show Go p e below _ (T9.setTop (mkF m 91 #[.val (.int p1), .val (.int p2), .val (.int (0 : Int32)), .val (.int (1 : Int32)), .val (.ref w_FROM_KEY_INCOMPLETE), .val (.int (1 : Int32)), .val (.int (0 : Int32)), .unset, .unset, .unset, .unset] []))
      refine Go.via (fun _ => XS.iconst X9.here hx rfl (hb hby at_91)) ?_
      show Go p e below _ (T9.setTop (mkF m 92 #[.val (.int p1), .val (.int p2), .val (.int (0 : Int32)), .val (.int (1 : Int32)), .val (.ref w_FROM_KEY_INCOMPLETE), .val (.int (1 : Int32)), .val (.int (0 : Int32)), .unset, .unset, .unset, .unset] [(.int (1 : Int32))]))
      refine Go.via (fun _ => XS.goto X9.here hx rfl (pc0 := 92) (pc' := 96) rfl (hb hby at_92) (by decide) (by decide)) ?_
      show Go p e below _ (T9.setTop (mkF m 96 #[.val (.int p1), .val (.int p2), .val (.int (0 : Int32)), .val (.int (1 : Int32)), .val (.ref w_FROM_KEY_INCOMPLETE), .val (.int (1 : Int32)), .val (.int (0 : Int32)), .unset, .unset, .unset, .unset] [(.int (1 : Int32))]))
      refine Go.via (fun _ => XS.istore X9.here hx rfl (hb hby at_96) rfl (l' := #[.val (.int p1), .val (.int p2), .val (.int (0 : Int32)), .val (.int (1 : Int32)), .val (.ref w_FROM_KEY_INCOMPLETE), .val (.int (1 : Int32)), .val (.int (0 : Int32)), .val (.int (1 : Int32)), .unset, .unset, .unset]) rfl) ?_
      show Go p e below _ (T9.setTop (mkF m 98 #[.val (.int p1), .val (.int p2), .val (.int (0 : Int32)), .val (.int (1 : Int32)), .val (.ref w_FROM_KEY_INCOMPLETE), .val (.int (1 : Int32)), .val (.int (0 : Int32)), .val (.int (1 : Int32)), .unset, .unset, .unset] []))
      refine Go.via (fun _ => XS.aload X9.here hx rfl (hb hby at_98) rfl rfl) ?_
      show Go p e below _ (T9.setTop (mkF m 100 #[.val (.int p1), .val (.int p2), .val (.int (0 : Int32)), .val (.int (1 : Int32)), .val (.ref w_FROM_KEY_INCOMPLETE), .val (.int (1 : Int32)), .val (.int (0 : Int32)), .val (.int (1 : Int32)), .unset, .unset, .unset] [(.ref w_FROM_KEY_INCOMPLETE)]))
      obtain ⟨T10, X10, e10, st10⟩ := getS2 X9 hx hZ hown (host := "") (Or.inl (hw _ (List.mem_of_getElem? (i := 8) rfl))) Via.refl e9 (S_FROM_KEY_INCOMPLETE.ext O0.2) (g := (mkF m 100 #[.val (.int p1), .val (.int p2), .val (.int (0 : Int32)), .val (.int (1 : Int32)), .val (.ref w_FROM_KEY_INCOMPLETE), .val (.int (1 : Int32)), .val (.int (0 : Int32)), .val (.int (1 : Int32)), .unset, .unset, .unset] [(.ref w_FROM_KEY_INCOMPLETE)])) rfl (hb hby at_100)
      refine Go.via st10 ?_
      show Go p e below _ (T10.setTop (mkF m 103 #[.val (.int p1), .val (.int p2), .val (.int (0 : Int32)), .val (.int (1 : Int32)), .val (.ref w_FROM_KEY_INCOMPLETE), .val (.int (1 : Int32)), .val (.int (0 : Int32)), .val (.int (1 : Int32)), .unset, .unset, .unset] [(.ref w_FROM_KEY_INCOMPLETE), (.ref w_FROM_KEY_INCOMPLETE)]))
      refine Go.via (fun _ => Jvm.RoadKit.acmp (g := (mkF m 103 #[.val (.int p1), .val (.int p2), .val (.int (0 : Int32)), .val (.int (1 : Int32)), .val (.ref w_FROM_KEY_INCOMPLETE), .val (.int (1 : Int32)), .val (.int (0 : Int32)), .val (.int (1 : Int32)), .unset, .unset, .unset] [(.ref w_FROM_KEY_INCOMPLETE), (.ref w_FROM_KEY_INCOMPLETE)])) X10 hx rfl rfl rfl (pc0 := 103) (pc' := 106) (same := true) rfl (hb hby at_103) rfl (decide_eq_true rfl) (by decide) (by decide)) ?_
      show Go p e below _ (T10.setTop (mkF m 106 #[.val (.int p1), .val (.int p2), .val (.int (0 : Int32)), .val (.int (1 : Int32)), .val (.ref w_FROM_KEY_INCOMPLETE), .val (.int (1 : Int32)), .val (.int (0 : Int32)), .val (.int (1 : Int32)), .unset, .unset, .unset] []))
      refine Go.via (fun _ => XS.iconst X10.here hx rfl (hb hby at_106)) ?_
      show Go p e below _ (T10.setTop (mkF m 107 #[.val (.int p1), .val (.int p2), .val (.int (0 : Int32)), .val (.int (1 : Int32)), .val (.ref w_FROM_KEY_INCOMPLETE), .val (.int (1 : Int32)), .val (.int (0 : Int32)), .val (.int (1 : Int32)), .unset, .unset, .unset] [(.int (1 : Int32))]))
      refine Go.via (fun _ => XS.goto X10.here hx rfl (pc0 := 107) (pc' := 111) rfl (hb hby at_107) (by decide) (by decide)) ?_
      show Go p e below _ (T10.setTop (mkF m 111 #[.val (.int p1), .val (.int p2), .val (.int (0 : Int32)), .val (.int (1 : Int32)), .val (.ref w_FROM_KEY_INCOMPLETE), .val (.int (1 : Int32)), .val (.int (0 : Int32)), .val (.int (1 : Int32)), .unset, .unset, .unset] [(.int (1 : Int32))]))
      refine Go.via (fun _ => XS.iload X10.here hx rfl (hb hby at_111) rfl) ?_
      show Go p e below _ (T10.setTop (mkF m 113 #[.val (.int p1), .val (.int p2), .val (.int (0 : Int32)), .val (.int (1 : Int32)), .val (.ref w_FROM_KEY_INCOMPLETE), .val (.int (1 : Int32)), .val (.int (0 : Int32)), .val (.int (1 : Int32)), .unset, .unset, .unset] [(.int (1 : Int32)), (.int (1 : Int32))]))
      refine Go.via (fun _ => XS.ifNo X10.here hx rfl (hb hby at_113) rfl (by decide)) ?_
      show Go p e below _ (T10.setTop (mkF m 116 #[.val (.int p1), .val (.int p2), .val (.int (0 : Int32)), .val (.int (1 : Int32)), .val (.ref w_FROM_KEY_INCOMPLETE), .val (.int (1 : Int32)), .val (.int (0 : Int32)), .val (.int (1 : Int32)), .unset, .unset, .unset] [(.int (1 : Int32))]))
      refine Go.via (fun _ => XS.iload X10.here hx rfl (hb hby at_116) rfl) ?_
      show Go p e below _ (T10.setTop (mkF m 118 #[.val (.int p1), .val (.int p2), .val (.int (0 : Int32)), .val (.int (1 : Int32)), .val (.ref w_FROM_KEY_INCOMPLETE), .val (.int (1 : Int32)), .val (.int (0 : Int32)), .val (.int (1 : Int32)), .unset, .unset, .unset] [(.int (0 : Int32)), (.int (1 : Int32))]))
      refine Go.via (fun _ => XS.ifNo X10.here hx rfl (hb hby at_118) rfl (by decide)) ?_
      show Go p e below _ (T10.setTop (mkF m 121 #[.val (.int p1), .val (.int p2), .val (.int (0 : Int32)), .val (.int (1 : Int32)), .val (.ref w_FROM_KEY_INCOMPLETE), .val (.int (1 : Int32)), .val (.int (0 : Int32)), .val (.int (1 : Int32)), .unset, .unset, .unset] [(.int (1 : Int32))]))
      refine Go.via (fun _ => XS.iconst X10.here hx rfl (hb hby at_121)) ?_
      show Go p e below _ (T10.setTop (mkF m 122 #[.val (.int p1), .val (.int p2), .val (.int (0 : Int32)), .val (.int (1 : Int32)), .val (.ref w_FROM_KEY_INCOMPLETE), .val (.int (1 : Int32)), .val (.int (0 : Int32)), .val (.int (1 : Int32)), .unset, .unset, .unset] [(.int (1 : Int32)), (.int (1 : Int32))]))
      refine Go.via (fun _ => XS.goto X10.here hx rfl (pc0 := 122) (pc' := 126) rfl (hb hby at_122) (by decide) (by decide)) ?_
      show Go p e below _ (T10.setTop (mkF m 126 #[.val (.int p1), .val (.int p2), .val (.int (0 : Int32)), .val (.int (1 : Int32)), .val (.ref w_FROM_KEY_INCOMPLETE), .val (.int (1 : Int32)), .val (.int (0 : Int32)), .val (.int (1 : Int32)), .unset, .unset, .unset] [(.int (1 : Int32)), (.int (1 : Int32))]))
      refine Go.via (fun _ => XS.icmpNo X10.here hx rfl (hb hby at_126) rfl (by decide)) ?_
      show Go p e below _ (T10.setTop (mkF m 129 #[.val (.int p1), .val (.int p2), .val (.int (0 : Int32)), .val (.int (1 : Int32)), .val (.ref w_FROM_KEY_INCOMPLETE), .val (.int (1 : Int32)), .val (.int (0 : Int32)), .val (.int (1 : Int32)), .unset, .unset, .unset] []))
      refine Go.via (fun _ => XS.iconst X10.here hx rfl (hb hby at_129)) ?_
      show Go p e below _ (T10.setTop (mkF m 130 #[.val (.int p1), .val (.int p2), .val (.int (0 : Int32)), .val (.int (1 : Int32)), .val (.ref w_FROM_KEY_INCOMPLETE), .val (.int (1 : Int32)), .val (.int (0 : Int32)), .val (.int (1 : Int32)), .unset, .unset, .unset] [(.int (1 : Int32))]))
      refine Go.via (fun _ => XS.goto X10.here hx rfl (pc0 := 130) (pc' := 134) rfl (hb hby at_130) (by decide) (by decide)) ?_
      show Go p e below _ (T10.setTop (mkF m 134 #[.val (.int p1), .val (.int p2), .val (.int (0 : Int32)), .val (.int (1 : Int32)), .val (.ref w_FROM_KEY_INCOMPLETE), .val (.int (1 : Int32)), .val (.int (0 : Int32)), .val (.int (1 : Int32)), .unset, .unset, .unset] [(.int (1 : Int32))]))
      refine Go.via (fun _ => XS.istore X10.here hx rfl (hb hby at_134) rfl (l' := #[.val (.int p1), .val (.int p2), .val (.int (0 : Int32)), .val (.int (1 : Int32)), .val (.ref w_FROM_KEY_INCOMPLETE), .val (.int (1 : Int32)), .val (.int (0 : Int32)), .val (.int (1 : Int32)), .val (.int (1 : Int32)), .unset, .unset]) rfl) ?_
      show Go p e below _ (T10.setTop (mkF m 136 #[.val (.int p1), .val (.int p2), .val (.int (0 : Int32)), .val (.int (1 : Int32)), .val (.ref w_FROM_KEY_INCOMPLETE), .val (.int (1 : Int32)), .val (.int (0 : Int32)), .val (.int (1 : Int32)), .val (.int (1 : Int32)), .unset, .unset] []))
      refine Go.via (fun _ => XS.aload X10.here hx rfl (hb hby at_136) rfl rfl) ?_
      show Go p e below _ (T10.setTop (mkF m 138 #[.val (.int p1), .val (.int p2), .val (.int (0 : Int32)), .val (.int (1 : Int32)), .val (.ref w_FROM_KEY_INCOMPLETE), .val (.int (1 : Int32)), .val (.int (0 : Int32)), .val (.int (1 : Int32)), .val (.int (1 : Int32)), .unset, .unset] [(.ref w_FROM_KEY_INCOMPLETE)]))
      obtain ⟨T11, X11, e11, st11⟩ := getS2 X10 hx hZ hown (host := "") (Or.inl (hw _ (List.mem_of_getElem? (i := 9) rfl))) Via.refl e10 (S_TO_KEY_INCOMPLETE.ext O0.2) (g := (mkF m 138 #[.val (.int p1), .val (.int p2), .val (.int (0 : Int32)), .val (.int (1 : Int32)), .val (.ref w_FROM_KEY_INCOMPLETE), .val (.int (1 : Int32)), .val (.int (0 : Int32)), .val (.int (1 : Int32)), .val (.int (1 : Int32)), .unset, .unset] [(.ref w_FROM_KEY_INCOMPLETE)])) rfl (hb hby at_138)
      refine Go.via st11 ?_
      show Go p e below _ (T11.setTop (mkF m 141 #[.val (.int p1), .val (.int p2), .val (.int (0 : Int32)), .val (.int (1 : Int32)), .val (.ref w_FROM_KEY_INCOMPLETE), .val (.int (1 : Int32)), .val (.int (0 : Int32)), .val (.int (1 : Int32)), .val (.int (1 : Int32)), .unset, .unset] [(.ref w_TO_KEY_INCOMPLETE), (.ref w_FROM_KEY_INCOMPLETE)]))
      refine Go.via (fun _ => Jvm.RoadKit.acmp (g := (mkF m 141 #[.val (.int p1), .val (.int p2), .val (.int (0 : Int32)), .val (.int (1 : Int32)), .val (.ref w_FROM_KEY_INCOMPLETE), .val (.int (1 : Int32)), .val (.int (0 : Int32)), .val (.int (1 : Int32)), .val (.int (1 : Int32)), .unset, .unset] [(.ref w_TO_KEY_INCOMPLETE), (.ref w_FROM_KEY_INCOMPLETE)])) X11 hx rfl rfl rfl (pc0 := 141) (pc' := 148) (same := false) rfl (hb hby at_141) rfl (decide_eq_false fun q => (ne_FROM_KEY_INCOMPLETE_TO_KEY_INCOMPLETE) (Value.ref.inj q)) (by decide) (by decide)) ?_
      show Go p e below _ (T11.setTop (mkF m 148 #[.val (.int p1), .val (.int p2), .val (.int (0 : Int32)), .val (.int (1 : Int32)), .val (.ref w_FROM_KEY_INCOMPLETE), .val (.int (1 : Int32)), .val (.int (0 : Int32)), .val (.int (1 : Int32)), .val (.int (1 : Int32)), .unset, .unset] []))
      refine Go.via (fun _ => XS.iconst X11.here hx rfl (hb hby at_148)) ?_
      show Go p e below _ (T11.setTop (mkF m 149 #[.val (.int p1), .val (.int p2), .val (.int (0 : Int32)), .val (.int (1 : Int32)), .val (.ref w_FROM_KEY_INCOMPLETE), .val (.int (1 : Int32)), .val (.int (0 : Int32)), .val (.int (1 : Int32)), .val (.int (1 : Int32)), .unset, .unset] [(.int (0 : Int32))]))
      refine Go.via (fun _ => XS.iload X11.here hx rfl (hb hby at_149) rfl) ?_
      show Go p e below _ (T11.setTop (mkF m 151 #[.val (.int p1), .val (.int p2), .val (.int (0 : Int32)), .val (.int (1 : Int32)), .val (.ref w_FROM_KEY_INCOMPLETE), .val (.int (1 : Int32)), .val (.int (0 : Int32)), .val (.int (1 : Int32)), .val (.int (1 : Int32)), .unset, .unset] [(.int (1 : Int32)), (.int (0 : Int32))]))
      refine Go.via (fun _ => XS.ifYes X11.here hx rfl (pc0 := 151) (pc' := 163) rfl (hb hby at_151) rfl (by decide) (by decide) (by decide)) ?_
      show Go p e below _ (T11.setTop (mkF m 163 #[.val (.int p1), .val (.int p2), .val (.int (0 : Int32)), .val (.int (1 : Int32)), .val (.ref w_FROM_KEY_INCOMPLETE), .val (.int (1 : Int32)), .val (.int (0 : Int32)), .val (.int (1 : Int32)), .val (.int (1 : Int32)), .unset, .unset] [(.int (0 : Int32))]))
      refine Go.via (fun _ => XS.iconst X11.here hx rfl (hb hby at_163)) ?_
      show Go p e below _ (T11.setTop (mkF m 164 #[.val (.int p1), .val (.int p2), .val (.int (0 : Int32)), .val (.int (1 : Int32)), .val (.ref w_FROM_KEY_INCOMPLETE), .val (.int (1 : Int32)), .val (.int (0 : Int32)), .val (.int (1 : Int32)), .val (.int (1 : Int32)), .unset, .unset] [(.int (0 : Int32)), (.int (0 : Int32))]))
      refine Go.via (fun _ => XS.icmpNo X11.here hx rfl (hb hby at_164) rfl (by decide)) ?_
      show Go p e below _ (T11.setTop (mkF m 167 #[.val (.int p1), .val (.int p2), .val (.int (0 : Int32)), .val (.int (1 : Int32)), .val (.ref w_FROM_KEY_INCOMPLETE), .val (.int (1 : Int32)), .val (.int (0 : Int32)), .val (.int (1 : Int32)), .val (.int (1 : Int32)), .unset, .unset] []))
      refine Go.via (fun _ => XS.iconst X11.here hx rfl (hb hby at_167)) ?_
      show Go p e below _ (T11.setTop (mkF m 168 #[.val (.int p1), .val (.int p2), .val (.int (0 : Int32)), .val (.int (1 : Int32)), .val (.ref w_FROM_KEY_INCOMPLETE), .val (.int (1 : Int32)), .val (.int (0 : Int32)), .val (.int (1 : Int32)), .val (.int (1 : Int32)), .unset, .unset] [(.int (1 : Int32))]))
      refine Go.via (fun _ => XS.goto X11.here hx rfl (pc0 := 168) (pc' := 172) rfl (hb hby at_168) (by decide) (by decide)) ?_
      show Go p e below _ (T11.setTop (mkF m 172 #[.val (.int p1), .val (.int p2), .val (.int (0 : Int32)), .val (.int (1 : Int32)), .val (.ref w_FROM_KEY_INCOMPLETE), .val (.int (1 : Int32)), .val (.int (0 : Int32)), .val (.int (1 : Int32)), .val (.int (1 : Int32)), .unset, .unset] [(.int (1 : Int32))]))
      refine Go.via (fun _ => XS.istore X11.here hx rfl (hb hby at_172) rfl (l' := #[.val (.int p1), .val (.int p2), .val (.int (0 : Int32)), .val (.int (1 : Int32)), .val (.ref w_FROM_KEY_INCOMPLETE), .val (.int (1 : Int32)), .val (.int (0 : Int32)), .val (.int (1 : Int32)), .val (.int (1 : Int32)), .val (.int (1 : Int32)), .unset]) rfl) ?_
      show Go p e below _ (T11.setTop (mkF m 174 #[.val (.int p1), .val (.int p2), .val (.int (0 : Int32)), .val (.int (1 : Int32)), .val (.ref w_FROM_KEY_INCOMPLETE), .val (.int (1 : Int32)), .val (.int (0 : Int32)), .val (.int (1 : Int32)), .val (.int (1 : Int32)), .val (.int (1 : Int32)), .unset] []))
      refine Go.via (fun _ => XS.aload X11.here hx rfl (hb hby at_174) rfl rfl) ?_
      show Go p e below _ (T11.setTop (mkF m 176 #[.val (.int p1), .val (.int p2), .val (.int (0 : Int32)), .val (.int (1 : Int32)), .val (.ref w_FROM_KEY_INCOMPLETE), .val (.int (1 : Int32)), .val (.int (0 : Int32)), .val (.int (1 : Int32)), .val (.int (1 : Int32)), .val (.int (1 : Int32)), .unset] [(.ref w_FROM_KEY_INCOMPLETE)]))
      obtain ⟨T12, X12, e12, st12⟩ := getS2 X11 hx hZ hown (host := "") (Or.inl (hw _ (List.mem_of_getElem? (i := 11) rfl))) Via.refl e11 (S_BOTH_INCOMPLETE.ext O0.2) (g := (mkF m 176 #[.val (.int p1), .val (.int p2), .val (.int (0 : Int32)), .val (.int (1 : Int32)), .val (.ref w_FROM_KEY_INCOMPLETE), .val (.int (1 : Int32)), .val (.int (0 : Int32)), .val (.int (1 : Int32)), .val (.int (1 : Int32)), .val (.int (1 : Int32)), .unset] [(.ref w_FROM_KEY_INCOMPLETE)])) rfl (hb hby at_176)
      refine Go.via st12 ?_
      show Go p e below _ (T12.setTop (mkF m 179 #[.val (.int p1), .val (.int p2), .val (.int (0 : Int32)), .val (.int (1 : Int32)), .val (.ref w_FROM_KEY_INCOMPLETE), .val (.int (1 : Int32)), .val (.int (0 : Int32)), .val (.int (1 : Int32)), .val (.int (1 : Int32)), .val (.int (1 : Int32)), .unset] [(.ref w_BOTH_INCOMPLETE), (.ref w_FROM_KEY_INCOMPLETE)]))
      refine Go.via (fun _ => Jvm.RoadKit.acmp (g := (mkF m 179 #[.val (.int p1), .val (.int p2), .val (.int (0 : Int32)), .val (.int (1 : Int32)), .val (.ref w_FROM_KEY_INCOMPLETE), .val (.int (1 : Int32)), .val (.int (0 : Int32)), .val (.int (1 : Int32)), .val (.int (1 : Int32)), .val (.int (1 : Int32)), .unset] [(.ref w_BOTH_INCOMPLETE), (.ref w_FROM_KEY_INCOMPLETE)])) X12 hx rfl rfl rfl (pc0 := 179) (pc' := 186) (same := false) rfl (hb hby at_179) rfl (decide_eq_false fun q => (ne_FROM_KEY_INCOMPLETE_BOTH_INCOMPLETE) (Value.ref.inj q)) (by decide) (by decide)) ?_
      show Go p e below _ (T12.setTop (mkF m 186 #[.val (.int p1), .val (.int p2), .val (.int (0 : Int32)), .val (.int (1 : Int32)), .val (.ref w_FROM_KEY_INCOMPLETE), .val (.int (1 : Int32)), .val (.int (0 : Int32)), .val (.int (1 : Int32)), .val (.int (1 : Int32)), .val (.int (1 : Int32)), .unset] []))
      refine Go.via (fun _ => XS.iconst X12.here hx rfl (hb hby at_186)) ?_
      show Go p e below _ (T12.setTop (mkF m 187 #[.val (.int p1), .val (.int p2), .val (.int (0 : Int32)), .val (.int (1 : Int32)), .val (.ref w_FROM_KEY_INCOMPLETE), .val (.int (1 : Int32)), .val (.int (0 : Int32)), .val (.int (1 : Int32)), .val (.int (1 : Int32)), .val (.int (1 : Int32)), .unset] [(.int (0 : Int32))]))
      refine Go.via (fun _ => XS.iload X12.here hx rfl (hb hby at_187) rfl) ?_
      show Go p e below _ (T12.setTop (mkF m 189 #[.val (.int p1), .val (.int p2), .val (.int (0 : Int32)), .val (.int (1 : Int32)), .val (.ref w_FROM_KEY_INCOMPLETE), .val (.int (1 : Int32)), .val (.int (0 : Int32)), .val (.int (1 : Int32)), .val (.int (1 : Int32)), .val (.int (1 : Int32)), .unset] [(.int (1 : Int32)), (.int (0 : Int32))]))
      refine Go.via (fun _ => XS.ifNo X12.here hx rfl (hb hby at_189) rfl (by decide)) ?_
      show Go p e below _ (T12.setTop (mkF m 192 #[.val (.int p1), .val (.int p2), .val (.int (0 : Int32)), .val (.int (1 : Int32)), .val (.ref w_FROM_KEY_INCOMPLETE), .val (.int (1 : Int32)), .val (.int (0 : Int32)), .val (.int (1 : Int32)), .val (.int (1 : Int32)), .val (.int (1 : Int32)), .unset] [(.int (0 : Int32))]))
      refine Go.via (fun _ => XS.iload X12.here hx rfl (hb hby at_192) rfl) ?_
      show Go p e below _ (T12.setTop (mkF m 194 #[.val (.int p1), .val (.int p2), .val (.int (0 : Int32)), .val (.int (1 : Int32)), .val (.ref w_FROM_KEY_INCOMPLETE), .val (.int (1 : Int32)), .val (.int (0 : Int32)), .val (.int (1 : Int32)), .val (.int (1 : Int32)), .val (.int (1 : Int32)), .unset] [(.int (0 : Int32)), (.int (0 : Int32))]))
      refine Go.via (fun _ => XS.ifYes X12.here hx rfl (pc0 := 194) (pc' := 201) rfl (hb hby at_194) rfl (by decide) (by decide) (by decide)) ?_
      show Go p e below _ (T12.setTop (mkF m 201 #[.val (.int p1), .val (.int p2), .val (.int (0 : Int32)), .val (.int (1 : Int32)), .val (.ref w_FROM_KEY_INCOMPLETE), .val (.int (1 : Int32)), .val (.int (0 : Int32)), .val (.int (1 : Int32)), .val (.int (1 : Int32)), .val (.int (1 : Int32)), .unset] [(.int (0 : Int32))]))
      refine Go.via (fun _ => XS.iconst X12.here hx rfl (hb hby at_201)) ?_
      show Go p e below _ (T12.setTop (mkF m 202 #[.val (.int p1), .val (.int p2), .val (.int (0 : Int32)), .val (.int (1 : Int32)), .val (.ref w_FROM_KEY_INCOMPLETE), .val (.int (1 : Int32)), .val (.int (0 : Int32)), .val (.int (1 : Int32)), .val (.int (1 : Int32)), .val (.int (1 : Int32)), .unset] [(.int (0 : Int32)), (.int (0 : Int32))]))
      refine Go.via (fun _ => XS.icmpNo X12.here hx rfl (hb hby at_202) rfl (by decide)) ?_
      show Go p e below _ (T12.setTop (mkF m 205 #[.val (.int p1), .val (.int p2), .val (.int (0 : Int32)), .val (.int (1 : Int32)), .val (.ref w_FROM_KEY_INCOMPLETE), .val (.int (1 : Int32)), .val (.int (0 : Int32)), .val (.int (1 : Int32)), .val (.int (1 : Int32)), .val (.int (1 : Int32)), .unset] []))
      refine Go.via (fun _ => XS.iconst X12.here hx rfl (hb hby at_205)) ?_
      show Go p e below _ (T12.setTop (mkF m 206 #[.val (.int p1), .val (.int p2), .val (.int (0 : Int32)), .val (.int (1 : Int32)), .val (.ref w_FROM_KEY_INCOMPLETE), .val (.int (1 : Int32)), .val (.int (0 : Int32)), .val (.int (1 : Int32)), .val (.int (1 : Int32)), .val (.int (1 : Int32)), .unset] [(.int (1 : Int32))]))
      refine Go.via (fun _ => XS.goto X12.here hx rfl (pc0 := 206) (pc' := 210) rfl (hb hby at_206) (by decide) (by decide)) ?_
      show Go p e below _ (T12.setTop (mkF m 210 #[.val (.int p1), .val (.int p2), .val (.int (0 : Int32)), .val (.int (1 : Int32)), .val (.ref w_FROM_KEY_INCOMPLETE), .val (.int (1 : Int32)), .val (.int (0 : Int32)), .val (.int (1 : Int32)), .val (.int (1 : Int32)), .val (.int (1 : Int32)), .unset] [(.int (1 : Int32))]))
      refine Go.via (fun _ => XS.istore X12.here hx rfl (hb hby at_210) rfl (l' := #[.val (.int p1), .val (.int p2), .val (.int (0 : Int32)), .val (.int (1 : Int32)), .val (.ref w_FROM_KEY_INCOMPLETE), .val (.int (1 : Int32)), .val (.int (0 : Int32)), .val (.int (1 : Int32)), .val (.int (1 : Int32)), .val (.int (1 : Int32)), .val (.int (1 : Int32))]) rfl) ?_
      show Go p e below _ (T12.setTop (mkF m 212 #[.val (.int p1), .val (.int p2), .val (.int (0 : Int32)), .val (.int (1 : Int32)), .val (.ref w_FROM_KEY_INCOMPLETE), .val (.int (1 : Int32)), .val (.int (0 : Int32)), .val (.int (1 : Int32)), .val (.int (1 : Int32)), .val (.int (1 : Int32)), .val (.int (1 : Int32))] []))
      refine Go.via (fun _ => XS.iload X12.here hx rfl (hb hby at_212) rfl) ?_
      show Go p e below _ (T12.setTop (mkF m 214 #[.val (.int p1), .val (.int p2), .val (.int (0 : Int32)), .val (.int (1 : Int32)), .val (.ref w_FROM_KEY_INCOMPLETE), .val (.int (1 : Int32)), .val (.int (0 : Int32)), .val (.int (1 : Int32)), .val (.int (1 : Int32)), .val (.int (1 : Int32)), .val (.int (1 : Int32))] [(.int (1 : Int32))]))
      refine Go.via (fun _ => XS.ifNo X12.here hx rfl (hb hby at_214) rfl (by decide)) ?_
      show Go p e below _ (T12.setTop (mkF m 217 #[.val (.int p1), .val (.int p2), .val (.int (0 : Int32)), .val (.int (1 : Int32)), .val (.ref w_FROM_KEY_INCOMPLETE), .val (.int (1 : Int32)), .val (.int (0 : Int32)), .val (.int (1 : Int32)), .val (.int (1 : Int32)), .val (.int (1 : Int32)), .val (.int (1 : Int32))] []))
      refine Go.via (fun _ => XS.iload X12.here hx rfl (hb hby at_217) rfl) ?_
      show Go p e below _ (T12.setTop (mkF m 219 #[.val (.int p1), .val (.int p2), .val (.int (0 : Int32)), .val (.int (1 : Int32)), .val (.ref w_FROM_KEY_INCOMPLETE), .val (.int (1 : Int32)), .val (.int (0 : Int32)), .val (.int (1 : Int32)), .val (.int (1 : Int32)), .val (.int (1 : Int32)), .val (.int (1 : Int32))] [(.int (1 : Int32))]))
      refine Go.via (fun _ => XS.ifNo X12.here hx rfl (hb hby at_219) rfl (by decide)) ?_
      show Go p e below _ (T12.setTop (mkF m 222 #[.val (.int p1), .val (.int p2), .val (.int (0 : Int32)), .val (.int (1 : Int32)), .val (.ref w_FROM_KEY_INCOMPLETE), .val (.int (1 : Int32)), .val (.int (0 : Int32)), .val (.int (1 : Int32)), .val (.int (1 : Int32)), .val (.int (1 : Int32)), .val (.int (1 : Int32))] []))
      refine Go.via (fun _ => XS.iload X12.here hx rfl (hb hby at_222) rfl) ?_
      show Go p e below _ (T12.setTop (mkF m 224 #[.val (.int p1), .val (.int p2), .val (.int (0 : Int32)), .val (.int (1 : Int32)), .val (.ref w_FROM_KEY_INCOMPLETE), .val (.int (1 : Int32)), .val (.int (0 : Int32)), .val (.int (1 : Int32)), .val (.int (1 : Int32)), .val (.int (1 : Int32)), .val (.int (1 : Int32))] [(.int (1 : Int32))]))
      refine Go.via (fun _ => XS.ifNo X12.here hx rfl (hb hby at_224) rfl (by decide)) ?_
      show Go p e below _ (T12.setTop (mkF m 227 #[.val (.int p1), .val (.int p2), .val (.int (0 : Int32)), .val (.int (1 : Int32)), .val (.ref w_FROM_KEY_INCOMPLETE), .val (.int (1 : Int32)), .val (.int (0 : Int32)), .val (.int (1 : Int32)), .val (.int (1 : Int32)), .val (.int (1 : Int32)), .val (.int (1 : Int32))] []))
      refine Go.via (fun _ => XS.iload X12.here hx rfl (hb hby at_227) rfl) ?_
      show Go p e below _ (T12.setTop (mkF m 229 #[.val (.int p1), .val (.int p2), .val (.int (0 : Int32)), .val (.int (1 : Int32)), .val (.ref w_FROM_KEY_INCOMPLETE), .val (.int (1 : Int32)), .val (.int (0 : Int32)), .val (.int (1 : Int32)), .val (.int (1 : Int32)), .val (.int (1 : Int32)), .val (.int (1 : Int32))] [(.int (1 : Int32))]))
      refine Go.via (fun _ => XS.ifNo X12.here hx rfl (hb hby at_229) rfl (by decide)) ?_
      show Go p e below _ (T12.setTop (mkF m 232 #[.val (.int p1), .val (.int p2), .val (.int (0 : Int32)), .val (.int (1 : Int32)), .val (.ref w_FROM_KEY_INCOMPLETE), .val (.int (1 : Int32)), .val (.int (0 : Int32)), .val (.int (1 : Int32)), .val (.int (1 : Int32)), .val (.int (1 : Int32)), .val (.int (1 : Int32))] []))
      refine Go.via (fun _ => XS.iconst X12.here hx rfl (hb hby at_232)) ?_
      show Go p e below _ (T12.setTop (mkF m 233 #[.val (.int p1), .val (.int p2), .val (.int (0 : Int32)), .val (.int (1 : Int32)), .val (.ref w_FROM_KEY_INCOMPLETE), .val (.int (1 : Int32)), .val (.int (0 : Int32)), .val (.int (1 : Int32)), .val (.int (1 : Int32)), .val (.int (1 : Int32)), .val (.int (1 : Int32))] [(.int (1 : Int32))]))
      refine Go.via (fun _ => XS.goto X12.here hx rfl (pc0 := 233) (pc' := 237) rfl (hb hby at_233) (by decide) (by decide)) ?_
      show Go p e below _ (T12.setTop (mkF m 237 #[.val (.int p1), .val (.int p2), .val (.int (0 : Int32)), .val (.int (1 : Int32)), .val (.ref w_FROM_KEY_INCOMPLETE), .val (.int (1 : Int32)), .val (.int (0 : Int32)), .val (.int (1 : Int32)), .val (.int (1 : Int32)), .val (.int (1 : Int32)), .val (.int (1 : Int32))] [(.int (1 : Int32))]))
      exact own_retN X12 hx hlk (t := .boolean) Bd.returns (by simp) (hb hby at_237) (by show Q0 Z p1 p2 w_COMPLETE w_FROM_KEY_INCOMPLETE w_TO_KEY_INCOMPLETE w_BOTH_INCOMPLETE h0 n0 _ T12.heap _; rw [e12]; exact ⟨rfl, N8⟩) (by decide) (by decide)
  · -- no
    show Go p e below _ (s₁.setTop (mkF m 3 #[.val (.int p1), .val (.int p2), .unset, .unset, .unset, .unset, .unset, .unset, .unset, .unset, .unset] [(.int (p1 &&& (1 : Int32)))]))
    show Go p e below _ (s₁.setTop (mkF m 3 #[.val (.int p1), .val (.int p2), .unset, .unset, .unset, .unset, .unset, .unset, .unset, .unset, .unset] [(.int (p1 &&& (1 : Int32)))]))
    refine Go.via (fun _ => XS.ifNo X0.here hx rfl (hb hby at_3) rfl ((if0 _ _).trans (feq hc1).1)) ?_
    show Go p e below _ (s₁.setTop (mkF m 6 #[.val (.int p1), .val (.int p2), .unset, .unset, .unset, .unset, .unset, .unset, .unset, .unset, .unset] []))
    refine Go.via (fun _ => XS.iconst X0.here hx rfl (hb hby at_6)) ?_
    show Go p e below _ (s₁.setTop (mkF m 7 #[.val (.int p1), .val (.int p2), .unset, .unset, .unset, .unset, .unset, .unset, .unset, .unset, .unset] [(.int (1 : Int32))]))
    refine Go.via (fun _ => XS.goto X0.here hx rfl (pc0 := 7) (pc' := 11) rfl (hb hby at_7) (by decide) (by decide)) ?_
    show Go p e below _ (s₁.setTop (mkF m 11 #[.val (.int p1), .val (.int p2), .unset, .unset, .unset, .unset, .unset, .unset, .unset, .unset, .unset] [(.int (1 : Int32))]))
    refine Go.via (fun _ => XS.istoreN X0.here hx rfl (hb hby at_11) rfl (l' := #[.val (.int p1), .val (.int p2), .val (.int (1 : Int32)), .unset, .unset, .unset, .unset, .unset, .unset, .unset, .unset]) rfl) ?_
    show Go p e below _ (s₁.setTop (mkF m 12 #[.val (.int p1), .val (.int p2), .val (.int (1 : Int32)), .unset, .unset, .unset, .unset, .unset, .unset, .unset, .unset] []))
    refine Go.via (fun _ => XS.iloadN X0.here hx rfl (hb hby at_12) rfl) ?_
    show Go p e below _ (s₁.setTop (mkF m 13 #[.val (.int p1), .val (.int p2), .val (.int (1 : Int32)), .unset, .unset, .unset, .unset, .unset, .unset, .unset, .unset] [(.int p2)]))
    refine Go.via (fun _ => XS.iconst X0.here hx rfl (hb hby at_13)) ?_
    show Go p e below _ (s₁.setTop (mkF m 14 #[.val (.int p1), .val (.int p2), .val (.int (1 : Int32)), .unset, .unset, .unset, .unset, .unset, .unset, .unset, .unset] [(.int (1 : Int32)), (.int p2)]))
    refine Go.via (fun _ => XS.iand X0.here hx rfl (hb hby at_14) rfl) ?_
    show Go p e below _ (s₁.setTop (mkF m 15 #[.val (.int p1), .val (.int p2), .val (.int (1 : Int32)), .unset, .unset, .unset, .unset, .unset, .unset, .unset, .unset] [(.int (p2 &&& (1 : Int32)))]))
    by_cases hc13 : (p2 &&& (1 : Int32)) = (0 : Int32)
    · -- yes
      show Go p e below _ (s₁.setTop (mkF m 15 #[.val (.int p1), .val (.int p2), .val (.int (1 : Int32)), .unset, .unset, .unset, .unset, .unset, .unset, .unset, .unset] [(.int (p2 &&& (1 : Int32)))]))
      show Go p e below _ (s₁.setTop (mkF m 15 #[.val (.int p1), .val (.int p2), .val (.int (1 : Int32)), .unset, .unset, .unset, .unset, .unset, .unset, .unset, .unset] [(.int (p2 &&& (1 : Int32)))]))
      refine Go.via (fun _ => XS.ifYes X0.here hx rfl (pc0 := 15) (pc' := 22) rfl (hb hby at_15) rfl ((if0 _ _).trans (teq hc13).1) (by decide) (by decide)) ?_
      show Go p e below _ (s₁.setTop (mkF m 22 #[.val (.int p1), .val (.int p2), .val (.int (1 : Int32)), .unset, .unset, .unset, .unset, .unset, .unset, .unset, .unset] []))
      refine Go.via (fun _ => XS.iconst X0.here hx rfl (hb hby at_22)) ?_
      show Go p e below _ (s₁.setTop (mkF m 23 #[.val (.int p1), .val (.int p2), .val (.int (1 : Int32)), .unset, .unset, .unset, .unset, .unset, .unset, .unset, .unset] [(.int (0 : Int32))]))
      refine Go.via (fun _ => XS.istoreN X0.here hx rfl (hb hby at_23) rfl (l' := #[.val (.int p1), .val (.int p2), .val (.int (1 : Int32)), .val (.int (0 : Int32)), .unset, .unset, .unset, .unset, .unset, .unset, .unset]) rfl) ?_
      show Go p e below _ (s₁.setTop (mkF m 24 #[.val (.int p1), .val (.int p2), .val (.int (1 : Int32)), .val (.int (0 : Int32)), .unset, .unset, .unset, .unset, .unset, .unset, .unset] []))
      refine Go.via (fun _ => XS.iloadN X0.here hx rfl (hb hby at_24) rfl) ?_
      show Go p e below _ (s₁.setTop (mkF m 25 #[.val (.int p1), .val (.int p2), .val (.int (1 : Int32)), .val (.int (0 : Int32)), .unset, .unset, .unset, .unset, .unset, .unset, .unset] [(.int (1 : Int32))]))
      refine Go.via (fun _ => XS.iloadN X0.here hx rfl (hb hby at_25) rfl) ?_
      show Go p e below _ (s₁.setTop (mkF m 26 #[.val (.int p1), .val (.int p2), .val (.int (1 : Int32)), .val (.int (0 : Int32)), .unset, .unset, .unset, .unset, .unset, .unset, .unset] [(.int (0 : Int32)), (.int (1 : Int32))]))
      obtain ⟨_, _, ⟨T14, L14, k14, n14⟩, -, X14, ⟨Lc14, hQ14, l14, y14, z14⟩, st14⟩ := Jvm.LawKit.callS X0 hx (y := (⟨"com/example/pinakes/pinakes/model/CompletionStatus", "of", "(ZZ)Lcom/example/pinakes/pinakes/model/CompletionStatus;"⟩ : MethodName)) hown (mvT hZ (hw _ (List.mem_of_getElem? (i := 0) rfl))) (mvT hZ (hw _ (List.mem_of_getElem? (i := 1) rfl))) (mvT hZ (hw _ (List.mem_of_getElem? (i := 2) rfl))) (mvT hZ (hw _ (List.mem_of_getElem? (i := 3) rfl))) (by decide) (backOf (W := 0) (rm1_10 l Z a0 hw [] w_COMPLETE w_FROM_KEY_INCOMPLETE w_TO_KEY_INCOMPLETE w_BOTH_INCOMPLETE h0 n0 Z0 O0 S_COMPLETE S_FROM_KEY_INCOMPLETE S_TO_KEY_INCOMPLETE S_BOTH_INCOMPLETE) hZ (hw _ (List.mem_of_getElem? (i := 3) rfl)) (hw _ (List.mem_of_getElem? (i := 2) rfl)) (by decide) (by decide)) (g := (mkF m 26 #[.val (.int p1), .val (.int p2), .val (.int (1 : Int32)), .val (.int (0 : Int32)), .unset, .unset, .unset, .unset, .unset, .unset, .unset] [(.int (0 : Int32)), (.int (1 : Int32))])) rfl (by rw [hml]; rfl) (argsL := [(.int (1 : Int32)), (.int (0 : Int32))]) (rest := []) (lenOf pd_0 rfl) rfl (by show 2 * 0 + _ ≤ _; exact Nat.le_of_eq rfl) (hb hby at_26) (fun _ _ => ⟨rfl, e0, (by decide : 0 + 0 ≤ _), (by decide : 0 + 0 ≤ _)⟩)
      dsimp only [Pt.U, Pt.locs, Pt.cells, Pt.slots] at X14 l14 y14 z14 st14 hQ14
      subst l14 y14 z14
      obtain ⟨rfl, N14q, e14q⟩ := hQ14
      have N14 := Fr.app N0 N14q
      refine Go.via st14 ?_
      show Go p e below _ (T14.setTop (mkF m 29 #[.val (.int p1), .val (.int p2), .val (.int (1 : Int32)), .val (.int (0 : Int32)), .unset, .unset, .unset, .unset, .unset, .unset, .unset] [(.ref w_TO_KEY_INCOMPLETE)]))
      refine Go.via (fun _ => XS.astore X14.here hx rfl (hb hby at_29) rfl rfl (l' := #[.val (.int p1), .val (.int p2), .val (.int (1 : Int32)), .val (.int (0 : Int32)), .val (.ref w_TO_KEY_INCOMPLETE), .unset, .unset, .unset, .unset, .unset, .unset]) rfl) ?_
      show Go p e below _ (T14.setTop (mkF m 31 #[.val (.int p1), .val (.int p2), .val (.int (1 : Int32)), .val (.int (0 : Int32)), .val (.ref w_TO_KEY_INCOMPLETE), .unset, .unset, .unset, .unset, .unset, .unset] []))
      refine Go.via (fun _ => XS.aload X14.here hx rfl (hb hby at_31) rfl rfl) ?_
      show Go p e below _ (T14.setTop (mkF m 33 #[.val (.int p1), .val (.int p2), .val (.int (1 : Int32)), .val (.int (0 : Int32)), .val (.ref w_TO_KEY_INCOMPLETE), .unset, .unset, .unset, .unset, .unset, .unset] [(.ref w_TO_KEY_INCOMPLETE)]))
      refine Go.via (fun _ => XS.ifnonnullYes X14.here hx rfl (pc0 := 33) (pc' := 38) rfl (hb hby at_33) rfl (by decide) (by decide)) ?_
      show Go p e below _ (T14.setTop (mkF m 38 #[.val (.int p1), .val (.int p2), .val (.int (1 : Int32)), .val (.int (0 : Int32)), .val (.ref w_TO_KEY_INCOMPLETE), .unset, .unset, .unset, .unset, .unset, .unset] []))
      refine Go.via (fun _ => XS.iloadN X14.here hx rfl (hb hby at_38) rfl) ?_
      show Go p e below _ (T14.setTop (mkF m 39 #[.val (.int p1), .val (.int p2), .val (.int (1 : Int32)), .val (.int (0 : Int32)), .val (.ref w_TO_KEY_INCOMPLETE), .unset, .unset, .unset, .unset, .unset, .unset] [(.int (1 : Int32))]))
      refine Go.via (fun _ => XS.ifYes X14.here hx rfl (pc0 := 39) (pc' := 46) rfl (hb hby at_39) rfl (by decide) (by decide) (by decide)) ?_
      show Go p e below _ (T14.setTop (mkF m 46 #[.val (.int p1), .val (.int p2), .val (.int (1 : Int32)), .val (.int (0 : Int32)), .val (.ref w_TO_KEY_INCOMPLETE), .unset, .unset, .unset, .unset, .unset, .unset] []))
      refine Go.via (fun _ => XS.iconst X14.here hx rfl (hb hby at_46)) ?_
      show Go p e below _ (T14.setTop (mkF m 47 #[.val (.int p1), .val (.int p2), .val (.int (1 : Int32)), .val (.int (0 : Int32)), .val (.ref w_TO_KEY_INCOMPLETE), .unset, .unset, .unset, .unset, .unset, .unset] [(.int (0 : Int32))]))
      refine Go.via (fun _ => XS.istore X14.here hx rfl (hb hby at_47) rfl (l' := #[.val (.int p1), .val (.int p2), .val (.int (1 : Int32)), .val (.int (0 : Int32)), .val (.ref w_TO_KEY_INCOMPLETE), .val (.int (0 : Int32)), .unset, .unset, .unset, .unset, .unset]) rfl) ?_
      show Go p e below _ (T14.setTop (mkF m 49 #[.val (.int p1), .val (.int p2), .val (.int (1 : Int32)), .val (.int (0 : Int32)), .val (.ref w_TO_KEY_INCOMPLETE), .val (.int (0 : Int32)), .unset, .unset, .unset, .unset, .unset] []))
      refine Go.via (fun _ => XS.iloadN X14.here hx rfl (hb hby at_49) rfl) ?_
      show Go p e below _ (T14.setTop (mkF m 50 #[.val (.int p1), .val (.int p2), .val (.int (1 : Int32)), .val (.int (0 : Int32)), .val (.ref w_TO_KEY_INCOMPLETE), .val (.int (0 : Int32)), .unset, .unset, .unset, .unset, .unset] [(.int (0 : Int32))]))
      refine Go.via (fun _ => XS.ifNo X14.here hx rfl (hb hby at_50) rfl (by decide)) ?_
      show Go p e below _ (T14.setTop (mkF m 53 #[.val (.int p1), .val (.int p2), .val (.int (1 : Int32)), .val (.int (0 : Int32)), .val (.ref w_TO_KEY_INCOMPLETE), .val (.int (0 : Int32)), .unset, .unset, .unset, .unset, .unset] []))
      refine Go.via (fun _ => XS.iconst X14.here hx rfl (hb hby at_53)) ?_
      show Go p e below _ (T14.setTop (mkF m 54 #[.val (.int p1), .val (.int p2), .val (.int (1 : Int32)), .val (.int (0 : Int32)), .val (.ref w_TO_KEY_INCOMPLETE), .val (.int (0 : Int32)), .unset, .unset, .unset, .unset, .unset] [(.int (1 : Int32))]))
      refine Go.via (fun _ => XS.goto X14.here hx rfl (pc0 := 54) (pc' := 58) rfl (hb hby at_54) (by decide) (by decide)) ?_
      show Go p e below _ (T14.setTop (mkF m 58 #[.val (.int p1), .val (.int p2), .val (.int (1 : Int32)), .val (.int (0 : Int32)), .val (.ref w_TO_KEY_INCOMPLETE), .val (.int (0 : Int32)), .unset, .unset, .unset, .unset, .unset] [(.int (1 : Int32))]))
      refine Go.via (fun _ => XS.istore X14.here hx rfl (hb hby at_58) rfl (l' := #[.val (.int p1), .val (.int p2), .val (.int (1 : Int32)), .val (.int (0 : Int32)), .val (.ref w_TO_KEY_INCOMPLETE), .val (.int (0 : Int32)), .val (.int (1 : Int32)), .unset, .unset, .unset, .unset]) rfl) ?_
      show Go p e below _ (T14.setTop (mkF m 60 #[.val (.int p1), .val (.int p2), .val (.int (1 : Int32)), .val (.int (0 : Int32)), .val (.ref w_TO_KEY_INCOMPLETE), .val (.int (0 : Int32)), .val (.int (1 : Int32)), .unset, .unset, .unset, .unset] []))
      refine Go.via (fun _ => XS.aload X14.here hx rfl (hb hby at_60) rfl rfl) ?_
      show Go p e below _ (T14.setTop (mkF m 62 #[.val (.int p1), .val (.int p2), .val (.int (1 : Int32)), .val (.int (0 : Int32)), .val (.ref w_TO_KEY_INCOMPLETE), .val (.int (0 : Int32)), .val (.int (1 : Int32)), .unset, .unset, .unset, .unset] [(.ref w_TO_KEY_INCOMPLETE)]))
      obtain ⟨T15, X15, e15, st15⟩ := getS2 X14 hx hZ hown (host := "") (Or.inl (hw _ (List.mem_of_getElem? (i := 6) rfl))) Via.refl e14q (S_COMPLETE.ext O0.2) (g := (mkF m 62 #[.val (.int p1), .val (.int p2), .val (.int (1 : Int32)), .val (.int (0 : Int32)), .val (.ref w_TO_KEY_INCOMPLETE), .val (.int (0 : Int32)), .val (.int (1 : Int32)), .unset, .unset, .unset, .unset] [(.ref w_TO_KEY_INCOMPLETE)])) rfl (hb hby at_62)
      refine Go.via st15 ?_
      show Go p e below _ (T15.setTop (mkF m 65 #[.val (.int p1), .val (.int p2), .val (.int (1 : Int32)), .val (.int (0 : Int32)), .val (.ref w_TO_KEY_INCOMPLETE), .val (.int (0 : Int32)), .val (.int (1 : Int32)), .unset, .unset, .unset, .unset] [(.ref w_COMPLETE), (.ref w_TO_KEY_INCOMPLETE)]))
      refine Go.via (fun _ => Jvm.RoadKit.acmp (g := (mkF m 65 #[.val (.int p1), .val (.int p2), .val (.int (1 : Int32)), .val (.int (0 : Int32)), .val (.ref w_TO_KEY_INCOMPLETE), .val (.int (0 : Int32)), .val (.int (1 : Int32)), .unset, .unset, .unset, .unset] [(.ref w_COMPLETE), (.ref w_TO_KEY_INCOMPLETE)])) X15 hx rfl rfl rfl (pc0 := 65) (pc' := 72) (same := false) rfl (hb hby at_65) rfl (decide_eq_false fun q => (Ne.symm ne_COMPLETE_TO_KEY_INCOMPLETE) (Value.ref.inj q)) (by decide) (by decide)) ?_
      show Go p e below _ (T15.setTop (mkF m 72 #[.val (.int p1), .val (.int p2), .val (.int (1 : Int32)), .val (.int (0 : Int32)), .val (.ref w_TO_KEY_INCOMPLETE), .val (.int (0 : Int32)), .val (.int (1 : Int32)), .unset, .unset, .unset, .unset] []))
      refine Go.via (fun _ => XS.iconst X15.here hx rfl (hb hby at_72)) ?_
      show Go p e below _ (T15.setTop (mkF m 73 #[.val (.int p1), .val (.int p2), .val (.int (1 : Int32)), .val (.int (0 : Int32)), .val (.ref w_TO_KEY_INCOMPLETE), .val (.int (0 : Int32)), .val (.int (1 : Int32)), .unset, .unset, .unset, .unset] [(.int (0 : Int32))]))
      refine Go.via (fun _ => XS.iload X15.here hx rfl (hb hby at_73) rfl) ?_
      show Go p e below _ (T15.setTop (mkF m 75 #[.val (.int p1), .val (.int p2), .val (.int (1 : Int32)), .val (.int (0 : Int32)), .val (.ref w_TO_KEY_INCOMPLETE), .val (.int (0 : Int32)), .val (.int (1 : Int32)), .unset, .unset, .unset, .unset] [(.int (0 : Int32)), (.int (0 : Int32))]))
      refine Go.via (fun _ => XS.ifNo X15.here hx rfl (hb hby at_75) rfl (by decide)) ?_
      show Go p e below _ (T15.setTop (mkF m 78 #[.val (.int p1), .val (.int p2), .val (.int (1 : Int32)), .val (.int (0 : Int32)), .val (.ref w_TO_KEY_INCOMPLETE), .val (.int (0 : Int32)), .val (.int (1 : Int32)), .unset, .unset, .unset, .unset] [(.int (0 : Int32))]))
      refine Go.via (fun _ => XS.iload X15.here hx rfl (hb hby at_78) rfl) ?_
      show Go p e below _ (T15.setTop (mkF m 80 #[.val (.int p1), .val (.int p2), .val (.int (1 : Int32)), .val (.int (0 : Int32)), .val (.ref w_TO_KEY_INCOMPLETE), .val (.int (0 : Int32)), .val (.int (1 : Int32)), .unset, .unset, .unset, .unset] [(.int (1 : Int32)), (.int (0 : Int32))]))
      refine Go.via (fun _ => XS.ifYes X15.here hx rfl (pc0 := 80) (pc' := 87) rfl (hb hby at_80) rfl (by decide) (by decide) (by decide)) ?_
      show Go p e below _ (T15.setTop (mkF m 87 #[.val (.int p1), .val (.int p2), .val (.int (1 : Int32)), .val (.int (0 : Int32)), .val (.ref w_TO_KEY_INCOMPLETE), .val (.int (0 : Int32)), .val (.int (1 : Int32)), .unset, .unset, .unset, .unset] [(.int (0 : Int32))]))
      refine Go.via (fun _ => XS.iconst X15.here hx rfl (hb hby at_87)) ?_
      show Go p e below _ (T15.setTop (mkF m 88 #[.val (.int p1), .val (.int p2), .val (.int (1 : Int32)), .val (.int (0 : Int32)), .val (.ref w_TO_KEY_INCOMPLETE), .val (.int (0 : Int32)), .val (.int (1 : Int32)), .unset, .unset, .unset, .unset] [(.int (0 : Int32)), (.int (0 : Int32))]))
      refine Go.via (fun _ => XS.icmpNo X15.here hx rfl (hb hby at_88) rfl (by decide)) ?_
      show Go p e below _ (T15.setTop (mkF m 91 #[.val (.int p1), .val (.int p2), .val (.int (1 : Int32)), .val (.int (0 : Int32)), .val (.ref w_TO_KEY_INCOMPLETE), .val (.int (0 : Int32)), .val (.int (1 : Int32)), .unset, .unset, .unset, .unset] []))
      refine Go.via (fun _ => XS.iconst X15.here hx rfl (hb hby at_91)) ?_
      show Go p e below _ (T15.setTop (mkF m 92 #[.val (.int p1), .val (.int p2), .val (.int (1 : Int32)), .val (.int (0 : Int32)), .val (.ref w_TO_KEY_INCOMPLETE), .val (.int (0 : Int32)), .val (.int (1 : Int32)), .unset, .unset, .unset, .unset] [(.int (1 : Int32))]))
      refine Go.via (fun _ => XS.goto X15.here hx rfl (pc0 := 92) (pc' := 96) rfl (hb hby at_92) (by decide) (by decide)) ?_
      show Go p e below _ (T15.setTop (mkF m 96 #[.val (.int p1), .val (.int p2), .val (.int (1 : Int32)), .val (.int (0 : Int32)), .val (.ref w_TO_KEY_INCOMPLETE), .val (.int (0 : Int32)), .val (.int (1 : Int32)), .unset, .unset, .unset, .unset] [(.int (1 : Int32))]))
      refine Go.via (fun _ => XS.istore X15.here hx rfl (hb hby at_96) rfl (l' := #[.val (.int p1), .val (.int p2), .val (.int (1 : Int32)), .val (.int (0 : Int32)), .val (.ref w_TO_KEY_INCOMPLETE), .val (.int (0 : Int32)), .val (.int (1 : Int32)), .val (.int (1 : Int32)), .unset, .unset, .unset]) rfl) ?_
      show Go p e below _ (T15.setTop (mkF m 98 #[.val (.int p1), .val (.int p2), .val (.int (1 : Int32)), .val (.int (0 : Int32)), .val (.ref w_TO_KEY_INCOMPLETE), .val (.int (0 : Int32)), .val (.int (1 : Int32)), .val (.int (1 : Int32)), .unset, .unset, .unset] []))
      refine Go.via (fun _ => XS.aload X15.here hx rfl (hb hby at_98) rfl rfl) ?_
      show Go p e below _ (T15.setTop (mkF m 100 #[.val (.int p1), .val (.int p2), .val (.int (1 : Int32)), .val (.int (0 : Int32)), .val (.ref w_TO_KEY_INCOMPLETE), .val (.int (0 : Int32)), .val (.int (1 : Int32)), .val (.int (1 : Int32)), .unset, .unset, .unset] [(.ref w_TO_KEY_INCOMPLETE)]))
      obtain ⟨T16, X16, e16, st16⟩ := getS2 X15 hx hZ hown (host := "") (Or.inl (hw _ (List.mem_of_getElem? (i := 8) rfl))) Via.refl e15 (S_FROM_KEY_INCOMPLETE.ext O0.2) (g := (mkF m 100 #[.val (.int p1), .val (.int p2), .val (.int (1 : Int32)), .val (.int (0 : Int32)), .val (.ref w_TO_KEY_INCOMPLETE), .val (.int (0 : Int32)), .val (.int (1 : Int32)), .val (.int (1 : Int32)), .unset, .unset, .unset] [(.ref w_TO_KEY_INCOMPLETE)])) rfl (hb hby at_100)
      refine Go.via st16 ?_
      show Go p e below _ (T16.setTop (mkF m 103 #[.val (.int p1), .val (.int p2), .val (.int (1 : Int32)), .val (.int (0 : Int32)), .val (.ref w_TO_KEY_INCOMPLETE), .val (.int (0 : Int32)), .val (.int (1 : Int32)), .val (.int (1 : Int32)), .unset, .unset, .unset] [(.ref w_FROM_KEY_INCOMPLETE), (.ref w_TO_KEY_INCOMPLETE)]))
      refine Go.via (fun _ => Jvm.RoadKit.acmp (g := (mkF m 103 #[.val (.int p1), .val (.int p2), .val (.int (1 : Int32)), .val (.int (0 : Int32)), .val (.ref w_TO_KEY_INCOMPLETE), .val (.int (0 : Int32)), .val (.int (1 : Int32)), .val (.int (1 : Int32)), .unset, .unset, .unset] [(.ref w_FROM_KEY_INCOMPLETE), (.ref w_TO_KEY_INCOMPLETE)])) X16 hx rfl rfl rfl (pc0 := 103) (pc' := 110) (same := false) rfl (hb hby at_103) rfl (decide_eq_false fun q => (Ne.symm ne_FROM_KEY_INCOMPLETE_TO_KEY_INCOMPLETE) (Value.ref.inj q)) (by decide) (by decide)) ?_
      show Go p e below _ (T16.setTop (mkF m 110 #[.val (.int p1), .val (.int p2), .val (.int (1 : Int32)), .val (.int (0 : Int32)), .val (.ref w_TO_KEY_INCOMPLETE), .val (.int (0 : Int32)), .val (.int (1 : Int32)), .val (.int (1 : Int32)), .unset, .unset, .unset] []))
      refine Go.via (fun _ => XS.iconst X16.here hx rfl (hb hby at_110)) ?_
      show Go p e below _ (T16.setTop (mkF m 111 #[.val (.int p1), .val (.int p2), .val (.int (1 : Int32)), .val (.int (0 : Int32)), .val (.ref w_TO_KEY_INCOMPLETE), .val (.int (0 : Int32)), .val (.int (1 : Int32)), .val (.int (1 : Int32)), .unset, .unset, .unset] [(.int (0 : Int32))]))
      refine Go.via (fun _ => XS.iload X16.here hx rfl (hb hby at_111) rfl) ?_
      show Go p e below _ (T16.setTop (mkF m 113 #[.val (.int p1), .val (.int p2), .val (.int (1 : Int32)), .val (.int (0 : Int32)), .val (.ref w_TO_KEY_INCOMPLETE), .val (.int (0 : Int32)), .val (.int (1 : Int32)), .val (.int (1 : Int32)), .unset, .unset, .unset] [(.int (0 : Int32)), (.int (0 : Int32))]))
      refine Go.via (fun _ => XS.ifYes X16.here hx rfl (pc0 := 113) (pc' := 125) rfl (hb hby at_113) rfl (by decide) (by decide) (by decide)) ?_
      show Go p e below _ (T16.setTop (mkF m 125 #[.val (.int p1), .val (.int p2), .val (.int (1 : Int32)), .val (.int (0 : Int32)), .val (.ref w_TO_KEY_INCOMPLETE), .val (.int (0 : Int32)), .val (.int (1 : Int32)), .val (.int (1 : Int32)), .unset, .unset, .unset] [(.int (0 : Int32))]))
      refine Go.via (fun _ => XS.iconst X16.here hx rfl (hb hby at_125)) ?_
      show Go p e below _ (T16.setTop (mkF m 126 #[.val (.int p1), .val (.int p2), .val (.int (1 : Int32)), .val (.int (0 : Int32)), .val (.ref w_TO_KEY_INCOMPLETE), .val (.int (0 : Int32)), .val (.int (1 : Int32)), .val (.int (1 : Int32)), .unset, .unset, .unset] [(.int (0 : Int32)), (.int (0 : Int32))]))
      refine Go.via (fun _ => XS.icmpNo X16.here hx rfl (hb hby at_126) rfl (by decide)) ?_
      show Go p e below _ (T16.setTop (mkF m 129 #[.val (.int p1), .val (.int p2), .val (.int (1 : Int32)), .val (.int (0 : Int32)), .val (.ref w_TO_KEY_INCOMPLETE), .val (.int (0 : Int32)), .val (.int (1 : Int32)), .val (.int (1 : Int32)), .unset, .unset, .unset] []))
      refine Go.via (fun _ => XS.iconst X16.here hx rfl (hb hby at_129)) ?_
      show Go p e below _ (T16.setTop (mkF m 130 #[.val (.int p1), .val (.int p2), .val (.int (1 : Int32)), .val (.int (0 : Int32)), .val (.ref w_TO_KEY_INCOMPLETE), .val (.int (0 : Int32)), .val (.int (1 : Int32)), .val (.int (1 : Int32)), .unset, .unset, .unset] [(.int (1 : Int32))]))
      refine Go.via (fun _ => XS.goto X16.here hx rfl (pc0 := 130) (pc' := 134) rfl (hb hby at_130) (by decide) (by decide)) ?_
      show Go p e below _ (T16.setTop (mkF m 134 #[.val (.int p1), .val (.int p2), .val (.int (1 : Int32)), .val (.int (0 : Int32)), .val (.ref w_TO_KEY_INCOMPLETE), .val (.int (0 : Int32)), .val (.int (1 : Int32)), .val (.int (1 : Int32)), .unset, .unset, .unset] [(.int (1 : Int32))]))
      refine Go.via (fun _ => XS.istore X16.here hx rfl (hb hby at_134) rfl (l' := #[.val (.int p1), .val (.int p2), .val (.int (1 : Int32)), .val (.int (0 : Int32)), .val (.ref w_TO_KEY_INCOMPLETE), .val (.int (0 : Int32)), .val (.int (1 : Int32)), .val (.int (1 : Int32)), .val (.int (1 : Int32)), .unset, .unset]) rfl) ?_
      show Go p e below _ (T16.setTop (mkF m 136 #[.val (.int p1), .val (.int p2), .val (.int (1 : Int32)), .val (.int (0 : Int32)), .val (.ref w_TO_KEY_INCOMPLETE), .val (.int (0 : Int32)), .val (.int (1 : Int32)), .val (.int (1 : Int32)), .val (.int (1 : Int32)), .unset, .unset] []))
      refine Go.via (fun _ => XS.aload X16.here hx rfl (hb hby at_136) rfl rfl) ?_
      show Go p e below _ (T16.setTop (mkF m 138 #[.val (.int p1), .val (.int p2), .val (.int (1 : Int32)), .val (.int (0 : Int32)), .val (.ref w_TO_KEY_INCOMPLETE), .val (.int (0 : Int32)), .val (.int (1 : Int32)), .val (.int (1 : Int32)), .val (.int (1 : Int32)), .unset, .unset] [(.ref w_TO_KEY_INCOMPLETE)]))
      obtain ⟨T17, X17, e17, st17⟩ := getS2 X16 hx hZ hown (host := "") (Or.inl (hw _ (List.mem_of_getElem? (i := 9) rfl))) Via.refl e16 (S_TO_KEY_INCOMPLETE.ext O0.2) (g := (mkF m 138 #[.val (.int p1), .val (.int p2), .val (.int (1 : Int32)), .val (.int (0 : Int32)), .val (.ref w_TO_KEY_INCOMPLETE), .val (.int (0 : Int32)), .val (.int (1 : Int32)), .val (.int (1 : Int32)), .val (.int (1 : Int32)), .unset, .unset] [(.ref w_TO_KEY_INCOMPLETE)])) rfl (hb hby at_138)
      refine Go.via st17 ?_
      show Go p e below _ (T17.setTop (mkF m 141 #[.val (.int p1), .val (.int p2), .val (.int (1 : Int32)), .val (.int (0 : Int32)), .val (.ref w_TO_KEY_INCOMPLETE), .val (.int (0 : Int32)), .val (.int (1 : Int32)), .val (.int (1 : Int32)), .val (.int (1 : Int32)), .unset, .unset] [(.ref w_TO_KEY_INCOMPLETE), (.ref w_TO_KEY_INCOMPLETE)]))
      refine Go.via (fun _ => Jvm.RoadKit.acmp (g := (mkF m 141 #[.val (.int p1), .val (.int p2), .val (.int (1 : Int32)), .val (.int (0 : Int32)), .val (.ref w_TO_KEY_INCOMPLETE), .val (.int (0 : Int32)), .val (.int (1 : Int32)), .val (.int (1 : Int32)), .val (.int (1 : Int32)), .unset, .unset] [(.ref w_TO_KEY_INCOMPLETE), (.ref w_TO_KEY_INCOMPLETE)])) X17 hx rfl rfl rfl (pc0 := 141) (pc' := 144) (same := true) rfl (hb hby at_141) rfl (decide_eq_true rfl) (by decide) (by decide)) ?_
      show Go p e below _ (T17.setTop (mkF m 144 #[.val (.int p1), .val (.int p2), .val (.int (1 : Int32)), .val (.int (0 : Int32)), .val (.ref w_TO_KEY_INCOMPLETE), .val (.int (0 : Int32)), .val (.int (1 : Int32)), .val (.int (1 : Int32)), .val (.int (1 : Int32)), .unset, .unset] []))
      refine Go.via (fun _ => XS.iconst X17.here hx rfl (hb hby at_144)) ?_
      show Go p e below _ (T17.setTop (mkF m 145 #[.val (.int p1), .val (.int p2), .val (.int (1 : Int32)), .val (.int (0 : Int32)), .val (.ref w_TO_KEY_INCOMPLETE), .val (.int (0 : Int32)), .val (.int (1 : Int32)), .val (.int (1 : Int32)), .val (.int (1 : Int32)), .unset, .unset] [(.int (1 : Int32))]))
      refine Go.via (fun _ => XS.goto X17.here hx rfl (pc0 := 145) (pc' := 149) rfl (hb hby at_145) (by decide) (by decide)) ?_
      show Go p e below _ (T17.setTop (mkF m 149 #[.val (.int p1), .val (.int p2), .val (.int (1 : Int32)), .val (.int (0 : Int32)), .val (.ref w_TO_KEY_INCOMPLETE), .val (.int (0 : Int32)), .val (.int (1 : Int32)), .val (.int (1 : Int32)), .val (.int (1 : Int32)), .unset, .unset] [(.int (1 : Int32))]))
      refine Go.via (fun _ => XS.iload X17.here hx rfl (hb hby at_149) rfl) ?_
      show Go p e below _ (T17.setTop (mkF m 151 #[.val (.int p1), .val (.int p2), .val (.int (1 : Int32)), .val (.int (0 : Int32)), .val (.ref w_TO_KEY_INCOMPLETE), .val (.int (0 : Int32)), .val (.int (1 : Int32)), .val (.int (1 : Int32)), .val (.int (1 : Int32)), .unset, .unset] [(.int (0 : Int32)), (.int (1 : Int32))]))
      refine Go.via (fun _ => XS.ifNo X17.here hx rfl (hb hby at_151) rfl (by decide)) ?_
      show Go p e below _ (T17.setTop (mkF m 154 #[.val (.int p1), .val (.int p2), .val (.int (1 : Int32)), .val (.int (0 : Int32)), .val (.ref w_TO_KEY_INCOMPLETE), .val (.int (0 : Int32)), .val (.int (1 : Int32)), .val (.int (1 : Int32)), .val (.int (1 : Int32)), .unset, .unset] [(.int (1 : Int32))]))
      refine Go.via (fun _ => XS.iload X17.here hx rfl (hb hby at_154) rfl) ?_
      show Go p e below _ (T17.setTop (mkF m 156 #[.val (.int p1), .val (.int p2), .val (.int (1 : Int32)), .val (.int (0 : Int32)), .val (.ref w_TO_KEY_INCOMPLETE), .val (.int (0 : Int32)), .val (.int (1 : Int32)), .val (.int (1 : Int32)), .val (.int (1 : Int32)), .unset, .unset] [(.int (1 : Int32)), (.int (1 : Int32))]))
      refine Go.via (fun _ => XS.ifNo X17.here hx rfl (hb hby at_156) rfl (by decide)) ?_
      show Go p e below _ (T17.setTop (mkF m 159 #[.val (.int p1), .val (.int p2), .val (.int (1 : Int32)), .val (.int (0 : Int32)), .val (.ref w_TO_KEY_INCOMPLETE), .val (.int (0 : Int32)), .val (.int (1 : Int32)), .val (.int (1 : Int32)), .val (.int (1 : Int32)), .unset, .unset] [(.int (1 : Int32))]))
      refine Go.via (fun _ => XS.iconst X17.here hx rfl (hb hby at_159)) ?_
      show Go p e below _ (T17.setTop (mkF m 160 #[.val (.int p1), .val (.int p2), .val (.int (1 : Int32)), .val (.int (0 : Int32)), .val (.ref w_TO_KEY_INCOMPLETE), .val (.int (0 : Int32)), .val (.int (1 : Int32)), .val (.int (1 : Int32)), .val (.int (1 : Int32)), .unset, .unset] [(.int (1 : Int32)), (.int (1 : Int32))]))
      refine Go.via (fun _ => XS.goto X17.here hx rfl (pc0 := 160) (pc' := 164) rfl (hb hby at_160) (by decide) (by decide)) ?_
      show Go p e below _ (T17.setTop (mkF m 164 #[.val (.int p1), .val (.int p2), .val (.int (1 : Int32)), .val (.int (0 : Int32)), .val (.ref w_TO_KEY_INCOMPLETE), .val (.int (0 : Int32)), .val (.int (1 : Int32)), .val (.int (1 : Int32)), .val (.int (1 : Int32)), .unset, .unset] [(.int (1 : Int32)), (.int (1 : Int32))]))
      refine Go.via (fun _ => XS.icmpNo X17.here hx rfl (hb hby at_164) rfl (by decide)) ?_
      show Go p e below _ (T17.setTop (mkF m 167 #[.val (.int p1), .val (.int p2), .val (.int (1 : Int32)), .val (.int (0 : Int32)), .val (.ref w_TO_KEY_INCOMPLETE), .val (.int (0 : Int32)), .val (.int (1 : Int32)), .val (.int (1 : Int32)), .val (.int (1 : Int32)), .unset, .unset] []))
      refine Go.via (fun _ => XS.iconst X17.here hx rfl (hb hby at_167)) ?_
      show Go p e below _ (T17.setTop (mkF m 168 #[.val (.int p1), .val (.int p2), .val (.int (1 : Int32)), .val (.int (0 : Int32)), .val (.ref w_TO_KEY_INCOMPLETE), .val (.int (0 : Int32)), .val (.int (1 : Int32)), .val (.int (1 : Int32)), .val (.int (1 : Int32)), .unset, .unset] [(.int (1 : Int32))]))
      refine Go.via (fun _ => XS.goto X17.here hx rfl (pc0 := 168) (pc' := 172) rfl (hb hby at_168) (by decide) (by decide)) ?_
      show Go p e below _ (T17.setTop (mkF m 172 #[.val (.int p1), .val (.int p2), .val (.int (1 : Int32)), .val (.int (0 : Int32)), .val (.ref w_TO_KEY_INCOMPLETE), .val (.int (0 : Int32)), .val (.int (1 : Int32)), .val (.int (1 : Int32)), .val (.int (1 : Int32)), .unset, .unset] [(.int (1 : Int32))]))
      refine Go.via (fun _ => XS.istore X17.here hx rfl (hb hby at_172) rfl (l' := #[.val (.int p1), .val (.int p2), .val (.int (1 : Int32)), .val (.int (0 : Int32)), .val (.ref w_TO_KEY_INCOMPLETE), .val (.int (0 : Int32)), .val (.int (1 : Int32)), .val (.int (1 : Int32)), .val (.int (1 : Int32)), .val (.int (1 : Int32)), .unset]) rfl) ?_
      show Go p e below _ (T17.setTop (mkF m 174 #[.val (.int p1), .val (.int p2), .val (.int (1 : Int32)), .val (.int (0 : Int32)), .val (.ref w_TO_KEY_INCOMPLETE), .val (.int (0 : Int32)), .val (.int (1 : Int32)), .val (.int (1 : Int32)), .val (.int (1 : Int32)), .val (.int (1 : Int32)), .unset] []))
      refine Go.via (fun _ => XS.aload X17.here hx rfl (hb hby at_174) rfl rfl) ?_
      show Go p e below _ (T17.setTop (mkF m 176 #[.val (.int p1), .val (.int p2), .val (.int (1 : Int32)), .val (.int (0 : Int32)), .val (.ref w_TO_KEY_INCOMPLETE), .val (.int (0 : Int32)), .val (.int (1 : Int32)), .val (.int (1 : Int32)), .val (.int (1 : Int32)), .val (.int (1 : Int32)), .unset] [(.ref w_TO_KEY_INCOMPLETE)]))
      obtain ⟨T18, X18, e18, st18⟩ := getS2 X17 hx hZ hown (host := "") (Or.inl (hw _ (List.mem_of_getElem? (i := 11) rfl))) Via.refl e17 (S_BOTH_INCOMPLETE.ext O0.2) (g := (mkF m 176 #[.val (.int p1), .val (.int p2), .val (.int (1 : Int32)), .val (.int (0 : Int32)), .val (.ref w_TO_KEY_INCOMPLETE), .val (.int (0 : Int32)), .val (.int (1 : Int32)), .val (.int (1 : Int32)), .val (.int (1 : Int32)), .val (.int (1 : Int32)), .unset] [(.ref w_TO_KEY_INCOMPLETE)])) rfl (hb hby at_176)
      refine Go.via st18 ?_
      show Go p e below _ (T18.setTop (mkF m 179 #[.val (.int p1), .val (.int p2), .val (.int (1 : Int32)), .val (.int (0 : Int32)), .val (.ref w_TO_KEY_INCOMPLETE), .val (.int (0 : Int32)), .val (.int (1 : Int32)), .val (.int (1 : Int32)), .val (.int (1 : Int32)), .val (.int (1 : Int32)), .unset] [(.ref w_BOTH_INCOMPLETE), (.ref w_TO_KEY_INCOMPLETE)]))
      refine Go.via (fun _ => Jvm.RoadKit.acmp (g := (mkF m 179 #[.val (.int p1), .val (.int p2), .val (.int (1 : Int32)), .val (.int (0 : Int32)), .val (.ref w_TO_KEY_INCOMPLETE), .val (.int (0 : Int32)), .val (.int (1 : Int32)), .val (.int (1 : Int32)), .val (.int (1 : Int32)), .val (.int (1 : Int32)), .unset] [(.ref w_BOTH_INCOMPLETE), (.ref w_TO_KEY_INCOMPLETE)])) X18 hx rfl rfl rfl (pc0 := 179) (pc' := 186) (same := false) rfl (hb hby at_179) rfl (decide_eq_false fun q => (ne_TO_KEY_INCOMPLETE_BOTH_INCOMPLETE) (Value.ref.inj q)) (by decide) (by decide)) ?_
      show Go p e below _ (T18.setTop (mkF m 186 #[.val (.int p1), .val (.int p2), .val (.int (1 : Int32)), .val (.int (0 : Int32)), .val (.ref w_TO_KEY_INCOMPLETE), .val (.int (0 : Int32)), .val (.int (1 : Int32)), .val (.int (1 : Int32)), .val (.int (1 : Int32)), .val (.int (1 : Int32)), .unset] []))
      refine Go.via (fun _ => XS.iconst X18.here hx rfl (hb hby at_186)) ?_
      show Go p e below _ (T18.setTop (mkF m 187 #[.val (.int p1), .val (.int p2), .val (.int (1 : Int32)), .val (.int (0 : Int32)), .val (.ref w_TO_KEY_INCOMPLETE), .val (.int (0 : Int32)), .val (.int (1 : Int32)), .val (.int (1 : Int32)), .val (.int (1 : Int32)), .val (.int (1 : Int32)), .unset] [(.int (0 : Int32))]))
      refine Go.via (fun _ => XS.iload X18.here hx rfl (hb hby at_187) rfl) ?_
      show Go p e below _ (T18.setTop (mkF m 189 #[.val (.int p1), .val (.int p2), .val (.int (1 : Int32)), .val (.int (0 : Int32)), .val (.ref w_TO_KEY_INCOMPLETE), .val (.int (0 : Int32)), .val (.int (1 : Int32)), .val (.int (1 : Int32)), .val (.int (1 : Int32)), .val (.int (1 : Int32)), .unset] [(.int (0 : Int32)), (.int (0 : Int32))]))
      refine Go.via (fun _ => XS.ifYes X18.here hx rfl (pc0 := 189) (pc' := 201) rfl (hb hby at_189) rfl (by decide) (by decide) (by decide)) ?_
      show Go p e below _ (T18.setTop (mkF m 201 #[.val (.int p1), .val (.int p2), .val (.int (1 : Int32)), .val (.int (0 : Int32)), .val (.ref w_TO_KEY_INCOMPLETE), .val (.int (0 : Int32)), .val (.int (1 : Int32)), .val (.int (1 : Int32)), .val (.int (1 : Int32)), .val (.int (1 : Int32)), .unset] [(.int (0 : Int32))]))
      refine Go.via (fun _ => XS.iconst X18.here hx rfl (hb hby at_201)) ?_
      show Go p e below _ (T18.setTop (mkF m 202 #[.val (.int p1), .val (.int p2), .val (.int (1 : Int32)), .val (.int (0 : Int32)), .val (.ref w_TO_KEY_INCOMPLETE), .val (.int (0 : Int32)), .val (.int (1 : Int32)), .val (.int (1 : Int32)), .val (.int (1 : Int32)), .val (.int (1 : Int32)), .unset] [(.int (0 : Int32)), (.int (0 : Int32))]))
      refine Go.via (fun _ => XS.icmpNo X18.here hx rfl (hb hby at_202) rfl (by decide)) ?_
      show Go p e below _ (T18.setTop (mkF m 205 #[.val (.int p1), .val (.int p2), .val (.int (1 : Int32)), .val (.int (0 : Int32)), .val (.ref w_TO_KEY_INCOMPLETE), .val (.int (0 : Int32)), .val (.int (1 : Int32)), .val (.int (1 : Int32)), .val (.int (1 : Int32)), .val (.int (1 : Int32)), .unset] []))
      refine Go.via (fun _ => XS.iconst X18.here hx rfl (hb hby at_205)) ?_
      show Go p e below _ (T18.setTop (mkF m 206 #[.val (.int p1), .val (.int p2), .val (.int (1 : Int32)), .val (.int (0 : Int32)), .val (.ref w_TO_KEY_INCOMPLETE), .val (.int (0 : Int32)), .val (.int (1 : Int32)), .val (.int (1 : Int32)), .val (.int (1 : Int32)), .val (.int (1 : Int32)), .unset] [(.int (1 : Int32))]))
      refine Go.via (fun _ => XS.goto X18.here hx rfl (pc0 := 206) (pc' := 210) rfl (hb hby at_206) (by decide) (by decide)) ?_
      show Go p e below _ (T18.setTop (mkF m 210 #[.val (.int p1), .val (.int p2), .val (.int (1 : Int32)), .val (.int (0 : Int32)), .val (.ref w_TO_KEY_INCOMPLETE), .val (.int (0 : Int32)), .val (.int (1 : Int32)), .val (.int (1 : Int32)), .val (.int (1 : Int32)), .val (.int (1 : Int32)), .unset] [(.int (1 : Int32))]))
      refine Go.via (fun _ => XS.istore X18.here hx rfl (hb hby at_210) rfl (l' := #[.val (.int p1), .val (.int p2), .val (.int (1 : Int32)), .val (.int (0 : Int32)), .val (.ref w_TO_KEY_INCOMPLETE), .val (.int (0 : Int32)), .val (.int (1 : Int32)), .val (.int (1 : Int32)), .val (.int (1 : Int32)), .val (.int (1 : Int32)), .val (.int (1 : Int32))]) rfl) ?_
      show Go p e below _ (T18.setTop (mkF m 212 #[.val (.int p1), .val (.int p2), .val (.int (1 : Int32)), .val (.int (0 : Int32)), .val (.ref w_TO_KEY_INCOMPLETE), .val (.int (0 : Int32)), .val (.int (1 : Int32)), .val (.int (1 : Int32)), .val (.int (1 : Int32)), .val (.int (1 : Int32)), .val (.int (1 : Int32))] []))
      refine Go.via (fun _ => XS.iload X18.here hx rfl (hb hby at_212) rfl) ?_
      show Go p e below _ (T18.setTop (mkF m 214 #[.val (.int p1), .val (.int p2), .val (.int (1 : Int32)), .val (.int (0 : Int32)), .val (.ref w_TO_KEY_INCOMPLETE), .val (.int (0 : Int32)), .val (.int (1 : Int32)), .val (.int (1 : Int32)), .val (.int (1 : Int32)), .val (.int (1 : Int32)), .val (.int (1 : Int32))] [(.int (1 : Int32))]))
      refine Go.via (fun _ => XS.ifNo X18.here hx rfl (hb hby at_214) rfl (by decide)) ?_
      show Go p e below _ (T18.setTop (mkF m 217 #[.val (.int p1), .val (.int p2), .val (.int (1 : Int32)), .val (.int (0 : Int32)), .val (.ref w_TO_KEY_INCOMPLETE), .val (.int (0 : Int32)), .val (.int (1 : Int32)), .val (.int (1 : Int32)), .val (.int (1 : Int32)), .val (.int (1 : Int32)), .val (.int (1 : Int32))] []))
      refine Go.via (fun _ => XS.iload X18.here hx rfl (hb hby at_217) rfl) ?_
      show Go p e below _ (T18.setTop (mkF m 219 #[.val (.int p1), .val (.int p2), .val (.int (1 : Int32)), .val (.int (0 : Int32)), .val (.ref w_TO_KEY_INCOMPLETE), .val (.int (0 : Int32)), .val (.int (1 : Int32)), .val (.int (1 : Int32)), .val (.int (1 : Int32)), .val (.int (1 : Int32)), .val (.int (1 : Int32))] [(.int (1 : Int32))]))
      refine Go.via (fun _ => XS.ifNo X18.here hx rfl (hb hby at_219) rfl (by decide)) ?_
      show Go p e below _ (T18.setTop (mkF m 222 #[.val (.int p1), .val (.int p2), .val (.int (1 : Int32)), .val (.int (0 : Int32)), .val (.ref w_TO_KEY_INCOMPLETE), .val (.int (0 : Int32)), .val (.int (1 : Int32)), .val (.int (1 : Int32)), .val (.int (1 : Int32)), .val (.int (1 : Int32)), .val (.int (1 : Int32))] []))
      refine Go.via (fun _ => XS.iload X18.here hx rfl (hb hby at_222) rfl) ?_
      show Go p e below _ (T18.setTop (mkF m 224 #[.val (.int p1), .val (.int p2), .val (.int (1 : Int32)), .val (.int (0 : Int32)), .val (.ref w_TO_KEY_INCOMPLETE), .val (.int (0 : Int32)), .val (.int (1 : Int32)), .val (.int (1 : Int32)), .val (.int (1 : Int32)), .val (.int (1 : Int32)), .val (.int (1 : Int32))] [(.int (1 : Int32))]))
      refine Go.via (fun _ => XS.ifNo X18.here hx rfl (hb hby at_224) rfl (by decide)) ?_
      show Go p e below _ (T18.setTop (mkF m 227 #[.val (.int p1), .val (.int p2), .val (.int (1 : Int32)), .val (.int (0 : Int32)), .val (.ref w_TO_KEY_INCOMPLETE), .val (.int (0 : Int32)), .val (.int (1 : Int32)), .val (.int (1 : Int32)), .val (.int (1 : Int32)), .val (.int (1 : Int32)), .val (.int (1 : Int32))] []))
      refine Go.via (fun _ => XS.iload X18.here hx rfl (hb hby at_227) rfl) ?_
      show Go p e below _ (T18.setTop (mkF m 229 #[.val (.int p1), .val (.int p2), .val (.int (1 : Int32)), .val (.int (0 : Int32)), .val (.ref w_TO_KEY_INCOMPLETE), .val (.int (0 : Int32)), .val (.int (1 : Int32)), .val (.int (1 : Int32)), .val (.int (1 : Int32)), .val (.int (1 : Int32)), .val (.int (1 : Int32))] [(.int (1 : Int32))]))
      refine Go.via (fun _ => XS.ifNo X18.here hx rfl (hb hby at_229) rfl (by decide)) ?_
      show Go p e below _ (T18.setTop (mkF m 232 #[.val (.int p1), .val (.int p2), .val (.int (1 : Int32)), .val (.int (0 : Int32)), .val (.ref w_TO_KEY_INCOMPLETE), .val (.int (0 : Int32)), .val (.int (1 : Int32)), .val (.int (1 : Int32)), .val (.int (1 : Int32)), .val (.int (1 : Int32)), .val (.int (1 : Int32))] []))
      refine Go.via (fun _ => XS.iconst X18.here hx rfl (hb hby at_232)) ?_
      show Go p e below _ (T18.setTop (mkF m 233 #[.val (.int p1), .val (.int p2), .val (.int (1 : Int32)), .val (.int (0 : Int32)), .val (.ref w_TO_KEY_INCOMPLETE), .val (.int (0 : Int32)), .val (.int (1 : Int32)), .val (.int (1 : Int32)), .val (.int (1 : Int32)), .val (.int (1 : Int32)), .val (.int (1 : Int32))] [(.int (1 : Int32))]))
      refine Go.via (fun _ => XS.goto X18.here hx rfl (pc0 := 233) (pc' := 237) rfl (hb hby at_233) (by decide) (by decide)) ?_
      show Go p e below _ (T18.setTop (mkF m 237 #[.val (.int p1), .val (.int p2), .val (.int (1 : Int32)), .val (.int (0 : Int32)), .val (.ref w_TO_KEY_INCOMPLETE), .val (.int (0 : Int32)), .val (.int (1 : Int32)), .val (.int (1 : Int32)), .val (.int (1 : Int32)), .val (.int (1 : Int32)), .val (.int (1 : Int32))] [(.int (1 : Int32))]))
      exact own_retN X18 hx hlk (t := .boolean) Bd.returns (by simp) (hb hby at_237) (by show Q0 Z p1 p2 w_COMPLETE w_FROM_KEY_INCOMPLETE w_TO_KEY_INCOMPLETE w_BOTH_INCOMPLETE h0 n0 _ T18.heap _; rw [e18]; exact ⟨rfl, N14⟩) (by decide) (by decide)
    · -- no
      show Go p e below _ (s₁.setTop (mkF m 15 #[.val (.int p1), .val (.int p2), .val (.int (1 : Int32)), .unset, .unset, .unset, .unset, .unset, .unset, .unset, .unset] [(.int (p2 &&& (1 : Int32)))]))
      show Go p e below _ (s₁.setTop (mkF m 15 #[.val (.int p1), .val (.int p2), .val (.int (1 : Int32)), .unset, .unset, .unset, .unset, .unset, .unset, .unset, .unset] [(.int (p2 &&& (1 : Int32)))]))
      refine Go.via (fun _ => XS.ifNo X0.here hx rfl (hb hby at_15) rfl ((if0 _ _).trans (feq hc13).1)) ?_
      show Go p e below _ (s₁.setTop (mkF m 18 #[.val (.int p1), .val (.int p2), .val (.int (1 : Int32)), .unset, .unset, .unset, .unset, .unset, .unset, .unset, .unset] []))
      refine Go.via (fun _ => XS.iconst X0.here hx rfl (hb hby at_18)) ?_
      show Go p e below _ (s₁.setTop (mkF m 19 #[.val (.int p1), .val (.int p2), .val (.int (1 : Int32)), .unset, .unset, .unset, .unset, .unset, .unset, .unset, .unset] [(.int (1 : Int32))]))
      refine Go.via (fun _ => XS.goto X0.here hx rfl (pc0 := 19) (pc' := 23) rfl (hb hby at_19) (by decide) (by decide)) ?_
      show Go p e below _ (s₁.setTop (mkF m 23 #[.val (.int p1), .val (.int p2), .val (.int (1 : Int32)), .unset, .unset, .unset, .unset, .unset, .unset, .unset, .unset] [(.int (1 : Int32))]))
      refine Go.via (fun _ => XS.istoreN X0.here hx rfl (hb hby at_23) rfl (l' := #[.val (.int p1), .val (.int p2), .val (.int (1 : Int32)), .val (.int (1 : Int32)), .unset, .unset, .unset, .unset, .unset, .unset, .unset]) rfl) ?_
      show Go p e below _ (s₁.setTop (mkF m 24 #[.val (.int p1), .val (.int p2), .val (.int (1 : Int32)), .val (.int (1 : Int32)), .unset, .unset, .unset, .unset, .unset, .unset, .unset] []))
      refine Go.via (fun _ => XS.iloadN X0.here hx rfl (hb hby at_24) rfl) ?_
      show Go p e below _ (s₁.setTop (mkF m 25 #[.val (.int p1), .val (.int p2), .val (.int (1 : Int32)), .val (.int (1 : Int32)), .unset, .unset, .unset, .unset, .unset, .unset, .unset] [(.int (1 : Int32))]))
      refine Go.via (fun _ => XS.iloadN X0.here hx rfl (hb hby at_25) rfl) ?_
      show Go p e below _ (s₁.setTop (mkF m 26 #[.val (.int p1), .val (.int p2), .val (.int (1 : Int32)), .val (.int (1 : Int32)), .unset, .unset, .unset, .unset, .unset, .unset, .unset] [(.int (1 : Int32)), (.int (1 : Int32))]))
      obtain ⟨_, _, ⟨T19, L19, k19, n19⟩, -, X19, ⟨Lc19, hQ19, l19, y19, z19⟩, st19⟩ := Jvm.LawKit.callS X0 hx (y := (⟨"com/example/pinakes/pinakes/model/CompletionStatus", "of", "(ZZ)Lcom/example/pinakes/pinakes/model/CompletionStatus;"⟩ : MethodName)) hown (mvT hZ (hw _ (List.mem_of_getElem? (i := 0) rfl))) (mvT hZ (hw _ (List.mem_of_getElem? (i := 1) rfl))) (mvT hZ (hw _ (List.mem_of_getElem? (i := 2) rfl))) (mvT hZ (hw _ (List.mem_of_getElem? (i := 3) rfl))) (by decide) (backOf (W := 0) (rm1_11 l Z a0 hw [] w_COMPLETE w_FROM_KEY_INCOMPLETE w_TO_KEY_INCOMPLETE w_BOTH_INCOMPLETE h0 n0 Z0 O0 S_COMPLETE S_FROM_KEY_INCOMPLETE S_TO_KEY_INCOMPLETE S_BOTH_INCOMPLETE) hZ (hw _ (List.mem_of_getElem? (i := 3) rfl)) (hw _ (List.mem_of_getElem? (i := 2) rfl)) (by decide) (by decide)) (g := (mkF m 26 #[.val (.int p1), .val (.int p2), .val (.int (1 : Int32)), .val (.int (1 : Int32)), .unset, .unset, .unset, .unset, .unset, .unset, .unset] [(.int (1 : Int32)), (.int (1 : Int32))])) rfl (by rw [hml]; rfl) (argsL := [(.int (1 : Int32)), (.int (1 : Int32))]) (rest := []) (lenOf pd_0 rfl) rfl (by show 2 * 0 + _ ≤ _; exact Nat.le_of_eq rfl) (hb hby at_26) (fun _ _ => ⟨rfl, e0, (by decide : 0 + 0 ≤ _), (by decide : 0 + 0 ≤ _)⟩)
      dsimp only [Pt.U, Pt.locs, Pt.cells, Pt.slots] at X19 l19 y19 z19 st19 hQ19
      subst l19 y19 z19
      obtain ⟨rfl, N19q, e19q⟩ := hQ19
      have N19 := Fr.app N0 N19q
      refine Go.via st19 ?_
      show Go p e below _ (T19.setTop (mkF m 29 #[.val (.int p1), .val (.int p2), .val (.int (1 : Int32)), .val (.int (1 : Int32)), .unset, .unset, .unset, .unset, .unset, .unset, .unset] [(.ref w_COMPLETE)]))
      refine Go.via (fun _ => XS.astore X19.here hx rfl (hb hby at_29) rfl rfl (l' := #[.val (.int p1), .val (.int p2), .val (.int (1 : Int32)), .val (.int (1 : Int32)), .val (.ref w_COMPLETE), .unset, .unset, .unset, .unset, .unset, .unset]) rfl) ?_
      show Go p e below _ (T19.setTop (mkF m 31 #[.val (.int p1), .val (.int p2), .val (.int (1 : Int32)), .val (.int (1 : Int32)), .val (.ref w_COMPLETE), .unset, .unset, .unset, .unset, .unset, .unset] []))
      refine Go.via (fun _ => XS.aload X19.here hx rfl (hb hby at_31) rfl rfl) ?_
      show Go p e below _ (T19.setTop (mkF m 33 #[.val (.int p1), .val (.int p2), .val (.int (1 : Int32)), .val (.int (1 : Int32)), .val (.ref w_COMPLETE), .unset, .unset, .unset, .unset, .unset, .unset] [(.ref w_COMPLETE)]))
      refine Go.via (fun _ => XS.ifnonnullYes X19.here hx rfl (pc0 := 33) (pc' := 38) rfl (hb hby at_33) rfl (by decide) (by decide)) ?_
      show Go p e below _ (T19.setTop (mkF m 38 #[.val (.int p1), .val (.int p2), .val (.int (1 : Int32)), .val (.int (1 : Int32)), .val (.ref w_COMPLETE), .unset, .unset, .unset, .unset, .unset, .unset] []))
      refine Go.via (fun _ => XS.iloadN X19.here hx rfl (hb hby at_38) rfl) ?_
      show Go p e below _ (T19.setTop (mkF m 39 #[.val (.int p1), .val (.int p2), .val (.int (1 : Int32)), .val (.int (1 : Int32)), .val (.ref w_COMPLETE), .unset, .unset, .unset, .unset, .unset, .unset] [(.int (1 : Int32))]))
      refine Go.via (fun _ => XS.ifYes X19.here hx rfl (pc0 := 39) (pc' := 46) rfl (hb hby at_39) rfl (by decide) (by decide) (by decide)) ?_
      show Go p e below _ (T19.setTop (mkF m 46 #[.val (.int p1), .val (.int p2), .val (.int (1 : Int32)), .val (.int (1 : Int32)), .val (.ref w_COMPLETE), .unset, .unset, .unset, .unset, .unset, .unset] []))
      refine Go.via (fun _ => XS.iconst X19.here hx rfl (hb hby at_46)) ?_
      show Go p e below _ (T19.setTop (mkF m 47 #[.val (.int p1), .val (.int p2), .val (.int (1 : Int32)), .val (.int (1 : Int32)), .val (.ref w_COMPLETE), .unset, .unset, .unset, .unset, .unset, .unset] [(.int (0 : Int32))]))
      refine Go.via (fun _ => XS.istore X19.here hx rfl (hb hby at_47) rfl (l' := #[.val (.int p1), .val (.int p2), .val (.int (1 : Int32)), .val (.int (1 : Int32)), .val (.ref w_COMPLETE), .val (.int (0 : Int32)), .unset, .unset, .unset, .unset, .unset]) rfl) ?_
      show Go p e below _ (T19.setTop (mkF m 49 #[.val (.int p1), .val (.int p2), .val (.int (1 : Int32)), .val (.int (1 : Int32)), .val (.ref w_COMPLETE), .val (.int (0 : Int32)), .unset, .unset, .unset, .unset, .unset] []))
      refine Go.via (fun _ => XS.iloadN X19.here hx rfl (hb hby at_49) rfl) ?_
      show Go p e below _ (T19.setTop (mkF m 50 #[.val (.int p1), .val (.int p2), .val (.int (1 : Int32)), .val (.int (1 : Int32)), .val (.ref w_COMPLETE), .val (.int (0 : Int32)), .unset, .unset, .unset, .unset, .unset] [(.int (1 : Int32))]))
      refine Go.via (fun _ => XS.ifYes X19.here hx rfl (pc0 := 50) (pc' := 57) rfl (hb hby at_50) rfl (by decide) (by decide) (by decide)) ?_
      show Go p e below _ (T19.setTop (mkF m 57 #[.val (.int p1), .val (.int p2), .val (.int (1 : Int32)), .val (.int (1 : Int32)), .val (.ref w_COMPLETE), .val (.int (0 : Int32)), .unset, .unset, .unset, .unset, .unset] []))
      refine Go.via (fun _ => XS.iconst X19.here hx rfl (hb hby at_57)) ?_
      show Go p e below _ (T19.setTop (mkF m 58 #[.val (.int p1), .val (.int p2), .val (.int (1 : Int32)), .val (.int (1 : Int32)), .val (.ref w_COMPLETE), .val (.int (0 : Int32)), .unset, .unset, .unset, .unset, .unset] [(.int (0 : Int32))]))
      refine Go.via (fun _ => XS.istore X19.here hx rfl (hb hby at_58) rfl (l' := #[.val (.int p1), .val (.int p2), .val (.int (1 : Int32)), .val (.int (1 : Int32)), .val (.ref w_COMPLETE), .val (.int (0 : Int32)), .val (.int (0 : Int32)), .unset, .unset, .unset, .unset]) rfl) ?_
      show Go p e below _ (T19.setTop (mkF m 60 #[.val (.int p1), .val (.int p2), .val (.int (1 : Int32)), .val (.int (1 : Int32)), .val (.ref w_COMPLETE), .val (.int (0 : Int32)), .val (.int (0 : Int32)), .unset, .unset, .unset, .unset] []))
      refine Go.via (fun _ => XS.aload X19.here hx rfl (hb hby at_60) rfl rfl) ?_
      show Go p e below _ (T19.setTop (mkF m 62 #[.val (.int p1), .val (.int p2), .val (.int (1 : Int32)), .val (.int (1 : Int32)), .val (.ref w_COMPLETE), .val (.int (0 : Int32)), .val (.int (0 : Int32)), .unset, .unset, .unset, .unset] [(.ref w_COMPLETE)]))
      obtain ⟨T20, X20, e20, st20⟩ := getS2 X19 hx hZ hown (host := "") (Or.inl (hw _ (List.mem_of_getElem? (i := 6) rfl))) Via.refl e19q (S_COMPLETE.ext O0.2) (g := (mkF m 62 #[.val (.int p1), .val (.int p2), .val (.int (1 : Int32)), .val (.int (1 : Int32)), .val (.ref w_COMPLETE), .val (.int (0 : Int32)), .val (.int (0 : Int32)), .unset, .unset, .unset, .unset] [(.ref w_COMPLETE)])) rfl (hb hby at_62)
      refine Go.via st20 ?_
      show Go p e below _ (T20.setTop (mkF m 65 #[.val (.int p1), .val (.int p2), .val (.int (1 : Int32)), .val (.int (1 : Int32)), .val (.ref w_COMPLETE), .val (.int (0 : Int32)), .val (.int (0 : Int32)), .unset, .unset, .unset, .unset] [(.ref w_COMPLETE), (.ref w_COMPLETE)]))
      refine Go.via (fun _ => Jvm.RoadKit.acmp (g := (mkF m 65 #[.val (.int p1), .val (.int p2), .val (.int (1 : Int32)), .val (.int (1 : Int32)), .val (.ref w_COMPLETE), .val (.int (0 : Int32)), .val (.int (0 : Int32)), .unset, .unset, .unset, .unset] [(.ref w_COMPLETE), (.ref w_COMPLETE)])) X20 hx rfl rfl rfl (pc0 := 65) (pc' := 68) (same := true) rfl (hb hby at_65) rfl (decide_eq_true rfl) (by decide) (by decide)) ?_
      show Go p e below _ (T20.setTop (mkF m 68 #[.val (.int p1), .val (.int p2), .val (.int (1 : Int32)), .val (.int (1 : Int32)), .val (.ref w_COMPLETE), .val (.int (0 : Int32)), .val (.int (0 : Int32)), .unset, .unset, .unset, .unset] []))
      refine Go.via (fun _ => XS.iconst X20.here hx rfl (hb hby at_68)) ?_
      show Go p e below _ (T20.setTop (mkF m 69 #[.val (.int p1), .val (.int p2), .val (.int (1 : Int32)), .val (.int (1 : Int32)), .val (.ref w_COMPLETE), .val (.int (0 : Int32)), .val (.int (0 : Int32)), .unset, .unset, .unset, .unset] [(.int (1 : Int32))]))
      refine Go.via (fun _ => XS.goto X20.here hx rfl (pc0 := 69) (pc' := 73) rfl (hb hby at_69) (by decide) (by decide)) ?_
      show Go p e below _ (T20.setTop (mkF m 73 #[.val (.int p1), .val (.int p2), .val (.int (1 : Int32)), .val (.int (1 : Int32)), .val (.ref w_COMPLETE), .val (.int (0 : Int32)), .val (.int (0 : Int32)), .unset, .unset, .unset, .unset] [(.int (1 : Int32))]))
      refine Go.via (fun _ => XS.iload X20.here hx rfl (hb hby at_73) rfl) ?_
      show Go p e below _ (T20.setTop (mkF m 75 #[.val (.int p1), .val (.int p2), .val (.int (1 : Int32)), .val (.int (1 : Int32)), .val (.ref w_COMPLETE), .val (.int (0 : Int32)), .val (.int (0 : Int32)), .unset, .unset, .unset, .unset] [(.int (0 : Int32)), (.int (1 : Int32))]))
      refine Go.via (fun _ => XS.ifNo X20.here hx rfl (hb hby at_75) rfl (by decide)) ?_
      show Go p e below _ (T20.setTop (mkF m 78 #[.val (.int p1), .val (.int p2), .val (.int (1 : Int32)), .val (.int (1 : Int32)), .val (.ref w_COMPLETE), .val (.int (0 : Int32)), .val (.int (0 : Int32)), .unset, .unset, .unset, .unset] [(.int (1 : Int32))]))
      refine Go.via (fun _ => XS.iload X20.here hx rfl (hb hby at_78) rfl) ?_
      show Go p e below _ (T20.setTop (mkF m 80 #[.val (.int p1), .val (.int p2), .val (.int (1 : Int32)), .val (.int (1 : Int32)), .val (.ref w_COMPLETE), .val (.int (0 : Int32)), .val (.int (0 : Int32)), .unset, .unset, .unset, .unset] [(.int (0 : Int32)), (.int (1 : Int32))]))
      refine Go.via (fun _ => XS.ifNo X20.here hx rfl (hb hby at_80) rfl (by decide)) ?_
      show Go p e below _ (T20.setTop (mkF m 83 #[.val (.int p1), .val (.int p2), .val (.int (1 : Int32)), .val (.int (1 : Int32)), .val (.ref w_COMPLETE), .val (.int (0 : Int32)), .val (.int (0 : Int32)), .unset, .unset, .unset, .unset] [(.int (1 : Int32))]))
      refine Go.via (fun _ => XS.iconst X20.here hx rfl (hb hby at_83)) ?_
      show Go p e below _ (T20.setTop (mkF m 84 #[.val (.int p1), .val (.int p2), .val (.int (1 : Int32)), .val (.int (1 : Int32)), .val (.ref w_COMPLETE), .val (.int (0 : Int32)), .val (.int (0 : Int32)), .unset, .unset, .unset, .unset] [(.int (1 : Int32)), (.int (1 : Int32))]))
      refine Go.via (fun _ => XS.goto X20.here hx rfl (pc0 := 84) (pc' := 88) rfl (hb hby at_84) (by decide) (by decide)) ?_
      show Go p e below _ (T20.setTop (mkF m 88 #[.val (.int p1), .val (.int p2), .val (.int (1 : Int32)), .val (.int (1 : Int32)), .val (.ref w_COMPLETE), .val (.int (0 : Int32)), .val (.int (0 : Int32)), .unset, .unset, .unset, .unset] [(.int (1 : Int32)), (.int (1 : Int32))]))
      refine Go.via (fun _ => XS.icmpNo X20.here hx rfl (hb hby at_88) rfl (by decide)) ?_
      show Go p e below _ (T20.setTop (mkF m 91 #[.val (.int p1), .val (.int p2), .val (.int (1 : Int32)), .val (.int (1 : Int32)), .val (.ref w_COMPLETE), .val (.int (0 : Int32)), .val (.int (0 : Int32)), .unset, .unset, .unset, .unset] []))
      refine Go.via (fun _ => XS.iconst X20.here hx rfl (hb hby at_91)) ?_
      show Go p e below _ (T20.setTop (mkF m 92 #[.val (.int p1), .val (.int p2), .val (.int (1 : Int32)), .val (.int (1 : Int32)), .val (.ref w_COMPLETE), .val (.int (0 : Int32)), .val (.int (0 : Int32)), .unset, .unset, .unset, .unset] [(.int (1 : Int32))]))
      refine Go.via (fun _ => XS.goto X20.here hx rfl (pc0 := 92) (pc' := 96) rfl (hb hby at_92) (by decide) (by decide)) ?_
      show Go p e below _ (T20.setTop (mkF m 96 #[.val (.int p1), .val (.int p2), .val (.int (1 : Int32)), .val (.int (1 : Int32)), .val (.ref w_COMPLETE), .val (.int (0 : Int32)), .val (.int (0 : Int32)), .unset, .unset, .unset, .unset] [(.int (1 : Int32))]))
      refine Go.via (fun _ => XS.istore X20.here hx rfl (hb hby at_96) rfl (l' := #[.val (.int p1), .val (.int p2), .val (.int (1 : Int32)), .val (.int (1 : Int32)), .val (.ref w_COMPLETE), .val (.int (0 : Int32)), .val (.int (0 : Int32)), .val (.int (1 : Int32)), .unset, .unset, .unset]) rfl) ?_
      show Go p e below _ (T20.setTop (mkF m 98 #[.val (.int p1), .val (.int p2), .val (.int (1 : Int32)), .val (.int (1 : Int32)), .val (.ref w_COMPLETE), .val (.int (0 : Int32)), .val (.int (0 : Int32)), .val (.int (1 : Int32)), .unset, .unset, .unset] []))
      refine Go.via (fun _ => XS.aload X20.here hx rfl (hb hby at_98) rfl rfl) ?_
      show Go p e below _ (T20.setTop (mkF m 100 #[.val (.int p1), .val (.int p2), .val (.int (1 : Int32)), .val (.int (1 : Int32)), .val (.ref w_COMPLETE), .val (.int (0 : Int32)), .val (.int (0 : Int32)), .val (.int (1 : Int32)), .unset, .unset, .unset] [(.ref w_COMPLETE)]))
      obtain ⟨T21, X21, e21, st21⟩ := getS2 X20 hx hZ hown (host := "") (Or.inl (hw _ (List.mem_of_getElem? (i := 8) rfl))) Via.refl e20 (S_FROM_KEY_INCOMPLETE.ext O0.2) (g := (mkF m 100 #[.val (.int p1), .val (.int p2), .val (.int (1 : Int32)), .val (.int (1 : Int32)), .val (.ref w_COMPLETE), .val (.int (0 : Int32)), .val (.int (0 : Int32)), .val (.int (1 : Int32)), .unset, .unset, .unset] [(.ref w_COMPLETE)])) rfl (hb hby at_100)
      refine Go.via st21 ?_
      show Go p e below _ (T21.setTop (mkF m 103 #[.val (.int p1), .val (.int p2), .val (.int (1 : Int32)), .val (.int (1 : Int32)), .val (.ref w_COMPLETE), .val (.int (0 : Int32)), .val (.int (0 : Int32)), .val (.int (1 : Int32)), .unset, .unset, .unset] [(.ref w_FROM_KEY_INCOMPLETE), (.ref w_COMPLETE)]))
      refine Go.via (fun _ => Jvm.RoadKit.acmp (g := (mkF m 103 #[.val (.int p1), .val (.int p2), .val (.int (1 : Int32)), .val (.int (1 : Int32)), .val (.ref w_COMPLETE), .val (.int (0 : Int32)), .val (.int (0 : Int32)), .val (.int (1 : Int32)), .unset, .unset, .unset] [(.ref w_FROM_KEY_INCOMPLETE), (.ref w_COMPLETE)])) X21 hx rfl rfl rfl (pc0 := 103) (pc' := 110) (same := false) rfl (hb hby at_103) rfl (decide_eq_false fun q => (ne_COMPLETE_FROM_KEY_INCOMPLETE) (Value.ref.inj q)) (by decide) (by decide)) ?_
      show Go p e below _ (T21.setTop (mkF m 110 #[.val (.int p1), .val (.int p2), .val (.int (1 : Int32)), .val (.int (1 : Int32)), .val (.ref w_COMPLETE), .val (.int (0 : Int32)), .val (.int (0 : Int32)), .val (.int (1 : Int32)), .unset, .unset, .unset] []))
      refine Go.via (fun _ => XS.iconst X21.here hx rfl (hb hby at_110)) ?_
      show Go p e below _ (T21.setTop (mkF m 111 #[.val (.int p1), .val (.int p2), .val (.int (1 : Int32)), .val (.int (1 : Int32)), .val (.ref w_COMPLETE), .val (.int (0 : Int32)), .val (.int (0 : Int32)), .val (.int (1 : Int32)), .unset, .unset, .unset] [(.int (0 : Int32))]))
      refine Go.via (fun _ => XS.iload X21.here hx rfl (hb hby at_111) rfl) ?_
      show Go p e below _ (T21.setTop (mkF m 113 #[.val (.int p1), .val (.int p2), .val (.int (1 : Int32)), .val (.int (1 : Int32)), .val (.ref w_COMPLETE), .val (.int (0 : Int32)), .val (.int (0 : Int32)), .val (.int (1 : Int32)), .unset, .unset, .unset] [(.int (0 : Int32)), (.int (0 : Int32))]))
      refine Go.via (fun _ => XS.ifYes X21.here hx rfl (pc0 := 113) (pc' := 125) rfl (hb hby at_113) rfl (by decide) (by decide) (by decide)) ?_
      show Go p e below _ (T21.setTop (mkF m 125 #[.val (.int p1), .val (.int p2), .val (.int (1 : Int32)), .val (.int (1 : Int32)), .val (.ref w_COMPLETE), .val (.int (0 : Int32)), .val (.int (0 : Int32)), .val (.int (1 : Int32)), .unset, .unset, .unset] [(.int (0 : Int32))]))
      refine Go.via (fun _ => XS.iconst X21.here hx rfl (hb hby at_125)) ?_
      show Go p e below _ (T21.setTop (mkF m 126 #[.val (.int p1), .val (.int p2), .val (.int (1 : Int32)), .val (.int (1 : Int32)), .val (.ref w_COMPLETE), .val (.int (0 : Int32)), .val (.int (0 : Int32)), .val (.int (1 : Int32)), .unset, .unset, .unset] [(.int (0 : Int32)), (.int (0 : Int32))]))
      refine Go.via (fun _ => XS.icmpNo X21.here hx rfl (hb hby at_126) rfl (by decide)) ?_
      show Go p e below _ (T21.setTop (mkF m 129 #[.val (.int p1), .val (.int p2), .val (.int (1 : Int32)), .val (.int (1 : Int32)), .val (.ref w_COMPLETE), .val (.int (0 : Int32)), .val (.int (0 : Int32)), .val (.int (1 : Int32)), .unset, .unset, .unset] []))
      refine Go.via (fun _ => XS.iconst X21.here hx rfl (hb hby at_129)) ?_
      show Go p e below _ (T21.setTop (mkF m 130 #[.val (.int p1), .val (.int p2), .val (.int (1 : Int32)), .val (.int (1 : Int32)), .val (.ref w_COMPLETE), .val (.int (0 : Int32)), .val (.int (0 : Int32)), .val (.int (1 : Int32)), .unset, .unset, .unset] [(.int (1 : Int32))]))
      refine Go.via (fun _ => XS.goto X21.here hx rfl (pc0 := 130) (pc' := 134) rfl (hb hby at_130) (by decide) (by decide)) ?_
      show Go p e below _ (T21.setTop (mkF m 134 #[.val (.int p1), .val (.int p2), .val (.int (1 : Int32)), .val (.int (1 : Int32)), .val (.ref w_COMPLETE), .val (.int (0 : Int32)), .val (.int (0 : Int32)), .val (.int (1 : Int32)), .unset, .unset, .unset] [(.int (1 : Int32))]))
      refine Go.via (fun _ => XS.istore X21.here hx rfl (hb hby at_134) rfl (l' := #[.val (.int p1), .val (.int p2), .val (.int (1 : Int32)), .val (.int (1 : Int32)), .val (.ref w_COMPLETE), .val (.int (0 : Int32)), .val (.int (0 : Int32)), .val (.int (1 : Int32)), .val (.int (1 : Int32)), .unset, .unset]) rfl) ?_
      show Go p e below _ (T21.setTop (mkF m 136 #[.val (.int p1), .val (.int p2), .val (.int (1 : Int32)), .val (.int (1 : Int32)), .val (.ref w_COMPLETE), .val (.int (0 : Int32)), .val (.int (0 : Int32)), .val (.int (1 : Int32)), .val (.int (1 : Int32)), .unset, .unset] []))
      refine Go.via (fun _ => XS.aload X21.here hx rfl (hb hby at_136) rfl rfl) ?_
      show Go p e below _ (T21.setTop (mkF m 138 #[.val (.int p1), .val (.int p2), .val (.int (1 : Int32)), .val (.int (1 : Int32)), .val (.ref w_COMPLETE), .val (.int (0 : Int32)), .val (.int (0 : Int32)), .val (.int (1 : Int32)), .val (.int (1 : Int32)), .unset, .unset] [(.ref w_COMPLETE)]))
      obtain ⟨T22, X22, e22, st22⟩ := getS2 X21 hx hZ hown (host := "") (Or.inl (hw _ (List.mem_of_getElem? (i := 9) rfl))) Via.refl e21 (S_TO_KEY_INCOMPLETE.ext O0.2) (g := (mkF m 138 #[.val (.int p1), .val (.int p2), .val (.int (1 : Int32)), .val (.int (1 : Int32)), .val (.ref w_COMPLETE), .val (.int (0 : Int32)), .val (.int (0 : Int32)), .val (.int (1 : Int32)), .val (.int (1 : Int32)), .unset, .unset] [(.ref w_COMPLETE)])) rfl (hb hby at_138)
      refine Go.via st22 ?_
      show Go p e below _ (T22.setTop (mkF m 141 #[.val (.int p1), .val (.int p2), .val (.int (1 : Int32)), .val (.int (1 : Int32)), .val (.ref w_COMPLETE), .val (.int (0 : Int32)), .val (.int (0 : Int32)), .val (.int (1 : Int32)), .val (.int (1 : Int32)), .unset, .unset] [(.ref w_TO_KEY_INCOMPLETE), (.ref w_COMPLETE)]))
      refine Go.via (fun _ => Jvm.RoadKit.acmp (g := (mkF m 141 #[.val (.int p1), .val (.int p2), .val (.int (1 : Int32)), .val (.int (1 : Int32)), .val (.ref w_COMPLETE), .val (.int (0 : Int32)), .val (.int (0 : Int32)), .val (.int (1 : Int32)), .val (.int (1 : Int32)), .unset, .unset] [(.ref w_TO_KEY_INCOMPLETE), (.ref w_COMPLETE)])) X22 hx rfl rfl rfl (pc0 := 141) (pc' := 148) (same := false) rfl (hb hby at_141) rfl (decide_eq_false fun q => (ne_COMPLETE_TO_KEY_INCOMPLETE) (Value.ref.inj q)) (by decide) (by decide)) ?_
      show Go p e below _ (T22.setTop (mkF m 148 #[.val (.int p1), .val (.int p2), .val (.int (1 : Int32)), .val (.int (1 : Int32)), .val (.ref w_COMPLETE), .val (.int (0 : Int32)), .val (.int (0 : Int32)), .val (.int (1 : Int32)), .val (.int (1 : Int32)), .unset, .unset] []))
      refine Go.via (fun _ => XS.iconst X22.here hx rfl (hb hby at_148)) ?_
      show Go p e below _ (T22.setTop (mkF m 149 #[.val (.int p1), .val (.int p2), .val (.int (1 : Int32)), .val (.int (1 : Int32)), .val (.ref w_COMPLETE), .val (.int (0 : Int32)), .val (.int (0 : Int32)), .val (.int (1 : Int32)), .val (.int (1 : Int32)), .unset, .unset] [(.int (0 : Int32))]))
      refine Go.via (fun _ => XS.iload X22.here hx rfl (hb hby at_149) rfl) ?_
      show Go p e below _ (T22.setTop (mkF m 151 #[.val (.int p1), .val (.int p2), .val (.int (1 : Int32)), .val (.int (1 : Int32)), .val (.ref w_COMPLETE), .val (.int (0 : Int32)), .val (.int (0 : Int32)), .val (.int (1 : Int32)), .val (.int (1 : Int32)), .unset, .unset] [(.int (0 : Int32)), (.int (0 : Int32))]))
      refine Go.via (fun _ => XS.ifNo X22.here hx rfl (hb hby at_151) rfl (by decide)) ?_
      show Go p e below _ (T22.setTop (mkF m 154 #[.val (.int p1), .val (.int p2), .val (.int (1 : Int32)), .val (.int (1 : Int32)), .val (.ref w_COMPLETE), .val (.int (0 : Int32)), .val (.int (0 : Int32)), .val (.int (1 : Int32)), .val (.int (1 : Int32)), .unset, .unset] [(.int (0 : Int32))]))
      refine Go.via (fun _ => XS.iload X22.here hx rfl (hb hby at_154) rfl) ?_
      show Go p e below _ (T22.setTop (mkF m 156 #[.val (.int p1), .val (.int p2), .val (.int (1 : Int32)), .val (.int (1 : Int32)), .val (.ref w_COMPLETE), .val (.int (0 : Int32)), .val (.int (0 : Int32)), .val (.int (1 : Int32)), .val (.int (1 : Int32)), .unset, .unset] [(.int (0 : Int32)), (.int (0 : Int32))]))
      refine Go.via (fun _ => XS.ifYes X22.here hx rfl (pc0 := 156) (pc' := 163) rfl (hb hby at_156) rfl (by decide) (by decide) (by decide)) ?_
      show Go p e below _ (T22.setTop (mkF m 163 #[.val (.int p1), .val (.int p2), .val (.int (1 : Int32)), .val (.int (1 : Int32)), .val (.ref w_COMPLETE), .val (.int (0 : Int32)), .val (.int (0 : Int32)), .val (.int (1 : Int32)), .val (.int (1 : Int32)), .unset, .unset] [(.int (0 : Int32))]))
      refine Go.via (fun _ => XS.iconst X22.here hx rfl (hb hby at_163)) ?_
      show Go p e below _ (T22.setTop (mkF m 164 #[.val (.int p1), .val (.int p2), .val (.int (1 : Int32)), .val (.int (1 : Int32)), .val (.ref w_COMPLETE), .val (.int (0 : Int32)), .val (.int (0 : Int32)), .val (.int (1 : Int32)), .val (.int (1 : Int32)), .unset, .unset] [(.int (0 : Int32)), (.int (0 : Int32))]))
      refine Go.via (fun _ => XS.icmpNo X22.here hx rfl (hb hby at_164) rfl (by decide)) ?_
      show Go p e below _ (T22.setTop (mkF m 167 #[.val (.int p1), .val (.int p2), .val (.int (1 : Int32)), .val (.int (1 : Int32)), .val (.ref w_COMPLETE), .val (.int (0 : Int32)), .val (.int (0 : Int32)), .val (.int (1 : Int32)), .val (.int (1 : Int32)), .unset, .unset] []))
      refine Go.via (fun _ => XS.iconst X22.here hx rfl (hb hby at_167)) ?_
      show Go p e below _ (T22.setTop (mkF m 168 #[.val (.int p1), .val (.int p2), .val (.int (1 : Int32)), .val (.int (1 : Int32)), .val (.ref w_COMPLETE), .val (.int (0 : Int32)), .val (.int (0 : Int32)), .val (.int (1 : Int32)), .val (.int (1 : Int32)), .unset, .unset] [(.int (1 : Int32))]))
      refine Go.via (fun _ => XS.goto X22.here hx rfl (pc0 := 168) (pc' := 172) rfl (hb hby at_168) (by decide) (by decide)) ?_
      show Go p e below _ (T22.setTop (mkF m 172 #[.val (.int p1), .val (.int p2), .val (.int (1 : Int32)), .val (.int (1 : Int32)), .val (.ref w_COMPLETE), .val (.int (0 : Int32)), .val (.int (0 : Int32)), .val (.int (1 : Int32)), .val (.int (1 : Int32)), .unset, .unset] [(.int (1 : Int32))]))
      refine Go.via (fun _ => XS.istore X22.here hx rfl (hb hby at_172) rfl (l' := #[.val (.int p1), .val (.int p2), .val (.int (1 : Int32)), .val (.int (1 : Int32)), .val (.ref w_COMPLETE), .val (.int (0 : Int32)), .val (.int (0 : Int32)), .val (.int (1 : Int32)), .val (.int (1 : Int32)), .val (.int (1 : Int32)), .unset]) rfl) ?_
      show Go p e below _ (T22.setTop (mkF m 174 #[.val (.int p1), .val (.int p2), .val (.int (1 : Int32)), .val (.int (1 : Int32)), .val (.ref w_COMPLETE), .val (.int (0 : Int32)), .val (.int (0 : Int32)), .val (.int (1 : Int32)), .val (.int (1 : Int32)), .val (.int (1 : Int32)), .unset] []))
      refine Go.via (fun _ => XS.aload X22.here hx rfl (hb hby at_174) rfl rfl) ?_
      show Go p e below _ (T22.setTop (mkF m 176 #[.val (.int p1), .val (.int p2), .val (.int (1 : Int32)), .val (.int (1 : Int32)), .val (.ref w_COMPLETE), .val (.int (0 : Int32)), .val (.int (0 : Int32)), .val (.int (1 : Int32)), .val (.int (1 : Int32)), .val (.int (1 : Int32)), .unset] [(.ref w_COMPLETE)]))
      obtain ⟨T23, X23, e23, st23⟩ := getS2 X22 hx hZ hown (host := "") (Or.inl (hw _ (List.mem_of_getElem? (i := 11) rfl))) Via.refl e22 (S_BOTH_INCOMPLETE.ext O0.2) (g := (mkF m 176 #[.val (.int p1), .val (.int p2), .val (.int (1 : Int32)), .val (.int (1 : Int32)), .val (.ref w_COMPLETE), .val (.int (0 : Int32)), .val (.int (0 : Int32)), .val (.int (1 : Int32)), .val (.int (1 : Int32)), .val (.int (1 : Int32)), .unset] [(.ref w_COMPLETE)])) rfl (hb hby at_176)
      refine Go.via st23 ?_
      show Go p e below _ (T23.setTop (mkF m 179 #[.val (.int p1), .val (.int p2), .val (.int (1 : Int32)), .val (.int (1 : Int32)), .val (.ref w_COMPLETE), .val (.int (0 : Int32)), .val (.int (0 : Int32)), .val (.int (1 : Int32)), .val (.int (1 : Int32)), .val (.int (1 : Int32)), .unset] [(.ref w_BOTH_INCOMPLETE), (.ref w_COMPLETE)]))
      refine Go.via (fun _ => Jvm.RoadKit.acmp (g := (mkF m 179 #[.val (.int p1), .val (.int p2), .val (.int (1 : Int32)), .val (.int (1 : Int32)), .val (.ref w_COMPLETE), .val (.int (0 : Int32)), .val (.int (0 : Int32)), .val (.int (1 : Int32)), .val (.int (1 : Int32)), .val (.int (1 : Int32)), .unset] [(.ref w_BOTH_INCOMPLETE), (.ref w_COMPLETE)])) X23 hx rfl rfl rfl (pc0 := 179) (pc' := 186) (same := false) rfl (hb hby at_179) rfl (decide_eq_false fun q => (ne_COMPLETE_BOTH_INCOMPLETE) (Value.ref.inj q)) (by decide) (by decide)) ?_
      show Go p e below _ (T23.setTop (mkF m 186 #[.val (.int p1), .val (.int p2), .val (.int (1 : Int32)), .val (.int (1 : Int32)), .val (.ref w_COMPLETE), .val (.int (0 : Int32)), .val (.int (0 : Int32)), .val (.int (1 : Int32)), .val (.int (1 : Int32)), .val (.int (1 : Int32)), .unset] []))
      refine Go.via (fun _ => XS.iconst X23.here hx rfl (hb hby at_186)) ?_
      show Go p e below _ (T23.setTop (mkF m 187 #[.val (.int p1), .val (.int p2), .val (.int (1 : Int32)), .val (.int (1 : Int32)), .val (.ref w_COMPLETE), .val (.int (0 : Int32)), .val (.int (0 : Int32)), .val (.int (1 : Int32)), .val (.int (1 : Int32)), .val (.int (1 : Int32)), .unset] [(.int (0 : Int32))]))
      refine Go.via (fun _ => XS.iload X23.here hx rfl (hb hby at_187) rfl) ?_
      show Go p e below _ (T23.setTop (mkF m 189 #[.val (.int p1), .val (.int p2), .val (.int (1 : Int32)), .val (.int (1 : Int32)), .val (.ref w_COMPLETE), .val (.int (0 : Int32)), .val (.int (0 : Int32)), .val (.int (1 : Int32)), .val (.int (1 : Int32)), .val (.int (1 : Int32)), .unset] [(.int (0 : Int32)), (.int (0 : Int32))]))
      refine Go.via (fun _ => XS.ifYes X23.here hx rfl (pc0 := 189) (pc' := 201) rfl (hb hby at_189) rfl (by decide) (by decide) (by decide)) ?_
      show Go p e below _ (T23.setTop (mkF m 201 #[.val (.int p1), .val (.int p2), .val (.int (1 : Int32)), .val (.int (1 : Int32)), .val (.ref w_COMPLETE), .val (.int (0 : Int32)), .val (.int (0 : Int32)), .val (.int (1 : Int32)), .val (.int (1 : Int32)), .val (.int (1 : Int32)), .unset] [(.int (0 : Int32))]))
      refine Go.via (fun _ => XS.iconst X23.here hx rfl (hb hby at_201)) ?_
      show Go p e below _ (T23.setTop (mkF m 202 #[.val (.int p1), .val (.int p2), .val (.int (1 : Int32)), .val (.int (1 : Int32)), .val (.ref w_COMPLETE), .val (.int (0 : Int32)), .val (.int (0 : Int32)), .val (.int (1 : Int32)), .val (.int (1 : Int32)), .val (.int (1 : Int32)), .unset] [(.int (0 : Int32)), (.int (0 : Int32))]))
      refine Go.via (fun _ => XS.icmpNo X23.here hx rfl (hb hby at_202) rfl (by decide)) ?_
      show Go p e below _ (T23.setTop (mkF m 205 #[.val (.int p1), .val (.int p2), .val (.int (1 : Int32)), .val (.int (1 : Int32)), .val (.ref w_COMPLETE), .val (.int (0 : Int32)), .val (.int (0 : Int32)), .val (.int (1 : Int32)), .val (.int (1 : Int32)), .val (.int (1 : Int32)), .unset] []))
      refine Go.via (fun _ => XS.iconst X23.here hx rfl (hb hby at_205)) ?_
      show Go p e below _ (T23.setTop (mkF m 206 #[.val (.int p1), .val (.int p2), .val (.int (1 : Int32)), .val (.int (1 : Int32)), .val (.ref w_COMPLETE), .val (.int (0 : Int32)), .val (.int (0 : Int32)), .val (.int (1 : Int32)), .val (.int (1 : Int32)), .val (.int (1 : Int32)), .unset] [(.int (1 : Int32))]))
      refine Go.via (fun _ => XS.goto X23.here hx rfl (pc0 := 206) (pc' := 210) rfl (hb hby at_206) (by decide) (by decide)) ?_
      show Go p e below _ (T23.setTop (mkF m 210 #[.val (.int p1), .val (.int p2), .val (.int (1 : Int32)), .val (.int (1 : Int32)), .val (.ref w_COMPLETE), .val (.int (0 : Int32)), .val (.int (0 : Int32)), .val (.int (1 : Int32)), .val (.int (1 : Int32)), .val (.int (1 : Int32)), .unset] [(.int (1 : Int32))]))
      refine Go.via (fun _ => XS.istore X23.here hx rfl (hb hby at_210) rfl (l' := #[.val (.int p1), .val (.int p2), .val (.int (1 : Int32)), .val (.int (1 : Int32)), .val (.ref w_COMPLETE), .val (.int (0 : Int32)), .val (.int (0 : Int32)), .val (.int (1 : Int32)), .val (.int (1 : Int32)), .val (.int (1 : Int32)), .val (.int (1 : Int32))]) rfl) ?_
      show Go p e below _ (T23.setTop (mkF m 212 #[.val (.int p1), .val (.int p2), .val (.int (1 : Int32)), .val (.int (1 : Int32)), .val (.ref w_COMPLETE), .val (.int (0 : Int32)), .val (.int (0 : Int32)), .val (.int (1 : Int32)), .val (.int (1 : Int32)), .val (.int (1 : Int32)), .val (.int (1 : Int32))] []))
      refine Go.via (fun _ => XS.iload X23.here hx rfl (hb hby at_212) rfl) ?_
      show Go p e below _ (T23.setTop (mkF m 214 #[.val (.int p1), .val (.int p2), .val (.int (1 : Int32)), .val (.int (1 : Int32)), .val (.ref w_COMPLETE), .val (.int (0 : Int32)), .val (.int (0 : Int32)), .val (.int (1 : Int32)), .val (.int (1 : Int32)), .val (.int (1 : Int32)), .val (.int (1 : Int32))] [(.int (1 : Int32))]))
      refine Go.via (fun _ => XS.ifNo X23.here hx rfl (hb hby at_214) rfl (by decide)) ?_
      show Go p e below _ (T23.setTop (mkF m 217 #[.val (.int p1), .val (.int p2), .val (.int (1 : Int32)), .val (.int (1 : Int32)), .val (.ref w_COMPLETE), .val (.int (0 : Int32)), .val (.int (0 : Int32)), .val (.int (1 : Int32)), .val (.int (1 : Int32)), .val (.int (1 : Int32)), .val (.int (1 : Int32))] []))
      refine Go.via (fun _ => XS.iload X23.here hx rfl (hb hby at_217) rfl) ?_
      show Go p e below _ (T23.setTop (mkF m 219 #[.val (.int p1), .val (.int p2), .val (.int (1 : Int32)), .val (.int (1 : Int32)), .val (.ref w_COMPLETE), .val (.int (0 : Int32)), .val (.int (0 : Int32)), .val (.int (1 : Int32)), .val (.int (1 : Int32)), .val (.int (1 : Int32)), .val (.int (1 : Int32))] [(.int (1 : Int32))]))
      refine Go.via (fun _ => XS.ifNo X23.here hx rfl (hb hby at_219) rfl (by decide)) ?_
      show Go p e below _ (T23.setTop (mkF m 222 #[.val (.int p1), .val (.int p2), .val (.int (1 : Int32)), .val (.int (1 : Int32)), .val (.ref w_COMPLETE), .val (.int (0 : Int32)), .val (.int (0 : Int32)), .val (.int (1 : Int32)), .val (.int (1 : Int32)), .val (.int (1 : Int32)), .val (.int (1 : Int32))] []))
      refine Go.via (fun _ => XS.iload X23.here hx rfl (hb hby at_222) rfl) ?_
      show Go p e below _ (T23.setTop (mkF m 224 #[.val (.int p1), .val (.int p2), .val (.int (1 : Int32)), .val (.int (1 : Int32)), .val (.ref w_COMPLETE), .val (.int (0 : Int32)), .val (.int (0 : Int32)), .val (.int (1 : Int32)), .val (.int (1 : Int32)), .val (.int (1 : Int32)), .val (.int (1 : Int32))] [(.int (1 : Int32))]))
      refine Go.via (fun _ => XS.ifNo X23.here hx rfl (hb hby at_224) rfl (by decide)) ?_
      show Go p e below _ (T23.setTop (mkF m 227 #[.val (.int p1), .val (.int p2), .val (.int (1 : Int32)), .val (.int (1 : Int32)), .val (.ref w_COMPLETE), .val (.int (0 : Int32)), .val (.int (0 : Int32)), .val (.int (1 : Int32)), .val (.int (1 : Int32)), .val (.int (1 : Int32)), .val (.int (1 : Int32))] []))
      refine Go.via (fun _ => XS.iload X23.here hx rfl (hb hby at_227) rfl) ?_
      show Go p e below _ (T23.setTop (mkF m 229 #[.val (.int p1), .val (.int p2), .val (.int (1 : Int32)), .val (.int (1 : Int32)), .val (.ref w_COMPLETE), .val (.int (0 : Int32)), .val (.int (0 : Int32)), .val (.int (1 : Int32)), .val (.int (1 : Int32)), .val (.int (1 : Int32)), .val (.int (1 : Int32))] [(.int (1 : Int32))]))
      refine Go.via (fun _ => XS.ifNo X23.here hx rfl (hb hby at_229) rfl (by decide)) ?_
      show Go p e below _ (T23.setTop (mkF m 232 #[.val (.int p1), .val (.int p2), .val (.int (1 : Int32)), .val (.int (1 : Int32)), .val (.ref w_COMPLETE), .val (.int (0 : Int32)), .val (.int (0 : Int32)), .val (.int (1 : Int32)), .val (.int (1 : Int32)), .val (.int (1 : Int32)), .val (.int (1 : Int32))] []))
      refine Go.via (fun _ => XS.iconst X23.here hx rfl (hb hby at_232)) ?_
      show Go p e below _ (T23.setTop (mkF m 233 #[.val (.int p1), .val (.int p2), .val (.int (1 : Int32)), .val (.int (1 : Int32)), .val (.ref w_COMPLETE), .val (.int (0 : Int32)), .val (.int (0 : Int32)), .val (.int (1 : Int32)), .val (.int (1 : Int32)), .val (.int (1 : Int32)), .val (.int (1 : Int32))] [(.int (1 : Int32))]))
      refine Go.via (fun _ => XS.goto X23.here hx rfl (pc0 := 233) (pc' := 237) rfl (hb hby at_233) (by decide) (by decide)) ?_
      show Go p e below _ (T23.setTop (mkF m 237 #[.val (.int p1), .val (.int p2), .val (.int (1 : Int32)), .val (.int (1 : Int32)), .val (.ref w_COMPLETE), .val (.int (0 : Int32)), .val (.int (0 : Int32)), .val (.int (1 : Int32)), .val (.int (1 : Int32)), .val (.int (1 : Int32)), .val (.int (1 : Int32))] [(.int (1 : Int32))]))
      exact own_retN X23 hx hlk (t := .boolean) Bd.returns (by simp) (hb hby at_237) (by show Q0 Z p1 p2 w_COMPLETE w_FROM_KEY_INCOMPLETE w_TO_KEY_INCOMPLETE w_BOTH_INCOMPLETE h0 n0 _ T23.heap _; rw [e23]; exact ⟨rfl, N19⟩) (by decide) (by decide)
theorem own_eq_int {t : Term} {n : Int32} {args : Array Value} {s : State} (h : (Cond.eq t (.int n)).value args s none s [] = some true) : t.eval args s none [] s = some (.int n) := by
  simp only [Cond.value, Term.eval] at h
  split at h <;> simp_all
set_option maxRecDepth 65536 in
set_option maxHeartbeats 40000000 in
theorem comes_1 {Post : Tables → Env → Array Value → State → Outcome → State → Prop} (hpost : ∀ tb e args s v u, (limb_1_1.after args s (.returned v) u = true ∧ limb_1_2.after args s (.returned v) u = true ∧ True) → FrameEnd s (.returned v) u (Jvm.fieldLocs frame_1_writes args s ++ Jvm.arrayLocs frame_1_arrays args s ++ Jvm.staticLocs frame_1_statics s) 0 0 → Post tb e args s (.returned v) u) :
    ArmFor flags0 classFile x code maxLocals ret World_1 tables_1 room_1 Calls_1 rest_1 Pre_1 Post := by
  intro l hfl _ _ p e ha hc hk s m args below hf hA hF happ hP
  obtain ⟨hcalls, hrest, hpre⟩ := hP
  obtain ⟨-, -, -, hnamed, -, -, -, hat⟩ := (Spec.applies_iff hf).mp happ
  obtain ⟨hg, hn⟩ := and_e (Cond.before_iff.mp (show (Jvm.Cond.and given_1 narrow_1).before args s = true from hpre))
  obtain ⟨g1, g2⟩ := and_e hg
  obtain ⟨g3, g4⟩ := and_e g2
  obtain ⟨g5, g6⟩ := and_e hn
  obtain ⟨g7, g8⟩ := and_e g6
  obtain ⟨g9, g10⟩ := and_e g8
  obtain ⟨g11, g12⟩ := and_e g10
  obtain ⟨g13, g14⟩ := and_e g12
  obtain ⟨g15, g16⟩ := and_e g14
  obtain ⟨g17, g18⟩ := and_e g16
  obtain ⟨w0, w1, rfl⟩ : ∃ w0 w1 : Value, args = #[w0, w1] := by
    have hs : args.size = 2 := by simpa [Cond.value, given_1] using g1
    obtain ⟨L⟩ := args
    match L, hs with
    | [w0, w1], _ => exact ⟨w0, w1, rfl⟩
  have hw := fun d (hd : d ∈ tables_1) => atoms_spec (ws := Jvm.Cond.code x code maxLocals ret :: tables_1) hat d (List.mem_cons_of_mem _ hd)
  have hfit : Fit s := fun {y c} hc i hi => by
    obtain ⟨ha, rfl⟩ := Array.getElem?_eq_some_iff.mp hc
    have q := List.all_eq_true.mp ((Array.all_eq_true_iff_forall_mem.mp hF) _ (Array.getElem_mem ha)) i (List.mem_range.mpr hi)
    simpa [Array.getElem?_eq_getElem hi] using q
  obtain ⟨i0, ei0⟩ := is_v g3
  obtain rfl : w0 = (.int i0) := Option.some.inj ei0
  obtain ⟨i1, ei1⟩ := is_v g4
  obtain rfl : w1 = (.int i1) := Option.some.inj ei1
  obtain ⟨w_FROM_KEY_INCOMPLETE, ev_FROM_KEY_INCOMPLETE⟩ := exa_v g5
  have E_FROM_KEY_INCOMPLETE := Exa.start ev_FROM_KEY_INCOMPLETE g5
  have S_FROM_KEY_INCOMPLETE := Sta.start ev_FROM_KEY_INCOMPLETE (Or.inr ⟨(hw _ (List.mem_of_getElem? (i := 2) rfl)), (hw _ (List.mem_of_getElem? (i := 5) rfl))⟩)
  obtain ⟨w_COMPLETE, ev_COMPLETE⟩ := exa_v g7
  have E_COMPLETE := Exa.start ev_COMPLETE g7
  have S_COMPLETE := Sta.start ev_COMPLETE (Or.inr ⟨(hw _ (List.mem_of_getElem? (i := 2) rfl)), (hw _ (List.mem_of_getElem? (i := 7) rfl))⟩)
  obtain ⟨w_TO_KEY_INCOMPLETE, ev_TO_KEY_INCOMPLETE⟩ := exa_v g13
  have E_TO_KEY_INCOMPLETE := Exa.start ev_TO_KEY_INCOMPLETE g13
  have S_TO_KEY_INCOMPLETE := Sta.start ev_TO_KEY_INCOMPLETE (Or.inr ⟨(hw _ (List.mem_of_getElem? (i := 2) rfl)), (hw _ (List.mem_of_getElem? (i := 10) rfl))⟩)
  obtain ⟨w_BOTH_INCOMPLETE, ev_BOTH_INCOMPLETE⟩ := exa_v g17
  have E_BOTH_INCOMPLETE := Exa.start ev_BOTH_INCOMPLETE g17
  have S_BOTH_INCOMPLETE := Sta.start ev_BOTH_INCOMPLETE (Or.inr ⟨(hw _ (List.mem_of_getElem? (i := 2) rfl)), (hw _ (List.mem_of_getElem? (i := 12) rfl))⟩)
  have F_FROM_KEY_INCOMPLETE : Fld s s.heap w_FROM_KEY_INCOMPLETE "java/lang/Enum" "ordinal" "I" (.int (1 : Int32)) := Fld.start ((fld_at ev_FROM_KEY_INCOMPLETE).symm.trans (own_eq_int g9))
  have F_COMPLETE : Fld s s.heap w_COMPLETE "java/lang/Enum" "ordinal" "I" (.int (0 : Int32)) := Fld.start ((fld_at ev_COMPLETE).symm.trans (own_eq_int g11))
  have F_TO_KEY_INCOMPLETE : Fld s s.heap w_TO_KEY_INCOMPLETE "java/lang/Enum" "ordinal" "I" (.int (2 : Int32)) := Fld.start ((fld_at ev_TO_KEY_INCOMPLETE).symm.trans (own_eq_int g15))
  have F_BOTH_INCOMPLETE : Fld s s.heap w_BOTH_INCOMPLETE "java/lang/Enum" "ordinal" "I" (.int (3 : Int32)) := Fld.start ((fld_at ev_BOTH_INCOMPLETE).symm.trans (own_eq_int g18))
  have ne_COMPLETE_FROM_KEY_INCOMPLETE : w_COMPLETE ≠ w_FROM_KEY_INCOMPLETE := Fld.ne F_COMPLETE F_FROM_KEY_INCOMPLETE (fun q => absurd (Value.int.inj q) (by decide))
  have ne_COMPLETE_TO_KEY_INCOMPLETE : w_COMPLETE ≠ w_TO_KEY_INCOMPLETE := Fld.ne F_COMPLETE F_TO_KEY_INCOMPLETE (fun q => absurd (Value.int.inj q) (by decide))
  have ne_COMPLETE_BOTH_INCOMPLETE : w_COMPLETE ≠ w_BOTH_INCOMPLETE := Fld.ne F_COMPLETE F_BOTH_INCOMPLETE (fun q => absurd (Value.int.inj q) (by decide))
  have ne_FROM_KEY_INCOMPLETE_TO_KEY_INCOMPLETE : w_FROM_KEY_INCOMPLETE ≠ w_TO_KEY_INCOMPLETE := Fld.ne F_FROM_KEY_INCOMPLETE F_TO_KEY_INCOMPLETE (fun q => absurd (Value.int.inj q) (by decide))
  have ne_FROM_KEY_INCOMPLETE_BOTH_INCOMPLETE : w_FROM_KEY_INCOMPLETE ≠ w_BOTH_INCOMPLETE := Fld.ne F_FROM_KEY_INCOMPLETE F_BOTH_INCOMPLETE (fun q => absurd (Value.int.inj q) (by decide))
  have ne_TO_KEY_INCOMPLETE_BOTH_INCOMPLETE : w_TO_KEY_INCOMPLETE ≠ w_BOTH_INCOMPLETE := Fld.ne F_TO_KEY_INCOMPLETE F_BOTH_INCOMPLETE (fun q => absurd (Value.int.inj q) (by decide))
  obtain ⟨n, o, h1, h2, h3, _, L, rfl, ⟨rfl, N⟩, hq⟩ := rm0 l s _ hw tables_1 i0 i1 w_COMPLETE w_FROM_KEY_INCOMPLETE w_TO_KEY_INCOMPLETE w_BOTH_INCOMPLETE s.heap s.heap.size (Nat.le_refl _) (Old.start s) S_COMPLETE S_FROM_KEY_INCOMPLETE S_TO_KEY_INCOMPLETE S_BOTH_INCOMPLETE ne_COMPLETE_FROM_KEY_INCOMPLETE ne_COMPLETE_TO_KEY_INCOMPLETE ne_COMPLETE_BOTH_INCOMPLETE ne_FROM_KEY_INCOMPLETE_TO_KEY_INCOMPLETE ne_FROM_KEY_INCOMPLETE_BOTH_INCOMPLETE ne_TO_KEY_INCOMPLETE_BOTH_INCOMPLETE p e ha hc hk s m _ below hf ((Spec.applies_iff_loose hf).mp happ).1 ⟨rfl, State.Warmed39.refl s, rfl⟩ trivial
  refine ⟨n, _, h1, h2, h3, hpost _ _ _ _ _ _ ⟨Cond.after_iff.mpr rfl, Cond.after_iff.mpr (eq_i res_at (Term.int_eval (1)) rfl), trivial⟩ ⟨hq.1, hq.2.1, (hq.2.2.sift fun y hy => Or.inr (N y hy)).mono (by decide) (by decide)⟩⟩
theorem main_1_1 : Claimed_1_1 := comes_1 fun _ _ _ _ _ _ h hF => ⟨h.1, hF⟩
theorem main_1_2 : Claimed_1_2 := comes_1 fun _ _ _ _ _ _ h hF => ⟨h.2.1, hF⟩
end Jvm.Pilot.@@N@@
namespace Jvm.Pilot.@@N@@
open Jvm Jvm.ClassFile Sem Op Lib Jvm.Free Jvm.Stand Jvm.Pilot.@@N@@.Jvm.D
/-! MADE BY PROGRAM (witnessworld.py) out of the Statement's table words and the real class files: 12 classes; the members and pool entries that the words name. The judged class is class 1, her method 1. -/
namespace start1
open Jvm.ClassFile
def u (s : String) : CpInfo := .utf8 (stringToUtf16 s)
/-- a pool by its gaps: so many unusable entries, then the entry; so many at the end -/
def gap : Nat → List CpInfo → List CpInfo
  | 0, r => r
  | n + 1, r => .unusable :: gap n r
def poolList (es : List (Nat × CpInfo)) (last : Nat) : List CpInfo := es.foldr (fun e r => gap e.1 (e.2 :: r)) (gap last [])
def pool (es : List (Nat × CpInfo)) (last : Nat) : Array CpInfo := ⟨poolList es last⟩
def fileOf (pool : Array CpInfo) (this : Nat) (attrs : Array Attribute := #[]) (ms : Array MethodInfo := #[]) (fl : Nat := 33) (sup : Nat := 0) (ifs : Array Nat := #[]) (fds : Array FieldInfo := #[]) : ClassFile where
  minorVersion := 0
  majorVersion := 65
  constantPool := pool
  accessFlags := fl
  thisClass := this
  superClass := sup
  interfaces := ifs
  fields := fds
  methods := ms
  attributes := attrs
def plain (name : String) (sup : Option ClassId) : Class where
  name := name
  kind := .ordinary
  loader := none
  accessFlags := 33
  super := sup
  interfaces := #[]
  cf := none
  fields := #[]
  methods := #[]
  instanceTypes := #[]
  staticTypes := #[]
  resolved := #[]
  callSites := []
  init := .initialized
  statics := none
  mirror := none

def pool0 : Array CpInfo := pool [(5, u "<init>"), (0, u "()V"), (1, .class_ 10), (1, u "java/lang/Object")] 113

def k0m0 : Method := { name := "<init>", desc := "()V", sig := { parameters := [], returnType := none }, accessFlags := 1, code := none }
/-- java/lang/Object -/
def k0 : Class := { plain "java/lang/Object" none with
  accessFlags := 33
  interfaces := #[]
  cf := some (fileOf pool0 8 #[] #[{ accessFlags := 1, nameIndex := 5, descriptorIndex := 6, attributes := #[] }] 33 0 #[] #[])
  fields := #[]
  methods := #[k0m0]
  instanceTypes := #[]
  staticTypes := #[]
  resolved := Array.replicate 124 none
  statics := none }

def pool1 : Array CpInfo := pool [(2, .class_ 4), (1, u "java/lang/Object"), (0, u "<init>"), (0, u "()V"), (0, .methodref 8 9), (0, .class_ 10), (0, .nameAndType 11 12), (0, u "com/example/pinakes/pinakes/model/CompletionStatus"), (0, u "of"), (0, u "(ZZ)Lcom/example/pinakes/pinakes/model/CompletionStatus;"), (0, .fieldref 8 14), (0, .nameAndType 15 16), (0, u "COMPLETE"), (0, u "Lcom/example/pinakes/pinakes/model/CompletionStatus;"), (0, .fieldref 8 18), (0, .nameAndType 19 16), (0, u "FROM_KEY_INCOMPLETE"), (0, .fieldref 8 21), (0, .nameAndType 22 16), (0, u "TO_KEY_INCOMPLETE"), (0, .fieldref 8 24), (0, .nameAndType 25 16), (0, u "BOTH_INCOMPLETE"), (0, .class_ 27), (0, u "com/example/pinakes/pinakes/model/CompletionStatusOfPinLaw"), (2, u "law"), (0, u "(II)Z")] 3

def k1m0 : Method := { name := "<init>", desc := "()V", sig := { parameters := [], returnType := none }, accessFlags := 2, code := none }
def k1c1 : Code := { maxStack := 2, maxLocals := 11, code := code, exceptionTable := #[], attributes := #[] }
def k1m1 : Method := { name := "law", desc := "(II)Z", sig := { parameters := [.int, .int], returnType := some .boolean }, accessFlags := 9, code := some k1c1 }
/-- com/example/pinakes/pinakes/model/CompletionStatusOfPinLaw -/
def k1 : Class := { plain "com/example/pinakes/pinakes/model/CompletionStatusOfPinLaw" (some 0) with
  accessFlags := 49
  interfaces := #[]
  cf := some (fileOf pool1 26 #[] #[{ accessFlags := 2, nameIndex := 5, descriptorIndex := 6, attributes := #[] }, { accessFlags := 9, nameIndex := 30, descriptorIndex := 31, attributes := #[] }] 49 2 #[] #[])
  fields := #[]
  methods := #[k1m0, k1m1]
  instanceTypes := #[]
  staticTypes := #[]
  resolved := Array.replicate 35 none
  statics := none }

def pool2 : Array CpInfo := pool [(1, .class_ 2), (0, u "java/lang/constant/Constable"), (0, .class_ 4), (0, u "java/lang/Object")] 6

/-- java/lang/constant/Constable -/
def k2 : Class := { plain "java/lang/constant/Constable" (some 0) with
  accessFlags := 1537
  interfaces := #[]
  cf := some (fileOf pool2 1 #[] #[] 1537 3 #[] #[])
  fields := #[]
  methods := #[]
  instanceTypes := #[]
  staticTypes := #[]
  resolved := Array.replicate 11 none
  statics := none }

def pool3 : Array CpInfo := pool [(1, .class_ 2), (0, u "java/lang/Comparable"), (0, .class_ 4), (0, u "java/lang/Object")] 7

/-- java/lang/Comparable -/
def k3 : Class := { plain "java/lang/Comparable" (some 0) with
  accessFlags := 1537
  interfaces := #[]
  cf := some (fileOf pool3 1 #[] #[] 1537 3 #[] #[])
  fields := #[]
  methods := #[]
  instanceTypes := #[]
  staticTypes := #[]
  resolved := Array.replicate 12 none
  statics := none }

def pool4 : Array CpInfo := pool [(1, .class_ 2), (0, u "java/io/Serializable"), (0, .class_ 4), (0, u "java/lang/Object")] 2

/-- java/io/Serializable -/
def k4 : Class := { plain "java/io/Serializable" (some 0) with
  accessFlags := 1537
  interfaces := #[]
  cf := some (fileOf pool4 1 #[] #[] 1537 3 #[] #[])
  fields := #[]
  methods := #[]
  instanceTypes := #[]
  staticTypes := #[]
  resolved := Array.replicate 7 none
  statics := none }

def pool5 : Array CpInfo := pool [(2, .class_ 4), (1, u "java/lang/Enum"), (0, u "name"), (0, u "Ljava/lang/String;"), (2, u "ordinal"), (0, u "I"), (1, .class_ 14), (1, u "java/lang/Object"), (4, u "hash"), (86, .class_ 108), (1, u "java/lang/Enum$EnumDesc"), (2, .class_ 112), (0, u "java/lang/constant/Constable"), (0, .class_ 114), (0, u "java/lang/Comparable"), (0, .class_ 116), (0, u "java/io/Serializable")] 87

/-- java/lang/Enum -/
def k5 : Class := { plain "java/lang/Enum" (some 0) with
  accessFlags := 1057
  interfaces := #[2, 3, 4]
  cf := some (fileOf pool5 2 #[.nestMembers #[106]] #[] 1057 12 #[111, 113, 115] #[{ accessFlags := 18, nameIndex := 5, descriptorIndex := 6, attributes := #[] }, { accessFlags := 18, nameIndex := 9, descriptorIndex := 10, attributes := #[] }, { accessFlags := 2, nameIndex := 19, descriptorIndex := 10, attributes := #[] }])
  fields := #[{ name := "name", type := (.object "java/lang/String"), accessFlags := 18, slot := 0, constantValue := 0 }, { name := "ordinal", type := .int, accessFlags := 18, slot := 1, constantValue := 0 }, { name := "hash", type := .int, accessFlags := 2, slot := 2, constantValue := 0 }]
  methods := #[]
  instanceTypes := #[(.object "java/lang/String"), .int, .int]
  staticTypes := #[]
  resolved := Array.replicate 204 none
  statics := none }

def pool6 : Array CpInfo := pool [(1, .class_ 2), (0, u "com/example/pinakes/pinakes/model/CompletionStatus"), (0, .fieldref 1 4), (0, .nameAndType 5 6), (0, u "COMPLETE"), (0, u "Lcom/example/pinakes/pinakes/model/CompletionStatus;"), (0, .fieldref 1 8), (0, .nameAndType 9 6), (0, u "FROM_KEY_INCOMPLETE"), (0, .fieldref 1 11), (0, .nameAndType 12 6), (0, u "TO_KEY_INCOMPLETE"), (0, .fieldref 1 14), (0, .nameAndType 15 6), (0, u "BOTH_INCOMPLETE"), (2, u "$VALUES"), (0, u "[Lcom/example/pinakes/pinakes/model/CompletionStatus;"), (6, .class_ 28), (1, u "java/lang/Enum"), (8, u "value"), (0, u "Ljava/lang/String;"), (34, u "of"), (0, u "(ZZ)Lcom/example/pinakes/pinakes/model/CompletionStatus;")] 8

def k6c0 : Code := { maxStack := 1, maxLocals := 3, code := prog_10_method_4_code, exceptionTable := #[], attributes := #[] }
def k6m0 : Method := { name := "of", desc := "(ZZ)Lcom/example/pinakes/pinakes/model/CompletionStatus;", sig := { parameters := [.boolean, .boolean], returnType := some (.object "com/example/pinakes/pinakes/model/CompletionStatus") }, accessFlags := 9, code := some k6c0 }
/-- com/example/pinakes/pinakes/model/CompletionStatus -/
def k6 : Class := { plain "com/example/pinakes/pinakes/model/CompletionStatus" (some 5) with
  accessFlags := 16433
  interfaces := #[]
  cf := some (fileOf pool6 1 #[] #[{ accessFlags := 9, nameIndex := 73, descriptorIndex := 74, attributes := #[] }] 16433 26 #[] #[{ accessFlags := 16409, nameIndex := 5, descriptorIndex := 6, attributes := #[] }, { accessFlags := 16409, nameIndex := 9, descriptorIndex := 6, attributes := #[] }, { accessFlags := 16409, nameIndex := 12, descriptorIndex := 6, attributes := #[] }, { accessFlags := 16409, nameIndex := 15, descriptorIndex := 6, attributes := #[] }, { accessFlags := 18, nameIndex := 37, descriptorIndex := 38, attributes := #[] }, { accessFlags := 4122, nameIndex := 18, descriptorIndex := 19, attributes := #[] }])
  fields := #[{ name := "COMPLETE", type := (.object "com/example/pinakes/pinakes/model/CompletionStatus"), accessFlags := 16409, slot := 0, constantValue := 0 }, { name := "FROM_KEY_INCOMPLETE", type := (.object "com/example/pinakes/pinakes/model/CompletionStatus"), accessFlags := 16409, slot := 1, constantValue := 0 }, { name := "TO_KEY_INCOMPLETE", type := (.object "com/example/pinakes/pinakes/model/CompletionStatus"), accessFlags := 16409, slot := 2, constantValue := 0 }, { name := "BOTH_INCOMPLETE", type := (.object "com/example/pinakes/pinakes/model/CompletionStatus"), accessFlags := 16409, slot := 3, constantValue := 0 }, { name := "value", type := (.object "java/lang/String"), accessFlags := 18, slot := 3, constantValue := 0 }, { name := "$VALUES", type := (.array (.object "com/example/pinakes/pinakes/model/CompletionStatus")), accessFlags := 4122, slot := 4, constantValue := 0 }]
  methods := #[k6m0]
  instanceTypes := #[(.object "java/lang/String"), .int, .int, (.object "java/lang/String")]
  staticTypes := #[(.object "com/example/pinakes/pinakes/model/CompletionStatus"), (.object "com/example/pinakes/pinakes/model/CompletionStatus"), (.object "com/example/pinakes/pinakes/model/CompletionStatus"), (.object "com/example/pinakes/pinakes/model/CompletionStatus"), (.array (.object "com/example/pinakes/pinakes/model/CompletionStatus"))]
  resolved := Array.replicate 83 none
  statics := some 0 }

def pool7 : Array CpInfo := pool [(1, u "java/lang/Cloneable"), (0, .class_ 1), (0, u "java/lang/Object"), (0, .class_ 3)] 3

/-- java/lang/Cloneable -/
def k7 : Class := { plain "java/lang/Cloneable" (some 0) with
  accessFlags := 1537
  interfaces := #[]
  cf := some (fileOf pool7 2 #[] #[] 1537 4 #[] #[])
  fields := #[]
  methods := #[]
  instanceTypes := #[]
  staticTypes := #[]
  resolved := Array.replicate 8 none
  statics := none }

/-- the primitive byte -/
def k8 : Class := { plain "byte" none with kind := .primitive 'B', accessFlags := 0x411 }
/-- [B -/
def k9 : Class := { plain "[B" (some 0) with kind := .array 8 .byte, interfaces := #[7, 4], accessFlags := 1041 }

/-- the primitive int -/
def k10 : Class := { plain "int" none with kind := .primitive 'I', accessFlags := 0x411 }
/-- [I -/
def k11 : Class := { plain "[I" (some 0) with kind := .array 10 .int, interfaces := #[7, 4], accessFlags := 1041 }

def heap : Heap := #[{ cls := 6, slots := #[.ref 1, .ref 2, .ref 3, .ref 4, .null], vm := .statics 6 },
  { cls := 6, slots := #[.null, .int 0, .int 0, .null], vm := .none },
  { cls := 6, slots := #[.null, .int 1, .int 0, .null], vm := .none },
  { cls := 6, slots := #[.null, .int 2, .int 0, .null], vm := .none },
  { cls := 6, slots := #[.null, .int 3, .int 0, .null], vm := .none }]
def classes : Array Class := #[k0, k1, k2, k3, k4, k5, k6, k7, k8, k9, k10, k11]
def interned : List (Array UInt16 × Addr) := []
def slotsUsed : Nat := 21
def theMethod : MethodId := ⟨1, 1⟩
def args0 : Array Value := #[.int 5, .int 6]
def aboutOver (below : List Frame) : State where
  vm := { classes := classes, interned := interned.toArray }
  heap := heap
  slotsUsed := slotsUsed
  threads := #[{ frames := .invoking theMethod args0 :: below }]
def below0 : List Frame := [.native { method := ⟨0, 0⟩, args := #[] }]
def about1 : State := aboutOver below0
def p0 : Program := .bare "" "" ""
def e0 : Env := launch0.env 0 0 0
theorem w_frames : about1.frames = Frame.invoking theMethod args0 :: below0 := rfl
set_option maxRecDepth 65536 in
theorem w_args : argsFit about1.vm theMethod args0 = true := by decide +kernel
set_option maxRecDepth 65536 in
theorem w_heap : heapFits about1 = true := by decide +kernel
set_option maxRecDepth 65536 in
theorem w_runnable : about1.curStatus? = some .runnable := by decide +kernel
set_option maxRecDepth 65536 in
theorem w_alone : about1.alone = true := by decide +kernel
set_option maxRecDepth 65536 in
theorem w_named : about1.methodNamed? x = some theMethod := by decide +kernel
set_option maxRecDepth 65536 in
theorem w_hears : about1.hears theMethod below0 = true := by decide +kernel
set_option maxRecDepth 65536 in
theorem w_ripe : about1.ripe theMethod args0 below0 = true := by decide +kernel
theorem w_running : about1.status = .running := rfl
set_option maxRecDepth 65536 in
theorem w_room : about1.hasRoom e0.platform room_1 = true :=
  launch0.hasRoom_least _ room_1 (by decide +kernel) (by decide +kernel) (by decide +kernel) (by decide +kernel) (by decide +kernel) (by decide +kernel)
theorem allAtoms_all (ts : List Jvm.Cond) (a : Array Jvm.Value) (st : Jvm.State) : (allAtoms ts).before a st = ts.all (fun c => c.before a st) := by
  induction ts with
  | nil => rfl
  | cons c t ih =>
    show (Jvm.Cond.and c (allAtoms t)).before a st = _
    rw [Jvm.Cond.before_and, ih, List.all_cons]
def words1 : List Jvm.Cond := Jvm.Cond.code x code maxLocals ret :: tables_1
/-- a 'code' word, met by the world's own term for the bytes: nothing is compared byte by byte -/
theorem code_word {y : MethodName} {bytes : ByteArray} {mx : Nat} {rt : Option FieldType} {a : Array Value} {s : State} {m : MethodId} {meth : Method} {c : Code} (h1 : s.methodNamed? y = some m) (h2 : s.vm.method? m = some meth) (h3 : meth.code = some c) (h4 : c.code = bytes)
    (h5 : (c.maxLocals == mx && c.exceptionTable.isEmpty && decide (c.maxStack ≤ mostOperands) && decide (meth.sig.returnType = rt) && !meth.locks && decide (parseMethodDescriptor y.desc = some meth.sig)) = true) : (Jvm.Cond.code y bytes mx rt).before a s = true := by
  simp only [Bool.and_eq_true, beq_iff_eq, Bool.not_eq_true', decide_eq_true_eq] at h5
  obtain ⟨⟨⟨⟨⟨g1, g2⟩, g3⟩, g4⟩, g5⟩, g6⟩ := h5
  simp [Cond.before, Cond.holds, Cond.value, h1, h2, h3, h4, g1, g2, g3, g4, g5, g6]
def isCode : Jvm.Cond → Bool
  | .code _ _ _ _ => true
  | _ => false
theorem all_split {L : List Jvm.Cond} {P : Jvm.Cond → Bool} (h1 : L.all (fun c => isCode c || P c) = true) (h2 : ∀ c ∈ L.filter isCode, P c = true) : L.all P = true := by
  refine List.all_eq_true.mpr fun c hc => ?_
  have h := List.all_eq_true.mp h1 c hc
  rcases Bool.eq_false_or_eq_true (isCode c) with hi | hi
  · exact h2 c (List.mem_filter.mpr ⟨hc, hi⟩)
  · simpa [hi] using h
set_option maxRecDepth 65536 in
theorem w_c0 : (Jvm.Cond.code x code maxLocals ret).before args0 about1 = true := code_word (m := ⟨1, 1⟩) (meth := k1m1) (c := k1c1) (by decide +kernel) rfl rfl rfl (by decide +kernel)
set_option maxRecDepth 65536 in
theorem w_c1 : (Jvm.Cond.code ({ cls := "com/example/pinakes/pinakes/model/CompletionStatus", name := "of", desc := "(ZZ)Lcom/example/pinakes/pinakes/model/CompletionStatus;" } : Jvm.MethodName) prog_10_method_4_code (3 : Nat) (Option.some (Jvm.ClassFile.FieldType.object "com/example/pinakes/pinakes/model/CompletionStatus"))).before args0 about1 = true := code_word (m := ⟨6, 0⟩) (meth := k6m0) (c := k6c0) (by decide +kernel) rfl rfl rfl (by decide +kernel)
def codes1 : List Jvm.Cond := [Jvm.Cond.code x code maxLocals ret, Jvm.Cond.code ({ cls := "com/example/pinakes/pinakes/model/CompletionStatus", name := "of", desc := "(ZZ)Lcom/example/pinakes/pinakes/model/CompletionStatus;" } : Jvm.MethodName) prog_10_method_4_code (3 : Nat) (Option.some (Jvm.ClassFile.FieldType.object "com/example/pinakes/pinakes/model/CompletionStatus"))]
set_option maxRecDepth 65536 in
theorem codes_eq : words1.filter isCode = codes1 := rfl
theorem w_codes : ∀ c ∈ words1.filter isCode, c.before args0 about1 = true := by
  rw [codes_eq]
  intro c hc
  simp only [codes1, List.mem_cons, List.not_mem_nil, or_false] at hc
  rcases hc with rfl | rfl
  · exact w_c0
  · exact w_c1
set_option maxRecDepth 65536 in
theorem w_t1 : words1.all (fun c => isCode c || c.before args0 about1) = true := by decide +kernel
theorem w_tables : (allAtoms (Jvm.Cond.code x code maxLocals ret :: tables_1)).before args0 about1 = true := by
  rw [allAtoms_all]
  show words1.all (fun c => c.before args0 about1) = true
  refine all_split ?_ w_codes
  rw [w_t1]
set_option maxRecDepth 65536 in
theorem w_case : (Jvm.Cond.and given_1 narrow_1).before args0 about1 = true := by decide +kernel
theorem w_applies : (headSpec (Jvm.Cond.code x code maxLocals ret :: tables_1) room_1).applies x e0.platform about1 = true :=
  (Spec.applies_iff w_frames).mpr ⟨w_running, w_runnable, w_alone, w_named, w_hears, w_ripe, w_room, w_tables⟩
theorem atStart : AtStart classFile x code maxLocals ret World_1 tables_1 room_1 Calls_1 rest_1 Pre_1 launch0 p0 e0 about1 theMethod args0 below0 :=
  ⟨lists_1, trivial, launch0.admits_env _ _ _, launch0.least_env, fairChoices_fair.cas, fairChoices_fair.clock, w_frames, w_args, w_heap, w_applies, trivial, trivial, w_case⟩
end start1
theorem witness_1 : WitnessClaimed_1 := ⟨start1.p0, start1.e0, start1.about1, start1.theMethod, start1.args0, start1.below0, start1.atStart⟩
end Jvm.Pilot.@@N@@
