import JvmDerived
import JvmDerived.Pilot.@@N@@Statement
import JvmDerived.Pilot.@@N@@Code
set_option linter.unusedVariables false
set_option linter.unusedSimpArgs false
@@BLOCK:NumsL.lean.txt@@
namespace Jvm.Pilot.@@N@@
open Jvm Jvm.ClassFile Sem Op Lib Jvm.Free Jvm.Stand Jvm.LawKit Jvm.RoadKit Bundle Jvm.Pilot.@@N@@.Jvm.D
section Own
variable {p : Program} {l : Launch} {e : Env} {R : Room} {s : State} {m : MethodId} {args : Array Value} {below : List Frame} {meth : Method} {c : Code} {T : State} {locs : List Loc} {cells slots : Nat}
def Go (p : Program) (e : Env) (below : List Frame) (F : State → Outcome → Prop) (t : State) : Prop := ∃ s₂ o, Steps p.tables e below t s₂ ∧ F s₂ o
theorem Go.via {F : State → Outcome → Prop} {a b : State} (h : ∀ t, Steps p.tables e below b t → Steps p.tables e below a t) (g : Go p e below F b) : Go p e below F a := by
  obtain ⟨s₂, o, k, f⟩ := g
  exact ⟨s₂, o, h _ k, f⟩
theorem Go.tr {F : State → Outcome → Prop} {a b : State} (h : Steps p.tables e below a b) (g : Go p e below F b) : Go p e below F a := by
  obtain ⟨s₂, o, k, f⟩ := g
  exact ⟨s₂, o, h.trans k, f⟩
def FinE (s : State) (below : List Frame) (Q : Option Value → Heap → List Loc → Prop) (C S : Nat) (s₂ : State) (o : Outcome) : Prop := s₂.status = .running ∧ Ended s₂ below o ∧ ∃ v L, o = .returned v ∧ Q v s₂.heap L ∧ FrameEnd s o s₂ L C S
variable {Q : Option Value → Heap → List Loc → Prop} {C S : Nat}
theorem own_retN (X : Stand p l e R s m args below meth c T locs cells slots) (hx : p.tables.exec = Jvm.exec) (hlk : meth.locks = false) {pc : Nat} {Ls : Array Slot} {z : Int32} {t : FieldType} {rest : List Value} (hret : meth.sig.returnType = some t) (ht : t = .boolean ∨ t = .byte ∨ t = .char ∨ t = .short)
    (hd : decode c.code pc = .ok (.ireturn, 1)) (hQ : Q (some (.int (nar t z))) T.heap locs) (hc : cells ≤ C) (hs : slots ≤ S) : Go p e below (FinE s below Q C S) (T.setTop (mkF m pc Ls (.int z :: rest))) := by
  obtain ⟨fs, hr, hrun, hended, hW, hsame⟩ := X.leave (v := some (.int (nar t z))) (fun h => by rw [hret] at h; cases h) hlk
  exact ⟨_, _, retN X hx hret ht hd hr, hrun, hended, _, _, rfl, hQ, ⟨_, rfl⟩, hW, hsame.mono hc hs⟩
theorem own_retI (X : Stand p l e R s m args below meth c T locs cells slots) (hx : p.tables.exec = Jvm.exec) (hlk : meth.locks = false) {pc : Nat} {Ls : Array Slot} {z : Int32} {rest : List Value} (hret : meth.sig.returnType = some .int)
    (hd : decode c.code pc = .ok (.ireturn, 1)) (hQ : Q (some (.int z)) T.heap locs) (hc : cells ≤ C) (hs : slots ≤ S) : Go p e below (FinE s below Q C S) (T.setTop (mkF m pc Ls (.int z :: rest))) := by
  obtain ⟨fs, hr, hrun, hended, hW, hsame⟩ := X.leave (v := some (.int z)) (fun h => by rw [hret] at h; cases h) hlk
  refine ⟨T.setFrames fs, _, ?_, hrun, hended, _, _, rfl, hQ, ⟨_, rfl⟩, hW, hsame.mono hc hs⟩
  have hm' : T.vm.method? m = some meth := X.method'
  have hn : narrow .int (.int z) = .int z := rfl
  show Steps p.tables e below (T.setTop { method := m, pc := pc, locals := Ls, stack := _ :: rest, locked := none }) _
  jvm_step X.here [X.here.top, hx, hd, hm', hret, hn]
  first | (intro acts; rw [hr _ acts rfl rfl rfl]) | rw [hr _ _ rfl rfl rfl]
  exact Steps.refl _
theorem own_retA (X : Stand p l e R s m args below meth c T locs cells slots) (hx : p.tables.exec = Jvm.exec) (hlk : meth.locks = false) {pc : Nat} {Ls : Array Slot} {v : Value} {rest : List Value} {t : FieldType} (hret : meth.sig.returnType = some t) (ht : t.isReference = true) (hv : v.isRef = true)
    (hd : decode c.code pc = .ok (.areturn, 1)) (hQ : Q (some v) T.heap locs) (hc : cells ≤ C) (hs : slots ≤ S) : Go p e below (FinE s below Q C S) (T.setTop (mkF m pc Ls (v :: rest))) := by
  obtain ⟨fs, hr, hrun, hended, hW, hsame⟩ := X.leave (v := some v) (fun h => by rw [hret] at h; cases h) hlk
  refine ⟨T.setFrames fs, _, ?_, hrun, hended, _, _, rfl, hQ, ⟨_, rfl⟩, hW, hsame.mono hc hs⟩
  have hm' : T.vm.method? m = some meth := X.method'
  show Steps p.tables e below (T.setTop { method := m, pc := pc, locals := Ls, stack := _ :: rest, locked := none }) _
  jvm_step X.here [X.here.top, hx, hd, hm', hret, hv, ht]
  first | (intro acts; rw [hr _ acts rfl rfl rfl]) | rw [hr _ _ rfl rfl rfl]
  exact Steps.refl _
theorem own_retV (X : Stand p l e R s m args below meth c T locs cells slots) (hx : p.tables.exec = Jvm.exec) (hlk : meth.locks = false) {pc : Nat} {Ls : Array Slot} (hret : meth.sig.returnType = none)
    (hd : decode c.code pc = .ok (.return_, 1)) (hQ : Q none T.heap locs) (hc : cells ≤ C) (hs : slots ≤ S) : Go p e below (FinE s below Q C S) (T.setTop (mkF m pc Ls [])) := by
  obtain ⟨fs, hr, hrun, hended, hW, hsame⟩ := X.leave (v := none) (fun _ => rfl) hlk
  exact ⟨T.setFrames fs, _, X.returnOut hx hret hd hr, hrun, hended, _, _, rfl, hQ, ⟨_, rfl⟩, hW, hsame.mono hc hs⟩
def FinW (s : State) (below : List Frame) (Q : Option Value → Heap → List Loc → Prop) (C S : Nat) (s₂ : State) (o : Outcome) : Prop := s₂.status = .running ∧ Ended s₂ below o ∧ ∃ v L, o = .returned v ∧ Q v s₂.heap L ∧ ReturnedEndW s o s₂ L C S
theorem own_mono {s t : State} {o : Outcome} {L : List Loc} {k n k' n' : Nat} (h : ReturnedEndW s o t L k n) (hk : k ≤ k') (hn : n ≤ n') : ReturnedEndW s o t L k' n' := ⟨h.1, h.2.1, h.2.2.1, h.2.2.2.mono hk hn⟩
theorem own_retNW {vm₁ : Vm} {kk : Nat} (X : Stand p l e R (s.setVm vm₁) m args below meth c T locs cells slots) (hS : s.Since vm₁ kk) (hk : kk ≤ T.heap.size) (hx : p.tables.exec = Jvm.exec) (hlk : meth.locks = false) {pc : Nat} {Ls : Array Slot} {z : Int32} {t : FieldType} {rest : List Value} (hret : meth.sig.returnType = some t) (ht : t = .boolean ∨ t = .byte ∨ t = .char ∨ t = .short)
    (hd : decode c.code pc = .ok (.ireturn, 1)) (hQ : Q (some (.int (nar t z))) T.heap locs) (hc : cells ≤ C) (hs : slots ≤ S) : Go p e below (FinW s below Q C S) (T.setTop (mkF m pc Ls (.int z :: rest))) := by
  obtain ⟨fs, hr, hrun, hended, hW⟩ := X.leaveW hS hk (v := some (.int (nar t z))) (fun h => by rw [hret] at h; cases h) hlk
  exact ⟨_, _, retN X hx hret ht hd hr, hrun, hended, _, _, rfl, hQ, own_mono hW hc hs⟩
theorem own_retAW {vm₁ : Vm} {kk : Nat} (X : Stand p l e R (s.setVm vm₁) m args below meth c T locs cells slots) (hS : s.Since vm₁ kk) (hk : kk ≤ T.heap.size) (hx : p.tables.exec = Jvm.exec) (hlk : meth.locks = false) {pc : Nat} {Ls : Array Slot} {v : Value} {rest : List Value} {t : FieldType} (hret : meth.sig.returnType = some t) (ht : t.isReference = true) (hv : v.isRef = true)
    (hd : decode c.code pc = .ok (.areturn, 1)) (hQ : Q (some v) T.heap locs) (hc : cells ≤ C) (hs : slots ≤ S) : Go p e below (FinW s below Q C S) (T.setTop (mkF m pc Ls (v :: rest))) := by
  obtain ⟨fs, hr, hrun, hended, hW⟩ := X.leaveW hS hk (v := some v) (fun h => by rw [hret] at h; cases h) hlk
  refine ⟨T.setFrames fs, _, ?_, hrun, hended, _, _, rfl, hQ, own_mono hW hc hs⟩
  have hm' : T.vm.method? m = some meth := X.method'
  show Steps p.tables e below (T.setTop { method := m, pc := pc, locals := Ls, stack := _ :: rest, locked := none }) _
  jvm_step X.here [X.here.top, hx, hd, hm', hret, hv, ht]
  first | (intro acts; rw [hr _ acts rfl rfl rfl]) | rw [hr _ _ rfl rfl rfl]
  exact Steps.refl _
theorem own_retVW {vm₁ : Vm} {kk : Nat} (X : Stand p l e R (s.setVm vm₁) m args below meth c T locs cells slots) (hS : s.Since vm₁ kk) (hk : kk ≤ T.heap.size) (hx : p.tables.exec = Jvm.exec) (hlk : meth.locks = false) {pc : Nat} {Ls : Array Slot} (hret : meth.sig.returnType = none)
    (hd : decode c.code pc = .ok (.return_, 1)) (hQ : Q none T.heap locs) (hc : cells ≤ C) (hs : slots ≤ S) : Go p e below (FinW s below Q C S) (T.setTop (mkF m pc Ls [])) := by
  obtain ⟨fs, hr, hrun, hended, hW⟩ := X.leaveW hS hk (v := none) (fun _ => rfl) hlk
  exact ⟨T.setFrames fs, _, X.returnOut hx hret hd hr, hrun, hended, _, _, rfl, hQ, own_mono hW hc hs⟩
theorem own_cat {v : Value} (h : v.isRef = true) : v.category = 1 := by cases v <;> simp_all [Value.isRef, Value.category]
end Own
theorem d4_0 : decode jdk_30_method_1_code 0 = .ok (.aload_n 0, 1) := by decide +kernel
theorem d4_1 : decode jdk_30_method_1_code 1 = .ok (.invokespecial 1, 3) := by decide +kernel
theorem d4_4 : decode jdk_30_method_1_code 4 = .ok (.return_, 1) := by decide +kernel
theorem pn_java_lang_Record : plainName "java/lang/Record" = true := by first | (simp [plainName, overriddenIn]; done) | decide +kernel
theorem d2_0 : decode jdk_31_method_11_code 0 = .ok (.aload_n 0, 1) := by decide +kernel
theorem d2_1 : decode jdk_31_method_11_code 1 = .ok (.ifnonnull 12, 3) := by decide +kernel
theorem d2_13 : decode jdk_31_method_11_code 13 = .ok (.aload_n 0, 1) := by decide +kernel
theorem d2_14 : decode jdk_31_method_11_code 14 = .ok (.areturn, 1) := by decide +kernel
theorem pn_java_util_Objects : plainName "java/util/Objects" = true := by first | (simp [plainName, overriddenIn]; done) | decide +kernel
theorem d3_0 : decode prog_3_method_1_code 0 = .ok (.aload_n 0, 1) := by decide +kernel
theorem d3_1 : decode prog_3_method_1_code 1 = .ok (.invokespecial 1, 3) := by decide +kernel
theorem pd_0 : parseMethodDescriptor "()V" = some ⟨[], none⟩ := by decide +kernel
theorem d3_4 : decode prog_3_method_1_code 4 = .ok (.aload_n 0, 1) := by decide +kernel
theorem d3_5 : decode prog_3_method_1_code 5 = .ok (.aload_n 1, 1) := by decide +kernel
theorem d3_6 : decode prog_3_method_1_code 6 = .ok (.putfield 7, 3) := by decide +kernel
theorem d3_9 : decode prog_3_method_1_code 9 = .ok (.aload_n 0, 1) := by decide +kernel
theorem d3_10 : decode prog_3_method_1_code 10 = .ok (.aload_n 2, 1) := by decide +kernel
theorem d3_11 : decode prog_3_method_1_code 11 = .ok (.putfield 13, 3) := by decide +kernel
theorem d3_14 : decode prog_3_method_1_code 14 = .ok (.return_, 1) := by decide +kernel
theorem pn_com_example_timed_cap_timedcap_model_Decision : plainName "com/example/timed_cap/timedcap/model/Decision" = true := by first | (simp [plainName, overriddenIn]; done) | decide +kernel
theorem d1_0 : decode prog_3_method_3_code 0 = .ok (.new 8, 3) := by decide +kernel
theorem d1_3 : decode prog_3_method_3_code 3 = .ok (.dup, 1) := by decide +kernel
theorem d1_4 : decode prog_3_method_3_code 4 = .ok (.aconst_null, 1) := by decide +kernel
theorem d1_5 : decode prog_3_method_3_code 5 = .ok (.aload_n 0, 1) := by decide +kernel
theorem d1_6 : decode prog_3_method_3_code 6 = .ok (.ldc 29, 2) := by decide +kernel
theorem d1_8 : decode prog_3_method_3_code 8 = .ok (.invokestatic 18, 3) := by decide +kernel
theorem pd_1 : parseMethodDescriptor "(Ljava/lang/Object;Ljava/lang/String;)Ljava/lang/Object;" = some ⟨[(.object "java/lang/Object"), (.object "java/lang/String")], some (.object "java/lang/Object")⟩ := by decide +kernel
theorem d1_11 : decode prog_3_method_3_code 11 = .ok (.checkcast 30, 3) := by decide +kernel
theorem d1_14 : decode prog_3_method_3_code 14 = .ok (.invokespecial 26, 3) := by decide +kernel
theorem pd_2 : parseMethodDescriptor "(Lcom/example/timed_cap/timedcap/model/Reference;Lcom/example/timed_cap/timedcap/model/Reason;)V" = some ⟨[(.object "com/example/timed_cap/timedcap/model/Reference"), (.object "com/example/timed_cap/timedcap/model/Reason")], none⟩ := by decide +kernel
theorem d1_17 : decode prog_3_method_3_code 17 = .ok (.areturn, 1) := by decide +kernel
theorem d6_0 : decode prog_3_method_9_code 0 = .ok (.aload_n 0, 1) := by decide +kernel
theorem d6_1 : decode prog_3_method_9_code 1 = .ok (.getfield 13, 3) := by decide +kernel
theorem d6_4 : decode prog_3_method_9_code 4 = .ok (.areturn, 1) := by decide +kernel
theorem d7_0 : decode prog_3_method_8_code 0 = .ok (.aload_n 0, 1) := by decide +kernel
theorem d7_1 : decode prog_3_method_8_code 1 = .ok (.getfield 7, 3) := by decide +kernel
theorem d7_4 : decode prog_3_method_8_code 4 = .ok (.areturn, 1) := by decide +kernel
theorem d8_0 : decode prog_3_method_4_code 0 = .ok (.aload_n 0, 1) := by decide +kernel
theorem d8_1 : decode prog_3_method_4_code 1 = .ok (.getfield 7, 3) := by decide +kernel
theorem d8_4 : decode prog_3_method_4_code 4 = .ok (.ifnull 7, 3) := by decide +kernel
theorem d8_11 : decode prog_3_method_4_code 11 = .ok (.iconst 0, 1) := by decide +kernel
theorem d8_12 : decode prog_3_method_4_code 12 = .ok (.ireturn, 1) := by decide +kernel
theorem pd_3 : parseMethodDescriptor "(Lcom/example/timed_cap/timedcap/model/Reason;)Lcom/example/timed_cap/timedcap/model/Decision;" = some ⟨[(.object "com/example/timed_cap/timedcap/model/Reason")], some (.object "com/example/timed_cap/timedcap/model/Decision")⟩ := by decide +kernel
theorem pd_4 : parseMethodDescriptor "()Lcom/example/timed_cap/timedcap/model/Reason;" = some ⟨[], some (.object "com/example/timed_cap/timedcap/model/Reason")⟩ := by decide +kernel
theorem pd_5 : parseMethodDescriptor "()Lcom/example/timed_cap/timedcap/model/Reference;" = some ⟨[], some (.object "com/example/timed_cap/timedcap/model/Reference")⟩ := by decide +kernel
theorem pd_6 : parseMethodDescriptor "()Z" = some ⟨[], some .boolean⟩ := by decide +kernel
theorem pn_com_example_timed_cap_timedcap_model_DecisionDeniedPinLaw : plainName "com/example/timed_cap/timedcap/model/DecisionDeniedPinLaw" = true := by first | (simp [plainName, overriddenIn]; done) | decide +kernel
theorem own_17 (p : Int32) : (p &&& (2147483647 : Int32)) % (17 : Int32) = (0 : Int32) ∨ (p &&& (2147483647 : Int32)) % (17 : Int32) = (1 : Int32) ∨ (p &&& (2147483647 : Int32)) % (17 : Int32) = (2 : Int32) ∨ (p &&& (2147483647 : Int32)) % (17 : Int32) = (3 : Int32) ∨ (p &&& (2147483647 : Int32)) % (17 : Int32) = (4 : Int32) ∨ (p &&& (2147483647 : Int32)) % (17 : Int32) = (5 : Int32) ∨ (p &&& (2147483647 : Int32)) % (17 : Int32) = (6 : Int32) ∨ (p &&& (2147483647 : Int32)) % (17 : Int32) = (7 : Int32) ∨ (p &&& (2147483647 : Int32)) % (17 : Int32) = (8 : Int32) ∨ (p &&& (2147483647 : Int32)) % (17 : Int32) = (9 : Int32) ∨ (p &&& (2147483647 : Int32)) % (17 : Int32) = (10 : Int32) ∨ (p &&& (2147483647 : Int32)) % (17 : Int32) = (11 : Int32) ∨ (p &&& (2147483647 : Int32)) % (17 : Int32) = (12 : Int32) ∨ (p &&& (2147483647 : Int32)) % (17 : Int32) = (13 : Int32) ∨ (p &&& (2147483647 : Int32)) % (17 : Int32) = (14 : Int32) ∨ (p &&& (2147483647 : Int32)) % (17 : Int32) = (15 : Int32) ∨ (p &&& (2147483647 : Int32)) % (17 : Int32) = (16 : Int32) := by
  have h0 : 0 ≤ (p &&& (2147483647 : Int32)).toInt := by
    rw [Jvm.Kit.i32_mask p (2147483647 : Int32) (k := 31) (by decide) (by decide)]
    omega
  have h := Jvm.Kit.i32_rem_nonneg (y := (17 : Int32)) h0
  rw [show ((17 : Int32)).toInt = 17 from by decide] at h
  have e : (0 : Int32).toInt = 0 ∧ (1 : Int32).toInt = 1 ∧ (2 : Int32).toInt = 2 ∧ (3 : Int32).toInt = 3 ∧ (4 : Int32).toInt = 4 ∧ (5 : Int32).toInt = 5 ∧ (6 : Int32).toInt = 6 ∧ (7 : Int32).toInt = 7 ∧ (8 : Int32).toInt = 8 ∧ (9 : Int32).toInt = 9 ∧ (10 : Int32).toInt = 10 ∧ (11 : Int32).toInt = 11 ∧ (12 : Int32).toInt = 12 ∧ (13 : Int32).toInt = 13 ∧ (14 : Int32).toInt = 14 ∧ (15 : Int32).toInt = 15 ∧ (16 : Int32).toInt = 16 := by decide
  simp only [← Int32.toInt_inj]
  omega
theorem ef_rmRec (m : MethodId) (x0 : Addr) : entryFrame m #[(.ref x0)] 1 = mkF m 0 #[.val (.ref x0)] [] := by first | (simp [entryFrame, mkF, argsToLocals, Value.category]; done) | rfl
def QRec (Z : State) (a1 : Addr) (h0 : Heap) (n0 : Nat) (v : Option Value) (h : Heap) (L : List Loc) : Prop := v = none ∧ Fr n0 L ∧ h = h0
set_option maxRecDepth 65536 in
set_option maxHeartbeats 40000000 in
theorem rmRec (l : Launch) (Z : State) (a0 : Array Value) (hw : ∀ d ∈ tables_1, d.before a0 Z = true) (ws : List Jvm.Cond) (a1 : Addr) (h0 : Heap) (n0 : Nat) (Z0 : n0 ≤ h0.size) :
    MetFree l (⟨"java/lang/Record", "<init>", "()V"⟩ : MethodName) (head1 (Jvm.Cond.code (⟨"java/lang/Record", "<init>", "()V"⟩ : MethodName) jdk_30_method_1_code 1 none :: ws) ({ frames := 1, cells := 0, slots := 0, locals := 12 } : Room)) (fun a U => a = #[(.ref a1)] ∧ Z.Warmed39 U.vm ∧ U.heap = h0) (fun _ _ _ _ _ => True) (fun _ U o U' => ∃ v L, o = .returned v ∧ QRec Z a1 h0 n0 v U'.heap L ∧ FrameEnd U o U' L ({ frames := 1, cells := 0, slots := 0, locals := 12 } : Room).cells ({ frames := 1, cells := 0, slots := 0, locals := 12 } : Room).slots) := by
  refine MetFree.of_bodySF (plainFor_of_name pn_java_lang_Record) hisR ?_
  intro p e s m args below meth c s₁ Bd hml0 hP hK
  obtain ⟨rfl, hZ, hh⟩ := hP
  have hx := Bd.exec
  have hby := Bd.bytes
  have hlk : meth.locks = false := Bd.notSynchronized
  have hml : c.maxLocals = 1 := hml0
  have hown : s.vm.findClass "java/lang/Record" = some m.cls := findClass_of_methodNamed Bd.named
  have hnm := (name_of_methodNamed Bd.named Bd.method).1
  have X0 : Stand p l e ({ frames := 1, cells := 0, slots := 0, locals := 12 } : Room) s m #[(.ref a1)] below meth c s₁ [] 0 0 := Stand.of_body Bd
  have e0 : s₁.heap = h0 := by rw [← hh, Bd.state]; rfl
  have N0 := Fr.nil n0
  show Go p e below (FinE s below (QRec Z a1 h0 n0) ({ frames := 1, cells := 0, slots := 0, locals := 12 } : Room).cells ({ frames := 1, cells := 0, slots := 0, locals := 12 } : Room).slots) (s₁.setTop (entryFrame m #[(.ref a1)] 1))
  refine Go.via (fun t k => castTop (ef_rmRec m a1) k) ?_
  show Go p e below _ (s₁.setTop (mkF m 0 #[.val (.ref a1)] []))
  refine Go.via (fun _ => XS.aloadN X0.here hx rfl (hb hby d4_0) rfl rfl) ?_
  show Go p e below _ (s₁.setTop (mkF m 1 #[.val (.ref a1)] [(.ref a1)]))
  obtain ⟨T101, X101, e101, st101⟩ := initO X0 hx hZ hown (hw _ (List.mem_of_getElem? (i := 66) rfl)) (hw _ (List.mem_of_getElem? (i := 67) rfl)) (hw _ (List.mem_of_getElem? (i := 68) rfl)) e0 (g := (mkF m 1 #[.val (.ref a1)] [(.ref a1)])) rfl (by rw [hml]; rfl) rfl (hb hby d4_1) (by decide) (W := 0) (by show 2 * 0 + _ ≤ _; exact Nat.le_of_eq rfl) (by decide)
  refine Go.via st101 ?_
  show Go p e below _ (T101.setTop (mkF m 4 #[.val (.ref a1)] []))
  exact own_retV X101 hx hlk Bd.returns (hb hby d4_4) (by show QRec Z a1 h0 n0 _ T101.heap _; rw [e101]; exact ⟨rfl, N0, rfl⟩) (by decide) (by decide)
theorem ef_rmRnn (m : MethodId) (x0 : Addr) (x1 : Addr) : entryFrame m #[(.ref x0), (.ref x1)] 2 = mkF m 0 #[.val (.ref x0), .val (.ref x1)] [] := by first | (simp [entryFrame, mkF, argsToLocals, Value.category]; done) | rfl
def QRnn (Z : State) (r1 : Addr) (s1 : Addr) (h0 : Heap) (n0 : Nat) (v : Option Value) (h : Heap) (L : List Loc) : Prop := v = some (.ref r1) ∧ Fr n0 L ∧ h = h0
set_option maxRecDepth 65536 in
set_option maxHeartbeats 40000000 in
theorem rmRnn (l : Launch) (Z : State) (a0 : Array Value) (hw : ∀ d ∈ tables_1, d.before a0 Z = true) (ws : List Jvm.Cond) (r1 : Addr) (s1 : Addr) (h0 : Heap) (n0 : Nat) (Z0 : n0 ≤ h0.size) :
    MetFree l (⟨"java/util/Objects", "requireNonNull", "(Ljava/lang/Object;Ljava/lang/String;)Ljava/lang/Object;"⟩ : MethodName) (head1 (Jvm.Cond.code (⟨"java/util/Objects", "requireNonNull", "(Ljava/lang/Object;Ljava/lang/String;)Ljava/lang/Object;"⟩ : MethodName) jdk_31_method_11_code 2 (some (.object "java/lang/Object")) :: ws) ({ frames := 0, cells := 0, slots := 0, locals := 0 } : Room)) (fun a U => a = #[(.ref r1), (.ref s1)] ∧ Z.Warmed39 U.vm ∧ U.heap = h0) (fun _ _ _ _ _ => True) (fun _ U o U' => ∃ v L, o = .returned v ∧ QRnn Z r1 s1 h0 n0 v U'.heap L ∧ FrameEnd U o U' L ({ frames := 0, cells := 0, slots := 0, locals := 0 } : Room).cells ({ frames := 0, cells := 0, slots := 0, locals := 0 } : Room).slots) := by
  refine MetFree.of_bodySF (plainFor_of_name pn_java_util_Objects) hisR ?_
  intro p e s m args below meth c s₁ Bd hml0 hP hK
  obtain ⟨rfl, hZ, hh⟩ := hP
  have hx := Bd.exec
  have hby := Bd.bytes
  have hlk : meth.locks = false := Bd.notSynchronized
  have hml : c.maxLocals = 2 := hml0
  have hown : s.vm.findClass "java/util/Objects" = some m.cls := findClass_of_methodNamed Bd.named
  have hnm := (name_of_methodNamed Bd.named Bd.method).1
  have X0 : Stand p l e ({ frames := 0, cells := 0, slots := 0, locals := 0 } : Room) s m #[(.ref r1), (.ref s1)] below meth c s₁ [] 0 0 := Stand.of_body Bd
  have e0 : s₁.heap = h0 := by rw [← hh, Bd.state]; rfl
  have N0 := Fr.nil n0
  show Go p e below (FinE s below (QRnn Z r1 s1 h0 n0) ({ frames := 0, cells := 0, slots := 0, locals := 0 } : Room).cells ({ frames := 0, cells := 0, slots := 0, locals := 0 } : Room).slots) (s₁.setTop (entryFrame m #[(.ref r1), (.ref s1)] 2))
  refine Go.via (fun t k => castTop (ef_rmRnn m r1 s1) k) ?_
  show Go p e below _ (s₁.setTop (mkF m 0 #[.val (.ref r1), .val (.ref s1)] []))
  refine Go.via (fun _ => XS.aloadN X0.here hx rfl (hb hby d2_0) rfl rfl) ?_
  show Go p e below _ (s₁.setTop (mkF m 1 #[.val (.ref r1), .val (.ref s1)] [(.ref r1)]))
  refine Go.via (fun _ => XS.ifnonnullYes X0.here hx rfl (pc0 := 1) (pc' := 13) rfl (hb hby d2_1) rfl (by decide) (by decide)) ?_
  show Go p e below _ (s₁.setTop (mkF m 13 #[.val (.ref r1), .val (.ref s1)] []))
  refine Go.via (fun _ => XS.aloadN X0.here hx rfl (hb hby d2_13) rfl rfl) ?_
  show Go p e below _ (s₁.setTop (mkF m 14 #[.val (.ref r1), .val (.ref s1)] [(.ref r1)]))
  exact own_retA X0 hx hlk Bd.returns rfl rfl (hb hby d2_14) (by show QRnn Z r1 s1 h0 n0 _ s₁.heap _; rw [e0]; exact ⟨rfl, N0, rfl⟩) (by decide) (by decide)
theorem ef_rmDI (m : MethodId) (x0 : Addr) (x2 : Addr) : entryFrame m #[(.ref x0), .null, (.ref x2)] 3 = mkF m 0 #[.val (.ref x0), .val .null, .val (.ref x2)] [] := by first | (simp [entryFrame, mkF, argsToLocals, Value.category]; done) | rfl
def QDI (Z : State) (a1 : Addr) (r1 : Addr) (h0 : Heap) (n0 : Nat) (v : Option Value) (h : Heap) (L : List Loc) : Prop := v = none ∧ Fr n0 L ∧ Keep h0 h [a1] ∧ Fld Z h a1 "com/example/timed_cap/timedcap/model/Decision" "reached" "Lcom/example/timed_cap/timedcap/model/Reference;" .null ∧ Fld Z h a1 "com/example/timed_cap/timedcap/model/Decision" "reason" "Lcom/example/timed_cap/timedcap/model/Reason;" (.ref r1)
set_option maxRecDepth 65536 in
set_option maxHeartbeats 40000000 in
theorem rmDI (l : Launch) (Z : State) (a0 : Array Value) (hw : ∀ d ∈ tables_1, d.before a0 Z = true) (ws : List Jvm.Cond) (a1 : Addr) (r1 : Addr) (h0 : Heap) (n0 : Nat) (Z0 : n0 ≤ h0.size) (E1 : Exa Z h0 a1 "com/example/timed_cap/timedcap/model/Decision") (F1 : Fld Z h0 a1 "com/example/timed_cap/timedcap/model/Decision" "reached" "Lcom/example/timed_cap/timedcap/model/Reference;" .null) (F2 : Fld Z h0 a1 "com/example/timed_cap/timedcap/model/Decision" "reason" "Lcom/example/timed_cap/timedcap/model/Reason;" .null) (g1 : n0 ≤ a1) :
    MetFree l (⟨"com/example/timed_cap/timedcap/model/Decision", "<init>", "(Lcom/example/timed_cap/timedcap/model/Reference;Lcom/example/timed_cap/timedcap/model/Reason;)V"⟩ : MethodName) (head1 (Jvm.Cond.code (⟨"com/example/timed_cap/timedcap/model/Decision", "<init>", "(Lcom/example/timed_cap/timedcap/model/Reference;Lcom/example/timed_cap/timedcap/model/Reason;)V"⟩ : MethodName) prog_3_method_1_code 3 none :: ws) ({ frames := 2, cells := 0, slots := 0, locals := 24 } : Room)) (fun a U => a = #[(.ref a1), .null, (.ref r1)] ∧ Z.Warmed39 U.vm ∧ U.heap = h0) (fun _ _ _ _ _ => True) (fun _ U o U' => ∃ v L, o = .returned v ∧ QDI Z a1 r1 h0 n0 v U'.heap L ∧ FrameEnd U o U' L ({ frames := 2, cells := 0, slots := 0, locals := 24 } : Room).cells ({ frames := 2, cells := 0, slots := 0, locals := 24 } : Room).slots) := by
  refine MetFree.of_bodySF (plainFor_of_name pn_com_example_timed_cap_timedcap_model_Decision) hisR ?_
  intro p e s m args below meth c s₁ Bd hml0 hP hK
  obtain ⟨rfl, hZ, hh⟩ := hP
  have hx := Bd.exec
  have hby := Bd.bytes
  have hlk : meth.locks = false := Bd.notSynchronized
  have hml : c.maxLocals = 3 := hml0
  have hown : s.vm.findClass "com/example/timed_cap/timedcap/model/Decision" = some m.cls := findClass_of_methodNamed Bd.named
  have hnm := (name_of_methodNamed Bd.named Bd.method).1
  have X0 : Stand p l e ({ frames := 2, cells := 0, slots := 0, locals := 24 } : Room) s m #[(.ref a1), .null, (.ref r1)] below meth c s₁ [] 0 0 := Stand.of_body Bd
  have e0 : s₁.heap = h0 := by rw [← hh, Bd.state]; rfl
  have N0 := Fr.nil n0
  show Go p e below (FinE s below (QDI Z a1 r1 h0 n0) ({ frames := 2, cells := 0, slots := 0, locals := 24 } : Room).cells ({ frames := 2, cells := 0, slots := 0, locals := 24 } : Room).slots) (s₁.setTop (entryFrame m #[(.ref a1), .null, (.ref r1)] 3))
  refine Go.via (fun t k => castTop (ef_rmDI m a1 r1) k) ?_
  show Go p e below _ (s₁.setTop (mkF m 0 #[.val (.ref a1), .val .null, .val (.ref r1)] []))
  refine Go.via (fun _ => XS.aloadN X0.here hx rfl (hb hby d3_0) rfl rfl) ?_
  show Go p e below _ (s₁.setTop (mkF m 1 #[.val (.ref a1), .val .null, .val (.ref r1)] [(.ref a1)]))
  obtain ⟨_, _, ⟨T101, L101, k101, n101⟩, -, X101, ⟨Lc101, hQ101, l101, y101, z101⟩, st101⟩ := X0.specialBack hx (y := (⟨"java/lang/Record", "<init>", "()V"⟩ : MethodName)) rfl hown (mvT hZ (hw _ (List.mem_of_getElem? (i := 61) rfl))) (mvT hZ (hw _ (List.mem_of_getElem? (i := 62) rfl))) (mvT hZ (hw _ (List.mem_of_getElem? (i := 65) rfl))) (by decide) (backOf (W := 0) (rmRec l Z a0 hw [] a1 h0 n0 Z0) hZ (hw _ (List.mem_of_getElem? (i := 65) rfl)) (hw _ (List.mem_of_getElem? (i := 64) rfl)) (by decide) (by decide)) (g := (mkF m 1 #[.val (.ref a1), .val .null, .val (.ref r1)] [(.ref a1)])) rfl (by rw [hml]; rfl) (Steps.refl _) (a := a1) (argsL := []) (rest := []) (lenOf pd_0 rfl) rfl (by show 2 * 0 + _ ≤ _; exact Nat.le_of_eq rfl) (hb hby d3_1) (fun _ _ => ⟨rfl, e0, (by decide : 0 + 0 ≤ _), (by decide : 0 + 0 ≤ _)⟩)
  dsimp only [Pt.U, Pt.locs, Pt.cells, Pt.slots] at X101 l101 y101 z101 st101 hQ101
  rw [l101, y101, z101] at X101
  replace X101 : Stand p l e _ _ m _ below meth c T101 _ 0 0 := X101
  obtain ⟨rfl, N101q, e101q⟩ := hQ101
  have N101 := Fr.app N0 N101q
  refine Go.tr st101 ?_
  show Go p e below _ (T101.setTop (mkF m 4 #[.val (.ref a1), .val .null, .val (.ref r1)] []))
  refine Go.via (fun _ => XS.aloadN X101.here hx rfl (hb hby d3_4) rfl rfl) ?_
  show Go p e below _ (T101.setTop (mkF m 5 #[.val (.ref a1), .val .null, .val (.ref r1)] [(.ref a1)]))
  refine Go.via (fun _ => XS.aloadN X101.here hx rfl (hb hby d3_5) rfl rfl) ?_
  show Go p e below _ (T101.setTop (mkF m 6 #[.val (.ref a1), .val .null, .val (.ref r1)] [.null, (.ref a1)]))
  obtain ⟨T102, h102, X102, e102, W102, st102⟩ := putF X101 hx hZ hown (host := "") (Or.inl (hw _ (List.mem_of_getElem? (i := 69) rfl))) Via.refl e101q F1 E1 (Or.inr ⟨(hw _ (List.mem_of_getElem? (i := 70) rfl)), rfl, hnm⟩) (hw _ (List.mem_of_getElem? (i := 44) rfl)) (ty := (.object "com/example/timed_cap/timedcap/model/Reference")) (by decide) rfl rfl (g := (mkF m 6 #[.val (.ref a1), .val .null, .val (.ref r1)] [.null, (.ref a1)])) rfl rfl (hb hby d3_6)
  refine Go.via st102 ?_
  have fF_a1_reached_102 : Fld Z h102 a1 "com/example/timed_cap/timedcap/model/Decision" "reached" "Lcom/example/timed_cap/timedcap/model/Reference;" .null := F1.same W102
  have Zs102 : n0 ≤ h102.size := Nat.le_trans Z0 (Keep.of_wr W102).1
  have K102 : Keep h0 h102 [a1] := (Keep.refl h0 [a1]).wr W102 (Or.inl (List.mem_of_getElem? (i := 0) rfl))
  have N102 := Fr.snoc X102 N101 g1
  have fE_a1_102 := E1.wr W102
  have fF_a1_reason_102 := F2.other W102 (Or.inr (slot_ne (Or.inr (hw _ (List.mem_of_getElem? (i := 72) rfl))) (Or.inr (hw _ (List.mem_of_getElem? (i := 70) rfl))) (by decide) (t := (.object "com/example/timed_cap/timedcap/model/Reason")) (t' := (.object "com/example/timed_cap/timedcap/model/Reference")) (by decide) (by decide)))
  show Go p e below _ (T102.setTop (mkF m 9 #[.val (.ref a1), .val .null, .val (.ref r1)] []))
  refine Go.via (fun _ => XS.aloadN X102.here hx rfl (hb hby d3_9) rfl rfl) ?_
  show Go p e below _ (T102.setTop (mkF m 10 #[.val (.ref a1), .val .null, .val (.ref r1)] [(.ref a1)]))
  refine Go.via (fun _ => XS.aloadN X102.here hx rfl (hb hby d3_10) rfl rfl) ?_
  show Go p e below _ (T102.setTop (mkF m 11 #[.val (.ref a1), .val .null, .val (.ref r1)] [(.ref r1), (.ref a1)]))
  obtain ⟨T103, h103, X103, e103, W103, st103⟩ := putF X102 hx hZ hown (host := "") (Or.inl (hw _ (List.mem_of_getElem? (i := 71) rfl))) Via.refl e102 fF_a1_reason_102 fE_a1_102 (Or.inr ⟨(hw _ (List.mem_of_getElem? (i := 72) rfl)), rfl, hnm⟩) (hw _ (List.mem_of_getElem? (i := 44) rfl)) (ty := (.object "com/example/timed_cap/timedcap/model/Reason")) (by decide) rfl rfl (g := (mkF m 11 #[.val (.ref a1), .val .null, .val (.ref r1)] [(.ref r1), (.ref a1)])) rfl rfl (hb hby d3_11)
  refine Go.via st103 ?_
  have fF_a1_reason_103 : Fld Z h103 a1 "com/example/timed_cap/timedcap/model/Decision" "reason" "Lcom/example/timed_cap/timedcap/model/Reason;" (.ref r1) := fF_a1_reason_102.same W103
  have Zs103 : n0 ≤ h103.size := Nat.le_trans Zs102 (Keep.of_wr W103).1
  have K103 : Keep h0 h103 [a1] := K102.wr W103 (Or.inl (List.mem_of_getElem? (i := 0) rfl))
  have N103 := Fr.snoc X103 N102 g1
  have fE_a1_103 := fE_a1_102.wr W103
  have fF_a1_reached_103 := fF_a1_reached_102.other W103 (Or.inr (slot_ne (Or.inr (hw _ (List.mem_of_getElem? (i := 70) rfl))) (Or.inr (hw _ (List.mem_of_getElem? (i := 72) rfl))) (by decide) (t := (.object "com/example/timed_cap/timedcap/model/Reference")) (t' := (.object "com/example/timed_cap/timedcap/model/Reason")) (by decide) (by decide)))
  show Go p e below _ (T103.setTop (mkF m 14 #[.val (.ref a1), .val .null, .val (.ref r1)] []))
  exact own_retV X103 hx hlk Bd.returns (hb hby d3_14) (by show QDI Z a1 r1 h0 n0 _ T103.heap _; rw [e103]; exact ⟨rfl, N103, K103, fF_a1_reached_103, fF_a1_reason_103⟩) (by decide) (by decide)
theorem ef_rmDen (m : MethodId) (x0 : Addr) : entryFrame m #[(.ref x0)] 1 = mkF m 0 #[.val (.ref x0)] [] := by first | (simp [entryFrame, mkF, argsToLocals, Value.category]; done) | rfl
def QDen (Z : State) (r1 : Addr) (h0 : Heap) (n0 : Nat) (v : Option Value) (h : Heap) (L : List Loc) : Prop := ∃ d : Addr, v = some (.ref d) ∧ Fr n0 L ∧ Keep h0 h [] ∧ h0.size ≤ d ∧ Exa Z h d "com/example/timed_cap/timedcap/model/Decision" ∧ Fld Z h d "com/example/timed_cap/timedcap/model/Decision" "reached" "Lcom/example/timed_cap/timedcap/model/Reference;" .null ∧ Fld Z h d "com/example/timed_cap/timedcap/model/Decision" "reason" "Lcom/example/timed_cap/timedcap/model/Reason;" (.ref r1)
set_option maxRecDepth 65536 in
set_option maxHeartbeats 40000000 in
theorem rmDen (l : Launch) (Z : State) (a0 : Array Value) (hw : ∀ d ∈ tables_1, d.before a0 Z = true) (ws : List Jvm.Cond) (r1 : Addr) (h0 : Heap) (n0 : Nat) (Z0 : n0 ≤ h0.size) (E1 : Exa Z h0 r1 "com/example/timed_cap/timedcap/model/Reason") :
    MetFree l (⟨"com/example/timed_cap/timedcap/model/Decision", "denied", "(Lcom/example/timed_cap/timedcap/model/Reason;)Lcom/example/timed_cap/timedcap/model/Decision;"⟩ : MethodName) (head1 (Jvm.Cond.code (⟨"com/example/timed_cap/timedcap/model/Decision", "denied", "(Lcom/example/timed_cap/timedcap/model/Reason;)Lcom/example/timed_cap/timedcap/model/Decision;"⟩ : MethodName) prog_3_method_3_code 1 (some (.object "com/example/timed_cap/timedcap/model/Decision")) :: ws) ({ frames := 3, cells := 3, slots := 30, locals := 39 } : Room)) (fun a U => a = #[(.ref r1)] ∧ Z.Warmed39 U.vm ∧ U.heap = h0) (fun _ _ _ _ _ => True) (fun _ U o U' => ∃ v L, o = .returned v ∧ QDen Z r1 h0 n0 v U'.heap L ∧ ReturnedEndW U o U' L ({ frames := 3, cells := 3, slots := 30, locals := 39 } : Room).cells ({ frames := 3, cells := 3, slots := 30, locals := 39 } : Room).slots) := by
  refine MetFree.of_bodySF (plainFor_of_name pn_com_example_timed_cap_timedcap_model_Decision) hisR ?_
  intro p e s m args below meth c s₁ Bd hml0 hP hK
  obtain ⟨rfl, hZ, hh⟩ := hP
  have hx := Bd.exec
  have hby := Bd.bytes
  have hlk : meth.locks = false := Bd.notSynchronized
  have hml : c.maxLocals = 1 := hml0
  have hown : s.vm.findClass "com/example/timed_cap/timedcap/model/Decision" = some m.cls := findClass_of_methodNamed Bd.named
  have hnm := (name_of_methodNamed Bd.named Bd.method).1
  have X0 : Stand p l e ({ frames := 3, cells := 3, slots := 30, locals := 39 } : Room) (s.setVm s.vm) m #[(.ref r1)] below meth c s₁ [] 0 0 := Stand.of_body Bd
  replace hZ : Z.Warmed39 (s.setVm s.vm).vm := hZ
  replace hown : (s.setVm s.vm).vm.findClass "com/example/timed_cap/timedcap/model/Decision" = some m.cls := hown
  have hS0 : s.Since s.vm 0 := (State.WarmedH.refl s).since 0
  have hk0 : 0 ≤ h0.size := Nat.zero_le _
  have e0 : s₁.heap = h0 := by rw [← hh, Bd.state]; rfl
  have N0 := Fr.nil n0
  show Go p e below (FinW s below (QDen Z r1 h0 n0) ({ frames := 3, cells := 3, slots := 30, locals := 39 } : Room).cells ({ frames := 3, cells := 3, slots := 30, locals := 39 } : Room).slots) (s₁.setTop (entryFrame m #[(.ref r1)] 1))
  refine Go.via (fun t k => castTop (ef_rmDen m r1) k) ?_
  show Go p e below _ (s₁.setTop (mkF m 0 #[.val (.ref r1)] []))
  obtain ⟨T101, h101, X101, e101, E101, A101, D101, -, st101⟩ := newO X0 hx hZ hown (hw _ (List.mem_of_getElem? (i := 43) rfl)) (hw _ (List.mem_of_getElem? (i := 44) rfl)) (hw _ (List.mem_of_getElem? (i := 41) rfl)) e0 (g := (mkF m 0 #[.val (.ref r1)] [])) rfl (hb hby d1_0) (by decide) (by decide)
  obtain ⟨b101, g101⟩ : ∃ z, z = h0.size := ⟨_, rfl⟩
  rw [← g101] at A101 D101 st101
  have g_b101 : n0 ≤ b101 := Nat.le_trans Z0 (Nat.le_of_eq g101.symm)
  have ne_r1_b101 : r1 ≠ b101 := Nat.ne_of_lt (Nat.lt_of_lt_of_le E1.lt (Nat.le_of_eq g101.symm))
  have sz_b101 : h0.size ≤ b101 := Nat.le_trans (Keep.refl h0 []).1 (Nat.le_of_eq g101.symm)
  refine Go.via st101 ?_
  have Zs101 : n0 ≤ h101.size := Nat.le_trans Z0 E101.1
  have hk101 : 0 ≤ h101.size := Nat.le_trans hk0 E101.1
  have K101 : Keep h0 h101 [] := (Keep.refl h0 []).ext E101
  have fE_r1_101 := E1.ext E101
  have F_reached_b101 : Fld Z h101 b101 "com/example/timed_cap/timedcap/model/Decision" "reached" "Lcom/example/timed_cap/timedcap/model/Reference;" .null := D101 (Or.inr (hw _ (List.mem_of_getElem? (i := 70) rfl))) (ty := (.object "com/example/timed_cap/timedcap/model/Reference")) (by decide)
  have F_reason_b101 : Fld Z h101 b101 "com/example/timed_cap/timedcap/model/Decision" "reason" "Lcom/example/timed_cap/timedcap/model/Reason;" .null := D101 (Or.inr (hw _ (List.mem_of_getElem? (i := 72) rfl))) (ty := (.object "com/example/timed_cap/timedcap/model/Reason")) (by decide)
  show Go p e below _ (T101.setTop (mkF m 3 #[.val (.ref r1)] [(.ref b101)]))
  refine Go.via (fun _ => XS.dup X101.here hx rfl (hb hby d1_3) rfl rfl) ?_
  show Go p e below _ (T101.setTop (mkF m 4 #[.val (.ref r1)] [(.ref b101), (.ref b101)]))
  refine Go.via (fun _ => XS.aconstNull X101.here hx rfl (hb hby d1_4)) ?_
  show Go p e below _ (T101.setTop (mkF m 5 #[.val (.ref r1)] [.null, (.ref b101), (.ref b101)]))
  refine Go.via (fun _ => XS.aloadN X101.here hx rfl (hb hby d1_5) rfl rfl) ?_
  show Go p e below _ (T101.setTop (mkF m 6 #[.val (.ref r1)] [(.ref r1), .null, (.ref b101), (.ref b101)]))
  have wS102 : ∀ d ∈ Bundle.stringAtoms, d.before a0 Z = true := fun d hd => hw d (by simpa using (List.all_eq_true.mp (by decide +kernel : (Bundle.stringAtoms.all fun d => tables_1.contains d) = true)) d hd)
  obtain ⟨s102, T102, h102, kk102, X102, e102, E102, hS102, hk102, hZ102, hown102, st102⟩ := ldcS X101 hx hZ hown (hw _ (List.mem_of_getElem? (i := 45) rfl)) wS102 e101 hS0 hk101 (g := (mkF m 6 #[.val (.ref r1)] [(.ref r1), .null, (.ref b101), (.ref b101)])) rfl (hb hby d1_6) (n := 24) (by decide +kernel) (by decide) (by decide) (by decide)
  refine Go.via st102 ?_
  have Zs102 : n0 ≤ h102.size := Nat.le_trans Zs101 E102.1
  have K102 : Keep h0 h102 [] := K101.ext E102
  have fE_r1_102 := fE_r1_101.ext E102
  have fE_b101_102 := A101.ext E102
  have fF_b101_reached_102 := F_reached_b101.ext E102
  have fF_b101_reason_102 := F_reason_b101.ext E102
  show Go p e below _ (T102.setTop (mkF m 8 #[.val (.ref r1)] [(.ref s102), (.ref r1), .null, (.ref b101), (.ref b101)]))
  obtain ⟨_, _, ⟨T103, L103, k103, n103⟩, -, X103, ⟨Lc103, hQ103, l103, y103, z103⟩, st103⟩ := Jvm.LawKit.callS X102 hx (y := (⟨"java/util/Objects", "requireNonNull", "(Ljava/lang/Object;Ljava/lang/String;)Ljava/lang/Object;"⟩ : MethodName)) hown102 (mvT hZ102 (hw _ (List.mem_of_getElem? (i := 53) rfl))) (mvT hZ102 (hw _ (List.mem_of_getElem? (i := 54) rfl))) (mvT hZ102 (hw _ (List.mem_of_getElem? (i := 55) rfl))) (mvT hZ102 (hw _ (List.mem_of_getElem? (i := 56) rfl))) (by decide) (backOf (W := 3) (rmRnn l Z a0 hw [] r1 s102 h102 n0 Zs102) hZ102 (hw _ (List.mem_of_getElem? (i := 56) rfl)) (hw _ (List.mem_of_getElem? (i := 55) rfl)) (by decide) (by decide)) (g := (mkF m 8 #[.val (.ref r1)] [(.ref s102), (.ref r1), .null, (.ref b101), (.ref b101)])) rfl (by rw [hml]; rfl) (argsL := [(.ref r1), (.ref s102)]) (rest := [.null, (.ref b101), (.ref b101)]) (lenOf pd_1 rfl) rfl (by show 2 * 0 + _ ≤ _; exact Nat.le_of_eq rfl) (hb hby d1_8) (fun _ _ => ⟨rfl, e102, (by decide : 3 + 0 ≤ _), (by decide : 30 + 0 ≤ _)⟩)
  dsimp only [Pt.U, Pt.locs, Pt.cells, Pt.slots] at X103 l103 y103 z103 st103 hQ103
  rw [l103, y103, z103] at X103
  replace X103 : Stand p l e _ _ m _ below meth c T103 _ 3 30 := X103
  obtain ⟨rfl, N103q, e103q⟩ := hQ103
  have N103 := Fr.app N0 N103q
  refine Go.via st103 ?_
  show Go p e below _ (T103.setTop (mkF m 11 #[.val (.ref r1)] [(.ref r1), .null, (.ref b101), (.ref b101)]))
  obtain ⟨T104, X104, e104, st104⟩ := castY X103 hx hZ102 hown102 (hw _ (List.mem_of_getElem? (i := 57) rfl)) e103q (Ins.self fE_r1_102) (g := (mkF m 11 #[.val (.ref r1)] [(.ref r1), .null, (.ref b101), (.ref b101)])) rfl rfl (hb hby d1_11)
  refine Go.via st104 ?_
  show Go p e below _ (T104.setTop (mkF m 14 #[.val (.ref r1)] [(.ref r1), .null, (.ref b101), (.ref b101)]))
  obtain ⟨_, _, ⟨T105, L105, k105, n105⟩, -, X105, ⟨Lc105, hQ105, l105, y105, z105⟩, st105⟩ := X104.specialBack hx (y := (⟨"com/example/timed_cap/timedcap/model/Decision", "<init>", "(Lcom/example/timed_cap/timedcap/model/Reference;Lcom/example/timed_cap/timedcap/model/Reason;)V"⟩ : MethodName)) rfl hown102 (mvT hZ102 (hw _ (List.mem_of_getElem? (i := 58) rfl))) (mvT hZ102 (hw _ (List.mem_of_getElem? (i := 59) rfl))) (mvT hZ102 (hw _ (List.mem_of_getElem? (i := 60) rfl))) (by decide) (backOf (W := 1) (rmDI l Z a0 hw [] b101 r1 h102 n0 Zs102 fE_b101_102 fF_b101_reached_102 fF_b101_reason_102 g_b101) hZ102 (hw _ (List.mem_of_getElem? (i := 60) rfl)) (hw _ (List.mem_of_getElem? (i := 41) rfl)) (by decide) (by decide)) (g := (mkF m 14 #[.val (.ref r1)] [(.ref r1), .null, (.ref b101), (.ref b101)])) rfl (by rw [hml]; rfl) (Steps.refl _) (a := b101) (argsL := [.null, (.ref r1)]) (rest := [(.ref b101)]) (lenOf pd_2 rfl) rfl (by show 2 * 0 + _ ≤ _; exact Nat.le_of_eq rfl) (hb hby d1_14) (fun _ _ => ⟨rfl, e104, (by decide : 3 + 0 ≤ _), (by decide : 30 + 0 ≤ _)⟩)
  dsimp only [Pt.U, Pt.locs, Pt.cells, Pt.slots] at X105 l105 y105 z105 st105 hQ105
  rw [l105, y105, z105] at X105
  replace X105 : Stand p l e _ _ m _ below meth c T105 _ 3 30 := X105
  obtain ⟨rfl, N105q, K105q, fa105, fb105⟩ := hQ105
  have N105 := Fr.app N103 N105q
  refine Go.tr st105 ?_
  have Zs105 : n0 ≤ T105.heap.size := Nat.le_trans Zs102 K105q.1
  have hk105 : kk102 ≤ T105.heap.size := Nat.le_trans hk102 K105q.1
  have K105 : Keep h0 T105.heap [] := K102.trans K105q (allS (Or.inr sz_b101) all0)
  have fE_r1_105 := fE_r1_102.keep K105q
  have fE_b101_105 := fE_b101_102.keep K105q
  show Go p e below _ (T105.setTop (mkF m 17 #[.val (.ref r1)] [(.ref b101)]))
  exact own_retAW X105 hS102 hk105 hx hlk Bd.returns rfl rfl (hb hby d1_17) (by show QDen Z r1 h0 n0 _ T105.heap _; exact ⟨b101, rfl, N105, K105, sz_b101, fE_b101_105, fa105, fb105⟩) (by decide) (by decide)
theorem ef_rm_reason (m : MethodId) (x0 : Addr) : entryFrame m #[(.ref x0)] 1 = mkF m 0 #[.val (.ref x0)] [] := by first | (simp [entryFrame, mkF, argsToLocals, Value.category]; done) | rfl
def Q_reason (Z : State) (a1 : Addr) (r1 : Addr) (h0 : Heap) (n0 : Nat) (v : Option Value) (h : Heap) (L : List Loc) : Prop := v = some (.ref r1) ∧ Fr n0 L ∧ h = h0
set_option maxRecDepth 65536 in
set_option maxHeartbeats 40000000 in
theorem rm_reason (l : Launch) (Z : State) (a0 : Array Value) (hw : ∀ d ∈ tables_1, d.before a0 Z = true) (ws : List Jvm.Cond) (a1 : Addr) (r1 : Addr) (h0 : Heap) (n0 : Nat) (Z0 : n0 ≤ h0.size) (F1 : Fld Z h0 a1 "com/example/timed_cap/timedcap/model/Decision" "reached" "Lcom/example/timed_cap/timedcap/model/Reference;" .null) (F2 : Fld Z h0 a1 "com/example/timed_cap/timedcap/model/Decision" "reason" "Lcom/example/timed_cap/timedcap/model/Reason;" (.ref r1)) :
    MetFree l (⟨"com/example/timed_cap/timedcap/model/Decision", "reason", "()Lcom/example/timed_cap/timedcap/model/Reason;"⟩ : MethodName) (head1 (Jvm.Cond.code (⟨"com/example/timed_cap/timedcap/model/Decision", "reason", "()Lcom/example/timed_cap/timedcap/model/Reason;"⟩ : MethodName) prog_3_method_9_code 1 (some (.object "com/example/timed_cap/timedcap/model/Reason")) :: ws) ({ frames := 0, cells := 0, slots := 0, locals := 0 } : Room)) (fun a U => a = #[(.ref a1)] ∧ Z.Warmed39 U.vm ∧ U.heap = h0) (fun _ _ _ _ _ => True) (fun _ U o U' => ∃ v L, o = .returned v ∧ Q_reason Z a1 r1 h0 n0 v U'.heap L ∧ FrameEnd U o U' L ({ frames := 0, cells := 0, slots := 0, locals := 0 } : Room).cells ({ frames := 0, cells := 0, slots := 0, locals := 0 } : Room).slots) := by
  refine MetFree.of_bodySF (plainFor_of_name pn_com_example_timed_cap_timedcap_model_Decision) hisR ?_
  intro p e s m args below meth c s₁ Bd hml0 hP hK
  obtain ⟨rfl, hZ, hh⟩ := hP
  have hx := Bd.exec
  have hby := Bd.bytes
  have hlk : meth.locks = false := Bd.notSynchronized
  have hml : c.maxLocals = 1 := hml0
  have hown : s.vm.findClass "com/example/timed_cap/timedcap/model/Decision" = some m.cls := findClass_of_methodNamed Bd.named
  have hnm := (name_of_methodNamed Bd.named Bd.method).1
  have X0 : Stand p l e ({ frames := 0, cells := 0, slots := 0, locals := 0 } : Room) s m #[(.ref a1)] below meth c s₁ [] 0 0 := Stand.of_body Bd
  have e0 : s₁.heap = h0 := by rw [← hh, Bd.state]; rfl
  have N0 := Fr.nil n0
  show Go p e below (FinE s below (Q_reason Z a1 r1 h0 n0) ({ frames := 0, cells := 0, slots := 0, locals := 0 } : Room).cells ({ frames := 0, cells := 0, slots := 0, locals := 0 } : Room).slots) (s₁.setTop (entryFrame m #[(.ref a1)] 1))
  refine Go.via (fun t k => castTop (ef_rm_reason m a1) k) ?_
  show Go p e below _ (s₁.setTop (mkF m 0 #[.val (.ref a1)] []))
  refine Go.via (fun _ => XS.aloadN X0.here hx rfl (hb hby d6_0) rfl rfl) ?_
  show Go p e below _ (s₁.setTop (mkF m 1 #[.val (.ref a1)] [(.ref a1)]))
  obtain ⟨T101, X101, e101, st101⟩ := getF X0 hx hZ hown (host := "") (Or.inl (hw _ (List.mem_of_getElem? (i := 71) rfl))) Via.refl e0 F2 (g := (mkF m 1 #[.val (.ref a1)] [(.ref a1)])) rfl rfl (hb hby d6_1)
  refine Go.via st101 ?_
  show Go p e below _ (T101.setTop (mkF m 4 #[.val (.ref a1)] [(.ref r1)]))
  exact own_retA X101 hx hlk Bd.returns rfl rfl (hb hby d6_4) (by show Q_reason Z a1 r1 h0 n0 _ T101.heap _; rw [e101]; exact ⟨rfl, N0, rfl⟩) (by decide) (by decide)
theorem ef_rm_reached (m : MethodId) (x0 : Addr) : entryFrame m #[(.ref x0)] 1 = mkF m 0 #[.val (.ref x0)] [] := by first | (simp [entryFrame, mkF, argsToLocals, Value.category]; done) | rfl
def Q_reached (Z : State) (a1 : Addr) (r1 : Addr) (h0 : Heap) (n0 : Nat) (v : Option Value) (h : Heap) (L : List Loc) : Prop := v = some .null ∧ Fr n0 L ∧ h = h0
set_option maxRecDepth 65536 in
set_option maxHeartbeats 40000000 in
theorem rm_reached (l : Launch) (Z : State) (a0 : Array Value) (hw : ∀ d ∈ tables_1, d.before a0 Z = true) (ws : List Jvm.Cond) (a1 : Addr) (r1 : Addr) (h0 : Heap) (n0 : Nat) (Z0 : n0 ≤ h0.size) (F1 : Fld Z h0 a1 "com/example/timed_cap/timedcap/model/Decision" "reached" "Lcom/example/timed_cap/timedcap/model/Reference;" .null) (F2 : Fld Z h0 a1 "com/example/timed_cap/timedcap/model/Decision" "reason" "Lcom/example/timed_cap/timedcap/model/Reason;" (.ref r1)) :
    MetFree l (⟨"com/example/timed_cap/timedcap/model/Decision", "reached", "()Lcom/example/timed_cap/timedcap/model/Reference;"⟩ : MethodName) (head1 (Jvm.Cond.code (⟨"com/example/timed_cap/timedcap/model/Decision", "reached", "()Lcom/example/timed_cap/timedcap/model/Reference;"⟩ : MethodName) prog_3_method_8_code 1 (some (.object "com/example/timed_cap/timedcap/model/Reference")) :: ws) ({ frames := 0, cells := 0, slots := 0, locals := 0 } : Room)) (fun a U => a = #[(.ref a1)] ∧ Z.Warmed39 U.vm ∧ U.heap = h0) (fun _ _ _ _ _ => True) (fun _ U o U' => ∃ v L, o = .returned v ∧ Q_reached Z a1 r1 h0 n0 v U'.heap L ∧ FrameEnd U o U' L ({ frames := 0, cells := 0, slots := 0, locals := 0 } : Room).cells ({ frames := 0, cells := 0, slots := 0, locals := 0 } : Room).slots) := by
  refine MetFree.of_bodySF (plainFor_of_name pn_com_example_timed_cap_timedcap_model_Decision) hisR ?_
  intro p e s m args below meth c s₁ Bd hml0 hP hK
  obtain ⟨rfl, hZ, hh⟩ := hP
  have hx := Bd.exec
  have hby := Bd.bytes
  have hlk : meth.locks = false := Bd.notSynchronized
  have hml : c.maxLocals = 1 := hml0
  have hown : s.vm.findClass "com/example/timed_cap/timedcap/model/Decision" = some m.cls := findClass_of_methodNamed Bd.named
  have hnm := (name_of_methodNamed Bd.named Bd.method).1
  have X0 : Stand p l e ({ frames := 0, cells := 0, slots := 0, locals := 0 } : Room) s m #[(.ref a1)] below meth c s₁ [] 0 0 := Stand.of_body Bd
  have e0 : s₁.heap = h0 := by rw [← hh, Bd.state]; rfl
  have N0 := Fr.nil n0
  show Go p e below (FinE s below (Q_reached Z a1 r1 h0 n0) ({ frames := 0, cells := 0, slots := 0, locals := 0 } : Room).cells ({ frames := 0, cells := 0, slots := 0, locals := 0 } : Room).slots) (s₁.setTop (entryFrame m #[(.ref a1)] 1))
  refine Go.via (fun t k => castTop (ef_rm_reached m a1) k) ?_
  show Go p e below _ (s₁.setTop (mkF m 0 #[.val (.ref a1)] []))
  refine Go.via (fun _ => XS.aloadN X0.here hx rfl (hb hby d7_0) rfl rfl) ?_
  show Go p e below _ (s₁.setTop (mkF m 1 #[.val (.ref a1)] [(.ref a1)]))
  obtain ⟨T101, X101, e101, st101⟩ := getF X0 hx hZ hown (host := "") (Or.inl (hw _ (List.mem_of_getElem? (i := 69) rfl))) Via.refl e0 F1 (g := (mkF m 1 #[.val (.ref a1)] [(.ref a1)])) rfl rfl (hb hby d7_1)
  refine Go.via st101 ?_
  show Go p e below _ (T101.setTop (mkF m 4 #[.val (.ref a1)] [.null]))
  exact own_retA X101 hx hlk Bd.returns rfl rfl (hb hby d7_4) (by show Q_reached Z a1 r1 h0 n0 _ T101.heap _; rw [e101]; exact ⟨rfl, N0, rfl⟩) (by decide) (by decide)
theorem ef_rm_isGranted (m : MethodId) (x0 : Addr) : entryFrame m #[(.ref x0)] 1 = mkF m 0 #[.val (.ref x0)] [] := by first | (simp [entryFrame, mkF, argsToLocals, Value.category]; done) | rfl
def Q_isGranted (Z : State) (a1 : Addr) (r1 : Addr) (h0 : Heap) (n0 : Nat) (v : Option Value) (h : Heap) (L : List Loc) : Prop := v = some (.int (0 : Int32)) ∧ Fr n0 L ∧ h = h0
set_option maxRecDepth 65536 in
set_option maxHeartbeats 40000000 in
theorem rm_isGranted (l : Launch) (Z : State) (a0 : Array Value) (hw : ∀ d ∈ tables_1, d.before a0 Z = true) (ws : List Jvm.Cond) (a1 : Addr) (r1 : Addr) (h0 : Heap) (n0 : Nat) (Z0 : n0 ≤ h0.size) (F1 : Fld Z h0 a1 "com/example/timed_cap/timedcap/model/Decision" "reached" "Lcom/example/timed_cap/timedcap/model/Reference;" .null) (F2 : Fld Z h0 a1 "com/example/timed_cap/timedcap/model/Decision" "reason" "Lcom/example/timed_cap/timedcap/model/Reason;" (.ref r1)) :
    MetFree l (⟨"com/example/timed_cap/timedcap/model/Decision", "isGranted", "()Z"⟩ : MethodName) (head1 (Jvm.Cond.code (⟨"com/example/timed_cap/timedcap/model/Decision", "isGranted", "()Z"⟩ : MethodName) prog_3_method_4_code 1 (some .boolean) :: ws) ({ frames := 0, cells := 0, slots := 0, locals := 0 } : Room)) (fun a U => a = #[(.ref a1)] ∧ Z.Warmed39 U.vm ∧ U.heap = h0) (fun _ _ _ _ _ => True) (fun _ U o U' => ∃ v L, o = .returned v ∧ Q_isGranted Z a1 r1 h0 n0 v U'.heap L ∧ FrameEnd U o U' L ({ frames := 0, cells := 0, slots := 0, locals := 0 } : Room).cells ({ frames := 0, cells := 0, slots := 0, locals := 0 } : Room).slots) := by
  refine MetFree.of_bodySF (plainFor_of_name pn_com_example_timed_cap_timedcap_model_Decision) hisR ?_
  intro p e s m args below meth c s₁ Bd hml0 hP hK
  obtain ⟨rfl, hZ, hh⟩ := hP
  have hx := Bd.exec
  have hby := Bd.bytes
  have hlk : meth.locks = false := Bd.notSynchronized
  have hml : c.maxLocals = 1 := hml0
  have hown : s.vm.findClass "com/example/timed_cap/timedcap/model/Decision" = some m.cls := findClass_of_methodNamed Bd.named
  have hnm := (name_of_methodNamed Bd.named Bd.method).1
  have X0 : Stand p l e ({ frames := 0, cells := 0, slots := 0, locals := 0 } : Room) s m #[(.ref a1)] below meth c s₁ [] 0 0 := Stand.of_body Bd
  have e0 : s₁.heap = h0 := by rw [← hh, Bd.state]; rfl
  have N0 := Fr.nil n0
  show Go p e below (FinE s below (Q_isGranted Z a1 r1 h0 n0) ({ frames := 0, cells := 0, slots := 0, locals := 0 } : Room).cells ({ frames := 0, cells := 0, slots := 0, locals := 0 } : Room).slots) (s₁.setTop (entryFrame m #[(.ref a1)] 1))
  refine Go.via (fun t k => castTop (ef_rm_isGranted m a1) k) ?_
  show Go p e below _ (s₁.setTop (mkF m 0 #[.val (.ref a1)] []))
  refine Go.via (fun _ => XS.aloadN X0.here hx rfl (hb hby d8_0) rfl rfl) ?_
  show Go p e below _ (s₁.setTop (mkF m 1 #[.val (.ref a1)] [(.ref a1)]))
  obtain ⟨T101, X101, e101, st101⟩ := getF X0 hx hZ hown (host := "") (Or.inl (hw _ (List.mem_of_getElem? (i := 69) rfl))) Via.refl e0 F1 (g := (mkF m 1 #[.val (.ref a1)] [(.ref a1)])) rfl rfl (hb hby d8_1)
  refine Go.via st101 ?_
  show Go p e below _ (T101.setTop (mkF m 4 #[.val (.ref a1)] [.null]))
  refine Go.via (fun _ => XS.ifnullYes X101.here hx rfl (pc0 := 4) (pc' := 11) rfl (hb hby d8_4) rfl (by decide) (by decide)) ?_
  show Go p e below _ (T101.setTop (mkF m 11 #[.val (.ref a1)] []))
  refine Go.via (fun _ => XS.iconst X101.here hx rfl (hb hby d8_11)) ?_
  show Go p e below _ (T101.setTop (mkF m 12 #[.val (.ref a1)] [(.int (0 : Int32))]))
  exact own_retN X101 hx hlk (t := .boolean) Bd.returns (by simp) (hb hby d8_12) (by show Q_isGranted Z a1 r1 h0 n0 _ T101.heap _; rw [e101]; exact ⟨rfl, N0, rfl⟩) (by decide) (by decide)
theorem ef_rm0 (m : MethodId) (x0 : Int32) : entryFrame m #[(.int x0)] maxLocals = mkF m 0 #[.val (.int x0), .unset, .unset, .unset, .unset] [] := by first | (simp [entryFrame, mkF, argsToLocals, Value.category, maxLocals]; done) | rfl
def Q0 (Z : State) (p1 : Int32) (w_MALFORMED : Addr) (w_ALTERED : Addr) (w_RESEALED : Addr) (w_NOT_HOLDER : Addr) (w_REVOKED : Addr) (w_NO_SUCH_VERSION : Addr) (w_NO_VERSION_YET : Addr) (w_NOT_YET_EFFECTIVE : Addr) (w_EXPIRED : Addr) (w_LEASE_ENDED : Addr) (w_OUTSIDE_SCHEDULE : Addr) (w_RIGHT_NOT_HELD : Addr) (w_VERSION_EXISTS : Addr) (w_NOT_A_HISTORY_CAPABILITY : Addr) (w_WIDENS_PARENT : Addr) (w_NOT_AN_ANCESTOR : Addr) (w_NO_SUCH_LEASE : Addr) (h0 : Heap) (n0 : Nat) (v : Option Value) (h : Heap) (L : List Loc) : Prop := v = some (.int 1) ∧ Fr n0 L
set_option maxRecDepth 65536 in
set_option maxHeartbeats 40000000 in
theorem rm0 (l : Launch) (Z : State) (a0 : Array Value) (hw : ∀ d ∈ tables_1, d.before a0 Z = true) (ws : List Jvm.Cond) (p1 : Int32) (w_MALFORMED : Addr) (w_ALTERED : Addr) (w_RESEALED : Addr) (w_NOT_HOLDER : Addr) (w_REVOKED : Addr) (w_NO_SUCH_VERSION : Addr) (w_NO_VERSION_YET : Addr) (w_NOT_YET_EFFECTIVE : Addr) (w_EXPIRED : Addr) (w_LEASE_ENDED : Addr) (w_OUTSIDE_SCHEDULE : Addr) (w_RIGHT_NOT_HELD : Addr) (w_VERSION_EXISTS : Addr) (w_NOT_A_HISTORY_CAPABILITY : Addr) (w_WIDENS_PARENT : Addr) (w_NOT_AN_ANCESTOR : Addr) (w_NO_SUCH_LEASE : Addr) (h0 : Heap) (n0 : Nat) (Z0 : n0 ≤ h0.size) (O0 : Old Z n0 h0) (S_MALFORMED : Sta Z Z.heap "com/example/timed_cap/timedcap/model/Reason" "MALFORMED" "Lcom/example/timed_cap/timedcap/model/Reason;" (.ref w_MALFORMED)) (S_ALTERED : Sta Z Z.heap "com/example/timed_cap/timedcap/model/Reason" "ALTERED" "Lcom/example/timed_cap/timedcap/model/Reason;" (.ref w_ALTERED)) (S_RESEALED : Sta Z Z.heap "com/example/timed_cap/timedcap/model/Reason" "RESEALED" "Lcom/example/timed_cap/timedcap/model/Reason;" (.ref w_RESEALED)) (S_NOT_HOLDER : Sta Z Z.heap "com/example/timed_cap/timedcap/model/Reason" "NOT_HOLDER" "Lcom/example/timed_cap/timedcap/model/Reason;" (.ref w_NOT_HOLDER)) (S_REVOKED : Sta Z Z.heap "com/example/timed_cap/timedcap/model/Reason" "REVOKED" "Lcom/example/timed_cap/timedcap/model/Reason;" (.ref w_REVOKED)) (S_NO_SUCH_VERSION : Sta Z Z.heap "com/example/timed_cap/timedcap/model/Reason" "NO_SUCH_VERSION" "Lcom/example/timed_cap/timedcap/model/Reason;" (.ref w_NO_SUCH_VERSION)) (S_NO_VERSION_YET : Sta Z Z.heap "com/example/timed_cap/timedcap/model/Reason" "NO_VERSION_YET" "Lcom/example/timed_cap/timedcap/model/Reason;" (.ref w_NO_VERSION_YET)) (S_NOT_YET_EFFECTIVE : Sta Z Z.heap "com/example/timed_cap/timedcap/model/Reason" "NOT_YET_EFFECTIVE" "Lcom/example/timed_cap/timedcap/model/Reason;" (.ref w_NOT_YET_EFFECTIVE)) (S_EXPIRED : Sta Z Z.heap "com/example/timed_cap/timedcap/model/Reason" "EXPIRED" "Lcom/example/timed_cap/timedcap/model/Reason;" (.ref w_EXPIRED)) (S_LEASE_ENDED : Sta Z Z.heap "com/example/timed_cap/timedcap/model/Reason" "LEASE_ENDED" "Lcom/example/timed_cap/timedcap/model/Reason;" (.ref w_LEASE_ENDED)) (S_OUTSIDE_SCHEDULE : Sta Z Z.heap "com/example/timed_cap/timedcap/model/Reason" "OUTSIDE_SCHEDULE" "Lcom/example/timed_cap/timedcap/model/Reason;" (.ref w_OUTSIDE_SCHEDULE)) (S_RIGHT_NOT_HELD : Sta Z Z.heap "com/example/timed_cap/timedcap/model/Reason" "RIGHT_NOT_HELD" "Lcom/example/timed_cap/timedcap/model/Reason;" (.ref w_RIGHT_NOT_HELD)) (S_VERSION_EXISTS : Sta Z Z.heap "com/example/timed_cap/timedcap/model/Reason" "VERSION_EXISTS" "Lcom/example/timed_cap/timedcap/model/Reason;" (.ref w_VERSION_EXISTS)) (S_NOT_A_HISTORY_CAPABILITY : Sta Z Z.heap "com/example/timed_cap/timedcap/model/Reason" "NOT_A_HISTORY_CAPABILITY" "Lcom/example/timed_cap/timedcap/model/Reason;" (.ref w_NOT_A_HISTORY_CAPABILITY)) (S_WIDENS_PARENT : Sta Z Z.heap "com/example/timed_cap/timedcap/model/Reason" "WIDENS_PARENT" "Lcom/example/timed_cap/timedcap/model/Reason;" (.ref w_WIDENS_PARENT)) (S_NOT_AN_ANCESTOR : Sta Z Z.heap "com/example/timed_cap/timedcap/model/Reason" "NOT_AN_ANCESTOR" "Lcom/example/timed_cap/timedcap/model/Reason;" (.ref w_NOT_AN_ANCESTOR)) (S_NO_SUCH_LEASE : Sta Z Z.heap "com/example/timed_cap/timedcap/model/Reason" "NO_SUCH_LEASE" "Lcom/example/timed_cap/timedcap/model/Reason;" (.ref w_NO_SUCH_LEASE)) (E_MALFORMED : Exa Z Z.heap w_MALFORMED "com/example/timed_cap/timedcap/model/Reason") (E_ALTERED : Exa Z Z.heap w_ALTERED "com/example/timed_cap/timedcap/model/Reason") (E_RESEALED : Exa Z Z.heap w_RESEALED "com/example/timed_cap/timedcap/model/Reason") (E_NOT_HOLDER : Exa Z Z.heap w_NOT_HOLDER "com/example/timed_cap/timedcap/model/Reason") (E_REVOKED : Exa Z Z.heap w_REVOKED "com/example/timed_cap/timedcap/model/Reason") (E_NO_SUCH_VERSION : Exa Z Z.heap w_NO_SUCH_VERSION "com/example/timed_cap/timedcap/model/Reason") (E_NO_VERSION_YET : Exa Z Z.heap w_NO_VERSION_YET "com/example/timed_cap/timedcap/model/Reason") (E_NOT_YET_EFFECTIVE : Exa Z Z.heap w_NOT_YET_EFFECTIVE "com/example/timed_cap/timedcap/model/Reason") (E_EXPIRED : Exa Z Z.heap w_EXPIRED "com/example/timed_cap/timedcap/model/Reason") (E_LEASE_ENDED : Exa Z Z.heap w_LEASE_ENDED "com/example/timed_cap/timedcap/model/Reason") (E_OUTSIDE_SCHEDULE : Exa Z Z.heap w_OUTSIDE_SCHEDULE "com/example/timed_cap/timedcap/model/Reason") (E_RIGHT_NOT_HELD : Exa Z Z.heap w_RIGHT_NOT_HELD "com/example/timed_cap/timedcap/model/Reason") (E_VERSION_EXISTS : Exa Z Z.heap w_VERSION_EXISTS "com/example/timed_cap/timedcap/model/Reason") (E_NOT_A_HISTORY_CAPABILITY : Exa Z Z.heap w_NOT_A_HISTORY_CAPABILITY "com/example/timed_cap/timedcap/model/Reason") (E_WIDENS_PARENT : Exa Z Z.heap w_WIDENS_PARENT "com/example/timed_cap/timedcap/model/Reason") (E_NOT_AN_ANCESTOR : Exa Z Z.heap w_NOT_AN_ANCESTOR "com/example/timed_cap/timedcap/model/Reason") (E_NO_SUCH_LEASE : Exa Z Z.heap w_NO_SUCH_LEASE "com/example/timed_cap/timedcap/model/Reason") :
    MetFree l x (head1 (Jvm.Cond.code x code maxLocals ret :: ws) room_1) (fun a U => a = #[(.int p1)] ∧ Z.Warmed39 U.vm ∧ U.heap = h0) (fun _ _ _ _ _ => True) (fun _ U o U' => ∃ v L, o = .returned v ∧ Q0 Z p1 w_MALFORMED w_ALTERED w_RESEALED w_NOT_HOLDER w_REVOKED w_NO_SUCH_VERSION w_NO_VERSION_YET w_NOT_YET_EFFECTIVE w_EXPIRED w_LEASE_ENDED w_OUTSIDE_SCHEDULE w_RIGHT_NOT_HELD w_VERSION_EXISTS w_NOT_A_HISTORY_CAPABILITY w_WIDENS_PARENT w_NOT_AN_ANCESTOR w_NO_SUCH_LEASE h0 n0 v U'.heap L ∧ ReturnedEndW U o U' L room_1.cells room_1.slots) := by
  refine MetFree.of_bodySF (plainFor_of_name pn_com_example_timed_cap_timedcap_model_DecisionDeniedPinLaw) hisR ?_
  intro p e s m args below meth c s₁ Bd hml0 hP hK
  obtain ⟨rfl, hZ, hh⟩ := hP
  have hx := Bd.exec
  have hby := Bd.bytes
  have hlk : meth.locks = false := Bd.notSynchronized
  have hml : c.maxLocals = 5 := hml0
  have hown : s.vm.findClass "com/example/timed_cap/timedcap/model/DecisionDeniedPinLaw" = some m.cls := findClass_of_methodNamed Bd.named
  have hnm := (name_of_methodNamed Bd.named Bd.method).1
  have X0 : Stand p l e room_1 (s.setVm s.vm) m #[(.int p1)] below meth c s₁ [] 0 0 := Stand.of_body Bd
  replace hZ : Z.Warmed39 (s.setVm s.vm).vm := hZ
  replace hown : (s.setVm s.vm).vm.findClass "com/example/timed_cap/timedcap/model/DecisionDeniedPinLaw" = some m.cls := hown
  have hS0 : s.Since s.vm 0 := (State.WarmedH.refl s).since 0
  have hk0 : 0 ≤ h0.size := Nat.zero_le _
  have e0 : s₁.heap = h0 := by rw [← hh, Bd.state]; rfl
  have N0 := Fr.nil n0
  show Go p e below (FinW s below (Q0 Z p1 w_MALFORMED w_ALTERED w_RESEALED w_NOT_HOLDER w_REVOKED w_NO_SUCH_VERSION w_NO_VERSION_YET w_NOT_YET_EFFECTIVE w_EXPIRED w_LEASE_ENDED w_OUTSIDE_SCHEDULE w_RIGHT_NOT_HELD w_VERSION_EXISTS w_NOT_A_HISTORY_CAPABILITY w_WIDENS_PARENT w_NOT_AN_ANCESTOR w_NO_SUCH_LEASE h0 n0) room_1.cells room_1.slots) (s₁.setTop (entryFrame m #[(.int p1)] maxLocals))
  refine Go.via (fun t k => castTop (ef_rm0 m p1) k) ?_
  show Go p e below _ (s₁.setTop (mkF m 0 #[.val (.int p1), .unset, .unset, .unset, .unset] []))
  refine Go.via (fun _ => XS.bipush X0.here hx rfl (hb hby at_0)) ?_
  show Go p e below _ (s₁.setTop (mkF m 2 #[.val (.int p1), .unset, .unset, .unset, .unset] [(.int (17 : Int32))]))
  obtain ⟨T101, h101, k101, X101, e101, E101, A101, O101v, st101⟩ := newR X0 hx hZ hown (hw _ (List.mem_of_getElem? (i := 0) rfl)) (hw _ (List.mem_of_getElem? (i := 1) rfl)) e0 (g := (mkF m 2 #[.val (.int p1), .unset, .unset, .unset, .unset] [(.int (17 : Int32))])) rfl (hb hby at_2) rfl (by decide) (cap := 17) (by decide) (by decide) (by decide) (by decide)
  obtain ⟨b101, g101⟩ : ∃ z, z = h0.size := ⟨_, rfl⟩
  rw [← g101] at A101 st101
  have g_b101 : n0 ≤ b101 := Nat.le_trans Z0 (Nat.le_of_eq g101.symm)
  refine Go.via st101 ?_
  have Zs101 : n0 ≤ h101.size := Nat.le_trans Z0 E101.1
  have hk101 : 0 ≤ h101.size := Nat.le_trans hk0 E101.1
  have O101 : Old Z n0 h101 := O0.ext E101
  have V_b101 : Arv Z h101 b101 k101 (.object "com/example/timed_cap/timedcap/model/Reason") (17 : Int32) [.null, .null, .null, .null, .null, .null, .null, .null, .null, .null, .null, .null, .null, .null, .null, .null, .null] .null := (Arv.new A101 (by decide)).pad (pad_rep [] .null 17)
  show Go p e below _ (T101.setTop (mkF m 5 #[.val (.int p1), .unset, .unset, .unset, .unset] [(.ref b101)]))
  refine Go.via (fun _ => XS.dup X101.here hx rfl (hb hby at_5) rfl rfl) ?_
  show Go p e below _ (T101.setTop (mkF m 6 #[.val (.int p1), .unset, .unset, .unset, .unset] [(.ref b101), (.ref b101)]))
  refine Go.via (fun _ => XS.iconst X101.here hx rfl (hb hby at_6)) ?_
  show Go p e below _ (T101.setTop (mkF m 7 #[.val (.int p1), .unset, .unset, .unset, .unset] [(.int (0 : Int32)), (.ref b101), (.ref b101)]))
  obtain ⟨T102, X102, e102, st102⟩ := getS2 X101 hx hZ hown (host := "") (Or.inl (hw _ (List.mem_of_getElem? (i := 2) rfl))) Via.refl e101 (S_MALFORMED.ext O101.2) (g := (mkF m 7 #[.val (.int p1), .unset, .unset, .unset, .unset] [(.int (0 : Int32)), (.ref b101), (.ref b101)])) rfl (hb hby at_7)
  refine Go.via st102 ?_
  show Go p e below _ (T102.setTop (mkF m 10 #[.val (.int p1), .unset, .unset, .unset, .unset] [(.ref w_MALFORMED), (.int (0 : Int32)), (.ref b101), (.ref b101)]))
  obtain ⟨cl103, Ar103, q103, S103, N103n, H103, G103⟩ := id V_b101
  have hin103 := inb_of (j := (0 : Int32)) S103 (by decide)
  obtain ⟨T103, h103, X103, e103, W103, st103⟩ := stR X102 hx hZ e102 Ar103 (j := (0 : Int32)) hin103 rfl (Sto.ofV Ar103 q103 O101v (Ins.self (E_MALFORMED.ext O101.2))) (g := (mkF m 10 #[.val (.int p1), .unset, .unset, .unset, .unset] [(.ref w_MALFORMED), (.int (0 : Int32)), (.ref b101), (.ref b101)])) rfl rfl (hb hby at_10)
  refine Go.via st103 ?_
  have V103 : Arv Z h103 b101 k101 (.object "com/example/timed_cap/timedcap/model/Reason") (17 : Int32) [(.ref w_MALFORMED), .null, .null, .null, .null, .null, .null, .null, .null, .null, .null, .null, .null, .null, .null, .null, .null] .null := Arv.set Ar103 q103 S103 N103n H103 G103 rfl W103 0 rfl (Nat.le_of_ble_eq_true rfl)
  have Zs103 : n0 ≤ h103.size := Nat.le_trans Zs101 (Keep.of_wr W103).1
  have hk103 : 0 ≤ h103.size := Nat.le_trans hk101 (Keep.of_wr W103).1
  have O103 : Old Z n0 h103 := O101.wr W103 g_b101
  have N103 := Fr.snoc X103 N0 g_b101
  show Go p e below _ (T103.setTop (mkF m 11 #[.val (.int p1), .unset, .unset, .unset, .unset] [(.ref b101)]))
  refine Go.via (fun _ => XS.dup X103.here hx rfl (hb hby at_11) rfl rfl) ?_
  show Go p e below _ (T103.setTop (mkF m 12 #[.val (.int p1), .unset, .unset, .unset, .unset] [(.ref b101), (.ref b101)]))
  refine Go.via (fun _ => XS.iconst X103.here hx rfl (hb hby at_12)) ?_
  show Go p e below _ (T103.setTop (mkF m 13 #[.val (.int p1), .unset, .unset, .unset, .unset] [(.int (1 : Int32)), (.ref b101), (.ref b101)]))
  obtain ⟨T104, X104, e104, st104⟩ := getS2 X103 hx hZ hown (host := "") (Or.inl (hw _ (List.mem_of_getElem? (i := 6) rfl))) Via.refl e103 (S_ALTERED.ext O103.2) (g := (mkF m 13 #[.val (.int p1), .unset, .unset, .unset, .unset] [(.int (1 : Int32)), (.ref b101), (.ref b101)])) rfl (hb hby at_13)
  refine Go.via st104 ?_
  show Go p e below _ (T104.setTop (mkF m 16 #[.val (.int p1), .unset, .unset, .unset, .unset] [(.ref w_ALTERED), (.int (1 : Int32)), (.ref b101), (.ref b101)]))
  obtain ⟨cl105, Ar105, q105, S105, N105n, H105, G105⟩ := id V103
  have hin105 := inb_of (j := (1 : Int32)) S105 (by decide)
  obtain ⟨T105, h105, X105, e105, W105, st105⟩ := stR X104 hx hZ e104 Ar105 (j := (1 : Int32)) hin105 rfl (Sto.ofV Ar105 q105 O101v (Ins.self (E_ALTERED.ext O103.2))) (g := (mkF m 16 #[.val (.int p1), .unset, .unset, .unset, .unset] [(.ref w_ALTERED), (.int (1 : Int32)), (.ref b101), (.ref b101)])) rfl rfl (hb hby at_16)
  refine Go.via st105 ?_
  have V105 : Arv Z h105 b101 k101 (.object "com/example/timed_cap/timedcap/model/Reason") (17 : Int32) [(.ref w_MALFORMED), (.ref w_ALTERED), .null, .null, .null, .null, .null, .null, .null, .null, .null, .null, .null, .null, .null, .null, .null] .null := Arv.set Ar105 q105 S105 N105n H105 G105 rfl W105 1 rfl (Nat.le_of_ble_eq_true rfl)
  have Zs105 : n0 ≤ h105.size := Nat.le_trans Zs103 (Keep.of_wr W105).1
  have hk105 : 0 ≤ h105.size := Nat.le_trans hk103 (Keep.of_wr W105).1
  have O105 : Old Z n0 h105 := O103.wr W105 g_b101
  have N105 := Fr.snoc X105 N103 g_b101
  show Go p e below _ (T105.setTop (mkF m 17 #[.val (.int p1), .unset, .unset, .unset, .unset] [(.ref b101)]))
  refine Go.via (fun _ => XS.dup X105.here hx rfl (hb hby at_17) rfl rfl) ?_
  show Go p e below _ (T105.setTop (mkF m 18 #[.val (.int p1), .unset, .unset, .unset, .unset] [(.ref b101), (.ref b101)]))
  refine Go.via (fun _ => XS.iconst X105.here hx rfl (hb hby at_18)) ?_
  show Go p e below _ (T105.setTop (mkF m 19 #[.val (.int p1), .unset, .unset, .unset, .unset] [(.int (2 : Int32)), (.ref b101), (.ref b101)]))
  obtain ⟨T106, X106, e106, st106⟩ := getS2 X105 hx hZ hown (host := "") (Or.inl (hw _ (List.mem_of_getElem? (i := 8) rfl))) Via.refl e105 (S_RESEALED.ext O105.2) (g := (mkF m 19 #[.val (.int p1), .unset, .unset, .unset, .unset] [(.int (2 : Int32)), (.ref b101), (.ref b101)])) rfl (hb hby at_19)
  refine Go.via st106 ?_
  show Go p e below _ (T106.setTop (mkF m 22 #[.val (.int p1), .unset, .unset, .unset, .unset] [(.ref w_RESEALED), (.int (2 : Int32)), (.ref b101), (.ref b101)]))
  obtain ⟨cl107, Ar107, q107, S107, N107n, H107, G107⟩ := id V105
  have hin107 := inb_of (j := (2 : Int32)) S107 (by decide)
  obtain ⟨T107, h107, X107, e107, W107, st107⟩ := stR X106 hx hZ e106 Ar107 (j := (2 : Int32)) hin107 rfl (Sto.ofV Ar107 q107 O101v (Ins.self (E_RESEALED.ext O105.2))) (g := (mkF m 22 #[.val (.int p1), .unset, .unset, .unset, .unset] [(.ref w_RESEALED), (.int (2 : Int32)), (.ref b101), (.ref b101)])) rfl rfl (hb hby at_22)
  refine Go.via st107 ?_
  have V107 : Arv Z h107 b101 k101 (.object "com/example/timed_cap/timedcap/model/Reason") (17 : Int32) [(.ref w_MALFORMED), (.ref w_ALTERED), (.ref w_RESEALED), .null, .null, .null, .null, .null, .null, .null, .null, .null, .null, .null, .null, .null, .null] .null := Arv.set Ar107 q107 S107 N107n H107 G107 rfl W107 2 rfl (Nat.le_of_ble_eq_true rfl)
  have Zs107 : n0 ≤ h107.size := Nat.le_trans Zs105 (Keep.of_wr W107).1
  have hk107 : 0 ≤ h107.size := Nat.le_trans hk105 (Keep.of_wr W107).1
  have O107 : Old Z n0 h107 := O105.wr W107 g_b101
  have N107 := Fr.snoc X107 N105 g_b101
  show Go p e below _ (T107.setTop (mkF m 23 #[.val (.int p1), .unset, .unset, .unset, .unset] [(.ref b101)]))
  refine Go.via (fun _ => XS.dup X107.here hx rfl (hb hby at_23) rfl rfl) ?_
  show Go p e below _ (T107.setTop (mkF m 24 #[.val (.int p1), .unset, .unset, .unset, .unset] [(.ref b101), (.ref b101)]))
  refine Go.via (fun _ => XS.iconst X107.here hx rfl (hb hby at_24)) ?_
  show Go p e below _ (T107.setTop (mkF m 25 #[.val (.int p1), .unset, .unset, .unset, .unset] [(.int (3 : Int32)), (.ref b101), (.ref b101)]))
  obtain ⟨T108, X108, e108, st108⟩ := getS2 X107 hx hZ hown (host := "") (Or.inl (hw _ (List.mem_of_getElem? (i := 10) rfl))) Via.refl e107 (S_NOT_HOLDER.ext O107.2) (g := (mkF m 25 #[.val (.int p1), .unset, .unset, .unset, .unset] [(.int (3 : Int32)), (.ref b101), (.ref b101)])) rfl (hb hby at_25)
  refine Go.via st108 ?_
  show Go p e below _ (T108.setTop (mkF m 28 #[.val (.int p1), .unset, .unset, .unset, .unset] [(.ref w_NOT_HOLDER), (.int (3 : Int32)), (.ref b101), (.ref b101)]))
  obtain ⟨cl109, Ar109, q109, S109, N109n, H109, G109⟩ := id V107
  have hin109 := inb_of (j := (3 : Int32)) S109 (by decide)
  obtain ⟨T109, h109, X109, e109, W109, st109⟩ := stR X108 hx hZ e108 Ar109 (j := (3 : Int32)) hin109 rfl (Sto.ofV Ar109 q109 O101v (Ins.self (E_NOT_HOLDER.ext O107.2))) (g := (mkF m 28 #[.val (.int p1), .unset, .unset, .unset, .unset] [(.ref w_NOT_HOLDER), (.int (3 : Int32)), (.ref b101), (.ref b101)])) rfl rfl (hb hby at_28)
  refine Go.via st109 ?_
  have V109 : Arv Z h109 b101 k101 (.object "com/example/timed_cap/timedcap/model/Reason") (17 : Int32) [(.ref w_MALFORMED), (.ref w_ALTERED), (.ref w_RESEALED), (.ref w_NOT_HOLDER), .null, .null, .null, .null, .null, .null, .null, .null, .null, .null, .null, .null, .null] .null := Arv.set Ar109 q109 S109 N109n H109 G109 rfl W109 3 rfl (Nat.le_of_ble_eq_true rfl)
  have Zs109 : n0 ≤ h109.size := Nat.le_trans Zs107 (Keep.of_wr W109).1
  have hk109 : 0 ≤ h109.size := Nat.le_trans hk107 (Keep.of_wr W109).1
  have O109 : Old Z n0 h109 := O107.wr W109 g_b101
  have N109 := Fr.snoc X109 N107 g_b101
  show Go p e below _ (T109.setTop (mkF m 29 #[.val (.int p1), .unset, .unset, .unset, .unset] [(.ref b101)]))
  refine Go.via (fun _ => XS.dup X109.here hx rfl (hb hby at_29) rfl rfl) ?_
  show Go p e below _ (T109.setTop (mkF m 30 #[.val (.int p1), .unset, .unset, .unset, .unset] [(.ref b101), (.ref b101)]))
  refine Go.via (fun _ => XS.iconst X109.here hx rfl (hb hby at_30)) ?_
  show Go p e below _ (T109.setTop (mkF m 31 #[.val (.int p1), .unset, .unset, .unset, .unset] [(.int (4 : Int32)), (.ref b101), (.ref b101)]))
  obtain ⟨T110, X110, e110, st110⟩ := getS2 X109 hx hZ hown (host := "") (Or.inl (hw _ (List.mem_of_getElem? (i := 12) rfl))) Via.refl e109 (S_REVOKED.ext O109.2) (g := (mkF m 31 #[.val (.int p1), .unset, .unset, .unset, .unset] [(.int (4 : Int32)), (.ref b101), (.ref b101)])) rfl (hb hby at_31)
  refine Go.via st110 ?_
  show Go p e below _ (T110.setTop (mkF m 34 #[.val (.int p1), .unset, .unset, .unset, .unset] [(.ref w_REVOKED), (.int (4 : Int32)), (.ref b101), (.ref b101)]))
  obtain ⟨cl111, Ar111, q111, S111, N111n, H111, G111⟩ := id V109
  have hin111 := inb_of (j := (4 : Int32)) S111 (by decide)
  obtain ⟨T111, h111, X111, e111, W111, st111⟩ := stR X110 hx hZ e110 Ar111 (j := (4 : Int32)) hin111 rfl (Sto.ofV Ar111 q111 O101v (Ins.self (E_REVOKED.ext O109.2))) (g := (mkF m 34 #[.val (.int p1), .unset, .unset, .unset, .unset] [(.ref w_REVOKED), (.int (4 : Int32)), (.ref b101), (.ref b101)])) rfl rfl (hb hby at_34)
  refine Go.via st111 ?_
  have V111 : Arv Z h111 b101 k101 (.object "com/example/timed_cap/timedcap/model/Reason") (17 : Int32) [(.ref w_MALFORMED), (.ref w_ALTERED), (.ref w_RESEALED), (.ref w_NOT_HOLDER), (.ref w_REVOKED), .null, .null, .null, .null, .null, .null, .null, .null, .null, .null, .null, .null] .null := Arv.set Ar111 q111 S111 N111n H111 G111 rfl W111 4 rfl (Nat.le_of_ble_eq_true rfl)
  have Zs111 : n0 ≤ h111.size := Nat.le_trans Zs109 (Keep.of_wr W111).1
  have hk111 : 0 ≤ h111.size := Nat.le_trans hk109 (Keep.of_wr W111).1
  have O111 : Old Z n0 h111 := O109.wr W111 g_b101
  have N111 := Fr.snoc X111 N109 g_b101
  show Go p e below _ (T111.setTop (mkF m 35 #[.val (.int p1), .unset, .unset, .unset, .unset] [(.ref b101)]))
  refine Go.via (fun _ => XS.dup X111.here hx rfl (hb hby at_35) rfl rfl) ?_
  show Go p e below _ (T111.setTop (mkF m 36 #[.val (.int p1), .unset, .unset, .unset, .unset] [(.ref b101), (.ref b101)]))
  refine Go.via (fun _ => XS.iconst X111.here hx rfl (hb hby at_36)) ?_
  show Go p e below _ (T111.setTop (mkF m 37 #[.val (.int p1), .unset, .unset, .unset, .unset] [(.int (5 : Int32)), (.ref b101), (.ref b101)]))
  obtain ⟨T112, X112, e112, st112⟩ := getS2 X111 hx hZ hown (host := "") (Or.inl (hw _ (List.mem_of_getElem? (i := 14) rfl))) Via.refl e111 (S_NO_SUCH_VERSION.ext O111.2) (g := (mkF m 37 #[.val (.int p1), .unset, .unset, .unset, .unset] [(.int (5 : Int32)), (.ref b101), (.ref b101)])) rfl (hb hby at_37)
  refine Go.via st112 ?_
  show Go p e below _ (T112.setTop (mkF m 40 #[.val (.int p1), .unset, .unset, .unset, .unset] [(.ref w_NO_SUCH_VERSION), (.int (5 : Int32)), (.ref b101), (.ref b101)]))
  obtain ⟨cl113, Ar113, q113, S113, N113n, H113, G113⟩ := id V111
  have hin113 := inb_of (j := (5 : Int32)) S113 (by decide)
  obtain ⟨T113, h113, X113, e113, W113, st113⟩ := stR X112 hx hZ e112 Ar113 (j := (5 : Int32)) hin113 rfl (Sto.ofV Ar113 q113 O101v (Ins.self (E_NO_SUCH_VERSION.ext O111.2))) (g := (mkF m 40 #[.val (.int p1), .unset, .unset, .unset, .unset] [(.ref w_NO_SUCH_VERSION), (.int (5 : Int32)), (.ref b101), (.ref b101)])) rfl rfl (hb hby at_40)
  refine Go.via st113 ?_
  have V113 : Arv Z h113 b101 k101 (.object "com/example/timed_cap/timedcap/model/Reason") (17 : Int32) [(.ref w_MALFORMED), (.ref w_ALTERED), (.ref w_RESEALED), (.ref w_NOT_HOLDER), (.ref w_REVOKED), (.ref w_NO_SUCH_VERSION), .null, .null, .null, .null, .null, .null, .null, .null, .null, .null, .null] .null := Arv.set Ar113 q113 S113 N113n H113 G113 rfl W113 5 rfl (Nat.le_of_ble_eq_true rfl)
  have Zs113 : n0 ≤ h113.size := Nat.le_trans Zs111 (Keep.of_wr W113).1
  have hk113 : 0 ≤ h113.size := Nat.le_trans hk111 (Keep.of_wr W113).1
  have O113 : Old Z n0 h113 := O111.wr W113 g_b101
  have N113 := Fr.snoc X113 N111 g_b101
  show Go p e below _ (T113.setTop (mkF m 41 #[.val (.int p1), .unset, .unset, .unset, .unset] [(.ref b101)]))
  refine Go.via (fun _ => XS.dup X113.here hx rfl (hb hby at_41) rfl rfl) ?_
  show Go p e below _ (T113.setTop (mkF m 42 #[.val (.int p1), .unset, .unset, .unset, .unset] [(.ref b101), (.ref b101)]))
  refine Go.via (fun _ => XS.bipush X113.here hx rfl (hb hby at_42)) ?_
  show Go p e below _ (T113.setTop (mkF m 44 #[.val (.int p1), .unset, .unset, .unset, .unset] [(.int (6 : Int32)), (.ref b101), (.ref b101)]))
  obtain ⟨T114, X114, e114, st114⟩ := getS2 X113 hx hZ hown (host := "") (Or.inl (hw _ (List.mem_of_getElem? (i := 16) rfl))) Via.refl e113 (S_NO_VERSION_YET.ext O113.2) (g := (mkF m 44 #[.val (.int p1), .unset, .unset, .unset, .unset] [(.int (6 : Int32)), (.ref b101), (.ref b101)])) rfl (hb hby at_44)
  refine Go.via st114 ?_
  show Go p e below _ (T114.setTop (mkF m 47 #[.val (.int p1), .unset, .unset, .unset, .unset] [(.ref w_NO_VERSION_YET), (.int (6 : Int32)), (.ref b101), (.ref b101)]))
  obtain ⟨cl115, Ar115, q115, S115, N115n, H115, G115⟩ := id V113
  have hin115 := inb_of (j := (6 : Int32)) S115 (by decide)
  obtain ⟨T115, h115, X115, e115, W115, st115⟩ := stR X114 hx hZ e114 Ar115 (j := (6 : Int32)) hin115 rfl (Sto.ofV Ar115 q115 O101v (Ins.self (E_NO_VERSION_YET.ext O113.2))) (g := (mkF m 47 #[.val (.int p1), .unset, .unset, .unset, .unset] [(.ref w_NO_VERSION_YET), (.int (6 : Int32)), (.ref b101), (.ref b101)])) rfl rfl (hb hby at_47)
  refine Go.via st115 ?_
  have V115 : Arv Z h115 b101 k101 (.object "com/example/timed_cap/timedcap/model/Reason") (17 : Int32) [(.ref w_MALFORMED), (.ref w_ALTERED), (.ref w_RESEALED), (.ref w_NOT_HOLDER), (.ref w_REVOKED), (.ref w_NO_SUCH_VERSION), (.ref w_NO_VERSION_YET), .null, .null, .null, .null, .null, .null, .null, .null, .null, .null] .null := Arv.set Ar115 q115 S115 N115n H115 G115 rfl W115 6 rfl (Nat.le_of_ble_eq_true rfl)
  have Zs115 : n0 ≤ h115.size := Nat.le_trans Zs113 (Keep.of_wr W115).1
  have hk115 : 0 ≤ h115.size := Nat.le_trans hk113 (Keep.of_wr W115).1
  have O115 : Old Z n0 h115 := O113.wr W115 g_b101
  have N115 := Fr.snoc X115 N113 g_b101
  show Go p e below _ (T115.setTop (mkF m 48 #[.val (.int p1), .unset, .unset, .unset, .unset] [(.ref b101)]))
  refine Go.via (fun _ => XS.dup X115.here hx rfl (hb hby at_48) rfl rfl) ?_
  show Go p e below _ (T115.setTop (mkF m 49 #[.val (.int p1), .unset, .unset, .unset, .unset] [(.ref b101), (.ref b101)]))
  refine Go.via (fun _ => XS.bipush X115.here hx rfl (hb hby at_49)) ?_
  show Go p e below _ (T115.setTop (mkF m 51 #[.val (.int p1), .unset, .unset, .unset, .unset] [(.int (7 : Int32)), (.ref b101), (.ref b101)]))
  obtain ⟨T116, X116, e116, st116⟩ := getS2 X115 hx hZ hown (host := "") (Or.inl (hw _ (List.mem_of_getElem? (i := 18) rfl))) Via.refl e115 (S_NOT_YET_EFFECTIVE.ext O115.2) (g := (mkF m 51 #[.val (.int p1), .unset, .unset, .unset, .unset] [(.int (7 : Int32)), (.ref b101), (.ref b101)])) rfl (hb hby at_51)
  refine Go.via st116 ?_
  show Go p e below _ (T116.setTop (mkF m 54 #[.val (.int p1), .unset, .unset, .unset, .unset] [(.ref w_NOT_YET_EFFECTIVE), (.int (7 : Int32)), (.ref b101), (.ref b101)]))
  obtain ⟨cl117, Ar117, q117, S117, N117n, H117, G117⟩ := id V115
  have hin117 := inb_of (j := (7 : Int32)) S117 (by decide)
  obtain ⟨T117, h117, X117, e117, W117, st117⟩ := stR X116 hx hZ e116 Ar117 (j := (7 : Int32)) hin117 rfl (Sto.ofV Ar117 q117 O101v (Ins.self (E_NOT_YET_EFFECTIVE.ext O115.2))) (g := (mkF m 54 #[.val (.int p1), .unset, .unset, .unset, .unset] [(.ref w_NOT_YET_EFFECTIVE), (.int (7 : Int32)), (.ref b101), (.ref b101)])) rfl rfl (hb hby at_54)
  refine Go.via st117 ?_
  have V117 : Arv Z h117 b101 k101 (.object "com/example/timed_cap/timedcap/model/Reason") (17 : Int32) [(.ref w_MALFORMED), (.ref w_ALTERED), (.ref w_RESEALED), (.ref w_NOT_HOLDER), (.ref w_REVOKED), (.ref w_NO_SUCH_VERSION), (.ref w_NO_VERSION_YET), (.ref w_NOT_YET_EFFECTIVE), .null, .null, .null, .null, .null, .null, .null, .null, .null] .null := Arv.set Ar117 q117 S117 N117n H117 G117 rfl W117 7 rfl (Nat.le_of_ble_eq_true rfl)
  have Zs117 : n0 ≤ h117.size := Nat.le_trans Zs115 (Keep.of_wr W117).1
  have hk117 : 0 ≤ h117.size := Nat.le_trans hk115 (Keep.of_wr W117).1
  have O117 : Old Z n0 h117 := O115.wr W117 g_b101
  have N117 := Fr.snoc X117 N115 g_b101
  show Go p e below _ (T117.setTop (mkF m 55 #[.val (.int p1), .unset, .unset, .unset, .unset] [(.ref b101)]))
  refine Go.via (fun _ => XS.dup X117.here hx rfl (hb hby at_55) rfl rfl) ?_
  show Go p e below _ (T117.setTop (mkF m 56 #[.val (.int p1), .unset, .unset, .unset, .unset] [(.ref b101), (.ref b101)]))
  refine Go.via (fun _ => XS.bipush X117.here hx rfl (hb hby at_56)) ?_
  show Go p e below _ (T117.setTop (mkF m 58 #[.val (.int p1), .unset, .unset, .unset, .unset] [(.int (8 : Int32)), (.ref b101), (.ref b101)]))
  obtain ⟨T118, X118, e118, st118⟩ := getS2 X117 hx hZ hown (host := "") (Or.inl (hw _ (List.mem_of_getElem? (i := 20) rfl))) Via.refl e117 (S_EXPIRED.ext O117.2) (g := (mkF m 58 #[.val (.int p1), .unset, .unset, .unset, .unset] [(.int (8 : Int32)), (.ref b101), (.ref b101)])) rfl (hb hby at_58)
  refine Go.via st118 ?_
  show Go p e below _ (T118.setTop (mkF m 61 #[.val (.int p1), .unset, .unset, .unset, .unset] [(.ref w_EXPIRED), (.int (8 : Int32)), (.ref b101), (.ref b101)]))
  obtain ⟨cl119, Ar119, q119, S119, N119n, H119, G119⟩ := id V117
  have hin119 := inb_of (j := (8 : Int32)) S119 (by decide)
  obtain ⟨T119, h119, X119, e119, W119, st119⟩ := stR X118 hx hZ e118 Ar119 (j := (8 : Int32)) hin119 rfl (Sto.ofV Ar119 q119 O101v (Ins.self (E_EXPIRED.ext O117.2))) (g := (mkF m 61 #[.val (.int p1), .unset, .unset, .unset, .unset] [(.ref w_EXPIRED), (.int (8 : Int32)), (.ref b101), (.ref b101)])) rfl rfl (hb hby at_61)
  refine Go.via st119 ?_
  have V119 : Arv Z h119 b101 k101 (.object "com/example/timed_cap/timedcap/model/Reason") (17 : Int32) [(.ref w_MALFORMED), (.ref w_ALTERED), (.ref w_RESEALED), (.ref w_NOT_HOLDER), (.ref w_REVOKED), (.ref w_NO_SUCH_VERSION), (.ref w_NO_VERSION_YET), (.ref w_NOT_YET_EFFECTIVE), (.ref w_EXPIRED), .null, .null, .null, .null, .null, .null, .null, .null] .null := Arv.set Ar119 q119 S119 N119n H119 G119 rfl W119 8 rfl (Nat.le_of_ble_eq_true rfl)
  have Zs119 : n0 ≤ h119.size := Nat.le_trans Zs117 (Keep.of_wr W119).1
  have hk119 : 0 ≤ h119.size := Nat.le_trans hk117 (Keep.of_wr W119).1
  have O119 : Old Z n0 h119 := O117.wr W119 g_b101
  have N119 := Fr.snoc X119 N117 g_b101
  show Go p e below _ (T119.setTop (mkF m 62 #[.val (.int p1), .unset, .unset, .unset, .unset] [(.ref b101)]))
  refine Go.via (fun _ => XS.dup X119.here hx rfl (hb hby at_62) rfl rfl) ?_
  show Go p e below _ (T119.setTop (mkF m 63 #[.val (.int p1), .unset, .unset, .unset, .unset] [(.ref b101), (.ref b101)]))
  refine Go.via (fun _ => XS.bipush X119.here hx rfl (hb hby at_63)) ?_
  show Go p e below _ (T119.setTop (mkF m 65 #[.val (.int p1), .unset, .unset, .unset, .unset] [(.int (9 : Int32)), (.ref b101), (.ref b101)]))
  obtain ⟨T120, X120, e120, st120⟩ := getS2 X119 hx hZ hown (host := "") (Or.inl (hw _ (List.mem_of_getElem? (i := 22) rfl))) Via.refl e119 (S_LEASE_ENDED.ext O119.2) (g := (mkF m 65 #[.val (.int p1), .unset, .unset, .unset, .unset] [(.int (9 : Int32)), (.ref b101), (.ref b101)])) rfl (hb hby at_65)
  refine Go.via st120 ?_
  show Go p e below _ (T120.setTop (mkF m 68 #[.val (.int p1), .unset, .unset, .unset, .unset] [(.ref w_LEASE_ENDED), (.int (9 : Int32)), (.ref b101), (.ref b101)]))
  obtain ⟨cl121, Ar121, q121, S121, N121n, H121, G121⟩ := id V119
  have hin121 := inb_of (j := (9 : Int32)) S121 (by decide)
  obtain ⟨T121, h121, X121, e121, W121, st121⟩ := stR X120 hx hZ e120 Ar121 (j := (9 : Int32)) hin121 rfl (Sto.ofV Ar121 q121 O101v (Ins.self (E_LEASE_ENDED.ext O119.2))) (g := (mkF m 68 #[.val (.int p1), .unset, .unset, .unset, .unset] [(.ref w_LEASE_ENDED), (.int (9 : Int32)), (.ref b101), (.ref b101)])) rfl rfl (hb hby at_68)
  refine Go.via st121 ?_
  have V121 : Arv Z h121 b101 k101 (.object "com/example/timed_cap/timedcap/model/Reason") (17 : Int32) [(.ref w_MALFORMED), (.ref w_ALTERED), (.ref w_RESEALED), (.ref w_NOT_HOLDER), (.ref w_REVOKED), (.ref w_NO_SUCH_VERSION), (.ref w_NO_VERSION_YET), (.ref w_NOT_YET_EFFECTIVE), (.ref w_EXPIRED), (.ref w_LEASE_ENDED), .null, .null, .null, .null, .null, .null, .null] .null := Arv.set Ar121 q121 S121 N121n H121 G121 rfl W121 9 rfl (Nat.le_of_ble_eq_true rfl)
  have Zs121 : n0 ≤ h121.size := Nat.le_trans Zs119 (Keep.of_wr W121).1
  have hk121 : 0 ≤ h121.size := Nat.le_trans hk119 (Keep.of_wr W121).1
  have O121 : Old Z n0 h121 := O119.wr W121 g_b101
  have N121 := Fr.snoc X121 N119 g_b101
  show Go p e below _ (T121.setTop (mkF m 69 #[.val (.int p1), .unset, .unset, .unset, .unset] [(.ref b101)]))
  refine Go.via (fun _ => XS.dup X121.here hx rfl (hb hby at_69) rfl rfl) ?_
  show Go p e below _ (T121.setTop (mkF m 70 #[.val (.int p1), .unset, .unset, .unset, .unset] [(.ref b101), (.ref b101)]))
  refine Go.via (fun _ => XS.bipush X121.here hx rfl (hb hby at_70)) ?_
  show Go p e below _ (T121.setTop (mkF m 72 #[.val (.int p1), .unset, .unset, .unset, .unset] [(.int (10 : Int32)), (.ref b101), (.ref b101)]))
  obtain ⟨T122, X122, e122, st122⟩ := getS2 X121 hx hZ hown (host := "") (Or.inl (hw _ (List.mem_of_getElem? (i := 24) rfl))) Via.refl e121 (S_OUTSIDE_SCHEDULE.ext O121.2) (g := (mkF m 72 #[.val (.int p1), .unset, .unset, .unset, .unset] [(.int (10 : Int32)), (.ref b101), (.ref b101)])) rfl (hb hby at_72)
  refine Go.via st122 ?_
  show Go p e below _ (T122.setTop (mkF m 75 #[.val (.int p1), .unset, .unset, .unset, .unset] [(.ref w_OUTSIDE_SCHEDULE), (.int (10 : Int32)), (.ref b101), (.ref b101)]))
  obtain ⟨cl123, Ar123, q123, S123, N123n, H123, G123⟩ := id V121
  have hin123 := inb_of (j := (10 : Int32)) S123 (by decide)
  obtain ⟨T123, h123, X123, e123, W123, st123⟩ := stR X122 hx hZ e122 Ar123 (j := (10 : Int32)) hin123 rfl (Sto.ofV Ar123 q123 O101v (Ins.self (E_OUTSIDE_SCHEDULE.ext O121.2))) (g := (mkF m 75 #[.val (.int p1), .unset, .unset, .unset, .unset] [(.ref w_OUTSIDE_SCHEDULE), (.int (10 : Int32)), (.ref b101), (.ref b101)])) rfl rfl (hb hby at_75)
  refine Go.via st123 ?_
  have V123 : Arv Z h123 b101 k101 (.object "com/example/timed_cap/timedcap/model/Reason") (17 : Int32) [(.ref w_MALFORMED), (.ref w_ALTERED), (.ref w_RESEALED), (.ref w_NOT_HOLDER), (.ref w_REVOKED), (.ref w_NO_SUCH_VERSION), (.ref w_NO_VERSION_YET), (.ref w_NOT_YET_EFFECTIVE), (.ref w_EXPIRED), (.ref w_LEASE_ENDED), (.ref w_OUTSIDE_SCHEDULE), .null, .null, .null, .null, .null, .null] .null := Arv.set Ar123 q123 S123 N123n H123 G123 rfl W123 10 rfl (Nat.le_of_ble_eq_true rfl)
  have Zs123 : n0 ≤ h123.size := Nat.le_trans Zs121 (Keep.of_wr W123).1
  have hk123 : 0 ≤ h123.size := Nat.le_trans hk121 (Keep.of_wr W123).1
  have O123 : Old Z n0 h123 := O121.wr W123 g_b101
  have N123 := Fr.snoc X123 N121 g_b101
  show Go p e below _ (T123.setTop (mkF m 76 #[.val (.int p1), .unset, .unset, .unset, .unset] [(.ref b101)]))
  refine Go.via (fun _ => XS.dup X123.here hx rfl (hb hby at_76) rfl rfl) ?_
  show Go p e below _ (T123.setTop (mkF m 77 #[.val (.int p1), .unset, .unset, .unset, .unset] [(.ref b101), (.ref b101)]))
  refine Go.via (fun _ => XS.bipush X123.here hx rfl (hb hby at_77)) ?_
  show Go p e below _ (T123.setTop (mkF m 79 #[.val (.int p1), .unset, .unset, .unset, .unset] [(.int (11 : Int32)), (.ref b101), (.ref b101)]))
  obtain ⟨T124, X124, e124, st124⟩ := getS2 X123 hx hZ hown (host := "") (Or.inl (hw _ (List.mem_of_getElem? (i := 26) rfl))) Via.refl e123 (S_RIGHT_NOT_HELD.ext O123.2) (g := (mkF m 79 #[.val (.int p1), .unset, .unset, .unset, .unset] [(.int (11 : Int32)), (.ref b101), (.ref b101)])) rfl (hb hby at_79)
  refine Go.via st124 ?_
  show Go p e below _ (T124.setTop (mkF m 82 #[.val (.int p1), .unset, .unset, .unset, .unset] [(.ref w_RIGHT_NOT_HELD), (.int (11 : Int32)), (.ref b101), (.ref b101)]))
  obtain ⟨cl125, Ar125, q125, S125, N125n, H125, G125⟩ := id V123
  have hin125 := inb_of (j := (11 : Int32)) S125 (by decide)
  obtain ⟨T125, h125, X125, e125, W125, st125⟩ := stR X124 hx hZ e124 Ar125 (j := (11 : Int32)) hin125 rfl (Sto.ofV Ar125 q125 O101v (Ins.self (E_RIGHT_NOT_HELD.ext O123.2))) (g := (mkF m 82 #[.val (.int p1), .unset, .unset, .unset, .unset] [(.ref w_RIGHT_NOT_HELD), (.int (11 : Int32)), (.ref b101), (.ref b101)])) rfl rfl (hb hby at_82)
  refine Go.via st125 ?_
  have V125 : Arv Z h125 b101 k101 (.object "com/example/timed_cap/timedcap/model/Reason") (17 : Int32) [(.ref w_MALFORMED), (.ref w_ALTERED), (.ref w_RESEALED), (.ref w_NOT_HOLDER), (.ref w_REVOKED), (.ref w_NO_SUCH_VERSION), (.ref w_NO_VERSION_YET), (.ref w_NOT_YET_EFFECTIVE), (.ref w_EXPIRED), (.ref w_LEASE_ENDED), (.ref w_OUTSIDE_SCHEDULE), (.ref w_RIGHT_NOT_HELD), .null, .null, .null, .null, .null] .null := Arv.set Ar125 q125 S125 N125n H125 G125 rfl W125 11 rfl (Nat.le_of_ble_eq_true rfl)
  have Zs125 : n0 ≤ h125.size := Nat.le_trans Zs123 (Keep.of_wr W125).1
  have hk125 : 0 ≤ h125.size := Nat.le_trans hk123 (Keep.of_wr W125).1
  have O125 : Old Z n0 h125 := O123.wr W125 g_b101
  have N125 := Fr.snoc X125 N123 g_b101
  show Go p e below _ (T125.setTop (mkF m 83 #[.val (.int p1), .unset, .unset, .unset, .unset] [(.ref b101)]))
  refine Go.via (fun _ => XS.dup X125.here hx rfl (hb hby at_83) rfl rfl) ?_
  show Go p e below _ (T125.setTop (mkF m 84 #[.val (.int p1), .unset, .unset, .unset, .unset] [(.ref b101), (.ref b101)]))
  refine Go.via (fun _ => XS.bipush X125.here hx rfl (hb hby at_84)) ?_
  show Go p e below _ (T125.setTop (mkF m 86 #[.val (.int p1), .unset, .unset, .unset, .unset] [(.int (12 : Int32)), (.ref b101), (.ref b101)]))
  obtain ⟨T126, X126, e126, st126⟩ := getS2 X125 hx hZ hown (host := "") (Or.inl (hw _ (List.mem_of_getElem? (i := 28) rfl))) Via.refl e125 (S_VERSION_EXISTS.ext O125.2) (g := (mkF m 86 #[.val (.int p1), .unset, .unset, .unset, .unset] [(.int (12 : Int32)), (.ref b101), (.ref b101)])) rfl (hb hby at_86)
  refine Go.via st126 ?_
  show Go p e below _ (T126.setTop (mkF m 89 #[.val (.int p1), .unset, .unset, .unset, .unset] [(.ref w_VERSION_EXISTS), (.int (12 : Int32)), (.ref b101), (.ref b101)]))
  obtain ⟨cl127, Ar127, q127, S127, N127n, H127, G127⟩ := id V125
  have hin127 := inb_of (j := (12 : Int32)) S127 (by decide)
  obtain ⟨T127, h127, X127, e127, W127, st127⟩ := stR X126 hx hZ e126 Ar127 (j := (12 : Int32)) hin127 rfl (Sto.ofV Ar127 q127 O101v (Ins.self (E_VERSION_EXISTS.ext O125.2))) (g := (mkF m 89 #[.val (.int p1), .unset, .unset, .unset, .unset] [(.ref w_VERSION_EXISTS), (.int (12 : Int32)), (.ref b101), (.ref b101)])) rfl rfl (hb hby at_89)
  refine Go.via st127 ?_
  have V127 : Arv Z h127 b101 k101 (.object "com/example/timed_cap/timedcap/model/Reason") (17 : Int32) [(.ref w_MALFORMED), (.ref w_ALTERED), (.ref w_RESEALED), (.ref w_NOT_HOLDER), (.ref w_REVOKED), (.ref w_NO_SUCH_VERSION), (.ref w_NO_VERSION_YET), (.ref w_NOT_YET_EFFECTIVE), (.ref w_EXPIRED), (.ref w_LEASE_ENDED), (.ref w_OUTSIDE_SCHEDULE), (.ref w_RIGHT_NOT_HELD), (.ref w_VERSION_EXISTS), .null, .null, .null, .null] .null := Arv.set Ar127 q127 S127 N127n H127 G127 rfl W127 12 rfl (Nat.le_of_ble_eq_true rfl)
  have Zs127 : n0 ≤ h127.size := Nat.le_trans Zs125 (Keep.of_wr W127).1
  have hk127 : 0 ≤ h127.size := Nat.le_trans hk125 (Keep.of_wr W127).1
  have O127 : Old Z n0 h127 := O125.wr W127 g_b101
  have N127 := Fr.snoc X127 N125 g_b101
  show Go p e below _ (T127.setTop (mkF m 90 #[.val (.int p1), .unset, .unset, .unset, .unset] [(.ref b101)]))
  refine Go.via (fun _ => XS.dup X127.here hx rfl (hb hby at_90) rfl rfl) ?_
  show Go p e below _ (T127.setTop (mkF m 91 #[.val (.int p1), .unset, .unset, .unset, .unset] [(.ref b101), (.ref b101)]))
  refine Go.via (fun _ => XS.bipush X127.here hx rfl (hb hby at_91)) ?_
  show Go p e below _ (T127.setTop (mkF m 93 #[.val (.int p1), .unset, .unset, .unset, .unset] [(.int (13 : Int32)), (.ref b101), (.ref b101)]))
  obtain ⟨T128, X128, e128, st128⟩ := getS2 X127 hx hZ hown (host := "") (Or.inl (hw _ (List.mem_of_getElem? (i := 30) rfl))) Via.refl e127 (S_NOT_A_HISTORY_CAPABILITY.ext O127.2) (g := (mkF m 93 #[.val (.int p1), .unset, .unset, .unset, .unset] [(.int (13 : Int32)), (.ref b101), (.ref b101)])) rfl (hb hby at_93)
  refine Go.via st128 ?_
  show Go p e below _ (T128.setTop (mkF m 96 #[.val (.int p1), .unset, .unset, .unset, .unset] [(.ref w_NOT_A_HISTORY_CAPABILITY), (.int (13 : Int32)), (.ref b101), (.ref b101)]))
  obtain ⟨cl129, Ar129, q129, S129, N129n, H129, G129⟩ := id V127
  have hin129 := inb_of (j := (13 : Int32)) S129 (by decide)
  obtain ⟨T129, h129, X129, e129, W129, st129⟩ := stR X128 hx hZ e128 Ar129 (j := (13 : Int32)) hin129 rfl (Sto.ofV Ar129 q129 O101v (Ins.self (E_NOT_A_HISTORY_CAPABILITY.ext O127.2))) (g := (mkF m 96 #[.val (.int p1), .unset, .unset, .unset, .unset] [(.ref w_NOT_A_HISTORY_CAPABILITY), (.int (13 : Int32)), (.ref b101), (.ref b101)])) rfl rfl (hb hby at_96)
  refine Go.via st129 ?_
  have V129 : Arv Z h129 b101 k101 (.object "com/example/timed_cap/timedcap/model/Reason") (17 : Int32) [(.ref w_MALFORMED), (.ref w_ALTERED), (.ref w_RESEALED), (.ref w_NOT_HOLDER), (.ref w_REVOKED), (.ref w_NO_SUCH_VERSION), (.ref w_NO_VERSION_YET), (.ref w_NOT_YET_EFFECTIVE), (.ref w_EXPIRED), (.ref w_LEASE_ENDED), (.ref w_OUTSIDE_SCHEDULE), (.ref w_RIGHT_NOT_HELD), (.ref w_VERSION_EXISTS), (.ref w_NOT_A_HISTORY_CAPABILITY), .null, .null, .null] .null := Arv.set Ar129 q129 S129 N129n H129 G129 rfl W129 13 rfl (Nat.le_of_ble_eq_true rfl)
  have Zs129 : n0 ≤ h129.size := Nat.le_trans Zs127 (Keep.of_wr W129).1
  have hk129 : 0 ≤ h129.size := Nat.le_trans hk127 (Keep.of_wr W129).1
  have O129 : Old Z n0 h129 := O127.wr W129 g_b101
  have N129 := Fr.snoc X129 N127 g_b101
  show Go p e below _ (T129.setTop (mkF m 97 #[.val (.int p1), .unset, .unset, .unset, .unset] [(.ref b101)]))
  refine Go.via (fun _ => XS.dup X129.here hx rfl (hb hby at_97) rfl rfl) ?_
  show Go p e below _ (T129.setTop (mkF m 98 #[.val (.int p1), .unset, .unset, .unset, .unset] [(.ref b101), (.ref b101)]))
  refine Go.via (fun _ => XS.bipush X129.here hx rfl (hb hby at_98)) ?_
  show Go p e below _ (T129.setTop (mkF m 100 #[.val (.int p1), .unset, .unset, .unset, .unset] [(.int (14 : Int32)), (.ref b101), (.ref b101)]))
  obtain ⟨T130, X130, e130, st130⟩ := getS2 X129 hx hZ hown (host := "") (Or.inl (hw _ (List.mem_of_getElem? (i := 32) rfl))) Via.refl e129 (S_WIDENS_PARENT.ext O129.2) (g := (mkF m 100 #[.val (.int p1), .unset, .unset, .unset, .unset] [(.int (14 : Int32)), (.ref b101), (.ref b101)])) rfl (hb hby at_100)
  refine Go.via st130 ?_
  show Go p e below _ (T130.setTop (mkF m 103 #[.val (.int p1), .unset, .unset, .unset, .unset] [(.ref w_WIDENS_PARENT), (.int (14 : Int32)), (.ref b101), (.ref b101)]))
  obtain ⟨cl131, Ar131, q131, S131, N131n, H131, G131⟩ := id V129
  have hin131 := inb_of (j := (14 : Int32)) S131 (by decide)
  obtain ⟨T131, h131, X131, e131, W131, st131⟩ := stR X130 hx hZ e130 Ar131 (j := (14 : Int32)) hin131 rfl (Sto.ofV Ar131 q131 O101v (Ins.self (E_WIDENS_PARENT.ext O129.2))) (g := (mkF m 103 #[.val (.int p1), .unset, .unset, .unset, .unset] [(.ref w_WIDENS_PARENT), (.int (14 : Int32)), (.ref b101), (.ref b101)])) rfl rfl (hb hby at_103)
  refine Go.via st131 ?_
  have V131 : Arv Z h131 b101 k101 (.object "com/example/timed_cap/timedcap/model/Reason") (17 : Int32) [(.ref w_MALFORMED), (.ref w_ALTERED), (.ref w_RESEALED), (.ref w_NOT_HOLDER), (.ref w_REVOKED), (.ref w_NO_SUCH_VERSION), (.ref w_NO_VERSION_YET), (.ref w_NOT_YET_EFFECTIVE), (.ref w_EXPIRED), (.ref w_LEASE_ENDED), (.ref w_OUTSIDE_SCHEDULE), (.ref w_RIGHT_NOT_HELD), (.ref w_VERSION_EXISTS), (.ref w_NOT_A_HISTORY_CAPABILITY), (.ref w_WIDENS_PARENT), .null, .null] .null := Arv.set Ar131 q131 S131 N131n H131 G131 rfl W131 14 rfl (Nat.le_of_ble_eq_true rfl)
  have Zs131 : n0 ≤ h131.size := Nat.le_trans Zs129 (Keep.of_wr W131).1
  have hk131 : 0 ≤ h131.size := Nat.le_trans hk129 (Keep.of_wr W131).1
  have O131 : Old Z n0 h131 := O129.wr W131 g_b101
  have N131 := Fr.snoc X131 N129 g_b101
  show Go p e below _ (T131.setTop (mkF m 104 #[.val (.int p1), .unset, .unset, .unset, .unset] [(.ref b101)]))
  refine Go.via (fun _ => XS.dup X131.here hx rfl (hb hby at_104) rfl rfl) ?_
  show Go p e below _ (T131.setTop (mkF m 105 #[.val (.int p1), .unset, .unset, .unset, .unset] [(.ref b101), (.ref b101)]))
  refine Go.via (fun _ => XS.bipush X131.here hx rfl (hb hby at_105)) ?_
  show Go p e below _ (T131.setTop (mkF m 107 #[.val (.int p1), .unset, .unset, .unset, .unset] [(.int (15 : Int32)), (.ref b101), (.ref b101)]))
  obtain ⟨T132, X132, e132, st132⟩ := getS2 X131 hx hZ hown (host := "") (Or.inl (hw _ (List.mem_of_getElem? (i := 34) rfl))) Via.refl e131 (S_NOT_AN_ANCESTOR.ext O131.2) (g := (mkF m 107 #[.val (.int p1), .unset, .unset, .unset, .unset] [(.int (15 : Int32)), (.ref b101), (.ref b101)])) rfl (hb hby at_107)
  refine Go.via st132 ?_
  show Go p e below _ (T132.setTop (mkF m 110 #[.val (.int p1), .unset, .unset, .unset, .unset] [(.ref w_NOT_AN_ANCESTOR), (.int (15 : Int32)), (.ref b101), (.ref b101)]))
  obtain ⟨cl133, Ar133, q133, S133, N133n, H133, G133⟩ := id V131
  have hin133 := inb_of (j := (15 : Int32)) S133 (by decide)
  obtain ⟨T133, h133, X133, e133, W133, st133⟩ := stR X132 hx hZ e132 Ar133 (j := (15 : Int32)) hin133 rfl (Sto.ofV Ar133 q133 O101v (Ins.self (E_NOT_AN_ANCESTOR.ext O131.2))) (g := (mkF m 110 #[.val (.int p1), .unset, .unset, .unset, .unset] [(.ref w_NOT_AN_ANCESTOR), (.int (15 : Int32)), (.ref b101), (.ref b101)])) rfl rfl (hb hby at_110)
  refine Go.via st133 ?_
  have V133 : Arv Z h133 b101 k101 (.object "com/example/timed_cap/timedcap/model/Reason") (17 : Int32) [(.ref w_MALFORMED), (.ref w_ALTERED), (.ref w_RESEALED), (.ref w_NOT_HOLDER), (.ref w_REVOKED), (.ref w_NO_SUCH_VERSION), (.ref w_NO_VERSION_YET), (.ref w_NOT_YET_EFFECTIVE), (.ref w_EXPIRED), (.ref w_LEASE_ENDED), (.ref w_OUTSIDE_SCHEDULE), (.ref w_RIGHT_NOT_HELD), (.ref w_VERSION_EXISTS), (.ref w_NOT_A_HISTORY_CAPABILITY), (.ref w_WIDENS_PARENT), (.ref w_NOT_AN_ANCESTOR), .null] .null := Arv.set Ar133 q133 S133 N133n H133 G133 rfl W133 15 rfl (Nat.le_of_ble_eq_true rfl)
  have Zs133 : n0 ≤ h133.size := Nat.le_trans Zs131 (Keep.of_wr W133).1
  have hk133 : 0 ≤ h133.size := Nat.le_trans hk131 (Keep.of_wr W133).1
  have O133 : Old Z n0 h133 := O131.wr W133 g_b101
  have N133 := Fr.snoc X133 N131 g_b101
  show Go p e below _ (T133.setTop (mkF m 111 #[.val (.int p1), .unset, .unset, .unset, .unset] [(.ref b101)]))
  refine Go.via (fun _ => XS.dup X133.here hx rfl (hb hby at_111) rfl rfl) ?_
  show Go p e below _ (T133.setTop (mkF m 112 #[.val (.int p1), .unset, .unset, .unset, .unset] [(.ref b101), (.ref b101)]))
  refine Go.via (fun _ => XS.bipush X133.here hx rfl (hb hby at_112)) ?_
  show Go p e below _ (T133.setTop (mkF m 114 #[.val (.int p1), .unset, .unset, .unset, .unset] [(.int (16 : Int32)), (.ref b101), (.ref b101)]))
  obtain ⟨T134, X134, e134, st134⟩ := getS2 X133 hx hZ hown (host := "") (Or.inl (hw _ (List.mem_of_getElem? (i := 36) rfl))) Via.refl e133 (S_NO_SUCH_LEASE.ext O133.2) (g := (mkF m 114 #[.val (.int p1), .unset, .unset, .unset, .unset] [(.int (16 : Int32)), (.ref b101), (.ref b101)])) rfl (hb hby at_114)
  refine Go.via st134 ?_
  show Go p e below _ (T134.setTop (mkF m 117 #[.val (.int p1), .unset, .unset, .unset, .unset] [(.ref w_NO_SUCH_LEASE), (.int (16 : Int32)), (.ref b101), (.ref b101)]))
  obtain ⟨cl135, Ar135, q135, S135, N135n, H135, G135⟩ := id V133
  have hin135 := inb_of (j := (16 : Int32)) S135 (by decide)
  obtain ⟨T135, h135, X135, e135, W135, st135⟩ := stR X134 hx hZ e134 Ar135 (j := (16 : Int32)) hin135 rfl (Sto.ofV Ar135 q135 O101v (Ins.self (E_NO_SUCH_LEASE.ext O133.2))) (g := (mkF m 117 #[.val (.int p1), .unset, .unset, .unset, .unset] [(.ref w_NO_SUCH_LEASE), (.int (16 : Int32)), (.ref b101), (.ref b101)])) rfl rfl (hb hby at_117)
  refine Go.via st135 ?_
  have V135 : Arv Z h135 b101 k101 (.object "com/example/timed_cap/timedcap/model/Reason") (17 : Int32) [(.ref w_MALFORMED), (.ref w_ALTERED), (.ref w_RESEALED), (.ref w_NOT_HOLDER), (.ref w_REVOKED), (.ref w_NO_SUCH_VERSION), (.ref w_NO_VERSION_YET), (.ref w_NOT_YET_EFFECTIVE), (.ref w_EXPIRED), (.ref w_LEASE_ENDED), (.ref w_OUTSIDE_SCHEDULE), (.ref w_RIGHT_NOT_HELD), (.ref w_VERSION_EXISTS), (.ref w_NOT_A_HISTORY_CAPABILITY), (.ref w_WIDENS_PARENT), (.ref w_NOT_AN_ANCESTOR), (.ref w_NO_SUCH_LEASE)] .null := Arv.set Ar135 q135 S135 N135n H135 G135 rfl W135 16 rfl (Nat.le_of_ble_eq_true rfl)
  have Zs135 : n0 ≤ h135.size := Nat.le_trans Zs133 (Keep.of_wr W135).1
  have hk135 : 0 ≤ h135.size := Nat.le_trans hk133 (Keep.of_wr W135).1
  have O135 : Old Z n0 h135 := O133.wr W135 g_b101
  have N135 := Fr.snoc X135 N133 g_b101
  show Go p e below _ (T135.setTop (mkF m 118 #[.val (.int p1), .unset, .unset, .unset, .unset] [(.ref b101)]))
  refine Go.via (fun _ => XS.astoreN X135.here hx rfl (hb hby at_118) rfl rfl (l' := #[.val (.int p1), .val (.ref b101), .unset, .unset, .unset]) rfl) ?_
  show Go p e below _ (T135.setTop (mkF m 119 #[.val (.int p1), .val (.ref b101), .unset, .unset, .unset] []))
  refine Go.via (fun _ => XS.iloadN X135.here hx rfl (hb hby at_119) rfl) ?_
  show Go p e below _ (T135.setTop (mkF m 120 #[.val (.int p1), .val (.ref b101), .unset, .unset, .unset] [(.int p1)]))
  refine Go.via (X135.ldcInt hx hown (mvT hZ (hw _ (List.mem_of_getElem? (i := 38) rfl))) (g := (mkF m 120 #[.val (.int p1), .val (.ref b101), .unset, .unset, .unset] [(.int p1)])) rfl (hb hby at_120)) ?_
  show Go p e below _ (T135.setTop (mkF m 122 #[.val (.int p1), .val (.ref b101), .unset, .unset, .unset] [(.int (2147483647 : Int32)), (.int p1)]))
  refine Go.via (fun _ => XS.iand X135.here hx rfl (hb hby at_122) rfl) ?_
  show Go p e below _ (T135.setTop (mkF m 123 #[.val (.int p1), .val (.ref b101), .unset, .unset, .unset] [(.int (p1 &&& (2147483647 : Int32)))]))
  refine Go.via (fun _ => XS.bipush X135.here hx rfl (hb hby at_123)) ?_
  show Go p e below _ (T135.setTop (mkF m 125 #[.val (.int p1), .val (.ref b101), .unset, .unset, .unset] [(.int (17 : Int32)), (.int (p1 &&& (2147483647 : Int32)))]))
  refine Go.via (fun _ => iremM X135 hx rfl (hb hby at_125) rfl (by decide)) ?_
  show Go p e below _ (T135.setTop (mkF m 126 #[.val (.int p1), .val (.ref b101), .unset, .unset, .unset] [(.int ((p1 &&& (2147483647 : Int32)) % (17 : Int32)))]))
  have hi := own_17 p1
  generalize hii : ((p1 &&& (2147483647 : Int32)) % (17 : Int32)) = ix at hi ⊢
  rcases hi with rfl | rfl | rfl | rfl | rfl | rfl | rfl | rfl | rfl | rfl | rfl | rfl | rfl | rfl | rfl | rfl | rfl
  ·
    show Go p e below _ (T135.setTop (mkF m 126 #[.val (.int p1), .val (.ref b101), .unset, .unset, .unset] [(.int (0 : Int32))]))
    refine Go.via (fun _ => XS.istoreN X135.here hx rfl (hb hby at_126) rfl (l' := #[.val (.int p1), .val (.ref b101), .val (.int (0 : Int32)), .unset, .unset]) rfl) ?_
    show Go p e below _ (T135.setTop (mkF m 127 #[.val (.int p1), .val (.ref b101), .val (.int (0 : Int32)), .unset, .unset] []))
    refine Go.via (fun _ => XS.aloadN X135.here hx rfl (hb hby at_127) rfl rfl) ?_
    show Go p e below _ (T135.setTop (mkF m 128 #[.val (.int p1), .val (.ref b101), .val (.int (0 : Int32)), .unset, .unset] [(.ref b101)]))
    refine Go.via (fun _ => XS.iloadN X135.here hx rfl (hb hby at_128) rfl) ?_
    show Go p e below _ (T135.setTop (mkF m 129 #[.val (.int p1), .val (.ref b101), .val (.int (0 : Int32)), .unset, .unset] [(.int (0 : Int32)), (.ref b101)]))
    obtain ⟨cl136, Ar136, q136, S136, N136n, H136, G136⟩ := id V135
    have hin136 := inb_of (j := (0 : Int32)) S136 (by decide)
    have hat136 : cl136.slots[((0 : Int32) : Int32).toNatClampNeg]? = some (.ref w_MALFORMED) := H136.at hin136 rfl
    refine Go.via (X135.aaload hx (j := (0 : Int32)) (v := (.ref w_MALFORMED)) (by rw [e135]; exact Ar136.1) (State.isArrayOf_alike hZ.alike Ar136.2.1) rfl Ar136.2.2 hin136 hat136 (g := (mkF m 129 #[.val (.int p1), .val (.ref b101), .val (.int (0 : Int32)), .unset, .unset] [(.int (0 : Int32)), (.ref b101)])) rfl rfl (hb hby at_129)) ?_
    show Go p e below _ (T135.setTop (mkF m 130 #[.val (.int p1), .val (.ref b101), .val (.int (0 : Int32)), .unset, .unset] [(.ref w_MALFORMED)]))
    refine Go.via (fun _ => XS.astoreN X135.here hx rfl (hb hby at_130) rfl rfl (l' := #[.val (.int p1), .val (.ref b101), .val (.int (0 : Int32)), .val (.ref w_MALFORMED), .unset]) rfl) ?_
    show Go p e below _ (T135.setTop (mkF m 131 #[.val (.int p1), .val (.ref b101), .val (.int (0 : Int32)), .val (.ref w_MALFORMED), .unset] []))
    refine Go.via (fun _ => XS.aloadN X135.here hx rfl (hb hby at_131) rfl rfl) ?_
    show Go p e below _ (T135.setTop (mkF m 132 #[.val (.int p1), .val (.ref b101), .val (.int (0 : Int32)), .val (.ref w_MALFORMED), .unset] [(.ref w_MALFORMED)]))
    obtain ⟨_, _, ⟨T137, L137, k137, n137⟩, -, X137, S137w, gr137, ⟨Lc137, hQ137, l137, y137, z137⟩, st137⟩ := callSS X135 hx (y := (⟨"com/example/timed_cap/timedcap/model/Decision", "denied", "(Lcom/example/timed_cap/timedcap/model/Reason;)Lcom/example/timed_cap/timedcap/model/Decision;"⟩ : MethodName)) hown (mvT hZ (hw _ (List.mem_of_getElem? (i := 39) rfl))) (mvT hZ (hw _ (List.mem_of_getElem? (i := 40) rfl))) (mvT hZ (hw _ (List.mem_of_getElem? (i := 41) rfl))) (mvT hZ (hw _ (List.mem_of_getElem? (i := 42) rfl))) (by decide) (backOfS (W := 0) (rmDen l Z a0 hw [] w_MALFORMED h135 n0 Zs135 (E_MALFORMED.ext O135.2)) hZ (hw _ (List.mem_of_getElem? (i := 42) rfl)) (hw _ (List.mem_of_getElem? (i := 41) rfl)) (by decide) (by decide)) (g := (mkF m 132 #[.val (.int p1), .val (.ref b101), .val (.int (0 : Int32)), .val (.ref w_MALFORMED), .unset] [(.ref w_MALFORMED)])) rfl (by rw [hml]; rfl) (argsL := [(.ref w_MALFORMED)]) (rest := []) (lenOf pd_3 rfl) rfl (by show 2 * 0 + _ ≤ _; exact Nat.le_of_eq rfl) (hb hby at_132) (fun _ _ => ⟨rfl, e135, (by decide : 1 + 3 ≤ _), (by decide : 17 + 30 ≤ _)⟩)
    dsimp only [Pt.U, Pt.locs, Pt.cells, Pt.slots] at X137 l137 y137 z137 st137 hQ137 S137w gr137
    rw [l137, y137, z137] at X137
    replace X137 : Stand p l e _ _ m _ below meth c T137 _ 4 47 := X137
    obtain ⟨d137, rfl, N137q, K137q, gd137, ed137, fa137, fb137⟩ := hQ137
    have N137 := Fr.app N135 N137q
    refine Go.tr st137 ?_
    obtain ⟨X137r, hS137, hZ137, hown137⟩ := rebS hS0 (by rw [e135]; exact hk135) X137 S137w gr137 hZ hown
    have Zs137 : n0 ≤ T137.heap.size := Nat.le_trans Zs135 K137q.1
    have O137 : Old Z n0 T137.heap := O135.keep K137q all0
    have fV_b101_137 := V135.keep K137q nin0
    have g_d137 : n0 ≤ d137 := Nat.le_trans Zs135 gd137
    have ne_b101_d137 : b101 ≠ d137 := Nat.ne_of_lt (Nat.lt_of_lt_of_le V135.lt gd137)
    show Go p e below _ (T137.setTop (mkF m 135 #[.val (.int p1), .val (.ref b101), .val (.int (0 : Int32)), .val (.ref w_MALFORMED), .unset] [(.ref d137)]))
    refine Go.via (fun _ => XS.astore X137r.here hx rfl (hb hby at_135) rfl rfl (l' := #[.val (.int p1), .val (.ref b101), .val (.int (0 : Int32)), .val (.ref w_MALFORMED), .val (.ref d137)]) rfl) ?_
    show Go p e below _ (T137.setTop (mkF m 137 #[.val (.int p1), .val (.ref b101), .val (.int (0 : Int32)), .val (.ref w_MALFORMED), .val (.ref d137)] []))
    refine Go.via (fun _ => XS.aload X137r.here hx rfl (hb hby at_137) rfl rfl) ?_
    show Go p e below _ (T137.setTop (mkF m 139 #[.val (.int p1), .val (.ref b101), .val (.int (0 : Int32)), .val (.ref w_MALFORMED), .val (.ref d137)] [(.ref d137)]))
    refine Go.via (fun _ => XS.ifnonnullYes X137r.here hx rfl (pc0 := 139) (pc' := 144) rfl (hb hby at_139) rfl (by decide) (by decide)) ?_
    show Go p e below _ (T137.setTop (mkF m 144 #[.val (.int p1), .val (.ref b101), .val (.int (0 : Int32)), .val (.ref w_MALFORMED), .val (.ref d137)] []))
    refine Go.via (fun _ => XS.aload X137r.here hx rfl (hb hby at_144) rfl rfl) ?_
    show Go p e below _ (T137.setTop (mkF m 146 #[.val (.int p1), .val (.ref b101), .val (.int (0 : Int32)), .val (.ref w_MALFORMED), .val (.ref d137)] [(.ref d137)]))
    obtain ⟨cq138, kq138, q138a, q138b, q138c⟩ := isOf hZ137 rfl ed137
    obtain ⟨_, _, ⟨T138, L138, k138, n138⟩, -, X138, ⟨Lc138, hQ138, l138, y138, z138⟩, st138⟩ := X137r.virtualBack hx (y := (⟨"com/example/timed_cap/timedcap/model/Decision", "reason", "()Lcom/example/timed_cap/timedcap/model/Reason;"⟩ : MethodName)) (z := (⟨"com/example/timed_cap/timedcap/model/Decision", "reason", "()Lcom/example/timed_cap/timedcap/model/Reason;"⟩ : MethodName)) hown137 (mvT hZ137 (hw _ (List.mem_of_getElem? (i := 73) rfl))) (mvT hZ137 (hw _ (List.mem_of_getElem? (i := 74) rfl))) (notFace_of_selects (args := #[]) (mvT hZ137 (hw _ (List.mem_of_getElem? (i := 76) rfl)))) (mvT hZ137 (hw _ (List.mem_of_getElem? (i := 76) rfl))) (mvT hZ137 (hw _ (List.mem_of_getElem? (i := 75) rfl))) (by decide) (backOf (W := 0) (rm_reason l Z a0 hw [] d137 w_MALFORMED T137.heap n0 Zs137 fa137 fb137) hZ137 (hw _ (List.mem_of_getElem? (i := 77) rfl)) (hw _ (List.mem_of_getElem? (i := 41) rfl)) (by decide) (by decide)) q138a q138c (g := (mkF m 146 #[.val (.int p1), .val (.ref b101), .val (.int (0 : Int32)), .val (.ref w_MALFORMED), .val (.ref d137)] [(.ref d137)])) rfl (by rw [hml]; rfl) (Steps.refl _) (argsL := []) (rest := []) (lenOf pd_4 rfl) rfl (by show 2 * 0 + _ ≤ _; exact Nat.le_of_eq rfl) (hb hby at_146) (fun _ _ => ⟨rfl, rfl, (by decide : 4 + 0 ≤ _), (by decide : 47 + 0 ≤ _)⟩)
    dsimp only [Pt.U, Pt.locs, Pt.cells, Pt.slots] at X138 l138 y138 z138 st138 hQ138
    rw [l138, y138, z138] at X138
    replace X138 : Stand p l e _ _ m _ below meth c T138 _ 4 47 := X138
    obtain ⟨rfl, N138q, e138q⟩ := hQ138
    have N138 := Fr.app N137 N138q
    refine Go.tr st138 ?_
    show Go p e below _ (T138.setTop (mkF m 149 #[.val (.int p1), .val (.ref b101), .val (.int (0 : Int32)), .val (.ref w_MALFORMED), .val (.ref d137)] [(.ref w_MALFORMED)]))
    refine Go.via (fun _ => XS.aloadN X138.here hx rfl (hb hby at_149) rfl rfl) ?_
    show Go p e below _ (T138.setTop (mkF m 150 #[.val (.int p1), .val (.ref b101), .val (.int (0 : Int32)), .val (.ref w_MALFORMED), .val (.ref d137)] [(.ref w_MALFORMED), (.ref w_MALFORMED)]))
    refine Go.via (fun _ => Jvm.RoadKit.acmp (g := (mkF m 150 #[.val (.int p1), .val (.ref b101), .val (.int (0 : Int32)), .val (.ref w_MALFORMED), .val (.ref d137)] [(.ref w_MALFORMED), (.ref w_MALFORMED)])) X138 hx rfl rfl rfl (pc0 := 150) (pc' := 153) (same := true) rfl (hb hby at_150) rfl (decide_eq_true rfl) (by decide) (by decide)) ?_
    show Go p e below _ (T138.setTop (mkF m 153 #[.val (.int p1), .val (.ref b101), .val (.int (0 : Int32)), .val (.ref w_MALFORMED), .val (.ref d137)] []))
    refine Go.via (fun _ => XS.aload X138.here hx rfl (hb hby at_153) rfl rfl) ?_
    show Go p e below _ (T138.setTop (mkF m 155 #[.val (.int p1), .val (.ref b101), .val (.int (0 : Int32)), .val (.ref w_MALFORMED), .val (.ref d137)] [(.ref d137)]))
    obtain ⟨cq139, kq139, q139a, q139b, q139c⟩ := isOf hZ137 e138q ed137
    obtain ⟨_, _, ⟨T139, L139, k139, n139⟩, -, X139, ⟨Lc139, hQ139, l139, y139, z139⟩, st139⟩ := X138.virtualBack hx (y := (⟨"com/example/timed_cap/timedcap/model/Decision", "reached", "()Lcom/example/timed_cap/timedcap/model/Reference;"⟩ : MethodName)) (z := (⟨"com/example/timed_cap/timedcap/model/Decision", "reached", "()Lcom/example/timed_cap/timedcap/model/Reference;"⟩ : MethodName)) hown137 (mvT hZ137 (hw _ (List.mem_of_getElem? (i := 78) rfl))) (mvT hZ137 (hw _ (List.mem_of_getElem? (i := 79) rfl))) (notFace_of_selects (args := #[]) (mvT hZ137 (hw _ (List.mem_of_getElem? (i := 81) rfl)))) (mvT hZ137 (hw _ (List.mem_of_getElem? (i := 81) rfl))) (mvT hZ137 (hw _ (List.mem_of_getElem? (i := 80) rfl))) (by decide) (backOf (W := 0) (rm_reached l Z a0 hw [] d137 w_MALFORMED T137.heap n0 Zs137 fa137 fb137) hZ137 (hw _ (List.mem_of_getElem? (i := 82) rfl)) (hw _ (List.mem_of_getElem? (i := 41) rfl)) (by decide) (by decide)) q139a q139c (g := (mkF m 155 #[.val (.int p1), .val (.ref b101), .val (.int (0 : Int32)), .val (.ref w_MALFORMED), .val (.ref d137)] [(.ref d137)])) rfl (by rw [hml]; rfl) (Steps.refl _) (argsL := []) (rest := []) (lenOf pd_5 rfl) rfl (by show 2 * 0 + _ ≤ _; exact Nat.le_of_eq rfl) (hb hby at_155) (fun _ _ => ⟨rfl, e138q, (by decide : 4 + 0 ≤ _), (by decide : 47 + 0 ≤ _)⟩)
    dsimp only [Pt.U, Pt.locs, Pt.cells, Pt.slots] at X139 l139 y139 z139 st139 hQ139
    rw [l139, y139, z139] at X139
    replace X139 : Stand p l e _ _ m _ below meth c T139 _ 4 47 := X139
    obtain ⟨rfl, N139q, e139q⟩ := hQ139
    have N139 := Fr.app N138 N139q
    refine Go.tr st139 ?_
    show Go p e below _ (T139.setTop (mkF m 158 #[.val (.int p1), .val (.ref b101), .val (.int (0 : Int32)), .val (.ref w_MALFORMED), .val (.ref d137)] [.null]))
    refine Go.via (fun _ => XS.ifnonnullNo X139.here hx rfl (hb hby at_158) rfl) ?_
    show Go p e below _ (T139.setTop (mkF m 161 #[.val (.int p1), .val (.ref b101), .val (.int (0 : Int32)), .val (.ref w_MALFORMED), .val (.ref d137)] []))
    refine Go.via (fun _ => XS.aload X139.here hx rfl (hb hby at_161) rfl rfl) ?_
    show Go p e below _ (T139.setTop (mkF m 163 #[.val (.int p1), .val (.ref b101), .val (.int (0 : Int32)), .val (.ref w_MALFORMED), .val (.ref d137)] [(.ref d137)]))
    obtain ⟨cq140, kq140, q140a, q140b, q140c⟩ := isOf hZ137 e139q ed137
    obtain ⟨_, _, ⟨T140, L140, k140, n140⟩, -, X140, ⟨Lc140, hQ140, l140, y140, z140⟩, st140⟩ := X139.virtualBack hx (y := (⟨"com/example/timed_cap/timedcap/model/Decision", "isGranted", "()Z"⟩ : MethodName)) (z := (⟨"com/example/timed_cap/timedcap/model/Decision", "isGranted", "()Z"⟩ : MethodName)) hown137 (mvT hZ137 (hw _ (List.mem_of_getElem? (i := 83) rfl))) (mvT hZ137 (hw _ (List.mem_of_getElem? (i := 84) rfl))) (notFace_of_selects (args := #[]) (mvT hZ137 (hw _ (List.mem_of_getElem? (i := 86) rfl)))) (mvT hZ137 (hw _ (List.mem_of_getElem? (i := 86) rfl))) (mvT hZ137 (hw _ (List.mem_of_getElem? (i := 85) rfl))) (by decide) (backOf (W := 0) (rm_isGranted l Z a0 hw [] d137 w_MALFORMED T137.heap n0 Zs137 fa137 fb137) hZ137 (hw _ (List.mem_of_getElem? (i := 87) rfl)) (hw _ (List.mem_of_getElem? (i := 41) rfl)) (by decide) (by decide)) q140a q140c (g := (mkF m 163 #[.val (.int p1), .val (.ref b101), .val (.int (0 : Int32)), .val (.ref w_MALFORMED), .val (.ref d137)] [(.ref d137)])) rfl (by rw [hml]; rfl) (Steps.refl _) (argsL := []) (rest := []) (lenOf pd_6 rfl) rfl (by show 2 * 0 + _ ≤ _; exact Nat.le_of_eq rfl) (hb hby at_163) (fun _ _ => ⟨rfl, e139q, (by decide : 4 + 0 ≤ _), (by decide : 47 + 0 ≤ _)⟩)
    dsimp only [Pt.U, Pt.locs, Pt.cells, Pt.slots] at X140 l140 y140 z140 st140 hQ140
    rw [l140, y140, z140] at X140
    replace X140 : Stand p l e _ _ m _ below meth c T140 _ 4 47 := X140
    obtain ⟨rfl, N140q, e140q⟩ := hQ140
    have N140 := Fr.app N139 N140q
    refine Go.tr st140 ?_
    show Go p e below _ (T140.setTop (mkF m 166 #[.val (.int p1), .val (.ref b101), .val (.int (0 : Int32)), .val (.ref w_MALFORMED), .val (.ref d137)] [(.int (0 : Int32))]))
    refine Go.via (fun _ => XS.ifNo X140.here hx rfl (hb hby at_166) rfl (by decide)) ?_
    show Go p e below _ (T140.setTop (mkF m 169 #[.val (.int p1), .val (.ref b101), .val (.int (0 : Int32)), .val (.ref w_MALFORMED), .val (.ref d137)] []))
    refine Go.via (fun _ => XS.iconst X140.here hx rfl (hb hby at_169)) ?_
    show Go p e below _ (T140.setTop (mkF m 170 #[.val (.int p1), .val (.ref b101), .val (.int (0 : Int32)), .val (.ref w_MALFORMED), .val (.ref d137)] [(.int (1 : Int32))]))
    refine Go.via (fun _ => XS.goto X140.here hx rfl (pc0 := 170) (pc' := 174) rfl (hb hby at_170) (by decide) (by decide)) ?_
    show Go p e below _ (T140.setTop (mkF m 174 #[.val (.int p1), .val (.ref b101), .val (.int (0 : Int32)), .val (.ref w_MALFORMED), .val (.ref d137)] [(.int (1 : Int32))]))
    exact own_retNW X140 hS137 (by rw [e140q]; exact (Nat.le_refl _)) hx hlk (t := .boolean) Bd.returns (by simp) (hb hby at_174) (by show Q0 Z p1 w_MALFORMED w_ALTERED w_RESEALED w_NOT_HOLDER w_REVOKED w_NO_SUCH_VERSION w_NO_VERSION_YET w_NOT_YET_EFFECTIVE w_EXPIRED w_LEASE_ENDED w_OUTSIDE_SCHEDULE w_RIGHT_NOT_HELD w_VERSION_EXISTS w_NOT_A_HISTORY_CAPABILITY w_WIDENS_PARENT w_NOT_AN_ANCESTOR w_NO_SUCH_LEASE h0 n0 _ T140.heap _; rw [e140q]; exact ⟨rfl, N140⟩) (by decide) (by decide)
  ·
    show Go p e below _ (T135.setTop (mkF m 126 #[.val (.int p1), .val (.ref b101), .unset, .unset, .unset] [(.int (1 : Int32))]))
    refine Go.via (fun _ => XS.istoreN X135.here hx rfl (hb hby at_126) rfl (l' := #[.val (.int p1), .val (.ref b101), .val (.int (1 : Int32)), .unset, .unset]) rfl) ?_
    show Go p e below _ (T135.setTop (mkF m 127 #[.val (.int p1), .val (.ref b101), .val (.int (1 : Int32)), .unset, .unset] []))
    refine Go.via (fun _ => XS.aloadN X135.here hx rfl (hb hby at_127) rfl rfl) ?_
    show Go p e below _ (T135.setTop (mkF m 128 #[.val (.int p1), .val (.ref b101), .val (.int (1 : Int32)), .unset, .unset] [(.ref b101)]))
    refine Go.via (fun _ => XS.iloadN X135.here hx rfl (hb hby at_128) rfl) ?_
    show Go p e below _ (T135.setTop (mkF m 129 #[.val (.int p1), .val (.ref b101), .val (.int (1 : Int32)), .unset, .unset] [(.int (1 : Int32)), (.ref b101)]))
    obtain ⟨cl141, Ar141, q141, S141, N141n, H141, G141⟩ := id V135
    have hin141 := inb_of (j := (1 : Int32)) S141 (by decide)
    have hat141 : cl141.slots[((1 : Int32) : Int32).toNatClampNeg]? = some (.ref w_ALTERED) := H141.at hin141 rfl
    refine Go.via (X135.aaload hx (j := (1 : Int32)) (v := (.ref w_ALTERED)) (by rw [e135]; exact Ar141.1) (State.isArrayOf_alike hZ.alike Ar141.2.1) rfl Ar141.2.2 hin141 hat141 (g := (mkF m 129 #[.val (.int p1), .val (.ref b101), .val (.int (1 : Int32)), .unset, .unset] [(.int (1 : Int32)), (.ref b101)])) rfl rfl (hb hby at_129)) ?_
    show Go p e below _ (T135.setTop (mkF m 130 #[.val (.int p1), .val (.ref b101), .val (.int (1 : Int32)), .unset, .unset] [(.ref w_ALTERED)]))
    refine Go.via (fun _ => XS.astoreN X135.here hx rfl (hb hby at_130) rfl rfl (l' := #[.val (.int p1), .val (.ref b101), .val (.int (1 : Int32)), .val (.ref w_ALTERED), .unset]) rfl) ?_
    show Go p e below _ (T135.setTop (mkF m 131 #[.val (.int p1), .val (.ref b101), .val (.int (1 : Int32)), .val (.ref w_ALTERED), .unset] []))
    refine Go.via (fun _ => XS.aloadN X135.here hx rfl (hb hby at_131) rfl rfl) ?_
    show Go p e below _ (T135.setTop (mkF m 132 #[.val (.int p1), .val (.ref b101), .val (.int (1 : Int32)), .val (.ref w_ALTERED), .unset] [(.ref w_ALTERED)]))
    obtain ⟨_, _, ⟨T142, L142, k142, n142⟩, -, X142, S142w, gr142, ⟨Lc142, hQ142, l142, y142, z142⟩, st142⟩ := callSS X135 hx (y := (⟨"com/example/timed_cap/timedcap/model/Decision", "denied", "(Lcom/example/timed_cap/timedcap/model/Reason;)Lcom/example/timed_cap/timedcap/model/Decision;"⟩ : MethodName)) hown (mvT hZ (hw _ (List.mem_of_getElem? (i := 39) rfl))) (mvT hZ (hw _ (List.mem_of_getElem? (i := 40) rfl))) (mvT hZ (hw _ (List.mem_of_getElem? (i := 41) rfl))) (mvT hZ (hw _ (List.mem_of_getElem? (i := 42) rfl))) (by decide) (backOfS (W := 0) (rmDen l Z a0 hw [] w_ALTERED h135 n0 Zs135 (E_ALTERED.ext O135.2)) hZ (hw _ (List.mem_of_getElem? (i := 42) rfl)) (hw _ (List.mem_of_getElem? (i := 41) rfl)) (by decide) (by decide)) (g := (mkF m 132 #[.val (.int p1), .val (.ref b101), .val (.int (1 : Int32)), .val (.ref w_ALTERED), .unset] [(.ref w_ALTERED)])) rfl (by rw [hml]; rfl) (argsL := [(.ref w_ALTERED)]) (rest := []) (lenOf pd_3 rfl) rfl (by show 2 * 0 + _ ≤ _; exact Nat.le_of_eq rfl) (hb hby at_132) (fun _ _ => ⟨rfl, e135, (by decide : 1 + 3 ≤ _), (by decide : 17 + 30 ≤ _)⟩)
    dsimp only [Pt.U, Pt.locs, Pt.cells, Pt.slots] at X142 l142 y142 z142 st142 hQ142 S142w gr142
    rw [l142, y142, z142] at X142
    replace X142 : Stand p l e _ _ m _ below meth c T142 _ 4 47 := X142
    obtain ⟨d142, rfl, N142q, K142q, gd142, ed142, fa142, fb142⟩ := hQ142
    have N142 := Fr.app N135 N142q
    refine Go.tr st142 ?_
    obtain ⟨X142r, hS142, hZ142, hown142⟩ := rebS hS0 (by rw [e135]; exact hk135) X142 S142w gr142 hZ hown
    have Zs142 : n0 ≤ T142.heap.size := Nat.le_trans Zs135 K142q.1
    have O142 : Old Z n0 T142.heap := O135.keep K142q all0
    have fV_b101_142 := V135.keep K142q nin0
    have g_d142 : n0 ≤ d142 := Nat.le_trans Zs135 gd142
    have ne_b101_d142 : b101 ≠ d142 := Nat.ne_of_lt (Nat.lt_of_lt_of_le V135.lt gd142)
    show Go p e below _ (T142.setTop (mkF m 135 #[.val (.int p1), .val (.ref b101), .val (.int (1 : Int32)), .val (.ref w_ALTERED), .unset] [(.ref d142)]))
    refine Go.via (fun _ => XS.astore X142r.here hx rfl (hb hby at_135) rfl rfl (l' := #[.val (.int p1), .val (.ref b101), .val (.int (1 : Int32)), .val (.ref w_ALTERED), .val (.ref d142)]) rfl) ?_
    show Go p e below _ (T142.setTop (mkF m 137 #[.val (.int p1), .val (.ref b101), .val (.int (1 : Int32)), .val (.ref w_ALTERED), .val (.ref d142)] []))
    refine Go.via (fun _ => XS.aload X142r.here hx rfl (hb hby at_137) rfl rfl) ?_
    show Go p e below _ (T142.setTop (mkF m 139 #[.val (.int p1), .val (.ref b101), .val (.int (1 : Int32)), .val (.ref w_ALTERED), .val (.ref d142)] [(.ref d142)]))
    refine Go.via (fun _ => XS.ifnonnullYes X142r.here hx rfl (pc0 := 139) (pc' := 144) rfl (hb hby at_139) rfl (by decide) (by decide)) ?_
    show Go p e below _ (T142.setTop (mkF m 144 #[.val (.int p1), .val (.ref b101), .val (.int (1 : Int32)), .val (.ref w_ALTERED), .val (.ref d142)] []))
    refine Go.via (fun _ => XS.aload X142r.here hx rfl (hb hby at_144) rfl rfl) ?_
    show Go p e below _ (T142.setTop (mkF m 146 #[.val (.int p1), .val (.ref b101), .val (.int (1 : Int32)), .val (.ref w_ALTERED), .val (.ref d142)] [(.ref d142)]))
    obtain ⟨cq143, kq143, q143a, q143b, q143c⟩ := isOf hZ142 rfl ed142
    obtain ⟨_, _, ⟨T143, L143, k143, n143⟩, -, X143, ⟨Lc143, hQ143, l143, y143, z143⟩, st143⟩ := X142r.virtualBack hx (y := (⟨"com/example/timed_cap/timedcap/model/Decision", "reason", "()Lcom/example/timed_cap/timedcap/model/Reason;"⟩ : MethodName)) (z := (⟨"com/example/timed_cap/timedcap/model/Decision", "reason", "()Lcom/example/timed_cap/timedcap/model/Reason;"⟩ : MethodName)) hown142 (mvT hZ142 (hw _ (List.mem_of_getElem? (i := 73) rfl))) (mvT hZ142 (hw _ (List.mem_of_getElem? (i := 74) rfl))) (notFace_of_selects (args := #[]) (mvT hZ142 (hw _ (List.mem_of_getElem? (i := 76) rfl)))) (mvT hZ142 (hw _ (List.mem_of_getElem? (i := 76) rfl))) (mvT hZ142 (hw _ (List.mem_of_getElem? (i := 75) rfl))) (by decide) (backOf (W := 0) (rm_reason l Z a0 hw [] d142 w_ALTERED T142.heap n0 Zs142 fa142 fb142) hZ142 (hw _ (List.mem_of_getElem? (i := 77) rfl)) (hw _ (List.mem_of_getElem? (i := 41) rfl)) (by decide) (by decide)) q143a q143c (g := (mkF m 146 #[.val (.int p1), .val (.ref b101), .val (.int (1 : Int32)), .val (.ref w_ALTERED), .val (.ref d142)] [(.ref d142)])) rfl (by rw [hml]; rfl) (Steps.refl _) (argsL := []) (rest := []) (lenOf pd_4 rfl) rfl (by show 2 * 0 + _ ≤ _; exact Nat.le_of_eq rfl) (hb hby at_146) (fun _ _ => ⟨rfl, rfl, (by decide : 4 + 0 ≤ _), (by decide : 47 + 0 ≤ _)⟩)
    dsimp only [Pt.U, Pt.locs, Pt.cells, Pt.slots] at X143 l143 y143 z143 st143 hQ143
    rw [l143, y143, z143] at X143
    replace X143 : Stand p l e _ _ m _ below meth c T143 _ 4 47 := X143
    obtain ⟨rfl, N143q, e143q⟩ := hQ143
    have N143 := Fr.app N142 N143q
    refine Go.tr st143 ?_
    show Go p e below _ (T143.setTop (mkF m 149 #[.val (.int p1), .val (.ref b101), .val (.int (1 : Int32)), .val (.ref w_ALTERED), .val (.ref d142)] [(.ref w_ALTERED)]))
    refine Go.via (fun _ => XS.aloadN X143.here hx rfl (hb hby at_149) rfl rfl) ?_
    show Go p e below _ (T143.setTop (mkF m 150 #[.val (.int p1), .val (.ref b101), .val (.int (1 : Int32)), .val (.ref w_ALTERED), .val (.ref d142)] [(.ref w_ALTERED), (.ref w_ALTERED)]))
    refine Go.via (fun _ => Jvm.RoadKit.acmp (g := (mkF m 150 #[.val (.int p1), .val (.ref b101), .val (.int (1 : Int32)), .val (.ref w_ALTERED), .val (.ref d142)] [(.ref w_ALTERED), (.ref w_ALTERED)])) X143 hx rfl rfl rfl (pc0 := 150) (pc' := 153) (same := true) rfl (hb hby at_150) rfl (decide_eq_true rfl) (by decide) (by decide)) ?_
    show Go p e below _ (T143.setTop (mkF m 153 #[.val (.int p1), .val (.ref b101), .val (.int (1 : Int32)), .val (.ref w_ALTERED), .val (.ref d142)] []))
    refine Go.via (fun _ => XS.aload X143.here hx rfl (hb hby at_153) rfl rfl) ?_
    show Go p e below _ (T143.setTop (mkF m 155 #[.val (.int p1), .val (.ref b101), .val (.int (1 : Int32)), .val (.ref w_ALTERED), .val (.ref d142)] [(.ref d142)]))
    obtain ⟨cq144, kq144, q144a, q144b, q144c⟩ := isOf hZ142 e143q ed142
    obtain ⟨_, _, ⟨T144, L144, k144, n144⟩, -, X144, ⟨Lc144, hQ144, l144, y144, z144⟩, st144⟩ := X143.virtualBack hx (y := (⟨"com/example/timed_cap/timedcap/model/Decision", "reached", "()Lcom/example/timed_cap/timedcap/model/Reference;"⟩ : MethodName)) (z := (⟨"com/example/timed_cap/timedcap/model/Decision", "reached", "()Lcom/example/timed_cap/timedcap/model/Reference;"⟩ : MethodName)) hown142 (mvT hZ142 (hw _ (List.mem_of_getElem? (i := 78) rfl))) (mvT hZ142 (hw _ (List.mem_of_getElem? (i := 79) rfl))) (notFace_of_selects (args := #[]) (mvT hZ142 (hw _ (List.mem_of_getElem? (i := 81) rfl)))) (mvT hZ142 (hw _ (List.mem_of_getElem? (i := 81) rfl))) (mvT hZ142 (hw _ (List.mem_of_getElem? (i := 80) rfl))) (by decide) (backOf (W := 0) (rm_reached l Z a0 hw [] d142 w_ALTERED T142.heap n0 Zs142 fa142 fb142) hZ142 (hw _ (List.mem_of_getElem? (i := 82) rfl)) (hw _ (List.mem_of_getElem? (i := 41) rfl)) (by decide) (by decide)) q144a q144c (g := (mkF m 155 #[.val (.int p1), .val (.ref b101), .val (.int (1 : Int32)), .val (.ref w_ALTERED), .val (.ref d142)] [(.ref d142)])) rfl (by rw [hml]; rfl) (Steps.refl _) (argsL := []) (rest := []) (lenOf pd_5 rfl) rfl (by show 2 * 0 + _ ≤ _; exact Nat.le_of_eq rfl) (hb hby at_155) (fun _ _ => ⟨rfl, e143q, (by decide : 4 + 0 ≤ _), (by decide : 47 + 0 ≤ _)⟩)
    dsimp only [Pt.U, Pt.locs, Pt.cells, Pt.slots] at X144 l144 y144 z144 st144 hQ144
    rw [l144, y144, z144] at X144
    replace X144 : Stand p l e _ _ m _ below meth c T144 _ 4 47 := X144
    obtain ⟨rfl, N144q, e144q⟩ := hQ144
    have N144 := Fr.app N143 N144q
    refine Go.tr st144 ?_
    show Go p e below _ (T144.setTop (mkF m 158 #[.val (.int p1), .val (.ref b101), .val (.int (1 : Int32)), .val (.ref w_ALTERED), .val (.ref d142)] [.null]))
    refine Go.via (fun _ => XS.ifnonnullNo X144.here hx rfl (hb hby at_158) rfl) ?_
    show Go p e below _ (T144.setTop (mkF m 161 #[.val (.int p1), .val (.ref b101), .val (.int (1 : Int32)), .val (.ref w_ALTERED), .val (.ref d142)] []))
    refine Go.via (fun _ => XS.aload X144.here hx rfl (hb hby at_161) rfl rfl) ?_
    show Go p e below _ (T144.setTop (mkF m 163 #[.val (.int p1), .val (.ref b101), .val (.int (1 : Int32)), .val (.ref w_ALTERED), .val (.ref d142)] [(.ref d142)]))
    obtain ⟨cq145, kq145, q145a, q145b, q145c⟩ := isOf hZ142 e144q ed142
    obtain ⟨_, _, ⟨T145, L145, k145, n145⟩, -, X145, ⟨Lc145, hQ145, l145, y145, z145⟩, st145⟩ := X144.virtualBack hx (y := (⟨"com/example/timed_cap/timedcap/model/Decision", "isGranted", "()Z"⟩ : MethodName)) (z := (⟨"com/example/timed_cap/timedcap/model/Decision", "isGranted", "()Z"⟩ : MethodName)) hown142 (mvT hZ142 (hw _ (List.mem_of_getElem? (i := 83) rfl))) (mvT hZ142 (hw _ (List.mem_of_getElem? (i := 84) rfl))) (notFace_of_selects (args := #[]) (mvT hZ142 (hw _ (List.mem_of_getElem? (i := 86) rfl)))) (mvT hZ142 (hw _ (List.mem_of_getElem? (i := 86) rfl))) (mvT hZ142 (hw _ (List.mem_of_getElem? (i := 85) rfl))) (by decide) (backOf (W := 0) (rm_isGranted l Z a0 hw [] d142 w_ALTERED T142.heap n0 Zs142 fa142 fb142) hZ142 (hw _ (List.mem_of_getElem? (i := 87) rfl)) (hw _ (List.mem_of_getElem? (i := 41) rfl)) (by decide) (by decide)) q145a q145c (g := (mkF m 163 #[.val (.int p1), .val (.ref b101), .val (.int (1 : Int32)), .val (.ref w_ALTERED), .val (.ref d142)] [(.ref d142)])) rfl (by rw [hml]; rfl) (Steps.refl _) (argsL := []) (rest := []) (lenOf pd_6 rfl) rfl (by show 2 * 0 + _ ≤ _; exact Nat.le_of_eq rfl) (hb hby at_163) (fun _ _ => ⟨rfl, e144q, (by decide : 4 + 0 ≤ _), (by decide : 47 + 0 ≤ _)⟩)
    dsimp only [Pt.U, Pt.locs, Pt.cells, Pt.slots] at X145 l145 y145 z145 st145 hQ145
    rw [l145, y145, z145] at X145
    replace X145 : Stand p l e _ _ m _ below meth c T145 _ 4 47 := X145
    obtain ⟨rfl, N145q, e145q⟩ := hQ145
    have N145 := Fr.app N144 N145q
    refine Go.tr st145 ?_
    show Go p e below _ (T145.setTop (mkF m 166 #[.val (.int p1), .val (.ref b101), .val (.int (1 : Int32)), .val (.ref w_ALTERED), .val (.ref d142)] [(.int (0 : Int32))]))
    refine Go.via (fun _ => XS.ifNo X145.here hx rfl (hb hby at_166) rfl (by decide)) ?_
    show Go p e below _ (T145.setTop (mkF m 169 #[.val (.int p1), .val (.ref b101), .val (.int (1 : Int32)), .val (.ref w_ALTERED), .val (.ref d142)] []))
    refine Go.via (fun _ => XS.iconst X145.here hx rfl (hb hby at_169)) ?_
    show Go p e below _ (T145.setTop (mkF m 170 #[.val (.int p1), .val (.ref b101), .val (.int (1 : Int32)), .val (.ref w_ALTERED), .val (.ref d142)] [(.int (1 : Int32))]))
    refine Go.via (fun _ => XS.goto X145.here hx rfl (pc0 := 170) (pc' := 174) rfl (hb hby at_170) (by decide) (by decide)) ?_
    show Go p e below _ (T145.setTop (mkF m 174 #[.val (.int p1), .val (.ref b101), .val (.int (1 : Int32)), .val (.ref w_ALTERED), .val (.ref d142)] [(.int (1 : Int32))]))
    exact own_retNW X145 hS142 (by rw [e145q]; exact (Nat.le_refl _)) hx hlk (t := .boolean) Bd.returns (by simp) (hb hby at_174) (by show Q0 Z p1 w_MALFORMED w_ALTERED w_RESEALED w_NOT_HOLDER w_REVOKED w_NO_SUCH_VERSION w_NO_VERSION_YET w_NOT_YET_EFFECTIVE w_EXPIRED w_LEASE_ENDED w_OUTSIDE_SCHEDULE w_RIGHT_NOT_HELD w_VERSION_EXISTS w_NOT_A_HISTORY_CAPABILITY w_WIDENS_PARENT w_NOT_AN_ANCESTOR w_NO_SUCH_LEASE h0 n0 _ T145.heap _; rw [e145q]; exact ⟨rfl, N145⟩) (by decide) (by decide)
  ·
    show Go p e below _ (T135.setTop (mkF m 126 #[.val (.int p1), .val (.ref b101), .unset, .unset, .unset] [(.int (2 : Int32))]))
    refine Go.via (fun _ => XS.istoreN X135.here hx rfl (hb hby at_126) rfl (l' := #[.val (.int p1), .val (.ref b101), .val (.int (2 : Int32)), .unset, .unset]) rfl) ?_
    show Go p e below _ (T135.setTop (mkF m 127 #[.val (.int p1), .val (.ref b101), .val (.int (2 : Int32)), .unset, .unset] []))
    refine Go.via (fun _ => XS.aloadN X135.here hx rfl (hb hby at_127) rfl rfl) ?_
    show Go p e below _ (T135.setTop (mkF m 128 #[.val (.int p1), .val (.ref b101), .val (.int (2 : Int32)), .unset, .unset] [(.ref b101)]))
    refine Go.via (fun _ => XS.iloadN X135.here hx rfl (hb hby at_128) rfl) ?_
    show Go p e below _ (T135.setTop (mkF m 129 #[.val (.int p1), .val (.ref b101), .val (.int (2 : Int32)), .unset, .unset] [(.int (2 : Int32)), (.ref b101)]))
    obtain ⟨cl146, Ar146, q146, S146, N146n, H146, G146⟩ := id V135
    have hin146 := inb_of (j := (2 : Int32)) S146 (by decide)
    have hat146 : cl146.slots[((2 : Int32) : Int32).toNatClampNeg]? = some (.ref w_RESEALED) := H146.at hin146 rfl
    refine Go.via (X135.aaload hx (j := (2 : Int32)) (v := (.ref w_RESEALED)) (by rw [e135]; exact Ar146.1) (State.isArrayOf_alike hZ.alike Ar146.2.1) rfl Ar146.2.2 hin146 hat146 (g := (mkF m 129 #[.val (.int p1), .val (.ref b101), .val (.int (2 : Int32)), .unset, .unset] [(.int (2 : Int32)), (.ref b101)])) rfl rfl (hb hby at_129)) ?_
    show Go p e below _ (T135.setTop (mkF m 130 #[.val (.int p1), .val (.ref b101), .val (.int (2 : Int32)), .unset, .unset] [(.ref w_RESEALED)]))
    refine Go.via (fun _ => XS.astoreN X135.here hx rfl (hb hby at_130) rfl rfl (l' := #[.val (.int p1), .val (.ref b101), .val (.int (2 : Int32)), .val (.ref w_RESEALED), .unset]) rfl) ?_
    show Go p e below _ (T135.setTop (mkF m 131 #[.val (.int p1), .val (.ref b101), .val (.int (2 : Int32)), .val (.ref w_RESEALED), .unset] []))
    refine Go.via (fun _ => XS.aloadN X135.here hx rfl (hb hby at_131) rfl rfl) ?_
    show Go p e below _ (T135.setTop (mkF m 132 #[.val (.int p1), .val (.ref b101), .val (.int (2 : Int32)), .val (.ref w_RESEALED), .unset] [(.ref w_RESEALED)]))
    obtain ⟨_, _, ⟨T147, L147, k147, n147⟩, -, X147, S147w, gr147, ⟨Lc147, hQ147, l147, y147, z147⟩, st147⟩ := callSS X135 hx (y := (⟨"com/example/timed_cap/timedcap/model/Decision", "denied", "(Lcom/example/timed_cap/timedcap/model/Reason;)Lcom/example/timed_cap/timedcap/model/Decision;"⟩ : MethodName)) hown (mvT hZ (hw _ (List.mem_of_getElem? (i := 39) rfl))) (mvT hZ (hw _ (List.mem_of_getElem? (i := 40) rfl))) (mvT hZ (hw _ (List.mem_of_getElem? (i := 41) rfl))) (mvT hZ (hw _ (List.mem_of_getElem? (i := 42) rfl))) (by decide) (backOfS (W := 0) (rmDen l Z a0 hw [] w_RESEALED h135 n0 Zs135 (E_RESEALED.ext O135.2)) hZ (hw _ (List.mem_of_getElem? (i := 42) rfl)) (hw _ (List.mem_of_getElem? (i := 41) rfl)) (by decide) (by decide)) (g := (mkF m 132 #[.val (.int p1), .val (.ref b101), .val (.int (2 : Int32)), .val (.ref w_RESEALED), .unset] [(.ref w_RESEALED)])) rfl (by rw [hml]; rfl) (argsL := [(.ref w_RESEALED)]) (rest := []) (lenOf pd_3 rfl) rfl (by show 2 * 0 + _ ≤ _; exact Nat.le_of_eq rfl) (hb hby at_132) (fun _ _ => ⟨rfl, e135, (by decide : 1 + 3 ≤ _), (by decide : 17 + 30 ≤ _)⟩)
    dsimp only [Pt.U, Pt.locs, Pt.cells, Pt.slots] at X147 l147 y147 z147 st147 hQ147 S147w gr147
    rw [l147, y147, z147] at X147
    replace X147 : Stand p l e _ _ m _ below meth c T147 _ 4 47 := X147
    obtain ⟨d147, rfl, N147q, K147q, gd147, ed147, fa147, fb147⟩ := hQ147
    have N147 := Fr.app N135 N147q
    refine Go.tr st147 ?_
    obtain ⟨X147r, hS147, hZ147, hown147⟩ := rebS hS0 (by rw [e135]; exact hk135) X147 S147w gr147 hZ hown
    have Zs147 : n0 ≤ T147.heap.size := Nat.le_trans Zs135 K147q.1
    have O147 : Old Z n0 T147.heap := O135.keep K147q all0
    have fV_b101_147 := V135.keep K147q nin0
    have g_d147 : n0 ≤ d147 := Nat.le_trans Zs135 gd147
    have ne_b101_d147 : b101 ≠ d147 := Nat.ne_of_lt (Nat.lt_of_lt_of_le V135.lt gd147)
    show Go p e below _ (T147.setTop (mkF m 135 #[.val (.int p1), .val (.ref b101), .val (.int (2 : Int32)), .val (.ref w_RESEALED), .unset] [(.ref d147)]))
    refine Go.via (fun _ => XS.astore X147r.here hx rfl (hb hby at_135) rfl rfl (l' := #[.val (.int p1), .val (.ref b101), .val (.int (2 : Int32)), .val (.ref w_RESEALED), .val (.ref d147)]) rfl) ?_
    show Go p e below _ (T147.setTop (mkF m 137 #[.val (.int p1), .val (.ref b101), .val (.int (2 : Int32)), .val (.ref w_RESEALED), .val (.ref d147)] []))
    refine Go.via (fun _ => XS.aload X147r.here hx rfl (hb hby at_137) rfl rfl) ?_
    show Go p e below _ (T147.setTop (mkF m 139 #[.val (.int p1), .val (.ref b101), .val (.int (2 : Int32)), .val (.ref w_RESEALED), .val (.ref d147)] [(.ref d147)]))
    refine Go.via (fun _ => XS.ifnonnullYes X147r.here hx rfl (pc0 := 139) (pc' := 144) rfl (hb hby at_139) rfl (by decide) (by decide)) ?_
    show Go p e below _ (T147.setTop (mkF m 144 #[.val (.int p1), .val (.ref b101), .val (.int (2 : Int32)), .val (.ref w_RESEALED), .val (.ref d147)] []))
    refine Go.via (fun _ => XS.aload X147r.here hx rfl (hb hby at_144) rfl rfl) ?_
    show Go p e below _ (T147.setTop (mkF m 146 #[.val (.int p1), .val (.ref b101), .val (.int (2 : Int32)), .val (.ref w_RESEALED), .val (.ref d147)] [(.ref d147)]))
    obtain ⟨cq148, kq148, q148a, q148b, q148c⟩ := isOf hZ147 rfl ed147
    obtain ⟨_, _, ⟨T148, L148, k148, n148⟩, -, X148, ⟨Lc148, hQ148, l148, y148, z148⟩, st148⟩ := X147r.virtualBack hx (y := (⟨"com/example/timed_cap/timedcap/model/Decision", "reason", "()Lcom/example/timed_cap/timedcap/model/Reason;"⟩ : MethodName)) (z := (⟨"com/example/timed_cap/timedcap/model/Decision", "reason", "()Lcom/example/timed_cap/timedcap/model/Reason;"⟩ : MethodName)) hown147 (mvT hZ147 (hw _ (List.mem_of_getElem? (i := 73) rfl))) (mvT hZ147 (hw _ (List.mem_of_getElem? (i := 74) rfl))) (notFace_of_selects (args := #[]) (mvT hZ147 (hw _ (List.mem_of_getElem? (i := 76) rfl)))) (mvT hZ147 (hw _ (List.mem_of_getElem? (i := 76) rfl))) (mvT hZ147 (hw _ (List.mem_of_getElem? (i := 75) rfl))) (by decide) (backOf (W := 0) (rm_reason l Z a0 hw [] d147 w_RESEALED T147.heap n0 Zs147 fa147 fb147) hZ147 (hw _ (List.mem_of_getElem? (i := 77) rfl)) (hw _ (List.mem_of_getElem? (i := 41) rfl)) (by decide) (by decide)) q148a q148c (g := (mkF m 146 #[.val (.int p1), .val (.ref b101), .val (.int (2 : Int32)), .val (.ref w_RESEALED), .val (.ref d147)] [(.ref d147)])) rfl (by rw [hml]; rfl) (Steps.refl _) (argsL := []) (rest := []) (lenOf pd_4 rfl) rfl (by show 2 * 0 + _ ≤ _; exact Nat.le_of_eq rfl) (hb hby at_146) (fun _ _ => ⟨rfl, rfl, (by decide : 4 + 0 ≤ _), (by decide : 47 + 0 ≤ _)⟩)
    dsimp only [Pt.U, Pt.locs, Pt.cells, Pt.slots] at X148 l148 y148 z148 st148 hQ148
    rw [l148, y148, z148] at X148
    replace X148 : Stand p l e _ _ m _ below meth c T148 _ 4 47 := X148
    obtain ⟨rfl, N148q, e148q⟩ := hQ148
    have N148 := Fr.app N147 N148q
    refine Go.tr st148 ?_
    show Go p e below _ (T148.setTop (mkF m 149 #[.val (.int p1), .val (.ref b101), .val (.int (2 : Int32)), .val (.ref w_RESEALED), .val (.ref d147)] [(.ref w_RESEALED)]))
    refine Go.via (fun _ => XS.aloadN X148.here hx rfl (hb hby at_149) rfl rfl) ?_
    show Go p e below _ (T148.setTop (mkF m 150 #[.val (.int p1), .val (.ref b101), .val (.int (2 : Int32)), .val (.ref w_RESEALED), .val (.ref d147)] [(.ref w_RESEALED), (.ref w_RESEALED)]))
    refine Go.via (fun _ => Jvm.RoadKit.acmp (g := (mkF m 150 #[.val (.int p1), .val (.ref b101), .val (.int (2 : Int32)), .val (.ref w_RESEALED), .val (.ref d147)] [(.ref w_RESEALED), (.ref w_RESEALED)])) X148 hx rfl rfl rfl (pc0 := 150) (pc' := 153) (same := true) rfl (hb hby at_150) rfl (decide_eq_true rfl) (by decide) (by decide)) ?_
    show Go p e below _ (T148.setTop (mkF m 153 #[.val (.int p1), .val (.ref b101), .val (.int (2 : Int32)), .val (.ref w_RESEALED), .val (.ref d147)] []))
    refine Go.via (fun _ => XS.aload X148.here hx rfl (hb hby at_153) rfl rfl) ?_
    show Go p e below _ (T148.setTop (mkF m 155 #[.val (.int p1), .val (.ref b101), .val (.int (2 : Int32)), .val (.ref w_RESEALED), .val (.ref d147)] [(.ref d147)]))
    obtain ⟨cq149, kq149, q149a, q149b, q149c⟩ := isOf hZ147 e148q ed147
    obtain ⟨_, _, ⟨T149, L149, k149, n149⟩, -, X149, ⟨Lc149, hQ149, l149, y149, z149⟩, st149⟩ := X148.virtualBack hx (y := (⟨"com/example/timed_cap/timedcap/model/Decision", "reached", "()Lcom/example/timed_cap/timedcap/model/Reference;"⟩ : MethodName)) (z := (⟨"com/example/timed_cap/timedcap/model/Decision", "reached", "()Lcom/example/timed_cap/timedcap/model/Reference;"⟩ : MethodName)) hown147 (mvT hZ147 (hw _ (List.mem_of_getElem? (i := 78) rfl))) (mvT hZ147 (hw _ (List.mem_of_getElem? (i := 79) rfl))) (notFace_of_selects (args := #[]) (mvT hZ147 (hw _ (List.mem_of_getElem? (i := 81) rfl)))) (mvT hZ147 (hw _ (List.mem_of_getElem? (i := 81) rfl))) (mvT hZ147 (hw _ (List.mem_of_getElem? (i := 80) rfl))) (by decide) (backOf (W := 0) (rm_reached l Z a0 hw [] d147 w_RESEALED T147.heap n0 Zs147 fa147 fb147) hZ147 (hw _ (List.mem_of_getElem? (i := 82) rfl)) (hw _ (List.mem_of_getElem? (i := 41) rfl)) (by decide) (by decide)) q149a q149c (g := (mkF m 155 #[.val (.int p1), .val (.ref b101), .val (.int (2 : Int32)), .val (.ref w_RESEALED), .val (.ref d147)] [(.ref d147)])) rfl (by rw [hml]; rfl) (Steps.refl _) (argsL := []) (rest := []) (lenOf pd_5 rfl) rfl (by show 2 * 0 + _ ≤ _; exact Nat.le_of_eq rfl) (hb hby at_155) (fun _ _ => ⟨rfl, e148q, (by decide : 4 + 0 ≤ _), (by decide : 47 + 0 ≤ _)⟩)
    dsimp only [Pt.U, Pt.locs, Pt.cells, Pt.slots] at X149 l149 y149 z149 st149 hQ149
    rw [l149, y149, z149] at X149
    replace X149 : Stand p l e _ _ m _ below meth c T149 _ 4 47 := X149
    obtain ⟨rfl, N149q, e149q⟩ := hQ149
    have N149 := Fr.app N148 N149q
    refine Go.tr st149 ?_
    show Go p e below _ (T149.setTop (mkF m 158 #[.val (.int p1), .val (.ref b101), .val (.int (2 : Int32)), .val (.ref w_RESEALED), .val (.ref d147)] [.null]))
    refine Go.via (fun _ => XS.ifnonnullNo X149.here hx rfl (hb hby at_158) rfl) ?_
    show Go p e below _ (T149.setTop (mkF m 161 #[.val (.int p1), .val (.ref b101), .val (.int (2 : Int32)), .val (.ref w_RESEALED), .val (.ref d147)] []))
    refine Go.via (fun _ => XS.aload X149.here hx rfl (hb hby at_161) rfl rfl) ?_
    show Go p e below _ (T149.setTop (mkF m 163 #[.val (.int p1), .val (.ref b101), .val (.int (2 : Int32)), .val (.ref w_RESEALED), .val (.ref d147)] [(.ref d147)]))
    obtain ⟨cq150, kq150, q150a, q150b, q150c⟩ := isOf hZ147 e149q ed147
    obtain ⟨_, _, ⟨T150, L150, k150, n150⟩, -, X150, ⟨Lc150, hQ150, l150, y150, z150⟩, st150⟩ := X149.virtualBack hx (y := (⟨"com/example/timed_cap/timedcap/model/Decision", "isGranted", "()Z"⟩ : MethodName)) (z := (⟨"com/example/timed_cap/timedcap/model/Decision", "isGranted", "()Z"⟩ : MethodName)) hown147 (mvT hZ147 (hw _ (List.mem_of_getElem? (i := 83) rfl))) (mvT hZ147 (hw _ (List.mem_of_getElem? (i := 84) rfl))) (notFace_of_selects (args := #[]) (mvT hZ147 (hw _ (List.mem_of_getElem? (i := 86) rfl)))) (mvT hZ147 (hw _ (List.mem_of_getElem? (i := 86) rfl))) (mvT hZ147 (hw _ (List.mem_of_getElem? (i := 85) rfl))) (by decide) (backOf (W := 0) (rm_isGranted l Z a0 hw [] d147 w_RESEALED T147.heap n0 Zs147 fa147 fb147) hZ147 (hw _ (List.mem_of_getElem? (i := 87) rfl)) (hw _ (List.mem_of_getElem? (i := 41) rfl)) (by decide) (by decide)) q150a q150c (g := (mkF m 163 #[.val (.int p1), .val (.ref b101), .val (.int (2 : Int32)), .val (.ref w_RESEALED), .val (.ref d147)] [(.ref d147)])) rfl (by rw [hml]; rfl) (Steps.refl _) (argsL := []) (rest := []) (lenOf pd_6 rfl) rfl (by show 2 * 0 + _ ≤ _; exact Nat.le_of_eq rfl) (hb hby at_163) (fun _ _ => ⟨rfl, e149q, (by decide : 4 + 0 ≤ _), (by decide : 47 + 0 ≤ _)⟩)
    dsimp only [Pt.U, Pt.locs, Pt.cells, Pt.slots] at X150 l150 y150 z150 st150 hQ150
    rw [l150, y150, z150] at X150
    replace X150 : Stand p l e _ _ m _ below meth c T150 _ 4 47 := X150
    obtain ⟨rfl, N150q, e150q⟩ := hQ150
    have N150 := Fr.app N149 N150q
    refine Go.tr st150 ?_
    show Go p e below _ (T150.setTop (mkF m 166 #[.val (.int p1), .val (.ref b101), .val (.int (2 : Int32)), .val (.ref w_RESEALED), .val (.ref d147)] [(.int (0 : Int32))]))
    refine Go.via (fun _ => XS.ifNo X150.here hx rfl (hb hby at_166) rfl (by decide)) ?_
    show Go p e below _ (T150.setTop (mkF m 169 #[.val (.int p1), .val (.ref b101), .val (.int (2 : Int32)), .val (.ref w_RESEALED), .val (.ref d147)] []))
    refine Go.via (fun _ => XS.iconst X150.here hx rfl (hb hby at_169)) ?_
    show Go p e below _ (T150.setTop (mkF m 170 #[.val (.int p1), .val (.ref b101), .val (.int (2 : Int32)), .val (.ref w_RESEALED), .val (.ref d147)] [(.int (1 : Int32))]))
    refine Go.via (fun _ => XS.goto X150.here hx rfl (pc0 := 170) (pc' := 174) rfl (hb hby at_170) (by decide) (by decide)) ?_
    show Go p e below _ (T150.setTop (mkF m 174 #[.val (.int p1), .val (.ref b101), .val (.int (2 : Int32)), .val (.ref w_RESEALED), .val (.ref d147)] [(.int (1 : Int32))]))
    exact own_retNW X150 hS147 (by rw [e150q]; exact (Nat.le_refl _)) hx hlk (t := .boolean) Bd.returns (by simp) (hb hby at_174) (by show Q0 Z p1 w_MALFORMED w_ALTERED w_RESEALED w_NOT_HOLDER w_REVOKED w_NO_SUCH_VERSION w_NO_VERSION_YET w_NOT_YET_EFFECTIVE w_EXPIRED w_LEASE_ENDED w_OUTSIDE_SCHEDULE w_RIGHT_NOT_HELD w_VERSION_EXISTS w_NOT_A_HISTORY_CAPABILITY w_WIDENS_PARENT w_NOT_AN_ANCESTOR w_NO_SUCH_LEASE h0 n0 _ T150.heap _; rw [e150q]; exact ⟨rfl, N150⟩) (by decide) (by decide)
  ·
    show Go p e below _ (T135.setTop (mkF m 126 #[.val (.int p1), .val (.ref b101), .unset, .unset, .unset] [(.int (3 : Int32))]))
    refine Go.via (fun _ => XS.istoreN X135.here hx rfl (hb hby at_126) rfl (l' := #[.val (.int p1), .val (.ref b101), .val (.int (3 : Int32)), .unset, .unset]) rfl) ?_
    show Go p e below _ (T135.setTop (mkF m 127 #[.val (.int p1), .val (.ref b101), .val (.int (3 : Int32)), .unset, .unset] []))
    refine Go.via (fun _ => XS.aloadN X135.here hx rfl (hb hby at_127) rfl rfl) ?_
    show Go p e below _ (T135.setTop (mkF m 128 #[.val (.int p1), .val (.ref b101), .val (.int (3 : Int32)), .unset, .unset] [(.ref b101)]))
    refine Go.via (fun _ => XS.iloadN X135.here hx rfl (hb hby at_128) rfl) ?_
    show Go p e below _ (T135.setTop (mkF m 129 #[.val (.int p1), .val (.ref b101), .val (.int (3 : Int32)), .unset, .unset] [(.int (3 : Int32)), (.ref b101)]))
    obtain ⟨cl151, Ar151, q151, S151, N151n, H151, G151⟩ := id V135
    have hin151 := inb_of (j := (3 : Int32)) S151 (by decide)
    have hat151 : cl151.slots[((3 : Int32) : Int32).toNatClampNeg]? = some (.ref w_NOT_HOLDER) := H151.at hin151 rfl
    refine Go.via (X135.aaload hx (j := (3 : Int32)) (v := (.ref w_NOT_HOLDER)) (by rw [e135]; exact Ar151.1) (State.isArrayOf_alike hZ.alike Ar151.2.1) rfl Ar151.2.2 hin151 hat151 (g := (mkF m 129 #[.val (.int p1), .val (.ref b101), .val (.int (3 : Int32)), .unset, .unset] [(.int (3 : Int32)), (.ref b101)])) rfl rfl (hb hby at_129)) ?_
    show Go p e below _ (T135.setTop (mkF m 130 #[.val (.int p1), .val (.ref b101), .val (.int (3 : Int32)), .unset, .unset] [(.ref w_NOT_HOLDER)]))
    refine Go.via (fun _ => XS.astoreN X135.here hx rfl (hb hby at_130) rfl rfl (l' := #[.val (.int p1), .val (.ref b101), .val (.int (3 : Int32)), .val (.ref w_NOT_HOLDER), .unset]) rfl) ?_
    show Go p e below _ (T135.setTop (mkF m 131 #[.val (.int p1), .val (.ref b101), .val (.int (3 : Int32)), .val (.ref w_NOT_HOLDER), .unset] []))
    refine Go.via (fun _ => XS.aloadN X135.here hx rfl (hb hby at_131) rfl rfl) ?_
    show Go p e below _ (T135.setTop (mkF m 132 #[.val (.int p1), .val (.ref b101), .val (.int (3 : Int32)), .val (.ref w_NOT_HOLDER), .unset] [(.ref w_NOT_HOLDER)]))
    obtain ⟨_, _, ⟨T152, L152, k152, n152⟩, -, X152, S152w, gr152, ⟨Lc152, hQ152, l152, y152, z152⟩, st152⟩ := callSS X135 hx (y := (⟨"com/example/timed_cap/timedcap/model/Decision", "denied", "(Lcom/example/timed_cap/timedcap/model/Reason;)Lcom/example/timed_cap/timedcap/model/Decision;"⟩ : MethodName)) hown (mvT hZ (hw _ (List.mem_of_getElem? (i := 39) rfl))) (mvT hZ (hw _ (List.mem_of_getElem? (i := 40) rfl))) (mvT hZ (hw _ (List.mem_of_getElem? (i := 41) rfl))) (mvT hZ (hw _ (List.mem_of_getElem? (i := 42) rfl))) (by decide) (backOfS (W := 0) (rmDen l Z a0 hw [] w_NOT_HOLDER h135 n0 Zs135 (E_NOT_HOLDER.ext O135.2)) hZ (hw _ (List.mem_of_getElem? (i := 42) rfl)) (hw _ (List.mem_of_getElem? (i := 41) rfl)) (by decide) (by decide)) (g := (mkF m 132 #[.val (.int p1), .val (.ref b101), .val (.int (3 : Int32)), .val (.ref w_NOT_HOLDER), .unset] [(.ref w_NOT_HOLDER)])) rfl (by rw [hml]; rfl) (argsL := [(.ref w_NOT_HOLDER)]) (rest := []) (lenOf pd_3 rfl) rfl (by show 2 * 0 + _ ≤ _; exact Nat.le_of_eq rfl) (hb hby at_132) (fun _ _ => ⟨rfl, e135, (by decide : 1 + 3 ≤ _), (by decide : 17 + 30 ≤ _)⟩)
    dsimp only [Pt.U, Pt.locs, Pt.cells, Pt.slots] at X152 l152 y152 z152 st152 hQ152 S152w gr152
    rw [l152, y152, z152] at X152
    replace X152 : Stand p l e _ _ m _ below meth c T152 _ 4 47 := X152
    obtain ⟨d152, rfl, N152q, K152q, gd152, ed152, fa152, fb152⟩ := hQ152
    have N152 := Fr.app N135 N152q
    refine Go.tr st152 ?_
    obtain ⟨X152r, hS152, hZ152, hown152⟩ := rebS hS0 (by rw [e135]; exact hk135) X152 S152w gr152 hZ hown
    have Zs152 : n0 ≤ T152.heap.size := Nat.le_trans Zs135 K152q.1
    have O152 : Old Z n0 T152.heap := O135.keep K152q all0
    have fV_b101_152 := V135.keep K152q nin0
    have g_d152 : n0 ≤ d152 := Nat.le_trans Zs135 gd152
    have ne_b101_d152 : b101 ≠ d152 := Nat.ne_of_lt (Nat.lt_of_lt_of_le V135.lt gd152)
    show Go p e below _ (T152.setTop (mkF m 135 #[.val (.int p1), .val (.ref b101), .val (.int (3 : Int32)), .val (.ref w_NOT_HOLDER), .unset] [(.ref d152)]))
    refine Go.via (fun _ => XS.astore X152r.here hx rfl (hb hby at_135) rfl rfl (l' := #[.val (.int p1), .val (.ref b101), .val (.int (3 : Int32)), .val (.ref w_NOT_HOLDER), .val (.ref d152)]) rfl) ?_
    show Go p e below _ (T152.setTop (mkF m 137 #[.val (.int p1), .val (.ref b101), .val (.int (3 : Int32)), .val (.ref w_NOT_HOLDER), .val (.ref d152)] []))
    refine Go.via (fun _ => XS.aload X152r.here hx rfl (hb hby at_137) rfl rfl) ?_
    show Go p e below _ (T152.setTop (mkF m 139 #[.val (.int p1), .val (.ref b101), .val (.int (3 : Int32)), .val (.ref w_NOT_HOLDER), .val (.ref d152)] [(.ref d152)]))
    refine Go.via (fun _ => XS.ifnonnullYes X152r.here hx rfl (pc0 := 139) (pc' := 144) rfl (hb hby at_139) rfl (by decide) (by decide)) ?_
    show Go p e below _ (T152.setTop (mkF m 144 #[.val (.int p1), .val (.ref b101), .val (.int (3 : Int32)), .val (.ref w_NOT_HOLDER), .val (.ref d152)] []))
    refine Go.via (fun _ => XS.aload X152r.here hx rfl (hb hby at_144) rfl rfl) ?_
    show Go p e below _ (T152.setTop (mkF m 146 #[.val (.int p1), .val (.ref b101), .val (.int (3 : Int32)), .val (.ref w_NOT_HOLDER), .val (.ref d152)] [(.ref d152)]))
    obtain ⟨cq153, kq153, q153a, q153b, q153c⟩ := isOf hZ152 rfl ed152
    obtain ⟨_, _, ⟨T153, L153, k153, n153⟩, -, X153, ⟨Lc153, hQ153, l153, y153, z153⟩, st153⟩ := X152r.virtualBack hx (y := (⟨"com/example/timed_cap/timedcap/model/Decision", "reason", "()Lcom/example/timed_cap/timedcap/model/Reason;"⟩ : MethodName)) (z := (⟨"com/example/timed_cap/timedcap/model/Decision", "reason", "()Lcom/example/timed_cap/timedcap/model/Reason;"⟩ : MethodName)) hown152 (mvT hZ152 (hw _ (List.mem_of_getElem? (i := 73) rfl))) (mvT hZ152 (hw _ (List.mem_of_getElem? (i := 74) rfl))) (notFace_of_selects (args := #[]) (mvT hZ152 (hw _ (List.mem_of_getElem? (i := 76) rfl)))) (mvT hZ152 (hw _ (List.mem_of_getElem? (i := 76) rfl))) (mvT hZ152 (hw _ (List.mem_of_getElem? (i := 75) rfl))) (by decide) (backOf (W := 0) (rm_reason l Z a0 hw [] d152 w_NOT_HOLDER T152.heap n0 Zs152 fa152 fb152) hZ152 (hw _ (List.mem_of_getElem? (i := 77) rfl)) (hw _ (List.mem_of_getElem? (i := 41) rfl)) (by decide) (by decide)) q153a q153c (g := (mkF m 146 #[.val (.int p1), .val (.ref b101), .val (.int (3 : Int32)), .val (.ref w_NOT_HOLDER), .val (.ref d152)] [(.ref d152)])) rfl (by rw [hml]; rfl) (Steps.refl _) (argsL := []) (rest := []) (lenOf pd_4 rfl) rfl (by show 2 * 0 + _ ≤ _; exact Nat.le_of_eq rfl) (hb hby at_146) (fun _ _ => ⟨rfl, rfl, (by decide : 4 + 0 ≤ _), (by decide : 47 + 0 ≤ _)⟩)
    dsimp only [Pt.U, Pt.locs, Pt.cells, Pt.slots] at X153 l153 y153 z153 st153 hQ153
    rw [l153, y153, z153] at X153
    replace X153 : Stand p l e _ _ m _ below meth c T153 _ 4 47 := X153
    obtain ⟨rfl, N153q, e153q⟩ := hQ153
    have N153 := Fr.app N152 N153q
    refine Go.tr st153 ?_
    show Go p e below _ (T153.setTop (mkF m 149 #[.val (.int p1), .val (.ref b101), .val (.int (3 : Int32)), .val (.ref w_NOT_HOLDER), .val (.ref d152)] [(.ref w_NOT_HOLDER)]))
    refine Go.via (fun _ => XS.aloadN X153.here hx rfl (hb hby at_149) rfl rfl) ?_
    show Go p e below _ (T153.setTop (mkF m 150 #[.val (.int p1), .val (.ref b101), .val (.int (3 : Int32)), .val (.ref w_NOT_HOLDER), .val (.ref d152)] [(.ref w_NOT_HOLDER), (.ref w_NOT_HOLDER)]))
    refine Go.via (fun _ => Jvm.RoadKit.acmp (g := (mkF m 150 #[.val (.int p1), .val (.ref b101), .val (.int (3 : Int32)), .val (.ref w_NOT_HOLDER), .val (.ref d152)] [(.ref w_NOT_HOLDER), (.ref w_NOT_HOLDER)])) X153 hx rfl rfl rfl (pc0 := 150) (pc' := 153) (same := true) rfl (hb hby at_150) rfl (decide_eq_true rfl) (by decide) (by decide)) ?_
    show Go p e below _ (T153.setTop (mkF m 153 #[.val (.int p1), .val (.ref b101), .val (.int (3 : Int32)), .val (.ref w_NOT_HOLDER), .val (.ref d152)] []))
    refine Go.via (fun _ => XS.aload X153.here hx rfl (hb hby at_153) rfl rfl) ?_
    show Go p e below _ (T153.setTop (mkF m 155 #[.val (.int p1), .val (.ref b101), .val (.int (3 : Int32)), .val (.ref w_NOT_HOLDER), .val (.ref d152)] [(.ref d152)]))
    obtain ⟨cq154, kq154, q154a, q154b, q154c⟩ := isOf hZ152 e153q ed152
    obtain ⟨_, _, ⟨T154, L154, k154, n154⟩, -, X154, ⟨Lc154, hQ154, l154, y154, z154⟩, st154⟩ := X153.virtualBack hx (y := (⟨"com/example/timed_cap/timedcap/model/Decision", "reached", "()Lcom/example/timed_cap/timedcap/model/Reference;"⟩ : MethodName)) (z := (⟨"com/example/timed_cap/timedcap/model/Decision", "reached", "()Lcom/example/timed_cap/timedcap/model/Reference;"⟩ : MethodName)) hown152 (mvT hZ152 (hw _ (List.mem_of_getElem? (i := 78) rfl))) (mvT hZ152 (hw _ (List.mem_of_getElem? (i := 79) rfl))) (notFace_of_selects (args := #[]) (mvT hZ152 (hw _ (List.mem_of_getElem? (i := 81) rfl)))) (mvT hZ152 (hw _ (List.mem_of_getElem? (i := 81) rfl))) (mvT hZ152 (hw _ (List.mem_of_getElem? (i := 80) rfl))) (by decide) (backOf (W := 0) (rm_reached l Z a0 hw [] d152 w_NOT_HOLDER T152.heap n0 Zs152 fa152 fb152) hZ152 (hw _ (List.mem_of_getElem? (i := 82) rfl)) (hw _ (List.mem_of_getElem? (i := 41) rfl)) (by decide) (by decide)) q154a q154c (g := (mkF m 155 #[.val (.int p1), .val (.ref b101), .val (.int (3 : Int32)), .val (.ref w_NOT_HOLDER), .val (.ref d152)] [(.ref d152)])) rfl (by rw [hml]; rfl) (Steps.refl _) (argsL := []) (rest := []) (lenOf pd_5 rfl) rfl (by show 2 * 0 + _ ≤ _; exact Nat.le_of_eq rfl) (hb hby at_155) (fun _ _ => ⟨rfl, e153q, (by decide : 4 + 0 ≤ _), (by decide : 47 + 0 ≤ _)⟩)
    dsimp only [Pt.U, Pt.locs, Pt.cells, Pt.slots] at X154 l154 y154 z154 st154 hQ154
    rw [l154, y154, z154] at X154
    replace X154 : Stand p l e _ _ m _ below meth c T154 _ 4 47 := X154
    obtain ⟨rfl, N154q, e154q⟩ := hQ154
    have N154 := Fr.app N153 N154q
    refine Go.tr st154 ?_
    show Go p e below _ (T154.setTop (mkF m 158 #[.val (.int p1), .val (.ref b101), .val (.int (3 : Int32)), .val (.ref w_NOT_HOLDER), .val (.ref d152)] [.null]))
    refine Go.via (fun _ => XS.ifnonnullNo X154.here hx rfl (hb hby at_158) rfl) ?_
    show Go p e below _ (T154.setTop (mkF m 161 #[.val (.int p1), .val (.ref b101), .val (.int (3 : Int32)), .val (.ref w_NOT_HOLDER), .val (.ref d152)] []))
    refine Go.via (fun _ => XS.aload X154.here hx rfl (hb hby at_161) rfl rfl) ?_
    show Go p e below _ (T154.setTop (mkF m 163 #[.val (.int p1), .val (.ref b101), .val (.int (3 : Int32)), .val (.ref w_NOT_HOLDER), .val (.ref d152)] [(.ref d152)]))
    obtain ⟨cq155, kq155, q155a, q155b, q155c⟩ := isOf hZ152 e154q ed152
    obtain ⟨_, _, ⟨T155, L155, k155, n155⟩, -, X155, ⟨Lc155, hQ155, l155, y155, z155⟩, st155⟩ := X154.virtualBack hx (y := (⟨"com/example/timed_cap/timedcap/model/Decision", "isGranted", "()Z"⟩ : MethodName)) (z := (⟨"com/example/timed_cap/timedcap/model/Decision", "isGranted", "()Z"⟩ : MethodName)) hown152 (mvT hZ152 (hw _ (List.mem_of_getElem? (i := 83) rfl))) (mvT hZ152 (hw _ (List.mem_of_getElem? (i := 84) rfl))) (notFace_of_selects (args := #[]) (mvT hZ152 (hw _ (List.mem_of_getElem? (i := 86) rfl)))) (mvT hZ152 (hw _ (List.mem_of_getElem? (i := 86) rfl))) (mvT hZ152 (hw _ (List.mem_of_getElem? (i := 85) rfl))) (by decide) (backOf (W := 0) (rm_isGranted l Z a0 hw [] d152 w_NOT_HOLDER T152.heap n0 Zs152 fa152 fb152) hZ152 (hw _ (List.mem_of_getElem? (i := 87) rfl)) (hw _ (List.mem_of_getElem? (i := 41) rfl)) (by decide) (by decide)) q155a q155c (g := (mkF m 163 #[.val (.int p1), .val (.ref b101), .val (.int (3 : Int32)), .val (.ref w_NOT_HOLDER), .val (.ref d152)] [(.ref d152)])) rfl (by rw [hml]; rfl) (Steps.refl _) (argsL := []) (rest := []) (lenOf pd_6 rfl) rfl (by show 2 * 0 + _ ≤ _; exact Nat.le_of_eq rfl) (hb hby at_163) (fun _ _ => ⟨rfl, e154q, (by decide : 4 + 0 ≤ _), (by decide : 47 + 0 ≤ _)⟩)
    dsimp only [Pt.U, Pt.locs, Pt.cells, Pt.slots] at X155 l155 y155 z155 st155 hQ155
    rw [l155, y155, z155] at X155
    replace X155 : Stand p l e _ _ m _ below meth c T155 _ 4 47 := X155
    obtain ⟨rfl, N155q, e155q⟩ := hQ155
    have N155 := Fr.app N154 N155q
    refine Go.tr st155 ?_
    show Go p e below _ (T155.setTop (mkF m 166 #[.val (.int p1), .val (.ref b101), .val (.int (3 : Int32)), .val (.ref w_NOT_HOLDER), .val (.ref d152)] [(.int (0 : Int32))]))
    refine Go.via (fun _ => XS.ifNo X155.here hx rfl (hb hby at_166) rfl (by decide)) ?_
    show Go p e below _ (T155.setTop (mkF m 169 #[.val (.int p1), .val (.ref b101), .val (.int (3 : Int32)), .val (.ref w_NOT_HOLDER), .val (.ref d152)] []))
    refine Go.via (fun _ => XS.iconst X155.here hx rfl (hb hby at_169)) ?_
    show Go p e below _ (T155.setTop (mkF m 170 #[.val (.int p1), .val (.ref b101), .val (.int (3 : Int32)), .val (.ref w_NOT_HOLDER), .val (.ref d152)] [(.int (1 : Int32))]))
    refine Go.via (fun _ => XS.goto X155.here hx rfl (pc0 := 170) (pc' := 174) rfl (hb hby at_170) (by decide) (by decide)) ?_
    show Go p e below _ (T155.setTop (mkF m 174 #[.val (.int p1), .val (.ref b101), .val (.int (3 : Int32)), .val (.ref w_NOT_HOLDER), .val (.ref d152)] [(.int (1 : Int32))]))
    exact own_retNW X155 hS152 (by rw [e155q]; exact (Nat.le_refl _)) hx hlk (t := .boolean) Bd.returns (by simp) (hb hby at_174) (by show Q0 Z p1 w_MALFORMED w_ALTERED w_RESEALED w_NOT_HOLDER w_REVOKED w_NO_SUCH_VERSION w_NO_VERSION_YET w_NOT_YET_EFFECTIVE w_EXPIRED w_LEASE_ENDED w_OUTSIDE_SCHEDULE w_RIGHT_NOT_HELD w_VERSION_EXISTS w_NOT_A_HISTORY_CAPABILITY w_WIDENS_PARENT w_NOT_AN_ANCESTOR w_NO_SUCH_LEASE h0 n0 _ T155.heap _; rw [e155q]; exact ⟨rfl, N155⟩) (by decide) (by decide)
  ·
    show Go p e below _ (T135.setTop (mkF m 126 #[.val (.int p1), .val (.ref b101), .unset, .unset, .unset] [(.int (4 : Int32))]))
    refine Go.via (fun _ => XS.istoreN X135.here hx rfl (hb hby at_126) rfl (l' := #[.val (.int p1), .val (.ref b101), .val (.int (4 : Int32)), .unset, .unset]) rfl) ?_
    show Go p e below _ (T135.setTop (mkF m 127 #[.val (.int p1), .val (.ref b101), .val (.int (4 : Int32)), .unset, .unset] []))
    refine Go.via (fun _ => XS.aloadN X135.here hx rfl (hb hby at_127) rfl rfl) ?_
    show Go p e below _ (T135.setTop (mkF m 128 #[.val (.int p1), .val (.ref b101), .val (.int (4 : Int32)), .unset, .unset] [(.ref b101)]))
    refine Go.via (fun _ => XS.iloadN X135.here hx rfl (hb hby at_128) rfl) ?_
    show Go p e below _ (T135.setTop (mkF m 129 #[.val (.int p1), .val (.ref b101), .val (.int (4 : Int32)), .unset, .unset] [(.int (4 : Int32)), (.ref b101)]))
    obtain ⟨cl156, Ar156, q156, S156, N156n, H156, G156⟩ := id V135
    have hin156 := inb_of (j := (4 : Int32)) S156 (by decide)
    have hat156 : cl156.slots[((4 : Int32) : Int32).toNatClampNeg]? = some (.ref w_REVOKED) := H156.at hin156 rfl
    refine Go.via (X135.aaload hx (j := (4 : Int32)) (v := (.ref w_REVOKED)) (by rw [e135]; exact Ar156.1) (State.isArrayOf_alike hZ.alike Ar156.2.1) rfl Ar156.2.2 hin156 hat156 (g := (mkF m 129 #[.val (.int p1), .val (.ref b101), .val (.int (4 : Int32)), .unset, .unset] [(.int (4 : Int32)), (.ref b101)])) rfl rfl (hb hby at_129)) ?_
    show Go p e below _ (T135.setTop (mkF m 130 #[.val (.int p1), .val (.ref b101), .val (.int (4 : Int32)), .unset, .unset] [(.ref w_REVOKED)]))
    refine Go.via (fun _ => XS.astoreN X135.here hx rfl (hb hby at_130) rfl rfl (l' := #[.val (.int p1), .val (.ref b101), .val (.int (4 : Int32)), .val (.ref w_REVOKED), .unset]) rfl) ?_
    show Go p e below _ (T135.setTop (mkF m 131 #[.val (.int p1), .val (.ref b101), .val (.int (4 : Int32)), .val (.ref w_REVOKED), .unset] []))
    refine Go.via (fun _ => XS.aloadN X135.here hx rfl (hb hby at_131) rfl rfl) ?_
    show Go p e below _ (T135.setTop (mkF m 132 #[.val (.int p1), .val (.ref b101), .val (.int (4 : Int32)), .val (.ref w_REVOKED), .unset] [(.ref w_REVOKED)]))
    obtain ⟨_, _, ⟨T157, L157, k157, n157⟩, -, X157, S157w, gr157, ⟨Lc157, hQ157, l157, y157, z157⟩, st157⟩ := callSS X135 hx (y := (⟨"com/example/timed_cap/timedcap/model/Decision", "denied", "(Lcom/example/timed_cap/timedcap/model/Reason;)Lcom/example/timed_cap/timedcap/model/Decision;"⟩ : MethodName)) hown (mvT hZ (hw _ (List.mem_of_getElem? (i := 39) rfl))) (mvT hZ (hw _ (List.mem_of_getElem? (i := 40) rfl))) (mvT hZ (hw _ (List.mem_of_getElem? (i := 41) rfl))) (mvT hZ (hw _ (List.mem_of_getElem? (i := 42) rfl))) (by decide) (backOfS (W := 0) (rmDen l Z a0 hw [] w_REVOKED h135 n0 Zs135 (E_REVOKED.ext O135.2)) hZ (hw _ (List.mem_of_getElem? (i := 42) rfl)) (hw _ (List.mem_of_getElem? (i := 41) rfl)) (by decide) (by decide)) (g := (mkF m 132 #[.val (.int p1), .val (.ref b101), .val (.int (4 : Int32)), .val (.ref w_REVOKED), .unset] [(.ref w_REVOKED)])) rfl (by rw [hml]; rfl) (argsL := [(.ref w_REVOKED)]) (rest := []) (lenOf pd_3 rfl) rfl (by show 2 * 0 + _ ≤ _; exact Nat.le_of_eq rfl) (hb hby at_132) (fun _ _ => ⟨rfl, e135, (by decide : 1 + 3 ≤ _), (by decide : 17 + 30 ≤ _)⟩)
    dsimp only [Pt.U, Pt.locs, Pt.cells, Pt.slots] at X157 l157 y157 z157 st157 hQ157 S157w gr157
    rw [l157, y157, z157] at X157
    replace X157 : Stand p l e _ _ m _ below meth c T157 _ 4 47 := X157
    obtain ⟨d157, rfl, N157q, K157q, gd157, ed157, fa157, fb157⟩ := hQ157
    have N157 := Fr.app N135 N157q
    refine Go.tr st157 ?_
    obtain ⟨X157r, hS157, hZ157, hown157⟩ := rebS hS0 (by rw [e135]; exact hk135) X157 S157w gr157 hZ hown
    have Zs157 : n0 ≤ T157.heap.size := Nat.le_trans Zs135 K157q.1
    have O157 : Old Z n0 T157.heap := O135.keep K157q all0
    have fV_b101_157 := V135.keep K157q nin0
    have g_d157 : n0 ≤ d157 := Nat.le_trans Zs135 gd157
    have ne_b101_d157 : b101 ≠ d157 := Nat.ne_of_lt (Nat.lt_of_lt_of_le V135.lt gd157)
    show Go p e below _ (T157.setTop (mkF m 135 #[.val (.int p1), .val (.ref b101), .val (.int (4 : Int32)), .val (.ref w_REVOKED), .unset] [(.ref d157)]))
    refine Go.via (fun _ => XS.astore X157r.here hx rfl (hb hby at_135) rfl rfl (l' := #[.val (.int p1), .val (.ref b101), .val (.int (4 : Int32)), .val (.ref w_REVOKED), .val (.ref d157)]) rfl) ?_
    show Go p e below _ (T157.setTop (mkF m 137 #[.val (.int p1), .val (.ref b101), .val (.int (4 : Int32)), .val (.ref w_REVOKED), .val (.ref d157)] []))
    refine Go.via (fun _ => XS.aload X157r.here hx rfl (hb hby at_137) rfl rfl) ?_
    show Go p e below _ (T157.setTop (mkF m 139 #[.val (.int p1), .val (.ref b101), .val (.int (4 : Int32)), .val (.ref w_REVOKED), .val (.ref d157)] [(.ref d157)]))
    refine Go.via (fun _ => XS.ifnonnullYes X157r.here hx rfl (pc0 := 139) (pc' := 144) rfl (hb hby at_139) rfl (by decide) (by decide)) ?_
    show Go p e below _ (T157.setTop (mkF m 144 #[.val (.int p1), .val (.ref b101), .val (.int (4 : Int32)), .val (.ref w_REVOKED), .val (.ref d157)] []))
    refine Go.via (fun _ => XS.aload X157r.here hx rfl (hb hby at_144) rfl rfl) ?_
    show Go p e below _ (T157.setTop (mkF m 146 #[.val (.int p1), .val (.ref b101), .val (.int (4 : Int32)), .val (.ref w_REVOKED), .val (.ref d157)] [(.ref d157)]))
    obtain ⟨cq158, kq158, q158a, q158b, q158c⟩ := isOf hZ157 rfl ed157
    obtain ⟨_, _, ⟨T158, L158, k158, n158⟩, -, X158, ⟨Lc158, hQ158, l158, y158, z158⟩, st158⟩ := X157r.virtualBack hx (y := (⟨"com/example/timed_cap/timedcap/model/Decision", "reason", "()Lcom/example/timed_cap/timedcap/model/Reason;"⟩ : MethodName)) (z := (⟨"com/example/timed_cap/timedcap/model/Decision", "reason", "()Lcom/example/timed_cap/timedcap/model/Reason;"⟩ : MethodName)) hown157 (mvT hZ157 (hw _ (List.mem_of_getElem? (i := 73) rfl))) (mvT hZ157 (hw _ (List.mem_of_getElem? (i := 74) rfl))) (notFace_of_selects (args := #[]) (mvT hZ157 (hw _ (List.mem_of_getElem? (i := 76) rfl)))) (mvT hZ157 (hw _ (List.mem_of_getElem? (i := 76) rfl))) (mvT hZ157 (hw _ (List.mem_of_getElem? (i := 75) rfl))) (by decide) (backOf (W := 0) (rm_reason l Z a0 hw [] d157 w_REVOKED T157.heap n0 Zs157 fa157 fb157) hZ157 (hw _ (List.mem_of_getElem? (i := 77) rfl)) (hw _ (List.mem_of_getElem? (i := 41) rfl)) (by decide) (by decide)) q158a q158c (g := (mkF m 146 #[.val (.int p1), .val (.ref b101), .val (.int (4 : Int32)), .val (.ref w_REVOKED), .val (.ref d157)] [(.ref d157)])) rfl (by rw [hml]; rfl) (Steps.refl _) (argsL := []) (rest := []) (lenOf pd_4 rfl) rfl (by show 2 * 0 + _ ≤ _; exact Nat.le_of_eq rfl) (hb hby at_146) (fun _ _ => ⟨rfl, rfl, (by decide : 4 + 0 ≤ _), (by decide : 47 + 0 ≤ _)⟩)
    dsimp only [Pt.U, Pt.locs, Pt.cells, Pt.slots] at X158 l158 y158 z158 st158 hQ158
    rw [l158, y158, z158] at X158
    replace X158 : Stand p l e _ _ m _ below meth c T158 _ 4 47 := X158
    obtain ⟨rfl, N158q, e158q⟩ := hQ158
    have N158 := Fr.app N157 N158q
    refine Go.tr st158 ?_
    show Go p e below _ (T158.setTop (mkF m 149 #[.val (.int p1), .val (.ref b101), .val (.int (4 : Int32)), .val (.ref w_REVOKED), .val (.ref d157)] [(.ref w_REVOKED)]))
    refine Go.via (fun _ => XS.aloadN X158.here hx rfl (hb hby at_149) rfl rfl) ?_
    show Go p e below _ (T158.setTop (mkF m 150 #[.val (.int p1), .val (.ref b101), .val (.int (4 : Int32)), .val (.ref w_REVOKED), .val (.ref d157)] [(.ref w_REVOKED), (.ref w_REVOKED)]))
    refine Go.via (fun _ => Jvm.RoadKit.acmp (g := (mkF m 150 #[.val (.int p1), .val (.ref b101), .val (.int (4 : Int32)), .val (.ref w_REVOKED), .val (.ref d157)] [(.ref w_REVOKED), (.ref w_REVOKED)])) X158 hx rfl rfl rfl (pc0 := 150) (pc' := 153) (same := true) rfl (hb hby at_150) rfl (decide_eq_true rfl) (by decide) (by decide)) ?_
    show Go p e below _ (T158.setTop (mkF m 153 #[.val (.int p1), .val (.ref b101), .val (.int (4 : Int32)), .val (.ref w_REVOKED), .val (.ref d157)] []))
    refine Go.via (fun _ => XS.aload X158.here hx rfl (hb hby at_153) rfl rfl) ?_
    show Go p e below _ (T158.setTop (mkF m 155 #[.val (.int p1), .val (.ref b101), .val (.int (4 : Int32)), .val (.ref w_REVOKED), .val (.ref d157)] [(.ref d157)]))
    obtain ⟨cq159, kq159, q159a, q159b, q159c⟩ := isOf hZ157 e158q ed157
    obtain ⟨_, _, ⟨T159, L159, k159, n159⟩, -, X159, ⟨Lc159, hQ159, l159, y159, z159⟩, st159⟩ := X158.virtualBack hx (y := (⟨"com/example/timed_cap/timedcap/model/Decision", "reached", "()Lcom/example/timed_cap/timedcap/model/Reference;"⟩ : MethodName)) (z := (⟨"com/example/timed_cap/timedcap/model/Decision", "reached", "()Lcom/example/timed_cap/timedcap/model/Reference;"⟩ : MethodName)) hown157 (mvT hZ157 (hw _ (List.mem_of_getElem? (i := 78) rfl))) (mvT hZ157 (hw _ (List.mem_of_getElem? (i := 79) rfl))) (notFace_of_selects (args := #[]) (mvT hZ157 (hw _ (List.mem_of_getElem? (i := 81) rfl)))) (mvT hZ157 (hw _ (List.mem_of_getElem? (i := 81) rfl))) (mvT hZ157 (hw _ (List.mem_of_getElem? (i := 80) rfl))) (by decide) (backOf (W := 0) (rm_reached l Z a0 hw [] d157 w_REVOKED T157.heap n0 Zs157 fa157 fb157) hZ157 (hw _ (List.mem_of_getElem? (i := 82) rfl)) (hw _ (List.mem_of_getElem? (i := 41) rfl)) (by decide) (by decide)) q159a q159c (g := (mkF m 155 #[.val (.int p1), .val (.ref b101), .val (.int (4 : Int32)), .val (.ref w_REVOKED), .val (.ref d157)] [(.ref d157)])) rfl (by rw [hml]; rfl) (Steps.refl _) (argsL := []) (rest := []) (lenOf pd_5 rfl) rfl (by show 2 * 0 + _ ≤ _; exact Nat.le_of_eq rfl) (hb hby at_155) (fun _ _ => ⟨rfl, e158q, (by decide : 4 + 0 ≤ _), (by decide : 47 + 0 ≤ _)⟩)
    dsimp only [Pt.U, Pt.locs, Pt.cells, Pt.slots] at X159 l159 y159 z159 st159 hQ159
    rw [l159, y159, z159] at X159
    replace X159 : Stand p l e _ _ m _ below meth c T159 _ 4 47 := X159
    obtain ⟨rfl, N159q, e159q⟩ := hQ159
    have N159 := Fr.app N158 N159q
    refine Go.tr st159 ?_
    show Go p e below _ (T159.setTop (mkF m 158 #[.val (.int p1), .val (.ref b101), .val (.int (4 : Int32)), .val (.ref w_REVOKED), .val (.ref d157)] [.null]))
    refine Go.via (fun _ => XS.ifnonnullNo X159.here hx rfl (hb hby at_158) rfl) ?_
    show Go p e below _ (T159.setTop (mkF m 161 #[.val (.int p1), .val (.ref b101), .val (.int (4 : Int32)), .val (.ref w_REVOKED), .val (.ref d157)] []))
    refine Go.via (fun _ => XS.aload X159.here hx rfl (hb hby at_161) rfl rfl) ?_
    show Go p e below _ (T159.setTop (mkF m 163 #[.val (.int p1), .val (.ref b101), .val (.int (4 : Int32)), .val (.ref w_REVOKED), .val (.ref d157)] [(.ref d157)]))
    obtain ⟨cq160, kq160, q160a, q160b, q160c⟩ := isOf hZ157 e159q ed157
    obtain ⟨_, _, ⟨T160, L160, k160, n160⟩, -, X160, ⟨Lc160, hQ160, l160, y160, z160⟩, st160⟩ := X159.virtualBack hx (y := (⟨"com/example/timed_cap/timedcap/model/Decision", "isGranted", "()Z"⟩ : MethodName)) (z := (⟨"com/example/timed_cap/timedcap/model/Decision", "isGranted", "()Z"⟩ : MethodName)) hown157 (mvT hZ157 (hw _ (List.mem_of_getElem? (i := 83) rfl))) (mvT hZ157 (hw _ (List.mem_of_getElem? (i := 84) rfl))) (notFace_of_selects (args := #[]) (mvT hZ157 (hw _ (List.mem_of_getElem? (i := 86) rfl)))) (mvT hZ157 (hw _ (List.mem_of_getElem? (i := 86) rfl))) (mvT hZ157 (hw _ (List.mem_of_getElem? (i := 85) rfl))) (by decide) (backOf (W := 0) (rm_isGranted l Z a0 hw [] d157 w_REVOKED T157.heap n0 Zs157 fa157 fb157) hZ157 (hw _ (List.mem_of_getElem? (i := 87) rfl)) (hw _ (List.mem_of_getElem? (i := 41) rfl)) (by decide) (by decide)) q160a q160c (g := (mkF m 163 #[.val (.int p1), .val (.ref b101), .val (.int (4 : Int32)), .val (.ref w_REVOKED), .val (.ref d157)] [(.ref d157)])) rfl (by rw [hml]; rfl) (Steps.refl _) (argsL := []) (rest := []) (lenOf pd_6 rfl) rfl (by show 2 * 0 + _ ≤ _; exact Nat.le_of_eq rfl) (hb hby at_163) (fun _ _ => ⟨rfl, e159q, (by decide : 4 + 0 ≤ _), (by decide : 47 + 0 ≤ _)⟩)
    dsimp only [Pt.U, Pt.locs, Pt.cells, Pt.slots] at X160 l160 y160 z160 st160 hQ160
    rw [l160, y160, z160] at X160
    replace X160 : Stand p l e _ _ m _ below meth c T160 _ 4 47 := X160
    obtain ⟨rfl, N160q, e160q⟩ := hQ160
    have N160 := Fr.app N159 N160q
    refine Go.tr st160 ?_
    show Go p e below _ (T160.setTop (mkF m 166 #[.val (.int p1), .val (.ref b101), .val (.int (4 : Int32)), .val (.ref w_REVOKED), .val (.ref d157)] [(.int (0 : Int32))]))
    refine Go.via (fun _ => XS.ifNo X160.here hx rfl (hb hby at_166) rfl (by decide)) ?_
    show Go p e below _ (T160.setTop (mkF m 169 #[.val (.int p1), .val (.ref b101), .val (.int (4 : Int32)), .val (.ref w_REVOKED), .val (.ref d157)] []))
    refine Go.via (fun _ => XS.iconst X160.here hx rfl (hb hby at_169)) ?_
    show Go p e below _ (T160.setTop (mkF m 170 #[.val (.int p1), .val (.ref b101), .val (.int (4 : Int32)), .val (.ref w_REVOKED), .val (.ref d157)] [(.int (1 : Int32))]))
    refine Go.via (fun _ => XS.goto X160.here hx rfl (pc0 := 170) (pc' := 174) rfl (hb hby at_170) (by decide) (by decide)) ?_
    show Go p e below _ (T160.setTop (mkF m 174 #[.val (.int p1), .val (.ref b101), .val (.int (4 : Int32)), .val (.ref w_REVOKED), .val (.ref d157)] [(.int (1 : Int32))]))
    exact own_retNW X160 hS157 (by rw [e160q]; exact (Nat.le_refl _)) hx hlk (t := .boolean) Bd.returns (by simp) (hb hby at_174) (by show Q0 Z p1 w_MALFORMED w_ALTERED w_RESEALED w_NOT_HOLDER w_REVOKED w_NO_SUCH_VERSION w_NO_VERSION_YET w_NOT_YET_EFFECTIVE w_EXPIRED w_LEASE_ENDED w_OUTSIDE_SCHEDULE w_RIGHT_NOT_HELD w_VERSION_EXISTS w_NOT_A_HISTORY_CAPABILITY w_WIDENS_PARENT w_NOT_AN_ANCESTOR w_NO_SUCH_LEASE h0 n0 _ T160.heap _; rw [e160q]; exact ⟨rfl, N160⟩) (by decide) (by decide)
  ·
    show Go p e below _ (T135.setTop (mkF m 126 #[.val (.int p1), .val (.ref b101), .unset, .unset, .unset] [(.int (5 : Int32))]))
    refine Go.via (fun _ => XS.istoreN X135.here hx rfl (hb hby at_126) rfl (l' := #[.val (.int p1), .val (.ref b101), .val (.int (5 : Int32)), .unset, .unset]) rfl) ?_
    show Go p e below _ (T135.setTop (mkF m 127 #[.val (.int p1), .val (.ref b101), .val (.int (5 : Int32)), .unset, .unset] []))
    refine Go.via (fun _ => XS.aloadN X135.here hx rfl (hb hby at_127) rfl rfl) ?_
    show Go p e below _ (T135.setTop (mkF m 128 #[.val (.int p1), .val (.ref b101), .val (.int (5 : Int32)), .unset, .unset] [(.ref b101)]))
    refine Go.via (fun _ => XS.iloadN X135.here hx rfl (hb hby at_128) rfl) ?_
    show Go p e below _ (T135.setTop (mkF m 129 #[.val (.int p1), .val (.ref b101), .val (.int (5 : Int32)), .unset, .unset] [(.int (5 : Int32)), (.ref b101)]))
    obtain ⟨cl161, Ar161, q161, S161, N161n, H161, G161⟩ := id V135
    have hin161 := inb_of (j := (5 : Int32)) S161 (by decide)
    have hat161 : cl161.slots[((5 : Int32) : Int32).toNatClampNeg]? = some (.ref w_NO_SUCH_VERSION) := H161.at hin161 rfl
    refine Go.via (X135.aaload hx (j := (5 : Int32)) (v := (.ref w_NO_SUCH_VERSION)) (by rw [e135]; exact Ar161.1) (State.isArrayOf_alike hZ.alike Ar161.2.1) rfl Ar161.2.2 hin161 hat161 (g := (mkF m 129 #[.val (.int p1), .val (.ref b101), .val (.int (5 : Int32)), .unset, .unset] [(.int (5 : Int32)), (.ref b101)])) rfl rfl (hb hby at_129)) ?_
    show Go p e below _ (T135.setTop (mkF m 130 #[.val (.int p1), .val (.ref b101), .val (.int (5 : Int32)), .unset, .unset] [(.ref w_NO_SUCH_VERSION)]))
    refine Go.via (fun _ => XS.astoreN X135.here hx rfl (hb hby at_130) rfl rfl (l' := #[.val (.int p1), .val (.ref b101), .val (.int (5 : Int32)), .val (.ref w_NO_SUCH_VERSION), .unset]) rfl) ?_
    show Go p e below _ (T135.setTop (mkF m 131 #[.val (.int p1), .val (.ref b101), .val (.int (5 : Int32)), .val (.ref w_NO_SUCH_VERSION), .unset] []))
    refine Go.via (fun _ => XS.aloadN X135.here hx rfl (hb hby at_131) rfl rfl) ?_
    show Go p e below _ (T135.setTop (mkF m 132 #[.val (.int p1), .val (.ref b101), .val (.int (5 : Int32)), .val (.ref w_NO_SUCH_VERSION), .unset] [(.ref w_NO_SUCH_VERSION)]))
    obtain ⟨_, _, ⟨T162, L162, k162, n162⟩, -, X162, S162w, gr162, ⟨Lc162, hQ162, l162, y162, z162⟩, st162⟩ := callSS X135 hx (y := (⟨"com/example/timed_cap/timedcap/model/Decision", "denied", "(Lcom/example/timed_cap/timedcap/model/Reason;)Lcom/example/timed_cap/timedcap/model/Decision;"⟩ : MethodName)) hown (mvT hZ (hw _ (List.mem_of_getElem? (i := 39) rfl))) (mvT hZ (hw _ (List.mem_of_getElem? (i := 40) rfl))) (mvT hZ (hw _ (List.mem_of_getElem? (i := 41) rfl))) (mvT hZ (hw _ (List.mem_of_getElem? (i := 42) rfl))) (by decide) (backOfS (W := 0) (rmDen l Z a0 hw [] w_NO_SUCH_VERSION h135 n0 Zs135 (E_NO_SUCH_VERSION.ext O135.2)) hZ (hw _ (List.mem_of_getElem? (i := 42) rfl)) (hw _ (List.mem_of_getElem? (i := 41) rfl)) (by decide) (by decide)) (g := (mkF m 132 #[.val (.int p1), .val (.ref b101), .val (.int (5 : Int32)), .val (.ref w_NO_SUCH_VERSION), .unset] [(.ref w_NO_SUCH_VERSION)])) rfl (by rw [hml]; rfl) (argsL := [(.ref w_NO_SUCH_VERSION)]) (rest := []) (lenOf pd_3 rfl) rfl (by show 2 * 0 + _ ≤ _; exact Nat.le_of_eq rfl) (hb hby at_132) (fun _ _ => ⟨rfl, e135, (by decide : 1 + 3 ≤ _), (by decide : 17 + 30 ≤ _)⟩)
    dsimp only [Pt.U, Pt.locs, Pt.cells, Pt.slots] at X162 l162 y162 z162 st162 hQ162 S162w gr162
    rw [l162, y162, z162] at X162
    replace X162 : Stand p l e _ _ m _ below meth c T162 _ 4 47 := X162
    obtain ⟨d162, rfl, N162q, K162q, gd162, ed162, fa162, fb162⟩ := hQ162
    have N162 := Fr.app N135 N162q
    refine Go.tr st162 ?_
    obtain ⟨X162r, hS162, hZ162, hown162⟩ := rebS hS0 (by rw [e135]; exact hk135) X162 S162w gr162 hZ hown
    have Zs162 : n0 ≤ T162.heap.size := Nat.le_trans Zs135 K162q.1
    have O162 : Old Z n0 T162.heap := O135.keep K162q all0
    have fV_b101_162 := V135.keep K162q nin0
    have g_d162 : n0 ≤ d162 := Nat.le_trans Zs135 gd162
    have ne_b101_d162 : b101 ≠ d162 := Nat.ne_of_lt (Nat.lt_of_lt_of_le V135.lt gd162)
    show Go p e below _ (T162.setTop (mkF m 135 #[.val (.int p1), .val (.ref b101), .val (.int (5 : Int32)), .val (.ref w_NO_SUCH_VERSION), .unset] [(.ref d162)]))
    refine Go.via (fun _ => XS.astore X162r.here hx rfl (hb hby at_135) rfl rfl (l' := #[.val (.int p1), .val (.ref b101), .val (.int (5 : Int32)), .val (.ref w_NO_SUCH_VERSION), .val (.ref d162)]) rfl) ?_
    show Go p e below _ (T162.setTop (mkF m 137 #[.val (.int p1), .val (.ref b101), .val (.int (5 : Int32)), .val (.ref w_NO_SUCH_VERSION), .val (.ref d162)] []))
    refine Go.via (fun _ => XS.aload X162r.here hx rfl (hb hby at_137) rfl rfl) ?_
    show Go p e below _ (T162.setTop (mkF m 139 #[.val (.int p1), .val (.ref b101), .val (.int (5 : Int32)), .val (.ref w_NO_SUCH_VERSION), .val (.ref d162)] [(.ref d162)]))
    refine Go.via (fun _ => XS.ifnonnullYes X162r.here hx rfl (pc0 := 139) (pc' := 144) rfl (hb hby at_139) rfl (by decide) (by decide)) ?_
    show Go p e below _ (T162.setTop (mkF m 144 #[.val (.int p1), .val (.ref b101), .val (.int (5 : Int32)), .val (.ref w_NO_SUCH_VERSION), .val (.ref d162)] []))
    refine Go.via (fun _ => XS.aload X162r.here hx rfl (hb hby at_144) rfl rfl) ?_
    show Go p e below _ (T162.setTop (mkF m 146 #[.val (.int p1), .val (.ref b101), .val (.int (5 : Int32)), .val (.ref w_NO_SUCH_VERSION), .val (.ref d162)] [(.ref d162)]))
    obtain ⟨cq163, kq163, q163a, q163b, q163c⟩ := isOf hZ162 rfl ed162
    obtain ⟨_, _, ⟨T163, L163, k163, n163⟩, -, X163, ⟨Lc163, hQ163, l163, y163, z163⟩, st163⟩ := X162r.virtualBack hx (y := (⟨"com/example/timed_cap/timedcap/model/Decision", "reason", "()Lcom/example/timed_cap/timedcap/model/Reason;"⟩ : MethodName)) (z := (⟨"com/example/timed_cap/timedcap/model/Decision", "reason", "()Lcom/example/timed_cap/timedcap/model/Reason;"⟩ : MethodName)) hown162 (mvT hZ162 (hw _ (List.mem_of_getElem? (i := 73) rfl))) (mvT hZ162 (hw _ (List.mem_of_getElem? (i := 74) rfl))) (notFace_of_selects (args := #[]) (mvT hZ162 (hw _ (List.mem_of_getElem? (i := 76) rfl)))) (mvT hZ162 (hw _ (List.mem_of_getElem? (i := 76) rfl))) (mvT hZ162 (hw _ (List.mem_of_getElem? (i := 75) rfl))) (by decide) (backOf (W := 0) (rm_reason l Z a0 hw [] d162 w_NO_SUCH_VERSION T162.heap n0 Zs162 fa162 fb162) hZ162 (hw _ (List.mem_of_getElem? (i := 77) rfl)) (hw _ (List.mem_of_getElem? (i := 41) rfl)) (by decide) (by decide)) q163a q163c (g := (mkF m 146 #[.val (.int p1), .val (.ref b101), .val (.int (5 : Int32)), .val (.ref w_NO_SUCH_VERSION), .val (.ref d162)] [(.ref d162)])) rfl (by rw [hml]; rfl) (Steps.refl _) (argsL := []) (rest := []) (lenOf pd_4 rfl) rfl (by show 2 * 0 + _ ≤ _; exact Nat.le_of_eq rfl) (hb hby at_146) (fun _ _ => ⟨rfl, rfl, (by decide : 4 + 0 ≤ _), (by decide : 47 + 0 ≤ _)⟩)
    dsimp only [Pt.U, Pt.locs, Pt.cells, Pt.slots] at X163 l163 y163 z163 st163 hQ163
    rw [l163, y163, z163] at X163
    replace X163 : Stand p l e _ _ m _ below meth c T163 _ 4 47 := X163
    obtain ⟨rfl, N163q, e163q⟩ := hQ163
    have N163 := Fr.app N162 N163q
    refine Go.tr st163 ?_
    show Go p e below _ (T163.setTop (mkF m 149 #[.val (.int p1), .val (.ref b101), .val (.int (5 : Int32)), .val (.ref w_NO_SUCH_VERSION), .val (.ref d162)] [(.ref w_NO_SUCH_VERSION)]))
    refine Go.via (fun _ => XS.aloadN X163.here hx rfl (hb hby at_149) rfl rfl) ?_
    show Go p e below _ (T163.setTop (mkF m 150 #[.val (.int p1), .val (.ref b101), .val (.int (5 : Int32)), .val (.ref w_NO_SUCH_VERSION), .val (.ref d162)] [(.ref w_NO_SUCH_VERSION), (.ref w_NO_SUCH_VERSION)]))
    refine Go.via (fun _ => Jvm.RoadKit.acmp (g := (mkF m 150 #[.val (.int p1), .val (.ref b101), .val (.int (5 : Int32)), .val (.ref w_NO_SUCH_VERSION), .val (.ref d162)] [(.ref w_NO_SUCH_VERSION), (.ref w_NO_SUCH_VERSION)])) X163 hx rfl rfl rfl (pc0 := 150) (pc' := 153) (same := true) rfl (hb hby at_150) rfl (decide_eq_true rfl) (by decide) (by decide)) ?_
    show Go p e below _ (T163.setTop (mkF m 153 #[.val (.int p1), .val (.ref b101), .val (.int (5 : Int32)), .val (.ref w_NO_SUCH_VERSION), .val (.ref d162)] []))
    refine Go.via (fun _ => XS.aload X163.here hx rfl (hb hby at_153) rfl rfl) ?_
    show Go p e below _ (T163.setTop (mkF m 155 #[.val (.int p1), .val (.ref b101), .val (.int (5 : Int32)), .val (.ref w_NO_SUCH_VERSION), .val (.ref d162)] [(.ref d162)]))
    obtain ⟨cq164, kq164, q164a, q164b, q164c⟩ := isOf hZ162 e163q ed162
    obtain ⟨_, _, ⟨T164, L164, k164, n164⟩, -, X164, ⟨Lc164, hQ164, l164, y164, z164⟩, st164⟩ := X163.virtualBack hx (y := (⟨"com/example/timed_cap/timedcap/model/Decision", "reached", "()Lcom/example/timed_cap/timedcap/model/Reference;"⟩ : MethodName)) (z := (⟨"com/example/timed_cap/timedcap/model/Decision", "reached", "()Lcom/example/timed_cap/timedcap/model/Reference;"⟩ : MethodName)) hown162 (mvT hZ162 (hw _ (List.mem_of_getElem? (i := 78) rfl))) (mvT hZ162 (hw _ (List.mem_of_getElem? (i := 79) rfl))) (notFace_of_selects (args := #[]) (mvT hZ162 (hw _ (List.mem_of_getElem? (i := 81) rfl)))) (mvT hZ162 (hw _ (List.mem_of_getElem? (i := 81) rfl))) (mvT hZ162 (hw _ (List.mem_of_getElem? (i := 80) rfl))) (by decide) (backOf (W := 0) (rm_reached l Z a0 hw [] d162 w_NO_SUCH_VERSION T162.heap n0 Zs162 fa162 fb162) hZ162 (hw _ (List.mem_of_getElem? (i := 82) rfl)) (hw _ (List.mem_of_getElem? (i := 41) rfl)) (by decide) (by decide)) q164a q164c (g := (mkF m 155 #[.val (.int p1), .val (.ref b101), .val (.int (5 : Int32)), .val (.ref w_NO_SUCH_VERSION), .val (.ref d162)] [(.ref d162)])) rfl (by rw [hml]; rfl) (Steps.refl _) (argsL := []) (rest := []) (lenOf pd_5 rfl) rfl (by show 2 * 0 + _ ≤ _; exact Nat.le_of_eq rfl) (hb hby at_155) (fun _ _ => ⟨rfl, e163q, (by decide : 4 + 0 ≤ _), (by decide : 47 + 0 ≤ _)⟩)
    dsimp only [Pt.U, Pt.locs, Pt.cells, Pt.slots] at X164 l164 y164 z164 st164 hQ164
    rw [l164, y164, z164] at X164
    replace X164 : Stand p l e _ _ m _ below meth c T164 _ 4 47 := X164
    obtain ⟨rfl, N164q, e164q⟩ := hQ164
    have N164 := Fr.app N163 N164q
    refine Go.tr st164 ?_
    show Go p e below _ (T164.setTop (mkF m 158 #[.val (.int p1), .val (.ref b101), .val (.int (5 : Int32)), .val (.ref w_NO_SUCH_VERSION), .val (.ref d162)] [.null]))
    refine Go.via (fun _ => XS.ifnonnullNo X164.here hx rfl (hb hby at_158) rfl) ?_
    show Go p e below _ (T164.setTop (mkF m 161 #[.val (.int p1), .val (.ref b101), .val (.int (5 : Int32)), .val (.ref w_NO_SUCH_VERSION), .val (.ref d162)] []))
    refine Go.via (fun _ => XS.aload X164.here hx rfl (hb hby at_161) rfl rfl) ?_
    show Go p e below _ (T164.setTop (mkF m 163 #[.val (.int p1), .val (.ref b101), .val (.int (5 : Int32)), .val (.ref w_NO_SUCH_VERSION), .val (.ref d162)] [(.ref d162)]))
    obtain ⟨cq165, kq165, q165a, q165b, q165c⟩ := isOf hZ162 e164q ed162
    obtain ⟨_, _, ⟨T165, L165, k165, n165⟩, -, X165, ⟨Lc165, hQ165, l165, y165, z165⟩, st165⟩ := X164.virtualBack hx (y := (⟨"com/example/timed_cap/timedcap/model/Decision", "isGranted", "()Z"⟩ : MethodName)) (z := (⟨"com/example/timed_cap/timedcap/model/Decision", "isGranted", "()Z"⟩ : MethodName)) hown162 (mvT hZ162 (hw _ (List.mem_of_getElem? (i := 83) rfl))) (mvT hZ162 (hw _ (List.mem_of_getElem? (i := 84) rfl))) (notFace_of_selects (args := #[]) (mvT hZ162 (hw _ (List.mem_of_getElem? (i := 86) rfl)))) (mvT hZ162 (hw _ (List.mem_of_getElem? (i := 86) rfl))) (mvT hZ162 (hw _ (List.mem_of_getElem? (i := 85) rfl))) (by decide) (backOf (W := 0) (rm_isGranted l Z a0 hw [] d162 w_NO_SUCH_VERSION T162.heap n0 Zs162 fa162 fb162) hZ162 (hw _ (List.mem_of_getElem? (i := 87) rfl)) (hw _ (List.mem_of_getElem? (i := 41) rfl)) (by decide) (by decide)) q165a q165c (g := (mkF m 163 #[.val (.int p1), .val (.ref b101), .val (.int (5 : Int32)), .val (.ref w_NO_SUCH_VERSION), .val (.ref d162)] [(.ref d162)])) rfl (by rw [hml]; rfl) (Steps.refl _) (argsL := []) (rest := []) (lenOf pd_6 rfl) rfl (by show 2 * 0 + _ ≤ _; exact Nat.le_of_eq rfl) (hb hby at_163) (fun _ _ => ⟨rfl, e164q, (by decide : 4 + 0 ≤ _), (by decide : 47 + 0 ≤ _)⟩)
    dsimp only [Pt.U, Pt.locs, Pt.cells, Pt.slots] at X165 l165 y165 z165 st165 hQ165
    rw [l165, y165, z165] at X165
    replace X165 : Stand p l e _ _ m _ below meth c T165 _ 4 47 := X165
    obtain ⟨rfl, N165q, e165q⟩ := hQ165
    have N165 := Fr.app N164 N165q
    refine Go.tr st165 ?_
    show Go p e below _ (T165.setTop (mkF m 166 #[.val (.int p1), .val (.ref b101), .val (.int (5 : Int32)), .val (.ref w_NO_SUCH_VERSION), .val (.ref d162)] [(.int (0 : Int32))]))
    refine Go.via (fun _ => XS.ifNo X165.here hx rfl (hb hby at_166) rfl (by decide)) ?_
    show Go p e below _ (T165.setTop (mkF m 169 #[.val (.int p1), .val (.ref b101), .val (.int (5 : Int32)), .val (.ref w_NO_SUCH_VERSION), .val (.ref d162)] []))
    refine Go.via (fun _ => XS.iconst X165.here hx rfl (hb hby at_169)) ?_
    show Go p e below _ (T165.setTop (mkF m 170 #[.val (.int p1), .val (.ref b101), .val (.int (5 : Int32)), .val (.ref w_NO_SUCH_VERSION), .val (.ref d162)] [(.int (1 : Int32))]))
    refine Go.via (fun _ => XS.goto X165.here hx rfl (pc0 := 170) (pc' := 174) rfl (hb hby at_170) (by decide) (by decide)) ?_
    show Go p e below _ (T165.setTop (mkF m 174 #[.val (.int p1), .val (.ref b101), .val (.int (5 : Int32)), .val (.ref w_NO_SUCH_VERSION), .val (.ref d162)] [(.int (1 : Int32))]))
    exact own_retNW X165 hS162 (by rw [e165q]; exact (Nat.le_refl _)) hx hlk (t := .boolean) Bd.returns (by simp) (hb hby at_174) (by show Q0 Z p1 w_MALFORMED w_ALTERED w_RESEALED w_NOT_HOLDER w_REVOKED w_NO_SUCH_VERSION w_NO_VERSION_YET w_NOT_YET_EFFECTIVE w_EXPIRED w_LEASE_ENDED w_OUTSIDE_SCHEDULE w_RIGHT_NOT_HELD w_VERSION_EXISTS w_NOT_A_HISTORY_CAPABILITY w_WIDENS_PARENT w_NOT_AN_ANCESTOR w_NO_SUCH_LEASE h0 n0 _ T165.heap _; rw [e165q]; exact ⟨rfl, N165⟩) (by decide) (by decide)
  ·
    show Go p e below _ (T135.setTop (mkF m 126 #[.val (.int p1), .val (.ref b101), .unset, .unset, .unset] [(.int (6 : Int32))]))
    refine Go.via (fun _ => XS.istoreN X135.here hx rfl (hb hby at_126) rfl (l' := #[.val (.int p1), .val (.ref b101), .val (.int (6 : Int32)), .unset, .unset]) rfl) ?_
    show Go p e below _ (T135.setTop (mkF m 127 #[.val (.int p1), .val (.ref b101), .val (.int (6 : Int32)), .unset, .unset] []))
    refine Go.via (fun _ => XS.aloadN X135.here hx rfl (hb hby at_127) rfl rfl) ?_
    show Go p e below _ (T135.setTop (mkF m 128 #[.val (.int p1), .val (.ref b101), .val (.int (6 : Int32)), .unset, .unset] [(.ref b101)]))
    refine Go.via (fun _ => XS.iloadN X135.here hx rfl (hb hby at_128) rfl) ?_
    show Go p e below _ (T135.setTop (mkF m 129 #[.val (.int p1), .val (.ref b101), .val (.int (6 : Int32)), .unset, .unset] [(.int (6 : Int32)), (.ref b101)]))
    obtain ⟨cl166, Ar166, q166, S166, N166n, H166, G166⟩ := id V135
    have hin166 := inb_of (j := (6 : Int32)) S166 (by decide)
    have hat166 : cl166.slots[((6 : Int32) : Int32).toNatClampNeg]? = some (.ref w_NO_VERSION_YET) := H166.at hin166 rfl
    refine Go.via (X135.aaload hx (j := (6 : Int32)) (v := (.ref w_NO_VERSION_YET)) (by rw [e135]; exact Ar166.1) (State.isArrayOf_alike hZ.alike Ar166.2.1) rfl Ar166.2.2 hin166 hat166 (g := (mkF m 129 #[.val (.int p1), .val (.ref b101), .val (.int (6 : Int32)), .unset, .unset] [(.int (6 : Int32)), (.ref b101)])) rfl rfl (hb hby at_129)) ?_
    show Go p e below _ (T135.setTop (mkF m 130 #[.val (.int p1), .val (.ref b101), .val (.int (6 : Int32)), .unset, .unset] [(.ref w_NO_VERSION_YET)]))
    refine Go.via (fun _ => XS.astoreN X135.here hx rfl (hb hby at_130) rfl rfl (l' := #[.val (.int p1), .val (.ref b101), .val (.int (6 : Int32)), .val (.ref w_NO_VERSION_YET), .unset]) rfl) ?_
    show Go p e below _ (T135.setTop (mkF m 131 #[.val (.int p1), .val (.ref b101), .val (.int (6 : Int32)), .val (.ref w_NO_VERSION_YET), .unset] []))
    refine Go.via (fun _ => XS.aloadN X135.here hx rfl (hb hby at_131) rfl rfl) ?_
    show Go p e below _ (T135.setTop (mkF m 132 #[.val (.int p1), .val (.ref b101), .val (.int (6 : Int32)), .val (.ref w_NO_VERSION_YET), .unset] [(.ref w_NO_VERSION_YET)]))
    obtain ⟨_, _, ⟨T167, L167, k167, n167⟩, -, X167, S167w, gr167, ⟨Lc167, hQ167, l167, y167, z167⟩, st167⟩ := callSS X135 hx (y := (⟨"com/example/timed_cap/timedcap/model/Decision", "denied", "(Lcom/example/timed_cap/timedcap/model/Reason;)Lcom/example/timed_cap/timedcap/model/Decision;"⟩ : MethodName)) hown (mvT hZ (hw _ (List.mem_of_getElem? (i := 39) rfl))) (mvT hZ (hw _ (List.mem_of_getElem? (i := 40) rfl))) (mvT hZ (hw _ (List.mem_of_getElem? (i := 41) rfl))) (mvT hZ (hw _ (List.mem_of_getElem? (i := 42) rfl))) (by decide) (backOfS (W := 0) (rmDen l Z a0 hw [] w_NO_VERSION_YET h135 n0 Zs135 (E_NO_VERSION_YET.ext O135.2)) hZ (hw _ (List.mem_of_getElem? (i := 42) rfl)) (hw _ (List.mem_of_getElem? (i := 41) rfl)) (by decide) (by decide)) (g := (mkF m 132 #[.val (.int p1), .val (.ref b101), .val (.int (6 : Int32)), .val (.ref w_NO_VERSION_YET), .unset] [(.ref w_NO_VERSION_YET)])) rfl (by rw [hml]; rfl) (argsL := [(.ref w_NO_VERSION_YET)]) (rest := []) (lenOf pd_3 rfl) rfl (by show 2 * 0 + _ ≤ _; exact Nat.le_of_eq rfl) (hb hby at_132) (fun _ _ => ⟨rfl, e135, (by decide : 1 + 3 ≤ _), (by decide : 17 + 30 ≤ _)⟩)
    dsimp only [Pt.U, Pt.locs, Pt.cells, Pt.slots] at X167 l167 y167 z167 st167 hQ167 S167w gr167
    rw [l167, y167, z167] at X167
    replace X167 : Stand p l e _ _ m _ below meth c T167 _ 4 47 := X167
    obtain ⟨d167, rfl, N167q, K167q, gd167, ed167, fa167, fb167⟩ := hQ167
    have N167 := Fr.app N135 N167q
    refine Go.tr st167 ?_
    obtain ⟨X167r, hS167, hZ167, hown167⟩ := rebS hS0 (by rw [e135]; exact hk135) X167 S167w gr167 hZ hown
    have Zs167 : n0 ≤ T167.heap.size := Nat.le_trans Zs135 K167q.1
    have O167 : Old Z n0 T167.heap := O135.keep K167q all0
    have fV_b101_167 := V135.keep K167q nin0
    have g_d167 : n0 ≤ d167 := Nat.le_trans Zs135 gd167
    have ne_b101_d167 : b101 ≠ d167 := Nat.ne_of_lt (Nat.lt_of_lt_of_le V135.lt gd167)
    show Go p e below _ (T167.setTop (mkF m 135 #[.val (.int p1), .val (.ref b101), .val (.int (6 : Int32)), .val (.ref w_NO_VERSION_YET), .unset] [(.ref d167)]))
    refine Go.via (fun _ => XS.astore X167r.here hx rfl (hb hby at_135) rfl rfl (l' := #[.val (.int p1), .val (.ref b101), .val (.int (6 : Int32)), .val (.ref w_NO_VERSION_YET), .val (.ref d167)]) rfl) ?_
    show Go p e below _ (T167.setTop (mkF m 137 #[.val (.int p1), .val (.ref b101), .val (.int (6 : Int32)), .val (.ref w_NO_VERSION_YET), .val (.ref d167)] []))
    refine Go.via (fun _ => XS.aload X167r.here hx rfl (hb hby at_137) rfl rfl) ?_
    show Go p e below _ (T167.setTop (mkF m 139 #[.val (.int p1), .val (.ref b101), .val (.int (6 : Int32)), .val (.ref w_NO_VERSION_YET), .val (.ref d167)] [(.ref d167)]))
    refine Go.via (fun _ => XS.ifnonnullYes X167r.here hx rfl (pc0 := 139) (pc' := 144) rfl (hb hby at_139) rfl (by decide) (by decide)) ?_
    show Go p e below _ (T167.setTop (mkF m 144 #[.val (.int p1), .val (.ref b101), .val (.int (6 : Int32)), .val (.ref w_NO_VERSION_YET), .val (.ref d167)] []))
    refine Go.via (fun _ => XS.aload X167r.here hx rfl (hb hby at_144) rfl rfl) ?_
    show Go p e below _ (T167.setTop (mkF m 146 #[.val (.int p1), .val (.ref b101), .val (.int (6 : Int32)), .val (.ref w_NO_VERSION_YET), .val (.ref d167)] [(.ref d167)]))
    obtain ⟨cq168, kq168, q168a, q168b, q168c⟩ := isOf hZ167 rfl ed167
    obtain ⟨_, _, ⟨T168, L168, k168, n168⟩, -, X168, ⟨Lc168, hQ168, l168, y168, z168⟩, st168⟩ := X167r.virtualBack hx (y := (⟨"com/example/timed_cap/timedcap/model/Decision", "reason", "()Lcom/example/timed_cap/timedcap/model/Reason;"⟩ : MethodName)) (z := (⟨"com/example/timed_cap/timedcap/model/Decision", "reason", "()Lcom/example/timed_cap/timedcap/model/Reason;"⟩ : MethodName)) hown167 (mvT hZ167 (hw _ (List.mem_of_getElem? (i := 73) rfl))) (mvT hZ167 (hw _ (List.mem_of_getElem? (i := 74) rfl))) (notFace_of_selects (args := #[]) (mvT hZ167 (hw _ (List.mem_of_getElem? (i := 76) rfl)))) (mvT hZ167 (hw _ (List.mem_of_getElem? (i := 76) rfl))) (mvT hZ167 (hw _ (List.mem_of_getElem? (i := 75) rfl))) (by decide) (backOf (W := 0) (rm_reason l Z a0 hw [] d167 w_NO_VERSION_YET T167.heap n0 Zs167 fa167 fb167) hZ167 (hw _ (List.mem_of_getElem? (i := 77) rfl)) (hw _ (List.mem_of_getElem? (i := 41) rfl)) (by decide) (by decide)) q168a q168c (g := (mkF m 146 #[.val (.int p1), .val (.ref b101), .val (.int (6 : Int32)), .val (.ref w_NO_VERSION_YET), .val (.ref d167)] [(.ref d167)])) rfl (by rw [hml]; rfl) (Steps.refl _) (argsL := []) (rest := []) (lenOf pd_4 rfl) rfl (by show 2 * 0 + _ ≤ _; exact Nat.le_of_eq rfl) (hb hby at_146) (fun _ _ => ⟨rfl, rfl, (by decide : 4 + 0 ≤ _), (by decide : 47 + 0 ≤ _)⟩)
    dsimp only [Pt.U, Pt.locs, Pt.cells, Pt.slots] at X168 l168 y168 z168 st168 hQ168
    rw [l168, y168, z168] at X168
    replace X168 : Stand p l e _ _ m _ below meth c T168 _ 4 47 := X168
    obtain ⟨rfl, N168q, e168q⟩ := hQ168
    have N168 := Fr.app N167 N168q
    refine Go.tr st168 ?_
    show Go p e below _ (T168.setTop (mkF m 149 #[.val (.int p1), .val (.ref b101), .val (.int (6 : Int32)), .val (.ref w_NO_VERSION_YET), .val (.ref d167)] [(.ref w_NO_VERSION_YET)]))
    refine Go.via (fun _ => XS.aloadN X168.here hx rfl (hb hby at_149) rfl rfl) ?_
    show Go p e below _ (T168.setTop (mkF m 150 #[.val (.int p1), .val (.ref b101), .val (.int (6 : Int32)), .val (.ref w_NO_VERSION_YET), .val (.ref d167)] [(.ref w_NO_VERSION_YET), (.ref w_NO_VERSION_YET)]))
    refine Go.via (fun _ => Jvm.RoadKit.acmp (g := (mkF m 150 #[.val (.int p1), .val (.ref b101), .val (.int (6 : Int32)), .val (.ref w_NO_VERSION_YET), .val (.ref d167)] [(.ref w_NO_VERSION_YET), (.ref w_NO_VERSION_YET)])) X168 hx rfl rfl rfl (pc0 := 150) (pc' := 153) (same := true) rfl (hb hby at_150) rfl (decide_eq_true rfl) (by decide) (by decide)) ?_
    show Go p e below _ (T168.setTop (mkF m 153 #[.val (.int p1), .val (.ref b101), .val (.int (6 : Int32)), .val (.ref w_NO_VERSION_YET), .val (.ref d167)] []))
    refine Go.via (fun _ => XS.aload X168.here hx rfl (hb hby at_153) rfl rfl) ?_
    show Go p e below _ (T168.setTop (mkF m 155 #[.val (.int p1), .val (.ref b101), .val (.int (6 : Int32)), .val (.ref w_NO_VERSION_YET), .val (.ref d167)] [(.ref d167)]))
    obtain ⟨cq169, kq169, q169a, q169b, q169c⟩ := isOf hZ167 e168q ed167
    obtain ⟨_, _, ⟨T169, L169, k169, n169⟩, -, X169, ⟨Lc169, hQ169, l169, y169, z169⟩, st169⟩ := X168.virtualBack hx (y := (⟨"com/example/timed_cap/timedcap/model/Decision", "reached", "()Lcom/example/timed_cap/timedcap/model/Reference;"⟩ : MethodName)) (z := (⟨"com/example/timed_cap/timedcap/model/Decision", "reached", "()Lcom/example/timed_cap/timedcap/model/Reference;"⟩ : MethodName)) hown167 (mvT hZ167 (hw _ (List.mem_of_getElem? (i := 78) rfl))) (mvT hZ167 (hw _ (List.mem_of_getElem? (i := 79) rfl))) (notFace_of_selects (args := #[]) (mvT hZ167 (hw _ (List.mem_of_getElem? (i := 81) rfl)))) (mvT hZ167 (hw _ (List.mem_of_getElem? (i := 81) rfl))) (mvT hZ167 (hw _ (List.mem_of_getElem? (i := 80) rfl))) (by decide) (backOf (W := 0) (rm_reached l Z a0 hw [] d167 w_NO_VERSION_YET T167.heap n0 Zs167 fa167 fb167) hZ167 (hw _ (List.mem_of_getElem? (i := 82) rfl)) (hw _ (List.mem_of_getElem? (i := 41) rfl)) (by decide) (by decide)) q169a q169c (g := (mkF m 155 #[.val (.int p1), .val (.ref b101), .val (.int (6 : Int32)), .val (.ref w_NO_VERSION_YET), .val (.ref d167)] [(.ref d167)])) rfl (by rw [hml]; rfl) (Steps.refl _) (argsL := []) (rest := []) (lenOf pd_5 rfl) rfl (by show 2 * 0 + _ ≤ _; exact Nat.le_of_eq rfl) (hb hby at_155) (fun _ _ => ⟨rfl, e168q, (by decide : 4 + 0 ≤ _), (by decide : 47 + 0 ≤ _)⟩)
    dsimp only [Pt.U, Pt.locs, Pt.cells, Pt.slots] at X169 l169 y169 z169 st169 hQ169
    rw [l169, y169, z169] at X169
    replace X169 : Stand p l e _ _ m _ below meth c T169 _ 4 47 := X169
    obtain ⟨rfl, N169q, e169q⟩ := hQ169
    have N169 := Fr.app N168 N169q
    refine Go.tr st169 ?_
    show Go p e below _ (T169.setTop (mkF m 158 #[.val (.int p1), .val (.ref b101), .val (.int (6 : Int32)), .val (.ref w_NO_VERSION_YET), .val (.ref d167)] [.null]))
    refine Go.via (fun _ => XS.ifnonnullNo X169.here hx rfl (hb hby at_158) rfl) ?_
    show Go p e below _ (T169.setTop (mkF m 161 #[.val (.int p1), .val (.ref b101), .val (.int (6 : Int32)), .val (.ref w_NO_VERSION_YET), .val (.ref d167)] []))
    refine Go.via (fun _ => XS.aload X169.here hx rfl (hb hby at_161) rfl rfl) ?_
    show Go p e below _ (T169.setTop (mkF m 163 #[.val (.int p1), .val (.ref b101), .val (.int (6 : Int32)), .val (.ref w_NO_VERSION_YET), .val (.ref d167)] [(.ref d167)]))
    obtain ⟨cq170, kq170, q170a, q170b, q170c⟩ := isOf hZ167 e169q ed167
    obtain ⟨_, _, ⟨T170, L170, k170, n170⟩, -, X170, ⟨Lc170, hQ170, l170, y170, z170⟩, st170⟩ := X169.virtualBack hx (y := (⟨"com/example/timed_cap/timedcap/model/Decision", "isGranted", "()Z"⟩ : MethodName)) (z := (⟨"com/example/timed_cap/timedcap/model/Decision", "isGranted", "()Z"⟩ : MethodName)) hown167 (mvT hZ167 (hw _ (List.mem_of_getElem? (i := 83) rfl))) (mvT hZ167 (hw _ (List.mem_of_getElem? (i := 84) rfl))) (notFace_of_selects (args := #[]) (mvT hZ167 (hw _ (List.mem_of_getElem? (i := 86) rfl)))) (mvT hZ167 (hw _ (List.mem_of_getElem? (i := 86) rfl))) (mvT hZ167 (hw _ (List.mem_of_getElem? (i := 85) rfl))) (by decide) (backOf (W := 0) (rm_isGranted l Z a0 hw [] d167 w_NO_VERSION_YET T167.heap n0 Zs167 fa167 fb167) hZ167 (hw _ (List.mem_of_getElem? (i := 87) rfl)) (hw _ (List.mem_of_getElem? (i := 41) rfl)) (by decide) (by decide)) q170a q170c (g := (mkF m 163 #[.val (.int p1), .val (.ref b101), .val (.int (6 : Int32)), .val (.ref w_NO_VERSION_YET), .val (.ref d167)] [(.ref d167)])) rfl (by rw [hml]; rfl) (Steps.refl _) (argsL := []) (rest := []) (lenOf pd_6 rfl) rfl (by show 2 * 0 + _ ≤ _; exact Nat.le_of_eq rfl) (hb hby at_163) (fun _ _ => ⟨rfl, e169q, (by decide : 4 + 0 ≤ _), (by decide : 47 + 0 ≤ _)⟩)
    dsimp only [Pt.U, Pt.locs, Pt.cells, Pt.slots] at X170 l170 y170 z170 st170 hQ170
    rw [l170, y170, z170] at X170
    replace X170 : Stand p l e _ _ m _ below meth c T170 _ 4 47 := X170
    obtain ⟨rfl, N170q, e170q⟩ := hQ170
    have N170 := Fr.app N169 N170q
    refine Go.tr st170 ?_
    show Go p e below _ (T170.setTop (mkF m 166 #[.val (.int p1), .val (.ref b101), .val (.int (6 : Int32)), .val (.ref w_NO_VERSION_YET), .val (.ref d167)] [(.int (0 : Int32))]))
    refine Go.via (fun _ => XS.ifNo X170.here hx rfl (hb hby at_166) rfl (by decide)) ?_
    show Go p e below _ (T170.setTop (mkF m 169 #[.val (.int p1), .val (.ref b101), .val (.int (6 : Int32)), .val (.ref w_NO_VERSION_YET), .val (.ref d167)] []))
    refine Go.via (fun _ => XS.iconst X170.here hx rfl (hb hby at_169)) ?_
    show Go p e below _ (T170.setTop (mkF m 170 #[.val (.int p1), .val (.ref b101), .val (.int (6 : Int32)), .val (.ref w_NO_VERSION_YET), .val (.ref d167)] [(.int (1 : Int32))]))
    refine Go.via (fun _ => XS.goto X170.here hx rfl (pc0 := 170) (pc' := 174) rfl (hb hby at_170) (by decide) (by decide)) ?_
    show Go p e below _ (T170.setTop (mkF m 174 #[.val (.int p1), .val (.ref b101), .val (.int (6 : Int32)), .val (.ref w_NO_VERSION_YET), .val (.ref d167)] [(.int (1 : Int32))]))
    exact own_retNW X170 hS167 (by rw [e170q]; exact (Nat.le_refl _)) hx hlk (t := .boolean) Bd.returns (by simp) (hb hby at_174) (by show Q0 Z p1 w_MALFORMED w_ALTERED w_RESEALED w_NOT_HOLDER w_REVOKED w_NO_SUCH_VERSION w_NO_VERSION_YET w_NOT_YET_EFFECTIVE w_EXPIRED w_LEASE_ENDED w_OUTSIDE_SCHEDULE w_RIGHT_NOT_HELD w_VERSION_EXISTS w_NOT_A_HISTORY_CAPABILITY w_WIDENS_PARENT w_NOT_AN_ANCESTOR w_NO_SUCH_LEASE h0 n0 _ T170.heap _; rw [e170q]; exact ⟨rfl, N170⟩) (by decide) (by decide)
  ·
    show Go p e below _ (T135.setTop (mkF m 126 #[.val (.int p1), .val (.ref b101), .unset, .unset, .unset] [(.int (7 : Int32))]))
    refine Go.via (fun _ => XS.istoreN X135.here hx rfl (hb hby at_126) rfl (l' := #[.val (.int p1), .val (.ref b101), .val (.int (7 : Int32)), .unset, .unset]) rfl) ?_
    show Go p e below _ (T135.setTop (mkF m 127 #[.val (.int p1), .val (.ref b101), .val (.int (7 : Int32)), .unset, .unset] []))
    refine Go.via (fun _ => XS.aloadN X135.here hx rfl (hb hby at_127) rfl rfl) ?_
    show Go p e below _ (T135.setTop (mkF m 128 #[.val (.int p1), .val (.ref b101), .val (.int (7 : Int32)), .unset, .unset] [(.ref b101)]))
    refine Go.via (fun _ => XS.iloadN X135.here hx rfl (hb hby at_128) rfl) ?_
    show Go p e below _ (T135.setTop (mkF m 129 #[.val (.int p1), .val (.ref b101), .val (.int (7 : Int32)), .unset, .unset] [(.int (7 : Int32)), (.ref b101)]))
    obtain ⟨cl171, Ar171, q171, S171, N171n, H171, G171⟩ := id V135
    have hin171 := inb_of (j := (7 : Int32)) S171 (by decide)
    have hat171 : cl171.slots[((7 : Int32) : Int32).toNatClampNeg]? = some (.ref w_NOT_YET_EFFECTIVE) := H171.at hin171 rfl
    refine Go.via (X135.aaload hx (j := (7 : Int32)) (v := (.ref w_NOT_YET_EFFECTIVE)) (by rw [e135]; exact Ar171.1) (State.isArrayOf_alike hZ.alike Ar171.2.1) rfl Ar171.2.2 hin171 hat171 (g := (mkF m 129 #[.val (.int p1), .val (.ref b101), .val (.int (7 : Int32)), .unset, .unset] [(.int (7 : Int32)), (.ref b101)])) rfl rfl (hb hby at_129)) ?_
    show Go p e below _ (T135.setTop (mkF m 130 #[.val (.int p1), .val (.ref b101), .val (.int (7 : Int32)), .unset, .unset] [(.ref w_NOT_YET_EFFECTIVE)]))
    refine Go.via (fun _ => XS.astoreN X135.here hx rfl (hb hby at_130) rfl rfl (l' := #[.val (.int p1), .val (.ref b101), .val (.int (7 : Int32)), .val (.ref w_NOT_YET_EFFECTIVE), .unset]) rfl) ?_
    show Go p e below _ (T135.setTop (mkF m 131 #[.val (.int p1), .val (.ref b101), .val (.int (7 : Int32)), .val (.ref w_NOT_YET_EFFECTIVE), .unset] []))
    refine Go.via (fun _ => XS.aloadN X135.here hx rfl (hb hby at_131) rfl rfl) ?_
    show Go p e below _ (T135.setTop (mkF m 132 #[.val (.int p1), .val (.ref b101), .val (.int (7 : Int32)), .val (.ref w_NOT_YET_EFFECTIVE), .unset] [(.ref w_NOT_YET_EFFECTIVE)]))
    obtain ⟨_, _, ⟨T172, L172, k172, n172⟩, -, X172, S172w, gr172, ⟨Lc172, hQ172, l172, y172, z172⟩, st172⟩ := callSS X135 hx (y := (⟨"com/example/timed_cap/timedcap/model/Decision", "denied", "(Lcom/example/timed_cap/timedcap/model/Reason;)Lcom/example/timed_cap/timedcap/model/Decision;"⟩ : MethodName)) hown (mvT hZ (hw _ (List.mem_of_getElem? (i := 39) rfl))) (mvT hZ (hw _ (List.mem_of_getElem? (i := 40) rfl))) (mvT hZ (hw _ (List.mem_of_getElem? (i := 41) rfl))) (mvT hZ (hw _ (List.mem_of_getElem? (i := 42) rfl))) (by decide) (backOfS (W := 0) (rmDen l Z a0 hw [] w_NOT_YET_EFFECTIVE h135 n0 Zs135 (E_NOT_YET_EFFECTIVE.ext O135.2)) hZ (hw _ (List.mem_of_getElem? (i := 42) rfl)) (hw _ (List.mem_of_getElem? (i := 41) rfl)) (by decide) (by decide)) (g := (mkF m 132 #[.val (.int p1), .val (.ref b101), .val (.int (7 : Int32)), .val (.ref w_NOT_YET_EFFECTIVE), .unset] [(.ref w_NOT_YET_EFFECTIVE)])) rfl (by rw [hml]; rfl) (argsL := [(.ref w_NOT_YET_EFFECTIVE)]) (rest := []) (lenOf pd_3 rfl) rfl (by show 2 * 0 + _ ≤ _; exact Nat.le_of_eq rfl) (hb hby at_132) (fun _ _ => ⟨rfl, e135, (by decide : 1 + 3 ≤ _), (by decide : 17 + 30 ≤ _)⟩)
    dsimp only [Pt.U, Pt.locs, Pt.cells, Pt.slots] at X172 l172 y172 z172 st172 hQ172 S172w gr172
    rw [l172, y172, z172] at X172
    replace X172 : Stand p l e _ _ m _ below meth c T172 _ 4 47 := X172
    obtain ⟨d172, rfl, N172q, K172q, gd172, ed172, fa172, fb172⟩ := hQ172
    have N172 := Fr.app N135 N172q
    refine Go.tr st172 ?_
    obtain ⟨X172r, hS172, hZ172, hown172⟩ := rebS hS0 (by rw [e135]; exact hk135) X172 S172w gr172 hZ hown
    have Zs172 : n0 ≤ T172.heap.size := Nat.le_trans Zs135 K172q.1
    have O172 : Old Z n0 T172.heap := O135.keep K172q all0
    have fV_b101_172 := V135.keep K172q nin0
    have g_d172 : n0 ≤ d172 := Nat.le_trans Zs135 gd172
    have ne_b101_d172 : b101 ≠ d172 := Nat.ne_of_lt (Nat.lt_of_lt_of_le V135.lt gd172)
    show Go p e below _ (T172.setTop (mkF m 135 #[.val (.int p1), .val (.ref b101), .val (.int (7 : Int32)), .val (.ref w_NOT_YET_EFFECTIVE), .unset] [(.ref d172)]))
    refine Go.via (fun _ => XS.astore X172r.here hx rfl (hb hby at_135) rfl rfl (l' := #[.val (.int p1), .val (.ref b101), .val (.int (7 : Int32)), .val (.ref w_NOT_YET_EFFECTIVE), .val (.ref d172)]) rfl) ?_
    show Go p e below _ (T172.setTop (mkF m 137 #[.val (.int p1), .val (.ref b101), .val (.int (7 : Int32)), .val (.ref w_NOT_YET_EFFECTIVE), .val (.ref d172)] []))
    refine Go.via (fun _ => XS.aload X172r.here hx rfl (hb hby at_137) rfl rfl) ?_
    show Go p e below _ (T172.setTop (mkF m 139 #[.val (.int p1), .val (.ref b101), .val (.int (7 : Int32)), .val (.ref w_NOT_YET_EFFECTIVE), .val (.ref d172)] [(.ref d172)]))
    refine Go.via (fun _ => XS.ifnonnullYes X172r.here hx rfl (pc0 := 139) (pc' := 144) rfl (hb hby at_139) rfl (by decide) (by decide)) ?_
    show Go p e below _ (T172.setTop (mkF m 144 #[.val (.int p1), .val (.ref b101), .val (.int (7 : Int32)), .val (.ref w_NOT_YET_EFFECTIVE), .val (.ref d172)] []))
    refine Go.via (fun _ => XS.aload X172r.here hx rfl (hb hby at_144) rfl rfl) ?_
    show Go p e below _ (T172.setTop (mkF m 146 #[.val (.int p1), .val (.ref b101), .val (.int (7 : Int32)), .val (.ref w_NOT_YET_EFFECTIVE), .val (.ref d172)] [(.ref d172)]))
    obtain ⟨cq173, kq173, q173a, q173b, q173c⟩ := isOf hZ172 rfl ed172
    obtain ⟨_, _, ⟨T173, L173, k173, n173⟩, -, X173, ⟨Lc173, hQ173, l173, y173, z173⟩, st173⟩ := X172r.virtualBack hx (y := (⟨"com/example/timed_cap/timedcap/model/Decision", "reason", "()Lcom/example/timed_cap/timedcap/model/Reason;"⟩ : MethodName)) (z := (⟨"com/example/timed_cap/timedcap/model/Decision", "reason", "()Lcom/example/timed_cap/timedcap/model/Reason;"⟩ : MethodName)) hown172 (mvT hZ172 (hw _ (List.mem_of_getElem? (i := 73) rfl))) (mvT hZ172 (hw _ (List.mem_of_getElem? (i := 74) rfl))) (notFace_of_selects (args := #[]) (mvT hZ172 (hw _ (List.mem_of_getElem? (i := 76) rfl)))) (mvT hZ172 (hw _ (List.mem_of_getElem? (i := 76) rfl))) (mvT hZ172 (hw _ (List.mem_of_getElem? (i := 75) rfl))) (by decide) (backOf (W := 0) (rm_reason l Z a0 hw [] d172 w_NOT_YET_EFFECTIVE T172.heap n0 Zs172 fa172 fb172) hZ172 (hw _ (List.mem_of_getElem? (i := 77) rfl)) (hw _ (List.mem_of_getElem? (i := 41) rfl)) (by decide) (by decide)) q173a q173c (g := (mkF m 146 #[.val (.int p1), .val (.ref b101), .val (.int (7 : Int32)), .val (.ref w_NOT_YET_EFFECTIVE), .val (.ref d172)] [(.ref d172)])) rfl (by rw [hml]; rfl) (Steps.refl _) (argsL := []) (rest := []) (lenOf pd_4 rfl) rfl (by show 2 * 0 + _ ≤ _; exact Nat.le_of_eq rfl) (hb hby at_146) (fun _ _ => ⟨rfl, rfl, (by decide : 4 + 0 ≤ _), (by decide : 47 + 0 ≤ _)⟩)
    dsimp only [Pt.U, Pt.locs, Pt.cells, Pt.slots] at X173 l173 y173 z173 st173 hQ173
    rw [l173, y173, z173] at X173
    replace X173 : Stand p l e _ _ m _ below meth c T173 _ 4 47 := X173
    obtain ⟨rfl, N173q, e173q⟩ := hQ173
    have N173 := Fr.app N172 N173q
    refine Go.tr st173 ?_
    show Go p e below _ (T173.setTop (mkF m 149 #[.val (.int p1), .val (.ref b101), .val (.int (7 : Int32)), .val (.ref w_NOT_YET_EFFECTIVE), .val (.ref d172)] [(.ref w_NOT_YET_EFFECTIVE)]))
    refine Go.via (fun _ => XS.aloadN X173.here hx rfl (hb hby at_149) rfl rfl) ?_
    show Go p e below _ (T173.setTop (mkF m 150 #[.val (.int p1), .val (.ref b101), .val (.int (7 : Int32)), .val (.ref w_NOT_YET_EFFECTIVE), .val (.ref d172)] [(.ref w_NOT_YET_EFFECTIVE), (.ref w_NOT_YET_EFFECTIVE)]))
    refine Go.via (fun _ => Jvm.RoadKit.acmp (g := (mkF m 150 #[.val (.int p1), .val (.ref b101), .val (.int (7 : Int32)), .val (.ref w_NOT_YET_EFFECTIVE), .val (.ref d172)] [(.ref w_NOT_YET_EFFECTIVE), (.ref w_NOT_YET_EFFECTIVE)])) X173 hx rfl rfl rfl (pc0 := 150) (pc' := 153) (same := true) rfl (hb hby at_150) rfl (decide_eq_true rfl) (by decide) (by decide)) ?_
    show Go p e below _ (T173.setTop (mkF m 153 #[.val (.int p1), .val (.ref b101), .val (.int (7 : Int32)), .val (.ref w_NOT_YET_EFFECTIVE), .val (.ref d172)] []))
    refine Go.via (fun _ => XS.aload X173.here hx rfl (hb hby at_153) rfl rfl) ?_
    show Go p e below _ (T173.setTop (mkF m 155 #[.val (.int p1), .val (.ref b101), .val (.int (7 : Int32)), .val (.ref w_NOT_YET_EFFECTIVE), .val (.ref d172)] [(.ref d172)]))
    obtain ⟨cq174, kq174, q174a, q174b, q174c⟩ := isOf hZ172 e173q ed172
    obtain ⟨_, _, ⟨T174, L174, k174, n174⟩, -, X174, ⟨Lc174, hQ174, l174, y174, z174⟩, st174⟩ := X173.virtualBack hx (y := (⟨"com/example/timed_cap/timedcap/model/Decision", "reached", "()Lcom/example/timed_cap/timedcap/model/Reference;"⟩ : MethodName)) (z := (⟨"com/example/timed_cap/timedcap/model/Decision", "reached", "()Lcom/example/timed_cap/timedcap/model/Reference;"⟩ : MethodName)) hown172 (mvT hZ172 (hw _ (List.mem_of_getElem? (i := 78) rfl))) (mvT hZ172 (hw _ (List.mem_of_getElem? (i := 79) rfl))) (notFace_of_selects (args := #[]) (mvT hZ172 (hw _ (List.mem_of_getElem? (i := 81) rfl)))) (mvT hZ172 (hw _ (List.mem_of_getElem? (i := 81) rfl))) (mvT hZ172 (hw _ (List.mem_of_getElem? (i := 80) rfl))) (by decide) (backOf (W := 0) (rm_reached l Z a0 hw [] d172 w_NOT_YET_EFFECTIVE T172.heap n0 Zs172 fa172 fb172) hZ172 (hw _ (List.mem_of_getElem? (i := 82) rfl)) (hw _ (List.mem_of_getElem? (i := 41) rfl)) (by decide) (by decide)) q174a q174c (g := (mkF m 155 #[.val (.int p1), .val (.ref b101), .val (.int (7 : Int32)), .val (.ref w_NOT_YET_EFFECTIVE), .val (.ref d172)] [(.ref d172)])) rfl (by rw [hml]; rfl) (Steps.refl _) (argsL := []) (rest := []) (lenOf pd_5 rfl) rfl (by show 2 * 0 + _ ≤ _; exact Nat.le_of_eq rfl) (hb hby at_155) (fun _ _ => ⟨rfl, e173q, (by decide : 4 + 0 ≤ _), (by decide : 47 + 0 ≤ _)⟩)
    dsimp only [Pt.U, Pt.locs, Pt.cells, Pt.slots] at X174 l174 y174 z174 st174 hQ174
    rw [l174, y174, z174] at X174
    replace X174 : Stand p l e _ _ m _ below meth c T174 _ 4 47 := X174
    obtain ⟨rfl, N174q, e174q⟩ := hQ174
    have N174 := Fr.app N173 N174q
    refine Go.tr st174 ?_
    show Go p e below _ (T174.setTop (mkF m 158 #[.val (.int p1), .val (.ref b101), .val (.int (7 : Int32)), .val (.ref w_NOT_YET_EFFECTIVE), .val (.ref d172)] [.null]))
    refine Go.via (fun _ => XS.ifnonnullNo X174.here hx rfl (hb hby at_158) rfl) ?_
    show Go p e below _ (T174.setTop (mkF m 161 #[.val (.int p1), .val (.ref b101), .val (.int (7 : Int32)), .val (.ref w_NOT_YET_EFFECTIVE), .val (.ref d172)] []))
    refine Go.via (fun _ => XS.aload X174.here hx rfl (hb hby at_161) rfl rfl) ?_
    show Go p e below _ (T174.setTop (mkF m 163 #[.val (.int p1), .val (.ref b101), .val (.int (7 : Int32)), .val (.ref w_NOT_YET_EFFECTIVE), .val (.ref d172)] [(.ref d172)]))
    obtain ⟨cq175, kq175, q175a, q175b, q175c⟩ := isOf hZ172 e174q ed172
    obtain ⟨_, _, ⟨T175, L175, k175, n175⟩, -, X175, ⟨Lc175, hQ175, l175, y175, z175⟩, st175⟩ := X174.virtualBack hx (y := (⟨"com/example/timed_cap/timedcap/model/Decision", "isGranted", "()Z"⟩ : MethodName)) (z := (⟨"com/example/timed_cap/timedcap/model/Decision", "isGranted", "()Z"⟩ : MethodName)) hown172 (mvT hZ172 (hw _ (List.mem_of_getElem? (i := 83) rfl))) (mvT hZ172 (hw _ (List.mem_of_getElem? (i := 84) rfl))) (notFace_of_selects (args := #[]) (mvT hZ172 (hw _ (List.mem_of_getElem? (i := 86) rfl)))) (mvT hZ172 (hw _ (List.mem_of_getElem? (i := 86) rfl))) (mvT hZ172 (hw _ (List.mem_of_getElem? (i := 85) rfl))) (by decide) (backOf (W := 0) (rm_isGranted l Z a0 hw [] d172 w_NOT_YET_EFFECTIVE T172.heap n0 Zs172 fa172 fb172) hZ172 (hw _ (List.mem_of_getElem? (i := 87) rfl)) (hw _ (List.mem_of_getElem? (i := 41) rfl)) (by decide) (by decide)) q175a q175c (g := (mkF m 163 #[.val (.int p1), .val (.ref b101), .val (.int (7 : Int32)), .val (.ref w_NOT_YET_EFFECTIVE), .val (.ref d172)] [(.ref d172)])) rfl (by rw [hml]; rfl) (Steps.refl _) (argsL := []) (rest := []) (lenOf pd_6 rfl) rfl (by show 2 * 0 + _ ≤ _; exact Nat.le_of_eq rfl) (hb hby at_163) (fun _ _ => ⟨rfl, e174q, (by decide : 4 + 0 ≤ _), (by decide : 47 + 0 ≤ _)⟩)
    dsimp only [Pt.U, Pt.locs, Pt.cells, Pt.slots] at X175 l175 y175 z175 st175 hQ175
    rw [l175, y175, z175] at X175
    replace X175 : Stand p l e _ _ m _ below meth c T175 _ 4 47 := X175
    obtain ⟨rfl, N175q, e175q⟩ := hQ175
    have N175 := Fr.app N174 N175q
    refine Go.tr st175 ?_
    show Go p e below _ (T175.setTop (mkF m 166 #[.val (.int p1), .val (.ref b101), .val (.int (7 : Int32)), .val (.ref w_NOT_YET_EFFECTIVE), .val (.ref d172)] [(.int (0 : Int32))]))
    refine Go.via (fun _ => XS.ifNo X175.here hx rfl (hb hby at_166) rfl (by decide)) ?_
    show Go p e below _ (T175.setTop (mkF m 169 #[.val (.int p1), .val (.ref b101), .val (.int (7 : Int32)), .val (.ref w_NOT_YET_EFFECTIVE), .val (.ref d172)] []))
    refine Go.via (fun _ => XS.iconst X175.here hx rfl (hb hby at_169)) ?_
    show Go p e below _ (T175.setTop (mkF m 170 #[.val (.int p1), .val (.ref b101), .val (.int (7 : Int32)), .val (.ref w_NOT_YET_EFFECTIVE), .val (.ref d172)] [(.int (1 : Int32))]))
    refine Go.via (fun _ => XS.goto X175.here hx rfl (pc0 := 170) (pc' := 174) rfl (hb hby at_170) (by decide) (by decide)) ?_
    show Go p e below _ (T175.setTop (mkF m 174 #[.val (.int p1), .val (.ref b101), .val (.int (7 : Int32)), .val (.ref w_NOT_YET_EFFECTIVE), .val (.ref d172)] [(.int (1 : Int32))]))
    exact own_retNW X175 hS172 (by rw [e175q]; exact (Nat.le_refl _)) hx hlk (t := .boolean) Bd.returns (by simp) (hb hby at_174) (by show Q0 Z p1 w_MALFORMED w_ALTERED w_RESEALED w_NOT_HOLDER w_REVOKED w_NO_SUCH_VERSION w_NO_VERSION_YET w_NOT_YET_EFFECTIVE w_EXPIRED w_LEASE_ENDED w_OUTSIDE_SCHEDULE w_RIGHT_NOT_HELD w_VERSION_EXISTS w_NOT_A_HISTORY_CAPABILITY w_WIDENS_PARENT w_NOT_AN_ANCESTOR w_NO_SUCH_LEASE h0 n0 _ T175.heap _; rw [e175q]; exact ⟨rfl, N175⟩) (by decide) (by decide)
  ·
    show Go p e below _ (T135.setTop (mkF m 126 #[.val (.int p1), .val (.ref b101), .unset, .unset, .unset] [(.int (8 : Int32))]))
    refine Go.via (fun _ => XS.istoreN X135.here hx rfl (hb hby at_126) rfl (l' := #[.val (.int p1), .val (.ref b101), .val (.int (8 : Int32)), .unset, .unset]) rfl) ?_
    show Go p e below _ (T135.setTop (mkF m 127 #[.val (.int p1), .val (.ref b101), .val (.int (8 : Int32)), .unset, .unset] []))
    refine Go.via (fun _ => XS.aloadN X135.here hx rfl (hb hby at_127) rfl rfl) ?_
    show Go p e below _ (T135.setTop (mkF m 128 #[.val (.int p1), .val (.ref b101), .val (.int (8 : Int32)), .unset, .unset] [(.ref b101)]))
    refine Go.via (fun _ => XS.iloadN X135.here hx rfl (hb hby at_128) rfl) ?_
    show Go p e below _ (T135.setTop (mkF m 129 #[.val (.int p1), .val (.ref b101), .val (.int (8 : Int32)), .unset, .unset] [(.int (8 : Int32)), (.ref b101)]))
    obtain ⟨cl176, Ar176, q176, S176, N176n, H176, G176⟩ := id V135
    have hin176 := inb_of (j := (8 : Int32)) S176 (by decide)
    have hat176 : cl176.slots[((8 : Int32) : Int32).toNatClampNeg]? = some (.ref w_EXPIRED) := H176.at hin176 rfl
    refine Go.via (X135.aaload hx (j := (8 : Int32)) (v := (.ref w_EXPIRED)) (by rw [e135]; exact Ar176.1) (State.isArrayOf_alike hZ.alike Ar176.2.1) rfl Ar176.2.2 hin176 hat176 (g := (mkF m 129 #[.val (.int p1), .val (.ref b101), .val (.int (8 : Int32)), .unset, .unset] [(.int (8 : Int32)), (.ref b101)])) rfl rfl (hb hby at_129)) ?_
    show Go p e below _ (T135.setTop (mkF m 130 #[.val (.int p1), .val (.ref b101), .val (.int (8 : Int32)), .unset, .unset] [(.ref w_EXPIRED)]))
    refine Go.via (fun _ => XS.astoreN X135.here hx rfl (hb hby at_130) rfl rfl (l' := #[.val (.int p1), .val (.ref b101), .val (.int (8 : Int32)), .val (.ref w_EXPIRED), .unset]) rfl) ?_
    show Go p e below _ (T135.setTop (mkF m 131 #[.val (.int p1), .val (.ref b101), .val (.int (8 : Int32)), .val (.ref w_EXPIRED), .unset] []))
    refine Go.via (fun _ => XS.aloadN X135.here hx rfl (hb hby at_131) rfl rfl) ?_
    show Go p e below _ (T135.setTop (mkF m 132 #[.val (.int p1), .val (.ref b101), .val (.int (8 : Int32)), .val (.ref w_EXPIRED), .unset] [(.ref w_EXPIRED)]))
    obtain ⟨_, _, ⟨T177, L177, k177, n177⟩, -, X177, S177w, gr177, ⟨Lc177, hQ177, l177, y177, z177⟩, st177⟩ := callSS X135 hx (y := (⟨"com/example/timed_cap/timedcap/model/Decision", "denied", "(Lcom/example/timed_cap/timedcap/model/Reason;)Lcom/example/timed_cap/timedcap/model/Decision;"⟩ : MethodName)) hown (mvT hZ (hw _ (List.mem_of_getElem? (i := 39) rfl))) (mvT hZ (hw _ (List.mem_of_getElem? (i := 40) rfl))) (mvT hZ (hw _ (List.mem_of_getElem? (i := 41) rfl))) (mvT hZ (hw _ (List.mem_of_getElem? (i := 42) rfl))) (by decide) (backOfS (W := 0) (rmDen l Z a0 hw [] w_EXPIRED h135 n0 Zs135 (E_EXPIRED.ext O135.2)) hZ (hw _ (List.mem_of_getElem? (i := 42) rfl)) (hw _ (List.mem_of_getElem? (i := 41) rfl)) (by decide) (by decide)) (g := (mkF m 132 #[.val (.int p1), .val (.ref b101), .val (.int (8 : Int32)), .val (.ref w_EXPIRED), .unset] [(.ref w_EXPIRED)])) rfl (by rw [hml]; rfl) (argsL := [(.ref w_EXPIRED)]) (rest := []) (lenOf pd_3 rfl) rfl (by show 2 * 0 + _ ≤ _; exact Nat.le_of_eq rfl) (hb hby at_132) (fun _ _ => ⟨rfl, e135, (by decide : 1 + 3 ≤ _), (by decide : 17 + 30 ≤ _)⟩)
    dsimp only [Pt.U, Pt.locs, Pt.cells, Pt.slots] at X177 l177 y177 z177 st177 hQ177 S177w gr177
    rw [l177, y177, z177] at X177
    replace X177 : Stand p l e _ _ m _ below meth c T177 _ 4 47 := X177
    obtain ⟨d177, rfl, N177q, K177q, gd177, ed177, fa177, fb177⟩ := hQ177
    have N177 := Fr.app N135 N177q
    refine Go.tr st177 ?_
    obtain ⟨X177r, hS177, hZ177, hown177⟩ := rebS hS0 (by rw [e135]; exact hk135) X177 S177w gr177 hZ hown
    have Zs177 : n0 ≤ T177.heap.size := Nat.le_trans Zs135 K177q.1
    have O177 : Old Z n0 T177.heap := O135.keep K177q all0
    have fV_b101_177 := V135.keep K177q nin0
    have g_d177 : n0 ≤ d177 := Nat.le_trans Zs135 gd177
    have ne_b101_d177 : b101 ≠ d177 := Nat.ne_of_lt (Nat.lt_of_lt_of_le V135.lt gd177)
    show Go p e below _ (T177.setTop (mkF m 135 #[.val (.int p1), .val (.ref b101), .val (.int (8 : Int32)), .val (.ref w_EXPIRED), .unset] [(.ref d177)]))
    refine Go.via (fun _ => XS.astore X177r.here hx rfl (hb hby at_135) rfl rfl (l' := #[.val (.int p1), .val (.ref b101), .val (.int (8 : Int32)), .val (.ref w_EXPIRED), .val (.ref d177)]) rfl) ?_
    show Go p e below _ (T177.setTop (mkF m 137 #[.val (.int p1), .val (.ref b101), .val (.int (8 : Int32)), .val (.ref w_EXPIRED), .val (.ref d177)] []))
    refine Go.via (fun _ => XS.aload X177r.here hx rfl (hb hby at_137) rfl rfl) ?_
    show Go p e below _ (T177.setTop (mkF m 139 #[.val (.int p1), .val (.ref b101), .val (.int (8 : Int32)), .val (.ref w_EXPIRED), .val (.ref d177)] [(.ref d177)]))
    refine Go.via (fun _ => XS.ifnonnullYes X177r.here hx rfl (pc0 := 139) (pc' := 144) rfl (hb hby at_139) rfl (by decide) (by decide)) ?_
    show Go p e below _ (T177.setTop (mkF m 144 #[.val (.int p1), .val (.ref b101), .val (.int (8 : Int32)), .val (.ref w_EXPIRED), .val (.ref d177)] []))
    refine Go.via (fun _ => XS.aload X177r.here hx rfl (hb hby at_144) rfl rfl) ?_
    show Go p e below _ (T177.setTop (mkF m 146 #[.val (.int p1), .val (.ref b101), .val (.int (8 : Int32)), .val (.ref w_EXPIRED), .val (.ref d177)] [(.ref d177)]))
    obtain ⟨cq178, kq178, q178a, q178b, q178c⟩ := isOf hZ177 rfl ed177
    obtain ⟨_, _, ⟨T178, L178, k178, n178⟩, -, X178, ⟨Lc178, hQ178, l178, y178, z178⟩, st178⟩ := X177r.virtualBack hx (y := (⟨"com/example/timed_cap/timedcap/model/Decision", "reason", "()Lcom/example/timed_cap/timedcap/model/Reason;"⟩ : MethodName)) (z := (⟨"com/example/timed_cap/timedcap/model/Decision", "reason", "()Lcom/example/timed_cap/timedcap/model/Reason;"⟩ : MethodName)) hown177 (mvT hZ177 (hw _ (List.mem_of_getElem? (i := 73) rfl))) (mvT hZ177 (hw _ (List.mem_of_getElem? (i := 74) rfl))) (notFace_of_selects (args := #[]) (mvT hZ177 (hw _ (List.mem_of_getElem? (i := 76) rfl)))) (mvT hZ177 (hw _ (List.mem_of_getElem? (i := 76) rfl))) (mvT hZ177 (hw _ (List.mem_of_getElem? (i := 75) rfl))) (by decide) (backOf (W := 0) (rm_reason l Z a0 hw [] d177 w_EXPIRED T177.heap n0 Zs177 fa177 fb177) hZ177 (hw _ (List.mem_of_getElem? (i := 77) rfl)) (hw _ (List.mem_of_getElem? (i := 41) rfl)) (by decide) (by decide)) q178a q178c (g := (mkF m 146 #[.val (.int p1), .val (.ref b101), .val (.int (8 : Int32)), .val (.ref w_EXPIRED), .val (.ref d177)] [(.ref d177)])) rfl (by rw [hml]; rfl) (Steps.refl _) (argsL := []) (rest := []) (lenOf pd_4 rfl) rfl (by show 2 * 0 + _ ≤ _; exact Nat.le_of_eq rfl) (hb hby at_146) (fun _ _ => ⟨rfl, rfl, (by decide : 4 + 0 ≤ _), (by decide : 47 + 0 ≤ _)⟩)
    dsimp only [Pt.U, Pt.locs, Pt.cells, Pt.slots] at X178 l178 y178 z178 st178 hQ178
    rw [l178, y178, z178] at X178
    replace X178 : Stand p l e _ _ m _ below meth c T178 _ 4 47 := X178
    obtain ⟨rfl, N178q, e178q⟩ := hQ178
    have N178 := Fr.app N177 N178q
    refine Go.tr st178 ?_
    show Go p e below _ (T178.setTop (mkF m 149 #[.val (.int p1), .val (.ref b101), .val (.int (8 : Int32)), .val (.ref w_EXPIRED), .val (.ref d177)] [(.ref w_EXPIRED)]))
    refine Go.via (fun _ => XS.aloadN X178.here hx rfl (hb hby at_149) rfl rfl) ?_
    show Go p e below _ (T178.setTop (mkF m 150 #[.val (.int p1), .val (.ref b101), .val (.int (8 : Int32)), .val (.ref w_EXPIRED), .val (.ref d177)] [(.ref w_EXPIRED), (.ref w_EXPIRED)]))
    refine Go.via (fun _ => Jvm.RoadKit.acmp (g := (mkF m 150 #[.val (.int p1), .val (.ref b101), .val (.int (8 : Int32)), .val (.ref w_EXPIRED), .val (.ref d177)] [(.ref w_EXPIRED), (.ref w_EXPIRED)])) X178 hx rfl rfl rfl (pc0 := 150) (pc' := 153) (same := true) rfl (hb hby at_150) rfl (decide_eq_true rfl) (by decide) (by decide)) ?_
    show Go p e below _ (T178.setTop (mkF m 153 #[.val (.int p1), .val (.ref b101), .val (.int (8 : Int32)), .val (.ref w_EXPIRED), .val (.ref d177)] []))
    refine Go.via (fun _ => XS.aload X178.here hx rfl (hb hby at_153) rfl rfl) ?_
    show Go p e below _ (T178.setTop (mkF m 155 #[.val (.int p1), .val (.ref b101), .val (.int (8 : Int32)), .val (.ref w_EXPIRED), .val (.ref d177)] [(.ref d177)]))
    obtain ⟨cq179, kq179, q179a, q179b, q179c⟩ := isOf hZ177 e178q ed177
    obtain ⟨_, _, ⟨T179, L179, k179, n179⟩, -, X179, ⟨Lc179, hQ179, l179, y179, z179⟩, st179⟩ := X178.virtualBack hx (y := (⟨"com/example/timed_cap/timedcap/model/Decision", "reached", "()Lcom/example/timed_cap/timedcap/model/Reference;"⟩ : MethodName)) (z := (⟨"com/example/timed_cap/timedcap/model/Decision", "reached", "()Lcom/example/timed_cap/timedcap/model/Reference;"⟩ : MethodName)) hown177 (mvT hZ177 (hw _ (List.mem_of_getElem? (i := 78) rfl))) (mvT hZ177 (hw _ (List.mem_of_getElem? (i := 79) rfl))) (notFace_of_selects (args := #[]) (mvT hZ177 (hw _ (List.mem_of_getElem? (i := 81) rfl)))) (mvT hZ177 (hw _ (List.mem_of_getElem? (i := 81) rfl))) (mvT hZ177 (hw _ (List.mem_of_getElem? (i := 80) rfl))) (by decide) (backOf (W := 0) (rm_reached l Z a0 hw [] d177 w_EXPIRED T177.heap n0 Zs177 fa177 fb177) hZ177 (hw _ (List.mem_of_getElem? (i := 82) rfl)) (hw _ (List.mem_of_getElem? (i := 41) rfl)) (by decide) (by decide)) q179a q179c (g := (mkF m 155 #[.val (.int p1), .val (.ref b101), .val (.int (8 : Int32)), .val (.ref w_EXPIRED), .val (.ref d177)] [(.ref d177)])) rfl (by rw [hml]; rfl) (Steps.refl _) (argsL := []) (rest := []) (lenOf pd_5 rfl) rfl (by show 2 * 0 + _ ≤ _; exact Nat.le_of_eq rfl) (hb hby at_155) (fun _ _ => ⟨rfl, e178q, (by decide : 4 + 0 ≤ _), (by decide : 47 + 0 ≤ _)⟩)
    dsimp only [Pt.U, Pt.locs, Pt.cells, Pt.slots] at X179 l179 y179 z179 st179 hQ179
    rw [l179, y179, z179] at X179
    replace X179 : Stand p l e _ _ m _ below meth c T179 _ 4 47 := X179
    obtain ⟨rfl, N179q, e179q⟩ := hQ179
    have N179 := Fr.app N178 N179q
    refine Go.tr st179 ?_
    show Go p e below _ (T179.setTop (mkF m 158 #[.val (.int p1), .val (.ref b101), .val (.int (8 : Int32)), .val (.ref w_EXPIRED), .val (.ref d177)] [.null]))
    refine Go.via (fun _ => XS.ifnonnullNo X179.here hx rfl (hb hby at_158) rfl) ?_
    show Go p e below _ (T179.setTop (mkF m 161 #[.val (.int p1), .val (.ref b101), .val (.int (8 : Int32)), .val (.ref w_EXPIRED), .val (.ref d177)] []))
    refine Go.via (fun _ => XS.aload X179.here hx rfl (hb hby at_161) rfl rfl) ?_
    show Go p e below _ (T179.setTop (mkF m 163 #[.val (.int p1), .val (.ref b101), .val (.int (8 : Int32)), .val (.ref w_EXPIRED), .val (.ref d177)] [(.ref d177)]))
    obtain ⟨cq180, kq180, q180a, q180b, q180c⟩ := isOf hZ177 e179q ed177
    obtain ⟨_, _, ⟨T180, L180, k180, n180⟩, -, X180, ⟨Lc180, hQ180, l180, y180, z180⟩, st180⟩ := X179.virtualBack hx (y := (⟨"com/example/timed_cap/timedcap/model/Decision", "isGranted", "()Z"⟩ : MethodName)) (z := (⟨"com/example/timed_cap/timedcap/model/Decision", "isGranted", "()Z"⟩ : MethodName)) hown177 (mvT hZ177 (hw _ (List.mem_of_getElem? (i := 83) rfl))) (mvT hZ177 (hw _ (List.mem_of_getElem? (i := 84) rfl))) (notFace_of_selects (args := #[]) (mvT hZ177 (hw _ (List.mem_of_getElem? (i := 86) rfl)))) (mvT hZ177 (hw _ (List.mem_of_getElem? (i := 86) rfl))) (mvT hZ177 (hw _ (List.mem_of_getElem? (i := 85) rfl))) (by decide) (backOf (W := 0) (rm_isGranted l Z a0 hw [] d177 w_EXPIRED T177.heap n0 Zs177 fa177 fb177) hZ177 (hw _ (List.mem_of_getElem? (i := 87) rfl)) (hw _ (List.mem_of_getElem? (i := 41) rfl)) (by decide) (by decide)) q180a q180c (g := (mkF m 163 #[.val (.int p1), .val (.ref b101), .val (.int (8 : Int32)), .val (.ref w_EXPIRED), .val (.ref d177)] [(.ref d177)])) rfl (by rw [hml]; rfl) (Steps.refl _) (argsL := []) (rest := []) (lenOf pd_6 rfl) rfl (by show 2 * 0 + _ ≤ _; exact Nat.le_of_eq rfl) (hb hby at_163) (fun _ _ => ⟨rfl, e179q, (by decide : 4 + 0 ≤ _), (by decide : 47 + 0 ≤ _)⟩)
    dsimp only [Pt.U, Pt.locs, Pt.cells, Pt.slots] at X180 l180 y180 z180 st180 hQ180
    rw [l180, y180, z180] at X180
    replace X180 : Stand p l e _ _ m _ below meth c T180 _ 4 47 := X180
    obtain ⟨rfl, N180q, e180q⟩ := hQ180
    have N180 := Fr.app N179 N180q
    refine Go.tr st180 ?_
    show Go p e below _ (T180.setTop (mkF m 166 #[.val (.int p1), .val (.ref b101), .val (.int (8 : Int32)), .val (.ref w_EXPIRED), .val (.ref d177)] [(.int (0 : Int32))]))
    refine Go.via (fun _ => XS.ifNo X180.here hx rfl (hb hby at_166) rfl (by decide)) ?_
    show Go p e below _ (T180.setTop (mkF m 169 #[.val (.int p1), .val (.ref b101), .val (.int (8 : Int32)), .val (.ref w_EXPIRED), .val (.ref d177)] []))
    refine Go.via (fun _ => XS.iconst X180.here hx rfl (hb hby at_169)) ?_
    show Go p e below _ (T180.setTop (mkF m 170 #[.val (.int p1), .val (.ref b101), .val (.int (8 : Int32)), .val (.ref w_EXPIRED), .val (.ref d177)] [(.int (1 : Int32))]))
    refine Go.via (fun _ => XS.goto X180.here hx rfl (pc0 := 170) (pc' := 174) rfl (hb hby at_170) (by decide) (by decide)) ?_
    show Go p e below _ (T180.setTop (mkF m 174 #[.val (.int p1), .val (.ref b101), .val (.int (8 : Int32)), .val (.ref w_EXPIRED), .val (.ref d177)] [(.int (1 : Int32))]))
    exact own_retNW X180 hS177 (by rw [e180q]; exact (Nat.le_refl _)) hx hlk (t := .boolean) Bd.returns (by simp) (hb hby at_174) (by show Q0 Z p1 w_MALFORMED w_ALTERED w_RESEALED w_NOT_HOLDER w_REVOKED w_NO_SUCH_VERSION w_NO_VERSION_YET w_NOT_YET_EFFECTIVE w_EXPIRED w_LEASE_ENDED w_OUTSIDE_SCHEDULE w_RIGHT_NOT_HELD w_VERSION_EXISTS w_NOT_A_HISTORY_CAPABILITY w_WIDENS_PARENT w_NOT_AN_ANCESTOR w_NO_SUCH_LEASE h0 n0 _ T180.heap _; rw [e180q]; exact ⟨rfl, N180⟩) (by decide) (by decide)
  ·
    show Go p e below _ (T135.setTop (mkF m 126 #[.val (.int p1), .val (.ref b101), .unset, .unset, .unset] [(.int (9 : Int32))]))
    refine Go.via (fun _ => XS.istoreN X135.here hx rfl (hb hby at_126) rfl (l' := #[.val (.int p1), .val (.ref b101), .val (.int (9 : Int32)), .unset, .unset]) rfl) ?_
    show Go p e below _ (T135.setTop (mkF m 127 #[.val (.int p1), .val (.ref b101), .val (.int (9 : Int32)), .unset, .unset] []))
    refine Go.via (fun _ => XS.aloadN X135.here hx rfl (hb hby at_127) rfl rfl) ?_
    show Go p e below _ (T135.setTop (mkF m 128 #[.val (.int p1), .val (.ref b101), .val (.int (9 : Int32)), .unset, .unset] [(.ref b101)]))
    refine Go.via (fun _ => XS.iloadN X135.here hx rfl (hb hby at_128) rfl) ?_
    show Go p e below _ (T135.setTop (mkF m 129 #[.val (.int p1), .val (.ref b101), .val (.int (9 : Int32)), .unset, .unset] [(.int (9 : Int32)), (.ref b101)]))
    obtain ⟨cl181, Ar181, q181, S181, N181n, H181, G181⟩ := id V135
    have hin181 := inb_of (j := (9 : Int32)) S181 (by decide)
    have hat181 : cl181.slots[((9 : Int32) : Int32).toNatClampNeg]? = some (.ref w_LEASE_ENDED) := H181.at hin181 rfl
    refine Go.via (X135.aaload hx (j := (9 : Int32)) (v := (.ref w_LEASE_ENDED)) (by rw [e135]; exact Ar181.1) (State.isArrayOf_alike hZ.alike Ar181.2.1) rfl Ar181.2.2 hin181 hat181 (g := (mkF m 129 #[.val (.int p1), .val (.ref b101), .val (.int (9 : Int32)), .unset, .unset] [(.int (9 : Int32)), (.ref b101)])) rfl rfl (hb hby at_129)) ?_
    show Go p e below _ (T135.setTop (mkF m 130 #[.val (.int p1), .val (.ref b101), .val (.int (9 : Int32)), .unset, .unset] [(.ref w_LEASE_ENDED)]))
    refine Go.via (fun _ => XS.astoreN X135.here hx rfl (hb hby at_130) rfl rfl (l' := #[.val (.int p1), .val (.ref b101), .val (.int (9 : Int32)), .val (.ref w_LEASE_ENDED), .unset]) rfl) ?_
    show Go p e below _ (T135.setTop (mkF m 131 #[.val (.int p1), .val (.ref b101), .val (.int (9 : Int32)), .val (.ref w_LEASE_ENDED), .unset] []))
    refine Go.via (fun _ => XS.aloadN X135.here hx rfl (hb hby at_131) rfl rfl) ?_
    show Go p e below _ (T135.setTop (mkF m 132 #[.val (.int p1), .val (.ref b101), .val (.int (9 : Int32)), .val (.ref w_LEASE_ENDED), .unset] [(.ref w_LEASE_ENDED)]))
    obtain ⟨_, _, ⟨T182, L182, k182, n182⟩, -, X182, S182w, gr182, ⟨Lc182, hQ182, l182, y182, z182⟩, st182⟩ := callSS X135 hx (y := (⟨"com/example/timed_cap/timedcap/model/Decision", "denied", "(Lcom/example/timed_cap/timedcap/model/Reason;)Lcom/example/timed_cap/timedcap/model/Decision;"⟩ : MethodName)) hown (mvT hZ (hw _ (List.mem_of_getElem? (i := 39) rfl))) (mvT hZ (hw _ (List.mem_of_getElem? (i := 40) rfl))) (mvT hZ (hw _ (List.mem_of_getElem? (i := 41) rfl))) (mvT hZ (hw _ (List.mem_of_getElem? (i := 42) rfl))) (by decide) (backOfS (W := 0) (rmDen l Z a0 hw [] w_LEASE_ENDED h135 n0 Zs135 (E_LEASE_ENDED.ext O135.2)) hZ (hw _ (List.mem_of_getElem? (i := 42) rfl)) (hw _ (List.mem_of_getElem? (i := 41) rfl)) (by decide) (by decide)) (g := (mkF m 132 #[.val (.int p1), .val (.ref b101), .val (.int (9 : Int32)), .val (.ref w_LEASE_ENDED), .unset] [(.ref w_LEASE_ENDED)])) rfl (by rw [hml]; rfl) (argsL := [(.ref w_LEASE_ENDED)]) (rest := []) (lenOf pd_3 rfl) rfl (by show 2 * 0 + _ ≤ _; exact Nat.le_of_eq rfl) (hb hby at_132) (fun _ _ => ⟨rfl, e135, (by decide : 1 + 3 ≤ _), (by decide : 17 + 30 ≤ _)⟩)
    dsimp only [Pt.U, Pt.locs, Pt.cells, Pt.slots] at X182 l182 y182 z182 st182 hQ182 S182w gr182
    rw [l182, y182, z182] at X182
    replace X182 : Stand p l e _ _ m _ below meth c T182 _ 4 47 := X182
    obtain ⟨d182, rfl, N182q, K182q, gd182, ed182, fa182, fb182⟩ := hQ182
    have N182 := Fr.app N135 N182q
    refine Go.tr st182 ?_
    obtain ⟨X182r, hS182, hZ182, hown182⟩ := rebS hS0 (by rw [e135]; exact hk135) X182 S182w gr182 hZ hown
    have Zs182 : n0 ≤ T182.heap.size := Nat.le_trans Zs135 K182q.1
    have O182 : Old Z n0 T182.heap := O135.keep K182q all0
    have fV_b101_182 := V135.keep K182q nin0
    have g_d182 : n0 ≤ d182 := Nat.le_trans Zs135 gd182
    have ne_b101_d182 : b101 ≠ d182 := Nat.ne_of_lt (Nat.lt_of_lt_of_le V135.lt gd182)
    show Go p e below _ (T182.setTop (mkF m 135 #[.val (.int p1), .val (.ref b101), .val (.int (9 : Int32)), .val (.ref w_LEASE_ENDED), .unset] [(.ref d182)]))
    refine Go.via (fun _ => XS.astore X182r.here hx rfl (hb hby at_135) rfl rfl (l' := #[.val (.int p1), .val (.ref b101), .val (.int (9 : Int32)), .val (.ref w_LEASE_ENDED), .val (.ref d182)]) rfl) ?_
    show Go p e below _ (T182.setTop (mkF m 137 #[.val (.int p1), .val (.ref b101), .val (.int (9 : Int32)), .val (.ref w_LEASE_ENDED), .val (.ref d182)] []))
    refine Go.via (fun _ => XS.aload X182r.here hx rfl (hb hby at_137) rfl rfl) ?_
    show Go p e below _ (T182.setTop (mkF m 139 #[.val (.int p1), .val (.ref b101), .val (.int (9 : Int32)), .val (.ref w_LEASE_ENDED), .val (.ref d182)] [(.ref d182)]))
    refine Go.via (fun _ => XS.ifnonnullYes X182r.here hx rfl (pc0 := 139) (pc' := 144) rfl (hb hby at_139) rfl (by decide) (by decide)) ?_
    show Go p e below _ (T182.setTop (mkF m 144 #[.val (.int p1), .val (.ref b101), .val (.int (9 : Int32)), .val (.ref w_LEASE_ENDED), .val (.ref d182)] []))
    refine Go.via (fun _ => XS.aload X182r.here hx rfl (hb hby at_144) rfl rfl) ?_
    show Go p e below _ (T182.setTop (mkF m 146 #[.val (.int p1), .val (.ref b101), .val (.int (9 : Int32)), .val (.ref w_LEASE_ENDED), .val (.ref d182)] [(.ref d182)]))
    obtain ⟨cq183, kq183, q183a, q183b, q183c⟩ := isOf hZ182 rfl ed182
    obtain ⟨_, _, ⟨T183, L183, k183, n183⟩, -, X183, ⟨Lc183, hQ183, l183, y183, z183⟩, st183⟩ := X182r.virtualBack hx (y := (⟨"com/example/timed_cap/timedcap/model/Decision", "reason", "()Lcom/example/timed_cap/timedcap/model/Reason;"⟩ : MethodName)) (z := (⟨"com/example/timed_cap/timedcap/model/Decision", "reason", "()Lcom/example/timed_cap/timedcap/model/Reason;"⟩ : MethodName)) hown182 (mvT hZ182 (hw _ (List.mem_of_getElem? (i := 73) rfl))) (mvT hZ182 (hw _ (List.mem_of_getElem? (i := 74) rfl))) (notFace_of_selects (args := #[]) (mvT hZ182 (hw _ (List.mem_of_getElem? (i := 76) rfl)))) (mvT hZ182 (hw _ (List.mem_of_getElem? (i := 76) rfl))) (mvT hZ182 (hw _ (List.mem_of_getElem? (i := 75) rfl))) (by decide) (backOf (W := 0) (rm_reason l Z a0 hw [] d182 w_LEASE_ENDED T182.heap n0 Zs182 fa182 fb182) hZ182 (hw _ (List.mem_of_getElem? (i := 77) rfl)) (hw _ (List.mem_of_getElem? (i := 41) rfl)) (by decide) (by decide)) q183a q183c (g := (mkF m 146 #[.val (.int p1), .val (.ref b101), .val (.int (9 : Int32)), .val (.ref w_LEASE_ENDED), .val (.ref d182)] [(.ref d182)])) rfl (by rw [hml]; rfl) (Steps.refl _) (argsL := []) (rest := []) (lenOf pd_4 rfl) rfl (by show 2 * 0 + _ ≤ _; exact Nat.le_of_eq rfl) (hb hby at_146) (fun _ _ => ⟨rfl, rfl, (by decide : 4 + 0 ≤ _), (by decide : 47 + 0 ≤ _)⟩)
    dsimp only [Pt.U, Pt.locs, Pt.cells, Pt.slots] at X183 l183 y183 z183 st183 hQ183
    rw [l183, y183, z183] at X183
    replace X183 : Stand p l e _ _ m _ below meth c T183 _ 4 47 := X183
    obtain ⟨rfl, N183q, e183q⟩ := hQ183
    have N183 := Fr.app N182 N183q
    refine Go.tr st183 ?_
    show Go p e below _ (T183.setTop (mkF m 149 #[.val (.int p1), .val (.ref b101), .val (.int (9 : Int32)), .val (.ref w_LEASE_ENDED), .val (.ref d182)] [(.ref w_LEASE_ENDED)]))
    refine Go.via (fun _ => XS.aloadN X183.here hx rfl (hb hby at_149) rfl rfl) ?_
    show Go p e below _ (T183.setTop (mkF m 150 #[.val (.int p1), .val (.ref b101), .val (.int (9 : Int32)), .val (.ref w_LEASE_ENDED), .val (.ref d182)] [(.ref w_LEASE_ENDED), (.ref w_LEASE_ENDED)]))
    refine Go.via (fun _ => Jvm.RoadKit.acmp (g := (mkF m 150 #[.val (.int p1), .val (.ref b101), .val (.int (9 : Int32)), .val (.ref w_LEASE_ENDED), .val (.ref d182)] [(.ref w_LEASE_ENDED), (.ref w_LEASE_ENDED)])) X183 hx rfl rfl rfl (pc0 := 150) (pc' := 153) (same := true) rfl (hb hby at_150) rfl (decide_eq_true rfl) (by decide) (by decide)) ?_
    show Go p e below _ (T183.setTop (mkF m 153 #[.val (.int p1), .val (.ref b101), .val (.int (9 : Int32)), .val (.ref w_LEASE_ENDED), .val (.ref d182)] []))
    refine Go.via (fun _ => XS.aload X183.here hx rfl (hb hby at_153) rfl rfl) ?_
    show Go p e below _ (T183.setTop (mkF m 155 #[.val (.int p1), .val (.ref b101), .val (.int (9 : Int32)), .val (.ref w_LEASE_ENDED), .val (.ref d182)] [(.ref d182)]))
    obtain ⟨cq184, kq184, q184a, q184b, q184c⟩ := isOf hZ182 e183q ed182
    obtain ⟨_, _, ⟨T184, L184, k184, n184⟩, -, X184, ⟨Lc184, hQ184, l184, y184, z184⟩, st184⟩ := X183.virtualBack hx (y := (⟨"com/example/timed_cap/timedcap/model/Decision", "reached", "()Lcom/example/timed_cap/timedcap/model/Reference;"⟩ : MethodName)) (z := (⟨"com/example/timed_cap/timedcap/model/Decision", "reached", "()Lcom/example/timed_cap/timedcap/model/Reference;"⟩ : MethodName)) hown182 (mvT hZ182 (hw _ (List.mem_of_getElem? (i := 78) rfl))) (mvT hZ182 (hw _ (List.mem_of_getElem? (i := 79) rfl))) (notFace_of_selects (args := #[]) (mvT hZ182 (hw _ (List.mem_of_getElem? (i := 81) rfl)))) (mvT hZ182 (hw _ (List.mem_of_getElem? (i := 81) rfl))) (mvT hZ182 (hw _ (List.mem_of_getElem? (i := 80) rfl))) (by decide) (backOf (W := 0) (rm_reached l Z a0 hw [] d182 w_LEASE_ENDED T182.heap n0 Zs182 fa182 fb182) hZ182 (hw _ (List.mem_of_getElem? (i := 82) rfl)) (hw _ (List.mem_of_getElem? (i := 41) rfl)) (by decide) (by decide)) q184a q184c (g := (mkF m 155 #[.val (.int p1), .val (.ref b101), .val (.int (9 : Int32)), .val (.ref w_LEASE_ENDED), .val (.ref d182)] [(.ref d182)])) rfl (by rw [hml]; rfl) (Steps.refl _) (argsL := []) (rest := []) (lenOf pd_5 rfl) rfl (by show 2 * 0 + _ ≤ _; exact Nat.le_of_eq rfl) (hb hby at_155) (fun _ _ => ⟨rfl, e183q, (by decide : 4 + 0 ≤ _), (by decide : 47 + 0 ≤ _)⟩)
    dsimp only [Pt.U, Pt.locs, Pt.cells, Pt.slots] at X184 l184 y184 z184 st184 hQ184
    rw [l184, y184, z184] at X184
    replace X184 : Stand p l e _ _ m _ below meth c T184 _ 4 47 := X184
    obtain ⟨rfl, N184q, e184q⟩ := hQ184
    have N184 := Fr.app N183 N184q
    refine Go.tr st184 ?_
    show Go p e below _ (T184.setTop (mkF m 158 #[.val (.int p1), .val (.ref b101), .val (.int (9 : Int32)), .val (.ref w_LEASE_ENDED), .val (.ref d182)] [.null]))
    refine Go.via (fun _ => XS.ifnonnullNo X184.here hx rfl (hb hby at_158) rfl) ?_
    show Go p e below _ (T184.setTop (mkF m 161 #[.val (.int p1), .val (.ref b101), .val (.int (9 : Int32)), .val (.ref w_LEASE_ENDED), .val (.ref d182)] []))
    refine Go.via (fun _ => XS.aload X184.here hx rfl (hb hby at_161) rfl rfl) ?_
    show Go p e below _ (T184.setTop (mkF m 163 #[.val (.int p1), .val (.ref b101), .val (.int (9 : Int32)), .val (.ref w_LEASE_ENDED), .val (.ref d182)] [(.ref d182)]))
    obtain ⟨cq185, kq185, q185a, q185b, q185c⟩ := isOf hZ182 e184q ed182
    obtain ⟨_, _, ⟨T185, L185, k185, n185⟩, -, X185, ⟨Lc185, hQ185, l185, y185, z185⟩, st185⟩ := X184.virtualBack hx (y := (⟨"com/example/timed_cap/timedcap/model/Decision", "isGranted", "()Z"⟩ : MethodName)) (z := (⟨"com/example/timed_cap/timedcap/model/Decision", "isGranted", "()Z"⟩ : MethodName)) hown182 (mvT hZ182 (hw _ (List.mem_of_getElem? (i := 83) rfl))) (mvT hZ182 (hw _ (List.mem_of_getElem? (i := 84) rfl))) (notFace_of_selects (args := #[]) (mvT hZ182 (hw _ (List.mem_of_getElem? (i := 86) rfl)))) (mvT hZ182 (hw _ (List.mem_of_getElem? (i := 86) rfl))) (mvT hZ182 (hw _ (List.mem_of_getElem? (i := 85) rfl))) (by decide) (backOf (W := 0) (rm_isGranted l Z a0 hw [] d182 w_LEASE_ENDED T182.heap n0 Zs182 fa182 fb182) hZ182 (hw _ (List.mem_of_getElem? (i := 87) rfl)) (hw _ (List.mem_of_getElem? (i := 41) rfl)) (by decide) (by decide)) q185a q185c (g := (mkF m 163 #[.val (.int p1), .val (.ref b101), .val (.int (9 : Int32)), .val (.ref w_LEASE_ENDED), .val (.ref d182)] [(.ref d182)])) rfl (by rw [hml]; rfl) (Steps.refl _) (argsL := []) (rest := []) (lenOf pd_6 rfl) rfl (by show 2 * 0 + _ ≤ _; exact Nat.le_of_eq rfl) (hb hby at_163) (fun _ _ => ⟨rfl, e184q, (by decide : 4 + 0 ≤ _), (by decide : 47 + 0 ≤ _)⟩)
    dsimp only [Pt.U, Pt.locs, Pt.cells, Pt.slots] at X185 l185 y185 z185 st185 hQ185
    rw [l185, y185, z185] at X185
    replace X185 : Stand p l e _ _ m _ below meth c T185 _ 4 47 := X185
    obtain ⟨rfl, N185q, e185q⟩ := hQ185
    have N185 := Fr.app N184 N185q
    refine Go.tr st185 ?_
    show Go p e below _ (T185.setTop (mkF m 166 #[.val (.int p1), .val (.ref b101), .val (.int (9 : Int32)), .val (.ref w_LEASE_ENDED), .val (.ref d182)] [(.int (0 : Int32))]))
    refine Go.via (fun _ => XS.ifNo X185.here hx rfl (hb hby at_166) rfl (by decide)) ?_
    show Go p e below _ (T185.setTop (mkF m 169 #[.val (.int p1), .val (.ref b101), .val (.int (9 : Int32)), .val (.ref w_LEASE_ENDED), .val (.ref d182)] []))
    refine Go.via (fun _ => XS.iconst X185.here hx rfl (hb hby at_169)) ?_
    show Go p e below _ (T185.setTop (mkF m 170 #[.val (.int p1), .val (.ref b101), .val (.int (9 : Int32)), .val (.ref w_LEASE_ENDED), .val (.ref d182)] [(.int (1 : Int32))]))
    refine Go.via (fun _ => XS.goto X185.here hx rfl (pc0 := 170) (pc' := 174) rfl (hb hby at_170) (by decide) (by decide)) ?_
    show Go p e below _ (T185.setTop (mkF m 174 #[.val (.int p1), .val (.ref b101), .val (.int (9 : Int32)), .val (.ref w_LEASE_ENDED), .val (.ref d182)] [(.int (1 : Int32))]))
    exact own_retNW X185 hS182 (by rw [e185q]; exact (Nat.le_refl _)) hx hlk (t := .boolean) Bd.returns (by simp) (hb hby at_174) (by show Q0 Z p1 w_MALFORMED w_ALTERED w_RESEALED w_NOT_HOLDER w_REVOKED w_NO_SUCH_VERSION w_NO_VERSION_YET w_NOT_YET_EFFECTIVE w_EXPIRED w_LEASE_ENDED w_OUTSIDE_SCHEDULE w_RIGHT_NOT_HELD w_VERSION_EXISTS w_NOT_A_HISTORY_CAPABILITY w_WIDENS_PARENT w_NOT_AN_ANCESTOR w_NO_SUCH_LEASE h0 n0 _ T185.heap _; rw [e185q]; exact ⟨rfl, N185⟩) (by decide) (by decide)
  ·
    show Go p e below _ (T135.setTop (mkF m 126 #[.val (.int p1), .val (.ref b101), .unset, .unset, .unset] [(.int (10 : Int32))]))
    refine Go.via (fun _ => XS.istoreN X135.here hx rfl (hb hby at_126) rfl (l' := #[.val (.int p1), .val (.ref b101), .val (.int (10 : Int32)), .unset, .unset]) rfl) ?_
    show Go p e below _ (T135.setTop (mkF m 127 #[.val (.int p1), .val (.ref b101), .val (.int (10 : Int32)), .unset, .unset] []))
    refine Go.via (fun _ => XS.aloadN X135.here hx rfl (hb hby at_127) rfl rfl) ?_
    show Go p e below _ (T135.setTop (mkF m 128 #[.val (.int p1), .val (.ref b101), .val (.int (10 : Int32)), .unset, .unset] [(.ref b101)]))
    refine Go.via (fun _ => XS.iloadN X135.here hx rfl (hb hby at_128) rfl) ?_
    show Go p e below _ (T135.setTop (mkF m 129 #[.val (.int p1), .val (.ref b101), .val (.int (10 : Int32)), .unset, .unset] [(.int (10 : Int32)), (.ref b101)]))
    obtain ⟨cl186, Ar186, q186, S186, N186n, H186, G186⟩ := id V135
    have hin186 := inb_of (j := (10 : Int32)) S186 (by decide)
    have hat186 : cl186.slots[((10 : Int32) : Int32).toNatClampNeg]? = some (.ref w_OUTSIDE_SCHEDULE) := H186.at hin186 rfl
    refine Go.via (X135.aaload hx (j := (10 : Int32)) (v := (.ref w_OUTSIDE_SCHEDULE)) (by rw [e135]; exact Ar186.1) (State.isArrayOf_alike hZ.alike Ar186.2.1) rfl Ar186.2.2 hin186 hat186 (g := (mkF m 129 #[.val (.int p1), .val (.ref b101), .val (.int (10 : Int32)), .unset, .unset] [(.int (10 : Int32)), (.ref b101)])) rfl rfl (hb hby at_129)) ?_
    show Go p e below _ (T135.setTop (mkF m 130 #[.val (.int p1), .val (.ref b101), .val (.int (10 : Int32)), .unset, .unset] [(.ref w_OUTSIDE_SCHEDULE)]))
    refine Go.via (fun _ => XS.astoreN X135.here hx rfl (hb hby at_130) rfl rfl (l' := #[.val (.int p1), .val (.ref b101), .val (.int (10 : Int32)), .val (.ref w_OUTSIDE_SCHEDULE), .unset]) rfl) ?_
    show Go p e below _ (T135.setTop (mkF m 131 #[.val (.int p1), .val (.ref b101), .val (.int (10 : Int32)), .val (.ref w_OUTSIDE_SCHEDULE), .unset] []))
    refine Go.via (fun _ => XS.aloadN X135.here hx rfl (hb hby at_131) rfl rfl) ?_
    show Go p e below _ (T135.setTop (mkF m 132 #[.val (.int p1), .val (.ref b101), .val (.int (10 : Int32)), .val (.ref w_OUTSIDE_SCHEDULE), .unset] [(.ref w_OUTSIDE_SCHEDULE)]))
    obtain ⟨_, _, ⟨T187, L187, k187, n187⟩, -, X187, S187w, gr187, ⟨Lc187, hQ187, l187, y187, z187⟩, st187⟩ := callSS X135 hx (y := (⟨"com/example/timed_cap/timedcap/model/Decision", "denied", "(Lcom/example/timed_cap/timedcap/model/Reason;)Lcom/example/timed_cap/timedcap/model/Decision;"⟩ : MethodName)) hown (mvT hZ (hw _ (List.mem_of_getElem? (i := 39) rfl))) (mvT hZ (hw _ (List.mem_of_getElem? (i := 40) rfl))) (mvT hZ (hw _ (List.mem_of_getElem? (i := 41) rfl))) (mvT hZ (hw _ (List.mem_of_getElem? (i := 42) rfl))) (by decide) (backOfS (W := 0) (rmDen l Z a0 hw [] w_OUTSIDE_SCHEDULE h135 n0 Zs135 (E_OUTSIDE_SCHEDULE.ext O135.2)) hZ (hw _ (List.mem_of_getElem? (i := 42) rfl)) (hw _ (List.mem_of_getElem? (i := 41) rfl)) (by decide) (by decide)) (g := (mkF m 132 #[.val (.int p1), .val (.ref b101), .val (.int (10 : Int32)), .val (.ref w_OUTSIDE_SCHEDULE), .unset] [(.ref w_OUTSIDE_SCHEDULE)])) rfl (by rw [hml]; rfl) (argsL := [(.ref w_OUTSIDE_SCHEDULE)]) (rest := []) (lenOf pd_3 rfl) rfl (by show 2 * 0 + _ ≤ _; exact Nat.le_of_eq rfl) (hb hby at_132) (fun _ _ => ⟨rfl, e135, (by decide : 1 + 3 ≤ _), (by decide : 17 + 30 ≤ _)⟩)
    dsimp only [Pt.U, Pt.locs, Pt.cells, Pt.slots] at X187 l187 y187 z187 st187 hQ187 S187w gr187
    rw [l187, y187, z187] at X187
    replace X187 : Stand p l e _ _ m _ below meth c T187 _ 4 47 := X187
    obtain ⟨d187, rfl, N187q, K187q, gd187, ed187, fa187, fb187⟩ := hQ187
    have N187 := Fr.app N135 N187q
    refine Go.tr st187 ?_
    obtain ⟨X187r, hS187, hZ187, hown187⟩ := rebS hS0 (by rw [e135]; exact hk135) X187 S187w gr187 hZ hown
    have Zs187 : n0 ≤ T187.heap.size := Nat.le_trans Zs135 K187q.1
    have O187 : Old Z n0 T187.heap := O135.keep K187q all0
    have fV_b101_187 := V135.keep K187q nin0
    have g_d187 : n0 ≤ d187 := Nat.le_trans Zs135 gd187
    have ne_b101_d187 : b101 ≠ d187 := Nat.ne_of_lt (Nat.lt_of_lt_of_le V135.lt gd187)
    show Go p e below _ (T187.setTop (mkF m 135 #[.val (.int p1), .val (.ref b101), .val (.int (10 : Int32)), .val (.ref w_OUTSIDE_SCHEDULE), .unset] [(.ref d187)]))
    refine Go.via (fun _ => XS.astore X187r.here hx rfl (hb hby at_135) rfl rfl (l' := #[.val (.int p1), .val (.ref b101), .val (.int (10 : Int32)), .val (.ref w_OUTSIDE_SCHEDULE), .val (.ref d187)]) rfl) ?_
    show Go p e below _ (T187.setTop (mkF m 137 #[.val (.int p1), .val (.ref b101), .val (.int (10 : Int32)), .val (.ref w_OUTSIDE_SCHEDULE), .val (.ref d187)] []))
    refine Go.via (fun _ => XS.aload X187r.here hx rfl (hb hby at_137) rfl rfl) ?_
    show Go p e below _ (T187.setTop (mkF m 139 #[.val (.int p1), .val (.ref b101), .val (.int (10 : Int32)), .val (.ref w_OUTSIDE_SCHEDULE), .val (.ref d187)] [(.ref d187)]))
    refine Go.via (fun _ => XS.ifnonnullYes X187r.here hx rfl (pc0 := 139) (pc' := 144) rfl (hb hby at_139) rfl (by decide) (by decide)) ?_
    show Go p e below _ (T187.setTop (mkF m 144 #[.val (.int p1), .val (.ref b101), .val (.int (10 : Int32)), .val (.ref w_OUTSIDE_SCHEDULE), .val (.ref d187)] []))
    refine Go.via (fun _ => XS.aload X187r.here hx rfl (hb hby at_144) rfl rfl) ?_
    show Go p e below _ (T187.setTop (mkF m 146 #[.val (.int p1), .val (.ref b101), .val (.int (10 : Int32)), .val (.ref w_OUTSIDE_SCHEDULE), .val (.ref d187)] [(.ref d187)]))
    obtain ⟨cq188, kq188, q188a, q188b, q188c⟩ := isOf hZ187 rfl ed187
    obtain ⟨_, _, ⟨T188, L188, k188, n188⟩, -, X188, ⟨Lc188, hQ188, l188, y188, z188⟩, st188⟩ := X187r.virtualBack hx (y := (⟨"com/example/timed_cap/timedcap/model/Decision", "reason", "()Lcom/example/timed_cap/timedcap/model/Reason;"⟩ : MethodName)) (z := (⟨"com/example/timed_cap/timedcap/model/Decision", "reason", "()Lcom/example/timed_cap/timedcap/model/Reason;"⟩ : MethodName)) hown187 (mvT hZ187 (hw _ (List.mem_of_getElem? (i := 73) rfl))) (mvT hZ187 (hw _ (List.mem_of_getElem? (i := 74) rfl))) (notFace_of_selects (args := #[]) (mvT hZ187 (hw _ (List.mem_of_getElem? (i := 76) rfl)))) (mvT hZ187 (hw _ (List.mem_of_getElem? (i := 76) rfl))) (mvT hZ187 (hw _ (List.mem_of_getElem? (i := 75) rfl))) (by decide) (backOf (W := 0) (rm_reason l Z a0 hw [] d187 w_OUTSIDE_SCHEDULE T187.heap n0 Zs187 fa187 fb187) hZ187 (hw _ (List.mem_of_getElem? (i := 77) rfl)) (hw _ (List.mem_of_getElem? (i := 41) rfl)) (by decide) (by decide)) q188a q188c (g := (mkF m 146 #[.val (.int p1), .val (.ref b101), .val (.int (10 : Int32)), .val (.ref w_OUTSIDE_SCHEDULE), .val (.ref d187)] [(.ref d187)])) rfl (by rw [hml]; rfl) (Steps.refl _) (argsL := []) (rest := []) (lenOf pd_4 rfl) rfl (by show 2 * 0 + _ ≤ _; exact Nat.le_of_eq rfl) (hb hby at_146) (fun _ _ => ⟨rfl, rfl, (by decide : 4 + 0 ≤ _), (by decide : 47 + 0 ≤ _)⟩)
    dsimp only [Pt.U, Pt.locs, Pt.cells, Pt.slots] at X188 l188 y188 z188 st188 hQ188
    rw [l188, y188, z188] at X188
    replace X188 : Stand p l e _ _ m _ below meth c T188 _ 4 47 := X188
    obtain ⟨rfl, N188q, e188q⟩ := hQ188
    have N188 := Fr.app N187 N188q
    refine Go.tr st188 ?_
    show Go p e below _ (T188.setTop (mkF m 149 #[.val (.int p1), .val (.ref b101), .val (.int (10 : Int32)), .val (.ref w_OUTSIDE_SCHEDULE), .val (.ref d187)] [(.ref w_OUTSIDE_SCHEDULE)]))
    refine Go.via (fun _ => XS.aloadN X188.here hx rfl (hb hby at_149) rfl rfl) ?_
    show Go p e below _ (T188.setTop (mkF m 150 #[.val (.int p1), .val (.ref b101), .val (.int (10 : Int32)), .val (.ref w_OUTSIDE_SCHEDULE), .val (.ref d187)] [(.ref w_OUTSIDE_SCHEDULE), (.ref w_OUTSIDE_SCHEDULE)]))
    refine Go.via (fun _ => Jvm.RoadKit.acmp (g := (mkF m 150 #[.val (.int p1), .val (.ref b101), .val (.int (10 : Int32)), .val (.ref w_OUTSIDE_SCHEDULE), .val (.ref d187)] [(.ref w_OUTSIDE_SCHEDULE), (.ref w_OUTSIDE_SCHEDULE)])) X188 hx rfl rfl rfl (pc0 := 150) (pc' := 153) (same := true) rfl (hb hby at_150) rfl (decide_eq_true rfl) (by decide) (by decide)) ?_
    show Go p e below _ (T188.setTop (mkF m 153 #[.val (.int p1), .val (.ref b101), .val (.int (10 : Int32)), .val (.ref w_OUTSIDE_SCHEDULE), .val (.ref d187)] []))
    refine Go.via (fun _ => XS.aload X188.here hx rfl (hb hby at_153) rfl rfl) ?_
    show Go p e below _ (T188.setTop (mkF m 155 #[.val (.int p1), .val (.ref b101), .val (.int (10 : Int32)), .val (.ref w_OUTSIDE_SCHEDULE), .val (.ref d187)] [(.ref d187)]))
    obtain ⟨cq189, kq189, q189a, q189b, q189c⟩ := isOf hZ187 e188q ed187
    obtain ⟨_, _, ⟨T189, L189, k189, n189⟩, -, X189, ⟨Lc189, hQ189, l189, y189, z189⟩, st189⟩ := X188.virtualBack hx (y := (⟨"com/example/timed_cap/timedcap/model/Decision", "reached", "()Lcom/example/timed_cap/timedcap/model/Reference;"⟩ : MethodName)) (z := (⟨"com/example/timed_cap/timedcap/model/Decision", "reached", "()Lcom/example/timed_cap/timedcap/model/Reference;"⟩ : MethodName)) hown187 (mvT hZ187 (hw _ (List.mem_of_getElem? (i := 78) rfl))) (mvT hZ187 (hw _ (List.mem_of_getElem? (i := 79) rfl))) (notFace_of_selects (args := #[]) (mvT hZ187 (hw _ (List.mem_of_getElem? (i := 81) rfl)))) (mvT hZ187 (hw _ (List.mem_of_getElem? (i := 81) rfl))) (mvT hZ187 (hw _ (List.mem_of_getElem? (i := 80) rfl))) (by decide) (backOf (W := 0) (rm_reached l Z a0 hw [] d187 w_OUTSIDE_SCHEDULE T187.heap n0 Zs187 fa187 fb187) hZ187 (hw _ (List.mem_of_getElem? (i := 82) rfl)) (hw _ (List.mem_of_getElem? (i := 41) rfl)) (by decide) (by decide)) q189a q189c (g := (mkF m 155 #[.val (.int p1), .val (.ref b101), .val (.int (10 : Int32)), .val (.ref w_OUTSIDE_SCHEDULE), .val (.ref d187)] [(.ref d187)])) rfl (by rw [hml]; rfl) (Steps.refl _) (argsL := []) (rest := []) (lenOf pd_5 rfl) rfl (by show 2 * 0 + _ ≤ _; exact Nat.le_of_eq rfl) (hb hby at_155) (fun _ _ => ⟨rfl, e188q, (by decide : 4 + 0 ≤ _), (by decide : 47 + 0 ≤ _)⟩)
    dsimp only [Pt.U, Pt.locs, Pt.cells, Pt.slots] at X189 l189 y189 z189 st189 hQ189
    rw [l189, y189, z189] at X189
    replace X189 : Stand p l e _ _ m _ below meth c T189 _ 4 47 := X189
    obtain ⟨rfl, N189q, e189q⟩ := hQ189
    have N189 := Fr.app N188 N189q
    refine Go.tr st189 ?_
    show Go p e below _ (T189.setTop (mkF m 158 #[.val (.int p1), .val (.ref b101), .val (.int (10 : Int32)), .val (.ref w_OUTSIDE_SCHEDULE), .val (.ref d187)] [.null]))
    refine Go.via (fun _ => XS.ifnonnullNo X189.here hx rfl (hb hby at_158) rfl) ?_
    show Go p e below _ (T189.setTop (mkF m 161 #[.val (.int p1), .val (.ref b101), .val (.int (10 : Int32)), .val (.ref w_OUTSIDE_SCHEDULE), .val (.ref d187)] []))
    refine Go.via (fun _ => XS.aload X189.here hx rfl (hb hby at_161) rfl rfl) ?_
    show Go p e below _ (T189.setTop (mkF m 163 #[.val (.int p1), .val (.ref b101), .val (.int (10 : Int32)), .val (.ref w_OUTSIDE_SCHEDULE), .val (.ref d187)] [(.ref d187)]))
    obtain ⟨cq190, kq190, q190a, q190b, q190c⟩ := isOf hZ187 e189q ed187
    obtain ⟨_, _, ⟨T190, L190, k190, n190⟩, -, X190, ⟨Lc190, hQ190, l190, y190, z190⟩, st190⟩ := X189.virtualBack hx (y := (⟨"com/example/timed_cap/timedcap/model/Decision", "isGranted", "()Z"⟩ : MethodName)) (z := (⟨"com/example/timed_cap/timedcap/model/Decision", "isGranted", "()Z"⟩ : MethodName)) hown187 (mvT hZ187 (hw _ (List.mem_of_getElem? (i := 83) rfl))) (mvT hZ187 (hw _ (List.mem_of_getElem? (i := 84) rfl))) (notFace_of_selects (args := #[]) (mvT hZ187 (hw _ (List.mem_of_getElem? (i := 86) rfl)))) (mvT hZ187 (hw _ (List.mem_of_getElem? (i := 86) rfl))) (mvT hZ187 (hw _ (List.mem_of_getElem? (i := 85) rfl))) (by decide) (backOf (W := 0) (rm_isGranted l Z a0 hw [] d187 w_OUTSIDE_SCHEDULE T187.heap n0 Zs187 fa187 fb187) hZ187 (hw _ (List.mem_of_getElem? (i := 87) rfl)) (hw _ (List.mem_of_getElem? (i := 41) rfl)) (by decide) (by decide)) q190a q190c (g := (mkF m 163 #[.val (.int p1), .val (.ref b101), .val (.int (10 : Int32)), .val (.ref w_OUTSIDE_SCHEDULE), .val (.ref d187)] [(.ref d187)])) rfl (by rw [hml]; rfl) (Steps.refl _) (argsL := []) (rest := []) (lenOf pd_6 rfl) rfl (by show 2 * 0 + _ ≤ _; exact Nat.le_of_eq rfl) (hb hby at_163) (fun _ _ => ⟨rfl, e189q, (by decide : 4 + 0 ≤ _), (by decide : 47 + 0 ≤ _)⟩)
    dsimp only [Pt.U, Pt.locs, Pt.cells, Pt.slots] at X190 l190 y190 z190 st190 hQ190
    rw [l190, y190, z190] at X190
    replace X190 : Stand p l e _ _ m _ below meth c T190 _ 4 47 := X190
    obtain ⟨rfl, N190q, e190q⟩ := hQ190
    have N190 := Fr.app N189 N190q
    refine Go.tr st190 ?_
    show Go p e below _ (T190.setTop (mkF m 166 #[.val (.int p1), .val (.ref b101), .val (.int (10 : Int32)), .val (.ref w_OUTSIDE_SCHEDULE), .val (.ref d187)] [(.int (0 : Int32))]))
    refine Go.via (fun _ => XS.ifNo X190.here hx rfl (hb hby at_166) rfl (by decide)) ?_
    show Go p e below _ (T190.setTop (mkF m 169 #[.val (.int p1), .val (.ref b101), .val (.int (10 : Int32)), .val (.ref w_OUTSIDE_SCHEDULE), .val (.ref d187)] []))
    refine Go.via (fun _ => XS.iconst X190.here hx rfl (hb hby at_169)) ?_
    show Go p e below _ (T190.setTop (mkF m 170 #[.val (.int p1), .val (.ref b101), .val (.int (10 : Int32)), .val (.ref w_OUTSIDE_SCHEDULE), .val (.ref d187)] [(.int (1 : Int32))]))
    refine Go.via (fun _ => XS.goto X190.here hx rfl (pc0 := 170) (pc' := 174) rfl (hb hby at_170) (by decide) (by decide)) ?_
    show Go p e below _ (T190.setTop (mkF m 174 #[.val (.int p1), .val (.ref b101), .val (.int (10 : Int32)), .val (.ref w_OUTSIDE_SCHEDULE), .val (.ref d187)] [(.int (1 : Int32))]))
    exact own_retNW X190 hS187 (by rw [e190q]; exact (Nat.le_refl _)) hx hlk (t := .boolean) Bd.returns (by simp) (hb hby at_174) (by show Q0 Z p1 w_MALFORMED w_ALTERED w_RESEALED w_NOT_HOLDER w_REVOKED w_NO_SUCH_VERSION w_NO_VERSION_YET w_NOT_YET_EFFECTIVE w_EXPIRED w_LEASE_ENDED w_OUTSIDE_SCHEDULE w_RIGHT_NOT_HELD w_VERSION_EXISTS w_NOT_A_HISTORY_CAPABILITY w_WIDENS_PARENT w_NOT_AN_ANCESTOR w_NO_SUCH_LEASE h0 n0 _ T190.heap _; rw [e190q]; exact ⟨rfl, N190⟩) (by decide) (by decide)
  ·
    show Go p e below _ (T135.setTop (mkF m 126 #[.val (.int p1), .val (.ref b101), .unset, .unset, .unset] [(.int (11 : Int32))]))
    refine Go.via (fun _ => XS.istoreN X135.here hx rfl (hb hby at_126) rfl (l' := #[.val (.int p1), .val (.ref b101), .val (.int (11 : Int32)), .unset, .unset]) rfl) ?_
    show Go p e below _ (T135.setTop (mkF m 127 #[.val (.int p1), .val (.ref b101), .val (.int (11 : Int32)), .unset, .unset] []))
    refine Go.via (fun _ => XS.aloadN X135.here hx rfl (hb hby at_127) rfl rfl) ?_
    show Go p e below _ (T135.setTop (mkF m 128 #[.val (.int p1), .val (.ref b101), .val (.int (11 : Int32)), .unset, .unset] [(.ref b101)]))
    refine Go.via (fun _ => XS.iloadN X135.here hx rfl (hb hby at_128) rfl) ?_
    show Go p e below _ (T135.setTop (mkF m 129 #[.val (.int p1), .val (.ref b101), .val (.int (11 : Int32)), .unset, .unset] [(.int (11 : Int32)), (.ref b101)]))
    obtain ⟨cl191, Ar191, q191, S191, N191n, H191, G191⟩ := id V135
    have hin191 := inb_of (j := (11 : Int32)) S191 (by decide)
    have hat191 : cl191.slots[((11 : Int32) : Int32).toNatClampNeg]? = some (.ref w_RIGHT_NOT_HELD) := H191.at hin191 rfl
    refine Go.via (X135.aaload hx (j := (11 : Int32)) (v := (.ref w_RIGHT_NOT_HELD)) (by rw [e135]; exact Ar191.1) (State.isArrayOf_alike hZ.alike Ar191.2.1) rfl Ar191.2.2 hin191 hat191 (g := (mkF m 129 #[.val (.int p1), .val (.ref b101), .val (.int (11 : Int32)), .unset, .unset] [(.int (11 : Int32)), (.ref b101)])) rfl rfl (hb hby at_129)) ?_
    show Go p e below _ (T135.setTop (mkF m 130 #[.val (.int p1), .val (.ref b101), .val (.int (11 : Int32)), .unset, .unset] [(.ref w_RIGHT_NOT_HELD)]))
    refine Go.via (fun _ => XS.astoreN X135.here hx rfl (hb hby at_130) rfl rfl (l' := #[.val (.int p1), .val (.ref b101), .val (.int (11 : Int32)), .val (.ref w_RIGHT_NOT_HELD), .unset]) rfl) ?_
    show Go p e below _ (T135.setTop (mkF m 131 #[.val (.int p1), .val (.ref b101), .val (.int (11 : Int32)), .val (.ref w_RIGHT_NOT_HELD), .unset] []))
    refine Go.via (fun _ => XS.aloadN X135.here hx rfl (hb hby at_131) rfl rfl) ?_
    show Go p e below _ (T135.setTop (mkF m 132 #[.val (.int p1), .val (.ref b101), .val (.int (11 : Int32)), .val (.ref w_RIGHT_NOT_HELD), .unset] [(.ref w_RIGHT_NOT_HELD)]))
    obtain ⟨_, _, ⟨T192, L192, k192, n192⟩, -, X192, S192w, gr192, ⟨Lc192, hQ192, l192, y192, z192⟩, st192⟩ := callSS X135 hx (y := (⟨"com/example/timed_cap/timedcap/model/Decision", "denied", "(Lcom/example/timed_cap/timedcap/model/Reason;)Lcom/example/timed_cap/timedcap/model/Decision;"⟩ : MethodName)) hown (mvT hZ (hw _ (List.mem_of_getElem? (i := 39) rfl))) (mvT hZ (hw _ (List.mem_of_getElem? (i := 40) rfl))) (mvT hZ (hw _ (List.mem_of_getElem? (i := 41) rfl))) (mvT hZ (hw _ (List.mem_of_getElem? (i := 42) rfl))) (by decide) (backOfS (W := 0) (rmDen l Z a0 hw [] w_RIGHT_NOT_HELD h135 n0 Zs135 (E_RIGHT_NOT_HELD.ext O135.2)) hZ (hw _ (List.mem_of_getElem? (i := 42) rfl)) (hw _ (List.mem_of_getElem? (i := 41) rfl)) (by decide) (by decide)) (g := (mkF m 132 #[.val (.int p1), .val (.ref b101), .val (.int (11 : Int32)), .val (.ref w_RIGHT_NOT_HELD), .unset] [(.ref w_RIGHT_NOT_HELD)])) rfl (by rw [hml]; rfl) (argsL := [(.ref w_RIGHT_NOT_HELD)]) (rest := []) (lenOf pd_3 rfl) rfl (by show 2 * 0 + _ ≤ _; exact Nat.le_of_eq rfl) (hb hby at_132) (fun _ _ => ⟨rfl, e135, (by decide : 1 + 3 ≤ _), (by decide : 17 + 30 ≤ _)⟩)
    dsimp only [Pt.U, Pt.locs, Pt.cells, Pt.slots] at X192 l192 y192 z192 st192 hQ192 S192w gr192
    rw [l192, y192, z192] at X192
    replace X192 : Stand p l e _ _ m _ below meth c T192 _ 4 47 := X192
    obtain ⟨d192, rfl, N192q, K192q, gd192, ed192, fa192, fb192⟩ := hQ192
    have N192 := Fr.app N135 N192q
    refine Go.tr st192 ?_
    obtain ⟨X192r, hS192, hZ192, hown192⟩ := rebS hS0 (by rw [e135]; exact hk135) X192 S192w gr192 hZ hown
    have Zs192 : n0 ≤ T192.heap.size := Nat.le_trans Zs135 K192q.1
    have O192 : Old Z n0 T192.heap := O135.keep K192q all0
    have fV_b101_192 := V135.keep K192q nin0
    have g_d192 : n0 ≤ d192 := Nat.le_trans Zs135 gd192
    have ne_b101_d192 : b101 ≠ d192 := Nat.ne_of_lt (Nat.lt_of_lt_of_le V135.lt gd192)
    show Go p e below _ (T192.setTop (mkF m 135 #[.val (.int p1), .val (.ref b101), .val (.int (11 : Int32)), .val (.ref w_RIGHT_NOT_HELD), .unset] [(.ref d192)]))
    refine Go.via (fun _ => XS.astore X192r.here hx rfl (hb hby at_135) rfl rfl (l' := #[.val (.int p1), .val (.ref b101), .val (.int (11 : Int32)), .val (.ref w_RIGHT_NOT_HELD), .val (.ref d192)]) rfl) ?_
    show Go p e below _ (T192.setTop (mkF m 137 #[.val (.int p1), .val (.ref b101), .val (.int (11 : Int32)), .val (.ref w_RIGHT_NOT_HELD), .val (.ref d192)] []))
    refine Go.via (fun _ => XS.aload X192r.here hx rfl (hb hby at_137) rfl rfl) ?_
    show Go p e below _ (T192.setTop (mkF m 139 #[.val (.int p1), .val (.ref b101), .val (.int (11 : Int32)), .val (.ref w_RIGHT_NOT_HELD), .val (.ref d192)] [(.ref d192)]))
    refine Go.via (fun _ => XS.ifnonnullYes X192r.here hx rfl (pc0 := 139) (pc' := 144) rfl (hb hby at_139) rfl (by decide) (by decide)) ?_
    show Go p e below _ (T192.setTop (mkF m 144 #[.val (.int p1), .val (.ref b101), .val (.int (11 : Int32)), .val (.ref w_RIGHT_NOT_HELD), .val (.ref d192)] []))
    refine Go.via (fun _ => XS.aload X192r.here hx rfl (hb hby at_144) rfl rfl) ?_
    show Go p e below _ (T192.setTop (mkF m 146 #[.val (.int p1), .val (.ref b101), .val (.int (11 : Int32)), .val (.ref w_RIGHT_NOT_HELD), .val (.ref d192)] [(.ref d192)]))
    obtain ⟨cq193, kq193, q193a, q193b, q193c⟩ := isOf hZ192 rfl ed192
    obtain ⟨_, _, ⟨T193, L193, k193, n193⟩, -, X193, ⟨Lc193, hQ193, l193, y193, z193⟩, st193⟩ := X192r.virtualBack hx (y := (⟨"com/example/timed_cap/timedcap/model/Decision", "reason", "()Lcom/example/timed_cap/timedcap/model/Reason;"⟩ : MethodName)) (z := (⟨"com/example/timed_cap/timedcap/model/Decision", "reason", "()Lcom/example/timed_cap/timedcap/model/Reason;"⟩ : MethodName)) hown192 (mvT hZ192 (hw _ (List.mem_of_getElem? (i := 73) rfl))) (mvT hZ192 (hw _ (List.mem_of_getElem? (i := 74) rfl))) (notFace_of_selects (args := #[]) (mvT hZ192 (hw _ (List.mem_of_getElem? (i := 76) rfl)))) (mvT hZ192 (hw _ (List.mem_of_getElem? (i := 76) rfl))) (mvT hZ192 (hw _ (List.mem_of_getElem? (i := 75) rfl))) (by decide) (backOf (W := 0) (rm_reason l Z a0 hw [] d192 w_RIGHT_NOT_HELD T192.heap n0 Zs192 fa192 fb192) hZ192 (hw _ (List.mem_of_getElem? (i := 77) rfl)) (hw _ (List.mem_of_getElem? (i := 41) rfl)) (by decide) (by decide)) q193a q193c (g := (mkF m 146 #[.val (.int p1), .val (.ref b101), .val (.int (11 : Int32)), .val (.ref w_RIGHT_NOT_HELD), .val (.ref d192)] [(.ref d192)])) rfl (by rw [hml]; rfl) (Steps.refl _) (argsL := []) (rest := []) (lenOf pd_4 rfl) rfl (by show 2 * 0 + _ ≤ _; exact Nat.le_of_eq rfl) (hb hby at_146) (fun _ _ => ⟨rfl, rfl, (by decide : 4 + 0 ≤ _), (by decide : 47 + 0 ≤ _)⟩)
    dsimp only [Pt.U, Pt.locs, Pt.cells, Pt.slots] at X193 l193 y193 z193 st193 hQ193
    rw [l193, y193, z193] at X193
    replace X193 : Stand p l e _ _ m _ below meth c T193 _ 4 47 := X193
    obtain ⟨rfl, N193q, e193q⟩ := hQ193
    have N193 := Fr.app N192 N193q
    refine Go.tr st193 ?_
    show Go p e below _ (T193.setTop (mkF m 149 #[.val (.int p1), .val (.ref b101), .val (.int (11 : Int32)), .val (.ref w_RIGHT_NOT_HELD), .val (.ref d192)] [(.ref w_RIGHT_NOT_HELD)]))
    refine Go.via (fun _ => XS.aloadN X193.here hx rfl (hb hby at_149) rfl rfl) ?_
    show Go p e below _ (T193.setTop (mkF m 150 #[.val (.int p1), .val (.ref b101), .val (.int (11 : Int32)), .val (.ref w_RIGHT_NOT_HELD), .val (.ref d192)] [(.ref w_RIGHT_NOT_HELD), (.ref w_RIGHT_NOT_HELD)]))
    refine Go.via (fun _ => Jvm.RoadKit.acmp (g := (mkF m 150 #[.val (.int p1), .val (.ref b101), .val (.int (11 : Int32)), .val (.ref w_RIGHT_NOT_HELD), .val (.ref d192)] [(.ref w_RIGHT_NOT_HELD), (.ref w_RIGHT_NOT_HELD)])) X193 hx rfl rfl rfl (pc0 := 150) (pc' := 153) (same := true) rfl (hb hby at_150) rfl (decide_eq_true rfl) (by decide) (by decide)) ?_
    show Go p e below _ (T193.setTop (mkF m 153 #[.val (.int p1), .val (.ref b101), .val (.int (11 : Int32)), .val (.ref w_RIGHT_NOT_HELD), .val (.ref d192)] []))
    refine Go.via (fun _ => XS.aload X193.here hx rfl (hb hby at_153) rfl rfl) ?_
    show Go p e below _ (T193.setTop (mkF m 155 #[.val (.int p1), .val (.ref b101), .val (.int (11 : Int32)), .val (.ref w_RIGHT_NOT_HELD), .val (.ref d192)] [(.ref d192)]))
    obtain ⟨cq194, kq194, q194a, q194b, q194c⟩ := isOf hZ192 e193q ed192
    obtain ⟨_, _, ⟨T194, L194, k194, n194⟩, -, X194, ⟨Lc194, hQ194, l194, y194, z194⟩, st194⟩ := X193.virtualBack hx (y := (⟨"com/example/timed_cap/timedcap/model/Decision", "reached", "()Lcom/example/timed_cap/timedcap/model/Reference;"⟩ : MethodName)) (z := (⟨"com/example/timed_cap/timedcap/model/Decision", "reached", "()Lcom/example/timed_cap/timedcap/model/Reference;"⟩ : MethodName)) hown192 (mvT hZ192 (hw _ (List.mem_of_getElem? (i := 78) rfl))) (mvT hZ192 (hw _ (List.mem_of_getElem? (i := 79) rfl))) (notFace_of_selects (args := #[]) (mvT hZ192 (hw _ (List.mem_of_getElem? (i := 81) rfl)))) (mvT hZ192 (hw _ (List.mem_of_getElem? (i := 81) rfl))) (mvT hZ192 (hw _ (List.mem_of_getElem? (i := 80) rfl))) (by decide) (backOf (W := 0) (rm_reached l Z a0 hw [] d192 w_RIGHT_NOT_HELD T192.heap n0 Zs192 fa192 fb192) hZ192 (hw _ (List.mem_of_getElem? (i := 82) rfl)) (hw _ (List.mem_of_getElem? (i := 41) rfl)) (by decide) (by decide)) q194a q194c (g := (mkF m 155 #[.val (.int p1), .val (.ref b101), .val (.int (11 : Int32)), .val (.ref w_RIGHT_NOT_HELD), .val (.ref d192)] [(.ref d192)])) rfl (by rw [hml]; rfl) (Steps.refl _) (argsL := []) (rest := []) (lenOf pd_5 rfl) rfl (by show 2 * 0 + _ ≤ _; exact Nat.le_of_eq rfl) (hb hby at_155) (fun _ _ => ⟨rfl, e193q, (by decide : 4 + 0 ≤ _), (by decide : 47 + 0 ≤ _)⟩)
    dsimp only [Pt.U, Pt.locs, Pt.cells, Pt.slots] at X194 l194 y194 z194 st194 hQ194
    rw [l194, y194, z194] at X194
    replace X194 : Stand p l e _ _ m _ below meth c T194 _ 4 47 := X194
    obtain ⟨rfl, N194q, e194q⟩ := hQ194
    have N194 := Fr.app N193 N194q
    refine Go.tr st194 ?_
    show Go p e below _ (T194.setTop (mkF m 158 #[.val (.int p1), .val (.ref b101), .val (.int (11 : Int32)), .val (.ref w_RIGHT_NOT_HELD), .val (.ref d192)] [.null]))
    refine Go.via (fun _ => XS.ifnonnullNo X194.here hx rfl (hb hby at_158) rfl) ?_
    show Go p e below _ (T194.setTop (mkF m 161 #[.val (.int p1), .val (.ref b101), .val (.int (11 : Int32)), .val (.ref w_RIGHT_NOT_HELD), .val (.ref d192)] []))
    refine Go.via (fun _ => XS.aload X194.here hx rfl (hb hby at_161) rfl rfl) ?_
    show Go p e below _ (T194.setTop (mkF m 163 #[.val (.int p1), .val (.ref b101), .val (.int (11 : Int32)), .val (.ref w_RIGHT_NOT_HELD), .val (.ref d192)] [(.ref d192)]))
    obtain ⟨cq195, kq195, q195a, q195b, q195c⟩ := isOf hZ192 e194q ed192
    obtain ⟨_, _, ⟨T195, L195, k195, n195⟩, -, X195, ⟨Lc195, hQ195, l195, y195, z195⟩, st195⟩ := X194.virtualBack hx (y := (⟨"com/example/timed_cap/timedcap/model/Decision", "isGranted", "()Z"⟩ : MethodName)) (z := (⟨"com/example/timed_cap/timedcap/model/Decision", "isGranted", "()Z"⟩ : MethodName)) hown192 (mvT hZ192 (hw _ (List.mem_of_getElem? (i := 83) rfl))) (mvT hZ192 (hw _ (List.mem_of_getElem? (i := 84) rfl))) (notFace_of_selects (args := #[]) (mvT hZ192 (hw _ (List.mem_of_getElem? (i := 86) rfl)))) (mvT hZ192 (hw _ (List.mem_of_getElem? (i := 86) rfl))) (mvT hZ192 (hw _ (List.mem_of_getElem? (i := 85) rfl))) (by decide) (backOf (W := 0) (rm_isGranted l Z a0 hw [] d192 w_RIGHT_NOT_HELD T192.heap n0 Zs192 fa192 fb192) hZ192 (hw _ (List.mem_of_getElem? (i := 87) rfl)) (hw _ (List.mem_of_getElem? (i := 41) rfl)) (by decide) (by decide)) q195a q195c (g := (mkF m 163 #[.val (.int p1), .val (.ref b101), .val (.int (11 : Int32)), .val (.ref w_RIGHT_NOT_HELD), .val (.ref d192)] [(.ref d192)])) rfl (by rw [hml]; rfl) (Steps.refl _) (argsL := []) (rest := []) (lenOf pd_6 rfl) rfl (by show 2 * 0 + _ ≤ _; exact Nat.le_of_eq rfl) (hb hby at_163) (fun _ _ => ⟨rfl, e194q, (by decide : 4 + 0 ≤ _), (by decide : 47 + 0 ≤ _)⟩)
    dsimp only [Pt.U, Pt.locs, Pt.cells, Pt.slots] at X195 l195 y195 z195 st195 hQ195
    rw [l195, y195, z195] at X195
    replace X195 : Stand p l e _ _ m _ below meth c T195 _ 4 47 := X195
    obtain ⟨rfl, N195q, e195q⟩ := hQ195
    have N195 := Fr.app N194 N195q
    refine Go.tr st195 ?_
    show Go p e below _ (T195.setTop (mkF m 166 #[.val (.int p1), .val (.ref b101), .val (.int (11 : Int32)), .val (.ref w_RIGHT_NOT_HELD), .val (.ref d192)] [(.int (0 : Int32))]))
    refine Go.via (fun _ => XS.ifNo X195.here hx rfl (hb hby at_166) rfl (by decide)) ?_
    show Go p e below _ (T195.setTop (mkF m 169 #[.val (.int p1), .val (.ref b101), .val (.int (11 : Int32)), .val (.ref w_RIGHT_NOT_HELD), .val (.ref d192)] []))
    refine Go.via (fun _ => XS.iconst X195.here hx rfl (hb hby at_169)) ?_
    show Go p e below _ (T195.setTop (mkF m 170 #[.val (.int p1), .val (.ref b101), .val (.int (11 : Int32)), .val (.ref w_RIGHT_NOT_HELD), .val (.ref d192)] [(.int (1 : Int32))]))
    refine Go.via (fun _ => XS.goto X195.here hx rfl (pc0 := 170) (pc' := 174) rfl (hb hby at_170) (by decide) (by decide)) ?_
    show Go p e below _ (T195.setTop (mkF m 174 #[.val (.int p1), .val (.ref b101), .val (.int (11 : Int32)), .val (.ref w_RIGHT_NOT_HELD), .val (.ref d192)] [(.int (1 : Int32))]))
    exact own_retNW X195 hS192 (by rw [e195q]; exact (Nat.le_refl _)) hx hlk (t := .boolean) Bd.returns (by simp) (hb hby at_174) (by show Q0 Z p1 w_MALFORMED w_ALTERED w_RESEALED w_NOT_HOLDER w_REVOKED w_NO_SUCH_VERSION w_NO_VERSION_YET w_NOT_YET_EFFECTIVE w_EXPIRED w_LEASE_ENDED w_OUTSIDE_SCHEDULE w_RIGHT_NOT_HELD w_VERSION_EXISTS w_NOT_A_HISTORY_CAPABILITY w_WIDENS_PARENT w_NOT_AN_ANCESTOR w_NO_SUCH_LEASE h0 n0 _ T195.heap _; rw [e195q]; exact ⟨rfl, N195⟩) (by decide) (by decide)
  ·
    show Go p e below _ (T135.setTop (mkF m 126 #[.val (.int p1), .val (.ref b101), .unset, .unset, .unset] [(.int (12 : Int32))]))
    refine Go.via (fun _ => XS.istoreN X135.here hx rfl (hb hby at_126) rfl (l' := #[.val (.int p1), .val (.ref b101), .val (.int (12 : Int32)), .unset, .unset]) rfl) ?_
    show Go p e below _ (T135.setTop (mkF m 127 #[.val (.int p1), .val (.ref b101), .val (.int (12 : Int32)), .unset, .unset] []))
    refine Go.via (fun _ => XS.aloadN X135.here hx rfl (hb hby at_127) rfl rfl) ?_
    show Go p e below _ (T135.setTop (mkF m 128 #[.val (.int p1), .val (.ref b101), .val (.int (12 : Int32)), .unset, .unset] [(.ref b101)]))
    refine Go.via (fun _ => XS.iloadN X135.here hx rfl (hb hby at_128) rfl) ?_
    show Go p e below _ (T135.setTop (mkF m 129 #[.val (.int p1), .val (.ref b101), .val (.int (12 : Int32)), .unset, .unset] [(.int (12 : Int32)), (.ref b101)]))
    obtain ⟨cl196, Ar196, q196, S196, N196n, H196, G196⟩ := id V135
    have hin196 := inb_of (j := (12 : Int32)) S196 (by decide)
    have hat196 : cl196.slots[((12 : Int32) : Int32).toNatClampNeg]? = some (.ref w_VERSION_EXISTS) := H196.at hin196 rfl
    refine Go.via (X135.aaload hx (j := (12 : Int32)) (v := (.ref w_VERSION_EXISTS)) (by rw [e135]; exact Ar196.1) (State.isArrayOf_alike hZ.alike Ar196.2.1) rfl Ar196.2.2 hin196 hat196 (g := (mkF m 129 #[.val (.int p1), .val (.ref b101), .val (.int (12 : Int32)), .unset, .unset] [(.int (12 : Int32)), (.ref b101)])) rfl rfl (hb hby at_129)) ?_
    show Go p e below _ (T135.setTop (mkF m 130 #[.val (.int p1), .val (.ref b101), .val (.int (12 : Int32)), .unset, .unset] [(.ref w_VERSION_EXISTS)]))
    refine Go.via (fun _ => XS.astoreN X135.here hx rfl (hb hby at_130) rfl rfl (l' := #[.val (.int p1), .val (.ref b101), .val (.int (12 : Int32)), .val (.ref w_VERSION_EXISTS), .unset]) rfl) ?_
    show Go p e below _ (T135.setTop (mkF m 131 #[.val (.int p1), .val (.ref b101), .val (.int (12 : Int32)), .val (.ref w_VERSION_EXISTS), .unset] []))
    refine Go.via (fun _ => XS.aloadN X135.here hx rfl (hb hby at_131) rfl rfl) ?_
    show Go p e below _ (T135.setTop (mkF m 132 #[.val (.int p1), .val (.ref b101), .val (.int (12 : Int32)), .val (.ref w_VERSION_EXISTS), .unset] [(.ref w_VERSION_EXISTS)]))
    obtain ⟨_, _, ⟨T197, L197, k197, n197⟩, -, X197, S197w, gr197, ⟨Lc197, hQ197, l197, y197, z197⟩, st197⟩ := callSS X135 hx (y := (⟨"com/example/timed_cap/timedcap/model/Decision", "denied", "(Lcom/example/timed_cap/timedcap/model/Reason;)Lcom/example/timed_cap/timedcap/model/Decision;"⟩ : MethodName)) hown (mvT hZ (hw _ (List.mem_of_getElem? (i := 39) rfl))) (mvT hZ (hw _ (List.mem_of_getElem? (i := 40) rfl))) (mvT hZ (hw _ (List.mem_of_getElem? (i := 41) rfl))) (mvT hZ (hw _ (List.mem_of_getElem? (i := 42) rfl))) (by decide) (backOfS (W := 0) (rmDen l Z a0 hw [] w_VERSION_EXISTS h135 n0 Zs135 (E_VERSION_EXISTS.ext O135.2)) hZ (hw _ (List.mem_of_getElem? (i := 42) rfl)) (hw _ (List.mem_of_getElem? (i := 41) rfl)) (by decide) (by decide)) (g := (mkF m 132 #[.val (.int p1), .val (.ref b101), .val (.int (12 : Int32)), .val (.ref w_VERSION_EXISTS), .unset] [(.ref w_VERSION_EXISTS)])) rfl (by rw [hml]; rfl) (argsL := [(.ref w_VERSION_EXISTS)]) (rest := []) (lenOf pd_3 rfl) rfl (by show 2 * 0 + _ ≤ _; exact Nat.le_of_eq rfl) (hb hby at_132) (fun _ _ => ⟨rfl, e135, (by decide : 1 + 3 ≤ _), (by decide : 17 + 30 ≤ _)⟩)
    dsimp only [Pt.U, Pt.locs, Pt.cells, Pt.slots] at X197 l197 y197 z197 st197 hQ197 S197w gr197
    rw [l197, y197, z197] at X197
    replace X197 : Stand p l e _ _ m _ below meth c T197 _ 4 47 := X197
    obtain ⟨d197, rfl, N197q, K197q, gd197, ed197, fa197, fb197⟩ := hQ197
    have N197 := Fr.app N135 N197q
    refine Go.tr st197 ?_
    obtain ⟨X197r, hS197, hZ197, hown197⟩ := rebS hS0 (by rw [e135]; exact hk135) X197 S197w gr197 hZ hown
    have Zs197 : n0 ≤ T197.heap.size := Nat.le_trans Zs135 K197q.1
    have O197 : Old Z n0 T197.heap := O135.keep K197q all0
    have fV_b101_197 := V135.keep K197q nin0
    have g_d197 : n0 ≤ d197 := Nat.le_trans Zs135 gd197
    have ne_b101_d197 : b101 ≠ d197 := Nat.ne_of_lt (Nat.lt_of_lt_of_le V135.lt gd197)
    show Go p e below _ (T197.setTop (mkF m 135 #[.val (.int p1), .val (.ref b101), .val (.int (12 : Int32)), .val (.ref w_VERSION_EXISTS), .unset] [(.ref d197)]))
    refine Go.via (fun _ => XS.astore X197r.here hx rfl (hb hby at_135) rfl rfl (l' := #[.val (.int p1), .val (.ref b101), .val (.int (12 : Int32)), .val (.ref w_VERSION_EXISTS), .val (.ref d197)]) rfl) ?_
    show Go p e below _ (T197.setTop (mkF m 137 #[.val (.int p1), .val (.ref b101), .val (.int (12 : Int32)), .val (.ref w_VERSION_EXISTS), .val (.ref d197)] []))
    refine Go.via (fun _ => XS.aload X197r.here hx rfl (hb hby at_137) rfl rfl) ?_
    show Go p e below _ (T197.setTop (mkF m 139 #[.val (.int p1), .val (.ref b101), .val (.int (12 : Int32)), .val (.ref w_VERSION_EXISTS), .val (.ref d197)] [(.ref d197)]))
    refine Go.via (fun _ => XS.ifnonnullYes X197r.here hx rfl (pc0 := 139) (pc' := 144) rfl (hb hby at_139) rfl (by decide) (by decide)) ?_
    show Go p e below _ (T197.setTop (mkF m 144 #[.val (.int p1), .val (.ref b101), .val (.int (12 : Int32)), .val (.ref w_VERSION_EXISTS), .val (.ref d197)] []))
    refine Go.via (fun _ => XS.aload X197r.here hx rfl (hb hby at_144) rfl rfl) ?_
    show Go p e below _ (T197.setTop (mkF m 146 #[.val (.int p1), .val (.ref b101), .val (.int (12 : Int32)), .val (.ref w_VERSION_EXISTS), .val (.ref d197)] [(.ref d197)]))
    obtain ⟨cq198, kq198, q198a, q198b, q198c⟩ := isOf hZ197 rfl ed197
    obtain ⟨_, _, ⟨T198, L198, k198, n198⟩, -, X198, ⟨Lc198, hQ198, l198, y198, z198⟩, st198⟩ := X197r.virtualBack hx (y := (⟨"com/example/timed_cap/timedcap/model/Decision", "reason", "()Lcom/example/timed_cap/timedcap/model/Reason;"⟩ : MethodName)) (z := (⟨"com/example/timed_cap/timedcap/model/Decision", "reason", "()Lcom/example/timed_cap/timedcap/model/Reason;"⟩ : MethodName)) hown197 (mvT hZ197 (hw _ (List.mem_of_getElem? (i := 73) rfl))) (mvT hZ197 (hw _ (List.mem_of_getElem? (i := 74) rfl))) (notFace_of_selects (args := #[]) (mvT hZ197 (hw _ (List.mem_of_getElem? (i := 76) rfl)))) (mvT hZ197 (hw _ (List.mem_of_getElem? (i := 76) rfl))) (mvT hZ197 (hw _ (List.mem_of_getElem? (i := 75) rfl))) (by decide) (backOf (W := 0) (rm_reason l Z a0 hw [] d197 w_VERSION_EXISTS T197.heap n0 Zs197 fa197 fb197) hZ197 (hw _ (List.mem_of_getElem? (i := 77) rfl)) (hw _ (List.mem_of_getElem? (i := 41) rfl)) (by decide) (by decide)) q198a q198c (g := (mkF m 146 #[.val (.int p1), .val (.ref b101), .val (.int (12 : Int32)), .val (.ref w_VERSION_EXISTS), .val (.ref d197)] [(.ref d197)])) rfl (by rw [hml]; rfl) (Steps.refl _) (argsL := []) (rest := []) (lenOf pd_4 rfl) rfl (by show 2 * 0 + _ ≤ _; exact Nat.le_of_eq rfl) (hb hby at_146) (fun _ _ => ⟨rfl, rfl, (by decide : 4 + 0 ≤ _), (by decide : 47 + 0 ≤ _)⟩)
    dsimp only [Pt.U, Pt.locs, Pt.cells, Pt.slots] at X198 l198 y198 z198 st198 hQ198
    rw [l198, y198, z198] at X198
    replace X198 : Stand p l e _ _ m _ below meth c T198 _ 4 47 := X198
    obtain ⟨rfl, N198q, e198q⟩ := hQ198
    have N198 := Fr.app N197 N198q
    refine Go.tr st198 ?_
    show Go p e below _ (T198.setTop (mkF m 149 #[.val (.int p1), .val (.ref b101), .val (.int (12 : Int32)), .val (.ref w_VERSION_EXISTS), .val (.ref d197)] [(.ref w_VERSION_EXISTS)]))
    refine Go.via (fun _ => XS.aloadN X198.here hx rfl (hb hby at_149) rfl rfl) ?_
    show Go p e below _ (T198.setTop (mkF m 150 #[.val (.int p1), .val (.ref b101), .val (.int (12 : Int32)), .val (.ref w_VERSION_EXISTS), .val (.ref d197)] [(.ref w_VERSION_EXISTS), (.ref w_VERSION_EXISTS)]))
    refine Go.via (fun _ => Jvm.RoadKit.acmp (g := (mkF m 150 #[.val (.int p1), .val (.ref b101), .val (.int (12 : Int32)), .val (.ref w_VERSION_EXISTS), .val (.ref d197)] [(.ref w_VERSION_EXISTS), (.ref w_VERSION_EXISTS)])) X198 hx rfl rfl rfl (pc0 := 150) (pc' := 153) (same := true) rfl (hb hby at_150) rfl (decide_eq_true rfl) (by decide) (by decide)) ?_
    show Go p e below _ (T198.setTop (mkF m 153 #[.val (.int p1), .val (.ref b101), .val (.int (12 : Int32)), .val (.ref w_VERSION_EXISTS), .val (.ref d197)] []))
    refine Go.via (fun _ => XS.aload X198.here hx rfl (hb hby at_153) rfl rfl) ?_
    show Go p e below _ (T198.setTop (mkF m 155 #[.val (.int p1), .val (.ref b101), .val (.int (12 : Int32)), .val (.ref w_VERSION_EXISTS), .val (.ref d197)] [(.ref d197)]))
    obtain ⟨cq199, kq199, q199a, q199b, q199c⟩ := isOf hZ197 e198q ed197
    obtain ⟨_, _, ⟨T199, L199, k199, n199⟩, -, X199, ⟨Lc199, hQ199, l199, y199, z199⟩, st199⟩ := X198.virtualBack hx (y := (⟨"com/example/timed_cap/timedcap/model/Decision", "reached", "()Lcom/example/timed_cap/timedcap/model/Reference;"⟩ : MethodName)) (z := (⟨"com/example/timed_cap/timedcap/model/Decision", "reached", "()Lcom/example/timed_cap/timedcap/model/Reference;"⟩ : MethodName)) hown197 (mvT hZ197 (hw _ (List.mem_of_getElem? (i := 78) rfl))) (mvT hZ197 (hw _ (List.mem_of_getElem? (i := 79) rfl))) (notFace_of_selects (args := #[]) (mvT hZ197 (hw _ (List.mem_of_getElem? (i := 81) rfl)))) (mvT hZ197 (hw _ (List.mem_of_getElem? (i := 81) rfl))) (mvT hZ197 (hw _ (List.mem_of_getElem? (i := 80) rfl))) (by decide) (backOf (W := 0) (rm_reached l Z a0 hw [] d197 w_VERSION_EXISTS T197.heap n0 Zs197 fa197 fb197) hZ197 (hw _ (List.mem_of_getElem? (i := 82) rfl)) (hw _ (List.mem_of_getElem? (i := 41) rfl)) (by decide) (by decide)) q199a q199c (g := (mkF m 155 #[.val (.int p1), .val (.ref b101), .val (.int (12 : Int32)), .val (.ref w_VERSION_EXISTS), .val (.ref d197)] [(.ref d197)])) rfl (by rw [hml]; rfl) (Steps.refl _) (argsL := []) (rest := []) (lenOf pd_5 rfl) rfl (by show 2 * 0 + _ ≤ _; exact Nat.le_of_eq rfl) (hb hby at_155) (fun _ _ => ⟨rfl, e198q, (by decide : 4 + 0 ≤ _), (by decide : 47 + 0 ≤ _)⟩)
    dsimp only [Pt.U, Pt.locs, Pt.cells, Pt.slots] at X199 l199 y199 z199 st199 hQ199
    rw [l199, y199, z199] at X199
    replace X199 : Stand p l e _ _ m _ below meth c T199 _ 4 47 := X199
    obtain ⟨rfl, N199q, e199q⟩ := hQ199
    have N199 := Fr.app N198 N199q
    refine Go.tr st199 ?_
    show Go p e below _ (T199.setTop (mkF m 158 #[.val (.int p1), .val (.ref b101), .val (.int (12 : Int32)), .val (.ref w_VERSION_EXISTS), .val (.ref d197)] [.null]))
    refine Go.via (fun _ => XS.ifnonnullNo X199.here hx rfl (hb hby at_158) rfl) ?_
    show Go p e below _ (T199.setTop (mkF m 161 #[.val (.int p1), .val (.ref b101), .val (.int (12 : Int32)), .val (.ref w_VERSION_EXISTS), .val (.ref d197)] []))
    refine Go.via (fun _ => XS.aload X199.here hx rfl (hb hby at_161) rfl rfl) ?_
    show Go p e below _ (T199.setTop (mkF m 163 #[.val (.int p1), .val (.ref b101), .val (.int (12 : Int32)), .val (.ref w_VERSION_EXISTS), .val (.ref d197)] [(.ref d197)]))
    obtain ⟨cq200, kq200, q200a, q200b, q200c⟩ := isOf hZ197 e199q ed197
    obtain ⟨_, _, ⟨T200, L200, k200, n200⟩, -, X200, ⟨Lc200, hQ200, l200, y200, z200⟩, st200⟩ := X199.virtualBack hx (y := (⟨"com/example/timed_cap/timedcap/model/Decision", "isGranted", "()Z"⟩ : MethodName)) (z := (⟨"com/example/timed_cap/timedcap/model/Decision", "isGranted", "()Z"⟩ : MethodName)) hown197 (mvT hZ197 (hw _ (List.mem_of_getElem? (i := 83) rfl))) (mvT hZ197 (hw _ (List.mem_of_getElem? (i := 84) rfl))) (notFace_of_selects (args := #[]) (mvT hZ197 (hw _ (List.mem_of_getElem? (i := 86) rfl)))) (mvT hZ197 (hw _ (List.mem_of_getElem? (i := 86) rfl))) (mvT hZ197 (hw _ (List.mem_of_getElem? (i := 85) rfl))) (by decide) (backOf (W := 0) (rm_isGranted l Z a0 hw [] d197 w_VERSION_EXISTS T197.heap n0 Zs197 fa197 fb197) hZ197 (hw _ (List.mem_of_getElem? (i := 87) rfl)) (hw _ (List.mem_of_getElem? (i := 41) rfl)) (by decide) (by decide)) q200a q200c (g := (mkF m 163 #[.val (.int p1), .val (.ref b101), .val (.int (12 : Int32)), .val (.ref w_VERSION_EXISTS), .val (.ref d197)] [(.ref d197)])) rfl (by rw [hml]; rfl) (Steps.refl _) (argsL := []) (rest := []) (lenOf pd_6 rfl) rfl (by show 2 * 0 + _ ≤ _; exact Nat.le_of_eq rfl) (hb hby at_163) (fun _ _ => ⟨rfl, e199q, (by decide : 4 + 0 ≤ _), (by decide : 47 + 0 ≤ _)⟩)
    dsimp only [Pt.U, Pt.locs, Pt.cells, Pt.slots] at X200 l200 y200 z200 st200 hQ200
    rw [l200, y200, z200] at X200
    replace X200 : Stand p l e _ _ m _ below meth c T200 _ 4 47 := X200
    obtain ⟨rfl, N200q, e200q⟩ := hQ200
    have N200 := Fr.app N199 N200q
    refine Go.tr st200 ?_
    show Go p e below _ (T200.setTop (mkF m 166 #[.val (.int p1), .val (.ref b101), .val (.int (12 : Int32)), .val (.ref w_VERSION_EXISTS), .val (.ref d197)] [(.int (0 : Int32))]))
    refine Go.via (fun _ => XS.ifNo X200.here hx rfl (hb hby at_166) rfl (by decide)) ?_
    show Go p e below _ (T200.setTop (mkF m 169 #[.val (.int p1), .val (.ref b101), .val (.int (12 : Int32)), .val (.ref w_VERSION_EXISTS), .val (.ref d197)] []))
    refine Go.via (fun _ => XS.iconst X200.here hx rfl (hb hby at_169)) ?_
    show Go p e below _ (T200.setTop (mkF m 170 #[.val (.int p1), .val (.ref b101), .val (.int (12 : Int32)), .val (.ref w_VERSION_EXISTS), .val (.ref d197)] [(.int (1 : Int32))]))
    refine Go.via (fun _ => XS.goto X200.here hx rfl (pc0 := 170) (pc' := 174) rfl (hb hby at_170) (by decide) (by decide)) ?_
    show Go p e below _ (T200.setTop (mkF m 174 #[.val (.int p1), .val (.ref b101), .val (.int (12 : Int32)), .val (.ref w_VERSION_EXISTS), .val (.ref d197)] [(.int (1 : Int32))]))
    exact own_retNW X200 hS197 (by rw [e200q]; exact (Nat.le_refl _)) hx hlk (t := .boolean) Bd.returns (by simp) (hb hby at_174) (by show Q0 Z p1 w_MALFORMED w_ALTERED w_RESEALED w_NOT_HOLDER w_REVOKED w_NO_SUCH_VERSION w_NO_VERSION_YET w_NOT_YET_EFFECTIVE w_EXPIRED w_LEASE_ENDED w_OUTSIDE_SCHEDULE w_RIGHT_NOT_HELD w_VERSION_EXISTS w_NOT_A_HISTORY_CAPABILITY w_WIDENS_PARENT w_NOT_AN_ANCESTOR w_NO_SUCH_LEASE h0 n0 _ T200.heap _; rw [e200q]; exact ⟨rfl, N200⟩) (by decide) (by decide)
  ·
    show Go p e below _ (T135.setTop (mkF m 126 #[.val (.int p1), .val (.ref b101), .unset, .unset, .unset] [(.int (13 : Int32))]))
    refine Go.via (fun _ => XS.istoreN X135.here hx rfl (hb hby at_126) rfl (l' := #[.val (.int p1), .val (.ref b101), .val (.int (13 : Int32)), .unset, .unset]) rfl) ?_
    show Go p e below _ (T135.setTop (mkF m 127 #[.val (.int p1), .val (.ref b101), .val (.int (13 : Int32)), .unset, .unset] []))
    refine Go.via (fun _ => XS.aloadN X135.here hx rfl (hb hby at_127) rfl rfl) ?_
    show Go p e below _ (T135.setTop (mkF m 128 #[.val (.int p1), .val (.ref b101), .val (.int (13 : Int32)), .unset, .unset] [(.ref b101)]))
    refine Go.via (fun _ => XS.iloadN X135.here hx rfl (hb hby at_128) rfl) ?_
    show Go p e below _ (T135.setTop (mkF m 129 #[.val (.int p1), .val (.ref b101), .val (.int (13 : Int32)), .unset, .unset] [(.int (13 : Int32)), (.ref b101)]))
    obtain ⟨cl201, Ar201, q201, S201, N201n, H201, G201⟩ := id V135
    have hin201 := inb_of (j := (13 : Int32)) S201 (by decide)
    have hat201 : cl201.slots[((13 : Int32) : Int32).toNatClampNeg]? = some (.ref w_NOT_A_HISTORY_CAPABILITY) := H201.at hin201 rfl
    refine Go.via (X135.aaload hx (j := (13 : Int32)) (v := (.ref w_NOT_A_HISTORY_CAPABILITY)) (by rw [e135]; exact Ar201.1) (State.isArrayOf_alike hZ.alike Ar201.2.1) rfl Ar201.2.2 hin201 hat201 (g := (mkF m 129 #[.val (.int p1), .val (.ref b101), .val (.int (13 : Int32)), .unset, .unset] [(.int (13 : Int32)), (.ref b101)])) rfl rfl (hb hby at_129)) ?_
    show Go p e below _ (T135.setTop (mkF m 130 #[.val (.int p1), .val (.ref b101), .val (.int (13 : Int32)), .unset, .unset] [(.ref w_NOT_A_HISTORY_CAPABILITY)]))
    refine Go.via (fun _ => XS.astoreN X135.here hx rfl (hb hby at_130) rfl rfl (l' := #[.val (.int p1), .val (.ref b101), .val (.int (13 : Int32)), .val (.ref w_NOT_A_HISTORY_CAPABILITY), .unset]) rfl) ?_
    show Go p e below _ (T135.setTop (mkF m 131 #[.val (.int p1), .val (.ref b101), .val (.int (13 : Int32)), .val (.ref w_NOT_A_HISTORY_CAPABILITY), .unset] []))
    refine Go.via (fun _ => XS.aloadN X135.here hx rfl (hb hby at_131) rfl rfl) ?_
    show Go p e below _ (T135.setTop (mkF m 132 #[.val (.int p1), .val (.ref b101), .val (.int (13 : Int32)), .val (.ref w_NOT_A_HISTORY_CAPABILITY), .unset] [(.ref w_NOT_A_HISTORY_CAPABILITY)]))
    obtain ⟨_, _, ⟨T202, L202, k202, n202⟩, -, X202, S202w, gr202, ⟨Lc202, hQ202, l202, y202, z202⟩, st202⟩ := callSS X135 hx (y := (⟨"com/example/timed_cap/timedcap/model/Decision", "denied", "(Lcom/example/timed_cap/timedcap/model/Reason;)Lcom/example/timed_cap/timedcap/model/Decision;"⟩ : MethodName)) hown (mvT hZ (hw _ (List.mem_of_getElem? (i := 39) rfl))) (mvT hZ (hw _ (List.mem_of_getElem? (i := 40) rfl))) (mvT hZ (hw _ (List.mem_of_getElem? (i := 41) rfl))) (mvT hZ (hw _ (List.mem_of_getElem? (i := 42) rfl))) (by decide) (backOfS (W := 0) (rmDen l Z a0 hw [] w_NOT_A_HISTORY_CAPABILITY h135 n0 Zs135 (E_NOT_A_HISTORY_CAPABILITY.ext O135.2)) hZ (hw _ (List.mem_of_getElem? (i := 42) rfl)) (hw _ (List.mem_of_getElem? (i := 41) rfl)) (by decide) (by decide)) (g := (mkF m 132 #[.val (.int p1), .val (.ref b101), .val (.int (13 : Int32)), .val (.ref w_NOT_A_HISTORY_CAPABILITY), .unset] [(.ref w_NOT_A_HISTORY_CAPABILITY)])) rfl (by rw [hml]; rfl) (argsL := [(.ref w_NOT_A_HISTORY_CAPABILITY)]) (rest := []) (lenOf pd_3 rfl) rfl (by show 2 * 0 + _ ≤ _; exact Nat.le_of_eq rfl) (hb hby at_132) (fun _ _ => ⟨rfl, e135, (by decide : 1 + 3 ≤ _), (by decide : 17 + 30 ≤ _)⟩)
    dsimp only [Pt.U, Pt.locs, Pt.cells, Pt.slots] at X202 l202 y202 z202 st202 hQ202 S202w gr202
    rw [l202, y202, z202] at X202
    replace X202 : Stand p l e _ _ m _ below meth c T202 _ 4 47 := X202
    obtain ⟨d202, rfl, N202q, K202q, gd202, ed202, fa202, fb202⟩ := hQ202
    have N202 := Fr.app N135 N202q
    refine Go.tr st202 ?_
    obtain ⟨X202r, hS202, hZ202, hown202⟩ := rebS hS0 (by rw [e135]; exact hk135) X202 S202w gr202 hZ hown
    have Zs202 : n0 ≤ T202.heap.size := Nat.le_trans Zs135 K202q.1
    have O202 : Old Z n0 T202.heap := O135.keep K202q all0
    have fV_b101_202 := V135.keep K202q nin0
    have g_d202 : n0 ≤ d202 := Nat.le_trans Zs135 gd202
    have ne_b101_d202 : b101 ≠ d202 := Nat.ne_of_lt (Nat.lt_of_lt_of_le V135.lt gd202)
    show Go p e below _ (T202.setTop (mkF m 135 #[.val (.int p1), .val (.ref b101), .val (.int (13 : Int32)), .val (.ref w_NOT_A_HISTORY_CAPABILITY), .unset] [(.ref d202)]))
    refine Go.via (fun _ => XS.astore X202r.here hx rfl (hb hby at_135) rfl rfl (l' := #[.val (.int p1), .val (.ref b101), .val (.int (13 : Int32)), .val (.ref w_NOT_A_HISTORY_CAPABILITY), .val (.ref d202)]) rfl) ?_
    show Go p e below _ (T202.setTop (mkF m 137 #[.val (.int p1), .val (.ref b101), .val (.int (13 : Int32)), .val (.ref w_NOT_A_HISTORY_CAPABILITY), .val (.ref d202)] []))
    refine Go.via (fun _ => XS.aload X202r.here hx rfl (hb hby at_137) rfl rfl) ?_
    show Go p e below _ (T202.setTop (mkF m 139 #[.val (.int p1), .val (.ref b101), .val (.int (13 : Int32)), .val (.ref w_NOT_A_HISTORY_CAPABILITY), .val (.ref d202)] [(.ref d202)]))
    refine Go.via (fun _ => XS.ifnonnullYes X202r.here hx rfl (pc0 := 139) (pc' := 144) rfl (hb hby at_139) rfl (by decide) (by decide)) ?_
    show Go p e below _ (T202.setTop (mkF m 144 #[.val (.int p1), .val (.ref b101), .val (.int (13 : Int32)), .val (.ref w_NOT_A_HISTORY_CAPABILITY), .val (.ref d202)] []))
    refine Go.via (fun _ => XS.aload X202r.here hx rfl (hb hby at_144) rfl rfl) ?_
    show Go p e below _ (T202.setTop (mkF m 146 #[.val (.int p1), .val (.ref b101), .val (.int (13 : Int32)), .val (.ref w_NOT_A_HISTORY_CAPABILITY), .val (.ref d202)] [(.ref d202)]))
    obtain ⟨cq203, kq203, q203a, q203b, q203c⟩ := isOf hZ202 rfl ed202
    obtain ⟨_, _, ⟨T203, L203, k203, n203⟩, -, X203, ⟨Lc203, hQ203, l203, y203, z203⟩, st203⟩ := X202r.virtualBack hx (y := (⟨"com/example/timed_cap/timedcap/model/Decision", "reason", "()Lcom/example/timed_cap/timedcap/model/Reason;"⟩ : MethodName)) (z := (⟨"com/example/timed_cap/timedcap/model/Decision", "reason", "()Lcom/example/timed_cap/timedcap/model/Reason;"⟩ : MethodName)) hown202 (mvT hZ202 (hw _ (List.mem_of_getElem? (i := 73) rfl))) (mvT hZ202 (hw _ (List.mem_of_getElem? (i := 74) rfl))) (notFace_of_selects (args := #[]) (mvT hZ202 (hw _ (List.mem_of_getElem? (i := 76) rfl)))) (mvT hZ202 (hw _ (List.mem_of_getElem? (i := 76) rfl))) (mvT hZ202 (hw _ (List.mem_of_getElem? (i := 75) rfl))) (by decide) (backOf (W := 0) (rm_reason l Z a0 hw [] d202 w_NOT_A_HISTORY_CAPABILITY T202.heap n0 Zs202 fa202 fb202) hZ202 (hw _ (List.mem_of_getElem? (i := 77) rfl)) (hw _ (List.mem_of_getElem? (i := 41) rfl)) (by decide) (by decide)) q203a q203c (g := (mkF m 146 #[.val (.int p1), .val (.ref b101), .val (.int (13 : Int32)), .val (.ref w_NOT_A_HISTORY_CAPABILITY), .val (.ref d202)] [(.ref d202)])) rfl (by rw [hml]; rfl) (Steps.refl _) (argsL := []) (rest := []) (lenOf pd_4 rfl) rfl (by show 2 * 0 + _ ≤ _; exact Nat.le_of_eq rfl) (hb hby at_146) (fun _ _ => ⟨rfl, rfl, (by decide : 4 + 0 ≤ _), (by decide : 47 + 0 ≤ _)⟩)
    dsimp only [Pt.U, Pt.locs, Pt.cells, Pt.slots] at X203 l203 y203 z203 st203 hQ203
    rw [l203, y203, z203] at X203
    replace X203 : Stand p l e _ _ m _ below meth c T203 _ 4 47 := X203
    obtain ⟨rfl, N203q, e203q⟩ := hQ203
    have N203 := Fr.app N202 N203q
    refine Go.tr st203 ?_
    show Go p e below _ (T203.setTop (mkF m 149 #[.val (.int p1), .val (.ref b101), .val (.int (13 : Int32)), .val (.ref w_NOT_A_HISTORY_CAPABILITY), .val (.ref d202)] [(.ref w_NOT_A_HISTORY_CAPABILITY)]))
    refine Go.via (fun _ => XS.aloadN X203.here hx rfl (hb hby at_149) rfl rfl) ?_
    show Go p e below _ (T203.setTop (mkF m 150 #[.val (.int p1), .val (.ref b101), .val (.int (13 : Int32)), .val (.ref w_NOT_A_HISTORY_CAPABILITY), .val (.ref d202)] [(.ref w_NOT_A_HISTORY_CAPABILITY), (.ref w_NOT_A_HISTORY_CAPABILITY)]))
    refine Go.via (fun _ => Jvm.RoadKit.acmp (g := (mkF m 150 #[.val (.int p1), .val (.ref b101), .val (.int (13 : Int32)), .val (.ref w_NOT_A_HISTORY_CAPABILITY), .val (.ref d202)] [(.ref w_NOT_A_HISTORY_CAPABILITY), (.ref w_NOT_A_HISTORY_CAPABILITY)])) X203 hx rfl rfl rfl (pc0 := 150) (pc' := 153) (same := true) rfl (hb hby at_150) rfl (decide_eq_true rfl) (by decide) (by decide)) ?_
    show Go p e below _ (T203.setTop (mkF m 153 #[.val (.int p1), .val (.ref b101), .val (.int (13 : Int32)), .val (.ref w_NOT_A_HISTORY_CAPABILITY), .val (.ref d202)] []))
    refine Go.via (fun _ => XS.aload X203.here hx rfl (hb hby at_153) rfl rfl) ?_
    show Go p e below _ (T203.setTop (mkF m 155 #[.val (.int p1), .val (.ref b101), .val (.int (13 : Int32)), .val (.ref w_NOT_A_HISTORY_CAPABILITY), .val (.ref d202)] [(.ref d202)]))
    obtain ⟨cq204, kq204, q204a, q204b, q204c⟩ := isOf hZ202 e203q ed202
    obtain ⟨_, _, ⟨T204, L204, k204, n204⟩, -, X204, ⟨Lc204, hQ204, l204, y204, z204⟩, st204⟩ := X203.virtualBack hx (y := (⟨"com/example/timed_cap/timedcap/model/Decision", "reached", "()Lcom/example/timed_cap/timedcap/model/Reference;"⟩ : MethodName)) (z := (⟨"com/example/timed_cap/timedcap/model/Decision", "reached", "()Lcom/example/timed_cap/timedcap/model/Reference;"⟩ : MethodName)) hown202 (mvT hZ202 (hw _ (List.mem_of_getElem? (i := 78) rfl))) (mvT hZ202 (hw _ (List.mem_of_getElem? (i := 79) rfl))) (notFace_of_selects (args := #[]) (mvT hZ202 (hw _ (List.mem_of_getElem? (i := 81) rfl)))) (mvT hZ202 (hw _ (List.mem_of_getElem? (i := 81) rfl))) (mvT hZ202 (hw _ (List.mem_of_getElem? (i := 80) rfl))) (by decide) (backOf (W := 0) (rm_reached l Z a0 hw [] d202 w_NOT_A_HISTORY_CAPABILITY T202.heap n0 Zs202 fa202 fb202) hZ202 (hw _ (List.mem_of_getElem? (i := 82) rfl)) (hw _ (List.mem_of_getElem? (i := 41) rfl)) (by decide) (by decide)) q204a q204c (g := (mkF m 155 #[.val (.int p1), .val (.ref b101), .val (.int (13 : Int32)), .val (.ref w_NOT_A_HISTORY_CAPABILITY), .val (.ref d202)] [(.ref d202)])) rfl (by rw [hml]; rfl) (Steps.refl _) (argsL := []) (rest := []) (lenOf pd_5 rfl) rfl (by show 2 * 0 + _ ≤ _; exact Nat.le_of_eq rfl) (hb hby at_155) (fun _ _ => ⟨rfl, e203q, (by decide : 4 + 0 ≤ _), (by decide : 47 + 0 ≤ _)⟩)
    dsimp only [Pt.U, Pt.locs, Pt.cells, Pt.slots] at X204 l204 y204 z204 st204 hQ204
    rw [l204, y204, z204] at X204
    replace X204 : Stand p l e _ _ m _ below meth c T204 _ 4 47 := X204
    obtain ⟨rfl, N204q, e204q⟩ := hQ204
    have N204 := Fr.app N203 N204q
    refine Go.tr st204 ?_
    show Go p e below _ (T204.setTop (mkF m 158 #[.val (.int p1), .val (.ref b101), .val (.int (13 : Int32)), .val (.ref w_NOT_A_HISTORY_CAPABILITY), .val (.ref d202)] [.null]))
    refine Go.via (fun _ => XS.ifnonnullNo X204.here hx rfl (hb hby at_158) rfl) ?_
    show Go p e below _ (T204.setTop (mkF m 161 #[.val (.int p1), .val (.ref b101), .val (.int (13 : Int32)), .val (.ref w_NOT_A_HISTORY_CAPABILITY), .val (.ref d202)] []))
    refine Go.via (fun _ => XS.aload X204.here hx rfl (hb hby at_161) rfl rfl) ?_
    show Go p e below _ (T204.setTop (mkF m 163 #[.val (.int p1), .val (.ref b101), .val (.int (13 : Int32)), .val (.ref w_NOT_A_HISTORY_CAPABILITY), .val (.ref d202)] [(.ref d202)]))
    obtain ⟨cq205, kq205, q205a, q205b, q205c⟩ := isOf hZ202 e204q ed202
    obtain ⟨_, _, ⟨T205, L205, k205, n205⟩, -, X205, ⟨Lc205, hQ205, l205, y205, z205⟩, st205⟩ := X204.virtualBack hx (y := (⟨"com/example/timed_cap/timedcap/model/Decision", "isGranted", "()Z"⟩ : MethodName)) (z := (⟨"com/example/timed_cap/timedcap/model/Decision", "isGranted", "()Z"⟩ : MethodName)) hown202 (mvT hZ202 (hw _ (List.mem_of_getElem? (i := 83) rfl))) (mvT hZ202 (hw _ (List.mem_of_getElem? (i := 84) rfl))) (notFace_of_selects (args := #[]) (mvT hZ202 (hw _ (List.mem_of_getElem? (i := 86) rfl)))) (mvT hZ202 (hw _ (List.mem_of_getElem? (i := 86) rfl))) (mvT hZ202 (hw _ (List.mem_of_getElem? (i := 85) rfl))) (by decide) (backOf (W := 0) (rm_isGranted l Z a0 hw [] d202 w_NOT_A_HISTORY_CAPABILITY T202.heap n0 Zs202 fa202 fb202) hZ202 (hw _ (List.mem_of_getElem? (i := 87) rfl)) (hw _ (List.mem_of_getElem? (i := 41) rfl)) (by decide) (by decide)) q205a q205c (g := (mkF m 163 #[.val (.int p1), .val (.ref b101), .val (.int (13 : Int32)), .val (.ref w_NOT_A_HISTORY_CAPABILITY), .val (.ref d202)] [(.ref d202)])) rfl (by rw [hml]; rfl) (Steps.refl _) (argsL := []) (rest := []) (lenOf pd_6 rfl) rfl (by show 2 * 0 + _ ≤ _; exact Nat.le_of_eq rfl) (hb hby at_163) (fun _ _ => ⟨rfl, e204q, (by decide : 4 + 0 ≤ _), (by decide : 47 + 0 ≤ _)⟩)
    dsimp only [Pt.U, Pt.locs, Pt.cells, Pt.slots] at X205 l205 y205 z205 st205 hQ205
    rw [l205, y205, z205] at X205
    replace X205 : Stand p l e _ _ m _ below meth c T205 _ 4 47 := X205
    obtain ⟨rfl, N205q, e205q⟩ := hQ205
    have N205 := Fr.app N204 N205q
    refine Go.tr st205 ?_
    show Go p e below _ (T205.setTop (mkF m 166 #[.val (.int p1), .val (.ref b101), .val (.int (13 : Int32)), .val (.ref w_NOT_A_HISTORY_CAPABILITY), .val (.ref d202)] [(.int (0 : Int32))]))
    refine Go.via (fun _ => XS.ifNo X205.here hx rfl (hb hby at_166) rfl (by decide)) ?_
    show Go p e below _ (T205.setTop (mkF m 169 #[.val (.int p1), .val (.ref b101), .val (.int (13 : Int32)), .val (.ref w_NOT_A_HISTORY_CAPABILITY), .val (.ref d202)] []))
    refine Go.via (fun _ => XS.iconst X205.here hx rfl (hb hby at_169)) ?_
    show Go p e below _ (T205.setTop (mkF m 170 #[.val (.int p1), .val (.ref b101), .val (.int (13 : Int32)), .val (.ref w_NOT_A_HISTORY_CAPABILITY), .val (.ref d202)] [(.int (1 : Int32))]))
    refine Go.via (fun _ => XS.goto X205.here hx rfl (pc0 := 170) (pc' := 174) rfl (hb hby at_170) (by decide) (by decide)) ?_
    show Go p e below _ (T205.setTop (mkF m 174 #[.val (.int p1), .val (.ref b101), .val (.int (13 : Int32)), .val (.ref w_NOT_A_HISTORY_CAPABILITY), .val (.ref d202)] [(.int (1 : Int32))]))
    exact own_retNW X205 hS202 (by rw [e205q]; exact (Nat.le_refl _)) hx hlk (t := .boolean) Bd.returns (by simp) (hb hby at_174) (by show Q0 Z p1 w_MALFORMED w_ALTERED w_RESEALED w_NOT_HOLDER w_REVOKED w_NO_SUCH_VERSION w_NO_VERSION_YET w_NOT_YET_EFFECTIVE w_EXPIRED w_LEASE_ENDED w_OUTSIDE_SCHEDULE w_RIGHT_NOT_HELD w_VERSION_EXISTS w_NOT_A_HISTORY_CAPABILITY w_WIDENS_PARENT w_NOT_AN_ANCESTOR w_NO_SUCH_LEASE h0 n0 _ T205.heap _; rw [e205q]; exact ⟨rfl, N205⟩) (by decide) (by decide)
  ·
    show Go p e below _ (T135.setTop (mkF m 126 #[.val (.int p1), .val (.ref b101), .unset, .unset, .unset] [(.int (14 : Int32))]))
    refine Go.via (fun _ => XS.istoreN X135.here hx rfl (hb hby at_126) rfl (l' := #[.val (.int p1), .val (.ref b101), .val (.int (14 : Int32)), .unset, .unset]) rfl) ?_
    show Go p e below _ (T135.setTop (mkF m 127 #[.val (.int p1), .val (.ref b101), .val (.int (14 : Int32)), .unset, .unset] []))
    refine Go.via (fun _ => XS.aloadN X135.here hx rfl (hb hby at_127) rfl rfl) ?_
    show Go p e below _ (T135.setTop (mkF m 128 #[.val (.int p1), .val (.ref b101), .val (.int (14 : Int32)), .unset, .unset] [(.ref b101)]))
    refine Go.via (fun _ => XS.iloadN X135.here hx rfl (hb hby at_128) rfl) ?_
    show Go p e below _ (T135.setTop (mkF m 129 #[.val (.int p1), .val (.ref b101), .val (.int (14 : Int32)), .unset, .unset] [(.int (14 : Int32)), (.ref b101)]))
    obtain ⟨cl206, Ar206, q206, S206, N206n, H206, G206⟩ := id V135
    have hin206 := inb_of (j := (14 : Int32)) S206 (by decide)
    have hat206 : cl206.slots[((14 : Int32) : Int32).toNatClampNeg]? = some (.ref w_WIDENS_PARENT) := H206.at hin206 rfl
    refine Go.via (X135.aaload hx (j := (14 : Int32)) (v := (.ref w_WIDENS_PARENT)) (by rw [e135]; exact Ar206.1) (State.isArrayOf_alike hZ.alike Ar206.2.1) rfl Ar206.2.2 hin206 hat206 (g := (mkF m 129 #[.val (.int p1), .val (.ref b101), .val (.int (14 : Int32)), .unset, .unset] [(.int (14 : Int32)), (.ref b101)])) rfl rfl (hb hby at_129)) ?_
    show Go p e below _ (T135.setTop (mkF m 130 #[.val (.int p1), .val (.ref b101), .val (.int (14 : Int32)), .unset, .unset] [(.ref w_WIDENS_PARENT)]))
    refine Go.via (fun _ => XS.astoreN X135.here hx rfl (hb hby at_130) rfl rfl (l' := #[.val (.int p1), .val (.ref b101), .val (.int (14 : Int32)), .val (.ref w_WIDENS_PARENT), .unset]) rfl) ?_
    show Go p e below _ (T135.setTop (mkF m 131 #[.val (.int p1), .val (.ref b101), .val (.int (14 : Int32)), .val (.ref w_WIDENS_PARENT), .unset] []))
    refine Go.via (fun _ => XS.aloadN X135.here hx rfl (hb hby at_131) rfl rfl) ?_
    show Go p e below _ (T135.setTop (mkF m 132 #[.val (.int p1), .val (.ref b101), .val (.int (14 : Int32)), .val (.ref w_WIDENS_PARENT), .unset] [(.ref w_WIDENS_PARENT)]))
    obtain ⟨_, _, ⟨T207, L207, k207, n207⟩, -, X207, S207w, gr207, ⟨Lc207, hQ207, l207, y207, z207⟩, st207⟩ := callSS X135 hx (y := (⟨"com/example/timed_cap/timedcap/model/Decision", "denied", "(Lcom/example/timed_cap/timedcap/model/Reason;)Lcom/example/timed_cap/timedcap/model/Decision;"⟩ : MethodName)) hown (mvT hZ (hw _ (List.mem_of_getElem? (i := 39) rfl))) (mvT hZ (hw _ (List.mem_of_getElem? (i := 40) rfl))) (mvT hZ (hw _ (List.mem_of_getElem? (i := 41) rfl))) (mvT hZ (hw _ (List.mem_of_getElem? (i := 42) rfl))) (by decide) (backOfS (W := 0) (rmDen l Z a0 hw [] w_WIDENS_PARENT h135 n0 Zs135 (E_WIDENS_PARENT.ext O135.2)) hZ (hw _ (List.mem_of_getElem? (i := 42) rfl)) (hw _ (List.mem_of_getElem? (i := 41) rfl)) (by decide) (by decide)) (g := (mkF m 132 #[.val (.int p1), .val (.ref b101), .val (.int (14 : Int32)), .val (.ref w_WIDENS_PARENT), .unset] [(.ref w_WIDENS_PARENT)])) rfl (by rw [hml]; rfl) (argsL := [(.ref w_WIDENS_PARENT)]) (rest := []) (lenOf pd_3 rfl) rfl (by show 2 * 0 + _ ≤ _; exact Nat.le_of_eq rfl) (hb hby at_132) (fun _ _ => ⟨rfl, e135, (by decide : 1 + 3 ≤ _), (by decide : 17 + 30 ≤ _)⟩)
    dsimp only [Pt.U, Pt.locs, Pt.cells, Pt.slots] at X207 l207 y207 z207 st207 hQ207 S207w gr207
    rw [l207, y207, z207] at X207
    replace X207 : Stand p l e _ _ m _ below meth c T207 _ 4 47 := X207
    obtain ⟨d207, rfl, N207q, K207q, gd207, ed207, fa207, fb207⟩ := hQ207
    have N207 := Fr.app N135 N207q
    refine Go.tr st207 ?_
    obtain ⟨X207r, hS207, hZ207, hown207⟩ := rebS hS0 (by rw [e135]; exact hk135) X207 S207w gr207 hZ hown
    have Zs207 : n0 ≤ T207.heap.size := Nat.le_trans Zs135 K207q.1
    have O207 : Old Z n0 T207.heap := O135.keep K207q all0
    have fV_b101_207 := V135.keep K207q nin0
    have g_d207 : n0 ≤ d207 := Nat.le_trans Zs135 gd207
    have ne_b101_d207 : b101 ≠ d207 := Nat.ne_of_lt (Nat.lt_of_lt_of_le V135.lt gd207)
    show Go p e below _ (T207.setTop (mkF m 135 #[.val (.int p1), .val (.ref b101), .val (.int (14 : Int32)), .val (.ref w_WIDENS_PARENT), .unset] [(.ref d207)]))
    refine Go.via (fun _ => XS.astore X207r.here hx rfl (hb hby at_135) rfl rfl (l' := #[.val (.int p1), .val (.ref b101), .val (.int (14 : Int32)), .val (.ref w_WIDENS_PARENT), .val (.ref d207)]) rfl) ?_
    show Go p e below _ (T207.setTop (mkF m 137 #[.val (.int p1), .val (.ref b101), .val (.int (14 : Int32)), .val (.ref w_WIDENS_PARENT), .val (.ref d207)] []))
    refine Go.via (fun _ => XS.aload X207r.here hx rfl (hb hby at_137) rfl rfl) ?_
    show Go p e below _ (T207.setTop (mkF m 139 #[.val (.int p1), .val (.ref b101), .val (.int (14 : Int32)), .val (.ref w_WIDENS_PARENT), .val (.ref d207)] [(.ref d207)]))
    refine Go.via (fun _ => XS.ifnonnullYes X207r.here hx rfl (pc0 := 139) (pc' := 144) rfl (hb hby at_139) rfl (by decide) (by decide)) ?_
    show Go p e below _ (T207.setTop (mkF m 144 #[.val (.int p1), .val (.ref b101), .val (.int (14 : Int32)), .val (.ref w_WIDENS_PARENT), .val (.ref d207)] []))
    refine Go.via (fun _ => XS.aload X207r.here hx rfl (hb hby at_144) rfl rfl) ?_
    show Go p e below _ (T207.setTop (mkF m 146 #[.val (.int p1), .val (.ref b101), .val (.int (14 : Int32)), .val (.ref w_WIDENS_PARENT), .val (.ref d207)] [(.ref d207)]))
    obtain ⟨cq208, kq208, q208a, q208b, q208c⟩ := isOf hZ207 rfl ed207
    obtain ⟨_, _, ⟨T208, L208, k208, n208⟩, -, X208, ⟨Lc208, hQ208, l208, y208, z208⟩, st208⟩ := X207r.virtualBack hx (y := (⟨"com/example/timed_cap/timedcap/model/Decision", "reason", "()Lcom/example/timed_cap/timedcap/model/Reason;"⟩ : MethodName)) (z := (⟨"com/example/timed_cap/timedcap/model/Decision", "reason", "()Lcom/example/timed_cap/timedcap/model/Reason;"⟩ : MethodName)) hown207 (mvT hZ207 (hw _ (List.mem_of_getElem? (i := 73) rfl))) (mvT hZ207 (hw _ (List.mem_of_getElem? (i := 74) rfl))) (notFace_of_selects (args := #[]) (mvT hZ207 (hw _ (List.mem_of_getElem? (i := 76) rfl)))) (mvT hZ207 (hw _ (List.mem_of_getElem? (i := 76) rfl))) (mvT hZ207 (hw _ (List.mem_of_getElem? (i := 75) rfl))) (by decide) (backOf (W := 0) (rm_reason l Z a0 hw [] d207 w_WIDENS_PARENT T207.heap n0 Zs207 fa207 fb207) hZ207 (hw _ (List.mem_of_getElem? (i := 77) rfl)) (hw _ (List.mem_of_getElem? (i := 41) rfl)) (by decide) (by decide)) q208a q208c (g := (mkF m 146 #[.val (.int p1), .val (.ref b101), .val (.int (14 : Int32)), .val (.ref w_WIDENS_PARENT), .val (.ref d207)] [(.ref d207)])) rfl (by rw [hml]; rfl) (Steps.refl _) (argsL := []) (rest := []) (lenOf pd_4 rfl) rfl (by show 2 * 0 + _ ≤ _; exact Nat.le_of_eq rfl) (hb hby at_146) (fun _ _ => ⟨rfl, rfl, (by decide : 4 + 0 ≤ _), (by decide : 47 + 0 ≤ _)⟩)
    dsimp only [Pt.U, Pt.locs, Pt.cells, Pt.slots] at X208 l208 y208 z208 st208 hQ208
    rw [l208, y208, z208] at X208
    replace X208 : Stand p l e _ _ m _ below meth c T208 _ 4 47 := X208
    obtain ⟨rfl, N208q, e208q⟩ := hQ208
    have N208 := Fr.app N207 N208q
    refine Go.tr st208 ?_
    show Go p e below _ (T208.setTop (mkF m 149 #[.val (.int p1), .val (.ref b101), .val (.int (14 : Int32)), .val (.ref w_WIDENS_PARENT), .val (.ref d207)] [(.ref w_WIDENS_PARENT)]))
    refine Go.via (fun _ => XS.aloadN X208.here hx rfl (hb hby at_149) rfl rfl) ?_
    show Go p e below _ (T208.setTop (mkF m 150 #[.val (.int p1), .val (.ref b101), .val (.int (14 : Int32)), .val (.ref w_WIDENS_PARENT), .val (.ref d207)] [(.ref w_WIDENS_PARENT), (.ref w_WIDENS_PARENT)]))
    refine Go.via (fun _ => Jvm.RoadKit.acmp (g := (mkF m 150 #[.val (.int p1), .val (.ref b101), .val (.int (14 : Int32)), .val (.ref w_WIDENS_PARENT), .val (.ref d207)] [(.ref w_WIDENS_PARENT), (.ref w_WIDENS_PARENT)])) X208 hx rfl rfl rfl (pc0 := 150) (pc' := 153) (same := true) rfl (hb hby at_150) rfl (decide_eq_true rfl) (by decide) (by decide)) ?_
    show Go p e below _ (T208.setTop (mkF m 153 #[.val (.int p1), .val (.ref b101), .val (.int (14 : Int32)), .val (.ref w_WIDENS_PARENT), .val (.ref d207)] []))
    refine Go.via (fun _ => XS.aload X208.here hx rfl (hb hby at_153) rfl rfl) ?_
    show Go p e below _ (T208.setTop (mkF m 155 #[.val (.int p1), .val (.ref b101), .val (.int (14 : Int32)), .val (.ref w_WIDENS_PARENT), .val (.ref d207)] [(.ref d207)]))
    obtain ⟨cq209, kq209, q209a, q209b, q209c⟩ := isOf hZ207 e208q ed207
    obtain ⟨_, _, ⟨T209, L209, k209, n209⟩, -, X209, ⟨Lc209, hQ209, l209, y209, z209⟩, st209⟩ := X208.virtualBack hx (y := (⟨"com/example/timed_cap/timedcap/model/Decision", "reached", "()Lcom/example/timed_cap/timedcap/model/Reference;"⟩ : MethodName)) (z := (⟨"com/example/timed_cap/timedcap/model/Decision", "reached", "()Lcom/example/timed_cap/timedcap/model/Reference;"⟩ : MethodName)) hown207 (mvT hZ207 (hw _ (List.mem_of_getElem? (i := 78) rfl))) (mvT hZ207 (hw _ (List.mem_of_getElem? (i := 79) rfl))) (notFace_of_selects (args := #[]) (mvT hZ207 (hw _ (List.mem_of_getElem? (i := 81) rfl)))) (mvT hZ207 (hw _ (List.mem_of_getElem? (i := 81) rfl))) (mvT hZ207 (hw _ (List.mem_of_getElem? (i := 80) rfl))) (by decide) (backOf (W := 0) (rm_reached l Z a0 hw [] d207 w_WIDENS_PARENT T207.heap n0 Zs207 fa207 fb207) hZ207 (hw _ (List.mem_of_getElem? (i := 82) rfl)) (hw _ (List.mem_of_getElem? (i := 41) rfl)) (by decide) (by decide)) q209a q209c (g := (mkF m 155 #[.val (.int p1), .val (.ref b101), .val (.int (14 : Int32)), .val (.ref w_WIDENS_PARENT), .val (.ref d207)] [(.ref d207)])) rfl (by rw [hml]; rfl) (Steps.refl _) (argsL := []) (rest := []) (lenOf pd_5 rfl) rfl (by show 2 * 0 + _ ≤ _; exact Nat.le_of_eq rfl) (hb hby at_155) (fun _ _ => ⟨rfl, e208q, (by decide : 4 + 0 ≤ _), (by decide : 47 + 0 ≤ _)⟩)
    dsimp only [Pt.U, Pt.locs, Pt.cells, Pt.slots] at X209 l209 y209 z209 st209 hQ209
    rw [l209, y209, z209] at X209
    replace X209 : Stand p l e _ _ m _ below meth c T209 _ 4 47 := X209
    obtain ⟨rfl, N209q, e209q⟩ := hQ209
    have N209 := Fr.app N208 N209q
    refine Go.tr st209 ?_
    show Go p e below _ (T209.setTop (mkF m 158 #[.val (.int p1), .val (.ref b101), .val (.int (14 : Int32)), .val (.ref w_WIDENS_PARENT), .val (.ref d207)] [.null]))
    refine Go.via (fun _ => XS.ifnonnullNo X209.here hx rfl (hb hby at_158) rfl) ?_
    show Go p e below _ (T209.setTop (mkF m 161 #[.val (.int p1), .val (.ref b101), .val (.int (14 : Int32)), .val (.ref w_WIDENS_PARENT), .val (.ref d207)] []))
    refine Go.via (fun _ => XS.aload X209.here hx rfl (hb hby at_161) rfl rfl) ?_
    show Go p e below _ (T209.setTop (mkF m 163 #[.val (.int p1), .val (.ref b101), .val (.int (14 : Int32)), .val (.ref w_WIDENS_PARENT), .val (.ref d207)] [(.ref d207)]))
    obtain ⟨cq210, kq210, q210a, q210b, q210c⟩ := isOf hZ207 e209q ed207
    obtain ⟨_, _, ⟨T210, L210, k210, n210⟩, -, X210, ⟨Lc210, hQ210, l210, y210, z210⟩, st210⟩ := X209.virtualBack hx (y := (⟨"com/example/timed_cap/timedcap/model/Decision", "isGranted", "()Z"⟩ : MethodName)) (z := (⟨"com/example/timed_cap/timedcap/model/Decision", "isGranted", "()Z"⟩ : MethodName)) hown207 (mvT hZ207 (hw _ (List.mem_of_getElem? (i := 83) rfl))) (mvT hZ207 (hw _ (List.mem_of_getElem? (i := 84) rfl))) (notFace_of_selects (args := #[]) (mvT hZ207 (hw _ (List.mem_of_getElem? (i := 86) rfl)))) (mvT hZ207 (hw _ (List.mem_of_getElem? (i := 86) rfl))) (mvT hZ207 (hw _ (List.mem_of_getElem? (i := 85) rfl))) (by decide) (backOf (W := 0) (rm_isGranted l Z a0 hw [] d207 w_WIDENS_PARENT T207.heap n0 Zs207 fa207 fb207) hZ207 (hw _ (List.mem_of_getElem? (i := 87) rfl)) (hw _ (List.mem_of_getElem? (i := 41) rfl)) (by decide) (by decide)) q210a q210c (g := (mkF m 163 #[.val (.int p1), .val (.ref b101), .val (.int (14 : Int32)), .val (.ref w_WIDENS_PARENT), .val (.ref d207)] [(.ref d207)])) rfl (by rw [hml]; rfl) (Steps.refl _) (argsL := []) (rest := []) (lenOf pd_6 rfl) rfl (by show 2 * 0 + _ ≤ _; exact Nat.le_of_eq rfl) (hb hby at_163) (fun _ _ => ⟨rfl, e209q, (by decide : 4 + 0 ≤ _), (by decide : 47 + 0 ≤ _)⟩)
    dsimp only [Pt.U, Pt.locs, Pt.cells, Pt.slots] at X210 l210 y210 z210 st210 hQ210
    rw [l210, y210, z210] at X210
    replace X210 : Stand p l e _ _ m _ below meth c T210 _ 4 47 := X210
    obtain ⟨rfl, N210q, e210q⟩ := hQ210
    have N210 := Fr.app N209 N210q
    refine Go.tr st210 ?_
    show Go p e below _ (T210.setTop (mkF m 166 #[.val (.int p1), .val (.ref b101), .val (.int (14 : Int32)), .val (.ref w_WIDENS_PARENT), .val (.ref d207)] [(.int (0 : Int32))]))
    refine Go.via (fun _ => XS.ifNo X210.here hx rfl (hb hby at_166) rfl (by decide)) ?_
    show Go p e below _ (T210.setTop (mkF m 169 #[.val (.int p1), .val (.ref b101), .val (.int (14 : Int32)), .val (.ref w_WIDENS_PARENT), .val (.ref d207)] []))
    refine Go.via (fun _ => XS.iconst X210.here hx rfl (hb hby at_169)) ?_
    show Go p e below _ (T210.setTop (mkF m 170 #[.val (.int p1), .val (.ref b101), .val (.int (14 : Int32)), .val (.ref w_WIDENS_PARENT), .val (.ref d207)] [(.int (1 : Int32))]))
    refine Go.via (fun _ => XS.goto X210.here hx rfl (pc0 := 170) (pc' := 174) rfl (hb hby at_170) (by decide) (by decide)) ?_
    show Go p e below _ (T210.setTop (mkF m 174 #[.val (.int p1), .val (.ref b101), .val (.int (14 : Int32)), .val (.ref w_WIDENS_PARENT), .val (.ref d207)] [(.int (1 : Int32))]))
    exact own_retNW X210 hS207 (by rw [e210q]; exact (Nat.le_refl _)) hx hlk (t := .boolean) Bd.returns (by simp) (hb hby at_174) (by show Q0 Z p1 w_MALFORMED w_ALTERED w_RESEALED w_NOT_HOLDER w_REVOKED w_NO_SUCH_VERSION w_NO_VERSION_YET w_NOT_YET_EFFECTIVE w_EXPIRED w_LEASE_ENDED w_OUTSIDE_SCHEDULE w_RIGHT_NOT_HELD w_VERSION_EXISTS w_NOT_A_HISTORY_CAPABILITY w_WIDENS_PARENT w_NOT_AN_ANCESTOR w_NO_SUCH_LEASE h0 n0 _ T210.heap _; rw [e210q]; exact ⟨rfl, N210⟩) (by decide) (by decide)
  ·
    show Go p e below _ (T135.setTop (mkF m 126 #[.val (.int p1), .val (.ref b101), .unset, .unset, .unset] [(.int (15 : Int32))]))
    refine Go.via (fun _ => XS.istoreN X135.here hx rfl (hb hby at_126) rfl (l' := #[.val (.int p1), .val (.ref b101), .val (.int (15 : Int32)), .unset, .unset]) rfl) ?_
    show Go p e below _ (T135.setTop (mkF m 127 #[.val (.int p1), .val (.ref b101), .val (.int (15 : Int32)), .unset, .unset] []))
    refine Go.via (fun _ => XS.aloadN X135.here hx rfl (hb hby at_127) rfl rfl) ?_
    show Go p e below _ (T135.setTop (mkF m 128 #[.val (.int p1), .val (.ref b101), .val (.int (15 : Int32)), .unset, .unset] [(.ref b101)]))
    refine Go.via (fun _ => XS.iloadN X135.here hx rfl (hb hby at_128) rfl) ?_
    show Go p e below _ (T135.setTop (mkF m 129 #[.val (.int p1), .val (.ref b101), .val (.int (15 : Int32)), .unset, .unset] [(.int (15 : Int32)), (.ref b101)]))
    obtain ⟨cl211, Ar211, q211, S211, N211n, H211, G211⟩ := id V135
    have hin211 := inb_of (j := (15 : Int32)) S211 (by decide)
    have hat211 : cl211.slots[((15 : Int32) : Int32).toNatClampNeg]? = some (.ref w_NOT_AN_ANCESTOR) := H211.at hin211 rfl
    refine Go.via (X135.aaload hx (j := (15 : Int32)) (v := (.ref w_NOT_AN_ANCESTOR)) (by rw [e135]; exact Ar211.1) (State.isArrayOf_alike hZ.alike Ar211.2.1) rfl Ar211.2.2 hin211 hat211 (g := (mkF m 129 #[.val (.int p1), .val (.ref b101), .val (.int (15 : Int32)), .unset, .unset] [(.int (15 : Int32)), (.ref b101)])) rfl rfl (hb hby at_129)) ?_
    show Go p e below _ (T135.setTop (mkF m 130 #[.val (.int p1), .val (.ref b101), .val (.int (15 : Int32)), .unset, .unset] [(.ref w_NOT_AN_ANCESTOR)]))
    refine Go.via (fun _ => XS.astoreN X135.here hx rfl (hb hby at_130) rfl rfl (l' := #[.val (.int p1), .val (.ref b101), .val (.int (15 : Int32)), .val (.ref w_NOT_AN_ANCESTOR), .unset]) rfl) ?_
    show Go p e below _ (T135.setTop (mkF m 131 #[.val (.int p1), .val (.ref b101), .val (.int (15 : Int32)), .val (.ref w_NOT_AN_ANCESTOR), .unset] []))
    refine Go.via (fun _ => XS.aloadN X135.here hx rfl (hb hby at_131) rfl rfl) ?_
    show Go p e below _ (T135.setTop (mkF m 132 #[.val (.int p1), .val (.ref b101), .val (.int (15 : Int32)), .val (.ref w_NOT_AN_ANCESTOR), .unset] [(.ref w_NOT_AN_ANCESTOR)]))
    obtain ⟨_, _, ⟨T212, L212, k212, n212⟩, -, X212, S212w, gr212, ⟨Lc212, hQ212, l212, y212, z212⟩, st212⟩ := callSS X135 hx (y := (⟨"com/example/timed_cap/timedcap/model/Decision", "denied", "(Lcom/example/timed_cap/timedcap/model/Reason;)Lcom/example/timed_cap/timedcap/model/Decision;"⟩ : MethodName)) hown (mvT hZ (hw _ (List.mem_of_getElem? (i := 39) rfl))) (mvT hZ (hw _ (List.mem_of_getElem? (i := 40) rfl))) (mvT hZ (hw _ (List.mem_of_getElem? (i := 41) rfl))) (mvT hZ (hw _ (List.mem_of_getElem? (i := 42) rfl))) (by decide) (backOfS (W := 0) (rmDen l Z a0 hw [] w_NOT_AN_ANCESTOR h135 n0 Zs135 (E_NOT_AN_ANCESTOR.ext O135.2)) hZ (hw _ (List.mem_of_getElem? (i := 42) rfl)) (hw _ (List.mem_of_getElem? (i := 41) rfl)) (by decide) (by decide)) (g := (mkF m 132 #[.val (.int p1), .val (.ref b101), .val (.int (15 : Int32)), .val (.ref w_NOT_AN_ANCESTOR), .unset] [(.ref w_NOT_AN_ANCESTOR)])) rfl (by rw [hml]; rfl) (argsL := [(.ref w_NOT_AN_ANCESTOR)]) (rest := []) (lenOf pd_3 rfl) rfl (by show 2 * 0 + _ ≤ _; exact Nat.le_of_eq rfl) (hb hby at_132) (fun _ _ => ⟨rfl, e135, (by decide : 1 + 3 ≤ _), (by decide : 17 + 30 ≤ _)⟩)
    dsimp only [Pt.U, Pt.locs, Pt.cells, Pt.slots] at X212 l212 y212 z212 st212 hQ212 S212w gr212
    rw [l212, y212, z212] at X212
    replace X212 : Stand p l e _ _ m _ below meth c T212 _ 4 47 := X212
    obtain ⟨d212, rfl, N212q, K212q, gd212, ed212, fa212, fb212⟩ := hQ212
    have N212 := Fr.app N135 N212q
    refine Go.tr st212 ?_
    obtain ⟨X212r, hS212, hZ212, hown212⟩ := rebS hS0 (by rw [e135]; exact hk135) X212 S212w gr212 hZ hown
    have Zs212 : n0 ≤ T212.heap.size := Nat.le_trans Zs135 K212q.1
    have O212 : Old Z n0 T212.heap := O135.keep K212q all0
    have fV_b101_212 := V135.keep K212q nin0
    have g_d212 : n0 ≤ d212 := Nat.le_trans Zs135 gd212
    have ne_b101_d212 : b101 ≠ d212 := Nat.ne_of_lt (Nat.lt_of_lt_of_le V135.lt gd212)
    show Go p e below _ (T212.setTop (mkF m 135 #[.val (.int p1), .val (.ref b101), .val (.int (15 : Int32)), .val (.ref w_NOT_AN_ANCESTOR), .unset] [(.ref d212)]))
    refine Go.via (fun _ => XS.astore X212r.here hx rfl (hb hby at_135) rfl rfl (l' := #[.val (.int p1), .val (.ref b101), .val (.int (15 : Int32)), .val (.ref w_NOT_AN_ANCESTOR), .val (.ref d212)]) rfl) ?_
    show Go p e below _ (T212.setTop (mkF m 137 #[.val (.int p1), .val (.ref b101), .val (.int (15 : Int32)), .val (.ref w_NOT_AN_ANCESTOR), .val (.ref d212)] []))
    refine Go.via (fun _ => XS.aload X212r.here hx rfl (hb hby at_137) rfl rfl) ?_
    show Go p e below _ (T212.setTop (mkF m 139 #[.val (.int p1), .val (.ref b101), .val (.int (15 : Int32)), .val (.ref w_NOT_AN_ANCESTOR), .val (.ref d212)] [(.ref d212)]))
    refine Go.via (fun _ => XS.ifnonnullYes X212r.here hx rfl (pc0 := 139) (pc' := 144) rfl (hb hby at_139) rfl (by decide) (by decide)) ?_
    show Go p e below _ (T212.setTop (mkF m 144 #[.val (.int p1), .val (.ref b101), .val (.int (15 : Int32)), .val (.ref w_NOT_AN_ANCESTOR), .val (.ref d212)] []))
    refine Go.via (fun _ => XS.aload X212r.here hx rfl (hb hby at_144) rfl rfl) ?_
    show Go p e below _ (T212.setTop (mkF m 146 #[.val (.int p1), .val (.ref b101), .val (.int (15 : Int32)), .val (.ref w_NOT_AN_ANCESTOR), .val (.ref d212)] [(.ref d212)]))
    obtain ⟨cq213, kq213, q213a, q213b, q213c⟩ := isOf hZ212 rfl ed212
    obtain ⟨_, _, ⟨T213, L213, k213, n213⟩, -, X213, ⟨Lc213, hQ213, l213, y213, z213⟩, st213⟩ := X212r.virtualBack hx (y := (⟨"com/example/timed_cap/timedcap/model/Decision", "reason", "()Lcom/example/timed_cap/timedcap/model/Reason;"⟩ : MethodName)) (z := (⟨"com/example/timed_cap/timedcap/model/Decision", "reason", "()Lcom/example/timed_cap/timedcap/model/Reason;"⟩ : MethodName)) hown212 (mvT hZ212 (hw _ (List.mem_of_getElem? (i := 73) rfl))) (mvT hZ212 (hw _ (List.mem_of_getElem? (i := 74) rfl))) (notFace_of_selects (args := #[]) (mvT hZ212 (hw _ (List.mem_of_getElem? (i := 76) rfl)))) (mvT hZ212 (hw _ (List.mem_of_getElem? (i := 76) rfl))) (mvT hZ212 (hw _ (List.mem_of_getElem? (i := 75) rfl))) (by decide) (backOf (W := 0) (rm_reason l Z a0 hw [] d212 w_NOT_AN_ANCESTOR T212.heap n0 Zs212 fa212 fb212) hZ212 (hw _ (List.mem_of_getElem? (i := 77) rfl)) (hw _ (List.mem_of_getElem? (i := 41) rfl)) (by decide) (by decide)) q213a q213c (g := (mkF m 146 #[.val (.int p1), .val (.ref b101), .val (.int (15 : Int32)), .val (.ref w_NOT_AN_ANCESTOR), .val (.ref d212)] [(.ref d212)])) rfl (by rw [hml]; rfl) (Steps.refl _) (argsL := []) (rest := []) (lenOf pd_4 rfl) rfl (by show 2 * 0 + _ ≤ _; exact Nat.le_of_eq rfl) (hb hby at_146) (fun _ _ => ⟨rfl, rfl, (by decide : 4 + 0 ≤ _), (by decide : 47 + 0 ≤ _)⟩)
    dsimp only [Pt.U, Pt.locs, Pt.cells, Pt.slots] at X213 l213 y213 z213 st213 hQ213
    rw [l213, y213, z213] at X213
    replace X213 : Stand p l e _ _ m _ below meth c T213 _ 4 47 := X213
    obtain ⟨rfl, N213q, e213q⟩ := hQ213
    have N213 := Fr.app N212 N213q
    refine Go.tr st213 ?_
    show Go p e below _ (T213.setTop (mkF m 149 #[.val (.int p1), .val (.ref b101), .val (.int (15 : Int32)), .val (.ref w_NOT_AN_ANCESTOR), .val (.ref d212)] [(.ref w_NOT_AN_ANCESTOR)]))
    refine Go.via (fun _ => XS.aloadN X213.here hx rfl (hb hby at_149) rfl rfl) ?_
    show Go p e below _ (T213.setTop (mkF m 150 #[.val (.int p1), .val (.ref b101), .val (.int (15 : Int32)), .val (.ref w_NOT_AN_ANCESTOR), .val (.ref d212)] [(.ref w_NOT_AN_ANCESTOR), (.ref w_NOT_AN_ANCESTOR)]))
    refine Go.via (fun _ => Jvm.RoadKit.acmp (g := (mkF m 150 #[.val (.int p1), .val (.ref b101), .val (.int (15 : Int32)), .val (.ref w_NOT_AN_ANCESTOR), .val (.ref d212)] [(.ref w_NOT_AN_ANCESTOR), (.ref w_NOT_AN_ANCESTOR)])) X213 hx rfl rfl rfl (pc0 := 150) (pc' := 153) (same := true) rfl (hb hby at_150) rfl (decide_eq_true rfl) (by decide) (by decide)) ?_
    show Go p e below _ (T213.setTop (mkF m 153 #[.val (.int p1), .val (.ref b101), .val (.int (15 : Int32)), .val (.ref w_NOT_AN_ANCESTOR), .val (.ref d212)] []))
    refine Go.via (fun _ => XS.aload X213.here hx rfl (hb hby at_153) rfl rfl) ?_
    show Go p e below _ (T213.setTop (mkF m 155 #[.val (.int p1), .val (.ref b101), .val (.int (15 : Int32)), .val (.ref w_NOT_AN_ANCESTOR), .val (.ref d212)] [(.ref d212)]))
    obtain ⟨cq214, kq214, q214a, q214b, q214c⟩ := isOf hZ212 e213q ed212
    obtain ⟨_, _, ⟨T214, L214, k214, n214⟩, -, X214, ⟨Lc214, hQ214, l214, y214, z214⟩, st214⟩ := X213.virtualBack hx (y := (⟨"com/example/timed_cap/timedcap/model/Decision", "reached", "()Lcom/example/timed_cap/timedcap/model/Reference;"⟩ : MethodName)) (z := (⟨"com/example/timed_cap/timedcap/model/Decision", "reached", "()Lcom/example/timed_cap/timedcap/model/Reference;"⟩ : MethodName)) hown212 (mvT hZ212 (hw _ (List.mem_of_getElem? (i := 78) rfl))) (mvT hZ212 (hw _ (List.mem_of_getElem? (i := 79) rfl))) (notFace_of_selects (args := #[]) (mvT hZ212 (hw _ (List.mem_of_getElem? (i := 81) rfl)))) (mvT hZ212 (hw _ (List.mem_of_getElem? (i := 81) rfl))) (mvT hZ212 (hw _ (List.mem_of_getElem? (i := 80) rfl))) (by decide) (backOf (W := 0) (rm_reached l Z a0 hw [] d212 w_NOT_AN_ANCESTOR T212.heap n0 Zs212 fa212 fb212) hZ212 (hw _ (List.mem_of_getElem? (i := 82) rfl)) (hw _ (List.mem_of_getElem? (i := 41) rfl)) (by decide) (by decide)) q214a q214c (g := (mkF m 155 #[.val (.int p1), .val (.ref b101), .val (.int (15 : Int32)), .val (.ref w_NOT_AN_ANCESTOR), .val (.ref d212)] [(.ref d212)])) rfl (by rw [hml]; rfl) (Steps.refl _) (argsL := []) (rest := []) (lenOf pd_5 rfl) rfl (by show 2 * 0 + _ ≤ _; exact Nat.le_of_eq rfl) (hb hby at_155) (fun _ _ => ⟨rfl, e213q, (by decide : 4 + 0 ≤ _), (by decide : 47 + 0 ≤ _)⟩)
    dsimp only [Pt.U, Pt.locs, Pt.cells, Pt.slots] at X214 l214 y214 z214 st214 hQ214
    rw [l214, y214, z214] at X214
    replace X214 : Stand p l e _ _ m _ below meth c T214 _ 4 47 := X214
    obtain ⟨rfl, N214q, e214q⟩ := hQ214
    have N214 := Fr.app N213 N214q
    refine Go.tr st214 ?_
    show Go p e below _ (T214.setTop (mkF m 158 #[.val (.int p1), .val (.ref b101), .val (.int (15 : Int32)), .val (.ref w_NOT_AN_ANCESTOR), .val (.ref d212)] [.null]))
    refine Go.via (fun _ => XS.ifnonnullNo X214.here hx rfl (hb hby at_158) rfl) ?_
    show Go p e below _ (T214.setTop (mkF m 161 #[.val (.int p1), .val (.ref b101), .val (.int (15 : Int32)), .val (.ref w_NOT_AN_ANCESTOR), .val (.ref d212)] []))
    refine Go.via (fun _ => XS.aload X214.here hx rfl (hb hby at_161) rfl rfl) ?_
    show Go p e below _ (T214.setTop (mkF m 163 #[.val (.int p1), .val (.ref b101), .val (.int (15 : Int32)), .val (.ref w_NOT_AN_ANCESTOR), .val (.ref d212)] [(.ref d212)]))
    obtain ⟨cq215, kq215, q215a, q215b, q215c⟩ := isOf hZ212 e214q ed212
    obtain ⟨_, _, ⟨T215, L215, k215, n215⟩, -, X215, ⟨Lc215, hQ215, l215, y215, z215⟩, st215⟩ := X214.virtualBack hx (y := (⟨"com/example/timed_cap/timedcap/model/Decision", "isGranted", "()Z"⟩ : MethodName)) (z := (⟨"com/example/timed_cap/timedcap/model/Decision", "isGranted", "()Z"⟩ : MethodName)) hown212 (mvT hZ212 (hw _ (List.mem_of_getElem? (i := 83) rfl))) (mvT hZ212 (hw _ (List.mem_of_getElem? (i := 84) rfl))) (notFace_of_selects (args := #[]) (mvT hZ212 (hw _ (List.mem_of_getElem? (i := 86) rfl)))) (mvT hZ212 (hw _ (List.mem_of_getElem? (i := 86) rfl))) (mvT hZ212 (hw _ (List.mem_of_getElem? (i := 85) rfl))) (by decide) (backOf (W := 0) (rm_isGranted l Z a0 hw [] d212 w_NOT_AN_ANCESTOR T212.heap n0 Zs212 fa212 fb212) hZ212 (hw _ (List.mem_of_getElem? (i := 87) rfl)) (hw _ (List.mem_of_getElem? (i := 41) rfl)) (by decide) (by decide)) q215a q215c (g := (mkF m 163 #[.val (.int p1), .val (.ref b101), .val (.int (15 : Int32)), .val (.ref w_NOT_AN_ANCESTOR), .val (.ref d212)] [(.ref d212)])) rfl (by rw [hml]; rfl) (Steps.refl _) (argsL := []) (rest := []) (lenOf pd_6 rfl) rfl (by show 2 * 0 + _ ≤ _; exact Nat.le_of_eq rfl) (hb hby at_163) (fun _ _ => ⟨rfl, e214q, (by decide : 4 + 0 ≤ _), (by decide : 47 + 0 ≤ _)⟩)
    dsimp only [Pt.U, Pt.locs, Pt.cells, Pt.slots] at X215 l215 y215 z215 st215 hQ215
    rw [l215, y215, z215] at X215
    replace X215 : Stand p l e _ _ m _ below meth c T215 _ 4 47 := X215
    obtain ⟨rfl, N215q, e215q⟩ := hQ215
    have N215 := Fr.app N214 N215q
    refine Go.tr st215 ?_
    show Go p e below _ (T215.setTop (mkF m 166 #[.val (.int p1), .val (.ref b101), .val (.int (15 : Int32)), .val (.ref w_NOT_AN_ANCESTOR), .val (.ref d212)] [(.int (0 : Int32))]))
    refine Go.via (fun _ => XS.ifNo X215.here hx rfl (hb hby at_166) rfl (by decide)) ?_
    show Go p e below _ (T215.setTop (mkF m 169 #[.val (.int p1), .val (.ref b101), .val (.int (15 : Int32)), .val (.ref w_NOT_AN_ANCESTOR), .val (.ref d212)] []))
    refine Go.via (fun _ => XS.iconst X215.here hx rfl (hb hby at_169)) ?_
    show Go p e below _ (T215.setTop (mkF m 170 #[.val (.int p1), .val (.ref b101), .val (.int (15 : Int32)), .val (.ref w_NOT_AN_ANCESTOR), .val (.ref d212)] [(.int (1 : Int32))]))
    refine Go.via (fun _ => XS.goto X215.here hx rfl (pc0 := 170) (pc' := 174) rfl (hb hby at_170) (by decide) (by decide)) ?_
    show Go p e below _ (T215.setTop (mkF m 174 #[.val (.int p1), .val (.ref b101), .val (.int (15 : Int32)), .val (.ref w_NOT_AN_ANCESTOR), .val (.ref d212)] [(.int (1 : Int32))]))
    exact own_retNW X215 hS212 (by rw [e215q]; exact (Nat.le_refl _)) hx hlk (t := .boolean) Bd.returns (by simp) (hb hby at_174) (by show Q0 Z p1 w_MALFORMED w_ALTERED w_RESEALED w_NOT_HOLDER w_REVOKED w_NO_SUCH_VERSION w_NO_VERSION_YET w_NOT_YET_EFFECTIVE w_EXPIRED w_LEASE_ENDED w_OUTSIDE_SCHEDULE w_RIGHT_NOT_HELD w_VERSION_EXISTS w_NOT_A_HISTORY_CAPABILITY w_WIDENS_PARENT w_NOT_AN_ANCESTOR w_NO_SUCH_LEASE h0 n0 _ T215.heap _; rw [e215q]; exact ⟨rfl, N215⟩) (by decide) (by decide)
  ·
    show Go p e below _ (T135.setTop (mkF m 126 #[.val (.int p1), .val (.ref b101), .unset, .unset, .unset] [(.int (16 : Int32))]))
    refine Go.via (fun _ => XS.istoreN X135.here hx rfl (hb hby at_126) rfl (l' := #[.val (.int p1), .val (.ref b101), .val (.int (16 : Int32)), .unset, .unset]) rfl) ?_
    show Go p e below _ (T135.setTop (mkF m 127 #[.val (.int p1), .val (.ref b101), .val (.int (16 : Int32)), .unset, .unset] []))
    refine Go.via (fun _ => XS.aloadN X135.here hx rfl (hb hby at_127) rfl rfl) ?_
    show Go p e below _ (T135.setTop (mkF m 128 #[.val (.int p1), .val (.ref b101), .val (.int (16 : Int32)), .unset, .unset] [(.ref b101)]))
    refine Go.via (fun _ => XS.iloadN X135.here hx rfl (hb hby at_128) rfl) ?_
    show Go p e below _ (T135.setTop (mkF m 129 #[.val (.int p1), .val (.ref b101), .val (.int (16 : Int32)), .unset, .unset] [(.int (16 : Int32)), (.ref b101)]))
    obtain ⟨cl216, Ar216, q216, S216, N216n, H216, G216⟩ := id V135
    have hin216 := inb_of (j := (16 : Int32)) S216 (by decide)
    have hat216 : cl216.slots[((16 : Int32) : Int32).toNatClampNeg]? = some (.ref w_NO_SUCH_LEASE) := H216.at hin216 rfl
    refine Go.via (X135.aaload hx (j := (16 : Int32)) (v := (.ref w_NO_SUCH_LEASE)) (by rw [e135]; exact Ar216.1) (State.isArrayOf_alike hZ.alike Ar216.2.1) rfl Ar216.2.2 hin216 hat216 (g := (mkF m 129 #[.val (.int p1), .val (.ref b101), .val (.int (16 : Int32)), .unset, .unset] [(.int (16 : Int32)), (.ref b101)])) rfl rfl (hb hby at_129)) ?_
    show Go p e below _ (T135.setTop (mkF m 130 #[.val (.int p1), .val (.ref b101), .val (.int (16 : Int32)), .unset, .unset] [(.ref w_NO_SUCH_LEASE)]))
    refine Go.via (fun _ => XS.astoreN X135.here hx rfl (hb hby at_130) rfl rfl (l' := #[.val (.int p1), .val (.ref b101), .val (.int (16 : Int32)), .val (.ref w_NO_SUCH_LEASE), .unset]) rfl) ?_
    show Go p e below _ (T135.setTop (mkF m 131 #[.val (.int p1), .val (.ref b101), .val (.int (16 : Int32)), .val (.ref w_NO_SUCH_LEASE), .unset] []))
    refine Go.via (fun _ => XS.aloadN X135.here hx rfl (hb hby at_131) rfl rfl) ?_
    show Go p e below _ (T135.setTop (mkF m 132 #[.val (.int p1), .val (.ref b101), .val (.int (16 : Int32)), .val (.ref w_NO_SUCH_LEASE), .unset] [(.ref w_NO_SUCH_LEASE)]))
    obtain ⟨_, _, ⟨T217, L217, k217, n217⟩, -, X217, S217w, gr217, ⟨Lc217, hQ217, l217, y217, z217⟩, st217⟩ := callSS X135 hx (y := (⟨"com/example/timed_cap/timedcap/model/Decision", "denied", "(Lcom/example/timed_cap/timedcap/model/Reason;)Lcom/example/timed_cap/timedcap/model/Decision;"⟩ : MethodName)) hown (mvT hZ (hw _ (List.mem_of_getElem? (i := 39) rfl))) (mvT hZ (hw _ (List.mem_of_getElem? (i := 40) rfl))) (mvT hZ (hw _ (List.mem_of_getElem? (i := 41) rfl))) (mvT hZ (hw _ (List.mem_of_getElem? (i := 42) rfl))) (by decide) (backOfS (W := 0) (rmDen l Z a0 hw [] w_NO_SUCH_LEASE h135 n0 Zs135 (E_NO_SUCH_LEASE.ext O135.2)) hZ (hw _ (List.mem_of_getElem? (i := 42) rfl)) (hw _ (List.mem_of_getElem? (i := 41) rfl)) (by decide) (by decide)) (g := (mkF m 132 #[.val (.int p1), .val (.ref b101), .val (.int (16 : Int32)), .val (.ref w_NO_SUCH_LEASE), .unset] [(.ref w_NO_SUCH_LEASE)])) rfl (by rw [hml]; rfl) (argsL := [(.ref w_NO_SUCH_LEASE)]) (rest := []) (lenOf pd_3 rfl) rfl (by show 2 * 0 + _ ≤ _; exact Nat.le_of_eq rfl) (hb hby at_132) (fun _ _ => ⟨rfl, e135, (by decide : 1 + 3 ≤ _), (by decide : 17 + 30 ≤ _)⟩)
    dsimp only [Pt.U, Pt.locs, Pt.cells, Pt.slots] at X217 l217 y217 z217 st217 hQ217 S217w gr217
    rw [l217, y217, z217] at X217
    replace X217 : Stand p l e _ _ m _ below meth c T217 _ 4 47 := X217
    obtain ⟨d217, rfl, N217q, K217q, gd217, ed217, fa217, fb217⟩ := hQ217
    have N217 := Fr.app N135 N217q
    refine Go.tr st217 ?_
    obtain ⟨X217r, hS217, hZ217, hown217⟩ := rebS hS0 (by rw [e135]; exact hk135) X217 S217w gr217 hZ hown
    have Zs217 : n0 ≤ T217.heap.size := Nat.le_trans Zs135 K217q.1
    have O217 : Old Z n0 T217.heap := O135.keep K217q all0
    have fV_b101_217 := V135.keep K217q nin0
    have g_d217 : n0 ≤ d217 := Nat.le_trans Zs135 gd217
    have ne_b101_d217 : b101 ≠ d217 := Nat.ne_of_lt (Nat.lt_of_lt_of_le V135.lt gd217)
    show Go p e below _ (T217.setTop (mkF m 135 #[.val (.int p1), .val (.ref b101), .val (.int (16 : Int32)), .val (.ref w_NO_SUCH_LEASE), .unset] [(.ref d217)]))
    refine Go.via (fun _ => XS.astore X217r.here hx rfl (hb hby at_135) rfl rfl (l' := #[.val (.int p1), .val (.ref b101), .val (.int (16 : Int32)), .val (.ref w_NO_SUCH_LEASE), .val (.ref d217)]) rfl) ?_
    show Go p e below _ (T217.setTop (mkF m 137 #[.val (.int p1), .val (.ref b101), .val (.int (16 : Int32)), .val (.ref w_NO_SUCH_LEASE), .val (.ref d217)] []))
    refine Go.via (fun _ => XS.aload X217r.here hx rfl (hb hby at_137) rfl rfl) ?_
    show Go p e below _ (T217.setTop (mkF m 139 #[.val (.int p1), .val (.ref b101), .val (.int (16 : Int32)), .val (.ref w_NO_SUCH_LEASE), .val (.ref d217)] [(.ref d217)]))
    refine Go.via (fun _ => XS.ifnonnullYes X217r.here hx rfl (pc0 := 139) (pc' := 144) rfl (hb hby at_139) rfl (by decide) (by decide)) ?_
    show Go p e below _ (T217.setTop (mkF m 144 #[.val (.int p1), .val (.ref b101), .val (.int (16 : Int32)), .val (.ref w_NO_SUCH_LEASE), .val (.ref d217)] []))
    refine Go.via (fun _ => XS.aload X217r.here hx rfl (hb hby at_144) rfl rfl) ?_
    show Go p e below _ (T217.setTop (mkF m 146 #[.val (.int p1), .val (.ref b101), .val (.int (16 : Int32)), .val (.ref w_NO_SUCH_LEASE), .val (.ref d217)] [(.ref d217)]))
    obtain ⟨cq218, kq218, q218a, q218b, q218c⟩ := isOf hZ217 rfl ed217
    obtain ⟨_, _, ⟨T218, L218, k218, n218⟩, -, X218, ⟨Lc218, hQ218, l218, y218, z218⟩, st218⟩ := X217r.virtualBack hx (y := (⟨"com/example/timed_cap/timedcap/model/Decision", "reason", "()Lcom/example/timed_cap/timedcap/model/Reason;"⟩ : MethodName)) (z := (⟨"com/example/timed_cap/timedcap/model/Decision", "reason", "()Lcom/example/timed_cap/timedcap/model/Reason;"⟩ : MethodName)) hown217 (mvT hZ217 (hw _ (List.mem_of_getElem? (i := 73) rfl))) (mvT hZ217 (hw _ (List.mem_of_getElem? (i := 74) rfl))) (notFace_of_selects (args := #[]) (mvT hZ217 (hw _ (List.mem_of_getElem? (i := 76) rfl)))) (mvT hZ217 (hw _ (List.mem_of_getElem? (i := 76) rfl))) (mvT hZ217 (hw _ (List.mem_of_getElem? (i := 75) rfl))) (by decide) (backOf (W := 0) (rm_reason l Z a0 hw [] d217 w_NO_SUCH_LEASE T217.heap n0 Zs217 fa217 fb217) hZ217 (hw _ (List.mem_of_getElem? (i := 77) rfl)) (hw _ (List.mem_of_getElem? (i := 41) rfl)) (by decide) (by decide)) q218a q218c (g := (mkF m 146 #[.val (.int p1), .val (.ref b101), .val (.int (16 : Int32)), .val (.ref w_NO_SUCH_LEASE), .val (.ref d217)] [(.ref d217)])) rfl (by rw [hml]; rfl) (Steps.refl _) (argsL := []) (rest := []) (lenOf pd_4 rfl) rfl (by show 2 * 0 + _ ≤ _; exact Nat.le_of_eq rfl) (hb hby at_146) (fun _ _ => ⟨rfl, rfl, (by decide : 4 + 0 ≤ _), (by decide : 47 + 0 ≤ _)⟩)
    dsimp only [Pt.U, Pt.locs, Pt.cells, Pt.slots] at X218 l218 y218 z218 st218 hQ218
    rw [l218, y218, z218] at X218
    replace X218 : Stand p l e _ _ m _ below meth c T218 _ 4 47 := X218
    obtain ⟨rfl, N218q, e218q⟩ := hQ218
    have N218 := Fr.app N217 N218q
    refine Go.tr st218 ?_
    show Go p e below _ (T218.setTop (mkF m 149 #[.val (.int p1), .val (.ref b101), .val (.int (16 : Int32)), .val (.ref w_NO_SUCH_LEASE), .val (.ref d217)] [(.ref w_NO_SUCH_LEASE)]))
    refine Go.via (fun _ => XS.aloadN X218.here hx rfl (hb hby at_149) rfl rfl) ?_
    show Go p e below _ (T218.setTop (mkF m 150 #[.val (.int p1), .val (.ref b101), .val (.int (16 : Int32)), .val (.ref w_NO_SUCH_LEASE), .val (.ref d217)] [(.ref w_NO_SUCH_LEASE), (.ref w_NO_SUCH_LEASE)]))
    refine Go.via (fun _ => Jvm.RoadKit.acmp (g := (mkF m 150 #[.val (.int p1), .val (.ref b101), .val (.int (16 : Int32)), .val (.ref w_NO_SUCH_LEASE), .val (.ref d217)] [(.ref w_NO_SUCH_LEASE), (.ref w_NO_SUCH_LEASE)])) X218 hx rfl rfl rfl (pc0 := 150) (pc' := 153) (same := true) rfl (hb hby at_150) rfl (decide_eq_true rfl) (by decide) (by decide)) ?_
    show Go p e below _ (T218.setTop (mkF m 153 #[.val (.int p1), .val (.ref b101), .val (.int (16 : Int32)), .val (.ref w_NO_SUCH_LEASE), .val (.ref d217)] []))
    refine Go.via (fun _ => XS.aload X218.here hx rfl (hb hby at_153) rfl rfl) ?_
    show Go p e below _ (T218.setTop (mkF m 155 #[.val (.int p1), .val (.ref b101), .val (.int (16 : Int32)), .val (.ref w_NO_SUCH_LEASE), .val (.ref d217)] [(.ref d217)]))
    obtain ⟨cq219, kq219, q219a, q219b, q219c⟩ := isOf hZ217 e218q ed217
    obtain ⟨_, _, ⟨T219, L219, k219, n219⟩, -, X219, ⟨Lc219, hQ219, l219, y219, z219⟩, st219⟩ := X218.virtualBack hx (y := (⟨"com/example/timed_cap/timedcap/model/Decision", "reached", "()Lcom/example/timed_cap/timedcap/model/Reference;"⟩ : MethodName)) (z := (⟨"com/example/timed_cap/timedcap/model/Decision", "reached", "()Lcom/example/timed_cap/timedcap/model/Reference;"⟩ : MethodName)) hown217 (mvT hZ217 (hw _ (List.mem_of_getElem? (i := 78) rfl))) (mvT hZ217 (hw _ (List.mem_of_getElem? (i := 79) rfl))) (notFace_of_selects (args := #[]) (mvT hZ217 (hw _ (List.mem_of_getElem? (i := 81) rfl)))) (mvT hZ217 (hw _ (List.mem_of_getElem? (i := 81) rfl))) (mvT hZ217 (hw _ (List.mem_of_getElem? (i := 80) rfl))) (by decide) (backOf (W := 0) (rm_reached l Z a0 hw [] d217 w_NO_SUCH_LEASE T217.heap n0 Zs217 fa217 fb217) hZ217 (hw _ (List.mem_of_getElem? (i := 82) rfl)) (hw _ (List.mem_of_getElem? (i := 41) rfl)) (by decide) (by decide)) q219a q219c (g := (mkF m 155 #[.val (.int p1), .val (.ref b101), .val (.int (16 : Int32)), .val (.ref w_NO_SUCH_LEASE), .val (.ref d217)] [(.ref d217)])) rfl (by rw [hml]; rfl) (Steps.refl _) (argsL := []) (rest := []) (lenOf pd_5 rfl) rfl (by show 2 * 0 + _ ≤ _; exact Nat.le_of_eq rfl) (hb hby at_155) (fun _ _ => ⟨rfl, e218q, (by decide : 4 + 0 ≤ _), (by decide : 47 + 0 ≤ _)⟩)
    dsimp only [Pt.U, Pt.locs, Pt.cells, Pt.slots] at X219 l219 y219 z219 st219 hQ219
    rw [l219, y219, z219] at X219
    replace X219 : Stand p l e _ _ m _ below meth c T219 _ 4 47 := X219
    obtain ⟨rfl, N219q, e219q⟩ := hQ219
    have N219 := Fr.app N218 N219q
    refine Go.tr st219 ?_
    show Go p e below _ (T219.setTop (mkF m 158 #[.val (.int p1), .val (.ref b101), .val (.int (16 : Int32)), .val (.ref w_NO_SUCH_LEASE), .val (.ref d217)] [.null]))
    refine Go.via (fun _ => XS.ifnonnullNo X219.here hx rfl (hb hby at_158) rfl) ?_
    show Go p e below _ (T219.setTop (mkF m 161 #[.val (.int p1), .val (.ref b101), .val (.int (16 : Int32)), .val (.ref w_NO_SUCH_LEASE), .val (.ref d217)] []))
    refine Go.via (fun _ => XS.aload X219.here hx rfl (hb hby at_161) rfl rfl) ?_
    show Go p e below _ (T219.setTop (mkF m 163 #[.val (.int p1), .val (.ref b101), .val (.int (16 : Int32)), .val (.ref w_NO_SUCH_LEASE), .val (.ref d217)] [(.ref d217)]))
    obtain ⟨cq220, kq220, q220a, q220b, q220c⟩ := isOf hZ217 e219q ed217
    obtain ⟨_, _, ⟨T220, L220, k220, n220⟩, -, X220, ⟨Lc220, hQ220, l220, y220, z220⟩, st220⟩ := X219.virtualBack hx (y := (⟨"com/example/timed_cap/timedcap/model/Decision", "isGranted", "()Z"⟩ : MethodName)) (z := (⟨"com/example/timed_cap/timedcap/model/Decision", "isGranted", "()Z"⟩ : MethodName)) hown217 (mvT hZ217 (hw _ (List.mem_of_getElem? (i := 83) rfl))) (mvT hZ217 (hw _ (List.mem_of_getElem? (i := 84) rfl))) (notFace_of_selects (args := #[]) (mvT hZ217 (hw _ (List.mem_of_getElem? (i := 86) rfl)))) (mvT hZ217 (hw _ (List.mem_of_getElem? (i := 86) rfl))) (mvT hZ217 (hw _ (List.mem_of_getElem? (i := 85) rfl))) (by decide) (backOf (W := 0) (rm_isGranted l Z a0 hw [] d217 w_NO_SUCH_LEASE T217.heap n0 Zs217 fa217 fb217) hZ217 (hw _ (List.mem_of_getElem? (i := 87) rfl)) (hw _ (List.mem_of_getElem? (i := 41) rfl)) (by decide) (by decide)) q220a q220c (g := (mkF m 163 #[.val (.int p1), .val (.ref b101), .val (.int (16 : Int32)), .val (.ref w_NO_SUCH_LEASE), .val (.ref d217)] [(.ref d217)])) rfl (by rw [hml]; rfl) (Steps.refl _) (argsL := []) (rest := []) (lenOf pd_6 rfl) rfl (by show 2 * 0 + _ ≤ _; exact Nat.le_of_eq rfl) (hb hby at_163) (fun _ _ => ⟨rfl, e219q, (by decide : 4 + 0 ≤ _), (by decide : 47 + 0 ≤ _)⟩)
    dsimp only [Pt.U, Pt.locs, Pt.cells, Pt.slots] at X220 l220 y220 z220 st220 hQ220
    rw [l220, y220, z220] at X220
    replace X220 : Stand p l e _ _ m _ below meth c T220 _ 4 47 := X220
    obtain ⟨rfl, N220q, e220q⟩ := hQ220
    have N220 := Fr.app N219 N220q
    refine Go.tr st220 ?_
    show Go p e below _ (T220.setTop (mkF m 166 #[.val (.int p1), .val (.ref b101), .val (.int (16 : Int32)), .val (.ref w_NO_SUCH_LEASE), .val (.ref d217)] [(.int (0 : Int32))]))
    refine Go.via (fun _ => XS.ifNo X220.here hx rfl (hb hby at_166) rfl (by decide)) ?_
    show Go p e below _ (T220.setTop (mkF m 169 #[.val (.int p1), .val (.ref b101), .val (.int (16 : Int32)), .val (.ref w_NO_SUCH_LEASE), .val (.ref d217)] []))
    refine Go.via (fun _ => XS.iconst X220.here hx rfl (hb hby at_169)) ?_
    show Go p e below _ (T220.setTop (mkF m 170 #[.val (.int p1), .val (.ref b101), .val (.int (16 : Int32)), .val (.ref w_NO_SUCH_LEASE), .val (.ref d217)] [(.int (1 : Int32))]))
    refine Go.via (fun _ => XS.goto X220.here hx rfl (pc0 := 170) (pc' := 174) rfl (hb hby at_170) (by decide) (by decide)) ?_
    show Go p e below _ (T220.setTop (mkF m 174 #[.val (.int p1), .val (.ref b101), .val (.int (16 : Int32)), .val (.ref w_NO_SUCH_LEASE), .val (.ref d217)] [(.int (1 : Int32))]))
    exact own_retNW X220 hS217 (by rw [e220q]; exact (Nat.le_refl _)) hx hlk (t := .boolean) Bd.returns (by simp) (hb hby at_174) (by show Q0 Z p1 w_MALFORMED w_ALTERED w_RESEALED w_NOT_HOLDER w_REVOKED w_NO_SUCH_VERSION w_NO_VERSION_YET w_NOT_YET_EFFECTIVE w_EXPIRED w_LEASE_ENDED w_OUTSIDE_SCHEDULE w_RIGHT_NOT_HELD w_VERSION_EXISTS w_NOT_A_HISTORY_CAPABILITY w_WIDENS_PARENT w_NOT_AN_ANCESTOR w_NO_SUCH_LEASE h0 n0 _ T220.heap _; rw [e220q]; exact ⟨rfl, N220⟩) (by decide) (by decide)
theorem own_eq_int {t : Term} {n : Int32} {args : Array Value} {s : State} (h : (Cond.eq t (.int n)).value args s none s [] = some true) : t.eval args s none [] s = some (.int n) := by
  simp only [Cond.value, Term.eval] at h
  split at h <;> simp_all
set_option maxRecDepth 65536 in
set_option maxHeartbeats 40000000 in
theorem comes_1 {Post : Tables → Env → Array Value → State → Outcome → State → Prop} (hpost : ∀ tb e args s v u, (limb_1_1.after args s (.returned v) u = true ∧ limb_1_2.after args s (.returned v) u = true ∧ True) → ReturnedEndW s (.returned v) u (Jvm.fieldLocs frame_1_writes args s ++ Jvm.arrayLocs frame_1_arrays args s ++ Jvm.staticLocs frame_1_statics s) 16 1152 → Post tb e args s (.returned v) u) :
    ArmFor flags0 classFile x code maxLocals ret World_1 tables_1 room_1 Calls_1 rest_1 Pre_1 Post := by
  intro l hfl _ _ p e ha hc hk s m args below hf hA hF happ hP
  obtain ⟨hcalls, hrest, hpre⟩ := hP
  obtain ⟨-, -, -, hnamed, -, -, -, hat⟩ := (Spec.applies_iff hf).mp happ
  obtain ⟨hg, hn⟩ := and_e (Cond.before_iff.mp (show (Jvm.Cond.and given_1 narrow_1).before args s = true from hpre))
  obtain ⟨g1, g2⟩ := and_e hg
  obtain ⟨g3, g4⟩ := and_e hn
  obtain ⟨g5, g6⟩ := and_e g4
  obtain ⟨g7, g8⟩ := and_e g6
  obtain ⟨g9, g10⟩ := and_e g8
  obtain ⟨g11, g12⟩ := and_e g10
  obtain ⟨g13, g14⟩ := and_e g12
  obtain ⟨g15, g16⟩ := and_e g14
  obtain ⟨g17, g18⟩ := and_e g16
  obtain ⟨g19, g20⟩ := and_e g18
  obtain ⟨g21, g22⟩ := and_e g20
  obtain ⟨g23, g24⟩ := and_e g22
  obtain ⟨g25, g26⟩ := and_e g24
  obtain ⟨g27, g28⟩ := and_e g26
  obtain ⟨g29, g30⟩ := and_e g28
  obtain ⟨g31, g32⟩ := and_e g30
  obtain ⟨g33, g34⟩ := and_e g32
  obtain ⟨w0, rfl⟩ : ∃ w0 : Value, args = #[w0] := by
    have hs : args.size = 1 := by simpa [Cond.value, given_1] using g1
    obtain ⟨L⟩ := args
    match L, hs with
    | [w0], _ => exact ⟨w0, rfl⟩
  have hw := fun d (hd : d ∈ tables_1) => atoms_spec (ws := Jvm.Cond.code x code maxLocals ret :: tables_1) hat d (List.mem_cons_of_mem _ hd)
  have hfit : Fit s := fun {y c} hc i hi => by
    obtain ⟨ha, rfl⟩ := Array.getElem?_eq_some_iff.mp hc
    have q := List.all_eq_true.mp ((Array.all_eq_true_iff_forall_mem.mp hF) _ (Array.getElem_mem ha)) i (List.mem_range.mpr hi)
    simpa [Array.getElem?_eq_getElem hi] using q
  obtain ⟨i0, ei0⟩ := is_v g2
  obtain rfl : w0 = (.int i0) := Option.some.inj ei0
  obtain ⟨w_MALFORMED, ev_MALFORMED⟩ := exa_v g3
  have E_MALFORMED := Exa.start ev_MALFORMED g3
  have S_MALFORMED := Sta.start ev_MALFORMED (Or.inr ⟨(hw _ (List.mem_of_getElem? (i := 3) rfl)), (hw _ (List.mem_of_getElem? (i := 4) rfl))⟩)
  obtain ⟨w_ALTERED, ev_ALTERED⟩ := exa_v g5
  have E_ALTERED := Exa.start ev_ALTERED g5
  have S_ALTERED := Sta.start ev_ALTERED (Or.inr ⟨(hw _ (List.mem_of_getElem? (i := 3) rfl)), (hw _ (List.mem_of_getElem? (i := 7) rfl))⟩)
  obtain ⟨w_RESEALED, ev_RESEALED⟩ := exa_v g7
  have E_RESEALED := Exa.start ev_RESEALED g7
  have S_RESEALED := Sta.start ev_RESEALED (Or.inr ⟨(hw _ (List.mem_of_getElem? (i := 3) rfl)), (hw _ (List.mem_of_getElem? (i := 9) rfl))⟩)
  obtain ⟨w_NOT_HOLDER, ev_NOT_HOLDER⟩ := exa_v g9
  have E_NOT_HOLDER := Exa.start ev_NOT_HOLDER g9
  have S_NOT_HOLDER := Sta.start ev_NOT_HOLDER (Or.inr ⟨(hw _ (List.mem_of_getElem? (i := 3) rfl)), (hw _ (List.mem_of_getElem? (i := 11) rfl))⟩)
  obtain ⟨w_REVOKED, ev_REVOKED⟩ := exa_v g11
  have E_REVOKED := Exa.start ev_REVOKED g11
  have S_REVOKED := Sta.start ev_REVOKED (Or.inr ⟨(hw _ (List.mem_of_getElem? (i := 3) rfl)), (hw _ (List.mem_of_getElem? (i := 13) rfl))⟩)
  obtain ⟨w_NO_SUCH_VERSION, ev_NO_SUCH_VERSION⟩ := exa_v g13
  have E_NO_SUCH_VERSION := Exa.start ev_NO_SUCH_VERSION g13
  have S_NO_SUCH_VERSION := Sta.start ev_NO_SUCH_VERSION (Or.inr ⟨(hw _ (List.mem_of_getElem? (i := 3) rfl)), (hw _ (List.mem_of_getElem? (i := 15) rfl))⟩)
  obtain ⟨w_NO_VERSION_YET, ev_NO_VERSION_YET⟩ := exa_v g15
  have E_NO_VERSION_YET := Exa.start ev_NO_VERSION_YET g15
  have S_NO_VERSION_YET := Sta.start ev_NO_VERSION_YET (Or.inr ⟨(hw _ (List.mem_of_getElem? (i := 3) rfl)), (hw _ (List.mem_of_getElem? (i := 17) rfl))⟩)
  obtain ⟨w_NOT_YET_EFFECTIVE, ev_NOT_YET_EFFECTIVE⟩ := exa_v g17
  have E_NOT_YET_EFFECTIVE := Exa.start ev_NOT_YET_EFFECTIVE g17
  have S_NOT_YET_EFFECTIVE := Sta.start ev_NOT_YET_EFFECTIVE (Or.inr ⟨(hw _ (List.mem_of_getElem? (i := 3) rfl)), (hw _ (List.mem_of_getElem? (i := 19) rfl))⟩)
  obtain ⟨w_EXPIRED, ev_EXPIRED⟩ := exa_v g19
  have E_EXPIRED := Exa.start ev_EXPIRED g19
  have S_EXPIRED := Sta.start ev_EXPIRED (Or.inr ⟨(hw _ (List.mem_of_getElem? (i := 3) rfl)), (hw _ (List.mem_of_getElem? (i := 21) rfl))⟩)
  obtain ⟨w_LEASE_ENDED, ev_LEASE_ENDED⟩ := exa_v g21
  have E_LEASE_ENDED := Exa.start ev_LEASE_ENDED g21
  have S_LEASE_ENDED := Sta.start ev_LEASE_ENDED (Or.inr ⟨(hw _ (List.mem_of_getElem? (i := 3) rfl)), (hw _ (List.mem_of_getElem? (i := 23) rfl))⟩)
  obtain ⟨w_OUTSIDE_SCHEDULE, ev_OUTSIDE_SCHEDULE⟩ := exa_v g23
  have E_OUTSIDE_SCHEDULE := Exa.start ev_OUTSIDE_SCHEDULE g23
  have S_OUTSIDE_SCHEDULE := Sta.start ev_OUTSIDE_SCHEDULE (Or.inr ⟨(hw _ (List.mem_of_getElem? (i := 3) rfl)), (hw _ (List.mem_of_getElem? (i := 25) rfl))⟩)
  obtain ⟨w_RIGHT_NOT_HELD, ev_RIGHT_NOT_HELD⟩ := exa_v g25
  have E_RIGHT_NOT_HELD := Exa.start ev_RIGHT_NOT_HELD g25
  have S_RIGHT_NOT_HELD := Sta.start ev_RIGHT_NOT_HELD (Or.inr ⟨(hw _ (List.mem_of_getElem? (i := 3) rfl)), (hw _ (List.mem_of_getElem? (i := 27) rfl))⟩)
  obtain ⟨w_VERSION_EXISTS, ev_VERSION_EXISTS⟩ := exa_v g27
  have E_VERSION_EXISTS := Exa.start ev_VERSION_EXISTS g27
  have S_VERSION_EXISTS := Sta.start ev_VERSION_EXISTS (Or.inr ⟨(hw _ (List.mem_of_getElem? (i := 3) rfl)), (hw _ (List.mem_of_getElem? (i := 29) rfl))⟩)
  obtain ⟨w_NOT_A_HISTORY_CAPABILITY, ev_NOT_A_HISTORY_CAPABILITY⟩ := exa_v g29
  have E_NOT_A_HISTORY_CAPABILITY := Exa.start ev_NOT_A_HISTORY_CAPABILITY g29
  have S_NOT_A_HISTORY_CAPABILITY := Sta.start ev_NOT_A_HISTORY_CAPABILITY (Or.inr ⟨(hw _ (List.mem_of_getElem? (i := 3) rfl)), (hw _ (List.mem_of_getElem? (i := 31) rfl))⟩)
  obtain ⟨w_WIDENS_PARENT, ev_WIDENS_PARENT⟩ := exa_v g31
  have E_WIDENS_PARENT := Exa.start ev_WIDENS_PARENT g31
  have S_WIDENS_PARENT := Sta.start ev_WIDENS_PARENT (Or.inr ⟨(hw _ (List.mem_of_getElem? (i := 3) rfl)), (hw _ (List.mem_of_getElem? (i := 33) rfl))⟩)
  obtain ⟨w_NOT_AN_ANCESTOR, ev_NOT_AN_ANCESTOR⟩ := exa_v g33
  have E_NOT_AN_ANCESTOR := Exa.start ev_NOT_AN_ANCESTOR g33
  have S_NOT_AN_ANCESTOR := Sta.start ev_NOT_AN_ANCESTOR (Or.inr ⟨(hw _ (List.mem_of_getElem? (i := 3) rfl)), (hw _ (List.mem_of_getElem? (i := 35) rfl))⟩)
  obtain ⟨w_NO_SUCH_LEASE, ev_NO_SUCH_LEASE⟩ := exa_v g34
  have E_NO_SUCH_LEASE := Exa.start ev_NO_SUCH_LEASE g34
  have S_NO_SUCH_LEASE := Sta.start ev_NO_SUCH_LEASE (Or.inr ⟨(hw _ (List.mem_of_getElem? (i := 3) rfl)), (hw _ (List.mem_of_getElem? (i := 37) rfl))⟩)
  obtain ⟨n, o, h1, h2, h3, _, L, rfl, ⟨rfl, N⟩, hq⟩ := rm0 l s _ hw tables_1 i0 w_MALFORMED w_ALTERED w_RESEALED w_NOT_HOLDER w_REVOKED w_NO_SUCH_VERSION w_NO_VERSION_YET w_NOT_YET_EFFECTIVE w_EXPIRED w_LEASE_ENDED w_OUTSIDE_SCHEDULE w_RIGHT_NOT_HELD w_VERSION_EXISTS w_NOT_A_HISTORY_CAPABILITY w_WIDENS_PARENT w_NOT_AN_ANCESTOR w_NO_SUCH_LEASE s.heap s.heap.size (Nat.le_refl _) (Old.start s) S_MALFORMED S_ALTERED S_RESEALED S_NOT_HOLDER S_REVOKED S_NO_SUCH_VERSION S_NO_VERSION_YET S_NOT_YET_EFFECTIVE S_EXPIRED S_LEASE_ENDED S_OUTSIDE_SCHEDULE S_RIGHT_NOT_HELD S_VERSION_EXISTS S_NOT_A_HISTORY_CAPABILITY S_WIDENS_PARENT S_NOT_AN_ANCESTOR S_NO_SUCH_LEASE E_MALFORMED E_ALTERED E_RESEALED E_NOT_HOLDER E_REVOKED E_NO_SUCH_VERSION E_NO_VERSION_YET E_NOT_YET_EFFECTIVE E_EXPIRED E_LEASE_ENDED E_OUTSIDE_SCHEDULE E_RIGHT_NOT_HELD E_VERSION_EXISTS E_NOT_A_HISTORY_CAPABILITY E_WIDENS_PARENT E_NOT_AN_ANCESTOR E_NO_SUCH_LEASE p e ha hc hk s m _ below hf ((Spec.applies_iff_loose hf).mp happ).1 ⟨rfl, State.Warmed39.refl s, rfl⟩ trivial
  refine ⟨n, _, h1, h2, h3, hpost _ _ _ _ _ _ ⟨Cond.after_iff.mpr rfl, Cond.after_iff.mpr (eq_i res_at (Term.int_eval (1)) rfl), trivial⟩ ⟨hq.1, hq.2.1, hq.2.2.1, (hq.2.2.2.sift fun y hy => Or.inr (N y hy)).mono (by decide) (by decide)⟩⟩
theorem main_1_1 : Claimed_1_1 := comes_1 fun _ _ _ _ _ _ h hF => ⟨h.1, hF⟩
theorem main_1_2 : Claimed_1_2 := comes_1 fun _ _ _ _ _ _ h hF => ⟨h.2.1, hF⟩
end Jvm.Pilot.@@N@@
namespace Jvm.Pilot.@@N@@
open Jvm Jvm.ClassFile Sem Op Lib Jvm.Free Jvm.Stand Jvm.Pilot.@@N@@.Jvm.D
/-! MADE BY PROGRAM (witnessworld.py) out of the Statement's table words and the real class files: 19 classes; the members and pool entries that the words name. The judged class is class 1, her method 1. -/
namespace start1
open Jvm.ClassFile
def u (s : String) : CpInfo := .utf8 (stringToUtf16 s)
/-- a pool by its gaps: so many unusable entries, then the entry; so many at the end -/
def gap : Nat → List CpInfo → List CpInfo
  | 0, r => r
  | n + 1, r => .unusable :: gap n r
def poolList (es : List (Nat × CpInfo)) (last : Nat) : List CpInfo := es.foldr (fun e r => gap e.1 (e.2 :: r)) (gap last [])
def pool (es : List (Nat × CpInfo)) (last : Nat) : Array CpInfo := ⟨poolList es last⟩
def fileOf (pool : Array CpInfo) (this : Nat) (attrs : Array Attribute := #[]) (ms : Array MethodInfo := #[]) (fl : Nat := 33) (sup : Nat := 0) (ifs : Array Nat := #[]) (fds : Array FieldInfo := #[]) : ClassFile where
  minorVersion := 0
  majorVersion := 65
  constantPool := pool
  accessFlags := fl
  thisClass := this
  superClass := sup
  interfaces := ifs
  fields := fds
  methods := ms
  attributes := attrs
def plain (name : String) (sup : Option ClassId) : Class where
  name := name
  kind := .ordinary
  loader := none
  accessFlags := 33
  super := sup
  interfaces := #[]
  cf := none
  fields := #[]
  methods := #[]
  instanceTypes := #[]
  staticTypes := #[]
  resolved := #[]
  callSites := []
  init := .initialized
  statics := none
  mirror := none

def pool0 : Array CpInfo := pool [(5, u "<init>"), (0, u "()V"), (1, .class_ 10), (1, u "java/lang/Object")] 113

def k0c0 : Code := { maxStack := 0, maxLocals := 1, code := object_method_1_code, exceptionTable := #[], attributes := #[] }
def k0m0 : Method := { name := "<init>", desc := "()V", sig := { parameters := [], returnType := none }, accessFlags := 1, code := some k0c0 }
/-- java/lang/Object -/
def k0 : Class := { plain "java/lang/Object" none with
  accessFlags := 33
  interfaces := #[]
  cf := some (fileOf pool0 8 #[] #[{ accessFlags := 1, nameIndex := 5, descriptorIndex := 6, attributes := #[] }] 33 0 #[] #[])
  fields := #[]
  methods := #[k0m0]
  instanceTypes := #[]
  staticTypes := #[]
  resolved := Array.replicate 124 none
  statics := none }

def pool1 : Array CpInfo := pool [(2, .class_ 4), (1, u "java/lang/Object"), (0, u "<init>"), (0, u "()V"), (0, .class_ 8), (0, u "com/example/timed_cap/timedcap/model/Reason"), (0, .fieldref 7 10), (0, .nameAndType 11 12), (0, u "MALFORMED"), (0, u "Lcom/example/timed_cap/timedcap/model/Reason;"), (0, .fieldref 7 14), (0, .nameAndType 15 12), (0, u "ALTERED"), (0, .fieldref 7 17), (0, .nameAndType 18 12), (0, u "RESEALED"), (0, .fieldref 7 20), (0, .nameAndType 21 12), (0, u "NOT_HOLDER"), (0, .fieldref 7 23), (0, .nameAndType 24 12), (0, u "REVOKED"), (0, .fieldref 7 26), (0, .nameAndType 27 12), (0, u "NO_SUCH_VERSION"), (0, .fieldref 7 29), (0, .nameAndType 30 12), (0, u "NO_VERSION_YET"), (0, .fieldref 7 32), (0, .nameAndType 33 12), (0, u "NOT_YET_EFFECTIVE"), (0, .fieldref 7 35), (0, .nameAndType 36 12), (0, u "EXPIRED"), (0, .fieldref 7 38), (0, .nameAndType 39 12), (0, u "LEASE_ENDED"), (0, .fieldref 7 41), (0, .nameAndType 42 12), (0, u "OUTSIDE_SCHEDULE"), (0, .fieldref 7 44), (0, .nameAndType 45 12), (0, u "RIGHT_NOT_HELD"), (0, .fieldref 7 47), (0, .nameAndType 48 12), (0, u "VERSION_EXISTS"), (0, .fieldref 7 50), (0, .nameAndType 51 12), (0, u "NOT_A_HISTORY_CAPABILITY"), (0, .fieldref 7 53), (0, .nameAndType 54 12), (0, u "WIDENS_PARENT"), (0, .fieldref 7 56), (0, .nameAndType 57 12), (0, u "NOT_AN_ANCESTOR"), (0, .fieldref 7 59), (0, .nameAndType 60 12), (0, u "NO_SUCH_LEASE"), (0, .integer 2147483647), (0, .methodref 63 64), (0, .class_ 65), (0, .nameAndType 66 67), (0, u "com/example/timed_cap/timedcap/model/Decision"), (0, u "denied"), (0, u "(Lcom/example/timed_cap/timedcap/model/Reason;)Lcom/example/timed_cap/timedcap/model/Decision;"), (0, .methodref 63 69), (0, .nameAndType 70 71), (0, u "reason"), (0, u "()Lcom/example/timed_cap/timedcap/model/Reason;"), (0, .methodref 63 73), (0, .nameAndType 74 75), (0, u "reached"), (0, u "()Lcom/example/timed_cap/timedcap/model/Reference;"), (0, .methodref 63 77), (0, .nameAndType 78 79), (0, u "isGranted"), (0, u "()Z"), (0, .class_ 81), (0, u "com/example/timed_cap/timedcap/model/DecisionDeniedPinLaw"), (2, u "law"), (0, u "(I)Z")] 5

def k1m0 : Method := { name := "<init>", desc := "()V", sig := { parameters := [], returnType := none }, accessFlags := 2, code := none }
def k1c1 : Code := { maxStack := 4, maxLocals := 5, code := code, exceptionTable := #[], attributes := #[] }
def k1m1 : Method := { name := "law", desc := "(I)Z", sig := { parameters := [.int], returnType := some .boolean }, accessFlags := 9, code := some k1c1 }
/-- com/example/timed_cap/timedcap/model/DecisionDeniedPinLaw -/
def k1 : Class := { plain "com/example/timed_cap/timedcap/model/DecisionDeniedPinLaw" (some 0) with
  accessFlags := 49
  interfaces := #[]
  cf := some (fileOf pool1 80 #[] #[{ accessFlags := 2, nameIndex := 5, descriptorIndex := 6, attributes := #[] }, { accessFlags := 9, nameIndex := 84, descriptorIndex := 85, attributes := #[] }] 49 2 #[] #[])
  fields := #[]
  methods := #[k1m0, k1m1]
  instanceTypes := #[]
  staticTypes := #[]
  resolved := Array.replicate 91 none
  statics := none }

def pool2 : Array CpInfo := pool [(1, .class_ 2), (0, u "java/lang/constant/Constable"), (0, .class_ 4), (0, u "java/lang/Object")] 6

/-- java/lang/constant/Constable -/
def k2 : Class := { plain "java/lang/constant/Constable" (some 0) with
  accessFlags := 1537
  interfaces := #[]
  cf := some (fileOf pool2 1 #[] #[] 1537 3 #[] #[])
  fields := #[]
  methods := #[]
  instanceTypes := #[]
  staticTypes := #[]
  resolved := Array.replicate 11 none
  statics := none }

def pool3 : Array CpInfo := pool [(1, .class_ 2), (0, u "java/lang/Comparable"), (0, .class_ 4), (0, u "java/lang/Object")] 7

/-- java/lang/Comparable -/
def k3 : Class := { plain "java/lang/Comparable" (some 0) with
  accessFlags := 1537
  interfaces := #[]
  cf := some (fileOf pool3 1 #[] #[] 1537 3 #[] #[])
  fields := #[]
  methods := #[]
  instanceTypes := #[]
  staticTypes := #[]
  resolved := Array.replicate 12 none
  statics := none }

def pool4 : Array CpInfo := pool [(1, .class_ 2), (0, u "java/io/Serializable"), (0, .class_ 4), (0, u "java/lang/Object")] 2

/-- java/io/Serializable -/
def k4 : Class := { plain "java/io/Serializable" (some 0) with
  accessFlags := 1537
  interfaces := #[]
  cf := some (fileOf pool4 1 #[] #[] 1537 3 #[] #[])
  fields := #[]
  methods := #[]
  instanceTypes := #[]
  staticTypes := #[]
  resolved := Array.replicate 7 none
  statics := none }

def pool5 : Array CpInfo := pool [(2, .class_ 4), (1, u "java/lang/Enum"), (0, u "name"), (0, u "Ljava/lang/String;"), (2, u "ordinal"), (0, u "I"), (1, .class_ 14), (1, u "java/lang/Object"), (4, u "hash"), (86, .class_ 108), (1, u "java/lang/Enum$EnumDesc"), (2, .class_ 112), (0, u "java/lang/constant/Constable"), (0, .class_ 114), (0, u "java/lang/Comparable"), (0, .class_ 116), (0, u "java/io/Serializable")] 87

/-- java/lang/Enum -/
def k5 : Class := { plain "java/lang/Enum" (some 0) with
  accessFlags := 1057
  interfaces := #[2, 3, 4]
  cf := some (fileOf pool5 2 #[.nestMembers #[106]] #[] 1057 12 #[111, 113, 115] #[{ accessFlags := 18, nameIndex := 5, descriptorIndex := 6, attributes := #[] }, { accessFlags := 18, nameIndex := 9, descriptorIndex := 10, attributes := #[] }, { accessFlags := 2, nameIndex := 19, descriptorIndex := 10, attributes := #[] }])
  fields := #[{ name := "name", type := (.object "java/lang/String"), accessFlags := 18, slot := 0, constantValue := 0 }, { name := "ordinal", type := .int, accessFlags := 18, slot := 1, constantValue := 0 }, { name := "hash", type := .int, accessFlags := 2, slot := 2, constantValue := 0 }]
  methods := #[]
  instanceTypes := #[(.object "java/lang/String"), .int, .int]
  staticTypes := #[]
  resolved := Array.replicate 204 none
  statics := none }

def pool6 : Array CpInfo := pool [(1, .class_ 2), (0, u "com/example/timed_cap/timedcap/model/Reason"), (2, u "MALFORMED"), (0, u "Lcom/example/timed_cap/timedcap/model/Reason;"), (2, u "ALTERED"), (2, u "RESEALED"), (2, u "NOT_HOLDER"), (2, u "REVOKED"), (2, u "NO_SUCH_VERSION"), (2, u "NO_VERSION_YET"), (2, u "NOT_YET_EFFECTIVE"), (2, u "EXPIRED"), (2, u "LEASE_ENDED"), (2, u "OUTSIDE_SCHEDULE"), (2, u "RIGHT_NOT_HELD"), (2, u "VERSION_EXISTS"), (2, u "NOT_A_HISTORY_CAPABILITY"), (2, u "WIDENS_PARENT"), (2, u "NOT_AN_ANCESTOR"), (2, u "NO_SUCH_LEASE"), (2, u "$VALUES"), (0, u "[Lcom/example/timed_cap/timedcap/model/Reason;"), (6, .class_ 67), (1, u "java/lang/Enum")] 60

/-- com/example/timed_cap/timedcap/model/Reason -/
def k6 : Class := { plain "com/example/timed_cap/timedcap/model/Reason" (some 5) with
  accessFlags := 16433
  interfaces := #[]
  cf := some (fileOf pool6 1 #[] #[] 16433 65 #[] #[{ accessFlags := 16409, nameIndex := 5, descriptorIndex := 6, attributes := #[] }, { accessFlags := 16409, nameIndex := 9, descriptorIndex := 6, attributes := #[] }, { accessFlags := 16409, nameIndex := 12, descriptorIndex := 6, attributes := #[] }, { accessFlags := 16409, nameIndex := 15, descriptorIndex := 6, attributes := #[] }, { accessFlags := 16409, nameIndex := 18, descriptorIndex := 6, attributes := #[] }, { accessFlags := 16409, nameIndex := 21, descriptorIndex := 6, attributes := #[] }, { accessFlags := 16409, nameIndex := 24, descriptorIndex := 6, attributes := #[] }, { accessFlags := 16409, nameIndex := 27, descriptorIndex := 6, attributes := #[] }, { accessFlags := 16409, nameIndex := 30, descriptorIndex := 6, attributes := #[] }, { accessFlags := 16409, nameIndex := 33, descriptorIndex := 6, attributes := #[] }, { accessFlags := 16409, nameIndex := 36, descriptorIndex := 6, attributes := #[] }, { accessFlags := 16409, nameIndex := 39, descriptorIndex := 6, attributes := #[] }, { accessFlags := 16409, nameIndex := 42, descriptorIndex := 6, attributes := #[] }, { accessFlags := 16409, nameIndex := 45, descriptorIndex := 6, attributes := #[] }, { accessFlags := 16409, nameIndex := 48, descriptorIndex := 6, attributes := #[] }, { accessFlags := 16409, nameIndex := 51, descriptorIndex := 6, attributes := #[] }, { accessFlags := 16409, nameIndex := 54, descriptorIndex := 6, attributes := #[] }, { accessFlags := 4122, nameIndex := 57, descriptorIndex := 58, attributes := #[] }])
  fields := #[{ name := "MALFORMED", type := (.object "com/example/timed_cap/timedcap/model/Reason"), accessFlags := 16409, slot := 0, constantValue := 0 }, { name := "ALTERED", type := (.object "com/example/timed_cap/timedcap/model/Reason"), accessFlags := 16409, slot := 1, constantValue := 0 }, { name := "RESEALED", type := (.object "com/example/timed_cap/timedcap/model/Reason"), accessFlags := 16409, slot := 2, constantValue := 0 }, { name := "NOT_HOLDER", type := (.object "com/example/timed_cap/timedcap/model/Reason"), accessFlags := 16409, slot := 3, constantValue := 0 }, { name := "REVOKED", type := (.object "com/example/timed_cap/timedcap/model/Reason"), accessFlags := 16409, slot := 4, constantValue := 0 }, { name := "NO_SUCH_VERSION", type := (.object "com/example/timed_cap/timedcap/model/Reason"), accessFlags := 16409, slot := 5, constantValue := 0 }, { name := "NO_VERSION_YET", type := (.object "com/example/timed_cap/timedcap/model/Reason"), accessFlags := 16409, slot := 6, constantValue := 0 }, { name := "NOT_YET_EFFECTIVE", type := (.object "com/example/timed_cap/timedcap/model/Reason"), accessFlags := 16409, slot := 7, constantValue := 0 }, { name := "EXPIRED", type := (.object "com/example/timed_cap/timedcap/model/Reason"), accessFlags := 16409, slot := 8, constantValue := 0 }, { name := "LEASE_ENDED", type := (.object "com/example/timed_cap/timedcap/model/Reason"), accessFlags := 16409, slot := 9, constantValue := 0 }, { name := "OUTSIDE_SCHEDULE", type := (.object "com/example/timed_cap/timedcap/model/Reason"), accessFlags := 16409, slot := 10, constantValue := 0 }, { name := "RIGHT_NOT_HELD", type := (.object "com/example/timed_cap/timedcap/model/Reason"), accessFlags := 16409, slot := 11, constantValue := 0 }, { name := "VERSION_EXISTS", type := (.object "com/example/timed_cap/timedcap/model/Reason"), accessFlags := 16409, slot := 12, constantValue := 0 }, { name := "NOT_A_HISTORY_CAPABILITY", type := (.object "com/example/timed_cap/timedcap/model/Reason"), accessFlags := 16409, slot := 13, constantValue := 0 }, { name := "WIDENS_PARENT", type := (.object "com/example/timed_cap/timedcap/model/Reason"), accessFlags := 16409, slot := 14, constantValue := 0 }, { name := "NOT_AN_ANCESTOR", type := (.object "com/example/timed_cap/timedcap/model/Reason"), accessFlags := 16409, slot := 15, constantValue := 0 }, { name := "NO_SUCH_LEASE", type := (.object "com/example/timed_cap/timedcap/model/Reason"), accessFlags := 16409, slot := 16, constantValue := 0 }, { name := "$VALUES", type := (.array (.object "com/example/timed_cap/timedcap/model/Reason")), accessFlags := 4122, slot := 17, constantValue := 0 }]
  methods := #[]
  instanceTypes := #[(.object "java/lang/String"), .int, .int]
  staticTypes := #[(.object "com/example/timed_cap/timedcap/model/Reason"), (.object "com/example/timed_cap/timedcap/model/Reason"), (.object "com/example/timed_cap/timedcap/model/Reason"), (.object "com/example/timed_cap/timedcap/model/Reason"), (.object "com/example/timed_cap/timedcap/model/Reason"), (.object "com/example/timed_cap/timedcap/model/Reason"), (.object "com/example/timed_cap/timedcap/model/Reason"), (.object "com/example/timed_cap/timedcap/model/Reason"), (.object "com/example/timed_cap/timedcap/model/Reason"), (.object "com/example/timed_cap/timedcap/model/Reason"), (.object "com/example/timed_cap/timedcap/model/Reason"), (.object "com/example/timed_cap/timedcap/model/Reason"), (.object "com/example/timed_cap/timedcap/model/Reason"), (.object "com/example/timed_cap/timedcap/model/Reason"), (.object "com/example/timed_cap/timedcap/model/Reason"), (.object "com/example/timed_cap/timedcap/model/Reason"), (.object "com/example/timed_cap/timedcap/model/Reason"), (.array (.object "com/example/timed_cap/timedcap/model/Reason"))]
  resolved := Array.replicate 128 none
  statics := some 0 }

def pool7 : Array CpInfo := pool [(1, .methodref 2 3), (0, .class_ 4), (0, .nameAndType 5 6), (0, u "java/lang/Object"), (0, u "<init>"), (0, u "()V"), (0, .class_ 8), (0, u "java/lang/Record")] 13

def k7c0 : Code := { maxStack := 1, maxLocals := 1, code := jdk_30_method_1_code, exceptionTable := #[], attributes := #[] }
def k7m0 : Method := { name := "<init>", desc := "()V", sig := { parameters := [], returnType := none }, accessFlags := 4, code := some k7c0 }
/-- java/lang/Record -/
def k7 : Class := { plain "java/lang/Record" (some 0) with
  accessFlags := 1057
  interfaces := #[]
  cf := some (fileOf pool7 7 #[] #[{ accessFlags := 4, nameIndex := 5, descriptorIndex := 6, attributes := #[] }] 1057 2 #[] #[])
  fields := #[]
  methods := #[k7m0]
  instanceTypes := #[]
  staticTypes := #[]
  resolved := Array.replicate 22 none
  statics := none }

def pool8 : Array CpInfo := pool [(1, .methodref 2 3), (0, .class_ 4), (0, .nameAndType 5 6), (0, u "java/lang/Record"), (0, u "<init>"), (0, u "()V"), (0, .fieldref 8 9), (0, .class_ 10), (0, .nameAndType 11 12), (0, u "com/example/timed_cap/timedcap/model/Decision"), (0, u "reached"), (0, u "Lcom/example/timed_cap/timedcap/model/Reference;"), (0, .fieldref 8 14), (0, .nameAndType 15 16), (0, u "reason"), (0, u "Lcom/example/timed_cap/timedcap/model/Reason;"), (1, .methodref 19 20), (0, .class_ 21), (0, .nameAndType 22 23), (0, u "java/util/Objects"), (0, u "requireNonNull"), (0, u "(Ljava/lang/Object;Ljava/lang/String;)Ljava/lang/Object;"), (2, .methodref 8 27), (0, .nameAndType 5 28), (0, u "(Lcom/example/timed_cap/timedcap/model/Reference;Lcom/example/timed_cap/timedcap/model/Reason;)V"), (0, .string 15), (0, .class_ 31), (0, u "com/example/timed_cap/timedcap/model/Reason"), (2, u "isGranted"), (0, u "()Z"), (28, u "denied"), (0, u "(Lcom/example/timed_cap/timedcap/model/Reason;)Lcom/example/timed_cap/timedcap/model/Decision;"), (4, u "()Lcom/example/timed_cap/timedcap/model/Reference;"), (0, u "()Lcom/example/timed_cap/timedcap/model/Reason;")] 31

def k8c0 : Code := { maxStack := 2, maxLocals := 3, code := prog_3_method_1_code, exceptionTable := #[], attributes := #[] }
def k8m0 : Method := { name := "<init>", desc := "(Lcom/example/timed_cap/timedcap/model/Reference;Lcom/example/timed_cap/timedcap/model/Reason;)V", sig := { parameters := [(.object "com/example/timed_cap/timedcap/model/Reference"), (.object "com/example/timed_cap/timedcap/model/Reason")], returnType := none }, accessFlags := 1, code := some k8c0 }
def k8c1 : Code := { maxStack := 5, maxLocals := 1, code := prog_3_method_3_code, exceptionTable := #[], attributes := #[] }
def k8m1 : Method := { name := "denied", desc := "(Lcom/example/timed_cap/timedcap/model/Reason;)Lcom/example/timed_cap/timedcap/model/Decision;", sig := { parameters := [(.object "com/example/timed_cap/timedcap/model/Reason")], returnType := some (.object "com/example/timed_cap/timedcap/model/Decision") }, accessFlags := 9, code := some k8c1 }
def k8c2 : Code := { maxStack := 1, maxLocals := 1, code := prog_3_method_4_code, exceptionTable := #[], attributes := #[] }
def k8m2 : Method := { name := "isGranted", desc := "()Z", sig := { parameters := [], returnType := some .boolean }, accessFlags := 1, code := some k8c2 }
def k8c3 : Code := { maxStack := 1, maxLocals := 1, code := prog_3_method_8_code, exceptionTable := #[], attributes := #[] }
def k8m3 : Method := { name := "reached", desc := "()Lcom/example/timed_cap/timedcap/model/Reference;", sig := { parameters := [], returnType := some (.object "com/example/timed_cap/timedcap/model/Reference") }, accessFlags := 1, code := some k8c3 }
def k8c4 : Code := { maxStack := 1, maxLocals := 1, code := prog_3_method_9_code, exceptionTable := #[], attributes := #[] }
def k8m4 : Method := { name := "reason", desc := "()Lcom/example/timed_cap/timedcap/model/Reason;", sig := { parameters := [], returnType := some (.object "com/example/timed_cap/timedcap/model/Reason") }, accessFlags := 1, code := some k8c4 }
/-- com/example/timed_cap/timedcap/model/Decision -/
def k8 : Class := { plain "com/example/timed_cap/timedcap/model/Decision" (some 7) with
  accessFlags := 49
  interfaces := #[]
  cf := some (fileOf pool8 8 #[] #[{ accessFlags := 1, nameIndex := 5, descriptorIndex := 28, attributes := #[] }, { accessFlags := 9, nameIndex := 64, descriptorIndex := 65, attributes := #[] }, { accessFlags := 1, nameIndex := 34, descriptorIndex := 35, attributes := #[] }, { accessFlags := 1, nameIndex := 11, descriptorIndex := 70, attributes := #[] }, { accessFlags := 1, nameIndex := 15, descriptorIndex := 71, attributes := #[] }] 49 2 #[] #[{ accessFlags := 18, nameIndex := 11, descriptorIndex := 12, attributes := #[] }, { accessFlags := 18, nameIndex := 15, descriptorIndex := 16, attributes := #[] }])
  fields := #[{ name := "reached", type := (.object "com/example/timed_cap/timedcap/model/Reference"), accessFlags := 18, slot := 0, constantValue := 0 }, { name := "reason", type := (.object "com/example/timed_cap/timedcap/model/Reason"), accessFlags := 18, slot := 1, constantValue := 0 }]
  methods := #[k8m0, k8m1, k8m2, k8m3, k8m4]
  instanceTypes := #[(.object "com/example/timed_cap/timedcap/model/Reference"), (.object "com/example/timed_cap/timedcap/model/Reason")]
  staticTypes := #[]
  resolved := Array.replicate 103 none
  statics := none }

def pool9 : Array CpInfo := pool [(2, .class_ 4), (1, u "java/lang/CharSequence"), (42, .class_ 48), (0, u "java/lang/CharSequence$1CodePointIterator"), (10, .class_ 60), (0, u "java/lang/CharSequence$1CharIterator"), (5, .class_ 67), (0, u "java/lang/Object")] 63

/-- java/lang/CharSequence -/
def k9 : Class := { plain "java/lang/CharSequence" (some 0) with
  accessFlags := 1537
  interfaces := #[]
  cf := some (fileOf pool9 2 #[.nestMembers #[47, 59]] #[] 1537 66 #[] #[])
  fields := #[]
  methods := #[]
  instanceTypes := #[]
  staticTypes := #[]
  resolved := Array.replicate 131 none
  statics := none }

def pool10 : Array CpInfo := pool [(1, .class_ 2), (0, u "java/lang/constant/ConstantDesc"), (0, .class_ 4), (0, u "java/lang/Object")] 32

/-- java/lang/constant/ConstantDesc -/
def k10 : Class := { plain "java/lang/constant/ConstantDesc" (some 0) with
  accessFlags := 1537
  interfaces := #[]
  cf := some (fileOf pool10 1 #[] #[] 1537 3 #[] #[])
  fields := #[]
  methods := #[]
  instanceTypes := #[]
  staticTypes := #[]
  resolved := Array.replicate 37 none
  statics := none }

def pool11 : Array CpInfo := pool [(2, .class_ 4), (1, u "java/lang/Object"), (0, u "<init>"), (0, u "()V"), (3, .class_ 12), (1, u "java/lang/String"), (0, u "value"), (0, u "[B"), (2, u "coder"), (0, u "B"), (2, u "hash"), (0, u "I"), (2, u "hashIsZero"), (0, u "Z"), (13, u "COMPACT_STRINGS"), (534, .class_ 576), (0, u "java/lang/CharSequence"), (22, u "CASE_INSENSITIVE_ORDER"), (0, u "Ljava/util/Comparator;"), (500, u "serialPersistentFields"), (0, u "[Ljava/io/ObjectStreamField;"), (0, .class_ 1104), (0, u "java/lang/String$CaseInsensitiveComparator"), (1, .class_ 1107), (0, u "java/io/Serializable"), (0, .class_ 1109), (0, u "java/lang/Comparable"), (0, .class_ 1111), (0, u "java/lang/constant/Constable"), (0, .class_ 1113), (0, u "java/lang/constant/ConstantDesc"), (2, u "serialVersionUID"), (0, u "J"), (3, u "REPL"), (0, u "C"), (2, u "LATIN1"), (1, u "UTF16")] 323

def k11m0 : Method := { name := "<init>", desc := "()V", sig := { parameters := [], returnType := none }, accessFlags := 1, code := none }
/-- java/lang/String -/
def k11 : Class := { plain "java/lang/String" (some 0) with
  accessFlags := 49
  interfaces := #[4, 3, 9, 2, 10]
  cf := some (fileOf pool11 10 #[.nestMembers #[1103]] #[{ accessFlags := 1, nameIndex := 5, descriptorIndex := 6, attributes := #[] }] 49 2 #[1106, 1108, 575, 1110, 1112] #[{ accessFlags := 18, nameIndex := 13, descriptorIndex := 14, attributes := #[] }, { accessFlags := 18, nameIndex := 17, descriptorIndex := 18, attributes := #[] }, { accessFlags := 2, nameIndex := 21, descriptorIndex := 22, attributes := #[] }, { accessFlags := 2, nameIndex := 25, descriptorIndex := 26, attributes := #[] }, { accessFlags := 26, nameIndex := 1116, descriptorIndex := 1117, attributes := #[] }, { accessFlags := 24, nameIndex := 40, descriptorIndex := 26, attributes := #[] }, { accessFlags := 26, nameIndex := 1101, descriptorIndex := 1102, attributes := #[] }, { accessFlags := 26, nameIndex := 1121, descriptorIndex := 1122, attributes := #[] }, { accessFlags := 25, nameIndex := 599, descriptorIndex := 600, attributes := #[] }, { accessFlags := 24, nameIndex := 1125, descriptorIndex := 18, attributes := #[] }, { accessFlags := 24, nameIndex := 1127, descriptorIndex := 18, attributes := #[] }])
  fields := #[{ name := "value", type := (.array .byte), accessFlags := 18, slot := 0, constantValue := 0 }, { name := "coder", type := .byte, accessFlags := 18, slot := 1, constantValue := 0 }, { name := "hash", type := .int, accessFlags := 2, slot := 2, constantValue := 0 }, { name := "hashIsZero", type := .boolean, accessFlags := 2, slot := 3, constantValue := 0 }, { name := "serialVersionUID", type := .long, accessFlags := 26, slot := 0, constantValue := 0 }, { name := "COMPACT_STRINGS", type := .boolean, accessFlags := 24, slot := 1, constantValue := 0 }, { name := "serialPersistentFields", type := (.array (.object "java/io/ObjectStreamField")), accessFlags := 26, slot := 2, constantValue := 0 }, { name := "REPL", type := .char, accessFlags := 26, slot := 3, constantValue := 0 }, { name := "CASE_INSENSITIVE_ORDER", type := (.object "java/util/Comparator"), accessFlags := 25, slot := 4, constantValue := 0 }, { name := "LATIN1", type := .byte, accessFlags := 24, slot := 5, constantValue := 0 }, { name := "UTF16", type := .byte, accessFlags := 24, slot := 6, constantValue := 0 }]
  methods := #[k11m0]
  instanceTypes := #[(.array .byte), .byte, .int, .boolean]
  staticTypes := #[.long, .boolean, (.array (.object "java/io/ObjectStreamField")), .char, (.object "java/util/Comparator"), .byte, .byte]
  resolved := Array.replicate 1451 none
  statics := none }

def pool12 : Array CpInfo := pool [(2, .class_ 4), (1, u "java/lang/Object"), (0, u "<init>"), (0, u "()V"), (35, .class_ 44), (1, u "java/util/Objects"), (0, u "requireNonNull"), (48, u "(Ljava/lang/Object;Ljava/lang/String;)Ljava/lang/Object;")] 89

def k12m0 : Method := { name := "<init>", desc := "()V", sig := { parameters := [], returnType := none }, accessFlags := 2, code := none }
def k12c1 : Code := { maxStack := 3, maxLocals := 2, code := jdk_31_method_11_code, exceptionTable := #[], attributes := #[] }
def k12m1 : Method := { name := "requireNonNull", desc := "(Ljava/lang/Object;Ljava/lang/String;)Ljava/lang/Object;", sig := { parameters := [(.object "java/lang/Object"), (.object "java/lang/String")], returnType := some (.object "java/lang/Object") }, accessFlags := 9, code := some k12c1 }
/-- java/util/Objects -/
def k12 : Class := { plain "java/util/Objects" (some 0) with
  accessFlags := 49
  interfaces := #[]
  cf := some (fileOf pool12 42 #[] #[{ accessFlags := 2, nameIndex := 5, descriptorIndex := 6, attributes := #[] }, { accessFlags := 9, nameIndex := 45, descriptorIndex := 94, attributes := #[] }] 49 2 #[] #[])
  fields := #[]
  methods := #[k12m0, k12m1]
  instanceTypes := #[]
  staticTypes := #[]
  resolved := Array.replicate 184 none
  statics := none }

def pool13 : Array CpInfo := pool [(1, u "java/lang/Cloneable"), (0, .class_ 1), (0, u "java/lang/Object"), (0, .class_ 3)] 3

/-- java/lang/Cloneable -/
def k13 : Class := { plain "java/lang/Cloneable" (some 0) with
  accessFlags := 1537
  interfaces := #[]
  cf := some (fileOf pool13 2 #[] #[] 1537 4 #[] #[])
  fields := #[]
  methods := #[]
  instanceTypes := #[]
  staticTypes := #[]
  resolved := Array.replicate 8 none
  statics := none }

/-- the primitive byte -/
def k14 : Class := { plain "byte" none with kind := .primitive 'B', accessFlags := 0x411 }
/-- [B -/
def k15 : Class := { plain "[B" (some 0) with kind := .array 14 .byte, interfaces := #[13, 4], accessFlags := 1041 }

/-- the primitive int -/
def k16 : Class := { plain "int" none with kind := .primitive 'I', accessFlags := 0x411 }
/-- [I -/
def k17 : Class := { plain "[I" (some 0) with kind := .array 16 .int, interfaces := #[13, 4], accessFlags := 1041 }

/-- [Lcom/example/timed_cap/timedcap/model/Reason; -/
def k18 : Class := { plain "[Lcom/example/timed_cap/timedcap/model/Reason;" (some 0) with kind := .array 6 (.object "com/example/timed_cap/timedcap/model/Reason"), interfaces := #[13, 4], accessFlags := 1041 }

def heap : Heap := #[{ cls := 6, slots := #[.ref 1, .ref 2, .ref 3, .ref 4, .ref 5, .ref 6, .ref 7, .ref 8, .ref 9, .ref 10, .ref 11, .ref 12, .ref 13, .ref 14, .ref 15, .ref 16, .ref 17, .null], vm := .statics 6 },
  { cls := 6, slots := #[.null, .int 0, .int 0], vm := .none },
  { cls := 6, slots := #[.null, .int 1, .int 0], vm := .none },
  { cls := 6, slots := #[.null, .int 2, .int 0], vm := .none },
  { cls := 6, slots := #[.null, .int 3, .int 0], vm := .none },
  { cls := 6, slots := #[.null, .int 4, .int 0], vm := .none },
  { cls := 6, slots := #[.null, .int 5, .int 0], vm := .none },
  { cls := 6, slots := #[.null, .int 6, .int 0], vm := .none },
  { cls := 6, slots := #[.null, .int 7, .int 0], vm := .none },
  { cls := 6, slots := #[.null, .int 8, .int 0], vm := .none },
  { cls := 6, slots := #[.null, .int 9, .int 0], vm := .none },
  { cls := 6, slots := #[.null, .int 10, .int 0], vm := .none },
  { cls := 6, slots := #[.null, .int 11, .int 0], vm := .none },
  { cls := 6, slots := #[.null, .int 12, .int 0], vm := .none },
  { cls := 6, slots := #[.null, .int 13, .int 0], vm := .none },
  { cls := 6, slots := #[.null, .int 14, .int 0], vm := .none },
  { cls := 6, slots := #[.null, .int 15, .int 0], vm := .none },
  { cls := 6, slots := #[.null, .int 16, .int 0], vm := .none }]
def classes : Array Class := #[k0, k1, k2, k3, k4, k5, k6, k7, k8, k9, k10, k11, k12, k13, k14, k15, k16, k17, k18]
def interned : List (Array UInt16 × Addr) := []
def slotsUsed : Nat := 69
def theMethod : MethodId := ⟨1, 1⟩
def args0 : Array Value := #[.int 5]
def aboutOver (below : List Frame) : State where
  vm := { classes := classes, interned := interned.toArray }
  heap := heap
  slotsUsed := slotsUsed
  threads := #[{ frames := .invoking theMethod args0 :: below }]
def below0 : List Frame := [.native { method := ⟨0, 0⟩, args := #[] }]
def about1 : State := aboutOver below0
def p0 : Program := .bare "" "" ""
def e0 : Env := launch0.env 0 0 0
theorem w_frames : about1.frames = Frame.invoking theMethod args0 :: below0 := rfl
set_option maxRecDepth 65536 in
theorem w_args : argsFit about1.vm theMethod args0 = true := by decide +kernel
set_option maxRecDepth 65536 in
theorem w_heap : heapFits about1 = true := by decide +kernel
set_option maxRecDepth 65536 in
theorem w_runnable : about1.curStatus? = some .runnable := by decide +kernel
set_option maxRecDepth 65536 in
theorem w_alone : about1.alone = true := by decide +kernel
set_option maxRecDepth 65536 in
theorem w_named : about1.methodNamed? x = some theMethod := by decide +kernel
set_option maxRecDepth 65536 in
theorem w_hears : about1.hears theMethod below0 = true := by decide +kernel
set_option maxRecDepth 65536 in
theorem w_ripe : about1.ripe theMethod args0 below0 = true := by decide +kernel
theorem w_running : about1.status = .running := rfl
set_option maxRecDepth 65536 in
theorem w_room : about1.hasRoom e0.platform room_1 = true :=
  launch0.hasRoom_least _ room_1 (by decide +kernel) (by decide +kernel) (by decide +kernel) (by decide +kernel) (by decide +kernel) (by decide +kernel)
theorem allAtoms_all (ts : List Jvm.Cond) (a : Array Jvm.Value) (st : Jvm.State) : (allAtoms ts).before a st = ts.all (fun c => c.before a st) := by
  induction ts with
  | nil => rfl
  | cons c t ih =>
    show (Jvm.Cond.and c (allAtoms t)).before a st = _
    rw [Jvm.Cond.before_and, ih, List.all_cons]
def words1 : List Jvm.Cond := Jvm.Cond.code x code maxLocals ret :: tables_1
/-- a 'code' word, met by the world's own term for the bytes: nothing is compared byte by byte -/
theorem code_word {y : MethodName} {bytes : ByteArray} {mx : Nat} {rt : Option FieldType} {a : Array Value} {s : State} {m : MethodId} {meth : Method} {c : Code} (h1 : s.methodNamed? y = some m) (h2 : s.vm.method? m = some meth) (h3 : meth.code = some c) (h4 : c.code = bytes)
    (h5 : (c.maxLocals == mx && c.exceptionTable.isEmpty && decide (c.maxStack ≤ mostOperands) && decide (meth.sig.returnType = rt) && !meth.locks && decide (parseMethodDescriptor y.desc = some meth.sig)) = true) : (Jvm.Cond.code y bytes mx rt).before a s = true := by
  simp only [Bool.and_eq_true, beq_iff_eq, Bool.not_eq_true', decide_eq_true_eq] at h5
  obtain ⟨⟨⟨⟨⟨g1, g2⟩, g3⟩, g4⟩, g5⟩, g6⟩ := h5
  simp [Cond.before, Cond.holds, Cond.value, h1, h2, h3, h4, g1, g2, g3, g4, g5, g6]
def isCode : Jvm.Cond → Bool
  | .code _ _ _ _ => true
  | _ => false
theorem all_split {L : List Jvm.Cond} {P : Jvm.Cond → Bool} (h1 : L.all (fun c => isCode c || P c) = true) (h2 : ∀ c ∈ L.filter isCode, P c = true) : L.all P = true := by
  refine List.all_eq_true.mpr fun c hc => ?_
  have h := List.all_eq_true.mp h1 c hc
  rcases Bool.eq_false_or_eq_true (isCode c) with hi | hi
  · exact h2 c (List.mem_filter.mpr ⟨hc, hi⟩)
  · simpa [hi] using h
set_option maxRecDepth 65536 in
theorem w_c0 : (Jvm.Cond.code x code maxLocals ret).before args0 about1 = true := code_word (m := ⟨1, 1⟩) (meth := k1m1) (c := k1c1) (by decide +kernel) rfl rfl rfl (by decide +kernel)
set_option maxRecDepth 65536 in
theorem w_c1 : (Jvm.Cond.code ({ cls := "com/example/timed_cap/timedcap/model/Decision", name := "denied", desc := "(Lcom/example/timed_cap/timedcap/model/Reason;)Lcom/example/timed_cap/timedcap/model/Decision;" } : Jvm.MethodName) prog_3_method_3_code (1 : Nat) (Option.some (Jvm.ClassFile.FieldType.object "com/example/timed_cap/timedcap/model/Decision"))).before args0 about1 = true := code_word (m := ⟨8, 1⟩) (meth := k8m1) (c := k8c1) (by decide +kernel) rfl rfl rfl (by decide +kernel)
set_option maxRecDepth 65536 in
theorem w_c2 : (Jvm.Cond.code ({ cls := "java/util/Objects", name := "requireNonNull", desc := "(Ljava/lang/Object;Ljava/lang/String;)Ljava/lang/Object;" } : Jvm.MethodName) jdk_31_method_11_code (2 : Nat) (Option.some (Jvm.ClassFile.FieldType.object "java/lang/Object"))).before args0 about1 = true := code_word (m := ⟨12, 1⟩) (meth := k12m1) (c := k12c1) (by decide +kernel) rfl rfl rfl (by decide +kernel)
set_option maxRecDepth 65536 in
theorem w_c3 : (Jvm.Cond.code ({ cls := "com/example/timed_cap/timedcap/model/Decision", name := "<init>", desc := "(Lcom/example/timed_cap/timedcap/model/Reference;Lcom/example/timed_cap/timedcap/model/Reason;)V" } : Jvm.MethodName) prog_3_method_1_code (3 : Nat) (Option.none : Option Jvm.ClassFile.FieldType)).before args0 about1 = true := code_word (m := ⟨8, 0⟩) (meth := k8m0) (c := k8c0) (by decide +kernel) rfl rfl rfl (by decide +kernel)
set_option maxRecDepth 65536 in
theorem w_c4 : (Jvm.Cond.code ({ cls := "java/lang/Record", name := "<init>", desc := "()V" } : Jvm.MethodName) jdk_30_method_1_code (1 : Nat) (Option.none : Option Jvm.ClassFile.FieldType)).before args0 about1 = true := code_word (m := ⟨7, 0⟩) (meth := k7m0) (c := k7c0) (by decide +kernel) rfl rfl rfl (by decide +kernel)
set_option maxRecDepth 65536 in
theorem w_c5 : (Jvm.Cond.code ({ cls := "java/lang/Object", name := "<init>", desc := "()V" } : Jvm.MethodName) object_method_1_code (1 : Nat) (Option.none : Option Jvm.ClassFile.FieldType)).before args0 about1 = true := code_word (m := ⟨0, 0⟩) (meth := k0m0) (c := k0c0) (by decide +kernel) rfl rfl rfl (by decide +kernel)
set_option maxRecDepth 65536 in
theorem w_c6 : (Jvm.Cond.code ({ cls := "com/example/timed_cap/timedcap/model/Decision", name := "reason", desc := "()Lcom/example/timed_cap/timedcap/model/Reason;" } : Jvm.MethodName) prog_3_method_9_code (1 : Nat) (Option.some (Jvm.ClassFile.FieldType.object "com/example/timed_cap/timedcap/model/Reason"))).before args0 about1 = true := code_word (m := ⟨8, 4⟩) (meth := k8m4) (c := k8c4) (by decide +kernel) rfl rfl rfl (by decide +kernel)
set_option maxRecDepth 65536 in
theorem w_c7 : (Jvm.Cond.code ({ cls := "com/example/timed_cap/timedcap/model/Decision", name := "reached", desc := "()Lcom/example/timed_cap/timedcap/model/Reference;" } : Jvm.MethodName) prog_3_method_8_code (1 : Nat) (Option.some (Jvm.ClassFile.FieldType.object "com/example/timed_cap/timedcap/model/Reference"))).before args0 about1 = true := code_word (m := ⟨8, 3⟩) (meth := k8m3) (c := k8c3) (by decide +kernel) rfl rfl rfl (by decide +kernel)
set_option maxRecDepth 65536 in
theorem w_c8 : (Jvm.Cond.code ({ cls := "com/example/timed_cap/timedcap/model/Decision", name := "isGranted", desc := "()Z" } : Jvm.MethodName) prog_3_method_4_code (1 : Nat) (Option.some Jvm.ClassFile.FieldType.boolean)).before args0 about1 = true := code_word (m := ⟨8, 2⟩) (meth := k8m2) (c := k8c2) (by decide +kernel) rfl rfl rfl (by decide +kernel)
def codes1 : List Jvm.Cond := [Jvm.Cond.code x code maxLocals ret, Jvm.Cond.code ({ cls := "com/example/timed_cap/timedcap/model/Decision", name := "denied", desc := "(Lcom/example/timed_cap/timedcap/model/Reason;)Lcom/example/timed_cap/timedcap/model/Decision;" } : Jvm.MethodName) prog_3_method_3_code (1 : Nat) (Option.some (Jvm.ClassFile.FieldType.object "com/example/timed_cap/timedcap/model/Decision")), Jvm.Cond.code ({ cls := "java/util/Objects", name := "requireNonNull", desc := "(Ljava/lang/Object;Ljava/lang/String;)Ljava/lang/Object;" } : Jvm.MethodName) jdk_31_method_11_code (2 : Nat) (Option.some (Jvm.ClassFile.FieldType.object "java/lang/Object")), Jvm.Cond.code ({ cls := "com/example/timed_cap/timedcap/model/Decision", name := "<init>", desc := "(Lcom/example/timed_cap/timedcap/model/Reference;Lcom/example/timed_cap/timedcap/model/Reason;)V" } : Jvm.MethodName) prog_3_method_1_code (3 : Nat) (Option.none : Option Jvm.ClassFile.FieldType), Jvm.Cond.code ({ cls := "java/lang/Record", name := "<init>", desc := "()V" } : Jvm.MethodName) jdk_30_method_1_code (1 : Nat) (Option.none : Option Jvm.ClassFile.FieldType), Jvm.Cond.code ({ cls := "java/lang/Object", name := "<init>", desc := "()V" } : Jvm.MethodName) object_method_1_code (1 : Nat) (Option.none : Option Jvm.ClassFile.FieldType), Jvm.Cond.code ({ cls := "com/example/timed_cap/timedcap/model/Decision", name := "reason", desc := "()Lcom/example/timed_cap/timedcap/model/Reason;" } : Jvm.MethodName) prog_3_method_9_code (1 : Nat) (Option.some (Jvm.ClassFile.FieldType.object "com/example/timed_cap/timedcap/model/Reason")), Jvm.Cond.code ({ cls := "com/example/timed_cap/timedcap/model/Decision", name := "reached", desc := "()Lcom/example/timed_cap/timedcap/model/Reference;" } : Jvm.MethodName) prog_3_method_8_code (1 : Nat) (Option.some (Jvm.ClassFile.FieldType.object "com/example/timed_cap/timedcap/model/Reference")), Jvm.Cond.code ({ cls := "com/example/timed_cap/timedcap/model/Decision", name := "isGranted", desc := "()Z" } : Jvm.MethodName) prog_3_method_4_code (1 : Nat) (Option.some Jvm.ClassFile.FieldType.boolean)]
set_option maxRecDepth 65536 in
theorem codes_eq : words1.filter isCode = codes1 := rfl
theorem w_codes : ∀ c ∈ words1.filter isCode, c.before args0 about1 = true := by
  rw [codes_eq]
  intro c hc
  simp only [codes1, List.mem_cons, List.not_mem_nil, or_false] at hc
  rcases hc with rfl | rfl | rfl | rfl | rfl | rfl | rfl | rfl | rfl
  · exact w_c0
  · exact w_c1
  · exact w_c2
  · exact w_c3
  · exact w_c4
  · exact w_c5
  · exact w_c6
  · exact w_c7
  · exact w_c8
set_option maxRecDepth 65536 in
theorem w_t1 : (words1.take 24).all (fun c => isCode c || c.before args0 about1) = true := by decide +kernel
set_option maxRecDepth 65536 in
theorem w_t2 : ((words1.drop 24).take 24).all (fun c => isCode c || c.before args0 about1) = true := by decide +kernel
set_option maxRecDepth 65536 in
theorem w_t3 : (((words1.drop 24).drop 24).take 24).all (fun c => isCode c || c.before args0 about1) = true := by decide +kernel
set_option maxRecDepth 65536 in
theorem w_t4 : (((words1.drop 24).drop 24).drop 24).all (fun c => isCode c || c.before args0 about1) = true := by decide +kernel
theorem w_tables : (allAtoms (Jvm.Cond.code x code maxLocals ret :: tables_1)).before args0 about1 = true := by
  rw [allAtoms_all]
  show words1.all (fun c => c.before args0 about1) = true
  refine all_split ?_ w_codes
  rw [← List.take_append_drop 24 words1, List.all_append, w_t1, ← List.take_append_drop 24 (words1.drop 24), List.all_append, w_t2, ← List.take_append_drop 24 ((words1.drop 24).drop 24), List.all_append, w_t3, w_t4]
  rfl
set_option maxRecDepth 65536 in
theorem w_case : (Jvm.Cond.and given_1 narrow_1).before args0 about1 = true := by decide +kernel
theorem w_applies : (headSpec (Jvm.Cond.code x code maxLocals ret :: tables_1) room_1).applies x e0.platform about1 = true :=
  (Spec.applies_iff w_frames).mpr ⟨w_running, w_runnable, w_alone, w_named, w_hears, w_ripe, w_room, w_tables⟩
theorem atStart : AtStart classFile x code maxLocals ret World_1 tables_1 room_1 Calls_1 rest_1 Pre_1 launch0 p0 e0 about1 theMethod args0 below0 :=
  ⟨lists_1, trivial, launch0.admits_env _ _ _, launch0.least_env, fairChoices_fair.cas, fairChoices_fair.clock, w_frames, w_args, w_heap, w_applies, trivial, trivial, w_case⟩
end start1
theorem witness_1 : WitnessClaimed_1 := ⟨start1.p0, start1.e0, start1.about1, start1.theMethod, start1.args0, start1.below0, start1.atStart⟩
end Jvm.Pilot.@@N@@
