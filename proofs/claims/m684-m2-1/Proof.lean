import JvmDerived
import JvmDerived.Pilot.@@N@@Statement
import JvmDerived.Pilot.@@N@@Code
set_option linter.unusedVariables false
set_option linter.unusedSimpArgs false
@@BLOCK:NumsL.lean.txt@@
namespace Jvm.Pilot.@@N@@
open Jvm Jvm.ClassFile Sem Op Lib Jvm.Free Jvm.Stand Jvm.LawKit Jvm.RoadKit Bundle Jvm.Pilot.@@N@@.Jvm.D
section Own
variable {p : Program} {l : Launch} {e : Env} {R : Room} {s : State} {m : MethodId} {args : Array Value} {below : List Frame} {meth : Method} {c : Code} {T : State} {locs : List Loc} {cells slots : Nat}
def Go (p : Program) (e : Env) (below : List Frame) (F : State → Outcome → Prop) (t : State) : Prop := ∃ s₂ o, Steps p.tables e below t s₂ ∧ F s₂ o
theorem Go.via {F : State → Outcome → Prop} {a b : State} (h : ∀ t, Steps p.tables e below b t → Steps p.tables e below a t) (g : Go p e below F b) : Go p e below F a := by
  obtain ⟨s₂, o, k, f⟩ := g
  exact ⟨s₂, o, h _ k, f⟩
theorem Go.tr {F : State → Outcome → Prop} {a b : State} (h : Steps p.tables e below a b) (g : Go p e below F b) : Go p e below F a := by
  obtain ⟨s₂, o, k, f⟩ := g
  exact ⟨s₂, o, h.trans k, f⟩
def FinE (s : State) (below : List Frame) (Q : Option Value → Heap → List Loc → Prop) (C S : Nat) (s₂ : State) (o : Outcome) : Prop := s₂.status = .running ∧ Ended s₂ below o ∧ ∃ v L, o = .returned v ∧ Q v s₂.heap L ∧ FrameEnd s o s₂ L C S
variable {Q : Option Value → Heap → List Loc → Prop} {C S : Nat}
theorem own_retN (X : Stand p l e R s m args below meth c T locs cells slots) (hx : p.tables.exec = Jvm.exec) (hlk : meth.locks = false) {pc : Nat} {Ls : Array Slot} {z : Int32} {t : FieldType} {rest : List Value} (hret : meth.sig.returnType = some t) (ht : t = .boolean ∨ t = .byte ∨ t = .char ∨ t = .short)
    (hd : decode c.code pc = .ok (.ireturn, 1)) (hQ : Q (some (.int (nar t z))) T.heap locs) (hc : cells ≤ C) (hs : slots ≤ S) : Go p e below (FinE s below Q C S) (T.setTop (mkF m pc Ls (.int z :: rest))) := by
  obtain ⟨fs, hr, hrun, hended, hW, hsame⟩ := X.leave (v := some (.int (nar t z))) (fun h => by rw [hret] at h; cases h) hlk
  exact ⟨_, _, retN X hx hret ht hd hr, hrun, hended, _, _, rfl, hQ, ⟨_, rfl⟩, hW, hsame.mono hc hs⟩
theorem own_retI (X : Stand p l e R s m args below meth c T locs cells slots) (hx : p.tables.exec = Jvm.exec) (hlk : meth.locks = false) {pc : Nat} {Ls : Array Slot} {z : Int32} {rest : List Value} (hret : meth.sig.returnType = some .int)
    (hd : decode c.code pc = .ok (.ireturn, 1)) (hQ : Q (some (.int z)) T.heap locs) (hc : cells ≤ C) (hs : slots ≤ S) : Go p e below (FinE s below Q C S) (T.setTop (mkF m pc Ls (.int z :: rest))) := by
  obtain ⟨fs, hr, hrun, hended, hW, hsame⟩ := X.leave (v := some (.int z)) (fun h => by rw [hret] at h; cases h) hlk
  refine ⟨T.setFrames fs, _, ?_, hrun, hended, _, _, rfl, hQ, ⟨_, rfl⟩, hW, hsame.mono hc hs⟩
  have hm' : T.vm.method? m = some meth := X.method'
  have hn : narrow .int (.int z) = .int z := rfl
  show Steps p.tables e below (T.setTop { method := m, pc := pc, locals := Ls, stack := _ :: rest, locked := none }) _
  jvm_step X.here [X.here.top, hx, hd, hm', hret, hn]
  first | (intro acts; rw [hr _ acts rfl rfl rfl]) | rw [hr _ _ rfl rfl rfl]
  exact Steps.refl _
theorem own_retA (X : Stand p l e R s m args below meth c T locs cells slots) (hx : p.tables.exec = Jvm.exec) (hlk : meth.locks = false) {pc : Nat} {Ls : Array Slot} {v : Value} {rest : List Value} {t : FieldType} (hret : meth.sig.returnType = some t) (ht : t.isReference = true) (hv : v.isRef = true)
    (hd : decode c.code pc = .ok (.areturn, 1)) (hQ : Q (some v) T.heap locs) (hc : cells ≤ C) (hs : slots ≤ S) : Go p e below (FinE s below Q C S) (T.setTop (mkF m pc Ls (v :: rest))) := by
  obtain ⟨fs, hr, hrun, hended, hW, hsame⟩ := X.leave (v := some v) (fun h => by rw [hret] at h; cases h) hlk
  refine ⟨T.setFrames fs, _, ?_, hrun, hended, _, _, rfl, hQ, ⟨_, rfl⟩, hW, hsame.mono hc hs⟩
  have hm' : T.vm.method? m = some meth := X.method'
  show Steps p.tables e below (T.setTop { method := m, pc := pc, locals := Ls, stack := _ :: rest, locked := none }) _
  jvm_step X.here [X.here.top, hx, hd, hm', hret, hv, ht]
  first | (intro acts; rw [hr _ acts rfl rfl rfl]) | rw [hr _ _ rfl rfl rfl]
  exact Steps.refl _
theorem own_retV (X : Stand p l e R s m args below meth c T locs cells slots) (hx : p.tables.exec = Jvm.exec) (hlk : meth.locks = false) {pc : Nat} {Ls : Array Slot} (hret : meth.sig.returnType = none)
    (hd : decode c.code pc = .ok (.return_, 1)) (hQ : Q none T.heap locs) (hc : cells ≤ C) (hs : slots ≤ S) : Go p e below (FinE s below Q C S) (T.setTop (mkF m pc Ls [])) := by
  obtain ⟨fs, hr, hrun, hended, hW, hsame⟩ := X.leave (v := none) (fun _ => rfl) hlk
  exact ⟨T.setFrames fs, _, X.returnOut hx hret hd hr, hrun, hended, _, _, rfl, hQ, ⟨_, rfl⟩, hW, hsame.mono hc hs⟩
def FinW (s : State) (below : List Frame) (Q : Option Value → Heap → List Loc → Prop) (C S : Nat) (s₂ : State) (o : Outcome) : Prop := s₂.status = .running ∧ Ended s₂ below o ∧ ∃ v L, o = .returned v ∧ Q v s₂.heap L ∧ ReturnedEndW s o s₂ L C S
theorem own_mono {s t : State} {o : Outcome} {L : List Loc} {k n k' n' : Nat} (h : ReturnedEndW s o t L k n) (hk : k ≤ k') (hn : n ≤ n') : ReturnedEndW s o t L k' n' := ⟨h.1, h.2.1, h.2.2.1, h.2.2.2.mono hk hn⟩
theorem own_retNW {vm₁ : Vm} {kk : Nat} (X : Stand p l e R (s.setVm vm₁) m args below meth c T locs cells slots) (hS : s.Since vm₁ kk) (hk : kk ≤ T.heap.size) (hx : p.tables.exec = Jvm.exec) (hlk : meth.locks = false) {pc : Nat} {Ls : Array Slot} {z : Int32} {t : FieldType} {rest : List Value} (hret : meth.sig.returnType = some t) (ht : t = .boolean ∨ t = .byte ∨ t = .char ∨ t = .short)
    (hd : decode c.code pc = .ok (.ireturn, 1)) (hQ : Q (some (.int (nar t z))) T.heap locs) (hc : cells ≤ C) (hs : slots ≤ S) : Go p e below (FinW s below Q C S) (T.setTop (mkF m pc Ls (.int z :: rest))) := by
  obtain ⟨fs, hr, hrun, hended, hW⟩ := X.leaveW hS hk (v := some (.int (nar t z))) (fun h => by rw [hret] at h; cases h) hlk
  exact ⟨_, _, retN X hx hret ht hd hr, hrun, hended, _, _, rfl, hQ, own_mono hW hc hs⟩
theorem own_retAW {vm₁ : Vm} {kk : Nat} (X : Stand p l e R (s.setVm vm₁) m args below meth c T locs cells slots) (hS : s.Since vm₁ kk) (hk : kk ≤ T.heap.size) (hx : p.tables.exec = Jvm.exec) (hlk : meth.locks = false) {pc : Nat} {Ls : Array Slot} {v : Value} {rest : List Value} {t : FieldType} (hret : meth.sig.returnType = some t) (ht : t.isReference = true) (hv : v.isRef = true)
    (hd : decode c.code pc = .ok (.areturn, 1)) (hQ : Q (some v) T.heap locs) (hc : cells ≤ C) (hs : slots ≤ S) : Go p e below (FinW s below Q C S) (T.setTop (mkF m pc Ls (v :: rest))) := by
  obtain ⟨fs, hr, hrun, hended, hW⟩ := X.leaveW hS hk (v := some v) (fun h => by rw [hret] at h; cases h) hlk
  refine ⟨T.setFrames fs, _, ?_, hrun, hended, _, _, rfl, hQ, own_mono hW hc hs⟩
  have hm' : T.vm.method? m = some meth := X.method'
  show Steps p.tables e below (T.setTop { method := m, pc := pc, locals := Ls, stack := _ :: rest, locked := none }) _
  jvm_step X.here [X.here.top, hx, hd, hm', hret, hv, ht]
  first | (intro acts; rw [hr _ acts rfl rfl rfl]) | rw [hr _ _ rfl rfl rfl]
  exact Steps.refl _
theorem own_retVW {vm₁ : Vm} {kk : Nat} (X : Stand p l e R (s.setVm vm₁) m args below meth c T locs cells slots) (hS : s.Since vm₁ kk) (hk : kk ≤ T.heap.size) (hx : p.tables.exec = Jvm.exec) (hlk : meth.locks = false) {pc : Nat} {Ls : Array Slot} (hret : meth.sig.returnType = none)
    (hd : decode c.code pc = .ok (.return_, 1)) (hQ : Q none T.heap locs) (hc : cells ≤ C) (hs : slots ≤ S) : Go p e below (FinW s below Q C S) (T.setTop (mkF m pc Ls [])) := by
  obtain ⟨fs, hr, hrun, hended, hW⟩ := X.leaveW hS hk (v := none) (fun _ => rfl) hlk
  exact ⟨T.setFrames fs, _, X.returnOut hx hret hd hr, hrun, hended, _, _, rfl, hQ, own_mono hW hc hs⟩
theorem own_cat {v : Value} (h : v.isRef = true) : v.category = 1 := by cases v <;> simp_all [Value.isRef, Value.category]
end Own
theorem d6_0 : decode method_3_code 0 = .ok (.iload_n 0, 1) := by decide +kernel
theorem d6_1 : decode method_3_code 1 = .ok (.ifCond .ne 7, 3) := by decide +kernel
theorem d6_4 : decode method_3_code 4 = .ok (.getstatic 37, 3) := by decide +kernel
theorem d6_7 : decode method_3_code 7 = .ok (.areturn, 1) := by decide +kernel
theorem pn_com_example_permits_from_duties_permitsfromduties_EventPerformerPinLaw : plainName "com/example/permits_from_duties/permitsfromduties/EventPerformerPinLaw" = true := by first | (simp [plainName, overriddenIn]; done) | decide +kernel
theorem d6_8 : decode method_3_code 8 = .ok (.iload_n 0, 1) := by decide +kernel
theorem d6_9 : decode method_3_code 9 = .ok (.iconst 1, 1) := by decide +kernel
theorem d6_10 : decode method_3_code 10 = .ok (.if_icmp .ne 7, 3) := by decide +kernel
theorem d6_13 : decode method_3_code 13 = .ok (.getstatic 43, 3) := by decide +kernel
theorem d6_16 : decode method_3_code 16 = .ok (.areturn, 1) := by decide +kernel
theorem d6_17 : decode method_3_code 17 = .ok (.iload_n 0, 1) := by decide +kernel
theorem d6_18 : decode method_3_code 18 = .ok (.iconst 2, 1) := by decide +kernel
theorem d6_19 : decode method_3_code 19 = .ok (.if_icmp .ne 7, 3) := by decide +kernel
theorem d6_22 : decode method_3_code 22 = .ok (.getstatic 46, 3) := by decide +kernel
theorem d6_25 : decode method_3_code 25 = .ok (.areturn, 1) := by decide +kernel
theorem d6_26 : decode method_3_code 26 = .ok (.iload_n 0, 1) := by decide +kernel
theorem d6_27 : decode method_3_code 27 = .ok (.iconst 3, 1) := by decide +kernel
theorem d6_28 : decode method_3_code 28 = .ok (.if_icmp .ne 7, 3) := by decide +kernel
theorem d6_31 : decode method_3_code 31 = .ok (.getstatic 49, 3) := by decide +kernel
theorem d6_34 : decode method_3_code 34 = .ok (.areturn, 1) := by decide +kernel
theorem d6_35 : decode method_3_code 35 = .ok (.iload_n 0, 1) := by decide +kernel
theorem d6_36 : decode method_3_code 36 = .ok (.iconst 4, 1) := by decide +kernel
theorem d6_37 : decode method_3_code 37 = .ok (.if_icmp .ne 7, 3) := by decide +kernel
theorem d6_40 : decode method_3_code 40 = .ok (.getstatic 52, 3) := by decide +kernel
theorem d6_43 : decode method_3_code 43 = .ok (.areturn, 1) := by decide +kernel
theorem d6_44 : decode method_3_code 44 = .ok (.iload_n 0, 1) := by decide +kernel
theorem d6_45 : decode method_3_code 45 = .ok (.iconst 5, 1) := by decide +kernel
theorem d6_46 : decode method_3_code 46 = .ok (.if_icmp .ne 7, 3) := by decide +kernel
theorem d6_49 : decode method_3_code 49 = .ok (.getstatic 55, 3) := by decide +kernel
theorem d6_52 : decode method_3_code 52 = .ok (.areturn, 1) := by decide +kernel
theorem d6_53 : decode method_3_code 53 = .ok (.iload_n 0, 1) := by decide +kernel
theorem d6_54 : decode method_3_code 54 = .ok (.bipush 6, 2) := by decide +kernel
theorem d6_56 : decode method_3_code 56 = .ok (.if_icmp .ne 7, 3) := by decide +kernel
theorem d6_59 : decode method_3_code 59 = .ok (.getstatic 58, 3) := by decide +kernel
theorem d6_62 : decode method_3_code 62 = .ok (.areturn, 1) := by decide +kernel
theorem d6_63 : decode method_3_code 63 = .ok (.iload_n 0, 1) := by decide +kernel
theorem d6_64 : decode method_3_code 64 = .ok (.bipush 7, 2) := by decide +kernel
theorem d6_66 : decode method_3_code 66 = .ok (.if_icmp .ne 7, 3) := by decide +kernel
theorem d6_69 : decode method_3_code 69 = .ok (.getstatic 61, 3) := by decide +kernel
theorem d6_72 : decode method_3_code 72 = .ok (.areturn, 1) := by decide +kernel
theorem d6_73 : decode method_3_code 73 = .ok (.iload_n 0, 1) := by decide +kernel
theorem d6_74 : decode method_3_code 74 = .ok (.bipush 8, 2) := by decide +kernel
theorem d6_76 : decode method_3_code 76 = .ok (.if_icmp .ne 7, 3) := by decide +kernel
theorem d6_79 : decode method_3_code 79 = .ok (.getstatic 64, 3) := by decide +kernel
theorem d6_82 : decode method_3_code 82 = .ok (.areturn, 1) := by decide +kernel
theorem d6_83 : decode method_3_code 83 = .ok (.iload_n 0, 1) := by decide +kernel
theorem d6_84 : decode method_3_code 84 = .ok (.bipush 9, 2) := by decide +kernel
theorem d6_86 : decode method_3_code 86 = .ok (.if_icmp .ne 7, 3) := by decide +kernel
theorem d6_89 : decode method_3_code 89 = .ok (.getstatic 67, 3) := by decide +kernel
theorem d6_92 : decode method_3_code 92 = .ok (.areturn, 1) := by decide +kernel
theorem d6_93 : decode method_3_code 93 = .ok (.iload_n 0, 1) := by decide +kernel
theorem d6_94 : decode method_3_code 94 = .ok (.bipush 10, 2) := by decide +kernel
theorem d6_96 : decode method_3_code 96 = .ok (.if_icmp .ne 7, 3) := by decide +kernel
theorem d6_99 : decode method_3_code 99 = .ok (.getstatic 70, 3) := by decide +kernel
theorem d6_102 : decode method_3_code 102 = .ok (.areturn, 1) := by decide +kernel
theorem d6_103 : decode method_3_code 103 = .ok (.iload_n 0, 1) := by decide +kernel
theorem d6_104 : decode method_3_code 104 = .ok (.bipush 11, 2) := by decide +kernel
theorem d6_106 : decode method_3_code 106 = .ok (.if_icmp .ne 7, 3) := by decide +kernel
theorem d6_109 : decode method_3_code 109 = .ok (.getstatic 73, 3) := by decide +kernel
theorem d6_112 : decode method_3_code 112 = .ok (.areturn, 1) := by decide +kernel
theorem d6_113 : decode method_3_code 113 = .ok (.getstatic 76, 3) := by decide +kernel
theorem d6_116 : decode method_3_code 116 = .ok (.areturn, 1) := by decide +kernel
theorem d9_0 : decode jdk_30_method_1_code 0 = .ok (.aload_n 0, 1) := by decide +kernel
theorem d9_1 : decode jdk_30_method_1_code 1 = .ok (.invokespecial 1, 3) := by decide +kernel
theorem d9_4 : decode jdk_30_method_1_code 4 = .ok (.return_, 1) := by decide +kernel
theorem pn_java_lang_Record : plainName "java/lang/Record" = true := by first | (simp [plainName, overriddenIn]; done) | decide +kernel
theorem d10_0 : decode jdk_31_method_11_code 0 = .ok (.aload_n 0, 1) := by decide +kernel
theorem d10_1 : decode jdk_31_method_11_code 1 = .ok (.ifnonnull 12, 3) := by decide +kernel
theorem d10_13 : decode jdk_31_method_11_code 13 = .ok (.aload_n 0, 1) := by decide +kernel
theorem d10_14 : decode jdk_31_method_11_code 14 = .ok (.areturn, 1) := by decide +kernel
theorem pn_java_util_Objects : plainName "java/util/Objects" = true := by first | (simp [plainName, overriddenIn]; done) | decide +kernel
theorem d11_0 : decode jdk_72_method_26_code 0 = .ok (.getstatic 81, 3) := by decide +kernel
theorem d11_3 : decode jdk_72_method_26_code 3 = .ok (.areturn, 1) := by decide +kernel
theorem pn_java_util_Map : plainName "java/util/Map" = true := by first | (simp [plainName, overriddenIn]; done) | decide +kernel
theorem d8_0 : decode prog_27_method_1_code 0 = .ok (.aload_n 0, 1) := by decide +kernel
theorem d8_1 : decode prog_27_method_1_code 1 = .ok (.invokespecial 1, 3) := by decide +kernel
theorem pd_0 : parseMethodDescriptor "()V" = some ⟨[], none⟩ := by decide +kernel
theorem d8_4 : decode prog_27_method_1_code 4 = .ok (.aload_n 1, 1) := by decide +kernel
theorem d8_5 : decode prog_27_method_1_code 5 = .ok (.ldc 7, 2) := by decide +kernel
theorem d8_7 : decode prog_27_method_1_code 7 = .ok (.invokestatic 9, 3) := by decide +kernel
theorem pd_1 : parseMethodDescriptor "(Ljava/lang/Object;Ljava/lang/String;)Ljava/lang/Object;" = some ⟨[(.object "java/lang/Object"), (.object "java/lang/String")], some (.object "java/lang/Object")⟩ := by decide +kernel
theorem d8_10 : decode prog_27_method_1_code 10 = .ok (.pop, 1) := by decide +kernel
theorem d8_11 : decode prog_27_method_1_code 11 = .ok (.aload 4, 2) := by decide +kernel
theorem d8_13 : decode prog_27_method_1_code 13 = .ok (.ldc 15, 2) := by decide +kernel
theorem d8_15 : decode prog_27_method_1_code 15 = .ok (.invokestatic 9, 3) := by decide +kernel
theorem d8_18 : decode prog_27_method_1_code 18 = .ok (.pop, 1) := by decide +kernel
theorem d8_19 : decode prog_27_method_1_code 19 = .ok (.aload 6, 2) := by decide +kernel
theorem d8_21 : decode prog_27_method_1_code 21 = .ok (.ifnonnull 9, 3) := by decide +kernel
theorem d8_24 : decode prog_27_method_1_code 24 = .ok (.invokestatic 17, 3) := by decide +kernel
theorem pd_2 : parseMethodDescriptor "()Ljava/util/Map;" = some ⟨[], some (.object "java/util/Map")⟩ := by decide +kernel
theorem d8_27 : decode prog_27_method_1_code 27 = .ok (.goto 8, 3) := by decide +kernel
theorem d8_35 : decode prog_27_method_1_code 35 = .ok (.astore 6, 2) := by decide +kernel
theorem d8_37 : decode prog_27_method_1_code 37 = .ok (.aload_n 0, 1) := by decide +kernel
theorem d8_38 : decode prog_27_method_1_code 38 = .ok (.aload_n 1, 1) := by decide +kernel
theorem d8_39 : decode prog_27_method_1_code 39 = .ok (.putfield 27, 3) := by decide +kernel
theorem d8_42 : decode prog_27_method_1_code 42 = .ok (.aload_n 0, 1) := by decide +kernel
theorem d8_43 : decode prog_27_method_1_code 43 = .ok (.aload_n 2, 1) := by decide +kernel
theorem d8_44 : decode prog_27_method_1_code 44 = .ok (.putfield 32, 3) := by decide +kernel
theorem d8_47 : decode prog_27_method_1_code 47 = .ok (.aload_n 0, 1) := by decide +kernel
theorem d8_48 : decode prog_27_method_1_code 48 = .ok (.aload_n 3, 1) := by decide +kernel
theorem d8_49 : decode prog_27_method_1_code 49 = .ok (.putfield 35, 3) := by decide +kernel
theorem d8_52 : decode prog_27_method_1_code 52 = .ok (.aload_n 0, 1) := by decide +kernel
theorem d8_53 : decode prog_27_method_1_code 53 = .ok (.aload 4, 2) := by decide +kernel
theorem d8_55 : decode prog_27_method_1_code 55 = .ok (.putfield 39, 3) := by decide +kernel
theorem d8_58 : decode prog_27_method_1_code 58 = .ok (.aload_n 0, 1) := by decide +kernel
theorem d8_59 : decode prog_27_method_1_code 59 = .ok (.aload 5, 2) := by decide +kernel
theorem d8_61 : decode prog_27_method_1_code 61 = .ok (.putfield 42, 3) := by decide +kernel
theorem d8_64 : decode prog_27_method_1_code 64 = .ok (.aload_n 0, 1) := by decide +kernel
theorem d8_65 : decode prog_27_method_1_code 65 = .ok (.aload 6, 2) := by decide +kernel
theorem d8_67 : decode prog_27_method_1_code 67 = .ok (.putfield 45, 3) := by decide +kernel
theorem d8_70 : decode prog_27_method_1_code 70 = .ok (.return_, 1) := by decide +kernel
theorem pn_com_example_permits_from_duties_permitsfromduties_Event : plainName "com/example/permits_from_duties/permitsfromduties/Event" = true := by first | (simp [plainName, overriddenIn]; done) | decide +kernel
theorem d7_0 : decode prog_27_method_2_code 0 = .ok (.aload_n 0, 1) := by decide +kernel
theorem d7_1 : decode prog_27_method_2_code 1 = .ok (.aload_n 1, 1) := by decide +kernel
theorem d7_2 : decode prog_27_method_2_code 2 = .ok (.aload_n 2, 1) := by decide +kernel
theorem d7_3 : decode prog_27_method_2_code 3 = .ok (.aload_n 3, 1) := by decide +kernel
theorem d7_4 : decode prog_27_method_2_code 4 = .ok (.aload 4, 2) := by decide +kernel
theorem d7_6 : decode prog_27_method_2_code 6 = .ok (.aconst_null, 1) := by decide +kernel
theorem d7_7 : decode prog_27_method_2_code 7 = .ok (.aconst_null, 1) := by decide +kernel
theorem d7_8 : decode prog_27_method_2_code 8 = .ok (.invokespecial 49, 3) := by decide +kernel
theorem pd_3 : parseMethodDescriptor "(Ljava/lang/String;Ljava/lang/String;Ljava/time/Instant;Lcom/example/permits_from_duties/permitsfromduties/Event$Transition;Ljava/lang/String;Ljava/util/Map;)V" = some ⟨[(.object "java/lang/String"), (.object "java/lang/String"), (.object "java/time/Instant"), (.object "com/example/permits_from_duties/permitsfromduties/Event$Transition"), (.object "java/lang/String"), (.object "java/util/Map")], none⟩ := by decide +kernel
theorem d7_11 : decode prog_27_method_2_code 11 = .ok (.return_, 1) := by decide +kernel
theorem d21_0 : decode prog_27_method_3_code 0 = .ok (.aload_n 0, 1) := by decide +kernel
theorem d21_1 : decode prog_27_method_3_code 1 = .ok (.aload_n 1, 1) := by decide +kernel
theorem d21_2 : decode prog_27_method_3_code 2 = .ok (.aload_n 2, 1) := by decide +kernel
theorem d21_3 : decode prog_27_method_3_code 3 = .ok (.aload_n 3, 1) := by decide +kernel
theorem d21_4 : decode prog_27_method_3_code 4 = .ok (.getstatic 52, 3) := by decide +kernel
theorem d21_7 : decode prog_27_method_3_code 7 = .ok (.invokespecial 57, 3) := by decide +kernel
theorem pd_4 : parseMethodDescriptor "(Ljava/lang/String;Ljava/lang/String;Ljava/time/Instant;Lcom/example/permits_from_duties/permitsfromduties/Event$Transition;)V" = some ⟨[(.object "java/lang/String"), (.object "java/lang/String"), (.object "java/time/Instant"), (.object "com/example/permits_from_duties/permitsfromduties/Event$Transition")], none⟩ := by decide +kernel
theorem d21_10 : decode prog_27_method_3_code 10 = .ok (.return_, 1) := by decide +kernel
theorem d20_0 : decode prog_27_method_4_code 0 = .ok (.aload_n 0, 1) := by decide +kernel
theorem d20_1 : decode prog_27_method_4_code 1 = .ok (.aload_n 1, 1) := by decide +kernel
theorem d20_2 : decode prog_27_method_4_code 2 = .ok (.aload_n 2, 1) := by decide +kernel
theorem d20_3 : decode prog_27_method_4_code 3 = .ok (.aconst_null, 1) := by decide +kernel
theorem d20_4 : decode prog_27_method_4_code 4 = .ok (.invokespecial 60, 3) := by decide +kernel
theorem pd_5 : parseMethodDescriptor "(Ljava/lang/String;Ljava/lang/String;Ljava/time/Instant;)V" = some ⟨[(.object "java/lang/String"), (.object "java/lang/String"), (.object "java/time/Instant")], none⟩ := by decide +kernel
theorem d20_7 : decode prog_27_method_4_code 7 = .ok (.return_, 1) := by decide +kernel
theorem d14_0 : decode prog_28_method_5_code 0 = .ok (.aload_n 0, 1) := by decide +kernel
theorem d14_1 : decode prog_28_method_5_code 1 = .ok (.getfield 66, 3) := by decide +kernel
theorem d14_4 : decode prog_28_method_5_code 4 = .ok (.ireturn, 1) := by decide +kernel
theorem pn_com_example_permits_from_duties_permitsfromduties_Event_Transition : plainName "com/example/permits_from_duties/permitsfromduties/Event$Transition" = true := by first | (simp [plainName, overriddenIn]; done) | decide +kernel
theorem d13_0 : decode prog_27_method_5_code 0 = .ok (.aload_n 0, 1) := by decide +kernel
theorem d13_1 : decode prog_27_method_5_code 1 = .ok (.getfield 39, 3) := by decide +kernel
theorem d13_4 : decode prog_27_method_5_code 4 = .ok (.invokevirtual 63, 3) := by decide +kernel
theorem pd_6 : parseMethodDescriptor "()Z" = some ⟨[], some .boolean⟩ := by decide +kernel
theorem d13_7 : decode prog_27_method_5_code 7 = .ok (.ireturn, 1) := by decide +kernel
theorem d12_0 : decode prog_27_method_6_code 0 = .ok (.aload_n 0, 1) := by decide +kernel
theorem d12_1 : decode prog_27_method_6_code 1 = .ok (.invokevirtual 67, 3) := by decide +kernel
theorem d12_4 : decode prog_27_method_6_code 4 = .ok (.ifCond .eq 10, 3) := by decide +kernel
theorem d12_14 : decode prog_27_method_6_code 14 = .ok (.aconst_null, 1) := by decide +kernel
theorem d12_15 : decode prog_27_method_6_code 15 = .ok (.areturn, 1) := by decide +kernel
theorem d12_7 : decode prog_27_method_6_code 7 = .ok (.aload_n 0, 1) := by decide +kernel
theorem d12_8 : decode prog_27_method_6_code 8 = .ok (.getfield 32, 3) := by decide +kernel
theorem d12_11 : decode prog_27_method_6_code 11 = .ok (.goto 4, 3) := by decide +kernel
theorem d2_0 : decode jdk_43_method_3_code 0 = .ok (.iload_n 0, 1) := by decide +kernel
theorem d2_1 : decode jdk_43_method_3_code 1 = .ok (.sipush 255, 3) := by decide +kernel
theorem d2_4 : decode jdk_43_method_3_code 4 = .ok (.if_icmp .gt 7, 3) := by decide +kernel
theorem d2_7 : decode jdk_43_method_3_code 7 = .ok (.iconst 1, 1) := by decide +kernel
theorem d2_8 : decode jdk_43_method_3_code 8 = .ok (.goto 4, 3) := by decide +kernel
theorem d2_12 : decode jdk_43_method_3_code 12 = .ok (.ireturn, 1) := by decide +kernel
theorem pn_java_lang_StringLatin1 : plainName "java/lang/StringLatin1" = true := by first | (simp [plainName, overriddenIn]; done) | decide +kernel
theorem d4_0 : decode jdk_42_method_151_code 0 = .ok (.aload_n 0, 1) := by decide +kernel
theorem d4_1 : decode jdk_42_method_151_code 1 = .ok (.invokespecial 1, 3) := by decide +kernel
theorem d4_4 : decode jdk_42_method_151_code 4 = .ok (.aload_n 0, 1) := by decide +kernel
theorem d4_5 : decode jdk_42_method_151_code 5 = .ok (.aload_n 1, 1) := by decide +kernel
theorem d4_6 : decode jdk_42_method_151_code 6 = .ok (.putfield 9, 3) := by decide +kernel
theorem d4_9 : decode jdk_42_method_151_code 9 = .ok (.aload_n 0, 1) := by decide +kernel
theorem d4_10 : decode jdk_42_method_151_code 10 = .ok (.iload_n 2, 1) := by decide +kernel
theorem d4_11 : decode jdk_42_method_151_code 11 = .ok (.putfield 15, 3) := by decide +kernel
theorem d4_14 : decode jdk_42_method_151_code 14 = .ok (.return_, 1) := by decide +kernel
theorem pn_java_lang_String : plainName "java/lang/String" = true := by first | (simp [plainName, overriddenIn]; done) | decide +kernel
theorem d3_0 : decode jdk_43_method_46_code 0 = .ok (.iconst 1, 1) := by decide +kernel
theorem d3_1 : decode jdk_43_method_46_code 1 = .ok (.newarray .byte, 2) := by decide +kernel
theorem d3_3 : decode jdk_43_method_46_code 3 = .ok (.dup, 1) := by decide +kernel
theorem d3_4 : decode jdk_43_method_46_code 4 = .ok (.iconst 0, 1) := by decide +kernel
theorem d3_5 : decode jdk_43_method_46_code 5 = .ok (.iload_n 0, 1) := by decide +kernel
theorem d3_6 : decode jdk_43_method_46_code 6 = .ok (.i2b, 1) := by decide +kernel
theorem d3_7 : decode jdk_43_method_46_code 7 = .ok (.bastore, 1) := by decide +kernel
theorem d3_8 : decode jdk_43_method_46_code 8 = .ok (.areturn, 1) := by decide +kernel
theorem d1_0 : decode jdk_42_method_139_code 0 = .ok (.getstatic 38, 3) := by decide +kernel
theorem d1_3 : decode jdk_42_method_139_code 3 = .ok (.ifCond .eq 23, 3) := by decide +kernel
theorem d1_6 : decode jdk_42_method_139_code 6 = .ok (.iload_n 0, 1) := by decide +kernel
theorem d1_7 : decode jdk_42_method_139_code 7 = .ok (.invokestatic 1015, 3) := by decide +kernel
theorem pd_7 : parseMethodDescriptor "(C)Z" = some ⟨[.char], some .boolean⟩ := by decide +kernel
theorem d1_10 : decode jdk_42_method_139_code 10 = .ok (.ifCond .eq 16, 3) := by decide +kernel
theorem d1_13 : decode jdk_42_method_139_code 13 = .ok (.new 10, 3) := by decide +kernel
theorem d1_16 : decode jdk_42_method_139_code 16 = .ok (.dup, 1) := by decide +kernel
theorem d1_17 : decode jdk_42_method_139_code 17 = .ok (.iload_n 0, 1) := by decide +kernel
theorem d1_18 : decode jdk_42_method_139_code 18 = .ok (.invokestatic 1018, 3) := by decide +kernel
theorem pd_8 : parseMethodDescriptor "(C)[B" = some ⟨[.char], some (.array .byte)⟩ := by decide +kernel
theorem d1_21 : decode jdk_42_method_139_code 21 = .ok (.iconst 0, 1) := by decide +kernel
theorem d1_22 : decode jdk_42_method_139_code 22 = .ok (.invokespecial 209, 3) := by decide +kernel
theorem pd_9 : parseMethodDescriptor "([BB)V" = some ⟨[(.array .byte), .byte], none⟩ := by decide +kernel
theorem d1_25 : decode jdk_42_method_139_code 25 = .ok (.areturn, 1) := by decide +kernel
theorem pd_10 : parseMethodDescriptor "(C)Ljava/lang/String;" = some ⟨[.char], some (.object "java/lang/String")⟩ := by decide +kernel
theorem pd_11 : parseMethodDescriptor "(Ljava/lang/String;Ljava/lang/String;)V" = some ⟨[(.object "java/lang/String"), (.object "java/lang/String")], none⟩ := by decide +kernel
theorem pd_12 : parseMethodDescriptor "()Ljava/lang/String;" = some ⟨[], some (.object "java/lang/String")⟩ := by decide +kernel
theorem pd_13 : parseMethodDescriptor "(I)Lcom/example/permits_from_duties/permitsfromduties/Event$Transition;" = some ⟨[.int], some (.object "com/example/permits_from_duties/permitsfromduties/Event$Transition")⟩ := by decide +kernel
theorem d18_0 : decode jdk_52_method_21_code 0 = .ok (.iconst 0, 1) := by decide +kernel
theorem d18_1 : decode jdk_52_method_21_code 1 = .ok (.istore 5, 2) := by decide +kernel
theorem d18_3 : decode jdk_52_method_21_code 3 = .ok (.iload 5, 2) := by decide +kernel
theorem d18_5 : decode jdk_52_method_21_code 5 = .ok (.iload 4, 2) := by decide +kernel
theorem d18_7 : decode jdk_52_method_21_code 7 = .ok (.if_icmp .ge 37, 3) := by decide +kernel
theorem d18_10 : decode jdk_52_method_21_code 10 = .ok (.aload_n 0, 1) := by decide +kernel
theorem d18_11 : decode jdk_52_method_21_code 11 = .ok (.iload_n 1, 1) := by decide +kernel
theorem d18_12 : decode jdk_52_method_21_code 12 = .ok (.caload, 1) := by decide +kernel
theorem d18_13 : decode jdk_52_method_21_code 13 = .ok (.istore 6, 2) := by decide +kernel
theorem d18_15 : decode jdk_52_method_21_code 15 = .ok (.iload 6, 2) := by decide +kernel
theorem d18_17 : decode jdk_52_method_21_code 17 = .ok (.sipush 255, 3) := by decide +kernel
theorem d18_20 : decode jdk_52_method_21_code 20 = .ok (.if_icmp .le 6, 3) := by decide +kernel
theorem d18_26 : decode jdk_52_method_21_code 26 = .ok (.aload_n 2, 1) := by decide +kernel
theorem d18_27 : decode jdk_52_method_21_code 27 = .ok (.iload_n 3, 1) := by decide +kernel
theorem d18_28 : decode jdk_52_method_21_code 28 = .ok (.iload 6, 2) := by decide +kernel
theorem d18_30 : decode jdk_52_method_21_code 30 = .ok (.i2b, 1) := by decide +kernel
theorem d18_31 : decode jdk_52_method_21_code 31 = .ok (.bastore, 1) := by decide +kernel
theorem d18_32 : decode jdk_52_method_21_code 32 = .ok (.iinc 1 1, 3) := by decide +kernel
theorem d18_35 : decode jdk_52_method_21_code 35 = .ok (.iinc 3 1, 3) := by decide +kernel
theorem d18_38 : decode jdk_52_method_21_code 38 = .ok (.iinc 5 1, 3) := by decide +kernel
theorem d18_41 : decode jdk_52_method_21_code 41 = .ok (.goto (-38), 3) := by decide +kernel
theorem d18_44 : decode jdk_52_method_21_code 44 = .ok (.iload 4, 2) := by decide +kernel
theorem d18_46 : decode jdk_52_method_21_code 46 = .ok (.ireturn, 1) := by decide +kernel
theorem pn_java_lang_StringUTF16 : plainName "java/lang/StringUTF16" = true := by first | (simp [plainName, overriddenIn]; done) | decide +kernel
theorem d17_0 : decode jdk_52_method_16_code 0 = .ok (.iload_n 2, 1) := by decide +kernel
theorem d17_1 : decode jdk_52_method_16_code 1 = .ok (.newarray .byte, 2) := by decide +kernel
theorem d17_3 : decode jdk_52_method_16_code 3 = .ok (.astore_n 3, 1) := by decide +kernel
theorem d17_4 : decode jdk_52_method_16_code 4 = .ok (.aload_n 0, 1) := by decide +kernel
theorem d17_5 : decode jdk_52_method_16_code 5 = .ok (.iload_n 1, 1) := by decide +kernel
theorem d17_6 : decode jdk_52_method_16_code 6 = .ok (.aload_n 3, 1) := by decide +kernel
theorem d17_7 : decode jdk_52_method_16_code 7 = .ok (.iconst 0, 1) := by decide +kernel
theorem d17_8 : decode jdk_52_method_16_code 8 = .ok (.iload_n 2, 1) := by decide +kernel
theorem d17_9 : decode jdk_52_method_16_code 9 = .ok (.invokestatic 115, 3) := by decide +kernel
theorem pd_14 : parseMethodDescriptor "([CI[BII)I" = some ⟨[(.array .char), .int, (.array .byte), .int, .int], some .int⟩ := by decide +kernel
theorem d17_12 : decode jdk_52_method_16_code 12 = .ok (.istore 4, 2) := by decide +kernel
theorem d17_14 : decode jdk_52_method_16_code 14 = .ok (.iload 4, 2) := by decide +kernel
theorem d17_16 : decode jdk_52_method_16_code 16 = .ok (.iload_n 2, 1) := by decide +kernel
theorem d17_17 : decode jdk_52_method_16_code 17 = .ok (.if_icmp .eq 40, 3) := by decide +kernel
theorem d17_57 : decode jdk_52_method_16_code 57 = .ok (.aload_n 3, 1) := by decide +kernel
theorem d17_58 : decode jdk_52_method_16_code 58 = .ok (.areturn, 1) := by decide +kernel
theorem d19_0 : decode jdk_52_method_15_code 0 = .ok (.iload_n 1, 1) := by decide +kernel
theorem d19_1 : decode jdk_52_method_15_code 1 = .ok (.aload_n 0, 1) := by decide +kernel
theorem d19_2 : decode jdk_52_method_15_code 2 = .ok (.arraylength, 1) := by decide +kernel
theorem d19_3 : decode jdk_52_method_15_code 3 = .ok (.isub, 1) := by decide +kernel
theorem d19_4 : decode jdk_52_method_15_code 4 = .ok (.bipush 31, 2) := by decide +kernel
theorem d19_6 : decode jdk_52_method_15_code 6 = .ok (.iushr, 1) := by decide +kernel
theorem d19_7 : decode jdk_52_method_15_code 7 = .ok (.i2b, 1) := by decide +kernel
theorem d19_8 : decode jdk_52_method_15_code 8 = .ok (.ireturn, 1) := by decide +kernel
theorem d16_0 : decode jdk_42_method_149_code 0 = .ok (.aload_n 0, 1) := by decide +kernel
theorem d16_1 : decode jdk_42_method_149_code 1 = .ok (.invokespecial 1, 3) := by decide +kernel
theorem d16_4 : decode jdk_42_method_149_code 4 = .ok (.iload_n 3, 1) := by decide +kernel
theorem d16_5 : decode jdk_42_method_149_code 5 = .ok (.ifCond .ne 22, 3) := by decide +kernel
theorem d16_27 : decode jdk_42_method_149_code 27 = .ok (.getstatic 38, 3) := by decide +kernel
theorem d16_30 : decode jdk_42_method_149_code 30 = .ok (.ifCond .eq 28, 3) := by decide +kernel
theorem d16_33 : decode jdk_42_method_149_code 33 = .ok (.aload_n 1, 1) := by decide +kernel
theorem d16_34 : decode jdk_42_method_149_code 34 = .ok (.iload_n 2, 1) := by decide +kernel
theorem d16_35 : decode jdk_42_method_149_code 35 = .ok (.iload_n 3, 1) := by decide +kernel
theorem d16_36 : decode jdk_42_method_149_code 36 = .ok (.invokestatic 177, 3) := by decide +kernel
theorem pd_15 : parseMethodDescriptor "([CII)[B" = some ⟨[(.array .char), .int, .int], some (.array .byte)⟩ := by decide +kernel
theorem d16_39 : decode jdk_42_method_149_code 39 = .ok (.astore 5, 2) := by decide +kernel
theorem d16_41 : decode jdk_42_method_149_code 41 = .ok (.aload_n 0, 1) := by decide +kernel
theorem d16_42 : decode jdk_42_method_149_code 42 = .ok (.aload 5, 2) := by decide +kernel
theorem d16_44 : decode jdk_42_method_149_code 44 = .ok (.iload_n 3, 1) := by decide +kernel
theorem d16_45 : decode jdk_42_method_149_code 45 = .ok (.invokestatic 47, 3) := by decide +kernel
theorem pd_16 : parseMethodDescriptor "([BI)B" = some ⟨[(.array .byte), .int], some .byte⟩ := by decide +kernel
theorem d16_48 : decode jdk_42_method_149_code 48 = .ok (.putfield 15, 3) := by decide +kernel
theorem d16_51 : decode jdk_42_method_149_code 51 = .ok (.aload_n 0, 1) := by decide +kernel
theorem d16_52 : decode jdk_42_method_149_code 52 = .ok (.aload 5, 2) := by decide +kernel
theorem d16_54 : decode jdk_42_method_149_code 54 = .ok (.putfield 9, 3) := by decide +kernel
theorem d16_57 : decode jdk_42_method_149_code 57 = .ok (.return_, 1) := by decide +kernel
theorem d15_0 : decode jdk_42_method_3_code 0 = .ok (.aload_n 0, 1) := by decide +kernel
theorem d15_1 : decode jdk_42_method_3_code 1 = .ok (.aload_n 1, 1) := by decide +kernel
theorem d15_2 : decode jdk_42_method_3_code 2 = .ok (.iconst 0, 1) := by decide +kernel
theorem d15_3 : decode jdk_42_method_3_code 3 = .ok (.aload_n 1, 1) := by decide +kernel
theorem d15_4 : decode jdk_42_method_3_code 4 = .ok (.arraylength, 1) := by decide +kernel
theorem d15_5 : decode jdk_42_method_3_code 5 = .ok (.aconst_null, 1) := by decide +kernel
theorem d15_6 : decode jdk_42_method_3_code 6 = .ok (.invokespecial 27, 3) := by decide +kernel
theorem pd_17 : parseMethodDescriptor "([CIILjava/lang/Void;)V" = some ⟨[(.array .char), .int, .int, (.object "java/lang/Void")], none⟩ := by decide +kernel
theorem d15_9 : decode jdk_42_method_3_code 9 = .ok (.return_, 1) := by decide +kernel
theorem pd_18 : parseMethodDescriptor "([C)V" = some ⟨[(.array .char)], none⟩ := by decide +kernel
theorem own_and255 (x : Int32) : ¬ (255 : Int32) < nar .char ((x &&& (255 : Int32)).toUInt32.toUInt16.toUInt32.toInt32) ∧ ¬ (255 : Int32) < ((x &&& (255 : Int32)).toUInt32.toUInt16.toUInt32.toInt32) := by
  have t : ∀ k : Fin 256, ¬ (255 : Int32) < nar .char ((Int32.ofNat k.val).toUInt32.toUInt16.toUInt32.toInt32) ∧ ¬ (255 : Int32) < ((Int32.ofNat k.val).toUInt32.toUInt16.toUInt32.toInt32) := by decide +kernel
  have h : (x &&& 255).toBitVec.toNat < 256 := by
    simp only [Int32.toBitVec_and, BitVec.toNat_and]
    exact Nat.lt_succ_of_le Nat.and_le_right
  have e : (x &&& 255) = Int32.ofNat (x &&& 255).toBitVec.toNat := by
    apply Int32.toBitVec_inj.mp
    show _ = BitVec.ofNat 32 _
    rw [BitVec.ofNat_toNat]; simp
  rw [e]
  exact t ⟨_, h⟩
theorem own_14 (p : Int32) : (p &&& (2147483647 : Int32)) % (14 : Int32) = (0 : Int32) ∨ (p &&& (2147483647 : Int32)) % (14 : Int32) = (1 : Int32) ∨ (p &&& (2147483647 : Int32)) % (14 : Int32) = (2 : Int32) ∨ (p &&& (2147483647 : Int32)) % (14 : Int32) = (3 : Int32) ∨ (p &&& (2147483647 : Int32)) % (14 : Int32) = (4 : Int32) ∨ (p &&& (2147483647 : Int32)) % (14 : Int32) = (5 : Int32) ∨ (p &&& (2147483647 : Int32)) % (14 : Int32) = (6 : Int32) ∨ (p &&& (2147483647 : Int32)) % (14 : Int32) = (7 : Int32) ∨ (p &&& (2147483647 : Int32)) % (14 : Int32) = (8 : Int32) ∨ (p &&& (2147483647 : Int32)) % (14 : Int32) = (9 : Int32) ∨ (p &&& (2147483647 : Int32)) % (14 : Int32) = (10 : Int32) ∨ (p &&& (2147483647 : Int32)) % (14 : Int32) = (11 : Int32) ∨ (p &&& (2147483647 : Int32)) % (14 : Int32) = (12 : Int32) ∨ (p &&& (2147483647 : Int32)) % (14 : Int32) = (13 : Int32) := by
  have h0 : 0 ≤ (p &&& (2147483647 : Int32)).toInt := by
    rw [Jvm.Kit.i32_mask p (2147483647 : Int32) (k := 31) (by decide) (by decide)]
    omega
  have h := Jvm.Kit.i32_rem_nonneg (y := (14 : Int32)) h0
  rw [show ((14 : Int32)).toInt = 14 from by decide] at h
  have e : (0 : Int32).toInt = 0 ∧ (1 : Int32).toInt = 1 ∧ (2 : Int32).toInt = 2 ∧ (3 : Int32).toInt = 3 ∧ (4 : Int32).toInt = 4 ∧ (5 : Int32).toInt = 5 ∧ (6 : Int32).toInt = 6 ∧ (7 : Int32).toInt = 7 ∧ (8 : Int32).toInt = 8 ∧ (9 : Int32).toInt = 9 ∧ (10 : Int32).toInt = 10 ∧ (11 : Int32).toInt = 11 ∧ (12 : Int32).toInt = 12 ∧ (13 : Int32).toInt = 13 := by decide
  simp only [← Int32.toInt_inj]
  omega
theorem own_cls {k : Int32} (h : k = (0 : Int32) ∨ k = (1 : Int32) ∨ k = (2 : Int32) ∨ k = (3 : Int32) ∨ k = (4 : Int32) ∨ k = (5 : Int32) ∨ k = (6 : Int32) ∨ k = (7 : Int32) ∨ k = (8 : Int32) ∨ k = (9 : Int32) ∨ k = (10 : Int32) ∨ k = (11 : Int32) ∨ k = (12 : Int32) ∨ k = (13 : Int32)) : k = (13 : Int32) ∨ k = (12 : Int32) ∨ ((k = (0 : Int32) ∨ k = (1 : Int32) ∨ k = (2 : Int32) ∨ k = (3 : Int32)) ∧ ¬ k = (13 : Int32) ∧ k < (4 : Int32) ∧ k < (12 : Int32)) ∨ ((k = (4 : Int32) ∨ k = (5 : Int32) ∨ k = (6 : Int32) ∨ k = (7 : Int32) ∨ k = (8 : Int32)) ∧ ¬ k = (13 : Int32) ∧ ¬ k < (4 : Int32) ∧ ¬ (8 : Int32) < k) ∨ ((k = (9 : Int32) ∨ k = (10 : Int32) ∨ k = (11 : Int32)) ∧ ¬ k = (13 : Int32) ∧ ¬ k < (4 : Int32) ∧ (8 : Int32) < k ∧ k < (12 : Int32)) := by
  rcases h with rfl | rfl | rfl | rfl | rfl | rfl | rfl | rfl | rfl | rfl | rfl | rfl | rfl | rfl <;> decide
def QPick0 (Z : State) (h0 : Heap) (n0 : Nat) (v : Option Value) (h : Heap) (L : List Loc) : Prop := ∃ tr : Addr, v = some (.ref tr) ∧ Fr n0 L ∧ h = h0 ∧ Exa Z h0 tr "com/example/permits_from_duties/permitsfromduties/Event$Transition" ∧ Fld Z h0 tr "com/example/permits_from_duties/permitsfromduties/Event$Transition" "work" "Z" (.int (0 : Int32))
def QPick1 (Z : State) (h0 : Heap) (n0 : Nat) (v : Option Value) (h : Heap) (L : List Loc) : Prop := ∃ tr : Addr, v = some (.ref tr) ∧ Fr n0 L ∧ h = h0 ∧ Exa Z h0 tr "com/example/permits_from_duties/permitsfromduties/Event$Transition" ∧ Fld Z h0 tr "com/example/permits_from_duties/permitsfromduties/Event$Transition" "work" "Z" (.int (1 : Int32))
theorem ef_rmPk_0 (m : MethodId)  : entryFrame m #[(.int (0 : Int32))] 1 = mkF m 0 #[.val (.int (0 : Int32))] [] := by first | (simp [entryFrame, mkF, argsToLocals, Value.category]; done) | rfl
set_option maxRecDepth 65536 in
set_option maxHeartbeats 40000000 in
theorem rmPk_0 (l : Launch) (Z : State) (a0 : Array Value) (hw : ∀ d ∈ tables_1, d.before a0 Z = true) (ws : List Jvm.Cond) (w_SCHEDULE : Addr) (w_ASSIGN : Addr) (w_REASSIGN : Addr) (w_WITHDRAW : Addr) (w_START : Addr) (w_SUSPEND : Addr) (w_RESUME : Addr) (w_COMPLETE : Addr) (w_ATE_ABORT : Addr) (w_PI_ABORT : Addr) (w_MANUALSKIP : Addr) (w_AUTOSKIP : Addr) (w_UNKNOWN : Addr) (h0 : Heap) (n0 : Nat) (Z0 : n0 ≤ h0.size) (O0 : Old Z n0 h0) (S_SCHEDULE : Sta Z Z.heap "com/example/permits_from_duties/permitsfromduties/Event$Transition" "SCHEDULE" "Lcom/example/permits_from_duties/permitsfromduties/Event$Transition;" (.ref w_SCHEDULE)) (S_ASSIGN : Sta Z Z.heap "com/example/permits_from_duties/permitsfromduties/Event$Transition" "ASSIGN" "Lcom/example/permits_from_duties/permitsfromduties/Event$Transition;" (.ref w_ASSIGN)) (S_REASSIGN : Sta Z Z.heap "com/example/permits_from_duties/permitsfromduties/Event$Transition" "REASSIGN" "Lcom/example/permits_from_duties/permitsfromduties/Event$Transition;" (.ref w_REASSIGN)) (S_WITHDRAW : Sta Z Z.heap "com/example/permits_from_duties/permitsfromduties/Event$Transition" "WITHDRAW" "Lcom/example/permits_from_duties/permitsfromduties/Event$Transition;" (.ref w_WITHDRAW)) (S_START : Sta Z Z.heap "com/example/permits_from_duties/permitsfromduties/Event$Transition" "START" "Lcom/example/permits_from_duties/permitsfromduties/Event$Transition;" (.ref w_START)) (S_SUSPEND : Sta Z Z.heap "com/example/permits_from_duties/permitsfromduties/Event$Transition" "SUSPEND" "Lcom/example/permits_from_duties/permitsfromduties/Event$Transition;" (.ref w_SUSPEND)) (S_RESUME : Sta Z Z.heap "com/example/permits_from_duties/permitsfromduties/Event$Transition" "RESUME" "Lcom/example/permits_from_duties/permitsfromduties/Event$Transition;" (.ref w_RESUME)) (S_COMPLETE : Sta Z Z.heap "com/example/permits_from_duties/permitsfromduties/Event$Transition" "COMPLETE" "Lcom/example/permits_from_duties/permitsfromduties/Event$Transition;" (.ref w_COMPLETE)) (S_ATE_ABORT : Sta Z Z.heap "com/example/permits_from_duties/permitsfromduties/Event$Transition" "ATE_ABORT" "Lcom/example/permits_from_duties/permitsfromduties/Event$Transition;" (.ref w_ATE_ABORT)) (S_PI_ABORT : Sta Z Z.heap "com/example/permits_from_duties/permitsfromduties/Event$Transition" "PI_ABORT" "Lcom/example/permits_from_duties/permitsfromduties/Event$Transition;" (.ref w_PI_ABORT)) (S_MANUALSKIP : Sta Z Z.heap "com/example/permits_from_duties/permitsfromduties/Event$Transition" "MANUALSKIP" "Lcom/example/permits_from_duties/permitsfromduties/Event$Transition;" (.ref w_MANUALSKIP)) (S_AUTOSKIP : Sta Z Z.heap "com/example/permits_from_duties/permitsfromduties/Event$Transition" "AUTOSKIP" "Lcom/example/permits_from_duties/permitsfromduties/Event$Transition;" (.ref w_AUTOSKIP)) (S_UNKNOWN : Sta Z Z.heap "com/example/permits_from_duties/permitsfromduties/Event$Transition" "UNKNOWN" "Lcom/example/permits_from_duties/permitsfromduties/Event$Transition;" (.ref w_UNKNOWN)) (E_SCHEDULE : Exa Z Z.heap w_SCHEDULE "com/example/permits_from_duties/permitsfromduties/Event$Transition") (E_ASSIGN : Exa Z Z.heap w_ASSIGN "com/example/permits_from_duties/permitsfromduties/Event$Transition") (E_REASSIGN : Exa Z Z.heap w_REASSIGN "com/example/permits_from_duties/permitsfromduties/Event$Transition") (E_WITHDRAW : Exa Z Z.heap w_WITHDRAW "com/example/permits_from_duties/permitsfromduties/Event$Transition") (E_START : Exa Z Z.heap w_START "com/example/permits_from_duties/permitsfromduties/Event$Transition") (E_SUSPEND : Exa Z Z.heap w_SUSPEND "com/example/permits_from_duties/permitsfromduties/Event$Transition") (E_RESUME : Exa Z Z.heap w_RESUME "com/example/permits_from_duties/permitsfromduties/Event$Transition") (E_COMPLETE : Exa Z Z.heap w_COMPLETE "com/example/permits_from_duties/permitsfromduties/Event$Transition") (E_ATE_ABORT : Exa Z Z.heap w_ATE_ABORT "com/example/permits_from_duties/permitsfromduties/Event$Transition") (E_PI_ABORT : Exa Z Z.heap w_PI_ABORT "com/example/permits_from_duties/permitsfromduties/Event$Transition") (E_MANUALSKIP : Exa Z Z.heap w_MANUALSKIP "com/example/permits_from_duties/permitsfromduties/Event$Transition") (E_AUTOSKIP : Exa Z Z.heap w_AUTOSKIP "com/example/permits_from_duties/permitsfromduties/Event$Transition") (E_UNKNOWN : Exa Z Z.heap w_UNKNOWN "com/example/permits_from_duties/permitsfromduties/Event$Transition") (F_SCHEDULE : Fld Z Z.heap w_SCHEDULE "com/example/permits_from_duties/permitsfromduties/Event$Transition" "work" "Z" (.int (0 : Int32))) (F_ASSIGN : Fld Z Z.heap w_ASSIGN "com/example/permits_from_duties/permitsfromduties/Event$Transition" "work" "Z" (.int (0 : Int32))) (F_REASSIGN : Fld Z Z.heap w_REASSIGN "com/example/permits_from_duties/permitsfromduties/Event$Transition" "work" "Z" (.int (0 : Int32))) (F_WITHDRAW : Fld Z Z.heap w_WITHDRAW "com/example/permits_from_duties/permitsfromduties/Event$Transition" "work" "Z" (.int (0 : Int32))) (F_START : Fld Z Z.heap w_START "com/example/permits_from_duties/permitsfromduties/Event$Transition" "work" "Z" (.int (1 : Int32))) (F_SUSPEND : Fld Z Z.heap w_SUSPEND "com/example/permits_from_duties/permitsfromduties/Event$Transition" "work" "Z" (.int (1 : Int32))) (F_RESUME : Fld Z Z.heap w_RESUME "com/example/permits_from_duties/permitsfromduties/Event$Transition" "work" "Z" (.int (1 : Int32))) (F_COMPLETE : Fld Z Z.heap w_COMPLETE "com/example/permits_from_duties/permitsfromduties/Event$Transition" "work" "Z" (.int (1 : Int32))) (F_ATE_ABORT : Fld Z Z.heap w_ATE_ABORT "com/example/permits_from_duties/permitsfromduties/Event$Transition" "work" "Z" (.int (1 : Int32))) (F_PI_ABORT : Fld Z Z.heap w_PI_ABORT "com/example/permits_from_duties/permitsfromduties/Event$Transition" "work" "Z" (.int (0 : Int32))) (F_MANUALSKIP : Fld Z Z.heap w_MANUALSKIP "com/example/permits_from_duties/permitsfromduties/Event$Transition" "work" "Z" (.int (0 : Int32))) (F_AUTOSKIP : Fld Z Z.heap w_AUTOSKIP "com/example/permits_from_duties/permitsfromduties/Event$Transition" "work" "Z" (.int (0 : Int32))) (F_UNKNOWN : Fld Z Z.heap w_UNKNOWN "com/example/permits_from_duties/permitsfromduties/Event$Transition" "work" "Z" (.int (1 : Int32))) :
    MetFree l (⟨"com/example/permits_from_duties/permitsfromduties/EventPerformerPinLaw", "pick", "(I)Lcom/example/permits_from_duties/permitsfromduties/Event$Transition;"⟩ : MethodName) (head1 (Jvm.Cond.code (⟨"com/example/permits_from_duties/permitsfromduties/EventPerformerPinLaw", "pick", "(I)Lcom/example/permits_from_duties/permitsfromduties/Event$Transition;"⟩ : MethodName) method_3_code 1 (some (.object "com/example/permits_from_duties/permitsfromduties/Event$Transition")) :: ws) ({ frames := 0, cells := 0, slots := 0, locals := 0 } : Room)) (fun a U => a = #[(.int (0 : Int32))] ∧ Z.Warmed39 U.vm ∧ U.heap = h0) (fun _ _ _ _ _ => True) (fun _ U o U' => ∃ v L, o = .returned v ∧ QPick0 Z h0 n0 v U'.heap L ∧ FrameEnd U o U' L ({ frames := 0, cells := 0, slots := 0, locals := 0 } : Room).cells ({ frames := 0, cells := 0, slots := 0, locals := 0 } : Room).slots) := by
  refine MetFree.of_bodySF (plainFor_of_name pn_com_example_permits_from_duties_permitsfromduties_EventPerformerPinLaw) hisR ?_
  intro p e s m args below meth c s₁ Bd hml0 hP hK
  obtain ⟨rfl, hZ, hh⟩ := hP
  have hx := Bd.exec
  have hby := Bd.bytes
  have hlk : meth.locks = false := Bd.notSynchronized
  have hml : c.maxLocals = 1 := hml0
  have hown : s.vm.findClass "com/example/permits_from_duties/permitsfromduties/EventPerformerPinLaw" = some m.cls := findClass_of_methodNamed Bd.named
  have hnm := (name_of_methodNamed Bd.named Bd.method).1
  have X0 : Stand p l e ({ frames := 0, cells := 0, slots := 0, locals := 0 } : Room) s m #[(.int (0 : Int32))] below meth c s₁ [] 0 0 := Stand.of_body Bd
  have e0 : s₁.heap = h0 := by rw [← hh, Bd.state]; rfl
  have N0 := Fr.nil n0
  show Go p e below (FinE s below (QPick0 Z h0 n0) ({ frames := 0, cells := 0, slots := 0, locals := 0 } : Room).cells ({ frames := 0, cells := 0, slots := 0, locals := 0 } : Room).slots) (s₁.setTop (entryFrame m #[(.int (0 : Int32))] 1))
  refine Go.via (fun t k => castTop (ef_rmPk_0 m ) k) ?_
  show Go p e below _ (s₁.setTop (mkF m 0 #[.val (.int (0 : Int32))] []))
  refine Go.via (fun _ => XS.iloadN X0.here hx rfl (hb hby d6_0) rfl) ?_
  show Go p e below _ (s₁.setTop (mkF m 1 #[.val (.int (0 : Int32))] [(.int (0 : Int32))]))
  refine Go.via (fun _ => XS.ifNo X0.here hx rfl (hb hby d6_1) rfl (by decide)) ?_
  show Go p e below _ (s₁.setTop (mkF m 4 #[.val (.int (0 : Int32))] []))
  obtain ⟨T101, X101, e101, st101⟩ := getS2 X0 hx hZ hown (host := "") (Or.inl (hw _ (List.mem_of_getElem? (i := 35) rfl))) Via.refl e0 (S_SCHEDULE.ext O0.2) (g := (mkF m 4 #[.val (.int (0 : Int32))] [])) rfl (hb hby d6_4)
  refine Go.via st101 ?_
  show Go p e below _ (T101.setTop (mkF m 7 #[.val (.int (0 : Int32))] [(.ref w_SCHEDULE)]))
  exact own_retA X101 hx hlk Bd.returns rfl rfl (hb hby d6_7) (by show QPick0 Z h0 n0 _ T101.heap _; rw [e101]; exact ⟨w_SCHEDULE, rfl, N0, rfl, E_SCHEDULE.ext O0.2, F_SCHEDULE.ext O0.2⟩) (by decide) (by decide)
theorem ef_rmPk_1 (m : MethodId)  : entryFrame m #[(.int (1 : Int32))] 1 = mkF m 0 #[.val (.int (1 : Int32))] [] := by first | (simp [entryFrame, mkF, argsToLocals, Value.category]; done) | rfl
set_option maxRecDepth 65536 in
set_option maxHeartbeats 40000000 in
theorem rmPk_1 (l : Launch) (Z : State) (a0 : Array Value) (hw : ∀ d ∈ tables_1, d.before a0 Z = true) (ws : List Jvm.Cond) (w_SCHEDULE : Addr) (w_ASSIGN : Addr) (w_REASSIGN : Addr) (w_WITHDRAW : Addr) (w_START : Addr) (w_SUSPEND : Addr) (w_RESUME : Addr) (w_COMPLETE : Addr) (w_ATE_ABORT : Addr) (w_PI_ABORT : Addr) (w_MANUALSKIP : Addr) (w_AUTOSKIP : Addr) (w_UNKNOWN : Addr) (h0 : Heap) (n0 : Nat) (Z0 : n0 ≤ h0.size) (O0 : Old Z n0 h0) (S_SCHEDULE : Sta Z Z.heap "com/example/permits_from_duties/permitsfromduties/Event$Transition" "SCHEDULE" "Lcom/example/permits_from_duties/permitsfromduties/Event$Transition;" (.ref w_SCHEDULE)) (S_ASSIGN : Sta Z Z.heap "com/example/permits_from_duties/permitsfromduties/Event$Transition" "ASSIGN" "Lcom/example/permits_from_duties/permitsfromduties/Event$Transition;" (.ref w_ASSIGN)) (S_REASSIGN : Sta Z Z.heap "com/example/permits_from_duties/permitsfromduties/Event$Transition" "REASSIGN" "Lcom/example/permits_from_duties/permitsfromduties/Event$Transition;" (.ref w_REASSIGN)) (S_WITHDRAW : Sta Z Z.heap "com/example/permits_from_duties/permitsfromduties/Event$Transition" "WITHDRAW" "Lcom/example/permits_from_duties/permitsfromduties/Event$Transition;" (.ref w_WITHDRAW)) (S_START : Sta Z Z.heap "com/example/permits_from_duties/permitsfromduties/Event$Transition" "START" "Lcom/example/permits_from_duties/permitsfromduties/Event$Transition;" (.ref w_START)) (S_SUSPEND : Sta Z Z.heap "com/example/permits_from_duties/permitsfromduties/Event$Transition" "SUSPEND" "Lcom/example/permits_from_duties/permitsfromduties/Event$Transition;" (.ref w_SUSPEND)) (S_RESUME : Sta Z Z.heap "com/example/permits_from_duties/permitsfromduties/Event$Transition" "RESUME" "Lcom/example/permits_from_duties/permitsfromduties/Event$Transition;" (.ref w_RESUME)) (S_COMPLETE : Sta Z Z.heap "com/example/permits_from_duties/permitsfromduties/Event$Transition" "COMPLETE" "Lcom/example/permits_from_duties/permitsfromduties/Event$Transition;" (.ref w_COMPLETE)) (S_ATE_ABORT : Sta Z Z.heap "com/example/permits_from_duties/permitsfromduties/Event$Transition" "ATE_ABORT" "Lcom/example/permits_from_duties/permitsfromduties/Event$Transition;" (.ref w_ATE_ABORT)) (S_PI_ABORT : Sta Z Z.heap "com/example/permits_from_duties/permitsfromduties/Event$Transition" "PI_ABORT" "Lcom/example/permits_from_duties/permitsfromduties/Event$Transition;" (.ref w_PI_ABORT)) (S_MANUALSKIP : Sta Z Z.heap "com/example/permits_from_duties/permitsfromduties/Event$Transition" "MANUALSKIP" "Lcom/example/permits_from_duties/permitsfromduties/Event$Transition;" (.ref w_MANUALSKIP)) (S_AUTOSKIP : Sta Z Z.heap "com/example/permits_from_duties/permitsfromduties/Event$Transition" "AUTOSKIP" "Lcom/example/permits_from_duties/permitsfromduties/Event$Transition;" (.ref w_AUTOSKIP)) (S_UNKNOWN : Sta Z Z.heap "com/example/permits_from_duties/permitsfromduties/Event$Transition" "UNKNOWN" "Lcom/example/permits_from_duties/permitsfromduties/Event$Transition;" (.ref w_UNKNOWN)) (E_SCHEDULE : Exa Z Z.heap w_SCHEDULE "com/example/permits_from_duties/permitsfromduties/Event$Transition") (E_ASSIGN : Exa Z Z.heap w_ASSIGN "com/example/permits_from_duties/permitsfromduties/Event$Transition") (E_REASSIGN : Exa Z Z.heap w_REASSIGN "com/example/permits_from_duties/permitsfromduties/Event$Transition") (E_WITHDRAW : Exa Z Z.heap w_WITHDRAW "com/example/permits_from_duties/permitsfromduties/Event$Transition") (E_START : Exa Z Z.heap w_START "com/example/permits_from_duties/permitsfromduties/Event$Transition") (E_SUSPEND : Exa Z Z.heap w_SUSPEND "com/example/permits_from_duties/permitsfromduties/Event$Transition") (E_RESUME : Exa Z Z.heap w_RESUME "com/example/permits_from_duties/permitsfromduties/Event$Transition") (E_COMPLETE : Exa Z Z.heap w_COMPLETE "com/example/permits_from_duties/permitsfromduties/Event$Transition") (E_ATE_ABORT : Exa Z Z.heap w_ATE_ABORT "com/example/permits_from_duties/permitsfromduties/Event$Transition") (E_PI_ABORT : Exa Z Z.heap w_PI_ABORT "com/example/permits_from_duties/permitsfromduties/Event$Transition") (E_MANUALSKIP : Exa Z Z.heap w_MANUALSKIP "com/example/permits_from_duties/permitsfromduties/Event$Transition") (E_AUTOSKIP : Exa Z Z.heap w_AUTOSKIP "com/example/permits_from_duties/permitsfromduties/Event$Transition") (E_UNKNOWN : Exa Z Z.heap w_UNKNOWN "com/example/permits_from_duties/permitsfromduties/Event$Transition") (F_SCHEDULE : Fld Z Z.heap w_SCHEDULE "com/example/permits_from_duties/permitsfromduties/Event$Transition" "work" "Z" (.int (0 : Int32))) (F_ASSIGN : Fld Z Z.heap w_ASSIGN "com/example/permits_from_duties/permitsfromduties/Event$Transition" "work" "Z" (.int (0 : Int32))) (F_REASSIGN : Fld Z Z.heap w_REASSIGN "com/example/permits_from_duties/permitsfromduties/Event$Transition" "work" "Z" (.int (0 : Int32))) (F_WITHDRAW : Fld Z Z.heap w_WITHDRAW "com/example/permits_from_duties/permitsfromduties/Event$Transition" "work" "Z" (.int (0 : Int32))) (F_START : Fld Z Z.heap w_START "com/example/permits_from_duties/permitsfromduties/Event$Transition" "work" "Z" (.int (1 : Int32))) (F_SUSPEND : Fld Z Z.heap w_SUSPEND "com/example/permits_from_duties/permitsfromduties/Event$Transition" "work" "Z" (.int (1 : Int32))) (F_RESUME : Fld Z Z.heap w_RESUME "com/example/permits_from_duties/permitsfromduties/Event$Transition" "work" "Z" (.int (1 : Int32))) (F_COMPLETE : Fld Z Z.heap w_COMPLETE "com/example/permits_from_duties/permitsfromduties/Event$Transition" "work" "Z" (.int (1 : Int32))) (F_ATE_ABORT : Fld Z Z.heap w_ATE_ABORT "com/example/permits_from_duties/permitsfromduties/Event$Transition" "work" "Z" (.int (1 : Int32))) (F_PI_ABORT : Fld Z Z.heap w_PI_ABORT "com/example/permits_from_duties/permitsfromduties/Event$Transition" "work" "Z" (.int (0 : Int32))) (F_MANUALSKIP : Fld Z Z.heap w_MANUALSKIP "com/example/permits_from_duties/permitsfromduties/Event$Transition" "work" "Z" (.int (0 : Int32))) (F_AUTOSKIP : Fld Z Z.heap w_AUTOSKIP "com/example/permits_from_duties/permitsfromduties/Event$Transition" "work" "Z" (.int (0 : Int32))) (F_UNKNOWN : Fld Z Z.heap w_UNKNOWN "com/example/permits_from_duties/permitsfromduties/Event$Transition" "work" "Z" (.int (1 : Int32))) :
    MetFree l (⟨"com/example/permits_from_duties/permitsfromduties/EventPerformerPinLaw", "pick", "(I)Lcom/example/permits_from_duties/permitsfromduties/Event$Transition;"⟩ : MethodName) (head1 (Jvm.Cond.code (⟨"com/example/permits_from_duties/permitsfromduties/EventPerformerPinLaw", "pick", "(I)Lcom/example/permits_from_duties/permitsfromduties/Event$Transition;"⟩ : MethodName) method_3_code 1 (some (.object "com/example/permits_from_duties/permitsfromduties/Event$Transition")) :: ws) ({ frames := 0, cells := 0, slots := 0, locals := 0 } : Room)) (fun a U => a = #[(.int (1 : Int32))] ∧ Z.Warmed39 U.vm ∧ U.heap = h0) (fun _ _ _ _ _ => True) (fun _ U o U' => ∃ v L, o = .returned v ∧ QPick0 Z h0 n0 v U'.heap L ∧ FrameEnd U o U' L ({ frames := 0, cells := 0, slots := 0, locals := 0 } : Room).cells ({ frames := 0, cells := 0, slots := 0, locals := 0 } : Room).slots) := by
  refine MetFree.of_bodySF (plainFor_of_name pn_com_example_permits_from_duties_permitsfromduties_EventPerformerPinLaw) hisR ?_
  intro p e s m args below meth c s₁ Bd hml0 hP hK
  obtain ⟨rfl, hZ, hh⟩ := hP
  have hx := Bd.exec
  have hby := Bd.bytes
  have hlk : meth.locks = false := Bd.notSynchronized
  have hml : c.maxLocals = 1 := hml0
  have hown : s.vm.findClass "com/example/permits_from_duties/permitsfromduties/EventPerformerPinLaw" = some m.cls := findClass_of_methodNamed Bd.named
  have hnm := (name_of_methodNamed Bd.named Bd.method).1
  have X0 : Stand p l e ({ frames := 0, cells := 0, slots := 0, locals := 0 } : Room) s m #[(.int (1 : Int32))] below meth c s₁ [] 0 0 := Stand.of_body Bd
  have e0 : s₁.heap = h0 := by rw [← hh, Bd.state]; rfl
  have N0 := Fr.nil n0
  show Go p e below (FinE s below (QPick0 Z h0 n0) ({ frames := 0, cells := 0, slots := 0, locals := 0 } : Room).cells ({ frames := 0, cells := 0, slots := 0, locals := 0 } : Room).slots) (s₁.setTop (entryFrame m #[(.int (1 : Int32))] 1))
  refine Go.via (fun t k => castTop (ef_rmPk_1 m ) k) ?_
  show Go p e below _ (s₁.setTop (mkF m 0 #[.val (.int (1 : Int32))] []))
  refine Go.via (fun _ => XS.iloadN X0.here hx rfl (hb hby d6_0) rfl) ?_
  show Go p e below _ (s₁.setTop (mkF m 1 #[.val (.int (1 : Int32))] [(.int (1 : Int32))]))
  refine Go.via (fun _ => XS.ifYes X0.here hx rfl (pc0 := 1) (pc' := 8) rfl (hb hby d6_1) rfl (by decide) (by decide) (by decide)) ?_
  show Go p e below _ (s₁.setTop (mkF m 8 #[.val (.int (1 : Int32))] []))
  refine Go.via (fun _ => XS.iloadN X0.here hx rfl (hb hby d6_8) rfl) ?_
  show Go p e below _ (s₁.setTop (mkF m 9 #[.val (.int (1 : Int32))] [(.int (1 : Int32))]))
  refine Go.via (fun _ => XS.iconst X0.here hx rfl (hb hby d6_9)) ?_
  show Go p e below _ (s₁.setTop (mkF m 10 #[.val (.int (1 : Int32))] [(.int (1 : Int32)), (.int (1 : Int32))]))
  refine Go.via (fun _ => XS.icmpNo X0.here hx rfl (hb hby d6_10) rfl (by decide)) ?_
  show Go p e below _ (s₁.setTop (mkF m 13 #[.val (.int (1 : Int32))] []))
  obtain ⟨T101, X101, e101, st101⟩ := getS2 X0 hx hZ hown (host := "") (Or.inl (hw _ (List.mem_of_getElem? (i := 117) rfl))) Via.refl e0 (S_ASSIGN.ext O0.2) (g := (mkF m 13 #[.val (.int (1 : Int32))] [])) rfl (hb hby d6_13)
  refine Go.via st101 ?_
  show Go p e below _ (T101.setTop (mkF m 16 #[.val (.int (1 : Int32))] [(.ref w_ASSIGN)]))
  exact own_retA X101 hx hlk Bd.returns rfl rfl (hb hby d6_16) (by show QPick0 Z h0 n0 _ T101.heap _; rw [e101]; exact ⟨w_ASSIGN, rfl, N0, rfl, E_ASSIGN.ext O0.2, F_ASSIGN.ext O0.2⟩) (by decide) (by decide)
theorem ef_rmPk_2 (m : MethodId)  : entryFrame m #[(.int (2 : Int32))] 1 = mkF m 0 #[.val (.int (2 : Int32))] [] := by first | (simp [entryFrame, mkF, argsToLocals, Value.category]; done) | rfl
set_option maxRecDepth 65536 in
set_option maxHeartbeats 40000000 in
theorem rmPk_2 (l : Launch) (Z : State) (a0 : Array Value) (hw : ∀ d ∈ tables_1, d.before a0 Z = true) (ws : List Jvm.Cond) (w_SCHEDULE : Addr) (w_ASSIGN : Addr) (w_REASSIGN : Addr) (w_WITHDRAW : Addr) (w_START : Addr) (w_SUSPEND : Addr) (w_RESUME : Addr) (w_COMPLETE : Addr) (w_ATE_ABORT : Addr) (w_PI_ABORT : Addr) (w_MANUALSKIP : Addr) (w_AUTOSKIP : Addr) (w_UNKNOWN : Addr) (h0 : Heap) (n0 : Nat) (Z0 : n0 ≤ h0.size) (O0 : Old Z n0 h0) (S_SCHEDULE : Sta Z Z.heap "com/example/permits_from_duties/permitsfromduties/Event$Transition" "SCHEDULE" "Lcom/example/permits_from_duties/permitsfromduties/Event$Transition;" (.ref w_SCHEDULE)) (S_ASSIGN : Sta Z Z.heap "com/example/permits_from_duties/permitsfromduties/Event$Transition" "ASSIGN" "Lcom/example/permits_from_duties/permitsfromduties/Event$Transition;" (.ref w_ASSIGN)) (S_REASSIGN : Sta Z Z.heap "com/example/permits_from_duties/permitsfromduties/Event$Transition" "REASSIGN" "Lcom/example/permits_from_duties/permitsfromduties/Event$Transition;" (.ref w_REASSIGN)) (S_WITHDRAW : Sta Z Z.heap "com/example/permits_from_duties/permitsfromduties/Event$Transition" "WITHDRAW" "Lcom/example/permits_from_duties/permitsfromduties/Event$Transition;" (.ref w_WITHDRAW)) (S_START : Sta Z Z.heap "com/example/permits_from_duties/permitsfromduties/Event$Transition" "START" "Lcom/example/permits_from_duties/permitsfromduties/Event$Transition;" (.ref w_START)) (S_SUSPEND : Sta Z Z.heap "com/example/permits_from_duties/permitsfromduties/Event$Transition" "SUSPEND" "Lcom/example/permits_from_duties/permitsfromduties/Event$Transition;" (.ref w_SUSPEND)) (S_RESUME : Sta Z Z.heap "com/example/permits_from_duties/permitsfromduties/Event$Transition" "RESUME" "Lcom/example/permits_from_duties/permitsfromduties/Event$Transition;" (.ref w_RESUME)) (S_COMPLETE : Sta Z Z.heap "com/example/permits_from_duties/permitsfromduties/Event$Transition" "COMPLETE" "Lcom/example/permits_from_duties/permitsfromduties/Event$Transition;" (.ref w_COMPLETE)) (S_ATE_ABORT : Sta Z Z.heap "com/example/permits_from_duties/permitsfromduties/Event$Transition" "ATE_ABORT" "Lcom/example/permits_from_duties/permitsfromduties/Event$Transition;" (.ref w_ATE_ABORT)) (S_PI_ABORT : Sta Z Z.heap "com/example/permits_from_duties/permitsfromduties/Event$Transition" "PI_ABORT" "Lcom/example/permits_from_duties/permitsfromduties/Event$Transition;" (.ref w_PI_ABORT)) (S_MANUALSKIP : Sta Z Z.heap "com/example/permits_from_duties/permitsfromduties/Event$Transition" "MANUALSKIP" "Lcom/example/permits_from_duties/permitsfromduties/Event$Transition;" (.ref w_MANUALSKIP)) (S_AUTOSKIP : Sta Z Z.heap "com/example/permits_from_duties/permitsfromduties/Event$Transition" "AUTOSKIP" "Lcom/example/permits_from_duties/permitsfromduties/Event$Transition;" (.ref w_AUTOSKIP)) (S_UNKNOWN : Sta Z Z.heap "com/example/permits_from_duties/permitsfromduties/Event$Transition" "UNKNOWN" "Lcom/example/permits_from_duties/permitsfromduties/Event$Transition;" (.ref w_UNKNOWN)) (E_SCHEDULE : Exa Z Z.heap w_SCHEDULE "com/example/permits_from_duties/permitsfromduties/Event$Transition") (E_ASSIGN : Exa Z Z.heap w_ASSIGN "com/example/permits_from_duties/permitsfromduties/Event$Transition") (E_REASSIGN : Exa Z Z.heap w_REASSIGN "com/example/permits_from_duties/permitsfromduties/Event$Transition") (E_WITHDRAW : Exa Z Z.heap w_WITHDRAW "com/example/permits_from_duties/permitsfromduties/Event$Transition") (E_START : Exa Z Z.heap w_START "com/example/permits_from_duties/permitsfromduties/Event$Transition") (E_SUSPEND : Exa Z Z.heap w_SUSPEND "com/example/permits_from_duties/permitsfromduties/Event$Transition") (E_RESUME : Exa Z Z.heap w_RESUME "com/example/permits_from_duties/permitsfromduties/Event$Transition") (E_COMPLETE : Exa Z Z.heap w_COMPLETE "com/example/permits_from_duties/permitsfromduties/Event$Transition") (E_ATE_ABORT : Exa Z Z.heap w_ATE_ABORT "com/example/permits_from_duties/permitsfromduties/Event$Transition") (E_PI_ABORT : Exa Z Z.heap w_PI_ABORT "com/example/permits_from_duties/permitsfromduties/Event$Transition") (E_MANUALSKIP : Exa Z Z.heap w_MANUALSKIP "com/example/permits_from_duties/permitsfromduties/Event$Transition") (E_AUTOSKIP : Exa Z Z.heap w_AUTOSKIP "com/example/permits_from_duties/permitsfromduties/Event$Transition") (E_UNKNOWN : Exa Z Z.heap w_UNKNOWN "com/example/permits_from_duties/permitsfromduties/Event$Transition") (F_SCHEDULE : Fld Z Z.heap w_SCHEDULE "com/example/permits_from_duties/permitsfromduties/Event$Transition" "work" "Z" (.int (0 : Int32))) (F_ASSIGN : Fld Z Z.heap w_ASSIGN "com/example/permits_from_duties/permitsfromduties/Event$Transition" "work" "Z" (.int (0 : Int32))) (F_REASSIGN : Fld Z Z.heap w_REASSIGN "com/example/permits_from_duties/permitsfromduties/Event$Transition" "work" "Z" (.int (0 : Int32))) (F_WITHDRAW : Fld Z Z.heap w_WITHDRAW "com/example/permits_from_duties/permitsfromduties/Event$Transition" "work" "Z" (.int (0 : Int32))) (F_START : Fld Z Z.heap w_START "com/example/permits_from_duties/permitsfromduties/Event$Transition" "work" "Z" (.int (1 : Int32))) (F_SUSPEND : Fld Z Z.heap w_SUSPEND "com/example/permits_from_duties/permitsfromduties/Event$Transition" "work" "Z" (.int (1 : Int32))) (F_RESUME : Fld Z Z.heap w_RESUME "com/example/permits_from_duties/permitsfromduties/Event$Transition" "work" "Z" (.int (1 : Int32))) (F_COMPLETE : Fld Z Z.heap w_COMPLETE "com/example/permits_from_duties/permitsfromduties/Event$Transition" "work" "Z" (.int (1 : Int32))) (F_ATE_ABORT : Fld Z Z.heap w_ATE_ABORT "com/example/permits_from_duties/permitsfromduties/Event$Transition" "work" "Z" (.int (1 : Int32))) (F_PI_ABORT : Fld Z Z.heap w_PI_ABORT "com/example/permits_from_duties/permitsfromduties/Event$Transition" "work" "Z" (.int (0 : Int32))) (F_MANUALSKIP : Fld Z Z.heap w_MANUALSKIP "com/example/permits_from_duties/permitsfromduties/Event$Transition" "work" "Z" (.int (0 : Int32))) (F_AUTOSKIP : Fld Z Z.heap w_AUTOSKIP "com/example/permits_from_duties/permitsfromduties/Event$Transition" "work" "Z" (.int (0 : Int32))) (F_UNKNOWN : Fld Z Z.heap w_UNKNOWN "com/example/permits_from_duties/permitsfromduties/Event$Transition" "work" "Z" (.int (1 : Int32))) :
    MetFree l (⟨"com/example/permits_from_duties/permitsfromduties/EventPerformerPinLaw", "pick", "(I)Lcom/example/permits_from_duties/permitsfromduties/Event$Transition;"⟩ : MethodName) (head1 (Jvm.Cond.code (⟨"com/example/permits_from_duties/permitsfromduties/EventPerformerPinLaw", "pick", "(I)Lcom/example/permits_from_duties/permitsfromduties/Event$Transition;"⟩ : MethodName) method_3_code 1 (some (.object "com/example/permits_from_duties/permitsfromduties/Event$Transition")) :: ws) ({ frames := 0, cells := 0, slots := 0, locals := 0 } : Room)) (fun a U => a = #[(.int (2 : Int32))] ∧ Z.Warmed39 U.vm ∧ U.heap = h0) (fun _ _ _ _ _ => True) (fun _ U o U' => ∃ v L, o = .returned v ∧ QPick0 Z h0 n0 v U'.heap L ∧ FrameEnd U o U' L ({ frames := 0, cells := 0, slots := 0, locals := 0 } : Room).cells ({ frames := 0, cells := 0, slots := 0, locals := 0 } : Room).slots) := by
  refine MetFree.of_bodySF (plainFor_of_name pn_com_example_permits_from_duties_permitsfromduties_EventPerformerPinLaw) hisR ?_
  intro p e s m args below meth c s₁ Bd hml0 hP hK
  obtain ⟨rfl, hZ, hh⟩ := hP
  have hx := Bd.exec
  have hby := Bd.bytes
  have hlk : meth.locks = false := Bd.notSynchronized
  have hml : c.maxLocals = 1 := hml0
  have hown : s.vm.findClass "com/example/permits_from_duties/permitsfromduties/EventPerformerPinLaw" = some m.cls := findClass_of_methodNamed Bd.named
  have hnm := (name_of_methodNamed Bd.named Bd.method).1
  have X0 : Stand p l e ({ frames := 0, cells := 0, slots := 0, locals := 0 } : Room) s m #[(.int (2 : Int32))] below meth c s₁ [] 0 0 := Stand.of_body Bd
  have e0 : s₁.heap = h0 := by rw [← hh, Bd.state]; rfl
  have N0 := Fr.nil n0
  show Go p e below (FinE s below (QPick0 Z h0 n0) ({ frames := 0, cells := 0, slots := 0, locals := 0 } : Room).cells ({ frames := 0, cells := 0, slots := 0, locals := 0 } : Room).slots) (s₁.setTop (entryFrame m #[(.int (2 : Int32))] 1))
  refine Go.via (fun t k => castTop (ef_rmPk_2 m ) k) ?_
  show Go p e below _ (s₁.setTop (mkF m 0 #[.val (.int (2 : Int32))] []))
  refine Go.via (fun _ => XS.iloadN X0.here hx rfl (hb hby d6_0) rfl) ?_
  show Go p e below _ (s₁.setTop (mkF m 1 #[.val (.int (2 : Int32))] [(.int (2 : Int32))]))
  refine Go.via (fun _ => XS.ifYes X0.here hx rfl (pc0 := 1) (pc' := 8) rfl (hb hby d6_1) rfl (by decide) (by decide) (by decide)) ?_
  show Go p e below _ (s₁.setTop (mkF m 8 #[.val (.int (2 : Int32))] []))
  refine Go.via (fun _ => XS.iloadN X0.here hx rfl (hb hby d6_8) rfl) ?_
  show Go p e below _ (s₁.setTop (mkF m 9 #[.val (.int (2 : Int32))] [(.int (2 : Int32))]))
  refine Go.via (fun _ => XS.iconst X0.here hx rfl (hb hby d6_9)) ?_
  show Go p e below _ (s₁.setTop (mkF m 10 #[.val (.int (2 : Int32))] [(.int (1 : Int32)), (.int (2 : Int32))]))
  refine Go.via (fun _ => XS.icmpYes X0.here hx rfl (pc0 := 10) (pc' := 17) rfl (hb hby d6_10) rfl (by decide) (by decide) (by decide)) ?_
  show Go p e below _ (s₁.setTop (mkF m 17 #[.val (.int (2 : Int32))] []))
  refine Go.via (fun _ => XS.iloadN X0.here hx rfl (hb hby d6_17) rfl) ?_
  show Go p e below _ (s₁.setTop (mkF m 18 #[.val (.int (2 : Int32))] [(.int (2 : Int32))]))
  refine Go.via (fun _ => XS.iconst X0.here hx rfl (hb hby d6_18)) ?_
  show Go p e below _ (s₁.setTop (mkF m 19 #[.val (.int (2 : Int32))] [(.int (2 : Int32)), (.int (2 : Int32))]))
  refine Go.via (fun _ => XS.icmpNo X0.here hx rfl (hb hby d6_19) rfl (by decide)) ?_
  show Go p e below _ (s₁.setTop (mkF m 22 #[.val (.int (2 : Int32))] []))
  obtain ⟨T101, X101, e101, st101⟩ := getS2 X0 hx hZ hown (host := "") (Or.inl (hw _ (List.mem_of_getElem? (i := 98) rfl))) Via.refl e0 (S_REASSIGN.ext O0.2) (g := (mkF m 22 #[.val (.int (2 : Int32))] [])) rfl (hb hby d6_22)
  refine Go.via st101 ?_
  show Go p e below _ (T101.setTop (mkF m 25 #[.val (.int (2 : Int32))] [(.ref w_REASSIGN)]))
  exact own_retA X101 hx hlk Bd.returns rfl rfl (hb hby d6_25) (by show QPick0 Z h0 n0 _ T101.heap _; rw [e101]; exact ⟨w_REASSIGN, rfl, N0, rfl, E_REASSIGN.ext O0.2, F_REASSIGN.ext O0.2⟩) (by decide) (by decide)
theorem ef_rmPk_3 (m : MethodId)  : entryFrame m #[(.int (3 : Int32))] 1 = mkF m 0 #[.val (.int (3 : Int32))] [] := by first | (simp [entryFrame, mkF, argsToLocals, Value.category]; done) | rfl
set_option maxRecDepth 65536 in
set_option maxHeartbeats 40000000 in
theorem rmPk_3 (l : Launch) (Z : State) (a0 : Array Value) (hw : ∀ d ∈ tables_1, d.before a0 Z = true) (ws : List Jvm.Cond) (w_SCHEDULE : Addr) (w_ASSIGN : Addr) (w_REASSIGN : Addr) (w_WITHDRAW : Addr) (w_START : Addr) (w_SUSPEND : Addr) (w_RESUME : Addr) (w_COMPLETE : Addr) (w_ATE_ABORT : Addr) (w_PI_ABORT : Addr) (w_MANUALSKIP : Addr) (w_AUTOSKIP : Addr) (w_UNKNOWN : Addr) (h0 : Heap) (n0 : Nat) (Z0 : n0 ≤ h0.size) (O0 : Old Z n0 h0) (S_SCHEDULE : Sta Z Z.heap "com/example/permits_from_duties/permitsfromduties/Event$Transition" "SCHEDULE" "Lcom/example/permits_from_duties/permitsfromduties/Event$Transition;" (.ref w_SCHEDULE)) (S_ASSIGN : Sta Z Z.heap "com/example/permits_from_duties/permitsfromduties/Event$Transition" "ASSIGN" "Lcom/example/permits_from_duties/permitsfromduties/Event$Transition;" (.ref w_ASSIGN)) (S_REASSIGN : Sta Z Z.heap "com/example/permits_from_duties/permitsfromduties/Event$Transition" "REASSIGN" "Lcom/example/permits_from_duties/permitsfromduties/Event$Transition;" (.ref w_REASSIGN)) (S_WITHDRAW : Sta Z Z.heap "com/example/permits_from_duties/permitsfromduties/Event$Transition" "WITHDRAW" "Lcom/example/permits_from_duties/permitsfromduties/Event$Transition;" (.ref w_WITHDRAW)) (S_START : Sta Z Z.heap "com/example/permits_from_duties/permitsfromduties/Event$Transition" "START" "Lcom/example/permits_from_duties/permitsfromduties/Event$Transition;" (.ref w_START)) (S_SUSPEND : Sta Z Z.heap "com/example/permits_from_duties/permitsfromduties/Event$Transition" "SUSPEND" "Lcom/example/permits_from_duties/permitsfromduties/Event$Transition;" (.ref w_SUSPEND)) (S_RESUME : Sta Z Z.heap "com/example/permits_from_duties/permitsfromduties/Event$Transition" "RESUME" "Lcom/example/permits_from_duties/permitsfromduties/Event$Transition;" (.ref w_RESUME)) (S_COMPLETE : Sta Z Z.heap "com/example/permits_from_duties/permitsfromduties/Event$Transition" "COMPLETE" "Lcom/example/permits_from_duties/permitsfromduties/Event$Transition;" (.ref w_COMPLETE)) (S_ATE_ABORT : Sta Z Z.heap "com/example/permits_from_duties/permitsfromduties/Event$Transition" "ATE_ABORT" "Lcom/example/permits_from_duties/permitsfromduties/Event$Transition;" (.ref w_ATE_ABORT)) (S_PI_ABORT : Sta Z Z.heap "com/example/permits_from_duties/permitsfromduties/Event$Transition" "PI_ABORT" "Lcom/example/permits_from_duties/permitsfromduties/Event$Transition;" (.ref w_PI_ABORT)) (S_MANUALSKIP : Sta Z Z.heap "com/example/permits_from_duties/permitsfromduties/Event$Transition" "MANUALSKIP" "Lcom/example/permits_from_duties/permitsfromduties/Event$Transition;" (.ref w_MANUALSKIP)) (S_AUTOSKIP : Sta Z Z.heap "com/example/permits_from_duties/permitsfromduties/Event$Transition" "AUTOSKIP" "Lcom/example/permits_from_duties/permitsfromduties/Event$Transition;" (.ref w_AUTOSKIP)) (S_UNKNOWN : Sta Z Z.heap "com/example/permits_from_duties/permitsfromduties/Event$Transition" "UNKNOWN" "Lcom/example/permits_from_duties/permitsfromduties/Event$Transition;" (.ref w_UNKNOWN)) (E_SCHEDULE : Exa Z Z.heap w_SCHEDULE "com/example/permits_from_duties/permitsfromduties/Event$Transition") (E_ASSIGN : Exa Z Z.heap w_ASSIGN "com/example/permits_from_duties/permitsfromduties/Event$Transition") (E_REASSIGN : Exa Z Z.heap w_REASSIGN "com/example/permits_from_duties/permitsfromduties/Event$Transition") (E_WITHDRAW : Exa Z Z.heap w_WITHDRAW "com/example/permits_from_duties/permitsfromduties/Event$Transition") (E_START : Exa Z Z.heap w_START "com/example/permits_from_duties/permitsfromduties/Event$Transition") (E_SUSPEND : Exa Z Z.heap w_SUSPEND "com/example/permits_from_duties/permitsfromduties/Event$Transition") (E_RESUME : Exa Z Z.heap w_RESUME "com/example/permits_from_duties/permitsfromduties/Event$Transition") (E_COMPLETE : Exa Z Z.heap w_COMPLETE "com/example/permits_from_duties/permitsfromduties/Event$Transition") (E_ATE_ABORT : Exa Z Z.heap w_ATE_ABORT "com/example/permits_from_duties/permitsfromduties/Event$Transition") (E_PI_ABORT : Exa Z Z.heap w_PI_ABORT "com/example/permits_from_duties/permitsfromduties/Event$Transition") (E_MANUALSKIP : Exa Z Z.heap w_MANUALSKIP "com/example/permits_from_duties/permitsfromduties/Event$Transition") (E_AUTOSKIP : Exa Z Z.heap w_AUTOSKIP "com/example/permits_from_duties/permitsfromduties/Event$Transition") (E_UNKNOWN : Exa Z Z.heap w_UNKNOWN "com/example/permits_from_duties/permitsfromduties/Event$Transition") (F_SCHEDULE : Fld Z Z.heap w_SCHEDULE "com/example/permits_from_duties/permitsfromduties/Event$Transition" "work" "Z" (.int (0 : Int32))) (F_ASSIGN : Fld Z Z.heap w_ASSIGN "com/example/permits_from_duties/permitsfromduties/Event$Transition" "work" "Z" (.int (0 : Int32))) (F_REASSIGN : Fld Z Z.heap w_REASSIGN "com/example/permits_from_duties/permitsfromduties/Event$Transition" "work" "Z" (.int (0 : Int32))) (F_WITHDRAW : Fld Z Z.heap w_WITHDRAW "com/example/permits_from_duties/permitsfromduties/Event$Transition" "work" "Z" (.int (0 : Int32))) (F_START : Fld Z Z.heap w_START "com/example/permits_from_duties/permitsfromduties/Event$Transition" "work" "Z" (.int (1 : Int32))) (F_SUSPEND : Fld Z Z.heap w_SUSPEND "com/example/permits_from_duties/permitsfromduties/Event$Transition" "work" "Z" (.int (1 : Int32))) (F_RESUME : Fld Z Z.heap w_RESUME "com/example/permits_from_duties/permitsfromduties/Event$Transition" "work" "Z" (.int (1 : Int32))) (F_COMPLETE : Fld Z Z.heap w_COMPLETE "com/example/permits_from_duties/permitsfromduties/Event$Transition" "work" "Z" (.int (1 : Int32))) (F_ATE_ABORT : Fld Z Z.heap w_ATE_ABORT "com/example/permits_from_duties/permitsfromduties/Event$Transition" "work" "Z" (.int (1 : Int32))) (F_PI_ABORT : Fld Z Z.heap w_PI_ABORT "com/example/permits_from_duties/permitsfromduties/Event$Transition" "work" "Z" (.int (0 : Int32))) (F_MANUALSKIP : Fld Z Z.heap w_MANUALSKIP "com/example/permits_from_duties/permitsfromduties/Event$Transition" "work" "Z" (.int (0 : Int32))) (F_AUTOSKIP : Fld Z Z.heap w_AUTOSKIP "com/example/permits_from_duties/permitsfromduties/Event$Transition" "work" "Z" (.int (0 : Int32))) (F_UNKNOWN : Fld Z Z.heap w_UNKNOWN "com/example/permits_from_duties/permitsfromduties/Event$Transition" "work" "Z" (.int (1 : Int32))) :
    MetFree l (⟨"com/example/permits_from_duties/permitsfromduties/EventPerformerPinLaw", "pick", "(I)Lcom/example/permits_from_duties/permitsfromduties/Event$Transition;"⟩ : MethodName) (head1 (Jvm.Cond.code (⟨"com/example/permits_from_duties/permitsfromduties/EventPerformerPinLaw", "pick", "(I)Lcom/example/permits_from_duties/permitsfromduties/Event$Transition;"⟩ : MethodName) method_3_code 1 (some (.object "com/example/permits_from_duties/permitsfromduties/Event$Transition")) :: ws) ({ frames := 0, cells := 0, slots := 0, locals := 0 } : Room)) (fun a U => a = #[(.int (3 : Int32))] ∧ Z.Warmed39 U.vm ∧ U.heap = h0) (fun _ _ _ _ _ => True) (fun _ U o U' => ∃ v L, o = .returned v ∧ QPick0 Z h0 n0 v U'.heap L ∧ FrameEnd U o U' L ({ frames := 0, cells := 0, slots := 0, locals := 0 } : Room).cells ({ frames := 0, cells := 0, slots := 0, locals := 0 } : Room).slots) := by
  refine MetFree.of_bodySF (plainFor_of_name pn_com_example_permits_from_duties_permitsfromduties_EventPerformerPinLaw) hisR ?_
  intro p e s m args below meth c s₁ Bd hml0 hP hK
  obtain ⟨rfl, hZ, hh⟩ := hP
  have hx := Bd.exec
  have hby := Bd.bytes
  have hlk : meth.locks = false := Bd.notSynchronized
  have hml : c.maxLocals = 1 := hml0
  have hown : s.vm.findClass "com/example/permits_from_duties/permitsfromduties/EventPerformerPinLaw" = some m.cls := findClass_of_methodNamed Bd.named
  have hnm := (name_of_methodNamed Bd.named Bd.method).1
  have X0 : Stand p l e ({ frames := 0, cells := 0, slots := 0, locals := 0 } : Room) s m #[(.int (3 : Int32))] below meth c s₁ [] 0 0 := Stand.of_body Bd
  have e0 : s₁.heap = h0 := by rw [← hh, Bd.state]; rfl
  have N0 := Fr.nil n0
  show Go p e below (FinE s below (QPick0 Z h0 n0) ({ frames := 0, cells := 0, slots := 0, locals := 0 } : Room).cells ({ frames := 0, cells := 0, slots := 0, locals := 0 } : Room).slots) (s₁.setTop (entryFrame m #[(.int (3 : Int32))] 1))
  refine Go.via (fun t k => castTop (ef_rmPk_3 m ) k) ?_
  show Go p e below _ (s₁.setTop (mkF m 0 #[.val (.int (3 : Int32))] []))
  refine Go.via (fun _ => XS.iloadN X0.here hx rfl (hb hby d6_0) rfl) ?_
  show Go p e below _ (s₁.setTop (mkF m 1 #[.val (.int (3 : Int32))] [(.int (3 : Int32))]))
  refine Go.via (fun _ => XS.ifYes X0.here hx rfl (pc0 := 1) (pc' := 8) rfl (hb hby d6_1) rfl (by decide) (by decide) (by decide)) ?_
  show Go p e below _ (s₁.setTop (mkF m 8 #[.val (.int (3 : Int32))] []))
  refine Go.via (fun _ => XS.iloadN X0.here hx rfl (hb hby d6_8) rfl) ?_
  show Go p e below _ (s₁.setTop (mkF m 9 #[.val (.int (3 : Int32))] [(.int (3 : Int32))]))
  refine Go.via (fun _ => XS.iconst X0.here hx rfl (hb hby d6_9)) ?_
  show Go p e below _ (s₁.setTop (mkF m 10 #[.val (.int (3 : Int32))] [(.int (1 : Int32)), (.int (3 : Int32))]))
  refine Go.via (fun _ => XS.icmpYes X0.here hx rfl (pc0 := 10) (pc' := 17) rfl (hb hby d6_10) rfl (by decide) (by decide) (by decide)) ?_
  show Go p e below _ (s₁.setTop (mkF m 17 #[.val (.int (3 : Int32))] []))
  refine Go.via (fun _ => XS.iloadN X0.here hx rfl (hb hby d6_17) rfl) ?_
  show Go p e below _ (s₁.setTop (mkF m 18 #[.val (.int (3 : Int32))] [(.int (3 : Int32))]))
  refine Go.via (fun _ => XS.iconst X0.here hx rfl (hb hby d6_18)) ?_
  show Go p e below _ (s₁.setTop (mkF m 19 #[.val (.int (3 : Int32))] [(.int (2 : Int32)), (.int (3 : Int32))]))
  refine Go.via (fun _ => XS.icmpYes X0.here hx rfl (pc0 := 19) (pc' := 26) rfl (hb hby d6_19) rfl (by decide) (by decide) (by decide)) ?_
  show Go p e below _ (s₁.setTop (mkF m 26 #[.val (.int (3 : Int32))] []))
  refine Go.via (fun _ => XS.iloadN X0.here hx rfl (hb hby d6_26) rfl) ?_
  show Go p e below _ (s₁.setTop (mkF m 27 #[.val (.int (3 : Int32))] [(.int (3 : Int32))]))
  refine Go.via (fun _ => XS.iconst X0.here hx rfl (hb hby d6_27)) ?_
  show Go p e below _ (s₁.setTop (mkF m 28 #[.val (.int (3 : Int32))] [(.int (3 : Int32)), (.int (3 : Int32))]))
  refine Go.via (fun _ => XS.icmpNo X0.here hx rfl (hb hby d6_28) rfl (by decide)) ?_
  show Go p e below _ (s₁.setTop (mkF m 31 #[.val (.int (3 : Int32))] []))
  obtain ⟨T101, X101, e101, st101⟩ := getS2 X0 hx hZ hown (host := "") (Or.inl (hw _ (List.mem_of_getElem? (i := 119) rfl))) Via.refl e0 (S_WITHDRAW.ext O0.2) (g := (mkF m 31 #[.val (.int (3 : Int32))] [])) rfl (hb hby d6_31)
  refine Go.via st101 ?_
  show Go p e below _ (T101.setTop (mkF m 34 #[.val (.int (3 : Int32))] [(.ref w_WITHDRAW)]))
  exact own_retA X101 hx hlk Bd.returns rfl rfl (hb hby d6_34) (by show QPick0 Z h0 n0 _ T101.heap _; rw [e101]; exact ⟨w_WITHDRAW, rfl, N0, rfl, E_WITHDRAW.ext O0.2, F_WITHDRAW.ext O0.2⟩) (by decide) (by decide)
theorem ef_rmPk_4 (m : MethodId)  : entryFrame m #[(.int (4 : Int32))] 1 = mkF m 0 #[.val (.int (4 : Int32))] [] := by first | (simp [entryFrame, mkF, argsToLocals, Value.category]; done) | rfl
set_option maxRecDepth 65536 in
set_option maxHeartbeats 40000000 in
theorem rmPk_4 (l : Launch) (Z : State) (a0 : Array Value) (hw : ∀ d ∈ tables_1, d.before a0 Z = true) (ws : List Jvm.Cond) (w_SCHEDULE : Addr) (w_ASSIGN : Addr) (w_REASSIGN : Addr) (w_WITHDRAW : Addr) (w_START : Addr) (w_SUSPEND : Addr) (w_RESUME : Addr) (w_COMPLETE : Addr) (w_ATE_ABORT : Addr) (w_PI_ABORT : Addr) (w_MANUALSKIP : Addr) (w_AUTOSKIP : Addr) (w_UNKNOWN : Addr) (h0 : Heap) (n0 : Nat) (Z0 : n0 ≤ h0.size) (O0 : Old Z n0 h0) (S_SCHEDULE : Sta Z Z.heap "com/example/permits_from_duties/permitsfromduties/Event$Transition" "SCHEDULE" "Lcom/example/permits_from_duties/permitsfromduties/Event$Transition;" (.ref w_SCHEDULE)) (S_ASSIGN : Sta Z Z.heap "com/example/permits_from_duties/permitsfromduties/Event$Transition" "ASSIGN" "Lcom/example/permits_from_duties/permitsfromduties/Event$Transition;" (.ref w_ASSIGN)) (S_REASSIGN : Sta Z Z.heap "com/example/permits_from_duties/permitsfromduties/Event$Transition" "REASSIGN" "Lcom/example/permits_from_duties/permitsfromduties/Event$Transition;" (.ref w_REASSIGN)) (S_WITHDRAW : Sta Z Z.heap "com/example/permits_from_duties/permitsfromduties/Event$Transition" "WITHDRAW" "Lcom/example/permits_from_duties/permitsfromduties/Event$Transition;" (.ref w_WITHDRAW)) (S_START : Sta Z Z.heap "com/example/permits_from_duties/permitsfromduties/Event$Transition" "START" "Lcom/example/permits_from_duties/permitsfromduties/Event$Transition;" (.ref w_START)) (S_SUSPEND : Sta Z Z.heap "com/example/permits_from_duties/permitsfromduties/Event$Transition" "SUSPEND" "Lcom/example/permits_from_duties/permitsfromduties/Event$Transition;" (.ref w_SUSPEND)) (S_RESUME : Sta Z Z.heap "com/example/permits_from_duties/permitsfromduties/Event$Transition" "RESUME" "Lcom/example/permits_from_duties/permitsfromduties/Event$Transition;" (.ref w_RESUME)) (S_COMPLETE : Sta Z Z.heap "com/example/permits_from_duties/permitsfromduties/Event$Transition" "COMPLETE" "Lcom/example/permits_from_duties/permitsfromduties/Event$Transition;" (.ref w_COMPLETE)) (S_ATE_ABORT : Sta Z Z.heap "com/example/permits_from_duties/permitsfromduties/Event$Transition" "ATE_ABORT" "Lcom/example/permits_from_duties/permitsfromduties/Event$Transition;" (.ref w_ATE_ABORT)) (S_PI_ABORT : Sta Z Z.heap "com/example/permits_from_duties/permitsfromduties/Event$Transition" "PI_ABORT" "Lcom/example/permits_from_duties/permitsfromduties/Event$Transition;" (.ref w_PI_ABORT)) (S_MANUALSKIP : Sta Z Z.heap "com/example/permits_from_duties/permitsfromduties/Event$Transition" "MANUALSKIP" "Lcom/example/permits_from_duties/permitsfromduties/Event$Transition;" (.ref w_MANUALSKIP)) (S_AUTOSKIP : Sta Z Z.heap "com/example/permits_from_duties/permitsfromduties/Event$Transition" "AUTOSKIP" "Lcom/example/permits_from_duties/permitsfromduties/Event$Transition;" (.ref w_AUTOSKIP)) (S_UNKNOWN : Sta Z Z.heap "com/example/permits_from_duties/permitsfromduties/Event$Transition" "UNKNOWN" "Lcom/example/permits_from_duties/permitsfromduties/Event$Transition;" (.ref w_UNKNOWN)) (E_SCHEDULE : Exa Z Z.heap w_SCHEDULE "com/example/permits_from_duties/permitsfromduties/Event$Transition") (E_ASSIGN : Exa Z Z.heap w_ASSIGN "com/example/permits_from_duties/permitsfromduties/Event$Transition") (E_REASSIGN : Exa Z Z.heap w_REASSIGN "com/example/permits_from_duties/permitsfromduties/Event$Transition") (E_WITHDRAW : Exa Z Z.heap w_WITHDRAW "com/example/permits_from_duties/permitsfromduties/Event$Transition") (E_START : Exa Z Z.heap w_START "com/example/permits_from_duties/permitsfromduties/Event$Transition") (E_SUSPEND : Exa Z Z.heap w_SUSPEND "com/example/permits_from_duties/permitsfromduties/Event$Transition") (E_RESUME : Exa Z Z.heap w_RESUME "com/example/permits_from_duties/permitsfromduties/Event$Transition") (E_COMPLETE : Exa Z Z.heap w_COMPLETE "com/example/permits_from_duties/permitsfromduties/Event$Transition") (E_ATE_ABORT : Exa Z Z.heap w_ATE_ABORT "com/example/permits_from_duties/permitsfromduties/Event$Transition") (E_PI_ABORT : Exa Z Z.heap w_PI_ABORT "com/example/permits_from_duties/permitsfromduties/Event$Transition") (E_MANUALSKIP : Exa Z Z.heap w_MANUALSKIP "com/example/permits_from_duties/permitsfromduties/Event$Transition") (E_AUTOSKIP : Exa Z Z.heap w_AUTOSKIP "com/example/permits_from_duties/permitsfromduties/Event$Transition") (E_UNKNOWN : Exa Z Z.heap w_UNKNOWN "com/example/permits_from_duties/permitsfromduties/Event$Transition") (F_SCHEDULE : Fld Z Z.heap w_SCHEDULE "com/example/permits_from_duties/permitsfromduties/Event$Transition" "work" "Z" (.int (0 : Int32))) (F_ASSIGN : Fld Z Z.heap w_ASSIGN "com/example/permits_from_duties/permitsfromduties/Event$Transition" "work" "Z" (.int (0 : Int32))) (F_REASSIGN : Fld Z Z.heap w_REASSIGN "com/example/permits_from_duties/permitsfromduties/Event$Transition" "work" "Z" (.int (0 : Int32))) (F_WITHDRAW : Fld Z Z.heap w_WITHDRAW "com/example/permits_from_duties/permitsfromduties/Event$Transition" "work" "Z" (.int (0 : Int32))) (F_START : Fld Z Z.heap w_START "com/example/permits_from_duties/permitsfromduties/Event$Transition" "work" "Z" (.int (1 : Int32))) (F_SUSPEND : Fld Z Z.heap w_SUSPEND "com/example/permits_from_duties/permitsfromduties/Event$Transition" "work" "Z" (.int (1 : Int32))) (F_RESUME : Fld Z Z.heap w_RESUME "com/example/permits_from_duties/permitsfromduties/Event$Transition" "work" "Z" (.int (1 : Int32))) (F_COMPLETE : Fld Z Z.heap w_COMPLETE "com/example/permits_from_duties/permitsfromduties/Event$Transition" "work" "Z" (.int (1 : Int32))) (F_ATE_ABORT : Fld Z Z.heap w_ATE_ABORT "com/example/permits_from_duties/permitsfromduties/Event$Transition" "work" "Z" (.int (1 : Int32))) (F_PI_ABORT : Fld Z Z.heap w_PI_ABORT "com/example/permits_from_duties/permitsfromduties/Event$Transition" "work" "Z" (.int (0 : Int32))) (F_MANUALSKIP : Fld Z Z.heap w_MANUALSKIP "com/example/permits_from_duties/permitsfromduties/Event$Transition" "work" "Z" (.int (0 : Int32))) (F_AUTOSKIP : Fld Z Z.heap w_AUTOSKIP "com/example/permits_from_duties/permitsfromduties/Event$Transition" "work" "Z" (.int (0 : Int32))) (F_UNKNOWN : Fld Z Z.heap w_UNKNOWN "com/example/permits_from_duties/permitsfromduties/Event$Transition" "work" "Z" (.int (1 : Int32))) :
    MetFree l (⟨"com/example/permits_from_duties/permitsfromduties/EventPerformerPinLaw", "pick", "(I)Lcom/example/permits_from_duties/permitsfromduties/Event$Transition;"⟩ : MethodName) (head1 (Jvm.Cond.code (⟨"com/example/permits_from_duties/permitsfromduties/EventPerformerPinLaw", "pick", "(I)Lcom/example/permits_from_duties/permitsfromduties/Event$Transition;"⟩ : MethodName) method_3_code 1 (some (.object "com/example/permits_from_duties/permitsfromduties/Event$Transition")) :: ws) ({ frames := 0, cells := 0, slots := 0, locals := 0 } : Room)) (fun a U => a = #[(.int (4 : Int32))] ∧ Z.Warmed39 U.vm ∧ U.heap = h0) (fun _ _ _ _ _ => True) (fun _ U o U' => ∃ v L, o = .returned v ∧ QPick1 Z h0 n0 v U'.heap L ∧ FrameEnd U o U' L ({ frames := 0, cells := 0, slots := 0, locals := 0 } : Room).cells ({ frames := 0, cells := 0, slots := 0, locals := 0 } : Room).slots) := by
  refine MetFree.of_bodySF (plainFor_of_name pn_com_example_permits_from_duties_permitsfromduties_EventPerformerPinLaw) hisR ?_
  intro p e s m args below meth c s₁ Bd hml0 hP hK
  obtain ⟨rfl, hZ, hh⟩ := hP
  have hx := Bd.exec
  have hby := Bd.bytes
  have hlk : meth.locks = false := Bd.notSynchronized
  have hml : c.maxLocals = 1 := hml0
  have hown : s.vm.findClass "com/example/permits_from_duties/permitsfromduties/EventPerformerPinLaw" = some m.cls := findClass_of_methodNamed Bd.named
  have hnm := (name_of_methodNamed Bd.named Bd.method).1
  have X0 : Stand p l e ({ frames := 0, cells := 0, slots := 0, locals := 0 } : Room) s m #[(.int (4 : Int32))] below meth c s₁ [] 0 0 := Stand.of_body Bd
  have e0 : s₁.heap = h0 := by rw [← hh, Bd.state]; rfl
  have N0 := Fr.nil n0
  show Go p e below (FinE s below (QPick1 Z h0 n0) ({ frames := 0, cells := 0, slots := 0, locals := 0 } : Room).cells ({ frames := 0, cells := 0, slots := 0, locals := 0 } : Room).slots) (s₁.setTop (entryFrame m #[(.int (4 : Int32))] 1))
  refine Go.via (fun t k => castTop (ef_rmPk_4 m ) k) ?_
  show Go p e below _ (s₁.setTop (mkF m 0 #[.val (.int (4 : Int32))] []))
  refine Go.via (fun _ => XS.iloadN X0.here hx rfl (hb hby d6_0) rfl) ?_
  show Go p e below _ (s₁.setTop (mkF m 1 #[.val (.int (4 : Int32))] [(.int (4 : Int32))]))
  refine Go.via (fun _ => XS.ifYes X0.here hx rfl (pc0 := 1) (pc' := 8) rfl (hb hby d6_1) rfl (by decide) (by decide) (by decide)) ?_
  show Go p e below _ (s₁.setTop (mkF m 8 #[.val (.int (4 : Int32))] []))
  refine Go.via (fun _ => XS.iloadN X0.here hx rfl (hb hby d6_8) rfl) ?_
  show Go p e below _ (s₁.setTop (mkF m 9 #[.val (.int (4 : Int32))] [(.int (4 : Int32))]))
  refine Go.via (fun _ => XS.iconst X0.here hx rfl (hb hby d6_9)) ?_
  show Go p e below _ (s₁.setTop (mkF m 10 #[.val (.int (4 : Int32))] [(.int (1 : Int32)), (.int (4 : Int32))]))
  refine Go.via (fun _ => XS.icmpYes X0.here hx rfl (pc0 := 10) (pc' := 17) rfl (hb hby d6_10) rfl (by decide) (by decide) (by decide)) ?_
  show Go p e below _ (s₁.setTop (mkF m 17 #[.val (.int (4 : Int32))] []))
  refine Go.via (fun _ => XS.iloadN X0.here hx rfl (hb hby d6_17) rfl) ?_
  show Go p e below _ (s₁.setTop (mkF m 18 #[.val (.int (4 : Int32))] [(.int (4 : Int32))]))
  refine Go.via (fun _ => XS.iconst X0.here hx rfl (hb hby d6_18)) ?_
  show Go p e below _ (s₁.setTop (mkF m 19 #[.val (.int (4 : Int32))] [(.int (2 : Int32)), (.int (4 : Int32))]))
  refine Go.via (fun _ => XS.icmpYes X0.here hx rfl (pc0 := 19) (pc' := 26) rfl (hb hby d6_19) rfl (by decide) (by decide) (by decide)) ?_
  show Go p e below _ (s₁.setTop (mkF m 26 #[.val (.int (4 : Int32))] []))
  refine Go.via (fun _ => XS.iloadN X0.here hx rfl (hb hby d6_26) rfl) ?_
  show Go p e below _ (s₁.setTop (mkF m 27 #[.val (.int (4 : Int32))] [(.int (4 : Int32))]))
  refine Go.via (fun _ => XS.iconst X0.here hx rfl (hb hby d6_27)) ?_
  show Go p e below _ (s₁.setTop (mkF m 28 #[.val (.int (4 : Int32))] [(.int (3 : Int32)), (.int (4 : Int32))]))
  refine Go.via (fun _ => XS.icmpYes X0.here hx rfl (pc0 := 28) (pc' := 35) rfl (hb hby d6_28) rfl (by decide) (by decide) (by decide)) ?_
  show Go p e below _ (s₁.setTop (mkF m 35 #[.val (.int (4 : Int32))] []))
  refine Go.via (fun _ => XS.iloadN X0.here hx rfl (hb hby d6_35) rfl) ?_
  show Go p e below _ (s₁.setTop (mkF m 36 #[.val (.int (4 : Int32))] [(.int (4 : Int32))]))
  refine Go.via (fun _ => XS.iconst X0.here hx rfl (hb hby d6_36)) ?_
  show Go p e below _ (s₁.setTop (mkF m 37 #[.val (.int (4 : Int32))] [(.int (4 : Int32)), (.int (4 : Int32))]))
  refine Go.via (fun _ => XS.icmpNo X0.here hx rfl (hb hby d6_37) rfl (by decide)) ?_
  show Go p e below _ (s₁.setTop (mkF m 40 #[.val (.int (4 : Int32))] []))
  obtain ⟨T101, X101, e101, st101⟩ := getS2 X0 hx hZ hown (host := "") (Or.inl (hw _ (List.mem_of_getElem? (i := 137) rfl))) Via.refl e0 (S_START.ext O0.2) (g := (mkF m 40 #[.val (.int (4 : Int32))] [])) rfl (hb hby d6_40)
  refine Go.via st101 ?_
  show Go p e below _ (T101.setTop (mkF m 43 #[.val (.int (4 : Int32))] [(.ref w_START)]))
  exact own_retA X101 hx hlk Bd.returns rfl rfl (hb hby d6_43) (by show QPick1 Z h0 n0 _ T101.heap _; rw [e101]; exact ⟨w_START, rfl, N0, rfl, E_START.ext O0.2, F_START.ext O0.2⟩) (by decide) (by decide)
theorem ef_rmPk_5 (m : MethodId)  : entryFrame m #[(.int (5 : Int32))] 1 = mkF m 0 #[.val (.int (5 : Int32))] [] := by first | (simp [entryFrame, mkF, argsToLocals, Value.category]; done) | rfl
set_option maxRecDepth 65536 in
set_option maxHeartbeats 40000000 in
theorem rmPk_5 (l : Launch) (Z : State) (a0 : Array Value) (hw : ∀ d ∈ tables_1, d.before a0 Z = true) (ws : List Jvm.Cond) (w_SCHEDULE : Addr) (w_ASSIGN : Addr) (w_REASSIGN : Addr) (w_WITHDRAW : Addr) (w_START : Addr) (w_SUSPEND : Addr) (w_RESUME : Addr) (w_COMPLETE : Addr) (w_ATE_ABORT : Addr) (w_PI_ABORT : Addr) (w_MANUALSKIP : Addr) (w_AUTOSKIP : Addr) (w_UNKNOWN : Addr) (h0 : Heap) (n0 : Nat) (Z0 : n0 ≤ h0.size) (O0 : Old Z n0 h0) (S_SCHEDULE : Sta Z Z.heap "com/example/permits_from_duties/permitsfromduties/Event$Transition" "SCHEDULE" "Lcom/example/permits_from_duties/permitsfromduties/Event$Transition;" (.ref w_SCHEDULE)) (S_ASSIGN : Sta Z Z.heap "com/example/permits_from_duties/permitsfromduties/Event$Transition" "ASSIGN" "Lcom/example/permits_from_duties/permitsfromduties/Event$Transition;" (.ref w_ASSIGN)) (S_REASSIGN : Sta Z Z.heap "com/example/permits_from_duties/permitsfromduties/Event$Transition" "REASSIGN" "Lcom/example/permits_from_duties/permitsfromduties/Event$Transition;" (.ref w_REASSIGN)) (S_WITHDRAW : Sta Z Z.heap "com/example/permits_from_duties/permitsfromduties/Event$Transition" "WITHDRAW" "Lcom/example/permits_from_duties/permitsfromduties/Event$Transition;" (.ref w_WITHDRAW)) (S_START : Sta Z Z.heap "com/example/permits_from_duties/permitsfromduties/Event$Transition" "START" "Lcom/example/permits_from_duties/permitsfromduties/Event$Transition;" (.ref w_START)) (S_SUSPEND : Sta Z Z.heap "com/example/permits_from_duties/permitsfromduties/Event$Transition" "SUSPEND" "Lcom/example/permits_from_duties/permitsfromduties/Event$Transition;" (.ref w_SUSPEND)) (S_RESUME : Sta Z Z.heap "com/example/permits_from_duties/permitsfromduties/Event$Transition" "RESUME" "Lcom/example/permits_from_duties/permitsfromduties/Event$Transition;" (.ref w_RESUME)) (S_COMPLETE : Sta Z Z.heap "com/example/permits_from_duties/permitsfromduties/Event$Transition" "COMPLETE" "Lcom/example/permits_from_duties/permitsfromduties/Event$Transition;" (.ref w_COMPLETE)) (S_ATE_ABORT : Sta Z Z.heap "com/example/permits_from_duties/permitsfromduties/Event$Transition" "ATE_ABORT" "Lcom/example/permits_from_duties/permitsfromduties/Event$Transition;" (.ref w_ATE_ABORT)) (S_PI_ABORT : Sta Z Z.heap "com/example/permits_from_duties/permitsfromduties/Event$Transition" "PI_ABORT" "Lcom/example/permits_from_duties/permitsfromduties/Event$Transition;" (.ref w_PI_ABORT)) (S_MANUALSKIP : Sta Z Z.heap "com/example/permits_from_duties/permitsfromduties/Event$Transition" "MANUALSKIP" "Lcom/example/permits_from_duties/permitsfromduties/Event$Transition;" (.ref w_MANUALSKIP)) (S_AUTOSKIP : Sta Z Z.heap "com/example/permits_from_duties/permitsfromduties/Event$Transition" "AUTOSKIP" "Lcom/example/permits_from_duties/permitsfromduties/Event$Transition;" (.ref w_AUTOSKIP)) (S_UNKNOWN : Sta Z Z.heap "com/example/permits_from_duties/permitsfromduties/Event$Transition" "UNKNOWN" "Lcom/example/permits_from_duties/permitsfromduties/Event$Transition;" (.ref w_UNKNOWN)) (E_SCHEDULE : Exa Z Z.heap w_SCHEDULE "com/example/permits_from_duties/permitsfromduties/Event$Transition") (E_ASSIGN : Exa Z Z.heap w_ASSIGN "com/example/permits_from_duties/permitsfromduties/Event$Transition") (E_REASSIGN : Exa Z Z.heap w_REASSIGN "com/example/permits_from_duties/permitsfromduties/Event$Transition") (E_WITHDRAW : Exa Z Z.heap w_WITHDRAW "com/example/permits_from_duties/permitsfromduties/Event$Transition") (E_START : Exa Z Z.heap w_START "com/example/permits_from_duties/permitsfromduties/Event$Transition") (E_SUSPEND : Exa Z Z.heap w_SUSPEND "com/example/permits_from_duties/permitsfromduties/Event$Transition") (E_RESUME : Exa Z Z.heap w_RESUME "com/example/permits_from_duties/permitsfromduties/Event$Transition") (E_COMPLETE : Exa Z Z.heap w_COMPLETE "com/example/permits_from_duties/permitsfromduties/Event$Transition") (E_ATE_ABORT : Exa Z Z.heap w_ATE_ABORT "com/example/permits_from_duties/permitsfromduties/Event$Transition") (E_PI_ABORT : Exa Z Z.heap w_PI_ABORT "com/example/permits_from_duties/permitsfromduties/Event$Transition") (E_MANUALSKIP : Exa Z Z.heap w_MANUALSKIP "com/example/permits_from_duties/permitsfromduties/Event$Transition") (E_AUTOSKIP : Exa Z Z.heap w_AUTOSKIP "com/example/permits_from_duties/permitsfromduties/Event$Transition") (E_UNKNOWN : Exa Z Z.heap w_UNKNOWN "com/example/permits_from_duties/permitsfromduties/Event$Transition") (F_SCHEDULE : Fld Z Z.heap w_SCHEDULE "com/example/permits_from_duties/permitsfromduties/Event$Transition" "work" "Z" (.int (0 : Int32))) (F_ASSIGN : Fld Z Z.heap w_ASSIGN "com/example/permits_from_duties/permitsfromduties/Event$Transition" "work" "Z" (.int (0 : Int32))) (F_REASSIGN : Fld Z Z.heap w_REASSIGN "com/example/permits_from_duties/permitsfromduties/Event$Transition" "work" "Z" (.int (0 : Int32))) (F_WITHDRAW : Fld Z Z.heap w_WITHDRAW "com/example/permits_from_duties/permitsfromduties/Event$Transition" "work" "Z" (.int (0 : Int32))) (F_START : Fld Z Z.heap w_START "com/example/permits_from_duties/permitsfromduties/Event$Transition" "work" "Z" (.int (1 : Int32))) (F_SUSPEND : Fld Z Z.heap w_SUSPEND "com/example/permits_from_duties/permitsfromduties/Event$Transition" "work" "Z" (.int (1 : Int32))) (F_RESUME : Fld Z Z.heap w_RESUME "com/example/permits_from_duties/permitsfromduties/Event$Transition" "work" "Z" (.int (1 : Int32))) (F_COMPLETE : Fld Z Z.heap w_COMPLETE "com/example/permits_from_duties/permitsfromduties/Event$Transition" "work" "Z" (.int (1 : Int32))) (F_ATE_ABORT : Fld Z Z.heap w_ATE_ABORT "com/example/permits_from_duties/permitsfromduties/Event$Transition" "work" "Z" (.int (1 : Int32))) (F_PI_ABORT : Fld Z Z.heap w_PI_ABORT "com/example/permits_from_duties/permitsfromduties/Event$Transition" "work" "Z" (.int (0 : Int32))) (F_MANUALSKIP : Fld Z Z.heap w_MANUALSKIP "com/example/permits_from_duties/permitsfromduties/Event$Transition" "work" "Z" (.int (0 : Int32))) (F_AUTOSKIP : Fld Z Z.heap w_AUTOSKIP "com/example/permits_from_duties/permitsfromduties/Event$Transition" "work" "Z" (.int (0 : Int32))) (F_UNKNOWN : Fld Z Z.heap w_UNKNOWN "com/example/permits_from_duties/permitsfromduties/Event$Transition" "work" "Z" (.int (1 : Int32))) :
    MetFree l (⟨"com/example/permits_from_duties/permitsfromduties/EventPerformerPinLaw", "pick", "(I)Lcom/example/permits_from_duties/permitsfromduties/Event$Transition;"⟩ : MethodName) (head1 (Jvm.Cond.code (⟨"com/example/permits_from_duties/permitsfromduties/EventPerformerPinLaw", "pick", "(I)Lcom/example/permits_from_duties/permitsfromduties/Event$Transition;"⟩ : MethodName) method_3_code 1 (some (.object "com/example/permits_from_duties/permitsfromduties/Event$Transition")) :: ws) ({ frames := 0, cells := 0, slots := 0, locals := 0 } : Room)) (fun a U => a = #[(.int (5 : Int32))] ∧ Z.Warmed39 U.vm ∧ U.heap = h0) (fun _ _ _ _ _ => True) (fun _ U o U' => ∃ v L, o = .returned v ∧ QPick1 Z h0 n0 v U'.heap L ∧ FrameEnd U o U' L ({ frames := 0, cells := 0, slots := 0, locals := 0 } : Room).cells ({ frames := 0, cells := 0, slots := 0, locals := 0 } : Room).slots) := by
  refine MetFree.of_bodySF (plainFor_of_name pn_com_example_permits_from_duties_permitsfromduties_EventPerformerPinLaw) hisR ?_
  intro p e s m args below meth c s₁ Bd hml0 hP hK
  obtain ⟨rfl, hZ, hh⟩ := hP
  have hx := Bd.exec
  have hby := Bd.bytes
  have hlk : meth.locks = false := Bd.notSynchronized
  have hml : c.maxLocals = 1 := hml0
  have hown : s.vm.findClass "com/example/permits_from_duties/permitsfromduties/EventPerformerPinLaw" = some m.cls := findClass_of_methodNamed Bd.named
  have hnm := (name_of_methodNamed Bd.named Bd.method).1
  have X0 : Stand p l e ({ frames := 0, cells := 0, slots := 0, locals := 0 } : Room) s m #[(.int (5 : Int32))] below meth c s₁ [] 0 0 := Stand.of_body Bd
  have e0 : s₁.heap = h0 := by rw [← hh, Bd.state]; rfl
  have N0 := Fr.nil n0
  show Go p e below (FinE s below (QPick1 Z h0 n0) ({ frames := 0, cells := 0, slots := 0, locals := 0 } : Room).cells ({ frames := 0, cells := 0, slots := 0, locals := 0 } : Room).slots) (s₁.setTop (entryFrame m #[(.int (5 : Int32))] 1))
  refine Go.via (fun t k => castTop (ef_rmPk_5 m ) k) ?_
  show Go p e below _ (s₁.setTop (mkF m 0 #[.val (.int (5 : Int32))] []))
  refine Go.via (fun _ => XS.iloadN X0.here hx rfl (hb hby d6_0) rfl) ?_
  show Go p e below _ (s₁.setTop (mkF m 1 #[.val (.int (5 : Int32))] [(.int (5 : Int32))]))
  refine Go.via (fun _ => XS.ifYes X0.here hx rfl (pc0 := 1) (pc' := 8) rfl (hb hby d6_1) rfl (by decide) (by decide) (by decide)) ?_
  show Go p e below _ (s₁.setTop (mkF m 8 #[.val (.int (5 : Int32))] []))
  refine Go.via (fun _ => XS.iloadN X0.here hx rfl (hb hby d6_8) rfl) ?_
  show Go p e below _ (s₁.setTop (mkF m 9 #[.val (.int (5 : Int32))] [(.int (5 : Int32))]))
  refine Go.via (fun _ => XS.iconst X0.here hx rfl (hb hby d6_9)) ?_
  show Go p e below _ (s₁.setTop (mkF m 10 #[.val (.int (5 : Int32))] [(.int (1 : Int32)), (.int (5 : Int32))]))
  refine Go.via (fun _ => XS.icmpYes X0.here hx rfl (pc0 := 10) (pc' := 17) rfl (hb hby d6_10) rfl (by decide) (by decide) (by decide)) ?_
  show Go p e below _ (s₁.setTop (mkF m 17 #[.val (.int (5 : Int32))] []))
  refine Go.via (fun _ => XS.iloadN X0.here hx rfl (hb hby d6_17) rfl) ?_
  show Go p e below _ (s₁.setTop (mkF m 18 #[.val (.int (5 : Int32))] [(.int (5 : Int32))]))
  refine Go.via (fun _ => XS.iconst X0.here hx rfl (hb hby d6_18)) ?_
  show Go p e below _ (s₁.setTop (mkF m 19 #[.val (.int (5 : Int32))] [(.int (2 : Int32)), (.int (5 : Int32))]))
  refine Go.via (fun _ => XS.icmpYes X0.here hx rfl (pc0 := 19) (pc' := 26) rfl (hb hby d6_19) rfl (by decide) (by decide) (by decide)) ?_
  show Go p e below _ (s₁.setTop (mkF m 26 #[.val (.int (5 : Int32))] []))
  refine Go.via (fun _ => XS.iloadN X0.here hx rfl (hb hby d6_26) rfl) ?_
  show Go p e below _ (s₁.setTop (mkF m 27 #[.val (.int (5 : Int32))] [(.int (5 : Int32))]))
  refine Go.via (fun _ => XS.iconst X0.here hx rfl (hb hby d6_27)) ?_
  show Go p e below _ (s₁.setTop (mkF m 28 #[.val (.int (5 : Int32))] [(.int (3 : Int32)), (.int (5 : Int32))]))
  refine Go.via (fun _ => XS.icmpYes X0.here hx rfl (pc0 := 28) (pc' := 35) rfl (hb hby d6_28) rfl (by decide) (by decide) (by decide)) ?_
  show Go p e below _ (s₁.setTop (mkF m 35 #[.val (.int (5 : Int32))] []))
  refine Go.via (fun _ => XS.iloadN X0.here hx rfl (hb hby d6_35) rfl) ?_
  show Go p e below _ (s₁.setTop (mkF m 36 #[.val (.int (5 : Int32))] [(.int (5 : Int32))]))
  refine Go.via (fun _ => XS.iconst X0.here hx rfl (hb hby d6_36)) ?_
  show Go p e below _ (s₁.setTop (mkF m 37 #[.val (.int (5 : Int32))] [(.int (4 : Int32)), (.int (5 : Int32))]))
  refine Go.via (fun _ => XS.icmpYes X0.here hx rfl (pc0 := 37) (pc' := 44) rfl (hb hby d6_37) rfl (by decide) (by decide) (by decide)) ?_
  show Go p e below _ (s₁.setTop (mkF m 44 #[.val (.int (5 : Int32))] []))
  refine Go.via (fun _ => XS.iloadN X0.here hx rfl (hb hby d6_44) rfl) ?_
  show Go p e below _ (s₁.setTop (mkF m 45 #[.val (.int (5 : Int32))] [(.int (5 : Int32))]))
  refine Go.via (fun _ => XS.iconst X0.here hx rfl (hb hby d6_45)) ?_
  show Go p e below _ (s₁.setTop (mkF m 46 #[.val (.int (5 : Int32))] [(.int (5 : Int32)), (.int (5 : Int32))]))
  refine Go.via (fun _ => XS.icmpNo X0.here hx rfl (hb hby d6_46) rfl (by decide)) ?_
  show Go p e below _ (s₁.setTop (mkF m 49 #[.val (.int (5 : Int32))] []))
  obtain ⟨T101, X101, e101, st101⟩ := getS2 X0 hx hZ hown (host := "") (Or.inl (hw _ (List.mem_of_getElem? (i := 139) rfl))) Via.refl e0 (S_SUSPEND.ext O0.2) (g := (mkF m 49 #[.val (.int (5 : Int32))] [])) rfl (hb hby d6_49)
  refine Go.via st101 ?_
  show Go p e below _ (T101.setTop (mkF m 52 #[.val (.int (5 : Int32))] [(.ref w_SUSPEND)]))
  exact own_retA X101 hx hlk Bd.returns rfl rfl (hb hby d6_52) (by show QPick1 Z h0 n0 _ T101.heap _; rw [e101]; exact ⟨w_SUSPEND, rfl, N0, rfl, E_SUSPEND.ext O0.2, F_SUSPEND.ext O0.2⟩) (by decide) (by decide)
theorem ef_rmPk_6 (m : MethodId)  : entryFrame m #[(.int (6 : Int32))] 1 = mkF m 0 #[.val (.int (6 : Int32))] [] := by first | (simp [entryFrame, mkF, argsToLocals, Value.category]; done) | rfl
set_option maxRecDepth 65536 in
set_option maxHeartbeats 40000000 in
theorem rmPk_6 (l : Launch) (Z : State) (a0 : Array Value) (hw : ∀ d ∈ tables_1, d.before a0 Z = true) (ws : List Jvm.Cond) (w_SCHEDULE : Addr) (w_ASSIGN : Addr) (w_REASSIGN : Addr) (w_WITHDRAW : Addr) (w_START : Addr) (w_SUSPEND : Addr) (w_RESUME : Addr) (w_COMPLETE : Addr) (w_ATE_ABORT : Addr) (w_PI_ABORT : Addr) (w_MANUALSKIP : Addr) (w_AUTOSKIP : Addr) (w_UNKNOWN : Addr) (h0 : Heap) (n0 : Nat) (Z0 : n0 ≤ h0.size) (O0 : Old Z n0 h0) (S_SCHEDULE : Sta Z Z.heap "com/example/permits_from_duties/permitsfromduties/Event$Transition" "SCHEDULE" "Lcom/example/permits_from_duties/permitsfromduties/Event$Transition;" (.ref w_SCHEDULE)) (S_ASSIGN : Sta Z Z.heap "com/example/permits_from_duties/permitsfromduties/Event$Transition" "ASSIGN" "Lcom/example/permits_from_duties/permitsfromduties/Event$Transition;" (.ref w_ASSIGN)) (S_REASSIGN : Sta Z Z.heap "com/example/permits_from_duties/permitsfromduties/Event$Transition" "REASSIGN" "Lcom/example/permits_from_duties/permitsfromduties/Event$Transition;" (.ref w_REASSIGN)) (S_WITHDRAW : Sta Z Z.heap "com/example/permits_from_duties/permitsfromduties/Event$Transition" "WITHDRAW" "Lcom/example/permits_from_duties/permitsfromduties/Event$Transition;" (.ref w_WITHDRAW)) (S_START : Sta Z Z.heap "com/example/permits_from_duties/permitsfromduties/Event$Transition" "START" "Lcom/example/permits_from_duties/permitsfromduties/Event$Transition;" (.ref w_START)) (S_SUSPEND : Sta Z Z.heap "com/example/permits_from_duties/permitsfromduties/Event$Transition" "SUSPEND" "Lcom/example/permits_from_duties/permitsfromduties/Event$Transition;" (.ref w_SUSPEND)) (S_RESUME : Sta Z Z.heap "com/example/permits_from_duties/permitsfromduties/Event$Transition" "RESUME" "Lcom/example/permits_from_duties/permitsfromduties/Event$Transition;" (.ref w_RESUME)) (S_COMPLETE : Sta Z Z.heap "com/example/permits_from_duties/permitsfromduties/Event$Transition" "COMPLETE" "Lcom/example/permits_from_duties/permitsfromduties/Event$Transition;" (.ref w_COMPLETE)) (S_ATE_ABORT : Sta Z Z.heap "com/example/permits_from_duties/permitsfromduties/Event$Transition" "ATE_ABORT" "Lcom/example/permits_from_duties/permitsfromduties/Event$Transition;" (.ref w_ATE_ABORT)) (S_PI_ABORT : Sta Z Z.heap "com/example/permits_from_duties/permitsfromduties/Event$Transition" "PI_ABORT" "Lcom/example/permits_from_duties/permitsfromduties/Event$Transition;" (.ref w_PI_ABORT)) (S_MANUALSKIP : Sta Z Z.heap "com/example/permits_from_duties/permitsfromduties/Event$Transition" "MANUALSKIP" "Lcom/example/permits_from_duties/permitsfromduties/Event$Transition;" (.ref w_MANUALSKIP)) (S_AUTOSKIP : Sta Z Z.heap "com/example/permits_from_duties/permitsfromduties/Event$Transition" "AUTOSKIP" "Lcom/example/permits_from_duties/permitsfromduties/Event$Transition;" (.ref w_AUTOSKIP)) (S_UNKNOWN : Sta Z Z.heap "com/example/permits_from_duties/permitsfromduties/Event$Transition" "UNKNOWN" "Lcom/example/permits_from_duties/permitsfromduties/Event$Transition;" (.ref w_UNKNOWN)) (E_SCHEDULE : Exa Z Z.heap w_SCHEDULE "com/example/permits_from_duties/permitsfromduties/Event$Transition") (E_ASSIGN : Exa Z Z.heap w_ASSIGN "com/example/permits_from_duties/permitsfromduties/Event$Transition") (E_REASSIGN : Exa Z Z.heap w_REASSIGN "com/example/permits_from_duties/permitsfromduties/Event$Transition") (E_WITHDRAW : Exa Z Z.heap w_WITHDRAW "com/example/permits_from_duties/permitsfromduties/Event$Transition") (E_START : Exa Z Z.heap w_START "com/example/permits_from_duties/permitsfromduties/Event$Transition") (E_SUSPEND : Exa Z Z.heap w_SUSPEND "com/example/permits_from_duties/permitsfromduties/Event$Transition") (E_RESUME : Exa Z Z.heap w_RESUME "com/example/permits_from_duties/permitsfromduties/Event$Transition") (E_COMPLETE : Exa Z Z.heap w_COMPLETE "com/example/permits_from_duties/permitsfromduties/Event$Transition") (E_ATE_ABORT : Exa Z Z.heap w_ATE_ABORT "com/example/permits_from_duties/permitsfromduties/Event$Transition") (E_PI_ABORT : Exa Z Z.heap w_PI_ABORT "com/example/permits_from_duties/permitsfromduties/Event$Transition") (E_MANUALSKIP : Exa Z Z.heap w_MANUALSKIP "com/example/permits_from_duties/permitsfromduties/Event$Transition") (E_AUTOSKIP : Exa Z Z.heap w_AUTOSKIP "com/example/permits_from_duties/permitsfromduties/Event$Transition") (E_UNKNOWN : Exa Z Z.heap w_UNKNOWN "com/example/permits_from_duties/permitsfromduties/Event$Transition") (F_SCHEDULE : Fld Z Z.heap w_SCHEDULE "com/example/permits_from_duties/permitsfromduties/Event$Transition" "work" "Z" (.int (0 : Int32))) (F_ASSIGN : Fld Z Z.heap w_ASSIGN "com/example/permits_from_duties/permitsfromduties/Event$Transition" "work" "Z" (.int (0 : Int32))) (F_REASSIGN : Fld Z Z.heap w_REASSIGN "com/example/permits_from_duties/permitsfromduties/Event$Transition" "work" "Z" (.int (0 : Int32))) (F_WITHDRAW : Fld Z Z.heap w_WITHDRAW "com/example/permits_from_duties/permitsfromduties/Event$Transition" "work" "Z" (.int (0 : Int32))) (F_START : Fld Z Z.heap w_START "com/example/permits_from_duties/permitsfromduties/Event$Transition" "work" "Z" (.int (1 : Int32))) (F_SUSPEND : Fld Z Z.heap w_SUSPEND "com/example/permits_from_duties/permitsfromduties/Event$Transition" "work" "Z" (.int (1 : Int32))) (F_RESUME : Fld Z Z.heap w_RESUME "com/example/permits_from_duties/permitsfromduties/Event$Transition" "work" "Z" (.int (1 : Int32))) (F_COMPLETE : Fld Z Z.heap w_COMPLETE "com/example/permits_from_duties/permitsfromduties/Event$Transition" "work" "Z" (.int (1 : Int32))) (F_ATE_ABORT : Fld Z Z.heap w_ATE_ABORT "com/example/permits_from_duties/permitsfromduties/Event$Transition" "work" "Z" (.int (1 : Int32))) (F_PI_ABORT : Fld Z Z.heap w_PI_ABORT "com/example/permits_from_duties/permitsfromduties/Event$Transition" "work" "Z" (.int (0 : Int32))) (F_MANUALSKIP : Fld Z Z.heap w_MANUALSKIP "com/example/permits_from_duties/permitsfromduties/Event$Transition" "work" "Z" (.int (0 : Int32))) (F_AUTOSKIP : Fld Z Z.heap w_AUTOSKIP "com/example/permits_from_duties/permitsfromduties/Event$Transition" "work" "Z" (.int (0 : Int32))) (F_UNKNOWN : Fld Z Z.heap w_UNKNOWN "com/example/permits_from_duties/permitsfromduties/Event$Transition" "work" "Z" (.int (1 : Int32))) :
    MetFree l (⟨"com/example/permits_from_duties/permitsfromduties/EventPerformerPinLaw", "pick", "(I)Lcom/example/permits_from_duties/permitsfromduties/Event$Transition;"⟩ : MethodName) (head1 (Jvm.Cond.code (⟨"com/example/permits_from_duties/permitsfromduties/EventPerformerPinLaw", "pick", "(I)Lcom/example/permits_from_duties/permitsfromduties/Event$Transition;"⟩ : MethodName) method_3_code 1 (some (.object "com/example/permits_from_duties/permitsfromduties/Event$Transition")) :: ws) ({ frames := 0, cells := 0, slots := 0, locals := 0 } : Room)) (fun a U => a = #[(.int (6 : Int32))] ∧ Z.Warmed39 U.vm ∧ U.heap = h0) (fun _ _ _ _ _ => True) (fun _ U o U' => ∃ v L, o = .returned v ∧ QPick1 Z h0 n0 v U'.heap L ∧ FrameEnd U o U' L ({ frames := 0, cells := 0, slots := 0, locals := 0 } : Room).cells ({ frames := 0, cells := 0, slots := 0, locals := 0 } : Room).slots) := by
  refine MetFree.of_bodySF (plainFor_of_name pn_com_example_permits_from_duties_permitsfromduties_EventPerformerPinLaw) hisR ?_
  intro p e s m args below meth c s₁ Bd hml0 hP hK
  obtain ⟨rfl, hZ, hh⟩ := hP
  have hx := Bd.exec
  have hby := Bd.bytes
  have hlk : meth.locks = false := Bd.notSynchronized
  have hml : c.maxLocals = 1 := hml0
  have hown : s.vm.findClass "com/example/permits_from_duties/permitsfromduties/EventPerformerPinLaw" = some m.cls := findClass_of_methodNamed Bd.named
  have hnm := (name_of_methodNamed Bd.named Bd.method).1
  have X0 : Stand p l e ({ frames := 0, cells := 0, slots := 0, locals := 0 } : Room) s m #[(.int (6 : Int32))] below meth c s₁ [] 0 0 := Stand.of_body Bd
  have e0 : s₁.heap = h0 := by rw [← hh, Bd.state]; rfl
  have N0 := Fr.nil n0
  show Go p e below (FinE s below (QPick1 Z h0 n0) ({ frames := 0, cells := 0, slots := 0, locals := 0 } : Room).cells ({ frames := 0, cells := 0, slots := 0, locals := 0 } : Room).slots) (s₁.setTop (entryFrame m #[(.int (6 : Int32))] 1))
  refine Go.via (fun t k => castTop (ef_rmPk_6 m ) k) ?_
  show Go p e below _ (s₁.setTop (mkF m 0 #[.val (.int (6 : Int32))] []))
  refine Go.via (fun _ => XS.iloadN X0.here hx rfl (hb hby d6_0) rfl) ?_
  show Go p e below _ (s₁.setTop (mkF m 1 #[.val (.int (6 : Int32))] [(.int (6 : Int32))]))
  refine Go.via (fun _ => XS.ifYes X0.here hx rfl (pc0 := 1) (pc' := 8) rfl (hb hby d6_1) rfl (by decide) (by decide) (by decide)) ?_
  show Go p e below _ (s₁.setTop (mkF m 8 #[.val (.int (6 : Int32))] []))
  refine Go.via (fun _ => XS.iloadN X0.here hx rfl (hb hby d6_8) rfl) ?_
  show Go p e below _ (s₁.setTop (mkF m 9 #[.val (.int (6 : Int32))] [(.int (6 : Int32))]))
  refine Go.via (fun _ => XS.iconst X0.here hx rfl (hb hby d6_9)) ?_
  show Go p e below _ (s₁.setTop (mkF m 10 #[.val (.int (6 : Int32))] [(.int (1 : Int32)), (.int (6 : Int32))]))
  refine Go.via (fun _ => XS.icmpYes X0.here hx rfl (pc0 := 10) (pc' := 17) rfl (hb hby d6_10) rfl (by decide) (by decide) (by decide)) ?_
  show Go p e below _ (s₁.setTop (mkF m 17 #[.val (.int (6 : Int32))] []))
  refine Go.via (fun _ => XS.iloadN X0.here hx rfl (hb hby d6_17) rfl) ?_
  show Go p e below _ (s₁.setTop (mkF m 18 #[.val (.int (6 : Int32))] [(.int (6 : Int32))]))
  refine Go.via (fun _ => XS.iconst X0.here hx rfl (hb hby d6_18)) ?_
  show Go p e below _ (s₁.setTop (mkF m 19 #[.val (.int (6 : Int32))] [(.int (2 : Int32)), (.int (6 : Int32))]))
  refine Go.via (fun _ => XS.icmpYes X0.here hx rfl (pc0 := 19) (pc' := 26) rfl (hb hby d6_19) rfl (by decide) (by decide) (by decide)) ?_
  show Go p e below _ (s₁.setTop (mkF m 26 #[.val (.int (6 : Int32))] []))
  refine Go.via (fun _ => XS.iloadN X0.here hx rfl (hb hby d6_26) rfl) ?_
  show Go p e below _ (s₁.setTop (mkF m 27 #[.val (.int (6 : Int32))] [(.int (6 : Int32))]))
  refine Go.via (fun _ => XS.iconst X0.here hx rfl (hb hby d6_27)) ?_
  show Go p e below _ (s₁.setTop (mkF m 28 #[.val (.int (6 : Int32))] [(.int (3 : Int32)), (.int (6 : Int32))]))
  refine Go.via (fun _ => XS.icmpYes X0.here hx rfl (pc0 := 28) (pc' := 35) rfl (hb hby d6_28) rfl (by decide) (by decide) (by decide)) ?_
  show Go p e below _ (s₁.setTop (mkF m 35 #[.val (.int (6 : Int32))] []))
  refine Go.via (fun _ => XS.iloadN X0.here hx rfl (hb hby d6_35) rfl) ?_
  show Go p e below _ (s₁.setTop (mkF m 36 #[.val (.int (6 : Int32))] [(.int (6 : Int32))]))
  refine Go.via (fun _ => XS.iconst X0.here hx rfl (hb hby d6_36)) ?_
  show Go p e below _ (s₁.setTop (mkF m 37 #[.val (.int (6 : Int32))] [(.int (4 : Int32)), (.int (6 : Int32))]))
  refine Go.via (fun _ => XS.icmpYes X0.here hx rfl (pc0 := 37) (pc' := 44) rfl (hb hby d6_37) rfl (by decide) (by decide) (by decide)) ?_
  show Go p e below _ (s₁.setTop (mkF m 44 #[.val (.int (6 : Int32))] []))
  refine Go.via (fun _ => XS.iloadN X0.here hx rfl (hb hby d6_44) rfl) ?_
  show Go p e below _ (s₁.setTop (mkF m 45 #[.val (.int (6 : Int32))] [(.int (6 : Int32))]))
  refine Go.via (fun _ => XS.iconst X0.here hx rfl (hb hby d6_45)) ?_
  show Go p e below _ (s₁.setTop (mkF m 46 #[.val (.int (6 : Int32))] [(.int (5 : Int32)), (.int (6 : Int32))]))
  refine Go.via (fun _ => XS.icmpYes X0.here hx rfl (pc0 := 46) (pc' := 53) rfl (hb hby d6_46) rfl (by decide) (by decide) (by decide)) ?_
  show Go p e below _ (s₁.setTop (mkF m 53 #[.val (.int (6 : Int32))] []))
  refine Go.via (fun _ => XS.iloadN X0.here hx rfl (hb hby d6_53) rfl) ?_
  show Go p e below _ (s₁.setTop (mkF m 54 #[.val (.int (6 : Int32))] [(.int (6 : Int32))]))
  refine Go.via (fun _ => XS.bipush X0.here hx rfl (hb hby d6_54)) ?_
  show Go p e below _ (s₁.setTop (mkF m 56 #[.val (.int (6 : Int32))] [(.int (6 : Int32)), (.int (6 : Int32))]))
  refine Go.via (fun _ => XS.icmpNo X0.here hx rfl (hb hby d6_56) rfl (by decide)) ?_
  show Go p e below _ (s₁.setTop (mkF m 59 #[.val (.int (6 : Int32))] []))
  obtain ⟨T101, X101, e101, st101⟩ := getS2 X0 hx hZ hown (host := "") (Or.inl (hw _ (List.mem_of_getElem? (i := 141) rfl))) Via.refl e0 (S_RESUME.ext O0.2) (g := (mkF m 59 #[.val (.int (6 : Int32))] [])) rfl (hb hby d6_59)
  refine Go.via st101 ?_
  show Go p e below _ (T101.setTop (mkF m 62 #[.val (.int (6 : Int32))] [(.ref w_RESUME)]))
  exact own_retA X101 hx hlk Bd.returns rfl rfl (hb hby d6_62) (by show QPick1 Z h0 n0 _ T101.heap _; rw [e101]; exact ⟨w_RESUME, rfl, N0, rfl, E_RESUME.ext O0.2, F_RESUME.ext O0.2⟩) (by decide) (by decide)
theorem ef_rmPk_7 (m : MethodId)  : entryFrame m #[(.int (7 : Int32))] 1 = mkF m 0 #[.val (.int (7 : Int32))] [] := by first | (simp [entryFrame, mkF, argsToLocals, Value.category]; done) | rfl
set_option maxRecDepth 65536 in
set_option maxHeartbeats 40000000 in
theorem rmPk_7 (l : Launch) (Z : State) (a0 : Array Value) (hw : ∀ d ∈ tables_1, d.before a0 Z = true) (ws : List Jvm.Cond) (w_SCHEDULE : Addr) (w_ASSIGN : Addr) (w_REASSIGN : Addr) (w_WITHDRAW : Addr) (w_START : Addr) (w_SUSPEND : Addr) (w_RESUME : Addr) (w_COMPLETE : Addr) (w_ATE_ABORT : Addr) (w_PI_ABORT : Addr) (w_MANUALSKIP : Addr) (w_AUTOSKIP : Addr) (w_UNKNOWN : Addr) (h0 : Heap) (n0 : Nat) (Z0 : n0 ≤ h0.size) (O0 : Old Z n0 h0) (S_SCHEDULE : Sta Z Z.heap "com/example/permits_from_duties/permitsfromduties/Event$Transition" "SCHEDULE" "Lcom/example/permits_from_duties/permitsfromduties/Event$Transition;" (.ref w_SCHEDULE)) (S_ASSIGN : Sta Z Z.heap "com/example/permits_from_duties/permitsfromduties/Event$Transition" "ASSIGN" "Lcom/example/permits_from_duties/permitsfromduties/Event$Transition;" (.ref w_ASSIGN)) (S_REASSIGN : Sta Z Z.heap "com/example/permits_from_duties/permitsfromduties/Event$Transition" "REASSIGN" "Lcom/example/permits_from_duties/permitsfromduties/Event$Transition;" (.ref w_REASSIGN)) (S_WITHDRAW : Sta Z Z.heap "com/example/permits_from_duties/permitsfromduties/Event$Transition" "WITHDRAW" "Lcom/example/permits_from_duties/permitsfromduties/Event$Transition;" (.ref w_WITHDRAW)) (S_START : Sta Z Z.heap "com/example/permits_from_duties/permitsfromduties/Event$Transition" "START" "Lcom/example/permits_from_duties/permitsfromduties/Event$Transition;" (.ref w_START)) (S_SUSPEND : Sta Z Z.heap "com/example/permits_from_duties/permitsfromduties/Event$Transition" "SUSPEND" "Lcom/example/permits_from_duties/permitsfromduties/Event$Transition;" (.ref w_SUSPEND)) (S_RESUME : Sta Z Z.heap "com/example/permits_from_duties/permitsfromduties/Event$Transition" "RESUME" "Lcom/example/permits_from_duties/permitsfromduties/Event$Transition;" (.ref w_RESUME)) (S_COMPLETE : Sta Z Z.heap "com/example/permits_from_duties/permitsfromduties/Event$Transition" "COMPLETE" "Lcom/example/permits_from_duties/permitsfromduties/Event$Transition;" (.ref w_COMPLETE)) (S_ATE_ABORT : Sta Z Z.heap "com/example/permits_from_duties/permitsfromduties/Event$Transition" "ATE_ABORT" "Lcom/example/permits_from_duties/permitsfromduties/Event$Transition;" (.ref w_ATE_ABORT)) (S_PI_ABORT : Sta Z Z.heap "com/example/permits_from_duties/permitsfromduties/Event$Transition" "PI_ABORT" "Lcom/example/permits_from_duties/permitsfromduties/Event$Transition;" (.ref w_PI_ABORT)) (S_MANUALSKIP : Sta Z Z.heap "com/example/permits_from_duties/permitsfromduties/Event$Transition" "MANUALSKIP" "Lcom/example/permits_from_duties/permitsfromduties/Event$Transition;" (.ref w_MANUALSKIP)) (S_AUTOSKIP : Sta Z Z.heap "com/example/permits_from_duties/permitsfromduties/Event$Transition" "AUTOSKIP" "Lcom/example/permits_from_duties/permitsfromduties/Event$Transition;" (.ref w_AUTOSKIP)) (S_UNKNOWN : Sta Z Z.heap "com/example/permits_from_duties/permitsfromduties/Event$Transition" "UNKNOWN" "Lcom/example/permits_from_duties/permitsfromduties/Event$Transition;" (.ref w_UNKNOWN)) (E_SCHEDULE : Exa Z Z.heap w_SCHEDULE "com/example/permits_from_duties/permitsfromduties/Event$Transition") (E_ASSIGN : Exa Z Z.heap w_ASSIGN "com/example/permits_from_duties/permitsfromduties/Event$Transition") (E_REASSIGN : Exa Z Z.heap w_REASSIGN "com/example/permits_from_duties/permitsfromduties/Event$Transition") (E_WITHDRAW : Exa Z Z.heap w_WITHDRAW "com/example/permits_from_duties/permitsfromduties/Event$Transition") (E_START : Exa Z Z.heap w_START "com/example/permits_from_duties/permitsfromduties/Event$Transition") (E_SUSPEND : Exa Z Z.heap w_SUSPEND "com/example/permits_from_duties/permitsfromduties/Event$Transition") (E_RESUME : Exa Z Z.heap w_RESUME "com/example/permits_from_duties/permitsfromduties/Event$Transition") (E_COMPLETE : Exa Z Z.heap w_COMPLETE "com/example/permits_from_duties/permitsfromduties/Event$Transition") (E_ATE_ABORT : Exa Z Z.heap w_ATE_ABORT "com/example/permits_from_duties/permitsfromduties/Event$Transition") (E_PI_ABORT : Exa Z Z.heap w_PI_ABORT "com/example/permits_from_duties/permitsfromduties/Event$Transition") (E_MANUALSKIP : Exa Z Z.heap w_MANUALSKIP "com/example/permits_from_duties/permitsfromduties/Event$Transition") (E_AUTOSKIP : Exa Z Z.heap w_AUTOSKIP "com/example/permits_from_duties/permitsfromduties/Event$Transition") (E_UNKNOWN : Exa Z Z.heap w_UNKNOWN "com/example/permits_from_duties/permitsfromduties/Event$Transition") (F_SCHEDULE : Fld Z Z.heap w_SCHEDULE "com/example/permits_from_duties/permitsfromduties/Event$Transition" "work" "Z" (.int (0 : Int32))) (F_ASSIGN : Fld Z Z.heap w_ASSIGN "com/example/permits_from_duties/permitsfromduties/Event$Transition" "work" "Z" (.int (0 : Int32))) (F_REASSIGN : Fld Z Z.heap w_REASSIGN "com/example/permits_from_duties/permitsfromduties/Event$Transition" "work" "Z" (.int (0 : Int32))) (F_WITHDRAW : Fld Z Z.heap w_WITHDRAW "com/example/permits_from_duties/permitsfromduties/Event$Transition" "work" "Z" (.int (0 : Int32))) (F_START : Fld Z Z.heap w_START "com/example/permits_from_duties/permitsfromduties/Event$Transition" "work" "Z" (.int (1 : Int32))) (F_SUSPEND : Fld Z Z.heap w_SUSPEND "com/example/permits_from_duties/permitsfromduties/Event$Transition" "work" "Z" (.int (1 : Int32))) (F_RESUME : Fld Z Z.heap w_RESUME "com/example/permits_from_duties/permitsfromduties/Event$Transition" "work" "Z" (.int (1 : Int32))) (F_COMPLETE : Fld Z Z.heap w_COMPLETE "com/example/permits_from_duties/permitsfromduties/Event$Transition" "work" "Z" (.int (1 : Int32))) (F_ATE_ABORT : Fld Z Z.heap w_ATE_ABORT "com/example/permits_from_duties/permitsfromduties/Event$Transition" "work" "Z" (.int (1 : Int32))) (F_PI_ABORT : Fld Z Z.heap w_PI_ABORT "com/example/permits_from_duties/permitsfromduties/Event$Transition" "work" "Z" (.int (0 : Int32))) (F_MANUALSKIP : Fld Z Z.heap w_MANUALSKIP "com/example/permits_from_duties/permitsfromduties/Event$Transition" "work" "Z" (.int (0 : Int32))) (F_AUTOSKIP : Fld Z Z.heap w_AUTOSKIP "com/example/permits_from_duties/permitsfromduties/Event$Transition" "work" "Z" (.int (0 : Int32))) (F_UNKNOWN : Fld Z Z.heap w_UNKNOWN "com/example/permits_from_duties/permitsfromduties/Event$Transition" "work" "Z" (.int (1 : Int32))) :
    MetFree l (⟨"com/example/permits_from_duties/permitsfromduties/EventPerformerPinLaw", "pick", "(I)Lcom/example/permits_from_duties/permitsfromduties/Event$Transition;"⟩ : MethodName) (head1 (Jvm.Cond.code (⟨"com/example/permits_from_duties/permitsfromduties/EventPerformerPinLaw", "pick", "(I)Lcom/example/permits_from_duties/permitsfromduties/Event$Transition;"⟩ : MethodName) method_3_code 1 (some (.object "com/example/permits_from_duties/permitsfromduties/Event$Transition")) :: ws) ({ frames := 0, cells := 0, slots := 0, locals := 0 } : Room)) (fun a U => a = #[(.int (7 : Int32))] ∧ Z.Warmed39 U.vm ∧ U.heap = h0) (fun _ _ _ _ _ => True) (fun _ U o U' => ∃ v L, o = .returned v ∧ QPick1 Z h0 n0 v U'.heap L ∧ FrameEnd U o U' L ({ frames := 0, cells := 0, slots := 0, locals := 0 } : Room).cells ({ frames := 0, cells := 0, slots := 0, locals := 0 } : Room).slots) := by
  refine MetFree.of_bodySF (plainFor_of_name pn_com_example_permits_from_duties_permitsfromduties_EventPerformerPinLaw) hisR ?_
  intro p e s m args below meth c s₁ Bd hml0 hP hK
  obtain ⟨rfl, hZ, hh⟩ := hP
  have hx := Bd.exec
  have hby := Bd.bytes
  have hlk : meth.locks = false := Bd.notSynchronized
  have hml : c.maxLocals = 1 := hml0
  have hown : s.vm.findClass "com/example/permits_from_duties/permitsfromduties/EventPerformerPinLaw" = some m.cls := findClass_of_methodNamed Bd.named
  have hnm := (name_of_methodNamed Bd.named Bd.method).1
  have X0 : Stand p l e ({ frames := 0, cells := 0, slots := 0, locals := 0 } : Room) s m #[(.int (7 : Int32))] below meth c s₁ [] 0 0 := Stand.of_body Bd
  have e0 : s₁.heap = h0 := by rw [← hh, Bd.state]; rfl
  have N0 := Fr.nil n0
  show Go p e below (FinE s below (QPick1 Z h0 n0) ({ frames := 0, cells := 0, slots := 0, locals := 0 } : Room).cells ({ frames := 0, cells := 0, slots := 0, locals := 0 } : Room).slots) (s₁.setTop (entryFrame m #[(.int (7 : Int32))] 1))
  refine Go.via (fun t k => castTop (ef_rmPk_7 m ) k) ?_
  show Go p e below _ (s₁.setTop (mkF m 0 #[.val (.int (7 : Int32))] []))
  refine Go.via (fun _ => XS.iloadN X0.here hx rfl (hb hby d6_0) rfl) ?_
  show Go p e below _ (s₁.setTop (mkF m 1 #[.val (.int (7 : Int32))] [(.int (7 : Int32))]))
  refine Go.via (fun _ => XS.ifYes X0.here hx rfl (pc0 := 1) (pc' := 8) rfl (hb hby d6_1) rfl (by decide) (by decide) (by decide)) ?_
  show Go p e below _ (s₁.setTop (mkF m 8 #[.val (.int (7 : Int32))] []))
  refine Go.via (fun _ => XS.iloadN X0.here hx rfl (hb hby d6_8) rfl) ?_
  show Go p e below _ (s₁.setTop (mkF m 9 #[.val (.int (7 : Int32))] [(.int (7 : Int32))]))
  refine Go.via (fun _ => XS.iconst X0.here hx rfl (hb hby d6_9)) ?_
  show Go p e below _ (s₁.setTop (mkF m 10 #[.val (.int (7 : Int32))] [(.int (1 : Int32)), (.int (7 : Int32))]))
  refine Go.via (fun _ => XS.icmpYes X0.here hx rfl (pc0 := 10) (pc' := 17) rfl (hb hby d6_10) rfl (by decide) (by decide) (by decide)) ?_
  show Go p e below _ (s₁.setTop (mkF m 17 #[.val (.int (7 : Int32))] []))
  refine Go.via (fun _ => XS.iloadN X0.here hx rfl (hb hby d6_17) rfl) ?_
  show Go p e below _ (s₁.setTop (mkF m 18 #[.val (.int (7 : Int32))] [(.int (7 : Int32))]))
  refine Go.via (fun _ => XS.iconst X0.here hx rfl (hb hby d6_18)) ?_
  show Go p e below _ (s₁.setTop (mkF m 19 #[.val (.int (7 : Int32))] [(.int (2 : Int32)), (.int (7 : Int32))]))
  refine Go.via (fun _ => XS.icmpYes X0.here hx rfl (pc0 := 19) (pc' := 26) rfl (hb hby d6_19) rfl (by decide) (by decide) (by decide)) ?_
  show Go p e below _ (s₁.setTop (mkF m 26 #[.val (.int (7 : Int32))] []))
  refine Go.via (fun _ => XS.iloadN X0.here hx rfl (hb hby d6_26) rfl) ?_
  show Go p e below _ (s₁.setTop (mkF m 27 #[.val (.int (7 : Int32))] [(.int (7 : Int32))]))
  refine Go.via (fun _ => XS.iconst X0.here hx rfl (hb hby d6_27)) ?_
  show Go p e below _ (s₁.setTop (mkF m 28 #[.val (.int (7 : Int32))] [(.int (3 : Int32)), (.int (7 : Int32))]))
  refine Go.via (fun _ => XS.icmpYes X0.here hx rfl (pc0 := 28) (pc' := 35) rfl (hb hby d6_28) rfl (by decide) (by decide) (by decide)) ?_
  show Go p e below _ (s₁.setTop (mkF m 35 #[.val (.int (7 : Int32))] []))
  refine Go.via (fun _ => XS.iloadN X0.here hx rfl (hb hby d6_35) rfl) ?_
  show Go p e below _ (s₁.setTop (mkF m 36 #[.val (.int (7 : Int32))] [(.int (7 : Int32))]))
  refine Go.via (fun _ => XS.iconst X0.here hx rfl (hb hby d6_36)) ?_
  show Go p e below _ (s₁.setTop (mkF m 37 #[.val (.int (7 : Int32))] [(.int (4 : Int32)), (.int (7 : Int32))]))
  refine Go.via (fun _ => XS.icmpYes X0.here hx rfl (pc0 := 37) (pc' := 44) rfl (hb hby d6_37) rfl (by decide) (by decide) (by decide)) ?_
  show Go p e below _ (s₁.setTop (mkF m 44 #[.val (.int (7 : Int32))] []))
  refine Go.via (fun _ => XS.iloadN X0.here hx rfl (hb hby d6_44) rfl) ?_
  show Go p e below _ (s₁.setTop (mkF m 45 #[.val (.int (7 : Int32))] [(.int (7 : Int32))]))
  refine Go.via (fun _ => XS.iconst X0.here hx rfl (hb hby d6_45)) ?_
  show Go p e below _ (s₁.setTop (mkF m 46 #[.val (.int (7 : Int32))] [(.int (5 : Int32)), (.int (7 : Int32))]))
  refine Go.via (fun _ => XS.icmpYes X0.here hx rfl (pc0 := 46) (pc' := 53) rfl (hb hby d6_46) rfl (by decide) (by decide) (by decide)) ?_
  show Go p e below _ (s₁.setTop (mkF m 53 #[.val (.int (7 : Int32))] []))
  refine Go.via (fun _ => XS.iloadN X0.here hx rfl (hb hby d6_53) rfl) ?_
  show Go p e below _ (s₁.setTop (mkF m 54 #[.val (.int (7 : Int32))] [(.int (7 : Int32))]))
  refine Go.via (fun _ => XS.bipush X0.here hx rfl (hb hby d6_54)) ?_
  show Go p e below _ (s₁.setTop (mkF m 56 #[.val (.int (7 : Int32))] [(.int (6 : Int32)), (.int (7 : Int32))]))
  refine Go.via (fun _ => XS.icmpYes X0.here hx rfl (pc0 := 56) (pc' := 63) rfl (hb hby d6_56) rfl (by decide) (by decide) (by decide)) ?_
  show Go p e below _ (s₁.setTop (mkF m 63 #[.val (.int (7 : Int32))] []))
  refine Go.via (fun _ => XS.iloadN X0.here hx rfl (hb hby d6_63) rfl) ?_
  show Go p e below _ (s₁.setTop (mkF m 64 #[.val (.int (7 : Int32))] [(.int (7 : Int32))]))
  refine Go.via (fun _ => XS.bipush X0.here hx rfl (hb hby d6_64)) ?_
  show Go p e below _ (s₁.setTop (mkF m 66 #[.val (.int (7 : Int32))] [(.int (7 : Int32)), (.int (7 : Int32))]))
  refine Go.via (fun _ => XS.icmpNo X0.here hx rfl (hb hby d6_66) rfl (by decide)) ?_
  show Go p e below _ (s₁.setTop (mkF m 69 #[.val (.int (7 : Int32))] []))
  obtain ⟨T101, X101, e101, st101⟩ := getS2 X0 hx hZ hown (host := "") (Or.inl (hw _ (List.mem_of_getElem? (i := 121) rfl))) Via.refl e0 (S_COMPLETE.ext O0.2) (g := (mkF m 69 #[.val (.int (7 : Int32))] [])) rfl (hb hby d6_69)
  refine Go.via st101 ?_
  show Go p e below _ (T101.setTop (mkF m 72 #[.val (.int (7 : Int32))] [(.ref w_COMPLETE)]))
  exact own_retA X101 hx hlk Bd.returns rfl rfl (hb hby d6_72) (by show QPick1 Z h0 n0 _ T101.heap _; rw [e101]; exact ⟨w_COMPLETE, rfl, N0, rfl, E_COMPLETE.ext O0.2, F_COMPLETE.ext O0.2⟩) (by decide) (by decide)
theorem ef_rmPk_8 (m : MethodId)  : entryFrame m #[(.int (8 : Int32))] 1 = mkF m 0 #[.val (.int (8 : Int32))] [] := by first | (simp [entryFrame, mkF, argsToLocals, Value.category]; done) | rfl
set_option maxRecDepth 65536 in
set_option maxHeartbeats 40000000 in
theorem rmPk_8 (l : Launch) (Z : State) (a0 : Array Value) (hw : ∀ d ∈ tables_1, d.before a0 Z = true) (ws : List Jvm.Cond) (w_SCHEDULE : Addr) (w_ASSIGN : Addr) (w_REASSIGN : Addr) (w_WITHDRAW : Addr) (w_START : Addr) (w_SUSPEND : Addr) (w_RESUME : Addr) (w_COMPLETE : Addr) (w_ATE_ABORT : Addr) (w_PI_ABORT : Addr) (w_MANUALSKIP : Addr) (w_AUTOSKIP : Addr) (w_UNKNOWN : Addr) (h0 : Heap) (n0 : Nat) (Z0 : n0 ≤ h0.size) (O0 : Old Z n0 h0) (S_SCHEDULE : Sta Z Z.heap "com/example/permits_from_duties/permitsfromduties/Event$Transition" "SCHEDULE" "Lcom/example/permits_from_duties/permitsfromduties/Event$Transition;" (.ref w_SCHEDULE)) (S_ASSIGN : Sta Z Z.heap "com/example/permits_from_duties/permitsfromduties/Event$Transition" "ASSIGN" "Lcom/example/permits_from_duties/permitsfromduties/Event$Transition;" (.ref w_ASSIGN)) (S_REASSIGN : Sta Z Z.heap "com/example/permits_from_duties/permitsfromduties/Event$Transition" "REASSIGN" "Lcom/example/permits_from_duties/permitsfromduties/Event$Transition;" (.ref w_REASSIGN)) (S_WITHDRAW : Sta Z Z.heap "com/example/permits_from_duties/permitsfromduties/Event$Transition" "WITHDRAW" "Lcom/example/permits_from_duties/permitsfromduties/Event$Transition;" (.ref w_WITHDRAW)) (S_START : Sta Z Z.heap "com/example/permits_from_duties/permitsfromduties/Event$Transition" "START" "Lcom/example/permits_from_duties/permitsfromduties/Event$Transition;" (.ref w_START)) (S_SUSPEND : Sta Z Z.heap "com/example/permits_from_duties/permitsfromduties/Event$Transition" "SUSPEND" "Lcom/example/permits_from_duties/permitsfromduties/Event$Transition;" (.ref w_SUSPEND)) (S_RESUME : Sta Z Z.heap "com/example/permits_from_duties/permitsfromduties/Event$Transition" "RESUME" "Lcom/example/permits_from_duties/permitsfromduties/Event$Transition;" (.ref w_RESUME)) (S_COMPLETE : Sta Z Z.heap "com/example/permits_from_duties/permitsfromduties/Event$Transition" "COMPLETE" "Lcom/example/permits_from_duties/permitsfromduties/Event$Transition;" (.ref w_COMPLETE)) (S_ATE_ABORT : Sta Z Z.heap "com/example/permits_from_duties/permitsfromduties/Event$Transition" "ATE_ABORT" "Lcom/example/permits_from_duties/permitsfromduties/Event$Transition;" (.ref w_ATE_ABORT)) (S_PI_ABORT : Sta Z Z.heap "com/example/permits_from_duties/permitsfromduties/Event$Transition" "PI_ABORT" "Lcom/example/permits_from_duties/permitsfromduties/Event$Transition;" (.ref w_PI_ABORT)) (S_MANUALSKIP : Sta Z Z.heap "com/example/permits_from_duties/permitsfromduties/Event$Transition" "MANUALSKIP" "Lcom/example/permits_from_duties/permitsfromduties/Event$Transition;" (.ref w_MANUALSKIP)) (S_AUTOSKIP : Sta Z Z.heap "com/example/permits_from_duties/permitsfromduties/Event$Transition" "AUTOSKIP" "Lcom/example/permits_from_duties/permitsfromduties/Event$Transition;" (.ref w_AUTOSKIP)) (S_UNKNOWN : Sta Z Z.heap "com/example/permits_from_duties/permitsfromduties/Event$Transition" "UNKNOWN" "Lcom/example/permits_from_duties/permitsfromduties/Event$Transition;" (.ref w_UNKNOWN)) (E_SCHEDULE : Exa Z Z.heap w_SCHEDULE "com/example/permits_from_duties/permitsfromduties/Event$Transition") (E_ASSIGN : Exa Z Z.heap w_ASSIGN "com/example/permits_from_duties/permitsfromduties/Event$Transition") (E_REASSIGN : Exa Z Z.heap w_REASSIGN "com/example/permits_from_duties/permitsfromduties/Event$Transition") (E_WITHDRAW : Exa Z Z.heap w_WITHDRAW "com/example/permits_from_duties/permitsfromduties/Event$Transition") (E_START : Exa Z Z.heap w_START "com/example/permits_from_duties/permitsfromduties/Event$Transition") (E_SUSPEND : Exa Z Z.heap w_SUSPEND "com/example/permits_from_duties/permitsfromduties/Event$Transition") (E_RESUME : Exa Z Z.heap w_RESUME "com/example/permits_from_duties/permitsfromduties/Event$Transition") (E_COMPLETE : Exa Z Z.heap w_COMPLETE "com/example/permits_from_duties/permitsfromduties/Event$Transition") (E_ATE_ABORT : Exa Z Z.heap w_ATE_ABORT "com/example/permits_from_duties/permitsfromduties/Event$Transition") (E_PI_ABORT : Exa Z Z.heap w_PI_ABORT "com/example/permits_from_duties/permitsfromduties/Event$Transition") (E_MANUALSKIP : Exa Z Z.heap w_MANUALSKIP "com/example/permits_from_duties/permitsfromduties/Event$Transition") (E_AUTOSKIP : Exa Z Z.heap w_AUTOSKIP "com/example/permits_from_duties/permitsfromduties/Event$Transition") (E_UNKNOWN : Exa Z Z.heap w_UNKNOWN "com/example/permits_from_duties/permitsfromduties/Event$Transition") (F_SCHEDULE : Fld Z Z.heap w_SCHEDULE "com/example/permits_from_duties/permitsfromduties/Event$Transition" "work" "Z" (.int (0 : Int32))) (F_ASSIGN : Fld Z Z.heap w_ASSIGN "com/example/permits_from_duties/permitsfromduties/Event$Transition" "work" "Z" (.int (0 : Int32))) (F_REASSIGN : Fld Z Z.heap w_REASSIGN "com/example/permits_from_duties/permitsfromduties/Event$Transition" "work" "Z" (.int (0 : Int32))) (F_WITHDRAW : Fld Z Z.heap w_WITHDRAW "com/example/permits_from_duties/permitsfromduties/Event$Transition" "work" "Z" (.int (0 : Int32))) (F_START : Fld Z Z.heap w_START "com/example/permits_from_duties/permitsfromduties/Event$Transition" "work" "Z" (.int (1 : Int32))) (F_SUSPEND : Fld Z Z.heap w_SUSPEND "com/example/permits_from_duties/permitsfromduties/Event$Transition" "work" "Z" (.int (1 : Int32))) (F_RESUME : Fld Z Z.heap w_RESUME "com/example/permits_from_duties/permitsfromduties/Event$Transition" "work" "Z" (.int (1 : Int32))) (F_COMPLETE : Fld Z Z.heap w_COMPLETE "com/example/permits_from_duties/permitsfromduties/Event$Transition" "work" "Z" (.int (1 : Int32))) (F_ATE_ABORT : Fld Z Z.heap w_ATE_ABORT "com/example/permits_from_duties/permitsfromduties/Event$Transition" "work" "Z" (.int (1 : Int32))) (F_PI_ABORT : Fld Z Z.heap w_PI_ABORT "com/example/permits_from_duties/permitsfromduties/Event$Transition" "work" "Z" (.int (0 : Int32))) (F_MANUALSKIP : Fld Z Z.heap w_MANUALSKIP "com/example/permits_from_duties/permitsfromduties/Event$Transition" "work" "Z" (.int (0 : Int32))) (F_AUTOSKIP : Fld Z Z.heap w_AUTOSKIP "com/example/permits_from_duties/permitsfromduties/Event$Transition" "work" "Z" (.int (0 : Int32))) (F_UNKNOWN : Fld Z Z.heap w_UNKNOWN "com/example/permits_from_duties/permitsfromduties/Event$Transition" "work" "Z" (.int (1 : Int32))) :
    MetFree l (⟨"com/example/permits_from_duties/permitsfromduties/EventPerformerPinLaw", "pick", "(I)Lcom/example/permits_from_duties/permitsfromduties/Event$Transition;"⟩ : MethodName) (head1 (Jvm.Cond.code (⟨"com/example/permits_from_duties/permitsfromduties/EventPerformerPinLaw", "pick", "(I)Lcom/example/permits_from_duties/permitsfromduties/Event$Transition;"⟩ : MethodName) method_3_code 1 (some (.object "com/example/permits_from_duties/permitsfromduties/Event$Transition")) :: ws) ({ frames := 0, cells := 0, slots := 0, locals := 0 } : Room)) (fun a U => a = #[(.int (8 : Int32))] ∧ Z.Warmed39 U.vm ∧ U.heap = h0) (fun _ _ _ _ _ => True) (fun _ U o U' => ∃ v L, o = .returned v ∧ QPick1 Z h0 n0 v U'.heap L ∧ FrameEnd U o U' L ({ frames := 0, cells := 0, slots := 0, locals := 0 } : Room).cells ({ frames := 0, cells := 0, slots := 0, locals := 0 } : Room).slots) := by
  refine MetFree.of_bodySF (plainFor_of_name pn_com_example_permits_from_duties_permitsfromduties_EventPerformerPinLaw) hisR ?_
  intro p e s m args below meth c s₁ Bd hml0 hP hK
  obtain ⟨rfl, hZ, hh⟩ := hP
  have hx := Bd.exec
  have hby := Bd.bytes
  have hlk : meth.locks = false := Bd.notSynchronized
  have hml : c.maxLocals = 1 := hml0
  have hown : s.vm.findClass "com/example/permits_from_duties/permitsfromduties/EventPerformerPinLaw" = some m.cls := findClass_of_methodNamed Bd.named
  have hnm := (name_of_methodNamed Bd.named Bd.method).1
  have X0 : Stand p l e ({ frames := 0, cells := 0, slots := 0, locals := 0 } : Room) s m #[(.int (8 : Int32))] below meth c s₁ [] 0 0 := Stand.of_body Bd
  have e0 : s₁.heap = h0 := by rw [← hh, Bd.state]; rfl
  have N0 := Fr.nil n0
  show Go p e below (FinE s below (QPick1 Z h0 n0) ({ frames := 0, cells := 0, slots := 0, locals := 0 } : Room).cells ({ frames := 0, cells := 0, slots := 0, locals := 0 } : Room).slots) (s₁.setTop (entryFrame m #[(.int (8 : Int32))] 1))
  refine Go.via (fun t k => castTop (ef_rmPk_8 m ) k) ?_
  show Go p e below _ (s₁.setTop (mkF m 0 #[.val (.int (8 : Int32))] []))
  refine Go.via (fun _ => XS.iloadN X0.here hx rfl (hb hby d6_0) rfl) ?_
  show Go p e below _ (s₁.setTop (mkF m 1 #[.val (.int (8 : Int32))] [(.int (8 : Int32))]))
  refine Go.via (fun _ => XS.ifYes X0.here hx rfl (pc0 := 1) (pc' := 8) rfl (hb hby d6_1) rfl (by decide) (by decide) (by decide)) ?_
  show Go p e below _ (s₁.setTop (mkF m 8 #[.val (.int (8 : Int32))] []))
  refine Go.via (fun _ => XS.iloadN X0.here hx rfl (hb hby d6_8) rfl) ?_
  show Go p e below _ (s₁.setTop (mkF m 9 #[.val (.int (8 : Int32))] [(.int (8 : Int32))]))
  refine Go.via (fun _ => XS.iconst X0.here hx rfl (hb hby d6_9)) ?_
  show Go p e below _ (s₁.setTop (mkF m 10 #[.val (.int (8 : Int32))] [(.int (1 : Int32)), (.int (8 : Int32))]))
  refine Go.via (fun _ => XS.icmpYes X0.here hx rfl (pc0 := 10) (pc' := 17) rfl (hb hby d6_10) rfl (by decide) (by decide) (by decide)) ?_
  show Go p e below _ (s₁.setTop (mkF m 17 #[.val (.int (8 : Int32))] []))
  refine Go.via (fun _ => XS.iloadN X0.here hx rfl (hb hby d6_17) rfl) ?_
  show Go p e below _ (s₁.setTop (mkF m 18 #[.val (.int (8 : Int32))] [(.int (8 : Int32))]))
  refine Go.via (fun _ => XS.iconst X0.here hx rfl (hb hby d6_18)) ?_
  show Go p e below _ (s₁.setTop (mkF m 19 #[.val (.int (8 : Int32))] [(.int (2 : Int32)), (.int (8 : Int32))]))
  refine Go.via (fun _ => XS.icmpYes X0.here hx rfl (pc0 := 19) (pc' := 26) rfl (hb hby d6_19) rfl (by decide) (by decide) (by decide)) ?_
  show Go p e below _ (s₁.setTop (mkF m 26 #[.val (.int (8 : Int32))] []))
  refine Go.via (fun _ => XS.iloadN X0.here hx rfl (hb hby d6_26) rfl) ?_
  show Go p e below _ (s₁.setTop (mkF m 27 #[.val (.int (8 : Int32))] [(.int (8 : Int32))]))
  refine Go.via (fun _ => XS.iconst X0.here hx rfl (hb hby d6_27)) ?_
  show Go p e below _ (s₁.setTop (mkF m 28 #[.val (.int (8 : Int32))] [(.int (3 : Int32)), (.int (8 : Int32))]))
  refine Go.via (fun _ => XS.icmpYes X0.here hx rfl (pc0 := 28) (pc' := 35) rfl (hb hby d6_28) rfl (by decide) (by decide) (by decide)) ?_
  show Go p e below _ (s₁.setTop (mkF m 35 #[.val (.int (8 : Int32))] []))
  refine Go.via (fun _ => XS.iloadN X0.here hx rfl (hb hby d6_35) rfl) ?_
  show Go p e below _ (s₁.setTop (mkF m 36 #[.val (.int (8 : Int32))] [(.int (8 : Int32))]))
  refine Go.via (fun _ => XS.iconst X0.here hx rfl (hb hby d6_36)) ?_
  show Go p e below _ (s₁.setTop (mkF m 37 #[.val (.int (8 : Int32))] [(.int (4 : Int32)), (.int (8 : Int32))]))
  refine Go.via (fun _ => XS.icmpYes X0.here hx rfl (pc0 := 37) (pc' := 44) rfl (hb hby d6_37) rfl (by decide) (by decide) (by decide)) ?_
  show Go p e below _ (s₁.setTop (mkF m 44 #[.val (.int (8 : Int32))] []))
  refine Go.via (fun _ => XS.iloadN X0.here hx rfl (hb hby d6_44) rfl) ?_
  show Go p e below _ (s₁.setTop (mkF m 45 #[.val (.int (8 : Int32))] [(.int (8 : Int32))]))
  refine Go.via (fun _ => XS.iconst X0.here hx rfl (hb hby d6_45)) ?_
  show Go p e below _ (s₁.setTop (mkF m 46 #[.val (.int (8 : Int32))] [(.int (5 : Int32)), (.int (8 : Int32))]))
  refine Go.via (fun _ => XS.icmpYes X0.here hx rfl (pc0 := 46) (pc' := 53) rfl (hb hby d6_46) rfl (by decide) (by decide) (by decide)) ?_
  show Go p e below _ (s₁.setTop (mkF m 53 #[.val (.int (8 : Int32))] []))
  refine Go.via (fun _ => XS.iloadN X0.here hx rfl (hb hby d6_53) rfl) ?_
  show Go p e below _ (s₁.setTop (mkF m 54 #[.val (.int (8 : Int32))] [(.int (8 : Int32))]))
  refine Go.via (fun _ => XS.bipush X0.here hx rfl (hb hby d6_54)) ?_
  show Go p e below _ (s₁.setTop (mkF m 56 #[.val (.int (8 : Int32))] [(.int (6 : Int32)), (.int (8 : Int32))]))
  refine Go.via (fun _ => XS.icmpYes X0.here hx rfl (pc0 := 56) (pc' := 63) rfl (hb hby d6_56) rfl (by decide) (by decide) (by decide)) ?_
  show Go p e below _ (s₁.setTop (mkF m 63 #[.val (.int (8 : Int32))] []))
  refine Go.via (fun _ => XS.iloadN X0.here hx rfl (hb hby d6_63) rfl) ?_
  show Go p e below _ (s₁.setTop (mkF m 64 #[.val (.int (8 : Int32))] [(.int (8 : Int32))]))
  refine Go.via (fun _ => XS.bipush X0.here hx rfl (hb hby d6_64)) ?_
  show Go p e below _ (s₁.setTop (mkF m 66 #[.val (.int (8 : Int32))] [(.int (7 : Int32)), (.int (8 : Int32))]))
  refine Go.via (fun _ => XS.icmpYes X0.here hx rfl (pc0 := 66) (pc' := 73) rfl (hb hby d6_66) rfl (by decide) (by decide) (by decide)) ?_
  show Go p e below _ (s₁.setTop (mkF m 73 #[.val (.int (8 : Int32))] []))
  refine Go.via (fun _ => XS.iloadN X0.here hx rfl (hb hby d6_73) rfl) ?_
  show Go p e below _ (s₁.setTop (mkF m 74 #[.val (.int (8 : Int32))] [(.int (8 : Int32))]))
  refine Go.via (fun _ => XS.bipush X0.here hx rfl (hb hby d6_74)) ?_
  show Go p e below _ (s₁.setTop (mkF m 76 #[.val (.int (8 : Int32))] [(.int (8 : Int32)), (.int (8 : Int32))]))
  refine Go.via (fun _ => XS.icmpNo X0.here hx rfl (hb hby d6_76) rfl (by decide)) ?_
  show Go p e below _ (s₁.setTop (mkF m 79 #[.val (.int (8 : Int32))] []))
  obtain ⟨T101, X101, e101, st101⟩ := getS2 X0 hx hZ hown (host := "") (Or.inl (hw _ (List.mem_of_getElem? (i := 123) rfl))) Via.refl e0 (S_ATE_ABORT.ext O0.2) (g := (mkF m 79 #[.val (.int (8 : Int32))] [])) rfl (hb hby d6_79)
  refine Go.via st101 ?_
  show Go p e below _ (T101.setTop (mkF m 82 #[.val (.int (8 : Int32))] [(.ref w_ATE_ABORT)]))
  exact own_retA X101 hx hlk Bd.returns rfl rfl (hb hby d6_82) (by show QPick1 Z h0 n0 _ T101.heap _; rw [e101]; exact ⟨w_ATE_ABORT, rfl, N0, rfl, E_ATE_ABORT.ext O0.2, F_ATE_ABORT.ext O0.2⟩) (by decide) (by decide)
theorem ef_rmPk_9 (m : MethodId)  : entryFrame m #[(.int (9 : Int32))] 1 = mkF m 0 #[.val (.int (9 : Int32))] [] := by first | (simp [entryFrame, mkF, argsToLocals, Value.category]; done) | rfl
set_option maxRecDepth 65536 in
set_option maxHeartbeats 40000000 in
theorem rmPk_9 (l : Launch) (Z : State) (a0 : Array Value) (hw : ∀ d ∈ tables_1, d.before a0 Z = true) (ws : List Jvm.Cond) (w_SCHEDULE : Addr) (w_ASSIGN : Addr) (w_REASSIGN : Addr) (w_WITHDRAW : Addr) (w_START : Addr) (w_SUSPEND : Addr) (w_RESUME : Addr) (w_COMPLETE : Addr) (w_ATE_ABORT : Addr) (w_PI_ABORT : Addr) (w_MANUALSKIP : Addr) (w_AUTOSKIP : Addr) (w_UNKNOWN : Addr) (h0 : Heap) (n0 : Nat) (Z0 : n0 ≤ h0.size) (O0 : Old Z n0 h0) (S_SCHEDULE : Sta Z Z.heap "com/example/permits_from_duties/permitsfromduties/Event$Transition" "SCHEDULE" "Lcom/example/permits_from_duties/permitsfromduties/Event$Transition;" (.ref w_SCHEDULE)) (S_ASSIGN : Sta Z Z.heap "com/example/permits_from_duties/permitsfromduties/Event$Transition" "ASSIGN" "Lcom/example/permits_from_duties/permitsfromduties/Event$Transition;" (.ref w_ASSIGN)) (S_REASSIGN : Sta Z Z.heap "com/example/permits_from_duties/permitsfromduties/Event$Transition" "REASSIGN" "Lcom/example/permits_from_duties/permitsfromduties/Event$Transition;" (.ref w_REASSIGN)) (S_WITHDRAW : Sta Z Z.heap "com/example/permits_from_duties/permitsfromduties/Event$Transition" "WITHDRAW" "Lcom/example/permits_from_duties/permitsfromduties/Event$Transition;" (.ref w_WITHDRAW)) (S_START : Sta Z Z.heap "com/example/permits_from_duties/permitsfromduties/Event$Transition" "START" "Lcom/example/permits_from_duties/permitsfromduties/Event$Transition;" (.ref w_START)) (S_SUSPEND : Sta Z Z.heap "com/example/permits_from_duties/permitsfromduties/Event$Transition" "SUSPEND" "Lcom/example/permits_from_duties/permitsfromduties/Event$Transition;" (.ref w_SUSPEND)) (S_RESUME : Sta Z Z.heap "com/example/permits_from_duties/permitsfromduties/Event$Transition" "RESUME" "Lcom/example/permits_from_duties/permitsfromduties/Event$Transition;" (.ref w_RESUME)) (S_COMPLETE : Sta Z Z.heap "com/example/permits_from_duties/permitsfromduties/Event$Transition" "COMPLETE" "Lcom/example/permits_from_duties/permitsfromduties/Event$Transition;" (.ref w_COMPLETE)) (S_ATE_ABORT : Sta Z Z.heap "com/example/permits_from_duties/permitsfromduties/Event$Transition" "ATE_ABORT" "Lcom/example/permits_from_duties/permitsfromduties/Event$Transition;" (.ref w_ATE_ABORT)) (S_PI_ABORT : Sta Z Z.heap "com/example/permits_from_duties/permitsfromduties/Event$Transition" "PI_ABORT" "Lcom/example/permits_from_duties/permitsfromduties/Event$Transition;" (.ref w_PI_ABORT)) (S_MANUALSKIP : Sta Z Z.heap "com/example/permits_from_duties/permitsfromduties/Event$Transition" "MANUALSKIP" "Lcom/example/permits_from_duties/permitsfromduties/Event$Transition;" (.ref w_MANUALSKIP)) (S_AUTOSKIP : Sta Z Z.heap "com/example/permits_from_duties/permitsfromduties/Event$Transition" "AUTOSKIP" "Lcom/example/permits_from_duties/permitsfromduties/Event$Transition;" (.ref w_AUTOSKIP)) (S_UNKNOWN : Sta Z Z.heap "com/example/permits_from_duties/permitsfromduties/Event$Transition" "UNKNOWN" "Lcom/example/permits_from_duties/permitsfromduties/Event$Transition;" (.ref w_UNKNOWN)) (E_SCHEDULE : Exa Z Z.heap w_SCHEDULE "com/example/permits_from_duties/permitsfromduties/Event$Transition") (E_ASSIGN : Exa Z Z.heap w_ASSIGN "com/example/permits_from_duties/permitsfromduties/Event$Transition") (E_REASSIGN : Exa Z Z.heap w_REASSIGN "com/example/permits_from_duties/permitsfromduties/Event$Transition") (E_WITHDRAW : Exa Z Z.heap w_WITHDRAW "com/example/permits_from_duties/permitsfromduties/Event$Transition") (E_START : Exa Z Z.heap w_START "com/example/permits_from_duties/permitsfromduties/Event$Transition") (E_SUSPEND : Exa Z Z.heap w_SUSPEND "com/example/permits_from_duties/permitsfromduties/Event$Transition") (E_RESUME : Exa Z Z.heap w_RESUME "com/example/permits_from_duties/permitsfromduties/Event$Transition") (E_COMPLETE : Exa Z Z.heap w_COMPLETE "com/example/permits_from_duties/permitsfromduties/Event$Transition") (E_ATE_ABORT : Exa Z Z.heap w_ATE_ABORT "com/example/permits_from_duties/permitsfromduties/Event$Transition") (E_PI_ABORT : Exa Z Z.heap w_PI_ABORT "com/example/permits_from_duties/permitsfromduties/Event$Transition") (E_MANUALSKIP : Exa Z Z.heap w_MANUALSKIP "com/example/permits_from_duties/permitsfromduties/Event$Transition") (E_AUTOSKIP : Exa Z Z.heap w_AUTOSKIP "com/example/permits_from_duties/permitsfromduties/Event$Transition") (E_UNKNOWN : Exa Z Z.heap w_UNKNOWN "com/example/permits_from_duties/permitsfromduties/Event$Transition") (F_SCHEDULE : Fld Z Z.heap w_SCHEDULE "com/example/permits_from_duties/permitsfromduties/Event$Transition" "work" "Z" (.int (0 : Int32))) (F_ASSIGN : Fld Z Z.heap w_ASSIGN "com/example/permits_from_duties/permitsfromduties/Event$Transition" "work" "Z" (.int (0 : Int32))) (F_REASSIGN : Fld Z Z.heap w_REASSIGN "com/example/permits_from_duties/permitsfromduties/Event$Transition" "work" "Z" (.int (0 : Int32))) (F_WITHDRAW : Fld Z Z.heap w_WITHDRAW "com/example/permits_from_duties/permitsfromduties/Event$Transition" "work" "Z" (.int (0 : Int32))) (F_START : Fld Z Z.heap w_START "com/example/permits_from_duties/permitsfromduties/Event$Transition" "work" "Z" (.int (1 : Int32))) (F_SUSPEND : Fld Z Z.heap w_SUSPEND "com/example/permits_from_duties/permitsfromduties/Event$Transition" "work" "Z" (.int (1 : Int32))) (F_RESUME : Fld Z Z.heap w_RESUME "com/example/permits_from_duties/permitsfromduties/Event$Transition" "work" "Z" (.int (1 : Int32))) (F_COMPLETE : Fld Z Z.heap w_COMPLETE "com/example/permits_from_duties/permitsfromduties/Event$Transition" "work" "Z" (.int (1 : Int32))) (F_ATE_ABORT : Fld Z Z.heap w_ATE_ABORT "com/example/permits_from_duties/permitsfromduties/Event$Transition" "work" "Z" (.int (1 : Int32))) (F_PI_ABORT : Fld Z Z.heap w_PI_ABORT "com/example/permits_from_duties/permitsfromduties/Event$Transition" "work" "Z" (.int (0 : Int32))) (F_MANUALSKIP : Fld Z Z.heap w_MANUALSKIP "com/example/permits_from_duties/permitsfromduties/Event$Transition" "work" "Z" (.int (0 : Int32))) (F_AUTOSKIP : Fld Z Z.heap w_AUTOSKIP "com/example/permits_from_duties/permitsfromduties/Event$Transition" "work" "Z" (.int (0 : Int32))) (F_UNKNOWN : Fld Z Z.heap w_UNKNOWN "com/example/permits_from_duties/permitsfromduties/Event$Transition" "work" "Z" (.int (1 : Int32))) :
    MetFree l (⟨"com/example/permits_from_duties/permitsfromduties/EventPerformerPinLaw", "pick", "(I)Lcom/example/permits_from_duties/permitsfromduties/Event$Transition;"⟩ : MethodName) (head1 (Jvm.Cond.code (⟨"com/example/permits_from_duties/permitsfromduties/EventPerformerPinLaw", "pick", "(I)Lcom/example/permits_from_duties/permitsfromduties/Event$Transition;"⟩ : MethodName) method_3_code 1 (some (.object "com/example/permits_from_duties/permitsfromduties/Event$Transition")) :: ws) ({ frames := 0, cells := 0, slots := 0, locals := 0 } : Room)) (fun a U => a = #[(.int (9 : Int32))] ∧ Z.Warmed39 U.vm ∧ U.heap = h0) (fun _ _ _ _ _ => True) (fun _ U o U' => ∃ v L, o = .returned v ∧ QPick0 Z h0 n0 v U'.heap L ∧ FrameEnd U o U' L ({ frames := 0, cells := 0, slots := 0, locals := 0 } : Room).cells ({ frames := 0, cells := 0, slots := 0, locals := 0 } : Room).slots) := by
  refine MetFree.of_bodySF (plainFor_of_name pn_com_example_permits_from_duties_permitsfromduties_EventPerformerPinLaw) hisR ?_
  intro p e s m args below meth c s₁ Bd hml0 hP hK
  obtain ⟨rfl, hZ, hh⟩ := hP
  have hx := Bd.exec
  have hby := Bd.bytes
  have hlk : meth.locks = false := Bd.notSynchronized
  have hml : c.maxLocals = 1 := hml0
  have hown : s.vm.findClass "com/example/permits_from_duties/permitsfromduties/EventPerformerPinLaw" = some m.cls := findClass_of_methodNamed Bd.named
  have hnm := (name_of_methodNamed Bd.named Bd.method).1
  have X0 : Stand p l e ({ frames := 0, cells := 0, slots := 0, locals := 0 } : Room) s m #[(.int (9 : Int32))] below meth c s₁ [] 0 0 := Stand.of_body Bd
  have e0 : s₁.heap = h0 := by rw [← hh, Bd.state]; rfl
  have N0 := Fr.nil n0
  show Go p e below (FinE s below (QPick0 Z h0 n0) ({ frames := 0, cells := 0, slots := 0, locals := 0 } : Room).cells ({ frames := 0, cells := 0, slots := 0, locals := 0 } : Room).slots) (s₁.setTop (entryFrame m #[(.int (9 : Int32))] 1))
  refine Go.via (fun t k => castTop (ef_rmPk_9 m ) k) ?_
  show Go p e below _ (s₁.setTop (mkF m 0 #[.val (.int (9 : Int32))] []))
  refine Go.via (fun _ => XS.iloadN X0.here hx rfl (hb hby d6_0) rfl) ?_
  show Go p e below _ (s₁.setTop (mkF m 1 #[.val (.int (9 : Int32))] [(.int (9 : Int32))]))
  refine Go.via (fun _ => XS.ifYes X0.here hx rfl (pc0 := 1) (pc' := 8) rfl (hb hby d6_1) rfl (by decide) (by decide) (by decide)) ?_
  show Go p e below _ (s₁.setTop (mkF m 8 #[.val (.int (9 : Int32))] []))
  refine Go.via (fun _ => XS.iloadN X0.here hx rfl (hb hby d6_8) rfl) ?_
  show Go p e below _ (s₁.setTop (mkF m 9 #[.val (.int (9 : Int32))] [(.int (9 : Int32))]))
  refine Go.via (fun _ => XS.iconst X0.here hx rfl (hb hby d6_9)) ?_
  show Go p e below _ (s₁.setTop (mkF m 10 #[.val (.int (9 : Int32))] [(.int (1 : Int32)), (.int (9 : Int32))]))
  refine Go.via (fun _ => XS.icmpYes X0.here hx rfl (pc0 := 10) (pc' := 17) rfl (hb hby d6_10) rfl (by decide) (by decide) (by decide)) ?_
  show Go p e below _ (s₁.setTop (mkF m 17 #[.val (.int (9 : Int32))] []))
  refine Go.via (fun _ => XS.iloadN X0.here hx rfl (hb hby d6_17) rfl) ?_
  show Go p e below _ (s₁.setTop (mkF m 18 #[.val (.int (9 : Int32))] [(.int (9 : Int32))]))
  refine Go.via (fun _ => XS.iconst X0.here hx rfl (hb hby d6_18)) ?_
  show Go p e below _ (s₁.setTop (mkF m 19 #[.val (.int (9 : Int32))] [(.int (2 : Int32)), (.int (9 : Int32))]))
  refine Go.via (fun _ => XS.icmpYes X0.here hx rfl (pc0 := 19) (pc' := 26) rfl (hb hby d6_19) rfl (by decide) (by decide) (by decide)) ?_
  show Go p e below _ (s₁.setTop (mkF m 26 #[.val (.int (9 : Int32))] []))
  refine Go.via (fun _ => XS.iloadN X0.here hx rfl (hb hby d6_26) rfl) ?_
  show Go p e below _ (s₁.setTop (mkF m 27 #[.val (.int (9 : Int32))] [(.int (9 : Int32))]))
  refine Go.via (fun _ => XS.iconst X0.here hx rfl (hb hby d6_27)) ?_
  show Go p e below _ (s₁.setTop (mkF m 28 #[.val (.int (9 : Int32))] [(.int (3 : Int32)), (.int (9 : Int32))]))
  refine Go.via (fun _ => XS.icmpYes X0.here hx rfl (pc0 := 28) (pc' := 35) rfl (hb hby d6_28) rfl (by decide) (by decide) (by decide)) ?_
  show Go p e below _ (s₁.setTop (mkF m 35 #[.val (.int (9 : Int32))] []))
  refine Go.via (fun _ => XS.iloadN X0.here hx rfl (hb hby d6_35) rfl) ?_
  show Go p e below _ (s₁.setTop (mkF m 36 #[.val (.int (9 : Int32))] [(.int (9 : Int32))]))
  refine Go.via (fun _ => XS.iconst X0.here hx rfl (hb hby d6_36)) ?_
  show Go p e below _ (s₁.setTop (mkF m 37 #[.val (.int (9 : Int32))] [(.int (4 : Int32)), (.int (9 : Int32))]))
  refine Go.via (fun _ => XS.icmpYes X0.here hx rfl (pc0 := 37) (pc' := 44) rfl (hb hby d6_37) rfl (by decide) (by decide) (by decide)) ?_
  show Go p e below _ (s₁.setTop (mkF m 44 #[.val (.int (9 : Int32))] []))
  refine Go.via (fun _ => XS.iloadN X0.here hx rfl (hb hby d6_44) rfl) ?_
  show Go p e below _ (s₁.setTop (mkF m 45 #[.val (.int (9 : Int32))] [(.int (9 : Int32))]))
  refine Go.via (fun _ => XS.iconst X0.here hx rfl (hb hby d6_45)) ?_
  show Go p e below _ (s₁.setTop (mkF m 46 #[.val (.int (9 : Int32))] [(.int (5 : Int32)), (.int (9 : Int32))]))
  refine Go.via (fun _ => XS.icmpYes X0.here hx rfl (pc0 := 46) (pc' := 53) rfl (hb hby d6_46) rfl (by decide) (by decide) (by decide)) ?_
  show Go p e below _ (s₁.setTop (mkF m 53 #[.val (.int (9 : Int32))] []))
  refine Go.via (fun _ => XS.iloadN X0.here hx rfl (hb hby d6_53) rfl) ?_
  show Go p e below _ (s₁.setTop (mkF m 54 #[.val (.int (9 : Int32))] [(.int (9 : Int32))]))
  refine Go.via (fun _ => XS.bipush X0.here hx rfl (hb hby d6_54)) ?_
  show Go p e below _ (s₁.setTop (mkF m 56 #[.val (.int (9 : Int32))] [(.int (6 : Int32)), (.int (9 : Int32))]))
  refine Go.via (fun _ => XS.icmpYes X0.here hx rfl (pc0 := 56) (pc' := 63) rfl (hb hby d6_56) rfl (by decide) (by decide) (by decide)) ?_
  show Go p e below _ (s₁.setTop (mkF m 63 #[.val (.int (9 : Int32))] []))
  refine Go.via (fun _ => XS.iloadN X0.here hx rfl (hb hby d6_63) rfl) ?_
  show Go p e below _ (s₁.setTop (mkF m 64 #[.val (.int (9 : Int32))] [(.int (9 : Int32))]))
  refine Go.via (fun _ => XS.bipush X0.here hx rfl (hb hby d6_64)) ?_
  show Go p e below _ (s₁.setTop (mkF m 66 #[.val (.int (9 : Int32))] [(.int (7 : Int32)), (.int (9 : Int32))]))
  refine Go.via (fun _ => XS.icmpYes X0.here hx rfl (pc0 := 66) (pc' := 73) rfl (hb hby d6_66) rfl (by decide) (by decide) (by decide)) ?_
  show Go p e below _ (s₁.setTop (mkF m 73 #[.val (.int (9 : Int32))] []))
  refine Go.via (fun _ => XS.iloadN X0.here hx rfl (hb hby d6_73) rfl) ?_
  show Go p e below _ (s₁.setTop (mkF m 74 #[.val (.int (9 : Int32))] [(.int (9 : Int32))]))
  refine Go.via (fun _ => XS.bipush X0.here hx rfl (hb hby d6_74)) ?_
  show Go p e below _ (s₁.setTop (mkF m 76 #[.val (.int (9 : Int32))] [(.int (8 : Int32)), (.int (9 : Int32))]))
  refine Go.via (fun _ => XS.icmpYes X0.here hx rfl (pc0 := 76) (pc' := 83) rfl (hb hby d6_76) rfl (by decide) (by decide) (by decide)) ?_
  show Go p e below _ (s₁.setTop (mkF m 83 #[.val (.int (9 : Int32))] []))
  refine Go.via (fun _ => XS.iloadN X0.here hx rfl (hb hby d6_83) rfl) ?_
  show Go p e below _ (s₁.setTop (mkF m 84 #[.val (.int (9 : Int32))] [(.int (9 : Int32))]))
  refine Go.via (fun _ => XS.bipush X0.here hx rfl (hb hby d6_84)) ?_
  show Go p e below _ (s₁.setTop (mkF m 86 #[.val (.int (9 : Int32))] [(.int (9 : Int32)), (.int (9 : Int32))]))
  refine Go.via (fun _ => XS.icmpNo X0.here hx rfl (hb hby d6_86) rfl (by decide)) ?_
  show Go p e below _ (s₁.setTop (mkF m 89 #[.val (.int (9 : Int32))] []))
  obtain ⟨T101, X101, e101, st101⟩ := getS2 X0 hx hZ hown (host := "") (Or.inl (hw _ (List.mem_of_getElem? (i := 96) rfl))) Via.refl e0 (S_PI_ABORT.ext O0.2) (g := (mkF m 89 #[.val (.int (9 : Int32))] [])) rfl (hb hby d6_89)
  refine Go.via st101 ?_
  show Go p e below _ (T101.setTop (mkF m 92 #[.val (.int (9 : Int32))] [(.ref w_PI_ABORT)]))
  exact own_retA X101 hx hlk Bd.returns rfl rfl (hb hby d6_92) (by show QPick0 Z h0 n0 _ T101.heap _; rw [e101]; exact ⟨w_PI_ABORT, rfl, N0, rfl, E_PI_ABORT.ext O0.2, F_PI_ABORT.ext O0.2⟩) (by decide) (by decide)
theorem ef_rmPk_10 (m : MethodId)  : entryFrame m #[(.int (10 : Int32))] 1 = mkF m 0 #[.val (.int (10 : Int32))] [] := by first | (simp [entryFrame, mkF, argsToLocals, Value.category]; done) | rfl
set_option maxRecDepth 65536 in
set_option maxHeartbeats 40000000 in
theorem rmPk_10 (l : Launch) (Z : State) (a0 : Array Value) (hw : ∀ d ∈ tables_1, d.before a0 Z = true) (ws : List Jvm.Cond) (w_SCHEDULE : Addr) (w_ASSIGN : Addr) (w_REASSIGN : Addr) (w_WITHDRAW : Addr) (w_START : Addr) (w_SUSPEND : Addr) (w_RESUME : Addr) (w_COMPLETE : Addr) (w_ATE_ABORT : Addr) (w_PI_ABORT : Addr) (w_MANUALSKIP : Addr) (w_AUTOSKIP : Addr) (w_UNKNOWN : Addr) (h0 : Heap) (n0 : Nat) (Z0 : n0 ≤ h0.size) (O0 : Old Z n0 h0) (S_SCHEDULE : Sta Z Z.heap "com/example/permits_from_duties/permitsfromduties/Event$Transition" "SCHEDULE" "Lcom/example/permits_from_duties/permitsfromduties/Event$Transition;" (.ref w_SCHEDULE)) (S_ASSIGN : Sta Z Z.heap "com/example/permits_from_duties/permitsfromduties/Event$Transition" "ASSIGN" "Lcom/example/permits_from_duties/permitsfromduties/Event$Transition;" (.ref w_ASSIGN)) (S_REASSIGN : Sta Z Z.heap "com/example/permits_from_duties/permitsfromduties/Event$Transition" "REASSIGN" "Lcom/example/permits_from_duties/permitsfromduties/Event$Transition;" (.ref w_REASSIGN)) (S_WITHDRAW : Sta Z Z.heap "com/example/permits_from_duties/permitsfromduties/Event$Transition" "WITHDRAW" "Lcom/example/permits_from_duties/permitsfromduties/Event$Transition;" (.ref w_WITHDRAW)) (S_START : Sta Z Z.heap "com/example/permits_from_duties/permitsfromduties/Event$Transition" "START" "Lcom/example/permits_from_duties/permitsfromduties/Event$Transition;" (.ref w_START)) (S_SUSPEND : Sta Z Z.heap "com/example/permits_from_duties/permitsfromduties/Event$Transition" "SUSPEND" "Lcom/example/permits_from_duties/permitsfromduties/Event$Transition;" (.ref w_SUSPEND)) (S_RESUME : Sta Z Z.heap "com/example/permits_from_duties/permitsfromduties/Event$Transition" "RESUME" "Lcom/example/permits_from_duties/permitsfromduties/Event$Transition;" (.ref w_RESUME)) (S_COMPLETE : Sta Z Z.heap "com/example/permits_from_duties/permitsfromduties/Event$Transition" "COMPLETE" "Lcom/example/permits_from_duties/permitsfromduties/Event$Transition;" (.ref w_COMPLETE)) (S_ATE_ABORT : Sta Z Z.heap "com/example/permits_from_duties/permitsfromduties/Event$Transition" "ATE_ABORT" "Lcom/example/permits_from_duties/permitsfromduties/Event$Transition;" (.ref w_ATE_ABORT)) (S_PI_ABORT : Sta Z Z.heap "com/example/permits_from_duties/permitsfromduties/Event$Transition" "PI_ABORT" "Lcom/example/permits_from_duties/permitsfromduties/Event$Transition;" (.ref w_PI_ABORT)) (S_MANUALSKIP : Sta Z Z.heap "com/example/permits_from_duties/permitsfromduties/Event$Transition" "MANUALSKIP" "Lcom/example/permits_from_duties/permitsfromduties/Event$Transition;" (.ref w_MANUALSKIP)) (S_AUTOSKIP : Sta Z Z.heap "com/example/permits_from_duties/permitsfromduties/Event$Transition" "AUTOSKIP" "Lcom/example/permits_from_duties/permitsfromduties/Event$Transition;" (.ref w_AUTOSKIP)) (S_UNKNOWN : Sta Z Z.heap "com/example/permits_from_duties/permitsfromduties/Event$Transition" "UNKNOWN" "Lcom/example/permits_from_duties/permitsfromduties/Event$Transition;" (.ref w_UNKNOWN)) (E_SCHEDULE : Exa Z Z.heap w_SCHEDULE "com/example/permits_from_duties/permitsfromduties/Event$Transition") (E_ASSIGN : Exa Z Z.heap w_ASSIGN "com/example/permits_from_duties/permitsfromduties/Event$Transition") (E_REASSIGN : Exa Z Z.heap w_REASSIGN "com/example/permits_from_duties/permitsfromduties/Event$Transition") (E_WITHDRAW : Exa Z Z.heap w_WITHDRAW "com/example/permits_from_duties/permitsfromduties/Event$Transition") (E_START : Exa Z Z.heap w_START "com/example/permits_from_duties/permitsfromduties/Event$Transition") (E_SUSPEND : Exa Z Z.heap w_SUSPEND "com/example/permits_from_duties/permitsfromduties/Event$Transition") (E_RESUME : Exa Z Z.heap w_RESUME "com/example/permits_from_duties/permitsfromduties/Event$Transition") (E_COMPLETE : Exa Z Z.heap w_COMPLETE "com/example/permits_from_duties/permitsfromduties/Event$Transition") (E_ATE_ABORT : Exa Z Z.heap w_ATE_ABORT "com/example/permits_from_duties/permitsfromduties/Event$Transition") (E_PI_ABORT : Exa Z Z.heap w_PI_ABORT "com/example/permits_from_duties/permitsfromduties/Event$Transition") (E_MANUALSKIP : Exa Z Z.heap w_MANUALSKIP "com/example/permits_from_duties/permitsfromduties/Event$Transition") (E_AUTOSKIP : Exa Z Z.heap w_AUTOSKIP "com/example/permits_from_duties/permitsfromduties/Event$Transition") (E_UNKNOWN : Exa Z Z.heap w_UNKNOWN "com/example/permits_from_duties/permitsfromduties/Event$Transition") (F_SCHEDULE : Fld Z Z.heap w_SCHEDULE "com/example/permits_from_duties/permitsfromduties/Event$Transition" "work" "Z" (.int (0 : Int32))) (F_ASSIGN : Fld Z Z.heap w_ASSIGN "com/example/permits_from_duties/permitsfromduties/Event$Transition" "work" "Z" (.int (0 : Int32))) (F_REASSIGN : Fld Z Z.heap w_REASSIGN "com/example/permits_from_duties/permitsfromduties/Event$Transition" "work" "Z" (.int (0 : Int32))) (F_WITHDRAW : Fld Z Z.heap w_WITHDRAW "com/example/permits_from_duties/permitsfromduties/Event$Transition" "work" "Z" (.int (0 : Int32))) (F_START : Fld Z Z.heap w_START "com/example/permits_from_duties/permitsfromduties/Event$Transition" "work" "Z" (.int (1 : Int32))) (F_SUSPEND : Fld Z Z.heap w_SUSPEND "com/example/permits_from_duties/permitsfromduties/Event$Transition" "work" "Z" (.int (1 : Int32))) (F_RESUME : Fld Z Z.heap w_RESUME "com/example/permits_from_duties/permitsfromduties/Event$Transition" "work" "Z" (.int (1 : Int32))) (F_COMPLETE : Fld Z Z.heap w_COMPLETE "com/example/permits_from_duties/permitsfromduties/Event$Transition" "work" "Z" (.int (1 : Int32))) (F_ATE_ABORT : Fld Z Z.heap w_ATE_ABORT "com/example/permits_from_duties/permitsfromduties/Event$Transition" "work" "Z" (.int (1 : Int32))) (F_PI_ABORT : Fld Z Z.heap w_PI_ABORT "com/example/permits_from_duties/permitsfromduties/Event$Transition" "work" "Z" (.int (0 : Int32))) (F_MANUALSKIP : Fld Z Z.heap w_MANUALSKIP "com/example/permits_from_duties/permitsfromduties/Event$Transition" "work" "Z" (.int (0 : Int32))) (F_AUTOSKIP : Fld Z Z.heap w_AUTOSKIP "com/example/permits_from_duties/permitsfromduties/Event$Transition" "work" "Z" (.int (0 : Int32))) (F_UNKNOWN : Fld Z Z.heap w_UNKNOWN "com/example/permits_from_duties/permitsfromduties/Event$Transition" "work" "Z" (.int (1 : Int32))) :
    MetFree l (⟨"com/example/permits_from_duties/permitsfromduties/EventPerformerPinLaw", "pick", "(I)Lcom/example/permits_from_duties/permitsfromduties/Event$Transition;"⟩ : MethodName) (head1 (Jvm.Cond.code (⟨"com/example/permits_from_duties/permitsfromduties/EventPerformerPinLaw", "pick", "(I)Lcom/example/permits_from_duties/permitsfromduties/Event$Transition;"⟩ : MethodName) method_3_code 1 (some (.object "com/example/permits_from_duties/permitsfromduties/Event$Transition")) :: ws) ({ frames := 0, cells := 0, slots := 0, locals := 0 } : Room)) (fun a U => a = #[(.int (10 : Int32))] ∧ Z.Warmed39 U.vm ∧ U.heap = h0) (fun _ _ _ _ _ => True) (fun _ U o U' => ∃ v L, o = .returned v ∧ QPick0 Z h0 n0 v U'.heap L ∧ FrameEnd U o U' L ({ frames := 0, cells := 0, slots := 0, locals := 0 } : Room).cells ({ frames := 0, cells := 0, slots := 0, locals := 0 } : Room).slots) := by
  refine MetFree.of_bodySF (plainFor_of_name pn_com_example_permits_from_duties_permitsfromduties_EventPerformerPinLaw) hisR ?_
  intro p e s m args below meth c s₁ Bd hml0 hP hK
  obtain ⟨rfl, hZ, hh⟩ := hP
  have hx := Bd.exec
  have hby := Bd.bytes
  have hlk : meth.locks = false := Bd.notSynchronized
  have hml : c.maxLocals = 1 := hml0
  have hown : s.vm.findClass "com/example/permits_from_duties/permitsfromduties/EventPerformerPinLaw" = some m.cls := findClass_of_methodNamed Bd.named
  have hnm := (name_of_methodNamed Bd.named Bd.method).1
  have X0 : Stand p l e ({ frames := 0, cells := 0, slots := 0, locals := 0 } : Room) s m #[(.int (10 : Int32))] below meth c s₁ [] 0 0 := Stand.of_body Bd
  have e0 : s₁.heap = h0 := by rw [← hh, Bd.state]; rfl
  have N0 := Fr.nil n0
  show Go p e below (FinE s below (QPick0 Z h0 n0) ({ frames := 0, cells := 0, slots := 0, locals := 0 } : Room).cells ({ frames := 0, cells := 0, slots := 0, locals := 0 } : Room).slots) (s₁.setTop (entryFrame m #[(.int (10 : Int32))] 1))
  refine Go.via (fun t k => castTop (ef_rmPk_10 m ) k) ?_
  show Go p e below _ (s₁.setTop (mkF m 0 #[.val (.int (10 : Int32))] []))
  refine Go.via (fun _ => XS.iloadN X0.here hx rfl (hb hby d6_0) rfl) ?_
  show Go p e below _ (s₁.setTop (mkF m 1 #[.val (.int (10 : Int32))] [(.int (10 : Int32))]))
  refine Go.via (fun _ => XS.ifYes X0.here hx rfl (pc0 := 1) (pc' := 8) rfl (hb hby d6_1) rfl (by decide) (by decide) (by decide)) ?_
  show Go p e below _ (s₁.setTop (mkF m 8 #[.val (.int (10 : Int32))] []))
  refine Go.via (fun _ => XS.iloadN X0.here hx rfl (hb hby d6_8) rfl) ?_
  show Go p e below _ (s₁.setTop (mkF m 9 #[.val (.int (10 : Int32))] [(.int (10 : Int32))]))
  refine Go.via (fun _ => XS.iconst X0.here hx rfl (hb hby d6_9)) ?_
  show Go p e below _ (s₁.setTop (mkF m 10 #[.val (.int (10 : Int32))] [(.int (1 : Int32)), (.int (10 : Int32))]))
  refine Go.via (fun _ => XS.icmpYes X0.here hx rfl (pc0 := 10) (pc' := 17) rfl (hb hby d6_10) rfl (by decide) (by decide) (by decide)) ?_
  show Go p e below _ (s₁.setTop (mkF m 17 #[.val (.int (10 : Int32))] []))
  refine Go.via (fun _ => XS.iloadN X0.here hx rfl (hb hby d6_17) rfl) ?_
  show Go p e below _ (s₁.setTop (mkF m 18 #[.val (.int (10 : Int32))] [(.int (10 : Int32))]))
  refine Go.via (fun _ => XS.iconst X0.here hx rfl (hb hby d6_18)) ?_
  show Go p e below _ (s₁.setTop (mkF m 19 #[.val (.int (10 : Int32))] [(.int (2 : Int32)), (.int (10 : Int32))]))
  refine Go.via (fun _ => XS.icmpYes X0.here hx rfl (pc0 := 19) (pc' := 26) rfl (hb hby d6_19) rfl (by decide) (by decide) (by decide)) ?_
  show Go p e below _ (s₁.setTop (mkF m 26 #[.val (.int (10 : Int32))] []))
  refine Go.via (fun _ => XS.iloadN X0.here hx rfl (hb hby d6_26) rfl) ?_
  show Go p e below _ (s₁.setTop (mkF m 27 #[.val (.int (10 : Int32))] [(.int (10 : Int32))]))
  refine Go.via (fun _ => XS.iconst X0.here hx rfl (hb hby d6_27)) ?_
  show Go p e below _ (s₁.setTop (mkF m 28 #[.val (.int (10 : Int32))] [(.int (3 : Int32)), (.int (10 : Int32))]))
  refine Go.via (fun _ => XS.icmpYes X0.here hx rfl (pc0 := 28) (pc' := 35) rfl (hb hby d6_28) rfl (by decide) (by decide) (by decide)) ?_
  show Go p e below _ (s₁.setTop (mkF m 35 #[.val (.int (10 : Int32))] []))
  refine Go.via (fun _ => XS.iloadN X0.here hx rfl (hb hby d6_35) rfl) ?_
  show Go p e below _ (s₁.setTop (mkF m 36 #[.val (.int (10 : Int32))] [(.int (10 : Int32))]))
  refine Go.via (fun _ => XS.iconst X0.here hx rfl (hb hby d6_36)) ?_
  show Go p e below _ (s₁.setTop (mkF m 37 #[.val (.int (10 : Int32))] [(.int (4 : Int32)), (.int (10 : Int32))]))
  refine Go.via (fun _ => XS.icmpYes X0.here hx rfl (pc0 := 37) (pc' := 44) rfl (hb hby d6_37) rfl (by decide) (by decide) (by decide)) ?_
  show Go p e below _ (s₁.setTop (mkF m 44 #[.val (.int (10 : Int32))] []))
  refine Go.via (fun _ => XS.iloadN X0.here hx rfl (hb hby d6_44) rfl) ?_
  show Go p e below _ (s₁.setTop (mkF m 45 #[.val (.int (10 : Int32))] [(.int (10 : Int32))]))
  refine Go.via (fun _ => XS.iconst X0.here hx rfl (hb hby d6_45)) ?_
  show Go p e below _ (s₁.setTop (mkF m 46 #[.val (.int (10 : Int32))] [(.int (5 : Int32)), (.int (10 : Int32))]))
  refine Go.via (fun _ => XS.icmpYes X0.here hx rfl (pc0 := 46) (pc' := 53) rfl (hb hby d6_46) rfl (by decide) (by decide) (by decide)) ?_
  show Go p e below _ (s₁.setTop (mkF m 53 #[.val (.int (10 : Int32))] []))
  refine Go.via (fun _ => XS.iloadN X0.here hx rfl (hb hby d6_53) rfl) ?_
  show Go p e below _ (s₁.setTop (mkF m 54 #[.val (.int (10 : Int32))] [(.int (10 : Int32))]))
  refine Go.via (fun _ => XS.bipush X0.here hx rfl (hb hby d6_54)) ?_
  show Go p e below _ (s₁.setTop (mkF m 56 #[.val (.int (10 : Int32))] [(.int (6 : Int32)), (.int (10 : Int32))]))
  refine Go.via (fun _ => XS.icmpYes X0.here hx rfl (pc0 := 56) (pc' := 63) rfl (hb hby d6_56) rfl (by decide) (by decide) (by decide)) ?_
  show Go p e below _ (s₁.setTop (mkF m 63 #[.val (.int (10 : Int32))] []))
  refine Go.via (fun _ => XS.iloadN X0.here hx rfl (hb hby d6_63) rfl) ?_
  show Go p e below _ (s₁.setTop (mkF m 64 #[.val (.int (10 : Int32))] [(.int (10 : Int32))]))
  refine Go.via (fun _ => XS.bipush X0.here hx rfl (hb hby d6_64)) ?_
  show Go p e below _ (s₁.setTop (mkF m 66 #[.val (.int (10 : Int32))] [(.int (7 : Int32)), (.int (10 : Int32))]))
  refine Go.via (fun _ => XS.icmpYes X0.here hx rfl (pc0 := 66) (pc' := 73) rfl (hb hby d6_66) rfl (by decide) (by decide) (by decide)) ?_
  show Go p e below _ (s₁.setTop (mkF m 73 #[.val (.int (10 : Int32))] []))
  refine Go.via (fun _ => XS.iloadN X0.here hx rfl (hb hby d6_73) rfl) ?_
  show Go p e below _ (s₁.setTop (mkF m 74 #[.val (.int (10 : Int32))] [(.int (10 : Int32))]))
  refine Go.via (fun _ => XS.bipush X0.here hx rfl (hb hby d6_74)) ?_
  show Go p e below _ (s₁.setTop (mkF m 76 #[.val (.int (10 : Int32))] [(.int (8 : Int32)), (.int (10 : Int32))]))
  refine Go.via (fun _ => XS.icmpYes X0.here hx rfl (pc0 := 76) (pc' := 83) rfl (hb hby d6_76) rfl (by decide) (by decide) (by decide)) ?_
  show Go p e below _ (s₁.setTop (mkF m 83 #[.val (.int (10 : Int32))] []))
  refine Go.via (fun _ => XS.iloadN X0.here hx rfl (hb hby d6_83) rfl) ?_
  show Go p e below _ (s₁.setTop (mkF m 84 #[.val (.int (10 : Int32))] [(.int (10 : Int32))]))
  refine Go.via (fun _ => XS.bipush X0.here hx rfl (hb hby d6_84)) ?_
  show Go p e below _ (s₁.setTop (mkF m 86 #[.val (.int (10 : Int32))] [(.int (9 : Int32)), (.int (10 : Int32))]))
  refine Go.via (fun _ => XS.icmpYes X0.here hx rfl (pc0 := 86) (pc' := 93) rfl (hb hby d6_86) rfl (by decide) (by decide) (by decide)) ?_
  show Go p e below _ (s₁.setTop (mkF m 93 #[.val (.int (10 : Int32))] []))
  refine Go.via (fun _ => XS.iloadN X0.here hx rfl (hb hby d6_93) rfl) ?_
  show Go p e below _ (s₁.setTop (mkF m 94 #[.val (.int (10 : Int32))] [(.int (10 : Int32))]))
  refine Go.via (fun _ => XS.bipush X0.here hx rfl (hb hby d6_94)) ?_
  show Go p e below _ (s₁.setTop (mkF m 96 #[.val (.int (10 : Int32))] [(.int (10 : Int32)), (.int (10 : Int32))]))
  refine Go.via (fun _ => XS.icmpNo X0.here hx rfl (hb hby d6_96) rfl (by decide)) ?_
  show Go p e below _ (s₁.setTop (mkF m 99 #[.val (.int (10 : Int32))] []))
  obtain ⟨T101, X101, e101, st101⟩ := getS2 X0 hx hZ hown (host := "") (Or.inl (hw _ (List.mem_of_getElem? (i := 127) rfl))) Via.refl e0 (S_MANUALSKIP.ext O0.2) (g := (mkF m 99 #[.val (.int (10 : Int32))] [])) rfl (hb hby d6_99)
  refine Go.via st101 ?_
  show Go p e below _ (T101.setTop (mkF m 102 #[.val (.int (10 : Int32))] [(.ref w_MANUALSKIP)]))
  exact own_retA X101 hx hlk Bd.returns rfl rfl (hb hby d6_102) (by show QPick0 Z h0 n0 _ T101.heap _; rw [e101]; exact ⟨w_MANUALSKIP, rfl, N0, rfl, E_MANUALSKIP.ext O0.2, F_MANUALSKIP.ext O0.2⟩) (by decide) (by decide)
theorem ef_rmPk_11 (m : MethodId)  : entryFrame m #[(.int (11 : Int32))] 1 = mkF m 0 #[.val (.int (11 : Int32))] [] := by first | (simp [entryFrame, mkF, argsToLocals, Value.category]; done) | rfl
set_option maxRecDepth 65536 in
set_option maxHeartbeats 40000000 in
theorem rmPk_11 (l : Launch) (Z : State) (a0 : Array Value) (hw : ∀ d ∈ tables_1, d.before a0 Z = true) (ws : List Jvm.Cond) (w_SCHEDULE : Addr) (w_ASSIGN : Addr) (w_REASSIGN : Addr) (w_WITHDRAW : Addr) (w_START : Addr) (w_SUSPEND : Addr) (w_RESUME : Addr) (w_COMPLETE : Addr) (w_ATE_ABORT : Addr) (w_PI_ABORT : Addr) (w_MANUALSKIP : Addr) (w_AUTOSKIP : Addr) (w_UNKNOWN : Addr) (h0 : Heap) (n0 : Nat) (Z0 : n0 ≤ h0.size) (O0 : Old Z n0 h0) (S_SCHEDULE : Sta Z Z.heap "com/example/permits_from_duties/permitsfromduties/Event$Transition" "SCHEDULE" "Lcom/example/permits_from_duties/permitsfromduties/Event$Transition;" (.ref w_SCHEDULE)) (S_ASSIGN : Sta Z Z.heap "com/example/permits_from_duties/permitsfromduties/Event$Transition" "ASSIGN" "Lcom/example/permits_from_duties/permitsfromduties/Event$Transition;" (.ref w_ASSIGN)) (S_REASSIGN : Sta Z Z.heap "com/example/permits_from_duties/permitsfromduties/Event$Transition" "REASSIGN" "Lcom/example/permits_from_duties/permitsfromduties/Event$Transition;" (.ref w_REASSIGN)) (S_WITHDRAW : Sta Z Z.heap "com/example/permits_from_duties/permitsfromduties/Event$Transition" "WITHDRAW" "Lcom/example/permits_from_duties/permitsfromduties/Event$Transition;" (.ref w_WITHDRAW)) (S_START : Sta Z Z.heap "com/example/permits_from_duties/permitsfromduties/Event$Transition" "START" "Lcom/example/permits_from_duties/permitsfromduties/Event$Transition;" (.ref w_START)) (S_SUSPEND : Sta Z Z.heap "com/example/permits_from_duties/permitsfromduties/Event$Transition" "SUSPEND" "Lcom/example/permits_from_duties/permitsfromduties/Event$Transition;" (.ref w_SUSPEND)) (S_RESUME : Sta Z Z.heap "com/example/permits_from_duties/permitsfromduties/Event$Transition" "RESUME" "Lcom/example/permits_from_duties/permitsfromduties/Event$Transition;" (.ref w_RESUME)) (S_COMPLETE : Sta Z Z.heap "com/example/permits_from_duties/permitsfromduties/Event$Transition" "COMPLETE" "Lcom/example/permits_from_duties/permitsfromduties/Event$Transition;" (.ref w_COMPLETE)) (S_ATE_ABORT : Sta Z Z.heap "com/example/permits_from_duties/permitsfromduties/Event$Transition" "ATE_ABORT" "Lcom/example/permits_from_duties/permitsfromduties/Event$Transition;" (.ref w_ATE_ABORT)) (S_PI_ABORT : Sta Z Z.heap "com/example/permits_from_duties/permitsfromduties/Event$Transition" "PI_ABORT" "Lcom/example/permits_from_duties/permitsfromduties/Event$Transition;" (.ref w_PI_ABORT)) (S_MANUALSKIP : Sta Z Z.heap "com/example/permits_from_duties/permitsfromduties/Event$Transition" "MANUALSKIP" "Lcom/example/permits_from_duties/permitsfromduties/Event$Transition;" (.ref w_MANUALSKIP)) (S_AUTOSKIP : Sta Z Z.heap "com/example/permits_from_duties/permitsfromduties/Event$Transition" "AUTOSKIP" "Lcom/example/permits_from_duties/permitsfromduties/Event$Transition;" (.ref w_AUTOSKIP)) (S_UNKNOWN : Sta Z Z.heap "com/example/permits_from_duties/permitsfromduties/Event$Transition" "UNKNOWN" "Lcom/example/permits_from_duties/permitsfromduties/Event$Transition;" (.ref w_UNKNOWN)) (E_SCHEDULE : Exa Z Z.heap w_SCHEDULE "com/example/permits_from_duties/permitsfromduties/Event$Transition") (E_ASSIGN : Exa Z Z.heap w_ASSIGN "com/example/permits_from_duties/permitsfromduties/Event$Transition") (E_REASSIGN : Exa Z Z.heap w_REASSIGN "com/example/permits_from_duties/permitsfromduties/Event$Transition") (E_WITHDRAW : Exa Z Z.heap w_WITHDRAW "com/example/permits_from_duties/permitsfromduties/Event$Transition") (E_START : Exa Z Z.heap w_START "com/example/permits_from_duties/permitsfromduties/Event$Transition") (E_SUSPEND : Exa Z Z.heap w_SUSPEND "com/example/permits_from_duties/permitsfromduties/Event$Transition") (E_RESUME : Exa Z Z.heap w_RESUME "com/example/permits_from_duties/permitsfromduties/Event$Transition") (E_COMPLETE : Exa Z Z.heap w_COMPLETE "com/example/permits_from_duties/permitsfromduties/Event$Transition") (E_ATE_ABORT : Exa Z Z.heap w_ATE_ABORT "com/example/permits_from_duties/permitsfromduties/Event$Transition") (E_PI_ABORT : Exa Z Z.heap w_PI_ABORT "com/example/permits_from_duties/permitsfromduties/Event$Transition") (E_MANUALSKIP : Exa Z Z.heap w_MANUALSKIP "com/example/permits_from_duties/permitsfromduties/Event$Transition") (E_AUTOSKIP : Exa Z Z.heap w_AUTOSKIP "com/example/permits_from_duties/permitsfromduties/Event$Transition") (E_UNKNOWN : Exa Z Z.heap w_UNKNOWN "com/example/permits_from_duties/permitsfromduties/Event$Transition") (F_SCHEDULE : Fld Z Z.heap w_SCHEDULE "com/example/permits_from_duties/permitsfromduties/Event$Transition" "work" "Z" (.int (0 : Int32))) (F_ASSIGN : Fld Z Z.heap w_ASSIGN "com/example/permits_from_duties/permitsfromduties/Event$Transition" "work" "Z" (.int (0 : Int32))) (F_REASSIGN : Fld Z Z.heap w_REASSIGN "com/example/permits_from_duties/permitsfromduties/Event$Transition" "work" "Z" (.int (0 : Int32))) (F_WITHDRAW : Fld Z Z.heap w_WITHDRAW "com/example/permits_from_duties/permitsfromduties/Event$Transition" "work" "Z" (.int (0 : Int32))) (F_START : Fld Z Z.heap w_START "com/example/permits_from_duties/permitsfromduties/Event$Transition" "work" "Z" (.int (1 : Int32))) (F_SUSPEND : Fld Z Z.heap w_SUSPEND "com/example/permits_from_duties/permitsfromduties/Event$Transition" "work" "Z" (.int (1 : Int32))) (F_RESUME : Fld Z Z.heap w_RESUME "com/example/permits_from_duties/permitsfromduties/Event$Transition" "work" "Z" (.int (1 : Int32))) (F_COMPLETE : Fld Z Z.heap w_COMPLETE "com/example/permits_from_duties/permitsfromduties/Event$Transition" "work" "Z" (.int (1 : Int32))) (F_ATE_ABORT : Fld Z Z.heap w_ATE_ABORT "com/example/permits_from_duties/permitsfromduties/Event$Transition" "work" "Z" (.int (1 : Int32))) (F_PI_ABORT : Fld Z Z.heap w_PI_ABORT "com/example/permits_from_duties/permitsfromduties/Event$Transition" "work" "Z" (.int (0 : Int32))) (F_MANUALSKIP : Fld Z Z.heap w_MANUALSKIP "com/example/permits_from_duties/permitsfromduties/Event$Transition" "work" "Z" (.int (0 : Int32))) (F_AUTOSKIP : Fld Z Z.heap w_AUTOSKIP "com/example/permits_from_duties/permitsfromduties/Event$Transition" "work" "Z" (.int (0 : Int32))) (F_UNKNOWN : Fld Z Z.heap w_UNKNOWN "com/example/permits_from_duties/permitsfromduties/Event$Transition" "work" "Z" (.int (1 : Int32))) :
    MetFree l (⟨"com/example/permits_from_duties/permitsfromduties/EventPerformerPinLaw", "pick", "(I)Lcom/example/permits_from_duties/permitsfromduties/Event$Transition;"⟩ : MethodName) (head1 (Jvm.Cond.code (⟨"com/example/permits_from_duties/permitsfromduties/EventPerformerPinLaw", "pick", "(I)Lcom/example/permits_from_duties/permitsfromduties/Event$Transition;"⟩ : MethodName) method_3_code 1 (some (.object "com/example/permits_from_duties/permitsfromduties/Event$Transition")) :: ws) ({ frames := 0, cells := 0, slots := 0, locals := 0 } : Room)) (fun a U => a = #[(.int (11 : Int32))] ∧ Z.Warmed39 U.vm ∧ U.heap = h0) (fun _ _ _ _ _ => True) (fun _ U o U' => ∃ v L, o = .returned v ∧ QPick0 Z h0 n0 v U'.heap L ∧ FrameEnd U o U' L ({ frames := 0, cells := 0, slots := 0, locals := 0 } : Room).cells ({ frames := 0, cells := 0, slots := 0, locals := 0 } : Room).slots) := by
  refine MetFree.of_bodySF (plainFor_of_name pn_com_example_permits_from_duties_permitsfromduties_EventPerformerPinLaw) hisR ?_
  intro p e s m args below meth c s₁ Bd hml0 hP hK
  obtain ⟨rfl, hZ, hh⟩ := hP
  have hx := Bd.exec
  have hby := Bd.bytes
  have hlk : meth.locks = false := Bd.notSynchronized
  have hml : c.maxLocals = 1 := hml0
  have hown : s.vm.findClass "com/example/permits_from_duties/permitsfromduties/EventPerformerPinLaw" = some m.cls := findClass_of_methodNamed Bd.named
  have hnm := (name_of_methodNamed Bd.named Bd.method).1
  have X0 : Stand p l e ({ frames := 0, cells := 0, slots := 0, locals := 0 } : Room) s m #[(.int (11 : Int32))] below meth c s₁ [] 0 0 := Stand.of_body Bd
  have e0 : s₁.heap = h0 := by rw [← hh, Bd.state]; rfl
  have N0 := Fr.nil n0
  show Go p e below (FinE s below (QPick0 Z h0 n0) ({ frames := 0, cells := 0, slots := 0, locals := 0 } : Room).cells ({ frames := 0, cells := 0, slots := 0, locals := 0 } : Room).slots) (s₁.setTop (entryFrame m #[(.int (11 : Int32))] 1))
  refine Go.via (fun t k => castTop (ef_rmPk_11 m ) k) ?_
  show Go p e below _ (s₁.setTop (mkF m 0 #[.val (.int (11 : Int32))] []))
  refine Go.via (fun _ => XS.iloadN X0.here hx rfl (hb hby d6_0) rfl) ?_
  show Go p e below _ (s₁.setTop (mkF m 1 #[.val (.int (11 : Int32))] [(.int (11 : Int32))]))
  refine Go.via (fun _ => XS.ifYes X0.here hx rfl (pc0 := 1) (pc' := 8) rfl (hb hby d6_1) rfl (by decide) (by decide) (by decide)) ?_
  show Go p e below _ (s₁.setTop (mkF m 8 #[.val (.int (11 : Int32))] []))
  refine Go.via (fun _ => XS.iloadN X0.here hx rfl (hb hby d6_8) rfl) ?_
  show Go p e below _ (s₁.setTop (mkF m 9 #[.val (.int (11 : Int32))] [(.int (11 : Int32))]))
  refine Go.via (fun _ => XS.iconst X0.here hx rfl (hb hby d6_9)) ?_
  show Go p e below _ (s₁.setTop (mkF m 10 #[.val (.int (11 : Int32))] [(.int (1 : Int32)), (.int (11 : Int32))]))
  refine Go.via (fun _ => XS.icmpYes X0.here hx rfl (pc0 := 10) (pc' := 17) rfl (hb hby d6_10) rfl (by decide) (by decide) (by decide)) ?_
  show Go p e below _ (s₁.setTop (mkF m 17 #[.val (.int (11 : Int32))] []))
  refine Go.via (fun _ => XS.iloadN X0.here hx rfl (hb hby d6_17) rfl) ?_
  show Go p e below _ (s₁.setTop (mkF m 18 #[.val (.int (11 : Int32))] [(.int (11 : Int32))]))
  refine Go.via (fun _ => XS.iconst X0.here hx rfl (hb hby d6_18)) ?_
  show Go p e below _ (s₁.setTop (mkF m 19 #[.val (.int (11 : Int32))] [(.int (2 : Int32)), (.int (11 : Int32))]))
  refine Go.via (fun _ => XS.icmpYes X0.here hx rfl (pc0 := 19) (pc' := 26) rfl (hb hby d6_19) rfl (by decide) (by decide) (by decide)) ?_
  show Go p e below _ (s₁.setTop (mkF m 26 #[.val (.int (11 : Int32))] []))
  refine Go.via (fun _ => XS.iloadN X0.here hx rfl (hb hby d6_26) rfl) ?_
  show Go p e below _ (s₁.setTop (mkF m 27 #[.val (.int (11 : Int32))] [(.int (11 : Int32))]))
  refine Go.via (fun _ => XS.iconst X0.here hx rfl (hb hby d6_27)) ?_
  show Go p e below _ (s₁.setTop (mkF m 28 #[.val (.int (11 : Int32))] [(.int (3 : Int32)), (.int (11 : Int32))]))
  refine Go.via (fun _ => XS.icmpYes X0.here hx rfl (pc0 := 28) (pc' := 35) rfl (hb hby d6_28) rfl (by decide) (by decide) (by decide)) ?_
  show Go p e below _ (s₁.setTop (mkF m 35 #[.val (.int (11 : Int32))] []))
  refine Go.via (fun _ => XS.iloadN X0.here hx rfl (hb hby d6_35) rfl) ?_
  show Go p e below _ (s₁.setTop (mkF m 36 #[.val (.int (11 : Int32))] [(.int (11 : Int32))]))
  refine Go.via (fun _ => XS.iconst X0.here hx rfl (hb hby d6_36)) ?_
  show Go p e below _ (s₁.setTop (mkF m 37 #[.val (.int (11 : Int32))] [(.int (4 : Int32)), (.int (11 : Int32))]))
  refine Go.via (fun _ => XS.icmpYes X0.here hx rfl (pc0 := 37) (pc' := 44) rfl (hb hby d6_37) rfl (by decide) (by decide) (by decide)) ?_
  show Go p e below _ (s₁.setTop (mkF m 44 #[.val (.int (11 : Int32))] []))
  refine Go.via (fun _ => XS.iloadN X0.here hx rfl (hb hby d6_44) rfl) ?_
  show Go p e below _ (s₁.setTop (mkF m 45 #[.val (.int (11 : Int32))] [(.int (11 : Int32))]))
  refine Go.via (fun _ => XS.iconst X0.here hx rfl (hb hby d6_45)) ?_
  show Go p e below _ (s₁.setTop (mkF m 46 #[.val (.int (11 : Int32))] [(.int (5 : Int32)), (.int (11 : Int32))]))
  refine Go.via (fun _ => XS.icmpYes X0.here hx rfl (pc0 := 46) (pc' := 53) rfl (hb hby d6_46) rfl (by decide) (by decide) (by decide)) ?_
  show Go p e below _ (s₁.setTop (mkF m 53 #[.val (.int (11 : Int32))] []))
  refine Go.via (fun _ => XS.iloadN X0.here hx rfl (hb hby d6_53) rfl) ?_
  show Go p e below _ (s₁.setTop (mkF m 54 #[.val (.int (11 : Int32))] [(.int (11 : Int32))]))
  refine Go.via (fun _ => XS.bipush X0.here hx rfl (hb hby d6_54)) ?_
  show Go p e below _ (s₁.setTop (mkF m 56 #[.val (.int (11 : Int32))] [(.int (6 : Int32)), (.int (11 : Int32))]))
  refine Go.via (fun _ => XS.icmpYes X0.here hx rfl (pc0 := 56) (pc' := 63) rfl (hb hby d6_56) rfl (by decide) (by decide) (by decide)) ?_
  show Go p e below _ (s₁.setTop (mkF m 63 #[.val (.int (11 : Int32))] []))
  refine Go.via (fun _ => XS.iloadN X0.here hx rfl (hb hby d6_63) rfl) ?_
  show Go p e below _ (s₁.setTop (mkF m 64 #[.val (.int (11 : Int32))] [(.int (11 : Int32))]))
  refine Go.via (fun _ => XS.bipush X0.here hx rfl (hb hby d6_64)) ?_
  show Go p e below _ (s₁.setTop (mkF m 66 #[.val (.int (11 : Int32))] [(.int (7 : Int32)), (.int (11 : Int32))]))
  refine Go.via (fun _ => XS.icmpYes X0.here hx rfl (pc0 := 66) (pc' := 73) rfl (hb hby d6_66) rfl (by decide) (by decide) (by decide)) ?_
  show Go p e below _ (s₁.setTop (mkF m 73 #[.val (.int (11 : Int32))] []))
  refine Go.via (fun _ => XS.iloadN X0.here hx rfl (hb hby d6_73) rfl) ?_
  show Go p e below _ (s₁.setTop (mkF m 74 #[.val (.int (11 : Int32))] [(.int (11 : Int32))]))
  refine Go.via (fun _ => XS.bipush X0.here hx rfl (hb hby d6_74)) ?_
  show Go p e below _ (s₁.setTop (mkF m 76 #[.val (.int (11 : Int32))] [(.int (8 : Int32)), (.int (11 : Int32))]))
  refine Go.via (fun _ => XS.icmpYes X0.here hx rfl (pc0 := 76) (pc' := 83) rfl (hb hby d6_76) rfl (by decide) (by decide) (by decide)) ?_
  show Go p e below _ (s₁.setTop (mkF m 83 #[.val (.int (11 : Int32))] []))
  refine Go.via (fun _ => XS.iloadN X0.here hx rfl (hb hby d6_83) rfl) ?_
  show Go p e below _ (s₁.setTop (mkF m 84 #[.val (.int (11 : Int32))] [(.int (11 : Int32))]))
  refine Go.via (fun _ => XS.bipush X0.here hx rfl (hb hby d6_84)) ?_
  show Go p e below _ (s₁.setTop (mkF m 86 #[.val (.int (11 : Int32))] [(.int (9 : Int32)), (.int (11 : Int32))]))
  refine Go.via (fun _ => XS.icmpYes X0.here hx rfl (pc0 := 86) (pc' := 93) rfl (hb hby d6_86) rfl (by decide) (by decide) (by decide)) ?_
  show Go p e below _ (s₁.setTop (mkF m 93 #[.val (.int (11 : Int32))] []))
  refine Go.via (fun _ => XS.iloadN X0.here hx rfl (hb hby d6_93) rfl) ?_
  show Go p e below _ (s₁.setTop (mkF m 94 #[.val (.int (11 : Int32))] [(.int (11 : Int32))]))
  refine Go.via (fun _ => XS.bipush X0.here hx rfl (hb hby d6_94)) ?_
  show Go p e below _ (s₁.setTop (mkF m 96 #[.val (.int (11 : Int32))] [(.int (10 : Int32)), (.int (11 : Int32))]))
  refine Go.via (fun _ => XS.icmpYes X0.here hx rfl (pc0 := 96) (pc' := 103) rfl (hb hby d6_96) rfl (by decide) (by decide) (by decide)) ?_
  show Go p e below _ (s₁.setTop (mkF m 103 #[.val (.int (11 : Int32))] []))
  refine Go.via (fun _ => XS.iloadN X0.here hx rfl (hb hby d6_103) rfl) ?_
  show Go p e below _ (s₁.setTop (mkF m 104 #[.val (.int (11 : Int32))] [(.int (11 : Int32))]))
  refine Go.via (fun _ => XS.bipush X0.here hx rfl (hb hby d6_104)) ?_
  show Go p e below _ (s₁.setTop (mkF m 106 #[.val (.int (11 : Int32))] [(.int (11 : Int32)), (.int (11 : Int32))]))
  refine Go.via (fun _ => XS.icmpNo X0.here hx rfl (hb hby d6_106) rfl (by decide)) ?_
  show Go p e below _ (s₁.setTop (mkF m 109 #[.val (.int (11 : Int32))] []))
  obtain ⟨T101, X101, e101, st101⟩ := getS2 X0 hx hZ hown (host := "") (Or.inl (hw _ (List.mem_of_getElem? (i := 125) rfl))) Via.refl e0 (S_AUTOSKIP.ext O0.2) (g := (mkF m 109 #[.val (.int (11 : Int32))] [])) rfl (hb hby d6_109)
  refine Go.via st101 ?_
  show Go p e below _ (T101.setTop (mkF m 112 #[.val (.int (11 : Int32))] [(.ref w_AUTOSKIP)]))
  exact own_retA X101 hx hlk Bd.returns rfl rfl (hb hby d6_112) (by show QPick0 Z h0 n0 _ T101.heap _; rw [e101]; exact ⟨w_AUTOSKIP, rfl, N0, rfl, E_AUTOSKIP.ext O0.2, F_AUTOSKIP.ext O0.2⟩) (by decide) (by decide)
theorem ef_rmPk_12 (m : MethodId)  : entryFrame m #[(.int (12 : Int32))] 1 = mkF m 0 #[.val (.int (12 : Int32))] [] := by first | (simp [entryFrame, mkF, argsToLocals, Value.category]; done) | rfl
set_option maxRecDepth 65536 in
set_option maxHeartbeats 40000000 in
theorem rmPk_12 (l : Launch) (Z : State) (a0 : Array Value) (hw : ∀ d ∈ tables_1, d.before a0 Z = true) (ws : List Jvm.Cond) (w_SCHEDULE : Addr) (w_ASSIGN : Addr) (w_REASSIGN : Addr) (w_WITHDRAW : Addr) (w_START : Addr) (w_SUSPEND : Addr) (w_RESUME : Addr) (w_COMPLETE : Addr) (w_ATE_ABORT : Addr) (w_PI_ABORT : Addr) (w_MANUALSKIP : Addr) (w_AUTOSKIP : Addr) (w_UNKNOWN : Addr) (h0 : Heap) (n0 : Nat) (Z0 : n0 ≤ h0.size) (O0 : Old Z n0 h0) (S_SCHEDULE : Sta Z Z.heap "com/example/permits_from_duties/permitsfromduties/Event$Transition" "SCHEDULE" "Lcom/example/permits_from_duties/permitsfromduties/Event$Transition;" (.ref w_SCHEDULE)) (S_ASSIGN : Sta Z Z.heap "com/example/permits_from_duties/permitsfromduties/Event$Transition" "ASSIGN" "Lcom/example/permits_from_duties/permitsfromduties/Event$Transition;" (.ref w_ASSIGN)) (S_REASSIGN : Sta Z Z.heap "com/example/permits_from_duties/permitsfromduties/Event$Transition" "REASSIGN" "Lcom/example/permits_from_duties/permitsfromduties/Event$Transition;" (.ref w_REASSIGN)) (S_WITHDRAW : Sta Z Z.heap "com/example/permits_from_duties/permitsfromduties/Event$Transition" "WITHDRAW" "Lcom/example/permits_from_duties/permitsfromduties/Event$Transition;" (.ref w_WITHDRAW)) (S_START : Sta Z Z.heap "com/example/permits_from_duties/permitsfromduties/Event$Transition" "START" "Lcom/example/permits_from_duties/permitsfromduties/Event$Transition;" (.ref w_START)) (S_SUSPEND : Sta Z Z.heap "com/example/permits_from_duties/permitsfromduties/Event$Transition" "SUSPEND" "Lcom/example/permits_from_duties/permitsfromduties/Event$Transition;" (.ref w_SUSPEND)) (S_RESUME : Sta Z Z.heap "com/example/permits_from_duties/permitsfromduties/Event$Transition" "RESUME" "Lcom/example/permits_from_duties/permitsfromduties/Event$Transition;" (.ref w_RESUME)) (S_COMPLETE : Sta Z Z.heap "com/example/permits_from_duties/permitsfromduties/Event$Transition" "COMPLETE" "Lcom/example/permits_from_duties/permitsfromduties/Event$Transition;" (.ref w_COMPLETE)) (S_ATE_ABORT : Sta Z Z.heap "com/example/permits_from_duties/permitsfromduties/Event$Transition" "ATE_ABORT" "Lcom/example/permits_from_duties/permitsfromduties/Event$Transition;" (.ref w_ATE_ABORT)) (S_PI_ABORT : Sta Z Z.heap "com/example/permits_from_duties/permitsfromduties/Event$Transition" "PI_ABORT" "Lcom/example/permits_from_duties/permitsfromduties/Event$Transition;" (.ref w_PI_ABORT)) (S_MANUALSKIP : Sta Z Z.heap "com/example/permits_from_duties/permitsfromduties/Event$Transition" "MANUALSKIP" "Lcom/example/permits_from_duties/permitsfromduties/Event$Transition;" (.ref w_MANUALSKIP)) (S_AUTOSKIP : Sta Z Z.heap "com/example/permits_from_duties/permitsfromduties/Event$Transition" "AUTOSKIP" "Lcom/example/permits_from_duties/permitsfromduties/Event$Transition;" (.ref w_AUTOSKIP)) (S_UNKNOWN : Sta Z Z.heap "com/example/permits_from_duties/permitsfromduties/Event$Transition" "UNKNOWN" "Lcom/example/permits_from_duties/permitsfromduties/Event$Transition;" (.ref w_UNKNOWN)) (E_SCHEDULE : Exa Z Z.heap w_SCHEDULE "com/example/permits_from_duties/permitsfromduties/Event$Transition") (E_ASSIGN : Exa Z Z.heap w_ASSIGN "com/example/permits_from_duties/permitsfromduties/Event$Transition") (E_REASSIGN : Exa Z Z.heap w_REASSIGN "com/example/permits_from_duties/permitsfromduties/Event$Transition") (E_WITHDRAW : Exa Z Z.heap w_WITHDRAW "com/example/permits_from_duties/permitsfromduties/Event$Transition") (E_START : Exa Z Z.heap w_START "com/example/permits_from_duties/permitsfromduties/Event$Transition") (E_SUSPEND : Exa Z Z.heap w_SUSPEND "com/example/permits_from_duties/permitsfromduties/Event$Transition") (E_RESUME : Exa Z Z.heap w_RESUME "com/example/permits_from_duties/permitsfromduties/Event$Transition") (E_COMPLETE : Exa Z Z.heap w_COMPLETE "com/example/permits_from_duties/permitsfromduties/Event$Transition") (E_ATE_ABORT : Exa Z Z.heap w_ATE_ABORT "com/example/permits_from_duties/permitsfromduties/Event$Transition") (E_PI_ABORT : Exa Z Z.heap w_PI_ABORT "com/example/permits_from_duties/permitsfromduties/Event$Transition") (E_MANUALSKIP : Exa Z Z.heap w_MANUALSKIP "com/example/permits_from_duties/permitsfromduties/Event$Transition") (E_AUTOSKIP : Exa Z Z.heap w_AUTOSKIP "com/example/permits_from_duties/permitsfromduties/Event$Transition") (E_UNKNOWN : Exa Z Z.heap w_UNKNOWN "com/example/permits_from_duties/permitsfromduties/Event$Transition") (F_SCHEDULE : Fld Z Z.heap w_SCHEDULE "com/example/permits_from_duties/permitsfromduties/Event$Transition" "work" "Z" (.int (0 : Int32))) (F_ASSIGN : Fld Z Z.heap w_ASSIGN "com/example/permits_from_duties/permitsfromduties/Event$Transition" "work" "Z" (.int (0 : Int32))) (F_REASSIGN : Fld Z Z.heap w_REASSIGN "com/example/permits_from_duties/permitsfromduties/Event$Transition" "work" "Z" (.int (0 : Int32))) (F_WITHDRAW : Fld Z Z.heap w_WITHDRAW "com/example/permits_from_duties/permitsfromduties/Event$Transition" "work" "Z" (.int (0 : Int32))) (F_START : Fld Z Z.heap w_START "com/example/permits_from_duties/permitsfromduties/Event$Transition" "work" "Z" (.int (1 : Int32))) (F_SUSPEND : Fld Z Z.heap w_SUSPEND "com/example/permits_from_duties/permitsfromduties/Event$Transition" "work" "Z" (.int (1 : Int32))) (F_RESUME : Fld Z Z.heap w_RESUME "com/example/permits_from_duties/permitsfromduties/Event$Transition" "work" "Z" (.int (1 : Int32))) (F_COMPLETE : Fld Z Z.heap w_COMPLETE "com/example/permits_from_duties/permitsfromduties/Event$Transition" "work" "Z" (.int (1 : Int32))) (F_ATE_ABORT : Fld Z Z.heap w_ATE_ABORT "com/example/permits_from_duties/permitsfromduties/Event$Transition" "work" "Z" (.int (1 : Int32))) (F_PI_ABORT : Fld Z Z.heap w_PI_ABORT "com/example/permits_from_duties/permitsfromduties/Event$Transition" "work" "Z" (.int (0 : Int32))) (F_MANUALSKIP : Fld Z Z.heap w_MANUALSKIP "com/example/permits_from_duties/permitsfromduties/Event$Transition" "work" "Z" (.int (0 : Int32))) (F_AUTOSKIP : Fld Z Z.heap w_AUTOSKIP "com/example/permits_from_duties/permitsfromduties/Event$Transition" "work" "Z" (.int (0 : Int32))) (F_UNKNOWN : Fld Z Z.heap w_UNKNOWN "com/example/permits_from_duties/permitsfromduties/Event$Transition" "work" "Z" (.int (1 : Int32))) :
    MetFree l (⟨"com/example/permits_from_duties/permitsfromduties/EventPerformerPinLaw", "pick", "(I)Lcom/example/permits_from_duties/permitsfromduties/Event$Transition;"⟩ : MethodName) (head1 (Jvm.Cond.code (⟨"com/example/permits_from_duties/permitsfromduties/EventPerformerPinLaw", "pick", "(I)Lcom/example/permits_from_duties/permitsfromduties/Event$Transition;"⟩ : MethodName) method_3_code 1 (some (.object "com/example/permits_from_duties/permitsfromduties/Event$Transition")) :: ws) ({ frames := 0, cells := 0, slots := 0, locals := 0 } : Room)) (fun a U => a = #[(.int (12 : Int32))] ∧ Z.Warmed39 U.vm ∧ U.heap = h0) (fun _ _ _ _ _ => True) (fun _ U o U' => ∃ v L, o = .returned v ∧ QPick1 Z h0 n0 v U'.heap L ∧ FrameEnd U o U' L ({ frames := 0, cells := 0, slots := 0, locals := 0 } : Room).cells ({ frames := 0, cells := 0, slots := 0, locals := 0 } : Room).slots) := by
  refine MetFree.of_bodySF (plainFor_of_name pn_com_example_permits_from_duties_permitsfromduties_EventPerformerPinLaw) hisR ?_
  intro p e s m args below meth c s₁ Bd hml0 hP hK
  obtain ⟨rfl, hZ, hh⟩ := hP
  have hx := Bd.exec
  have hby := Bd.bytes
  have hlk : meth.locks = false := Bd.notSynchronized
  have hml : c.maxLocals = 1 := hml0
  have hown : s.vm.findClass "com/example/permits_from_duties/permitsfromduties/EventPerformerPinLaw" = some m.cls := findClass_of_methodNamed Bd.named
  have hnm := (name_of_methodNamed Bd.named Bd.method).1
  have X0 : Stand p l e ({ frames := 0, cells := 0, slots := 0, locals := 0 } : Room) s m #[(.int (12 : Int32))] below meth c s₁ [] 0 0 := Stand.of_body Bd
  have e0 : s₁.heap = h0 := by rw [← hh, Bd.state]; rfl
  have N0 := Fr.nil n0
  show Go p e below (FinE s below (QPick1 Z h0 n0) ({ frames := 0, cells := 0, slots := 0, locals := 0 } : Room).cells ({ frames := 0, cells := 0, slots := 0, locals := 0 } : Room).slots) (s₁.setTop (entryFrame m #[(.int (12 : Int32))] 1))
  refine Go.via (fun t k => castTop (ef_rmPk_12 m ) k) ?_
  show Go p e below _ (s₁.setTop (mkF m 0 #[.val (.int (12 : Int32))] []))
  refine Go.via (fun _ => XS.iloadN X0.here hx rfl (hb hby d6_0) rfl) ?_
  show Go p e below _ (s₁.setTop (mkF m 1 #[.val (.int (12 : Int32))] [(.int (12 : Int32))]))
  refine Go.via (fun _ => XS.ifYes X0.here hx rfl (pc0 := 1) (pc' := 8) rfl (hb hby d6_1) rfl (by decide) (by decide) (by decide)) ?_
  show Go p e below _ (s₁.setTop (mkF m 8 #[.val (.int (12 : Int32))] []))
  refine Go.via (fun _ => XS.iloadN X0.here hx rfl (hb hby d6_8) rfl) ?_
  show Go p e below _ (s₁.setTop (mkF m 9 #[.val (.int (12 : Int32))] [(.int (12 : Int32))]))
  refine Go.via (fun _ => XS.iconst X0.here hx rfl (hb hby d6_9)) ?_
  show Go p e below _ (s₁.setTop (mkF m 10 #[.val (.int (12 : Int32))] [(.int (1 : Int32)), (.int (12 : Int32))]))
  refine Go.via (fun _ => XS.icmpYes X0.here hx rfl (pc0 := 10) (pc' := 17) rfl (hb hby d6_10) rfl (by decide) (by decide) (by decide)) ?_
  show Go p e below _ (s₁.setTop (mkF m 17 #[.val (.int (12 : Int32))] []))
  refine Go.via (fun _ => XS.iloadN X0.here hx rfl (hb hby d6_17) rfl) ?_
  show Go p e below _ (s₁.setTop (mkF m 18 #[.val (.int (12 : Int32))] [(.int (12 : Int32))]))
  refine Go.via (fun _ => XS.iconst X0.here hx rfl (hb hby d6_18)) ?_
  show Go p e below _ (s₁.setTop (mkF m 19 #[.val (.int (12 : Int32))] [(.int (2 : Int32)), (.int (12 : Int32))]))
  refine Go.via (fun _ => XS.icmpYes X0.here hx rfl (pc0 := 19) (pc' := 26) rfl (hb hby d6_19) rfl (by decide) (by decide) (by decide)) ?_
  show Go p e below _ (s₁.setTop (mkF m 26 #[.val (.int (12 : Int32))] []))
  refine Go.via (fun _ => XS.iloadN X0.here hx rfl (hb hby d6_26) rfl) ?_
  show Go p e below _ (s₁.setTop (mkF m 27 #[.val (.int (12 : Int32))] [(.int (12 : Int32))]))
  refine Go.via (fun _ => XS.iconst X0.here hx rfl (hb hby d6_27)) ?_
  show Go p e below _ (s₁.setTop (mkF m 28 #[.val (.int (12 : Int32))] [(.int (3 : Int32)), (.int (12 : Int32))]))
  refine Go.via (fun _ => XS.icmpYes X0.here hx rfl (pc0 := 28) (pc' := 35) rfl (hb hby d6_28) rfl (by decide) (by decide) (by decide)) ?_
  show Go p e below _ (s₁.setTop (mkF m 35 #[.val (.int (12 : Int32))] []))
  refine Go.via (fun _ => XS.iloadN X0.here hx rfl (hb hby d6_35) rfl) ?_
  show Go p e below _ (s₁.setTop (mkF m 36 #[.val (.int (12 : Int32))] [(.int (12 : Int32))]))
  refine Go.via (fun _ => XS.iconst X0.here hx rfl (hb hby d6_36)) ?_
  show Go p e below _ (s₁.setTop (mkF m 37 #[.val (.int (12 : Int32))] [(.int (4 : Int32)), (.int (12 : Int32))]))
  refine Go.via (fun _ => XS.icmpYes X0.here hx rfl (pc0 := 37) (pc' := 44) rfl (hb hby d6_37) rfl (by decide) (by decide) (by decide)) ?_
  show Go p e below _ (s₁.setTop (mkF m 44 #[.val (.int (12 : Int32))] []))
  refine Go.via (fun _ => XS.iloadN X0.here hx rfl (hb hby d6_44) rfl) ?_
  show Go p e below _ (s₁.setTop (mkF m 45 #[.val (.int (12 : Int32))] [(.int (12 : Int32))]))
  refine Go.via (fun _ => XS.iconst X0.here hx rfl (hb hby d6_45)) ?_
  show Go p e below _ (s₁.setTop (mkF m 46 #[.val (.int (12 : Int32))] [(.int (5 : Int32)), (.int (12 : Int32))]))
  refine Go.via (fun _ => XS.icmpYes X0.here hx rfl (pc0 := 46) (pc' := 53) rfl (hb hby d6_46) rfl (by decide) (by decide) (by decide)) ?_
  show Go p e below _ (s₁.setTop (mkF m 53 #[.val (.int (12 : Int32))] []))
  refine Go.via (fun _ => XS.iloadN X0.here hx rfl (hb hby d6_53) rfl) ?_
  show Go p e below _ (s₁.setTop (mkF m 54 #[.val (.int (12 : Int32))] [(.int (12 : Int32))]))
  refine Go.via (fun _ => XS.bipush X0.here hx rfl (hb hby d6_54)) ?_
  show Go p e below _ (s₁.setTop (mkF m 56 #[.val (.int (12 : Int32))] [(.int (6 : Int32)), (.int (12 : Int32))]))
  refine Go.via (fun _ => XS.icmpYes X0.here hx rfl (pc0 := 56) (pc' := 63) rfl (hb hby d6_56) rfl (by decide) (by decide) (by decide)) ?_
  show Go p e below _ (s₁.setTop (mkF m 63 #[.val (.int (12 : Int32))] []))
  refine Go.via (fun _ => XS.iloadN X0.here hx rfl (hb hby d6_63) rfl) ?_
  show Go p e below _ (s₁.setTop (mkF m 64 #[.val (.int (12 : Int32))] [(.int (12 : Int32))]))
  refine Go.via (fun _ => XS.bipush X0.here hx rfl (hb hby d6_64)) ?_
  show Go p e below _ (s₁.setTop (mkF m 66 #[.val (.int (12 : Int32))] [(.int (7 : Int32)), (.int (12 : Int32))]))
  refine Go.via (fun _ => XS.icmpYes X0.here hx rfl (pc0 := 66) (pc' := 73) rfl (hb hby d6_66) rfl (by decide) (by decide) (by decide)) ?_
  show Go p e below _ (s₁.setTop (mkF m 73 #[.val (.int (12 : Int32))] []))
  refine Go.via (fun _ => XS.iloadN X0.here hx rfl (hb hby d6_73) rfl) ?_
  show Go p e below _ (s₁.setTop (mkF m 74 #[.val (.int (12 : Int32))] [(.int (12 : Int32))]))
  refine Go.via (fun _ => XS.bipush X0.here hx rfl (hb hby d6_74)) ?_
  show Go p e below _ (s₁.setTop (mkF m 76 #[.val (.int (12 : Int32))] [(.int (8 : Int32)), (.int (12 : Int32))]))
  refine Go.via (fun _ => XS.icmpYes X0.here hx rfl (pc0 := 76) (pc' := 83) rfl (hb hby d6_76) rfl (by decide) (by decide) (by decide)) ?_
  show Go p e below _ (s₁.setTop (mkF m 83 #[.val (.int (12 : Int32))] []))
  refine Go.via (fun _ => XS.iloadN X0.here hx rfl (hb hby d6_83) rfl) ?_
  show Go p e below _ (s₁.setTop (mkF m 84 #[.val (.int (12 : Int32))] [(.int (12 : Int32))]))
  refine Go.via (fun _ => XS.bipush X0.here hx rfl (hb hby d6_84)) ?_
  show Go p e below _ (s₁.setTop (mkF m 86 #[.val (.int (12 : Int32))] [(.int (9 : Int32)), (.int (12 : Int32))]))
  refine Go.via (fun _ => XS.icmpYes X0.here hx rfl (pc0 := 86) (pc' := 93) rfl (hb hby d6_86) rfl (by decide) (by decide) (by decide)) ?_
  show Go p e below _ (s₁.setTop (mkF m 93 #[.val (.int (12 : Int32))] []))
  refine Go.via (fun _ => XS.iloadN X0.here hx rfl (hb hby d6_93) rfl) ?_
  show Go p e below _ (s₁.setTop (mkF m 94 #[.val (.int (12 : Int32))] [(.int (12 : Int32))]))
  refine Go.via (fun _ => XS.bipush X0.here hx rfl (hb hby d6_94)) ?_
  show Go p e below _ (s₁.setTop (mkF m 96 #[.val (.int (12 : Int32))] [(.int (10 : Int32)), (.int (12 : Int32))]))
  refine Go.via (fun _ => XS.icmpYes X0.here hx rfl (pc0 := 96) (pc' := 103) rfl (hb hby d6_96) rfl (by decide) (by decide) (by decide)) ?_
  show Go p e below _ (s₁.setTop (mkF m 103 #[.val (.int (12 : Int32))] []))
  refine Go.via (fun _ => XS.iloadN X0.here hx rfl (hb hby d6_103) rfl) ?_
  show Go p e below _ (s₁.setTop (mkF m 104 #[.val (.int (12 : Int32))] [(.int (12 : Int32))]))
  refine Go.via (fun _ => XS.bipush X0.here hx rfl (hb hby d6_104)) ?_
  show Go p e below _ (s₁.setTop (mkF m 106 #[.val (.int (12 : Int32))] [(.int (11 : Int32)), (.int (12 : Int32))]))
  refine Go.via (fun _ => XS.icmpYes X0.here hx rfl (pc0 := 106) (pc' := 113) rfl (hb hby d6_106) rfl (by decide) (by decide) (by decide)) ?_
  show Go p e below _ (s₁.setTop (mkF m 113 #[.val (.int (12 : Int32))] []))
  obtain ⟨T101, X101, e101, st101⟩ := getS2 X0 hx hZ hown (host := "") (Or.inl (hw _ (List.mem_of_getElem? (i := 93) rfl))) Via.refl e0 (S_UNKNOWN.ext O0.2) (g := (mkF m 113 #[.val (.int (12 : Int32))] [])) rfl (hb hby d6_113)
  refine Go.via st101 ?_
  show Go p e below _ (T101.setTop (mkF m 116 #[.val (.int (12 : Int32))] [(.ref w_UNKNOWN)]))
  exact own_retA X101 hx hlk Bd.returns rfl rfl (hb hby d6_116) (by show QPick1 Z h0 n0 _ T101.heap _; rw [e101]; exact ⟨w_UNKNOWN, rfl, N0, rfl, E_UNKNOWN.ext O0.2, F_UNKNOWN.ext O0.2⟩) (by decide) (by decide)
theorem rmPk_A (l : Launch) (Z : State) (a0 : Array Value) (hw : ∀ d ∈ tables_1, d.before a0 Z = true) (ws : List Jvm.Cond) (k : Int32) (w_SCHEDULE : Addr) (w_ASSIGN : Addr) (w_REASSIGN : Addr) (w_WITHDRAW : Addr) (w_START : Addr) (w_SUSPEND : Addr) (w_RESUME : Addr) (w_COMPLETE : Addr) (w_ATE_ABORT : Addr) (w_PI_ABORT : Addr) (w_MANUALSKIP : Addr) (w_AUTOSKIP : Addr) (w_UNKNOWN : Addr) (h0 : Heap) (n0 : Nat) (Z0 : n0 ≤ h0.size) (hk : k = (0 : Int32) ∨ k = (1 : Int32) ∨ k = (2 : Int32) ∨ k = (3 : Int32)) (O0 : Old Z n0 h0) (S_SCHEDULE : Sta Z Z.heap "com/example/permits_from_duties/permitsfromduties/Event$Transition" "SCHEDULE" "Lcom/example/permits_from_duties/permitsfromduties/Event$Transition;" (.ref w_SCHEDULE)) (S_ASSIGN : Sta Z Z.heap "com/example/permits_from_duties/permitsfromduties/Event$Transition" "ASSIGN" "Lcom/example/permits_from_duties/permitsfromduties/Event$Transition;" (.ref w_ASSIGN)) (S_REASSIGN : Sta Z Z.heap "com/example/permits_from_duties/permitsfromduties/Event$Transition" "REASSIGN" "Lcom/example/permits_from_duties/permitsfromduties/Event$Transition;" (.ref w_REASSIGN)) (S_WITHDRAW : Sta Z Z.heap "com/example/permits_from_duties/permitsfromduties/Event$Transition" "WITHDRAW" "Lcom/example/permits_from_duties/permitsfromduties/Event$Transition;" (.ref w_WITHDRAW)) (S_START : Sta Z Z.heap "com/example/permits_from_duties/permitsfromduties/Event$Transition" "START" "Lcom/example/permits_from_duties/permitsfromduties/Event$Transition;" (.ref w_START)) (S_SUSPEND : Sta Z Z.heap "com/example/permits_from_duties/permitsfromduties/Event$Transition" "SUSPEND" "Lcom/example/permits_from_duties/permitsfromduties/Event$Transition;" (.ref w_SUSPEND)) (S_RESUME : Sta Z Z.heap "com/example/permits_from_duties/permitsfromduties/Event$Transition" "RESUME" "Lcom/example/permits_from_duties/permitsfromduties/Event$Transition;" (.ref w_RESUME)) (S_COMPLETE : Sta Z Z.heap "com/example/permits_from_duties/permitsfromduties/Event$Transition" "COMPLETE" "Lcom/example/permits_from_duties/permitsfromduties/Event$Transition;" (.ref w_COMPLETE)) (S_ATE_ABORT : Sta Z Z.heap "com/example/permits_from_duties/permitsfromduties/Event$Transition" "ATE_ABORT" "Lcom/example/permits_from_duties/permitsfromduties/Event$Transition;" (.ref w_ATE_ABORT)) (S_PI_ABORT : Sta Z Z.heap "com/example/permits_from_duties/permitsfromduties/Event$Transition" "PI_ABORT" "Lcom/example/permits_from_duties/permitsfromduties/Event$Transition;" (.ref w_PI_ABORT)) (S_MANUALSKIP : Sta Z Z.heap "com/example/permits_from_duties/permitsfromduties/Event$Transition" "MANUALSKIP" "Lcom/example/permits_from_duties/permitsfromduties/Event$Transition;" (.ref w_MANUALSKIP)) (S_AUTOSKIP : Sta Z Z.heap "com/example/permits_from_duties/permitsfromduties/Event$Transition" "AUTOSKIP" "Lcom/example/permits_from_duties/permitsfromduties/Event$Transition;" (.ref w_AUTOSKIP)) (S_UNKNOWN : Sta Z Z.heap "com/example/permits_from_duties/permitsfromduties/Event$Transition" "UNKNOWN" "Lcom/example/permits_from_duties/permitsfromduties/Event$Transition;" (.ref w_UNKNOWN)) (E_SCHEDULE : Exa Z Z.heap w_SCHEDULE "com/example/permits_from_duties/permitsfromduties/Event$Transition") (E_ASSIGN : Exa Z Z.heap w_ASSIGN "com/example/permits_from_duties/permitsfromduties/Event$Transition") (E_REASSIGN : Exa Z Z.heap w_REASSIGN "com/example/permits_from_duties/permitsfromduties/Event$Transition") (E_WITHDRAW : Exa Z Z.heap w_WITHDRAW "com/example/permits_from_duties/permitsfromduties/Event$Transition") (E_START : Exa Z Z.heap w_START "com/example/permits_from_duties/permitsfromduties/Event$Transition") (E_SUSPEND : Exa Z Z.heap w_SUSPEND "com/example/permits_from_duties/permitsfromduties/Event$Transition") (E_RESUME : Exa Z Z.heap w_RESUME "com/example/permits_from_duties/permitsfromduties/Event$Transition") (E_COMPLETE : Exa Z Z.heap w_COMPLETE "com/example/permits_from_duties/permitsfromduties/Event$Transition") (E_ATE_ABORT : Exa Z Z.heap w_ATE_ABORT "com/example/permits_from_duties/permitsfromduties/Event$Transition") (E_PI_ABORT : Exa Z Z.heap w_PI_ABORT "com/example/permits_from_duties/permitsfromduties/Event$Transition") (E_MANUALSKIP : Exa Z Z.heap w_MANUALSKIP "com/example/permits_from_duties/permitsfromduties/Event$Transition") (E_AUTOSKIP : Exa Z Z.heap w_AUTOSKIP "com/example/permits_from_duties/permitsfromduties/Event$Transition") (E_UNKNOWN : Exa Z Z.heap w_UNKNOWN "com/example/permits_from_duties/permitsfromduties/Event$Transition") (F_SCHEDULE : Fld Z Z.heap w_SCHEDULE "com/example/permits_from_duties/permitsfromduties/Event$Transition" "work" "Z" (.int (0 : Int32))) (F_ASSIGN : Fld Z Z.heap w_ASSIGN "com/example/permits_from_duties/permitsfromduties/Event$Transition" "work" "Z" (.int (0 : Int32))) (F_REASSIGN : Fld Z Z.heap w_REASSIGN "com/example/permits_from_duties/permitsfromduties/Event$Transition" "work" "Z" (.int (0 : Int32))) (F_WITHDRAW : Fld Z Z.heap w_WITHDRAW "com/example/permits_from_duties/permitsfromduties/Event$Transition" "work" "Z" (.int (0 : Int32))) (F_START : Fld Z Z.heap w_START "com/example/permits_from_duties/permitsfromduties/Event$Transition" "work" "Z" (.int (1 : Int32))) (F_SUSPEND : Fld Z Z.heap w_SUSPEND "com/example/permits_from_duties/permitsfromduties/Event$Transition" "work" "Z" (.int (1 : Int32))) (F_RESUME : Fld Z Z.heap w_RESUME "com/example/permits_from_duties/permitsfromduties/Event$Transition" "work" "Z" (.int (1 : Int32))) (F_COMPLETE : Fld Z Z.heap w_COMPLETE "com/example/permits_from_duties/permitsfromduties/Event$Transition" "work" "Z" (.int (1 : Int32))) (F_ATE_ABORT : Fld Z Z.heap w_ATE_ABORT "com/example/permits_from_duties/permitsfromduties/Event$Transition" "work" "Z" (.int (1 : Int32))) (F_PI_ABORT : Fld Z Z.heap w_PI_ABORT "com/example/permits_from_duties/permitsfromduties/Event$Transition" "work" "Z" (.int (0 : Int32))) (F_MANUALSKIP : Fld Z Z.heap w_MANUALSKIP "com/example/permits_from_duties/permitsfromduties/Event$Transition" "work" "Z" (.int (0 : Int32))) (F_AUTOSKIP : Fld Z Z.heap w_AUTOSKIP "com/example/permits_from_duties/permitsfromduties/Event$Transition" "work" "Z" (.int (0 : Int32))) (F_UNKNOWN : Fld Z Z.heap w_UNKNOWN "com/example/permits_from_duties/permitsfromduties/Event$Transition" "work" "Z" (.int (1 : Int32))) :
    MetFree l (⟨"com/example/permits_from_duties/permitsfromduties/EventPerformerPinLaw", "pick", "(I)Lcom/example/permits_from_duties/permitsfromduties/Event$Transition;"⟩ : MethodName) (head1 (Jvm.Cond.code (⟨"com/example/permits_from_duties/permitsfromduties/EventPerformerPinLaw", "pick", "(I)Lcom/example/permits_from_duties/permitsfromduties/Event$Transition;"⟩ : MethodName) method_3_code 1 (some (.object "com/example/permits_from_duties/permitsfromduties/Event$Transition")) :: ws) ({ frames := 0, cells := 0, slots := 0, locals := 0 } : Room)) (fun a U => a = #[(.int k)] ∧ Z.Warmed39 U.vm ∧ U.heap = h0) (fun _ _ _ _ _ => True) (fun _ U o U' => ∃ v L, o = .returned v ∧ QPick0 Z h0 n0 v U'.heap L ∧ FrameEnd U o U' L ({ frames := 0, cells := 0, slots := 0, locals := 0 } : Room).cells ({ frames := 0, cells := 0, slots := 0, locals := 0 } : Room).slots) := by
  rcases hk with rfl | rfl | rfl | rfl
  · exact rmPk_0 l Z a0 hw ws w_SCHEDULE w_ASSIGN w_REASSIGN w_WITHDRAW w_START w_SUSPEND w_RESUME w_COMPLETE w_ATE_ABORT w_PI_ABORT w_MANUALSKIP w_AUTOSKIP w_UNKNOWN h0 n0 Z0 O0 S_SCHEDULE S_ASSIGN S_REASSIGN S_WITHDRAW S_START S_SUSPEND S_RESUME S_COMPLETE S_ATE_ABORT S_PI_ABORT S_MANUALSKIP S_AUTOSKIP S_UNKNOWN E_SCHEDULE E_ASSIGN E_REASSIGN E_WITHDRAW E_START E_SUSPEND E_RESUME E_COMPLETE E_ATE_ABORT E_PI_ABORT E_MANUALSKIP E_AUTOSKIP E_UNKNOWN F_SCHEDULE F_ASSIGN F_REASSIGN F_WITHDRAW F_START F_SUSPEND F_RESUME F_COMPLETE F_ATE_ABORT F_PI_ABORT F_MANUALSKIP F_AUTOSKIP F_UNKNOWN
  · exact rmPk_1 l Z a0 hw ws w_SCHEDULE w_ASSIGN w_REASSIGN w_WITHDRAW w_START w_SUSPEND w_RESUME w_COMPLETE w_ATE_ABORT w_PI_ABORT w_MANUALSKIP w_AUTOSKIP w_UNKNOWN h0 n0 Z0 O0 S_SCHEDULE S_ASSIGN S_REASSIGN S_WITHDRAW S_START S_SUSPEND S_RESUME S_COMPLETE S_ATE_ABORT S_PI_ABORT S_MANUALSKIP S_AUTOSKIP S_UNKNOWN E_SCHEDULE E_ASSIGN E_REASSIGN E_WITHDRAW E_START E_SUSPEND E_RESUME E_COMPLETE E_ATE_ABORT E_PI_ABORT E_MANUALSKIP E_AUTOSKIP E_UNKNOWN F_SCHEDULE F_ASSIGN F_REASSIGN F_WITHDRAW F_START F_SUSPEND F_RESUME F_COMPLETE F_ATE_ABORT F_PI_ABORT F_MANUALSKIP F_AUTOSKIP F_UNKNOWN
  · exact rmPk_2 l Z a0 hw ws w_SCHEDULE w_ASSIGN w_REASSIGN w_WITHDRAW w_START w_SUSPEND w_RESUME w_COMPLETE w_ATE_ABORT w_PI_ABORT w_MANUALSKIP w_AUTOSKIP w_UNKNOWN h0 n0 Z0 O0 S_SCHEDULE S_ASSIGN S_REASSIGN S_WITHDRAW S_START S_SUSPEND S_RESUME S_COMPLETE S_ATE_ABORT S_PI_ABORT S_MANUALSKIP S_AUTOSKIP S_UNKNOWN E_SCHEDULE E_ASSIGN E_REASSIGN E_WITHDRAW E_START E_SUSPEND E_RESUME E_COMPLETE E_ATE_ABORT E_PI_ABORT E_MANUALSKIP E_AUTOSKIP E_UNKNOWN F_SCHEDULE F_ASSIGN F_REASSIGN F_WITHDRAW F_START F_SUSPEND F_RESUME F_COMPLETE F_ATE_ABORT F_PI_ABORT F_MANUALSKIP F_AUTOSKIP F_UNKNOWN
  · exact rmPk_3 l Z a0 hw ws w_SCHEDULE w_ASSIGN w_REASSIGN w_WITHDRAW w_START w_SUSPEND w_RESUME w_COMPLETE w_ATE_ABORT w_PI_ABORT w_MANUALSKIP w_AUTOSKIP w_UNKNOWN h0 n0 Z0 O0 S_SCHEDULE S_ASSIGN S_REASSIGN S_WITHDRAW S_START S_SUSPEND S_RESUME S_COMPLETE S_ATE_ABORT S_PI_ABORT S_MANUALSKIP S_AUTOSKIP S_UNKNOWN E_SCHEDULE E_ASSIGN E_REASSIGN E_WITHDRAW E_START E_SUSPEND E_RESUME E_COMPLETE E_ATE_ABORT E_PI_ABORT E_MANUALSKIP E_AUTOSKIP E_UNKNOWN F_SCHEDULE F_ASSIGN F_REASSIGN F_WITHDRAW F_START F_SUSPEND F_RESUME F_COMPLETE F_ATE_ABORT F_PI_ABORT F_MANUALSKIP F_AUTOSKIP F_UNKNOWN
theorem rmPk_B (l : Launch) (Z : State) (a0 : Array Value) (hw : ∀ d ∈ tables_1, d.before a0 Z = true) (ws : List Jvm.Cond) (k : Int32) (w_SCHEDULE : Addr) (w_ASSIGN : Addr) (w_REASSIGN : Addr) (w_WITHDRAW : Addr) (w_START : Addr) (w_SUSPEND : Addr) (w_RESUME : Addr) (w_COMPLETE : Addr) (w_ATE_ABORT : Addr) (w_PI_ABORT : Addr) (w_MANUALSKIP : Addr) (w_AUTOSKIP : Addr) (w_UNKNOWN : Addr) (h0 : Heap) (n0 : Nat) (Z0 : n0 ≤ h0.size) (hk : k = (4 : Int32) ∨ k = (5 : Int32) ∨ k = (6 : Int32) ∨ k = (7 : Int32) ∨ k = (8 : Int32)) (O0 : Old Z n0 h0) (S_SCHEDULE : Sta Z Z.heap "com/example/permits_from_duties/permitsfromduties/Event$Transition" "SCHEDULE" "Lcom/example/permits_from_duties/permitsfromduties/Event$Transition;" (.ref w_SCHEDULE)) (S_ASSIGN : Sta Z Z.heap "com/example/permits_from_duties/permitsfromduties/Event$Transition" "ASSIGN" "Lcom/example/permits_from_duties/permitsfromduties/Event$Transition;" (.ref w_ASSIGN)) (S_REASSIGN : Sta Z Z.heap "com/example/permits_from_duties/permitsfromduties/Event$Transition" "REASSIGN" "Lcom/example/permits_from_duties/permitsfromduties/Event$Transition;" (.ref w_REASSIGN)) (S_WITHDRAW : Sta Z Z.heap "com/example/permits_from_duties/permitsfromduties/Event$Transition" "WITHDRAW" "Lcom/example/permits_from_duties/permitsfromduties/Event$Transition;" (.ref w_WITHDRAW)) (S_START : Sta Z Z.heap "com/example/permits_from_duties/permitsfromduties/Event$Transition" "START" "Lcom/example/permits_from_duties/permitsfromduties/Event$Transition;" (.ref w_START)) (S_SUSPEND : Sta Z Z.heap "com/example/permits_from_duties/permitsfromduties/Event$Transition" "SUSPEND" "Lcom/example/permits_from_duties/permitsfromduties/Event$Transition;" (.ref w_SUSPEND)) (S_RESUME : Sta Z Z.heap "com/example/permits_from_duties/permitsfromduties/Event$Transition" "RESUME" "Lcom/example/permits_from_duties/permitsfromduties/Event$Transition;" (.ref w_RESUME)) (S_COMPLETE : Sta Z Z.heap "com/example/permits_from_duties/permitsfromduties/Event$Transition" "COMPLETE" "Lcom/example/permits_from_duties/permitsfromduties/Event$Transition;" (.ref w_COMPLETE)) (S_ATE_ABORT : Sta Z Z.heap "com/example/permits_from_duties/permitsfromduties/Event$Transition" "ATE_ABORT" "Lcom/example/permits_from_duties/permitsfromduties/Event$Transition;" (.ref w_ATE_ABORT)) (S_PI_ABORT : Sta Z Z.heap "com/example/permits_from_duties/permitsfromduties/Event$Transition" "PI_ABORT" "Lcom/example/permits_from_duties/permitsfromduties/Event$Transition;" (.ref w_PI_ABORT)) (S_MANUALSKIP : Sta Z Z.heap "com/example/permits_from_duties/permitsfromduties/Event$Transition" "MANUALSKIP" "Lcom/example/permits_from_duties/permitsfromduties/Event$Transition;" (.ref w_MANUALSKIP)) (S_AUTOSKIP : Sta Z Z.heap "com/example/permits_from_duties/permitsfromduties/Event$Transition" "AUTOSKIP" "Lcom/example/permits_from_duties/permitsfromduties/Event$Transition;" (.ref w_AUTOSKIP)) (S_UNKNOWN : Sta Z Z.heap "com/example/permits_from_duties/permitsfromduties/Event$Transition" "UNKNOWN" "Lcom/example/permits_from_duties/permitsfromduties/Event$Transition;" (.ref w_UNKNOWN)) (E_SCHEDULE : Exa Z Z.heap w_SCHEDULE "com/example/permits_from_duties/permitsfromduties/Event$Transition") (E_ASSIGN : Exa Z Z.heap w_ASSIGN "com/example/permits_from_duties/permitsfromduties/Event$Transition") (E_REASSIGN : Exa Z Z.heap w_REASSIGN "com/example/permits_from_duties/permitsfromduties/Event$Transition") (E_WITHDRAW : Exa Z Z.heap w_WITHDRAW "com/example/permits_from_duties/permitsfromduties/Event$Transition") (E_START : Exa Z Z.heap w_START "com/example/permits_from_duties/permitsfromduties/Event$Transition") (E_SUSPEND : Exa Z Z.heap w_SUSPEND "com/example/permits_from_duties/permitsfromduties/Event$Transition") (E_RESUME : Exa Z Z.heap w_RESUME "com/example/permits_from_duties/permitsfromduties/Event$Transition") (E_COMPLETE : Exa Z Z.heap w_COMPLETE "com/example/permits_from_duties/permitsfromduties/Event$Transition") (E_ATE_ABORT : Exa Z Z.heap w_ATE_ABORT "com/example/permits_from_duties/permitsfromduties/Event$Transition") (E_PI_ABORT : Exa Z Z.heap w_PI_ABORT "com/example/permits_from_duties/permitsfromduties/Event$Transition") (E_MANUALSKIP : Exa Z Z.heap w_MANUALSKIP "com/example/permits_from_duties/permitsfromduties/Event$Transition") (E_AUTOSKIP : Exa Z Z.heap w_AUTOSKIP "com/example/permits_from_duties/permitsfromduties/Event$Transition") (E_UNKNOWN : Exa Z Z.heap w_UNKNOWN "com/example/permits_from_duties/permitsfromduties/Event$Transition") (F_SCHEDULE : Fld Z Z.heap w_SCHEDULE "com/example/permits_from_duties/permitsfromduties/Event$Transition" "work" "Z" (.int (0 : Int32))) (F_ASSIGN : Fld Z Z.heap w_ASSIGN "com/example/permits_from_duties/permitsfromduties/Event$Transition" "work" "Z" (.int (0 : Int32))) (F_REASSIGN : Fld Z Z.heap w_REASSIGN "com/example/permits_from_duties/permitsfromduties/Event$Transition" "work" "Z" (.int (0 : Int32))) (F_WITHDRAW : Fld Z Z.heap w_WITHDRAW "com/example/permits_from_duties/permitsfromduties/Event$Transition" "work" "Z" (.int (0 : Int32))) (F_START : Fld Z Z.heap w_START "com/example/permits_from_duties/permitsfromduties/Event$Transition" "work" "Z" (.int (1 : Int32))) (F_SUSPEND : Fld Z Z.heap w_SUSPEND "com/example/permits_from_duties/permitsfromduties/Event$Transition" "work" "Z" (.int (1 : Int32))) (F_RESUME : Fld Z Z.heap w_RESUME "com/example/permits_from_duties/permitsfromduties/Event$Transition" "work" "Z" (.int (1 : Int32))) (F_COMPLETE : Fld Z Z.heap w_COMPLETE "com/example/permits_from_duties/permitsfromduties/Event$Transition" "work" "Z" (.int (1 : Int32))) (F_ATE_ABORT : Fld Z Z.heap w_ATE_ABORT "com/example/permits_from_duties/permitsfromduties/Event$Transition" "work" "Z" (.int (1 : Int32))) (F_PI_ABORT : Fld Z Z.heap w_PI_ABORT "com/example/permits_from_duties/permitsfromduties/Event$Transition" "work" "Z" (.int (0 : Int32))) (F_MANUALSKIP : Fld Z Z.heap w_MANUALSKIP "com/example/permits_from_duties/permitsfromduties/Event$Transition" "work" "Z" (.int (0 : Int32))) (F_AUTOSKIP : Fld Z Z.heap w_AUTOSKIP "com/example/permits_from_duties/permitsfromduties/Event$Transition" "work" "Z" (.int (0 : Int32))) (F_UNKNOWN : Fld Z Z.heap w_UNKNOWN "com/example/permits_from_duties/permitsfromduties/Event$Transition" "work" "Z" (.int (1 : Int32))) :
    MetFree l (⟨"com/example/permits_from_duties/permitsfromduties/EventPerformerPinLaw", "pick", "(I)Lcom/example/permits_from_duties/permitsfromduties/Event$Transition;"⟩ : MethodName) (head1 (Jvm.Cond.code (⟨"com/example/permits_from_duties/permitsfromduties/EventPerformerPinLaw", "pick", "(I)Lcom/example/permits_from_duties/permitsfromduties/Event$Transition;"⟩ : MethodName) method_3_code 1 (some (.object "com/example/permits_from_duties/permitsfromduties/Event$Transition")) :: ws) ({ frames := 0, cells := 0, slots := 0, locals := 0 } : Room)) (fun a U => a = #[(.int k)] ∧ Z.Warmed39 U.vm ∧ U.heap = h0) (fun _ _ _ _ _ => True) (fun _ U o U' => ∃ v L, o = .returned v ∧ QPick1 Z h0 n0 v U'.heap L ∧ FrameEnd U o U' L ({ frames := 0, cells := 0, slots := 0, locals := 0 } : Room).cells ({ frames := 0, cells := 0, slots := 0, locals := 0 } : Room).slots) := by
  rcases hk with rfl | rfl | rfl | rfl | rfl
  · exact rmPk_4 l Z a0 hw ws w_SCHEDULE w_ASSIGN w_REASSIGN w_WITHDRAW w_START w_SUSPEND w_RESUME w_COMPLETE w_ATE_ABORT w_PI_ABORT w_MANUALSKIP w_AUTOSKIP w_UNKNOWN h0 n0 Z0 O0 S_SCHEDULE S_ASSIGN S_REASSIGN S_WITHDRAW S_START S_SUSPEND S_RESUME S_COMPLETE S_ATE_ABORT S_PI_ABORT S_MANUALSKIP S_AUTOSKIP S_UNKNOWN E_SCHEDULE E_ASSIGN E_REASSIGN E_WITHDRAW E_START E_SUSPEND E_RESUME E_COMPLETE E_ATE_ABORT E_PI_ABORT E_MANUALSKIP E_AUTOSKIP E_UNKNOWN F_SCHEDULE F_ASSIGN F_REASSIGN F_WITHDRAW F_START F_SUSPEND F_RESUME F_COMPLETE F_ATE_ABORT F_PI_ABORT F_MANUALSKIP F_AUTOSKIP F_UNKNOWN
  · exact rmPk_5 l Z a0 hw ws w_SCHEDULE w_ASSIGN w_REASSIGN w_WITHDRAW w_START w_SUSPEND w_RESUME w_COMPLETE w_ATE_ABORT w_PI_ABORT w_MANUALSKIP w_AUTOSKIP w_UNKNOWN h0 n0 Z0 O0 S_SCHEDULE S_ASSIGN S_REASSIGN S_WITHDRAW S_START S_SUSPEND S_RESUME S_COMPLETE S_ATE_ABORT S_PI_ABORT S_MANUALSKIP S_AUTOSKIP S_UNKNOWN E_SCHEDULE E_ASSIGN E_REASSIGN E_WITHDRAW E_START E_SUSPEND E_RESUME E_COMPLETE E_ATE_ABORT E_PI_ABORT E_MANUALSKIP E_AUTOSKIP E_UNKNOWN F_SCHEDULE F_ASSIGN F_REASSIGN F_WITHDRAW F_START F_SUSPEND F_RESUME F_COMPLETE F_ATE_ABORT F_PI_ABORT F_MANUALSKIP F_AUTOSKIP F_UNKNOWN
  · exact rmPk_6 l Z a0 hw ws w_SCHEDULE w_ASSIGN w_REASSIGN w_WITHDRAW w_START w_SUSPEND w_RESUME w_COMPLETE w_ATE_ABORT w_PI_ABORT w_MANUALSKIP w_AUTOSKIP w_UNKNOWN h0 n0 Z0 O0 S_SCHEDULE S_ASSIGN S_REASSIGN S_WITHDRAW S_START S_SUSPEND S_RESUME S_COMPLETE S_ATE_ABORT S_PI_ABORT S_MANUALSKIP S_AUTOSKIP S_UNKNOWN E_SCHEDULE E_ASSIGN E_REASSIGN E_WITHDRAW E_START E_SUSPEND E_RESUME E_COMPLETE E_ATE_ABORT E_PI_ABORT E_MANUALSKIP E_AUTOSKIP E_UNKNOWN F_SCHEDULE F_ASSIGN F_REASSIGN F_WITHDRAW F_START F_SUSPEND F_RESUME F_COMPLETE F_ATE_ABORT F_PI_ABORT F_MANUALSKIP F_AUTOSKIP F_UNKNOWN
  · exact rmPk_7 l Z a0 hw ws w_SCHEDULE w_ASSIGN w_REASSIGN w_WITHDRAW w_START w_SUSPEND w_RESUME w_COMPLETE w_ATE_ABORT w_PI_ABORT w_MANUALSKIP w_AUTOSKIP w_UNKNOWN h0 n0 Z0 O0 S_SCHEDULE S_ASSIGN S_REASSIGN S_WITHDRAW S_START S_SUSPEND S_RESUME S_COMPLETE S_ATE_ABORT S_PI_ABORT S_MANUALSKIP S_AUTOSKIP S_UNKNOWN E_SCHEDULE E_ASSIGN E_REASSIGN E_WITHDRAW E_START E_SUSPEND E_RESUME E_COMPLETE E_ATE_ABORT E_PI_ABORT E_MANUALSKIP E_AUTOSKIP E_UNKNOWN F_SCHEDULE F_ASSIGN F_REASSIGN F_WITHDRAW F_START F_SUSPEND F_RESUME F_COMPLETE F_ATE_ABORT F_PI_ABORT F_MANUALSKIP F_AUTOSKIP F_UNKNOWN
  · exact rmPk_8 l Z a0 hw ws w_SCHEDULE w_ASSIGN w_REASSIGN w_WITHDRAW w_START w_SUSPEND w_RESUME w_COMPLETE w_ATE_ABORT w_PI_ABORT w_MANUALSKIP w_AUTOSKIP w_UNKNOWN h0 n0 Z0 O0 S_SCHEDULE S_ASSIGN S_REASSIGN S_WITHDRAW S_START S_SUSPEND S_RESUME S_COMPLETE S_ATE_ABORT S_PI_ABORT S_MANUALSKIP S_AUTOSKIP S_UNKNOWN E_SCHEDULE E_ASSIGN E_REASSIGN E_WITHDRAW E_START E_SUSPEND E_RESUME E_COMPLETE E_ATE_ABORT E_PI_ABORT E_MANUALSKIP E_AUTOSKIP E_UNKNOWN F_SCHEDULE F_ASSIGN F_REASSIGN F_WITHDRAW F_START F_SUSPEND F_RESUME F_COMPLETE F_ATE_ABORT F_PI_ABORT F_MANUALSKIP F_AUTOSKIP F_UNKNOWN
theorem rmPk_C (l : Launch) (Z : State) (a0 : Array Value) (hw : ∀ d ∈ tables_1, d.before a0 Z = true) (ws : List Jvm.Cond) (k : Int32) (w_SCHEDULE : Addr) (w_ASSIGN : Addr) (w_REASSIGN : Addr) (w_WITHDRAW : Addr) (w_START : Addr) (w_SUSPEND : Addr) (w_RESUME : Addr) (w_COMPLETE : Addr) (w_ATE_ABORT : Addr) (w_PI_ABORT : Addr) (w_MANUALSKIP : Addr) (w_AUTOSKIP : Addr) (w_UNKNOWN : Addr) (h0 : Heap) (n0 : Nat) (Z0 : n0 ≤ h0.size) (hk : k = (9 : Int32) ∨ k = (10 : Int32) ∨ k = (11 : Int32)) (O0 : Old Z n0 h0) (S_SCHEDULE : Sta Z Z.heap "com/example/permits_from_duties/permitsfromduties/Event$Transition" "SCHEDULE" "Lcom/example/permits_from_duties/permitsfromduties/Event$Transition;" (.ref w_SCHEDULE)) (S_ASSIGN : Sta Z Z.heap "com/example/permits_from_duties/permitsfromduties/Event$Transition" "ASSIGN" "Lcom/example/permits_from_duties/permitsfromduties/Event$Transition;" (.ref w_ASSIGN)) (S_REASSIGN : Sta Z Z.heap "com/example/permits_from_duties/permitsfromduties/Event$Transition" "REASSIGN" "Lcom/example/permits_from_duties/permitsfromduties/Event$Transition;" (.ref w_REASSIGN)) (S_WITHDRAW : Sta Z Z.heap "com/example/permits_from_duties/permitsfromduties/Event$Transition" "WITHDRAW" "Lcom/example/permits_from_duties/permitsfromduties/Event$Transition;" (.ref w_WITHDRAW)) (S_START : Sta Z Z.heap "com/example/permits_from_duties/permitsfromduties/Event$Transition" "START" "Lcom/example/permits_from_duties/permitsfromduties/Event$Transition;" (.ref w_START)) (S_SUSPEND : Sta Z Z.heap "com/example/permits_from_duties/permitsfromduties/Event$Transition" "SUSPEND" "Lcom/example/permits_from_duties/permitsfromduties/Event$Transition;" (.ref w_SUSPEND)) (S_RESUME : Sta Z Z.heap "com/example/permits_from_duties/permitsfromduties/Event$Transition" "RESUME" "Lcom/example/permits_from_duties/permitsfromduties/Event$Transition;" (.ref w_RESUME)) (S_COMPLETE : Sta Z Z.heap "com/example/permits_from_duties/permitsfromduties/Event$Transition" "COMPLETE" "Lcom/example/permits_from_duties/permitsfromduties/Event$Transition;" (.ref w_COMPLETE)) (S_ATE_ABORT : Sta Z Z.heap "com/example/permits_from_duties/permitsfromduties/Event$Transition" "ATE_ABORT" "Lcom/example/permits_from_duties/permitsfromduties/Event$Transition;" (.ref w_ATE_ABORT)) (S_PI_ABORT : Sta Z Z.heap "com/example/permits_from_duties/permitsfromduties/Event$Transition" "PI_ABORT" "Lcom/example/permits_from_duties/permitsfromduties/Event$Transition;" (.ref w_PI_ABORT)) (S_MANUALSKIP : Sta Z Z.heap "com/example/permits_from_duties/permitsfromduties/Event$Transition" "MANUALSKIP" "Lcom/example/permits_from_duties/permitsfromduties/Event$Transition;" (.ref w_MANUALSKIP)) (S_AUTOSKIP : Sta Z Z.heap "com/example/permits_from_duties/permitsfromduties/Event$Transition" "AUTOSKIP" "Lcom/example/permits_from_duties/permitsfromduties/Event$Transition;" (.ref w_AUTOSKIP)) (S_UNKNOWN : Sta Z Z.heap "com/example/permits_from_duties/permitsfromduties/Event$Transition" "UNKNOWN" "Lcom/example/permits_from_duties/permitsfromduties/Event$Transition;" (.ref w_UNKNOWN)) (E_SCHEDULE : Exa Z Z.heap w_SCHEDULE "com/example/permits_from_duties/permitsfromduties/Event$Transition") (E_ASSIGN : Exa Z Z.heap w_ASSIGN "com/example/permits_from_duties/permitsfromduties/Event$Transition") (E_REASSIGN : Exa Z Z.heap w_REASSIGN "com/example/permits_from_duties/permitsfromduties/Event$Transition") (E_WITHDRAW : Exa Z Z.heap w_WITHDRAW "com/example/permits_from_duties/permitsfromduties/Event$Transition") (E_START : Exa Z Z.heap w_START "com/example/permits_from_duties/permitsfromduties/Event$Transition") (E_SUSPEND : Exa Z Z.heap w_SUSPEND "com/example/permits_from_duties/permitsfromduties/Event$Transition") (E_RESUME : Exa Z Z.heap w_RESUME "com/example/permits_from_duties/permitsfromduties/Event$Transition") (E_COMPLETE : Exa Z Z.heap w_COMPLETE "com/example/permits_from_duties/permitsfromduties/Event$Transition") (E_ATE_ABORT : Exa Z Z.heap w_ATE_ABORT "com/example/permits_from_duties/permitsfromduties/Event$Transition") (E_PI_ABORT : Exa Z Z.heap w_PI_ABORT "com/example/permits_from_duties/permitsfromduties/Event$Transition") (E_MANUALSKIP : Exa Z Z.heap w_MANUALSKIP "com/example/permits_from_duties/permitsfromduties/Event$Transition") (E_AUTOSKIP : Exa Z Z.heap w_AUTOSKIP "com/example/permits_from_duties/permitsfromduties/Event$Transition") (E_UNKNOWN : Exa Z Z.heap w_UNKNOWN "com/example/permits_from_duties/permitsfromduties/Event$Transition") (F_SCHEDULE : Fld Z Z.heap w_SCHEDULE "com/example/permits_from_duties/permitsfromduties/Event$Transition" "work" "Z" (.int (0 : Int32))) (F_ASSIGN : Fld Z Z.heap w_ASSIGN "com/example/permits_from_duties/permitsfromduties/Event$Transition" "work" "Z" (.int (0 : Int32))) (F_REASSIGN : Fld Z Z.heap w_REASSIGN "com/example/permits_from_duties/permitsfromduties/Event$Transition" "work" "Z" (.int (0 : Int32))) (F_WITHDRAW : Fld Z Z.heap w_WITHDRAW "com/example/permits_from_duties/permitsfromduties/Event$Transition" "work" "Z" (.int (0 : Int32))) (F_START : Fld Z Z.heap w_START "com/example/permits_from_duties/permitsfromduties/Event$Transition" "work" "Z" (.int (1 : Int32))) (F_SUSPEND : Fld Z Z.heap w_SUSPEND "com/example/permits_from_duties/permitsfromduties/Event$Transition" "work" "Z" (.int (1 : Int32))) (F_RESUME : Fld Z Z.heap w_RESUME "com/example/permits_from_duties/permitsfromduties/Event$Transition" "work" "Z" (.int (1 : Int32))) (F_COMPLETE : Fld Z Z.heap w_COMPLETE "com/example/permits_from_duties/permitsfromduties/Event$Transition" "work" "Z" (.int (1 : Int32))) (F_ATE_ABORT : Fld Z Z.heap w_ATE_ABORT "com/example/permits_from_duties/permitsfromduties/Event$Transition" "work" "Z" (.int (1 : Int32))) (F_PI_ABORT : Fld Z Z.heap w_PI_ABORT "com/example/permits_from_duties/permitsfromduties/Event$Transition" "work" "Z" (.int (0 : Int32))) (F_MANUALSKIP : Fld Z Z.heap w_MANUALSKIP "com/example/permits_from_duties/permitsfromduties/Event$Transition" "work" "Z" (.int (0 : Int32))) (F_AUTOSKIP : Fld Z Z.heap w_AUTOSKIP "com/example/permits_from_duties/permitsfromduties/Event$Transition" "work" "Z" (.int (0 : Int32))) (F_UNKNOWN : Fld Z Z.heap w_UNKNOWN "com/example/permits_from_duties/permitsfromduties/Event$Transition" "work" "Z" (.int (1 : Int32))) :
    MetFree l (⟨"com/example/permits_from_duties/permitsfromduties/EventPerformerPinLaw", "pick", "(I)Lcom/example/permits_from_duties/permitsfromduties/Event$Transition;"⟩ : MethodName) (head1 (Jvm.Cond.code (⟨"com/example/permits_from_duties/permitsfromduties/EventPerformerPinLaw", "pick", "(I)Lcom/example/permits_from_duties/permitsfromduties/Event$Transition;"⟩ : MethodName) method_3_code 1 (some (.object "com/example/permits_from_duties/permitsfromduties/Event$Transition")) :: ws) ({ frames := 0, cells := 0, slots := 0, locals := 0 } : Room)) (fun a U => a = #[(.int k)] ∧ Z.Warmed39 U.vm ∧ U.heap = h0) (fun _ _ _ _ _ => True) (fun _ U o U' => ∃ v L, o = .returned v ∧ QPick0 Z h0 n0 v U'.heap L ∧ FrameEnd U o U' L ({ frames := 0, cells := 0, slots := 0, locals := 0 } : Room).cells ({ frames := 0, cells := 0, slots := 0, locals := 0 } : Room).slots) := by
  rcases hk with rfl | rfl | rfl
  · exact rmPk_9 l Z a0 hw ws w_SCHEDULE w_ASSIGN w_REASSIGN w_WITHDRAW w_START w_SUSPEND w_RESUME w_COMPLETE w_ATE_ABORT w_PI_ABORT w_MANUALSKIP w_AUTOSKIP w_UNKNOWN h0 n0 Z0 O0 S_SCHEDULE S_ASSIGN S_REASSIGN S_WITHDRAW S_START S_SUSPEND S_RESUME S_COMPLETE S_ATE_ABORT S_PI_ABORT S_MANUALSKIP S_AUTOSKIP S_UNKNOWN E_SCHEDULE E_ASSIGN E_REASSIGN E_WITHDRAW E_START E_SUSPEND E_RESUME E_COMPLETE E_ATE_ABORT E_PI_ABORT E_MANUALSKIP E_AUTOSKIP E_UNKNOWN F_SCHEDULE F_ASSIGN F_REASSIGN F_WITHDRAW F_START F_SUSPEND F_RESUME F_COMPLETE F_ATE_ABORT F_PI_ABORT F_MANUALSKIP F_AUTOSKIP F_UNKNOWN
  · exact rmPk_10 l Z a0 hw ws w_SCHEDULE w_ASSIGN w_REASSIGN w_WITHDRAW w_START w_SUSPEND w_RESUME w_COMPLETE w_ATE_ABORT w_PI_ABORT w_MANUALSKIP w_AUTOSKIP w_UNKNOWN h0 n0 Z0 O0 S_SCHEDULE S_ASSIGN S_REASSIGN S_WITHDRAW S_START S_SUSPEND S_RESUME S_COMPLETE S_ATE_ABORT S_PI_ABORT S_MANUALSKIP S_AUTOSKIP S_UNKNOWN E_SCHEDULE E_ASSIGN E_REASSIGN E_WITHDRAW E_START E_SUSPEND E_RESUME E_COMPLETE E_ATE_ABORT E_PI_ABORT E_MANUALSKIP E_AUTOSKIP E_UNKNOWN F_SCHEDULE F_ASSIGN F_REASSIGN F_WITHDRAW F_START F_SUSPEND F_RESUME F_COMPLETE F_ATE_ABORT F_PI_ABORT F_MANUALSKIP F_AUTOSKIP F_UNKNOWN
  · exact rmPk_11 l Z a0 hw ws w_SCHEDULE w_ASSIGN w_REASSIGN w_WITHDRAW w_START w_SUSPEND w_RESUME w_COMPLETE w_ATE_ABORT w_PI_ABORT w_MANUALSKIP w_AUTOSKIP w_UNKNOWN h0 n0 Z0 O0 S_SCHEDULE S_ASSIGN S_REASSIGN S_WITHDRAW S_START S_SUSPEND S_RESUME S_COMPLETE S_ATE_ABORT S_PI_ABORT S_MANUALSKIP S_AUTOSKIP S_UNKNOWN E_SCHEDULE E_ASSIGN E_REASSIGN E_WITHDRAW E_START E_SUSPEND E_RESUME E_COMPLETE E_ATE_ABORT E_PI_ABORT E_MANUALSKIP E_AUTOSKIP E_UNKNOWN F_SCHEDULE F_ASSIGN F_REASSIGN F_WITHDRAW F_START F_SUSPEND F_RESUME F_COMPLETE F_ATE_ABORT F_PI_ABORT F_MANUALSKIP F_AUTOSKIP F_UNKNOWN
theorem ef_rmRec (m : MethodId) (x0 : Addr) : entryFrame m #[(.ref x0)] 1 = mkF m 0 #[.val (.ref x0)] [] := by first | (simp [entryFrame, mkF, argsToLocals, Value.category]; done) | rfl
def QRec (Z : State) (a1 : Addr) (h0 : Heap) (n0 : Nat) (v : Option Value) (h : Heap) (L : List Loc) : Prop := v = none ∧ Fr n0 L ∧ h = h0
set_option maxRecDepth 65536 in
set_option maxHeartbeats 40000000 in
theorem rmRec (l : Launch) (Z : State) (a0 : Array Value) (hw : ∀ d ∈ tables_1, d.before a0 Z = true) (ws : List Jvm.Cond) (a1 : Addr) (h0 : Heap) (n0 : Nat) (Z0 : n0 ≤ h0.size) :
    MetFree l (⟨"java/lang/Record", "<init>", "()V"⟩ : MethodName) (head1 (Jvm.Cond.code (⟨"java/lang/Record", "<init>", "()V"⟩ : MethodName) jdk_30_method_1_code 1 none :: ws) ({ frames := 1, cells := 0, slots := 0, locals := 12 } : Room)) (fun a U => a = #[(.ref a1)] ∧ Z.Warmed39 U.vm ∧ U.heap = h0) (fun _ _ _ _ _ => True) (fun _ U o U' => ∃ v L, o = .returned v ∧ QRec Z a1 h0 n0 v U'.heap L ∧ FrameEnd U o U' L ({ frames := 1, cells := 0, slots := 0, locals := 12 } : Room).cells ({ frames := 1, cells := 0, slots := 0, locals := 12 } : Room).slots) := by
  refine MetFree.of_bodySF (plainFor_of_name pn_java_lang_Record) hisR ?_
  intro p e s m args below meth c s₁ Bd hml0 hP hK
  obtain ⟨rfl, hZ, hh⟩ := hP
  have hx := Bd.exec
  have hby := Bd.bytes
  have hlk : meth.locks = false := Bd.notSynchronized
  have hml : c.maxLocals = 1 := hml0
  have hown : s.vm.findClass "java/lang/Record" = some m.cls := findClass_of_methodNamed Bd.named
  have hnm := (name_of_methodNamed Bd.named Bd.method).1
  have X0 : Stand p l e ({ frames := 1, cells := 0, slots := 0, locals := 12 } : Room) s m #[(.ref a1)] below meth c s₁ [] 0 0 := Stand.of_body Bd
  have e0 : s₁.heap = h0 := by rw [← hh, Bd.state]; rfl
  have N0 := Fr.nil n0
  show Go p e below (FinE s below (QRec Z a1 h0 n0) ({ frames := 1, cells := 0, slots := 0, locals := 12 } : Room).cells ({ frames := 1, cells := 0, slots := 0, locals := 12 } : Room).slots) (s₁.setTop (entryFrame m #[(.ref a1)] 1))
  refine Go.via (fun t k => castTop (ef_rmRec m a1) k) ?_
  show Go p e below _ (s₁.setTop (mkF m 0 #[.val (.ref a1)] []))
  refine Go.via (fun _ => XS.aloadN X0.here hx rfl (hb hby d9_0) rfl rfl) ?_
  show Go p e below _ (s₁.setTop (mkF m 1 #[.val (.ref a1)] [(.ref a1)]))
  obtain ⟨T101, X101, e101, st101⟩ := initO X0 hx hZ hown (hw _ (List.mem_of_getElem? (i := 49) rfl)) (hw _ (List.mem_of_getElem? (i := 22) rfl)) (hw _ (List.mem_of_getElem? (i := 23) rfl)) e0 (g := (mkF m 1 #[.val (.ref a1)] [(.ref a1)])) rfl (by rw [hml]; rfl) rfl (hb hby d9_1) (by decide) (W := 0) (by show 2 * 0 + _ ≤ _; exact Nat.le_of_eq rfl) (by decide)
  refine Go.via st101 ?_
  show Go p e below _ (T101.setTop (mkF m 4 #[.val (.ref a1)] []))
  exact own_retV X101 hx hlk Bd.returns (hb hby d9_4) (by show QRec Z a1 h0 n0 _ T101.heap _; rw [e101]; exact ⟨rfl, N0, rfl⟩) (by decide) (by decide)
theorem ef_rmRnn (m : MethodId) (x0 : Addr) (x1 : Addr) : entryFrame m #[(.ref x0), (.ref x1)] 2 = mkF m 0 #[.val (.ref x0), .val (.ref x1)] [] := by first | (simp [entryFrame, mkF, argsToLocals, Value.category]; done) | rfl
def QRnn (Z : State) (r1 : Addr) (s1 : Addr) (h0 : Heap) (n0 : Nat) (v : Option Value) (h : Heap) (L : List Loc) : Prop := v = some (.ref r1) ∧ Fr n0 L ∧ h = h0
set_option maxRecDepth 65536 in
set_option maxHeartbeats 40000000 in
theorem rmRnn (l : Launch) (Z : State) (a0 : Array Value) (hw : ∀ d ∈ tables_1, d.before a0 Z = true) (ws : List Jvm.Cond) (r1 : Addr) (s1 : Addr) (h0 : Heap) (n0 : Nat) (Z0 : n0 ≤ h0.size) :
    MetFree l (⟨"java/util/Objects", "requireNonNull", "(Ljava/lang/Object;Ljava/lang/String;)Ljava/lang/Object;"⟩ : MethodName) (head1 (Jvm.Cond.code (⟨"java/util/Objects", "requireNonNull", "(Ljava/lang/Object;Ljava/lang/String;)Ljava/lang/Object;"⟩ : MethodName) jdk_31_method_11_code 2 (some (.object "java/lang/Object")) :: ws) ({ frames := 0, cells := 0, slots := 0, locals := 0 } : Room)) (fun a U => a = #[(.ref r1), (.ref s1)] ∧ Z.Warmed39 U.vm ∧ U.heap = h0) (fun _ _ _ _ _ => True) (fun _ U o U' => ∃ v L, o = .returned v ∧ QRnn Z r1 s1 h0 n0 v U'.heap L ∧ FrameEnd U o U' L ({ frames := 0, cells := 0, slots := 0, locals := 0 } : Room).cells ({ frames := 0, cells := 0, slots := 0, locals := 0 } : Room).slots) := by
  refine MetFree.of_bodySF (plainFor_of_name pn_java_util_Objects) hisR ?_
  intro p e s m args below meth c s₁ Bd hml0 hP hK
  obtain ⟨rfl, hZ, hh⟩ := hP
  have hx := Bd.exec
  have hby := Bd.bytes
  have hlk : meth.locks = false := Bd.notSynchronized
  have hml : c.maxLocals = 2 := hml0
  have hown : s.vm.findClass "java/util/Objects" = some m.cls := findClass_of_methodNamed Bd.named
  have hnm := (name_of_methodNamed Bd.named Bd.method).1
  have X0 : Stand p l e ({ frames := 0, cells := 0, slots := 0, locals := 0 } : Room) s m #[(.ref r1), (.ref s1)] below meth c s₁ [] 0 0 := Stand.of_body Bd
  have e0 : s₁.heap = h0 := by rw [← hh, Bd.state]; rfl
  have N0 := Fr.nil n0
  show Go p e below (FinE s below (QRnn Z r1 s1 h0 n0) ({ frames := 0, cells := 0, slots := 0, locals := 0 } : Room).cells ({ frames := 0, cells := 0, slots := 0, locals := 0 } : Room).slots) (s₁.setTop (entryFrame m #[(.ref r1), (.ref s1)] 2))
  refine Go.via (fun t k => castTop (ef_rmRnn m r1 s1) k) ?_
  show Go p e below _ (s₁.setTop (mkF m 0 #[.val (.ref r1), .val (.ref s1)] []))
  refine Go.via (fun _ => XS.aloadN X0.here hx rfl (hb hby d10_0) rfl rfl) ?_
  show Go p e below _ (s₁.setTop (mkF m 1 #[.val (.ref r1), .val (.ref s1)] [(.ref r1)]))
  refine Go.via (fun _ => XS.ifnonnullYes X0.here hx rfl (pc0 := 1) (pc' := 13) rfl (hb hby d10_1) rfl (by decide) (by decide)) ?_
  show Go p e below _ (s₁.setTop (mkF m 13 #[.val (.ref r1), .val (.ref s1)] []))
  refine Go.via (fun _ => XS.aloadN X0.here hx rfl (hb hby d10_13) rfl rfl) ?_
  show Go p e below _ (s₁.setTop (mkF m 14 #[.val (.ref r1), .val (.ref s1)] [(.ref r1)]))
  exact own_retA X0 hx hlk Bd.returns rfl rfl (hb hby d10_14) (by show QRnn Z r1 s1 h0 n0 _ s₁.heap _; rw [e0]; exact ⟨rfl, N0, rfl⟩) (by decide) (by decide)
theorem ef_rmOf (m : MethodId)  : entryFrame m #[] 0 = mkF m 0 #[] [] := by first | (simp [entryFrame, mkF, argsToLocals, Value.category]; done) | rfl
def QOf (Z : State) (em : Addr) (h0 : Heap) (n0 : Nat) (v : Option Value) (h : Heap) (L : List Loc) : Prop := v = some (.ref em) ∧ Fr n0 L ∧ h = h0
set_option maxRecDepth 65536 in
set_option maxHeartbeats 40000000 in
theorem rmOf (l : Launch) (Z : State) (a0 : Array Value) (hw : ∀ d ∈ tables_1, d.before a0 Z = true) (ws : List Jvm.Cond) (em : Addr) (h0 : Heap) (n0 : Nat) (Z0 : n0 ≤ h0.size) (O0 : Old Z n0 h0) (S_EM : Sta Z Z.heap "java/util/ImmutableCollections" "EMPTY_MAP" "Ljava/util/ImmutableCollections$MapN;" (.ref em)) :
    MetFree l (⟨"java/util/Map", "of", "()Ljava/util/Map;"⟩ : MethodName) (head1 (Jvm.Cond.code (⟨"java/util/Map", "of", "()Ljava/util/Map;"⟩ : MethodName) jdk_72_method_26_code 0 (some (.object "java/util/Map")) :: ws) ({ frames := 0, cells := 0, slots := 0, locals := 0 } : Room)) (fun a U => a = #[] ∧ Z.Warmed39 U.vm ∧ U.heap = h0) (fun _ _ _ _ _ => True) (fun _ U o U' => ∃ v L, o = .returned v ∧ QOf Z em h0 n0 v U'.heap L ∧ FrameEnd U o U' L ({ frames := 0, cells := 0, slots := 0, locals := 0 } : Room).cells ({ frames := 0, cells := 0, slots := 0, locals := 0 } : Room).slots) := by
  refine MetFree.of_bodySF (plainFor_of_name pn_java_util_Map) hisR ?_
  intro p e s m args below meth c s₁ Bd hml0 hP hK
  obtain ⟨rfl, hZ, hh⟩ := hP
  have hx := Bd.exec
  have hby := Bd.bytes
  have hlk : meth.locks = false := Bd.notSynchronized
  have hml : c.maxLocals = 0 := hml0
  have hown : s.vm.findClass "java/util/Map" = some m.cls := findClass_of_methodNamed Bd.named
  have hnm := (name_of_methodNamed Bd.named Bd.method).1
  have X0 : Stand p l e ({ frames := 0, cells := 0, slots := 0, locals := 0 } : Room) s m #[] below meth c s₁ [] 0 0 := Stand.of_body Bd
  have e0 : s₁.heap = h0 := by rw [← hh, Bd.state]; rfl
  have N0 := Fr.nil n0
  show Go p e below (FinE s below (QOf Z em h0 n0) ({ frames := 0, cells := 0, slots := 0, locals := 0 } : Room).cells ({ frames := 0, cells := 0, slots := 0, locals := 0 } : Room).slots) (s₁.setTop (entryFrame m #[] 0))
  refine Go.via (fun t k => castTop (ef_rmOf m ) k) ?_
  show Go p e below _ (s₁.setTop (mkF m 0 #[] []))
  obtain ⟨T101, X101, e101, st101⟩ := getS2 X0 hx hZ hown (host := "") (Or.inl (hw _ (List.mem_of_getElem? (i := 62) rfl))) Via.refl e0 (S_EM.ext O0.2) (g := (mkF m 0 #[] [])) rfl (hb hby d11_0)
  refine Go.via st101 ?_
  show Go p e below _ (T101.setTop (mkF m 3 #[] [(.ref em)]))
  exact own_retA X101 hx hlk Bd.returns rfl rfl (hb hby d11_3) (by show QOf Z em h0 n0 _ T101.heap _; rw [e101]; exact ⟨rfl, N0, rfl⟩) (by decide) (by decide)
theorem ef_rmC6N (m : MethodId) (x0 : Addr) (x1 : Addr) (x4 : Addr) : entryFrame m #[(.ref x0), (.ref x1), .null, .null, (.ref x4), .null, .null] 7 = mkF m 0 #[.val (.ref x0), .val (.ref x1), .val .null, .val .null, .val (.ref x4), .val .null, .val .null] [] := by first | (simp [entryFrame, mkF, argsToLocals, Value.category]; done) | rfl
def QC6N (Z : State) (e1 : Addr) (t1 : Addr) (tr : Addr) (em : Addr) (h0 : Heap) (n0 : Nat) (v : Option Value) (h : Heap) (L : List Loc) : Prop := v = none ∧ Fr n0 L ∧ Keep h0 h [e1] ∧ Fld Z h e1 "com/example/permits_from_duties/permitsfromduties/Event" "user" "Ljava/lang/String;" .null ∧ Fld Z h e1 "com/example/permits_from_duties/permitsfromduties/Event" "transition" "Lcom/example/permits_from_duties/permitsfromduties/Event$Transition;" (.ref tr)
set_option maxRecDepth 65536 in
set_option maxHeartbeats 40000000 in
theorem rmC6N (l : Launch) (Z : State) (a0 : Array Value) (hw : ∀ d ∈ tables_1, d.before a0 Z = true) (ws : List Jvm.Cond) (e1 : Addr) (t1 : Addr) (tr : Addr) (em : Addr) (h0 : Heap) (n0 : Nat) (Z0 : n0 ≤ h0.size) (E1 : Exa Z h0 e1 "com/example/permits_from_duties/permitsfromduties/Event") (F_task : Fld Z h0 e1 "com/example/permits_from_duties/permitsfromduties/Event" "task" "Ljava/lang/String;" .null) (F_user : Fld Z h0 e1 "com/example/permits_from_duties/permitsfromduties/Event" "user" "Ljava/lang/String;" .null) (F_time : Fld Z h0 e1 "com/example/permits_from_duties/permitsfromduties/Event" "time" "Ljava/time/Instant;" .null) (F_transition : Fld Z h0 e1 "com/example/permits_from_duties/permitsfromduties/Event" "transition" "Lcom/example/permits_from_duties/permitsfromduties/Event$Transition;" .null) (F_location : Fld Z h0 e1 "com/example/permits_from_duties/permitsfromduties/Event" "location" "Ljava/lang/String;" .null) (F_data : Fld Z h0 e1 "com/example/permits_from_duties/permitsfromduties/Event" "data" "Ljava/util/Map;" .null) (g1 : n0 ≤ e1) (O0 : Old Z n0 h0) (S_EM : Sta Z Z.heap "java/util/ImmutableCollections" "EMPTY_MAP" "Ljava/util/ImmutableCollections$MapN;" (.ref em)) :
    MetFree l (⟨"com/example/permits_from_duties/permitsfromduties/Event", "<init>", "(Ljava/lang/String;Ljava/lang/String;Ljava/time/Instant;Lcom/example/permits_from_duties/permitsfromduties/Event$Transition;Ljava/lang/String;Ljava/util/Map;)V"⟩ : MethodName) (head1 (Jvm.Cond.code (⟨"com/example/permits_from_duties/permitsfromduties/Event", "<init>", "(Ljava/lang/String;Ljava/lang/String;Ljava/time/Instant;Lcom/example/permits_from_duties/permitsfromduties/Event$Transition;Ljava/lang/String;Ljava/util/Map;)V"⟩ : MethodName) prog_27_method_1_code 7 none :: ws) ({ frames := 2, cells := 4, slots := 64, locals := 24 } : Room)) (fun a U => a = #[(.ref e1), (.ref t1), .null, .null, (.ref tr), .null, .null] ∧ Z.Warmed39 U.vm ∧ U.heap = h0) (fun _ _ _ _ _ => True) (fun _ U o U' => ∃ v L, o = .returned v ∧ QC6N Z e1 t1 tr em h0 n0 v U'.heap L ∧ ReturnedEndW U o U' L ({ frames := 2, cells := 4, slots := 64, locals := 24 } : Room).cells ({ frames := 2, cells := 4, slots := 64, locals := 24 } : Room).slots) := by
  refine MetFree.of_bodySF (plainFor_of_name pn_com_example_permits_from_duties_permitsfromduties_Event) hisR ?_
  intro p e s m args below meth c s₁ Bd hml0 hP hK
  obtain ⟨rfl, hZ, hh⟩ := hP
  have hx := Bd.exec
  have hby := Bd.bytes
  have hlk : meth.locks = false := Bd.notSynchronized
  have hml : c.maxLocals = 7 := hml0
  have hown : s.vm.findClass "com/example/permits_from_duties/permitsfromduties/Event" = some m.cls := findClass_of_methodNamed Bd.named
  have hnm := (name_of_methodNamed Bd.named Bd.method).1
  have X0 : Stand p l e ({ frames := 2, cells := 4, slots := 64, locals := 24 } : Room) (s.setVm s.vm) m #[(.ref e1), (.ref t1), .null, .null, (.ref tr), .null, .null] below meth c s₁ [] 0 0 := Stand.of_body Bd
  replace hZ : Z.Warmed39 (s.setVm s.vm).vm := hZ
  replace hown : (s.setVm s.vm).vm.findClass "com/example/permits_from_duties/permitsfromduties/Event" = some m.cls := hown
  have hS0 : s.Since s.vm 0 := (State.WarmedH.refl s).since 0
  have hk0 : 0 ≤ h0.size := Nat.zero_le _
  have e0 : s₁.heap = h0 := by rw [← hh, Bd.state]; rfl
  have N0 := Fr.nil n0
  show Go p e below (FinW s below (QC6N Z e1 t1 tr em h0 n0) ({ frames := 2, cells := 4, slots := 64, locals := 24 } : Room).cells ({ frames := 2, cells := 4, slots := 64, locals := 24 } : Room).slots) (s₁.setTop (entryFrame m #[(.ref e1), (.ref t1), .null, .null, (.ref tr), .null, .null] 7))
  refine Go.via (fun t k => castTop (ef_rmC6N m e1 t1 tr) k) ?_
  show Go p e below _ (s₁.setTop (mkF m 0 #[.val (.ref e1), .val (.ref t1), .val .null, .val .null, .val (.ref tr), .val .null, .val .null] []))
  refine Go.via (fun _ => XS.aloadN X0.here hx rfl (hb hby d8_0) rfl rfl) ?_
  show Go p e below _ (s₁.setTop (mkF m 1 #[.val (.ref e1), .val (.ref t1), .val .null, .val .null, .val (.ref tr), .val .null, .val .null] [(.ref e1)]))
  obtain ⟨_, _, ⟨T101, L101, k101, n101⟩, -, X101, ⟨Lc101, hQ101, l101, y101, z101⟩, st101⟩ := X0.specialBack hx (y := (⟨"java/lang/Record", "<init>", "()V"⟩ : MethodName)) rfl hown (mvT hZ (hw _ (List.mem_of_getElem? (i := 44) rfl))) (mvT hZ (hw _ (List.mem_of_getElem? (i := 45) rfl))) (mvT hZ (hw _ (List.mem_of_getElem? (i := 48) rfl))) (by decide) (backOf (W := 0) (rmRec l Z a0 hw [] e1 h0 n0 Z0) hZ (hw _ (List.mem_of_getElem? (i := 48) rfl)) (hw _ (List.mem_of_getElem? (i := 47) rfl)) (by decide) (by decide)) (g := (mkF m 1 #[.val (.ref e1), .val (.ref t1), .val .null, .val .null, .val (.ref tr), .val .null, .val .null] [(.ref e1)])) rfl (by rw [hml]; rfl) (Steps.refl _) (a := e1) (argsL := []) (rest := []) (lenOf pd_0 rfl) rfl (by show 2 * 0 + _ ≤ _; exact Nat.le_of_eq rfl) (hb hby d8_1) (fun _ _ => ⟨rfl, e0, (by decide : 0 + 0 ≤ _), (by decide : 0 + 0 ≤ _)⟩)
  dsimp only [Pt.U, Pt.locs, Pt.cells, Pt.slots] at X101 l101 y101 z101 st101 hQ101
  rw [l101, y101, z101] at X101
  replace X101 : Stand p l e _ _ m _ below meth c T101 _ 0 0 := X101
  obtain ⟨rfl, N101q, e101q⟩ := hQ101
  have N101 := Fr.app N0 N101q
  refine Go.tr st101 ?_
  show Go p e below _ (T101.setTop (mkF m 4 #[.val (.ref e1), .val (.ref t1), .val .null, .val .null, .val (.ref tr), .val .null, .val .null] []))
  refine Go.via (fun _ => XS.aloadN X101.here hx rfl (hb hby d8_4) rfl rfl) ?_
  show Go p e below _ (T101.setTop (mkF m 5 #[.val (.ref e1), .val (.ref t1), .val .null, .val .null, .val (.ref tr), .val .null, .val .null] [(.ref t1)]))
  have wS102 : ∀ d ∈ Bundle.stringAtoms, d.before a0 Z = true := fun d hd => hw d (by simpa using (List.all_eq_true.mp (by decide +kernel : (Bundle.stringAtoms.all fun d => tables_1.contains d) = true)) d hd)
  obtain ⟨s102, T102, h102, kk102, X102, e102, E102, hS102, hk102, hZ102, hown102, st102⟩ := ldcS X101 hx hZ hown (hw _ (List.mem_of_getElem? (i := 50) rfl)) wS102 e101q hS0 hk0 (g := (mkF m 5 #[.val (.ref e1), .val (.ref t1), .val .null, .val .null, .val (.ref tr), .val .null, .val .null] [(.ref t1)])) rfl (hb hby d8_5) (n := 16) (by decide +kernel) (by decide) (by decide) (by decide)
  refine Go.via st102 ?_
  have Zs102 : n0 ≤ h102.size := Nat.le_trans Z0 E102.1
  have O102 : Old Z n0 h102 := O0.ext E102
  have K102 : Keep h0 h102 [e1] := (Keep.refl h0 [e1]).ext E102
  have fE_e1_102 := E1.ext E102
  have fF_e1_task_102 := F_task.ext E102
  have fF_e1_user_102 := F_user.ext E102
  have fF_e1_time_102 := F_time.ext E102
  have fF_e1_transition_102 := F_transition.ext E102
  have fF_e1_location_102 := F_location.ext E102
  have fF_e1_data_102 := F_data.ext E102
  show Go p e below _ (T102.setTop (mkF m 7 #[.val (.ref e1), .val (.ref t1), .val .null, .val .null, .val (.ref tr), .val .null, .val .null] [(.ref s102), (.ref t1)]))
  obtain ⟨_, _, ⟨T103, L103, k103, n103⟩, -, X103, ⟨Lc103, hQ103, l103, y103, z103⟩, st103⟩ := Jvm.LawKit.callS X102 hx (y := (⟨"java/util/Objects", "requireNonNull", "(Ljava/lang/Object;Ljava/lang/String;)Ljava/lang/Object;"⟩ : MethodName)) hown102 (mvT hZ102 (hw _ (List.mem_of_getElem? (i := 53) rfl))) (mvT hZ102 (hw _ (List.mem_of_getElem? (i := 54) rfl))) (mvT hZ102 (hw _ (List.mem_of_getElem? (i := 55) rfl))) (mvT hZ102 (hw _ (List.mem_of_getElem? (i := 56) rfl))) (by decide) (backOf (W := 0) (rmRnn l Z a0 hw [] t1 s102 h102 n0 Zs102) hZ102 (hw _ (List.mem_of_getElem? (i := 56) rfl)) (hw _ (List.mem_of_getElem? (i := 55) rfl)) (by decide) (by decide)) (g := (mkF m 7 #[.val (.ref e1), .val (.ref t1), .val .null, .val .null, .val (.ref tr), .val .null, .val .null] [(.ref s102), (.ref t1)])) rfl (by rw [hml]; rfl) (argsL := [(.ref t1), (.ref s102)]) (rest := []) (lenOf pd_1 rfl) rfl (by show 2 * 0 + _ ≤ _; exact Nat.le_of_eq rfl) (hb hby d8_7) (fun _ _ => ⟨rfl, e102, (by decide : 2 + 0 ≤ _), (by decide : 20 + 0 ≤ _)⟩)
  dsimp only [Pt.U, Pt.locs, Pt.cells, Pt.slots] at X103 l103 y103 z103 st103 hQ103
  rw [l103, y103, z103] at X103
  replace X103 : Stand p l e _ _ m _ below meth c T103 _ 2 20 := X103
  obtain ⟨rfl, N103q, e103q⟩ := hQ103
  have N103 := Fr.app N101 N103q
  refine Go.via st103 ?_
  show Go p e below _ (T103.setTop (mkF m 10 #[.val (.ref e1), .val (.ref t1), .val .null, .val .null, .val (.ref tr), .val .null, .val .null] [(.ref t1)]))
  refine Go.via (fun _ => XS.pop X103.here hx rfl (hb hby d8_10) rfl rfl) ?_
  show Go p e below _ (T103.setTop (mkF m 11 #[.val (.ref e1), .val (.ref t1), .val .null, .val .null, .val (.ref tr), .val .null, .val .null] []))
  refine Go.via (fun _ => XS.aload X103.here hx rfl (hb hby d8_11) rfl rfl) ?_
  show Go p e below _ (T103.setTop (mkF m 13 #[.val (.ref e1), .val (.ref t1), .val .null, .val .null, .val (.ref tr), .val .null, .val .null] [(.ref tr)]))
  have wS104 : ∀ d ∈ Bundle.stringAtoms, d.before a0 Z = true := fun d hd => hw d (by simpa using (List.all_eq_true.mp (by decide +kernel : (Bundle.stringAtoms.all fun d => tables_1.contains d) = true)) d hd)
  obtain ⟨s104, T104, h104, kk104, X104, e104, E104, hS104, hk104, hZ104, hown104, st104⟩ := ldcS X103 hx hZ102 hown102 (hw _ (List.mem_of_getElem? (i := 57) rfl)) wS104 e103q hS102 hk102 (g := (mkF m 13 #[.val (.ref e1), .val (.ref t1), .val .null, .val .null, .val (.ref tr), .val .null, .val .null] [(.ref tr)])) rfl (hb hby d8_13) (n := 40) (by decide +kernel) (by decide) (by decide) (by decide)
  refine Go.via st104 ?_
  have Zs104 : n0 ≤ h104.size := Nat.le_trans Zs102 E104.1
  have O104 : Old Z n0 h104 := O102.ext E104
  have K104 : Keep h0 h104 [e1] := K102.ext E104
  have fE_e1_104 := fE_e1_102.ext E104
  have fF_e1_task_104 := fF_e1_task_102.ext E104
  have fF_e1_user_104 := fF_e1_user_102.ext E104
  have fF_e1_time_104 := fF_e1_time_102.ext E104
  have fF_e1_transition_104 := fF_e1_transition_102.ext E104
  have fF_e1_location_104 := fF_e1_location_102.ext E104
  have fF_e1_data_104 := fF_e1_data_102.ext E104
  show Go p e below _ (T104.setTop (mkF m 15 #[.val (.ref e1), .val (.ref t1), .val .null, .val .null, .val (.ref tr), .val .null, .val .null] [(.ref s104), (.ref tr)]))
  obtain ⟨_, _, ⟨T105, L105, k105, n105⟩, -, X105, ⟨Lc105, hQ105, l105, y105, z105⟩, st105⟩ := Jvm.LawKit.callS X104 hx (y := (⟨"java/util/Objects", "requireNonNull", "(Ljava/lang/Object;Ljava/lang/String;)Ljava/lang/Object;"⟩ : MethodName)) hown104 (mvT hZ104 (hw _ (List.mem_of_getElem? (i := 53) rfl))) (mvT hZ104 (hw _ (List.mem_of_getElem? (i := 54) rfl))) (mvT hZ104 (hw _ (List.mem_of_getElem? (i := 55) rfl))) (mvT hZ104 (hw _ (List.mem_of_getElem? (i := 56) rfl))) (by decide) (backOf (W := 0) (rmRnn l Z a0 hw [] tr s104 h104 n0 Zs104) hZ104 (hw _ (List.mem_of_getElem? (i := 56) rfl)) (hw _ (List.mem_of_getElem? (i := 55) rfl)) (by decide) (by decide)) (g := (mkF m 15 #[.val (.ref e1), .val (.ref t1), .val .null, .val .null, .val (.ref tr), .val .null, .val .null] [(.ref s104), (.ref tr)])) rfl (by rw [hml]; rfl) (argsL := [(.ref tr), (.ref s104)]) (rest := []) (lenOf pd_1 rfl) rfl (by show 2 * 0 + _ ≤ _; exact Nat.le_of_eq rfl) (hb hby d8_15) (fun _ _ => ⟨rfl, e104, (by decide : 4 + 0 ≤ _), (by decide : 64 + 0 ≤ _)⟩)
  dsimp only [Pt.U, Pt.locs, Pt.cells, Pt.slots] at X105 l105 y105 z105 st105 hQ105
  rw [l105, y105, z105] at X105
  replace X105 : Stand p l e _ _ m _ below meth c T105 _ 4 64 := X105
  obtain ⟨rfl, N105q, e105q⟩ := hQ105
  have N105 := Fr.app N103 N105q
  refine Go.via st105 ?_
  show Go p e below _ (T105.setTop (mkF m 18 #[.val (.ref e1), .val (.ref t1), .val .null, .val .null, .val (.ref tr), .val .null, .val .null] [(.ref tr)]))
  refine Go.via (fun _ => XS.pop X105.here hx rfl (hb hby d8_18) rfl rfl) ?_
  show Go p e below _ (T105.setTop (mkF m 19 #[.val (.ref e1), .val (.ref t1), .val .null, .val .null, .val (.ref tr), .val .null, .val .null] []))
  refine Go.via (fun _ => XS.aload X105.here hx rfl (hb hby d8_19) rfl rfl) ?_
  show Go p e below _ (T105.setTop (mkF m 21 #[.val (.ref e1), .val (.ref t1), .val .null, .val .null, .val (.ref tr), .val .null, .val .null] [.null]))
  refine Go.via (fun _ => XS.ifnonnullNo X105.here hx rfl (hb hby d8_21) rfl) ?_
  show Go p e below _ (T105.setTop (mkF m 24 #[.val (.ref e1), .val (.ref t1), .val .null, .val .null, .val (.ref tr), .val .null, .val .null] []))
  obtain ⟨_, _, ⟨T106, L106, k106, n106⟩, -, X106, ⟨Lc106, hQ106, l106, y106, z106⟩, st106⟩ := Jvm.LawKit.callS X105 hx (y := (⟨"java/util/Map", "of", "()Ljava/util/Map;"⟩ : MethodName)) hown104 (mvT hZ104 (hw _ (List.mem_of_getElem? (i := 58) rfl))) (mvT hZ104 (hw _ (List.mem_of_getElem? (i := 59) rfl))) (mvT hZ104 (hw _ (List.mem_of_getElem? (i := 60) rfl))) (mvT hZ104 (hw _ (List.mem_of_getElem? (i := 61) rfl))) (by decide) (backOf (W := 0) (rmOf l Z a0 hw [] em h104 n0 Zs104 O104 S_EM) hZ104 (hw _ (List.mem_of_getElem? (i := 61) rfl)) (hw _ (List.mem_of_getElem? (i := 60) rfl)) (by decide) (by decide)) (g := (mkF m 24 #[.val (.ref e1), .val (.ref t1), .val .null, .val .null, .val (.ref tr), .val .null, .val .null] [])) rfl (by rw [hml]; rfl) (argsL := []) (rest := []) (lenOf pd_2 rfl) rfl (by show 2 * 0 + _ ≤ _; exact Nat.le_of_eq rfl) (hb hby d8_24) (fun _ _ => ⟨rfl, e105q, (by decide : 4 + 0 ≤ _), (by decide : 64 + 0 ≤ _)⟩)
  dsimp only [Pt.U, Pt.locs, Pt.cells, Pt.slots] at X106 l106 y106 z106 st106 hQ106
  rw [l106, y106, z106] at X106
  replace X106 : Stand p l e _ _ m _ below meth c T106 _ 4 64 := X106
  obtain ⟨rfl, N106q, e106q⟩ := hQ106
  have N106 := Fr.app N105 N106q
  refine Go.via st106 ?_
  show Go p e below _ (T106.setTop (mkF m 27 #[.val (.ref e1), .val (.ref t1), .val .null, .val .null, .val (.ref tr), .val .null, .val .null] [(.ref em)]))
  refine Go.via (fun _ => XS.goto X106.here hx rfl (pc0 := 27) (pc' := 35) rfl (hb hby d8_27) (by decide) (by decide)) ?_
  show Go p e below _ (T106.setTop (mkF m 35 #[.val (.ref e1), .val (.ref t1), .val .null, .val .null, .val (.ref tr), .val .null, .val .null] [(.ref em)]))
  refine Go.via (fun _ => XS.astore X106.here hx rfl (hb hby d8_35) rfl rfl (l' := #[.val (.ref e1), .val (.ref t1), .val .null, .val .null, .val (.ref tr), .val .null, .val (.ref em)]) rfl) ?_
  show Go p e below _ (T106.setTop (mkF m 37 #[.val (.ref e1), .val (.ref t1), .val .null, .val .null, .val (.ref tr), .val .null, .val (.ref em)] []))
  refine Go.via (fun _ => XS.aloadN X106.here hx rfl (hb hby d8_37) rfl rfl) ?_
  show Go p e below _ (T106.setTop (mkF m 38 #[.val (.ref e1), .val (.ref t1), .val .null, .val .null, .val (.ref tr), .val .null, .val (.ref em)] [(.ref e1)]))
  refine Go.via (fun _ => XS.aloadN X106.here hx rfl (hb hby d8_38) rfl rfl) ?_
  show Go p e below _ (T106.setTop (mkF m 39 #[.val (.ref e1), .val (.ref t1), .val .null, .val .null, .val (.ref tr), .val .null, .val (.ref em)] [(.ref t1), (.ref e1)]))
  obtain ⟨T107, h107, X107, e107, W107, st107⟩ := putF X106 hx hZ104 hown104 (host := "") (Or.inl (hw _ (List.mem_of_getElem? (i := 64) rfl))) Via.refl e106q fF_e1_task_104 fE_e1_104 (Or.inr ⟨(hw _ (List.mem_of_getElem? (i := 65) rfl)), rfl, hnm⟩) (hw _ (List.mem_of_getElem? (i := 29) rfl)) (ty := (.object "java/lang/String")) (by decide) rfl rfl (g := (mkF m 39 #[.val (.ref e1), .val (.ref t1), .val .null, .val .null, .val (.ref tr), .val .null, .val (.ref em)] [(.ref t1), (.ref e1)])) rfl rfl (hb hby d8_39)
  refine Go.via st107 ?_
  have fF_e1_task_107 : Fld Z h107 e1 "com/example/permits_from_duties/permitsfromduties/Event" "task" "Ljava/lang/String;" (.ref t1) := fF_e1_task_104.same W107
  have Zs107 : n0 ≤ h107.size := Nat.le_trans Zs104 (Keep.of_wr W107).1
  have hk107 : kk104 ≤ h107.size := Nat.le_trans hk104 (Keep.of_wr W107).1
  have O107 : Old Z n0 h107 := O104.wr W107 g1
  have K107 : Keep h0 h107 [e1] := K104.wr W107 (Or.inl (List.mem_of_getElem? (i := 0) rfl))
  have N107 := Fr.snoc X107 N106 g1
  have fE_e1_107 := fE_e1_104.wr W107
  have fF_e1_user_107 := fF_e1_user_104.other W107 (Or.inr (slot_ne (Or.inr (hw _ (List.mem_of_getElem? (i := 67) rfl))) (Or.inr (hw _ (List.mem_of_getElem? (i := 65) rfl))) (by decide) (t := (.object "java/lang/String")) (t' := (.object "java/lang/String")) (by decide) (by decide)))
  have fF_e1_time_107 := fF_e1_time_104.other W107 (Or.inr (slot_ne (Or.inr (hw _ (List.mem_of_getElem? (i := 69) rfl))) (Or.inr (hw _ (List.mem_of_getElem? (i := 65) rfl))) (by decide) (t := (.object "java/time/Instant")) (t' := (.object "java/lang/String")) (by decide) (by decide)))
  have fF_e1_transition_107 := fF_e1_transition_104.other W107 (Or.inr (slot_ne (Or.inr (hw _ (List.mem_of_getElem? (i := 71) rfl))) (Or.inr (hw _ (List.mem_of_getElem? (i := 65) rfl))) (by decide) (t := (.object "com/example/permits_from_duties/permitsfromduties/Event$Transition")) (t' := (.object "java/lang/String")) (by decide) (by decide)))
  have fF_e1_location_107 := fF_e1_location_104.other W107 (Or.inr (slot_ne (Or.inr (hw _ (List.mem_of_getElem? (i := 73) rfl))) (Or.inr (hw _ (List.mem_of_getElem? (i := 65) rfl))) (by decide) (t := (.object "java/lang/String")) (t' := (.object "java/lang/String")) (by decide) (by decide)))
  have fF_e1_data_107 := fF_e1_data_104.other W107 (Or.inr (slot_ne (Or.inr (hw _ (List.mem_of_getElem? (i := 75) rfl))) (Or.inr (hw _ (List.mem_of_getElem? (i := 65) rfl))) (by decide) (t := (.object "java/util/Map")) (t' := (.object "java/lang/String")) (by decide) (by decide)))
  show Go p e below _ (T107.setTop (mkF m 42 #[.val (.ref e1), .val (.ref t1), .val .null, .val .null, .val (.ref tr), .val .null, .val (.ref em)] []))
  refine Go.via (fun _ => XS.aloadN X107.here hx rfl (hb hby d8_42) rfl rfl) ?_
  show Go p e below _ (T107.setTop (mkF m 43 #[.val (.ref e1), .val (.ref t1), .val .null, .val .null, .val (.ref tr), .val .null, .val (.ref em)] [(.ref e1)]))
  refine Go.via (fun _ => XS.aloadN X107.here hx rfl (hb hby d8_43) rfl rfl) ?_
  show Go p e below _ (T107.setTop (mkF m 44 #[.val (.ref e1), .val (.ref t1), .val .null, .val .null, .val (.ref tr), .val .null, .val (.ref em)] [.null, (.ref e1)]))
  obtain ⟨T108, h108, X108, e108, W108, st108⟩ := putF X107 hx hZ104 hown104 (host := "") (Or.inl (hw _ (List.mem_of_getElem? (i := 66) rfl))) Via.refl e107 fF_e1_user_107 fE_e1_107 (Or.inr ⟨(hw _ (List.mem_of_getElem? (i := 67) rfl)), rfl, hnm⟩) (hw _ (List.mem_of_getElem? (i := 29) rfl)) (ty := (.object "java/lang/String")) (by decide) rfl rfl (g := (mkF m 44 #[.val (.ref e1), .val (.ref t1), .val .null, .val .null, .val (.ref tr), .val .null, .val (.ref em)] [.null, (.ref e1)])) rfl rfl (hb hby d8_44)
  refine Go.via st108 ?_
  have fF_e1_user_108 : Fld Z h108 e1 "com/example/permits_from_duties/permitsfromduties/Event" "user" "Ljava/lang/String;" .null := fF_e1_user_107.same W108
  have Zs108 : n0 ≤ h108.size := Nat.le_trans Zs107 (Keep.of_wr W108).1
  have hk108 : kk104 ≤ h108.size := Nat.le_trans hk107 (Keep.of_wr W108).1
  have O108 : Old Z n0 h108 := O107.wr W108 g1
  have K108 : Keep h0 h108 [e1] := K107.wr W108 (Or.inl (List.mem_of_getElem? (i := 0) rfl))
  have N108 := Fr.snoc X108 N107 g1
  have fE_e1_108 := fE_e1_107.wr W108
  have fF_e1_task_108 := fF_e1_task_107.other W108 (Or.inr (slot_ne (Or.inr (hw _ (List.mem_of_getElem? (i := 65) rfl))) (Or.inr (hw _ (List.mem_of_getElem? (i := 67) rfl))) (by decide) (t := (.object "java/lang/String")) (t' := (.object "java/lang/String")) (by decide) (by decide)))
  have fF_e1_time_108 := fF_e1_time_107.other W108 (Or.inr (slot_ne (Or.inr (hw _ (List.mem_of_getElem? (i := 69) rfl))) (Or.inr (hw _ (List.mem_of_getElem? (i := 67) rfl))) (by decide) (t := (.object "java/time/Instant")) (t' := (.object "java/lang/String")) (by decide) (by decide)))
  have fF_e1_transition_108 := fF_e1_transition_107.other W108 (Or.inr (slot_ne (Or.inr (hw _ (List.mem_of_getElem? (i := 71) rfl))) (Or.inr (hw _ (List.mem_of_getElem? (i := 67) rfl))) (by decide) (t := (.object "com/example/permits_from_duties/permitsfromduties/Event$Transition")) (t' := (.object "java/lang/String")) (by decide) (by decide)))
  have fF_e1_location_108 := fF_e1_location_107.other W108 (Or.inr (slot_ne (Or.inr (hw _ (List.mem_of_getElem? (i := 73) rfl))) (Or.inr (hw _ (List.mem_of_getElem? (i := 67) rfl))) (by decide) (t := (.object "java/lang/String")) (t' := (.object "java/lang/String")) (by decide) (by decide)))
  have fF_e1_data_108 := fF_e1_data_107.other W108 (Or.inr (slot_ne (Or.inr (hw _ (List.mem_of_getElem? (i := 75) rfl))) (Or.inr (hw _ (List.mem_of_getElem? (i := 67) rfl))) (by decide) (t := (.object "java/util/Map")) (t' := (.object "java/lang/String")) (by decide) (by decide)))
  show Go p e below _ (T108.setTop (mkF m 47 #[.val (.ref e1), .val (.ref t1), .val .null, .val .null, .val (.ref tr), .val .null, .val (.ref em)] []))
  refine Go.via (fun _ => XS.aloadN X108.here hx rfl (hb hby d8_47) rfl rfl) ?_
  show Go p e below _ (T108.setTop (mkF m 48 #[.val (.ref e1), .val (.ref t1), .val .null, .val .null, .val (.ref tr), .val .null, .val (.ref em)] [(.ref e1)]))
  refine Go.via (fun _ => XS.aloadN X108.here hx rfl (hb hby d8_48) rfl rfl) ?_
  show Go p e below _ (T108.setTop (mkF m 49 #[.val (.ref e1), .val (.ref t1), .val .null, .val .null, .val (.ref tr), .val .null, .val (.ref em)] [.null, (.ref e1)]))
  obtain ⟨T109, h109, X109, e109, W109, st109⟩ := putF X108 hx hZ104 hown104 (host := "") (Or.inl (hw _ (List.mem_of_getElem? (i := 68) rfl))) Via.refl e108 fF_e1_time_108 fE_e1_108 (Or.inr ⟨(hw _ (List.mem_of_getElem? (i := 69) rfl)), rfl, hnm⟩) (hw _ (List.mem_of_getElem? (i := 29) rfl)) (ty := (.object "java/time/Instant")) (by decide) rfl rfl (g := (mkF m 49 #[.val (.ref e1), .val (.ref t1), .val .null, .val .null, .val (.ref tr), .val .null, .val (.ref em)] [.null, (.ref e1)])) rfl rfl (hb hby d8_49)
  refine Go.via st109 ?_
  have fF_e1_time_109 : Fld Z h109 e1 "com/example/permits_from_duties/permitsfromduties/Event" "time" "Ljava/time/Instant;" .null := fF_e1_time_108.same W109
  have Zs109 : n0 ≤ h109.size := Nat.le_trans Zs108 (Keep.of_wr W109).1
  have hk109 : kk104 ≤ h109.size := Nat.le_trans hk108 (Keep.of_wr W109).1
  have O109 : Old Z n0 h109 := O108.wr W109 g1
  have K109 : Keep h0 h109 [e1] := K108.wr W109 (Or.inl (List.mem_of_getElem? (i := 0) rfl))
  have N109 := Fr.snoc X109 N108 g1
  have fE_e1_109 := fE_e1_108.wr W109
  have fF_e1_task_109 := fF_e1_task_108.other W109 (Or.inr (slot_ne (Or.inr (hw _ (List.mem_of_getElem? (i := 65) rfl))) (Or.inr (hw _ (List.mem_of_getElem? (i := 69) rfl))) (by decide) (t := (.object "java/lang/String")) (t' := (.object "java/time/Instant")) (by decide) (by decide)))
  have fF_e1_user_109 := fF_e1_user_108.other W109 (Or.inr (slot_ne (Or.inr (hw _ (List.mem_of_getElem? (i := 67) rfl))) (Or.inr (hw _ (List.mem_of_getElem? (i := 69) rfl))) (by decide) (t := (.object "java/lang/String")) (t' := (.object "java/time/Instant")) (by decide) (by decide)))
  have fF_e1_transition_109 := fF_e1_transition_108.other W109 (Or.inr (slot_ne (Or.inr (hw _ (List.mem_of_getElem? (i := 71) rfl))) (Or.inr (hw _ (List.mem_of_getElem? (i := 69) rfl))) (by decide) (t := (.object "com/example/permits_from_duties/permitsfromduties/Event$Transition")) (t' := (.object "java/time/Instant")) (by decide) (by decide)))
  have fF_e1_location_109 := fF_e1_location_108.other W109 (Or.inr (slot_ne (Or.inr (hw _ (List.mem_of_getElem? (i := 73) rfl))) (Or.inr (hw _ (List.mem_of_getElem? (i := 69) rfl))) (by decide) (t := (.object "java/lang/String")) (t' := (.object "java/time/Instant")) (by decide) (by decide)))
  have fF_e1_data_109 := fF_e1_data_108.other W109 (Or.inr (slot_ne (Or.inr (hw _ (List.mem_of_getElem? (i := 75) rfl))) (Or.inr (hw _ (List.mem_of_getElem? (i := 69) rfl))) (by decide) (t := (.object "java/util/Map")) (t' := (.object "java/time/Instant")) (by decide) (by decide)))
  show Go p e below _ (T109.setTop (mkF m 52 #[.val (.ref e1), .val (.ref t1), .val .null, .val .null, .val (.ref tr), .val .null, .val (.ref em)] []))
  refine Go.via (fun _ => XS.aloadN X109.here hx rfl (hb hby d8_52) rfl rfl) ?_
  show Go p e below _ (T109.setTop (mkF m 53 #[.val (.ref e1), .val (.ref t1), .val .null, .val .null, .val (.ref tr), .val .null, .val (.ref em)] [(.ref e1)]))
  refine Go.via (fun _ => XS.aload X109.here hx rfl (hb hby d8_53) rfl rfl) ?_
  show Go p e below _ (T109.setTop (mkF m 55 #[.val (.ref e1), .val (.ref t1), .val .null, .val .null, .val (.ref tr), .val .null, .val (.ref em)] [(.ref tr), (.ref e1)]))
  obtain ⟨T110, h110, X110, e110, W110, st110⟩ := putF X109 hx hZ104 hown104 (host := "") (Or.inl (hw _ (List.mem_of_getElem? (i := 70) rfl))) Via.refl e109 fF_e1_transition_109 fE_e1_109 (Or.inr ⟨(hw _ (List.mem_of_getElem? (i := 71) rfl)), rfl, hnm⟩) (hw _ (List.mem_of_getElem? (i := 29) rfl)) (ty := (.object "com/example/permits_from_duties/permitsfromduties/Event$Transition")) (by decide) rfl rfl (g := (mkF m 55 #[.val (.ref e1), .val (.ref t1), .val .null, .val .null, .val (.ref tr), .val .null, .val (.ref em)] [(.ref tr), (.ref e1)])) rfl rfl (hb hby d8_55)
  refine Go.via st110 ?_
  have fF_e1_transition_110 : Fld Z h110 e1 "com/example/permits_from_duties/permitsfromduties/Event" "transition" "Lcom/example/permits_from_duties/permitsfromduties/Event$Transition;" (.ref tr) := fF_e1_transition_109.same W110
  have Zs110 : n0 ≤ h110.size := Nat.le_trans Zs109 (Keep.of_wr W110).1
  have hk110 : kk104 ≤ h110.size := Nat.le_trans hk109 (Keep.of_wr W110).1
  have O110 : Old Z n0 h110 := O109.wr W110 g1
  have K110 : Keep h0 h110 [e1] := K109.wr W110 (Or.inl (List.mem_of_getElem? (i := 0) rfl))
  have N110 := Fr.snoc X110 N109 g1
  have fE_e1_110 := fE_e1_109.wr W110
  have fF_e1_task_110 := fF_e1_task_109.other W110 (Or.inr (slot_ne (Or.inr (hw _ (List.mem_of_getElem? (i := 65) rfl))) (Or.inr (hw _ (List.mem_of_getElem? (i := 71) rfl))) (by decide) (t := (.object "java/lang/String")) (t' := (.object "com/example/permits_from_duties/permitsfromduties/Event$Transition")) (by decide) (by decide)))
  have fF_e1_user_110 := fF_e1_user_109.other W110 (Or.inr (slot_ne (Or.inr (hw _ (List.mem_of_getElem? (i := 67) rfl))) (Or.inr (hw _ (List.mem_of_getElem? (i := 71) rfl))) (by decide) (t := (.object "java/lang/String")) (t' := (.object "com/example/permits_from_duties/permitsfromduties/Event$Transition")) (by decide) (by decide)))
  have fF_e1_time_110 := fF_e1_time_109.other W110 (Or.inr (slot_ne (Or.inr (hw _ (List.mem_of_getElem? (i := 69) rfl))) (Or.inr (hw _ (List.mem_of_getElem? (i := 71) rfl))) (by decide) (t := (.object "java/time/Instant")) (t' := (.object "com/example/permits_from_duties/permitsfromduties/Event$Transition")) (by decide) (by decide)))
  have fF_e1_location_110 := fF_e1_location_109.other W110 (Or.inr (slot_ne (Or.inr (hw _ (List.mem_of_getElem? (i := 73) rfl))) (Or.inr (hw _ (List.mem_of_getElem? (i := 71) rfl))) (by decide) (t := (.object "java/lang/String")) (t' := (.object "com/example/permits_from_duties/permitsfromduties/Event$Transition")) (by decide) (by decide)))
  have fF_e1_data_110 := fF_e1_data_109.other W110 (Or.inr (slot_ne (Or.inr (hw _ (List.mem_of_getElem? (i := 75) rfl))) (Or.inr (hw _ (List.mem_of_getElem? (i := 71) rfl))) (by decide) (t := (.object "java/util/Map")) (t' := (.object "com/example/permits_from_duties/permitsfromduties/Event$Transition")) (by decide) (by decide)))
  show Go p e below _ (T110.setTop (mkF m 58 #[.val (.ref e1), .val (.ref t1), .val .null, .val .null, .val (.ref tr), .val .null, .val (.ref em)] []))
  refine Go.via (fun _ => XS.aloadN X110.here hx rfl (hb hby d8_58) rfl rfl) ?_
  show Go p e below _ (T110.setTop (mkF m 59 #[.val (.ref e1), .val (.ref t1), .val .null, .val .null, .val (.ref tr), .val .null, .val (.ref em)] [(.ref e1)]))
  refine Go.via (fun _ => XS.aload X110.here hx rfl (hb hby d8_59) rfl rfl) ?_
  show Go p e below _ (T110.setTop (mkF m 61 #[.val (.ref e1), .val (.ref t1), .val .null, .val .null, .val (.ref tr), .val .null, .val (.ref em)] [.null, (.ref e1)]))
  obtain ⟨T111, h111, X111, e111, W111, st111⟩ := putF X110 hx hZ104 hown104 (host := "") (Or.inl (hw _ (List.mem_of_getElem? (i := 72) rfl))) Via.refl e110 fF_e1_location_110 fE_e1_110 (Or.inr ⟨(hw _ (List.mem_of_getElem? (i := 73) rfl)), rfl, hnm⟩) (hw _ (List.mem_of_getElem? (i := 29) rfl)) (ty := (.object "java/lang/String")) (by decide) rfl rfl (g := (mkF m 61 #[.val (.ref e1), .val (.ref t1), .val .null, .val .null, .val (.ref tr), .val .null, .val (.ref em)] [.null, (.ref e1)])) rfl rfl (hb hby d8_61)
  refine Go.via st111 ?_
  have fF_e1_location_111 : Fld Z h111 e1 "com/example/permits_from_duties/permitsfromduties/Event" "location" "Ljava/lang/String;" .null := fF_e1_location_110.same W111
  have Zs111 : n0 ≤ h111.size := Nat.le_trans Zs110 (Keep.of_wr W111).1
  have hk111 : kk104 ≤ h111.size := Nat.le_trans hk110 (Keep.of_wr W111).1
  have O111 : Old Z n0 h111 := O110.wr W111 g1
  have K111 : Keep h0 h111 [e1] := K110.wr W111 (Or.inl (List.mem_of_getElem? (i := 0) rfl))
  have N111 := Fr.snoc X111 N110 g1
  have fE_e1_111 := fE_e1_110.wr W111
  have fF_e1_task_111 := fF_e1_task_110.other W111 (Or.inr (slot_ne (Or.inr (hw _ (List.mem_of_getElem? (i := 65) rfl))) (Or.inr (hw _ (List.mem_of_getElem? (i := 73) rfl))) (by decide) (t := (.object "java/lang/String")) (t' := (.object "java/lang/String")) (by decide) (by decide)))
  have fF_e1_user_111 := fF_e1_user_110.other W111 (Or.inr (slot_ne (Or.inr (hw _ (List.mem_of_getElem? (i := 67) rfl))) (Or.inr (hw _ (List.mem_of_getElem? (i := 73) rfl))) (by decide) (t := (.object "java/lang/String")) (t' := (.object "java/lang/String")) (by decide) (by decide)))
  have fF_e1_time_111 := fF_e1_time_110.other W111 (Or.inr (slot_ne (Or.inr (hw _ (List.mem_of_getElem? (i := 69) rfl))) (Or.inr (hw _ (List.mem_of_getElem? (i := 73) rfl))) (by decide) (t := (.object "java/time/Instant")) (t' := (.object "java/lang/String")) (by decide) (by decide)))
  have fF_e1_transition_111 := fF_e1_transition_110.other W111 (Or.inr (slot_ne (Or.inr (hw _ (List.mem_of_getElem? (i := 71) rfl))) (Or.inr (hw _ (List.mem_of_getElem? (i := 73) rfl))) (by decide) (t := (.object "com/example/permits_from_duties/permitsfromduties/Event$Transition")) (t' := (.object "java/lang/String")) (by decide) (by decide)))
  have fF_e1_data_111 := fF_e1_data_110.other W111 (Or.inr (slot_ne (Or.inr (hw _ (List.mem_of_getElem? (i := 75) rfl))) (Or.inr (hw _ (List.mem_of_getElem? (i := 73) rfl))) (by decide) (t := (.object "java/util/Map")) (t' := (.object "java/lang/String")) (by decide) (by decide)))
  show Go p e below _ (T111.setTop (mkF m 64 #[.val (.ref e1), .val (.ref t1), .val .null, .val .null, .val (.ref tr), .val .null, .val (.ref em)] []))
  refine Go.via (fun _ => XS.aloadN X111.here hx rfl (hb hby d8_64) rfl rfl) ?_
  show Go p e below _ (T111.setTop (mkF m 65 #[.val (.ref e1), .val (.ref t1), .val .null, .val .null, .val (.ref tr), .val .null, .val (.ref em)] [(.ref e1)]))
  refine Go.via (fun _ => XS.aload X111.here hx rfl (hb hby d8_65) rfl rfl) ?_
  show Go p e below _ (T111.setTop (mkF m 67 #[.val (.ref e1), .val (.ref t1), .val .null, .val .null, .val (.ref tr), .val .null, .val (.ref em)] [(.ref em), (.ref e1)]))
  obtain ⟨T112, h112, X112, e112, W112, st112⟩ := putF X111 hx hZ104 hown104 (host := "") (Or.inl (hw _ (List.mem_of_getElem? (i := 74) rfl))) Via.refl e111 fF_e1_data_111 fE_e1_111 (Or.inr ⟨(hw _ (List.mem_of_getElem? (i := 75) rfl)), rfl, hnm⟩) (hw _ (List.mem_of_getElem? (i := 29) rfl)) (ty := (.object "java/util/Map")) (by decide) rfl rfl (g := (mkF m 67 #[.val (.ref e1), .val (.ref t1), .val .null, .val .null, .val (.ref tr), .val .null, .val (.ref em)] [(.ref em), (.ref e1)])) rfl rfl (hb hby d8_67)
  refine Go.via st112 ?_
  have fF_e1_data_112 : Fld Z h112 e1 "com/example/permits_from_duties/permitsfromduties/Event" "data" "Ljava/util/Map;" (.ref em) := fF_e1_data_111.same W112
  have Zs112 : n0 ≤ h112.size := Nat.le_trans Zs111 (Keep.of_wr W112).1
  have hk112 : kk104 ≤ h112.size := Nat.le_trans hk111 (Keep.of_wr W112).1
  have O112 : Old Z n0 h112 := O111.wr W112 g1
  have K112 : Keep h0 h112 [e1] := K111.wr W112 (Or.inl (List.mem_of_getElem? (i := 0) rfl))
  have N112 := Fr.snoc X112 N111 g1
  have fE_e1_112 := fE_e1_111.wr W112
  have fF_e1_task_112 := fF_e1_task_111.other W112 (Or.inr (slot_ne (Or.inr (hw _ (List.mem_of_getElem? (i := 65) rfl))) (Or.inr (hw _ (List.mem_of_getElem? (i := 75) rfl))) (by decide) (t := (.object "java/lang/String")) (t' := (.object "java/util/Map")) (by decide) (by decide)))
  have fF_e1_user_112 := fF_e1_user_111.other W112 (Or.inr (slot_ne (Or.inr (hw _ (List.mem_of_getElem? (i := 67) rfl))) (Or.inr (hw _ (List.mem_of_getElem? (i := 75) rfl))) (by decide) (t := (.object "java/lang/String")) (t' := (.object "java/util/Map")) (by decide) (by decide)))
  have fF_e1_time_112 := fF_e1_time_111.other W112 (Or.inr (slot_ne (Or.inr (hw _ (List.mem_of_getElem? (i := 69) rfl))) (Or.inr (hw _ (List.mem_of_getElem? (i := 75) rfl))) (by decide) (t := (.object "java/time/Instant")) (t' := (.object "java/util/Map")) (by decide) (by decide)))
  have fF_e1_transition_112 := fF_e1_transition_111.other W112 (Or.inr (slot_ne (Or.inr (hw _ (List.mem_of_getElem? (i := 71) rfl))) (Or.inr (hw _ (List.mem_of_getElem? (i := 75) rfl))) (by decide) (t := (.object "com/example/permits_from_duties/permitsfromduties/Event$Transition")) (t' := (.object "java/util/Map")) (by decide) (by decide)))
  have fF_e1_location_112 := fF_e1_location_111.other W112 (Or.inr (slot_ne (Or.inr (hw _ (List.mem_of_getElem? (i := 73) rfl))) (Or.inr (hw _ (List.mem_of_getElem? (i := 75) rfl))) (by decide) (t := (.object "java/lang/String")) (t' := (.object "java/util/Map")) (by decide) (by decide)))
  show Go p e below _ (T112.setTop (mkF m 70 #[.val (.ref e1), .val (.ref t1), .val .null, .val .null, .val (.ref tr), .val .null, .val (.ref em)] []))
  exact own_retVW X112 hS104 (by rw [e112]; exact hk112) hx hlk Bd.returns (hb hby d8_70) (by show QC6N Z e1 t1 tr em h0 n0 _ T112.heap _; rw [e112]; exact ⟨rfl, N112, K112, fF_e1_user_112, fF_e1_transition_112⟩) (by decide) (by decide)
theorem ef_rmC4N (m : MethodId) (x0 : Addr) (x1 : Addr) (x4 : Addr) : entryFrame m #[(.ref x0), (.ref x1), .null, .null, (.ref x4)] 5 = mkF m 0 #[.val (.ref x0), .val (.ref x1), .val .null, .val .null, .val (.ref x4)] [] := by first | (simp [entryFrame, mkF, argsToLocals, Value.category]; done) | rfl
def QC4N (Z : State) (e1 : Addr) (t1 : Addr) (tr : Addr) (em : Addr) (h0 : Heap) (n0 : Nat) (v : Option Value) (h : Heap) (L : List Loc) : Prop := v = none ∧ Fr n0 L ∧ Keep h0 h [e1] ∧ Fld Z h e1 "com/example/permits_from_duties/permitsfromduties/Event" "user" "Ljava/lang/String;" .null ∧ Fld Z h e1 "com/example/permits_from_duties/permitsfromduties/Event" "transition" "Lcom/example/permits_from_duties/permitsfromduties/Event$Transition;" (.ref tr)
set_option maxRecDepth 65536 in
set_option maxHeartbeats 40000000 in
theorem rmC4N (l : Launch) (Z : State) (a0 : Array Value) (hw : ∀ d ∈ tables_1, d.before a0 Z = true) (ws : List Jvm.Cond) (e1 : Addr) (t1 : Addr) (tr : Addr) (em : Addr) (h0 : Heap) (n0 : Nat) (Z0 : n0 ≤ h0.size) (E1 : Exa Z h0 e1 "com/example/permits_from_duties/permitsfromduties/Event") (F_task : Fld Z h0 e1 "com/example/permits_from_duties/permitsfromduties/Event" "task" "Ljava/lang/String;" .null) (F_user : Fld Z h0 e1 "com/example/permits_from_duties/permitsfromduties/Event" "user" "Ljava/lang/String;" .null) (F_time : Fld Z h0 e1 "com/example/permits_from_duties/permitsfromduties/Event" "time" "Ljava/time/Instant;" .null) (F_transition : Fld Z h0 e1 "com/example/permits_from_duties/permitsfromduties/Event" "transition" "Lcom/example/permits_from_duties/permitsfromduties/Event$Transition;" .null) (F_location : Fld Z h0 e1 "com/example/permits_from_duties/permitsfromduties/Event" "location" "Ljava/lang/String;" .null) (F_data : Fld Z h0 e1 "com/example/permits_from_duties/permitsfromduties/Event" "data" "Ljava/util/Map;" .null) (g1 : n0 ≤ e1) (O0 : Old Z n0 h0) (S_EM : Sta Z Z.heap "java/util/ImmutableCollections" "EMPTY_MAP" "Ljava/util/ImmutableCollections$MapN;" (.ref em)) :
    MetFree l (⟨"com/example/permits_from_duties/permitsfromduties/Event", "<init>", "(Ljava/lang/String;Ljava/lang/String;Ljava/time/Instant;Lcom/example/permits_from_duties/permitsfromduties/Event$Transition;)V"⟩ : MethodName) (head1 (Jvm.Cond.code (⟨"com/example/permits_from_duties/permitsfromduties/Event", "<init>", "(Ljava/lang/String;Ljava/lang/String;Ljava/time/Instant;Lcom/example/permits_from_duties/permitsfromduties/Event$Transition;)V"⟩ : MethodName) prog_27_method_2_code 5 none :: ws) ({ frames := 3, cells := 4, slots := 64, locals := 42 } : Room)) (fun a U => a = #[(.ref e1), (.ref t1), .null, .null, (.ref tr)] ∧ Z.Warmed39 U.vm ∧ U.heap = h0) (fun _ _ _ _ _ => True) (fun _ U o U' => ∃ v L, o = .returned v ∧ QC4N Z e1 t1 tr em h0 n0 v U'.heap L ∧ ReturnedEndW U o U' L ({ frames := 3, cells := 4, slots := 64, locals := 42 } : Room).cells ({ frames := 3, cells := 4, slots := 64, locals := 42 } : Room).slots) := by
  refine MetFree.of_bodySF (plainFor_of_name pn_com_example_permits_from_duties_permitsfromduties_Event) hisR ?_
  intro p e s m args below meth c s₁ Bd hml0 hP hK
  obtain ⟨rfl, hZ, hh⟩ := hP
  have hx := Bd.exec
  have hby := Bd.bytes
  have hlk : meth.locks = false := Bd.notSynchronized
  have hml : c.maxLocals = 5 := hml0
  have hown : s.vm.findClass "com/example/permits_from_duties/permitsfromduties/Event" = some m.cls := findClass_of_methodNamed Bd.named
  have hnm := (name_of_methodNamed Bd.named Bd.method).1
  have X0 : Stand p l e ({ frames := 3, cells := 4, slots := 64, locals := 42 } : Room) (s.setVm s.vm) m #[(.ref e1), (.ref t1), .null, .null, (.ref tr)] below meth c s₁ [] 0 0 := Stand.of_body Bd
  replace hZ : Z.Warmed39 (s.setVm s.vm).vm := hZ
  replace hown : (s.setVm s.vm).vm.findClass "com/example/permits_from_duties/permitsfromduties/Event" = some m.cls := hown
  have hS0 : s.Since s.vm 0 := (State.WarmedH.refl s).since 0
  have hk0 : 0 ≤ h0.size := Nat.zero_le _
  have e0 : s₁.heap = h0 := by rw [← hh, Bd.state]; rfl
  have N0 := Fr.nil n0
  show Go p e below (FinW s below (QC4N Z e1 t1 tr em h0 n0) ({ frames := 3, cells := 4, slots := 64, locals := 42 } : Room).cells ({ frames := 3, cells := 4, slots := 64, locals := 42 } : Room).slots) (s₁.setTop (entryFrame m #[(.ref e1), (.ref t1), .null, .null, (.ref tr)] 5))
  refine Go.via (fun t k => castTop (ef_rmC4N m e1 t1 tr) k) ?_
  show Go p e below _ (s₁.setTop (mkF m 0 #[.val (.ref e1), .val (.ref t1), .val .null, .val .null, .val (.ref tr)] []))
  refine Go.via (fun _ => XS.aloadN X0.here hx rfl (hb hby d7_0) rfl rfl) ?_
  show Go p e below _ (s₁.setTop (mkF m 1 #[.val (.ref e1), .val (.ref t1), .val .null, .val .null, .val (.ref tr)] [(.ref e1)]))
  refine Go.via (fun _ => XS.aloadN X0.here hx rfl (hb hby d7_1) rfl rfl) ?_
  show Go p e below _ (s₁.setTop (mkF m 2 #[.val (.ref e1), .val (.ref t1), .val .null, .val .null, .val (.ref tr)] [(.ref t1), (.ref e1)]))
  refine Go.via (fun _ => XS.aloadN X0.here hx rfl (hb hby d7_2) rfl rfl) ?_
  show Go p e below _ (s₁.setTop (mkF m 3 #[.val (.ref e1), .val (.ref t1), .val .null, .val .null, .val (.ref tr)] [.null, (.ref t1), (.ref e1)]))
  refine Go.via (fun _ => XS.aloadN X0.here hx rfl (hb hby d7_3) rfl rfl) ?_
  show Go p e below _ (s₁.setTop (mkF m 4 #[.val (.ref e1), .val (.ref t1), .val .null, .val .null, .val (.ref tr)] [.null, .null, (.ref t1), (.ref e1)]))
  refine Go.via (fun _ => XS.aload X0.here hx rfl (hb hby d7_4) rfl rfl) ?_
  show Go p e below _ (s₁.setTop (mkF m 6 #[.val (.ref e1), .val (.ref t1), .val .null, .val .null, .val (.ref tr)] [(.ref tr), .null, .null, (.ref t1), (.ref e1)]))
  refine Go.via (fun _ => XS.aconstNull X0.here hx rfl (hb hby d7_6)) ?_
  show Go p e below _ (s₁.setTop (mkF m 7 #[.val (.ref e1), .val (.ref t1), .val .null, .val .null, .val (.ref tr)] [.null, (.ref tr), .null, .null, (.ref t1), (.ref e1)]))
  refine Go.via (fun _ => XS.aconstNull X0.here hx rfl (hb hby d7_7)) ?_
  show Go p e below _ (s₁.setTop (mkF m 8 #[.val (.ref e1), .val (.ref t1), .val .null, .val .null, .val (.ref tr)] [.null, .null, (.ref tr), .null, .null, (.ref t1), (.ref e1)]))
  obtain ⟨_, _, ⟨T101, L101, k101, n101⟩, -, X101, S101w, gr101, ⟨Lc101, hQ101, l101, y101, z101⟩, st101⟩ := X0.specialBackS hx (y := (⟨"com/example/permits_from_duties/permitsfromduties/Event", "<init>", "(Ljava/lang/String;Ljava/lang/String;Ljava/time/Instant;Lcom/example/permits_from_duties/permitsfromduties/Event$Transition;Ljava/lang/String;Ljava/util/Map;)V"⟩ : MethodName)) rfl hown (mvT hZ (hw _ (List.mem_of_getElem? (i := 41) rfl))) (mvT hZ (hw _ (List.mem_of_getElem? (i := 42) rfl))) (mvT hZ (hw _ (List.mem_of_getElem? (i := 43) rfl))) (by decide) (backOfS (W := 0) (rmC6N l Z a0 hw [] e1 t1 tr em h0 n0 Z0 E1 F_task F_user F_time F_transition F_location F_data g1 O0 S_EM) hZ (hw _ (List.mem_of_getElem? (i := 43) rfl)) (hw _ (List.mem_of_getElem? (i := 30) rfl)) (by decide) (by decide)) (g := (mkF m 8 #[.val (.ref e1), .val (.ref t1), .val .null, .val .null, .val (.ref tr)] [.null, .null, (.ref tr), .null, .null, (.ref t1), (.ref e1)])) rfl (by rw [hml]; rfl) (Steps.refl _) (a := e1) (argsL := [(.ref t1), .null, .null, (.ref tr), .null, .null]) (rest := []) (lenOf pd_3 rfl) rfl (by show 2 * 0 + _ ≤ _; exact Nat.le_of_eq rfl) (hb hby d7_8) (fun _ _ => ⟨rfl, e0, (by decide : 0 + 4 ≤ _), (by decide : 0 + 64 ≤ _)⟩)
  dsimp only [Pt.U, Pt.locs, Pt.cells, Pt.slots] at X101 l101 y101 z101 st101 hQ101 S101w gr101
  rw [l101, y101, z101] at X101
  replace X101 : Stand p l e _ _ m _ below meth c T101 _ 4 64 := X101
  obtain ⟨rfl, N101q, K101q, fu101, ft101⟩ := hQ101
  have N101 := Fr.app N0 N101q
  refine Go.tr st101 ?_
  obtain ⟨X101r, hS101, hZ101, hown101⟩ := rebS hS0 (by rw [e0]; exact hk0) X101 S101w gr101 hZ hown
  have Zs101 : n0 ≤ T101.heap.size := Nat.le_trans Z0 K101q.1
  have O101 : Old Z n0 T101.heap := O0.keep K101q (allS g1 all0)
  have K101 : Keep h0 T101.heap [e1] := (Keep.refl h0 [e1]).trans K101q (allS (Or.inl (List.mem_of_getElem? (i := 0) rfl)) all0)
  have fE_e1_101 := E1.keep K101q
  show Go p e below _ (T101.setTop (mkF m 11 #[.val (.ref e1), .val (.ref t1), .val .null, .val .null, .val (.ref tr)] []))
  exact own_retVW X101r hS101 (Nat.le_refl _) hx hlk Bd.returns (hb hby d7_11) (by show QC4N Z e1 t1 tr em h0 n0 _ T101.heap _; exact ⟨rfl, N101, K101, fu101, ft101⟩) (by decide) (by decide)
theorem ef_rmC3N (m : MethodId) (x0 : Addr) (x1 : Addr) : entryFrame m #[(.ref x0), (.ref x1), .null, .null] 4 = mkF m 0 #[.val (.ref x0), .val (.ref x1), .val .null, .val .null] [] := by first | (simp [entryFrame, mkF, argsToLocals, Value.category]; done) | rfl
def QC3N (Z : State) (e1 : Addr) (t1 : Addr) (tr : Addr) (em : Addr) (h0 : Heap) (n0 : Nat) (v : Option Value) (h : Heap) (L : List Loc) : Prop := v = none ∧ Fr n0 L ∧ Keep h0 h [e1] ∧ Fld Z h e1 "com/example/permits_from_duties/permitsfromduties/Event" "user" "Ljava/lang/String;" .null ∧ Fld Z h e1 "com/example/permits_from_duties/permitsfromduties/Event" "transition" "Lcom/example/permits_from_duties/permitsfromduties/Event$Transition;" (.ref tr)
set_option maxRecDepth 65536 in
set_option maxHeartbeats 40000000 in
theorem rmC3N (l : Launch) (Z : State) (a0 : Array Value) (hw : ∀ d ∈ tables_1, d.before a0 Z = true) (ws : List Jvm.Cond) (e1 : Addr) (t1 : Addr) (tr : Addr) (em : Addr) (h0 : Heap) (n0 : Nat) (Z0 : n0 ≤ h0.size) (E1 : Exa Z h0 e1 "com/example/permits_from_duties/permitsfromduties/Event") (F_task : Fld Z h0 e1 "com/example/permits_from_duties/permitsfromduties/Event" "task" "Ljava/lang/String;" .null) (F_user : Fld Z h0 e1 "com/example/permits_from_duties/permitsfromduties/Event" "user" "Ljava/lang/String;" .null) (F_time : Fld Z h0 e1 "com/example/permits_from_duties/permitsfromduties/Event" "time" "Ljava/time/Instant;" .null) (F_transition : Fld Z h0 e1 "com/example/permits_from_duties/permitsfromduties/Event" "transition" "Lcom/example/permits_from_duties/permitsfromduties/Event$Transition;" .null) (F_location : Fld Z h0 e1 "com/example/permits_from_duties/permitsfromduties/Event" "location" "Ljava/lang/String;" .null) (F_data : Fld Z h0 e1 "com/example/permits_from_duties/permitsfromduties/Event" "data" "Ljava/util/Map;" .null) (g1 : n0 ≤ e1) (O0 : Old Z n0 h0) (S_EM : Sta Z Z.heap "java/util/ImmutableCollections" "EMPTY_MAP" "Ljava/util/ImmutableCollections$MapN;" (.ref em)) (S_UNKNOWN : Sta Z Z.heap "com/example/permits_from_duties/permitsfromduties/Event$Transition" "UNKNOWN" "Lcom/example/permits_from_duties/permitsfromduties/Event$Transition;" (.ref tr)) :
    MetFree l (⟨"com/example/permits_from_duties/permitsfromduties/Event", "<init>", "(Ljava/lang/String;Ljava/lang/String;Ljava/time/Instant;)V"⟩ : MethodName) (head1 (Jvm.Cond.code (⟨"com/example/permits_from_duties/permitsfromduties/Event", "<init>", "(Ljava/lang/String;Ljava/lang/String;Ljava/time/Instant;)V"⟩ : MethodName) prog_27_method_3_code 4 none :: ws) ({ frames := 4, cells := 4, slots := 64, locals := 58 } : Room)) (fun a U => a = #[(.ref e1), (.ref t1), .null, .null] ∧ Z.Warmed39 U.vm ∧ U.heap = h0) (fun _ _ _ _ _ => True) (fun _ U o U' => ∃ v L, o = .returned v ∧ QC3N Z e1 t1 tr em h0 n0 v U'.heap L ∧ ReturnedEndW U o U' L ({ frames := 4, cells := 4, slots := 64, locals := 58 } : Room).cells ({ frames := 4, cells := 4, slots := 64, locals := 58 } : Room).slots) := by
  refine MetFree.of_bodySF (plainFor_of_name pn_com_example_permits_from_duties_permitsfromduties_Event) hisR ?_
  intro p e s m args below meth c s₁ Bd hml0 hP hK
  obtain ⟨rfl, hZ, hh⟩ := hP
  have hx := Bd.exec
  have hby := Bd.bytes
  have hlk : meth.locks = false := Bd.notSynchronized
  have hml : c.maxLocals = 4 := hml0
  have hown : s.vm.findClass "com/example/permits_from_duties/permitsfromduties/Event" = some m.cls := findClass_of_methodNamed Bd.named
  have hnm := (name_of_methodNamed Bd.named Bd.method).1
  have X0 : Stand p l e ({ frames := 4, cells := 4, slots := 64, locals := 58 } : Room) (s.setVm s.vm) m #[(.ref e1), (.ref t1), .null, .null] below meth c s₁ [] 0 0 := Stand.of_body Bd
  replace hZ : Z.Warmed39 (s.setVm s.vm).vm := hZ
  replace hown : (s.setVm s.vm).vm.findClass "com/example/permits_from_duties/permitsfromduties/Event" = some m.cls := hown
  have hS0 : s.Since s.vm 0 := (State.WarmedH.refl s).since 0
  have hk0 : 0 ≤ h0.size := Nat.zero_le _
  have e0 : s₁.heap = h0 := by rw [← hh, Bd.state]; rfl
  have N0 := Fr.nil n0
  show Go p e below (FinW s below (QC3N Z e1 t1 tr em h0 n0) ({ frames := 4, cells := 4, slots := 64, locals := 58 } : Room).cells ({ frames := 4, cells := 4, slots := 64, locals := 58 } : Room).slots) (s₁.setTop (entryFrame m #[(.ref e1), (.ref t1), .null, .null] 4))
  refine Go.via (fun t k => castTop (ef_rmC3N m e1 t1) k) ?_
  show Go p e below _ (s₁.setTop (mkF m 0 #[.val (.ref e1), .val (.ref t1), .val .null, .val .null] []))
  refine Go.via (fun _ => XS.aloadN X0.here hx rfl (hb hby d21_0) rfl rfl) ?_
  show Go p e below _ (s₁.setTop (mkF m 1 #[.val (.ref e1), .val (.ref t1), .val .null, .val .null] [(.ref e1)]))
  refine Go.via (fun _ => XS.aloadN X0.here hx rfl (hb hby d21_1) rfl rfl) ?_
  show Go p e below _ (s₁.setTop (mkF m 2 #[.val (.ref e1), .val (.ref t1), .val .null, .val .null] [(.ref t1), (.ref e1)]))
  refine Go.via (fun _ => XS.aloadN X0.here hx rfl (hb hby d21_2) rfl rfl) ?_
  show Go p e below _ (s₁.setTop (mkF m 3 #[.val (.ref e1), .val (.ref t1), .val .null, .val .null] [.null, (.ref t1), (.ref e1)]))
  refine Go.via (fun _ => XS.aloadN X0.here hx rfl (hb hby d21_3) rfl rfl) ?_
  show Go p e below _ (s₁.setTop (mkF m 4 #[.val (.ref e1), .val (.ref t1), .val .null, .val .null] [.null, .null, (.ref t1), (.ref e1)]))
  obtain ⟨T101, X101, e101, st101⟩ := getS2 X0 hx hZ hown (host := "") (Or.inl (hw _ (List.mem_of_getElem? (i := 135) rfl))) Via.refl e0 (S_UNKNOWN.ext O0.2) (g := (mkF m 4 #[.val (.ref e1), .val (.ref t1), .val .null, .val .null] [.null, .null, (.ref t1), (.ref e1)])) rfl (hb hby d21_4)
  refine Go.via st101 ?_
  show Go p e below _ (T101.setTop (mkF m 7 #[.val (.ref e1), .val (.ref t1), .val .null, .val .null] [(.ref tr), .null, .null, (.ref t1), (.ref e1)]))
  obtain ⟨_, _, ⟨T102, L102, k102, n102⟩, -, X102, S102w, gr102, ⟨Lc102, hQ102, l102, y102, z102⟩, st102⟩ := X101.specialBackS hx (y := (⟨"com/example/permits_from_duties/permitsfromduties/Event", "<init>", "(Ljava/lang/String;Ljava/lang/String;Ljava/time/Instant;Lcom/example/permits_from_duties/permitsfromduties/Event$Transition;)V"⟩ : MethodName)) rfl hown (mvT hZ (hw _ (List.mem_of_getElem? (i := 136) rfl))) (mvT hZ (hw _ (List.mem_of_getElem? (i := 39) rfl))) (mvT hZ (hw _ (List.mem_of_getElem? (i := 40) rfl))) (by decide) (backOfS (W := 0) (rmC4N l Z a0 hw [] e1 t1 tr em h0 n0 Z0 E1 F_task F_user F_time F_transition F_location F_data g1 O0 S_EM) hZ (hw _ (List.mem_of_getElem? (i := 40) rfl)) (hw _ (List.mem_of_getElem? (i := 30) rfl)) (by decide) (by decide)) (g := (mkF m 7 #[.val (.ref e1), .val (.ref t1), .val .null, .val .null] [(.ref tr), .null, .null, (.ref t1), (.ref e1)])) rfl (by rw [hml]; rfl) (Steps.refl _) (a := e1) (argsL := [(.ref t1), .null, .null, (.ref tr)]) (rest := []) (lenOf pd_4 rfl) rfl (by show 2 * 0 + _ ≤ _; exact Nat.le_of_eq rfl) (hb hby d21_7) (fun _ _ => ⟨rfl, e101, (by decide : 0 + 4 ≤ _), (by decide : 0 + 64 ≤ _)⟩)
  dsimp only [Pt.U, Pt.locs, Pt.cells, Pt.slots] at X102 l102 y102 z102 st102 hQ102 S102w gr102
  rw [l102, y102, z102] at X102
  replace X102 : Stand p l e _ _ m _ below meth c T102 _ 4 64 := X102
  obtain ⟨rfl, N102q, K102q, fu102, ft102⟩ := hQ102
  have N102 := Fr.app N0 N102q
  refine Go.tr st102 ?_
  obtain ⟨X102r, hS102, hZ102, hown102⟩ := rebS hS0 (by rw [e101]; exact hk0) X102 S102w gr102 hZ hown
  have Zs102 : n0 ≤ T102.heap.size := Nat.le_trans Z0 K102q.1
  have O102 : Old Z n0 T102.heap := O0.keep K102q (allS g1 all0)
  have K102 : Keep h0 T102.heap [e1] := (Keep.refl h0 [e1]).trans K102q (allS (Or.inl (List.mem_of_getElem? (i := 0) rfl)) all0)
  have fE_e1_102 := E1.keep K102q
  show Go p e below _ (T102.setTop (mkF m 10 #[.val (.ref e1), .val (.ref t1), .val .null, .val .null] []))
  exact own_retVW X102r hS102 (Nat.le_refl _) hx hlk Bd.returns (hb hby d21_10) (by show QC3N Z e1 t1 tr em h0 n0 _ T102.heap _; exact ⟨rfl, N102, K102, fu102, ft102⟩) (by decide) (by decide)
theorem ef_rmC2N (m : MethodId) (x0 : Addr) (x1 : Addr) : entryFrame m #[(.ref x0), (.ref x1), .null] 3 = mkF m 0 #[.val (.ref x0), .val (.ref x1), .val .null] [] := by first | (simp [entryFrame, mkF, argsToLocals, Value.category]; done) | rfl
def QC2N (Z : State) (e1 : Addr) (t1 : Addr) (tr : Addr) (em : Addr) (h0 : Heap) (n0 : Nat) (v : Option Value) (h : Heap) (L : List Loc) : Prop := v = none ∧ Fr n0 L ∧ Keep h0 h [e1] ∧ Fld Z h e1 "com/example/permits_from_duties/permitsfromduties/Event" "user" "Ljava/lang/String;" .null ∧ Fld Z h e1 "com/example/permits_from_duties/permitsfromduties/Event" "transition" "Lcom/example/permits_from_duties/permitsfromduties/Event$Transition;" (.ref tr)
set_option maxRecDepth 65536 in
set_option maxHeartbeats 40000000 in
theorem rmC2N (l : Launch) (Z : State) (a0 : Array Value) (hw : ∀ d ∈ tables_1, d.before a0 Z = true) (ws : List Jvm.Cond) (e1 : Addr) (t1 : Addr) (tr : Addr) (em : Addr) (h0 : Heap) (n0 : Nat) (Z0 : n0 ≤ h0.size) (E1 : Exa Z h0 e1 "com/example/permits_from_duties/permitsfromduties/Event") (F_task : Fld Z h0 e1 "com/example/permits_from_duties/permitsfromduties/Event" "task" "Ljava/lang/String;" .null) (F_user : Fld Z h0 e1 "com/example/permits_from_duties/permitsfromduties/Event" "user" "Ljava/lang/String;" .null) (F_time : Fld Z h0 e1 "com/example/permits_from_duties/permitsfromduties/Event" "time" "Ljava/time/Instant;" .null) (F_transition : Fld Z h0 e1 "com/example/permits_from_duties/permitsfromduties/Event" "transition" "Lcom/example/permits_from_duties/permitsfromduties/Event$Transition;" .null) (F_location : Fld Z h0 e1 "com/example/permits_from_duties/permitsfromduties/Event" "location" "Ljava/lang/String;" .null) (F_data : Fld Z h0 e1 "com/example/permits_from_duties/permitsfromduties/Event" "data" "Ljava/util/Map;" .null) (g1 : n0 ≤ e1) (O0 : Old Z n0 h0) (S_EM : Sta Z Z.heap "java/util/ImmutableCollections" "EMPTY_MAP" "Ljava/util/ImmutableCollections$MapN;" (.ref em)) (S_UNKNOWN : Sta Z Z.heap "com/example/permits_from_duties/permitsfromduties/Event$Transition" "UNKNOWN" "Lcom/example/permits_from_duties/permitsfromduties/Event$Transition;" (.ref tr)) :
    MetFree l (⟨"com/example/permits_from_duties/permitsfromduties/Event", "<init>", "(Ljava/lang/String;Ljava/lang/String;)V"⟩ : MethodName) (head1 (Jvm.Cond.code (⟨"com/example/permits_from_duties/permitsfromduties/Event", "<init>", "(Ljava/lang/String;Ljava/lang/String;)V"⟩ : MethodName) prog_27_method_4_code 3 none :: ws) ({ frames := 5, cells := 4, slots := 64, locals := 73 } : Room)) (fun a U => a = #[(.ref e1), (.ref t1), .null] ∧ Z.Warmed39 U.vm ∧ U.heap = h0) (fun _ _ _ _ _ => True) (fun _ U o U' => ∃ v L, o = .returned v ∧ QC2N Z e1 t1 tr em h0 n0 v U'.heap L ∧ ReturnedEndW U o U' L ({ frames := 5, cells := 4, slots := 64, locals := 73 } : Room).cells ({ frames := 5, cells := 4, slots := 64, locals := 73 } : Room).slots) := by
  refine MetFree.of_bodySF (plainFor_of_name pn_com_example_permits_from_duties_permitsfromduties_Event) hisR ?_
  intro p e s m args below meth c s₁ Bd hml0 hP hK
  obtain ⟨rfl, hZ, hh⟩ := hP
  have hx := Bd.exec
  have hby := Bd.bytes
  have hlk : meth.locks = false := Bd.notSynchronized
  have hml : c.maxLocals = 3 := hml0
  have hown : s.vm.findClass "com/example/permits_from_duties/permitsfromduties/Event" = some m.cls := findClass_of_methodNamed Bd.named
  have hnm := (name_of_methodNamed Bd.named Bd.method).1
  have X0 : Stand p l e ({ frames := 5, cells := 4, slots := 64, locals := 73 } : Room) (s.setVm s.vm) m #[(.ref e1), (.ref t1), .null] below meth c s₁ [] 0 0 := Stand.of_body Bd
  replace hZ : Z.Warmed39 (s.setVm s.vm).vm := hZ
  replace hown : (s.setVm s.vm).vm.findClass "com/example/permits_from_duties/permitsfromduties/Event" = some m.cls := hown
  have hS0 : s.Since s.vm 0 := (State.WarmedH.refl s).since 0
  have hk0 : 0 ≤ h0.size := Nat.zero_le _
  have e0 : s₁.heap = h0 := by rw [← hh, Bd.state]; rfl
  have N0 := Fr.nil n0
  show Go p e below (FinW s below (QC2N Z e1 t1 tr em h0 n0) ({ frames := 5, cells := 4, slots := 64, locals := 73 } : Room).cells ({ frames := 5, cells := 4, slots := 64, locals := 73 } : Room).slots) (s₁.setTop (entryFrame m #[(.ref e1), (.ref t1), .null] 3))
  refine Go.via (fun t k => castTop (ef_rmC2N m e1 t1) k) ?_
  show Go p e below _ (s₁.setTop (mkF m 0 #[.val (.ref e1), .val (.ref t1), .val .null] []))
  refine Go.via (fun _ => XS.aloadN X0.here hx rfl (hb hby d20_0) rfl rfl) ?_
  show Go p e below _ (s₁.setTop (mkF m 1 #[.val (.ref e1), .val (.ref t1), .val .null] [(.ref e1)]))
  refine Go.via (fun _ => XS.aloadN X0.here hx rfl (hb hby d20_1) rfl rfl) ?_
  show Go p e below _ (s₁.setTop (mkF m 2 #[.val (.ref e1), .val (.ref t1), .val .null] [(.ref t1), (.ref e1)]))
  refine Go.via (fun _ => XS.aloadN X0.here hx rfl (hb hby d20_2) rfl rfl) ?_
  show Go p e below _ (s₁.setTop (mkF m 3 #[.val (.ref e1), .val (.ref t1), .val .null] [.null, (.ref t1), (.ref e1)]))
  refine Go.via (fun _ => XS.aconstNull X0.here hx rfl (hb hby d20_3)) ?_
  show Go p e below _ (s₁.setTop (mkF m 4 #[.val (.ref e1), .val (.ref t1), .val .null] [.null, .null, (.ref t1), (.ref e1)]))
  obtain ⟨_, _, ⟨T101, L101, k101, n101⟩, -, X101, S101w, gr101, ⟨Lc101, hQ101, l101, y101, z101⟩, st101⟩ := X0.specialBackS hx (y := (⟨"com/example/permits_from_duties/permitsfromduties/Event", "<init>", "(Ljava/lang/String;Ljava/lang/String;Ljava/time/Instant;)V"⟩ : MethodName)) rfl hown (mvT hZ (hw _ (List.mem_of_getElem? (i := 132) rfl))) (mvT hZ (hw _ (List.mem_of_getElem? (i := 133) rfl))) (mvT hZ (hw _ (List.mem_of_getElem? (i := 134) rfl))) (by decide) (backOfS (W := 0) (rmC3N l Z a0 hw [] e1 t1 tr em h0 n0 Z0 E1 F_task F_user F_time F_transition F_location F_data g1 O0 S_EM S_UNKNOWN) hZ (hw _ (List.mem_of_getElem? (i := 134) rfl)) (hw _ (List.mem_of_getElem? (i := 30) rfl)) (by decide) (by decide)) (g := (mkF m 4 #[.val (.ref e1), .val (.ref t1), .val .null] [.null, .null, (.ref t1), (.ref e1)])) rfl (by rw [hml]; rfl) (Steps.refl _) (a := e1) (argsL := [(.ref t1), .null, .null]) (rest := []) (lenOf pd_5 rfl) rfl (by show 2 * 0 + _ ≤ _; exact Nat.le_of_eq rfl) (hb hby d20_4) (fun _ _ => ⟨rfl, e0, (by decide : 0 + 4 ≤ _), (by decide : 0 + 64 ≤ _)⟩)
  dsimp only [Pt.U, Pt.locs, Pt.cells, Pt.slots] at X101 l101 y101 z101 st101 hQ101 S101w gr101
  rw [l101, y101, z101] at X101
  replace X101 : Stand p l e _ _ m _ below meth c T101 _ 4 64 := X101
  obtain ⟨rfl, N101q, K101q, fu101, ft101⟩ := hQ101
  have N101 := Fr.app N0 N101q
  refine Go.tr st101 ?_
  obtain ⟨X101r, hS101, hZ101, hown101⟩ := rebS hS0 (by rw [e0]; exact hk0) X101 S101w gr101 hZ hown
  have Zs101 : n0 ≤ T101.heap.size := Nat.le_trans Z0 K101q.1
  have O101 : Old Z n0 T101.heap := O0.keep K101q (allS g1 all0)
  have K101 : Keep h0 T101.heap [e1] := (Keep.refl h0 [e1]).trans K101q (allS (Or.inl (List.mem_of_getElem? (i := 0) rfl)) all0)
  have fE_e1_101 := E1.keep K101q
  show Go p e below _ (T101.setTop (mkF m 7 #[.val (.ref e1), .val (.ref t1), .val .null] []))
  exact own_retVW X101r hS101 (Nat.le_refl _) hx hlk Bd.returns (hb hby d20_7) (by show QC2N Z e1 t1 tr em h0 n0 _ T101.heap _; exact ⟨rfl, N101, K101, fu101, ft101⟩) (by decide) (by decide)
theorem ef_rmC6R (m : MethodId) (x0 : Addr) (x1 : Addr) (x2 : Addr) (x4 : Addr) : entryFrame m #[(.ref x0), (.ref x1), (.ref x2), .null, (.ref x4), .null, .null] 7 = mkF m 0 #[.val (.ref x0), .val (.ref x1), .val (.ref x2), .val .null, .val (.ref x4), .val .null, .val .null] [] := by first | (simp [entryFrame, mkF, argsToLocals, Value.category]; done) | rfl
def QC6R (Z : State) (e1 : Addr) (t1 : Addr) (u1 : Addr) (tr : Addr) (em : Addr) (h0 : Heap) (n0 : Nat) (v : Option Value) (h : Heap) (L : List Loc) : Prop := v = none ∧ Fr n0 L ∧ Keep h0 h [e1] ∧ Fld Z h e1 "com/example/permits_from_duties/permitsfromduties/Event" "user" "Ljava/lang/String;" (.ref u1) ∧ Fld Z h e1 "com/example/permits_from_duties/permitsfromduties/Event" "transition" "Lcom/example/permits_from_duties/permitsfromduties/Event$Transition;" (.ref tr)
set_option maxRecDepth 65536 in
set_option maxHeartbeats 40000000 in
theorem rmC6R (l : Launch) (Z : State) (a0 : Array Value) (hw : ∀ d ∈ tables_1, d.before a0 Z = true) (ws : List Jvm.Cond) (e1 : Addr) (t1 : Addr) (u1 : Addr) (tr : Addr) (em : Addr) (h0 : Heap) (n0 : Nat) (Z0 : n0 ≤ h0.size) (E1 : Exa Z h0 e1 "com/example/permits_from_duties/permitsfromduties/Event") (F_task : Fld Z h0 e1 "com/example/permits_from_duties/permitsfromduties/Event" "task" "Ljava/lang/String;" .null) (F_user : Fld Z h0 e1 "com/example/permits_from_duties/permitsfromduties/Event" "user" "Ljava/lang/String;" .null) (F_time : Fld Z h0 e1 "com/example/permits_from_duties/permitsfromduties/Event" "time" "Ljava/time/Instant;" .null) (F_transition : Fld Z h0 e1 "com/example/permits_from_duties/permitsfromduties/Event" "transition" "Lcom/example/permits_from_duties/permitsfromduties/Event$Transition;" .null) (F_location : Fld Z h0 e1 "com/example/permits_from_duties/permitsfromduties/Event" "location" "Ljava/lang/String;" .null) (F_data : Fld Z h0 e1 "com/example/permits_from_duties/permitsfromduties/Event" "data" "Ljava/util/Map;" .null) (g1 : n0 ≤ e1) (O0 : Old Z n0 h0) (S_EM : Sta Z Z.heap "java/util/ImmutableCollections" "EMPTY_MAP" "Ljava/util/ImmutableCollections$MapN;" (.ref em)) :
    MetFree l (⟨"com/example/permits_from_duties/permitsfromduties/Event", "<init>", "(Ljava/lang/String;Ljava/lang/String;Ljava/time/Instant;Lcom/example/permits_from_duties/permitsfromduties/Event$Transition;Ljava/lang/String;Ljava/util/Map;)V"⟩ : MethodName) (head1 (Jvm.Cond.code (⟨"com/example/permits_from_duties/permitsfromduties/Event", "<init>", "(Ljava/lang/String;Ljava/lang/String;Ljava/time/Instant;Lcom/example/permits_from_duties/permitsfromduties/Event$Transition;Ljava/lang/String;Ljava/util/Map;)V"⟩ : MethodName) prog_27_method_1_code 7 none :: ws) ({ frames := 2, cells := 4, slots := 64, locals := 24 } : Room)) (fun a U => a = #[(.ref e1), (.ref t1), (.ref u1), .null, (.ref tr), .null, .null] ∧ Z.Warmed39 U.vm ∧ U.heap = h0) (fun _ _ _ _ _ => True) (fun _ U o U' => ∃ v L, o = .returned v ∧ QC6R Z e1 t1 u1 tr em h0 n0 v U'.heap L ∧ ReturnedEndW U o U' L ({ frames := 2, cells := 4, slots := 64, locals := 24 } : Room).cells ({ frames := 2, cells := 4, slots := 64, locals := 24 } : Room).slots) := by
  refine MetFree.of_bodySF (plainFor_of_name pn_com_example_permits_from_duties_permitsfromduties_Event) hisR ?_
  intro p e s m args below meth c s₁ Bd hml0 hP hK
  obtain ⟨rfl, hZ, hh⟩ := hP
  have hx := Bd.exec
  have hby := Bd.bytes
  have hlk : meth.locks = false := Bd.notSynchronized
  have hml : c.maxLocals = 7 := hml0
  have hown : s.vm.findClass "com/example/permits_from_duties/permitsfromduties/Event" = some m.cls := findClass_of_methodNamed Bd.named
  have hnm := (name_of_methodNamed Bd.named Bd.method).1
  have X0 : Stand p l e ({ frames := 2, cells := 4, slots := 64, locals := 24 } : Room) (s.setVm s.vm) m #[(.ref e1), (.ref t1), (.ref u1), .null, (.ref tr), .null, .null] below meth c s₁ [] 0 0 := Stand.of_body Bd
  replace hZ : Z.Warmed39 (s.setVm s.vm).vm := hZ
  replace hown : (s.setVm s.vm).vm.findClass "com/example/permits_from_duties/permitsfromduties/Event" = some m.cls := hown
  have hS0 : s.Since s.vm 0 := (State.WarmedH.refl s).since 0
  have hk0 : 0 ≤ h0.size := Nat.zero_le _
  have e0 : s₁.heap = h0 := by rw [← hh, Bd.state]; rfl
  have N0 := Fr.nil n0
  show Go p e below (FinW s below (QC6R Z e1 t1 u1 tr em h0 n0) ({ frames := 2, cells := 4, slots := 64, locals := 24 } : Room).cells ({ frames := 2, cells := 4, slots := 64, locals := 24 } : Room).slots) (s₁.setTop (entryFrame m #[(.ref e1), (.ref t1), (.ref u1), .null, (.ref tr), .null, .null] 7))
  refine Go.via (fun t k => castTop (ef_rmC6R m e1 t1 u1 tr) k) ?_
  show Go p e below _ (s₁.setTop (mkF m 0 #[.val (.ref e1), .val (.ref t1), .val (.ref u1), .val .null, .val (.ref tr), .val .null, .val .null] []))
  refine Go.via (fun _ => XS.aloadN X0.here hx rfl (hb hby d8_0) rfl rfl) ?_
  show Go p e below _ (s₁.setTop (mkF m 1 #[.val (.ref e1), .val (.ref t1), .val (.ref u1), .val .null, .val (.ref tr), .val .null, .val .null] [(.ref e1)]))
  obtain ⟨_, _, ⟨T101, L101, k101, n101⟩, -, X101, ⟨Lc101, hQ101, l101, y101, z101⟩, st101⟩ := X0.specialBack hx (y := (⟨"java/lang/Record", "<init>", "()V"⟩ : MethodName)) rfl hown (mvT hZ (hw _ (List.mem_of_getElem? (i := 44) rfl))) (mvT hZ (hw _ (List.mem_of_getElem? (i := 45) rfl))) (mvT hZ (hw _ (List.mem_of_getElem? (i := 48) rfl))) (by decide) (backOf (W := 0) (rmRec l Z a0 hw [] e1 h0 n0 Z0) hZ (hw _ (List.mem_of_getElem? (i := 48) rfl)) (hw _ (List.mem_of_getElem? (i := 47) rfl)) (by decide) (by decide)) (g := (mkF m 1 #[.val (.ref e1), .val (.ref t1), .val (.ref u1), .val .null, .val (.ref tr), .val .null, .val .null] [(.ref e1)])) rfl (by rw [hml]; rfl) (Steps.refl _) (a := e1) (argsL := []) (rest := []) (lenOf pd_0 rfl) rfl (by show 2 * 0 + _ ≤ _; exact Nat.le_of_eq rfl) (hb hby d8_1) (fun _ _ => ⟨rfl, e0, (by decide : 0 + 0 ≤ _), (by decide : 0 + 0 ≤ _)⟩)
  dsimp only [Pt.U, Pt.locs, Pt.cells, Pt.slots] at X101 l101 y101 z101 st101 hQ101
  rw [l101, y101, z101] at X101
  replace X101 : Stand p l e _ _ m _ below meth c T101 _ 0 0 := X101
  obtain ⟨rfl, N101q, e101q⟩ := hQ101
  have N101 := Fr.app N0 N101q
  refine Go.tr st101 ?_
  show Go p e below _ (T101.setTop (mkF m 4 #[.val (.ref e1), .val (.ref t1), .val (.ref u1), .val .null, .val (.ref tr), .val .null, .val .null] []))
  refine Go.via (fun _ => XS.aloadN X101.here hx rfl (hb hby d8_4) rfl rfl) ?_
  show Go p e below _ (T101.setTop (mkF m 5 #[.val (.ref e1), .val (.ref t1), .val (.ref u1), .val .null, .val (.ref tr), .val .null, .val .null] [(.ref t1)]))
  have wS102 : ∀ d ∈ Bundle.stringAtoms, d.before a0 Z = true := fun d hd => hw d (by simpa using (List.all_eq_true.mp (by decide +kernel : (Bundle.stringAtoms.all fun d => tables_1.contains d) = true)) d hd)
  obtain ⟨s102, T102, h102, kk102, X102, e102, E102, hS102, hk102, hZ102, hown102, st102⟩ := ldcS X101 hx hZ hown (hw _ (List.mem_of_getElem? (i := 50) rfl)) wS102 e101q hS0 hk0 (g := (mkF m 5 #[.val (.ref e1), .val (.ref t1), .val (.ref u1), .val .null, .val (.ref tr), .val .null, .val .null] [(.ref t1)])) rfl (hb hby d8_5) (n := 16) (by decide +kernel) (by decide) (by decide) (by decide)
  refine Go.via st102 ?_
  have Zs102 : n0 ≤ h102.size := Nat.le_trans Z0 E102.1
  have O102 : Old Z n0 h102 := O0.ext E102
  have K102 : Keep h0 h102 [e1] := (Keep.refl h0 [e1]).ext E102
  have fE_e1_102 := E1.ext E102
  have fF_e1_task_102 := F_task.ext E102
  have fF_e1_user_102 := F_user.ext E102
  have fF_e1_time_102 := F_time.ext E102
  have fF_e1_transition_102 := F_transition.ext E102
  have fF_e1_location_102 := F_location.ext E102
  have fF_e1_data_102 := F_data.ext E102
  show Go p e below _ (T102.setTop (mkF m 7 #[.val (.ref e1), .val (.ref t1), .val (.ref u1), .val .null, .val (.ref tr), .val .null, .val .null] [(.ref s102), (.ref t1)]))
  obtain ⟨_, _, ⟨T103, L103, k103, n103⟩, -, X103, ⟨Lc103, hQ103, l103, y103, z103⟩, st103⟩ := Jvm.LawKit.callS X102 hx (y := (⟨"java/util/Objects", "requireNonNull", "(Ljava/lang/Object;Ljava/lang/String;)Ljava/lang/Object;"⟩ : MethodName)) hown102 (mvT hZ102 (hw _ (List.mem_of_getElem? (i := 53) rfl))) (mvT hZ102 (hw _ (List.mem_of_getElem? (i := 54) rfl))) (mvT hZ102 (hw _ (List.mem_of_getElem? (i := 55) rfl))) (mvT hZ102 (hw _ (List.mem_of_getElem? (i := 56) rfl))) (by decide) (backOf (W := 0) (rmRnn l Z a0 hw [] t1 s102 h102 n0 Zs102) hZ102 (hw _ (List.mem_of_getElem? (i := 56) rfl)) (hw _ (List.mem_of_getElem? (i := 55) rfl)) (by decide) (by decide)) (g := (mkF m 7 #[.val (.ref e1), .val (.ref t1), .val (.ref u1), .val .null, .val (.ref tr), .val .null, .val .null] [(.ref s102), (.ref t1)])) rfl (by rw [hml]; rfl) (argsL := [(.ref t1), (.ref s102)]) (rest := []) (lenOf pd_1 rfl) rfl (by show 2 * 0 + _ ≤ _; exact Nat.le_of_eq rfl) (hb hby d8_7) (fun _ _ => ⟨rfl, e102, (by decide : 2 + 0 ≤ _), (by decide : 20 + 0 ≤ _)⟩)
  dsimp only [Pt.U, Pt.locs, Pt.cells, Pt.slots] at X103 l103 y103 z103 st103 hQ103
  rw [l103, y103, z103] at X103
  replace X103 : Stand p l e _ _ m _ below meth c T103 _ 2 20 := X103
  obtain ⟨rfl, N103q, e103q⟩ := hQ103
  have N103 := Fr.app N101 N103q
  refine Go.via st103 ?_
  show Go p e below _ (T103.setTop (mkF m 10 #[.val (.ref e1), .val (.ref t1), .val (.ref u1), .val .null, .val (.ref tr), .val .null, .val .null] [(.ref t1)]))
  refine Go.via (fun _ => XS.pop X103.here hx rfl (hb hby d8_10) rfl rfl) ?_
  show Go p e below _ (T103.setTop (mkF m 11 #[.val (.ref e1), .val (.ref t1), .val (.ref u1), .val .null, .val (.ref tr), .val .null, .val .null] []))
  refine Go.via (fun _ => XS.aload X103.here hx rfl (hb hby d8_11) rfl rfl) ?_
  show Go p e below _ (T103.setTop (mkF m 13 #[.val (.ref e1), .val (.ref t1), .val (.ref u1), .val .null, .val (.ref tr), .val .null, .val .null] [(.ref tr)]))
  have wS104 : ∀ d ∈ Bundle.stringAtoms, d.before a0 Z = true := fun d hd => hw d (by simpa using (List.all_eq_true.mp (by decide +kernel : (Bundle.stringAtoms.all fun d => tables_1.contains d) = true)) d hd)
  obtain ⟨s104, T104, h104, kk104, X104, e104, E104, hS104, hk104, hZ104, hown104, st104⟩ := ldcS X103 hx hZ102 hown102 (hw _ (List.mem_of_getElem? (i := 57) rfl)) wS104 e103q hS102 hk102 (g := (mkF m 13 #[.val (.ref e1), .val (.ref t1), .val (.ref u1), .val .null, .val (.ref tr), .val .null, .val .null] [(.ref tr)])) rfl (hb hby d8_13) (n := 40) (by decide +kernel) (by decide) (by decide) (by decide)
  refine Go.via st104 ?_
  have Zs104 : n0 ≤ h104.size := Nat.le_trans Zs102 E104.1
  have O104 : Old Z n0 h104 := O102.ext E104
  have K104 : Keep h0 h104 [e1] := K102.ext E104
  have fE_e1_104 := fE_e1_102.ext E104
  have fF_e1_task_104 := fF_e1_task_102.ext E104
  have fF_e1_user_104 := fF_e1_user_102.ext E104
  have fF_e1_time_104 := fF_e1_time_102.ext E104
  have fF_e1_transition_104 := fF_e1_transition_102.ext E104
  have fF_e1_location_104 := fF_e1_location_102.ext E104
  have fF_e1_data_104 := fF_e1_data_102.ext E104
  show Go p e below _ (T104.setTop (mkF m 15 #[.val (.ref e1), .val (.ref t1), .val (.ref u1), .val .null, .val (.ref tr), .val .null, .val .null] [(.ref s104), (.ref tr)]))
  obtain ⟨_, _, ⟨T105, L105, k105, n105⟩, -, X105, ⟨Lc105, hQ105, l105, y105, z105⟩, st105⟩ := Jvm.LawKit.callS X104 hx (y := (⟨"java/util/Objects", "requireNonNull", "(Ljava/lang/Object;Ljava/lang/String;)Ljava/lang/Object;"⟩ : MethodName)) hown104 (mvT hZ104 (hw _ (List.mem_of_getElem? (i := 53) rfl))) (mvT hZ104 (hw _ (List.mem_of_getElem? (i := 54) rfl))) (mvT hZ104 (hw _ (List.mem_of_getElem? (i := 55) rfl))) (mvT hZ104 (hw _ (List.mem_of_getElem? (i := 56) rfl))) (by decide) (backOf (W := 0) (rmRnn l Z a0 hw [] tr s104 h104 n0 Zs104) hZ104 (hw _ (List.mem_of_getElem? (i := 56) rfl)) (hw _ (List.mem_of_getElem? (i := 55) rfl)) (by decide) (by decide)) (g := (mkF m 15 #[.val (.ref e1), .val (.ref t1), .val (.ref u1), .val .null, .val (.ref tr), .val .null, .val .null] [(.ref s104), (.ref tr)])) rfl (by rw [hml]; rfl) (argsL := [(.ref tr), (.ref s104)]) (rest := []) (lenOf pd_1 rfl) rfl (by show 2 * 0 + _ ≤ _; exact Nat.le_of_eq rfl) (hb hby d8_15) (fun _ _ => ⟨rfl, e104, (by decide : 4 + 0 ≤ _), (by decide : 64 + 0 ≤ _)⟩)
  dsimp only [Pt.U, Pt.locs, Pt.cells, Pt.slots] at X105 l105 y105 z105 st105 hQ105
  rw [l105, y105, z105] at X105
  replace X105 : Stand p l e _ _ m _ below meth c T105 _ 4 64 := X105
  obtain ⟨rfl, N105q, e105q⟩ := hQ105
  have N105 := Fr.app N103 N105q
  refine Go.via st105 ?_
  show Go p e below _ (T105.setTop (mkF m 18 #[.val (.ref e1), .val (.ref t1), .val (.ref u1), .val .null, .val (.ref tr), .val .null, .val .null] [(.ref tr)]))
  refine Go.via (fun _ => XS.pop X105.here hx rfl (hb hby d8_18) rfl rfl) ?_
  show Go p e below _ (T105.setTop (mkF m 19 #[.val (.ref e1), .val (.ref t1), .val (.ref u1), .val .null, .val (.ref tr), .val .null, .val .null] []))
  refine Go.via (fun _ => XS.aload X105.here hx rfl (hb hby d8_19) rfl rfl) ?_
  show Go p e below _ (T105.setTop (mkF m 21 #[.val (.ref e1), .val (.ref t1), .val (.ref u1), .val .null, .val (.ref tr), .val .null, .val .null] [.null]))
  refine Go.via (fun _ => XS.ifnonnullNo X105.here hx rfl (hb hby d8_21) rfl) ?_
  show Go p e below _ (T105.setTop (mkF m 24 #[.val (.ref e1), .val (.ref t1), .val (.ref u1), .val .null, .val (.ref tr), .val .null, .val .null] []))
  obtain ⟨_, _, ⟨T106, L106, k106, n106⟩, -, X106, ⟨Lc106, hQ106, l106, y106, z106⟩, st106⟩ := Jvm.LawKit.callS X105 hx (y := (⟨"java/util/Map", "of", "()Ljava/util/Map;"⟩ : MethodName)) hown104 (mvT hZ104 (hw _ (List.mem_of_getElem? (i := 58) rfl))) (mvT hZ104 (hw _ (List.mem_of_getElem? (i := 59) rfl))) (mvT hZ104 (hw _ (List.mem_of_getElem? (i := 60) rfl))) (mvT hZ104 (hw _ (List.mem_of_getElem? (i := 61) rfl))) (by decide) (backOf (W := 0) (rmOf l Z a0 hw [] em h104 n0 Zs104 O104 S_EM) hZ104 (hw _ (List.mem_of_getElem? (i := 61) rfl)) (hw _ (List.mem_of_getElem? (i := 60) rfl)) (by decide) (by decide)) (g := (mkF m 24 #[.val (.ref e1), .val (.ref t1), .val (.ref u1), .val .null, .val (.ref tr), .val .null, .val .null] [])) rfl (by rw [hml]; rfl) (argsL := []) (rest := []) (lenOf pd_2 rfl) rfl (by show 2 * 0 + _ ≤ _; exact Nat.le_of_eq rfl) (hb hby d8_24) (fun _ _ => ⟨rfl, e105q, (by decide : 4 + 0 ≤ _), (by decide : 64 + 0 ≤ _)⟩)
  dsimp only [Pt.U, Pt.locs, Pt.cells, Pt.slots] at X106 l106 y106 z106 st106 hQ106
  rw [l106, y106, z106] at X106
  replace X106 : Stand p l e _ _ m _ below meth c T106 _ 4 64 := X106
  obtain ⟨rfl, N106q, e106q⟩ := hQ106
  have N106 := Fr.app N105 N106q
  refine Go.via st106 ?_
  show Go p e below _ (T106.setTop (mkF m 27 #[.val (.ref e1), .val (.ref t1), .val (.ref u1), .val .null, .val (.ref tr), .val .null, .val .null] [(.ref em)]))
  refine Go.via (fun _ => XS.goto X106.here hx rfl (pc0 := 27) (pc' := 35) rfl (hb hby d8_27) (by decide) (by decide)) ?_
  show Go p e below _ (T106.setTop (mkF m 35 #[.val (.ref e1), .val (.ref t1), .val (.ref u1), .val .null, .val (.ref tr), .val .null, .val .null] [(.ref em)]))
  refine Go.via (fun _ => XS.astore X106.here hx rfl (hb hby d8_35) rfl rfl (l' := #[.val (.ref e1), .val (.ref t1), .val (.ref u1), .val .null, .val (.ref tr), .val .null, .val (.ref em)]) rfl) ?_
  show Go p e below _ (T106.setTop (mkF m 37 #[.val (.ref e1), .val (.ref t1), .val (.ref u1), .val .null, .val (.ref tr), .val .null, .val (.ref em)] []))
  refine Go.via (fun _ => XS.aloadN X106.here hx rfl (hb hby d8_37) rfl rfl) ?_
  show Go p e below _ (T106.setTop (mkF m 38 #[.val (.ref e1), .val (.ref t1), .val (.ref u1), .val .null, .val (.ref tr), .val .null, .val (.ref em)] [(.ref e1)]))
  refine Go.via (fun _ => XS.aloadN X106.here hx rfl (hb hby d8_38) rfl rfl) ?_
  show Go p e below _ (T106.setTop (mkF m 39 #[.val (.ref e1), .val (.ref t1), .val (.ref u1), .val .null, .val (.ref tr), .val .null, .val (.ref em)] [(.ref t1), (.ref e1)]))
  obtain ⟨T107, h107, X107, e107, W107, st107⟩ := putF X106 hx hZ104 hown104 (host := "") (Or.inl (hw _ (List.mem_of_getElem? (i := 64) rfl))) Via.refl e106q fF_e1_task_104 fE_e1_104 (Or.inr ⟨(hw _ (List.mem_of_getElem? (i := 65) rfl)), rfl, hnm⟩) (hw _ (List.mem_of_getElem? (i := 29) rfl)) (ty := (.object "java/lang/String")) (by decide) rfl rfl (g := (mkF m 39 #[.val (.ref e1), .val (.ref t1), .val (.ref u1), .val .null, .val (.ref tr), .val .null, .val (.ref em)] [(.ref t1), (.ref e1)])) rfl rfl (hb hby d8_39)
  refine Go.via st107 ?_
  have fF_e1_task_107 : Fld Z h107 e1 "com/example/permits_from_duties/permitsfromduties/Event" "task" "Ljava/lang/String;" (.ref t1) := fF_e1_task_104.same W107
  have Zs107 : n0 ≤ h107.size := Nat.le_trans Zs104 (Keep.of_wr W107).1
  have hk107 : kk104 ≤ h107.size := Nat.le_trans hk104 (Keep.of_wr W107).1
  have O107 : Old Z n0 h107 := O104.wr W107 g1
  have K107 : Keep h0 h107 [e1] := K104.wr W107 (Or.inl (List.mem_of_getElem? (i := 0) rfl))
  have N107 := Fr.snoc X107 N106 g1
  have fE_e1_107 := fE_e1_104.wr W107
  have fF_e1_user_107 := fF_e1_user_104.other W107 (Or.inr (slot_ne (Or.inr (hw _ (List.mem_of_getElem? (i := 67) rfl))) (Or.inr (hw _ (List.mem_of_getElem? (i := 65) rfl))) (by decide) (t := (.object "java/lang/String")) (t' := (.object "java/lang/String")) (by decide) (by decide)))
  have fF_e1_time_107 := fF_e1_time_104.other W107 (Or.inr (slot_ne (Or.inr (hw _ (List.mem_of_getElem? (i := 69) rfl))) (Or.inr (hw _ (List.mem_of_getElem? (i := 65) rfl))) (by decide) (t := (.object "java/time/Instant")) (t' := (.object "java/lang/String")) (by decide) (by decide)))
  have fF_e1_transition_107 := fF_e1_transition_104.other W107 (Or.inr (slot_ne (Or.inr (hw _ (List.mem_of_getElem? (i := 71) rfl))) (Or.inr (hw _ (List.mem_of_getElem? (i := 65) rfl))) (by decide) (t := (.object "com/example/permits_from_duties/permitsfromduties/Event$Transition")) (t' := (.object "java/lang/String")) (by decide) (by decide)))
  have fF_e1_location_107 := fF_e1_location_104.other W107 (Or.inr (slot_ne (Or.inr (hw _ (List.mem_of_getElem? (i := 73) rfl))) (Or.inr (hw _ (List.mem_of_getElem? (i := 65) rfl))) (by decide) (t := (.object "java/lang/String")) (t' := (.object "java/lang/String")) (by decide) (by decide)))
  have fF_e1_data_107 := fF_e1_data_104.other W107 (Or.inr (slot_ne (Or.inr (hw _ (List.mem_of_getElem? (i := 75) rfl))) (Or.inr (hw _ (List.mem_of_getElem? (i := 65) rfl))) (by decide) (t := (.object "java/util/Map")) (t' := (.object "java/lang/String")) (by decide) (by decide)))
  show Go p e below _ (T107.setTop (mkF m 42 #[.val (.ref e1), .val (.ref t1), .val (.ref u1), .val .null, .val (.ref tr), .val .null, .val (.ref em)] []))
  refine Go.via (fun _ => XS.aloadN X107.here hx rfl (hb hby d8_42) rfl rfl) ?_
  show Go p e below _ (T107.setTop (mkF m 43 #[.val (.ref e1), .val (.ref t1), .val (.ref u1), .val .null, .val (.ref tr), .val .null, .val (.ref em)] [(.ref e1)]))
  refine Go.via (fun _ => XS.aloadN X107.here hx rfl (hb hby d8_43) rfl rfl) ?_
  show Go p e below _ (T107.setTop (mkF m 44 #[.val (.ref e1), .val (.ref t1), .val (.ref u1), .val .null, .val (.ref tr), .val .null, .val (.ref em)] [(.ref u1), (.ref e1)]))
  obtain ⟨T108, h108, X108, e108, W108, st108⟩ := putF X107 hx hZ104 hown104 (host := "") (Or.inl (hw _ (List.mem_of_getElem? (i := 66) rfl))) Via.refl e107 fF_e1_user_107 fE_e1_107 (Or.inr ⟨(hw _ (List.mem_of_getElem? (i := 67) rfl)), rfl, hnm⟩) (hw _ (List.mem_of_getElem? (i := 29) rfl)) (ty := (.object "java/lang/String")) (by decide) rfl rfl (g := (mkF m 44 #[.val (.ref e1), .val (.ref t1), .val (.ref u1), .val .null, .val (.ref tr), .val .null, .val (.ref em)] [(.ref u1), (.ref e1)])) rfl rfl (hb hby d8_44)
  refine Go.via st108 ?_
  have fF_e1_user_108 : Fld Z h108 e1 "com/example/permits_from_duties/permitsfromduties/Event" "user" "Ljava/lang/String;" (.ref u1) := fF_e1_user_107.same W108
  have Zs108 : n0 ≤ h108.size := Nat.le_trans Zs107 (Keep.of_wr W108).1
  have hk108 : kk104 ≤ h108.size := Nat.le_trans hk107 (Keep.of_wr W108).1
  have O108 : Old Z n0 h108 := O107.wr W108 g1
  have K108 : Keep h0 h108 [e1] := K107.wr W108 (Or.inl (List.mem_of_getElem? (i := 0) rfl))
  have N108 := Fr.snoc X108 N107 g1
  have fE_e1_108 := fE_e1_107.wr W108
  have fF_e1_task_108 := fF_e1_task_107.other W108 (Or.inr (slot_ne (Or.inr (hw _ (List.mem_of_getElem? (i := 65) rfl))) (Or.inr (hw _ (List.mem_of_getElem? (i := 67) rfl))) (by decide) (t := (.object "java/lang/String")) (t' := (.object "java/lang/String")) (by decide) (by decide)))
  have fF_e1_time_108 := fF_e1_time_107.other W108 (Or.inr (slot_ne (Or.inr (hw _ (List.mem_of_getElem? (i := 69) rfl))) (Or.inr (hw _ (List.mem_of_getElem? (i := 67) rfl))) (by decide) (t := (.object "java/time/Instant")) (t' := (.object "java/lang/String")) (by decide) (by decide)))
  have fF_e1_transition_108 := fF_e1_transition_107.other W108 (Or.inr (slot_ne (Or.inr (hw _ (List.mem_of_getElem? (i := 71) rfl))) (Or.inr (hw _ (List.mem_of_getElem? (i := 67) rfl))) (by decide) (t := (.object "com/example/permits_from_duties/permitsfromduties/Event$Transition")) (t' := (.object "java/lang/String")) (by decide) (by decide)))
  have fF_e1_location_108 := fF_e1_location_107.other W108 (Or.inr (slot_ne (Or.inr (hw _ (List.mem_of_getElem? (i := 73) rfl))) (Or.inr (hw _ (List.mem_of_getElem? (i := 67) rfl))) (by decide) (t := (.object "java/lang/String")) (t' := (.object "java/lang/String")) (by decide) (by decide)))
  have fF_e1_data_108 := fF_e1_data_107.other W108 (Or.inr (slot_ne (Or.inr (hw _ (List.mem_of_getElem? (i := 75) rfl))) (Or.inr (hw _ (List.mem_of_getElem? (i := 67) rfl))) (by decide) (t := (.object "java/util/Map")) (t' := (.object "java/lang/String")) (by decide) (by decide)))
  show Go p e below _ (T108.setTop (mkF m 47 #[.val (.ref e1), .val (.ref t1), .val (.ref u1), .val .null, .val (.ref tr), .val .null, .val (.ref em)] []))
  refine Go.via (fun _ => XS.aloadN X108.here hx rfl (hb hby d8_47) rfl rfl) ?_
  show Go p e below _ (T108.setTop (mkF m 48 #[.val (.ref e1), .val (.ref t1), .val (.ref u1), .val .null, .val (.ref tr), .val .null, .val (.ref em)] [(.ref e1)]))
  refine Go.via (fun _ => XS.aloadN X108.here hx rfl (hb hby d8_48) rfl rfl) ?_
  show Go p e below _ (T108.setTop (mkF m 49 #[.val (.ref e1), .val (.ref t1), .val (.ref u1), .val .null, .val (.ref tr), .val .null, .val (.ref em)] [.null, (.ref e1)]))
  obtain ⟨T109, h109, X109, e109, W109, st109⟩ := putF X108 hx hZ104 hown104 (host := "") (Or.inl (hw _ (List.mem_of_getElem? (i := 68) rfl))) Via.refl e108 fF_e1_time_108 fE_e1_108 (Or.inr ⟨(hw _ (List.mem_of_getElem? (i := 69) rfl)), rfl, hnm⟩) (hw _ (List.mem_of_getElem? (i := 29) rfl)) (ty := (.object "java/time/Instant")) (by decide) rfl rfl (g := (mkF m 49 #[.val (.ref e1), .val (.ref t1), .val (.ref u1), .val .null, .val (.ref tr), .val .null, .val (.ref em)] [.null, (.ref e1)])) rfl rfl (hb hby d8_49)
  refine Go.via st109 ?_
  have fF_e1_time_109 : Fld Z h109 e1 "com/example/permits_from_duties/permitsfromduties/Event" "time" "Ljava/time/Instant;" .null := fF_e1_time_108.same W109
  have Zs109 : n0 ≤ h109.size := Nat.le_trans Zs108 (Keep.of_wr W109).1
  have hk109 : kk104 ≤ h109.size := Nat.le_trans hk108 (Keep.of_wr W109).1
  have O109 : Old Z n0 h109 := O108.wr W109 g1
  have K109 : Keep h0 h109 [e1] := K108.wr W109 (Or.inl (List.mem_of_getElem? (i := 0) rfl))
  have N109 := Fr.snoc X109 N108 g1
  have fE_e1_109 := fE_e1_108.wr W109
  have fF_e1_task_109 := fF_e1_task_108.other W109 (Or.inr (slot_ne (Or.inr (hw _ (List.mem_of_getElem? (i := 65) rfl))) (Or.inr (hw _ (List.mem_of_getElem? (i := 69) rfl))) (by decide) (t := (.object "java/lang/String")) (t' := (.object "java/time/Instant")) (by decide) (by decide)))
  have fF_e1_user_109 := fF_e1_user_108.other W109 (Or.inr (slot_ne (Or.inr (hw _ (List.mem_of_getElem? (i := 67) rfl))) (Or.inr (hw _ (List.mem_of_getElem? (i := 69) rfl))) (by decide) (t := (.object "java/lang/String")) (t' := (.object "java/time/Instant")) (by decide) (by decide)))
  have fF_e1_transition_109 := fF_e1_transition_108.other W109 (Or.inr (slot_ne (Or.inr (hw _ (List.mem_of_getElem? (i := 71) rfl))) (Or.inr (hw _ (List.mem_of_getElem? (i := 69) rfl))) (by decide) (t := (.object "com/example/permits_from_duties/permitsfromduties/Event$Transition")) (t' := (.object "java/time/Instant")) (by decide) (by decide)))
  have fF_e1_location_109 := fF_e1_location_108.other W109 (Or.inr (slot_ne (Or.inr (hw _ (List.mem_of_getElem? (i := 73) rfl))) (Or.inr (hw _ (List.mem_of_getElem? (i := 69) rfl))) (by decide) (t := (.object "java/lang/String")) (t' := (.object "java/time/Instant")) (by decide) (by decide)))
  have fF_e1_data_109 := fF_e1_data_108.other W109 (Or.inr (slot_ne (Or.inr (hw _ (List.mem_of_getElem? (i := 75) rfl))) (Or.inr (hw _ (List.mem_of_getElem? (i := 69) rfl))) (by decide) (t := (.object "java/util/Map")) (t' := (.object "java/time/Instant")) (by decide) (by decide)))
  show Go p e below _ (T109.setTop (mkF m 52 #[.val (.ref e1), .val (.ref t1), .val (.ref u1), .val .null, .val (.ref tr), .val .null, .val (.ref em)] []))
  refine Go.via (fun _ => XS.aloadN X109.here hx rfl (hb hby d8_52) rfl rfl) ?_
  show Go p e below _ (T109.setTop (mkF m 53 #[.val (.ref e1), .val (.ref t1), .val (.ref u1), .val .null, .val (.ref tr), .val .null, .val (.ref em)] [(.ref e1)]))
  refine Go.via (fun _ => XS.aload X109.here hx rfl (hb hby d8_53) rfl rfl) ?_
  show Go p e below _ (T109.setTop (mkF m 55 #[.val (.ref e1), .val (.ref t1), .val (.ref u1), .val .null, .val (.ref tr), .val .null, .val (.ref em)] [(.ref tr), (.ref e1)]))
  obtain ⟨T110, h110, X110, e110, W110, st110⟩ := putF X109 hx hZ104 hown104 (host := "") (Or.inl (hw _ (List.mem_of_getElem? (i := 70) rfl))) Via.refl e109 fF_e1_transition_109 fE_e1_109 (Or.inr ⟨(hw _ (List.mem_of_getElem? (i := 71) rfl)), rfl, hnm⟩) (hw _ (List.mem_of_getElem? (i := 29) rfl)) (ty := (.object "com/example/permits_from_duties/permitsfromduties/Event$Transition")) (by decide) rfl rfl (g := (mkF m 55 #[.val (.ref e1), .val (.ref t1), .val (.ref u1), .val .null, .val (.ref tr), .val .null, .val (.ref em)] [(.ref tr), (.ref e1)])) rfl rfl (hb hby d8_55)
  refine Go.via st110 ?_
  have fF_e1_transition_110 : Fld Z h110 e1 "com/example/permits_from_duties/permitsfromduties/Event" "transition" "Lcom/example/permits_from_duties/permitsfromduties/Event$Transition;" (.ref tr) := fF_e1_transition_109.same W110
  have Zs110 : n0 ≤ h110.size := Nat.le_trans Zs109 (Keep.of_wr W110).1
  have hk110 : kk104 ≤ h110.size := Nat.le_trans hk109 (Keep.of_wr W110).1
  have O110 : Old Z n0 h110 := O109.wr W110 g1
  have K110 : Keep h0 h110 [e1] := K109.wr W110 (Or.inl (List.mem_of_getElem? (i := 0) rfl))
  have N110 := Fr.snoc X110 N109 g1
  have fE_e1_110 := fE_e1_109.wr W110
  have fF_e1_task_110 := fF_e1_task_109.other W110 (Or.inr (slot_ne (Or.inr (hw _ (List.mem_of_getElem? (i := 65) rfl))) (Or.inr (hw _ (List.mem_of_getElem? (i := 71) rfl))) (by decide) (t := (.object "java/lang/String")) (t' := (.object "com/example/permits_from_duties/permitsfromduties/Event$Transition")) (by decide) (by decide)))
  have fF_e1_user_110 := fF_e1_user_109.other W110 (Or.inr (slot_ne (Or.inr (hw _ (List.mem_of_getElem? (i := 67) rfl))) (Or.inr (hw _ (List.mem_of_getElem? (i := 71) rfl))) (by decide) (t := (.object "java/lang/String")) (t' := (.object "com/example/permits_from_duties/permitsfromduties/Event$Transition")) (by decide) (by decide)))
  have fF_e1_time_110 := fF_e1_time_109.other W110 (Or.inr (slot_ne (Or.inr (hw _ (List.mem_of_getElem? (i := 69) rfl))) (Or.inr (hw _ (List.mem_of_getElem? (i := 71) rfl))) (by decide) (t := (.object "java/time/Instant")) (t' := (.object "com/example/permits_from_duties/permitsfromduties/Event$Transition")) (by decide) (by decide)))
  have fF_e1_location_110 := fF_e1_location_109.other W110 (Or.inr (slot_ne (Or.inr (hw _ (List.mem_of_getElem? (i := 73) rfl))) (Or.inr (hw _ (List.mem_of_getElem? (i := 71) rfl))) (by decide) (t := (.object "java/lang/String")) (t' := (.object "com/example/permits_from_duties/permitsfromduties/Event$Transition")) (by decide) (by decide)))
  have fF_e1_data_110 := fF_e1_data_109.other W110 (Or.inr (slot_ne (Or.inr (hw _ (List.mem_of_getElem? (i := 75) rfl))) (Or.inr (hw _ (List.mem_of_getElem? (i := 71) rfl))) (by decide) (t := (.object "java/util/Map")) (t' := (.object "com/example/permits_from_duties/permitsfromduties/Event$Transition")) (by decide) (by decide)))
  show Go p e below _ (T110.setTop (mkF m 58 #[.val (.ref e1), .val (.ref t1), .val (.ref u1), .val .null, .val (.ref tr), .val .null, .val (.ref em)] []))
  refine Go.via (fun _ => XS.aloadN X110.here hx rfl (hb hby d8_58) rfl rfl) ?_
  show Go p e below _ (T110.setTop (mkF m 59 #[.val (.ref e1), .val (.ref t1), .val (.ref u1), .val .null, .val (.ref tr), .val .null, .val (.ref em)] [(.ref e1)]))
  refine Go.via (fun _ => XS.aload X110.here hx rfl (hb hby d8_59) rfl rfl) ?_
  show Go p e below _ (T110.setTop (mkF m 61 #[.val (.ref e1), .val (.ref t1), .val (.ref u1), .val .null, .val (.ref tr), .val .null, .val (.ref em)] [.null, (.ref e1)]))
  obtain ⟨T111, h111, X111, e111, W111, st111⟩ := putF X110 hx hZ104 hown104 (host := "") (Or.inl (hw _ (List.mem_of_getElem? (i := 72) rfl))) Via.refl e110 fF_e1_location_110 fE_e1_110 (Or.inr ⟨(hw _ (List.mem_of_getElem? (i := 73) rfl)), rfl, hnm⟩) (hw _ (List.mem_of_getElem? (i := 29) rfl)) (ty := (.object "java/lang/String")) (by decide) rfl rfl (g := (mkF m 61 #[.val (.ref e1), .val (.ref t1), .val (.ref u1), .val .null, .val (.ref tr), .val .null, .val (.ref em)] [.null, (.ref e1)])) rfl rfl (hb hby d8_61)
  refine Go.via st111 ?_
  have fF_e1_location_111 : Fld Z h111 e1 "com/example/permits_from_duties/permitsfromduties/Event" "location" "Ljava/lang/String;" .null := fF_e1_location_110.same W111
  have Zs111 : n0 ≤ h111.size := Nat.le_trans Zs110 (Keep.of_wr W111).1
  have hk111 : kk104 ≤ h111.size := Nat.le_trans hk110 (Keep.of_wr W111).1
  have O111 : Old Z n0 h111 := O110.wr W111 g1
  have K111 : Keep h0 h111 [e1] := K110.wr W111 (Or.inl (List.mem_of_getElem? (i := 0) rfl))
  have N111 := Fr.snoc X111 N110 g1
  have fE_e1_111 := fE_e1_110.wr W111
  have fF_e1_task_111 := fF_e1_task_110.other W111 (Or.inr (slot_ne (Or.inr (hw _ (List.mem_of_getElem? (i := 65) rfl))) (Or.inr (hw _ (List.mem_of_getElem? (i := 73) rfl))) (by decide) (t := (.object "java/lang/String")) (t' := (.object "java/lang/String")) (by decide) (by decide)))
  have fF_e1_user_111 := fF_e1_user_110.other W111 (Or.inr (slot_ne (Or.inr (hw _ (List.mem_of_getElem? (i := 67) rfl))) (Or.inr (hw _ (List.mem_of_getElem? (i := 73) rfl))) (by decide) (t := (.object "java/lang/String")) (t' := (.object "java/lang/String")) (by decide) (by decide)))
  have fF_e1_time_111 := fF_e1_time_110.other W111 (Or.inr (slot_ne (Or.inr (hw _ (List.mem_of_getElem? (i := 69) rfl))) (Or.inr (hw _ (List.mem_of_getElem? (i := 73) rfl))) (by decide) (t := (.object "java/time/Instant")) (t' := (.object "java/lang/String")) (by decide) (by decide)))
  have fF_e1_transition_111 := fF_e1_transition_110.other W111 (Or.inr (slot_ne (Or.inr (hw _ (List.mem_of_getElem? (i := 71) rfl))) (Or.inr (hw _ (List.mem_of_getElem? (i := 73) rfl))) (by decide) (t := (.object "com/example/permits_from_duties/permitsfromduties/Event$Transition")) (t' := (.object "java/lang/String")) (by decide) (by decide)))
  have fF_e1_data_111 := fF_e1_data_110.other W111 (Or.inr (slot_ne (Or.inr (hw _ (List.mem_of_getElem? (i := 75) rfl))) (Or.inr (hw _ (List.mem_of_getElem? (i := 73) rfl))) (by decide) (t := (.object "java/util/Map")) (t' := (.object "java/lang/String")) (by decide) (by decide)))
  show Go p e below _ (T111.setTop (mkF m 64 #[.val (.ref e1), .val (.ref t1), .val (.ref u1), .val .null, .val (.ref tr), .val .null, .val (.ref em)] []))
  refine Go.via (fun _ => XS.aloadN X111.here hx rfl (hb hby d8_64) rfl rfl) ?_
  show Go p e below _ (T111.setTop (mkF m 65 #[.val (.ref e1), .val (.ref t1), .val (.ref u1), .val .null, .val (.ref tr), .val .null, .val (.ref em)] [(.ref e1)]))
  refine Go.via (fun _ => XS.aload X111.here hx rfl (hb hby d8_65) rfl rfl) ?_
  show Go p e below _ (T111.setTop (mkF m 67 #[.val (.ref e1), .val (.ref t1), .val (.ref u1), .val .null, .val (.ref tr), .val .null, .val (.ref em)] [(.ref em), (.ref e1)]))
  obtain ⟨T112, h112, X112, e112, W112, st112⟩ := putF X111 hx hZ104 hown104 (host := "") (Or.inl (hw _ (List.mem_of_getElem? (i := 74) rfl))) Via.refl e111 fF_e1_data_111 fE_e1_111 (Or.inr ⟨(hw _ (List.mem_of_getElem? (i := 75) rfl)), rfl, hnm⟩) (hw _ (List.mem_of_getElem? (i := 29) rfl)) (ty := (.object "java/util/Map")) (by decide) rfl rfl (g := (mkF m 67 #[.val (.ref e1), .val (.ref t1), .val (.ref u1), .val .null, .val (.ref tr), .val .null, .val (.ref em)] [(.ref em), (.ref e1)])) rfl rfl (hb hby d8_67)
  refine Go.via st112 ?_
  have fF_e1_data_112 : Fld Z h112 e1 "com/example/permits_from_duties/permitsfromduties/Event" "data" "Ljava/util/Map;" (.ref em) := fF_e1_data_111.same W112
  have Zs112 : n0 ≤ h112.size := Nat.le_trans Zs111 (Keep.of_wr W112).1
  have hk112 : kk104 ≤ h112.size := Nat.le_trans hk111 (Keep.of_wr W112).1
  have O112 : Old Z n0 h112 := O111.wr W112 g1
  have K112 : Keep h0 h112 [e1] := K111.wr W112 (Or.inl (List.mem_of_getElem? (i := 0) rfl))
  have N112 := Fr.snoc X112 N111 g1
  have fE_e1_112 := fE_e1_111.wr W112
  have fF_e1_task_112 := fF_e1_task_111.other W112 (Or.inr (slot_ne (Or.inr (hw _ (List.mem_of_getElem? (i := 65) rfl))) (Or.inr (hw _ (List.mem_of_getElem? (i := 75) rfl))) (by decide) (t := (.object "java/lang/String")) (t' := (.object "java/util/Map")) (by decide) (by decide)))
  have fF_e1_user_112 := fF_e1_user_111.other W112 (Or.inr (slot_ne (Or.inr (hw _ (List.mem_of_getElem? (i := 67) rfl))) (Or.inr (hw _ (List.mem_of_getElem? (i := 75) rfl))) (by decide) (t := (.object "java/lang/String")) (t' := (.object "java/util/Map")) (by decide) (by decide)))
  have fF_e1_time_112 := fF_e1_time_111.other W112 (Or.inr (slot_ne (Or.inr (hw _ (List.mem_of_getElem? (i := 69) rfl))) (Or.inr (hw _ (List.mem_of_getElem? (i := 75) rfl))) (by decide) (t := (.object "java/time/Instant")) (t' := (.object "java/util/Map")) (by decide) (by decide)))
  have fF_e1_transition_112 := fF_e1_transition_111.other W112 (Or.inr (slot_ne (Or.inr (hw _ (List.mem_of_getElem? (i := 71) rfl))) (Or.inr (hw _ (List.mem_of_getElem? (i := 75) rfl))) (by decide) (t := (.object "com/example/permits_from_duties/permitsfromduties/Event$Transition")) (t' := (.object "java/util/Map")) (by decide) (by decide)))
  have fF_e1_location_112 := fF_e1_location_111.other W112 (Or.inr (slot_ne (Or.inr (hw _ (List.mem_of_getElem? (i := 73) rfl))) (Or.inr (hw _ (List.mem_of_getElem? (i := 75) rfl))) (by decide) (t := (.object "java/lang/String")) (t' := (.object "java/util/Map")) (by decide) (by decide)))
  show Go p e below _ (T112.setTop (mkF m 70 #[.val (.ref e1), .val (.ref t1), .val (.ref u1), .val .null, .val (.ref tr), .val .null, .val (.ref em)] []))
  exact own_retVW X112 hS104 (by rw [e112]; exact hk112) hx hlk Bd.returns (hb hby d8_70) (by show QC6R Z e1 t1 u1 tr em h0 n0 _ T112.heap _; rw [e112]; exact ⟨rfl, N112, K112, fF_e1_user_112, fF_e1_transition_112⟩) (by decide) (by decide)
theorem ef_rmC4R (m : MethodId) (x0 : Addr) (x1 : Addr) (x2 : Addr) (x4 : Addr) : entryFrame m #[(.ref x0), (.ref x1), (.ref x2), .null, (.ref x4)] 5 = mkF m 0 #[.val (.ref x0), .val (.ref x1), .val (.ref x2), .val .null, .val (.ref x4)] [] := by first | (simp [entryFrame, mkF, argsToLocals, Value.category]; done) | rfl
def QC4R (Z : State) (e1 : Addr) (t1 : Addr) (u1 : Addr) (tr : Addr) (em : Addr) (h0 : Heap) (n0 : Nat) (v : Option Value) (h : Heap) (L : List Loc) : Prop := v = none ∧ Fr n0 L ∧ Keep h0 h [e1] ∧ Fld Z h e1 "com/example/permits_from_duties/permitsfromduties/Event" "user" "Ljava/lang/String;" (.ref u1) ∧ Fld Z h e1 "com/example/permits_from_duties/permitsfromduties/Event" "transition" "Lcom/example/permits_from_duties/permitsfromduties/Event$Transition;" (.ref tr)
set_option maxRecDepth 65536 in
set_option maxHeartbeats 40000000 in
theorem rmC4R (l : Launch) (Z : State) (a0 : Array Value) (hw : ∀ d ∈ tables_1, d.before a0 Z = true) (ws : List Jvm.Cond) (e1 : Addr) (t1 : Addr) (u1 : Addr) (tr : Addr) (em : Addr) (h0 : Heap) (n0 : Nat) (Z0 : n0 ≤ h0.size) (E1 : Exa Z h0 e1 "com/example/permits_from_duties/permitsfromduties/Event") (F_task : Fld Z h0 e1 "com/example/permits_from_duties/permitsfromduties/Event" "task" "Ljava/lang/String;" .null) (F_user : Fld Z h0 e1 "com/example/permits_from_duties/permitsfromduties/Event" "user" "Ljava/lang/String;" .null) (F_time : Fld Z h0 e1 "com/example/permits_from_duties/permitsfromduties/Event" "time" "Ljava/time/Instant;" .null) (F_transition : Fld Z h0 e1 "com/example/permits_from_duties/permitsfromduties/Event" "transition" "Lcom/example/permits_from_duties/permitsfromduties/Event$Transition;" .null) (F_location : Fld Z h0 e1 "com/example/permits_from_duties/permitsfromduties/Event" "location" "Ljava/lang/String;" .null) (F_data : Fld Z h0 e1 "com/example/permits_from_duties/permitsfromduties/Event" "data" "Ljava/util/Map;" .null) (g1 : n0 ≤ e1) (O0 : Old Z n0 h0) (S_EM : Sta Z Z.heap "java/util/ImmutableCollections" "EMPTY_MAP" "Ljava/util/ImmutableCollections$MapN;" (.ref em)) :
    MetFree l (⟨"com/example/permits_from_duties/permitsfromduties/Event", "<init>", "(Ljava/lang/String;Ljava/lang/String;Ljava/time/Instant;Lcom/example/permits_from_duties/permitsfromduties/Event$Transition;)V"⟩ : MethodName) (head1 (Jvm.Cond.code (⟨"com/example/permits_from_duties/permitsfromduties/Event", "<init>", "(Ljava/lang/String;Ljava/lang/String;Ljava/time/Instant;Lcom/example/permits_from_duties/permitsfromduties/Event$Transition;)V"⟩ : MethodName) prog_27_method_2_code 5 none :: ws) ({ frames := 3, cells := 4, slots := 64, locals := 42 } : Room)) (fun a U => a = #[(.ref e1), (.ref t1), (.ref u1), .null, (.ref tr)] ∧ Z.Warmed39 U.vm ∧ U.heap = h0) (fun _ _ _ _ _ => True) (fun _ U o U' => ∃ v L, o = .returned v ∧ QC4R Z e1 t1 u1 tr em h0 n0 v U'.heap L ∧ ReturnedEndW U o U' L ({ frames := 3, cells := 4, slots := 64, locals := 42 } : Room).cells ({ frames := 3, cells := 4, slots := 64, locals := 42 } : Room).slots) := by
  refine MetFree.of_bodySF (plainFor_of_name pn_com_example_permits_from_duties_permitsfromduties_Event) hisR ?_
  intro p e s m args below meth c s₁ Bd hml0 hP hK
  obtain ⟨rfl, hZ, hh⟩ := hP
  have hx := Bd.exec
  have hby := Bd.bytes
  have hlk : meth.locks = false := Bd.notSynchronized
  have hml : c.maxLocals = 5 := hml0
  have hown : s.vm.findClass "com/example/permits_from_duties/permitsfromduties/Event" = some m.cls := findClass_of_methodNamed Bd.named
  have hnm := (name_of_methodNamed Bd.named Bd.method).1
  have X0 : Stand p l e ({ frames := 3, cells := 4, slots := 64, locals := 42 } : Room) (s.setVm s.vm) m #[(.ref e1), (.ref t1), (.ref u1), .null, (.ref tr)] below meth c s₁ [] 0 0 := Stand.of_body Bd
  replace hZ : Z.Warmed39 (s.setVm s.vm).vm := hZ
  replace hown : (s.setVm s.vm).vm.findClass "com/example/permits_from_duties/permitsfromduties/Event" = some m.cls := hown
  have hS0 : s.Since s.vm 0 := (State.WarmedH.refl s).since 0
  have hk0 : 0 ≤ h0.size := Nat.zero_le _
  have e0 : s₁.heap = h0 := by rw [← hh, Bd.state]; rfl
  have N0 := Fr.nil n0
  show Go p e below (FinW s below (QC4R Z e1 t1 u1 tr em h0 n0) ({ frames := 3, cells := 4, slots := 64, locals := 42 } : Room).cells ({ frames := 3, cells := 4, slots := 64, locals := 42 } : Room).slots) (s₁.setTop (entryFrame m #[(.ref e1), (.ref t1), (.ref u1), .null, (.ref tr)] 5))
  refine Go.via (fun t k => castTop (ef_rmC4R m e1 t1 u1 tr) k) ?_
  show Go p e below _ (s₁.setTop (mkF m 0 #[.val (.ref e1), .val (.ref t1), .val (.ref u1), .val .null, .val (.ref tr)] []))
  refine Go.via (fun _ => XS.aloadN X0.here hx rfl (hb hby d7_0) rfl rfl) ?_
  show Go p e below _ (s₁.setTop (mkF m 1 #[.val (.ref e1), .val (.ref t1), .val (.ref u1), .val .null, .val (.ref tr)] [(.ref e1)]))
  refine Go.via (fun _ => XS.aloadN X0.here hx rfl (hb hby d7_1) rfl rfl) ?_
  show Go p e below _ (s₁.setTop (mkF m 2 #[.val (.ref e1), .val (.ref t1), .val (.ref u1), .val .null, .val (.ref tr)] [(.ref t1), (.ref e1)]))
  refine Go.via (fun _ => XS.aloadN X0.here hx rfl (hb hby d7_2) rfl rfl) ?_
  show Go p e below _ (s₁.setTop (mkF m 3 #[.val (.ref e1), .val (.ref t1), .val (.ref u1), .val .null, .val (.ref tr)] [(.ref u1), (.ref t1), (.ref e1)]))
  refine Go.via (fun _ => XS.aloadN X0.here hx rfl (hb hby d7_3) rfl rfl) ?_
  show Go p e below _ (s₁.setTop (mkF m 4 #[.val (.ref e1), .val (.ref t1), .val (.ref u1), .val .null, .val (.ref tr)] [.null, (.ref u1), (.ref t1), (.ref e1)]))
  refine Go.via (fun _ => XS.aload X0.here hx rfl (hb hby d7_4) rfl rfl) ?_
  show Go p e below _ (s₁.setTop (mkF m 6 #[.val (.ref e1), .val (.ref t1), .val (.ref u1), .val .null, .val (.ref tr)] [(.ref tr), .null, (.ref u1), (.ref t1), (.ref e1)]))
  refine Go.via (fun _ => XS.aconstNull X0.here hx rfl (hb hby d7_6)) ?_
  show Go p e below _ (s₁.setTop (mkF m 7 #[.val (.ref e1), .val (.ref t1), .val (.ref u1), .val .null, .val (.ref tr)] [.null, (.ref tr), .null, (.ref u1), (.ref t1), (.ref e1)]))
  refine Go.via (fun _ => XS.aconstNull X0.here hx rfl (hb hby d7_7)) ?_
  show Go p e below _ (s₁.setTop (mkF m 8 #[.val (.ref e1), .val (.ref t1), .val (.ref u1), .val .null, .val (.ref tr)] [.null, .null, (.ref tr), .null, (.ref u1), (.ref t1), (.ref e1)]))
  obtain ⟨_, _, ⟨T101, L101, k101, n101⟩, -, X101, S101w, gr101, ⟨Lc101, hQ101, l101, y101, z101⟩, st101⟩ := X0.specialBackS hx (y := (⟨"com/example/permits_from_duties/permitsfromduties/Event", "<init>", "(Ljava/lang/String;Ljava/lang/String;Ljava/time/Instant;Lcom/example/permits_from_duties/permitsfromduties/Event$Transition;Ljava/lang/String;Ljava/util/Map;)V"⟩ : MethodName)) rfl hown (mvT hZ (hw _ (List.mem_of_getElem? (i := 41) rfl))) (mvT hZ (hw _ (List.mem_of_getElem? (i := 42) rfl))) (mvT hZ (hw _ (List.mem_of_getElem? (i := 43) rfl))) (by decide) (backOfS (W := 0) (rmC6R l Z a0 hw [] e1 t1 u1 tr em h0 n0 Z0 E1 F_task F_user F_time F_transition F_location F_data g1 O0 S_EM) hZ (hw _ (List.mem_of_getElem? (i := 43) rfl)) (hw _ (List.mem_of_getElem? (i := 30) rfl)) (by decide) (by decide)) (g := (mkF m 8 #[.val (.ref e1), .val (.ref t1), .val (.ref u1), .val .null, .val (.ref tr)] [.null, .null, (.ref tr), .null, (.ref u1), (.ref t1), (.ref e1)])) rfl (by rw [hml]; rfl) (Steps.refl _) (a := e1) (argsL := [(.ref t1), (.ref u1), .null, (.ref tr), .null, .null]) (rest := []) (lenOf pd_3 rfl) rfl (by show 2 * 0 + _ ≤ _; exact Nat.le_of_eq rfl) (hb hby d7_8) (fun _ _ => ⟨rfl, e0, (by decide : 0 + 4 ≤ _), (by decide : 0 + 64 ≤ _)⟩)
  dsimp only [Pt.U, Pt.locs, Pt.cells, Pt.slots] at X101 l101 y101 z101 st101 hQ101 S101w gr101
  rw [l101, y101, z101] at X101
  replace X101 : Stand p l e _ _ m _ below meth c T101 _ 4 64 := X101
  obtain ⟨rfl, N101q, K101q, fu101, ft101⟩ := hQ101
  have N101 := Fr.app N0 N101q
  refine Go.tr st101 ?_
  obtain ⟨X101r, hS101, hZ101, hown101⟩ := rebS hS0 (by rw [e0]; exact hk0) X101 S101w gr101 hZ hown
  have Zs101 : n0 ≤ T101.heap.size := Nat.le_trans Z0 K101q.1
  have O101 : Old Z n0 T101.heap := O0.keep K101q (allS g1 all0)
  have K101 : Keep h0 T101.heap [e1] := (Keep.refl h0 [e1]).trans K101q (allS (Or.inl (List.mem_of_getElem? (i := 0) rfl)) all0)
  have fE_e1_101 := E1.keep K101q
  show Go p e below _ (T101.setTop (mkF m 11 #[.val (.ref e1), .val (.ref t1), .val (.ref u1), .val .null, .val (.ref tr)] []))
  exact own_retVW X101r hS101 (Nat.le_refl _) hx hlk Bd.returns (hb hby d7_11) (by show QC4R Z e1 t1 u1 tr em h0 n0 _ T101.heap _; exact ⟨rfl, N101, K101, fu101, ft101⟩) (by decide) (by decide)
theorem ef_rmC3R (m : MethodId) (x0 : Addr) (x1 : Addr) (x2 : Addr) : entryFrame m #[(.ref x0), (.ref x1), (.ref x2), .null] 4 = mkF m 0 #[.val (.ref x0), .val (.ref x1), .val (.ref x2), .val .null] [] := by first | (simp [entryFrame, mkF, argsToLocals, Value.category]; done) | rfl
def QC3R (Z : State) (e1 : Addr) (t1 : Addr) (u1 : Addr) (tr : Addr) (em : Addr) (h0 : Heap) (n0 : Nat) (v : Option Value) (h : Heap) (L : List Loc) : Prop := v = none ∧ Fr n0 L ∧ Keep h0 h [e1] ∧ Fld Z h e1 "com/example/permits_from_duties/permitsfromduties/Event" "user" "Ljava/lang/String;" (.ref u1) ∧ Fld Z h e1 "com/example/permits_from_duties/permitsfromduties/Event" "transition" "Lcom/example/permits_from_duties/permitsfromduties/Event$Transition;" (.ref tr)
set_option maxRecDepth 65536 in
set_option maxHeartbeats 40000000 in
theorem rmC3R (l : Launch) (Z : State) (a0 : Array Value) (hw : ∀ d ∈ tables_1, d.before a0 Z = true) (ws : List Jvm.Cond) (e1 : Addr) (t1 : Addr) (u1 : Addr) (tr : Addr) (em : Addr) (h0 : Heap) (n0 : Nat) (Z0 : n0 ≤ h0.size) (E1 : Exa Z h0 e1 "com/example/permits_from_duties/permitsfromduties/Event") (F_task : Fld Z h0 e1 "com/example/permits_from_duties/permitsfromduties/Event" "task" "Ljava/lang/String;" .null) (F_user : Fld Z h0 e1 "com/example/permits_from_duties/permitsfromduties/Event" "user" "Ljava/lang/String;" .null) (F_time : Fld Z h0 e1 "com/example/permits_from_duties/permitsfromduties/Event" "time" "Ljava/time/Instant;" .null) (F_transition : Fld Z h0 e1 "com/example/permits_from_duties/permitsfromduties/Event" "transition" "Lcom/example/permits_from_duties/permitsfromduties/Event$Transition;" .null) (F_location : Fld Z h0 e1 "com/example/permits_from_duties/permitsfromduties/Event" "location" "Ljava/lang/String;" .null) (F_data : Fld Z h0 e1 "com/example/permits_from_duties/permitsfromduties/Event" "data" "Ljava/util/Map;" .null) (g1 : n0 ≤ e1) (O0 : Old Z n0 h0) (S_EM : Sta Z Z.heap "java/util/ImmutableCollections" "EMPTY_MAP" "Ljava/util/ImmutableCollections$MapN;" (.ref em)) (S_UNKNOWN : Sta Z Z.heap "com/example/permits_from_duties/permitsfromduties/Event$Transition" "UNKNOWN" "Lcom/example/permits_from_duties/permitsfromduties/Event$Transition;" (.ref tr)) :
    MetFree l (⟨"com/example/permits_from_duties/permitsfromduties/Event", "<init>", "(Ljava/lang/String;Ljava/lang/String;Ljava/time/Instant;)V"⟩ : MethodName) (head1 (Jvm.Cond.code (⟨"com/example/permits_from_duties/permitsfromduties/Event", "<init>", "(Ljava/lang/String;Ljava/lang/String;Ljava/time/Instant;)V"⟩ : MethodName) prog_27_method_3_code 4 none :: ws) ({ frames := 4, cells := 4, slots := 64, locals := 58 } : Room)) (fun a U => a = #[(.ref e1), (.ref t1), (.ref u1), .null] ∧ Z.Warmed39 U.vm ∧ U.heap = h0) (fun _ _ _ _ _ => True) (fun _ U o U' => ∃ v L, o = .returned v ∧ QC3R Z e1 t1 u1 tr em h0 n0 v U'.heap L ∧ ReturnedEndW U o U' L ({ frames := 4, cells := 4, slots := 64, locals := 58 } : Room).cells ({ frames := 4, cells := 4, slots := 64, locals := 58 } : Room).slots) := by
  refine MetFree.of_bodySF (plainFor_of_name pn_com_example_permits_from_duties_permitsfromduties_Event) hisR ?_
  intro p e s m args below meth c s₁ Bd hml0 hP hK
  obtain ⟨rfl, hZ, hh⟩ := hP
  have hx := Bd.exec
  have hby := Bd.bytes
  have hlk : meth.locks = false := Bd.notSynchronized
  have hml : c.maxLocals = 4 := hml0
  have hown : s.vm.findClass "com/example/permits_from_duties/permitsfromduties/Event" = some m.cls := findClass_of_methodNamed Bd.named
  have hnm := (name_of_methodNamed Bd.named Bd.method).1
  have X0 : Stand p l e ({ frames := 4, cells := 4, slots := 64, locals := 58 } : Room) (s.setVm s.vm) m #[(.ref e1), (.ref t1), (.ref u1), .null] below meth c s₁ [] 0 0 := Stand.of_body Bd
  replace hZ : Z.Warmed39 (s.setVm s.vm).vm := hZ
  replace hown : (s.setVm s.vm).vm.findClass "com/example/permits_from_duties/permitsfromduties/Event" = some m.cls := hown
  have hS0 : s.Since s.vm 0 := (State.WarmedH.refl s).since 0
  have hk0 : 0 ≤ h0.size := Nat.zero_le _
  have e0 : s₁.heap = h0 := by rw [← hh, Bd.state]; rfl
  have N0 := Fr.nil n0
  show Go p e below (FinW s below (QC3R Z e1 t1 u1 tr em h0 n0) ({ frames := 4, cells := 4, slots := 64, locals := 58 } : Room).cells ({ frames := 4, cells := 4, slots := 64, locals := 58 } : Room).slots) (s₁.setTop (entryFrame m #[(.ref e1), (.ref t1), (.ref u1), .null] 4))
  refine Go.via (fun t k => castTop (ef_rmC3R m e1 t1 u1) k) ?_
  show Go p e below _ (s₁.setTop (mkF m 0 #[.val (.ref e1), .val (.ref t1), .val (.ref u1), .val .null] []))
  refine Go.via (fun _ => XS.aloadN X0.here hx rfl (hb hby d21_0) rfl rfl) ?_
  show Go p e below _ (s₁.setTop (mkF m 1 #[.val (.ref e1), .val (.ref t1), .val (.ref u1), .val .null] [(.ref e1)]))
  refine Go.via (fun _ => XS.aloadN X0.here hx rfl (hb hby d21_1) rfl rfl) ?_
  show Go p e below _ (s₁.setTop (mkF m 2 #[.val (.ref e1), .val (.ref t1), .val (.ref u1), .val .null] [(.ref t1), (.ref e1)]))
  refine Go.via (fun _ => XS.aloadN X0.here hx rfl (hb hby d21_2) rfl rfl) ?_
  show Go p e below _ (s₁.setTop (mkF m 3 #[.val (.ref e1), .val (.ref t1), .val (.ref u1), .val .null] [(.ref u1), (.ref t1), (.ref e1)]))
  refine Go.via (fun _ => XS.aloadN X0.here hx rfl (hb hby d21_3) rfl rfl) ?_
  show Go p e below _ (s₁.setTop (mkF m 4 #[.val (.ref e1), .val (.ref t1), .val (.ref u1), .val .null] [.null, (.ref u1), (.ref t1), (.ref e1)]))
  obtain ⟨T101, X101, e101, st101⟩ := getS2 X0 hx hZ hown (host := "") (Or.inl (hw _ (List.mem_of_getElem? (i := 135) rfl))) Via.refl e0 (S_UNKNOWN.ext O0.2) (g := (mkF m 4 #[.val (.ref e1), .val (.ref t1), .val (.ref u1), .val .null] [.null, (.ref u1), (.ref t1), (.ref e1)])) rfl (hb hby d21_4)
  refine Go.via st101 ?_
  show Go p e below _ (T101.setTop (mkF m 7 #[.val (.ref e1), .val (.ref t1), .val (.ref u1), .val .null] [(.ref tr), .null, (.ref u1), (.ref t1), (.ref e1)]))
  obtain ⟨_, _, ⟨T102, L102, k102, n102⟩, -, X102, S102w, gr102, ⟨Lc102, hQ102, l102, y102, z102⟩, st102⟩ := X101.specialBackS hx (y := (⟨"com/example/permits_from_duties/permitsfromduties/Event", "<init>", "(Ljava/lang/String;Ljava/lang/String;Ljava/time/Instant;Lcom/example/permits_from_duties/permitsfromduties/Event$Transition;)V"⟩ : MethodName)) rfl hown (mvT hZ (hw _ (List.mem_of_getElem? (i := 136) rfl))) (mvT hZ (hw _ (List.mem_of_getElem? (i := 39) rfl))) (mvT hZ (hw _ (List.mem_of_getElem? (i := 40) rfl))) (by decide) (backOfS (W := 0) (rmC4R l Z a0 hw [] e1 t1 u1 tr em h0 n0 Z0 E1 F_task F_user F_time F_transition F_location F_data g1 O0 S_EM) hZ (hw _ (List.mem_of_getElem? (i := 40) rfl)) (hw _ (List.mem_of_getElem? (i := 30) rfl)) (by decide) (by decide)) (g := (mkF m 7 #[.val (.ref e1), .val (.ref t1), .val (.ref u1), .val .null] [(.ref tr), .null, (.ref u1), (.ref t1), (.ref e1)])) rfl (by rw [hml]; rfl) (Steps.refl _) (a := e1) (argsL := [(.ref t1), (.ref u1), .null, (.ref tr)]) (rest := []) (lenOf pd_4 rfl) rfl (by show 2 * 0 + _ ≤ _; exact Nat.le_of_eq rfl) (hb hby d21_7) (fun _ _ => ⟨rfl, e101, (by decide : 0 + 4 ≤ _), (by decide : 0 + 64 ≤ _)⟩)
  dsimp only [Pt.U, Pt.locs, Pt.cells, Pt.slots] at X102 l102 y102 z102 st102 hQ102 S102w gr102
  rw [l102, y102, z102] at X102
  replace X102 : Stand p l e _ _ m _ below meth c T102 _ 4 64 := X102
  obtain ⟨rfl, N102q, K102q, fu102, ft102⟩ := hQ102
  have N102 := Fr.app N0 N102q
  refine Go.tr st102 ?_
  obtain ⟨X102r, hS102, hZ102, hown102⟩ := rebS hS0 (by rw [e101]; exact hk0) X102 S102w gr102 hZ hown
  have Zs102 : n0 ≤ T102.heap.size := Nat.le_trans Z0 K102q.1
  have O102 : Old Z n0 T102.heap := O0.keep K102q (allS g1 all0)
  have K102 : Keep h0 T102.heap [e1] := (Keep.refl h0 [e1]).trans K102q (allS (Or.inl (List.mem_of_getElem? (i := 0) rfl)) all0)
  have fE_e1_102 := E1.keep K102q
  show Go p e below _ (T102.setTop (mkF m 10 #[.val (.ref e1), .val (.ref t1), .val (.ref u1), .val .null] []))
  exact own_retVW X102r hS102 (Nat.le_refl _) hx hlk Bd.returns (hb hby d21_10) (by show QC3R Z e1 t1 u1 tr em h0 n0 _ T102.heap _; exact ⟨rfl, N102, K102, fu102, ft102⟩) (by decide) (by decide)
theorem ef_rmC2R (m : MethodId) (x0 : Addr) (x1 : Addr) (x2 : Addr) : entryFrame m #[(.ref x0), (.ref x1), (.ref x2)] 3 = mkF m 0 #[.val (.ref x0), .val (.ref x1), .val (.ref x2)] [] := by first | (simp [entryFrame, mkF, argsToLocals, Value.category]; done) | rfl
def QC2R (Z : State) (e1 : Addr) (t1 : Addr) (u1 : Addr) (tr : Addr) (em : Addr) (h0 : Heap) (n0 : Nat) (v : Option Value) (h : Heap) (L : List Loc) : Prop := v = none ∧ Fr n0 L ∧ Keep h0 h [e1] ∧ Fld Z h e1 "com/example/permits_from_duties/permitsfromduties/Event" "user" "Ljava/lang/String;" (.ref u1) ∧ Fld Z h e1 "com/example/permits_from_duties/permitsfromduties/Event" "transition" "Lcom/example/permits_from_duties/permitsfromduties/Event$Transition;" (.ref tr)
set_option maxRecDepth 65536 in
set_option maxHeartbeats 40000000 in
theorem rmC2R (l : Launch) (Z : State) (a0 : Array Value) (hw : ∀ d ∈ tables_1, d.before a0 Z = true) (ws : List Jvm.Cond) (e1 : Addr) (t1 : Addr) (u1 : Addr) (tr : Addr) (em : Addr) (h0 : Heap) (n0 : Nat) (Z0 : n0 ≤ h0.size) (E1 : Exa Z h0 e1 "com/example/permits_from_duties/permitsfromduties/Event") (F_task : Fld Z h0 e1 "com/example/permits_from_duties/permitsfromduties/Event" "task" "Ljava/lang/String;" .null) (F_user : Fld Z h0 e1 "com/example/permits_from_duties/permitsfromduties/Event" "user" "Ljava/lang/String;" .null) (F_time : Fld Z h0 e1 "com/example/permits_from_duties/permitsfromduties/Event" "time" "Ljava/time/Instant;" .null) (F_transition : Fld Z h0 e1 "com/example/permits_from_duties/permitsfromduties/Event" "transition" "Lcom/example/permits_from_duties/permitsfromduties/Event$Transition;" .null) (F_location : Fld Z h0 e1 "com/example/permits_from_duties/permitsfromduties/Event" "location" "Ljava/lang/String;" .null) (F_data : Fld Z h0 e1 "com/example/permits_from_duties/permitsfromduties/Event" "data" "Ljava/util/Map;" .null) (g1 : n0 ≤ e1) (O0 : Old Z n0 h0) (S_EM : Sta Z Z.heap "java/util/ImmutableCollections" "EMPTY_MAP" "Ljava/util/ImmutableCollections$MapN;" (.ref em)) (S_UNKNOWN : Sta Z Z.heap "com/example/permits_from_duties/permitsfromduties/Event$Transition" "UNKNOWN" "Lcom/example/permits_from_duties/permitsfromduties/Event$Transition;" (.ref tr)) :
    MetFree l (⟨"com/example/permits_from_duties/permitsfromduties/Event", "<init>", "(Ljava/lang/String;Ljava/lang/String;)V"⟩ : MethodName) (head1 (Jvm.Cond.code (⟨"com/example/permits_from_duties/permitsfromduties/Event", "<init>", "(Ljava/lang/String;Ljava/lang/String;)V"⟩ : MethodName) prog_27_method_4_code 3 none :: ws) ({ frames := 5, cells := 4, slots := 64, locals := 73 } : Room)) (fun a U => a = #[(.ref e1), (.ref t1), (.ref u1)] ∧ Z.Warmed39 U.vm ∧ U.heap = h0) (fun _ _ _ _ _ => True) (fun _ U o U' => ∃ v L, o = .returned v ∧ QC2R Z e1 t1 u1 tr em h0 n0 v U'.heap L ∧ ReturnedEndW U o U' L ({ frames := 5, cells := 4, slots := 64, locals := 73 } : Room).cells ({ frames := 5, cells := 4, slots := 64, locals := 73 } : Room).slots) := by
  refine MetFree.of_bodySF (plainFor_of_name pn_com_example_permits_from_duties_permitsfromduties_Event) hisR ?_
  intro p e s m args below meth c s₁ Bd hml0 hP hK
  obtain ⟨rfl, hZ, hh⟩ := hP
  have hx := Bd.exec
  have hby := Bd.bytes
  have hlk : meth.locks = false := Bd.notSynchronized
  have hml : c.maxLocals = 3 := hml0
  have hown : s.vm.findClass "com/example/permits_from_duties/permitsfromduties/Event" = some m.cls := findClass_of_methodNamed Bd.named
  have hnm := (name_of_methodNamed Bd.named Bd.method).1
  have X0 : Stand p l e ({ frames := 5, cells := 4, slots := 64, locals := 73 } : Room) (s.setVm s.vm) m #[(.ref e1), (.ref t1), (.ref u1)] below meth c s₁ [] 0 0 := Stand.of_body Bd
  replace hZ : Z.Warmed39 (s.setVm s.vm).vm := hZ
  replace hown : (s.setVm s.vm).vm.findClass "com/example/permits_from_duties/permitsfromduties/Event" = some m.cls := hown
  have hS0 : s.Since s.vm 0 := (State.WarmedH.refl s).since 0
  have hk0 : 0 ≤ h0.size := Nat.zero_le _
  have e0 : s₁.heap = h0 := by rw [← hh, Bd.state]; rfl
  have N0 := Fr.nil n0
  show Go p e below (FinW s below (QC2R Z e1 t1 u1 tr em h0 n0) ({ frames := 5, cells := 4, slots := 64, locals := 73 } : Room).cells ({ frames := 5, cells := 4, slots := 64, locals := 73 } : Room).slots) (s₁.setTop (entryFrame m #[(.ref e1), (.ref t1), (.ref u1)] 3))
  refine Go.via (fun t k => castTop (ef_rmC2R m e1 t1 u1) k) ?_
  show Go p e below _ (s₁.setTop (mkF m 0 #[.val (.ref e1), .val (.ref t1), .val (.ref u1)] []))
  refine Go.via (fun _ => XS.aloadN X0.here hx rfl (hb hby d20_0) rfl rfl) ?_
  show Go p e below _ (s₁.setTop (mkF m 1 #[.val (.ref e1), .val (.ref t1), .val (.ref u1)] [(.ref e1)]))
  refine Go.via (fun _ => XS.aloadN X0.here hx rfl (hb hby d20_1) rfl rfl) ?_
  show Go p e below _ (s₁.setTop (mkF m 2 #[.val (.ref e1), .val (.ref t1), .val (.ref u1)] [(.ref t1), (.ref e1)]))
  refine Go.via (fun _ => XS.aloadN X0.here hx rfl (hb hby d20_2) rfl rfl) ?_
  show Go p e below _ (s₁.setTop (mkF m 3 #[.val (.ref e1), .val (.ref t1), .val (.ref u1)] [(.ref u1), (.ref t1), (.ref e1)]))
  refine Go.via (fun _ => XS.aconstNull X0.here hx rfl (hb hby d20_3)) ?_
  show Go p e below _ (s₁.setTop (mkF m 4 #[.val (.ref e1), .val (.ref t1), .val (.ref u1)] [.null, (.ref u1), (.ref t1), (.ref e1)]))
  obtain ⟨_, _, ⟨T101, L101, k101, n101⟩, -, X101, S101w, gr101, ⟨Lc101, hQ101, l101, y101, z101⟩, st101⟩ := X0.specialBackS hx (y := (⟨"com/example/permits_from_duties/permitsfromduties/Event", "<init>", "(Ljava/lang/String;Ljava/lang/String;Ljava/time/Instant;)V"⟩ : MethodName)) rfl hown (mvT hZ (hw _ (List.mem_of_getElem? (i := 132) rfl))) (mvT hZ (hw _ (List.mem_of_getElem? (i := 133) rfl))) (mvT hZ (hw _ (List.mem_of_getElem? (i := 134) rfl))) (by decide) (backOfS (W := 0) (rmC3R l Z a0 hw [] e1 t1 u1 tr em h0 n0 Z0 E1 F_task F_user F_time F_transition F_location F_data g1 O0 S_EM S_UNKNOWN) hZ (hw _ (List.mem_of_getElem? (i := 134) rfl)) (hw _ (List.mem_of_getElem? (i := 30) rfl)) (by decide) (by decide)) (g := (mkF m 4 #[.val (.ref e1), .val (.ref t1), .val (.ref u1)] [.null, (.ref u1), (.ref t1), (.ref e1)])) rfl (by rw [hml]; rfl) (Steps.refl _) (a := e1) (argsL := [(.ref t1), (.ref u1), .null]) (rest := []) (lenOf pd_5 rfl) rfl (by show 2 * 0 + _ ≤ _; exact Nat.le_of_eq rfl) (hb hby d20_4) (fun _ _ => ⟨rfl, e0, (by decide : 0 + 4 ≤ _), (by decide : 0 + 64 ≤ _)⟩)
  dsimp only [Pt.U, Pt.locs, Pt.cells, Pt.slots] at X101 l101 y101 z101 st101 hQ101 S101w gr101
  rw [l101, y101, z101] at X101
  replace X101 : Stand p l e _ _ m _ below meth c T101 _ 4 64 := X101
  obtain ⟨rfl, N101q, K101q, fu101, ft101⟩ := hQ101
  have N101 := Fr.app N0 N101q
  refine Go.tr st101 ?_
  obtain ⟨X101r, hS101, hZ101, hown101⟩ := rebS hS0 (by rw [e0]; exact hk0) X101 S101w gr101 hZ hown
  have Zs101 : n0 ≤ T101.heap.size := Nat.le_trans Z0 K101q.1
  have O101 : Old Z n0 T101.heap := O0.keep K101q (allS g1 all0)
  have K101 : Keep h0 T101.heap [e1] := (Keep.refl h0 [e1]).trans K101q (allS (Or.inl (List.mem_of_getElem? (i := 0) rfl)) all0)
  have fE_e1_101 := E1.keep K101q
  show Go p e below _ (T101.setTop (mkF m 7 #[.val (.ref e1), .val (.ref t1), .val (.ref u1)] []))
  exact own_retVW X101r hS101 (Nat.le_refl _) hx hlk Bd.returns (hb hby d20_7) (by show QC2R Z e1 t1 u1 tr em h0 n0 _ T101.heap _; exact ⟨rfl, N101, K101, fu101, ft101⟩) (by decide) (by decide)
theorem ef_rmTW_0 (m : MethodId) (x0 : Addr) : entryFrame m #[(.ref x0)] 1 = mkF m 0 #[.val (.ref x0)] [] := by first | (simp [entryFrame, mkF, argsToLocals, Value.category]; done) | rfl
def QTW_0 (Z : State) (tr : Addr) (h0 : Heap) (n0 : Nat) (v : Option Value) (h : Heap) (L : List Loc) : Prop := v = some (.int (0 : Int32)) ∧ Fr n0 L ∧ h = h0
set_option maxRecDepth 65536 in
set_option maxHeartbeats 40000000 in
theorem rmTW_0 (l : Launch) (Z : State) (a0 : Array Value) (hw : ∀ d ∈ tables_1, d.before a0 Z = true) (ws : List Jvm.Cond) (tr : Addr) (h0 : Heap) (n0 : Nat) (Z0 : n0 ≤ h0.size) (F1 : Fld Z h0 tr "com/example/permits_from_duties/permitsfromduties/Event$Transition" "work" "Z" (.int (0 : Int32))) :
    MetFree l (⟨"com/example/permits_from_duties/permitsfromduties/Event$Transition", "recordsWork", "()Z"⟩ : MethodName) (head1 (Jvm.Cond.code (⟨"com/example/permits_from_duties/permitsfromduties/Event$Transition", "recordsWork", "()Z"⟩ : MethodName) prog_28_method_5_code 1 (some .boolean) :: ws) ({ frames := 0, cells := 0, slots := 0, locals := 0 } : Room)) (fun a U => a = #[(.ref tr)] ∧ Z.Warmed39 U.vm ∧ U.heap = h0) (fun _ _ _ _ _ => True) (fun _ U o U' => ∃ v L, o = .returned v ∧ QTW_0 Z tr h0 n0 v U'.heap L ∧ FrameEnd U o U' L ({ frames := 0, cells := 0, slots := 0, locals := 0 } : Room).cells ({ frames := 0, cells := 0, slots := 0, locals := 0 } : Room).slots) := by
  refine MetFree.of_bodySF (plainFor_of_name pn_com_example_permits_from_duties_permitsfromduties_Event_Transition) hisR ?_
  intro p e s m args below meth c s₁ Bd hml0 hP hK
  obtain ⟨rfl, hZ, hh⟩ := hP
  have hx := Bd.exec
  have hby := Bd.bytes
  have hlk : meth.locks = false := Bd.notSynchronized
  have hml : c.maxLocals = 1 := hml0
  have hown : s.vm.findClass "com/example/permits_from_duties/permitsfromduties/Event$Transition" = some m.cls := findClass_of_methodNamed Bd.named
  have hnm := (name_of_methodNamed Bd.named Bd.method).1
  have X0 : Stand p l e ({ frames := 0, cells := 0, slots := 0, locals := 0 } : Room) s m #[(.ref tr)] below meth c s₁ [] 0 0 := Stand.of_body Bd
  have e0 : s₁.heap = h0 := by rw [← hh, Bd.state]; rfl
  have N0 := Fr.nil n0
  show Go p e below (FinE s below (QTW_0 Z tr h0 n0) ({ frames := 0, cells := 0, slots := 0, locals := 0 } : Room).cells ({ frames := 0, cells := 0, slots := 0, locals := 0 } : Room).slots) (s₁.setTop (entryFrame m #[(.ref tr)] 1))
  refine Go.via (fun t k => castTop (ef_rmTW_0 m tr) k) ?_
  show Go p e below _ (s₁.setTop (mkF m 0 #[.val (.ref tr)] []))
  refine Go.via (fun _ => XS.aloadN X0.here hx rfl (hb hby d14_0) rfl rfl) ?_
  show Go p e below _ (s₁.setTop (mkF m 1 #[.val (.ref tr)] [(.ref tr)]))
  obtain ⟨T101, X101, e101, st101⟩ := getF X0 hx hZ hown (host := "") (Or.inl (hw _ (List.mem_of_getElem? (i := 91) rfl))) Via.refl e0 F1 (g := (mkF m 1 #[.val (.ref tr)] [(.ref tr)])) rfl rfl (hb hby d14_1)
  refine Go.via st101 ?_
  show Go p e below _ (T101.setTop (mkF m 4 #[.val (.ref tr)] [(.int (0 : Int32))]))
  exact own_retN X101 hx hlk (t := .boolean) Bd.returns (by simp) (hb hby d14_4) (by show QTW_0 Z tr h0 n0 _ T101.heap _; rw [e101]; exact ⟨rfl, N0, rfl⟩) (by decide) (by decide)
theorem ef_rmEW_0 (m : MethodId) (x0 : Addr) : entryFrame m #[(.ref x0)] 1 = mkF m 0 #[.val (.ref x0)] [] := by first | (simp [entryFrame, mkF, argsToLocals, Value.category]; done) | rfl
def QEW_0 (Z : State) (e1 : Addr) (tr : Addr) (h0 : Heap) (n0 : Nat) (v : Option Value) (h : Heap) (L : List Loc) : Prop := v = some (.int (0 : Int32)) ∧ Fr n0 L ∧ h = h0
set_option maxRecDepth 65536 in
set_option maxHeartbeats 40000000 in
theorem rmEW_0 (l : Launch) (Z : State) (a0 : Array Value) (hw : ∀ d ∈ tables_1, d.before a0 Z = true) (ws : List Jvm.Cond) (e1 : Addr) (tr : Addr) (h0 : Heap) (n0 : Nat) (Z0 : n0 ≤ h0.size) (Ee1 : Exa Z h0 e1 "com/example/permits_from_duties/permitsfromduties/Event") (Ft : Fld Z h0 e1 "com/example/permits_from_duties/permitsfromduties/Event" "transition" "Lcom/example/permits_from_duties/permitsfromduties/Event$Transition;" (.ref tr)) (Et : Exa Z h0 tr "com/example/permits_from_duties/permitsfromduties/Event$Transition") (Fw : Fld Z h0 tr "com/example/permits_from_duties/permitsfromduties/Event$Transition" "work" "Z" (.int (0 : Int32))) :
    MetFree l (⟨"com/example/permits_from_duties/permitsfromduties/Event", "recordsWork", "()Z"⟩ : MethodName) (head1 (Jvm.Cond.code (⟨"com/example/permits_from_duties/permitsfromduties/Event", "recordsWork", "()Z"⟩ : MethodName) prog_27_method_5_code 1 (some .boolean) :: ws) ({ frames := 1, cells := 0, slots := 0, locals := 12 } : Room)) (fun a U => a = #[(.ref e1)] ∧ Z.Warmed39 U.vm ∧ U.heap = h0) (fun _ _ _ _ _ => True) (fun _ U o U' => ∃ v L, o = .returned v ∧ QEW_0 Z e1 tr h0 n0 v U'.heap L ∧ FrameEnd U o U' L ({ frames := 1, cells := 0, slots := 0, locals := 12 } : Room).cells ({ frames := 1, cells := 0, slots := 0, locals := 12 } : Room).slots) := by
  refine MetFree.of_bodySF (plainFor_of_name pn_com_example_permits_from_duties_permitsfromduties_Event) hisR ?_
  intro p e s m args below meth c s₁ Bd hml0 hP hK
  obtain ⟨rfl, hZ, hh⟩ := hP
  have hx := Bd.exec
  have hby := Bd.bytes
  have hlk : meth.locks = false := Bd.notSynchronized
  have hml : c.maxLocals = 1 := hml0
  have hown : s.vm.findClass "com/example/permits_from_duties/permitsfromduties/Event" = some m.cls := findClass_of_methodNamed Bd.named
  have hnm := (name_of_methodNamed Bd.named Bd.method).1
  have X0 : Stand p l e ({ frames := 1, cells := 0, slots := 0, locals := 12 } : Room) s m #[(.ref e1)] below meth c s₁ [] 0 0 := Stand.of_body Bd
  have e0 : s₁.heap = h0 := by rw [← hh, Bd.state]; rfl
  have N0 := Fr.nil n0
  show Go p e below (FinE s below (QEW_0 Z e1 tr h0 n0) ({ frames := 1, cells := 0, slots := 0, locals := 12 } : Room).cells ({ frames := 1, cells := 0, slots := 0, locals := 12 } : Room).slots) (s₁.setTop (entryFrame m #[(.ref e1)] 1))
  refine Go.via (fun t k => castTop (ef_rmEW_0 m e1) k) ?_
  show Go p e below _ (s₁.setTop (mkF m 0 #[.val (.ref e1)] []))
  refine Go.via (fun _ => XS.aloadN X0.here hx rfl (hb hby d13_0) rfl rfl) ?_
  show Go p e below _ (s₁.setTop (mkF m 1 #[.val (.ref e1)] [(.ref e1)]))
  obtain ⟨T101, X101, e101, st101⟩ := getF X0 hx hZ hown (host := "") (Or.inl (hw _ (List.mem_of_getElem? (i := 70) rfl))) Via.refl e0 Ft (g := (mkF m 1 #[.val (.ref e1)] [(.ref e1)])) rfl rfl (hb hby d13_1)
  refine Go.via st101 ?_
  show Go p e below _ (T101.setTop (mkF m 4 #[.val (.ref e1)] [(.ref tr)]))
  obtain ⟨cq102, kq102, q102a, q102b, q102c⟩ := isOf hZ e101 Et
  obtain ⟨_, _, ⟨T102, L102, k102, n102⟩, -, X102, ⟨Lc102, hQ102, l102, y102, z102⟩, st102⟩ := X101.virtualBack hx (y := (⟨"com/example/permits_from_duties/permitsfromduties/Event$Transition", "recordsWork", "()Z"⟩ : MethodName)) (z := (⟨"com/example/permits_from_duties/permitsfromduties/Event$Transition", "recordsWork", "()Z"⟩ : MethodName)) hown (mvT hZ (hw _ (List.mem_of_getElem? (i := 86) rfl))) (mvT hZ (hw _ (List.mem_of_getElem? (i := 87) rfl))) (notFace_of_selects (args := #[]) (mvT hZ (hw _ (List.mem_of_getElem? (i := 89) rfl)))) (mvT hZ (hw _ (List.mem_of_getElem? (i := 89) rfl))) (mvT hZ (hw _ (List.mem_of_getElem? (i := 88) rfl))) (by decide) (backOf (W := 0) (rmTW_0 l Z a0 hw [] tr h0 n0 Z0 Fw) hZ (hw _ (List.mem_of_getElem? (i := 90) rfl)) (hw _ (List.mem_of_getElem? (i := 36) rfl)) (by decide) (by decide)) q102a q102c (g := (mkF m 4 #[.val (.ref e1)] [(.ref tr)])) rfl (by rw [hml]; rfl) (Steps.refl _) (argsL := []) (rest := []) (lenOf pd_6 rfl) rfl (by show 2 * 0 + _ ≤ _; exact Nat.le_of_eq rfl) (hb hby d13_4) (fun _ _ => ⟨rfl, e101, (by decide : 0 + 0 ≤ _), (by decide : 0 + 0 ≤ _)⟩)
  dsimp only [Pt.U, Pt.locs, Pt.cells, Pt.slots] at X102 l102 y102 z102 st102 hQ102
  rw [l102, y102, z102] at X102
  replace X102 : Stand p l e _ _ m _ below meth c T102 _ 0 0 := X102
  obtain ⟨rfl, N102q, e102q⟩ := hQ102
  have N102 := Fr.app N0 N102q
  refine Go.tr st102 ?_
  show Go p e below _ (T102.setTop (mkF m 7 #[.val (.ref e1)] [(.int (0 : Int32))]))
  exact own_retN X102 hx hlk (t := .boolean) Bd.returns (by simp) (hb hby d13_7) (by show QEW_0 Z e1 tr h0 n0 _ T102.heap _; rw [e102q]; exact ⟨rfl, N102, rfl⟩) (by decide) (by decide)
theorem ef_rmPf_0N (m : MethodId) (x0 : Addr) : entryFrame m #[(.ref x0)] 1 = mkF m 0 #[.val (.ref x0)] [] := by first | (simp [entryFrame, mkF, argsToLocals, Value.category]; done) | rfl
def QPf_0N (Z : State) (e1 : Addr) (tr : Addr) (h0 : Heap) (n0 : Nat) (v : Option Value) (h : Heap) (L : List Loc) : Prop := v = some .null ∧ Fr n0 L ∧ h = h0
set_option maxRecDepth 65536 in
set_option maxHeartbeats 40000000 in
theorem rmPf_0N (l : Launch) (Z : State) (a0 : Array Value) (hw : ∀ d ∈ tables_1, d.before a0 Z = true) (ws : List Jvm.Cond) (e1 : Addr) (tr : Addr) (h0 : Heap) (n0 : Nat) (Z0 : n0 ≤ h0.size) (Ee1 : Exa Z h0 e1 "com/example/permits_from_duties/permitsfromduties/Event") (Ft : Fld Z h0 e1 "com/example/permits_from_duties/permitsfromduties/Event" "transition" "Lcom/example/permits_from_duties/permitsfromduties/Event$Transition;" (.ref tr)) (Et : Exa Z h0 tr "com/example/permits_from_duties/permitsfromduties/Event$Transition") (Fw : Fld Z h0 tr "com/example/permits_from_duties/permitsfromduties/Event$Transition" "work" "Z" (.int (0 : Int32))) (Fu : Fld Z h0 e1 "com/example/permits_from_duties/permitsfromduties/Event" "user" "Ljava/lang/String;" .null) :
    MetFree l (⟨"com/example/permits_from_duties/permitsfromduties/Event", "performer", "()Ljava/lang/String;"⟩ : MethodName) (head1 (Jvm.Cond.code (⟨"com/example/permits_from_duties/permitsfromduties/Event", "performer", "()Ljava/lang/String;"⟩ : MethodName) prog_27_method_6_code 1 (some (.object "java/lang/String")) :: ws) ({ frames := 2, cells := 0, slots := 0, locals := 24 } : Room)) (fun a U => a = #[(.ref e1)] ∧ Z.Warmed39 U.vm ∧ U.heap = h0) (fun _ _ _ _ _ => True) (fun _ U o U' => ∃ v L, o = .returned v ∧ QPf_0N Z e1 tr h0 n0 v U'.heap L ∧ FrameEnd U o U' L ({ frames := 2, cells := 0, slots := 0, locals := 24 } : Room).cells ({ frames := 2, cells := 0, slots := 0, locals := 24 } : Room).slots) := by
  refine MetFree.of_bodySF (plainFor_of_name pn_com_example_permits_from_duties_permitsfromduties_Event) hisR ?_
  intro p e s m args below meth c s₁ Bd hml0 hP hK
  obtain ⟨rfl, hZ, hh⟩ := hP
  have hx := Bd.exec
  have hby := Bd.bytes
  have hlk : meth.locks = false := Bd.notSynchronized
  have hml : c.maxLocals = 1 := hml0
  have hown : s.vm.findClass "com/example/permits_from_duties/permitsfromduties/Event" = some m.cls := findClass_of_methodNamed Bd.named
  have hnm := (name_of_methodNamed Bd.named Bd.method).1
  have X0 : Stand p l e ({ frames := 2, cells := 0, slots := 0, locals := 24 } : Room) s m #[(.ref e1)] below meth c s₁ [] 0 0 := Stand.of_body Bd
  have e0 : s₁.heap = h0 := by rw [← hh, Bd.state]; rfl
  have N0 := Fr.nil n0
  show Go p e below (FinE s below (QPf_0N Z e1 tr h0 n0) ({ frames := 2, cells := 0, slots := 0, locals := 24 } : Room).cells ({ frames := 2, cells := 0, slots := 0, locals := 24 } : Room).slots) (s₁.setTop (entryFrame m #[(.ref e1)] 1))
  refine Go.via (fun t k => castTop (ef_rmPf_0N m e1) k) ?_
  show Go p e below _ (s₁.setTop (mkF m 0 #[.val (.ref e1)] []))
  refine Go.via (fun _ => XS.aloadN X0.here hx rfl (hb hby d12_0) rfl rfl) ?_
  show Go p e below _ (s₁.setTop (mkF m 1 #[.val (.ref e1)] [(.ref e1)]))
  obtain ⟨cq101, kq101, q101a, q101b, q101c⟩ := isOf hZ e0 Ee1
  obtain ⟨_, _, ⟨T101, L101, k101, n101⟩, -, X101, ⟨Lc101, hQ101, l101, y101, z101⟩, st101⟩ := X0.virtualBack hx (y := (⟨"com/example/permits_from_duties/permitsfromduties/Event", "recordsWork", "()Z"⟩ : MethodName)) (z := (⟨"com/example/permits_from_duties/permitsfromduties/Event", "recordsWork", "()Z"⟩ : MethodName)) hown (mvT hZ (hw _ (List.mem_of_getElem? (i := 81) rfl))) (mvT hZ (hw _ (List.mem_of_getElem? (i := 82) rfl))) (notFace_of_selects (args := #[]) (mvT hZ (hw _ (List.mem_of_getElem? (i := 84) rfl)))) (mvT hZ (hw _ (List.mem_of_getElem? (i := 84) rfl))) (mvT hZ (hw _ (List.mem_of_getElem? (i := 83) rfl))) (by decide) (backOf (W := 0) (rmEW_0 l Z a0 hw [] e1 tr h0 n0 Z0 Ee1 Ft Et Fw) hZ (hw _ (List.mem_of_getElem? (i := 85) rfl)) (hw _ (List.mem_of_getElem? (i := 30) rfl)) (by decide) (by decide)) q101a q101c (g := (mkF m 1 #[.val (.ref e1)] [(.ref e1)])) rfl (by rw [hml]; rfl) (Steps.refl _) (argsL := []) (rest := []) (lenOf pd_6 rfl) rfl (by show 2 * 0 + _ ≤ _; exact Nat.le_of_eq rfl) (hb hby d12_1) (fun _ _ => ⟨rfl, e0, (by decide : 0 + 0 ≤ _), (by decide : 0 + 0 ≤ _)⟩)
  dsimp only [Pt.U, Pt.locs, Pt.cells, Pt.slots] at X101 l101 y101 z101 st101 hQ101
  rw [l101, y101, z101] at X101
  replace X101 : Stand p l e _ _ m _ below meth c T101 _ 0 0 := X101
  obtain ⟨rfl, N101q, e101q⟩ := hQ101
  have N101 := Fr.app N0 N101q
  refine Go.tr st101 ?_
  show Go p e below _ (T101.setTop (mkF m 4 #[.val (.ref e1)] [(.int (0 : Int32))]))
  refine Go.via (fun _ => XS.ifYes X101.here hx rfl (pc0 := 4) (pc' := 14) rfl (hb hby d12_4) rfl (by decide) (by decide) (by decide)) ?_
  show Go p e below _ (T101.setTop (mkF m 14 #[.val (.ref e1)] []))
  refine Go.via (fun _ => XS.aconstNull X101.here hx rfl (hb hby d12_14)) ?_
  show Go p e below _ (T101.setTop (mkF m 15 #[.val (.ref e1)] [.null]))
  exact own_retA X101 hx hlk Bd.returns rfl rfl (hb hby d12_15) (by show QPf_0N Z e1 tr h0 n0 _ T101.heap _; rw [e101q]; exact ⟨rfl, N101, rfl⟩) (by decide) (by decide)
theorem ef_rmPf_0R (m : MethodId) (x0 : Addr) : entryFrame m #[(.ref x0)] 1 = mkF m 0 #[.val (.ref x0)] [] := by first | (simp [entryFrame, mkF, argsToLocals, Value.category]; done) | rfl
def QPf_0R (Z : State) (e1 : Addr) (tr : Addr) (u1 : Addr) (h0 : Heap) (n0 : Nat) (v : Option Value) (h : Heap) (L : List Loc) : Prop := v = some .null ∧ Fr n0 L ∧ h = h0
set_option maxRecDepth 65536 in
set_option maxHeartbeats 40000000 in
theorem rmPf_0R (l : Launch) (Z : State) (a0 : Array Value) (hw : ∀ d ∈ tables_1, d.before a0 Z = true) (ws : List Jvm.Cond) (e1 : Addr) (tr : Addr) (u1 : Addr) (h0 : Heap) (n0 : Nat) (Z0 : n0 ≤ h0.size) (Ee1 : Exa Z h0 e1 "com/example/permits_from_duties/permitsfromduties/Event") (Ft : Fld Z h0 e1 "com/example/permits_from_duties/permitsfromduties/Event" "transition" "Lcom/example/permits_from_duties/permitsfromduties/Event$Transition;" (.ref tr)) (Et : Exa Z h0 tr "com/example/permits_from_duties/permitsfromduties/Event$Transition") (Fw : Fld Z h0 tr "com/example/permits_from_duties/permitsfromduties/Event$Transition" "work" "Z" (.int (0 : Int32))) (Fu : Fld Z h0 e1 "com/example/permits_from_duties/permitsfromduties/Event" "user" "Ljava/lang/String;" (.ref u1)) :
    MetFree l (⟨"com/example/permits_from_duties/permitsfromduties/Event", "performer", "()Ljava/lang/String;"⟩ : MethodName) (head1 (Jvm.Cond.code (⟨"com/example/permits_from_duties/permitsfromduties/Event", "performer", "()Ljava/lang/String;"⟩ : MethodName) prog_27_method_6_code 1 (some (.object "java/lang/String")) :: ws) ({ frames := 2, cells := 0, slots := 0, locals := 24 } : Room)) (fun a U => a = #[(.ref e1)] ∧ Z.Warmed39 U.vm ∧ U.heap = h0) (fun _ _ _ _ _ => True) (fun _ U o U' => ∃ v L, o = .returned v ∧ QPf_0R Z e1 tr u1 h0 n0 v U'.heap L ∧ FrameEnd U o U' L ({ frames := 2, cells := 0, slots := 0, locals := 24 } : Room).cells ({ frames := 2, cells := 0, slots := 0, locals := 24 } : Room).slots) := by
  refine MetFree.of_bodySF (plainFor_of_name pn_com_example_permits_from_duties_permitsfromduties_Event) hisR ?_
  intro p e s m args below meth c s₁ Bd hml0 hP hK
  obtain ⟨rfl, hZ, hh⟩ := hP
  have hx := Bd.exec
  have hby := Bd.bytes
  have hlk : meth.locks = false := Bd.notSynchronized
  have hml : c.maxLocals = 1 := hml0
  have hown : s.vm.findClass "com/example/permits_from_duties/permitsfromduties/Event" = some m.cls := findClass_of_methodNamed Bd.named
  have hnm := (name_of_methodNamed Bd.named Bd.method).1
  have X0 : Stand p l e ({ frames := 2, cells := 0, slots := 0, locals := 24 } : Room) s m #[(.ref e1)] below meth c s₁ [] 0 0 := Stand.of_body Bd
  have e0 : s₁.heap = h0 := by rw [← hh, Bd.state]; rfl
  have N0 := Fr.nil n0
  show Go p e below (FinE s below (QPf_0R Z e1 tr u1 h0 n0) ({ frames := 2, cells := 0, slots := 0, locals := 24 } : Room).cells ({ frames := 2, cells := 0, slots := 0, locals := 24 } : Room).slots) (s₁.setTop (entryFrame m #[(.ref e1)] 1))
  refine Go.via (fun t k => castTop (ef_rmPf_0R m e1) k) ?_
  show Go p e below _ (s₁.setTop (mkF m 0 #[.val (.ref e1)] []))
  refine Go.via (fun _ => XS.aloadN X0.here hx rfl (hb hby d12_0) rfl rfl) ?_
  show Go p e below _ (s₁.setTop (mkF m 1 #[.val (.ref e1)] [(.ref e1)]))
  obtain ⟨cq101, kq101, q101a, q101b, q101c⟩ := isOf hZ e0 Ee1
  obtain ⟨_, _, ⟨T101, L101, k101, n101⟩, -, X101, ⟨Lc101, hQ101, l101, y101, z101⟩, st101⟩ := X0.virtualBack hx (y := (⟨"com/example/permits_from_duties/permitsfromduties/Event", "recordsWork", "()Z"⟩ : MethodName)) (z := (⟨"com/example/permits_from_duties/permitsfromduties/Event", "recordsWork", "()Z"⟩ : MethodName)) hown (mvT hZ (hw _ (List.mem_of_getElem? (i := 81) rfl))) (mvT hZ (hw _ (List.mem_of_getElem? (i := 82) rfl))) (notFace_of_selects (args := #[]) (mvT hZ (hw _ (List.mem_of_getElem? (i := 84) rfl)))) (mvT hZ (hw _ (List.mem_of_getElem? (i := 84) rfl))) (mvT hZ (hw _ (List.mem_of_getElem? (i := 83) rfl))) (by decide) (backOf (W := 0) (rmEW_0 l Z a0 hw [] e1 tr h0 n0 Z0 Ee1 Ft Et Fw) hZ (hw _ (List.mem_of_getElem? (i := 85) rfl)) (hw _ (List.mem_of_getElem? (i := 30) rfl)) (by decide) (by decide)) q101a q101c (g := (mkF m 1 #[.val (.ref e1)] [(.ref e1)])) rfl (by rw [hml]; rfl) (Steps.refl _) (argsL := []) (rest := []) (lenOf pd_6 rfl) rfl (by show 2 * 0 + _ ≤ _; exact Nat.le_of_eq rfl) (hb hby d12_1) (fun _ _ => ⟨rfl, e0, (by decide : 0 + 0 ≤ _), (by decide : 0 + 0 ≤ _)⟩)
  dsimp only [Pt.U, Pt.locs, Pt.cells, Pt.slots] at X101 l101 y101 z101 st101 hQ101
  rw [l101, y101, z101] at X101
  replace X101 : Stand p l e _ _ m _ below meth c T101 _ 0 0 := X101
  obtain ⟨rfl, N101q, e101q⟩ := hQ101
  have N101 := Fr.app N0 N101q
  refine Go.tr st101 ?_
  show Go p e below _ (T101.setTop (mkF m 4 #[.val (.ref e1)] [(.int (0 : Int32))]))
  refine Go.via (fun _ => XS.ifYes X101.here hx rfl (pc0 := 4) (pc' := 14) rfl (hb hby d12_4) rfl (by decide) (by decide) (by decide)) ?_
  show Go p e below _ (T101.setTop (mkF m 14 #[.val (.ref e1)] []))
  refine Go.via (fun _ => XS.aconstNull X101.here hx rfl (hb hby d12_14)) ?_
  show Go p e below _ (T101.setTop (mkF m 15 #[.val (.ref e1)] [.null]))
  exact own_retA X101 hx hlk Bd.returns rfl rfl (hb hby d12_15) (by show QPf_0R Z e1 tr u1 h0 n0 _ T101.heap _; rw [e101q]; exact ⟨rfl, N101, rfl⟩) (by decide) (by decide)
theorem ef_rmTW_1 (m : MethodId) (x0 : Addr) : entryFrame m #[(.ref x0)] 1 = mkF m 0 #[.val (.ref x0)] [] := by first | (simp [entryFrame, mkF, argsToLocals, Value.category]; done) | rfl
def QTW_1 (Z : State) (tr : Addr) (h0 : Heap) (n0 : Nat) (v : Option Value) (h : Heap) (L : List Loc) : Prop := v = some (.int (1 : Int32)) ∧ Fr n0 L ∧ h = h0
set_option maxRecDepth 65536 in
set_option maxHeartbeats 40000000 in
theorem rmTW_1 (l : Launch) (Z : State) (a0 : Array Value) (hw : ∀ d ∈ tables_1, d.before a0 Z = true) (ws : List Jvm.Cond) (tr : Addr) (h0 : Heap) (n0 : Nat) (Z0 : n0 ≤ h0.size) (F1 : Fld Z h0 tr "com/example/permits_from_duties/permitsfromduties/Event$Transition" "work" "Z" (.int (1 : Int32))) :
    MetFree l (⟨"com/example/permits_from_duties/permitsfromduties/Event$Transition", "recordsWork", "()Z"⟩ : MethodName) (head1 (Jvm.Cond.code (⟨"com/example/permits_from_duties/permitsfromduties/Event$Transition", "recordsWork", "()Z"⟩ : MethodName) prog_28_method_5_code 1 (some .boolean) :: ws) ({ frames := 0, cells := 0, slots := 0, locals := 0 } : Room)) (fun a U => a = #[(.ref tr)] ∧ Z.Warmed39 U.vm ∧ U.heap = h0) (fun _ _ _ _ _ => True) (fun _ U o U' => ∃ v L, o = .returned v ∧ QTW_1 Z tr h0 n0 v U'.heap L ∧ FrameEnd U o U' L ({ frames := 0, cells := 0, slots := 0, locals := 0 } : Room).cells ({ frames := 0, cells := 0, slots := 0, locals := 0 } : Room).slots) := by
  refine MetFree.of_bodySF (plainFor_of_name pn_com_example_permits_from_duties_permitsfromduties_Event_Transition) hisR ?_
  intro p e s m args below meth c s₁ Bd hml0 hP hK
  obtain ⟨rfl, hZ, hh⟩ := hP
  have hx := Bd.exec
  have hby := Bd.bytes
  have hlk : meth.locks = false := Bd.notSynchronized
  have hml : c.maxLocals = 1 := hml0
  have hown : s.vm.findClass "com/example/permits_from_duties/permitsfromduties/Event$Transition" = some m.cls := findClass_of_methodNamed Bd.named
  have hnm := (name_of_methodNamed Bd.named Bd.method).1
  have X0 : Stand p l e ({ frames := 0, cells := 0, slots := 0, locals := 0 } : Room) s m #[(.ref tr)] below meth c s₁ [] 0 0 := Stand.of_body Bd
  have e0 : s₁.heap = h0 := by rw [← hh, Bd.state]; rfl
  have N0 := Fr.nil n0
  show Go p e below (FinE s below (QTW_1 Z tr h0 n0) ({ frames := 0, cells := 0, slots := 0, locals := 0 } : Room).cells ({ frames := 0, cells := 0, slots := 0, locals := 0 } : Room).slots) (s₁.setTop (entryFrame m #[(.ref tr)] 1))
  refine Go.via (fun t k => castTop (ef_rmTW_1 m tr) k) ?_
  show Go p e below _ (s₁.setTop (mkF m 0 #[.val (.ref tr)] []))
  refine Go.via (fun _ => XS.aloadN X0.here hx rfl (hb hby d14_0) rfl rfl) ?_
  show Go p e below _ (s₁.setTop (mkF m 1 #[.val (.ref tr)] [(.ref tr)]))
  obtain ⟨T101, X101, e101, st101⟩ := getF X0 hx hZ hown (host := "") (Or.inl (hw _ (List.mem_of_getElem? (i := 91) rfl))) Via.refl e0 F1 (g := (mkF m 1 #[.val (.ref tr)] [(.ref tr)])) rfl rfl (hb hby d14_1)
  refine Go.via st101 ?_
  show Go p e below _ (T101.setTop (mkF m 4 #[.val (.ref tr)] [(.int (1 : Int32))]))
  exact own_retN X101 hx hlk (t := .boolean) Bd.returns (by simp) (hb hby d14_4) (by show QTW_1 Z tr h0 n0 _ T101.heap _; rw [e101]; exact ⟨rfl, N0, rfl⟩) (by decide) (by decide)
theorem ef_rmEW_1 (m : MethodId) (x0 : Addr) : entryFrame m #[(.ref x0)] 1 = mkF m 0 #[.val (.ref x0)] [] := by first | (simp [entryFrame, mkF, argsToLocals, Value.category]; done) | rfl
def QEW_1 (Z : State) (e1 : Addr) (tr : Addr) (h0 : Heap) (n0 : Nat) (v : Option Value) (h : Heap) (L : List Loc) : Prop := v = some (.int (1 : Int32)) ∧ Fr n0 L ∧ h = h0
set_option maxRecDepth 65536 in
set_option maxHeartbeats 40000000 in
theorem rmEW_1 (l : Launch) (Z : State) (a0 : Array Value) (hw : ∀ d ∈ tables_1, d.before a0 Z = true) (ws : List Jvm.Cond) (e1 : Addr) (tr : Addr) (h0 : Heap) (n0 : Nat) (Z0 : n0 ≤ h0.size) (Ee1 : Exa Z h0 e1 "com/example/permits_from_duties/permitsfromduties/Event") (Ft : Fld Z h0 e1 "com/example/permits_from_duties/permitsfromduties/Event" "transition" "Lcom/example/permits_from_duties/permitsfromduties/Event$Transition;" (.ref tr)) (Et : Exa Z h0 tr "com/example/permits_from_duties/permitsfromduties/Event$Transition") (Fw : Fld Z h0 tr "com/example/permits_from_duties/permitsfromduties/Event$Transition" "work" "Z" (.int (1 : Int32))) :
    MetFree l (⟨"com/example/permits_from_duties/permitsfromduties/Event", "recordsWork", "()Z"⟩ : MethodName) (head1 (Jvm.Cond.code (⟨"com/example/permits_from_duties/permitsfromduties/Event", "recordsWork", "()Z"⟩ : MethodName) prog_27_method_5_code 1 (some .boolean) :: ws) ({ frames := 1, cells := 0, slots := 0, locals := 12 } : Room)) (fun a U => a = #[(.ref e1)] ∧ Z.Warmed39 U.vm ∧ U.heap = h0) (fun _ _ _ _ _ => True) (fun _ U o U' => ∃ v L, o = .returned v ∧ QEW_1 Z e1 tr h0 n0 v U'.heap L ∧ FrameEnd U o U' L ({ frames := 1, cells := 0, slots := 0, locals := 12 } : Room).cells ({ frames := 1, cells := 0, slots := 0, locals := 12 } : Room).slots) := by
  refine MetFree.of_bodySF (plainFor_of_name pn_com_example_permits_from_duties_permitsfromduties_Event) hisR ?_
  intro p e s m args below meth c s₁ Bd hml0 hP hK
  obtain ⟨rfl, hZ, hh⟩ := hP
  have hx := Bd.exec
  have hby := Bd.bytes
  have hlk : meth.locks = false := Bd.notSynchronized
  have hml : c.maxLocals = 1 := hml0
  have hown : s.vm.findClass "com/example/permits_from_duties/permitsfromduties/Event" = some m.cls := findClass_of_methodNamed Bd.named
  have hnm := (name_of_methodNamed Bd.named Bd.method).1
  have X0 : Stand p l e ({ frames := 1, cells := 0, slots := 0, locals := 12 } : Room) s m #[(.ref e1)] below meth c s₁ [] 0 0 := Stand.of_body Bd
  have e0 : s₁.heap = h0 := by rw [← hh, Bd.state]; rfl
  have N0 := Fr.nil n0
  show Go p e below (FinE s below (QEW_1 Z e1 tr h0 n0) ({ frames := 1, cells := 0, slots := 0, locals := 12 } : Room).cells ({ frames := 1, cells := 0, slots := 0, locals := 12 } : Room).slots) (s₁.setTop (entryFrame m #[(.ref e1)] 1))
  refine Go.via (fun t k => castTop (ef_rmEW_1 m e1) k) ?_
  show Go p e below _ (s₁.setTop (mkF m 0 #[.val (.ref e1)] []))
  refine Go.via (fun _ => XS.aloadN X0.here hx rfl (hb hby d13_0) rfl rfl) ?_
  show Go p e below _ (s₁.setTop (mkF m 1 #[.val (.ref e1)] [(.ref e1)]))
  obtain ⟨T101, X101, e101, st101⟩ := getF X0 hx hZ hown (host := "") (Or.inl (hw _ (List.mem_of_getElem? (i := 70) rfl))) Via.refl e0 Ft (g := (mkF m 1 #[.val (.ref e1)] [(.ref e1)])) rfl rfl (hb hby d13_1)
  refine Go.via st101 ?_
  show Go p e below _ (T101.setTop (mkF m 4 #[.val (.ref e1)] [(.ref tr)]))
  obtain ⟨cq102, kq102, q102a, q102b, q102c⟩ := isOf hZ e101 Et
  obtain ⟨_, _, ⟨T102, L102, k102, n102⟩, -, X102, ⟨Lc102, hQ102, l102, y102, z102⟩, st102⟩ := X101.virtualBack hx (y := (⟨"com/example/permits_from_duties/permitsfromduties/Event$Transition", "recordsWork", "()Z"⟩ : MethodName)) (z := (⟨"com/example/permits_from_duties/permitsfromduties/Event$Transition", "recordsWork", "()Z"⟩ : MethodName)) hown (mvT hZ (hw _ (List.mem_of_getElem? (i := 86) rfl))) (mvT hZ (hw _ (List.mem_of_getElem? (i := 87) rfl))) (notFace_of_selects (args := #[]) (mvT hZ (hw _ (List.mem_of_getElem? (i := 89) rfl)))) (mvT hZ (hw _ (List.mem_of_getElem? (i := 89) rfl))) (mvT hZ (hw _ (List.mem_of_getElem? (i := 88) rfl))) (by decide) (backOf (W := 0) (rmTW_1 l Z a0 hw [] tr h0 n0 Z0 Fw) hZ (hw _ (List.mem_of_getElem? (i := 90) rfl)) (hw _ (List.mem_of_getElem? (i := 36) rfl)) (by decide) (by decide)) q102a q102c (g := (mkF m 4 #[.val (.ref e1)] [(.ref tr)])) rfl (by rw [hml]; rfl) (Steps.refl _) (argsL := []) (rest := []) (lenOf pd_6 rfl) rfl (by show 2 * 0 + _ ≤ _; exact Nat.le_of_eq rfl) (hb hby d13_4) (fun _ _ => ⟨rfl, e101, (by decide : 0 + 0 ≤ _), (by decide : 0 + 0 ≤ _)⟩)
  dsimp only [Pt.U, Pt.locs, Pt.cells, Pt.slots] at X102 l102 y102 z102 st102 hQ102
  rw [l102, y102, z102] at X102
  replace X102 : Stand p l e _ _ m _ below meth c T102 _ 0 0 := X102
  obtain ⟨rfl, N102q, e102q⟩ := hQ102
  have N102 := Fr.app N0 N102q
  refine Go.tr st102 ?_
  show Go p e below _ (T102.setTop (mkF m 7 #[.val (.ref e1)] [(.int (1 : Int32))]))
  exact own_retN X102 hx hlk (t := .boolean) Bd.returns (by simp) (hb hby d13_7) (by show QEW_1 Z e1 tr h0 n0 _ T102.heap _; rw [e102q]; exact ⟨rfl, N102, rfl⟩) (by decide) (by decide)
theorem ef_rmPf_1N (m : MethodId) (x0 : Addr) : entryFrame m #[(.ref x0)] 1 = mkF m 0 #[.val (.ref x0)] [] := by first | (simp [entryFrame, mkF, argsToLocals, Value.category]; done) | rfl
def QPf_1N (Z : State) (e1 : Addr) (tr : Addr) (h0 : Heap) (n0 : Nat) (v : Option Value) (h : Heap) (L : List Loc) : Prop := v = some .null ∧ Fr n0 L ∧ h = h0
set_option maxRecDepth 65536 in
set_option maxHeartbeats 40000000 in
theorem rmPf_1N (l : Launch) (Z : State) (a0 : Array Value) (hw : ∀ d ∈ tables_1, d.before a0 Z = true) (ws : List Jvm.Cond) (e1 : Addr) (tr : Addr) (h0 : Heap) (n0 : Nat) (Z0 : n0 ≤ h0.size) (Ee1 : Exa Z h0 e1 "com/example/permits_from_duties/permitsfromduties/Event") (Ft : Fld Z h0 e1 "com/example/permits_from_duties/permitsfromduties/Event" "transition" "Lcom/example/permits_from_duties/permitsfromduties/Event$Transition;" (.ref tr)) (Et : Exa Z h0 tr "com/example/permits_from_duties/permitsfromduties/Event$Transition") (Fw : Fld Z h0 tr "com/example/permits_from_duties/permitsfromduties/Event$Transition" "work" "Z" (.int (1 : Int32))) (Fu : Fld Z h0 e1 "com/example/permits_from_duties/permitsfromduties/Event" "user" "Ljava/lang/String;" .null) :
    MetFree l (⟨"com/example/permits_from_duties/permitsfromduties/Event", "performer", "()Ljava/lang/String;"⟩ : MethodName) (head1 (Jvm.Cond.code (⟨"com/example/permits_from_duties/permitsfromduties/Event", "performer", "()Ljava/lang/String;"⟩ : MethodName) prog_27_method_6_code 1 (some (.object "java/lang/String")) :: ws) ({ frames := 2, cells := 0, slots := 0, locals := 24 } : Room)) (fun a U => a = #[(.ref e1)] ∧ Z.Warmed39 U.vm ∧ U.heap = h0) (fun _ _ _ _ _ => True) (fun _ U o U' => ∃ v L, o = .returned v ∧ QPf_1N Z e1 tr h0 n0 v U'.heap L ∧ FrameEnd U o U' L ({ frames := 2, cells := 0, slots := 0, locals := 24 } : Room).cells ({ frames := 2, cells := 0, slots := 0, locals := 24 } : Room).slots) := by
  refine MetFree.of_bodySF (plainFor_of_name pn_com_example_permits_from_duties_permitsfromduties_Event) hisR ?_
  intro p e s m args below meth c s₁ Bd hml0 hP hK
  obtain ⟨rfl, hZ, hh⟩ := hP
  have hx := Bd.exec
  have hby := Bd.bytes
  have hlk : meth.locks = false := Bd.notSynchronized
  have hml : c.maxLocals = 1 := hml0
  have hown : s.vm.findClass "com/example/permits_from_duties/permitsfromduties/Event" = some m.cls := findClass_of_methodNamed Bd.named
  have hnm := (name_of_methodNamed Bd.named Bd.method).1
  have X0 : Stand p l e ({ frames := 2, cells := 0, slots := 0, locals := 24 } : Room) s m #[(.ref e1)] below meth c s₁ [] 0 0 := Stand.of_body Bd
  have e0 : s₁.heap = h0 := by rw [← hh, Bd.state]; rfl
  have N0 := Fr.nil n0
  show Go p e below (FinE s below (QPf_1N Z e1 tr h0 n0) ({ frames := 2, cells := 0, slots := 0, locals := 24 } : Room).cells ({ frames := 2, cells := 0, slots := 0, locals := 24 } : Room).slots) (s₁.setTop (entryFrame m #[(.ref e1)] 1))
  refine Go.via (fun t k => castTop (ef_rmPf_1N m e1) k) ?_
  show Go p e below _ (s₁.setTop (mkF m 0 #[.val (.ref e1)] []))
  refine Go.via (fun _ => XS.aloadN X0.here hx rfl (hb hby d12_0) rfl rfl) ?_
  show Go p e below _ (s₁.setTop (mkF m 1 #[.val (.ref e1)] [(.ref e1)]))
  obtain ⟨cq101, kq101, q101a, q101b, q101c⟩ := isOf hZ e0 Ee1
  obtain ⟨_, _, ⟨T101, L101, k101, n101⟩, -, X101, ⟨Lc101, hQ101, l101, y101, z101⟩, st101⟩ := X0.virtualBack hx (y := (⟨"com/example/permits_from_duties/permitsfromduties/Event", "recordsWork", "()Z"⟩ : MethodName)) (z := (⟨"com/example/permits_from_duties/permitsfromduties/Event", "recordsWork", "()Z"⟩ : MethodName)) hown (mvT hZ (hw _ (List.mem_of_getElem? (i := 81) rfl))) (mvT hZ (hw _ (List.mem_of_getElem? (i := 82) rfl))) (notFace_of_selects (args := #[]) (mvT hZ (hw _ (List.mem_of_getElem? (i := 84) rfl)))) (mvT hZ (hw _ (List.mem_of_getElem? (i := 84) rfl))) (mvT hZ (hw _ (List.mem_of_getElem? (i := 83) rfl))) (by decide) (backOf (W := 0) (rmEW_1 l Z a0 hw [] e1 tr h0 n0 Z0 Ee1 Ft Et Fw) hZ (hw _ (List.mem_of_getElem? (i := 85) rfl)) (hw _ (List.mem_of_getElem? (i := 30) rfl)) (by decide) (by decide)) q101a q101c (g := (mkF m 1 #[.val (.ref e1)] [(.ref e1)])) rfl (by rw [hml]; rfl) (Steps.refl _) (argsL := []) (rest := []) (lenOf pd_6 rfl) rfl (by show 2 * 0 + _ ≤ _; exact Nat.le_of_eq rfl) (hb hby d12_1) (fun _ _ => ⟨rfl, e0, (by decide : 0 + 0 ≤ _), (by decide : 0 + 0 ≤ _)⟩)
  dsimp only [Pt.U, Pt.locs, Pt.cells, Pt.slots] at X101 l101 y101 z101 st101 hQ101
  rw [l101, y101, z101] at X101
  replace X101 : Stand p l e _ _ m _ below meth c T101 _ 0 0 := X101
  obtain ⟨rfl, N101q, e101q⟩ := hQ101
  have N101 := Fr.app N0 N101q
  refine Go.tr st101 ?_
  show Go p e below _ (T101.setTop (mkF m 4 #[.val (.ref e1)] [(.int (1 : Int32))]))
  refine Go.via (fun _ => XS.ifNo X101.here hx rfl (hb hby d12_4) rfl (by decide)) ?_
  show Go p e below _ (T101.setTop (mkF m 7 #[.val (.ref e1)] []))
  refine Go.via (fun _ => XS.aloadN X101.here hx rfl (hb hby d12_7) rfl rfl) ?_
  show Go p e below _ (T101.setTop (mkF m 8 #[.val (.ref e1)] [(.ref e1)]))
  obtain ⟨T102, X102, e102, st102⟩ := getF X101 hx hZ hown (host := "") (Or.inl (hw _ (List.mem_of_getElem? (i := 66) rfl))) Via.refl e101q Fu (g := (mkF m 8 #[.val (.ref e1)] [(.ref e1)])) rfl rfl (hb hby d12_8)
  refine Go.via st102 ?_
  show Go p e below _ (T102.setTop (mkF m 11 #[.val (.ref e1)] [.null]))
  refine Go.via (fun _ => XS.goto X102.here hx rfl (pc0 := 11) (pc' := 15) rfl (hb hby d12_11) (by decide) (by decide)) ?_
  show Go p e below _ (T102.setTop (mkF m 15 #[.val (.ref e1)] [.null]))
  exact own_retA X102 hx hlk Bd.returns rfl rfl (hb hby d12_15) (by show QPf_1N Z e1 tr h0 n0 _ T102.heap _; rw [e102]; exact ⟨rfl, N101, rfl⟩) (by decide) (by decide)
theorem ef_rmPf_1R (m : MethodId) (x0 : Addr) : entryFrame m #[(.ref x0)] 1 = mkF m 0 #[.val (.ref x0)] [] := by first | (simp [entryFrame, mkF, argsToLocals, Value.category]; done) | rfl
def QPf_1R (Z : State) (e1 : Addr) (tr : Addr) (u1 : Addr) (h0 : Heap) (n0 : Nat) (v : Option Value) (h : Heap) (L : List Loc) : Prop := v = some (.ref u1) ∧ Fr n0 L ∧ h = h0
set_option maxRecDepth 65536 in
set_option maxHeartbeats 40000000 in
theorem rmPf_1R (l : Launch) (Z : State) (a0 : Array Value) (hw : ∀ d ∈ tables_1, d.before a0 Z = true) (ws : List Jvm.Cond) (e1 : Addr) (tr : Addr) (u1 : Addr) (h0 : Heap) (n0 : Nat) (Z0 : n0 ≤ h0.size) (Ee1 : Exa Z h0 e1 "com/example/permits_from_duties/permitsfromduties/Event") (Ft : Fld Z h0 e1 "com/example/permits_from_duties/permitsfromduties/Event" "transition" "Lcom/example/permits_from_duties/permitsfromduties/Event$Transition;" (.ref tr)) (Et : Exa Z h0 tr "com/example/permits_from_duties/permitsfromduties/Event$Transition") (Fw : Fld Z h0 tr "com/example/permits_from_duties/permitsfromduties/Event$Transition" "work" "Z" (.int (1 : Int32))) (Fu : Fld Z h0 e1 "com/example/permits_from_duties/permitsfromduties/Event" "user" "Ljava/lang/String;" (.ref u1)) :
    MetFree l (⟨"com/example/permits_from_duties/permitsfromduties/Event", "performer", "()Ljava/lang/String;"⟩ : MethodName) (head1 (Jvm.Cond.code (⟨"com/example/permits_from_duties/permitsfromduties/Event", "performer", "()Ljava/lang/String;"⟩ : MethodName) prog_27_method_6_code 1 (some (.object "java/lang/String")) :: ws) ({ frames := 2, cells := 0, slots := 0, locals := 24 } : Room)) (fun a U => a = #[(.ref e1)] ∧ Z.Warmed39 U.vm ∧ U.heap = h0) (fun _ _ _ _ _ => True) (fun _ U o U' => ∃ v L, o = .returned v ∧ QPf_1R Z e1 tr u1 h0 n0 v U'.heap L ∧ FrameEnd U o U' L ({ frames := 2, cells := 0, slots := 0, locals := 24 } : Room).cells ({ frames := 2, cells := 0, slots := 0, locals := 24 } : Room).slots) := by
  refine MetFree.of_bodySF (plainFor_of_name pn_com_example_permits_from_duties_permitsfromduties_Event) hisR ?_
  intro p e s m args below meth c s₁ Bd hml0 hP hK
  obtain ⟨rfl, hZ, hh⟩ := hP
  have hx := Bd.exec
  have hby := Bd.bytes
  have hlk : meth.locks = false := Bd.notSynchronized
  have hml : c.maxLocals = 1 := hml0
  have hown : s.vm.findClass "com/example/permits_from_duties/permitsfromduties/Event" = some m.cls := findClass_of_methodNamed Bd.named
  have hnm := (name_of_methodNamed Bd.named Bd.method).1
  have X0 : Stand p l e ({ frames := 2, cells := 0, slots := 0, locals := 24 } : Room) s m #[(.ref e1)] below meth c s₁ [] 0 0 := Stand.of_body Bd
  have e0 : s₁.heap = h0 := by rw [← hh, Bd.state]; rfl
  have N0 := Fr.nil n0
  show Go p e below (FinE s below (QPf_1R Z e1 tr u1 h0 n0) ({ frames := 2, cells := 0, slots := 0, locals := 24 } : Room).cells ({ frames := 2, cells := 0, slots := 0, locals := 24 } : Room).slots) (s₁.setTop (entryFrame m #[(.ref e1)] 1))
  refine Go.via (fun t k => castTop (ef_rmPf_1R m e1) k) ?_
  show Go p e below _ (s₁.setTop (mkF m 0 #[.val (.ref e1)] []))
  refine Go.via (fun _ => XS.aloadN X0.here hx rfl (hb hby d12_0) rfl rfl) ?_
  show Go p e below _ (s₁.setTop (mkF m 1 #[.val (.ref e1)] [(.ref e1)]))
  obtain ⟨cq101, kq101, q101a, q101b, q101c⟩ := isOf hZ e0 Ee1
  obtain ⟨_, _, ⟨T101, L101, k101, n101⟩, -, X101, ⟨Lc101, hQ101, l101, y101, z101⟩, st101⟩ := X0.virtualBack hx (y := (⟨"com/example/permits_from_duties/permitsfromduties/Event", "recordsWork", "()Z"⟩ : MethodName)) (z := (⟨"com/example/permits_from_duties/permitsfromduties/Event", "recordsWork", "()Z"⟩ : MethodName)) hown (mvT hZ (hw _ (List.mem_of_getElem? (i := 81) rfl))) (mvT hZ (hw _ (List.mem_of_getElem? (i := 82) rfl))) (notFace_of_selects (args := #[]) (mvT hZ (hw _ (List.mem_of_getElem? (i := 84) rfl)))) (mvT hZ (hw _ (List.mem_of_getElem? (i := 84) rfl))) (mvT hZ (hw _ (List.mem_of_getElem? (i := 83) rfl))) (by decide) (backOf (W := 0) (rmEW_1 l Z a0 hw [] e1 tr h0 n0 Z0 Ee1 Ft Et Fw) hZ (hw _ (List.mem_of_getElem? (i := 85) rfl)) (hw _ (List.mem_of_getElem? (i := 30) rfl)) (by decide) (by decide)) q101a q101c (g := (mkF m 1 #[.val (.ref e1)] [(.ref e1)])) rfl (by rw [hml]; rfl) (Steps.refl _) (argsL := []) (rest := []) (lenOf pd_6 rfl) rfl (by show 2 * 0 + _ ≤ _; exact Nat.le_of_eq rfl) (hb hby d12_1) (fun _ _ => ⟨rfl, e0, (by decide : 0 + 0 ≤ _), (by decide : 0 + 0 ≤ _)⟩)
  dsimp only [Pt.U, Pt.locs, Pt.cells, Pt.slots] at X101 l101 y101 z101 st101 hQ101
  rw [l101, y101, z101] at X101
  replace X101 : Stand p l e _ _ m _ below meth c T101 _ 0 0 := X101
  obtain ⟨rfl, N101q, e101q⟩ := hQ101
  have N101 := Fr.app N0 N101q
  refine Go.tr st101 ?_
  show Go p e below _ (T101.setTop (mkF m 4 #[.val (.ref e1)] [(.int (1 : Int32))]))
  refine Go.via (fun _ => XS.ifNo X101.here hx rfl (hb hby d12_4) rfl (by decide)) ?_
  show Go p e below _ (T101.setTop (mkF m 7 #[.val (.ref e1)] []))
  refine Go.via (fun _ => XS.aloadN X101.here hx rfl (hb hby d12_7) rfl rfl) ?_
  show Go p e below _ (T101.setTop (mkF m 8 #[.val (.ref e1)] [(.ref e1)]))
  obtain ⟨T102, X102, e102, st102⟩ := getF X101 hx hZ hown (host := "") (Or.inl (hw _ (List.mem_of_getElem? (i := 66) rfl))) Via.refl e101q Fu (g := (mkF m 8 #[.val (.ref e1)] [(.ref e1)])) rfl rfl (hb hby d12_8)
  refine Go.via st102 ?_
  show Go p e below _ (T102.setTop (mkF m 11 #[.val (.ref e1)] [(.ref u1)]))
  refine Go.via (fun _ => XS.goto X102.here hx rfl (pc0 := 11) (pc' := 15) rfl (hb hby d12_11) (by decide) (by decide)) ?_
  show Go p e below _ (T102.setTop (mkF m 15 #[.val (.ref e1)] [(.ref u1)]))
  exact own_retA X102 hx hlk Bd.returns rfl rfl (hb hby d12_15) (by show QPf_1R Z e1 tr u1 h0 n0 _ T102.heap _; rw [e102]; exact ⟨rfl, N101, rfl⟩) (by decide) (by decide)
theorem ef_rmCanC_1 (m : MethodId) (x0 : Int32) : entryFrame m #[(.int x0)] 1 = mkF m 0 #[.val (.int x0)] [] := by first | (simp [entryFrame, mkF, argsToLocals, Value.category]; done) | rfl
def QCanC_1 (Z : State) (ch : Int32) (h0 : Heap) (n0 : Nat) (v : Option Value) (h : Heap) (L : List Loc) : Prop := v = some (.int (1 : Int32)) ∧ Fr n0 L ∧ h = h0
set_option maxRecDepth 65536 in
set_option maxHeartbeats 40000000 in
theorem rmCanC_1 (l : Launch) (Z : State) (a0 : Array Value) (hw : ∀ d ∈ tables_1, d.before a0 Z = true) (ws : List Jvm.Cond) (ch : Int32) (h0 : Heap) (n0 : Nat) (Z0 : n0 ≤ h0.size) (hl : ¬ ((255 : Int32) < ch)) :
    MetFree l (⟨"java/lang/StringLatin1", "canEncode", "(C)Z"⟩ : MethodName) (head1 (Jvm.Cond.code (⟨"java/lang/StringLatin1", "canEncode", "(C)Z"⟩ : MethodName) jdk_43_method_3_code 1 (some .boolean) :: ws) ({ frames := 0, cells := 0, slots := 0, locals := 0 } : Room)) (fun a U => a = #[(.int ch)] ∧ Z.Warmed39 U.vm ∧ U.heap = h0) (fun _ _ _ _ _ => True) (fun _ U o U' => ∃ v L, o = .returned v ∧ QCanC_1 Z ch h0 n0 v U'.heap L ∧ FrameEnd U o U' L ({ frames := 0, cells := 0, slots := 0, locals := 0 } : Room).cells ({ frames := 0, cells := 0, slots := 0, locals := 0 } : Room).slots) := by
  refine MetFree.of_bodySF (plainFor_of_name pn_java_lang_StringLatin1) hisR ?_
  intro p e s m args below meth c s₁ Bd hml0 hP hK
  obtain ⟨rfl, hZ, hh⟩ := hP
  have hx := Bd.exec
  have hby := Bd.bytes
  have hlk : meth.locks = false := Bd.notSynchronized
  have hml : c.maxLocals = 1 := hml0
  have hown : s.vm.findClass "java/lang/StringLatin1" = some m.cls := findClass_of_methodNamed Bd.named
  have hnm := (name_of_methodNamed Bd.named Bd.method).1
  have X0 : Stand p l e ({ frames := 0, cells := 0, slots := 0, locals := 0 } : Room) s m #[(.int ch)] below meth c s₁ [] 0 0 := Stand.of_body Bd
  have e0 : s₁.heap = h0 := by rw [← hh, Bd.state]; rfl
  have N0 := Fr.nil n0
  show Go p e below (FinE s below (QCanC_1 Z ch h0 n0) ({ frames := 0, cells := 0, slots := 0, locals := 0 } : Room).cells ({ frames := 0, cells := 0, slots := 0, locals := 0 } : Room).slots) (s₁.setTop (entryFrame m #[(.int ch)] 1))
  refine Go.via (fun t k => castTop (ef_rmCanC_1 m ch) k) ?_
  show Go p e below _ (s₁.setTop (mkF m 0 #[.val (.int ch)] []))
  refine Go.via (fun _ => XS.iloadN X0.here hx rfl (hb hby d2_0) rfl) ?_
  show Go p e below _ (s₁.setTop (mkF m 1 #[.val (.int ch)] [(.int ch)]))
  refine Go.via (fun _ => XS.sipush X0.here hx rfl (hb hby d2_1)) ?_
  show Go p e below _ (s₁.setTop (mkF m 4 #[.val (.int ch)] [(.int (255 : Int32)), (.int ch)]))
  refine Go.via (fun _ => XS.icmpNo X0.here hx rfl (hb hby d2_4) rfl (flt hl).2.2.1) ?_
  show Go p e below _ (s₁.setTop (mkF m 7 #[.val (.int ch)] []))
  refine Go.via (fun _ => XS.iconst X0.here hx rfl (hb hby d2_7)) ?_
  show Go p e below _ (s₁.setTop (mkF m 8 #[.val (.int ch)] [(.int (1 : Int32))]))
  refine Go.via (fun _ => XS.goto X0.here hx rfl (pc0 := 8) (pc' := 12) rfl (hb hby d2_8) (by decide) (by decide)) ?_
  show Go p e below _ (s₁.setTop (mkF m 12 #[.val (.int ch)] [(.int (1 : Int32))]))
  exact own_retN X0 hx hlk (t := .boolean) Bd.returns (by simp) (hb hby d2_12) (by show QCanC_1 Z ch h0 n0 _ s₁.heap _; rw [e0]; exact ⟨rfl, N0, rfl⟩) (by decide) (by decide)
theorem ef_rmIB_0 (m : MethodId) (x0 : Addr) (x1 : Addr) : entryFrame m #[(.ref x0), (.ref x1), (.int (0 : Int32))] 3 = mkF m 0 #[.val (.ref x0), .val (.ref x1), .val (.int (0 : Int32))] [] := by first | (simp [entryFrame, mkF, argsToLocals, Value.category]; done) | rfl
def QIB_0 (Z : State) (a1 : Addr) (t1 : Addr) (h0 : Heap) (n0 : Nat) (v : Option Value) (h : Heap) (L : List Loc) : Prop := v = none ∧ Fr n0 L ∧ Keep h0 h [a1] ∧ Fld Z h a1 "java/lang/String" "value" "[B" (.ref t1) ∧ Fld Z h a1 "java/lang/String" "coder" "B" (.int (0 : Int32))
set_option maxRecDepth 65536 in
set_option maxHeartbeats 40000000 in
theorem rmIB_0 (l : Launch) (Z : State) (a0 : Array Value) (hw : ∀ d ∈ tables_1, d.before a0 Z = true) (ws : List Jvm.Cond) (a1 : Addr) (t1 : Addr) (h0 : Heap) (n0 : Nat) (Z0 : n0 ≤ h0.size) (E1 : Exa Z h0 a1 "java/lang/String") (F1 : Fld Z h0 a1 "java/lang/String" "value" "[B" .null) (F2 : Fld Z h0 a1 "java/lang/String" "coder" "B" (.int (0 : Int32))) (g1 : n0 ≤ a1) :
    MetFree l (⟨"java/lang/String", "<init>", "([BB)V"⟩ : MethodName) (head1 (Jvm.Cond.code (⟨"java/lang/String", "<init>", "([BB)V"⟩ : MethodName) jdk_42_method_151_code 3 none :: ws) ({ frames := 1, cells := 0, slots := 0, locals := 12 } : Room)) (fun a U => a = #[(.ref a1), (.ref t1), (.int (0 : Int32))] ∧ Z.Warmed39 U.vm ∧ U.heap = h0) (fun _ _ _ _ _ => True) (fun _ U o U' => ∃ v L, o = .returned v ∧ QIB_0 Z a1 t1 h0 n0 v U'.heap L ∧ FrameEnd U o U' L ({ frames := 1, cells := 0, slots := 0, locals := 12 } : Room).cells ({ frames := 1, cells := 0, slots := 0, locals := 12 } : Room).slots) := by
  refine MetFree.of_bodySF (plainFor_of_name pn_java_lang_String) hisR ?_
  intro p e s m args below meth c s₁ Bd hml0 hP hK
  obtain ⟨rfl, hZ, hh⟩ := hP
  have hx := Bd.exec
  have hby := Bd.bytes
  have hlk : meth.locks = false := Bd.notSynchronized
  have hml : c.maxLocals = 3 := hml0
  have hown : s.vm.findClass "java/lang/String" = some m.cls := findClass_of_methodNamed Bd.named
  have hnm := (name_of_methodNamed Bd.named Bd.method).1
  have X0 : Stand p l e ({ frames := 1, cells := 0, slots := 0, locals := 12 } : Room) s m #[(.ref a1), (.ref t1), (.int (0 : Int32))] below meth c s₁ [] 0 0 := Stand.of_body Bd
  have e0 : s₁.heap = h0 := by rw [← hh, Bd.state]; rfl
  have N0 := Fr.nil n0
  show Go p e below (FinE s below (QIB_0 Z a1 t1 h0 n0) ({ frames := 1, cells := 0, slots := 0, locals := 12 } : Room).cells ({ frames := 1, cells := 0, slots := 0, locals := 12 } : Room).slots) (s₁.setTop (entryFrame m #[(.ref a1), (.ref t1), (.int (0 : Int32))] 3))
  refine Go.via (fun t k => castTop (ef_rmIB_0 m a1 t1) k) ?_
  show Go p e below _ (s₁.setTop (mkF m 0 #[.val (.ref a1), .val (.ref t1), .val (.int (0 : Int32))] []))
  refine Go.via (fun _ => XS.aloadN X0.here hx rfl (hb hby d4_0) rfl rfl) ?_
  show Go p e below _ (s₁.setTop (mkF m 1 #[.val (.ref a1), .val (.ref t1), .val (.int (0 : Int32))] [(.ref a1)]))
  obtain ⟨T101, X101, e101, st101⟩ := initO X0 hx hZ hown (hw _ (List.mem_of_getElem? (i := 21) rfl)) (hw _ (List.mem_of_getElem? (i := 22) rfl)) (hw _ (List.mem_of_getElem? (i := 23) rfl)) e0 (g := (mkF m 1 #[.val (.ref a1), .val (.ref t1), .val (.int (0 : Int32))] [(.ref a1)])) rfl (by rw [hml]; rfl) rfl (hb hby d4_1) (by decide) (W := 0) (by show 2 * 0 + _ ≤ _; exact Nat.le_of_eq rfl) (by decide)
  refine Go.via st101 ?_
  show Go p e below _ (T101.setTop (mkF m 4 #[.val (.ref a1), .val (.ref t1), .val (.int (0 : Int32))] []))
  refine Go.via (fun _ => XS.aloadN X101.here hx rfl (hb hby d4_4) rfl rfl) ?_
  show Go p e below _ (T101.setTop (mkF m 5 #[.val (.ref a1), .val (.ref t1), .val (.int (0 : Int32))] [(.ref a1)]))
  refine Go.via (fun _ => XS.aloadN X101.here hx rfl (hb hby d4_5) rfl rfl) ?_
  show Go p e below _ (T101.setTop (mkF m 6 #[.val (.ref a1), .val (.ref t1), .val (.int (0 : Int32))] [(.ref t1), (.ref a1)]))
  obtain ⟨T102, h102, X102, e102, W102, st102⟩ := putF X101 hx hZ hown (host := "") (Or.inl (hw _ (List.mem_of_getElem? (i := 24) rfl))) Via.refl e101 F1 E1 (Or.inr ⟨(hw _ (List.mem_of_getElem? (i := 25) rfl)), rfl, hnm⟩) (hw _ (List.mem_of_getElem? (i := 12) rfl)) (ty := (.array .byte)) (by decide) rfl rfl (g := (mkF m 6 #[.val (.ref a1), .val (.ref t1), .val (.int (0 : Int32))] [(.ref t1), (.ref a1)])) rfl rfl (hb hby d4_6)
  refine Go.via st102 ?_
  have fF_a1_value_102 : Fld Z h102 a1 "java/lang/String" "value" "[B" (.ref t1) := F1.same W102
  have Zs102 : n0 ≤ h102.size := Nat.le_trans Z0 (Keep.of_wr W102).1
  have K102 : Keep h0 h102 [a1] := (Keep.refl h0 [a1]).wr W102 (Or.inl (List.mem_of_getElem? (i := 0) rfl))
  have N102 := Fr.snoc X102 N0 g1
  have fE_a1_102 := E1.wr W102
  have fF_a1_coder_102 := F2.other W102 (Or.inr (slot_ne (Or.inr (hw _ (List.mem_of_getElem? (i := 27) rfl))) (Or.inr (hw _ (List.mem_of_getElem? (i := 25) rfl))) (by decide) (t := .byte) (t' := (.array .byte)) (by decide) (by decide)))
  show Go p e below _ (T102.setTop (mkF m 9 #[.val (.ref a1), .val (.ref t1), .val (.int (0 : Int32))] []))
  refine Go.via (fun _ => XS.aloadN X102.here hx rfl (hb hby d4_9) rfl rfl) ?_
  show Go p e below _ (T102.setTop (mkF m 10 #[.val (.ref a1), .val (.ref t1), .val (.int (0 : Int32))] [(.ref a1)]))
  refine Go.via (fun _ => XS.iloadN X102.here hx rfl (hb hby d4_10) rfl) ?_
  show Go p e below _ (T102.setTop (mkF m 11 #[.val (.ref a1), .val (.ref t1), .val (.int (0 : Int32))] [(.int (0 : Int32)), (.ref a1)]))
  obtain ⟨T103, h103, X103, e103, W103, st103⟩ := putFN X102 hx hZ hown (hw _ (List.mem_of_getElem? (i := 26) rfl)) Via.refl e102 fF_a1_coder_102 fE_a1_102 (Or.inr ⟨(hw _ (List.mem_of_getElem? (i := 27) rfl)), rfl, hnm⟩) (hw _ (List.mem_of_getElem? (i := 12) rfl)) (ty := .byte) (v' := .int (nar .byte (0 : Int32))) (by decide) rfl (fits_nar_byte _) (g := (mkF m 11 #[.val (.ref a1), .val (.ref t1), .val (.int (0 : Int32))] [(.int (0 : Int32)), (.ref a1)])) rfl rfl (hb hby d4_11)
  refine Go.via st103 ?_
  have fF_a1_coder_103 : Fld Z h103 a1 "java/lang/String" "coder" "B" (.int (0 : Int32)) := fF_a1_coder_102.same W103
  have Zs103 : n0 ≤ h103.size := Nat.le_trans Zs102 (Keep.of_wr W103).1
  have K103 : Keep h0 h103 [a1] := K102.wr W103 (Or.inl (List.mem_of_getElem? (i := 0) rfl))
  have N103 := Fr.snoc X103 N102 g1
  have fE_a1_103 := fE_a1_102.wr W103
  have fF_a1_value_103 := fF_a1_value_102.other W103 (Or.inr (slot_ne (Or.inr (hw _ (List.mem_of_getElem? (i := 25) rfl))) (Or.inr (hw _ (List.mem_of_getElem? (i := 27) rfl))) (by decide) (t := (.array .byte)) (t' := .byte) (by decide) (by decide)))
  show Go p e below _ (T103.setTop (mkF m 14 #[.val (.ref a1), .val (.ref t1), .val (.int (0 : Int32))] []))
  exact own_retV X103 hx hlk Bd.returns (hb hby d4_14) (by show QIB_0 Z a1 t1 h0 n0 _ T103.heap _; rw [e103]; exact ⟨rfl, N103, K103, fF_a1_value_103, fF_a1_coder_103⟩) (by decide) (by decide)
theorem ef_rmTB_1 (m : MethodId) (x0 : Int32) : entryFrame m #[(.int x0)] 1 = mkF m 0 #[.val (.int x0)] [] := by first | (simp [entryFrame, mkF, argsToLocals, Value.category]; done) | rfl
def QTB_1 (Z : State) (ch : Int32) (h0 : Heap) (n0 : Nat) (v : Option Value) (h : Heap) (L : List Loc) : Prop := ∃ (t : Addr) (kb : ClassId), v = some (.ref t) ∧ Fr n0 L ∧ Keep h0 h [] ∧ h0.size ≤ t ∧ Arv Z h t kb .byte (1 : Int32) [(.int (nar .byte (ch.toInt8.toInt32)))] (.int (0 : Int32))
set_option maxRecDepth 65536 in
set_option maxHeartbeats 40000000 in
theorem rmTB_1 (l : Launch) (Z : State) (a0 : Array Value) (hw : ∀ d ∈ tables_1, d.before a0 Z = true) (ws : List Jvm.Cond) (ch : Int32) (h0 : Heap) (n0 : Nat) (Z0 : n0 ≤ h0.size) :
    MetFree l (⟨"java/lang/StringLatin1", "toBytes", "(C)[B"⟩ : MethodName) (head1 (Jvm.Cond.code (⟨"java/lang/StringLatin1", "toBytes", "(C)[B"⟩ : MethodName) jdk_43_method_46_code 1 (some (.array .byte)) :: ws) ({ frames := 0, cells := 1, slots := 1, locals := 0 } : Room)) (fun a U => a = #[(.int ch)] ∧ Z.Warmed39 U.vm ∧ U.heap = h0) (fun _ _ _ _ _ => True) (fun _ U o U' => ∃ v L, o = .returned v ∧ QTB_1 Z ch h0 n0 v U'.heap L ∧ FrameEnd U o U' L ({ frames := 0, cells := 1, slots := 1, locals := 0 } : Room).cells ({ frames := 0, cells := 1, slots := 1, locals := 0 } : Room).slots) := by
  refine MetFree.of_bodySF (plainFor_of_name pn_java_lang_StringLatin1) hisR ?_
  intro p e s m args below meth c s₁ Bd hml0 hP hK
  obtain ⟨rfl, hZ, hh⟩ := hP
  have hx := Bd.exec
  have hby := Bd.bytes
  have hlk : meth.locks = false := Bd.notSynchronized
  have hml : c.maxLocals = 1 := hml0
  have hown : s.vm.findClass "java/lang/StringLatin1" = some m.cls := findClass_of_methodNamed Bd.named
  have hnm := (name_of_methodNamed Bd.named Bd.method).1
  have X0 : Stand p l e ({ frames := 0, cells := 1, slots := 1, locals := 0 } : Room) s m #[(.int ch)] below meth c s₁ [] 0 0 := Stand.of_body Bd
  have e0 : s₁.heap = h0 := by rw [← hh, Bd.state]; rfl
  have N0 := Fr.nil n0
  show Go p e below (FinE s below (QTB_1 Z ch h0 n0) ({ frames := 0, cells := 1, slots := 1, locals := 0 } : Room).cells ({ frames := 0, cells := 1, slots := 1, locals := 0 } : Room).slots) (s₁.setTop (entryFrame m #[(.int ch)] 1))
  refine Go.via (fun t k => castTop (ef_rmTB_1 m ch) k) ?_
  show Go p e below _ (s₁.setTop (mkF m 0 #[.val (.int ch)] []))
  refine Go.via (fun _ => XS.iconst X0.here hx rfl (hb hby d3_0)) ?_
  show Go p e below _ (s₁.setTop (mkF m 1 #[.val (.int ch)] [(.int (1 : Int32))]))
  obtain ⟨T101, h101, k101, X101, e101, E101, A101, st101⟩ := newP X0 hx hZ (hw _ (List.mem_of_getElem? (i := 16) rfl)) e0 (g := (mkF m 1 #[.val (.int ch)] [(.int (1 : Int32))])) rfl (hb hby d3_1) rfl (by decide) (cap := 1) (by decide) (by decide) (by decide) (by decide)
  obtain ⟨b101, g101⟩ : ∃ z, z = h0.size := ⟨_, rfl⟩
  rw [← g101] at A101 st101
  have g_b101 : n0 ≤ b101 := Nat.le_trans Z0 (Nat.le_of_eq g101.symm)
  have sz_b101 : h0.size ≤ b101 := Nat.le_trans (Keep.refl h0 []).1 (Nat.le_of_eq g101.symm)
  refine Go.via st101 ?_
  have Zs101 : n0 ≤ h101.size := Nat.le_trans Z0 E101.1
  have K101 : Keep h0 h101 [] := (Keep.refl h0 []).ext E101
  have V_b101 : Arv Z h101 b101 k101 .byte (1 : Int32) [(.int (0 : Int32))] (.int (0 : Int32)) := (Arv.new A101 (by decide)).pad (pad_rep [] (.int (0 : Int32)) 1)
  show Go p e below _ (T101.setTop (mkF m 3 #[.val (.int ch)] [(.ref b101)]))
  refine Go.via (fun _ => XS.dup X101.here hx rfl (hb hby d3_3) rfl rfl) ?_
  show Go p e below _ (T101.setTop (mkF m 4 #[.val (.int ch)] [(.ref b101), (.ref b101)]))
  refine Go.via (fun _ => XS.iconst X101.here hx rfl (hb hby d3_4)) ?_
  show Go p e below _ (T101.setTop (mkF m 5 #[.val (.int ch)] [(.int (0 : Int32)), (.ref b101), (.ref b101)]))
  refine Go.via (fun _ => XS.iloadN X101.here hx rfl (hb hby d3_5) rfl) ?_
  show Go p e below _ (T101.setTop (mkF m 6 #[.val (.int ch)] [(.int ch), (.int (0 : Int32)), (.ref b101), (.ref b101)]))
  refine Go.via (fun _ => XS.i2b X101.here hx rfl (hb hby d3_6) rfl) ?_
  show Go p e below _ (T101.setTop (mkF m 7 #[.val (.int ch)] [(.int (ch.toInt8.toInt32)), (.int (0 : Int32)), (.ref b101), (.ref b101)]))
  obtain ⟨cl102, Ar102, q102, S102, N102n, H102, G102⟩ := id V_b101
  have hin102 := inb_of (j := (0 : Int32)) S102 (by decide)
  obtain ⟨T102, h102, X102, e102, W102, st102⟩ := stB X101 hx hZ e101 Ar102 (j := (0 : Int32)) hin102 (g := (mkF m 7 #[.val (.int ch)] [(.int (ch.toInt8.toInt32)), (.int (0 : Int32)), (.ref b101), (.ref b101)])) rfl rfl (hb hby d3_7)
  refine Go.via st102 ?_
  have V102 : Arv Z h102 b101 k101 .byte (1 : Int32) [(.int (nar .byte (ch.toInt8.toInt32)))] (.int (0 : Int32)) := Arv.set Ar102 q102 S102 N102n H102 G102 (fits_nar_byte _) W102 0 rfl (Nat.le_of_ble_eq_true rfl)
  have Zs102 : n0 ≤ h102.size := Nat.le_trans Zs101 (Keep.of_wr W102).1
  have K102 : Keep h0 h102 [] := K101.wr W102 (Or.inr sz_b101)
  have N102 := Fr.snoc X102 N0 g_b101
  show Go p e below _ (T102.setTop (mkF m 8 #[.val (.int ch)] [(.ref b101)]))
  exact own_retA X102 hx hlk Bd.returns rfl rfl (hb hby d3_8) (by show QTB_1 Z ch h0 n0 _ T102.heap _; rw [e102]; exact ⟨b101, k101, rfl, N102, K102, sz_b101, V102⟩) (by decide) (by decide)
theorem ef_rmVO (m : MethodId) (x0 : Int32) : entryFrame m #[(.int x0)] 1 = mkF m 0 #[.val (.int x0)] [] := by first | (simp [entryFrame, mkF, argsToLocals, Value.category]; done) | rfl
def QVO (Z : State) (ch : Int32) (ccs : Int32) (h0 : Heap) (n0 : Nat) (v : Option Value) (h : Heap) (L : List Loc) : Prop := ∃ a : Addr, v = some (.ref a) ∧ Fr n0 L ∧ Keep h0 h [] ∧ h0.size ≤ a ∧ Exa Z h a "java/lang/String"
set_option maxRecDepth 65536 in
set_option maxHeartbeats 40000000 in
theorem rmVO (l : Launch) (Z : State) (a0 : Array Value) (hw : ∀ d ∈ tables_1, d.before a0 Z = true) (ws : List Jvm.Cond) (ch : Int32) (ccs : Int32) (h0 : Heap) (n0 : Nat) (Z0 : n0 ≤ h0.size) (O0 : Old Z n0 h0) (S_CS : Sta Z Z.heap "java/lang/String" "COMPACT_STRINGS" "Z" (.int ccs)) (hcs : ¬ (ccs = (0 : Int32))) (hl : ¬ ((255 : Int32) < ch)) :
    MetFree l (⟨"java/lang/String", "valueOf", "(C)Ljava/lang/String;"⟩ : MethodName) (head1 (Jvm.Cond.code (⟨"java/lang/String", "valueOf", "(C)Ljava/lang/String;"⟩ : MethodName) jdk_42_method_139_code 1 (some (.object "java/lang/String")) :: ws) ({ frames := 2, cells := 2, slots := 5, locals := 27 } : Room)) (fun a U => a = #[(.int ch)] ∧ Z.Warmed39 U.vm ∧ U.heap = h0) (fun _ _ _ _ _ => True) (fun _ U o U' => ∃ v L, o = .returned v ∧ QVO Z ch ccs h0 n0 v U'.heap L ∧ FrameEnd U o U' L ({ frames := 2, cells := 2, slots := 5, locals := 27 } : Room).cells ({ frames := 2, cells := 2, slots := 5, locals := 27 } : Room).slots) := by
  refine MetFree.of_bodySF (plainFor_of_name pn_java_lang_String) hisR ?_
  intro p e s m args below meth c s₁ Bd hml0 hP hK
  obtain ⟨rfl, hZ, hh⟩ := hP
  have hx := Bd.exec
  have hby := Bd.bytes
  have hlk : meth.locks = false := Bd.notSynchronized
  have hml : c.maxLocals = 1 := hml0
  have hown : s.vm.findClass "java/lang/String" = some m.cls := findClass_of_methodNamed Bd.named
  have hnm := (name_of_methodNamed Bd.named Bd.method).1
  have X0 : Stand p l e ({ frames := 2, cells := 2, slots := 5, locals := 27 } : Room) s m #[(.int ch)] below meth c s₁ [] 0 0 := Stand.of_body Bd
  have e0 : s₁.heap = h0 := by rw [← hh, Bd.state]; rfl
  have N0 := Fr.nil n0
  show Go p e below (FinE s below (QVO Z ch ccs h0 n0) ({ frames := 2, cells := 2, slots := 5, locals := 27 } : Room).cells ({ frames := 2, cells := 2, slots := 5, locals := 27 } : Room).slots) (s₁.setTop (entryFrame m #[(.int ch)] 1))
  refine Go.via (fun t k => castTop (ef_rmVO m ch) k) ?_
  show Go p e below _ (s₁.setTop (mkF m 0 #[.val (.int ch)] []))
  obtain ⟨T101, X101, e101, st101⟩ := getS2 X0 hx hZ hown (host := "") (Or.inl (hw _ (List.mem_of_getElem? (i := 6) rfl))) Via.refl e0 (S_CS.ext O0.2) (g := (mkF m 0 #[.val (.int ch)] [])) rfl (hb hby d1_0)
  refine Go.via st101 ?_
  show Go p e below _ (T101.setTop (mkF m 3 #[.val (.int ch)] [(.int ccs)]))
  refine Go.via (fun _ => XS.ifNo X101.here hx rfl (hb hby d1_3) rfl ((if0 _ _).trans (feq hcs).1)) ?_
  show Go p e below _ (T101.setTop (mkF m 6 #[.val (.int ch)] []))
  refine Go.via (fun _ => XS.iloadN X101.here hx rfl (hb hby d1_6) rfl) ?_
  show Go p e below _ (T101.setTop (mkF m 7 #[.val (.int ch)] [(.int ch)]))
  obtain ⟨_, _, ⟨T102, L102, k102, n102⟩, -, X102, ⟨Lc102, hQ102, l102, y102, z102⟩, st102⟩ := Jvm.LawKit.callS X101 hx (y := (⟨"java/lang/StringLatin1", "canEncode", "(C)Z"⟩ : MethodName)) hown (mvT hZ (hw _ (List.mem_of_getElem? (i := 7) rfl))) (mvT hZ (hw _ (List.mem_of_getElem? (i := 8) rfl))) (mvT hZ (hw _ (List.mem_of_getElem? (i := 9) rfl))) (mvT hZ (hw _ (List.mem_of_getElem? (i := 10) rfl))) (by decide) (backOf (W := 0) (rmCanC_1 l Z a0 hw [] ch h0 n0 Z0 hl) hZ (hw _ (List.mem_of_getElem? (i := 10) rfl)) (hw _ (List.mem_of_getElem? (i := 9) rfl)) (by decide) (by decide)) (g := (mkF m 7 #[.val (.int ch)] [(.int ch)])) rfl (by rw [hml]; rfl) (argsL := [(.int ch)]) (rest := []) (lenOf pd_7 rfl) rfl (by show 2 * 0 + _ ≤ _; exact Nat.le_of_eq rfl) (hb hby d1_7) (fun _ _ => ⟨rfl, e101, (by decide : 0 + 0 ≤ _), (by decide : 0 + 0 ≤ _)⟩)
  dsimp only [Pt.U, Pt.locs, Pt.cells, Pt.slots] at X102 l102 y102 z102 st102 hQ102
  rw [l102, y102, z102] at X102
  replace X102 : Stand p l e _ _ m _ below meth c T102 _ 0 0 := X102
  obtain ⟨rfl, N102q, e102q⟩ := hQ102
  have N102 := Fr.app N0 N102q
  refine Go.via st102 ?_
  show Go p e below _ (T102.setTop (mkF m 10 #[.val (.int ch)] [(.int (1 : Int32))]))
  refine Go.via (fun _ => XS.ifNo X102.here hx rfl (hb hby d1_10) rfl (by decide)) ?_
  show Go p e below _ (T102.setTop (mkF m 13 #[.val (.int ch)] []))
  obtain ⟨T103, h103, X103, e103, E103, A103, D103, -, st103⟩ := newO X102 hx hZ hown (hw _ (List.mem_of_getElem? (i := 11) rfl)) (hw _ (List.mem_of_getElem? (i := 12) rfl)) (hw _ (List.mem_of_getElem? (i := 4) rfl)) e102q (g := (mkF m 13 #[.val (.int ch)] [])) rfl (hb hby d1_13) (by decide) (by decide)
  obtain ⟨b103, g103⟩ : ∃ z, z = h0.size := ⟨_, rfl⟩
  rw [← g103] at A103 D103 st103
  have g_b103 : n0 ≤ b103 := Nat.le_trans Z0 (Nat.le_of_eq g103.symm)
  have sz_b103 : h0.size ≤ b103 := Nat.le_trans (Keep.refl h0 []).1 (Nat.le_of_eq g103.symm)
  refine Go.via st103 ?_
  have Zs103 : n0 ≤ h103.size := Nat.le_trans Z0 E103.1
  have O103 : Old Z n0 h103 := O0.ext E103
  have K103 : Keep h0 h103 [] := (Keep.refl h0 []).ext E103
  have F_value_b103 : Fld Z h103 b103 "java/lang/String" "value" "[B" .null := D103 (Or.inr (hw _ (List.mem_of_getElem? (i := 25) rfl))) (ty := (.array .byte)) (by decide)
  have F_coder_b103 : Fld Z h103 b103 "java/lang/String" "coder" "B" (.int (0 : Int32)) := D103 (Or.inr (hw _ (List.mem_of_getElem? (i := 27) rfl))) (ty := .byte) (by decide)
  show Go p e below _ (T103.setTop (mkF m 16 #[.val (.int ch)] [(.ref b103)]))
  refine Go.via (fun _ => XS.dup X103.here hx rfl (hb hby d1_16) rfl rfl) ?_
  show Go p e below _ (T103.setTop (mkF m 17 #[.val (.int ch)] [(.ref b103), (.ref b103)]))
  refine Go.via (fun _ => XS.iloadN X103.here hx rfl (hb hby d1_17) rfl) ?_
  show Go p e below _ (T103.setTop (mkF m 18 #[.val (.int ch)] [(.int ch), (.ref b103), (.ref b103)]))
  obtain ⟨_, _, ⟨T104, L104, k104, n104⟩, -, X104, ⟨Lc104, hQ104, l104, y104, z104⟩, st104⟩ := Jvm.LawKit.callS X103 hx (y := (⟨"java/lang/StringLatin1", "toBytes", "(C)[B"⟩ : MethodName)) hown (mvT hZ (hw _ (List.mem_of_getElem? (i := 13) rfl))) (mvT hZ (hw _ (List.mem_of_getElem? (i := 14) rfl))) (mvT hZ (hw _ (List.mem_of_getElem? (i := 9) rfl))) (mvT hZ (hw _ (List.mem_of_getElem? (i := 15) rfl))) (by decide) (backOf (W := 2) (rmTB_1 l Z a0 hw [] ch h103 n0 Zs103) hZ (hw _ (List.mem_of_getElem? (i := 15) rfl)) (hw _ (List.mem_of_getElem? (i := 9) rfl)) (by decide) (by decide)) (g := (mkF m 18 #[.val (.int ch)] [(.int ch), (.ref b103), (.ref b103)])) rfl (by rw [hml]; rfl) (argsL := [(.int ch)]) (rest := [(.ref b103), (.ref b103)]) (lenOf pd_8 rfl) rfl (by show 2 * 0 + _ ≤ _; exact Nat.le_of_eq rfl) (hb hby d1_18) (fun _ _ => ⟨rfl, e103, (by decide : 1 + 1 ≤ _), (by decide : 4 + 1 ≤ _)⟩)
  dsimp only [Pt.U, Pt.locs, Pt.cells, Pt.slots] at X104 l104 y104 z104 st104 hQ104
  rw [l104, y104, z104] at X104
  replace X104 : Stand p l e _ _ m _ below meth c T104 _ 2 5 := X104
  obtain ⟨t104, kb104, rfl, N104q, K104q, gt104, va104⟩ := hQ104
  have N104 := Fr.app N102 N104q
  refine Go.via st104 ?_
  have Zs104 : n0 ≤ T104.heap.size := Nat.le_trans Zs103 K104q.1
  have O104 : Old Z n0 T104.heap := O103.keep K104q all0
  have K104 : Keep h0 T104.heap [] := K103.trans K104q all0
  have fE_b103_104 := A103.keep K104q
  have fF_b103_value_104 := F_value_b103.keep K104q nin0
  have fF_b103_coder_104 := F_coder_b103.keep K104q nin0
  have g_t104 : n0 ≤ t104 := Nat.le_trans Zs103 gt104
  have ne_b103_t104 : b103 ≠ t104 := Nat.ne_of_lt (Nat.lt_of_lt_of_le A103.lt gt104)
  have sz_t104 : h0.size ≤ t104 := Nat.le_trans K103.1 gt104
  show Go p e below _ (T104.setTop (mkF m 21 #[.val (.int ch)] [(.ref t104), (.ref b103), (.ref b103)]))
  refine Go.via (fun _ => XS.iconst X104.here hx rfl (hb hby d1_21)) ?_
  show Go p e below _ (T104.setTop (mkF m 22 #[.val (.int ch)] [(.int (0 : Int32)), (.ref t104), (.ref b103), (.ref b103)]))
  obtain ⟨_, _, ⟨T105, L105, k105, n105⟩, -, X105, ⟨Lc105, hQ105, l105, y105, z105⟩, st105⟩ := X104.specialBack hx (y := (⟨"java/lang/String", "<init>", "([BB)V"⟩ : MethodName)) rfl hown (mvT hZ (hw _ (List.mem_of_getElem? (i := 17) rfl))) (mvT hZ (hw _ (List.mem_of_getElem? (i := 18) rfl))) (mvT hZ (hw _ (List.mem_of_getElem? (i := 20) rfl))) (by decide) (backOf (W := 1) (rmIB_0 l Z a0 hw [] b103 t104 T104.heap n0 Zs104 fE_b103_104 fF_b103_value_104 fF_b103_coder_104 g_b103) hZ (hw _ (List.mem_of_getElem? (i := 20) rfl)) (hw _ (List.mem_of_getElem? (i := 4) rfl)) (by decide) (by decide)) (g := (mkF m 22 #[.val (.int ch)] [(.int (0 : Int32)), (.ref t104), (.ref b103), (.ref b103)])) rfl (by rw [hml]; rfl) (Steps.refl _) (a := b103) (argsL := [(.ref t104), (.int (0 : Int32))]) (rest := [(.ref b103)]) (lenOf pd_9 rfl) rfl (by show 2 * 0 + _ ≤ _; exact Nat.le_of_eq rfl) (hb hby d1_22) (fun _ _ => ⟨rfl, rfl, (by decide : 2 + 0 ≤ _), (by decide : 5 + 0 ≤ _)⟩)
  dsimp only [Pt.U, Pt.locs, Pt.cells, Pt.slots] at X105 l105 y105 z105 st105 hQ105
  rw [l105, y105, z105] at X105
  replace X105 : Stand p l e _ _ m _ below meth c T105 _ 2 5 := X105
  obtain ⟨rfl, N105q, K105q, fv105, fc105⟩ := hQ105
  have N105 := Fr.app N104 N105q
  refine Go.tr st105 ?_
  have Zs105 : n0 ≤ T105.heap.size := Nat.le_trans Zs104 K105q.1
  have O105 : Old Z n0 T105.heap := O104.keep K105q (allS g_b103 all0)
  have K105 : Keep h0 T105.heap [] := K104.trans K105q (allS (Or.inr sz_b103) all0)
  have fE_b103_105 := fE_b103_104.keep K105q
  have fV_t104_105 := va104.keep K105q (ninS (Ne.symm ne_b103_t104) nin0)
  show Go p e below _ (T105.setTop (mkF m 25 #[.val (.int ch)] [(.ref b103)]))
  exact own_retA X105 hx hlk Bd.returns rfl rfl (hb hby d1_25) (by show QVO Z ch ccs h0 n0 _ T105.heap _; exact ⟨b103, rfl, N105, K105, sz_b103, fE_b103_105⟩) (by decide) (by decide)
theorem ef_rmC2_2 (m : MethodId) (x0 : Addr) (x2 : Addr) : entryFrame m #[(.ref x0), (.int (0 : Int32)), (.ref x2), (.int (0 : Int32)), (.int (2 : Int32))] 7 = mkF m 0 #[.val (.ref x0), .val (.int (0 : Int32)), .val (.ref x2), .val (.int (0 : Int32)), .val (.int (2 : Int32)), .unset, .unset] [] := by first | (simp [entryFrame, mkF, argsToLocals, Value.category]; done) | rfl
def QC2_2 (Z : State) (a1 : Addr) (kc1 : ClassId) (b1 : Addr) (kc2 : ClassId) (c0 : Int32) (c1 : Int32) (h0 : Heap) (n0 : Nat) (v : Option Value) (h : Heap) (L : List Loc) : Prop := v = some (.int (2 : Int32)) ∧ Fr n0 L ∧ Keep h0 h [b1] ∧ Arv Z h b1 kc2 .byte (2 : Int32) [(.int (nar .byte (c0.toInt8.toInt32))), (.int (nar .byte (c1.toInt8.toInt32)))] (.int (0 : Int32))
set_option maxRecDepth 65536 in
set_option maxHeartbeats 40000000 in
theorem rmC2_2 (l : Launch) (Z : State) (a0 : Array Value) (hw : ∀ d ∈ tables_1, d.before a0 Z = true) (ws : List Jvm.Cond) (a1 : Addr) (kc1 : ClassId) (b1 : Addr) (kc2 : ClassId) (c0 : Int32) (c1 : Int32) (h0 : Heap) (n0 : Nat) (Z0 : n0 ≤ h0.size) (V1 : Arv Z h0 a1 kc1 .char (2 : Int32) [(.int c0), (.int c1)] (.int (0 : Int32))) (V2 : Arv Z h0 b1 kc2 .byte (2 : Int32) [(.int (0 : Int32)), (.int (0 : Int32))] (.int (0 : Int32))) (g1 : n0 ≤ b1) (ne1 : a1 ≠ b1) (hl0 : ¬ ((255 : Int32) < c0)) (hl1 : ¬ ((255 : Int32) < c1)) :
    MetFree l (⟨"java/lang/StringUTF16", "compress", "([CI[BII)I"⟩ : MethodName) (head1 (Jvm.Cond.code (⟨"java/lang/StringUTF16", "compress", "([CI[BII)I"⟩ : MethodName) jdk_52_method_21_code 7 (some .int) :: ws) ({ frames := 0, cells := 0, slots := 0, locals := 0 } : Room)) (fun a U => a = #[(.ref a1), (.int (0 : Int32)), (.ref b1), (.int (0 : Int32)), (.int (2 : Int32))] ∧ Z.Warmed39 U.vm ∧ U.heap = h0) (fun _ _ _ _ _ => True) (fun _ U o U' => ∃ v L, o = .returned v ∧ QC2_2 Z a1 kc1 b1 kc2 c0 c1 h0 n0 v U'.heap L ∧ FrameEnd U o U' L ({ frames := 0, cells := 0, slots := 0, locals := 0 } : Room).cells ({ frames := 0, cells := 0, slots := 0, locals := 0 } : Room).slots) := by
  refine MetFree.of_bodySF (plainFor_of_name pn_java_lang_StringUTF16) hisR ?_
  intro p e s m args below meth c s₁ Bd hml0 hP hK
  obtain ⟨rfl, hZ, hh⟩ := hP
  have hx := Bd.exec
  have hby := Bd.bytes
  have hlk : meth.locks = false := Bd.notSynchronized
  have hml : c.maxLocals = 7 := hml0
  have hown : s.vm.findClass "java/lang/StringUTF16" = some m.cls := findClass_of_methodNamed Bd.named
  have hnm := (name_of_methodNamed Bd.named Bd.method).1
  have X0 : Stand p l e ({ frames := 0, cells := 0, slots := 0, locals := 0 } : Room) s m #[(.ref a1), (.int (0 : Int32)), (.ref b1), (.int (0 : Int32)), (.int (2 : Int32))] below meth c s₁ [] 0 0 := Stand.of_body Bd
  have e0 : s₁.heap = h0 := by rw [← hh, Bd.state]; rfl
  have N0 := Fr.nil n0
  show Go p e below (FinE s below (QC2_2 Z a1 kc1 b1 kc2 c0 c1 h0 n0) ({ frames := 0, cells := 0, slots := 0, locals := 0 } : Room).cells ({ frames := 0, cells := 0, slots := 0, locals := 0 } : Room).slots) (s₁.setTop (entryFrame m #[(.ref a1), (.int (0 : Int32)), (.ref b1), (.int (0 : Int32)), (.int (2 : Int32))] 7))
  refine Go.via (fun t k => castTop (ef_rmC2_2 m a1 b1) k) ?_
  show Go p e below _ (s₁.setTop (mkF m 0 #[.val (.ref a1), .val (.int (0 : Int32)), .val (.ref b1), .val (.int (0 : Int32)), .val (.int (2 : Int32)), .unset, .unset] []))
  refine Go.via (fun _ => XS.iconst X0.here hx rfl (hb hby d18_0)) ?_
  show Go p e below _ (s₁.setTop (mkF m 1 #[.val (.ref a1), .val (.int (0 : Int32)), .val (.ref b1), .val (.int (0 : Int32)), .val (.int (2 : Int32)), .unset, .unset] [(.int (0 : Int32))]))
  refine Go.via (fun _ => XS.istore X0.here hx rfl (hb hby d18_1) rfl (l' := #[.val (.ref a1), .val (.int (0 : Int32)), .val (.ref b1), .val (.int (0 : Int32)), .val (.int (2 : Int32)), .val (.int (0 : Int32)), .unset]) rfl) ?_
  show Go p e below _ (s₁.setTop (mkF m 3 #[.val (.ref a1), .val (.int (0 : Int32)), .val (.ref b1), .val (.int (0 : Int32)), .val (.int (2 : Int32)), .val (.int (0 : Int32)), .unset] []))
  refine Go.via (fun _ => XS.iload X0.here hx rfl (hb hby d18_3) rfl) ?_
  show Go p e below _ (s₁.setTop (mkF m 5 #[.val (.ref a1), .val (.int (0 : Int32)), .val (.ref b1), .val (.int (0 : Int32)), .val (.int (2 : Int32)), .val (.int (0 : Int32)), .unset] [(.int (0 : Int32))]))
  refine Go.via (fun _ => XS.iload X0.here hx rfl (hb hby d18_5) rfl) ?_
  show Go p e below _ (s₁.setTop (mkF m 7 #[.val (.ref a1), .val (.int (0 : Int32)), .val (.ref b1), .val (.int (0 : Int32)), .val (.int (2 : Int32)), .val (.int (0 : Int32)), .unset] [(.int (2 : Int32)), (.int (0 : Int32))]))
  refine Go.via (fun _ => XS.icmpNo X0.here hx rfl (hb hby d18_7) rfl (by decide)) ?_
  show Go p e below _ (s₁.setTop (mkF m 10 #[.val (.ref a1), .val (.int (0 : Int32)), .val (.ref b1), .val (.int (0 : Int32)), .val (.int (2 : Int32)), .val (.int (0 : Int32)), .unset] []))
  refine Go.via (fun _ => XS.aloadN X0.here hx rfl (hb hby d18_10) rfl rfl) ?_
  show Go p e below _ (s₁.setTop (mkF m 11 #[.val (.ref a1), .val (.int (0 : Int32)), .val (.ref b1), .val (.int (0 : Int32)), .val (.int (2 : Int32)), .val (.int (0 : Int32)), .unset] [(.ref a1)]))
  refine Go.via (fun _ => XS.iloadN X0.here hx rfl (hb hby d18_11) rfl) ?_
  show Go p e below _ (s₁.setTop (mkF m 12 #[.val (.ref a1), .val (.int (0 : Int32)), .val (.ref b1), .val (.int (0 : Int32)), .val (.int (2 : Int32)), .val (.int (0 : Int32)), .unset] [(.int (0 : Int32)), (.ref a1)]))
  obtain ⟨cl101, Ar101, q101, S101, N101n, H101, G101⟩ := id V1
  have hin101 := inb_of (j := (0 : Int32)) S101 (by decide)
  have hat101 : cl101.slots[((0 : Int32) : Int32).toNatClampNeg]? = some (.int c0) := H101.at hin101 rfl
  refine Go.via (X0.caload hx (j := (0 : Int32)) (v := (.int c0)) (by rw [e0]; exact Ar101.1) (State.isArrayOf_alike hZ.alike Ar101.2.1) Ar101.2.2 hin101 hat101 (g := (mkF m 12 #[.val (.ref a1), .val (.int (0 : Int32)), .val (.ref b1), .val (.int (0 : Int32)), .val (.int (2 : Int32)), .val (.int (0 : Int32)), .unset] [(.int (0 : Int32)), (.ref a1)])) rfl rfl (hb hby d18_12)) ?_
  show Go p e below _ (s₁.setTop (mkF m 13 #[.val (.ref a1), .val (.int (0 : Int32)), .val (.ref b1), .val (.int (0 : Int32)), .val (.int (2 : Int32)), .val (.int (0 : Int32)), .unset] [(.int c0)]))
  refine Go.via (fun _ => XS.istore X0.here hx rfl (hb hby d18_13) rfl (l' := #[.val (.ref a1), .val (.int (0 : Int32)), .val (.ref b1), .val (.int (0 : Int32)), .val (.int (2 : Int32)), .val (.int (0 : Int32)), .val (.int c0)]) rfl) ?_
  show Go p e below _ (s₁.setTop (mkF m 15 #[.val (.ref a1), .val (.int (0 : Int32)), .val (.ref b1), .val (.int (0 : Int32)), .val (.int (2 : Int32)), .val (.int (0 : Int32)), .val (.int c0)] []))
  refine Go.via (fun _ => XS.iload X0.here hx rfl (hb hby d18_15) rfl) ?_
  show Go p e below _ (s₁.setTop (mkF m 17 #[.val (.ref a1), .val (.int (0 : Int32)), .val (.ref b1), .val (.int (0 : Int32)), .val (.int (2 : Int32)), .val (.int (0 : Int32)), .val (.int c0)] [(.int c0)]))
  refine Go.via (fun _ => XS.sipush X0.here hx rfl (hb hby d18_17)) ?_
  show Go p e below _ (s₁.setTop (mkF m 20 #[.val (.ref a1), .val (.int (0 : Int32)), .val (.ref b1), .val (.int (0 : Int32)), .val (.int (2 : Int32)), .val (.int (0 : Int32)), .val (.int c0)] [(.int (255 : Int32)), (.int c0)]))
  refine Go.via (fun _ => XS.icmpYes X0.here hx rfl (pc0 := 20) (pc' := 26) rfl (hb hby d18_20) rfl (flt hl0).2.2.2 (by decide) (by decide)) ?_
  show Go p e below _ (s₁.setTop (mkF m 26 #[.val (.ref a1), .val (.int (0 : Int32)), .val (.ref b1), .val (.int (0 : Int32)), .val (.int (2 : Int32)), .val (.int (0 : Int32)), .val (.int c0)] []))
  refine Go.via (fun _ => XS.aloadN X0.here hx rfl (hb hby d18_26) rfl rfl) ?_
  show Go p e below _ (s₁.setTop (mkF m 27 #[.val (.ref a1), .val (.int (0 : Int32)), .val (.ref b1), .val (.int (0 : Int32)), .val (.int (2 : Int32)), .val (.int (0 : Int32)), .val (.int c0)] [(.ref b1)]))
  refine Go.via (fun _ => XS.iloadN X0.here hx rfl (hb hby d18_27) rfl) ?_
  show Go p e below _ (s₁.setTop (mkF m 28 #[.val (.ref a1), .val (.int (0 : Int32)), .val (.ref b1), .val (.int (0 : Int32)), .val (.int (2 : Int32)), .val (.int (0 : Int32)), .val (.int c0)] [(.int (0 : Int32)), (.ref b1)]))
  refine Go.via (fun _ => XS.iload X0.here hx rfl (hb hby d18_28) rfl) ?_
  show Go p e below _ (s₁.setTop (mkF m 30 #[.val (.ref a1), .val (.int (0 : Int32)), .val (.ref b1), .val (.int (0 : Int32)), .val (.int (2 : Int32)), .val (.int (0 : Int32)), .val (.int c0)] [(.int c0), (.int (0 : Int32)), (.ref b1)]))
  refine Go.via (fun _ => XS.i2b X0.here hx rfl (hb hby d18_30) rfl) ?_
  show Go p e below _ (s₁.setTop (mkF m 31 #[.val (.ref a1), .val (.int (0 : Int32)), .val (.ref b1), .val (.int (0 : Int32)), .val (.int (2 : Int32)), .val (.int (0 : Int32)), .val (.int c0)] [(.int (c0.toInt8.toInt32)), (.int (0 : Int32)), (.ref b1)]))
  obtain ⟨cl102, Ar102, q102, S102, N102n, H102, G102⟩ := id V2
  have hin102 := inb_of (j := (0 : Int32)) S102 (by decide)
  obtain ⟨T102, h102, X102, e102, W102, st102⟩ := stB X0 hx hZ e0 Ar102 (j := (0 : Int32)) hin102 (g := (mkF m 31 #[.val (.ref a1), .val (.int (0 : Int32)), .val (.ref b1), .val (.int (0 : Int32)), .val (.int (2 : Int32)), .val (.int (0 : Int32)), .val (.int c0)] [(.int (c0.toInt8.toInt32)), (.int (0 : Int32)), (.ref b1)])) rfl rfl (hb hby d18_31)
  refine Go.via st102 ?_
  have V102 : Arv Z h102 b1 kc2 .byte (2 : Int32) [(.int (nar .byte (c0.toInt8.toInt32))), (.int (0 : Int32))] (.int (0 : Int32)) := Arv.set Ar102 q102 S102 N102n H102 G102 (fits_nar_byte _) W102 0 rfl (Nat.le_of_ble_eq_true rfl)
  have Zs102 : n0 ≤ h102.size := Nat.le_trans Z0 (Keep.of_wr W102).1
  have K102 : Keep h0 h102 [b1] := (Keep.refl h0 [b1]).wr W102 (Or.inl (List.mem_of_getElem? (i := 0) rfl))
  have N102 := Fr.snoc X102 N0 g1
  have fV_a1_102 := V1.other W102 ne1
  show Go p e below _ (T102.setTop (mkF m 32 #[.val (.ref a1), .val (.int (0 : Int32)), .val (.ref b1), .val (.int (0 : Int32)), .val (.int (2 : Int32)), .val (.int (0 : Int32)), .val (.int c0)] []))
  refine Go.via (fun _ => XS.iinc X102.here hx rfl (hb hby d18_32) rfl (l' := #[.val (.ref a1), .val (.int (1 : Int32)), .val (.ref b1), .val (.int (0 : Int32)), .val (.int (2 : Int32)), .val (.int (0 : Int32)), .val (.int c0)]) rfl) ?_
  show Go p e below _ (T102.setTop (mkF m 35 #[.val (.ref a1), .val (.int (1 : Int32)), .val (.ref b1), .val (.int (0 : Int32)), .val (.int (2 : Int32)), .val (.int (0 : Int32)), .val (.int c0)] []))
  refine Go.via (fun _ => XS.iinc X102.here hx rfl (hb hby d18_35) rfl (l' := #[.val (.ref a1), .val (.int (1 : Int32)), .val (.ref b1), .val (.int (1 : Int32)), .val (.int (2 : Int32)), .val (.int (0 : Int32)), .val (.int c0)]) rfl) ?_
  show Go p e below _ (T102.setTop (mkF m 38 #[.val (.ref a1), .val (.int (1 : Int32)), .val (.ref b1), .val (.int (1 : Int32)), .val (.int (2 : Int32)), .val (.int (0 : Int32)), .val (.int c0)] []))
  refine Go.via (fun _ => XS.iinc X102.here hx rfl (hb hby d18_38) rfl (l' := #[.val (.ref a1), .val (.int (1 : Int32)), .val (.ref b1), .val (.int (1 : Int32)), .val (.int (2 : Int32)), .val (.int (1 : Int32)), .val (.int c0)]) rfl) ?_
  show Go p e below _ (T102.setTop (mkF m 41 #[.val (.ref a1), .val (.int (1 : Int32)), .val (.ref b1), .val (.int (1 : Int32)), .val (.int (2 : Int32)), .val (.int (1 : Int32)), .val (.int c0)] []))
  refine Go.via (fun _ => XS.goto X102.here hx rfl (pc0 := 41) (pc' := 3) rfl (hb hby d18_41) (by decide) (by decide)) ?_
  show Go p e below _ (T102.setTop (mkF m 3 #[.val (.ref a1), .val (.int (1 : Int32)), .val (.ref b1), .val (.int (1 : Int32)), .val (.int (2 : Int32)), .val (.int (1 : Int32)), .val (.int c0)] []))
  refine Go.via (fun _ => XS.iload X102.here hx rfl (hb hby d18_3) rfl) ?_
  show Go p e below _ (T102.setTop (mkF m 5 #[.val (.ref a1), .val (.int (1 : Int32)), .val (.ref b1), .val (.int (1 : Int32)), .val (.int (2 : Int32)), .val (.int (1 : Int32)), .val (.int c0)] [(.int (1 : Int32))]))
  refine Go.via (fun _ => XS.iload X102.here hx rfl (hb hby d18_5) rfl) ?_
  show Go p e below _ (T102.setTop (mkF m 7 #[.val (.ref a1), .val (.int (1 : Int32)), .val (.ref b1), .val (.int (1 : Int32)), .val (.int (2 : Int32)), .val (.int (1 : Int32)), .val (.int c0)] [(.int (2 : Int32)), (.int (1 : Int32))]))
  refine Go.via (fun _ => XS.icmpNo X102.here hx rfl (hb hby d18_7) rfl (by decide)) ?_
  show Go p e below _ (T102.setTop (mkF m 10 #[.val (.ref a1), .val (.int (1 : Int32)), .val (.ref b1), .val (.int (1 : Int32)), .val (.int (2 : Int32)), .val (.int (1 : Int32)), .val (.int c0)] []))
  refine Go.via (fun _ => XS.aloadN X102.here hx rfl (hb hby d18_10) rfl rfl) ?_
  show Go p e below _ (T102.setTop (mkF m 11 #[.val (.ref a1), .val (.int (1 : Int32)), .val (.ref b1), .val (.int (1 : Int32)), .val (.int (2 : Int32)), .val (.int (1 : Int32)), .val (.int c0)] [(.ref a1)]))
  refine Go.via (fun _ => XS.iloadN X102.here hx rfl (hb hby d18_11) rfl) ?_
  show Go p e below _ (T102.setTop (mkF m 12 #[.val (.ref a1), .val (.int (1 : Int32)), .val (.ref b1), .val (.int (1 : Int32)), .val (.int (2 : Int32)), .val (.int (1 : Int32)), .val (.int c0)] [(.int (1 : Int32)), (.ref a1)]))
  obtain ⟨cl103, Ar103, q103, S103, N103n, H103, G103⟩ := id fV_a1_102
  have hin103 := inb_of (j := (1 : Int32)) S103 (by decide)
  have hat103 : cl103.slots[((1 : Int32) : Int32).toNatClampNeg]? = some (.int c1) := H103.at hin103 rfl
  refine Go.via (X102.caload hx (j := (1 : Int32)) (v := (.int c1)) (by rw [e102]; exact Ar103.1) (State.isArrayOf_alike hZ.alike Ar103.2.1) Ar103.2.2 hin103 hat103 (g := (mkF m 12 #[.val (.ref a1), .val (.int (1 : Int32)), .val (.ref b1), .val (.int (1 : Int32)), .val (.int (2 : Int32)), .val (.int (1 : Int32)), .val (.int c0)] [(.int (1 : Int32)), (.ref a1)])) rfl rfl (hb hby d18_12)) ?_
  show Go p e below _ (T102.setTop (mkF m 13 #[.val (.ref a1), .val (.int (1 : Int32)), .val (.ref b1), .val (.int (1 : Int32)), .val (.int (2 : Int32)), .val (.int (1 : Int32)), .val (.int c0)] [(.int c1)]))
  refine Go.via (fun _ => XS.istore X102.here hx rfl (hb hby d18_13) rfl (l' := #[.val (.ref a1), .val (.int (1 : Int32)), .val (.ref b1), .val (.int (1 : Int32)), .val (.int (2 : Int32)), .val (.int (1 : Int32)), .val (.int c1)]) rfl) ?_
  show Go p e below _ (T102.setTop (mkF m 15 #[.val (.ref a1), .val (.int (1 : Int32)), .val (.ref b1), .val (.int (1 : Int32)), .val (.int (2 : Int32)), .val (.int (1 : Int32)), .val (.int c1)] []))
  refine Go.via (fun _ => XS.iload X102.here hx rfl (hb hby d18_15) rfl) ?_
  show Go p e below _ (T102.setTop (mkF m 17 #[.val (.ref a1), .val (.int (1 : Int32)), .val (.ref b1), .val (.int (1 : Int32)), .val (.int (2 : Int32)), .val (.int (1 : Int32)), .val (.int c1)] [(.int c1)]))
  refine Go.via (fun _ => XS.sipush X102.here hx rfl (hb hby d18_17)) ?_
  show Go p e below _ (T102.setTop (mkF m 20 #[.val (.ref a1), .val (.int (1 : Int32)), .val (.ref b1), .val (.int (1 : Int32)), .val (.int (2 : Int32)), .val (.int (1 : Int32)), .val (.int c1)] [(.int (255 : Int32)), (.int c1)]))
  refine Go.via (fun _ => XS.icmpYes X102.here hx rfl (pc0 := 20) (pc' := 26) rfl (hb hby d18_20) rfl (flt hl1).2.2.2 (by decide) (by decide)) ?_
  show Go p e below _ (T102.setTop (mkF m 26 #[.val (.ref a1), .val (.int (1 : Int32)), .val (.ref b1), .val (.int (1 : Int32)), .val (.int (2 : Int32)), .val (.int (1 : Int32)), .val (.int c1)] []))
  refine Go.via (fun _ => XS.aloadN X102.here hx rfl (hb hby d18_26) rfl rfl) ?_
  show Go p e below _ (T102.setTop (mkF m 27 #[.val (.ref a1), .val (.int (1 : Int32)), .val (.ref b1), .val (.int (1 : Int32)), .val (.int (2 : Int32)), .val (.int (1 : Int32)), .val (.int c1)] [(.ref b1)]))
  refine Go.via (fun _ => XS.iloadN X102.here hx rfl (hb hby d18_27) rfl) ?_
  show Go p e below _ (T102.setTop (mkF m 28 #[.val (.ref a1), .val (.int (1 : Int32)), .val (.ref b1), .val (.int (1 : Int32)), .val (.int (2 : Int32)), .val (.int (1 : Int32)), .val (.int c1)] [(.int (1 : Int32)), (.ref b1)]))
  refine Go.via (fun _ => XS.iload X102.here hx rfl (hb hby d18_28) rfl) ?_
  show Go p e below _ (T102.setTop (mkF m 30 #[.val (.ref a1), .val (.int (1 : Int32)), .val (.ref b1), .val (.int (1 : Int32)), .val (.int (2 : Int32)), .val (.int (1 : Int32)), .val (.int c1)] [(.int c1), (.int (1 : Int32)), (.ref b1)]))
  refine Go.via (fun _ => XS.i2b X102.here hx rfl (hb hby d18_30) rfl) ?_
  show Go p e below _ (T102.setTop (mkF m 31 #[.val (.ref a1), .val (.int (1 : Int32)), .val (.ref b1), .val (.int (1 : Int32)), .val (.int (2 : Int32)), .val (.int (1 : Int32)), .val (.int c1)] [(.int (c1.toInt8.toInt32)), (.int (1 : Int32)), (.ref b1)]))
  obtain ⟨cl104, Ar104, q104, S104, N104n, H104, G104⟩ := id V102
  have hin104 := inb_of (j := (1 : Int32)) S104 (by decide)
  obtain ⟨T104, h104, X104, e104, W104, st104⟩ := stB X102 hx hZ e102 Ar104 (j := (1 : Int32)) hin104 (g := (mkF m 31 #[.val (.ref a1), .val (.int (1 : Int32)), .val (.ref b1), .val (.int (1 : Int32)), .val (.int (2 : Int32)), .val (.int (1 : Int32)), .val (.int c1)] [(.int (c1.toInt8.toInt32)), (.int (1 : Int32)), (.ref b1)])) rfl rfl (hb hby d18_31)
  refine Go.via st104 ?_
  have V104 : Arv Z h104 b1 kc2 .byte (2 : Int32) [(.int (nar .byte (c0.toInt8.toInt32))), (.int (nar .byte (c1.toInt8.toInt32)))] (.int (0 : Int32)) := Arv.set Ar104 q104 S104 N104n H104 G104 (fits_nar_byte _) W104 1 rfl (Nat.le_of_ble_eq_true rfl)
  have Zs104 : n0 ≤ h104.size := Nat.le_trans Zs102 (Keep.of_wr W104).1
  have K104 : Keep h0 h104 [b1] := K102.wr W104 (Or.inl (List.mem_of_getElem? (i := 0) rfl))
  have N104 := Fr.snoc X104 N102 g1
  have fV_a1_104 := fV_a1_102.other W104 ne1
  show Go p e below _ (T104.setTop (mkF m 32 #[.val (.ref a1), .val (.int (1 : Int32)), .val (.ref b1), .val (.int (1 : Int32)), .val (.int (2 : Int32)), .val (.int (1 : Int32)), .val (.int c1)] []))
  refine Go.via (fun _ => XS.iinc X104.here hx rfl (hb hby d18_32) rfl (l' := #[.val (.ref a1), .val (.int (2 : Int32)), .val (.ref b1), .val (.int (1 : Int32)), .val (.int (2 : Int32)), .val (.int (1 : Int32)), .val (.int c1)]) rfl) ?_
  show Go p e below _ (T104.setTop (mkF m 35 #[.val (.ref a1), .val (.int (2 : Int32)), .val (.ref b1), .val (.int (1 : Int32)), .val (.int (2 : Int32)), .val (.int (1 : Int32)), .val (.int c1)] []))
  refine Go.via (fun _ => XS.iinc X104.here hx rfl (hb hby d18_35) rfl (l' := #[.val (.ref a1), .val (.int (2 : Int32)), .val (.ref b1), .val (.int (2 : Int32)), .val (.int (2 : Int32)), .val (.int (1 : Int32)), .val (.int c1)]) rfl) ?_
  show Go p e below _ (T104.setTop (mkF m 38 #[.val (.ref a1), .val (.int (2 : Int32)), .val (.ref b1), .val (.int (2 : Int32)), .val (.int (2 : Int32)), .val (.int (1 : Int32)), .val (.int c1)] []))
  refine Go.via (fun _ => XS.iinc X104.here hx rfl (hb hby d18_38) rfl (l' := #[.val (.ref a1), .val (.int (2 : Int32)), .val (.ref b1), .val (.int (2 : Int32)), .val (.int (2 : Int32)), .val (.int (2 : Int32)), .val (.int c1)]) rfl) ?_
  show Go p e below _ (T104.setTop (mkF m 41 #[.val (.ref a1), .val (.int (2 : Int32)), .val (.ref b1), .val (.int (2 : Int32)), .val (.int (2 : Int32)), .val (.int (2 : Int32)), .val (.int c1)] []))
  refine Go.via (fun _ => XS.goto X104.here hx rfl (pc0 := 41) (pc' := 3) rfl (hb hby d18_41) (by decide) (by decide)) ?_
  show Go p e below _ (T104.setTop (mkF m 3 #[.val (.ref a1), .val (.int (2 : Int32)), .val (.ref b1), .val (.int (2 : Int32)), .val (.int (2 : Int32)), .val (.int (2 : Int32)), .val (.int c1)] []))
  refine Go.via (fun _ => XS.iload X104.here hx rfl (hb hby d18_3) rfl) ?_
  show Go p e below _ (T104.setTop (mkF m 5 #[.val (.ref a1), .val (.int (2 : Int32)), .val (.ref b1), .val (.int (2 : Int32)), .val (.int (2 : Int32)), .val (.int (2 : Int32)), .val (.int c1)] [(.int (2 : Int32))]))
  refine Go.via (fun _ => XS.iload X104.here hx rfl (hb hby d18_5) rfl) ?_
  show Go p e below _ (T104.setTop (mkF m 7 #[.val (.ref a1), .val (.int (2 : Int32)), .val (.ref b1), .val (.int (2 : Int32)), .val (.int (2 : Int32)), .val (.int (2 : Int32)), .val (.int c1)] [(.int (2 : Int32)), (.int (2 : Int32))]))
  refine Go.via (fun _ => XS.icmpYes X104.here hx rfl (pc0 := 7) (pc' := 44) rfl (hb hby d18_7) rfl (by decide) (by decide) (by decide)) ?_
  show Go p e below _ (T104.setTop (mkF m 44 #[.val (.ref a1), .val (.int (2 : Int32)), .val (.ref b1), .val (.int (2 : Int32)), .val (.int (2 : Int32)), .val (.int (2 : Int32)), .val (.int c1)] []))
  refine Go.via (fun _ => XS.iload X104.here hx rfl (hb hby d18_44) rfl) ?_
  show Go p e below _ (T104.setTop (mkF m 46 #[.val (.ref a1), .val (.int (2 : Int32)), .val (.ref b1), .val (.int (2 : Int32)), .val (.int (2 : Int32)), .val (.int (2 : Int32)), .val (.int c1)] [(.int (2 : Int32))]))
  exact own_retI X104 hx hlk Bd.returns (hb hby d18_46) (by show QC2_2 Z a1 kc1 b1 kc2 c0 c1 h0 n0 _ T104.heap _; rw [e104]; exact ⟨rfl, N104, K104, V104⟩) (by decide) (by decide)
theorem ef_rmC1_2 (m : MethodId) (x0 : Addr) : entryFrame m #[(.ref x0), (.int (0 : Int32)), (.int (2 : Int32))] 6 = mkF m 0 #[.val (.ref x0), .val (.int (0 : Int32)), .val (.int (2 : Int32)), .unset, .unset, .unset] [] := by first | (simp [entryFrame, mkF, argsToLocals, Value.category]; done) | rfl
def QC1_2 (Z : State) (a1 : Addr) (kc1 : ClassId) (c0 : Int32) (c1 : Int32) (h0 : Heap) (n0 : Nat) (v : Option Value) (h : Heap) (L : List Loc) : Prop := ∃ (t : Addr) (kb : ClassId), v = some (.ref t) ∧ Fr n0 L ∧ Keep h0 h [] ∧ h0.size ≤ t ∧ Arv Z h t kb .byte (2 : Int32) [(.int (nar .byte (c0.toInt8.toInt32))), (.int (nar .byte (c1.toInt8.toInt32)))] (.int (0 : Int32))
set_option maxRecDepth 65536 in
set_option maxHeartbeats 40000000 in
theorem rmC1_2 (l : Launch) (Z : State) (a0 : Array Value) (hw : ∀ d ∈ tables_1, d.before a0 Z = true) (ws : List Jvm.Cond) (a1 : Addr) (kc1 : ClassId) (c0 : Int32) (c1 : Int32) (h0 : Heap) (n0 : Nat) (Z0 : n0 ≤ h0.size) (V1 : Arv Z h0 a1 kc1 .char (2 : Int32) [(.int c0), (.int c1)] (.int (0 : Int32))) (hl0 : ¬ ((255 : Int32) < c0)) (hl1 : ¬ ((255 : Int32) < c1)) :
    MetFree l (⟨"java/lang/StringUTF16", "compress", "([CII)[B"⟩ : MethodName) (head1 (Jvm.Cond.code (⟨"java/lang/StringUTF16", "compress", "([CII)[B"⟩ : MethodName) jdk_52_method_16_code 6 (some (.array .byte)) :: ws) ({ frames := 1, cells := 1, slots := 2, locals := 18 } : Room)) (fun a U => a = #[(.ref a1), (.int (0 : Int32)), (.int (2 : Int32))] ∧ Z.Warmed39 U.vm ∧ U.heap = h0) (fun _ _ _ _ _ => True) (fun _ U o U' => ∃ v L, o = .returned v ∧ QC1_2 Z a1 kc1 c0 c1 h0 n0 v U'.heap L ∧ FrameEnd U o U' L ({ frames := 1, cells := 1, slots := 2, locals := 18 } : Room).cells ({ frames := 1, cells := 1, slots := 2, locals := 18 } : Room).slots) := by
  refine MetFree.of_bodySF (plainFor_of_name pn_java_lang_StringUTF16) hisR ?_
  intro p e s m args below meth c s₁ Bd hml0 hP hK
  obtain ⟨rfl, hZ, hh⟩ := hP
  have hx := Bd.exec
  have hby := Bd.bytes
  have hlk : meth.locks = false := Bd.notSynchronized
  have hml : c.maxLocals = 6 := hml0
  have hown : s.vm.findClass "java/lang/StringUTF16" = some m.cls := findClass_of_methodNamed Bd.named
  have hnm := (name_of_methodNamed Bd.named Bd.method).1
  have X0 : Stand p l e ({ frames := 1, cells := 1, slots := 2, locals := 18 } : Room) s m #[(.ref a1), (.int (0 : Int32)), (.int (2 : Int32))] below meth c s₁ [] 0 0 := Stand.of_body Bd
  have e0 : s₁.heap = h0 := by rw [← hh, Bd.state]; rfl
  have N0 := Fr.nil n0
  show Go p e below (FinE s below (QC1_2 Z a1 kc1 c0 c1 h0 n0) ({ frames := 1, cells := 1, slots := 2, locals := 18 } : Room).cells ({ frames := 1, cells := 1, slots := 2, locals := 18 } : Room).slots) (s₁.setTop (entryFrame m #[(.ref a1), (.int (0 : Int32)), (.int (2 : Int32))] 6))
  refine Go.via (fun t k => castTop (ef_rmC1_2 m a1) k) ?_
  show Go p e below _ (s₁.setTop (mkF m 0 #[.val (.ref a1), .val (.int (0 : Int32)), .val (.int (2 : Int32)), .unset, .unset, .unset] []))
  refine Go.via (fun _ => XS.iloadN X0.here hx rfl (hb hby d17_0) rfl) ?_
  show Go p e below _ (s₁.setTop (mkF m 1 #[.val (.ref a1), .val (.int (0 : Int32)), .val (.int (2 : Int32)), .unset, .unset, .unset] [(.int (2 : Int32))]))
  obtain ⟨T101, h101, k101, X101, e101, E101, A101, st101⟩ := newP X0 hx hZ (hw _ (List.mem_of_getElem? (i := 16) rfl)) e0 (g := (mkF m 1 #[.val (.ref a1), .val (.int (0 : Int32)), .val (.int (2 : Int32)), .unset, .unset, .unset] [(.int (2 : Int32))])) rfl (hb hby d17_1) rfl (by decide) (cap := 2) (by decide) (by decide) (by decide) (by decide)
  obtain ⟨b101, g101⟩ : ∃ z, z = h0.size := ⟨_, rfl⟩
  rw [← g101] at A101 st101
  have g_b101 : n0 ≤ b101 := Nat.le_trans Z0 (Nat.le_of_eq g101.symm)
  have ne_a1_b101 : a1 ≠ b101 := Nat.ne_of_lt (Nat.lt_of_lt_of_le V1.lt (Nat.le_of_eq g101.symm))
  have sz_b101 : h0.size ≤ b101 := Nat.le_trans (Keep.refl h0 []).1 (Nat.le_of_eq g101.symm)
  refine Go.via st101 ?_
  have Zs101 : n0 ≤ h101.size := Nat.le_trans Z0 E101.1
  have K101 : Keep h0 h101 [] := (Keep.refl h0 []).ext E101
  have fV_a1_101 := V1.ext E101
  have V_b101 : Arv Z h101 b101 k101 .byte (2 : Int32) [(.int (0 : Int32)), (.int (0 : Int32))] (.int (0 : Int32)) := (Arv.new A101 (by decide)).pad (pad_rep [] (.int (0 : Int32)) 2)
  show Go p e below _ (T101.setTop (mkF m 3 #[.val (.ref a1), .val (.int (0 : Int32)), .val (.int (2 : Int32)), .unset, .unset, .unset] [(.ref b101)]))
  refine Go.via (fun _ => XS.astoreN X101.here hx rfl (hb hby d17_3) rfl rfl (l' := #[.val (.ref a1), .val (.int (0 : Int32)), .val (.int (2 : Int32)), .val (.ref b101), .unset, .unset]) rfl) ?_
  show Go p e below _ (T101.setTop (mkF m 4 #[.val (.ref a1), .val (.int (0 : Int32)), .val (.int (2 : Int32)), .val (.ref b101), .unset, .unset] []))
  refine Go.via (fun _ => XS.aloadN X101.here hx rfl (hb hby d17_4) rfl rfl) ?_
  show Go p e below _ (T101.setTop (mkF m 5 #[.val (.ref a1), .val (.int (0 : Int32)), .val (.int (2 : Int32)), .val (.ref b101), .unset, .unset] [(.ref a1)]))
  refine Go.via (fun _ => XS.iloadN X101.here hx rfl (hb hby d17_5) rfl) ?_
  show Go p e below _ (T101.setTop (mkF m 6 #[.val (.ref a1), .val (.int (0 : Int32)), .val (.int (2 : Int32)), .val (.ref b101), .unset, .unset] [(.int (0 : Int32)), (.ref a1)]))
  refine Go.via (fun _ => XS.aloadN X101.here hx rfl (hb hby d17_6) rfl rfl) ?_
  show Go p e below _ (T101.setTop (mkF m 7 #[.val (.ref a1), .val (.int (0 : Int32)), .val (.int (2 : Int32)), .val (.ref b101), .unset, .unset] [(.ref b101), (.int (0 : Int32)), (.ref a1)]))
  refine Go.via (fun _ => XS.iconst X101.here hx rfl (hb hby d17_7)) ?_
  show Go p e below _ (T101.setTop (mkF m 8 #[.val (.ref a1), .val (.int (0 : Int32)), .val (.int (2 : Int32)), .val (.ref b101), .unset, .unset] [(.int (0 : Int32)), (.ref b101), (.int (0 : Int32)), (.ref a1)]))
  refine Go.via (fun _ => XS.iloadN X101.here hx rfl (hb hby d17_8) rfl) ?_
  show Go p e below _ (T101.setTop (mkF m 9 #[.val (.ref a1), .val (.int (0 : Int32)), .val (.int (2 : Int32)), .val (.ref b101), .unset, .unset] [(.int (2 : Int32)), (.int (0 : Int32)), (.ref b101), (.int (0 : Int32)), (.ref a1)]))
  obtain ⟨_, _, ⟨T102, L102, k102, n102⟩, -, X102, ⟨Lc102, hQ102, l102, y102, z102⟩, st102⟩ := Jvm.LawKit.callS X101 hx (y := (⟨"java/lang/StringUTF16", "compress", "([CI[BII)I"⟩ : MethodName)) hown (mvT hZ (hw _ (List.mem_of_getElem? (i := 111) rfl))) (mvT hZ (hw _ (List.mem_of_getElem? (i := 112) rfl))) (mvT hZ (hw _ (List.mem_of_getElem? (i := 109) rfl))) (mvT hZ (hw _ (List.mem_of_getElem? (i := 113) rfl))) (by decide) (backOf (W := 0) (rmC2_2 l Z a0 hw [] a1 kc1 b101 k101 c0 c1 h101 n0 Zs101 fV_a1_101 V_b101 g_b101 ne_a1_b101 hl0 hl1) hZ (hw _ (List.mem_of_getElem? (i := 113) rfl)) (hw _ (List.mem_of_getElem? (i := 109) rfl)) (by decide) (by decide)) (g := (mkF m 9 #[.val (.ref a1), .val (.int (0 : Int32)), .val (.int (2 : Int32)), .val (.ref b101), .unset, .unset] [(.int (2 : Int32)), (.int (0 : Int32)), (.ref b101), (.int (0 : Int32)), (.ref a1)])) rfl (by rw [hml]; rfl) (argsL := [(.ref a1), (.int (0 : Int32)), (.ref b101), (.int (0 : Int32)), (.int (2 : Int32))]) (rest := []) (lenOf pd_14 rfl) rfl (by show 2 * 0 + _ ≤ _; exact Nat.le_of_eq rfl) (hb hby d17_9) (fun _ _ => ⟨rfl, e101, (by decide : 1 + 0 ≤ _), (by decide : 2 + 0 ≤ _)⟩)
  dsimp only [Pt.U, Pt.locs, Pt.cells, Pt.slots] at X102 l102 y102 z102 st102 hQ102
  rw [l102, y102, z102] at X102
  replace X102 : Stand p l e _ _ m _ below meth c T102 _ 1 2 := X102
  obtain ⟨rfl, N102q, K102q, va102⟩ := hQ102
  have N102 := Fr.app N0 N102q
  refine Go.via st102 ?_
  have Zs102 : n0 ≤ T102.heap.size := Nat.le_trans Zs101 K102q.1
  have K102 : Keep h0 T102.heap [] := K101.trans K102q (allS (Or.inr sz_b101) all0)
  have fV_a1_102 := fV_a1_101.keep K102q (ninS ne_a1_b101 nin0)
  show Go p e below _ (T102.setTop (mkF m 12 #[.val (.ref a1), .val (.int (0 : Int32)), .val (.int (2 : Int32)), .val (.ref b101), .unset, .unset] [(.int (2 : Int32))]))
  refine Go.via (fun _ => XS.istore X102.here hx rfl (hb hby d17_12) rfl (l' := #[.val (.ref a1), .val (.int (0 : Int32)), .val (.int (2 : Int32)), .val (.ref b101), .val (.int (2 : Int32)), .unset]) rfl) ?_
  show Go p e below _ (T102.setTop (mkF m 14 #[.val (.ref a1), .val (.int (0 : Int32)), .val (.int (2 : Int32)), .val (.ref b101), .val (.int (2 : Int32)), .unset] []))
  refine Go.via (fun _ => XS.iload X102.here hx rfl (hb hby d17_14) rfl) ?_
  show Go p e below _ (T102.setTop (mkF m 16 #[.val (.ref a1), .val (.int (0 : Int32)), .val (.int (2 : Int32)), .val (.ref b101), .val (.int (2 : Int32)), .unset] [(.int (2 : Int32))]))
  refine Go.via (fun _ => XS.iloadN X102.here hx rfl (hb hby d17_16) rfl) ?_
  show Go p e below _ (T102.setTop (mkF m 17 #[.val (.ref a1), .val (.int (0 : Int32)), .val (.int (2 : Int32)), .val (.ref b101), .val (.int (2 : Int32)), .unset] [(.int (2 : Int32)), (.int (2 : Int32))]))
  refine Go.via (fun _ => XS.icmpYes X102.here hx rfl (pc0 := 17) (pc' := 57) rfl (hb hby d17_17) rfl (by decide) (by decide) (by decide)) ?_
  show Go p e below _ (T102.setTop (mkF m 57 #[.val (.ref a1), .val (.int (0 : Int32)), .val (.int (2 : Int32)), .val (.ref b101), .val (.int (2 : Int32)), .unset] []))
  refine Go.via (fun _ => XS.aloadN X102.here hx rfl (hb hby d17_57) rfl rfl) ?_
  show Go p e below _ (T102.setTop (mkF m 58 #[.val (.ref a1), .val (.int (0 : Int32)), .val (.int (2 : Int32)), .val (.ref b101), .val (.int (2 : Int32)), .unset] [(.ref b101)]))
  exact own_retA X102 hx hlk Bd.returns rfl rfl (hb hby d17_58) (by show QC1_2 Z a1 kc1 c0 c1 h0 n0 _ T102.heap _; exact ⟨b101, k101, rfl, N102, K102, sz_b101, va102⟩) (by decide) (by decide)
theorem ef_rmCL_2_2 (m : MethodId) (x0 : Addr) : entryFrame m #[(.ref x0), (.int (2 : Int32))] 2 = mkF m 0 #[.val (.ref x0), .val (.int (2 : Int32))] [] := by first | (simp [entryFrame, mkF, argsToLocals, Value.category]; done) | rfl
def QCL_2_2 (Z : State) (b1 : Addr) (kc2 : ClassId) (vs : List Value) (h0 : Heap) (n0 : Nat) (v : Option Value) (h : Heap) (L : List Loc) : Prop := v = some (.int (0 : Int32)) ∧ Fr n0 L ∧ h = h0
set_option maxRecDepth 65536 in
set_option maxHeartbeats 40000000 in
theorem rmCL_2_2 (l : Launch) (Z : State) (a0 : Array Value) (hw : ∀ d ∈ tables_1, d.before a0 Z = true) (ws : List Jvm.Cond) (b1 : Addr) (kc2 : ClassId) (vs : List Value) (h0 : Heap) (n0 : Nat) (Z0 : n0 ≤ h0.size) (V2 : Arv Z h0 b1 kc2 .byte (2 : Int32) vs (.int (0 : Int32))) :
    MetFree l (⟨"java/lang/StringUTF16", "coderFromArrayLen", "([BI)B"⟩ : MethodName) (head1 (Jvm.Cond.code (⟨"java/lang/StringUTF16", "coderFromArrayLen", "([BI)B"⟩ : MethodName) jdk_52_method_15_code 2 (some .byte) :: ws) ({ frames := 0, cells := 0, slots := 0, locals := 0 } : Room)) (fun a U => a = #[(.ref b1), (.int (2 : Int32))] ∧ Z.Warmed39 U.vm ∧ U.heap = h0) (fun _ _ _ _ _ => True) (fun _ U o U' => ∃ v L, o = .returned v ∧ QCL_2_2 Z b1 kc2 vs h0 n0 v U'.heap L ∧ FrameEnd U o U' L ({ frames := 0, cells := 0, slots := 0, locals := 0 } : Room).cells ({ frames := 0, cells := 0, slots := 0, locals := 0 } : Room).slots) := by
  refine MetFree.of_bodySF (plainFor_of_name pn_java_lang_StringUTF16) hisR ?_
  intro p e s m args below meth c s₁ Bd hml0 hP hK
  obtain ⟨rfl, hZ, hh⟩ := hP
  have hx := Bd.exec
  have hby := Bd.bytes
  have hlk : meth.locks = false := Bd.notSynchronized
  have hml : c.maxLocals = 2 := hml0
  have hown : s.vm.findClass "java/lang/StringUTF16" = some m.cls := findClass_of_methodNamed Bd.named
  have hnm := (name_of_methodNamed Bd.named Bd.method).1
  have X0 : Stand p l e ({ frames := 0, cells := 0, slots := 0, locals := 0 } : Room) s m #[(.ref b1), (.int (2 : Int32))] below meth c s₁ [] 0 0 := Stand.of_body Bd
  have e0 : s₁.heap = h0 := by rw [← hh, Bd.state]; rfl
  have N0 := Fr.nil n0
  show Go p e below (FinE s below (QCL_2_2 Z b1 kc2 vs h0 n0) ({ frames := 0, cells := 0, slots := 0, locals := 0 } : Room).cells ({ frames := 0, cells := 0, slots := 0, locals := 0 } : Room).slots) (s₁.setTop (entryFrame m #[(.ref b1), (.int (2 : Int32))] 2))
  refine Go.via (fun t k => castTop (ef_rmCL_2_2 m b1) k) ?_
  show Go p e below _ (s₁.setTop (mkF m 0 #[.val (.ref b1), .val (.int (2 : Int32))] []))
  refine Go.via (fun _ => XS.iloadN X0.here hx rfl (hb hby d19_0) rfl) ?_
  show Go p e below _ (s₁.setTop (mkF m 1 #[.val (.ref b1), .val (.int (2 : Int32))] [(.int (2 : Int32))]))
  refine Go.via (fun _ => XS.aloadN X0.here hx rfl (hb hby d19_1) rfl rfl) ?_
  show Go p e below _ (s₁.setTop (mkF m 2 #[.val (.ref b1), .val (.int (2 : Int32))] [(.ref b1), (.int (2 : Int32))]))
  obtain ⟨cl101, Ar101, -, S101, N101n, -, -⟩ := id V2
  have al101 := X0.arraylength hx (by rw [e0]; exact Ar101.1) (State.isArrayOf_alike hZ.alike Ar101.2.1) (g := (mkF m 2 #[.val (.ref b1), .val (.int (2 : Int32))] [(.ref b1), (.int (2 : Int32))])) rfl rfl (hb hby d19_2)
  rw [len_of S101 N101n] at al101
  refine Go.via al101 ?_
  show Go p e below _ (s₁.setTop (mkF m 3 #[.val (.ref b1), .val (.int (2 : Int32))] [(.int (2 : Int32)), (.int (2 : Int32))]))
  refine Go.via (fun _ => XS.isub X0.here hx rfl (hb hby d19_3) rfl) ?_
  show Go p e below _ (s₁.setTop (mkF m 4 #[.val (.ref b1), .val (.int (2 : Int32))] [(.int (0 : Int32))]))
  refine Go.via (fun _ => XS.bipush X0.here hx rfl (hb hby d19_4)) ?_
  show Go p e below _ (s₁.setTop (mkF m 6 #[.val (.ref b1), .val (.int (2 : Int32))] [(.int (31 : Int32)), (.int (0 : Int32))]))
  refine Go.via (fun _ => XS.iushr X0.here hx rfl (hb hby d19_6) rfl) ?_
  show Go p e below _ (s₁.setTop (mkF m 7 #[.val (.ref b1), .val (.int (2 : Int32))] [(.int (0 : Int32))]))
  refine Go.via (fun _ => XS.i2b X0.here hx rfl (hb hby d19_7) rfl) ?_
  show Go p e below _ (s₁.setTop (mkF m 8 #[.val (.ref b1), .val (.int (2 : Int32))] [(.int (0 : Int32))]))
  exact own_retN X0 hx hlk (t := .byte) Bd.returns (by simp) (hb hby d19_8) (by show QCL_2_2 Z b1 kc2 vs h0 n0 _ s₁.heap _; rw [e0]; exact ⟨rfl, N0, rfl⟩) (by decide) (by decide)
theorem ef_rmI4_2 (m : MethodId) (x0 : Addr) (x1 : Addr) : entryFrame m #[(.ref x0), (.ref x1), (.int (0 : Int32)), (.int (2 : Int32)), .null] 6 = mkF m 0 #[.val (.ref x0), .val (.ref x1), .val (.int (0 : Int32)), .val (.int (2 : Int32)), .val .null, .unset] [] := by first | (simp [entryFrame, mkF, argsToLocals, Value.category]; done) | rfl
def QI4_2 (Z : State) (a1 : Addr) (a2 : Addr) (kc1 : ClassId) (c0 : Int32) (c1 : Int32) (ccs : Int32) (h0 : Heap) (n0 : Nat) (v : Option Value) (h : Heap) (L : List Loc) : Prop := v = none ∧ Fr n0 L ∧ Keep h0 h [a1] ∧ ∃ (t : Addr) (kb : ClassId), h0.size ≤ t ∧ Fld Z h a1 "java/lang/String" "value" "[B" (.ref t) ∧ Fld Z h a1 "java/lang/String" "coder" "B" (.int (0 : Int32)) ∧ Arv Z h t kb .byte (2 : Int32) [(.int (nar .byte (c0.toInt8.toInt32))), (.int (nar .byte (c1.toInt8.toInt32)))] (.int (0 : Int32))
set_option maxRecDepth 65536 in
set_option maxHeartbeats 40000000 in
theorem rmI4_2 (l : Launch) (Z : State) (a0 : Array Value) (hw : ∀ d ∈ tables_1, d.before a0 Z = true) (ws : List Jvm.Cond) (a1 : Addr) (a2 : Addr) (kc1 : ClassId) (c0 : Int32) (c1 : Int32) (ccs : Int32) (h0 : Heap) (n0 : Nat) (Z0 : n0 ≤ h0.size) (E1 : Exa Z h0 a1 "java/lang/String") (F1 : Fld Z h0 a1 "java/lang/String" "value" "[B" .null) (F2 : Fld Z h0 a1 "java/lang/String" "coder" "B" (.int (0 : Int32))) (g1 : n0 ≤ a1) (ne1 : a1 ≠ a2) (V1 : Arv Z h0 a2 kc1 .char (2 : Int32) [(.int c0), (.int c1)] (.int (0 : Int32))) (hl0 : ¬ ((255 : Int32) < c0)) (hl1 : ¬ ((255 : Int32) < c1)) (O0 : Old Z n0 h0) (S_CS : Sta Z Z.heap "java/lang/String" "COMPACT_STRINGS" "Z" (.int ccs)) (hcs : ¬ (ccs = (0 : Int32))) :
    MetFree l (⟨"java/lang/String", "<init>", "([CIILjava/lang/Void;)V"⟩ : MethodName) (head1 (Jvm.Cond.code (⟨"java/lang/String", "<init>", "([CIILjava/lang/Void;)V"⟩ : MethodName) jdk_42_method_149_code 6 none :: ws) ({ frames := 2, cells := 1, slots := 2, locals := 35 } : Room)) (fun a U => a = #[(.ref a1), (.ref a2), (.int (0 : Int32)), (.int (2 : Int32)), .null] ∧ Z.Warmed39 U.vm ∧ U.heap = h0) (fun _ _ _ _ _ => True) (fun _ U o U' => ∃ v L, o = .returned v ∧ QI4_2 Z a1 a2 kc1 c0 c1 ccs h0 n0 v U'.heap L ∧ FrameEnd U o U' L ({ frames := 2, cells := 1, slots := 2, locals := 35 } : Room).cells ({ frames := 2, cells := 1, slots := 2, locals := 35 } : Room).slots) := by
  refine MetFree.of_bodySF (plainFor_of_name pn_java_lang_String) hisR ?_
  intro p e s m args below meth c s₁ Bd hml0 hP hK
  obtain ⟨rfl, hZ, hh⟩ := hP
  have hx := Bd.exec
  have hby := Bd.bytes
  have hlk : meth.locks = false := Bd.notSynchronized
  have hml : c.maxLocals = 6 := hml0
  have hown : s.vm.findClass "java/lang/String" = some m.cls := findClass_of_methodNamed Bd.named
  have hnm := (name_of_methodNamed Bd.named Bd.method).1
  have X0 : Stand p l e ({ frames := 2, cells := 1, slots := 2, locals := 35 } : Room) s m #[(.ref a1), (.ref a2), (.int (0 : Int32)), (.int (2 : Int32)), .null] below meth c s₁ [] 0 0 := Stand.of_body Bd
  have e0 : s₁.heap = h0 := by rw [← hh, Bd.state]; rfl
  have N0 := Fr.nil n0
  show Go p e below (FinE s below (QI4_2 Z a1 a2 kc1 c0 c1 ccs h0 n0) ({ frames := 2, cells := 1, slots := 2, locals := 35 } : Room).cells ({ frames := 2, cells := 1, slots := 2, locals := 35 } : Room).slots) (s₁.setTop (entryFrame m #[(.ref a1), (.ref a2), (.int (0 : Int32)), (.int (2 : Int32)), .null] 6))
  refine Go.via (fun t k => castTop (ef_rmI4_2 m a1 a2) k) ?_
  show Go p e below _ (s₁.setTop (mkF m 0 #[.val (.ref a1), .val (.ref a2), .val (.int (0 : Int32)), .val (.int (2 : Int32)), .val .null, .unset] []))
  refine Go.via (fun _ => XS.aloadN X0.here hx rfl (hb hby d16_0) rfl rfl) ?_
  show Go p e below _ (s₁.setTop (mkF m 1 #[.val (.ref a1), .val (.ref a2), .val (.int (0 : Int32)), .val (.int (2 : Int32)), .val .null, .unset] [(.ref a1)]))
  obtain ⟨T101, X101, e101, st101⟩ := initO X0 hx hZ hown (hw _ (List.mem_of_getElem? (i := 21) rfl)) (hw _ (List.mem_of_getElem? (i := 22) rfl)) (hw _ (List.mem_of_getElem? (i := 23) rfl)) e0 (g := (mkF m 1 #[.val (.ref a1), .val (.ref a2), .val (.int (0 : Int32)), .val (.int (2 : Int32)), .val .null, .unset] [(.ref a1)])) rfl (by rw [hml]; rfl) rfl (hb hby d16_1) (by decide) (W := 0) (by show 2 * 0 + _ ≤ _; exact Nat.le_of_eq rfl) (by decide)
  refine Go.via st101 ?_
  show Go p e below _ (T101.setTop (mkF m 4 #[.val (.ref a1), .val (.ref a2), .val (.int (0 : Int32)), .val (.int (2 : Int32)), .val .null, .unset] []))
  refine Go.via (fun _ => XS.iloadN X101.here hx rfl (hb hby d16_4) rfl) ?_
  show Go p e below _ (T101.setTop (mkF m 5 #[.val (.ref a1), .val (.ref a2), .val (.int (0 : Int32)), .val (.int (2 : Int32)), .val .null, .unset] [(.int (2 : Int32))]))
  refine Go.via (fun _ => XS.ifYes X101.here hx rfl (pc0 := 5) (pc' := 27) rfl (hb hby d16_5) rfl (by decide) (by decide) (by decide)) ?_
  show Go p e below _ (T101.setTop (mkF m 27 #[.val (.ref a1), .val (.ref a2), .val (.int (0 : Int32)), .val (.int (2 : Int32)), .val .null, .unset] []))
  obtain ⟨T102, X102, e102, st102⟩ := getS2 X101 hx hZ hown (host := "") (Or.inl (hw _ (List.mem_of_getElem? (i := 6) rfl))) Via.refl e101 (S_CS.ext O0.2) (g := (mkF m 27 #[.val (.ref a1), .val (.ref a2), .val (.int (0 : Int32)), .val (.int (2 : Int32)), .val .null, .unset] [])) rfl (hb hby d16_27)
  refine Go.via st102 ?_
  show Go p e below _ (T102.setTop (mkF m 30 #[.val (.ref a1), .val (.ref a2), .val (.int (0 : Int32)), .val (.int (2 : Int32)), .val .null, .unset] [(.int ccs)]))
  refine Go.via (fun _ => XS.ifNo X102.here hx rfl (hb hby d16_30) rfl ((if0 _ _).trans (feq hcs).1)) ?_
  show Go p e below _ (T102.setTop (mkF m 33 #[.val (.ref a1), .val (.ref a2), .val (.int (0 : Int32)), .val (.int (2 : Int32)), .val .null, .unset] []))
  refine Go.via (fun _ => XS.aloadN X102.here hx rfl (hb hby d16_33) rfl rfl) ?_
  show Go p e below _ (T102.setTop (mkF m 34 #[.val (.ref a1), .val (.ref a2), .val (.int (0 : Int32)), .val (.int (2 : Int32)), .val .null, .unset] [(.ref a2)]))
  refine Go.via (fun _ => XS.iloadN X102.here hx rfl (hb hby d16_34) rfl) ?_
  show Go p e below _ (T102.setTop (mkF m 35 #[.val (.ref a1), .val (.ref a2), .val (.int (0 : Int32)), .val (.int (2 : Int32)), .val .null, .unset] [(.int (0 : Int32)), (.ref a2)]))
  refine Go.via (fun _ => XS.iloadN X102.here hx rfl (hb hby d16_35) rfl) ?_
  show Go p e below _ (T102.setTop (mkF m 36 #[.val (.ref a1), .val (.ref a2), .val (.int (0 : Int32)), .val (.int (2 : Int32)), .val .null, .unset] [(.int (2 : Int32)), (.int (0 : Int32)), (.ref a2)]))
  obtain ⟨_, _, ⟨T103, L103, k103, n103⟩, -, X103, ⟨Lc103, hQ103, l103, y103, z103⟩, st103⟩ := Jvm.LawKit.callS X102 hx (y := (⟨"java/lang/StringUTF16", "compress", "([CII)[B"⟩ : MethodName)) hown (mvT hZ (hw _ (List.mem_of_getElem? (i := 107) rfl))) (mvT hZ (hw _ (List.mem_of_getElem? (i := 108) rfl))) (mvT hZ (hw _ (List.mem_of_getElem? (i := 109) rfl))) (mvT hZ (hw _ (List.mem_of_getElem? (i := 110) rfl))) (by decide) (backOf (W := 0) (rmC1_2 l Z a0 hw [] a2 kc1 c0 c1 h0 n0 Z0 V1 hl0 hl1) hZ (hw _ (List.mem_of_getElem? (i := 110) rfl)) (hw _ (List.mem_of_getElem? (i := 109) rfl)) (by decide) (by decide)) (g := (mkF m 36 #[.val (.ref a1), .val (.ref a2), .val (.int (0 : Int32)), .val (.int (2 : Int32)), .val .null, .unset] [(.int (2 : Int32)), (.int (0 : Int32)), (.ref a2)])) rfl (by rw [hml]; rfl) (argsL := [(.ref a2), (.int (0 : Int32)), (.int (2 : Int32))]) (rest := []) (lenOf pd_15 rfl) rfl (by show 2 * 0 + _ ≤ _; exact Nat.le_of_eq rfl) (hb hby d16_36) (fun _ _ => ⟨rfl, e102, (by decide : 0 + 1 ≤ _), (by decide : 0 + 2 ≤ _)⟩)
  dsimp only [Pt.U, Pt.locs, Pt.cells, Pt.slots] at X103 l103 y103 z103 st103 hQ103
  rw [l103, y103, z103] at X103
  replace X103 : Stand p l e _ _ m _ below meth c T103 _ 1 2 := X103
  obtain ⟨t103, kb103, rfl, N103q, K103q, gt103, va103⟩ := hQ103
  have N103 := Fr.app N0 N103q
  refine Go.via st103 ?_
  have Zs103 : n0 ≤ T103.heap.size := Nat.le_trans Z0 K103q.1
  have O103 : Old Z n0 T103.heap := O0.keep K103q all0
  have K103 : Keep h0 T103.heap [a1] := (Keep.refl h0 [a1]).trans K103q all0
  have fE_a1_103 := E1.keep K103q
  have fF_a1_value_103 := F1.keep K103q nin0
  have fF_a1_coder_103 := F2.keep K103q nin0
  have fV_a2_103 := V1.keep K103q nin0
  have g_t103 : n0 ≤ t103 := Nat.le_trans Z0 gt103
  have ne_a1_t103 : a1 ≠ t103 := Nat.ne_of_lt (Nat.lt_of_lt_of_le E1.lt gt103)
  have ne_a2_t103 : a2 ≠ t103 := Nat.ne_of_lt (Nat.lt_of_lt_of_le V1.lt gt103)
  have sz_t103 : h0.size ≤ t103 := Nat.le_trans (Keep.refl h0 [a1]).1 gt103
  show Go p e below _ (T103.setTop (mkF m 39 #[.val (.ref a1), .val (.ref a2), .val (.int (0 : Int32)), .val (.int (2 : Int32)), .val .null, .unset] [(.ref t103)]))
  refine Go.via (fun _ => XS.astore X103.here hx rfl (hb hby d16_39) rfl rfl (l' := #[.val (.ref a1), .val (.ref a2), .val (.int (0 : Int32)), .val (.int (2 : Int32)), .val .null, .val (.ref t103)]) rfl) ?_
  show Go p e below _ (T103.setTop (mkF m 41 #[.val (.ref a1), .val (.ref a2), .val (.int (0 : Int32)), .val (.int (2 : Int32)), .val .null, .val (.ref t103)] []))
  refine Go.via (fun _ => XS.aloadN X103.here hx rfl (hb hby d16_41) rfl rfl) ?_
  show Go p e below _ (T103.setTop (mkF m 42 #[.val (.ref a1), .val (.ref a2), .val (.int (0 : Int32)), .val (.int (2 : Int32)), .val .null, .val (.ref t103)] [(.ref a1)]))
  refine Go.via (fun _ => XS.aload X103.here hx rfl (hb hby d16_42) rfl rfl) ?_
  show Go p e below _ (T103.setTop (mkF m 44 #[.val (.ref a1), .val (.ref a2), .val (.int (0 : Int32)), .val (.int (2 : Int32)), .val .null, .val (.ref t103)] [(.ref t103), (.ref a1)]))
  refine Go.via (fun _ => XS.iloadN X103.here hx rfl (hb hby d16_44) rfl) ?_
  show Go p e below _ (T103.setTop (mkF m 45 #[.val (.ref a1), .val (.ref a2), .val (.int (0 : Int32)), .val (.int (2 : Int32)), .val .null, .val (.ref t103)] [(.int (2 : Int32)), (.ref t103), (.ref a1)]))
  obtain ⟨_, _, ⟨T104, L104, k104, n104⟩, -, X104, ⟨Lc104, hQ104, l104, y104, z104⟩, st104⟩ := Jvm.LawKit.callS X103 hx (y := (⟨"java/lang/StringUTF16", "coderFromArrayLen", "([BI)B"⟩ : MethodName)) hown (mvT hZ (hw _ (List.mem_of_getElem? (i := 114) rfl))) (mvT hZ (hw _ (List.mem_of_getElem? (i := 115) rfl))) (mvT hZ (hw _ (List.mem_of_getElem? (i := 109) rfl))) (mvT hZ (hw _ (List.mem_of_getElem? (i := 116) rfl))) (by decide) (backOf (W := 1) (rmCL_2_2 l Z a0 hw [] t103 kb103 _ T103.heap n0 Zs103 va103) hZ (hw _ (List.mem_of_getElem? (i := 116) rfl)) (hw _ (List.mem_of_getElem? (i := 109) rfl)) (by decide) (by decide)) (g := (mkF m 45 #[.val (.ref a1), .val (.ref a2), .val (.int (0 : Int32)), .val (.int (2 : Int32)), .val .null, .val (.ref t103)] [(.int (2 : Int32)), (.ref t103), (.ref a1)])) rfl (by rw [hml]; rfl) (argsL := [(.ref t103), (.int (2 : Int32))]) (rest := [(.ref a1)]) (lenOf pd_16 rfl) rfl (by show 2 * 0 + _ ≤ _; exact Nat.le_of_eq rfl) (hb hby d16_45) (fun _ _ => ⟨rfl, rfl, (by decide : 1 + 0 ≤ _), (by decide : 2 + 0 ≤ _)⟩)
  dsimp only [Pt.U, Pt.locs, Pt.cells, Pt.slots] at X104 l104 y104 z104 st104 hQ104
  rw [l104, y104, z104] at X104
  replace X104 : Stand p l e _ _ m _ below meth c T104 _ 1 2 := X104
  obtain ⟨rfl, N104q, e104q⟩ := hQ104
  have N104 := Fr.app N103 N104q
  refine Go.via st104 ?_
  show Go p e below _ (T104.setTop (mkF m 48 #[.val (.ref a1), .val (.ref a2), .val (.int (0 : Int32)), .val (.int (2 : Int32)), .val .null, .val (.ref t103)] [(.int (0 : Int32)), (.ref a1)]))
  obtain ⟨T105, h105, X105, e105, W105, st105⟩ := putFN X104 hx hZ hown (hw _ (List.mem_of_getElem? (i := 26) rfl)) Via.refl e104q fF_a1_coder_103 fE_a1_103 (Or.inr ⟨(hw _ (List.mem_of_getElem? (i := 27) rfl)), rfl, hnm⟩) (hw _ (List.mem_of_getElem? (i := 12) rfl)) (ty := .byte) (v' := .int (nar .byte (0 : Int32))) (by decide) rfl (fits_nar_byte _) (g := (mkF m 48 #[.val (.ref a1), .val (.ref a2), .val (.int (0 : Int32)), .val (.int (2 : Int32)), .val .null, .val (.ref t103)] [(.int (0 : Int32)), (.ref a1)])) rfl rfl (hb hby d16_48)
  refine Go.via st105 ?_
  have fF_a1_coder_105 : Fld Z h105 a1 "java/lang/String" "coder" "B" (.int (0 : Int32)) := fF_a1_coder_103.same W105
  have Zs105 : n0 ≤ h105.size := Nat.le_trans Zs103 (Keep.of_wr W105).1
  have O105 : Old Z n0 h105 := O103.wr W105 g1
  have K105 : Keep h0 h105 [a1] := K103.wr W105 (Or.inl (List.mem_of_getElem? (i := 0) rfl))
  have N105 := Fr.snoc X105 N104 g1
  have fE_a1_105 := fE_a1_103.wr W105
  have fF_a1_value_105 := fF_a1_value_103.other W105 (Or.inr (slot_ne (Or.inr (hw _ (List.mem_of_getElem? (i := 25) rfl))) (Or.inr (hw _ (List.mem_of_getElem? (i := 27) rfl))) (by decide) (t := (.array .byte)) (t' := .byte) (by decide) (by decide)))
  have fV_a2_105 := fV_a2_103.other W105 (Ne.symm ne1)
  have fV_t103_105 := va103.other W105 (Ne.symm ne_a1_t103)
  show Go p e below _ (T105.setTop (mkF m 51 #[.val (.ref a1), .val (.ref a2), .val (.int (0 : Int32)), .val (.int (2 : Int32)), .val .null, .val (.ref t103)] []))
  refine Go.via (fun _ => XS.aloadN X105.here hx rfl (hb hby d16_51) rfl rfl) ?_
  show Go p e below _ (T105.setTop (mkF m 52 #[.val (.ref a1), .val (.ref a2), .val (.int (0 : Int32)), .val (.int (2 : Int32)), .val .null, .val (.ref t103)] [(.ref a1)]))
  refine Go.via (fun _ => XS.aload X105.here hx rfl (hb hby d16_52) rfl rfl) ?_
  show Go p e below _ (T105.setTop (mkF m 54 #[.val (.ref a1), .val (.ref a2), .val (.int (0 : Int32)), .val (.int (2 : Int32)), .val .null, .val (.ref t103)] [(.ref t103), (.ref a1)]))
  obtain ⟨T106, h106, X106, e106, W106, st106⟩ := putF X105 hx hZ hown (host := "") (Or.inl (hw _ (List.mem_of_getElem? (i := 24) rfl))) Via.refl e105 fF_a1_value_105 fE_a1_105 (Or.inr ⟨(hw _ (List.mem_of_getElem? (i := 25) rfl)), rfl, hnm⟩) (hw _ (List.mem_of_getElem? (i := 12) rfl)) (ty := (.array .byte)) (by decide) rfl rfl (g := (mkF m 54 #[.val (.ref a1), .val (.ref a2), .val (.int (0 : Int32)), .val (.int (2 : Int32)), .val .null, .val (.ref t103)] [(.ref t103), (.ref a1)])) rfl rfl (hb hby d16_54)
  refine Go.via st106 ?_
  have fF_a1_value_106 : Fld Z h106 a1 "java/lang/String" "value" "[B" (.ref t103) := fF_a1_value_105.same W106
  have Zs106 : n0 ≤ h106.size := Nat.le_trans Zs105 (Keep.of_wr W106).1
  have O106 : Old Z n0 h106 := O105.wr W106 g1
  have K106 : Keep h0 h106 [a1] := K105.wr W106 (Or.inl (List.mem_of_getElem? (i := 0) rfl))
  have N106 := Fr.snoc X106 N105 g1
  have fE_a1_106 := fE_a1_105.wr W106
  have fF_a1_coder_106 := fF_a1_coder_105.other W106 (Or.inr (slot_ne (Or.inr (hw _ (List.mem_of_getElem? (i := 27) rfl))) (Or.inr (hw _ (List.mem_of_getElem? (i := 25) rfl))) (by decide) (t := .byte) (t' := (.array .byte)) (by decide) (by decide)))
  have fV_a2_106 := fV_a2_105.other W106 (Ne.symm ne1)
  have fV_t103_106 := fV_t103_105.other W106 (Ne.symm ne_a1_t103)
  show Go p e below _ (T106.setTop (mkF m 57 #[.val (.ref a1), .val (.ref a2), .val (.int (0 : Int32)), .val (.int (2 : Int32)), .val .null, .val (.ref t103)] []))
  exact own_retV X106 hx hlk Bd.returns (hb hby d16_57) (by show QI4_2 Z a1 a2 kc1 c0 c1 ccs h0 n0 _ T106.heap _; rw [e106]; exact ⟨rfl, N106, K106, t103, kb103, sz_t103, fF_a1_value_106, fF_a1_coder_106, fV_t103_106⟩) (by decide) (by decide)
theorem ef_rmI1_2 (m : MethodId) (x0 : Addr) (x1 : Addr) : entryFrame m #[(.ref x0), (.ref x1)] 2 = mkF m 0 #[.val (.ref x0), .val (.ref x1)] [] := by first | (simp [entryFrame, mkF, argsToLocals, Value.category]; done) | rfl
def QI1_2 (Z : State) (a1 : Addr) (a2 : Addr) (kc1 : ClassId) (c0 : Int32) (c1 : Int32) (ccs : Int32) (h0 : Heap) (n0 : Nat) (v : Option Value) (h : Heap) (L : List Loc) : Prop := v = none ∧ Fr n0 L ∧ Keep h0 h [a1] ∧ ∃ (t : Addr) (kb : ClassId), h0.size ≤ t ∧ Fld Z h a1 "java/lang/String" "value" "[B" (.ref t) ∧ Fld Z h a1 "java/lang/String" "coder" "B" (.int (0 : Int32)) ∧ Arv Z h t kb .byte (2 : Int32) [(.int (nar .byte (c0.toInt8.toInt32))), (.int (nar .byte (c1.toInt8.toInt32)))] (.int (0 : Int32))
set_option maxRecDepth 65536 in
set_option maxHeartbeats 40000000 in
theorem rmI1_2 (l : Launch) (Z : State) (a0 : Array Value) (hw : ∀ d ∈ tables_1, d.before a0 Z = true) (ws : List Jvm.Cond) (a1 : Addr) (a2 : Addr) (kc1 : ClassId) (c0 : Int32) (c1 : Int32) (ccs : Int32) (h0 : Heap) (n0 : Nat) (Z0 : n0 ≤ h0.size) (E1 : Exa Z h0 a1 "java/lang/String") (F1 : Fld Z h0 a1 "java/lang/String" "value" "[B" .null) (F2 : Fld Z h0 a1 "java/lang/String" "coder" "B" (.int (0 : Int32))) (g1 : n0 ≤ a1) (ne1 : a1 ≠ a2) (V1 : Arv Z h0 a2 kc1 .char (2 : Int32) [(.int c0), (.int c1)] (.int (0 : Int32))) (hl0 : ¬ ((255 : Int32) < c0)) (hl1 : ¬ ((255 : Int32) < c1)) (O0 : Old Z n0 h0) (S_CS : Sta Z Z.heap "java/lang/String" "COMPACT_STRINGS" "Z" (.int ccs)) (hcs : ¬ (ccs = (0 : Int32))) :
    MetFree l (⟨"java/lang/String", "<init>", "([C)V"⟩ : MethodName) (head1 (Jvm.Cond.code (⟨"java/lang/String", "<init>", "([C)V"⟩ : MethodName) jdk_42_method_3_code 2 none :: ws) ({ frames := 3, cells := 1, slots := 2, locals := 52 } : Room)) (fun a U => a = #[(.ref a1), (.ref a2)] ∧ Z.Warmed39 U.vm ∧ U.heap = h0) (fun _ _ _ _ _ => True) (fun _ U o U' => ∃ v L, o = .returned v ∧ QI1_2 Z a1 a2 kc1 c0 c1 ccs h0 n0 v U'.heap L ∧ FrameEnd U o U' L ({ frames := 3, cells := 1, slots := 2, locals := 52 } : Room).cells ({ frames := 3, cells := 1, slots := 2, locals := 52 } : Room).slots) := by
  refine MetFree.of_bodySF (plainFor_of_name pn_java_lang_String) hisR ?_
  intro p e s m args below meth c s₁ Bd hml0 hP hK
  obtain ⟨rfl, hZ, hh⟩ := hP
  have hx := Bd.exec
  have hby := Bd.bytes
  have hlk : meth.locks = false := Bd.notSynchronized
  have hml : c.maxLocals = 2 := hml0
  have hown : s.vm.findClass "java/lang/String" = some m.cls := findClass_of_methodNamed Bd.named
  have hnm := (name_of_methodNamed Bd.named Bd.method).1
  have X0 : Stand p l e ({ frames := 3, cells := 1, slots := 2, locals := 52 } : Room) s m #[(.ref a1), (.ref a2)] below meth c s₁ [] 0 0 := Stand.of_body Bd
  have e0 : s₁.heap = h0 := by rw [← hh, Bd.state]; rfl
  have N0 := Fr.nil n0
  show Go p e below (FinE s below (QI1_2 Z a1 a2 kc1 c0 c1 ccs h0 n0) ({ frames := 3, cells := 1, slots := 2, locals := 52 } : Room).cells ({ frames := 3, cells := 1, slots := 2, locals := 52 } : Room).slots) (s₁.setTop (entryFrame m #[(.ref a1), (.ref a2)] 2))
  refine Go.via (fun t k => castTop (ef_rmI1_2 m a1 a2) k) ?_
  show Go p e below _ (s₁.setTop (mkF m 0 #[.val (.ref a1), .val (.ref a2)] []))
  refine Go.via (fun _ => XS.aloadN X0.here hx rfl (hb hby d15_0) rfl rfl) ?_
  show Go p e below _ (s₁.setTop (mkF m 1 #[.val (.ref a1), .val (.ref a2)] [(.ref a1)]))
  refine Go.via (fun _ => XS.aloadN X0.here hx rfl (hb hby d15_1) rfl rfl) ?_
  show Go p e below _ (s₁.setTop (mkF m 2 #[.val (.ref a1), .val (.ref a2)] [(.ref a2), (.ref a1)]))
  refine Go.via (fun _ => XS.iconst X0.here hx rfl (hb hby d15_2)) ?_
  show Go p e below _ (s₁.setTop (mkF m 3 #[.val (.ref a1), .val (.ref a2)] [(.int (0 : Int32)), (.ref a2), (.ref a1)]))
  refine Go.via (fun _ => XS.aloadN X0.here hx rfl (hb hby d15_3) rfl rfl) ?_
  show Go p e below _ (s₁.setTop (mkF m 4 #[.val (.ref a1), .val (.ref a2)] [(.ref a2), (.int (0 : Int32)), (.ref a2), (.ref a1)]))
  obtain ⟨cl101, Ar101, -, S101, N101n, -, -⟩ := id V1
  have al101 := X0.arraylength hx (by rw [e0]; exact Ar101.1) (State.isArrayOf_alike hZ.alike Ar101.2.1) (g := (mkF m 4 #[.val (.ref a1), .val (.ref a2)] [(.ref a2), (.int (0 : Int32)), (.ref a2), (.ref a1)])) rfl rfl (hb hby d15_4)
  rw [len_of S101 N101n] at al101
  refine Go.via al101 ?_
  show Go p e below _ (s₁.setTop (mkF m 5 #[.val (.ref a1), .val (.ref a2)] [(.int (2 : Int32)), (.int (0 : Int32)), (.ref a2), (.ref a1)]))
  refine Go.via (fun _ => XS.aconstNull X0.here hx rfl (hb hby d15_5)) ?_
  show Go p e below _ (s₁.setTop (mkF m 6 #[.val (.ref a1), .val (.ref a2)] [.null, (.int (2 : Int32)), (.int (0 : Int32)), (.ref a2), (.ref a1)]))
  obtain ⟨_, _, ⟨T102, L102, k102, n102⟩, -, X102, ⟨Lc102, hQ102, l102, y102, z102⟩, st102⟩ := X0.specialBack hx (y := (⟨"java/lang/String", "<init>", "([CIILjava/lang/Void;)V"⟩ : MethodName)) rfl hown (mvT hZ (hw _ (List.mem_of_getElem? (i := 104) rfl))) (mvT hZ (hw _ (List.mem_of_getElem? (i := 105) rfl))) (mvT hZ (hw _ (List.mem_of_getElem? (i := 106) rfl))) (by decide) (backOf (W := 0) (rmI4_2 l Z a0 hw [] a1 a2 kc1 c0 c1 ccs h0 n0 Z0 E1 F1 F2 g1 ne1 V1 hl0 hl1 O0 S_CS hcs) hZ (hw _ (List.mem_of_getElem? (i := 106) rfl)) (hw _ (List.mem_of_getElem? (i := 4) rfl)) (by decide) (by decide)) (g := (mkF m 6 #[.val (.ref a1), .val (.ref a2)] [.null, (.int (2 : Int32)), (.int (0 : Int32)), (.ref a2), (.ref a1)])) rfl (by rw [hml]; rfl) (Steps.refl _) (a := a1) (argsL := [(.ref a2), (.int (0 : Int32)), (.int (2 : Int32)), .null]) (rest := []) (lenOf pd_17 rfl) rfl (by show 2 * 0 + _ ≤ _; exact Nat.le_of_eq rfl) (hb hby d15_6) (fun _ _ => ⟨rfl, e0, (by decide : 0 + 1 ≤ _), (by decide : 0 + 2 ≤ _)⟩)
  dsimp only [Pt.U, Pt.locs, Pt.cells, Pt.slots] at X102 l102 y102 z102 st102 hQ102
  rw [l102, y102, z102] at X102
  replace X102 : Stand p l e _ _ m _ below meth c T102 _ 1 2 := X102
  obtain ⟨rfl, N102q, K102q, t102, kb102, gt102, fv102, fc102, va102⟩ := hQ102
  have N102 := Fr.app N0 N102q
  refine Go.tr st102 ?_
  have Zs102 : n0 ≤ T102.heap.size := Nat.le_trans Z0 K102q.1
  have O102 : Old Z n0 T102.heap := O0.keep K102q (allS g1 all0)
  have fE_a1_102 := E1.keep K102q
  have fV_a2_102 := V1.keep K102q (ninS (Ne.symm ne1) nin0)
  show Go p e below _ (T102.setTop (mkF m 9 #[.val (.ref a1), .val (.ref a2)] []))
  exact own_retV X102 hx hlk Bd.returns (hb hby d15_9) (by show QI1_2 Z a1 a2 kc1 c0 c1 ccs h0 n0 _ T102.heap _; exact ⟨rfl, N102, K102q, t102, kb102, gt102, fv102, fc102, va102⟩) (by decide) (by decide)
theorem ef_rm0 (m : MethodId) (x0 : Int32) (x1 : Int32) (x2 : Int32) (x3 : Int32) : entryFrame m #[(.int x0), (.int x1), (.int x2), (.int x3)] maxLocals = mkF m 0 #[.val (.int x0), .val (.int x1), .val (.int x2), .val (.int x3), .unset, .unset, .unset, .unset, .unset, .unset, .unset, .unset] [] := by first | (simp [entryFrame, mkF, argsToLocals, Value.category, maxLocals]; done) | rfl
def Q0 (Z : State) (p1 : Int32) (p2 : Int32) (p3 : Int32) (p4 : Int32) (ccs : Int32) (w_SCHEDULE : Addr) (w_ASSIGN : Addr) (w_REASSIGN : Addr) (w_WITHDRAW : Addr) (w_START : Addr) (w_SUSPEND : Addr) (w_RESUME : Addr) (w_COMPLETE : Addr) (w_ATE_ABORT : Addr) (w_PI_ABORT : Addr) (w_MANUALSKIP : Addr) (w_AUTOSKIP : Addr) (w_UNKNOWN : Addr) (em : Addr) (h0 : Heap) (n0 : Nat) (v : Option Value) (h : Heap) (L : List Loc) : Prop := v = some (.int 1) ∧ Fr n0 L
set_option maxRecDepth 65536 in
set_option maxHeartbeats 40000000 in
theorem rm0 (l : Launch) (Z : State) (a0 : Array Value) (hw : ∀ d ∈ tables_1, d.before a0 Z = true) (ws : List Jvm.Cond) (p1 : Int32) (p2 : Int32) (p3 : Int32) (p4 : Int32) (ccs : Int32) (w_SCHEDULE : Addr) (w_ASSIGN : Addr) (w_REASSIGN : Addr) (w_WITHDRAW : Addr) (w_START : Addr) (w_SUSPEND : Addr) (w_RESUME : Addr) (w_COMPLETE : Addr) (w_ATE_ABORT : Addr) (w_PI_ABORT : Addr) (w_MANUALSKIP : Addr) (w_AUTOSKIP : Addr) (w_UNKNOWN : Addr) (em : Addr) (h0 : Heap) (n0 : Nat) (Z0 : n0 ≤ h0.size) (O0 : Old Z n0 h0) (S_CS : Sta Z Z.heap "java/lang/String" "COMPACT_STRINGS" "Z" (.int ccs)) (hcs : ¬ (ccs = (0 : Int32))) (S_SCHEDULE : Sta Z Z.heap "com/example/permits_from_duties/permitsfromduties/Event$Transition" "SCHEDULE" "Lcom/example/permits_from_duties/permitsfromduties/Event$Transition;" (.ref w_SCHEDULE)) (S_ASSIGN : Sta Z Z.heap "com/example/permits_from_duties/permitsfromduties/Event$Transition" "ASSIGN" "Lcom/example/permits_from_duties/permitsfromduties/Event$Transition;" (.ref w_ASSIGN)) (S_REASSIGN : Sta Z Z.heap "com/example/permits_from_duties/permitsfromduties/Event$Transition" "REASSIGN" "Lcom/example/permits_from_duties/permitsfromduties/Event$Transition;" (.ref w_REASSIGN)) (S_WITHDRAW : Sta Z Z.heap "com/example/permits_from_duties/permitsfromduties/Event$Transition" "WITHDRAW" "Lcom/example/permits_from_duties/permitsfromduties/Event$Transition;" (.ref w_WITHDRAW)) (S_START : Sta Z Z.heap "com/example/permits_from_duties/permitsfromduties/Event$Transition" "START" "Lcom/example/permits_from_duties/permitsfromduties/Event$Transition;" (.ref w_START)) (S_SUSPEND : Sta Z Z.heap "com/example/permits_from_duties/permitsfromduties/Event$Transition" "SUSPEND" "Lcom/example/permits_from_duties/permitsfromduties/Event$Transition;" (.ref w_SUSPEND)) (S_RESUME : Sta Z Z.heap "com/example/permits_from_duties/permitsfromduties/Event$Transition" "RESUME" "Lcom/example/permits_from_duties/permitsfromduties/Event$Transition;" (.ref w_RESUME)) (S_COMPLETE : Sta Z Z.heap "com/example/permits_from_duties/permitsfromduties/Event$Transition" "COMPLETE" "Lcom/example/permits_from_duties/permitsfromduties/Event$Transition;" (.ref w_COMPLETE)) (S_ATE_ABORT : Sta Z Z.heap "com/example/permits_from_duties/permitsfromduties/Event$Transition" "ATE_ABORT" "Lcom/example/permits_from_duties/permitsfromduties/Event$Transition;" (.ref w_ATE_ABORT)) (S_PI_ABORT : Sta Z Z.heap "com/example/permits_from_duties/permitsfromduties/Event$Transition" "PI_ABORT" "Lcom/example/permits_from_duties/permitsfromduties/Event$Transition;" (.ref w_PI_ABORT)) (S_MANUALSKIP : Sta Z Z.heap "com/example/permits_from_duties/permitsfromduties/Event$Transition" "MANUALSKIP" "Lcom/example/permits_from_duties/permitsfromduties/Event$Transition;" (.ref w_MANUALSKIP)) (S_AUTOSKIP : Sta Z Z.heap "com/example/permits_from_duties/permitsfromduties/Event$Transition" "AUTOSKIP" "Lcom/example/permits_from_duties/permitsfromduties/Event$Transition;" (.ref w_AUTOSKIP)) (S_UNKNOWN : Sta Z Z.heap "com/example/permits_from_duties/permitsfromduties/Event$Transition" "UNKNOWN" "Lcom/example/permits_from_duties/permitsfromduties/Event$Transition;" (.ref w_UNKNOWN)) (E_SCHEDULE : Exa Z Z.heap w_SCHEDULE "com/example/permits_from_duties/permitsfromduties/Event$Transition") (E_ASSIGN : Exa Z Z.heap w_ASSIGN "com/example/permits_from_duties/permitsfromduties/Event$Transition") (E_REASSIGN : Exa Z Z.heap w_REASSIGN "com/example/permits_from_duties/permitsfromduties/Event$Transition") (E_WITHDRAW : Exa Z Z.heap w_WITHDRAW "com/example/permits_from_duties/permitsfromduties/Event$Transition") (E_START : Exa Z Z.heap w_START "com/example/permits_from_duties/permitsfromduties/Event$Transition") (E_SUSPEND : Exa Z Z.heap w_SUSPEND "com/example/permits_from_duties/permitsfromduties/Event$Transition") (E_RESUME : Exa Z Z.heap w_RESUME "com/example/permits_from_duties/permitsfromduties/Event$Transition") (E_COMPLETE : Exa Z Z.heap w_COMPLETE "com/example/permits_from_duties/permitsfromduties/Event$Transition") (E_ATE_ABORT : Exa Z Z.heap w_ATE_ABORT "com/example/permits_from_duties/permitsfromduties/Event$Transition") (E_PI_ABORT : Exa Z Z.heap w_PI_ABORT "com/example/permits_from_duties/permitsfromduties/Event$Transition") (E_MANUALSKIP : Exa Z Z.heap w_MANUALSKIP "com/example/permits_from_duties/permitsfromduties/Event$Transition") (E_AUTOSKIP : Exa Z Z.heap w_AUTOSKIP "com/example/permits_from_duties/permitsfromduties/Event$Transition") (E_UNKNOWN : Exa Z Z.heap w_UNKNOWN "com/example/permits_from_duties/permitsfromduties/Event$Transition") (F_SCHEDULE : Fld Z Z.heap w_SCHEDULE "com/example/permits_from_duties/permitsfromduties/Event$Transition" "work" "Z" (.int (0 : Int32))) (F_ASSIGN : Fld Z Z.heap w_ASSIGN "com/example/permits_from_duties/permitsfromduties/Event$Transition" "work" "Z" (.int (0 : Int32))) (F_REASSIGN : Fld Z Z.heap w_REASSIGN "com/example/permits_from_duties/permitsfromduties/Event$Transition" "work" "Z" (.int (0 : Int32))) (F_WITHDRAW : Fld Z Z.heap w_WITHDRAW "com/example/permits_from_duties/permitsfromduties/Event$Transition" "work" "Z" (.int (0 : Int32))) (F_START : Fld Z Z.heap w_START "com/example/permits_from_duties/permitsfromduties/Event$Transition" "work" "Z" (.int (1 : Int32))) (F_SUSPEND : Fld Z Z.heap w_SUSPEND "com/example/permits_from_duties/permitsfromduties/Event$Transition" "work" "Z" (.int (1 : Int32))) (F_RESUME : Fld Z Z.heap w_RESUME "com/example/permits_from_duties/permitsfromduties/Event$Transition" "work" "Z" (.int (1 : Int32))) (F_COMPLETE : Fld Z Z.heap w_COMPLETE "com/example/permits_from_duties/permitsfromduties/Event$Transition" "work" "Z" (.int (1 : Int32))) (F_ATE_ABORT : Fld Z Z.heap w_ATE_ABORT "com/example/permits_from_duties/permitsfromduties/Event$Transition" "work" "Z" (.int (1 : Int32))) (F_PI_ABORT : Fld Z Z.heap w_PI_ABORT "com/example/permits_from_duties/permitsfromduties/Event$Transition" "work" "Z" (.int (0 : Int32))) (F_MANUALSKIP : Fld Z Z.heap w_MANUALSKIP "com/example/permits_from_duties/permitsfromduties/Event$Transition" "work" "Z" (.int (0 : Int32))) (F_AUTOSKIP : Fld Z Z.heap w_AUTOSKIP "com/example/permits_from_duties/permitsfromduties/Event$Transition" "work" "Z" (.int (0 : Int32))) (F_UNKNOWN : Fld Z Z.heap w_UNKNOWN "com/example/permits_from_duties/permitsfromduties/Event$Transition" "work" "Z" (.int (1 : Int32))) (S_EM : Sta Z Z.heap "java/util/ImmutableCollections" "EMPTY_MAP" "Ljava/util/ImmutableCollections$MapN;" (.ref em)) :
    MetFree l x (head1 (Jvm.Cond.code x code maxLocals ret :: ws) room_1) (fun a U => a = #[(.int p1), (.int p2), (.int p3), (.int p4)] ∧ Z.Warmed39 U.vm ∧ U.heap = h0) (fun _ _ _ _ _ => True) (fun _ U o U' => ∃ v L, o = .returned v ∧ Q0 Z p1 p2 p3 p4 ccs w_SCHEDULE w_ASSIGN w_REASSIGN w_WITHDRAW w_START w_SUSPEND w_RESUME w_COMPLETE w_ATE_ABORT w_PI_ABORT w_MANUALSKIP w_AUTOSKIP w_UNKNOWN em h0 n0 v U'.heap L ∧ ReturnedEndW U o U' L room_1.cells room_1.slots) := by
  refine MetFree.of_bodySF (plainFor_of_name pn_com_example_permits_from_duties_permitsfromduties_EventPerformerPinLaw) hisR ?_
  intro p e s m args below meth c s₁ Bd hml0 hP hK
  obtain ⟨rfl, hZ, hh⟩ := hP
  have hx := Bd.exec
  have hby := Bd.bytes
  have hlk : meth.locks = false := Bd.notSynchronized
  have hml : c.maxLocals = 12 := hml0
  have hown : s.vm.findClass "com/example/permits_from_duties/permitsfromduties/EventPerformerPinLaw" = some m.cls := findClass_of_methodNamed Bd.named
  have hnm := (name_of_methodNamed Bd.named Bd.method).1
  have X0 : Stand p l e room_1 (s.setVm s.vm) m #[(.int p1), (.int p2), (.int p3), (.int p4)] below meth c s₁ [] 0 0 := Stand.of_body Bd
  replace hZ : Z.Warmed39 (s.setVm s.vm).vm := hZ
  replace hown : (s.setVm s.vm).vm.findClass "com/example/permits_from_duties/permitsfromduties/EventPerformerPinLaw" = some m.cls := hown
  have hS0 : s.Since s.vm 0 := (State.WarmedH.refl s).since 0
  have hk0 : 0 ≤ h0.size := Nat.zero_le _
  have e0 : s₁.heap = h0 := by rw [← hh, Bd.state]; rfl
  have N0 := Fr.nil n0
  show Go p e below (FinW s below (Q0 Z p1 p2 p3 p4 ccs w_SCHEDULE w_ASSIGN w_REASSIGN w_WITHDRAW w_START w_SUSPEND w_RESUME w_COMPLETE w_ATE_ABORT w_PI_ABORT w_MANUALSKIP w_AUTOSKIP w_UNKNOWN em h0 n0) room_1.cells room_1.slots) (s₁.setTop (entryFrame m #[(.int p1), (.int p2), (.int p3), (.int p4)] maxLocals))
  refine Go.via (fun t k => castTop (ef_rm0 m p1 p2 p3 p4) k) ?_
  show Go p e below _ (s₁.setTop (mkF m 0 #[.val (.int p1), .val (.int p2), .val (.int p3), .val (.int p4), .unset, .unset, .unset, .unset, .unset, .unset, .unset, .unset] []))
  refine Go.via (fun _ => XS.iloadN X0.here hx rfl (hb hby at_0) rfl) ?_
  show Go p e below _ (s₁.setTop (mkF m 1 #[.val (.int p1), .val (.int p2), .val (.int p3), .val (.int p4), .unset, .unset, .unset, .unset, .unset, .unset, .unset, .unset] [(.int p1)]))
  refine Go.via (X0.ldcInt hx hown (mvT hZ (hw _ (List.mem_of_getElem? (i := 0) rfl))) (g := (mkF m 1 #[.val (.int p1), .val (.int p2), .val (.int p3), .val (.int p4), .unset, .unset, .unset, .unset, .unset, .unset, .unset, .unset] [(.int p1)])) rfl (hb hby at_1)) ?_
  show Go p e below _ (s₁.setTop (mkF m 3 #[.val (.int p1), .val (.int p2), .val (.int p3), .val (.int p4), .unset, .unset, .unset, .unset, .unset, .unset, .unset, .unset] [(.int (2147483647 : Int32)), (.int p1)]))
  refine Go.via (fun _ => XS.iand X0.here hx rfl (hb hby at_3) rfl) ?_
  show Go p e below _ (s₁.setTop (mkF m 4 #[.val (.int p1), .val (.int p2), .val (.int p3), .val (.int p4), .unset, .unset, .unset, .unset, .unset, .unset, .unset, .unset] [(.int (p1 &&& (2147483647 : Int32)))]))
  refine Go.via (fun _ => XS.bipush X0.here hx rfl (hb hby at_4)) ?_
  show Go p e below _ (s₁.setTop (mkF m 6 #[.val (.int p1), .val (.int p2), .val (.int p3), .val (.int p4), .unset, .unset, .unset, .unset, .unset, .unset, .unset, .unset] [(.int (14 : Int32)), (.int (p1 &&& (2147483647 : Int32)))]))
  refine Go.via (fun _ => iremM X0 hx rfl (hb hby at_6) rfl (by decide)) ?_
  show Go p e below _ (s₁.setTop (mkF m 7 #[.val (.int p1), .val (.int p2), .val (.int p3), .val (.int p4), .unset, .unset, .unset, .unset, .unset, .unset, .unset, .unset] [(.int ((p1 &&& (2147483647 : Int32)) % (14 : Int32)))]))
  have hk := own_cls (own_14 p1)
  generalize hkk : ((p1 &&& (2147483647 : Int32)) % (14 : Int32)) = k at hk ⊢
  show Go p e below _ (s₁.setTop (mkF m 7 #[.val (.int p1), .val (.int p2), .val (.int p3), .val (.int p4), .unset, .unset, .unset, .unset, .unset, .unset, .unset, .unset] [(.int k)]))
  refine Go.via (fun _ => XS.istore X0.here hx rfl (hb hby at_7) rfl (l' := #[.val (.int p1), .val (.int p2), .val (.int p3), .val (.int p4), .val (.int k), .unset, .unset, .unset, .unset, .unset, .unset, .unset]) rfl) ?_
  show Go p e below _ (s₁.setTop (mkF m 9 #[.val (.int p1), .val (.int p2), .val (.int p3), .val (.int p4), .val (.int k), .unset, .unset, .unset, .unset, .unset, .unset, .unset] []))
  refine Go.via (fun _ => XS.iconst X0.here hx rfl (hb hby at_9)) ?_
  show Go p e below _ (s₁.setTop (mkF m 10 #[.val (.int p1), .val (.int p2), .val (.int p3), .val (.int p4), .val (.int k), .unset, .unset, .unset, .unset, .unset, .unset, .unset] [(.int (2 : Int32))]))
  obtain ⟨T101, h101, k101, X101, e101, E101, A101, st101⟩ := newP X0 hx hZ (hw _ (List.mem_of_getElem? (i := 1) rfl)) e0 (g := (mkF m 10 #[.val (.int p1), .val (.int p2), .val (.int p3), .val (.int p4), .val (.int k), .unset, .unset, .unset, .unset, .unset, .unset, .unset] [(.int (2 : Int32))])) rfl (hb hby at_10) rfl (by decide) (cap := 2) (by decide) (by decide) (by decide) (by decide)
  obtain ⟨b101, g101⟩ : ∃ z, z = h0.size := ⟨_, rfl⟩
  rw [← g101] at A101 st101
  have g_b101 : n0 ≤ b101 := Nat.le_trans Z0 (Nat.le_of_eq g101.symm)
  refine Go.via st101 ?_
  have Zs101 : n0 ≤ h101.size := Nat.le_trans Z0 E101.1
  have hk101 : 0 ≤ h101.size := Nat.le_trans hk0 E101.1
  have O101 : Old Z n0 h101 := O0.ext E101
  have V_b101 : Arv Z h101 b101 k101 .char (2 : Int32) [(.int (0 : Int32)), (.int (0 : Int32))] (.int (0 : Int32)) := (Arv.new A101 (by decide)).pad (pad_rep [] (.int (0 : Int32)) 2)
  show Go p e below _ (T101.setTop (mkF m 12 #[.val (.int p1), .val (.int p2), .val (.int p3), .val (.int p4), .val (.int k), .unset, .unset, .unset, .unset, .unset, .unset, .unset] [(.ref b101)]))
  refine Go.via (fun _ => XS.dup X101.here hx rfl (hb hby at_12) rfl rfl) ?_
  show Go p e below _ (T101.setTop (mkF m 13 #[.val (.int p1), .val (.int p2), .val (.int p3), .val (.int p4), .val (.int k), .unset, .unset, .unset, .unset, .unset, .unset, .unset] [(.ref b101), (.ref b101)]))
  refine Go.via (fun _ => XS.iconst X101.here hx rfl (hb hby at_13)) ?_
  show Go p e below _ (T101.setTop (mkF m 14 #[.val (.int p1), .val (.int p2), .val (.int p3), .val (.int p4), .val (.int k), .unset, .unset, .unset, .unset, .unset, .unset, .unset] [(.int (0 : Int32)), (.ref b101), (.ref b101)]))
  refine Go.via (fun _ => XS.iloadN X101.here hx rfl (hb hby at_14) rfl) ?_
  show Go p e below _ (T101.setTop (mkF m 15 #[.val (.int p1), .val (.int p2), .val (.int p3), .val (.int p4), .val (.int k), .unset, .unset, .unset, .unset, .unset, .unset, .unset] [(.int p3), (.int (0 : Int32)), (.ref b101), (.ref b101)]))
  refine Go.via (fun _ => XS.sipush X101.here hx rfl (hb hby at_15)) ?_
  show Go p e below _ (T101.setTop (mkF m 18 #[.val (.int p1), .val (.int p2), .val (.int p3), .val (.int p4), .val (.int k), .unset, .unset, .unset, .unset, .unset, .unset, .unset] [(.int (255 : Int32)), (.int p3), (.int (0 : Int32)), (.ref b101), (.ref b101)]))
  refine Go.via (fun _ => XS.iand X101.here hx rfl (hb hby at_18) rfl) ?_
  show Go p e below _ (T101.setTop (mkF m 19 #[.val (.int p1), .val (.int p2), .val (.int p3), .val (.int p4), .val (.int k), .unset, .unset, .unset, .unset, .unset, .unset, .unset] [(.int (p3 &&& (255 : Int32))), (.int (0 : Int32)), (.ref b101), (.ref b101)]))
  refine Go.via (fun _ => XS.i2c X101.here hx rfl (hb hby at_19) rfl) ?_
  show Go p e below _ (T101.setTop (mkF m 20 #[.val (.int p1), .val (.int p2), .val (.int p3), .val (.int p4), .val (.int k), .unset, .unset, .unset, .unset, .unset, .unset, .unset] [(.int ((p3 &&& (255 : Int32)).toUInt32.toUInt16.toUInt32.toInt32)), (.int (0 : Int32)), (.ref b101), (.ref b101)]))
  obtain ⟨cl102, Ar102, q102, S102, N102n, H102, G102⟩ := id V_b101
  have hin102 := inb_of (j := (0 : Int32)) S102 (by decide)
  obtain ⟨T102, h102, X102, e102, W102, st102⟩ := stC X101 hx hZ e101 Ar102 (j := (0 : Int32)) hin102 (g := (mkF m 20 #[.val (.int p1), .val (.int p2), .val (.int p3), .val (.int p4), .val (.int k), .unset, .unset, .unset, .unset, .unset, .unset, .unset] [(.int ((p3 &&& (255 : Int32)).toUInt32.toUInt16.toUInt32.toInt32)), (.int (0 : Int32)), (.ref b101), (.ref b101)])) rfl rfl (hb hby at_20)
  refine Go.via st102 ?_
  have V102 : Arv Z h102 b101 k101 .char (2 : Int32) [(.int (nar .char ((p3 &&& (255 : Int32)).toUInt32.toUInt16.toUInt32.toInt32))), (.int (0 : Int32))] (.int (0 : Int32)) := Arv.set Ar102 q102 S102 N102n H102 G102 (fits_nar_char _) W102 0 rfl (Nat.le_of_ble_eq_true rfl)
  have Zs102 : n0 ≤ h102.size := Nat.le_trans Zs101 (Keep.of_wr W102).1
  have hk102 : 0 ≤ h102.size := Nat.le_trans hk101 (Keep.of_wr W102).1
  have O102 : Old Z n0 h102 := O101.wr W102 g_b101
  have N102 := Fr.snoc X102 N0 g_b101
  show Go p e below _ (T102.setTop (mkF m 21 #[.val (.int p1), .val (.int p2), .val (.int p3), .val (.int p4), .val (.int k), .unset, .unset, .unset, .unset, .unset, .unset, .unset] [(.ref b101)]))
  refine Go.via (fun _ => XS.dup X102.here hx rfl (hb hby at_21) rfl rfl) ?_
  show Go p e below _ (T102.setTop (mkF m 22 #[.val (.int p1), .val (.int p2), .val (.int p3), .val (.int p4), .val (.int k), .unset, .unset, .unset, .unset, .unset, .unset, .unset] [(.ref b101), (.ref b101)]))
  refine Go.via (fun _ => XS.iconst X102.here hx rfl (hb hby at_22)) ?_
  show Go p e below _ (T102.setTop (mkF m 23 #[.val (.int p1), .val (.int p2), .val (.int p3), .val (.int p4), .val (.int k), .unset, .unset, .unset, .unset, .unset, .unset, .unset] [(.int (1 : Int32)), (.ref b101), (.ref b101)]))
  refine Go.via (fun _ => XS.iloadN X102.here hx rfl (hb hby at_23) rfl) ?_
  show Go p e below _ (T102.setTop (mkF m 24 #[.val (.int p1), .val (.int p2), .val (.int p3), .val (.int p4), .val (.int k), .unset, .unset, .unset, .unset, .unset, .unset, .unset] [(.int p4), (.int (1 : Int32)), (.ref b101), (.ref b101)]))
  refine Go.via (fun _ => XS.sipush X102.here hx rfl (hb hby at_24)) ?_
  show Go p e below _ (T102.setTop (mkF m 27 #[.val (.int p1), .val (.int p2), .val (.int p3), .val (.int p4), .val (.int k), .unset, .unset, .unset, .unset, .unset, .unset, .unset] [(.int (255 : Int32)), (.int p4), (.int (1 : Int32)), (.ref b101), (.ref b101)]))
  refine Go.via (fun _ => XS.iand X102.here hx rfl (hb hby at_27) rfl) ?_
  show Go p e below _ (T102.setTop (mkF m 28 #[.val (.int p1), .val (.int p2), .val (.int p3), .val (.int p4), .val (.int k), .unset, .unset, .unset, .unset, .unset, .unset, .unset] [(.int (p4 &&& (255 : Int32))), (.int (1 : Int32)), (.ref b101), (.ref b101)]))
  refine Go.via (fun _ => XS.i2c X102.here hx rfl (hb hby at_28) rfl) ?_
  show Go p e below _ (T102.setTop (mkF m 29 #[.val (.int p1), .val (.int p2), .val (.int p3), .val (.int p4), .val (.int k), .unset, .unset, .unset, .unset, .unset, .unset, .unset] [(.int ((p4 &&& (255 : Int32)).toUInt32.toUInt16.toUInt32.toInt32)), (.int (1 : Int32)), (.ref b101), (.ref b101)]))
  obtain ⟨cl103, Ar103, q103, S103, N103n, H103, G103⟩ := id V102
  have hin103 := inb_of (j := (1 : Int32)) S103 (by decide)
  obtain ⟨T103, h103, X103, e103, W103, st103⟩ := stC X102 hx hZ e102 Ar103 (j := (1 : Int32)) hin103 (g := (mkF m 29 #[.val (.int p1), .val (.int p2), .val (.int p3), .val (.int p4), .val (.int k), .unset, .unset, .unset, .unset, .unset, .unset, .unset] [(.int ((p4 &&& (255 : Int32)).toUInt32.toUInt16.toUInt32.toInt32)), (.int (1 : Int32)), (.ref b101), (.ref b101)])) rfl rfl (hb hby at_29)
  refine Go.via st103 ?_
  have V103 : Arv Z h103 b101 k101 .char (2 : Int32) [(.int (nar .char ((p3 &&& (255 : Int32)).toUInt32.toUInt16.toUInt32.toInt32))), (.int (nar .char ((p4 &&& (255 : Int32)).toUInt32.toUInt16.toUInt32.toInt32)))] (.int (0 : Int32)) := Arv.set Ar103 q103 S103 N103n H103 G103 (fits_nar_char _) W103 1 rfl (Nat.le_of_ble_eq_true rfl)
  have Zs103 : n0 ≤ h103.size := Nat.le_trans Zs102 (Keep.of_wr W103).1
  have hk103 : 0 ≤ h103.size := Nat.le_trans hk102 (Keep.of_wr W103).1
  have O103 : Old Z n0 h103 := O102.wr W103 g_b101
  have N103 := Fr.snoc X103 N102 g_b101
  show Go p e below _ (T103.setTop (mkF m 30 #[.val (.int p1), .val (.int p2), .val (.int p3), .val (.int p4), .val (.int k), .unset, .unset, .unset, .unset, .unset, .unset, .unset] [(.ref b101)]))
  refine Go.via (fun _ => XS.astore X103.here hx rfl (hb hby at_30) rfl rfl (l' := #[.val (.int p1), .val (.int p2), .val (.int p3), .val (.int p4), .val (.int k), .val (.ref b101), .unset, .unset, .unset, .unset, .unset, .unset]) rfl) ?_
  show Go p e below _ (T103.setTop (mkF m 32 #[.val (.int p1), .val (.int p2), .val (.int p3), .val (.int p4), .val (.int k), .val (.ref b101), .unset, .unset, .unset, .unset, .unset, .unset] []))
  refine Go.via (fun _ => XS.iloadN X103.here hx rfl (hb hby at_32) rfl) ?_
  show Go p e below _ (T103.setTop (mkF m 33 #[.val (.int p1), .val (.int p2), .val (.int p3), .val (.int p4), .val (.int k), .val (.ref b101), .unset, .unset, .unset, .unset, .unset, .unset] [(.int p2)]))
  refine Go.via (X103.ldcInt hx hown (mvT hZ (hw _ (List.mem_of_getElem? (i := 0) rfl))) (g := (mkF m 33 #[.val (.int p1), .val (.int p2), .val (.int p3), .val (.int p4), .val (.int k), .val (.ref b101), .unset, .unset, .unset, .unset, .unset, .unset] [(.int p2)])) rfl (hb hby at_33)) ?_
  show Go p e below _ (T103.setTop (mkF m 35 #[.val (.int p1), .val (.int p2), .val (.int p3), .val (.int p4), .val (.int k), .val (.ref b101), .unset, .unset, .unset, .unset, .unset, .unset] [(.int (2147483647 : Int32)), (.int p2)]))
  refine Go.via (fun _ => XS.iand X103.here hx rfl (hb hby at_35) rfl) ?_
  show Go p e below _ (T103.setTop (mkF m 36 #[.val (.int p1), .val (.int p2), .val (.int p3), .val (.int p4), .val (.int k), .val (.ref b101), .unset, .unset, .unset, .unset, .unset, .unset] [(.int (p2 &&& (2147483647 : Int32)))]))
  refine Go.via (fun _ => XS.iconst X103.here hx rfl (hb hby at_36)) ?_
  show Go p e below _ (T103.setTop (mkF m 37 #[.val (.int p1), .val (.int p2), .val (.int p3), .val (.int p4), .val (.int k), .val (.ref b101), .unset, .unset, .unset, .unset, .unset, .unset] [(.int (3 : Int32)), (.int (p2 &&& (2147483647 : Int32)))]))
  refine Go.via (fun _ => iremM X103 hx rfl (hb hby at_37) rfl (by decide)) ?_
  show Go p e below _ (T103.setTop (mkF m 38 #[.val (.int p1), .val (.int p2), .val (.int p3), .val (.int p4), .val (.int k), .val (.ref b101), .unset, .unset, .unset, .unset, .unset, .unset] [(.int ((p2 &&& (2147483647 : Int32)) % (3 : Int32)))]))
  generalize hum : ((p2 &&& (2147483647 : Int32)) % (3 : Int32)) = um
  show Go p e below _ (T103.setTop (mkF m 38 #[.val (.int p1), .val (.int p2), .val (.int p3), .val (.int p4), .val (.int k), .val (.ref b101), .unset, .unset, .unset, .unset, .unset, .unset] [(.int um)]))
  refine Go.via (fun _ => XS.istore X103.here hx rfl (hb hby at_38) rfl (l' := #[.val (.int p1), .val (.int p2), .val (.int p3), .val (.int p4), .val (.int k), .val (.ref b101), .val (.int um), .unset, .unset, .unset, .unset, .unset]) rfl) ?_
  show Go p e below _ (T103.setTop (mkF m 40 #[.val (.int p1), .val (.int p2), .val (.int p3), .val (.int p4), .val (.int k), .val (.ref b101), .val (.int um), .unset, .unset, .unset, .unset, .unset] []))
  refine Go.via (fun _ => XS.iload X103.here hx rfl (hb hby at_40) rfl) ?_
  show Go p e below _ (T103.setTop (mkF m 42 #[.val (.int p1), .val (.int p2), .val (.int p3), .val (.int p4), .val (.int k), .val (.ref b101), .val (.int um), .unset, .unset, .unset, .unset, .unset] [(.int um)]))
  by_cases hc104 : um = (0 : Int32)
  · -- yes
    subst hc104
    show Go p e below _ (T103.setTop (mkF m 42 #[.val (.int p1), .val (.int p2), .val (.int p3), .val (.int p4), .val (.int k), .val (.ref b101), .val (.int (0 : Int32)), .unset, .unset, .unset, .unset, .unset] [(.int (0 : Int32))]))
    show Go p e below _ (T103.setTop (mkF m 42 #[.val (.int p1), .val (.int p2), .val (.int p3), .val (.int p4), .val (.int k), .val (.ref b101), .val (.int (0 : Int32)), .unset, .unset, .unset, .unset, .unset] [(.int (0 : Int32))]))
    refine Go.via (fun _ => XS.ifNo X103.here hx rfl (hb hby at_42) rfl (by decide)) ?_
    show Go p e below _ (T103.setTop (mkF m 45 #[.val (.int p1), .val (.int p2), .val (.int p3), .val (.int p4), .val (.int k), .val (.ref b101), .val (.int (0 : Int32)), .unset, .unset, .unset, .unset, .unset] []))
    refine Go.via (fun _ => XS.aconstNull X103.here hx rfl (hb hby at_45)) ?_
    show Go p e below _ (T103.setTop (mkF m 46 #[.val (.int p1), .val (.int p2), .val (.int p3), .val (.int p4), .val (.int k), .val (.ref b101), .val (.int (0 : Int32)), .unset, .unset, .unset, .unset, .unset] [.null]))
    refine Go.via (fun _ => XS.astore X103.here hx rfl (hb hby at_46) rfl rfl (l' := #[.val (.int p1), .val (.int p2), .val (.int p3), .val (.int p4), .val (.int k), .val (.ref b101), .val (.int (0 : Int32)), .val .null, .unset, .unset, .unset, .unset]) rfl) ?_
    show Go p e below _ (T103.setTop (mkF m 48 #[.val (.int p1), .val (.int p2), .val (.int p3), .val (.int p4), .val (.int k), .val (.ref b101), .val (.int (0 : Int32)), .val .null, .unset, .unset, .unset, .unset] []))
    refine Go.via (fun _ => XS.goto X103.here hx rfl (pc0 := 48) (pc' := 75) rfl (hb hby at_48) (by decide) (by decide)) ?_
    show Go p e below _ (T103.setTop (mkF m 75 #[.val (.int p1), .val (.int p2), .val (.int p3), .val (.int p4), .val (.int k), .val (.ref b101), .val (.int (0 : Int32)), .val .null, .unset, .unset, .unset, .unset] []))
    refine Go.via (fun _ => XS.iloadN X103.here hx rfl (hb hby at_75) rfl) ?_
    show Go p e below _ (T103.setTop (mkF m 76 #[.val (.int p1), .val (.int p2), .val (.int p3), .val (.int p4), .val (.int k), .val (.ref b101), .val (.int (0 : Int32)), .val .null, .unset, .unset, .unset, .unset] [(.int p2)]))
    refine Go.via (fun _ => XS.bipush X103.here hx rfl (hb hby at_76)) ?_
    show Go p e below _ (T103.setTop (mkF m 78 #[.val (.int p1), .val (.int p2), .val (.int p3), .val (.int p4), .val (.int k), .val (.ref b101), .val (.int (0 : Int32)), .val .null, .unset, .unset, .unset, .unset] [(.int (8 : Int32)), (.int p2)]))
    refine Go.via (fun _ => XS.iushr X103.here hx rfl (hb hby at_78) rfl) ?_
    show Go p e below _ (T103.setTop (mkF m 79 #[.val (.int p1), .val (.int p2), .val (.int p3), .val (.int p4), .val (.int k), .val (.ref b101), .val (.int (0 : Int32)), .val .null, .unset, .unset, .unset, .unset] [(.int ((p2.toUInt32 >>> ((8 : Int32) &&& 31).toUInt32).toInt32))]))
    refine Go.via (fun _ => XS.sipush X103.here hx rfl (hb hby at_79)) ?_
    show Go p e below _ (T103.setTop (mkF m 82 #[.val (.int p1), .val (.int p2), .val (.int p3), .val (.int p4), .val (.int k), .val (.ref b101), .val (.int (0 : Int32)), .val .null, .unset, .unset, .unset, .unset] [(.int (255 : Int32)), (.int ((p2.toUInt32 >>> ((8 : Int32) &&& 31).toUInt32).toInt32))]))
    refine Go.via (fun _ => XS.iand X103.here hx rfl (hb hby at_82) rfl) ?_
    show Go p e below _ (T103.setTop (mkF m 83 #[.val (.int p1), .val (.int p2), .val (.int p3), .val (.int p4), .val (.int k), .val (.ref b101), .val (.int (0 : Int32)), .val .null, .unset, .unset, .unset, .unset] [(.int (((p2.toUInt32 >>> ((8 : Int32) &&& 31).toUInt32).toInt32) &&& (255 : Int32)))]))
    refine Go.via (fun _ => XS.i2c X103.here hx rfl (hb hby at_83) rfl) ?_
    show Go p e below _ (T103.setTop (mkF m 84 #[.val (.int p1), .val (.int p2), .val (.int p3), .val (.int p4), .val (.int k), .val (.ref b101), .val (.int (0 : Int32)), .val .null, .unset, .unset, .unset, .unset] [(.int ((((p2.toUInt32 >>> ((8 : Int32) &&& 31).toUInt32).toInt32) &&& (255 : Int32)).toUInt32.toUInt16.toUInt32.toInt32))]))
    obtain ⟨_, _, ⟨T105, L105, k105, n105⟩, -, X105, ⟨Lc105, hQ105, l105, y105, z105⟩, st105⟩ := Jvm.LawKit.callS X103 hx (y := (⟨"java/lang/String", "valueOf", "(C)Ljava/lang/String;"⟩ : MethodName)) hown (mvT hZ (hw _ (List.mem_of_getElem? (i := 2) rfl))) (mvT hZ (hw _ (List.mem_of_getElem? (i := 3) rfl))) (mvT hZ (hw _ (List.mem_of_getElem? (i := 4) rfl))) (mvT hZ (hw _ (List.mem_of_getElem? (i := 5) rfl))) (by decide) (backOf (W := 0) (rmVO l Z a0 hw [] ((((p2.toUInt32 >>> ((8 : Int32) &&& 31).toUInt32).toInt32) &&& (255 : Int32)).toUInt32.toUInt16.toUInt32.toInt32) ccs h103 n0 Zs103 O103 S_CS hcs (own_and255 ((p2.toUInt32 >>> ((8 : Int32) &&& 31).toUInt32).toInt32)).2) hZ (hw _ (List.mem_of_getElem? (i := 5) rfl)) (hw _ (List.mem_of_getElem? (i := 4) rfl)) (by decide) (by decide)) (g := (mkF m 84 #[.val (.int p1), .val (.int p2), .val (.int p3), .val (.int p4), .val (.int k), .val (.ref b101), .val (.int (0 : Int32)), .val .null, .unset, .unset, .unset, .unset] [(.int ((((p2.toUInt32 >>> ((8 : Int32) &&& 31).toUInt32).toInt32) &&& (255 : Int32)).toUInt32.toUInt16.toUInt32.toInt32))])) rfl (by rw [hml]; rfl) (argsL := [(.int ((((p2.toUInt32 >>> ((8 : Int32) &&& 31).toUInt32).toInt32) &&& (255 : Int32)).toUInt32.toUInt16.toUInt32.toInt32))]) (rest := []) (lenOf pd_10 rfl) rfl (by show 2 * 0 + _ ≤ _; exact Nat.le_of_eq rfl) (hb hby at_84) (fun _ _ => ⟨rfl, e103, (by decide : 1 + 2 ≤ _), (by decide : 2 + 5 ≤ _)⟩)
    dsimp only [Pt.U, Pt.locs, Pt.cells, Pt.slots] at X105 l105 y105 z105 st105 hQ105
    rw [l105, y105, z105] at X105
    replace X105 : Stand p l e _ _ m _ below meth c T105 _ 3 7 := X105
    obtain ⟨sv105, rfl, N105q, K105q, gv105, ev105⟩ := hQ105
    have N105 := Fr.app N103 N105q
    refine Go.via st105 ?_
    have Zs105 : n0 ≤ T105.heap.size := Nat.le_trans Zs103 K105q.1
    have hk105 : 0 ≤ T105.heap.size := Nat.le_trans hk103 K105q.1
    have O105 : Old Z n0 T105.heap := O103.keep K105q all0
    have fV_b101_105 := V103.keep K105q nin0
    have g_sv105 : n0 ≤ sv105 := Nat.le_trans Zs103 gv105
    have ne_b101_sv105 : b101 ≠ sv105 := Nat.ne_of_lt (Nat.lt_of_lt_of_le V103.lt gv105)
    show Go p e below _ (T105.setTop (mkF m 87 #[.val (.int p1), .val (.int p2), .val (.int p3), .val (.int p4), .val (.int k), .val (.ref b101), .val (.int (0 : Int32)), .val .null, .unset, .unset, .unset, .unset] [(.ref sv105)]))
    refine Go.via (fun _ => XS.astore X105.here hx rfl (hb hby at_87) rfl rfl (l' := #[.val (.int p1), .val (.int p2), .val (.int p3), .val (.int p4), .val (.int k), .val (.ref b101), .val (.int (0 : Int32)), .val .null, .val (.ref sv105), .unset, .unset, .unset]) rfl) ?_
    show Go p e below _ (T105.setTop (mkF m 89 #[.val (.int p1), .val (.int p2), .val (.int p3), .val (.int p4), .val (.int k), .val (.ref b101), .val (.int (0 : Int32)), .val .null, .val (.ref sv105), .unset, .unset, .unset] []))
    rcases hk with rfl | rfl | hk | hk | hk
    ·
      show Go p e below _ (T105.setTop (mkF m 89 #[.val (.int p1), .val (.int p2), .val (.int p3), .val (.int p4), .val (.int (13 : Int32)), .val (.ref b101), .val (.int (0 : Int32)), .val .null, .val (.ref sv105), .unset, .unset, .unset] []))
      refine Go.via (fun _ => XS.iload X105.here hx rfl (hb hby at_89) rfl) ?_
      show Go p e below _ (T105.setTop (mkF m 91 #[.val (.int p1), .val (.int p2), .val (.int p3), .val (.int p4), .val (.int (13 : Int32)), .val (.ref b101), .val (.int (0 : Int32)), .val .null, .val (.ref sv105), .unset, .unset, .unset] [(.int (13 : Int32))]))
      refine Go.via (fun _ => XS.bipush X105.here hx rfl (hb hby at_91)) ?_
      show Go p e below _ (T105.setTop (mkF m 93 #[.val (.int p1), .val (.int p2), .val (.int p3), .val (.int p4), .val (.int (13 : Int32)), .val (.ref b101), .val (.int (0 : Int32)), .val .null, .val (.ref sv105), .unset, .unset, .unset] [(.int (13 : Int32)), (.int (13 : Int32))]))
      refine Go.via (fun _ => XS.icmpNo X105.here hx rfl (hb hby at_93) rfl (by decide)) ?_
      show Go p e below _ (T105.setTop (mkF m 96 #[.val (.int p1), .val (.int p2), .val (.int p3), .val (.int p4), .val (.int (13 : Int32)), .val (.ref b101), .val (.int (0 : Int32)), .val .null, .val (.ref sv105), .unset, .unset, .unset] []))
      obtain ⟨T106, h106, X106, e106, E106, A106, D106, -, st106⟩ := newO X105 hx hZ hown (hw _ (List.mem_of_getElem? (i := 28) rfl)) (hw _ (List.mem_of_getElem? (i := 29) rfl)) (hw _ (List.mem_of_getElem? (i := 30) rfl)) rfl (g := (mkF m 96 #[.val (.int p1), .val (.int p2), .val (.int p3), .val (.int p4), .val (.int (13 : Int32)), .val (.ref b101), .val (.int (0 : Int32)), .val .null, .val (.ref sv105), .unset, .unset, .unset] [])) rfl (hb hby at_96) (by decide) (by decide)
      obtain ⟨b106, g106⟩ : ∃ z, z = T105.heap.size := ⟨_, rfl⟩
      rw [← g106] at A106 D106 st106
      have g_b106 : n0 ≤ b106 := Nat.le_trans Zs105 (Nat.le_of_eq g106.symm)
      have ne_b101_b106 : b101 ≠ b106 := Nat.ne_of_lt (Nat.lt_of_lt_of_le fV_b101_105.lt (Nat.le_of_eq g106.symm))
      have ne_sv105_b106 : sv105 ≠ b106 := Nat.ne_of_lt (Nat.lt_of_lt_of_le ev105.lt (Nat.le_of_eq g106.symm))
      refine Go.via st106 ?_
      have Zs106 : n0 ≤ h106.size := Nat.le_trans Zs105 E106.1
      have hk106 : 0 ≤ h106.size := Nat.le_trans hk105 E106.1
      have O106 : Old Z n0 h106 := O105.ext E106
      have fV_b101_106 := fV_b101_105.ext E106
      have fE_sv105_106 := ev105.ext E106
      have F_task_b106 : Fld Z h106 b106 "com/example/permits_from_duties/permitsfromduties/Event" "task" "Ljava/lang/String;" .null := D106 (Or.inr (hw _ (List.mem_of_getElem? (i := 65) rfl))) (ty := (.object "java/lang/String")) (by decide)
      have F_user_b106 : Fld Z h106 b106 "com/example/permits_from_duties/permitsfromduties/Event" "user" "Ljava/lang/String;" .null := D106 (Or.inr (hw _ (List.mem_of_getElem? (i := 67) rfl))) (ty := (.object "java/lang/String")) (by decide)
      have F_time_b106 : Fld Z h106 b106 "com/example/permits_from_duties/permitsfromduties/Event" "time" "Ljava/time/Instant;" .null := D106 (Or.inr (hw _ (List.mem_of_getElem? (i := 69) rfl))) (ty := (.object "java/time/Instant")) (by decide)
      have F_transition_b106 : Fld Z h106 b106 "com/example/permits_from_duties/permitsfromduties/Event" "transition" "Lcom/example/permits_from_duties/permitsfromduties/Event$Transition;" .null := D106 (Or.inr (hw _ (List.mem_of_getElem? (i := 71) rfl))) (ty := (.object "com/example/permits_from_duties/permitsfromduties/Event$Transition")) (by decide)
      have F_location_b106 : Fld Z h106 b106 "com/example/permits_from_duties/permitsfromduties/Event" "location" "Ljava/lang/String;" .null := D106 (Or.inr (hw _ (List.mem_of_getElem? (i := 73) rfl))) (ty := (.object "java/lang/String")) (by decide)
      have F_data_b106 : Fld Z h106 b106 "com/example/permits_from_duties/permitsfromduties/Event" "data" "Ljava/util/Map;" .null := D106 (Or.inr (hw _ (List.mem_of_getElem? (i := 75) rfl))) (ty := (.object "java/util/Map")) (by decide)
      show Go p e below _ (T106.setTop (mkF m 99 #[.val (.int p1), .val (.int p2), .val (.int p3), .val (.int p4), .val (.int (13 : Int32)), .val (.ref b101), .val (.int (0 : Int32)), .val .null, .val (.ref sv105), .unset, .unset, .unset] [(.ref b106)]))
      refine Go.via (fun _ => XS.dup X106.here hx rfl (hb hby at_99) rfl rfl) ?_
      show Go p e below _ (T106.setTop (mkF m 100 #[.val (.int p1), .val (.int p2), .val (.int p3), .val (.int p4), .val (.int (13 : Int32)), .val (.ref b101), .val (.int (0 : Int32)), .val .null, .val (.ref sv105), .unset, .unset, .unset] [(.ref b106), (.ref b106)]))
      refine Go.via (fun _ => XS.aload X106.here hx rfl (hb hby at_100) rfl rfl) ?_
      show Go p e below _ (T106.setTop (mkF m 102 #[.val (.int p1), .val (.int p2), .val (.int p3), .val (.int p4), .val (.int (13 : Int32)), .val (.ref b101), .val (.int (0 : Int32)), .val .null, .val (.ref sv105), .unset, .unset, .unset] [(.ref sv105), (.ref b106), (.ref b106)]))
      refine Go.via (fun _ => XS.aload X106.here hx rfl (hb hby at_102) rfl rfl) ?_
      show Go p e below _ (T106.setTop (mkF m 104 #[.val (.int p1), .val (.int p2), .val (.int p3), .val (.int p4), .val (.int (13 : Int32)), .val (.ref b101), .val (.int (0 : Int32)), .val .null, .val (.ref sv105), .unset, .unset, .unset] [.null, (.ref sv105), (.ref b106), (.ref b106)]))
      have etUb106 := E_UNKNOWN.ext O106.2
      have fwUb106 := F_UNKNOWN.ext O106.2
      have neUb106 : b106 ≠ w_UNKNOWN := Ne.symm (O106.ne E_UNKNOWN.lt g_b106)
      obtain ⟨_, _, ⟨T107, L107, k107, n107⟩, -, X107, S107w, gr107, ⟨Lc107, hQ107, l107, y107, z107⟩, st107⟩ := X106.specialBackS hx (y := (⟨"com/example/permits_from_duties/permitsfromduties/Event", "<init>", "(Ljava/lang/String;Ljava/lang/String;)V"⟩ : MethodName)) rfl hown (mvT hZ (hw _ (List.mem_of_getElem? (i := 129) rfl))) (mvT hZ (hw _ (List.mem_of_getElem? (i := 130) rfl))) (mvT hZ (hw _ (List.mem_of_getElem? (i := 131) rfl))) (by decide) (backOfS (W := 1) (rmC2N l Z a0 hw [] b106 sv105 w_UNKNOWN em h106 n0 Zs106 A106 F_task_b106 F_user_b106 F_time_b106 F_transition_b106 F_location_b106 F_data_b106 g_b106 O106 S_EM S_UNKNOWN) hZ (hw _ (List.mem_of_getElem? (i := 131) rfl)) (hw _ (List.mem_of_getElem? (i := 30) rfl)) (by decide) (by decide)) (g := (mkF m 104 #[.val (.int p1), .val (.int p2), .val (.int p3), .val (.int p4), .val (.int (13 : Int32)), .val (.ref b101), .val (.int (0 : Int32)), .val .null, .val (.ref sv105), .unset, .unset, .unset] [.null, (.ref sv105), (.ref b106), (.ref b106)])) rfl (by rw [hml]; rfl) (Steps.refl _) (a := b106) (argsL := [(.ref sv105), .null]) (rest := [(.ref b106)]) (lenOf pd_11 rfl) rfl (by show 2 * 0 + _ ≤ _; exact Nat.le_of_eq rfl) (hb hby at_104) (fun _ _ => ⟨rfl, e106, (by decide : 4 + 4 ≤ _), (by decide : 13 + 64 ≤ _)⟩)
      dsimp only [Pt.U, Pt.locs, Pt.cells, Pt.slots] at X107 l107 y107 z107 st107 hQ107 S107w gr107
      rw [l107, y107, z107] at X107
      replace X107 : Stand p l e _ _ m _ below meth c T107 _ 8 77 := X107
      obtain ⟨rfl, N107q, K107q, fu107, ft107⟩ := hQ107
      have N107 := Fr.app N105 N107q
      refine Go.tr st107 ?_
      obtain ⟨X107r, hS107, hZ107, hown107⟩ := rebS hS0 (by rw [e106]; exact hk106) X107 S107w gr107 hZ hown
      have Zs107 : n0 ≤ T107.heap.size := Nat.le_trans Zs106 K107q.1
      have O107 : Old Z n0 T107.heap := O106.keep K107q (allS g_b106 all0)
      have fV_b101_107 := fV_b101_106.keep K107q (ninS ne_b101_b106 nin0)
      have fE_sv105_107 := fE_sv105_106.keep K107q
      have fE_b106_107 := A106.keep K107q
      have fE_w_UNKNOWN_107 := etUb106.keep K107q
      have fF_w_UNKNOWN_work_107 := fwUb106.keep K107q (ninS (Ne.symm neUb106) nin0)
      show Go p e below _ (T107.setTop (mkF m 107 #[.val (.int p1), .val (.int p2), .val (.int p3), .val (.int p4), .val (.int (13 : Int32)), .val (.ref b101), .val (.int (0 : Int32)), .val .null, .val (.ref sv105), .unset, .unset, .unset] [(.ref b106)]))
      refine Go.via (fun _ => XS.astore X107r.here hx rfl (hb hby at_107) rfl rfl (l' := #[.val (.int p1), .val (.int p2), .val (.int p3), .val (.int p4), .val (.int (13 : Int32)), .val (.ref b101), .val (.int (0 : Int32)), .val .null, .val (.ref sv105), .val (.ref b106), .unset, .unset]) rfl) ?_
      show Go p e below _ (T107.setTop (mkF m 109 #[.val (.int p1), .val (.int p2), .val (.int p3), .val (.int p4), .val (.int (13 : Int32)), .val (.ref b101), .val (.int (0 : Int32)), .val .null, .val (.ref sv105), .val (.ref b106), .unset, .unset] []))
      refine Go.via (fun _ => XS.goto X107r.here hx rfl (pc0 := 109) (pc' := 131) rfl (hb hby at_109) (by decide) (by decide)) ?_
      show Go p e below _ (T107.setTop (mkF m 131 #[.val (.int p1), .val (.int p2), .val (.int p3), .val (.int p4), .val (.int (13 : Int32)), .val (.ref b101), .val (.int (0 : Int32)), .val .null, .val (.ref sv105), .val (.ref b106), .unset, .unset] []))
      refine Go.via (fun _ => XS.iload X107r.here hx rfl (hb hby at_131) rfl) ?_
      show Go p e below _ (T107.setTop (mkF m 133 #[.val (.int p1), .val (.int p2), .val (.int p3), .val (.int p4), .val (.int (13 : Int32)), .val (.ref b101), .val (.int (0 : Int32)), .val .null, .val (.ref sv105), .val (.ref b106), .unset, .unset] [(.int (13 : Int32))]))
      refine Go.via (fun _ => XS.iconst X107r.here hx rfl (hb hby at_133)) ?_
      show Go p e below _ (T107.setTop (mkF m 134 #[.val (.int p1), .val (.int p2), .val (.int p3), .val (.int p4), .val (.int (13 : Int32)), .val (.ref b101), .val (.int (0 : Int32)), .val .null, .val (.ref sv105), .val (.ref b106), .unset, .unset] [(.int (4 : Int32)), (.int (13 : Int32))]))
      refine Go.via (fun _ => XS.icmpNo X107r.here hx rfl (hb hby at_134) rfl (by decide)) ?_
      show Go p e below _ (T107.setTop (mkF m 137 #[.val (.int p1), .val (.int p2), .val (.int p3), .val (.int p4), .val (.int (13 : Int32)), .val (.ref b101), .val (.int (0 : Int32)), .val .null, .val (.ref sv105), .val (.ref b106), .unset, .unset] []))
      refine Go.via (fun _ => XS.iload X107r.here hx rfl (hb hby at_137) rfl) ?_
      show Go p e below _ (T107.setTop (mkF m 139 #[.val (.int p1), .val (.int p2), .val (.int p3), .val (.int p4), .val (.int (13 : Int32)), .val (.ref b101), .val (.int (0 : Int32)), .val .null, .val (.ref sv105), .val (.ref b106), .unset, .unset] [(.int (13 : Int32))]))
      refine Go.via (fun _ => XS.bipush X107r.here hx rfl (hb hby at_139)) ?_
      show Go p e below _ (T107.setTop (mkF m 141 #[.val (.int p1), .val (.int p2), .val (.int p3), .val (.int p4), .val (.int (13 : Int32)), .val (.ref b101), .val (.int (0 : Int32)), .val .null, .val (.ref sv105), .val (.ref b106), .unset, .unset] [(.int (8 : Int32)), (.int (13 : Int32))]))
      refine Go.via (fun _ => XS.icmpNo X107r.here hx rfl (hb hby at_141) rfl (by decide)) ?_
      show Go p e below _ (T107.setTop (mkF m 144 #[.val (.int p1), .val (.int p2), .val (.int p3), .val (.int p4), .val (.int (13 : Int32)), .val (.ref b101), .val (.int (0 : Int32)), .val .null, .val (.ref sv105), .val (.ref b106), .unset, .unset] []))
      refine Go.via (fun _ => XS.iload X107r.here hx rfl (hb hby at_144) rfl) ?_
      show Go p e below _ (T107.setTop (mkF m 146 #[.val (.int p1), .val (.int p2), .val (.int p3), .val (.int p4), .val (.int (13 : Int32)), .val (.ref b101), .val (.int (0 : Int32)), .val .null, .val (.ref sv105), .val (.ref b106), .unset, .unset] [(.int (13 : Int32))]))
      refine Go.via (fun _ => XS.bipush X107r.here hx rfl (hb hby at_146)) ?_
      show Go p e below _ (T107.setTop (mkF m 148 #[.val (.int p1), .val (.int p2), .val (.int p3), .val (.int p4), .val (.int (13 : Int32)), .val (.ref b101), .val (.int (0 : Int32)), .val .null, .val (.ref sv105), .val (.ref b106), .unset, .unset] [(.int (12 : Int32)), (.int (13 : Int32))]))
      refine Go.via (fun _ => XS.icmpNo X107r.here hx rfl (hb hby at_148) rfl (by decide)) ?_
      show Go p e below _ (T107.setTop (mkF m 151 #[.val (.int p1), .val (.int p2), .val (.int p3), .val (.int p4), .val (.int (13 : Int32)), .val (.ref b101), .val (.int (0 : Int32)), .val .null, .val (.ref sv105), .val (.ref b106), .unset, .unset] []))
      refine Go.via (fun _ => XS.iconst X107r.here hx rfl (hb hby at_151)) ?_
      show Go p e below _ (T107.setTop (mkF m 152 #[.val (.int p1), .val (.int p2), .val (.int p3), .val (.int p4), .val (.int (13 : Int32)), .val (.ref b101), .val (.int (0 : Int32)), .val .null, .val (.ref sv105), .val (.ref b106), .unset, .unset] [(.int (1 : Int32))]))
      refine Go.via (fun _ => XS.goto X107r.here hx rfl (pc0 := 152) (pc' := 156) rfl (hb hby at_152) (by decide) (by decide)) ?_
      show Go p e below _ (T107.setTop (mkF m 156 #[.val (.int p1), .val (.int p2), .val (.int p3), .val (.int p4), .val (.int (13 : Int32)), .val (.ref b101), .val (.int (0 : Int32)), .val .null, .val (.ref sv105), .val (.ref b106), .unset, .unset] [(.int (1 : Int32))]))
      refine Go.via (fun _ => XS.istore X107r.here hx rfl (hb hby at_156) rfl (l' := #[.val (.int p1), .val (.int p2), .val (.int p3), .val (.int p4), .val (.int (13 : Int32)), .val (.ref b101), .val (.int (0 : Int32)), .val .null, .val (.ref sv105), .val (.ref b106), .val (.int (1 : Int32)), .unset]) rfl) ?_
      show Go p e below _ (T107.setTop (mkF m 158 #[.val (.int p1), .val (.int p2), .val (.int p3), .val (.int p4), .val (.int (13 : Int32)), .val (.ref b101), .val (.int (0 : Int32)), .val .null, .val (.ref sv105), .val (.ref b106), .val (.int (1 : Int32)), .unset] []))
      refine Go.via (fun _ => XS.aload X107r.here hx rfl (hb hby at_158) rfl rfl) ?_
      show Go p e below _ (T107.setTop (mkF m 160 #[.val (.int p1), .val (.int p2), .val (.int p3), .val (.int p4), .val (.int (13 : Int32)), .val (.ref b101), .val (.int (0 : Int32)), .val .null, .val (.ref sv105), .val (.ref b106), .val (.int (1 : Int32)), .unset] [(.ref b106)]))
      obtain ⟨cq108, kq108, q108a, q108b, q108c⟩ := isOf hZ107 rfl fE_b106_107
      obtain ⟨_, _, ⟨T108, L108, k108, n108⟩, -, X108, ⟨Lc108, hQ108, l108, y108, z108⟩, st108⟩ := X107r.virtualBack hx (y := (⟨"com/example/permits_from_duties/permitsfromduties/Event", "performer", "()Ljava/lang/String;"⟩ : MethodName)) (z := (⟨"com/example/permits_from_duties/permitsfromduties/Event", "performer", "()Ljava/lang/String;"⟩ : MethodName)) hown107 (mvT hZ107 (hw _ (List.mem_of_getElem? (i := 76) rfl))) (mvT hZ107 (hw _ (List.mem_of_getElem? (i := 77) rfl))) (notFace_of_selects (args := #[]) (mvT hZ107 (hw _ (List.mem_of_getElem? (i := 79) rfl)))) (mvT hZ107 (hw _ (List.mem_of_getElem? (i := 79) rfl))) (mvT hZ107 (hw _ (List.mem_of_getElem? (i := 78) rfl))) (by decide) (backOf (W := 0) (rmPf_1N l Z a0 hw [] b106 w_UNKNOWN  T107.heap n0 Zs107 fE_b106_107 ft107 fE_w_UNKNOWN_107 fF_w_UNKNOWN_work_107 fu107) hZ107 (hw _ (List.mem_of_getElem? (i := 80) rfl)) (hw _ (List.mem_of_getElem? (i := 30) rfl)) (by decide) (by decide)) q108a q108c (g := (mkF m 160 #[.val (.int p1), .val (.int p2), .val (.int p3), .val (.int p4), .val (.int (13 : Int32)), .val (.ref b101), .val (.int (0 : Int32)), .val .null, .val (.ref sv105), .val (.ref b106), .val (.int (1 : Int32)), .unset] [(.ref b106)])) rfl (by rw [hml]; rfl) (Steps.refl _) (argsL := []) (rest := []) (lenOf pd_12 rfl) rfl (by show 2 * 0 + _ ≤ _; exact Nat.le_of_eq rfl) (hb hby at_160) (fun _ _ => ⟨rfl, rfl, (by decide : 8 + 0 ≤ _), (by decide : 77 + 0 ≤ _)⟩)
      dsimp only [Pt.U, Pt.locs, Pt.cells, Pt.slots] at X108 l108 y108 z108 st108 hQ108
      rw [l108, y108, z108] at X108
      replace X108 : Stand p l e _ _ m _ below meth c T108 _ 8 77 := X108
      obtain ⟨rfl, N108q, e108q⟩ := hQ108
      have N108 := Fr.app N107 N108q
      refine Go.tr st108 ?_
      show Go p e below _ (T108.setTop (mkF m 163 #[.val (.int p1), .val (.int p2), .val (.int p3), .val (.int p4), .val (.int (13 : Int32)), .val (.ref b101), .val (.int (0 : Int32)), .val .null, .val (.ref sv105), .val (.ref b106), .val (.int (1 : Int32)), .unset] [.null]))
      refine Go.via (fun _ => XS.astore X108.here hx rfl (hb hby at_163) rfl rfl (l' := #[.val (.int p1), .val (.int p2), .val (.int p3), .val (.int p4), .val (.int (13 : Int32)), .val (.ref b101), .val (.int (0 : Int32)), .val .null, .val (.ref sv105), .val (.ref b106), .val (.int (1 : Int32)), .val .null]) rfl) ?_
      show Go p e below _ (T108.setTop (mkF m 165 #[.val (.int p1), .val (.int p2), .val (.int p3), .val (.int p4), .val (.int (13 : Int32)), .val (.ref b101), .val (.int (0 : Int32)), .val .null, .val (.ref sv105), .val (.ref b106), .val (.int (1 : Int32)), .val .null] []))
      refine Go.via (fun _ => XS.iload X108.here hx rfl (hb hby at_165) rfl) ?_
      show Go p e below _ (T108.setTop (mkF m 167 #[.val (.int p1), .val (.int p2), .val (.int p3), .val (.int p4), .val (.int (13 : Int32)), .val (.ref b101), .val (.int (0 : Int32)), .val .null, .val (.ref sv105), .val (.ref b106), .val (.int (1 : Int32)), .val .null] [(.int (1 : Int32))]))
      refine Go.via (fun _ => XS.ifNo X108.here hx rfl (hb hby at_167) rfl (by decide)) ?_
      show Go p e below _ (T108.setTop (mkF m 170 #[.val (.int p1), .val (.int p2), .val (.int p3), .val (.int p4), .val (.int (13 : Int32)), .val (.ref b101), .val (.int (0 : Int32)), .val .null, .val (.ref sv105), .val (.ref b106), .val (.int (1 : Int32)), .val .null] []))
      refine Go.via (fun _ => XS.aload X108.here hx rfl (hb hby at_170) rfl rfl) ?_
      show Go p e below _ (T108.setTop (mkF m 172 #[.val (.int p1), .val (.int p2), .val (.int p3), .val (.int p4), .val (.int (13 : Int32)), .val (.ref b101), .val (.int (0 : Int32)), .val .null, .val (.ref sv105), .val (.ref b106), .val (.int (1 : Int32)), .val .null] [.null]))
      refine Go.via (fun _ => XS.aload X108.here hx rfl (hb hby at_172) rfl rfl) ?_
      show Go p e below _ (T108.setTop (mkF m 174 #[.val (.int p1), .val (.int p2), .val (.int p3), .val (.int p4), .val (.int (13 : Int32)), .val (.ref b101), .val (.int (0 : Int32)), .val .null, .val (.ref sv105), .val (.ref b106), .val (.int (1 : Int32)), .val .null] [.null, .null]))
      refine Go.via (fun _ => Jvm.RoadKit.acmp (g := (mkF m 174 #[.val (.int p1), .val (.int p2), .val (.int p3), .val (.int p4), .val (.int (13 : Int32)), .val (.ref b101), .val (.int (0 : Int32)), .val .null, .val (.ref sv105), .val (.ref b106), .val (.int (1 : Int32)), .val .null] [.null, .null])) X108 hx rfl rfl rfl (pc0 := 174) (pc' := 177) (same := true) rfl (hb hby at_174) rfl (decide_eq_true rfl) (by decide) (by decide)) ?_
      show Go p e below _ (T108.setTop (mkF m 177 #[.val (.int p1), .val (.int p2), .val (.int p3), .val (.int p4), .val (.int (13 : Int32)), .val (.ref b101), .val (.int (0 : Int32)), .val .null, .val (.ref sv105), .val (.ref b106), .val (.int (1 : Int32)), .val .null] []))
      refine Go.via (fun _ => XS.iconst X108.here hx rfl (hb hby at_177)) ?_
      show Go p e below _ (T108.setTop (mkF m 178 #[.val (.int p1), .val (.int p2), .val (.int p3), .val (.int p4), .val (.int (13 : Int32)), .val (.ref b101), .val (.int (0 : Int32)), .val .null, .val (.ref sv105), .val (.ref b106), .val (.int (1 : Int32)), .val .null] [(.int (1 : Int32))]))
      refine Go.via (fun _ => XS.goto X108.here hx rfl (pc0 := 178) (pc' := 182) rfl (hb hby at_178) (by decide) (by decide)) ?_
      show Go p e below _ (T108.setTop (mkF m 182 #[.val (.int p1), .val (.int p2), .val (.int p3), .val (.int p4), .val (.int (13 : Int32)), .val (.ref b101), .val (.int (0 : Int32)), .val .null, .val (.ref sv105), .val (.ref b106), .val (.int (1 : Int32)), .val .null] [(.int (1 : Int32))]))
      exact own_retNW X108 hS107 (by rw [e108q]; exact (Nat.le_refl _)) hx hlk (t := .boolean) Bd.returns (by simp) (hb hby at_182) (by show Q0 Z p1 p2 p3 p4 ccs w_SCHEDULE w_ASSIGN w_REASSIGN w_WITHDRAW w_START w_SUSPEND w_RESUME w_COMPLETE w_ATE_ABORT w_PI_ABORT w_MANUALSKIP w_AUTOSKIP w_UNKNOWN em h0 n0 _ T108.heap _; rw [e108q]; exact ⟨rfl, N108⟩) (by decide) (by decide)
    ·
      show Go p e below _ (T105.setTop (mkF m 89 #[.val (.int p1), .val (.int p2), .val (.int p3), .val (.int p4), .val (.int (12 : Int32)), .val (.ref b101), .val (.int (0 : Int32)), .val .null, .val (.ref sv105), .unset, .unset, .unset] []))
      refine Go.via (fun _ => XS.iload X105.here hx rfl (hb hby at_89) rfl) ?_
      show Go p e below _ (T105.setTop (mkF m 91 #[.val (.int p1), .val (.int p2), .val (.int p3), .val (.int p4), .val (.int (12 : Int32)), .val (.ref b101), .val (.int (0 : Int32)), .val .null, .val (.ref sv105), .unset, .unset, .unset] [(.int (12 : Int32))]))
      refine Go.via (fun _ => XS.bipush X105.here hx rfl (hb hby at_91)) ?_
      show Go p e below _ (T105.setTop (mkF m 93 #[.val (.int p1), .val (.int p2), .val (.int p3), .val (.int p4), .val (.int (12 : Int32)), .val (.ref b101), .val (.int (0 : Int32)), .val .null, .val (.ref sv105), .unset, .unset, .unset] [(.int (13 : Int32)), (.int (12 : Int32))]))
      refine Go.via (fun _ => XS.icmpYes X105.here hx rfl (pc0 := 93) (pc' := 112) rfl (hb hby at_93) rfl (by decide) (by decide) (by decide)) ?_
      show Go p e below _ (T105.setTop (mkF m 112 #[.val (.int p1), .val (.int p2), .val (.int p3), .val (.int p4), .val (.int (12 : Int32)), .val (.ref b101), .val (.int (0 : Int32)), .val .null, .val (.ref sv105), .unset, .unset, .unset] []))
      obtain ⟨T109, h109, X109, e109, E109, A109, D109, -, st109⟩ := newO X105 hx hZ hown (hw _ (List.mem_of_getElem? (i := 28) rfl)) (hw _ (List.mem_of_getElem? (i := 29) rfl)) (hw _ (List.mem_of_getElem? (i := 30) rfl)) rfl (g := (mkF m 112 #[.val (.int p1), .val (.int p2), .val (.int p3), .val (.int p4), .val (.int (12 : Int32)), .val (.ref b101), .val (.int (0 : Int32)), .val .null, .val (.ref sv105), .unset, .unset, .unset] [])) rfl (hb hby at_112) (by decide) (by decide)
      obtain ⟨b109, g109⟩ : ∃ z, z = T105.heap.size := ⟨_, rfl⟩
      rw [← g109] at A109 D109 st109
      have g_b109 : n0 ≤ b109 := Nat.le_trans Zs105 (Nat.le_of_eq g109.symm)
      have ne_b101_b109 : b101 ≠ b109 := Nat.ne_of_lt (Nat.lt_of_lt_of_le fV_b101_105.lt (Nat.le_of_eq g109.symm))
      have ne_sv105_b109 : sv105 ≠ b109 := Nat.ne_of_lt (Nat.lt_of_lt_of_le ev105.lt (Nat.le_of_eq g109.symm))
      refine Go.via st109 ?_
      have Zs109 : n0 ≤ h109.size := Nat.le_trans Zs105 E109.1
      have hk109 : 0 ≤ h109.size := Nat.le_trans hk105 E109.1
      have O109 : Old Z n0 h109 := O105.ext E109
      have fV_b101_109 := fV_b101_105.ext E109
      have fE_sv105_109 := ev105.ext E109
      have F_task_b109 : Fld Z h109 b109 "com/example/permits_from_duties/permitsfromduties/Event" "task" "Ljava/lang/String;" .null := D109 (Or.inr (hw _ (List.mem_of_getElem? (i := 65) rfl))) (ty := (.object "java/lang/String")) (by decide)
      have F_user_b109 : Fld Z h109 b109 "com/example/permits_from_duties/permitsfromduties/Event" "user" "Ljava/lang/String;" .null := D109 (Or.inr (hw _ (List.mem_of_getElem? (i := 67) rfl))) (ty := (.object "java/lang/String")) (by decide)
      have F_time_b109 : Fld Z h109 b109 "com/example/permits_from_duties/permitsfromduties/Event" "time" "Ljava/time/Instant;" .null := D109 (Or.inr (hw _ (List.mem_of_getElem? (i := 69) rfl))) (ty := (.object "java/time/Instant")) (by decide)
      have F_transition_b109 : Fld Z h109 b109 "com/example/permits_from_duties/permitsfromduties/Event" "transition" "Lcom/example/permits_from_duties/permitsfromduties/Event$Transition;" .null := D109 (Or.inr (hw _ (List.mem_of_getElem? (i := 71) rfl))) (ty := (.object "com/example/permits_from_duties/permitsfromduties/Event$Transition")) (by decide)
      have F_location_b109 : Fld Z h109 b109 "com/example/permits_from_duties/permitsfromduties/Event" "location" "Ljava/lang/String;" .null := D109 (Or.inr (hw _ (List.mem_of_getElem? (i := 73) rfl))) (ty := (.object "java/lang/String")) (by decide)
      have F_data_b109 : Fld Z h109 b109 "com/example/permits_from_duties/permitsfromduties/Event" "data" "Ljava/util/Map;" .null := D109 (Or.inr (hw _ (List.mem_of_getElem? (i := 75) rfl))) (ty := (.object "java/util/Map")) (by decide)
      show Go p e below _ (T109.setTop (mkF m 115 #[.val (.int p1), .val (.int p2), .val (.int p3), .val (.int p4), .val (.int (12 : Int32)), .val (.ref b101), .val (.int (0 : Int32)), .val .null, .val (.ref sv105), .unset, .unset, .unset] [(.ref b109)]))
      refine Go.via (fun _ => XS.dup X109.here hx rfl (hb hby at_115) rfl rfl) ?_
      show Go p e below _ (T109.setTop (mkF m 116 #[.val (.int p1), .val (.int p2), .val (.int p3), .val (.int p4), .val (.int (12 : Int32)), .val (.ref b101), .val (.int (0 : Int32)), .val .null, .val (.ref sv105), .unset, .unset, .unset] [(.ref b109), (.ref b109)]))
      refine Go.via (fun _ => XS.aload X109.here hx rfl (hb hby at_116) rfl rfl) ?_
      show Go p e below _ (T109.setTop (mkF m 118 #[.val (.int p1), .val (.int p2), .val (.int p3), .val (.int p4), .val (.int (12 : Int32)), .val (.ref b101), .val (.int (0 : Int32)), .val .null, .val (.ref sv105), .unset, .unset, .unset] [(.ref sv105), (.ref b109), (.ref b109)]))
      refine Go.via (fun _ => XS.aload X109.here hx rfl (hb hby at_118) rfl rfl) ?_
      show Go p e below _ (T109.setTop (mkF m 120 #[.val (.int p1), .val (.int p2), .val (.int p3), .val (.int p4), .val (.int (12 : Int32)), .val (.ref b101), .val (.int (0 : Int32)), .val .null, .val (.ref sv105), .unset, .unset, .unset] [.null, (.ref sv105), (.ref b109), (.ref b109)]))
      refine Go.via (fun _ => XS.aconstNull X109.here hx rfl (hb hby at_120)) ?_
      show Go p e below _ (T109.setTop (mkF m 121 #[.val (.int p1), .val (.int p2), .val (.int p3), .val (.int p4), .val (.int (12 : Int32)), .val (.ref b101), .val (.int (0 : Int32)), .val .null, .val (.ref sv105), .unset, .unset, .unset] [.null, .null, (.ref sv105), (.ref b109), (.ref b109)]))
      refine Go.via (fun _ => XS.iload X109.here hx rfl (hb hby at_121) rfl) ?_
      show Go p e below _ (T109.setTop (mkF m 123 #[.val (.int p1), .val (.int p2), .val (.int p3), .val (.int p4), .val (.int (12 : Int32)), .val (.ref b101), .val (.int (0 : Int32)), .val .null, .val (.ref sv105), .unset, .unset, .unset] [(.int (12 : Int32)), .null, .null, (.ref sv105), (.ref b109), (.ref b109)]))
      obtain ⟨_, _, ⟨T110, L110, k110, n110⟩, -, X110, ⟨Lc110, hQ110, l110, y110, z110⟩, st110⟩ := Jvm.LawKit.callS X109 hx (y := (⟨"com/example/permits_from_duties/permitsfromduties/EventPerformerPinLaw", "pick", "(I)Lcom/example/permits_from_duties/permitsfromduties/Event$Transition;"⟩ : MethodName)) hown (mvT hZ (hw _ (List.mem_of_getElem? (i := 31) rfl))) (mvT hZ (hw _ (List.mem_of_getElem? (i := 32) rfl))) (mvT hZ (hw _ (List.mem_of_getElem? (i := 33) rfl))) (mvT hZ (hw _ (List.mem_of_getElem? (i := 34) rfl))) (by decide) (backOf (W := 5) (rmPk_12 l Z a0 hw [] w_SCHEDULE w_ASSIGN w_REASSIGN w_WITHDRAW w_START w_SUSPEND w_RESUME w_COMPLETE w_ATE_ABORT w_PI_ABORT w_MANUALSKIP w_AUTOSKIP w_UNKNOWN h109 n0 Zs109 O109 S_SCHEDULE S_ASSIGN S_REASSIGN S_WITHDRAW S_START S_SUSPEND S_RESUME S_COMPLETE S_ATE_ABORT S_PI_ABORT S_MANUALSKIP S_AUTOSKIP S_UNKNOWN E_SCHEDULE E_ASSIGN E_REASSIGN E_WITHDRAW E_START E_SUSPEND E_RESUME E_COMPLETE E_ATE_ABORT E_PI_ABORT E_MANUALSKIP E_AUTOSKIP E_UNKNOWN F_SCHEDULE F_ASSIGN F_REASSIGN F_WITHDRAW F_START F_SUSPEND F_RESUME F_COMPLETE F_ATE_ABORT F_PI_ABORT F_MANUALSKIP F_AUTOSKIP F_UNKNOWN) hZ (hw _ (List.mem_of_getElem? (i := 34) rfl)) (hw _ (List.mem_of_getElem? (i := 33) rfl)) (by decide) (by decide)) (g := (mkF m 123 #[.val (.int p1), .val (.int p2), .val (.int p3), .val (.int p4), .val (.int (12 : Int32)), .val (.ref b101), .val (.int (0 : Int32)), .val .null, .val (.ref sv105), .unset, .unset, .unset] [(.int (12 : Int32)), .null, .null, (.ref sv105), (.ref b109), (.ref b109)])) rfl (by rw [hml]; rfl) (argsL := [(.int (12 : Int32))]) (rest := [.null, .null, (.ref sv105), (.ref b109), (.ref b109)]) (lenOf pd_13 rfl) rfl (by show 2 * 0 + _ ≤ _; exact Nat.le_of_eq rfl) (hb hby at_123) (fun _ _ => ⟨rfl, e109, (by decide : 4 + 0 ≤ _), (by decide : 13 + 0 ≤ _)⟩)
      dsimp only [Pt.U, Pt.locs, Pt.cells, Pt.slots] at X110 l110 y110 z110 st110 hQ110
      rw [l110, y110, z110] at X110
      replace X110 : Stand p l e _ _ m _ below meth c T110 _ 4 13 := X110
      obtain ⟨tr110, rfl, N110q, e110q, et110, fw110⟩ := hQ110
      have N110 := Fr.app N105 N110q
      refine Go.via st110 ?_
      have neb109_tr110 : b109 ≠ tr110 := ne_exa A109 et110 (by decide)
      show Go p e below _ (T110.setTop (mkF m 126 #[.val (.int p1), .val (.int p2), .val (.int p3), .val (.int p4), .val (.int (12 : Int32)), .val (.ref b101), .val (.int (0 : Int32)), .val .null, .val (.ref sv105), .unset, .unset, .unset] [(.ref tr110), .null, .null, (.ref sv105), (.ref b109), (.ref b109)]))
      obtain ⟨_, _, ⟨T111, L111, k111, n111⟩, -, X111, S111w, gr111, ⟨Lc111, hQ111, l111, y111, z111⟩, st111⟩ := X110.specialBackS hx (y := (⟨"com/example/permits_from_duties/permitsfromduties/Event", "<init>", "(Ljava/lang/String;Ljava/lang/String;Ljava/time/Instant;Lcom/example/permits_from_duties/permitsfromduties/Event$Transition;)V"⟩ : MethodName)) rfl hown (mvT hZ (hw _ (List.mem_of_getElem? (i := 38) rfl))) (mvT hZ (hw _ (List.mem_of_getElem? (i := 39) rfl))) (mvT hZ (hw _ (List.mem_of_getElem? (i := 40) rfl))) (by decide) (backOfS (W := 1) (rmC4N l Z a0 hw [] b109 sv105 tr110 em h109 n0 Zs109 A109 F_task_b109 F_user_b109 F_time_b109 F_transition_b109 F_location_b109 F_data_b109 g_b109 O109 S_EM) hZ (hw _ (List.mem_of_getElem? (i := 40) rfl)) (hw _ (List.mem_of_getElem? (i := 30) rfl)) (by decide) (by decide)) (g := (mkF m 126 #[.val (.int p1), .val (.int p2), .val (.int p3), .val (.int p4), .val (.int (12 : Int32)), .val (.ref b101), .val (.int (0 : Int32)), .val .null, .val (.ref sv105), .unset, .unset, .unset] [(.ref tr110), .null, .null, (.ref sv105), (.ref b109), (.ref b109)])) rfl (by rw [hml]; rfl) (Steps.refl _) (a := b109) (argsL := [(.ref sv105), .null, .null, (.ref tr110)]) (rest := [(.ref b109)]) (lenOf pd_4 rfl) rfl (by show 2 * 0 + _ ≤ _; exact Nat.le_of_eq rfl) (hb hby at_126) (fun _ _ => ⟨rfl, e110q, (by decide : 4 + 4 ≤ _), (by decide : 13 + 64 ≤ _)⟩)
      dsimp only [Pt.U, Pt.locs, Pt.cells, Pt.slots] at X111 l111 y111 z111 st111 hQ111 S111w gr111
      rw [l111, y111, z111] at X111
      replace X111 : Stand p l e _ _ m _ below meth c T111 _ 8 77 := X111
      obtain ⟨rfl, N111q, K111q, fu111, ft111⟩ := hQ111
      have N111 := Fr.app N110 N111q
      refine Go.tr st111 ?_
      obtain ⟨X111r, hS111, hZ111, hown111⟩ := rebS hS0 (by rw [e110q]; exact hk109) X111 S111w gr111 hZ hown
      have Zs111 : n0 ≤ T111.heap.size := Nat.le_trans Zs109 K111q.1
      have O111 : Old Z n0 T111.heap := O109.keep K111q (allS g_b109 all0)
      have fV_b101_111 := fV_b101_109.keep K111q (ninS ne_b101_b109 nin0)
      have fE_sv105_111 := fE_sv105_109.keep K111q
      have fE_b109_111 := A109.keep K111q
      have fE_tr110_111 := et110.keep K111q
      have fF_tr110_work_111 := fw110.keep K111q (ninS (Ne.symm neb109_tr110) nin0)
      show Go p e below _ (T111.setTop (mkF m 129 #[.val (.int p1), .val (.int p2), .val (.int p3), .val (.int p4), .val (.int (12 : Int32)), .val (.ref b101), .val (.int (0 : Int32)), .val .null, .val (.ref sv105), .unset, .unset, .unset] [(.ref b109)]))
      refine Go.via (fun _ => XS.astore X111r.here hx rfl (hb hby at_129) rfl rfl (l' := #[.val (.int p1), .val (.int p2), .val (.int p3), .val (.int p4), .val (.int (12 : Int32)), .val (.ref b101), .val (.int (0 : Int32)), .val .null, .val (.ref sv105), .val (.ref b109), .unset, .unset]) rfl) ?_
      show Go p e below _ (T111.setTop (mkF m 131 #[.val (.int p1), .val (.int p2), .val (.int p3), .val (.int p4), .val (.int (12 : Int32)), .val (.ref b101), .val (.int (0 : Int32)), .val .null, .val (.ref sv105), .val (.ref b109), .unset, .unset] []))
      refine Go.via (fun _ => XS.iload X111r.here hx rfl (hb hby at_131) rfl) ?_
      show Go p e below _ (T111.setTop (mkF m 133 #[.val (.int p1), .val (.int p2), .val (.int p3), .val (.int p4), .val (.int (12 : Int32)), .val (.ref b101), .val (.int (0 : Int32)), .val .null, .val (.ref sv105), .val (.ref b109), .unset, .unset] [(.int (12 : Int32))]))
      refine Go.via (fun _ => XS.iconst X111r.here hx rfl (hb hby at_133)) ?_
      show Go p e below _ (T111.setTop (mkF m 134 #[.val (.int p1), .val (.int p2), .val (.int p3), .val (.int p4), .val (.int (12 : Int32)), .val (.ref b101), .val (.int (0 : Int32)), .val .null, .val (.ref sv105), .val (.ref b109), .unset, .unset] [(.int (4 : Int32)), (.int (12 : Int32))]))
      refine Go.via (fun _ => XS.icmpNo X111r.here hx rfl (hb hby at_134) rfl (by decide)) ?_
      show Go p e below _ (T111.setTop (mkF m 137 #[.val (.int p1), .val (.int p2), .val (.int p3), .val (.int p4), .val (.int (12 : Int32)), .val (.ref b101), .val (.int (0 : Int32)), .val .null, .val (.ref sv105), .val (.ref b109), .unset, .unset] []))
      refine Go.via (fun _ => XS.iload X111r.here hx rfl (hb hby at_137) rfl) ?_
      show Go p e below _ (T111.setTop (mkF m 139 #[.val (.int p1), .val (.int p2), .val (.int p3), .val (.int p4), .val (.int (12 : Int32)), .val (.ref b101), .val (.int (0 : Int32)), .val .null, .val (.ref sv105), .val (.ref b109), .unset, .unset] [(.int (12 : Int32))]))
      refine Go.via (fun _ => XS.bipush X111r.here hx rfl (hb hby at_139)) ?_
      show Go p e below _ (T111.setTop (mkF m 141 #[.val (.int p1), .val (.int p2), .val (.int p3), .val (.int p4), .val (.int (12 : Int32)), .val (.ref b101), .val (.int (0 : Int32)), .val .null, .val (.ref sv105), .val (.ref b109), .unset, .unset] [(.int (8 : Int32)), (.int (12 : Int32))]))
      refine Go.via (fun _ => XS.icmpNo X111r.here hx rfl (hb hby at_141) rfl (by decide)) ?_
      show Go p e below _ (T111.setTop (mkF m 144 #[.val (.int p1), .val (.int p2), .val (.int p3), .val (.int p4), .val (.int (12 : Int32)), .val (.ref b101), .val (.int (0 : Int32)), .val .null, .val (.ref sv105), .val (.ref b109), .unset, .unset] []))
      refine Go.via (fun _ => XS.iload X111r.here hx rfl (hb hby at_144) rfl) ?_
      show Go p e below _ (T111.setTop (mkF m 146 #[.val (.int p1), .val (.int p2), .val (.int p3), .val (.int p4), .val (.int (12 : Int32)), .val (.ref b101), .val (.int (0 : Int32)), .val .null, .val (.ref sv105), .val (.ref b109), .unset, .unset] [(.int (12 : Int32))]))
      refine Go.via (fun _ => XS.bipush X111r.here hx rfl (hb hby at_146)) ?_
      show Go p e below _ (T111.setTop (mkF m 148 #[.val (.int p1), .val (.int p2), .val (.int p3), .val (.int p4), .val (.int (12 : Int32)), .val (.ref b101), .val (.int (0 : Int32)), .val .null, .val (.ref sv105), .val (.ref b109), .unset, .unset] [(.int (12 : Int32)), (.int (12 : Int32))]))
      refine Go.via (fun _ => XS.icmpNo X111r.here hx rfl (hb hby at_148) rfl (by decide)) ?_
      show Go p e below _ (T111.setTop (mkF m 151 #[.val (.int p1), .val (.int p2), .val (.int p3), .val (.int p4), .val (.int (12 : Int32)), .val (.ref b101), .val (.int (0 : Int32)), .val .null, .val (.ref sv105), .val (.ref b109), .unset, .unset] []))
      refine Go.via (fun _ => XS.iconst X111r.here hx rfl (hb hby at_151)) ?_
      show Go p e below _ (T111.setTop (mkF m 152 #[.val (.int p1), .val (.int p2), .val (.int p3), .val (.int p4), .val (.int (12 : Int32)), .val (.ref b101), .val (.int (0 : Int32)), .val .null, .val (.ref sv105), .val (.ref b109), .unset, .unset] [(.int (1 : Int32))]))
      refine Go.via (fun _ => XS.goto X111r.here hx rfl (pc0 := 152) (pc' := 156) rfl (hb hby at_152) (by decide) (by decide)) ?_
      show Go p e below _ (T111.setTop (mkF m 156 #[.val (.int p1), .val (.int p2), .val (.int p3), .val (.int p4), .val (.int (12 : Int32)), .val (.ref b101), .val (.int (0 : Int32)), .val .null, .val (.ref sv105), .val (.ref b109), .unset, .unset] [(.int (1 : Int32))]))
      refine Go.via (fun _ => XS.istore X111r.here hx rfl (hb hby at_156) rfl (l' := #[.val (.int p1), .val (.int p2), .val (.int p3), .val (.int p4), .val (.int (12 : Int32)), .val (.ref b101), .val (.int (0 : Int32)), .val .null, .val (.ref sv105), .val (.ref b109), .val (.int (1 : Int32)), .unset]) rfl) ?_
      show Go p e below _ (T111.setTop (mkF m 158 #[.val (.int p1), .val (.int p2), .val (.int p3), .val (.int p4), .val (.int (12 : Int32)), .val (.ref b101), .val (.int (0 : Int32)), .val .null, .val (.ref sv105), .val (.ref b109), .val (.int (1 : Int32)), .unset] []))
      refine Go.via (fun _ => XS.aload X111r.here hx rfl (hb hby at_158) rfl rfl) ?_
      show Go p e below _ (T111.setTop (mkF m 160 #[.val (.int p1), .val (.int p2), .val (.int p3), .val (.int p4), .val (.int (12 : Int32)), .val (.ref b101), .val (.int (0 : Int32)), .val .null, .val (.ref sv105), .val (.ref b109), .val (.int (1 : Int32)), .unset] [(.ref b109)]))
      obtain ⟨cq112, kq112, q112a, q112b, q112c⟩ := isOf hZ111 rfl fE_b109_111
      obtain ⟨_, _, ⟨T112, L112, k112, n112⟩, -, X112, ⟨Lc112, hQ112, l112, y112, z112⟩, st112⟩ := X111r.virtualBack hx (y := (⟨"com/example/permits_from_duties/permitsfromduties/Event", "performer", "()Ljava/lang/String;"⟩ : MethodName)) (z := (⟨"com/example/permits_from_duties/permitsfromduties/Event", "performer", "()Ljava/lang/String;"⟩ : MethodName)) hown111 (mvT hZ111 (hw _ (List.mem_of_getElem? (i := 76) rfl))) (mvT hZ111 (hw _ (List.mem_of_getElem? (i := 77) rfl))) (notFace_of_selects (args := #[]) (mvT hZ111 (hw _ (List.mem_of_getElem? (i := 79) rfl)))) (mvT hZ111 (hw _ (List.mem_of_getElem? (i := 79) rfl))) (mvT hZ111 (hw _ (List.mem_of_getElem? (i := 78) rfl))) (by decide) (backOf (W := 0) (rmPf_1N l Z a0 hw [] b109 tr110  T111.heap n0 Zs111 fE_b109_111 ft111 fE_tr110_111 fF_tr110_work_111 fu111) hZ111 (hw _ (List.mem_of_getElem? (i := 80) rfl)) (hw _ (List.mem_of_getElem? (i := 30) rfl)) (by decide) (by decide)) q112a q112c (g := (mkF m 160 #[.val (.int p1), .val (.int p2), .val (.int p3), .val (.int p4), .val (.int (12 : Int32)), .val (.ref b101), .val (.int (0 : Int32)), .val .null, .val (.ref sv105), .val (.ref b109), .val (.int (1 : Int32)), .unset] [(.ref b109)])) rfl (by rw [hml]; rfl) (Steps.refl _) (argsL := []) (rest := []) (lenOf pd_12 rfl) rfl (by show 2 * 0 + _ ≤ _; exact Nat.le_of_eq rfl) (hb hby at_160) (fun _ _ => ⟨rfl, rfl, (by decide : 8 + 0 ≤ _), (by decide : 77 + 0 ≤ _)⟩)
      dsimp only [Pt.U, Pt.locs, Pt.cells, Pt.slots] at X112 l112 y112 z112 st112 hQ112
      rw [l112, y112, z112] at X112
      replace X112 : Stand p l e _ _ m _ below meth c T112 _ 8 77 := X112
      obtain ⟨rfl, N112q, e112q⟩ := hQ112
      have N112 := Fr.app N111 N112q
      refine Go.tr st112 ?_
      show Go p e below _ (T112.setTop (mkF m 163 #[.val (.int p1), .val (.int p2), .val (.int p3), .val (.int p4), .val (.int (12 : Int32)), .val (.ref b101), .val (.int (0 : Int32)), .val .null, .val (.ref sv105), .val (.ref b109), .val (.int (1 : Int32)), .unset] [.null]))
      refine Go.via (fun _ => XS.astore X112.here hx rfl (hb hby at_163) rfl rfl (l' := #[.val (.int p1), .val (.int p2), .val (.int p3), .val (.int p4), .val (.int (12 : Int32)), .val (.ref b101), .val (.int (0 : Int32)), .val .null, .val (.ref sv105), .val (.ref b109), .val (.int (1 : Int32)), .val .null]) rfl) ?_
      show Go p e below _ (T112.setTop (mkF m 165 #[.val (.int p1), .val (.int p2), .val (.int p3), .val (.int p4), .val (.int (12 : Int32)), .val (.ref b101), .val (.int (0 : Int32)), .val .null, .val (.ref sv105), .val (.ref b109), .val (.int (1 : Int32)), .val .null] []))
      refine Go.via (fun _ => XS.iload X112.here hx rfl (hb hby at_165) rfl) ?_
      show Go p e below _ (T112.setTop (mkF m 167 #[.val (.int p1), .val (.int p2), .val (.int p3), .val (.int p4), .val (.int (12 : Int32)), .val (.ref b101), .val (.int (0 : Int32)), .val .null, .val (.ref sv105), .val (.ref b109), .val (.int (1 : Int32)), .val .null] [(.int (1 : Int32))]))
      refine Go.via (fun _ => XS.ifNo X112.here hx rfl (hb hby at_167) rfl (by decide)) ?_
      show Go p e below _ (T112.setTop (mkF m 170 #[.val (.int p1), .val (.int p2), .val (.int p3), .val (.int p4), .val (.int (12 : Int32)), .val (.ref b101), .val (.int (0 : Int32)), .val .null, .val (.ref sv105), .val (.ref b109), .val (.int (1 : Int32)), .val .null] []))
      refine Go.via (fun _ => XS.aload X112.here hx rfl (hb hby at_170) rfl rfl) ?_
      show Go p e below _ (T112.setTop (mkF m 172 #[.val (.int p1), .val (.int p2), .val (.int p3), .val (.int p4), .val (.int (12 : Int32)), .val (.ref b101), .val (.int (0 : Int32)), .val .null, .val (.ref sv105), .val (.ref b109), .val (.int (1 : Int32)), .val .null] [.null]))
      refine Go.via (fun _ => XS.aload X112.here hx rfl (hb hby at_172) rfl rfl) ?_
      show Go p e below _ (T112.setTop (mkF m 174 #[.val (.int p1), .val (.int p2), .val (.int p3), .val (.int p4), .val (.int (12 : Int32)), .val (.ref b101), .val (.int (0 : Int32)), .val .null, .val (.ref sv105), .val (.ref b109), .val (.int (1 : Int32)), .val .null] [.null, .null]))
      refine Go.via (fun _ => Jvm.RoadKit.acmp (g := (mkF m 174 #[.val (.int p1), .val (.int p2), .val (.int p3), .val (.int p4), .val (.int (12 : Int32)), .val (.ref b101), .val (.int (0 : Int32)), .val .null, .val (.ref sv105), .val (.ref b109), .val (.int (1 : Int32)), .val .null] [.null, .null])) X112 hx rfl rfl rfl (pc0 := 174) (pc' := 177) (same := true) rfl (hb hby at_174) rfl (decide_eq_true rfl) (by decide) (by decide)) ?_
      show Go p e below _ (T112.setTop (mkF m 177 #[.val (.int p1), .val (.int p2), .val (.int p3), .val (.int p4), .val (.int (12 : Int32)), .val (.ref b101), .val (.int (0 : Int32)), .val .null, .val (.ref sv105), .val (.ref b109), .val (.int (1 : Int32)), .val .null] []))
      refine Go.via (fun _ => XS.iconst X112.here hx rfl (hb hby at_177)) ?_
      show Go p e below _ (T112.setTop (mkF m 178 #[.val (.int p1), .val (.int p2), .val (.int p3), .val (.int p4), .val (.int (12 : Int32)), .val (.ref b101), .val (.int (0 : Int32)), .val .null, .val (.ref sv105), .val (.ref b109), .val (.int (1 : Int32)), .val .null] [(.int (1 : Int32))]))
      refine Go.via (fun _ => XS.goto X112.here hx rfl (pc0 := 178) (pc' := 182) rfl (hb hby at_178) (by decide) (by decide)) ?_
      show Go p e below _ (T112.setTop (mkF m 182 #[.val (.int p1), .val (.int p2), .val (.int p3), .val (.int p4), .val (.int (12 : Int32)), .val (.ref b101), .val (.int (0 : Int32)), .val .null, .val (.ref sv105), .val (.ref b109), .val (.int (1 : Int32)), .val .null] [(.int (1 : Int32))]))
      exact own_retNW X112 hS111 (by rw [e112q]; exact (Nat.le_refl _)) hx hlk (t := .boolean) Bd.returns (by simp) (hb hby at_182) (by show Q0 Z p1 p2 p3 p4 ccs w_SCHEDULE w_ASSIGN w_REASSIGN w_WITHDRAW w_START w_SUSPEND w_RESUME w_COMPLETE w_ATE_ABORT w_PI_ABORT w_MANUALSKIP w_AUTOSKIP w_UNKNOWN em h0 n0 _ T112.heap _; rw [e112q]; exact ⟨rfl, N112⟩) (by decide) (by decide)
    ·
      show Go p e below _ (T105.setTop (mkF m 89 #[.val (.int p1), .val (.int p2), .val (.int p3), .val (.int p4), .val (.int k), .val (.ref b101), .val (.int (0 : Int32)), .val .null, .val (.ref sv105), .unset, .unset, .unset] []))
      refine Go.via (fun _ => XS.iload X105.here hx rfl (hb hby at_89) rfl) ?_
      show Go p e below _ (T105.setTop (mkF m 91 #[.val (.int p1), .val (.int p2), .val (.int p3), .val (.int p4), .val (.int k), .val (.ref b101), .val (.int (0 : Int32)), .val .null, .val (.ref sv105), .unset, .unset, .unset] [(.int k)]))
      refine Go.via (fun _ => XS.bipush X105.here hx rfl (hb hby at_91)) ?_
      show Go p e below _ (T105.setTop (mkF m 93 #[.val (.int p1), .val (.int p2), .val (.int p3), .val (.int p4), .val (.int k), .val (.ref b101), .val (.int (0 : Int32)), .val .null, .val (.ref sv105), .unset, .unset, .unset] [(.int (13 : Int32)), (.int k)]))
      refine Go.via (fun _ => XS.icmpYes X105.here hx rfl (pc0 := 93) (pc' := 112) rfl (hb hby at_93) rfl (feq hk.2.1).2 (by decide) (by decide)) ?_
      show Go p e below _ (T105.setTop (mkF m 112 #[.val (.int p1), .val (.int p2), .val (.int p3), .val (.int p4), .val (.int k), .val (.ref b101), .val (.int (0 : Int32)), .val .null, .val (.ref sv105), .unset, .unset, .unset] []))
      obtain ⟨T113, h113, X113, e113, E113, A113, D113, -, st113⟩ := newO X105 hx hZ hown (hw _ (List.mem_of_getElem? (i := 28) rfl)) (hw _ (List.mem_of_getElem? (i := 29) rfl)) (hw _ (List.mem_of_getElem? (i := 30) rfl)) rfl (g := (mkF m 112 #[.val (.int p1), .val (.int p2), .val (.int p3), .val (.int p4), .val (.int k), .val (.ref b101), .val (.int (0 : Int32)), .val .null, .val (.ref sv105), .unset, .unset, .unset] [])) rfl (hb hby at_112) (by decide) (by decide)
      obtain ⟨b113, g113⟩ : ∃ z, z = T105.heap.size := ⟨_, rfl⟩
      rw [← g113] at A113 D113 st113
      have g_b113 : n0 ≤ b113 := Nat.le_trans Zs105 (Nat.le_of_eq g113.symm)
      have ne_b101_b113 : b101 ≠ b113 := Nat.ne_of_lt (Nat.lt_of_lt_of_le fV_b101_105.lt (Nat.le_of_eq g113.symm))
      have ne_sv105_b113 : sv105 ≠ b113 := Nat.ne_of_lt (Nat.lt_of_lt_of_le ev105.lt (Nat.le_of_eq g113.symm))
      refine Go.via st113 ?_
      have Zs113 : n0 ≤ h113.size := Nat.le_trans Zs105 E113.1
      have hk113 : 0 ≤ h113.size := Nat.le_trans hk105 E113.1
      have O113 : Old Z n0 h113 := O105.ext E113
      have fV_b101_113 := fV_b101_105.ext E113
      have fE_sv105_113 := ev105.ext E113
      have F_task_b113 : Fld Z h113 b113 "com/example/permits_from_duties/permitsfromduties/Event" "task" "Ljava/lang/String;" .null := D113 (Or.inr (hw _ (List.mem_of_getElem? (i := 65) rfl))) (ty := (.object "java/lang/String")) (by decide)
      have F_user_b113 : Fld Z h113 b113 "com/example/permits_from_duties/permitsfromduties/Event" "user" "Ljava/lang/String;" .null := D113 (Or.inr (hw _ (List.mem_of_getElem? (i := 67) rfl))) (ty := (.object "java/lang/String")) (by decide)
      have F_time_b113 : Fld Z h113 b113 "com/example/permits_from_duties/permitsfromduties/Event" "time" "Ljava/time/Instant;" .null := D113 (Or.inr (hw _ (List.mem_of_getElem? (i := 69) rfl))) (ty := (.object "java/time/Instant")) (by decide)
      have F_transition_b113 : Fld Z h113 b113 "com/example/permits_from_duties/permitsfromduties/Event" "transition" "Lcom/example/permits_from_duties/permitsfromduties/Event$Transition;" .null := D113 (Or.inr (hw _ (List.mem_of_getElem? (i := 71) rfl))) (ty := (.object "com/example/permits_from_duties/permitsfromduties/Event$Transition")) (by decide)
      have F_location_b113 : Fld Z h113 b113 "com/example/permits_from_duties/permitsfromduties/Event" "location" "Ljava/lang/String;" .null := D113 (Or.inr (hw _ (List.mem_of_getElem? (i := 73) rfl))) (ty := (.object "java/lang/String")) (by decide)
      have F_data_b113 : Fld Z h113 b113 "com/example/permits_from_duties/permitsfromduties/Event" "data" "Ljava/util/Map;" .null := D113 (Or.inr (hw _ (List.mem_of_getElem? (i := 75) rfl))) (ty := (.object "java/util/Map")) (by decide)
      show Go p e below _ (T113.setTop (mkF m 115 #[.val (.int p1), .val (.int p2), .val (.int p3), .val (.int p4), .val (.int k), .val (.ref b101), .val (.int (0 : Int32)), .val .null, .val (.ref sv105), .unset, .unset, .unset] [(.ref b113)]))
      refine Go.via (fun _ => XS.dup X113.here hx rfl (hb hby at_115) rfl rfl) ?_
      show Go p e below _ (T113.setTop (mkF m 116 #[.val (.int p1), .val (.int p2), .val (.int p3), .val (.int p4), .val (.int k), .val (.ref b101), .val (.int (0 : Int32)), .val .null, .val (.ref sv105), .unset, .unset, .unset] [(.ref b113), (.ref b113)]))
      refine Go.via (fun _ => XS.aload X113.here hx rfl (hb hby at_116) rfl rfl) ?_
      show Go p e below _ (T113.setTop (mkF m 118 #[.val (.int p1), .val (.int p2), .val (.int p3), .val (.int p4), .val (.int k), .val (.ref b101), .val (.int (0 : Int32)), .val .null, .val (.ref sv105), .unset, .unset, .unset] [(.ref sv105), (.ref b113), (.ref b113)]))
      refine Go.via (fun _ => XS.aload X113.here hx rfl (hb hby at_118) rfl rfl) ?_
      show Go p e below _ (T113.setTop (mkF m 120 #[.val (.int p1), .val (.int p2), .val (.int p3), .val (.int p4), .val (.int k), .val (.ref b101), .val (.int (0 : Int32)), .val .null, .val (.ref sv105), .unset, .unset, .unset] [.null, (.ref sv105), (.ref b113), (.ref b113)]))
      refine Go.via (fun _ => XS.aconstNull X113.here hx rfl (hb hby at_120)) ?_
      show Go p e below _ (T113.setTop (mkF m 121 #[.val (.int p1), .val (.int p2), .val (.int p3), .val (.int p4), .val (.int k), .val (.ref b101), .val (.int (0 : Int32)), .val .null, .val (.ref sv105), .unset, .unset, .unset] [.null, .null, (.ref sv105), (.ref b113), (.ref b113)]))
      refine Go.via (fun _ => XS.iload X113.here hx rfl (hb hby at_121) rfl) ?_
      show Go p e below _ (T113.setTop (mkF m 123 #[.val (.int p1), .val (.int p2), .val (.int p3), .val (.int p4), .val (.int k), .val (.ref b101), .val (.int (0 : Int32)), .val .null, .val (.ref sv105), .unset, .unset, .unset] [(.int k), .null, .null, (.ref sv105), (.ref b113), (.ref b113)]))
      obtain ⟨_, _, ⟨T114, L114, k114, n114⟩, -, X114, ⟨Lc114, hQ114, l114, y114, z114⟩, st114⟩ := Jvm.LawKit.callS X113 hx (y := (⟨"com/example/permits_from_duties/permitsfromduties/EventPerformerPinLaw", "pick", "(I)Lcom/example/permits_from_duties/permitsfromduties/Event$Transition;"⟩ : MethodName)) hown (mvT hZ (hw _ (List.mem_of_getElem? (i := 31) rfl))) (mvT hZ (hw _ (List.mem_of_getElem? (i := 32) rfl))) (mvT hZ (hw _ (List.mem_of_getElem? (i := 33) rfl))) (mvT hZ (hw _ (List.mem_of_getElem? (i := 34) rfl))) (by decide) (backOf (W := 5) (rmPk_A l Z a0 hw [] k w_SCHEDULE w_ASSIGN w_REASSIGN w_WITHDRAW w_START w_SUSPEND w_RESUME w_COMPLETE w_ATE_ABORT w_PI_ABORT w_MANUALSKIP w_AUTOSKIP w_UNKNOWN h113 n0 Zs113 hk.1 O113 S_SCHEDULE S_ASSIGN S_REASSIGN S_WITHDRAW S_START S_SUSPEND S_RESUME S_COMPLETE S_ATE_ABORT S_PI_ABORT S_MANUALSKIP S_AUTOSKIP S_UNKNOWN E_SCHEDULE E_ASSIGN E_REASSIGN E_WITHDRAW E_START E_SUSPEND E_RESUME E_COMPLETE E_ATE_ABORT E_PI_ABORT E_MANUALSKIP E_AUTOSKIP E_UNKNOWN F_SCHEDULE F_ASSIGN F_REASSIGN F_WITHDRAW F_START F_SUSPEND F_RESUME F_COMPLETE F_ATE_ABORT F_PI_ABORT F_MANUALSKIP F_AUTOSKIP F_UNKNOWN) hZ (hw _ (List.mem_of_getElem? (i := 34) rfl)) (hw _ (List.mem_of_getElem? (i := 33) rfl)) (by decide) (by decide)) (g := (mkF m 123 #[.val (.int p1), .val (.int p2), .val (.int p3), .val (.int p4), .val (.int k), .val (.ref b101), .val (.int (0 : Int32)), .val .null, .val (.ref sv105), .unset, .unset, .unset] [(.int k), .null, .null, (.ref sv105), (.ref b113), (.ref b113)])) rfl (by rw [hml]; rfl) (argsL := [(.int k)]) (rest := [.null, .null, (.ref sv105), (.ref b113), (.ref b113)]) (lenOf pd_13 rfl) rfl (by show 2 * 0 + _ ≤ _; exact Nat.le_of_eq rfl) (hb hby at_123) (fun _ _ => ⟨rfl, e113, (by decide : 4 + 0 ≤ _), (by decide : 13 + 0 ≤ _)⟩)
      dsimp only [Pt.U, Pt.locs, Pt.cells, Pt.slots] at X114 l114 y114 z114 st114 hQ114
      rw [l114, y114, z114] at X114
      replace X114 : Stand p l e _ _ m _ below meth c T114 _ 4 13 := X114
      obtain ⟨tr114, rfl, N114q, e114q, et114, fw114⟩ := hQ114
      have N114 := Fr.app N105 N114q
      refine Go.via st114 ?_
      have neb113_tr114 : b113 ≠ tr114 := ne_exa A113 et114 (by decide)
      show Go p e below _ (T114.setTop (mkF m 126 #[.val (.int p1), .val (.int p2), .val (.int p3), .val (.int p4), .val (.int k), .val (.ref b101), .val (.int (0 : Int32)), .val .null, .val (.ref sv105), .unset, .unset, .unset] [(.ref tr114), .null, .null, (.ref sv105), (.ref b113), (.ref b113)]))
      obtain ⟨_, _, ⟨T115, L115, k115, n115⟩, -, X115, S115w, gr115, ⟨Lc115, hQ115, l115, y115, z115⟩, st115⟩ := X114.specialBackS hx (y := (⟨"com/example/permits_from_duties/permitsfromduties/Event", "<init>", "(Ljava/lang/String;Ljava/lang/String;Ljava/time/Instant;Lcom/example/permits_from_duties/permitsfromduties/Event$Transition;)V"⟩ : MethodName)) rfl hown (mvT hZ (hw _ (List.mem_of_getElem? (i := 38) rfl))) (mvT hZ (hw _ (List.mem_of_getElem? (i := 39) rfl))) (mvT hZ (hw _ (List.mem_of_getElem? (i := 40) rfl))) (by decide) (backOfS (W := 1) (rmC4N l Z a0 hw [] b113 sv105 tr114 em h113 n0 Zs113 A113 F_task_b113 F_user_b113 F_time_b113 F_transition_b113 F_location_b113 F_data_b113 g_b113 O113 S_EM) hZ (hw _ (List.mem_of_getElem? (i := 40) rfl)) (hw _ (List.mem_of_getElem? (i := 30) rfl)) (by decide) (by decide)) (g := (mkF m 126 #[.val (.int p1), .val (.int p2), .val (.int p3), .val (.int p4), .val (.int k), .val (.ref b101), .val (.int (0 : Int32)), .val .null, .val (.ref sv105), .unset, .unset, .unset] [(.ref tr114), .null, .null, (.ref sv105), (.ref b113), (.ref b113)])) rfl (by rw [hml]; rfl) (Steps.refl _) (a := b113) (argsL := [(.ref sv105), .null, .null, (.ref tr114)]) (rest := [(.ref b113)]) (lenOf pd_4 rfl) rfl (by show 2 * 0 + _ ≤ _; exact Nat.le_of_eq rfl) (hb hby at_126) (fun _ _ => ⟨rfl, e114q, (by decide : 4 + 4 ≤ _), (by decide : 13 + 64 ≤ _)⟩)
      dsimp only [Pt.U, Pt.locs, Pt.cells, Pt.slots] at X115 l115 y115 z115 st115 hQ115 S115w gr115
      rw [l115, y115, z115] at X115
      replace X115 : Stand p l e _ _ m _ below meth c T115 _ 8 77 := X115
      obtain ⟨rfl, N115q, K115q, fu115, ft115⟩ := hQ115
      have N115 := Fr.app N114 N115q
      refine Go.tr st115 ?_
      obtain ⟨X115r, hS115, hZ115, hown115⟩ := rebS hS0 (by rw [e114q]; exact hk113) X115 S115w gr115 hZ hown
      have Zs115 : n0 ≤ T115.heap.size := Nat.le_trans Zs113 K115q.1
      have O115 : Old Z n0 T115.heap := O113.keep K115q (allS g_b113 all0)
      have fV_b101_115 := fV_b101_113.keep K115q (ninS ne_b101_b113 nin0)
      have fE_sv105_115 := fE_sv105_113.keep K115q
      have fE_b113_115 := A113.keep K115q
      have fE_tr114_115 := et114.keep K115q
      have fF_tr114_work_115 := fw114.keep K115q (ninS (Ne.symm neb113_tr114) nin0)
      show Go p e below _ (T115.setTop (mkF m 129 #[.val (.int p1), .val (.int p2), .val (.int p3), .val (.int p4), .val (.int k), .val (.ref b101), .val (.int (0 : Int32)), .val .null, .val (.ref sv105), .unset, .unset, .unset] [(.ref b113)]))
      refine Go.via (fun _ => XS.astore X115r.here hx rfl (hb hby at_129) rfl rfl (l' := #[.val (.int p1), .val (.int p2), .val (.int p3), .val (.int p4), .val (.int k), .val (.ref b101), .val (.int (0 : Int32)), .val .null, .val (.ref sv105), .val (.ref b113), .unset, .unset]) rfl) ?_
      show Go p e below _ (T115.setTop (mkF m 131 #[.val (.int p1), .val (.int p2), .val (.int p3), .val (.int p4), .val (.int k), .val (.ref b101), .val (.int (0 : Int32)), .val .null, .val (.ref sv105), .val (.ref b113), .unset, .unset] []))
      refine Go.via (fun _ => XS.iload X115r.here hx rfl (hb hby at_131) rfl) ?_
      show Go p e below _ (T115.setTop (mkF m 133 #[.val (.int p1), .val (.int p2), .val (.int p3), .val (.int p4), .val (.int k), .val (.ref b101), .val (.int (0 : Int32)), .val .null, .val (.ref sv105), .val (.ref b113), .unset, .unset] [(.int k)]))
      refine Go.via (fun _ => XS.iconst X115r.here hx rfl (hb hby at_133)) ?_
      show Go p e below _ (T115.setTop (mkF m 134 #[.val (.int p1), .val (.int p2), .val (.int p3), .val (.int p4), .val (.int k), .val (.ref b101), .val (.int (0 : Int32)), .val .null, .val (.ref sv105), .val (.ref b113), .unset, .unset] [(.int (4 : Int32)), (.int k)]))
      refine Go.via (fun _ => XS.icmpYes X115r.here hx rfl (pc0 := 134) (pc' := 144) rfl (hb hby at_134) rfl (tlt hk.2.2.1).1 (by decide) (by decide)) ?_
      show Go p e below _ (T115.setTop (mkF m 144 #[.val (.int p1), .val (.int p2), .val (.int p3), .val (.int p4), .val (.int k), .val (.ref b101), .val (.int (0 : Int32)), .val .null, .val (.ref sv105), .val (.ref b113), .unset, .unset] []))
      refine Go.via (fun _ => XS.iload X115r.here hx rfl (hb hby at_144) rfl) ?_
      show Go p e below _ (T115.setTop (mkF m 146 #[.val (.int p1), .val (.int p2), .val (.int p3), .val (.int p4), .val (.int k), .val (.ref b101), .val (.int (0 : Int32)), .val .null, .val (.ref sv105), .val (.ref b113), .unset, .unset] [(.int k)]))
      refine Go.via (fun _ => XS.bipush X115r.here hx rfl (hb hby at_146)) ?_
      show Go p e below _ (T115.setTop (mkF m 148 #[.val (.int p1), .val (.int p2), .val (.int p3), .val (.int p4), .val (.int k), .val (.ref b101), .val (.int (0 : Int32)), .val .null, .val (.ref sv105), .val (.ref b113), .unset, .unset] [(.int (12 : Int32)), (.int k)]))
      refine Go.via (fun _ => XS.icmpYes X115r.here hx rfl (pc0 := 148) (pc' := 155) rfl (hb hby at_148) rfl (tlt hk.2.2.2).1 (by decide) (by decide)) ?_
      show Go p e below _ (T115.setTop (mkF m 155 #[.val (.int p1), .val (.int p2), .val (.int p3), .val (.int p4), .val (.int k), .val (.ref b101), .val (.int (0 : Int32)), .val .null, .val (.ref sv105), .val (.ref b113), .unset, .unset] []))
      refine Go.via (fun _ => XS.iconst X115r.here hx rfl (hb hby at_155)) ?_
      show Go p e below _ (T115.setTop (mkF m 156 #[.val (.int p1), .val (.int p2), .val (.int p3), .val (.int p4), .val (.int k), .val (.ref b101), .val (.int (0 : Int32)), .val .null, .val (.ref sv105), .val (.ref b113), .unset, .unset] [(.int (0 : Int32))]))
      refine Go.via (fun _ => XS.istore X115r.here hx rfl (hb hby at_156) rfl (l' := #[.val (.int p1), .val (.int p2), .val (.int p3), .val (.int p4), .val (.int k), .val (.ref b101), .val (.int (0 : Int32)), .val .null, .val (.ref sv105), .val (.ref b113), .val (.int (0 : Int32)), .unset]) rfl) ?_
      show Go p e below _ (T115.setTop (mkF m 158 #[.val (.int p1), .val (.int p2), .val (.int p3), .val (.int p4), .val (.int k), .val (.ref b101), .val (.int (0 : Int32)), .val .null, .val (.ref sv105), .val (.ref b113), .val (.int (0 : Int32)), .unset] []))
      refine Go.via (fun _ => XS.aload X115r.here hx rfl (hb hby at_158) rfl rfl) ?_
      show Go p e below _ (T115.setTop (mkF m 160 #[.val (.int p1), .val (.int p2), .val (.int p3), .val (.int p4), .val (.int k), .val (.ref b101), .val (.int (0 : Int32)), .val .null, .val (.ref sv105), .val (.ref b113), .val (.int (0 : Int32)), .unset] [(.ref b113)]))
      obtain ⟨cq116, kq116, q116a, q116b, q116c⟩ := isOf hZ115 rfl fE_b113_115
      obtain ⟨_, _, ⟨T116, L116, k116, n116⟩, -, X116, ⟨Lc116, hQ116, l116, y116, z116⟩, st116⟩ := X115r.virtualBack hx (y := (⟨"com/example/permits_from_duties/permitsfromduties/Event", "performer", "()Ljava/lang/String;"⟩ : MethodName)) (z := (⟨"com/example/permits_from_duties/permitsfromduties/Event", "performer", "()Ljava/lang/String;"⟩ : MethodName)) hown115 (mvT hZ115 (hw _ (List.mem_of_getElem? (i := 76) rfl))) (mvT hZ115 (hw _ (List.mem_of_getElem? (i := 77) rfl))) (notFace_of_selects (args := #[]) (mvT hZ115 (hw _ (List.mem_of_getElem? (i := 79) rfl)))) (mvT hZ115 (hw _ (List.mem_of_getElem? (i := 79) rfl))) (mvT hZ115 (hw _ (List.mem_of_getElem? (i := 78) rfl))) (by decide) (backOf (W := 0) (rmPf_0N l Z a0 hw [] b113 tr114  T115.heap n0 Zs115 fE_b113_115 ft115 fE_tr114_115 fF_tr114_work_115 fu115) hZ115 (hw _ (List.mem_of_getElem? (i := 80) rfl)) (hw _ (List.mem_of_getElem? (i := 30) rfl)) (by decide) (by decide)) q116a q116c (g := (mkF m 160 #[.val (.int p1), .val (.int p2), .val (.int p3), .val (.int p4), .val (.int k), .val (.ref b101), .val (.int (0 : Int32)), .val .null, .val (.ref sv105), .val (.ref b113), .val (.int (0 : Int32)), .unset] [(.ref b113)])) rfl (by rw [hml]; rfl) (Steps.refl _) (argsL := []) (rest := []) (lenOf pd_12 rfl) rfl (by show 2 * 0 + _ ≤ _; exact Nat.le_of_eq rfl) (hb hby at_160) (fun _ _ => ⟨rfl, rfl, (by decide : 8 + 0 ≤ _), (by decide : 77 + 0 ≤ _)⟩)
      dsimp only [Pt.U, Pt.locs, Pt.cells, Pt.slots] at X116 l116 y116 z116 st116 hQ116
      rw [l116, y116, z116] at X116
      replace X116 : Stand p l e _ _ m _ below meth c T116 _ 8 77 := X116
      obtain ⟨rfl, N116q, e116q⟩ := hQ116
      have N116 := Fr.app N115 N116q
      refine Go.tr st116 ?_
      show Go p e below _ (T116.setTop (mkF m 163 #[.val (.int p1), .val (.int p2), .val (.int p3), .val (.int p4), .val (.int k), .val (.ref b101), .val (.int (0 : Int32)), .val .null, .val (.ref sv105), .val (.ref b113), .val (.int (0 : Int32)), .unset] [.null]))
      refine Go.via (fun _ => XS.astore X116.here hx rfl (hb hby at_163) rfl rfl (l' := #[.val (.int p1), .val (.int p2), .val (.int p3), .val (.int p4), .val (.int k), .val (.ref b101), .val (.int (0 : Int32)), .val .null, .val (.ref sv105), .val (.ref b113), .val (.int (0 : Int32)), .val .null]) rfl) ?_
      show Go p e below _ (T116.setTop (mkF m 165 #[.val (.int p1), .val (.int p2), .val (.int p3), .val (.int p4), .val (.int k), .val (.ref b101), .val (.int (0 : Int32)), .val .null, .val (.ref sv105), .val (.ref b113), .val (.int (0 : Int32)), .val .null] []))
      refine Go.via (fun _ => XS.iload X116.here hx rfl (hb hby at_165) rfl) ?_
      show Go p e below _ (T116.setTop (mkF m 167 #[.val (.int p1), .val (.int p2), .val (.int p3), .val (.int p4), .val (.int k), .val (.ref b101), .val (.int (0 : Int32)), .val .null, .val (.ref sv105), .val (.ref b113), .val (.int (0 : Int32)), .val .null] [(.int (0 : Int32))]))
      refine Go.via (fun _ => XS.ifYes X116.here hx rfl (pc0 := 167) (pc' := 183) rfl (hb hby at_167) rfl (by decide) (by decide) (by decide)) ?_
      show Go p e below _ (T116.setTop (mkF m 183 #[.val (.int p1), .val (.int p2), .val (.int p3), .val (.int p4), .val (.int k), .val (.ref b101), .val (.int (0 : Int32)), .val .null, .val (.ref sv105), .val (.ref b113), .val (.int (0 : Int32)), .val .null] []))
      refine Go.via (fun _ => XS.aload X116.here hx rfl (hb hby at_183) rfl rfl) ?_
      show Go p e below _ (T116.setTop (mkF m 185 #[.val (.int p1), .val (.int p2), .val (.int p3), .val (.int p4), .val (.int k), .val (.ref b101), .val (.int (0 : Int32)), .val .null, .val (.ref sv105), .val (.ref b113), .val (.int (0 : Int32)), .val .null] [.null]))
      refine Go.via (fun _ => XS.ifnonnullNo X116.here hx rfl (hb hby at_185) rfl) ?_
      show Go p e below _ (T116.setTop (mkF m 188 #[.val (.int p1), .val (.int p2), .val (.int p3), .val (.int p4), .val (.int k), .val (.ref b101), .val (.int (0 : Int32)), .val .null, .val (.ref sv105), .val (.ref b113), .val (.int (0 : Int32)), .val .null] []))
      refine Go.via (fun _ => XS.iconst X116.here hx rfl (hb hby at_188)) ?_
      show Go p e below _ (T116.setTop (mkF m 189 #[.val (.int p1), .val (.int p2), .val (.int p3), .val (.int p4), .val (.int k), .val (.ref b101), .val (.int (0 : Int32)), .val .null, .val (.ref sv105), .val (.ref b113), .val (.int (0 : Int32)), .val .null] [(.int (1 : Int32))]))
      refine Go.via (fun _ => XS.goto X116.here hx rfl (pc0 := 189) (pc' := 193) rfl (hb hby at_189) (by decide) (by decide)) ?_
      show Go p e below _ (T116.setTop (mkF m 193 #[.val (.int p1), .val (.int p2), .val (.int p3), .val (.int p4), .val (.int k), .val (.ref b101), .val (.int (0 : Int32)), .val .null, .val (.ref sv105), .val (.ref b113), .val (.int (0 : Int32)), .val .null] [(.int (1 : Int32))]))
      exact own_retNW X116 hS115 (by rw [e116q]; exact (Nat.le_refl _)) hx hlk (t := .boolean) Bd.returns (by simp) (hb hby at_193) (by show Q0 Z p1 p2 p3 p4 ccs w_SCHEDULE w_ASSIGN w_REASSIGN w_WITHDRAW w_START w_SUSPEND w_RESUME w_COMPLETE w_ATE_ABORT w_PI_ABORT w_MANUALSKIP w_AUTOSKIP w_UNKNOWN em h0 n0 _ T116.heap _; rw [e116q]; exact ⟨rfl, N116⟩) (by decide) (by decide)
    ·
      show Go p e below _ (T105.setTop (mkF m 89 #[.val (.int p1), .val (.int p2), .val (.int p3), .val (.int p4), .val (.int k), .val (.ref b101), .val (.int (0 : Int32)), .val .null, .val (.ref sv105), .unset, .unset, .unset] []))
      refine Go.via (fun _ => XS.iload X105.here hx rfl (hb hby at_89) rfl) ?_
      show Go p e below _ (T105.setTop (mkF m 91 #[.val (.int p1), .val (.int p2), .val (.int p3), .val (.int p4), .val (.int k), .val (.ref b101), .val (.int (0 : Int32)), .val .null, .val (.ref sv105), .unset, .unset, .unset] [(.int k)]))
      refine Go.via (fun _ => XS.bipush X105.here hx rfl (hb hby at_91)) ?_
      show Go p e below _ (T105.setTop (mkF m 93 #[.val (.int p1), .val (.int p2), .val (.int p3), .val (.int p4), .val (.int k), .val (.ref b101), .val (.int (0 : Int32)), .val .null, .val (.ref sv105), .unset, .unset, .unset] [(.int (13 : Int32)), (.int k)]))
      refine Go.via (fun _ => XS.icmpYes X105.here hx rfl (pc0 := 93) (pc' := 112) rfl (hb hby at_93) rfl (feq hk.2.1).2 (by decide) (by decide)) ?_
      show Go p e below _ (T105.setTop (mkF m 112 #[.val (.int p1), .val (.int p2), .val (.int p3), .val (.int p4), .val (.int k), .val (.ref b101), .val (.int (0 : Int32)), .val .null, .val (.ref sv105), .unset, .unset, .unset] []))
      obtain ⟨T117, h117, X117, e117, E117, A117, D117, -, st117⟩ := newO X105 hx hZ hown (hw _ (List.mem_of_getElem? (i := 28) rfl)) (hw _ (List.mem_of_getElem? (i := 29) rfl)) (hw _ (List.mem_of_getElem? (i := 30) rfl)) rfl (g := (mkF m 112 #[.val (.int p1), .val (.int p2), .val (.int p3), .val (.int p4), .val (.int k), .val (.ref b101), .val (.int (0 : Int32)), .val .null, .val (.ref sv105), .unset, .unset, .unset] [])) rfl (hb hby at_112) (by decide) (by decide)
      obtain ⟨b117, g117⟩ : ∃ z, z = T105.heap.size := ⟨_, rfl⟩
      rw [← g117] at A117 D117 st117
      have g_b117 : n0 ≤ b117 := Nat.le_trans Zs105 (Nat.le_of_eq g117.symm)
      have ne_b101_b117 : b101 ≠ b117 := Nat.ne_of_lt (Nat.lt_of_lt_of_le fV_b101_105.lt (Nat.le_of_eq g117.symm))
      have ne_sv105_b117 : sv105 ≠ b117 := Nat.ne_of_lt (Nat.lt_of_lt_of_le ev105.lt (Nat.le_of_eq g117.symm))
      refine Go.via st117 ?_
      have Zs117 : n0 ≤ h117.size := Nat.le_trans Zs105 E117.1
      have hk117 : 0 ≤ h117.size := Nat.le_trans hk105 E117.1
      have O117 : Old Z n0 h117 := O105.ext E117
      have fV_b101_117 := fV_b101_105.ext E117
      have fE_sv105_117 := ev105.ext E117
      have F_task_b117 : Fld Z h117 b117 "com/example/permits_from_duties/permitsfromduties/Event" "task" "Ljava/lang/String;" .null := D117 (Or.inr (hw _ (List.mem_of_getElem? (i := 65) rfl))) (ty := (.object "java/lang/String")) (by decide)
      have F_user_b117 : Fld Z h117 b117 "com/example/permits_from_duties/permitsfromduties/Event" "user" "Ljava/lang/String;" .null := D117 (Or.inr (hw _ (List.mem_of_getElem? (i := 67) rfl))) (ty := (.object "java/lang/String")) (by decide)
      have F_time_b117 : Fld Z h117 b117 "com/example/permits_from_duties/permitsfromduties/Event" "time" "Ljava/time/Instant;" .null := D117 (Or.inr (hw _ (List.mem_of_getElem? (i := 69) rfl))) (ty := (.object "java/time/Instant")) (by decide)
      have F_transition_b117 : Fld Z h117 b117 "com/example/permits_from_duties/permitsfromduties/Event" "transition" "Lcom/example/permits_from_duties/permitsfromduties/Event$Transition;" .null := D117 (Or.inr (hw _ (List.mem_of_getElem? (i := 71) rfl))) (ty := (.object "com/example/permits_from_duties/permitsfromduties/Event$Transition")) (by decide)
      have F_location_b117 : Fld Z h117 b117 "com/example/permits_from_duties/permitsfromduties/Event" "location" "Ljava/lang/String;" .null := D117 (Or.inr (hw _ (List.mem_of_getElem? (i := 73) rfl))) (ty := (.object "java/lang/String")) (by decide)
      have F_data_b117 : Fld Z h117 b117 "com/example/permits_from_duties/permitsfromduties/Event" "data" "Ljava/util/Map;" .null := D117 (Or.inr (hw _ (List.mem_of_getElem? (i := 75) rfl))) (ty := (.object "java/util/Map")) (by decide)
      show Go p e below _ (T117.setTop (mkF m 115 #[.val (.int p1), .val (.int p2), .val (.int p3), .val (.int p4), .val (.int k), .val (.ref b101), .val (.int (0 : Int32)), .val .null, .val (.ref sv105), .unset, .unset, .unset] [(.ref b117)]))
      refine Go.via (fun _ => XS.dup X117.here hx rfl (hb hby at_115) rfl rfl) ?_
      show Go p e below _ (T117.setTop (mkF m 116 #[.val (.int p1), .val (.int p2), .val (.int p3), .val (.int p4), .val (.int k), .val (.ref b101), .val (.int (0 : Int32)), .val .null, .val (.ref sv105), .unset, .unset, .unset] [(.ref b117), (.ref b117)]))
      refine Go.via (fun _ => XS.aload X117.here hx rfl (hb hby at_116) rfl rfl) ?_
      show Go p e below _ (T117.setTop (mkF m 118 #[.val (.int p1), .val (.int p2), .val (.int p3), .val (.int p4), .val (.int k), .val (.ref b101), .val (.int (0 : Int32)), .val .null, .val (.ref sv105), .unset, .unset, .unset] [(.ref sv105), (.ref b117), (.ref b117)]))
      refine Go.via (fun _ => XS.aload X117.here hx rfl (hb hby at_118) rfl rfl) ?_
      show Go p e below _ (T117.setTop (mkF m 120 #[.val (.int p1), .val (.int p2), .val (.int p3), .val (.int p4), .val (.int k), .val (.ref b101), .val (.int (0 : Int32)), .val .null, .val (.ref sv105), .unset, .unset, .unset] [.null, (.ref sv105), (.ref b117), (.ref b117)]))
      refine Go.via (fun _ => XS.aconstNull X117.here hx rfl (hb hby at_120)) ?_
      show Go p e below _ (T117.setTop (mkF m 121 #[.val (.int p1), .val (.int p2), .val (.int p3), .val (.int p4), .val (.int k), .val (.ref b101), .val (.int (0 : Int32)), .val .null, .val (.ref sv105), .unset, .unset, .unset] [.null, .null, (.ref sv105), (.ref b117), (.ref b117)]))
      refine Go.via (fun _ => XS.iload X117.here hx rfl (hb hby at_121) rfl) ?_
      show Go p e below _ (T117.setTop (mkF m 123 #[.val (.int p1), .val (.int p2), .val (.int p3), .val (.int p4), .val (.int k), .val (.ref b101), .val (.int (0 : Int32)), .val .null, .val (.ref sv105), .unset, .unset, .unset] [(.int k), .null, .null, (.ref sv105), (.ref b117), (.ref b117)]))
      obtain ⟨_, _, ⟨T118, L118, k118, n118⟩, -, X118, ⟨Lc118, hQ118, l118, y118, z118⟩, st118⟩ := Jvm.LawKit.callS X117 hx (y := (⟨"com/example/permits_from_duties/permitsfromduties/EventPerformerPinLaw", "pick", "(I)Lcom/example/permits_from_duties/permitsfromduties/Event$Transition;"⟩ : MethodName)) hown (mvT hZ (hw _ (List.mem_of_getElem? (i := 31) rfl))) (mvT hZ (hw _ (List.mem_of_getElem? (i := 32) rfl))) (mvT hZ (hw _ (List.mem_of_getElem? (i := 33) rfl))) (mvT hZ (hw _ (List.mem_of_getElem? (i := 34) rfl))) (by decide) (backOf (W := 5) (rmPk_B l Z a0 hw [] k w_SCHEDULE w_ASSIGN w_REASSIGN w_WITHDRAW w_START w_SUSPEND w_RESUME w_COMPLETE w_ATE_ABORT w_PI_ABORT w_MANUALSKIP w_AUTOSKIP w_UNKNOWN h117 n0 Zs117 hk.1 O117 S_SCHEDULE S_ASSIGN S_REASSIGN S_WITHDRAW S_START S_SUSPEND S_RESUME S_COMPLETE S_ATE_ABORT S_PI_ABORT S_MANUALSKIP S_AUTOSKIP S_UNKNOWN E_SCHEDULE E_ASSIGN E_REASSIGN E_WITHDRAW E_START E_SUSPEND E_RESUME E_COMPLETE E_ATE_ABORT E_PI_ABORT E_MANUALSKIP E_AUTOSKIP E_UNKNOWN F_SCHEDULE F_ASSIGN F_REASSIGN F_WITHDRAW F_START F_SUSPEND F_RESUME F_COMPLETE F_ATE_ABORT F_PI_ABORT F_MANUALSKIP F_AUTOSKIP F_UNKNOWN) hZ (hw _ (List.mem_of_getElem? (i := 34) rfl)) (hw _ (List.mem_of_getElem? (i := 33) rfl)) (by decide) (by decide)) (g := (mkF m 123 #[.val (.int p1), .val (.int p2), .val (.int p3), .val (.int p4), .val (.int k), .val (.ref b101), .val (.int (0 : Int32)), .val .null, .val (.ref sv105), .unset, .unset, .unset] [(.int k), .null, .null, (.ref sv105), (.ref b117), (.ref b117)])) rfl (by rw [hml]; rfl) (argsL := [(.int k)]) (rest := [.null, .null, (.ref sv105), (.ref b117), (.ref b117)]) (lenOf pd_13 rfl) rfl (by show 2 * 0 + _ ≤ _; exact Nat.le_of_eq rfl) (hb hby at_123) (fun _ _ => ⟨rfl, e117, (by decide : 4 + 0 ≤ _), (by decide : 13 + 0 ≤ _)⟩)
      dsimp only [Pt.U, Pt.locs, Pt.cells, Pt.slots] at X118 l118 y118 z118 st118 hQ118
      rw [l118, y118, z118] at X118
      replace X118 : Stand p l e _ _ m _ below meth c T118 _ 4 13 := X118
      obtain ⟨tr118, rfl, N118q, e118q, et118, fw118⟩ := hQ118
      have N118 := Fr.app N105 N118q
      refine Go.via st118 ?_
      have neb117_tr118 : b117 ≠ tr118 := ne_exa A117 et118 (by decide)
      show Go p e below _ (T118.setTop (mkF m 126 #[.val (.int p1), .val (.int p2), .val (.int p3), .val (.int p4), .val (.int k), .val (.ref b101), .val (.int (0 : Int32)), .val .null, .val (.ref sv105), .unset, .unset, .unset] [(.ref tr118), .null, .null, (.ref sv105), (.ref b117), (.ref b117)]))
      obtain ⟨_, _, ⟨T119, L119, k119, n119⟩, -, X119, S119w, gr119, ⟨Lc119, hQ119, l119, y119, z119⟩, st119⟩ := X118.specialBackS hx (y := (⟨"com/example/permits_from_duties/permitsfromduties/Event", "<init>", "(Ljava/lang/String;Ljava/lang/String;Ljava/time/Instant;Lcom/example/permits_from_duties/permitsfromduties/Event$Transition;)V"⟩ : MethodName)) rfl hown (mvT hZ (hw _ (List.mem_of_getElem? (i := 38) rfl))) (mvT hZ (hw _ (List.mem_of_getElem? (i := 39) rfl))) (mvT hZ (hw _ (List.mem_of_getElem? (i := 40) rfl))) (by decide) (backOfS (W := 1) (rmC4N l Z a0 hw [] b117 sv105 tr118 em h117 n0 Zs117 A117 F_task_b117 F_user_b117 F_time_b117 F_transition_b117 F_location_b117 F_data_b117 g_b117 O117 S_EM) hZ (hw _ (List.mem_of_getElem? (i := 40) rfl)) (hw _ (List.mem_of_getElem? (i := 30) rfl)) (by decide) (by decide)) (g := (mkF m 126 #[.val (.int p1), .val (.int p2), .val (.int p3), .val (.int p4), .val (.int k), .val (.ref b101), .val (.int (0 : Int32)), .val .null, .val (.ref sv105), .unset, .unset, .unset] [(.ref tr118), .null, .null, (.ref sv105), (.ref b117), (.ref b117)])) rfl (by rw [hml]; rfl) (Steps.refl _) (a := b117) (argsL := [(.ref sv105), .null, .null, (.ref tr118)]) (rest := [(.ref b117)]) (lenOf pd_4 rfl) rfl (by show 2 * 0 + _ ≤ _; exact Nat.le_of_eq rfl) (hb hby at_126) (fun _ _ => ⟨rfl, e118q, (by decide : 4 + 4 ≤ _), (by decide : 13 + 64 ≤ _)⟩)
      dsimp only [Pt.U, Pt.locs, Pt.cells, Pt.slots] at X119 l119 y119 z119 st119 hQ119 S119w gr119
      rw [l119, y119, z119] at X119
      replace X119 : Stand p l e _ _ m _ below meth c T119 _ 8 77 := X119
      obtain ⟨rfl, N119q, K119q, fu119, ft119⟩ := hQ119
      have N119 := Fr.app N118 N119q
      refine Go.tr st119 ?_
      obtain ⟨X119r, hS119, hZ119, hown119⟩ := rebS hS0 (by rw [e118q]; exact hk117) X119 S119w gr119 hZ hown
      have Zs119 : n0 ≤ T119.heap.size := Nat.le_trans Zs117 K119q.1
      have O119 : Old Z n0 T119.heap := O117.keep K119q (allS g_b117 all0)
      have fV_b101_119 := fV_b101_117.keep K119q (ninS ne_b101_b117 nin0)
      have fE_sv105_119 := fE_sv105_117.keep K119q
      have fE_b117_119 := A117.keep K119q
      have fE_tr118_119 := et118.keep K119q
      have fF_tr118_work_119 := fw118.keep K119q (ninS (Ne.symm neb117_tr118) nin0)
      show Go p e below _ (T119.setTop (mkF m 129 #[.val (.int p1), .val (.int p2), .val (.int p3), .val (.int p4), .val (.int k), .val (.ref b101), .val (.int (0 : Int32)), .val .null, .val (.ref sv105), .unset, .unset, .unset] [(.ref b117)]))
      refine Go.via (fun _ => XS.astore X119r.here hx rfl (hb hby at_129) rfl rfl (l' := #[.val (.int p1), .val (.int p2), .val (.int p3), .val (.int p4), .val (.int k), .val (.ref b101), .val (.int (0 : Int32)), .val .null, .val (.ref sv105), .val (.ref b117), .unset, .unset]) rfl) ?_
      show Go p e below _ (T119.setTop (mkF m 131 #[.val (.int p1), .val (.int p2), .val (.int p3), .val (.int p4), .val (.int k), .val (.ref b101), .val (.int (0 : Int32)), .val .null, .val (.ref sv105), .val (.ref b117), .unset, .unset] []))
      refine Go.via (fun _ => XS.iload X119r.here hx rfl (hb hby at_131) rfl) ?_
      show Go p e below _ (T119.setTop (mkF m 133 #[.val (.int p1), .val (.int p2), .val (.int p3), .val (.int p4), .val (.int k), .val (.ref b101), .val (.int (0 : Int32)), .val .null, .val (.ref sv105), .val (.ref b117), .unset, .unset] [(.int k)]))
      refine Go.via (fun _ => XS.iconst X119r.here hx rfl (hb hby at_133)) ?_
      show Go p e below _ (T119.setTop (mkF m 134 #[.val (.int p1), .val (.int p2), .val (.int p3), .val (.int p4), .val (.int k), .val (.ref b101), .val (.int (0 : Int32)), .val .null, .val (.ref sv105), .val (.ref b117), .unset, .unset] [(.int (4 : Int32)), (.int k)]))
      refine Go.via (fun _ => XS.icmpNo X119r.here hx rfl (hb hby at_134) rfl (flt hk.2.2.1).1) ?_
      show Go p e below _ (T119.setTop (mkF m 137 #[.val (.int p1), .val (.int p2), .val (.int p3), .val (.int p4), .val (.int k), .val (.ref b101), .val (.int (0 : Int32)), .val .null, .val (.ref sv105), .val (.ref b117), .unset, .unset] []))
      refine Go.via (fun _ => XS.iload X119r.here hx rfl (hb hby at_137) rfl) ?_
      show Go p e below _ (T119.setTop (mkF m 139 #[.val (.int p1), .val (.int p2), .val (.int p3), .val (.int p4), .val (.int k), .val (.ref b101), .val (.int (0 : Int32)), .val .null, .val (.ref sv105), .val (.ref b117), .unset, .unset] [(.int k)]))
      refine Go.via (fun _ => XS.bipush X119r.here hx rfl (hb hby at_139)) ?_
      show Go p e below _ (T119.setTop (mkF m 141 #[.val (.int p1), .val (.int p2), .val (.int p3), .val (.int p4), .val (.int k), .val (.ref b101), .val (.int (0 : Int32)), .val .null, .val (.ref sv105), .val (.ref b117), .unset, .unset] [(.int (8 : Int32)), (.int k)]))
      refine Go.via (fun _ => XS.icmpYes X119r.here hx rfl (pc0 := 141) (pc' := 151) rfl (hb hby at_141) rfl (flt hk.2.2.2).2.2.2 (by decide) (by decide)) ?_
      show Go p e below _ (T119.setTop (mkF m 151 #[.val (.int p1), .val (.int p2), .val (.int p3), .val (.int p4), .val (.int k), .val (.ref b101), .val (.int (0 : Int32)), .val .null, .val (.ref sv105), .val (.ref b117), .unset, .unset] []))
      refine Go.via (fun _ => XS.iconst X119r.here hx rfl (hb hby at_151)) ?_
      show Go p e below _ (T119.setTop (mkF m 152 #[.val (.int p1), .val (.int p2), .val (.int p3), .val (.int p4), .val (.int k), .val (.ref b101), .val (.int (0 : Int32)), .val .null, .val (.ref sv105), .val (.ref b117), .unset, .unset] [(.int (1 : Int32))]))
      refine Go.via (fun _ => XS.goto X119r.here hx rfl (pc0 := 152) (pc' := 156) rfl (hb hby at_152) (by decide) (by decide)) ?_
      show Go p e below _ (T119.setTop (mkF m 156 #[.val (.int p1), .val (.int p2), .val (.int p3), .val (.int p4), .val (.int k), .val (.ref b101), .val (.int (0 : Int32)), .val .null, .val (.ref sv105), .val (.ref b117), .unset, .unset] [(.int (1 : Int32))]))
      refine Go.via (fun _ => XS.istore X119r.here hx rfl (hb hby at_156) rfl (l' := #[.val (.int p1), .val (.int p2), .val (.int p3), .val (.int p4), .val (.int k), .val (.ref b101), .val (.int (0 : Int32)), .val .null, .val (.ref sv105), .val (.ref b117), .val (.int (1 : Int32)), .unset]) rfl) ?_
      show Go p e below _ (T119.setTop (mkF m 158 #[.val (.int p1), .val (.int p2), .val (.int p3), .val (.int p4), .val (.int k), .val (.ref b101), .val (.int (0 : Int32)), .val .null, .val (.ref sv105), .val (.ref b117), .val (.int (1 : Int32)), .unset] []))
      refine Go.via (fun _ => XS.aload X119r.here hx rfl (hb hby at_158) rfl rfl) ?_
      show Go p e below _ (T119.setTop (mkF m 160 #[.val (.int p1), .val (.int p2), .val (.int p3), .val (.int p4), .val (.int k), .val (.ref b101), .val (.int (0 : Int32)), .val .null, .val (.ref sv105), .val (.ref b117), .val (.int (1 : Int32)), .unset] [(.ref b117)]))
      obtain ⟨cq120, kq120, q120a, q120b, q120c⟩ := isOf hZ119 rfl fE_b117_119
      obtain ⟨_, _, ⟨T120, L120, k120, n120⟩, -, X120, ⟨Lc120, hQ120, l120, y120, z120⟩, st120⟩ := X119r.virtualBack hx (y := (⟨"com/example/permits_from_duties/permitsfromduties/Event", "performer", "()Ljava/lang/String;"⟩ : MethodName)) (z := (⟨"com/example/permits_from_duties/permitsfromduties/Event", "performer", "()Ljava/lang/String;"⟩ : MethodName)) hown119 (mvT hZ119 (hw _ (List.mem_of_getElem? (i := 76) rfl))) (mvT hZ119 (hw _ (List.mem_of_getElem? (i := 77) rfl))) (notFace_of_selects (args := #[]) (mvT hZ119 (hw _ (List.mem_of_getElem? (i := 79) rfl)))) (mvT hZ119 (hw _ (List.mem_of_getElem? (i := 79) rfl))) (mvT hZ119 (hw _ (List.mem_of_getElem? (i := 78) rfl))) (by decide) (backOf (W := 0) (rmPf_1N l Z a0 hw [] b117 tr118  T119.heap n0 Zs119 fE_b117_119 ft119 fE_tr118_119 fF_tr118_work_119 fu119) hZ119 (hw _ (List.mem_of_getElem? (i := 80) rfl)) (hw _ (List.mem_of_getElem? (i := 30) rfl)) (by decide) (by decide)) q120a q120c (g := (mkF m 160 #[.val (.int p1), .val (.int p2), .val (.int p3), .val (.int p4), .val (.int k), .val (.ref b101), .val (.int (0 : Int32)), .val .null, .val (.ref sv105), .val (.ref b117), .val (.int (1 : Int32)), .unset] [(.ref b117)])) rfl (by rw [hml]; rfl) (Steps.refl _) (argsL := []) (rest := []) (lenOf pd_12 rfl) rfl (by show 2 * 0 + _ ≤ _; exact Nat.le_of_eq rfl) (hb hby at_160) (fun _ _ => ⟨rfl, rfl, (by decide : 8 + 0 ≤ _), (by decide : 77 + 0 ≤ _)⟩)
      dsimp only [Pt.U, Pt.locs, Pt.cells, Pt.slots] at X120 l120 y120 z120 st120 hQ120
      rw [l120, y120, z120] at X120
      replace X120 : Stand p l e _ _ m _ below meth c T120 _ 8 77 := X120
      obtain ⟨rfl, N120q, e120q⟩ := hQ120
      have N120 := Fr.app N119 N120q
      refine Go.tr st120 ?_
      show Go p e below _ (T120.setTop (mkF m 163 #[.val (.int p1), .val (.int p2), .val (.int p3), .val (.int p4), .val (.int k), .val (.ref b101), .val (.int (0 : Int32)), .val .null, .val (.ref sv105), .val (.ref b117), .val (.int (1 : Int32)), .unset] [.null]))
      refine Go.via (fun _ => XS.astore X120.here hx rfl (hb hby at_163) rfl rfl (l' := #[.val (.int p1), .val (.int p2), .val (.int p3), .val (.int p4), .val (.int k), .val (.ref b101), .val (.int (0 : Int32)), .val .null, .val (.ref sv105), .val (.ref b117), .val (.int (1 : Int32)), .val .null]) rfl) ?_
      show Go p e below _ (T120.setTop (mkF m 165 #[.val (.int p1), .val (.int p2), .val (.int p3), .val (.int p4), .val (.int k), .val (.ref b101), .val (.int (0 : Int32)), .val .null, .val (.ref sv105), .val (.ref b117), .val (.int (1 : Int32)), .val .null] []))
      refine Go.via (fun _ => XS.iload X120.here hx rfl (hb hby at_165) rfl) ?_
      show Go p e below _ (T120.setTop (mkF m 167 #[.val (.int p1), .val (.int p2), .val (.int p3), .val (.int p4), .val (.int k), .val (.ref b101), .val (.int (0 : Int32)), .val .null, .val (.ref sv105), .val (.ref b117), .val (.int (1 : Int32)), .val .null] [(.int (1 : Int32))]))
      refine Go.via (fun _ => XS.ifNo X120.here hx rfl (hb hby at_167) rfl (by decide)) ?_
      show Go p e below _ (T120.setTop (mkF m 170 #[.val (.int p1), .val (.int p2), .val (.int p3), .val (.int p4), .val (.int k), .val (.ref b101), .val (.int (0 : Int32)), .val .null, .val (.ref sv105), .val (.ref b117), .val (.int (1 : Int32)), .val .null] []))
      refine Go.via (fun _ => XS.aload X120.here hx rfl (hb hby at_170) rfl rfl) ?_
      show Go p e below _ (T120.setTop (mkF m 172 #[.val (.int p1), .val (.int p2), .val (.int p3), .val (.int p4), .val (.int k), .val (.ref b101), .val (.int (0 : Int32)), .val .null, .val (.ref sv105), .val (.ref b117), .val (.int (1 : Int32)), .val .null] [.null]))
      refine Go.via (fun _ => XS.aload X120.here hx rfl (hb hby at_172) rfl rfl) ?_
      show Go p e below _ (T120.setTop (mkF m 174 #[.val (.int p1), .val (.int p2), .val (.int p3), .val (.int p4), .val (.int k), .val (.ref b101), .val (.int (0 : Int32)), .val .null, .val (.ref sv105), .val (.ref b117), .val (.int (1 : Int32)), .val .null] [.null, .null]))
      refine Go.via (fun _ => Jvm.RoadKit.acmp (g := (mkF m 174 #[.val (.int p1), .val (.int p2), .val (.int p3), .val (.int p4), .val (.int k), .val (.ref b101), .val (.int (0 : Int32)), .val .null, .val (.ref sv105), .val (.ref b117), .val (.int (1 : Int32)), .val .null] [.null, .null])) X120 hx rfl rfl rfl (pc0 := 174) (pc' := 177) (same := true) rfl (hb hby at_174) rfl (decide_eq_true rfl) (by decide) (by decide)) ?_
      show Go p e below _ (T120.setTop (mkF m 177 #[.val (.int p1), .val (.int p2), .val (.int p3), .val (.int p4), .val (.int k), .val (.ref b101), .val (.int (0 : Int32)), .val .null, .val (.ref sv105), .val (.ref b117), .val (.int (1 : Int32)), .val .null] []))
      refine Go.via (fun _ => XS.iconst X120.here hx rfl (hb hby at_177)) ?_
      show Go p e below _ (T120.setTop (mkF m 178 #[.val (.int p1), .val (.int p2), .val (.int p3), .val (.int p4), .val (.int k), .val (.ref b101), .val (.int (0 : Int32)), .val .null, .val (.ref sv105), .val (.ref b117), .val (.int (1 : Int32)), .val .null] [(.int (1 : Int32))]))
      refine Go.via (fun _ => XS.goto X120.here hx rfl (pc0 := 178) (pc' := 182) rfl (hb hby at_178) (by decide) (by decide)) ?_
      show Go p e below _ (T120.setTop (mkF m 182 #[.val (.int p1), .val (.int p2), .val (.int p3), .val (.int p4), .val (.int k), .val (.ref b101), .val (.int (0 : Int32)), .val .null, .val (.ref sv105), .val (.ref b117), .val (.int (1 : Int32)), .val .null] [(.int (1 : Int32))]))
      exact own_retNW X120 hS119 (by rw [e120q]; exact (Nat.le_refl _)) hx hlk (t := .boolean) Bd.returns (by simp) (hb hby at_182) (by show Q0 Z p1 p2 p3 p4 ccs w_SCHEDULE w_ASSIGN w_REASSIGN w_WITHDRAW w_START w_SUSPEND w_RESUME w_COMPLETE w_ATE_ABORT w_PI_ABORT w_MANUALSKIP w_AUTOSKIP w_UNKNOWN em h0 n0 _ T120.heap _; rw [e120q]; exact ⟨rfl, N120⟩) (by decide) (by decide)
    ·
      show Go p e below _ (T105.setTop (mkF m 89 #[.val (.int p1), .val (.int p2), .val (.int p3), .val (.int p4), .val (.int k), .val (.ref b101), .val (.int (0 : Int32)), .val .null, .val (.ref sv105), .unset, .unset, .unset] []))
      refine Go.via (fun _ => XS.iload X105.here hx rfl (hb hby at_89) rfl) ?_
      show Go p e below _ (T105.setTop (mkF m 91 #[.val (.int p1), .val (.int p2), .val (.int p3), .val (.int p4), .val (.int k), .val (.ref b101), .val (.int (0 : Int32)), .val .null, .val (.ref sv105), .unset, .unset, .unset] [(.int k)]))
      refine Go.via (fun _ => XS.bipush X105.here hx rfl (hb hby at_91)) ?_
      show Go p e below _ (T105.setTop (mkF m 93 #[.val (.int p1), .val (.int p2), .val (.int p3), .val (.int p4), .val (.int k), .val (.ref b101), .val (.int (0 : Int32)), .val .null, .val (.ref sv105), .unset, .unset, .unset] [(.int (13 : Int32)), (.int k)]))
      refine Go.via (fun _ => XS.icmpYes X105.here hx rfl (pc0 := 93) (pc' := 112) rfl (hb hby at_93) rfl (feq hk.2.1).2 (by decide) (by decide)) ?_
      show Go p e below _ (T105.setTop (mkF m 112 #[.val (.int p1), .val (.int p2), .val (.int p3), .val (.int p4), .val (.int k), .val (.ref b101), .val (.int (0 : Int32)), .val .null, .val (.ref sv105), .unset, .unset, .unset] []))
      obtain ⟨T121, h121, X121, e121, E121, A121, D121, -, st121⟩ := newO X105 hx hZ hown (hw _ (List.mem_of_getElem? (i := 28) rfl)) (hw _ (List.mem_of_getElem? (i := 29) rfl)) (hw _ (List.mem_of_getElem? (i := 30) rfl)) rfl (g := (mkF m 112 #[.val (.int p1), .val (.int p2), .val (.int p3), .val (.int p4), .val (.int k), .val (.ref b101), .val (.int (0 : Int32)), .val .null, .val (.ref sv105), .unset, .unset, .unset] [])) rfl (hb hby at_112) (by decide) (by decide)
      obtain ⟨b121, g121⟩ : ∃ z, z = T105.heap.size := ⟨_, rfl⟩
      rw [← g121] at A121 D121 st121
      have g_b121 : n0 ≤ b121 := Nat.le_trans Zs105 (Nat.le_of_eq g121.symm)
      have ne_b101_b121 : b101 ≠ b121 := Nat.ne_of_lt (Nat.lt_of_lt_of_le fV_b101_105.lt (Nat.le_of_eq g121.symm))
      have ne_sv105_b121 : sv105 ≠ b121 := Nat.ne_of_lt (Nat.lt_of_lt_of_le ev105.lt (Nat.le_of_eq g121.symm))
      refine Go.via st121 ?_
      have Zs121 : n0 ≤ h121.size := Nat.le_trans Zs105 E121.1
      have hk121 : 0 ≤ h121.size := Nat.le_trans hk105 E121.1
      have O121 : Old Z n0 h121 := O105.ext E121
      have fV_b101_121 := fV_b101_105.ext E121
      have fE_sv105_121 := ev105.ext E121
      have F_task_b121 : Fld Z h121 b121 "com/example/permits_from_duties/permitsfromduties/Event" "task" "Ljava/lang/String;" .null := D121 (Or.inr (hw _ (List.mem_of_getElem? (i := 65) rfl))) (ty := (.object "java/lang/String")) (by decide)
      have F_user_b121 : Fld Z h121 b121 "com/example/permits_from_duties/permitsfromduties/Event" "user" "Ljava/lang/String;" .null := D121 (Or.inr (hw _ (List.mem_of_getElem? (i := 67) rfl))) (ty := (.object "java/lang/String")) (by decide)
      have F_time_b121 : Fld Z h121 b121 "com/example/permits_from_duties/permitsfromduties/Event" "time" "Ljava/time/Instant;" .null := D121 (Or.inr (hw _ (List.mem_of_getElem? (i := 69) rfl))) (ty := (.object "java/time/Instant")) (by decide)
      have F_transition_b121 : Fld Z h121 b121 "com/example/permits_from_duties/permitsfromduties/Event" "transition" "Lcom/example/permits_from_duties/permitsfromduties/Event$Transition;" .null := D121 (Or.inr (hw _ (List.mem_of_getElem? (i := 71) rfl))) (ty := (.object "com/example/permits_from_duties/permitsfromduties/Event$Transition")) (by decide)
      have F_location_b121 : Fld Z h121 b121 "com/example/permits_from_duties/permitsfromduties/Event" "location" "Ljava/lang/String;" .null := D121 (Or.inr (hw _ (List.mem_of_getElem? (i := 73) rfl))) (ty := (.object "java/lang/String")) (by decide)
      have F_data_b121 : Fld Z h121 b121 "com/example/permits_from_duties/permitsfromduties/Event" "data" "Ljava/util/Map;" .null := D121 (Or.inr (hw _ (List.mem_of_getElem? (i := 75) rfl))) (ty := (.object "java/util/Map")) (by decide)
      show Go p e below _ (T121.setTop (mkF m 115 #[.val (.int p1), .val (.int p2), .val (.int p3), .val (.int p4), .val (.int k), .val (.ref b101), .val (.int (0 : Int32)), .val .null, .val (.ref sv105), .unset, .unset, .unset] [(.ref b121)]))
      refine Go.via (fun _ => XS.dup X121.here hx rfl (hb hby at_115) rfl rfl) ?_
      show Go p e below _ (T121.setTop (mkF m 116 #[.val (.int p1), .val (.int p2), .val (.int p3), .val (.int p4), .val (.int k), .val (.ref b101), .val (.int (0 : Int32)), .val .null, .val (.ref sv105), .unset, .unset, .unset] [(.ref b121), (.ref b121)]))
      refine Go.via (fun _ => XS.aload X121.here hx rfl (hb hby at_116) rfl rfl) ?_
      show Go p e below _ (T121.setTop (mkF m 118 #[.val (.int p1), .val (.int p2), .val (.int p3), .val (.int p4), .val (.int k), .val (.ref b101), .val (.int (0 : Int32)), .val .null, .val (.ref sv105), .unset, .unset, .unset] [(.ref sv105), (.ref b121), (.ref b121)]))
      refine Go.via (fun _ => XS.aload X121.here hx rfl (hb hby at_118) rfl rfl) ?_
      show Go p e below _ (T121.setTop (mkF m 120 #[.val (.int p1), .val (.int p2), .val (.int p3), .val (.int p4), .val (.int k), .val (.ref b101), .val (.int (0 : Int32)), .val .null, .val (.ref sv105), .unset, .unset, .unset] [.null, (.ref sv105), (.ref b121), (.ref b121)]))
      refine Go.via (fun _ => XS.aconstNull X121.here hx rfl (hb hby at_120)) ?_
      show Go p e below _ (T121.setTop (mkF m 121 #[.val (.int p1), .val (.int p2), .val (.int p3), .val (.int p4), .val (.int k), .val (.ref b101), .val (.int (0 : Int32)), .val .null, .val (.ref sv105), .unset, .unset, .unset] [.null, .null, (.ref sv105), (.ref b121), (.ref b121)]))
      refine Go.via (fun _ => XS.iload X121.here hx rfl (hb hby at_121) rfl) ?_
      show Go p e below _ (T121.setTop (mkF m 123 #[.val (.int p1), .val (.int p2), .val (.int p3), .val (.int p4), .val (.int k), .val (.ref b101), .val (.int (0 : Int32)), .val .null, .val (.ref sv105), .unset, .unset, .unset] [(.int k), .null, .null, (.ref sv105), (.ref b121), (.ref b121)]))
      obtain ⟨_, _, ⟨T122, L122, k122, n122⟩, -, X122, ⟨Lc122, hQ122, l122, y122, z122⟩, st122⟩ := Jvm.LawKit.callS X121 hx (y := (⟨"com/example/permits_from_duties/permitsfromduties/EventPerformerPinLaw", "pick", "(I)Lcom/example/permits_from_duties/permitsfromduties/Event$Transition;"⟩ : MethodName)) hown (mvT hZ (hw _ (List.mem_of_getElem? (i := 31) rfl))) (mvT hZ (hw _ (List.mem_of_getElem? (i := 32) rfl))) (mvT hZ (hw _ (List.mem_of_getElem? (i := 33) rfl))) (mvT hZ (hw _ (List.mem_of_getElem? (i := 34) rfl))) (by decide) (backOf (W := 5) (rmPk_C l Z a0 hw [] k w_SCHEDULE w_ASSIGN w_REASSIGN w_WITHDRAW w_START w_SUSPEND w_RESUME w_COMPLETE w_ATE_ABORT w_PI_ABORT w_MANUALSKIP w_AUTOSKIP w_UNKNOWN h121 n0 Zs121 hk.1 O121 S_SCHEDULE S_ASSIGN S_REASSIGN S_WITHDRAW S_START S_SUSPEND S_RESUME S_COMPLETE S_ATE_ABORT S_PI_ABORT S_MANUALSKIP S_AUTOSKIP S_UNKNOWN E_SCHEDULE E_ASSIGN E_REASSIGN E_WITHDRAW E_START E_SUSPEND E_RESUME E_COMPLETE E_ATE_ABORT E_PI_ABORT E_MANUALSKIP E_AUTOSKIP E_UNKNOWN F_SCHEDULE F_ASSIGN F_REASSIGN F_WITHDRAW F_START F_SUSPEND F_RESUME F_COMPLETE F_ATE_ABORT F_PI_ABORT F_MANUALSKIP F_AUTOSKIP F_UNKNOWN) hZ (hw _ (List.mem_of_getElem? (i := 34) rfl)) (hw _ (List.mem_of_getElem? (i := 33) rfl)) (by decide) (by decide)) (g := (mkF m 123 #[.val (.int p1), .val (.int p2), .val (.int p3), .val (.int p4), .val (.int k), .val (.ref b101), .val (.int (0 : Int32)), .val .null, .val (.ref sv105), .unset, .unset, .unset] [(.int k), .null, .null, (.ref sv105), (.ref b121), (.ref b121)])) rfl (by rw [hml]; rfl) (argsL := [(.int k)]) (rest := [.null, .null, (.ref sv105), (.ref b121), (.ref b121)]) (lenOf pd_13 rfl) rfl (by show 2 * 0 + _ ≤ _; exact Nat.le_of_eq rfl) (hb hby at_123) (fun _ _ => ⟨rfl, e121, (by decide : 4 + 0 ≤ _), (by decide : 13 + 0 ≤ _)⟩)
      dsimp only [Pt.U, Pt.locs, Pt.cells, Pt.slots] at X122 l122 y122 z122 st122 hQ122
      rw [l122, y122, z122] at X122
      replace X122 : Stand p l e _ _ m _ below meth c T122 _ 4 13 := X122
      obtain ⟨tr122, rfl, N122q, e122q, et122, fw122⟩ := hQ122
      have N122 := Fr.app N105 N122q
      refine Go.via st122 ?_
      have neb121_tr122 : b121 ≠ tr122 := ne_exa A121 et122 (by decide)
      show Go p e below _ (T122.setTop (mkF m 126 #[.val (.int p1), .val (.int p2), .val (.int p3), .val (.int p4), .val (.int k), .val (.ref b101), .val (.int (0 : Int32)), .val .null, .val (.ref sv105), .unset, .unset, .unset] [(.ref tr122), .null, .null, (.ref sv105), (.ref b121), (.ref b121)]))
      obtain ⟨_, _, ⟨T123, L123, k123, n123⟩, -, X123, S123w, gr123, ⟨Lc123, hQ123, l123, y123, z123⟩, st123⟩ := X122.specialBackS hx (y := (⟨"com/example/permits_from_duties/permitsfromduties/Event", "<init>", "(Ljava/lang/String;Ljava/lang/String;Ljava/time/Instant;Lcom/example/permits_from_duties/permitsfromduties/Event$Transition;)V"⟩ : MethodName)) rfl hown (mvT hZ (hw _ (List.mem_of_getElem? (i := 38) rfl))) (mvT hZ (hw _ (List.mem_of_getElem? (i := 39) rfl))) (mvT hZ (hw _ (List.mem_of_getElem? (i := 40) rfl))) (by decide) (backOfS (W := 1) (rmC4N l Z a0 hw [] b121 sv105 tr122 em h121 n0 Zs121 A121 F_task_b121 F_user_b121 F_time_b121 F_transition_b121 F_location_b121 F_data_b121 g_b121 O121 S_EM) hZ (hw _ (List.mem_of_getElem? (i := 40) rfl)) (hw _ (List.mem_of_getElem? (i := 30) rfl)) (by decide) (by decide)) (g := (mkF m 126 #[.val (.int p1), .val (.int p2), .val (.int p3), .val (.int p4), .val (.int k), .val (.ref b101), .val (.int (0 : Int32)), .val .null, .val (.ref sv105), .unset, .unset, .unset] [(.ref tr122), .null, .null, (.ref sv105), (.ref b121), (.ref b121)])) rfl (by rw [hml]; rfl) (Steps.refl _) (a := b121) (argsL := [(.ref sv105), .null, .null, (.ref tr122)]) (rest := [(.ref b121)]) (lenOf pd_4 rfl) rfl (by show 2 * 0 + _ ≤ _; exact Nat.le_of_eq rfl) (hb hby at_126) (fun _ _ => ⟨rfl, e122q, (by decide : 4 + 4 ≤ _), (by decide : 13 + 64 ≤ _)⟩)
      dsimp only [Pt.U, Pt.locs, Pt.cells, Pt.slots] at X123 l123 y123 z123 st123 hQ123 S123w gr123
      rw [l123, y123, z123] at X123
      replace X123 : Stand p l e _ _ m _ below meth c T123 _ 8 77 := X123
      obtain ⟨rfl, N123q, K123q, fu123, ft123⟩ := hQ123
      have N123 := Fr.app N122 N123q
      refine Go.tr st123 ?_
      obtain ⟨X123r, hS123, hZ123, hown123⟩ := rebS hS0 (by rw [e122q]; exact hk121) X123 S123w gr123 hZ hown
      have Zs123 : n0 ≤ T123.heap.size := Nat.le_trans Zs121 K123q.1
      have O123 : Old Z n0 T123.heap := O121.keep K123q (allS g_b121 all0)
      have fV_b101_123 := fV_b101_121.keep K123q (ninS ne_b101_b121 nin0)
      have fE_sv105_123 := fE_sv105_121.keep K123q
      have fE_b121_123 := A121.keep K123q
      have fE_tr122_123 := et122.keep K123q
      have fF_tr122_work_123 := fw122.keep K123q (ninS (Ne.symm neb121_tr122) nin0)
      show Go p e below _ (T123.setTop (mkF m 129 #[.val (.int p1), .val (.int p2), .val (.int p3), .val (.int p4), .val (.int k), .val (.ref b101), .val (.int (0 : Int32)), .val .null, .val (.ref sv105), .unset, .unset, .unset] [(.ref b121)]))
      refine Go.via (fun _ => XS.astore X123r.here hx rfl (hb hby at_129) rfl rfl (l' := #[.val (.int p1), .val (.int p2), .val (.int p3), .val (.int p4), .val (.int k), .val (.ref b101), .val (.int (0 : Int32)), .val .null, .val (.ref sv105), .val (.ref b121), .unset, .unset]) rfl) ?_
      show Go p e below _ (T123.setTop (mkF m 131 #[.val (.int p1), .val (.int p2), .val (.int p3), .val (.int p4), .val (.int k), .val (.ref b101), .val (.int (0 : Int32)), .val .null, .val (.ref sv105), .val (.ref b121), .unset, .unset] []))
      refine Go.via (fun _ => XS.iload X123r.here hx rfl (hb hby at_131) rfl) ?_
      show Go p e below _ (T123.setTop (mkF m 133 #[.val (.int p1), .val (.int p2), .val (.int p3), .val (.int p4), .val (.int k), .val (.ref b101), .val (.int (0 : Int32)), .val .null, .val (.ref sv105), .val (.ref b121), .unset, .unset] [(.int k)]))
      refine Go.via (fun _ => XS.iconst X123r.here hx rfl (hb hby at_133)) ?_
      show Go p e below _ (T123.setTop (mkF m 134 #[.val (.int p1), .val (.int p2), .val (.int p3), .val (.int p4), .val (.int k), .val (.ref b101), .val (.int (0 : Int32)), .val .null, .val (.ref sv105), .val (.ref b121), .unset, .unset] [(.int (4 : Int32)), (.int k)]))
      refine Go.via (fun _ => XS.icmpNo X123r.here hx rfl (hb hby at_134) rfl (flt hk.2.2.1).1) ?_
      show Go p e below _ (T123.setTop (mkF m 137 #[.val (.int p1), .val (.int p2), .val (.int p3), .val (.int p4), .val (.int k), .val (.ref b101), .val (.int (0 : Int32)), .val .null, .val (.ref sv105), .val (.ref b121), .unset, .unset] []))
      refine Go.via (fun _ => XS.iload X123r.here hx rfl (hb hby at_137) rfl) ?_
      show Go p e below _ (T123.setTop (mkF m 139 #[.val (.int p1), .val (.int p2), .val (.int p3), .val (.int p4), .val (.int k), .val (.ref b101), .val (.int (0 : Int32)), .val .null, .val (.ref sv105), .val (.ref b121), .unset, .unset] [(.int k)]))
      refine Go.via (fun _ => XS.bipush X123r.here hx rfl (hb hby at_139)) ?_
      show Go p e below _ (T123.setTop (mkF m 141 #[.val (.int p1), .val (.int p2), .val (.int p3), .val (.int p4), .val (.int k), .val (.ref b101), .val (.int (0 : Int32)), .val .null, .val (.ref sv105), .val (.ref b121), .unset, .unset] [(.int (8 : Int32)), (.int k)]))
      refine Go.via (fun _ => XS.icmpNo X123r.here hx rfl (hb hby at_141) rfl (tlt hk.2.2.2.1).2.2.2) ?_
      show Go p e below _ (T123.setTop (mkF m 144 #[.val (.int p1), .val (.int p2), .val (.int p3), .val (.int p4), .val (.int k), .val (.ref b101), .val (.int (0 : Int32)), .val .null, .val (.ref sv105), .val (.ref b121), .unset, .unset] []))
      refine Go.via (fun _ => XS.iload X123r.here hx rfl (hb hby at_144) rfl) ?_
      show Go p e below _ (T123.setTop (mkF m 146 #[.val (.int p1), .val (.int p2), .val (.int p3), .val (.int p4), .val (.int k), .val (.ref b101), .val (.int (0 : Int32)), .val .null, .val (.ref sv105), .val (.ref b121), .unset, .unset] [(.int k)]))
      refine Go.via (fun _ => XS.bipush X123r.here hx rfl (hb hby at_146)) ?_
      show Go p e below _ (T123.setTop (mkF m 148 #[.val (.int p1), .val (.int p2), .val (.int p3), .val (.int p4), .val (.int k), .val (.ref b101), .val (.int (0 : Int32)), .val .null, .val (.ref sv105), .val (.ref b121), .unset, .unset] [(.int (12 : Int32)), (.int k)]))
      refine Go.via (fun _ => XS.icmpYes X123r.here hx rfl (pc0 := 148) (pc' := 155) rfl (hb hby at_148) rfl (tlt hk.2.2.2.2).1 (by decide) (by decide)) ?_
      show Go p e below _ (T123.setTop (mkF m 155 #[.val (.int p1), .val (.int p2), .val (.int p3), .val (.int p4), .val (.int k), .val (.ref b101), .val (.int (0 : Int32)), .val .null, .val (.ref sv105), .val (.ref b121), .unset, .unset] []))
      refine Go.via (fun _ => XS.iconst X123r.here hx rfl (hb hby at_155)) ?_
      show Go p e below _ (T123.setTop (mkF m 156 #[.val (.int p1), .val (.int p2), .val (.int p3), .val (.int p4), .val (.int k), .val (.ref b101), .val (.int (0 : Int32)), .val .null, .val (.ref sv105), .val (.ref b121), .unset, .unset] [(.int (0 : Int32))]))
      refine Go.via (fun _ => XS.istore X123r.here hx rfl (hb hby at_156) rfl (l' := #[.val (.int p1), .val (.int p2), .val (.int p3), .val (.int p4), .val (.int k), .val (.ref b101), .val (.int (0 : Int32)), .val .null, .val (.ref sv105), .val (.ref b121), .val (.int (0 : Int32)), .unset]) rfl) ?_
      show Go p e below _ (T123.setTop (mkF m 158 #[.val (.int p1), .val (.int p2), .val (.int p3), .val (.int p4), .val (.int k), .val (.ref b101), .val (.int (0 : Int32)), .val .null, .val (.ref sv105), .val (.ref b121), .val (.int (0 : Int32)), .unset] []))
      refine Go.via (fun _ => XS.aload X123r.here hx rfl (hb hby at_158) rfl rfl) ?_
      show Go p e below _ (T123.setTop (mkF m 160 #[.val (.int p1), .val (.int p2), .val (.int p3), .val (.int p4), .val (.int k), .val (.ref b101), .val (.int (0 : Int32)), .val .null, .val (.ref sv105), .val (.ref b121), .val (.int (0 : Int32)), .unset] [(.ref b121)]))
      obtain ⟨cq124, kq124, q124a, q124b, q124c⟩ := isOf hZ123 rfl fE_b121_123
      obtain ⟨_, _, ⟨T124, L124, k124, n124⟩, -, X124, ⟨Lc124, hQ124, l124, y124, z124⟩, st124⟩ := X123r.virtualBack hx (y := (⟨"com/example/permits_from_duties/permitsfromduties/Event", "performer", "()Ljava/lang/String;"⟩ : MethodName)) (z := (⟨"com/example/permits_from_duties/permitsfromduties/Event", "performer", "()Ljava/lang/String;"⟩ : MethodName)) hown123 (mvT hZ123 (hw _ (List.mem_of_getElem? (i := 76) rfl))) (mvT hZ123 (hw _ (List.mem_of_getElem? (i := 77) rfl))) (notFace_of_selects (args := #[]) (mvT hZ123 (hw _ (List.mem_of_getElem? (i := 79) rfl)))) (mvT hZ123 (hw _ (List.mem_of_getElem? (i := 79) rfl))) (mvT hZ123 (hw _ (List.mem_of_getElem? (i := 78) rfl))) (by decide) (backOf (W := 0) (rmPf_0N l Z a0 hw [] b121 tr122  T123.heap n0 Zs123 fE_b121_123 ft123 fE_tr122_123 fF_tr122_work_123 fu123) hZ123 (hw _ (List.mem_of_getElem? (i := 80) rfl)) (hw _ (List.mem_of_getElem? (i := 30) rfl)) (by decide) (by decide)) q124a q124c (g := (mkF m 160 #[.val (.int p1), .val (.int p2), .val (.int p3), .val (.int p4), .val (.int k), .val (.ref b101), .val (.int (0 : Int32)), .val .null, .val (.ref sv105), .val (.ref b121), .val (.int (0 : Int32)), .unset] [(.ref b121)])) rfl (by rw [hml]; rfl) (Steps.refl _) (argsL := []) (rest := []) (lenOf pd_12 rfl) rfl (by show 2 * 0 + _ ≤ _; exact Nat.le_of_eq rfl) (hb hby at_160) (fun _ _ => ⟨rfl, rfl, (by decide : 8 + 0 ≤ _), (by decide : 77 + 0 ≤ _)⟩)
      dsimp only [Pt.U, Pt.locs, Pt.cells, Pt.slots] at X124 l124 y124 z124 st124 hQ124
      rw [l124, y124, z124] at X124
      replace X124 : Stand p l e _ _ m _ below meth c T124 _ 8 77 := X124
      obtain ⟨rfl, N124q, e124q⟩ := hQ124
      have N124 := Fr.app N123 N124q
      refine Go.tr st124 ?_
      show Go p e below _ (T124.setTop (mkF m 163 #[.val (.int p1), .val (.int p2), .val (.int p3), .val (.int p4), .val (.int k), .val (.ref b101), .val (.int (0 : Int32)), .val .null, .val (.ref sv105), .val (.ref b121), .val (.int (0 : Int32)), .unset] [.null]))
      refine Go.via (fun _ => XS.astore X124.here hx rfl (hb hby at_163) rfl rfl (l' := #[.val (.int p1), .val (.int p2), .val (.int p3), .val (.int p4), .val (.int k), .val (.ref b101), .val (.int (0 : Int32)), .val .null, .val (.ref sv105), .val (.ref b121), .val (.int (0 : Int32)), .val .null]) rfl) ?_
      show Go p e below _ (T124.setTop (mkF m 165 #[.val (.int p1), .val (.int p2), .val (.int p3), .val (.int p4), .val (.int k), .val (.ref b101), .val (.int (0 : Int32)), .val .null, .val (.ref sv105), .val (.ref b121), .val (.int (0 : Int32)), .val .null] []))
      refine Go.via (fun _ => XS.iload X124.here hx rfl (hb hby at_165) rfl) ?_
      show Go p e below _ (T124.setTop (mkF m 167 #[.val (.int p1), .val (.int p2), .val (.int p3), .val (.int p4), .val (.int k), .val (.ref b101), .val (.int (0 : Int32)), .val .null, .val (.ref sv105), .val (.ref b121), .val (.int (0 : Int32)), .val .null] [(.int (0 : Int32))]))
      refine Go.via (fun _ => XS.ifYes X124.here hx rfl (pc0 := 167) (pc' := 183) rfl (hb hby at_167) rfl (by decide) (by decide) (by decide)) ?_
      show Go p e below _ (T124.setTop (mkF m 183 #[.val (.int p1), .val (.int p2), .val (.int p3), .val (.int p4), .val (.int k), .val (.ref b101), .val (.int (0 : Int32)), .val .null, .val (.ref sv105), .val (.ref b121), .val (.int (0 : Int32)), .val .null] []))
      refine Go.via (fun _ => XS.aload X124.here hx rfl (hb hby at_183) rfl rfl) ?_
      show Go p e below _ (T124.setTop (mkF m 185 #[.val (.int p1), .val (.int p2), .val (.int p3), .val (.int p4), .val (.int k), .val (.ref b101), .val (.int (0 : Int32)), .val .null, .val (.ref sv105), .val (.ref b121), .val (.int (0 : Int32)), .val .null] [.null]))
      refine Go.via (fun _ => XS.ifnonnullNo X124.here hx rfl (hb hby at_185) rfl) ?_
      show Go p e below _ (T124.setTop (mkF m 188 #[.val (.int p1), .val (.int p2), .val (.int p3), .val (.int p4), .val (.int k), .val (.ref b101), .val (.int (0 : Int32)), .val .null, .val (.ref sv105), .val (.ref b121), .val (.int (0 : Int32)), .val .null] []))
      refine Go.via (fun _ => XS.iconst X124.here hx rfl (hb hby at_188)) ?_
      show Go p e below _ (T124.setTop (mkF m 189 #[.val (.int p1), .val (.int p2), .val (.int p3), .val (.int p4), .val (.int k), .val (.ref b101), .val (.int (0 : Int32)), .val .null, .val (.ref sv105), .val (.ref b121), .val (.int (0 : Int32)), .val .null] [(.int (1 : Int32))]))
      refine Go.via (fun _ => XS.goto X124.here hx rfl (pc0 := 189) (pc' := 193) rfl (hb hby at_189) (by decide) (by decide)) ?_
      show Go p e below _ (T124.setTop (mkF m 193 #[.val (.int p1), .val (.int p2), .val (.int p3), .val (.int p4), .val (.int k), .val (.ref b101), .val (.int (0 : Int32)), .val .null, .val (.ref sv105), .val (.ref b121), .val (.int (0 : Int32)), .val .null] [(.int (1 : Int32))]))
      exact own_retNW X124 hS123 (by rw [e124q]; exact (Nat.le_refl _)) hx hlk (t := .boolean) Bd.returns (by simp) (hb hby at_193) (by show Q0 Z p1 p2 p3 p4 ccs w_SCHEDULE w_ASSIGN w_REASSIGN w_WITHDRAW w_START w_SUSPEND w_RESUME w_COMPLETE w_ATE_ABORT w_PI_ABORT w_MANUALSKIP w_AUTOSKIP w_UNKNOWN em h0 n0 _ T124.heap _; rw [e124q]; exact ⟨rfl, N124⟩) (by decide) (by decide)
  · -- no
    show Go p e below _ (T103.setTop (mkF m 42 #[.val (.int p1), .val (.int p2), .val (.int p3), .val (.int p4), .val (.int k), .val (.ref b101), .val (.int um), .unset, .unset, .unset, .unset, .unset] [(.int um)]))
    show Go p e below _ (T103.setTop (mkF m 42 #[.val (.int p1), .val (.int p2), .val (.int p3), .val (.int p4), .val (.int k), .val (.ref b101), .val (.int um), .unset, .unset, .unset, .unset, .unset] [(.int um)]))
    refine Go.via (fun _ => XS.ifYes X103.here hx rfl (pc0 := 42) (pc' := 51) rfl (hb hby at_42) rfl ((if0 _ _).trans (feq hc104).2) (by decide) (by decide)) ?_
    show Go p e below _ (T103.setTop (mkF m 51 #[.val (.int p1), .val (.int p2), .val (.int p3), .val (.int p4), .val (.int k), .val (.ref b101), .val (.int um), .unset, .unset, .unset, .unset, .unset] []))
    refine Go.via (fun _ => XS.iload X103.here hx rfl (hb hby at_51) rfl) ?_
    show Go p e below _ (T103.setTop (mkF m 53 #[.val (.int p1), .val (.int p2), .val (.int p3), .val (.int p4), .val (.int k), .val (.ref b101), .val (.int um), .unset, .unset, .unset, .unset, .unset] [(.int um)]))
    refine Go.via (fun _ => XS.iconst X103.here hx rfl (hb hby at_53)) ?_
    show Go p e below _ (T103.setTop (mkF m 54 #[.val (.int p1), .val (.int p2), .val (.int p3), .val (.int p4), .val (.int k), .val (.ref b101), .val (.int um), .unset, .unset, .unset, .unset, .unset] [(.int (1 : Int32)), (.int um)]))
    by_cases hc125 : um = (1 : Int32)
    · -- yes
      subst hc125
      show Go p e below _ (T103.setTop (mkF m 54 #[.val (.int p1), .val (.int p2), .val (.int p3), .val (.int p4), .val (.int k), .val (.ref b101), .val (.int (1 : Int32)), .unset, .unset, .unset, .unset, .unset] [(.int (1 : Int32)), (.int (1 : Int32))]))
      show Go p e below _ (T103.setTop (mkF m 54 #[.val (.int p1), .val (.int p2), .val (.int p3), .val (.int p4), .val (.int k), .val (.ref b101), .val (.int (1 : Int32)), .unset, .unset, .unset, .unset, .unset] [(.int (1 : Int32)), (.int (1 : Int32))]))
      refine Go.via (fun _ => XS.icmpNo X103.here hx rfl (hb hby at_54) rfl (by decide)) ?_
      show Go p e below _ (T103.setTop (mkF m 57 #[.val (.int p1), .val (.int p2), .val (.int p3), .val (.int p4), .val (.int k), .val (.ref b101), .val (.int (1 : Int32)), .unset, .unset, .unset, .unset, .unset] []))
      have wS126 : ∀ d ∈ Bundle.stringAtoms, d.before a0 Z = true := fun d hd => hw d (by simpa using (List.all_eq_true.mp (by decide +kernel : (Bundle.stringAtoms.all fun d => tables_1.contains d) = true)) d hd)
      obtain ⟨s126, T126, h126, kk126, X126, e126, E126, hS126, hk126, hZ126, hown126, st126⟩ := ldcS X103 hx hZ hown (hw _ (List.mem_of_getElem? (i := 95) rfl)) wS126 e103 hS0 hk103 (g := (mkF m 57 #[.val (.int p1), .val (.int p2), .val (.int p3), .val (.int p4), .val (.int k), .val (.ref b101), .val (.int (1 : Int32)), .unset, .unset, .unset, .unset, .unset] [])) rfl (hb hby at_57) (n := 0) (by decide +kernel) (by decide) (by decide) (by decide)
      refine Go.via st126 ?_
      have Zs126 : n0 ≤ h126.size := Nat.le_trans Zs103 E126.1
      have O126 : Old Z n0 h126 := O103.ext E126
      have fV_b101_126 := V103.ext E126
      show Go p e below _ (T126.setTop (mkF m 59 #[.val (.int p1), .val (.int p2), .val (.int p3), .val (.int p4), .val (.int k), .val (.ref b101), .val (.int (1 : Int32)), .unset, .unset, .unset, .unset, .unset] [(.ref s126)]))
      refine Go.via (fun _ => XS.astore X126.here hx rfl (hb hby at_59) rfl rfl (l' := #[.val (.int p1), .val (.int p2), .val (.int p3), .val (.int p4), .val (.int k), .val (.ref b101), .val (.int (1 : Int32)), .val (.ref s126), .unset, .unset, .unset, .unset]) rfl) ?_
      show Go p e below _ (T126.setTop (mkF m 61 #[.val (.int p1), .val (.int p2), .val (.int p3), .val (.int p4), .val (.int k), .val (.ref b101), .val (.int (1 : Int32)), .val (.ref s126), .unset, .unset, .unset, .unset] []))
      refine Go.via (fun _ => XS.goto X126.here hx rfl (pc0 := 61) (pc' := 75) rfl (hb hby at_61) (by decide) (by decide)) ?_
      show Go p e below _ (T126.setTop (mkF m 75 #[.val (.int p1), .val (.int p2), .val (.int p3), .val (.int p4), .val (.int k), .val (.ref b101), .val (.int (1 : Int32)), .val (.ref s126), .unset, .unset, .unset, .unset] []))
      refine Go.via (fun _ => XS.iloadN X126.here hx rfl (hb hby at_75) rfl) ?_
      show Go p e below _ (T126.setTop (mkF m 76 #[.val (.int p1), .val (.int p2), .val (.int p3), .val (.int p4), .val (.int k), .val (.ref b101), .val (.int (1 : Int32)), .val (.ref s126), .unset, .unset, .unset, .unset] [(.int p2)]))
      refine Go.via (fun _ => XS.bipush X126.here hx rfl (hb hby at_76)) ?_
      show Go p e below _ (T126.setTop (mkF m 78 #[.val (.int p1), .val (.int p2), .val (.int p3), .val (.int p4), .val (.int k), .val (.ref b101), .val (.int (1 : Int32)), .val (.ref s126), .unset, .unset, .unset, .unset] [(.int (8 : Int32)), (.int p2)]))
      refine Go.via (fun _ => XS.iushr X126.here hx rfl (hb hby at_78) rfl) ?_
      show Go p e below _ (T126.setTop (mkF m 79 #[.val (.int p1), .val (.int p2), .val (.int p3), .val (.int p4), .val (.int k), .val (.ref b101), .val (.int (1 : Int32)), .val (.ref s126), .unset, .unset, .unset, .unset] [(.int ((p2.toUInt32 >>> ((8 : Int32) &&& 31).toUInt32).toInt32))]))
      refine Go.via (fun _ => XS.sipush X126.here hx rfl (hb hby at_79)) ?_
      show Go p e below _ (T126.setTop (mkF m 82 #[.val (.int p1), .val (.int p2), .val (.int p3), .val (.int p4), .val (.int k), .val (.ref b101), .val (.int (1 : Int32)), .val (.ref s126), .unset, .unset, .unset, .unset] [(.int (255 : Int32)), (.int ((p2.toUInt32 >>> ((8 : Int32) &&& 31).toUInt32).toInt32))]))
      refine Go.via (fun _ => XS.iand X126.here hx rfl (hb hby at_82) rfl) ?_
      show Go p e below _ (T126.setTop (mkF m 83 #[.val (.int p1), .val (.int p2), .val (.int p3), .val (.int p4), .val (.int k), .val (.ref b101), .val (.int (1 : Int32)), .val (.ref s126), .unset, .unset, .unset, .unset] [(.int (((p2.toUInt32 >>> ((8 : Int32) &&& 31).toUInt32).toInt32) &&& (255 : Int32)))]))
      refine Go.via (fun _ => XS.i2c X126.here hx rfl (hb hby at_83) rfl) ?_
      show Go p e below _ (T126.setTop (mkF m 84 #[.val (.int p1), .val (.int p2), .val (.int p3), .val (.int p4), .val (.int k), .val (.ref b101), .val (.int (1 : Int32)), .val (.ref s126), .unset, .unset, .unset, .unset] [(.int ((((p2.toUInt32 >>> ((8 : Int32) &&& 31).toUInt32).toInt32) &&& (255 : Int32)).toUInt32.toUInt16.toUInt32.toInt32))]))
      obtain ⟨_, _, ⟨T127, L127, k127, n127⟩, -, X127, ⟨Lc127, hQ127, l127, y127, z127⟩, st127⟩ := Jvm.LawKit.callS X126 hx (y := (⟨"java/lang/String", "valueOf", "(C)Ljava/lang/String;"⟩ : MethodName)) hown126 (mvT hZ126 (hw _ (List.mem_of_getElem? (i := 2) rfl))) (mvT hZ126 (hw _ (List.mem_of_getElem? (i := 3) rfl))) (mvT hZ126 (hw _ (List.mem_of_getElem? (i := 4) rfl))) (mvT hZ126 (hw _ (List.mem_of_getElem? (i := 5) rfl))) (by decide) (backOf (W := 0) (rmVO l Z a0 hw [] ((((p2.toUInt32 >>> ((8 : Int32) &&& 31).toUInt32).toInt32) &&& (255 : Int32)).toUInt32.toUInt16.toUInt32.toInt32) ccs h126 n0 Zs126 O126 S_CS hcs (own_and255 ((p2.toUInt32 >>> ((8 : Int32) &&& 31).toUInt32).toInt32)).2) hZ126 (hw _ (List.mem_of_getElem? (i := 5) rfl)) (hw _ (List.mem_of_getElem? (i := 4) rfl)) (by decide) (by decide)) (g := (mkF m 84 #[.val (.int p1), .val (.int p2), .val (.int p3), .val (.int p4), .val (.int k), .val (.ref b101), .val (.int (1 : Int32)), .val (.ref s126), .unset, .unset, .unset, .unset] [(.int ((((p2.toUInt32 >>> ((8 : Int32) &&& 31).toUInt32).toInt32) &&& (255 : Int32)).toUInt32.toUInt16.toUInt32.toInt32))])) rfl (by rw [hml]; rfl) (argsL := [(.int ((((p2.toUInt32 >>> ((8 : Int32) &&& 31).toUInt32).toInt32) &&& (255 : Int32)).toUInt32.toUInt16.toUInt32.toInt32))]) (rest := []) (lenOf pd_10 rfl) rfl (by show 2 * 0 + _ ≤ _; exact Nat.le_of_eq rfl) (hb hby at_84) (fun _ _ => ⟨rfl, e126, (by decide : 3 + 2 ≤ _), (by decide : 6 + 5 ≤ _)⟩)
      dsimp only [Pt.U, Pt.locs, Pt.cells, Pt.slots] at X127 l127 y127 z127 st127 hQ127
      rw [l127, y127, z127] at X127
      replace X127 : Stand p l e _ _ m _ below meth c T127 _ 5 11 := X127
      obtain ⟨sv127, rfl, N127q, K127q, gv127, ev127⟩ := hQ127
      have N127 := Fr.app N103 N127q
      refine Go.via st127 ?_
      have Zs127 : n0 ≤ T127.heap.size := Nat.le_trans Zs126 K127q.1
      have hk127 : kk126 ≤ T127.heap.size := Nat.le_trans hk126 K127q.1
      have O127 : Old Z n0 T127.heap := O126.keep K127q all0
      have fV_b101_127 := fV_b101_126.keep K127q nin0
      have g_sv127 : n0 ≤ sv127 := Nat.le_trans Zs126 gv127
      have ne_b101_sv127 : b101 ≠ sv127 := Nat.ne_of_lt (Nat.lt_of_lt_of_le fV_b101_126.lt gv127)
      show Go p e below _ (T127.setTop (mkF m 87 #[.val (.int p1), .val (.int p2), .val (.int p3), .val (.int p4), .val (.int k), .val (.ref b101), .val (.int (1 : Int32)), .val (.ref s126), .unset, .unset, .unset, .unset] [(.ref sv127)]))
      refine Go.via (fun _ => XS.astore X127.here hx rfl (hb hby at_87) rfl rfl (l' := #[.val (.int p1), .val (.int p2), .val (.int p3), .val (.int p4), .val (.int k), .val (.ref b101), .val (.int (1 : Int32)), .val (.ref s126), .val (.ref sv127), .unset, .unset, .unset]) rfl) ?_
      show Go p e below _ (T127.setTop (mkF m 89 #[.val (.int p1), .val (.int p2), .val (.int p3), .val (.int p4), .val (.int k), .val (.ref b101), .val (.int (1 : Int32)), .val (.ref s126), .val (.ref sv127), .unset, .unset, .unset] []))
      rcases hk with rfl | rfl | hk | hk | hk
      ·
        show Go p e below _ (T127.setTop (mkF m 89 #[.val (.int p1), .val (.int p2), .val (.int p3), .val (.int p4), .val (.int (13 : Int32)), .val (.ref b101), .val (.int (1 : Int32)), .val (.ref s126), .val (.ref sv127), .unset, .unset, .unset] []))
        refine Go.via (fun _ => XS.iload X127.here hx rfl (hb hby at_89) rfl) ?_
        show Go p e below _ (T127.setTop (mkF m 91 #[.val (.int p1), .val (.int p2), .val (.int p3), .val (.int p4), .val (.int (13 : Int32)), .val (.ref b101), .val (.int (1 : Int32)), .val (.ref s126), .val (.ref sv127), .unset, .unset, .unset] [(.int (13 : Int32))]))
        refine Go.via (fun _ => XS.bipush X127.here hx rfl (hb hby at_91)) ?_
        show Go p e below _ (T127.setTop (mkF m 93 #[.val (.int p1), .val (.int p2), .val (.int p3), .val (.int p4), .val (.int (13 : Int32)), .val (.ref b101), .val (.int (1 : Int32)), .val (.ref s126), .val (.ref sv127), .unset, .unset, .unset] [(.int (13 : Int32)), (.int (13 : Int32))]))
        refine Go.via (fun _ => XS.icmpNo X127.here hx rfl (hb hby at_93) rfl (by decide)) ?_
        show Go p e below _ (T127.setTop (mkF m 96 #[.val (.int p1), .val (.int p2), .val (.int p3), .val (.int p4), .val (.int (13 : Int32)), .val (.ref b101), .val (.int (1 : Int32)), .val (.ref s126), .val (.ref sv127), .unset, .unset, .unset] []))
        obtain ⟨T128, h128, X128, e128, E128, A128, D128, -, st128⟩ := newO X127 hx hZ126 hown126 (hw _ (List.mem_of_getElem? (i := 28) rfl)) (hw _ (List.mem_of_getElem? (i := 29) rfl)) (hw _ (List.mem_of_getElem? (i := 30) rfl)) rfl (g := (mkF m 96 #[.val (.int p1), .val (.int p2), .val (.int p3), .val (.int p4), .val (.int (13 : Int32)), .val (.ref b101), .val (.int (1 : Int32)), .val (.ref s126), .val (.ref sv127), .unset, .unset, .unset] [])) rfl (hb hby at_96) (by decide) (by decide)
        obtain ⟨b128, g128⟩ : ∃ z, z = T127.heap.size := ⟨_, rfl⟩
        rw [← g128] at A128 D128 st128
        have g_b128 : n0 ≤ b128 := Nat.le_trans Zs127 (Nat.le_of_eq g128.symm)
        have ne_b101_b128 : b101 ≠ b128 := Nat.ne_of_lt (Nat.lt_of_lt_of_le fV_b101_127.lt (Nat.le_of_eq g128.symm))
        have ne_sv127_b128 : sv127 ≠ b128 := Nat.ne_of_lt (Nat.lt_of_lt_of_le ev127.lt (Nat.le_of_eq g128.symm))
        refine Go.via st128 ?_
        have Zs128 : n0 ≤ h128.size := Nat.le_trans Zs127 E128.1
        have hk128 : kk126 ≤ h128.size := Nat.le_trans hk127 E128.1
        have O128 : Old Z n0 h128 := O127.ext E128
        have fV_b101_128 := fV_b101_127.ext E128
        have fE_sv127_128 := ev127.ext E128
        have F_task_b128 : Fld Z h128 b128 "com/example/permits_from_duties/permitsfromduties/Event" "task" "Ljava/lang/String;" .null := D128 (Or.inr (hw _ (List.mem_of_getElem? (i := 65) rfl))) (ty := (.object "java/lang/String")) (by decide)
        have F_user_b128 : Fld Z h128 b128 "com/example/permits_from_duties/permitsfromduties/Event" "user" "Ljava/lang/String;" .null := D128 (Or.inr (hw _ (List.mem_of_getElem? (i := 67) rfl))) (ty := (.object "java/lang/String")) (by decide)
        have F_time_b128 : Fld Z h128 b128 "com/example/permits_from_duties/permitsfromduties/Event" "time" "Ljava/time/Instant;" .null := D128 (Or.inr (hw _ (List.mem_of_getElem? (i := 69) rfl))) (ty := (.object "java/time/Instant")) (by decide)
        have F_transition_b128 : Fld Z h128 b128 "com/example/permits_from_duties/permitsfromduties/Event" "transition" "Lcom/example/permits_from_duties/permitsfromduties/Event$Transition;" .null := D128 (Or.inr (hw _ (List.mem_of_getElem? (i := 71) rfl))) (ty := (.object "com/example/permits_from_duties/permitsfromduties/Event$Transition")) (by decide)
        have F_location_b128 : Fld Z h128 b128 "com/example/permits_from_duties/permitsfromduties/Event" "location" "Ljava/lang/String;" .null := D128 (Or.inr (hw _ (List.mem_of_getElem? (i := 73) rfl))) (ty := (.object "java/lang/String")) (by decide)
        have F_data_b128 : Fld Z h128 b128 "com/example/permits_from_duties/permitsfromduties/Event" "data" "Ljava/util/Map;" .null := D128 (Or.inr (hw _ (List.mem_of_getElem? (i := 75) rfl))) (ty := (.object "java/util/Map")) (by decide)
        show Go p e below _ (T128.setTop (mkF m 99 #[.val (.int p1), .val (.int p2), .val (.int p3), .val (.int p4), .val (.int (13 : Int32)), .val (.ref b101), .val (.int (1 : Int32)), .val (.ref s126), .val (.ref sv127), .unset, .unset, .unset] [(.ref b128)]))
        refine Go.via (fun _ => XS.dup X128.here hx rfl (hb hby at_99) rfl rfl) ?_
        show Go p e below _ (T128.setTop (mkF m 100 #[.val (.int p1), .val (.int p2), .val (.int p3), .val (.int p4), .val (.int (13 : Int32)), .val (.ref b101), .val (.int (1 : Int32)), .val (.ref s126), .val (.ref sv127), .unset, .unset, .unset] [(.ref b128), (.ref b128)]))
        refine Go.via (fun _ => XS.aload X128.here hx rfl (hb hby at_100) rfl rfl) ?_
        show Go p e below _ (T128.setTop (mkF m 102 #[.val (.int p1), .val (.int p2), .val (.int p3), .val (.int p4), .val (.int (13 : Int32)), .val (.ref b101), .val (.int (1 : Int32)), .val (.ref s126), .val (.ref sv127), .unset, .unset, .unset] [(.ref sv127), (.ref b128), (.ref b128)]))
        refine Go.via (fun _ => XS.aload X128.here hx rfl (hb hby at_102) rfl rfl) ?_
        show Go p e below _ (T128.setTop (mkF m 104 #[.val (.int p1), .val (.int p2), .val (.int p3), .val (.int p4), .val (.int (13 : Int32)), .val (.ref b101), .val (.int (1 : Int32)), .val (.ref s126), .val (.ref sv127), .unset, .unset, .unset] [(.ref s126), (.ref sv127), (.ref b128), (.ref b128)]))
        have etUb128 := E_UNKNOWN.ext O128.2
        have fwUb128 := F_UNKNOWN.ext O128.2
        have neUb128 : b128 ≠ w_UNKNOWN := Ne.symm (O128.ne E_UNKNOWN.lt g_b128)
        obtain ⟨_, _, ⟨T129, L129, k129, n129⟩, -, X129, S129w, gr129, ⟨Lc129, hQ129, l129, y129, z129⟩, st129⟩ := X128.specialBackS hx (y := (⟨"com/example/permits_from_duties/permitsfromduties/Event", "<init>", "(Ljava/lang/String;Ljava/lang/String;)V"⟩ : MethodName)) rfl hown126 (mvT hZ126 (hw _ (List.mem_of_getElem? (i := 129) rfl))) (mvT hZ126 (hw _ (List.mem_of_getElem? (i := 130) rfl))) (mvT hZ126 (hw _ (List.mem_of_getElem? (i := 131) rfl))) (by decide) (backOfS (W := 1) (rmC2R l Z a0 hw [] b128 sv127 s126 w_UNKNOWN em h128 n0 Zs128 A128 F_task_b128 F_user_b128 F_time_b128 F_transition_b128 F_location_b128 F_data_b128 g_b128 O128 S_EM S_UNKNOWN) hZ126 (hw _ (List.mem_of_getElem? (i := 131) rfl)) (hw _ (List.mem_of_getElem? (i := 30) rfl)) (by decide) (by decide)) (g := (mkF m 104 #[.val (.int p1), .val (.int p2), .val (.int p3), .val (.int p4), .val (.int (13 : Int32)), .val (.ref b101), .val (.int (1 : Int32)), .val (.ref s126), .val (.ref sv127), .unset, .unset, .unset] [(.ref s126), (.ref sv127), (.ref b128), (.ref b128)])) rfl (by rw [hml]; rfl) (Steps.refl _) (a := b128) (argsL := [(.ref sv127), (.ref s126)]) (rest := [(.ref b128)]) (lenOf pd_11 rfl) rfl (by show 2 * 0 + _ ≤ _; exact Nat.le_of_eq rfl) (hb hby at_104) (fun _ _ => ⟨rfl, e128, (by decide : 6 + 4 ≤ _), (by decide : 17 + 64 ≤ _)⟩)
        dsimp only [Pt.U, Pt.locs, Pt.cells, Pt.slots] at X129 l129 y129 z129 st129 hQ129 S129w gr129
        rw [l129, y129, z129] at X129
        replace X129 : Stand p l e _ _ m _ below meth c T129 _ 10 81 := X129
        obtain ⟨rfl, N129q, K129q, fu129, ft129⟩ := hQ129
        have N129 := Fr.app N127 N129q
        refine Go.tr st129 ?_
        obtain ⟨X129r, hS129, hZ129, hown129⟩ := rebS hS126 (by rw [e128]; exact hk128) X129 S129w gr129 hZ126 hown126
        have Zs129 : n0 ≤ T129.heap.size := Nat.le_trans Zs128 K129q.1
        have O129 : Old Z n0 T129.heap := O128.keep K129q (allS g_b128 all0)
        have fV_b101_129 := fV_b101_128.keep K129q (ninS ne_b101_b128 nin0)
        have fE_sv127_129 := fE_sv127_128.keep K129q
        have fE_b128_129 := A128.keep K129q
        have fE_w_UNKNOWN_129 := etUb128.keep K129q
        have fF_w_UNKNOWN_work_129 := fwUb128.keep K129q (ninS (Ne.symm neUb128) nin0)
        show Go p e below _ (T129.setTop (mkF m 107 #[.val (.int p1), .val (.int p2), .val (.int p3), .val (.int p4), .val (.int (13 : Int32)), .val (.ref b101), .val (.int (1 : Int32)), .val (.ref s126), .val (.ref sv127), .unset, .unset, .unset] [(.ref b128)]))
        refine Go.via (fun _ => XS.astore X129r.here hx rfl (hb hby at_107) rfl rfl (l' := #[.val (.int p1), .val (.int p2), .val (.int p3), .val (.int p4), .val (.int (13 : Int32)), .val (.ref b101), .val (.int (1 : Int32)), .val (.ref s126), .val (.ref sv127), .val (.ref b128), .unset, .unset]) rfl) ?_
        show Go p e below _ (T129.setTop (mkF m 109 #[.val (.int p1), .val (.int p2), .val (.int p3), .val (.int p4), .val (.int (13 : Int32)), .val (.ref b101), .val (.int (1 : Int32)), .val (.ref s126), .val (.ref sv127), .val (.ref b128), .unset, .unset] []))
        refine Go.via (fun _ => XS.goto X129r.here hx rfl (pc0 := 109) (pc' := 131) rfl (hb hby at_109) (by decide) (by decide)) ?_
        show Go p e below _ (T129.setTop (mkF m 131 #[.val (.int p1), .val (.int p2), .val (.int p3), .val (.int p4), .val (.int (13 : Int32)), .val (.ref b101), .val (.int (1 : Int32)), .val (.ref s126), .val (.ref sv127), .val (.ref b128), .unset, .unset] []))
        refine Go.via (fun _ => XS.iload X129r.here hx rfl (hb hby at_131) rfl) ?_
        show Go p e below _ (T129.setTop (mkF m 133 #[.val (.int p1), .val (.int p2), .val (.int p3), .val (.int p4), .val (.int (13 : Int32)), .val (.ref b101), .val (.int (1 : Int32)), .val (.ref s126), .val (.ref sv127), .val (.ref b128), .unset, .unset] [(.int (13 : Int32))]))
        refine Go.via (fun _ => XS.iconst X129r.here hx rfl (hb hby at_133)) ?_
        show Go p e below _ (T129.setTop (mkF m 134 #[.val (.int p1), .val (.int p2), .val (.int p3), .val (.int p4), .val (.int (13 : Int32)), .val (.ref b101), .val (.int (1 : Int32)), .val (.ref s126), .val (.ref sv127), .val (.ref b128), .unset, .unset] [(.int (4 : Int32)), (.int (13 : Int32))]))
        refine Go.via (fun _ => XS.icmpNo X129r.here hx rfl (hb hby at_134) rfl (by decide)) ?_
        show Go p e below _ (T129.setTop (mkF m 137 #[.val (.int p1), .val (.int p2), .val (.int p3), .val (.int p4), .val (.int (13 : Int32)), .val (.ref b101), .val (.int (1 : Int32)), .val (.ref s126), .val (.ref sv127), .val (.ref b128), .unset, .unset] []))
        refine Go.via (fun _ => XS.iload X129r.here hx rfl (hb hby at_137) rfl) ?_
        show Go p e below _ (T129.setTop (mkF m 139 #[.val (.int p1), .val (.int p2), .val (.int p3), .val (.int p4), .val (.int (13 : Int32)), .val (.ref b101), .val (.int (1 : Int32)), .val (.ref s126), .val (.ref sv127), .val (.ref b128), .unset, .unset] [(.int (13 : Int32))]))
        refine Go.via (fun _ => XS.bipush X129r.here hx rfl (hb hby at_139)) ?_
        show Go p e below _ (T129.setTop (mkF m 141 #[.val (.int p1), .val (.int p2), .val (.int p3), .val (.int p4), .val (.int (13 : Int32)), .val (.ref b101), .val (.int (1 : Int32)), .val (.ref s126), .val (.ref sv127), .val (.ref b128), .unset, .unset] [(.int (8 : Int32)), (.int (13 : Int32))]))
        refine Go.via (fun _ => XS.icmpNo X129r.here hx rfl (hb hby at_141) rfl (by decide)) ?_
        show Go p e below _ (T129.setTop (mkF m 144 #[.val (.int p1), .val (.int p2), .val (.int p3), .val (.int p4), .val (.int (13 : Int32)), .val (.ref b101), .val (.int (1 : Int32)), .val (.ref s126), .val (.ref sv127), .val (.ref b128), .unset, .unset] []))
        refine Go.via (fun _ => XS.iload X129r.here hx rfl (hb hby at_144) rfl) ?_
        show Go p e below _ (T129.setTop (mkF m 146 #[.val (.int p1), .val (.int p2), .val (.int p3), .val (.int p4), .val (.int (13 : Int32)), .val (.ref b101), .val (.int (1 : Int32)), .val (.ref s126), .val (.ref sv127), .val (.ref b128), .unset, .unset] [(.int (13 : Int32))]))
        refine Go.via (fun _ => XS.bipush X129r.here hx rfl (hb hby at_146)) ?_
        show Go p e below _ (T129.setTop (mkF m 148 #[.val (.int p1), .val (.int p2), .val (.int p3), .val (.int p4), .val (.int (13 : Int32)), .val (.ref b101), .val (.int (1 : Int32)), .val (.ref s126), .val (.ref sv127), .val (.ref b128), .unset, .unset] [(.int (12 : Int32)), (.int (13 : Int32))]))
        refine Go.via (fun _ => XS.icmpNo X129r.here hx rfl (hb hby at_148) rfl (by decide)) ?_
        show Go p e below _ (T129.setTop (mkF m 151 #[.val (.int p1), .val (.int p2), .val (.int p3), .val (.int p4), .val (.int (13 : Int32)), .val (.ref b101), .val (.int (1 : Int32)), .val (.ref s126), .val (.ref sv127), .val (.ref b128), .unset, .unset] []))
        refine Go.via (fun _ => XS.iconst X129r.here hx rfl (hb hby at_151)) ?_
        show Go p e below _ (T129.setTop (mkF m 152 #[.val (.int p1), .val (.int p2), .val (.int p3), .val (.int p4), .val (.int (13 : Int32)), .val (.ref b101), .val (.int (1 : Int32)), .val (.ref s126), .val (.ref sv127), .val (.ref b128), .unset, .unset] [(.int (1 : Int32))]))
        refine Go.via (fun _ => XS.goto X129r.here hx rfl (pc0 := 152) (pc' := 156) rfl (hb hby at_152) (by decide) (by decide)) ?_
        show Go p e below _ (T129.setTop (mkF m 156 #[.val (.int p1), .val (.int p2), .val (.int p3), .val (.int p4), .val (.int (13 : Int32)), .val (.ref b101), .val (.int (1 : Int32)), .val (.ref s126), .val (.ref sv127), .val (.ref b128), .unset, .unset] [(.int (1 : Int32))]))
        refine Go.via (fun _ => XS.istore X129r.here hx rfl (hb hby at_156) rfl (l' := #[.val (.int p1), .val (.int p2), .val (.int p3), .val (.int p4), .val (.int (13 : Int32)), .val (.ref b101), .val (.int (1 : Int32)), .val (.ref s126), .val (.ref sv127), .val (.ref b128), .val (.int (1 : Int32)), .unset]) rfl) ?_
        show Go p e below _ (T129.setTop (mkF m 158 #[.val (.int p1), .val (.int p2), .val (.int p3), .val (.int p4), .val (.int (13 : Int32)), .val (.ref b101), .val (.int (1 : Int32)), .val (.ref s126), .val (.ref sv127), .val (.ref b128), .val (.int (1 : Int32)), .unset] []))
        refine Go.via (fun _ => XS.aload X129r.here hx rfl (hb hby at_158) rfl rfl) ?_
        show Go p e below _ (T129.setTop (mkF m 160 #[.val (.int p1), .val (.int p2), .val (.int p3), .val (.int p4), .val (.int (13 : Int32)), .val (.ref b101), .val (.int (1 : Int32)), .val (.ref s126), .val (.ref sv127), .val (.ref b128), .val (.int (1 : Int32)), .unset] [(.ref b128)]))
        obtain ⟨cq130, kq130, q130a, q130b, q130c⟩ := isOf hZ129 rfl fE_b128_129
        obtain ⟨_, _, ⟨T130, L130, k130, n130⟩, -, X130, ⟨Lc130, hQ130, l130, y130, z130⟩, st130⟩ := X129r.virtualBack hx (y := (⟨"com/example/permits_from_duties/permitsfromduties/Event", "performer", "()Ljava/lang/String;"⟩ : MethodName)) (z := (⟨"com/example/permits_from_duties/permitsfromduties/Event", "performer", "()Ljava/lang/String;"⟩ : MethodName)) hown129 (mvT hZ129 (hw _ (List.mem_of_getElem? (i := 76) rfl))) (mvT hZ129 (hw _ (List.mem_of_getElem? (i := 77) rfl))) (notFace_of_selects (args := #[]) (mvT hZ129 (hw _ (List.mem_of_getElem? (i := 79) rfl)))) (mvT hZ129 (hw _ (List.mem_of_getElem? (i := 79) rfl))) (mvT hZ129 (hw _ (List.mem_of_getElem? (i := 78) rfl))) (by decide) (backOf (W := 0) (rmPf_1R l Z a0 hw [] b128 w_UNKNOWN s126 T129.heap n0 Zs129 fE_b128_129 ft129 fE_w_UNKNOWN_129 fF_w_UNKNOWN_work_129 fu129) hZ129 (hw _ (List.mem_of_getElem? (i := 80) rfl)) (hw _ (List.mem_of_getElem? (i := 30) rfl)) (by decide) (by decide)) q130a q130c (g := (mkF m 160 #[.val (.int p1), .val (.int p2), .val (.int p3), .val (.int p4), .val (.int (13 : Int32)), .val (.ref b101), .val (.int (1 : Int32)), .val (.ref s126), .val (.ref sv127), .val (.ref b128), .val (.int (1 : Int32)), .unset] [(.ref b128)])) rfl (by rw [hml]; rfl) (Steps.refl _) (argsL := []) (rest := []) (lenOf pd_12 rfl) rfl (by show 2 * 0 + _ ≤ _; exact Nat.le_of_eq rfl) (hb hby at_160) (fun _ _ => ⟨rfl, rfl, (by decide : 10 + 0 ≤ _), (by decide : 81 + 0 ≤ _)⟩)
        dsimp only [Pt.U, Pt.locs, Pt.cells, Pt.slots] at X130 l130 y130 z130 st130 hQ130
        rw [l130, y130, z130] at X130
        replace X130 : Stand p l e _ _ m _ below meth c T130 _ 10 81 := X130
        obtain ⟨rfl, N130q, e130q⟩ := hQ130
        have N130 := Fr.app N129 N130q
        refine Go.tr st130 ?_
        show Go p e below _ (T130.setTop (mkF m 163 #[.val (.int p1), .val (.int p2), .val (.int p3), .val (.int p4), .val (.int (13 : Int32)), .val (.ref b101), .val (.int (1 : Int32)), .val (.ref s126), .val (.ref sv127), .val (.ref b128), .val (.int (1 : Int32)), .unset] [(.ref s126)]))
        refine Go.via (fun _ => XS.astore X130.here hx rfl (hb hby at_163) rfl rfl (l' := #[.val (.int p1), .val (.int p2), .val (.int p3), .val (.int p4), .val (.int (13 : Int32)), .val (.ref b101), .val (.int (1 : Int32)), .val (.ref s126), .val (.ref sv127), .val (.ref b128), .val (.int (1 : Int32)), .val (.ref s126)]) rfl) ?_
        show Go p e below _ (T130.setTop (mkF m 165 #[.val (.int p1), .val (.int p2), .val (.int p3), .val (.int p4), .val (.int (13 : Int32)), .val (.ref b101), .val (.int (1 : Int32)), .val (.ref s126), .val (.ref sv127), .val (.ref b128), .val (.int (1 : Int32)), .val (.ref s126)] []))
        refine Go.via (fun _ => XS.iload X130.here hx rfl (hb hby at_165) rfl) ?_
        show Go p e below _ (T130.setTop (mkF m 167 #[.val (.int p1), .val (.int p2), .val (.int p3), .val (.int p4), .val (.int (13 : Int32)), .val (.ref b101), .val (.int (1 : Int32)), .val (.ref s126), .val (.ref sv127), .val (.ref b128), .val (.int (1 : Int32)), .val (.ref s126)] [(.int (1 : Int32))]))
        refine Go.via (fun _ => XS.ifNo X130.here hx rfl (hb hby at_167) rfl (by decide)) ?_
        show Go p e below _ (T130.setTop (mkF m 170 #[.val (.int p1), .val (.int p2), .val (.int p3), .val (.int p4), .val (.int (13 : Int32)), .val (.ref b101), .val (.int (1 : Int32)), .val (.ref s126), .val (.ref sv127), .val (.ref b128), .val (.int (1 : Int32)), .val (.ref s126)] []))
        refine Go.via (fun _ => XS.aload X130.here hx rfl (hb hby at_170) rfl rfl) ?_
        show Go p e below _ (T130.setTop (mkF m 172 #[.val (.int p1), .val (.int p2), .val (.int p3), .val (.int p4), .val (.int (13 : Int32)), .val (.ref b101), .val (.int (1 : Int32)), .val (.ref s126), .val (.ref sv127), .val (.ref b128), .val (.int (1 : Int32)), .val (.ref s126)] [(.ref s126)]))
        refine Go.via (fun _ => XS.aload X130.here hx rfl (hb hby at_172) rfl rfl) ?_
        show Go p e below _ (T130.setTop (mkF m 174 #[.val (.int p1), .val (.int p2), .val (.int p3), .val (.int p4), .val (.int (13 : Int32)), .val (.ref b101), .val (.int (1 : Int32)), .val (.ref s126), .val (.ref sv127), .val (.ref b128), .val (.int (1 : Int32)), .val (.ref s126)] [(.ref s126), (.ref s126)]))
        refine Go.via (fun _ => Jvm.RoadKit.acmp (g := (mkF m 174 #[.val (.int p1), .val (.int p2), .val (.int p3), .val (.int p4), .val (.int (13 : Int32)), .val (.ref b101), .val (.int (1 : Int32)), .val (.ref s126), .val (.ref sv127), .val (.ref b128), .val (.int (1 : Int32)), .val (.ref s126)] [(.ref s126), (.ref s126)])) X130 hx rfl rfl rfl (pc0 := 174) (pc' := 177) (same := true) rfl (hb hby at_174) rfl (decide_eq_true rfl) (by decide) (by decide)) ?_
        show Go p e below _ (T130.setTop (mkF m 177 #[.val (.int p1), .val (.int p2), .val (.int p3), .val (.int p4), .val (.int (13 : Int32)), .val (.ref b101), .val (.int (1 : Int32)), .val (.ref s126), .val (.ref sv127), .val (.ref b128), .val (.int (1 : Int32)), .val (.ref s126)] []))
        refine Go.via (fun _ => XS.iconst X130.here hx rfl (hb hby at_177)) ?_
        show Go p e below _ (T130.setTop (mkF m 178 #[.val (.int p1), .val (.int p2), .val (.int p3), .val (.int p4), .val (.int (13 : Int32)), .val (.ref b101), .val (.int (1 : Int32)), .val (.ref s126), .val (.ref sv127), .val (.ref b128), .val (.int (1 : Int32)), .val (.ref s126)] [(.int (1 : Int32))]))
        refine Go.via (fun _ => XS.goto X130.here hx rfl (pc0 := 178) (pc' := 182) rfl (hb hby at_178) (by decide) (by decide)) ?_
        show Go p e below _ (T130.setTop (mkF m 182 #[.val (.int p1), .val (.int p2), .val (.int p3), .val (.int p4), .val (.int (13 : Int32)), .val (.ref b101), .val (.int (1 : Int32)), .val (.ref s126), .val (.ref sv127), .val (.ref b128), .val (.int (1 : Int32)), .val (.ref s126)] [(.int (1 : Int32))]))
        exact own_retNW X130 hS129 (by rw [e130q]; exact (Nat.le_refl _)) hx hlk (t := .boolean) Bd.returns (by simp) (hb hby at_182) (by show Q0 Z p1 p2 p3 p4 ccs w_SCHEDULE w_ASSIGN w_REASSIGN w_WITHDRAW w_START w_SUSPEND w_RESUME w_COMPLETE w_ATE_ABORT w_PI_ABORT w_MANUALSKIP w_AUTOSKIP w_UNKNOWN em h0 n0 _ T130.heap _; rw [e130q]; exact ⟨rfl, N130⟩) (by decide) (by decide)
      ·
        show Go p e below _ (T127.setTop (mkF m 89 #[.val (.int p1), .val (.int p2), .val (.int p3), .val (.int p4), .val (.int (12 : Int32)), .val (.ref b101), .val (.int (1 : Int32)), .val (.ref s126), .val (.ref sv127), .unset, .unset, .unset] []))
        refine Go.via (fun _ => XS.iload X127.here hx rfl (hb hby at_89) rfl) ?_
        show Go p e below _ (T127.setTop (mkF m 91 #[.val (.int p1), .val (.int p2), .val (.int p3), .val (.int p4), .val (.int (12 : Int32)), .val (.ref b101), .val (.int (1 : Int32)), .val (.ref s126), .val (.ref sv127), .unset, .unset, .unset] [(.int (12 : Int32))]))
        refine Go.via (fun _ => XS.bipush X127.here hx rfl (hb hby at_91)) ?_
        show Go p e below _ (T127.setTop (mkF m 93 #[.val (.int p1), .val (.int p2), .val (.int p3), .val (.int p4), .val (.int (12 : Int32)), .val (.ref b101), .val (.int (1 : Int32)), .val (.ref s126), .val (.ref sv127), .unset, .unset, .unset] [(.int (13 : Int32)), (.int (12 : Int32))]))
        refine Go.via (fun _ => XS.icmpYes X127.here hx rfl (pc0 := 93) (pc' := 112) rfl (hb hby at_93) rfl (by decide) (by decide) (by decide)) ?_
        show Go p e below _ (T127.setTop (mkF m 112 #[.val (.int p1), .val (.int p2), .val (.int p3), .val (.int p4), .val (.int (12 : Int32)), .val (.ref b101), .val (.int (1 : Int32)), .val (.ref s126), .val (.ref sv127), .unset, .unset, .unset] []))
        obtain ⟨T131, h131, X131, e131, E131, A131, D131, -, st131⟩ := newO X127 hx hZ126 hown126 (hw _ (List.mem_of_getElem? (i := 28) rfl)) (hw _ (List.mem_of_getElem? (i := 29) rfl)) (hw _ (List.mem_of_getElem? (i := 30) rfl)) rfl (g := (mkF m 112 #[.val (.int p1), .val (.int p2), .val (.int p3), .val (.int p4), .val (.int (12 : Int32)), .val (.ref b101), .val (.int (1 : Int32)), .val (.ref s126), .val (.ref sv127), .unset, .unset, .unset] [])) rfl (hb hby at_112) (by decide) (by decide)
        obtain ⟨b131, g131⟩ : ∃ z, z = T127.heap.size := ⟨_, rfl⟩
        rw [← g131] at A131 D131 st131
        have g_b131 : n0 ≤ b131 := Nat.le_trans Zs127 (Nat.le_of_eq g131.symm)
        have ne_b101_b131 : b101 ≠ b131 := Nat.ne_of_lt (Nat.lt_of_lt_of_le fV_b101_127.lt (Nat.le_of_eq g131.symm))
        have ne_sv127_b131 : sv127 ≠ b131 := Nat.ne_of_lt (Nat.lt_of_lt_of_le ev127.lt (Nat.le_of_eq g131.symm))
        refine Go.via st131 ?_
        have Zs131 : n0 ≤ h131.size := Nat.le_trans Zs127 E131.1
        have hk131 : kk126 ≤ h131.size := Nat.le_trans hk127 E131.1
        have O131 : Old Z n0 h131 := O127.ext E131
        have fV_b101_131 := fV_b101_127.ext E131
        have fE_sv127_131 := ev127.ext E131
        have F_task_b131 : Fld Z h131 b131 "com/example/permits_from_duties/permitsfromduties/Event" "task" "Ljava/lang/String;" .null := D131 (Or.inr (hw _ (List.mem_of_getElem? (i := 65) rfl))) (ty := (.object "java/lang/String")) (by decide)
        have F_user_b131 : Fld Z h131 b131 "com/example/permits_from_duties/permitsfromduties/Event" "user" "Ljava/lang/String;" .null := D131 (Or.inr (hw _ (List.mem_of_getElem? (i := 67) rfl))) (ty := (.object "java/lang/String")) (by decide)
        have F_time_b131 : Fld Z h131 b131 "com/example/permits_from_duties/permitsfromduties/Event" "time" "Ljava/time/Instant;" .null := D131 (Or.inr (hw _ (List.mem_of_getElem? (i := 69) rfl))) (ty := (.object "java/time/Instant")) (by decide)
        have F_transition_b131 : Fld Z h131 b131 "com/example/permits_from_duties/permitsfromduties/Event" "transition" "Lcom/example/permits_from_duties/permitsfromduties/Event$Transition;" .null := D131 (Or.inr (hw _ (List.mem_of_getElem? (i := 71) rfl))) (ty := (.object "com/example/permits_from_duties/permitsfromduties/Event$Transition")) (by decide)
        have F_location_b131 : Fld Z h131 b131 "com/example/permits_from_duties/permitsfromduties/Event" "location" "Ljava/lang/String;" .null := D131 (Or.inr (hw _ (List.mem_of_getElem? (i := 73) rfl))) (ty := (.object "java/lang/String")) (by decide)
        have F_data_b131 : Fld Z h131 b131 "com/example/permits_from_duties/permitsfromduties/Event" "data" "Ljava/util/Map;" .null := D131 (Or.inr (hw _ (List.mem_of_getElem? (i := 75) rfl))) (ty := (.object "java/util/Map")) (by decide)
        show Go p e below _ (T131.setTop (mkF m 115 #[.val (.int p1), .val (.int p2), .val (.int p3), .val (.int p4), .val (.int (12 : Int32)), .val (.ref b101), .val (.int (1 : Int32)), .val (.ref s126), .val (.ref sv127), .unset, .unset, .unset] [(.ref b131)]))
        refine Go.via (fun _ => XS.dup X131.here hx rfl (hb hby at_115) rfl rfl) ?_
        show Go p e below _ (T131.setTop (mkF m 116 #[.val (.int p1), .val (.int p2), .val (.int p3), .val (.int p4), .val (.int (12 : Int32)), .val (.ref b101), .val (.int (1 : Int32)), .val (.ref s126), .val (.ref sv127), .unset, .unset, .unset] [(.ref b131), (.ref b131)]))
        refine Go.via (fun _ => XS.aload X131.here hx rfl (hb hby at_116) rfl rfl) ?_
        show Go p e below _ (T131.setTop (mkF m 118 #[.val (.int p1), .val (.int p2), .val (.int p3), .val (.int p4), .val (.int (12 : Int32)), .val (.ref b101), .val (.int (1 : Int32)), .val (.ref s126), .val (.ref sv127), .unset, .unset, .unset] [(.ref sv127), (.ref b131), (.ref b131)]))
        refine Go.via (fun _ => XS.aload X131.here hx rfl (hb hby at_118) rfl rfl) ?_
        show Go p e below _ (T131.setTop (mkF m 120 #[.val (.int p1), .val (.int p2), .val (.int p3), .val (.int p4), .val (.int (12 : Int32)), .val (.ref b101), .val (.int (1 : Int32)), .val (.ref s126), .val (.ref sv127), .unset, .unset, .unset] [(.ref s126), (.ref sv127), (.ref b131), (.ref b131)]))
        refine Go.via (fun _ => XS.aconstNull X131.here hx rfl (hb hby at_120)) ?_
        show Go p e below _ (T131.setTop (mkF m 121 #[.val (.int p1), .val (.int p2), .val (.int p3), .val (.int p4), .val (.int (12 : Int32)), .val (.ref b101), .val (.int (1 : Int32)), .val (.ref s126), .val (.ref sv127), .unset, .unset, .unset] [.null, (.ref s126), (.ref sv127), (.ref b131), (.ref b131)]))
        refine Go.via (fun _ => XS.iload X131.here hx rfl (hb hby at_121) rfl) ?_
        show Go p e below _ (T131.setTop (mkF m 123 #[.val (.int p1), .val (.int p2), .val (.int p3), .val (.int p4), .val (.int (12 : Int32)), .val (.ref b101), .val (.int (1 : Int32)), .val (.ref s126), .val (.ref sv127), .unset, .unset, .unset] [(.int (12 : Int32)), .null, (.ref s126), (.ref sv127), (.ref b131), (.ref b131)]))
        obtain ⟨_, _, ⟨T132, L132, k132, n132⟩, -, X132, ⟨Lc132, hQ132, l132, y132, z132⟩, st132⟩ := Jvm.LawKit.callS X131 hx (y := (⟨"com/example/permits_from_duties/permitsfromduties/EventPerformerPinLaw", "pick", "(I)Lcom/example/permits_from_duties/permitsfromduties/Event$Transition;"⟩ : MethodName)) hown126 (mvT hZ126 (hw _ (List.mem_of_getElem? (i := 31) rfl))) (mvT hZ126 (hw _ (List.mem_of_getElem? (i := 32) rfl))) (mvT hZ126 (hw _ (List.mem_of_getElem? (i := 33) rfl))) (mvT hZ126 (hw _ (List.mem_of_getElem? (i := 34) rfl))) (by decide) (backOf (W := 5) (rmPk_12 l Z a0 hw [] w_SCHEDULE w_ASSIGN w_REASSIGN w_WITHDRAW w_START w_SUSPEND w_RESUME w_COMPLETE w_ATE_ABORT w_PI_ABORT w_MANUALSKIP w_AUTOSKIP w_UNKNOWN h131 n0 Zs131 O131 S_SCHEDULE S_ASSIGN S_REASSIGN S_WITHDRAW S_START S_SUSPEND S_RESUME S_COMPLETE S_ATE_ABORT S_PI_ABORT S_MANUALSKIP S_AUTOSKIP S_UNKNOWN E_SCHEDULE E_ASSIGN E_REASSIGN E_WITHDRAW E_START E_SUSPEND E_RESUME E_COMPLETE E_ATE_ABORT E_PI_ABORT E_MANUALSKIP E_AUTOSKIP E_UNKNOWN F_SCHEDULE F_ASSIGN F_REASSIGN F_WITHDRAW F_START F_SUSPEND F_RESUME F_COMPLETE F_ATE_ABORT F_PI_ABORT F_MANUALSKIP F_AUTOSKIP F_UNKNOWN) hZ126 (hw _ (List.mem_of_getElem? (i := 34) rfl)) (hw _ (List.mem_of_getElem? (i := 33) rfl)) (by decide) (by decide)) (g := (mkF m 123 #[.val (.int p1), .val (.int p2), .val (.int p3), .val (.int p4), .val (.int (12 : Int32)), .val (.ref b101), .val (.int (1 : Int32)), .val (.ref s126), .val (.ref sv127), .unset, .unset, .unset] [(.int (12 : Int32)), .null, (.ref s126), (.ref sv127), (.ref b131), (.ref b131)])) rfl (by rw [hml]; rfl) (argsL := [(.int (12 : Int32))]) (rest := [.null, (.ref s126), (.ref sv127), (.ref b131), (.ref b131)]) (lenOf pd_13 rfl) rfl (by show 2 * 0 + _ ≤ _; exact Nat.le_of_eq rfl) (hb hby at_123) (fun _ _ => ⟨rfl, e131, (by decide : 6 + 0 ≤ _), (by decide : 17 + 0 ≤ _)⟩)
        dsimp only [Pt.U, Pt.locs, Pt.cells, Pt.slots] at X132 l132 y132 z132 st132 hQ132
        rw [l132, y132, z132] at X132
        replace X132 : Stand p l e _ _ m _ below meth c T132 _ 6 17 := X132
        obtain ⟨tr132, rfl, N132q, e132q, et132, fw132⟩ := hQ132
        have N132 := Fr.app N127 N132q
        refine Go.via st132 ?_
        have neb131_tr132 : b131 ≠ tr132 := ne_exa A131 et132 (by decide)
        show Go p e below _ (T132.setTop (mkF m 126 #[.val (.int p1), .val (.int p2), .val (.int p3), .val (.int p4), .val (.int (12 : Int32)), .val (.ref b101), .val (.int (1 : Int32)), .val (.ref s126), .val (.ref sv127), .unset, .unset, .unset] [(.ref tr132), .null, (.ref s126), (.ref sv127), (.ref b131), (.ref b131)]))
        obtain ⟨_, _, ⟨T133, L133, k133, n133⟩, -, X133, S133w, gr133, ⟨Lc133, hQ133, l133, y133, z133⟩, st133⟩ := X132.specialBackS hx (y := (⟨"com/example/permits_from_duties/permitsfromduties/Event", "<init>", "(Ljava/lang/String;Ljava/lang/String;Ljava/time/Instant;Lcom/example/permits_from_duties/permitsfromduties/Event$Transition;)V"⟩ : MethodName)) rfl hown126 (mvT hZ126 (hw _ (List.mem_of_getElem? (i := 38) rfl))) (mvT hZ126 (hw _ (List.mem_of_getElem? (i := 39) rfl))) (mvT hZ126 (hw _ (List.mem_of_getElem? (i := 40) rfl))) (by decide) (backOfS (W := 1) (rmC4R l Z a0 hw [] b131 sv127 s126 tr132 em h131 n0 Zs131 A131 F_task_b131 F_user_b131 F_time_b131 F_transition_b131 F_location_b131 F_data_b131 g_b131 O131 S_EM) hZ126 (hw _ (List.mem_of_getElem? (i := 40) rfl)) (hw _ (List.mem_of_getElem? (i := 30) rfl)) (by decide) (by decide)) (g := (mkF m 126 #[.val (.int p1), .val (.int p2), .val (.int p3), .val (.int p4), .val (.int (12 : Int32)), .val (.ref b101), .val (.int (1 : Int32)), .val (.ref s126), .val (.ref sv127), .unset, .unset, .unset] [(.ref tr132), .null, (.ref s126), (.ref sv127), (.ref b131), (.ref b131)])) rfl (by rw [hml]; rfl) (Steps.refl _) (a := b131) (argsL := [(.ref sv127), (.ref s126), .null, (.ref tr132)]) (rest := [(.ref b131)]) (lenOf pd_4 rfl) rfl (by show 2 * 0 + _ ≤ _; exact Nat.le_of_eq rfl) (hb hby at_126) (fun _ _ => ⟨rfl, e132q, (by decide : 6 + 4 ≤ _), (by decide : 17 + 64 ≤ _)⟩)
        dsimp only [Pt.U, Pt.locs, Pt.cells, Pt.slots] at X133 l133 y133 z133 st133 hQ133 S133w gr133
        rw [l133, y133, z133] at X133
        replace X133 : Stand p l e _ _ m _ below meth c T133 _ 10 81 := X133
        obtain ⟨rfl, N133q, K133q, fu133, ft133⟩ := hQ133
        have N133 := Fr.app N132 N133q
        refine Go.tr st133 ?_
        obtain ⟨X133r, hS133, hZ133, hown133⟩ := rebS hS126 (by rw [e132q]; exact hk131) X133 S133w gr133 hZ126 hown126
        have Zs133 : n0 ≤ T133.heap.size := Nat.le_trans Zs131 K133q.1
        have O133 : Old Z n0 T133.heap := O131.keep K133q (allS g_b131 all0)
        have fV_b101_133 := fV_b101_131.keep K133q (ninS ne_b101_b131 nin0)
        have fE_sv127_133 := fE_sv127_131.keep K133q
        have fE_b131_133 := A131.keep K133q
        have fE_tr132_133 := et132.keep K133q
        have fF_tr132_work_133 := fw132.keep K133q (ninS (Ne.symm neb131_tr132) nin0)
        show Go p e below _ (T133.setTop (mkF m 129 #[.val (.int p1), .val (.int p2), .val (.int p3), .val (.int p4), .val (.int (12 : Int32)), .val (.ref b101), .val (.int (1 : Int32)), .val (.ref s126), .val (.ref sv127), .unset, .unset, .unset] [(.ref b131)]))
        refine Go.via (fun _ => XS.astore X133r.here hx rfl (hb hby at_129) rfl rfl (l' := #[.val (.int p1), .val (.int p2), .val (.int p3), .val (.int p4), .val (.int (12 : Int32)), .val (.ref b101), .val (.int (1 : Int32)), .val (.ref s126), .val (.ref sv127), .val (.ref b131), .unset, .unset]) rfl) ?_
        show Go p e below _ (T133.setTop (mkF m 131 #[.val (.int p1), .val (.int p2), .val (.int p3), .val (.int p4), .val (.int (12 : Int32)), .val (.ref b101), .val (.int (1 : Int32)), .val (.ref s126), .val (.ref sv127), .val (.ref b131), .unset, .unset] []))
        refine Go.via (fun _ => XS.iload X133r.here hx rfl (hb hby at_131) rfl) ?_
        show Go p e below _ (T133.setTop (mkF m 133 #[.val (.int p1), .val (.int p2), .val (.int p3), .val (.int p4), .val (.int (12 : Int32)), .val (.ref b101), .val (.int (1 : Int32)), .val (.ref s126), .val (.ref sv127), .val (.ref b131), .unset, .unset] [(.int (12 : Int32))]))
        refine Go.via (fun _ => XS.iconst X133r.here hx rfl (hb hby at_133)) ?_
        show Go p e below _ (T133.setTop (mkF m 134 #[.val (.int p1), .val (.int p2), .val (.int p3), .val (.int p4), .val (.int (12 : Int32)), .val (.ref b101), .val (.int (1 : Int32)), .val (.ref s126), .val (.ref sv127), .val (.ref b131), .unset, .unset] [(.int (4 : Int32)), (.int (12 : Int32))]))
        refine Go.via (fun _ => XS.icmpNo X133r.here hx rfl (hb hby at_134) rfl (by decide)) ?_
        show Go p e below _ (T133.setTop (mkF m 137 #[.val (.int p1), .val (.int p2), .val (.int p3), .val (.int p4), .val (.int (12 : Int32)), .val (.ref b101), .val (.int (1 : Int32)), .val (.ref s126), .val (.ref sv127), .val (.ref b131), .unset, .unset] []))
        refine Go.via (fun _ => XS.iload X133r.here hx rfl (hb hby at_137) rfl) ?_
        show Go p e below _ (T133.setTop (mkF m 139 #[.val (.int p1), .val (.int p2), .val (.int p3), .val (.int p4), .val (.int (12 : Int32)), .val (.ref b101), .val (.int (1 : Int32)), .val (.ref s126), .val (.ref sv127), .val (.ref b131), .unset, .unset] [(.int (12 : Int32))]))
        refine Go.via (fun _ => XS.bipush X133r.here hx rfl (hb hby at_139)) ?_
        show Go p e below _ (T133.setTop (mkF m 141 #[.val (.int p1), .val (.int p2), .val (.int p3), .val (.int p4), .val (.int (12 : Int32)), .val (.ref b101), .val (.int (1 : Int32)), .val (.ref s126), .val (.ref sv127), .val (.ref b131), .unset, .unset] [(.int (8 : Int32)), (.int (12 : Int32))]))
        refine Go.via (fun _ => XS.icmpNo X133r.here hx rfl (hb hby at_141) rfl (by decide)) ?_
        show Go p e below _ (T133.setTop (mkF m 144 #[.val (.int p1), .val (.int p2), .val (.int p3), .val (.int p4), .val (.int (12 : Int32)), .val (.ref b101), .val (.int (1 : Int32)), .val (.ref s126), .val (.ref sv127), .val (.ref b131), .unset, .unset] []))
        refine Go.via (fun _ => XS.iload X133r.here hx rfl (hb hby at_144) rfl) ?_
        show Go p e below _ (T133.setTop (mkF m 146 #[.val (.int p1), .val (.int p2), .val (.int p3), .val (.int p4), .val (.int (12 : Int32)), .val (.ref b101), .val (.int (1 : Int32)), .val (.ref s126), .val (.ref sv127), .val (.ref b131), .unset, .unset] [(.int (12 : Int32))]))
        refine Go.via (fun _ => XS.bipush X133r.here hx rfl (hb hby at_146)) ?_
        show Go p e below _ (T133.setTop (mkF m 148 #[.val (.int p1), .val (.int p2), .val (.int p3), .val (.int p4), .val (.int (12 : Int32)), .val (.ref b101), .val (.int (1 : Int32)), .val (.ref s126), .val (.ref sv127), .val (.ref b131), .unset, .unset] [(.int (12 : Int32)), (.int (12 : Int32))]))
        refine Go.via (fun _ => XS.icmpNo X133r.here hx rfl (hb hby at_148) rfl (by decide)) ?_
        show Go p e below _ (T133.setTop (mkF m 151 #[.val (.int p1), .val (.int p2), .val (.int p3), .val (.int p4), .val (.int (12 : Int32)), .val (.ref b101), .val (.int (1 : Int32)), .val (.ref s126), .val (.ref sv127), .val (.ref b131), .unset, .unset] []))
        refine Go.via (fun _ => XS.iconst X133r.here hx rfl (hb hby at_151)) ?_
        show Go p e below _ (T133.setTop (mkF m 152 #[.val (.int p1), .val (.int p2), .val (.int p3), .val (.int p4), .val (.int (12 : Int32)), .val (.ref b101), .val (.int (1 : Int32)), .val (.ref s126), .val (.ref sv127), .val (.ref b131), .unset, .unset] [(.int (1 : Int32))]))
        refine Go.via (fun _ => XS.goto X133r.here hx rfl (pc0 := 152) (pc' := 156) rfl (hb hby at_152) (by decide) (by decide)) ?_
        show Go p e below _ (T133.setTop (mkF m 156 #[.val (.int p1), .val (.int p2), .val (.int p3), .val (.int p4), .val (.int (12 : Int32)), .val (.ref b101), .val (.int (1 : Int32)), .val (.ref s126), .val (.ref sv127), .val (.ref b131), .unset, .unset] [(.int (1 : Int32))]))
        refine Go.via (fun _ => XS.istore X133r.here hx rfl (hb hby at_156) rfl (l' := #[.val (.int p1), .val (.int p2), .val (.int p3), .val (.int p4), .val (.int (12 : Int32)), .val (.ref b101), .val (.int (1 : Int32)), .val (.ref s126), .val (.ref sv127), .val (.ref b131), .val (.int (1 : Int32)), .unset]) rfl) ?_
        show Go p e below _ (T133.setTop (mkF m 158 #[.val (.int p1), .val (.int p2), .val (.int p3), .val (.int p4), .val (.int (12 : Int32)), .val (.ref b101), .val (.int (1 : Int32)), .val (.ref s126), .val (.ref sv127), .val (.ref b131), .val (.int (1 : Int32)), .unset] []))
        refine Go.via (fun _ => XS.aload X133r.here hx rfl (hb hby at_158) rfl rfl) ?_
        show Go p e below _ (T133.setTop (mkF m 160 #[.val (.int p1), .val (.int p2), .val (.int p3), .val (.int p4), .val (.int (12 : Int32)), .val (.ref b101), .val (.int (1 : Int32)), .val (.ref s126), .val (.ref sv127), .val (.ref b131), .val (.int (1 : Int32)), .unset] [(.ref b131)]))
        obtain ⟨cq134, kq134, q134a, q134b, q134c⟩ := isOf hZ133 rfl fE_b131_133
        obtain ⟨_, _, ⟨T134, L134, k134, n134⟩, -, X134, ⟨Lc134, hQ134, l134, y134, z134⟩, st134⟩ := X133r.virtualBack hx (y := (⟨"com/example/permits_from_duties/permitsfromduties/Event", "performer", "()Ljava/lang/String;"⟩ : MethodName)) (z := (⟨"com/example/permits_from_duties/permitsfromduties/Event", "performer", "()Ljava/lang/String;"⟩ : MethodName)) hown133 (mvT hZ133 (hw _ (List.mem_of_getElem? (i := 76) rfl))) (mvT hZ133 (hw _ (List.mem_of_getElem? (i := 77) rfl))) (notFace_of_selects (args := #[]) (mvT hZ133 (hw _ (List.mem_of_getElem? (i := 79) rfl)))) (mvT hZ133 (hw _ (List.mem_of_getElem? (i := 79) rfl))) (mvT hZ133 (hw _ (List.mem_of_getElem? (i := 78) rfl))) (by decide) (backOf (W := 0) (rmPf_1R l Z a0 hw [] b131 tr132 s126 T133.heap n0 Zs133 fE_b131_133 ft133 fE_tr132_133 fF_tr132_work_133 fu133) hZ133 (hw _ (List.mem_of_getElem? (i := 80) rfl)) (hw _ (List.mem_of_getElem? (i := 30) rfl)) (by decide) (by decide)) q134a q134c (g := (mkF m 160 #[.val (.int p1), .val (.int p2), .val (.int p3), .val (.int p4), .val (.int (12 : Int32)), .val (.ref b101), .val (.int (1 : Int32)), .val (.ref s126), .val (.ref sv127), .val (.ref b131), .val (.int (1 : Int32)), .unset] [(.ref b131)])) rfl (by rw [hml]; rfl) (Steps.refl _) (argsL := []) (rest := []) (lenOf pd_12 rfl) rfl (by show 2 * 0 + _ ≤ _; exact Nat.le_of_eq rfl) (hb hby at_160) (fun _ _ => ⟨rfl, rfl, (by decide : 10 + 0 ≤ _), (by decide : 81 + 0 ≤ _)⟩)
        dsimp only [Pt.U, Pt.locs, Pt.cells, Pt.slots] at X134 l134 y134 z134 st134 hQ134
        rw [l134, y134, z134] at X134
        replace X134 : Stand p l e _ _ m _ below meth c T134 _ 10 81 := X134
        obtain ⟨rfl, N134q, e134q⟩ := hQ134
        have N134 := Fr.app N133 N134q
        refine Go.tr st134 ?_
        show Go p e below _ (T134.setTop (mkF m 163 #[.val (.int p1), .val (.int p2), .val (.int p3), .val (.int p4), .val (.int (12 : Int32)), .val (.ref b101), .val (.int (1 : Int32)), .val (.ref s126), .val (.ref sv127), .val (.ref b131), .val (.int (1 : Int32)), .unset] [(.ref s126)]))
        refine Go.via (fun _ => XS.astore X134.here hx rfl (hb hby at_163) rfl rfl (l' := #[.val (.int p1), .val (.int p2), .val (.int p3), .val (.int p4), .val (.int (12 : Int32)), .val (.ref b101), .val (.int (1 : Int32)), .val (.ref s126), .val (.ref sv127), .val (.ref b131), .val (.int (1 : Int32)), .val (.ref s126)]) rfl) ?_
        show Go p e below _ (T134.setTop (mkF m 165 #[.val (.int p1), .val (.int p2), .val (.int p3), .val (.int p4), .val (.int (12 : Int32)), .val (.ref b101), .val (.int (1 : Int32)), .val (.ref s126), .val (.ref sv127), .val (.ref b131), .val (.int (1 : Int32)), .val (.ref s126)] []))
        refine Go.via (fun _ => XS.iload X134.here hx rfl (hb hby at_165) rfl) ?_
        show Go p e below _ (T134.setTop (mkF m 167 #[.val (.int p1), .val (.int p2), .val (.int p3), .val (.int p4), .val (.int (12 : Int32)), .val (.ref b101), .val (.int (1 : Int32)), .val (.ref s126), .val (.ref sv127), .val (.ref b131), .val (.int (1 : Int32)), .val (.ref s126)] [(.int (1 : Int32))]))
        refine Go.via (fun _ => XS.ifNo X134.here hx rfl (hb hby at_167) rfl (by decide)) ?_
        show Go p e below _ (T134.setTop (mkF m 170 #[.val (.int p1), .val (.int p2), .val (.int p3), .val (.int p4), .val (.int (12 : Int32)), .val (.ref b101), .val (.int (1 : Int32)), .val (.ref s126), .val (.ref sv127), .val (.ref b131), .val (.int (1 : Int32)), .val (.ref s126)] []))
        refine Go.via (fun _ => XS.aload X134.here hx rfl (hb hby at_170) rfl rfl) ?_
        show Go p e below _ (T134.setTop (mkF m 172 #[.val (.int p1), .val (.int p2), .val (.int p3), .val (.int p4), .val (.int (12 : Int32)), .val (.ref b101), .val (.int (1 : Int32)), .val (.ref s126), .val (.ref sv127), .val (.ref b131), .val (.int (1 : Int32)), .val (.ref s126)] [(.ref s126)]))
        refine Go.via (fun _ => XS.aload X134.here hx rfl (hb hby at_172) rfl rfl) ?_
        show Go p e below _ (T134.setTop (mkF m 174 #[.val (.int p1), .val (.int p2), .val (.int p3), .val (.int p4), .val (.int (12 : Int32)), .val (.ref b101), .val (.int (1 : Int32)), .val (.ref s126), .val (.ref sv127), .val (.ref b131), .val (.int (1 : Int32)), .val (.ref s126)] [(.ref s126), (.ref s126)]))
        refine Go.via (fun _ => Jvm.RoadKit.acmp (g := (mkF m 174 #[.val (.int p1), .val (.int p2), .val (.int p3), .val (.int p4), .val (.int (12 : Int32)), .val (.ref b101), .val (.int (1 : Int32)), .val (.ref s126), .val (.ref sv127), .val (.ref b131), .val (.int (1 : Int32)), .val (.ref s126)] [(.ref s126), (.ref s126)])) X134 hx rfl rfl rfl (pc0 := 174) (pc' := 177) (same := true) rfl (hb hby at_174) rfl (decide_eq_true rfl) (by decide) (by decide)) ?_
        show Go p e below _ (T134.setTop (mkF m 177 #[.val (.int p1), .val (.int p2), .val (.int p3), .val (.int p4), .val (.int (12 : Int32)), .val (.ref b101), .val (.int (1 : Int32)), .val (.ref s126), .val (.ref sv127), .val (.ref b131), .val (.int (1 : Int32)), .val (.ref s126)] []))
        refine Go.via (fun _ => XS.iconst X134.here hx rfl (hb hby at_177)) ?_
        show Go p e below _ (T134.setTop (mkF m 178 #[.val (.int p1), .val (.int p2), .val (.int p3), .val (.int p4), .val (.int (12 : Int32)), .val (.ref b101), .val (.int (1 : Int32)), .val (.ref s126), .val (.ref sv127), .val (.ref b131), .val (.int (1 : Int32)), .val (.ref s126)] [(.int (1 : Int32))]))
        refine Go.via (fun _ => XS.goto X134.here hx rfl (pc0 := 178) (pc' := 182) rfl (hb hby at_178) (by decide) (by decide)) ?_
        show Go p e below _ (T134.setTop (mkF m 182 #[.val (.int p1), .val (.int p2), .val (.int p3), .val (.int p4), .val (.int (12 : Int32)), .val (.ref b101), .val (.int (1 : Int32)), .val (.ref s126), .val (.ref sv127), .val (.ref b131), .val (.int (1 : Int32)), .val (.ref s126)] [(.int (1 : Int32))]))
        exact own_retNW X134 hS133 (by rw [e134q]; exact (Nat.le_refl _)) hx hlk (t := .boolean) Bd.returns (by simp) (hb hby at_182) (by show Q0 Z p1 p2 p3 p4 ccs w_SCHEDULE w_ASSIGN w_REASSIGN w_WITHDRAW w_START w_SUSPEND w_RESUME w_COMPLETE w_ATE_ABORT w_PI_ABORT w_MANUALSKIP w_AUTOSKIP w_UNKNOWN em h0 n0 _ T134.heap _; rw [e134q]; exact ⟨rfl, N134⟩) (by decide) (by decide)
      ·
        show Go p e below _ (T127.setTop (mkF m 89 #[.val (.int p1), .val (.int p2), .val (.int p3), .val (.int p4), .val (.int k), .val (.ref b101), .val (.int (1 : Int32)), .val (.ref s126), .val (.ref sv127), .unset, .unset, .unset] []))
        refine Go.via (fun _ => XS.iload X127.here hx rfl (hb hby at_89) rfl) ?_
        show Go p e below _ (T127.setTop (mkF m 91 #[.val (.int p1), .val (.int p2), .val (.int p3), .val (.int p4), .val (.int k), .val (.ref b101), .val (.int (1 : Int32)), .val (.ref s126), .val (.ref sv127), .unset, .unset, .unset] [(.int k)]))
        refine Go.via (fun _ => XS.bipush X127.here hx rfl (hb hby at_91)) ?_
        show Go p e below _ (T127.setTop (mkF m 93 #[.val (.int p1), .val (.int p2), .val (.int p3), .val (.int p4), .val (.int k), .val (.ref b101), .val (.int (1 : Int32)), .val (.ref s126), .val (.ref sv127), .unset, .unset, .unset] [(.int (13 : Int32)), (.int k)]))
        refine Go.via (fun _ => XS.icmpYes X127.here hx rfl (pc0 := 93) (pc' := 112) rfl (hb hby at_93) rfl (feq hk.2.1).2 (by decide) (by decide)) ?_
        show Go p e below _ (T127.setTop (mkF m 112 #[.val (.int p1), .val (.int p2), .val (.int p3), .val (.int p4), .val (.int k), .val (.ref b101), .val (.int (1 : Int32)), .val (.ref s126), .val (.ref sv127), .unset, .unset, .unset] []))
        obtain ⟨T135, h135, X135, e135, E135, A135, D135, -, st135⟩ := newO X127 hx hZ126 hown126 (hw _ (List.mem_of_getElem? (i := 28) rfl)) (hw _ (List.mem_of_getElem? (i := 29) rfl)) (hw _ (List.mem_of_getElem? (i := 30) rfl)) rfl (g := (mkF m 112 #[.val (.int p1), .val (.int p2), .val (.int p3), .val (.int p4), .val (.int k), .val (.ref b101), .val (.int (1 : Int32)), .val (.ref s126), .val (.ref sv127), .unset, .unset, .unset] [])) rfl (hb hby at_112) (by decide) (by decide)
        obtain ⟨b135, g135⟩ : ∃ z, z = T127.heap.size := ⟨_, rfl⟩
        rw [← g135] at A135 D135 st135
        have g_b135 : n0 ≤ b135 := Nat.le_trans Zs127 (Nat.le_of_eq g135.symm)
        have ne_b101_b135 : b101 ≠ b135 := Nat.ne_of_lt (Nat.lt_of_lt_of_le fV_b101_127.lt (Nat.le_of_eq g135.symm))
        have ne_sv127_b135 : sv127 ≠ b135 := Nat.ne_of_lt (Nat.lt_of_lt_of_le ev127.lt (Nat.le_of_eq g135.symm))
        refine Go.via st135 ?_
        have Zs135 : n0 ≤ h135.size := Nat.le_trans Zs127 E135.1
        have hk135 : kk126 ≤ h135.size := Nat.le_trans hk127 E135.1
        have O135 : Old Z n0 h135 := O127.ext E135
        have fV_b101_135 := fV_b101_127.ext E135
        have fE_sv127_135 := ev127.ext E135
        have F_task_b135 : Fld Z h135 b135 "com/example/permits_from_duties/permitsfromduties/Event" "task" "Ljava/lang/String;" .null := D135 (Or.inr (hw _ (List.mem_of_getElem? (i := 65) rfl))) (ty := (.object "java/lang/String")) (by decide)
        have F_user_b135 : Fld Z h135 b135 "com/example/permits_from_duties/permitsfromduties/Event" "user" "Ljava/lang/String;" .null := D135 (Or.inr (hw _ (List.mem_of_getElem? (i := 67) rfl))) (ty := (.object "java/lang/String")) (by decide)
        have F_time_b135 : Fld Z h135 b135 "com/example/permits_from_duties/permitsfromduties/Event" "time" "Ljava/time/Instant;" .null := D135 (Or.inr (hw _ (List.mem_of_getElem? (i := 69) rfl))) (ty := (.object "java/time/Instant")) (by decide)
        have F_transition_b135 : Fld Z h135 b135 "com/example/permits_from_duties/permitsfromduties/Event" "transition" "Lcom/example/permits_from_duties/permitsfromduties/Event$Transition;" .null := D135 (Or.inr (hw _ (List.mem_of_getElem? (i := 71) rfl))) (ty := (.object "com/example/permits_from_duties/permitsfromduties/Event$Transition")) (by decide)
        have F_location_b135 : Fld Z h135 b135 "com/example/permits_from_duties/permitsfromduties/Event" "location" "Ljava/lang/String;" .null := D135 (Or.inr (hw _ (List.mem_of_getElem? (i := 73) rfl))) (ty := (.object "java/lang/String")) (by decide)
        have F_data_b135 : Fld Z h135 b135 "com/example/permits_from_duties/permitsfromduties/Event" "data" "Ljava/util/Map;" .null := D135 (Or.inr (hw _ (List.mem_of_getElem? (i := 75) rfl))) (ty := (.object "java/util/Map")) (by decide)
        show Go p e below _ (T135.setTop (mkF m 115 #[.val (.int p1), .val (.int p2), .val (.int p3), .val (.int p4), .val (.int k), .val (.ref b101), .val (.int (1 : Int32)), .val (.ref s126), .val (.ref sv127), .unset, .unset, .unset] [(.ref b135)]))
        refine Go.via (fun _ => XS.dup X135.here hx rfl (hb hby at_115) rfl rfl) ?_
        show Go p e below _ (T135.setTop (mkF m 116 #[.val (.int p1), .val (.int p2), .val (.int p3), .val (.int p4), .val (.int k), .val (.ref b101), .val (.int (1 : Int32)), .val (.ref s126), .val (.ref sv127), .unset, .unset, .unset] [(.ref b135), (.ref b135)]))
        refine Go.via (fun _ => XS.aload X135.here hx rfl (hb hby at_116) rfl rfl) ?_
        show Go p e below _ (T135.setTop (mkF m 118 #[.val (.int p1), .val (.int p2), .val (.int p3), .val (.int p4), .val (.int k), .val (.ref b101), .val (.int (1 : Int32)), .val (.ref s126), .val (.ref sv127), .unset, .unset, .unset] [(.ref sv127), (.ref b135), (.ref b135)]))
        refine Go.via (fun _ => XS.aload X135.here hx rfl (hb hby at_118) rfl rfl) ?_
        show Go p e below _ (T135.setTop (mkF m 120 #[.val (.int p1), .val (.int p2), .val (.int p3), .val (.int p4), .val (.int k), .val (.ref b101), .val (.int (1 : Int32)), .val (.ref s126), .val (.ref sv127), .unset, .unset, .unset] [(.ref s126), (.ref sv127), (.ref b135), (.ref b135)]))
        refine Go.via (fun _ => XS.aconstNull X135.here hx rfl (hb hby at_120)) ?_
        show Go p e below _ (T135.setTop (mkF m 121 #[.val (.int p1), .val (.int p2), .val (.int p3), .val (.int p4), .val (.int k), .val (.ref b101), .val (.int (1 : Int32)), .val (.ref s126), .val (.ref sv127), .unset, .unset, .unset] [.null, (.ref s126), (.ref sv127), (.ref b135), (.ref b135)]))
        refine Go.via (fun _ => XS.iload X135.here hx rfl (hb hby at_121) rfl) ?_
        show Go p e below _ (T135.setTop (mkF m 123 #[.val (.int p1), .val (.int p2), .val (.int p3), .val (.int p4), .val (.int k), .val (.ref b101), .val (.int (1 : Int32)), .val (.ref s126), .val (.ref sv127), .unset, .unset, .unset] [(.int k), .null, (.ref s126), (.ref sv127), (.ref b135), (.ref b135)]))
        obtain ⟨_, _, ⟨T136, L136, k136, n136⟩, -, X136, ⟨Lc136, hQ136, l136, y136, z136⟩, st136⟩ := Jvm.LawKit.callS X135 hx (y := (⟨"com/example/permits_from_duties/permitsfromduties/EventPerformerPinLaw", "pick", "(I)Lcom/example/permits_from_duties/permitsfromduties/Event$Transition;"⟩ : MethodName)) hown126 (mvT hZ126 (hw _ (List.mem_of_getElem? (i := 31) rfl))) (mvT hZ126 (hw _ (List.mem_of_getElem? (i := 32) rfl))) (mvT hZ126 (hw _ (List.mem_of_getElem? (i := 33) rfl))) (mvT hZ126 (hw _ (List.mem_of_getElem? (i := 34) rfl))) (by decide) (backOf (W := 5) (rmPk_A l Z a0 hw [] k w_SCHEDULE w_ASSIGN w_REASSIGN w_WITHDRAW w_START w_SUSPEND w_RESUME w_COMPLETE w_ATE_ABORT w_PI_ABORT w_MANUALSKIP w_AUTOSKIP w_UNKNOWN h135 n0 Zs135 hk.1 O135 S_SCHEDULE S_ASSIGN S_REASSIGN S_WITHDRAW S_START S_SUSPEND S_RESUME S_COMPLETE S_ATE_ABORT S_PI_ABORT S_MANUALSKIP S_AUTOSKIP S_UNKNOWN E_SCHEDULE E_ASSIGN E_REASSIGN E_WITHDRAW E_START E_SUSPEND E_RESUME E_COMPLETE E_ATE_ABORT E_PI_ABORT E_MANUALSKIP E_AUTOSKIP E_UNKNOWN F_SCHEDULE F_ASSIGN F_REASSIGN F_WITHDRAW F_START F_SUSPEND F_RESUME F_COMPLETE F_ATE_ABORT F_PI_ABORT F_MANUALSKIP F_AUTOSKIP F_UNKNOWN) hZ126 (hw _ (List.mem_of_getElem? (i := 34) rfl)) (hw _ (List.mem_of_getElem? (i := 33) rfl)) (by decide) (by decide)) (g := (mkF m 123 #[.val (.int p1), .val (.int p2), .val (.int p3), .val (.int p4), .val (.int k), .val (.ref b101), .val (.int (1 : Int32)), .val (.ref s126), .val (.ref sv127), .unset, .unset, .unset] [(.int k), .null, (.ref s126), (.ref sv127), (.ref b135), (.ref b135)])) rfl (by rw [hml]; rfl) (argsL := [(.int k)]) (rest := [.null, (.ref s126), (.ref sv127), (.ref b135), (.ref b135)]) (lenOf pd_13 rfl) rfl (by show 2 * 0 + _ ≤ _; exact Nat.le_of_eq rfl) (hb hby at_123) (fun _ _ => ⟨rfl, e135, (by decide : 6 + 0 ≤ _), (by decide : 17 + 0 ≤ _)⟩)
        dsimp only [Pt.U, Pt.locs, Pt.cells, Pt.slots] at X136 l136 y136 z136 st136 hQ136
        rw [l136, y136, z136] at X136
        replace X136 : Stand p l e _ _ m _ below meth c T136 _ 6 17 := X136
        obtain ⟨tr136, rfl, N136q, e136q, et136, fw136⟩ := hQ136
        have N136 := Fr.app N127 N136q
        refine Go.via st136 ?_
        have neb135_tr136 : b135 ≠ tr136 := ne_exa A135 et136 (by decide)
        show Go p e below _ (T136.setTop (mkF m 126 #[.val (.int p1), .val (.int p2), .val (.int p3), .val (.int p4), .val (.int k), .val (.ref b101), .val (.int (1 : Int32)), .val (.ref s126), .val (.ref sv127), .unset, .unset, .unset] [(.ref tr136), .null, (.ref s126), (.ref sv127), (.ref b135), (.ref b135)]))
        obtain ⟨_, _, ⟨T137, L137, k137, n137⟩, -, X137, S137w, gr137, ⟨Lc137, hQ137, l137, y137, z137⟩, st137⟩ := X136.specialBackS hx (y := (⟨"com/example/permits_from_duties/permitsfromduties/Event", "<init>", "(Ljava/lang/String;Ljava/lang/String;Ljava/time/Instant;Lcom/example/permits_from_duties/permitsfromduties/Event$Transition;)V"⟩ : MethodName)) rfl hown126 (mvT hZ126 (hw _ (List.mem_of_getElem? (i := 38) rfl))) (mvT hZ126 (hw _ (List.mem_of_getElem? (i := 39) rfl))) (mvT hZ126 (hw _ (List.mem_of_getElem? (i := 40) rfl))) (by decide) (backOfS (W := 1) (rmC4R l Z a0 hw [] b135 sv127 s126 tr136 em h135 n0 Zs135 A135 F_task_b135 F_user_b135 F_time_b135 F_transition_b135 F_location_b135 F_data_b135 g_b135 O135 S_EM) hZ126 (hw _ (List.mem_of_getElem? (i := 40) rfl)) (hw _ (List.mem_of_getElem? (i := 30) rfl)) (by decide) (by decide)) (g := (mkF m 126 #[.val (.int p1), .val (.int p2), .val (.int p3), .val (.int p4), .val (.int k), .val (.ref b101), .val (.int (1 : Int32)), .val (.ref s126), .val (.ref sv127), .unset, .unset, .unset] [(.ref tr136), .null, (.ref s126), (.ref sv127), (.ref b135), (.ref b135)])) rfl (by rw [hml]; rfl) (Steps.refl _) (a := b135) (argsL := [(.ref sv127), (.ref s126), .null, (.ref tr136)]) (rest := [(.ref b135)]) (lenOf pd_4 rfl) rfl (by show 2 * 0 + _ ≤ _; exact Nat.le_of_eq rfl) (hb hby at_126) (fun _ _ => ⟨rfl, e136q, (by decide : 6 + 4 ≤ _), (by decide : 17 + 64 ≤ _)⟩)
        dsimp only [Pt.U, Pt.locs, Pt.cells, Pt.slots] at X137 l137 y137 z137 st137 hQ137 S137w gr137
        rw [l137, y137, z137] at X137
        replace X137 : Stand p l e _ _ m _ below meth c T137 _ 10 81 := X137
        obtain ⟨rfl, N137q, K137q, fu137, ft137⟩ := hQ137
        have N137 := Fr.app N136 N137q
        refine Go.tr st137 ?_
        obtain ⟨X137r, hS137, hZ137, hown137⟩ := rebS hS126 (by rw [e136q]; exact hk135) X137 S137w gr137 hZ126 hown126
        have Zs137 : n0 ≤ T137.heap.size := Nat.le_trans Zs135 K137q.1
        have O137 : Old Z n0 T137.heap := O135.keep K137q (allS g_b135 all0)
        have fV_b101_137 := fV_b101_135.keep K137q (ninS ne_b101_b135 nin0)
        have fE_sv127_137 := fE_sv127_135.keep K137q
        have fE_b135_137 := A135.keep K137q
        have fE_tr136_137 := et136.keep K137q
        have fF_tr136_work_137 := fw136.keep K137q (ninS (Ne.symm neb135_tr136) nin0)
        show Go p e below _ (T137.setTop (mkF m 129 #[.val (.int p1), .val (.int p2), .val (.int p3), .val (.int p4), .val (.int k), .val (.ref b101), .val (.int (1 : Int32)), .val (.ref s126), .val (.ref sv127), .unset, .unset, .unset] [(.ref b135)]))
        refine Go.via (fun _ => XS.astore X137r.here hx rfl (hb hby at_129) rfl rfl (l' := #[.val (.int p1), .val (.int p2), .val (.int p3), .val (.int p4), .val (.int k), .val (.ref b101), .val (.int (1 : Int32)), .val (.ref s126), .val (.ref sv127), .val (.ref b135), .unset, .unset]) rfl) ?_
        show Go p e below _ (T137.setTop (mkF m 131 #[.val (.int p1), .val (.int p2), .val (.int p3), .val (.int p4), .val (.int k), .val (.ref b101), .val (.int (1 : Int32)), .val (.ref s126), .val (.ref sv127), .val (.ref b135), .unset, .unset] []))
        refine Go.via (fun _ => XS.iload X137r.here hx rfl (hb hby at_131) rfl) ?_
        show Go p e below _ (T137.setTop (mkF m 133 #[.val (.int p1), .val (.int p2), .val (.int p3), .val (.int p4), .val (.int k), .val (.ref b101), .val (.int (1 : Int32)), .val (.ref s126), .val (.ref sv127), .val (.ref b135), .unset, .unset] [(.int k)]))
        refine Go.via (fun _ => XS.iconst X137r.here hx rfl (hb hby at_133)) ?_
        show Go p e below _ (T137.setTop (mkF m 134 #[.val (.int p1), .val (.int p2), .val (.int p3), .val (.int p4), .val (.int k), .val (.ref b101), .val (.int (1 : Int32)), .val (.ref s126), .val (.ref sv127), .val (.ref b135), .unset, .unset] [(.int (4 : Int32)), (.int k)]))
        refine Go.via (fun _ => XS.icmpYes X137r.here hx rfl (pc0 := 134) (pc' := 144) rfl (hb hby at_134) rfl (tlt hk.2.2.1).1 (by decide) (by decide)) ?_
        show Go p e below _ (T137.setTop (mkF m 144 #[.val (.int p1), .val (.int p2), .val (.int p3), .val (.int p4), .val (.int k), .val (.ref b101), .val (.int (1 : Int32)), .val (.ref s126), .val (.ref sv127), .val (.ref b135), .unset, .unset] []))
        refine Go.via (fun _ => XS.iload X137r.here hx rfl (hb hby at_144) rfl) ?_
        show Go p e below _ (T137.setTop (mkF m 146 #[.val (.int p1), .val (.int p2), .val (.int p3), .val (.int p4), .val (.int k), .val (.ref b101), .val (.int (1 : Int32)), .val (.ref s126), .val (.ref sv127), .val (.ref b135), .unset, .unset] [(.int k)]))
        refine Go.via (fun _ => XS.bipush X137r.here hx rfl (hb hby at_146)) ?_
        show Go p e below _ (T137.setTop (mkF m 148 #[.val (.int p1), .val (.int p2), .val (.int p3), .val (.int p4), .val (.int k), .val (.ref b101), .val (.int (1 : Int32)), .val (.ref s126), .val (.ref sv127), .val (.ref b135), .unset, .unset] [(.int (12 : Int32)), (.int k)]))
        refine Go.via (fun _ => XS.icmpYes X137r.here hx rfl (pc0 := 148) (pc' := 155) rfl (hb hby at_148) rfl (tlt hk.2.2.2).1 (by decide) (by decide)) ?_
        show Go p e below _ (T137.setTop (mkF m 155 #[.val (.int p1), .val (.int p2), .val (.int p3), .val (.int p4), .val (.int k), .val (.ref b101), .val (.int (1 : Int32)), .val (.ref s126), .val (.ref sv127), .val (.ref b135), .unset, .unset] []))
        refine Go.via (fun _ => XS.iconst X137r.here hx rfl (hb hby at_155)) ?_
        show Go p e below _ (T137.setTop (mkF m 156 #[.val (.int p1), .val (.int p2), .val (.int p3), .val (.int p4), .val (.int k), .val (.ref b101), .val (.int (1 : Int32)), .val (.ref s126), .val (.ref sv127), .val (.ref b135), .unset, .unset] [(.int (0 : Int32))]))
        refine Go.via (fun _ => XS.istore X137r.here hx rfl (hb hby at_156) rfl (l' := #[.val (.int p1), .val (.int p2), .val (.int p3), .val (.int p4), .val (.int k), .val (.ref b101), .val (.int (1 : Int32)), .val (.ref s126), .val (.ref sv127), .val (.ref b135), .val (.int (0 : Int32)), .unset]) rfl) ?_
        show Go p e below _ (T137.setTop (mkF m 158 #[.val (.int p1), .val (.int p2), .val (.int p3), .val (.int p4), .val (.int k), .val (.ref b101), .val (.int (1 : Int32)), .val (.ref s126), .val (.ref sv127), .val (.ref b135), .val (.int (0 : Int32)), .unset] []))
        refine Go.via (fun _ => XS.aload X137r.here hx rfl (hb hby at_158) rfl rfl) ?_
        show Go p e below _ (T137.setTop (mkF m 160 #[.val (.int p1), .val (.int p2), .val (.int p3), .val (.int p4), .val (.int k), .val (.ref b101), .val (.int (1 : Int32)), .val (.ref s126), .val (.ref sv127), .val (.ref b135), .val (.int (0 : Int32)), .unset] [(.ref b135)]))
        obtain ⟨cq138, kq138, q138a, q138b, q138c⟩ := isOf hZ137 rfl fE_b135_137
        obtain ⟨_, _, ⟨T138, L138, k138, n138⟩, -, X138, ⟨Lc138, hQ138, l138, y138, z138⟩, st138⟩ := X137r.virtualBack hx (y := (⟨"com/example/permits_from_duties/permitsfromduties/Event", "performer", "()Ljava/lang/String;"⟩ : MethodName)) (z := (⟨"com/example/permits_from_duties/permitsfromduties/Event", "performer", "()Ljava/lang/String;"⟩ : MethodName)) hown137 (mvT hZ137 (hw _ (List.mem_of_getElem? (i := 76) rfl))) (mvT hZ137 (hw _ (List.mem_of_getElem? (i := 77) rfl))) (notFace_of_selects (args := #[]) (mvT hZ137 (hw _ (List.mem_of_getElem? (i := 79) rfl)))) (mvT hZ137 (hw _ (List.mem_of_getElem? (i := 79) rfl))) (mvT hZ137 (hw _ (List.mem_of_getElem? (i := 78) rfl))) (by decide) (backOf (W := 0) (rmPf_0R l Z a0 hw [] b135 tr136 s126 T137.heap n0 Zs137 fE_b135_137 ft137 fE_tr136_137 fF_tr136_work_137 fu137) hZ137 (hw _ (List.mem_of_getElem? (i := 80) rfl)) (hw _ (List.mem_of_getElem? (i := 30) rfl)) (by decide) (by decide)) q138a q138c (g := (mkF m 160 #[.val (.int p1), .val (.int p2), .val (.int p3), .val (.int p4), .val (.int k), .val (.ref b101), .val (.int (1 : Int32)), .val (.ref s126), .val (.ref sv127), .val (.ref b135), .val (.int (0 : Int32)), .unset] [(.ref b135)])) rfl (by rw [hml]; rfl) (Steps.refl _) (argsL := []) (rest := []) (lenOf pd_12 rfl) rfl (by show 2 * 0 + _ ≤ _; exact Nat.le_of_eq rfl) (hb hby at_160) (fun _ _ => ⟨rfl, rfl, (by decide : 10 + 0 ≤ _), (by decide : 81 + 0 ≤ _)⟩)
        dsimp only [Pt.U, Pt.locs, Pt.cells, Pt.slots] at X138 l138 y138 z138 st138 hQ138
        rw [l138, y138, z138] at X138
        replace X138 : Stand p l e _ _ m _ below meth c T138 _ 10 81 := X138
        obtain ⟨rfl, N138q, e138q⟩ := hQ138
        have N138 := Fr.app N137 N138q
        refine Go.tr st138 ?_
        show Go p e below _ (T138.setTop (mkF m 163 #[.val (.int p1), .val (.int p2), .val (.int p3), .val (.int p4), .val (.int k), .val (.ref b101), .val (.int (1 : Int32)), .val (.ref s126), .val (.ref sv127), .val (.ref b135), .val (.int (0 : Int32)), .unset] [.null]))
        refine Go.via (fun _ => XS.astore X138.here hx rfl (hb hby at_163) rfl rfl (l' := #[.val (.int p1), .val (.int p2), .val (.int p3), .val (.int p4), .val (.int k), .val (.ref b101), .val (.int (1 : Int32)), .val (.ref s126), .val (.ref sv127), .val (.ref b135), .val (.int (0 : Int32)), .val .null]) rfl) ?_
        show Go p e below _ (T138.setTop (mkF m 165 #[.val (.int p1), .val (.int p2), .val (.int p3), .val (.int p4), .val (.int k), .val (.ref b101), .val (.int (1 : Int32)), .val (.ref s126), .val (.ref sv127), .val (.ref b135), .val (.int (0 : Int32)), .val .null] []))
        refine Go.via (fun _ => XS.iload X138.here hx rfl (hb hby at_165) rfl) ?_
        show Go p e below _ (T138.setTop (mkF m 167 #[.val (.int p1), .val (.int p2), .val (.int p3), .val (.int p4), .val (.int k), .val (.ref b101), .val (.int (1 : Int32)), .val (.ref s126), .val (.ref sv127), .val (.ref b135), .val (.int (0 : Int32)), .val .null] [(.int (0 : Int32))]))
        refine Go.via (fun _ => XS.ifYes X138.here hx rfl (pc0 := 167) (pc' := 183) rfl (hb hby at_167) rfl (by decide) (by decide) (by decide)) ?_
        show Go p e below _ (T138.setTop (mkF m 183 #[.val (.int p1), .val (.int p2), .val (.int p3), .val (.int p4), .val (.int k), .val (.ref b101), .val (.int (1 : Int32)), .val (.ref s126), .val (.ref sv127), .val (.ref b135), .val (.int (0 : Int32)), .val .null] []))
        refine Go.via (fun _ => XS.aload X138.here hx rfl (hb hby at_183) rfl rfl) ?_
        show Go p e below _ (T138.setTop (mkF m 185 #[.val (.int p1), .val (.int p2), .val (.int p3), .val (.int p4), .val (.int k), .val (.ref b101), .val (.int (1 : Int32)), .val (.ref s126), .val (.ref sv127), .val (.ref b135), .val (.int (0 : Int32)), .val .null] [.null]))
        refine Go.via (fun _ => XS.ifnonnullNo X138.here hx rfl (hb hby at_185) rfl) ?_
        show Go p e below _ (T138.setTop (mkF m 188 #[.val (.int p1), .val (.int p2), .val (.int p3), .val (.int p4), .val (.int k), .val (.ref b101), .val (.int (1 : Int32)), .val (.ref s126), .val (.ref sv127), .val (.ref b135), .val (.int (0 : Int32)), .val .null] []))
        refine Go.via (fun _ => XS.iconst X138.here hx rfl (hb hby at_188)) ?_
        show Go p e below _ (T138.setTop (mkF m 189 #[.val (.int p1), .val (.int p2), .val (.int p3), .val (.int p4), .val (.int k), .val (.ref b101), .val (.int (1 : Int32)), .val (.ref s126), .val (.ref sv127), .val (.ref b135), .val (.int (0 : Int32)), .val .null] [(.int (1 : Int32))]))
        refine Go.via (fun _ => XS.goto X138.here hx rfl (pc0 := 189) (pc' := 193) rfl (hb hby at_189) (by decide) (by decide)) ?_
        show Go p e below _ (T138.setTop (mkF m 193 #[.val (.int p1), .val (.int p2), .val (.int p3), .val (.int p4), .val (.int k), .val (.ref b101), .val (.int (1 : Int32)), .val (.ref s126), .val (.ref sv127), .val (.ref b135), .val (.int (0 : Int32)), .val .null] [(.int (1 : Int32))]))
        exact own_retNW X138 hS137 (by rw [e138q]; exact (Nat.le_refl _)) hx hlk (t := .boolean) Bd.returns (by simp) (hb hby at_193) (by show Q0 Z p1 p2 p3 p4 ccs w_SCHEDULE w_ASSIGN w_REASSIGN w_WITHDRAW w_START w_SUSPEND w_RESUME w_COMPLETE w_ATE_ABORT w_PI_ABORT w_MANUALSKIP w_AUTOSKIP w_UNKNOWN em h0 n0 _ T138.heap _; rw [e138q]; exact ⟨rfl, N138⟩) (by decide) (by decide)
      ·
        show Go p e below _ (T127.setTop (mkF m 89 #[.val (.int p1), .val (.int p2), .val (.int p3), .val (.int p4), .val (.int k), .val (.ref b101), .val (.int (1 : Int32)), .val (.ref s126), .val (.ref sv127), .unset, .unset, .unset] []))
        refine Go.via (fun _ => XS.iload X127.here hx rfl (hb hby at_89) rfl) ?_
        show Go p e below _ (T127.setTop (mkF m 91 #[.val (.int p1), .val (.int p2), .val (.int p3), .val (.int p4), .val (.int k), .val (.ref b101), .val (.int (1 : Int32)), .val (.ref s126), .val (.ref sv127), .unset, .unset, .unset] [(.int k)]))
        refine Go.via (fun _ => XS.bipush X127.here hx rfl (hb hby at_91)) ?_
        show Go p e below _ (T127.setTop (mkF m 93 #[.val (.int p1), .val (.int p2), .val (.int p3), .val (.int p4), .val (.int k), .val (.ref b101), .val (.int (1 : Int32)), .val (.ref s126), .val (.ref sv127), .unset, .unset, .unset] [(.int (13 : Int32)), (.int k)]))
        refine Go.via (fun _ => XS.icmpYes X127.here hx rfl (pc0 := 93) (pc' := 112) rfl (hb hby at_93) rfl (feq hk.2.1).2 (by decide) (by decide)) ?_
        show Go p e below _ (T127.setTop (mkF m 112 #[.val (.int p1), .val (.int p2), .val (.int p3), .val (.int p4), .val (.int k), .val (.ref b101), .val (.int (1 : Int32)), .val (.ref s126), .val (.ref sv127), .unset, .unset, .unset] []))
        obtain ⟨T139, h139, X139, e139, E139, A139, D139, -, st139⟩ := newO X127 hx hZ126 hown126 (hw _ (List.mem_of_getElem? (i := 28) rfl)) (hw _ (List.mem_of_getElem? (i := 29) rfl)) (hw _ (List.mem_of_getElem? (i := 30) rfl)) rfl (g := (mkF m 112 #[.val (.int p1), .val (.int p2), .val (.int p3), .val (.int p4), .val (.int k), .val (.ref b101), .val (.int (1 : Int32)), .val (.ref s126), .val (.ref sv127), .unset, .unset, .unset] [])) rfl (hb hby at_112) (by decide) (by decide)
        obtain ⟨b139, g139⟩ : ∃ z, z = T127.heap.size := ⟨_, rfl⟩
        rw [← g139] at A139 D139 st139
        have g_b139 : n0 ≤ b139 := Nat.le_trans Zs127 (Nat.le_of_eq g139.symm)
        have ne_b101_b139 : b101 ≠ b139 := Nat.ne_of_lt (Nat.lt_of_lt_of_le fV_b101_127.lt (Nat.le_of_eq g139.symm))
        have ne_sv127_b139 : sv127 ≠ b139 := Nat.ne_of_lt (Nat.lt_of_lt_of_le ev127.lt (Nat.le_of_eq g139.symm))
        refine Go.via st139 ?_
        have Zs139 : n0 ≤ h139.size := Nat.le_trans Zs127 E139.1
        have hk139 : kk126 ≤ h139.size := Nat.le_trans hk127 E139.1
        have O139 : Old Z n0 h139 := O127.ext E139
        have fV_b101_139 := fV_b101_127.ext E139
        have fE_sv127_139 := ev127.ext E139
        have F_task_b139 : Fld Z h139 b139 "com/example/permits_from_duties/permitsfromduties/Event" "task" "Ljava/lang/String;" .null := D139 (Or.inr (hw _ (List.mem_of_getElem? (i := 65) rfl))) (ty := (.object "java/lang/String")) (by decide)
        have F_user_b139 : Fld Z h139 b139 "com/example/permits_from_duties/permitsfromduties/Event" "user" "Ljava/lang/String;" .null := D139 (Or.inr (hw _ (List.mem_of_getElem? (i := 67) rfl))) (ty := (.object "java/lang/String")) (by decide)
        have F_time_b139 : Fld Z h139 b139 "com/example/permits_from_duties/permitsfromduties/Event" "time" "Ljava/time/Instant;" .null := D139 (Or.inr (hw _ (List.mem_of_getElem? (i := 69) rfl))) (ty := (.object "java/time/Instant")) (by decide)
        have F_transition_b139 : Fld Z h139 b139 "com/example/permits_from_duties/permitsfromduties/Event" "transition" "Lcom/example/permits_from_duties/permitsfromduties/Event$Transition;" .null := D139 (Or.inr (hw _ (List.mem_of_getElem? (i := 71) rfl))) (ty := (.object "com/example/permits_from_duties/permitsfromduties/Event$Transition")) (by decide)
        have F_location_b139 : Fld Z h139 b139 "com/example/permits_from_duties/permitsfromduties/Event" "location" "Ljava/lang/String;" .null := D139 (Or.inr (hw _ (List.mem_of_getElem? (i := 73) rfl))) (ty := (.object "java/lang/String")) (by decide)
        have F_data_b139 : Fld Z h139 b139 "com/example/permits_from_duties/permitsfromduties/Event" "data" "Ljava/util/Map;" .null := D139 (Or.inr (hw _ (List.mem_of_getElem? (i := 75) rfl))) (ty := (.object "java/util/Map")) (by decide)
        show Go p e below _ (T139.setTop (mkF m 115 #[.val (.int p1), .val (.int p2), .val (.int p3), .val (.int p4), .val (.int k), .val (.ref b101), .val (.int (1 : Int32)), .val (.ref s126), .val (.ref sv127), .unset, .unset, .unset] [(.ref b139)]))
        refine Go.via (fun _ => XS.dup X139.here hx rfl (hb hby at_115) rfl rfl) ?_
        show Go p e below _ (T139.setTop (mkF m 116 #[.val (.int p1), .val (.int p2), .val (.int p3), .val (.int p4), .val (.int k), .val (.ref b101), .val (.int (1 : Int32)), .val (.ref s126), .val (.ref sv127), .unset, .unset, .unset] [(.ref b139), (.ref b139)]))
        refine Go.via (fun _ => XS.aload X139.here hx rfl (hb hby at_116) rfl rfl) ?_
        show Go p e below _ (T139.setTop (mkF m 118 #[.val (.int p1), .val (.int p2), .val (.int p3), .val (.int p4), .val (.int k), .val (.ref b101), .val (.int (1 : Int32)), .val (.ref s126), .val (.ref sv127), .unset, .unset, .unset] [(.ref sv127), (.ref b139), (.ref b139)]))
        refine Go.via (fun _ => XS.aload X139.here hx rfl (hb hby at_118) rfl rfl) ?_
        show Go p e below _ (T139.setTop (mkF m 120 #[.val (.int p1), .val (.int p2), .val (.int p3), .val (.int p4), .val (.int k), .val (.ref b101), .val (.int (1 : Int32)), .val (.ref s126), .val (.ref sv127), .unset, .unset, .unset] [(.ref s126), (.ref sv127), (.ref b139), (.ref b139)]))
        refine Go.via (fun _ => XS.aconstNull X139.here hx rfl (hb hby at_120)) ?_
        show Go p e below _ (T139.setTop (mkF m 121 #[.val (.int p1), .val (.int p2), .val (.int p3), .val (.int p4), .val (.int k), .val (.ref b101), .val (.int (1 : Int32)), .val (.ref s126), .val (.ref sv127), .unset, .unset, .unset] [.null, (.ref s126), (.ref sv127), (.ref b139), (.ref b139)]))
        refine Go.via (fun _ => XS.iload X139.here hx rfl (hb hby at_121) rfl) ?_
        show Go p e below _ (T139.setTop (mkF m 123 #[.val (.int p1), .val (.int p2), .val (.int p3), .val (.int p4), .val (.int k), .val (.ref b101), .val (.int (1 : Int32)), .val (.ref s126), .val (.ref sv127), .unset, .unset, .unset] [(.int k), .null, (.ref s126), (.ref sv127), (.ref b139), (.ref b139)]))
        obtain ⟨_, _, ⟨T140, L140, k140, n140⟩, -, X140, ⟨Lc140, hQ140, l140, y140, z140⟩, st140⟩ := Jvm.LawKit.callS X139 hx (y := (⟨"com/example/permits_from_duties/permitsfromduties/EventPerformerPinLaw", "pick", "(I)Lcom/example/permits_from_duties/permitsfromduties/Event$Transition;"⟩ : MethodName)) hown126 (mvT hZ126 (hw _ (List.mem_of_getElem? (i := 31) rfl))) (mvT hZ126 (hw _ (List.mem_of_getElem? (i := 32) rfl))) (mvT hZ126 (hw _ (List.mem_of_getElem? (i := 33) rfl))) (mvT hZ126 (hw _ (List.mem_of_getElem? (i := 34) rfl))) (by decide) (backOf (W := 5) (rmPk_B l Z a0 hw [] k w_SCHEDULE w_ASSIGN w_REASSIGN w_WITHDRAW w_START w_SUSPEND w_RESUME w_COMPLETE w_ATE_ABORT w_PI_ABORT w_MANUALSKIP w_AUTOSKIP w_UNKNOWN h139 n0 Zs139 hk.1 O139 S_SCHEDULE S_ASSIGN S_REASSIGN S_WITHDRAW S_START S_SUSPEND S_RESUME S_COMPLETE S_ATE_ABORT S_PI_ABORT S_MANUALSKIP S_AUTOSKIP S_UNKNOWN E_SCHEDULE E_ASSIGN E_REASSIGN E_WITHDRAW E_START E_SUSPEND E_RESUME E_COMPLETE E_ATE_ABORT E_PI_ABORT E_MANUALSKIP E_AUTOSKIP E_UNKNOWN F_SCHEDULE F_ASSIGN F_REASSIGN F_WITHDRAW F_START F_SUSPEND F_RESUME F_COMPLETE F_ATE_ABORT F_PI_ABORT F_MANUALSKIP F_AUTOSKIP F_UNKNOWN) hZ126 (hw _ (List.mem_of_getElem? (i := 34) rfl)) (hw _ (List.mem_of_getElem? (i := 33) rfl)) (by decide) (by decide)) (g := (mkF m 123 #[.val (.int p1), .val (.int p2), .val (.int p3), .val (.int p4), .val (.int k), .val (.ref b101), .val (.int (1 : Int32)), .val (.ref s126), .val (.ref sv127), .unset, .unset, .unset] [(.int k), .null, (.ref s126), (.ref sv127), (.ref b139), (.ref b139)])) rfl (by rw [hml]; rfl) (argsL := [(.int k)]) (rest := [.null, (.ref s126), (.ref sv127), (.ref b139), (.ref b139)]) (lenOf pd_13 rfl) rfl (by show 2 * 0 + _ ≤ _; exact Nat.le_of_eq rfl) (hb hby at_123) (fun _ _ => ⟨rfl, e139, (by decide : 6 + 0 ≤ _), (by decide : 17 + 0 ≤ _)⟩)
        dsimp only [Pt.U, Pt.locs, Pt.cells, Pt.slots] at X140 l140 y140 z140 st140 hQ140
        rw [l140, y140, z140] at X140
        replace X140 : Stand p l e _ _ m _ below meth c T140 _ 6 17 := X140
        obtain ⟨tr140, rfl, N140q, e140q, et140, fw140⟩ := hQ140
        have N140 := Fr.app N127 N140q
        refine Go.via st140 ?_
        have neb139_tr140 : b139 ≠ tr140 := ne_exa A139 et140 (by decide)
        show Go p e below _ (T140.setTop (mkF m 126 #[.val (.int p1), .val (.int p2), .val (.int p3), .val (.int p4), .val (.int k), .val (.ref b101), .val (.int (1 : Int32)), .val (.ref s126), .val (.ref sv127), .unset, .unset, .unset] [(.ref tr140), .null, (.ref s126), (.ref sv127), (.ref b139), (.ref b139)]))
        obtain ⟨_, _, ⟨T141, L141, k141, n141⟩, -, X141, S141w, gr141, ⟨Lc141, hQ141, l141, y141, z141⟩, st141⟩ := X140.specialBackS hx (y := (⟨"com/example/permits_from_duties/permitsfromduties/Event", "<init>", "(Ljava/lang/String;Ljava/lang/String;Ljava/time/Instant;Lcom/example/permits_from_duties/permitsfromduties/Event$Transition;)V"⟩ : MethodName)) rfl hown126 (mvT hZ126 (hw _ (List.mem_of_getElem? (i := 38) rfl))) (mvT hZ126 (hw _ (List.mem_of_getElem? (i := 39) rfl))) (mvT hZ126 (hw _ (List.mem_of_getElem? (i := 40) rfl))) (by decide) (backOfS (W := 1) (rmC4R l Z a0 hw [] b139 sv127 s126 tr140 em h139 n0 Zs139 A139 F_task_b139 F_user_b139 F_time_b139 F_transition_b139 F_location_b139 F_data_b139 g_b139 O139 S_EM) hZ126 (hw _ (List.mem_of_getElem? (i := 40) rfl)) (hw _ (List.mem_of_getElem? (i := 30) rfl)) (by decide) (by decide)) (g := (mkF m 126 #[.val (.int p1), .val (.int p2), .val (.int p3), .val (.int p4), .val (.int k), .val (.ref b101), .val (.int (1 : Int32)), .val (.ref s126), .val (.ref sv127), .unset, .unset, .unset] [(.ref tr140), .null, (.ref s126), (.ref sv127), (.ref b139), (.ref b139)])) rfl (by rw [hml]; rfl) (Steps.refl _) (a := b139) (argsL := [(.ref sv127), (.ref s126), .null, (.ref tr140)]) (rest := [(.ref b139)]) (lenOf pd_4 rfl) rfl (by show 2 * 0 + _ ≤ _; exact Nat.le_of_eq rfl) (hb hby at_126) (fun _ _ => ⟨rfl, e140q, (by decide : 6 + 4 ≤ _), (by decide : 17 + 64 ≤ _)⟩)
        dsimp only [Pt.U, Pt.locs, Pt.cells, Pt.slots] at X141 l141 y141 z141 st141 hQ141 S141w gr141
        rw [l141, y141, z141] at X141
        replace X141 : Stand p l e _ _ m _ below meth c T141 _ 10 81 := X141
        obtain ⟨rfl, N141q, K141q, fu141, ft141⟩ := hQ141
        have N141 := Fr.app N140 N141q
        refine Go.tr st141 ?_
        obtain ⟨X141r, hS141, hZ141, hown141⟩ := rebS hS126 (by rw [e140q]; exact hk139) X141 S141w gr141 hZ126 hown126
        have Zs141 : n0 ≤ T141.heap.size := Nat.le_trans Zs139 K141q.1
        have O141 : Old Z n0 T141.heap := O139.keep K141q (allS g_b139 all0)
        have fV_b101_141 := fV_b101_139.keep K141q (ninS ne_b101_b139 nin0)
        have fE_sv127_141 := fE_sv127_139.keep K141q
        have fE_b139_141 := A139.keep K141q
        have fE_tr140_141 := et140.keep K141q
        have fF_tr140_work_141 := fw140.keep K141q (ninS (Ne.symm neb139_tr140) nin0)
        show Go p e below _ (T141.setTop (mkF m 129 #[.val (.int p1), .val (.int p2), .val (.int p3), .val (.int p4), .val (.int k), .val (.ref b101), .val (.int (1 : Int32)), .val (.ref s126), .val (.ref sv127), .unset, .unset, .unset] [(.ref b139)]))
        refine Go.via (fun _ => XS.astore X141r.here hx rfl (hb hby at_129) rfl rfl (l' := #[.val (.int p1), .val (.int p2), .val (.int p3), .val (.int p4), .val (.int k), .val (.ref b101), .val (.int (1 : Int32)), .val (.ref s126), .val (.ref sv127), .val (.ref b139), .unset, .unset]) rfl) ?_
        show Go p e below _ (T141.setTop (mkF m 131 #[.val (.int p1), .val (.int p2), .val (.int p3), .val (.int p4), .val (.int k), .val (.ref b101), .val (.int (1 : Int32)), .val (.ref s126), .val (.ref sv127), .val (.ref b139), .unset, .unset] []))
        refine Go.via (fun _ => XS.iload X141r.here hx rfl (hb hby at_131) rfl) ?_
        show Go p e below _ (T141.setTop (mkF m 133 #[.val (.int p1), .val (.int p2), .val (.int p3), .val (.int p4), .val (.int k), .val (.ref b101), .val (.int (1 : Int32)), .val (.ref s126), .val (.ref sv127), .val (.ref b139), .unset, .unset] [(.int k)]))
        refine Go.via (fun _ => XS.iconst X141r.here hx rfl (hb hby at_133)) ?_
        show Go p e below _ (T141.setTop (mkF m 134 #[.val (.int p1), .val (.int p2), .val (.int p3), .val (.int p4), .val (.int k), .val (.ref b101), .val (.int (1 : Int32)), .val (.ref s126), .val (.ref sv127), .val (.ref b139), .unset, .unset] [(.int (4 : Int32)), (.int k)]))
        refine Go.via (fun _ => XS.icmpNo X141r.here hx rfl (hb hby at_134) rfl (flt hk.2.2.1).1) ?_
        show Go p e below _ (T141.setTop (mkF m 137 #[.val (.int p1), .val (.int p2), .val (.int p3), .val (.int p4), .val (.int k), .val (.ref b101), .val (.int (1 : Int32)), .val (.ref s126), .val (.ref sv127), .val (.ref b139), .unset, .unset] []))
        refine Go.via (fun _ => XS.iload X141r.here hx rfl (hb hby at_137) rfl) ?_
        show Go p e below _ (T141.setTop (mkF m 139 #[.val (.int p1), .val (.int p2), .val (.int p3), .val (.int p4), .val (.int k), .val (.ref b101), .val (.int (1 : Int32)), .val (.ref s126), .val (.ref sv127), .val (.ref b139), .unset, .unset] [(.int k)]))
        refine Go.via (fun _ => XS.bipush X141r.here hx rfl (hb hby at_139)) ?_
        show Go p e below _ (T141.setTop (mkF m 141 #[.val (.int p1), .val (.int p2), .val (.int p3), .val (.int p4), .val (.int k), .val (.ref b101), .val (.int (1 : Int32)), .val (.ref s126), .val (.ref sv127), .val (.ref b139), .unset, .unset] [(.int (8 : Int32)), (.int k)]))
        refine Go.via (fun _ => XS.icmpYes X141r.here hx rfl (pc0 := 141) (pc' := 151) rfl (hb hby at_141) rfl (flt hk.2.2.2).2.2.2 (by decide) (by decide)) ?_
        show Go p e below _ (T141.setTop (mkF m 151 #[.val (.int p1), .val (.int p2), .val (.int p3), .val (.int p4), .val (.int k), .val (.ref b101), .val (.int (1 : Int32)), .val (.ref s126), .val (.ref sv127), .val (.ref b139), .unset, .unset] []))
        refine Go.via (fun _ => XS.iconst X141r.here hx rfl (hb hby at_151)) ?_
        show Go p e below _ (T141.setTop (mkF m 152 #[.val (.int p1), .val (.int p2), .val (.int p3), .val (.int p4), .val (.int k), .val (.ref b101), .val (.int (1 : Int32)), .val (.ref s126), .val (.ref sv127), .val (.ref b139), .unset, .unset] [(.int (1 : Int32))]))
        refine Go.via (fun _ => XS.goto X141r.here hx rfl (pc0 := 152) (pc' := 156) rfl (hb hby at_152) (by decide) (by decide)) ?_
        show Go p e below _ (T141.setTop (mkF m 156 #[.val (.int p1), .val (.int p2), .val (.int p3), .val (.int p4), .val (.int k), .val (.ref b101), .val (.int (1 : Int32)), .val (.ref s126), .val (.ref sv127), .val (.ref b139), .unset, .unset] [(.int (1 : Int32))]))
        refine Go.via (fun _ => XS.istore X141r.here hx rfl (hb hby at_156) rfl (l' := #[.val (.int p1), .val (.int p2), .val (.int p3), .val (.int p4), .val (.int k), .val (.ref b101), .val (.int (1 : Int32)), .val (.ref s126), .val (.ref sv127), .val (.ref b139), .val (.int (1 : Int32)), .unset]) rfl) ?_
        show Go p e below _ (T141.setTop (mkF m 158 #[.val (.int p1), .val (.int p2), .val (.int p3), .val (.int p4), .val (.int k), .val (.ref b101), .val (.int (1 : Int32)), .val (.ref s126), .val (.ref sv127), .val (.ref b139), .val (.int (1 : Int32)), .unset] []))
        refine Go.via (fun _ => XS.aload X141r.here hx rfl (hb hby at_158) rfl rfl) ?_
        show Go p e below _ (T141.setTop (mkF m 160 #[.val (.int p1), .val (.int p2), .val (.int p3), .val (.int p4), .val (.int k), .val (.ref b101), .val (.int (1 : Int32)), .val (.ref s126), .val (.ref sv127), .val (.ref b139), .val (.int (1 : Int32)), .unset] [(.ref b139)]))
        obtain ⟨cq142, kq142, q142a, q142b, q142c⟩ := isOf hZ141 rfl fE_b139_141
        obtain ⟨_, _, ⟨T142, L142, k142, n142⟩, -, X142, ⟨Lc142, hQ142, l142, y142, z142⟩, st142⟩ := X141r.virtualBack hx (y := (⟨"com/example/permits_from_duties/permitsfromduties/Event", "performer", "()Ljava/lang/String;"⟩ : MethodName)) (z := (⟨"com/example/permits_from_duties/permitsfromduties/Event", "performer", "()Ljava/lang/String;"⟩ : MethodName)) hown141 (mvT hZ141 (hw _ (List.mem_of_getElem? (i := 76) rfl))) (mvT hZ141 (hw _ (List.mem_of_getElem? (i := 77) rfl))) (notFace_of_selects (args := #[]) (mvT hZ141 (hw _ (List.mem_of_getElem? (i := 79) rfl)))) (mvT hZ141 (hw _ (List.mem_of_getElem? (i := 79) rfl))) (mvT hZ141 (hw _ (List.mem_of_getElem? (i := 78) rfl))) (by decide) (backOf (W := 0) (rmPf_1R l Z a0 hw [] b139 tr140 s126 T141.heap n0 Zs141 fE_b139_141 ft141 fE_tr140_141 fF_tr140_work_141 fu141) hZ141 (hw _ (List.mem_of_getElem? (i := 80) rfl)) (hw _ (List.mem_of_getElem? (i := 30) rfl)) (by decide) (by decide)) q142a q142c (g := (mkF m 160 #[.val (.int p1), .val (.int p2), .val (.int p3), .val (.int p4), .val (.int k), .val (.ref b101), .val (.int (1 : Int32)), .val (.ref s126), .val (.ref sv127), .val (.ref b139), .val (.int (1 : Int32)), .unset] [(.ref b139)])) rfl (by rw [hml]; rfl) (Steps.refl _) (argsL := []) (rest := []) (lenOf pd_12 rfl) rfl (by show 2 * 0 + _ ≤ _; exact Nat.le_of_eq rfl) (hb hby at_160) (fun _ _ => ⟨rfl, rfl, (by decide : 10 + 0 ≤ _), (by decide : 81 + 0 ≤ _)⟩)
        dsimp only [Pt.U, Pt.locs, Pt.cells, Pt.slots] at X142 l142 y142 z142 st142 hQ142
        rw [l142, y142, z142] at X142
        replace X142 : Stand p l e _ _ m _ below meth c T142 _ 10 81 := X142
        obtain ⟨rfl, N142q, e142q⟩ := hQ142
        have N142 := Fr.app N141 N142q
        refine Go.tr st142 ?_
        show Go p e below _ (T142.setTop (mkF m 163 #[.val (.int p1), .val (.int p2), .val (.int p3), .val (.int p4), .val (.int k), .val (.ref b101), .val (.int (1 : Int32)), .val (.ref s126), .val (.ref sv127), .val (.ref b139), .val (.int (1 : Int32)), .unset] [(.ref s126)]))
        refine Go.via (fun _ => XS.astore X142.here hx rfl (hb hby at_163) rfl rfl (l' := #[.val (.int p1), .val (.int p2), .val (.int p3), .val (.int p4), .val (.int k), .val (.ref b101), .val (.int (1 : Int32)), .val (.ref s126), .val (.ref sv127), .val (.ref b139), .val (.int (1 : Int32)), .val (.ref s126)]) rfl) ?_
        show Go p e below _ (T142.setTop (mkF m 165 #[.val (.int p1), .val (.int p2), .val (.int p3), .val (.int p4), .val (.int k), .val (.ref b101), .val (.int (1 : Int32)), .val (.ref s126), .val (.ref sv127), .val (.ref b139), .val (.int (1 : Int32)), .val (.ref s126)] []))
        refine Go.via (fun _ => XS.iload X142.here hx rfl (hb hby at_165) rfl) ?_
        show Go p e below _ (T142.setTop (mkF m 167 #[.val (.int p1), .val (.int p2), .val (.int p3), .val (.int p4), .val (.int k), .val (.ref b101), .val (.int (1 : Int32)), .val (.ref s126), .val (.ref sv127), .val (.ref b139), .val (.int (1 : Int32)), .val (.ref s126)] [(.int (1 : Int32))]))
        refine Go.via (fun _ => XS.ifNo X142.here hx rfl (hb hby at_167) rfl (by decide)) ?_
        show Go p e below _ (T142.setTop (mkF m 170 #[.val (.int p1), .val (.int p2), .val (.int p3), .val (.int p4), .val (.int k), .val (.ref b101), .val (.int (1 : Int32)), .val (.ref s126), .val (.ref sv127), .val (.ref b139), .val (.int (1 : Int32)), .val (.ref s126)] []))
        refine Go.via (fun _ => XS.aload X142.here hx rfl (hb hby at_170) rfl rfl) ?_
        show Go p e below _ (T142.setTop (mkF m 172 #[.val (.int p1), .val (.int p2), .val (.int p3), .val (.int p4), .val (.int k), .val (.ref b101), .val (.int (1 : Int32)), .val (.ref s126), .val (.ref sv127), .val (.ref b139), .val (.int (1 : Int32)), .val (.ref s126)] [(.ref s126)]))
        refine Go.via (fun _ => XS.aload X142.here hx rfl (hb hby at_172) rfl rfl) ?_
        show Go p e below _ (T142.setTop (mkF m 174 #[.val (.int p1), .val (.int p2), .val (.int p3), .val (.int p4), .val (.int k), .val (.ref b101), .val (.int (1 : Int32)), .val (.ref s126), .val (.ref sv127), .val (.ref b139), .val (.int (1 : Int32)), .val (.ref s126)] [(.ref s126), (.ref s126)]))
        refine Go.via (fun _ => Jvm.RoadKit.acmp (g := (mkF m 174 #[.val (.int p1), .val (.int p2), .val (.int p3), .val (.int p4), .val (.int k), .val (.ref b101), .val (.int (1 : Int32)), .val (.ref s126), .val (.ref sv127), .val (.ref b139), .val (.int (1 : Int32)), .val (.ref s126)] [(.ref s126), (.ref s126)])) X142 hx rfl rfl rfl (pc0 := 174) (pc' := 177) (same := true) rfl (hb hby at_174) rfl (decide_eq_true rfl) (by decide) (by decide)) ?_
        show Go p e below _ (T142.setTop (mkF m 177 #[.val (.int p1), .val (.int p2), .val (.int p3), .val (.int p4), .val (.int k), .val (.ref b101), .val (.int (1 : Int32)), .val (.ref s126), .val (.ref sv127), .val (.ref b139), .val (.int (1 : Int32)), .val (.ref s126)] []))
        refine Go.via (fun _ => XS.iconst X142.here hx rfl (hb hby at_177)) ?_
        show Go p e below _ (T142.setTop (mkF m 178 #[.val (.int p1), .val (.int p2), .val (.int p3), .val (.int p4), .val (.int k), .val (.ref b101), .val (.int (1 : Int32)), .val (.ref s126), .val (.ref sv127), .val (.ref b139), .val (.int (1 : Int32)), .val (.ref s126)] [(.int (1 : Int32))]))
        refine Go.via (fun _ => XS.goto X142.here hx rfl (pc0 := 178) (pc' := 182) rfl (hb hby at_178) (by decide) (by decide)) ?_
        show Go p e below _ (T142.setTop (mkF m 182 #[.val (.int p1), .val (.int p2), .val (.int p3), .val (.int p4), .val (.int k), .val (.ref b101), .val (.int (1 : Int32)), .val (.ref s126), .val (.ref sv127), .val (.ref b139), .val (.int (1 : Int32)), .val (.ref s126)] [(.int (1 : Int32))]))
        exact own_retNW X142 hS141 (by rw [e142q]; exact (Nat.le_refl _)) hx hlk (t := .boolean) Bd.returns (by simp) (hb hby at_182) (by show Q0 Z p1 p2 p3 p4 ccs w_SCHEDULE w_ASSIGN w_REASSIGN w_WITHDRAW w_START w_SUSPEND w_RESUME w_COMPLETE w_ATE_ABORT w_PI_ABORT w_MANUALSKIP w_AUTOSKIP w_UNKNOWN em h0 n0 _ T142.heap _; rw [e142q]; exact ⟨rfl, N142⟩) (by decide) (by decide)
      ·
        show Go p e below _ (T127.setTop (mkF m 89 #[.val (.int p1), .val (.int p2), .val (.int p3), .val (.int p4), .val (.int k), .val (.ref b101), .val (.int (1 : Int32)), .val (.ref s126), .val (.ref sv127), .unset, .unset, .unset] []))
        refine Go.via (fun _ => XS.iload X127.here hx rfl (hb hby at_89) rfl) ?_
        show Go p e below _ (T127.setTop (mkF m 91 #[.val (.int p1), .val (.int p2), .val (.int p3), .val (.int p4), .val (.int k), .val (.ref b101), .val (.int (1 : Int32)), .val (.ref s126), .val (.ref sv127), .unset, .unset, .unset] [(.int k)]))
        refine Go.via (fun _ => XS.bipush X127.here hx rfl (hb hby at_91)) ?_
        show Go p e below _ (T127.setTop (mkF m 93 #[.val (.int p1), .val (.int p2), .val (.int p3), .val (.int p4), .val (.int k), .val (.ref b101), .val (.int (1 : Int32)), .val (.ref s126), .val (.ref sv127), .unset, .unset, .unset] [(.int (13 : Int32)), (.int k)]))
        refine Go.via (fun _ => XS.icmpYes X127.here hx rfl (pc0 := 93) (pc' := 112) rfl (hb hby at_93) rfl (feq hk.2.1).2 (by decide) (by decide)) ?_
        show Go p e below _ (T127.setTop (mkF m 112 #[.val (.int p1), .val (.int p2), .val (.int p3), .val (.int p4), .val (.int k), .val (.ref b101), .val (.int (1 : Int32)), .val (.ref s126), .val (.ref sv127), .unset, .unset, .unset] []))
        obtain ⟨T143, h143, X143, e143, E143, A143, D143, -, st143⟩ := newO X127 hx hZ126 hown126 (hw _ (List.mem_of_getElem? (i := 28) rfl)) (hw _ (List.mem_of_getElem? (i := 29) rfl)) (hw _ (List.mem_of_getElem? (i := 30) rfl)) rfl (g := (mkF m 112 #[.val (.int p1), .val (.int p2), .val (.int p3), .val (.int p4), .val (.int k), .val (.ref b101), .val (.int (1 : Int32)), .val (.ref s126), .val (.ref sv127), .unset, .unset, .unset] [])) rfl (hb hby at_112) (by decide) (by decide)
        obtain ⟨b143, g143⟩ : ∃ z, z = T127.heap.size := ⟨_, rfl⟩
        rw [← g143] at A143 D143 st143
        have g_b143 : n0 ≤ b143 := Nat.le_trans Zs127 (Nat.le_of_eq g143.symm)
        have ne_b101_b143 : b101 ≠ b143 := Nat.ne_of_lt (Nat.lt_of_lt_of_le fV_b101_127.lt (Nat.le_of_eq g143.symm))
        have ne_sv127_b143 : sv127 ≠ b143 := Nat.ne_of_lt (Nat.lt_of_lt_of_le ev127.lt (Nat.le_of_eq g143.symm))
        refine Go.via st143 ?_
        have Zs143 : n0 ≤ h143.size := Nat.le_trans Zs127 E143.1
        have hk143 : kk126 ≤ h143.size := Nat.le_trans hk127 E143.1
        have O143 : Old Z n0 h143 := O127.ext E143
        have fV_b101_143 := fV_b101_127.ext E143
        have fE_sv127_143 := ev127.ext E143
        have F_task_b143 : Fld Z h143 b143 "com/example/permits_from_duties/permitsfromduties/Event" "task" "Ljava/lang/String;" .null := D143 (Or.inr (hw _ (List.mem_of_getElem? (i := 65) rfl))) (ty := (.object "java/lang/String")) (by decide)
        have F_user_b143 : Fld Z h143 b143 "com/example/permits_from_duties/permitsfromduties/Event" "user" "Ljava/lang/String;" .null := D143 (Or.inr (hw _ (List.mem_of_getElem? (i := 67) rfl))) (ty := (.object "java/lang/String")) (by decide)
        have F_time_b143 : Fld Z h143 b143 "com/example/permits_from_duties/permitsfromduties/Event" "time" "Ljava/time/Instant;" .null := D143 (Or.inr (hw _ (List.mem_of_getElem? (i := 69) rfl))) (ty := (.object "java/time/Instant")) (by decide)
        have F_transition_b143 : Fld Z h143 b143 "com/example/permits_from_duties/permitsfromduties/Event" "transition" "Lcom/example/permits_from_duties/permitsfromduties/Event$Transition;" .null := D143 (Or.inr (hw _ (List.mem_of_getElem? (i := 71) rfl))) (ty := (.object "com/example/permits_from_duties/permitsfromduties/Event$Transition")) (by decide)
        have F_location_b143 : Fld Z h143 b143 "com/example/permits_from_duties/permitsfromduties/Event" "location" "Ljava/lang/String;" .null := D143 (Or.inr (hw _ (List.mem_of_getElem? (i := 73) rfl))) (ty := (.object "java/lang/String")) (by decide)
        have F_data_b143 : Fld Z h143 b143 "com/example/permits_from_duties/permitsfromduties/Event" "data" "Ljava/util/Map;" .null := D143 (Or.inr (hw _ (List.mem_of_getElem? (i := 75) rfl))) (ty := (.object "java/util/Map")) (by decide)
        show Go p e below _ (T143.setTop (mkF m 115 #[.val (.int p1), .val (.int p2), .val (.int p3), .val (.int p4), .val (.int k), .val (.ref b101), .val (.int (1 : Int32)), .val (.ref s126), .val (.ref sv127), .unset, .unset, .unset] [(.ref b143)]))
        refine Go.via (fun _ => XS.dup X143.here hx rfl (hb hby at_115) rfl rfl) ?_
        show Go p e below _ (T143.setTop (mkF m 116 #[.val (.int p1), .val (.int p2), .val (.int p3), .val (.int p4), .val (.int k), .val (.ref b101), .val (.int (1 : Int32)), .val (.ref s126), .val (.ref sv127), .unset, .unset, .unset] [(.ref b143), (.ref b143)]))
        refine Go.via (fun _ => XS.aload X143.here hx rfl (hb hby at_116) rfl rfl) ?_
        show Go p e below _ (T143.setTop (mkF m 118 #[.val (.int p1), .val (.int p2), .val (.int p3), .val (.int p4), .val (.int k), .val (.ref b101), .val (.int (1 : Int32)), .val (.ref s126), .val (.ref sv127), .unset, .unset, .unset] [(.ref sv127), (.ref b143), (.ref b143)]))
        refine Go.via (fun _ => XS.aload X143.here hx rfl (hb hby at_118) rfl rfl) ?_
        show Go p e below _ (T143.setTop (mkF m 120 #[.val (.int p1), .val (.int p2), .val (.int p3), .val (.int p4), .val (.int k), .val (.ref b101), .val (.int (1 : Int32)), .val (.ref s126), .val (.ref sv127), .unset, .unset, .unset] [(.ref s126), (.ref sv127), (.ref b143), (.ref b143)]))
        refine Go.via (fun _ => XS.aconstNull X143.here hx rfl (hb hby at_120)) ?_
        show Go p e below _ (T143.setTop (mkF m 121 #[.val (.int p1), .val (.int p2), .val (.int p3), .val (.int p4), .val (.int k), .val (.ref b101), .val (.int (1 : Int32)), .val (.ref s126), .val (.ref sv127), .unset, .unset, .unset] [.null, (.ref s126), (.ref sv127), (.ref b143), (.ref b143)]))
        refine Go.via (fun _ => XS.iload X143.here hx rfl (hb hby at_121) rfl) ?_
        show Go p e below _ (T143.setTop (mkF m 123 #[.val (.int p1), .val (.int p2), .val (.int p3), .val (.int p4), .val (.int k), .val (.ref b101), .val (.int (1 : Int32)), .val (.ref s126), .val (.ref sv127), .unset, .unset, .unset] [(.int k), .null, (.ref s126), (.ref sv127), (.ref b143), (.ref b143)]))
        obtain ⟨_, _, ⟨T144, L144, k144, n144⟩, -, X144, ⟨Lc144, hQ144, l144, y144, z144⟩, st144⟩ := Jvm.LawKit.callS X143 hx (y := (⟨"com/example/permits_from_duties/permitsfromduties/EventPerformerPinLaw", "pick", "(I)Lcom/example/permits_from_duties/permitsfromduties/Event$Transition;"⟩ : MethodName)) hown126 (mvT hZ126 (hw _ (List.mem_of_getElem? (i := 31) rfl))) (mvT hZ126 (hw _ (List.mem_of_getElem? (i := 32) rfl))) (mvT hZ126 (hw _ (List.mem_of_getElem? (i := 33) rfl))) (mvT hZ126 (hw _ (List.mem_of_getElem? (i := 34) rfl))) (by decide) (backOf (W := 5) (rmPk_C l Z a0 hw [] k w_SCHEDULE w_ASSIGN w_REASSIGN w_WITHDRAW w_START w_SUSPEND w_RESUME w_COMPLETE w_ATE_ABORT w_PI_ABORT w_MANUALSKIP w_AUTOSKIP w_UNKNOWN h143 n0 Zs143 hk.1 O143 S_SCHEDULE S_ASSIGN S_REASSIGN S_WITHDRAW S_START S_SUSPEND S_RESUME S_COMPLETE S_ATE_ABORT S_PI_ABORT S_MANUALSKIP S_AUTOSKIP S_UNKNOWN E_SCHEDULE E_ASSIGN E_REASSIGN E_WITHDRAW E_START E_SUSPEND E_RESUME E_COMPLETE E_ATE_ABORT E_PI_ABORT E_MANUALSKIP E_AUTOSKIP E_UNKNOWN F_SCHEDULE F_ASSIGN F_REASSIGN F_WITHDRAW F_START F_SUSPEND F_RESUME F_COMPLETE F_ATE_ABORT F_PI_ABORT F_MANUALSKIP F_AUTOSKIP F_UNKNOWN) hZ126 (hw _ (List.mem_of_getElem? (i := 34) rfl)) (hw _ (List.mem_of_getElem? (i := 33) rfl)) (by decide) (by decide)) (g := (mkF m 123 #[.val (.int p1), .val (.int p2), .val (.int p3), .val (.int p4), .val (.int k), .val (.ref b101), .val (.int (1 : Int32)), .val (.ref s126), .val (.ref sv127), .unset, .unset, .unset] [(.int k), .null, (.ref s126), (.ref sv127), (.ref b143), (.ref b143)])) rfl (by rw [hml]; rfl) (argsL := [(.int k)]) (rest := [.null, (.ref s126), (.ref sv127), (.ref b143), (.ref b143)]) (lenOf pd_13 rfl) rfl (by show 2 * 0 + _ ≤ _; exact Nat.le_of_eq rfl) (hb hby at_123) (fun _ _ => ⟨rfl, e143, (by decide : 6 + 0 ≤ _), (by decide : 17 + 0 ≤ _)⟩)
        dsimp only [Pt.U, Pt.locs, Pt.cells, Pt.slots] at X144 l144 y144 z144 st144 hQ144
        rw [l144, y144, z144] at X144
        replace X144 : Stand p l e _ _ m _ below meth c T144 _ 6 17 := X144
        obtain ⟨tr144, rfl, N144q, e144q, et144, fw144⟩ := hQ144
        have N144 := Fr.app N127 N144q
        refine Go.via st144 ?_
        have neb143_tr144 : b143 ≠ tr144 := ne_exa A143 et144 (by decide)
        show Go p e below _ (T144.setTop (mkF m 126 #[.val (.int p1), .val (.int p2), .val (.int p3), .val (.int p4), .val (.int k), .val (.ref b101), .val (.int (1 : Int32)), .val (.ref s126), .val (.ref sv127), .unset, .unset, .unset] [(.ref tr144), .null, (.ref s126), (.ref sv127), (.ref b143), (.ref b143)]))
        obtain ⟨_, _, ⟨T145, L145, k145, n145⟩, -, X145, S145w, gr145, ⟨Lc145, hQ145, l145, y145, z145⟩, st145⟩ := X144.specialBackS hx (y := (⟨"com/example/permits_from_duties/permitsfromduties/Event", "<init>", "(Ljava/lang/String;Ljava/lang/String;Ljava/time/Instant;Lcom/example/permits_from_duties/permitsfromduties/Event$Transition;)V"⟩ : MethodName)) rfl hown126 (mvT hZ126 (hw _ (List.mem_of_getElem? (i := 38) rfl))) (mvT hZ126 (hw _ (List.mem_of_getElem? (i := 39) rfl))) (mvT hZ126 (hw _ (List.mem_of_getElem? (i := 40) rfl))) (by decide) (backOfS (W := 1) (rmC4R l Z a0 hw [] b143 sv127 s126 tr144 em h143 n0 Zs143 A143 F_task_b143 F_user_b143 F_time_b143 F_transition_b143 F_location_b143 F_data_b143 g_b143 O143 S_EM) hZ126 (hw _ (List.mem_of_getElem? (i := 40) rfl)) (hw _ (List.mem_of_getElem? (i := 30) rfl)) (by decide) (by decide)) (g := (mkF m 126 #[.val (.int p1), .val (.int p2), .val (.int p3), .val (.int p4), .val (.int k), .val (.ref b101), .val (.int (1 : Int32)), .val (.ref s126), .val (.ref sv127), .unset, .unset, .unset] [(.ref tr144), .null, (.ref s126), (.ref sv127), (.ref b143), (.ref b143)])) rfl (by rw [hml]; rfl) (Steps.refl _) (a := b143) (argsL := [(.ref sv127), (.ref s126), .null, (.ref tr144)]) (rest := [(.ref b143)]) (lenOf pd_4 rfl) rfl (by show 2 * 0 + _ ≤ _; exact Nat.le_of_eq rfl) (hb hby at_126) (fun _ _ => ⟨rfl, e144q, (by decide : 6 + 4 ≤ _), (by decide : 17 + 64 ≤ _)⟩)
        dsimp only [Pt.U, Pt.locs, Pt.cells, Pt.slots] at X145 l145 y145 z145 st145 hQ145 S145w gr145
        rw [l145, y145, z145] at X145
        replace X145 : Stand p l e _ _ m _ below meth c T145 _ 10 81 := X145
        obtain ⟨rfl, N145q, K145q, fu145, ft145⟩ := hQ145
        have N145 := Fr.app N144 N145q
        refine Go.tr st145 ?_
        obtain ⟨X145r, hS145, hZ145, hown145⟩ := rebS hS126 (by rw [e144q]; exact hk143) X145 S145w gr145 hZ126 hown126
        have Zs145 : n0 ≤ T145.heap.size := Nat.le_trans Zs143 K145q.1
        have O145 : Old Z n0 T145.heap := O143.keep K145q (allS g_b143 all0)
        have fV_b101_145 := fV_b101_143.keep K145q (ninS ne_b101_b143 nin0)
        have fE_sv127_145 := fE_sv127_143.keep K145q
        have fE_b143_145 := A143.keep K145q
        have fE_tr144_145 := et144.keep K145q
        have fF_tr144_work_145 := fw144.keep K145q (ninS (Ne.symm neb143_tr144) nin0)
        show Go p e below _ (T145.setTop (mkF m 129 #[.val (.int p1), .val (.int p2), .val (.int p3), .val (.int p4), .val (.int k), .val (.ref b101), .val (.int (1 : Int32)), .val (.ref s126), .val (.ref sv127), .unset, .unset, .unset] [(.ref b143)]))
        refine Go.via (fun _ => XS.astore X145r.here hx rfl (hb hby at_129) rfl rfl (l' := #[.val (.int p1), .val (.int p2), .val (.int p3), .val (.int p4), .val (.int k), .val (.ref b101), .val (.int (1 : Int32)), .val (.ref s126), .val (.ref sv127), .val (.ref b143), .unset, .unset]) rfl) ?_
        show Go p e below _ (T145.setTop (mkF m 131 #[.val (.int p1), .val (.int p2), .val (.int p3), .val (.int p4), .val (.int k), .val (.ref b101), .val (.int (1 : Int32)), .val (.ref s126), .val (.ref sv127), .val (.ref b143), .unset, .unset] []))
        refine Go.via (fun _ => XS.iload X145r.here hx rfl (hb hby at_131) rfl) ?_
        show Go p e below _ (T145.setTop (mkF m 133 #[.val (.int p1), .val (.int p2), .val (.int p3), .val (.int p4), .val (.int k), .val (.ref b101), .val (.int (1 : Int32)), .val (.ref s126), .val (.ref sv127), .val (.ref b143), .unset, .unset] [(.int k)]))
        refine Go.via (fun _ => XS.iconst X145r.here hx rfl (hb hby at_133)) ?_
        show Go p e below _ (T145.setTop (mkF m 134 #[.val (.int p1), .val (.int p2), .val (.int p3), .val (.int p4), .val (.int k), .val (.ref b101), .val (.int (1 : Int32)), .val (.ref s126), .val (.ref sv127), .val (.ref b143), .unset, .unset] [(.int (4 : Int32)), (.int k)]))
        refine Go.via (fun _ => XS.icmpNo X145r.here hx rfl (hb hby at_134) rfl (flt hk.2.2.1).1) ?_
        show Go p e below _ (T145.setTop (mkF m 137 #[.val (.int p1), .val (.int p2), .val (.int p3), .val (.int p4), .val (.int k), .val (.ref b101), .val (.int (1 : Int32)), .val (.ref s126), .val (.ref sv127), .val (.ref b143), .unset, .unset] []))
        refine Go.via (fun _ => XS.iload X145r.here hx rfl (hb hby at_137) rfl) ?_
        show Go p e below _ (T145.setTop (mkF m 139 #[.val (.int p1), .val (.int p2), .val (.int p3), .val (.int p4), .val (.int k), .val (.ref b101), .val (.int (1 : Int32)), .val (.ref s126), .val (.ref sv127), .val (.ref b143), .unset, .unset] [(.int k)]))
        refine Go.via (fun _ => XS.bipush X145r.here hx rfl (hb hby at_139)) ?_
        show Go p e below _ (T145.setTop (mkF m 141 #[.val (.int p1), .val (.int p2), .val (.int p3), .val (.int p4), .val (.int k), .val (.ref b101), .val (.int (1 : Int32)), .val (.ref s126), .val (.ref sv127), .val (.ref b143), .unset, .unset] [(.int (8 : Int32)), (.int k)]))
        refine Go.via (fun _ => XS.icmpNo X145r.here hx rfl (hb hby at_141) rfl (tlt hk.2.2.2.1).2.2.2) ?_
        show Go p e below _ (T145.setTop (mkF m 144 #[.val (.int p1), .val (.int p2), .val (.int p3), .val (.int p4), .val (.int k), .val (.ref b101), .val (.int (1 : Int32)), .val (.ref s126), .val (.ref sv127), .val (.ref b143), .unset, .unset] []))
        refine Go.via (fun _ => XS.iload X145r.here hx rfl (hb hby at_144) rfl) ?_
        show Go p e below _ (T145.setTop (mkF m 146 #[.val (.int p1), .val (.int p2), .val (.int p3), .val (.int p4), .val (.int k), .val (.ref b101), .val (.int (1 : Int32)), .val (.ref s126), .val (.ref sv127), .val (.ref b143), .unset, .unset] [(.int k)]))
        refine Go.via (fun _ => XS.bipush X145r.here hx rfl (hb hby at_146)) ?_
        show Go p e below _ (T145.setTop (mkF m 148 #[.val (.int p1), .val (.int p2), .val (.int p3), .val (.int p4), .val (.int k), .val (.ref b101), .val (.int (1 : Int32)), .val (.ref s126), .val (.ref sv127), .val (.ref b143), .unset, .unset] [(.int (12 : Int32)), (.int k)]))
        refine Go.via (fun _ => XS.icmpYes X145r.here hx rfl (pc0 := 148) (pc' := 155) rfl (hb hby at_148) rfl (tlt hk.2.2.2.2).1 (by decide) (by decide)) ?_
        show Go p e below _ (T145.setTop (mkF m 155 #[.val (.int p1), .val (.int p2), .val (.int p3), .val (.int p4), .val (.int k), .val (.ref b101), .val (.int (1 : Int32)), .val (.ref s126), .val (.ref sv127), .val (.ref b143), .unset, .unset] []))
        refine Go.via (fun _ => XS.iconst X145r.here hx rfl (hb hby at_155)) ?_
        show Go p e below _ (T145.setTop (mkF m 156 #[.val (.int p1), .val (.int p2), .val (.int p3), .val (.int p4), .val (.int k), .val (.ref b101), .val (.int (1 : Int32)), .val (.ref s126), .val (.ref sv127), .val (.ref b143), .unset, .unset] [(.int (0 : Int32))]))
        refine Go.via (fun _ => XS.istore X145r.here hx rfl (hb hby at_156) rfl (l' := #[.val (.int p1), .val (.int p2), .val (.int p3), .val (.int p4), .val (.int k), .val (.ref b101), .val (.int (1 : Int32)), .val (.ref s126), .val (.ref sv127), .val (.ref b143), .val (.int (0 : Int32)), .unset]) rfl) ?_
        show Go p e below _ (T145.setTop (mkF m 158 #[.val (.int p1), .val (.int p2), .val (.int p3), .val (.int p4), .val (.int k), .val (.ref b101), .val (.int (1 : Int32)), .val (.ref s126), .val (.ref sv127), .val (.ref b143), .val (.int (0 : Int32)), .unset] []))
        refine Go.via (fun _ => XS.aload X145r.here hx rfl (hb hby at_158) rfl rfl) ?_
        show Go p e below _ (T145.setTop (mkF m 160 #[.val (.int p1), .val (.int p2), .val (.int p3), .val (.int p4), .val (.int k), .val (.ref b101), .val (.int (1 : Int32)), .val (.ref s126), .val (.ref sv127), .val (.ref b143), .val (.int (0 : Int32)), .unset] [(.ref b143)]))
        obtain ⟨cq146, kq146, q146a, q146b, q146c⟩ := isOf hZ145 rfl fE_b143_145
        obtain ⟨_, _, ⟨T146, L146, k146, n146⟩, -, X146, ⟨Lc146, hQ146, l146, y146, z146⟩, st146⟩ := X145r.virtualBack hx (y := (⟨"com/example/permits_from_duties/permitsfromduties/Event", "performer", "()Ljava/lang/String;"⟩ : MethodName)) (z := (⟨"com/example/permits_from_duties/permitsfromduties/Event", "performer", "()Ljava/lang/String;"⟩ : MethodName)) hown145 (mvT hZ145 (hw _ (List.mem_of_getElem? (i := 76) rfl))) (mvT hZ145 (hw _ (List.mem_of_getElem? (i := 77) rfl))) (notFace_of_selects (args := #[]) (mvT hZ145 (hw _ (List.mem_of_getElem? (i := 79) rfl)))) (mvT hZ145 (hw _ (List.mem_of_getElem? (i := 79) rfl))) (mvT hZ145 (hw _ (List.mem_of_getElem? (i := 78) rfl))) (by decide) (backOf (W := 0) (rmPf_0R l Z a0 hw [] b143 tr144 s126 T145.heap n0 Zs145 fE_b143_145 ft145 fE_tr144_145 fF_tr144_work_145 fu145) hZ145 (hw _ (List.mem_of_getElem? (i := 80) rfl)) (hw _ (List.mem_of_getElem? (i := 30) rfl)) (by decide) (by decide)) q146a q146c (g := (mkF m 160 #[.val (.int p1), .val (.int p2), .val (.int p3), .val (.int p4), .val (.int k), .val (.ref b101), .val (.int (1 : Int32)), .val (.ref s126), .val (.ref sv127), .val (.ref b143), .val (.int (0 : Int32)), .unset] [(.ref b143)])) rfl (by rw [hml]; rfl) (Steps.refl _) (argsL := []) (rest := []) (lenOf pd_12 rfl) rfl (by show 2 * 0 + _ ≤ _; exact Nat.le_of_eq rfl) (hb hby at_160) (fun _ _ => ⟨rfl, rfl, (by decide : 10 + 0 ≤ _), (by decide : 81 + 0 ≤ _)⟩)
        dsimp only [Pt.U, Pt.locs, Pt.cells, Pt.slots] at X146 l146 y146 z146 st146 hQ146
        rw [l146, y146, z146] at X146
        replace X146 : Stand p l e _ _ m _ below meth c T146 _ 10 81 := X146
        obtain ⟨rfl, N146q, e146q⟩ := hQ146
        have N146 := Fr.app N145 N146q
        refine Go.tr st146 ?_
        show Go p e below _ (T146.setTop (mkF m 163 #[.val (.int p1), .val (.int p2), .val (.int p3), .val (.int p4), .val (.int k), .val (.ref b101), .val (.int (1 : Int32)), .val (.ref s126), .val (.ref sv127), .val (.ref b143), .val (.int (0 : Int32)), .unset] [.null]))
        refine Go.via (fun _ => XS.astore X146.here hx rfl (hb hby at_163) rfl rfl (l' := #[.val (.int p1), .val (.int p2), .val (.int p3), .val (.int p4), .val (.int k), .val (.ref b101), .val (.int (1 : Int32)), .val (.ref s126), .val (.ref sv127), .val (.ref b143), .val (.int (0 : Int32)), .val .null]) rfl) ?_
        show Go p e below _ (T146.setTop (mkF m 165 #[.val (.int p1), .val (.int p2), .val (.int p3), .val (.int p4), .val (.int k), .val (.ref b101), .val (.int (1 : Int32)), .val (.ref s126), .val (.ref sv127), .val (.ref b143), .val (.int (0 : Int32)), .val .null] []))
        refine Go.via (fun _ => XS.iload X146.here hx rfl (hb hby at_165) rfl) ?_
        show Go p e below _ (T146.setTop (mkF m 167 #[.val (.int p1), .val (.int p2), .val (.int p3), .val (.int p4), .val (.int k), .val (.ref b101), .val (.int (1 : Int32)), .val (.ref s126), .val (.ref sv127), .val (.ref b143), .val (.int (0 : Int32)), .val .null] [(.int (0 : Int32))]))
        refine Go.via (fun _ => XS.ifYes X146.here hx rfl (pc0 := 167) (pc' := 183) rfl (hb hby at_167) rfl (by decide) (by decide) (by decide)) ?_
        show Go p e below _ (T146.setTop (mkF m 183 #[.val (.int p1), .val (.int p2), .val (.int p3), .val (.int p4), .val (.int k), .val (.ref b101), .val (.int (1 : Int32)), .val (.ref s126), .val (.ref sv127), .val (.ref b143), .val (.int (0 : Int32)), .val .null] []))
        refine Go.via (fun _ => XS.aload X146.here hx rfl (hb hby at_183) rfl rfl) ?_
        show Go p e below _ (T146.setTop (mkF m 185 #[.val (.int p1), .val (.int p2), .val (.int p3), .val (.int p4), .val (.int k), .val (.ref b101), .val (.int (1 : Int32)), .val (.ref s126), .val (.ref sv127), .val (.ref b143), .val (.int (0 : Int32)), .val .null] [.null]))
        refine Go.via (fun _ => XS.ifnonnullNo X146.here hx rfl (hb hby at_185) rfl) ?_
        show Go p e below _ (T146.setTop (mkF m 188 #[.val (.int p1), .val (.int p2), .val (.int p3), .val (.int p4), .val (.int k), .val (.ref b101), .val (.int (1 : Int32)), .val (.ref s126), .val (.ref sv127), .val (.ref b143), .val (.int (0 : Int32)), .val .null] []))
        refine Go.via (fun _ => XS.iconst X146.here hx rfl (hb hby at_188)) ?_
        show Go p e below _ (T146.setTop (mkF m 189 #[.val (.int p1), .val (.int p2), .val (.int p3), .val (.int p4), .val (.int k), .val (.ref b101), .val (.int (1 : Int32)), .val (.ref s126), .val (.ref sv127), .val (.ref b143), .val (.int (0 : Int32)), .val .null] [(.int (1 : Int32))]))
        refine Go.via (fun _ => XS.goto X146.here hx rfl (pc0 := 189) (pc' := 193) rfl (hb hby at_189) (by decide) (by decide)) ?_
        show Go p e below _ (T146.setTop (mkF m 193 #[.val (.int p1), .val (.int p2), .val (.int p3), .val (.int p4), .val (.int k), .val (.ref b101), .val (.int (1 : Int32)), .val (.ref s126), .val (.ref sv127), .val (.ref b143), .val (.int (0 : Int32)), .val .null] [(.int (1 : Int32))]))
        exact own_retNW X146 hS145 (by rw [e146q]; exact (Nat.le_refl _)) hx hlk (t := .boolean) Bd.returns (by simp) (hb hby at_193) (by show Q0 Z p1 p2 p3 p4 ccs w_SCHEDULE w_ASSIGN w_REASSIGN w_WITHDRAW w_START w_SUSPEND w_RESUME w_COMPLETE w_ATE_ABORT w_PI_ABORT w_MANUALSKIP w_AUTOSKIP w_UNKNOWN em h0 n0 _ T146.heap _; rw [e146q]; exact ⟨rfl, N146⟩) (by decide) (by decide)
    · -- no
      show Go p e below _ (T103.setTop (mkF m 54 #[.val (.int p1), .val (.int p2), .val (.int p3), .val (.int p4), .val (.int k), .val (.ref b101), .val (.int um), .unset, .unset, .unset, .unset, .unset] [(.int (1 : Int32)), (.int um)]))
      show Go p e below _ (T103.setTop (mkF m 54 #[.val (.int p1), .val (.int p2), .val (.int p3), .val (.int p4), .val (.int k), .val (.ref b101), .val (.int um), .unset, .unset, .unset, .unset, .unset] [(.int (1 : Int32)), (.int um)]))
      refine Go.via (fun _ => XS.icmpYes X103.here hx rfl (pc0 := 54) (pc' := 64) rfl (hb hby at_54) rfl (feq hc125).2 (by decide) (by decide)) ?_
      show Go p e below _ (T103.setTop (mkF m 64 #[.val (.int p1), .val (.int p2), .val (.int p3), .val (.int p4), .val (.int k), .val (.ref b101), .val (.int um), .unset, .unset, .unset, .unset, .unset] []))
      obtain ⟨T147, h147, X147, e147, E147, A147, D147, -, st147⟩ := newO X103 hx hZ hown (hw _ (List.mem_of_getElem? (i := 100) rfl)) (hw _ (List.mem_of_getElem? (i := 12) rfl)) (hw _ (List.mem_of_getElem? (i := 4) rfl)) e103 (g := (mkF m 64 #[.val (.int p1), .val (.int p2), .val (.int p3), .val (.int p4), .val (.int k), .val (.ref b101), .val (.int um), .unset, .unset, .unset, .unset, .unset] [])) rfl (hb hby at_64) (by decide) (by decide)
      obtain ⟨b147, g147⟩ : ∃ z, z = h103.size := ⟨_, rfl⟩
      rw [← g147] at A147 D147 st147
      have g_b147 : n0 ≤ b147 := Nat.le_trans Zs103 (Nat.le_of_eq g147.symm)
      have ne_b101_b147 : b101 ≠ b147 := Nat.ne_of_lt (Nat.lt_of_lt_of_le V103.lt (Nat.le_of_eq g147.symm))
      refine Go.via st147 ?_
      have Zs147 : n0 ≤ h147.size := Nat.le_trans Zs103 E147.1
      have hk147 : 0 ≤ h147.size := Nat.le_trans hk103 E147.1
      have O147 : Old Z n0 h147 := O103.ext E147
      have fV_b101_147 := V103.ext E147
      have F_value_b147 : Fld Z h147 b147 "java/lang/String" "value" "[B" .null := D147 (Or.inr (hw _ (List.mem_of_getElem? (i := 25) rfl))) (ty := (.array .byte)) (by decide)
      have F_coder_b147 : Fld Z h147 b147 "java/lang/String" "coder" "B" (.int (0 : Int32)) := D147 (Or.inr (hw _ (List.mem_of_getElem? (i := 27) rfl))) (ty := .byte) (by decide)
      show Go p e below _ (T147.setTop (mkF m 67 #[.val (.int p1), .val (.int p2), .val (.int p3), .val (.int p4), .val (.int k), .val (.ref b101), .val (.int um), .unset, .unset, .unset, .unset, .unset] [(.ref b147)]))
      refine Go.via (fun _ => XS.dup X147.here hx rfl (hb hby at_67) rfl rfl) ?_
      show Go p e below _ (T147.setTop (mkF m 68 #[.val (.int p1), .val (.int p2), .val (.int p3), .val (.int p4), .val (.int k), .val (.ref b101), .val (.int um), .unset, .unset, .unset, .unset, .unset] [(.ref b147), (.ref b147)]))
      refine Go.via (fun _ => XS.aload X147.here hx rfl (hb hby at_68) rfl rfl) ?_
      show Go p e below _ (T147.setTop (mkF m 70 #[.val (.int p1), .val (.int p2), .val (.int p3), .val (.int p4), .val (.int k), .val (.ref b101), .val (.int um), .unset, .unset, .unset, .unset, .unset] [(.ref b101), (.ref b147), (.ref b147)]))
      obtain ⟨_, _, ⟨T148, L148, k148, n148⟩, -, X148, ⟨Lc148, hQ148, l148, y148, z148⟩, st148⟩ := X147.specialBack hx (y := (⟨"java/lang/String", "<init>", "([C)V"⟩ : MethodName)) rfl hown (mvT hZ (hw _ (List.mem_of_getElem? (i := 101) rfl))) (mvT hZ (hw _ (List.mem_of_getElem? (i := 102) rfl))) (mvT hZ (hw _ (List.mem_of_getElem? (i := 103) rfl))) (by decide) (backOf (W := 1) (rmI1_2 l Z a0 hw [] b147 b101 k101 ((nar .char ((p3 &&& (255 : Int32)).toUInt32.toUInt16.toUInt32.toInt32))) ((nar .char ((p4 &&& (255 : Int32)).toUInt32.toUInt16.toUInt32.toInt32))) ccs h147 n0 Zs147 A147 F_value_b147 F_coder_b147 g_b147 (Ne.symm ne_b101_b147) fV_b101_147 (own_and255 p3).1 (own_and255 p4).1 O147 S_CS hcs) hZ (hw _ (List.mem_of_getElem? (i := 103) rfl)) (hw _ (List.mem_of_getElem? (i := 4) rfl)) (by decide) (by decide)) (g := (mkF m 70 #[.val (.int p1), .val (.int p2), .val (.int p3), .val (.int p4), .val (.int k), .val (.ref b101), .val (.int um), .unset, .unset, .unset, .unset, .unset] [(.ref b101), (.ref b147), (.ref b147)])) rfl (by rw [hml]; rfl) (Steps.refl _) (a := b147) (argsL := [(.ref b101)]) (rest := [(.ref b147)]) (lenOf pd_18 rfl) rfl (by show 2 * 0 + _ ≤ _; exact Nat.le_of_eq rfl) (hb hby at_70) (fun _ _ => ⟨rfl, e147, (by decide : 2 + 1 ≤ _), (by decide : 6 + 2 ≤ _)⟩)
      dsimp only [Pt.U, Pt.locs, Pt.cells, Pt.slots] at X148 l148 y148 z148 st148 hQ148
      rw [l148, y148, z148] at X148
      replace X148 : Stand p l e _ _ m _ below meth c T148 _ 3 8 := X148
      obtain ⟨rfl, N148q, K148q, t148, kb148, gt148, fv148, fc148, va148⟩ := hQ148
      have N148 := Fr.app N103 N148q
      refine Go.tr st148 ?_
      have Zs148 : n0 ≤ T148.heap.size := Nat.le_trans Zs147 K148q.1
      have hk148 : 0 ≤ T148.heap.size := Nat.le_trans hk147 K148q.1
      have O148 : Old Z n0 T148.heap := O147.keep K148q (allS g_b147 all0)
      have fV_b101_148 := fV_b101_147.keep K148q (ninS ne_b101_b147 nin0)
      have fE_b147_148 := A147.keep K148q
      have g_t148 : n0 ≤ t148 := Nat.le_trans Zs147 gt148
      have ne_b101_t148 : b101 ≠ t148 := Nat.ne_of_lt (Nat.lt_of_lt_of_le fV_b101_147.lt gt148)
      have ne_b147_t148 : b147 ≠ t148 := Nat.ne_of_lt (Nat.lt_of_lt_of_le A147.lt gt148)
      show Go p e below _ (T148.setTop (mkF m 73 #[.val (.int p1), .val (.int p2), .val (.int p3), .val (.int p4), .val (.int k), .val (.ref b101), .val (.int um), .unset, .unset, .unset, .unset, .unset] [(.ref b147)]))
      refine Go.via (fun _ => XS.astore X148.here hx rfl (hb hby at_73) rfl rfl (l' := #[.val (.int p1), .val (.int p2), .val (.int p3), .val (.int p4), .val (.int k), .val (.ref b101), .val (.int um), .val (.ref b147), .unset, .unset, .unset, .unset]) rfl) ?_
      show Go p e below _ (T148.setTop (mkF m 75 #[.val (.int p1), .val (.int p2), .val (.int p3), .val (.int p4), .val (.int k), .val (.ref b101), .val (.int um), .val (.ref b147), .unset, .unset, .unset, .unset] []))
      refine Go.via (fun _ => XS.iloadN X148.here hx rfl (hb hby at_75) rfl) ?_
      show Go p e below _ (T148.setTop (mkF m 76 #[.val (.int p1), .val (.int p2), .val (.int p3), .val (.int p4), .val (.int k), .val (.ref b101), .val (.int um), .val (.ref b147), .unset, .unset, .unset, .unset] [(.int p2)]))
      refine Go.via (fun _ => XS.bipush X148.here hx rfl (hb hby at_76)) ?_
      show Go p e below _ (T148.setTop (mkF m 78 #[.val (.int p1), .val (.int p2), .val (.int p3), .val (.int p4), .val (.int k), .val (.ref b101), .val (.int um), .val (.ref b147), .unset, .unset, .unset, .unset] [(.int (8 : Int32)), (.int p2)]))
      refine Go.via (fun _ => XS.iushr X148.here hx rfl (hb hby at_78) rfl) ?_
      show Go p e below _ (T148.setTop (mkF m 79 #[.val (.int p1), .val (.int p2), .val (.int p3), .val (.int p4), .val (.int k), .val (.ref b101), .val (.int um), .val (.ref b147), .unset, .unset, .unset, .unset] [(.int ((p2.toUInt32 >>> ((8 : Int32) &&& 31).toUInt32).toInt32))]))
      refine Go.via (fun _ => XS.sipush X148.here hx rfl (hb hby at_79)) ?_
      show Go p e below _ (T148.setTop (mkF m 82 #[.val (.int p1), .val (.int p2), .val (.int p3), .val (.int p4), .val (.int k), .val (.ref b101), .val (.int um), .val (.ref b147), .unset, .unset, .unset, .unset] [(.int (255 : Int32)), (.int ((p2.toUInt32 >>> ((8 : Int32) &&& 31).toUInt32).toInt32))]))
      refine Go.via (fun _ => XS.iand X148.here hx rfl (hb hby at_82) rfl) ?_
      show Go p e below _ (T148.setTop (mkF m 83 #[.val (.int p1), .val (.int p2), .val (.int p3), .val (.int p4), .val (.int k), .val (.ref b101), .val (.int um), .val (.ref b147), .unset, .unset, .unset, .unset] [(.int (((p2.toUInt32 >>> ((8 : Int32) &&& 31).toUInt32).toInt32) &&& (255 : Int32)))]))
      refine Go.via (fun _ => XS.i2c X148.here hx rfl (hb hby at_83) rfl) ?_
      show Go p e below _ (T148.setTop (mkF m 84 #[.val (.int p1), .val (.int p2), .val (.int p3), .val (.int p4), .val (.int k), .val (.ref b101), .val (.int um), .val (.ref b147), .unset, .unset, .unset, .unset] [(.int ((((p2.toUInt32 >>> ((8 : Int32) &&& 31).toUInt32).toInt32) &&& (255 : Int32)).toUInt32.toUInt16.toUInt32.toInt32))]))
      obtain ⟨_, _, ⟨T149, L149, k149, n149⟩, -, X149, ⟨Lc149, hQ149, l149, y149, z149⟩, st149⟩ := Jvm.LawKit.callS X148 hx (y := (⟨"java/lang/String", "valueOf", "(C)Ljava/lang/String;"⟩ : MethodName)) hown (mvT hZ (hw _ (List.mem_of_getElem? (i := 2) rfl))) (mvT hZ (hw _ (List.mem_of_getElem? (i := 3) rfl))) (mvT hZ (hw _ (List.mem_of_getElem? (i := 4) rfl))) (mvT hZ (hw _ (List.mem_of_getElem? (i := 5) rfl))) (by decide) (backOf (W := 0) (rmVO l Z a0 hw [] ((((p2.toUInt32 >>> ((8 : Int32) &&& 31).toUInt32).toInt32) &&& (255 : Int32)).toUInt32.toUInt16.toUInt32.toInt32) ccs T148.heap n0 Zs148 O148 S_CS hcs (own_and255 ((p2.toUInt32 >>> ((8 : Int32) &&& 31).toUInt32).toInt32)).2) hZ (hw _ (List.mem_of_getElem? (i := 5) rfl)) (hw _ (List.mem_of_getElem? (i := 4) rfl)) (by decide) (by decide)) (g := (mkF m 84 #[.val (.int p1), .val (.int p2), .val (.int p3), .val (.int p4), .val (.int k), .val (.ref b101), .val (.int um), .val (.ref b147), .unset, .unset, .unset, .unset] [(.int ((((p2.toUInt32 >>> ((8 : Int32) &&& 31).toUInt32).toInt32) &&& (255 : Int32)).toUInt32.toUInt16.toUInt32.toInt32))])) rfl (by rw [hml]; rfl) (argsL := [(.int ((((p2.toUInt32 >>> ((8 : Int32) &&& 31).toUInt32).toInt32) &&& (255 : Int32)).toUInt32.toUInt16.toUInt32.toInt32))]) (rest := []) (lenOf pd_10 rfl) rfl (by show 2 * 0 + _ ≤ _; exact Nat.le_of_eq rfl) (hb hby at_84) (fun _ _ => ⟨rfl, rfl, (by decide : 3 + 2 ≤ _), (by decide : 8 + 5 ≤ _)⟩)
      dsimp only [Pt.U, Pt.locs, Pt.cells, Pt.slots] at X149 l149 y149 z149 st149 hQ149
      rw [l149, y149, z149] at X149
      replace X149 : Stand p l e _ _ m _ below meth c T149 _ 5 13 := X149
      obtain ⟨sv149, rfl, N149q, K149q, gv149, ev149⟩ := hQ149
      have N149 := Fr.app N148 N149q
      refine Go.via st149 ?_
      have Zs149 : n0 ≤ T149.heap.size := Nat.le_trans Zs148 K149q.1
      have hk149 : 0 ≤ T149.heap.size := Nat.le_trans hk148 K149q.1
      have O149 : Old Z n0 T149.heap := O148.keep K149q all0
      have fV_b101_149 := fV_b101_148.keep K149q nin0
      have fE_b147_149 := fE_b147_148.keep K149q
      have fV_t148_149 := va148.keep K149q nin0
      have fF_b147_value_149 := fv148.keep K149q nin0
      have fF_b147_coder_149 := fc148.keep K149q nin0
      have g_sv149 : n0 ≤ sv149 := Nat.le_trans Zs148 gv149
      have ne_b101_sv149 : b101 ≠ sv149 := Nat.ne_of_lt (Nat.lt_of_lt_of_le fV_b101_148.lt gv149)
      have ne_b147_sv149 : b147 ≠ sv149 := Nat.ne_of_lt (Nat.lt_of_lt_of_le fE_b147_148.lt gv149)
      have ne_t148_sv149 : t148 ≠ sv149 := Nat.ne_of_lt (Nat.lt_of_lt_of_le va148.lt gv149)
      show Go p e below _ (T149.setTop (mkF m 87 #[.val (.int p1), .val (.int p2), .val (.int p3), .val (.int p4), .val (.int k), .val (.ref b101), .val (.int um), .val (.ref b147), .unset, .unset, .unset, .unset] [(.ref sv149)]))
      refine Go.via (fun _ => XS.astore X149.here hx rfl (hb hby at_87) rfl rfl (l' := #[.val (.int p1), .val (.int p2), .val (.int p3), .val (.int p4), .val (.int k), .val (.ref b101), .val (.int um), .val (.ref b147), .val (.ref sv149), .unset, .unset, .unset]) rfl) ?_
      show Go p e below _ (T149.setTop (mkF m 89 #[.val (.int p1), .val (.int p2), .val (.int p3), .val (.int p4), .val (.int k), .val (.ref b101), .val (.int um), .val (.ref b147), .val (.ref sv149), .unset, .unset, .unset] []))
      rcases hk with rfl | rfl | hk | hk | hk
      ·
        show Go p e below _ (T149.setTop (mkF m 89 #[.val (.int p1), .val (.int p2), .val (.int p3), .val (.int p4), .val (.int (13 : Int32)), .val (.ref b101), .val (.int um), .val (.ref b147), .val (.ref sv149), .unset, .unset, .unset] []))
        refine Go.via (fun _ => XS.iload X149.here hx rfl (hb hby at_89) rfl) ?_
        show Go p e below _ (T149.setTop (mkF m 91 #[.val (.int p1), .val (.int p2), .val (.int p3), .val (.int p4), .val (.int (13 : Int32)), .val (.ref b101), .val (.int um), .val (.ref b147), .val (.ref sv149), .unset, .unset, .unset] [(.int (13 : Int32))]))
        refine Go.via (fun _ => XS.bipush X149.here hx rfl (hb hby at_91)) ?_
        show Go p e below _ (T149.setTop (mkF m 93 #[.val (.int p1), .val (.int p2), .val (.int p3), .val (.int p4), .val (.int (13 : Int32)), .val (.ref b101), .val (.int um), .val (.ref b147), .val (.ref sv149), .unset, .unset, .unset] [(.int (13 : Int32)), (.int (13 : Int32))]))
        refine Go.via (fun _ => XS.icmpNo X149.here hx rfl (hb hby at_93) rfl (by decide)) ?_
        show Go p e below _ (T149.setTop (mkF m 96 #[.val (.int p1), .val (.int p2), .val (.int p3), .val (.int p4), .val (.int (13 : Int32)), .val (.ref b101), .val (.int um), .val (.ref b147), .val (.ref sv149), .unset, .unset, .unset] []))
        obtain ⟨T150, h150, X150, e150, E150, A150, D150, -, st150⟩ := newO X149 hx hZ hown (hw _ (List.mem_of_getElem? (i := 28) rfl)) (hw _ (List.mem_of_getElem? (i := 29) rfl)) (hw _ (List.mem_of_getElem? (i := 30) rfl)) rfl (g := (mkF m 96 #[.val (.int p1), .val (.int p2), .val (.int p3), .val (.int p4), .val (.int (13 : Int32)), .val (.ref b101), .val (.int um), .val (.ref b147), .val (.ref sv149), .unset, .unset, .unset] [])) rfl (hb hby at_96) (by decide) (by decide)
        obtain ⟨b150, g150⟩ : ∃ z, z = T149.heap.size := ⟨_, rfl⟩
        rw [← g150] at A150 D150 st150
        have g_b150 : n0 ≤ b150 := Nat.le_trans Zs149 (Nat.le_of_eq g150.symm)
        have ne_b101_b150 : b101 ≠ b150 := Nat.ne_of_lt (Nat.lt_of_lt_of_le fV_b101_149.lt (Nat.le_of_eq g150.symm))
        have ne_b147_b150 : b147 ≠ b150 := Nat.ne_of_lt (Nat.lt_of_lt_of_le fE_b147_149.lt (Nat.le_of_eq g150.symm))
        have ne_t148_b150 : t148 ≠ b150 := Nat.ne_of_lt (Nat.lt_of_lt_of_le fV_t148_149.lt (Nat.le_of_eq g150.symm))
        have ne_sv149_b150 : sv149 ≠ b150 := Nat.ne_of_lt (Nat.lt_of_lt_of_le ev149.lt (Nat.le_of_eq g150.symm))
        refine Go.via st150 ?_
        have Zs150 : n0 ≤ h150.size := Nat.le_trans Zs149 E150.1
        have hk150 : 0 ≤ h150.size := Nat.le_trans hk149 E150.1
        have O150 : Old Z n0 h150 := O149.ext E150
        have fV_b101_150 := fV_b101_149.ext E150
        have fE_b147_150 := fE_b147_149.ext E150
        have fV_t148_150 := fV_t148_149.ext E150
        have fF_b147_value_150 := fF_b147_value_149.ext E150
        have fF_b147_coder_150 := fF_b147_coder_149.ext E150
        have fE_sv149_150 := ev149.ext E150
        have F_task_b150 : Fld Z h150 b150 "com/example/permits_from_duties/permitsfromduties/Event" "task" "Ljava/lang/String;" .null := D150 (Or.inr (hw _ (List.mem_of_getElem? (i := 65) rfl))) (ty := (.object "java/lang/String")) (by decide)
        have F_user_b150 : Fld Z h150 b150 "com/example/permits_from_duties/permitsfromduties/Event" "user" "Ljava/lang/String;" .null := D150 (Or.inr (hw _ (List.mem_of_getElem? (i := 67) rfl))) (ty := (.object "java/lang/String")) (by decide)
        have F_time_b150 : Fld Z h150 b150 "com/example/permits_from_duties/permitsfromduties/Event" "time" "Ljava/time/Instant;" .null := D150 (Or.inr (hw _ (List.mem_of_getElem? (i := 69) rfl))) (ty := (.object "java/time/Instant")) (by decide)
        have F_transition_b150 : Fld Z h150 b150 "com/example/permits_from_duties/permitsfromduties/Event" "transition" "Lcom/example/permits_from_duties/permitsfromduties/Event$Transition;" .null := D150 (Or.inr (hw _ (List.mem_of_getElem? (i := 71) rfl))) (ty := (.object "com/example/permits_from_duties/permitsfromduties/Event$Transition")) (by decide)
        have F_location_b150 : Fld Z h150 b150 "com/example/permits_from_duties/permitsfromduties/Event" "location" "Ljava/lang/String;" .null := D150 (Or.inr (hw _ (List.mem_of_getElem? (i := 73) rfl))) (ty := (.object "java/lang/String")) (by decide)
        have F_data_b150 : Fld Z h150 b150 "com/example/permits_from_duties/permitsfromduties/Event" "data" "Ljava/util/Map;" .null := D150 (Or.inr (hw _ (List.mem_of_getElem? (i := 75) rfl))) (ty := (.object "java/util/Map")) (by decide)
        show Go p e below _ (T150.setTop (mkF m 99 #[.val (.int p1), .val (.int p2), .val (.int p3), .val (.int p4), .val (.int (13 : Int32)), .val (.ref b101), .val (.int um), .val (.ref b147), .val (.ref sv149), .unset, .unset, .unset] [(.ref b150)]))
        refine Go.via (fun _ => XS.dup X150.here hx rfl (hb hby at_99) rfl rfl) ?_
        show Go p e below _ (T150.setTop (mkF m 100 #[.val (.int p1), .val (.int p2), .val (.int p3), .val (.int p4), .val (.int (13 : Int32)), .val (.ref b101), .val (.int um), .val (.ref b147), .val (.ref sv149), .unset, .unset, .unset] [(.ref b150), (.ref b150)]))
        refine Go.via (fun _ => XS.aload X150.here hx rfl (hb hby at_100) rfl rfl) ?_
        show Go p e below _ (T150.setTop (mkF m 102 #[.val (.int p1), .val (.int p2), .val (.int p3), .val (.int p4), .val (.int (13 : Int32)), .val (.ref b101), .val (.int um), .val (.ref b147), .val (.ref sv149), .unset, .unset, .unset] [(.ref sv149), (.ref b150), (.ref b150)]))
        refine Go.via (fun _ => XS.aload X150.here hx rfl (hb hby at_102) rfl rfl) ?_
        show Go p e below _ (T150.setTop (mkF m 104 #[.val (.int p1), .val (.int p2), .val (.int p3), .val (.int p4), .val (.int (13 : Int32)), .val (.ref b101), .val (.int um), .val (.ref b147), .val (.ref sv149), .unset, .unset, .unset] [(.ref b147), (.ref sv149), (.ref b150), (.ref b150)]))
        have etUb150 := E_UNKNOWN.ext O150.2
        have fwUb150 := F_UNKNOWN.ext O150.2
        have neUb150 : b150 ≠ w_UNKNOWN := Ne.symm (O150.ne E_UNKNOWN.lt g_b150)
        obtain ⟨_, _, ⟨T151, L151, k151, n151⟩, -, X151, S151w, gr151, ⟨Lc151, hQ151, l151, y151, z151⟩, st151⟩ := X150.specialBackS hx (y := (⟨"com/example/permits_from_duties/permitsfromduties/Event", "<init>", "(Ljava/lang/String;Ljava/lang/String;)V"⟩ : MethodName)) rfl hown (mvT hZ (hw _ (List.mem_of_getElem? (i := 129) rfl))) (mvT hZ (hw _ (List.mem_of_getElem? (i := 130) rfl))) (mvT hZ (hw _ (List.mem_of_getElem? (i := 131) rfl))) (by decide) (backOfS (W := 1) (rmC2R l Z a0 hw [] b150 sv149 b147 w_UNKNOWN em h150 n0 Zs150 A150 F_task_b150 F_user_b150 F_time_b150 F_transition_b150 F_location_b150 F_data_b150 g_b150 O150 S_EM S_UNKNOWN) hZ (hw _ (List.mem_of_getElem? (i := 131) rfl)) (hw _ (List.mem_of_getElem? (i := 30) rfl)) (by decide) (by decide)) (g := (mkF m 104 #[.val (.int p1), .val (.int p2), .val (.int p3), .val (.int p4), .val (.int (13 : Int32)), .val (.ref b101), .val (.int um), .val (.ref b147), .val (.ref sv149), .unset, .unset, .unset] [(.ref b147), (.ref sv149), (.ref b150), (.ref b150)])) rfl (by rw [hml]; rfl) (Steps.refl _) (a := b150) (argsL := [(.ref sv149), (.ref b147)]) (rest := [(.ref b150)]) (lenOf pd_11 rfl) rfl (by show 2 * 0 + _ ≤ _; exact Nat.le_of_eq rfl) (hb hby at_104) (fun _ _ => ⟨rfl, e150, (by decide : 6 + 4 ≤ _), (by decide : 19 + 64 ≤ _)⟩)
        dsimp only [Pt.U, Pt.locs, Pt.cells, Pt.slots] at X151 l151 y151 z151 st151 hQ151 S151w gr151
        rw [l151, y151, z151] at X151
        replace X151 : Stand p l e _ _ m _ below meth c T151 _ 10 83 := X151
        obtain ⟨rfl, N151q, K151q, fu151, ft151⟩ := hQ151
        have N151 := Fr.app N149 N151q
        refine Go.tr st151 ?_
        obtain ⟨X151r, hS151, hZ151, hown151⟩ := rebS hS0 (by rw [e150]; exact hk150) X151 S151w gr151 hZ hown
        have Zs151 : n0 ≤ T151.heap.size := Nat.le_trans Zs150 K151q.1
        have O151 : Old Z n0 T151.heap := O150.keep K151q (allS g_b150 all0)
        have fV_b101_151 := fV_b101_150.keep K151q (ninS ne_b101_b150 nin0)
        have fE_b147_151 := fE_b147_150.keep K151q
        have fV_t148_151 := fV_t148_150.keep K151q (ninS ne_t148_b150 nin0)
        have fF_b147_value_151 := fF_b147_value_150.keep K151q (ninS ne_b147_b150 nin0)
        have fF_b147_coder_151 := fF_b147_coder_150.keep K151q (ninS ne_b147_b150 nin0)
        have fE_sv149_151 := fE_sv149_150.keep K151q
        have fE_b150_151 := A150.keep K151q
        have fE_w_UNKNOWN_151 := etUb150.keep K151q
        have fF_w_UNKNOWN_work_151 := fwUb150.keep K151q (ninS (Ne.symm neUb150) nin0)
        show Go p e below _ (T151.setTop (mkF m 107 #[.val (.int p1), .val (.int p2), .val (.int p3), .val (.int p4), .val (.int (13 : Int32)), .val (.ref b101), .val (.int um), .val (.ref b147), .val (.ref sv149), .unset, .unset, .unset] [(.ref b150)]))
        refine Go.via (fun _ => XS.astore X151r.here hx rfl (hb hby at_107) rfl rfl (l' := #[.val (.int p1), .val (.int p2), .val (.int p3), .val (.int p4), .val (.int (13 : Int32)), .val (.ref b101), .val (.int um), .val (.ref b147), .val (.ref sv149), .val (.ref b150), .unset, .unset]) rfl) ?_
        show Go p e below _ (T151.setTop (mkF m 109 #[.val (.int p1), .val (.int p2), .val (.int p3), .val (.int p4), .val (.int (13 : Int32)), .val (.ref b101), .val (.int um), .val (.ref b147), .val (.ref sv149), .val (.ref b150), .unset, .unset] []))
        refine Go.via (fun _ => XS.goto X151r.here hx rfl (pc0 := 109) (pc' := 131) rfl (hb hby at_109) (by decide) (by decide)) ?_
        show Go p e below _ (T151.setTop (mkF m 131 #[.val (.int p1), .val (.int p2), .val (.int p3), .val (.int p4), .val (.int (13 : Int32)), .val (.ref b101), .val (.int um), .val (.ref b147), .val (.ref sv149), .val (.ref b150), .unset, .unset] []))
        refine Go.via (fun _ => XS.iload X151r.here hx rfl (hb hby at_131) rfl) ?_
        show Go p e below _ (T151.setTop (mkF m 133 #[.val (.int p1), .val (.int p2), .val (.int p3), .val (.int p4), .val (.int (13 : Int32)), .val (.ref b101), .val (.int um), .val (.ref b147), .val (.ref sv149), .val (.ref b150), .unset, .unset] [(.int (13 : Int32))]))
        refine Go.via (fun _ => XS.iconst X151r.here hx rfl (hb hby at_133)) ?_
        show Go p e below _ (T151.setTop (mkF m 134 #[.val (.int p1), .val (.int p2), .val (.int p3), .val (.int p4), .val (.int (13 : Int32)), .val (.ref b101), .val (.int um), .val (.ref b147), .val (.ref sv149), .val (.ref b150), .unset, .unset] [(.int (4 : Int32)), (.int (13 : Int32))]))
        refine Go.via (fun _ => XS.icmpNo X151r.here hx rfl (hb hby at_134) rfl (by decide)) ?_
        show Go p e below _ (T151.setTop (mkF m 137 #[.val (.int p1), .val (.int p2), .val (.int p3), .val (.int p4), .val (.int (13 : Int32)), .val (.ref b101), .val (.int um), .val (.ref b147), .val (.ref sv149), .val (.ref b150), .unset, .unset] []))
        refine Go.via (fun _ => XS.iload X151r.here hx rfl (hb hby at_137) rfl) ?_
        show Go p e below _ (T151.setTop (mkF m 139 #[.val (.int p1), .val (.int p2), .val (.int p3), .val (.int p4), .val (.int (13 : Int32)), .val (.ref b101), .val (.int um), .val (.ref b147), .val (.ref sv149), .val (.ref b150), .unset, .unset] [(.int (13 : Int32))]))
        refine Go.via (fun _ => XS.bipush X151r.here hx rfl (hb hby at_139)) ?_
        show Go p e below _ (T151.setTop (mkF m 141 #[.val (.int p1), .val (.int p2), .val (.int p3), .val (.int p4), .val (.int (13 : Int32)), .val (.ref b101), .val (.int um), .val (.ref b147), .val (.ref sv149), .val (.ref b150), .unset, .unset] [(.int (8 : Int32)), (.int (13 : Int32))]))
        refine Go.via (fun _ => XS.icmpNo X151r.here hx rfl (hb hby at_141) rfl (by decide)) ?_
        show Go p e below _ (T151.setTop (mkF m 144 #[.val (.int p1), .val (.int p2), .val (.int p3), .val (.int p4), .val (.int (13 : Int32)), .val (.ref b101), .val (.int um), .val (.ref b147), .val (.ref sv149), .val (.ref b150), .unset, .unset] []))
        refine Go.via (fun _ => XS.iload X151r.here hx rfl (hb hby at_144) rfl) ?_
        show Go p e below _ (T151.setTop (mkF m 146 #[.val (.int p1), .val (.int p2), .val (.int p3), .val (.int p4), .val (.int (13 : Int32)), .val (.ref b101), .val (.int um), .val (.ref b147), .val (.ref sv149), .val (.ref b150), .unset, .unset] [(.int (13 : Int32))]))
        refine Go.via (fun _ => XS.bipush X151r.here hx rfl (hb hby at_146)) ?_
        show Go p e below _ (T151.setTop (mkF m 148 #[.val (.int p1), .val (.int p2), .val (.int p3), .val (.int p4), .val (.int (13 : Int32)), .val (.ref b101), .val (.int um), .val (.ref b147), .val (.ref sv149), .val (.ref b150), .unset, .unset] [(.int (12 : Int32)), (.int (13 : Int32))]))
        refine Go.via (fun _ => XS.icmpNo X151r.here hx rfl (hb hby at_148) rfl (by decide)) ?_
        show Go p e below _ (T151.setTop (mkF m 151 #[.val (.int p1), .val (.int p2), .val (.int p3), .val (.int p4), .val (.int (13 : Int32)), .val (.ref b101), .val (.int um), .val (.ref b147), .val (.ref sv149), .val (.ref b150), .unset, .unset] []))
        refine Go.via (fun _ => XS.iconst X151r.here hx rfl (hb hby at_151)) ?_
        show Go p e below _ (T151.setTop (mkF m 152 #[.val (.int p1), .val (.int p2), .val (.int p3), .val (.int p4), .val (.int (13 : Int32)), .val (.ref b101), .val (.int um), .val (.ref b147), .val (.ref sv149), .val (.ref b150), .unset, .unset] [(.int (1 : Int32))]))
        refine Go.via (fun _ => XS.goto X151r.here hx rfl (pc0 := 152) (pc' := 156) rfl (hb hby at_152) (by decide) (by decide)) ?_
        show Go p e below _ (T151.setTop (mkF m 156 #[.val (.int p1), .val (.int p2), .val (.int p3), .val (.int p4), .val (.int (13 : Int32)), .val (.ref b101), .val (.int um), .val (.ref b147), .val (.ref sv149), .val (.ref b150), .unset, .unset] [(.int (1 : Int32))]))
        refine Go.via (fun _ => XS.istore X151r.here hx rfl (hb hby at_156) rfl (l' := #[.val (.int p1), .val (.int p2), .val (.int p3), .val (.int p4), .val (.int (13 : Int32)), .val (.ref b101), .val (.int um), .val (.ref b147), .val (.ref sv149), .val (.ref b150), .val (.int (1 : Int32)), .unset]) rfl) ?_
        show Go p e below _ (T151.setTop (mkF m 158 #[.val (.int p1), .val (.int p2), .val (.int p3), .val (.int p4), .val (.int (13 : Int32)), .val (.ref b101), .val (.int um), .val (.ref b147), .val (.ref sv149), .val (.ref b150), .val (.int (1 : Int32)), .unset] []))
        refine Go.via (fun _ => XS.aload X151r.here hx rfl (hb hby at_158) rfl rfl) ?_
        show Go p e below _ (T151.setTop (mkF m 160 #[.val (.int p1), .val (.int p2), .val (.int p3), .val (.int p4), .val (.int (13 : Int32)), .val (.ref b101), .val (.int um), .val (.ref b147), .val (.ref sv149), .val (.ref b150), .val (.int (1 : Int32)), .unset] [(.ref b150)]))
        obtain ⟨cq152, kq152, q152a, q152b, q152c⟩ := isOf hZ151 rfl fE_b150_151
        obtain ⟨_, _, ⟨T152, L152, k152, n152⟩, -, X152, ⟨Lc152, hQ152, l152, y152, z152⟩, st152⟩ := X151r.virtualBack hx (y := (⟨"com/example/permits_from_duties/permitsfromduties/Event", "performer", "()Ljava/lang/String;"⟩ : MethodName)) (z := (⟨"com/example/permits_from_duties/permitsfromduties/Event", "performer", "()Ljava/lang/String;"⟩ : MethodName)) hown151 (mvT hZ151 (hw _ (List.mem_of_getElem? (i := 76) rfl))) (mvT hZ151 (hw _ (List.mem_of_getElem? (i := 77) rfl))) (notFace_of_selects (args := #[]) (mvT hZ151 (hw _ (List.mem_of_getElem? (i := 79) rfl)))) (mvT hZ151 (hw _ (List.mem_of_getElem? (i := 79) rfl))) (mvT hZ151 (hw _ (List.mem_of_getElem? (i := 78) rfl))) (by decide) (backOf (W := 0) (rmPf_1R l Z a0 hw [] b150 w_UNKNOWN b147 T151.heap n0 Zs151 fE_b150_151 ft151 fE_w_UNKNOWN_151 fF_w_UNKNOWN_work_151 fu151) hZ151 (hw _ (List.mem_of_getElem? (i := 80) rfl)) (hw _ (List.mem_of_getElem? (i := 30) rfl)) (by decide) (by decide)) q152a q152c (g := (mkF m 160 #[.val (.int p1), .val (.int p2), .val (.int p3), .val (.int p4), .val (.int (13 : Int32)), .val (.ref b101), .val (.int um), .val (.ref b147), .val (.ref sv149), .val (.ref b150), .val (.int (1 : Int32)), .unset] [(.ref b150)])) rfl (by rw [hml]; rfl) (Steps.refl _) (argsL := []) (rest := []) (lenOf pd_12 rfl) rfl (by show 2 * 0 + _ ≤ _; exact Nat.le_of_eq rfl) (hb hby at_160) (fun _ _ => ⟨rfl, rfl, (by decide : 10 + 0 ≤ _), (by decide : 83 + 0 ≤ _)⟩)
        dsimp only [Pt.U, Pt.locs, Pt.cells, Pt.slots] at X152 l152 y152 z152 st152 hQ152
        rw [l152, y152, z152] at X152
        replace X152 : Stand p l e _ _ m _ below meth c T152 _ 10 83 := X152
        obtain ⟨rfl, N152q, e152q⟩ := hQ152
        have N152 := Fr.app N151 N152q
        refine Go.tr st152 ?_
        show Go p e below _ (T152.setTop (mkF m 163 #[.val (.int p1), .val (.int p2), .val (.int p3), .val (.int p4), .val (.int (13 : Int32)), .val (.ref b101), .val (.int um), .val (.ref b147), .val (.ref sv149), .val (.ref b150), .val (.int (1 : Int32)), .unset] [(.ref b147)]))
        refine Go.via (fun _ => XS.astore X152.here hx rfl (hb hby at_163) rfl rfl (l' := #[.val (.int p1), .val (.int p2), .val (.int p3), .val (.int p4), .val (.int (13 : Int32)), .val (.ref b101), .val (.int um), .val (.ref b147), .val (.ref sv149), .val (.ref b150), .val (.int (1 : Int32)), .val (.ref b147)]) rfl) ?_
        show Go p e below _ (T152.setTop (mkF m 165 #[.val (.int p1), .val (.int p2), .val (.int p3), .val (.int p4), .val (.int (13 : Int32)), .val (.ref b101), .val (.int um), .val (.ref b147), .val (.ref sv149), .val (.ref b150), .val (.int (1 : Int32)), .val (.ref b147)] []))
        refine Go.via (fun _ => XS.iload X152.here hx rfl (hb hby at_165) rfl) ?_
        show Go p e below _ (T152.setTop (mkF m 167 #[.val (.int p1), .val (.int p2), .val (.int p3), .val (.int p4), .val (.int (13 : Int32)), .val (.ref b101), .val (.int um), .val (.ref b147), .val (.ref sv149), .val (.ref b150), .val (.int (1 : Int32)), .val (.ref b147)] [(.int (1 : Int32))]))
        refine Go.via (fun _ => XS.ifNo X152.here hx rfl (hb hby at_167) rfl (by decide)) ?_
        show Go p e below _ (T152.setTop (mkF m 170 #[.val (.int p1), .val (.int p2), .val (.int p3), .val (.int p4), .val (.int (13 : Int32)), .val (.ref b101), .val (.int um), .val (.ref b147), .val (.ref sv149), .val (.ref b150), .val (.int (1 : Int32)), .val (.ref b147)] []))
        refine Go.via (fun _ => XS.aload X152.here hx rfl (hb hby at_170) rfl rfl) ?_
        show Go p e below _ (T152.setTop (mkF m 172 #[.val (.int p1), .val (.int p2), .val (.int p3), .val (.int p4), .val (.int (13 : Int32)), .val (.ref b101), .val (.int um), .val (.ref b147), .val (.ref sv149), .val (.ref b150), .val (.int (1 : Int32)), .val (.ref b147)] [(.ref b147)]))
        refine Go.via (fun _ => XS.aload X152.here hx rfl (hb hby at_172) rfl rfl) ?_
        show Go p e below _ (T152.setTop (mkF m 174 #[.val (.int p1), .val (.int p2), .val (.int p3), .val (.int p4), .val (.int (13 : Int32)), .val (.ref b101), .val (.int um), .val (.ref b147), .val (.ref sv149), .val (.ref b150), .val (.int (1 : Int32)), .val (.ref b147)] [(.ref b147), (.ref b147)]))
        refine Go.via (fun _ => Jvm.RoadKit.acmp (g := (mkF m 174 #[.val (.int p1), .val (.int p2), .val (.int p3), .val (.int p4), .val (.int (13 : Int32)), .val (.ref b101), .val (.int um), .val (.ref b147), .val (.ref sv149), .val (.ref b150), .val (.int (1 : Int32)), .val (.ref b147)] [(.ref b147), (.ref b147)])) X152 hx rfl rfl rfl (pc0 := 174) (pc' := 177) (same := true) rfl (hb hby at_174) rfl (decide_eq_true rfl) (by decide) (by decide)) ?_
        show Go p e below _ (T152.setTop (mkF m 177 #[.val (.int p1), .val (.int p2), .val (.int p3), .val (.int p4), .val (.int (13 : Int32)), .val (.ref b101), .val (.int um), .val (.ref b147), .val (.ref sv149), .val (.ref b150), .val (.int (1 : Int32)), .val (.ref b147)] []))
        refine Go.via (fun _ => XS.iconst X152.here hx rfl (hb hby at_177)) ?_
        show Go p e below _ (T152.setTop (mkF m 178 #[.val (.int p1), .val (.int p2), .val (.int p3), .val (.int p4), .val (.int (13 : Int32)), .val (.ref b101), .val (.int um), .val (.ref b147), .val (.ref sv149), .val (.ref b150), .val (.int (1 : Int32)), .val (.ref b147)] [(.int (1 : Int32))]))
        refine Go.via (fun _ => XS.goto X152.here hx rfl (pc0 := 178) (pc' := 182) rfl (hb hby at_178) (by decide) (by decide)) ?_
        show Go p e below _ (T152.setTop (mkF m 182 #[.val (.int p1), .val (.int p2), .val (.int p3), .val (.int p4), .val (.int (13 : Int32)), .val (.ref b101), .val (.int um), .val (.ref b147), .val (.ref sv149), .val (.ref b150), .val (.int (1 : Int32)), .val (.ref b147)] [(.int (1 : Int32))]))
        exact own_retNW X152 hS151 (by rw [e152q]; exact (Nat.le_refl _)) hx hlk (t := .boolean) Bd.returns (by simp) (hb hby at_182) (by show Q0 Z p1 p2 p3 p4 ccs w_SCHEDULE w_ASSIGN w_REASSIGN w_WITHDRAW w_START w_SUSPEND w_RESUME w_COMPLETE w_ATE_ABORT w_PI_ABORT w_MANUALSKIP w_AUTOSKIP w_UNKNOWN em h0 n0 _ T152.heap _; rw [e152q]; exact ⟨rfl, N152⟩) (by decide) (by decide)
      ·
        show Go p e below _ (T149.setTop (mkF m 89 #[.val (.int p1), .val (.int p2), .val (.int p3), .val (.int p4), .val (.int (12 : Int32)), .val (.ref b101), .val (.int um), .val (.ref b147), .val (.ref sv149), .unset, .unset, .unset] []))
        refine Go.via (fun _ => XS.iload X149.here hx rfl (hb hby at_89) rfl) ?_
        show Go p e below _ (T149.setTop (mkF m 91 #[.val (.int p1), .val (.int p2), .val (.int p3), .val (.int p4), .val (.int (12 : Int32)), .val (.ref b101), .val (.int um), .val (.ref b147), .val (.ref sv149), .unset, .unset, .unset] [(.int (12 : Int32))]))
        refine Go.via (fun _ => XS.bipush X149.here hx rfl (hb hby at_91)) ?_
        show Go p e below _ (T149.setTop (mkF m 93 #[.val (.int p1), .val (.int p2), .val (.int p3), .val (.int p4), .val (.int (12 : Int32)), .val (.ref b101), .val (.int um), .val (.ref b147), .val (.ref sv149), .unset, .unset, .unset] [(.int (13 : Int32)), (.int (12 : Int32))]))
        refine Go.via (fun _ => XS.icmpYes X149.here hx rfl (pc0 := 93) (pc' := 112) rfl (hb hby at_93) rfl (by decide) (by decide) (by decide)) ?_
        show Go p e below _ (T149.setTop (mkF m 112 #[.val (.int p1), .val (.int p2), .val (.int p3), .val (.int p4), .val (.int (12 : Int32)), .val (.ref b101), .val (.int um), .val (.ref b147), .val (.ref sv149), .unset, .unset, .unset] []))
        obtain ⟨T153, h153, X153, e153, E153, A153, D153, -, st153⟩ := newO X149 hx hZ hown (hw _ (List.mem_of_getElem? (i := 28) rfl)) (hw _ (List.mem_of_getElem? (i := 29) rfl)) (hw _ (List.mem_of_getElem? (i := 30) rfl)) rfl (g := (mkF m 112 #[.val (.int p1), .val (.int p2), .val (.int p3), .val (.int p4), .val (.int (12 : Int32)), .val (.ref b101), .val (.int um), .val (.ref b147), .val (.ref sv149), .unset, .unset, .unset] [])) rfl (hb hby at_112) (by decide) (by decide)
        obtain ⟨b153, g153⟩ : ∃ z, z = T149.heap.size := ⟨_, rfl⟩
        rw [← g153] at A153 D153 st153
        have g_b153 : n0 ≤ b153 := Nat.le_trans Zs149 (Nat.le_of_eq g153.symm)
        have ne_b101_b153 : b101 ≠ b153 := Nat.ne_of_lt (Nat.lt_of_lt_of_le fV_b101_149.lt (Nat.le_of_eq g153.symm))
        have ne_b147_b153 : b147 ≠ b153 := Nat.ne_of_lt (Nat.lt_of_lt_of_le fE_b147_149.lt (Nat.le_of_eq g153.symm))
        have ne_t148_b153 : t148 ≠ b153 := Nat.ne_of_lt (Nat.lt_of_lt_of_le fV_t148_149.lt (Nat.le_of_eq g153.symm))
        have ne_sv149_b153 : sv149 ≠ b153 := Nat.ne_of_lt (Nat.lt_of_lt_of_le ev149.lt (Nat.le_of_eq g153.symm))
        refine Go.via st153 ?_
        have Zs153 : n0 ≤ h153.size := Nat.le_trans Zs149 E153.1
        have hk153 : 0 ≤ h153.size := Nat.le_trans hk149 E153.1
        have O153 : Old Z n0 h153 := O149.ext E153
        have fV_b101_153 := fV_b101_149.ext E153
        have fE_b147_153 := fE_b147_149.ext E153
        have fV_t148_153 := fV_t148_149.ext E153
        have fF_b147_value_153 := fF_b147_value_149.ext E153
        have fF_b147_coder_153 := fF_b147_coder_149.ext E153
        have fE_sv149_153 := ev149.ext E153
        have F_task_b153 : Fld Z h153 b153 "com/example/permits_from_duties/permitsfromduties/Event" "task" "Ljava/lang/String;" .null := D153 (Or.inr (hw _ (List.mem_of_getElem? (i := 65) rfl))) (ty := (.object "java/lang/String")) (by decide)
        have F_user_b153 : Fld Z h153 b153 "com/example/permits_from_duties/permitsfromduties/Event" "user" "Ljava/lang/String;" .null := D153 (Or.inr (hw _ (List.mem_of_getElem? (i := 67) rfl))) (ty := (.object "java/lang/String")) (by decide)
        have F_time_b153 : Fld Z h153 b153 "com/example/permits_from_duties/permitsfromduties/Event" "time" "Ljava/time/Instant;" .null := D153 (Or.inr (hw _ (List.mem_of_getElem? (i := 69) rfl))) (ty := (.object "java/time/Instant")) (by decide)
        have F_transition_b153 : Fld Z h153 b153 "com/example/permits_from_duties/permitsfromduties/Event" "transition" "Lcom/example/permits_from_duties/permitsfromduties/Event$Transition;" .null := D153 (Or.inr (hw _ (List.mem_of_getElem? (i := 71) rfl))) (ty := (.object "com/example/permits_from_duties/permitsfromduties/Event$Transition")) (by decide)
        have F_location_b153 : Fld Z h153 b153 "com/example/permits_from_duties/permitsfromduties/Event" "location" "Ljava/lang/String;" .null := D153 (Or.inr (hw _ (List.mem_of_getElem? (i := 73) rfl))) (ty := (.object "java/lang/String")) (by decide)
        have F_data_b153 : Fld Z h153 b153 "com/example/permits_from_duties/permitsfromduties/Event" "data" "Ljava/util/Map;" .null := D153 (Or.inr (hw _ (List.mem_of_getElem? (i := 75) rfl))) (ty := (.object "java/util/Map")) (by decide)
        show Go p e below _ (T153.setTop (mkF m 115 #[.val (.int p1), .val (.int p2), .val (.int p3), .val (.int p4), .val (.int (12 : Int32)), .val (.ref b101), .val (.int um), .val (.ref b147), .val (.ref sv149), .unset, .unset, .unset] [(.ref b153)]))
        refine Go.via (fun _ => XS.dup X153.here hx rfl (hb hby at_115) rfl rfl) ?_
        show Go p e below _ (T153.setTop (mkF m 116 #[.val (.int p1), .val (.int p2), .val (.int p3), .val (.int p4), .val (.int (12 : Int32)), .val (.ref b101), .val (.int um), .val (.ref b147), .val (.ref sv149), .unset, .unset, .unset] [(.ref b153), (.ref b153)]))
        refine Go.via (fun _ => XS.aload X153.here hx rfl (hb hby at_116) rfl rfl) ?_
        show Go p e below _ (T153.setTop (mkF m 118 #[.val (.int p1), .val (.int p2), .val (.int p3), .val (.int p4), .val (.int (12 : Int32)), .val (.ref b101), .val (.int um), .val (.ref b147), .val (.ref sv149), .unset, .unset, .unset] [(.ref sv149), (.ref b153), (.ref b153)]))
        refine Go.via (fun _ => XS.aload X153.here hx rfl (hb hby at_118) rfl rfl) ?_
        show Go p e below _ (T153.setTop (mkF m 120 #[.val (.int p1), .val (.int p2), .val (.int p3), .val (.int p4), .val (.int (12 : Int32)), .val (.ref b101), .val (.int um), .val (.ref b147), .val (.ref sv149), .unset, .unset, .unset] [(.ref b147), (.ref sv149), (.ref b153), (.ref b153)]))
        refine Go.via (fun _ => XS.aconstNull X153.here hx rfl (hb hby at_120)) ?_
        show Go p e below _ (T153.setTop (mkF m 121 #[.val (.int p1), .val (.int p2), .val (.int p3), .val (.int p4), .val (.int (12 : Int32)), .val (.ref b101), .val (.int um), .val (.ref b147), .val (.ref sv149), .unset, .unset, .unset] [.null, (.ref b147), (.ref sv149), (.ref b153), (.ref b153)]))
        refine Go.via (fun _ => XS.iload X153.here hx rfl (hb hby at_121) rfl) ?_
        show Go p e below _ (T153.setTop (mkF m 123 #[.val (.int p1), .val (.int p2), .val (.int p3), .val (.int p4), .val (.int (12 : Int32)), .val (.ref b101), .val (.int um), .val (.ref b147), .val (.ref sv149), .unset, .unset, .unset] [(.int (12 : Int32)), .null, (.ref b147), (.ref sv149), (.ref b153), (.ref b153)]))
        obtain ⟨_, _, ⟨T154, L154, k154, n154⟩, -, X154, ⟨Lc154, hQ154, l154, y154, z154⟩, st154⟩ := Jvm.LawKit.callS X153 hx (y := (⟨"com/example/permits_from_duties/permitsfromduties/EventPerformerPinLaw", "pick", "(I)Lcom/example/permits_from_duties/permitsfromduties/Event$Transition;"⟩ : MethodName)) hown (mvT hZ (hw _ (List.mem_of_getElem? (i := 31) rfl))) (mvT hZ (hw _ (List.mem_of_getElem? (i := 32) rfl))) (mvT hZ (hw _ (List.mem_of_getElem? (i := 33) rfl))) (mvT hZ (hw _ (List.mem_of_getElem? (i := 34) rfl))) (by decide) (backOf (W := 5) (rmPk_12 l Z a0 hw [] w_SCHEDULE w_ASSIGN w_REASSIGN w_WITHDRAW w_START w_SUSPEND w_RESUME w_COMPLETE w_ATE_ABORT w_PI_ABORT w_MANUALSKIP w_AUTOSKIP w_UNKNOWN h153 n0 Zs153 O153 S_SCHEDULE S_ASSIGN S_REASSIGN S_WITHDRAW S_START S_SUSPEND S_RESUME S_COMPLETE S_ATE_ABORT S_PI_ABORT S_MANUALSKIP S_AUTOSKIP S_UNKNOWN E_SCHEDULE E_ASSIGN E_REASSIGN E_WITHDRAW E_START E_SUSPEND E_RESUME E_COMPLETE E_ATE_ABORT E_PI_ABORT E_MANUALSKIP E_AUTOSKIP E_UNKNOWN F_SCHEDULE F_ASSIGN F_REASSIGN F_WITHDRAW F_START F_SUSPEND F_RESUME F_COMPLETE F_ATE_ABORT F_PI_ABORT F_MANUALSKIP F_AUTOSKIP F_UNKNOWN) hZ (hw _ (List.mem_of_getElem? (i := 34) rfl)) (hw _ (List.mem_of_getElem? (i := 33) rfl)) (by decide) (by decide)) (g := (mkF m 123 #[.val (.int p1), .val (.int p2), .val (.int p3), .val (.int p4), .val (.int (12 : Int32)), .val (.ref b101), .val (.int um), .val (.ref b147), .val (.ref sv149), .unset, .unset, .unset] [(.int (12 : Int32)), .null, (.ref b147), (.ref sv149), (.ref b153), (.ref b153)])) rfl (by rw [hml]; rfl) (argsL := [(.int (12 : Int32))]) (rest := [.null, (.ref b147), (.ref sv149), (.ref b153), (.ref b153)]) (lenOf pd_13 rfl) rfl (by show 2 * 0 + _ ≤ _; exact Nat.le_of_eq rfl) (hb hby at_123) (fun _ _ => ⟨rfl, e153, (by decide : 6 + 0 ≤ _), (by decide : 19 + 0 ≤ _)⟩)
        dsimp only [Pt.U, Pt.locs, Pt.cells, Pt.slots] at X154 l154 y154 z154 st154 hQ154
        rw [l154, y154, z154] at X154
        replace X154 : Stand p l e _ _ m _ below meth c T154 _ 6 19 := X154
        obtain ⟨tr154, rfl, N154q, e154q, et154, fw154⟩ := hQ154
        have N154 := Fr.app N149 N154q
        refine Go.via st154 ?_
        have neb153_tr154 : b153 ≠ tr154 := ne_exa A153 et154 (by decide)
        show Go p e below _ (T154.setTop (mkF m 126 #[.val (.int p1), .val (.int p2), .val (.int p3), .val (.int p4), .val (.int (12 : Int32)), .val (.ref b101), .val (.int um), .val (.ref b147), .val (.ref sv149), .unset, .unset, .unset] [(.ref tr154), .null, (.ref b147), (.ref sv149), (.ref b153), (.ref b153)]))
        obtain ⟨_, _, ⟨T155, L155, k155, n155⟩, -, X155, S155w, gr155, ⟨Lc155, hQ155, l155, y155, z155⟩, st155⟩ := X154.specialBackS hx (y := (⟨"com/example/permits_from_duties/permitsfromduties/Event", "<init>", "(Ljava/lang/String;Ljava/lang/String;Ljava/time/Instant;Lcom/example/permits_from_duties/permitsfromduties/Event$Transition;)V"⟩ : MethodName)) rfl hown (mvT hZ (hw _ (List.mem_of_getElem? (i := 38) rfl))) (mvT hZ (hw _ (List.mem_of_getElem? (i := 39) rfl))) (mvT hZ (hw _ (List.mem_of_getElem? (i := 40) rfl))) (by decide) (backOfS (W := 1) (rmC4R l Z a0 hw [] b153 sv149 b147 tr154 em h153 n0 Zs153 A153 F_task_b153 F_user_b153 F_time_b153 F_transition_b153 F_location_b153 F_data_b153 g_b153 O153 S_EM) hZ (hw _ (List.mem_of_getElem? (i := 40) rfl)) (hw _ (List.mem_of_getElem? (i := 30) rfl)) (by decide) (by decide)) (g := (mkF m 126 #[.val (.int p1), .val (.int p2), .val (.int p3), .val (.int p4), .val (.int (12 : Int32)), .val (.ref b101), .val (.int um), .val (.ref b147), .val (.ref sv149), .unset, .unset, .unset] [(.ref tr154), .null, (.ref b147), (.ref sv149), (.ref b153), (.ref b153)])) rfl (by rw [hml]; rfl) (Steps.refl _) (a := b153) (argsL := [(.ref sv149), (.ref b147), .null, (.ref tr154)]) (rest := [(.ref b153)]) (lenOf pd_4 rfl) rfl (by show 2 * 0 + _ ≤ _; exact Nat.le_of_eq rfl) (hb hby at_126) (fun _ _ => ⟨rfl, e154q, (by decide : 6 + 4 ≤ _), (by decide : 19 + 64 ≤ _)⟩)
        dsimp only [Pt.U, Pt.locs, Pt.cells, Pt.slots] at X155 l155 y155 z155 st155 hQ155 S155w gr155
        rw [l155, y155, z155] at X155
        replace X155 : Stand p l e _ _ m _ below meth c T155 _ 10 83 := X155
        obtain ⟨rfl, N155q, K155q, fu155, ft155⟩ := hQ155
        have N155 := Fr.app N154 N155q
        refine Go.tr st155 ?_
        obtain ⟨X155r, hS155, hZ155, hown155⟩ := rebS hS0 (by rw [e154q]; exact hk153) X155 S155w gr155 hZ hown
        have Zs155 : n0 ≤ T155.heap.size := Nat.le_trans Zs153 K155q.1
        have O155 : Old Z n0 T155.heap := O153.keep K155q (allS g_b153 all0)
        have fV_b101_155 := fV_b101_153.keep K155q (ninS ne_b101_b153 nin0)
        have fE_b147_155 := fE_b147_153.keep K155q
        have fV_t148_155 := fV_t148_153.keep K155q (ninS ne_t148_b153 nin0)
        have fF_b147_value_155 := fF_b147_value_153.keep K155q (ninS ne_b147_b153 nin0)
        have fF_b147_coder_155 := fF_b147_coder_153.keep K155q (ninS ne_b147_b153 nin0)
        have fE_sv149_155 := fE_sv149_153.keep K155q
        have fE_b153_155 := A153.keep K155q
        have fE_tr154_155 := et154.keep K155q
        have fF_tr154_work_155 := fw154.keep K155q (ninS (Ne.symm neb153_tr154) nin0)
        show Go p e below _ (T155.setTop (mkF m 129 #[.val (.int p1), .val (.int p2), .val (.int p3), .val (.int p4), .val (.int (12 : Int32)), .val (.ref b101), .val (.int um), .val (.ref b147), .val (.ref sv149), .unset, .unset, .unset] [(.ref b153)]))
        refine Go.via (fun _ => XS.astore X155r.here hx rfl (hb hby at_129) rfl rfl (l' := #[.val (.int p1), .val (.int p2), .val (.int p3), .val (.int p4), .val (.int (12 : Int32)), .val (.ref b101), .val (.int um), .val (.ref b147), .val (.ref sv149), .val (.ref b153), .unset, .unset]) rfl) ?_
        show Go p e below _ (T155.setTop (mkF m 131 #[.val (.int p1), .val (.int p2), .val (.int p3), .val (.int p4), .val (.int (12 : Int32)), .val (.ref b101), .val (.int um), .val (.ref b147), .val (.ref sv149), .val (.ref b153), .unset, .unset] []))
        refine Go.via (fun _ => XS.iload X155r.here hx rfl (hb hby at_131) rfl) ?_
        show Go p e below _ (T155.setTop (mkF m 133 #[.val (.int p1), .val (.int p2), .val (.int p3), .val (.int p4), .val (.int (12 : Int32)), .val (.ref b101), .val (.int um), .val (.ref b147), .val (.ref sv149), .val (.ref b153), .unset, .unset] [(.int (12 : Int32))]))
        refine Go.via (fun _ => XS.iconst X155r.here hx rfl (hb hby at_133)) ?_
        show Go p e below _ (T155.setTop (mkF m 134 #[.val (.int p1), .val (.int p2), .val (.int p3), .val (.int p4), .val (.int (12 : Int32)), .val (.ref b101), .val (.int um), .val (.ref b147), .val (.ref sv149), .val (.ref b153), .unset, .unset] [(.int (4 : Int32)), (.int (12 : Int32))]))
        refine Go.via (fun _ => XS.icmpNo X155r.here hx rfl (hb hby at_134) rfl (by decide)) ?_
        show Go p e below _ (T155.setTop (mkF m 137 #[.val (.int p1), .val (.int p2), .val (.int p3), .val (.int p4), .val (.int (12 : Int32)), .val (.ref b101), .val (.int um), .val (.ref b147), .val (.ref sv149), .val (.ref b153), .unset, .unset] []))
        refine Go.via (fun _ => XS.iload X155r.here hx rfl (hb hby at_137) rfl) ?_
        show Go p e below _ (T155.setTop (mkF m 139 #[.val (.int p1), .val (.int p2), .val (.int p3), .val (.int p4), .val (.int (12 : Int32)), .val (.ref b101), .val (.int um), .val (.ref b147), .val (.ref sv149), .val (.ref b153), .unset, .unset] [(.int (12 : Int32))]))
        refine Go.via (fun _ => XS.bipush X155r.here hx rfl (hb hby at_139)) ?_
        show Go p e below _ (T155.setTop (mkF m 141 #[.val (.int p1), .val (.int p2), .val (.int p3), .val (.int p4), .val (.int (12 : Int32)), .val (.ref b101), .val (.int um), .val (.ref b147), .val (.ref sv149), .val (.ref b153), .unset, .unset] [(.int (8 : Int32)), (.int (12 : Int32))]))
        refine Go.via (fun _ => XS.icmpNo X155r.here hx rfl (hb hby at_141) rfl (by decide)) ?_
        show Go p e below _ (T155.setTop (mkF m 144 #[.val (.int p1), .val (.int p2), .val (.int p3), .val (.int p4), .val (.int (12 : Int32)), .val (.ref b101), .val (.int um), .val (.ref b147), .val (.ref sv149), .val (.ref b153), .unset, .unset] []))
        refine Go.via (fun _ => XS.iload X155r.here hx rfl (hb hby at_144) rfl) ?_
        show Go p e below _ (T155.setTop (mkF m 146 #[.val (.int p1), .val (.int p2), .val (.int p3), .val (.int p4), .val (.int (12 : Int32)), .val (.ref b101), .val (.int um), .val (.ref b147), .val (.ref sv149), .val (.ref b153), .unset, .unset] [(.int (12 : Int32))]))
        refine Go.via (fun _ => XS.bipush X155r.here hx rfl (hb hby at_146)) ?_
        show Go p e below _ (T155.setTop (mkF m 148 #[.val (.int p1), .val (.int p2), .val (.int p3), .val (.int p4), .val (.int (12 : Int32)), .val (.ref b101), .val (.int um), .val (.ref b147), .val (.ref sv149), .val (.ref b153), .unset, .unset] [(.int (12 : Int32)), (.int (12 : Int32))]))
        refine Go.via (fun _ => XS.icmpNo X155r.here hx rfl (hb hby at_148) rfl (by decide)) ?_
        show Go p e below _ (T155.setTop (mkF m 151 #[.val (.int p1), .val (.int p2), .val (.int p3), .val (.int p4), .val (.int (12 : Int32)), .val (.ref b101), .val (.int um), .val (.ref b147), .val (.ref sv149), .val (.ref b153), .unset, .unset] []))
        refine Go.via (fun _ => XS.iconst X155r.here hx rfl (hb hby at_151)) ?_
        show Go p e below _ (T155.setTop (mkF m 152 #[.val (.int p1), .val (.int p2), .val (.int p3), .val (.int p4), .val (.int (12 : Int32)), .val (.ref b101), .val (.int um), .val (.ref b147), .val (.ref sv149), .val (.ref b153), .unset, .unset] [(.int (1 : Int32))]))
        refine Go.via (fun _ => XS.goto X155r.here hx rfl (pc0 := 152) (pc' := 156) rfl (hb hby at_152) (by decide) (by decide)) ?_
        show Go p e below _ (T155.setTop (mkF m 156 #[.val (.int p1), .val (.int p2), .val (.int p3), .val (.int p4), .val (.int (12 : Int32)), .val (.ref b101), .val (.int um), .val (.ref b147), .val (.ref sv149), .val (.ref b153), .unset, .unset] [(.int (1 : Int32))]))
        refine Go.via (fun _ => XS.istore X155r.here hx rfl (hb hby at_156) rfl (l' := #[.val (.int p1), .val (.int p2), .val (.int p3), .val (.int p4), .val (.int (12 : Int32)), .val (.ref b101), .val (.int um), .val (.ref b147), .val (.ref sv149), .val (.ref b153), .val (.int (1 : Int32)), .unset]) rfl) ?_
        show Go p e below _ (T155.setTop (mkF m 158 #[.val (.int p1), .val (.int p2), .val (.int p3), .val (.int p4), .val (.int (12 : Int32)), .val (.ref b101), .val (.int um), .val (.ref b147), .val (.ref sv149), .val (.ref b153), .val (.int (1 : Int32)), .unset] []))
        refine Go.via (fun _ => XS.aload X155r.here hx rfl (hb hby at_158) rfl rfl) ?_
        show Go p e below _ (T155.setTop (mkF m 160 #[.val (.int p1), .val (.int p2), .val (.int p3), .val (.int p4), .val (.int (12 : Int32)), .val (.ref b101), .val (.int um), .val (.ref b147), .val (.ref sv149), .val (.ref b153), .val (.int (1 : Int32)), .unset] [(.ref b153)]))
        obtain ⟨cq156, kq156, q156a, q156b, q156c⟩ := isOf hZ155 rfl fE_b153_155
        obtain ⟨_, _, ⟨T156, L156, k156, n156⟩, -, X156, ⟨Lc156, hQ156, l156, y156, z156⟩, st156⟩ := X155r.virtualBack hx (y := (⟨"com/example/permits_from_duties/permitsfromduties/Event", "performer", "()Ljava/lang/String;"⟩ : MethodName)) (z := (⟨"com/example/permits_from_duties/permitsfromduties/Event", "performer", "()Ljava/lang/String;"⟩ : MethodName)) hown155 (mvT hZ155 (hw _ (List.mem_of_getElem? (i := 76) rfl))) (mvT hZ155 (hw _ (List.mem_of_getElem? (i := 77) rfl))) (notFace_of_selects (args := #[]) (mvT hZ155 (hw _ (List.mem_of_getElem? (i := 79) rfl)))) (mvT hZ155 (hw _ (List.mem_of_getElem? (i := 79) rfl))) (mvT hZ155 (hw _ (List.mem_of_getElem? (i := 78) rfl))) (by decide) (backOf (W := 0) (rmPf_1R l Z a0 hw [] b153 tr154 b147 T155.heap n0 Zs155 fE_b153_155 ft155 fE_tr154_155 fF_tr154_work_155 fu155) hZ155 (hw _ (List.mem_of_getElem? (i := 80) rfl)) (hw _ (List.mem_of_getElem? (i := 30) rfl)) (by decide) (by decide)) q156a q156c (g := (mkF m 160 #[.val (.int p1), .val (.int p2), .val (.int p3), .val (.int p4), .val (.int (12 : Int32)), .val (.ref b101), .val (.int um), .val (.ref b147), .val (.ref sv149), .val (.ref b153), .val (.int (1 : Int32)), .unset] [(.ref b153)])) rfl (by rw [hml]; rfl) (Steps.refl _) (argsL := []) (rest := []) (lenOf pd_12 rfl) rfl (by show 2 * 0 + _ ≤ _; exact Nat.le_of_eq rfl) (hb hby at_160) (fun _ _ => ⟨rfl, rfl, (by decide : 10 + 0 ≤ _), (by decide : 83 + 0 ≤ _)⟩)
        dsimp only [Pt.U, Pt.locs, Pt.cells, Pt.slots] at X156 l156 y156 z156 st156 hQ156
        rw [l156, y156, z156] at X156
        replace X156 : Stand p l e _ _ m _ below meth c T156 _ 10 83 := X156
        obtain ⟨rfl, N156q, e156q⟩ := hQ156
        have N156 := Fr.app N155 N156q
        refine Go.tr st156 ?_
        show Go p e below _ (T156.setTop (mkF m 163 #[.val (.int p1), .val (.int p2), .val (.int p3), .val (.int p4), .val (.int (12 : Int32)), .val (.ref b101), .val (.int um), .val (.ref b147), .val (.ref sv149), .val (.ref b153), .val (.int (1 : Int32)), .unset] [(.ref b147)]))
        refine Go.via (fun _ => XS.astore X156.here hx rfl (hb hby at_163) rfl rfl (l' := #[.val (.int p1), .val (.int p2), .val (.int p3), .val (.int p4), .val (.int (12 : Int32)), .val (.ref b101), .val (.int um), .val (.ref b147), .val (.ref sv149), .val (.ref b153), .val (.int (1 : Int32)), .val (.ref b147)]) rfl) ?_
        show Go p e below _ (T156.setTop (mkF m 165 #[.val (.int p1), .val (.int p2), .val (.int p3), .val (.int p4), .val (.int (12 : Int32)), .val (.ref b101), .val (.int um), .val (.ref b147), .val (.ref sv149), .val (.ref b153), .val (.int (1 : Int32)), .val (.ref b147)] []))
        refine Go.via (fun _ => XS.iload X156.here hx rfl (hb hby at_165) rfl) ?_
        show Go p e below _ (T156.setTop (mkF m 167 #[.val (.int p1), .val (.int p2), .val (.int p3), .val (.int p4), .val (.int (12 : Int32)), .val (.ref b101), .val (.int um), .val (.ref b147), .val (.ref sv149), .val (.ref b153), .val (.int (1 : Int32)), .val (.ref b147)] [(.int (1 : Int32))]))
        refine Go.via (fun _ => XS.ifNo X156.here hx rfl (hb hby at_167) rfl (by decide)) ?_
        show Go p e below _ (T156.setTop (mkF m 170 #[.val (.int p1), .val (.int p2), .val (.int p3), .val (.int p4), .val (.int (12 : Int32)), .val (.ref b101), .val (.int um), .val (.ref b147), .val (.ref sv149), .val (.ref b153), .val (.int (1 : Int32)), .val (.ref b147)] []))
        refine Go.via (fun _ => XS.aload X156.here hx rfl (hb hby at_170) rfl rfl) ?_
        show Go p e below _ (T156.setTop (mkF m 172 #[.val (.int p1), .val (.int p2), .val (.int p3), .val (.int p4), .val (.int (12 : Int32)), .val (.ref b101), .val (.int um), .val (.ref b147), .val (.ref sv149), .val (.ref b153), .val (.int (1 : Int32)), .val (.ref b147)] [(.ref b147)]))
        refine Go.via (fun _ => XS.aload X156.here hx rfl (hb hby at_172) rfl rfl) ?_
        show Go p e below _ (T156.setTop (mkF m 174 #[.val (.int p1), .val (.int p2), .val (.int p3), .val (.int p4), .val (.int (12 : Int32)), .val (.ref b101), .val (.int um), .val (.ref b147), .val (.ref sv149), .val (.ref b153), .val (.int (1 : Int32)), .val (.ref b147)] [(.ref b147), (.ref b147)]))
        refine Go.via (fun _ => Jvm.RoadKit.acmp (g := (mkF m 174 #[.val (.int p1), .val (.int p2), .val (.int p3), .val (.int p4), .val (.int (12 : Int32)), .val (.ref b101), .val (.int um), .val (.ref b147), .val (.ref sv149), .val (.ref b153), .val (.int (1 : Int32)), .val (.ref b147)] [(.ref b147), (.ref b147)])) X156 hx rfl rfl rfl (pc0 := 174) (pc' := 177) (same := true) rfl (hb hby at_174) rfl (decide_eq_true rfl) (by decide) (by decide)) ?_
        show Go p e below _ (T156.setTop (mkF m 177 #[.val (.int p1), .val (.int p2), .val (.int p3), .val (.int p4), .val (.int (12 : Int32)), .val (.ref b101), .val (.int um), .val (.ref b147), .val (.ref sv149), .val (.ref b153), .val (.int (1 : Int32)), .val (.ref b147)] []))
        refine Go.via (fun _ => XS.iconst X156.here hx rfl (hb hby at_177)) ?_
        show Go p e below _ (T156.setTop (mkF m 178 #[.val (.int p1), .val (.int p2), .val (.int p3), .val (.int p4), .val (.int (12 : Int32)), .val (.ref b101), .val (.int um), .val (.ref b147), .val (.ref sv149), .val (.ref b153), .val (.int (1 : Int32)), .val (.ref b147)] [(.int (1 : Int32))]))
        refine Go.via (fun _ => XS.goto X156.here hx rfl (pc0 := 178) (pc' := 182) rfl (hb hby at_178) (by decide) (by decide)) ?_
        show Go p e below _ (T156.setTop (mkF m 182 #[.val (.int p1), .val (.int p2), .val (.int p3), .val (.int p4), .val (.int (12 : Int32)), .val (.ref b101), .val (.int um), .val (.ref b147), .val (.ref sv149), .val (.ref b153), .val (.int (1 : Int32)), .val (.ref b147)] [(.int (1 : Int32))]))
        exact own_retNW X156 hS155 (by rw [e156q]; exact (Nat.le_refl _)) hx hlk (t := .boolean) Bd.returns (by simp) (hb hby at_182) (by show Q0 Z p1 p2 p3 p4 ccs w_SCHEDULE w_ASSIGN w_REASSIGN w_WITHDRAW w_START w_SUSPEND w_RESUME w_COMPLETE w_ATE_ABORT w_PI_ABORT w_MANUALSKIP w_AUTOSKIP w_UNKNOWN em h0 n0 _ T156.heap _; rw [e156q]; exact ⟨rfl, N156⟩) (by decide) (by decide)
      ·
        show Go p e below _ (T149.setTop (mkF m 89 #[.val (.int p1), .val (.int p2), .val (.int p3), .val (.int p4), .val (.int k), .val (.ref b101), .val (.int um), .val (.ref b147), .val (.ref sv149), .unset, .unset, .unset] []))
        refine Go.via (fun _ => XS.iload X149.here hx rfl (hb hby at_89) rfl) ?_
        show Go p e below _ (T149.setTop (mkF m 91 #[.val (.int p1), .val (.int p2), .val (.int p3), .val (.int p4), .val (.int k), .val (.ref b101), .val (.int um), .val (.ref b147), .val (.ref sv149), .unset, .unset, .unset] [(.int k)]))
        refine Go.via (fun _ => XS.bipush X149.here hx rfl (hb hby at_91)) ?_
        show Go p e below _ (T149.setTop (mkF m 93 #[.val (.int p1), .val (.int p2), .val (.int p3), .val (.int p4), .val (.int k), .val (.ref b101), .val (.int um), .val (.ref b147), .val (.ref sv149), .unset, .unset, .unset] [(.int (13 : Int32)), (.int k)]))
        refine Go.via (fun _ => XS.icmpYes X149.here hx rfl (pc0 := 93) (pc' := 112) rfl (hb hby at_93) rfl (feq hk.2.1).2 (by decide) (by decide)) ?_
        show Go p e below _ (T149.setTop (mkF m 112 #[.val (.int p1), .val (.int p2), .val (.int p3), .val (.int p4), .val (.int k), .val (.ref b101), .val (.int um), .val (.ref b147), .val (.ref sv149), .unset, .unset, .unset] []))
        obtain ⟨T157, h157, X157, e157, E157, A157, D157, -, st157⟩ := newO X149 hx hZ hown (hw _ (List.mem_of_getElem? (i := 28) rfl)) (hw _ (List.mem_of_getElem? (i := 29) rfl)) (hw _ (List.mem_of_getElem? (i := 30) rfl)) rfl (g := (mkF m 112 #[.val (.int p1), .val (.int p2), .val (.int p3), .val (.int p4), .val (.int k), .val (.ref b101), .val (.int um), .val (.ref b147), .val (.ref sv149), .unset, .unset, .unset] [])) rfl (hb hby at_112) (by decide) (by decide)
        obtain ⟨b157, g157⟩ : ∃ z, z = T149.heap.size := ⟨_, rfl⟩
        rw [← g157] at A157 D157 st157
        have g_b157 : n0 ≤ b157 := Nat.le_trans Zs149 (Nat.le_of_eq g157.symm)
        have ne_b101_b157 : b101 ≠ b157 := Nat.ne_of_lt (Nat.lt_of_lt_of_le fV_b101_149.lt (Nat.le_of_eq g157.symm))
        have ne_b147_b157 : b147 ≠ b157 := Nat.ne_of_lt (Nat.lt_of_lt_of_le fE_b147_149.lt (Nat.le_of_eq g157.symm))
        have ne_t148_b157 : t148 ≠ b157 := Nat.ne_of_lt (Nat.lt_of_lt_of_le fV_t148_149.lt (Nat.le_of_eq g157.symm))
        have ne_sv149_b157 : sv149 ≠ b157 := Nat.ne_of_lt (Nat.lt_of_lt_of_le ev149.lt (Nat.le_of_eq g157.symm))
        refine Go.via st157 ?_
        have Zs157 : n0 ≤ h157.size := Nat.le_trans Zs149 E157.1
        have hk157 : 0 ≤ h157.size := Nat.le_trans hk149 E157.1
        have O157 : Old Z n0 h157 := O149.ext E157
        have fV_b101_157 := fV_b101_149.ext E157
        have fE_b147_157 := fE_b147_149.ext E157
        have fV_t148_157 := fV_t148_149.ext E157
        have fF_b147_value_157 := fF_b147_value_149.ext E157
        have fF_b147_coder_157 := fF_b147_coder_149.ext E157
        have fE_sv149_157 := ev149.ext E157
        have F_task_b157 : Fld Z h157 b157 "com/example/permits_from_duties/permitsfromduties/Event" "task" "Ljava/lang/String;" .null := D157 (Or.inr (hw _ (List.mem_of_getElem? (i := 65) rfl))) (ty := (.object "java/lang/String")) (by decide)
        have F_user_b157 : Fld Z h157 b157 "com/example/permits_from_duties/permitsfromduties/Event" "user" "Ljava/lang/String;" .null := D157 (Or.inr (hw _ (List.mem_of_getElem? (i := 67) rfl))) (ty := (.object "java/lang/String")) (by decide)
        have F_time_b157 : Fld Z h157 b157 "com/example/permits_from_duties/permitsfromduties/Event" "time" "Ljava/time/Instant;" .null := D157 (Or.inr (hw _ (List.mem_of_getElem? (i := 69) rfl))) (ty := (.object "java/time/Instant")) (by decide)
        have F_transition_b157 : Fld Z h157 b157 "com/example/permits_from_duties/permitsfromduties/Event" "transition" "Lcom/example/permits_from_duties/permitsfromduties/Event$Transition;" .null := D157 (Or.inr (hw _ (List.mem_of_getElem? (i := 71) rfl))) (ty := (.object "com/example/permits_from_duties/permitsfromduties/Event$Transition")) (by decide)
        have F_location_b157 : Fld Z h157 b157 "com/example/permits_from_duties/permitsfromduties/Event" "location" "Ljava/lang/String;" .null := D157 (Or.inr (hw _ (List.mem_of_getElem? (i := 73) rfl))) (ty := (.object "java/lang/String")) (by decide)
        have F_data_b157 : Fld Z h157 b157 "com/example/permits_from_duties/permitsfromduties/Event" "data" "Ljava/util/Map;" .null := D157 (Or.inr (hw _ (List.mem_of_getElem? (i := 75) rfl))) (ty := (.object "java/util/Map")) (by decide)
        show Go p e below _ (T157.setTop (mkF m 115 #[.val (.int p1), .val (.int p2), .val (.int p3), .val (.int p4), .val (.int k), .val (.ref b101), .val (.int um), .val (.ref b147), .val (.ref sv149), .unset, .unset, .unset] [(.ref b157)]))
        refine Go.via (fun _ => XS.dup X157.here hx rfl (hb hby at_115) rfl rfl) ?_
        show Go p e below _ (T157.setTop (mkF m 116 #[.val (.int p1), .val (.int p2), .val (.int p3), .val (.int p4), .val (.int k), .val (.ref b101), .val (.int um), .val (.ref b147), .val (.ref sv149), .unset, .unset, .unset] [(.ref b157), (.ref b157)]))
        refine Go.via (fun _ => XS.aload X157.here hx rfl (hb hby at_116) rfl rfl) ?_
        show Go p e below _ (T157.setTop (mkF m 118 #[.val (.int p1), .val (.int p2), .val (.int p3), .val (.int p4), .val (.int k), .val (.ref b101), .val (.int um), .val (.ref b147), .val (.ref sv149), .unset, .unset, .unset] [(.ref sv149), (.ref b157), (.ref b157)]))
        refine Go.via (fun _ => XS.aload X157.here hx rfl (hb hby at_118) rfl rfl) ?_
        show Go p e below _ (T157.setTop (mkF m 120 #[.val (.int p1), .val (.int p2), .val (.int p3), .val (.int p4), .val (.int k), .val (.ref b101), .val (.int um), .val (.ref b147), .val (.ref sv149), .unset, .unset, .unset] [(.ref b147), (.ref sv149), (.ref b157), (.ref b157)]))
        refine Go.via (fun _ => XS.aconstNull X157.here hx rfl (hb hby at_120)) ?_
        show Go p e below _ (T157.setTop (mkF m 121 #[.val (.int p1), .val (.int p2), .val (.int p3), .val (.int p4), .val (.int k), .val (.ref b101), .val (.int um), .val (.ref b147), .val (.ref sv149), .unset, .unset, .unset] [.null, (.ref b147), (.ref sv149), (.ref b157), (.ref b157)]))
        refine Go.via (fun _ => XS.iload X157.here hx rfl (hb hby at_121) rfl) ?_
        show Go p e below _ (T157.setTop (mkF m 123 #[.val (.int p1), .val (.int p2), .val (.int p3), .val (.int p4), .val (.int k), .val (.ref b101), .val (.int um), .val (.ref b147), .val (.ref sv149), .unset, .unset, .unset] [(.int k), .null, (.ref b147), (.ref sv149), (.ref b157), (.ref b157)]))
        obtain ⟨_, _, ⟨T158, L158, k158, n158⟩, -, X158, ⟨Lc158, hQ158, l158, y158, z158⟩, st158⟩ := Jvm.LawKit.callS X157 hx (y := (⟨"com/example/permits_from_duties/permitsfromduties/EventPerformerPinLaw", "pick", "(I)Lcom/example/permits_from_duties/permitsfromduties/Event$Transition;"⟩ : MethodName)) hown (mvT hZ (hw _ (List.mem_of_getElem? (i := 31) rfl))) (mvT hZ (hw _ (List.mem_of_getElem? (i := 32) rfl))) (mvT hZ (hw _ (List.mem_of_getElem? (i := 33) rfl))) (mvT hZ (hw _ (List.mem_of_getElem? (i := 34) rfl))) (by decide) (backOf (W := 5) (rmPk_A l Z a0 hw [] k w_SCHEDULE w_ASSIGN w_REASSIGN w_WITHDRAW w_START w_SUSPEND w_RESUME w_COMPLETE w_ATE_ABORT w_PI_ABORT w_MANUALSKIP w_AUTOSKIP w_UNKNOWN h157 n0 Zs157 hk.1 O157 S_SCHEDULE S_ASSIGN S_REASSIGN S_WITHDRAW S_START S_SUSPEND S_RESUME S_COMPLETE S_ATE_ABORT S_PI_ABORT S_MANUALSKIP S_AUTOSKIP S_UNKNOWN E_SCHEDULE E_ASSIGN E_REASSIGN E_WITHDRAW E_START E_SUSPEND E_RESUME E_COMPLETE E_ATE_ABORT E_PI_ABORT E_MANUALSKIP E_AUTOSKIP E_UNKNOWN F_SCHEDULE F_ASSIGN F_REASSIGN F_WITHDRAW F_START F_SUSPEND F_RESUME F_COMPLETE F_ATE_ABORT F_PI_ABORT F_MANUALSKIP F_AUTOSKIP F_UNKNOWN) hZ (hw _ (List.mem_of_getElem? (i := 34) rfl)) (hw _ (List.mem_of_getElem? (i := 33) rfl)) (by decide) (by decide)) (g := (mkF m 123 #[.val (.int p1), .val (.int p2), .val (.int p3), .val (.int p4), .val (.int k), .val (.ref b101), .val (.int um), .val (.ref b147), .val (.ref sv149), .unset, .unset, .unset] [(.int k), .null, (.ref b147), (.ref sv149), (.ref b157), (.ref b157)])) rfl (by rw [hml]; rfl) (argsL := [(.int k)]) (rest := [.null, (.ref b147), (.ref sv149), (.ref b157), (.ref b157)]) (lenOf pd_13 rfl) rfl (by show 2 * 0 + _ ≤ _; exact Nat.le_of_eq rfl) (hb hby at_123) (fun _ _ => ⟨rfl, e157, (by decide : 6 + 0 ≤ _), (by decide : 19 + 0 ≤ _)⟩)
        dsimp only [Pt.U, Pt.locs, Pt.cells, Pt.slots] at X158 l158 y158 z158 st158 hQ158
        rw [l158, y158, z158] at X158
        replace X158 : Stand p l e _ _ m _ below meth c T158 _ 6 19 := X158
        obtain ⟨tr158, rfl, N158q, e158q, et158, fw158⟩ := hQ158
        have N158 := Fr.app N149 N158q
        refine Go.via st158 ?_
        have neb157_tr158 : b157 ≠ tr158 := ne_exa A157 et158 (by decide)
        show Go p e below _ (T158.setTop (mkF m 126 #[.val (.int p1), .val (.int p2), .val (.int p3), .val (.int p4), .val (.int k), .val (.ref b101), .val (.int um), .val (.ref b147), .val (.ref sv149), .unset, .unset, .unset] [(.ref tr158), .null, (.ref b147), (.ref sv149), (.ref b157), (.ref b157)]))
        obtain ⟨_, _, ⟨T159, L159, k159, n159⟩, -, X159, S159w, gr159, ⟨Lc159, hQ159, l159, y159, z159⟩, st159⟩ := X158.specialBackS hx (y := (⟨"com/example/permits_from_duties/permitsfromduties/Event", "<init>", "(Ljava/lang/String;Ljava/lang/String;Ljava/time/Instant;Lcom/example/permits_from_duties/permitsfromduties/Event$Transition;)V"⟩ : MethodName)) rfl hown (mvT hZ (hw _ (List.mem_of_getElem? (i := 38) rfl))) (mvT hZ (hw _ (List.mem_of_getElem? (i := 39) rfl))) (mvT hZ (hw _ (List.mem_of_getElem? (i := 40) rfl))) (by decide) (backOfS (W := 1) (rmC4R l Z a0 hw [] b157 sv149 b147 tr158 em h157 n0 Zs157 A157 F_task_b157 F_user_b157 F_time_b157 F_transition_b157 F_location_b157 F_data_b157 g_b157 O157 S_EM) hZ (hw _ (List.mem_of_getElem? (i := 40) rfl)) (hw _ (List.mem_of_getElem? (i := 30) rfl)) (by decide) (by decide)) (g := (mkF m 126 #[.val (.int p1), .val (.int p2), .val (.int p3), .val (.int p4), .val (.int k), .val (.ref b101), .val (.int um), .val (.ref b147), .val (.ref sv149), .unset, .unset, .unset] [(.ref tr158), .null, (.ref b147), (.ref sv149), (.ref b157), (.ref b157)])) rfl (by rw [hml]; rfl) (Steps.refl _) (a := b157) (argsL := [(.ref sv149), (.ref b147), .null, (.ref tr158)]) (rest := [(.ref b157)]) (lenOf pd_4 rfl) rfl (by show 2 * 0 + _ ≤ _; exact Nat.le_of_eq rfl) (hb hby at_126) (fun _ _ => ⟨rfl, e158q, (by decide : 6 + 4 ≤ _), (by decide : 19 + 64 ≤ _)⟩)
        dsimp only [Pt.U, Pt.locs, Pt.cells, Pt.slots] at X159 l159 y159 z159 st159 hQ159 S159w gr159
        rw [l159, y159, z159] at X159
        replace X159 : Stand p l e _ _ m _ below meth c T159 _ 10 83 := X159
        obtain ⟨rfl, N159q, K159q, fu159, ft159⟩ := hQ159
        have N159 := Fr.app N158 N159q
        refine Go.tr st159 ?_
        obtain ⟨X159r, hS159, hZ159, hown159⟩ := rebS hS0 (by rw [e158q]; exact hk157) X159 S159w gr159 hZ hown
        have Zs159 : n0 ≤ T159.heap.size := Nat.le_trans Zs157 K159q.1
        have O159 : Old Z n0 T159.heap := O157.keep K159q (allS g_b157 all0)
        have fV_b101_159 := fV_b101_157.keep K159q (ninS ne_b101_b157 nin0)
        have fE_b147_159 := fE_b147_157.keep K159q
        have fV_t148_159 := fV_t148_157.keep K159q (ninS ne_t148_b157 nin0)
        have fF_b147_value_159 := fF_b147_value_157.keep K159q (ninS ne_b147_b157 nin0)
        have fF_b147_coder_159 := fF_b147_coder_157.keep K159q (ninS ne_b147_b157 nin0)
        have fE_sv149_159 := fE_sv149_157.keep K159q
        have fE_b157_159 := A157.keep K159q
        have fE_tr158_159 := et158.keep K159q
        have fF_tr158_work_159 := fw158.keep K159q (ninS (Ne.symm neb157_tr158) nin0)
        show Go p e below _ (T159.setTop (mkF m 129 #[.val (.int p1), .val (.int p2), .val (.int p3), .val (.int p4), .val (.int k), .val (.ref b101), .val (.int um), .val (.ref b147), .val (.ref sv149), .unset, .unset, .unset] [(.ref b157)]))
        refine Go.via (fun _ => XS.astore X159r.here hx rfl (hb hby at_129) rfl rfl (l' := #[.val (.int p1), .val (.int p2), .val (.int p3), .val (.int p4), .val (.int k), .val (.ref b101), .val (.int um), .val (.ref b147), .val (.ref sv149), .val (.ref b157), .unset, .unset]) rfl) ?_
        show Go p e below _ (T159.setTop (mkF m 131 #[.val (.int p1), .val (.int p2), .val (.int p3), .val (.int p4), .val (.int k), .val (.ref b101), .val (.int um), .val (.ref b147), .val (.ref sv149), .val (.ref b157), .unset, .unset] []))
        refine Go.via (fun _ => XS.iload X159r.here hx rfl (hb hby at_131) rfl) ?_
        show Go p e below _ (T159.setTop (mkF m 133 #[.val (.int p1), .val (.int p2), .val (.int p3), .val (.int p4), .val (.int k), .val (.ref b101), .val (.int um), .val (.ref b147), .val (.ref sv149), .val (.ref b157), .unset, .unset] [(.int k)]))
        refine Go.via (fun _ => XS.iconst X159r.here hx rfl (hb hby at_133)) ?_
        show Go p e below _ (T159.setTop (mkF m 134 #[.val (.int p1), .val (.int p2), .val (.int p3), .val (.int p4), .val (.int k), .val (.ref b101), .val (.int um), .val (.ref b147), .val (.ref sv149), .val (.ref b157), .unset, .unset] [(.int (4 : Int32)), (.int k)]))
        refine Go.via (fun _ => XS.icmpYes X159r.here hx rfl (pc0 := 134) (pc' := 144) rfl (hb hby at_134) rfl (tlt hk.2.2.1).1 (by decide) (by decide)) ?_
        show Go p e below _ (T159.setTop (mkF m 144 #[.val (.int p1), .val (.int p2), .val (.int p3), .val (.int p4), .val (.int k), .val (.ref b101), .val (.int um), .val (.ref b147), .val (.ref sv149), .val (.ref b157), .unset, .unset] []))
        refine Go.via (fun _ => XS.iload X159r.here hx rfl (hb hby at_144) rfl) ?_
        show Go p e below _ (T159.setTop (mkF m 146 #[.val (.int p1), .val (.int p2), .val (.int p3), .val (.int p4), .val (.int k), .val (.ref b101), .val (.int um), .val (.ref b147), .val (.ref sv149), .val (.ref b157), .unset, .unset] [(.int k)]))
        refine Go.via (fun _ => XS.bipush X159r.here hx rfl (hb hby at_146)) ?_
        show Go p e below _ (T159.setTop (mkF m 148 #[.val (.int p1), .val (.int p2), .val (.int p3), .val (.int p4), .val (.int k), .val (.ref b101), .val (.int um), .val (.ref b147), .val (.ref sv149), .val (.ref b157), .unset, .unset] [(.int (12 : Int32)), (.int k)]))
        refine Go.via (fun _ => XS.icmpYes X159r.here hx rfl (pc0 := 148) (pc' := 155) rfl (hb hby at_148) rfl (tlt hk.2.2.2).1 (by decide) (by decide)) ?_
        show Go p e below _ (T159.setTop (mkF m 155 #[.val (.int p1), .val (.int p2), .val (.int p3), .val (.int p4), .val (.int k), .val (.ref b101), .val (.int um), .val (.ref b147), .val (.ref sv149), .val (.ref b157), .unset, .unset] []))
        refine Go.via (fun _ => XS.iconst X159r.here hx rfl (hb hby at_155)) ?_
        show Go p e below _ (T159.setTop (mkF m 156 #[.val (.int p1), .val (.int p2), .val (.int p3), .val (.int p4), .val (.int k), .val (.ref b101), .val (.int um), .val (.ref b147), .val (.ref sv149), .val (.ref b157), .unset, .unset] [(.int (0 : Int32))]))
        refine Go.via (fun _ => XS.istore X159r.here hx rfl (hb hby at_156) rfl (l' := #[.val (.int p1), .val (.int p2), .val (.int p3), .val (.int p4), .val (.int k), .val (.ref b101), .val (.int um), .val (.ref b147), .val (.ref sv149), .val (.ref b157), .val (.int (0 : Int32)), .unset]) rfl) ?_
        show Go p e below _ (T159.setTop (mkF m 158 #[.val (.int p1), .val (.int p2), .val (.int p3), .val (.int p4), .val (.int k), .val (.ref b101), .val (.int um), .val (.ref b147), .val (.ref sv149), .val (.ref b157), .val (.int (0 : Int32)), .unset] []))
        refine Go.via (fun _ => XS.aload X159r.here hx rfl (hb hby at_158) rfl rfl) ?_
        show Go p e below _ (T159.setTop (mkF m 160 #[.val (.int p1), .val (.int p2), .val (.int p3), .val (.int p4), .val (.int k), .val (.ref b101), .val (.int um), .val (.ref b147), .val (.ref sv149), .val (.ref b157), .val (.int (0 : Int32)), .unset] [(.ref b157)]))
        obtain ⟨cq160, kq160, q160a, q160b, q160c⟩ := isOf hZ159 rfl fE_b157_159
        obtain ⟨_, _, ⟨T160, L160, k160, n160⟩, -, X160, ⟨Lc160, hQ160, l160, y160, z160⟩, st160⟩ := X159r.virtualBack hx (y := (⟨"com/example/permits_from_duties/permitsfromduties/Event", "performer", "()Ljava/lang/String;"⟩ : MethodName)) (z := (⟨"com/example/permits_from_duties/permitsfromduties/Event", "performer", "()Ljava/lang/String;"⟩ : MethodName)) hown159 (mvT hZ159 (hw _ (List.mem_of_getElem? (i := 76) rfl))) (mvT hZ159 (hw _ (List.mem_of_getElem? (i := 77) rfl))) (notFace_of_selects (args := #[]) (mvT hZ159 (hw _ (List.mem_of_getElem? (i := 79) rfl)))) (mvT hZ159 (hw _ (List.mem_of_getElem? (i := 79) rfl))) (mvT hZ159 (hw _ (List.mem_of_getElem? (i := 78) rfl))) (by decide) (backOf (W := 0) (rmPf_0R l Z a0 hw [] b157 tr158 b147 T159.heap n0 Zs159 fE_b157_159 ft159 fE_tr158_159 fF_tr158_work_159 fu159) hZ159 (hw _ (List.mem_of_getElem? (i := 80) rfl)) (hw _ (List.mem_of_getElem? (i := 30) rfl)) (by decide) (by decide)) q160a q160c (g := (mkF m 160 #[.val (.int p1), .val (.int p2), .val (.int p3), .val (.int p4), .val (.int k), .val (.ref b101), .val (.int um), .val (.ref b147), .val (.ref sv149), .val (.ref b157), .val (.int (0 : Int32)), .unset] [(.ref b157)])) rfl (by rw [hml]; rfl) (Steps.refl _) (argsL := []) (rest := []) (lenOf pd_12 rfl) rfl (by show 2 * 0 + _ ≤ _; exact Nat.le_of_eq rfl) (hb hby at_160) (fun _ _ => ⟨rfl, rfl, (by decide : 10 + 0 ≤ _), (by decide : 83 + 0 ≤ _)⟩)
        dsimp only [Pt.U, Pt.locs, Pt.cells, Pt.slots] at X160 l160 y160 z160 st160 hQ160
        rw [l160, y160, z160] at X160
        replace X160 : Stand p l e _ _ m _ below meth c T160 _ 10 83 := X160
        obtain ⟨rfl, N160q, e160q⟩ := hQ160
        have N160 := Fr.app N159 N160q
        refine Go.tr st160 ?_
        show Go p e below _ (T160.setTop (mkF m 163 #[.val (.int p1), .val (.int p2), .val (.int p3), .val (.int p4), .val (.int k), .val (.ref b101), .val (.int um), .val (.ref b147), .val (.ref sv149), .val (.ref b157), .val (.int (0 : Int32)), .unset] [.null]))
        refine Go.via (fun _ => XS.astore X160.here hx rfl (hb hby at_163) rfl rfl (l' := #[.val (.int p1), .val (.int p2), .val (.int p3), .val (.int p4), .val (.int k), .val (.ref b101), .val (.int um), .val (.ref b147), .val (.ref sv149), .val (.ref b157), .val (.int (0 : Int32)), .val .null]) rfl) ?_
        show Go p e below _ (T160.setTop (mkF m 165 #[.val (.int p1), .val (.int p2), .val (.int p3), .val (.int p4), .val (.int k), .val (.ref b101), .val (.int um), .val (.ref b147), .val (.ref sv149), .val (.ref b157), .val (.int (0 : Int32)), .val .null] []))
        refine Go.via (fun _ => XS.iload X160.here hx rfl (hb hby at_165) rfl) ?_
        show Go p e below _ (T160.setTop (mkF m 167 #[.val (.int p1), .val (.int p2), .val (.int p3), .val (.int p4), .val (.int k), .val (.ref b101), .val (.int um), .val (.ref b147), .val (.ref sv149), .val (.ref b157), .val (.int (0 : Int32)), .val .null] [(.int (0 : Int32))]))
        refine Go.via (fun _ => XS.ifYes X160.here hx rfl (pc0 := 167) (pc' := 183) rfl (hb hby at_167) rfl (by decide) (by decide) (by decide)) ?_
        show Go p e below _ (T160.setTop (mkF m 183 #[.val (.int p1), .val (.int p2), .val (.int p3), .val (.int p4), .val (.int k), .val (.ref b101), .val (.int um), .val (.ref b147), .val (.ref sv149), .val (.ref b157), .val (.int (0 : Int32)), .val .null] []))
        refine Go.via (fun _ => XS.aload X160.here hx rfl (hb hby at_183) rfl rfl) ?_
        show Go p e below _ (T160.setTop (mkF m 185 #[.val (.int p1), .val (.int p2), .val (.int p3), .val (.int p4), .val (.int k), .val (.ref b101), .val (.int um), .val (.ref b147), .val (.ref sv149), .val (.ref b157), .val (.int (0 : Int32)), .val .null] [.null]))
        refine Go.via (fun _ => XS.ifnonnullNo X160.here hx rfl (hb hby at_185) rfl) ?_
        show Go p e below _ (T160.setTop (mkF m 188 #[.val (.int p1), .val (.int p2), .val (.int p3), .val (.int p4), .val (.int k), .val (.ref b101), .val (.int um), .val (.ref b147), .val (.ref sv149), .val (.ref b157), .val (.int (0 : Int32)), .val .null] []))
        refine Go.via (fun _ => XS.iconst X160.here hx rfl (hb hby at_188)) ?_
        show Go p e below _ (T160.setTop (mkF m 189 #[.val (.int p1), .val (.int p2), .val (.int p3), .val (.int p4), .val (.int k), .val (.ref b101), .val (.int um), .val (.ref b147), .val (.ref sv149), .val (.ref b157), .val (.int (0 : Int32)), .val .null] [(.int (1 : Int32))]))
        refine Go.via (fun _ => XS.goto X160.here hx rfl (pc0 := 189) (pc' := 193) rfl (hb hby at_189) (by decide) (by decide)) ?_
        show Go p e below _ (T160.setTop (mkF m 193 #[.val (.int p1), .val (.int p2), .val (.int p3), .val (.int p4), .val (.int k), .val (.ref b101), .val (.int um), .val (.ref b147), .val (.ref sv149), .val (.ref b157), .val (.int (0 : Int32)), .val .null] [(.int (1 : Int32))]))
        exact own_retNW X160 hS159 (by rw [e160q]; exact (Nat.le_refl _)) hx hlk (t := .boolean) Bd.returns (by simp) (hb hby at_193) (by show Q0 Z p1 p2 p3 p4 ccs w_SCHEDULE w_ASSIGN w_REASSIGN w_WITHDRAW w_START w_SUSPEND w_RESUME w_COMPLETE w_ATE_ABORT w_PI_ABORT w_MANUALSKIP w_AUTOSKIP w_UNKNOWN em h0 n0 _ T160.heap _; rw [e160q]; exact ⟨rfl, N160⟩) (by decide) (by decide)
      ·
        show Go p e below _ (T149.setTop (mkF m 89 #[.val (.int p1), .val (.int p2), .val (.int p3), .val (.int p4), .val (.int k), .val (.ref b101), .val (.int um), .val (.ref b147), .val (.ref sv149), .unset, .unset, .unset] []))
        refine Go.via (fun _ => XS.iload X149.here hx rfl (hb hby at_89) rfl) ?_
        show Go p e below _ (T149.setTop (mkF m 91 #[.val (.int p1), .val (.int p2), .val (.int p3), .val (.int p4), .val (.int k), .val (.ref b101), .val (.int um), .val (.ref b147), .val (.ref sv149), .unset, .unset, .unset] [(.int k)]))
        refine Go.via (fun _ => XS.bipush X149.here hx rfl (hb hby at_91)) ?_
        show Go p e below _ (T149.setTop (mkF m 93 #[.val (.int p1), .val (.int p2), .val (.int p3), .val (.int p4), .val (.int k), .val (.ref b101), .val (.int um), .val (.ref b147), .val (.ref sv149), .unset, .unset, .unset] [(.int (13 : Int32)), (.int k)]))
        refine Go.via (fun _ => XS.icmpYes X149.here hx rfl (pc0 := 93) (pc' := 112) rfl (hb hby at_93) rfl (feq hk.2.1).2 (by decide) (by decide)) ?_
        show Go p e below _ (T149.setTop (mkF m 112 #[.val (.int p1), .val (.int p2), .val (.int p3), .val (.int p4), .val (.int k), .val (.ref b101), .val (.int um), .val (.ref b147), .val (.ref sv149), .unset, .unset, .unset] []))
        obtain ⟨T161, h161, X161, e161, E161, A161, D161, -, st161⟩ := newO X149 hx hZ hown (hw _ (List.mem_of_getElem? (i := 28) rfl)) (hw _ (List.mem_of_getElem? (i := 29) rfl)) (hw _ (List.mem_of_getElem? (i := 30) rfl)) rfl (g := (mkF m 112 #[.val (.int p1), .val (.int p2), .val (.int p3), .val (.int p4), .val (.int k), .val (.ref b101), .val (.int um), .val (.ref b147), .val (.ref sv149), .unset, .unset, .unset] [])) rfl (hb hby at_112) (by decide) (by decide)
        obtain ⟨b161, g161⟩ : ∃ z, z = T149.heap.size := ⟨_, rfl⟩
        rw [← g161] at A161 D161 st161
        have g_b161 : n0 ≤ b161 := Nat.le_trans Zs149 (Nat.le_of_eq g161.symm)
        have ne_b101_b161 : b101 ≠ b161 := Nat.ne_of_lt (Nat.lt_of_lt_of_le fV_b101_149.lt (Nat.le_of_eq g161.symm))
        have ne_b147_b161 : b147 ≠ b161 := Nat.ne_of_lt (Nat.lt_of_lt_of_le fE_b147_149.lt (Nat.le_of_eq g161.symm))
        have ne_t148_b161 : t148 ≠ b161 := Nat.ne_of_lt (Nat.lt_of_lt_of_le fV_t148_149.lt (Nat.le_of_eq g161.symm))
        have ne_sv149_b161 : sv149 ≠ b161 := Nat.ne_of_lt (Nat.lt_of_lt_of_le ev149.lt (Nat.le_of_eq g161.symm))
        refine Go.via st161 ?_
        have Zs161 : n0 ≤ h161.size := Nat.le_trans Zs149 E161.1
        have hk161 : 0 ≤ h161.size := Nat.le_trans hk149 E161.1
        have O161 : Old Z n0 h161 := O149.ext E161
        have fV_b101_161 := fV_b101_149.ext E161
        have fE_b147_161 := fE_b147_149.ext E161
        have fV_t148_161 := fV_t148_149.ext E161
        have fF_b147_value_161 := fF_b147_value_149.ext E161
        have fF_b147_coder_161 := fF_b147_coder_149.ext E161
        have fE_sv149_161 := ev149.ext E161
        have F_task_b161 : Fld Z h161 b161 "com/example/permits_from_duties/permitsfromduties/Event" "task" "Ljava/lang/String;" .null := D161 (Or.inr (hw _ (List.mem_of_getElem? (i := 65) rfl))) (ty := (.object "java/lang/String")) (by decide)
        have F_user_b161 : Fld Z h161 b161 "com/example/permits_from_duties/permitsfromduties/Event" "user" "Ljava/lang/String;" .null := D161 (Or.inr (hw _ (List.mem_of_getElem? (i := 67) rfl))) (ty := (.object "java/lang/String")) (by decide)
        have F_time_b161 : Fld Z h161 b161 "com/example/permits_from_duties/permitsfromduties/Event" "time" "Ljava/time/Instant;" .null := D161 (Or.inr (hw _ (List.mem_of_getElem? (i := 69) rfl))) (ty := (.object "java/time/Instant")) (by decide)
        have F_transition_b161 : Fld Z h161 b161 "com/example/permits_from_duties/permitsfromduties/Event" "transition" "Lcom/example/permits_from_duties/permitsfromduties/Event$Transition;" .null := D161 (Or.inr (hw _ (List.mem_of_getElem? (i := 71) rfl))) (ty := (.object "com/example/permits_from_duties/permitsfromduties/Event$Transition")) (by decide)
        have F_location_b161 : Fld Z h161 b161 "com/example/permits_from_duties/permitsfromduties/Event" "location" "Ljava/lang/String;" .null := D161 (Or.inr (hw _ (List.mem_of_getElem? (i := 73) rfl))) (ty := (.object "java/lang/String")) (by decide)
        have F_data_b161 : Fld Z h161 b161 "com/example/permits_from_duties/permitsfromduties/Event" "data" "Ljava/util/Map;" .null := D161 (Or.inr (hw _ (List.mem_of_getElem? (i := 75) rfl))) (ty := (.object "java/util/Map")) (by decide)
        show Go p e below _ (T161.setTop (mkF m 115 #[.val (.int p1), .val (.int p2), .val (.int p3), .val (.int p4), .val (.int k), .val (.ref b101), .val (.int um), .val (.ref b147), .val (.ref sv149), .unset, .unset, .unset] [(.ref b161)]))
        refine Go.via (fun _ => XS.dup X161.here hx rfl (hb hby at_115) rfl rfl) ?_
        show Go p e below _ (T161.setTop (mkF m 116 #[.val (.int p1), .val (.int p2), .val (.int p3), .val (.int p4), .val (.int k), .val (.ref b101), .val (.int um), .val (.ref b147), .val (.ref sv149), .unset, .unset, .unset] [(.ref b161), (.ref b161)]))
        refine Go.via (fun _ => XS.aload X161.here hx rfl (hb hby at_116) rfl rfl) ?_
        show Go p e below _ (T161.setTop (mkF m 118 #[.val (.int p1), .val (.int p2), .val (.int p3), .val (.int p4), .val (.int k), .val (.ref b101), .val (.int um), .val (.ref b147), .val (.ref sv149), .unset, .unset, .unset] [(.ref sv149), (.ref b161), (.ref b161)]))
        refine Go.via (fun _ => XS.aload X161.here hx rfl (hb hby at_118) rfl rfl) ?_
        show Go p e below _ (T161.setTop (mkF m 120 #[.val (.int p1), .val (.int p2), .val (.int p3), .val (.int p4), .val (.int k), .val (.ref b101), .val (.int um), .val (.ref b147), .val (.ref sv149), .unset, .unset, .unset] [(.ref b147), (.ref sv149), (.ref b161), (.ref b161)]))
        refine Go.via (fun _ => XS.aconstNull X161.here hx rfl (hb hby at_120)) ?_
        show Go p e below _ (T161.setTop (mkF m 121 #[.val (.int p1), .val (.int p2), .val (.int p3), .val (.int p4), .val (.int k), .val (.ref b101), .val (.int um), .val (.ref b147), .val (.ref sv149), .unset, .unset, .unset] [.null, (.ref b147), (.ref sv149), (.ref b161), (.ref b161)]))
        refine Go.via (fun _ => XS.iload X161.here hx rfl (hb hby at_121) rfl) ?_
        show Go p e below _ (T161.setTop (mkF m 123 #[.val (.int p1), .val (.int p2), .val (.int p3), .val (.int p4), .val (.int k), .val (.ref b101), .val (.int um), .val (.ref b147), .val (.ref sv149), .unset, .unset, .unset] [(.int k), .null, (.ref b147), (.ref sv149), (.ref b161), (.ref b161)]))
        obtain ⟨_, _, ⟨T162, L162, k162, n162⟩, -, X162, ⟨Lc162, hQ162, l162, y162, z162⟩, st162⟩ := Jvm.LawKit.callS X161 hx (y := (⟨"com/example/permits_from_duties/permitsfromduties/EventPerformerPinLaw", "pick", "(I)Lcom/example/permits_from_duties/permitsfromduties/Event$Transition;"⟩ : MethodName)) hown (mvT hZ (hw _ (List.mem_of_getElem? (i := 31) rfl))) (mvT hZ (hw _ (List.mem_of_getElem? (i := 32) rfl))) (mvT hZ (hw _ (List.mem_of_getElem? (i := 33) rfl))) (mvT hZ (hw _ (List.mem_of_getElem? (i := 34) rfl))) (by decide) (backOf (W := 5) (rmPk_B l Z a0 hw [] k w_SCHEDULE w_ASSIGN w_REASSIGN w_WITHDRAW w_START w_SUSPEND w_RESUME w_COMPLETE w_ATE_ABORT w_PI_ABORT w_MANUALSKIP w_AUTOSKIP w_UNKNOWN h161 n0 Zs161 hk.1 O161 S_SCHEDULE S_ASSIGN S_REASSIGN S_WITHDRAW S_START S_SUSPEND S_RESUME S_COMPLETE S_ATE_ABORT S_PI_ABORT S_MANUALSKIP S_AUTOSKIP S_UNKNOWN E_SCHEDULE E_ASSIGN E_REASSIGN E_WITHDRAW E_START E_SUSPEND E_RESUME E_COMPLETE E_ATE_ABORT E_PI_ABORT E_MANUALSKIP E_AUTOSKIP E_UNKNOWN F_SCHEDULE F_ASSIGN F_REASSIGN F_WITHDRAW F_START F_SUSPEND F_RESUME F_COMPLETE F_ATE_ABORT F_PI_ABORT F_MANUALSKIP F_AUTOSKIP F_UNKNOWN) hZ (hw _ (List.mem_of_getElem? (i := 34) rfl)) (hw _ (List.mem_of_getElem? (i := 33) rfl)) (by decide) (by decide)) (g := (mkF m 123 #[.val (.int p1), .val (.int p2), .val (.int p3), .val (.int p4), .val (.int k), .val (.ref b101), .val (.int um), .val (.ref b147), .val (.ref sv149), .unset, .unset, .unset] [(.int k), .null, (.ref b147), (.ref sv149), (.ref b161), (.ref b161)])) rfl (by rw [hml]; rfl) (argsL := [(.int k)]) (rest := [.null, (.ref b147), (.ref sv149), (.ref b161), (.ref b161)]) (lenOf pd_13 rfl) rfl (by show 2 * 0 + _ ≤ _; exact Nat.le_of_eq rfl) (hb hby at_123) (fun _ _ => ⟨rfl, e161, (by decide : 6 + 0 ≤ _), (by decide : 19 + 0 ≤ _)⟩)
        dsimp only [Pt.U, Pt.locs, Pt.cells, Pt.slots] at X162 l162 y162 z162 st162 hQ162
        rw [l162, y162, z162] at X162
        replace X162 : Stand p l e _ _ m _ below meth c T162 _ 6 19 := X162
        obtain ⟨tr162, rfl, N162q, e162q, et162, fw162⟩ := hQ162
        have N162 := Fr.app N149 N162q
        refine Go.via st162 ?_
        have neb161_tr162 : b161 ≠ tr162 := ne_exa A161 et162 (by decide)
        show Go p e below _ (T162.setTop (mkF m 126 #[.val (.int p1), .val (.int p2), .val (.int p3), .val (.int p4), .val (.int k), .val (.ref b101), .val (.int um), .val (.ref b147), .val (.ref sv149), .unset, .unset, .unset] [(.ref tr162), .null, (.ref b147), (.ref sv149), (.ref b161), (.ref b161)]))
        obtain ⟨_, _, ⟨T163, L163, k163, n163⟩, -, X163, S163w, gr163, ⟨Lc163, hQ163, l163, y163, z163⟩, st163⟩ := X162.specialBackS hx (y := (⟨"com/example/permits_from_duties/permitsfromduties/Event", "<init>", "(Ljava/lang/String;Ljava/lang/String;Ljava/time/Instant;Lcom/example/permits_from_duties/permitsfromduties/Event$Transition;)V"⟩ : MethodName)) rfl hown (mvT hZ (hw _ (List.mem_of_getElem? (i := 38) rfl))) (mvT hZ (hw _ (List.mem_of_getElem? (i := 39) rfl))) (mvT hZ (hw _ (List.mem_of_getElem? (i := 40) rfl))) (by decide) (backOfS (W := 1) (rmC4R l Z a0 hw [] b161 sv149 b147 tr162 em h161 n0 Zs161 A161 F_task_b161 F_user_b161 F_time_b161 F_transition_b161 F_location_b161 F_data_b161 g_b161 O161 S_EM) hZ (hw _ (List.mem_of_getElem? (i := 40) rfl)) (hw _ (List.mem_of_getElem? (i := 30) rfl)) (by decide) (by decide)) (g := (mkF m 126 #[.val (.int p1), .val (.int p2), .val (.int p3), .val (.int p4), .val (.int k), .val (.ref b101), .val (.int um), .val (.ref b147), .val (.ref sv149), .unset, .unset, .unset] [(.ref tr162), .null, (.ref b147), (.ref sv149), (.ref b161), (.ref b161)])) rfl (by rw [hml]; rfl) (Steps.refl _) (a := b161) (argsL := [(.ref sv149), (.ref b147), .null, (.ref tr162)]) (rest := [(.ref b161)]) (lenOf pd_4 rfl) rfl (by show 2 * 0 + _ ≤ _; exact Nat.le_of_eq rfl) (hb hby at_126) (fun _ _ => ⟨rfl, e162q, (by decide : 6 + 4 ≤ _), (by decide : 19 + 64 ≤ _)⟩)
        dsimp only [Pt.U, Pt.locs, Pt.cells, Pt.slots] at X163 l163 y163 z163 st163 hQ163 S163w gr163
        rw [l163, y163, z163] at X163
        replace X163 : Stand p l e _ _ m _ below meth c T163 _ 10 83 := X163
        obtain ⟨rfl, N163q, K163q, fu163, ft163⟩ := hQ163
        have N163 := Fr.app N162 N163q
        refine Go.tr st163 ?_
        obtain ⟨X163r, hS163, hZ163, hown163⟩ := rebS hS0 (by rw [e162q]; exact hk161) X163 S163w gr163 hZ hown
        have Zs163 : n0 ≤ T163.heap.size := Nat.le_trans Zs161 K163q.1
        have O163 : Old Z n0 T163.heap := O161.keep K163q (allS g_b161 all0)
        have fV_b101_163 := fV_b101_161.keep K163q (ninS ne_b101_b161 nin0)
        have fE_b147_163 := fE_b147_161.keep K163q
        have fV_t148_163 := fV_t148_161.keep K163q (ninS ne_t148_b161 nin0)
        have fF_b147_value_163 := fF_b147_value_161.keep K163q (ninS ne_b147_b161 nin0)
        have fF_b147_coder_163 := fF_b147_coder_161.keep K163q (ninS ne_b147_b161 nin0)
        have fE_sv149_163 := fE_sv149_161.keep K163q
        have fE_b161_163 := A161.keep K163q
        have fE_tr162_163 := et162.keep K163q
        have fF_tr162_work_163 := fw162.keep K163q (ninS (Ne.symm neb161_tr162) nin0)
        show Go p e below _ (T163.setTop (mkF m 129 #[.val (.int p1), .val (.int p2), .val (.int p3), .val (.int p4), .val (.int k), .val (.ref b101), .val (.int um), .val (.ref b147), .val (.ref sv149), .unset, .unset, .unset] [(.ref b161)]))
        refine Go.via (fun _ => XS.astore X163r.here hx rfl (hb hby at_129) rfl rfl (l' := #[.val (.int p1), .val (.int p2), .val (.int p3), .val (.int p4), .val (.int k), .val (.ref b101), .val (.int um), .val (.ref b147), .val (.ref sv149), .val (.ref b161), .unset, .unset]) rfl) ?_
        show Go p e below _ (T163.setTop (mkF m 131 #[.val (.int p1), .val (.int p2), .val (.int p3), .val (.int p4), .val (.int k), .val (.ref b101), .val (.int um), .val (.ref b147), .val (.ref sv149), .val (.ref b161), .unset, .unset] []))
        refine Go.via (fun _ => XS.iload X163r.here hx rfl (hb hby at_131) rfl) ?_
        show Go p e below _ (T163.setTop (mkF m 133 #[.val (.int p1), .val (.int p2), .val (.int p3), .val (.int p4), .val (.int k), .val (.ref b101), .val (.int um), .val (.ref b147), .val (.ref sv149), .val (.ref b161), .unset, .unset] [(.int k)]))
        refine Go.via (fun _ => XS.iconst X163r.here hx rfl (hb hby at_133)) ?_
        show Go p e below _ (T163.setTop (mkF m 134 #[.val (.int p1), .val (.int p2), .val (.int p3), .val (.int p4), .val (.int k), .val (.ref b101), .val (.int um), .val (.ref b147), .val (.ref sv149), .val (.ref b161), .unset, .unset] [(.int (4 : Int32)), (.int k)]))
        refine Go.via (fun _ => XS.icmpNo X163r.here hx rfl (hb hby at_134) rfl (flt hk.2.2.1).1) ?_
        show Go p e below _ (T163.setTop (mkF m 137 #[.val (.int p1), .val (.int p2), .val (.int p3), .val (.int p4), .val (.int k), .val (.ref b101), .val (.int um), .val (.ref b147), .val (.ref sv149), .val (.ref b161), .unset, .unset] []))
        refine Go.via (fun _ => XS.iload X163r.here hx rfl (hb hby at_137) rfl) ?_
        show Go p e below _ (T163.setTop (mkF m 139 #[.val (.int p1), .val (.int p2), .val (.int p3), .val (.int p4), .val (.int k), .val (.ref b101), .val (.int um), .val (.ref b147), .val (.ref sv149), .val (.ref b161), .unset, .unset] [(.int k)]))
        refine Go.via (fun _ => XS.bipush X163r.here hx rfl (hb hby at_139)) ?_
        show Go p e below _ (T163.setTop (mkF m 141 #[.val (.int p1), .val (.int p2), .val (.int p3), .val (.int p4), .val (.int k), .val (.ref b101), .val (.int um), .val (.ref b147), .val (.ref sv149), .val (.ref b161), .unset, .unset] [(.int (8 : Int32)), (.int k)]))
        refine Go.via (fun _ => XS.icmpYes X163r.here hx rfl (pc0 := 141) (pc' := 151) rfl (hb hby at_141) rfl (flt hk.2.2.2).2.2.2 (by decide) (by decide)) ?_
        show Go p e below _ (T163.setTop (mkF m 151 #[.val (.int p1), .val (.int p2), .val (.int p3), .val (.int p4), .val (.int k), .val (.ref b101), .val (.int um), .val (.ref b147), .val (.ref sv149), .val (.ref b161), .unset, .unset] []))
        refine Go.via (fun _ => XS.iconst X163r.here hx rfl (hb hby at_151)) ?_
        show Go p e below _ (T163.setTop (mkF m 152 #[.val (.int p1), .val (.int p2), .val (.int p3), .val (.int p4), .val (.int k), .val (.ref b101), .val (.int um), .val (.ref b147), .val (.ref sv149), .val (.ref b161), .unset, .unset] [(.int (1 : Int32))]))
        refine Go.via (fun _ => XS.goto X163r.here hx rfl (pc0 := 152) (pc' := 156) rfl (hb hby at_152) (by decide) (by decide)) ?_
        show Go p e below _ (T163.setTop (mkF m 156 #[.val (.int p1), .val (.int p2), .val (.int p3), .val (.int p4), .val (.int k), .val (.ref b101), .val (.int um), .val (.ref b147), .val (.ref sv149), .val (.ref b161), .unset, .unset] [(.int (1 : Int32))]))
        refine Go.via (fun _ => XS.istore X163r.here hx rfl (hb hby at_156) rfl (l' := #[.val (.int p1), .val (.int p2), .val (.int p3), .val (.int p4), .val (.int k), .val (.ref b101), .val (.int um), .val (.ref b147), .val (.ref sv149), .val (.ref b161), .val (.int (1 : Int32)), .unset]) rfl) ?_
        show Go p e below _ (T163.setTop (mkF m 158 #[.val (.int p1), .val (.int p2), .val (.int p3), .val (.int p4), .val (.int k), .val (.ref b101), .val (.int um), .val (.ref b147), .val (.ref sv149), .val (.ref b161), .val (.int (1 : Int32)), .unset] []))
        refine Go.via (fun _ => XS.aload X163r.here hx rfl (hb hby at_158) rfl rfl) ?_
        show Go p e below _ (T163.setTop (mkF m 160 #[.val (.int p1), .val (.int p2), .val (.int p3), .val (.int p4), .val (.int k), .val (.ref b101), .val (.int um), .val (.ref b147), .val (.ref sv149), .val (.ref b161), .val (.int (1 : Int32)), .unset] [(.ref b161)]))
        obtain ⟨cq164, kq164, q164a, q164b, q164c⟩ := isOf hZ163 rfl fE_b161_163
        obtain ⟨_, _, ⟨T164, L164, k164, n164⟩, -, X164, ⟨Lc164, hQ164, l164, y164, z164⟩, st164⟩ := X163r.virtualBack hx (y := (⟨"com/example/permits_from_duties/permitsfromduties/Event", "performer", "()Ljava/lang/String;"⟩ : MethodName)) (z := (⟨"com/example/permits_from_duties/permitsfromduties/Event", "performer", "()Ljava/lang/String;"⟩ : MethodName)) hown163 (mvT hZ163 (hw _ (List.mem_of_getElem? (i := 76) rfl))) (mvT hZ163 (hw _ (List.mem_of_getElem? (i := 77) rfl))) (notFace_of_selects (args := #[]) (mvT hZ163 (hw _ (List.mem_of_getElem? (i := 79) rfl)))) (mvT hZ163 (hw _ (List.mem_of_getElem? (i := 79) rfl))) (mvT hZ163 (hw _ (List.mem_of_getElem? (i := 78) rfl))) (by decide) (backOf (W := 0) (rmPf_1R l Z a0 hw [] b161 tr162 b147 T163.heap n0 Zs163 fE_b161_163 ft163 fE_tr162_163 fF_tr162_work_163 fu163) hZ163 (hw _ (List.mem_of_getElem? (i := 80) rfl)) (hw _ (List.mem_of_getElem? (i := 30) rfl)) (by decide) (by decide)) q164a q164c (g := (mkF m 160 #[.val (.int p1), .val (.int p2), .val (.int p3), .val (.int p4), .val (.int k), .val (.ref b101), .val (.int um), .val (.ref b147), .val (.ref sv149), .val (.ref b161), .val (.int (1 : Int32)), .unset] [(.ref b161)])) rfl (by rw [hml]; rfl) (Steps.refl _) (argsL := []) (rest := []) (lenOf pd_12 rfl) rfl (by show 2 * 0 + _ ≤ _; exact Nat.le_of_eq rfl) (hb hby at_160) (fun _ _ => ⟨rfl, rfl, (by decide : 10 + 0 ≤ _), (by decide : 83 + 0 ≤ _)⟩)
        dsimp only [Pt.U, Pt.locs, Pt.cells, Pt.slots] at X164 l164 y164 z164 st164 hQ164
        rw [l164, y164, z164] at X164
        replace X164 : Stand p l e _ _ m _ below meth c T164 _ 10 83 := X164
        obtain ⟨rfl, N164q, e164q⟩ := hQ164
        have N164 := Fr.app N163 N164q
        refine Go.tr st164 ?_
        show Go p e below _ (T164.setTop (mkF m 163 #[.val (.int p1), .val (.int p2), .val (.int p3), .val (.int p4), .val (.int k), .val (.ref b101), .val (.int um), .val (.ref b147), .val (.ref sv149), .val (.ref b161), .val (.int (1 : Int32)), .unset] [(.ref b147)]))
        refine Go.via (fun _ => XS.astore X164.here hx rfl (hb hby at_163) rfl rfl (l' := #[.val (.int p1), .val (.int p2), .val (.int p3), .val (.int p4), .val (.int k), .val (.ref b101), .val (.int um), .val (.ref b147), .val (.ref sv149), .val (.ref b161), .val (.int (1 : Int32)), .val (.ref b147)]) rfl) ?_
        show Go p e below _ (T164.setTop (mkF m 165 #[.val (.int p1), .val (.int p2), .val (.int p3), .val (.int p4), .val (.int k), .val (.ref b101), .val (.int um), .val (.ref b147), .val (.ref sv149), .val (.ref b161), .val (.int (1 : Int32)), .val (.ref b147)] []))
        refine Go.via (fun _ => XS.iload X164.here hx rfl (hb hby at_165) rfl) ?_
        show Go p e below _ (T164.setTop (mkF m 167 #[.val (.int p1), .val (.int p2), .val (.int p3), .val (.int p4), .val (.int k), .val (.ref b101), .val (.int um), .val (.ref b147), .val (.ref sv149), .val (.ref b161), .val (.int (1 : Int32)), .val (.ref b147)] [(.int (1 : Int32))]))
        refine Go.via (fun _ => XS.ifNo X164.here hx rfl (hb hby at_167) rfl (by decide)) ?_
        show Go p e below _ (T164.setTop (mkF m 170 #[.val (.int p1), .val (.int p2), .val (.int p3), .val (.int p4), .val (.int k), .val (.ref b101), .val (.int um), .val (.ref b147), .val (.ref sv149), .val (.ref b161), .val (.int (1 : Int32)), .val (.ref b147)] []))
        refine Go.via (fun _ => XS.aload X164.here hx rfl (hb hby at_170) rfl rfl) ?_
        show Go p e below _ (T164.setTop (mkF m 172 #[.val (.int p1), .val (.int p2), .val (.int p3), .val (.int p4), .val (.int k), .val (.ref b101), .val (.int um), .val (.ref b147), .val (.ref sv149), .val (.ref b161), .val (.int (1 : Int32)), .val (.ref b147)] [(.ref b147)]))
        refine Go.via (fun _ => XS.aload X164.here hx rfl (hb hby at_172) rfl rfl) ?_
        show Go p e below _ (T164.setTop (mkF m 174 #[.val (.int p1), .val (.int p2), .val (.int p3), .val (.int p4), .val (.int k), .val (.ref b101), .val (.int um), .val (.ref b147), .val (.ref sv149), .val (.ref b161), .val (.int (1 : Int32)), .val (.ref b147)] [(.ref b147), (.ref b147)]))
        refine Go.via (fun _ => Jvm.RoadKit.acmp (g := (mkF m 174 #[.val (.int p1), .val (.int p2), .val (.int p3), .val (.int p4), .val (.int k), .val (.ref b101), .val (.int um), .val (.ref b147), .val (.ref sv149), .val (.ref b161), .val (.int (1 : Int32)), .val (.ref b147)] [(.ref b147), (.ref b147)])) X164 hx rfl rfl rfl (pc0 := 174) (pc' := 177) (same := true) rfl (hb hby at_174) rfl (decide_eq_true rfl) (by decide) (by decide)) ?_
        show Go p e below _ (T164.setTop (mkF m 177 #[.val (.int p1), .val (.int p2), .val (.int p3), .val (.int p4), .val (.int k), .val (.ref b101), .val (.int um), .val (.ref b147), .val (.ref sv149), .val (.ref b161), .val (.int (1 : Int32)), .val (.ref b147)] []))
        refine Go.via (fun _ => XS.iconst X164.here hx rfl (hb hby at_177)) ?_
        show Go p e below _ (T164.setTop (mkF m 178 #[.val (.int p1), .val (.int p2), .val (.int p3), .val (.int p4), .val (.int k), .val (.ref b101), .val (.int um), .val (.ref b147), .val (.ref sv149), .val (.ref b161), .val (.int (1 : Int32)), .val (.ref b147)] [(.int (1 : Int32))]))
        refine Go.via (fun _ => XS.goto X164.here hx rfl (pc0 := 178) (pc' := 182) rfl (hb hby at_178) (by decide) (by decide)) ?_
        show Go p e below _ (T164.setTop (mkF m 182 #[.val (.int p1), .val (.int p2), .val (.int p3), .val (.int p4), .val (.int k), .val (.ref b101), .val (.int um), .val (.ref b147), .val (.ref sv149), .val (.ref b161), .val (.int (1 : Int32)), .val (.ref b147)] [(.int (1 : Int32))]))
        exact own_retNW X164 hS163 (by rw [e164q]; exact (Nat.le_refl _)) hx hlk (t := .boolean) Bd.returns (by simp) (hb hby at_182) (by show Q0 Z p1 p2 p3 p4 ccs w_SCHEDULE w_ASSIGN w_REASSIGN w_WITHDRAW w_START w_SUSPEND w_RESUME w_COMPLETE w_ATE_ABORT w_PI_ABORT w_MANUALSKIP w_AUTOSKIP w_UNKNOWN em h0 n0 _ T164.heap _; rw [e164q]; exact ⟨rfl, N164⟩) (by decide) (by decide)
      ·
        show Go p e below _ (T149.setTop (mkF m 89 #[.val (.int p1), .val (.int p2), .val (.int p3), .val (.int p4), .val (.int k), .val (.ref b101), .val (.int um), .val (.ref b147), .val (.ref sv149), .unset, .unset, .unset] []))
        refine Go.via (fun _ => XS.iload X149.here hx rfl (hb hby at_89) rfl) ?_
        show Go p e below _ (T149.setTop (mkF m 91 #[.val (.int p1), .val (.int p2), .val (.int p3), .val (.int p4), .val (.int k), .val (.ref b101), .val (.int um), .val (.ref b147), .val (.ref sv149), .unset, .unset, .unset] [(.int k)]))
        refine Go.via (fun _ => XS.bipush X149.here hx rfl (hb hby at_91)) ?_
        show Go p e below _ (T149.setTop (mkF m 93 #[.val (.int p1), .val (.int p2), .val (.int p3), .val (.int p4), .val (.int k), .val (.ref b101), .val (.int um), .val (.ref b147), .val (.ref sv149), .unset, .unset, .unset] [(.int (13 : Int32)), (.int k)]))
        refine Go.via (fun _ => XS.icmpYes X149.here hx rfl (pc0 := 93) (pc' := 112) rfl (hb hby at_93) rfl (feq hk.2.1).2 (by decide) (by decide)) ?_
        show Go p e below _ (T149.setTop (mkF m 112 #[.val (.int p1), .val (.int p2), .val (.int p3), .val (.int p4), .val (.int k), .val (.ref b101), .val (.int um), .val (.ref b147), .val (.ref sv149), .unset, .unset, .unset] []))
        obtain ⟨T165, h165, X165, e165, E165, A165, D165, -, st165⟩ := newO X149 hx hZ hown (hw _ (List.mem_of_getElem? (i := 28) rfl)) (hw _ (List.mem_of_getElem? (i := 29) rfl)) (hw _ (List.mem_of_getElem? (i := 30) rfl)) rfl (g := (mkF m 112 #[.val (.int p1), .val (.int p2), .val (.int p3), .val (.int p4), .val (.int k), .val (.ref b101), .val (.int um), .val (.ref b147), .val (.ref sv149), .unset, .unset, .unset] [])) rfl (hb hby at_112) (by decide) (by decide)
        obtain ⟨b165, g165⟩ : ∃ z, z = T149.heap.size := ⟨_, rfl⟩
        rw [← g165] at A165 D165 st165
        have g_b165 : n0 ≤ b165 := Nat.le_trans Zs149 (Nat.le_of_eq g165.symm)
        have ne_b101_b165 : b101 ≠ b165 := Nat.ne_of_lt (Nat.lt_of_lt_of_le fV_b101_149.lt (Nat.le_of_eq g165.symm))
        have ne_b147_b165 : b147 ≠ b165 := Nat.ne_of_lt (Nat.lt_of_lt_of_le fE_b147_149.lt (Nat.le_of_eq g165.symm))
        have ne_t148_b165 : t148 ≠ b165 := Nat.ne_of_lt (Nat.lt_of_lt_of_le fV_t148_149.lt (Nat.le_of_eq g165.symm))
        have ne_sv149_b165 : sv149 ≠ b165 := Nat.ne_of_lt (Nat.lt_of_lt_of_le ev149.lt (Nat.le_of_eq g165.symm))
        refine Go.via st165 ?_
        have Zs165 : n0 ≤ h165.size := Nat.le_trans Zs149 E165.1
        have hk165 : 0 ≤ h165.size := Nat.le_trans hk149 E165.1
        have O165 : Old Z n0 h165 := O149.ext E165
        have fV_b101_165 := fV_b101_149.ext E165
        have fE_b147_165 := fE_b147_149.ext E165
        have fV_t148_165 := fV_t148_149.ext E165
        have fF_b147_value_165 := fF_b147_value_149.ext E165
        have fF_b147_coder_165 := fF_b147_coder_149.ext E165
        have fE_sv149_165 := ev149.ext E165
        have F_task_b165 : Fld Z h165 b165 "com/example/permits_from_duties/permitsfromduties/Event" "task" "Ljava/lang/String;" .null := D165 (Or.inr (hw _ (List.mem_of_getElem? (i := 65) rfl))) (ty := (.object "java/lang/String")) (by decide)
        have F_user_b165 : Fld Z h165 b165 "com/example/permits_from_duties/permitsfromduties/Event" "user" "Ljava/lang/String;" .null := D165 (Or.inr (hw _ (List.mem_of_getElem? (i := 67) rfl))) (ty := (.object "java/lang/String")) (by decide)
        have F_time_b165 : Fld Z h165 b165 "com/example/permits_from_duties/permitsfromduties/Event" "time" "Ljava/time/Instant;" .null := D165 (Or.inr (hw _ (List.mem_of_getElem? (i := 69) rfl))) (ty := (.object "java/time/Instant")) (by decide)
        have F_transition_b165 : Fld Z h165 b165 "com/example/permits_from_duties/permitsfromduties/Event" "transition" "Lcom/example/permits_from_duties/permitsfromduties/Event$Transition;" .null := D165 (Or.inr (hw _ (List.mem_of_getElem? (i := 71) rfl))) (ty := (.object "com/example/permits_from_duties/permitsfromduties/Event$Transition")) (by decide)
        have F_location_b165 : Fld Z h165 b165 "com/example/permits_from_duties/permitsfromduties/Event" "location" "Ljava/lang/String;" .null := D165 (Or.inr (hw _ (List.mem_of_getElem? (i := 73) rfl))) (ty := (.object "java/lang/String")) (by decide)
        have F_data_b165 : Fld Z h165 b165 "com/example/permits_from_duties/permitsfromduties/Event" "data" "Ljava/util/Map;" .null := D165 (Or.inr (hw _ (List.mem_of_getElem? (i := 75) rfl))) (ty := (.object "java/util/Map")) (by decide)
        show Go p e below _ (T165.setTop (mkF m 115 #[.val (.int p1), .val (.int p2), .val (.int p3), .val (.int p4), .val (.int k), .val (.ref b101), .val (.int um), .val (.ref b147), .val (.ref sv149), .unset, .unset, .unset] [(.ref b165)]))
        refine Go.via (fun _ => XS.dup X165.here hx rfl (hb hby at_115) rfl rfl) ?_
        show Go p e below _ (T165.setTop (mkF m 116 #[.val (.int p1), .val (.int p2), .val (.int p3), .val (.int p4), .val (.int k), .val (.ref b101), .val (.int um), .val (.ref b147), .val (.ref sv149), .unset, .unset, .unset] [(.ref b165), (.ref b165)]))
        refine Go.via (fun _ => XS.aload X165.here hx rfl (hb hby at_116) rfl rfl) ?_
        show Go p e below _ (T165.setTop (mkF m 118 #[.val (.int p1), .val (.int p2), .val (.int p3), .val (.int p4), .val (.int k), .val (.ref b101), .val (.int um), .val (.ref b147), .val (.ref sv149), .unset, .unset, .unset] [(.ref sv149), (.ref b165), (.ref b165)]))
        refine Go.via (fun _ => XS.aload X165.here hx rfl (hb hby at_118) rfl rfl) ?_
        show Go p e below _ (T165.setTop (mkF m 120 #[.val (.int p1), .val (.int p2), .val (.int p3), .val (.int p4), .val (.int k), .val (.ref b101), .val (.int um), .val (.ref b147), .val (.ref sv149), .unset, .unset, .unset] [(.ref b147), (.ref sv149), (.ref b165), (.ref b165)]))
        refine Go.via (fun _ => XS.aconstNull X165.here hx rfl (hb hby at_120)) ?_
        show Go p e below _ (T165.setTop (mkF m 121 #[.val (.int p1), .val (.int p2), .val (.int p3), .val (.int p4), .val (.int k), .val (.ref b101), .val (.int um), .val (.ref b147), .val (.ref sv149), .unset, .unset, .unset] [.null, (.ref b147), (.ref sv149), (.ref b165), (.ref b165)]))
        refine Go.via (fun _ => XS.iload X165.here hx rfl (hb hby at_121) rfl) ?_
        show Go p e below _ (T165.setTop (mkF m 123 #[.val (.int p1), .val (.int p2), .val (.int p3), .val (.int p4), .val (.int k), .val (.ref b101), .val (.int um), .val (.ref b147), .val (.ref sv149), .unset, .unset, .unset] [(.int k), .null, (.ref b147), (.ref sv149), (.ref b165), (.ref b165)]))
        obtain ⟨_, _, ⟨T166, L166, k166, n166⟩, -, X166, ⟨Lc166, hQ166, l166, y166, z166⟩, st166⟩ := Jvm.LawKit.callS X165 hx (y := (⟨"com/example/permits_from_duties/permitsfromduties/EventPerformerPinLaw", "pick", "(I)Lcom/example/permits_from_duties/permitsfromduties/Event$Transition;"⟩ : MethodName)) hown (mvT hZ (hw _ (List.mem_of_getElem? (i := 31) rfl))) (mvT hZ (hw _ (List.mem_of_getElem? (i := 32) rfl))) (mvT hZ (hw _ (List.mem_of_getElem? (i := 33) rfl))) (mvT hZ (hw _ (List.mem_of_getElem? (i := 34) rfl))) (by decide) (backOf (W := 5) (rmPk_C l Z a0 hw [] k w_SCHEDULE w_ASSIGN w_REASSIGN w_WITHDRAW w_START w_SUSPEND w_RESUME w_COMPLETE w_ATE_ABORT w_PI_ABORT w_MANUALSKIP w_AUTOSKIP w_UNKNOWN h165 n0 Zs165 hk.1 O165 S_SCHEDULE S_ASSIGN S_REASSIGN S_WITHDRAW S_START S_SUSPEND S_RESUME S_COMPLETE S_ATE_ABORT S_PI_ABORT S_MANUALSKIP S_AUTOSKIP S_UNKNOWN E_SCHEDULE E_ASSIGN E_REASSIGN E_WITHDRAW E_START E_SUSPEND E_RESUME E_COMPLETE E_ATE_ABORT E_PI_ABORT E_MANUALSKIP E_AUTOSKIP E_UNKNOWN F_SCHEDULE F_ASSIGN F_REASSIGN F_WITHDRAW F_START F_SUSPEND F_RESUME F_COMPLETE F_ATE_ABORT F_PI_ABORT F_MANUALSKIP F_AUTOSKIP F_UNKNOWN) hZ (hw _ (List.mem_of_getElem? (i := 34) rfl)) (hw _ (List.mem_of_getElem? (i := 33) rfl)) (by decide) (by decide)) (g := (mkF m 123 #[.val (.int p1), .val (.int p2), .val (.int p3), .val (.int p4), .val (.int k), .val (.ref b101), .val (.int um), .val (.ref b147), .val (.ref sv149), .unset, .unset, .unset] [(.int k), .null, (.ref b147), (.ref sv149), (.ref b165), (.ref b165)])) rfl (by rw [hml]; rfl) (argsL := [(.int k)]) (rest := [.null, (.ref b147), (.ref sv149), (.ref b165), (.ref b165)]) (lenOf pd_13 rfl) rfl (by show 2 * 0 + _ ≤ _; exact Nat.le_of_eq rfl) (hb hby at_123) (fun _ _ => ⟨rfl, e165, (by decide : 6 + 0 ≤ _), (by decide : 19 + 0 ≤ _)⟩)
        dsimp only [Pt.U, Pt.locs, Pt.cells, Pt.slots] at X166 l166 y166 z166 st166 hQ166
        rw [l166, y166, z166] at X166
        replace X166 : Stand p l e _ _ m _ below meth c T166 _ 6 19 := X166
        obtain ⟨tr166, rfl, N166q, e166q, et166, fw166⟩ := hQ166
        have N166 := Fr.app N149 N166q
        refine Go.via st166 ?_
        have neb165_tr166 : b165 ≠ tr166 := ne_exa A165 et166 (by decide)
        show Go p e below _ (T166.setTop (mkF m 126 #[.val (.int p1), .val (.int p2), .val (.int p3), .val (.int p4), .val (.int k), .val (.ref b101), .val (.int um), .val (.ref b147), .val (.ref sv149), .unset, .unset, .unset] [(.ref tr166), .null, (.ref b147), (.ref sv149), (.ref b165), (.ref b165)]))
        obtain ⟨_, _, ⟨T167, L167, k167, n167⟩, -, X167, S167w, gr167, ⟨Lc167, hQ167, l167, y167, z167⟩, st167⟩ := X166.specialBackS hx (y := (⟨"com/example/permits_from_duties/permitsfromduties/Event", "<init>", "(Ljava/lang/String;Ljava/lang/String;Ljava/time/Instant;Lcom/example/permits_from_duties/permitsfromduties/Event$Transition;)V"⟩ : MethodName)) rfl hown (mvT hZ (hw _ (List.mem_of_getElem? (i := 38) rfl))) (mvT hZ (hw _ (List.mem_of_getElem? (i := 39) rfl))) (mvT hZ (hw _ (List.mem_of_getElem? (i := 40) rfl))) (by decide) (backOfS (W := 1) (rmC4R l Z a0 hw [] b165 sv149 b147 tr166 em h165 n0 Zs165 A165 F_task_b165 F_user_b165 F_time_b165 F_transition_b165 F_location_b165 F_data_b165 g_b165 O165 S_EM) hZ (hw _ (List.mem_of_getElem? (i := 40) rfl)) (hw _ (List.mem_of_getElem? (i := 30) rfl)) (by decide) (by decide)) (g := (mkF m 126 #[.val (.int p1), .val (.int p2), .val (.int p3), .val (.int p4), .val (.int k), .val (.ref b101), .val (.int um), .val (.ref b147), .val (.ref sv149), .unset, .unset, .unset] [(.ref tr166), .null, (.ref b147), (.ref sv149), (.ref b165), (.ref b165)])) rfl (by rw [hml]; rfl) (Steps.refl _) (a := b165) (argsL := [(.ref sv149), (.ref b147), .null, (.ref tr166)]) (rest := [(.ref b165)]) (lenOf pd_4 rfl) rfl (by show 2 * 0 + _ ≤ _; exact Nat.le_of_eq rfl) (hb hby at_126) (fun _ _ => ⟨rfl, e166q, (by decide : 6 + 4 ≤ _), (by decide : 19 + 64 ≤ _)⟩)
        dsimp only [Pt.U, Pt.locs, Pt.cells, Pt.slots] at X167 l167 y167 z167 st167 hQ167 S167w gr167
        rw [l167, y167, z167] at X167
        replace X167 : Stand p l e _ _ m _ below meth c T167 _ 10 83 := X167
        obtain ⟨rfl, N167q, K167q, fu167, ft167⟩ := hQ167
        have N167 := Fr.app N166 N167q
        refine Go.tr st167 ?_
        obtain ⟨X167r, hS167, hZ167, hown167⟩ := rebS hS0 (by rw [e166q]; exact hk165) X167 S167w gr167 hZ hown
        have Zs167 : n0 ≤ T167.heap.size := Nat.le_trans Zs165 K167q.1
        have O167 : Old Z n0 T167.heap := O165.keep K167q (allS g_b165 all0)
        have fV_b101_167 := fV_b101_165.keep K167q (ninS ne_b101_b165 nin0)
        have fE_b147_167 := fE_b147_165.keep K167q
        have fV_t148_167 := fV_t148_165.keep K167q (ninS ne_t148_b165 nin0)
        have fF_b147_value_167 := fF_b147_value_165.keep K167q (ninS ne_b147_b165 nin0)
        have fF_b147_coder_167 := fF_b147_coder_165.keep K167q (ninS ne_b147_b165 nin0)
        have fE_sv149_167 := fE_sv149_165.keep K167q
        have fE_b165_167 := A165.keep K167q
        have fE_tr166_167 := et166.keep K167q
        have fF_tr166_work_167 := fw166.keep K167q (ninS (Ne.symm neb165_tr166) nin0)
        show Go p e below _ (T167.setTop (mkF m 129 #[.val (.int p1), .val (.int p2), .val (.int p3), .val (.int p4), .val (.int k), .val (.ref b101), .val (.int um), .val (.ref b147), .val (.ref sv149), .unset, .unset, .unset] [(.ref b165)]))
        refine Go.via (fun _ => XS.astore X167r.here hx rfl (hb hby at_129) rfl rfl (l' := #[.val (.int p1), .val (.int p2), .val (.int p3), .val (.int p4), .val (.int k), .val (.ref b101), .val (.int um), .val (.ref b147), .val (.ref sv149), .val (.ref b165), .unset, .unset]) rfl) ?_
        show Go p e below _ (T167.setTop (mkF m 131 #[.val (.int p1), .val (.int p2), .val (.int p3), .val (.int p4), .val (.int k), .val (.ref b101), .val (.int um), .val (.ref b147), .val (.ref sv149), .val (.ref b165), .unset, .unset] []))
        refine Go.via (fun _ => XS.iload X167r.here hx rfl (hb hby at_131) rfl) ?_
        show Go p e below _ (T167.setTop (mkF m 133 #[.val (.int p1), .val (.int p2), .val (.int p3), .val (.int p4), .val (.int k), .val (.ref b101), .val (.int um), .val (.ref b147), .val (.ref sv149), .val (.ref b165), .unset, .unset] [(.int k)]))
        refine Go.via (fun _ => XS.iconst X167r.here hx rfl (hb hby at_133)) ?_
        show Go p e below _ (T167.setTop (mkF m 134 #[.val (.int p1), .val (.int p2), .val (.int p3), .val (.int p4), .val (.int k), .val (.ref b101), .val (.int um), .val (.ref b147), .val (.ref sv149), .val (.ref b165), .unset, .unset] [(.int (4 : Int32)), (.int k)]))
        refine Go.via (fun _ => XS.icmpNo X167r.here hx rfl (hb hby at_134) rfl (flt hk.2.2.1).1) ?_
        show Go p e below _ (T167.setTop (mkF m 137 #[.val (.int p1), .val (.int p2), .val (.int p3), .val (.int p4), .val (.int k), .val (.ref b101), .val (.int um), .val (.ref b147), .val (.ref sv149), .val (.ref b165), .unset, .unset] []))
        refine Go.via (fun _ => XS.iload X167r.here hx rfl (hb hby at_137) rfl) ?_
        show Go p e below _ (T167.setTop (mkF m 139 #[.val (.int p1), .val (.int p2), .val (.int p3), .val (.int p4), .val (.int k), .val (.ref b101), .val (.int um), .val (.ref b147), .val (.ref sv149), .val (.ref b165), .unset, .unset] [(.int k)]))
        refine Go.via (fun _ => XS.bipush X167r.here hx rfl (hb hby at_139)) ?_
        show Go p e below _ (T167.setTop (mkF m 141 #[.val (.int p1), .val (.int p2), .val (.int p3), .val (.int p4), .val (.int k), .val (.ref b101), .val (.int um), .val (.ref b147), .val (.ref sv149), .val (.ref b165), .unset, .unset] [(.int (8 : Int32)), (.int k)]))
        refine Go.via (fun _ => XS.icmpNo X167r.here hx rfl (hb hby at_141) rfl (tlt hk.2.2.2.1).2.2.2) ?_
        show Go p e below _ (T167.setTop (mkF m 144 #[.val (.int p1), .val (.int p2), .val (.int p3), .val (.int p4), .val (.int k), .val (.ref b101), .val (.int um), .val (.ref b147), .val (.ref sv149), .val (.ref b165), .unset, .unset] []))
        refine Go.via (fun _ => XS.iload X167r.here hx rfl (hb hby at_144) rfl) ?_
        show Go p e below _ (T167.setTop (mkF m 146 #[.val (.int p1), .val (.int p2), .val (.int p3), .val (.int p4), .val (.int k), .val (.ref b101), .val (.int um), .val (.ref b147), .val (.ref sv149), .val (.ref b165), .unset, .unset] [(.int k)]))
        refine Go.via (fun _ => XS.bipush X167r.here hx rfl (hb hby at_146)) ?_
        show Go p e below _ (T167.setTop (mkF m 148 #[.val (.int p1), .val (.int p2), .val (.int p3), .val (.int p4), .val (.int k), .val (.ref b101), .val (.int um), .val (.ref b147), .val (.ref sv149), .val (.ref b165), .unset, .unset] [(.int (12 : Int32)), (.int k)]))
        refine Go.via (fun _ => XS.icmpYes X167r.here hx rfl (pc0 := 148) (pc' := 155) rfl (hb hby at_148) rfl (tlt hk.2.2.2.2).1 (by decide) (by decide)) ?_
        show Go p e below _ (T167.setTop (mkF m 155 #[.val (.int p1), .val (.int p2), .val (.int p3), .val (.int p4), .val (.int k), .val (.ref b101), .val (.int um), .val (.ref b147), .val (.ref sv149), .val (.ref b165), .unset, .unset] []))
        refine Go.via (fun _ => XS.iconst X167r.here hx rfl (hb hby at_155)) ?_
        show Go p e below _ (T167.setTop (mkF m 156 #[.val (.int p1), .val (.int p2), .val (.int p3), .val (.int p4), .val (.int k), .val (.ref b101), .val (.int um), .val (.ref b147), .val (.ref sv149), .val (.ref b165), .unset, .unset] [(.int (0 : Int32))]))
        refine Go.via (fun _ => XS.istore X167r.here hx rfl (hb hby at_156) rfl (l' := #[.val (.int p1), .val (.int p2), .val (.int p3), .val (.int p4), .val (.int k), .val (.ref b101), .val (.int um), .val (.ref b147), .val (.ref sv149), .val (.ref b165), .val (.int (0 : Int32)), .unset]) rfl) ?_
        show Go p e below _ (T167.setTop (mkF m 158 #[.val (.int p1), .val (.int p2), .val (.int p3), .val (.int p4), .val (.int k), .val (.ref b101), .val (.int um), .val (.ref b147), .val (.ref sv149), .val (.ref b165), .val (.int (0 : Int32)), .unset] []))
        refine Go.via (fun _ => XS.aload X167r.here hx rfl (hb hby at_158) rfl rfl) ?_
        show Go p e below _ (T167.setTop (mkF m 160 #[.val (.int p1), .val (.int p2), .val (.int p3), .val (.int p4), .val (.int k), .val (.ref b101), .val (.int um), .val (.ref b147), .val (.ref sv149), .val (.ref b165), .val (.int (0 : Int32)), .unset] [(.ref b165)]))
        obtain ⟨cq168, kq168, q168a, q168b, q168c⟩ := isOf hZ167 rfl fE_b165_167
        obtain ⟨_, _, ⟨T168, L168, k168, n168⟩, -, X168, ⟨Lc168, hQ168, l168, y168, z168⟩, st168⟩ := X167r.virtualBack hx (y := (⟨"com/example/permits_from_duties/permitsfromduties/Event", "performer", "()Ljava/lang/String;"⟩ : MethodName)) (z := (⟨"com/example/permits_from_duties/permitsfromduties/Event", "performer", "()Ljava/lang/String;"⟩ : MethodName)) hown167 (mvT hZ167 (hw _ (List.mem_of_getElem? (i := 76) rfl))) (mvT hZ167 (hw _ (List.mem_of_getElem? (i := 77) rfl))) (notFace_of_selects (args := #[]) (mvT hZ167 (hw _ (List.mem_of_getElem? (i := 79) rfl)))) (mvT hZ167 (hw _ (List.mem_of_getElem? (i := 79) rfl))) (mvT hZ167 (hw _ (List.mem_of_getElem? (i := 78) rfl))) (by decide) (backOf (W := 0) (rmPf_0R l Z a0 hw [] b165 tr166 b147 T167.heap n0 Zs167 fE_b165_167 ft167 fE_tr166_167 fF_tr166_work_167 fu167) hZ167 (hw _ (List.mem_of_getElem? (i := 80) rfl)) (hw _ (List.mem_of_getElem? (i := 30) rfl)) (by decide) (by decide)) q168a q168c (g := (mkF m 160 #[.val (.int p1), .val (.int p2), .val (.int p3), .val (.int p4), .val (.int k), .val (.ref b101), .val (.int um), .val (.ref b147), .val (.ref sv149), .val (.ref b165), .val (.int (0 : Int32)), .unset] [(.ref b165)])) rfl (by rw [hml]; rfl) (Steps.refl _) (argsL := []) (rest := []) (lenOf pd_12 rfl) rfl (by show 2 * 0 + _ ≤ _; exact Nat.le_of_eq rfl) (hb hby at_160) (fun _ _ => ⟨rfl, rfl, (by decide : 10 + 0 ≤ _), (by decide : 83 + 0 ≤ _)⟩)
        dsimp only [Pt.U, Pt.locs, Pt.cells, Pt.slots] at X168 l168 y168 z168 st168 hQ168
        rw [l168, y168, z168] at X168
        replace X168 : Stand p l e _ _ m _ below meth c T168 _ 10 83 := X168
        obtain ⟨rfl, N168q, e168q⟩ := hQ168
        have N168 := Fr.app N167 N168q
        refine Go.tr st168 ?_
        show Go p e below _ (T168.setTop (mkF m 163 #[.val (.int p1), .val (.int p2), .val (.int p3), .val (.int p4), .val (.int k), .val (.ref b101), .val (.int um), .val (.ref b147), .val (.ref sv149), .val (.ref b165), .val (.int (0 : Int32)), .unset] [.null]))
        refine Go.via (fun _ => XS.astore X168.here hx rfl (hb hby at_163) rfl rfl (l' := #[.val (.int p1), .val (.int p2), .val (.int p3), .val (.int p4), .val (.int k), .val (.ref b101), .val (.int um), .val (.ref b147), .val (.ref sv149), .val (.ref b165), .val (.int (0 : Int32)), .val .null]) rfl) ?_
        show Go p e below _ (T168.setTop (mkF m 165 #[.val (.int p1), .val (.int p2), .val (.int p3), .val (.int p4), .val (.int k), .val (.ref b101), .val (.int um), .val (.ref b147), .val (.ref sv149), .val (.ref b165), .val (.int (0 : Int32)), .val .null] []))
        refine Go.via (fun _ => XS.iload X168.here hx rfl (hb hby at_165) rfl) ?_
        show Go p e below _ (T168.setTop (mkF m 167 #[.val (.int p1), .val (.int p2), .val (.int p3), .val (.int p4), .val (.int k), .val (.ref b101), .val (.int um), .val (.ref b147), .val (.ref sv149), .val (.ref b165), .val (.int (0 : Int32)), .val .null] [(.int (0 : Int32))]))
        refine Go.via (fun _ => XS.ifYes X168.here hx rfl (pc0 := 167) (pc' := 183) rfl (hb hby at_167) rfl (by decide) (by decide) (by decide)) ?_
        show Go p e below _ (T168.setTop (mkF m 183 #[.val (.int p1), .val (.int p2), .val (.int p3), .val (.int p4), .val (.int k), .val (.ref b101), .val (.int um), .val (.ref b147), .val (.ref sv149), .val (.ref b165), .val (.int (0 : Int32)), .val .null] []))
        refine Go.via (fun _ => XS.aload X168.here hx rfl (hb hby at_183) rfl rfl) ?_
        show Go p e below _ (T168.setTop (mkF m 185 #[.val (.int p1), .val (.int p2), .val (.int p3), .val (.int p4), .val (.int k), .val (.ref b101), .val (.int um), .val (.ref b147), .val (.ref sv149), .val (.ref b165), .val (.int (0 : Int32)), .val .null] [.null]))
        refine Go.via (fun _ => XS.ifnonnullNo X168.here hx rfl (hb hby at_185) rfl) ?_
        show Go p e below _ (T168.setTop (mkF m 188 #[.val (.int p1), .val (.int p2), .val (.int p3), .val (.int p4), .val (.int k), .val (.ref b101), .val (.int um), .val (.ref b147), .val (.ref sv149), .val (.ref b165), .val (.int (0 : Int32)), .val .null] []))
        refine Go.via (fun _ => XS.iconst X168.here hx rfl (hb hby at_188)) ?_
        show Go p e below _ (T168.setTop (mkF m 189 #[.val (.int p1), .val (.int p2), .val (.int p3), .val (.int p4), .val (.int k), .val (.ref b101), .val (.int um), .val (.ref b147), .val (.ref sv149), .val (.ref b165), .val (.int (0 : Int32)), .val .null] [(.int (1 : Int32))]))
        refine Go.via (fun _ => XS.goto X168.here hx rfl (pc0 := 189) (pc' := 193) rfl (hb hby at_189) (by decide) (by decide)) ?_
        show Go p e below _ (T168.setTop (mkF m 193 #[.val (.int p1), .val (.int p2), .val (.int p3), .val (.int p4), .val (.int k), .val (.ref b101), .val (.int um), .val (.ref b147), .val (.ref sv149), .val (.ref b165), .val (.int (0 : Int32)), .val .null] [(.int (1 : Int32))]))
        exact own_retNW X168 hS167 (by rw [e168q]; exact (Nat.le_refl _)) hx hlk (t := .boolean) Bd.returns (by simp) (hb hby at_193) (by show Q0 Z p1 p2 p3 p4 ccs w_SCHEDULE w_ASSIGN w_REASSIGN w_WITHDRAW w_START w_SUSPEND w_RESUME w_COMPLETE w_ATE_ABORT w_PI_ABORT w_MANUALSKIP w_AUTOSKIP w_UNKNOWN em h0 n0 _ T168.heap _; rw [e168q]; exact ⟨rfl, N168⟩) (by decide) (by decide)
theorem own_eq_int {t : Term} {n : Int32} {args : Array Value} {s : State} (h : (Cond.eq t (.int n)).value args s none s [] = some true) : t.eval args s none [] s = some (.int n) := by
  simp only [Cond.value, Term.eval] at h
  split at h <;> simp_all
set_option maxRecDepth 65536 in
set_option maxHeartbeats 40000000 in
theorem comes_1 {Post : Tables → Env → Array Value → State → Outcome → State → Prop} (hpost : ∀ tb e args s v u, (limb_1_1.after args s (.returned v) u = true ∧ limb_1_2.after args s (.returned v) u = true ∧ True) → ReturnedEndW s (.returned v) u (Jvm.fieldLocs frame_1_writes args s ++ Jvm.arrayLocs frame_1_arrays args s ++ Jvm.staticLocs frame_1_statics s) 32 3200 → Post tb e args s (.returned v) u) :
    ArmFor flags0 classFile x code maxLocals ret World_1 tables_1 room_1 Calls_1 rest_1 Pre_1 Post := by
  intro l hfl _ _ p e ha hc hk s m args below hf hA hF happ hP
  obtain ⟨hcalls, hrest, hpre⟩ := hP
  obtain ⟨-, -, -, hnamed, -, -, -, hat⟩ := (Spec.applies_iff hf).mp happ
  obtain ⟨hg, hn⟩ := and_e (Cond.before_iff.mp (show (Jvm.Cond.and given_1 narrow_1).before args s = true from hpre))
  obtain ⟨g1, g2⟩ := and_e hg
  obtain ⟨g3, g4⟩ := and_e g2
  obtain ⟨g5, g6⟩ := and_e g4
  obtain ⟨g7, g8⟩ := and_e g6
  obtain ⟨g9, g10⟩ := and_e hn
  obtain ⟨g11, g12⟩ := and_e g10
  obtain ⟨g13, g14⟩ := and_e g12
  obtain ⟨g15, g16⟩ := and_e g14
  obtain ⟨g17, g18⟩ := and_e g16
  obtain ⟨g19, g20⟩ := and_e g18
  obtain ⟨g21, g22⟩ := and_e g20
  obtain ⟨g23, g24⟩ := and_e g22
  obtain ⟨g25, g26⟩ := and_e g24
  obtain ⟨g27, g28⟩ := and_e g26
  obtain ⟨g29, g30⟩ := and_e g28
  obtain ⟨g31, g32⟩ := and_e g30
  obtain ⟨g33, g34⟩ := and_e g32
  obtain ⟨g35, g36⟩ := and_e g34
  obtain ⟨g37, g38⟩ := and_e g36
  obtain ⟨g39, g40⟩ := and_e g38
  obtain ⟨g41, g42⟩ := and_e g40
  obtain ⟨g43, g44⟩ := and_e g42
  obtain ⟨g45, g46⟩ := and_e g44
  obtain ⟨g47, g48⟩ := and_e g46
  obtain ⟨g49, g50⟩ := and_e g48
  obtain ⟨g51, g52⟩ := and_e g50
  obtain ⟨g53, g54⟩ := and_e g52
  obtain ⟨g55, g56⟩ := and_e g54
  obtain ⟨g57, g58⟩ := and_e g56
  obtain ⟨w0, w1, w2, w3, rfl⟩ : ∃ w0 w1 w2 w3 : Value, args = #[w0, w1, w2, w3] := by
    have hs : args.size = 4 := by simpa [Cond.value, given_1] using g1
    obtain ⟨L⟩ := args
    match L, hs with
    | [w0, w1, w2, w3], _ => exact ⟨w0, w1, w2, w3, rfl⟩
  have hw := fun d (hd : d ∈ tables_1) => atoms_spec (ws := Jvm.Cond.code x code maxLocals ret :: tables_1) hat d (List.mem_cons_of_mem _ hd)
  obtain ⟨hsets, hown0⟩ := atoms_of _ (rest_1_c_eq ▸ (show rest_1_c.before _ s = true from hrest))
  have hr0 := Cond.before_iff.mp hown0
  have hfit : Fit s := fun {y c} hc i hi => by
    obtain ⟨ha, rfl⟩ := Array.getElem?_eq_some_iff.mp hc
    have q := List.all_eq_true.mp ((Array.all_eq_true_iff_forall_mem.mp hF) _ (Array.getElem_mem ha)) i (List.mem_range.mpr hi)
    simpa [Array.getElem?_eq_getElem hi] using q
  obtain ⟨i0, ei0⟩ := is_v g3
  obtain rfl : w0 = (.int i0) := Option.some.inj ei0
  obtain ⟨i1, ei1⟩ := is_v g5
  obtain rfl : w1 = (.int i1) := Option.some.inj ei1
  obtain ⟨i2, ei2⟩ := is_v g7
  obtain rfl : w2 = (.int i2) := Option.some.inj ei2
  obtain ⟨i3, ei3⟩ := is_v g8
  obtain rfl : w3 = (.int i3) := Option.some.inj ei3
  obtain ⟨w_SCHEDULE, ev_SCHEDULE⟩ := exa_v g9
  have E_SCHEDULE := Exa.start ev_SCHEDULE g9
  have S_SCHEDULE := Sta.start ev_SCHEDULE (Or.inr ⟨(hw _ (List.mem_of_getElem? (i := 36) rfl)), (hw _ (List.mem_of_getElem? (i := 37) rfl))⟩)
  obtain ⟨w_UNKNOWN, ev_UNKNOWN⟩ := exa_v g13
  have E_UNKNOWN := Exa.start ev_UNKNOWN g13
  have S_UNKNOWN := Sta.start ev_UNKNOWN (Or.inr ⟨(hw _ (List.mem_of_getElem? (i := 36) rfl)), (hw _ (List.mem_of_getElem? (i := 94) rfl))⟩)
  obtain ⟨w_PI_ABORT, ev_PI_ABORT⟩ := exa_v g17
  have E_PI_ABORT := Exa.start ev_PI_ABORT g17
  have S_PI_ABORT := Sta.start ev_PI_ABORT (Or.inr ⟨(hw _ (List.mem_of_getElem? (i := 36) rfl)), (hw _ (List.mem_of_getElem? (i := 97) rfl))⟩)
  obtain ⟨w_REASSIGN, ev_REASSIGN⟩ := exa_v g21
  have E_REASSIGN := Exa.start ev_REASSIGN g21
  have S_REASSIGN := Sta.start ev_REASSIGN (Or.inr ⟨(hw _ (List.mem_of_getElem? (i := 36) rfl)), (hw _ (List.mem_of_getElem? (i := 99) rfl))⟩)
  obtain ⟨w_ASSIGN, ev_ASSIGN⟩ := exa_v g25
  have E_ASSIGN := Exa.start ev_ASSIGN g25
  have S_ASSIGN := Sta.start ev_ASSIGN (Or.inr ⟨(hw _ (List.mem_of_getElem? (i := 36) rfl)), (hw _ (List.mem_of_getElem? (i := 118) rfl))⟩)
  obtain ⟨w_WITHDRAW, ev_WITHDRAW⟩ := exa_v g29
  have E_WITHDRAW := Exa.start ev_WITHDRAW g29
  have S_WITHDRAW := Sta.start ev_WITHDRAW (Or.inr ⟨(hw _ (List.mem_of_getElem? (i := 36) rfl)), (hw _ (List.mem_of_getElem? (i := 120) rfl))⟩)
  obtain ⟨w_COMPLETE, ev_COMPLETE⟩ := exa_v g33
  have E_COMPLETE := Exa.start ev_COMPLETE g33
  have S_COMPLETE := Sta.start ev_COMPLETE (Or.inr ⟨(hw _ (List.mem_of_getElem? (i := 36) rfl)), (hw _ (List.mem_of_getElem? (i := 122) rfl))⟩)
  obtain ⟨w_ATE_ABORT, ev_ATE_ABORT⟩ := exa_v g37
  have E_ATE_ABORT := Exa.start ev_ATE_ABORT g37
  have S_ATE_ABORT := Sta.start ev_ATE_ABORT (Or.inr ⟨(hw _ (List.mem_of_getElem? (i := 36) rfl)), (hw _ (List.mem_of_getElem? (i := 124) rfl))⟩)
  obtain ⟨w_AUTOSKIP, ev_AUTOSKIP⟩ := exa_v g41
  have E_AUTOSKIP := Exa.start ev_AUTOSKIP g41
  have S_AUTOSKIP := Sta.start ev_AUTOSKIP (Or.inr ⟨(hw _ (List.mem_of_getElem? (i := 36) rfl)), (hw _ (List.mem_of_getElem? (i := 126) rfl))⟩)
  obtain ⟨w_MANUALSKIP, ev_MANUALSKIP⟩ := exa_v g45
  have E_MANUALSKIP := Exa.start ev_MANUALSKIP g45
  have S_MANUALSKIP := Sta.start ev_MANUALSKIP (Or.inr ⟨(hw _ (List.mem_of_getElem? (i := 36) rfl)), (hw _ (List.mem_of_getElem? (i := 128) rfl))⟩)
  obtain ⟨w_START, ev_START⟩ := exa_v g49
  have E_START := Exa.start ev_START g49
  have S_START := Sta.start ev_START (Or.inr ⟨(hw _ (List.mem_of_getElem? (i := 36) rfl)), (hw _ (List.mem_of_getElem? (i := 138) rfl))⟩)
  obtain ⟨w_SUSPEND, ev_SUSPEND⟩ := exa_v g53
  have E_SUSPEND := Exa.start ev_SUSPEND g53
  have S_SUSPEND := Sta.start ev_SUSPEND (Or.inr ⟨(hw _ (List.mem_of_getElem? (i := 36) rfl)), (hw _ (List.mem_of_getElem? (i := 140) rfl))⟩)
  obtain ⟨w_RESUME, ev_RESUME⟩ := exa_v g57
  have E_RESUME := Exa.start ev_RESUME g57
  have S_RESUME := Sta.start ev_RESUME (Or.inr ⟨(hw _ (List.mem_of_getElem? (i := 36) rfl)), (hw _ (List.mem_of_getElem? (i := 142) rfl))⟩)
  have F_SCHEDULE : Fld s s.heap w_SCHEDULE "com/example/permits_from_duties/permitsfromduties/Event$Transition" "work" "Z" (.int (0 : Int32)) := Fld.start ((fld_at ev_SCHEDULE).symm.trans (own_eq_int g11))
  have F_UNKNOWN : Fld s s.heap w_UNKNOWN "com/example/permits_from_duties/permitsfromduties/Event$Transition" "work" "Z" (.int (1 : Int32)) := Fld.start ((fld_at ev_UNKNOWN).symm.trans (own_eq_int g15))
  have F_PI_ABORT : Fld s s.heap w_PI_ABORT "com/example/permits_from_duties/permitsfromduties/Event$Transition" "work" "Z" (.int (0 : Int32)) := Fld.start ((fld_at ev_PI_ABORT).symm.trans (own_eq_int g19))
  have F_REASSIGN : Fld s s.heap w_REASSIGN "com/example/permits_from_duties/permitsfromduties/Event$Transition" "work" "Z" (.int (0 : Int32)) := Fld.start ((fld_at ev_REASSIGN).symm.trans (own_eq_int g23))
  have F_ASSIGN : Fld s s.heap w_ASSIGN "com/example/permits_from_duties/permitsfromduties/Event$Transition" "work" "Z" (.int (0 : Int32)) := Fld.start ((fld_at ev_ASSIGN).symm.trans (own_eq_int g27))
  have F_WITHDRAW : Fld s s.heap w_WITHDRAW "com/example/permits_from_duties/permitsfromduties/Event$Transition" "work" "Z" (.int (0 : Int32)) := Fld.start ((fld_at ev_WITHDRAW).symm.trans (own_eq_int g31))
  have F_COMPLETE : Fld s s.heap w_COMPLETE "com/example/permits_from_duties/permitsfromduties/Event$Transition" "work" "Z" (.int (1 : Int32)) := Fld.start ((fld_at ev_COMPLETE).symm.trans (own_eq_int g35))
  have F_ATE_ABORT : Fld s s.heap w_ATE_ABORT "com/example/permits_from_duties/permitsfromduties/Event$Transition" "work" "Z" (.int (1 : Int32)) := Fld.start ((fld_at ev_ATE_ABORT).symm.trans (own_eq_int g39))
  have F_AUTOSKIP : Fld s s.heap w_AUTOSKIP "com/example/permits_from_duties/permitsfromduties/Event$Transition" "work" "Z" (.int (0 : Int32)) := Fld.start ((fld_at ev_AUTOSKIP).symm.trans (own_eq_int g43))
  have F_MANUALSKIP : Fld s s.heap w_MANUALSKIP "com/example/permits_from_duties/permitsfromduties/Event$Transition" "work" "Z" (.int (0 : Int32)) := Fld.start ((fld_at ev_MANUALSKIP).symm.trans (own_eq_int g47))
  have F_START : Fld s s.heap w_START "com/example/permits_from_duties/permitsfromduties/Event$Transition" "work" "Z" (.int (1 : Int32)) := Fld.start ((fld_at ev_START).symm.trans (own_eq_int g51))
  have F_SUSPEND : Fld s s.heap w_SUSPEND "com/example/permits_from_duties/permitsfromduties/Event$Transition" "work" "Z" (.int (1 : Int32)) := Fld.start ((fld_at ev_SUSPEND).symm.trans (own_eq_int g55))
  have F_RESUME : Fld s s.heap w_RESUME "com/example/permits_from_duties/permitsfromduties/Event$Transition" "work" "Z" (.int (1 : Int32)) := Fld.start ((fld_at ev_RESUME).symm.trans (own_eq_int g58))
  obtain ⟨ccs, ecs⟩ := is_v (Cond.before_iff.mp (hsets _ (List.mem_of_getElem? (i := 1) rfl)))
  have S_CS : Sta s s.heap "java/lang/String" "COMPACT_STRINGS" "Z" (.int ccs) := Sta.start ecs (Or.inl (hsets _ (List.mem_of_getElem? (i := 0) rfl)))
  have ncs := not_v (Cond.before_iff.mp (hsets _ (List.mem_of_getElem? (i := 2) rfl)))
  have hcs : ¬ (ccs = (0 : Int32)) := gotF (Cond.eq_ints ecs (Term.int_eval (0))) ncs
  obtain ⟨em, eem⟩ := exa_v (Cond.before_iff.mp (hsets _ (List.mem_of_getElem? (i := 11) rfl)))
  have S_EM := Sta.start eem (Or.inl (hsets _ (List.mem_of_getElem? (i := 10) rfl)))
  obtain ⟨n, o, h1, h2, h3, _, L, rfl, ⟨rfl, N⟩, hq⟩ := rm0 l s _ hw tables_1 i0 i1 i2 i3 ccs w_SCHEDULE w_ASSIGN w_REASSIGN w_WITHDRAW w_START w_SUSPEND w_RESUME w_COMPLETE w_ATE_ABORT w_PI_ABORT w_MANUALSKIP w_AUTOSKIP w_UNKNOWN em s.heap s.heap.size (Nat.le_refl _) (Old.start s) S_CS hcs S_SCHEDULE S_ASSIGN S_REASSIGN S_WITHDRAW S_START S_SUSPEND S_RESUME S_COMPLETE S_ATE_ABORT S_PI_ABORT S_MANUALSKIP S_AUTOSKIP S_UNKNOWN E_SCHEDULE E_ASSIGN E_REASSIGN E_WITHDRAW E_START E_SUSPEND E_RESUME E_COMPLETE E_ATE_ABORT E_PI_ABORT E_MANUALSKIP E_AUTOSKIP E_UNKNOWN F_SCHEDULE F_ASSIGN F_REASSIGN F_WITHDRAW F_START F_SUSPEND F_RESUME F_COMPLETE F_ATE_ABORT F_PI_ABORT F_MANUALSKIP F_AUTOSKIP F_UNKNOWN S_EM p e ha hc hk s m _ below hf ((Spec.applies_iff_loose hf).mp happ).1 ⟨rfl, State.Warmed39.refl s, rfl⟩ trivial
  refine ⟨n, _, h1, h2, h3, hpost _ _ _ _ _ _ ⟨Cond.after_iff.mpr rfl, Cond.after_iff.mpr (eq_i res_at (Term.int_eval (1)) rfl), trivial⟩ ⟨hq.1, hq.2.1, hq.2.2.1, (hq.2.2.2.sift fun y hy => Or.inr (N y hy)).mono (by decide) (by decide)⟩⟩
theorem main_1_1 : Claimed_1_1 := comes_1 fun _ _ _ _ _ _ h hF => ⟨h.1, hF⟩
theorem main_1_2 : Claimed_1_2 := comes_1 fun _ _ _ _ _ _ h hF => ⟨h.2.1, hF⟩
end Jvm.Pilot.@@N@@
namespace Jvm.Pilot.@@N@@
open Jvm Jvm.ClassFile Sem Op Lib Jvm.Free Jvm.Stand Jvm.Pilot.@@N@@.Jvm.D
/-! MADE BY PROGRAM (witnessworld.py) out of the Statement's table words and the real class files: 30 classes; the members and pool entries that the words name. The judged class is class 1, her method 1. -/
namespace start1
open Jvm.ClassFile
def u (s : String) : CpInfo := .utf8 (stringToUtf16 s)
/-- a pool by its gaps: so many unusable entries, then the entry; so many at the end -/
def gap : Nat → List CpInfo → List CpInfo
  | 0, r => r
  | n + 1, r => .unusable :: gap n r
def poolList (es : List (Nat × CpInfo)) (last : Nat) : List CpInfo := es.foldr (fun e r => gap e.1 (e.2 :: r)) (gap last [])
def pool (es : List (Nat × CpInfo)) (last : Nat) : Array CpInfo := ⟨poolList es last⟩
def fileOf (pool : Array CpInfo) (this : Nat) (attrs : Array Attribute := #[]) (ms : Array MethodInfo := #[]) (fl : Nat := 33) (sup : Nat := 0) (ifs : Array Nat := #[]) (fds : Array FieldInfo := #[]) : ClassFile where
  minorVersion := 0
  majorVersion := 65
  constantPool := pool
  accessFlags := fl
  thisClass := this
  superClass := sup
  interfaces := ifs
  fields := fds
  methods := ms
  attributes := attrs
def plain (name : String) (sup : Option ClassId) : Class where
  name := name
  kind := .ordinary
  loader := none
  accessFlags := 33
  super := sup
  interfaces := #[]
  cf := none
  fields := #[]
  methods := #[]
  instanceTypes := #[]
  staticTypes := #[]
  resolved := #[]
  callSites := []
  init := .initialized
  statics := none
  mirror := none

def pool0 : Array CpInfo := pool [(5, u "<init>"), (0, u "()V"), (1, .class_ 10), (1, u "java/lang/Object")] 113

def k0c0 : Code := { maxStack := 0, maxLocals := 1, code := object_method_1_code, exceptionTable := #[], attributes := #[] }
def k0m0 : Method := { name := "<init>", desc := "()V", sig := { parameters := [], returnType := none }, accessFlags := 1, code := some k0c0 }
/-- java/lang/Object -/
def k0 : Class := { plain "java/lang/Object" none with
  accessFlags := 33
  interfaces := #[]
  cf := some (fileOf pool0 8 #[] #[{ accessFlags := 1, nameIndex := 5, descriptorIndex := 6, attributes := #[] }] 33 0 #[] #[])
  fields := #[]
  methods := #[k0m0]
  instanceTypes := #[]
  staticTypes := #[]
  resolved := Array.replicate 124 none
  statics := none }

def pool1 : Array CpInfo := pool [(2, .class_ 4), (1, u "java/lang/Object"), (0, u "<init>"), (0, u "()V"), (0, .integer 2147483647), (0, .string 9), (0, u ""), (0, .class_ 11), (0, u "java/lang/String"), (0, .methodref 10 13), (0, .nameAndType 5 14), (0, u "([C)V"), (0, .methodref 10 16), (0, .nameAndType 17 18), (0, u "valueOf"), (0, u "(C)Ljava/lang/String;"), (0, .class_ 20), (0, u "com/example/permits_from_duties/permitsfromduties/Event"), (0, .methodref 19 22), (0, .nameAndType 5 23), (0, u "(Ljava/lang/String;Ljava/lang/String;)V"), (0, .methodref 25 26), (0, .class_ 27), (0, .nameAndType 28 29), (0, u "com/example/permits_from_duties/permitsfromduties/EventPerformerPinLaw"), (0, u "pick"), (0, u "(I)Lcom/example/permits_from_duties/permitsfromduties/Event$Transition;"), (0, .methodref 19 31), (0, .nameAndType 5 32), (0, u "(Ljava/lang/String;Ljava/lang/String;Ljava/time/Instant;Lcom/example/permits_from_duties/permitsfromduties/Event$Transition;)V"), (0, .methodref 19 34), (0, .nameAndType 35 36), (0, u "performer"), (0, u "()Ljava/lang/String;"), (0, .fieldref 38 39), (0, .class_ 40), (0, .nameAndType 41 42), (0, u "com/example/permits_from_duties/permitsfromduties/Event$Transition"), (0, u "SCHEDULE"), (0, u "Lcom/example/permits_from_duties/permitsfromduties/Event$Transition;"), (0, .fieldref 38 44), (0, .nameAndType 45 42), (0, u "ASSIGN"), (0, .fieldref 38 47), (0, .nameAndType 48 42), (0, u "REASSIGN"), (0, .fieldref 38 50), (0, .nameAndType 51 42), (0, u "WITHDRAW"), (0, .fieldref 38 53), (0, .nameAndType 54 42), (0, u "START"), (0, .fieldref 38 56), (0, .nameAndType 57 42), (0, u "SUSPEND"), (0, .fieldref 38 59), (0, .nameAndType 60 42), (0, u "RESUME"), (0, .fieldref 38 62), (0, .nameAndType 63 42), (0, u "COMPLETE"), (0, .fieldref 38 65), (0, .nameAndType 66 42), (0, u "ATE_ABORT"), (0, .fieldref 38 68), (0, .nameAndType 69 42), (0, u "PI_ABORT"), (0, .fieldref 38 71), (0, .nameAndType 72 42), (0, u "MANUALSKIP"), (0, .fieldref 38 74), (0, .nameAndType 75 42), (0, u "AUTOSKIP"), (0, .fieldref 38 77), (0, .nameAndType 78 42), (0, u "UNKNOWN"), (2, u "law"), (0, u "(IIII)Z")] 7

def k1m0 : Method := { name := "<init>", desc := "()V", sig := { parameters := [], returnType := none }, accessFlags := 1, code := none }
def k1c1 : Code := { maxStack := 6, maxLocals := 12, code := code, exceptionTable := #[], attributes := #[] }
def k1m1 : Method := { name := "law", desc := "(IIII)Z", sig := { parameters := [.int, .int, .int, .int], returnType := some .boolean }, accessFlags := 9, code := some k1c1 }
def k1c2 : Code := { maxStack := 2, maxLocals := 1, code := method_3_code, exceptionTable := #[], attributes := #[] }
def k1m2 : Method := { name := "pick", desc := "(I)Lcom/example/permits_from_duties/permitsfromduties/Event$Transition;", sig := { parameters := [.int], returnType := some (.object "com/example/permits_from_duties/permitsfromduties/Event$Transition") }, accessFlags := 10, code := some k1c2 }
/-- com/example/permits_from_duties/permitsfromduties/EventPerformerPinLaw -/
def k1 : Class := { plain "com/example/permits_from_duties/permitsfromduties/EventPerformerPinLaw" (some 0) with
  accessFlags := 49
  interfaces := #[]
  cf := some (fileOf pool1 25 #[] #[{ accessFlags := 1, nameIndex := 5, descriptorIndex := 6, attributes := #[] }, { accessFlags := 9, nameIndex := 81, descriptorIndex := 82, attributes := #[] }, { accessFlags := 10, nameIndex := 28, descriptorIndex := 29, attributes := #[] }] 49 2 #[] #[])
  fields := #[]
  methods := #[k1m0, k1m1, k1m2]
  instanceTypes := #[]
  staticTypes := #[]
  resolved := Array.replicate 90 none
  statics := none }

def pool2 : Array CpInfo := pool [(1, .class_ 2), (0, u "java/io/Serializable"), (0, .class_ 4), (0, u "java/lang/Object")] 2

/-- java/io/Serializable -/
def k2 : Class := { plain "java/io/Serializable" (some 0) with
  accessFlags := 1537
  interfaces := #[]
  cf := some (fileOf pool2 1 #[] #[] 1537 3 #[] #[])
  fields := #[]
  methods := #[]
  instanceTypes := #[]
  staticTypes := #[]
  resolved := Array.replicate 7 none
  statics := none }

def pool3 : Array CpInfo := pool [(1, .class_ 2), (0, u "java/lang/Comparable"), (0, .class_ 4), (0, u "java/lang/Object")] 7

/-- java/lang/Comparable -/
def k3 : Class := { plain "java/lang/Comparable" (some 0) with
  accessFlags := 1537
  interfaces := #[]
  cf := some (fileOf pool3 1 #[] #[] 1537 3 #[] #[])
  fields := #[]
  methods := #[]
  instanceTypes := #[]
  staticTypes := #[]
  resolved := Array.replicate 12 none
  statics := none }

def pool4 : Array CpInfo := pool [(2, .class_ 4), (1, u "java/lang/CharSequence"), (42, .class_ 48), (0, u "java/lang/CharSequence$1CodePointIterator"), (10, .class_ 60), (0, u "java/lang/CharSequence$1CharIterator"), (5, .class_ 67), (0, u "java/lang/Object")] 63

/-- java/lang/CharSequence -/
def k4 : Class := { plain "java/lang/CharSequence" (some 0) with
  accessFlags := 1537
  interfaces := #[]
  cf := some (fileOf pool4 2 #[.nestMembers #[47, 59]] #[] 1537 66 #[] #[])
  fields := #[]
  methods := #[]
  instanceTypes := #[]
  staticTypes := #[]
  resolved := Array.replicate 131 none
  statics := none }

def pool5 : Array CpInfo := pool [(1, .class_ 2), (0, u "java/lang/constant/Constable"), (0, .class_ 4), (0, u "java/lang/Object")] 6

/-- java/lang/constant/Constable -/
def k5 : Class := { plain "java/lang/constant/Constable" (some 0) with
  accessFlags := 1537
  interfaces := #[]
  cf := some (fileOf pool5 1 #[] #[] 1537 3 #[] #[])
  fields := #[]
  methods := #[]
  instanceTypes := #[]
  staticTypes := #[]
  resolved := Array.replicate 11 none
  statics := none }

def pool6 : Array CpInfo := pool [(1, .class_ 2), (0, u "java/lang/constant/ConstantDesc"), (0, .class_ 4), (0, u "java/lang/Object")] 32

/-- java/lang/constant/ConstantDesc -/
def k6 : Class := { plain "java/lang/constant/ConstantDesc" (some 0) with
  accessFlags := 1537
  interfaces := #[]
  cf := some (fileOf pool6 1 #[] #[] 1537 3 #[] #[])
  fields := #[]
  methods := #[]
  instanceTypes := #[]
  staticTypes := #[]
  resolved := Array.replicate 37 none
  statics := none }

def pool7 : Array CpInfo := pool [(1, .methodref 2 3), (0, .class_ 4), (0, .nameAndType 5 6), (0, u "java/lang/Object"), (0, u "<init>"), (0, u "()V"), (2, .fieldref 10 11), (0, .class_ 12), (0, .nameAndType 13 14), (0, u "java/lang/String"), (0, u "value"), (0, u "[B"), (0, .fieldref 10 16), (0, .nameAndType 17 18), (0, u "coder"), (0, u "B"), (2, u "hash"), (0, u "I"), (2, u "hashIsZero"), (0, u "Z"), (0, .methodref 10 28), (0, .nameAndType 5 29), (0, u "([CIILjava/lang/Void;)V"), (8, .fieldref 10 39), (0, .nameAndType 40 26), (0, u "COMPACT_STRINGS"), (1, .class_ 44), (1, u "java/lang/StringUTF16"), (0, u "compress"), (1, .methodref 42 48), (0, .nameAndType 49 50), (0, u "coderFromArrayLen"), (0, u "([BI)B"), (2, u "toBytes"), (53, .class_ 109), (1, u "java/lang/StringLatin1"), (67, .methodref 42 178), (0, .nameAndType 45 179), (0, u "([CII)[B"), (29, .methodref 10 210), (0, .nameAndType 5 211), (0, u "([BB)V"), (157, u "(C)Z"), (205, .class_ 576), (0, u "java/lang/CharSequence"), (22, u "CASE_INSENSITIVE_ORDER"), (0, u "Ljava/util/Comparator;"), (181, u "valueOf"), (0, u "(C)Ljava/lang/String;"), (226, u "([C)V"), (4, .methodref 107 1016), (0, .nameAndType 1017 369), (0, u "canEncode"), (0, .methodref 107 1019), (0, .nameAndType 53 1020), (0, u "(C)[B"), (80, u "serialPersistentFields"), (0, u "[Ljava/io/ObjectStreamField;"), (0, .class_ 1104), (0, u "java/lang/String$CaseInsensitiveComparator"), (1, .class_ 1107), (0, u "java/io/Serializable"), (0, .class_ 1109), (0, u "java/lang/Comparable"), (0, .class_ 1111), (0, u "java/lang/constant/Constable"), (0, .class_ 1113), (0, u "java/lang/constant/ConstantDesc"), (2, u "serialVersionUID"), (0, u "J"), (3, u "REPL"), (0, u "C"), (2, u "LATIN1"), (1, u "UTF16")] 323

def k7m0 : Method := { name := "<init>", desc := "()V", sig := { parameters := [], returnType := none }, accessFlags := 1, code := none }
def k7c1 : Code := { maxStack := 5, maxLocals := 2, code := jdk_42_method_3_code, exceptionTable := #[], attributes := #[] }
def k7m1 : Method := { name := "<init>", desc := "([C)V", sig := { parameters := [(.array .char)], returnType := none }, accessFlags := 1, code := some k7c1 }
def k7c2 : Code := { maxStack := 4, maxLocals := 1, code := jdk_42_method_139_code, exceptionTable := #[], attributes := #[] }
def k7m2 : Method := { name := "valueOf", desc := "(C)Ljava/lang/String;", sig := { parameters := [.char], returnType := some (.object "java/lang/String") }, accessFlags := 9, code := some k7c2 }
def k7c3 : Code := { maxStack := 4, maxLocals := 6, code := jdk_42_method_149_code, exceptionTable := #[], attributes := #[] }
def k7m3 : Method := { name := "<init>", desc := "([CIILjava/lang/Void;)V", sig := { parameters := [(.array .char), .int, .int, (.object "java/lang/Void")], returnType := none }, accessFlags := 2, code := some k7c3 }
def k7c4 : Code := { maxStack := 2, maxLocals := 3, code := jdk_42_method_151_code, exceptionTable := #[], attributes := #[] }
def k7m4 : Method := { name := "<init>", desc := "([BB)V", sig := { parameters := [(.array .byte), .byte], returnType := none }, accessFlags := 0, code := some k7c4 }
/-- java/lang/String -/
def k7 : Class := { plain "java/lang/String" (some 0) with
  accessFlags := 49
  interfaces := #[2, 3, 4, 5, 6]
  cf := some (fileOf pool7 10 #[.nestMembers #[1103]] #[{ accessFlags := 1, nameIndex := 5, descriptorIndex := 6, attributes := #[] }, { accessFlags := 1, nameIndex := 5, descriptorIndex := 1010, attributes := #[] }, { accessFlags := 9, nameIndex := 782, descriptorIndex := 783, attributes := #[] }, { accessFlags := 2, nameIndex := 5, descriptorIndex := 29, attributes := #[] }, { accessFlags := 0, nameIndex := 5, descriptorIndex := 211, attributes := #[] }] 49 2 #[1106, 1108, 575, 1110, 1112] #[{ accessFlags := 18, nameIndex := 13, descriptorIndex := 14, attributes := #[] }, { accessFlags := 18, nameIndex := 17, descriptorIndex := 18, attributes := #[] }, { accessFlags := 2, nameIndex := 21, descriptorIndex := 22, attributes := #[] }, { accessFlags := 2, nameIndex := 25, descriptorIndex := 26, attributes := #[] }, { accessFlags := 26, nameIndex := 1116, descriptorIndex := 1117, attributes := #[] }, { accessFlags := 24, nameIndex := 40, descriptorIndex := 26, attributes := #[] }, { accessFlags := 26, nameIndex := 1101, descriptorIndex := 1102, attributes := #[] }, { accessFlags := 26, nameIndex := 1121, descriptorIndex := 1122, attributes := #[] }, { accessFlags := 25, nameIndex := 599, descriptorIndex := 600, attributes := #[] }, { accessFlags := 24, nameIndex := 1125, descriptorIndex := 18, attributes := #[] }, { accessFlags := 24, nameIndex := 1127, descriptorIndex := 18, attributes := #[] }])
  fields := #[{ name := "value", type := (.array .byte), accessFlags := 18, slot := 0, constantValue := 0 }, { name := "coder", type := .byte, accessFlags := 18, slot := 1, constantValue := 0 }, { name := "hash", type := .int, accessFlags := 2, slot := 2, constantValue := 0 }, { name := "hashIsZero", type := .boolean, accessFlags := 2, slot := 3, constantValue := 0 }, { name := "serialVersionUID", type := .long, accessFlags := 26, slot := 0, constantValue := 0 }, { name := "COMPACT_STRINGS", type := .boolean, accessFlags := 24, slot := 1, constantValue := 0 }, { name := "serialPersistentFields", type := (.array (.object "java/io/ObjectStreamField")), accessFlags := 26, slot := 2, constantValue := 0 }, { name := "REPL", type := .char, accessFlags := 26, slot := 3, constantValue := 0 }, { name := "CASE_INSENSITIVE_ORDER", type := (.object "java/util/Comparator"), accessFlags := 25, slot := 4, constantValue := 0 }, { name := "LATIN1", type := .byte, accessFlags := 24, slot := 5, constantValue := 0 }, { name := "UTF16", type := .byte, accessFlags := 24, slot := 6, constantValue := 0 }]
  methods := #[k7m0, k7m1, k7m2, k7m3, k7m4]
  instanceTypes := #[(.array .byte), .byte, .int, .boolean]
  staticTypes := #[.long, .boolean, (.array (.object "java/io/ObjectStreamField")), .char, (.object "java/util/Comparator"), .byte, .byte]
  resolved := Array.replicate 1451 none
  statics := some 0 }

def pool8 : Array CpInfo := pool [(4, .class_ 6), (1, u "java/lang/Object"), (0, u "<init>"), (0, u "()V"), (5, .class_ 16), (1, u "java/lang/StringLatin1"), (73, u "canEncode"), (14, u "(C)Z"), (15, u "$assertionsDisabled"), (0, u "Z"), (98, .class_ 223), (1, u "java/lang/StringLatin1$LinesSpliterator"), (156, u "toBytes"), (1, u "(C)[B"), (7, .class_ 391), (0, u "java/lang/StringLatin1$CharsSpliterator")] 3

def k8m0 : Method := { name := "<init>", desc := "()V", sig := { parameters := [], returnType := none }, accessFlags := 0, code := none }
def k8c1 : Code := { maxStack := 2, maxLocals := 1, code := jdk_43_method_3_code, exceptionTable := #[], attributes := #[] }
def k8m1 : Method := { name := "canEncode", desc := "(C)Z", sig := { parameters := [.char], returnType := some .boolean }, accessFlags := 9, code := some k8c1 }
def k8c2 : Code := { maxStack := 4, maxLocals := 1, code := jdk_43_method_46_code, exceptionTable := #[], attributes := #[] }
def k8m2 : Method := { name := "toBytes", desc := "(C)[B", sig := { parameters := [.char], returnType := some (.array .byte) }, accessFlags := 9, code := some k8c2 }
/-- java/lang/StringLatin1 -/
def k8 : Class := { plain "java/lang/StringLatin1" (some 0) with
  accessFlags := 48
  interfaces := #[]
  cf := some (fileOf pool8 14 #[.nestMembers #[390, 221]] #[{ accessFlags := 0, nameIndex := 7, descriptorIndex := 8, attributes := #[] }, { accessFlags := 9, nameIndex := 90, descriptorIndex := 105, attributes := #[] }, { accessFlags := 9, nameIndex := 380, descriptorIndex := 382, attributes := #[] }] 48 4 #[] #[{ accessFlags := 4120, nameIndex := 121, descriptorIndex := 122, attributes := #[] }])
  fields := #[{ name := "$assertionsDisabled", type := .boolean, accessFlags := 4120, slot := 0, constantValue := 0 }]
  methods := #[k8m0, k8m1, k8m2]
  instanceTypes := #[]
  staticTypes := #[.boolean]
  resolved := Array.replicate 395 none
  statics := none }

def pool9 : Array CpInfo := pool [(1, .methodref 2 3), (0, .class_ 4), (0, .nameAndType 5 6), (0, u "java/lang/Object"), (0, u "<init>"), (0, u "()V"), (0, .class_ 8), (0, u "java/lang/Record")] 13

def k9c0 : Code := { maxStack := 1, maxLocals := 1, code := jdk_30_method_1_code, exceptionTable := #[], attributes := #[] }
def k9m0 : Method := { name := "<init>", desc := "()V", sig := { parameters := [], returnType := none }, accessFlags := 4, code := some k9c0 }
/-- java/lang/Record -/
def k9 : Class := { plain "java/lang/Record" (some 0) with
  accessFlags := 1057
  interfaces := #[]
  cf := some (fileOf pool9 7 #[] #[{ accessFlags := 4, nameIndex := 5, descriptorIndex := 6, attributes := #[] }] 1057 2 #[] #[])
  fields := #[]
  methods := #[k9m0]
  instanceTypes := #[]
  staticTypes := #[]
  resolved := Array.replicate 22 none
  statics := none }

def pool10 : Array CpInfo := pool [(1, .methodref 2 3), (0, .class_ 4), (0, .nameAndType 5 6), (0, u "java/lang/Record"), (0, u "<init>"), (0, u "()V"), (0, .string 8), (0, u "task"), (0, .methodref 10 11), (0, .class_ 12), (0, .nameAndType 13 14), (0, u "java/util/Objects"), (0, u "requireNonNull"), (0, u "(Ljava/lang/Object;Ljava/lang/String;)Ljava/lang/Object;"), (0, .string 16), (0, u "transition"), (0, .interfaceMethodref 18 19), (0, .class_ 20), (0, .nameAndType 21 22), (0, u "java/util/Map"), (0, u "of"), (0, u "()Ljava/util/Map;"), (4, .fieldref 28 29), (0, .class_ 30), (0, .nameAndType 8 31), (0, u "com/example/permits_from_duties/permitsfromduties/Event"), (0, u "Ljava/lang/String;"), (0, .fieldref 28 33), (0, .nameAndType 34 31), (0, u "user"), (0, .fieldref 28 36), (0, .nameAndType 37 38), (0, u "time"), (0, u "Ljava/time/Instant;"), (0, .fieldref 28 40), (0, .nameAndType 16 41), (0, u "Lcom/example/permits_from_duties/permitsfromduties/Event$Transition;"), (0, .fieldref 28 43), (0, .nameAndType 44 31), (0, u "location"), (0, .fieldref 28 46), (0, .nameAndType 47 48), (0, u "data"), (0, u "Ljava/util/Map;"), (0, .methodref 28 50), (0, .nameAndType 5 51), (0, u "(Ljava/lang/String;Ljava/lang/String;Ljava/time/Instant;Lcom/example/permits_from_duties/permitsfromduties/Event$Transition;Ljava/lang/String;Ljava/util/Map;)V"), (0, .fieldref 53 54), (0, .class_ 55), (0, .nameAndType 56 41), (0, u "com/example/permits_from_duties/permitsfromduties/Event$Transition"), (0, u "UNKNOWN"), (0, .methodref 28 58), (0, .nameAndType 5 59), (0, u "(Ljava/lang/String;Ljava/lang/String;Ljava/time/Instant;Lcom/example/permits_from_duties/permitsfromduties/Event$Transition;)V"), (0, .methodref 28 61), (0, .nameAndType 5 62), (0, u "(Ljava/lang/String;Ljava/lang/String;Ljava/time/Instant;)V"), (0, .methodref 53 64), (0, .nameAndType 65 66), (0, u "recordsWork"), (0, u "()Z"), (0, .methodref 28 64), (23, u "(Ljava/lang/String;Ljava/lang/String;)V"), (0, u "performer"), (0, u "()Ljava/lang/String;")] 32

def k10c0 : Code := { maxStack := 2, maxLocals := 7, code := prog_27_method_1_code, exceptionTable := #[], attributes := #[] }
def k10m0 : Method := { name := "<init>", desc := "(Ljava/lang/String;Ljava/lang/String;Ljava/time/Instant;Lcom/example/permits_from_duties/permitsfromduties/Event$Transition;Ljava/lang/String;Ljava/util/Map;)V", sig := { parameters := [(.object "java/lang/String"), (.object "java/lang/String"), (.object "java/time/Instant"), (.object "com/example/permits_from_duties/permitsfromduties/Event$Transition"), (.object "java/lang/String"), (.object "java/util/Map")], returnType := none }, accessFlags := 1, code := some k10c0 }
def k10c1 : Code := { maxStack := 7, maxLocals := 5, code := prog_27_method_2_code, exceptionTable := #[], attributes := #[] }
def k10m1 : Method := { name := "<init>", desc := "(Ljava/lang/String;Ljava/lang/String;Ljava/time/Instant;Lcom/example/permits_from_duties/permitsfromduties/Event$Transition;)V", sig := { parameters := [(.object "java/lang/String"), (.object "java/lang/String"), (.object "java/time/Instant"), (.object "com/example/permits_from_duties/permitsfromduties/Event$Transition")], returnType := none }, accessFlags := 1, code := some k10c1 }
def k10c2 : Code := { maxStack := 5, maxLocals := 4, code := prog_27_method_3_code, exceptionTable := #[], attributes := #[] }
def k10m2 : Method := { name := "<init>", desc := "(Ljava/lang/String;Ljava/lang/String;Ljava/time/Instant;)V", sig := { parameters := [(.object "java/lang/String"), (.object "java/lang/String"), (.object "java/time/Instant")], returnType := none }, accessFlags := 1, code := some k10c2 }
def k10c3 : Code := { maxStack := 4, maxLocals := 3, code := prog_27_method_4_code, exceptionTable := #[], attributes := #[] }
def k10m3 : Method := { name := "<init>", desc := "(Ljava/lang/String;Ljava/lang/String;)V", sig := { parameters := [(.object "java/lang/String"), (.object "java/lang/String")], returnType := none }, accessFlags := 1, code := some k10c3 }
def k10c4 : Code := { maxStack := 1, maxLocals := 1, code := prog_27_method_5_code, exceptionTable := #[], attributes := #[] }
def k10m4 : Method := { name := "recordsWork", desc := "()Z", sig := { parameters := [], returnType := some .boolean }, accessFlags := 1, code := some k10c4 }
def k10c5 : Code := { maxStack := 1, maxLocals := 1, code := prog_27_method_6_code, exceptionTable := #[], attributes := #[] }
def k10m5 : Method := { name := "performer", desc := "()Ljava/lang/String;", sig := { parameters := [], returnType := some (.object "java/lang/String") }, accessFlags := 1, code := some k10c5 }
/-- com/example/permits_from_duties/permitsfromduties/Event -/
def k10 : Class := { plain "com/example/permits_from_duties/permitsfromduties/Event" (some 9) with
  accessFlags := 49
  interfaces := #[]
  cf := some (fileOf pool10 28 #[.nestMembers #[53]] #[{ accessFlags := 1, nameIndex := 5, descriptorIndex := 51, attributes := #[] }, { accessFlags := 1, nameIndex := 5, descriptorIndex := 59, attributes := #[] }, { accessFlags := 1, nameIndex := 5, descriptorIndex := 62, attributes := #[] }, { accessFlags := 1, nameIndex := 5, descriptorIndex := 91, attributes := #[] }, { accessFlags := 1, nameIndex := 65, descriptorIndex := 66, attributes := #[] }, { accessFlags := 1, nameIndex := 92, descriptorIndex := 93, attributes := #[] }] 49 2 #[] #[{ accessFlags := 18, nameIndex := 8, descriptorIndex := 31, attributes := #[] }, { accessFlags := 18, nameIndex := 34, descriptorIndex := 31, attributes := #[] }, { accessFlags := 18, nameIndex := 37, descriptorIndex := 38, attributes := #[] }, { accessFlags := 18, nameIndex := 16, descriptorIndex := 41, attributes := #[] }, { accessFlags := 18, nameIndex := 44, descriptorIndex := 31, attributes := #[] }, { accessFlags := 18, nameIndex := 47, descriptorIndex := 48, attributes := #[] }])
  fields := #[{ name := "task", type := (.object "java/lang/String"), accessFlags := 18, slot := 0, constantValue := 0 }, { name := "user", type := (.object "java/lang/String"), accessFlags := 18, slot := 1, constantValue := 0 }, { name := "time", type := (.object "java/time/Instant"), accessFlags := 18, slot := 2, constantValue := 0 }, { name := "transition", type := (.object "com/example/permits_from_duties/permitsfromduties/Event$Transition"), accessFlags := 18, slot := 3, constantValue := 0 }, { name := "location", type := (.object "java/lang/String"), accessFlags := 18, slot := 4, constantValue := 0 }, { name := "data", type := (.object "java/util/Map"), accessFlags := 18, slot := 5, constantValue := 0 }]
  methods := #[k10m0, k10m1, k10m2, k10m3, k10m4, k10m5]
  instanceTypes := #[(.object "java/lang/String"), (.object "java/lang/String"), (.object "java/time/Instant"), (.object "com/example/permits_from_duties/permitsfromduties/Event$Transition"), (.object "java/lang/String"), (.object "java/util/Map")]
  staticTypes := #[]
  resolved := Array.replicate 126 none
  statics := none }

def pool11 : Array CpInfo := pool [(2, .class_ 4), (1, u "java/lang/Enum"), (0, u "name"), (0, u "Ljava/lang/String;"), (2, u "ordinal"), (0, u "I"), (1, .class_ 14), (1, u "java/lang/Object"), (4, u "hash"), (86, .class_ 108), (1, u "java/lang/Enum$EnumDesc"), (2, .class_ 112), (0, u "java/lang/constant/Constable"), (0, .class_ 114), (0, u "java/lang/Comparable"), (0, .class_ 116), (0, u "java/io/Serializable")] 87

/-- java/lang/Enum -/
def k11 : Class := { plain "java/lang/Enum" (some 0) with
  accessFlags := 1057
  interfaces := #[5, 3, 2]
  cf := some (fileOf pool11 2 #[.nestMembers #[106]] #[] 1057 12 #[111, 113, 115] #[{ accessFlags := 18, nameIndex := 5, descriptorIndex := 6, attributes := #[] }, { accessFlags := 18, nameIndex := 9, descriptorIndex := 10, attributes := #[] }, { accessFlags := 2, nameIndex := 19, descriptorIndex := 10, attributes := #[] }])
  fields := #[{ name := "name", type := (.object "java/lang/String"), accessFlags := 18, slot := 0, constantValue := 0 }, { name := "ordinal", type := .int, accessFlags := 18, slot := 1, constantValue := 0 }, { name := "hash", type := .int, accessFlags := 2, slot := 2, constantValue := 0 }]
  methods := #[]
  instanceTypes := #[(.object "java/lang/String"), .int, .int]
  staticTypes := #[]
  resolved := Array.replicate 204 none
  statics := none }

def pool12 : Array CpInfo := pool [(1, .class_ 2), (0, u "com/example/permits_from_duties/permitsfromduties/Event$Transition"), (2, u "SCHEDULE"), (0, u "Lcom/example/permits_from_duties/permitsfromduties/Event$Transition;"), (2, u "ASSIGN"), (2, u "REASSIGN"), (2, u "WITHDRAW"), (2, u "START"), (2, u "SUSPEND"), (2, u "RESUME"), (2, u "COMPLETE"), (2, u "ATE_ABORT"), (2, u "PI_ABORT"), (2, u "MANUALSKIP"), (2, u "AUTOSKIP"), (2, u "UNKNOWN"), (2, u "$VALUES"), (0, u "[Lcom/example/permits_from_duties/permitsfromduties/Event$Transition;"), (6, .class_ 55), (1, u "java/lang/Enum"), (8, u "written"), (0, u "Ljava/lang/String;"), (0, .fieldref 1 67), (0, .nameAndType 68 69), (0, u "work"), (0, u "Z"), (18, u "BY_NAME"), (0, u "Ljava/util/Map;"), (101, u "recordsWork"), (0, u "()Z"), (12, .class_ 206), (0, u "com/example/permits_from_duties/permitsfromduties/Event")] 25

def k12c0 : Code := { maxStack := 1, maxLocals := 1, code := prog_28_method_5_code, exceptionTable := #[], attributes := #[] }
def k12m0 : Method := { name := "recordsWork", desc := "()Z", sig := { parameters := [], returnType := some .boolean }, accessFlags := 1, code := some k12c0 }
/-- com/example/permits_from_duties/permitsfromduties/Event$Transition -/
def k12 : Class := { plain "com/example/permits_from_duties/permitsfromduties/Event$Transition" (some 11) with
  accessFlags := 16433
  interfaces := #[]
  cf := some (fileOf pool12 1 #[.nestHost 205] #[{ accessFlags := 1, nameIndex := 191, descriptorIndex := 192, attributes := #[] }] 16433 53 #[] #[{ accessFlags := 16409, nameIndex := 5, descriptorIndex := 6, attributes := #[] }, { accessFlags := 16409, nameIndex := 9, descriptorIndex := 6, attributes := #[] }, { accessFlags := 16409, nameIndex := 12, descriptorIndex := 6, attributes := #[] }, { accessFlags := 16409, nameIndex := 15, descriptorIndex := 6, attributes := #[] }, { accessFlags := 16409, nameIndex := 18, descriptorIndex := 6, attributes := #[] }, { accessFlags := 16409, nameIndex := 21, descriptorIndex := 6, attributes := #[] }, { accessFlags := 16409, nameIndex := 24, descriptorIndex := 6, attributes := #[] }, { accessFlags := 16409, nameIndex := 27, descriptorIndex := 6, attributes := #[] }, { accessFlags := 16409, nameIndex := 30, descriptorIndex := 6, attributes := #[] }, { accessFlags := 16409, nameIndex := 33, descriptorIndex := 6, attributes := #[] }, { accessFlags := 16409, nameIndex := 36, descriptorIndex := 6, attributes := #[] }, { accessFlags := 16409, nameIndex := 39, descriptorIndex := 6, attributes := #[] }, { accessFlags := 16409, nameIndex := 42, descriptorIndex := 6, attributes := #[] }, { accessFlags := 26, nameIndex := 88, descriptorIndex := 89, attributes := #[] }, { accessFlags := 18, nameIndex := 64, descriptorIndex := 65, attributes := #[] }, { accessFlags := 18, nameIndex := 68, descriptorIndex := 69, attributes := #[] }, { accessFlags := 4122, nameIndex := 45, descriptorIndex := 46, attributes := #[] }])
  fields := #[{ name := "SCHEDULE", type := (.object "com/example/permits_from_duties/permitsfromduties/Event$Transition"), accessFlags := 16409, slot := 0, constantValue := 0 }, { name := "ASSIGN", type := (.object "com/example/permits_from_duties/permitsfromduties/Event$Transition"), accessFlags := 16409, slot := 1, constantValue := 0 }, { name := "REASSIGN", type := (.object "com/example/permits_from_duties/permitsfromduties/Event$Transition"), accessFlags := 16409, slot := 2, constantValue := 0 }, { name := "WITHDRAW", type := (.object "com/example/permits_from_duties/permitsfromduties/Event$Transition"), accessFlags := 16409, slot := 3, constantValue := 0 }, { name := "START", type := (.object "com/example/permits_from_duties/permitsfromduties/Event$Transition"), accessFlags := 16409, slot := 4, constantValue := 0 }, { name := "SUSPEND", type := (.object "com/example/permits_from_duties/permitsfromduties/Event$Transition"), accessFlags := 16409, slot := 5, constantValue := 0 }, { name := "RESUME", type := (.object "com/example/permits_from_duties/permitsfromduties/Event$Transition"), accessFlags := 16409, slot := 6, constantValue := 0 }, { name := "COMPLETE", type := (.object "com/example/permits_from_duties/permitsfromduties/Event$Transition"), accessFlags := 16409, slot := 7, constantValue := 0 }, { name := "ATE_ABORT", type := (.object "com/example/permits_from_duties/permitsfromduties/Event$Transition"), accessFlags := 16409, slot := 8, constantValue := 0 }, { name := "PI_ABORT", type := (.object "com/example/permits_from_duties/permitsfromduties/Event$Transition"), accessFlags := 16409, slot := 9, constantValue := 0 }, { name := "MANUALSKIP", type := (.object "com/example/permits_from_duties/permitsfromduties/Event$Transition"), accessFlags := 16409, slot := 10, constantValue := 0 }, { name := "AUTOSKIP", type := (.object "com/example/permits_from_duties/permitsfromduties/Event$Transition"), accessFlags := 16409, slot := 11, constantValue := 0 }, { name := "UNKNOWN", type := (.object "com/example/permits_from_duties/permitsfromduties/Event$Transition"), accessFlags := 16409, slot := 12, constantValue := 0 }, { name := "BY_NAME", type := (.object "java/util/Map"), accessFlags := 26, slot := 13, constantValue := 0 }, { name := "written", type := (.object "java/lang/String"), accessFlags := 18, slot := 3, constantValue := 0 }, { name := "work", type := .boolean, accessFlags := 18, slot := 4, constantValue := 0 }, { name := "$VALUES", type := (.array (.object "com/example/permits_from_duties/permitsfromduties/Event$Transition")), accessFlags := 4122, slot := 14, constantValue := 0 }]
  methods := #[k12m0]
  instanceTypes := #[(.object "java/lang/String"), .int, .int, (.object "java/lang/String"), .boolean]
  staticTypes := #[(.object "com/example/permits_from_duties/permitsfromduties/Event$Transition"), (.object "com/example/permits_from_duties/permitsfromduties/Event$Transition"), (.object "com/example/permits_from_duties/permitsfromduties/Event$Transition"), (.object "com/example/permits_from_duties/permitsfromduties/Event$Transition"), (.object "com/example/permits_from_duties/permitsfromduties/Event$Transition"), (.object "com/example/permits_from_duties/permitsfromduties/Event$Transition"), (.object "com/example/permits_from_duties/permitsfromduties/Event$Transition"), (.object "com/example/permits_from_duties/permitsfromduties/Event$Transition"), (.object "com/example/permits_from_duties/permitsfromduties/Event$Transition"), (.object "com/example/permits_from_duties/permitsfromduties/Event$Transition"), (.object "com/example/permits_from_duties/permitsfromduties/Event$Transition"), (.object "com/example/permits_from_duties/permitsfromduties/Event$Transition"), (.object "com/example/permits_from_duties/permitsfromduties/Event$Transition"), (.object "java/util/Map"), (.array (.object "com/example/permits_from_duties/permitsfromduties/Event$Transition"))]
  resolved := Array.replicate 232 none
  statics := some 1 }

def pool13 : Array CpInfo := pool [(2, .class_ 4), (1, u "java/lang/Object"), (0, u "<init>"), (0, u "()V"), (35, .class_ 44), (1, u "java/util/Objects"), (0, u "requireNonNull"), (48, u "(Ljava/lang/Object;Ljava/lang/String;)Ljava/lang/Object;")] 89

def k13m0 : Method := { name := "<init>", desc := "()V", sig := { parameters := [], returnType := none }, accessFlags := 2, code := none }
def k13c1 : Code := { maxStack := 3, maxLocals := 2, code := jdk_31_method_11_code, exceptionTable := #[], attributes := #[] }
def k13m1 : Method := { name := "requireNonNull", desc := "(Ljava/lang/Object;Ljava/lang/String;)Ljava/lang/Object;", sig := { parameters := [(.object "java/lang/Object"), (.object "java/lang/String")], returnType := some (.object "java/lang/Object") }, accessFlags := 9, code := some k13c1 }
/-- java/util/Objects -/
def k13 : Class := { plain "java/util/Objects" (some 0) with
  accessFlags := 49
  interfaces := #[]
  cf := some (fileOf pool13 42 #[] #[{ accessFlags := 2, nameIndex := 5, descriptorIndex := 6, attributes := #[] }, { accessFlags := 9, nameIndex := 45, descriptorIndex := 94, attributes := #[] }] 49 2 #[] #[])
  fields := #[]
  methods := #[k13m0, k13m1]
  instanceTypes := #[]
  staticTypes := #[]
  resolved := Array.replicate 184 none
  statics := none }

def pool14 : Array CpInfo := pool [(2, .class_ 4), (1, u "java/util/Map"), (31, .class_ 37), (0, u "java/util/Map$Entry"), (43, .fieldref 82 83), (0, .class_ 84), (0, .nameAndType 85 86), (0, u "java/util/ImmutableCollections"), (0, u "EMPTY_MAP"), (0, u "Ljava/util/ImmutableCollections$MapN;"), (6, .class_ 94), (0, u "java/lang/Object"), (13, u "of"), (0, u "()Ljava/util/Map;")] 153

def k14c0 : Code := { maxStack := 1, maxLocals := 0, code := jdk_72_method_26_code, exceptionTable := #[], attributes := #[] }
def k14m0 : Method := { name := "of", desc := "()Ljava/util/Map;", sig := { parameters := [], returnType := some (.object "java/util/Map") }, accessFlags := 9, code := some k14c0 }
/-- java/util/Map -/
def k14 : Class := { plain "java/util/Map" (some 0) with
  accessFlags := 1537
  interfaces := #[]
  cf := some (fileOf pool14 2 #[.nestMembers #[36]] #[{ accessFlags := 9, nameIndex := 108, descriptorIndex := 109, attributes := #[] }] 1537 93 #[] #[])
  fields := #[]
  methods := #[k14m0]
  instanceTypes := #[]
  staticTypes := #[]
  resolved := Array.replicate 263 none
  statics := none }

def pool15 : Array CpInfo := pool [(2, .class_ 4), (1, u "java/lang/Object"), (0, u "<init>"), (0, u "()V"), (3, .class_ 11), (0, u "java/util/ImmutableCollections$List12"), (0, .class_ 13), (0, u "java/util/ImmutableCollections$ListN"), (3, u "Z"), (29, .class_ 49), (1, u "java/util/ImmutableCollections"), (0, u "$assertionsDisabled"), (5, u "[Ljava/lang/Object;"), (5, u "EMPTY_LIST"), (0, u "Ljava/util/ImmutableCollections$ListN;"), (8, u "EMPTY_LIST_NULLS"), (22, u "SALT32L"), (0, u "J"), (2, u "REVERSE"), (6, u "archivedObjects"), (2, u "EMPTY"), (0, u "Ljava/lang/Object;"), (0, .class_ 112), (0, u "java/util/ImmutableCollections$SetN"), (5, u "EMPTY_SET"), (0, u "Ljava/util/ImmutableCollections$SetN;"), (0, .class_ 121), (0, u "java/util/ImmutableCollections$MapN"), (3, u "EMPTY_MAP"), (0, u "Ljava/util/ImmutableCollections$MapN;"), (4, u "EXPAND_FACTOR"), (0, u "I"), (36, .class_ 170), (0, u "java/util/ImmutableCollections$MapN$MapNIterator"), (0, .class_ 172), (0, u "java/util/ImmutableCollections$MapN$1"), (0, .class_ 174), (0, u "java/util/ImmutableCollections$Map1"), (0, .class_ 176), (0, u "java/util/ImmutableCollections$AbstractImmutableMap"), (0, .class_ 178), (0, u "java/util/ImmutableCollections$SetN$SetNIterator"), (0, .class_ 180), (0, u "java/util/ImmutableCollections$Set12"), (0, .class_ 182), (0, u "java/util/ImmutableCollections$Set12$1"), (0, .class_ 184), (0, u "java/util/ImmutableCollections$AbstractImmutableSet"), (0, .class_ 186), (0, u "java/util/ImmutableCollections$SubList"), (0, .class_ 188), (0, u "java/util/ImmutableCollections$ListItr"), (0, .class_ 190), (0, u "java/util/ImmutableCollections$AbstractImmutableList"), (0, .class_ 192), (0, u "java/util/ImmutableCollections$AbstractImmutableCollection"), (0, .class_ 194), (0, u "java/util/ImmutableCollections$Access"), (0, .class_ 196), (0, u "java/util/ImmutableCollections$Access$1")] 16

def k15m0 : Method := { name := "<init>", desc := "()V", sig := { parameters := [], returnType := none }, accessFlags := 2, code := none }
/-- java/util/ImmutableCollections -/
def k15 : Class := { plain "java/util/ImmutableCollections" (some 0) with
  accessFlags := 32
  interfaces := #[]
  cf := some (fileOf pool15 47 #[.nestMembers #[120, 169, 171, 173, 175, 111, 177, 179, 181, 183, 12, 10, 185, 187, 189, 191, 193, 195]] #[{ accessFlags := 2, nameIndex := 5, descriptorIndex := 6, attributes := #[] }] 32 2 #[] #[{ accessFlags := 26, nameIndex := 95, descriptorIndex := 96, attributes := #[] }, { accessFlags := 26, nameIndex := 99, descriptorIndex := 17, attributes := #[] }, { accessFlags := 10, nameIndex := 106, descriptorIndex := 56, attributes := #[] }, { accessFlags := 26, nameIndex := 109, descriptorIndex := 110, attributes := #[] }, { accessFlags := 24, nameIndex := 62, descriptorIndex := 63, attributes := #[] }, { accessFlags := 24, nameIndex := 72, descriptorIndex := 63, attributes := #[] }, { accessFlags := 24, nameIndex := 118, descriptorIndex := 119, attributes := #[] }, { accessFlags := 24, nameIndex := 125, descriptorIndex := 126, attributes := #[] }, { accessFlags := 24, nameIndex := 131, descriptorIndex := 132, attributes := #[] }, { accessFlags := 4120, nameIndex := 50, descriptorIndex := 17, attributes := #[] }])
  fields := #[{ name := "SALT32L", type := .long, accessFlags := 26, slot := 0, constantValue := 0 }, { name := "REVERSE", type := .boolean, accessFlags := 26, slot := 1, constantValue := 0 }, { name := "archivedObjects", type := (.array (.object "java/lang/Object")), accessFlags := 10, slot := 2, constantValue := 0 }, { name := "EMPTY", type := (.object "java/lang/Object"), accessFlags := 26, slot := 3, constantValue := 0 }, { name := "EMPTY_LIST", type := (.object "java/util/ImmutableCollections$ListN"), accessFlags := 24, slot := 4, constantValue := 0 }, { name := "EMPTY_LIST_NULLS", type := (.object "java/util/ImmutableCollections$ListN"), accessFlags := 24, slot := 5, constantValue := 0 }, { name := "EMPTY_SET", type := (.object "java/util/ImmutableCollections$SetN"), accessFlags := 24, slot := 6, constantValue := 0 }, { name := "EMPTY_MAP", type := (.object "java/util/ImmutableCollections$MapN"), accessFlags := 24, slot := 7, constantValue := 0 }, { name := "EXPAND_FACTOR", type := .int, accessFlags := 24, slot := 8, constantValue := 0 }, { name := "$assertionsDisabled", type := .boolean, accessFlags := 4120, slot := 9, constantValue := 0 }]
  methods := #[k15m0]
  instanceTypes := #[]
  staticTypes := #[.long, .boolean, (.array (.object "java/lang/Object")), (.object "java/lang/Object"), (.object "java/util/ImmutableCollections$ListN"), (.object "java/util/ImmutableCollections$ListN"), (.object "java/util/ImmutableCollections$SetN"), (.object "java/util/ImmutableCollections$MapN"), .int, .boolean]
  resolved := Array.replicate 213 none
  statics := some 2 }

def pool16 : Array CpInfo := pool [(6, .class_ 8), (1, u "java/lang/Object"), (0, u "<init>"), (0, u "()V"), (1, .class_ 14), (1, u "java/lang/StringUTF16"), (31, u "$assertionsDisabled"), (0, u "Z"), (13, u "HI_BYTE_SHIFT"), (0, u "I"), (2, u "LO_BYTE_SHIFT"), (49, .methodref 12 116), (0, .nameAndType 117 118), (0, u "compress"), (0, u "([CI[BII)I"), (3, u "([CII)[B"), (138, u "coderFromArrayLen"), (0, u "([BI)B"), (106, .class_ 371), (1, u "java/lang/StringUTF16$LinesSpliterator"), (58, u "MAX_LENGTH"), (196, .class_ 628), (0, u "java/lang/StringUTF16$CodePointsSpliterator"), (0, .class_ 630), (0, u "java/lang/StringUTF16$CharsSpliterator")] 4

def k16m0 : Method := { name := "<init>", desc := "()V", sig := { parameters := [], returnType := none }, accessFlags := 0, code := none }
def k16c1 : Code := { maxStack := 2, maxLocals := 2, code := jdk_52_method_15_code, exceptionTable := #[], attributes := #[] }
def k16m1 : Method := { name := "coderFromArrayLen", desc := "([BI)B", sig := { parameters := [(.array .byte), .int], returnType := some .byte }, accessFlags := 8, code := some k16c1 }
def k16c2 : Code := { maxStack := 5, maxLocals := 6, code := jdk_52_method_16_code, exceptionTable := #[], attributes := #[] }
def k16m2 : Method := { name := "compress", desc := "([CII)[B", sig := { parameters := [(.array .char), .int, .int], returnType := some (.array .byte) }, accessFlags := 9, code := some k16c2 }
def k16c3 : Code := { maxStack := 3, maxLocals := 7, code := jdk_52_method_21_code, exceptionTable := #[], attributes := #[] }
def k16m3 : Method := { name := "compress", desc := "([CI[BII)I", sig := { parameters := [(.array .char), .int, (.array .byte), .int, .int], returnType := some .int }, accessFlags := 9, code := some k16c3 }
/-- java/lang/StringUTF16 -/
def k16 : Class := { plain "java/lang/StringUTF16" (some 0) with
  accessFlags := 48
  interfaces := #[]
  cf := some (fileOf pool16 12 #[.nestMembers #[627, 629, 369]] #[{ accessFlags := 0, nameIndex := 9, descriptorIndex := 10, attributes := #[] }, { accessFlags := 8, nameIndex := 261, descriptorIndex := 262, attributes := #[] }, { accessFlags := 9, nameIndex := 117, descriptorIndex := 122, attributes := #[] }, { accessFlags := 9, nameIndex := 117, descriptorIndex := 118, attributes := #[] }] 48 6 #[] #[{ accessFlags := 26, nameIndex := 61, descriptorIndex := 62, attributes := #[] }, { accessFlags := 26, nameIndex := 65, descriptorIndex := 62, attributes := #[] }, { accessFlags := 24, nameIndex := 430, descriptorIndex := 62, attributes := #[] }, { accessFlags := 4120, nameIndex := 46, descriptorIndex := 47, attributes := #[] }])
  fields := #[{ name := "HI_BYTE_SHIFT", type := .int, accessFlags := 26, slot := 0, constantValue := 0 }, { name := "LO_BYTE_SHIFT", type := .int, accessFlags := 26, slot := 1, constantValue := 0 }, { name := "MAX_LENGTH", type := .int, accessFlags := 24, slot := 2, constantValue := 0 }, { name := "$assertionsDisabled", type := .boolean, accessFlags := 4120, slot := 3, constantValue := 0 }]
  methods := #[k16m0, k16m1, k16m2, k16m3]
  instanceTypes := #[]
  staticTypes := #[.int, .int, .int, .boolean]
  resolved := Array.replicate 635 none
  statics := none }

def pool17 : Array CpInfo := pool [(2, .class_ 4), (1, u "java/lang/Object"), (0, u "<init>"), (0, u "()V"), (17, .class_ 26), (1, u "jdk/internal/util/Preconditions"), (28, .class_ 56), (0, u "jdk/internal/util/Preconditions$4"), (57, .class_ 115), (0, u "jdk/internal/util/Preconditions$1"), (7, u "SIOOBE_FORMATTER"), (0, u "Ljava/util/function/BiFunction;"), (0, .class_ 126), (0, u "jdk/internal/util/Preconditions$2"), (3, u "AIOOBE_FORMATTER"), (0, .class_ 132), (0, u "jdk/internal/util/Preconditions$3"), (3, u "IOOBE_FORMATTER")] 57

def k17m0 : Method := { name := "<init>", desc := "()V", sig := { parameters := [], returnType := none }, accessFlags := 1, code := none }
/-- jdk/internal/util/Preconditions -/
def k17 : Class := { plain "jdk/internal/util/Preconditions" (some 0) with
  accessFlags := 33
  interfaces := #[]
  cf := some (fileOf pool17 24 #[.nestMembers #[55, 131, 125, 114]] #[{ accessFlags := 1, nameIndex := 5, descriptorIndex := 6, attributes := #[] }] 33 2 #[] #[{ accessFlags := 25, nameIndex := 123, descriptorIndex := 124, attributes := #[] }, { accessFlags := 25, nameIndex := 130, descriptorIndex := 124, attributes := #[] }, { accessFlags := 25, nameIndex := 136, descriptorIndex := 124, attributes := #[] }])
  fields := #[{ name := "SIOOBE_FORMATTER", type := (.object "java/util/function/BiFunction"), accessFlags := 25, slot := 0, constantValue := 0 }, { name := "AIOOBE_FORMATTER", type := (.object "java/util/function/BiFunction"), accessFlags := 25, slot := 1, constantValue := 0 }, { name := "IOOBE_FORMATTER", type := (.object "java/util/function/BiFunction"), accessFlags := 25, slot := 2, constantValue := 0 }]
  methods := #[k17m0]
  instanceTypes := #[]
  staticTypes := #[(.object "java/util/function/BiFunction"), (.object "java/util/function/BiFunction"), (.object "java/util/function/BiFunction")]
  resolved := Array.replicate 194 none
  statics := some 3 }

def pool18 : Array CpInfo := pool [(9, u "<init>"), (6, .class_ 18), (1, u "java/lang/Object"), (0, u "()V"), (1, .class_ 23), (1, u "jdk/internal/util/ArraysSupport"), (0, u "LOG2_ARRAY_LONG_INDEX_SCALE"), (0, u "I"), (2, u "U"), (0, u "Ljdk/internal/misc/Unsafe;"), (8, u "BIG_ENDIAN"), (0, u "Z"), (8, u "LOG2_BYTE_BIT_SIZE"), (4, u "LOG2_ARRAY_INT_INDEX_SCALE"), (54, u "JLA"), (0, u "Ljdk/internal/access/JavaLangAccess;"), (11, u "LOG2_ARRAY_BOOLEAN_INDEX_SCALE"), (9, u "LOG2_ARRAY_BYTE_INDEX_SCALE"), (5, u "LOG2_ARRAY_CHAR_INDEX_SCALE"), (5, u "LOG2_ARRAY_SHORT_INDEX_SCALE"), (18, u "LOG2_ARRAY_FLOAT_INDEX_SCALE"), (24, u "LOG2_ARRAY_DOUBLE_INDEX_SCALE"), (89, u "T_BOOLEAN"), (2, u "T_CHAR"), (1, u "T_FLOAT"), (1, u "T_DOUBLE"), (1, u "T_BYTE"), (1, u "T_SHORT"), (1, u "T_INT"), (1, u "T_LONG"), (1, u "SOFT_MAX_ARRAY_LENGTH")] 83

def k18m0 : Method := { name := "<init>", desc := "()V", sig := { parameters := [], returnType := none }, accessFlags := 2, code := none }
/-- jdk/internal/util/ArraysSupport -/
def k18 : Class := { plain "jdk/internal/util/ArraysSupport" (some 0) with
  accessFlags := 33
  interfaces := #[]
  cf := some (fileOf pool18 21 #[] #[{ accessFlags := 2, nameIndex := 9, descriptorIndex := 19, attributes := #[] }] 33 16 #[] #[{ accessFlags := 24, nameIndex := 28, descriptorIndex := 29, attributes := #[] }, { accessFlags := 26, nameIndex := 38, descriptorIndex := 39, attributes := #[] }, { accessFlags := 25, nameIndex := 121, descriptorIndex := 25, attributes := #[] }, { accessFlags := 25, nameIndex := 131, descriptorIndex := 25, attributes := #[] }, { accessFlags := 25, nameIndex := 137, descriptorIndex := 25, attributes := #[] }, { accessFlags := 25, nameIndex := 143, descriptorIndex := 25, attributes := #[] }, { accessFlags := 25, nameIndex := 53, descriptorIndex := 25, attributes := #[] }, { accessFlags := 25, nameIndex := 24, descriptorIndex := 25, attributes := #[] }, { accessFlags := 25, nameIndex := 162, descriptorIndex := 25, attributes := #[] }, { accessFlags := 25, nameIndex := 187, descriptorIndex := 25, attributes := #[] }, { accessFlags := 26, nameIndex := 48, descriptorIndex := 25, attributes := #[] }, { accessFlags := 25, nameIndex := 277, descriptorIndex := 25, attributes := #[] }, { accessFlags := 25, nameIndex := 280, descriptorIndex := 25, attributes := #[] }, { accessFlags := 25, nameIndex := 282, descriptorIndex := 25, attributes := #[] }, { accessFlags := 25, nameIndex := 284, descriptorIndex := 25, attributes := #[] }, { accessFlags := 25, nameIndex := 286, descriptorIndex := 25, attributes := #[] }, { accessFlags := 25, nameIndex := 288, descriptorIndex := 25, attributes := #[] }, { accessFlags := 25, nameIndex := 290, descriptorIndex := 25, attributes := #[] }, { accessFlags := 25, nameIndex := 292, descriptorIndex := 25, attributes := #[] }, { accessFlags := 26, nameIndex := 108, descriptorIndex := 109, attributes := #[] }, { accessFlags := 25, nameIndex := 294, descriptorIndex := 25, attributes := #[] }])
  fields := #[{ name := "U", type := (.object "jdk/internal/misc/Unsafe"), accessFlags := 24, slot := 0, constantValue := 0 }, { name := "BIG_ENDIAN", type := .boolean, accessFlags := 26, slot := 1, constantValue := 0 }, { name := "LOG2_ARRAY_BOOLEAN_INDEX_SCALE", type := .int, accessFlags := 25, slot := 2, constantValue := 0 }, { name := "LOG2_ARRAY_BYTE_INDEX_SCALE", type := .int, accessFlags := 25, slot := 3, constantValue := 0 }, { name := "LOG2_ARRAY_CHAR_INDEX_SCALE", type := .int, accessFlags := 25, slot := 4, constantValue := 0 }, { name := "LOG2_ARRAY_SHORT_INDEX_SCALE", type := .int, accessFlags := 25, slot := 5, constantValue := 0 }, { name := "LOG2_ARRAY_INT_INDEX_SCALE", type := .int, accessFlags := 25, slot := 6, constantValue := 0 }, { name := "LOG2_ARRAY_LONG_INDEX_SCALE", type := .int, accessFlags := 25, slot := 7, constantValue := 0 }, { name := "LOG2_ARRAY_FLOAT_INDEX_SCALE", type := .int, accessFlags := 25, slot := 8, constantValue := 0 }, { name := "LOG2_ARRAY_DOUBLE_INDEX_SCALE", type := .int, accessFlags := 25, slot := 9, constantValue := 0 }, { name := "LOG2_BYTE_BIT_SIZE", type := .int, accessFlags := 26, slot := 10, constantValue := 0 }, { name := "T_BOOLEAN", type := .int, accessFlags := 25, slot := 11, constantValue := 0 }, { name := "T_CHAR", type := .int, accessFlags := 25, slot := 12, constantValue := 0 }, { name := "T_FLOAT", type := .int, accessFlags := 25, slot := 13, constantValue := 0 }, { name := "T_DOUBLE", type := .int, accessFlags := 25, slot := 14, constantValue := 0 }, { name := "T_BYTE", type := .int, accessFlags := 25, slot := 15, constantValue := 0 }, { name := "T_SHORT", type := .int, accessFlags := 25, slot := 16, constantValue := 0 }, { name := "T_INT", type := .int, accessFlags := 25, slot := 17, constantValue := 0 }, { name := "T_LONG", type := .int, accessFlags := 25, slot := 18, constantValue := 0 }, { name := "JLA", type := (.object "jdk/internal/access/JavaLangAccess"), accessFlags := 26, slot := 19, constantValue := 0 }, { name := "SOFT_MAX_ARRAY_LENGTH", type := .int, accessFlags := 25, slot := 20, constantValue := 0 }]
  methods := #[k18m0]
  instanceTypes := #[]
  staticTypes := #[(.object "jdk/internal/misc/Unsafe"), .boolean, .int, .int, .int, .int, .int, .int, .int, .int, .int, .int, .int, .int, .int, .int, .int, .int, .int, (.object "jdk/internal/access/JavaLangAccess"), .int]
  resolved := Array.replicate 378 none
  statics := none }

def pool19 : Array CpInfo := pool [(2, .class_ 4), (1, u "java/lang/Object"), (0, u "<init>"), (0, u "()V"), (1, .class_ 10), (1, u "java/util/AbstractMap"), (42, .class_ 54), (0, u "java/util/Map"), (9, u "keySet"), (0, u "Ljava/util/Set;"), (0, .class_ 67), (0, u "java/util/AbstractMap$1"), (5, u "values"), (0, u "Ljava/util/Collection;"), (0, .class_ 76), (0, u "java/util/AbstractMap$2"), (104, .class_ 182), (0, u "java/util/AbstractMap$ViewCollection"), (0, .class_ 184), (0, u "java/util/AbstractMap$SimpleImmutableEntry"), (0, .class_ 186), (0, u "java/util/AbstractMap$SimpleEntry"), (0, .class_ 188), (0, u "java/util/AbstractMap$2$1"), (0, .class_ 190), (0, u "java/util/AbstractMap$1$1")] 5

def k19m0 : Method := { name := "<init>", desc := "()V", sig := { parameters := [], returnType := none }, accessFlags := 4, code := none }
/-- java/util/AbstractMap -/
def k19 : Class := { plain "java/util/AbstractMap" (some 0) with
  accessFlags := 1057
  interfaces := #[14]
  cf := some (fileOf pool19 8 #[.nestMembers #[181, 183, 185, 75, 187, 66, 189]] #[{ accessFlags := 4, nameIndex := 5, descriptorIndex := 6, attributes := #[] }] 1057 2 #[53] #[{ accessFlags := 128, nameIndex := 64, descriptorIndex := 65, attributes := #[] }, { accessFlags := 128, nameIndex := 73, descriptorIndex := 74, attributes := #[] }])
  fields := #[{ name := "keySet", type := (.object "java/util/Set"), accessFlags := 128, slot := 0, constantValue := 0 }, { name := "values", type := (.object "java/util/Collection"), accessFlags := 128, slot := 1, constantValue := 0 }]
  methods := #[k19m0]
  instanceTypes := #[(.object "java/util/Set"), (.object "java/util/Collection")]
  staticTypes := #[]
  resolved := Array.replicate 196 none
  statics := none }

def pool20 : Array CpInfo := pool [(2, .class_ 4), (1, u "java/util/AbstractMap"), (0, u "<init>"), (0, u "()V"), (1, .class_ 10), (1, u "java/util/ImmutableCollections"), (3, .class_ 16), (1, u "java/util/ImmutableCollections$AbstractImmutableMap"), (2, .class_ 20), (0, u "java/io/Serializable")] 66

def k20m0 : Method := { name := "<init>", desc := "()V", sig := { parameters := [], returnType := none }, accessFlags := 0, code := none }
/-- java/util/ImmutableCollections$AbstractImmutableMap -/
def k20 : Class := { plain "java/util/ImmutableCollections$AbstractImmutableMap" (some 19) with
  accessFlags := 1056
  interfaces := #[2]
  cf := some (fileOf pool20 14 #[.nestHost 8] #[{ accessFlags := 0, nameIndex := 5, descriptorIndex := 6, attributes := #[] }] 1056 2 #[19] #[])
  fields := #[]
  methods := #[k20m0]
  instanceTypes := #[(.object "java/util/Set"), (.object "java/util/Collection")]
  staticTypes := #[]
  resolved := Array.replicate 87 none
  statics := none }

def pool21 : Array CpInfo := pool [(1, .class_ 2), (0, u "java/util/ImmutableCollections"), (1, .class_ 6), (1, u "java/util/ImmutableCollections$AbstractImmutableMap"), (10, .class_ 19), (1, u "java/util/ImmutableCollections$MapN"), (0, u "size"), (0, u "I"), (4, u "table"), (0, u "[Ljava/lang/Object;")] 121

/-- java/util/ImmutableCollections$MapN -/
def k21 : Class := { plain "java/util/ImmutableCollections$MapN" (some 20) with
  accessFlags := 48
  interfaces := #[]
  cf := some (fileOf pool21 17 #[.nestHost 1] #[] 48 4 #[] #[{ accessFlags := 16, nameIndex := 26, descriptorIndex := 27, attributes := #[] }, { accessFlags := 16, nameIndex := 20, descriptorIndex := 21, attributes := #[] }])
  fields := #[{ name := "table", type := (.array (.object "java/lang/Object")), accessFlags := 16, slot := 2, constantValue := 0 }, { name := "size", type := .int, accessFlags := 16, slot := 3, constantValue := 0 }]
  methods := #[]
  instanceTypes := #[(.object "java/util/Set"), (.object "java/util/Collection"), (.array (.object "java/lang/Object")), .int]
  staticTypes := #[]
  resolved := Array.replicate 149 none
  statics := none }

def pool22 : Array CpInfo := pool [(1, u "java/lang/Cloneable"), (0, .class_ 1), (0, u "java/lang/Object"), (0, .class_ 3)] 3

/-- java/lang/Cloneable -/
def k22 : Class := { plain "java/lang/Cloneable" (some 0) with
  accessFlags := 1537
  interfaces := #[]
  cf := some (fileOf pool22 2 #[] #[] 1537 4 #[] #[])
  fields := #[]
  methods := #[]
  instanceTypes := #[]
  staticTypes := #[]
  resolved := Array.replicate 8 none
  statics := none }

/-- the primitive byte -/
def k23 : Class := { plain "byte" none with kind := .primitive 'B', accessFlags := 0x411 }
/-- [B -/
def k24 : Class := { plain "[B" (some 0) with kind := .array 23 .byte, interfaces := #[22, 2], accessFlags := 1041 }

/-- the primitive char -/
def k25 : Class := { plain "char" none with kind := .primitive 'C', accessFlags := 0x411 }
/-- [C -/
def k26 : Class := { plain "[C" (some 0) with kind := .array 25 .char, interfaces := #[22, 2], accessFlags := 1041 }

/-- the primitive int -/
def k27 : Class := { plain "int" none with kind := .primitive 'I', accessFlags := 0x411 }
/-- [I -/
def k28 : Class := { plain "[I" (some 0) with kind := .array 27 .int, interfaces := #[22, 2], accessFlags := 1041 }

/-- [Ljava/lang/Object; -/
def k29 : Class := { plain "[Ljava/lang/Object;" (some 0) with kind := .array 0 (.object "java/lang/Object"), interfaces := #[22, 2], accessFlags := 1041 }

def heap : Heap := #[{ cls := 7, slots := #[.long 0, .int 1, .null, .int 0, .null, .int 0, .int 0], vm := .statics 7 },
  { cls := 12, slots := #[.ref 6, .ref 7, .ref 8, .ref 9, .ref 10, .ref 11, .ref 12, .ref 13, .ref 14, .ref 15, .ref 16, .ref 17, .ref 18, .null, .null], vm := .statics 12 },
  { cls := 15, slots := #[.long 0, .int 0, .null, .null, .null, .null, .null, .ref 5, .int 0, .int 0], vm := .statics 15 },
  { cls := 17, slots := #[.null, .null, .null], vm := .statics 17 },
  { cls := 29, slots := #[], vm := .none },
  { cls := 21, slots := #[.null, .null, .ref 4, .int 0], vm := .none },
  { cls := 12, slots := #[.null, .int 0, .int 0, .null, .int 0], vm := .none },
  { cls := 12, slots := #[.null, .int 1, .int 0, .null, .int 0], vm := .none },
  { cls := 12, slots := #[.null, .int 2, .int 0, .null, .int 0], vm := .none },
  { cls := 12, slots := #[.null, .int 3, .int 0, .null, .int 0], vm := .none },
  { cls := 12, slots := #[.null, .int 4, .int 0, .null, .int 1], vm := .none },
  { cls := 12, slots := #[.null, .int 5, .int 0, .null, .int 1], vm := .none },
  { cls := 12, slots := #[.null, .int 6, .int 0, .null, .int 1], vm := .none },
  { cls := 12, slots := #[.null, .int 7, .int 0, .null, .int 1], vm := .none },
  { cls := 12, slots := #[.null, .int 8, .int 0, .null, .int 1], vm := .none },
  { cls := 12, slots := #[.null, .int 9, .int 0, .null, .int 0], vm := .none },
  { cls := 12, slots := #[.null, .int 10, .int 0, .null, .int 0], vm := .none },
  { cls := 12, slots := #[.null, .int 11, .int 0, .null, .int 0], vm := .none },
  { cls := 12, slots := #[.null, .int 12, .int 0, .null, .int 1], vm := .none }]
def classes : Array Class := #[k0, k1, k2, k3, k4, k5, k6, k7, k8, k9, k10, k11, k12, k13, k14, k15, k16, k17, k18, k19, k20, k21, k22, k23, k24, k25, k26, k27, k28, k29]
def interned : List (Array UInt16 × Addr) := []
def slotsUsed : Nat := 104
def theMethod : MethodId := ⟨1, 1⟩
def args0 : Array Value := #[.int 5, .int 6, .int 7, .int 8]
def aboutOver (below : List Frame) : State where
  vm := { classes := classes, interned := interned.toArray }
  heap := heap
  slotsUsed := slotsUsed
  threads := #[{ frames := .invoking theMethod args0 :: below }]
def below0 : List Frame := [.native { method := ⟨0, 0⟩, args := #[] }]
def about1 : State := aboutOver below0
def p0 : Program := .bare "" "" ""
def e0 : Env := launch0.env 0 0 0
theorem w_frames : about1.frames = Frame.invoking theMethod args0 :: below0 := rfl
set_option maxRecDepth 65536 in
theorem w_args : argsFit about1.vm theMethod args0 = true := by decide +kernel
set_option maxRecDepth 65536 in
theorem w_heap : heapFits about1 = true := by decide +kernel
set_option maxRecDepth 65536 in
theorem w_runnable : about1.curStatus? = some .runnable := by decide +kernel
set_option maxRecDepth 65536 in
theorem w_alone : about1.alone = true := by decide +kernel
set_option maxRecDepth 65536 in
theorem w_named : about1.methodNamed? x = some theMethod := by decide +kernel
set_option maxRecDepth 65536 in
theorem w_hears : about1.hears theMethod below0 = true := by decide +kernel
set_option maxRecDepth 65536 in
theorem w_ripe : about1.ripe theMethod args0 below0 = true := by decide +kernel
theorem w_running : about1.status = .running := rfl
set_option maxRecDepth 65536 in
theorem w_room : about1.hasRoom e0.platform room_1 = true :=
  launch0.hasRoom_least _ room_1 (by decide +kernel) (by decide +kernel) (by decide +kernel) (by decide +kernel) (by decide +kernel) (by decide +kernel)
theorem allAtoms_all (ts : List Jvm.Cond) (a : Array Jvm.Value) (st : Jvm.State) : (allAtoms ts).before a st = ts.all (fun c => c.before a st) := by
  induction ts with
  | nil => rfl
  | cons c t ih =>
    show (Jvm.Cond.and c (allAtoms t)).before a st = _
    rw [Jvm.Cond.before_and, ih, List.all_cons]
def words1 : List Jvm.Cond := Jvm.Cond.code x code maxLocals ret :: tables_1
/-- a 'code' word, met by the world's own term for the bytes: nothing is compared byte by byte -/
theorem code_word {y : MethodName} {bytes : ByteArray} {mx : Nat} {rt : Option FieldType} {a : Array Value} {s : State} {m : MethodId} {meth : Method} {c : Code} (h1 : s.methodNamed? y = some m) (h2 : s.vm.method? m = some meth) (h3 : meth.code = some c) (h4 : c.code = bytes)
    (h5 : (c.maxLocals == mx && c.exceptionTable.isEmpty && decide (c.maxStack ≤ mostOperands) && decide (meth.sig.returnType = rt) && !meth.locks && decide (parseMethodDescriptor y.desc = some meth.sig)) = true) : (Jvm.Cond.code y bytes mx rt).before a s = true := by
  simp only [Bool.and_eq_true, beq_iff_eq, Bool.not_eq_true', decide_eq_true_eq] at h5
  obtain ⟨⟨⟨⟨⟨g1, g2⟩, g3⟩, g4⟩, g5⟩, g6⟩ := h5
  simp [Cond.before, Cond.holds, Cond.value, h1, h2, h3, h4, g1, g2, g3, g4, g5, g6]
def isCode : Jvm.Cond → Bool
  | .code _ _ _ _ => true
  | _ => false
theorem all_split {L : List Jvm.Cond} {P : Jvm.Cond → Bool} (h1 : L.all (fun c => isCode c || P c) = true) (h2 : ∀ c ∈ L.filter isCode, P c = true) : L.all P = true := by
  refine List.all_eq_true.mpr fun c hc => ?_
  have h := List.all_eq_true.mp h1 c hc
  rcases Bool.eq_false_or_eq_true (isCode c) with hi | hi
  · exact h2 c (List.mem_filter.mpr ⟨hc, hi⟩)
  · simpa [hi] using h
set_option maxRecDepth 65536 in
theorem w_c0 : (Jvm.Cond.code x code maxLocals ret).before args0 about1 = true := code_word (m := ⟨1, 1⟩) (meth := k1m1) (c := k1c1) (by decide +kernel) rfl rfl rfl (by decide +kernel)
set_option maxRecDepth 65536 in
theorem w_c1 : (Jvm.Cond.code ({ cls := "java/lang/String", name := "valueOf", desc := "(C)Ljava/lang/String;" } : Jvm.MethodName) jdk_42_method_139_code (1 : Nat) (Option.some (Jvm.ClassFile.FieldType.object "java/lang/String"))).before args0 about1 = true := code_word (m := ⟨7, 2⟩) (meth := k7m2) (c := k7c2) (by decide +kernel) rfl rfl rfl (by decide +kernel)
set_option maxRecDepth 65536 in
theorem w_c2 : (Jvm.Cond.code ({ cls := "java/lang/StringLatin1", name := "canEncode", desc := "(C)Z" } : Jvm.MethodName) jdk_43_method_3_code (1 : Nat) (Option.some Jvm.ClassFile.FieldType.boolean)).before args0 about1 = true := code_word (m := ⟨8, 1⟩) (meth := k8m1) (c := k8c1) (by decide +kernel) rfl rfl rfl (by decide +kernel)
set_option maxRecDepth 65536 in
theorem w_c3 : (Jvm.Cond.code ({ cls := "java/lang/StringLatin1", name := "toBytes", desc := "(C)[B" } : Jvm.MethodName) jdk_43_method_46_code (1 : Nat) (Option.some (Jvm.ClassFile.FieldType.array Jvm.ClassFile.FieldType.byte))).before args0 about1 = true := code_word (m := ⟨8, 2⟩) (meth := k8m2) (c := k8c2) (by decide +kernel) rfl rfl rfl (by decide +kernel)
set_option maxRecDepth 65536 in
theorem w_c4 : (Jvm.Cond.code ({ cls := "java/lang/String", name := "<init>", desc := "([BB)V" } : Jvm.MethodName) jdk_42_method_151_code (3 : Nat) (Option.none : Option Jvm.ClassFile.FieldType)).before args0 about1 = true := code_word (m := ⟨7, 4⟩) (meth := k7m4) (c := k7c4) (by decide +kernel) rfl rfl rfl (by decide +kernel)
set_option maxRecDepth 65536 in
theorem w_c5 : (Jvm.Cond.code ({ cls := "java/lang/Object", name := "<init>", desc := "()V" } : Jvm.MethodName) object_method_1_code (1 : Nat) (Option.none : Option Jvm.ClassFile.FieldType)).before args0 about1 = true := code_word (m := ⟨0, 0⟩) (meth := k0m0) (c := k0c0) (by decide +kernel) rfl rfl rfl (by decide +kernel)
set_option maxRecDepth 65536 in
theorem w_c6 : (Jvm.Cond.code ({ cls := "com/example/permits_from_duties/permitsfromduties/EventPerformerPinLaw", name := "pick", desc := "(I)Lcom/example/permits_from_duties/permitsfromduties/Event$Transition;" } : Jvm.MethodName) method_3_code (1 : Nat) (Option.some (Jvm.ClassFile.FieldType.object "com/example/permits_from_duties/permitsfromduties/Event$Transition"))).before args0 about1 = true := code_word (m := ⟨1, 2⟩) (meth := k1m2) (c := k1c2) (by decide +kernel) rfl rfl rfl (by decide +kernel)
set_option maxRecDepth 65536 in
theorem w_c7 : (Jvm.Cond.code ({ cls := "com/example/permits_from_duties/permitsfromduties/Event", name := "<init>", desc := "(Ljava/lang/String;Ljava/lang/String;Ljava/time/Instant;Lcom/example/permits_from_duties/permitsfromduties/Event$Transition;)V" } : Jvm.MethodName) prog_27_method_2_code (5 : Nat) (Option.none : Option Jvm.ClassFile.FieldType)).before args0 about1 = true := code_word (m := ⟨10, 1⟩) (meth := k10m1) (c := k10c1) (by decide +kernel) rfl rfl rfl (by decide +kernel)
set_option maxRecDepth 65536 in
theorem w_c8 : (Jvm.Cond.code ({ cls := "com/example/permits_from_duties/permitsfromduties/Event", name := "<init>", desc := "(Ljava/lang/String;Ljava/lang/String;Ljava/time/Instant;Lcom/example/permits_from_duties/permitsfromduties/Event$Transition;Ljava/lang/String;Ljava/util/Map;)V" } : Jvm.MethodName) prog_27_method_1_code (7 : Nat) (Option.none : Option Jvm.ClassFile.FieldType)).before args0 about1 = true := code_word (m := ⟨10, 0⟩) (meth := k10m0) (c := k10c0) (by decide +kernel) rfl rfl rfl (by decide +kernel)
set_option maxRecDepth 65536 in
theorem w_c9 : (Jvm.Cond.code ({ cls := "java/lang/Record", name := "<init>", desc := "()V" } : Jvm.MethodName) jdk_30_method_1_code (1 : Nat) (Option.none : Option Jvm.ClassFile.FieldType)).before args0 about1 = true := code_word (m := ⟨9, 0⟩) (meth := k9m0) (c := k9c0) (by decide +kernel) rfl rfl rfl (by decide +kernel)
set_option maxRecDepth 65536 in
theorem w_c10 : (Jvm.Cond.code ({ cls := "java/util/Objects", name := "requireNonNull", desc := "(Ljava/lang/Object;Ljava/lang/String;)Ljava/lang/Object;" } : Jvm.MethodName) jdk_31_method_11_code (2 : Nat) (Option.some (Jvm.ClassFile.FieldType.object "java/lang/Object"))).before args0 about1 = true := code_word (m := ⟨13, 1⟩) (meth := k13m1) (c := k13c1) (by decide +kernel) rfl rfl rfl (by decide +kernel)
set_option maxRecDepth 65536 in
theorem w_c11 : (Jvm.Cond.code ({ cls := "java/util/Map", name := "of", desc := "()Ljava/util/Map;" } : Jvm.MethodName) jdk_72_method_26_code (0 : Nat) (Option.some (Jvm.ClassFile.FieldType.object "java/util/Map"))).before args0 about1 = true := code_word (m := ⟨14, 0⟩) (meth := k14m0) (c := k14c0) (by decide +kernel) rfl rfl rfl (by decide +kernel)
set_option maxRecDepth 65536 in
theorem w_c12 : (Jvm.Cond.code ({ cls := "com/example/permits_from_duties/permitsfromduties/Event", name := "performer", desc := "()Ljava/lang/String;" } : Jvm.MethodName) prog_27_method_6_code (1 : Nat) (Option.some (Jvm.ClassFile.FieldType.object "java/lang/String"))).before args0 about1 = true := code_word (m := ⟨10, 5⟩) (meth := k10m5) (c := k10c5) (by decide +kernel) rfl rfl rfl (by decide +kernel)
set_option maxRecDepth 65536 in
theorem w_c13 : (Jvm.Cond.code ({ cls := "com/example/permits_from_duties/permitsfromduties/Event", name := "recordsWork", desc := "()Z" } : Jvm.MethodName) prog_27_method_5_code (1 : Nat) (Option.some Jvm.ClassFile.FieldType.boolean)).before args0 about1 = true := code_word (m := ⟨10, 4⟩) (meth := k10m4) (c := k10c4) (by decide +kernel) rfl rfl rfl (by decide +kernel)
set_option maxRecDepth 65536 in
theorem w_c14 : (Jvm.Cond.code ({ cls := "com/example/permits_from_duties/permitsfromduties/Event$Transition", name := "recordsWork", desc := "()Z" } : Jvm.MethodName) prog_28_method_5_code (1 : Nat) (Option.some Jvm.ClassFile.FieldType.boolean)).before args0 about1 = true := code_word (m := ⟨12, 0⟩) (meth := k12m0) (c := k12c0) (by decide +kernel) rfl rfl rfl (by decide +kernel)
set_option maxRecDepth 65536 in
theorem w_c15 : (Jvm.Cond.code ({ cls := "java/lang/String", name := "<init>", desc := "([C)V" } : Jvm.MethodName) jdk_42_method_3_code (2 : Nat) (Option.none : Option Jvm.ClassFile.FieldType)).before args0 about1 = true := code_word (m := ⟨7, 1⟩) (meth := k7m1) (c := k7c1) (by decide +kernel) rfl rfl rfl (by decide +kernel)
set_option maxRecDepth 65536 in
theorem w_c16 : (Jvm.Cond.code ({ cls := "java/lang/String", name := "<init>", desc := "([CIILjava/lang/Void;)V" } : Jvm.MethodName) jdk_42_method_149_code (6 : Nat) (Option.none : Option Jvm.ClassFile.FieldType)).before args0 about1 = true := code_word (m := ⟨7, 3⟩) (meth := k7m3) (c := k7c3) (by decide +kernel) rfl rfl rfl (by decide +kernel)
set_option maxRecDepth 65536 in
theorem w_c17 : (Jvm.Cond.code ({ cls := "java/lang/StringUTF16", name := "compress", desc := "([CII)[B" } : Jvm.MethodName) jdk_52_method_16_code (6 : Nat) (Option.some (Jvm.ClassFile.FieldType.array Jvm.ClassFile.FieldType.byte))).before args0 about1 = true := code_word (m := ⟨16, 2⟩) (meth := k16m2) (c := k16c2) (by decide +kernel) rfl rfl rfl (by decide +kernel)
set_option maxRecDepth 65536 in
theorem w_c18 : (Jvm.Cond.code ({ cls := "java/lang/StringUTF16", name := "compress", desc := "([CI[BII)I" } : Jvm.MethodName) jdk_52_method_21_code (7 : Nat) (Option.some Jvm.ClassFile.FieldType.int)).before args0 about1 = true := code_word (m := ⟨16, 3⟩) (meth := k16m3) (c := k16c3) (by decide +kernel) rfl rfl rfl (by decide +kernel)
set_option maxRecDepth 65536 in
theorem w_c19 : (Jvm.Cond.code ({ cls := "java/lang/StringUTF16", name := "coderFromArrayLen", desc := "([BI)B" } : Jvm.MethodName) jdk_52_method_15_code (2 : Nat) (Option.some Jvm.ClassFile.FieldType.byte)).before args0 about1 = true := code_word (m := ⟨16, 1⟩) (meth := k16m1) (c := k16c1) (by decide +kernel) rfl rfl rfl (by decide +kernel)
set_option maxRecDepth 65536 in
theorem w_c20 : (Jvm.Cond.code ({ cls := "com/example/permits_from_duties/permitsfromduties/Event", name := "<init>", desc := "(Ljava/lang/String;Ljava/lang/String;)V" } : Jvm.MethodName) prog_27_method_4_code (3 : Nat) (Option.none : Option Jvm.ClassFile.FieldType)).before args0 about1 = true := code_word (m := ⟨10, 3⟩) (meth := k10m3) (c := k10c3) (by decide +kernel) rfl rfl rfl (by decide +kernel)
set_option maxRecDepth 65536 in
theorem w_c21 : (Jvm.Cond.code ({ cls := "com/example/permits_from_duties/permitsfromduties/Event", name := "<init>", desc := "(Ljava/lang/String;Ljava/lang/String;Ljava/time/Instant;)V" } : Jvm.MethodName) prog_27_method_3_code (4 : Nat) (Option.none : Option Jvm.ClassFile.FieldType)).before args0 about1 = true := code_word (m := ⟨10, 2⟩) (meth := k10m2) (c := k10c2) (by decide +kernel) rfl rfl rfl (by decide +kernel)
def codes1 : List Jvm.Cond := [Jvm.Cond.code x code maxLocals ret, Jvm.Cond.code ({ cls := "java/lang/String", name := "valueOf", desc := "(C)Ljava/lang/String;" } : Jvm.MethodName) jdk_42_method_139_code (1 : Nat) (Option.some (Jvm.ClassFile.FieldType.object "java/lang/String")), Jvm.Cond.code ({ cls := "java/lang/StringLatin1", name := "canEncode", desc := "(C)Z" } : Jvm.MethodName) jdk_43_method_3_code (1 : Nat) (Option.some Jvm.ClassFile.FieldType.boolean), Jvm.Cond.code ({ cls := "java/lang/StringLatin1", name := "toBytes", desc := "(C)[B" } : Jvm.MethodName) jdk_43_method_46_code (1 : Nat) (Option.some (Jvm.ClassFile.FieldType.array Jvm.ClassFile.FieldType.byte)), Jvm.Cond.code ({ cls := "java/lang/String", name := "<init>", desc := "([BB)V" } : Jvm.MethodName) jdk_42_method_151_code (3 : Nat) (Option.none : Option Jvm.ClassFile.FieldType), Jvm.Cond.code ({ cls := "java/lang/Object", name := "<init>", desc := "()V" } : Jvm.MethodName) object_method_1_code (1 : Nat) (Option.none : Option Jvm.ClassFile.FieldType), Jvm.Cond.code ({ cls := "com/example/permits_from_duties/permitsfromduties/EventPerformerPinLaw", name := "pick", desc := "(I)Lcom/example/permits_from_duties/permitsfromduties/Event$Transition;" } : Jvm.MethodName) method_3_code (1 : Nat) (Option.some (Jvm.ClassFile.FieldType.object "com/example/permits_from_duties/permitsfromduties/Event$Transition")), Jvm.Cond.code ({ cls := "com/example/permits_from_duties/permitsfromduties/Event", name := "<init>", desc := "(Ljava/lang/String;Ljava/lang/String;Ljava/time/Instant;Lcom/example/permits_from_duties/permitsfromduties/Event$Transition;)V" } : Jvm.MethodName) prog_27_method_2_code (5 : Nat) (Option.none : Option Jvm.ClassFile.FieldType), Jvm.Cond.code ({ cls := "com/example/permits_from_duties/permitsfromduties/Event", name := "<init>", desc := "(Ljava/lang/String;Ljava/lang/String;Ljava/time/Instant;Lcom/example/permits_from_duties/permitsfromduties/Event$Transition;Ljava/lang/String;Ljava/util/Map;)V" } : Jvm.MethodName) prog_27_method_1_code (7 : Nat) (Option.none : Option Jvm.ClassFile.FieldType), Jvm.Cond.code ({ cls := "java/lang/Record", name := "<init>", desc := "()V" } : Jvm.MethodName) jdk_30_method_1_code (1 : Nat) (Option.none : Option Jvm.ClassFile.FieldType), Jvm.Cond.code ({ cls := "java/util/Objects", name := "requireNonNull", desc := "(Ljava/lang/Object;Ljava/lang/String;)Ljava/lang/Object;" } : Jvm.MethodName) jdk_31_method_11_code (2 : Nat) (Option.some (Jvm.ClassFile.FieldType.object "java/lang/Object")), Jvm.Cond.code ({ cls := "java/util/Map", name := "of", desc := "()Ljava/util/Map;" } : Jvm.MethodName) jdk_72_method_26_code (0 : Nat) (Option.some (Jvm.ClassFile.FieldType.object "java/util/Map")), Jvm.Cond.code ({ cls := "com/example/permits_from_duties/permitsfromduties/Event", name := "performer", desc := "()Ljava/lang/String;" } : Jvm.MethodName) prog_27_method_6_code (1 : Nat) (Option.some (Jvm.ClassFile.FieldType.object "java/lang/String")), Jvm.Cond.code ({ cls := "com/example/permits_from_duties/permitsfromduties/Event", name := "recordsWork", desc := "()Z" } : Jvm.MethodName) prog_27_method_5_code (1 : Nat) (Option.some Jvm.ClassFile.FieldType.boolean), Jvm.Cond.code ({ cls := "com/example/permits_from_duties/permitsfromduties/Event$Transition", name := "recordsWork", desc := "()Z" } : Jvm.MethodName) prog_28_method_5_code (1 : Nat) (Option.some Jvm.ClassFile.FieldType.boolean), Jvm.Cond.code ({ cls := "java/lang/String", name := "<init>", desc := "([C)V" } : Jvm.MethodName) jdk_42_method_3_code (2 : Nat) (Option.none : Option Jvm.ClassFile.FieldType), Jvm.Cond.code ({ cls := "java/lang/String", name := "<init>", desc := "([CIILjava/lang/Void;)V" } : Jvm.MethodName) jdk_42_method_149_code (6 : Nat) (Option.none : Option Jvm.ClassFile.FieldType), Jvm.Cond.code ({ cls := "java/lang/StringUTF16", name := "compress", desc := "([CII)[B" } : Jvm.MethodName) jdk_52_method_16_code (6 : Nat) (Option.some (Jvm.ClassFile.FieldType.array Jvm.ClassFile.FieldType.byte)), Jvm.Cond.code ({ cls := "java/lang/StringUTF16", name := "compress", desc := "([CI[BII)I" } : Jvm.MethodName) jdk_52_method_21_code (7 : Nat) (Option.some Jvm.ClassFile.FieldType.int), Jvm.Cond.code ({ cls := "java/lang/StringUTF16", name := "coderFromArrayLen", desc := "([BI)B" } : Jvm.MethodName) jdk_52_method_15_code (2 : Nat) (Option.some Jvm.ClassFile.FieldType.byte), Jvm.Cond.code ({ cls := "com/example/permits_from_duties/permitsfromduties/Event", name := "<init>", desc := "(Ljava/lang/String;Ljava/lang/String;)V" } : Jvm.MethodName) prog_27_method_4_code (3 : Nat) (Option.none : Option Jvm.ClassFile.FieldType), Jvm.Cond.code ({ cls := "com/example/permits_from_duties/permitsfromduties/Event", name := "<init>", desc := "(Ljava/lang/String;Ljava/lang/String;Ljava/time/Instant;)V" } : Jvm.MethodName) prog_27_method_3_code (4 : Nat) (Option.none : Option Jvm.ClassFile.FieldType)]
set_option maxRecDepth 65536 in
theorem codes_eq : words1.filter isCode = codes1 := rfl
theorem w_codes : ∀ c ∈ words1.filter isCode, c.before args0 about1 = true := by
  rw [codes_eq]
  intro c hc
  simp only [codes1, List.mem_cons, List.not_mem_nil, or_false] at hc
  rcases hc with rfl | rfl | rfl | rfl | rfl | rfl | rfl | rfl | rfl | rfl | rfl | rfl | rfl | rfl | rfl | rfl | rfl | rfl | rfl | rfl | rfl | rfl
  · exact w_c0
  · exact w_c1
  · exact w_c2
  · exact w_c3
  · exact w_c4
  · exact w_c5
  · exact w_c6
  · exact w_c7
  · exact w_c8
  · exact w_c9
  · exact w_c10
  · exact w_c11
  · exact w_c12
  · exact w_c13
  · exact w_c14
  · exact w_c15
  · exact w_c16
  · exact w_c17
  · exact w_c18
  · exact w_c19
  · exact w_c20
  · exact w_c21
set_option maxRecDepth 65536 in
theorem w_t1 : (words1.take 24).all (fun c => isCode c || c.before args0 about1) = true := by decide +kernel
set_option maxRecDepth 65536 in
theorem w_t2 : ((words1.drop 24).take 24).all (fun c => isCode c || c.before args0 about1) = true := by decide +kernel
set_option maxRecDepth 65536 in
theorem w_t3 : (((words1.drop 24).drop 24).take 24).all (fun c => isCode c || c.before args0 about1) = true := by decide +kernel
set_option maxRecDepth 65536 in
theorem w_t4 : ((((words1.drop 24).drop 24).drop 24).take 24).all (fun c => isCode c || c.before args0 about1) = true := by decide +kernel
set_option maxRecDepth 65536 in
theorem w_t5 : (((((words1.drop 24).drop 24).drop 24).drop 24).take 24).all (fun c => isCode c || c.before args0 about1) = true := by decide +kernel
set_option maxRecDepth 65536 in
theorem w_t6 : (((((words1.drop 24).drop 24).drop 24).drop 24).drop 24).all (fun c => isCode c || c.before args0 about1) = true := by decide +kernel
theorem w_tables : (allAtoms (Jvm.Cond.code x code maxLocals ret :: tables_1)).before args0 about1 = true := by
  rw [allAtoms_all]
  show words1.all (fun c => c.before args0 about1) = true
  refine all_split ?_ w_codes
  rw [← List.take_append_drop 24 words1, List.all_append, w_t1, ← List.take_append_drop 24 (words1.drop 24), List.all_append, w_t2, ← List.take_append_drop 24 ((words1.drop 24).drop 24), List.all_append, w_t3, ← List.take_append_drop 24 (((words1.drop 24).drop 24).drop 24), List.all_append, w_t4, ← List.take_append_drop 24 ((((words1.drop 24).drop 24).drop 24).drop 24), List.all_append, w_t5, w_t6]
  rfl
set_option maxRecDepth 65536 in
theorem w_rest : rest_1_c.before args0 about1 = true := by decide +kernel
set_option maxRecDepth 65536 in
theorem w_case : (Jvm.Cond.and given_1 narrow_1).before args0 about1 = true := by decide +kernel
theorem w_applies : (headSpec (Jvm.Cond.code x code maxLocals ret :: tables_1) room_1).applies x e0.platform about1 = true :=
  (Spec.applies_iff w_frames).mpr ⟨w_running, w_runnable, w_alone, w_named, w_hears, w_ripe, w_room, w_tables⟩
theorem atStart : AtStart classFile x code maxLocals ret World_1 tables_1 room_1 Calls_1 rest_1 Pre_1 launch0 p0 e0 about1 theMethod args0 below0 :=
  ⟨lists_1, trivial, launch0.admits_env _ _ _, launch0.least_env, fairChoices_fair.cas, fairChoices_fair.clock, w_frames, w_args, w_heap, w_applies, trivial, w_rest, w_case⟩
end start1
theorem witness_1 : WitnessClaimed_1 := ⟨start1.p0, start1.e0, start1.about1, start1.theMethod, start1.args0, start1.below0, start1.atStart⟩
end Jvm.Pilot.@@N@@
