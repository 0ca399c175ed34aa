import JvmDerived
import JvmDerived.Pilot.@@N@@Statement
import JvmDerived.Pilot.@@N@@Code
set_option linter.unusedVariables false
set_option linter.unusedSimpArgs false
@@BLOCK:NumsL.lean.txt@@
namespace Jvm.Pilot.@@N@@
open Jvm Jvm.ClassFile Sem Op Lib Jvm.Free Jvm.Stand Jvm.LawKit Jvm.RoadKit Bundle Jvm.Pilot.@@N@@.Jvm.D
section Own
variable {p : Program} {l : Launch} {e : Env} {R : Room} {s : State} {m : MethodId} {args : Array Value} {below : List Frame} {meth : Method} {c : Code} {T : State} {locs : List Loc} {cells slots : Nat}
def Go (p : Program) (e : Env) (below : List Frame) (F : State → Outcome → Prop) (t : State) : Prop := ∃ s₂ o, Steps p.tables e below t s₂ ∧ F s₂ o
theorem Go.via {F : State → Outcome → Prop} {a b : State} (h : ∀ t, Steps p.tables e below b t → Steps p.tables e below a t) (g : Go p e below F b) : Go p e below F a := by
  obtain ⟨s₂, o, k, f⟩ := g
  exact ⟨s₂, o, h _ k, f⟩
theorem Go.tr {F : State → Outcome → Prop} {a b : State} (h : Steps p.tables e below a b) (g : Go p e below F b) : Go p e below F a := by
  obtain ⟨s₂, o, k, f⟩ := g
  exact ⟨s₂, o, h.trans k, f⟩
def FinE (s : State) (below : List Frame) (Q : Option Value → Heap → List Loc → Prop) (C S : Nat) (s₂ : State) (o : Outcome) : Prop := s₂.status = .running ∧ Ended s₂ below o ∧ ∃ v L, o = .returned v ∧ Q v s₂.heap L ∧ FrameEnd s o s₂ L C S
variable {Q : Option Value → Heap → List Loc → Prop} {C S : Nat}
theorem own_retN (X : Stand p l e R s m args below meth c T locs cells slots) (hx : p.tables.exec = Jvm.exec) (hlk : meth.locks = false) {pc : Nat} {Ls : Array Slot} {z : Int32} {t : FieldType} {rest : List Value} (hret : meth.sig.returnType = some t) (ht : t = .boolean ∨ t = .byte ∨ t = .char ∨ t = .short)
    (hd : decode c.code pc = .ok (.ireturn, 1)) (hQ : Q (some (.int (nar t z))) T.heap locs) (hc : cells ≤ C) (hs : slots ≤ S) : Go p e below (FinE s below Q C S) (T.setTop (mkF m pc Ls (.int z :: rest))) := by
  obtain ⟨fs, hr, hrun, hended, hW, hsame⟩ := X.leave (v := some (.int (nar t z))) (fun h => by rw [hret] at h; cases h) hlk
  exact ⟨_, _, retN X hx hret ht hd hr, hrun, hended, _, _, rfl, hQ, ⟨_, rfl⟩, hW, hsame.mono hc hs⟩
theorem own_retI (X : Stand p l e R s m args below meth c T locs cells slots) (hx : p.tables.exec = Jvm.exec) (hlk : meth.locks = false) {pc : Nat} {Ls : Array Slot} {z : Int32} {rest : List Value} (hret : meth.sig.returnType = some .int)
    (hd : decode c.code pc = .ok (.ireturn, 1)) (hQ : Q (some (.int z)) T.heap locs) (hc : cells ≤ C) (hs : slots ≤ S) : Go p e below (FinE s below Q C S) (T.setTop (mkF m pc Ls (.int z :: rest))) := by
  obtain ⟨fs, hr, hrun, hended, hW, hsame⟩ := X.leave (v := some (.int z)) (fun h => by rw [hret] at h; cases h) hlk
  refine ⟨T.setFrames fs, _, ?_, hrun, hended, _, _, rfl, hQ, ⟨_, rfl⟩, hW, hsame.mono hc hs⟩
  have hm' : T.vm.method? m = some meth := X.method'
  have hn : narrow .int (.int z) = .int z := rfl
  show Steps p.tables e below (T.setTop { method := m, pc := pc, locals := Ls, stack := _ :: rest, locked := none }) _
  jvm_step X.here [X.here.top, hx, hd, hm', hret, hn]
  first | (intro acts; rw [hr _ acts rfl rfl rfl]) | rw [hr _ _ rfl rfl rfl]
  exact Steps.refl _
theorem own_retA (X : Stand p l e R s m args below meth c T locs cells slots) (hx : p.tables.exec = Jvm.exec) (hlk : meth.locks = false) {pc : Nat} {Ls : Array Slot} {v : Value} {rest : List Value} {t : FieldType} (hret : meth.sig.returnType = some t) (ht : t.isReference = true) (hv : v.isRef = true)
    (hd : decode c.code pc = .ok (.areturn, 1)) (hQ : Q (some v) T.heap locs) (hc : cells ≤ C) (hs : slots ≤ S) : Go p e below (FinE s below Q C S) (T.setTop (mkF m pc Ls (v :: rest))) := by
  obtain ⟨fs, hr, hrun, hended, hW, hsame⟩ := X.leave (v := some v) (fun h => by rw [hret] at h; cases h) hlk
  refine ⟨T.setFrames fs, _, ?_, hrun, hended, _, _, rfl, hQ, ⟨_, rfl⟩, hW, hsame.mono hc hs⟩
  have hm' : T.vm.method? m = some meth := X.method'
  show Steps p.tables e below (T.setTop { method := m, pc := pc, locals := Ls, stack := _ :: rest, locked := none }) _
  jvm_step X.here [X.here.top, hx, hd, hm', hret, hv, ht]
  first | (intro acts; rw [hr _ acts rfl rfl rfl]) | rw [hr _ _ rfl rfl rfl]
  exact Steps.refl _
theorem own_retV (X : Stand p l e R s m args below meth c T locs cells slots) (hx : p.tables.exec = Jvm.exec) (hlk : meth.locks = false) {pc : Nat} {Ls : Array Slot} (hret : meth.sig.returnType = none)
    (hd : decode c.code pc = .ok (.return_, 1)) (hQ : Q none T.heap locs) (hc : cells ≤ C) (hs : slots ≤ S) : Go p e below (FinE s below Q C S) (T.setTop (mkF m pc Ls [])) := by
  obtain ⟨fs, hr, hrun, hended, hW, hsame⟩ := X.leave (v := none) (fun _ => rfl) hlk
  exact ⟨T.setFrames fs, _, X.returnOut hx hret hd hr, hrun, hended, _, _, rfl, hQ, ⟨_, rfl⟩, hW, hsame.mono hc hs⟩
def FinW (s : State) (below : List Frame) (Q : Option Value → Heap → List Loc → Prop) (C S : Nat) (s₂ : State) (o : Outcome) : Prop := s₂.status = .running ∧ Ended s₂ below o ∧ ∃ v L, o = .returned v ∧ Q v s₂.heap L ∧ ReturnedEndW s o s₂ L C S
theorem own_mono {s t : State} {o : Outcome} {L : List Loc} {k n k' n' : Nat} (h : ReturnedEndW s o t L k n) (hk : k ≤ k') (hn : n ≤ n') : ReturnedEndW s o t L k' n' := ⟨h.1, h.2.1, h.2.2.1, h.2.2.2.mono hk hn⟩
theorem own_retNW {vm₁ : Vm} {kk : Nat} (X : Stand p l e R (s.setVm vm₁) m args below meth c T locs cells slots) (hS : s.Since vm₁ kk) (hk : kk ≤ T.heap.size) (hx : p.tables.exec = Jvm.exec) (hlk : meth.locks = false) {pc : Nat} {Ls : Array Slot} {z : Int32} {t : FieldType} {rest : List Value} (hret : meth.sig.returnType = some t) (ht : t = .boolean ∨ t = .byte ∨ t = .char ∨ t = .short)
    (hd : decode c.code pc = .ok (.ireturn, 1)) (hQ : Q (some (.int (nar t z))) T.heap locs) (hc : cells ≤ C) (hs : slots ≤ S) : Go p e below (FinW s below Q C S) (T.setTop (mkF m pc Ls (.int z :: rest))) := by
  obtain ⟨fs, hr, hrun, hended, hW⟩ := X.leaveW hS hk (v := some (.int (nar t z))) (fun h => by rw [hret] at h; cases h) hlk
  exact ⟨_, _, retN X hx hret ht hd hr, hrun, hended, _, _, rfl, hQ, own_mono hW hc hs⟩
theorem own_retAW {vm₁ : Vm} {kk : Nat} (X : Stand p l e R (s.setVm vm₁) m args below meth c T locs cells slots) (hS : s.Since vm₁ kk) (hk : kk ≤ T.heap.size) (hx : p.tables.exec = Jvm.exec) (hlk : meth.locks = false) {pc : Nat} {Ls : Array Slot} {v : Value} {rest : List Value} {t : FieldType} (hret : meth.sig.returnType = some t) (ht : t.isReference = true) (hv : v.isRef = true)
    (hd : decode c.code pc = .ok (.areturn, 1)) (hQ : Q (some v) T.heap locs) (hc : cells ≤ C) (hs : slots ≤ S) : Go p e below (FinW s below Q C S) (T.setTop (mkF m pc Ls (v :: rest))) := by
  obtain ⟨fs, hr, hrun, hended, hW⟩ := X.leaveW hS hk (v := some v) (fun h => by rw [hret] at h; cases h) hlk
  refine ⟨T.setFrames fs, _, ?_, hrun, hended, _, _, rfl, hQ, own_mono hW hc hs⟩
  have hm' : T.vm.method? m = some meth := X.method'
  show Steps p.tables e below (T.setTop { method := m, pc := pc, locals := Ls, stack := _ :: rest, locked := none }) _
  jvm_step X.here [X.here.top, hx, hd, hm', hret, hv, ht]
  first | (intro acts; rw [hr _ acts rfl rfl rfl]) | rw [hr _ _ rfl rfl rfl]
  exact Steps.refl _
theorem own_retVW {vm₁ : Vm} {kk : Nat} (X : Stand p l e R (s.setVm vm₁) m args below meth c T locs cells slots) (hS : s.Since vm₁ kk) (hk : kk ≤ T.heap.size) (hx : p.tables.exec = Jvm.exec) (hlk : meth.locks = false) {pc : Nat} {Ls : Array Slot} (hret : meth.sig.returnType = none)
    (hd : decode c.code pc = .ok (.return_, 1)) (hQ : Q none T.heap locs) (hc : cells ≤ C) (hs : slots ≤ S) : Go p e below (FinW s below Q C S) (T.setTop (mkF m pc Ls [])) := by
  obtain ⟨fs, hr, hrun, hended, hW⟩ := X.leaveW hS hk (v := none) (fun _ => rfl) hlk
  exact ⟨T.setFrames fs, _, X.returnOut hx hret hd hr, hrun, hended, _, _, rfl, hQ, own_mono hW hc hs⟩
theorem own_cat {v : Value} (h : v.isRef = true) : v.category = 1 := by cases v <;> simp_all [Value.isRef, Value.category]
end Own
theorem d2_0 : decode method_4_code 0 = .ok (.iload_n 1, 1) := by decide +kernel
theorem d2_1 : decode method_4_code 1 = .ok (.bipush 8, 2) := by decide +kernel
theorem d2_3 : decode method_4_code 3 = .ok (.iload_n 0, 1) := by decide +kernel
theorem d2_4 : decode method_4_code 4 = .ok (.imul, 1) := by decide +kernel
theorem d2_5 : decode method_4_code 5 = .ok (.iushr, 1) := by decide +kernel
theorem d2_6 : decode method_4_code 6 = .ok (.i2b, 1) := by decide +kernel
theorem d2_7 : decode method_4_code 7 = .ok (.ireturn, 1) := by decide +kernel
theorem pn_com_example_sluice_sluice_processor_FlowFileCopyContentPinLaw : plainName "com/example/sluice/sluice/processor/FlowFileCopyContentPinLaw" = true := by first | (simp [plainName, overriddenIn]; done) | decide +kernel
theorem d8_0 : decode method_3_code 0 = .ok (.iload_n 0, 1) := by decide +kernel
theorem d8_1 : decode method_3_code 1 = .ok (.iconst 4, 1) := by decide +kernel
theorem d8_2 : decode method_3_code 2 = .ok (.if_icmp .ge 11, 3) := by decide +kernel
theorem d8_5 : decode method_3_code 5 = .ok (.iload_n 1, 1) := by decide +kernel
theorem d8_6 : decode method_3_code 6 = .ok (.bipush 8, 2) := by decide +kernel
theorem d8_8 : decode method_3_code 8 = .ok (.iload_n 0, 1) := by decide +kernel
theorem d8_9 : decode method_3_code 9 = .ok (.imul, 1) := by decide +kernel
theorem d8_10 : decode method_3_code 10 = .ok (.iushr, 1) := by decide +kernel
theorem d8_11 : decode method_3_code 11 = .ok (.i2b, 1) := by decide +kernel
theorem d8_12 : decode method_3_code 12 = .ok (.ireturn, 1) := by decide +kernel
theorem d8_13 : decode method_3_code 13 = .ok (.iload_n 2, 1) := by decide +kernel
theorem d8_14 : decode method_3_code 14 = .ok (.bipush 8, 2) := by decide +kernel
theorem d8_16 : decode method_3_code 16 = .ok (.iload_n 0, 1) := by decide +kernel
theorem d8_17 : decode method_3_code 17 = .ok (.iconst 4, 1) := by decide +kernel
theorem d8_18 : decode method_3_code 18 = .ok (.isub, 1) := by decide +kernel
theorem d8_19 : decode method_3_code 19 = .ok (.imul, 1) := by decide +kernel
theorem d8_20 : decode method_3_code 20 = .ok (.iushr, 1) := by decide +kernel
theorem d8_21 : decode method_3_code 21 = .ok (.i2b, 1) := by decide +kernel
theorem d8_22 : decode method_3_code 22 = .ok (.ireturn, 1) := by decide +kernel
theorem d11_0 : decode method_5_code 0 = .ok (.iload_n 0, 1) := by decide +kernel
theorem d11_1 : decode method_5_code 1 = .ok (.iload_n 1, 1) := by decide +kernel
theorem d11_2 : decode method_5_code 2 = .ok (.if_icmp .lt 18, 3) := by decide +kernel
theorem d11_20 : decode method_5_code 20 = .ok (.iload_n 0, 1) := by decide +kernel
theorem d11_21 : decode method_5_code 21 = .ok (.iload 4, 2) := by decide +kernel
theorem d11_23 : decode method_5_code 23 = .ok (.iload 5, 2) := by decide +kernel
theorem d11_25 : decode method_5_code 25 = .ok (.invokestatic 25, 3) := by decide +kernel
theorem pd_0 : parseMethodDescriptor "(III)B" = some ⟨[.int, .int, .int], some .byte⟩ := by decide +kernel
theorem d11_28 : decode method_5_code 28 = .ok (.ireturn, 1) := by decide +kernel
theorem d11_5 : decode method_5_code 5 = .ok (.iload_n 0, 1) := by decide +kernel
theorem d11_6 : decode method_5_code 6 = .ok (.iload_n 1, 1) := by decide +kernel
theorem d11_7 : decode method_5_code 7 = .ok (.isub, 1) := by decide +kernel
theorem d11_8 : decode method_5_code 8 = .ok (.iload_n 2, 1) := by decide +kernel
theorem d11_9 : decode method_5_code 9 = .ok (.if_icmp .ge 11, 3) := by decide +kernel
theorem d11_12 : decode method_5_code 12 = .ok (.iload_n 0, 1) := by decide +kernel
theorem d11_13 : decode method_5_code 13 = .ok (.iload_n 1, 1) := by decide +kernel
theorem d11_14 : decode method_5_code 14 = .ok (.isub, 1) := by decide +kernel
theorem d11_15 : decode method_5_code 15 = .ok (.iload_n 3, 1) := by decide +kernel
theorem d11_16 : decode method_5_code 16 = .ok (.invokestatic 41, 3) := by decide +kernel
theorem pd_1 : parseMethodDescriptor "(II)B" = some ⟨[.int, .int], some .byte⟩ := by decide +kernel
theorem d11_19 : decode method_5_code 19 = .ok (.ireturn, 1) := by decide +kernel
theorem d1_0 : decode method_6_code 0 = .ok (.iload_n 0, 1) := by decide +kernel
theorem d1_1 : decode method_6_code 1 = .ok (.ifCond .ne 7, 3) := by decide +kernel
theorem d1_4 : decode method_6_code 4 = .ok (.iconst 0, 1) := by decide +kernel
theorem d1_5 : decode method_6_code 5 = .ok (.newarray .byte, 2) := by decide +kernel
theorem d1_7 : decode method_6_code 7 = .ok (.areturn, 1) := by decide +kernel
theorem d1_8 : decode method_6_code 8 = .ok (.iload_n 0, 1) := by decide +kernel
theorem d1_9 : decode method_6_code 9 = .ok (.iconst 1, 1) := by decide +kernel
theorem d1_10 : decode method_6_code 10 = .ok (.if_icmp .ne 15, 3) := by decide +kernel
theorem d1_13 : decode method_6_code 13 = .ok (.iconst 1, 1) := by decide +kernel
theorem d1_14 : decode method_6_code 14 = .ok (.newarray .byte, 2) := by decide +kernel
theorem d1_16 : decode method_6_code 16 = .ok (.dup, 1) := by decide +kernel
theorem d1_17 : decode method_6_code 17 = .ok (.iconst 0, 1) := by decide +kernel
theorem d1_18 : decode method_6_code 18 = .ok (.iconst 0, 1) := by decide +kernel
theorem d1_19 : decode method_6_code 19 = .ok (.iload_n 1, 1) := by decide +kernel
theorem d1_20 : decode method_6_code 20 = .ok (.invokestatic 41, 3) := by decide +kernel
theorem d1_23 : decode method_6_code 23 = .ok (.bastore, 1) := by decide +kernel
theorem d1_24 : decode method_6_code 24 = .ok (.areturn, 1) := by decide +kernel
theorem d1_25 : decode method_6_code 25 = .ok (.iload_n 0, 1) := by decide +kernel
theorem d1_26 : decode method_6_code 26 = .ok (.iconst 2, 1) := by decide +kernel
theorem d1_27 : decode method_6_code 27 = .ok (.if_icmp .ne 23, 3) := by decide +kernel
theorem d1_30 : decode method_6_code 30 = .ok (.iconst 2, 1) := by decide +kernel
theorem d1_31 : decode method_6_code 31 = .ok (.newarray .byte, 2) := by decide +kernel
theorem d1_33 : decode method_6_code 33 = .ok (.dup, 1) := by decide +kernel
theorem d1_34 : decode method_6_code 34 = .ok (.iconst 0, 1) := by decide +kernel
theorem d1_35 : decode method_6_code 35 = .ok (.iconst 0, 1) := by decide +kernel
theorem d1_36 : decode method_6_code 36 = .ok (.iload_n 1, 1) := by decide +kernel
theorem d1_37 : decode method_6_code 37 = .ok (.invokestatic 41, 3) := by decide +kernel
theorem d1_40 : decode method_6_code 40 = .ok (.bastore, 1) := by decide +kernel
theorem d1_41 : decode method_6_code 41 = .ok (.dup, 1) := by decide +kernel
theorem d1_42 : decode method_6_code 42 = .ok (.iconst 1, 1) := by decide +kernel
theorem d1_43 : decode method_6_code 43 = .ok (.iconst 1, 1) := by decide +kernel
theorem d1_44 : decode method_6_code 44 = .ok (.iload_n 1, 1) := by decide +kernel
theorem d1_45 : decode method_6_code 45 = .ok (.invokestatic 41, 3) := by decide +kernel
theorem d1_48 : decode method_6_code 48 = .ok (.bastore, 1) := by decide +kernel
theorem d1_49 : decode method_6_code 49 = .ok (.areturn, 1) := by decide +kernel
theorem d1_50 : decode method_6_code 50 = .ok (.iload_n 0, 1) := by decide +kernel
theorem d1_51 : decode method_6_code 51 = .ok (.iconst 3, 1) := by decide +kernel
theorem d1_52 : decode method_6_code 52 = .ok (.if_icmp .ne 31, 3) := by decide +kernel
theorem d1_55 : decode method_6_code 55 = .ok (.iconst 3, 1) := by decide +kernel
theorem d1_56 : decode method_6_code 56 = .ok (.newarray .byte, 2) := by decide +kernel
theorem d1_58 : decode method_6_code 58 = .ok (.dup, 1) := by decide +kernel
theorem d1_59 : decode method_6_code 59 = .ok (.iconst 0, 1) := by decide +kernel
theorem d1_60 : decode method_6_code 60 = .ok (.iconst 0, 1) := by decide +kernel
theorem d1_61 : decode method_6_code 61 = .ok (.iload_n 1, 1) := by decide +kernel
theorem d1_62 : decode method_6_code 62 = .ok (.invokestatic 41, 3) := by decide +kernel
theorem d1_65 : decode method_6_code 65 = .ok (.bastore, 1) := by decide +kernel
theorem d1_66 : decode method_6_code 66 = .ok (.dup, 1) := by decide +kernel
theorem d1_67 : decode method_6_code 67 = .ok (.iconst 1, 1) := by decide +kernel
theorem d1_68 : decode method_6_code 68 = .ok (.iconst 1, 1) := by decide +kernel
theorem d1_69 : decode method_6_code 69 = .ok (.iload_n 1, 1) := by decide +kernel
theorem d1_70 : decode method_6_code 70 = .ok (.invokestatic 41, 3) := by decide +kernel
theorem d1_73 : decode method_6_code 73 = .ok (.bastore, 1) := by decide +kernel
theorem d1_74 : decode method_6_code 74 = .ok (.dup, 1) := by decide +kernel
theorem d1_75 : decode method_6_code 75 = .ok (.iconst 2, 1) := by decide +kernel
theorem d1_76 : decode method_6_code 76 = .ok (.iconst 2, 1) := by decide +kernel
theorem d1_77 : decode method_6_code 77 = .ok (.iload_n 1, 1) := by decide +kernel
theorem d1_78 : decode method_6_code 78 = .ok (.invokestatic 41, 3) := by decide +kernel
theorem d1_81 : decode method_6_code 81 = .ok (.bastore, 1) := by decide +kernel
theorem d1_82 : decode method_6_code 82 = .ok (.areturn, 1) := by decide +kernel
theorem d1_83 : decode method_6_code 83 = .ok (.iconst 4, 1) := by decide +kernel
theorem d1_84 : decode method_6_code 84 = .ok (.newarray .byte, 2) := by decide +kernel
theorem d1_86 : decode method_6_code 86 = .ok (.dup, 1) := by decide +kernel
theorem d1_87 : decode method_6_code 87 = .ok (.iconst 0, 1) := by decide +kernel
theorem d1_88 : decode method_6_code 88 = .ok (.iconst 0, 1) := by decide +kernel
theorem d1_89 : decode method_6_code 89 = .ok (.iload_n 1, 1) := by decide +kernel
theorem d1_90 : decode method_6_code 90 = .ok (.invokestatic 41, 3) := by decide +kernel
theorem d1_93 : decode method_6_code 93 = .ok (.bastore, 1) := by decide +kernel
theorem d1_94 : decode method_6_code 94 = .ok (.dup, 1) := by decide +kernel
theorem d1_95 : decode method_6_code 95 = .ok (.iconst 1, 1) := by decide +kernel
theorem d1_96 : decode method_6_code 96 = .ok (.iconst 1, 1) := by decide +kernel
theorem d1_97 : decode method_6_code 97 = .ok (.iload_n 1, 1) := by decide +kernel
theorem d1_98 : decode method_6_code 98 = .ok (.invokestatic 41, 3) := by decide +kernel
theorem d1_101 : decode method_6_code 101 = .ok (.bastore, 1) := by decide +kernel
theorem d1_102 : decode method_6_code 102 = .ok (.dup, 1) := by decide +kernel
theorem d1_103 : decode method_6_code 103 = .ok (.iconst 2, 1) := by decide +kernel
theorem d1_104 : decode method_6_code 104 = .ok (.iconst 2, 1) := by decide +kernel
theorem d1_105 : decode method_6_code 105 = .ok (.iload_n 1, 1) := by decide +kernel
theorem d1_106 : decode method_6_code 106 = .ok (.invokestatic 41, 3) := by decide +kernel
theorem d1_109 : decode method_6_code 109 = .ok (.bastore, 1) := by decide +kernel
theorem d1_110 : decode method_6_code 110 = .ok (.dup, 1) := by decide +kernel
theorem d1_111 : decode method_6_code 111 = .ok (.iconst 3, 1) := by decide +kernel
theorem d1_112 : decode method_6_code 112 = .ok (.iconst 3, 1) := by decide +kernel
theorem d1_113 : decode method_6_code 113 = .ok (.iload_n 1, 1) := by decide +kernel
theorem d1_114 : decode method_6_code 114 = .ok (.invokestatic 41, 3) := by decide +kernel
theorem d1_117 : decode method_6_code 117 = .ok (.bastore, 1) := by decide +kernel
theorem d1_118 : decode method_6_code 118 = .ok (.areturn, 1) := by decide +kernel
theorem d3_0 : decode jdk_72_method_26_code 0 = .ok (.getstatic 81, 3) := by decide +kernel
theorem d3_3 : decode jdk_72_method_26_code 3 = .ok (.areturn, 1) := by decide +kernel
theorem pn_java_util_Map : plainName "java/util/Map" = true := by first | (simp [plainName, overriddenIn]; done) | decide +kernel
theorem d5_0 : decode jdk_72_method_39_code 0 = .ok (.aload_n 0, 1) := by decide +kernel
theorem d5_1 : decode jdk_72_method_39_code 1 = .ok (.instanceof 101, 3) := by decide +kernel
theorem d5_4 : decode jdk_72_method_39_code 4 = .ok (.ifCond .eq 5, 3) := by decide +kernel
theorem d5_7 : decode jdk_72_method_39_code 7 = .ok (.aload_n 0, 1) := by decide +kernel
theorem d5_8 : decode jdk_72_method_39_code 8 = .ok (.areturn, 1) := by decide +kernel
theorem d6_0 : decode prog_30_method_3_code 0 = .ok (.aload_n 0, 1) := by decide +kernel
theorem d6_1 : decode prog_30_method_3_code 1 = .ok (.invokespecial 27, 3) := by decide +kernel
theorem d6_4 : decode prog_30_method_3_code 4 = .ok (.aload_n 0, 1) := by decide +kernel
theorem d6_5 : decode prog_30_method_3_code 5 = .ok (.aload_n 2, 1) := by decide +kernel
theorem d6_6 : decode prog_30_method_3_code 6 = .ok (.putfield 32, 3) := by decide +kernel
theorem d6_9 : decode prog_30_method_3_code 9 = .ok (.aload_n 0, 1) := by decide +kernel
theorem d6_10 : decode prog_30_method_3_code 10 = .ok (.aload_n 1, 1) := by decide +kernel
theorem d6_11 : decode prog_30_method_3_code 11 = .ok (.putfield 36, 3) := by decide +kernel
theorem d6_14 : decode prog_30_method_3_code 14 = .ok (.return_, 1) := by decide +kernel
theorem pn_com_example_sluice_sluice_processor_FlowFile : plainName "com/example/sluice/sluice/processor/FlowFile" = true := by first | (simp [plainName, overriddenIn]; done) | decide +kernel
theorem d4_0 : decode prog_30_method_1_code 0 = .ok (.aload_n 0, 1) := by decide +kernel
theorem d4_1 : decode prog_30_method_1_code 1 = .ok (.aload_n 2, 1) := by decide +kernel
theorem d4_2 : decode prog_30_method_1_code 2 = .ok (.invokevirtual 3, 3) := by decide +kernel
theorem d4_5 : decode prog_30_method_1_code 5 = .ok (.checkcast 4, 3) := by decide +kernel
theorem d4_8 : decode prog_30_method_1_code 8 = .ok (.aload_n 1, 1) := by decide +kernel
theorem d4_9 : decode prog_30_method_1_code 9 = .ok (.invokestatic 9, 3) := by decide +kernel
theorem pd_2 : parseMethodDescriptor "(Ljava/util/Map;)Ljava/util/Map;" = some ⟨[(.object "java/util/Map")], some (.object "java/util/Map")⟩ := by decide +kernel
theorem d4_12 : decode prog_30_method_1_code 12 = .ok (.invokespecial 15, 3) := by decide +kernel
theorem pd_3 : parseMethodDescriptor "([BLjava/util/Map;)V" = some ⟨[(.array .byte), (.object "java/util/Map")], none⟩ := by decide +kernel
theorem d4_15 : decode prog_30_method_1_code 15 = .ok (.return_, 1) := by decide +kernel
theorem d9_0 : decode prog_30_method_10_code 0 = .ok (.aload_n 0, 1) := by decide +kernel
theorem d9_1 : decode prog_30_method_10_code 1 = .ok (.getfield 36, 3) := by decide +kernel
theorem d9_4 : decode prog_30_method_10_code 4 = .ok (.iconst 0, 1) := by decide +kernel
theorem d9_5 : decode prog_30_method_10_code 5 = .ok (.aload_n 1, 1) := by decide +kernel
theorem d9_6 : decode prog_30_method_10_code 6 = .ok (.iload_n 2, 1) := by decide +kernel
theorem d9_7 : decode prog_30_method_10_code 7 = .ok (.aload_n 0, 1) := by decide +kernel
theorem d9_8 : decode prog_30_method_10_code 8 = .ok (.getfield 36, 3) := by decide +kernel
theorem d9_11 : decode prog_30_method_10_code 11 = .ok (.arraylength, 1) := by decide +kernel
theorem d9_12 : decode prog_30_method_10_code 12 = .ok (.invokestatic 84, 3) := by decide +kernel
theorem d9_15 : decode prog_30_method_10_code 15 = .ok (.return_, 1) := by decide +kernel
theorem d10_0 : decode prog_30_method_11_code 0 = .ok (.aload_n 0, 1) := by decide +kernel
theorem d10_1 : decode prog_30_method_11_code 1 = .ok (.getfield 36, 3) := by decide +kernel
theorem d10_4 : decode prog_30_method_11_code 4 = .ok (.arraylength, 1) := by decide +kernel
theorem d10_5 : decode prog_30_method_11_code 5 = .ok (.ireturn, 1) := by decide +kernel
theorem pd_4 : parseMethodDescriptor "(II)[B" = some ⟨[.int, .int], some (.array .byte)⟩ := by decide +kernel
theorem pd_5 : parseMethodDescriptor "()Ljava/util/Map;" = some ⟨[], some (.object "java/util/Map")⟩ := by decide +kernel
theorem pd_6 : parseMethodDescriptor "(Ljava/util/Map;[B)V" = some ⟨[(.object "java/util/Map"), (.array .byte)], none⟩ := by decide +kernel
theorem pd_7 : parseMethodDescriptor "([BI)V" = some ⟨[(.array .byte), .int], none⟩ := by decide +kernel
theorem pd_8 : parseMethodDescriptor "()I" = some ⟨[], some .int⟩ := by decide +kernel
theorem pd_9 : parseMethodDescriptor "(IIIIII)B" = some ⟨[.int, .int, .int, .int, .int, .int], some .byte⟩ := by decide +kernel
def cbF (k w : Int32) : Int32 := nar .byte (((w.toUInt32 >>> (((8 : Int32) * k) &&& 31).toUInt32).toInt32).toInt8.toInt32)
def dbF (k dw dx : Int32) : Int32 := if k < (4 : Int32) then cbF k dw else cbF (k - (4 : Int32)) dx
def exF (i off n cw dw dx : Int32) : Int32 := if ¬ (i < off) ∧ (i - off) < n then nar .byte (cbF (i - off) cw) else nar .byte (dbF i dw dx)
theorem own_mix0 (cw dw dx off : Int32) (h : off = (0 : Int32) ∨ off = (1 : Int32) ∨ off = (2 : Int32) ∨ off = (3 : Int32) ∨ off = (4 : Int32) ∨ off = (5 : Int32) ∨ off = (6 : Int32) ∨ off = (7 : Int32) ∨ off = (8 : Int32)) : (([(.int (nar .byte (dbF (0 : Int32) dw dx))), (.int (nar .byte (dbF (1 : Int32) dw dx))), (.int (nar .byte (dbF (2 : Int32) dw dx))), (.int (nar .byte (dbF (3 : Int32) dw dx))), (.int (nar .byte (dbF (4 : Int32) dw dx))), (.int (nar .byte (dbF (5 : Int32) dw dx))), (.int (nar .byte (dbF (6 : Int32) dw dx))), (.int (nar .byte (dbF (7 : Int32) dw dx)))] : List Value).take off.toNatClampNeg ++ (List.range (0 : Int32).toNatClampNeg).map (fun i => ([] : List Value).getD ((0 : Int32).toNatClampNeg + i) (.int (0 : Int32))) ++ ([(.int (nar .byte (dbF (0 : Int32) dw dx))), (.int (nar .byte (dbF (1 : Int32) dw dx))), (.int (nar .byte (dbF (2 : Int32) dw dx))), (.int (nar .byte (dbF (3 : Int32) dw dx))), (.int (nar .byte (dbF (4 : Int32) dw dx))), (.int (nar .byte (dbF (5 : Int32) dw dx))), (.int (nar .byte (dbF (6 : Int32) dw dx))), (.int (nar .byte (dbF (7 : Int32) dw dx)))] : List Value).drop (off.toNatClampNeg + (0 : Int32).toNatClampNeg)) = [(.int (exF (0 : Int32) off (0 : Int32) cw dw dx)), (.int (exF (1 : Int32) off (0 : Int32) cw dw dx)), (.int (exF (2 : Int32) off (0 : Int32) cw dw dx)), (.int (exF (3 : Int32) off (0 : Int32) cw dw dx)), (.int (exF (4 : Int32) off (0 : Int32) cw dw dx)), (.int (exF (5 : Int32) off (0 : Int32) cw dw dx)), (.int (exF (6 : Int32) off (0 : Int32) cw dw dx)), (.int (exF (7 : Int32) off (0 : Int32) cw dw dx))] := by
  rcases h with rfl | rfl | rfl | rfl | rfl | rfl | rfl | rfl | rfl <;> rfl
theorem own_off0 (p : Int32) : (p &&& (2147483647 : Int32)) % (9 : Int32) = (0 : Int32) ∨ (p &&& (2147483647 : Int32)) % (9 : Int32) = (1 : Int32) ∨ (p &&& (2147483647 : Int32)) % (9 : Int32) = (2 : Int32) ∨ (p &&& (2147483647 : Int32)) % (9 : Int32) = (3 : Int32) ∨ (p &&& (2147483647 : Int32)) % (9 : Int32) = (4 : Int32) ∨ (p &&& (2147483647 : Int32)) % (9 : Int32) = (5 : Int32) ∨ (p &&& (2147483647 : Int32)) % (9 : Int32) = (6 : Int32) ∨ (p &&& (2147483647 : Int32)) % (9 : Int32) = (7 : Int32) ∨ (p &&& (2147483647 : Int32)) % (9 : Int32) = (8 : Int32) := by
  have h0 : 0 ≤ (p &&& (2147483647 : Int32)).toInt := by
    rw [Jvm.Kit.i32_mask p (2147483647 : Int32) (k := 31) (by decide) (by decide)]
    omega
  have h := Jvm.Kit.i32_rem_nonneg (y := (9 : Int32)) h0
  rw [show ((9 : Int32)).toInt = 9 from by decide] at h
  have e : (0 : Int32).toInt = 0 ∧ (1 : Int32).toInt = 1 ∧ (2 : Int32).toInt = 2 ∧ (3 : Int32).toInt = 3 ∧ (4 : Int32).toInt = 4 ∧ (5 : Int32).toInt = 5 ∧ (6 : Int32).toInt = 6 ∧ (7 : Int32).toInt = 7 ∧ (8 : Int32).toInt = 8 ∧ (9 : Int32).toInt = 9 := by decide
  simp only [← Int32.toInt_inj]
  omega
theorem own_mix1 (cw dw dx off : Int32) (h : off = (0 : Int32) ∨ off = (1 : Int32) ∨ off = (2 : Int32) ∨ off = (3 : Int32) ∨ off = (4 : Int32) ∨ off = (5 : Int32) ∨ off = (6 : Int32) ∨ off = (7 : Int32)) : (([(.int (nar .byte (dbF (0 : Int32) dw dx))), (.int (nar .byte (dbF (1 : Int32) dw dx))), (.int (nar .byte (dbF (2 : Int32) dw dx))), (.int (nar .byte (dbF (3 : Int32) dw dx))), (.int (nar .byte (dbF (4 : Int32) dw dx))), (.int (nar .byte (dbF (5 : Int32) dw dx))), (.int (nar .byte (dbF (6 : Int32) dw dx))), (.int (nar .byte (dbF (7 : Int32) dw dx)))] : List Value).take off.toNatClampNeg ++ (List.range (1 : Int32).toNatClampNeg).map (fun i => ([(.int (nar .byte (cbF (0 : Int32) cw)))] : List Value).getD ((0 : Int32).toNatClampNeg + i) (.int (0 : Int32))) ++ ([(.int (nar .byte (dbF (0 : Int32) dw dx))), (.int (nar .byte (dbF (1 : Int32) dw dx))), (.int (nar .byte (dbF (2 : Int32) dw dx))), (.int (nar .byte (dbF (3 : Int32) dw dx))), (.int (nar .byte (dbF (4 : Int32) dw dx))), (.int (nar .byte (dbF (5 : Int32) dw dx))), (.int (nar .byte (dbF (6 : Int32) dw dx))), (.int (nar .byte (dbF (7 : Int32) dw dx)))] : List Value).drop (off.toNatClampNeg + (1 : Int32).toNatClampNeg)) = [(.int (exF (0 : Int32) off (1 : Int32) cw dw dx)), (.int (exF (1 : Int32) off (1 : Int32) cw dw dx)), (.int (exF (2 : Int32) off (1 : Int32) cw dw dx)), (.int (exF (3 : Int32) off (1 : Int32) cw dw dx)), (.int (exF (4 : Int32) off (1 : Int32) cw dw dx)), (.int (exF (5 : Int32) off (1 : Int32) cw dw dx)), (.int (exF (6 : Int32) off (1 : Int32) cw dw dx)), (.int (exF (7 : Int32) off (1 : Int32) cw dw dx))] := by
  rcases h with rfl | rfl | rfl | rfl | rfl | rfl | rfl | rfl <;> rfl
theorem own_off1 (p : Int32) : (p &&& (2147483647 : Int32)) % (8 : Int32) = (0 : Int32) ∨ (p &&& (2147483647 : Int32)) % (8 : Int32) = (1 : Int32) ∨ (p &&& (2147483647 : Int32)) % (8 : Int32) = (2 : Int32) ∨ (p &&& (2147483647 : Int32)) % (8 : Int32) = (3 : Int32) ∨ (p &&& (2147483647 : Int32)) % (8 : Int32) = (4 : Int32) ∨ (p &&& (2147483647 : Int32)) % (8 : Int32) = (5 : Int32) ∨ (p &&& (2147483647 : Int32)) % (8 : Int32) = (6 : Int32) ∨ (p &&& (2147483647 : Int32)) % (8 : Int32) = (7 : Int32) := by
  have h0 : 0 ≤ (p &&& (2147483647 : Int32)).toInt := by
    rw [Jvm.Kit.i32_mask p (2147483647 : Int32) (k := 31) (by decide) (by decide)]
    omega
  have h := Jvm.Kit.i32_rem_nonneg (y := (8 : Int32)) h0
  rw [show ((8 : Int32)).toInt = 8 from by decide] at h
  have e : (0 : Int32).toInt = 0 ∧ (1 : Int32).toInt = 1 ∧ (2 : Int32).toInt = 2 ∧ (3 : Int32).toInt = 3 ∧ (4 : Int32).toInt = 4 ∧ (5 : Int32).toInt = 5 ∧ (6 : Int32).toInt = 6 ∧ (7 : Int32).toInt = 7 ∧ (8 : Int32).toInt = 8 := by decide
  simp only [← Int32.toInt_inj]
  omega
theorem own_mix2 (cw dw dx off : Int32) (h : off = (0 : Int32) ∨ off = (1 : Int32) ∨ off = (2 : Int32) ∨ off = (3 : Int32) ∨ off = (4 : Int32) ∨ off = (5 : Int32) ∨ off = (6 : Int32)) : (([(.int (nar .byte (dbF (0 : Int32) dw dx))), (.int (nar .byte (dbF (1 : Int32) dw dx))), (.int (nar .byte (dbF (2 : Int32) dw dx))), (.int (nar .byte (dbF (3 : Int32) dw dx))), (.int (nar .byte (dbF (4 : Int32) dw dx))), (.int (nar .byte (dbF (5 : Int32) dw dx))), (.int (nar .byte (dbF (6 : Int32) dw dx))), (.int (nar .byte (dbF (7 : Int32) dw dx)))] : List Value).take off.toNatClampNeg ++ (List.range (2 : Int32).toNatClampNeg).map (fun i => ([(.int (nar .byte (cbF (0 : Int32) cw))), (.int (nar .byte (cbF (1 : Int32) cw)))] : List Value).getD ((0 : Int32).toNatClampNeg + i) (.int (0 : Int32))) ++ ([(.int (nar .byte (dbF (0 : Int32) dw dx))), (.int (nar .byte (dbF (1 : Int32) dw dx))), (.int (nar .byte (dbF (2 : Int32) dw dx))), (.int (nar .byte (dbF (3 : Int32) dw dx))), (.int (nar .byte (dbF (4 : Int32) dw dx))), (.int (nar .byte (dbF (5 : Int32) dw dx))), (.int (nar .byte (dbF (6 : Int32) dw dx))), (.int (nar .byte (dbF (7 : Int32) dw dx)))] : List Value).drop (off.toNatClampNeg + (2 : Int32).toNatClampNeg)) = [(.int (exF (0 : Int32) off (2 : Int32) cw dw dx)), (.int (exF (1 : Int32) off (2 : Int32) cw dw dx)), (.int (exF (2 : Int32) off (2 : Int32) cw dw dx)), (.int (exF (3 : Int32) off (2 : Int32) cw dw dx)), (.int (exF (4 : Int32) off (2 : Int32) cw dw dx)), (.int (exF (5 : Int32) off (2 : Int32) cw dw dx)), (.int (exF (6 : Int32) off (2 : Int32) cw dw dx)), (.int (exF (7 : Int32) off (2 : Int32) cw dw dx))] := by
  rcases h with rfl | rfl | rfl | rfl | rfl | rfl | rfl <;> rfl
theorem own_off2 (p : Int32) : (p &&& (2147483647 : Int32)) % (7 : Int32) = (0 : Int32) ∨ (p &&& (2147483647 : Int32)) % (7 : Int32) = (1 : Int32) ∨ (p &&& (2147483647 : Int32)) % (7 : Int32) = (2 : Int32) ∨ (p &&& (2147483647 : Int32)) % (7 : Int32) = (3 : Int32) ∨ (p &&& (2147483647 : Int32)) % (7 : Int32) = (4 : Int32) ∨ (p &&& (2147483647 : Int32)) % (7 : Int32) = (5 : Int32) ∨ (p &&& (2147483647 : Int32)) % (7 : Int32) = (6 : Int32) := by
  have h0 : 0 ≤ (p &&& (2147483647 : Int32)).toInt := by
    rw [Jvm.Kit.i32_mask p (2147483647 : Int32) (k := 31) (by decide) (by decide)]
    omega
  have h := Jvm.Kit.i32_rem_nonneg (y := (7 : Int32)) h0
  rw [show ((7 : Int32)).toInt = 7 from by decide] at h
  have e : (0 : Int32).toInt = 0 ∧ (1 : Int32).toInt = 1 ∧ (2 : Int32).toInt = 2 ∧ (3 : Int32).toInt = 3 ∧ (4 : Int32).toInt = 4 ∧ (5 : Int32).toInt = 5 ∧ (6 : Int32).toInt = 6 ∧ (7 : Int32).toInt = 7 := by decide
  simp only [← Int32.toInt_inj]
  omega
theorem own_mix3 (cw dw dx off : Int32) (h : off = (0 : Int32) ∨ off = (1 : Int32) ∨ off = (2 : Int32) ∨ off = (3 : Int32) ∨ off = (4 : Int32) ∨ off = (5 : Int32)) : (([(.int (nar .byte (dbF (0 : Int32) dw dx))), (.int (nar .byte (dbF (1 : Int32) dw dx))), (.int (nar .byte (dbF (2 : Int32) dw dx))), (.int (nar .byte (dbF (3 : Int32) dw dx))), (.int (nar .byte (dbF (4 : Int32) dw dx))), (.int (nar .byte (dbF (5 : Int32) dw dx))), (.int (nar .byte (dbF (6 : Int32) dw dx))), (.int (nar .byte (dbF (7 : Int32) dw dx)))] : List Value).take off.toNatClampNeg ++ (List.range (3 : Int32).toNatClampNeg).map (fun i => ([(.int (nar .byte (cbF (0 : Int32) cw))), (.int (nar .byte (cbF (1 : Int32) cw))), (.int (nar .byte (cbF (2 : Int32) cw)))] : List Value).getD ((0 : Int32).toNatClampNeg + i) (.int (0 : Int32))) ++ ([(.int (nar .byte (dbF (0 : Int32) dw dx))), (.int (nar .byte (dbF (1 : Int32) dw dx))), (.int (nar .byte (dbF (2 : Int32) dw dx))), (.int (nar .byte (dbF (3 : Int32) dw dx))), (.int (nar .byte (dbF (4 : Int32) dw dx))), (.int (nar .byte (dbF (5 : Int32) dw dx))), (.int (nar .byte (dbF (6 : Int32) dw dx))), (.int (nar .byte (dbF (7 : Int32) dw dx)))] : List Value).drop (off.toNatClampNeg + (3 : Int32).toNatClampNeg)) = [(.int (exF (0 : Int32) off (3 : Int32) cw dw dx)), (.int (exF (1 : Int32) off (3 : Int32) cw dw dx)), (.int (exF (2 : Int32) off (3 : Int32) cw dw dx)), (.int (exF (3 : Int32) off (3 : Int32) cw dw dx)), (.int (exF (4 : Int32) off (3 : Int32) cw dw dx)), (.int (exF (5 : Int32) off (3 : Int32) cw dw dx)), (.int (exF (6 : Int32) off (3 : Int32) cw dw dx)), (.int (exF (7 : Int32) off (3 : Int32) cw dw dx))] := by
  rcases h with rfl | rfl | rfl | rfl | rfl | rfl <;> rfl
theorem own_off3 (p : Int32) : (p &&& (2147483647 : Int32)) % (6 : Int32) = (0 : Int32) ∨ (p &&& (2147483647 : Int32)) % (6 : Int32) = (1 : Int32) ∨ (p &&& (2147483647 : Int32)) % (6 : Int32) = (2 : Int32) ∨ (p &&& (2147483647 : Int32)) % (6 : Int32) = (3 : Int32) ∨ (p &&& (2147483647 : Int32)) % (6 : Int32) = (4 : Int32) ∨ (p &&& (2147483647 : Int32)) % (6 : Int32) = (5 : Int32) := by
  have h0 : 0 ≤ (p &&& (2147483647 : Int32)).toInt := by
    rw [Jvm.Kit.i32_mask p (2147483647 : Int32) (k := 31) (by decide) (by decide)]
    omega
  have h := Jvm.Kit.i32_rem_nonneg (y := (6 : Int32)) h0
  rw [show ((6 : Int32)).toInt = 6 from by decide] at h
  have e : (0 : Int32).toInt = 0 ∧ (1 : Int32).toInt = 1 ∧ (2 : Int32).toInt = 2 ∧ (3 : Int32).toInt = 3 ∧ (4 : Int32).toInt = 4 ∧ (5 : Int32).toInt = 5 ∧ (6 : Int32).toInt = 6 := by decide
  simp only [← Int32.toInt_inj]
  omega
theorem own_mix4 (cw dw dx off : Int32) (h : off = (0 : Int32) ∨ off = (1 : Int32) ∨ off = (2 : Int32) ∨ off = (3 : Int32) ∨ off = (4 : Int32)) : (([(.int (nar .byte (dbF (0 : Int32) dw dx))), (.int (nar .byte (dbF (1 : Int32) dw dx))), (.int (nar .byte (dbF (2 : Int32) dw dx))), (.int (nar .byte (dbF (3 : Int32) dw dx))), (.int (nar .byte (dbF (4 : Int32) dw dx))), (.int (nar .byte (dbF (5 : Int32) dw dx))), (.int (nar .byte (dbF (6 : Int32) dw dx))), (.int (nar .byte (dbF (7 : Int32) dw dx)))] : List Value).take off.toNatClampNeg ++ (List.range (4 : Int32).toNatClampNeg).map (fun i => ([(.int (nar .byte (cbF (0 : Int32) cw))), (.int (nar .byte (cbF (1 : Int32) cw))), (.int (nar .byte (cbF (2 : Int32) cw))), (.int (nar .byte (cbF (3 : Int32) cw)))] : List Value).getD ((0 : Int32).toNatClampNeg + i) (.int (0 : Int32))) ++ ([(.int (nar .byte (dbF (0 : Int32) dw dx))), (.int (nar .byte (dbF (1 : Int32) dw dx))), (.int (nar .byte (dbF (2 : Int32) dw dx))), (.int (nar .byte (dbF (3 : Int32) dw dx))), (.int (nar .byte (dbF (4 : Int32) dw dx))), (.int (nar .byte (dbF (5 : Int32) dw dx))), (.int (nar .byte (dbF (6 : Int32) dw dx))), (.int (nar .byte (dbF (7 : Int32) dw dx)))] : List Value).drop (off.toNatClampNeg + (4 : Int32).toNatClampNeg)) = [(.int (exF (0 : Int32) off (4 : Int32) cw dw dx)), (.int (exF (1 : Int32) off (4 : Int32) cw dw dx)), (.int (exF (2 : Int32) off (4 : Int32) cw dw dx)), (.int (exF (3 : Int32) off (4 : Int32) cw dw dx)), (.int (exF (4 : Int32) off (4 : Int32) cw dw dx)), (.int (exF (5 : Int32) off (4 : Int32) cw dw dx)), (.int (exF (6 : Int32) off (4 : Int32) cw dw dx)), (.int (exF (7 : Int32) off (4 : Int32) cw dw dx))] := by
  rcases h with rfl | rfl | rfl | rfl | rfl <;> rfl
theorem own_off4 (p : Int32) : (p &&& (2147483647 : Int32)) % (5 : Int32) = (0 : Int32) ∨ (p &&& (2147483647 : Int32)) % (5 : Int32) = (1 : Int32) ∨ (p &&& (2147483647 : Int32)) % (5 : Int32) = (2 : Int32) ∨ (p &&& (2147483647 : Int32)) % (5 : Int32) = (3 : Int32) ∨ (p &&& (2147483647 : Int32)) % (5 : Int32) = (4 : Int32) := by
  have h0 : 0 ≤ (p &&& (2147483647 : Int32)).toInt := by
    rw [Jvm.Kit.i32_mask p (2147483647 : Int32) (k := 31) (by decide) (by decide)]
    omega
  have h := Jvm.Kit.i32_rem_nonneg (y := (5 : Int32)) h0
  rw [show ((5 : Int32)).toInt = 5 from by decide] at h
  have e : (0 : Int32).toInt = 0 ∧ (1 : Int32).toInt = 1 ∧ (2 : Int32).toInt = 2 ∧ (3 : Int32).toInt = 3 ∧ (4 : Int32).toInt = 4 ∧ (5 : Int32).toInt = 5 := by decide
  simp only [← Int32.toInt_inj]
  omega
theorem own_n (p : Int32) : (p &&& (7 : Int32)) % (5 : Int32) = (0 : Int32) ∨ (p &&& (7 : Int32)) % (5 : Int32) = (1 : Int32) ∨ (p &&& (7 : Int32)) % (5 : Int32) = (2 : Int32) ∨ (p &&& (7 : Int32)) % (5 : Int32) = (3 : Int32) ∨ (p &&& (7 : Int32)) % (5 : Int32) = (4 : Int32) := by
  have h0 : 0 ≤ (p &&& (7 : Int32)).toInt := by
    rw [Jvm.Kit.i32_mask p (7 : Int32) (k := 3) (by decide) (by decide)]
    omega
  have h := Jvm.Kit.i32_rem_nonneg (y := (5 : Int32)) h0
  rw [show ((5 : Int32)).toInt = 5 from by decide] at h
  have e : (0 : Int32).toInt = 0 ∧ (1 : Int32).toInt = 1 ∧ (2 : Int32).toInt = 2 ∧ (3 : Int32).toInt = 3 ∧ (4 : Int32).toInt = 4 ∧ (5 : Int32).toInt = 5 := by decide
  simp only [← Int32.toInt_inj]
  omega
theorem own_offb (n : Nat) (off : Int32) (hn : n ≤ 4) (h : off = (0 : Int32) ∨ off = (1 : Int32) ∨ off = (2 : Int32) ∨ off = (3 : Int32) ∨ off = (4 : Int32) ∨ off = (5 : Int32) ∨ off = (6 : Int32) ∨ off = (7 : Int32) ∨ off = (8 : Int32)) (hq : off.toNatClampNeg + n ≤ 8 ∨ True) : ¬ (off < 0) := by
  rcases h with rfl | rfl | rfl | rfl | rfl | rfl | rfl | rfl | rfl <;> decide
theorem ef_rmCb (m : MethodId) (x0 : Int32) (x1 : Int32) : entryFrame m #[(.int x0), (.int x1)] 2 = mkF m 0 #[.val (.int x0), .val (.int x1)] [] := by first | (simp [entryFrame, mkF, argsToLocals, Value.category]; done) | rfl
def QCb (Z : State) (kx : Int32) (wx : Int32) (h0 : Heap) (n0 : Nat) (v : Option Value) (h : Heap) (L : List Loc) : Prop := v = some (.int (cbF kx wx)) ∧ Fr n0 L ∧ h = h0
set_option maxRecDepth 65536 in
set_option maxHeartbeats 40000000 in
theorem rmCb (l : Launch) (Z : State) (a0 : Array Value) (hw : ∀ d ∈ tables_1, d.before a0 Z = true) (ws : List Jvm.Cond) (kx : Int32) (wx : Int32) (h0 : Heap) (n0 : Nat) (Z0 : n0 ≤ h0.size) :
    MetFree l (⟨"com/example/sluice/sluice/processor/FlowFileCopyContentPinLaw", "cb", "(II)B"⟩ : MethodName) (head1 (Jvm.Cond.code (⟨"com/example/sluice/sluice/processor/FlowFileCopyContentPinLaw", "cb", "(II)B"⟩ : MethodName) method_4_code 2 (some .byte) :: ws) ({ frames := 0, cells := 0, slots := 0, locals := 0 } : Room)) (fun a U => a = #[(.int kx), (.int wx)] ∧ Z.Warmed39 U.vm ∧ U.heap = h0) (fun _ _ _ _ _ => True) (fun _ U o U' => ∃ v L, o = .returned v ∧ QCb Z kx wx h0 n0 v U'.heap L ∧ FrameEnd U o U' L ({ frames := 0, cells := 0, slots := 0, locals := 0 } : Room).cells ({ frames := 0, cells := 0, slots := 0, locals := 0 } : Room).slots) := by
  refine MetFree.of_bodySF (plainFor_of_name pn_com_example_sluice_sluice_processor_FlowFileCopyContentPinLaw) hisR ?_
  intro p e s m args below meth c s₁ Bd hml0 hP hK
  obtain ⟨rfl, hZ, hh⟩ := hP
  have hx := Bd.exec
  have hby := Bd.bytes
  have hlk : meth.locks = false := Bd.notSynchronized
  have hml : c.maxLocals = 2 := hml0
  have hown : s.vm.findClass "com/example/sluice/sluice/processor/FlowFileCopyContentPinLaw" = some m.cls := findClass_of_methodNamed Bd.named
  have hnm := (name_of_methodNamed Bd.named Bd.method).1
  have X0 : Stand p l e ({ frames := 0, cells := 0, slots := 0, locals := 0 } : Room) s m #[(.int kx), (.int wx)] below meth c s₁ [] 0 0 := Stand.of_body Bd
  have e0 : s₁.heap = h0 := by rw [← hh, Bd.state]; rfl
  have N0 := Fr.nil n0
  show Go p e below (FinE s below (QCb Z kx wx h0 n0) ({ frames := 0, cells := 0, slots := 0, locals := 0 } : Room).cells ({ frames := 0, cells := 0, slots := 0, locals := 0 } : Room).slots) (s₁.setTop (entryFrame m #[(.int kx), (.int wx)] 2))
  refine Go.via (fun t k => castTop (ef_rmCb m kx wx) k) ?_
  show Go p e below _ (s₁.setTop (mkF m 0 #[.val (.int kx), .val (.int wx)] []))
  refine Go.via (fun _ => XS.iloadN X0.here hx rfl (hb hby d2_0) rfl) ?_
  show Go p e below _ (s₁.setTop (mkF m 1 #[.val (.int kx), .val (.int wx)] [(.int wx)]))
  refine Go.via (fun _ => XS.bipush X0.here hx rfl (hb hby d2_1)) ?_
  show Go p e below _ (s₁.setTop (mkF m 3 #[.val (.int kx), .val (.int wx)] [(.int (8 : Int32)), (.int wx)]))
  refine Go.via (fun _ => XS.iloadN X0.here hx rfl (hb hby d2_3) rfl) ?_
  show Go p e below _ (s₁.setTop (mkF m 4 #[.val (.int kx), .val (.int wx)] [(.int kx), (.int (8 : Int32)), (.int wx)]))
  refine Go.via (fun _ => XS.imul X0.here hx rfl (hb hby d2_4) rfl) ?_
  show Go p e below _ (s₁.setTop (mkF m 5 #[.val (.int kx), .val (.int wx)] [(.int ((8 : Int32) * kx)), (.int wx)]))
  refine Go.via (fun _ => XS.iushr X0.here hx rfl (hb hby d2_5) rfl) ?_
  show Go p e below _ (s₁.setTop (mkF m 6 #[.val (.int kx), .val (.int wx)] [(.int ((wx.toUInt32 >>> (((8 : Int32) * kx) &&& 31).toUInt32).toInt32))]))
  refine Go.via (fun _ => XS.i2b X0.here hx rfl (hb hby d2_6) rfl) ?_
  show Go p e below _ (s₁.setTop (mkF m 7 #[.val (.int kx), .val (.int wx)] [(.int (((wx.toUInt32 >>> (((8 : Int32) * kx) &&& 31).toUInt32).toInt32).toInt8.toInt32))]))
  exact own_retN X0 hx hlk (t := .byte) Bd.returns (by simp) (hb hby d2_7) (by show QCb Z kx wx h0 n0 _ s₁.heap _; rw [e0]; exact ⟨rfl, N0, rfl⟩) (by decide) (by decide)
theorem ef_rmDb (m : MethodId) (x0 : Int32) (x1 : Int32) (x2 : Int32) : entryFrame m #[(.int x0), (.int x1), (.int x2)] 3 = mkF m 0 #[.val (.int x0), .val (.int x1), .val (.int x2)] [] := by first | (simp [entryFrame, mkF, argsToLocals, Value.category]; done) | rfl
def QDb (Z : State) (kx : Int32) (dw : Int32) (dx : Int32) (h0 : Heap) (n0 : Nat) (v : Option Value) (h : Heap) (L : List Loc) : Prop := v = some (.int (dbF kx dw dx)) ∧ Fr n0 L ∧ h = h0
set_option maxRecDepth 65536 in
set_option maxHeartbeats 40000000 in
theorem rmDb (l : Launch) (Z : State) (a0 : Array Value) (hw : ∀ d ∈ tables_1, d.before a0 Z = true) (ws : List Jvm.Cond) (kx : Int32) (dw : Int32) (dx : Int32) (h0 : Heap) (n0 : Nat) (Z0 : n0 ≤ h0.size) :
    MetFree l (⟨"com/example/sluice/sluice/processor/FlowFileCopyContentPinLaw", "db", "(III)B"⟩ : MethodName) (head1 (Jvm.Cond.code (⟨"com/example/sluice/sluice/processor/FlowFileCopyContentPinLaw", "db", "(III)B"⟩ : MethodName) method_3_code 3 (some .byte) :: ws) ({ frames := 0, cells := 0, slots := 0, locals := 0 } : Room)) (fun a U => a = #[(.int kx), (.int dw), (.int dx)] ∧ Z.Warmed39 U.vm ∧ U.heap = h0) (fun _ _ _ _ _ => True) (fun _ U o U' => ∃ v L, o = .returned v ∧ QDb Z kx dw dx h0 n0 v U'.heap L ∧ FrameEnd U o U' L ({ frames := 0, cells := 0, slots := 0, locals := 0 } : Room).cells ({ frames := 0, cells := 0, slots := 0, locals := 0 } : Room).slots) := by
  refine MetFree.of_bodySF (plainFor_of_name pn_com_example_sluice_sluice_processor_FlowFileCopyContentPinLaw) hisR ?_
  intro p e s m args below meth c s₁ Bd hml0 hP hK
  obtain ⟨rfl, hZ, hh⟩ := hP
  have hx := Bd.exec
  have hby := Bd.bytes
  have hlk : meth.locks = false := Bd.notSynchronized
  have hml : c.maxLocals = 3 := hml0
  have hown : s.vm.findClass "com/example/sluice/sluice/processor/FlowFileCopyContentPinLaw" = some m.cls := findClass_of_methodNamed Bd.named
  have hnm := (name_of_methodNamed Bd.named Bd.method).1
  have X0 : Stand p l e ({ frames := 0, cells := 0, slots := 0, locals := 0 } : Room) s m #[(.int kx), (.int dw), (.int dx)] below meth c s₁ [] 0 0 := Stand.of_body Bd
  have e0 : s₁.heap = h0 := by rw [← hh, Bd.state]; rfl
  have N0 := Fr.nil n0
  show Go p e below (FinE s below (QDb Z kx dw dx h0 n0) ({ frames := 0, cells := 0, slots := 0, locals := 0 } : Room).cells ({ frames := 0, cells := 0, slots := 0, locals := 0 } : Room).slots) (s₁.setTop (entryFrame m #[(.int kx), (.int dw), (.int dx)] 3))
  refine Go.via (fun t k => castTop (ef_rmDb m kx dw dx) k) ?_
  show Go p e below _ (s₁.setTop (mkF m 0 #[.val (.int kx), .val (.int dw), .val (.int dx)] []))
  refine Go.via (fun _ => XS.iloadN X0.here hx rfl (hb hby d8_0) rfl) ?_
  show Go p e below _ (s₁.setTop (mkF m 1 #[.val (.int kx), .val (.int dw), .val (.int dx)] [(.int kx)]))
  refine Go.via (fun _ => XS.iconst X0.here hx rfl (hb hby d8_1)) ?_
  show Go p e below _ (s₁.setTop (mkF m 2 #[.val (.int kx), .val (.int dw), .val (.int dx)] [(.int (4 : Int32)), (.int kx)]))
  by_cases hc101 : kx < (4 : Int32)
  · -- yes
    show Go p e below _ (s₁.setTop (mkF m 2 #[.val (.int kx), .val (.int dw), .val (.int dx)] [(.int (4 : Int32)), (.int kx)]))
    show Go p e below _ (s₁.setTop (mkF m 2 #[.val (.int kx), .val (.int dw), .val (.int dx)] [(.int (4 : Int32)), (.int kx)]))
    refine Go.via (fun _ => XS.icmpNo X0.here hx rfl (hb hby d8_2) rfl (tlt hc101).2.1) ?_
    show Go p e below _ (s₁.setTop (mkF m 5 #[.val (.int kx), .val (.int dw), .val (.int dx)] []))
    refine Go.via (fun _ => XS.iloadN X0.here hx rfl (hb hby d8_5) rfl) ?_
    show Go p e below _ (s₁.setTop (mkF m 6 #[.val (.int kx), .val (.int dw), .val (.int dx)] [(.int dw)]))
    refine Go.via (fun _ => XS.bipush X0.here hx rfl (hb hby d8_6)) ?_
    show Go p e below _ (s₁.setTop (mkF m 8 #[.val (.int kx), .val (.int dw), .val (.int dx)] [(.int (8 : Int32)), (.int dw)]))
    refine Go.via (fun _ => XS.iloadN X0.here hx rfl (hb hby d8_8) rfl) ?_
    show Go p e below _ (s₁.setTop (mkF m 9 #[.val (.int kx), .val (.int dw), .val (.int dx)] [(.int kx), (.int (8 : Int32)), (.int dw)]))
    refine Go.via (fun _ => XS.imul X0.here hx rfl (hb hby d8_9) rfl) ?_
    show Go p e below _ (s₁.setTop (mkF m 10 #[.val (.int kx), .val (.int dw), .val (.int dx)] [(.int ((8 : Int32) * kx)), (.int dw)]))
    refine Go.via (fun _ => XS.iushr X0.here hx rfl (hb hby d8_10) rfl) ?_
    show Go p e below _ (s₁.setTop (mkF m 11 #[.val (.int kx), .val (.int dw), .val (.int dx)] [(.int ((dw.toUInt32 >>> (((8 : Int32) * kx) &&& 31).toUInt32).toInt32))]))
    refine Go.via (fun _ => XS.i2b X0.here hx rfl (hb hby d8_11) rfl) ?_
    show Go p e below _ (s₁.setTop (mkF m 12 #[.val (.int kx), .val (.int dw), .val (.int dx)] [(.int (((dw.toUInt32 >>> (((8 : Int32) * kx) &&& 31).toUInt32).toInt32).toInt8.toInt32))]))
    exact own_retN X0 hx hlk (t := .byte) Bd.returns (by simp) (hb hby d8_12) (by show QDb Z kx dw dx h0 n0 _ s₁.heap _; rw [e0]; exact ⟨by rw [dbF, if_pos hc101]; rfl, N0, rfl⟩) (by decide) (by decide)
  · -- no
    show Go p e below _ (s₁.setTop (mkF m 2 #[.val (.int kx), .val (.int dw), .val (.int dx)] [(.int (4 : Int32)), (.int kx)]))
    show Go p e below _ (s₁.setTop (mkF m 2 #[.val (.int kx), .val (.int dw), .val (.int dx)] [(.int (4 : Int32)), (.int kx)]))
    refine Go.via (fun _ => XS.icmpYes X0.here hx rfl (pc0 := 2) (pc' := 13) rfl (hb hby d8_2) rfl (flt hc101).2.1 (by decide) (by decide)) ?_
    show Go p e below _ (s₁.setTop (mkF m 13 #[.val (.int kx), .val (.int dw), .val (.int dx)] []))
    refine Go.via (fun _ => XS.iloadN X0.here hx rfl (hb hby d8_13) rfl) ?_
    show Go p e below _ (s₁.setTop (mkF m 14 #[.val (.int kx), .val (.int dw), .val (.int dx)] [(.int dx)]))
    refine Go.via (fun _ => XS.bipush X0.here hx rfl (hb hby d8_14)) ?_
    show Go p e below _ (s₁.setTop (mkF m 16 #[.val (.int kx), .val (.int dw), .val (.int dx)] [(.int (8 : Int32)), (.int dx)]))
    refine Go.via (fun _ => XS.iloadN X0.here hx rfl (hb hby d8_16) rfl) ?_
    show Go p e below _ (s₁.setTop (mkF m 17 #[.val (.int kx), .val (.int dw), .val (.int dx)] [(.int kx), (.int (8 : Int32)), (.int dx)]))
    refine Go.via (fun _ => XS.iconst X0.here hx rfl (hb hby d8_17)) ?_
    show Go p e below _ (s₁.setTop (mkF m 18 #[.val (.int kx), .val (.int dw), .val (.int dx)] [(.int (4 : Int32)), (.int kx), (.int (8 : Int32)), (.int dx)]))
    refine Go.via (fun _ => XS.isub X0.here hx rfl (hb hby d8_18) rfl) ?_
    show Go p e below _ (s₁.setTop (mkF m 19 #[.val (.int kx), .val (.int dw), .val (.int dx)] [(.int (kx - (4 : Int32))), (.int (8 : Int32)), (.int dx)]))
    refine Go.via (fun _ => XS.imul X0.here hx rfl (hb hby d8_19) rfl) ?_
    show Go p e below _ (s₁.setTop (mkF m 20 #[.val (.int kx), .val (.int dw), .val (.int dx)] [(.int ((8 : Int32) * (kx - (4 : Int32)))), (.int dx)]))
    refine Go.via (fun _ => XS.iushr X0.here hx rfl (hb hby d8_20) rfl) ?_
    show Go p e below _ (s₁.setTop (mkF m 21 #[.val (.int kx), .val (.int dw), .val (.int dx)] [(.int ((dx.toUInt32 >>> (((8 : Int32) * (kx - (4 : Int32))) &&& 31).toUInt32).toInt32))]))
    refine Go.via (fun _ => XS.i2b X0.here hx rfl (hb hby d8_21) rfl) ?_
    show Go p e below _ (s₁.setTop (mkF m 22 #[.val (.int kx), .val (.int dw), .val (.int dx)] [(.int (((dx.toUInt32 >>> (((8 : Int32) * (kx - (4 : Int32))) &&& 31).toUInt32).toInt32).toInt8.toInt32))]))
    exact own_retN X0 hx hlk (t := .byte) Bd.returns (by simp) (hb hby d8_22) (by show QDb Z kx dw dx h0 n0 _ s₁.heap _; rw [e0]; exact ⟨by rw [dbF, if_neg hc101]; rfl, N0, rfl⟩) (by decide) (by decide)
theorem ef_rmEx (m : MethodId) (x0 : Int32) (x1 : Int32) (x2 : Int32) (x3 : Int32) (x4 : Int32) (x5 : Int32) : entryFrame m #[(.int x0), (.int x1), (.int x2), (.int x3), (.int x4), (.int x5)] 6 = mkF m 0 #[.val (.int x0), .val (.int x1), .val (.int x2), .val (.int x3), .val (.int x4), .val (.int x5)] [] := by first | (simp [entryFrame, mkF, argsToLocals, Value.category]; done) | rfl
def QEx (Z : State) (ix : Int32) (off : Int32) (nx : Int32) (cw : Int32) (dw : Int32) (dx : Int32) (h0 : Heap) (n0 : Nat) (v : Option Value) (h : Heap) (L : List Loc) : Prop := v = some (.int (exF ix off nx cw dw dx)) ∧ Fr n0 L ∧ h = h0
set_option maxRecDepth 65536 in
set_option maxHeartbeats 40000000 in
theorem rmEx (l : Launch) (Z : State) (a0 : Array Value) (hw : ∀ d ∈ tables_1, d.before a0 Z = true) (ws : List Jvm.Cond) (ix : Int32) (off : Int32) (nx : Int32) (cw : Int32) (dw : Int32) (dx : Int32) (h0 : Heap) (n0 : Nat) (Z0 : n0 ≤ h0.size) :
    MetFree l (⟨"com/example/sluice/sluice/processor/FlowFileCopyContentPinLaw", "expected", "(IIIIII)B"⟩ : MethodName) (head1 (Jvm.Cond.code (⟨"com/example/sluice/sluice/processor/FlowFileCopyContentPinLaw", "expected", "(IIIIII)B"⟩ : MethodName) method_5_code 6 (some .byte) :: ws) ({ frames := 1, cells := 0, slots := 0, locals := 14 } : Room)) (fun a U => a = #[(.int ix), (.int off), (.int nx), (.int cw), (.int dw), (.int dx)] ∧ Z.Warmed39 U.vm ∧ U.heap = h0) (fun _ _ _ _ _ => True) (fun _ U o U' => ∃ v L, o = .returned v ∧ QEx Z ix off nx cw dw dx h0 n0 v U'.heap L ∧ FrameEnd U o U' L ({ frames := 1, cells := 0, slots := 0, locals := 14 } : Room).cells ({ frames := 1, cells := 0, slots := 0, locals := 14 } : Room).slots) := by
  refine MetFree.of_bodySF (plainFor_of_name pn_com_example_sluice_sluice_processor_FlowFileCopyContentPinLaw) hisR ?_
  intro p e s m args below meth c s₁ Bd hml0 hP hK
  obtain ⟨rfl, hZ, hh⟩ := hP
  have hx := Bd.exec
  have hby := Bd.bytes
  have hlk : meth.locks = false := Bd.notSynchronized
  have hml : c.maxLocals = 6 := hml0
  have hown : s.vm.findClass "com/example/sluice/sluice/processor/FlowFileCopyContentPinLaw" = some m.cls := findClass_of_methodNamed Bd.named
  have hnm := (name_of_methodNamed Bd.named Bd.method).1
  have X0 : Stand p l e ({ frames := 1, cells := 0, slots := 0, locals := 14 } : Room) s m #[(.int ix), (.int off), (.int nx), (.int cw), (.int dw), (.int dx)] below meth c s₁ [] 0 0 := Stand.of_body Bd
  have e0 : s₁.heap = h0 := by rw [← hh, Bd.state]; rfl
  have N0 := Fr.nil n0
  show Go p e below (FinE s below (QEx Z ix off nx cw dw dx h0 n0) ({ frames := 1, cells := 0, slots := 0, locals := 14 } : Room).cells ({ frames := 1, cells := 0, slots := 0, locals := 14 } : Room).slots) (s₁.setTop (entryFrame m #[(.int ix), (.int off), (.int nx), (.int cw), (.int dw), (.int dx)] 6))
  refine Go.via (fun t k => castTop (ef_rmEx m ix off nx cw dw dx) k) ?_
  show Go p e below _ (s₁.setTop (mkF m 0 #[.val (.int ix), .val (.int off), .val (.int nx), .val (.int cw), .val (.int dw), .val (.int dx)] []))
  refine Go.via (fun _ => XS.iloadN X0.here hx rfl (hb hby d11_0) rfl) ?_
  show Go p e below _ (s₁.setTop (mkF m 1 #[.val (.int ix), .val (.int off), .val (.int nx), .val (.int cw), .val (.int dw), .val (.int dx)] [(.int ix)]))
  refine Go.via (fun _ => XS.iloadN X0.here hx rfl (hb hby d11_1) rfl) ?_
  show Go p e below _ (s₁.setTop (mkF m 2 #[.val (.int ix), .val (.int off), .val (.int nx), .val (.int cw), .val (.int dw), .val (.int dx)] [(.int off), (.int ix)]))
  by_cases hc101 : ix < off
  · -- yes
    show Go p e below _ (s₁.setTop (mkF m 2 #[.val (.int ix), .val (.int off), .val (.int nx), .val (.int cw), .val (.int dw), .val (.int dx)] [(.int off), (.int ix)]))
    show Go p e below _ (s₁.setTop (mkF m 2 #[.val (.int ix), .val (.int off), .val (.int nx), .val (.int cw), .val (.int dw), .val (.int dx)] [(.int off), (.int ix)]))
    refine Go.via (fun _ => XS.icmpYes X0.here hx rfl (pc0 := 2) (pc' := 20) rfl (hb hby d11_2) rfl (tlt hc101).1 (by decide) (by decide)) ?_
    show Go p e below _ (s₁.setTop (mkF m 20 #[.val (.int ix), .val (.int off), .val (.int nx), .val (.int cw), .val (.int dw), .val (.int dx)] []))
    refine Go.via (fun _ => XS.iloadN X0.here hx rfl (hb hby d11_20) rfl) ?_
    show Go p e below _ (s₁.setTop (mkF m 21 #[.val (.int ix), .val (.int off), .val (.int nx), .val (.int cw), .val (.int dw), .val (.int dx)] [(.int ix)]))
    refine Go.via (fun _ => XS.iload X0.here hx rfl (hb hby d11_21) rfl) ?_
    show Go p e below _ (s₁.setTop (mkF m 23 #[.val (.int ix), .val (.int off), .val (.int nx), .val (.int cw), .val (.int dw), .val (.int dx)] [(.int dw), (.int ix)]))
    refine Go.via (fun _ => XS.iload X0.here hx rfl (hb hby d11_23) rfl) ?_
    show Go p e below _ (s₁.setTop (mkF m 25 #[.val (.int ix), .val (.int off), .val (.int nx), .val (.int cw), .val (.int dw), .val (.int dx)] [(.int dx), (.int dw), (.int ix)]))
    obtain ⟨_, _, ⟨T102, L102, k102, n102⟩, -, X102, ⟨Lc102, hQ102, l102, y102, z102⟩, st102⟩ := Jvm.LawKit.callS X0 hx (y := (⟨"com/example/sluice/sluice/processor/FlowFileCopyContentPinLaw", "db", "(III)B"⟩ : MethodName)) hown (mvT hZ (hw _ (List.mem_of_getElem? (i := 45) rfl))) (mvT hZ (hw _ (List.mem_of_getElem? (i := 46) rfl))) (mvT hZ (hw _ (List.mem_of_getElem? (i := 3) rfl))) (mvT hZ (hw _ (List.mem_of_getElem? (i := 47) rfl))) (by decide) (backOf (W := 0) (rmDb l Z a0 hw [] ix dw dx h0 n0 Z0) hZ (hw _ (List.mem_of_getElem? (i := 47) rfl)) (hw _ (List.mem_of_getElem? (i := 3) rfl)) (by decide) (by decide)) (g := (mkF m 25 #[.val (.int ix), .val (.int off), .val (.int nx), .val (.int cw), .val (.int dw), .val (.int dx)] [(.int dx), (.int dw), (.int ix)])) rfl (by rw [hml]; rfl) (argsL := [(.int ix), (.int dw), (.int dx)]) (rest := []) (lenOf pd_0 rfl) rfl (by show 2 * 0 + _ ≤ _; exact Nat.le_of_eq rfl) (hb hby d11_25) (fun _ _ => ⟨rfl, e0, (by decide : 0 + 0 ≤ _), (by decide : 0 + 0 ≤ _)⟩)
    dsimp only [Pt.U, Pt.locs, Pt.cells, Pt.slots] at X102 l102 y102 z102 st102 hQ102
    rw [l102, y102, z102] at X102
    replace X102 : Stand p l e _ _ m _ below meth c T102 _ 0 0 := X102
    obtain ⟨rfl, N102q, e102q⟩ := hQ102
    have N102 := Fr.app N0 N102q
    refine Go.via st102 ?_
    show Go p e below _ (T102.setTop (mkF m 28 #[.val (.int ix), .val (.int off), .val (.int nx), .val (.int cw), .val (.int dw), .val (.int dx)] [(.int (dbF ix dw dx))]))
    exact own_retN X102 hx hlk (t := .byte) Bd.returns (by simp) (hb hby d11_28) (by show QEx Z ix off nx cw dw dx h0 n0 _ T102.heap _; rw [e102q]; exact ⟨by rw [exF, if_neg (fun q => q.1 hc101)], N102, rfl⟩) (by decide) (by decide)
  · -- no
    show Go p e below _ (s₁.setTop (mkF m 2 #[.val (.int ix), .val (.int off), .val (.int nx), .val (.int cw), .val (.int dw), .val (.int dx)] [(.int off), (.int ix)]))
    show Go p e below _ (s₁.setTop (mkF m 2 #[.val (.int ix), .val (.int off), .val (.int nx), .val (.int cw), .val (.int dw), .val (.int dx)] [(.int off), (.int ix)]))
    refine Go.via (fun _ => XS.icmpNo X0.here hx rfl (hb hby d11_2) rfl (flt hc101).1) ?_
    show Go p e below _ (s₁.setTop (mkF m 5 #[.val (.int ix), .val (.int off), .val (.int nx), .val (.int cw), .val (.int dw), .val (.int dx)] []))
    refine Go.via (fun _ => XS.iloadN X0.here hx rfl (hb hby d11_5) rfl) ?_
    show Go p e below _ (s₁.setTop (mkF m 6 #[.val (.int ix), .val (.int off), .val (.int nx), .val (.int cw), .val (.int dw), .val (.int dx)] [(.int ix)]))
    refine Go.via (fun _ => XS.iloadN X0.here hx rfl (hb hby d11_6) rfl) ?_
    show Go p e below _ (s₁.setTop (mkF m 7 #[.val (.int ix), .val (.int off), .val (.int nx), .val (.int cw), .val (.int dw), .val (.int dx)] [(.int off), (.int ix)]))
    refine Go.via (fun _ => XS.isub X0.here hx rfl (hb hby d11_7) rfl) ?_
    show Go p e below _ (s₁.setTop (mkF m 8 #[.val (.int ix), .val (.int off), .val (.int nx), .val (.int cw), .val (.int dw), .val (.int dx)] [(.int (ix - off))]))
    refine Go.via (fun _ => XS.iloadN X0.here hx rfl (hb hby d11_8) rfl) ?_
    show Go p e below _ (s₁.setTop (mkF m 9 #[.val (.int ix), .val (.int off), .val (.int nx), .val (.int cw), .val (.int dw), .val (.int dx)] [(.int nx), (.int (ix - off))]))
    by_cases hc103 : (ix - off) < nx
    · -- yes
      show Go p e below _ (s₁.setTop (mkF m 9 #[.val (.int ix), .val (.int off), .val (.int nx), .val (.int cw), .val (.int dw), .val (.int dx)] [(.int nx), (.int (ix - off))]))
      show Go p e below _ (s₁.setTop (mkF m 9 #[.val (.int ix), .val (.int off), .val (.int nx), .val (.int cw), .val (.int dw), .val (.int dx)] [(.int nx), (.int (ix - off))]))
      refine Go.via (fun _ => XS.icmpNo X0.here hx rfl (hb hby d11_9) rfl (tlt hc103).2.1) ?_
      show Go p e below _ (s₁.setTop (mkF m 12 #[.val (.int ix), .val (.int off), .val (.int nx), .val (.int cw), .val (.int dw), .val (.int dx)] []))
      refine Go.via (fun _ => XS.iloadN X0.here hx rfl (hb hby d11_12) rfl) ?_
      show Go p e below _ (s₁.setTop (mkF m 13 #[.val (.int ix), .val (.int off), .val (.int nx), .val (.int cw), .val (.int dw), .val (.int dx)] [(.int ix)]))
      refine Go.via (fun _ => XS.iloadN X0.here hx rfl (hb hby d11_13) rfl) ?_
      show Go p e below _ (s₁.setTop (mkF m 14 #[.val (.int ix), .val (.int off), .val (.int nx), .val (.int cw), .val (.int dw), .val (.int dx)] [(.int off), (.int ix)]))
      refine Go.via (fun _ => XS.isub X0.here hx rfl (hb hby d11_14) rfl) ?_
      show Go p e below _ (s₁.setTop (mkF m 15 #[.val (.int ix), .val (.int off), .val (.int nx), .val (.int cw), .val (.int dw), .val (.int dx)] [(.int (ix - off))]))
      refine Go.via (fun _ => XS.iloadN X0.here hx rfl (hb hby d11_15) rfl) ?_
      show Go p e below _ (s₁.setTop (mkF m 16 #[.val (.int ix), .val (.int off), .val (.int nx), .val (.int cw), .val (.int dw), .val (.int dx)] [(.int cw), (.int (ix - off))]))
      obtain ⟨_, _, ⟨T104, L104, k104, n104⟩, -, X104, ⟨Lc104, hQ104, l104, y104, z104⟩, st104⟩ := Jvm.LawKit.callS X0 hx (y := (⟨"com/example/sluice/sluice/processor/FlowFileCopyContentPinLaw", "cb", "(II)B"⟩ : MethodName)) hown (mvT hZ (hw _ (List.mem_of_getElem? (i := 6) rfl))) (mvT hZ (hw _ (List.mem_of_getElem? (i := 7) rfl))) (mvT hZ (hw _ (List.mem_of_getElem? (i := 3) rfl))) (mvT hZ (hw _ (List.mem_of_getElem? (i := 8) rfl))) (by decide) (backOf (W := 0) (rmCb l Z a0 hw [] (ix - off) cw h0 n0 Z0) hZ (hw _ (List.mem_of_getElem? (i := 8) rfl)) (hw _ (List.mem_of_getElem? (i := 3) rfl)) (by decide) (by decide)) (g := (mkF m 16 #[.val (.int ix), .val (.int off), .val (.int nx), .val (.int cw), .val (.int dw), .val (.int dx)] [(.int cw), (.int (ix - off))])) rfl (by rw [hml]; rfl) (argsL := [(.int (ix - off)), (.int cw)]) (rest := []) (lenOf pd_1 rfl) rfl (by show 2 * 0 + _ ≤ _; exact Nat.le_of_eq rfl) (hb hby d11_16) (fun _ _ => ⟨rfl, e0, (by decide : 0 + 0 ≤ _), (by decide : 0 + 0 ≤ _)⟩)
      dsimp only [Pt.U, Pt.locs, Pt.cells, Pt.slots] at X104 l104 y104 z104 st104 hQ104
      rw [l104, y104, z104] at X104
      replace X104 : Stand p l e _ _ m _ below meth c T104 _ 0 0 := X104
      obtain ⟨rfl, N104q, e104q⟩ := hQ104
      have N104 := Fr.app N0 N104q
      refine Go.via st104 ?_
      show Go p e below _ (T104.setTop (mkF m 19 #[.val (.int ix), .val (.int off), .val (.int nx), .val (.int cw), .val (.int dw), .val (.int dx)] [(.int (cbF (ix - off) cw))]))
      exact own_retN X104 hx hlk (t := .byte) Bd.returns (by simp) (hb hby d11_19) (by show QEx Z ix off nx cw dw dx h0 n0 _ T104.heap _; rw [e104q]; exact ⟨by rw [exF, if_pos ⟨hc101, hc103⟩], N104, rfl⟩) (by decide) (by decide)
    · -- no
      show Go p e below _ (s₁.setTop (mkF m 9 #[.val (.int ix), .val (.int off), .val (.int nx), .val (.int cw), .val (.int dw), .val (.int dx)] [(.int nx), (.int (ix - off))]))
      show Go p e below _ (s₁.setTop (mkF m 9 #[.val (.int ix), .val (.int off), .val (.int nx), .val (.int cw), .val (.int dw), .val (.int dx)] [(.int nx), (.int (ix - off))]))
      refine Go.via (fun _ => XS.icmpYes X0.here hx rfl (pc0 := 9) (pc' := 20) rfl (hb hby d11_9) rfl (flt hc103).2.1 (by decide) (by decide)) ?_
      show Go p e below _ (s₁.setTop (mkF m 20 #[.val (.int ix), .val (.int off), .val (.int nx), .val (.int cw), .val (.int dw), .val (.int dx)] []))
      refine Go.via (fun _ => XS.iloadN X0.here hx rfl (hb hby d11_20) rfl) ?_
      show Go p e below _ (s₁.setTop (mkF m 21 #[.val (.int ix), .val (.int off), .val (.int nx), .val (.int cw), .val (.int dw), .val (.int dx)] [(.int ix)]))
      refine Go.via (fun _ => XS.iload X0.here hx rfl (hb hby d11_21) rfl) ?_
      show Go p e below _ (s₁.setTop (mkF m 23 #[.val (.int ix), .val (.int off), .val (.int nx), .val (.int cw), .val (.int dw), .val (.int dx)] [(.int dw), (.int ix)]))
      refine Go.via (fun _ => XS.iload X0.here hx rfl (hb hby d11_23) rfl) ?_
      show Go p e below _ (s₁.setTop (mkF m 25 #[.val (.int ix), .val (.int off), .val (.int nx), .val (.int cw), .val (.int dw), .val (.int dx)] [(.int dx), (.int dw), (.int ix)]))
      obtain ⟨_, _, ⟨T105, L105, k105, n105⟩, -, X105, ⟨Lc105, hQ105, l105, y105, z105⟩, st105⟩ := Jvm.LawKit.callS X0 hx (y := (⟨"com/example/sluice/sluice/processor/FlowFileCopyContentPinLaw", "db", "(III)B"⟩ : MethodName)) hown (mvT hZ (hw _ (List.mem_of_getElem? (i := 45) rfl))) (mvT hZ (hw _ (List.mem_of_getElem? (i := 46) rfl))) (mvT hZ (hw _ (List.mem_of_getElem? (i := 3) rfl))) (mvT hZ (hw _ (List.mem_of_getElem? (i := 47) rfl))) (by decide) (backOf (W := 0) (rmDb l Z a0 hw [] ix dw dx h0 n0 Z0) hZ (hw _ (List.mem_of_getElem? (i := 47) rfl)) (hw _ (List.mem_of_getElem? (i := 3) rfl)) (by decide) (by decide)) (g := (mkF m 25 #[.val (.int ix), .val (.int off), .val (.int nx), .val (.int cw), .val (.int dw), .val (.int dx)] [(.int dx), (.int dw), (.int ix)])) rfl (by rw [hml]; rfl) (argsL := [(.int ix), (.int dw), (.int dx)]) (rest := []) (lenOf pd_0 rfl) rfl (by show 2 * 0 + _ ≤ _; exact Nat.le_of_eq rfl) (hb hby d11_25) (fun _ _ => ⟨rfl, e0, (by decide : 0 + 0 ≤ _), (by decide : 0 + 0 ≤ _)⟩)
      dsimp only [Pt.U, Pt.locs, Pt.cells, Pt.slots] at X105 l105 y105 z105 st105 hQ105
      rw [l105, y105, z105] at X105
      replace X105 : Stand p l e _ _ m _ below meth c T105 _ 0 0 := X105
      obtain ⟨rfl, N105q, e105q⟩ := hQ105
      have N105 := Fr.app N0 N105q
      refine Go.via st105 ?_
      show Go p e below _ (T105.setTop (mkF m 28 #[.val (.int ix), .val (.int off), .val (.int nx), .val (.int cw), .val (.int dw), .val (.int dx)] [(.int (dbF ix dw dx))]))
      exact own_retN X105 hx hlk (t := .byte) Bd.returns (by simp) (hb hby d11_28) (by show QEx Z ix off nx cw dw dx h0 n0 _ T105.heap _; rw [e105q]; exact ⟨by rw [exF, if_neg (fun q => hc103 q.2)], N105, rfl⟩) (by decide) (by decide)
theorem ef_rmMk_0 (m : MethodId) (x1 : Int32) : entryFrame m #[(.int (0 : Int32)), (.int x1)] 2 = mkF m 0 #[.val (.int (0 : Int32)), .val (.int x1)] [] := by first | (simp [entryFrame, mkF, argsToLocals, Value.category]; done) | rfl
def QMk_0 (Z : State) (cw : Int32) (h0 : Heap) (n0 : Nat) (v : Option Value) (h : Heap) (L : List Loc) : Prop := ∃ (t : Addr) (kb : ClassId), v = some (.ref t) ∧ Fr n0 L ∧ Keep h0 h [] ∧ h0.size ≤ t ∧ Exa Z h t "[B" ∧ Arv Z h t kb .byte (0 : Int32) [] (.int (0 : Int32))
set_option maxRecDepth 65536 in
set_option maxHeartbeats 40000000 in
theorem rmMk_0 (l : Launch) (Z : State) (a0 : Array Value) (hw : ∀ d ∈ tables_1, d.before a0 Z = true) (ws : List Jvm.Cond) (cw : Int32) (h0 : Heap) (n0 : Nat) (Z0 : n0 ≤ h0.size) :
    MetFree l (⟨"com/example/sluice/sluice/processor/FlowFileCopyContentPinLaw", "makeContent", "(II)[B"⟩ : MethodName) (head1 (Jvm.Cond.code (⟨"com/example/sluice/sluice/processor/FlowFileCopyContentPinLaw", "makeContent", "(II)[B"⟩ : MethodName) method_6_code 2 (some (.array .byte)) :: ws) ({ frames := 0, cells := 1, slots := 0, locals := 0 } : Room)) (fun a U => a = #[(.int (0 : Int32)), (.int cw)] ∧ Z.Warmed39 U.vm ∧ U.heap = h0) (fun _ _ _ _ _ => True) (fun _ U o U' => ∃ v L, o = .returned v ∧ QMk_0 Z cw h0 n0 v U'.heap L ∧ FrameEnd U o U' L ({ frames := 0, cells := 1, slots := 0, locals := 0 } : Room).cells ({ frames := 0, cells := 1, slots := 0, locals := 0 } : Room).slots) := by
  refine MetFree.of_bodySF (plainFor_of_name pn_com_example_sluice_sluice_processor_FlowFileCopyContentPinLaw) hisR ?_
  intro p e s m args below meth c s₁ Bd hml0 hP hK
  obtain ⟨rfl, hZ, hh⟩ := hP
  have hx := Bd.exec
  have hby := Bd.bytes
  have hlk : meth.locks = false := Bd.notSynchronized
  have hml : c.maxLocals = 2 := hml0
  have hown : s.vm.findClass "com/example/sluice/sluice/processor/FlowFileCopyContentPinLaw" = some m.cls := findClass_of_methodNamed Bd.named
  have hnm := (name_of_methodNamed Bd.named Bd.method).1
  have X0 : Stand p l e ({ frames := 0, cells := 1, slots := 0, locals := 0 } : Room) s m #[(.int (0 : Int32)), (.int cw)] below meth c s₁ [] 0 0 := Stand.of_body Bd
  have e0 : s₁.heap = h0 := by rw [← hh, Bd.state]; rfl
  have N0 := Fr.nil n0
  show Go p e below (FinE s below (QMk_0 Z cw h0 n0) ({ frames := 0, cells := 1, slots := 0, locals := 0 } : Room).cells ({ frames := 0, cells := 1, slots := 0, locals := 0 } : Room).slots) (s₁.setTop (entryFrame m #[(.int (0 : Int32)), (.int cw)] 2))
  refine Go.via (fun t k => castTop (ef_rmMk_0 m cw) k) ?_
  show Go p e below _ (s₁.setTop (mkF m 0 #[.val (.int (0 : Int32)), .val (.int cw)] []))
  refine Go.via (fun _ => XS.iloadN X0.here hx rfl (hb hby d1_0) rfl) ?_
  show Go p e below _ (s₁.setTop (mkF m 1 #[.val (.int (0 : Int32)), .val (.int cw)] [(.int (0 : Int32))]))
  refine Go.via (fun _ => XS.ifNo X0.here hx rfl (hb hby d1_1) rfl (by decide)) ?_
  show Go p e below _ (s₁.setTop (mkF m 4 #[.val (.int (0 : Int32)), .val (.int cw)] []))
  refine Go.via (fun _ => XS.iconst X0.here hx rfl (hb hby d1_4)) ?_
  show Go p e below _ (s₁.setTop (mkF m 5 #[.val (.int (0 : Int32)), .val (.int cw)] [(.int (0 : Int32))]))
  obtain ⟨T101, h101, k101, X101, e101, E101, A101, EA101, st101⟩ := newPE X0 hx hZ (hw _ (List.mem_of_getElem? (i := 5) rfl)) e0 (g := (mkF m 5 #[.val (.int (0 : Int32)), .val (.int cw)] [(.int (0 : Int32))])) rfl (hb hby d1_5) rfl (by decide) (cap := 0) (by decide) (by decide) (by decide) (by decide) (ad := "[B") (by decide)
  obtain ⟨b101, g101⟩ : ∃ z, z = h0.size := ⟨_, rfl⟩
  rw [← g101] at A101 EA101 st101
  have g_b101 : n0 ≤ b101 := Nat.le_trans Z0 (Nat.le_of_eq g101.symm)
  have sz_b101 : h0.size ≤ b101 := Nat.le_trans (Keep.refl h0 []).1 (Nat.le_of_eq g101.symm)
  refine Go.via st101 ?_
  have Zs101 : n0 ≤ h101.size := Nat.le_trans Z0 E101.1
  have K101 : Keep h0 h101 [] := (Keep.refl h0 []).ext E101
  have V_b101 : Arv Z h101 b101 k101 .byte (0 : Int32) [] (.int (0 : Int32)) := (Arv.new A101 (by decide)).pad (pad_rep [] (.int (0 : Int32)) 0)
  show Go p e below _ (T101.setTop (mkF m 7 #[.val (.int (0 : Int32)), .val (.int cw)] [(.ref b101)]))
  exact own_retA X101 hx hlk Bd.returns rfl rfl (hb hby d1_7) (by show QMk_0 Z cw h0 n0 _ T101.heap _; rw [e101]; exact ⟨b101, k101, rfl, N0, K101, sz_b101, EA101, V_b101⟩) (by decide) (by decide)
theorem ef_rmMk_1 (m : MethodId) (x1 : Int32) : entryFrame m #[(.int (1 : Int32)), (.int x1)] 2 = mkF m 0 #[.val (.int (1 : Int32)), .val (.int x1)] [] := by first | (simp [entryFrame, mkF, argsToLocals, Value.category]; done) | rfl
def QMk_1 (Z : State) (cw : Int32) (h0 : Heap) (n0 : Nat) (v : Option Value) (h : Heap) (L : List Loc) : Prop := ∃ (t : Addr) (kb : ClassId), v = some (.ref t) ∧ Fr n0 L ∧ Keep h0 h [] ∧ h0.size ≤ t ∧ Exa Z h t "[B" ∧ Arv Z h t kb .byte (1 : Int32) [(.int (nar .byte (cbF (0 : Int32) cw)))] (.int (0 : Int32))
set_option maxRecDepth 65536 in
set_option maxHeartbeats 40000000 in
theorem rmMk_1 (l : Launch) (Z : State) (a0 : Array Value) (hw : ∀ d ∈ tables_1, d.before a0 Z = true) (ws : List Jvm.Cond) (cw : Int32) (h0 : Heap) (n0 : Nat) (Z0 : n0 ≤ h0.size) :
    MetFree l (⟨"com/example/sluice/sluice/processor/FlowFileCopyContentPinLaw", "makeContent", "(II)[B"⟩ : MethodName) (head1 (Jvm.Cond.code (⟨"com/example/sluice/sluice/processor/FlowFileCopyContentPinLaw", "makeContent", "(II)[B"⟩ : MethodName) method_6_code 2 (some (.array .byte)) :: ws) ({ frames := 1, cells := 1, slots := 1, locals := 16 } : Room)) (fun a U => a = #[(.int (1 : Int32)), (.int cw)] ∧ Z.Warmed39 U.vm ∧ U.heap = h0) (fun _ _ _ _ _ => True) (fun _ U o U' => ∃ v L, o = .returned v ∧ QMk_1 Z cw h0 n0 v U'.heap L ∧ FrameEnd U o U' L ({ frames := 1, cells := 1, slots := 1, locals := 16 } : Room).cells ({ frames := 1, cells := 1, slots := 1, locals := 16 } : Room).slots) := by
  refine MetFree.of_bodySF (plainFor_of_name pn_com_example_sluice_sluice_processor_FlowFileCopyContentPinLaw) hisR ?_
  intro p e s m args below meth c s₁ Bd hml0 hP hK
  obtain ⟨rfl, hZ, hh⟩ := hP
  have hx := Bd.exec
  have hby := Bd.bytes
  have hlk : meth.locks = false := Bd.notSynchronized
  have hml : c.maxLocals = 2 := hml0
  have hown : s.vm.findClass "com/example/sluice/sluice/processor/FlowFileCopyContentPinLaw" = some m.cls := findClass_of_methodNamed Bd.named
  have hnm := (name_of_methodNamed Bd.named Bd.method).1
  have X0 : Stand p l e ({ frames := 1, cells := 1, slots := 1, locals := 16 } : Room) s m #[(.int (1 : Int32)), (.int cw)] below meth c s₁ [] 0 0 := Stand.of_body Bd
  have e0 : s₁.heap = h0 := by rw [← hh, Bd.state]; rfl
  have N0 := Fr.nil n0
  show Go p e below (FinE s below (QMk_1 Z cw h0 n0) ({ frames := 1, cells := 1, slots := 1, locals := 16 } : Room).cells ({ frames := 1, cells := 1, slots := 1, locals := 16 } : Room).slots) (s₁.setTop (entryFrame m #[(.int (1 : Int32)), (.int cw)] 2))
  refine Go.via (fun t k => castTop (ef_rmMk_1 m cw) k) ?_
  show Go p e below _ (s₁.setTop (mkF m 0 #[.val (.int (1 : Int32)), .val (.int cw)] []))
  refine Go.via (fun _ => XS.iloadN X0.here hx rfl (hb hby d1_0) rfl) ?_
  show Go p e below _ (s₁.setTop (mkF m 1 #[.val (.int (1 : Int32)), .val (.int cw)] [(.int (1 : Int32))]))
  refine Go.via (fun _ => XS.ifYes X0.here hx rfl (pc0 := 1) (pc' := 8) rfl (hb hby d1_1) rfl (by decide) (by decide) (by decide)) ?_
  show Go p e below _ (s₁.setTop (mkF m 8 #[.val (.int (1 : Int32)), .val (.int cw)] []))
  refine Go.via (fun _ => XS.iloadN X0.here hx rfl (hb hby d1_8) rfl) ?_
  show Go p e below _ (s₁.setTop (mkF m 9 #[.val (.int (1 : Int32)), .val (.int cw)] [(.int (1 : Int32))]))
  refine Go.via (fun _ => XS.iconst X0.here hx rfl (hb hby d1_9)) ?_
  show Go p e below _ (s₁.setTop (mkF m 10 #[.val (.int (1 : Int32)), .val (.int cw)] [(.int (1 : Int32)), (.int (1 : Int32))]))
  refine Go.via (fun _ => XS.icmpNo X0.here hx rfl (hb hby d1_10) rfl (by decide)) ?_
  show Go p e below _ (s₁.setTop (mkF m 13 #[.val (.int (1 : Int32)), .val (.int cw)] []))
  refine Go.via (fun _ => XS.iconst X0.here hx rfl (hb hby d1_13)) ?_
  show Go p e below _ (s₁.setTop (mkF m 14 #[.val (.int (1 : Int32)), .val (.int cw)] [(.int (1 : Int32))]))
  obtain ⟨T101, h101, k101, X101, e101, E101, A101, EA101, st101⟩ := newPE X0 hx hZ (hw _ (List.mem_of_getElem? (i := 5) rfl)) e0 (g := (mkF m 14 #[.val (.int (1 : Int32)), .val (.int cw)] [(.int (1 : Int32))])) rfl (hb hby d1_14) rfl (by decide) (cap := 1) (by decide) (by decide) (by decide) (by decide) (ad := "[B") (by decide)
  obtain ⟨b101, g101⟩ : ∃ z, z = h0.size := ⟨_, rfl⟩
  rw [← g101] at A101 EA101 st101
  have g_b101 : n0 ≤ b101 := Nat.le_trans Z0 (Nat.le_of_eq g101.symm)
  have sz_b101 : h0.size ≤ b101 := Nat.le_trans (Keep.refl h0 []).1 (Nat.le_of_eq g101.symm)
  refine Go.via st101 ?_
  have Zs101 : n0 ≤ h101.size := Nat.le_trans Z0 E101.1
  have K101 : Keep h0 h101 [] := (Keep.refl h0 []).ext E101
  have V_b101 : Arv Z h101 b101 k101 .byte (1 : Int32) [(.int (0 : Int32))] (.int (0 : Int32)) := (Arv.new A101 (by decide)).pad (pad_rep [] (.int (0 : Int32)) 1)
  show Go p e below _ (T101.setTop (mkF m 16 #[.val (.int (1 : Int32)), .val (.int cw)] [(.ref b101)]))
  refine Go.via (fun _ => XS.dup X101.here hx rfl (hb hby d1_16) rfl rfl) ?_
  show Go p e below _ (T101.setTop (mkF m 17 #[.val (.int (1 : Int32)), .val (.int cw)] [(.ref b101), (.ref b101)]))
  refine Go.via (fun _ => XS.iconst X101.here hx rfl (hb hby d1_17)) ?_
  show Go p e below _ (T101.setTop (mkF m 18 #[.val (.int (1 : Int32)), .val (.int cw)] [(.int (0 : Int32)), (.ref b101), (.ref b101)]))
  refine Go.via (fun _ => XS.iconst X101.here hx rfl (hb hby d1_18)) ?_
  show Go p e below _ (T101.setTop (mkF m 19 #[.val (.int (1 : Int32)), .val (.int cw)] [(.int (0 : Int32)), (.int (0 : Int32)), (.ref b101), (.ref b101)]))
  refine Go.via (fun _ => XS.iloadN X101.here hx rfl (hb hby d1_19) rfl) ?_
  show Go p e below _ (T101.setTop (mkF m 20 #[.val (.int (1 : Int32)), .val (.int cw)] [(.int cw), (.int (0 : Int32)), (.int (0 : Int32)), (.ref b101), (.ref b101)]))
  obtain ⟨_, _, ⟨T102, L102, k102, n102⟩, -, X102, ⟨Lc102, hQ102, l102, y102, z102⟩, st102⟩ := Jvm.LawKit.callS X101 hx (y := (⟨"com/example/sluice/sluice/processor/FlowFileCopyContentPinLaw", "cb", "(II)B"⟩ : MethodName)) hown (mvT hZ (hw _ (List.mem_of_getElem? (i := 6) rfl))) (mvT hZ (hw _ (List.mem_of_getElem? (i := 7) rfl))) (mvT hZ (hw _ (List.mem_of_getElem? (i := 3) rfl))) (mvT hZ (hw _ (List.mem_of_getElem? (i := 8) rfl))) (by decide) (backOf (W := 3) (rmCb l Z a0 hw [] (0 : Int32) cw h101 n0 Zs101) hZ (hw _ (List.mem_of_getElem? (i := 8) rfl)) (hw _ (List.mem_of_getElem? (i := 3) rfl)) (by decide) (by decide)) (g := (mkF m 20 #[.val (.int (1 : Int32)), .val (.int cw)] [(.int cw), (.int (0 : Int32)), (.int (0 : Int32)), (.ref b101), (.ref b101)])) rfl (by rw [hml]; rfl) (argsL := [(.int (0 : Int32)), (.int cw)]) (rest := [(.int (0 : Int32)), (.ref b101), (.ref b101)]) (lenOf pd_1 rfl) rfl (by show 2 * 0 + _ ≤ _; exact Nat.le_of_eq rfl) (hb hby d1_20) (fun _ _ => ⟨rfl, e101, (by decide : 1 + 0 ≤ _), (by decide : 1 + 0 ≤ _)⟩)
  dsimp only [Pt.U, Pt.locs, Pt.cells, Pt.slots] at X102 l102 y102 z102 st102 hQ102
  rw [l102, y102, z102] at X102
  replace X102 : Stand p l e _ _ m _ below meth c T102 _ 1 1 := X102
  obtain ⟨rfl, N102q, e102q⟩ := hQ102
  have N102 := Fr.app N0 N102q
  refine Go.via st102 ?_
  show Go p e below _ (T102.setTop (mkF m 23 #[.val (.int (1 : Int32)), .val (.int cw)] [(.int (cbF (0 : Int32) cw)), (.int (0 : Int32)), (.ref b101), (.ref b101)]))
  obtain ⟨cl103, Ar103, q103, S103, N103n, H103, G103⟩ := id V_b101
  have hin103 := inb_of (j := (0 : Int32)) S103 (by decide)
  obtain ⟨T103, h103, X103, e103, W103, st103⟩ := stB X102 hx hZ e102q Ar103 (j := (0 : Int32)) hin103 (g := (mkF m 23 #[.val (.int (1 : Int32)), .val (.int cw)] [(.int (cbF (0 : Int32) cw)), (.int (0 : Int32)), (.ref b101), (.ref b101)])) rfl rfl (hb hby d1_23)
  refine Go.via st103 ?_
  have V103 : Arv Z h103 b101 k101 .byte (1 : Int32) [(.int (nar .byte (cbF (0 : Int32) cw)))] (.int (0 : Int32)) := Arv.set Ar103 q103 S103 N103n H103 G103 (fits_nar_byte _) W103 0 rfl (Nat.le_of_ble_eq_true rfl)
  have Zs103 : n0 ≤ h103.size := Nat.le_trans Zs101 (Keep.of_wr W103).1
  have K103 : Keep h0 h103 [] := K101.wr W103 (Or.inr sz_b101)
  have N103 := Fr.snoc X103 N102 g_b101
  have fE_b101_103 := EA101.wr W103
  show Go p e below _ (T103.setTop (mkF m 24 #[.val (.int (1 : Int32)), .val (.int cw)] [(.ref b101)]))
  exact own_retA X103 hx hlk Bd.returns rfl rfl (hb hby d1_24) (by show QMk_1 Z cw h0 n0 _ T103.heap _; rw [e103]; exact ⟨b101, k101, rfl, N103, K103, sz_b101, fE_b101_103, V103⟩) (by decide) (by decide)
theorem ef_rmMk_2 (m : MethodId) (x1 : Int32) : entryFrame m #[(.int (2 : Int32)), (.int x1)] 2 = mkF m 0 #[.val (.int (2 : Int32)), .val (.int x1)] [] := by first | (simp [entryFrame, mkF, argsToLocals, Value.category]; done) | rfl
def QMk_2 (Z : State) (cw : Int32) (h0 : Heap) (n0 : Nat) (v : Option Value) (h : Heap) (L : List Loc) : Prop := ∃ (t : Addr) (kb : ClassId), v = some (.ref t) ∧ Fr n0 L ∧ Keep h0 h [] ∧ h0.size ≤ t ∧ Exa Z h t "[B" ∧ Arv Z h t kb .byte (2 : Int32) [(.int (nar .byte (cbF (0 : Int32) cw))), (.int (nar .byte (cbF (1 : Int32) cw)))] (.int (0 : Int32))
set_option maxRecDepth 65536 in
set_option maxHeartbeats 40000000 in
theorem rmMk_2 (l : Launch) (Z : State) (a0 : Array Value) (hw : ∀ d ∈ tables_1, d.before a0 Z = true) (ws : List Jvm.Cond) (cw : Int32) (h0 : Heap) (n0 : Nat) (Z0 : n0 ≤ h0.size) :
    MetFree l (⟨"com/example/sluice/sluice/processor/FlowFileCopyContentPinLaw", "makeContent", "(II)[B"⟩ : MethodName) (head1 (Jvm.Cond.code (⟨"com/example/sluice/sluice/processor/FlowFileCopyContentPinLaw", "makeContent", "(II)[B"⟩ : MethodName) method_6_code 2 (some (.array .byte)) :: ws) ({ frames := 1, cells := 1, slots := 2, locals := 16 } : Room)) (fun a U => a = #[(.int (2 : Int32)), (.int cw)] ∧ Z.Warmed39 U.vm ∧ U.heap = h0) (fun _ _ _ _ _ => True) (fun _ U o U' => ∃ v L, o = .returned v ∧ QMk_2 Z cw h0 n0 v U'.heap L ∧ FrameEnd U o U' L ({ frames := 1, cells := 1, slots := 2, locals := 16 } : Room).cells ({ frames := 1, cells := 1, slots := 2, locals := 16 } : Room).slots) := by
  refine MetFree.of_bodySF (plainFor_of_name pn_com_example_sluice_sluice_processor_FlowFileCopyContentPinLaw) hisR ?_
  intro p e s m args below meth c s₁ Bd hml0 hP hK
  obtain ⟨rfl, hZ, hh⟩ := hP
  have hx := Bd.exec
  have hby := Bd.bytes
  have hlk : meth.locks = false := Bd.notSynchronized
  have hml : c.maxLocals = 2 := hml0
  have hown : s.vm.findClass "com/example/sluice/sluice/processor/FlowFileCopyContentPinLaw" = some m.cls := findClass_of_methodNamed Bd.named
  have hnm := (name_of_methodNamed Bd.named Bd.method).1
  have X0 : Stand p l e ({ frames := 1, cells := 1, slots := 2, locals := 16 } : Room) s m #[(.int (2 : Int32)), (.int cw)] below meth c s₁ [] 0 0 := Stand.of_body Bd
  have e0 : s₁.heap = h0 := by rw [← hh, Bd.state]; rfl
  have N0 := Fr.nil n0
  show Go p e below (FinE s below (QMk_2 Z cw h0 n0) ({ frames := 1, cells := 1, slots := 2, locals := 16 } : Room).cells ({ frames := 1, cells := 1, slots := 2, locals := 16 } : Room).slots) (s₁.setTop (entryFrame m #[(.int (2 : Int32)), (.int cw)] 2))
  refine Go.via (fun t k => castTop (ef_rmMk_2 m cw) k) ?_
  show Go p e below _ (s₁.setTop (mkF m 0 #[.val (.int (2 : Int32)), .val (.int cw)] []))
  refine Go.via (fun _ => XS.iloadN X0.here hx rfl (hb hby d1_0) rfl) ?_
  show Go p e below _ (s₁.setTop (mkF m 1 #[.val (.int (2 : Int32)), .val (.int cw)] [(.int (2 : Int32))]))
  refine Go.via (fun _ => XS.ifYes X0.here hx rfl (pc0 := 1) (pc' := 8) rfl (hb hby d1_1) rfl (by decide) (by decide) (by decide)) ?_
  show Go p e below _ (s₁.setTop (mkF m 8 #[.val (.int (2 : Int32)), .val (.int cw)] []))
  refine Go.via (fun _ => XS.iloadN X0.here hx rfl (hb hby d1_8) rfl) ?_
  show Go p e below _ (s₁.setTop (mkF m 9 #[.val (.int (2 : Int32)), .val (.int cw)] [(.int (2 : Int32))]))
  refine Go.via (fun _ => XS.iconst X0.here hx rfl (hb hby d1_9)) ?_
  show Go p e below _ (s₁.setTop (mkF m 10 #[.val (.int (2 : Int32)), .val (.int cw)] [(.int (1 : Int32)), (.int (2 : Int32))]))
  refine Go.via (fun _ => XS.icmpYes X0.here hx rfl (pc0 := 10) (pc' := 25) rfl (hb hby d1_10) rfl (by decide) (by decide) (by decide)) ?_
  show Go p e below _ (s₁.setTop (mkF m 25 #[.val (.int (2 : Int32)), .val (.int cw)] []))
  refine Go.via (fun _ => XS.iloadN X0.here hx rfl (hb hby d1_25) rfl) ?_
  show Go p e below _ (s₁.setTop (mkF m 26 #[.val (.int (2 : Int32)), .val (.int cw)] [(.int (2 : Int32))]))
  refine Go.via (fun _ => XS.iconst X0.here hx rfl (hb hby d1_26)) ?_
  show Go p e below _ (s₁.setTop (mkF m 27 #[.val (.int (2 : Int32)), .val (.int cw)] [(.int (2 : Int32)), (.int (2 : Int32))]))
  refine Go.via (fun _ => XS.icmpNo X0.here hx rfl (hb hby d1_27) rfl (by decide)) ?_
  show Go p e below _ (s₁.setTop (mkF m 30 #[.val (.int (2 : Int32)), .val (.int cw)] []))
  refine Go.via (fun _ => XS.iconst X0.here hx rfl (hb hby d1_30)) ?_
  show Go p e below _ (s₁.setTop (mkF m 31 #[.val (.int (2 : Int32)), .val (.int cw)] [(.int (2 : Int32))]))
  obtain ⟨T101, h101, k101, X101, e101, E101, A101, EA101, st101⟩ := newPE X0 hx hZ (hw _ (List.mem_of_getElem? (i := 5) rfl)) e0 (g := (mkF m 31 #[.val (.int (2 : Int32)), .val (.int cw)] [(.int (2 : Int32))])) rfl (hb hby d1_31) rfl (by decide) (cap := 2) (by decide) (by decide) (by decide) (by decide) (ad := "[B") (by decide)
  obtain ⟨b101, g101⟩ : ∃ z, z = h0.size := ⟨_, rfl⟩
  rw [← g101] at A101 EA101 st101
  have g_b101 : n0 ≤ b101 := Nat.le_trans Z0 (Nat.le_of_eq g101.symm)
  have sz_b101 : h0.size ≤ b101 := Nat.le_trans (Keep.refl h0 []).1 (Nat.le_of_eq g101.symm)
  refine Go.via st101 ?_
  have Zs101 : n0 ≤ h101.size := Nat.le_trans Z0 E101.1
  have K101 : Keep h0 h101 [] := (Keep.refl h0 []).ext E101
  have V_b101 : Arv Z h101 b101 k101 .byte (2 : Int32) [(.int (0 : Int32)), (.int (0 : Int32))] (.int (0 : Int32)) := (Arv.new A101 (by decide)).pad (pad_rep [] (.int (0 : Int32)) 2)
  show Go p e below _ (T101.setTop (mkF m 33 #[.val (.int (2 : Int32)), .val (.int cw)] [(.ref b101)]))
  refine Go.via (fun _ => XS.dup X101.here hx rfl (hb hby d1_33) rfl rfl) ?_
  show Go p e below _ (T101.setTop (mkF m 34 #[.val (.int (2 : Int32)), .val (.int cw)] [(.ref b101), (.ref b101)]))
  refine Go.via (fun _ => XS.iconst X101.here hx rfl (hb hby d1_34)) ?_
  show Go p e below _ (T101.setTop (mkF m 35 #[.val (.int (2 : Int32)), .val (.int cw)] [(.int (0 : Int32)), (.ref b101), (.ref b101)]))
  refine Go.via (fun _ => XS.iconst X101.here hx rfl (hb hby d1_35)) ?_
  show Go p e below _ (T101.setTop (mkF m 36 #[.val (.int (2 : Int32)), .val (.int cw)] [(.int (0 : Int32)), (.int (0 : Int32)), (.ref b101), (.ref b101)]))
  refine Go.via (fun _ => XS.iloadN X101.here hx rfl (hb hby d1_36) rfl) ?_
  show Go p e below _ (T101.setTop (mkF m 37 #[.val (.int (2 : Int32)), .val (.int cw)] [(.int cw), (.int (0 : Int32)), (.int (0 : Int32)), (.ref b101), (.ref b101)]))
  obtain ⟨_, _, ⟨T102, L102, k102, n102⟩, -, X102, ⟨Lc102, hQ102, l102, y102, z102⟩, st102⟩ := Jvm.LawKit.callS X101 hx (y := (⟨"com/example/sluice/sluice/processor/FlowFileCopyContentPinLaw", "cb", "(II)B"⟩ : MethodName)) hown (mvT hZ (hw _ (List.mem_of_getElem? (i := 6) rfl))) (mvT hZ (hw _ (List.mem_of_getElem? (i := 7) rfl))) (mvT hZ (hw _ (List.mem_of_getElem? (i := 3) rfl))) (mvT hZ (hw _ (List.mem_of_getElem? (i := 8) rfl))) (by decide) (backOf (W := 3) (rmCb l Z a0 hw [] (0 : Int32) cw h101 n0 Zs101) hZ (hw _ (List.mem_of_getElem? (i := 8) rfl)) (hw _ (List.mem_of_getElem? (i := 3) rfl)) (by decide) (by decide)) (g := (mkF m 37 #[.val (.int (2 : Int32)), .val (.int cw)] [(.int cw), (.int (0 : Int32)), (.int (0 : Int32)), (.ref b101), (.ref b101)])) rfl (by rw [hml]; rfl) (argsL := [(.int (0 : Int32)), (.int cw)]) (rest := [(.int (0 : Int32)), (.ref b101), (.ref b101)]) (lenOf pd_1 rfl) rfl (by show 2 * 0 + _ ≤ _; exact Nat.le_of_eq rfl) (hb hby d1_37) (fun _ _ => ⟨rfl, e101, (by decide : 1 + 0 ≤ _), (by decide : 2 + 0 ≤ _)⟩)
  dsimp only [Pt.U, Pt.locs, Pt.cells, Pt.slots] at X102 l102 y102 z102 st102 hQ102
  rw [l102, y102, z102] at X102
  replace X102 : Stand p l e _ _ m _ below meth c T102 _ 1 2 := X102
  obtain ⟨rfl, N102q, e102q⟩ := hQ102
  have N102 := Fr.app N0 N102q
  refine Go.via st102 ?_
  show Go p e below _ (T102.setTop (mkF m 40 #[.val (.int (2 : Int32)), .val (.int cw)] [(.int (cbF (0 : Int32) cw)), (.int (0 : Int32)), (.ref b101), (.ref b101)]))
  obtain ⟨cl103, Ar103, q103, S103, N103n, H103, G103⟩ := id V_b101
  have hin103 := inb_of (j := (0 : Int32)) S103 (by decide)
  obtain ⟨T103, h103, X103, e103, W103, st103⟩ := stB X102 hx hZ e102q Ar103 (j := (0 : Int32)) hin103 (g := (mkF m 40 #[.val (.int (2 : Int32)), .val (.int cw)] [(.int (cbF (0 : Int32) cw)), (.int (0 : Int32)), (.ref b101), (.ref b101)])) rfl rfl (hb hby d1_40)
  refine Go.via st103 ?_
  have V103 : Arv Z h103 b101 k101 .byte (2 : Int32) [(.int (nar .byte (cbF (0 : Int32) cw))), (.int (0 : Int32))] (.int (0 : Int32)) := Arv.set Ar103 q103 S103 N103n H103 G103 (fits_nar_byte _) W103 0 rfl (Nat.le_of_ble_eq_true rfl)
  have Zs103 : n0 ≤ h103.size := Nat.le_trans Zs101 (Keep.of_wr W103).1
  have K103 : Keep h0 h103 [] := K101.wr W103 (Or.inr sz_b101)
  have N103 := Fr.snoc X103 N102 g_b101
  have fE_b101_103 := EA101.wr W103
  show Go p e below _ (T103.setTop (mkF m 41 #[.val (.int (2 : Int32)), .val (.int cw)] [(.ref b101)]))
  refine Go.via (fun _ => XS.dup X103.here hx rfl (hb hby d1_41) rfl rfl) ?_
  show Go p e below _ (T103.setTop (mkF m 42 #[.val (.int (2 : Int32)), .val (.int cw)] [(.ref b101), (.ref b101)]))
  refine Go.via (fun _ => XS.iconst X103.here hx rfl (hb hby d1_42)) ?_
  show Go p e below _ (T103.setTop (mkF m 43 #[.val (.int (2 : Int32)), .val (.int cw)] [(.int (1 : Int32)), (.ref b101), (.ref b101)]))
  refine Go.via (fun _ => XS.iconst X103.here hx rfl (hb hby d1_43)) ?_
  show Go p e below _ (T103.setTop (mkF m 44 #[.val (.int (2 : Int32)), .val (.int cw)] [(.int (1 : Int32)), (.int (1 : Int32)), (.ref b101), (.ref b101)]))
  refine Go.via (fun _ => XS.iloadN X103.here hx rfl (hb hby d1_44) rfl) ?_
  show Go p e below _ (T103.setTop (mkF m 45 #[.val (.int (2 : Int32)), .val (.int cw)] [(.int cw), (.int (1 : Int32)), (.int (1 : Int32)), (.ref b101), (.ref b101)]))
  obtain ⟨_, _, ⟨T104, L104, k104, n104⟩, -, X104, ⟨Lc104, hQ104, l104, y104, z104⟩, st104⟩ := Jvm.LawKit.callS X103 hx (y := (⟨"com/example/sluice/sluice/processor/FlowFileCopyContentPinLaw", "cb", "(II)B"⟩ : MethodName)) hown (mvT hZ (hw _ (List.mem_of_getElem? (i := 6) rfl))) (mvT hZ (hw _ (List.mem_of_getElem? (i := 7) rfl))) (mvT hZ (hw _ (List.mem_of_getElem? (i := 3) rfl))) (mvT hZ (hw _ (List.mem_of_getElem? (i := 8) rfl))) (by decide) (backOf (W := 3) (rmCb l Z a0 hw [] (1 : Int32) cw h103 n0 Zs103) hZ (hw _ (List.mem_of_getElem? (i := 8) rfl)) (hw _ (List.mem_of_getElem? (i := 3) rfl)) (by decide) (by decide)) (g := (mkF m 45 #[.val (.int (2 : Int32)), .val (.int cw)] [(.int cw), (.int (1 : Int32)), (.int (1 : Int32)), (.ref b101), (.ref b101)])) rfl (by rw [hml]; rfl) (argsL := [(.int (1 : Int32)), (.int cw)]) (rest := [(.int (1 : Int32)), (.ref b101), (.ref b101)]) (lenOf pd_1 rfl) rfl (by show 2 * 0 + _ ≤ _; exact Nat.le_of_eq rfl) (hb hby d1_45) (fun _ _ => ⟨rfl, e103, (by decide : 1 + 0 ≤ _), (by decide : 2 + 0 ≤ _)⟩)
  dsimp only [Pt.U, Pt.locs, Pt.cells, Pt.slots] at X104 l104 y104 z104 st104 hQ104
  rw [l104, y104, z104] at X104
  replace X104 : Stand p l e _ _ m _ below meth c T104 _ 1 2 := X104
  obtain ⟨rfl, N104q, e104q⟩ := hQ104
  have N104 := Fr.app N103 N104q
  refine Go.via st104 ?_
  show Go p e below _ (T104.setTop (mkF m 48 #[.val (.int (2 : Int32)), .val (.int cw)] [(.int (cbF (1 : Int32) cw)), (.int (1 : Int32)), (.ref b101), (.ref b101)]))
  obtain ⟨cl105, Ar105, q105, S105, N105n, H105, G105⟩ := id V103
  have hin105 := inb_of (j := (1 : Int32)) S105 (by decide)
  obtain ⟨T105, h105, X105, e105, W105, st105⟩ := stB X104 hx hZ e104q Ar105 (j := (1 : Int32)) hin105 (g := (mkF m 48 #[.val (.int (2 : Int32)), .val (.int cw)] [(.int (cbF (1 : Int32) cw)), (.int (1 : Int32)), (.ref b101), (.ref b101)])) rfl rfl (hb hby d1_48)
  refine Go.via st105 ?_
  have V105 : Arv Z h105 b101 k101 .byte (2 : Int32) [(.int (nar .byte (cbF (0 : Int32) cw))), (.int (nar .byte (cbF (1 : Int32) cw)))] (.int (0 : Int32)) := Arv.set Ar105 q105 S105 N105n H105 G105 (fits_nar_byte _) W105 1 rfl (Nat.le_of_ble_eq_true rfl)
  have Zs105 : n0 ≤ h105.size := Nat.le_trans Zs103 (Keep.of_wr W105).1
  have K105 : Keep h0 h105 [] := K103.wr W105 (Or.inr sz_b101)
  have N105 := Fr.snoc X105 N104 g_b101
  have fE_b101_105 := fE_b101_103.wr W105
  show Go p e below _ (T105.setTop (mkF m 49 #[.val (.int (2 : Int32)), .val (.int cw)] [(.ref b101)]))
  exact own_retA X105 hx hlk Bd.returns rfl rfl (hb hby d1_49) (by show QMk_2 Z cw h0 n0 _ T105.heap _; rw [e105]; exact ⟨b101, k101, rfl, N105, K105, sz_b101, fE_b101_105, V105⟩) (by decide) (by decide)
theorem ef_rmMk_3 (m : MethodId) (x1 : Int32) : entryFrame m #[(.int (3 : Int32)), (.int x1)] 2 = mkF m 0 #[.val (.int (3 : Int32)), .val (.int x1)] [] := by first | (simp [entryFrame, mkF, argsToLocals, Value.category]; done) | rfl
def QMk_3 (Z : State) (cw : Int32) (h0 : Heap) (n0 : Nat) (v : Option Value) (h : Heap) (L : List Loc) : Prop := ∃ (t : Addr) (kb : ClassId), v = some (.ref t) ∧ Fr n0 L ∧ Keep h0 h [] ∧ h0.size ≤ t ∧ Exa Z h t "[B" ∧ Arv Z h t kb .byte (3 : Int32) [(.int (nar .byte (cbF (0 : Int32) cw))), (.int (nar .byte (cbF (1 : Int32) cw))), (.int (nar .byte (cbF (2 : Int32) cw)))] (.int (0 : Int32))
set_option maxRecDepth 65536 in
set_option maxHeartbeats 40000000 in
theorem rmMk_3 (l : Launch) (Z : State) (a0 : Array Value) (hw : ∀ d ∈ tables_1, d.before a0 Z = true) (ws : List Jvm.Cond) (cw : Int32) (h0 : Heap) (n0 : Nat) (Z0 : n0 ≤ h0.size) :
    MetFree l (⟨"com/example/sluice/sluice/processor/FlowFileCopyContentPinLaw", "makeContent", "(II)[B"⟩ : MethodName) (head1 (Jvm.Cond.code (⟨"com/example/sluice/sluice/processor/FlowFileCopyContentPinLaw", "makeContent", "(II)[B"⟩ : MethodName) method_6_code 2 (some (.array .byte)) :: ws) ({ frames := 1, cells := 1, slots := 3, locals := 16 } : Room)) (fun a U => a = #[(.int (3 : Int32)), (.int cw)] ∧ Z.Warmed39 U.vm ∧ U.heap = h0) (fun _ _ _ _ _ => True) (fun _ U o U' => ∃ v L, o = .returned v ∧ QMk_3 Z cw h0 n0 v U'.heap L ∧ FrameEnd U o U' L ({ frames := 1, cells := 1, slots := 3, locals := 16 } : Room).cells ({ frames := 1, cells := 1, slots := 3, locals := 16 } : Room).slots) := by
  refine MetFree.of_bodySF (plainFor_of_name pn_com_example_sluice_sluice_processor_FlowFileCopyContentPinLaw) hisR ?_
  intro p e s m args below meth c s₁ Bd hml0 hP hK
  obtain ⟨rfl, hZ, hh⟩ := hP
  have hx := Bd.exec
  have hby := Bd.bytes
  have hlk : meth.locks = false := Bd.notSynchronized
  have hml : c.maxLocals = 2 := hml0
  have hown : s.vm.findClass "com/example/sluice/sluice/processor/FlowFileCopyContentPinLaw" = some m.cls := findClass_of_methodNamed Bd.named
  have hnm := (name_of_methodNamed Bd.named Bd.method).1
  have X0 : Stand p l e ({ frames := 1, cells := 1, slots := 3, locals := 16 } : Room) s m #[(.int (3 : Int32)), (.int cw)] below meth c s₁ [] 0 0 := Stand.of_body Bd
  have e0 : s₁.heap = h0 := by rw [← hh, Bd.state]; rfl
  have N0 := Fr.nil n0
  show Go p e below (FinE s below (QMk_3 Z cw h0 n0) ({ frames := 1, cells := 1, slots := 3, locals := 16 } : Room).cells ({ frames := 1, cells := 1, slots := 3, locals := 16 } : Room).slots) (s₁.setTop (entryFrame m #[(.int (3 : Int32)), (.int cw)] 2))
  refine Go.via (fun t k => castTop (ef_rmMk_3 m cw) k) ?_
  show Go p e below _ (s₁.setTop (mkF m 0 #[.val (.int (3 : Int32)), .val (.int cw)] []))
  refine Go.via (fun _ => XS.iloadN X0.here hx rfl (hb hby d1_0) rfl) ?_
  show Go p e below _ (s₁.setTop (mkF m 1 #[.val (.int (3 : Int32)), .val (.int cw)] [(.int (3 : Int32))]))
  refine Go.via (fun _ => XS.ifYes X0.here hx rfl (pc0 := 1) (pc' := 8) rfl (hb hby d1_1) rfl (by decide) (by decide) (by decide)) ?_
  show Go p e below _ (s₁.setTop (mkF m 8 #[.val (.int (3 : Int32)), .val (.int cw)] []))
  refine Go.via (fun _ => XS.iloadN X0.here hx rfl (hb hby d1_8) rfl) ?_
  show Go p e below _ (s₁.setTop (mkF m 9 #[.val (.int (3 : Int32)), .val (.int cw)] [(.int (3 : Int32))]))
  refine Go.via (fun _ => XS.iconst X0.here hx rfl (hb hby d1_9)) ?_
  show Go p e below _ (s₁.setTop (mkF m 10 #[.val (.int (3 : Int32)), .val (.int cw)] [(.int (1 : Int32)), (.int (3 : Int32))]))
  refine Go.via (fun _ => XS.icmpYes X0.here hx rfl (pc0 := 10) (pc' := 25) rfl (hb hby d1_10) rfl (by decide) (by decide) (by decide)) ?_
  show Go p e below _ (s₁.setTop (mkF m 25 #[.val (.int (3 : Int32)), .val (.int cw)] []))
  refine Go.via (fun _ => XS.iloadN X0.here hx rfl (hb hby d1_25) rfl) ?_
  show Go p e below _ (s₁.setTop (mkF m 26 #[.val (.int (3 : Int32)), .val (.int cw)] [(.int (3 : Int32))]))
  refine Go.via (fun _ => XS.iconst X0.here hx rfl (hb hby d1_26)) ?_
  show Go p e below _ (s₁.setTop (mkF m 27 #[.val (.int (3 : Int32)), .val (.int cw)] [(.int (2 : Int32)), (.int (3 : Int32))]))
  refine Go.via (fun _ => XS.icmpYes X0.here hx rfl (pc0 := 27) (pc' := 50) rfl (hb hby d1_27) rfl (by decide) (by decide) (by decide)) ?_
  show Go p e below _ (s₁.setTop (mkF m 50 #[.val (.int (3 : Int32)), .val (.int cw)] []))
  refine Go.via (fun _ => XS.iloadN X0.here hx rfl (hb hby d1_50) rfl) ?_
  show Go p e below _ (s₁.setTop (mkF m 51 #[.val (.int (3 : Int32)), .val (.int cw)] [(.int (3 : Int32))]))
  refine Go.via (fun _ => XS.iconst X0.here hx rfl (hb hby d1_51)) ?_
  show Go p e below _ (s₁.setTop (mkF m 52 #[.val (.int (3 : Int32)), .val (.int cw)] [(.int (3 : Int32)), (.int (3 : Int32))]))
  refine Go.via (fun _ => XS.icmpNo X0.here hx rfl (hb hby d1_52) rfl (by decide)) ?_
  show Go p e below _ (s₁.setTop (mkF m 55 #[.val (.int (3 : Int32)), .val (.int cw)] []))
  refine Go.via (fun _ => XS.iconst X0.here hx rfl (hb hby d1_55)) ?_
  show Go p e below _ (s₁.setTop (mkF m 56 #[.val (.int (3 : Int32)), .val (.int cw)] [(.int (3 : Int32))]))
  obtain ⟨T101, h101, k101, X101, e101, E101, A101, EA101, st101⟩ := newPE X0 hx hZ (hw _ (List.mem_of_getElem? (i := 5) rfl)) e0 (g := (mkF m 56 #[.val (.int (3 : Int32)), .val (.int cw)] [(.int (3 : Int32))])) rfl (hb hby d1_56) rfl (by decide) (cap := 3) (by decide) (by decide) (by decide) (by decide) (ad := "[B") (by decide)
  obtain ⟨b101, g101⟩ : ∃ z, z = h0.size := ⟨_, rfl⟩
  rw [← g101] at A101 EA101 st101
  have g_b101 : n0 ≤ b101 := Nat.le_trans Z0 (Nat.le_of_eq g101.symm)
  have sz_b101 : h0.size ≤ b101 := Nat.le_trans (Keep.refl h0 []).1 (Nat.le_of_eq g101.symm)
  refine Go.via st101 ?_
  have Zs101 : n0 ≤ h101.size := Nat.le_trans Z0 E101.1
  have K101 : Keep h0 h101 [] := (Keep.refl h0 []).ext E101
  have V_b101 : Arv Z h101 b101 k101 .byte (3 : Int32) [(.int (0 : Int32)), (.int (0 : Int32)), (.int (0 : Int32))] (.int (0 : Int32)) := (Arv.new A101 (by decide)).pad (pad_rep [] (.int (0 : Int32)) 3)
  show Go p e below _ (T101.setTop (mkF m 58 #[.val (.int (3 : Int32)), .val (.int cw)] [(.ref b101)]))
  refine Go.via (fun _ => XS.dup X101.here hx rfl (hb hby d1_58) rfl rfl) ?_
  show Go p e below _ (T101.setTop (mkF m 59 #[.val (.int (3 : Int32)), .val (.int cw)] [(.ref b101), (.ref b101)]))
  refine Go.via (fun _ => XS.iconst X101.here hx rfl (hb hby d1_59)) ?_
  show Go p e below _ (T101.setTop (mkF m 60 #[.val (.int (3 : Int32)), .val (.int cw)] [(.int (0 : Int32)), (.ref b101), (.ref b101)]))
  refine Go.via (fun _ => XS.iconst X101.here hx rfl (hb hby d1_60)) ?_
  show Go p e below _ (T101.setTop (mkF m 61 #[.val (.int (3 : Int32)), .val (.int cw)] [(.int (0 : Int32)), (.int (0 : Int32)), (.ref b101), (.ref b101)]))
  refine Go.via (fun _ => XS.iloadN X101.here hx rfl (hb hby d1_61) rfl) ?_
  show Go p e below _ (T101.setTop (mkF m 62 #[.val (.int (3 : Int32)), .val (.int cw)] [(.int cw), (.int (0 : Int32)), (.int (0 : Int32)), (.ref b101), (.ref b101)]))
  obtain ⟨_, _, ⟨T102, L102, k102, n102⟩, -, X102, ⟨Lc102, hQ102, l102, y102, z102⟩, st102⟩ := Jvm.LawKit.callS X101 hx (y := (⟨"com/example/sluice/sluice/processor/FlowFileCopyContentPinLaw", "cb", "(II)B"⟩ : MethodName)) hown (mvT hZ (hw _ (List.mem_of_getElem? (i := 6) rfl))) (mvT hZ (hw _ (List.mem_of_getElem? (i := 7) rfl))) (mvT hZ (hw _ (List.mem_of_getElem? (i := 3) rfl))) (mvT hZ (hw _ (List.mem_of_getElem? (i := 8) rfl))) (by decide) (backOf (W := 3) (rmCb l Z a0 hw [] (0 : Int32) cw h101 n0 Zs101) hZ (hw _ (List.mem_of_getElem? (i := 8) rfl)) (hw _ (List.mem_of_getElem? (i := 3) rfl)) (by decide) (by decide)) (g := (mkF m 62 #[.val (.int (3 : Int32)), .val (.int cw)] [(.int cw), (.int (0 : Int32)), (.int (0 : Int32)), (.ref b101), (.ref b101)])) rfl (by rw [hml]; rfl) (argsL := [(.int (0 : Int32)), (.int cw)]) (rest := [(.int (0 : Int32)), (.ref b101), (.ref b101)]) (lenOf pd_1 rfl) rfl (by show 2 * 0 + _ ≤ _; exact Nat.le_of_eq rfl) (hb hby d1_62) (fun _ _ => ⟨rfl, e101, (by decide : 1 + 0 ≤ _), (by decide : 3 + 0 ≤ _)⟩)
  dsimp only [Pt.U, Pt.locs, Pt.cells, Pt.slots] at X102 l102 y102 z102 st102 hQ102
  rw [l102, y102, z102] at X102
  replace X102 : Stand p l e _ _ m _ below meth c T102 _ 1 3 := X102
  obtain ⟨rfl, N102q, e102q⟩ := hQ102
  have N102 := Fr.app N0 N102q
  refine Go.via st102 ?_
  show Go p e below _ (T102.setTop (mkF m 65 #[.val (.int (3 : Int32)), .val (.int cw)] [(.int (cbF (0 : Int32) cw)), (.int (0 : Int32)), (.ref b101), (.ref b101)]))
  obtain ⟨cl103, Ar103, q103, S103, N103n, H103, G103⟩ := id V_b101
  have hin103 := inb_of (j := (0 : Int32)) S103 (by decide)
  obtain ⟨T103, h103, X103, e103, W103, st103⟩ := stB X102 hx hZ e102q Ar103 (j := (0 : Int32)) hin103 (g := (mkF m 65 #[.val (.int (3 : Int32)), .val (.int cw)] [(.int (cbF (0 : Int32) cw)), (.int (0 : Int32)), (.ref b101), (.ref b101)])) rfl rfl (hb hby d1_65)
  refine Go.via st103 ?_
  have V103 : Arv Z h103 b101 k101 .byte (3 : Int32) [(.int (nar .byte (cbF (0 : Int32) cw))), (.int (0 : Int32)), (.int (0 : Int32))] (.int (0 : Int32)) := Arv.set Ar103 q103 S103 N103n H103 G103 (fits_nar_byte _) W103 0 rfl (Nat.le_of_ble_eq_true rfl)
  have Zs103 : n0 ≤ h103.size := Nat.le_trans Zs101 (Keep.of_wr W103).1
  have K103 : Keep h0 h103 [] := K101.wr W103 (Or.inr sz_b101)
  have N103 := Fr.snoc X103 N102 g_b101
  have fE_b101_103 := EA101.wr W103
  show Go p e below _ (T103.setTop (mkF m 66 #[.val (.int (3 : Int32)), .val (.int cw)] [(.ref b101)]))
  refine Go.via (fun _ => XS.dup X103.here hx rfl (hb hby d1_66) rfl rfl) ?_
  show Go p e below _ (T103.setTop (mkF m 67 #[.val (.int (3 : Int32)), .val (.int cw)] [(.ref b101), (.ref b101)]))
  refine Go.via (fun _ => XS.iconst X103.here hx rfl (hb hby d1_67)) ?_
  show Go p e below _ (T103.setTop (mkF m 68 #[.val (.int (3 : Int32)), .val (.int cw)] [(.int (1 : Int32)), (.ref b101), (.ref b101)]))
  refine Go.via (fun _ => XS.iconst X103.here hx rfl (hb hby d1_68)) ?_
  show Go p e below _ (T103.setTop (mkF m 69 #[.val (.int (3 : Int32)), .val (.int cw)] [(.int (1 : Int32)), (.int (1 : Int32)), (.ref b101), (.ref b101)]))
  refine Go.via (fun _ => XS.iloadN X103.here hx rfl (hb hby d1_69) rfl) ?_
  show Go p e below _ (T103.setTop (mkF m 70 #[.val (.int (3 : Int32)), .val (.int cw)] [(.int cw), (.int (1 : Int32)), (.int (1 : Int32)), (.ref b101), (.ref b101)]))
  obtain ⟨_, _, ⟨T104, L104, k104, n104⟩, -, X104, ⟨Lc104, hQ104, l104, y104, z104⟩, st104⟩ := Jvm.LawKit.callS X103 hx (y := (⟨"com/example/sluice/sluice/processor/FlowFileCopyContentPinLaw", "cb", "(II)B"⟩ : MethodName)) hown (mvT hZ (hw _ (List.mem_of_getElem? (i := 6) rfl))) (mvT hZ (hw _ (List.mem_of_getElem? (i := 7) rfl))) (mvT hZ (hw _ (List.mem_of_getElem? (i := 3) rfl))) (mvT hZ (hw _ (List.mem_of_getElem? (i := 8) rfl))) (by decide) (backOf (W := 3) (rmCb l Z a0 hw [] (1 : Int32) cw h103 n0 Zs103) hZ (hw _ (List.mem_of_getElem? (i := 8) rfl)) (hw _ (List.mem_of_getElem? (i := 3) rfl)) (by decide) (by decide)) (g := (mkF m 70 #[.val (.int (3 : Int32)), .val (.int cw)] [(.int cw), (.int (1 : Int32)), (.int (1 : Int32)), (.ref b101), (.ref b101)])) rfl (by rw [hml]; rfl) (argsL := [(.int (1 : Int32)), (.int cw)]) (rest := [(.int (1 : Int32)), (.ref b101), (.ref b101)]) (lenOf pd_1 rfl) rfl (by show 2 * 0 + _ ≤ _; exact Nat.le_of_eq rfl) (hb hby d1_70) (fun _ _ => ⟨rfl, e103, (by decide : 1 + 0 ≤ _), (by decide : 3 + 0 ≤ _)⟩)
  dsimp only [Pt.U, Pt.locs, Pt.cells, Pt.slots] at X104 l104 y104 z104 st104 hQ104
  rw [l104, y104, z104] at X104
  replace X104 : Stand p l e _ _ m _ below meth c T104 _ 1 3 := X104
  obtain ⟨rfl, N104q, e104q⟩ := hQ104
  have N104 := Fr.app N103 N104q
  refine Go.via st104 ?_
  show Go p e below _ (T104.setTop (mkF m 73 #[.val (.int (3 : Int32)), .val (.int cw)] [(.int (cbF (1 : Int32) cw)), (.int (1 : Int32)), (.ref b101), (.ref b101)]))
  obtain ⟨cl105, Ar105, q105, S105, N105n, H105, G105⟩ := id V103
  have hin105 := inb_of (j := (1 : Int32)) S105 (by decide)
  obtain ⟨T105, h105, X105, e105, W105, st105⟩ := stB X104 hx hZ e104q Ar105 (j := (1 : Int32)) hin105 (g := (mkF m 73 #[.val (.int (3 : Int32)), .val (.int cw)] [(.int (cbF (1 : Int32) cw)), (.int (1 : Int32)), (.ref b101), (.ref b101)])) rfl rfl (hb hby d1_73)
  refine Go.via st105 ?_
  have V105 : Arv Z h105 b101 k101 .byte (3 : Int32) [(.int (nar .byte (cbF (0 : Int32) cw))), (.int (nar .byte (cbF (1 : Int32) cw))), (.int (0 : Int32))] (.int (0 : Int32)) := Arv.set Ar105 q105 S105 N105n H105 G105 (fits_nar_byte _) W105 1 rfl (Nat.le_of_ble_eq_true rfl)
  have Zs105 : n0 ≤ h105.size := Nat.le_trans Zs103 (Keep.of_wr W105).1
  have K105 : Keep h0 h105 [] := K103.wr W105 (Or.inr sz_b101)
  have N105 := Fr.snoc X105 N104 g_b101
  have fE_b101_105 := fE_b101_103.wr W105
  show Go p e below _ (T105.setTop (mkF m 74 #[.val (.int (3 : Int32)), .val (.int cw)] [(.ref b101)]))
  refine Go.via (fun _ => XS.dup X105.here hx rfl (hb hby d1_74) rfl rfl) ?_
  show Go p e below _ (T105.setTop (mkF m 75 #[.val (.int (3 : Int32)), .val (.int cw)] [(.ref b101), (.ref b101)]))
  refine Go.via (fun _ => XS.iconst X105.here hx rfl (hb hby d1_75)) ?_
  show Go p e below _ (T105.setTop (mkF m 76 #[.val (.int (3 : Int32)), .val (.int cw)] [(.int (2 : Int32)), (.ref b101), (.ref b101)]))
  refine Go.via (fun _ => XS.iconst X105.here hx rfl (hb hby d1_76)) ?_
  show Go p e below _ (T105.setTop (mkF m 77 #[.val (.int (3 : Int32)), .val (.int cw)] [(.int (2 : Int32)), (.int (2 : Int32)), (.ref b101), (.ref b101)]))
  refine Go.via (fun _ => XS.iloadN X105.here hx rfl (hb hby d1_77) rfl) ?_
  show Go p e below _ (T105.setTop (mkF m 78 #[.val (.int (3 : Int32)), .val (.int cw)] [(.int cw), (.int (2 : Int32)), (.int (2 : Int32)), (.ref b101), (.ref b101)]))
  obtain ⟨_, _, ⟨T106, L106, k106, n106⟩, -, X106, ⟨Lc106, hQ106, l106, y106, z106⟩, st106⟩ := Jvm.LawKit.callS X105 hx (y := (⟨"com/example/sluice/sluice/processor/FlowFileCopyContentPinLaw", "cb", "(II)B"⟩ : MethodName)) hown (mvT hZ (hw _ (List.mem_of_getElem? (i := 6) rfl))) (mvT hZ (hw _ (List.mem_of_getElem? (i := 7) rfl))) (mvT hZ (hw _ (List.mem_of_getElem? (i := 3) rfl))) (mvT hZ (hw _ (List.mem_of_getElem? (i := 8) rfl))) (by decide) (backOf (W := 3) (rmCb l Z a0 hw [] (2 : Int32) cw h105 n0 Zs105) hZ (hw _ (List.mem_of_getElem? (i := 8) rfl)) (hw _ (List.mem_of_getElem? (i := 3) rfl)) (by decide) (by decide)) (g := (mkF m 78 #[.val (.int (3 : Int32)), .val (.int cw)] [(.int cw), (.int (2 : Int32)), (.int (2 : Int32)), (.ref b101), (.ref b101)])) rfl (by rw [hml]; rfl) (argsL := [(.int (2 : Int32)), (.int cw)]) (rest := [(.int (2 : Int32)), (.ref b101), (.ref b101)]) (lenOf pd_1 rfl) rfl (by show 2 * 0 + _ ≤ _; exact Nat.le_of_eq rfl) (hb hby d1_78) (fun _ _ => ⟨rfl, e105, (by decide : 1 + 0 ≤ _), (by decide : 3 + 0 ≤ _)⟩)
  dsimp only [Pt.U, Pt.locs, Pt.cells, Pt.slots] at X106 l106 y106 z106 st106 hQ106
  rw [l106, y106, z106] at X106
  replace X106 : Stand p l e _ _ m _ below meth c T106 _ 1 3 := X106
  obtain ⟨rfl, N106q, e106q⟩ := hQ106
  have N106 := Fr.app N105 N106q
  refine Go.via st106 ?_
  show Go p e below _ (T106.setTop (mkF m 81 #[.val (.int (3 : Int32)), .val (.int cw)] [(.int (cbF (2 : Int32) cw)), (.int (2 : Int32)), (.ref b101), (.ref b101)]))
  obtain ⟨cl107, Ar107, q107, S107, N107n, H107, G107⟩ := id V105
  have hin107 := inb_of (j := (2 : Int32)) S107 (by decide)
  obtain ⟨T107, h107, X107, e107, W107, st107⟩ := stB X106 hx hZ e106q Ar107 (j := (2 : Int32)) hin107 (g := (mkF m 81 #[.val (.int (3 : Int32)), .val (.int cw)] [(.int (cbF (2 : Int32) cw)), (.int (2 : Int32)), (.ref b101), (.ref b101)])) rfl rfl (hb hby d1_81)
  refine Go.via st107 ?_
  have V107 : Arv Z h107 b101 k101 .byte (3 : Int32) [(.int (nar .byte (cbF (0 : Int32) cw))), (.int (nar .byte (cbF (1 : Int32) cw))), (.int (nar .byte (cbF (2 : Int32) cw)))] (.int (0 : Int32)) := Arv.set Ar107 q107 S107 N107n H107 G107 (fits_nar_byte _) W107 2 rfl (Nat.le_of_ble_eq_true rfl)
  have Zs107 : n0 ≤ h107.size := Nat.le_trans Zs105 (Keep.of_wr W107).1
  have K107 : Keep h0 h107 [] := K105.wr W107 (Or.inr sz_b101)
  have N107 := Fr.snoc X107 N106 g_b101
  have fE_b101_107 := fE_b101_105.wr W107
  show Go p e below _ (T107.setTop (mkF m 82 #[.val (.int (3 : Int32)), .val (.int cw)] [(.ref b101)]))
  exact own_retA X107 hx hlk Bd.returns rfl rfl (hb hby d1_82) (by show QMk_3 Z cw h0 n0 _ T107.heap _; rw [e107]; exact ⟨b101, k101, rfl, N107, K107, sz_b101, fE_b101_107, V107⟩) (by decide) (by decide)
theorem ef_rmMk_4 (m : MethodId) (x1 : Int32) : entryFrame m #[(.int (4 : Int32)), (.int x1)] 2 = mkF m 0 #[.val (.int (4 : Int32)), .val (.int x1)] [] := by first | (simp [entryFrame, mkF, argsToLocals, Value.category]; done) | rfl
def QMk_4 (Z : State) (cw : Int32) (h0 : Heap) (n0 : Nat) (v : Option Value) (h : Heap) (L : List Loc) : Prop := ∃ (t : Addr) (kb : ClassId), v = some (.ref t) ∧ Fr n0 L ∧ Keep h0 h [] ∧ h0.size ≤ t ∧ Exa Z h t "[B" ∧ Arv Z h t kb .byte (4 : Int32) [(.int (nar .byte (cbF (0 : Int32) cw))), (.int (nar .byte (cbF (1 : Int32) cw))), (.int (nar .byte (cbF (2 : Int32) cw))), (.int (nar .byte (cbF (3 : Int32) cw)))] (.int (0 : Int32))
set_option maxRecDepth 65536 in
set_option maxHeartbeats 40000000 in
theorem rmMk_4 (l : Launch) (Z : State) (a0 : Array Value) (hw : ∀ d ∈ tables_1, d.before a0 Z = true) (ws : List Jvm.Cond) (cw : Int32) (h0 : Heap) (n0 : Nat) (Z0 : n0 ≤ h0.size) :
    MetFree l (⟨"com/example/sluice/sluice/processor/FlowFileCopyContentPinLaw", "makeContent", "(II)[B"⟩ : MethodName) (head1 (Jvm.Cond.code (⟨"com/example/sluice/sluice/processor/FlowFileCopyContentPinLaw", "makeContent", "(II)[B"⟩ : MethodName) method_6_code 2 (some (.array .byte)) :: ws) ({ frames := 1, cells := 1, slots := 4, locals := 16 } : Room)) (fun a U => a = #[(.int (4 : Int32)), (.int cw)] ∧ Z.Warmed39 U.vm ∧ U.heap = h0) (fun _ _ _ _ _ => True) (fun _ U o U' => ∃ v L, o = .returned v ∧ QMk_4 Z cw h0 n0 v U'.heap L ∧ FrameEnd U o U' L ({ frames := 1, cells := 1, slots := 4, locals := 16 } : Room).cells ({ frames := 1, cells := 1, slots := 4, locals := 16 } : Room).slots) := by
  refine MetFree.of_bodySF (plainFor_of_name pn_com_example_sluice_sluice_processor_FlowFileCopyContentPinLaw) hisR ?_
  intro p e s m args below meth c s₁ Bd hml0 hP hK
  obtain ⟨rfl, hZ, hh⟩ := hP
  have hx := Bd.exec
  have hby := Bd.bytes
  have hlk : meth.locks = false := Bd.notSynchronized
  have hml : c.maxLocals = 2 := hml0
  have hown : s.vm.findClass "com/example/sluice/sluice/processor/FlowFileCopyContentPinLaw" = some m.cls := findClass_of_methodNamed Bd.named
  have hnm := (name_of_methodNamed Bd.named Bd.method).1
  have X0 : Stand p l e ({ frames := 1, cells := 1, slots := 4, locals := 16 } : Room) s m #[(.int (4 : Int32)), (.int cw)] below meth c s₁ [] 0 0 := Stand.of_body Bd
  have e0 : s₁.heap = h0 := by rw [← hh, Bd.state]; rfl
  have N0 := Fr.nil n0
  show Go p e below (FinE s below (QMk_4 Z cw h0 n0) ({ frames := 1, cells := 1, slots := 4, locals := 16 } : Room).cells ({ frames := 1, cells := 1, slots := 4, locals := 16 } : Room).slots) (s₁.setTop (entryFrame m #[(.int (4 : Int32)), (.int cw)] 2))
  refine Go.via (fun t k => castTop (ef_rmMk_4 m cw) k) ?_
  show Go p e below _ (s₁.setTop (mkF m 0 #[.val (.int (4 : Int32)), .val (.int cw)] []))
  refine Go.via (fun _ => XS.iloadN X0.here hx rfl (hb hby d1_0) rfl) ?_
  show Go p e below _ (s₁.setTop (mkF m 1 #[.val (.int (4 : Int32)), .val (.int cw)] [(.int (4 : Int32))]))
  refine Go.via (fun _ => XS.ifYes X0.here hx rfl (pc0 := 1) (pc' := 8) rfl (hb hby d1_1) rfl (by decide) (by decide) (by decide)) ?_
  show Go p e below _ (s₁.setTop (mkF m 8 #[.val (.int (4 : Int32)), .val (.int cw)] []))
  refine Go.via (fun _ => XS.iloadN X0.here hx rfl (hb hby d1_8) rfl) ?_
  show Go p e below _ (s₁.setTop (mkF m 9 #[.val (.int (4 : Int32)), .val (.int cw)] [(.int (4 : Int32))]))
  refine Go.via (fun _ => XS.iconst X0.here hx rfl (hb hby d1_9)) ?_
  show Go p e below _ (s₁.setTop (mkF m 10 #[.val (.int (4 : Int32)), .val (.int cw)] [(.int (1 : Int32)), (.int (4 : Int32))]))
  refine Go.via (fun _ => XS.icmpYes X0.here hx rfl (pc0 := 10) (pc' := 25) rfl (hb hby d1_10) rfl (by decide) (by decide) (by decide)) ?_
  show Go p e below _ (s₁.setTop (mkF m 25 #[.val (.int (4 : Int32)), .val (.int cw)] []))
  refine Go.via (fun _ => XS.iloadN X0.here hx rfl (hb hby d1_25) rfl) ?_
  show Go p e below _ (s₁.setTop (mkF m 26 #[.val (.int (4 : Int32)), .val (.int cw)] [(.int (4 : Int32))]))
  refine Go.via (fun _ => XS.iconst X0.here hx rfl (hb hby d1_26)) ?_
  show Go p e below _ (s₁.setTop (mkF m 27 #[.val (.int (4 : Int32)), .val (.int cw)] [(.int (2 : Int32)), (.int (4 : Int32))]))
  refine Go.via (fun _ => XS.icmpYes X0.here hx rfl (pc0 := 27) (pc' := 50) rfl (hb hby d1_27) rfl (by decide) (by decide) (by decide)) ?_
  show Go p e below _ (s₁.setTop (mkF m 50 #[.val (.int (4 : Int32)), .val (.int cw)] []))
  refine Go.via (fun _ => XS.iloadN X0.here hx rfl (hb hby d1_50) rfl) ?_
  show Go p e below _ (s₁.setTop (mkF m 51 #[.val (.int (4 : Int32)), .val (.int cw)] [(.int (4 : Int32))]))
  refine Go.via (fun _ => XS.iconst X0.here hx rfl (hb hby d1_51)) ?_
  show Go p e below _ (s₁.setTop (mkF m 52 #[.val (.int (4 : Int32)), .val (.int cw)] [(.int (3 : Int32)), (.int (4 : Int32))]))
  refine Go.via (fun _ => XS.icmpYes X0.here hx rfl (pc0 := 52) (pc' := 83) rfl (hb hby d1_52) rfl (by decide) (by decide) (by decide)) ?_
  show Go p e below _ (s₁.setTop (mkF m 83 #[.val (.int (4 : Int32)), .val (.int cw)] []))
  refine Go.via (fun _ => XS.iconst X0.here hx rfl (hb hby d1_83)) ?_
  show Go p e below _ (s₁.setTop (mkF m 84 #[.val (.int (4 : Int32)), .val (.int cw)] [(.int (4 : Int32))]))
  obtain ⟨T101, h101, k101, X101, e101, E101, A101, EA101, st101⟩ := newPE X0 hx hZ (hw _ (List.mem_of_getElem? (i := 5) rfl)) e0 (g := (mkF m 84 #[.val (.int (4 : Int32)), .val (.int cw)] [(.int (4 : Int32))])) rfl (hb hby d1_84) rfl (by decide) (cap := 4) (by decide) (by decide) (by decide) (by decide) (ad := "[B") (by decide)
  obtain ⟨b101, g101⟩ : ∃ z, z = h0.size := ⟨_, rfl⟩
  rw [← g101] at A101 EA101 st101
  have g_b101 : n0 ≤ b101 := Nat.le_trans Z0 (Nat.le_of_eq g101.symm)
  have sz_b101 : h0.size ≤ b101 := Nat.le_trans (Keep.refl h0 []).1 (Nat.le_of_eq g101.symm)
  refine Go.via st101 ?_
  have Zs101 : n0 ≤ h101.size := Nat.le_trans Z0 E101.1
  have K101 : Keep h0 h101 [] := (Keep.refl h0 []).ext E101
  have V_b101 : Arv Z h101 b101 k101 .byte (4 : Int32) [(.int (0 : Int32)), (.int (0 : Int32)), (.int (0 : Int32)), (.int (0 : Int32))] (.int (0 : Int32)) := (Arv.new A101 (by decide)).pad (pad_rep [] (.int (0 : Int32)) 4)
  show Go p e below _ (T101.setTop (mkF m 86 #[.val (.int (4 : Int32)), .val (.int cw)] [(.ref b101)]))
  refine Go.via (fun _ => XS.dup X101.here hx rfl (hb hby d1_86) rfl rfl) ?_
  show Go p e below _ (T101.setTop (mkF m 87 #[.val (.int (4 : Int32)), .val (.int cw)] [(.ref b101), (.ref b101)]))
  refine Go.via (fun _ => XS.iconst X101.here hx rfl (hb hby d1_87)) ?_
  show Go p e below _ (T101.setTop (mkF m 88 #[.val (.int (4 : Int32)), .val (.int cw)] [(.int (0 : Int32)), (.ref b101), (.ref b101)]))
  refine Go.via (fun _ => XS.iconst X101.here hx rfl (hb hby d1_88)) ?_
  show Go p e below _ (T101.setTop (mkF m 89 #[.val (.int (4 : Int32)), .val (.int cw)] [(.int (0 : Int32)), (.int (0 : Int32)), (.ref b101), (.ref b101)]))
  refine Go.via (fun _ => XS.iloadN X101.here hx rfl (hb hby d1_89) rfl) ?_
  show Go p e below _ (T101.setTop (mkF m 90 #[.val (.int (4 : Int32)), .val (.int cw)] [(.int cw), (.int (0 : Int32)), (.int (0 : Int32)), (.ref b101), (.ref b101)]))
  obtain ⟨_, _, ⟨T102, L102, k102, n102⟩, -, X102, ⟨Lc102, hQ102, l102, y102, z102⟩, st102⟩ := Jvm.LawKit.callS X101 hx (y := (⟨"com/example/sluice/sluice/processor/FlowFileCopyContentPinLaw", "cb", "(II)B"⟩ : MethodName)) hown (mvT hZ (hw _ (List.mem_of_getElem? (i := 6) rfl))) (mvT hZ (hw _ (List.mem_of_getElem? (i := 7) rfl))) (mvT hZ (hw _ (List.mem_of_getElem? (i := 3) rfl))) (mvT hZ (hw _ (List.mem_of_getElem? (i := 8) rfl))) (by decide) (backOf (W := 3) (rmCb l Z a0 hw [] (0 : Int32) cw h101 n0 Zs101) hZ (hw _ (List.mem_of_getElem? (i := 8) rfl)) (hw _ (List.mem_of_getElem? (i := 3) rfl)) (by decide) (by decide)) (g := (mkF m 90 #[.val (.int (4 : Int32)), .val (.int cw)] [(.int cw), (.int (0 : Int32)), (.int (0 : Int32)), (.ref b101), (.ref b101)])) rfl (by rw [hml]; rfl) (argsL := [(.int (0 : Int32)), (.int cw)]) (rest := [(.int (0 : Int32)), (.ref b101), (.ref b101)]) (lenOf pd_1 rfl) rfl (by show 2 * 0 + _ ≤ _; exact Nat.le_of_eq rfl) (hb hby d1_90) (fun _ _ => ⟨rfl, e101, (by decide : 1 + 0 ≤ _), (by decide : 4 + 0 ≤ _)⟩)
  dsimp only [Pt.U, Pt.locs, Pt.cells, Pt.slots] at X102 l102 y102 z102 st102 hQ102
  rw [l102, y102, z102] at X102
  replace X102 : Stand p l e _ _ m _ below meth c T102 _ 1 4 := X102
  obtain ⟨rfl, N102q, e102q⟩ := hQ102
  have N102 := Fr.app N0 N102q
  refine Go.via st102 ?_
  show Go p e below _ (T102.setTop (mkF m 93 #[.val (.int (4 : Int32)), .val (.int cw)] [(.int (cbF (0 : Int32) cw)), (.int (0 : Int32)), (.ref b101), (.ref b101)]))
  obtain ⟨cl103, Ar103, q103, S103, N103n, H103, G103⟩ := id V_b101
  have hin103 := inb_of (j := (0 : Int32)) S103 (by decide)
  obtain ⟨T103, h103, X103, e103, W103, st103⟩ := stB X102 hx hZ e102q Ar103 (j := (0 : Int32)) hin103 (g := (mkF m 93 #[.val (.int (4 : Int32)), .val (.int cw)] [(.int (cbF (0 : Int32) cw)), (.int (0 : Int32)), (.ref b101), (.ref b101)])) rfl rfl (hb hby d1_93)
  refine Go.via st103 ?_
  have V103 : Arv Z h103 b101 k101 .byte (4 : Int32) [(.int (nar .byte (cbF (0 : Int32) cw))), (.int (0 : Int32)), (.int (0 : Int32)), (.int (0 : Int32))] (.int (0 : Int32)) := Arv.set Ar103 q103 S103 N103n H103 G103 (fits_nar_byte _) W103 0 rfl (Nat.le_of_ble_eq_true rfl)
  have Zs103 : n0 ≤ h103.size := Nat.le_trans Zs101 (Keep.of_wr W103).1
  have K103 : Keep h0 h103 [] := K101.wr W103 (Or.inr sz_b101)
  have N103 := Fr.snoc X103 N102 g_b101
  have fE_b101_103 := EA101.wr W103
  show Go p e below _ (T103.setTop (mkF m 94 #[.val (.int (4 : Int32)), .val (.int cw)] [(.ref b101)]))
  refine Go.via (fun _ => XS.dup X103.here hx rfl (hb hby d1_94) rfl rfl) ?_
  show Go p e below _ (T103.setTop (mkF m 95 #[.val (.int (4 : Int32)), .val (.int cw)] [(.ref b101), (.ref b101)]))
  refine Go.via (fun _ => XS.iconst X103.here hx rfl (hb hby d1_95)) ?_
  show Go p e below _ (T103.setTop (mkF m 96 #[.val (.int (4 : Int32)), .val (.int cw)] [(.int (1 : Int32)), (.ref b101), (.ref b101)]))
  refine Go.via (fun _ => XS.iconst X103.here hx rfl (hb hby d1_96)) ?_
  show Go p e below _ (T103.setTop (mkF m 97 #[.val (.int (4 : Int32)), .val (.int cw)] [(.int (1 : Int32)), (.int (1 : Int32)), (.ref b101), (.ref b101)]))
  refine Go.via (fun _ => XS.iloadN X103.here hx rfl (hb hby d1_97) rfl) ?_
  show Go p e below _ (T103.setTop (mkF m 98 #[.val (.int (4 : Int32)), .val (.int cw)] [(.int cw), (.int (1 : Int32)), (.int (1 : Int32)), (.ref b101), (.ref b101)]))
  obtain ⟨_, _, ⟨T104, L104, k104, n104⟩, -, X104, ⟨Lc104, hQ104, l104, y104, z104⟩, st104⟩ := Jvm.LawKit.callS X103 hx (y := (⟨"com/example/sluice/sluice/processor/FlowFileCopyContentPinLaw", "cb", "(II)B"⟩ : MethodName)) hown (mvT hZ (hw _ (List.mem_of_getElem? (i := 6) rfl))) (mvT hZ (hw _ (List.mem_of_getElem? (i := 7) rfl))) (mvT hZ (hw _ (List.mem_of_getElem? (i := 3) rfl))) (mvT hZ (hw _ (List.mem_of_getElem? (i := 8) rfl))) (by decide) (backOf (W := 3) (rmCb l Z a0 hw [] (1 : Int32) cw h103 n0 Zs103) hZ (hw _ (List.mem_of_getElem? (i := 8) rfl)) (hw _ (List.mem_of_getElem? (i := 3) rfl)) (by decide) (by decide)) (g := (mkF m 98 #[.val (.int (4 : Int32)), .val (.int cw)] [(.int cw), (.int (1 : Int32)), (.int (1 : Int32)), (.ref b101), (.ref b101)])) rfl (by rw [hml]; rfl) (argsL := [(.int (1 : Int32)), (.int cw)]) (rest := [(.int (1 : Int32)), (.ref b101), (.ref b101)]) (lenOf pd_1 rfl) rfl (by show 2 * 0 + _ ≤ _; exact Nat.le_of_eq rfl) (hb hby d1_98) (fun _ _ => ⟨rfl, e103, (by decide : 1 + 0 ≤ _), (by decide : 4 + 0 ≤ _)⟩)
  dsimp only [Pt.U, Pt.locs, Pt.cells, Pt.slots] at X104 l104 y104 z104 st104 hQ104
  rw [l104, y104, z104] at X104
  replace X104 : Stand p l e _ _ m _ below meth c T104 _ 1 4 := X104
  obtain ⟨rfl, N104q, e104q⟩ := hQ104
  have N104 := Fr.app N103 N104q
  refine Go.via st104 ?_
  show Go p e below _ (T104.setTop (mkF m 101 #[.val (.int (4 : Int32)), .val (.int cw)] [(.int (cbF (1 : Int32) cw)), (.int (1 : Int32)), (.ref b101), (.ref b101)]))
  obtain ⟨cl105, Ar105, q105, S105, N105n, H105, G105⟩ := id V103
  have hin105 := inb_of (j := (1 : Int32)) S105 (by decide)
  obtain ⟨T105, h105, X105, e105, W105, st105⟩ := stB X104 hx hZ e104q Ar105 (j := (1 : Int32)) hin105 (g := (mkF m 101 #[.val (.int (4 : Int32)), .val (.int cw)] [(.int (cbF (1 : Int32) cw)), (.int (1 : Int32)), (.ref b101), (.ref b101)])) rfl rfl (hb hby d1_101)
  refine Go.via st105 ?_
  have V105 : Arv Z h105 b101 k101 .byte (4 : Int32) [(.int (nar .byte (cbF (0 : Int32) cw))), (.int (nar .byte (cbF (1 : Int32) cw))), (.int (0 : Int32)), (.int (0 : Int32))] (.int (0 : Int32)) := Arv.set Ar105 q105 S105 N105n H105 G105 (fits_nar_byte _) W105 1 rfl (Nat.le_of_ble_eq_true rfl)
  have Zs105 : n0 ≤ h105.size := Nat.le_trans Zs103 (Keep.of_wr W105).1
  have K105 : Keep h0 h105 [] := K103.wr W105 (Or.inr sz_b101)
  have N105 := Fr.snoc X105 N104 g_b101
  have fE_b101_105 := fE_b101_103.wr W105
  show Go p e below _ (T105.setTop (mkF m 102 #[.val (.int (4 : Int32)), .val (.int cw)] [(.ref b101)]))
  refine Go.via (fun _ => XS.dup X105.here hx rfl (hb hby d1_102) rfl rfl) ?_
  show Go p e below _ (T105.setTop (mkF m 103 #[.val (.int (4 : Int32)), .val (.int cw)] [(.ref b101), (.ref b101)]))
  refine Go.via (fun _ => XS.iconst X105.here hx rfl (hb hby d1_103)) ?_
  show Go p e below _ (T105.setTop (mkF m 104 #[.val (.int (4 : Int32)), .val (.int cw)] [(.int (2 : Int32)), (.ref b101), (.ref b101)]))
  refine Go.via (fun _ => XS.iconst X105.here hx rfl (hb hby d1_104)) ?_
  show Go p e below _ (T105.setTop (mkF m 105 #[.val (.int (4 : Int32)), .val (.int cw)] [(.int (2 : Int32)), (.int (2 : Int32)), (.ref b101), (.ref b101)]))
  refine Go.via (fun _ => XS.iloadN X105.here hx rfl (hb hby d1_105) rfl) ?_
  show Go p e below _ (T105.setTop (mkF m 106 #[.val (.int (4 : Int32)), .val (.int cw)] [(.int cw), (.int (2 : Int32)), (.int (2 : Int32)), (.ref b101), (.ref b101)]))
  obtain ⟨_, _, ⟨T106, L106, k106, n106⟩, -, X106, ⟨Lc106, hQ106, l106, y106, z106⟩, st106⟩ := Jvm.LawKit.callS X105 hx (y := (⟨"com/example/sluice/sluice/processor/FlowFileCopyContentPinLaw", "cb", "(II)B"⟩ : MethodName)) hown (mvT hZ (hw _ (List.mem_of_getElem? (i := 6) rfl))) (mvT hZ (hw _ (List.mem_of_getElem? (i := 7) rfl))) (mvT hZ (hw _ (List.mem_of_getElem? (i := 3) rfl))) (mvT hZ (hw _ (List.mem_of_getElem? (i := 8) rfl))) (by decide) (backOf (W := 3) (rmCb l Z a0 hw [] (2 : Int32) cw h105 n0 Zs105) hZ (hw _ (List.mem_of_getElem? (i := 8) rfl)) (hw _ (List.mem_of_getElem? (i := 3) rfl)) (by decide) (by decide)) (g := (mkF m 106 #[.val (.int (4 : Int32)), .val (.int cw)] [(.int cw), (.int (2 : Int32)), (.int (2 : Int32)), (.ref b101), (.ref b101)])) rfl (by rw [hml]; rfl) (argsL := [(.int (2 : Int32)), (.int cw)]) (rest := [(.int (2 : Int32)), (.ref b101), (.ref b101)]) (lenOf pd_1 rfl) rfl (by show 2 * 0 + _ ≤ _; exact Nat.le_of_eq rfl) (hb hby d1_106) (fun _ _ => ⟨rfl, e105, (by decide : 1 + 0 ≤ _), (by decide : 4 + 0 ≤ _)⟩)
  dsimp only [Pt.U, Pt.locs, Pt.cells, Pt.slots] at X106 l106 y106 z106 st106 hQ106
  rw [l106, y106, z106] at X106
  replace X106 : Stand p l e _ _ m _ below meth c T106 _ 1 4 := X106
  obtain ⟨rfl, N106q, e106q⟩ := hQ106
  have N106 := Fr.app N105 N106q
  refine Go.via st106 ?_
  show Go p e below _ (T106.setTop (mkF m 109 #[.val (.int (4 : Int32)), .val (.int cw)] [(.int (cbF (2 : Int32) cw)), (.int (2 : Int32)), (.ref b101), (.ref b101)]))
  obtain ⟨cl107, Ar107, q107, S107, N107n, H107, G107⟩ := id V105
  have hin107 := inb_of (j := (2 : Int32)) S107 (by decide)
  obtain ⟨T107, h107, X107, e107, W107, st107⟩ := stB X106 hx hZ e106q Ar107 (j := (2 : Int32)) hin107 (g := (mkF m 109 #[.val (.int (4 : Int32)), .val (.int cw)] [(.int (cbF (2 : Int32) cw)), (.int (2 : Int32)), (.ref b101), (.ref b101)])) rfl rfl (hb hby d1_109)
  refine Go.via st107 ?_
  have V107 : Arv Z h107 b101 k101 .byte (4 : Int32) [(.int (nar .byte (cbF (0 : Int32) cw))), (.int (nar .byte (cbF (1 : Int32) cw))), (.int (nar .byte (cbF (2 : Int32) cw))), (.int (0 : Int32))] (.int (0 : Int32)) := Arv.set Ar107 q107 S107 N107n H107 G107 (fits_nar_byte _) W107 2 rfl (Nat.le_of_ble_eq_true rfl)
  have Zs107 : n0 ≤ h107.size := Nat.le_trans Zs105 (Keep.of_wr W107).1
  have K107 : Keep h0 h107 [] := K105.wr W107 (Or.inr sz_b101)
  have N107 := Fr.snoc X107 N106 g_b101
  have fE_b101_107 := fE_b101_105.wr W107
  show Go p e below _ (T107.setTop (mkF m 110 #[.val (.int (4 : Int32)), .val (.int cw)] [(.ref b101)]))
  refine Go.via (fun _ => XS.dup X107.here hx rfl (hb hby d1_110) rfl rfl) ?_
  show Go p e below _ (T107.setTop (mkF m 111 #[.val (.int (4 : Int32)), .val (.int cw)] [(.ref b101), (.ref b101)]))
  refine Go.via (fun _ => XS.iconst X107.here hx rfl (hb hby d1_111)) ?_
  show Go p e below _ (T107.setTop (mkF m 112 #[.val (.int (4 : Int32)), .val (.int cw)] [(.int (3 : Int32)), (.ref b101), (.ref b101)]))
  refine Go.via (fun _ => XS.iconst X107.here hx rfl (hb hby d1_112)) ?_
  show Go p e below _ (T107.setTop (mkF m 113 #[.val (.int (4 : Int32)), .val (.int cw)] [(.int (3 : Int32)), (.int (3 : Int32)), (.ref b101), (.ref b101)]))
  refine Go.via (fun _ => XS.iloadN X107.here hx rfl (hb hby d1_113) rfl) ?_
  show Go p e below _ (T107.setTop (mkF m 114 #[.val (.int (4 : Int32)), .val (.int cw)] [(.int cw), (.int (3 : Int32)), (.int (3 : Int32)), (.ref b101), (.ref b101)]))
  obtain ⟨_, _, ⟨T108, L108, k108, n108⟩, -, X108, ⟨Lc108, hQ108, l108, y108, z108⟩, st108⟩ := Jvm.LawKit.callS X107 hx (y := (⟨"com/example/sluice/sluice/processor/FlowFileCopyContentPinLaw", "cb", "(II)B"⟩ : MethodName)) hown (mvT hZ (hw _ (List.mem_of_getElem? (i := 6) rfl))) (mvT hZ (hw _ (List.mem_of_getElem? (i := 7) rfl))) (mvT hZ (hw _ (List.mem_of_getElem? (i := 3) rfl))) (mvT hZ (hw _ (List.mem_of_getElem? (i := 8) rfl))) (by decide) (backOf (W := 3) (rmCb l Z a0 hw [] (3 : Int32) cw h107 n0 Zs107) hZ (hw _ (List.mem_of_getElem? (i := 8) rfl)) (hw _ (List.mem_of_getElem? (i := 3) rfl)) (by decide) (by decide)) (g := (mkF m 114 #[.val (.int (4 : Int32)), .val (.int cw)] [(.int cw), (.int (3 : Int32)), (.int (3 : Int32)), (.ref b101), (.ref b101)])) rfl (by rw [hml]; rfl) (argsL := [(.int (3 : Int32)), (.int cw)]) (rest := [(.int (3 : Int32)), (.ref b101), (.ref b101)]) (lenOf pd_1 rfl) rfl (by show 2 * 0 + _ ≤ _; exact Nat.le_of_eq rfl) (hb hby d1_114) (fun _ _ => ⟨rfl, e107, (by decide : 1 + 0 ≤ _), (by decide : 4 + 0 ≤ _)⟩)
  dsimp only [Pt.U, Pt.locs, Pt.cells, Pt.slots] at X108 l108 y108 z108 st108 hQ108
  rw [l108, y108, z108] at X108
  replace X108 : Stand p l e _ _ m _ below meth c T108 _ 1 4 := X108
  obtain ⟨rfl, N108q, e108q⟩ := hQ108
  have N108 := Fr.app N107 N108q
  refine Go.via st108 ?_
  show Go p e below _ (T108.setTop (mkF m 117 #[.val (.int (4 : Int32)), .val (.int cw)] [(.int (cbF (3 : Int32) cw)), (.int (3 : Int32)), (.ref b101), (.ref b101)]))
  obtain ⟨cl109, Ar109, q109, S109, N109n, H109, G109⟩ := id V107
  have hin109 := inb_of (j := (3 : Int32)) S109 (by decide)
  obtain ⟨T109, h109, X109, e109, W109, st109⟩ := stB X108 hx hZ e108q Ar109 (j := (3 : Int32)) hin109 (g := (mkF m 117 #[.val (.int (4 : Int32)), .val (.int cw)] [(.int (cbF (3 : Int32) cw)), (.int (3 : Int32)), (.ref b101), (.ref b101)])) rfl rfl (hb hby d1_117)
  refine Go.via st109 ?_
  have V109 : Arv Z h109 b101 k101 .byte (4 : Int32) [(.int (nar .byte (cbF (0 : Int32) cw))), (.int (nar .byte (cbF (1 : Int32) cw))), (.int (nar .byte (cbF (2 : Int32) cw))), (.int (nar .byte (cbF (3 : Int32) cw)))] (.int (0 : Int32)) := Arv.set Ar109 q109 S109 N109n H109 G109 (fits_nar_byte _) W109 3 rfl (Nat.le_of_ble_eq_true rfl)
  have Zs109 : n0 ≤ h109.size := Nat.le_trans Zs107 (Keep.of_wr W109).1
  have K109 : Keep h0 h109 [] := K107.wr W109 (Or.inr sz_b101)
  have N109 := Fr.snoc X109 N108 g_b101
  have fE_b101_109 := fE_b101_107.wr W109
  show Go p e below _ (T109.setTop (mkF m 118 #[.val (.int (4 : Int32)), .val (.int cw)] [(.ref b101)]))
  exact own_retA X109 hx hlk Bd.returns rfl rfl (hb hby d1_118) (by show QMk_4 Z cw h0 n0 _ T109.heap _; rw [e109]; exact ⟨b101, k101, rfl, N109, K109, sz_b101, fE_b101_109, V109⟩) (by decide) (by decide)
theorem ef_rmOf (m : MethodId)  : entryFrame m #[] 0 = mkF m 0 #[] [] := by first | (simp [entryFrame, mkF, argsToLocals, Value.category]; done) | rfl
def QOf (Z : State) (em : Addr) (h0 : Heap) (n0 : Nat) (v : Option Value) (h : Heap) (L : List Loc) : Prop := v = some (.ref em) ∧ Fr n0 L ∧ h = h0
set_option maxRecDepth 65536 in
set_option maxHeartbeats 40000000 in
theorem rmOf (l : Launch) (Z : State) (a0 : Array Value) (hw : ∀ d ∈ tables_1, d.before a0 Z = true) (ws : List Jvm.Cond) (em : Addr) (h0 : Heap) (n0 : Nat) (Z0 : n0 ≤ h0.size) (O0 : Old Z n0 h0) (S_EM : Sta Z Z.heap "java/util/ImmutableCollections" "EMPTY_MAP" "Ljava/util/ImmutableCollections$MapN;" (.ref em)) :
    MetFree l (⟨"java/util/Map", "of", "()Ljava/util/Map;"⟩ : MethodName) (head1 (Jvm.Cond.code (⟨"java/util/Map", "of", "()Ljava/util/Map;"⟩ : MethodName) jdk_72_method_26_code 0 (some (.object "java/util/Map")) :: ws) ({ frames := 0, cells := 0, slots := 0, locals := 0 } : Room)) (fun a U => a = #[] ∧ Z.Warmed39 U.vm ∧ U.heap = h0) (fun _ _ _ _ _ => True) (fun _ U o U' => ∃ v L, o = .returned v ∧ QOf Z em h0 n0 v U'.heap L ∧ FrameEnd U o U' L ({ frames := 0, cells := 0, slots := 0, locals := 0 } : Room).cells ({ frames := 0, cells := 0, slots := 0, locals := 0 } : Room).slots) := by
  refine MetFree.of_bodySF (plainFor_of_name pn_java_util_Map) hisR ?_
  intro p e s m args below meth c s₁ Bd hml0 hP hK
  obtain ⟨rfl, hZ, hh⟩ := hP
  have hx := Bd.exec
  have hby := Bd.bytes
  have hlk : meth.locks = false := Bd.notSynchronized
  have hml : c.maxLocals = 0 := hml0
  have hown : s.vm.findClass "java/util/Map" = some m.cls := findClass_of_methodNamed Bd.named
  have hnm := (name_of_methodNamed Bd.named Bd.method).1
  have X0 : Stand p l e ({ frames := 0, cells := 0, slots := 0, locals := 0 } : Room) s m #[] below meth c s₁ [] 0 0 := Stand.of_body Bd
  have e0 : s₁.heap = h0 := by rw [← hh, Bd.state]; rfl
  have N0 := Fr.nil n0
  show Go p e below (FinE s below (QOf Z em h0 n0) ({ frames := 0, cells := 0, slots := 0, locals := 0 } : Room).cells ({ frames := 0, cells := 0, slots := 0, locals := 0 } : Room).slots) (s₁.setTop (entryFrame m #[] 0))
  refine Go.via (fun t k => castTop (ef_rmOf m ) k) ?_
  show Go p e below _ (s₁.setTop (mkF m 0 #[] []))
  obtain ⟨T101, X101, e101, st101⟩ := getS2 X0 hx hZ hown (host := "") (Or.inl (hw _ (List.mem_of_getElem? (i := 16) rfl))) Via.refl e0 (S_EM.ext O0.2) (g := (mkF m 0 #[] [])) rfl (hb hby d3_0)
  refine Go.via st101 ?_
  show Go p e below _ (T101.setTop (mkF m 3 #[] [(.ref em)]))
  exact own_retA X101 hx hlk Bd.returns rfl rfl (hb hby d3_3) (by show QOf Z em h0 n0 _ T101.heap _; rw [e101]; exact ⟨rfl, N0, rfl⟩) (by decide) (by decide)
theorem ef_rmCo (m : MethodId) (x0 : Addr) : entryFrame m #[(.ref x0)] 1 = mkF m 0 #[.val (.ref x0)] [] := by first | (simp [entryFrame, mkF, argsToLocals, Value.category]; done) | rfl
def QCo (Z : State) (em : Addr) (h0 : Heap) (n0 : Nat) (v : Option Value) (h : Heap) (L : List Loc) : Prop := v = some (.ref em) ∧ Fr n0 L ∧ h = h0
set_option maxRecDepth 65536 in
set_option maxHeartbeats 40000000 in
theorem rmCo (l : Launch) (Z : State) (a0 : Array Value) (hw : ∀ d ∈ tables_1, d.before a0 Z = true) (ws : List Jvm.Cond) (em : Addr) (h0 : Heap) (n0 : Nat) (Z0 : n0 ≤ h0.size) (E1 : Exa Z h0 em "java/util/ImmutableCollections$MapN") :
    MetFree l (⟨"java/util/Map", "copyOf", "(Ljava/util/Map;)Ljava/util/Map;"⟩ : MethodName) (head1 (Jvm.Cond.code (⟨"java/util/Map", "copyOf", "(Ljava/util/Map;)Ljava/util/Map;"⟩ : MethodName) jdk_72_method_39_code 1 (some (.object "java/util/Map")) :: ws) ({ frames := 0, cells := 0, slots := 0, locals := 0 } : Room)) (fun a U => a = #[(.ref em)] ∧ Z.Warmed39 U.vm ∧ U.heap = h0) (fun _ _ _ _ _ => True) (fun _ U o U' => ∃ v L, o = .returned v ∧ QCo Z em h0 n0 v U'.heap L ∧ FrameEnd U o U' L ({ frames := 0, cells := 0, slots := 0, locals := 0 } : Room).cells ({ frames := 0, cells := 0, slots := 0, locals := 0 } : Room).slots) := by
  refine MetFree.of_bodySF (plainFor_of_name pn_java_util_Map) hisR ?_
  intro p e s m args below meth c s₁ Bd hml0 hP hK
  obtain ⟨rfl, hZ, hh⟩ := hP
  have hx := Bd.exec
  have hby := Bd.bytes
  have hlk : meth.locks = false := Bd.notSynchronized
  have hml : c.maxLocals = 1 := hml0
  have hown : s.vm.findClass "java/util/Map" = some m.cls := findClass_of_methodNamed Bd.named
  have hnm := (name_of_methodNamed Bd.named Bd.method).1
  have X0 : Stand p l e ({ frames := 0, cells := 0, slots := 0, locals := 0 } : Room) s m #[(.ref em)] below meth c s₁ [] 0 0 := Stand.of_body Bd
  have e0 : s₁.heap = h0 := by rw [← hh, Bd.state]; rfl
  have N0 := Fr.nil n0
  show Go p e below (FinE s below (QCo Z em h0 n0) ({ frames := 0, cells := 0, slots := 0, locals := 0 } : Room).cells ({ frames := 0, cells := 0, slots := 0, locals := 0 } : Room).slots) (s₁.setTop (entryFrame m #[(.ref em)] 1))
  refine Go.via (fun t k => castTop (ef_rmCo m em) k) ?_
  show Go p e below _ (s₁.setTop (mkF m 0 #[.val (.ref em)] []))
  refine Go.via (fun _ => XS.aloadN X0.here hx rfl (hb hby d5_0) rfl rfl) ?_
  show Go p e below _ (s₁.setTop (mkF m 1 #[.val (.ref em)] [(.ref em)]))
  obtain ⟨T101, X101, e101, st101⟩ := instY X0 hx hZ hown (hw _ (List.mem_of_getElem? (i := 33) rfl)) e0 (Ins.of_exa E1 (hw _ (List.mem_of_getElem? (i := 34) rfl))) (g := (mkF m 1 #[.val (.ref em)] [(.ref em)])) rfl rfl (hb hby d5_1)
  refine Go.via st101 ?_
  show Go p e below _ (T101.setTop (mkF m 4 #[.val (.ref em)] [(.int (1 : Int32))]))
  refine Go.via (fun _ => XS.ifNo X101.here hx rfl (hb hby d5_4) rfl (by decide)) ?_
  show Go p e below _ (T101.setTop (mkF m 7 #[.val (.ref em)] []))
  refine Go.via (fun _ => XS.aloadN X101.here hx rfl (hb hby d5_7) rfl rfl) ?_
  show Go p e below _ (T101.setTop (mkF m 8 #[.val (.ref em)] [(.ref em)]))
  exact own_retA X101 hx hlk Bd.returns rfl rfl (hb hby d5_8) (by show QCo Z em h0 n0 _ T101.heap _; rw [e101]; exact ⟨rfl, N0, rfl⟩) (by decide) (by decide)
theorem ef_rmFI2 (m : MethodId) (x0 : Addr) (x1 : Addr) (x2 : Addr) : entryFrame m #[(.ref x0), (.ref x1), (.ref x2)] 3 = mkF m 0 #[.val (.ref x0), .val (.ref x1), .val (.ref x2)] [] := by first | (simp [entryFrame, mkF, argsToLocals, Value.category]; done) | rfl
def QFI2 (Z : State) (a1 : Addr) (t1 : Addr) (em : Addr) (h0 : Heap) (n0 : Nat) (v : Option Value) (h : Heap) (L : List Loc) : Prop := v = none ∧ Fr n0 L ∧ Keep h0 h [a1] ∧ Fld Z h a1 "com/example/sluice/sluice/processor/FlowFile" "content" "[B" (.ref t1)
set_option maxRecDepth 65536 in
set_option maxHeartbeats 40000000 in
theorem rmFI2 (l : Launch) (Z : State) (a0 : Array Value) (hw : ∀ d ∈ tables_1, d.before a0 Z = true) (ws : List Jvm.Cond) (a1 : Addr) (t1 : Addr) (em : Addr) (h0 : Heap) (n0 : Nat) (Z0 : n0 ≤ h0.size) (E1 : Exa Z h0 a1 "com/example/sluice/sluice/processor/FlowFile") (F1 : Fld Z h0 a1 "com/example/sluice/sluice/processor/FlowFile" "attributes" "Ljava/util/Map;" .null) (F2 : Fld Z h0 a1 "com/example/sluice/sluice/processor/FlowFile" "content" "[B" .null) (g1 : n0 ≤ a1) :
    MetFree l (⟨"com/example/sluice/sluice/processor/FlowFile", "<init>", "([BLjava/util/Map;)V"⟩ : MethodName) (head1 (Jvm.Cond.code (⟨"com/example/sluice/sluice/processor/FlowFile", "<init>", "([BLjava/util/Map;)V"⟩ : MethodName) prog_30_method_3_code 3 none :: ws) ({ frames := 1, cells := 0, slots := 0, locals := 12 } : Room)) (fun a U => a = #[(.ref a1), (.ref t1), (.ref em)] ∧ Z.Warmed39 U.vm ∧ U.heap = h0) (fun _ _ _ _ _ => True) (fun _ U o U' => ∃ v L, o = .returned v ∧ QFI2 Z a1 t1 em h0 n0 v U'.heap L ∧ FrameEnd U o U' L ({ frames := 1, cells := 0, slots := 0, locals := 12 } : Room).cells ({ frames := 1, cells := 0, slots := 0, locals := 12 } : Room).slots) := by
  refine MetFree.of_bodySF (plainFor_of_name pn_com_example_sluice_sluice_processor_FlowFile) hisR ?_
  intro p e s m args below meth c s₁ Bd hml0 hP hK
  obtain ⟨rfl, hZ, hh⟩ := hP
  have hx := Bd.exec
  have hby := Bd.bytes
  have hlk : meth.locks = false := Bd.notSynchronized
  have hml : c.maxLocals = 3 := hml0
  have hown : s.vm.findClass "com/example/sluice/sluice/processor/FlowFile" = some m.cls := findClass_of_methodNamed Bd.named
  have hnm := (name_of_methodNamed Bd.named Bd.method).1
  have X0 : Stand p l e ({ frames := 1, cells := 0, slots := 0, locals := 12 } : Room) s m #[(.ref a1), (.ref t1), (.ref em)] below meth c s₁ [] 0 0 := Stand.of_body Bd
  have e0 : s₁.heap = h0 := by rw [← hh, Bd.state]; rfl
  have N0 := Fr.nil n0
  show Go p e below (FinE s below (QFI2 Z a1 t1 em h0 n0) ({ frames := 1, cells := 0, slots := 0, locals := 12 } : Room).cells ({ frames := 1, cells := 0, slots := 0, locals := 12 } : Room).slots) (s₁.setTop (entryFrame m #[(.ref a1), (.ref t1), (.ref em)] 3))
  refine Go.via (fun t k => castTop (ef_rmFI2 m a1 t1 em) k) ?_
  show Go p e below _ (s₁.setTop (mkF m 0 #[.val (.ref a1), .val (.ref t1), .val (.ref em)] []))
  refine Go.via (fun _ => XS.aloadN X0.here hx rfl (hb hby d6_0) rfl rfl) ?_
  show Go p e below _ (s₁.setTop (mkF m 1 #[.val (.ref a1), .val (.ref t1), .val (.ref em)] [(.ref a1)]))
  obtain ⟨T101, X101, e101, st101⟩ := initO X0 hx hZ hown (hw _ (List.mem_of_getElem? (i := 38) rfl)) (hw _ (List.mem_of_getElem? (i := 39) rfl)) (hw _ (List.mem_of_getElem? (i := 40) rfl)) e0 (g := (mkF m 1 #[.val (.ref a1), .val (.ref t1), .val (.ref em)] [(.ref a1)])) rfl (by rw [hml]; rfl) rfl (hb hby d6_1) (by decide) (W := 0) (by show 2 * 0 + _ ≤ _; exact Nat.le_of_eq rfl) (by decide)
  refine Go.via st101 ?_
  show Go p e below _ (T101.setTop (mkF m 4 #[.val (.ref a1), .val (.ref t1), .val (.ref em)] []))
  refine Go.via (fun _ => XS.aloadN X101.here hx rfl (hb hby d6_4) rfl rfl) ?_
  show Go p e below _ (T101.setTop (mkF m 5 #[.val (.ref a1), .val (.ref t1), .val (.ref em)] [(.ref a1)]))
  refine Go.via (fun _ => XS.aloadN X101.here hx rfl (hb hby d6_5) rfl rfl) ?_
  show Go p e below _ (T101.setTop (mkF m 6 #[.val (.ref a1), .val (.ref t1), .val (.ref em)] [(.ref em), (.ref a1)]))
  obtain ⟨T102, h102, X102, e102, W102, st102⟩ := putF X101 hx hZ hown (host := "") (Or.inl (hw _ (List.mem_of_getElem? (i := 41) rfl))) Via.refl e101 F1 E1 (Or.inr ⟨(hw _ (List.mem_of_getElem? (i := 42) rfl)), rfl, hnm⟩) (hw _ (List.mem_of_getElem? (i := 10) rfl)) (ty := (.object "java/util/Map")) (by decide) rfl rfl (g := (mkF m 6 #[.val (.ref a1), .val (.ref t1), .val (.ref em)] [(.ref em), (.ref a1)])) rfl rfl (hb hby d6_6)
  refine Go.via st102 ?_
  have fF_a1_attributes_102 : Fld Z h102 a1 "com/example/sluice/sluice/processor/FlowFile" "attributes" "Ljava/util/Map;" (.ref em) := F1.same W102
  have Zs102 : n0 ≤ h102.size := Nat.le_trans Z0 (Keep.of_wr W102).1
  have K102 : Keep h0 h102 [a1] := (Keep.refl h0 [a1]).wr W102 (Or.inl (List.mem_of_getElem? (i := 0) rfl))
  have N102 := Fr.snoc X102 N0 g1
  have fE_a1_102 := E1.wr W102
  have fF_a1_content_102 := F2.other W102 (Or.inr (slot_ne (Or.inr (hw _ (List.mem_of_getElem? (i := 44) rfl))) (Or.inr (hw _ (List.mem_of_getElem? (i := 42) rfl))) (by decide) (t := (.array .byte)) (t' := (.object "java/util/Map")) (by decide) (by decide)))
  show Go p e below _ (T102.setTop (mkF m 9 #[.val (.ref a1), .val (.ref t1), .val (.ref em)] []))
  refine Go.via (fun _ => XS.aloadN X102.here hx rfl (hb hby d6_9) rfl rfl) ?_
  show Go p e below _ (T102.setTop (mkF m 10 #[.val (.ref a1), .val (.ref t1), .val (.ref em)] [(.ref a1)]))
  refine Go.via (fun _ => XS.aloadN X102.here hx rfl (hb hby d6_10) rfl rfl) ?_
  show Go p e below _ (T102.setTop (mkF m 11 #[.val (.ref a1), .val (.ref t1), .val (.ref em)] [(.ref t1), (.ref a1)]))
  obtain ⟨T103, h103, X103, e103, W103, st103⟩ := putF X102 hx hZ hown (host := "") (Or.inl (hw _ (List.mem_of_getElem? (i := 43) rfl))) Via.refl e102 fF_a1_content_102 fE_a1_102 (Or.inr ⟨(hw _ (List.mem_of_getElem? (i := 44) rfl)), rfl, hnm⟩) (hw _ (List.mem_of_getElem? (i := 10) rfl)) (ty := (.array .byte)) (by decide) rfl rfl (g := (mkF m 11 #[.val (.ref a1), .val (.ref t1), .val (.ref em)] [(.ref t1), (.ref a1)])) rfl rfl (hb hby d6_11)
  refine Go.via st103 ?_
  have fF_a1_content_103 : Fld Z h103 a1 "com/example/sluice/sluice/processor/FlowFile" "content" "[B" (.ref t1) := fF_a1_content_102.same W103
  have Zs103 : n0 ≤ h103.size := Nat.le_trans Zs102 (Keep.of_wr W103).1
  have K103 : Keep h0 h103 [a1] := K102.wr W103 (Or.inl (List.mem_of_getElem? (i := 0) rfl))
  have N103 := Fr.snoc X103 N102 g1
  have fE_a1_103 := fE_a1_102.wr W103
  have fF_a1_attributes_103 := fF_a1_attributes_102.other W103 (Or.inr (slot_ne (Or.inr (hw _ (List.mem_of_getElem? (i := 42) rfl))) (Or.inr (hw _ (List.mem_of_getElem? (i := 44) rfl))) (by decide) (t := (.object "java/util/Map")) (t' := (.array .byte)) (by decide) (by decide)))
  show Go p e below _ (T103.setTop (mkF m 14 #[.val (.ref a1), .val (.ref t1), .val (.ref em)] []))
  exact own_retV X103 hx hlk Bd.returns (hb hby d6_14) (by show QFI2 Z a1 t1 em h0 n0 _ T103.heap _; rw [e103]; exact ⟨rfl, N103, K103, fF_a1_content_103⟩) (by decide) (by decide)
theorem ef_rmFI1 (m : MethodId) (x0 : Addr) (x1 : Addr) (x2 : Addr) : entryFrame m #[(.ref x0), (.ref x1), (.ref x2)] 3 = mkF m 0 #[.val (.ref x0), .val (.ref x1), .val (.ref x2)] [] := by first | (simp [entryFrame, mkF, argsToLocals, Value.category]; done) | rfl
def QFI1 (Z : State) (a1 : Addr) (em : Addr) (t1 : Addr) (kb : ClassId) (zz : Int32) (vs : List Value) (h0 : Heap) (n0 : Nat) (v : Option Value) (h : Heap) (L : List Loc) : Prop := v = none ∧ Fr n0 L ∧ Keep h0 h [a1] ∧ ∃ t, h0.size ≤ t ∧ Fld Z h a1 "com/example/sluice/sluice/processor/FlowFile" "content" "[B" (.ref t) ∧ Arv Z h t kb .byte zz vs (.int (0 : Int32))
set_option maxRecDepth 65536 in
set_option maxHeartbeats 40000000 in
theorem rmFI1 (l : Launch) (Z : State) (a0 : Array Value) (hw : ∀ d ∈ tables_1, d.before a0 Z = true) (ws : List Jvm.Cond) (a1 : Addr) (em : Addr) (t1 : Addr) (kb : ClassId) (zz : Int32) (vs : List Value) (h0 : Heap) (n0 : Nat) (Z0 : n0 ≤ h0.size) (E1 : Exa Z h0 a1 "com/example/sluice/sluice/processor/FlowFile") (F1 : Fld Z h0 a1 "com/example/sluice/sluice/processor/FlowFile" "attributes" "Ljava/util/Map;" .null) (F2 : Fld Z h0 a1 "com/example/sluice/sluice/processor/FlowFile" "content" "[B" .null) (g1 : n0 ≤ a1) (Eem : Exa Z h0 em "java/util/ImmutableCollections$MapN") (Et1 : Exa Z h0 t1 "[B") (V1 : Arv Z h0 t1 kb .byte zz vs (.int (0 : Int32))) (hz : zz.toNatClampNeg ≤ 4) (ne1 : a1 ≠ em) (ne2 : a1 ≠ t1) :
    MetFree l (⟨"com/example/sluice/sluice/processor/FlowFile", "<init>", "(Ljava/util/Map;[B)V"⟩ : MethodName) (head1 (Jvm.Cond.code (⟨"com/example/sluice/sluice/processor/FlowFile", "<init>", "(Ljava/util/Map;[B)V"⟩ : MethodName) prog_30_method_1_code 3 none :: ws) ({ frames := 2, cells := 1, slots := 4, locals := 26 } : Room)) (fun a U => a = #[(.ref a1), (.ref em), (.ref t1)] ∧ Z.Warmed39 U.vm ∧ U.heap = h0) (fun _ _ _ _ _ => True) (fun _ U o U' => ∃ v L, o = .returned v ∧ QFI1 Z a1 em t1 kb zz vs h0 n0 v U'.heap L ∧ FrameEnd U o U' L ({ frames := 2, cells := 1, slots := 4, locals := 26 } : Room).cells ({ frames := 2, cells := 1, slots := 4, locals := 26 } : Room).slots) := by
  refine MetFree.of_bodySF (plainFor_of_name pn_com_example_sluice_sluice_processor_FlowFile) hisR ?_
  intro p e s m args below meth c s₁ Bd hml0 hP hK
  obtain ⟨rfl, hZ, hh⟩ := hP
  have hx := Bd.exec
  have hby := Bd.bytes
  have hlk : meth.locks = false := Bd.notSynchronized
  have hml : c.maxLocals = 3 := hml0
  have hown : s.vm.findClass "com/example/sluice/sluice/processor/FlowFile" = some m.cls := findClass_of_methodNamed Bd.named
  have hnm := (name_of_methodNamed Bd.named Bd.method).1
  have X0 : Stand p l e ({ frames := 2, cells := 1, slots := 4, locals := 26 } : Room) s m #[(.ref a1), (.ref em), (.ref t1)] below meth c s₁ [] 0 0 := Stand.of_body Bd
  have e0 : s₁.heap = h0 := by rw [← hh, Bd.state]; rfl
  have N0 := Fr.nil n0
  show Go p e below (FinE s below (QFI1 Z a1 em t1 kb zz vs h0 n0) ({ frames := 2, cells := 1, slots := 4, locals := 26 } : Room).cells ({ frames := 2, cells := 1, slots := 4, locals := 26 } : Room).slots) (s₁.setTop (entryFrame m #[(.ref a1), (.ref em), (.ref t1)] 3))
  refine Go.via (fun t k => castTop (ef_rmFI1 m a1 em t1) k) ?_
  show Go p e below _ (s₁.setTop (mkF m 0 #[.val (.ref a1), .val (.ref em), .val (.ref t1)] []))
  refine Go.via (fun _ => XS.aloadN X0.here hx rfl (hb hby d4_0) rfl rfl) ?_
  show Go p e below _ (s₁.setTop (mkF m 1 #[.val (.ref a1), .val (.ref em), .val (.ref t1)] [(.ref a1)]))
  refine Go.via (fun _ => XS.aloadN X0.here hx rfl (hb hby d4_1) rfl rfl) ?_
  show Go p e below _ (s₁.setTop (mkF m 2 #[.val (.ref a1), .val (.ref em), .val (.ref t1)] [(.ref t1), (.ref a1)]))
  obtain ⟨T101, h101, X101, e101, E101, A101, EA101, st101⟩ := cloneH X0 hx hZ hown (hw _ (List.mem_of_getElem? (i := 21) rfl)) (hw _ (List.mem_of_getElem? (i := 22) rfl)) (hw _ (List.mem_of_getElem? (i := 26) rfl)) (hw _ (List.mem_of_getElem? (i := 24) rfl)) (hw _ (List.mem_of_getElem? (i := 25) rfl)) (hw _ (List.mem_of_getElem? (i := 27) rfl)) e0 (Arv.arh V1) Et1 (g := (mkF m 2 #[.val (.ref a1), .val (.ref em), .val (.ref t1)] [(.ref t1), (.ref a1)])) rfl (by rw [hml]; rfl) rfl (hb hby d4_2) (by decide) (W := 1) (by show 2 * 0 + _ ≤ _; exact Nat.le_of_eq rfl) (by decide) (cap := 4) hz (by decide) (by decide)
  obtain ⟨b101, g101⟩ : ∃ z, z = h0.size := ⟨_, rfl⟩
  rw [← g101] at A101 EA101 st101
  have g_b101 : n0 ≤ b101 := Nat.le_trans Z0 (Nat.le_of_eq g101.symm)
  have ne_a1_b101 : a1 ≠ b101 := Nat.ne_of_lt (Nat.lt_of_lt_of_le E1.lt (Nat.le_of_eq g101.symm))
  have ne_em_b101 : em ≠ b101 := Nat.ne_of_lt (Nat.lt_of_lt_of_le Eem.lt (Nat.le_of_eq g101.symm))
  have ne_t1_b101 : t1 ≠ b101 := Nat.ne_of_lt (Nat.lt_of_lt_of_le Et1.lt (Nat.le_of_eq g101.symm))
  have sz_b101 : h0.size ≤ b101 := Nat.le_trans (Keep.refl h0 [a1]).1 (Nat.le_of_eq g101.symm)
  refine Go.via st101 ?_
  have Zs101 : n0 ≤ h101.size := Nat.le_trans Z0 E101.1
  have K101 : Keep h0 h101 [a1] := (Keep.refl h0 [a1]).ext E101
  have fE_a1_101 := E1.ext E101
  have fF_a1_attributes_101 := F1.ext E101
  have fF_a1_content_101 := F2.ext E101
  have fE_em_101 := Eem.ext E101
  have fE_t1_101 := Et1.ext E101
  have fV_t1_101 := V1.ext E101
  show Go p e below _ (T101.setTop (mkF m 5 #[.val (.ref a1), .val (.ref em), .val (.ref t1)] [(.ref b101), (.ref a1)]))
  obtain ⟨T102, X102, e102, st102⟩ := castY X101 hx hZ hown (hw _ (List.mem_of_getElem? (i := 28) rfl)) e101 (Ins.self EA101) (g := (mkF m 5 #[.val (.ref a1), .val (.ref em), .val (.ref t1)] [(.ref b101), (.ref a1)])) rfl rfl (hb hby d4_5)
  refine Go.via st102 ?_
  show Go p e below _ (T102.setTop (mkF m 8 #[.val (.ref a1), .val (.ref em), .val (.ref t1)] [(.ref b101), (.ref a1)]))
  refine Go.via (fun _ => XS.aloadN X102.here hx rfl (hb hby d4_8) rfl rfl) ?_
  show Go p e below _ (T102.setTop (mkF m 9 #[.val (.ref a1), .val (.ref em), .val (.ref t1)] [(.ref em), (.ref b101), (.ref a1)]))
  obtain ⟨_, _, ⟨T103, L103, k103, n103⟩, -, X103, ⟨Lc103, hQ103, l103, y103, z103⟩, st103⟩ := Jvm.LawKit.callS X102 hx (y := (⟨"java/util/Map", "copyOf", "(Ljava/util/Map;)Ljava/util/Map;"⟩ : MethodName)) hown (mvT hZ (hw _ (List.mem_of_getElem? (i := 30) rfl))) (mvT hZ (hw _ (List.mem_of_getElem? (i := 31) rfl))) (mvT hZ (hw _ (List.mem_of_getElem? (i := 14) rfl))) (mvT hZ (hw _ (List.mem_of_getElem? (i := 32) rfl))) (by decide) (backOf (W := 2) (rmCo l Z a0 hw [] em h101 n0 Zs101 fE_em_101) hZ (hw _ (List.mem_of_getElem? (i := 32) rfl)) (hw _ (List.mem_of_getElem? (i := 14) rfl)) (by decide) (by decide)) (g := (mkF m 9 #[.val (.ref a1), .val (.ref em), .val (.ref t1)] [(.ref em), (.ref b101), (.ref a1)])) rfl (by rw [hml]; rfl) (argsL := [(.ref em)]) (rest := [(.ref b101), (.ref a1)]) (lenOf pd_2 rfl) rfl (by show 2 * 0 + _ ≤ _; exact Nat.le_of_eq rfl) (hb hby d4_9) (fun _ _ => ⟨rfl, e102, (by decide : 1 + 0 ≤ _), (by decide : 4 + 0 ≤ _)⟩)
  dsimp only [Pt.U, Pt.locs, Pt.cells, Pt.slots] at X103 l103 y103 z103 st103 hQ103
  rw [l103, y103, z103] at X103
  replace X103 : Stand p l e _ _ m _ below meth c T103 _ 1 4 := X103
  obtain ⟨rfl, N103q, e103q⟩ := hQ103
  have N103 := Fr.app N0 N103q
  refine Go.via st103 ?_
  show Go p e below _ (T103.setTop (mkF m 12 #[.val (.ref a1), .val (.ref em), .val (.ref t1)] [(.ref em), (.ref b101), (.ref a1)]))
  obtain ⟨_, _, ⟨T104, L104, k104, n104⟩, -, X104, ⟨Lc104, hQ104, l104, y104, z104⟩, st104⟩ := X103.specialBack hx (y := (⟨"com/example/sluice/sluice/processor/FlowFile", "<init>", "([BLjava/util/Map;)V"⟩ : MethodName)) rfl hown (mvT hZ (hw _ (List.mem_of_getElem? (i := 35) rfl))) (mvT hZ (hw _ (List.mem_of_getElem? (i := 36) rfl))) (mvT hZ (hw _ (List.mem_of_getElem? (i := 37) rfl))) (by decide) (backOf (W := 0) (rmFI2 l Z a0 hw [] a1 b101 em h101 n0 Zs101 fE_a1_101 fF_a1_attributes_101 fF_a1_content_101 g1) hZ (hw _ (List.mem_of_getElem? (i := 37) rfl)) (hw _ (List.mem_of_getElem? (i := 11) rfl)) (by decide) (by decide)) (g := (mkF m 12 #[.val (.ref a1), .val (.ref em), .val (.ref t1)] [(.ref em), (.ref b101), (.ref a1)])) rfl (by rw [hml]; rfl) (Steps.refl _) (a := a1) (argsL := [(.ref b101), (.ref em)]) (rest := []) (lenOf pd_3 rfl) rfl (by show 2 * 0 + _ ≤ _; exact Nat.le_of_eq rfl) (hb hby d4_12) (fun _ _ => ⟨rfl, e103q, (by decide : 1 + 0 ≤ _), (by decide : 4 + 0 ≤ _)⟩)
  dsimp only [Pt.U, Pt.locs, Pt.cells, Pt.slots] at X104 l104 y104 z104 st104 hQ104
  rw [l104, y104, z104] at X104
  replace X104 : Stand p l e _ _ m _ below meth c T104 _ 1 4 := X104
  obtain ⟨rfl, N104q, K104q, fc104⟩ := hQ104
  have N104 := Fr.app N103 N104q
  refine Go.tr st104 ?_
  have Zs104 : n0 ≤ T104.heap.size := Nat.le_trans Zs101 K104q.1
  have K104 : Keep h0 T104.heap [a1] := K101.trans K104q (allS (Or.inl (List.mem_of_getElem? (i := 0) rfl)) all0)
  have fE_a1_104 := fE_a1_101.keep K104q
  have fE_em_104 := fE_em_101.keep K104q
  have fE_t1_104 := fE_t1_101.keep K104q
  have fV_t1_104 := fV_t1_101.keep K104q (ninS (Ne.symm ne2) nin0)
  have fV_b101_104 := A101.keep K104q (ninS (Ne.symm ne_a1_b101) nin0)
  have fE_b101_104 := EA101.keep K104q
  show Go p e below _ (T104.setTop (mkF m 15 #[.val (.ref a1), .val (.ref em), .val (.ref t1)] []))
  exact own_retV X104 hx hlk Bd.returns (hb hby d4_15) (by show QFI1 Z a1 em t1 kb zz vs h0 n0 _ T104.heap _; exact ⟨rfl, N104, K104, b101, sz_b101, fc104, fV_b101_104⟩) (by decide) (by decide)
theorem ef_rmCC (m : MethodId) (x0 : Addr) (x1 : Addr) (x2 : Int32) : entryFrame m #[(.ref x0), (.ref x1), (.int x2)] 3 = mkF m 0 #[.val (.ref x0), .val (.ref x1), .val (.int x2)] [] := by first | (simp [entryFrame, mkF, argsToLocals, Value.category]; done) | rfl
def QCC (Z : State) (a1 : Addr) (t1 : Addr) (kb : ClassId) (zz : Int32) (vs : List Value) (b1 : Addr) (kd : ClassId) (ds : List Value) (off : Int32) (h0 : Heap) (n0 : Nat) (v : Option Value) (h : Heap) (L : List Loc) : Prop := v = none ∧ Fr n0 L ∧ Keep h0 h [b1] ∧ Arv Z h b1 kd .byte (8 : Int32) (ds.take off.toNatClampNeg ++ (List.range zz.toNatClampNeg).map (fun i => vs.getD ((0 : Int32).toNatClampNeg + i) (.int (0 : Int32))) ++ ds.drop (off.toNatClampNeg + zz.toNatClampNeg)) (.int (0 : Int32))
set_option maxRecDepth 65536 in
set_option maxHeartbeats 40000000 in
theorem rmCC (l : Launch) (Z : State) (a0 : Array Value) (hw : ∀ d ∈ tables_1, d.before a0 Z = true) (ws : List Jvm.Cond) (a1 : Addr) (t1 : Addr) (kb : ClassId) (zz : Int32) (vs : List Value) (b1 : Addr) (kd : ClassId) (ds : List Value) (off : Int32) (h0 : Heap) (n0 : Nat) (Z0 : n0 ≤ h0.size) (F2 : Fld Z h0 a1 "com/example/sluice/sluice/processor/FlowFile" "content" "[B" (.ref t1)) (V1 : Arv Z h0 t1 kb .byte zz vs (.int (0 : Int32))) (V2 : Arv Z h0 b1 kd .byte (8 : Int32) ds (.int (0 : Int32))) (g1 : n0 ≤ b1) (hq2 : ¬ (off < 0)) (hq3 : ¬ (zz < 0)) (hq5 : off.toNatClampNeg + zz.toNatClampNeg ≤ 8) (hd8 : ds.length = 8) :
    MetFree l (⟨"com/example/sluice/sluice/processor/FlowFile", "copyContent", "([BI)V"⟩ : MethodName) (head1 (Jvm.Cond.code (⟨"com/example/sluice/sluice/processor/FlowFile", "copyContent", "([BI)V"⟩ : MethodName) prog_30_method_10_code 3 none :: ws) ({ frames := 1, cells := 0, slots := 0, locals := 40 } : Room)) (fun a U => a = #[(.ref a1), (.ref b1), (.int off)] ∧ Z.Warmed39 U.vm ∧ U.heap = h0) (fun _ _ _ _ _ => True) (fun _ U o U' => ∃ v L, o = .returned v ∧ QCC Z a1 t1 kb zz vs b1 kd ds off h0 n0 v U'.heap L ∧ FrameEnd U o U' L ({ frames := 1, cells := 0, slots := 0, locals := 40 } : Room).cells ({ frames := 1, cells := 0, slots := 0, locals := 40 } : Room).slots) := by
  refine MetFree.of_bodySF (plainFor_of_name pn_com_example_sluice_sluice_processor_FlowFile) hisR ?_
  intro p e s m args below meth c s₁ Bd hml0 hP hK
  obtain ⟨rfl, hZ, hh⟩ := hP
  have hx := Bd.exec
  have hby := Bd.bytes
  have hlk : meth.locks = false := Bd.notSynchronized
  have hml : c.maxLocals = 3 := hml0
  have hown : s.vm.findClass "com/example/sluice/sluice/processor/FlowFile" = some m.cls := findClass_of_methodNamed Bd.named
  have hnm := (name_of_methodNamed Bd.named Bd.method).1
  have X0 : Stand p l e ({ frames := 1, cells := 0, slots := 0, locals := 40 } : Room) s m #[(.ref a1), (.ref b1), (.int off)] below meth c s₁ [] 0 0 := Stand.of_body Bd
  have e0 : s₁.heap = h0 := by rw [← hh, Bd.state]; rfl
  have N0 := Fr.nil n0
  show Go p e below (FinE s below (QCC Z a1 t1 kb zz vs b1 kd ds off h0 n0) ({ frames := 1, cells := 0, slots := 0, locals := 40 } : Room).cells ({ frames := 1, cells := 0, slots := 0, locals := 40 } : Room).slots) (s₁.setTop (entryFrame m #[(.ref a1), (.ref b1), (.int off)] 3))
  refine Go.via (fun t k => castTop (ef_rmCC m a1 b1 off) k) ?_
  show Go p e below _ (s₁.setTop (mkF m 0 #[.val (.ref a1), .val (.ref b1), .val (.int off)] []))
  refine Go.via (fun _ => XS.aloadN X0.here hx rfl (hb hby d9_0) rfl rfl) ?_
  show Go p e below _ (s₁.setTop (mkF m 1 #[.val (.ref a1), .val (.ref b1), .val (.int off)] [(.ref a1)]))
  obtain ⟨T101, X101, e101, st101⟩ := getF X0 hx hZ hown (host := "") (Or.inl (hw _ (List.mem_of_getElem? (i := 43) rfl))) Via.refl e0 F2 (g := (mkF m 1 #[.val (.ref a1), .val (.ref b1), .val (.int off)] [(.ref a1)])) rfl rfl (hb hby d9_1)
  refine Go.via st101 ?_
  show Go p e below _ (T101.setTop (mkF m 4 #[.val (.ref a1), .val (.ref b1), .val (.int off)] [(.ref t1)]))
  refine Go.via (fun _ => XS.iconst X101.here hx rfl (hb hby d9_4)) ?_
  show Go p e below _ (T101.setTop (mkF m 5 #[.val (.ref a1), .val (.ref b1), .val (.int off)] [(.int (0 : Int32)), (.ref t1)]))
  refine Go.via (fun _ => XS.aloadN X101.here hx rfl (hb hby d9_5) rfl rfl) ?_
  show Go p e below _ (T101.setTop (mkF m 6 #[.val (.ref a1), .val (.ref b1), .val (.int off)] [(.ref b1), (.int (0 : Int32)), (.ref t1)]))
  refine Go.via (fun _ => XS.iloadN X101.here hx rfl (hb hby d9_6) rfl) ?_
  show Go p e below _ (T101.setTop (mkF m 7 #[.val (.ref a1), .val (.ref b1), .val (.int off)] [(.int off), (.ref b1), (.int (0 : Int32)), (.ref t1)]))
  refine Go.via (fun _ => XS.aloadN X101.here hx rfl (hb hby d9_7) rfl rfl) ?_
  show Go p e below _ (T101.setTop (mkF m 8 #[.val (.ref a1), .val (.ref b1), .val (.int off)] [(.ref a1), (.int off), (.ref b1), (.int (0 : Int32)), (.ref t1)]))
  obtain ⟨T102, X102, e102, st102⟩ := getF X101 hx hZ hown (host := "") (Or.inl (hw _ (List.mem_of_getElem? (i := 43) rfl))) Via.refl e101 F2 (g := (mkF m 8 #[.val (.ref a1), .val (.ref b1), .val (.int off)] [(.ref a1), (.int off), (.ref b1), (.int (0 : Int32)), (.ref t1)])) rfl rfl (hb hby d9_8)
  refine Go.via st102 ?_
  show Go p e below _ (T102.setTop (mkF m 11 #[.val (.ref a1), .val (.ref b1), .val (.int off)] [(.ref t1), (.int off), (.ref b1), (.int (0 : Int32)), (.ref t1)]))
  obtain ⟨cl103, Ar103, -, S103, N103n, -, -⟩ := id V1
  have al103 := X102.arraylength hx (by rw [e102]; exact Ar103.1) (State.isArrayOf_alike hZ.alike Ar103.2.1) (g := (mkF m 11 #[.val (.ref a1), .val (.ref b1), .val (.int off)] [(.ref t1), (.int off), (.ref b1), (.int (0 : Int32)), (.ref t1)])) rfl rfl (hb hby d9_11)
  rw [len_of S103 N103n] at al103
  refine Go.via al103 ?_
  show Go p e below _ (T102.setTop (mkF m 12 #[.val (.ref a1), .val (.ref b1), .val (.int off)] [(.int zz), (.int off), (.ref b1), (.int (0 : Int32)), (.ref t1)]))
  obtain ⟨T104, h104, L104, X104, e104, N104, K104q, V104, st104⟩ := cpA X102 hx hZ hown (hw _ (List.mem_of_getElem? (i := 53) rfl)) (hw _ (List.mem_of_getElem? (i := 56) rfl)) (hw _ (List.mem_of_getElem? (i := 54) rfl)) (hw _ (List.mem_of_getElem? (i := 55) rfl)) e102 V1 V2 (Or.inl ⟨rfl, rfl⟩) (by decide) hq2 hq3 (Nat.le_of_eq (Nat.zero_add _)) hq5 rfl (hd8 ▸ hq5) N0 g1 (g := (mkF m 12 #[.val (.ref a1), .val (.ref b1), .val (.int off)] [(.int zz), (.int off), (.ref b1), (.int (0 : Int32)), (.ref t1)])) rfl (by rw [hml]; rfl) rfl (hb hby d9_12) (by decide) (W := 0) (by show 2 * 0 + _ ≤ _; exact Nat.le_of_eq rfl) (by decide)
  refine Go.via st104 ?_
  have Zs104 : n0 ≤ h104.size := Nat.le_trans Z0 K104q.1
  have K104 : Keep h0 h104 [b1] := (Keep.refl h0 [b1]).trans K104q (allS (Or.inl (List.mem_of_getElem? (i := 0) rfl)) all0)
  show Go p e below _ (T104.setTop (mkF m 15 #[.val (.ref a1), .val (.ref b1), .val (.int off)] []))
  exact own_retV X104 hx hlk Bd.returns (hb hby d9_15) (by show QCC Z a1 t1 kb zz vs b1 kd ds off h0 n0 _ T104.heap _; rw [e104]; exact ⟨rfl, N104, K104, V104⟩) (by decide) (by decide)
theorem ef_rmSz (m : MethodId) (x0 : Addr) : entryFrame m #[(.ref x0)] 1 = mkF m 0 #[.val (.ref x0)] [] := by first | (simp [entryFrame, mkF, argsToLocals, Value.category]; done) | rfl
def QSz (Z : State) (a1 : Addr) (t1 : Addr) (kb : ClassId) (zz : Int32) (vs : List Value) (h0 : Heap) (n0 : Nat) (v : Option Value) (h : Heap) (L : List Loc) : Prop := v = some (.int zz) ∧ Fr n0 L ∧ h = h0
set_option maxRecDepth 65536 in
set_option maxHeartbeats 40000000 in
theorem rmSz (l : Launch) (Z : State) (a0 : Array Value) (hw : ∀ d ∈ tables_1, d.before a0 Z = true) (ws : List Jvm.Cond) (a1 : Addr) (t1 : Addr) (kb : ClassId) (zz : Int32) (vs : List Value) (h0 : Heap) (n0 : Nat) (Z0 : n0 ≤ h0.size) (F2 : Fld Z h0 a1 "com/example/sluice/sluice/processor/FlowFile" "content" "[B" (.ref t1)) (V1 : Arv Z h0 t1 kb .byte zz vs (.int (0 : Int32))) :
    MetFree l (⟨"com/example/sluice/sluice/processor/FlowFile", "size", "()I"⟩ : MethodName) (head1 (Jvm.Cond.code (⟨"com/example/sluice/sluice/processor/FlowFile", "size", "()I"⟩ : MethodName) prog_30_method_11_code 1 (some .int) :: ws) ({ frames := 0, cells := 0, slots := 0, locals := 0 } : Room)) (fun a U => a = #[(.ref a1)] ∧ Z.Warmed39 U.vm ∧ U.heap = h0) (fun _ _ _ _ _ => True) (fun _ U o U' => ∃ v L, o = .returned v ∧ QSz Z a1 t1 kb zz vs h0 n0 v U'.heap L ∧ FrameEnd U o U' L ({ frames := 0, cells := 0, slots := 0, locals := 0 } : Room).cells ({ frames := 0, cells := 0, slots := 0, locals := 0 } : Room).slots) := by
  refine MetFree.of_bodySF (plainFor_of_name pn_com_example_sluice_sluice_processor_FlowFile) hisR ?_
  intro p e s m args below meth c s₁ Bd hml0 hP hK
  obtain ⟨rfl, hZ, hh⟩ := hP
  have hx := Bd.exec
  have hby := Bd.bytes
  have hlk : meth.locks = false := Bd.notSynchronized
  have hml : c.maxLocals = 1 := hml0
  have hown : s.vm.findClass "com/example/sluice/sluice/processor/FlowFile" = some m.cls := findClass_of_methodNamed Bd.named
  have hnm := (name_of_methodNamed Bd.named Bd.method).1
  have X0 : Stand p l e ({ frames := 0, cells := 0, slots := 0, locals := 0 } : Room) s m #[(.ref a1)] below meth c s₁ [] 0 0 := Stand.of_body Bd
  have e0 : s₁.heap = h0 := by rw [← hh, Bd.state]; rfl
  have N0 := Fr.nil n0
  show Go p e below (FinE s below (QSz Z a1 t1 kb zz vs h0 n0) ({ frames := 0, cells := 0, slots := 0, locals := 0 } : Room).cells ({ frames := 0, cells := 0, slots := 0, locals := 0 } : Room).slots) (s₁.setTop (entryFrame m #[(.ref a1)] 1))
  refine Go.via (fun t k => castTop (ef_rmSz m a1) k) ?_
  show Go p e below _ (s₁.setTop (mkF m 0 #[.val (.ref a1)] []))
  refine Go.via (fun _ => XS.aloadN X0.here hx rfl (hb hby d10_0) rfl rfl) ?_
  show Go p e below _ (s₁.setTop (mkF m 1 #[.val (.ref a1)] [(.ref a1)]))
  obtain ⟨T101, X101, e101, st101⟩ := getF X0 hx hZ hown (host := "") (Or.inl (hw _ (List.mem_of_getElem? (i := 43) rfl))) Via.refl e0 F2 (g := (mkF m 1 #[.val (.ref a1)] [(.ref a1)])) rfl rfl (hb hby d10_1)
  refine Go.via st101 ?_
  show Go p e below _ (T101.setTop (mkF m 4 #[.val (.ref a1)] [(.ref t1)]))
  obtain ⟨cl102, Ar102, -, S102, N102n, -, -⟩ := id V1
  have al102 := X101.arraylength hx (by rw [e101]; exact Ar102.1) (State.isArrayOf_alike hZ.alike Ar102.2.1) (g := (mkF m 4 #[.val (.ref a1)] [(.ref t1)])) rfl rfl (hb hby d10_4)
  rw [len_of S102 N102n] at al102
  refine Go.via al102 ?_
  show Go p e below _ (T101.setTop (mkF m 5 #[.val (.ref a1)] [(.int zz)]))
  exact own_retI X101 hx hlk Bd.returns (hb hby d10_5) (by show QSz Z a1 t1 kb zz vs h0 n0 _ T101.heap _; rw [e101]; exact ⟨rfl, N0, rfl⟩) (by decide) (by decide)
theorem own_neg0 {off : Int32} (h : off = (0 : Int32) ∨ off = (1 : Int32) ∨ off = (2 : Int32) ∨ off = (3 : Int32) ∨ off = (4 : Int32) ∨ off = (5 : Int32) ∨ off = (6 : Int32) ∨ off = (7 : Int32) ∨ off = (8 : Int32)) : ¬ (off < 0) := by
  rcases h with rfl | rfl | rfl | rfl | rfl | rfl | rfl | rfl | rfl <;> decide
theorem own_le0 {off : Int32} (h : off = (0 : Int32) ∨ off = (1 : Int32) ∨ off = (2 : Int32) ∨ off = (3 : Int32) ∨ off = (4 : Int32) ∨ off = (5 : Int32) ∨ off = (6 : Int32) ∨ off = (7 : Int32) ∨ off = (8 : Int32)) : off.toNatClampNeg + (0 : Int32).toNatClampNeg ≤ 8 := by
  rcases h with rfl | rfl | rfl | rfl | rfl | rfl | rfl | rfl | rfl <;> decide
theorem own_neg1 {off : Int32} (h : off = (0 : Int32) ∨ off = (1 : Int32) ∨ off = (2 : Int32) ∨ off = (3 : Int32) ∨ off = (4 : Int32) ∨ off = (5 : Int32) ∨ off = (6 : Int32) ∨ off = (7 : Int32)) : ¬ (off < 0) := by
  rcases h with rfl | rfl | rfl | rfl | rfl | rfl | rfl | rfl <;> decide
theorem own_le1 {off : Int32} (h : off = (0 : Int32) ∨ off = (1 : Int32) ∨ off = (2 : Int32) ∨ off = (3 : Int32) ∨ off = (4 : Int32) ∨ off = (5 : Int32) ∨ off = (6 : Int32) ∨ off = (7 : Int32)) : off.toNatClampNeg + (1 : Int32).toNatClampNeg ≤ 8 := by
  rcases h with rfl | rfl | rfl | rfl | rfl | rfl | rfl | rfl <;> decide
theorem own_neg2 {off : Int32} (h : off = (0 : Int32) ∨ off = (1 : Int32) ∨ off = (2 : Int32) ∨ off = (3 : Int32) ∨ off = (4 : Int32) ∨ off = (5 : Int32) ∨ off = (6 : Int32)) : ¬ (off < 0) := by
  rcases h with rfl | rfl | rfl | rfl | rfl | rfl | rfl <;> decide
theorem own_le2 {off : Int32} (h : off = (0 : Int32) ∨ off = (1 : Int32) ∨ off = (2 : Int32) ∨ off = (3 : Int32) ∨ off = (4 : Int32) ∨ off = (5 : Int32) ∨ off = (6 : Int32)) : off.toNatClampNeg + (2 : Int32).toNatClampNeg ≤ 8 := by
  rcases h with rfl | rfl | rfl | rfl | rfl | rfl | rfl <;> decide
theorem own_neg3 {off : Int32} (h : off = (0 : Int32) ∨ off = (1 : Int32) ∨ off = (2 : Int32) ∨ off = (3 : Int32) ∨ off = (4 : Int32) ∨ off = (5 : Int32)) : ¬ (off < 0) := by
  rcases h with rfl | rfl | rfl | rfl | rfl | rfl <;> decide
theorem own_le3 {off : Int32} (h : off = (0 : Int32) ∨ off = (1 : Int32) ∨ off = (2 : Int32) ∨ off = (3 : Int32) ∨ off = (4 : Int32) ∨ off = (5 : Int32)) : off.toNatClampNeg + (3 : Int32).toNatClampNeg ≤ 8 := by
  rcases h with rfl | rfl | rfl | rfl | rfl | rfl <;> decide
theorem own_neg4 {off : Int32} (h : off = (0 : Int32) ∨ off = (1 : Int32) ∨ off = (2 : Int32) ∨ off = (3 : Int32) ∨ off = (4 : Int32)) : ¬ (off < 0) := by
  rcases h with rfl | rfl | rfl | rfl | rfl <;> decide
theorem own_le4 {off : Int32} (h : off = (0 : Int32) ∨ off = (1 : Int32) ∨ off = (2 : Int32) ∨ off = (3 : Int32) ∨ off = (4 : Int32)) : off.toNatClampNeg + (4 : Int32).toNatClampNeg ≤ 8 := by
  rcases h with rfl | rfl | rfl | rfl | rfl <;> decide
theorem ef_rm0 (m : MethodId) (x0 : Int32) (x1 : Int32) (x2 : Int32) (x3 : Int32) (x4 : Int32) : entryFrame m #[(.int x0), (.int x1), (.int x2), (.int x3), (.int x4)] maxLocals = mkF m 0 #[.val (.int x0), .val (.int x1), .val (.int x2), .val (.int x3), .val (.int x4), .unset, .unset, .unset, .unset, .unset] [] := by first | (simp [entryFrame, mkF, argsToLocals, Value.category, maxLocals]; done) | rfl
def Q0 (Z : State) (p1 : Int32) (p2 : Int32) (p3 : Int32) (p4 : Int32) (p5 : Int32) (em : Addr) (h0 : Heap) (n0 : Nat) (v : Option Value) (h : Heap) (L : List Loc) : Prop := v = some (.int 1) ∧ Fr n0 L
set_option maxRecDepth 65536 in
set_option maxHeartbeats 40000000 in
theorem rm0 (l : Launch) (Z : State) (a0 : Array Value) (hw : ∀ d ∈ tables_1, d.before a0 Z = true) (ws : List Jvm.Cond) (p1 : Int32) (p2 : Int32) (p3 : Int32) (p4 : Int32) (p5 : Int32) (em : Addr) (h0 : Heap) (n0 : Nat) (Z0 : n0 ≤ h0.size) (O0 : Old Z n0 h0) (S_EM : Sta Z Z.heap "java/util/ImmutableCollections" "EMPTY_MAP" "Ljava/util/ImmutableCollections$MapN;" (.ref em)) (E_EM : Exa Z Z.heap em "java/util/ImmutableCollections$MapN") :
    MetFree l x (head1 (Jvm.Cond.code x code maxLocals ret :: ws) room_1) (fun a U => a = #[(.int p1), (.int p2), (.int p3), (.int p4), (.int p5)] ∧ Z.Warmed39 U.vm ∧ U.heap = h0) (fun _ _ _ _ _ => True) (fun _ U o U' => ∃ v L, o = .returned v ∧ Q0 Z p1 p2 p3 p4 p5 em h0 n0 v U'.heap L ∧ FrameEnd U o U' L room_1.cells room_1.slots) := by
  refine MetFree.of_bodySF (plainFor_of_name pn_com_example_sluice_sluice_processor_FlowFileCopyContentPinLaw) hisR ?_
  intro p e s m args below meth c s₁ Bd hml0 hP hK
  obtain ⟨rfl, hZ, hh⟩ := hP
  have hx := Bd.exec
  have hby := Bd.bytes
  have hlk : meth.locks = false := Bd.notSynchronized
  have hml : c.maxLocals = 10 := hml0
  have hown : s.vm.findClass "com/example/sluice/sluice/processor/FlowFileCopyContentPinLaw" = some m.cls := findClass_of_methodNamed Bd.named
  have hnm := (name_of_methodNamed Bd.named Bd.method).1
  have X0 : Stand p l e room_1 s m #[(.int p1), (.int p2), (.int p3), (.int p4), (.int p5)] below meth c s₁ [] 0 0 := Stand.of_body Bd
  have e0 : s₁.heap = h0 := by rw [← hh, Bd.state]; rfl
  have N0 := Fr.nil n0
  show Go p e below (FinE s below (Q0 Z p1 p2 p3 p4 p5 em h0 n0) room_1.cells room_1.slots) (s₁.setTop (entryFrame m #[(.int p1), (.int p2), (.int p3), (.int p4), (.int p5)] maxLocals))
  refine Go.via (fun t k => castTop (ef_rm0 m p1 p2 p3 p4 p5) k) ?_
  show Go p e below _ (s₁.setTop (mkF m 0 #[.val (.int p1), .val (.int p2), .val (.int p3), .val (.int p4), .val (.int p5), .unset, .unset, .unset, .unset, .unset] []))
  refine Go.via (fun _ => XS.iloadN X0.here hx rfl (hb hby at_0) rfl) ?_
  show Go p e below _ (s₁.setTop (mkF m 1 #[.val (.int p1), .val (.int p2), .val (.int p3), .val (.int p4), .val (.int p5), .unset, .unset, .unset, .unset, .unset] [(.int p4)]))
  refine Go.via (fun _ => XS.bipush X0.here hx rfl (hb hby at_1)) ?_
  show Go p e below _ (s₁.setTop (mkF m 3 #[.val (.int p1), .val (.int p2), .val (.int p3), .val (.int p4), .val (.int p5), .unset, .unset, .unset, .unset, .unset] [(.int (7 : Int32)), (.int p4)]))
  refine Go.via (fun _ => XS.iand X0.here hx rfl (hb hby at_3) rfl) ?_
  show Go p e below _ (s₁.setTop (mkF m 4 #[.val (.int p1), .val (.int p2), .val (.int p3), .val (.int p4), .val (.int p5), .unset, .unset, .unset, .unset, .unset] [(.int (p4 &&& (7 : Int32)))]))
  refine Go.via (fun _ => XS.iconst X0.here hx rfl (hb hby at_4)) ?_
  show Go p e below _ (s₁.setTop (mkF m 5 #[.val (.int p1), .val (.int p2), .val (.int p3), .val (.int p4), .val (.int p5), .unset, .unset, .unset, .unset, .unset] [(.int (5 : Int32)), (.int (p4 &&& (7 : Int32)))]))
  refine Go.via (fun _ => iremM X0 hx rfl (hb hby at_5) rfl (by decide)) ?_
  show Go p e below _ (s₁.setTop (mkF m 6 #[.val (.int p1), .val (.int p2), .val (.int p3), .val (.int p4), .val (.int p5), .unset, .unset, .unset, .unset, .unset] [(.int ((p4 &&& (7 : Int32)) % (5 : Int32)))]))
  have hn := own_n p4
  generalize hnn : ((p4 &&& (7 : Int32)) % (5 : Int32)) = nx at hn ⊢
  rcases hn with rfl | rfl | rfl | rfl | rfl
  ·
    show Go p e below _ (s₁.setTop (mkF m 6 #[.val (.int p1), .val (.int p2), .val (.int p3), .val (.int p4), .val (.int p5), .unset, .unset, .unset, .unset, .unset] [(.int (0 : Int32))]))
    refine Go.via (fun _ => XS.istore X0.here hx rfl (hb hby at_6) rfl (l' := #[.val (.int p1), .val (.int p2), .val (.int p3), .val (.int p4), .val (.int p5), .val (.int (0 : Int32)), .unset, .unset, .unset, .unset]) rfl) ?_
    show Go p e below _ (s₁.setTop (mkF m 8 #[.val (.int p1), .val (.int p2), .val (.int p3), .val (.int p4), .val (.int p5), .val (.int (0 : Int32)), .unset, .unset, .unset, .unset] []))
    refine Go.via (fun _ => XS.iload X0.here hx rfl (hb hby at_8) rfl) ?_
    show Go p e below _ (s₁.setTop (mkF m 10 #[.val (.int p1), .val (.int p2), .val (.int p3), .val (.int p4), .val (.int p5), .val (.int (0 : Int32)), .unset, .unset, .unset, .unset] [(.int p5)]))
    refine Go.via (X0.ldcInt hx hown (mvT hZ (hw _ (List.mem_of_getElem? (i := 0) rfl))) (g := (mkF m 10 #[.val (.int p1), .val (.int p2), .val (.int p3), .val (.int p4), .val (.int p5), .val (.int (0 : Int32)), .unset, .unset, .unset, .unset] [(.int p5)])) rfl (hb hby at_10)) ?_
    show Go p e below _ (s₁.setTop (mkF m 12 #[.val (.int p1), .val (.int p2), .val (.int p3), .val (.int p4), .val (.int p5), .val (.int (0 : Int32)), .unset, .unset, .unset, .unset] [(.int (2147483647 : Int32)), (.int p5)]))
    refine Go.via (fun _ => XS.iand X0.here hx rfl (hb hby at_12) rfl) ?_
    show Go p e below _ (s₁.setTop (mkF m 13 #[.val (.int p1), .val (.int p2), .val (.int p3), .val (.int p4), .val (.int p5), .val (.int (0 : Int32)), .unset, .unset, .unset, .unset] [(.int (p5 &&& (2147483647 : Int32)))]))
    refine Go.via (fun _ => XS.bipush X0.here hx rfl (hb hby at_13)) ?_
    show Go p e below _ (s₁.setTop (mkF m 15 #[.val (.int p1), .val (.int p2), .val (.int p3), .val (.int p4), .val (.int p5), .val (.int (0 : Int32)), .unset, .unset, .unset, .unset] [(.int (9 : Int32)), (.int (p5 &&& (2147483647 : Int32)))]))
    refine Go.via (fun _ => XS.iload X0.here hx rfl (hb hby at_15) rfl) ?_
    show Go p e below _ (s₁.setTop (mkF m 17 #[.val (.int p1), .val (.int p2), .val (.int p3), .val (.int p4), .val (.int p5), .val (.int (0 : Int32)), .unset, .unset, .unset, .unset] [(.int (0 : Int32)), (.int (9 : Int32)), (.int (p5 &&& (2147483647 : Int32)))]))
    refine Go.via (fun _ => XS.isub X0.here hx rfl (hb hby at_17) rfl) ?_
    show Go p e below _ (s₁.setTop (mkF m 18 #[.val (.int p1), .val (.int p2), .val (.int p3), .val (.int p4), .val (.int p5), .val (.int (0 : Int32)), .unset, .unset, .unset, .unset] [(.int (9 : Int32)), (.int (p5 &&& (2147483647 : Int32)))]))
    refine Go.via (fun _ => iremM X0 hx rfl (hb hby at_18) rfl (by decide)) ?_
    show Go p e below _ (s₁.setTop (mkF m 19 #[.val (.int p1), .val (.int p2), .val (.int p3), .val (.int p4), .val (.int p5), .val (.int (0 : Int32)), .unset, .unset, .unset, .unset] [(.int ((p5 &&& (2147483647 : Int32)) % (9 : Int32)))]))
    have hoff := own_off0 p5
    generalize hof : ((p5 &&& (2147483647 : Int32)) % (9 : Int32)) = off at hoff ⊢
    show Go p e below _ (s₁.setTop (mkF m 19 #[.val (.int p1), .val (.int p2), .val (.int p3), .val (.int p4), .val (.int p5), .val (.int (0 : Int32)), .unset, .unset, .unset, .unset] [(.int off)]))
    refine Go.via (fun _ => XS.istore X0.here hx rfl (hb hby at_19) rfl (l' := #[.val (.int p1), .val (.int p2), .val (.int p3), .val (.int p4), .val (.int p5), .val (.int (0 : Int32)), .val (.int off), .unset, .unset, .unset]) rfl) ?_
    show Go p e below _ (s₁.setTop (mkF m 21 #[.val (.int p1), .val (.int p2), .val (.int p3), .val (.int p4), .val (.int p5), .val (.int (0 : Int32)), .val (.int off), .unset, .unset, .unset] []))
    refine Go.via (fun _ => XS.iload X0.here hx rfl (hb hby at_21) rfl) ?_
    show Go p e below _ (s₁.setTop (mkF m 23 #[.val (.int p1), .val (.int p2), .val (.int p3), .val (.int p4), .val (.int p5), .val (.int (0 : Int32)), .val (.int off), .unset, .unset, .unset] [(.int (0 : Int32))]))
    refine Go.via (fun _ => XS.iloadN X0.here hx rfl (hb hby at_23) rfl) ?_
    show Go p e below _ (s₁.setTop (mkF m 24 #[.val (.int p1), .val (.int p2), .val (.int p3), .val (.int p4), .val (.int p5), .val (.int (0 : Int32)), .val (.int off), .unset, .unset, .unset] [(.int p1), (.int (0 : Int32))]))
    obtain ⟨_, _, ⟨T101, L101, k101, n101⟩, -, X101, ⟨Lc101, hQ101, l101, y101, z101⟩, st101⟩ := Jvm.LawKit.callS X0 hx (y := (⟨"com/example/sluice/sluice/processor/FlowFileCopyContentPinLaw", "makeContent", "(II)[B"⟩ : MethodName)) hown (mvT hZ (hw _ (List.mem_of_getElem? (i := 1) rfl))) (mvT hZ (hw _ (List.mem_of_getElem? (i := 2) rfl))) (mvT hZ (hw _ (List.mem_of_getElem? (i := 3) rfl))) (mvT hZ (hw _ (List.mem_of_getElem? (i := 4) rfl))) (by decide) (backOf (W := 0) (rmMk_0 l Z a0 hw [] p1 h0 n0 Z0) hZ (hw _ (List.mem_of_getElem? (i := 4) rfl)) (hw _ (List.mem_of_getElem? (i := 3) rfl)) (by decide) (by decide)) (g := (mkF m 24 #[.val (.int p1), .val (.int p2), .val (.int p3), .val (.int p4), .val (.int p5), .val (.int (0 : Int32)), .val (.int off), .unset, .unset, .unset] [(.int p1), (.int (0 : Int32))])) rfl (by rw [hml]; rfl) (argsL := [(.int (0 : Int32)), (.int p1)]) (rest := []) (lenOf pd_4 rfl) rfl (by show 2 * 0 + _ ≤ _; exact Nat.le_of_eq rfl) (hb hby at_24) (fun _ _ => ⟨rfl, e0, (by decide : 0 + 1 ≤ _), (by decide : 0 + 0 ≤ _)⟩)
    dsimp only [Pt.U, Pt.locs, Pt.cells, Pt.slots] at X101 l101 y101 z101 st101 hQ101
    rw [l101, y101, z101] at X101
    replace X101 : Stand p l e _ _ m _ below meth c T101 _ 1 0 := X101
    obtain ⟨t101, kb101, rfl, N101q, K101q, gt101, et101, va101⟩ := hQ101
    have N101 := Fr.app N0 N101q
    refine Go.via st101 ?_
    have Zs101 : n0 ≤ T101.heap.size := Nat.le_trans Z0 K101q.1
    have O101 : Old Z n0 T101.heap := O0.keep K101q all0
    have g_t101 : n0 ≤ t101 := Nat.le_trans Z0 gt101
    show Go p e below _ (T101.setTop (mkF m 27 #[.val (.int p1), .val (.int p2), .val (.int p3), .val (.int p4), .val (.int p5), .val (.int (0 : Int32)), .val (.int off), .unset, .unset, .unset] [(.ref t101)]))
    refine Go.via (fun _ => XS.astore X101.here hx rfl (hb hby at_27) rfl rfl (l' := #[.val (.int p1), .val (.int p2), .val (.int p3), .val (.int p4), .val (.int p5), .val (.int (0 : Int32)), .val (.int off), .val (.ref t101), .unset, .unset]) rfl) ?_
    show Go p e below _ (T101.setTop (mkF m 29 #[.val (.int p1), .val (.int p2), .val (.int p3), .val (.int p4), .val (.int p5), .val (.int (0 : Int32)), .val (.int off), .val (.ref t101), .unset, .unset] []))
    obtain ⟨T102, h102, X102, e102, E102, A102, D102, -, st102⟩ := newO X101 hx hZ hown (hw _ (List.mem_of_getElem? (i := 9) rfl)) (hw _ (List.mem_of_getElem? (i := 10) rfl)) (hw _ (List.mem_of_getElem? (i := 11) rfl)) rfl (g := (mkF m 29 #[.val (.int p1), .val (.int p2), .val (.int p3), .val (.int p4), .val (.int p5), .val (.int (0 : Int32)), .val (.int off), .val (.ref t101), .unset, .unset] [])) rfl (hb hby at_29) (by decide) (by decide)
    obtain ⟨b102, g102⟩ : ∃ z, z = T101.heap.size := ⟨_, rfl⟩
    rw [← g102] at A102 D102 st102
    have g_b102 : n0 ≤ b102 := Nat.le_trans Zs101 (Nat.le_of_eq g102.symm)
    have ne_t101_b102 : t101 ≠ b102 := Nat.ne_of_lt (Nat.lt_of_lt_of_le et101.lt (Nat.le_of_eq g102.symm))
    refine Go.via st102 ?_
    have Zs102 : n0 ≤ h102.size := Nat.le_trans Zs101 E102.1
    have O102 : Old Z n0 h102 := O101.ext E102
    have fE_t101_102 := et101.ext E102
    have fV_t101_102 := va101.ext E102
    have F_attributes_b102 : Fld Z h102 b102 "com/example/sluice/sluice/processor/FlowFile" "attributes" "Ljava/util/Map;" .null := D102 (Or.inr (hw _ (List.mem_of_getElem? (i := 42) rfl))) (ty := (.object "java/util/Map")) (by decide)
    have F_content_b102 : Fld Z h102 b102 "com/example/sluice/sluice/processor/FlowFile" "content" "[B" .null := D102 (Or.inr (hw _ (List.mem_of_getElem? (i := 44) rfl))) (ty := (.array .byte)) (by decide)
    show Go p e below _ (T102.setTop (mkF m 32 #[.val (.int p1), .val (.int p2), .val (.int p3), .val (.int p4), .val (.int p5), .val (.int (0 : Int32)), .val (.int off), .val (.ref t101), .unset, .unset] [(.ref b102)]))
    refine Go.via (fun _ => XS.dup X102.here hx rfl (hb hby at_32) rfl rfl) ?_
    show Go p e below _ (T102.setTop (mkF m 33 #[.val (.int p1), .val (.int p2), .val (.int p3), .val (.int p4), .val (.int p5), .val (.int (0 : Int32)), .val (.int off), .val (.ref t101), .unset, .unset] [(.ref b102), (.ref b102)]))
    obtain ⟨_, _, ⟨T103, L103, k103, n103⟩, -, X103, ⟨Lc103, hQ103, l103, y103, z103⟩, st103⟩ := Jvm.LawKit.callS X102 hx (y := (⟨"java/util/Map", "of", "()Ljava/util/Map;"⟩ : MethodName)) hown (mvT hZ (hw _ (List.mem_of_getElem? (i := 12) rfl))) (mvT hZ (hw _ (List.mem_of_getElem? (i := 13) rfl))) (mvT hZ (hw _ (List.mem_of_getElem? (i := 14) rfl))) (mvT hZ (hw _ (List.mem_of_getElem? (i := 15) rfl))) (by decide) (backOf (W := 2) (rmOf l Z a0 hw [] em h102 n0 Zs102 O102 S_EM) hZ (hw _ (List.mem_of_getElem? (i := 15) rfl)) (hw _ (List.mem_of_getElem? (i := 14) rfl)) (by decide) (by decide)) (g := (mkF m 33 #[.val (.int p1), .val (.int p2), .val (.int p3), .val (.int p4), .val (.int p5), .val (.int (0 : Int32)), .val (.int off), .val (.ref t101), .unset, .unset] [(.ref b102), (.ref b102)])) rfl (by rw [hml]; rfl) (argsL := []) (rest := [(.ref b102), (.ref b102)]) (lenOf pd_5 rfl) rfl (by show 2 * 0 + _ ≤ _; exact Nat.le_of_eq rfl) (hb hby at_33) (fun _ _ => ⟨rfl, e102, (by decide : 2 + 0 ≤ _), (by decide : 2 + 0 ≤ _)⟩)
    dsimp only [Pt.U, Pt.locs, Pt.cells, Pt.slots] at X103 l103 y103 z103 st103 hQ103
    rw [l103, y103, z103] at X103
    replace X103 : Stand p l e _ _ m _ below meth c T103 _ 2 2 := X103
    obtain ⟨rfl, N103q, e103q⟩ := hQ103
    have N103 := Fr.app N101 N103q
    refine Go.via st103 ?_
    show Go p e below _ (T103.setTop (mkF m 36 #[.val (.int p1), .val (.int p2), .val (.int p3), .val (.int p4), .val (.int p5), .val (.int (0 : Int32)), .val (.int off), .val (.ref t101), .unset, .unset] [(.ref em), (.ref b102), (.ref b102)]))
    refine Go.via (fun _ => XS.aload X103.here hx rfl (hb hby at_36) rfl rfl) ?_
    show Go p e below _ (T103.setTop (mkF m 38 #[.val (.int p1), .val (.int p2), .val (.int p3), .val (.int p4), .val (.int p5), .val (.int (0 : Int32)), .val (.int off), .val (.ref t101), .unset, .unset] [(.ref t101), (.ref em), (.ref b102), (.ref b102)]))
    have eemb102 := E_EM.ext O102.2
    have neemb102 : b102 ≠ em := Ne.symm (O102.ne E_EM.lt g_b102)
    obtain ⟨_, _, ⟨T104, L104, k104, n104⟩, -, X104, ⟨Lc104, hQ104, l104, y104, z104⟩, st104⟩ := X103.specialBack hx (y := (⟨"com/example/sluice/sluice/processor/FlowFile", "<init>", "(Ljava/util/Map;[B)V"⟩ : MethodName)) rfl hown (mvT hZ (hw _ (List.mem_of_getElem? (i := 18) rfl))) (mvT hZ (hw _ (List.mem_of_getElem? (i := 19) rfl))) (mvT hZ (hw _ (List.mem_of_getElem? (i := 20) rfl))) (by decide) (backOf (W := 1) (rmFI1 l Z a0 hw [] b102 em t101 kb101 (0 : Int32) _ h102 n0 Zs102 A102 F_attributes_b102 F_content_b102 g_b102 eemb102 fE_t101_102 fV_t101_102 (by decide) neemb102 (Ne.symm ne_t101_b102)) hZ (hw _ (List.mem_of_getElem? (i := 20) rfl)) (hw _ (List.mem_of_getElem? (i := 11) rfl)) (by decide) (by decide)) (g := (mkF m 38 #[.val (.int p1), .val (.int p2), .val (.int p3), .val (.int p4), .val (.int p5), .val (.int (0 : Int32)), .val (.int off), .val (.ref t101), .unset, .unset] [(.ref t101), (.ref em), (.ref b102), (.ref b102)])) rfl (by rw [hml]; rfl) (Steps.refl _) (a := b102) (argsL := [(.ref em), (.ref t101)]) (rest := [(.ref b102)]) (lenOf pd_6 rfl) rfl (by show 2 * 0 + _ ≤ _; exact Nat.le_of_eq rfl) (hb hby at_38) (fun _ _ => ⟨rfl, e103q, (by decide : 2 + 1 ≤ _), (by decide : 2 + 4 ≤ _)⟩)
    dsimp only [Pt.U, Pt.locs, Pt.cells, Pt.slots] at X104 l104 y104 z104 st104 hQ104
    rw [l104, y104, z104] at X104
    replace X104 : Stand p l e _ _ m _ below meth c T104 _ 3 6 := X104
    obtain ⟨rfl, N104q, K104q, ct104, gt104, fc104, va104⟩ := hQ104
    have N104 := Fr.app N103 N104q
    refine Go.tr st104 ?_
    have Zs104 : n0 ≤ T104.heap.size := Nat.le_trans Zs102 K104q.1
    have O104 : Old Z n0 T104.heap := O102.keep K104q (allS g_b102 all0)
    have fE_t101_104 := fE_t101_102.keep K104q
    have fV_t101_104 := fV_t101_102.keep K104q (ninS ne_t101_b102 nin0)
    have fE_b102_104 := A102.keep K104q
    have g_ct104 : n0 ≤ ct104 := Nat.le_trans Zs102 gt104
    have ne_t101_ct104 : t101 ≠ ct104 := Nat.ne_of_lt (Nat.lt_of_lt_of_le fE_t101_102.lt gt104)
    have ne_b102_ct104 : b102 ≠ ct104 := Nat.ne_of_lt (Nat.lt_of_lt_of_le A102.lt gt104)
    show Go p e below _ (T104.setTop (mkF m 41 #[.val (.int p1), .val (.int p2), .val (.int p3), .val (.int p4), .val (.int p5), .val (.int (0 : Int32)), .val (.int off), .val (.ref t101), .unset, .unset] [(.ref b102)]))
    refine Go.via (fun _ => XS.astore X104.here hx rfl (hb hby at_41) rfl rfl (l' := #[.val (.int p1), .val (.int p2), .val (.int p3), .val (.int p4), .val (.int p5), .val (.int (0 : Int32)), .val (.int off), .val (.ref t101), .val (.ref b102), .unset]) rfl) ?_
    show Go p e below _ (T104.setTop (mkF m 43 #[.val (.int p1), .val (.int p2), .val (.int p3), .val (.int p4), .val (.int p5), .val (.int (0 : Int32)), .val (.int off), .val (.ref t101), .val (.ref b102), .unset] []))
    refine Go.via (fun _ => XS.bipush X104.here hx rfl (hb hby at_43)) ?_
    show Go p e below _ (T104.setTop (mkF m 45 #[.val (.int p1), .val (.int p2), .val (.int p3), .val (.int p4), .val (.int p5), .val (.int (0 : Int32)), .val (.int off), .val (.ref t101), .val (.ref b102), .unset] [(.int (8 : Int32))]))
    obtain ⟨T105, h105, k105, X105, e105, E105, A105, st105⟩ := newP X104 hx hZ (hw _ (List.mem_of_getElem? (i := 5) rfl)) rfl (g := (mkF m 45 #[.val (.int p1), .val (.int p2), .val (.int p3), .val (.int p4), .val (.int p5), .val (.int (0 : Int32)), .val (.int off), .val (.ref t101), .val (.ref b102), .unset] [(.int (8 : Int32))])) rfl (hb hby at_45) rfl (by decide) (cap := 8) (by decide) (by decide) (by decide) (by decide)
    obtain ⟨b105, g105⟩ : ∃ z, z = T104.heap.size := ⟨_, rfl⟩
    rw [← g105] at A105 st105
    have g_b105 : n0 ≤ b105 := Nat.le_trans Zs104 (Nat.le_of_eq g105.symm)
    have ne_t101_b105 : t101 ≠ b105 := Nat.ne_of_lt (Nat.lt_of_lt_of_le fE_t101_104.lt (Nat.le_of_eq g105.symm))
    have ne_b102_b105 : b102 ≠ b105 := Nat.ne_of_lt (Nat.lt_of_lt_of_le fE_b102_104.lt (Nat.le_of_eq g105.symm))
    have ne_ct104_b105 : ct104 ≠ b105 := Nat.ne_of_lt (Nat.lt_of_lt_of_le va104.lt (Nat.le_of_eq g105.symm))
    refine Go.via st105 ?_
    have Zs105 : n0 ≤ h105.size := Nat.le_trans Zs104 E105.1
    have O105 : Old Z n0 h105 := O104.ext E105
    have fE_t101_105 := fE_t101_104.ext E105
    have fV_t101_105 := fV_t101_104.ext E105
    have fE_b102_105 := fE_b102_104.ext E105
    have fF_b102_content_105 := fc104.ext E105
    have fV_ct104_105 := va104.ext E105
    have V_b105 : Arv Z h105 b105 k105 .byte (8 : Int32) [(.int (0 : Int32)), (.int (0 : Int32)), (.int (0 : Int32)), (.int (0 : Int32)), (.int (0 : Int32)), (.int (0 : Int32)), (.int (0 : Int32)), (.int (0 : Int32))] (.int (0 : Int32)) := (Arv.new A105 (by decide)).pad (pad_rep [] (.int (0 : Int32)) 8)
    show Go p e below _ (T105.setTop (mkF m 47 #[.val (.int p1), .val (.int p2), .val (.int p3), .val (.int p4), .val (.int p5), .val (.int (0 : Int32)), .val (.int off), .val (.ref t101), .val (.ref b102), .unset] [(.ref b105)]))
    refine Go.via (fun _ => XS.dup X105.here hx rfl (hb hby at_47) rfl rfl) ?_
    show Go p e below _ (T105.setTop (mkF m 48 #[.val (.int p1), .val (.int p2), .val (.int p3), .val (.int p4), .val (.int p5), .val (.int (0 : Int32)), .val (.int off), .val (.ref t101), .val (.ref b102), .unset] [(.ref b105), (.ref b105)]))
    refine Go.via (fun _ => XS.iconst X105.here hx rfl (hb hby at_48)) ?_
    show Go p e below _ (T105.setTop (mkF m 49 #[.val (.int p1), .val (.int p2), .val (.int p3), .val (.int p4), .val (.int p5), .val (.int (0 : Int32)), .val (.int off), .val (.ref t101), .val (.ref b102), .unset] [(.int (0 : Int32)), (.ref b105), (.ref b105)]))
    refine Go.via (fun _ => XS.iconst X105.here hx rfl (hb hby at_49)) ?_
    show Go p e below _ (T105.setTop (mkF m 50 #[.val (.int p1), .val (.int p2), .val (.int p3), .val (.int p4), .val (.int p5), .val (.int (0 : Int32)), .val (.int off), .val (.ref t101), .val (.ref b102), .unset] [(.int (0 : Int32)), (.int (0 : Int32)), (.ref b105), (.ref b105)]))
    refine Go.via (fun _ => XS.iloadN X105.here hx rfl (hb hby at_50) rfl) ?_
    show Go p e below _ (T105.setTop (mkF m 51 #[.val (.int p1), .val (.int p2), .val (.int p3), .val (.int p4), .val (.int p5), .val (.int (0 : Int32)), .val (.int off), .val (.ref t101), .val (.ref b102), .unset] [(.int p2), (.int (0 : Int32)), (.int (0 : Int32)), (.ref b105), (.ref b105)]))
    refine Go.via (fun _ => XS.iloadN X105.here hx rfl (hb hby at_51) rfl) ?_
    show Go p e below _ (T105.setTop (mkF m 52 #[.val (.int p1), .val (.int p2), .val (.int p3), .val (.int p4), .val (.int p5), .val (.int (0 : Int32)), .val (.int off), .val (.ref t101), .val (.ref b102), .unset] [(.int p3), (.int p2), (.int (0 : Int32)), (.int (0 : Int32)), (.ref b105), (.ref b105)]))
    obtain ⟨_, _, ⟨T106, L106, k106, n106⟩, -, X106, ⟨Lc106, hQ106, l106, y106, z106⟩, st106⟩ := Jvm.LawKit.callS X105 hx (y := (⟨"com/example/sluice/sluice/processor/FlowFileCopyContentPinLaw", "db", "(III)B"⟩ : MethodName)) hown (mvT hZ (hw _ (List.mem_of_getElem? (i := 45) rfl))) (mvT hZ (hw _ (List.mem_of_getElem? (i := 46) rfl))) (mvT hZ (hw _ (List.mem_of_getElem? (i := 3) rfl))) (mvT hZ (hw _ (List.mem_of_getElem? (i := 47) rfl))) (by decide) (backOf (W := 3) (rmDb l Z a0 hw [] (0 : Int32) p2 p3 h105 n0 Zs105) hZ (hw _ (List.mem_of_getElem? (i := 47) rfl)) (hw _ (List.mem_of_getElem? (i := 3) rfl)) (by decide) (by decide)) (g := (mkF m 52 #[.val (.int p1), .val (.int p2), .val (.int p3), .val (.int p4), .val (.int p5), .val (.int (0 : Int32)), .val (.int off), .val (.ref t101), .val (.ref b102), .unset] [(.int p3), (.int p2), (.int (0 : Int32)), (.int (0 : Int32)), (.ref b105), (.ref b105)])) rfl (by rw [hml]; rfl) (argsL := [(.int (0 : Int32)), (.int p2), (.int p3)]) (rest := [(.int (0 : Int32)), (.ref b105), (.ref b105)]) (lenOf pd_0 rfl) rfl (by show 2 * 0 + _ ≤ _; exact Nat.le_of_eq rfl) (hb hby at_52) (fun _ _ => ⟨rfl, e105, (by decide : 4 + 0 ≤ _), (by decide : 14 + 0 ≤ _)⟩)
    dsimp only [Pt.U, Pt.locs, Pt.cells, Pt.slots] at X106 l106 y106 z106 st106 hQ106
    rw [l106, y106, z106] at X106
    replace X106 : Stand p l e _ _ m _ below meth c T106 _ 4 14 := X106
    obtain ⟨rfl, N106q, e106q⟩ := hQ106
    have N106 := Fr.app N104 N106q
    refine Go.via st106 ?_
    show Go p e below _ (T106.setTop (mkF m 55 #[.val (.int p1), .val (.int p2), .val (.int p3), .val (.int p4), .val (.int p5), .val (.int (0 : Int32)), .val (.int off), .val (.ref t101), .val (.ref b102), .unset] [(.int (dbF (0 : Int32) p2 p3)), (.int (0 : Int32)), (.ref b105), (.ref b105)]))
    obtain ⟨cl107, Ar107, q107, S107, N107n, H107, G107⟩ := id V_b105
    have hin107 := inb_of (j := (0 : Int32)) S107 (by decide)
    obtain ⟨T107, h107, X107, e107, W107, st107⟩ := stB X106 hx hZ e106q Ar107 (j := (0 : Int32)) hin107 (g := (mkF m 55 #[.val (.int p1), .val (.int p2), .val (.int p3), .val (.int p4), .val (.int p5), .val (.int (0 : Int32)), .val (.int off), .val (.ref t101), .val (.ref b102), .unset] [(.int (dbF (0 : Int32) p2 p3)), (.int (0 : Int32)), (.ref b105), (.ref b105)])) rfl rfl (hb hby at_55)
    refine Go.via st107 ?_
    have V107 : Arv Z h107 b105 k105 .byte (8 : Int32) [(.int (nar .byte (dbF (0 : Int32) p2 p3))), (.int (0 : Int32)), (.int (0 : Int32)), (.int (0 : Int32)), (.int (0 : Int32)), (.int (0 : Int32)), (.int (0 : Int32)), (.int (0 : Int32))] (.int (0 : Int32)) := Arv.set Ar107 q107 S107 N107n H107 G107 (fits_nar_byte _) W107 0 rfl (Nat.le_of_ble_eq_true rfl)
    have Zs107 : n0 ≤ h107.size := Nat.le_trans Zs105 (Keep.of_wr W107).1
    have O107 : Old Z n0 h107 := O105.wr W107 g_b105
    have N107 := Fr.snoc X107 N106 g_b105
    have fE_t101_107 := fE_t101_105.wr W107
    have fV_t101_107 := fV_t101_105.other W107 ne_t101_b105
    have fE_b102_107 := fE_b102_105.wr W107
    have fF_b102_content_107 := fF_b102_content_105.other W107 (Or.inl ne_b102_b105)
    have fV_ct104_107 := fV_ct104_105.other W107 ne_ct104_b105
    show Go p e below _ (T107.setTop (mkF m 56 #[.val (.int p1), .val (.int p2), .val (.int p3), .val (.int p4), .val (.int p5), .val (.int (0 : Int32)), .val (.int off), .val (.ref t101), .val (.ref b102), .unset] [(.ref b105)]))
    refine Go.via (fun _ => XS.dup X107.here hx rfl (hb hby at_56) rfl rfl) ?_
    show Go p e below _ (T107.setTop (mkF m 57 #[.val (.int p1), .val (.int p2), .val (.int p3), .val (.int p4), .val (.int p5), .val (.int (0 : Int32)), .val (.int off), .val (.ref t101), .val (.ref b102), .unset] [(.ref b105), (.ref b105)]))
    refine Go.via (fun _ => XS.iconst X107.here hx rfl (hb hby at_57)) ?_
    show Go p e below _ (T107.setTop (mkF m 58 #[.val (.int p1), .val (.int p2), .val (.int p3), .val (.int p4), .val (.int p5), .val (.int (0 : Int32)), .val (.int off), .val (.ref t101), .val (.ref b102), .unset] [(.int (1 : Int32)), (.ref b105), (.ref b105)]))
    refine Go.via (fun _ => XS.iconst X107.here hx rfl (hb hby at_58)) ?_
    show Go p e below _ (T107.setTop (mkF m 59 #[.val (.int p1), .val (.int p2), .val (.int p3), .val (.int p4), .val (.int p5), .val (.int (0 : Int32)), .val (.int off), .val (.ref t101), .val (.ref b102), .unset] [(.int (1 : Int32)), (.int (1 : Int32)), (.ref b105), (.ref b105)]))
    refine Go.via (fun _ => XS.iloadN X107.here hx rfl (hb hby at_59) rfl) ?_
    show Go p e below _ (T107.setTop (mkF m 60 #[.val (.int p1), .val (.int p2), .val (.int p3), .val (.int p4), .val (.int p5), .val (.int (0 : Int32)), .val (.int off), .val (.ref t101), .val (.ref b102), .unset] [(.int p2), (.int (1 : Int32)), (.int (1 : Int32)), (.ref b105), (.ref b105)]))
    refine Go.via (fun _ => XS.iloadN X107.here hx rfl (hb hby at_60) rfl) ?_
    show Go p e below _ (T107.setTop (mkF m 61 #[.val (.int p1), .val (.int p2), .val (.int p3), .val (.int p4), .val (.int p5), .val (.int (0 : Int32)), .val (.int off), .val (.ref t101), .val (.ref b102), .unset] [(.int p3), (.int p2), (.int (1 : Int32)), (.int (1 : Int32)), (.ref b105), (.ref b105)]))
    obtain ⟨_, _, ⟨T108, L108, k108, n108⟩, -, X108, ⟨Lc108, hQ108, l108, y108, z108⟩, st108⟩ := Jvm.LawKit.callS X107 hx (y := (⟨"com/example/sluice/sluice/processor/FlowFileCopyContentPinLaw", "db", "(III)B"⟩ : MethodName)) hown (mvT hZ (hw _ (List.mem_of_getElem? (i := 45) rfl))) (mvT hZ (hw _ (List.mem_of_getElem? (i := 46) rfl))) (mvT hZ (hw _ (List.mem_of_getElem? (i := 3) rfl))) (mvT hZ (hw _ (List.mem_of_getElem? (i := 47) rfl))) (by decide) (backOf (W := 3) (rmDb l Z a0 hw [] (1 : Int32) p2 p3 h107 n0 Zs107) hZ (hw _ (List.mem_of_getElem? (i := 47) rfl)) (hw _ (List.mem_of_getElem? (i := 3) rfl)) (by decide) (by decide)) (g := (mkF m 61 #[.val (.int p1), .val (.int p2), .val (.int p3), .val (.int p4), .val (.int p5), .val (.int (0 : Int32)), .val (.int off), .val (.ref t101), .val (.ref b102), .unset] [(.int p3), (.int p2), (.int (1 : Int32)), (.int (1 : Int32)), (.ref b105), (.ref b105)])) rfl (by rw [hml]; rfl) (argsL := [(.int (1 : Int32)), (.int p2), (.int p3)]) (rest := [(.int (1 : Int32)), (.ref b105), (.ref b105)]) (lenOf pd_0 rfl) rfl (by show 2 * 0 + _ ≤ _; exact Nat.le_of_eq rfl) (hb hby at_61) (fun _ _ => ⟨rfl, e107, (by decide : 4 + 0 ≤ _), (by decide : 14 + 0 ≤ _)⟩)
    dsimp only [Pt.U, Pt.locs, Pt.cells, Pt.slots] at X108 l108 y108 z108 st108 hQ108
    rw [l108, y108, z108] at X108
    replace X108 : Stand p l e _ _ m _ below meth c T108 _ 4 14 := X108
    obtain ⟨rfl, N108q, e108q⟩ := hQ108
    have N108 := Fr.app N107 N108q
    refine Go.via st108 ?_
    show Go p e below _ (T108.setTop (mkF m 64 #[.val (.int p1), .val (.int p2), .val (.int p3), .val (.int p4), .val (.int p5), .val (.int (0 : Int32)), .val (.int off), .val (.ref t101), .val (.ref b102), .unset] [(.int (dbF (1 : Int32) p2 p3)), (.int (1 : Int32)), (.ref b105), (.ref b105)]))
    obtain ⟨cl109, Ar109, q109, S109, N109n, H109, G109⟩ := id V107
    have hin109 := inb_of (j := (1 : Int32)) S109 (by decide)
    obtain ⟨T109, h109, X109, e109, W109, st109⟩ := stB X108 hx hZ e108q Ar109 (j := (1 : Int32)) hin109 (g := (mkF m 64 #[.val (.int p1), .val (.int p2), .val (.int p3), .val (.int p4), .val (.int p5), .val (.int (0 : Int32)), .val (.int off), .val (.ref t101), .val (.ref b102), .unset] [(.int (dbF (1 : Int32) p2 p3)), (.int (1 : Int32)), (.ref b105), (.ref b105)])) rfl rfl (hb hby at_64)
    refine Go.via st109 ?_
    have V109 : Arv Z h109 b105 k105 .byte (8 : Int32) [(.int (nar .byte (dbF (0 : Int32) p2 p3))), (.int (nar .byte (dbF (1 : Int32) p2 p3))), (.int (0 : Int32)), (.int (0 : Int32)), (.int (0 : Int32)), (.int (0 : Int32)), (.int (0 : Int32)), (.int (0 : Int32))] (.int (0 : Int32)) := Arv.set Ar109 q109 S109 N109n H109 G109 (fits_nar_byte _) W109 1 rfl (Nat.le_of_ble_eq_true rfl)
    have Zs109 : n0 ≤ h109.size := Nat.le_trans Zs107 (Keep.of_wr W109).1
    have O109 : Old Z n0 h109 := O107.wr W109 g_b105
    have N109 := Fr.snoc X109 N108 g_b105
    have fE_t101_109 := fE_t101_107.wr W109
    have fV_t101_109 := fV_t101_107.other W109 ne_t101_b105
    have fE_b102_109 := fE_b102_107.wr W109
    have fF_b102_content_109 := fF_b102_content_107.other W109 (Or.inl ne_b102_b105)
    have fV_ct104_109 := fV_ct104_107.other W109 ne_ct104_b105
    show Go p e below _ (T109.setTop (mkF m 65 #[.val (.int p1), .val (.int p2), .val (.int p3), .val (.int p4), .val (.int p5), .val (.int (0 : Int32)), .val (.int off), .val (.ref t101), .val (.ref b102), .unset] [(.ref b105)]))
    refine Go.via (fun _ => XS.dup X109.here hx rfl (hb hby at_65) rfl rfl) ?_
    show Go p e below _ (T109.setTop (mkF m 66 #[.val (.int p1), .val (.int p2), .val (.int p3), .val (.int p4), .val (.int p5), .val (.int (0 : Int32)), .val (.int off), .val (.ref t101), .val (.ref b102), .unset] [(.ref b105), (.ref b105)]))
    refine Go.via (fun _ => XS.iconst X109.here hx rfl (hb hby at_66)) ?_
    show Go p e below _ (T109.setTop (mkF m 67 #[.val (.int p1), .val (.int p2), .val (.int p3), .val (.int p4), .val (.int p5), .val (.int (0 : Int32)), .val (.int off), .val (.ref t101), .val (.ref b102), .unset] [(.int (2 : Int32)), (.ref b105), (.ref b105)]))
    refine Go.via (fun _ => XS.iconst X109.here hx rfl (hb hby at_67)) ?_
    show Go p e below _ (T109.setTop (mkF m 68 #[.val (.int p1), .val (.int p2), .val (.int p3), .val (.int p4), .val (.int p5), .val (.int (0 : Int32)), .val (.int off), .val (.ref t101), .val (.ref b102), .unset] [(.int (2 : Int32)), (.int (2 : Int32)), (.ref b105), (.ref b105)]))
    refine Go.via (fun _ => XS.iloadN X109.here hx rfl (hb hby at_68) rfl) ?_
    show Go p e below _ (T109.setTop (mkF m 69 #[.val (.int p1), .val (.int p2), .val (.int p3), .val (.int p4), .val (.int p5), .val (.int (0 : Int32)), .val (.int off), .val (.ref t101), .val (.ref b102), .unset] [(.int p2), (.int (2 : Int32)), (.int (2 : Int32)), (.ref b105), (.ref b105)]))
    refine Go.via (fun _ => XS.iloadN X109.here hx rfl (hb hby at_69) rfl) ?_
    show Go p e below _ (T109.setTop (mkF m 70 #[.val (.int p1), .val (.int p2), .val (.int p3), .val (.int p4), .val (.int p5), .val (.int (0 : Int32)), .val (.int off), .val (.ref t101), .val (.ref b102), .unset] [(.int p3), (.int p2), (.int (2 : Int32)), (.int (2 : Int32)), (.ref b105), (.ref b105)]))
    obtain ⟨_, _, ⟨T110, L110, k110, n110⟩, -, X110, ⟨Lc110, hQ110, l110, y110, z110⟩, st110⟩ := Jvm.LawKit.callS X109 hx (y := (⟨"com/example/sluice/sluice/processor/FlowFileCopyContentPinLaw", "db", "(III)B"⟩ : MethodName)) hown (mvT hZ (hw _ (List.mem_of_getElem? (i := 45) rfl))) (mvT hZ (hw _ (List.mem_of_getElem? (i := 46) rfl))) (mvT hZ (hw _ (List.mem_of_getElem? (i := 3) rfl))) (mvT hZ (hw _ (List.mem_of_getElem? (i := 47) rfl))) (by decide) (backOf (W := 3) (rmDb l Z a0 hw [] (2 : Int32) p2 p3 h109 n0 Zs109) hZ (hw _ (List.mem_of_getElem? (i := 47) rfl)) (hw _ (List.mem_of_getElem? (i := 3) rfl)) (by decide) (by decide)) (g := (mkF m 70 #[.val (.int p1), .val (.int p2), .val (.int p3), .val (.int p4), .val (.int p5), .val (.int (0 : Int32)), .val (.int off), .val (.ref t101), .val (.ref b102), .unset] [(.int p3), (.int p2), (.int (2 : Int32)), (.int (2 : Int32)), (.ref b105), (.ref b105)])) rfl (by rw [hml]; rfl) (argsL := [(.int (2 : Int32)), (.int p2), (.int p3)]) (rest := [(.int (2 : Int32)), (.ref b105), (.ref b105)]) (lenOf pd_0 rfl) rfl (by show 2 * 0 + _ ≤ _; exact Nat.le_of_eq rfl) (hb hby at_70) (fun _ _ => ⟨rfl, e109, (by decide : 4 + 0 ≤ _), (by decide : 14 + 0 ≤ _)⟩)
    dsimp only [Pt.U, Pt.locs, Pt.cells, Pt.slots] at X110 l110 y110 z110 st110 hQ110
    rw [l110, y110, z110] at X110
    replace X110 : Stand p l e _ _ m _ below meth c T110 _ 4 14 := X110
    obtain ⟨rfl, N110q, e110q⟩ := hQ110
    have N110 := Fr.app N109 N110q
    refine Go.via st110 ?_
    show Go p e below _ (T110.setTop (mkF m 73 #[.val (.int p1), .val (.int p2), .val (.int p3), .val (.int p4), .val (.int p5), .val (.int (0 : Int32)), .val (.int off), .val (.ref t101), .val (.ref b102), .unset] [(.int (dbF (2 : Int32) p2 p3)), (.int (2 : Int32)), (.ref b105), (.ref b105)]))
    obtain ⟨cl111, Ar111, q111, S111, N111n, H111, G111⟩ := id V109
    have hin111 := inb_of (j := (2 : Int32)) S111 (by decide)
    obtain ⟨T111, h111, X111, e111, W111, st111⟩ := stB X110 hx hZ e110q Ar111 (j := (2 : Int32)) hin111 (g := (mkF m 73 #[.val (.int p1), .val (.int p2), .val (.int p3), .val (.int p4), .val (.int p5), .val (.int (0 : Int32)), .val (.int off), .val (.ref t101), .val (.ref b102), .unset] [(.int (dbF (2 : Int32) p2 p3)), (.int (2 : Int32)), (.ref b105), (.ref b105)])) rfl rfl (hb hby at_73)
    refine Go.via st111 ?_
    have V111 : Arv Z h111 b105 k105 .byte (8 : Int32) [(.int (nar .byte (dbF (0 : Int32) p2 p3))), (.int (nar .byte (dbF (1 : Int32) p2 p3))), (.int (nar .byte (dbF (2 : Int32) p2 p3))), (.int (0 : Int32)), (.int (0 : Int32)), (.int (0 : Int32)), (.int (0 : Int32)), (.int (0 : Int32))] (.int (0 : Int32)) := Arv.set Ar111 q111 S111 N111n H111 G111 (fits_nar_byte _) W111 2 rfl (Nat.le_of_ble_eq_true rfl)
    have Zs111 : n0 ≤ h111.size := Nat.le_trans Zs109 (Keep.of_wr W111).1
    have O111 : Old Z n0 h111 := O109.wr W111 g_b105
    have N111 := Fr.snoc X111 N110 g_b105
    have fE_t101_111 := fE_t101_109.wr W111
    have fV_t101_111 := fV_t101_109.other W111 ne_t101_b105
    have fE_b102_111 := fE_b102_109.wr W111
    have fF_b102_content_111 := fF_b102_content_109.other W111 (Or.inl ne_b102_b105)
    have fV_ct104_111 := fV_ct104_109.other W111 ne_ct104_b105
    show Go p e below _ (T111.setTop (mkF m 74 #[.val (.int p1), .val (.int p2), .val (.int p3), .val (.int p4), .val (.int p5), .val (.int (0 : Int32)), .val (.int off), .val (.ref t101), .val (.ref b102), .unset] [(.ref b105)]))
    refine Go.via (fun _ => XS.dup X111.here hx rfl (hb hby at_74) rfl rfl) ?_
    show Go p e below _ (T111.setTop (mkF m 75 #[.val (.int p1), .val (.int p2), .val (.int p3), .val (.int p4), .val (.int p5), .val (.int (0 : Int32)), .val (.int off), .val (.ref t101), .val (.ref b102), .unset] [(.ref b105), (.ref b105)]))
    refine Go.via (fun _ => XS.iconst X111.here hx rfl (hb hby at_75)) ?_
    show Go p e below _ (T111.setTop (mkF m 76 #[.val (.int p1), .val (.int p2), .val (.int p3), .val (.int p4), .val (.int p5), .val (.int (0 : Int32)), .val (.int off), .val (.ref t101), .val (.ref b102), .unset] [(.int (3 : Int32)), (.ref b105), (.ref b105)]))
    refine Go.via (fun _ => XS.iconst X111.here hx rfl (hb hby at_76)) ?_
    show Go p e below _ (T111.setTop (mkF m 77 #[.val (.int p1), .val (.int p2), .val (.int p3), .val (.int p4), .val (.int p5), .val (.int (0 : Int32)), .val (.int off), .val (.ref t101), .val (.ref b102), .unset] [(.int (3 : Int32)), (.int (3 : Int32)), (.ref b105), (.ref b105)]))
    refine Go.via (fun _ => XS.iloadN X111.here hx rfl (hb hby at_77) rfl) ?_
    show Go p e below _ (T111.setTop (mkF m 78 #[.val (.int p1), .val (.int p2), .val (.int p3), .val (.int p4), .val (.int p5), .val (.int (0 : Int32)), .val (.int off), .val (.ref t101), .val (.ref b102), .unset] [(.int p2), (.int (3 : Int32)), (.int (3 : Int32)), (.ref b105), (.ref b105)]))
    refine Go.via (fun _ => XS.iloadN X111.here hx rfl (hb hby at_78) rfl) ?_
    show Go p e below _ (T111.setTop (mkF m 79 #[.val (.int p1), .val (.int p2), .val (.int p3), .val (.int p4), .val (.int p5), .val (.int (0 : Int32)), .val (.int off), .val (.ref t101), .val (.ref b102), .unset] [(.int p3), (.int p2), (.int (3 : Int32)), (.int (3 : Int32)), (.ref b105), (.ref b105)]))
    obtain ⟨_, _, ⟨T112, L112, k112, n112⟩, -, X112, ⟨Lc112, hQ112, l112, y112, z112⟩, st112⟩ := Jvm.LawKit.callS X111 hx (y := (⟨"com/example/sluice/sluice/processor/FlowFileCopyContentPinLaw", "db", "(III)B"⟩ : MethodName)) hown (mvT hZ (hw _ (List.mem_of_getElem? (i := 45) rfl))) (mvT hZ (hw _ (List.mem_of_getElem? (i := 46) rfl))) (mvT hZ (hw _ (List.mem_of_getElem? (i := 3) rfl))) (mvT hZ (hw _ (List.mem_of_getElem? (i := 47) rfl))) (by decide) (backOf (W := 3) (rmDb l Z a0 hw [] (3 : Int32) p2 p3 h111 n0 Zs111) hZ (hw _ (List.mem_of_getElem? (i := 47) rfl)) (hw _ (List.mem_of_getElem? (i := 3) rfl)) (by decide) (by decide)) (g := (mkF m 79 #[.val (.int p1), .val (.int p2), .val (.int p3), .val (.int p4), .val (.int p5), .val (.int (0 : Int32)), .val (.int off), .val (.ref t101), .val (.ref b102), .unset] [(.int p3), (.int p2), (.int (3 : Int32)), (.int (3 : Int32)), (.ref b105), (.ref b105)])) rfl (by rw [hml]; rfl) (argsL := [(.int (3 : Int32)), (.int p2), (.int p3)]) (rest := [(.int (3 : Int32)), (.ref b105), (.ref b105)]) (lenOf pd_0 rfl) rfl (by show 2 * 0 + _ ≤ _; exact Nat.le_of_eq rfl) (hb hby at_79) (fun _ _ => ⟨rfl, e111, (by decide : 4 + 0 ≤ _), (by decide : 14 + 0 ≤ _)⟩)
    dsimp only [Pt.U, Pt.locs, Pt.cells, Pt.slots] at X112 l112 y112 z112 st112 hQ112
    rw [l112, y112, z112] at X112
    replace X112 : Stand p l e _ _ m _ below meth c T112 _ 4 14 := X112
    obtain ⟨rfl, N112q, e112q⟩ := hQ112
    have N112 := Fr.app N111 N112q
    refine Go.via st112 ?_
    show Go p e below _ (T112.setTop (mkF m 82 #[.val (.int p1), .val (.int p2), .val (.int p3), .val (.int p4), .val (.int p5), .val (.int (0 : Int32)), .val (.int off), .val (.ref t101), .val (.ref b102), .unset] [(.int (dbF (3 : Int32) p2 p3)), (.int (3 : Int32)), (.ref b105), (.ref b105)]))
    obtain ⟨cl113, Ar113, q113, S113, N113n, H113, G113⟩ := id V111
    have hin113 := inb_of (j := (3 : Int32)) S113 (by decide)
    obtain ⟨T113, h113, X113, e113, W113, st113⟩ := stB X112 hx hZ e112q Ar113 (j := (3 : Int32)) hin113 (g := (mkF m 82 #[.val (.int p1), .val (.int p2), .val (.int p3), .val (.int p4), .val (.int p5), .val (.int (0 : Int32)), .val (.int off), .val (.ref t101), .val (.ref b102), .unset] [(.int (dbF (3 : Int32) p2 p3)), (.int (3 : Int32)), (.ref b105), (.ref b105)])) rfl rfl (hb hby at_82)
    refine Go.via st113 ?_
    have V113 : Arv Z h113 b105 k105 .byte (8 : Int32) [(.int (nar .byte (dbF (0 : Int32) p2 p3))), (.int (nar .byte (dbF (1 : Int32) p2 p3))), (.int (nar .byte (dbF (2 : Int32) p2 p3))), (.int (nar .byte (dbF (3 : Int32) p2 p3))), (.int (0 : Int32)), (.int (0 : Int32)), (.int (0 : Int32)), (.int (0 : Int32))] (.int (0 : Int32)) := Arv.set Ar113 q113 S113 N113n H113 G113 (fits_nar_byte _) W113 3 rfl (Nat.le_of_ble_eq_true rfl)
    have Zs113 : n0 ≤ h113.size := Nat.le_trans Zs111 (Keep.of_wr W113).1
    have O113 : Old Z n0 h113 := O111.wr W113 g_b105
    have N113 := Fr.snoc X113 N112 g_b105
    have fE_t101_113 := fE_t101_111.wr W113
    have fV_t101_113 := fV_t101_111.other W113 ne_t101_b105
    have fE_b102_113 := fE_b102_111.wr W113
    have fF_b102_content_113 := fF_b102_content_111.other W113 (Or.inl ne_b102_b105)
    have fV_ct104_113 := fV_ct104_111.other W113 ne_ct104_b105
    show Go p e below _ (T113.setTop (mkF m 83 #[.val (.int p1), .val (.int p2), .val (.int p3), .val (.int p4), .val (.int p5), .val (.int (0 : Int32)), .val (.int off), .val (.ref t101), .val (.ref b102), .unset] [(.ref b105)]))
    refine Go.via (fun _ => XS.dup X113.here hx rfl (hb hby at_83) rfl rfl) ?_
    show Go p e below _ (T113.setTop (mkF m 84 #[.val (.int p1), .val (.int p2), .val (.int p3), .val (.int p4), .val (.int p5), .val (.int (0 : Int32)), .val (.int off), .val (.ref t101), .val (.ref b102), .unset] [(.ref b105), (.ref b105)]))
    refine Go.via (fun _ => XS.iconst X113.here hx rfl (hb hby at_84)) ?_
    show Go p e below _ (T113.setTop (mkF m 85 #[.val (.int p1), .val (.int p2), .val (.int p3), .val (.int p4), .val (.int p5), .val (.int (0 : Int32)), .val (.int off), .val (.ref t101), .val (.ref b102), .unset] [(.int (4 : Int32)), (.ref b105), (.ref b105)]))
    refine Go.via (fun _ => XS.iconst X113.here hx rfl (hb hby at_85)) ?_
    show Go p e below _ (T113.setTop (mkF m 86 #[.val (.int p1), .val (.int p2), .val (.int p3), .val (.int p4), .val (.int p5), .val (.int (0 : Int32)), .val (.int off), .val (.ref t101), .val (.ref b102), .unset] [(.int (4 : Int32)), (.int (4 : Int32)), (.ref b105), (.ref b105)]))
    refine Go.via (fun _ => XS.iloadN X113.here hx rfl (hb hby at_86) rfl) ?_
    show Go p e below _ (T113.setTop (mkF m 87 #[.val (.int p1), .val (.int p2), .val (.int p3), .val (.int p4), .val (.int p5), .val (.int (0 : Int32)), .val (.int off), .val (.ref t101), .val (.ref b102), .unset] [(.int p2), (.int (4 : Int32)), (.int (4 : Int32)), (.ref b105), (.ref b105)]))
    refine Go.via (fun _ => XS.iloadN X113.here hx rfl (hb hby at_87) rfl) ?_
    show Go p e below _ (T113.setTop (mkF m 88 #[.val (.int p1), .val (.int p2), .val (.int p3), .val (.int p4), .val (.int p5), .val (.int (0 : Int32)), .val (.int off), .val (.ref t101), .val (.ref b102), .unset] [(.int p3), (.int p2), (.int (4 : Int32)), (.int (4 : Int32)), (.ref b105), (.ref b105)]))
    obtain ⟨_, _, ⟨T114, L114, k114, n114⟩, -, X114, ⟨Lc114, hQ114, l114, y114, z114⟩, st114⟩ := Jvm.LawKit.callS X113 hx (y := (⟨"com/example/sluice/sluice/processor/FlowFileCopyContentPinLaw", "db", "(III)B"⟩ : MethodName)) hown (mvT hZ (hw _ (List.mem_of_getElem? (i := 45) rfl))) (mvT hZ (hw _ (List.mem_of_getElem? (i := 46) rfl))) (mvT hZ (hw _ (List.mem_of_getElem? (i := 3) rfl))) (mvT hZ (hw _ (List.mem_of_getElem? (i := 47) rfl))) (by decide) (backOf (W := 3) (rmDb l Z a0 hw [] (4 : Int32) p2 p3 h113 n0 Zs113) hZ (hw _ (List.mem_of_getElem? (i := 47) rfl)) (hw _ (List.mem_of_getElem? (i := 3) rfl)) (by decide) (by decide)) (g := (mkF m 88 #[.val (.int p1), .val (.int p2), .val (.int p3), .val (.int p4), .val (.int p5), .val (.int (0 : Int32)), .val (.int off), .val (.ref t101), .val (.ref b102), .unset] [(.int p3), (.int p2), (.int (4 : Int32)), (.int (4 : Int32)), (.ref b105), (.ref b105)])) rfl (by rw [hml]; rfl) (argsL := [(.int (4 : Int32)), (.int p2), (.int p3)]) (rest := [(.int (4 : Int32)), (.ref b105), (.ref b105)]) (lenOf pd_0 rfl) rfl (by show 2 * 0 + _ ≤ _; exact Nat.le_of_eq rfl) (hb hby at_88) (fun _ _ => ⟨rfl, e113, (by decide : 4 + 0 ≤ _), (by decide : 14 + 0 ≤ _)⟩)
    dsimp only [Pt.U, Pt.locs, Pt.cells, Pt.slots] at X114 l114 y114 z114 st114 hQ114
    rw [l114, y114, z114] at X114
    replace X114 : Stand p l e _ _ m _ below meth c T114 _ 4 14 := X114
    obtain ⟨rfl, N114q, e114q⟩ := hQ114
    have N114 := Fr.app N113 N114q
    refine Go.via st114 ?_
    show Go p e below _ (T114.setTop (mkF m 91 #[.val (.int p1), .val (.int p2), .val (.int p3), .val (.int p4), .val (.int p5), .val (.int (0 : Int32)), .val (.int off), .val (.ref t101), .val (.ref b102), .unset] [(.int (dbF (4 : Int32) p2 p3)), (.int (4 : Int32)), (.ref b105), (.ref b105)]))
    obtain ⟨cl115, Ar115, q115, S115, N115n, H115, G115⟩ := id V113
    have hin115 := inb_of (j := (4 : Int32)) S115 (by decide)
    obtain ⟨T115, h115, X115, e115, W115, st115⟩ := stB X114 hx hZ e114q Ar115 (j := (4 : Int32)) hin115 (g := (mkF m 91 #[.val (.int p1), .val (.int p2), .val (.int p3), .val (.int p4), .val (.int p5), .val (.int (0 : Int32)), .val (.int off), .val (.ref t101), .val (.ref b102), .unset] [(.int (dbF (4 : Int32) p2 p3)), (.int (4 : Int32)), (.ref b105), (.ref b105)])) rfl rfl (hb hby at_91)
    refine Go.via st115 ?_
    have V115 : Arv Z h115 b105 k105 .byte (8 : Int32) [(.int (nar .byte (dbF (0 : Int32) p2 p3))), (.int (nar .byte (dbF (1 : Int32) p2 p3))), (.int (nar .byte (dbF (2 : Int32) p2 p3))), (.int (nar .byte (dbF (3 : Int32) p2 p3))), (.int (nar .byte (dbF (4 : Int32) p2 p3))), (.int (0 : Int32)), (.int (0 : Int32)), (.int (0 : Int32))] (.int (0 : Int32)) := Arv.set Ar115 q115 S115 N115n H115 G115 (fits_nar_byte _) W115 4 rfl (Nat.le_of_ble_eq_true rfl)
    have Zs115 : n0 ≤ h115.size := Nat.le_trans Zs113 (Keep.of_wr W115).1
    have O115 : Old Z n0 h115 := O113.wr W115 g_b105
    have N115 := Fr.snoc X115 N114 g_b105
    have fE_t101_115 := fE_t101_113.wr W115
    have fV_t101_115 := fV_t101_113.other W115 ne_t101_b105
    have fE_b102_115 := fE_b102_113.wr W115
    have fF_b102_content_115 := fF_b102_content_113.other W115 (Or.inl ne_b102_b105)
    have fV_ct104_115 := fV_ct104_113.other W115 ne_ct104_b105
    show Go p e below _ (T115.setTop (mkF m 92 #[.val (.int p1), .val (.int p2), .val (.int p3), .val (.int p4), .val (.int p5), .val (.int (0 : Int32)), .val (.int off), .val (.ref t101), .val (.ref b102), .unset] [(.ref b105)]))
    refine Go.via (fun _ => XS.dup X115.here hx rfl (hb hby at_92) rfl rfl) ?_
    show Go p e below _ (T115.setTop (mkF m 93 #[.val (.int p1), .val (.int p2), .val (.int p3), .val (.int p4), .val (.int p5), .val (.int (0 : Int32)), .val (.int off), .val (.ref t101), .val (.ref b102), .unset] [(.ref b105), (.ref b105)]))
    refine Go.via (fun _ => XS.iconst X115.here hx rfl (hb hby at_93)) ?_
    show Go p e below _ (T115.setTop (mkF m 94 #[.val (.int p1), .val (.int p2), .val (.int p3), .val (.int p4), .val (.int p5), .val (.int (0 : Int32)), .val (.int off), .val (.ref t101), .val (.ref b102), .unset] [(.int (5 : Int32)), (.ref b105), (.ref b105)]))
    refine Go.via (fun _ => XS.iconst X115.here hx rfl (hb hby at_94)) ?_
    show Go p e below _ (T115.setTop (mkF m 95 #[.val (.int p1), .val (.int p2), .val (.int p3), .val (.int p4), .val (.int p5), .val (.int (0 : Int32)), .val (.int off), .val (.ref t101), .val (.ref b102), .unset] [(.int (5 : Int32)), (.int (5 : Int32)), (.ref b105), (.ref b105)]))
    refine Go.via (fun _ => XS.iloadN X115.here hx rfl (hb hby at_95) rfl) ?_
    show Go p e below _ (T115.setTop (mkF m 96 #[.val (.int p1), .val (.int p2), .val (.int p3), .val (.int p4), .val (.int p5), .val (.int (0 : Int32)), .val (.int off), .val (.ref t101), .val (.ref b102), .unset] [(.int p2), (.int (5 : Int32)), (.int (5 : Int32)), (.ref b105), (.ref b105)]))
    refine Go.via (fun _ => XS.iloadN X115.here hx rfl (hb hby at_96) rfl) ?_
    show Go p e below _ (T115.setTop (mkF m 97 #[.val (.int p1), .val (.int p2), .val (.int p3), .val (.int p4), .val (.int p5), .val (.int (0 : Int32)), .val (.int off), .val (.ref t101), .val (.ref b102), .unset] [(.int p3), (.int p2), (.int (5 : Int32)), (.int (5 : Int32)), (.ref b105), (.ref b105)]))
    obtain ⟨_, _, ⟨T116, L116, k116, n116⟩, -, X116, ⟨Lc116, hQ116, l116, y116, z116⟩, st116⟩ := Jvm.LawKit.callS X115 hx (y := (⟨"com/example/sluice/sluice/processor/FlowFileCopyContentPinLaw", "db", "(III)B"⟩ : MethodName)) hown (mvT hZ (hw _ (List.mem_of_getElem? (i := 45) rfl))) (mvT hZ (hw _ (List.mem_of_getElem? (i := 46) rfl))) (mvT hZ (hw _ (List.mem_of_getElem? (i := 3) rfl))) (mvT hZ (hw _ (List.mem_of_getElem? (i := 47) rfl))) (by decide) (backOf (W := 3) (rmDb l Z a0 hw [] (5 : Int32) p2 p3 h115 n0 Zs115) hZ (hw _ (List.mem_of_getElem? (i := 47) rfl)) (hw _ (List.mem_of_getElem? (i := 3) rfl)) (by decide) (by decide)) (g := (mkF m 97 #[.val (.int p1), .val (.int p2), .val (.int p3), .val (.int p4), .val (.int p5), .val (.int (0 : Int32)), .val (.int off), .val (.ref t101), .val (.ref b102), .unset] [(.int p3), (.int p2), (.int (5 : Int32)), (.int (5 : Int32)), (.ref b105), (.ref b105)])) rfl (by rw [hml]; rfl) (argsL := [(.int (5 : Int32)), (.int p2), (.int p3)]) (rest := [(.int (5 : Int32)), (.ref b105), (.ref b105)]) (lenOf pd_0 rfl) rfl (by show 2 * 0 + _ ≤ _; exact Nat.le_of_eq rfl) (hb hby at_97) (fun _ _ => ⟨rfl, e115, (by decide : 4 + 0 ≤ _), (by decide : 14 + 0 ≤ _)⟩)
    dsimp only [Pt.U, Pt.locs, Pt.cells, Pt.slots] at X116 l116 y116 z116 st116 hQ116
    rw [l116, y116, z116] at X116
    replace X116 : Stand p l e _ _ m _ below meth c T116 _ 4 14 := X116
    obtain ⟨rfl, N116q, e116q⟩ := hQ116
    have N116 := Fr.app N115 N116q
    refine Go.via st116 ?_
    show Go p e below _ (T116.setTop (mkF m 100 #[.val (.int p1), .val (.int p2), .val (.int p3), .val (.int p4), .val (.int p5), .val (.int (0 : Int32)), .val (.int off), .val (.ref t101), .val (.ref b102), .unset] [(.int (dbF (5 : Int32) p2 p3)), (.int (5 : Int32)), (.ref b105), (.ref b105)]))
    obtain ⟨cl117, Ar117, q117, S117, N117n, H117, G117⟩ := id V115
    have hin117 := inb_of (j := (5 : Int32)) S117 (by decide)
    obtain ⟨T117, h117, X117, e117, W117, st117⟩ := stB X116 hx hZ e116q Ar117 (j := (5 : Int32)) hin117 (g := (mkF m 100 #[.val (.int p1), .val (.int p2), .val (.int p3), .val (.int p4), .val (.int p5), .val (.int (0 : Int32)), .val (.int off), .val (.ref t101), .val (.ref b102), .unset] [(.int (dbF (5 : Int32) p2 p3)), (.int (5 : Int32)), (.ref b105), (.ref b105)])) rfl rfl (hb hby at_100)
    refine Go.via st117 ?_
    have V117 : Arv Z h117 b105 k105 .byte (8 : Int32) [(.int (nar .byte (dbF (0 : Int32) p2 p3))), (.int (nar .byte (dbF (1 : Int32) p2 p3))), (.int (nar .byte (dbF (2 : Int32) p2 p3))), (.int (nar .byte (dbF (3 : Int32) p2 p3))), (.int (nar .byte (dbF (4 : Int32) p2 p3))), (.int (nar .byte (dbF (5 : Int32) p2 p3))), (.int (0 : Int32)), (.int (0 : Int32))] (.int (0 : Int32)) := Arv.set Ar117 q117 S117 N117n H117 G117 (fits_nar_byte _) W117 5 rfl (Nat.le_of_ble_eq_true rfl)
    have Zs117 : n0 ≤ h117.size := Nat.le_trans Zs115 (Keep.of_wr W117).1
    have O117 : Old Z n0 h117 := O115.wr W117 g_b105
    have N117 := Fr.snoc X117 N116 g_b105
    have fE_t101_117 := fE_t101_115.wr W117
    have fV_t101_117 := fV_t101_115.other W117 ne_t101_b105
    have fE_b102_117 := fE_b102_115.wr W117
    have fF_b102_content_117 := fF_b102_content_115.other W117 (Or.inl ne_b102_b105)
    have fV_ct104_117 := fV_ct104_115.other W117 ne_ct104_b105
    show Go p e below _ (T117.setTop (mkF m 101 #[.val (.int p1), .val (.int p2), .val (.int p3), .val (.int p4), .val (.int p5), .val (.int (0 : Int32)), .val (.int off), .val (.ref t101), .val (.ref b102), .unset] [(.ref b105)]))
    refine Go.via (fun _ => XS.dup X117.here hx rfl (hb hby at_101) rfl rfl) ?_
    show Go p e below _ (T117.setTop (mkF m 102 #[.val (.int p1), .val (.int p2), .val (.int p3), .val (.int p4), .val (.int p5), .val (.int (0 : Int32)), .val (.int off), .val (.ref t101), .val (.ref b102), .unset] [(.ref b105), (.ref b105)]))
    refine Go.via (fun _ => XS.bipush X117.here hx rfl (hb hby at_102)) ?_
    show Go p e below _ (T117.setTop (mkF m 104 #[.val (.int p1), .val (.int p2), .val (.int p3), .val (.int p4), .val (.int p5), .val (.int (0 : Int32)), .val (.int off), .val (.ref t101), .val (.ref b102), .unset] [(.int (6 : Int32)), (.ref b105), (.ref b105)]))
    refine Go.via (fun _ => XS.bipush X117.here hx rfl (hb hby at_104)) ?_
    show Go p e below _ (T117.setTop (mkF m 106 #[.val (.int p1), .val (.int p2), .val (.int p3), .val (.int p4), .val (.int p5), .val (.int (0 : Int32)), .val (.int off), .val (.ref t101), .val (.ref b102), .unset] [(.int (6 : Int32)), (.int (6 : Int32)), (.ref b105), (.ref b105)]))
    refine Go.via (fun _ => XS.iloadN X117.here hx rfl (hb hby at_106) rfl) ?_
    show Go p e below _ (T117.setTop (mkF m 107 #[.val (.int p1), .val (.int p2), .val (.int p3), .val (.int p4), .val (.int p5), .val (.int (0 : Int32)), .val (.int off), .val (.ref t101), .val (.ref b102), .unset] [(.int p2), (.int (6 : Int32)), (.int (6 : Int32)), (.ref b105), (.ref b105)]))
    refine Go.via (fun _ => XS.iloadN X117.here hx rfl (hb hby at_107) rfl) ?_
    show Go p e below _ (T117.setTop (mkF m 108 #[.val (.int p1), .val (.int p2), .val (.int p3), .val (.int p4), .val (.int p5), .val (.int (0 : Int32)), .val (.int off), .val (.ref t101), .val (.ref b102), .unset] [(.int p3), (.int p2), (.int (6 : Int32)), (.int (6 : Int32)), (.ref b105), (.ref b105)]))
    obtain ⟨_, _, ⟨T118, L118, k118, n118⟩, -, X118, ⟨Lc118, hQ118, l118, y118, z118⟩, st118⟩ := Jvm.LawKit.callS X117 hx (y := (⟨"com/example/sluice/sluice/processor/FlowFileCopyContentPinLaw", "db", "(III)B"⟩ : MethodName)) hown (mvT hZ (hw _ (List.mem_of_getElem? (i := 45) rfl))) (mvT hZ (hw _ (List.mem_of_getElem? (i := 46) rfl))) (mvT hZ (hw _ (List.mem_of_getElem? (i := 3) rfl))) (mvT hZ (hw _ (List.mem_of_getElem? (i := 47) rfl))) (by decide) (backOf (W := 3) (rmDb l Z a0 hw [] (6 : Int32) p2 p3 h117 n0 Zs117) hZ (hw _ (List.mem_of_getElem? (i := 47) rfl)) (hw _ (List.mem_of_getElem? (i := 3) rfl)) (by decide) (by decide)) (g := (mkF m 108 #[.val (.int p1), .val (.int p2), .val (.int p3), .val (.int p4), .val (.int p5), .val (.int (0 : Int32)), .val (.int off), .val (.ref t101), .val (.ref b102), .unset] [(.int p3), (.int p2), (.int (6 : Int32)), (.int (6 : Int32)), (.ref b105), (.ref b105)])) rfl (by rw [hml]; rfl) (argsL := [(.int (6 : Int32)), (.int p2), (.int p3)]) (rest := [(.int (6 : Int32)), (.ref b105), (.ref b105)]) (lenOf pd_0 rfl) rfl (by show 2 * 0 + _ ≤ _; exact Nat.le_of_eq rfl) (hb hby at_108) (fun _ _ => ⟨rfl, e117, (by decide : 4 + 0 ≤ _), (by decide : 14 + 0 ≤ _)⟩)
    dsimp only [Pt.U, Pt.locs, Pt.cells, Pt.slots] at X118 l118 y118 z118 st118 hQ118
    rw [l118, y118, z118] at X118
    replace X118 : Stand p l e _ _ m _ below meth c T118 _ 4 14 := X118
    obtain ⟨rfl, N118q, e118q⟩ := hQ118
    have N118 := Fr.app N117 N118q
    refine Go.via st118 ?_
    show Go p e below _ (T118.setTop (mkF m 111 #[.val (.int p1), .val (.int p2), .val (.int p3), .val (.int p4), .val (.int p5), .val (.int (0 : Int32)), .val (.int off), .val (.ref t101), .val (.ref b102), .unset] [(.int (dbF (6 : Int32) p2 p3)), (.int (6 : Int32)), (.ref b105), (.ref b105)]))
    obtain ⟨cl119, Ar119, q119, S119, N119n, H119, G119⟩ := id V117
    have hin119 := inb_of (j := (6 : Int32)) S119 (by decide)
    obtain ⟨T119, h119, X119, e119, W119, st119⟩ := stB X118 hx hZ e118q Ar119 (j := (6 : Int32)) hin119 (g := (mkF m 111 #[.val (.int p1), .val (.int p2), .val (.int p3), .val (.int p4), .val (.int p5), .val (.int (0 : Int32)), .val (.int off), .val (.ref t101), .val (.ref b102), .unset] [(.int (dbF (6 : Int32) p2 p3)), (.int (6 : Int32)), (.ref b105), (.ref b105)])) rfl rfl (hb hby at_111)
    refine Go.via st119 ?_
    have V119 : Arv Z h119 b105 k105 .byte (8 : Int32) [(.int (nar .byte (dbF (0 : Int32) p2 p3))), (.int (nar .byte (dbF (1 : Int32) p2 p3))), (.int (nar .byte (dbF (2 : Int32) p2 p3))), (.int (nar .byte (dbF (3 : Int32) p2 p3))), (.int (nar .byte (dbF (4 : Int32) p2 p3))), (.int (nar .byte (dbF (5 : Int32) p2 p3))), (.int (nar .byte (dbF (6 : Int32) p2 p3))), (.int (0 : Int32))] (.int (0 : Int32)) := Arv.set Ar119 q119 S119 N119n H119 G119 (fits_nar_byte _) W119 6 rfl (Nat.le_of_ble_eq_true rfl)
    have Zs119 : n0 ≤ h119.size := Nat.le_trans Zs117 (Keep.of_wr W119).1
    have O119 : Old Z n0 h119 := O117.wr W119 g_b105
    have N119 := Fr.snoc X119 N118 g_b105
    have fE_t101_119 := fE_t101_117.wr W119
    have fV_t101_119 := fV_t101_117.other W119 ne_t101_b105
    have fE_b102_119 := fE_b102_117.wr W119
    have fF_b102_content_119 := fF_b102_content_117.other W119 (Or.inl ne_b102_b105)
    have fV_ct104_119 := fV_ct104_117.other W119 ne_ct104_b105
    show Go p e below _ (T119.setTop (mkF m 112 #[.val (.int p1), .val (.int p2), .val (.int p3), .val (.int p4), .val (.int p5), .val (.int (0 : Int32)), .val (.int off), .val (.ref t101), .val (.ref b102), .unset] [(.ref b105)]))
    refine Go.via (fun _ => XS.dup X119.here hx rfl (hb hby at_112) rfl rfl) ?_
    show Go p e below _ (T119.setTop (mkF m 113 #[.val (.int p1), .val (.int p2), .val (.int p3), .val (.int p4), .val (.int p5), .val (.int (0 : Int32)), .val (.int off), .val (.ref t101), .val (.ref b102), .unset] [(.ref b105), (.ref b105)]))
    refine Go.via (fun _ => XS.bipush X119.here hx rfl (hb hby at_113)) ?_
    show Go p e below _ (T119.setTop (mkF m 115 #[.val (.int p1), .val (.int p2), .val (.int p3), .val (.int p4), .val (.int p5), .val (.int (0 : Int32)), .val (.int off), .val (.ref t101), .val (.ref b102), .unset] [(.int (7 : Int32)), (.ref b105), (.ref b105)]))
    refine Go.via (fun _ => XS.bipush X119.here hx rfl (hb hby at_115)) ?_
    show Go p e below _ (T119.setTop (mkF m 117 #[.val (.int p1), .val (.int p2), .val (.int p3), .val (.int p4), .val (.int p5), .val (.int (0 : Int32)), .val (.int off), .val (.ref t101), .val (.ref b102), .unset] [(.int (7 : Int32)), (.int (7 : Int32)), (.ref b105), (.ref b105)]))
    refine Go.via (fun _ => XS.iloadN X119.here hx rfl (hb hby at_117) rfl) ?_
    show Go p e below _ (T119.setTop (mkF m 118 #[.val (.int p1), .val (.int p2), .val (.int p3), .val (.int p4), .val (.int p5), .val (.int (0 : Int32)), .val (.int off), .val (.ref t101), .val (.ref b102), .unset] [(.int p2), (.int (7 : Int32)), (.int (7 : Int32)), (.ref b105), (.ref b105)]))
    refine Go.via (fun _ => XS.iloadN X119.here hx rfl (hb hby at_118) rfl) ?_
    show Go p e below _ (T119.setTop (mkF m 119 #[.val (.int p1), .val (.int p2), .val (.int p3), .val (.int p4), .val (.int p5), .val (.int (0 : Int32)), .val (.int off), .val (.ref t101), .val (.ref b102), .unset] [(.int p3), (.int p2), (.int (7 : Int32)), (.int (7 : Int32)), (.ref b105), (.ref b105)]))
    obtain ⟨_, _, ⟨T120, L120, k120, n120⟩, -, X120, ⟨Lc120, hQ120, l120, y120, z120⟩, st120⟩ := Jvm.LawKit.callS X119 hx (y := (⟨"com/example/sluice/sluice/processor/FlowFileCopyContentPinLaw", "db", "(III)B"⟩ : MethodName)) hown (mvT hZ (hw _ (List.mem_of_getElem? (i := 45) rfl))) (mvT hZ (hw _ (List.mem_of_getElem? (i := 46) rfl))) (mvT hZ (hw _ (List.mem_of_getElem? (i := 3) rfl))) (mvT hZ (hw _ (List.mem_of_getElem? (i := 47) rfl))) (by decide) (backOf (W := 3) (rmDb l Z a0 hw [] (7 : Int32) p2 p3 h119 n0 Zs119) hZ (hw _ (List.mem_of_getElem? (i := 47) rfl)) (hw _ (List.mem_of_getElem? (i := 3) rfl)) (by decide) (by decide)) (g := (mkF m 119 #[.val (.int p1), .val (.int p2), .val (.int p3), .val (.int p4), .val (.int p5), .val (.int (0 : Int32)), .val (.int off), .val (.ref t101), .val (.ref b102), .unset] [(.int p3), (.int p2), (.int (7 : Int32)), (.int (7 : Int32)), (.ref b105), (.ref b105)])) rfl (by rw [hml]; rfl) (argsL := [(.int (7 : Int32)), (.int p2), (.int p3)]) (rest := [(.int (7 : Int32)), (.ref b105), (.ref b105)]) (lenOf pd_0 rfl) rfl (by show 2 * 0 + _ ≤ _; exact Nat.le_of_eq rfl) (hb hby at_119) (fun _ _ => ⟨rfl, e119, (by decide : 4 + 0 ≤ _), (by decide : 14 + 0 ≤ _)⟩)
    dsimp only [Pt.U, Pt.locs, Pt.cells, Pt.slots] at X120 l120 y120 z120 st120 hQ120
    rw [l120, y120, z120] at X120
    replace X120 : Stand p l e _ _ m _ below meth c T120 _ 4 14 := X120
    obtain ⟨rfl, N120q, e120q⟩ := hQ120
    have N120 := Fr.app N119 N120q
    refine Go.via st120 ?_
    show Go p e below _ (T120.setTop (mkF m 122 #[.val (.int p1), .val (.int p2), .val (.int p3), .val (.int p4), .val (.int p5), .val (.int (0 : Int32)), .val (.int off), .val (.ref t101), .val (.ref b102), .unset] [(.int (dbF (7 : Int32) p2 p3)), (.int (7 : Int32)), (.ref b105), (.ref b105)]))
    obtain ⟨cl121, Ar121, q121, S121, N121n, H121, G121⟩ := id V119
    have hin121 := inb_of (j := (7 : Int32)) S121 (by decide)
    obtain ⟨T121, h121, X121, e121, W121, st121⟩ := stB X120 hx hZ e120q Ar121 (j := (7 : Int32)) hin121 (g := (mkF m 122 #[.val (.int p1), .val (.int p2), .val (.int p3), .val (.int p4), .val (.int p5), .val (.int (0 : Int32)), .val (.int off), .val (.ref t101), .val (.ref b102), .unset] [(.int (dbF (7 : Int32) p2 p3)), (.int (7 : Int32)), (.ref b105), (.ref b105)])) rfl rfl (hb hby at_122)
    refine Go.via st121 ?_
    have V121 : Arv Z h121 b105 k105 .byte (8 : Int32) [(.int (nar .byte (dbF (0 : Int32) p2 p3))), (.int (nar .byte (dbF (1 : Int32) p2 p3))), (.int (nar .byte (dbF (2 : Int32) p2 p3))), (.int (nar .byte (dbF (3 : Int32) p2 p3))), (.int (nar .byte (dbF (4 : Int32) p2 p3))), (.int (nar .byte (dbF (5 : Int32) p2 p3))), (.int (nar .byte (dbF (6 : Int32) p2 p3))), (.int (nar .byte (dbF (7 : Int32) p2 p3)))] (.int (0 : Int32)) := Arv.set Ar121 q121 S121 N121n H121 G121 (fits_nar_byte _) W121 7 rfl (Nat.le_of_ble_eq_true rfl)
    have Zs121 : n0 ≤ h121.size := Nat.le_trans Zs119 (Keep.of_wr W121).1
    have O121 : Old Z n0 h121 := O119.wr W121 g_b105
    have N121 := Fr.snoc X121 N120 g_b105
    have fE_t101_121 := fE_t101_119.wr W121
    have fV_t101_121 := fV_t101_119.other W121 ne_t101_b105
    have fE_b102_121 := fE_b102_119.wr W121
    have fF_b102_content_121 := fF_b102_content_119.other W121 (Or.inl ne_b102_b105)
    have fV_ct104_121 := fV_ct104_119.other W121 ne_ct104_b105
    show Go p e below _ (T121.setTop (mkF m 123 #[.val (.int p1), .val (.int p2), .val (.int p3), .val (.int p4), .val (.int p5), .val (.int (0 : Int32)), .val (.int off), .val (.ref t101), .val (.ref b102), .unset] [(.ref b105)]))
    refine Go.via (fun _ => XS.astore X121.here hx rfl (hb hby at_123) rfl rfl (l' := #[.val (.int p1), .val (.int p2), .val (.int p3), .val (.int p4), .val (.int p5), .val (.int (0 : Int32)), .val (.int off), .val (.ref t101), .val (.ref b102), .val (.ref b105)]) rfl) ?_
    show Go p e below _ (T121.setTop (mkF m 125 #[.val (.int p1), .val (.int p2), .val (.int p3), .val (.int p4), .val (.int p5), .val (.int (0 : Int32)), .val (.int off), .val (.ref t101), .val (.ref b102), .val (.ref b105)] []))
    refine Go.via (fun _ => XS.aload X121.here hx rfl (hb hby at_125) rfl rfl) ?_
    show Go p e below _ (T121.setTop (mkF m 127 #[.val (.int p1), .val (.int p2), .val (.int p3), .val (.int p4), .val (.int p5), .val (.int (0 : Int32)), .val (.int off), .val (.ref t101), .val (.ref b102), .val (.ref b105)] [(.ref b102)]))
    refine Go.via (fun _ => XS.aload X121.here hx rfl (hb hby at_127) rfl rfl) ?_
    show Go p e below _ (T121.setTop (mkF m 129 #[.val (.int p1), .val (.int p2), .val (.int p3), .val (.int p4), .val (.int p5), .val (.int (0 : Int32)), .val (.int off), .val (.ref t101), .val (.ref b102), .val (.ref b105)] [(.ref b105), (.ref b102)]))
    refine Go.via (fun _ => XS.iload X121.here hx rfl (hb hby at_129) rfl) ?_
    show Go p e below _ (T121.setTop (mkF m 131 #[.val (.int p1), .val (.int p2), .val (.int p3), .val (.int p4), .val (.int p5), .val (.int (0 : Int32)), .val (.int off), .val (.ref t101), .val (.ref b102), .val (.ref b105)] [(.int off), (.ref b105), (.ref b102)]))
    obtain ⟨cq122, kq122, q122a, q122b, q122c⟩ := isOf hZ e121 fE_b102_121
    obtain ⟨_, _, ⟨T122, L122, k122, n122⟩, -, X122, ⟨Lc122, hQ122, l122, y122, z122⟩, st122⟩ := X121.virtualBack hx (y := (⟨"com/example/sluice/sluice/processor/FlowFile", "copyContent", "([BI)V"⟩ : MethodName)) (z := (⟨"com/example/sluice/sluice/processor/FlowFile", "copyContent", "([BI)V"⟩ : MethodName)) hown (mvT hZ (hw _ (List.mem_of_getElem? (i := 48) rfl))) (mvT hZ (hw _ (List.mem_of_getElem? (i := 49) rfl))) (notFace_of_selects (args := #[]) (mvT hZ (hw _ (List.mem_of_getElem? (i := 51) rfl)))) (mvT hZ (hw _ (List.mem_of_getElem? (i := 51) rfl))) (mvT hZ (hw _ (List.mem_of_getElem? (i := 50) rfl))) (by decide) (backOf (W := 0) (rmCC l Z a0 hw [] b102 ct104 kb101 (0 : Int32) _ b105 k105 _ off h121 n0 Zs121 fF_b102_content_121 fV_ct104_121 V121 g_b105 (own_neg0 hoff) (by decide) (own_le0 hoff) rfl) hZ (hw _ (List.mem_of_getElem? (i := 52) rfl)) (hw _ (List.mem_of_getElem? (i := 11) rfl)) (by decide) (by decide)) q122a q122c (g := (mkF m 131 #[.val (.int p1), .val (.int p2), .val (.int p3), .val (.int p4), .val (.int p5), .val (.int (0 : Int32)), .val (.int off), .val (.ref t101), .val (.ref b102), .val (.ref b105)] [(.int off), (.ref b105), (.ref b102)])) rfl (by rw [hml]; rfl) (Steps.refl _) (argsL := [(.ref b105), (.int off)]) (rest := []) (lenOf pd_7 rfl) rfl (by show 2 * 0 + _ ≤ _; exact Nat.le_of_eq rfl) (hb hby at_131) (fun _ _ => ⟨rfl, e121, (by decide : 4 + 0 ≤ _), (by decide : 14 + 0 ≤ _)⟩)
    dsimp only [Pt.U, Pt.locs, Pt.cells, Pt.slots] at X122 l122 y122 z122 st122 hQ122
    rw [l122, y122, z122] at X122
    replace X122 : Stand p l e _ _ m _ below meth c T122 _ 4 14 := X122
    obtain ⟨rfl, N122q, K122q, vb122⟩ := hQ122
    have N122 := Fr.app N121 N122q
    refine Go.tr st122 ?_
    have Zs122 : n0 ≤ T122.heap.size := Nat.le_trans Zs121 K122q.1
    have O122 : Old Z n0 T122.heap := O121.keep K122q (allS g_b105 all0)
    have fE_t101_122 := fE_t101_121.keep K122q
    have fV_t101_122 := fV_t101_121.keep K122q (ninS ne_t101_b105 nin0)
    have fE_b102_122 := fE_b102_121.keep K122q
    have fF_b102_content_122 := fF_b102_content_121.keep K122q (ninS ne_b102_b105 nin0)
    have fV_ct104_122 := fV_ct104_121.keep K122q (ninS ne_ct104_b105 nin0)
    rw [own_mix0 p1 p2 p3 off hoff] at vb122
    show Go p e below _ (T122.setTop (mkF m 134 #[.val (.int p1), .val (.int p2), .val (.int p3), .val (.int p4), .val (.int p5), .val (.int (0 : Int32)), .val (.int off), .val (.ref t101), .val (.ref b102), .val (.ref b105)] []))
    refine Go.via (fun _ => XS.aload X122.here hx rfl (hb hby at_134) rfl rfl) ?_
    show Go p e below _ (T122.setTop (mkF m 136 #[.val (.int p1), .val (.int p2), .val (.int p3), .val (.int p4), .val (.int p5), .val (.int (0 : Int32)), .val (.int off), .val (.ref t101), .val (.ref b102), .val (.ref b105)] [(.ref b102)]))
    obtain ⟨cq123, kq123, q123a, q123b, q123c⟩ := isOf hZ rfl fE_b102_122
    obtain ⟨_, _, ⟨T123, L123, k123, n123⟩, -, X123, ⟨Lc123, hQ123, l123, y123, z123⟩, st123⟩ := X122.virtualBack hx (y := (⟨"com/example/sluice/sluice/processor/FlowFile", "size", "()I"⟩ : MethodName)) (z := (⟨"com/example/sluice/sluice/processor/FlowFile", "size", "()I"⟩ : MethodName)) hown (mvT hZ (hw _ (List.mem_of_getElem? (i := 57) rfl))) (mvT hZ (hw _ (List.mem_of_getElem? (i := 58) rfl))) (notFace_of_selects (args := #[]) (mvT hZ (hw _ (List.mem_of_getElem? (i := 60) rfl)))) (mvT hZ (hw _ (List.mem_of_getElem? (i := 60) rfl))) (mvT hZ (hw _ (List.mem_of_getElem? (i := 59) rfl))) (by decide) (backOf (W := 0) (rmSz l Z a0 hw [] b102 ct104 kb101 (0 : Int32) _ T122.heap n0 Zs122 fF_b102_content_122 fV_ct104_122) hZ (hw _ (List.mem_of_getElem? (i := 61) rfl)) (hw _ (List.mem_of_getElem? (i := 11) rfl)) (by decide) (by decide)) q123a q123c (g := (mkF m 136 #[.val (.int p1), .val (.int p2), .val (.int p3), .val (.int p4), .val (.int p5), .val (.int (0 : Int32)), .val (.int off), .val (.ref t101), .val (.ref b102), .val (.ref b105)] [(.ref b102)])) rfl (by rw [hml]; rfl) (Steps.refl _) (argsL := []) (rest := []) (lenOf pd_8 rfl) rfl (by show 2 * 0 + _ ≤ _; exact Nat.le_of_eq rfl) (hb hby at_136) (fun _ _ => ⟨rfl, rfl, (by decide : 4 + 0 ≤ _), (by decide : 14 + 0 ≤ _)⟩)
    dsimp only [Pt.U, Pt.locs, Pt.cells, Pt.slots] at X123 l123 y123 z123 st123 hQ123
    rw [l123, y123, z123] at X123
    replace X123 : Stand p l e _ _ m _ below meth c T123 _ 4 14 := X123
    obtain ⟨rfl, N123q, e123q⟩ := hQ123
    have N123 := Fr.app N122 N123q
    refine Go.tr st123 ?_
    show Go p e below _ (T123.setTop (mkF m 139 #[.val (.int p1), .val (.int p2), .val (.int p3), .val (.int p4), .val (.int p5), .val (.int (0 : Int32)), .val (.int off), .val (.ref t101), .val (.ref b102), .val (.ref b105)] [(.int (0 : Int32))]))
    refine Go.via (fun _ => XS.iload X123.here hx rfl (hb hby at_139) rfl) ?_
    show Go p e below _ (T123.setTop (mkF m 141 #[.val (.int p1), .val (.int p2), .val (.int p3), .val (.int p4), .val (.int p5), .val (.int (0 : Int32)), .val (.int off), .val (.ref t101), .val (.ref b102), .val (.ref b105)] [(.int (0 : Int32)), (.int (0 : Int32))]))
    refine Go.via (fun _ => XS.icmpNo X123.here hx rfl (hb hby at_141) rfl (by decide)) ?_
    show Go p e below _ (T123.setTop (mkF m 144 #[.val (.int p1), .val (.int p2), .val (.int p3), .val (.int p4), .val (.int p5), .val (.int (0 : Int32)), .val (.int off), .val (.ref t101), .val (.ref b102), .val (.ref b105)] []))
    refine Go.via (fun _ => XS.aload X123.here hx rfl (hb hby at_144) rfl rfl) ?_
    show Go p e below _ (T123.setTop (mkF m 146 #[.val (.int p1), .val (.int p2), .val (.int p3), .val (.int p4), .val (.int p5), .val (.int (0 : Int32)), .val (.int off), .val (.ref t101), .val (.ref b102), .val (.ref b105)] [(.ref b105)]))
    obtain ⟨cl124, Ar124, -, S124, N124n, -, -⟩ := id vb122
    have al124 := X123.arraylength hx (by rw [e123q]; exact Ar124.1) (State.isArrayOf_alike hZ.alike Ar124.2.1) (g := (mkF m 146 #[.val (.int p1), .val (.int p2), .val (.int p3), .val (.int p4), .val (.int p5), .val (.int (0 : Int32)), .val (.int off), .val (.ref t101), .val (.ref b102), .val (.ref b105)] [(.ref b105)])) rfl rfl (hb hby at_146)
    rw [len_of S124 N124n] at al124
    refine Go.via al124 ?_
    show Go p e below _ (T123.setTop (mkF m 147 #[.val (.int p1), .val (.int p2), .val (.int p3), .val (.int p4), .val (.int p5), .val (.int (0 : Int32)), .val (.int off), .val (.ref t101), .val (.ref b102), .val (.ref b105)] [(.int (8 : Int32))]))
    refine Go.via (fun _ => XS.bipush X123.here hx rfl (hb hby at_147)) ?_
    show Go p e below _ (T123.setTop (mkF m 149 #[.val (.int p1), .val (.int p2), .val (.int p3), .val (.int p4), .val (.int p5), .val (.int (0 : Int32)), .val (.int off), .val (.ref t101), .val (.ref b102), .val (.ref b105)] [(.int (8 : Int32)), (.int (8 : Int32))]))
    refine Go.via (fun _ => XS.icmpNo X123.here hx rfl (hb hby at_149) rfl (by decide)) ?_
    show Go p e below _ (T123.setTop (mkF m 152 #[.val (.int p1), .val (.int p2), .val (.int p3), .val (.int p4), .val (.int p5), .val (.int (0 : Int32)), .val (.int off), .val (.ref t101), .val (.ref b102), .val (.ref b105)] []))
    refine Go.via (fun _ => XS.aload X123.here hx rfl (hb hby at_152) rfl rfl) ?_
    show Go p e below _ (T123.setTop (mkF m 154 #[.val (.int p1), .val (.int p2), .val (.int p3), .val (.int p4), .val (.int p5), .val (.int (0 : Int32)), .val (.int off), .val (.ref t101), .val (.ref b102), .val (.ref b105)] [(.ref b105)]))
    refine Go.via (fun _ => XS.iconst X123.here hx rfl (hb hby at_154)) ?_
    show Go p e below _ (T123.setTop (mkF m 155 #[.val (.int p1), .val (.int p2), .val (.int p3), .val (.int p4), .val (.int p5), .val (.int (0 : Int32)), .val (.int off), .val (.ref t101), .val (.ref b102), .val (.ref b105)] [(.int (0 : Int32)), (.ref b105)]))
    obtain ⟨cl125, Ar125, q125, S125, N125n, H125, G125⟩ := id vb122
    have hin125 := inb_of (j := (0 : Int32)) S125 (by decide)
    have hat125 : cl125.slots[((0 : Int32) : Int32).toNatClampNeg]? = some (.int (exF (0 : Int32) off (0 : Int32) p1 p2 p3)) := H125.at hin125 rfl
    refine Go.via (X123.baloadBytes hx (j := (0 : Int32)) (v := (.int (exF (0 : Int32) off (0 : Int32) p1 p2 p3))) (by rw [e123q]; exact Ar125.1) (State.isArrayOf_alike hZ.alike Ar125.2.1) Ar125.2.2 hin125 hat125 (g := (mkF m 155 #[.val (.int p1), .val (.int p2), .val (.int p3), .val (.int p4), .val (.int p5), .val (.int (0 : Int32)), .val (.int off), .val (.ref t101), .val (.ref b102), .val (.ref b105)] [(.int (0 : Int32)), (.ref b105)])) rfl rfl (hb hby at_155)) ?_
    show Go p e below _ (T123.setTop (mkF m 156 #[.val (.int p1), .val (.int p2), .val (.int p3), .val (.int p4), .val (.int p5), .val (.int (0 : Int32)), .val (.int off), .val (.ref t101), .val (.ref b102), .val (.ref b105)] [(.int (exF (0 : Int32) off (0 : Int32) p1 p2 p3))]))
    refine Go.via (fun _ => XS.iconst X123.here hx rfl (hb hby at_156)) ?_
    show Go p e below _ (T123.setTop (mkF m 157 #[.val (.int p1), .val (.int p2), .val (.int p3), .val (.int p4), .val (.int p5), .val (.int (0 : Int32)), .val (.int off), .val (.ref t101), .val (.ref b102), .val (.ref b105)] [(.int (0 : Int32)), (.int (exF (0 : Int32) off (0 : Int32) p1 p2 p3))]))
    refine Go.via (fun _ => XS.iload X123.here hx rfl (hb hby at_157) rfl) ?_
    show Go p e below _ (T123.setTop (mkF m 159 #[.val (.int p1), .val (.int p2), .val (.int p3), .val (.int p4), .val (.int p5), .val (.int (0 : Int32)), .val (.int off), .val (.ref t101), .val (.ref b102), .val (.ref b105)] [(.int off), (.int (0 : Int32)), (.int (exF (0 : Int32) off (0 : Int32) p1 p2 p3))]))
    refine Go.via (fun _ => XS.iload X123.here hx rfl (hb hby at_159) rfl) ?_
    show Go p e below _ (T123.setTop (mkF m 161 #[.val (.int p1), .val (.int p2), .val (.int p3), .val (.int p4), .val (.int p5), .val (.int (0 : Int32)), .val (.int off), .val (.ref t101), .val (.ref b102), .val (.ref b105)] [(.int (0 : Int32)), (.int off), (.int (0 : Int32)), (.int (exF (0 : Int32) off (0 : Int32) p1 p2 p3))]))
    refine Go.via (fun _ => XS.iloadN X123.here hx rfl (hb hby at_161) rfl) ?_
    show Go p e below _ (T123.setTop (mkF m 162 #[.val (.int p1), .val (.int p2), .val (.int p3), .val (.int p4), .val (.int p5), .val (.int (0 : Int32)), .val (.int off), .val (.ref t101), .val (.ref b102), .val (.ref b105)] [(.int p1), (.int (0 : Int32)), (.int off), (.int (0 : Int32)), (.int (exF (0 : Int32) off (0 : Int32) p1 p2 p3))]))
    refine Go.via (fun _ => XS.iloadN X123.here hx rfl (hb hby at_162) rfl) ?_
    show Go p e below _ (T123.setTop (mkF m 163 #[.val (.int p1), .val (.int p2), .val (.int p3), .val (.int p4), .val (.int p5), .val (.int (0 : Int32)), .val (.int off), .val (.ref t101), .val (.ref b102), .val (.ref b105)] [(.int p2), (.int p1), (.int (0 : Int32)), (.int off), (.int (0 : Int32)), (.int (exF (0 : Int32) off (0 : Int32) p1 p2 p3))]))
    refine Go.via (fun _ => XS.iloadN X123.here hx rfl (hb hby at_163) rfl) ?_
    show Go p e below _ (T123.setTop (mkF m 164 #[.val (.int p1), .val (.int p2), .val (.int p3), .val (.int p4), .val (.int p5), .val (.int (0 : Int32)), .val (.int off), .val (.ref t101), .val (.ref b102), .val (.ref b105)] [(.int p3), (.int p2), (.int p1), (.int (0 : Int32)), (.int off), (.int (0 : Int32)), (.int (exF (0 : Int32) off (0 : Int32) p1 p2 p3))]))
    obtain ⟨_, _, ⟨T126, L126, k126, n126⟩, -, X126, ⟨Lc126, hQ126, l126, y126, z126⟩, st126⟩ := Jvm.LawKit.callS X123 hx (y := (⟨"com/example/sluice/sluice/processor/FlowFileCopyContentPinLaw", "expected", "(IIIIII)B"⟩ : MethodName)) hown (mvT hZ (hw _ (List.mem_of_getElem? (i := 62) rfl))) (mvT hZ (hw _ (List.mem_of_getElem? (i := 63) rfl))) (mvT hZ (hw _ (List.mem_of_getElem? (i := 3) rfl))) (mvT hZ (hw _ (List.mem_of_getElem? (i := 64) rfl))) (by decide) (backOf (W := 1) (rmEx l Z a0 hw [] (0 : Int32) off (0 : Int32) p1 p2 p3 T122.heap n0 Zs122) hZ (hw _ (List.mem_of_getElem? (i := 64) rfl)) (hw _ (List.mem_of_getElem? (i := 3) rfl)) (by decide) (by decide)) (g := (mkF m 164 #[.val (.int p1), .val (.int p2), .val (.int p3), .val (.int p4), .val (.int p5), .val (.int (0 : Int32)), .val (.int off), .val (.ref t101), .val (.ref b102), .val (.ref b105)] [(.int p3), (.int p2), (.int p1), (.int (0 : Int32)), (.int off), (.int (0 : Int32)), (.int (exF (0 : Int32) off (0 : Int32) p1 p2 p3))])) rfl (by rw [hml]; rfl) (argsL := [(.int (0 : Int32)), (.int off), (.int (0 : Int32)), (.int p1), (.int p2), (.int p3)]) (rest := [(.int (exF (0 : Int32) off (0 : Int32) p1 p2 p3))]) (lenOf pd_9 rfl) rfl (by show 2 * 0 + _ ≤ _; exact Nat.le_of_eq rfl) (hb hby at_164) (fun _ _ => ⟨rfl, e123q, (by decide : 4 + 0 ≤ _), (by decide : 14 + 0 ≤ _)⟩)
    dsimp only [Pt.U, Pt.locs, Pt.cells, Pt.slots] at X126 l126 y126 z126 st126 hQ126
    rw [l126, y126, z126] at X126
    replace X126 : Stand p l e _ _ m _ below meth c T126 _ 4 14 := X126
    obtain ⟨rfl, N126q, e126q⟩ := hQ126
    have N126 := Fr.app N123 N126q
    refine Go.via st126 ?_
    show Go p e below _ (T126.setTop (mkF m 167 #[.val (.int p1), .val (.int p2), .val (.int p3), .val (.int p4), .val (.int p5), .val (.int (0 : Int32)), .val (.int off), .val (.ref t101), .val (.ref b102), .val (.ref b105)] [(.int (exF (0 : Int32) off (0 : Int32) p1 p2 p3)), (.int (exF (0 : Int32) off (0 : Int32) p1 p2 p3))]))
    refine Go.via (fun _ => XS.icmpNo X126.here hx rfl (hb hby at_167) rfl (teq rfl).2) ?_
    show Go p e below _ (T126.setTop (mkF m 170 #[.val (.int p1), .val (.int p2), .val (.int p3), .val (.int p4), .val (.int p5), .val (.int (0 : Int32)), .val (.int off), .val (.ref t101), .val (.ref b102), .val (.ref b105)] []))
    refine Go.via (fun _ => XS.aload X126.here hx rfl (hb hby at_170) rfl rfl) ?_
    show Go p e below _ (T126.setTop (mkF m 172 #[.val (.int p1), .val (.int p2), .val (.int p3), .val (.int p4), .val (.int p5), .val (.int (0 : Int32)), .val (.int off), .val (.ref t101), .val (.ref b102), .val (.ref b105)] [(.ref b105)]))
    refine Go.via (fun _ => XS.iconst X126.here hx rfl (hb hby at_172)) ?_
    show Go p e below _ (T126.setTop (mkF m 173 #[.val (.int p1), .val (.int p2), .val (.int p3), .val (.int p4), .val (.int p5), .val (.int (0 : Int32)), .val (.int off), .val (.ref t101), .val (.ref b102), .val (.ref b105)] [(.int (1 : Int32)), (.ref b105)]))
    obtain ⟨cl127, Ar127, q127, S127, N127n, H127, G127⟩ := id vb122
    have hin127 := inb_of (j := (1 : Int32)) S127 (by decide)
    have hat127 : cl127.slots[((1 : Int32) : Int32).toNatClampNeg]? = some (.int (exF (1 : Int32) off (0 : Int32) p1 p2 p3)) := H127.at hin127 rfl
    refine Go.via (X126.baloadBytes hx (j := (1 : Int32)) (v := (.int (exF (1 : Int32) off (0 : Int32) p1 p2 p3))) (by rw [e126q]; exact Ar127.1) (State.isArrayOf_alike hZ.alike Ar127.2.1) Ar127.2.2 hin127 hat127 (g := (mkF m 173 #[.val (.int p1), .val (.int p2), .val (.int p3), .val (.int p4), .val (.int p5), .val (.int (0 : Int32)), .val (.int off), .val (.ref t101), .val (.ref b102), .val (.ref b105)] [(.int (1 : Int32)), (.ref b105)])) rfl rfl (hb hby at_173)) ?_
    show Go p e below _ (T126.setTop (mkF m 174 #[.val (.int p1), .val (.int p2), .val (.int p3), .val (.int p4), .val (.int p5), .val (.int (0 : Int32)), .val (.int off), .val (.ref t101), .val (.ref b102), .val (.ref b105)] [(.int (exF (1 : Int32) off (0 : Int32) p1 p2 p3))]))
    refine Go.via (fun _ => XS.iconst X126.here hx rfl (hb hby at_174)) ?_
    show Go p e below _ (T126.setTop (mkF m 175 #[.val (.int p1), .val (.int p2), .val (.int p3), .val (.int p4), .val (.int p5), .val (.int (0 : Int32)), .val (.int off), .val (.ref t101), .val (.ref b102), .val (.ref b105)] [(.int (1 : Int32)), (.int (exF (1 : Int32) off (0 : Int32) p1 p2 p3))]))
    refine Go.via (fun _ => XS.iload X126.here hx rfl (hb hby at_175) rfl) ?_
    show Go p e below _ (T126.setTop (mkF m 177 #[.val (.int p1), .val (.int p2), .val (.int p3), .val (.int p4), .val (.int p5), .val (.int (0 : Int32)), .val (.int off), .val (.ref t101), .val (.ref b102), .val (.ref b105)] [(.int off), (.int (1 : Int32)), (.int (exF (1 : Int32) off (0 : Int32) p1 p2 p3))]))
    refine Go.via (fun _ => XS.iload X126.here hx rfl (hb hby at_177) rfl) ?_
    show Go p e below _ (T126.setTop (mkF m 179 #[.val (.int p1), .val (.int p2), .val (.int p3), .val (.int p4), .val (.int p5), .val (.int (0 : Int32)), .val (.int off), .val (.ref t101), .val (.ref b102), .val (.ref b105)] [(.int (0 : Int32)), (.int off), (.int (1 : Int32)), (.int (exF (1 : Int32) off (0 : Int32) p1 p2 p3))]))
    refine Go.via (fun _ => XS.iloadN X126.here hx rfl (hb hby at_179) rfl) ?_
    show Go p e below _ (T126.setTop (mkF m 180 #[.val (.int p1), .val (.int p2), .val (.int p3), .val (.int p4), .val (.int p5), .val (.int (0 : Int32)), .val (.int off), .val (.ref t101), .val (.ref b102), .val (.ref b105)] [(.int p1), (.int (0 : Int32)), (.int off), (.int (1 : Int32)), (.int (exF (1 : Int32) off (0 : Int32) p1 p2 p3))]))
    refine Go.via (fun _ => XS.iloadN X126.here hx rfl (hb hby at_180) rfl) ?_
    show Go p e below _ (T126.setTop (mkF m 181 #[.val (.int p1), .val (.int p2), .val (.int p3), .val (.int p4), .val (.int p5), .val (.int (0 : Int32)), .val (.int off), .val (.ref t101), .val (.ref b102), .val (.ref b105)] [(.int p2), (.int p1), (.int (0 : Int32)), (.int off), (.int (1 : Int32)), (.int (exF (1 : Int32) off (0 : Int32) p1 p2 p3))]))
    refine Go.via (fun _ => XS.iloadN X126.here hx rfl (hb hby at_181) rfl) ?_
    show Go p e below _ (T126.setTop (mkF m 182 #[.val (.int p1), .val (.int p2), .val (.int p3), .val (.int p4), .val (.int p5), .val (.int (0 : Int32)), .val (.int off), .val (.ref t101), .val (.ref b102), .val (.ref b105)] [(.int p3), (.int p2), (.int p1), (.int (0 : Int32)), (.int off), (.int (1 : Int32)), (.int (exF (1 : Int32) off (0 : Int32) p1 p2 p3))]))
    obtain ⟨_, _, ⟨T128, L128, k128, n128⟩, -, X128, ⟨Lc128, hQ128, l128, y128, z128⟩, st128⟩ := Jvm.LawKit.callS X126 hx (y := (⟨"com/example/sluice/sluice/processor/FlowFileCopyContentPinLaw", "expected", "(IIIIII)B"⟩ : MethodName)) hown (mvT hZ (hw _ (List.mem_of_getElem? (i := 62) rfl))) (mvT hZ (hw _ (List.mem_of_getElem? (i := 63) rfl))) (mvT hZ (hw _ (List.mem_of_getElem? (i := 3) rfl))) (mvT hZ (hw _ (List.mem_of_getElem? (i := 64) rfl))) (by decide) (backOf (W := 1) (rmEx l Z a0 hw [] (1 : Int32) off (0 : Int32) p1 p2 p3 T122.heap n0 Zs122) hZ (hw _ (List.mem_of_getElem? (i := 64) rfl)) (hw _ (List.mem_of_getElem? (i := 3) rfl)) (by decide) (by decide)) (g := (mkF m 182 #[.val (.int p1), .val (.int p2), .val (.int p3), .val (.int p4), .val (.int p5), .val (.int (0 : Int32)), .val (.int off), .val (.ref t101), .val (.ref b102), .val (.ref b105)] [(.int p3), (.int p2), (.int p1), (.int (0 : Int32)), (.int off), (.int (1 : Int32)), (.int (exF (1 : Int32) off (0 : Int32) p1 p2 p3))])) rfl (by rw [hml]; rfl) (argsL := [(.int (1 : Int32)), (.int off), (.int (0 : Int32)), (.int p1), (.int p2), (.int p3)]) (rest := [(.int (exF (1 : Int32) off (0 : Int32) p1 p2 p3))]) (lenOf pd_9 rfl) rfl (by show 2 * 0 + _ ≤ _; exact Nat.le_of_eq rfl) (hb hby at_182) (fun _ _ => ⟨rfl, e126q, (by decide : 4 + 0 ≤ _), (by decide : 14 + 0 ≤ _)⟩)
    dsimp only [Pt.U, Pt.locs, Pt.cells, Pt.slots] at X128 l128 y128 z128 st128 hQ128
    rw [l128, y128, z128] at X128
    replace X128 : Stand p l e _ _ m _ below meth c T128 _ 4 14 := X128
    obtain ⟨rfl, N128q, e128q⟩ := hQ128
    have N128 := Fr.app N126 N128q
    refine Go.via st128 ?_
    show Go p e below _ (T128.setTop (mkF m 185 #[.val (.int p1), .val (.int p2), .val (.int p3), .val (.int p4), .val (.int p5), .val (.int (0 : Int32)), .val (.int off), .val (.ref t101), .val (.ref b102), .val (.ref b105)] [(.int (exF (1 : Int32) off (0 : Int32) p1 p2 p3)), (.int (exF (1 : Int32) off (0 : Int32) p1 p2 p3))]))
    refine Go.via (fun _ => XS.icmpNo X128.here hx rfl (hb hby at_185) rfl (teq rfl).2) ?_
    show Go p e below _ (T128.setTop (mkF m 188 #[.val (.int p1), .val (.int p2), .val (.int p3), .val (.int p4), .val (.int p5), .val (.int (0 : Int32)), .val (.int off), .val (.ref t101), .val (.ref b102), .val (.ref b105)] []))
    refine Go.via (fun _ => XS.aload X128.here hx rfl (hb hby at_188) rfl rfl) ?_
    show Go p e below _ (T128.setTop (mkF m 190 #[.val (.int p1), .val (.int p2), .val (.int p3), .val (.int p4), .val (.int p5), .val (.int (0 : Int32)), .val (.int off), .val (.ref t101), .val (.ref b102), .val (.ref b105)] [(.ref b105)]))
    refine Go.via (fun _ => XS.iconst X128.here hx rfl (hb hby at_190)) ?_
    show Go p e below _ (T128.setTop (mkF m 191 #[.val (.int p1), .val (.int p2), .val (.int p3), .val (.int p4), .val (.int p5), .val (.int (0 : Int32)), .val (.int off), .val (.ref t101), .val (.ref b102), .val (.ref b105)] [(.int (2 : Int32)), (.ref b105)]))
    obtain ⟨cl129, Ar129, q129, S129, N129n, H129, G129⟩ := id vb122
    have hin129 := inb_of (j := (2 : Int32)) S129 (by decide)
    have hat129 : cl129.slots[((2 : Int32) : Int32).toNatClampNeg]? = some (.int (exF (2 : Int32) off (0 : Int32) p1 p2 p3)) := H129.at hin129 rfl
    refine Go.via (X128.baloadBytes hx (j := (2 : Int32)) (v := (.int (exF (2 : Int32) off (0 : Int32) p1 p2 p3))) (by rw [e128q]; exact Ar129.1) (State.isArrayOf_alike hZ.alike Ar129.2.1) Ar129.2.2 hin129 hat129 (g := (mkF m 191 #[.val (.int p1), .val (.int p2), .val (.int p3), .val (.int p4), .val (.int p5), .val (.int (0 : Int32)), .val (.int off), .val (.ref t101), .val (.ref b102), .val (.ref b105)] [(.int (2 : Int32)), (.ref b105)])) rfl rfl (hb hby at_191)) ?_
    show Go p e below _ (T128.setTop (mkF m 192 #[.val (.int p1), .val (.int p2), .val (.int p3), .val (.int p4), .val (.int p5), .val (.int (0 : Int32)), .val (.int off), .val (.ref t101), .val (.ref b102), .val (.ref b105)] [(.int (exF (2 : Int32) off (0 : Int32) p1 p2 p3))]))
    refine Go.via (fun _ => XS.iconst X128.here hx rfl (hb hby at_192)) ?_
    show Go p e below _ (T128.setTop (mkF m 193 #[.val (.int p1), .val (.int p2), .val (.int p3), .val (.int p4), .val (.int p5), .val (.int (0 : Int32)), .val (.int off), .val (.ref t101), .val (.ref b102), .val (.ref b105)] [(.int (2 : Int32)), (.int (exF (2 : Int32) off (0 : Int32) p1 p2 p3))]))
    refine Go.via (fun _ => XS.iload X128.here hx rfl (hb hby at_193) rfl) ?_
    show Go p e below _ (T128.setTop (mkF m 195 #[.val (.int p1), .val (.int p2), .val (.int p3), .val (.int p4), .val (.int p5), .val (.int (0 : Int32)), .val (.int off), .val (.ref t101), .val (.ref b102), .val (.ref b105)] [(.int off), (.int (2 : Int32)), (.int (exF (2 : Int32) off (0 : Int32) p1 p2 p3))]))
    refine Go.via (fun _ => XS.iload X128.here hx rfl (hb hby at_195) rfl) ?_
    show Go p e below _ (T128.setTop (mkF m 197 #[.val (.int p1), .val (.int p2), .val (.int p3), .val (.int p4), .val (.int p5), .val (.int (0 : Int32)), .val (.int off), .val (.ref t101), .val (.ref b102), .val (.ref b105)] [(.int (0 : Int32)), (.int off), (.int (2 : Int32)), (.int (exF (2 : Int32) off (0 : Int32) p1 p2 p3))]))
    refine Go.via (fun _ => XS.iloadN X128.here hx rfl (hb hby at_197) rfl) ?_
    show Go p e below _ (T128.setTop (mkF m 198 #[.val (.int p1), .val (.int p2), .val (.int p3), .val (.int p4), .val (.int p5), .val (.int (0 : Int32)), .val (.int off), .val (.ref t101), .val (.ref b102), .val (.ref b105)] [(.int p1), (.int (0 : Int32)), (.int off), (.int (2 : Int32)), (.int (exF (2 : Int32) off (0 : Int32) p1 p2 p3))]))
    refine Go.via (fun _ => XS.iloadN X128.here hx rfl (hb hby at_198) rfl) ?_
    show Go p e below _ (T128.setTop (mkF m 199 #[.val (.int p1), .val (.int p2), .val (.int p3), .val (.int p4), .val (.int p5), .val (.int (0 : Int32)), .val (.int off), .val (.ref t101), .val (.ref b102), .val (.ref b105)] [(.int p2), (.int p1), (.int (0 : Int32)), (.int off), (.int (2 : Int32)), (.int (exF (2 : Int32) off (0 : Int32) p1 p2 p3))]))
    refine Go.via (fun _ => XS.iloadN X128.here hx rfl (hb hby at_199) rfl) ?_
    show Go p e below _ (T128.setTop (mkF m 200 #[.val (.int p1), .val (.int p2), .val (.int p3), .val (.int p4), .val (.int p5), .val (.int (0 : Int32)), .val (.int off), .val (.ref t101), .val (.ref b102), .val (.ref b105)] [(.int p3), (.int p2), (.int p1), (.int (0 : Int32)), (.int off), (.int (2 : Int32)), (.int (exF (2 : Int32) off (0 : Int32) p1 p2 p3))]))
    obtain ⟨_, _, ⟨T130, L130, k130, n130⟩, -, X130, ⟨Lc130, hQ130, l130, y130, z130⟩, st130⟩ := Jvm.LawKit.callS X128 hx (y := (⟨"com/example/sluice/sluice/processor/FlowFileCopyContentPinLaw", "expected", "(IIIIII)B"⟩ : MethodName)) hown (mvT hZ (hw _ (List.mem_of_getElem? (i := 62) rfl))) (mvT hZ (hw _ (List.mem_of_getElem? (i := 63) rfl))) (mvT hZ (hw _ (List.mem_of_getElem? (i := 3) rfl))) (mvT hZ (hw _ (List.mem_of_getElem? (i := 64) rfl))) (by decide) (backOf (W := 1) (rmEx l Z a0 hw [] (2 : Int32) off (0 : Int32) p1 p2 p3 T122.heap n0 Zs122) hZ (hw _ (List.mem_of_getElem? (i := 64) rfl)) (hw _ (List.mem_of_getElem? (i := 3) rfl)) (by decide) (by decide)) (g := (mkF m 200 #[.val (.int p1), .val (.int p2), .val (.int p3), .val (.int p4), .val (.int p5), .val (.int (0 : Int32)), .val (.int off), .val (.ref t101), .val (.ref b102), .val (.ref b105)] [(.int p3), (.int p2), (.int p1), (.int (0 : Int32)), (.int off), (.int (2 : Int32)), (.int (exF (2 : Int32) off (0 : Int32) p1 p2 p3))])) rfl (by rw [hml]; rfl) (argsL := [(.int (2 : Int32)), (.int off), (.int (0 : Int32)), (.int p1), (.int p2), (.int p3)]) (rest := [(.int (exF (2 : Int32) off (0 : Int32) p1 p2 p3))]) (lenOf pd_9 rfl) rfl (by show 2 * 0 + _ ≤ _; exact Nat.le_of_eq rfl) (hb hby at_200) (fun _ _ => ⟨rfl, e128q, (by decide : 4 + 0 ≤ _), (by decide : 14 + 0 ≤ _)⟩)
    dsimp only [Pt.U, Pt.locs, Pt.cells, Pt.slots] at X130 l130 y130 z130 st130 hQ130
    rw [l130, y130, z130] at X130
    replace X130 : Stand p l e _ _ m _ below meth c T130 _ 4 14 := X130
    obtain ⟨rfl, N130q, e130q⟩ := hQ130
    have N130 := Fr.app N128 N130q
    refine Go.via st130 ?_
    show Go p e below _ (T130.setTop (mkF m 203 #[.val (.int p1), .val (.int p2), .val (.int p3), .val (.int p4), .val (.int p5), .val (.int (0 : Int32)), .val (.int off), .val (.ref t101), .val (.ref b102), .val (.ref b105)] [(.int (exF (2 : Int32) off (0 : Int32) p1 p2 p3)), (.int (exF (2 : Int32) off (0 : Int32) p1 p2 p3))]))
    refine Go.via (fun _ => XS.icmpNo X130.here hx rfl (hb hby at_203) rfl (teq rfl).2) ?_
    show Go p e below _ (T130.setTop (mkF m 206 #[.val (.int p1), .val (.int p2), .val (.int p3), .val (.int p4), .val (.int p5), .val (.int (0 : Int32)), .val (.int off), .val (.ref t101), .val (.ref b102), .val (.ref b105)] []))
    refine Go.via (fun _ => XS.aload X130.here hx rfl (hb hby at_206) rfl rfl) ?_
    show Go p e below _ (T130.setTop (mkF m 208 #[.val (.int p1), .val (.int p2), .val (.int p3), .val (.int p4), .val (.int p5), .val (.int (0 : Int32)), .val (.int off), .val (.ref t101), .val (.ref b102), .val (.ref b105)] [(.ref b105)]))
    refine Go.via (fun _ => XS.iconst X130.here hx rfl (hb hby at_208)) ?_
    show Go p e below _ (T130.setTop (mkF m 209 #[.val (.int p1), .val (.int p2), .val (.int p3), .val (.int p4), .val (.int p5), .val (.int (0 : Int32)), .val (.int off), .val (.ref t101), .val (.ref b102), .val (.ref b105)] [(.int (3 : Int32)), (.ref b105)]))
    obtain ⟨cl131, Ar131, q131, S131, N131n, H131, G131⟩ := id vb122
    have hin131 := inb_of (j := (3 : Int32)) S131 (by decide)
    have hat131 : cl131.slots[((3 : Int32) : Int32).toNatClampNeg]? = some (.int (exF (3 : Int32) off (0 : Int32) p1 p2 p3)) := H131.at hin131 rfl
    refine Go.via (X130.baloadBytes hx (j := (3 : Int32)) (v := (.int (exF (3 : Int32) off (0 : Int32) p1 p2 p3))) (by rw [e130q]; exact Ar131.1) (State.isArrayOf_alike hZ.alike Ar131.2.1) Ar131.2.2 hin131 hat131 (g := (mkF m 209 #[.val (.int p1), .val (.int p2), .val (.int p3), .val (.int p4), .val (.int p5), .val (.int (0 : Int32)), .val (.int off), .val (.ref t101), .val (.ref b102), .val (.ref b105)] [(.int (3 : Int32)), (.ref b105)])) rfl rfl (hb hby at_209)) ?_
    show Go p e below _ (T130.setTop (mkF m 210 #[.val (.int p1), .val (.int p2), .val (.int p3), .val (.int p4), .val (.int p5), .val (.int (0 : Int32)), .val (.int off), .val (.ref t101), .val (.ref b102), .val (.ref b105)] [(.int (exF (3 : Int32) off (0 : Int32) p1 p2 p3))]))
    refine Go.via (fun _ => XS.iconst X130.here hx rfl (hb hby at_210)) ?_
    show Go p e below _ (T130.setTop (mkF m 211 #[.val (.int p1), .val (.int p2), .val (.int p3), .val (.int p4), .val (.int p5), .val (.int (0 : Int32)), .val (.int off), .val (.ref t101), .val (.ref b102), .val (.ref b105)] [(.int (3 : Int32)), (.int (exF (3 : Int32) off (0 : Int32) p1 p2 p3))]))
    refine Go.via (fun _ => XS.iload X130.here hx rfl (hb hby at_211) rfl) ?_
    show Go p e below _ (T130.setTop (mkF m 213 #[.val (.int p1), .val (.int p2), .val (.int p3), .val (.int p4), .val (.int p5), .val (.int (0 : Int32)), .val (.int off), .val (.ref t101), .val (.ref b102), .val (.ref b105)] [(.int off), (.int (3 : Int32)), (.int (exF (3 : Int32) off (0 : Int32) p1 p2 p3))]))
    refine Go.via (fun _ => XS.iload X130.here hx rfl (hb hby at_213) rfl) ?_
    show Go p e below _ (T130.setTop (mkF m 215 #[.val (.int p1), .val (.int p2), .val (.int p3), .val (.int p4), .val (.int p5), .val (.int (0 : Int32)), .val (.int off), .val (.ref t101), .val (.ref b102), .val (.ref b105)] [(.int (0 : Int32)), (.int off), (.int (3 : Int32)), (.int (exF (3 : Int32) off (0 : Int32) p1 p2 p3))]))
    refine Go.via (fun _ => XS.iloadN X130.here hx rfl (hb hby at_215) rfl) ?_
    show Go p e below _ (T130.setTop (mkF m 216 #[.val (.int p1), .val (.int p2), .val (.int p3), .val (.int p4), .val (.int p5), .val (.int (0 : Int32)), .val (.int off), .val (.ref t101), .val (.ref b102), .val (.ref b105)] [(.int p1), (.int (0 : Int32)), (.int off), (.int (3 : Int32)), (.int (exF (3 : Int32) off (0 : Int32) p1 p2 p3))]))
    refine Go.via (fun _ => XS.iloadN X130.here hx rfl (hb hby at_216) rfl) ?_
    show Go p e below _ (T130.setTop (mkF m 217 #[.val (.int p1), .val (.int p2), .val (.int p3), .val (.int p4), .val (.int p5), .val (.int (0 : Int32)), .val (.int off), .val (.ref t101), .val (.ref b102), .val (.ref b105)] [(.int p2), (.int p1), (.int (0 : Int32)), (.int off), (.int (3 : Int32)), (.int (exF (3 : Int32) off (0 : Int32) p1 p2 p3))]))
    refine Go.via (fun _ => XS.iloadN X130.here hx rfl (hb hby at_217) rfl) ?_
    show Go p e below _ (T130.setTop (mkF m 218 #[.val (.int p1), .val (.int p2), .val (.int p3), .val (.int p4), .val (.int p5), .val (.int (0 : Int32)), .val (.int off), .val (.ref t101), .val (.ref b102), .val (.ref b105)] [(.int p3), (.int p2), (.int p1), (.int (0 : Int32)), (.int off), (.int (3 : Int32)), (.int (exF (3 : Int32) off (0 : Int32) p1 p2 p3))]))
    obtain ⟨_, _, ⟨T132, L132, k132, n132⟩, -, X132, ⟨Lc132, hQ132, l132, y132, z132⟩, st132⟩ := Jvm.LawKit.callS X130 hx (y := (⟨"com/example/sluice/sluice/processor/FlowFileCopyContentPinLaw", "expected", "(IIIIII)B"⟩ : MethodName)) hown (mvT hZ (hw _ (List.mem_of_getElem? (i := 62) rfl))) (mvT hZ (hw _ (List.mem_of_getElem? (i := 63) rfl))) (mvT hZ (hw _ (List.mem_of_getElem? (i := 3) rfl))) (mvT hZ (hw _ (List.mem_of_getElem? (i := 64) rfl))) (by decide) (backOf (W := 1) (rmEx l Z a0 hw [] (3 : Int32) off (0 : Int32) p1 p2 p3 T122.heap n0 Zs122) hZ (hw _ (List.mem_of_getElem? (i := 64) rfl)) (hw _ (List.mem_of_getElem? (i := 3) rfl)) (by decide) (by decide)) (g := (mkF m 218 #[.val (.int p1), .val (.int p2), .val (.int p3), .val (.int p4), .val (.int p5), .val (.int (0 : Int32)), .val (.int off), .val (.ref t101), .val (.ref b102), .val (.ref b105)] [(.int p3), (.int p2), (.int p1), (.int (0 : Int32)), (.int off), (.int (3 : Int32)), (.int (exF (3 : Int32) off (0 : Int32) p1 p2 p3))])) rfl (by rw [hml]; rfl) (argsL := [(.int (3 : Int32)), (.int off), (.int (0 : Int32)), (.int p1), (.int p2), (.int p3)]) (rest := [(.int (exF (3 : Int32) off (0 : Int32) p1 p2 p3))]) (lenOf pd_9 rfl) rfl (by show 2 * 0 + _ ≤ _; exact Nat.le_of_eq rfl) (hb hby at_218) (fun _ _ => ⟨rfl, e130q, (by decide : 4 + 0 ≤ _), (by decide : 14 + 0 ≤ _)⟩)
    dsimp only [Pt.U, Pt.locs, Pt.cells, Pt.slots] at X132 l132 y132 z132 st132 hQ132
    rw [l132, y132, z132] at X132
    replace X132 : Stand p l e _ _ m _ below meth c T132 _ 4 14 := X132
    obtain ⟨rfl, N132q, e132q⟩ := hQ132
    have N132 := Fr.app N130 N132q
    refine Go.via st132 ?_
    show Go p e below _ (T132.setTop (mkF m 221 #[.val (.int p1), .val (.int p2), .val (.int p3), .val (.int p4), .val (.int p5), .val (.int (0 : Int32)), .val (.int off), .val (.ref t101), .val (.ref b102), .val (.ref b105)] [(.int (exF (3 : Int32) off (0 : Int32) p1 p2 p3)), (.int (exF (3 : Int32) off (0 : Int32) p1 p2 p3))]))
    refine Go.via (fun _ => XS.icmpNo X132.here hx rfl (hb hby at_221) rfl (teq rfl).2) ?_
    show Go p e below _ (T132.setTop (mkF m 224 #[.val (.int p1), .val (.int p2), .val (.int p3), .val (.int p4), .val (.int p5), .val (.int (0 : Int32)), .val (.int off), .val (.ref t101), .val (.ref b102), .val (.ref b105)] []))
    refine Go.via (fun _ => XS.aload X132.here hx rfl (hb hby at_224) rfl rfl) ?_
    show Go p e below _ (T132.setTop (mkF m 226 #[.val (.int p1), .val (.int p2), .val (.int p3), .val (.int p4), .val (.int p5), .val (.int (0 : Int32)), .val (.int off), .val (.ref t101), .val (.ref b102), .val (.ref b105)] [(.ref b105)]))
    refine Go.via (fun _ => XS.iconst X132.here hx rfl (hb hby at_226)) ?_
    show Go p e below _ (T132.setTop (mkF m 227 #[.val (.int p1), .val (.int p2), .val (.int p3), .val (.int p4), .val (.int p5), .val (.int (0 : Int32)), .val (.int off), .val (.ref t101), .val (.ref b102), .val (.ref b105)] [(.int (4 : Int32)), (.ref b105)]))
    obtain ⟨cl133, Ar133, q133, S133, N133n, H133, G133⟩ := id vb122
    have hin133 := inb_of (j := (4 : Int32)) S133 (by decide)
    have hat133 : cl133.slots[((4 : Int32) : Int32).toNatClampNeg]? = some (.int (exF (4 : Int32) off (0 : Int32) p1 p2 p3)) := H133.at hin133 rfl
    refine Go.via (X132.baloadBytes hx (j := (4 : Int32)) (v := (.int (exF (4 : Int32) off (0 : Int32) p1 p2 p3))) (by rw [e132q]; exact Ar133.1) (State.isArrayOf_alike hZ.alike Ar133.2.1) Ar133.2.2 hin133 hat133 (g := (mkF m 227 #[.val (.int p1), .val (.int p2), .val (.int p3), .val (.int p4), .val (.int p5), .val (.int (0 : Int32)), .val (.int off), .val (.ref t101), .val (.ref b102), .val (.ref b105)] [(.int (4 : Int32)), (.ref b105)])) rfl rfl (hb hby at_227)) ?_
    show Go p e below _ (T132.setTop (mkF m 228 #[.val (.int p1), .val (.int p2), .val (.int p3), .val (.int p4), .val (.int p5), .val (.int (0 : Int32)), .val (.int off), .val (.ref t101), .val (.ref b102), .val (.ref b105)] [(.int (exF (4 : Int32) off (0 : Int32) p1 p2 p3))]))
    refine Go.via (fun _ => XS.iconst X132.here hx rfl (hb hby at_228)) ?_
    show Go p e below _ (T132.setTop (mkF m 229 #[.val (.int p1), .val (.int p2), .val (.int p3), .val (.int p4), .val (.int p5), .val (.int (0 : Int32)), .val (.int off), .val (.ref t101), .val (.ref b102), .val (.ref b105)] [(.int (4 : Int32)), (.int (exF (4 : Int32) off (0 : Int32) p1 p2 p3))]))
    refine Go.via (fun _ => XS.iload X132.here hx rfl (hb hby at_229) rfl) ?_
    show Go p e below _ (T132.setTop (mkF m 231 #[.val (.int p1), .val (.int p2), .val (.int p3), .val (.int p4), .val (.int p5), .val (.int (0 : Int32)), .val (.int off), .val (.ref t101), .val (.ref b102), .val (.ref b105)] [(.int off), (.int (4 : Int32)), (.int (exF (4 : Int32) off (0 : Int32) p1 p2 p3))]))
    refine Go.via (fun _ => XS.iload X132.here hx rfl (hb hby at_231) rfl) ?_
    show Go p e below _ (T132.setTop (mkF m 233 #[.val (.int p1), .val (.int p2), .val (.int p3), .val (.int p4), .val (.int p5), .val (.int (0 : Int32)), .val (.int off), .val (.ref t101), .val (.ref b102), .val (.ref b105)] [(.int (0 : Int32)), (.int off), (.int (4 : Int32)), (.int (exF (4 : Int32) off (0 : Int32) p1 p2 p3))]))
    refine Go.via (fun _ => XS.iloadN X132.here hx rfl (hb hby at_233) rfl) ?_
    show Go p e below _ (T132.setTop (mkF m 234 #[.val (.int p1), .val (.int p2), .val (.int p3), .val (.int p4), .val (.int p5), .val (.int (0 : Int32)), .val (.int off), .val (.ref t101), .val (.ref b102), .val (.ref b105)] [(.int p1), (.int (0 : Int32)), (.int off), (.int (4 : Int32)), (.int (exF (4 : Int32) off (0 : Int32) p1 p2 p3))]))
    refine Go.via (fun _ => XS.iloadN X132.here hx rfl (hb hby at_234) rfl) ?_
    show Go p e below _ (T132.setTop (mkF m 235 #[.val (.int p1), .val (.int p2), .val (.int p3), .val (.int p4), .val (.int p5), .val (.int (0 : Int32)), .val (.int off), .val (.ref t101), .val (.ref b102), .val (.ref b105)] [(.int p2), (.int p1), (.int (0 : Int32)), (.int off), (.int (4 : Int32)), (.int (exF (4 : Int32) off (0 : Int32) p1 p2 p3))]))
    refine Go.via (fun _ => XS.iloadN X132.here hx rfl (hb hby at_235) rfl) ?_
    show Go p e below _ (T132.setTop (mkF m 236 #[.val (.int p1), .val (.int p2), .val (.int p3), .val (.int p4), .val (.int p5), .val (.int (0 : Int32)), .val (.int off), .val (.ref t101), .val (.ref b102), .val (.ref b105)] [(.int p3), (.int p2), (.int p1), (.int (0 : Int32)), (.int off), (.int (4 : Int32)), (.int (exF (4 : Int32) off (0 : Int32) p1 p2 p3))]))
    obtain ⟨_, _, ⟨T134, L134, k134, n134⟩, -, X134, ⟨Lc134, hQ134, l134, y134, z134⟩, st134⟩ := Jvm.LawKit.callS X132 hx (y := (⟨"com/example/sluice/sluice/processor/FlowFileCopyContentPinLaw", "expected", "(IIIIII)B"⟩ : MethodName)) hown (mvT hZ (hw _ (List.mem_of_getElem? (i := 62) rfl))) (mvT hZ (hw _ (List.mem_of_getElem? (i := 63) rfl))) (mvT hZ (hw _ (List.mem_of_getElem? (i := 3) rfl))) (mvT hZ (hw _ (List.mem_of_getElem? (i := 64) rfl))) (by decide) (backOf (W := 1) (rmEx l Z a0 hw [] (4 : Int32) off (0 : Int32) p1 p2 p3 T122.heap n0 Zs122) hZ (hw _ (List.mem_of_getElem? (i := 64) rfl)) (hw _ (List.mem_of_getElem? (i := 3) rfl)) (by decide) (by decide)) (g := (mkF m 236 #[.val (.int p1), .val (.int p2), .val (.int p3), .val (.int p4), .val (.int p5), .val (.int (0 : Int32)), .val (.int off), .val (.ref t101), .val (.ref b102), .val (.ref b105)] [(.int p3), (.int p2), (.int p1), (.int (0 : Int32)), (.int off), (.int (4 : Int32)), (.int (exF (4 : Int32) off (0 : Int32) p1 p2 p3))])) rfl (by rw [hml]; rfl) (argsL := [(.int (4 : Int32)), (.int off), (.int (0 : Int32)), (.int p1), (.int p2), (.int p3)]) (rest := [(.int (exF (4 : Int32) off (0 : Int32) p1 p2 p3))]) (lenOf pd_9 rfl) rfl (by show 2 * 0 + _ ≤ _; exact Nat.le_of_eq rfl) (hb hby at_236) (fun _ _ => ⟨rfl, e132q, (by decide : 4 + 0 ≤ _), (by decide : 14 + 0 ≤ _)⟩)
    dsimp only [Pt.U, Pt.locs, Pt.cells, Pt.slots] at X134 l134 y134 z134 st134 hQ134
    rw [l134, y134, z134] at X134
    replace X134 : Stand p l e _ _ m _ below meth c T134 _ 4 14 := X134
    obtain ⟨rfl, N134q, e134q⟩ := hQ134
    have N134 := Fr.app N132 N134q
    refine Go.via st134 ?_
    show Go p e below _ (T134.setTop (mkF m 239 #[.val (.int p1), .val (.int p2), .val (.int p3), .val (.int p4), .val (.int p5), .val (.int (0 : Int32)), .val (.int off), .val (.ref t101), .val (.ref b102), .val (.ref b105)] [(.int (exF (4 : Int32) off (0 : Int32) p1 p2 p3)), (.int (exF (4 : Int32) off (0 : Int32) p1 p2 p3))]))
    refine Go.via (fun _ => XS.icmpNo X134.here hx rfl (hb hby at_239) rfl (teq rfl).2) ?_
    show Go p e below _ (T134.setTop (mkF m 242 #[.val (.int p1), .val (.int p2), .val (.int p3), .val (.int p4), .val (.int p5), .val (.int (0 : Int32)), .val (.int off), .val (.ref t101), .val (.ref b102), .val (.ref b105)] []))
    refine Go.via (fun _ => XS.aload X134.here hx rfl (hb hby at_242) rfl rfl) ?_
    show Go p e below _ (T134.setTop (mkF m 244 #[.val (.int p1), .val (.int p2), .val (.int p3), .val (.int p4), .val (.int p5), .val (.int (0 : Int32)), .val (.int off), .val (.ref t101), .val (.ref b102), .val (.ref b105)] [(.ref b105)]))
    refine Go.via (fun _ => XS.iconst X134.here hx rfl (hb hby at_244)) ?_
    show Go p e below _ (T134.setTop (mkF m 245 #[.val (.int p1), .val (.int p2), .val (.int p3), .val (.int p4), .val (.int p5), .val (.int (0 : Int32)), .val (.int off), .val (.ref t101), .val (.ref b102), .val (.ref b105)] [(.int (5 : Int32)), (.ref b105)]))
    obtain ⟨cl135, Ar135, q135, S135, N135n, H135, G135⟩ := id vb122
    have hin135 := inb_of (j := (5 : Int32)) S135 (by decide)
    have hat135 : cl135.slots[((5 : Int32) : Int32).toNatClampNeg]? = some (.int (exF (5 : Int32) off (0 : Int32) p1 p2 p3)) := H135.at hin135 rfl
    refine Go.via (X134.baloadBytes hx (j := (5 : Int32)) (v := (.int (exF (5 : Int32) off (0 : Int32) p1 p2 p3))) (by rw [e134q]; exact Ar135.1) (State.isArrayOf_alike hZ.alike Ar135.2.1) Ar135.2.2 hin135 hat135 (g := (mkF m 245 #[.val (.int p1), .val (.int p2), .val (.int p3), .val (.int p4), .val (.int p5), .val (.int (0 : Int32)), .val (.int off), .val (.ref t101), .val (.ref b102), .val (.ref b105)] [(.int (5 : Int32)), (.ref b105)])) rfl rfl (hb hby at_245)) ?_
    show Go p e below _ (T134.setTop (mkF m 246 #[.val (.int p1), .val (.int p2), .val (.int p3), .val (.int p4), .val (.int p5), .val (.int (0 : Int32)), .val (.int off), .val (.ref t101), .val (.ref b102), .val (.ref b105)] [(.int (exF (5 : Int32) off (0 : Int32) p1 p2 p3))]))
    refine Go.via (fun _ => XS.iconst X134.here hx rfl (hb hby at_246)) ?_
    show Go p e below _ (T134.setTop (mkF m 247 #[.val (.int p1), .val (.int p2), .val (.int p3), .val (.int p4), .val (.int p5), .val (.int (0 : Int32)), .val (.int off), .val (.ref t101), .val (.ref b102), .val (.ref b105)] [(.int (5 : Int32)), (.int (exF (5 : Int32) off (0 : Int32) p1 p2 p3))]))
    refine Go.via (fun _ => XS.iload X134.here hx rfl (hb hby at_247) rfl) ?_
    show Go p e below _ (T134.setTop (mkF m 249 #[.val (.int p1), .val (.int p2), .val (.int p3), .val (.int p4), .val (.int p5), .val (.int (0 : Int32)), .val (.int off), .val (.ref t101), .val (.ref b102), .val (.ref b105)] [(.int off), (.int (5 : Int32)), (.int (exF (5 : Int32) off (0 : Int32) p1 p2 p3))]))
    refine Go.via (fun _ => XS.iload X134.here hx rfl (hb hby at_249) rfl) ?_
    show Go p e below _ (T134.setTop (mkF m 251 #[.val (.int p1), .val (.int p2), .val (.int p3), .val (.int p4), .val (.int p5), .val (.int (0 : Int32)), .val (.int off), .val (.ref t101), .val (.ref b102), .val (.ref b105)] [(.int (0 : Int32)), (.int off), (.int (5 : Int32)), (.int (exF (5 : Int32) off (0 : Int32) p1 p2 p3))]))
    refine Go.via (fun _ => XS.iloadN X134.here hx rfl (hb hby at_251) rfl) ?_
    show Go p e below _ (T134.setTop (mkF m 252 #[.val (.int p1), .val (.int p2), .val (.int p3), .val (.int p4), .val (.int p5), .val (.int (0 : Int32)), .val (.int off), .val (.ref t101), .val (.ref b102), .val (.ref b105)] [(.int p1), (.int (0 : Int32)), (.int off), (.int (5 : Int32)), (.int (exF (5 : Int32) off (0 : Int32) p1 p2 p3))]))
    refine Go.via (fun _ => XS.iloadN X134.here hx rfl (hb hby at_252) rfl) ?_
    show Go p e below _ (T134.setTop (mkF m 253 #[.val (.int p1), .val (.int p2), .val (.int p3), .val (.int p4), .val (.int p5), .val (.int (0 : Int32)), .val (.int off), .val (.ref t101), .val (.ref b102), .val (.ref b105)] [(.int p2), (.int p1), (.int (0 : Int32)), (.int off), (.int (5 : Int32)), (.int (exF (5 : Int32) off (0 : Int32) p1 p2 p3))]))
    refine Go.via (fun _ => XS.iloadN X134.here hx rfl (hb hby at_253) rfl) ?_
    show Go p e below _ (T134.setTop (mkF m 254 #[.val (.int p1), .val (.int p2), .val (.int p3), .val (.int p4), .val (.int p5), .val (.int (0 : Int32)), .val (.int off), .val (.ref t101), .val (.ref b102), .val (.ref b105)] [(.int p3), (.int p2), (.int p1), (.int (0 : Int32)), (.int off), (.int (5 : Int32)), (.int (exF (5 : Int32) off (0 : Int32) p1 p2 p3))]))
    obtain ⟨_, _, ⟨T136, L136, k136, n136⟩, -, X136, ⟨Lc136, hQ136, l136, y136, z136⟩, st136⟩ := Jvm.LawKit.callS X134 hx (y := (⟨"com/example/sluice/sluice/processor/FlowFileCopyContentPinLaw", "expected", "(IIIIII)B"⟩ : MethodName)) hown (mvT hZ (hw _ (List.mem_of_getElem? (i := 62) rfl))) (mvT hZ (hw _ (List.mem_of_getElem? (i := 63) rfl))) (mvT hZ (hw _ (List.mem_of_getElem? (i := 3) rfl))) (mvT hZ (hw _ (List.mem_of_getElem? (i := 64) rfl))) (by decide) (backOf (W := 1) (rmEx l Z a0 hw [] (5 : Int32) off (0 : Int32) p1 p2 p3 T122.heap n0 Zs122) hZ (hw _ (List.mem_of_getElem? (i := 64) rfl)) (hw _ (List.mem_of_getElem? (i := 3) rfl)) (by decide) (by decide)) (g := (mkF m 254 #[.val (.int p1), .val (.int p2), .val (.int p3), .val (.int p4), .val (.int p5), .val (.int (0 : Int32)), .val (.int off), .val (.ref t101), .val (.ref b102), .val (.ref b105)] [(.int p3), (.int p2), (.int p1), (.int (0 : Int32)), (.int off), (.int (5 : Int32)), (.int (exF (5 : Int32) off (0 : Int32) p1 p2 p3))])) rfl (by rw [hml]; rfl) (argsL := [(.int (5 : Int32)), (.int off), (.int (0 : Int32)), (.int p1), (.int p2), (.int p3)]) (rest := [(.int (exF (5 : Int32) off (0 : Int32) p1 p2 p3))]) (lenOf pd_9 rfl) rfl (by show 2 * 0 + _ ≤ _; exact Nat.le_of_eq rfl) (hb hby at_254) (fun _ _ => ⟨rfl, e134q, (by decide : 4 + 0 ≤ _), (by decide : 14 + 0 ≤ _)⟩)
    dsimp only [Pt.U, Pt.locs, Pt.cells, Pt.slots] at X136 l136 y136 z136 st136 hQ136
    rw [l136, y136, z136] at X136
    replace X136 : Stand p l e _ _ m _ below meth c T136 _ 4 14 := X136
    obtain ⟨rfl, N136q, e136q⟩ := hQ136
    have N136 := Fr.app N134 N136q
    refine Go.via st136 ?_
    show Go p e below _ (T136.setTop (mkF m 257 #[.val (.int p1), .val (.int p2), .val (.int p3), .val (.int p4), .val (.int p5), .val (.int (0 : Int32)), .val (.int off), .val (.ref t101), .val (.ref b102), .val (.ref b105)] [(.int (exF (5 : Int32) off (0 : Int32) p1 p2 p3)), (.int (exF (5 : Int32) off (0 : Int32) p1 p2 p3))]))
    refine Go.via (fun _ => XS.icmpNo X136.here hx rfl (hb hby at_257) rfl (teq rfl).2) ?_
    show Go p e below _ (T136.setTop (mkF m 260 #[.val (.int p1), .val (.int p2), .val (.int p3), .val (.int p4), .val (.int p5), .val (.int (0 : Int32)), .val (.int off), .val (.ref t101), .val (.ref b102), .val (.ref b105)] []))
    refine Go.via (fun _ => XS.aload X136.here hx rfl (hb hby at_260) rfl rfl) ?_
    show Go p e below _ (T136.setTop (mkF m 262 #[.val (.int p1), .val (.int p2), .val (.int p3), .val (.int p4), .val (.int p5), .val (.int (0 : Int32)), .val (.int off), .val (.ref t101), .val (.ref b102), .val (.ref b105)] [(.ref b105)]))
    refine Go.via (fun _ => XS.bipush X136.here hx rfl (hb hby at_262)) ?_
    show Go p e below _ (T136.setTop (mkF m 264 #[.val (.int p1), .val (.int p2), .val (.int p3), .val (.int p4), .val (.int p5), .val (.int (0 : Int32)), .val (.int off), .val (.ref t101), .val (.ref b102), .val (.ref b105)] [(.int (6 : Int32)), (.ref b105)]))
    obtain ⟨cl137, Ar137, q137, S137, N137n, H137, G137⟩ := id vb122
    have hin137 := inb_of (j := (6 : Int32)) S137 (by decide)
    have hat137 : cl137.slots[((6 : Int32) : Int32).toNatClampNeg]? = some (.int (exF (6 : Int32) off (0 : Int32) p1 p2 p3)) := H137.at hin137 rfl
    refine Go.via (X136.baloadBytes hx (j := (6 : Int32)) (v := (.int (exF (6 : Int32) off (0 : Int32) p1 p2 p3))) (by rw [e136q]; exact Ar137.1) (State.isArrayOf_alike hZ.alike Ar137.2.1) Ar137.2.2 hin137 hat137 (g := (mkF m 264 #[.val (.int p1), .val (.int p2), .val (.int p3), .val (.int p4), .val (.int p5), .val (.int (0 : Int32)), .val (.int off), .val (.ref t101), .val (.ref b102), .val (.ref b105)] [(.int (6 : Int32)), (.ref b105)])) rfl rfl (hb hby at_264)) ?_
    show Go p e below _ (T136.setTop (mkF m 265 #[.val (.int p1), .val (.int p2), .val (.int p3), .val (.int p4), .val (.int p5), .val (.int (0 : Int32)), .val (.int off), .val (.ref t101), .val (.ref b102), .val (.ref b105)] [(.int (exF (6 : Int32) off (0 : Int32) p1 p2 p3))]))
    refine Go.via (fun _ => XS.bipush X136.here hx rfl (hb hby at_265)) ?_
    show Go p e below _ (T136.setTop (mkF m 267 #[.val (.int p1), .val (.int p2), .val (.int p3), .val (.int p4), .val (.int p5), .val (.int (0 : Int32)), .val (.int off), .val (.ref t101), .val (.ref b102), .val (.ref b105)] [(.int (6 : Int32)), (.int (exF (6 : Int32) off (0 : Int32) p1 p2 p3))]))
    refine Go.via (fun _ => XS.iload X136.here hx rfl (hb hby at_267) rfl) ?_
    show Go p e below _ (T136.setTop (mkF m 269 #[.val (.int p1), .val (.int p2), .val (.int p3), .val (.int p4), .val (.int p5), .val (.int (0 : Int32)), .val (.int off), .val (.ref t101), .val (.ref b102), .val (.ref b105)] [(.int off), (.int (6 : Int32)), (.int (exF (6 : Int32) off (0 : Int32) p1 p2 p3))]))
    refine Go.via (fun _ => XS.iload X136.here hx rfl (hb hby at_269) rfl) ?_
    show Go p e below _ (T136.setTop (mkF m 271 #[.val (.int p1), .val (.int p2), .val (.int p3), .val (.int p4), .val (.int p5), .val (.int (0 : Int32)), .val (.int off), .val (.ref t101), .val (.ref b102), .val (.ref b105)] [(.int (0 : Int32)), (.int off), (.int (6 : Int32)), (.int (exF (6 : Int32) off (0 : Int32) p1 p2 p3))]))
    refine Go.via (fun _ => XS.iloadN X136.here hx rfl (hb hby at_271) rfl) ?_
    show Go p e below _ (T136.setTop (mkF m 272 #[.val (.int p1), .val (.int p2), .val (.int p3), .val (.int p4), .val (.int p5), .val (.int (0 : Int32)), .val (.int off), .val (.ref t101), .val (.ref b102), .val (.ref b105)] [(.int p1), (.int (0 : Int32)), (.int off), (.int (6 : Int32)), (.int (exF (6 : Int32) off (0 : Int32) p1 p2 p3))]))
    refine Go.via (fun _ => XS.iloadN X136.here hx rfl (hb hby at_272) rfl) ?_
    show Go p e below _ (T136.setTop (mkF m 273 #[.val (.int p1), .val (.int p2), .val (.int p3), .val (.int p4), .val (.int p5), .val (.int (0 : Int32)), .val (.int off), .val (.ref t101), .val (.ref b102), .val (.ref b105)] [(.int p2), (.int p1), (.int (0 : Int32)), (.int off), (.int (6 : Int32)), (.int (exF (6 : Int32) off (0 : Int32) p1 p2 p3))]))
    refine Go.via (fun _ => XS.iloadN X136.here hx rfl (hb hby at_273) rfl) ?_
    show Go p e below _ (T136.setTop (mkF m 274 #[.val (.int p1), .val (.int p2), .val (.int p3), .val (.int p4), .val (.int p5), .val (.int (0 : Int32)), .val (.int off), .val (.ref t101), .val (.ref b102), .val (.ref b105)] [(.int p3), (.int p2), (.int p1), (.int (0 : Int32)), (.int off), (.int (6 : Int32)), (.int (exF (6 : Int32) off (0 : Int32) p1 p2 p3))]))
    obtain ⟨_, _, ⟨T138, L138, k138, n138⟩, -, X138, ⟨Lc138, hQ138, l138, y138, z138⟩, st138⟩ := Jvm.LawKit.callS X136 hx (y := (⟨"com/example/sluice/sluice/processor/FlowFileCopyContentPinLaw", "expected", "(IIIIII)B"⟩ : MethodName)) hown (mvT hZ (hw _ (List.mem_of_getElem? (i := 62) rfl))) (mvT hZ (hw _ (List.mem_of_getElem? (i := 63) rfl))) (mvT hZ (hw _ (List.mem_of_getElem? (i := 3) rfl))) (mvT hZ (hw _ (List.mem_of_getElem? (i := 64) rfl))) (by decide) (backOf (W := 1) (rmEx l Z a0 hw [] (6 : Int32) off (0 : Int32) p1 p2 p3 T122.heap n0 Zs122) hZ (hw _ (List.mem_of_getElem? (i := 64) rfl)) (hw _ (List.mem_of_getElem? (i := 3) rfl)) (by decide) (by decide)) (g := (mkF m 274 #[.val (.int p1), .val (.int p2), .val (.int p3), .val (.int p4), .val (.int p5), .val (.int (0 : Int32)), .val (.int off), .val (.ref t101), .val (.ref b102), .val (.ref b105)] [(.int p3), (.int p2), (.int p1), (.int (0 : Int32)), (.int off), (.int (6 : Int32)), (.int (exF (6 : Int32) off (0 : Int32) p1 p2 p3))])) rfl (by rw [hml]; rfl) (argsL := [(.int (6 : Int32)), (.int off), (.int (0 : Int32)), (.int p1), (.int p2), (.int p3)]) (rest := [(.int (exF (6 : Int32) off (0 : Int32) p1 p2 p3))]) (lenOf pd_9 rfl) rfl (by show 2 * 0 + _ ≤ _; exact Nat.le_of_eq rfl) (hb hby at_274) (fun _ _ => ⟨rfl, e136q, (by decide : 4 + 0 ≤ _), (by decide : 14 + 0 ≤ _)⟩)
    dsimp only [Pt.U, Pt.locs, Pt.cells, Pt.slots] at X138 l138 y138 z138 st138 hQ138
    rw [l138, y138, z138] at X138
    replace X138 : Stand p l e _ _ m _ below meth c T138 _ 4 14 := X138
    obtain ⟨rfl, N138q, e138q⟩ := hQ138
    have N138 := Fr.app N136 N138q
    refine Go.via st138 ?_
    show Go p e below _ (T138.setTop (mkF m 277 #[.val (.int p1), .val (.int p2), .val (.int p3), .val (.int p4), .val (.int p5), .val (.int (0 : Int32)), .val (.int off), .val (.ref t101), .val (.ref b102), .val (.ref b105)] [(.int (exF (6 : Int32) off (0 : Int32) p1 p2 p3)), (.int (exF (6 : Int32) off (0 : Int32) p1 p2 p3))]))
    refine Go.via (fun _ => XS.icmpNo X138.here hx rfl (hb hby at_277) rfl (teq rfl).2) ?_
    show Go p e below _ (T138.setTop (mkF m 280 #[.val (.int p1), .val (.int p2), .val (.int p3), .val (.int p4), .val (.int p5), .val (.int (0 : Int32)), .val (.int off), .val (.ref t101), .val (.ref b102), .val (.ref b105)] []))
    refine Go.via (fun _ => XS.aload X138.here hx rfl (hb hby at_280) rfl rfl) ?_
    show Go p e below _ (T138.setTop (mkF m 282 #[.val (.int p1), .val (.int p2), .val (.int p3), .val (.int p4), .val (.int p5), .val (.int (0 : Int32)), .val (.int off), .val (.ref t101), .val (.ref b102), .val (.ref b105)] [(.ref b105)]))
    refine Go.via (fun _ => XS.bipush X138.here hx rfl (hb hby at_282)) ?_
    show Go p e below _ (T138.setTop (mkF m 284 #[.val (.int p1), .val (.int p2), .val (.int p3), .val (.int p4), .val (.int p5), .val (.int (0 : Int32)), .val (.int off), .val (.ref t101), .val (.ref b102), .val (.ref b105)] [(.int (7 : Int32)), (.ref b105)]))
    obtain ⟨cl139, Ar139, q139, S139, N139n, H139, G139⟩ := id vb122
    have hin139 := inb_of (j := (7 : Int32)) S139 (by decide)
    have hat139 : cl139.slots[((7 : Int32) : Int32).toNatClampNeg]? = some (.int (exF (7 : Int32) off (0 : Int32) p1 p2 p3)) := H139.at hin139 rfl
    refine Go.via (X138.baloadBytes hx (j := (7 : Int32)) (v := (.int (exF (7 : Int32) off (0 : Int32) p1 p2 p3))) (by rw [e138q]; exact Ar139.1) (State.isArrayOf_alike hZ.alike Ar139.2.1) Ar139.2.2 hin139 hat139 (g := (mkF m 284 #[.val (.int p1), .val (.int p2), .val (.int p3), .val (.int p4), .val (.int p5), .val (.int (0 : Int32)), .val (.int off), .val (.ref t101), .val (.ref b102), .val (.ref b105)] [(.int (7 : Int32)), (.ref b105)])) rfl rfl (hb hby at_284)) ?_
    show Go p e below _ (T138.setTop (mkF m 285 #[.val (.int p1), .val (.int p2), .val (.int p3), .val (.int p4), .val (.int p5), .val (.int (0 : Int32)), .val (.int off), .val (.ref t101), .val (.ref b102), .val (.ref b105)] [(.int (exF (7 : Int32) off (0 : Int32) p1 p2 p3))]))
    refine Go.via (fun _ => XS.bipush X138.here hx rfl (hb hby at_285)) ?_
    show Go p e below _ (T138.setTop (mkF m 287 #[.val (.int p1), .val (.int p2), .val (.int p3), .val (.int p4), .val (.int p5), .val (.int (0 : Int32)), .val (.int off), .val (.ref t101), .val (.ref b102), .val (.ref b105)] [(.int (7 : Int32)), (.int (exF (7 : Int32) off (0 : Int32) p1 p2 p3))]))
    refine Go.via (fun _ => XS.iload X138.here hx rfl (hb hby at_287) rfl) ?_
    show Go p e below _ (T138.setTop (mkF m 289 #[.val (.int p1), .val (.int p2), .val (.int p3), .val (.int p4), .val (.int p5), .val (.int (0 : Int32)), .val (.int off), .val (.ref t101), .val (.ref b102), .val (.ref b105)] [(.int off), (.int (7 : Int32)), (.int (exF (7 : Int32) off (0 : Int32) p1 p2 p3))]))
    refine Go.via (fun _ => XS.iload X138.here hx rfl (hb hby at_289) rfl) ?_
    show Go p e below _ (T138.setTop (mkF m 291 #[.val (.int p1), .val (.int p2), .val (.int p3), .val (.int p4), .val (.int p5), .val (.int (0 : Int32)), .val (.int off), .val (.ref t101), .val (.ref b102), .val (.ref b105)] [(.int (0 : Int32)), (.int off), (.int (7 : Int32)), (.int (exF (7 : Int32) off (0 : Int32) p1 p2 p3))]))
    refine Go.via (fun _ => XS.iloadN X138.here hx rfl (hb hby at_291) rfl) ?_
    show Go p e below _ (T138.setTop (mkF m 292 #[.val (.int p1), .val (.int p2), .val (.int p3), .val (.int p4), .val (.int p5), .val (.int (0 : Int32)), .val (.int off), .val (.ref t101), .val (.ref b102), .val (.ref b105)] [(.int p1), (.int (0 : Int32)), (.int off), (.int (7 : Int32)), (.int (exF (7 : Int32) off (0 : Int32) p1 p2 p3))]))
    refine Go.via (fun _ => XS.iloadN X138.here hx rfl (hb hby at_292) rfl) ?_
    show Go p e below _ (T138.setTop (mkF m 293 #[.val (.int p1), .val (.int p2), .val (.int p3), .val (.int p4), .val (.int p5), .val (.int (0 : Int32)), .val (.int off), .val (.ref t101), .val (.ref b102), .val (.ref b105)] [(.int p2), (.int p1), (.int (0 : Int32)), (.int off), (.int (7 : Int32)), (.int (exF (7 : Int32) off (0 : Int32) p1 p2 p3))]))
    refine Go.via (fun _ => XS.iloadN X138.here hx rfl (hb hby at_293) rfl) ?_
    show Go p e below _ (T138.setTop (mkF m 294 #[.val (.int p1), .val (.int p2), .val (.int p3), .val (.int p4), .val (.int p5), .val (.int (0 : Int32)), .val (.int off), .val (.ref t101), .val (.ref b102), .val (.ref b105)] [(.int p3), (.int p2), (.int p1), (.int (0 : Int32)), (.int off), (.int (7 : Int32)), (.int (exF (7 : Int32) off (0 : Int32) p1 p2 p3))]))
    obtain ⟨_, _, ⟨T140, L140, k140, n140⟩, -, X140, ⟨Lc140, hQ140, l140, y140, z140⟩, st140⟩ := Jvm.LawKit.callS X138 hx (y := (⟨"com/example/sluice/sluice/processor/FlowFileCopyContentPinLaw", "expected", "(IIIIII)B"⟩ : MethodName)) hown (mvT hZ (hw _ (List.mem_of_getElem? (i := 62) rfl))) (mvT hZ (hw _ (List.mem_of_getElem? (i := 63) rfl))) (mvT hZ (hw _ (List.mem_of_getElem? (i := 3) rfl))) (mvT hZ (hw _ (List.mem_of_getElem? (i := 64) rfl))) (by decide) (backOf (W := 1) (rmEx l Z a0 hw [] (7 : Int32) off (0 : Int32) p1 p2 p3 T122.heap n0 Zs122) hZ (hw _ (List.mem_of_getElem? (i := 64) rfl)) (hw _ (List.mem_of_getElem? (i := 3) rfl)) (by decide) (by decide)) (g := (mkF m 294 #[.val (.int p1), .val (.int p2), .val (.int p3), .val (.int p4), .val (.int p5), .val (.int (0 : Int32)), .val (.int off), .val (.ref t101), .val (.ref b102), .val (.ref b105)] [(.int p3), (.int p2), (.int p1), (.int (0 : Int32)), (.int off), (.int (7 : Int32)), (.int (exF (7 : Int32) off (0 : Int32) p1 p2 p3))])) rfl (by rw [hml]; rfl) (argsL := [(.int (7 : Int32)), (.int off), (.int (0 : Int32)), (.int p1), (.int p2), (.int p3)]) (rest := [(.int (exF (7 : Int32) off (0 : Int32) p1 p2 p3))]) (lenOf pd_9 rfl) rfl (by show 2 * 0 + _ ≤ _; exact Nat.le_of_eq rfl) (hb hby at_294) (fun _ _ => ⟨rfl, e138q, (by decide : 4 + 0 ≤ _), (by decide : 14 + 0 ≤ _)⟩)
    dsimp only [Pt.U, Pt.locs, Pt.cells, Pt.slots] at X140 l140 y140 z140 st140 hQ140
    rw [l140, y140, z140] at X140
    replace X140 : Stand p l e _ _ m _ below meth c T140 _ 4 14 := X140
    obtain ⟨rfl, N140q, e140q⟩ := hQ140
    have N140 := Fr.app N138 N140q
    refine Go.via st140 ?_
    show Go p e below _ (T140.setTop (mkF m 297 #[.val (.int p1), .val (.int p2), .val (.int p3), .val (.int p4), .val (.int p5), .val (.int (0 : Int32)), .val (.int off), .val (.ref t101), .val (.ref b102), .val (.ref b105)] [(.int (exF (7 : Int32) off (0 : Int32) p1 p2 p3)), (.int (exF (7 : Int32) off (0 : Int32) p1 p2 p3))]))
    refine Go.via (fun _ => XS.icmpNo X140.here hx rfl (hb hby at_297) rfl (teq rfl).2) ?_
    show Go p e below _ (T140.setTop (mkF m 300 #[.val (.int p1), .val (.int p2), .val (.int p3), .val (.int p4), .val (.int p5), .val (.int (0 : Int32)), .val (.int off), .val (.ref t101), .val (.ref b102), .val (.ref b105)] []))
    refine Go.via (fun _ => XS.iconst X140.here hx rfl (hb hby at_300)) ?_
    show Go p e below _ (T140.setTop (mkF m 301 #[.val (.int p1), .val (.int p2), .val (.int p3), .val (.int p4), .val (.int p5), .val (.int (0 : Int32)), .val (.int off), .val (.ref t101), .val (.ref b102), .val (.ref b105)] [(.int (1 : Int32))]))
    refine Go.via (fun _ => XS.goto X140.here hx rfl (pc0 := 301) (pc' := 305) rfl (hb hby at_301) (by decide) (by decide)) ?_
    show Go p e below _ (T140.setTop (mkF m 305 #[.val (.int p1), .val (.int p2), .val (.int p3), .val (.int p4), .val (.int p5), .val (.int (0 : Int32)), .val (.int off), .val (.ref t101), .val (.ref b102), .val (.ref b105)] [(.int (1 : Int32))]))
    exact own_retN X140 hx hlk (t := .boolean) Bd.returns (by simp) (hb hby at_305) (by show Q0 Z p1 p2 p3 p4 p5 em h0 n0 _ T140.heap _; rw [e140q]; exact ⟨rfl, N140⟩) (by decide) (by decide)
  ·
    show Go p e below _ (s₁.setTop (mkF m 6 #[.val (.int p1), .val (.int p2), .val (.int p3), .val (.int p4), .val (.int p5), .unset, .unset, .unset, .unset, .unset] [(.int (1 : Int32))]))
    refine Go.via (fun _ => XS.istore X0.here hx rfl (hb hby at_6) rfl (l' := #[.val (.int p1), .val (.int p2), .val (.int p3), .val (.int p4), .val (.int p5), .val (.int (1 : Int32)), .unset, .unset, .unset, .unset]) rfl) ?_
    show Go p e below _ (s₁.setTop (mkF m 8 #[.val (.int p1), .val (.int p2), .val (.int p3), .val (.int p4), .val (.int p5), .val (.int (1 : Int32)), .unset, .unset, .unset, .unset] []))
    refine Go.via (fun _ => XS.iload X0.here hx rfl (hb hby at_8) rfl) ?_
    show Go p e below _ (s₁.setTop (mkF m 10 #[.val (.int p1), .val (.int p2), .val (.int p3), .val (.int p4), .val (.int p5), .val (.int (1 : Int32)), .unset, .unset, .unset, .unset] [(.int p5)]))
    refine Go.via (X0.ldcInt hx hown (mvT hZ (hw _ (List.mem_of_getElem? (i := 0) rfl))) (g := (mkF m 10 #[.val (.int p1), .val (.int p2), .val (.int p3), .val (.int p4), .val (.int p5), .val (.int (1 : Int32)), .unset, .unset, .unset, .unset] [(.int p5)])) rfl (hb hby at_10)) ?_
    show Go p e below _ (s₁.setTop (mkF m 12 #[.val (.int p1), .val (.int p2), .val (.int p3), .val (.int p4), .val (.int p5), .val (.int (1 : Int32)), .unset, .unset, .unset, .unset] [(.int (2147483647 : Int32)), (.int p5)]))
    refine Go.via (fun _ => XS.iand X0.here hx rfl (hb hby at_12) rfl) ?_
    show Go p e below _ (s₁.setTop (mkF m 13 #[.val (.int p1), .val (.int p2), .val (.int p3), .val (.int p4), .val (.int p5), .val (.int (1 : Int32)), .unset, .unset, .unset, .unset] [(.int (p5 &&& (2147483647 : Int32)))]))
    refine Go.via (fun _ => XS.bipush X0.here hx rfl (hb hby at_13)) ?_
    show Go p e below _ (s₁.setTop (mkF m 15 #[.val (.int p1), .val (.int p2), .val (.int p3), .val (.int p4), .val (.int p5), .val (.int (1 : Int32)), .unset, .unset, .unset, .unset] [(.int (9 : Int32)), (.int (p5 &&& (2147483647 : Int32)))]))
    refine Go.via (fun _ => XS.iload X0.here hx rfl (hb hby at_15) rfl) ?_
    show Go p e below _ (s₁.setTop (mkF m 17 #[.val (.int p1), .val (.int p2), .val (.int p3), .val (.int p4), .val (.int p5), .val (.int (1 : Int32)), .unset, .unset, .unset, .unset] [(.int (1 : Int32)), (.int (9 : Int32)), (.int (p5 &&& (2147483647 : Int32)))]))
    refine Go.via (fun _ => XS.isub X0.here hx rfl (hb hby at_17) rfl) ?_
    show Go p e below _ (s₁.setTop (mkF m 18 #[.val (.int p1), .val (.int p2), .val (.int p3), .val (.int p4), .val (.int p5), .val (.int (1 : Int32)), .unset, .unset, .unset, .unset] [(.int (8 : Int32)), (.int (p5 &&& (2147483647 : Int32)))]))
    refine Go.via (fun _ => iremM X0 hx rfl (hb hby at_18) rfl (by decide)) ?_
    show Go p e below _ (s₁.setTop (mkF m 19 #[.val (.int p1), .val (.int p2), .val (.int p3), .val (.int p4), .val (.int p5), .val (.int (1 : Int32)), .unset, .unset, .unset, .unset] [(.int ((p5 &&& (2147483647 : Int32)) % (8 : Int32)))]))
    have hoff := own_off1 p5
    generalize hof : ((p5 &&& (2147483647 : Int32)) % (8 : Int32)) = off at hoff ⊢
    show Go p e below _ (s₁.setTop (mkF m 19 #[.val (.int p1), .val (.int p2), .val (.int p3), .val (.int p4), .val (.int p5), .val (.int (1 : Int32)), .unset, .unset, .unset, .unset] [(.int off)]))
    refine Go.via (fun _ => XS.istore X0.here hx rfl (hb hby at_19) rfl (l' := #[.val (.int p1), .val (.int p2), .val (.int p3), .val (.int p4), .val (.int p5), .val (.int (1 : Int32)), .val (.int off), .unset, .unset, .unset]) rfl) ?_
    show Go p e below _ (s₁.setTop (mkF m 21 #[.val (.int p1), .val (.int p2), .val (.int p3), .val (.int p4), .val (.int p5), .val (.int (1 : Int32)), .val (.int off), .unset, .unset, .unset] []))
    refine Go.via (fun _ => XS.iload X0.here hx rfl (hb hby at_21) rfl) ?_
    show Go p e below _ (s₁.setTop (mkF m 23 #[.val (.int p1), .val (.int p2), .val (.int p3), .val (.int p4), .val (.int p5), .val (.int (1 : Int32)), .val (.int off), .unset, .unset, .unset] [(.int (1 : Int32))]))
    refine Go.via (fun _ => XS.iloadN X0.here hx rfl (hb hby at_23) rfl) ?_
    show Go p e below _ (s₁.setTop (mkF m 24 #[.val (.int p1), .val (.int p2), .val (.int p3), .val (.int p4), .val (.int p5), .val (.int (1 : Int32)), .val (.int off), .unset, .unset, .unset] [(.int p1), (.int (1 : Int32))]))
    obtain ⟨_, _, ⟨T141, L141, k141, n141⟩, -, X141, ⟨Lc141, hQ141, l141, y141, z141⟩, st141⟩ := Jvm.LawKit.callS X0 hx (y := (⟨"com/example/sluice/sluice/processor/FlowFileCopyContentPinLaw", "makeContent", "(II)[B"⟩ : MethodName)) hown (mvT hZ (hw _ (List.mem_of_getElem? (i := 1) rfl))) (mvT hZ (hw _ (List.mem_of_getElem? (i := 2) rfl))) (mvT hZ (hw _ (List.mem_of_getElem? (i := 3) rfl))) (mvT hZ (hw _ (List.mem_of_getElem? (i := 4) rfl))) (by decide) (backOf (W := 0) (rmMk_1 l Z a0 hw [] p1 h0 n0 Z0) hZ (hw _ (List.mem_of_getElem? (i := 4) rfl)) (hw _ (List.mem_of_getElem? (i := 3) rfl)) (by decide) (by decide)) (g := (mkF m 24 #[.val (.int p1), .val (.int p2), .val (.int p3), .val (.int p4), .val (.int p5), .val (.int (1 : Int32)), .val (.int off), .unset, .unset, .unset] [(.int p1), (.int (1 : Int32))])) rfl (by rw [hml]; rfl) (argsL := [(.int (1 : Int32)), (.int p1)]) (rest := []) (lenOf pd_4 rfl) rfl (by show 2 * 0 + _ ≤ _; exact Nat.le_of_eq rfl) (hb hby at_24) (fun _ _ => ⟨rfl, e0, (by decide : 0 + 1 ≤ _), (by decide : 0 + 1 ≤ _)⟩)
    dsimp only [Pt.U, Pt.locs, Pt.cells, Pt.slots] at X141 l141 y141 z141 st141 hQ141
    rw [l141, y141, z141] at X141
    replace X141 : Stand p l e _ _ m _ below meth c T141 _ 1 1 := X141
    obtain ⟨t141, kb141, rfl, N141q, K141q, gt141, et141, va141⟩ := hQ141
    have N141 := Fr.app N0 N141q
    refine Go.via st141 ?_
    have Zs141 : n0 ≤ T141.heap.size := Nat.le_trans Z0 K141q.1
    have O141 : Old Z n0 T141.heap := O0.keep K141q all0
    have g_t141 : n0 ≤ t141 := Nat.le_trans Z0 gt141
    show Go p e below _ (T141.setTop (mkF m 27 #[.val (.int p1), .val (.int p2), .val (.int p3), .val (.int p4), .val (.int p5), .val (.int (1 : Int32)), .val (.int off), .unset, .unset, .unset] [(.ref t141)]))
    refine Go.via (fun _ => XS.astore X141.here hx rfl (hb hby at_27) rfl rfl (l' := #[.val (.int p1), .val (.int p2), .val (.int p3), .val (.int p4), .val (.int p5), .val (.int (1 : Int32)), .val (.int off), .val (.ref t141), .unset, .unset]) rfl) ?_
    show Go p e below _ (T141.setTop (mkF m 29 #[.val (.int p1), .val (.int p2), .val (.int p3), .val (.int p4), .val (.int p5), .val (.int (1 : Int32)), .val (.int off), .val (.ref t141), .unset, .unset] []))
    obtain ⟨T142, h142, X142, e142, E142, A142, D142, -, st142⟩ := newO X141 hx hZ hown (hw _ (List.mem_of_getElem? (i := 9) rfl)) (hw _ (List.mem_of_getElem? (i := 10) rfl)) (hw _ (List.mem_of_getElem? (i := 11) rfl)) rfl (g := (mkF m 29 #[.val (.int p1), .val (.int p2), .val (.int p3), .val (.int p4), .val (.int p5), .val (.int (1 : Int32)), .val (.int off), .val (.ref t141), .unset, .unset] [])) rfl (hb hby at_29) (by decide) (by decide)
    obtain ⟨b142, g142⟩ : ∃ z, z = T141.heap.size := ⟨_, rfl⟩
    rw [← g142] at A142 D142 st142
    have g_b142 : n0 ≤ b142 := Nat.le_trans Zs141 (Nat.le_of_eq g142.symm)
    have ne_t141_b142 : t141 ≠ b142 := Nat.ne_of_lt (Nat.lt_of_lt_of_le et141.lt (Nat.le_of_eq g142.symm))
    refine Go.via st142 ?_
    have Zs142 : n0 ≤ h142.size := Nat.le_trans Zs141 E142.1
    have O142 : Old Z n0 h142 := O141.ext E142
    have fE_t141_142 := et141.ext E142
    have fV_t141_142 := va141.ext E142
    have F_attributes_b142 : Fld Z h142 b142 "com/example/sluice/sluice/processor/FlowFile" "attributes" "Ljava/util/Map;" .null := D142 (Or.inr (hw _ (List.mem_of_getElem? (i := 42) rfl))) (ty := (.object "java/util/Map")) (by decide)
    have F_content_b142 : Fld Z h142 b142 "com/example/sluice/sluice/processor/FlowFile" "content" "[B" .null := D142 (Or.inr (hw _ (List.mem_of_getElem? (i := 44) rfl))) (ty := (.array .byte)) (by decide)
    show Go p e below _ (T142.setTop (mkF m 32 #[.val (.int p1), .val (.int p2), .val (.int p3), .val (.int p4), .val (.int p5), .val (.int (1 : Int32)), .val (.int off), .val (.ref t141), .unset, .unset] [(.ref b142)]))
    refine Go.via (fun _ => XS.dup X142.here hx rfl (hb hby at_32) rfl rfl) ?_
    show Go p e below _ (T142.setTop (mkF m 33 #[.val (.int p1), .val (.int p2), .val (.int p3), .val (.int p4), .val (.int p5), .val (.int (1 : Int32)), .val (.int off), .val (.ref t141), .unset, .unset] [(.ref b142), (.ref b142)]))
    obtain ⟨_, _, ⟨T143, L143, k143, n143⟩, -, X143, ⟨Lc143, hQ143, l143, y143, z143⟩, st143⟩ := Jvm.LawKit.callS X142 hx (y := (⟨"java/util/Map", "of", "()Ljava/util/Map;"⟩ : MethodName)) hown (mvT hZ (hw _ (List.mem_of_getElem? (i := 12) rfl))) (mvT hZ (hw _ (List.mem_of_getElem? (i := 13) rfl))) (mvT hZ (hw _ (List.mem_of_getElem? (i := 14) rfl))) (mvT hZ (hw _ (List.mem_of_getElem? (i := 15) rfl))) (by decide) (backOf (W := 2) (rmOf l Z a0 hw [] em h142 n0 Zs142 O142 S_EM) hZ (hw _ (List.mem_of_getElem? (i := 15) rfl)) (hw _ (List.mem_of_getElem? (i := 14) rfl)) (by decide) (by decide)) (g := (mkF m 33 #[.val (.int p1), .val (.int p2), .val (.int p3), .val (.int p4), .val (.int p5), .val (.int (1 : Int32)), .val (.int off), .val (.ref t141), .unset, .unset] [(.ref b142), (.ref b142)])) rfl (by rw [hml]; rfl) (argsL := []) (rest := [(.ref b142), (.ref b142)]) (lenOf pd_5 rfl) rfl (by show 2 * 0 + _ ≤ _; exact Nat.le_of_eq rfl) (hb hby at_33) (fun _ _ => ⟨rfl, e142, (by decide : 2 + 0 ≤ _), (by decide : 3 + 0 ≤ _)⟩)
    dsimp only [Pt.U, Pt.locs, Pt.cells, Pt.slots] at X143 l143 y143 z143 st143 hQ143
    rw [l143, y143, z143] at X143
    replace X143 : Stand p l e _ _ m _ below meth c T143 _ 2 3 := X143
    obtain ⟨rfl, N143q, e143q⟩ := hQ143
    have N143 := Fr.app N141 N143q
    refine Go.via st143 ?_
    show Go p e below _ (T143.setTop (mkF m 36 #[.val (.int p1), .val (.int p2), .val (.int p3), .val (.int p4), .val (.int p5), .val (.int (1 : Int32)), .val (.int off), .val (.ref t141), .unset, .unset] [(.ref em), (.ref b142), (.ref b142)]))
    refine Go.via (fun _ => XS.aload X143.here hx rfl (hb hby at_36) rfl rfl) ?_
    show Go p e below _ (T143.setTop (mkF m 38 #[.val (.int p1), .val (.int p2), .val (.int p3), .val (.int p4), .val (.int p5), .val (.int (1 : Int32)), .val (.int off), .val (.ref t141), .unset, .unset] [(.ref t141), (.ref em), (.ref b142), (.ref b142)]))
    have eemb142 := E_EM.ext O142.2
    have neemb142 : b142 ≠ em := Ne.symm (O142.ne E_EM.lt g_b142)
    obtain ⟨_, _, ⟨T144, L144, k144, n144⟩, -, X144, ⟨Lc144, hQ144, l144, y144, z144⟩, st144⟩ := X143.specialBack hx (y := (⟨"com/example/sluice/sluice/processor/FlowFile", "<init>", "(Ljava/util/Map;[B)V"⟩ : MethodName)) rfl hown (mvT hZ (hw _ (List.mem_of_getElem? (i := 18) rfl))) (mvT hZ (hw _ (List.mem_of_getElem? (i := 19) rfl))) (mvT hZ (hw _ (List.mem_of_getElem? (i := 20) rfl))) (by decide) (backOf (W := 1) (rmFI1 l Z a0 hw [] b142 em t141 kb141 (1 : Int32) _ h142 n0 Zs142 A142 F_attributes_b142 F_content_b142 g_b142 eemb142 fE_t141_142 fV_t141_142 (by decide) neemb142 (Ne.symm ne_t141_b142)) hZ (hw _ (List.mem_of_getElem? (i := 20) rfl)) (hw _ (List.mem_of_getElem? (i := 11) rfl)) (by decide) (by decide)) (g := (mkF m 38 #[.val (.int p1), .val (.int p2), .val (.int p3), .val (.int p4), .val (.int p5), .val (.int (1 : Int32)), .val (.int off), .val (.ref t141), .unset, .unset] [(.ref t141), (.ref em), (.ref b142), (.ref b142)])) rfl (by rw [hml]; rfl) (Steps.refl _) (a := b142) (argsL := [(.ref em), (.ref t141)]) (rest := [(.ref b142)]) (lenOf pd_6 rfl) rfl (by show 2 * 0 + _ ≤ _; exact Nat.le_of_eq rfl) (hb hby at_38) (fun _ _ => ⟨rfl, e143q, (by decide : 2 + 1 ≤ _), (by decide : 3 + 4 ≤ _)⟩)
    dsimp only [Pt.U, Pt.locs, Pt.cells, Pt.slots] at X144 l144 y144 z144 st144 hQ144
    rw [l144, y144, z144] at X144
    replace X144 : Stand p l e _ _ m _ below meth c T144 _ 3 7 := X144
    obtain ⟨rfl, N144q, K144q, ct144, gt144, fc144, va144⟩ := hQ144
    have N144 := Fr.app N143 N144q
    refine Go.tr st144 ?_
    have Zs144 : n0 ≤ T144.heap.size := Nat.le_trans Zs142 K144q.1
    have O144 : Old Z n0 T144.heap := O142.keep K144q (allS g_b142 all0)
    have fE_t141_144 := fE_t141_142.keep K144q
    have fV_t141_144 := fV_t141_142.keep K144q (ninS ne_t141_b142 nin0)
    have fE_b142_144 := A142.keep K144q
    have g_ct144 : n0 ≤ ct144 := Nat.le_trans Zs142 gt144
    have ne_t141_ct144 : t141 ≠ ct144 := Nat.ne_of_lt (Nat.lt_of_lt_of_le fE_t141_142.lt gt144)
    have ne_b142_ct144 : b142 ≠ ct144 := Nat.ne_of_lt (Nat.lt_of_lt_of_le A142.lt gt144)
    show Go p e below _ (T144.setTop (mkF m 41 #[.val (.int p1), .val (.int p2), .val (.int p3), .val (.int p4), .val (.int p5), .val (.int (1 : Int32)), .val (.int off), .val (.ref t141), .unset, .unset] [(.ref b142)]))
    refine Go.via (fun _ => XS.astore X144.here hx rfl (hb hby at_41) rfl rfl (l' := #[.val (.int p1), .val (.int p2), .val (.int p3), .val (.int p4), .val (.int p5), .val (.int (1 : Int32)), .val (.int off), .val (.ref t141), .val (.ref b142), .unset]) rfl) ?_
    show Go p e below _ (T144.setTop (mkF m 43 #[.val (.int p1), .val (.int p2), .val (.int p3), .val (.int p4), .val (.int p5), .val (.int (1 : Int32)), .val (.int off), .val (.ref t141), .val (.ref b142), .unset] []))
    refine Go.via (fun _ => XS.bipush X144.here hx rfl (hb hby at_43)) ?_
    show Go p e below _ (T144.setTop (mkF m 45 #[.val (.int p1), .val (.int p2), .val (.int p3), .val (.int p4), .val (.int p5), .val (.int (1 : Int32)), .val (.int off), .val (.ref t141), .val (.ref b142), .unset] [(.int (8 : Int32))]))
    obtain ⟨T145, h145, k145, X145, e145, E145, A145, st145⟩ := newP X144 hx hZ (hw _ (List.mem_of_getElem? (i := 5) rfl)) rfl (g := (mkF m 45 #[.val (.int p1), .val (.int p2), .val (.int p3), .val (.int p4), .val (.int p5), .val (.int (1 : Int32)), .val (.int off), .val (.ref t141), .val (.ref b142), .unset] [(.int (8 : Int32))])) rfl (hb hby at_45) rfl (by decide) (cap := 8) (by decide) (by decide) (by decide) (by decide)
    obtain ⟨b145, g145⟩ : ∃ z, z = T144.heap.size := ⟨_, rfl⟩
    rw [← g145] at A145 st145
    have g_b145 : n0 ≤ b145 := Nat.le_trans Zs144 (Nat.le_of_eq g145.symm)
    have ne_t141_b145 : t141 ≠ b145 := Nat.ne_of_lt (Nat.lt_of_lt_of_le fE_t141_144.lt (Nat.le_of_eq g145.symm))
    have ne_b142_b145 : b142 ≠ b145 := Nat.ne_of_lt (Nat.lt_of_lt_of_le fE_b142_144.lt (Nat.le_of_eq g145.symm))
    have ne_ct144_b145 : ct144 ≠ b145 := Nat.ne_of_lt (Nat.lt_of_lt_of_le va144.lt (Nat.le_of_eq g145.symm))
    refine Go.via st145 ?_
    have Zs145 : n0 ≤ h145.size := Nat.le_trans Zs144 E145.1
    have O145 : Old Z n0 h145 := O144.ext E145
    have fE_t141_145 := fE_t141_144.ext E145
    have fV_t141_145 := fV_t141_144.ext E145
    have fE_b142_145 := fE_b142_144.ext E145
    have fF_b142_content_145 := fc144.ext E145
    have fV_ct144_145 := va144.ext E145
    have V_b145 : Arv Z h145 b145 k145 .byte (8 : Int32) [(.int (0 : Int32)), (.int (0 : Int32)), (.int (0 : Int32)), (.int (0 : Int32)), (.int (0 : Int32)), (.int (0 : Int32)), (.int (0 : Int32)), (.int (0 : Int32))] (.int (0 : Int32)) := (Arv.new A145 (by decide)).pad (pad_rep [] (.int (0 : Int32)) 8)
    show Go p e below _ (T145.setTop (mkF m 47 #[.val (.int p1), .val (.int p2), .val (.int p3), .val (.int p4), .val (.int p5), .val (.int (1 : Int32)), .val (.int off), .val (.ref t141), .val (.ref b142), .unset] [(.ref b145)]))
    refine Go.via (fun _ => XS.dup X145.here hx rfl (hb hby at_47) rfl rfl) ?_
    show Go p e below _ (T145.setTop (mkF m 48 #[.val (.int p1), .val (.int p2), .val (.int p3), .val (.int p4), .val (.int p5), .val (.int (1 : Int32)), .val (.int off), .val (.ref t141), .val (.ref b142), .unset] [(.ref b145), (.ref b145)]))
    refine Go.via (fun _ => XS.iconst X145.here hx rfl (hb hby at_48)) ?_
    show Go p e below _ (T145.setTop (mkF m 49 #[.val (.int p1), .val (.int p2), .val (.int p3), .val (.int p4), .val (.int p5), .val (.int (1 : Int32)), .val (.int off), .val (.ref t141), .val (.ref b142), .unset] [(.int (0 : Int32)), (.ref b145), (.ref b145)]))
    refine Go.via (fun _ => XS.iconst X145.here hx rfl (hb hby at_49)) ?_
    show Go p e below _ (T145.setTop (mkF m 50 #[.val (.int p1), .val (.int p2), .val (.int p3), .val (.int p4), .val (.int p5), .val (.int (1 : Int32)), .val (.int off), .val (.ref t141), .val (.ref b142), .unset] [(.int (0 : Int32)), (.int (0 : Int32)), (.ref b145), (.ref b145)]))
    refine Go.via (fun _ => XS.iloadN X145.here hx rfl (hb hby at_50) rfl) ?_
    show Go p e below _ (T145.setTop (mkF m 51 #[.val (.int p1), .val (.int p2), .val (.int p3), .val (.int p4), .val (.int p5), .val (.int (1 : Int32)), .val (.int off), .val (.ref t141), .val (.ref b142), .unset] [(.int p2), (.int (0 : Int32)), (.int (0 : Int32)), (.ref b145), (.ref b145)]))
    refine Go.via (fun _ => XS.iloadN X145.here hx rfl (hb hby at_51) rfl) ?_
    show Go p e below _ (T145.setTop (mkF m 52 #[.val (.int p1), .val (.int p2), .val (.int p3), .val (.int p4), .val (.int p5), .val (.int (1 : Int32)), .val (.int off), .val (.ref t141), .val (.ref b142), .unset] [(.int p3), (.int p2), (.int (0 : Int32)), (.int (0 : Int32)), (.ref b145), (.ref b145)]))
    obtain ⟨_, _, ⟨T146, L146, k146, n146⟩, -, X146, ⟨Lc146, hQ146, l146, y146, z146⟩, st146⟩ := Jvm.LawKit.callS X145 hx (y := (⟨"com/example/sluice/sluice/processor/FlowFileCopyContentPinLaw", "db", "(III)B"⟩ : MethodName)) hown (mvT hZ (hw _ (List.mem_of_getElem? (i := 45) rfl))) (mvT hZ (hw _ (List.mem_of_getElem? (i := 46) rfl))) (mvT hZ (hw _ (List.mem_of_getElem? (i := 3) rfl))) (mvT hZ (hw _ (List.mem_of_getElem? (i := 47) rfl))) (by decide) (backOf (W := 3) (rmDb l Z a0 hw [] (0 : Int32) p2 p3 h145 n0 Zs145) hZ (hw _ (List.mem_of_getElem? (i := 47) rfl)) (hw _ (List.mem_of_getElem? (i := 3) rfl)) (by decide) (by decide)) (g := (mkF m 52 #[.val (.int p1), .val (.int p2), .val (.int p3), .val (.int p4), .val (.int p5), .val (.int (1 : Int32)), .val (.int off), .val (.ref t141), .val (.ref b142), .unset] [(.int p3), (.int p2), (.int (0 : Int32)), (.int (0 : Int32)), (.ref b145), (.ref b145)])) rfl (by rw [hml]; rfl) (argsL := [(.int (0 : Int32)), (.int p2), (.int p3)]) (rest := [(.int (0 : Int32)), (.ref b145), (.ref b145)]) (lenOf pd_0 rfl) rfl (by show 2 * 0 + _ ≤ _; exact Nat.le_of_eq rfl) (hb hby at_52) (fun _ _ => ⟨rfl, e145, (by decide : 4 + 0 ≤ _), (by decide : 15 + 0 ≤ _)⟩)
    dsimp only [Pt.U, Pt.locs, Pt.cells, Pt.slots] at X146 l146 y146 z146 st146 hQ146
    rw [l146, y146, z146] at X146
    replace X146 : Stand p l e _ _ m _ below meth c T146 _ 4 15 := X146
    obtain ⟨rfl, N146q, e146q⟩ := hQ146
    have N146 := Fr.app N144 N146q
    refine Go.via st146 ?_
    show Go p e below _ (T146.setTop (mkF m 55 #[.val (.int p1), .val (.int p2), .val (.int p3), .val (.int p4), .val (.int p5), .val (.int (1 : Int32)), .val (.int off), .val (.ref t141), .val (.ref b142), .unset] [(.int (dbF (0 : Int32) p2 p3)), (.int (0 : Int32)), (.ref b145), (.ref b145)]))
    obtain ⟨cl147, Ar147, q147, S147, N147n, H147, G147⟩ := id V_b145
    have hin147 := inb_of (j := (0 : Int32)) S147 (by decide)
    obtain ⟨T147, h147, X147, e147, W147, st147⟩ := stB X146 hx hZ e146q Ar147 (j := (0 : Int32)) hin147 (g := (mkF m 55 #[.val (.int p1), .val (.int p2), .val (.int p3), .val (.int p4), .val (.int p5), .val (.int (1 : Int32)), .val (.int off), .val (.ref t141), .val (.ref b142), .unset] [(.int (dbF (0 : Int32) p2 p3)), (.int (0 : Int32)), (.ref b145), (.ref b145)])) rfl rfl (hb hby at_55)
    refine Go.via st147 ?_
    have V147 : Arv Z h147 b145 k145 .byte (8 : Int32) [(.int (nar .byte (dbF (0 : Int32) p2 p3))), (.int (0 : Int32)), (.int (0 : Int32)), (.int (0 : Int32)), (.int (0 : Int32)), (.int (0 : Int32)), (.int (0 : Int32)), (.int (0 : Int32))] (.int (0 : Int32)) := Arv.set Ar147 q147 S147 N147n H147 G147 (fits_nar_byte _) W147 0 rfl (Nat.le_of_ble_eq_true rfl)
    have Zs147 : n0 ≤ h147.size := Nat.le_trans Zs145 (Keep.of_wr W147).1
    have O147 : Old Z n0 h147 := O145.wr W147 g_b145
    have N147 := Fr.snoc X147 N146 g_b145
    have fE_t141_147 := fE_t141_145.wr W147
    have fV_t141_147 := fV_t141_145.other W147 ne_t141_b145
    have fE_b142_147 := fE_b142_145.wr W147
    have fF_b142_content_147 := fF_b142_content_145.other W147 (Or.inl ne_b142_b145)
    have fV_ct144_147 := fV_ct144_145.other W147 ne_ct144_b145
    show Go p e below _ (T147.setTop (mkF m 56 #[.val (.int p1), .val (.int p2), .val (.int p3), .val (.int p4), .val (.int p5), .val (.int (1 : Int32)), .val (.int off), .val (.ref t141), .val (.ref b142), .unset] [(.ref b145)]))
    refine Go.via (fun _ => XS.dup X147.here hx rfl (hb hby at_56) rfl rfl) ?_
    show Go p e below _ (T147.setTop (mkF m 57 #[.val (.int p1), .val (.int p2), .val (.int p3), .val (.int p4), .val (.int p5), .val (.int (1 : Int32)), .val (.int off), .val (.ref t141), .val (.ref b142), .unset] [(.ref b145), (.ref b145)]))
    refine Go.via (fun _ => XS.iconst X147.here hx rfl (hb hby at_57)) ?_
    show Go p e below _ (T147.setTop (mkF m 58 #[.val (.int p1), .val (.int p2), .val (.int p3), .val (.int p4), .val (.int p5), .val (.int (1 : Int32)), .val (.int off), .val (.ref t141), .val (.ref b142), .unset] [(.int (1 : Int32)), (.ref b145), (.ref b145)]))
    refine Go.via (fun _ => XS.iconst X147.here hx rfl (hb hby at_58)) ?_
    show Go p e below _ (T147.setTop (mkF m 59 #[.val (.int p1), .val (.int p2), .val (.int p3), .val (.int p4), .val (.int p5), .val (.int (1 : Int32)), .val (.int off), .val (.ref t141), .val (.ref b142), .unset] [(.int (1 : Int32)), (.int (1 : Int32)), (.ref b145), (.ref b145)]))
    refine Go.via (fun _ => XS.iloadN X147.here hx rfl (hb hby at_59) rfl) ?_
    show Go p e below _ (T147.setTop (mkF m 60 #[.val (.int p1), .val (.int p2), .val (.int p3), .val (.int p4), .val (.int p5), .val (.int (1 : Int32)), .val (.int off), .val (.ref t141), .val (.ref b142), .unset] [(.int p2), (.int (1 : Int32)), (.int (1 : Int32)), (.ref b145), (.ref b145)]))
    refine Go.via (fun _ => XS.iloadN X147.here hx rfl (hb hby at_60) rfl) ?_
    show Go p e below _ (T147.setTop (mkF m 61 #[.val (.int p1), .val (.int p2), .val (.int p3), .val (.int p4), .val (.int p5), .val (.int (1 : Int32)), .val (.int off), .val (.ref t141), .val (.ref b142), .unset] [(.int p3), (.int p2), (.int (1 : Int32)), (.int (1 : Int32)), (.ref b145), (.ref b145)]))
    obtain ⟨_, _, ⟨T148, L148, k148, n148⟩, -, X148, ⟨Lc148, hQ148, l148, y148, z148⟩, st148⟩ := Jvm.LawKit.callS X147 hx (y := (⟨"com/example/sluice/sluice/processor/FlowFileCopyContentPinLaw", "db", "(III)B"⟩ : MethodName)) hown (mvT hZ (hw _ (List.mem_of_getElem? (i := 45) rfl))) (mvT hZ (hw _ (List.mem_of_getElem? (i := 46) rfl))) (mvT hZ (hw _ (List.mem_of_getElem? (i := 3) rfl))) (mvT hZ (hw _ (List.mem_of_getElem? (i := 47) rfl))) (by decide) (backOf (W := 3) (rmDb l Z a0 hw [] (1 : Int32) p2 p3 h147 n0 Zs147) hZ (hw _ (List.mem_of_getElem? (i := 47) rfl)) (hw _ (List.mem_of_getElem? (i := 3) rfl)) (by decide) (by decide)) (g := (mkF m 61 #[.val (.int p1), .val (.int p2), .val (.int p3), .val (.int p4), .val (.int p5), .val (.int (1 : Int32)), .val (.int off), .val (.ref t141), .val (.ref b142), .unset] [(.int p3), (.int p2), (.int (1 : Int32)), (.int (1 : Int32)), (.ref b145), (.ref b145)])) rfl (by rw [hml]; rfl) (argsL := [(.int (1 : Int32)), (.int p2), (.int p3)]) (rest := [(.int (1 : Int32)), (.ref b145), (.ref b145)]) (lenOf pd_0 rfl) rfl (by show 2 * 0 + _ ≤ _; exact Nat.le_of_eq rfl) (hb hby at_61) (fun _ _ => ⟨rfl, e147, (by decide : 4 + 0 ≤ _), (by decide : 15 + 0 ≤ _)⟩)
    dsimp only [Pt.U, Pt.locs, Pt.cells, Pt.slots] at X148 l148 y148 z148 st148 hQ148
    rw [l148, y148, z148] at X148
    replace X148 : Stand p l e _ _ m _ below meth c T148 _ 4 15 := X148
    obtain ⟨rfl, N148q, e148q⟩ := hQ148
    have N148 := Fr.app N147 N148q
    refine Go.via st148 ?_
    show Go p e below _ (T148.setTop (mkF m 64 #[.val (.int p1), .val (.int p2), .val (.int p3), .val (.int p4), .val (.int p5), .val (.int (1 : Int32)), .val (.int off), .val (.ref t141), .val (.ref b142), .unset] [(.int (dbF (1 : Int32) p2 p3)), (.int (1 : Int32)), (.ref b145), (.ref b145)]))
    obtain ⟨cl149, Ar149, q149, S149, N149n, H149, G149⟩ := id V147
    have hin149 := inb_of (j := (1 : Int32)) S149 (by decide)
    obtain ⟨T149, h149, X149, e149, W149, st149⟩ := stB X148 hx hZ e148q Ar149 (j := (1 : Int32)) hin149 (g := (mkF m 64 #[.val (.int p1), .val (.int p2), .val (.int p3), .val (.int p4), .val (.int p5), .val (.int (1 : Int32)), .val (.int off), .val (.ref t141), .val (.ref b142), .unset] [(.int (dbF (1 : Int32) p2 p3)), (.int (1 : Int32)), (.ref b145), (.ref b145)])) rfl rfl (hb hby at_64)
    refine Go.via st149 ?_
    have V149 : Arv Z h149 b145 k145 .byte (8 : Int32) [(.int (nar .byte (dbF (0 : Int32) p2 p3))), (.int (nar .byte (dbF (1 : Int32) p2 p3))), (.int (0 : Int32)), (.int (0 : Int32)), (.int (0 : Int32)), (.int (0 : Int32)), (.int (0 : Int32)), (.int (0 : Int32))] (.int (0 : Int32)) := Arv.set Ar149 q149 S149 N149n H149 G149 (fits_nar_byte _) W149 1 rfl (Nat.le_of_ble_eq_true rfl)
    have Zs149 : n0 ≤ h149.size := Nat.le_trans Zs147 (Keep.of_wr W149).1
    have O149 : Old Z n0 h149 := O147.wr W149 g_b145
    have N149 := Fr.snoc X149 N148 g_b145
    have fE_t141_149 := fE_t141_147.wr W149
    have fV_t141_149 := fV_t141_147.other W149 ne_t141_b145
    have fE_b142_149 := fE_b142_147.wr W149
    have fF_b142_content_149 := fF_b142_content_147.other W149 (Or.inl ne_b142_b145)
    have fV_ct144_149 := fV_ct144_147.other W149 ne_ct144_b145
    show Go p e below _ (T149.setTop (mkF m 65 #[.val (.int p1), .val (.int p2), .val (.int p3), .val (.int p4), .val (.int p5), .val (.int (1 : Int32)), .val (.int off), .val (.ref t141), .val (.ref b142), .unset] [(.ref b145)]))
    refine Go.via (fun _ => XS.dup X149.here hx rfl (hb hby at_65) rfl rfl) ?_
    show Go p e below _ (T149.setTop (mkF m 66 #[.val (.int p1), .val (.int p2), .val (.int p3), .val (.int p4), .val (.int p5), .val (.int (1 : Int32)), .val (.int off), .val (.ref t141), .val (.ref b142), .unset] [(.ref b145), (.ref b145)]))
    refine Go.via (fun _ => XS.iconst X149.here hx rfl (hb hby at_66)) ?_
    show Go p e below _ (T149.setTop (mkF m 67 #[.val (.int p1), .val (.int p2), .val (.int p3), .val (.int p4), .val (.int p5), .val (.int (1 : Int32)), .val (.int off), .val (.ref t141), .val (.ref b142), .unset] [(.int (2 : Int32)), (.ref b145), (.ref b145)]))
    refine Go.via (fun _ => XS.iconst X149.here hx rfl (hb hby at_67)) ?_
    show Go p e below _ (T149.setTop (mkF m 68 #[.val (.int p1), .val (.int p2), .val (.int p3), .val (.int p4), .val (.int p5), .val (.int (1 : Int32)), .val (.int off), .val (.ref t141), .val (.ref b142), .unset] [(.int (2 : Int32)), (.int (2 : Int32)), (.ref b145), (.ref b145)]))
    refine Go.via (fun _ => XS.iloadN X149.here hx rfl (hb hby at_68) rfl) ?_
    show Go p e below _ (T149.setTop (mkF m 69 #[.val (.int p1), .val (.int p2), .val (.int p3), .val (.int p4), .val (.int p5), .val (.int (1 : Int32)), .val (.int off), .val (.ref t141), .val (.ref b142), .unset] [(.int p2), (.int (2 : Int32)), (.int (2 : Int32)), (.ref b145), (.ref b145)]))
    refine Go.via (fun _ => XS.iloadN X149.here hx rfl (hb hby at_69) rfl) ?_
    show Go p e below _ (T149.setTop (mkF m 70 #[.val (.int p1), .val (.int p2), .val (.int p3), .val (.int p4), .val (.int p5), .val (.int (1 : Int32)), .val (.int off), .val (.ref t141), .val (.ref b142), .unset] [(.int p3), (.int p2), (.int (2 : Int32)), (.int (2 : Int32)), (.ref b145), (.ref b145)]))
    obtain ⟨_, _, ⟨T150, L150, k150, n150⟩, -, X150, ⟨Lc150, hQ150, l150, y150, z150⟩, st150⟩ := Jvm.LawKit.callS X149 hx (y := (⟨"com/example/sluice/sluice/processor/FlowFileCopyContentPinLaw", "db", "(III)B"⟩ : MethodName)) hown (mvT hZ (hw _ (List.mem_of_getElem? (i := 45) rfl))) (mvT hZ (hw _ (List.mem_of_getElem? (i := 46) rfl))) (mvT hZ (hw _ (List.mem_of_getElem? (i := 3) rfl))) (mvT hZ (hw _ (List.mem_of_getElem? (i := 47) rfl))) (by decide) (backOf (W := 3) (rmDb l Z a0 hw [] (2 : Int32) p2 p3 h149 n0 Zs149) hZ (hw _ (List.mem_of_getElem? (i := 47) rfl)) (hw _ (List.mem_of_getElem? (i := 3) rfl)) (by decide) (by decide)) (g := (mkF m 70 #[.val (.int p1), .val (.int p2), .val (.int p3), .val (.int p4), .val (.int p5), .val (.int (1 : Int32)), .val (.int off), .val (.ref t141), .val (.ref b142), .unset] [(.int p3), (.int p2), (.int (2 : Int32)), (.int (2 : Int32)), (.ref b145), (.ref b145)])) rfl (by rw [hml]; rfl) (argsL := [(.int (2 : Int32)), (.int p2), (.int p3)]) (rest := [(.int (2 : Int32)), (.ref b145), (.ref b145)]) (lenOf pd_0 rfl) rfl (by show 2 * 0 + _ ≤ _; exact Nat.le_of_eq rfl) (hb hby at_70) (fun _ _ => ⟨rfl, e149, (by decide : 4 + 0 ≤ _), (by decide : 15 + 0 ≤ _)⟩)
    dsimp only [Pt.U, Pt.locs, Pt.cells, Pt.slots] at X150 l150 y150 z150 st150 hQ150
    rw [l150, y150, z150] at X150
    replace X150 : Stand p l e _ _ m _ below meth c T150 _ 4 15 := X150
    obtain ⟨rfl, N150q, e150q⟩ := hQ150
    have N150 := Fr.app N149 N150q
    refine Go.via st150 ?_
    show Go p e below _ (T150.setTop (mkF m 73 #[.val (.int p1), .val (.int p2), .val (.int p3), .val (.int p4), .val (.int p5), .val (.int (1 : Int32)), .val (.int off), .val (.ref t141), .val (.ref b142), .unset] [(.int (dbF (2 : Int32) p2 p3)), (.int (2 : Int32)), (.ref b145), (.ref b145)]))
    obtain ⟨cl151, Ar151, q151, S151, N151n, H151, G151⟩ := id V149
    have hin151 := inb_of (j := (2 : Int32)) S151 (by decide)
    obtain ⟨T151, h151, X151, e151, W151, st151⟩ := stB X150 hx hZ e150q Ar151 (j := (2 : Int32)) hin151 (g := (mkF m 73 #[.val (.int p1), .val (.int p2), .val (.int p3), .val (.int p4), .val (.int p5), .val (.int (1 : Int32)), .val (.int off), .val (.ref t141), .val (.ref b142), .unset] [(.int (dbF (2 : Int32) p2 p3)), (.int (2 : Int32)), (.ref b145), (.ref b145)])) rfl rfl (hb hby at_73)
    refine Go.via st151 ?_
    have V151 : Arv Z h151 b145 k145 .byte (8 : Int32) [(.int (nar .byte (dbF (0 : Int32) p2 p3))), (.int (nar .byte (dbF (1 : Int32) p2 p3))), (.int (nar .byte (dbF (2 : Int32) p2 p3))), (.int (0 : Int32)), (.int (0 : Int32)), (.int (0 : Int32)), (.int (0 : Int32)), (.int (0 : Int32))] (.int (0 : Int32)) := Arv.set Ar151 q151 S151 N151n H151 G151 (fits_nar_byte _) W151 2 rfl (Nat.le_of_ble_eq_true rfl)
    have Zs151 : n0 ≤ h151.size := Nat.le_trans Zs149 (Keep.of_wr W151).1
    have O151 : Old Z n0 h151 := O149.wr W151 g_b145
    have N151 := Fr.snoc X151 N150 g_b145
    have fE_t141_151 := fE_t141_149.wr W151
    have fV_t141_151 := fV_t141_149.other W151 ne_t141_b145
    have fE_b142_151 := fE_b142_149.wr W151
    have fF_b142_content_151 := fF_b142_content_149.other W151 (Or.inl ne_b142_b145)
    have fV_ct144_151 := fV_ct144_149.other W151 ne_ct144_b145
    show Go p e below _ (T151.setTop (mkF m 74 #[.val (.int p1), .val (.int p2), .val (.int p3), .val (.int p4), .val (.int p5), .val (.int (1 : Int32)), .val (.int off), .val (.ref t141), .val (.ref b142), .unset] [(.ref b145)]))
    refine Go.via (fun _ => XS.dup X151.here hx rfl (hb hby at_74) rfl rfl) ?_
    show Go p e below _ (T151.setTop (mkF m 75 #[.val (.int p1), .val (.int p2), .val (.int p3), .val (.int p4), .val (.int p5), .val (.int (1 : Int32)), .val (.int off), .val (.ref t141), .val (.ref b142), .unset] [(.ref b145), (.ref b145)]))
    refine Go.via (fun _ => XS.iconst X151.here hx rfl (hb hby at_75)) ?_
    show Go p e below _ (T151.setTop (mkF m 76 #[.val (.int p1), .val (.int p2), .val (.int p3), .val (.int p4), .val (.int p5), .val (.int (1 : Int32)), .val (.int off), .val (.ref t141), .val (.ref b142), .unset] [(.int (3 : Int32)), (.ref b145), (.ref b145)]))
    refine Go.via (fun _ => XS.iconst X151.here hx rfl (hb hby at_76)) ?_
    show Go p e below _ (T151.setTop (mkF m 77 #[.val (.int p1), .val (.int p2), .val (.int p3), .val (.int p4), .val (.int p5), .val (.int (1 : Int32)), .val (.int off), .val (.ref t141), .val (.ref b142), .unset] [(.int (3 : Int32)), (.int (3 : Int32)), (.ref b145), (.ref b145)]))
    refine Go.via (fun _ => XS.iloadN X151.here hx rfl (hb hby at_77) rfl) ?_
    show Go p e below _ (T151.setTop (mkF m 78 #[.val (.int p1), .val (.int p2), .val (.int p3), .val (.int p4), .val (.int p5), .val (.int (1 : Int32)), .val (.int off), .val (.ref t141), .val (.ref b142), .unset] [(.int p2), (.int (3 : Int32)), (.int (3 : Int32)), (.ref b145), (.ref b145)]))
    refine Go.via (fun _ => XS.iloadN X151.here hx rfl (hb hby at_78) rfl) ?_
    show Go p e below _ (T151.setTop (mkF m 79 #[.val (.int p1), .val (.int p2), .val (.int p3), .val (.int p4), .val (.int p5), .val (.int (1 : Int32)), .val (.int off), .val (.ref t141), .val (.ref b142), .unset] [(.int p3), (.int p2), (.int (3 : Int32)), (.int (3 : Int32)), (.ref b145), (.ref b145)]))
    obtain ⟨_, _, ⟨T152, L152, k152, n152⟩, -, X152, ⟨Lc152, hQ152, l152, y152, z152⟩, st152⟩ := Jvm.LawKit.callS X151 hx (y := (⟨"com/example/sluice/sluice/processor/FlowFileCopyContentPinLaw", "db", "(III)B"⟩ : MethodName)) hown (mvT hZ (hw _ (List.mem_of_getElem? (i := 45) rfl))) (mvT hZ (hw _ (List.mem_of_getElem? (i := 46) rfl))) (mvT hZ (hw _ (List.mem_of_getElem? (i := 3) rfl))) (mvT hZ (hw _ (List.mem_of_getElem? (i := 47) rfl))) (by decide) (backOf (W := 3) (rmDb l Z a0 hw [] (3 : Int32) p2 p3 h151 n0 Zs151) hZ (hw _ (List.mem_of_getElem? (i := 47) rfl)) (hw _ (List.mem_of_getElem? (i := 3) rfl)) (by decide) (by decide)) (g := (mkF m 79 #[.val (.int p1), .val (.int p2), .val (.int p3), .val (.int p4), .val (.int p5), .val (.int (1 : Int32)), .val (.int off), .val (.ref t141), .val (.ref b142), .unset] [(.int p3), (.int p2), (.int (3 : Int32)), (.int (3 : Int32)), (.ref b145), (.ref b145)])) rfl (by rw [hml]; rfl) (argsL := [(.int (3 : Int32)), (.int p2), (.int p3)]) (rest := [(.int (3 : Int32)), (.ref b145), (.ref b145)]) (lenOf pd_0 rfl) rfl (by show 2 * 0 + _ ≤ _; exact Nat.le_of_eq rfl) (hb hby at_79) (fun _ _ => ⟨rfl, e151, (by decide : 4 + 0 ≤ _), (by decide : 15 + 0 ≤ _)⟩)
    dsimp only [Pt.U, Pt.locs, Pt.cells, Pt.slots] at X152 l152 y152 z152 st152 hQ152
    rw [l152, y152, z152] at X152
    replace X152 : Stand p l e _ _ m _ below meth c T152 _ 4 15 := X152
    obtain ⟨rfl, N152q, e152q⟩ := hQ152
    have N152 := Fr.app N151 N152q
    refine Go.via st152 ?_
    show Go p e below _ (T152.setTop (mkF m 82 #[.val (.int p1), .val (.int p2), .val (.int p3), .val (.int p4), .val (.int p5), .val (.int (1 : Int32)), .val (.int off), .val (.ref t141), .val (.ref b142), .unset] [(.int (dbF (3 : Int32) p2 p3)), (.int (3 : Int32)), (.ref b145), (.ref b145)]))
    obtain ⟨cl153, Ar153, q153, S153, N153n, H153, G153⟩ := id V151
    have hin153 := inb_of (j := (3 : Int32)) S153 (by decide)
    obtain ⟨T153, h153, X153, e153, W153, st153⟩ := stB X152 hx hZ e152q Ar153 (j := (3 : Int32)) hin153 (g := (mkF m 82 #[.val (.int p1), .val (.int p2), .val (.int p3), .val (.int p4), .val (.int p5), .val (.int (1 : Int32)), .val (.int off), .val (.ref t141), .val (.ref b142), .unset] [(.int (dbF (3 : Int32) p2 p3)), (.int (3 : Int32)), (.ref b145), (.ref b145)])) rfl rfl (hb hby at_82)
    refine Go.via st153 ?_
    have V153 : Arv Z h153 b145 k145 .byte (8 : Int32) [(.int (nar .byte (dbF (0 : Int32) p2 p3))), (.int (nar .byte (dbF (1 : Int32) p2 p3))), (.int (nar .byte (dbF (2 : Int32) p2 p3))), (.int (nar .byte (dbF (3 : Int32) p2 p3))), (.int (0 : Int32)), (.int (0 : Int32)), (.int (0 : Int32)), (.int (0 : Int32))] (.int (0 : Int32)) := Arv.set Ar153 q153 S153 N153n H153 G153 (fits_nar_byte _) W153 3 rfl (Nat.le_of_ble_eq_true rfl)
    have Zs153 : n0 ≤ h153.size := Nat.le_trans Zs151 (Keep.of_wr W153).1
    have O153 : Old Z n0 h153 := O151.wr W153 g_b145
    have N153 := Fr.snoc X153 N152 g_b145
    have fE_t141_153 := fE_t141_151.wr W153
    have fV_t141_153 := fV_t141_151.other W153 ne_t141_b145
    have fE_b142_153 := fE_b142_151.wr W153
    have fF_b142_content_153 := fF_b142_content_151.other W153 (Or.inl ne_b142_b145)
    have fV_ct144_153 := fV_ct144_151.other W153 ne_ct144_b145
    show Go p e below _ (T153.setTop (mkF m 83 #[.val (.int p1), .val (.int p2), .val (.int p3), .val (.int p4), .val (.int p5), .val (.int (1 : Int32)), .val (.int off), .val (.ref t141), .val (.ref b142), .unset] [(.ref b145)]))
    refine Go.via (fun _ => XS.dup X153.here hx rfl (hb hby at_83) rfl rfl) ?_
    show Go p e below _ (T153.setTop (mkF m 84 #[.val (.int p1), .val (.int p2), .val (.int p3), .val (.int p4), .val (.int p5), .val (.int (1 : Int32)), .val (.int off), .val (.ref t141), .val (.ref b142), .unset] [(.ref b145), (.ref b145)]))
    refine Go.via (fun _ => XS.iconst X153.here hx rfl (hb hby at_84)) ?_
    show Go p e below _ (T153.setTop (mkF m 85 #[.val (.int p1), .val (.int p2), .val (.int p3), .val (.int p4), .val (.int p5), .val (.int (1 : Int32)), .val (.int off), .val (.ref t141), .val (.ref b142), .unset] [(.int (4 : Int32)), (.ref b145), (.ref b145)]))
    refine Go.via (fun _ => XS.iconst X153.here hx rfl (hb hby at_85)) ?_
    show Go p e below _ (T153.setTop (mkF m 86 #[.val (.int p1), .val (.int p2), .val (.int p3), .val (.int p4), .val (.int p5), .val (.int (1 : Int32)), .val (.int off), .val (.ref t141), .val (.ref b142), .unset] [(.int (4 : Int32)), (.int (4 : Int32)), (.ref b145), (.ref b145)]))
    refine Go.via (fun _ => XS.iloadN X153.here hx rfl (hb hby at_86) rfl) ?_
    show Go p e below _ (T153.setTop (mkF m 87 #[.val (.int p1), .val (.int p2), .val (.int p3), .val (.int p4), .val (.int p5), .val (.int (1 : Int32)), .val (.int off), .val (.ref t141), .val (.ref b142), .unset] [(.int p2), (.int (4 : Int32)), (.int (4 : Int32)), (.ref b145), (.ref b145)]))
    refine Go.via (fun _ => XS.iloadN X153.here hx rfl (hb hby at_87) rfl) ?_
    show Go p e below _ (T153.setTop (mkF m 88 #[.val (.int p1), .val (.int p2), .val (.int p3), .val (.int p4), .val (.int p5), .val (.int (1 : Int32)), .val (.int off), .val (.ref t141), .val (.ref b142), .unset] [(.int p3), (.int p2), (.int (4 : Int32)), (.int (4 : Int32)), (.ref b145), (.ref b145)]))
    obtain ⟨_, _, ⟨T154, L154, k154, n154⟩, -, X154, ⟨Lc154, hQ154, l154, y154, z154⟩, st154⟩ := Jvm.LawKit.callS X153 hx (y := (⟨"com/example/sluice/sluice/processor/FlowFileCopyContentPinLaw", "db", "(III)B"⟩ : MethodName)) hown (mvT hZ (hw _ (List.mem_of_getElem? (i := 45) rfl))) (mvT hZ (hw _ (List.mem_of_getElem? (i := 46) rfl))) (mvT hZ (hw _ (List.mem_of_getElem? (i := 3) rfl))) (mvT hZ (hw _ (List.mem_of_getElem? (i := 47) rfl))) (by decide) (backOf (W := 3) (rmDb l Z a0 hw [] (4 : Int32) p2 p3 h153 n0 Zs153) hZ (hw _ (List.mem_of_getElem? (i := 47) rfl)) (hw _ (List.mem_of_getElem? (i := 3) rfl)) (by decide) (by decide)) (g := (mkF m 88 #[.val (.int p1), .val (.int p2), .val (.int p3), .val (.int p4), .val (.int p5), .val (.int (1 : Int32)), .val (.int off), .val (.ref t141), .val (.ref b142), .unset] [(.int p3), (.int p2), (.int (4 : Int32)), (.int (4 : Int32)), (.ref b145), (.ref b145)])) rfl (by rw [hml]; rfl) (argsL := [(.int (4 : Int32)), (.int p2), (.int p3)]) (rest := [(.int (4 : Int32)), (.ref b145), (.ref b145)]) (lenOf pd_0 rfl) rfl (by show 2 * 0 + _ ≤ _; exact Nat.le_of_eq rfl) (hb hby at_88) (fun _ _ => ⟨rfl, e153, (by decide : 4 + 0 ≤ _), (by decide : 15 + 0 ≤ _)⟩)
    dsimp only [Pt.U, Pt.locs, Pt.cells, Pt.slots] at X154 l154 y154 z154 st154 hQ154
    rw [l154, y154, z154] at X154
    replace X154 : Stand p l e _ _ m _ below meth c T154 _ 4 15 := X154
    obtain ⟨rfl, N154q, e154q⟩ := hQ154
    have N154 := Fr.app N153 N154q
    refine Go.via st154 ?_
    show Go p e below _ (T154.setTop (mkF m 91 #[.val (.int p1), .val (.int p2), .val (.int p3), .val (.int p4), .val (.int p5), .val (.int (1 : Int32)), .val (.int off), .val (.ref t141), .val (.ref b142), .unset] [(.int (dbF (4 : Int32) p2 p3)), (.int (4 : Int32)), (.ref b145), (.ref b145)]))
    obtain ⟨cl155, Ar155, q155, S155, N155n, H155, G155⟩ := id V153
    have hin155 := inb_of (j := (4 : Int32)) S155 (by decide)
    obtain ⟨T155, h155, X155, e155, W155, st155⟩ := stB X154 hx hZ e154q Ar155 (j := (4 : Int32)) hin155 (g := (mkF m 91 #[.val (.int p1), .val (.int p2), .val (.int p3), .val (.int p4), .val (.int p5), .val (.int (1 : Int32)), .val (.int off), .val (.ref t141), .val (.ref b142), .unset] [(.int (dbF (4 : Int32) p2 p3)), (.int (4 : Int32)), (.ref b145), (.ref b145)])) rfl rfl (hb hby at_91)
    refine Go.via st155 ?_
    have V155 : Arv Z h155 b145 k145 .byte (8 : Int32) [(.int (nar .byte (dbF (0 : Int32) p2 p3))), (.int (nar .byte (dbF (1 : Int32) p2 p3))), (.int (nar .byte (dbF (2 : Int32) p2 p3))), (.int (nar .byte (dbF (3 : Int32) p2 p3))), (.int (nar .byte (dbF (4 : Int32) p2 p3))), (.int (0 : Int32)), (.int (0 : Int32)), (.int (0 : Int32))] (.int (0 : Int32)) := Arv.set Ar155 q155 S155 N155n H155 G155 (fits_nar_byte _) W155 4 rfl (Nat.le_of_ble_eq_true rfl)
    have Zs155 : n0 ≤ h155.size := Nat.le_trans Zs153 (Keep.of_wr W155).1
    have O155 : Old Z n0 h155 := O153.wr W155 g_b145
    have N155 := Fr.snoc X155 N154 g_b145
    have fE_t141_155 := fE_t141_153.wr W155
    have fV_t141_155 := fV_t141_153.other W155 ne_t141_b145
    have fE_b142_155 := fE_b142_153.wr W155
    have fF_b142_content_155 := fF_b142_content_153.other W155 (Or.inl ne_b142_b145)
    have fV_ct144_155 := fV_ct144_153.other W155 ne_ct144_b145
    show Go p e below _ (T155.setTop (mkF m 92 #[.val (.int p1), .val (.int p2), .val (.int p3), .val (.int p4), .val (.int p5), .val (.int (1 : Int32)), .val (.int off), .val (.ref t141), .val (.ref b142), .unset] [(.ref b145)]))
    refine Go.via (fun _ => XS.dup X155.here hx rfl (hb hby at_92) rfl rfl) ?_
    show Go p e below _ (T155.setTop (mkF m 93 #[.val (.int p1), .val (.int p2), .val (.int p3), .val (.int p4), .val (.int p5), .val (.int (1 : Int32)), .val (.int off), .val (.ref t141), .val (.ref b142), .unset] [(.ref b145), (.ref b145)]))
    refine Go.via (fun _ => XS.iconst X155.here hx rfl (hb hby at_93)) ?_
    show Go p e below _ (T155.setTop (mkF m 94 #[.val (.int p1), .val (.int p2), .val (.int p3), .val (.int p4), .val (.int p5), .val (.int (1 : Int32)), .val (.int off), .val (.ref t141), .val (.ref b142), .unset] [(.int (5 : Int32)), (.ref b145), (.ref b145)]))
    refine Go.via (fun _ => XS.iconst X155.here hx rfl (hb hby at_94)) ?_
    show Go p e below _ (T155.setTop (mkF m 95 #[.val (.int p1), .val (.int p2), .val (.int p3), .val (.int p4), .val (.int p5), .val (.int (1 : Int32)), .val (.int off), .val (.ref t141), .val (.ref b142), .unset] [(.int (5 : Int32)), (.int (5 : Int32)), (.ref b145), (.ref b145)]))
    refine Go.via (fun _ => XS.iloadN X155.here hx rfl (hb hby at_95) rfl) ?_
    show Go p e below _ (T155.setTop (mkF m 96 #[.val (.int p1), .val (.int p2), .val (.int p3), .val (.int p4), .val (.int p5), .val (.int (1 : Int32)), .val (.int off), .val (.ref t141), .val (.ref b142), .unset] [(.int p2), (.int (5 : Int32)), (.int (5 : Int32)), (.ref b145), (.ref b145)]))
    refine Go.via (fun _ => XS.iloadN X155.here hx rfl (hb hby at_96) rfl) ?_
    show Go p e below _ (T155.setTop (mkF m 97 #[.val (.int p1), .val (.int p2), .val (.int p3), .val (.int p4), .val (.int p5), .val (.int (1 : Int32)), .val (.int off), .val (.ref t141), .val (.ref b142), .unset] [(.int p3), (.int p2), (.int (5 : Int32)), (.int (5 : Int32)), (.ref b145), (.ref b145)]))
    obtain ⟨_, _, ⟨T156, L156, k156, n156⟩, -, X156, ⟨Lc156, hQ156, l156, y156, z156⟩, st156⟩ := Jvm.LawKit.callS X155 hx (y := (⟨"com/example/sluice/sluice/processor/FlowFileCopyContentPinLaw", "db", "(III)B"⟩ : MethodName)) hown (mvT hZ (hw _ (List.mem_of_getElem? (i := 45) rfl))) (mvT hZ (hw _ (List.mem_of_getElem? (i := 46) rfl))) (mvT hZ (hw _ (List.mem_of_getElem? (i := 3) rfl))) (mvT hZ (hw _ (List.mem_of_getElem? (i := 47) rfl))) (by decide) (backOf (W := 3) (rmDb l Z a0 hw [] (5 : Int32) p2 p3 h155 n0 Zs155) hZ (hw _ (List.mem_of_getElem? (i := 47) rfl)) (hw _ (List.mem_of_getElem? (i := 3) rfl)) (by decide) (by decide)) (g := (mkF m 97 #[.val (.int p1), .val (.int p2), .val (.int p3), .val (.int p4), .val (.int p5), .val (.int (1 : Int32)), .val (.int off), .val (.ref t141), .val (.ref b142), .unset] [(.int p3), (.int p2), (.int (5 : Int32)), (.int (5 : Int32)), (.ref b145), (.ref b145)])) rfl (by rw [hml]; rfl) (argsL := [(.int (5 : Int32)), (.int p2), (.int p3)]) (rest := [(.int (5 : Int32)), (.ref b145), (.ref b145)]) (lenOf pd_0 rfl) rfl (by show 2 * 0 + _ ≤ _; exact Nat.le_of_eq rfl) (hb hby at_97) (fun _ _ => ⟨rfl, e155, (by decide : 4 + 0 ≤ _), (by decide : 15 + 0 ≤ _)⟩)
    dsimp only [Pt.U, Pt.locs, Pt.cells, Pt.slots] at X156 l156 y156 z156 st156 hQ156
    rw [l156, y156, z156] at X156
    replace X156 : Stand p l e _ _ m _ below meth c T156 _ 4 15 := X156
    obtain ⟨rfl, N156q, e156q⟩ := hQ156
    have N156 := Fr.app N155 N156q
    refine Go.via st156 ?_
    show Go p e below _ (T156.setTop (mkF m 100 #[.val (.int p1), .val (.int p2), .val (.int p3), .val (.int p4), .val (.int p5), .val (.int (1 : Int32)), .val (.int off), .val (.ref t141), .val (.ref b142), .unset] [(.int (dbF (5 : Int32) p2 p3)), (.int (5 : Int32)), (.ref b145), (.ref b145)]))
    obtain ⟨cl157, Ar157, q157, S157, N157n, H157, G157⟩ := id V155
    have hin157 := inb_of (j := (5 : Int32)) S157 (by decide)
    obtain ⟨T157, h157, X157, e157, W157, st157⟩ := stB X156 hx hZ e156q Ar157 (j := (5 : Int32)) hin157 (g := (mkF m 100 #[.val (.int p1), .val (.int p2), .val (.int p3), .val (.int p4), .val (.int p5), .val (.int (1 : Int32)), .val (.int off), .val (.ref t141), .val (.ref b142), .unset] [(.int (dbF (5 : Int32) p2 p3)), (.int (5 : Int32)), (.ref b145), (.ref b145)])) rfl rfl (hb hby at_100)
    refine Go.via st157 ?_
    have V157 : Arv Z h157 b145 k145 .byte (8 : Int32) [(.int (nar .byte (dbF (0 : Int32) p2 p3))), (.int (nar .byte (dbF (1 : Int32) p2 p3))), (.int (nar .byte (dbF (2 : Int32) p2 p3))), (.int (nar .byte (dbF (3 : Int32) p2 p3))), (.int (nar .byte (dbF (4 : Int32) p2 p3))), (.int (nar .byte (dbF (5 : Int32) p2 p3))), (.int (0 : Int32)), (.int (0 : Int32))] (.int (0 : Int32)) := Arv.set Ar157 q157 S157 N157n H157 G157 (fits_nar_byte _) W157 5 rfl (Nat.le_of_ble_eq_true rfl)
    have Zs157 : n0 ≤ h157.size := Nat.le_trans Zs155 (Keep.of_wr W157).1
    have O157 : Old Z n0 h157 := O155.wr W157 g_b145
    have N157 := Fr.snoc X157 N156 g_b145
    have fE_t141_157 := fE_t141_155.wr W157
    have fV_t141_157 := fV_t141_155.other W157 ne_t141_b145
    have fE_b142_157 := fE_b142_155.wr W157
    have fF_b142_content_157 := fF_b142_content_155.other W157 (Or.inl ne_b142_b145)
    have fV_ct144_157 := fV_ct144_155.other W157 ne_ct144_b145
    show Go p e below _ (T157.setTop (mkF m 101 #[.val (.int p1), .val (.int p2), .val (.int p3), .val (.int p4), .val (.int p5), .val (.int (1 : Int32)), .val (.int off), .val (.ref t141), .val (.ref b142), .unset] [(.ref b145)]))
    refine Go.via (fun _ => XS.dup X157.here hx rfl (hb hby at_101) rfl rfl) ?_
    show Go p e below _ (T157.setTop (mkF m 102 #[.val (.int p1), .val (.int p2), .val (.int p3), .val (.int p4), .val (.int p5), .val (.int (1 : Int32)), .val (.int off), .val (.ref t141), .val (.ref b142), .unset] [(.ref b145), (.ref b145)]))
    refine Go.via (fun _ => XS.bipush X157.here hx rfl (hb hby at_102)) ?_
    show Go p e below _ (T157.setTop (mkF m 104 #[.val (.int p1), .val (.int p2), .val (.int p3), .val (.int p4), .val (.int p5), .val (.int (1 : Int32)), .val (.int off), .val (.ref t141), .val (.ref b142), .unset] [(.int (6 : Int32)), (.ref b145), (.ref b145)]))
    refine Go.via (fun _ => XS.bipush X157.here hx rfl (hb hby at_104)) ?_
    show Go p e below _ (T157.setTop (mkF m 106 #[.val (.int p1), .val (.int p2), .val (.int p3), .val (.int p4), .val (.int p5), .val (.int (1 : Int32)), .val (.int off), .val (.ref t141), .val (.ref b142), .unset] [(.int (6 : Int32)), (.int (6 : Int32)), (.ref b145), (.ref b145)]))
    refine Go.via (fun _ => XS.iloadN X157.here hx rfl (hb hby at_106) rfl) ?_
    show Go p e below _ (T157.setTop (mkF m 107 #[.val (.int p1), .val (.int p2), .val (.int p3), .val (.int p4), .val (.int p5), .val (.int (1 : Int32)), .val (.int off), .val (.ref t141), .val (.ref b142), .unset] [(.int p2), (.int (6 : Int32)), (.int (6 : Int32)), (.ref b145), (.ref b145)]))
    refine Go.via (fun _ => XS.iloadN X157.here hx rfl (hb hby at_107) rfl) ?_
    show Go p e below _ (T157.setTop (mkF m 108 #[.val (.int p1), .val (.int p2), .val (.int p3), .val (.int p4), .val (.int p5), .val (.int (1 : Int32)), .val (.int off), .val (.ref t141), .val (.ref b142), .unset] [(.int p3), (.int p2), (.int (6 : Int32)), (.int (6 : Int32)), (.ref b145), (.ref b145)]))
    obtain ⟨_, _, ⟨T158, L158, k158, n158⟩, -, X158, ⟨Lc158, hQ158, l158, y158, z158⟩, st158⟩ := Jvm.LawKit.callS X157 hx (y := (⟨"com/example/sluice/sluice/processor/FlowFileCopyContentPinLaw", "db", "(III)B"⟩ : MethodName)) hown (mvT hZ (hw _ (List.mem_of_getElem? (i := 45) rfl))) (mvT hZ (hw _ (List.mem_of_getElem? (i := 46) rfl))) (mvT hZ (hw _ (List.mem_of_getElem? (i := 3) rfl))) (mvT hZ (hw _ (List.mem_of_getElem? (i := 47) rfl))) (by decide) (backOf (W := 3) (rmDb l Z a0 hw [] (6 : Int32) p2 p3 h157 n0 Zs157) hZ (hw _ (List.mem_of_getElem? (i := 47) rfl)) (hw _ (List.mem_of_getElem? (i := 3) rfl)) (by decide) (by decide)) (g := (mkF m 108 #[.val (.int p1), .val (.int p2), .val (.int p3), .val (.int p4), .val (.int p5), .val (.int (1 : Int32)), .val (.int off), .val (.ref t141), .val (.ref b142), .unset] [(.int p3), (.int p2), (.int (6 : Int32)), (.int (6 : Int32)), (.ref b145), (.ref b145)])) rfl (by rw [hml]; rfl) (argsL := [(.int (6 : Int32)), (.int p2), (.int p3)]) (rest := [(.int (6 : Int32)), (.ref b145), (.ref b145)]) (lenOf pd_0 rfl) rfl (by show 2 * 0 + _ ≤ _; exact Nat.le_of_eq rfl) (hb hby at_108) (fun _ _ => ⟨rfl, e157, (by decide : 4 + 0 ≤ _), (by decide : 15 + 0 ≤ _)⟩)
    dsimp only [Pt.U, Pt.locs, Pt.cells, Pt.slots] at X158 l158 y158 z158 st158 hQ158
    rw [l158, y158, z158] at X158
    replace X158 : Stand p l e _ _ m _ below meth c T158 _ 4 15 := X158
    obtain ⟨rfl, N158q, e158q⟩ := hQ158
    have N158 := Fr.app N157 N158q
    refine Go.via st158 ?_
    show Go p e below _ (T158.setTop (mkF m 111 #[.val (.int p1), .val (.int p2), .val (.int p3), .val (.int p4), .val (.int p5), .val (.int (1 : Int32)), .val (.int off), .val (.ref t141), .val (.ref b142), .unset] [(.int (dbF (6 : Int32) p2 p3)), (.int (6 : Int32)), (.ref b145), (.ref b145)]))
    obtain ⟨cl159, Ar159, q159, S159, N159n, H159, G159⟩ := id V157
    have hin159 := inb_of (j := (6 : Int32)) S159 (by decide)
    obtain ⟨T159, h159, X159, e159, W159, st159⟩ := stB X158 hx hZ e158q Ar159 (j := (6 : Int32)) hin159 (g := (mkF m 111 #[.val (.int p1), .val (.int p2), .val (.int p3), .val (.int p4), .val (.int p5), .val (.int (1 : Int32)), .val (.int off), .val (.ref t141), .val (.ref b142), .unset] [(.int (dbF (6 : Int32) p2 p3)), (.int (6 : Int32)), (.ref b145), (.ref b145)])) rfl rfl (hb hby at_111)
    refine Go.via st159 ?_
    have V159 : Arv Z h159 b145 k145 .byte (8 : Int32) [(.int (nar .byte (dbF (0 : Int32) p2 p3))), (.int (nar .byte (dbF (1 : Int32) p2 p3))), (.int (nar .byte (dbF (2 : Int32) p2 p3))), (.int (nar .byte (dbF (3 : Int32) p2 p3))), (.int (nar .byte (dbF (4 : Int32) p2 p3))), (.int (nar .byte (dbF (5 : Int32) p2 p3))), (.int (nar .byte (dbF (6 : Int32) p2 p3))), (.int (0 : Int32))] (.int (0 : Int32)) := Arv.set Ar159 q159 S159 N159n H159 G159 (fits_nar_byte _) W159 6 rfl (Nat.le_of_ble_eq_true rfl)
    have Zs159 : n0 ≤ h159.size := Nat.le_trans Zs157 (Keep.of_wr W159).1
    have O159 : Old Z n0 h159 := O157.wr W159 g_b145
    have N159 := Fr.snoc X159 N158 g_b145
    have fE_t141_159 := fE_t141_157.wr W159
    have fV_t141_159 := fV_t141_157.other W159 ne_t141_b145
    have fE_b142_159 := fE_b142_157.wr W159
    have fF_b142_content_159 := fF_b142_content_157.other W159 (Or.inl ne_b142_b145)
    have fV_ct144_159 := fV_ct144_157.other W159 ne_ct144_b145
    show Go p e below _ (T159.setTop (mkF m 112 #[.val (.int p1), .val (.int p2), .val (.int p3), .val (.int p4), .val (.int p5), .val (.int (1 : Int32)), .val (.int off), .val (.ref t141), .val (.ref b142), .unset] [(.ref b145)]))
    refine Go.via (fun _ => XS.dup X159.here hx rfl (hb hby at_112) rfl rfl) ?_
    show Go p e below _ (T159.setTop (mkF m 113 #[.val (.int p1), .val (.int p2), .val (.int p3), .val (.int p4), .val (.int p5), .val (.int (1 : Int32)), .val (.int off), .val (.ref t141), .val (.ref b142), .unset] [(.ref b145), (.ref b145)]))
    refine Go.via (fun _ => XS.bipush X159.here hx rfl (hb hby at_113)) ?_
    show Go p e below _ (T159.setTop (mkF m 115 #[.val (.int p1), .val (.int p2), .val (.int p3), .val (.int p4), .val (.int p5), .val (.int (1 : Int32)), .val (.int off), .val (.ref t141), .val (.ref b142), .unset] [(.int (7 : Int32)), (.ref b145), (.ref b145)]))
    refine Go.via (fun _ => XS.bipush X159.here hx rfl (hb hby at_115)) ?_
    show Go p e below _ (T159.setTop (mkF m 117 #[.val (.int p1), .val (.int p2), .val (.int p3), .val (.int p4), .val (.int p5), .val (.int (1 : Int32)), .val (.int off), .val (.ref t141), .val (.ref b142), .unset] [(.int (7 : Int32)), (.int (7 : Int32)), (.ref b145), (.ref b145)]))
    refine Go.via (fun _ => XS.iloadN X159.here hx rfl (hb hby at_117) rfl) ?_
    show Go p e below _ (T159.setTop (mkF m 118 #[.val (.int p1), .val (.int p2), .val (.int p3), .val (.int p4), .val (.int p5), .val (.int (1 : Int32)), .val (.int off), .val (.ref t141), .val (.ref b142), .unset] [(.int p2), (.int (7 : Int32)), (.int (7 : Int32)), (.ref b145), (.ref b145)]))
    refine Go.via (fun _ => XS.iloadN X159.here hx rfl (hb hby at_118) rfl) ?_
    show Go p e below _ (T159.setTop (mkF m 119 #[.val (.int p1), .val (.int p2), .val (.int p3), .val (.int p4), .val (.int p5), .val (.int (1 : Int32)), .val (.int off), .val (.ref t141), .val (.ref b142), .unset] [(.int p3), (.int p2), (.int (7 : Int32)), (.int (7 : Int32)), (.ref b145), (.ref b145)]))
    obtain ⟨_, _, ⟨T160, L160, k160, n160⟩, -, X160, ⟨Lc160, hQ160, l160, y160, z160⟩, st160⟩ := Jvm.LawKit.callS X159 hx (y := (⟨"com/example/sluice/sluice/processor/FlowFileCopyContentPinLaw", "db", "(III)B"⟩ : MethodName)) hown (mvT hZ (hw _ (List.mem_of_getElem? (i := 45) rfl))) (mvT hZ (hw _ (List.mem_of_getElem? (i := 46) rfl))) (mvT hZ (hw _ (List.mem_of_getElem? (i := 3) rfl))) (mvT hZ (hw _ (List.mem_of_getElem? (i := 47) rfl))) (by decide) (backOf (W := 3) (rmDb l Z a0 hw [] (7 : Int32) p2 p3 h159 n0 Zs159) hZ (hw _ (List.mem_of_getElem? (i := 47) rfl)) (hw _ (List.mem_of_getElem? (i := 3) rfl)) (by decide) (by decide)) (g := (mkF m 119 #[.val (.int p1), .val (.int p2), .val (.int p3), .val (.int p4), .val (.int p5), .val (.int (1 : Int32)), .val (.int off), .val (.ref t141), .val (.ref b142), .unset] [(.int p3), (.int p2), (.int (7 : Int32)), (.int (7 : Int32)), (.ref b145), (.ref b145)])) rfl (by rw [hml]; rfl) (argsL := [(.int (7 : Int32)), (.int p2), (.int p3)]) (rest := [(.int (7 : Int32)), (.ref b145), (.ref b145)]) (lenOf pd_0 rfl) rfl (by show 2 * 0 + _ ≤ _; exact Nat.le_of_eq rfl) (hb hby at_119) (fun _ _ => ⟨rfl, e159, (by decide : 4 + 0 ≤ _), (by decide : 15 + 0 ≤ _)⟩)
    dsimp only [Pt.U, Pt.locs, Pt.cells, Pt.slots] at X160 l160 y160 z160 st160 hQ160
    rw [l160, y160, z160] at X160
    replace X160 : Stand p l e _ _ m _ below meth c T160 _ 4 15 := X160
    obtain ⟨rfl, N160q, e160q⟩ := hQ160
    have N160 := Fr.app N159 N160q
    refine Go.via st160 ?_
    show Go p e below _ (T160.setTop (mkF m 122 #[.val (.int p1), .val (.int p2), .val (.int p3), .val (.int p4), .val (.int p5), .val (.int (1 : Int32)), .val (.int off), .val (.ref t141), .val (.ref b142), .unset] [(.int (dbF (7 : Int32) p2 p3)), (.int (7 : Int32)), (.ref b145), (.ref b145)]))
    obtain ⟨cl161, Ar161, q161, S161, N161n, H161, G161⟩ := id V159
    have hin161 := inb_of (j := (7 : Int32)) S161 (by decide)
    obtain ⟨T161, h161, X161, e161, W161, st161⟩ := stB X160 hx hZ e160q Ar161 (j := (7 : Int32)) hin161 (g := (mkF m 122 #[.val (.int p1), .val (.int p2), .val (.int p3), .val (.int p4), .val (.int p5), .val (.int (1 : Int32)), .val (.int off), .val (.ref t141), .val (.ref b142), .unset] [(.int (dbF (7 : Int32) p2 p3)), (.int (7 : Int32)), (.ref b145), (.ref b145)])) rfl rfl (hb hby at_122)
    refine Go.via st161 ?_
    have V161 : Arv Z h161 b145 k145 .byte (8 : Int32) [(.int (nar .byte (dbF (0 : Int32) p2 p3))), (.int (nar .byte (dbF (1 : Int32) p2 p3))), (.int (nar .byte (dbF (2 : Int32) p2 p3))), (.int (nar .byte (dbF (3 : Int32) p2 p3))), (.int (nar .byte (dbF (4 : Int32) p2 p3))), (.int (nar .byte (dbF (5 : Int32) p2 p3))), (.int (nar .byte (dbF (6 : Int32) p2 p3))), (.int (nar .byte (dbF (7 : Int32) p2 p3)))] (.int (0 : Int32)) := Arv.set Ar161 q161 S161 N161n H161 G161 (fits_nar_byte _) W161 7 rfl (Nat.le_of_ble_eq_true rfl)
    have Zs161 : n0 ≤ h161.size := Nat.le_trans Zs159 (Keep.of_wr W161).1
    have O161 : Old Z n0 h161 := O159.wr W161 g_b145
    have N161 := Fr.snoc X161 N160 g_b145
    have fE_t141_161 := fE_t141_159.wr W161
    have fV_t141_161 := fV_t141_159.other W161 ne_t141_b145
    have fE_b142_161 := fE_b142_159.wr W161
    have fF_b142_content_161 := fF_b142_content_159.other W161 (Or.inl ne_b142_b145)
    have fV_ct144_161 := fV_ct144_159.other W161 ne_ct144_b145
    show Go p e below _ (T161.setTop (mkF m 123 #[.val (.int p1), .val (.int p2), .val (.int p3), .val (.int p4), .val (.int p5), .val (.int (1 : Int32)), .val (.int off), .val (.ref t141), .val (.ref b142), .unset] [(.ref b145)]))
    refine Go.via (fun _ => XS.astore X161.here hx rfl (hb hby at_123) rfl rfl (l' := #[.val (.int p1), .val (.int p2), .val (.int p3), .val (.int p4), .val (.int p5), .val (.int (1 : Int32)), .val (.int off), .val (.ref t141), .val (.ref b142), .val (.ref b145)]) rfl) ?_
    show Go p e below _ (T161.setTop (mkF m 125 #[.val (.int p1), .val (.int p2), .val (.int p3), .val (.int p4), .val (.int p5), .val (.int (1 : Int32)), .val (.int off), .val (.ref t141), .val (.ref b142), .val (.ref b145)] []))
    refine Go.via (fun _ => XS.aload X161.here hx rfl (hb hby at_125) rfl rfl) ?_
    show Go p e below _ (T161.setTop (mkF m 127 #[.val (.int p1), .val (.int p2), .val (.int p3), .val (.int p4), .val (.int p5), .val (.int (1 : Int32)), .val (.int off), .val (.ref t141), .val (.ref b142), .val (.ref b145)] [(.ref b142)]))
    refine Go.via (fun _ => XS.aload X161.here hx rfl (hb hby at_127) rfl rfl) ?_
    show Go p e below _ (T161.setTop (mkF m 129 #[.val (.int p1), .val (.int p2), .val (.int p3), .val (.int p4), .val (.int p5), .val (.int (1 : Int32)), .val (.int off), .val (.ref t141), .val (.ref b142), .val (.ref b145)] [(.ref b145), (.ref b142)]))
    refine Go.via (fun _ => XS.iload X161.here hx rfl (hb hby at_129) rfl) ?_
    show Go p e below _ (T161.setTop (mkF m 131 #[.val (.int p1), .val (.int p2), .val (.int p3), .val (.int p4), .val (.int p5), .val (.int (1 : Int32)), .val (.int off), .val (.ref t141), .val (.ref b142), .val (.ref b145)] [(.int off), (.ref b145), (.ref b142)]))
    obtain ⟨cq162, kq162, q162a, q162b, q162c⟩ := isOf hZ e161 fE_b142_161
    obtain ⟨_, _, ⟨T162, L162, k162, n162⟩, -, X162, ⟨Lc162, hQ162, l162, y162, z162⟩, st162⟩ := X161.virtualBack hx (y := (⟨"com/example/sluice/sluice/processor/FlowFile", "copyContent", "([BI)V"⟩ : MethodName)) (z := (⟨"com/example/sluice/sluice/processor/FlowFile", "copyContent", "([BI)V"⟩ : MethodName)) hown (mvT hZ (hw _ (List.mem_of_getElem? (i := 48) rfl))) (mvT hZ (hw _ (List.mem_of_getElem? (i := 49) rfl))) (notFace_of_selects (args := #[]) (mvT hZ (hw _ (List.mem_of_getElem? (i := 51) rfl)))) (mvT hZ (hw _ (List.mem_of_getElem? (i := 51) rfl))) (mvT hZ (hw _ (List.mem_of_getElem? (i := 50) rfl))) (by decide) (backOf (W := 0) (rmCC l Z a0 hw [] b142 ct144 kb141 (1 : Int32) _ b145 k145 _ off h161 n0 Zs161 fF_b142_content_161 fV_ct144_161 V161 g_b145 (own_neg1 hoff) (by decide) (own_le1 hoff) rfl) hZ (hw _ (List.mem_of_getElem? (i := 52) rfl)) (hw _ (List.mem_of_getElem? (i := 11) rfl)) (by decide) (by decide)) q162a q162c (g := (mkF m 131 #[.val (.int p1), .val (.int p2), .val (.int p3), .val (.int p4), .val (.int p5), .val (.int (1 : Int32)), .val (.int off), .val (.ref t141), .val (.ref b142), .val (.ref b145)] [(.int off), (.ref b145), (.ref b142)])) rfl (by rw [hml]; rfl) (Steps.refl _) (argsL := [(.ref b145), (.int off)]) (rest := []) (lenOf pd_7 rfl) rfl (by show 2 * 0 + _ ≤ _; exact Nat.le_of_eq rfl) (hb hby at_131) (fun _ _ => ⟨rfl, e161, (by decide : 4 + 0 ≤ _), (by decide : 15 + 0 ≤ _)⟩)
    dsimp only [Pt.U, Pt.locs, Pt.cells, Pt.slots] at X162 l162 y162 z162 st162 hQ162
    rw [l162, y162, z162] at X162
    replace X162 : Stand p l e _ _ m _ below meth c T162 _ 4 15 := X162
    obtain ⟨rfl, N162q, K162q, vb162⟩ := hQ162
    have N162 := Fr.app N161 N162q
    refine Go.tr st162 ?_
    have Zs162 : n0 ≤ T162.heap.size := Nat.le_trans Zs161 K162q.1
    have O162 : Old Z n0 T162.heap := O161.keep K162q (allS g_b145 all0)
    have fE_t141_162 := fE_t141_161.keep K162q
    have fV_t141_162 := fV_t141_161.keep K162q (ninS ne_t141_b145 nin0)
    have fE_b142_162 := fE_b142_161.keep K162q
    have fF_b142_content_162 := fF_b142_content_161.keep K162q (ninS ne_b142_b145 nin0)
    have fV_ct144_162 := fV_ct144_161.keep K162q (ninS ne_ct144_b145 nin0)
    rw [own_mix1 p1 p2 p3 off hoff] at vb162
    show Go p e below _ (T162.setTop (mkF m 134 #[.val (.int p1), .val (.int p2), .val (.int p3), .val (.int p4), .val (.int p5), .val (.int (1 : Int32)), .val (.int off), .val (.ref t141), .val (.ref b142), .val (.ref b145)] []))
    refine Go.via (fun _ => XS.aload X162.here hx rfl (hb hby at_134) rfl rfl) ?_
    show Go p e below _ (T162.setTop (mkF m 136 #[.val (.int p1), .val (.int p2), .val (.int p3), .val (.int p4), .val (.int p5), .val (.int (1 : Int32)), .val (.int off), .val (.ref t141), .val (.ref b142), .val (.ref b145)] [(.ref b142)]))
    obtain ⟨cq163, kq163, q163a, q163b, q163c⟩ := isOf hZ rfl fE_b142_162
    obtain ⟨_, _, ⟨T163, L163, k163, n163⟩, -, X163, ⟨Lc163, hQ163, l163, y163, z163⟩, st163⟩ := X162.virtualBack hx (y := (⟨"com/example/sluice/sluice/processor/FlowFile", "size", "()I"⟩ : MethodName)) (z := (⟨"com/example/sluice/sluice/processor/FlowFile", "size", "()I"⟩ : MethodName)) hown (mvT hZ (hw _ (List.mem_of_getElem? (i := 57) rfl))) (mvT hZ (hw _ (List.mem_of_getElem? (i := 58) rfl))) (notFace_of_selects (args := #[]) (mvT hZ (hw _ (List.mem_of_getElem? (i := 60) rfl)))) (mvT hZ (hw _ (List.mem_of_getElem? (i := 60) rfl))) (mvT hZ (hw _ (List.mem_of_getElem? (i := 59) rfl))) (by decide) (backOf (W := 0) (rmSz l Z a0 hw [] b142 ct144 kb141 (1 : Int32) _ T162.heap n0 Zs162 fF_b142_content_162 fV_ct144_162) hZ (hw _ (List.mem_of_getElem? (i := 61) rfl)) (hw _ (List.mem_of_getElem? (i := 11) rfl)) (by decide) (by decide)) q163a q163c (g := (mkF m 136 #[.val (.int p1), .val (.int p2), .val (.int p3), .val (.int p4), .val (.int p5), .val (.int (1 : Int32)), .val (.int off), .val (.ref t141), .val (.ref b142), .val (.ref b145)] [(.ref b142)])) rfl (by rw [hml]; rfl) (Steps.refl _) (argsL := []) (rest := []) (lenOf pd_8 rfl) rfl (by show 2 * 0 + _ ≤ _; exact Nat.le_of_eq rfl) (hb hby at_136) (fun _ _ => ⟨rfl, rfl, (by decide : 4 + 0 ≤ _), (by decide : 15 + 0 ≤ _)⟩)
    dsimp only [Pt.U, Pt.locs, Pt.cells, Pt.slots] at X163 l163 y163 z163 st163 hQ163
    rw [l163, y163, z163] at X163
    replace X163 : Stand p l e _ _ m _ below meth c T163 _ 4 15 := X163
    obtain ⟨rfl, N163q, e163q⟩ := hQ163
    have N163 := Fr.app N162 N163q
    refine Go.tr st163 ?_
    show Go p e below _ (T163.setTop (mkF m 139 #[.val (.int p1), .val (.int p2), .val (.int p3), .val (.int p4), .val (.int p5), .val (.int (1 : Int32)), .val (.int off), .val (.ref t141), .val (.ref b142), .val (.ref b145)] [(.int (1 : Int32))]))
    refine Go.via (fun _ => XS.iload X163.here hx rfl (hb hby at_139) rfl) ?_
    show Go p e below _ (T163.setTop (mkF m 141 #[.val (.int p1), .val (.int p2), .val (.int p3), .val (.int p4), .val (.int p5), .val (.int (1 : Int32)), .val (.int off), .val (.ref t141), .val (.ref b142), .val (.ref b145)] [(.int (1 : Int32)), (.int (1 : Int32))]))
    refine Go.via (fun _ => XS.icmpNo X163.here hx rfl (hb hby at_141) rfl (by decide)) ?_
    show Go p e below _ (T163.setTop (mkF m 144 #[.val (.int p1), .val (.int p2), .val (.int p3), .val (.int p4), .val (.int p5), .val (.int (1 : Int32)), .val (.int off), .val (.ref t141), .val (.ref b142), .val (.ref b145)] []))
    refine Go.via (fun _ => XS.aload X163.here hx rfl (hb hby at_144) rfl rfl) ?_
    show Go p e below _ (T163.setTop (mkF m 146 #[.val (.int p1), .val (.int p2), .val (.int p3), .val (.int p4), .val (.int p5), .val (.int (1 : Int32)), .val (.int off), .val (.ref t141), .val (.ref b142), .val (.ref b145)] [(.ref b145)]))
    obtain ⟨cl164, Ar164, -, S164, N164n, -, -⟩ := id vb162
    have al164 := X163.arraylength hx (by rw [e163q]; exact Ar164.1) (State.isArrayOf_alike hZ.alike Ar164.2.1) (g := (mkF m 146 #[.val (.int p1), .val (.int p2), .val (.int p3), .val (.int p4), .val (.int p5), .val (.int (1 : Int32)), .val (.int off), .val (.ref t141), .val (.ref b142), .val (.ref b145)] [(.ref b145)])) rfl rfl (hb hby at_146)
    rw [len_of S164 N164n] at al164
    refine Go.via al164 ?_
    show Go p e below _ (T163.setTop (mkF m 147 #[.val (.int p1), .val (.int p2), .val (.int p3), .val (.int p4), .val (.int p5), .val (.int (1 : Int32)), .val (.int off), .val (.ref t141), .val (.ref b142), .val (.ref b145)] [(.int (8 : Int32))]))
    refine Go.via (fun _ => XS.bipush X163.here hx rfl (hb hby at_147)) ?_
    show Go p e below _ (T163.setTop (mkF m 149 #[.val (.int p1), .val (.int p2), .val (.int p3), .val (.int p4), .val (.int p5), .val (.int (1 : Int32)), .val (.int off), .val (.ref t141), .val (.ref b142), .val (.ref b145)] [(.int (8 : Int32)), (.int (8 : Int32))]))
    refine Go.via (fun _ => XS.icmpNo X163.here hx rfl (hb hby at_149) rfl (by decide)) ?_
    show Go p e below _ (T163.setTop (mkF m 152 #[.val (.int p1), .val (.int p2), .val (.int p3), .val (.int p4), .val (.int p5), .val (.int (1 : Int32)), .val (.int off), .val (.ref t141), .val (.ref b142), .val (.ref b145)] []))
    refine Go.via (fun _ => XS.aload X163.here hx rfl (hb hby at_152) rfl rfl) ?_
    show Go p e below _ (T163.setTop (mkF m 154 #[.val (.int p1), .val (.int p2), .val (.int p3), .val (.int p4), .val (.int p5), .val (.int (1 : Int32)), .val (.int off), .val (.ref t141), .val (.ref b142), .val (.ref b145)] [(.ref b145)]))
    refine Go.via (fun _ => XS.iconst X163.here hx rfl (hb hby at_154)) ?_
    show Go p e below _ (T163.setTop (mkF m 155 #[.val (.int p1), .val (.int p2), .val (.int p3), .val (.int p4), .val (.int p5), .val (.int (1 : Int32)), .val (.int off), .val (.ref t141), .val (.ref b142), .val (.ref b145)] [(.int (0 : Int32)), (.ref b145)]))
    obtain ⟨cl165, Ar165, q165, S165, N165n, H165, G165⟩ := id vb162
    have hin165 := inb_of (j := (0 : Int32)) S165 (by decide)
    have hat165 : cl165.slots[((0 : Int32) : Int32).toNatClampNeg]? = some (.int (exF (0 : Int32) off (1 : Int32) p1 p2 p3)) := H165.at hin165 rfl
    refine Go.via (X163.baloadBytes hx (j := (0 : Int32)) (v := (.int (exF (0 : Int32) off (1 : Int32) p1 p2 p3))) (by rw [e163q]; exact Ar165.1) (State.isArrayOf_alike hZ.alike Ar165.2.1) Ar165.2.2 hin165 hat165 (g := (mkF m 155 #[.val (.int p1), .val (.int p2), .val (.int p3), .val (.int p4), .val (.int p5), .val (.int (1 : Int32)), .val (.int off), .val (.ref t141), .val (.ref b142), .val (.ref b145)] [(.int (0 : Int32)), (.ref b145)])) rfl rfl (hb hby at_155)) ?_
    show Go p e below _ (T163.setTop (mkF m 156 #[.val (.int p1), .val (.int p2), .val (.int p3), .val (.int p4), .val (.int p5), .val (.int (1 : Int32)), .val (.int off), .val (.ref t141), .val (.ref b142), .val (.ref b145)] [(.int (exF (0 : Int32) off (1 : Int32) p1 p2 p3))]))
    refine Go.via (fun _ => XS.iconst X163.here hx rfl (hb hby at_156)) ?_
    show Go p e below _ (T163.setTop (mkF m 157 #[.val (.int p1), .val (.int p2), .val (.int p3), .val (.int p4), .val (.int p5), .val (.int (1 : Int32)), .val (.int off), .val (.ref t141), .val (.ref b142), .val (.ref b145)] [(.int (0 : Int32)), (.int (exF (0 : Int32) off (1 : Int32) p1 p2 p3))]))
    refine Go.via (fun _ => XS.iload X163.here hx rfl (hb hby at_157) rfl) ?_
    show Go p e below _ (T163.setTop (mkF m 159 #[.val (.int p1), .val (.int p2), .val (.int p3), .val (.int p4), .val (.int p5), .val (.int (1 : Int32)), .val (.int off), .val (.ref t141), .val (.ref b142), .val (.ref b145)] [(.int off), (.int (0 : Int32)), (.int (exF (0 : Int32) off (1 : Int32) p1 p2 p3))]))
    refine Go.via (fun _ => XS.iload X163.here hx rfl (hb hby at_159) rfl) ?_
    show Go p e below _ (T163.setTop (mkF m 161 #[.val (.int p1), .val (.int p2), .val (.int p3), .val (.int p4), .val (.int p5), .val (.int (1 : Int32)), .val (.int off), .val (.ref t141), .val (.ref b142), .val (.ref b145)] [(.int (1 : Int32)), (.int off), (.int (0 : Int32)), (.int (exF (0 : Int32) off (1 : Int32) p1 p2 p3))]))
    refine Go.via (fun _ => XS.iloadN X163.here hx rfl (hb hby at_161) rfl) ?_
    show Go p e below _ (T163.setTop (mkF m 162 #[.val (.int p1), .val (.int p2), .val (.int p3), .val (.int p4), .val (.int p5), .val (.int (1 : Int32)), .val (.int off), .val (.ref t141), .val (.ref b142), .val (.ref b145)] [(.int p1), (.int (1 : Int32)), (.int off), (.int (0 : Int32)), (.int (exF (0 : Int32) off (1 : Int32) p1 p2 p3))]))
    refine Go.via (fun _ => XS.iloadN X163.here hx rfl (hb hby at_162) rfl) ?_
    show Go p e below _ (T163.setTop (mkF m 163 #[.val (.int p1), .val (.int p2), .val (.int p3), .val (.int p4), .val (.int p5), .val (.int (1 : Int32)), .val (.int off), .val (.ref t141), .val (.ref b142), .val (.ref b145)] [(.int p2), (.int p1), (.int (1 : Int32)), (.int off), (.int (0 : Int32)), (.int (exF (0 : Int32) off (1 : Int32) p1 p2 p3))]))
    refine Go.via (fun _ => XS.iloadN X163.here hx rfl (hb hby at_163) rfl) ?_
    show Go p e below _ (T163.setTop (mkF m 164 #[.val (.int p1), .val (.int p2), .val (.int p3), .val (.int p4), .val (.int p5), .val (.int (1 : Int32)), .val (.int off), .val (.ref t141), .val (.ref b142), .val (.ref b145)] [(.int p3), (.int p2), (.int p1), (.int (1 : Int32)), (.int off), (.int (0 : Int32)), (.int (exF (0 : Int32) off (1 : Int32) p1 p2 p3))]))
    obtain ⟨_, _, ⟨T166, L166, k166, n166⟩, -, X166, ⟨Lc166, hQ166, l166, y166, z166⟩, st166⟩ := Jvm.LawKit.callS X163 hx (y := (⟨"com/example/sluice/sluice/processor/FlowFileCopyContentPinLaw", "expected", "(IIIIII)B"⟩ : MethodName)) hown (mvT hZ (hw _ (List.mem_of_getElem? (i := 62) rfl))) (mvT hZ (hw _ (List.mem_of_getElem? (i := 63) rfl))) (mvT hZ (hw _ (List.mem_of_getElem? (i := 3) rfl))) (mvT hZ (hw _ (List.mem_of_getElem? (i := 64) rfl))) (by decide) (backOf (W := 1) (rmEx l Z a0 hw [] (0 : Int32) off (1 : Int32) p1 p2 p3 T162.heap n0 Zs162) hZ (hw _ (List.mem_of_getElem? (i := 64) rfl)) (hw _ (List.mem_of_getElem? (i := 3) rfl)) (by decide) (by decide)) (g := (mkF m 164 #[.val (.int p1), .val (.int p2), .val (.int p3), .val (.int p4), .val (.int p5), .val (.int (1 : Int32)), .val (.int off), .val (.ref t141), .val (.ref b142), .val (.ref b145)] [(.int p3), (.int p2), (.int p1), (.int (1 : Int32)), (.int off), (.int (0 : Int32)), (.int (exF (0 : Int32) off (1 : Int32) p1 p2 p3))])) rfl (by rw [hml]; rfl) (argsL := [(.int (0 : Int32)), (.int off), (.int (1 : Int32)), (.int p1), (.int p2), (.int p3)]) (rest := [(.int (exF (0 : Int32) off (1 : Int32) p1 p2 p3))]) (lenOf pd_9 rfl) rfl (by show 2 * 0 + _ ≤ _; exact Nat.le_of_eq rfl) (hb hby at_164) (fun _ _ => ⟨rfl, e163q, (by decide : 4 + 0 ≤ _), (by decide : 15 + 0 ≤ _)⟩)
    dsimp only [Pt.U, Pt.locs, Pt.cells, Pt.slots] at X166 l166 y166 z166 st166 hQ166
    rw [l166, y166, z166] at X166
    replace X166 : Stand p l e _ _ m _ below meth c T166 _ 4 15 := X166
    obtain ⟨rfl, N166q, e166q⟩ := hQ166
    have N166 := Fr.app N163 N166q
    refine Go.via st166 ?_
    show Go p e below _ (T166.setTop (mkF m 167 #[.val (.int p1), .val (.int p2), .val (.int p3), .val (.int p4), .val (.int p5), .val (.int (1 : Int32)), .val (.int off), .val (.ref t141), .val (.ref b142), .val (.ref b145)] [(.int (exF (0 : Int32) off (1 : Int32) p1 p2 p3)), (.int (exF (0 : Int32) off (1 : Int32) p1 p2 p3))]))
    refine Go.via (fun _ => XS.icmpNo X166.here hx rfl (hb hby at_167) rfl (teq rfl).2) ?_
    show Go p e below _ (T166.setTop (mkF m 170 #[.val (.int p1), .val (.int p2), .val (.int p3), .val (.int p4), .val (.int p5), .val (.int (1 : Int32)), .val (.int off), .val (.ref t141), .val (.ref b142), .val (.ref b145)] []))
    refine Go.via (fun _ => XS.aload X166.here hx rfl (hb hby at_170) rfl rfl) ?_
    show Go p e below _ (T166.setTop (mkF m 172 #[.val (.int p1), .val (.int p2), .val (.int p3), .val (.int p4), .val (.int p5), .val (.int (1 : Int32)), .val (.int off), .val (.ref t141), .val (.ref b142), .val (.ref b145)] [(.ref b145)]))
    refine Go.via (fun _ => XS.iconst X166.here hx rfl (hb hby at_172)) ?_
    show Go p e below _ (T166.setTop (mkF m 173 #[.val (.int p1), .val (.int p2), .val (.int p3), .val (.int p4), .val (.int p5), .val (.int (1 : Int32)), .val (.int off), .val (.ref t141), .val (.ref b142), .val (.ref b145)] [(.int (1 : Int32)), (.ref b145)]))
    obtain ⟨cl167, Ar167, q167, S167, N167n, H167, G167⟩ := id vb162
    have hin167 := inb_of (j := (1 : Int32)) S167 (by decide)
    have hat167 : cl167.slots[((1 : Int32) : Int32).toNatClampNeg]? = some (.int (exF (1 : Int32) off (1 : Int32) p1 p2 p3)) := H167.at hin167 rfl
    refine Go.via (X166.baloadBytes hx (j := (1 : Int32)) (v := (.int (exF (1 : Int32) off (1 : Int32) p1 p2 p3))) (by rw [e166q]; exact Ar167.1) (State.isArrayOf_alike hZ.alike Ar167.2.1) Ar167.2.2 hin167 hat167 (g := (mkF m 173 #[.val (.int p1), .val (.int p2), .val (.int p3), .val (.int p4), .val (.int p5), .val (.int (1 : Int32)), .val (.int off), .val (.ref t141), .val (.ref b142), .val (.ref b145)] [(.int (1 : Int32)), (.ref b145)])) rfl rfl (hb hby at_173)) ?_
    show Go p e below _ (T166.setTop (mkF m 174 #[.val (.int p1), .val (.int p2), .val (.int p3), .val (.int p4), .val (.int p5), .val (.int (1 : Int32)), .val (.int off), .val (.ref t141), .val (.ref b142), .val (.ref b145)] [(.int (exF (1 : Int32) off (1 : Int32) p1 p2 p3))]))
    refine Go.via (fun _ => XS.iconst X166.here hx rfl (hb hby at_174)) ?_
    show Go p e below _ (T166.setTop (mkF m 175 #[.val (.int p1), .val (.int p2), .val (.int p3), .val (.int p4), .val (.int p5), .val (.int (1 : Int32)), .val (.int off), .val (.ref t141), .val (.ref b142), .val (.ref b145)] [(.int (1 : Int32)), (.int (exF (1 : Int32) off (1 : Int32) p1 p2 p3))]))
    refine Go.via (fun _ => XS.iload X166.here hx rfl (hb hby at_175) rfl) ?_
    show Go p e below _ (T166.setTop (mkF m 177 #[.val (.int p1), .val (.int p2), .val (.int p3), .val (.int p4), .val (.int p5), .val (.int (1 : Int32)), .val (.int off), .val (.ref t141), .val (.ref b142), .val (.ref b145)] [(.int off), (.int (1 : Int32)), (.int (exF (1 : Int32) off (1 : Int32) p1 p2 p3))]))
    refine Go.via (fun _ => XS.iload X166.here hx rfl (hb hby at_177) rfl) ?_
    show Go p e below _ (T166.setTop (mkF m 179 #[.val (.int p1), .val (.int p2), .val (.int p3), .val (.int p4), .val (.int p5), .val (.int (1 : Int32)), .val (.int off), .val (.ref t141), .val (.ref b142), .val (.ref b145)] [(.int (1 : Int32)), (.int off), (.int (1 : Int32)), (.int (exF (1 : Int32) off (1 : Int32) p1 p2 p3))]))
    refine Go.via (fun _ => XS.iloadN X166.here hx rfl (hb hby at_179) rfl) ?_
    show Go p e below _ (T166.setTop (mkF m 180 #[.val (.int p1), .val (.int p2), .val (.int p3), .val (.int p4), .val (.int p5), .val (.int (1 : Int32)), .val (.int off), .val (.ref t141), .val (.ref b142), .val (.ref b145)] [(.int p1), (.int (1 : Int32)), (.int off), (.int (1 : Int32)), (.int (exF (1 : Int32) off (1 : Int32) p1 p2 p3))]))
    refine Go.via (fun _ => XS.iloadN X166.here hx rfl (hb hby at_180) rfl) ?_
    show Go p e below _ (T166.setTop (mkF m 181 #[.val (.int p1), .val (.int p2), .val (.int p3), .val (.int p4), .val (.int p5), .val (.int (1 : Int32)), .val (.int off), .val (.ref t141), .val (.ref b142), .val (.ref b145)] [(.int p2), (.int p1), (.int (1 : Int32)), (.int off), (.int (1 : Int32)), (.int (exF (1 : Int32) off (1 : Int32) p1 p2 p3))]))
    refine Go.via (fun _ => XS.iloadN X166.here hx rfl (hb hby at_181) rfl) ?_
    show Go p e below _ (T166.setTop (mkF m 182 #[.val (.int p1), .val (.int p2), .val (.int p3), .val (.int p4), .val (.int p5), .val (.int (1 : Int32)), .val (.int off), .val (.ref t141), .val (.ref b142), .val (.ref b145)] [(.int p3), (.int p2), (.int p1), (.int (1 : Int32)), (.int off), (.int (1 : Int32)), (.int (exF (1 : Int32) off (1 : Int32) p1 p2 p3))]))
    obtain ⟨_, _, ⟨T168, L168, k168, n168⟩, -, X168, ⟨Lc168, hQ168, l168, y168, z168⟩, st168⟩ := Jvm.LawKit.callS X166 hx (y := (⟨"com/example/sluice/sluice/processor/FlowFileCopyContentPinLaw", "expected", "(IIIIII)B"⟩ : MethodName)) hown (mvT hZ (hw _ (List.mem_of_getElem? (i := 62) rfl))) (mvT hZ (hw _ (List.mem_of_getElem? (i := 63) rfl))) (mvT hZ (hw _ (List.mem_of_getElem? (i := 3) rfl))) (mvT hZ (hw _ (List.mem_of_getElem? (i := 64) rfl))) (by decide) (backOf (W := 1) (rmEx l Z a0 hw [] (1 : Int32) off (1 : Int32) p1 p2 p3 T162.heap n0 Zs162) hZ (hw _ (List.mem_of_getElem? (i := 64) rfl)) (hw _ (List.mem_of_getElem? (i := 3) rfl)) (by decide) (by decide)) (g := (mkF m 182 #[.val (.int p1), .val (.int p2), .val (.int p3), .val (.int p4), .val (.int p5), .val (.int (1 : Int32)), .val (.int off), .val (.ref t141), .val (.ref b142), .val (.ref b145)] [(.int p3), (.int p2), (.int p1), (.int (1 : Int32)), (.int off), (.int (1 : Int32)), (.int (exF (1 : Int32) off (1 : Int32) p1 p2 p3))])) rfl (by rw [hml]; rfl) (argsL := [(.int (1 : Int32)), (.int off), (.int (1 : Int32)), (.int p1), (.int p2), (.int p3)]) (rest := [(.int (exF (1 : Int32) off (1 : Int32) p1 p2 p3))]) (lenOf pd_9 rfl) rfl (by show 2 * 0 + _ ≤ _; exact Nat.le_of_eq rfl) (hb hby at_182) (fun _ _ => ⟨rfl, e166q, (by decide : 4 + 0 ≤ _), (by decide : 15 + 0 ≤ _)⟩)
    dsimp only [Pt.U, Pt.locs, Pt.cells, Pt.slots] at X168 l168 y168 z168 st168 hQ168
    rw [l168, y168, z168] at X168
    replace X168 : Stand p l e _ _ m _ below meth c T168 _ 4 15 := X168
    obtain ⟨rfl, N168q, e168q⟩ := hQ168
    have N168 := Fr.app N166 N168q
    refine Go.via st168 ?_
    show Go p e below _ (T168.setTop (mkF m 185 #[.val (.int p1), .val (.int p2), .val (.int p3), .val (.int p4), .val (.int p5), .val (.int (1 : Int32)), .val (.int off), .val (.ref t141), .val (.ref b142), .val (.ref b145)] [(.int (exF (1 : Int32) off (1 : Int32) p1 p2 p3)), (.int (exF (1 : Int32) off (1 : Int32) p1 p2 p3))]))
    refine Go.via (fun _ => XS.icmpNo X168.here hx rfl (hb hby at_185) rfl (teq rfl).2) ?_
    show Go p e below _ (T168.setTop (mkF m 188 #[.val (.int p1), .val (.int p2), .val (.int p3), .val (.int p4), .val (.int p5), .val (.int (1 : Int32)), .val (.int off), .val (.ref t141), .val (.ref b142), .val (.ref b145)] []))
    refine Go.via (fun _ => XS.aload X168.here hx rfl (hb hby at_188) rfl rfl) ?_
    show Go p e below _ (T168.setTop (mkF m 190 #[.val (.int p1), .val (.int p2), .val (.int p3), .val (.int p4), .val (.int p5), .val (.int (1 : Int32)), .val (.int off), .val (.ref t141), .val (.ref b142), .val (.ref b145)] [(.ref b145)]))
    refine Go.via (fun _ => XS.iconst X168.here hx rfl (hb hby at_190)) ?_
    show Go p e below _ (T168.setTop (mkF m 191 #[.val (.int p1), .val (.int p2), .val (.int p3), .val (.int p4), .val (.int p5), .val (.int (1 : Int32)), .val (.int off), .val (.ref t141), .val (.ref b142), .val (.ref b145)] [(.int (2 : Int32)), (.ref b145)]))
    obtain ⟨cl169, Ar169, q169, S169, N169n, H169, G169⟩ := id vb162
    have hin169 := inb_of (j := (2 : Int32)) S169 (by decide)
    have hat169 : cl169.slots[((2 : Int32) : Int32).toNatClampNeg]? = some (.int (exF (2 : Int32) off (1 : Int32) p1 p2 p3)) := H169.at hin169 rfl
    refine Go.via (X168.baloadBytes hx (j := (2 : Int32)) (v := (.int (exF (2 : Int32) off (1 : Int32) p1 p2 p3))) (by rw [e168q]; exact Ar169.1) (State.isArrayOf_alike hZ.alike Ar169.2.1) Ar169.2.2 hin169 hat169 (g := (mkF m 191 #[.val (.int p1), .val (.int p2), .val (.int p3), .val (.int p4), .val (.int p5), .val (.int (1 : Int32)), .val (.int off), .val (.ref t141), .val (.ref b142), .val (.ref b145)] [(.int (2 : Int32)), (.ref b145)])) rfl rfl (hb hby at_191)) ?_
    show Go p e below _ (T168.setTop (mkF m 192 #[.val (.int p1), .val (.int p2), .val (.int p3), .val (.int p4), .val (.int p5), .val (.int (1 : Int32)), .val (.int off), .val (.ref t141), .val (.ref b142), .val (.ref b145)] [(.int (exF (2 : Int32) off (1 : Int32) p1 p2 p3))]))
    refine Go.via (fun _ => XS.iconst X168.here hx rfl (hb hby at_192)) ?_
    show Go p e below _ (T168.setTop (mkF m 193 #[.val (.int p1), .val (.int p2), .val (.int p3), .val (.int p4), .val (.int p5), .val (.int (1 : Int32)), .val (.int off), .val (.ref t141), .val (.ref b142), .val (.ref b145)] [(.int (2 : Int32)), (.int (exF (2 : Int32) off (1 : Int32) p1 p2 p3))]))
    refine Go.via (fun _ => XS.iload X168.here hx rfl (hb hby at_193) rfl) ?_
    show Go p e below _ (T168.setTop (mkF m 195 #[.val (.int p1), .val (.int p2), .val (.int p3), .val (.int p4), .val (.int p5), .val (.int (1 : Int32)), .val (.int off), .val (.ref t141), .val (.ref b142), .val (.ref b145)] [(.int off), (.int (2 : Int32)), (.int (exF (2 : Int32) off (1 : Int32) p1 p2 p3))]))
    refine Go.via (fun _ => XS.iload X168.here hx rfl (hb hby at_195) rfl) ?_
    show Go p e below _ (T168.setTop (mkF m 197 #[.val (.int p1), .val (.int p2), .val (.int p3), .val (.int p4), .val (.int p5), .val (.int (1 : Int32)), .val (.int off), .val (.ref t141), .val (.ref b142), .val (.ref b145)] [(.int (1 : Int32)), (.int off), (.int (2 : Int32)), (.int (exF (2 : Int32) off (1 : Int32) p1 p2 p3))]))
    refine Go.via (fun _ => XS.iloadN X168.here hx rfl (hb hby at_197) rfl) ?_
    show Go p e below _ (T168.setTop (mkF m 198 #[.val (.int p1), .val (.int p2), .val (.int p3), .val (.int p4), .val (.int p5), .val (.int (1 : Int32)), .val (.int off), .val (.ref t141), .val (.ref b142), .val (.ref b145)] [(.int p1), (.int (1 : Int32)), (.int off), (.int (2 : Int32)), (.int (exF (2 : Int32) off (1 : Int32) p1 p2 p3))]))
    refine Go.via (fun _ => XS.iloadN X168.here hx rfl (hb hby at_198) rfl) ?_
    show Go p e below _ (T168.setTop (mkF m 199 #[.val (.int p1), .val (.int p2), .val (.int p3), .val (.int p4), .val (.int p5), .val (.int (1 : Int32)), .val (.int off), .val (.ref t141), .val (.ref b142), .val (.ref b145)] [(.int p2), (.int p1), (.int (1 : Int32)), (.int off), (.int (2 : Int32)), (.int (exF (2 : Int32) off (1 : Int32) p1 p2 p3))]))
    refine Go.via (fun _ => XS.iloadN X168.here hx rfl (hb hby at_199) rfl) ?_
    show Go p e below _ (T168.setTop (mkF m 200 #[.val (.int p1), .val (.int p2), .val (.int p3), .val (.int p4), .val (.int p5), .val (.int (1 : Int32)), .val (.int off), .val (.ref t141), .val (.ref b142), .val (.ref b145)] [(.int p3), (.int p2), (.int p1), (.int (1 : Int32)), (.int off), (.int (2 : Int32)), (.int (exF (2 : Int32) off (1 : Int32) p1 p2 p3))]))
    obtain ⟨_, _, ⟨T170, L170, k170, n170⟩, -, X170, ⟨Lc170, hQ170, l170, y170, z170⟩, st170⟩ := Jvm.LawKit.callS X168 hx (y := (⟨"com/example/sluice/sluice/processor/FlowFileCopyContentPinLaw", "expected", "(IIIIII)B"⟩ : MethodName)) hown (mvT hZ (hw _ (List.mem_of_getElem? (i := 62) rfl))) (mvT hZ (hw _ (List.mem_of_getElem? (i := 63) rfl))) (mvT hZ (hw _ (List.mem_of_getElem? (i := 3) rfl))) (mvT hZ (hw _ (List.mem_of_getElem? (i := 64) rfl))) (by decide) (backOf (W := 1) (rmEx l Z a0 hw [] (2 : Int32) off (1 : Int32) p1 p2 p3 T162.heap n0 Zs162) hZ (hw _ (List.mem_of_getElem? (i := 64) rfl)) (hw _ (List.mem_of_getElem? (i := 3) rfl)) (by decide) (by decide)) (g := (mkF m 200 #[.val (.int p1), .val (.int p2), .val (.int p3), .val (.int p4), .val (.int p5), .val (.int (1 : Int32)), .val (.int off), .val (.ref t141), .val (.ref b142), .val (.ref b145)] [(.int p3), (.int p2), (.int p1), (.int (1 : Int32)), (.int off), (.int (2 : Int32)), (.int (exF (2 : Int32) off (1 : Int32) p1 p2 p3))])) rfl (by rw [hml]; rfl) (argsL := [(.int (2 : Int32)), (.int off), (.int (1 : Int32)), (.int p1), (.int p2), (.int p3)]) (rest := [(.int (exF (2 : Int32) off (1 : Int32) p1 p2 p3))]) (lenOf pd_9 rfl) rfl (by show 2 * 0 + _ ≤ _; exact Nat.le_of_eq rfl) (hb hby at_200) (fun _ _ => ⟨rfl, e168q, (by decide : 4 + 0 ≤ _), (by decide : 15 + 0 ≤ _)⟩)
    dsimp only [Pt.U, Pt.locs, Pt.cells, Pt.slots] at X170 l170 y170 z170 st170 hQ170
    rw [l170, y170, z170] at X170
    replace X170 : Stand p l e _ _ m _ below meth c T170 _ 4 15 := X170
    obtain ⟨rfl, N170q, e170q⟩ := hQ170
    have N170 := Fr.app N168 N170q
    refine Go.via st170 ?_
    show Go p e below _ (T170.setTop (mkF m 203 #[.val (.int p1), .val (.int p2), .val (.int p3), .val (.int p4), .val (.int p5), .val (.int (1 : Int32)), .val (.int off), .val (.ref t141), .val (.ref b142), .val (.ref b145)] [(.int (exF (2 : Int32) off (1 : Int32) p1 p2 p3)), (.int (exF (2 : Int32) off (1 : Int32) p1 p2 p3))]))
    refine Go.via (fun _ => XS.icmpNo X170.here hx rfl (hb hby at_203) rfl (teq rfl).2) ?_
    show Go p e below _ (T170.setTop (mkF m 206 #[.val (.int p1), .val (.int p2), .val (.int p3), .val (.int p4), .val (.int p5), .val (.int (1 : Int32)), .val (.int off), .val (.ref t141), .val (.ref b142), .val (.ref b145)] []))
    refine Go.via (fun _ => XS.aload X170.here hx rfl (hb hby at_206) rfl rfl) ?_
    show Go p e below _ (T170.setTop (mkF m 208 #[.val (.int p1), .val (.int p2), .val (.int p3), .val (.int p4), .val (.int p5), .val (.int (1 : Int32)), .val (.int off), .val (.ref t141), .val (.ref b142), .val (.ref b145)] [(.ref b145)]))
    refine Go.via (fun _ => XS.iconst X170.here hx rfl (hb hby at_208)) ?_
    show Go p e below _ (T170.setTop (mkF m 209 #[.val (.int p1), .val (.int p2), .val (.int p3), .val (.int p4), .val (.int p5), .val (.int (1 : Int32)), .val (.int off), .val (.ref t141), .val (.ref b142), .val (.ref b145)] [(.int (3 : Int32)), (.ref b145)]))
    obtain ⟨cl171, Ar171, q171, S171, N171n, H171, G171⟩ := id vb162
    have hin171 := inb_of (j := (3 : Int32)) S171 (by decide)
    have hat171 : cl171.slots[((3 : Int32) : Int32).toNatClampNeg]? = some (.int (exF (3 : Int32) off (1 : Int32) p1 p2 p3)) := H171.at hin171 rfl
    refine Go.via (X170.baloadBytes hx (j := (3 : Int32)) (v := (.int (exF (3 : Int32) off (1 : Int32) p1 p2 p3))) (by rw [e170q]; exact Ar171.1) (State.isArrayOf_alike hZ.alike Ar171.2.1) Ar171.2.2 hin171 hat171 (g := (mkF m 209 #[.val (.int p1), .val (.int p2), .val (.int p3), .val (.int p4), .val (.int p5), .val (.int (1 : Int32)), .val (.int off), .val (.ref t141), .val (.ref b142), .val (.ref b145)] [(.int (3 : Int32)), (.ref b145)])) rfl rfl (hb hby at_209)) ?_
    show Go p e below _ (T170.setTop (mkF m 210 #[.val (.int p1), .val (.int p2), .val (.int p3), .val (.int p4), .val (.int p5), .val (.int (1 : Int32)), .val (.int off), .val (.ref t141), .val (.ref b142), .val (.ref b145)] [(.int (exF (3 : Int32) off (1 : Int32) p1 p2 p3))]))
    refine Go.via (fun _ => XS.iconst X170.here hx rfl (hb hby at_210)) ?_
    show Go p e below _ (T170.setTop (mkF m 211 #[.val (.int p1), .val (.int p2), .val (.int p3), .val (.int p4), .val (.int p5), .val (.int (1 : Int32)), .val (.int off), .val (.ref t141), .val (.ref b142), .val (.ref b145)] [(.int (3 : Int32)), (.int (exF (3 : Int32) off (1 : Int32) p1 p2 p3))]))
    refine Go.via (fun _ => XS.iload X170.here hx rfl (hb hby at_211) rfl) ?_
    show Go p e below _ (T170.setTop (mkF m 213 #[.val (.int p1), .val (.int p2), .val (.int p3), .val (.int p4), .val (.int p5), .val (.int (1 : Int32)), .val (.int off), .val (.ref t141), .val (.ref b142), .val (.ref b145)] [(.int off), (.int (3 : Int32)), (.int (exF (3 : Int32) off (1 : Int32) p1 p2 p3))]))
    refine Go.via (fun _ => XS.iload X170.here hx rfl (hb hby at_213) rfl) ?_
    show Go p e below _ (T170.setTop (mkF m 215 #[.val (.int p1), .val (.int p2), .val (.int p3), .val (.int p4), .val (.int p5), .val (.int (1 : Int32)), .val (.int off), .val (.ref t141), .val (.ref b142), .val (.ref b145)] [(.int (1 : Int32)), (.int off), (.int (3 : Int32)), (.int (exF (3 : Int32) off (1 : Int32) p1 p2 p3))]))
    refine Go.via (fun _ => XS.iloadN X170.here hx rfl (hb hby at_215) rfl) ?_
    show Go p e below _ (T170.setTop (mkF m 216 #[.val (.int p1), .val (.int p2), .val (.int p3), .val (.int p4), .val (.int p5), .val (.int (1 : Int32)), .val (.int off), .val (.ref t141), .val (.ref b142), .val (.ref b145)] [(.int p1), (.int (1 : Int32)), (.int off), (.int (3 : Int32)), (.int (exF (3 : Int32) off (1 : Int32) p1 p2 p3))]))
    refine Go.via (fun _ => XS.iloadN X170.here hx rfl (hb hby at_216) rfl) ?_
    show Go p e below _ (T170.setTop (mkF m 217 #[.val (.int p1), .val (.int p2), .val (.int p3), .val (.int p4), .val (.int p5), .val (.int (1 : Int32)), .val (.int off), .val (.ref t141), .val (.ref b142), .val (.ref b145)] [(.int p2), (.int p1), (.int (1 : Int32)), (.int off), (.int (3 : Int32)), (.int (exF (3 : Int32) off (1 : Int32) p1 p2 p3))]))
    refine Go.via (fun _ => XS.iloadN X170.here hx rfl (hb hby at_217) rfl) ?_
    show Go p e below _ (T170.setTop (mkF m 218 #[.val (.int p1), .val (.int p2), .val (.int p3), .val (.int p4), .val (.int p5), .val (.int (1 : Int32)), .val (.int off), .val (.ref t141), .val (.ref b142), .val (.ref b145)] [(.int p3), (.int p2), (.int p1), (.int (1 : Int32)), (.int off), (.int (3 : Int32)), (.int (exF (3 : Int32) off (1 : Int32) p1 p2 p3))]))
    obtain ⟨_, _, ⟨T172, L172, k172, n172⟩, -, X172, ⟨Lc172, hQ172, l172, y172, z172⟩, st172⟩ := Jvm.LawKit.callS X170 hx (y := (⟨"com/example/sluice/sluice/processor/FlowFileCopyContentPinLaw", "expected", "(IIIIII)B"⟩ : MethodName)) hown (mvT hZ (hw _ (List.mem_of_getElem? (i := 62) rfl))) (mvT hZ (hw _ (List.mem_of_getElem? (i := 63) rfl))) (mvT hZ (hw _ (List.mem_of_getElem? (i := 3) rfl))) (mvT hZ (hw _ (List.mem_of_getElem? (i := 64) rfl))) (by decide) (backOf (W := 1) (rmEx l Z a0 hw [] (3 : Int32) off (1 : Int32) p1 p2 p3 T162.heap n0 Zs162) hZ (hw _ (List.mem_of_getElem? (i := 64) rfl)) (hw _ (List.mem_of_getElem? (i := 3) rfl)) (by decide) (by decide)) (g := (mkF m 218 #[.val (.int p1), .val (.int p2), .val (.int p3), .val (.int p4), .val (.int p5), .val (.int (1 : Int32)), .val (.int off), .val (.ref t141), .val (.ref b142), .val (.ref b145)] [(.int p3), (.int p2), (.int p1), (.int (1 : Int32)), (.int off), (.int (3 : Int32)), (.int (exF (3 : Int32) off (1 : Int32) p1 p2 p3))])) rfl (by rw [hml]; rfl) (argsL := [(.int (3 : Int32)), (.int off), (.int (1 : Int32)), (.int p1), (.int p2), (.int p3)]) (rest := [(.int (exF (3 : Int32) off (1 : Int32) p1 p2 p3))]) (lenOf pd_9 rfl) rfl (by show 2 * 0 + _ ≤ _; exact Nat.le_of_eq rfl) (hb hby at_218) (fun _ _ => ⟨rfl, e170q, (by decide : 4 + 0 ≤ _), (by decide : 15 + 0 ≤ _)⟩)
    dsimp only [Pt.U, Pt.locs, Pt.cells, Pt.slots] at X172 l172 y172 z172 st172 hQ172
    rw [l172, y172, z172] at X172
    replace X172 : Stand p l e _ _ m _ below meth c T172 _ 4 15 := X172
    obtain ⟨rfl, N172q, e172q⟩ := hQ172
    have N172 := Fr.app N170 N172q
    refine Go.via st172 ?_
    show Go p e below _ (T172.setTop (mkF m 221 #[.val (.int p1), .val (.int p2), .val (.int p3), .val (.int p4), .val (.int p5), .val (.int (1 : Int32)), .val (.int off), .val (.ref t141), .val (.ref b142), .val (.ref b145)] [(.int (exF (3 : Int32) off (1 : Int32) p1 p2 p3)), (.int (exF (3 : Int32) off (1 : Int32) p1 p2 p3))]))
    refine Go.via (fun _ => XS.icmpNo X172.here hx rfl (hb hby at_221) rfl (teq rfl).2) ?_
    show Go p e below _ (T172.setTop (mkF m 224 #[.val (.int p1), .val (.int p2), .val (.int p3), .val (.int p4), .val (.int p5), .val (.int (1 : Int32)), .val (.int off), .val (.ref t141), .val (.ref b142), .val (.ref b145)] []))
    refine Go.via (fun _ => XS.aload X172.here hx rfl (hb hby at_224) rfl rfl) ?_
    show Go p e below _ (T172.setTop (mkF m 226 #[.val (.int p1), .val (.int p2), .val (.int p3), .val (.int p4), .val (.int p5), .val (.int (1 : Int32)), .val (.int off), .val (.ref t141), .val (.ref b142), .val (.ref b145)] [(.ref b145)]))
    refine Go.via (fun _ => XS.iconst X172.here hx rfl (hb hby at_226)) ?_
    show Go p e below _ (T172.setTop (mkF m 227 #[.val (.int p1), .val (.int p2), .val (.int p3), .val (.int p4), .val (.int p5), .val (.int (1 : Int32)), .val (.int off), .val (.ref t141), .val (.ref b142), .val (.ref b145)] [(.int (4 : Int32)), (.ref b145)]))
    obtain ⟨cl173, Ar173, q173, S173, N173n, H173, G173⟩ := id vb162
    have hin173 := inb_of (j := (4 : Int32)) S173 (by decide)
    have hat173 : cl173.slots[((4 : Int32) : Int32).toNatClampNeg]? = some (.int (exF (4 : Int32) off (1 : Int32) p1 p2 p3)) := H173.at hin173 rfl
    refine Go.via (X172.baloadBytes hx (j := (4 : Int32)) (v := (.int (exF (4 : Int32) off (1 : Int32) p1 p2 p3))) (by rw [e172q]; exact Ar173.1) (State.isArrayOf_alike hZ.alike Ar173.2.1) Ar173.2.2 hin173 hat173 (g := (mkF m 227 #[.val (.int p1), .val (.int p2), .val (.int p3), .val (.int p4), .val (.int p5), .val (.int (1 : Int32)), .val (.int off), .val (.ref t141), .val (.ref b142), .val (.ref b145)] [(.int (4 : Int32)), (.ref b145)])) rfl rfl (hb hby at_227)) ?_
    show Go p e below _ (T172.setTop (mkF m 228 #[.val (.int p1), .val (.int p2), .val (.int p3), .val (.int p4), .val (.int p5), .val (.int (1 : Int32)), .val (.int off), .val (.ref t141), .val (.ref b142), .val (.ref b145)] [(.int (exF (4 : Int32) off (1 : Int32) p1 p2 p3))]))
    refine Go.via (fun _ => XS.iconst X172.here hx rfl (hb hby at_228)) ?_
    show Go p e below _ (T172.setTop (mkF m 229 #[.val (.int p1), .val (.int p2), .val (.int p3), .val (.int p4), .val (.int p5), .val (.int (1 : Int32)), .val (.int off), .val (.ref t141), .val (.ref b142), .val (.ref b145)] [(.int (4 : Int32)), (.int (exF (4 : Int32) off (1 : Int32) p1 p2 p3))]))
    refine Go.via (fun _ => XS.iload X172.here hx rfl (hb hby at_229) rfl) ?_
    show Go p e below _ (T172.setTop (mkF m 231 #[.val (.int p1), .val (.int p2), .val (.int p3), .val (.int p4), .val (.int p5), .val (.int (1 : Int32)), .val (.int off), .val (.ref t141), .val (.ref b142), .val (.ref b145)] [(.int off), (.int (4 : Int32)), (.int (exF (4 : Int32) off (1 : Int32) p1 p2 p3))]))
    refine Go.via (fun _ => XS.iload X172.here hx rfl (hb hby at_231) rfl) ?_
    show Go p e below _ (T172.setTop (mkF m 233 #[.val (.int p1), .val (.int p2), .val (.int p3), .val (.int p4), .val (.int p5), .val (.int (1 : Int32)), .val (.int off), .val (.ref t141), .val (.ref b142), .val (.ref b145)] [(.int (1 : Int32)), (.int off), (.int (4 : Int32)), (.int (exF (4 : Int32) off (1 : Int32) p1 p2 p3))]))
    refine Go.via (fun _ => XS.iloadN X172.here hx rfl (hb hby at_233) rfl) ?_
    show Go p e below _ (T172.setTop (mkF m 234 #[.val (.int p1), .val (.int p2), .val (.int p3), .val (.int p4), .val (.int p5), .val (.int (1 : Int32)), .val (.int off), .val (.ref t141), .val (.ref b142), .val (.ref b145)] [(.int p1), (.int (1 : Int32)), (.int off), (.int (4 : Int32)), (.int (exF (4 : Int32) off (1 : Int32) p1 p2 p3))]))
    refine Go.via (fun _ => XS.iloadN X172.here hx rfl (hb hby at_234) rfl) ?_
    show Go p e below _ (T172.setTop (mkF m 235 #[.val (.int p1), .val (.int p2), .val (.int p3), .val (.int p4), .val (.int p5), .val (.int (1 : Int32)), .val (.int off), .val (.ref t141), .val (.ref b142), .val (.ref b145)] [(.int p2), (.int p1), (.int (1 : Int32)), (.int off), (.int (4 : Int32)), (.int (exF (4 : Int32) off (1 : Int32) p1 p2 p3))]))
    refine Go.via (fun _ => XS.iloadN X172.here hx rfl (hb hby at_235) rfl) ?_
    show Go p e below _ (T172.setTop (mkF m 236 #[.val (.int p1), .val (.int p2), .val (.int p3), .val (.int p4), .val (.int p5), .val (.int (1 : Int32)), .val (.int off), .val (.ref t141), .val (.ref b142), .val (.ref b145)] [(.int p3), (.int p2), (.int p1), (.int (1 : Int32)), (.int off), (.int (4 : Int32)), (.int (exF (4 : Int32) off (1 : Int32) p1 p2 p3))]))
    obtain ⟨_, _, ⟨T174, L174, k174, n174⟩, -, X174, ⟨Lc174, hQ174, l174, y174, z174⟩, st174⟩ := Jvm.LawKit.callS X172 hx (y := (⟨"com/example/sluice/sluice/processor/FlowFileCopyContentPinLaw", "expected", "(IIIIII)B"⟩ : MethodName)) hown (mvT hZ (hw _ (List.mem_of_getElem? (i := 62) rfl))) (mvT hZ (hw _ (List.mem_of_getElem? (i := 63) rfl))) (mvT hZ (hw _ (List.mem_of_getElem? (i := 3) rfl))) (mvT hZ (hw _ (List.mem_of_getElem? (i := 64) rfl))) (by decide) (backOf (W := 1) (rmEx l Z a0 hw [] (4 : Int32) off (1 : Int32) p1 p2 p3 T162.heap n0 Zs162) hZ (hw _ (List.mem_of_getElem? (i := 64) rfl)) (hw _ (List.mem_of_getElem? (i := 3) rfl)) (by decide) (by decide)) (g := (mkF m 236 #[.val (.int p1), .val (.int p2), .val (.int p3), .val (.int p4), .val (.int p5), .val (.int (1 : Int32)), .val (.int off), .val (.ref t141), .val (.ref b142), .val (.ref b145)] [(.int p3), (.int p2), (.int p1), (.int (1 : Int32)), (.int off), (.int (4 : Int32)), (.int (exF (4 : Int32) off (1 : Int32) p1 p2 p3))])) rfl (by rw [hml]; rfl) (argsL := [(.int (4 : Int32)), (.int off), (.int (1 : Int32)), (.int p1), (.int p2), (.int p3)]) (rest := [(.int (exF (4 : Int32) off (1 : Int32) p1 p2 p3))]) (lenOf pd_9 rfl) rfl (by show 2 * 0 + _ ≤ _; exact Nat.le_of_eq rfl) (hb hby at_236) (fun _ _ => ⟨rfl, e172q, (by decide : 4 + 0 ≤ _), (by decide : 15 + 0 ≤ _)⟩)
    dsimp only [Pt.U, Pt.locs, Pt.cells, Pt.slots] at X174 l174 y174 z174 st174 hQ174
    rw [l174, y174, z174] at X174
    replace X174 : Stand p l e _ _ m _ below meth c T174 _ 4 15 := X174
    obtain ⟨rfl, N174q, e174q⟩ := hQ174
    have N174 := Fr.app N172 N174q
    refine Go.via st174 ?_
    show Go p e below _ (T174.setTop (mkF m 239 #[.val (.int p1), .val (.int p2), .val (.int p3), .val (.int p4), .val (.int p5), .val (.int (1 : Int32)), .val (.int off), .val (.ref t141), .val (.ref b142), .val (.ref b145)] [(.int (exF (4 : Int32) off (1 : Int32) p1 p2 p3)), (.int (exF (4 : Int32) off (1 : Int32) p1 p2 p3))]))
    refine Go.via (fun _ => XS.icmpNo X174.here hx rfl (hb hby at_239) rfl (teq rfl).2) ?_
    show Go p e below _ (T174.setTop (mkF m 242 #[.val (.int p1), .val (.int p2), .val (.int p3), .val (.int p4), .val (.int p5), .val (.int (1 : Int32)), .val (.int off), .val (.ref t141), .val (.ref b142), .val (.ref b145)] []))
    refine Go.via (fun _ => XS.aload X174.here hx rfl (hb hby at_242) rfl rfl) ?_
    show Go p e below _ (T174.setTop (mkF m 244 #[.val (.int p1), .val (.int p2), .val (.int p3), .val (.int p4), .val (.int p5), .val (.int (1 : Int32)), .val (.int off), .val (.ref t141), .val (.ref b142), .val (.ref b145)] [(.ref b145)]))
    refine Go.via (fun _ => XS.iconst X174.here hx rfl (hb hby at_244)) ?_
    show Go p e below _ (T174.setTop (mkF m 245 #[.val (.int p1), .val (.int p2), .val (.int p3), .val (.int p4), .val (.int p5), .val (.int (1 : Int32)), .val (.int off), .val (.ref t141), .val (.ref b142), .val (.ref b145)] [(.int (5 : Int32)), (.ref b145)]))
    obtain ⟨cl175, Ar175, q175, S175, N175n, H175, G175⟩ := id vb162
    have hin175 := inb_of (j := (5 : Int32)) S175 (by decide)
    have hat175 : cl175.slots[((5 : Int32) : Int32).toNatClampNeg]? = some (.int (exF (5 : Int32) off (1 : Int32) p1 p2 p3)) := H175.at hin175 rfl
    refine Go.via (X174.baloadBytes hx (j := (5 : Int32)) (v := (.int (exF (5 : Int32) off (1 : Int32) p1 p2 p3))) (by rw [e174q]; exact Ar175.1) (State.isArrayOf_alike hZ.alike Ar175.2.1) Ar175.2.2 hin175 hat175 (g := (mkF m 245 #[.val (.int p1), .val (.int p2), .val (.int p3), .val (.int p4), .val (.int p5), .val (.int (1 : Int32)), .val (.int off), .val (.ref t141), .val (.ref b142), .val (.ref b145)] [(.int (5 : Int32)), (.ref b145)])) rfl rfl (hb hby at_245)) ?_
    show Go p e below _ (T174.setTop (mkF m 246 #[.val (.int p1), .val (.int p2), .val (.int p3), .val (.int p4), .val (.int p5), .val (.int (1 : Int32)), .val (.int off), .val (.ref t141), .val (.ref b142), .val (.ref b145)] [(.int (exF (5 : Int32) off (1 : Int32) p1 p2 p3))]))
    refine Go.via (fun _ => XS.iconst X174.here hx rfl (hb hby at_246)) ?_
    show Go p e below _ (T174.setTop (mkF m 247 #[.val (.int p1), .val (.int p2), .val (.int p3), .val (.int p4), .val (.int p5), .val (.int (1 : Int32)), .val (.int off), .val (.ref t141), .val (.ref b142), .val (.ref b145)] [(.int (5 : Int32)), (.int (exF (5 : Int32) off (1 : Int32) p1 p2 p3))]))
    refine Go.via (fun _ => XS.iload X174.here hx rfl (hb hby at_247) rfl) ?_
    show Go p e below _ (T174.setTop (mkF m 249 #[.val (.int p1), .val (.int p2), .val (.int p3), .val (.int p4), .val (.int p5), .val (.int (1 : Int32)), .val (.int off), .val (.ref t141), .val (.ref b142), .val (.ref b145)] [(.int off), (.int (5 : Int32)), (.int (exF (5 : Int32) off (1 : Int32) p1 p2 p3))]))
    refine Go.via (fun _ => XS.iload X174.here hx rfl (hb hby at_249) rfl) ?_
    show Go p e below _ (T174.setTop (mkF m 251 #[.val (.int p1), .val (.int p2), .val (.int p3), .val (.int p4), .val (.int p5), .val (.int (1 : Int32)), .val (.int off), .val (.ref t141), .val (.ref b142), .val (.ref b145)] [(.int (1 : Int32)), (.int off), (.int (5 : Int32)), (.int (exF (5 : Int32) off (1 : Int32) p1 p2 p3))]))
    refine Go.via (fun _ => XS.iloadN X174.here hx rfl (hb hby at_251) rfl) ?_
    show Go p e below _ (T174.setTop (mkF m 252 #[.val (.int p1), .val (.int p2), .val (.int p3), .val (.int p4), .val (.int p5), .val (.int (1 : Int32)), .val (.int off), .val (.ref t141), .val (.ref b142), .val (.ref b145)] [(.int p1), (.int (1 : Int32)), (.int off), (.int (5 : Int32)), (.int (exF (5 : Int32) off (1 : Int32) p1 p2 p3))]))
    refine Go.via (fun _ => XS.iloadN X174.here hx rfl (hb hby at_252) rfl) ?_
    show Go p e below _ (T174.setTop (mkF m 253 #[.val (.int p1), .val (.int p2), .val (.int p3), .val (.int p4), .val (.int p5), .val (.int (1 : Int32)), .val (.int off), .val (.ref t141), .val (.ref b142), .val (.ref b145)] [(.int p2), (.int p1), (.int (1 : Int32)), (.int off), (.int (5 : Int32)), (.int (exF (5 : Int32) off (1 : Int32) p1 p2 p3))]))
    refine Go.via (fun _ => XS.iloadN X174.here hx rfl (hb hby at_253) rfl) ?_
    show Go p e below _ (T174.setTop (mkF m 254 #[.val (.int p1), .val (.int p2), .val (.int p3), .val (.int p4), .val (.int p5), .val (.int (1 : Int32)), .val (.int off), .val (.ref t141), .val (.ref b142), .val (.ref b145)] [(.int p3), (.int p2), (.int p1), (.int (1 : Int32)), (.int off), (.int (5 : Int32)), (.int (exF (5 : Int32) off (1 : Int32) p1 p2 p3))]))
    obtain ⟨_, _, ⟨T176, L176, k176, n176⟩, -, X176, ⟨Lc176, hQ176, l176, y176, z176⟩, st176⟩ := Jvm.LawKit.callS X174 hx (y := (⟨"com/example/sluice/sluice/processor/FlowFileCopyContentPinLaw", "expected", "(IIIIII)B"⟩ : MethodName)) hown (mvT hZ (hw _ (List.mem_of_getElem? (i := 62) rfl))) (mvT hZ (hw _ (List.mem_of_getElem? (i := 63) rfl))) (mvT hZ (hw _ (List.mem_of_getElem? (i := 3) rfl))) (mvT hZ (hw _ (List.mem_of_getElem? (i := 64) rfl))) (by decide) (backOf (W := 1) (rmEx l Z a0 hw [] (5 : Int32) off (1 : Int32) p1 p2 p3 T162.heap n0 Zs162) hZ (hw _ (List.mem_of_getElem? (i := 64) rfl)) (hw _ (List.mem_of_getElem? (i := 3) rfl)) (by decide) (by decide)) (g := (mkF m 254 #[.val (.int p1), .val (.int p2), .val (.int p3), .val (.int p4), .val (.int p5), .val (.int (1 : Int32)), .val (.int off), .val (.ref t141), .val (.ref b142), .val (.ref b145)] [(.int p3), (.int p2), (.int p1), (.int (1 : Int32)), (.int off), (.int (5 : Int32)), (.int (exF (5 : Int32) off (1 : Int32) p1 p2 p3))])) rfl (by rw [hml]; rfl) (argsL := [(.int (5 : Int32)), (.int off), (.int (1 : Int32)), (.int p1), (.int p2), (.int p3)]) (rest := [(.int (exF (5 : Int32) off (1 : Int32) p1 p2 p3))]) (lenOf pd_9 rfl) rfl (by show 2 * 0 + _ ≤ _; exact Nat.le_of_eq rfl) (hb hby at_254) (fun _ _ => ⟨rfl, e174q, (by decide : 4 + 0 ≤ _), (by decide : 15 + 0 ≤ _)⟩)
    dsimp only [Pt.U, Pt.locs, Pt.cells, Pt.slots] at X176 l176 y176 z176 st176 hQ176
    rw [l176, y176, z176] at X176
    replace X176 : Stand p l e _ _ m _ below meth c T176 _ 4 15 := X176
    obtain ⟨rfl, N176q, e176q⟩ := hQ176
    have N176 := Fr.app N174 N176q
    refine Go.via st176 ?_
    show Go p e below _ (T176.setTop (mkF m 257 #[.val (.int p1), .val (.int p2), .val (.int p3), .val (.int p4), .val (.int p5), .val (.int (1 : Int32)), .val (.int off), .val (.ref t141), .val (.ref b142), .val (.ref b145)] [(.int (exF (5 : Int32) off (1 : Int32) p1 p2 p3)), (.int (exF (5 : Int32) off (1 : Int32) p1 p2 p3))]))
    refine Go.via (fun _ => XS.icmpNo X176.here hx rfl (hb hby at_257) rfl (teq rfl).2) ?_
    show Go p e below _ (T176.setTop (mkF m 260 #[.val (.int p1), .val (.int p2), .val (.int p3), .val (.int p4), .val (.int p5), .val (.int (1 : Int32)), .val (.int off), .val (.ref t141), .val (.ref b142), .val (.ref b145)] []))
    refine Go.via (fun _ => XS.aload X176.here hx rfl (hb hby at_260) rfl rfl) ?_
    show Go p e below _ (T176.setTop (mkF m 262 #[.val (.int p1), .val (.int p2), .val (.int p3), .val (.int p4), .val (.int p5), .val (.int (1 : Int32)), .val (.int off), .val (.ref t141), .val (.ref b142), .val (.ref b145)] [(.ref b145)]))
    refine Go.via (fun _ => XS.bipush X176.here hx rfl (hb hby at_262)) ?_
    show Go p e below _ (T176.setTop (mkF m 264 #[.val (.int p1), .val (.int p2), .val (.int p3), .val (.int p4), .val (.int p5), .val (.int (1 : Int32)), .val (.int off), .val (.ref t141), .val (.ref b142), .val (.ref b145)] [(.int (6 : Int32)), (.ref b145)]))
    obtain ⟨cl177, Ar177, q177, S177, N177n, H177, G177⟩ := id vb162
    have hin177 := inb_of (j := (6 : Int32)) S177 (by decide)
    have hat177 : cl177.slots[((6 : Int32) : Int32).toNatClampNeg]? = some (.int (exF (6 : Int32) off (1 : Int32) p1 p2 p3)) := H177.at hin177 rfl
    refine Go.via (X176.baloadBytes hx (j := (6 : Int32)) (v := (.int (exF (6 : Int32) off (1 : Int32) p1 p2 p3))) (by rw [e176q]; exact Ar177.1) (State.isArrayOf_alike hZ.alike Ar177.2.1) Ar177.2.2 hin177 hat177 (g := (mkF m 264 #[.val (.int p1), .val (.int p2), .val (.int p3), .val (.int p4), .val (.int p5), .val (.int (1 : Int32)), .val (.int off), .val (.ref t141), .val (.ref b142), .val (.ref b145)] [(.int (6 : Int32)), (.ref b145)])) rfl rfl (hb hby at_264)) ?_
    show Go p e below _ (T176.setTop (mkF m 265 #[.val (.int p1), .val (.int p2), .val (.int p3), .val (.int p4), .val (.int p5), .val (.int (1 : Int32)), .val (.int off), .val (.ref t141), .val (.ref b142), .val (.ref b145)] [(.int (exF (6 : Int32) off (1 : Int32) p1 p2 p3))]))
    refine Go.via (fun _ => XS.bipush X176.here hx rfl (hb hby at_265)) ?_
    show Go p e below _ (T176.setTop (mkF m 267 #[.val (.int p1), .val (.int p2), .val (.int p3), .val (.int p4), .val (.int p5), .val (.int (1 : Int32)), .val (.int off), .val (.ref t141), .val (.ref b142), .val (.ref b145)] [(.int (6 : Int32)), (.int (exF (6 : Int32) off (1 : Int32) p1 p2 p3))]))
    refine Go.via (fun _ => XS.iload X176.here hx rfl (hb hby at_267) rfl) ?_
    show Go p e below _ (T176.setTop (mkF m 269 #[.val (.int p1), .val (.int p2), .val (.int p3), .val (.int p4), .val (.int p5), .val (.int (1 : Int32)), .val (.int off), .val (.ref t141), .val (.ref b142), .val (.ref b145)] [(.int off), (.int (6 : Int32)), (.int (exF (6 : Int32) off (1 : Int32) p1 p2 p3))]))
    refine Go.via (fun _ => XS.iload X176.here hx rfl (hb hby at_269) rfl) ?_
    show Go p e below _ (T176.setTop (mkF m 271 #[.val (.int p1), .val (.int p2), .val (.int p3), .val (.int p4), .val (.int p5), .val (.int (1 : Int32)), .val (.int off), .val (.ref t141), .val (.ref b142), .val (.ref b145)] [(.int (1 : Int32)), (.int off), (.int (6 : Int32)), (.int (exF (6 : Int32) off (1 : Int32) p1 p2 p3))]))
    refine Go.via (fun _ => XS.iloadN X176.here hx rfl (hb hby at_271) rfl) ?_
    show Go p e below _ (T176.setTop (mkF m 272 #[.val (.int p1), .val (.int p2), .val (.int p3), .val (.int p4), .val (.int p5), .val (.int (1 : Int32)), .val (.int off), .val (.ref t141), .val (.ref b142), .val (.ref b145)] [(.int p1), (.int (1 : Int32)), (.int off), (.int (6 : Int32)), (.int (exF (6 : Int32) off (1 : Int32) p1 p2 p3))]))
    refine Go.via (fun _ => XS.iloadN X176.here hx rfl (hb hby at_272) rfl) ?_
    show Go p e below _ (T176.setTop (mkF m 273 #[.val (.int p1), .val (.int p2), .val (.int p3), .val (.int p4), .val (.int p5), .val (.int (1 : Int32)), .val (.int off), .val (.ref t141), .val (.ref b142), .val (.ref b145)] [(.int p2), (.int p1), (.int (1 : Int32)), (.int off), (.int (6 : Int32)), (.int (exF (6 : Int32) off (1 : Int32) p1 p2 p3))]))
    refine Go.via (fun _ => XS.iloadN X176.here hx rfl (hb hby at_273) rfl) ?_
    show Go p e below _ (T176.setTop (mkF m 274 #[.val (.int p1), .val (.int p2), .val (.int p3), .val (.int p4), .val (.int p5), .val (.int (1 : Int32)), .val (.int off), .val (.ref t141), .val (.ref b142), .val (.ref b145)] [(.int p3), (.int p2), (.int p1), (.int (1 : Int32)), (.int off), (.int (6 : Int32)), (.int (exF (6 : Int32) off (1 : Int32) p1 p2 p3))]))
    obtain ⟨_, _, ⟨T178, L178, k178, n178⟩, -, X178, ⟨Lc178, hQ178, l178, y178, z178⟩, st178⟩ := Jvm.LawKit.callS X176 hx (y := (⟨"com/example/sluice/sluice/processor/FlowFileCopyContentPinLaw", "expected", "(IIIIII)B"⟩ : MethodName)) hown (mvT hZ (hw _ (List.mem_of_getElem? (i := 62) rfl))) (mvT hZ (hw _ (List.mem_of_getElem? (i := 63) rfl))) (mvT hZ (hw _ (List.mem_of_getElem? (i := 3) rfl))) (mvT hZ (hw _ (List.mem_of_getElem? (i := 64) rfl))) (by decide) (backOf (W := 1) (rmEx l Z a0 hw [] (6 : Int32) off (1 : Int32) p1 p2 p3 T162.heap n0 Zs162) hZ (hw _ (List.mem_of_getElem? (i := 64) rfl)) (hw _ (List.mem_of_getElem? (i := 3) rfl)) (by decide) (by decide)) (g := (mkF m 274 #[.val (.int p1), .val (.int p2), .val (.int p3), .val (.int p4), .val (.int p5), .val (.int (1 : Int32)), .val (.int off), .val (.ref t141), .val (.ref b142), .val (.ref b145)] [(.int p3), (.int p2), (.int p1), (.int (1 : Int32)), (.int off), (.int (6 : Int32)), (.int (exF (6 : Int32) off (1 : Int32) p1 p2 p3))])) rfl (by rw [hml]; rfl) (argsL := [(.int (6 : Int32)), (.int off), (.int (1 : Int32)), (.int p1), (.int p2), (.int p3)]) (rest := [(.int (exF (6 : Int32) off (1 : Int32) p1 p2 p3))]) (lenOf pd_9 rfl) rfl (by show 2 * 0 + _ ≤ _; exact Nat.le_of_eq rfl) (hb hby at_274) (fun _ _ => ⟨rfl, e176q, (by decide : 4 + 0 ≤ _), (by decide : 15 + 0 ≤ _)⟩)
    dsimp only [Pt.U, Pt.locs, Pt.cells, Pt.slots] at X178 l178 y178 z178 st178 hQ178
    rw [l178, y178, z178] at X178
    replace X178 : Stand p l e _ _ m _ below meth c T178 _ 4 15 := X178
    obtain ⟨rfl, N178q, e178q⟩ := hQ178
    have N178 := Fr.app N176 N178q
    refine Go.via st178 ?_
    show Go p e below _ (T178.setTop (mkF m 277 #[.val (.int p1), .val (.int p2), .val (.int p3), .val (.int p4), .val (.int p5), .val (.int (1 : Int32)), .val (.int off), .val (.ref t141), .val (.ref b142), .val (.ref b145)] [(.int (exF (6 : Int32) off (1 : Int32) p1 p2 p3)), (.int (exF (6 : Int32) off (1 : Int32) p1 p2 p3))]))
    refine Go.via (fun _ => XS.icmpNo X178.here hx rfl (hb hby at_277) rfl (teq rfl).2) ?_
    show Go p e below _ (T178.setTop (mkF m 280 #[.val (.int p1), .val (.int p2), .val (.int p3), .val (.int p4), .val (.int p5), .val (.int (1 : Int32)), .val (.int off), .val (.ref t141), .val (.ref b142), .val (.ref b145)] []))
    refine Go.via (fun _ => XS.aload X178.here hx rfl (hb hby at_280) rfl rfl) ?_
    show Go p e below _ (T178.setTop (mkF m 282 #[.val (.int p1), .val (.int p2), .val (.int p3), .val (.int p4), .val (.int p5), .val (.int (1 : Int32)), .val (.int off), .val (.ref t141), .val (.ref b142), .val (.ref b145)] [(.ref b145)]))
    refine Go.via (fun _ => XS.bipush X178.here hx rfl (hb hby at_282)) ?_
    show Go p e below _ (T178.setTop (mkF m 284 #[.val (.int p1), .val (.int p2), .val (.int p3), .val (.int p4), .val (.int p5), .val (.int (1 : Int32)), .val (.int off), .val (.ref t141), .val (.ref b142), .val (.ref b145)] [(.int (7 : Int32)), (.ref b145)]))
    obtain ⟨cl179, Ar179, q179, S179, N179n, H179, G179⟩ := id vb162
    have hin179 := inb_of (j := (7 : Int32)) S179 (by decide)
    have hat179 : cl179.slots[((7 : Int32) : Int32).toNatClampNeg]? = some (.int (exF (7 : Int32) off (1 : Int32) p1 p2 p3)) := H179.at hin179 rfl
    refine Go.via (X178.baloadBytes hx (j := (7 : Int32)) (v := (.int (exF (7 : Int32) off (1 : Int32) p1 p2 p3))) (by rw [e178q]; exact Ar179.1) (State.isArrayOf_alike hZ.alike Ar179.2.1) Ar179.2.2 hin179 hat179 (g := (mkF m 284 #[.val (.int p1), .val (.int p2), .val (.int p3), .val (.int p4), .val (.int p5), .val (.int (1 : Int32)), .val (.int off), .val (.ref t141), .val (.ref b142), .val (.ref b145)] [(.int (7 : Int32)), (.ref b145)])) rfl rfl (hb hby at_284)) ?_
    show Go p e below _ (T178.setTop (mkF m 285 #[.val (.int p1), .val (.int p2), .val (.int p3), .val (.int p4), .val (.int p5), .val (.int (1 : Int32)), .val (.int off), .val (.ref t141), .val (.ref b142), .val (.ref b145)] [(.int (exF (7 : Int32) off (1 : Int32) p1 p2 p3))]))
    refine Go.via (fun _ => XS.bipush X178.here hx rfl (hb hby at_285)) ?_
    show Go p e below _ (T178.setTop (mkF m 287 #[.val (.int p1), .val (.int p2), .val (.int p3), .val (.int p4), .val (.int p5), .val (.int (1 : Int32)), .val (.int off), .val (.ref t141), .val (.ref b142), .val (.ref b145)] [(.int (7 : Int32)), (.int (exF (7 : Int32) off (1 : Int32) p1 p2 p3))]))
    refine Go.via (fun _ => XS.iload X178.here hx rfl (hb hby at_287) rfl) ?_
    show Go p e below _ (T178.setTop (mkF m 289 #[.val (.int p1), .val (.int p2), .val (.int p3), .val (.int p4), .val (.int p5), .val (.int (1 : Int32)), .val (.int off), .val (.ref t141), .val (.ref b142), .val (.ref b145)] [(.int off), (.int (7 : Int32)), (.int (exF (7 : Int32) off (1 : Int32) p1 p2 p3))]))
    refine Go.via (fun _ => XS.iload X178.here hx rfl (hb hby at_289) rfl) ?_
    show Go p e below _ (T178.setTop (mkF m 291 #[.val (.int p1), .val (.int p2), .val (.int p3), .val (.int p4), .val (.int p5), .val (.int (1 : Int32)), .val (.int off), .val (.ref t141), .val (.ref b142), .val (.ref b145)] [(.int (1 : Int32)), (.int off), (.int (7 : Int32)), (.int (exF (7 : Int32) off (1 : Int32) p1 p2 p3))]))
    refine Go.via (fun _ => XS.iloadN X178.here hx rfl (hb hby at_291) rfl) ?_
    show Go p e below _ (T178.setTop (mkF m 292 #[.val (.int p1), .val (.int p2), .val (.int p3), .val (.int p4), .val (.int p5), .val (.int (1 : Int32)), .val (.int off), .val (.ref t141), .val (.ref b142), .val (.ref b145)] [(.int p1), (.int (1 : Int32)), (.int off), (.int (7 : Int32)), (.int (exF (7 : Int32) off (1 : Int32) p1 p2 p3))]))
    refine Go.via (fun _ => XS.iloadN X178.here hx rfl (hb hby at_292) rfl) ?_
    show Go p e below _ (T178.setTop (mkF m 293 #[.val (.int p1), .val (.int p2), .val (.int p3), .val (.int p4), .val (.int p5), .val (.int (1 : Int32)), .val (.int off), .val (.ref t141), .val (.ref b142), .val (.ref b145)] [(.int p2), (.int p1), (.int (1 : Int32)), (.int off), (.int (7 : Int32)), (.int (exF (7 : Int32) off (1 : Int32) p1 p2 p3))]))
    refine Go.via (fun _ => XS.iloadN X178.here hx rfl (hb hby at_293) rfl) ?_
    show Go p e below _ (T178.setTop (mkF m 294 #[.val (.int p1), .val (.int p2), .val (.int p3), .val (.int p4), .val (.int p5), .val (.int (1 : Int32)), .val (.int off), .val (.ref t141), .val (.ref b142), .val (.ref b145)] [(.int p3), (.int p2), (.int p1), (.int (1 : Int32)), (.int off), (.int (7 : Int32)), (.int (exF (7 : Int32) off (1 : Int32) p1 p2 p3))]))
    obtain ⟨_, _, ⟨T180, L180, k180, n180⟩, -, X180, ⟨Lc180, hQ180, l180, y180, z180⟩, st180⟩ := Jvm.LawKit.callS X178 hx (y := (⟨"com/example/sluice/sluice/processor/FlowFileCopyContentPinLaw", "expected", "(IIIIII)B"⟩ : MethodName)) hown (mvT hZ (hw _ (List.mem_of_getElem? (i := 62) rfl))) (mvT hZ (hw _ (List.mem_of_getElem? (i := 63) rfl))) (mvT hZ (hw _ (List.mem_of_getElem? (i := 3) rfl))) (mvT hZ (hw _ (List.mem_of_getElem? (i := 64) rfl))) (by decide) (backOf (W := 1) (rmEx l Z a0 hw [] (7 : Int32) off (1 : Int32) p1 p2 p3 T162.heap n0 Zs162) hZ (hw _ (List.mem_of_getElem? (i := 64) rfl)) (hw _ (List.mem_of_getElem? (i := 3) rfl)) (by decide) (by decide)) (g := (mkF m 294 #[.val (.int p1), .val (.int p2), .val (.int p3), .val (.int p4), .val (.int p5), .val (.int (1 : Int32)), .val (.int off), .val (.ref t141), .val (.ref b142), .val (.ref b145)] [(.int p3), (.int p2), (.int p1), (.int (1 : Int32)), (.int off), (.int (7 : Int32)), (.int (exF (7 : Int32) off (1 : Int32) p1 p2 p3))])) rfl (by rw [hml]; rfl) (argsL := [(.int (7 : Int32)), (.int off), (.int (1 : Int32)), (.int p1), (.int p2), (.int p3)]) (rest := [(.int (exF (7 : Int32) off (1 : Int32) p1 p2 p3))]) (lenOf pd_9 rfl) rfl (by show 2 * 0 + _ ≤ _; exact Nat.le_of_eq rfl) (hb hby at_294) (fun _ _ => ⟨rfl, e178q, (by decide : 4 + 0 ≤ _), (by decide : 15 + 0 ≤ _)⟩)
    dsimp only [Pt.U, Pt.locs, Pt.cells, Pt.slots] at X180 l180 y180 z180 st180 hQ180
    rw [l180, y180, z180] at X180
    replace X180 : Stand p l e _ _ m _ below meth c T180 _ 4 15 := X180
    obtain ⟨rfl, N180q, e180q⟩ := hQ180
    have N180 := Fr.app N178 N180q
    refine Go.via st180 ?_
    show Go p e below _ (T180.setTop (mkF m 297 #[.val (.int p1), .val (.int p2), .val (.int p3), .val (.int p4), .val (.int p5), .val (.int (1 : Int32)), .val (.int off), .val (.ref t141), .val (.ref b142), .val (.ref b145)] [(.int (exF (7 : Int32) off (1 : Int32) p1 p2 p3)), (.int (exF (7 : Int32) off (1 : Int32) p1 p2 p3))]))
    refine Go.via (fun _ => XS.icmpNo X180.here hx rfl (hb hby at_297) rfl (teq rfl).2) ?_
    show Go p e below _ (T180.setTop (mkF m 300 #[.val (.int p1), .val (.int p2), .val (.int p3), .val (.int p4), .val (.int p5), .val (.int (1 : Int32)), .val (.int off), .val (.ref t141), .val (.ref b142), .val (.ref b145)] []))
    refine Go.via (fun _ => XS.iconst X180.here hx rfl (hb hby at_300)) ?_
    show Go p e below _ (T180.setTop (mkF m 301 #[.val (.int p1), .val (.int p2), .val (.int p3), .val (.int p4), .val (.int p5), .val (.int (1 : Int32)), .val (.int off), .val (.ref t141), .val (.ref b142), .val (.ref b145)] [(.int (1 : Int32))]))
    refine Go.via (fun _ => XS.goto X180.here hx rfl (pc0 := 301) (pc' := 305) rfl (hb hby at_301) (by decide) (by decide)) ?_
    show Go p e below _ (T180.setTop (mkF m 305 #[.val (.int p1), .val (.int p2), .val (.int p3), .val (.int p4), .val (.int p5), .val (.int (1 : Int32)), .val (.int off), .val (.ref t141), .val (.ref b142), .val (.ref b145)] [(.int (1 : Int32))]))
    exact own_retN X180 hx hlk (t := .boolean) Bd.returns (by simp) (hb hby at_305) (by show Q0 Z p1 p2 p3 p4 p5 em h0 n0 _ T180.heap _; rw [e180q]; exact ⟨rfl, N180⟩) (by decide) (by decide)
  ·
    show Go p e below _ (s₁.setTop (mkF m 6 #[.val (.int p1), .val (.int p2), .val (.int p3), .val (.int p4), .val (.int p5), .unset, .unset, .unset, .unset, .unset] [(.int (2 : Int32))]))
    refine Go.via (fun _ => XS.istore X0.here hx rfl (hb hby at_6) rfl (l' := #[.val (.int p1), .val (.int p2), .val (.int p3), .val (.int p4), .val (.int p5), .val (.int (2 : Int32)), .unset, .unset, .unset, .unset]) rfl) ?_
    show Go p e below _ (s₁.setTop (mkF m 8 #[.val (.int p1), .val (.int p2), .val (.int p3), .val (.int p4), .val (.int p5), .val (.int (2 : Int32)), .unset, .unset, .unset, .unset] []))
    refine Go.via (fun _ => XS.iload X0.here hx rfl (hb hby at_8) rfl) ?_
    show Go p e below _ (s₁.setTop (mkF m 10 #[.val (.int p1), .val (.int p2), .val (.int p3), .val (.int p4), .val (.int p5), .val (.int (2 : Int32)), .unset, .unset, .unset, .unset] [(.int p5)]))
    refine Go.via (X0.ldcInt hx hown (mvT hZ (hw _ (List.mem_of_getElem? (i := 0) rfl))) (g := (mkF m 10 #[.val (.int p1), .val (.int p2), .val (.int p3), .val (.int p4), .val (.int p5), .val (.int (2 : Int32)), .unset, .unset, .unset, .unset] [(.int p5)])) rfl (hb hby at_10)) ?_
    show Go p e below _ (s₁.setTop (mkF m 12 #[.val (.int p1), .val (.int p2), .val (.int p3), .val (.int p4), .val (.int p5), .val (.int (2 : Int32)), .unset, .unset, .unset, .unset] [(.int (2147483647 : Int32)), (.int p5)]))
    refine Go.via (fun _ => XS.iand X0.here hx rfl (hb hby at_12) rfl) ?_
    show Go p e below _ (s₁.setTop (mkF m 13 #[.val (.int p1), .val (.int p2), .val (.int p3), .val (.int p4), .val (.int p5), .val (.int (2 : Int32)), .unset, .unset, .unset, .unset] [(.int (p5 &&& (2147483647 : Int32)))]))
    refine Go.via (fun _ => XS.bipush X0.here hx rfl (hb hby at_13)) ?_
    show Go p e below _ (s₁.setTop (mkF m 15 #[.val (.int p1), .val (.int p2), .val (.int p3), .val (.int p4), .val (.int p5), .val (.int (2 : Int32)), .unset, .unset, .unset, .unset] [(.int (9 : Int32)), (.int (p5 &&& (2147483647 : Int32)))]))
    refine Go.via (fun _ => XS.iload X0.here hx rfl (hb hby at_15) rfl) ?_
    show Go p e below _ (s₁.setTop (mkF m 17 #[.val (.int p1), .val (.int p2), .val (.int p3), .val (.int p4), .val (.int p5), .val (.int (2 : Int32)), .unset, .unset, .unset, .unset] [(.int (2 : Int32)), (.int (9 : Int32)), (.int (p5 &&& (2147483647 : Int32)))]))
    refine Go.via (fun _ => XS.isub X0.here hx rfl (hb hby at_17) rfl) ?_
    show Go p e below _ (s₁.setTop (mkF m 18 #[.val (.int p1), .val (.int p2), .val (.int p3), .val (.int p4), .val (.int p5), .val (.int (2 : Int32)), .unset, .unset, .unset, .unset] [(.int (7 : Int32)), (.int (p5 &&& (2147483647 : Int32)))]))
    refine Go.via (fun _ => iremM X0 hx rfl (hb hby at_18) rfl (by decide)) ?_
    show Go p e below _ (s₁.setTop (mkF m 19 #[.val (.int p1), .val (.int p2), .val (.int p3), .val (.int p4), .val (.int p5), .val (.int (2 : Int32)), .unset, .unset, .unset, .unset] [(.int ((p5 &&& (2147483647 : Int32)) % (7 : Int32)))]))
    have hoff := own_off2 p5
    generalize hof : ((p5 &&& (2147483647 : Int32)) % (7 : Int32)) = off at hoff ⊢
    show Go p e below _ (s₁.setTop (mkF m 19 #[.val (.int p1), .val (.int p2), .val (.int p3), .val (.int p4), .val (.int p5), .val (.int (2 : Int32)), .unset, .unset, .unset, .unset] [(.int off)]))
    refine Go.via (fun _ => XS.istore X0.here hx rfl (hb hby at_19) rfl (l' := #[.val (.int p1), .val (.int p2), .val (.int p3), .val (.int p4), .val (.int p5), .val (.int (2 : Int32)), .val (.int off), .unset, .unset, .unset]) rfl) ?_
    show Go p e below _ (s₁.setTop (mkF m 21 #[.val (.int p1), .val (.int p2), .val (.int p3), .val (.int p4), .val (.int p5), .val (.int (2 : Int32)), .val (.int off), .unset, .unset, .unset] []))
    refine Go.via (fun _ => XS.iload X0.here hx rfl (hb hby at_21) rfl) ?_
    show Go p e below _ (s₁.setTop (mkF m 23 #[.val (.int p1), .val (.int p2), .val (.int p3), .val (.int p4), .val (.int p5), .val (.int (2 : Int32)), .val (.int off), .unset, .unset, .unset] [(.int (2 : Int32))]))
    refine Go.via (fun _ => XS.iloadN X0.here hx rfl (hb hby at_23) rfl) ?_
    show Go p e below _ (s₁.setTop (mkF m 24 #[.val (.int p1), .val (.int p2), .val (.int p3), .val (.int p4), .val (.int p5), .val (.int (2 : Int32)), .val (.int off), .unset, .unset, .unset] [(.int p1), (.int (2 : Int32))]))
    obtain ⟨_, _, ⟨T181, L181, k181, n181⟩, -, X181, ⟨Lc181, hQ181, l181, y181, z181⟩, st181⟩ := Jvm.LawKit.callS X0 hx (y := (⟨"com/example/sluice/sluice/processor/FlowFileCopyContentPinLaw", "makeContent", "(II)[B"⟩ : MethodName)) hown (mvT hZ (hw _ (List.mem_of_getElem? (i := 1) rfl))) (mvT hZ (hw _ (List.mem_of_getElem? (i := 2) rfl))) (mvT hZ (hw _ (List.mem_of_getElem? (i := 3) rfl))) (mvT hZ (hw _ (List.mem_of_getElem? (i := 4) rfl))) (by decide) (backOf (W := 0) (rmMk_2 l Z a0 hw [] p1 h0 n0 Z0) hZ (hw _ (List.mem_of_getElem? (i := 4) rfl)) (hw _ (List.mem_of_getElem? (i := 3) rfl)) (by decide) (by decide)) (g := (mkF m 24 #[.val (.int p1), .val (.int p2), .val (.int p3), .val (.int p4), .val (.int p5), .val (.int (2 : Int32)), .val (.int off), .unset, .unset, .unset] [(.int p1), (.int (2 : Int32))])) rfl (by rw [hml]; rfl) (argsL := [(.int (2 : Int32)), (.int p1)]) (rest := []) (lenOf pd_4 rfl) rfl (by show 2 * 0 + _ ≤ _; exact Nat.le_of_eq rfl) (hb hby at_24) (fun _ _ => ⟨rfl, e0, (by decide : 0 + 1 ≤ _), (by decide : 0 + 2 ≤ _)⟩)
    dsimp only [Pt.U, Pt.locs, Pt.cells, Pt.slots] at X181 l181 y181 z181 st181 hQ181
    rw [l181, y181, z181] at X181
    replace X181 : Stand p l e _ _ m _ below meth c T181 _ 1 2 := X181
    obtain ⟨t181, kb181, rfl, N181q, K181q, gt181, et181, va181⟩ := hQ181
    have N181 := Fr.app N0 N181q
    refine Go.via st181 ?_
    have Zs181 : n0 ≤ T181.heap.size := Nat.le_trans Z0 K181q.1
    have O181 : Old Z n0 T181.heap := O0.keep K181q all0
    have g_t181 : n0 ≤ t181 := Nat.le_trans Z0 gt181
    show Go p e below _ (T181.setTop (mkF m 27 #[.val (.int p1), .val (.int p2), .val (.int p3), .val (.int p4), .val (.int p5), .val (.int (2 : Int32)), .val (.int off), .unset, .unset, .unset] [(.ref t181)]))
    refine Go.via (fun _ => XS.astore X181.here hx rfl (hb hby at_27) rfl rfl (l' := #[.val (.int p1), .val (.int p2), .val (.int p3), .val (.int p4), .val (.int p5), .val (.int (2 : Int32)), .val (.int off), .val (.ref t181), .unset, .unset]) rfl) ?_
    show Go p e below _ (T181.setTop (mkF m 29 #[.val (.int p1), .val (.int p2), .val (.int p3), .val (.int p4), .val (.int p5), .val (.int (2 : Int32)), .val (.int off), .val (.ref t181), .unset, .unset] []))
    obtain ⟨T182, h182, X182, e182, E182, A182, D182, -, st182⟩ := newO X181 hx hZ hown (hw _ (List.mem_of_getElem? (i := 9) rfl)) (hw _ (List.mem_of_getElem? (i := 10) rfl)) (hw _ (List.mem_of_getElem? (i := 11) rfl)) rfl (g := (mkF m 29 #[.val (.int p1), .val (.int p2), .val (.int p3), .val (.int p4), .val (.int p5), .val (.int (2 : Int32)), .val (.int off), .val (.ref t181), .unset, .unset] [])) rfl (hb hby at_29) (by decide) (by decide)
    obtain ⟨b182, g182⟩ : ∃ z, z = T181.heap.size := ⟨_, rfl⟩
    rw [← g182] at A182 D182 st182
    have g_b182 : n0 ≤ b182 := Nat.le_trans Zs181 (Nat.le_of_eq g182.symm)
    have ne_t181_b182 : t181 ≠ b182 := Nat.ne_of_lt (Nat.lt_of_lt_of_le et181.lt (Nat.le_of_eq g182.symm))
    refine Go.via st182 ?_
    have Zs182 : n0 ≤ h182.size := Nat.le_trans Zs181 E182.1
    have O182 : Old Z n0 h182 := O181.ext E182
    have fE_t181_182 := et181.ext E182
    have fV_t181_182 := va181.ext E182
    have F_attributes_b182 : Fld Z h182 b182 "com/example/sluice/sluice/processor/FlowFile" "attributes" "Ljava/util/Map;" .null := D182 (Or.inr (hw _ (List.mem_of_getElem? (i := 42) rfl))) (ty := (.object "java/util/Map")) (by decide)
    have F_content_b182 : Fld Z h182 b182 "com/example/sluice/sluice/processor/FlowFile" "content" "[B" .null := D182 (Or.inr (hw _ (List.mem_of_getElem? (i := 44) rfl))) (ty := (.array .byte)) (by decide)
    show Go p e below _ (T182.setTop (mkF m 32 #[.val (.int p1), .val (.int p2), .val (.int p3), .val (.int p4), .val (.int p5), .val (.int (2 : Int32)), .val (.int off), .val (.ref t181), .unset, .unset] [(.ref b182)]))
    refine Go.via (fun _ => XS.dup X182.here hx rfl (hb hby at_32) rfl rfl) ?_
    show Go p e below _ (T182.setTop (mkF m 33 #[.val (.int p1), .val (.int p2), .val (.int p3), .val (.int p4), .val (.int p5), .val (.int (2 : Int32)), .val (.int off), .val (.ref t181), .unset, .unset] [(.ref b182), (.ref b182)]))
    obtain ⟨_, _, ⟨T183, L183, k183, n183⟩, -, X183, ⟨Lc183, hQ183, l183, y183, z183⟩, st183⟩ := Jvm.LawKit.callS X182 hx (y := (⟨"java/util/Map", "of", "()Ljava/util/Map;"⟩ : MethodName)) hown (mvT hZ (hw _ (List.mem_of_getElem? (i := 12) rfl))) (mvT hZ (hw _ (List.mem_of_getElem? (i := 13) rfl))) (mvT hZ (hw _ (List.mem_of_getElem? (i := 14) rfl))) (mvT hZ (hw _ (List.mem_of_getElem? (i := 15) rfl))) (by decide) (backOf (W := 2) (rmOf l Z a0 hw [] em h182 n0 Zs182 O182 S_EM) hZ (hw _ (List.mem_of_getElem? (i := 15) rfl)) (hw _ (List.mem_of_getElem? (i := 14) rfl)) (by decide) (by decide)) (g := (mkF m 33 #[.val (.int p1), .val (.int p2), .val (.int p3), .val (.int p4), .val (.int p5), .val (.int (2 : Int32)), .val (.int off), .val (.ref t181), .unset, .unset] [(.ref b182), (.ref b182)])) rfl (by rw [hml]; rfl) (argsL := []) (rest := [(.ref b182), (.ref b182)]) (lenOf pd_5 rfl) rfl (by show 2 * 0 + _ ≤ _; exact Nat.le_of_eq rfl) (hb hby at_33) (fun _ _ => ⟨rfl, e182, (by decide : 2 + 0 ≤ _), (by decide : 4 + 0 ≤ _)⟩)
    dsimp only [Pt.U, Pt.locs, Pt.cells, Pt.slots] at X183 l183 y183 z183 st183 hQ183
    rw [l183, y183, z183] at X183
    replace X183 : Stand p l e _ _ m _ below meth c T183 _ 2 4 := X183
    obtain ⟨rfl, N183q, e183q⟩ := hQ183
    have N183 := Fr.app N181 N183q
    refine Go.via st183 ?_
    show Go p e below _ (T183.setTop (mkF m 36 #[.val (.int p1), .val (.int p2), .val (.int p3), .val (.int p4), .val (.int p5), .val (.int (2 : Int32)), .val (.int off), .val (.ref t181), .unset, .unset] [(.ref em), (.ref b182), (.ref b182)]))
    refine Go.via (fun _ => XS.aload X183.here hx rfl (hb hby at_36) rfl rfl) ?_
    show Go p e below _ (T183.setTop (mkF m 38 #[.val (.int p1), .val (.int p2), .val (.int p3), .val (.int p4), .val (.int p5), .val (.int (2 : Int32)), .val (.int off), .val (.ref t181), .unset, .unset] [(.ref t181), (.ref em), (.ref b182), (.ref b182)]))
    have eemb182 := E_EM.ext O182.2
    have neemb182 : b182 ≠ em := Ne.symm (O182.ne E_EM.lt g_b182)
    obtain ⟨_, _, ⟨T184, L184, k184, n184⟩, -, X184, ⟨Lc184, hQ184, l184, y184, z184⟩, st184⟩ := X183.specialBack hx (y := (⟨"com/example/sluice/sluice/processor/FlowFile", "<init>", "(Ljava/util/Map;[B)V"⟩ : MethodName)) rfl hown (mvT hZ (hw _ (List.mem_of_getElem? (i := 18) rfl))) (mvT hZ (hw _ (List.mem_of_getElem? (i := 19) rfl))) (mvT hZ (hw _ (List.mem_of_getElem? (i := 20) rfl))) (by decide) (backOf (W := 1) (rmFI1 l Z a0 hw [] b182 em t181 kb181 (2 : Int32) _ h182 n0 Zs182 A182 F_attributes_b182 F_content_b182 g_b182 eemb182 fE_t181_182 fV_t181_182 (by decide) neemb182 (Ne.symm ne_t181_b182)) hZ (hw _ (List.mem_of_getElem? (i := 20) rfl)) (hw _ (List.mem_of_getElem? (i := 11) rfl)) (by decide) (by decide)) (g := (mkF m 38 #[.val (.int p1), .val (.int p2), .val (.int p3), .val (.int p4), .val (.int p5), .val (.int (2 : Int32)), .val (.int off), .val (.ref t181), .unset, .unset] [(.ref t181), (.ref em), (.ref b182), (.ref b182)])) rfl (by rw [hml]; rfl) (Steps.refl _) (a := b182) (argsL := [(.ref em), (.ref t181)]) (rest := [(.ref b182)]) (lenOf pd_6 rfl) rfl (by show 2 * 0 + _ ≤ _; exact Nat.le_of_eq rfl) (hb hby at_38) (fun _ _ => ⟨rfl, e183q, (by decide : 2 + 1 ≤ _), (by decide : 4 + 4 ≤ _)⟩)
    dsimp only [Pt.U, Pt.locs, Pt.cells, Pt.slots] at X184 l184 y184 z184 st184 hQ184
    rw [l184, y184, z184] at X184
    replace X184 : Stand p l e _ _ m _ below meth c T184 _ 3 8 := X184
    obtain ⟨rfl, N184q, K184q, ct184, gt184, fc184, va184⟩ := hQ184
    have N184 := Fr.app N183 N184q
    refine Go.tr st184 ?_
    have Zs184 : n0 ≤ T184.heap.size := Nat.le_trans Zs182 K184q.1
    have O184 : Old Z n0 T184.heap := O182.keep K184q (allS g_b182 all0)
    have fE_t181_184 := fE_t181_182.keep K184q
    have fV_t181_184 := fV_t181_182.keep K184q (ninS ne_t181_b182 nin0)
    have fE_b182_184 := A182.keep K184q
    have g_ct184 : n0 ≤ ct184 := Nat.le_trans Zs182 gt184
    have ne_t181_ct184 : t181 ≠ ct184 := Nat.ne_of_lt (Nat.lt_of_lt_of_le fE_t181_182.lt gt184)
    have ne_b182_ct184 : b182 ≠ ct184 := Nat.ne_of_lt (Nat.lt_of_lt_of_le A182.lt gt184)
    show Go p e below _ (T184.setTop (mkF m 41 #[.val (.int p1), .val (.int p2), .val (.int p3), .val (.int p4), .val (.int p5), .val (.int (2 : Int32)), .val (.int off), .val (.ref t181), .unset, .unset] [(.ref b182)]))
    refine Go.via (fun _ => XS.astore X184.here hx rfl (hb hby at_41) rfl rfl (l' := #[.val (.int p1), .val (.int p2), .val (.int p3), .val (.int p4), .val (.int p5), .val (.int (2 : Int32)), .val (.int off), .val (.ref t181), .val (.ref b182), .unset]) rfl) ?_
    show Go p e below _ (T184.setTop (mkF m 43 #[.val (.int p1), .val (.int p2), .val (.int p3), .val (.int p4), .val (.int p5), .val (.int (2 : Int32)), .val (.int off), .val (.ref t181), .val (.ref b182), .unset] []))
    refine Go.via (fun _ => XS.bipush X184.here hx rfl (hb hby at_43)) ?_
    show Go p e below _ (T184.setTop (mkF m 45 #[.val (.int p1), .val (.int p2), .val (.int p3), .val (.int p4), .val (.int p5), .val (.int (2 : Int32)), .val (.int off), .val (.ref t181), .val (.ref b182), .unset] [(.int (8 : Int32))]))
    obtain ⟨T185, h185, k185, X185, e185, E185, A185, st185⟩ := newP X184 hx hZ (hw _ (List.mem_of_getElem? (i := 5) rfl)) rfl (g := (mkF m 45 #[.val (.int p1), .val (.int p2), .val (.int p3), .val (.int p4), .val (.int p5), .val (.int (2 : Int32)), .val (.int off), .val (.ref t181), .val (.ref b182), .unset] [(.int (8 : Int32))])) rfl (hb hby at_45) rfl (by decide) (cap := 8) (by decide) (by decide) (by decide) (by decide)
    obtain ⟨b185, g185⟩ : ∃ z, z = T184.heap.size := ⟨_, rfl⟩
    rw [← g185] at A185 st185
    have g_b185 : n0 ≤ b185 := Nat.le_trans Zs184 (Nat.le_of_eq g185.symm)
    have ne_t181_b185 : t181 ≠ b185 := Nat.ne_of_lt (Nat.lt_of_lt_of_le fE_t181_184.lt (Nat.le_of_eq g185.symm))
    have ne_b182_b185 : b182 ≠ b185 := Nat.ne_of_lt (Nat.lt_of_lt_of_le fE_b182_184.lt (Nat.le_of_eq g185.symm))
    have ne_ct184_b185 : ct184 ≠ b185 := Nat.ne_of_lt (Nat.lt_of_lt_of_le va184.lt (Nat.le_of_eq g185.symm))
    refine Go.via st185 ?_
    have Zs185 : n0 ≤ h185.size := Nat.le_trans Zs184 E185.1
    have O185 : Old Z n0 h185 := O184.ext E185
    have fE_t181_185 := fE_t181_184.ext E185
    have fV_t181_185 := fV_t181_184.ext E185
    have fE_b182_185 := fE_b182_184.ext E185
    have fF_b182_content_185 := fc184.ext E185
    have fV_ct184_185 := va184.ext E185
    have V_b185 : Arv Z h185 b185 k185 .byte (8 : Int32) [(.int (0 : Int32)), (.int (0 : Int32)), (.int (0 : Int32)), (.int (0 : Int32)), (.int (0 : Int32)), (.int (0 : Int32)), (.int (0 : Int32)), (.int (0 : Int32))] (.int (0 : Int32)) := (Arv.new A185 (by decide)).pad (pad_rep [] (.int (0 : Int32)) 8)
    show Go p e below _ (T185.setTop (mkF m 47 #[.val (.int p1), .val (.int p2), .val (.int p3), .val (.int p4), .val (.int p5), .val (.int (2 : Int32)), .val (.int off), .val (.ref t181), .val (.ref b182), .unset] [(.ref b185)]))
    refine Go.via (fun _ => XS.dup X185.here hx rfl (hb hby at_47) rfl rfl) ?_
    show Go p e below _ (T185.setTop (mkF m 48 #[.val (.int p1), .val (.int p2), .val (.int p3), .val (.int p4), .val (.int p5), .val (.int (2 : Int32)), .val (.int off), .val (.ref t181), .val (.ref b182), .unset] [(.ref b185), (.ref b185)]))
    refine Go.via (fun _ => XS.iconst X185.here hx rfl (hb hby at_48)) ?_
    show Go p e below _ (T185.setTop (mkF m 49 #[.val (.int p1), .val (.int p2), .val (.int p3), .val (.int p4), .val (.int p5), .val (.int (2 : Int32)), .val (.int off), .val (.ref t181), .val (.ref b182), .unset] [(.int (0 : Int32)), (.ref b185), (.ref b185)]))
    refine Go.via (fun _ => XS.iconst X185.here hx rfl (hb hby at_49)) ?_
    show Go p e below _ (T185.setTop (mkF m 50 #[.val (.int p1), .val (.int p2), .val (.int p3), .val (.int p4), .val (.int p5), .val (.int (2 : Int32)), .val (.int off), .val (.ref t181), .val (.ref b182), .unset] [(.int (0 : Int32)), (.int (0 : Int32)), (.ref b185), (.ref b185)]))
    refine Go.via (fun _ => XS.iloadN X185.here hx rfl (hb hby at_50) rfl) ?_
    show Go p e below _ (T185.setTop (mkF m 51 #[.val (.int p1), .val (.int p2), .val (.int p3), .val (.int p4), .val (.int p5), .val (.int (2 : Int32)), .val (.int off), .val (.ref t181), .val (.ref b182), .unset] [(.int p2), (.int (0 : Int32)), (.int (0 : Int32)), (.ref b185), (.ref b185)]))
    refine Go.via (fun _ => XS.iloadN X185.here hx rfl (hb hby at_51) rfl) ?_
    show Go p e below _ (T185.setTop (mkF m 52 #[.val (.int p1), .val (.int p2), .val (.int p3), .val (.int p4), .val (.int p5), .val (.int (2 : Int32)), .val (.int off), .val (.ref t181), .val (.ref b182), .unset] [(.int p3), (.int p2), (.int (0 : Int32)), (.int (0 : Int32)), (.ref b185), (.ref b185)]))
    obtain ⟨_, _, ⟨T186, L186, k186, n186⟩, -, X186, ⟨Lc186, hQ186, l186, y186, z186⟩, st186⟩ := Jvm.LawKit.callS X185 hx (y := (⟨"com/example/sluice/sluice/processor/FlowFileCopyContentPinLaw", "db", "(III)B"⟩ : MethodName)) hown (mvT hZ (hw _ (List.mem_of_getElem? (i := 45) rfl))) (mvT hZ (hw _ (List.mem_of_getElem? (i := 46) rfl))) (mvT hZ (hw _ (List.mem_of_getElem? (i := 3) rfl))) (mvT hZ (hw _ (List.mem_of_getElem? (i := 47) rfl))) (by decide) (backOf (W := 3) (rmDb l Z a0 hw [] (0 : Int32) p2 p3 h185 n0 Zs185) hZ (hw _ (List.mem_of_getElem? (i := 47) rfl)) (hw _ (List.mem_of_getElem? (i := 3) rfl)) (by decide) (by decide)) (g := (mkF m 52 #[.val (.int p1), .val (.int p2), .val (.int p3), .val (.int p4), .val (.int p5), .val (.int (2 : Int32)), .val (.int off), .val (.ref t181), .val (.ref b182), .unset] [(.int p3), (.int p2), (.int (0 : Int32)), (.int (0 : Int32)), (.ref b185), (.ref b185)])) rfl (by rw [hml]; rfl) (argsL := [(.int (0 : Int32)), (.int p2), (.int p3)]) (rest := [(.int (0 : Int32)), (.ref b185), (.ref b185)]) (lenOf pd_0 rfl) rfl (by show 2 * 0 + _ ≤ _; exact Nat.le_of_eq rfl) (hb hby at_52) (fun _ _ => ⟨rfl, e185, (by decide : 4 + 0 ≤ _), (by decide : 16 + 0 ≤ _)⟩)
    dsimp only [Pt.U, Pt.locs, Pt.cells, Pt.slots] at X186 l186 y186 z186 st186 hQ186
    rw [l186, y186, z186] at X186
    replace X186 : Stand p l e _ _ m _ below meth c T186 _ 4 16 := X186
    obtain ⟨rfl, N186q, e186q⟩ := hQ186
    have N186 := Fr.app N184 N186q
    refine Go.via st186 ?_
    show Go p e below _ (T186.setTop (mkF m 55 #[.val (.int p1), .val (.int p2), .val (.int p3), .val (.int p4), .val (.int p5), .val (.int (2 : Int32)), .val (.int off), .val (.ref t181), .val (.ref b182), .unset] [(.int (dbF (0 : Int32) p2 p3)), (.int (0 : Int32)), (.ref b185), (.ref b185)]))
    obtain ⟨cl187, Ar187, q187, S187, N187n, H187, G187⟩ := id V_b185
    have hin187 := inb_of (j := (0 : Int32)) S187 (by decide)
    obtain ⟨T187, h187, X187, e187, W187, st187⟩ := stB X186 hx hZ e186q Ar187 (j := (0 : Int32)) hin187 (g := (mkF m 55 #[.val (.int p1), .val (.int p2), .val (.int p3), .val (.int p4), .val (.int p5), .val (.int (2 : Int32)), .val (.int off), .val (.ref t181), .val (.ref b182), .unset] [(.int (dbF (0 : Int32) p2 p3)), (.int (0 : Int32)), (.ref b185), (.ref b185)])) rfl rfl (hb hby at_55)
    refine Go.via st187 ?_
    have V187 : Arv Z h187 b185 k185 .byte (8 : Int32) [(.int (nar .byte (dbF (0 : Int32) p2 p3))), (.int (0 : Int32)), (.int (0 : Int32)), (.int (0 : Int32)), (.int (0 : Int32)), (.int (0 : Int32)), (.int (0 : Int32)), (.int (0 : Int32))] (.int (0 : Int32)) := Arv.set Ar187 q187 S187 N187n H187 G187 (fits_nar_byte _) W187 0 rfl (Nat.le_of_ble_eq_true rfl)
    have Zs187 : n0 ≤ h187.size := Nat.le_trans Zs185 (Keep.of_wr W187).1
    have O187 : Old Z n0 h187 := O185.wr W187 g_b185
    have N187 := Fr.snoc X187 N186 g_b185
    have fE_t181_187 := fE_t181_185.wr W187
    have fV_t181_187 := fV_t181_185.other W187 ne_t181_b185
    have fE_b182_187 := fE_b182_185.wr W187
    have fF_b182_content_187 := fF_b182_content_185.other W187 (Or.inl ne_b182_b185)
    have fV_ct184_187 := fV_ct184_185.other W187 ne_ct184_b185
    show Go p e below _ (T187.setTop (mkF m 56 #[.val (.int p1), .val (.int p2), .val (.int p3), .val (.int p4), .val (.int p5), .val (.int (2 : Int32)), .val (.int off), .val (.ref t181), .val (.ref b182), .unset] [(.ref b185)]))
    refine Go.via (fun _ => XS.dup X187.here hx rfl (hb hby at_56) rfl rfl) ?_
    show Go p e below _ (T187.setTop (mkF m 57 #[.val (.int p1), .val (.int p2), .val (.int p3), .val (.int p4), .val (.int p5), .val (.int (2 : Int32)), .val (.int off), .val (.ref t181), .val (.ref b182), .unset] [(.ref b185), (.ref b185)]))
    refine Go.via (fun _ => XS.iconst X187.here hx rfl (hb hby at_57)) ?_
    show Go p e below _ (T187.setTop (mkF m 58 #[.val (.int p1), .val (.int p2), .val (.int p3), .val (.int p4), .val (.int p5), .val (.int (2 : Int32)), .val (.int off), .val (.ref t181), .val (.ref b182), .unset] [(.int (1 : Int32)), (.ref b185), (.ref b185)]))
    refine Go.via (fun _ => XS.iconst X187.here hx rfl (hb hby at_58)) ?_
    show Go p e below _ (T187.setTop (mkF m 59 #[.val (.int p1), .val (.int p2), .val (.int p3), .val (.int p4), .val (.int p5), .val (.int (2 : Int32)), .val (.int off), .val (.ref t181), .val (.ref b182), .unset] [(.int (1 : Int32)), (.int (1 : Int32)), (.ref b185), (.ref b185)]))
    refine Go.via (fun _ => XS.iloadN X187.here hx rfl (hb hby at_59) rfl) ?_
    show Go p e below _ (T187.setTop (mkF m 60 #[.val (.int p1), .val (.int p2), .val (.int p3), .val (.int p4), .val (.int p5), .val (.int (2 : Int32)), .val (.int off), .val (.ref t181), .val (.ref b182), .unset] [(.int p2), (.int (1 : Int32)), (.int (1 : Int32)), (.ref b185), (.ref b185)]))
    refine Go.via (fun _ => XS.iloadN X187.here hx rfl (hb hby at_60) rfl) ?_
    show Go p e below _ (T187.setTop (mkF m 61 #[.val (.int p1), .val (.int p2), .val (.int p3), .val (.int p4), .val (.int p5), .val (.int (2 : Int32)), .val (.int off), .val (.ref t181), .val (.ref b182), .unset] [(.int p3), (.int p2), (.int (1 : Int32)), (.int (1 : Int32)), (.ref b185), (.ref b185)]))
    obtain ⟨_, _, ⟨T188, L188, k188, n188⟩, -, X188, ⟨Lc188, hQ188, l188, y188, z188⟩, st188⟩ := Jvm.LawKit.callS X187 hx (y := (⟨"com/example/sluice/sluice/processor/FlowFileCopyContentPinLaw", "db", "(III)B"⟩ : MethodName)) hown (mvT hZ (hw _ (List.mem_of_getElem? (i := 45) rfl))) (mvT hZ (hw _ (List.mem_of_getElem? (i := 46) rfl))) (mvT hZ (hw _ (List.mem_of_getElem? (i := 3) rfl))) (mvT hZ (hw _ (List.mem_of_getElem? (i := 47) rfl))) (by decide) (backOf (W := 3) (rmDb l Z a0 hw [] (1 : Int32) p2 p3 h187 n0 Zs187) hZ (hw _ (List.mem_of_getElem? (i := 47) rfl)) (hw _ (List.mem_of_getElem? (i := 3) rfl)) (by decide) (by decide)) (g := (mkF m 61 #[.val (.int p1), .val (.int p2), .val (.int p3), .val (.int p4), .val (.int p5), .val (.int (2 : Int32)), .val (.int off), .val (.ref t181), .val (.ref b182), .unset] [(.int p3), (.int p2), (.int (1 : Int32)), (.int (1 : Int32)), (.ref b185), (.ref b185)])) rfl (by rw [hml]; rfl) (argsL := [(.int (1 : Int32)), (.int p2), (.int p3)]) (rest := [(.int (1 : Int32)), (.ref b185), (.ref b185)]) (lenOf pd_0 rfl) rfl (by show 2 * 0 + _ ≤ _; exact Nat.le_of_eq rfl) (hb hby at_61) (fun _ _ => ⟨rfl, e187, (by decide : 4 + 0 ≤ _), (by decide : 16 + 0 ≤ _)⟩)
    dsimp only [Pt.U, Pt.locs, Pt.cells, Pt.slots] at X188 l188 y188 z188 st188 hQ188
    rw [l188, y188, z188] at X188
    replace X188 : Stand p l e _ _ m _ below meth c T188 _ 4 16 := X188
    obtain ⟨rfl, N188q, e188q⟩ := hQ188
    have N188 := Fr.app N187 N188q
    refine Go.via st188 ?_
    show Go p e below _ (T188.setTop (mkF m 64 #[.val (.int p1), .val (.int p2), .val (.int p3), .val (.int p4), .val (.int p5), .val (.int (2 : Int32)), .val (.int off), .val (.ref t181), .val (.ref b182), .unset] [(.int (dbF (1 : Int32) p2 p3)), (.int (1 : Int32)), (.ref b185), (.ref b185)]))
    obtain ⟨cl189, Ar189, q189, S189, N189n, H189, G189⟩ := id V187
    have hin189 := inb_of (j := (1 : Int32)) S189 (by decide)
    obtain ⟨T189, h189, X189, e189, W189, st189⟩ := stB X188 hx hZ e188q Ar189 (j := (1 : Int32)) hin189 (g := (mkF m 64 #[.val (.int p1), .val (.int p2), .val (.int p3), .val (.int p4), .val (.int p5), .val (.int (2 : Int32)), .val (.int off), .val (.ref t181), .val (.ref b182), .unset] [(.int (dbF (1 : Int32) p2 p3)), (.int (1 : Int32)), (.ref b185), (.ref b185)])) rfl rfl (hb hby at_64)
    refine Go.via st189 ?_
    have V189 : Arv Z h189 b185 k185 .byte (8 : Int32) [(.int (nar .byte (dbF (0 : Int32) p2 p3))), (.int (nar .byte (dbF (1 : Int32) p2 p3))), (.int (0 : Int32)), (.int (0 : Int32)), (.int (0 : Int32)), (.int (0 : Int32)), (.int (0 : Int32)), (.int (0 : Int32))] (.int (0 : Int32)) := Arv.set Ar189 q189 S189 N189n H189 G189 (fits_nar_byte _) W189 1 rfl (Nat.le_of_ble_eq_true rfl)
    have Zs189 : n0 ≤ h189.size := Nat.le_trans Zs187 (Keep.of_wr W189).1
    have O189 : Old Z n0 h189 := O187.wr W189 g_b185
    have N189 := Fr.snoc X189 N188 g_b185
    have fE_t181_189 := fE_t181_187.wr W189
    have fV_t181_189 := fV_t181_187.other W189 ne_t181_b185
    have fE_b182_189 := fE_b182_187.wr W189
    have fF_b182_content_189 := fF_b182_content_187.other W189 (Or.inl ne_b182_b185)
    have fV_ct184_189 := fV_ct184_187.other W189 ne_ct184_b185
    show Go p e below _ (T189.setTop (mkF m 65 #[.val (.int p1), .val (.int p2), .val (.int p3), .val (.int p4), .val (.int p5), .val (.int (2 : Int32)), .val (.int off), .val (.ref t181), .val (.ref b182), .unset] [(.ref b185)]))
    refine Go.via (fun _ => XS.dup X189.here hx rfl (hb hby at_65) rfl rfl) ?_
    show Go p e below _ (T189.setTop (mkF m 66 #[.val (.int p1), .val (.int p2), .val (.int p3), .val (.int p4), .val (.int p5), .val (.int (2 : Int32)), .val (.int off), .val (.ref t181), .val (.ref b182), .unset] [(.ref b185), (.ref b185)]))
    refine Go.via (fun _ => XS.iconst X189.here hx rfl (hb hby at_66)) ?_
    show Go p e below _ (T189.setTop (mkF m 67 #[.val (.int p1), .val (.int p2), .val (.int p3), .val (.int p4), .val (.int p5), .val (.int (2 : Int32)), .val (.int off), .val (.ref t181), .val (.ref b182), .unset] [(.int (2 : Int32)), (.ref b185), (.ref b185)]))
    refine Go.via (fun _ => XS.iconst X189.here hx rfl (hb hby at_67)) ?_
    show Go p e below _ (T189.setTop (mkF m 68 #[.val (.int p1), .val (.int p2), .val (.int p3), .val (.int p4), .val (.int p5), .val (.int (2 : Int32)), .val (.int off), .val (.ref t181), .val (.ref b182), .unset] [(.int (2 : Int32)), (.int (2 : Int32)), (.ref b185), (.ref b185)]))
    refine Go.via (fun _ => XS.iloadN X189.here hx rfl (hb hby at_68) rfl) ?_
    show Go p e below _ (T189.setTop (mkF m 69 #[.val (.int p1), .val (.int p2), .val (.int p3), .val (.int p4), .val (.int p5), .val (.int (2 : Int32)), .val (.int off), .val (.ref t181), .val (.ref b182), .unset] [(.int p2), (.int (2 : Int32)), (.int (2 : Int32)), (.ref b185), (.ref b185)]))
    refine Go.via (fun _ => XS.iloadN X189.here hx rfl (hb hby at_69) rfl) ?_
    show Go p e below _ (T189.setTop (mkF m 70 #[.val (.int p1), .val (.int p2), .val (.int p3), .val (.int p4), .val (.int p5), .val (.int (2 : Int32)), .val (.int off), .val (.ref t181), .val (.ref b182), .unset] [(.int p3), (.int p2), (.int (2 : Int32)), (.int (2 : Int32)), (.ref b185), (.ref b185)]))
    obtain ⟨_, _, ⟨T190, L190, k190, n190⟩, -, X190, ⟨Lc190, hQ190, l190, y190, z190⟩, st190⟩ := Jvm.LawKit.callS X189 hx (y := (⟨"com/example/sluice/sluice/processor/FlowFileCopyContentPinLaw", "db", "(III)B"⟩ : MethodName)) hown (mvT hZ (hw _ (List.mem_of_getElem? (i := 45) rfl))) (mvT hZ (hw _ (List.mem_of_getElem? (i := 46) rfl))) (mvT hZ (hw _ (List.mem_of_getElem? (i := 3) rfl))) (mvT hZ (hw _ (List.mem_of_getElem? (i := 47) rfl))) (by decide) (backOf (W := 3) (rmDb l Z a0 hw [] (2 : Int32) p2 p3 h189 n0 Zs189) hZ (hw _ (List.mem_of_getElem? (i := 47) rfl)) (hw _ (List.mem_of_getElem? (i := 3) rfl)) (by decide) (by decide)) (g := (mkF m 70 #[.val (.int p1), .val (.int p2), .val (.int p3), .val (.int p4), .val (.int p5), .val (.int (2 : Int32)), .val (.int off), .val (.ref t181), .val (.ref b182), .unset] [(.int p3), (.int p2), (.int (2 : Int32)), (.int (2 : Int32)), (.ref b185), (.ref b185)])) rfl (by rw [hml]; rfl) (argsL := [(.int (2 : Int32)), (.int p2), (.int p3)]) (rest := [(.int (2 : Int32)), (.ref b185), (.ref b185)]) (lenOf pd_0 rfl) rfl (by show 2 * 0 + _ ≤ _; exact Nat.le_of_eq rfl) (hb hby at_70) (fun _ _ => ⟨rfl, e189, (by decide : 4 + 0 ≤ _), (by decide : 16 + 0 ≤ _)⟩)
    dsimp only [Pt.U, Pt.locs, Pt.cells, Pt.slots] at X190 l190 y190 z190 st190 hQ190
    rw [l190, y190, z190] at X190
    replace X190 : Stand p l e _ _ m _ below meth c T190 _ 4 16 := X190
    obtain ⟨rfl, N190q, e190q⟩ := hQ190
    have N190 := Fr.app N189 N190q
    refine Go.via st190 ?_
    show Go p e below _ (T190.setTop (mkF m 73 #[.val (.int p1), .val (.int p2), .val (.int p3), .val (.int p4), .val (.int p5), .val (.int (2 : Int32)), .val (.int off), .val (.ref t181), .val (.ref b182), .unset] [(.int (dbF (2 : Int32) p2 p3)), (.int (2 : Int32)), (.ref b185), (.ref b185)]))
    obtain ⟨cl191, Ar191, q191, S191, N191n, H191, G191⟩ := id V189
    have hin191 := inb_of (j := (2 : Int32)) S191 (by decide)
    obtain ⟨T191, h191, X191, e191, W191, st191⟩ := stB X190 hx hZ e190q Ar191 (j := (2 : Int32)) hin191 (g := (mkF m 73 #[.val (.int p1), .val (.int p2), .val (.int p3), .val (.int p4), .val (.int p5), .val (.int (2 : Int32)), .val (.int off), .val (.ref t181), .val (.ref b182), .unset] [(.int (dbF (2 : Int32) p2 p3)), (.int (2 : Int32)), (.ref b185), (.ref b185)])) rfl rfl (hb hby at_73)
    refine Go.via st191 ?_
    have V191 : Arv Z h191 b185 k185 .byte (8 : Int32) [(.int (nar .byte (dbF (0 : Int32) p2 p3))), (.int (nar .byte (dbF (1 : Int32) p2 p3))), (.int (nar .byte (dbF (2 : Int32) p2 p3))), (.int (0 : Int32)), (.int (0 : Int32)), (.int (0 : Int32)), (.int (0 : Int32)), (.int (0 : Int32))] (.int (0 : Int32)) := Arv.set Ar191 q191 S191 N191n H191 G191 (fits_nar_byte _) W191 2 rfl (Nat.le_of_ble_eq_true rfl)
    have Zs191 : n0 ≤ h191.size := Nat.le_trans Zs189 (Keep.of_wr W191).1
    have O191 : Old Z n0 h191 := O189.wr W191 g_b185
    have N191 := Fr.snoc X191 N190 g_b185
    have fE_t181_191 := fE_t181_189.wr W191
    have fV_t181_191 := fV_t181_189.other W191 ne_t181_b185
    have fE_b182_191 := fE_b182_189.wr W191
    have fF_b182_content_191 := fF_b182_content_189.other W191 (Or.inl ne_b182_b185)
    have fV_ct184_191 := fV_ct184_189.other W191 ne_ct184_b185
    show Go p e below _ (T191.setTop (mkF m 74 #[.val (.int p1), .val (.int p2), .val (.int p3), .val (.int p4), .val (.int p5), .val (.int (2 : Int32)), .val (.int off), .val (.ref t181), .val (.ref b182), .unset] [(.ref b185)]))
    refine Go.via (fun _ => XS.dup X191.here hx rfl (hb hby at_74) rfl rfl) ?_
    show Go p e below _ (T191.setTop (mkF m 75 #[.val (.int p1), .val (.int p2), .val (.int p3), .val (.int p4), .val (.int p5), .val (.int (2 : Int32)), .val (.int off), .val (.ref t181), .val (.ref b182), .unset] [(.ref b185), (.ref b185)]))
    refine Go.via (fun _ => XS.iconst X191.here hx rfl (hb hby at_75)) ?_
    show Go p e below _ (T191.setTop (mkF m 76 #[.val (.int p1), .val (.int p2), .val (.int p3), .val (.int p4), .val (.int p5), .val (.int (2 : Int32)), .val (.int off), .val (.ref t181), .val (.ref b182), .unset] [(.int (3 : Int32)), (.ref b185), (.ref b185)]))
    refine Go.via (fun _ => XS.iconst X191.here hx rfl (hb hby at_76)) ?_
    show Go p e below _ (T191.setTop (mkF m 77 #[.val (.int p1), .val (.int p2), .val (.int p3), .val (.int p4), .val (.int p5), .val (.int (2 : Int32)), .val (.int off), .val (.ref t181), .val (.ref b182), .unset] [(.int (3 : Int32)), (.int (3 : Int32)), (.ref b185), (.ref b185)]))
    refine Go.via (fun _ => XS.iloadN X191.here hx rfl (hb hby at_77) rfl) ?_
    show Go p e below _ (T191.setTop (mkF m 78 #[.val (.int p1), .val (.int p2), .val (.int p3), .val (.int p4), .val (.int p5), .val (.int (2 : Int32)), .val (.int off), .val (.ref t181), .val (.ref b182), .unset] [(.int p2), (.int (3 : Int32)), (.int (3 : Int32)), (.ref b185), (.ref b185)]))
    refine Go.via (fun _ => XS.iloadN X191.here hx rfl (hb hby at_78) rfl) ?_
    show Go p e below _ (T191.setTop (mkF m 79 #[.val (.int p1), .val (.int p2), .val (.int p3), .val (.int p4), .val (.int p5), .val (.int (2 : Int32)), .val (.int off), .val (.ref t181), .val (.ref b182), .unset] [(.int p3), (.int p2), (.int (3 : Int32)), (.int (3 : Int32)), (.ref b185), (.ref b185)]))
    obtain ⟨_, _, ⟨T192, L192, k192, n192⟩, -, X192, ⟨Lc192, hQ192, l192, y192, z192⟩, st192⟩ := Jvm.LawKit.callS X191 hx (y := (⟨"com/example/sluice/sluice/processor/FlowFileCopyContentPinLaw", "db", "(III)B"⟩ : MethodName)) hown (mvT hZ (hw _ (List.mem_of_getElem? (i := 45) rfl))) (mvT hZ (hw _ (List.mem_of_getElem? (i := 46) rfl))) (mvT hZ (hw _ (List.mem_of_getElem? (i := 3) rfl))) (mvT hZ (hw _ (List.mem_of_getElem? (i := 47) rfl))) (by decide) (backOf (W := 3) (rmDb l Z a0 hw [] (3 : Int32) p2 p3 h191 n0 Zs191) hZ (hw _ (List.mem_of_getElem? (i := 47) rfl)) (hw _ (List.mem_of_getElem? (i := 3) rfl)) (by decide) (by decide)) (g := (mkF m 79 #[.val (.int p1), .val (.int p2), .val (.int p3), .val (.int p4), .val (.int p5), .val (.int (2 : Int32)), .val (.int off), .val (.ref t181), .val (.ref b182), .unset] [(.int p3), (.int p2), (.int (3 : Int32)), (.int (3 : Int32)), (.ref b185), (.ref b185)])) rfl (by rw [hml]; rfl) (argsL := [(.int (3 : Int32)), (.int p2), (.int p3)]) (rest := [(.int (3 : Int32)), (.ref b185), (.ref b185)]) (lenOf pd_0 rfl) rfl (by show 2 * 0 + _ ≤ _; exact Nat.le_of_eq rfl) (hb hby at_79) (fun _ _ => ⟨rfl, e191, (by decide : 4 + 0 ≤ _), (by decide : 16 + 0 ≤ _)⟩)
    dsimp only [Pt.U, Pt.locs, Pt.cells, Pt.slots] at X192 l192 y192 z192 st192 hQ192
    rw [l192, y192, z192] at X192
    replace X192 : Stand p l e _ _ m _ below meth c T192 _ 4 16 := X192
    obtain ⟨rfl, N192q, e192q⟩ := hQ192
    have N192 := Fr.app N191 N192q
    refine Go.via st192 ?_
    show Go p e below _ (T192.setTop (mkF m 82 #[.val (.int p1), .val (.int p2), .val (.int p3), .val (.int p4), .val (.int p5), .val (.int (2 : Int32)), .val (.int off), .val (.ref t181), .val (.ref b182), .unset] [(.int (dbF (3 : Int32) p2 p3)), (.int (3 : Int32)), (.ref b185), (.ref b185)]))
    obtain ⟨cl193, Ar193, q193, S193, N193n, H193, G193⟩ := id V191
    have hin193 := inb_of (j := (3 : Int32)) S193 (by decide)
    obtain ⟨T193, h193, X193, e193, W193, st193⟩ := stB X192 hx hZ e192q Ar193 (j := (3 : Int32)) hin193 (g := (mkF m 82 #[.val (.int p1), .val (.int p2), .val (.int p3), .val (.int p4), .val (.int p5), .val (.int (2 : Int32)), .val (.int off), .val (.ref t181), .val (.ref b182), .unset] [(.int (dbF (3 : Int32) p2 p3)), (.int (3 : Int32)), (.ref b185), (.ref b185)])) rfl rfl (hb hby at_82)
    refine Go.via st193 ?_
    have V193 : Arv Z h193 b185 k185 .byte (8 : Int32) [(.int (nar .byte (dbF (0 : Int32) p2 p3))), (.int (nar .byte (dbF (1 : Int32) p2 p3))), (.int (nar .byte (dbF (2 : Int32) p2 p3))), (.int (nar .byte (dbF (3 : Int32) p2 p3))), (.int (0 : Int32)), (.int (0 : Int32)), (.int (0 : Int32)), (.int (0 : Int32))] (.int (0 : Int32)) := Arv.set Ar193 q193 S193 N193n H193 G193 (fits_nar_byte _) W193 3 rfl (Nat.le_of_ble_eq_true rfl)
    have Zs193 : n0 ≤ h193.size := Nat.le_trans Zs191 (Keep.of_wr W193).1
    have O193 : Old Z n0 h193 := O191.wr W193 g_b185
    have N193 := Fr.snoc X193 N192 g_b185
    have fE_t181_193 := fE_t181_191.wr W193
    have fV_t181_193 := fV_t181_191.other W193 ne_t181_b185
    have fE_b182_193 := fE_b182_191.wr W193
    have fF_b182_content_193 := fF_b182_content_191.other W193 (Or.inl ne_b182_b185)
    have fV_ct184_193 := fV_ct184_191.other W193 ne_ct184_b185
    show Go p e below _ (T193.setTop (mkF m 83 #[.val (.int p1), .val (.int p2), .val (.int p3), .val (.int p4), .val (.int p5), .val (.int (2 : Int32)), .val (.int off), .val (.ref t181), .val (.ref b182), .unset] [(.ref b185)]))
    refine Go.via (fun _ => XS.dup X193.here hx rfl (hb hby at_83) rfl rfl) ?_
    show Go p e below _ (T193.setTop (mkF m 84 #[.val (.int p1), .val (.int p2), .val (.int p3), .val (.int p4), .val (.int p5), .val (.int (2 : Int32)), .val (.int off), .val (.ref t181), .val (.ref b182), .unset] [(.ref b185), (.ref b185)]))
    refine Go.via (fun _ => XS.iconst X193.here hx rfl (hb hby at_84)) ?_
    show Go p e below _ (T193.setTop (mkF m 85 #[.val (.int p1), .val (.int p2), .val (.int p3), .val (.int p4), .val (.int p5), .val (.int (2 : Int32)), .val (.int off), .val (.ref t181), .val (.ref b182), .unset] [(.int (4 : Int32)), (.ref b185), (.ref b185)]))
    refine Go.via (fun _ => XS.iconst X193.here hx rfl (hb hby at_85)) ?_
    show Go p e below _ (T193.setTop (mkF m 86 #[.val (.int p1), .val (.int p2), .val (.int p3), .val (.int p4), .val (.int p5), .val (.int (2 : Int32)), .val (.int off), .val (.ref t181), .val (.ref b182), .unset] [(.int (4 : Int32)), (.int (4 : Int32)), (.ref b185), (.ref b185)]))
    refine Go.via (fun _ => XS.iloadN X193.here hx rfl (hb hby at_86) rfl) ?_
    show Go p e below _ (T193.setTop (mkF m 87 #[.val (.int p1), .val (.int p2), .val (.int p3), .val (.int p4), .val (.int p5), .val (.int (2 : Int32)), .val (.int off), .val (.ref t181), .val (.ref b182), .unset] [(.int p2), (.int (4 : Int32)), (.int (4 : Int32)), (.ref b185), (.ref b185)]))
    refine Go.via (fun _ => XS.iloadN X193.here hx rfl (hb hby at_87) rfl) ?_
    show Go p e below _ (T193.setTop (mkF m 88 #[.val (.int p1), .val (.int p2), .val (.int p3), .val (.int p4), .val (.int p5), .val (.int (2 : Int32)), .val (.int off), .val (.ref t181), .val (.ref b182), .unset] [(.int p3), (.int p2), (.int (4 : Int32)), (.int (4 : Int32)), (.ref b185), (.ref b185)]))
    obtain ⟨_, _, ⟨T194, L194, k194, n194⟩, -, X194, ⟨Lc194, hQ194, l194, y194, z194⟩, st194⟩ := Jvm.LawKit.callS X193 hx (y := (⟨"com/example/sluice/sluice/processor/FlowFileCopyContentPinLaw", "db", "(III)B"⟩ : MethodName)) hown (mvT hZ (hw _ (List.mem_of_getElem? (i := 45) rfl))) (mvT hZ (hw _ (List.mem_of_getElem? (i := 46) rfl))) (mvT hZ (hw _ (List.mem_of_getElem? (i := 3) rfl))) (mvT hZ (hw _ (List.mem_of_getElem? (i := 47) rfl))) (by decide) (backOf (W := 3) (rmDb l Z a0 hw [] (4 : Int32) p2 p3 h193 n0 Zs193) hZ (hw _ (List.mem_of_getElem? (i := 47) rfl)) (hw _ (List.mem_of_getElem? (i := 3) rfl)) (by decide) (by decide)) (g := (mkF m 88 #[.val (.int p1), .val (.int p2), .val (.int p3), .val (.int p4), .val (.int p5), .val (.int (2 : Int32)), .val (.int off), .val (.ref t181), .val (.ref b182), .unset] [(.int p3), (.int p2), (.int (4 : Int32)), (.int (4 : Int32)), (.ref b185), (.ref b185)])) rfl (by rw [hml]; rfl) (argsL := [(.int (4 : Int32)), (.int p2), (.int p3)]) (rest := [(.int (4 : Int32)), (.ref b185), (.ref b185)]) (lenOf pd_0 rfl) rfl (by show 2 * 0 + _ ≤ _; exact Nat.le_of_eq rfl) (hb hby at_88) (fun _ _ => ⟨rfl, e193, (by decide : 4 + 0 ≤ _), (by decide : 16 + 0 ≤ _)⟩)
    dsimp only [Pt.U, Pt.locs, Pt.cells, Pt.slots] at X194 l194 y194 z194 st194 hQ194
    rw [l194, y194, z194] at X194
    replace X194 : Stand p l e _ _ m _ below meth c T194 _ 4 16 := X194
    obtain ⟨rfl, N194q, e194q⟩ := hQ194
    have N194 := Fr.app N193 N194q
    refine Go.via st194 ?_
    show Go p e below _ (T194.setTop (mkF m 91 #[.val (.int p1), .val (.int p2), .val (.int p3), .val (.int p4), .val (.int p5), .val (.int (2 : Int32)), .val (.int off), .val (.ref t181), .val (.ref b182), .unset] [(.int (dbF (4 : Int32) p2 p3)), (.int (4 : Int32)), (.ref b185), (.ref b185)]))
    obtain ⟨cl195, Ar195, q195, S195, N195n, H195, G195⟩ := id V193
    have hin195 := inb_of (j := (4 : Int32)) S195 (by decide)
    obtain ⟨T195, h195, X195, e195, W195, st195⟩ := stB X194 hx hZ e194q Ar195 (j := (4 : Int32)) hin195 (g := (mkF m 91 #[.val (.int p1), .val (.int p2), .val (.int p3), .val (.int p4), .val (.int p5), .val (.int (2 : Int32)), .val (.int off), .val (.ref t181), .val (.ref b182), .unset] [(.int (dbF (4 : Int32) p2 p3)), (.int (4 : Int32)), (.ref b185), (.ref b185)])) rfl rfl (hb hby at_91)
    refine Go.via st195 ?_
    have V195 : Arv Z h195 b185 k185 .byte (8 : Int32) [(.int (nar .byte (dbF (0 : Int32) p2 p3))), (.int (nar .byte (dbF (1 : Int32) p2 p3))), (.int (nar .byte (dbF (2 : Int32) p2 p3))), (.int (nar .byte (dbF (3 : Int32) p2 p3))), (.int (nar .byte (dbF (4 : Int32) p2 p3))), (.int (0 : Int32)), (.int (0 : Int32)), (.int (0 : Int32))] (.int (0 : Int32)) := Arv.set Ar195 q195 S195 N195n H195 G195 (fits_nar_byte _) W195 4 rfl (Nat.le_of_ble_eq_true rfl)
    have Zs195 : n0 ≤ h195.size := Nat.le_trans Zs193 (Keep.of_wr W195).1
    have O195 : Old Z n0 h195 := O193.wr W195 g_b185
    have N195 := Fr.snoc X195 N194 g_b185
    have fE_t181_195 := fE_t181_193.wr W195
    have fV_t181_195 := fV_t181_193.other W195 ne_t181_b185
    have fE_b182_195 := fE_b182_193.wr W195
    have fF_b182_content_195 := fF_b182_content_193.other W195 (Or.inl ne_b182_b185)
    have fV_ct184_195 := fV_ct184_193.other W195 ne_ct184_b185
    show Go p e below _ (T195.setTop (mkF m 92 #[.val (.int p1), .val (.int p2), .val (.int p3), .val (.int p4), .val (.int p5), .val (.int (2 : Int32)), .val (.int off), .val (.ref t181), .val (.ref b182), .unset] [(.ref b185)]))
    refine Go.via (fun _ => XS.dup X195.here hx rfl (hb hby at_92) rfl rfl) ?_
    show Go p e below _ (T195.setTop (mkF m 93 #[.val (.int p1), .val (.int p2), .val (.int p3), .val (.int p4), .val (.int p5), .val (.int (2 : Int32)), .val (.int off), .val (.ref t181), .val (.ref b182), .unset] [(.ref b185), (.ref b185)]))
    refine Go.via (fun _ => XS.iconst X195.here hx rfl (hb hby at_93)) ?_
    show Go p e below _ (T195.setTop (mkF m 94 #[.val (.int p1), .val (.int p2), .val (.int p3), .val (.int p4), .val (.int p5), .val (.int (2 : Int32)), .val (.int off), .val (.ref t181), .val (.ref b182), .unset] [(.int (5 : Int32)), (.ref b185), (.ref b185)]))
    refine Go.via (fun _ => XS.iconst X195.here hx rfl (hb hby at_94)) ?_
    show Go p e below _ (T195.setTop (mkF m 95 #[.val (.int p1), .val (.int p2), .val (.int p3), .val (.int p4), .val (.int p5), .val (.int (2 : Int32)), .val (.int off), .val (.ref t181), .val (.ref b182), .unset] [(.int (5 : Int32)), (.int (5 : Int32)), (.ref b185), (.ref b185)]))
    refine Go.via (fun _ => XS.iloadN X195.here hx rfl (hb hby at_95) rfl) ?_
    show Go p e below _ (T195.setTop (mkF m 96 #[.val (.int p1), .val (.int p2), .val (.int p3), .val (.int p4), .val (.int p5), .val (.int (2 : Int32)), .val (.int off), .val (.ref t181), .val (.ref b182), .unset] [(.int p2), (.int (5 : Int32)), (.int (5 : Int32)), (.ref b185), (.ref b185)]))
    refine Go.via (fun _ => XS.iloadN X195.here hx rfl (hb hby at_96) rfl) ?_
    show Go p e below _ (T195.setTop (mkF m 97 #[.val (.int p1), .val (.int p2), .val (.int p3), .val (.int p4), .val (.int p5), .val (.int (2 : Int32)), .val (.int off), .val (.ref t181), .val (.ref b182), .unset] [(.int p3), (.int p2), (.int (5 : Int32)), (.int (5 : Int32)), (.ref b185), (.ref b185)]))
    obtain ⟨_, _, ⟨T196, L196, k196, n196⟩, -, X196, ⟨Lc196, hQ196, l196, y196, z196⟩, st196⟩ := Jvm.LawKit.callS X195 hx (y := (⟨"com/example/sluice/sluice/processor/FlowFileCopyContentPinLaw", "db", "(III)B"⟩ : MethodName)) hown (mvT hZ (hw _ (List.mem_of_getElem? (i := 45) rfl))) (mvT hZ (hw _ (List.mem_of_getElem? (i := 46) rfl))) (mvT hZ (hw _ (List.mem_of_getElem? (i := 3) rfl))) (mvT hZ (hw _ (List.mem_of_getElem? (i := 47) rfl))) (by decide) (backOf (W := 3) (rmDb l Z a0 hw [] (5 : Int32) p2 p3 h195 n0 Zs195) hZ (hw _ (List.mem_of_getElem? (i := 47) rfl)) (hw _ (List.mem_of_getElem? (i := 3) rfl)) (by decide) (by decide)) (g := (mkF m 97 #[.val (.int p1), .val (.int p2), .val (.int p3), .val (.int p4), .val (.int p5), .val (.int (2 : Int32)), .val (.int off), .val (.ref t181), .val (.ref b182), .unset] [(.int p3), (.int p2), (.int (5 : Int32)), (.int (5 : Int32)), (.ref b185), (.ref b185)])) rfl (by rw [hml]; rfl) (argsL := [(.int (5 : Int32)), (.int p2), (.int p3)]) (rest := [(.int (5 : Int32)), (.ref b185), (.ref b185)]) (lenOf pd_0 rfl) rfl (by show 2 * 0 + _ ≤ _; exact Nat.le_of_eq rfl) (hb hby at_97) (fun _ _ => ⟨rfl, e195, (by decide : 4 + 0 ≤ _), (by decide : 16 + 0 ≤ _)⟩)
    dsimp only [Pt.U, Pt.locs, Pt.cells, Pt.slots] at X196 l196 y196 z196 st196 hQ196
    rw [l196, y196, z196] at X196
    replace X196 : Stand p l e _ _ m _ below meth c T196 _ 4 16 := X196
    obtain ⟨rfl, N196q, e196q⟩ := hQ196
    have N196 := Fr.app N195 N196q
    refine Go.via st196 ?_
    show Go p e below _ (T196.setTop (mkF m 100 #[.val (.int p1), .val (.int p2), .val (.int p3), .val (.int p4), .val (.int p5), .val (.int (2 : Int32)), .val (.int off), .val (.ref t181), .val (.ref b182), .unset] [(.int (dbF (5 : Int32) p2 p3)), (.int (5 : Int32)), (.ref b185), (.ref b185)]))
    obtain ⟨cl197, Ar197, q197, S197, N197n, H197, G197⟩ := id V195
    have hin197 := inb_of (j := (5 : Int32)) S197 (by decide)
    obtain ⟨T197, h197, X197, e197, W197, st197⟩ := stB X196 hx hZ e196q Ar197 (j := (5 : Int32)) hin197 (g := (mkF m 100 #[.val (.int p1), .val (.int p2), .val (.int p3), .val (.int p4), .val (.int p5), .val (.int (2 : Int32)), .val (.int off), .val (.ref t181), .val (.ref b182), .unset] [(.int (dbF (5 : Int32) p2 p3)), (.int (5 : Int32)), (.ref b185), (.ref b185)])) rfl rfl (hb hby at_100)
    refine Go.via st197 ?_
    have V197 : Arv Z h197 b185 k185 .byte (8 : Int32) [(.int (nar .byte (dbF (0 : Int32) p2 p3))), (.int (nar .byte (dbF (1 : Int32) p2 p3))), (.int (nar .byte (dbF (2 : Int32) p2 p3))), (.int (nar .byte (dbF (3 : Int32) p2 p3))), (.int (nar .byte (dbF (4 : Int32) p2 p3))), (.int (nar .byte (dbF (5 : Int32) p2 p3))), (.int (0 : Int32)), (.int (0 : Int32))] (.int (0 : Int32)) := Arv.set Ar197 q197 S197 N197n H197 G197 (fits_nar_byte _) W197 5 rfl (Nat.le_of_ble_eq_true rfl)
    have Zs197 : n0 ≤ h197.size := Nat.le_trans Zs195 (Keep.of_wr W197).1
    have O197 : Old Z n0 h197 := O195.wr W197 g_b185
    have N197 := Fr.snoc X197 N196 g_b185
    have fE_t181_197 := fE_t181_195.wr W197
    have fV_t181_197 := fV_t181_195.other W197 ne_t181_b185
    have fE_b182_197 := fE_b182_195.wr W197
    have fF_b182_content_197 := fF_b182_content_195.other W197 (Or.inl ne_b182_b185)
    have fV_ct184_197 := fV_ct184_195.other W197 ne_ct184_b185
    show Go p e below _ (T197.setTop (mkF m 101 #[.val (.int p1), .val (.int p2), .val (.int p3), .val (.int p4), .val (.int p5), .val (.int (2 : Int32)), .val (.int off), .val (.ref t181), .val (.ref b182), .unset] [(.ref b185)]))
    refine Go.via (fun _ => XS.dup X197.here hx rfl (hb hby at_101) rfl rfl) ?_
    show Go p e below _ (T197.setTop (mkF m 102 #[.val (.int p1), .val (.int p2), .val (.int p3), .val (.int p4), .val (.int p5), .val (.int (2 : Int32)), .val (.int off), .val (.ref t181), .val (.ref b182), .unset] [(.ref b185), (.ref b185)]))
    refine Go.via (fun _ => XS.bipush X197.here hx rfl (hb hby at_102)) ?_
    show Go p e below _ (T197.setTop (mkF m 104 #[.val (.int p1), .val (.int p2), .val (.int p3), .val (.int p4), .val (.int p5), .val (.int (2 : Int32)), .val (.int off), .val (.ref t181), .val (.ref b182), .unset] [(.int (6 : Int32)), (.ref b185), (.ref b185)]))
    refine Go.via (fun _ => XS.bipush X197.here hx rfl (hb hby at_104)) ?_
    show Go p e below _ (T197.setTop (mkF m 106 #[.val (.int p1), .val (.int p2), .val (.int p3), .val (.int p4), .val (.int p5), .val (.int (2 : Int32)), .val (.int off), .val (.ref t181), .val (.ref b182), .unset] [(.int (6 : Int32)), (.int (6 : Int32)), (.ref b185), (.ref b185)]))
    refine Go.via (fun _ => XS.iloadN X197.here hx rfl (hb hby at_106) rfl) ?_
    show Go p e below _ (T197.setTop (mkF m 107 #[.val (.int p1), .val (.int p2), .val (.int p3), .val (.int p4), .val (.int p5), .val (.int (2 : Int32)), .val (.int off), .val (.ref t181), .val (.ref b182), .unset] [(.int p2), (.int (6 : Int32)), (.int (6 : Int32)), (.ref b185), (.ref b185)]))
    refine Go.via (fun _ => XS.iloadN X197.here hx rfl (hb hby at_107) rfl) ?_
    show Go p e below _ (T197.setTop (mkF m 108 #[.val (.int p1), .val (.int p2), .val (.int p3), .val (.int p4), .val (.int p5), .val (.int (2 : Int32)), .val (.int off), .val (.ref t181), .val (.ref b182), .unset] [(.int p3), (.int p2), (.int (6 : Int32)), (.int (6 : Int32)), (.ref b185), (.ref b185)]))
    obtain ⟨_, _, ⟨T198, L198, k198, n198⟩, -, X198, ⟨Lc198, hQ198, l198, y198, z198⟩, st198⟩ := Jvm.LawKit.callS X197 hx (y := (⟨"com/example/sluice/sluice/processor/FlowFileCopyContentPinLaw", "db", "(III)B"⟩ : MethodName)) hown (mvT hZ (hw _ (List.mem_of_getElem? (i := 45) rfl))) (mvT hZ (hw _ (List.mem_of_getElem? (i := 46) rfl))) (mvT hZ (hw _ (List.mem_of_getElem? (i := 3) rfl))) (mvT hZ (hw _ (List.mem_of_getElem? (i := 47) rfl))) (by decide) (backOf (W := 3) (rmDb l Z a0 hw [] (6 : Int32) p2 p3 h197 n0 Zs197) hZ (hw _ (List.mem_of_getElem? (i := 47) rfl)) (hw _ (List.mem_of_getElem? (i := 3) rfl)) (by decide) (by decide)) (g := (mkF m 108 #[.val (.int p1), .val (.int p2), .val (.int p3), .val (.int p4), .val (.int p5), .val (.int (2 : Int32)), .val (.int off), .val (.ref t181), .val (.ref b182), .unset] [(.int p3), (.int p2), (.int (6 : Int32)), (.int (6 : Int32)), (.ref b185), (.ref b185)])) rfl (by rw [hml]; rfl) (argsL := [(.int (6 : Int32)), (.int p2), (.int p3)]) (rest := [(.int (6 : Int32)), (.ref b185), (.ref b185)]) (lenOf pd_0 rfl) rfl (by show 2 * 0 + _ ≤ _; exact Nat.le_of_eq rfl) (hb hby at_108) (fun _ _ => ⟨rfl, e197, (by decide : 4 + 0 ≤ _), (by decide : 16 + 0 ≤ _)⟩)
    dsimp only [Pt.U, Pt.locs, Pt.cells, Pt.slots] at X198 l198 y198 z198 st198 hQ198
    rw [l198, y198, z198] at X198
    replace X198 : Stand p l e _ _ m _ below meth c T198 _ 4 16 := X198
    obtain ⟨rfl, N198q, e198q⟩ := hQ198
    have N198 := Fr.app N197 N198q
    refine Go.via st198 ?_
    show Go p e below _ (T198.setTop (mkF m 111 #[.val (.int p1), .val (.int p2), .val (.int p3), .val (.int p4), .val (.int p5), .val (.int (2 : Int32)), .val (.int off), .val (.ref t181), .val (.ref b182), .unset] [(.int (dbF (6 : Int32) p2 p3)), (.int (6 : Int32)), (.ref b185), (.ref b185)]))
    obtain ⟨cl199, Ar199, q199, S199, N199n, H199, G199⟩ := id V197
    have hin199 := inb_of (j := (6 : Int32)) S199 (by decide)
    obtain ⟨T199, h199, X199, e199, W199, st199⟩ := stB X198 hx hZ e198q Ar199 (j := (6 : Int32)) hin199 (g := (mkF m 111 #[.val (.int p1), .val (.int p2), .val (.int p3), .val (.int p4), .val (.int p5), .val (.int (2 : Int32)), .val (.int off), .val (.ref t181), .val (.ref b182), .unset] [(.int (dbF (6 : Int32) p2 p3)), (.int (6 : Int32)), (.ref b185), (.ref b185)])) rfl rfl (hb hby at_111)
    refine Go.via st199 ?_
    have V199 : Arv Z h199 b185 k185 .byte (8 : Int32) [(.int (nar .byte (dbF (0 : Int32) p2 p3))), (.int (nar .byte (dbF (1 : Int32) p2 p3))), (.int (nar .byte (dbF (2 : Int32) p2 p3))), (.int (nar .byte (dbF (3 : Int32) p2 p3))), (.int (nar .byte (dbF (4 : Int32) p2 p3))), (.int (nar .byte (dbF (5 : Int32) p2 p3))), (.int (nar .byte (dbF (6 : Int32) p2 p3))), (.int (0 : Int32))] (.int (0 : Int32)) := Arv.set Ar199 q199 S199 N199n H199 G199 (fits_nar_byte _) W199 6 rfl (Nat.le_of_ble_eq_true rfl)
    have Zs199 : n0 ≤ h199.size := Nat.le_trans Zs197 (Keep.of_wr W199).1
    have O199 : Old Z n0 h199 := O197.wr W199 g_b185
    have N199 := Fr.snoc X199 N198 g_b185
    have fE_t181_199 := fE_t181_197.wr W199
    have fV_t181_199 := fV_t181_197.other W199 ne_t181_b185
    have fE_b182_199 := fE_b182_197.wr W199
    have fF_b182_content_199 := fF_b182_content_197.other W199 (Or.inl ne_b182_b185)
    have fV_ct184_199 := fV_ct184_197.other W199 ne_ct184_b185
    show Go p e below _ (T199.setTop (mkF m 112 #[.val (.int p1), .val (.int p2), .val (.int p3), .val (.int p4), .val (.int p5), .val (.int (2 : Int32)), .val (.int off), .val (.ref t181), .val (.ref b182), .unset] [(.ref b185)]))
    refine Go.via (fun _ => XS.dup X199.here hx rfl (hb hby at_112) rfl rfl) ?_
    show Go p e below _ (T199.setTop (mkF m 113 #[.val (.int p1), .val (.int p2), .val (.int p3), .val (.int p4), .val (.int p5), .val (.int (2 : Int32)), .val (.int off), .val (.ref t181), .val (.ref b182), .unset] [(.ref b185), (.ref b185)]))
    refine Go.via (fun _ => XS.bipush X199.here hx rfl (hb hby at_113)) ?_
    show Go p e below _ (T199.setTop (mkF m 115 #[.val (.int p1), .val (.int p2), .val (.int p3), .val (.int p4), .val (.int p5), .val (.int (2 : Int32)), .val (.int off), .val (.ref t181), .val (.ref b182), .unset] [(.int (7 : Int32)), (.ref b185), (.ref b185)]))
    refine Go.via (fun _ => XS.bipush X199.here hx rfl (hb hby at_115)) ?_
    show Go p e below _ (T199.setTop (mkF m 117 #[.val (.int p1), .val (.int p2), .val (.int p3), .val (.int p4), .val (.int p5), .val (.int (2 : Int32)), .val (.int off), .val (.ref t181), .val (.ref b182), .unset] [(.int (7 : Int32)), (.int (7 : Int32)), (.ref b185), (.ref b185)]))
    refine Go.via (fun _ => XS.iloadN X199.here hx rfl (hb hby at_117) rfl) ?_
    show Go p e below _ (T199.setTop (mkF m 118 #[.val (.int p1), .val (.int p2), .val (.int p3), .val (.int p4), .val (.int p5), .val (.int (2 : Int32)), .val (.int off), .val (.ref t181), .val (.ref b182), .unset] [(.int p2), (.int (7 : Int32)), (.int (7 : Int32)), (.ref b185), (.ref b185)]))
    refine Go.via (fun _ => XS.iloadN X199.here hx rfl (hb hby at_118) rfl) ?_
    show Go p e below _ (T199.setTop (mkF m 119 #[.val (.int p1), .val (.int p2), .val (.int p3), .val (.int p4), .val (.int p5), .val (.int (2 : Int32)), .val (.int off), .val (.ref t181), .val (.ref b182), .unset] [(.int p3), (.int p2), (.int (7 : Int32)), (.int (7 : Int32)), (.ref b185), (.ref b185)]))
    obtain ⟨_, _, ⟨T200, L200, k200, n200⟩, -, X200, ⟨Lc200, hQ200, l200, y200, z200⟩, st200⟩ := Jvm.LawKit.callS X199 hx (y := (⟨"com/example/sluice/sluice/processor/FlowFileCopyContentPinLaw", "db", "(III)B"⟩ : MethodName)) hown (mvT hZ (hw _ (List.mem_of_getElem? (i := 45) rfl))) (mvT hZ (hw _ (List.mem_of_getElem? (i := 46) rfl))) (mvT hZ (hw _ (List.mem_of_getElem? (i := 3) rfl))) (mvT hZ (hw _ (List.mem_of_getElem? (i := 47) rfl))) (by decide) (backOf (W := 3) (rmDb l Z a0 hw [] (7 : Int32) p2 p3 h199 n0 Zs199) hZ (hw _ (List.mem_of_getElem? (i := 47) rfl)) (hw _ (List.mem_of_getElem? (i := 3) rfl)) (by decide) (by decide)) (g := (mkF m 119 #[.val (.int p1), .val (.int p2), .val (.int p3), .val (.int p4), .val (.int p5), .val (.int (2 : Int32)), .val (.int off), .val (.ref t181), .val (.ref b182), .unset] [(.int p3), (.int p2), (.int (7 : Int32)), (.int (7 : Int32)), (.ref b185), (.ref b185)])) rfl (by rw [hml]; rfl) (argsL := [(.int (7 : Int32)), (.int p2), (.int p3)]) (rest := [(.int (7 : Int32)), (.ref b185), (.ref b185)]) (lenOf pd_0 rfl) rfl (by show 2 * 0 + _ ≤ _; exact Nat.le_of_eq rfl) (hb hby at_119) (fun _ _ => ⟨rfl, e199, (by decide : 4 + 0 ≤ _), (by decide : 16 + 0 ≤ _)⟩)
    dsimp only [Pt.U, Pt.locs, Pt.cells, Pt.slots] at X200 l200 y200 z200 st200 hQ200
    rw [l200, y200, z200] at X200
    replace X200 : Stand p l e _ _ m _ below meth c T200 _ 4 16 := X200
    obtain ⟨rfl, N200q, e200q⟩ := hQ200
    have N200 := Fr.app N199 N200q
    refine Go.via st200 ?_
    show Go p e below _ (T200.setTop (mkF m 122 #[.val (.int p1), .val (.int p2), .val (.int p3), .val (.int p4), .val (.int p5), .val (.int (2 : Int32)), .val (.int off), .val (.ref t181), .val (.ref b182), .unset] [(.int (dbF (7 : Int32) p2 p3)), (.int (7 : Int32)), (.ref b185), (.ref b185)]))
    obtain ⟨cl201, Ar201, q201, S201, N201n, H201, G201⟩ := id V199
    have hin201 := inb_of (j := (7 : Int32)) S201 (by decide)
    obtain ⟨T201, h201, X201, e201, W201, st201⟩ := stB X200 hx hZ e200q Ar201 (j := (7 : Int32)) hin201 (g := (mkF m 122 #[.val (.int p1), .val (.int p2), .val (.int p3), .val (.int p4), .val (.int p5), .val (.int (2 : Int32)), .val (.int off), .val (.ref t181), .val (.ref b182), .unset] [(.int (dbF (7 : Int32) p2 p3)), (.int (7 : Int32)), (.ref b185), (.ref b185)])) rfl rfl (hb hby at_122)
    refine Go.via st201 ?_
    have V201 : Arv Z h201 b185 k185 .byte (8 : Int32) [(.int (nar .byte (dbF (0 : Int32) p2 p3))), (.int (nar .byte (dbF (1 : Int32) p2 p3))), (.int (nar .byte (dbF (2 : Int32) p2 p3))), (.int (nar .byte (dbF (3 : Int32) p2 p3))), (.int (nar .byte (dbF (4 : Int32) p2 p3))), (.int (nar .byte (dbF (5 : Int32) p2 p3))), (.int (nar .byte (dbF (6 : Int32) p2 p3))), (.int (nar .byte (dbF (7 : Int32) p2 p3)))] (.int (0 : Int32)) := Arv.set Ar201 q201 S201 N201n H201 G201 (fits_nar_byte _) W201 7 rfl (Nat.le_of_ble_eq_true rfl)
    have Zs201 : n0 ≤ h201.size := Nat.le_trans Zs199 (Keep.of_wr W201).1
    have O201 : Old Z n0 h201 := O199.wr W201 g_b185
    have N201 := Fr.snoc X201 N200 g_b185
    have fE_t181_201 := fE_t181_199.wr W201
    have fV_t181_201 := fV_t181_199.other W201 ne_t181_b185
    have fE_b182_201 := fE_b182_199.wr W201
    have fF_b182_content_201 := fF_b182_content_199.other W201 (Or.inl ne_b182_b185)
    have fV_ct184_201 := fV_ct184_199.other W201 ne_ct184_b185
    show Go p e below _ (T201.setTop (mkF m 123 #[.val (.int p1), .val (.int p2), .val (.int p3), .val (.int p4), .val (.int p5), .val (.int (2 : Int32)), .val (.int off), .val (.ref t181), .val (.ref b182), .unset] [(.ref b185)]))
    refine Go.via (fun _ => XS.astore X201.here hx rfl (hb hby at_123) rfl rfl (l' := #[.val (.int p1), .val (.int p2), .val (.int p3), .val (.int p4), .val (.int p5), .val (.int (2 : Int32)), .val (.int off), .val (.ref t181), .val (.ref b182), .val (.ref b185)]) rfl) ?_
    show Go p e below _ (T201.setTop (mkF m 125 #[.val (.int p1), .val (.int p2), .val (.int p3), .val (.int p4), .val (.int p5), .val (.int (2 : Int32)), .val (.int off), .val (.ref t181), .val (.ref b182), .val (.ref b185)] []))
    refine Go.via (fun _ => XS.aload X201.here hx rfl (hb hby at_125) rfl rfl) ?_
    show Go p e below _ (T201.setTop (mkF m 127 #[.val (.int p1), .val (.int p2), .val (.int p3), .val (.int p4), .val (.int p5), .val (.int (2 : Int32)), .val (.int off), .val (.ref t181), .val (.ref b182), .val (.ref b185)] [(.ref b182)]))
    refine Go.via (fun _ => XS.aload X201.here hx rfl (hb hby at_127) rfl rfl) ?_
    show Go p e below _ (T201.setTop (mkF m 129 #[.val (.int p1), .val (.int p2), .val (.int p3), .val (.int p4), .val (.int p5), .val (.int (2 : Int32)), .val (.int off), .val (.ref t181), .val (.ref b182), .val (.ref b185)] [(.ref b185), (.ref b182)]))
    refine Go.via (fun _ => XS.iload X201.here hx rfl (hb hby at_129) rfl) ?_
    show Go p e below _ (T201.setTop (mkF m 131 #[.val (.int p1), .val (.int p2), .val (.int p3), .val (.int p4), .val (.int p5), .val (.int (2 : Int32)), .val (.int off), .val (.ref t181), .val (.ref b182), .val (.ref b185)] [(.int off), (.ref b185), (.ref b182)]))
    obtain ⟨cq202, kq202, q202a, q202b, q202c⟩ := isOf hZ e201 fE_b182_201
    obtain ⟨_, _, ⟨T202, L202, k202, n202⟩, -, X202, ⟨Lc202, hQ202, l202, y202, z202⟩, st202⟩ := X201.virtualBack hx (y := (⟨"com/example/sluice/sluice/processor/FlowFile", "copyContent", "([BI)V"⟩ : MethodName)) (z := (⟨"com/example/sluice/sluice/processor/FlowFile", "copyContent", "([BI)V"⟩ : MethodName)) hown (mvT hZ (hw _ (List.mem_of_getElem? (i := 48) rfl))) (mvT hZ (hw _ (List.mem_of_getElem? (i := 49) rfl))) (notFace_of_selects (args := #[]) (mvT hZ (hw _ (List.mem_of_getElem? (i := 51) rfl)))) (mvT hZ (hw _ (List.mem_of_getElem? (i := 51) rfl))) (mvT hZ (hw _ (List.mem_of_getElem? (i := 50) rfl))) (by decide) (backOf (W := 0) (rmCC l Z a0 hw [] b182 ct184 kb181 (2 : Int32) _ b185 k185 _ off h201 n0 Zs201 fF_b182_content_201 fV_ct184_201 V201 g_b185 (own_neg2 hoff) (by decide) (own_le2 hoff) rfl) hZ (hw _ (List.mem_of_getElem? (i := 52) rfl)) (hw _ (List.mem_of_getElem? (i := 11) rfl)) (by decide) (by decide)) q202a q202c (g := (mkF m 131 #[.val (.int p1), .val (.int p2), .val (.int p3), .val (.int p4), .val (.int p5), .val (.int (2 : Int32)), .val (.int off), .val (.ref t181), .val (.ref b182), .val (.ref b185)] [(.int off), (.ref b185), (.ref b182)])) rfl (by rw [hml]; rfl) (Steps.refl _) (argsL := [(.ref b185), (.int off)]) (rest := []) (lenOf pd_7 rfl) rfl (by show 2 * 0 + _ ≤ _; exact Nat.le_of_eq rfl) (hb hby at_131) (fun _ _ => ⟨rfl, e201, (by decide : 4 + 0 ≤ _), (by decide : 16 + 0 ≤ _)⟩)
    dsimp only [Pt.U, Pt.locs, Pt.cells, Pt.slots] at X202 l202 y202 z202 st202 hQ202
    rw [l202, y202, z202] at X202
    replace X202 : Stand p l e _ _ m _ below meth c T202 _ 4 16 := X202
    obtain ⟨rfl, N202q, K202q, vb202⟩ := hQ202
    have N202 := Fr.app N201 N202q
    refine Go.tr st202 ?_
    have Zs202 : n0 ≤ T202.heap.size := Nat.le_trans Zs201 K202q.1
    have O202 : Old Z n0 T202.heap := O201.keep K202q (allS g_b185 all0)
    have fE_t181_202 := fE_t181_201.keep K202q
    have fV_t181_202 := fV_t181_201.keep K202q (ninS ne_t181_b185 nin0)
    have fE_b182_202 := fE_b182_201.keep K202q
    have fF_b182_content_202 := fF_b182_content_201.keep K202q (ninS ne_b182_b185 nin0)
    have fV_ct184_202 := fV_ct184_201.keep K202q (ninS ne_ct184_b185 nin0)
    rw [own_mix2 p1 p2 p3 off hoff] at vb202
    show Go p e below _ (T202.setTop (mkF m 134 #[.val (.int p1), .val (.int p2), .val (.int p3), .val (.int p4), .val (.int p5), .val (.int (2 : Int32)), .val (.int off), .val (.ref t181), .val (.ref b182), .val (.ref b185)] []))
    refine Go.via (fun _ => XS.aload X202.here hx rfl (hb hby at_134) rfl rfl) ?_
    show Go p e below _ (T202.setTop (mkF m 136 #[.val (.int p1), .val (.int p2), .val (.int p3), .val (.int p4), .val (.int p5), .val (.int (2 : Int32)), .val (.int off), .val (.ref t181), .val (.ref b182), .val (.ref b185)] [(.ref b182)]))
    obtain ⟨cq203, kq203, q203a, q203b, q203c⟩ := isOf hZ rfl fE_b182_202
    obtain ⟨_, _, ⟨T203, L203, k203, n203⟩, -, X203, ⟨Lc203, hQ203, l203, y203, z203⟩, st203⟩ := X202.virtualBack hx (y := (⟨"com/example/sluice/sluice/processor/FlowFile", "size", "()I"⟩ : MethodName)) (z := (⟨"com/example/sluice/sluice/processor/FlowFile", "size", "()I"⟩ : MethodName)) hown (mvT hZ (hw _ (List.mem_of_getElem? (i := 57) rfl))) (mvT hZ (hw _ (List.mem_of_getElem? (i := 58) rfl))) (notFace_of_selects (args := #[]) (mvT hZ (hw _ (List.mem_of_getElem? (i := 60) rfl)))) (mvT hZ (hw _ (List.mem_of_getElem? (i := 60) rfl))) (mvT hZ (hw _ (List.mem_of_getElem? (i := 59) rfl))) (by decide) (backOf (W := 0) (rmSz l Z a0 hw [] b182 ct184 kb181 (2 : Int32) _ T202.heap n0 Zs202 fF_b182_content_202 fV_ct184_202) hZ (hw _ (List.mem_of_getElem? (i := 61) rfl)) (hw _ (List.mem_of_getElem? (i := 11) rfl)) (by decide) (by decide)) q203a q203c (g := (mkF m 136 #[.val (.int p1), .val (.int p2), .val (.int p3), .val (.int p4), .val (.int p5), .val (.int (2 : Int32)), .val (.int off), .val (.ref t181), .val (.ref b182), .val (.ref b185)] [(.ref b182)])) rfl (by rw [hml]; rfl) (Steps.refl _) (argsL := []) (rest := []) (lenOf pd_8 rfl) rfl (by show 2 * 0 + _ ≤ _; exact Nat.le_of_eq rfl) (hb hby at_136) (fun _ _ => ⟨rfl, rfl, (by decide : 4 + 0 ≤ _), (by decide : 16 + 0 ≤ _)⟩)
    dsimp only [Pt.U, Pt.locs, Pt.cells, Pt.slots] at X203 l203 y203 z203 st203 hQ203
    rw [l203, y203, z203] at X203
    replace X203 : Stand p l e _ _ m _ below meth c T203 _ 4 16 := X203
    obtain ⟨rfl, N203q, e203q⟩ := hQ203
    have N203 := Fr.app N202 N203q
    refine Go.tr st203 ?_
    show Go p e below _ (T203.setTop (mkF m 139 #[.val (.int p1), .val (.int p2), .val (.int p3), .val (.int p4), .val (.int p5), .val (.int (2 : Int32)), .val (.int off), .val (.ref t181), .val (.ref b182), .val (.ref b185)] [(.int (2 : Int32))]))
    refine Go.via (fun _ => XS.iload X203.here hx rfl (hb hby at_139) rfl) ?_
    show Go p e below _ (T203.setTop (mkF m 141 #[.val (.int p1), .val (.int p2), .val (.int p3), .val (.int p4), .val (.int p5), .val (.int (2 : Int32)), .val (.int off), .val (.ref t181), .val (.ref b182), .val (.ref b185)] [(.int (2 : Int32)), (.int (2 : Int32))]))
    refine Go.via (fun _ => XS.icmpNo X203.here hx rfl (hb hby at_141) rfl (by decide)) ?_
    show Go p e below _ (T203.setTop (mkF m 144 #[.val (.int p1), .val (.int p2), .val (.int p3), .val (.int p4), .val (.int p5), .val (.int (2 : Int32)), .val (.int off), .val (.ref t181), .val (.ref b182), .val (.ref b185)] []))
    refine Go.via (fun _ => XS.aload X203.here hx rfl (hb hby at_144) rfl rfl) ?_
    show Go p e below _ (T203.setTop (mkF m 146 #[.val (.int p1), .val (.int p2), .val (.int p3), .val (.int p4), .val (.int p5), .val (.int (2 : Int32)), .val (.int off), .val (.ref t181), .val (.ref b182), .val (.ref b185)] [(.ref b185)]))
    obtain ⟨cl204, Ar204, -, S204, N204n, -, -⟩ := id vb202
    have al204 := X203.arraylength hx (by rw [e203q]; exact Ar204.1) (State.isArrayOf_alike hZ.alike Ar204.2.1) (g := (mkF m 146 #[.val (.int p1), .val (.int p2), .val (.int p3), .val (.int p4), .val (.int p5), .val (.int (2 : Int32)), .val (.int off), .val (.ref t181), .val (.ref b182), .val (.ref b185)] [(.ref b185)])) rfl rfl (hb hby at_146)
    rw [len_of S204 N204n] at al204
    refine Go.via al204 ?_
    show Go p e below _ (T203.setTop (mkF m 147 #[.val (.int p1), .val (.int p2), .val (.int p3), .val (.int p4), .val (.int p5), .val (.int (2 : Int32)), .val (.int off), .val (.ref t181), .val (.ref b182), .val (.ref b185)] [(.int (8 : Int32))]))
    refine Go.via (fun _ => XS.bipush X203.here hx rfl (hb hby at_147)) ?_
    show Go p e below _ (T203.setTop (mkF m 149 #[.val (.int p1), .val (.int p2), .val (.int p3), .val (.int p4), .val (.int p5), .val (.int (2 : Int32)), .val (.int off), .val (.ref t181), .val (.ref b182), .val (.ref b185)] [(.int (8 : Int32)), (.int (8 : Int32))]))
    refine Go.via (fun _ => XS.icmpNo X203.here hx rfl (hb hby at_149) rfl (by decide)) ?_
    show Go p e below _ (T203.setTop (mkF m 152 #[.val (.int p1), .val (.int p2), .val (.int p3), .val (.int p4), .val (.int p5), .val (.int (2 : Int32)), .val (.int off), .val (.ref t181), .val (.ref b182), .val (.ref b185)] []))
    refine Go.via (fun _ => XS.aload X203.here hx rfl (hb hby at_152) rfl rfl) ?_
    show Go p e below _ (T203.setTop (mkF m 154 #[.val (.int p1), .val (.int p2), .val (.int p3), .val (.int p4), .val (.int p5), .val (.int (2 : Int32)), .val (.int off), .val (.ref t181), .val (.ref b182), .val (.ref b185)] [(.ref b185)]))
    refine Go.via (fun _ => XS.iconst X203.here hx rfl (hb hby at_154)) ?_
    show Go p e below _ (T203.setTop (mkF m 155 #[.val (.int p1), .val (.int p2), .val (.int p3), .val (.int p4), .val (.int p5), .val (.int (2 : Int32)), .val (.int off), .val (.ref t181), .val (.ref b182), .val (.ref b185)] [(.int (0 : Int32)), (.ref b185)]))
    obtain ⟨cl205, Ar205, q205, S205, N205n, H205, G205⟩ := id vb202
    have hin205 := inb_of (j := (0 : Int32)) S205 (by decide)
    have hat205 : cl205.slots[((0 : Int32) : Int32).toNatClampNeg]? = some (.int (exF (0 : Int32) off (2 : Int32) p1 p2 p3)) := H205.at hin205 rfl
    refine Go.via (X203.baloadBytes hx (j := (0 : Int32)) (v := (.int (exF (0 : Int32) off (2 : Int32) p1 p2 p3))) (by rw [e203q]; exact Ar205.1) (State.isArrayOf_alike hZ.alike Ar205.2.1) Ar205.2.2 hin205 hat205 (g := (mkF m 155 #[.val (.int p1), .val (.int p2), .val (.int p3), .val (.int p4), .val (.int p5), .val (.int (2 : Int32)), .val (.int off), .val (.ref t181), .val (.ref b182), .val (.ref b185)] [(.int (0 : Int32)), (.ref b185)])) rfl rfl (hb hby at_155)) ?_
    show Go p e below _ (T203.setTop (mkF m 156 #[.val (.int p1), .val (.int p2), .val (.int p3), .val (.int p4), .val (.int p5), .val (.int (2 : Int32)), .val (.int off), .val (.ref t181), .val (.ref b182), .val (.ref b185)] [(.int (exF (0 : Int32) off (2 : Int32) p1 p2 p3))]))
    refine Go.via (fun _ => XS.iconst X203.here hx rfl (hb hby at_156)) ?_
    show Go p e below _ (T203.setTop (mkF m 157 #[.val (.int p1), .val (.int p2), .val (.int p3), .val (.int p4), .val (.int p5), .val (.int (2 : Int32)), .val (.int off), .val (.ref t181), .val (.ref b182), .val (.ref b185)] [(.int (0 : Int32)), (.int (exF (0 : Int32) off (2 : Int32) p1 p2 p3))]))
    refine Go.via (fun _ => XS.iload X203.here hx rfl (hb hby at_157) rfl) ?_
    show Go p e below _ (T203.setTop (mkF m 159 #[.val (.int p1), .val (.int p2), .val (.int p3), .val (.int p4), .val (.int p5), .val (.int (2 : Int32)), .val (.int off), .val (.ref t181), .val (.ref b182), .val (.ref b185)] [(.int off), (.int (0 : Int32)), (.int (exF (0 : Int32) off (2 : Int32) p1 p2 p3))]))
    refine Go.via (fun _ => XS.iload X203.here hx rfl (hb hby at_159) rfl) ?_
    show Go p e below _ (T203.setTop (mkF m 161 #[.val (.int p1), .val (.int p2), .val (.int p3), .val (.int p4), .val (.int p5), .val (.int (2 : Int32)), .val (.int off), .val (.ref t181), .val (.ref b182), .val (.ref b185)] [(.int (2 : Int32)), (.int off), (.int (0 : Int32)), (.int (exF (0 : Int32) off (2 : Int32) p1 p2 p3))]))
    refine Go.via (fun _ => XS.iloadN X203.here hx rfl (hb hby at_161) rfl) ?_
    show Go p e below _ (T203.setTop (mkF m 162 #[.val (.int p1), .val (.int p2), .val (.int p3), .val (.int p4), .val (.int p5), .val (.int (2 : Int32)), .val (.int off), .val (.ref t181), .val (.ref b182), .val (.ref b185)] [(.int p1), (.int (2 : Int32)), (.int off), (.int (0 : Int32)), (.int (exF (0 : Int32) off (2 : Int32) p1 p2 p3))]))
    refine Go.via (fun _ => XS.iloadN X203.here hx rfl (hb hby at_162) rfl) ?_
    show Go p e below _ (T203.setTop (mkF m 163 #[.val (.int p1), .val (.int p2), .val (.int p3), .val (.int p4), .val (.int p5), .val (.int (2 : Int32)), .val (.int off), .val (.ref t181), .val (.ref b182), .val (.ref b185)] [(.int p2), (.int p1), (.int (2 : Int32)), (.int off), (.int (0 : Int32)), (.int (exF (0 : Int32) off (2 : Int32) p1 p2 p3))]))
    refine Go.via (fun _ => XS.iloadN X203.here hx rfl (hb hby at_163) rfl) ?_
    show Go p e below _ (T203.setTop (mkF m 164 #[.val (.int p1), .val (.int p2), .val (.int p3), .val (.int p4), .val (.int p5), .val (.int (2 : Int32)), .val (.int off), .val (.ref t181), .val (.ref b182), .val (.ref b185)] [(.int p3), (.int p2), (.int p1), (.int (2 : Int32)), (.int off), (.int (0 : Int32)), (.int (exF (0 : Int32) off (2 : Int32) p1 p2 p3))]))
    obtain ⟨_, _, ⟨T206, L206, k206, n206⟩, -, X206, ⟨Lc206, hQ206, l206, y206, z206⟩, st206⟩ := Jvm.LawKit.callS X203 hx (y := (⟨"com/example/sluice/sluice/processor/FlowFileCopyContentPinLaw", "expected", "(IIIIII)B"⟩ : MethodName)) hown (mvT hZ (hw _ (List.mem_of_getElem? (i := 62) rfl))) (mvT hZ (hw _ (List.mem_of_getElem? (i := 63) rfl))) (mvT hZ (hw _ (List.mem_of_getElem? (i := 3) rfl))) (mvT hZ (hw _ (List.mem_of_getElem? (i := 64) rfl))) (by decide) (backOf (W := 1) (rmEx l Z a0 hw [] (0 : Int32) off (2 : Int32) p1 p2 p3 T202.heap n0 Zs202) hZ (hw _ (List.mem_of_getElem? (i := 64) rfl)) (hw _ (List.mem_of_getElem? (i := 3) rfl)) (by decide) (by decide)) (g := (mkF m 164 #[.val (.int p1), .val (.int p2), .val (.int p3), .val (.int p4), .val (.int p5), .val (.int (2 : Int32)), .val (.int off), .val (.ref t181), .val (.ref b182), .val (.ref b185)] [(.int p3), (.int p2), (.int p1), (.int (2 : Int32)), (.int off), (.int (0 : Int32)), (.int (exF (0 : Int32) off (2 : Int32) p1 p2 p3))])) rfl (by rw [hml]; rfl) (argsL := [(.int (0 : Int32)), (.int off), (.int (2 : Int32)), (.int p1), (.int p2), (.int p3)]) (rest := [(.int (exF (0 : Int32) off (2 : Int32) p1 p2 p3))]) (lenOf pd_9 rfl) rfl (by show 2 * 0 + _ ≤ _; exact Nat.le_of_eq rfl) (hb hby at_164) (fun _ _ => ⟨rfl, e203q, (by decide : 4 + 0 ≤ _), (by decide : 16 + 0 ≤ _)⟩)
    dsimp only [Pt.U, Pt.locs, Pt.cells, Pt.slots] at X206 l206 y206 z206 st206 hQ206
    rw [l206, y206, z206] at X206
    replace X206 : Stand p l e _ _ m _ below meth c T206 _ 4 16 := X206
    obtain ⟨rfl, N206q, e206q⟩ := hQ206
    have N206 := Fr.app N203 N206q
    refine Go.via st206 ?_
    show Go p e below _ (T206.setTop (mkF m 167 #[.val (.int p1), .val (.int p2), .val (.int p3), .val (.int p4), .val (.int p5), .val (.int (2 : Int32)), .val (.int off), .val (.ref t181), .val (.ref b182), .val (.ref b185)] [(.int (exF (0 : Int32) off (2 : Int32) p1 p2 p3)), (.int (exF (0 : Int32) off (2 : Int32) p1 p2 p3))]))
    refine Go.via (fun _ => XS.icmpNo X206.here hx rfl (hb hby at_167) rfl (teq rfl).2) ?_
    show Go p e below _ (T206.setTop (mkF m 170 #[.val (.int p1), .val (.int p2), .val (.int p3), .val (.int p4), .val (.int p5), .val (.int (2 : Int32)), .val (.int off), .val (.ref t181), .val (.ref b182), .val (.ref b185)] []))
    refine Go.via (fun _ => XS.aload X206.here hx rfl (hb hby at_170) rfl rfl) ?_
    show Go p e below _ (T206.setTop (mkF m 172 #[.val (.int p1), .val (.int p2), .val (.int p3), .val (.int p4), .val (.int p5), .val (.int (2 : Int32)), .val (.int off), .val (.ref t181), .val (.ref b182), .val (.ref b185)] [(.ref b185)]))
    refine Go.via (fun _ => XS.iconst X206.here hx rfl (hb hby at_172)) ?_
    show Go p e below _ (T206.setTop (mkF m 173 #[.val (.int p1), .val (.int p2), .val (.int p3), .val (.int p4), .val (.int p5), .val (.int (2 : Int32)), .val (.int off), .val (.ref t181), .val (.ref b182), .val (.ref b185)] [(.int (1 : Int32)), (.ref b185)]))
    obtain ⟨cl207, Ar207, q207, S207, N207n, H207, G207⟩ := id vb202
    have hin207 := inb_of (j := (1 : Int32)) S207 (by decide)
    have hat207 : cl207.slots[((1 : Int32) : Int32).toNatClampNeg]? = some (.int (exF (1 : Int32) off (2 : Int32) p1 p2 p3)) := H207.at hin207 rfl
    refine Go.via (X206.baloadBytes hx (j := (1 : Int32)) (v := (.int (exF (1 : Int32) off (2 : Int32) p1 p2 p3))) (by rw [e206q]; exact Ar207.1) (State.isArrayOf_alike hZ.alike Ar207.2.1) Ar207.2.2 hin207 hat207 (g := (mkF m 173 #[.val (.int p1), .val (.int p2), .val (.int p3), .val (.int p4), .val (.int p5), .val (.int (2 : Int32)), .val (.int off), .val (.ref t181), .val (.ref b182), .val (.ref b185)] [(.int (1 : Int32)), (.ref b185)])) rfl rfl (hb hby at_173)) ?_
    show Go p e below _ (T206.setTop (mkF m 174 #[.val (.int p1), .val (.int p2), .val (.int p3), .val (.int p4), .val (.int p5), .val (.int (2 : Int32)), .val (.int off), .val (.ref t181), .val (.ref b182), .val (.ref b185)] [(.int (exF (1 : Int32) off (2 : Int32) p1 p2 p3))]))
    refine Go.via (fun _ => XS.iconst X206.here hx rfl (hb hby at_174)) ?_
    show Go p e below _ (T206.setTop (mkF m 175 #[.val (.int p1), .val (.int p2), .val (.int p3), .val (.int p4), .val (.int p5), .val (.int (2 : Int32)), .val (.int off), .val (.ref t181), .val (.ref b182), .val (.ref b185)] [(.int (1 : Int32)), (.int (exF (1 : Int32) off (2 : Int32) p1 p2 p3))]))
    refine Go.via (fun _ => XS.iload X206.here hx rfl (hb hby at_175) rfl) ?_
    show Go p e below _ (T206.setTop (mkF m 177 #[.val (.int p1), .val (.int p2), .val (.int p3), .val (.int p4), .val (.int p5), .val (.int (2 : Int32)), .val (.int off), .val (.ref t181), .val (.ref b182), .val (.ref b185)] [(.int off), (.int (1 : Int32)), (.int (exF (1 : Int32) off (2 : Int32) p1 p2 p3))]))
    refine Go.via (fun _ => XS.iload X206.here hx rfl (hb hby at_177) rfl) ?_
    show Go p e below _ (T206.setTop (mkF m 179 #[.val (.int p1), .val (.int p2), .val (.int p3), .val (.int p4), .val (.int p5), .val (.int (2 : Int32)), .val (.int off), .val (.ref t181), .val (.ref b182), .val (.ref b185)] [(.int (2 : Int32)), (.int off), (.int (1 : Int32)), (.int (exF (1 : Int32) off (2 : Int32) p1 p2 p3))]))
    refine Go.via (fun _ => XS.iloadN X206.here hx rfl (hb hby at_179) rfl) ?_
    show Go p e below _ (T206.setTop (mkF m 180 #[.val (.int p1), .val (.int p2), .val (.int p3), .val (.int p4), .val (.int p5), .val (.int (2 : Int32)), .val (.int off), .val (.ref t181), .val (.ref b182), .val (.ref b185)] [(.int p1), (.int (2 : Int32)), (.int off), (.int (1 : Int32)), (.int (exF (1 : Int32) off (2 : Int32) p1 p2 p3))]))
    refine Go.via (fun _ => XS.iloadN X206.here hx rfl (hb hby at_180) rfl) ?_
    show Go p e below _ (T206.setTop (mkF m 181 #[.val (.int p1), .val (.int p2), .val (.int p3), .val (.int p4), .val (.int p5), .val (.int (2 : Int32)), .val (.int off), .val (.ref t181), .val (.ref b182), .val (.ref b185)] [(.int p2), (.int p1), (.int (2 : Int32)), (.int off), (.int (1 : Int32)), (.int (exF (1 : Int32) off (2 : Int32) p1 p2 p3))]))
    refine Go.via (fun _ => XS.iloadN X206.here hx rfl (hb hby at_181) rfl) ?_
    show Go p e below _ (T206.setTop (mkF m 182 #[.val (.int p1), .val (.int p2), .val (.int p3), .val (.int p4), .val (.int p5), .val (.int (2 : Int32)), .val (.int off), .val (.ref t181), .val (.ref b182), .val (.ref b185)] [(.int p3), (.int p2), (.int p1), (.int (2 : Int32)), (.int off), (.int (1 : Int32)), (.int (exF (1 : Int32) off (2 : Int32) p1 p2 p3))]))
    obtain ⟨_, _, ⟨T208, L208, k208, n208⟩, -, X208, ⟨Lc208, hQ208, l208, y208, z208⟩, st208⟩ := Jvm.LawKit.callS X206 hx (y := (⟨"com/example/sluice/sluice/processor/FlowFileCopyContentPinLaw", "expected", "(IIIIII)B"⟩ : MethodName)) hown (mvT hZ (hw _ (List.mem_of_getElem? (i := 62) rfl))) (mvT hZ (hw _ (List.mem_of_getElem? (i := 63) rfl))) (mvT hZ (hw _ (List.mem_of_getElem? (i := 3) rfl))) (mvT hZ (hw _ (List.mem_of_getElem? (i := 64) rfl))) (by decide) (backOf (W := 1) (rmEx l Z a0 hw [] (1 : Int32) off (2 : Int32) p1 p2 p3 T202.heap n0 Zs202) hZ (hw _ (List.mem_of_getElem? (i := 64) rfl)) (hw _ (List.mem_of_getElem? (i := 3) rfl)) (by decide) (by decide)) (g := (mkF m 182 #[.val (.int p1), .val (.int p2), .val (.int p3), .val (.int p4), .val (.int p5), .val (.int (2 : Int32)), .val (.int off), .val (.ref t181), .val (.ref b182), .val (.ref b185)] [(.int p3), (.int p2), (.int p1), (.int (2 : Int32)), (.int off), (.int (1 : Int32)), (.int (exF (1 : Int32) off (2 : Int32) p1 p2 p3))])) rfl (by rw [hml]; rfl) (argsL := [(.int (1 : Int32)), (.int off), (.int (2 : Int32)), (.int p1), (.int p2), (.int p3)]) (rest := [(.int (exF (1 : Int32) off (2 : Int32) p1 p2 p3))]) (lenOf pd_9 rfl) rfl (by show 2 * 0 + _ ≤ _; exact Nat.le_of_eq rfl) (hb hby at_182) (fun _ _ => ⟨rfl, e206q, (by decide : 4 + 0 ≤ _), (by decide : 16 + 0 ≤ _)⟩)
    dsimp only [Pt.U, Pt.locs, Pt.cells, Pt.slots] at X208 l208 y208 z208 st208 hQ208
    rw [l208, y208, z208] at X208
    replace X208 : Stand p l e _ _ m _ below meth c T208 _ 4 16 := X208
    obtain ⟨rfl, N208q, e208q⟩ := hQ208
    have N208 := Fr.app N206 N208q
    refine Go.via st208 ?_
    show Go p e below _ (T208.setTop (mkF m 185 #[.val (.int p1), .val (.int p2), .val (.int p3), .val (.int p4), .val (.int p5), .val (.int (2 : Int32)), .val (.int off), .val (.ref t181), .val (.ref b182), .val (.ref b185)] [(.int (exF (1 : Int32) off (2 : Int32) p1 p2 p3)), (.int (exF (1 : Int32) off (2 : Int32) p1 p2 p3))]))
    refine Go.via (fun _ => XS.icmpNo X208.here hx rfl (hb hby at_185) rfl (teq rfl).2) ?_
    show Go p e below _ (T208.setTop (mkF m 188 #[.val (.int p1), .val (.int p2), .val (.int p3), .val (.int p4), .val (.int p5), .val (.int (2 : Int32)), .val (.int off), .val (.ref t181), .val (.ref b182), .val (.ref b185)] []))
    refine Go.via (fun _ => XS.aload X208.here hx rfl (hb hby at_188) rfl rfl) ?_
    show Go p e below _ (T208.setTop (mkF m 190 #[.val (.int p1), .val (.int p2), .val (.int p3), .val (.int p4), .val (.int p5), .val (.int (2 : Int32)), .val (.int off), .val (.ref t181), .val (.ref b182), .val (.ref b185)] [(.ref b185)]))
    refine Go.via (fun _ => XS.iconst X208.here hx rfl (hb hby at_190)) ?_
    show Go p e below _ (T208.setTop (mkF m 191 #[.val (.int p1), .val (.int p2), .val (.int p3), .val (.int p4), .val (.int p5), .val (.int (2 : Int32)), .val (.int off), .val (.ref t181), .val (.ref b182), .val (.ref b185)] [(.int (2 : Int32)), (.ref b185)]))
    obtain ⟨cl209, Ar209, q209, S209, N209n, H209, G209⟩ := id vb202
    have hin209 := inb_of (j := (2 : Int32)) S209 (by decide)
    have hat209 : cl209.slots[((2 : Int32) : Int32).toNatClampNeg]? = some (.int (exF (2 : Int32) off (2 : Int32) p1 p2 p3)) := H209.at hin209 rfl
    refine Go.via (X208.baloadBytes hx (j := (2 : Int32)) (v := (.int (exF (2 : Int32) off (2 : Int32) p1 p2 p3))) (by rw [e208q]; exact Ar209.1) (State.isArrayOf_alike hZ.alike Ar209.2.1) Ar209.2.2 hin209 hat209 (g := (mkF m 191 #[.val (.int p1), .val (.int p2), .val (.int p3), .val (.int p4), .val (.int p5), .val (.int (2 : Int32)), .val (.int off), .val (.ref t181), .val (.ref b182), .val (.ref b185)] [(.int (2 : Int32)), (.ref b185)])) rfl rfl (hb hby at_191)) ?_
    show Go p e below _ (T208.setTop (mkF m 192 #[.val (.int p1), .val (.int p2), .val (.int p3), .val (.int p4), .val (.int p5), .val (.int (2 : Int32)), .val (.int off), .val (.ref t181), .val (.ref b182), .val (.ref b185)] [(.int (exF (2 : Int32) off (2 : Int32) p1 p2 p3))]))
    refine Go.via (fun _ => XS.iconst X208.here hx rfl (hb hby at_192)) ?_
    show Go p e below _ (T208.setTop (mkF m 193 #[.val (.int p1), .val (.int p2), .val (.int p3), .val (.int p4), .val (.int p5), .val (.int (2 : Int32)), .val (.int off), .val (.ref t181), .val (.ref b182), .val (.ref b185)] [(.int (2 : Int32)), (.int (exF (2 : Int32) off (2 : Int32) p1 p2 p3))]))
    refine Go.via (fun _ => XS.iload X208.here hx rfl (hb hby at_193) rfl) ?_
    show Go p e below _ (T208.setTop (mkF m 195 #[.val (.int p1), .val (.int p2), .val (.int p3), .val (.int p4), .val (.int p5), .val (.int (2 : Int32)), .val (.int off), .val (.ref t181), .val (.ref b182), .val (.ref b185)] [(.int off), (.int (2 : Int32)), (.int (exF (2 : Int32) off (2 : Int32) p1 p2 p3))]))
    refine Go.via (fun _ => XS.iload X208.here hx rfl (hb hby at_195) rfl) ?_
    show Go p e below _ (T208.setTop (mkF m 197 #[.val (.int p1), .val (.int p2), .val (.int p3), .val (.int p4), .val (.int p5), .val (.int (2 : Int32)), .val (.int off), .val (.ref t181), .val (.ref b182), .val (.ref b185)] [(.int (2 : Int32)), (.int off), (.int (2 : Int32)), (.int (exF (2 : Int32) off (2 : Int32) p1 p2 p3))]))
    refine Go.via (fun _ => XS.iloadN X208.here hx rfl (hb hby at_197) rfl) ?_
    show Go p e below _ (T208.setTop (mkF m 198 #[.val (.int p1), .val (.int p2), .val (.int p3), .val (.int p4), .val (.int p5), .val (.int (2 : Int32)), .val (.int off), .val (.ref t181), .val (.ref b182), .val (.ref b185)] [(.int p1), (.int (2 : Int32)), (.int off), (.int (2 : Int32)), (.int (exF (2 : Int32) off (2 : Int32) p1 p2 p3))]))
    refine Go.via (fun _ => XS.iloadN X208.here hx rfl (hb hby at_198) rfl) ?_
    show Go p e below _ (T208.setTop (mkF m 199 #[.val (.int p1), .val (.int p2), .val (.int p3), .val (.int p4), .val (.int p5), .val (.int (2 : Int32)), .val (.int off), .val (.ref t181), .val (.ref b182), .val (.ref b185)] [(.int p2), (.int p1), (.int (2 : Int32)), (.int off), (.int (2 : Int32)), (.int (exF (2 : Int32) off (2 : Int32) p1 p2 p3))]))
    refine Go.via (fun _ => XS.iloadN X208.here hx rfl (hb hby at_199) rfl) ?_
    show Go p e below _ (T208.setTop (mkF m 200 #[.val (.int p1), .val (.int p2), .val (.int p3), .val (.int p4), .val (.int p5), .val (.int (2 : Int32)), .val (.int off), .val (.ref t181), .val (.ref b182), .val (.ref b185)] [(.int p3), (.int p2), (.int p1), (.int (2 : Int32)), (.int off), (.int (2 : Int32)), (.int (exF (2 : Int32) off (2 : Int32) p1 p2 p3))]))
    obtain ⟨_, _, ⟨T210, L210, k210, n210⟩, -, X210, ⟨Lc210, hQ210, l210, y210, z210⟩, st210⟩ := Jvm.LawKit.callS X208 hx (y := (⟨"com/example/sluice/sluice/processor/FlowFileCopyContentPinLaw", "expected", "(IIIIII)B"⟩ : MethodName)) hown (mvT hZ (hw _ (List.mem_of_getElem? (i := 62) rfl))) (mvT hZ (hw _ (List.mem_of_getElem? (i := 63) rfl))) (mvT hZ (hw _ (List.mem_of_getElem? (i := 3) rfl))) (mvT hZ (hw _ (List.mem_of_getElem? (i := 64) rfl))) (by decide) (backOf (W := 1) (rmEx l Z a0 hw [] (2 : Int32) off (2 : Int32) p1 p2 p3 T202.heap n0 Zs202) hZ (hw _ (List.mem_of_getElem? (i := 64) rfl)) (hw _ (List.mem_of_getElem? (i := 3) rfl)) (by decide) (by decide)) (g := (mkF m 200 #[.val (.int p1), .val (.int p2), .val (.int p3), .val (.int p4), .val (.int p5), .val (.int (2 : Int32)), .val (.int off), .val (.ref t181), .val (.ref b182), .val (.ref b185)] [(.int p3), (.int p2), (.int p1), (.int (2 : Int32)), (.int off), (.int (2 : Int32)), (.int (exF (2 : Int32) off (2 : Int32) p1 p2 p3))])) rfl (by rw [hml]; rfl) (argsL := [(.int (2 : Int32)), (.int off), (.int (2 : Int32)), (.int p1), (.int p2), (.int p3)]) (rest := [(.int (exF (2 : Int32) off (2 : Int32) p1 p2 p3))]) (lenOf pd_9 rfl) rfl (by show 2 * 0 + _ ≤ _; exact Nat.le_of_eq rfl) (hb hby at_200) (fun _ _ => ⟨rfl, e208q, (by decide : 4 + 0 ≤ _), (by decide : 16 + 0 ≤ _)⟩)
    dsimp only [Pt.U, Pt.locs, Pt.cells, Pt.slots] at X210 l210 y210 z210 st210 hQ210
    rw [l210, y210, z210] at X210
    replace X210 : Stand p l e _ _ m _ below meth c T210 _ 4 16 := X210
    obtain ⟨rfl, N210q, e210q⟩ := hQ210
    have N210 := Fr.app N208 N210q
    refine Go.via st210 ?_
    show Go p e below _ (T210.setTop (mkF m 203 #[.val (.int p1), .val (.int p2), .val (.int p3), .val (.int p4), .val (.int p5), .val (.int (2 : Int32)), .val (.int off), .val (.ref t181), .val (.ref b182), .val (.ref b185)] [(.int (exF (2 : Int32) off (2 : Int32) p1 p2 p3)), (.int (exF (2 : Int32) off (2 : Int32) p1 p2 p3))]))
    refine Go.via (fun _ => XS.icmpNo X210.here hx rfl (hb hby at_203) rfl (teq rfl).2) ?_
    show Go p e below _ (T210.setTop (mkF m 206 #[.val (.int p1), .val (.int p2), .val (.int p3), .val (.int p4), .val (.int p5), .val (.int (2 : Int32)), .val (.int off), .val (.ref t181), .val (.ref b182), .val (.ref b185)] []))
    refine Go.via (fun _ => XS.aload X210.here hx rfl (hb hby at_206) rfl rfl) ?_
    show Go p e below _ (T210.setTop (mkF m 208 #[.val (.int p1), .val (.int p2), .val (.int p3), .val (.int p4), .val (.int p5), .val (.int (2 : Int32)), .val (.int off), .val (.ref t181), .val (.ref b182), .val (.ref b185)] [(.ref b185)]))
    refine Go.via (fun _ => XS.iconst X210.here hx rfl (hb hby at_208)) ?_
    show Go p e below _ (T210.setTop (mkF m 209 #[.val (.int p1), .val (.int p2), .val (.int p3), .val (.int p4), .val (.int p5), .val (.int (2 : Int32)), .val (.int off), .val (.ref t181), .val (.ref b182), .val (.ref b185)] [(.int (3 : Int32)), (.ref b185)]))
    obtain ⟨cl211, Ar211, q211, S211, N211n, H211, G211⟩ := id vb202
    have hin211 := inb_of (j := (3 : Int32)) S211 (by decide)
    have hat211 : cl211.slots[((3 : Int32) : Int32).toNatClampNeg]? = some (.int (exF (3 : Int32) off (2 : Int32) p1 p2 p3)) := H211.at hin211 rfl
    refine Go.via (X210.baloadBytes hx (j := (3 : Int32)) (v := (.int (exF (3 : Int32) off (2 : Int32) p1 p2 p3))) (by rw [e210q]; exact Ar211.1) (State.isArrayOf_alike hZ.alike Ar211.2.1) Ar211.2.2 hin211 hat211 (g := (mkF m 209 #[.val (.int p1), .val (.int p2), .val (.int p3), .val (.int p4), .val (.int p5), .val (.int (2 : Int32)), .val (.int off), .val (.ref t181), .val (.ref b182), .val (.ref b185)] [(.int (3 : Int32)), (.ref b185)])) rfl rfl (hb hby at_209)) ?_
    show Go p e below _ (T210.setTop (mkF m 210 #[.val (.int p1), .val (.int p2), .val (.int p3), .val (.int p4), .val (.int p5), .val (.int (2 : Int32)), .val (.int off), .val (.ref t181), .val (.ref b182), .val (.ref b185)] [(.int (exF (3 : Int32) off (2 : Int32) p1 p2 p3))]))
    refine Go.via (fun _ => XS.iconst X210.here hx rfl (hb hby at_210)) ?_
    show Go p e below _ (T210.setTop (mkF m 211 #[.val (.int p1), .val (.int p2), .val (.int p3), .val (.int p4), .val (.int p5), .val (.int (2 : Int32)), .val (.int off), .val (.ref t181), .val (.ref b182), .val (.ref b185)] [(.int (3 : Int32)), (.int (exF (3 : Int32) off (2 : Int32) p1 p2 p3))]))
    refine Go.via (fun _ => XS.iload X210.here hx rfl (hb hby at_211) rfl) ?_
    show Go p e below _ (T210.setTop (mkF m 213 #[.val (.int p1), .val (.int p2), .val (.int p3), .val (.int p4), .val (.int p5), .val (.int (2 : Int32)), .val (.int off), .val (.ref t181), .val (.ref b182), .val (.ref b185)] [(.int off), (.int (3 : Int32)), (.int (exF (3 : Int32) off (2 : Int32) p1 p2 p3))]))
    refine Go.via (fun _ => XS.iload X210.here hx rfl (hb hby at_213) rfl) ?_
    show Go p e below _ (T210.setTop (mkF m 215 #[.val (.int p1), .val (.int p2), .val (.int p3), .val (.int p4), .val (.int p5), .val (.int (2 : Int32)), .val (.int off), .val (.ref t181), .val (.ref b182), .val (.ref b185)] [(.int (2 : Int32)), (.int off), (.int (3 : Int32)), (.int (exF (3 : Int32) off (2 : Int32) p1 p2 p3))]))
    refine Go.via (fun _ => XS.iloadN X210.here hx rfl (hb hby at_215) rfl) ?_
    show Go p e below _ (T210.setTop (mkF m 216 #[.val (.int p1), .val (.int p2), .val (.int p3), .val (.int p4), .val (.int p5), .val (.int (2 : Int32)), .val (.int off), .val (.ref t181), .val (.ref b182), .val (.ref b185)] [(.int p1), (.int (2 : Int32)), (.int off), (.int (3 : Int32)), (.int (exF (3 : Int32) off (2 : Int32) p1 p2 p3))]))
    refine Go.via (fun _ => XS.iloadN X210.here hx rfl (hb hby at_216) rfl) ?_
    show Go p e below _ (T210.setTop (mkF m 217 #[.val (.int p1), .val (.int p2), .val (.int p3), .val (.int p4), .val (.int p5), .val (.int (2 : Int32)), .val (.int off), .val (.ref t181), .val (.ref b182), .val (.ref b185)] [(.int p2), (.int p1), (.int (2 : Int32)), (.int off), (.int (3 : Int32)), (.int (exF (3 : Int32) off (2 : Int32) p1 p2 p3))]))
    refine Go.via (fun _ => XS.iloadN X210.here hx rfl (hb hby at_217) rfl) ?_
    show Go p e below _ (T210.setTop (mkF m 218 #[.val (.int p1), .val (.int p2), .val (.int p3), .val (.int p4), .val (.int p5), .val (.int (2 : Int32)), .val (.int off), .val (.ref t181), .val (.ref b182), .val (.ref b185)] [(.int p3), (.int p2), (.int p1), (.int (2 : Int32)), (.int off), (.int (3 : Int32)), (.int (exF (3 : Int32) off (2 : Int32) p1 p2 p3))]))
    obtain ⟨_, _, ⟨T212, L212, k212, n212⟩, -, X212, ⟨Lc212, hQ212, l212, y212, z212⟩, st212⟩ := Jvm.LawKit.callS X210 hx (y := (⟨"com/example/sluice/sluice/processor/FlowFileCopyContentPinLaw", "expected", "(IIIIII)B"⟩ : MethodName)) hown (mvT hZ (hw _ (List.mem_of_getElem? (i := 62) rfl))) (mvT hZ (hw _ (List.mem_of_getElem? (i := 63) rfl))) (mvT hZ (hw _ (List.mem_of_getElem? (i := 3) rfl))) (mvT hZ (hw _ (List.mem_of_getElem? (i := 64) rfl))) (by decide) (backOf (W := 1) (rmEx l Z a0 hw [] (3 : Int32) off (2 : Int32) p1 p2 p3 T202.heap n0 Zs202) hZ (hw _ (List.mem_of_getElem? (i := 64) rfl)) (hw _ (List.mem_of_getElem? (i := 3) rfl)) (by decide) (by decide)) (g := (mkF m 218 #[.val (.int p1), .val (.int p2), .val (.int p3), .val (.int p4), .val (.int p5), .val (.int (2 : Int32)), .val (.int off), .val (.ref t181), .val (.ref b182), .val (.ref b185)] [(.int p3), (.int p2), (.int p1), (.int (2 : Int32)), (.int off), (.int (3 : Int32)), (.int (exF (3 : Int32) off (2 : Int32) p1 p2 p3))])) rfl (by rw [hml]; rfl) (argsL := [(.int (3 : Int32)), (.int off), (.int (2 : Int32)), (.int p1), (.int p2), (.int p3)]) (rest := [(.int (exF (3 : Int32) off (2 : Int32) p1 p2 p3))]) (lenOf pd_9 rfl) rfl (by show 2 * 0 + _ ≤ _; exact Nat.le_of_eq rfl) (hb hby at_218) (fun _ _ => ⟨rfl, e210q, (by decide : 4 + 0 ≤ _), (by decide : 16 + 0 ≤ _)⟩)
    dsimp only [Pt.U, Pt.locs, Pt.cells, Pt.slots] at X212 l212 y212 z212 st212 hQ212
    rw [l212, y212, z212] at X212
    replace X212 : Stand p l e _ _ m _ below meth c T212 _ 4 16 := X212
    obtain ⟨rfl, N212q, e212q⟩ := hQ212
    have N212 := Fr.app N210 N212q
    refine Go.via st212 ?_
    show Go p e below _ (T212.setTop (mkF m 221 #[.val (.int p1), .val (.int p2), .val (.int p3), .val (.int p4), .val (.int p5), .val (.int (2 : Int32)), .val (.int off), .val (.ref t181), .val (.ref b182), .val (.ref b185)] [(.int (exF (3 : Int32) off (2 : Int32) p1 p2 p3)), (.int (exF (3 : Int32) off (2 : Int32) p1 p2 p3))]))
    refine Go.via (fun _ => XS.icmpNo X212.here hx rfl (hb hby at_221) rfl (teq rfl).2) ?_
    show Go p e below _ (T212.setTop (mkF m 224 #[.val (.int p1), .val (.int p2), .val (.int p3), .val (.int p4), .val (.int p5), .val (.int (2 : Int32)), .val (.int off), .val (.ref t181), .val (.ref b182), .val (.ref b185)] []))
    refine Go.via (fun _ => XS.aload X212.here hx rfl (hb hby at_224) rfl rfl) ?_
    show Go p e below _ (T212.setTop (mkF m 226 #[.val (.int p1), .val (.int p2), .val (.int p3), .val (.int p4), .val (.int p5), .val (.int (2 : Int32)), .val (.int off), .val (.ref t181), .val (.ref b182), .val (.ref b185)] [(.ref b185)]))
    refine Go.via (fun _ => XS.iconst X212.here hx rfl (hb hby at_226)) ?_
    show Go p e below _ (T212.setTop (mkF m 227 #[.val (.int p1), .val (.int p2), .val (.int p3), .val (.int p4), .val (.int p5), .val (.int (2 : Int32)), .val (.int off), .val (.ref t181), .val (.ref b182), .val (.ref b185)] [(.int (4 : Int32)), (.ref b185)]))
    obtain ⟨cl213, Ar213, q213, S213, N213n, H213, G213⟩ := id vb202
    have hin213 := inb_of (j := (4 : Int32)) S213 (by decide)
    have hat213 : cl213.slots[((4 : Int32) : Int32).toNatClampNeg]? = some (.int (exF (4 : Int32) off (2 : Int32) p1 p2 p3)) := H213.at hin213 rfl
    refine Go.via (X212.baloadBytes hx (j := (4 : Int32)) (v := (.int (exF (4 : Int32) off (2 : Int32) p1 p2 p3))) (by rw [e212q]; exact Ar213.1) (State.isArrayOf_alike hZ.alike Ar213.2.1) Ar213.2.2 hin213 hat213 (g := (mkF m 227 #[.val (.int p1), .val (.int p2), .val (.int p3), .val (.int p4), .val (.int p5), .val (.int (2 : Int32)), .val (.int off), .val (.ref t181), .val (.ref b182), .val (.ref b185)] [(.int (4 : Int32)), (.ref b185)])) rfl rfl (hb hby at_227)) ?_
    show Go p e below _ (T212.setTop (mkF m 228 #[.val (.int p1), .val (.int p2), .val (.int p3), .val (.int p4), .val (.int p5), .val (.int (2 : Int32)), .val (.int off), .val (.ref t181), .val (.ref b182), .val (.ref b185)] [(.int (exF (4 : Int32) off (2 : Int32) p1 p2 p3))]))
    refine Go.via (fun _ => XS.iconst X212.here hx rfl (hb hby at_228)) ?_
    show Go p e below _ (T212.setTop (mkF m 229 #[.val (.int p1), .val (.int p2), .val (.int p3), .val (.int p4), .val (.int p5), .val (.int (2 : Int32)), .val (.int off), .val (.ref t181), .val (.ref b182), .val (.ref b185)] [(.int (4 : Int32)), (.int (exF (4 : Int32) off (2 : Int32) p1 p2 p3))]))
    refine Go.via (fun _ => XS.iload X212.here hx rfl (hb hby at_229) rfl) ?_
    show Go p e below _ (T212.setTop (mkF m 231 #[.val (.int p1), .val (.int p2), .val (.int p3), .val (.int p4), .val (.int p5), .val (.int (2 : Int32)), .val (.int off), .val (.ref t181), .val (.ref b182), .val (.ref b185)] [(.int off), (.int (4 : Int32)), (.int (exF (4 : Int32) off (2 : Int32) p1 p2 p3))]))
    refine Go.via (fun _ => XS.iload X212.here hx rfl (hb hby at_231) rfl) ?_
    show Go p e below _ (T212.setTop (mkF m 233 #[.val (.int p1), .val (.int p2), .val (.int p3), .val (.int p4), .val (.int p5), .val (.int (2 : Int32)), .val (.int off), .val (.ref t181), .val (.ref b182), .val (.ref b185)] [(.int (2 : Int32)), (.int off), (.int (4 : Int32)), (.int (exF (4 : Int32) off (2 : Int32) p1 p2 p3))]))
    refine Go.via (fun _ => XS.iloadN X212.here hx rfl (hb hby at_233) rfl) ?_
    show Go p e below _ (T212.setTop (mkF m 234 #[.val (.int p1), .val (.int p2), .val (.int p3), .val (.int p4), .val (.int p5), .val (.int (2 : Int32)), .val (.int off), .val (.ref t181), .val (.ref b182), .val (.ref b185)] [(.int p1), (.int (2 : Int32)), (.int off), (.int (4 : Int32)), (.int (exF (4 : Int32) off (2 : Int32) p1 p2 p3))]))
    refine Go.via (fun _ => XS.iloadN X212.here hx rfl (hb hby at_234) rfl) ?_
    show Go p e below _ (T212.setTop (mkF m 235 #[.val (.int p1), .val (.int p2), .val (.int p3), .val (.int p4), .val (.int p5), .val (.int (2 : Int32)), .val (.int off), .val (.ref t181), .val (.ref b182), .val (.ref b185)] [(.int p2), (.int p1), (.int (2 : Int32)), (.int off), (.int (4 : Int32)), (.int (exF (4 : Int32) off (2 : Int32) p1 p2 p3))]))
    refine Go.via (fun _ => XS.iloadN X212.here hx rfl (hb hby at_235) rfl) ?_
    show Go p e below _ (T212.setTop (mkF m 236 #[.val (.int p1), .val (.int p2), .val (.int p3), .val (.int p4), .val (.int p5), .val (.int (2 : Int32)), .val (.int off), .val (.ref t181), .val (.ref b182), .val (.ref b185)] [(.int p3), (.int p2), (.int p1), (.int (2 : Int32)), (.int off), (.int (4 : Int32)), (.int (exF (4 : Int32) off (2 : Int32) p1 p2 p3))]))
    obtain ⟨_, _, ⟨T214, L214, k214, n214⟩, -, X214, ⟨Lc214, hQ214, l214, y214, z214⟩, st214⟩ := Jvm.LawKit.callS X212 hx (y := (⟨"com/example/sluice/sluice/processor/FlowFileCopyContentPinLaw", "expected", "(IIIIII)B"⟩ : MethodName)) hown (mvT hZ (hw _ (List.mem_of_getElem? (i := 62) rfl))) (mvT hZ (hw _ (List.mem_of_getElem? (i := 63) rfl))) (mvT hZ (hw _ (List.mem_of_getElem? (i := 3) rfl))) (mvT hZ (hw _ (List.mem_of_getElem? (i := 64) rfl))) (by decide) (backOf (W := 1) (rmEx l Z a0 hw [] (4 : Int32) off (2 : Int32) p1 p2 p3 T202.heap n0 Zs202) hZ (hw _ (List.mem_of_getElem? (i := 64) rfl)) (hw _ (List.mem_of_getElem? (i := 3) rfl)) (by decide) (by decide)) (g := (mkF m 236 #[.val (.int p1), .val (.int p2), .val (.int p3), .val (.int p4), .val (.int p5), .val (.int (2 : Int32)), .val (.int off), .val (.ref t181), .val (.ref b182), .val (.ref b185)] [(.int p3), (.int p2), (.int p1), (.int (2 : Int32)), (.int off), (.int (4 : Int32)), (.int (exF (4 : Int32) off (2 : Int32) p1 p2 p3))])) rfl (by rw [hml]; rfl) (argsL := [(.int (4 : Int32)), (.int off), (.int (2 : Int32)), (.int p1), (.int p2), (.int p3)]) (rest := [(.int (exF (4 : Int32) off (2 : Int32) p1 p2 p3))]) (lenOf pd_9 rfl) rfl (by show 2 * 0 + _ ≤ _; exact Nat.le_of_eq rfl) (hb hby at_236) (fun _ _ => ⟨rfl, e212q, (by decide : 4 + 0 ≤ _), (by decide : 16 + 0 ≤ _)⟩)
    dsimp only [Pt.U, Pt.locs, Pt.cells, Pt.slots] at X214 l214 y214 z214 st214 hQ214
    rw [l214, y214, z214] at X214
    replace X214 : Stand p l e _ _ m _ below meth c T214 _ 4 16 := X214
    obtain ⟨rfl, N214q, e214q⟩ := hQ214
    have N214 := Fr.app N212 N214q
    refine Go.via st214 ?_
    show Go p e below _ (T214.setTop (mkF m 239 #[.val (.int p1), .val (.int p2), .val (.int p3), .val (.int p4), .val (.int p5), .val (.int (2 : Int32)), .val (.int off), .val (.ref t181), .val (.ref b182), .val (.ref b185)] [(.int (exF (4 : Int32) off (2 : Int32) p1 p2 p3)), (.int (exF (4 : Int32) off (2 : Int32) p1 p2 p3))]))
    refine Go.via (fun _ => XS.icmpNo X214.here hx rfl (hb hby at_239) rfl (teq rfl).2) ?_
    show Go p e below _ (T214.setTop (mkF m 242 #[.val (.int p1), .val (.int p2), .val (.int p3), .val (.int p4), .val (.int p5), .val (.int (2 : Int32)), .val (.int off), .val (.ref t181), .val (.ref b182), .val (.ref b185)] []))
    refine Go.via (fun _ => XS.aload X214.here hx rfl (hb hby at_242) rfl rfl) ?_
    show Go p e below _ (T214.setTop (mkF m 244 #[.val (.int p1), .val (.int p2), .val (.int p3), .val (.int p4), .val (.int p5), .val (.int (2 : Int32)), .val (.int off), .val (.ref t181), .val (.ref b182), .val (.ref b185)] [(.ref b185)]))
    refine Go.via (fun _ => XS.iconst X214.here hx rfl (hb hby at_244)) ?_
    show Go p e below _ (T214.setTop (mkF m 245 #[.val (.int p1), .val (.int p2), .val (.int p3), .val (.int p4), .val (.int p5), .val (.int (2 : Int32)), .val (.int off), .val (.ref t181), .val (.ref b182), .val (.ref b185)] [(.int (5 : Int32)), (.ref b185)]))
    obtain ⟨cl215, Ar215, q215, S215, N215n, H215, G215⟩ := id vb202
    have hin215 := inb_of (j := (5 : Int32)) S215 (by decide)
    have hat215 : cl215.slots[((5 : Int32) : Int32).toNatClampNeg]? = some (.int (exF (5 : Int32) off (2 : Int32) p1 p2 p3)) := H215.at hin215 rfl
    refine Go.via (X214.baloadBytes hx (j := (5 : Int32)) (v := (.int (exF (5 : Int32) off (2 : Int32) p1 p2 p3))) (by rw [e214q]; exact Ar215.1) (State.isArrayOf_alike hZ.alike Ar215.2.1) Ar215.2.2 hin215 hat215 (g := (mkF m 245 #[.val (.int p1), .val (.int p2), .val (.int p3), .val (.int p4), .val (.int p5), .val (.int (2 : Int32)), .val (.int off), .val (.ref t181), .val (.ref b182), .val (.ref b185)] [(.int (5 : Int32)), (.ref b185)])) rfl rfl (hb hby at_245)) ?_
    show Go p e below _ (T214.setTop (mkF m 246 #[.val (.int p1), .val (.int p2), .val (.int p3), .val (.int p4), .val (.int p5), .val (.int (2 : Int32)), .val (.int off), .val (.ref t181), .val (.ref b182), .val (.ref b185)] [(.int (exF (5 : Int32) off (2 : Int32) p1 p2 p3))]))
    refine Go.via (fun _ => XS.iconst X214.here hx rfl (hb hby at_246)) ?_
    show Go p e below _ (T214.setTop (mkF m 247 #[.val (.int p1), .val (.int p2), .val (.int p3), .val (.int p4), .val (.int p5), .val (.int (2 : Int32)), .val (.int off), .val (.ref t181), .val (.ref b182), .val (.ref b185)] [(.int (5 : Int32)), (.int (exF (5 : Int32) off (2 : Int32) p1 p2 p3))]))
    refine Go.via (fun _ => XS.iload X214.here hx rfl (hb hby at_247) rfl) ?_
    show Go p e below _ (T214.setTop (mkF m 249 #[.val (.int p1), .val (.int p2), .val (.int p3), .val (.int p4), .val (.int p5), .val (.int (2 : Int32)), .val (.int off), .val (.ref t181), .val (.ref b182), .val (.ref b185)] [(.int off), (.int (5 : Int32)), (.int (exF (5 : Int32) off (2 : Int32) p1 p2 p3))]))
    refine Go.via (fun _ => XS.iload X214.here hx rfl (hb hby at_249) rfl) ?_
    show Go p e below _ (T214.setTop (mkF m 251 #[.val (.int p1), .val (.int p2), .val (.int p3), .val (.int p4), .val (.int p5), .val (.int (2 : Int32)), .val (.int off), .val (.ref t181), .val (.ref b182), .val (.ref b185)] [(.int (2 : Int32)), (.int off), (.int (5 : Int32)), (.int (exF (5 : Int32) off (2 : Int32) p1 p2 p3))]))
    refine Go.via (fun _ => XS.iloadN X214.here hx rfl (hb hby at_251) rfl) ?_
    show Go p e below _ (T214.setTop (mkF m 252 #[.val (.int p1), .val (.int p2), .val (.int p3), .val (.int p4), .val (.int p5), .val (.int (2 : Int32)), .val (.int off), .val (.ref t181), .val (.ref b182), .val (.ref b185)] [(.int p1), (.int (2 : Int32)), (.int off), (.int (5 : Int32)), (.int (exF (5 : Int32) off (2 : Int32) p1 p2 p3))]))
    refine Go.via (fun _ => XS.iloadN X214.here hx rfl (hb hby at_252) rfl) ?_
    show Go p e below _ (T214.setTop (mkF m 253 #[.val (.int p1), .val (.int p2), .val (.int p3), .val (.int p4), .val (.int p5), .val (.int (2 : Int32)), .val (.int off), .val (.ref t181), .val (.ref b182), .val (.ref b185)] [(.int p2), (.int p1), (.int (2 : Int32)), (.int off), (.int (5 : Int32)), (.int (exF (5 : Int32) off (2 : Int32) p1 p2 p3))]))
    refine Go.via (fun _ => XS.iloadN X214.here hx rfl (hb hby at_253) rfl) ?_
    show Go p e below _ (T214.setTop (mkF m 254 #[.val (.int p1), .val (.int p2), .val (.int p3), .val (.int p4), .val (.int p5), .val (.int (2 : Int32)), .val (.int off), .val (.ref t181), .val (.ref b182), .val (.ref b185)] [(.int p3), (.int p2), (.int p1), (.int (2 : Int32)), (.int off), (.int (5 : Int32)), (.int (exF (5 : Int32) off (2 : Int32) p1 p2 p3))]))
    obtain ⟨_, _, ⟨T216, L216, k216, n216⟩, -, X216, ⟨Lc216, hQ216, l216, y216, z216⟩, st216⟩ := Jvm.LawKit.callS X214 hx (y := (⟨"com/example/sluice/sluice/processor/FlowFileCopyContentPinLaw", "expected", "(IIIIII)B"⟩ : MethodName)) hown (mvT hZ (hw _ (List.mem_of_getElem? (i := 62) rfl))) (mvT hZ (hw _ (List.mem_of_getElem? (i := 63) rfl))) (mvT hZ (hw _ (List.mem_of_getElem? (i := 3) rfl))) (mvT hZ (hw _ (List.mem_of_getElem? (i := 64) rfl))) (by decide) (backOf (W := 1) (rmEx l Z a0 hw [] (5 : Int32) off (2 : Int32) p1 p2 p3 T202.heap n0 Zs202) hZ (hw _ (List.mem_of_getElem? (i := 64) rfl)) (hw _ (List.mem_of_getElem? (i := 3) rfl)) (by decide) (by decide)) (g := (mkF m 254 #[.val (.int p1), .val (.int p2), .val (.int p3), .val (.int p4), .val (.int p5), .val (.int (2 : Int32)), .val (.int off), .val (.ref t181), .val (.ref b182), .val (.ref b185)] [(.int p3), (.int p2), (.int p1), (.int (2 : Int32)), (.int off), (.int (5 : Int32)), (.int (exF (5 : Int32) off (2 : Int32) p1 p2 p3))])) rfl (by rw [hml]; rfl) (argsL := [(.int (5 : Int32)), (.int off), (.int (2 : Int32)), (.int p1), (.int p2), (.int p3)]) (rest := [(.int (exF (5 : Int32) off (2 : Int32) p1 p2 p3))]) (lenOf pd_9 rfl) rfl (by show 2 * 0 + _ ≤ _; exact Nat.le_of_eq rfl) (hb hby at_254) (fun _ _ => ⟨rfl, e214q, (by decide : 4 + 0 ≤ _), (by decide : 16 + 0 ≤ _)⟩)
    dsimp only [Pt.U, Pt.locs, Pt.cells, Pt.slots] at X216 l216 y216 z216 st216 hQ216
    rw [l216, y216, z216] at X216
    replace X216 : Stand p l e _ _ m _ below meth c T216 _ 4 16 := X216
    obtain ⟨rfl, N216q, e216q⟩ := hQ216
    have N216 := Fr.app N214 N216q
    refine Go.via st216 ?_
    show Go p e below _ (T216.setTop (mkF m 257 #[.val (.int p1), .val (.int p2), .val (.int p3), .val (.int p4), .val (.int p5), .val (.int (2 : Int32)), .val (.int off), .val (.ref t181), .val (.ref b182), .val (.ref b185)] [(.int (exF (5 : Int32) off (2 : Int32) p1 p2 p3)), (.int (exF (5 : Int32) off (2 : Int32) p1 p2 p3))]))
    refine Go.via (fun _ => XS.icmpNo X216.here hx rfl (hb hby at_257) rfl (teq rfl).2) ?_
    show Go p e below _ (T216.setTop (mkF m 260 #[.val (.int p1), .val (.int p2), .val (.int p3), .val (.int p4), .val (.int p5), .val (.int (2 : Int32)), .val (.int off), .val (.ref t181), .val (.ref b182), .val (.ref b185)] []))
    refine Go.via (fun _ => XS.aload X216.here hx rfl (hb hby at_260) rfl rfl) ?_
    show Go p e below _ (T216.setTop (mkF m 262 #[.val (.int p1), .val (.int p2), .val (.int p3), .val (.int p4), .val (.int p5), .val (.int (2 : Int32)), .val (.int off), .val (.ref t181), .val (.ref b182), .val (.ref b185)] [(.ref b185)]))
    refine Go.via (fun _ => XS.bipush X216.here hx rfl (hb hby at_262)) ?_
    show Go p e below _ (T216.setTop (mkF m 264 #[.val (.int p1), .val (.int p2), .val (.int p3), .val (.int p4), .val (.int p5), .val (.int (2 : Int32)), .val (.int off), .val (.ref t181), .val (.ref b182), .val (.ref b185)] [(.int (6 : Int32)), (.ref b185)]))
    obtain ⟨cl217, Ar217, q217, S217, N217n, H217, G217⟩ := id vb202
    have hin217 := inb_of (j := (6 : Int32)) S217 (by decide)
    have hat217 : cl217.slots[((6 : Int32) : Int32).toNatClampNeg]? = some (.int (exF (6 : Int32) off (2 : Int32) p1 p2 p3)) := H217.at hin217 rfl
    refine Go.via (X216.baloadBytes hx (j := (6 : Int32)) (v := (.int (exF (6 : Int32) off (2 : Int32) p1 p2 p3))) (by rw [e216q]; exact Ar217.1) (State.isArrayOf_alike hZ.alike Ar217.2.1) Ar217.2.2 hin217 hat217 (g := (mkF m 264 #[.val (.int p1), .val (.int p2), .val (.int p3), .val (.int p4), .val (.int p5), .val (.int (2 : Int32)), .val (.int off), .val (.ref t181), .val (.ref b182), .val (.ref b185)] [(.int (6 : Int32)), (.ref b185)])) rfl rfl (hb hby at_264)) ?_
    show Go p e below _ (T216.setTop (mkF m 265 #[.val (.int p1), .val (.int p2), .val (.int p3), .val (.int p4), .val (.int p5), .val (.int (2 : Int32)), .val (.int off), .val (.ref t181), .val (.ref b182), .val (.ref b185)] [(.int (exF (6 : Int32) off (2 : Int32) p1 p2 p3))]))
    refine Go.via (fun _ => XS.bipush X216.here hx rfl (hb hby at_265)) ?_
    show Go p e below _ (T216.setTop (mkF m 267 #[.val (.int p1), .val (.int p2), .val (.int p3), .val (.int p4), .val (.int p5), .val (.int (2 : Int32)), .val (.int off), .val (.ref t181), .val (.ref b182), .val (.ref b185)] [(.int (6 : Int32)), (.int (exF (6 : Int32) off (2 : Int32) p1 p2 p3))]))
    refine Go.via (fun _ => XS.iload X216.here hx rfl (hb hby at_267) rfl) ?_
    show Go p e below _ (T216.setTop (mkF m 269 #[.val (.int p1), .val (.int p2), .val (.int p3), .val (.int p4), .val (.int p5), .val (.int (2 : Int32)), .val (.int off), .val (.ref t181), .val (.ref b182), .val (.ref b185)] [(.int off), (.int (6 : Int32)), (.int (exF (6 : Int32) off (2 : Int32) p1 p2 p3))]))
    refine Go.via (fun _ => XS.iload X216.here hx rfl (hb hby at_269) rfl) ?_
    show Go p e below _ (T216.setTop (mkF m 271 #[.val (.int p1), .val (.int p2), .val (.int p3), .val (.int p4), .val (.int p5), .val (.int (2 : Int32)), .val (.int off), .val (.ref t181), .val (.ref b182), .val (.ref b185)] [(.int (2 : Int32)), (.int off), (.int (6 : Int32)), (.int (exF (6 : Int32) off (2 : Int32) p1 p2 p3))]))
    refine Go.via (fun _ => XS.iloadN X216.here hx rfl (hb hby at_271) rfl) ?_
    show Go p e below _ (T216.setTop (mkF m 272 #[.val (.int p1), .val (.int p2), .val (.int p3), .val (.int p4), .val (.int p5), .val (.int (2 : Int32)), .val (.int off), .val (.ref t181), .val (.ref b182), .val (.ref b185)] [(.int p1), (.int (2 : Int32)), (.int off), (.int (6 : Int32)), (.int (exF (6 : Int32) off (2 : Int32) p1 p2 p3))]))
    refine Go.via (fun _ => XS.iloadN X216.here hx rfl (hb hby at_272) rfl) ?_
    show Go p e below _ (T216.setTop (mkF m 273 #[.val (.int p1), .val (.int p2), .val (.int p3), .val (.int p4), .val (.int p5), .val (.int (2 : Int32)), .val (.int off), .val (.ref t181), .val (.ref b182), .val (.ref b185)] [(.int p2), (.int p1), (.int (2 : Int32)), (.int off), (.int (6 : Int32)), (.int (exF (6 : Int32) off (2 : Int32) p1 p2 p3))]))
    refine Go.via (fun _ => XS.iloadN X216.here hx rfl (hb hby at_273) rfl) ?_
    show Go p e below _ (T216.setTop (mkF m 274 #[.val (.int p1), .val (.int p2), .val (.int p3), .val (.int p4), .val (.int p5), .val (.int (2 : Int32)), .val (.int off), .val (.ref t181), .val (.ref b182), .val (.ref b185)] [(.int p3), (.int p2), (.int p1), (.int (2 : Int32)), (.int off), (.int (6 : Int32)), (.int (exF (6 : Int32) off (2 : Int32) p1 p2 p3))]))
    obtain ⟨_, _, ⟨T218, L218, k218, n218⟩, -, X218, ⟨Lc218, hQ218, l218, y218, z218⟩, st218⟩ := Jvm.LawKit.callS X216 hx (y := (⟨"com/example/sluice/sluice/processor/FlowFileCopyContentPinLaw", "expected", "(IIIIII)B"⟩ : MethodName)) hown (mvT hZ (hw _ (List.mem_of_getElem? (i := 62) rfl))) (mvT hZ (hw _ (List.mem_of_getElem? (i := 63) rfl))) (mvT hZ (hw _ (List.mem_of_getElem? (i := 3) rfl))) (mvT hZ (hw _ (List.mem_of_getElem? (i := 64) rfl))) (by decide) (backOf (W := 1) (rmEx l Z a0 hw [] (6 : Int32) off (2 : Int32) p1 p2 p3 T202.heap n0 Zs202) hZ (hw _ (List.mem_of_getElem? (i := 64) rfl)) (hw _ (List.mem_of_getElem? (i := 3) rfl)) (by decide) (by decide)) (g := (mkF m 274 #[.val (.int p1), .val (.int p2), .val (.int p3), .val (.int p4), .val (.int p5), .val (.int (2 : Int32)), .val (.int off), .val (.ref t181), .val (.ref b182), .val (.ref b185)] [(.int p3), (.int p2), (.int p1), (.int (2 : Int32)), (.int off), (.int (6 : Int32)), (.int (exF (6 : Int32) off (2 : Int32) p1 p2 p3))])) rfl (by rw [hml]; rfl) (argsL := [(.int (6 : Int32)), (.int off), (.int (2 : Int32)), (.int p1), (.int p2), (.int p3)]) (rest := [(.int (exF (6 : Int32) off (2 : Int32) p1 p2 p3))]) (lenOf pd_9 rfl) rfl (by show 2 * 0 + _ ≤ _; exact Nat.le_of_eq rfl) (hb hby at_274) (fun _ _ => ⟨rfl, e216q, (by decide : 4 + 0 ≤ _), (by decide : 16 + 0 ≤ _)⟩)
    dsimp only [Pt.U, Pt.locs, Pt.cells, Pt.slots] at X218 l218 y218 z218 st218 hQ218
    rw [l218, y218, z218] at X218
    replace X218 : Stand p l e _ _ m _ below meth c T218 _ 4 16 := X218
    obtain ⟨rfl, N218q, e218q⟩ := hQ218
    have N218 := Fr.app N216 N218q
    refine Go.via st218 ?_
    show Go p e below _ (T218.setTop (mkF m 277 #[.val (.int p1), .val (.int p2), .val (.int p3), .val (.int p4), .val (.int p5), .val (.int (2 : Int32)), .val (.int off), .val (.ref t181), .val (.ref b182), .val (.ref b185)] [(.int (exF (6 : Int32) off (2 : Int32) p1 p2 p3)), (.int (exF (6 : Int32) off (2 : Int32) p1 p2 p3))]))
    refine Go.via (fun _ => XS.icmpNo X218.here hx rfl (hb hby at_277) rfl (teq rfl).2) ?_
    show Go p e below _ (T218.setTop (mkF m 280 #[.val (.int p1), .val (.int p2), .val (.int p3), .val (.int p4), .val (.int p5), .val (.int (2 : Int32)), .val (.int off), .val (.ref t181), .val (.ref b182), .val (.ref b185)] []))
    refine Go.via (fun _ => XS.aload X218.here hx rfl (hb hby at_280) rfl rfl) ?_
    show Go p e below _ (T218.setTop (mkF m 282 #[.val (.int p1), .val (.int p2), .val (.int p3), .val (.int p4), .val (.int p5), .val (.int (2 : Int32)), .val (.int off), .val (.ref t181), .val (.ref b182), .val (.ref b185)] [(.ref b185)]))
    refine Go.via (fun _ => XS.bipush X218.here hx rfl (hb hby at_282)) ?_
    show Go p e below _ (T218.setTop (mkF m 284 #[.val (.int p1), .val (.int p2), .val (.int p3), .val (.int p4), .val (.int p5), .val (.int (2 : Int32)), .val (.int off), .val (.ref t181), .val (.ref b182), .val (.ref b185)] [(.int (7 : Int32)), (.ref b185)]))
    obtain ⟨cl219, Ar219, q219, S219, N219n, H219, G219⟩ := id vb202
    have hin219 := inb_of (j := (7 : Int32)) S219 (by decide)
    have hat219 : cl219.slots[((7 : Int32) : Int32).toNatClampNeg]? = some (.int (exF (7 : Int32) off (2 : Int32) p1 p2 p3)) := H219.at hin219 rfl
    refine Go.via (X218.baloadBytes hx (j := (7 : Int32)) (v := (.int (exF (7 : Int32) off (2 : Int32) p1 p2 p3))) (by rw [e218q]; exact Ar219.1) (State.isArrayOf_alike hZ.alike Ar219.2.1) Ar219.2.2 hin219 hat219 (g := (mkF m 284 #[.val (.int p1), .val (.int p2), .val (.int p3), .val (.int p4), .val (.int p5), .val (.int (2 : Int32)), .val (.int off), .val (.ref t181), .val (.ref b182), .val (.ref b185)] [(.int (7 : Int32)), (.ref b185)])) rfl rfl (hb hby at_284)) ?_
    show Go p e below _ (T218.setTop (mkF m 285 #[.val (.int p1), .val (.int p2), .val (.int p3), .val (.int p4), .val (.int p5), .val (.int (2 : Int32)), .val (.int off), .val (.ref t181), .val (.ref b182), .val (.ref b185)] [(.int (exF (7 : Int32) off (2 : Int32) p1 p2 p3))]))
    refine Go.via (fun _ => XS.bipush X218.here hx rfl (hb hby at_285)) ?_
    show Go p e below _ (T218.setTop (mkF m 287 #[.val (.int p1), .val (.int p2), .val (.int p3), .val (.int p4), .val (.int p5), .val (.int (2 : Int32)), .val (.int off), .val (.ref t181), .val (.ref b182), .val (.ref b185)] [(.int (7 : Int32)), (.int (exF (7 : Int32) off (2 : Int32) p1 p2 p3))]))
    refine Go.via (fun _ => XS.iload X218.here hx rfl (hb hby at_287) rfl) ?_
    show Go p e below _ (T218.setTop (mkF m 289 #[.val (.int p1), .val (.int p2), .val (.int p3), .val (.int p4), .val (.int p5), .val (.int (2 : Int32)), .val (.int off), .val (.ref t181), .val (.ref b182), .val (.ref b185)] [(.int off), (.int (7 : Int32)), (.int (exF (7 : Int32) off (2 : Int32) p1 p2 p3))]))
    refine Go.via (fun _ => XS.iload X218.here hx rfl (hb hby at_289) rfl) ?_
    show Go p e below _ (T218.setTop (mkF m 291 #[.val (.int p1), .val (.int p2), .val (.int p3), .val (.int p4), .val (.int p5), .val (.int (2 : Int32)), .val (.int off), .val (.ref t181), .val (.ref b182), .val (.ref b185)] [(.int (2 : Int32)), (.int off), (.int (7 : Int32)), (.int (exF (7 : Int32) off (2 : Int32) p1 p2 p3))]))
    refine Go.via (fun _ => XS.iloadN X218.here hx rfl (hb hby at_291) rfl) ?_
    show Go p e below _ (T218.setTop (mkF m 292 #[.val (.int p1), .val (.int p2), .val (.int p3), .val (.int p4), .val (.int p5), .val (.int (2 : Int32)), .val (.int off), .val (.ref t181), .val (.ref b182), .val (.ref b185)] [(.int p1), (.int (2 : Int32)), (.int off), (.int (7 : Int32)), (.int (exF (7 : Int32) off (2 : Int32) p1 p2 p3))]))
    refine Go.via (fun _ => XS.iloadN X218.here hx rfl (hb hby at_292) rfl) ?_
    show Go p e below _ (T218.setTop (mkF m 293 #[.val (.int p1), .val (.int p2), .val (.int p3), .val (.int p4), .val (.int p5), .val (.int (2 : Int32)), .val (.int off), .val (.ref t181), .val (.ref b182), .val (.ref b185)] [(.int p2), (.int p1), (.int (2 : Int32)), (.int off), (.int (7 : Int32)), (.int (exF (7 : Int32) off (2 : Int32) p1 p2 p3))]))
    refine Go.via (fun _ => XS.iloadN X218.here hx rfl (hb hby at_293) rfl) ?_
    show Go p e below _ (T218.setTop (mkF m 294 #[.val (.int p1), .val (.int p2), .val (.int p3), .val (.int p4), .val (.int p5), .val (.int (2 : Int32)), .val (.int off), .val (.ref t181), .val (.ref b182), .val (.ref b185)] [(.int p3), (.int p2), (.int p1), (.int (2 : Int32)), (.int off), (.int (7 : Int32)), (.int (exF (7 : Int32) off (2 : Int32) p1 p2 p3))]))
    obtain ⟨_, _, ⟨T220, L220, k220, n220⟩, -, X220, ⟨Lc220, hQ220, l220, y220, z220⟩, st220⟩ := Jvm.LawKit.callS X218 hx (y := (⟨"com/example/sluice/sluice/processor/FlowFileCopyContentPinLaw", "expected", "(IIIIII)B"⟩ : MethodName)) hown (mvT hZ (hw _ (List.mem_of_getElem? (i := 62) rfl))) (mvT hZ (hw _ (List.mem_of_getElem? (i := 63) rfl))) (mvT hZ (hw _ (List.mem_of_getElem? (i := 3) rfl))) (mvT hZ (hw _ (List.mem_of_getElem? (i := 64) rfl))) (by decide) (backOf (W := 1) (rmEx l Z a0 hw [] (7 : Int32) off (2 : Int32) p1 p2 p3 T202.heap n0 Zs202) hZ (hw _ (List.mem_of_getElem? (i := 64) rfl)) (hw _ (List.mem_of_getElem? (i := 3) rfl)) (by decide) (by decide)) (g := (mkF m 294 #[.val (.int p1), .val (.int p2), .val (.int p3), .val (.int p4), .val (.int p5), .val (.int (2 : Int32)), .val (.int off), .val (.ref t181), .val (.ref b182), .val (.ref b185)] [(.int p3), (.int p2), (.int p1), (.int (2 : Int32)), (.int off), (.int (7 : Int32)), (.int (exF (7 : Int32) off (2 : Int32) p1 p2 p3))])) rfl (by rw [hml]; rfl) (argsL := [(.int (7 : Int32)), (.int off), (.int (2 : Int32)), (.int p1), (.int p2), (.int p3)]) (rest := [(.int (exF (7 : Int32) off (2 : Int32) p1 p2 p3))]) (lenOf pd_9 rfl) rfl (by show 2 * 0 + _ ≤ _; exact Nat.le_of_eq rfl) (hb hby at_294) (fun _ _ => ⟨rfl, e218q, (by decide : 4 + 0 ≤ _), (by decide : 16 + 0 ≤ _)⟩)
    dsimp only [Pt.U, Pt.locs, Pt.cells, Pt.slots] at X220 l220 y220 z220 st220 hQ220
    rw [l220, y220, z220] at X220
    replace X220 : Stand p l e _ _ m _ below meth c T220 _ 4 16 := X220
    obtain ⟨rfl, N220q, e220q⟩ := hQ220
    have N220 := Fr.app N218 N220q
    refine Go.via st220 ?_
    show Go p e below _ (T220.setTop (mkF m 297 #[.val (.int p1), .val (.int p2), .val (.int p3), .val (.int p4), .val (.int p5), .val (.int (2 : Int32)), .val (.int off), .val (.ref t181), .val (.ref b182), .val (.ref b185)] [(.int (exF (7 : Int32) off (2 : Int32) p1 p2 p3)), (.int (exF (7 : Int32) off (2 : Int32) p1 p2 p3))]))
    refine Go.via (fun _ => XS.icmpNo X220.here hx rfl (hb hby at_297) rfl (teq rfl).2) ?_
    show Go p e below _ (T220.setTop (mkF m 300 #[.val (.int p1), .val (.int p2), .val (.int p3), .val (.int p4), .val (.int p5), .val (.int (2 : Int32)), .val (.int off), .val (.ref t181), .val (.ref b182), .val (.ref b185)] []))
    refine Go.via (fun _ => XS.iconst X220.here hx rfl (hb hby at_300)) ?_
    show Go p e below _ (T220.setTop (mkF m 301 #[.val (.int p1), .val (.int p2), .val (.int p3), .val (.int p4), .val (.int p5), .val (.int (2 : Int32)), .val (.int off), .val (.ref t181), .val (.ref b182), .val (.ref b185)] [(.int (1 : Int32))]))
    refine Go.via (fun _ => XS.goto X220.here hx rfl (pc0 := 301) (pc' := 305) rfl (hb hby at_301) (by decide) (by decide)) ?_
    show Go p e below _ (T220.setTop (mkF m 305 #[.val (.int p1), .val (.int p2), .val (.int p3), .val (.int p4), .val (.int p5), .val (.int (2 : Int32)), .val (.int off), .val (.ref t181), .val (.ref b182), .val (.ref b185)] [(.int (1 : Int32))]))
    exact own_retN X220 hx hlk (t := .boolean) Bd.returns (by simp) (hb hby at_305) (by show Q0 Z p1 p2 p3 p4 p5 em h0 n0 _ T220.heap _; rw [e220q]; exact ⟨rfl, N220⟩) (by decide) (by decide)
  ·
    show Go p e below _ (s₁.setTop (mkF m 6 #[.val (.int p1), .val (.int p2), .val (.int p3), .val (.int p4), .val (.int p5), .unset, .unset, .unset, .unset, .unset] [(.int (3 : Int32))]))
    refine Go.via (fun _ => XS.istore X0.here hx rfl (hb hby at_6) rfl (l' := #[.val (.int p1), .val (.int p2), .val (.int p3), .val (.int p4), .val (.int p5), .val (.int (3 : Int32)), .unset, .unset, .unset, .unset]) rfl) ?_
    show Go p e below _ (s₁.setTop (mkF m 8 #[.val (.int p1), .val (.int p2), .val (.int p3), .val (.int p4), .val (.int p5), .val (.int (3 : Int32)), .unset, .unset, .unset, .unset] []))
    refine Go.via (fun _ => XS.iload X0.here hx rfl (hb hby at_8) rfl) ?_
    show Go p e below _ (s₁.setTop (mkF m 10 #[.val (.int p1), .val (.int p2), .val (.int p3), .val (.int p4), .val (.int p5), .val (.int (3 : Int32)), .unset, .unset, .unset, .unset] [(.int p5)]))
    refine Go.via (X0.ldcInt hx hown (mvT hZ (hw _ (List.mem_of_getElem? (i := 0) rfl))) (g := (mkF m 10 #[.val (.int p1), .val (.int p2), .val (.int p3), .val (.int p4), .val (.int p5), .val (.int (3 : Int32)), .unset, .unset, .unset, .unset] [(.int p5)])) rfl (hb hby at_10)) ?_
    show Go p e below _ (s₁.setTop (mkF m 12 #[.val (.int p1), .val (.int p2), .val (.int p3), .val (.int p4), .val (.int p5), .val (.int (3 : Int32)), .unset, .unset, .unset, .unset] [(.int (2147483647 : Int32)), (.int p5)]))
    refine Go.via (fun _ => XS.iand X0.here hx rfl (hb hby at_12) rfl) ?_
    show Go p e below _ (s₁.setTop (mkF m 13 #[.val (.int p1), .val (.int p2), .val (.int p3), .val (.int p4), .val (.int p5), .val (.int (3 : Int32)), .unset, .unset, .unset, .unset] [(.int (p5 &&& (2147483647 : Int32)))]))
    refine Go.via (fun _ => XS.bipush X0.here hx rfl (hb hby at_13)) ?_
    show Go p e below _ (s₁.setTop (mkF m 15 #[.val (.int p1), .val (.int p2), .val (.int p3), .val (.int p4), .val (.int p5), .val (.int (3 : Int32)), .unset, .unset, .unset, .unset] [(.int (9 : Int32)), (.int (p5 &&& (2147483647 : Int32)))]))
    refine Go.via (fun _ => XS.iload X0.here hx rfl (hb hby at_15) rfl) ?_
    show Go p e below _ (s₁.setTop (mkF m 17 #[.val (.int p1), .val (.int p2), .val (.int p3), .val (.int p4), .val (.int p5), .val (.int (3 : Int32)), .unset, .unset, .unset, .unset] [(.int (3 : Int32)), (.int (9 : Int32)), (.int (p5 &&& (2147483647 : Int32)))]))
    refine Go.via (fun _ => XS.isub X0.here hx rfl (hb hby at_17) rfl) ?_
    show Go p e below _ (s₁.setTop (mkF m 18 #[.val (.int p1), .val (.int p2), .val (.int p3), .val (.int p4), .val (.int p5), .val (.int (3 : Int32)), .unset, .unset, .unset, .unset] [(.int (6 : Int32)), (.int (p5 &&& (2147483647 : Int32)))]))
    refine Go.via (fun _ => iremM X0 hx rfl (hb hby at_18) rfl (by decide)) ?_
    show Go p e below _ (s₁.setTop (mkF m 19 #[.val (.int p1), .val (.int p2), .val (.int p3), .val (.int p4), .val (.int p5), .val (.int (3 : Int32)), .unset, .unset, .unset, .unset] [(.int ((p5 &&& (2147483647 : Int32)) % (6 : Int32)))]))
    have hoff := own_off3 p5
    generalize hof : ((p5 &&& (2147483647 : Int32)) % (6 : Int32)) = off at hoff ⊢
    show Go p e below _ (s₁.setTop (mkF m 19 #[.val (.int p1), .val (.int p2), .val (.int p3), .val (.int p4), .val (.int p5), .val (.int (3 : Int32)), .unset, .unset, .unset, .unset] [(.int off)]))
    refine Go.via (fun _ => XS.istore X0.here hx rfl (hb hby at_19) rfl (l' := #[.val (.int p1), .val (.int p2), .val (.int p3), .val (.int p4), .val (.int p5), .val (.int (3 : Int32)), .val (.int off), .unset, .unset, .unset]) rfl) ?_
    show Go p e below _ (s₁.setTop (mkF m 21 #[.val (.int p1), .val (.int p2), .val (.int p3), .val (.int p4), .val (.int p5), .val (.int (3 : Int32)), .val (.int off), .unset, .unset, .unset] []))
    refine Go.via (fun _ => XS.iload X0.here hx rfl (hb hby at_21) rfl) ?_
    show Go p e below _ (s₁.setTop (mkF m 23 #[.val (.int p1), .val (.int p2), .val (.int p3), .val (.int p4), .val (.int p5), .val (.int (3 : Int32)), .val (.int off), .unset, .unset, .unset] [(.int (3 : Int32))]))
    refine Go.via (fun _ => XS.iloadN X0.here hx rfl (hb hby at_23) rfl) ?_
    show Go p e below _ (s₁.setTop (mkF m 24 #[.val (.int p1), .val (.int p2), .val (.int p3), .val (.int p4), .val (.int p5), .val (.int (3 : Int32)), .val (.int off), .unset, .unset, .unset] [(.int p1), (.int (3 : Int32))]))
    obtain ⟨_, _, ⟨T221, L221, k221, n221⟩, -, X221, ⟨Lc221, hQ221, l221, y221, z221⟩, st221⟩ := Jvm.LawKit.callS X0 hx (y := (⟨"com/example/sluice/sluice/processor/FlowFileCopyContentPinLaw", "makeContent", "(II)[B"⟩ : MethodName)) hown (mvT hZ (hw _ (List.mem_of_getElem? (i := 1) rfl))) (mvT hZ (hw _ (List.mem_of_getElem? (i := 2) rfl))) (mvT hZ (hw _ (List.mem_of_getElem? (i := 3) rfl))) (mvT hZ (hw _ (List.mem_of_getElem? (i := 4) rfl))) (by decide) (backOf (W := 0) (rmMk_3 l Z a0 hw [] p1 h0 n0 Z0) hZ (hw _ (List.mem_of_getElem? (i := 4) rfl)) (hw _ (List.mem_of_getElem? (i := 3) rfl)) (by decide) (by decide)) (g := (mkF m 24 #[.val (.int p1), .val (.int p2), .val (.int p3), .val (.int p4), .val (.int p5), .val (.int (3 : Int32)), .val (.int off), .unset, .unset, .unset] [(.int p1), (.int (3 : Int32))])) rfl (by rw [hml]; rfl) (argsL := [(.int (3 : Int32)), (.int p1)]) (rest := []) (lenOf pd_4 rfl) rfl (by show 2 * 0 + _ ≤ _; exact Nat.le_of_eq rfl) (hb hby at_24) (fun _ _ => ⟨rfl, e0, (by decide : 0 + 1 ≤ _), (by decide : 0 + 3 ≤ _)⟩)
    dsimp only [Pt.U, Pt.locs, Pt.cells, Pt.slots] at X221 l221 y221 z221 st221 hQ221
    rw [l221, y221, z221] at X221
    replace X221 : Stand p l e _ _ m _ below meth c T221 _ 1 3 := X221
    obtain ⟨t221, kb221, rfl, N221q, K221q, gt221, et221, va221⟩ := hQ221
    have N221 := Fr.app N0 N221q
    refine Go.via st221 ?_
    have Zs221 : n0 ≤ T221.heap.size := Nat.le_trans Z0 K221q.1
    have O221 : Old Z n0 T221.heap := O0.keep K221q all0
    have g_t221 : n0 ≤ t221 := Nat.le_trans Z0 gt221
    show Go p e below _ (T221.setTop (mkF m 27 #[.val (.int p1), .val (.int p2), .val (.int p3), .val (.int p4), .val (.int p5), .val (.int (3 : Int32)), .val (.int off), .unset, .unset, .unset] [(.ref t221)]))
    refine Go.via (fun _ => XS.astore X221.here hx rfl (hb hby at_27) rfl rfl (l' := #[.val (.int p1), .val (.int p2), .val (.int p3), .val (.int p4), .val (.int p5), .val (.int (3 : Int32)), .val (.int off), .val (.ref t221), .unset, .unset]) rfl) ?_
    show Go p e below _ (T221.setTop (mkF m 29 #[.val (.int p1), .val (.int p2), .val (.int p3), .val (.int p4), .val (.int p5), .val (.int (3 : Int32)), .val (.int off), .val (.ref t221), .unset, .unset] []))
    obtain ⟨T222, h222, X222, e222, E222, A222, D222, -, st222⟩ := newO X221 hx hZ hown (hw _ (List.mem_of_getElem? (i := 9) rfl)) (hw _ (List.mem_of_getElem? (i := 10) rfl)) (hw _ (List.mem_of_getElem? (i := 11) rfl)) rfl (g := (mkF m 29 #[.val (.int p1), .val (.int p2), .val (.int p3), .val (.int p4), .val (.int p5), .val (.int (3 : Int32)), .val (.int off), .val (.ref t221), .unset, .unset] [])) rfl (hb hby at_29) (by decide) (by decide)
    obtain ⟨b222, g222⟩ : ∃ z, z = T221.heap.size := ⟨_, rfl⟩
    rw [← g222] at A222 D222 st222
    have g_b222 : n0 ≤ b222 := Nat.le_trans Zs221 (Nat.le_of_eq g222.symm)
    have ne_t221_b222 : t221 ≠ b222 := Nat.ne_of_lt (Nat.lt_of_lt_of_le et221.lt (Nat.le_of_eq g222.symm))
    refine Go.via st222 ?_
    have Zs222 : n0 ≤ h222.size := Nat.le_trans Zs221 E222.1
    have O222 : Old Z n0 h222 := O221.ext E222
    have fE_t221_222 := et221.ext E222
    have fV_t221_222 := va221.ext E222
    have F_attributes_b222 : Fld Z h222 b222 "com/example/sluice/sluice/processor/FlowFile" "attributes" "Ljava/util/Map;" .null := D222 (Or.inr (hw _ (List.mem_of_getElem? (i := 42) rfl))) (ty := (.object "java/util/Map")) (by decide)
    have F_content_b222 : Fld Z h222 b222 "com/example/sluice/sluice/processor/FlowFile" "content" "[B" .null := D222 (Or.inr (hw _ (List.mem_of_getElem? (i := 44) rfl))) (ty := (.array .byte)) (by decide)
    show Go p e below _ (T222.setTop (mkF m 32 #[.val (.int p1), .val (.int p2), .val (.int p3), .val (.int p4), .val (.int p5), .val (.int (3 : Int32)), .val (.int off), .val (.ref t221), .unset, .unset] [(.ref b222)]))
    refine Go.via (fun _ => XS.dup X222.here hx rfl (hb hby at_32) rfl rfl) ?_
    show Go p e below _ (T222.setTop (mkF m 33 #[.val (.int p1), .val (.int p2), .val (.int p3), .val (.int p4), .val (.int p5), .val (.int (3 : Int32)), .val (.int off), .val (.ref t221), .unset, .unset] [(.ref b222), (.ref b222)]))
    obtain ⟨_, _, ⟨T223, L223, k223, n223⟩, -, X223, ⟨Lc223, hQ223, l223, y223, z223⟩, st223⟩ := Jvm.LawKit.callS X222 hx (y := (⟨"java/util/Map", "of", "()Ljava/util/Map;"⟩ : MethodName)) hown (mvT hZ (hw _ (List.mem_of_getElem? (i := 12) rfl))) (mvT hZ (hw _ (List.mem_of_getElem? (i := 13) rfl))) (mvT hZ (hw _ (List.mem_of_getElem? (i := 14) rfl))) (mvT hZ (hw _ (List.mem_of_getElem? (i := 15) rfl))) (by decide) (backOf (W := 2) (rmOf l Z a0 hw [] em h222 n0 Zs222 O222 S_EM) hZ (hw _ (List.mem_of_getElem? (i := 15) rfl)) (hw _ (List.mem_of_getElem? (i := 14) rfl)) (by decide) (by decide)) (g := (mkF m 33 #[.val (.int p1), .val (.int p2), .val (.int p3), .val (.int p4), .val (.int p5), .val (.int (3 : Int32)), .val (.int off), .val (.ref t221), .unset, .unset] [(.ref b222), (.ref b222)])) rfl (by rw [hml]; rfl) (argsL := []) (rest := [(.ref b222), (.ref b222)]) (lenOf pd_5 rfl) rfl (by show 2 * 0 + _ ≤ _; exact Nat.le_of_eq rfl) (hb hby at_33) (fun _ _ => ⟨rfl, e222, (by decide : 2 + 0 ≤ _), (by decide : 5 + 0 ≤ _)⟩)
    dsimp only [Pt.U, Pt.locs, Pt.cells, Pt.slots] at X223 l223 y223 z223 st223 hQ223
    rw [l223, y223, z223] at X223
    replace X223 : Stand p l e _ _ m _ below meth c T223 _ 2 5 := X223
    obtain ⟨rfl, N223q, e223q⟩ := hQ223
    have N223 := Fr.app N221 N223q
    refine Go.via st223 ?_
    show Go p e below _ (T223.setTop (mkF m 36 #[.val (.int p1), .val (.int p2), .val (.int p3), .val (.int p4), .val (.int p5), .val (.int (3 : Int32)), .val (.int off), .val (.ref t221), .unset, .unset] [(.ref em), (.ref b222), (.ref b222)]))
    refine Go.via (fun _ => XS.aload X223.here hx rfl (hb hby at_36) rfl rfl) ?_
    show Go p e below _ (T223.setTop (mkF m 38 #[.val (.int p1), .val (.int p2), .val (.int p3), .val (.int p4), .val (.int p5), .val (.int (3 : Int32)), .val (.int off), .val (.ref t221), .unset, .unset] [(.ref t221), (.ref em), (.ref b222), (.ref b222)]))
    have eemb222 := E_EM.ext O222.2
    have neemb222 : b222 ≠ em := Ne.symm (O222.ne E_EM.lt g_b222)
    obtain ⟨_, _, ⟨T224, L224, k224, n224⟩, -, X224, ⟨Lc224, hQ224, l224, y224, z224⟩, st224⟩ := X223.specialBack hx (y := (⟨"com/example/sluice/sluice/processor/FlowFile", "<init>", "(Ljava/util/Map;[B)V"⟩ : MethodName)) rfl hown (mvT hZ (hw _ (List.mem_of_getElem? (i := 18) rfl))) (mvT hZ (hw _ (List.mem_of_getElem? (i := 19) rfl))) (mvT hZ (hw _ (List.mem_of_getElem? (i := 20) rfl))) (by decide) (backOf (W := 1) (rmFI1 l Z a0 hw [] b222 em t221 kb221 (3 : Int32) _ h222 n0 Zs222 A222 F_attributes_b222 F_content_b222 g_b222 eemb222 fE_t221_222 fV_t221_222 (by decide) neemb222 (Ne.symm ne_t221_b222)) hZ (hw _ (List.mem_of_getElem? (i := 20) rfl)) (hw _ (List.mem_of_getElem? (i := 11) rfl)) (by decide) (by decide)) (g := (mkF m 38 #[.val (.int p1), .val (.int p2), .val (.int p3), .val (.int p4), .val (.int p5), .val (.int (3 : Int32)), .val (.int off), .val (.ref t221), .unset, .unset] [(.ref t221), (.ref em), (.ref b222), (.ref b222)])) rfl (by rw [hml]; rfl) (Steps.refl _) (a := b222) (argsL := [(.ref em), (.ref t221)]) (rest := [(.ref b222)]) (lenOf pd_6 rfl) rfl (by show 2 * 0 + _ ≤ _; exact Nat.le_of_eq rfl) (hb hby at_38) (fun _ _ => ⟨rfl, e223q, (by decide : 2 + 1 ≤ _), (by decide : 5 + 4 ≤ _)⟩)
    dsimp only [Pt.U, Pt.locs, Pt.cells, Pt.slots] at X224 l224 y224 z224 st224 hQ224
    rw [l224, y224, z224] at X224
    replace X224 : Stand p l e _ _ m _ below meth c T224 _ 3 9 := X224
    obtain ⟨rfl, N224q, K224q, ct224, gt224, fc224, va224⟩ := hQ224
    have N224 := Fr.app N223 N224q
    refine Go.tr st224 ?_
    have Zs224 : n0 ≤ T224.heap.size := Nat.le_trans Zs222 K224q.1
    have O224 : Old Z n0 T224.heap := O222.keep K224q (allS g_b222 all0)
    have fE_t221_224 := fE_t221_222.keep K224q
    have fV_t221_224 := fV_t221_222.keep K224q (ninS ne_t221_b222 nin0)
    have fE_b222_224 := A222.keep K224q
    have g_ct224 : n0 ≤ ct224 := Nat.le_trans Zs222 gt224
    have ne_t221_ct224 : t221 ≠ ct224 := Nat.ne_of_lt (Nat.lt_of_lt_of_le fE_t221_222.lt gt224)
    have ne_b222_ct224 : b222 ≠ ct224 := Nat.ne_of_lt (Nat.lt_of_lt_of_le A222.lt gt224)
    show Go p e below _ (T224.setTop (mkF m 41 #[.val (.int p1), .val (.int p2), .val (.int p3), .val (.int p4), .val (.int p5), .val (.int (3 : Int32)), .val (.int off), .val (.ref t221), .unset, .unset] [(.ref b222)]))
    refine Go.via (fun _ => XS.astore X224.here hx rfl (hb hby at_41) rfl rfl (l' := #[.val (.int p1), .val (.int p2), .val (.int p3), .val (.int p4), .val (.int p5), .val (.int (3 : Int32)), .val (.int off), .val (.ref t221), .val (.ref b222), .unset]) rfl) ?_
    show Go p e below _ (T224.setTop (mkF m 43 #[.val (.int p1), .val (.int p2), .val (.int p3), .val (.int p4), .val (.int p5), .val (.int (3 : Int32)), .val (.int off), .val (.ref t221), .val (.ref b222), .unset] []))
    refine Go.via (fun _ => XS.bipush X224.here hx rfl (hb hby at_43)) ?_
    show Go p e below _ (T224.setTop (mkF m 45 #[.val (.int p1), .val (.int p2), .val (.int p3), .val (.int p4), .val (.int p5), .val (.int (3 : Int32)), .val (.int off), .val (.ref t221), .val (.ref b222), .unset] [(.int (8 : Int32))]))
    obtain ⟨T225, h225, k225, X225, e225, E225, A225, st225⟩ := newP X224 hx hZ (hw _ (List.mem_of_getElem? (i := 5) rfl)) rfl (g := (mkF m 45 #[.val (.int p1), .val (.int p2), .val (.int p3), .val (.int p4), .val (.int p5), .val (.int (3 : Int32)), .val (.int off), .val (.ref t221), .val (.ref b222), .unset] [(.int (8 : Int32))])) rfl (hb hby at_45) rfl (by decide) (cap := 8) (by decide) (by decide) (by decide) (by decide)
    obtain ⟨b225, g225⟩ : ∃ z, z = T224.heap.size := ⟨_, rfl⟩
    rw [← g225] at A225 st225
    have g_b225 : n0 ≤ b225 := Nat.le_trans Zs224 (Nat.le_of_eq g225.symm)
    have ne_t221_b225 : t221 ≠ b225 := Nat.ne_of_lt (Nat.lt_of_lt_of_le fE_t221_224.lt (Nat.le_of_eq g225.symm))
    have ne_b222_b225 : b222 ≠ b225 := Nat.ne_of_lt (Nat.lt_of_lt_of_le fE_b222_224.lt (Nat.le_of_eq g225.symm))
    have ne_ct224_b225 : ct224 ≠ b225 := Nat.ne_of_lt (Nat.lt_of_lt_of_le va224.lt (Nat.le_of_eq g225.symm))
    refine Go.via st225 ?_
    have Zs225 : n0 ≤ h225.size := Nat.le_trans Zs224 E225.1
    have O225 : Old Z n0 h225 := O224.ext E225
    have fE_t221_225 := fE_t221_224.ext E225
    have fV_t221_225 := fV_t221_224.ext E225
    have fE_b222_225 := fE_b222_224.ext E225
    have fF_b222_content_225 := fc224.ext E225
    have fV_ct224_225 := va224.ext E225
    have V_b225 : Arv Z h225 b225 k225 .byte (8 : Int32) [(.int (0 : Int32)), (.int (0 : Int32)), (.int (0 : Int32)), (.int (0 : Int32)), (.int (0 : Int32)), (.int (0 : Int32)), (.int (0 : Int32)), (.int (0 : Int32))] (.int (0 : Int32)) := (Arv.new A225 (by decide)).pad (pad_rep [] (.int (0 : Int32)) 8)
    show Go p e below _ (T225.setTop (mkF m 47 #[.val (.int p1), .val (.int p2), .val (.int p3), .val (.int p4), .val (.int p5), .val (.int (3 : Int32)), .val (.int off), .val (.ref t221), .val (.ref b222), .unset] [(.ref b225)]))
    refine Go.via (fun _ => XS.dup X225.here hx rfl (hb hby at_47) rfl rfl) ?_
    show Go p e below _ (T225.setTop (mkF m 48 #[.val (.int p1), .val (.int p2), .val (.int p3), .val (.int p4), .val (.int p5), .val (.int (3 : Int32)), .val (.int off), .val (.ref t221), .val (.ref b222), .unset] [(.ref b225), (.ref b225)]))
    refine Go.via (fun _ => XS.iconst X225.here hx rfl (hb hby at_48)) ?_
    show Go p e below _ (T225.setTop (mkF m 49 #[.val (.int p1), .val (.int p2), .val (.int p3), .val (.int p4), .val (.int p5), .val (.int (3 : Int32)), .val (.int off), .val (.ref t221), .val (.ref b222), .unset] [(.int (0 : Int32)), (.ref b225), (.ref b225)]))
    refine Go.via (fun _ => XS.iconst X225.here hx rfl (hb hby at_49)) ?_
    show Go p e below _ (T225.setTop (mkF m 50 #[.val (.int p1), .val (.int p2), .val (.int p3), .val (.int p4), .val (.int p5), .val (.int (3 : Int32)), .val (.int off), .val (.ref t221), .val (.ref b222), .unset] [(.int (0 : Int32)), (.int (0 : Int32)), (.ref b225), (.ref b225)]))
    refine Go.via (fun _ => XS.iloadN X225.here hx rfl (hb hby at_50) rfl) ?_
    show Go p e below _ (T225.setTop (mkF m 51 #[.val (.int p1), .val (.int p2), .val (.int p3), .val (.int p4), .val (.int p5), .val (.int (3 : Int32)), .val (.int off), .val (.ref t221), .val (.ref b222), .unset] [(.int p2), (.int (0 : Int32)), (.int (0 : Int32)), (.ref b225), (.ref b225)]))
    refine Go.via (fun _ => XS.iloadN X225.here hx rfl (hb hby at_51) rfl) ?_
    show Go p e below _ (T225.setTop (mkF m 52 #[.val (.int p1), .val (.int p2), .val (.int p3), .val (.int p4), .val (.int p5), .val (.int (3 : Int32)), .val (.int off), .val (.ref t221), .val (.ref b222), .unset] [(.int p3), (.int p2), (.int (0 : Int32)), (.int (0 : Int32)), (.ref b225), (.ref b225)]))
    obtain ⟨_, _, ⟨T226, L226, k226, n226⟩, -, X226, ⟨Lc226, hQ226, l226, y226, z226⟩, st226⟩ := Jvm.LawKit.callS X225 hx (y := (⟨"com/example/sluice/sluice/processor/FlowFileCopyContentPinLaw", "db", "(III)B"⟩ : MethodName)) hown (mvT hZ (hw _ (List.mem_of_getElem? (i := 45) rfl))) (mvT hZ (hw _ (List.mem_of_getElem? (i := 46) rfl))) (mvT hZ (hw _ (List.mem_of_getElem? (i := 3) rfl))) (mvT hZ (hw _ (List.mem_of_getElem? (i := 47) rfl))) (by decide) (backOf (W := 3) (rmDb l Z a0 hw [] (0 : Int32) p2 p3 h225 n0 Zs225) hZ (hw _ (List.mem_of_getElem? (i := 47) rfl)) (hw _ (List.mem_of_getElem? (i := 3) rfl)) (by decide) (by decide)) (g := (mkF m 52 #[.val (.int p1), .val (.int p2), .val (.int p3), .val (.int p4), .val (.int p5), .val (.int (3 : Int32)), .val (.int off), .val (.ref t221), .val (.ref b222), .unset] [(.int p3), (.int p2), (.int (0 : Int32)), (.int (0 : Int32)), (.ref b225), (.ref b225)])) rfl (by rw [hml]; rfl) (argsL := [(.int (0 : Int32)), (.int p2), (.int p3)]) (rest := [(.int (0 : Int32)), (.ref b225), (.ref b225)]) (lenOf pd_0 rfl) rfl (by show 2 * 0 + _ ≤ _; exact Nat.le_of_eq rfl) (hb hby at_52) (fun _ _ => ⟨rfl, e225, (by decide : 4 + 0 ≤ _), (by decide : 17 + 0 ≤ _)⟩)
    dsimp only [Pt.U, Pt.locs, Pt.cells, Pt.slots] at X226 l226 y226 z226 st226 hQ226
    rw [l226, y226, z226] at X226
    replace X226 : Stand p l e _ _ m _ below meth c T226 _ 4 17 := X226
    obtain ⟨rfl, N226q, e226q⟩ := hQ226
    have N226 := Fr.app N224 N226q
    refine Go.via st226 ?_
    show Go p e below _ (T226.setTop (mkF m 55 #[.val (.int p1), .val (.int p2), .val (.int p3), .val (.int p4), .val (.int p5), .val (.int (3 : Int32)), .val (.int off), .val (.ref t221), .val (.ref b222), .unset] [(.int (dbF (0 : Int32) p2 p3)), (.int (0 : Int32)), (.ref b225), (.ref b225)]))
    obtain ⟨cl227, Ar227, q227, S227, N227n, H227, G227⟩ := id V_b225
    have hin227 := inb_of (j := (0 : Int32)) S227 (by decide)
    obtain ⟨T227, h227, X227, e227, W227, st227⟩ := stB X226 hx hZ e226q Ar227 (j := (0 : Int32)) hin227 (g := (mkF m 55 #[.val (.int p1), .val (.int p2), .val (.int p3), .val (.int p4), .val (.int p5), .val (.int (3 : Int32)), .val (.int off), .val (.ref t221), .val (.ref b222), .unset] [(.int (dbF (0 : Int32) p2 p3)), (.int (0 : Int32)), (.ref b225), (.ref b225)])) rfl rfl (hb hby at_55)
    refine Go.via st227 ?_
    have V227 : Arv Z h227 b225 k225 .byte (8 : Int32) [(.int (nar .byte (dbF (0 : Int32) p2 p3))), (.int (0 : Int32)), (.int (0 : Int32)), (.int (0 : Int32)), (.int (0 : Int32)), (.int (0 : Int32)), (.int (0 : Int32)), (.int (0 : Int32))] (.int (0 : Int32)) := Arv.set Ar227 q227 S227 N227n H227 G227 (fits_nar_byte _) W227 0 rfl (Nat.le_of_ble_eq_true rfl)
    have Zs227 : n0 ≤ h227.size := Nat.le_trans Zs225 (Keep.of_wr W227).1
    have O227 : Old Z n0 h227 := O225.wr W227 g_b225
    have N227 := Fr.snoc X227 N226 g_b225
    have fE_t221_227 := fE_t221_225.wr W227
    have fV_t221_227 := fV_t221_225.other W227 ne_t221_b225
    have fE_b222_227 := fE_b222_225.wr W227
    have fF_b222_content_227 := fF_b222_content_225.other W227 (Or.inl ne_b222_b225)
    have fV_ct224_227 := fV_ct224_225.other W227 ne_ct224_b225
    show Go p e below _ (T227.setTop (mkF m 56 #[.val (.int p1), .val (.int p2), .val (.int p3), .val (.int p4), .val (.int p5), .val (.int (3 : Int32)), .val (.int off), .val (.ref t221), .val (.ref b222), .unset] [(.ref b225)]))
    refine Go.via (fun _ => XS.dup X227.here hx rfl (hb hby at_56) rfl rfl) ?_
    show Go p e below _ (T227.setTop (mkF m 57 #[.val (.int p1), .val (.int p2), .val (.int p3), .val (.int p4), .val (.int p5), .val (.int (3 : Int32)), .val (.int off), .val (.ref t221), .val (.ref b222), .unset] [(.ref b225), (.ref b225)]))
    refine Go.via (fun _ => XS.iconst X227.here hx rfl (hb hby at_57)) ?_
    show Go p e below _ (T227.setTop (mkF m 58 #[.val (.int p1), .val (.int p2), .val (.int p3), .val (.int p4), .val (.int p5), .val (.int (3 : Int32)), .val (.int off), .val (.ref t221), .val (.ref b222), .unset] [(.int (1 : Int32)), (.ref b225), (.ref b225)]))
    refine Go.via (fun _ => XS.iconst X227.here hx rfl (hb hby at_58)) ?_
    show Go p e below _ (T227.setTop (mkF m 59 #[.val (.int p1), .val (.int p2), .val (.int p3), .val (.int p4), .val (.int p5), .val (.int (3 : Int32)), .val (.int off), .val (.ref t221), .val (.ref b222), .unset] [(.int (1 : Int32)), (.int (1 : Int32)), (.ref b225), (.ref b225)]))
    refine Go.via (fun _ => XS.iloadN X227.here hx rfl (hb hby at_59) rfl) ?_
    show Go p e below _ (T227.setTop (mkF m 60 #[.val (.int p1), .val (.int p2), .val (.int p3), .val (.int p4), .val (.int p5), .val (.int (3 : Int32)), .val (.int off), .val (.ref t221), .val (.ref b222), .unset] [(.int p2), (.int (1 : Int32)), (.int (1 : Int32)), (.ref b225), (.ref b225)]))
    refine Go.via (fun _ => XS.iloadN X227.here hx rfl (hb hby at_60) rfl) ?_
    show Go p e below _ (T227.setTop (mkF m 61 #[.val (.int p1), .val (.int p2), .val (.int p3), .val (.int p4), .val (.int p5), .val (.int (3 : Int32)), .val (.int off), .val (.ref t221), .val (.ref b222), .unset] [(.int p3), (.int p2), (.int (1 : Int32)), (.int (1 : Int32)), (.ref b225), (.ref b225)]))
    obtain ⟨_, _, ⟨T228, L228, k228, n228⟩, -, X228, ⟨Lc228, hQ228, l228, y228, z228⟩, st228⟩ := Jvm.LawKit.callS X227 hx (y := (⟨"com/example/sluice/sluice/processor/FlowFileCopyContentPinLaw", "db", "(III)B"⟩ : MethodName)) hown (mvT hZ (hw _ (List.mem_of_getElem? (i := 45) rfl))) (mvT hZ (hw _ (List.mem_of_getElem? (i := 46) rfl))) (mvT hZ (hw _ (List.mem_of_getElem? (i := 3) rfl))) (mvT hZ (hw _ (List.mem_of_getElem? (i := 47) rfl))) (by decide) (backOf (W := 3) (rmDb l Z a0 hw [] (1 : Int32) p2 p3 h227 n0 Zs227) hZ (hw _ (List.mem_of_getElem? (i := 47) rfl)) (hw _ (List.mem_of_getElem? (i := 3) rfl)) (by decide) (by decide)) (g := (mkF m 61 #[.val (.int p1), .val (.int p2), .val (.int p3), .val (.int p4), .val (.int p5), .val (.int (3 : Int32)), .val (.int off), .val (.ref t221), .val (.ref b222), .unset] [(.int p3), (.int p2), (.int (1 : Int32)), (.int (1 : Int32)), (.ref b225), (.ref b225)])) rfl (by rw [hml]; rfl) (argsL := [(.int (1 : Int32)), (.int p2), (.int p3)]) (rest := [(.int (1 : Int32)), (.ref b225), (.ref b225)]) (lenOf pd_0 rfl) rfl (by show 2 * 0 + _ ≤ _; exact Nat.le_of_eq rfl) (hb hby at_61) (fun _ _ => ⟨rfl, e227, (by decide : 4 + 0 ≤ _), (by decide : 17 + 0 ≤ _)⟩)
    dsimp only [Pt.U, Pt.locs, Pt.cells, Pt.slots] at X228 l228 y228 z228 st228 hQ228
    rw [l228, y228, z228] at X228
    replace X228 : Stand p l e _ _ m _ below meth c T228 _ 4 17 := X228
    obtain ⟨rfl, N228q, e228q⟩ := hQ228
    have N228 := Fr.app N227 N228q
    refine Go.via st228 ?_
    show Go p e below _ (T228.setTop (mkF m 64 #[.val (.int p1), .val (.int p2), .val (.int p3), .val (.int p4), .val (.int p5), .val (.int (3 : Int32)), .val (.int off), .val (.ref t221), .val (.ref b222), .unset] [(.int (dbF (1 : Int32) p2 p3)), (.int (1 : Int32)), (.ref b225), (.ref b225)]))
    obtain ⟨cl229, Ar229, q229, S229, N229n, H229, G229⟩ := id V227
    have hin229 := inb_of (j := (1 : Int32)) S229 (by decide)
    obtain ⟨T229, h229, X229, e229, W229, st229⟩ := stB X228 hx hZ e228q Ar229 (j := (1 : Int32)) hin229 (g := (mkF m 64 #[.val (.int p1), .val (.int p2), .val (.int p3), .val (.int p4), .val (.int p5), .val (.int (3 : Int32)), .val (.int off), .val (.ref t221), .val (.ref b222), .unset] [(.int (dbF (1 : Int32) p2 p3)), (.int (1 : Int32)), (.ref b225), (.ref b225)])) rfl rfl (hb hby at_64)
    refine Go.via st229 ?_
    have V229 : Arv Z h229 b225 k225 .byte (8 : Int32) [(.int (nar .byte (dbF (0 : Int32) p2 p3))), (.int (nar .byte (dbF (1 : Int32) p2 p3))), (.int (0 : Int32)), (.int (0 : Int32)), (.int (0 : Int32)), (.int (0 : Int32)), (.int (0 : Int32)), (.int (0 : Int32))] (.int (0 : Int32)) := Arv.set Ar229 q229 S229 N229n H229 G229 (fits_nar_byte _) W229 1 rfl (Nat.le_of_ble_eq_true rfl)
    have Zs229 : n0 ≤ h229.size := Nat.le_trans Zs227 (Keep.of_wr W229).1
    have O229 : Old Z n0 h229 := O227.wr W229 g_b225
    have N229 := Fr.snoc X229 N228 g_b225
    have fE_t221_229 := fE_t221_227.wr W229
    have fV_t221_229 := fV_t221_227.other W229 ne_t221_b225
    have fE_b222_229 := fE_b222_227.wr W229
    have fF_b222_content_229 := fF_b222_content_227.other W229 (Or.inl ne_b222_b225)
    have fV_ct224_229 := fV_ct224_227.other W229 ne_ct224_b225
    show Go p e below _ (T229.setTop (mkF m 65 #[.val (.int p1), .val (.int p2), .val (.int p3), .val (.int p4), .val (.int p5), .val (.int (3 : Int32)), .val (.int off), .val (.ref t221), .val (.ref b222), .unset] [(.ref b225)]))
    refine Go.via (fun _ => XS.dup X229.here hx rfl (hb hby at_65) rfl rfl) ?_
    show Go p e below _ (T229.setTop (mkF m 66 #[.val (.int p1), .val (.int p2), .val (.int p3), .val (.int p4), .val (.int p5), .val (.int (3 : Int32)), .val (.int off), .val (.ref t221), .val (.ref b222), .unset] [(.ref b225), (.ref b225)]))
    refine Go.via (fun _ => XS.iconst X229.here hx rfl (hb hby at_66)) ?_
    show Go p e below _ (T229.setTop (mkF m 67 #[.val (.int p1), .val (.int p2), .val (.int p3), .val (.int p4), .val (.int p5), .val (.int (3 : Int32)), .val (.int off), .val (.ref t221), .val (.ref b222), .unset] [(.int (2 : Int32)), (.ref b225), (.ref b225)]))
    refine Go.via (fun _ => XS.iconst X229.here hx rfl (hb hby at_67)) ?_
    show Go p e below _ (T229.setTop (mkF m 68 #[.val (.int p1), .val (.int p2), .val (.int p3), .val (.int p4), .val (.int p5), .val (.int (3 : Int32)), .val (.int off), .val (.ref t221), .val (.ref b222), .unset] [(.int (2 : Int32)), (.int (2 : Int32)), (.ref b225), (.ref b225)]))
    refine Go.via (fun _ => XS.iloadN X229.here hx rfl (hb hby at_68) rfl) ?_
    show Go p e below _ (T229.setTop (mkF m 69 #[.val (.int p1), .val (.int p2), .val (.int p3), .val (.int p4), .val (.int p5), .val (.int (3 : Int32)), .val (.int off), .val (.ref t221), .val (.ref b222), .unset] [(.int p2), (.int (2 : Int32)), (.int (2 : Int32)), (.ref b225), (.ref b225)]))
    refine Go.via (fun _ => XS.iloadN X229.here hx rfl (hb hby at_69) rfl) ?_
    show Go p e below _ (T229.setTop (mkF m 70 #[.val (.int p1), .val (.int p2), .val (.int p3), .val (.int p4), .val (.int p5), .val (.int (3 : Int32)), .val (.int off), .val (.ref t221), .val (.ref b222), .unset] [(.int p3), (.int p2), (.int (2 : Int32)), (.int (2 : Int32)), (.ref b225), (.ref b225)]))
    obtain ⟨_, _, ⟨T230, L230, k230, n230⟩, -, X230, ⟨Lc230, hQ230, l230, y230, z230⟩, st230⟩ := Jvm.LawKit.callS X229 hx (y := (⟨"com/example/sluice/sluice/processor/FlowFileCopyContentPinLaw", "db", "(III)B"⟩ : MethodName)) hown (mvT hZ (hw _ (List.mem_of_getElem? (i := 45) rfl))) (mvT hZ (hw _ (List.mem_of_getElem? (i := 46) rfl))) (mvT hZ (hw _ (List.mem_of_getElem? (i := 3) rfl))) (mvT hZ (hw _ (List.mem_of_getElem? (i := 47) rfl))) (by decide) (backOf (W := 3) (rmDb l Z a0 hw [] (2 : Int32) p2 p3 h229 n0 Zs229) hZ (hw _ (List.mem_of_getElem? (i := 47) rfl)) (hw _ (List.mem_of_getElem? (i := 3) rfl)) (by decide) (by decide)) (g := (mkF m 70 #[.val (.int p1), .val (.int p2), .val (.int p3), .val (.int p4), .val (.int p5), .val (.int (3 : Int32)), .val (.int off), .val (.ref t221), .val (.ref b222), .unset] [(.int p3), (.int p2), (.int (2 : Int32)), (.int (2 : Int32)), (.ref b225), (.ref b225)])) rfl (by rw [hml]; rfl) (argsL := [(.int (2 : Int32)), (.int p2), (.int p3)]) (rest := [(.int (2 : Int32)), (.ref b225), (.ref b225)]) (lenOf pd_0 rfl) rfl (by show 2 * 0 + _ ≤ _; exact Nat.le_of_eq rfl) (hb hby at_70) (fun _ _ => ⟨rfl, e229, (by decide : 4 + 0 ≤ _), (by decide : 17 + 0 ≤ _)⟩)
    dsimp only [Pt.U, Pt.locs, Pt.cells, Pt.slots] at X230 l230 y230 z230 st230 hQ230
    rw [l230, y230, z230] at X230
    replace X230 : Stand p l e _ _ m _ below meth c T230 _ 4 17 := X230
    obtain ⟨rfl, N230q, e230q⟩ := hQ230
    have N230 := Fr.app N229 N230q
    refine Go.via st230 ?_
    show Go p e below _ (T230.setTop (mkF m 73 #[.val (.int p1), .val (.int p2), .val (.int p3), .val (.int p4), .val (.int p5), .val (.int (3 : Int32)), .val (.int off), .val (.ref t221), .val (.ref b222), .unset] [(.int (dbF (2 : Int32) p2 p3)), (.int (2 : Int32)), (.ref b225), (.ref b225)]))
    obtain ⟨cl231, Ar231, q231, S231, N231n, H231, G231⟩ := id V229
    have hin231 := inb_of (j := (2 : Int32)) S231 (by decide)
    obtain ⟨T231, h231, X231, e231, W231, st231⟩ := stB X230 hx hZ e230q Ar231 (j := (2 : Int32)) hin231 (g := (mkF m 73 #[.val (.int p1), .val (.int p2), .val (.int p3), .val (.int p4), .val (.int p5), .val (.int (3 : Int32)), .val (.int off), .val (.ref t221), .val (.ref b222), .unset] [(.int (dbF (2 : Int32) p2 p3)), (.int (2 : Int32)), (.ref b225), (.ref b225)])) rfl rfl (hb hby at_73)
    refine Go.via st231 ?_
    have V231 : Arv Z h231 b225 k225 .byte (8 : Int32) [(.int (nar .byte (dbF (0 : Int32) p2 p3))), (.int (nar .byte (dbF (1 : Int32) p2 p3))), (.int (nar .byte (dbF (2 : Int32) p2 p3))), (.int (0 : Int32)), (.int (0 : Int32)), (.int (0 : Int32)), (.int (0 : Int32)), (.int (0 : Int32))] (.int (0 : Int32)) := Arv.set Ar231 q231 S231 N231n H231 G231 (fits_nar_byte _) W231 2 rfl (Nat.le_of_ble_eq_true rfl)
    have Zs231 : n0 ≤ h231.size := Nat.le_trans Zs229 (Keep.of_wr W231).1
    have O231 : Old Z n0 h231 := O229.wr W231 g_b225
    have N231 := Fr.snoc X231 N230 g_b225
    have fE_t221_231 := fE_t221_229.wr W231
    have fV_t221_231 := fV_t221_229.other W231 ne_t221_b225
    have fE_b222_231 := fE_b222_229.wr W231
    have fF_b222_content_231 := fF_b222_content_229.other W231 (Or.inl ne_b222_b225)
    have fV_ct224_231 := fV_ct224_229.other W231 ne_ct224_b225
    show Go p e below _ (T231.setTop (mkF m 74 #[.val (.int p1), .val (.int p2), .val (.int p3), .val (.int p4), .val (.int p5), .val (.int (3 : Int32)), .val (.int off), .val (.ref t221), .val (.ref b222), .unset] [(.ref b225)]))
    refine Go.via (fun _ => XS.dup X231.here hx rfl (hb hby at_74) rfl rfl) ?_
    show Go p e below _ (T231.setTop (mkF m 75 #[.val (.int p1), .val (.int p2), .val (.int p3), .val (.int p4), .val (.int p5), .val (.int (3 : Int32)), .val (.int off), .val (.ref t221), .val (.ref b222), .unset] [(.ref b225), (.ref b225)]))
    refine Go.via (fun _ => XS.iconst X231.here hx rfl (hb hby at_75)) ?_
    show Go p e below _ (T231.setTop (mkF m 76 #[.val (.int p1), .val (.int p2), .val (.int p3), .val (.int p4), .val (.int p5), .val (.int (3 : Int32)), .val (.int off), .val (.ref t221), .val (.ref b222), .unset] [(.int (3 : Int32)), (.ref b225), (.ref b225)]))
    refine Go.via (fun _ => XS.iconst X231.here hx rfl (hb hby at_76)) ?_
    show Go p e below _ (T231.setTop (mkF m 77 #[.val (.int p1), .val (.int p2), .val (.int p3), .val (.int p4), .val (.int p5), .val (.int (3 : Int32)), .val (.int off), .val (.ref t221), .val (.ref b222), .unset] [(.int (3 : Int32)), (.int (3 : Int32)), (.ref b225), (.ref b225)]))
    refine Go.via (fun _ => XS.iloadN X231.here hx rfl (hb hby at_77) rfl) ?_
    show Go p e below _ (T231.setTop (mkF m 78 #[.val (.int p1), .val (.int p2), .val (.int p3), .val (.int p4), .val (.int p5), .val (.int (3 : Int32)), .val (.int off), .val (.ref t221), .val (.ref b222), .unset] [(.int p2), (.int (3 : Int32)), (.int (3 : Int32)), (.ref b225), (.ref b225)]))
    refine Go.via (fun _ => XS.iloadN X231.here hx rfl (hb hby at_78) rfl) ?_
    show Go p e below _ (T231.setTop (mkF m 79 #[.val (.int p1), .val (.int p2), .val (.int p3), .val (.int p4), .val (.int p5), .val (.int (3 : Int32)), .val (.int off), .val (.ref t221), .val (.ref b222), .unset] [(.int p3), (.int p2), (.int (3 : Int32)), (.int (3 : Int32)), (.ref b225), (.ref b225)]))
    obtain ⟨_, _, ⟨T232, L232, k232, n232⟩, -, X232, ⟨Lc232, hQ232, l232, y232, z232⟩, st232⟩ := Jvm.LawKit.callS X231 hx (y := (⟨"com/example/sluice/sluice/processor/FlowFileCopyContentPinLaw", "db", "(III)B"⟩ : MethodName)) hown (mvT hZ (hw _ (List.mem_of_getElem? (i := 45) rfl))) (mvT hZ (hw _ (List.mem_of_getElem? (i := 46) rfl))) (mvT hZ (hw _ (List.mem_of_getElem? (i := 3) rfl))) (mvT hZ (hw _ (List.mem_of_getElem? (i := 47) rfl))) (by decide) (backOf (W := 3) (rmDb l Z a0 hw [] (3 : Int32) p2 p3 h231 n0 Zs231) hZ (hw _ (List.mem_of_getElem? (i := 47) rfl)) (hw _ (List.mem_of_getElem? (i := 3) rfl)) (by decide) (by decide)) (g := (mkF m 79 #[.val (.int p1), .val (.int p2), .val (.int p3), .val (.int p4), .val (.int p5), .val (.int (3 : Int32)), .val (.int off), .val (.ref t221), .val (.ref b222), .unset] [(.int p3), (.int p2), (.int (3 : Int32)), (.int (3 : Int32)), (.ref b225), (.ref b225)])) rfl (by rw [hml]; rfl) (argsL := [(.int (3 : Int32)), (.int p2), (.int p3)]) (rest := [(.int (3 : Int32)), (.ref b225), (.ref b225)]) (lenOf pd_0 rfl) rfl (by show 2 * 0 + _ ≤ _; exact Nat.le_of_eq rfl) (hb hby at_79) (fun _ _ => ⟨rfl, e231, (by decide : 4 + 0 ≤ _), (by decide : 17 + 0 ≤ _)⟩)
    dsimp only [Pt.U, Pt.locs, Pt.cells, Pt.slots] at X232 l232 y232 z232 st232 hQ232
    rw [l232, y232, z232] at X232
    replace X232 : Stand p l e _ _ m _ below meth c T232 _ 4 17 := X232
    obtain ⟨rfl, N232q, e232q⟩ := hQ232
    have N232 := Fr.app N231 N232q
    refine Go.via st232 ?_
    show Go p e below _ (T232.setTop (mkF m 82 #[.val (.int p1), .val (.int p2), .val (.int p3), .val (.int p4), .val (.int p5), .val (.int (3 : Int32)), .val (.int off), .val (.ref t221), .val (.ref b222), .unset] [(.int (dbF (3 : Int32) p2 p3)), (.int (3 : Int32)), (.ref b225), (.ref b225)]))
    obtain ⟨cl233, Ar233, q233, S233, N233n, H233, G233⟩ := id V231
    have hin233 := inb_of (j := (3 : Int32)) S233 (by decide)
    obtain ⟨T233, h233, X233, e233, W233, st233⟩ := stB X232 hx hZ e232q Ar233 (j := (3 : Int32)) hin233 (g := (mkF m 82 #[.val (.int p1), .val (.int p2), .val (.int p3), .val (.int p4), .val (.int p5), .val (.int (3 : Int32)), .val (.int off), .val (.ref t221), .val (.ref b222), .unset] [(.int (dbF (3 : Int32) p2 p3)), (.int (3 : Int32)), (.ref b225), (.ref b225)])) rfl rfl (hb hby at_82)
    refine Go.via st233 ?_
    have V233 : Arv Z h233 b225 k225 .byte (8 : Int32) [(.int (nar .byte (dbF (0 : Int32) p2 p3))), (.int (nar .byte (dbF (1 : Int32) p2 p3))), (.int (nar .byte (dbF (2 : Int32) p2 p3))), (.int (nar .byte (dbF (3 : Int32) p2 p3))), (.int (0 : Int32)), (.int (0 : Int32)), (.int (0 : Int32)), (.int (0 : Int32))] (.int (0 : Int32)) := Arv.set Ar233 q233 S233 N233n H233 G233 (fits_nar_byte _) W233 3 rfl (Nat.le_of_ble_eq_true rfl)
    have Zs233 : n0 ≤ h233.size := Nat.le_trans Zs231 (Keep.of_wr W233).1
    have O233 : Old Z n0 h233 := O231.wr W233 g_b225
    have N233 := Fr.snoc X233 N232 g_b225
    have fE_t221_233 := fE_t221_231.wr W233
    have fV_t221_233 := fV_t221_231.other W233 ne_t221_b225
    have fE_b222_233 := fE_b222_231.wr W233
    have fF_b222_content_233 := fF_b222_content_231.other W233 (Or.inl ne_b222_b225)
    have fV_ct224_233 := fV_ct224_231.other W233 ne_ct224_b225
    show Go p e below _ (T233.setTop (mkF m 83 #[.val (.int p1), .val (.int p2), .val (.int p3), .val (.int p4), .val (.int p5), .val (.int (3 : Int32)), .val (.int off), .val (.ref t221), .val (.ref b222), .unset] [(.ref b225)]))
    refine Go.via (fun _ => XS.dup X233.here hx rfl (hb hby at_83) rfl rfl) ?_
    show Go p e below _ (T233.setTop (mkF m 84 #[.val (.int p1), .val (.int p2), .val (.int p3), .val (.int p4), .val (.int p5), .val (.int (3 : Int32)), .val (.int off), .val (.ref t221), .val (.ref b222), .unset] [(.ref b225), (.ref b225)]))
    refine Go.via (fun _ => XS.iconst X233.here hx rfl (hb hby at_84)) ?_
    show Go p e below _ (T233.setTop (mkF m 85 #[.val (.int p1), .val (.int p2), .val (.int p3), .val (.int p4), .val (.int p5), .val (.int (3 : Int32)), .val (.int off), .val (.ref t221), .val (.ref b222), .unset] [(.int (4 : Int32)), (.ref b225), (.ref b225)]))
    refine Go.via (fun _ => XS.iconst X233.here hx rfl (hb hby at_85)) ?_
    show Go p e below _ (T233.setTop (mkF m 86 #[.val (.int p1), .val (.int p2), .val (.int p3), .val (.int p4), .val (.int p5), .val (.int (3 : Int32)), .val (.int off), .val (.ref t221), .val (.ref b222), .unset] [(.int (4 : Int32)), (.int (4 : Int32)), (.ref b225), (.ref b225)]))
    refine Go.via (fun _ => XS.iloadN X233.here hx rfl (hb hby at_86) rfl) ?_
    show Go p e below _ (T233.setTop (mkF m 87 #[.val (.int p1), .val (.int p2), .val (.int p3), .val (.int p4), .val (.int p5), .val (.int (3 : Int32)), .val (.int off), .val (.ref t221), .val (.ref b222), .unset] [(.int p2), (.int (4 : Int32)), (.int (4 : Int32)), (.ref b225), (.ref b225)]))
    refine Go.via (fun _ => XS.iloadN X233.here hx rfl (hb hby at_87) rfl) ?_
    show Go p e below _ (T233.setTop (mkF m 88 #[.val (.int p1), .val (.int p2), .val (.int p3), .val (.int p4), .val (.int p5), .val (.int (3 : Int32)), .val (.int off), .val (.ref t221), .val (.ref b222), .unset] [(.int p3), (.int p2), (.int (4 : Int32)), (.int (4 : Int32)), (.ref b225), (.ref b225)]))
    obtain ⟨_, _, ⟨T234, L234, k234, n234⟩, -, X234, ⟨Lc234, hQ234, l234, y234, z234⟩, st234⟩ := Jvm.LawKit.callS X233 hx (y := (⟨"com/example/sluice/sluice/processor/FlowFileCopyContentPinLaw", "db", "(III)B"⟩ : MethodName)) hown (mvT hZ (hw _ (List.mem_of_getElem? (i := 45) rfl))) (mvT hZ (hw _ (List.mem_of_getElem? (i := 46) rfl))) (mvT hZ (hw _ (List.mem_of_getElem? (i := 3) rfl))) (mvT hZ (hw _ (List.mem_of_getElem? (i := 47) rfl))) (by decide) (backOf (W := 3) (rmDb l Z a0 hw [] (4 : Int32) p2 p3 h233 n0 Zs233) hZ (hw _ (List.mem_of_getElem? (i := 47) rfl)) (hw _ (List.mem_of_getElem? (i := 3) rfl)) (by decide) (by decide)) (g := (mkF m 88 #[.val (.int p1), .val (.int p2), .val (.int p3), .val (.int p4), .val (.int p5), .val (.int (3 : Int32)), .val (.int off), .val (.ref t221), .val (.ref b222), .unset] [(.int p3), (.int p2), (.int (4 : Int32)), (.int (4 : Int32)), (.ref b225), (.ref b225)])) rfl (by rw [hml]; rfl) (argsL := [(.int (4 : Int32)), (.int p2), (.int p3)]) (rest := [(.int (4 : Int32)), (.ref b225), (.ref b225)]) (lenOf pd_0 rfl) rfl (by show 2 * 0 + _ ≤ _; exact Nat.le_of_eq rfl) (hb hby at_88) (fun _ _ => ⟨rfl, e233, (by decide : 4 + 0 ≤ _), (by decide : 17 + 0 ≤ _)⟩)
    dsimp only [Pt.U, Pt.locs, Pt.cells, Pt.slots] at X234 l234 y234 z234 st234 hQ234
    rw [l234, y234, z234] at X234
    replace X234 : Stand p l e _ _ m _ below meth c T234 _ 4 17 := X234
    obtain ⟨rfl, N234q, e234q⟩ := hQ234
    have N234 := Fr.app N233 N234q
    refine Go.via st234 ?_
    show Go p e below _ (T234.setTop (mkF m 91 #[.val (.int p1), .val (.int p2), .val (.int p3), .val (.int p4), .val (.int p5), .val (.int (3 : Int32)), .val (.int off), .val (.ref t221), .val (.ref b222), .unset] [(.int (dbF (4 : Int32) p2 p3)), (.int (4 : Int32)), (.ref b225), (.ref b225)]))
    obtain ⟨cl235, Ar235, q235, S235, N235n, H235, G235⟩ := id V233
    have hin235 := inb_of (j := (4 : Int32)) S235 (by decide)
    obtain ⟨T235, h235, X235, e235, W235, st235⟩ := stB X234 hx hZ e234q Ar235 (j := (4 : Int32)) hin235 (g := (mkF m 91 #[.val (.int p1), .val (.int p2), .val (.int p3), .val (.int p4), .val (.int p5), .val (.int (3 : Int32)), .val (.int off), .val (.ref t221), .val (.ref b222), .unset] [(.int (dbF (4 : Int32) p2 p3)), (.int (4 : Int32)), (.ref b225), (.ref b225)])) rfl rfl (hb hby at_91)
    refine Go.via st235 ?_
    have V235 : Arv Z h235 b225 k225 .byte (8 : Int32) [(.int (nar .byte (dbF (0 : Int32) p2 p3))), (.int (nar .byte (dbF (1 : Int32) p2 p3))), (.int (nar .byte (dbF (2 : Int32) p2 p3))), (.int (nar .byte (dbF (3 : Int32) p2 p3))), (.int (nar .byte (dbF (4 : Int32) p2 p3))), (.int (0 : Int32)), (.int (0 : Int32)), (.int (0 : Int32))] (.int (0 : Int32)) := Arv.set Ar235 q235 S235 N235n H235 G235 (fits_nar_byte _) W235 4 rfl (Nat.le_of_ble_eq_true rfl)
    have Zs235 : n0 ≤ h235.size := Nat.le_trans Zs233 (Keep.of_wr W235).1
    have O235 : Old Z n0 h235 := O233.wr W235 g_b225
    have N235 := Fr.snoc X235 N234 g_b225
    have fE_t221_235 := fE_t221_233.wr W235
    have fV_t221_235 := fV_t221_233.other W235 ne_t221_b225
    have fE_b222_235 := fE_b222_233.wr W235
    have fF_b222_content_235 := fF_b222_content_233.other W235 (Or.inl ne_b222_b225)
    have fV_ct224_235 := fV_ct224_233.other W235 ne_ct224_b225
    show Go p e below _ (T235.setTop (mkF m 92 #[.val (.int p1), .val (.int p2), .val (.int p3), .val (.int p4), .val (.int p5), .val (.int (3 : Int32)), .val (.int off), .val (.ref t221), .val (.ref b222), .unset] [(.ref b225)]))
    refine Go.via (fun _ => XS.dup X235.here hx rfl (hb hby at_92) rfl rfl) ?_
    show Go p e below _ (T235.setTop (mkF m 93 #[.val (.int p1), .val (.int p2), .val (.int p3), .val (.int p4), .val (.int p5), .val (.int (3 : Int32)), .val (.int off), .val (.ref t221), .val (.ref b222), .unset] [(.ref b225), (.ref b225)]))
    refine Go.via (fun _ => XS.iconst X235.here hx rfl (hb hby at_93)) ?_
    show Go p e below _ (T235.setTop (mkF m 94 #[.val (.int p1), .val (.int p2), .val (.int p3), .val (.int p4), .val (.int p5), .val (.int (3 : Int32)), .val (.int off), .val (.ref t221), .val (.ref b222), .unset] [(.int (5 : Int32)), (.ref b225), (.ref b225)]))
    refine Go.via (fun _ => XS.iconst X235.here hx rfl (hb hby at_94)) ?_
    show Go p e below _ (T235.setTop (mkF m 95 #[.val (.int p1), .val (.int p2), .val (.int p3), .val (.int p4), .val (.int p5), .val (.int (3 : Int32)), .val (.int off), .val (.ref t221), .val (.ref b222), .unset] [(.int (5 : Int32)), (.int (5 : Int32)), (.ref b225), (.ref b225)]))
    refine Go.via (fun _ => XS.iloadN X235.here hx rfl (hb hby at_95) rfl) ?_
    show Go p e below _ (T235.setTop (mkF m 96 #[.val (.int p1), .val (.int p2), .val (.int p3), .val (.int p4), .val (.int p5), .val (.int (3 : Int32)), .val (.int off), .val (.ref t221), .val (.ref b222), .unset] [(.int p2), (.int (5 : Int32)), (.int (5 : Int32)), (.ref b225), (.ref b225)]))
    refine Go.via (fun _ => XS.iloadN X235.here hx rfl (hb hby at_96) rfl) ?_
    show Go p e below _ (T235.setTop (mkF m 97 #[.val (.int p1), .val (.int p2), .val (.int p3), .val (.int p4), .val (.int p5), .val (.int (3 : Int32)), .val (.int off), .val (.ref t221), .val (.ref b222), .unset] [(.int p3), (.int p2), (.int (5 : Int32)), (.int (5 : Int32)), (.ref b225), (.ref b225)]))
    obtain ⟨_, _, ⟨T236, L236, k236, n236⟩, -, X236, ⟨Lc236, hQ236, l236, y236, z236⟩, st236⟩ := Jvm.LawKit.callS X235 hx (y := (⟨"com/example/sluice/sluice/processor/FlowFileCopyContentPinLaw", "db", "(III)B"⟩ : MethodName)) hown (mvT hZ (hw _ (List.mem_of_getElem? (i := 45) rfl))) (mvT hZ (hw _ (List.mem_of_getElem? (i := 46) rfl))) (mvT hZ (hw _ (List.mem_of_getElem? (i := 3) rfl))) (mvT hZ (hw _ (List.mem_of_getElem? (i := 47) rfl))) (by decide) (backOf (W := 3) (rmDb l Z a0 hw [] (5 : Int32) p2 p3 h235 n0 Zs235) hZ (hw _ (List.mem_of_getElem? (i := 47) rfl)) (hw _ (List.mem_of_getElem? (i := 3) rfl)) (by decide) (by decide)) (g := (mkF m 97 #[.val (.int p1), .val (.int p2), .val (.int p3), .val (.int p4), .val (.int p5), .val (.int (3 : Int32)), .val (.int off), .val (.ref t221), .val (.ref b222), .unset] [(.int p3), (.int p2), (.int (5 : Int32)), (.int (5 : Int32)), (.ref b225), (.ref b225)])) rfl (by rw [hml]; rfl) (argsL := [(.int (5 : Int32)), (.int p2), (.int p3)]) (rest := [(.int (5 : Int32)), (.ref b225), (.ref b225)]) (lenOf pd_0 rfl) rfl (by show 2 * 0 + _ ≤ _; exact Nat.le_of_eq rfl) (hb hby at_97) (fun _ _ => ⟨rfl, e235, (by decide : 4 + 0 ≤ _), (by decide : 17 + 0 ≤ _)⟩)
    dsimp only [Pt.U, Pt.locs, Pt.cells, Pt.slots] at X236 l236 y236 z236 st236 hQ236
    rw [l236, y236, z236] at X236
    replace X236 : Stand p l e _ _ m _ below meth c T236 _ 4 17 := X236
    obtain ⟨rfl, N236q, e236q⟩ := hQ236
    have N236 := Fr.app N235 N236q
    refine Go.via st236 ?_
    show Go p e below _ (T236.setTop (mkF m 100 #[.val (.int p1), .val (.int p2), .val (.int p3), .val (.int p4), .val (.int p5), .val (.int (3 : Int32)), .val (.int off), .val (.ref t221), .val (.ref b222), .unset] [(.int (dbF (5 : Int32) p2 p3)), (.int (5 : Int32)), (.ref b225), (.ref b225)]))
    obtain ⟨cl237, Ar237, q237, S237, N237n, H237, G237⟩ := id V235
    have hin237 := inb_of (j := (5 : Int32)) S237 (by decide)
    obtain ⟨T237, h237, X237, e237, W237, st237⟩ := stB X236 hx hZ e236q Ar237 (j := (5 : Int32)) hin237 (g := (mkF m 100 #[.val (.int p1), .val (.int p2), .val (.int p3), .val (.int p4), .val (.int p5), .val (.int (3 : Int32)), .val (.int off), .val (.ref t221), .val (.ref b222), .unset] [(.int (dbF (5 : Int32) p2 p3)), (.int (5 : Int32)), (.ref b225), (.ref b225)])) rfl rfl (hb hby at_100)
    refine Go.via st237 ?_
    have V237 : Arv Z h237 b225 k225 .byte (8 : Int32) [(.int (nar .byte (dbF (0 : Int32) p2 p3))), (.int (nar .byte (dbF (1 : Int32) p2 p3))), (.int (nar .byte (dbF (2 : Int32) p2 p3))), (.int (nar .byte (dbF (3 : Int32) p2 p3))), (.int (nar .byte (dbF (4 : Int32) p2 p3))), (.int (nar .byte (dbF (5 : Int32) p2 p3))), (.int (0 : Int32)), (.int (0 : Int32))] (.int (0 : Int32)) := Arv.set Ar237 q237 S237 N237n H237 G237 (fits_nar_byte _) W237 5 rfl (Nat.le_of_ble_eq_true rfl)
    have Zs237 : n0 ≤ h237.size := Nat.le_trans Zs235 (Keep.of_wr W237).1
    have O237 : Old Z n0 h237 := O235.wr W237 g_b225
    have N237 := Fr.snoc X237 N236 g_b225
    have fE_t221_237 := fE_t221_235.wr W237
    have fV_t221_237 := fV_t221_235.other W237 ne_t221_b225
    have fE_b222_237 := fE_b222_235.wr W237
    have fF_b222_content_237 := fF_b222_content_235.other W237 (Or.inl ne_b222_b225)
    have fV_ct224_237 := fV_ct224_235.other W237 ne_ct224_b225
    show Go p e below _ (T237.setTop (mkF m 101 #[.val (.int p1), .val (.int p2), .val (.int p3), .val (.int p4), .val (.int p5), .val (.int (3 : Int32)), .val (.int off), .val (.ref t221), .val (.ref b222), .unset] [(.ref b225)]))
    refine Go.via (fun _ => XS.dup X237.here hx rfl (hb hby at_101) rfl rfl) ?_
    show Go p e below _ (T237.setTop (mkF m 102 #[.val (.int p1), .val (.int p2), .val (.int p3), .val (.int p4), .val (.int p5), .val (.int (3 : Int32)), .val (.int off), .val (.ref t221), .val (.ref b222), .unset] [(.ref b225), (.ref b225)]))
    refine Go.via (fun _ => XS.bipush X237.here hx rfl (hb hby at_102)) ?_
    show Go p e below _ (T237.setTop (mkF m 104 #[.val (.int p1), .val (.int p2), .val (.int p3), .val (.int p4), .val (.int p5), .val (.int (3 : Int32)), .val (.int off), .val (.ref t221), .val (.ref b222), .unset] [(.int (6 : Int32)), (.ref b225), (.ref b225)]))
    refine Go.via (fun _ => XS.bipush X237.here hx rfl (hb hby at_104)) ?_
    show Go p e below _ (T237.setTop (mkF m 106 #[.val (.int p1), .val (.int p2), .val (.int p3), .val (.int p4), .val (.int p5), .val (.int (3 : Int32)), .val (.int off), .val (.ref t221), .val (.ref b222), .unset] [(.int (6 : Int32)), (.int (6 : Int32)), (.ref b225), (.ref b225)]))
    refine Go.via (fun _ => XS.iloadN X237.here hx rfl (hb hby at_106) rfl) ?_
    show Go p e below _ (T237.setTop (mkF m 107 #[.val (.int p1), .val (.int p2), .val (.int p3), .val (.int p4), .val (.int p5), .val (.int (3 : Int32)), .val (.int off), .val (.ref t221), .val (.ref b222), .unset] [(.int p2), (.int (6 : Int32)), (.int (6 : Int32)), (.ref b225), (.ref b225)]))
    refine Go.via (fun _ => XS.iloadN X237.here hx rfl (hb hby at_107) rfl) ?_
    show Go p e below _ (T237.setTop (mkF m 108 #[.val (.int p1), .val (.int p2), .val (.int p3), .val (.int p4), .val (.int p5), .val (.int (3 : Int32)), .val (.int off), .val (.ref t221), .val (.ref b222), .unset] [(.int p3), (.int p2), (.int (6 : Int32)), (.int (6 : Int32)), (.ref b225), (.ref b225)]))
    obtain ⟨_, _, ⟨T238, L238, k238, n238⟩, -, X238, ⟨Lc238, hQ238, l238, y238, z238⟩, st238⟩ := Jvm.LawKit.callS X237 hx (y := (⟨"com/example/sluice/sluice/processor/FlowFileCopyContentPinLaw", "db", "(III)B"⟩ : MethodName)) hown (mvT hZ (hw _ (List.mem_of_getElem? (i := 45) rfl))) (mvT hZ (hw _ (List.mem_of_getElem? (i := 46) rfl))) (mvT hZ (hw _ (List.mem_of_getElem? (i := 3) rfl))) (mvT hZ (hw _ (List.mem_of_getElem? (i := 47) rfl))) (by decide) (backOf (W := 3) (rmDb l Z a0 hw [] (6 : Int32) p2 p3 h237 n0 Zs237) hZ (hw _ (List.mem_of_getElem? (i := 47) rfl)) (hw _ (List.mem_of_getElem? (i := 3) rfl)) (by decide) (by decide)) (g := (mkF m 108 #[.val (.int p1), .val (.int p2), .val (.int p3), .val (.int p4), .val (.int p5), .val (.int (3 : Int32)), .val (.int off), .val (.ref t221), .val (.ref b222), .unset] [(.int p3), (.int p2), (.int (6 : Int32)), (.int (6 : Int32)), (.ref b225), (.ref b225)])) rfl (by rw [hml]; rfl) (argsL := [(.int (6 : Int32)), (.int p2), (.int p3)]) (rest := [(.int (6 : Int32)), (.ref b225), (.ref b225)]) (lenOf pd_0 rfl) rfl (by show 2 * 0 + _ ≤ _; exact Nat.le_of_eq rfl) (hb hby at_108) (fun _ _ => ⟨rfl, e237, (by decide : 4 + 0 ≤ _), (by decide : 17 + 0 ≤ _)⟩)
    dsimp only [Pt.U, Pt.locs, Pt.cells, Pt.slots] at X238 l238 y238 z238 st238 hQ238
    rw [l238, y238, z238] at X238
    replace X238 : Stand p l e _ _ m _ below meth c T238 _ 4 17 := X238
    obtain ⟨rfl, N238q, e238q⟩ := hQ238
    have N238 := Fr.app N237 N238q
    refine Go.via st238 ?_
    show Go p e below _ (T238.setTop (mkF m 111 #[.val (.int p1), .val (.int p2), .val (.int p3), .val (.int p4), .val (.int p5), .val (.int (3 : Int32)), .val (.int off), .val (.ref t221), .val (.ref b222), .unset] [(.int (dbF (6 : Int32) p2 p3)), (.int (6 : Int32)), (.ref b225), (.ref b225)]))
    obtain ⟨cl239, Ar239, q239, S239, N239n, H239, G239⟩ := id V237
    have hin239 := inb_of (j := (6 : Int32)) S239 (by decide)
    obtain ⟨T239, h239, X239, e239, W239, st239⟩ := stB X238 hx hZ e238q Ar239 (j := (6 : Int32)) hin239 (g := (mkF m 111 #[.val (.int p1), .val (.int p2), .val (.int p3), .val (.int p4), .val (.int p5), .val (.int (3 : Int32)), .val (.int off), .val (.ref t221), .val (.ref b222), .unset] [(.int (dbF (6 : Int32) p2 p3)), (.int (6 : Int32)), (.ref b225), (.ref b225)])) rfl rfl (hb hby at_111)
    refine Go.via st239 ?_
    have V239 : Arv Z h239 b225 k225 .byte (8 : Int32) [(.int (nar .byte (dbF (0 : Int32) p2 p3))), (.int (nar .byte (dbF (1 : Int32) p2 p3))), (.int (nar .byte (dbF (2 : Int32) p2 p3))), (.int (nar .byte (dbF (3 : Int32) p2 p3))), (.int (nar .byte (dbF (4 : Int32) p2 p3))), (.int (nar .byte (dbF (5 : Int32) p2 p3))), (.int (nar .byte (dbF (6 : Int32) p2 p3))), (.int (0 : Int32))] (.int (0 : Int32)) := Arv.set Ar239 q239 S239 N239n H239 G239 (fits_nar_byte _) W239 6 rfl (Nat.le_of_ble_eq_true rfl)
    have Zs239 : n0 ≤ h239.size := Nat.le_trans Zs237 (Keep.of_wr W239).1
    have O239 : Old Z n0 h239 := O237.wr W239 g_b225
    have N239 := Fr.snoc X239 N238 g_b225
    have fE_t221_239 := fE_t221_237.wr W239
    have fV_t221_239 := fV_t221_237.other W239 ne_t221_b225
    have fE_b222_239 := fE_b222_237.wr W239
    have fF_b222_content_239 := fF_b222_content_237.other W239 (Or.inl ne_b222_b225)
    have fV_ct224_239 := fV_ct224_237.other W239 ne_ct224_b225
    show Go p e below _ (T239.setTop (mkF m 112 #[.val (.int p1), .val (.int p2), .val (.int p3), .val (.int p4), .val (.int p5), .val (.int (3 : Int32)), .val (.int off), .val (.ref t221), .val (.ref b222), .unset] [(.ref b225)]))
    refine Go.via (fun _ => XS.dup X239.here hx rfl (hb hby at_112) rfl rfl) ?_
    show Go p e below _ (T239.setTop (mkF m 113 #[.val (.int p1), .val (.int p2), .val (.int p3), .val (.int p4), .val (.int p5), .val (.int (3 : Int32)), .val (.int off), .val (.ref t221), .val (.ref b222), .unset] [(.ref b225), (.ref b225)]))
    refine Go.via (fun _ => XS.bipush X239.here hx rfl (hb hby at_113)) ?_
    show Go p e below _ (T239.setTop (mkF m 115 #[.val (.int p1), .val (.int p2), .val (.int p3), .val (.int p4), .val (.int p5), .val (.int (3 : Int32)), .val (.int off), .val (.ref t221), .val (.ref b222), .unset] [(.int (7 : Int32)), (.ref b225), (.ref b225)]))
    refine Go.via (fun _ => XS.bipush X239.here hx rfl (hb hby at_115)) ?_
    show Go p e below _ (T239.setTop (mkF m 117 #[.val (.int p1), .val (.int p2), .val (.int p3), .val (.int p4), .val (.int p5), .val (.int (3 : Int32)), .val (.int off), .val (.ref t221), .val (.ref b222), .unset] [(.int (7 : Int32)), (.int (7 : Int32)), (.ref b225), (.ref b225)]))
    refine Go.via (fun _ => XS.iloadN X239.here hx rfl (hb hby at_117) rfl) ?_
    show Go p e below _ (T239.setTop (mkF m 118 #[.val (.int p1), .val (.int p2), .val (.int p3), .val (.int p4), .val (.int p5), .val (.int (3 : Int32)), .val (.int off), .val (.ref t221), .val (.ref b222), .unset] [(.int p2), (.int (7 : Int32)), (.int (7 : Int32)), (.ref b225), (.ref b225)]))
    refine Go.via (fun _ => XS.iloadN X239.here hx rfl (hb hby at_118) rfl) ?_
    show Go p e below _ (T239.setTop (mkF m 119 #[.val (.int p1), .val (.int p2), .val (.int p3), .val (.int p4), .val (.int p5), .val (.int (3 : Int32)), .val (.int off), .val (.ref t221), .val (.ref b222), .unset] [(.int p3), (.int p2), (.int (7 : Int32)), (.int (7 : Int32)), (.ref b225), (.ref b225)]))
    obtain ⟨_, _, ⟨T240, L240, k240, n240⟩, -, X240, ⟨Lc240, hQ240, l240, y240, z240⟩, st240⟩ := Jvm.LawKit.callS X239 hx (y := (⟨"com/example/sluice/sluice/processor/FlowFileCopyContentPinLaw", "db", "(III)B"⟩ : MethodName)) hown (mvT hZ (hw _ (List.mem_of_getElem? (i := 45) rfl))) (mvT hZ (hw _ (List.mem_of_getElem? (i := 46) rfl))) (mvT hZ (hw _ (List.mem_of_getElem? (i := 3) rfl))) (mvT hZ (hw _ (List.mem_of_getElem? (i := 47) rfl))) (by decide) (backOf (W := 3) (rmDb l Z a0 hw [] (7 : Int32) p2 p3 h239 n0 Zs239) hZ (hw _ (List.mem_of_getElem? (i := 47) rfl)) (hw _ (List.mem_of_getElem? (i := 3) rfl)) (by decide) (by decide)) (g := (mkF m 119 #[.val (.int p1), .val (.int p2), .val (.int p3), .val (.int p4), .val (.int p5), .val (.int (3 : Int32)), .val (.int off), .val (.ref t221), .val (.ref b222), .unset] [(.int p3), (.int p2), (.int (7 : Int32)), (.int (7 : Int32)), (.ref b225), (.ref b225)])) rfl (by rw [hml]; rfl) (argsL := [(.int (7 : Int32)), (.int p2), (.int p3)]) (rest := [(.int (7 : Int32)), (.ref b225), (.ref b225)]) (lenOf pd_0 rfl) rfl (by show 2 * 0 + _ ≤ _; exact Nat.le_of_eq rfl) (hb hby at_119) (fun _ _ => ⟨rfl, e239, (by decide : 4 + 0 ≤ _), (by decide : 17 + 0 ≤ _)⟩)
    dsimp only [Pt.U, Pt.locs, Pt.cells, Pt.slots] at X240 l240 y240 z240 st240 hQ240
    rw [l240, y240, z240] at X240
    replace X240 : Stand p l e _ _ m _ below meth c T240 _ 4 17 := X240
    obtain ⟨rfl, N240q, e240q⟩ := hQ240
    have N240 := Fr.app N239 N240q
    refine Go.via st240 ?_
    show Go p e below _ (T240.setTop (mkF m 122 #[.val (.int p1), .val (.int p2), .val (.int p3), .val (.int p4), .val (.int p5), .val (.int (3 : Int32)), .val (.int off), .val (.ref t221), .val (.ref b222), .unset] [(.int (dbF (7 : Int32) p2 p3)), (.int (7 : Int32)), (.ref b225), (.ref b225)]))
    obtain ⟨cl241, Ar241, q241, S241, N241n, H241, G241⟩ := id V239
    have hin241 := inb_of (j := (7 : Int32)) S241 (by decide)
    obtain ⟨T241, h241, X241, e241, W241, st241⟩ := stB X240 hx hZ e240q Ar241 (j := (7 : Int32)) hin241 (g := (mkF m 122 #[.val (.int p1), .val (.int p2), .val (.int p3), .val (.int p4), .val (.int p5), .val (.int (3 : Int32)), .val (.int off), .val (.ref t221), .val (.ref b222), .unset] [(.int (dbF (7 : Int32) p2 p3)), (.int (7 : Int32)), (.ref b225), (.ref b225)])) rfl rfl (hb hby at_122)
    refine Go.via st241 ?_
    have V241 : Arv Z h241 b225 k225 .byte (8 : Int32) [(.int (nar .byte (dbF (0 : Int32) p2 p3))), (.int (nar .byte (dbF (1 : Int32) p2 p3))), (.int (nar .byte (dbF (2 : Int32) p2 p3))), (.int (nar .byte (dbF (3 : Int32) p2 p3))), (.int (nar .byte (dbF (4 : Int32) p2 p3))), (.int (nar .byte (dbF (5 : Int32) p2 p3))), (.int (nar .byte (dbF (6 : Int32) p2 p3))), (.int (nar .byte (dbF (7 : Int32) p2 p3)))] (.int (0 : Int32)) := Arv.set Ar241 q241 S241 N241n H241 G241 (fits_nar_byte _) W241 7 rfl (Nat.le_of_ble_eq_true rfl)
    have Zs241 : n0 ≤ h241.size := Nat.le_trans Zs239 (Keep.of_wr W241).1
    have O241 : Old Z n0 h241 := O239.wr W241 g_b225
    have N241 := Fr.snoc X241 N240 g_b225
    have fE_t221_241 := fE_t221_239.wr W241
    have fV_t221_241 := fV_t221_239.other W241 ne_t221_b225
    have fE_b222_241 := fE_b222_239.wr W241
    have fF_b222_content_241 := fF_b222_content_239.other W241 (Or.inl ne_b222_b225)
    have fV_ct224_241 := fV_ct224_239.other W241 ne_ct224_b225
    show Go p e below _ (T241.setTop (mkF m 123 #[.val (.int p1), .val (.int p2), .val (.int p3), .val (.int p4), .val (.int p5), .val (.int (3 : Int32)), .val (.int off), .val (.ref t221), .val (.ref b222), .unset] [(.ref b225)]))
    refine Go.via (fun _ => XS.astore X241.here hx rfl (hb hby at_123) rfl rfl (l' := #[.val (.int p1), .val (.int p2), .val (.int p3), .val (.int p4), .val (.int p5), .val (.int (3 : Int32)), .val (.int off), .val (.ref t221), .val (.ref b222), .val (.ref b225)]) rfl) ?_
    show Go p e below _ (T241.setTop (mkF m 125 #[.val (.int p1), .val (.int p2), .val (.int p3), .val (.int p4), .val (.int p5), .val (.int (3 : Int32)), .val (.int off), .val (.ref t221), .val (.ref b222), .val (.ref b225)] []))
    refine Go.via (fun _ => XS.aload X241.here hx rfl (hb hby at_125) rfl rfl) ?_
    show Go p e below _ (T241.setTop (mkF m 127 #[.val (.int p1), .val (.int p2), .val (.int p3), .val (.int p4), .val (.int p5), .val (.int (3 : Int32)), .val (.int off), .val (.ref t221), .val (.ref b222), .val (.ref b225)] [(.ref b222)]))
    refine Go.via (fun _ => XS.aload X241.here hx rfl (hb hby at_127) rfl rfl) ?_
    show Go p e below _ (T241.setTop (mkF m 129 #[.val (.int p1), .val (.int p2), .val (.int p3), .val (.int p4), .val (.int p5), .val (.int (3 : Int32)), .val (.int off), .val (.ref t221), .val (.ref b222), .val (.ref b225)] [(.ref b225), (.ref b222)]))
    refine Go.via (fun _ => XS.iload X241.here hx rfl (hb hby at_129) rfl) ?_
    show Go p e below _ (T241.setTop (mkF m 131 #[.val (.int p1), .val (.int p2), .val (.int p3), .val (.int p4), .val (.int p5), .val (.int (3 : Int32)), .val (.int off), .val (.ref t221), .val (.ref b222), .val (.ref b225)] [(.int off), (.ref b225), (.ref b222)]))
    obtain ⟨cq242, kq242, q242a, q242b, q242c⟩ := isOf hZ e241 fE_b222_241
    obtain ⟨_, _, ⟨T242, L242, k242, n242⟩, -, X242, ⟨Lc242, hQ242, l242, y242, z242⟩, st242⟩ := X241.virtualBack hx (y := (⟨"com/example/sluice/sluice/processor/FlowFile", "copyContent", "([BI)V"⟩ : MethodName)) (z := (⟨"com/example/sluice/sluice/processor/FlowFile", "copyContent", "([BI)V"⟩ : MethodName)) hown (mvT hZ (hw _ (List.mem_of_getElem? (i := 48) rfl))) (mvT hZ (hw _ (List.mem_of_getElem? (i := 49) rfl))) (notFace_of_selects (args := #[]) (mvT hZ (hw _ (List.mem_of_getElem? (i := 51) rfl)))) (mvT hZ (hw _ (List.mem_of_getElem? (i := 51) rfl))) (mvT hZ (hw _ (List.mem_of_getElem? (i := 50) rfl))) (by decide) (backOf (W := 0) (rmCC l Z a0 hw [] b222 ct224 kb221 (3 : Int32) _ b225 k225 _ off h241 n0 Zs241 fF_b222_content_241 fV_ct224_241 V241 g_b225 (own_neg3 hoff) (by decide) (own_le3 hoff) rfl) hZ (hw _ (List.mem_of_getElem? (i := 52) rfl)) (hw _ (List.mem_of_getElem? (i := 11) rfl)) (by decide) (by decide)) q242a q242c (g := (mkF m 131 #[.val (.int p1), .val (.int p2), .val (.int p3), .val (.int p4), .val (.int p5), .val (.int (3 : Int32)), .val (.int off), .val (.ref t221), .val (.ref b222), .val (.ref b225)] [(.int off), (.ref b225), (.ref b222)])) rfl (by rw [hml]; rfl) (Steps.refl _) (argsL := [(.ref b225), (.int off)]) (rest := []) (lenOf pd_7 rfl) rfl (by show 2 * 0 + _ ≤ _; exact Nat.le_of_eq rfl) (hb hby at_131) (fun _ _ => ⟨rfl, e241, (by decide : 4 + 0 ≤ _), (by decide : 17 + 0 ≤ _)⟩)
    dsimp only [Pt.U, Pt.locs, Pt.cells, Pt.slots] at X242 l242 y242 z242 st242 hQ242
    rw [l242, y242, z242] at X242
    replace X242 : Stand p l e _ _ m _ below meth c T242 _ 4 17 := X242
    obtain ⟨rfl, N242q, K242q, vb242⟩ := hQ242
    have N242 := Fr.app N241 N242q
    refine Go.tr st242 ?_
    have Zs242 : n0 ≤ T242.heap.size := Nat.le_trans Zs241 K242q.1
    have O242 : Old Z n0 T242.heap := O241.keep K242q (allS g_b225 all0)
    have fE_t221_242 := fE_t221_241.keep K242q
    have fV_t221_242 := fV_t221_241.keep K242q (ninS ne_t221_b225 nin0)
    have fE_b222_242 := fE_b222_241.keep K242q
    have fF_b222_content_242 := fF_b222_content_241.keep K242q (ninS ne_b222_b225 nin0)
    have fV_ct224_242 := fV_ct224_241.keep K242q (ninS ne_ct224_b225 nin0)
    rw [own_mix3 p1 p2 p3 off hoff] at vb242
    show Go p e below _ (T242.setTop (mkF m 134 #[.val (.int p1), .val (.int p2), .val (.int p3), .val (.int p4), .val (.int p5), .val (.int (3 : Int32)), .val (.int off), .val (.ref t221), .val (.ref b222), .val (.ref b225)] []))
    refine Go.via (fun _ => XS.aload X242.here hx rfl (hb hby at_134) rfl rfl) ?_
    show Go p e below _ (T242.setTop (mkF m 136 #[.val (.int p1), .val (.int p2), .val (.int p3), .val (.int p4), .val (.int p5), .val (.int (3 : Int32)), .val (.int off), .val (.ref t221), .val (.ref b222), .val (.ref b225)] [(.ref b222)]))
    obtain ⟨cq243, kq243, q243a, q243b, q243c⟩ := isOf hZ rfl fE_b222_242
    obtain ⟨_, _, ⟨T243, L243, k243, n243⟩, -, X243, ⟨Lc243, hQ243, l243, y243, z243⟩, st243⟩ := X242.virtualBack hx (y := (⟨"com/example/sluice/sluice/processor/FlowFile", "size", "()I"⟩ : MethodName)) (z := (⟨"com/example/sluice/sluice/processor/FlowFile", "size", "()I"⟩ : MethodName)) hown (mvT hZ (hw _ (List.mem_of_getElem? (i := 57) rfl))) (mvT hZ (hw _ (List.mem_of_getElem? (i := 58) rfl))) (notFace_of_selects (args := #[]) (mvT hZ (hw _ (List.mem_of_getElem? (i := 60) rfl)))) (mvT hZ (hw _ (List.mem_of_getElem? (i := 60) rfl))) (mvT hZ (hw _ (List.mem_of_getElem? (i := 59) rfl))) (by decide) (backOf (W := 0) (rmSz l Z a0 hw [] b222 ct224 kb221 (3 : Int32) _ T242.heap n0 Zs242 fF_b222_content_242 fV_ct224_242) hZ (hw _ (List.mem_of_getElem? (i := 61) rfl)) (hw _ (List.mem_of_getElem? (i := 11) rfl)) (by decide) (by decide)) q243a q243c (g := (mkF m 136 #[.val (.int p1), .val (.int p2), .val (.int p3), .val (.int p4), .val (.int p5), .val (.int (3 : Int32)), .val (.int off), .val (.ref t221), .val (.ref b222), .val (.ref b225)] [(.ref b222)])) rfl (by rw [hml]; rfl) (Steps.refl _) (argsL := []) (rest := []) (lenOf pd_8 rfl) rfl (by show 2 * 0 + _ ≤ _; exact Nat.le_of_eq rfl) (hb hby at_136) (fun _ _ => ⟨rfl, rfl, (by decide : 4 + 0 ≤ _), (by decide : 17 + 0 ≤ _)⟩)
    dsimp only [Pt.U, Pt.locs, Pt.cells, Pt.slots] at X243 l243 y243 z243 st243 hQ243
    rw [l243, y243, z243] at X243
    replace X243 : Stand p l e _ _ m _ below meth c T243 _ 4 17 := X243
    obtain ⟨rfl, N243q, e243q⟩ := hQ243
    have N243 := Fr.app N242 N243q
    refine Go.tr st243 ?_
    show Go p e below _ (T243.setTop (mkF m 139 #[.val (.int p1), .val (.int p2), .val (.int p3), .val (.int p4), .val (.int p5), .val (.int (3 : Int32)), .val (.int off), .val (.ref t221), .val (.ref b222), .val (.ref b225)] [(.int (3 : Int32))]))
    refine Go.via (fun _ => XS.iload X243.here hx rfl (hb hby at_139) rfl) ?_
    show Go p e below _ (T243.setTop (mkF m 141 #[.val (.int p1), .val (.int p2), .val (.int p3), .val (.int p4), .val (.int p5), .val (.int (3 : Int32)), .val (.int off), .val (.ref t221), .val (.ref b222), .val (.ref b225)] [(.int (3 : Int32)), (.int (3 : Int32))]))
    refine Go.via (fun _ => XS.icmpNo X243.here hx rfl (hb hby at_141) rfl (by decide)) ?_
    show Go p e below _ (T243.setTop (mkF m 144 #[.val (.int p1), .val (.int p2), .val (.int p3), .val (.int p4), .val (.int p5), .val (.int (3 : Int32)), .val (.int off), .val (.ref t221), .val (.ref b222), .val (.ref b225)] []))
    refine Go.via (fun _ => XS.aload X243.here hx rfl (hb hby at_144) rfl rfl) ?_
    show Go p e below _ (T243.setTop (mkF m 146 #[.val (.int p1), .val (.int p2), .val (.int p3), .val (.int p4), .val (.int p5), .val (.int (3 : Int32)), .val (.int off), .val (.ref t221), .val (.ref b222), .val (.ref b225)] [(.ref b225)]))
    obtain ⟨cl244, Ar244, -, S244, N244n, -, -⟩ := id vb242
    have al244 := X243.arraylength hx (by rw [e243q]; exact Ar244.1) (State.isArrayOf_alike hZ.alike Ar244.2.1) (g := (mkF m 146 #[.val (.int p1), .val (.int p2), .val (.int p3), .val (.int p4), .val (.int p5), .val (.int (3 : Int32)), .val (.int off), .val (.ref t221), .val (.ref b222), .val (.ref b225)] [(.ref b225)])) rfl rfl (hb hby at_146)
    rw [len_of S244 N244n] at al244
    refine Go.via al244 ?_
    show Go p e below _ (T243.setTop (mkF m 147 #[.val (.int p1), .val (.int p2), .val (.int p3), .val (.int p4), .val (.int p5), .val (.int (3 : Int32)), .val (.int off), .val (.ref t221), .val (.ref b222), .val (.ref b225)] [(.int (8 : Int32))]))
    refine Go.via (fun _ => XS.bipush X243.here hx rfl (hb hby at_147)) ?_
    show Go p e below _ (T243.setTop (mkF m 149 #[.val (.int p1), .val (.int p2), .val (.int p3), .val (.int p4), .val (.int p5), .val (.int (3 : Int32)), .val (.int off), .val (.ref t221), .val (.ref b222), .val (.ref b225)] [(.int (8 : Int32)), (.int (8 : Int32))]))
    refine Go.via (fun _ => XS.icmpNo X243.here hx rfl (hb hby at_149) rfl (by decide)) ?_
    show Go p e below _ (T243.setTop (mkF m 152 #[.val (.int p1), .val (.int p2), .val (.int p3), .val (.int p4), .val (.int p5), .val (.int (3 : Int32)), .val (.int off), .val (.ref t221), .val (.ref b222), .val (.ref b225)] []))
    refine Go.via (fun _ => XS.aload X243.here hx rfl (hb hby at_152) rfl rfl) ?_
    show Go p e below _ (T243.setTop (mkF m 154 #[.val (.int p1), .val (.int p2), .val (.int p3), .val (.int p4), .val (.int p5), .val (.int (3 : Int32)), .val (.int off), .val (.ref t221), .val (.ref b222), .val (.ref b225)] [(.ref b225)]))
    refine Go.via (fun _ => XS.iconst X243.here hx rfl (hb hby at_154)) ?_
    show Go p e below _ (T243.setTop (mkF m 155 #[.val (.int p1), .val (.int p2), .val (.int p3), .val (.int p4), .val (.int p5), .val (.int (3 : Int32)), .val (.int off), .val (.ref t221), .val (.ref b222), .val (.ref b225)] [(.int (0 : Int32)), (.ref b225)]))
    obtain ⟨cl245, Ar245, q245, S245, N245n, H245, G245⟩ := id vb242
    have hin245 := inb_of (j := (0 : Int32)) S245 (by decide)
    have hat245 : cl245.slots[((0 : Int32) : Int32).toNatClampNeg]? = some (.int (exF (0 : Int32) off (3 : Int32) p1 p2 p3)) := H245.at hin245 rfl
    refine Go.via (X243.baloadBytes hx (j := (0 : Int32)) (v := (.int (exF (0 : Int32) off (3 : Int32) p1 p2 p3))) (by rw [e243q]; exact Ar245.1) (State.isArrayOf_alike hZ.alike Ar245.2.1) Ar245.2.2 hin245 hat245 (g := (mkF m 155 #[.val (.int p1), .val (.int p2), .val (.int p3), .val (.int p4), .val (.int p5), .val (.int (3 : Int32)), .val (.int off), .val (.ref t221), .val (.ref b222), .val (.ref b225)] [(.int (0 : Int32)), (.ref b225)])) rfl rfl (hb hby at_155)) ?_
    show Go p e below _ (T243.setTop (mkF m 156 #[.val (.int p1), .val (.int p2), .val (.int p3), .val (.int p4), .val (.int p5), .val (.int (3 : Int32)), .val (.int off), .val (.ref t221), .val (.ref b222), .val (.ref b225)] [(.int (exF (0 : Int32) off (3 : Int32) p1 p2 p3))]))
    refine Go.via (fun _ => XS.iconst X243.here hx rfl (hb hby at_156)) ?_
    show Go p e below _ (T243.setTop (mkF m 157 #[.val (.int p1), .val (.int p2), .val (.int p3), .val (.int p4), .val (.int p5), .val (.int (3 : Int32)), .val (.int off), .val (.ref t221), .val (.ref b222), .val (.ref b225)] [(.int (0 : Int32)), (.int (exF (0 : Int32) off (3 : Int32) p1 p2 p3))]))
    refine Go.via (fun _ => XS.iload X243.here hx rfl (hb hby at_157) rfl) ?_
    show Go p e below _ (T243.setTop (mkF m 159 #[.val (.int p1), .val (.int p2), .val (.int p3), .val (.int p4), .val (.int p5), .val (.int (3 : Int32)), .val (.int off), .val (.ref t221), .val (.ref b222), .val (.ref b225)] [(.int off), (.int (0 : Int32)), (.int (exF (0 : Int32) off (3 : Int32) p1 p2 p3))]))
    refine Go.via (fun _ => XS.iload X243.here hx rfl (hb hby at_159) rfl) ?_
    show Go p e below _ (T243.setTop (mkF m 161 #[.val (.int p1), .val (.int p2), .val (.int p3), .val (.int p4), .val (.int p5), .val (.int (3 : Int32)), .val (.int off), .val (.ref t221), .val (.ref b222), .val (.ref b225)] [(.int (3 : Int32)), (.int off), (.int (0 : Int32)), (.int (exF (0 : Int32) off (3 : Int32) p1 p2 p3))]))
    refine Go.via (fun _ => XS.iloadN X243.here hx rfl (hb hby at_161) rfl) ?_
    show Go p e below _ (T243.setTop (mkF m 162 #[.val (.int p1), .val (.int p2), .val (.int p3), .val (.int p4), .val (.int p5), .val (.int (3 : Int32)), .val (.int off), .val (.ref t221), .val (.ref b222), .val (.ref b225)] [(.int p1), (.int (3 : Int32)), (.int off), (.int (0 : Int32)), (.int (exF (0 : Int32) off (3 : Int32) p1 p2 p3))]))
    refine Go.via (fun _ => XS.iloadN X243.here hx rfl (hb hby at_162) rfl) ?_
    show Go p e below _ (T243.setTop (mkF m 163 #[.val (.int p1), .val (.int p2), .val (.int p3), .val (.int p4), .val (.int p5), .val (.int (3 : Int32)), .val (.int off), .val (.ref t221), .val (.ref b222), .val (.ref b225)] [(.int p2), (.int p1), (.int (3 : Int32)), (.int off), (.int (0 : Int32)), (.int (exF (0 : Int32) off (3 : Int32) p1 p2 p3))]))
    refine Go.via (fun _ => XS.iloadN X243.here hx rfl (hb hby at_163) rfl) ?_
    show Go p e below _ (T243.setTop (mkF m 164 #[.val (.int p1), .val (.int p2), .val (.int p3), .val (.int p4), .val (.int p5), .val (.int (3 : Int32)), .val (.int off), .val (.ref t221), .val (.ref b222), .val (.ref b225)] [(.int p3), (.int p2), (.int p1), (.int (3 : Int32)), (.int off), (.int (0 : Int32)), (.int (exF (0 : Int32) off (3 : Int32) p1 p2 p3))]))
    obtain ⟨_, _, ⟨T246, L246, k246, n246⟩, -, X246, ⟨Lc246, hQ246, l246, y246, z246⟩, st246⟩ := Jvm.LawKit.callS X243 hx (y := (⟨"com/example/sluice/sluice/processor/FlowFileCopyContentPinLaw", "expected", "(IIIIII)B"⟩ : MethodName)) hown (mvT hZ (hw _ (List.mem_of_getElem? (i := 62) rfl))) (mvT hZ (hw _ (List.mem_of_getElem? (i := 63) rfl))) (mvT hZ (hw _ (List.mem_of_getElem? (i := 3) rfl))) (mvT hZ (hw _ (List.mem_of_getElem? (i := 64) rfl))) (by decide) (backOf (W := 1) (rmEx l Z a0 hw [] (0 : Int32) off (3 : Int32) p1 p2 p3 T242.heap n0 Zs242) hZ (hw _ (List.mem_of_getElem? (i := 64) rfl)) (hw _ (List.mem_of_getElem? (i := 3) rfl)) (by decide) (by decide)) (g := (mkF m 164 #[.val (.int p1), .val (.int p2), .val (.int p3), .val (.int p4), .val (.int p5), .val (.int (3 : Int32)), .val (.int off), .val (.ref t221), .val (.ref b222), .val (.ref b225)] [(.int p3), (.int p2), (.int p1), (.int (3 : Int32)), (.int off), (.int (0 : Int32)), (.int (exF (0 : Int32) off (3 : Int32) p1 p2 p3))])) rfl (by rw [hml]; rfl) (argsL := [(.int (0 : Int32)), (.int off), (.int (3 : Int32)), (.int p1), (.int p2), (.int p3)]) (rest := [(.int (exF (0 : Int32) off (3 : Int32) p1 p2 p3))]) (lenOf pd_9 rfl) rfl (by show 2 * 0 + _ ≤ _; exact Nat.le_of_eq rfl) (hb hby at_164) (fun _ _ => ⟨rfl, e243q, (by decide : 4 + 0 ≤ _), (by decide : 17 + 0 ≤ _)⟩)
    dsimp only [Pt.U, Pt.locs, Pt.cells, Pt.slots] at X246 l246 y246 z246 st246 hQ246
    rw [l246, y246, z246] at X246
    replace X246 : Stand p l e _ _ m _ below meth c T246 _ 4 17 := X246
    obtain ⟨rfl, N246q, e246q⟩ := hQ246
    have N246 := Fr.app N243 N246q
    refine Go.via st246 ?_
    show Go p e below _ (T246.setTop (mkF m 167 #[.val (.int p1), .val (.int p2), .val (.int p3), .val (.int p4), .val (.int p5), .val (.int (3 : Int32)), .val (.int off), .val (.ref t221), .val (.ref b222), .val (.ref b225)] [(.int (exF (0 : Int32) off (3 : Int32) p1 p2 p3)), (.int (exF (0 : Int32) off (3 : Int32) p1 p2 p3))]))
    refine Go.via (fun _ => XS.icmpNo X246.here hx rfl (hb hby at_167) rfl (teq rfl).2) ?_
    show Go p e below _ (T246.setTop (mkF m 170 #[.val (.int p1), .val (.int p2), .val (.int p3), .val (.int p4), .val (.int p5), .val (.int (3 : Int32)), .val (.int off), .val (.ref t221), .val (.ref b222), .val (.ref b225)] []))
    refine Go.via (fun _ => XS.aload X246.here hx rfl (hb hby at_170) rfl rfl) ?_
    show Go p e below _ (T246.setTop (mkF m 172 #[.val (.int p1), .val (.int p2), .val (.int p3), .val (.int p4), .val (.int p5), .val (.int (3 : Int32)), .val (.int off), .val (.ref t221), .val (.ref b222), .val (.ref b225)] [(.ref b225)]))
    refine Go.via (fun _ => XS.iconst X246.here hx rfl (hb hby at_172)) ?_
    show Go p e below _ (T246.setTop (mkF m 173 #[.val (.int p1), .val (.int p2), .val (.int p3), .val (.int p4), .val (.int p5), .val (.int (3 : Int32)), .val (.int off), .val (.ref t221), .val (.ref b222), .val (.ref b225)] [(.int (1 : Int32)), (.ref b225)]))
    obtain ⟨cl247, Ar247, q247, S247, N247n, H247, G247⟩ := id vb242
    have hin247 := inb_of (j := (1 : Int32)) S247 (by decide)
    have hat247 : cl247.slots[((1 : Int32) : Int32).toNatClampNeg]? = some (.int (exF (1 : Int32) off (3 : Int32) p1 p2 p3)) := H247.at hin247 rfl
    refine Go.via (X246.baloadBytes hx (j := (1 : Int32)) (v := (.int (exF (1 : Int32) off (3 : Int32) p1 p2 p3))) (by rw [e246q]; exact Ar247.1) (State.isArrayOf_alike hZ.alike Ar247.2.1) Ar247.2.2 hin247 hat247 (g := (mkF m 173 #[.val (.int p1), .val (.int p2), .val (.int p3), .val (.int p4), .val (.int p5), .val (.int (3 : Int32)), .val (.int off), .val (.ref t221), .val (.ref b222), .val (.ref b225)] [(.int (1 : Int32)), (.ref b225)])) rfl rfl (hb hby at_173)) ?_
    show Go p e below _ (T246.setTop (mkF m 174 #[.val (.int p1), .val (.int p2), .val (.int p3), .val (.int p4), .val (.int p5), .val (.int (3 : Int32)), .val (.int off), .val (.ref t221), .val (.ref b222), .val (.ref b225)] [(.int (exF (1 : Int32) off (3 : Int32) p1 p2 p3))]))
    refine Go.via (fun _ => XS.iconst X246.here hx rfl (hb hby at_174)) ?_
    show Go p e below _ (T246.setTop (mkF m 175 #[.val (.int p1), .val (.int p2), .val (.int p3), .val (.int p4), .val (.int p5), .val (.int (3 : Int32)), .val (.int off), .val (.ref t221), .val (.ref b222), .val (.ref b225)] [(.int (1 : Int32)), (.int (exF (1 : Int32) off (3 : Int32) p1 p2 p3))]))
    refine Go.via (fun _ => XS.iload X246.here hx rfl (hb hby at_175) rfl) ?_
    show Go p e below _ (T246.setTop (mkF m 177 #[.val (.int p1), .val (.int p2), .val (.int p3), .val (.int p4), .val (.int p5), .val (.int (3 : Int32)), .val (.int off), .val (.ref t221), .val (.ref b222), .val (.ref b225)] [(.int off), (.int (1 : Int32)), (.int (exF (1 : Int32) off (3 : Int32) p1 p2 p3))]))
    refine Go.via (fun _ => XS.iload X246.here hx rfl (hb hby at_177) rfl) ?_
    show Go p e below _ (T246.setTop (mkF m 179 #[.val (.int p1), .val (.int p2), .val (.int p3), .val (.int p4), .val (.int p5), .val (.int (3 : Int32)), .val (.int off), .val (.ref t221), .val (.ref b222), .val (.ref b225)] [(.int (3 : Int32)), (.int off), (.int (1 : Int32)), (.int (exF (1 : Int32) off (3 : Int32) p1 p2 p3))]))
    refine Go.via (fun _ => XS.iloadN X246.here hx rfl (hb hby at_179) rfl) ?_
    show Go p e below _ (T246.setTop (mkF m 180 #[.val (.int p1), .val (.int p2), .val (.int p3), .val (.int p4), .val (.int p5), .val (.int (3 : Int32)), .val (.int off), .val (.ref t221), .val (.ref b222), .val (.ref b225)] [(.int p1), (.int (3 : Int32)), (.int off), (.int (1 : Int32)), (.int (exF (1 : Int32) off (3 : Int32) p1 p2 p3))]))
    refine Go.via (fun _ => XS.iloadN X246.here hx rfl (hb hby at_180) rfl) ?_
    show Go p e below _ (T246.setTop (mkF m 181 #[.val (.int p1), .val (.int p2), .val (.int p3), .val (.int p4), .val (.int p5), .val (.int (3 : Int32)), .val (.int off), .val (.ref t221), .val (.ref b222), .val (.ref b225)] [(.int p2), (.int p1), (.int (3 : Int32)), (.int off), (.int (1 : Int32)), (.int (exF (1 : Int32) off (3 : Int32) p1 p2 p3))]))
    refine Go.via (fun _ => XS.iloadN X246.here hx rfl (hb hby at_181) rfl) ?_
    show Go p e below _ (T246.setTop (mkF m 182 #[.val (.int p1), .val (.int p2), .val (.int p3), .val (.int p4), .val (.int p5), .val (.int (3 : Int32)), .val (.int off), .val (.ref t221), .val (.ref b222), .val (.ref b225)] [(.int p3), (.int p2), (.int p1), (.int (3 : Int32)), (.int off), (.int (1 : Int32)), (.int (exF (1 : Int32) off (3 : Int32) p1 p2 p3))]))
    obtain ⟨_, _, ⟨T248, L248, k248, n248⟩, -, X248, ⟨Lc248, hQ248, l248, y248, z248⟩, st248⟩ := Jvm.LawKit.callS X246 hx (y := (⟨"com/example/sluice/sluice/processor/FlowFileCopyContentPinLaw", "expected", "(IIIIII)B"⟩ : MethodName)) hown (mvT hZ (hw _ (List.mem_of_getElem? (i := 62) rfl))) (mvT hZ (hw _ (List.mem_of_getElem? (i := 63) rfl))) (mvT hZ (hw _ (List.mem_of_getElem? (i := 3) rfl))) (mvT hZ (hw _ (List.mem_of_getElem? (i := 64) rfl))) (by decide) (backOf (W := 1) (rmEx l Z a0 hw [] (1 : Int32) off (3 : Int32) p1 p2 p3 T242.heap n0 Zs242) hZ (hw _ (List.mem_of_getElem? (i := 64) rfl)) (hw _ (List.mem_of_getElem? (i := 3) rfl)) (by decide) (by decide)) (g := (mkF m 182 #[.val (.int p1), .val (.int p2), .val (.int p3), .val (.int p4), .val (.int p5), .val (.int (3 : Int32)), .val (.int off), .val (.ref t221), .val (.ref b222), .val (.ref b225)] [(.int p3), (.int p2), (.int p1), (.int (3 : Int32)), (.int off), (.int (1 : Int32)), (.int (exF (1 : Int32) off (3 : Int32) p1 p2 p3))])) rfl (by rw [hml]; rfl) (argsL := [(.int (1 : Int32)), (.int off), (.int (3 : Int32)), (.int p1), (.int p2), (.int p3)]) (rest := [(.int (exF (1 : Int32) off (3 : Int32) p1 p2 p3))]) (lenOf pd_9 rfl) rfl (by show 2 * 0 + _ ≤ _; exact Nat.le_of_eq rfl) (hb hby at_182) (fun _ _ => ⟨rfl, e246q, (by decide : 4 + 0 ≤ _), (by decide : 17 + 0 ≤ _)⟩)
    dsimp only [Pt.U, Pt.locs, Pt.cells, Pt.slots] at X248 l248 y248 z248 st248 hQ248
    rw [l248, y248, z248] at X248
    replace X248 : Stand p l e _ _ m _ below meth c T248 _ 4 17 := X248
    obtain ⟨rfl, N248q, e248q⟩ := hQ248
    have N248 := Fr.app N246 N248q
    refine Go.via st248 ?_
    show Go p e below _ (T248.setTop (mkF m 185 #[.val (.int p1), .val (.int p2), .val (.int p3), .val (.int p4), .val (.int p5), .val (.int (3 : Int32)), .val (.int off), .val (.ref t221), .val (.ref b222), .val (.ref b225)] [(.int (exF (1 : Int32) off (3 : Int32) p1 p2 p3)), (.int (exF (1 : Int32) off (3 : Int32) p1 p2 p3))]))
    refine Go.via (fun _ => XS.icmpNo X248.here hx rfl (hb hby at_185) rfl (teq rfl).2) ?_
    show Go p e below _ (T248.setTop (mkF m 188 #[.val (.int p1), .val (.int p2), .val (.int p3), .val (.int p4), .val (.int p5), .val (.int (3 : Int32)), .val (.int off), .val (.ref t221), .val (.ref b222), .val (.ref b225)] []))
    refine Go.via (fun _ => XS.aload X248.here hx rfl (hb hby at_188) rfl rfl) ?_
    show Go p e below _ (T248.setTop (mkF m 190 #[.val (.int p1), .val (.int p2), .val (.int p3), .val (.int p4), .val (.int p5), .val (.int (3 : Int32)), .val (.int off), .val (.ref t221), .val (.ref b222), .val (.ref b225)] [(.ref b225)]))
    refine Go.via (fun _ => XS.iconst X248.here hx rfl (hb hby at_190)) ?_
    show Go p e below _ (T248.setTop (mkF m 191 #[.val (.int p1), .val (.int p2), .val (.int p3), .val (.int p4), .val (.int p5), .val (.int (3 : Int32)), .val (.int off), .val (.ref t221), .val (.ref b222), .val (.ref b225)] [(.int (2 : Int32)), (.ref b225)]))
    obtain ⟨cl249, Ar249, q249, S249, N249n, H249, G249⟩ := id vb242
    have hin249 := inb_of (j := (2 : Int32)) S249 (by decide)
    have hat249 : cl249.slots[((2 : Int32) : Int32).toNatClampNeg]? = some (.int (exF (2 : Int32) off (3 : Int32) p1 p2 p3)) := H249.at hin249 rfl
    refine Go.via (X248.baloadBytes hx (j := (2 : Int32)) (v := (.int (exF (2 : Int32) off (3 : Int32) p1 p2 p3))) (by rw [e248q]; exact Ar249.1) (State.isArrayOf_alike hZ.alike Ar249.2.1) Ar249.2.2 hin249 hat249 (g := (mkF m 191 #[.val (.int p1), .val (.int p2), .val (.int p3), .val (.int p4), .val (.int p5), .val (.int (3 : Int32)), .val (.int off), .val (.ref t221), .val (.ref b222), .val (.ref b225)] [(.int (2 : Int32)), (.ref b225)])) rfl rfl (hb hby at_191)) ?_
    show Go p e below _ (T248.setTop (mkF m 192 #[.val (.int p1), .val (.int p2), .val (.int p3), .val (.int p4), .val (.int p5), .val (.int (3 : Int32)), .val (.int off), .val (.ref t221), .val (.ref b222), .val (.ref b225)] [(.int (exF (2 : Int32) off (3 : Int32) p1 p2 p3))]))
    refine Go.via (fun _ => XS.iconst X248.here hx rfl (hb hby at_192)) ?_
    show Go p e below _ (T248.setTop (mkF m 193 #[.val (.int p1), .val (.int p2), .val (.int p3), .val (.int p4), .val (.int p5), .val (.int (3 : Int32)), .val (.int off), .val (.ref t221), .val (.ref b222), .val (.ref b225)] [(.int (2 : Int32)), (.int (exF (2 : Int32) off (3 : Int32) p1 p2 p3))]))
    refine Go.via (fun _ => XS.iload X248.here hx rfl (hb hby at_193) rfl) ?_
    show Go p e below _ (T248.setTop (mkF m 195 #[.val (.int p1), .val (.int p2), .val (.int p3), .val (.int p4), .val (.int p5), .val (.int (3 : Int32)), .val (.int off), .val (.ref t221), .val (.ref b222), .val (.ref b225)] [(.int off), (.int (2 : Int32)), (.int (exF (2 : Int32) off (3 : Int32) p1 p2 p3))]))
    refine Go.via (fun _ => XS.iload X248.here hx rfl (hb hby at_195) rfl) ?_
    show Go p e below _ (T248.setTop (mkF m 197 #[.val (.int p1), .val (.int p2), .val (.int p3), .val (.int p4), .val (.int p5), .val (.int (3 : Int32)), .val (.int off), .val (.ref t221), .val (.ref b222), .val (.ref b225)] [(.int (3 : Int32)), (.int off), (.int (2 : Int32)), (.int (exF (2 : Int32) off (3 : Int32) p1 p2 p3))]))
    refine Go.via (fun _ => XS.iloadN X248.here hx rfl (hb hby at_197) rfl) ?_
    show Go p e below _ (T248.setTop (mkF m 198 #[.val (.int p1), .val (.int p2), .val (.int p3), .val (.int p4), .val (.int p5), .val (.int (3 : Int32)), .val (.int off), .val (.ref t221), .val (.ref b222), .val (.ref b225)] [(.int p1), (.int (3 : Int32)), (.int off), (.int (2 : Int32)), (.int (exF (2 : Int32) off (3 : Int32) p1 p2 p3))]))
    refine Go.via (fun _ => XS.iloadN X248.here hx rfl (hb hby at_198) rfl) ?_
    show Go p e below _ (T248.setTop (mkF m 199 #[.val (.int p1), .val (.int p2), .val (.int p3), .val (.int p4), .val (.int p5), .val (.int (3 : Int32)), .val (.int off), .val (.ref t221), .val (.ref b222), .val (.ref b225)] [(.int p2), (.int p1), (.int (3 : Int32)), (.int off), (.int (2 : Int32)), (.int (exF (2 : Int32) off (3 : Int32) p1 p2 p3))]))
    refine Go.via (fun _ => XS.iloadN X248.here hx rfl (hb hby at_199) rfl) ?_
    show Go p e below _ (T248.setTop (mkF m 200 #[.val (.int p1), .val (.int p2), .val (.int p3), .val (.int p4), .val (.int p5), .val (.int (3 : Int32)), .val (.int off), .val (.ref t221), .val (.ref b222), .val (.ref b225)] [(.int p3), (.int p2), (.int p1), (.int (3 : Int32)), (.int off), (.int (2 : Int32)), (.int (exF (2 : Int32) off (3 : Int32) p1 p2 p3))]))
    obtain ⟨_, _, ⟨T250, L250, k250, n250⟩, -, X250, ⟨Lc250, hQ250, l250, y250, z250⟩, st250⟩ := Jvm.LawKit.callS X248 hx (y := (⟨"com/example/sluice/sluice/processor/FlowFileCopyContentPinLaw", "expected", "(IIIIII)B"⟩ : MethodName)) hown (mvT hZ (hw _ (List.mem_of_getElem? (i := 62) rfl))) (mvT hZ (hw _ (List.mem_of_getElem? (i := 63) rfl))) (mvT hZ (hw _ (List.mem_of_getElem? (i := 3) rfl))) (mvT hZ (hw _ (List.mem_of_getElem? (i := 64) rfl))) (by decide) (backOf (W := 1) (rmEx l Z a0 hw [] (2 : Int32) off (3 : Int32) p1 p2 p3 T242.heap n0 Zs242) hZ (hw _ (List.mem_of_getElem? (i := 64) rfl)) (hw _ (List.mem_of_getElem? (i := 3) rfl)) (by decide) (by decide)) (g := (mkF m 200 #[.val (.int p1), .val (.int p2), .val (.int p3), .val (.int p4), .val (.int p5), .val (.int (3 : Int32)), .val (.int off), .val (.ref t221), .val (.ref b222), .val (.ref b225)] [(.int p3), (.int p2), (.int p1), (.int (3 : Int32)), (.int off), (.int (2 : Int32)), (.int (exF (2 : Int32) off (3 : Int32) p1 p2 p3))])) rfl (by rw [hml]; rfl) (argsL := [(.int (2 : Int32)), (.int off), (.int (3 : Int32)), (.int p1), (.int p2), (.int p3)]) (rest := [(.int (exF (2 : Int32) off (3 : Int32) p1 p2 p3))]) (lenOf pd_9 rfl) rfl (by show 2 * 0 + _ ≤ _; exact Nat.le_of_eq rfl) (hb hby at_200) (fun _ _ => ⟨rfl, e248q, (by decide : 4 + 0 ≤ _), (by decide : 17 + 0 ≤ _)⟩)
    dsimp only [Pt.U, Pt.locs, Pt.cells, Pt.slots] at X250 l250 y250 z250 st250 hQ250
    rw [l250, y250, z250] at X250
    replace X250 : Stand p l e _ _ m _ below meth c T250 _ 4 17 := X250
    obtain ⟨rfl, N250q, e250q⟩ := hQ250
    have N250 := Fr.app N248 N250q
    refine Go.via st250 ?_
    show Go p e below _ (T250.setTop (mkF m 203 #[.val (.int p1), .val (.int p2), .val (.int p3), .val (.int p4), .val (.int p5), .val (.int (3 : Int32)), .val (.int off), .val (.ref t221), .val (.ref b222), .val (.ref b225)] [(.int (exF (2 : Int32) off (3 : Int32) p1 p2 p3)), (.int (exF (2 : Int32) off (3 : Int32) p1 p2 p3))]))
    refine Go.via (fun _ => XS.icmpNo X250.here hx rfl (hb hby at_203) rfl (teq rfl).2) ?_
    show Go p e below _ (T250.setTop (mkF m 206 #[.val (.int p1), .val (.int p2), .val (.int p3), .val (.int p4), .val (.int p5), .val (.int (3 : Int32)), .val (.int off), .val (.ref t221), .val (.ref b222), .val (.ref b225)] []))
    refine Go.via (fun _ => XS.aload X250.here hx rfl (hb hby at_206) rfl rfl) ?_
    show Go p e below _ (T250.setTop (mkF m 208 #[.val (.int p1), .val (.int p2), .val (.int p3), .val (.int p4), .val (.int p5), .val (.int (3 : Int32)), .val (.int off), .val (.ref t221), .val (.ref b222), .val (.ref b225)] [(.ref b225)]))
    refine Go.via (fun _ => XS.iconst X250.here hx rfl (hb hby at_208)) ?_
    show Go p e below _ (T250.setTop (mkF m 209 #[.val (.int p1), .val (.int p2), .val (.int p3), .val (.int p4), .val (.int p5), .val (.int (3 : Int32)), .val (.int off), .val (.ref t221), .val (.ref b222), .val (.ref b225)] [(.int (3 : Int32)), (.ref b225)]))
    obtain ⟨cl251, Ar251, q251, S251, N251n, H251, G251⟩ := id vb242
    have hin251 := inb_of (j := (3 : Int32)) S251 (by decide)
    have hat251 : cl251.slots[((3 : Int32) : Int32).toNatClampNeg]? = some (.int (exF (3 : Int32) off (3 : Int32) p1 p2 p3)) := H251.at hin251 rfl
    refine Go.via (X250.baloadBytes hx (j := (3 : Int32)) (v := (.int (exF (3 : Int32) off (3 : Int32) p1 p2 p3))) (by rw [e250q]; exact Ar251.1) (State.isArrayOf_alike hZ.alike Ar251.2.1) Ar251.2.2 hin251 hat251 (g := (mkF m 209 #[.val (.int p1), .val (.int p2), .val (.int p3), .val (.int p4), .val (.int p5), .val (.int (3 : Int32)), .val (.int off), .val (.ref t221), .val (.ref b222), .val (.ref b225)] [(.int (3 : Int32)), (.ref b225)])) rfl rfl (hb hby at_209)) ?_
    show Go p e below _ (T250.setTop (mkF m 210 #[.val (.int p1), .val (.int p2), .val (.int p3), .val (.int p4), .val (.int p5), .val (.int (3 : Int32)), .val (.int off), .val (.ref t221), .val (.ref b222), .val (.ref b225)] [(.int (exF (3 : Int32) off (3 : Int32) p1 p2 p3))]))
    refine Go.via (fun _ => XS.iconst X250.here hx rfl (hb hby at_210)) ?_
    show Go p e below _ (T250.setTop (mkF m 211 #[.val (.int p1), .val (.int p2), .val (.int p3), .val (.int p4), .val (.int p5), .val (.int (3 : Int32)), .val (.int off), .val (.ref t221), .val (.ref b222), .val (.ref b225)] [(.int (3 : Int32)), (.int (exF (3 : Int32) off (3 : Int32) p1 p2 p3))]))
    refine Go.via (fun _ => XS.iload X250.here hx rfl (hb hby at_211) rfl) ?_
    show Go p e below _ (T250.setTop (mkF m 213 #[.val (.int p1), .val (.int p2), .val (.int p3), .val (.int p4), .val (.int p5), .val (.int (3 : Int32)), .val (.int off), .val (.ref t221), .val (.ref b222), .val (.ref b225)] [(.int off), (.int (3 : Int32)), (.int (exF (3 : Int32) off (3 : Int32) p1 p2 p3))]))
    refine Go.via (fun _ => XS.iload X250.here hx rfl (hb hby at_213) rfl) ?_
    show Go p e below _ (T250.setTop (mkF m 215 #[.val (.int p1), .val (.int p2), .val (.int p3), .val (.int p4), .val (.int p5), .val (.int (3 : Int32)), .val (.int off), .val (.ref t221), .val (.ref b222), .val (.ref b225)] [(.int (3 : Int32)), (.int off), (.int (3 : Int32)), (.int (exF (3 : Int32) off (3 : Int32) p1 p2 p3))]))
    refine Go.via (fun _ => XS.iloadN X250.here hx rfl (hb hby at_215) rfl) ?_
    show Go p e below _ (T250.setTop (mkF m 216 #[.val (.int p1), .val (.int p2), .val (.int p3), .val (.int p4), .val (.int p5), .val (.int (3 : Int32)), .val (.int off), .val (.ref t221), .val (.ref b222), .val (.ref b225)] [(.int p1), (.int (3 : Int32)), (.int off), (.int (3 : Int32)), (.int (exF (3 : Int32) off (3 : Int32) p1 p2 p3))]))
    refine Go.via (fun _ => XS.iloadN X250.here hx rfl (hb hby at_216) rfl) ?_
    show Go p e below _ (T250.setTop (mkF m 217 #[.val (.int p1), .val (.int p2), .val (.int p3), .val (.int p4), .val (.int p5), .val (.int (3 : Int32)), .val (.int off), .val (.ref t221), .val (.ref b222), .val (.ref b225)] [(.int p2), (.int p1), (.int (3 : Int32)), (.int off), (.int (3 : Int32)), (.int (exF (3 : Int32) off (3 : Int32) p1 p2 p3))]))
    refine Go.via (fun _ => XS.iloadN X250.here hx rfl (hb hby at_217) rfl) ?_
    show Go p e below _ (T250.setTop (mkF m 218 #[.val (.int p1), .val (.int p2), .val (.int p3), .val (.int p4), .val (.int p5), .val (.int (3 : Int32)), .val (.int off), .val (.ref t221), .val (.ref b222), .val (.ref b225)] [(.int p3), (.int p2), (.int p1), (.int (3 : Int32)), (.int off), (.int (3 : Int32)), (.int (exF (3 : Int32) off (3 : Int32) p1 p2 p3))]))
    obtain ⟨_, _, ⟨T252, L252, k252, n252⟩, -, X252, ⟨Lc252, hQ252, l252, y252, z252⟩, st252⟩ := Jvm.LawKit.callS X250 hx (y := (⟨"com/example/sluice/sluice/processor/FlowFileCopyContentPinLaw", "expected", "(IIIIII)B"⟩ : MethodName)) hown (mvT hZ (hw _ (List.mem_of_getElem? (i := 62) rfl))) (mvT hZ (hw _ (List.mem_of_getElem? (i := 63) rfl))) (mvT hZ (hw _ (List.mem_of_getElem? (i := 3) rfl))) (mvT hZ (hw _ (List.mem_of_getElem? (i := 64) rfl))) (by decide) (backOf (W := 1) (rmEx l Z a0 hw [] (3 : Int32) off (3 : Int32) p1 p2 p3 T242.heap n0 Zs242) hZ (hw _ (List.mem_of_getElem? (i := 64) rfl)) (hw _ (List.mem_of_getElem? (i := 3) rfl)) (by decide) (by decide)) (g := (mkF m 218 #[.val (.int p1), .val (.int p2), .val (.int p3), .val (.int p4), .val (.int p5), .val (.int (3 : Int32)), .val (.int off), .val (.ref t221), .val (.ref b222), .val (.ref b225)] [(.int p3), (.int p2), (.int p1), (.int (3 : Int32)), (.int off), (.int (3 : Int32)), (.int (exF (3 : Int32) off (3 : Int32) p1 p2 p3))])) rfl (by rw [hml]; rfl) (argsL := [(.int (3 : Int32)), (.int off), (.int (3 : Int32)), (.int p1), (.int p2), (.int p3)]) (rest := [(.int (exF (3 : Int32) off (3 : Int32) p1 p2 p3))]) (lenOf pd_9 rfl) rfl (by show 2 * 0 + _ ≤ _; exact Nat.le_of_eq rfl) (hb hby at_218) (fun _ _ => ⟨rfl, e250q, (by decide : 4 + 0 ≤ _), (by decide : 17 + 0 ≤ _)⟩)
    dsimp only [Pt.U, Pt.locs, Pt.cells, Pt.slots] at X252 l252 y252 z252 st252 hQ252
    rw [l252, y252, z252] at X252
    replace X252 : Stand p l e _ _ m _ below meth c T252 _ 4 17 := X252
    obtain ⟨rfl, N252q, e252q⟩ := hQ252
    have N252 := Fr.app N250 N252q
    refine Go.via st252 ?_
    show Go p e below _ (T252.setTop (mkF m 221 #[.val (.int p1), .val (.int p2), .val (.int p3), .val (.int p4), .val (.int p5), .val (.int (3 : Int32)), .val (.int off), .val (.ref t221), .val (.ref b222), .val (.ref b225)] [(.int (exF (3 : Int32) off (3 : Int32) p1 p2 p3)), (.int (exF (3 : Int32) off (3 : Int32) p1 p2 p3))]))
    refine Go.via (fun _ => XS.icmpNo X252.here hx rfl (hb hby at_221) rfl (teq rfl).2) ?_
    show Go p e below _ (T252.setTop (mkF m 224 #[.val (.int p1), .val (.int p2), .val (.int p3), .val (.int p4), .val (.int p5), .val (.int (3 : Int32)), .val (.int off), .val (.ref t221), .val (.ref b222), .val (.ref b225)] []))
    refine Go.via (fun _ => XS.aload X252.here hx rfl (hb hby at_224) rfl rfl) ?_
    show Go p e below _ (T252.setTop (mkF m 226 #[.val (.int p1), .val (.int p2), .val (.int p3), .val (.int p4), .val (.int p5), .val (.int (3 : Int32)), .val (.int off), .val (.ref t221), .val (.ref b222), .val (.ref b225)] [(.ref b225)]))
    refine Go.via (fun _ => XS.iconst X252.here hx rfl (hb hby at_226)) ?_
    show Go p e below _ (T252.setTop (mkF m 227 #[.val (.int p1), .val (.int p2), .val (.int p3), .val (.int p4), .val (.int p5), .val (.int (3 : Int32)), .val (.int off), .val (.ref t221), .val (.ref b222), .val (.ref b225)] [(.int (4 : Int32)), (.ref b225)]))
    obtain ⟨cl253, Ar253, q253, S253, N253n, H253, G253⟩ := id vb242
    have hin253 := inb_of (j := (4 : Int32)) S253 (by decide)
    have hat253 : cl253.slots[((4 : Int32) : Int32).toNatClampNeg]? = some (.int (exF (4 : Int32) off (3 : Int32) p1 p2 p3)) := H253.at hin253 rfl
    refine Go.via (X252.baloadBytes hx (j := (4 : Int32)) (v := (.int (exF (4 : Int32) off (3 : Int32) p1 p2 p3))) (by rw [e252q]; exact Ar253.1) (State.isArrayOf_alike hZ.alike Ar253.2.1) Ar253.2.2 hin253 hat253 (g := (mkF m 227 #[.val (.int p1), .val (.int p2), .val (.int p3), .val (.int p4), .val (.int p5), .val (.int (3 : Int32)), .val (.int off), .val (.ref t221), .val (.ref b222), .val (.ref b225)] [(.int (4 : Int32)), (.ref b225)])) rfl rfl (hb hby at_227)) ?_
    show Go p e below _ (T252.setTop (mkF m 228 #[.val (.int p1), .val (.int p2), .val (.int p3), .val (.int p4), .val (.int p5), .val (.int (3 : Int32)), .val (.int off), .val (.ref t221), .val (.ref b222), .val (.ref b225)] [(.int (exF (4 : Int32) off (3 : Int32) p1 p2 p3))]))
    refine Go.via (fun _ => XS.iconst X252.here hx rfl (hb hby at_228)) ?_
    show Go p e below _ (T252.setTop (mkF m 229 #[.val (.int p1), .val (.int p2), .val (.int p3), .val (.int p4), .val (.int p5), .val (.int (3 : Int32)), .val (.int off), .val (.ref t221), .val (.ref b222), .val (.ref b225)] [(.int (4 : Int32)), (.int (exF (4 : Int32) off (3 : Int32) p1 p2 p3))]))
    refine Go.via (fun _ => XS.iload X252.here hx rfl (hb hby at_229) rfl) ?_
    show Go p e below _ (T252.setTop (mkF m 231 #[.val (.int p1), .val (.int p2), .val (.int p3), .val (.int p4), .val (.int p5), .val (.int (3 : Int32)), .val (.int off), .val (.ref t221), .val (.ref b222), .val (.ref b225)] [(.int off), (.int (4 : Int32)), (.int (exF (4 : Int32) off (3 : Int32) p1 p2 p3))]))
    refine Go.via (fun _ => XS.iload X252.here hx rfl (hb hby at_231) rfl) ?_
    show Go p e below _ (T252.setTop (mkF m 233 #[.val (.int p1), .val (.int p2), .val (.int p3), .val (.int p4), .val (.int p5), .val (.int (3 : Int32)), .val (.int off), .val (.ref t221), .val (.ref b222), .val (.ref b225)] [(.int (3 : Int32)), (.int off), (.int (4 : Int32)), (.int (exF (4 : Int32) off (3 : Int32) p1 p2 p3))]))
    refine Go.via (fun _ => XS.iloadN X252.here hx rfl (hb hby at_233) rfl) ?_
    show Go p e below _ (T252.setTop (mkF m 234 #[.val (.int p1), .val (.int p2), .val (.int p3), .val (.int p4), .val (.int p5), .val (.int (3 : Int32)), .val (.int off), .val (.ref t221), .val (.ref b222), .val (.ref b225)] [(.int p1), (.int (3 : Int32)), (.int off), (.int (4 : Int32)), (.int (exF (4 : Int32) off (3 : Int32) p1 p2 p3))]))
    refine Go.via (fun _ => XS.iloadN X252.here hx rfl (hb hby at_234) rfl) ?_
    show Go p e below _ (T252.setTop (mkF m 235 #[.val (.int p1), .val (.int p2), .val (.int p3), .val (.int p4), .val (.int p5), .val (.int (3 : Int32)), .val (.int off), .val (.ref t221), .val (.ref b222), .val (.ref b225)] [(.int p2), (.int p1), (.int (3 : Int32)), (.int off), (.int (4 : Int32)), (.int (exF (4 : Int32) off (3 : Int32) p1 p2 p3))]))
    refine Go.via (fun _ => XS.iloadN X252.here hx rfl (hb hby at_235) rfl) ?_
    show Go p e below _ (T252.setTop (mkF m 236 #[.val (.int p1), .val (.int p2), .val (.int p3), .val (.int p4), .val (.int p5), .val (.int (3 : Int32)), .val (.int off), .val (.ref t221), .val (.ref b222), .val (.ref b225)] [(.int p3), (.int p2), (.int p1), (.int (3 : Int32)), (.int off), (.int (4 : Int32)), (.int (exF (4 : Int32) off (3 : Int32) p1 p2 p3))]))
    obtain ⟨_, _, ⟨T254, L254, k254, n254⟩, -, X254, ⟨Lc254, hQ254, l254, y254, z254⟩, st254⟩ := Jvm.LawKit.callS X252 hx (y := (⟨"com/example/sluice/sluice/processor/FlowFileCopyContentPinLaw", "expected", "(IIIIII)B"⟩ : MethodName)) hown (mvT hZ (hw _ (List.mem_of_getElem? (i := 62) rfl))) (mvT hZ (hw _ (List.mem_of_getElem? (i := 63) rfl))) (mvT hZ (hw _ (List.mem_of_getElem? (i := 3) rfl))) (mvT hZ (hw _ (List.mem_of_getElem? (i := 64) rfl))) (by decide) (backOf (W := 1) (rmEx l Z a0 hw [] (4 : Int32) off (3 : Int32) p1 p2 p3 T242.heap n0 Zs242) hZ (hw _ (List.mem_of_getElem? (i := 64) rfl)) (hw _ (List.mem_of_getElem? (i := 3) rfl)) (by decide) (by decide)) (g := (mkF m 236 #[.val (.int p1), .val (.int p2), .val (.int p3), .val (.int p4), .val (.int p5), .val (.int (3 : Int32)), .val (.int off), .val (.ref t221), .val (.ref b222), .val (.ref b225)] [(.int p3), (.int p2), (.int p1), (.int (3 : Int32)), (.int off), (.int (4 : Int32)), (.int (exF (4 : Int32) off (3 : Int32) p1 p2 p3))])) rfl (by rw [hml]; rfl) (argsL := [(.int (4 : Int32)), (.int off), (.int (3 : Int32)), (.int p1), (.int p2), (.int p3)]) (rest := [(.int (exF (4 : Int32) off (3 : Int32) p1 p2 p3))]) (lenOf pd_9 rfl) rfl (by show 2 * 0 + _ ≤ _; exact Nat.le_of_eq rfl) (hb hby at_236) (fun _ _ => ⟨rfl, e252q, (by decide : 4 + 0 ≤ _), (by decide : 17 + 0 ≤ _)⟩)
    dsimp only [Pt.U, Pt.locs, Pt.cells, Pt.slots] at X254 l254 y254 z254 st254 hQ254
    rw [l254, y254, z254] at X254
    replace X254 : Stand p l e _ _ m _ below meth c T254 _ 4 17 := X254
    obtain ⟨rfl, N254q, e254q⟩ := hQ254
    have N254 := Fr.app N252 N254q
    refine Go.via st254 ?_
    show Go p e below _ (T254.setTop (mkF m 239 #[.val (.int p1), .val (.int p2), .val (.int p3), .val (.int p4), .val (.int p5), .val (.int (3 : Int32)), .val (.int off), .val (.ref t221), .val (.ref b222), .val (.ref b225)] [(.int (exF (4 : Int32) off (3 : Int32) p1 p2 p3)), (.int (exF (4 : Int32) off (3 : Int32) p1 p2 p3))]))
    refine Go.via (fun _ => XS.icmpNo X254.here hx rfl (hb hby at_239) rfl (teq rfl).2) ?_
    show Go p e below _ (T254.setTop (mkF m 242 #[.val (.int p1), .val (.int p2), .val (.int p3), .val (.int p4), .val (.int p5), .val (.int (3 : Int32)), .val (.int off), .val (.ref t221), .val (.ref b222), .val (.ref b225)] []))
    refine Go.via (fun _ => XS.aload X254.here hx rfl (hb hby at_242) rfl rfl) ?_
    show Go p e below _ (T254.setTop (mkF m 244 #[.val (.int p1), .val (.int p2), .val (.int p3), .val (.int p4), .val (.int p5), .val (.int (3 : Int32)), .val (.int off), .val (.ref t221), .val (.ref b222), .val (.ref b225)] [(.ref b225)]))
    refine Go.via (fun _ => XS.iconst X254.here hx rfl (hb hby at_244)) ?_
    show Go p e below _ (T254.setTop (mkF m 245 #[.val (.int p1), .val (.int p2), .val (.int p3), .val (.int p4), .val (.int p5), .val (.int (3 : Int32)), .val (.int off), .val (.ref t221), .val (.ref b222), .val (.ref b225)] [(.int (5 : Int32)), (.ref b225)]))
    obtain ⟨cl255, Ar255, q255, S255, N255n, H255, G255⟩ := id vb242
    have hin255 := inb_of (j := (5 : Int32)) S255 (by decide)
    have hat255 : cl255.slots[((5 : Int32) : Int32).toNatClampNeg]? = some (.int (exF (5 : Int32) off (3 : Int32) p1 p2 p3)) := H255.at hin255 rfl
    refine Go.via (X254.baloadBytes hx (j := (5 : Int32)) (v := (.int (exF (5 : Int32) off (3 : Int32) p1 p2 p3))) (by rw [e254q]; exact Ar255.1) (State.isArrayOf_alike hZ.alike Ar255.2.1) Ar255.2.2 hin255 hat255 (g := (mkF m 245 #[.val (.int p1), .val (.int p2), .val (.int p3), .val (.int p4), .val (.int p5), .val (.int (3 : Int32)), .val (.int off), .val (.ref t221), .val (.ref b222), .val (.ref b225)] [(.int (5 : Int32)), (.ref b225)])) rfl rfl (hb hby at_245)) ?_
    show Go p e below _ (T254.setTop (mkF m 246 #[.val (.int p1), .val (.int p2), .val (.int p3), .val (.int p4), .val (.int p5), .val (.int (3 : Int32)), .val (.int off), .val (.ref t221), .val (.ref b222), .val (.ref b225)] [(.int (exF (5 : Int32) off (3 : Int32) p1 p2 p3))]))
    refine Go.via (fun _ => XS.iconst X254.here hx rfl (hb hby at_246)) ?_
    show Go p e below _ (T254.setTop (mkF m 247 #[.val (.int p1), .val (.int p2), .val (.int p3), .val (.int p4), .val (.int p5), .val (.int (3 : Int32)), .val (.int off), .val (.ref t221), .val (.ref b222), .val (.ref b225)] [(.int (5 : Int32)), (.int (exF (5 : Int32) off (3 : Int32) p1 p2 p3))]))
    refine Go.via (fun _ => XS.iload X254.here hx rfl (hb hby at_247) rfl) ?_
    show Go p e below _ (T254.setTop (mkF m 249 #[.val (.int p1), .val (.int p2), .val (.int p3), .val (.int p4), .val (.int p5), .val (.int (3 : Int32)), .val (.int off), .val (.ref t221), .val (.ref b222), .val (.ref b225)] [(.int off), (.int (5 : Int32)), (.int (exF (5 : Int32) off (3 : Int32) p1 p2 p3))]))
    refine Go.via (fun _ => XS.iload X254.here hx rfl (hb hby at_249) rfl) ?_
    show Go p e below _ (T254.setTop (mkF m 251 #[.val (.int p1), .val (.int p2), .val (.int p3), .val (.int p4), .val (.int p5), .val (.int (3 : Int32)), .val (.int off), .val (.ref t221), .val (.ref b222), .val (.ref b225)] [(.int (3 : Int32)), (.int off), (.int (5 : Int32)), (.int (exF (5 : Int32) off (3 : Int32) p1 p2 p3))]))
    refine Go.via (fun _ => XS.iloadN X254.here hx rfl (hb hby at_251) rfl) ?_
    show Go p e below _ (T254.setTop (mkF m 252 #[.val (.int p1), .val (.int p2), .val (.int p3), .val (.int p4), .val (.int p5), .val (.int (3 : Int32)), .val (.int off), .val (.ref t221), .val (.ref b222), .val (.ref b225)] [(.int p1), (.int (3 : Int32)), (.int off), (.int (5 : Int32)), (.int (exF (5 : Int32) off (3 : Int32) p1 p2 p3))]))
    refine Go.via (fun _ => XS.iloadN X254.here hx rfl (hb hby at_252) rfl) ?_
    show Go p e below _ (T254.setTop (mkF m 253 #[.val (.int p1), .val (.int p2), .val (.int p3), .val (.int p4), .val (.int p5), .val (.int (3 : Int32)), .val (.int off), .val (.ref t221), .val (.ref b222), .val (.ref b225)] [(.int p2), (.int p1), (.int (3 : Int32)), (.int off), (.int (5 : Int32)), (.int (exF (5 : Int32) off (3 : Int32) p1 p2 p3))]))
    refine Go.via (fun _ => XS.iloadN X254.here hx rfl (hb hby at_253) rfl) ?_
    show Go p e below _ (T254.setTop (mkF m 254 #[.val (.int p1), .val (.int p2), .val (.int p3), .val (.int p4), .val (.int p5), .val (.int (3 : Int32)), .val (.int off), .val (.ref t221), .val (.ref b222), .val (.ref b225)] [(.int p3), (.int p2), (.int p1), (.int (3 : Int32)), (.int off), (.int (5 : Int32)), (.int (exF (5 : Int32) off (3 : Int32) p1 p2 p3))]))
    obtain ⟨_, _, ⟨T256, L256, k256, n256⟩, -, X256, ⟨Lc256, hQ256, l256, y256, z256⟩, st256⟩ := Jvm.LawKit.callS X254 hx (y := (⟨"com/example/sluice/sluice/processor/FlowFileCopyContentPinLaw", "expected", "(IIIIII)B"⟩ : MethodName)) hown (mvT hZ (hw _ (List.mem_of_getElem? (i := 62) rfl))) (mvT hZ (hw _ (List.mem_of_getElem? (i := 63) rfl))) (mvT hZ (hw _ (List.mem_of_getElem? (i := 3) rfl))) (mvT hZ (hw _ (List.mem_of_getElem? (i := 64) rfl))) (by decide) (backOf (W := 1) (rmEx l Z a0 hw [] (5 : Int32) off (3 : Int32) p1 p2 p3 T242.heap n0 Zs242) hZ (hw _ (List.mem_of_getElem? (i := 64) rfl)) (hw _ (List.mem_of_getElem? (i := 3) rfl)) (by decide) (by decide)) (g := (mkF m 254 #[.val (.int p1), .val (.int p2), .val (.int p3), .val (.int p4), .val (.int p5), .val (.int (3 : Int32)), .val (.int off), .val (.ref t221), .val (.ref b222), .val (.ref b225)] [(.int p3), (.int p2), (.int p1), (.int (3 : Int32)), (.int off), (.int (5 : Int32)), (.int (exF (5 : Int32) off (3 : Int32) p1 p2 p3))])) rfl (by rw [hml]; rfl) (argsL := [(.int (5 : Int32)), (.int off), (.int (3 : Int32)), (.int p1), (.int p2), (.int p3)]) (rest := [(.int (exF (5 : Int32) off (3 : Int32) p1 p2 p3))]) (lenOf pd_9 rfl) rfl (by show 2 * 0 + _ ≤ _; exact Nat.le_of_eq rfl) (hb hby at_254) (fun _ _ => ⟨rfl, e254q, (by decide : 4 + 0 ≤ _), (by decide : 17 + 0 ≤ _)⟩)
    dsimp only [Pt.U, Pt.locs, Pt.cells, Pt.slots] at X256 l256 y256 z256 st256 hQ256
    rw [l256, y256, z256] at X256
    replace X256 : Stand p l e _ _ m _ below meth c T256 _ 4 17 := X256
    obtain ⟨rfl, N256q, e256q⟩ := hQ256
    have N256 := Fr.app N254 N256q
    refine Go.via st256 ?_
    show Go p e below _ (T256.setTop (mkF m 257 #[.val (.int p1), .val (.int p2), .val (.int p3), .val (.int p4), .val (.int p5), .val (.int (3 : Int32)), .val (.int off), .val (.ref t221), .val (.ref b222), .val (.ref b225)] [(.int (exF (5 : Int32) off (3 : Int32) p1 p2 p3)), (.int (exF (5 : Int32) off (3 : Int32) p1 p2 p3))]))
    refine Go.via (fun _ => XS.icmpNo X256.here hx rfl (hb hby at_257) rfl (teq rfl).2) ?_
    show Go p e below _ (T256.setTop (mkF m 260 #[.val (.int p1), .val (.int p2), .val (.int p3), .val (.int p4), .val (.int p5), .val (.int (3 : Int32)), .val (.int off), .val (.ref t221), .val (.ref b222), .val (.ref b225)] []))
    refine Go.via (fun _ => XS.aload X256.here hx rfl (hb hby at_260) rfl rfl) ?_
    show Go p e below _ (T256.setTop (mkF m 262 #[.val (.int p1), .val (.int p2), .val (.int p3), .val (.int p4), .val (.int p5), .val (.int (3 : Int32)), .val (.int off), .val (.ref t221), .val (.ref b222), .val (.ref b225)] [(.ref b225)]))
    refine Go.via (fun _ => XS.bipush X256.here hx rfl (hb hby at_262)) ?_
    show Go p e below _ (T256.setTop (mkF m 264 #[.val (.int p1), .val (.int p2), .val (.int p3), .val (.int p4), .val (.int p5), .val (.int (3 : Int32)), .val (.int off), .val (.ref t221), .val (.ref b222), .val (.ref b225)] [(.int (6 : Int32)), (.ref b225)]))
    obtain ⟨cl257, Ar257, q257, S257, N257n, H257, G257⟩ := id vb242
    have hin257 := inb_of (j := (6 : Int32)) S257 (by decide)
    have hat257 : cl257.slots[((6 : Int32) : Int32).toNatClampNeg]? = some (.int (exF (6 : Int32) off (3 : Int32) p1 p2 p3)) := H257.at hin257 rfl
    refine Go.via (X256.baloadBytes hx (j := (6 : Int32)) (v := (.int (exF (6 : Int32) off (3 : Int32) p1 p2 p3))) (by rw [e256q]; exact Ar257.1) (State.isArrayOf_alike hZ.alike Ar257.2.1) Ar257.2.2 hin257 hat257 (g := (mkF m 264 #[.val (.int p1), .val (.int p2), .val (.int p3), .val (.int p4), .val (.int p5), .val (.int (3 : Int32)), .val (.int off), .val (.ref t221), .val (.ref b222), .val (.ref b225)] [(.int (6 : Int32)), (.ref b225)])) rfl rfl (hb hby at_264)) ?_
    show Go p e below _ (T256.setTop (mkF m 265 #[.val (.int p1), .val (.int p2), .val (.int p3), .val (.int p4), .val (.int p5), .val (.int (3 : Int32)), .val (.int off), .val (.ref t221), .val (.ref b222), .val (.ref b225)] [(.int (exF (6 : Int32) off (3 : Int32) p1 p2 p3))]))
    refine Go.via (fun _ => XS.bipush X256.here hx rfl (hb hby at_265)) ?_
    show Go p e below _ (T256.setTop (mkF m 267 #[.val (.int p1), .val (.int p2), .val (.int p3), .val (.int p4), .val (.int p5), .val (.int (3 : Int32)), .val (.int off), .val (.ref t221), .val (.ref b222), .val (.ref b225)] [(.int (6 : Int32)), (.int (exF (6 : Int32) off (3 : Int32) p1 p2 p3))]))
    refine Go.via (fun _ => XS.iload X256.here hx rfl (hb hby at_267) rfl) ?_
    show Go p e below _ (T256.setTop (mkF m 269 #[.val (.int p1), .val (.int p2), .val (.int p3), .val (.int p4), .val (.int p5), .val (.int (3 : Int32)), .val (.int off), .val (.ref t221), .val (.ref b222), .val (.ref b225)] [(.int off), (.int (6 : Int32)), (.int (exF (6 : Int32) off (3 : Int32) p1 p2 p3))]))
    refine Go.via (fun _ => XS.iload X256.here hx rfl (hb hby at_269) rfl) ?_
    show Go p e below _ (T256.setTop (mkF m 271 #[.val (.int p1), .val (.int p2), .val (.int p3), .val (.int p4), .val (.int p5), .val (.int (3 : Int32)), .val (.int off), .val (.ref t221), .val (.ref b222), .val (.ref b225)] [(.int (3 : Int32)), (.int off), (.int (6 : Int32)), (.int (exF (6 : Int32) off (3 : Int32) p1 p2 p3))]))
    refine Go.via (fun _ => XS.iloadN X256.here hx rfl (hb hby at_271) rfl) ?_
    show Go p e below _ (T256.setTop (mkF m 272 #[.val (.int p1), .val (.int p2), .val (.int p3), .val (.int p4), .val (.int p5), .val (.int (3 : Int32)), .val (.int off), .val (.ref t221), .val (.ref b222), .val (.ref b225)] [(.int p1), (.int (3 : Int32)), (.int off), (.int (6 : Int32)), (.int (exF (6 : Int32) off (3 : Int32) p1 p2 p3))]))
    refine Go.via (fun _ => XS.iloadN X256.here hx rfl (hb hby at_272) rfl) ?_
    show Go p e below _ (T256.setTop (mkF m 273 #[.val (.int p1), .val (.int p2), .val (.int p3), .val (.int p4), .val (.int p5), .val (.int (3 : Int32)), .val (.int off), .val (.ref t221), .val (.ref b222), .val (.ref b225)] [(.int p2), (.int p1), (.int (3 : Int32)), (.int off), (.int (6 : Int32)), (.int (exF (6 : Int32) off (3 : Int32) p1 p2 p3))]))
    refine Go.via (fun _ => XS.iloadN X256.here hx rfl (hb hby at_273) rfl) ?_
    show Go p e below _ (T256.setTop (mkF m 274 #[.val (.int p1), .val (.int p2), .val (.int p3), .val (.int p4), .val (.int p5), .val (.int (3 : Int32)), .val (.int off), .val (.ref t221), .val (.ref b222), .val (.ref b225)] [(.int p3), (.int p2), (.int p1), (.int (3 : Int32)), (.int off), (.int (6 : Int32)), (.int (exF (6 : Int32) off (3 : Int32) p1 p2 p3))]))
    obtain ⟨_, _, ⟨T258, L258, k258, n258⟩, -, X258, ⟨Lc258, hQ258, l258, y258, z258⟩, st258⟩ := Jvm.LawKit.callS X256 hx (y := (⟨"com/example/sluice/sluice/processor/FlowFileCopyContentPinLaw", "expected", "(IIIIII)B"⟩ : MethodName)) hown (mvT hZ (hw _ (List.mem_of_getElem? (i := 62) rfl))) (mvT hZ (hw _ (List.mem_of_getElem? (i := 63) rfl))) (mvT hZ (hw _ (List.mem_of_getElem? (i := 3) rfl))) (mvT hZ (hw _ (List.mem_of_getElem? (i := 64) rfl))) (by decide) (backOf (W := 1) (rmEx l Z a0 hw [] (6 : Int32) off (3 : Int32) p1 p2 p3 T242.heap n0 Zs242) hZ (hw _ (List.mem_of_getElem? (i := 64) rfl)) (hw _ (List.mem_of_getElem? (i := 3) rfl)) (by decide) (by decide)) (g := (mkF m 274 #[.val (.int p1), .val (.int p2), .val (.int p3), .val (.int p4), .val (.int p5), .val (.int (3 : Int32)), .val (.int off), .val (.ref t221), .val (.ref b222), .val (.ref b225)] [(.int p3), (.int p2), (.int p1), (.int (3 : Int32)), (.int off), (.int (6 : Int32)), (.int (exF (6 : Int32) off (3 : Int32) p1 p2 p3))])) rfl (by rw [hml]; rfl) (argsL := [(.int (6 : Int32)), (.int off), (.int (3 : Int32)), (.int p1), (.int p2), (.int p3)]) (rest := [(.int (exF (6 : Int32) off (3 : Int32) p1 p2 p3))]) (lenOf pd_9 rfl) rfl (by show 2 * 0 + _ ≤ _; exact Nat.le_of_eq rfl) (hb hby at_274) (fun _ _ => ⟨rfl, e256q, (by decide : 4 + 0 ≤ _), (by decide : 17 + 0 ≤ _)⟩)
    dsimp only [Pt.U, Pt.locs, Pt.cells, Pt.slots] at X258 l258 y258 z258 st258 hQ258
    rw [l258, y258, z258] at X258
    replace X258 : Stand p l e _ _ m _ below meth c T258 _ 4 17 := X258
    obtain ⟨rfl, N258q, e258q⟩ := hQ258
    have N258 := Fr.app N256 N258q
    refine Go.via st258 ?_
    show Go p e below _ (T258.setTop (mkF m 277 #[.val (.int p1), .val (.int p2), .val (.int p3), .val (.int p4), .val (.int p5), .val (.int (3 : Int32)), .val (.int off), .val (.ref t221), .val (.ref b222), .val (.ref b225)] [(.int (exF (6 : Int32) off (3 : Int32) p1 p2 p3)), (.int (exF (6 : Int32) off (3 : Int32) p1 p2 p3))]))
    refine Go.via (fun _ => XS.icmpNo X258.here hx rfl (hb hby at_277) rfl (teq rfl).2) ?_
    show Go p e below _ (T258.setTop (mkF m 280 #[.val (.int p1), .val (.int p2), .val (.int p3), .val (.int p4), .val (.int p5), .val (.int (3 : Int32)), .val (.int off), .val (.ref t221), .val (.ref b222), .val (.ref b225)] []))
    refine Go.via (fun _ => XS.aload X258.here hx rfl (hb hby at_280) rfl rfl) ?_
    show Go p e below _ (T258.setTop (mkF m 282 #[.val (.int p1), .val (.int p2), .val (.int p3), .val (.int p4), .val (.int p5), .val (.int (3 : Int32)), .val (.int off), .val (.ref t221), .val (.ref b222), .val (.ref b225)] [(.ref b225)]))
    refine Go.via (fun _ => XS.bipush X258.here hx rfl (hb hby at_282)) ?_
    show Go p e below _ (T258.setTop (mkF m 284 #[.val (.int p1), .val (.int p2), .val (.int p3), .val (.int p4), .val (.int p5), .val (.int (3 : Int32)), .val (.int off), .val (.ref t221), .val (.ref b222), .val (.ref b225)] [(.int (7 : Int32)), (.ref b225)]))
    obtain ⟨cl259, Ar259, q259, S259, N259n, H259, G259⟩ := id vb242
    have hin259 := inb_of (j := (7 : Int32)) S259 (by decide)
    have hat259 : cl259.slots[((7 : Int32) : Int32).toNatClampNeg]? = some (.int (exF (7 : Int32) off (3 : Int32) p1 p2 p3)) := H259.at hin259 rfl
    refine Go.via (X258.baloadBytes hx (j := (7 : Int32)) (v := (.int (exF (7 : Int32) off (3 : Int32) p1 p2 p3))) (by rw [e258q]; exact Ar259.1) (State.isArrayOf_alike hZ.alike Ar259.2.1) Ar259.2.2 hin259 hat259 (g := (mkF m 284 #[.val (.int p1), .val (.int p2), .val (.int p3), .val (.int p4), .val (.int p5), .val (.int (3 : Int32)), .val (.int off), .val (.ref t221), .val (.ref b222), .val (.ref b225)] [(.int (7 : Int32)), (.ref b225)])) rfl rfl (hb hby at_284)) ?_
    show Go p e below _ (T258.setTop (mkF m 285 #[.val (.int p1), .val (.int p2), .val (.int p3), .val (.int p4), .val (.int p5), .val (.int (3 : Int32)), .val (.int off), .val (.ref t221), .val (.ref b222), .val (.ref b225)] [(.int (exF (7 : Int32) off (3 : Int32) p1 p2 p3))]))
    refine Go.via (fun _ => XS.bipush X258.here hx rfl (hb hby at_285)) ?_
    show Go p e below _ (T258.setTop (mkF m 287 #[.val (.int p1), .val (.int p2), .val (.int p3), .val (.int p4), .val (.int p5), .val (.int (3 : Int32)), .val (.int off), .val (.ref t221), .val (.ref b222), .val (.ref b225)] [(.int (7 : Int32)), (.int (exF (7 : Int32) off (3 : Int32) p1 p2 p3))]))
    refine Go.via (fun _ => XS.iload X258.here hx rfl (hb hby at_287) rfl) ?_
    show Go p e below _ (T258.setTop (mkF m 289 #[.val (.int p1), .val (.int p2), .val (.int p3), .val (.int p4), .val (.int p5), .val (.int (3 : Int32)), .val (.int off), .val (.ref t221), .val (.ref b222), .val (.ref b225)] [(.int off), (.int (7 : Int32)), (.int (exF (7 : Int32) off (3 : Int32) p1 p2 p3))]))
    refine Go.via (fun _ => XS.iload X258.here hx rfl (hb hby at_289) rfl) ?_
    show Go p e below _ (T258.setTop (mkF m 291 #[.val (.int p1), .val (.int p2), .val (.int p3), .val (.int p4), .val (.int p5), .val (.int (3 : Int32)), .val (.int off), .val (.ref t221), .val (.ref b222), .val (.ref b225)] [(.int (3 : Int32)), (.int off), (.int (7 : Int32)), (.int (exF (7 : Int32) off (3 : Int32) p1 p2 p3))]))
    refine Go.via (fun _ => XS.iloadN X258.here hx rfl (hb hby at_291) rfl) ?_
    show Go p e below _ (T258.setTop (mkF m 292 #[.val (.int p1), .val (.int p2), .val (.int p3), .val (.int p4), .val (.int p5), .val (.int (3 : Int32)), .val (.int off), .val (.ref t221), .val (.ref b222), .val (.ref b225)] [(.int p1), (.int (3 : Int32)), (.int off), (.int (7 : Int32)), (.int (exF (7 : Int32) off (3 : Int32) p1 p2 p3))]))
    refine Go.via (fun _ => XS.iloadN X258.here hx rfl (hb hby at_292) rfl) ?_
    show Go p e below _ (T258.setTop (mkF m 293 #[.val (.int p1), .val (.int p2), .val (.int p3), .val (.int p4), .val (.int p5), .val (.int (3 : Int32)), .val (.int off), .val (.ref t221), .val (.ref b222), .val (.ref b225)] [(.int p2), (.int p1), (.int (3 : Int32)), (.int off), (.int (7 : Int32)), (.int (exF (7 : Int32) off (3 : Int32) p1 p2 p3))]))
    refine Go.via (fun _ => XS.iloadN X258.here hx rfl (hb hby at_293) rfl) ?_
    show Go p e below _ (T258.setTop (mkF m 294 #[.val (.int p1), .val (.int p2), .val (.int p3), .val (.int p4), .val (.int p5), .val (.int (3 : Int32)), .val (.int off), .val (.ref t221), .val (.ref b222), .val (.ref b225)] [(.int p3), (.int p2), (.int p1), (.int (3 : Int32)), (.int off), (.int (7 : Int32)), (.int (exF (7 : Int32) off (3 : Int32) p1 p2 p3))]))
    obtain ⟨_, _, ⟨T260, L260, k260, n260⟩, -, X260, ⟨Lc260, hQ260, l260, y260, z260⟩, st260⟩ := Jvm.LawKit.callS X258 hx (y := (⟨"com/example/sluice/sluice/processor/FlowFileCopyContentPinLaw", "expected", "(IIIIII)B"⟩ : MethodName)) hown (mvT hZ (hw _ (List.mem_of_getElem? (i := 62) rfl))) (mvT hZ (hw _ (List.mem_of_getElem? (i := 63) rfl))) (mvT hZ (hw _ (List.mem_of_getElem? (i := 3) rfl))) (mvT hZ (hw _ (List.mem_of_getElem? (i := 64) rfl))) (by decide) (backOf (W := 1) (rmEx l Z a0 hw [] (7 : Int32) off (3 : Int32) p1 p2 p3 T242.heap n0 Zs242) hZ (hw _ (List.mem_of_getElem? (i := 64) rfl)) (hw _ (List.mem_of_getElem? (i := 3) rfl)) (by decide) (by decide)) (g := (mkF m 294 #[.val (.int p1), .val (.int p2), .val (.int p3), .val (.int p4), .val (.int p5), .val (.int (3 : Int32)), .val (.int off), .val (.ref t221), .val (.ref b222), .val (.ref b225)] [(.int p3), (.int p2), (.int p1), (.int (3 : Int32)), (.int off), (.int (7 : Int32)), (.int (exF (7 : Int32) off (3 : Int32) p1 p2 p3))])) rfl (by rw [hml]; rfl) (argsL := [(.int (7 : Int32)), (.int off), (.int (3 : Int32)), (.int p1), (.int p2), (.int p3)]) (rest := [(.int (exF (7 : Int32) off (3 : Int32) p1 p2 p3))]) (lenOf pd_9 rfl) rfl (by show 2 * 0 + _ ≤ _; exact Nat.le_of_eq rfl) (hb hby at_294) (fun _ _ => ⟨rfl, e258q, (by decide : 4 + 0 ≤ _), (by decide : 17 + 0 ≤ _)⟩)
    dsimp only [Pt.U, Pt.locs, Pt.cells, Pt.slots] at X260 l260 y260 z260 st260 hQ260
    rw [l260, y260, z260] at X260
    replace X260 : Stand p l e _ _ m _ below meth c T260 _ 4 17 := X260
    obtain ⟨rfl, N260q, e260q⟩ := hQ260
    have N260 := Fr.app N258 N260q
    refine Go.via st260 ?_
    show Go p e below _ (T260.setTop (mkF m 297 #[.val (.int p1), .val (.int p2), .val (.int p3), .val (.int p4), .val (.int p5), .val (.int (3 : Int32)), .val (.int off), .val (.ref t221), .val (.ref b222), .val (.ref b225)] [(.int (exF (7 : Int32) off (3 : Int32) p1 p2 p3)), (.int (exF (7 : Int32) off (3 : Int32) p1 p2 p3))]))
    refine Go.via (fun _ => XS.icmpNo X260.here hx rfl (hb hby at_297) rfl (teq rfl).2) ?_
    show Go p e below _ (T260.setTop (mkF m 300 #[.val (.int p1), .val (.int p2), .val (.int p3), .val (.int p4), .val (.int p5), .val (.int (3 : Int32)), .val (.int off), .val (.ref t221), .val (.ref b222), .val (.ref b225)] []))
    refine Go.via (fun _ => XS.iconst X260.here hx rfl (hb hby at_300)) ?_
    show Go p e below _ (T260.setTop (mkF m 301 #[.val (.int p1), .val (.int p2), .val (.int p3), .val (.int p4), .val (.int p5), .val (.int (3 : Int32)), .val (.int off), .val (.ref t221), .val (.ref b222), .val (.ref b225)] [(.int (1 : Int32))]))
    refine Go.via (fun _ => XS.goto X260.here hx rfl (pc0 := 301) (pc' := 305) rfl (hb hby at_301) (by decide) (by decide)) ?_
    show Go p e below _ (T260.setTop (mkF m 305 #[.val (.int p1), .val (.int p2), .val (.int p3), .val (.int p4), .val (.int p5), .val (.int (3 : Int32)), .val (.int off), .val (.ref t221), .val (.ref b222), .val (.ref b225)] [(.int (1 : Int32))]))
    exact own_retN X260 hx hlk (t := .boolean) Bd.returns (by simp) (hb hby at_305) (by show Q0 Z p1 p2 p3 p4 p5 em h0 n0 _ T260.heap _; rw [e260q]; exact ⟨rfl, N260⟩) (by decide) (by decide)
  ·
    show Go p e below _ (s₁.setTop (mkF m 6 #[.val (.int p1), .val (.int p2), .val (.int p3), .val (.int p4), .val (.int p5), .unset, .unset, .unset, .unset, .unset] [(.int (4 : Int32))]))
    refine Go.via (fun _ => XS.istore X0.here hx rfl (hb hby at_6) rfl (l' := #[.val (.int p1), .val (.int p2), .val (.int p3), .val (.int p4), .val (.int p5), .val (.int (4 : Int32)), .unset, .unset, .unset, .unset]) rfl) ?_
    show Go p e below _ (s₁.setTop (mkF m 8 #[.val (.int p1), .val (.int p2), .val (.int p3), .val (.int p4), .val (.int p5), .val (.int (4 : Int32)), .unset, .unset, .unset, .unset] []))
    refine Go.via (fun _ => XS.iload X0.here hx rfl (hb hby at_8) rfl) ?_
    show Go p e below _ (s₁.setTop (mkF m 10 #[.val (.int p1), .val (.int p2), .val (.int p3), .val (.int p4), .val (.int p5), .val (.int (4 : Int32)), .unset, .unset, .unset, .unset] [(.int p5)]))
    refine Go.via (X0.ldcInt hx hown (mvT hZ (hw _ (List.mem_of_getElem? (i := 0) rfl))) (g := (mkF m 10 #[.val (.int p1), .val (.int p2), .val (.int p3), .val (.int p4), .val (.int p5), .val (.int (4 : Int32)), .unset, .unset, .unset, .unset] [(.int p5)])) rfl (hb hby at_10)) ?_
    show Go p e below _ (s₁.setTop (mkF m 12 #[.val (.int p1), .val (.int p2), .val (.int p3), .val (.int p4), .val (.int p5), .val (.int (4 : Int32)), .unset, .unset, .unset, .unset] [(.int (2147483647 : Int32)), (.int p5)]))
    refine Go.via (fun _ => XS.iand X0.here hx rfl (hb hby at_12) rfl) ?_
    show Go p e below _ (s₁.setTop (mkF m 13 #[.val (.int p1), .val (.int p2), .val (.int p3), .val (.int p4), .val (.int p5), .val (.int (4 : Int32)), .unset, .unset, .unset, .unset] [(.int (p5 &&& (2147483647 : Int32)))]))
    refine Go.via (fun _ => XS.bipush X0.here hx rfl (hb hby at_13)) ?_
    show Go p e below _ (s₁.setTop (mkF m 15 #[.val (.int p1), .val (.int p2), .val (.int p3), .val (.int p4), .val (.int p5), .val (.int (4 : Int32)), .unset, .unset, .unset, .unset] [(.int (9 : Int32)), (.int (p5 &&& (2147483647 : Int32)))]))
    refine Go.via (fun _ => XS.iload X0.here hx rfl (hb hby at_15) rfl) ?_
    show Go p e below _ (s₁.setTop (mkF m 17 #[.val (.int p1), .val (.int p2), .val (.int p3), .val (.int p4), .val (.int p5), .val (.int (4 : Int32)), .unset, .unset, .unset, .unset] [(.int (4 : Int32)), (.int (9 : Int32)), (.int (p5 &&& (2147483647 : Int32)))]))
    refine Go.via (fun _ => XS.isub X0.here hx rfl (hb hby at_17) rfl) ?_
    show Go p e below _ (s₁.setTop (mkF m 18 #[.val (.int p1), .val (.int p2), .val (.int p3), .val (.int p4), .val (.int p5), .val (.int (4 : Int32)), .unset, .unset, .unset, .unset] [(.int (5 : Int32)), (.int (p5 &&& (2147483647 : Int32)))]))
    refine Go.via (fun _ => iremM X0 hx rfl (hb hby at_18) rfl (by decide)) ?_
    show Go p e below _ (s₁.setTop (mkF m 19 #[.val (.int p1), .val (.int p2), .val (.int p3), .val (.int p4), .val (.int p5), .val (.int (4 : Int32)), .unset, .unset, .unset, .unset] [(.int ((p5 &&& (2147483647 : Int32)) % (5 : Int32)))]))
    have hoff := own_off4 p5
    generalize hof : ((p5 &&& (2147483647 : Int32)) % (5 : Int32)) = off at hoff ⊢
    show Go p e below _ (s₁.setTop (mkF m 19 #[.val (.int p1), .val (.int p2), .val (.int p3), .val (.int p4), .val (.int p5), .val (.int (4 : Int32)), .unset, .unset, .unset, .unset] [(.int off)]))
    refine Go.via (fun _ => XS.istore X0.here hx rfl (hb hby at_19) rfl (l' := #[.val (.int p1), .val (.int p2), .val (.int p3), .val (.int p4), .val (.int p5), .val (.int (4 : Int32)), .val (.int off), .unset, .unset, .unset]) rfl) ?_
    show Go p e below _ (s₁.setTop (mkF m 21 #[.val (.int p1), .val (.int p2), .val (.int p3), .val (.int p4), .val (.int p5), .val (.int (4 : Int32)), .val (.int off), .unset, .unset, .unset] []))
    refine Go.via (fun _ => XS.iload X0.here hx rfl (hb hby at_21) rfl) ?_
    show Go p e below _ (s₁.setTop (mkF m 23 #[.val (.int p1), .val (.int p2), .val (.int p3), .val (.int p4), .val (.int p5), .val (.int (4 : Int32)), .val (.int off), .unset, .unset, .unset] [(.int (4 : Int32))]))
    refine Go.via (fun _ => XS.iloadN X0.here hx rfl (hb hby at_23) rfl) ?_
    show Go p e below _ (s₁.setTop (mkF m 24 #[.val (.int p1), .val (.int p2), .val (.int p3), .val (.int p4), .val (.int p5), .val (.int (4 : Int32)), .val (.int off), .unset, .unset, .unset] [(.int p1), (.int (4 : Int32))]))
    obtain ⟨_, _, ⟨T261, L261, k261, n261⟩, -, X261, ⟨Lc261, hQ261, l261, y261, z261⟩, st261⟩ := Jvm.LawKit.callS X0 hx (y := (⟨"com/example/sluice/sluice/processor/FlowFileCopyContentPinLaw", "makeContent", "(II)[B"⟩ : MethodName)) hown (mvT hZ (hw _ (List.mem_of_getElem? (i := 1) rfl))) (mvT hZ (hw _ (List.mem_of_getElem? (i := 2) rfl))) (mvT hZ (hw _ (List.mem_of_getElem? (i := 3) rfl))) (mvT hZ (hw _ (List.mem_of_getElem? (i := 4) rfl))) (by decide) (backOf (W := 0) (rmMk_4 l Z a0 hw [] p1 h0 n0 Z0) hZ (hw _ (List.mem_of_getElem? (i := 4) rfl)) (hw _ (List.mem_of_getElem? (i := 3) rfl)) (by decide) (by decide)) (g := (mkF m 24 #[.val (.int p1), .val (.int p2), .val (.int p3), .val (.int p4), .val (.int p5), .val (.int (4 : Int32)), .val (.int off), .unset, .unset, .unset] [(.int p1), (.int (4 : Int32))])) rfl (by rw [hml]; rfl) (argsL := [(.int (4 : Int32)), (.int p1)]) (rest := []) (lenOf pd_4 rfl) rfl (by show 2 * 0 + _ ≤ _; exact Nat.le_of_eq rfl) (hb hby at_24) (fun _ _ => ⟨rfl, e0, (by decide : 0 + 1 ≤ _), (by decide : 0 + 4 ≤ _)⟩)
    dsimp only [Pt.U, Pt.locs, Pt.cells, Pt.slots] at X261 l261 y261 z261 st261 hQ261
    rw [l261, y261, z261] at X261
    replace X261 : Stand p l e _ _ m _ below meth c T261 _ 1 4 := X261
    obtain ⟨t261, kb261, rfl, N261q, K261q, gt261, et261, va261⟩ := hQ261
    have N261 := Fr.app N0 N261q
    refine Go.via st261 ?_
    have Zs261 : n0 ≤ T261.heap.size := Nat.le_trans Z0 K261q.1
    have O261 : Old Z n0 T261.heap := O0.keep K261q all0
    have g_t261 : n0 ≤ t261 := Nat.le_trans Z0 gt261
    show Go p e below _ (T261.setTop (mkF m 27 #[.val (.int p1), .val (.int p2), .val (.int p3), .val (.int p4), .val (.int p5), .val (.int (4 : Int32)), .val (.int off), .unset, .unset, .unset] [(.ref t261)]))
    refine Go.via (fun _ => XS.astore X261.here hx rfl (hb hby at_27) rfl rfl (l' := #[.val (.int p1), .val (.int p2), .val (.int p3), .val (.int p4), .val (.int p5), .val (.int (4 : Int32)), .val (.int off), .val (.ref t261), .unset, .unset]) rfl) ?_
    show Go p e below _ (T261.setTop (mkF m 29 #[.val (.int p1), .val (.int p2), .val (.int p3), .val (.int p4), .val (.int p5), .val (.int (4 : Int32)), .val (.int off), .val (.ref t261), .unset, .unset] []))
    obtain ⟨T262, h262, X262, e262, E262, A262, D262, -, st262⟩ := newO X261 hx hZ hown (hw _ (List.mem_of_getElem? (i := 9) rfl)) (hw _ (List.mem_of_getElem? (i := 10) rfl)) (hw _ (List.mem_of_getElem? (i := 11) rfl)) rfl (g := (mkF m 29 #[.val (.int p1), .val (.int p2), .val (.int p3), .val (.int p4), .val (.int p5), .val (.int (4 : Int32)), .val (.int off), .val (.ref t261), .unset, .unset] [])) rfl (hb hby at_29) (by decide) (by decide)
    obtain ⟨b262, g262⟩ : ∃ z, z = T261.heap.size := ⟨_, rfl⟩
    rw [← g262] at A262 D262 st262
    have g_b262 : n0 ≤ b262 := Nat.le_trans Zs261 (Nat.le_of_eq g262.symm)
    have ne_t261_b262 : t261 ≠ b262 := Nat.ne_of_lt (Nat.lt_of_lt_of_le et261.lt (Nat.le_of_eq g262.symm))
    refine Go.via st262 ?_
    have Zs262 : n0 ≤ h262.size := Nat.le_trans Zs261 E262.1
    have O262 : Old Z n0 h262 := O261.ext E262
    have fE_t261_262 := et261.ext E262
    have fV_t261_262 := va261.ext E262
    have F_attributes_b262 : Fld Z h262 b262 "com/example/sluice/sluice/processor/FlowFile" "attributes" "Ljava/util/Map;" .null := D262 (Or.inr (hw _ (List.mem_of_getElem? (i := 42) rfl))) (ty := (.object "java/util/Map")) (by decide)
    have F_content_b262 : Fld Z h262 b262 "com/example/sluice/sluice/processor/FlowFile" "content" "[B" .null := D262 (Or.inr (hw _ (List.mem_of_getElem? (i := 44) rfl))) (ty := (.array .byte)) (by decide)
    show Go p e below _ (T262.setTop (mkF m 32 #[.val (.int p1), .val (.int p2), .val (.int p3), .val (.int p4), .val (.int p5), .val (.int (4 : Int32)), .val (.int off), .val (.ref t261), .unset, .unset] [(.ref b262)]))
    refine Go.via (fun _ => XS.dup X262.here hx rfl (hb hby at_32) rfl rfl) ?_
    show Go p e below _ (T262.setTop (mkF m 33 #[.val (.int p1), .val (.int p2), .val (.int p3), .val (.int p4), .val (.int p5), .val (.int (4 : Int32)), .val (.int off), .val (.ref t261), .unset, .unset] [(.ref b262), (.ref b262)]))
    obtain ⟨_, _, ⟨T263, L263, k263, n263⟩, -, X263, ⟨Lc263, hQ263, l263, y263, z263⟩, st263⟩ := Jvm.LawKit.callS X262 hx (y := (⟨"java/util/Map", "of", "()Ljava/util/Map;"⟩ : MethodName)) hown (mvT hZ (hw _ (List.mem_of_getElem? (i := 12) rfl))) (mvT hZ (hw _ (List.mem_of_getElem? (i := 13) rfl))) (mvT hZ (hw _ (List.mem_of_getElem? (i := 14) rfl))) (mvT hZ (hw _ (List.mem_of_getElem? (i := 15) rfl))) (by decide) (backOf (W := 2) (rmOf l Z a0 hw [] em h262 n0 Zs262 O262 S_EM) hZ (hw _ (List.mem_of_getElem? (i := 15) rfl)) (hw _ (List.mem_of_getElem? (i := 14) rfl)) (by decide) (by decide)) (g := (mkF m 33 #[.val (.int p1), .val (.int p2), .val (.int p3), .val (.int p4), .val (.int p5), .val (.int (4 : Int32)), .val (.int off), .val (.ref t261), .unset, .unset] [(.ref b262), (.ref b262)])) rfl (by rw [hml]; rfl) (argsL := []) (rest := [(.ref b262), (.ref b262)]) (lenOf pd_5 rfl) rfl (by show 2 * 0 + _ ≤ _; exact Nat.le_of_eq rfl) (hb hby at_33) (fun _ _ => ⟨rfl, e262, (by decide : 2 + 0 ≤ _), (by decide : 6 + 0 ≤ _)⟩)
    dsimp only [Pt.U, Pt.locs, Pt.cells, Pt.slots] at X263 l263 y263 z263 st263 hQ263
    rw [l263, y263, z263] at X263
    replace X263 : Stand p l e _ _ m _ below meth c T263 _ 2 6 := X263
    obtain ⟨rfl, N263q, e263q⟩ := hQ263
    have N263 := Fr.app N261 N263q
    refine Go.via st263 ?_
    show Go p e below _ (T263.setTop (mkF m 36 #[.val (.int p1), .val (.int p2), .val (.int p3), .val (.int p4), .val (.int p5), .val (.int (4 : Int32)), .val (.int off), .val (.ref t261), .unset, .unset] [(.ref em), (.ref b262), (.ref b262)]))
    refine Go.via (fun _ => XS.aload X263.here hx rfl (hb hby at_36) rfl rfl) ?_
    show Go p e below _ (T263.setTop (mkF m 38 #[.val (.int p1), .val (.int p2), .val (.int p3), .val (.int p4), .val (.int p5), .val (.int (4 : Int32)), .val (.int off), .val (.ref t261), .unset, .unset] [(.ref t261), (.ref em), (.ref b262), (.ref b262)]))
    have eemb262 := E_EM.ext O262.2
    have neemb262 : b262 ≠ em := Ne.symm (O262.ne E_EM.lt g_b262)
    obtain ⟨_, _, ⟨T264, L264, k264, n264⟩, -, X264, ⟨Lc264, hQ264, l264, y264, z264⟩, st264⟩ := X263.specialBack hx (y := (⟨"com/example/sluice/sluice/processor/FlowFile", "<init>", "(Ljava/util/Map;[B)V"⟩ : MethodName)) rfl hown (mvT hZ (hw _ (List.mem_of_getElem? (i := 18) rfl))) (mvT hZ (hw _ (List.mem_of_getElem? (i := 19) rfl))) (mvT hZ (hw _ (List.mem_of_getElem? (i := 20) rfl))) (by decide) (backOf (W := 1) (rmFI1 l Z a0 hw [] b262 em t261 kb261 (4 : Int32) _ h262 n0 Zs262 A262 F_attributes_b262 F_content_b262 g_b262 eemb262 fE_t261_262 fV_t261_262 (by decide) neemb262 (Ne.symm ne_t261_b262)) hZ (hw _ (List.mem_of_getElem? (i := 20) rfl)) (hw _ (List.mem_of_getElem? (i := 11) rfl)) (by decide) (by decide)) (g := (mkF m 38 #[.val (.int p1), .val (.int p2), .val (.int p3), .val (.int p4), .val (.int p5), .val (.int (4 : Int32)), .val (.int off), .val (.ref t261), .unset, .unset] [(.ref t261), (.ref em), (.ref b262), (.ref b262)])) rfl (by rw [hml]; rfl) (Steps.refl _) (a := b262) (argsL := [(.ref em), (.ref t261)]) (rest := [(.ref b262)]) (lenOf pd_6 rfl) rfl (by show 2 * 0 + _ ≤ _; exact Nat.le_of_eq rfl) (hb hby at_38) (fun _ _ => ⟨rfl, e263q, (by decide : 2 + 1 ≤ _), (by decide : 6 + 4 ≤ _)⟩)
    dsimp only [Pt.U, Pt.locs, Pt.cells, Pt.slots] at X264 l264 y264 z264 st264 hQ264
    rw [l264, y264, z264] at X264
    replace X264 : Stand p l e _ _ m _ below meth c T264 _ 3 10 := X264
    obtain ⟨rfl, N264q, K264q, ct264, gt264, fc264, va264⟩ := hQ264
    have N264 := Fr.app N263 N264q
    refine Go.tr st264 ?_
    have Zs264 : n0 ≤ T264.heap.size := Nat.le_trans Zs262 K264q.1
    have O264 : Old Z n0 T264.heap := O262.keep K264q (allS g_b262 all0)
    have fE_t261_264 := fE_t261_262.keep K264q
    have fV_t261_264 := fV_t261_262.keep K264q (ninS ne_t261_b262 nin0)
    have fE_b262_264 := A262.keep K264q
    have g_ct264 : n0 ≤ ct264 := Nat.le_trans Zs262 gt264
    have ne_t261_ct264 : t261 ≠ ct264 := Nat.ne_of_lt (Nat.lt_of_lt_of_le fE_t261_262.lt gt264)
    have ne_b262_ct264 : b262 ≠ ct264 := Nat.ne_of_lt (Nat.lt_of_lt_of_le A262.lt gt264)
    show Go p e below _ (T264.setTop (mkF m 41 #[.val (.int p1), .val (.int p2), .val (.int p3), .val (.int p4), .val (.int p5), .val (.int (4 : Int32)), .val (.int off), .val (.ref t261), .unset, .unset] [(.ref b262)]))
    refine Go.via (fun _ => XS.astore X264.here hx rfl (hb hby at_41) rfl rfl (l' := #[.val (.int p1), .val (.int p2), .val (.int p3), .val (.int p4), .val (.int p5), .val (.int (4 : Int32)), .val (.int off), .val (.ref t261), .val (.ref b262), .unset]) rfl) ?_
    show Go p e below _ (T264.setTop (mkF m 43 #[.val (.int p1), .val (.int p2), .val (.int p3), .val (.int p4), .val (.int p5), .val (.int (4 : Int32)), .val (.int off), .val (.ref t261), .val (.ref b262), .unset] []))
    refine Go.via (fun _ => XS.bipush X264.here hx rfl (hb hby at_43)) ?_
    show Go p e below _ (T264.setTop (mkF m 45 #[.val (.int p1), .val (.int p2), .val (.int p3), .val (.int p4), .val (.int p5), .val (.int (4 : Int32)), .val (.int off), .val (.ref t261), .val (.ref b262), .unset] [(.int (8 : Int32))]))
    obtain ⟨T265, h265, k265, X265, e265, E265, A265, st265⟩ := newP X264 hx hZ (hw _ (List.mem_of_getElem? (i := 5) rfl)) rfl (g := (mkF m 45 #[.val (.int p1), .val (.int p2), .val (.int p3), .val (.int p4), .val (.int p5), .val (.int (4 : Int32)), .val (.int off), .val (.ref t261), .val (.ref b262), .unset] [(.int (8 : Int32))])) rfl (hb hby at_45) rfl (by decide) (cap := 8) (by decide) (by decide) (by decide) (by decide)
    obtain ⟨b265, g265⟩ : ∃ z, z = T264.heap.size := ⟨_, rfl⟩
    rw [← g265] at A265 st265
    have g_b265 : n0 ≤ b265 := Nat.le_trans Zs264 (Nat.le_of_eq g265.symm)
    have ne_t261_b265 : t261 ≠ b265 := Nat.ne_of_lt (Nat.lt_of_lt_of_le fE_t261_264.lt (Nat.le_of_eq g265.symm))
    have ne_b262_b265 : b262 ≠ b265 := Nat.ne_of_lt (Nat.lt_of_lt_of_le fE_b262_264.lt (Nat.le_of_eq g265.symm))
    have ne_ct264_b265 : ct264 ≠ b265 := Nat.ne_of_lt (Nat.lt_of_lt_of_le va264.lt (Nat.le_of_eq g265.symm))
    refine Go.via st265 ?_
    have Zs265 : n0 ≤ h265.size := Nat.le_trans Zs264 E265.1
    have O265 : Old Z n0 h265 := O264.ext E265
    have fE_t261_265 := fE_t261_264.ext E265
    have fV_t261_265 := fV_t261_264.ext E265
    have fE_b262_265 := fE_b262_264.ext E265
    have fF_b262_content_265 := fc264.ext E265
    have fV_ct264_265 := va264.ext E265
    have V_b265 : Arv Z h265 b265 k265 .byte (8 : Int32) [(.int (0 : Int32)), (.int (0 : Int32)), (.int (0 : Int32)), (.int (0 : Int32)), (.int (0 : Int32)), (.int (0 : Int32)), (.int (0 : Int32)), (.int (0 : Int32))] (.int (0 : Int32)) := (Arv.new A265 (by decide)).pad (pad_rep [] (.int (0 : Int32)) 8)
    show Go p e below _ (T265.setTop (mkF m 47 #[.val (.int p1), .val (.int p2), .val (.int p3), .val (.int p4), .val (.int p5), .val (.int (4 : Int32)), .val (.int off), .val (.ref t261), .val (.ref b262), .unset] [(.ref b265)]))
    refine Go.via (fun _ => XS.dup X265.here hx rfl (hb hby at_47) rfl rfl) ?_
    show Go p e below _ (T265.setTop (mkF m 48 #[.val (.int p1), .val (.int p2), .val (.int p3), .val (.int p4), .val (.int p5), .val (.int (4 : Int32)), .val (.int off), .val (.ref t261), .val (.ref b262), .unset] [(.ref b265), (.ref b265)]))
    refine Go.via (fun _ => XS.iconst X265.here hx rfl (hb hby at_48)) ?_
    show Go p e below _ (T265.setTop (mkF m 49 #[.val (.int p1), .val (.int p2), .val (.int p3), .val (.int p4), .val (.int p5), .val (.int (4 : Int32)), .val (.int off), .val (.ref t261), .val (.ref b262), .unset] [(.int (0 : Int32)), (.ref b265), (.ref b265)]))
    refine Go.via (fun _ => XS.iconst X265.here hx rfl (hb hby at_49)) ?_
    show Go p e below _ (T265.setTop (mkF m 50 #[.val (.int p1), .val (.int p2), .val (.int p3), .val (.int p4), .val (.int p5), .val (.int (4 : Int32)), .val (.int off), .val (.ref t261), .val (.ref b262), .unset] [(.int (0 : Int32)), (.int (0 : Int32)), (.ref b265), (.ref b265)]))
    refine Go.via (fun _ => XS.iloadN X265.here hx rfl (hb hby at_50) rfl) ?_
    show Go p e below _ (T265.setTop (mkF m 51 #[.val (.int p1), .val (.int p2), .val (.int p3), .val (.int p4), .val (.int p5), .val (.int (4 : Int32)), .val (.int off), .val (.ref t261), .val (.ref b262), .unset] [(.int p2), (.int (0 : Int32)), (.int (0 : Int32)), (.ref b265), (.ref b265)]))
    refine Go.via (fun _ => XS.iloadN X265.here hx rfl (hb hby at_51) rfl) ?_
    show Go p e below _ (T265.setTop (mkF m 52 #[.val (.int p1), .val (.int p2), .val (.int p3), .val (.int p4), .val (.int p5), .val (.int (4 : Int32)), .val (.int off), .val (.ref t261), .val (.ref b262), .unset] [(.int p3), (.int p2), (.int (0 : Int32)), (.int (0 : Int32)), (.ref b265), (.ref b265)]))
    obtain ⟨_, _, ⟨T266, L266, k266, n266⟩, -, X266, ⟨Lc266, hQ266, l266, y266, z266⟩, st266⟩ := Jvm.LawKit.callS X265 hx (y := (⟨"com/example/sluice/sluice/processor/FlowFileCopyContentPinLaw", "db", "(III)B"⟩ : MethodName)) hown (mvT hZ (hw _ (List.mem_of_getElem? (i := 45) rfl))) (mvT hZ (hw _ (List.mem_of_getElem? (i := 46) rfl))) (mvT hZ (hw _ (List.mem_of_getElem? (i := 3) rfl))) (mvT hZ (hw _ (List.mem_of_getElem? (i := 47) rfl))) (by decide) (backOf (W := 3) (rmDb l Z a0 hw [] (0 : Int32) p2 p3 h265 n0 Zs265) hZ (hw _ (List.mem_of_getElem? (i := 47) rfl)) (hw _ (List.mem_of_getElem? (i := 3) rfl)) (by decide) (by decide)) (g := (mkF m 52 #[.val (.int p1), .val (.int p2), .val (.int p3), .val (.int p4), .val (.int p5), .val (.int (4 : Int32)), .val (.int off), .val (.ref t261), .val (.ref b262), .unset] [(.int p3), (.int p2), (.int (0 : Int32)), (.int (0 : Int32)), (.ref b265), (.ref b265)])) rfl (by rw [hml]; rfl) (argsL := [(.int (0 : Int32)), (.int p2), (.int p3)]) (rest := [(.int (0 : Int32)), (.ref b265), (.ref b265)]) (lenOf pd_0 rfl) rfl (by show 2 * 0 + _ ≤ _; exact Nat.le_of_eq rfl) (hb hby at_52) (fun _ _ => ⟨rfl, e265, (by decide : 4 + 0 ≤ _), (by decide : 18 + 0 ≤ _)⟩)
    dsimp only [Pt.U, Pt.locs, Pt.cells, Pt.slots] at X266 l266 y266 z266 st266 hQ266
    rw [l266, y266, z266] at X266
    replace X266 : Stand p l e _ _ m _ below meth c T266 _ 4 18 := X266
    obtain ⟨rfl, N266q, e266q⟩ := hQ266
    have N266 := Fr.app N264 N266q
    refine Go.via st266 ?_
    show Go p e below _ (T266.setTop (mkF m 55 #[.val (.int p1), .val (.int p2), .val (.int p3), .val (.int p4), .val (.int p5), .val (.int (4 : Int32)), .val (.int off), .val (.ref t261), .val (.ref b262), .unset] [(.int (dbF (0 : Int32) p2 p3)), (.int (0 : Int32)), (.ref b265), (.ref b265)]))
    obtain ⟨cl267, Ar267, q267, S267, N267n, H267, G267⟩ := id V_b265
    have hin267 := inb_of (j := (0 : Int32)) S267 (by decide)
    obtain ⟨T267, h267, X267, e267, W267, st267⟩ := stB X266 hx hZ e266q Ar267 (j := (0 : Int32)) hin267 (g := (mkF m 55 #[.val (.int p1), .val (.int p2), .val (.int p3), .val (.int p4), .val (.int p5), .val (.int (4 : Int32)), .val (.int off), .val (.ref t261), .val (.ref b262), .unset] [(.int (dbF (0 : Int32) p2 p3)), (.int (0 : Int32)), (.ref b265), (.ref b265)])) rfl rfl (hb hby at_55)
    refine Go.via st267 ?_
    have V267 : Arv Z h267 b265 k265 .byte (8 : Int32) [(.int (nar .byte (dbF (0 : Int32) p2 p3))), (.int (0 : Int32)), (.int (0 : Int32)), (.int (0 : Int32)), (.int (0 : Int32)), (.int (0 : Int32)), (.int (0 : Int32)), (.int (0 : Int32))] (.int (0 : Int32)) := Arv.set Ar267 q267 S267 N267n H267 G267 (fits_nar_byte _) W267 0 rfl (Nat.le_of_ble_eq_true rfl)
    have Zs267 : n0 ≤ h267.size := Nat.le_trans Zs265 (Keep.of_wr W267).1
    have O267 : Old Z n0 h267 := O265.wr W267 g_b265
    have N267 := Fr.snoc X267 N266 g_b265
    have fE_t261_267 := fE_t261_265.wr W267
    have fV_t261_267 := fV_t261_265.other W267 ne_t261_b265
    have fE_b262_267 := fE_b262_265.wr W267
    have fF_b262_content_267 := fF_b262_content_265.other W267 (Or.inl ne_b262_b265)
    have fV_ct264_267 := fV_ct264_265.other W267 ne_ct264_b265
    show Go p e below _ (T267.setTop (mkF m 56 #[.val (.int p1), .val (.int p2), .val (.int p3), .val (.int p4), .val (.int p5), .val (.int (4 : Int32)), .val (.int off), .val (.ref t261), .val (.ref b262), .unset] [(.ref b265)]))
    refine Go.via (fun _ => XS.dup X267.here hx rfl (hb hby at_56) rfl rfl) ?_
    show Go p e below _ (T267.setTop (mkF m 57 #[.val (.int p1), .val (.int p2), .val (.int p3), .val (.int p4), .val (.int p5), .val (.int (4 : Int32)), .val (.int off), .val (.ref t261), .val (.ref b262), .unset] [(.ref b265), (.ref b265)]))
    refine Go.via (fun _ => XS.iconst X267.here hx rfl (hb hby at_57)) ?_
    show Go p e below _ (T267.setTop (mkF m 58 #[.val (.int p1), .val (.int p2), .val (.int p3), .val (.int p4), .val (.int p5), .val (.int (4 : Int32)), .val (.int off), .val (.ref t261), .val (.ref b262), .unset] [(.int (1 : Int32)), (.ref b265), (.ref b265)]))
    refine Go.via (fun _ => XS.iconst X267.here hx rfl (hb hby at_58)) ?_
    show Go p e below _ (T267.setTop (mkF m 59 #[.val (.int p1), .val (.int p2), .val (.int p3), .val (.int p4), .val (.int p5), .val (.int (4 : Int32)), .val (.int off), .val (.ref t261), .val (.ref b262), .unset] [(.int (1 : Int32)), (.int (1 : Int32)), (.ref b265), (.ref b265)]))
    refine Go.via (fun _ => XS.iloadN X267.here hx rfl (hb hby at_59) rfl) ?_
    show Go p e below _ (T267.setTop (mkF m 60 #[.val (.int p1), .val (.int p2), .val (.int p3), .val (.int p4), .val (.int p5), .val (.int (4 : Int32)), .val (.int off), .val (.ref t261), .val (.ref b262), .unset] [(.int p2), (.int (1 : Int32)), (.int (1 : Int32)), (.ref b265), (.ref b265)]))
    refine Go.via (fun _ => XS.iloadN X267.here hx rfl (hb hby at_60) rfl) ?_
    show Go p e below _ (T267.setTop (mkF m 61 #[.val (.int p1), .val (.int p2), .val (.int p3), .val (.int p4), .val (.int p5), .val (.int (4 : Int32)), .val (.int off), .val (.ref t261), .val (.ref b262), .unset] [(.int p3), (.int p2), (.int (1 : Int32)), (.int (1 : Int32)), (.ref b265), (.ref b265)]))
    obtain ⟨_, _, ⟨T268, L268, k268, n268⟩, -, X268, ⟨Lc268, hQ268, l268, y268, z268⟩, st268⟩ := Jvm.LawKit.callS X267 hx (y := (⟨"com/example/sluice/sluice/processor/FlowFileCopyContentPinLaw", "db", "(III)B"⟩ : MethodName)) hown (mvT hZ (hw _ (List.mem_of_getElem? (i := 45) rfl))) (mvT hZ (hw _ (List.mem_of_getElem? (i := 46) rfl))) (mvT hZ (hw _ (List.mem_of_getElem? (i := 3) rfl))) (mvT hZ (hw _ (List.mem_of_getElem? (i := 47) rfl))) (by decide) (backOf (W := 3) (rmDb l Z a0 hw [] (1 : Int32) p2 p3 h267 n0 Zs267) hZ (hw _ (List.mem_of_getElem? (i := 47) rfl)) (hw _ (List.mem_of_getElem? (i := 3) rfl)) (by decide) (by decide)) (g := (mkF m 61 #[.val (.int p1), .val (.int p2), .val (.int p3), .val (.int p4), .val (.int p5), .val (.int (4 : Int32)), .val (.int off), .val (.ref t261), .val (.ref b262), .unset] [(.int p3), (.int p2), (.int (1 : Int32)), (.int (1 : Int32)), (.ref b265), (.ref b265)])) rfl (by rw [hml]; rfl) (argsL := [(.int (1 : Int32)), (.int p2), (.int p3)]) (rest := [(.int (1 : Int32)), (.ref b265), (.ref b265)]) (lenOf pd_0 rfl) rfl (by show 2 * 0 + _ ≤ _; exact Nat.le_of_eq rfl) (hb hby at_61) (fun _ _ => ⟨rfl, e267, (by decide : 4 + 0 ≤ _), (by decide : 18 + 0 ≤ _)⟩)
    dsimp only [Pt.U, Pt.locs, Pt.cells, Pt.slots] at X268 l268 y268 z268 st268 hQ268
    rw [l268, y268, z268] at X268
    replace X268 : Stand p l e _ _ m _ below meth c T268 _ 4 18 := X268
    obtain ⟨rfl, N268q, e268q⟩ := hQ268
    have N268 := Fr.app N267 N268q
    refine Go.via st268 ?_
    show Go p e below _ (T268.setTop (mkF m 64 #[.val (.int p1), .val (.int p2), .val (.int p3), .val (.int p4), .val (.int p5), .val (.int (4 : Int32)), .val (.int off), .val (.ref t261), .val (.ref b262), .unset] [(.int (dbF (1 : Int32) p2 p3)), (.int (1 : Int32)), (.ref b265), (.ref b265)]))
    obtain ⟨cl269, Ar269, q269, S269, N269n, H269, G269⟩ := id V267
    have hin269 := inb_of (j := (1 : Int32)) S269 (by decide)
    obtain ⟨T269, h269, X269, e269, W269, st269⟩ := stB X268 hx hZ e268q Ar269 (j := (1 : Int32)) hin269 (g := (mkF m 64 #[.val (.int p1), .val (.int p2), .val (.int p3), .val (.int p4), .val (.int p5), .val (.int (4 : Int32)), .val (.int off), .val (.ref t261), .val (.ref b262), .unset] [(.int (dbF (1 : Int32) p2 p3)), (.int (1 : Int32)), (.ref b265), (.ref b265)])) rfl rfl (hb hby at_64)
    refine Go.via st269 ?_
    have V269 : Arv Z h269 b265 k265 .byte (8 : Int32) [(.int (nar .byte (dbF (0 : Int32) p2 p3))), (.int (nar .byte (dbF (1 : Int32) p2 p3))), (.int (0 : Int32)), (.int (0 : Int32)), (.int (0 : Int32)), (.int (0 : Int32)), (.int (0 : Int32)), (.int (0 : Int32))] (.int (0 : Int32)) := Arv.set Ar269 q269 S269 N269n H269 G269 (fits_nar_byte _) W269 1 rfl (Nat.le_of_ble_eq_true rfl)
    have Zs269 : n0 ≤ h269.size := Nat.le_trans Zs267 (Keep.of_wr W269).1
    have O269 : Old Z n0 h269 := O267.wr W269 g_b265
    have N269 := Fr.snoc X269 N268 g_b265
    have fE_t261_269 := fE_t261_267.wr W269
    have fV_t261_269 := fV_t261_267.other W269 ne_t261_b265
    have fE_b262_269 := fE_b262_267.wr W269
    have fF_b262_content_269 := fF_b262_content_267.other W269 (Or.inl ne_b262_b265)
    have fV_ct264_269 := fV_ct264_267.other W269 ne_ct264_b265
    show Go p e below _ (T269.setTop (mkF m 65 #[.val (.int p1), .val (.int p2), .val (.int p3), .val (.int p4), .val (.int p5), .val (.int (4 : Int32)), .val (.int off), .val (.ref t261), .val (.ref b262), .unset] [(.ref b265)]))
    refine Go.via (fun _ => XS.dup X269.here hx rfl (hb hby at_65) rfl rfl) ?_
    show Go p e below _ (T269.setTop (mkF m 66 #[.val (.int p1), .val (.int p2), .val (.int p3), .val (.int p4), .val (.int p5), .val (.int (4 : Int32)), .val (.int off), .val (.ref t261), .val (.ref b262), .unset] [(.ref b265), (.ref b265)]))
    refine Go.via (fun _ => XS.iconst X269.here hx rfl (hb hby at_66)) ?_
    show Go p e below _ (T269.setTop (mkF m 67 #[.val (.int p1), .val (.int p2), .val (.int p3), .val (.int p4), .val (.int p5), .val (.int (4 : Int32)), .val (.int off), .val (.ref t261), .val (.ref b262), .unset] [(.int (2 : Int32)), (.ref b265), (.ref b265)]))
    refine Go.via (fun _ => XS.iconst X269.here hx rfl (hb hby at_67)) ?_
    show Go p e below _ (T269.setTop (mkF m 68 #[.val (.int p1), .val (.int p2), .val (.int p3), .val (.int p4), .val (.int p5), .val (.int (4 : Int32)), .val (.int off), .val (.ref t261), .val (.ref b262), .unset] [(.int (2 : Int32)), (.int (2 : Int32)), (.ref b265), (.ref b265)]))
    refine Go.via (fun _ => XS.iloadN X269.here hx rfl (hb hby at_68) rfl) ?_
    show Go p e below _ (T269.setTop (mkF m 69 #[.val (.int p1), .val (.int p2), .val (.int p3), .val (.int p4), .val (.int p5), .val (.int (4 : Int32)), .val (.int off), .val (.ref t261), .val (.ref b262), .unset] [(.int p2), (.int (2 : Int32)), (.int (2 : Int32)), (.ref b265), (.ref b265)]))
    refine Go.via (fun _ => XS.iloadN X269.here hx rfl (hb hby at_69) rfl) ?_
    show Go p e below _ (T269.setTop (mkF m 70 #[.val (.int p1), .val (.int p2), .val (.int p3), .val (.int p4), .val (.int p5), .val (.int (4 : Int32)), .val (.int off), .val (.ref t261), .val (.ref b262), .unset] [(.int p3), (.int p2), (.int (2 : Int32)), (.int (2 : Int32)), (.ref b265), (.ref b265)]))
    obtain ⟨_, _, ⟨T270, L270, k270, n270⟩, -, X270, ⟨Lc270, hQ270, l270, y270, z270⟩, st270⟩ := Jvm.LawKit.callS X269 hx (y := (⟨"com/example/sluice/sluice/processor/FlowFileCopyContentPinLaw", "db", "(III)B"⟩ : MethodName)) hown (mvT hZ (hw _ (List.mem_of_getElem? (i := 45) rfl))) (mvT hZ (hw _ (List.mem_of_getElem? (i := 46) rfl))) (mvT hZ (hw _ (List.mem_of_getElem? (i := 3) rfl))) (mvT hZ (hw _ (List.mem_of_getElem? (i := 47) rfl))) (by decide) (backOf (W := 3) (rmDb l Z a0 hw [] (2 : Int32) p2 p3 h269 n0 Zs269) hZ (hw _ (List.mem_of_getElem? (i := 47) rfl)) (hw _ (List.mem_of_getElem? (i := 3) rfl)) (by decide) (by decide)) (g := (mkF m 70 #[.val (.int p1), .val (.int p2), .val (.int p3), .val (.int p4), .val (.int p5), .val (.int (4 : Int32)), .val (.int off), .val (.ref t261), .val (.ref b262), .unset] [(.int p3), (.int p2), (.int (2 : Int32)), (.int (2 : Int32)), (.ref b265), (.ref b265)])) rfl (by rw [hml]; rfl) (argsL := [(.int (2 : Int32)), (.int p2), (.int p3)]) (rest := [(.int (2 : Int32)), (.ref b265), (.ref b265)]) (lenOf pd_0 rfl) rfl (by show 2 * 0 + _ ≤ _; exact Nat.le_of_eq rfl) (hb hby at_70) (fun _ _ => ⟨rfl, e269, (by decide : 4 + 0 ≤ _), (by decide : 18 + 0 ≤ _)⟩)
    dsimp only [Pt.U, Pt.locs, Pt.cells, Pt.slots] at X270 l270 y270 z270 st270 hQ270
    rw [l270, y270, z270] at X270
    replace X270 : Stand p l e _ _ m _ below meth c T270 _ 4 18 := X270
    obtain ⟨rfl, N270q, e270q⟩ := hQ270
    have N270 := Fr.app N269 N270q
    refine Go.via st270 ?_
    show Go p e below _ (T270.setTop (mkF m 73 #[.val (.int p1), .val (.int p2), .val (.int p3), .val (.int p4), .val (.int p5), .val (.int (4 : Int32)), .val (.int off), .val (.ref t261), .val (.ref b262), .unset] [(.int (dbF (2 : Int32) p2 p3)), (.int (2 : Int32)), (.ref b265), (.ref b265)]))
    obtain ⟨cl271, Ar271, q271, S271, N271n, H271, G271⟩ := id V269
    have hin271 := inb_of (j := (2 : Int32)) S271 (by decide)
    obtain ⟨T271, h271, X271, e271, W271, st271⟩ := stB X270 hx hZ e270q Ar271 (j := (2 : Int32)) hin271 (g := (mkF m 73 #[.val (.int p1), .val (.int p2), .val (.int p3), .val (.int p4), .val (.int p5), .val (.int (4 : Int32)), .val (.int off), .val (.ref t261), .val (.ref b262), .unset] [(.int (dbF (2 : Int32) p2 p3)), (.int (2 : Int32)), (.ref b265), (.ref b265)])) rfl rfl (hb hby at_73)
    refine Go.via st271 ?_
    have V271 : Arv Z h271 b265 k265 .byte (8 : Int32) [(.int (nar .byte (dbF (0 : Int32) p2 p3))), (.int (nar .byte (dbF (1 : Int32) p2 p3))), (.int (nar .byte (dbF (2 : Int32) p2 p3))), (.int (0 : Int32)), (.int (0 : Int32)), (.int (0 : Int32)), (.int (0 : Int32)), (.int (0 : Int32))] (.int (0 : Int32)) := Arv.set Ar271 q271 S271 N271n H271 G271 (fits_nar_byte _) W271 2 rfl (Nat.le_of_ble_eq_true rfl)
    have Zs271 : n0 ≤ h271.size := Nat.le_trans Zs269 (Keep.of_wr W271).1
    have O271 : Old Z n0 h271 := O269.wr W271 g_b265
    have N271 := Fr.snoc X271 N270 g_b265
    have fE_t261_271 := fE_t261_269.wr W271
    have fV_t261_271 := fV_t261_269.other W271 ne_t261_b265
    have fE_b262_271 := fE_b262_269.wr W271
    have fF_b262_content_271 := fF_b262_content_269.other W271 (Or.inl ne_b262_b265)
    have fV_ct264_271 := fV_ct264_269.other W271 ne_ct264_b265
    show Go p e below _ (T271.setTop (mkF m 74 #[.val (.int p1), .val (.int p2), .val (.int p3), .val (.int p4), .val (.int p5), .val (.int (4 : Int32)), .val (.int off), .val (.ref t261), .val (.ref b262), .unset] [(.ref b265)]))
    refine Go.via (fun _ => XS.dup X271.here hx rfl (hb hby at_74) rfl rfl) ?_
    show Go p e below _ (T271.setTop (mkF m 75 #[.val (.int p1), .val (.int p2), .val (.int p3), .val (.int p4), .val (.int p5), .val (.int (4 : Int32)), .val (.int off), .val (.ref t261), .val (.ref b262), .unset] [(.ref b265), (.ref b265)]))
    refine Go.via (fun _ => XS.iconst X271.here hx rfl (hb hby at_75)) ?_
    show Go p e below _ (T271.setTop (mkF m 76 #[.val (.int p1), .val (.int p2), .val (.int p3), .val (.int p4), .val (.int p5), .val (.int (4 : Int32)), .val (.int off), .val (.ref t261), .val (.ref b262), .unset] [(.int (3 : Int32)), (.ref b265), (.ref b265)]))
    refine Go.via (fun _ => XS.iconst X271.here hx rfl (hb hby at_76)) ?_
    show Go p e below _ (T271.setTop (mkF m 77 #[.val (.int p1), .val (.int p2), .val (.int p3), .val (.int p4), .val (.int p5), .val (.int (4 : Int32)), .val (.int off), .val (.ref t261), .val (.ref b262), .unset] [(.int (3 : Int32)), (.int (3 : Int32)), (.ref b265), (.ref b265)]))
    refine Go.via (fun _ => XS.iloadN X271.here hx rfl (hb hby at_77) rfl) ?_
    show Go p e below _ (T271.setTop (mkF m 78 #[.val (.int p1), .val (.int p2), .val (.int p3), .val (.int p4), .val (.int p5), .val (.int (4 : Int32)), .val (.int off), .val (.ref t261), .val (.ref b262), .unset] [(.int p2), (.int (3 : Int32)), (.int (3 : Int32)), (.ref b265), (.ref b265)]))
    refine Go.via (fun _ => XS.iloadN X271.here hx rfl (hb hby at_78) rfl) ?_
    show Go p e below _ (T271.setTop (mkF m 79 #[.val (.int p1), .val (.int p2), .val (.int p3), .val (.int p4), .val (.int p5), .val (.int (4 : Int32)), .val (.int off), .val (.ref t261), .val (.ref b262), .unset] [(.int p3), (.int p2), (.int (3 : Int32)), (.int (3 : Int32)), (.ref b265), (.ref b265)]))
    obtain ⟨_, _, ⟨T272, L272, k272, n272⟩, -, X272, ⟨Lc272, hQ272, l272, y272, z272⟩, st272⟩ := Jvm.LawKit.callS X271 hx (y := (⟨"com/example/sluice/sluice/processor/FlowFileCopyContentPinLaw", "db", "(III)B"⟩ : MethodName)) hown (mvT hZ (hw _ (List.mem_of_getElem? (i := 45) rfl))) (mvT hZ (hw _ (List.mem_of_getElem? (i := 46) rfl))) (mvT hZ (hw _ (List.mem_of_getElem? (i := 3) rfl))) (mvT hZ (hw _ (List.mem_of_getElem? (i := 47) rfl))) (by decide) (backOf (W := 3) (rmDb l Z a0 hw [] (3 : Int32) p2 p3 h271 n0 Zs271) hZ (hw _ (List.mem_of_getElem? (i := 47) rfl)) (hw _ (List.mem_of_getElem? (i := 3) rfl)) (by decide) (by decide)) (g := (mkF m 79 #[.val (.int p1), .val (.int p2), .val (.int p3), .val (.int p4), .val (.int p5), .val (.int (4 : Int32)), .val (.int off), .val (.ref t261), .val (.ref b262), .unset] [(.int p3), (.int p2), (.int (3 : Int32)), (.int (3 : Int32)), (.ref b265), (.ref b265)])) rfl (by rw [hml]; rfl) (argsL := [(.int (3 : Int32)), (.int p2), (.int p3)]) (rest := [(.int (3 : Int32)), (.ref b265), (.ref b265)]) (lenOf pd_0 rfl) rfl (by show 2 * 0 + _ ≤ _; exact Nat.le_of_eq rfl) (hb hby at_79) (fun _ _ => ⟨rfl, e271, (by decide : 4 + 0 ≤ _), (by decide : 18 + 0 ≤ _)⟩)
    dsimp only [Pt.U, Pt.locs, Pt.cells, Pt.slots] at X272 l272 y272 z272 st272 hQ272
    rw [l272, y272, z272] at X272
    replace X272 : Stand p l e _ _ m _ below meth c T272 _ 4 18 := X272
    obtain ⟨rfl, N272q, e272q⟩ := hQ272
    have N272 := Fr.app N271 N272q
    refine Go.via st272 ?_
    show Go p e below _ (T272.setTop (mkF m 82 #[.val (.int p1), .val (.int p2), .val (.int p3), .val (.int p4), .val (.int p5), .val (.int (4 : Int32)), .val (.int off), .val (.ref t261), .val (.ref b262), .unset] [(.int (dbF (3 : Int32) p2 p3)), (.int (3 : Int32)), (.ref b265), (.ref b265)]))
    obtain ⟨cl273, Ar273, q273, S273, N273n, H273, G273⟩ := id V271
    have hin273 := inb_of (j := (3 : Int32)) S273 (by decide)
    obtain ⟨T273, h273, X273, e273, W273, st273⟩ := stB X272 hx hZ e272q Ar273 (j := (3 : Int32)) hin273 (g := (mkF m 82 #[.val (.int p1), .val (.int p2), .val (.int p3), .val (.int p4), .val (.int p5), .val (.int (4 : Int32)), .val (.int off), .val (.ref t261), .val (.ref b262), .unset] [(.int (dbF (3 : Int32) p2 p3)), (.int (3 : Int32)), (.ref b265), (.ref b265)])) rfl rfl (hb hby at_82)
    refine Go.via st273 ?_
    have V273 : Arv Z h273 b265 k265 .byte (8 : Int32) [(.int (nar .byte (dbF (0 : Int32) p2 p3))), (.int (nar .byte (dbF (1 : Int32) p2 p3))), (.int (nar .byte (dbF (2 : Int32) p2 p3))), (.int (nar .byte (dbF (3 : Int32) p2 p3))), (.int (0 : Int32)), (.int (0 : Int32)), (.int (0 : Int32)), (.int (0 : Int32))] (.int (0 : Int32)) := Arv.set Ar273 q273 S273 N273n H273 G273 (fits_nar_byte _) W273 3 rfl (Nat.le_of_ble_eq_true rfl)
    have Zs273 : n0 ≤ h273.size := Nat.le_trans Zs271 (Keep.of_wr W273).1
    have O273 : Old Z n0 h273 := O271.wr W273 g_b265
    have N273 := Fr.snoc X273 N272 g_b265
    have fE_t261_273 := fE_t261_271.wr W273
    have fV_t261_273 := fV_t261_271.other W273 ne_t261_b265
    have fE_b262_273 := fE_b262_271.wr W273
    have fF_b262_content_273 := fF_b262_content_271.other W273 (Or.inl ne_b262_b265)
    have fV_ct264_273 := fV_ct264_271.other W273 ne_ct264_b265
    show Go p e below _ (T273.setTop (mkF m 83 #[.val (.int p1), .val (.int p2), .val (.int p3), .val (.int p4), .val (.int p5), .val (.int (4 : Int32)), .val (.int off), .val (.ref t261), .val (.ref b262), .unset] [(.ref b265)]))
    refine Go.via (fun _ => XS.dup X273.here hx rfl (hb hby at_83) rfl rfl) ?_
    show Go p e below _ (T273.setTop (mkF m 84 #[.val (.int p1), .val (.int p2), .val (.int p3), .val (.int p4), .val (.int p5), .val (.int (4 : Int32)), .val (.int off), .val (.ref t261), .val (.ref b262), .unset] [(.ref b265), (.ref b265)]))
    refine Go.via (fun _ => XS.iconst X273.here hx rfl (hb hby at_84)) ?_
    show Go p e below _ (T273.setTop (mkF m 85 #[.val (.int p1), .val (.int p2), .val (.int p3), .val (.int p4), .val (.int p5), .val (.int (4 : Int32)), .val (.int off), .val (.ref t261), .val (.ref b262), .unset] [(.int (4 : Int32)), (.ref b265), (.ref b265)]))
    refine Go.via (fun _ => XS.iconst X273.here hx rfl (hb hby at_85)) ?_
    show Go p e below _ (T273.setTop (mkF m 86 #[.val (.int p1), .val (.int p2), .val (.int p3), .val (.int p4), .val (.int p5), .val (.int (4 : Int32)), .val (.int off), .val (.ref t261), .val (.ref b262), .unset] [(.int (4 : Int32)), (.int (4 : Int32)), (.ref b265), (.ref b265)]))
    refine Go.via (fun _ => XS.iloadN X273.here hx rfl (hb hby at_86) rfl) ?_
    show Go p e below _ (T273.setTop (mkF m 87 #[.val (.int p1), .val (.int p2), .val (.int p3), .val (.int p4), .val (.int p5), .val (.int (4 : Int32)), .val (.int off), .val (.ref t261), .val (.ref b262), .unset] [(.int p2), (.int (4 : Int32)), (.int (4 : Int32)), (.ref b265), (.ref b265)]))
    refine Go.via (fun _ => XS.iloadN X273.here hx rfl (hb hby at_87) rfl) ?_
    show Go p e below _ (T273.setTop (mkF m 88 #[.val (.int p1), .val (.int p2), .val (.int p3), .val (.int p4), .val (.int p5), .val (.int (4 : Int32)), .val (.int off), .val (.ref t261), .val (.ref b262), .unset] [(.int p3), (.int p2), (.int (4 : Int32)), (.int (4 : Int32)), (.ref b265), (.ref b265)]))
    obtain ⟨_, _, ⟨T274, L274, k274, n274⟩, -, X274, ⟨Lc274, hQ274, l274, y274, z274⟩, st274⟩ := Jvm.LawKit.callS X273 hx (y := (⟨"com/example/sluice/sluice/processor/FlowFileCopyContentPinLaw", "db", "(III)B"⟩ : MethodName)) hown (mvT hZ (hw _ (List.mem_of_getElem? (i := 45) rfl))) (mvT hZ (hw _ (List.mem_of_getElem? (i := 46) rfl))) (mvT hZ (hw _ (List.mem_of_getElem? (i := 3) rfl))) (mvT hZ (hw _ (List.mem_of_getElem? (i := 47) rfl))) (by decide) (backOf (W := 3) (rmDb l Z a0 hw [] (4 : Int32) p2 p3 h273 n0 Zs273) hZ (hw _ (List.mem_of_getElem? (i := 47) rfl)) (hw _ (List.mem_of_getElem? (i := 3) rfl)) (by decide) (by decide)) (g := (mkF m 88 #[.val (.int p1), .val (.int p2), .val (.int p3), .val (.int p4), .val (.int p5), .val (.int (4 : Int32)), .val (.int off), .val (.ref t261), .val (.ref b262), .unset] [(.int p3), (.int p2), (.int (4 : Int32)), (.int (4 : Int32)), (.ref b265), (.ref b265)])) rfl (by rw [hml]; rfl) (argsL := [(.int (4 : Int32)), (.int p2), (.int p3)]) (rest := [(.int (4 : Int32)), (.ref b265), (.ref b265)]) (lenOf pd_0 rfl) rfl (by show 2 * 0 + _ ≤ _; exact Nat.le_of_eq rfl) (hb hby at_88) (fun _ _ => ⟨rfl, e273, (by decide : 4 + 0 ≤ _), (by decide : 18 + 0 ≤ _)⟩)
    dsimp only [Pt.U, Pt.locs, Pt.cells, Pt.slots] at X274 l274 y274 z274 st274 hQ274
    rw [l274, y274, z274] at X274
    replace X274 : Stand p l e _ _ m _ below meth c T274 _ 4 18 := X274
    obtain ⟨rfl, N274q, e274q⟩ := hQ274
    have N274 := Fr.app N273 N274q
    refine Go.via st274 ?_
    show Go p e below _ (T274.setTop (mkF m 91 #[.val (.int p1), .val (.int p2), .val (.int p3), .val (.int p4), .val (.int p5), .val (.int (4 : Int32)), .val (.int off), .val (.ref t261), .val (.ref b262), .unset] [(.int (dbF (4 : Int32) p2 p3)), (.int (4 : Int32)), (.ref b265), (.ref b265)]))
    obtain ⟨cl275, Ar275, q275, S275, N275n, H275, G275⟩ := id V273
    have hin275 := inb_of (j := (4 : Int32)) S275 (by decide)
    obtain ⟨T275, h275, X275, e275, W275, st275⟩ := stB X274 hx hZ e274q Ar275 (j := (4 : Int32)) hin275 (g := (mkF m 91 #[.val (.int p1), .val (.int p2), .val (.int p3), .val (.int p4), .val (.int p5), .val (.int (4 : Int32)), .val (.int off), .val (.ref t261), .val (.ref b262), .unset] [(.int (dbF (4 : Int32) p2 p3)), (.int (4 : Int32)), (.ref b265), (.ref b265)])) rfl rfl (hb hby at_91)
    refine Go.via st275 ?_
    have V275 : Arv Z h275 b265 k265 .byte (8 : Int32) [(.int (nar .byte (dbF (0 : Int32) p2 p3))), (.int (nar .byte (dbF (1 : Int32) p2 p3))), (.int (nar .byte (dbF (2 : Int32) p2 p3))), (.int (nar .byte (dbF (3 : Int32) p2 p3))), (.int (nar .byte (dbF (4 : Int32) p2 p3))), (.int (0 : Int32)), (.int (0 : Int32)), (.int (0 : Int32))] (.int (0 : Int32)) := Arv.set Ar275 q275 S275 N275n H275 G275 (fits_nar_byte _) W275 4 rfl (Nat.le_of_ble_eq_true rfl)
    have Zs275 : n0 ≤ h275.size := Nat.le_trans Zs273 (Keep.of_wr W275).1
    have O275 : Old Z n0 h275 := O273.wr W275 g_b265
    have N275 := Fr.snoc X275 N274 g_b265
    have fE_t261_275 := fE_t261_273.wr W275
    have fV_t261_275 := fV_t261_273.other W275 ne_t261_b265
    have fE_b262_275 := fE_b262_273.wr W275
    have fF_b262_content_275 := fF_b262_content_273.other W275 (Or.inl ne_b262_b265)
    have fV_ct264_275 := fV_ct264_273.other W275 ne_ct264_b265
    show Go p e below _ (T275.setTop (mkF m 92 #[.val (.int p1), .val (.int p2), .val (.int p3), .val (.int p4), .val (.int p5), .val (.int (4 : Int32)), .val (.int off), .val (.ref t261), .val (.ref b262), .unset] [(.ref b265)]))
    refine Go.via (fun _ => XS.dup X275.here hx rfl (hb hby at_92) rfl rfl) ?_
    show Go p e below _ (T275.setTop (mkF m 93 #[.val (.int p1), .val (.int p2), .val (.int p3), .val (.int p4), .val (.int p5), .val (.int (4 : Int32)), .val (.int off), .val (.ref t261), .val (.ref b262), .unset] [(.ref b265), (.ref b265)]))
    refine Go.via (fun _ => XS.iconst X275.here hx rfl (hb hby at_93)) ?_
    show Go p e below _ (T275.setTop (mkF m 94 #[.val (.int p1), .val (.int p2), .val (.int p3), .val (.int p4), .val (.int p5), .val (.int (4 : Int32)), .val (.int off), .val (.ref t261), .val (.ref b262), .unset] [(.int (5 : Int32)), (.ref b265), (.ref b265)]))
    refine Go.via (fun _ => XS.iconst X275.here hx rfl (hb hby at_94)) ?_
    show Go p e below _ (T275.setTop (mkF m 95 #[.val (.int p1), .val (.int p2), .val (.int p3), .val (.int p4), .val (.int p5), .val (.int (4 : Int32)), .val (.int off), .val (.ref t261), .val (.ref b262), .unset] [(.int (5 : Int32)), (.int (5 : Int32)), (.ref b265), (.ref b265)]))
    refine Go.via (fun _ => XS.iloadN X275.here hx rfl (hb hby at_95) rfl) ?_
    show Go p e below _ (T275.setTop (mkF m 96 #[.val (.int p1), .val (.int p2), .val (.int p3), .val (.int p4), .val (.int p5), .val (.int (4 : Int32)), .val (.int off), .val (.ref t261), .val (.ref b262), .unset] [(.int p2), (.int (5 : Int32)), (.int (5 : Int32)), (.ref b265), (.ref b265)]))
    refine Go.via (fun _ => XS.iloadN X275.here hx rfl (hb hby at_96) rfl) ?_
    show Go p e below _ (T275.setTop (mkF m 97 #[.val (.int p1), .val (.int p2), .val (.int p3), .val (.int p4), .val (.int p5), .val (.int (4 : Int32)), .val (.int off), .val (.ref t261), .val (.ref b262), .unset] [(.int p3), (.int p2), (.int (5 : Int32)), (.int (5 : Int32)), (.ref b265), (.ref b265)]))
    obtain ⟨_, _, ⟨T276, L276, k276, n276⟩, -, X276, ⟨Lc276, hQ276, l276, y276, z276⟩, st276⟩ := Jvm.LawKit.callS X275 hx (y := (⟨"com/example/sluice/sluice/processor/FlowFileCopyContentPinLaw", "db", "(III)B"⟩ : MethodName)) hown (mvT hZ (hw _ (List.mem_of_getElem? (i := 45) rfl))) (mvT hZ (hw _ (List.mem_of_getElem? (i := 46) rfl))) (mvT hZ (hw _ (List.mem_of_getElem? (i := 3) rfl))) (mvT hZ (hw _ (List.mem_of_getElem? (i := 47) rfl))) (by decide) (backOf (W := 3) (rmDb l Z a0 hw [] (5 : Int32) p2 p3 h275 n0 Zs275) hZ (hw _ (List.mem_of_getElem? (i := 47) rfl)) (hw _ (List.mem_of_getElem? (i := 3) rfl)) (by decide) (by decide)) (g := (mkF m 97 #[.val (.int p1), .val (.int p2), .val (.int p3), .val (.int p4), .val (.int p5), .val (.int (4 : Int32)), .val (.int off), .val (.ref t261), .val (.ref b262), .unset] [(.int p3), (.int p2), (.int (5 : Int32)), (.int (5 : Int32)), (.ref b265), (.ref b265)])) rfl (by rw [hml]; rfl) (argsL := [(.int (5 : Int32)), (.int p2), (.int p3)]) (rest := [(.int (5 : Int32)), (.ref b265), (.ref b265)]) (lenOf pd_0 rfl) rfl (by show 2 * 0 + _ ≤ _; exact Nat.le_of_eq rfl) (hb hby at_97) (fun _ _ => ⟨rfl, e275, (by decide : 4 + 0 ≤ _), (by decide : 18 + 0 ≤ _)⟩)
    dsimp only [Pt.U, Pt.locs, Pt.cells, Pt.slots] at X276 l276 y276 z276 st276 hQ276
    rw [l276, y276, z276] at X276
    replace X276 : Stand p l e _ _ m _ below meth c T276 _ 4 18 := X276
    obtain ⟨rfl, N276q, e276q⟩ := hQ276
    have N276 := Fr.app N275 N276q
    refine Go.via st276 ?_
    show Go p e below _ (T276.setTop (mkF m 100 #[.val (.int p1), .val (.int p2), .val (.int p3), .val (.int p4), .val (.int p5), .val (.int (4 : Int32)), .val (.int off), .val (.ref t261), .val (.ref b262), .unset] [(.int (dbF (5 : Int32) p2 p3)), (.int (5 : Int32)), (.ref b265), (.ref b265)]))
    obtain ⟨cl277, Ar277, q277, S277, N277n, H277, G277⟩ := id V275
    have hin277 := inb_of (j := (5 : Int32)) S277 (by decide)
    obtain ⟨T277, h277, X277, e277, W277, st277⟩ := stB X276 hx hZ e276q Ar277 (j := (5 : Int32)) hin277 (g := (mkF m 100 #[.val (.int p1), .val (.int p2), .val (.int p3), .val (.int p4), .val (.int p5), .val (.int (4 : Int32)), .val (.int off), .val (.ref t261), .val (.ref b262), .unset] [(.int (dbF (5 : Int32) p2 p3)), (.int (5 : Int32)), (.ref b265), (.ref b265)])) rfl rfl (hb hby at_100)
    refine Go.via st277 ?_
    have V277 : Arv Z h277 b265 k265 .byte (8 : Int32) [(.int (nar .byte (dbF (0 : Int32) p2 p3))), (.int (nar .byte (dbF (1 : Int32) p2 p3))), (.int (nar .byte (dbF (2 : Int32) p2 p3))), (.int (nar .byte (dbF (3 : Int32) p2 p3))), (.int (nar .byte (dbF (4 : Int32) p2 p3))), (.int (nar .byte (dbF (5 : Int32) p2 p3))), (.int (0 : Int32)), (.int (0 : Int32))] (.int (0 : Int32)) := Arv.set Ar277 q277 S277 N277n H277 G277 (fits_nar_byte _) W277 5 rfl (Nat.le_of_ble_eq_true rfl)
    have Zs277 : n0 ≤ h277.size := Nat.le_trans Zs275 (Keep.of_wr W277).1
    have O277 : Old Z n0 h277 := O275.wr W277 g_b265
    have N277 := Fr.snoc X277 N276 g_b265
    have fE_t261_277 := fE_t261_275.wr W277
    have fV_t261_277 := fV_t261_275.other W277 ne_t261_b265
    have fE_b262_277 := fE_b262_275.wr W277
    have fF_b262_content_277 := fF_b262_content_275.other W277 (Or.inl ne_b262_b265)
    have fV_ct264_277 := fV_ct264_275.other W277 ne_ct264_b265
    show Go p e below _ (T277.setTop (mkF m 101 #[.val (.int p1), .val (.int p2), .val (.int p3), .val (.int p4), .val (.int p5), .val (.int (4 : Int32)), .val (.int off), .val (.ref t261), .val (.ref b262), .unset] [(.ref b265)]))
    refine Go.via (fun _ => XS.dup X277.here hx rfl (hb hby at_101) rfl rfl) ?_
    show Go p e below _ (T277.setTop (mkF m 102 #[.val (.int p1), .val (.int p2), .val (.int p3), .val (.int p4), .val (.int p5), .val (.int (4 : Int32)), .val (.int off), .val (.ref t261), .val (.ref b262), .unset] [(.ref b265), (.ref b265)]))
    refine Go.via (fun _ => XS.bipush X277.here hx rfl (hb hby at_102)) ?_
    show Go p e below _ (T277.setTop (mkF m 104 #[.val (.int p1), .val (.int p2), .val (.int p3), .val (.int p4), .val (.int p5), .val (.int (4 : Int32)), .val (.int off), .val (.ref t261), .val (.ref b262), .unset] [(.int (6 : Int32)), (.ref b265), (.ref b265)]))
    refine Go.via (fun _ => XS.bipush X277.here hx rfl (hb hby at_104)) ?_
    show Go p e below _ (T277.setTop (mkF m 106 #[.val (.int p1), .val (.int p2), .val (.int p3), .val (.int p4), .val (.int p5), .val (.int (4 : Int32)), .val (.int off), .val (.ref t261), .val (.ref b262), .unset] [(.int (6 : Int32)), (.int (6 : Int32)), (.ref b265), (.ref b265)]))
    refine Go.via (fun _ => XS.iloadN X277.here hx rfl (hb hby at_106) rfl) ?_
    show Go p e below _ (T277.setTop (mkF m 107 #[.val (.int p1), .val (.int p2), .val (.int p3), .val (.int p4), .val (.int p5), .val (.int (4 : Int32)), .val (.int off), .val (.ref t261), .val (.ref b262), .unset] [(.int p2), (.int (6 : Int32)), (.int (6 : Int32)), (.ref b265), (.ref b265)]))
    refine Go.via (fun _ => XS.iloadN X277.here hx rfl (hb hby at_107) rfl) ?_
    show Go p e below _ (T277.setTop (mkF m 108 #[.val (.int p1), .val (.int p2), .val (.int p3), .val (.int p4), .val (.int p5), .val (.int (4 : Int32)), .val (.int off), .val (.ref t261), .val (.ref b262), .unset] [(.int p3), (.int p2), (.int (6 : Int32)), (.int (6 : Int32)), (.ref b265), (.ref b265)]))
    obtain ⟨_, _, ⟨T278, L278, k278, n278⟩, -, X278, ⟨Lc278, hQ278, l278, y278, z278⟩, st278⟩ := Jvm.LawKit.callS X277 hx (y := (⟨"com/example/sluice/sluice/processor/FlowFileCopyContentPinLaw", "db", "(III)B"⟩ : MethodName)) hown (mvT hZ (hw _ (List.mem_of_getElem? (i := 45) rfl))) (mvT hZ (hw _ (List.mem_of_getElem? (i := 46) rfl))) (mvT hZ (hw _ (List.mem_of_getElem? (i := 3) rfl))) (mvT hZ (hw _ (List.mem_of_getElem? (i := 47) rfl))) (by decide) (backOf (W := 3) (rmDb l Z a0 hw [] (6 : Int32) p2 p3 h277 n0 Zs277) hZ (hw _ (List.mem_of_getElem? (i := 47) rfl)) (hw _ (List.mem_of_getElem? (i := 3) rfl)) (by decide) (by decide)) (g := (mkF m 108 #[.val (.int p1), .val (.int p2), .val (.int p3), .val (.int p4), .val (.int p5), .val (.int (4 : Int32)), .val (.int off), .val (.ref t261), .val (.ref b262), .unset] [(.int p3), (.int p2), (.int (6 : Int32)), (.int (6 : Int32)), (.ref b265), (.ref b265)])) rfl (by rw [hml]; rfl) (argsL := [(.int (6 : Int32)), (.int p2), (.int p3)]) (rest := [(.int (6 : Int32)), (.ref b265), (.ref b265)]) (lenOf pd_0 rfl) rfl (by show 2 * 0 + _ ≤ _; exact Nat.le_of_eq rfl) (hb hby at_108) (fun _ _ => ⟨rfl, e277, (by decide : 4 + 0 ≤ _), (by decide : 18 + 0 ≤ _)⟩)
    dsimp only [Pt.U, Pt.locs, Pt.cells, Pt.slots] at X278 l278 y278 z278 st278 hQ278
    rw [l278, y278, z278] at X278
    replace X278 : Stand p l e _ _ m _ below meth c T278 _ 4 18 := X278
    obtain ⟨rfl, N278q, e278q⟩ := hQ278
    have N278 := Fr.app N277 N278q
    refine Go.via st278 ?_
    show Go p e below _ (T278.setTop (mkF m 111 #[.val (.int p1), .val (.int p2), .val (.int p3), .val (.int p4), .val (.int p5), .val (.int (4 : Int32)), .val (.int off), .val (.ref t261), .val (.ref b262), .unset] [(.int (dbF (6 : Int32) p2 p3)), (.int (6 : Int32)), (.ref b265), (.ref b265)]))
    obtain ⟨cl279, Ar279, q279, S279, N279n, H279, G279⟩ := id V277
    have hin279 := inb_of (j := (6 : Int32)) S279 (by decide)
    obtain ⟨T279, h279, X279, e279, W279, st279⟩ := stB X278 hx hZ e278q Ar279 (j := (6 : Int32)) hin279 (g := (mkF m 111 #[.val (.int p1), .val (.int p2), .val (.int p3), .val (.int p4), .val (.int p5), .val (.int (4 : Int32)), .val (.int off), .val (.ref t261), .val (.ref b262), .unset] [(.int (dbF (6 : Int32) p2 p3)), (.int (6 : Int32)), (.ref b265), (.ref b265)])) rfl rfl (hb hby at_111)
    refine Go.via st279 ?_
    have V279 : Arv Z h279 b265 k265 .byte (8 : Int32) [(.int (nar .byte (dbF (0 : Int32) p2 p3))), (.int (nar .byte (dbF (1 : Int32) p2 p3))), (.int (nar .byte (dbF (2 : Int32) p2 p3))), (.int (nar .byte (dbF (3 : Int32) p2 p3))), (.int (nar .byte (dbF (4 : Int32) p2 p3))), (.int (nar .byte (dbF (5 : Int32) p2 p3))), (.int (nar .byte (dbF (6 : Int32) p2 p3))), (.int (0 : Int32))] (.int (0 : Int32)) := Arv.set Ar279 q279 S279 N279n H279 G279 (fits_nar_byte _) W279 6 rfl (Nat.le_of_ble_eq_true rfl)
    have Zs279 : n0 ≤ h279.size := Nat.le_trans Zs277 (Keep.of_wr W279).1
    have O279 : Old Z n0 h279 := O277.wr W279 g_b265
    have N279 := Fr.snoc X279 N278 g_b265
    have fE_t261_279 := fE_t261_277.wr W279
    have fV_t261_279 := fV_t261_277.other W279 ne_t261_b265
    have fE_b262_279 := fE_b262_277.wr W279
    have fF_b262_content_279 := fF_b262_content_277.other W279 (Or.inl ne_b262_b265)
    have fV_ct264_279 := fV_ct264_277.other W279 ne_ct264_b265
    show Go p e below _ (T279.setTop (mkF m 112 #[.val (.int p1), .val (.int p2), .val (.int p3), .val (.int p4), .val (.int p5), .val (.int (4 : Int32)), .val (.int off), .val (.ref t261), .val (.ref b262), .unset] [(.ref b265)]))
    refine Go.via (fun _ => XS.dup X279.here hx rfl (hb hby at_112) rfl rfl) ?_
    show Go p e below _ (T279.setTop (mkF m 113 #[.val (.int p1), .val (.int p2), .val (.int p3), .val (.int p4), .val (.int p5), .val (.int (4 : Int32)), .val (.int off), .val (.ref t261), .val (.ref b262), .unset] [(.ref b265), (.ref b265)]))
    refine Go.via (fun _ => XS.bipush X279.here hx rfl (hb hby at_113)) ?_
    show Go p e below _ (T279.setTop (mkF m 115 #[.val (.int p1), .val (.int p2), .val (.int p3), .val (.int p4), .val (.int p5), .val (.int (4 : Int32)), .val (.int off), .val (.ref t261), .val (.ref b262), .unset] [(.int (7 : Int32)), (.ref b265), (.ref b265)]))
    refine Go.via (fun _ => XS.bipush X279.here hx rfl (hb hby at_115)) ?_
    show Go p e below _ (T279.setTop (mkF m 117 #[.val (.int p1), .val (.int p2), .val (.int p3), .val (.int p4), .val (.int p5), .val (.int (4 : Int32)), .val (.int off), .val (.ref t261), .val (.ref b262), .unset] [(.int (7 : Int32)), (.int (7 : Int32)), (.ref b265), (.ref b265)]))
    refine Go.via (fun _ => XS.iloadN X279.here hx rfl (hb hby at_117) rfl) ?_
    show Go p e below _ (T279.setTop (mkF m 118 #[.val (.int p1), .val (.int p2), .val (.int p3), .val (.int p4), .val (.int p5), .val (.int (4 : Int32)), .val (.int off), .val (.ref t261), .val (.ref b262), .unset] [(.int p2), (.int (7 : Int32)), (.int (7 : Int32)), (.ref b265), (.ref b265)]))
    refine Go.via (fun _ => XS.iloadN X279.here hx rfl (hb hby at_118) rfl) ?_
    show Go p e below _ (T279.setTop (mkF m 119 #[.val (.int p1), .val (.int p2), .val (.int p3), .val (.int p4), .val (.int p5), .val (.int (4 : Int32)), .val (.int off), .val (.ref t261), .val (.ref b262), .unset] [(.int p3), (.int p2), (.int (7 : Int32)), (.int (7 : Int32)), (.ref b265), (.ref b265)]))
    obtain ⟨_, _, ⟨T280, L280, k280, n280⟩, -, X280, ⟨Lc280, hQ280, l280, y280, z280⟩, st280⟩ := Jvm.LawKit.callS X279 hx (y := (⟨"com/example/sluice/sluice/processor/FlowFileCopyContentPinLaw", "db", "(III)B"⟩ : MethodName)) hown (mvT hZ (hw _ (List.mem_of_getElem? (i := 45) rfl))) (mvT hZ (hw _ (List.mem_of_getElem? (i := 46) rfl))) (mvT hZ (hw _ (List.mem_of_getElem? (i := 3) rfl))) (mvT hZ (hw _ (List.mem_of_getElem? (i := 47) rfl))) (by decide) (backOf (W := 3) (rmDb l Z a0 hw [] (7 : Int32) p2 p3 h279 n0 Zs279) hZ (hw _ (List.mem_of_getElem? (i := 47) rfl)) (hw _ (List.mem_of_getElem? (i := 3) rfl)) (by decide) (by decide)) (g := (mkF m 119 #[.val (.int p1), .val (.int p2), .val (.int p3), .val (.int p4), .val (.int p5), .val (.int (4 : Int32)), .val (.int off), .val (.ref t261), .val (.ref b262), .unset] [(.int p3), (.int p2), (.int (7 : Int32)), (.int (7 : Int32)), (.ref b265), (.ref b265)])) rfl (by rw [hml]; rfl) (argsL := [(.int (7 : Int32)), (.int p2), (.int p3)]) (rest := [(.int (7 : Int32)), (.ref b265), (.ref b265)]) (lenOf pd_0 rfl) rfl (by show 2 * 0 + _ ≤ _; exact Nat.le_of_eq rfl) (hb hby at_119) (fun _ _ => ⟨rfl, e279, (by decide : 4 + 0 ≤ _), (by decide : 18 + 0 ≤ _)⟩)
    dsimp only [Pt.U, Pt.locs, Pt.cells, Pt.slots] at X280 l280 y280 z280 st280 hQ280
    rw [l280, y280, z280] at X280
    replace X280 : Stand p l e _ _ m _ below meth c T280 _ 4 18 := X280
    obtain ⟨rfl, N280q, e280q⟩ := hQ280
    have N280 := Fr.app N279 N280q
    refine Go.via st280 ?_
    show Go p e below _ (T280.setTop (mkF m 122 #[.val (.int p1), .val (.int p2), .val (.int p3), .val (.int p4), .val (.int p5), .val (.int (4 : Int32)), .val (.int off), .val (.ref t261), .val (.ref b262), .unset] [(.int (dbF (7 : Int32) p2 p3)), (.int (7 : Int32)), (.ref b265), (.ref b265)]))
    obtain ⟨cl281, Ar281, q281, S281, N281n, H281, G281⟩ := id V279
    have hin281 := inb_of (j := (7 : Int32)) S281 (by decide)
    obtain ⟨T281, h281, X281, e281, W281, st281⟩ := stB X280 hx hZ e280q Ar281 (j := (7 : Int32)) hin281 (g := (mkF m 122 #[.val (.int p1), .val (.int p2), .val (.int p3), .val (.int p4), .val (.int p5), .val (.int (4 : Int32)), .val (.int off), .val (.ref t261), .val (.ref b262), .unset] [(.int (dbF (7 : Int32) p2 p3)), (.int (7 : Int32)), (.ref b265), (.ref b265)])) rfl rfl (hb hby at_122)
    refine Go.via st281 ?_
    have V281 : Arv Z h281 b265 k265 .byte (8 : Int32) [(.int (nar .byte (dbF (0 : Int32) p2 p3))), (.int (nar .byte (dbF (1 : Int32) p2 p3))), (.int (nar .byte (dbF (2 : Int32) p2 p3))), (.int (nar .byte (dbF (3 : Int32) p2 p3))), (.int (nar .byte (dbF (4 : Int32) p2 p3))), (.int (nar .byte (dbF (5 : Int32) p2 p3))), (.int (nar .byte (dbF (6 : Int32) p2 p3))), (.int (nar .byte (dbF (7 : Int32) p2 p3)))] (.int (0 : Int32)) := Arv.set Ar281 q281 S281 N281n H281 G281 (fits_nar_byte _) W281 7 rfl (Nat.le_of_ble_eq_true rfl)
    have Zs281 : n0 ≤ h281.size := Nat.le_trans Zs279 (Keep.of_wr W281).1
    have O281 : Old Z n0 h281 := O279.wr W281 g_b265
    have N281 := Fr.snoc X281 N280 g_b265
    have fE_t261_281 := fE_t261_279.wr W281
    have fV_t261_281 := fV_t261_279.other W281 ne_t261_b265
    have fE_b262_281 := fE_b262_279.wr W281
    have fF_b262_content_281 := fF_b262_content_279.other W281 (Or.inl ne_b262_b265)
    have fV_ct264_281 := fV_ct264_279.other W281 ne_ct264_b265
    show Go p e below _ (T281.setTop (mkF m 123 #[.val (.int p1), .val (.int p2), .val (.int p3), .val (.int p4), .val (.int p5), .val (.int (4 : Int32)), .val (.int off), .val (.ref t261), .val (.ref b262), .unset] [(.ref b265)]))
    refine Go.via (fun _ => XS.astore X281.here hx rfl (hb hby at_123) rfl rfl (l' := #[.val (.int p1), .val (.int p2), .val (.int p3), .val (.int p4), .val (.int p5), .val (.int (4 : Int32)), .val (.int off), .val (.ref t261), .val (.ref b262), .val (.ref b265)]) rfl) ?_
    show Go p e below _ (T281.setTop (mkF m 125 #[.val (.int p1), .val (.int p2), .val (.int p3), .val (.int p4), .val (.int p5), .val (.int (4 : Int32)), .val (.int off), .val (.ref t261), .val (.ref b262), .val (.ref b265)] []))
    refine Go.via (fun _ => XS.aload X281.here hx rfl (hb hby at_125) rfl rfl) ?_
    show Go p e below _ (T281.setTop (mkF m 127 #[.val (.int p1), .val (.int p2), .val (.int p3), .val (.int p4), .val (.int p5), .val (.int (4 : Int32)), .val (.int off), .val (.ref t261), .val (.ref b262), .val (.ref b265)] [(.ref b262)]))
    refine Go.via (fun _ => XS.aload X281.here hx rfl (hb hby at_127) rfl rfl) ?_
    show Go p e below _ (T281.setTop (mkF m 129 #[.val (.int p1), .val (.int p2), .val (.int p3), .val (.int p4), .val (.int p5), .val (.int (4 : Int32)), .val (.int off), .val (.ref t261), .val (.ref b262), .val (.ref b265)] [(.ref b265), (.ref b262)]))
    refine Go.via (fun _ => XS.iload X281.here hx rfl (hb hby at_129) rfl) ?_
    show Go p e below _ (T281.setTop (mkF m 131 #[.val (.int p1), .val (.int p2), .val (.int p3), .val (.int p4), .val (.int p5), .val (.int (4 : Int32)), .val (.int off), .val (.ref t261), .val (.ref b262), .val (.ref b265)] [(.int off), (.ref b265), (.ref b262)]))
    obtain ⟨cq282, kq282, q282a, q282b, q282c⟩ := isOf hZ e281 fE_b262_281
    obtain ⟨_, _, ⟨T282, L282, k282, n282⟩, -, X282, ⟨Lc282, hQ282, l282, y282, z282⟩, st282⟩ := X281.virtualBack hx (y := (⟨"com/example/sluice/sluice/processor/FlowFile", "copyContent", "([BI)V"⟩ : MethodName)) (z := (⟨"com/example/sluice/sluice/processor/FlowFile", "copyContent", "([BI)V"⟩ : MethodName)) hown (mvT hZ (hw _ (List.mem_of_getElem? (i := 48) rfl))) (mvT hZ (hw _ (List.mem_of_getElem? (i := 49) rfl))) (notFace_of_selects (args := #[]) (mvT hZ (hw _ (List.mem_of_getElem? (i := 51) rfl)))) (mvT hZ (hw _ (List.mem_of_getElem? (i := 51) rfl))) (mvT hZ (hw _ (List.mem_of_getElem? (i := 50) rfl))) (by decide) (backOf (W := 0) (rmCC l Z a0 hw [] b262 ct264 kb261 (4 : Int32) _ b265 k265 _ off h281 n0 Zs281 fF_b262_content_281 fV_ct264_281 V281 g_b265 (own_neg4 hoff) (by decide) (own_le4 hoff) rfl) hZ (hw _ (List.mem_of_getElem? (i := 52) rfl)) (hw _ (List.mem_of_getElem? (i := 11) rfl)) (by decide) (by decide)) q282a q282c (g := (mkF m 131 #[.val (.int p1), .val (.int p2), .val (.int p3), .val (.int p4), .val (.int p5), .val (.int (4 : Int32)), .val (.int off), .val (.ref t261), .val (.ref b262), .val (.ref b265)] [(.int off), (.ref b265), (.ref b262)])) rfl (by rw [hml]; rfl) (Steps.refl _) (argsL := [(.ref b265), (.int off)]) (rest := []) (lenOf pd_7 rfl) rfl (by show 2 * 0 + _ ≤ _; exact Nat.le_of_eq rfl) (hb hby at_131) (fun _ _ => ⟨rfl, e281, (by decide : 4 + 0 ≤ _), (by decide : 18 + 0 ≤ _)⟩)
    dsimp only [Pt.U, Pt.locs, Pt.cells, Pt.slots] at X282 l282 y282 z282 st282 hQ282
    rw [l282, y282, z282] at X282
    replace X282 : Stand p l e _ _ m _ below meth c T282 _ 4 18 := X282
    obtain ⟨rfl, N282q, K282q, vb282⟩ := hQ282
    have N282 := Fr.app N281 N282q
    refine Go.tr st282 ?_
    have Zs282 : n0 ≤ T282.heap.size := Nat.le_trans Zs281 K282q.1
    have O282 : Old Z n0 T282.heap := O281.keep K282q (allS g_b265 all0)
    have fE_t261_282 := fE_t261_281.keep K282q
    have fV_t261_282 := fV_t261_281.keep K282q (ninS ne_t261_b265 nin0)
    have fE_b262_282 := fE_b262_281.keep K282q
    have fF_b262_content_282 := fF_b262_content_281.keep K282q (ninS ne_b262_b265 nin0)
    have fV_ct264_282 := fV_ct264_281.keep K282q (ninS ne_ct264_b265 nin0)
    rw [own_mix4 p1 p2 p3 off hoff] at vb282
    show Go p e below _ (T282.setTop (mkF m 134 #[.val (.int p1), .val (.int p2), .val (.int p3), .val (.int p4), .val (.int p5), .val (.int (4 : Int32)), .val (.int off), .val (.ref t261), .val (.ref b262), .val (.ref b265)] []))
    refine Go.via (fun _ => XS.aload X282.here hx rfl (hb hby at_134) rfl rfl) ?_
    show Go p e below _ (T282.setTop (mkF m 136 #[.val (.int p1), .val (.int p2), .val (.int p3), .val (.int p4), .val (.int p5), .val (.int (4 : Int32)), .val (.int off), .val (.ref t261), .val (.ref b262), .val (.ref b265)] [(.ref b262)]))
    obtain ⟨cq283, kq283, q283a, q283b, q283c⟩ := isOf hZ rfl fE_b262_282
    obtain ⟨_, _, ⟨T283, L283, k283, n283⟩, -, X283, ⟨Lc283, hQ283, l283, y283, z283⟩, st283⟩ := X282.virtualBack hx (y := (⟨"com/example/sluice/sluice/processor/FlowFile", "size", "()I"⟩ : MethodName)) (z := (⟨"com/example/sluice/sluice/processor/FlowFile", "size", "()I"⟩ : MethodName)) hown (mvT hZ (hw _ (List.mem_of_getElem? (i := 57) rfl))) (mvT hZ (hw _ (List.mem_of_getElem? (i := 58) rfl))) (notFace_of_selects (args := #[]) (mvT hZ (hw _ (List.mem_of_getElem? (i := 60) rfl)))) (mvT hZ (hw _ (List.mem_of_getElem? (i := 60) rfl))) (mvT hZ (hw _ (List.mem_of_getElem? (i := 59) rfl))) (by decide) (backOf (W := 0) (rmSz l Z a0 hw [] b262 ct264 kb261 (4 : Int32) _ T282.heap n0 Zs282 fF_b262_content_282 fV_ct264_282) hZ (hw _ (List.mem_of_getElem? (i := 61) rfl)) (hw _ (List.mem_of_getElem? (i := 11) rfl)) (by decide) (by decide)) q283a q283c (g := (mkF m 136 #[.val (.int p1), .val (.int p2), .val (.int p3), .val (.int p4), .val (.int p5), .val (.int (4 : Int32)), .val (.int off), .val (.ref t261), .val (.ref b262), .val (.ref b265)] [(.ref b262)])) rfl (by rw [hml]; rfl) (Steps.refl _) (argsL := []) (rest := []) (lenOf pd_8 rfl) rfl (by show 2 * 0 + _ ≤ _; exact Nat.le_of_eq rfl) (hb hby at_136) (fun _ _ => ⟨rfl, rfl, (by decide : 4 + 0 ≤ _), (by decide : 18 + 0 ≤ _)⟩)
    dsimp only [Pt.U, Pt.locs, Pt.cells, Pt.slots] at X283 l283 y283 z283 st283 hQ283
    rw [l283, y283, z283] at X283
    replace X283 : Stand p l e _ _ m _ below meth c T283 _ 4 18 := X283
    obtain ⟨rfl, N283q, e283q⟩ := hQ283
    have N283 := Fr.app N282 N283q
    refine Go.tr st283 ?_
    show Go p e below _ (T283.setTop (mkF m 139 #[.val (.int p1), .val (.int p2), .val (.int p3), .val (.int p4), .val (.int p5), .val (.int (4 : Int32)), .val (.int off), .val (.ref t261), .val (.ref b262), .val (.ref b265)] [(.int (4 : Int32))]))
    refine Go.via (fun _ => XS.iload X283.here hx rfl (hb hby at_139) rfl) ?_
    show Go p e below _ (T283.setTop (mkF m 141 #[.val (.int p1), .val (.int p2), .val (.int p3), .val (.int p4), .val (.int p5), .val (.int (4 : Int32)), .val (.int off), .val (.ref t261), .val (.ref b262), .val (.ref b265)] [(.int (4 : Int32)), (.int (4 : Int32))]))
    refine Go.via (fun _ => XS.icmpNo X283.here hx rfl (hb hby at_141) rfl (by decide)) ?_
    show Go p e below _ (T283.setTop (mkF m 144 #[.val (.int p1), .val (.int p2), .val (.int p3), .val (.int p4), .val (.int p5), .val (.int (4 : Int32)), .val (.int off), .val (.ref t261), .val (.ref b262), .val (.ref b265)] []))
    refine Go.via (fun _ => XS.aload X283.here hx rfl (hb hby at_144) rfl rfl) ?_
    show Go p e below _ (T283.setTop (mkF m 146 #[.val (.int p1), .val (.int p2), .val (.int p3), .val (.int p4), .val (.int p5), .val (.int (4 : Int32)), .val (.int off), .val (.ref t261), .val (.ref b262), .val (.ref b265)] [(.ref b265)]))
    obtain ⟨cl284, Ar284, -, S284, N284n, -, -⟩ := id vb282
    have al284 := X283.arraylength hx (by rw [e283q]; exact Ar284.1) (State.isArrayOf_alike hZ.alike Ar284.2.1) (g := (mkF m 146 #[.val (.int p1), .val (.int p2), .val (.int p3), .val (.int p4), .val (.int p5), .val (.int (4 : Int32)), .val (.int off), .val (.ref t261), .val (.ref b262), .val (.ref b265)] [(.ref b265)])) rfl rfl (hb hby at_146)
    rw [len_of S284 N284n] at al284
    refine Go.via al284 ?_
    show Go p e below _ (T283.setTop (mkF m 147 #[.val (.int p1), .val (.int p2), .val (.int p3), .val (.int p4), .val (.int p5), .val (.int (4 : Int32)), .val (.int off), .val (.ref t261), .val (.ref b262), .val (.ref b265)] [(.int (8 : Int32))]))
    refine Go.via (fun _ => XS.bipush X283.here hx rfl (hb hby at_147)) ?_
    show Go p e below _ (T283.setTop (mkF m 149 #[.val (.int p1), .val (.int p2), .val (.int p3), .val (.int p4), .val (.int p5), .val (.int (4 : Int32)), .val (.int off), .val (.ref t261), .val (.ref b262), .val (.ref b265)] [(.int (8 : Int32)), (.int (8 : Int32))]))
    refine Go.via (fun _ => XS.icmpNo X283.here hx rfl (hb hby at_149) rfl (by decide)) ?_
    show Go p e below _ (T283.setTop (mkF m 152 #[.val (.int p1), .val (.int p2), .val (.int p3), .val (.int p4), .val (.int p5), .val (.int (4 : Int32)), .val (.int off), .val (.ref t261), .val (.ref b262), .val (.ref b265)] []))
    refine Go.via (fun _ => XS.aload X283.here hx rfl (hb hby at_152) rfl rfl) ?_
    show Go p e below _ (T283.setTop (mkF m 154 #[.val (.int p1), .val (.int p2), .val (.int p3), .val (.int p4), .val (.int p5), .val (.int (4 : Int32)), .val (.int off), .val (.ref t261), .val (.ref b262), .val (.ref b265)] [(.ref b265)]))
    refine Go.via (fun _ => XS.iconst X283.here hx rfl (hb hby at_154)) ?_
    show Go p e below _ (T283.setTop (mkF m 155 #[.val (.int p1), .val (.int p2), .val (.int p3), .val (.int p4), .val (.int p5), .val (.int (4 : Int32)), .val (.int off), .val (.ref t261), .val (.ref b262), .val (.ref b265)] [(.int (0 : Int32)), (.ref b265)]))
    obtain ⟨cl285, Ar285, q285, S285, N285n, H285, G285⟩ := id vb282
    have hin285 := inb_of (j := (0 : Int32)) S285 (by decide)
    have hat285 : cl285.slots[((0 : Int32) : Int32).toNatClampNeg]? = some (.int (exF (0 : Int32) off (4 : Int32) p1 p2 p3)) := H285.at hin285 rfl
    refine Go.via (X283.baloadBytes hx (j := (0 : Int32)) (v := (.int (exF (0 : Int32) off (4 : Int32) p1 p2 p3))) (by rw [e283q]; exact Ar285.1) (State.isArrayOf_alike hZ.alike Ar285.2.1) Ar285.2.2 hin285 hat285 (g := (mkF m 155 #[.val (.int p1), .val (.int p2), .val (.int p3), .val (.int p4), .val (.int p5), .val (.int (4 : Int32)), .val (.int off), .val (.ref t261), .val (.ref b262), .val (.ref b265)] [(.int (0 : Int32)), (.ref b265)])) rfl rfl (hb hby at_155)) ?_
    show Go p e below _ (T283.setTop (mkF m 156 #[.val (.int p1), .val (.int p2), .val (.int p3), .val (.int p4), .val (.int p5), .val (.int (4 : Int32)), .val (.int off), .val (.ref t261), .val (.ref b262), .val (.ref b265)] [(.int (exF (0 : Int32) off (4 : Int32) p1 p2 p3))]))
    refine Go.via (fun _ => XS.iconst X283.here hx rfl (hb hby at_156)) ?_
    show Go p e below _ (T283.setTop (mkF m 157 #[.val (.int p1), .val (.int p2), .val (.int p3), .val (.int p4), .val (.int p5), .val (.int (4 : Int32)), .val (.int off), .val (.ref t261), .val (.ref b262), .val (.ref b265)] [(.int (0 : Int32)), (.int (exF (0 : Int32) off (4 : Int32) p1 p2 p3))]))
    refine Go.via (fun _ => XS.iload X283.here hx rfl (hb hby at_157) rfl) ?_
    show Go p e below _ (T283.setTop (mkF m 159 #[.val (.int p1), .val (.int p2), .val (.int p3), .val (.int p4), .val (.int p5), .val (.int (4 : Int32)), .val (.int off), .val (.ref t261), .val (.ref b262), .val (.ref b265)] [(.int off), (.int (0 : Int32)), (.int (exF (0 : Int32) off (4 : Int32) p1 p2 p3))]))
    refine Go.via (fun _ => XS.iload X283.here hx rfl (hb hby at_159) rfl) ?_
    show Go p e below _ (T283.setTop (mkF m 161 #[.val (.int p1), .val (.int p2), .val (.int p3), .val (.int p4), .val (.int p5), .val (.int (4 : Int32)), .val (.int off), .val (.ref t261), .val (.ref b262), .val (.ref b265)] [(.int (4 : Int32)), (.int off), (.int (0 : Int32)), (.int (exF (0 : Int32) off (4 : Int32) p1 p2 p3))]))
    refine Go.via (fun _ => XS.iloadN X283.here hx rfl (hb hby at_161) rfl) ?_
    show Go p e below _ (T283.setTop (mkF m 162 #[.val (.int p1), .val (.int p2), .val (.int p3), .val (.int p4), .val (.int p5), .val (.int (4 : Int32)), .val (.int off), .val (.ref t261), .val (.ref b262), .val (.ref b265)] [(.int p1), (.int (4 : Int32)), (.int off), (.int (0 : Int32)), (.int (exF (0 : Int32) off (4 : Int32) p1 p2 p3))]))
    refine Go.via (fun _ => XS.iloadN X283.here hx rfl (hb hby at_162) rfl) ?_
    show Go p e below _ (T283.setTop (mkF m 163 #[.val (.int p1), .val (.int p2), .val (.int p3), .val (.int p4), .val (.int p5), .val (.int (4 : Int32)), .val (.int off), .val (.ref t261), .val (.ref b262), .val (.ref b265)] [(.int p2), (.int p1), (.int (4 : Int32)), (.int off), (.int (0 : Int32)), (.int (exF (0 : Int32) off (4 : Int32) p1 p2 p3))]))
    refine Go.via (fun _ => XS.iloadN X283.here hx rfl (hb hby at_163) rfl) ?_
    show Go p e below _ (T283.setTop (mkF m 164 #[.val (.int p1), .val (.int p2), .val (.int p3), .val (.int p4), .val (.int p5), .val (.int (4 : Int32)), .val (.int off), .val (.ref t261), .val (.ref b262), .val (.ref b265)] [(.int p3), (.int p2), (.int p1), (.int (4 : Int32)), (.int off), (.int (0 : Int32)), (.int (exF (0 : Int32) off (4 : Int32) p1 p2 p3))]))
    obtain ⟨_, _, ⟨T286, L286, k286, n286⟩, -, X286, ⟨Lc286, hQ286, l286, y286, z286⟩, st286⟩ := Jvm.LawKit.callS X283 hx (y := (⟨"com/example/sluice/sluice/processor/FlowFileCopyContentPinLaw", "expected", "(IIIIII)B"⟩ : MethodName)) hown (mvT hZ (hw _ (List.mem_of_getElem? (i := 62) rfl))) (mvT hZ (hw _ (List.mem_of_getElem? (i := 63) rfl))) (mvT hZ (hw _ (List.mem_of_getElem? (i := 3) rfl))) (mvT hZ (hw _ (List.mem_of_getElem? (i := 64) rfl))) (by decide) (backOf (W := 1) (rmEx l Z a0 hw [] (0 : Int32) off (4 : Int32) p1 p2 p3 T282.heap n0 Zs282) hZ (hw _ (List.mem_of_getElem? (i := 64) rfl)) (hw _ (List.mem_of_getElem? (i := 3) rfl)) (by decide) (by decide)) (g := (mkF m 164 #[.val (.int p1), .val (.int p2), .val (.int p3), .val (.int p4), .val (.int p5), .val (.int (4 : Int32)), .val (.int off), .val (.ref t261), .val (.ref b262), .val (.ref b265)] [(.int p3), (.int p2), (.int p1), (.int (4 : Int32)), (.int off), (.int (0 : Int32)), (.int (exF (0 : Int32) off (4 : Int32) p1 p2 p3))])) rfl (by rw [hml]; rfl) (argsL := [(.int (0 : Int32)), (.int off), (.int (4 : Int32)), (.int p1), (.int p2), (.int p3)]) (rest := [(.int (exF (0 : Int32) off (4 : Int32) p1 p2 p3))]) (lenOf pd_9 rfl) rfl (by show 2 * 0 + _ ≤ _; exact Nat.le_of_eq rfl) (hb hby at_164) (fun _ _ => ⟨rfl, e283q, (by decide : 4 + 0 ≤ _), (by decide : 18 + 0 ≤ _)⟩)
    dsimp only [Pt.U, Pt.locs, Pt.cells, Pt.slots] at X286 l286 y286 z286 st286 hQ286
    rw [l286, y286, z286] at X286
    replace X286 : Stand p l e _ _ m _ below meth c T286 _ 4 18 := X286
    obtain ⟨rfl, N286q, e286q⟩ := hQ286
    have N286 := Fr.app N283 N286q
    refine Go.via st286 ?_
    show Go p e below _ (T286.setTop (mkF m 167 #[.val (.int p1), .val (.int p2), .val (.int p3), .val (.int p4), .val (.int p5), .val (.int (4 : Int32)), .val (.int off), .val (.ref t261), .val (.ref b262), .val (.ref b265)] [(.int (exF (0 : Int32) off (4 : Int32) p1 p2 p3)), (.int (exF (0 : Int32) off (4 : Int32) p1 p2 p3))]))
    refine Go.via (fun _ => XS.icmpNo X286.here hx rfl (hb hby at_167) rfl (teq rfl).2) ?_
    show Go p e below _ (T286.setTop (mkF m 170 #[.val (.int p1), .val (.int p2), .val (.int p3), .val (.int p4), .val (.int p5), .val (.int (4 : Int32)), .val (.int off), .val (.ref t261), .val (.ref b262), .val (.ref b265)] []))
    refine Go.via (fun _ => XS.aload X286.here hx rfl (hb hby at_170) rfl rfl) ?_
    show Go p e below _ (T286.setTop (mkF m 172 #[.val (.int p1), .val (.int p2), .val (.int p3), .val (.int p4), .val (.int p5), .val (.int (4 : Int32)), .val (.int off), .val (.ref t261), .val (.ref b262), .val (.ref b265)] [(.ref b265)]))
    refine Go.via (fun _ => XS.iconst X286.here hx rfl (hb hby at_172)) ?_
    show Go p e below _ (T286.setTop (mkF m 173 #[.val (.int p1), .val (.int p2), .val (.int p3), .val (.int p4), .val (.int p5), .val (.int (4 : Int32)), .val (.int off), .val (.ref t261), .val (.ref b262), .val (.ref b265)] [(.int (1 : Int32)), (.ref b265)]))
    obtain ⟨cl287, Ar287, q287, S287, N287n, H287, G287⟩ := id vb282
    have hin287 := inb_of (j := (1 : Int32)) S287 (by decide)
    have hat287 : cl287.slots[((1 : Int32) : Int32).toNatClampNeg]? = some (.int (exF (1 : Int32) off (4 : Int32) p1 p2 p3)) := H287.at hin287 rfl
    refine Go.via (X286.baloadBytes hx (j := (1 : Int32)) (v := (.int (exF (1 : Int32) off (4 : Int32) p1 p2 p3))) (by rw [e286q]; exact Ar287.1) (State.isArrayOf_alike hZ.alike Ar287.2.1) Ar287.2.2 hin287 hat287 (g := (mkF m 173 #[.val (.int p1), .val (.int p2), .val (.int p3), .val (.int p4), .val (.int p5), .val (.int (4 : Int32)), .val (.int off), .val (.ref t261), .val (.ref b262), .val (.ref b265)] [(.int (1 : Int32)), (.ref b265)])) rfl rfl (hb hby at_173)) ?_
    show Go p e below _ (T286.setTop (mkF m 174 #[.val (.int p1), .val (.int p2), .val (.int p3), .val (.int p4), .val (.int p5), .val (.int (4 : Int32)), .val (.int off), .val (.ref t261), .val (.ref b262), .val (.ref b265)] [(.int (exF (1 : Int32) off (4 : Int32) p1 p2 p3))]))
    refine Go.via (fun _ => XS.iconst X286.here hx rfl (hb hby at_174)) ?_
    show Go p e below _ (T286.setTop (mkF m 175 #[.val (.int p1), .val (.int p2), .val (.int p3), .val (.int p4), .val (.int p5), .val (.int (4 : Int32)), .val (.int off), .val (.ref t261), .val (.ref b262), .val (.ref b265)] [(.int (1 : Int32)), (.int (exF (1 : Int32) off (4 : Int32) p1 p2 p3))]))
    refine Go.via (fun _ => XS.iload X286.here hx rfl (hb hby at_175) rfl) ?_
    show Go p e below _ (T286.setTop (mkF m 177 #[.val (.int p1), .val (.int p2), .val (.int p3), .val (.int p4), .val (.int p5), .val (.int (4 : Int32)), .val (.int off), .val (.ref t261), .val (.ref b262), .val (.ref b265)] [(.int off), (.int (1 : Int32)), (.int (exF (1 : Int32) off (4 : Int32) p1 p2 p3))]))
    refine Go.via (fun _ => XS.iload X286.here hx rfl (hb hby at_177) rfl) ?_
    show Go p e below _ (T286.setTop (mkF m 179 #[.val (.int p1), .val (.int p2), .val (.int p3), .val (.int p4), .val (.int p5), .val (.int (4 : Int32)), .val (.int off), .val (.ref t261), .val (.ref b262), .val (.ref b265)] [(.int (4 : Int32)), (.int off), (.int (1 : Int32)), (.int (exF (1 : Int32) off (4 : Int32) p1 p2 p3))]))
    refine Go.via (fun _ => XS.iloadN X286.here hx rfl (hb hby at_179) rfl) ?_
    show Go p e below _ (T286.setTop (mkF m 180 #[.val (.int p1), .val (.int p2), .val (.int p3), .val (.int p4), .val (.int p5), .val (.int (4 : Int32)), .val (.int off), .val (.ref t261), .val (.ref b262), .val (.ref b265)] [(.int p1), (.int (4 : Int32)), (.int off), (.int (1 : Int32)), (.int (exF (1 : Int32) off (4 : Int32) p1 p2 p3))]))
    refine Go.via (fun _ => XS.iloadN X286.here hx rfl (hb hby at_180) rfl) ?_
    show Go p e below _ (T286.setTop (mkF m 181 #[.val (.int p1), .val (.int p2), .val (.int p3), .val (.int p4), .val (.int p5), .val (.int (4 : Int32)), .val (.int off), .val (.ref t261), .val (.ref b262), .val (.ref b265)] [(.int p2), (.int p1), (.int (4 : Int32)), (.int off), (.int (1 : Int32)), (.int (exF (1 : Int32) off (4 : Int32) p1 p2 p3))]))
    refine Go.via (fun _ => XS.iloadN X286.here hx rfl (hb hby at_181) rfl) ?_
    show Go p e below _ (T286.setTop (mkF m 182 #[.val (.int p1), .val (.int p2), .val (.int p3), .val (.int p4), .val (.int p5), .val (.int (4 : Int32)), .val (.int off), .val (.ref t261), .val (.ref b262), .val (.ref b265)] [(.int p3), (.int p2), (.int p1), (.int (4 : Int32)), (.int off), (.int (1 : Int32)), (.int (exF (1 : Int32) off (4 : Int32) p1 p2 p3))]))
    obtain ⟨_, _, ⟨T288, L288, k288, n288⟩, -, X288, ⟨Lc288, hQ288, l288, y288, z288⟩, st288⟩ := Jvm.LawKit.callS X286 hx (y := (⟨"com/example/sluice/sluice/processor/FlowFileCopyContentPinLaw", "expected", "(IIIIII)B"⟩ : MethodName)) hown (mvT hZ (hw _ (List.mem_of_getElem? (i := 62) rfl))) (mvT hZ (hw _ (List.mem_of_getElem? (i := 63) rfl))) (mvT hZ (hw _ (List.mem_of_getElem? (i := 3) rfl))) (mvT hZ (hw _ (List.mem_of_getElem? (i := 64) rfl))) (by decide) (backOf (W := 1) (rmEx l Z a0 hw [] (1 : Int32) off (4 : Int32) p1 p2 p3 T282.heap n0 Zs282) hZ (hw _ (List.mem_of_getElem? (i := 64) rfl)) (hw _ (List.mem_of_getElem? (i := 3) rfl)) (by decide) (by decide)) (g := (mkF m 182 #[.val (.int p1), .val (.int p2), .val (.int p3), .val (.int p4), .val (.int p5), .val (.int (4 : Int32)), .val (.int off), .val (.ref t261), .val (.ref b262), .val (.ref b265)] [(.int p3), (.int p2), (.int p1), (.int (4 : Int32)), (.int off), (.int (1 : Int32)), (.int (exF (1 : Int32) off (4 : Int32) p1 p2 p3))])) rfl (by rw [hml]; rfl) (argsL := [(.int (1 : Int32)), (.int off), (.int (4 : Int32)), (.int p1), (.int p2), (.int p3)]) (rest := [(.int (exF (1 : Int32) off (4 : Int32) p1 p2 p3))]) (lenOf pd_9 rfl) rfl (by show 2 * 0 + _ ≤ _; exact Nat.le_of_eq rfl) (hb hby at_182) (fun _ _ => ⟨rfl, e286q, (by decide : 4 + 0 ≤ _), (by decide : 18 + 0 ≤ _)⟩)
    dsimp only [Pt.U, Pt.locs, Pt.cells, Pt.slots] at X288 l288 y288 z288 st288 hQ288
    rw [l288, y288, z288] at X288
    replace X288 : Stand p l e _ _ m _ below meth c T288 _ 4 18 := X288
    obtain ⟨rfl, N288q, e288q⟩ := hQ288
    have N288 := Fr.app N286 N288q
    refine Go.via st288 ?_
    show Go p e below _ (T288.setTop (mkF m 185 #[.val (.int p1), .val (.int p2), .val (.int p3), .val (.int p4), .val (.int p5), .val (.int (4 : Int32)), .val (.int off), .val (.ref t261), .val (.ref b262), .val (.ref b265)] [(.int (exF (1 : Int32) off (4 : Int32) p1 p2 p3)), (.int (exF (1 : Int32) off (4 : Int32) p1 p2 p3))]))
    refine Go.via (fun _ => XS.icmpNo X288.here hx rfl (hb hby at_185) rfl (teq rfl).2) ?_
    show Go p e below _ (T288.setTop (mkF m 188 #[.val (.int p1), .val (.int p2), .val (.int p3), .val (.int p4), .val (.int p5), .val (.int (4 : Int32)), .val (.int off), .val (.ref t261), .val (.ref b262), .val (.ref b265)] []))
    refine Go.via (fun _ => XS.aload X288.here hx rfl (hb hby at_188) rfl rfl) ?_
    show Go p e below _ (T288.setTop (mkF m 190 #[.val (.int p1), .val (.int p2), .val (.int p3), .val (.int p4), .val (.int p5), .val (.int (4 : Int32)), .val (.int off), .val (.ref t261), .val (.ref b262), .val (.ref b265)] [(.ref b265)]))
    refine Go.via (fun _ => XS.iconst X288.here hx rfl (hb hby at_190)) ?_
    show Go p e below _ (T288.setTop (mkF m 191 #[.val (.int p1), .val (.int p2), .val (.int p3), .val (.int p4), .val (.int p5), .val (.int (4 : Int32)), .val (.int off), .val (.ref t261), .val (.ref b262), .val (.ref b265)] [(.int (2 : Int32)), (.ref b265)]))
    obtain ⟨cl289, Ar289, q289, S289, N289n, H289, G289⟩ := id vb282
    have hin289 := inb_of (j := (2 : Int32)) S289 (by decide)
    have hat289 : cl289.slots[((2 : Int32) : Int32).toNatClampNeg]? = some (.int (exF (2 : Int32) off (4 : Int32) p1 p2 p3)) := H289.at hin289 rfl
    refine Go.via (X288.baloadBytes hx (j := (2 : Int32)) (v := (.int (exF (2 : Int32) off (4 : Int32) p1 p2 p3))) (by rw [e288q]; exact Ar289.1) (State.isArrayOf_alike hZ.alike Ar289.2.1) Ar289.2.2 hin289 hat289 (g := (mkF m 191 #[.val (.int p1), .val (.int p2), .val (.int p3), .val (.int p4), .val (.int p5), .val (.int (4 : Int32)), .val (.int off), .val (.ref t261), .val (.ref b262), .val (.ref b265)] [(.int (2 : Int32)), (.ref b265)])) rfl rfl (hb hby at_191)) ?_
    show Go p e below _ (T288.setTop (mkF m 192 #[.val (.int p1), .val (.int p2), .val (.int p3), .val (.int p4), .val (.int p5), .val (.int (4 : Int32)), .val (.int off), .val (.ref t261), .val (.ref b262), .val (.ref b265)] [(.int (exF (2 : Int32) off (4 : Int32) p1 p2 p3))]))
    refine Go.via (fun _ => XS.iconst X288.here hx rfl (hb hby at_192)) ?_
    show Go p e below _ (T288.setTop (mkF m 193 #[.val (.int p1), .val (.int p2), .val (.int p3), .val (.int p4), .val (.int p5), .val (.int (4 : Int32)), .val (.int off), .val (.ref t261), .val (.ref b262), .val (.ref b265)] [(.int (2 : Int32)), (.int (exF (2 : Int32) off (4 : Int32) p1 p2 p3))]))
    refine Go.via (fun _ => XS.iload X288.here hx rfl (hb hby at_193) rfl) ?_
    show Go p e below _ (T288.setTop (mkF m 195 #[.val (.int p1), .val (.int p2), .val (.int p3), .val (.int p4), .val (.int p5), .val (.int (4 : Int32)), .val (.int off), .val (.ref t261), .val (.ref b262), .val (.ref b265)] [(.int off), (.int (2 : Int32)), (.int (exF (2 : Int32) off (4 : Int32) p1 p2 p3))]))
    refine Go.via (fun _ => XS.iload X288.here hx rfl (hb hby at_195) rfl) ?_
    show Go p e below _ (T288.setTop (mkF m 197 #[.val (.int p1), .val (.int p2), .val (.int p3), .val (.int p4), .val (.int p5), .val (.int (4 : Int32)), .val (.int off), .val (.ref t261), .val (.ref b262), .val (.ref b265)] [(.int (4 : Int32)), (.int off), (.int (2 : Int32)), (.int (exF (2 : Int32) off (4 : Int32) p1 p2 p3))]))
    refine Go.via (fun _ => XS.iloadN X288.here hx rfl (hb hby at_197) rfl) ?_
    show Go p e below _ (T288.setTop (mkF m 198 #[.val (.int p1), .val (.int p2), .val (.int p3), .val (.int p4), .val (.int p5), .val (.int (4 : Int32)), .val (.int off), .val (.ref t261), .val (.ref b262), .val (.ref b265)] [(.int p1), (.int (4 : Int32)), (.int off), (.int (2 : Int32)), (.int (exF (2 : Int32) off (4 : Int32) p1 p2 p3))]))
    refine Go.via (fun _ => XS.iloadN X288.here hx rfl (hb hby at_198) rfl) ?_
    show Go p e below _ (T288.setTop (mkF m 199 #[.val (.int p1), .val (.int p2), .val (.int p3), .val (.int p4), .val (.int p5), .val (.int (4 : Int32)), .val (.int off), .val (.ref t261), .val (.ref b262), .val (.ref b265)] [(.int p2), (.int p1), (.int (4 : Int32)), (.int off), (.int (2 : Int32)), (.int (exF (2 : Int32) off (4 : Int32) p1 p2 p3))]))
    refine Go.via (fun _ => XS.iloadN X288.here hx rfl (hb hby at_199) rfl) ?_
    show Go p e below _ (T288.setTop (mkF m 200 #[.val (.int p1), .val (.int p2), .val (.int p3), .val (.int p4), .val (.int p5), .val (.int (4 : Int32)), .val (.int off), .val (.ref t261), .val (.ref b262), .val (.ref b265)] [(.int p3), (.int p2), (.int p1), (.int (4 : Int32)), (.int off), (.int (2 : Int32)), (.int (exF (2 : Int32) off (4 : Int32) p1 p2 p3))]))
    obtain ⟨_, _, ⟨T290, L290, k290, n290⟩, -, X290, ⟨Lc290, hQ290, l290, y290, z290⟩, st290⟩ := Jvm.LawKit.callS X288 hx (y := (⟨"com/example/sluice/sluice/processor/FlowFileCopyContentPinLaw", "expected", "(IIIIII)B"⟩ : MethodName)) hown (mvT hZ (hw _ (List.mem_of_getElem? (i := 62) rfl))) (mvT hZ (hw _ (List.mem_of_getElem? (i := 63) rfl))) (mvT hZ (hw _ (List.mem_of_getElem? (i := 3) rfl))) (mvT hZ (hw _ (List.mem_of_getElem? (i := 64) rfl))) (by decide) (backOf (W := 1) (rmEx l Z a0 hw [] (2 : Int32) off (4 : Int32) p1 p2 p3 T282.heap n0 Zs282) hZ (hw _ (List.mem_of_getElem? (i := 64) rfl)) (hw _ (List.mem_of_getElem? (i := 3) rfl)) (by decide) (by decide)) (g := (mkF m 200 #[.val (.int p1), .val (.int p2), .val (.int p3), .val (.int p4), .val (.int p5), .val (.int (4 : Int32)), .val (.int off), .val (.ref t261), .val (.ref b262), .val (.ref b265)] [(.int p3), (.int p2), (.int p1), (.int (4 : Int32)), (.int off), (.int (2 : Int32)), (.int (exF (2 : Int32) off (4 : Int32) p1 p2 p3))])) rfl (by rw [hml]; rfl) (argsL := [(.int (2 : Int32)), (.int off), (.int (4 : Int32)), (.int p1), (.int p2), (.int p3)]) (rest := [(.int (exF (2 : Int32) off (4 : Int32) p1 p2 p3))]) (lenOf pd_9 rfl) rfl (by show 2 * 0 + _ ≤ _; exact Nat.le_of_eq rfl) (hb hby at_200) (fun _ _ => ⟨rfl, e288q, (by decide : 4 + 0 ≤ _), (by decide : 18 + 0 ≤ _)⟩)
    dsimp only [Pt.U, Pt.locs, Pt.cells, Pt.slots] at X290 l290 y290 z290 st290 hQ290
    rw [l290, y290, z290] at X290
    replace X290 : Stand p l e _ _ m _ below meth c T290 _ 4 18 := X290
    obtain ⟨rfl, N290q, e290q⟩ := hQ290
    have N290 := Fr.app N288 N290q
    refine Go.via st290 ?_
    show Go p e below _ (T290.setTop (mkF m 203 #[.val (.int p1), .val (.int p2), .val (.int p3), .val (.int p4), .val (.int p5), .val (.int (4 : Int32)), .val (.int off), .val (.ref t261), .val (.ref b262), .val (.ref b265)] [(.int (exF (2 : Int32) off (4 : Int32) p1 p2 p3)), (.int (exF (2 : Int32) off (4 : Int32) p1 p2 p3))]))
    refine Go.via (fun _ => XS.icmpNo X290.here hx rfl (hb hby at_203) rfl (teq rfl).2) ?_
    show Go p e below _ (T290.setTop (mkF m 206 #[.val (.int p1), .val (.int p2), .val (.int p3), .val (.int p4), .val (.int p5), .val (.int (4 : Int32)), .val (.int off), .val (.ref t261), .val (.ref b262), .val (.ref b265)] []))
    refine Go.via (fun _ => XS.aload X290.here hx rfl (hb hby at_206) rfl rfl) ?_
    show Go p e below _ (T290.setTop (mkF m 208 #[.val (.int p1), .val (.int p2), .val (.int p3), .val (.int p4), .val (.int p5), .val (.int (4 : Int32)), .val (.int off), .val (.ref t261), .val (.ref b262), .val (.ref b265)] [(.ref b265)]))
    refine Go.via (fun _ => XS.iconst X290.here hx rfl (hb hby at_208)) ?_
    show Go p e below _ (T290.setTop (mkF m 209 #[.val (.int p1), .val (.int p2), .val (.int p3), .val (.int p4), .val (.int p5), .val (.int (4 : Int32)), .val (.int off), .val (.ref t261), .val (.ref b262), .val (.ref b265)] [(.int (3 : Int32)), (.ref b265)]))
    obtain ⟨cl291, Ar291, q291, S291, N291n, H291, G291⟩ := id vb282
    have hin291 := inb_of (j := (3 : Int32)) S291 (by decide)
    have hat291 : cl291.slots[((3 : Int32) : Int32).toNatClampNeg]? = some (.int (exF (3 : Int32) off (4 : Int32) p1 p2 p3)) := H291.at hin291 rfl
    refine Go.via (X290.baloadBytes hx (j := (3 : Int32)) (v := (.int (exF (3 : Int32) off (4 : Int32) p1 p2 p3))) (by rw [e290q]; exact Ar291.1) (State.isArrayOf_alike hZ.alike Ar291.2.1) Ar291.2.2 hin291 hat291 (g := (mkF m 209 #[.val (.int p1), .val (.int p2), .val (.int p3), .val (.int p4), .val (.int p5), .val (.int (4 : Int32)), .val (.int off), .val (.ref t261), .val (.ref b262), .val (.ref b265)] [(.int (3 : Int32)), (.ref b265)])) rfl rfl (hb hby at_209)) ?_
    show Go p e below _ (T290.setTop (mkF m 210 #[.val (.int p1), .val (.int p2), .val (.int p3), .val (.int p4), .val (.int p5), .val (.int (4 : Int32)), .val (.int off), .val (.ref t261), .val (.ref b262), .val (.ref b265)] [(.int (exF (3 : Int32) off (4 : Int32) p1 p2 p3))]))
    refine Go.via (fun _ => XS.iconst X290.here hx rfl (hb hby at_210)) ?_
    show Go p e below _ (T290.setTop (mkF m 211 #[.val (.int p1), .val (.int p2), .val (.int p3), .val (.int p4), .val (.int p5), .val (.int (4 : Int32)), .val (.int off), .val (.ref t261), .val (.ref b262), .val (.ref b265)] [(.int (3 : Int32)), (.int (exF (3 : Int32) off (4 : Int32) p1 p2 p3))]))
    refine Go.via (fun _ => XS.iload X290.here hx rfl (hb hby at_211) rfl) ?_
    show Go p e below _ (T290.setTop (mkF m 213 #[.val (.int p1), .val (.int p2), .val (.int p3), .val (.int p4), .val (.int p5), .val (.int (4 : Int32)), .val (.int off), .val (.ref t261), .val (.ref b262), .val (.ref b265)] [(.int off), (.int (3 : Int32)), (.int (exF (3 : Int32) off (4 : Int32) p1 p2 p3))]))
    refine Go.via (fun _ => XS.iload X290.here hx rfl (hb hby at_213) rfl) ?_
    show Go p e below _ (T290.setTop (mkF m 215 #[.val (.int p1), .val (.int p2), .val (.int p3), .val (.int p4), .val (.int p5), .val (.int (4 : Int32)), .val (.int off), .val (.ref t261), .val (.ref b262), .val (.ref b265)] [(.int (4 : Int32)), (.int off), (.int (3 : Int32)), (.int (exF (3 : Int32) off (4 : Int32) p1 p2 p3))]))
    refine Go.via (fun _ => XS.iloadN X290.here hx rfl (hb hby at_215) rfl) ?_
    show Go p e below _ (T290.setTop (mkF m 216 #[.val (.int p1), .val (.int p2), .val (.int p3), .val (.int p4), .val (.int p5), .val (.int (4 : Int32)), .val (.int off), .val (.ref t261), .val (.ref b262), .val (.ref b265)] [(.int p1), (.int (4 : Int32)), (.int off), (.int (3 : Int32)), (.int (exF (3 : Int32) off (4 : Int32) p1 p2 p3))]))
    refine Go.via (fun _ => XS.iloadN X290.here hx rfl (hb hby at_216) rfl) ?_
    show Go p e below _ (T290.setTop (mkF m 217 #[.val (.int p1), .val (.int p2), .val (.int p3), .val (.int p4), .val (.int p5), .val (.int (4 : Int32)), .val (.int off), .val (.ref t261), .val (.ref b262), .val (.ref b265)] [(.int p2), (.int p1), (.int (4 : Int32)), (.int off), (.int (3 : Int32)), (.int (exF (3 : Int32) off (4 : Int32) p1 p2 p3))]))
    refine Go.via (fun _ => XS.iloadN X290.here hx rfl (hb hby at_217) rfl) ?_
    show Go p e below _ (T290.setTop (mkF m 218 #[.val (.int p1), .val (.int p2), .val (.int p3), .val (.int p4), .val (.int p5), .val (.int (4 : Int32)), .val (.int off), .val (.ref t261), .val (.ref b262), .val (.ref b265)] [(.int p3), (.int p2), (.int p1), (.int (4 : Int32)), (.int off), (.int (3 : Int32)), (.int (exF (3 : Int32) off (4 : Int32) p1 p2 p3))]))
    obtain ⟨_, _, ⟨T292, L292, k292, n292⟩, -, X292, ⟨Lc292, hQ292, l292, y292, z292⟩, st292⟩ := Jvm.LawKit.callS X290 hx (y := (⟨"com/example/sluice/sluice/processor/FlowFileCopyContentPinLaw", "expected", "(IIIIII)B"⟩ : MethodName)) hown (mvT hZ (hw _ (List.mem_of_getElem? (i := 62) rfl))) (mvT hZ (hw _ (List.mem_of_getElem? (i := 63) rfl))) (mvT hZ (hw _ (List.mem_of_getElem? (i := 3) rfl))) (mvT hZ (hw _ (List.mem_of_getElem? (i := 64) rfl))) (by decide) (backOf (W := 1) (rmEx l Z a0 hw [] (3 : Int32) off (4 : Int32) p1 p2 p3 T282.heap n0 Zs282) hZ (hw _ (List.mem_of_getElem? (i := 64) rfl)) (hw _ (List.mem_of_getElem? (i := 3) rfl)) (by decide) (by decide)) (g := (mkF m 218 #[.val (.int p1), .val (.int p2), .val (.int p3), .val (.int p4), .val (.int p5), .val (.int (4 : Int32)), .val (.int off), .val (.ref t261), .val (.ref b262), .val (.ref b265)] [(.int p3), (.int p2), (.int p1), (.int (4 : Int32)), (.int off), (.int (3 : Int32)), (.int (exF (3 : Int32) off (4 : Int32) p1 p2 p3))])) rfl (by rw [hml]; rfl) (argsL := [(.int (3 : Int32)), (.int off), (.int (4 : Int32)), (.int p1), (.int p2), (.int p3)]) (rest := [(.int (exF (3 : Int32) off (4 : Int32) p1 p2 p3))]) (lenOf pd_9 rfl) rfl (by show 2 * 0 + _ ≤ _; exact Nat.le_of_eq rfl) (hb hby at_218) (fun _ _ => ⟨rfl, e290q, (by decide : 4 + 0 ≤ _), (by decide : 18 + 0 ≤ _)⟩)
    dsimp only [Pt.U, Pt.locs, Pt.cells, Pt.slots] at X292 l292 y292 z292 st292 hQ292
    rw [l292, y292, z292] at X292
    replace X292 : Stand p l e _ _ m _ below meth c T292 _ 4 18 := X292
    obtain ⟨rfl, N292q, e292q⟩ := hQ292
    have N292 := Fr.app N290 N292q
    refine Go.via st292 ?_
    show Go p e below _ (T292.setTop (mkF m 221 #[.val (.int p1), .val (.int p2), .val (.int p3), .val (.int p4), .val (.int p5), .val (.int (4 : Int32)), .val (.int off), .val (.ref t261), .val (.ref b262), .val (.ref b265)] [(.int (exF (3 : Int32) off (4 : Int32) p1 p2 p3)), (.int (exF (3 : Int32) off (4 : Int32) p1 p2 p3))]))
    refine Go.via (fun _ => XS.icmpNo X292.here hx rfl (hb hby at_221) rfl (teq rfl).2) ?_
    show Go p e below _ (T292.setTop (mkF m 224 #[.val (.int p1), .val (.int p2), .val (.int p3), .val (.int p4), .val (.int p5), .val (.int (4 : Int32)), .val (.int off), .val (.ref t261), .val (.ref b262), .val (.ref b265)] []))
    refine Go.via (fun _ => XS.aload X292.here hx rfl (hb hby at_224) rfl rfl) ?_
    show Go p e below _ (T292.setTop (mkF m 226 #[.val (.int p1), .val (.int p2), .val (.int p3), .val (.int p4), .val (.int p5), .val (.int (4 : Int32)), .val (.int off), .val (.ref t261), .val (.ref b262), .val (.ref b265)] [(.ref b265)]))
    refine Go.via (fun _ => XS.iconst X292.here hx rfl (hb hby at_226)) ?_
    show Go p e below _ (T292.setTop (mkF m 227 #[.val (.int p1), .val (.int p2), .val (.int p3), .val (.int p4), .val (.int p5), .val (.int (4 : Int32)), .val (.int off), .val (.ref t261), .val (.ref b262), .val (.ref b265)] [(.int (4 : Int32)), (.ref b265)]))
    obtain ⟨cl293, Ar293, q293, S293, N293n, H293, G293⟩ := id vb282
    have hin293 := inb_of (j := (4 : Int32)) S293 (by decide)
    have hat293 : cl293.slots[((4 : Int32) : Int32).toNatClampNeg]? = some (.int (exF (4 : Int32) off (4 : Int32) p1 p2 p3)) := H293.at hin293 rfl
    refine Go.via (X292.baloadBytes hx (j := (4 : Int32)) (v := (.int (exF (4 : Int32) off (4 : Int32) p1 p2 p3))) (by rw [e292q]; exact Ar293.1) (State.isArrayOf_alike hZ.alike Ar293.2.1) Ar293.2.2 hin293 hat293 (g := (mkF m 227 #[.val (.int p1), .val (.int p2), .val (.int p3), .val (.int p4), .val (.int p5), .val (.int (4 : Int32)), .val (.int off), .val (.ref t261), .val (.ref b262), .val (.ref b265)] [(.int (4 : Int32)), (.ref b265)])) rfl rfl (hb hby at_227)) ?_
    show Go p e below _ (T292.setTop (mkF m 228 #[.val (.int p1), .val (.int p2), .val (.int p3), .val (.int p4), .val (.int p5), .val (.int (4 : Int32)), .val (.int off), .val (.ref t261), .val (.ref b262), .val (.ref b265)] [(.int (exF (4 : Int32) off (4 : Int32) p1 p2 p3))]))
    refine Go.via (fun _ => XS.iconst X292.here hx rfl (hb hby at_228)) ?_
    show Go p e below _ (T292.setTop (mkF m 229 #[.val (.int p1), .val (.int p2), .val (.int p3), .val (.int p4), .val (.int p5), .val (.int (4 : Int32)), .val (.int off), .val (.ref t261), .val (.ref b262), .val (.ref b265)] [(.int (4 : Int32)), (.int (exF (4 : Int32) off (4 : Int32) p1 p2 p3))]))
    refine Go.via (fun _ => XS.iload X292.here hx rfl (hb hby at_229) rfl) ?_
    show Go p e below _ (T292.setTop (mkF m 231 #[.val (.int p1), .val (.int p2), .val (.int p3), .val (.int p4), .val (.int p5), .val (.int (4 : Int32)), .val (.int off), .val (.ref t261), .val (.ref b262), .val (.ref b265)] [(.int off), (.int (4 : Int32)), (.int (exF (4 : Int32) off (4 : Int32) p1 p2 p3))]))
    refine Go.via (fun _ => XS.iload X292.here hx rfl (hb hby at_231) rfl) ?_
    show Go p e below _ (T292.setTop (mkF m 233 #[.val (.int p1), .val (.int p2), .val (.int p3), .val (.int p4), .val (.int p5), .val (.int (4 : Int32)), .val (.int off), .val (.ref t261), .val (.ref b262), .val (.ref b265)] [(.int (4 : Int32)), (.int off), (.int (4 : Int32)), (.int (exF (4 : Int32) off (4 : Int32) p1 p2 p3))]))
    refine Go.via (fun _ => XS.iloadN X292.here hx rfl (hb hby at_233) rfl) ?_
    show Go p e below _ (T292.setTop (mkF m 234 #[.val (.int p1), .val (.int p2), .val (.int p3), .val (.int p4), .val (.int p5), .val (.int (4 : Int32)), .val (.int off), .val (.ref t261), .val (.ref b262), .val (.ref b265)] [(.int p1), (.int (4 : Int32)), (.int off), (.int (4 : Int32)), (.int (exF (4 : Int32) off (4 : Int32) p1 p2 p3))]))
    refine Go.via (fun _ => XS.iloadN X292.here hx rfl (hb hby at_234) rfl) ?_
    show Go p e below _ (T292.setTop (mkF m 235 #[.val (.int p1), .val (.int p2), .val (.int p3), .val (.int p4), .val (.int p5), .val (.int (4 : Int32)), .val (.int off), .val (.ref t261), .val (.ref b262), .val (.ref b265)] [(.int p2), (.int p1), (.int (4 : Int32)), (.int off), (.int (4 : Int32)), (.int (exF (4 : Int32) off (4 : Int32) p1 p2 p3))]))
    refine Go.via (fun _ => XS.iloadN X292.here hx rfl (hb hby at_235) rfl) ?_
    show Go p e below _ (T292.setTop (mkF m 236 #[.val (.int p1), .val (.int p2), .val (.int p3), .val (.int p4), .val (.int p5), .val (.int (4 : Int32)), .val (.int off), .val (.ref t261), .val (.ref b262), .val (.ref b265)] [(.int p3), (.int p2), (.int p1), (.int (4 : Int32)), (.int off), (.int (4 : Int32)), (.int (exF (4 : Int32) off (4 : Int32) p1 p2 p3))]))
    obtain ⟨_, _, ⟨T294, L294, k294, n294⟩, -, X294, ⟨Lc294, hQ294, l294, y294, z294⟩, st294⟩ := Jvm.LawKit.callS X292 hx (y := (⟨"com/example/sluice/sluice/processor/FlowFileCopyContentPinLaw", "expected", "(IIIIII)B"⟩ : MethodName)) hown (mvT hZ (hw _ (List.mem_of_getElem? (i := 62) rfl))) (mvT hZ (hw _ (List.mem_of_getElem? (i := 63) rfl))) (mvT hZ (hw _ (List.mem_of_getElem? (i := 3) rfl))) (mvT hZ (hw _ (List.mem_of_getElem? (i := 64) rfl))) (by decide) (backOf (W := 1) (rmEx l Z a0 hw [] (4 : Int32) off (4 : Int32) p1 p2 p3 T282.heap n0 Zs282) hZ (hw _ (List.mem_of_getElem? (i := 64) rfl)) (hw _ (List.mem_of_getElem? (i := 3) rfl)) (by decide) (by decide)) (g := (mkF m 236 #[.val (.int p1), .val (.int p2), .val (.int p3), .val (.int p4), .val (.int p5), .val (.int (4 : Int32)), .val (.int off), .val (.ref t261), .val (.ref b262), .val (.ref b265)] [(.int p3), (.int p2), (.int p1), (.int (4 : Int32)), (.int off), (.int (4 : Int32)), (.int (exF (4 : Int32) off (4 : Int32) p1 p2 p3))])) rfl (by rw [hml]; rfl) (argsL := [(.int (4 : Int32)), (.int off), (.int (4 : Int32)), (.int p1), (.int p2), (.int p3)]) (rest := [(.int (exF (4 : Int32) off (4 : Int32) p1 p2 p3))]) (lenOf pd_9 rfl) rfl (by show 2 * 0 + _ ≤ _; exact Nat.le_of_eq rfl) (hb hby at_236) (fun _ _ => ⟨rfl, e292q, (by decide : 4 + 0 ≤ _), (by decide : 18 + 0 ≤ _)⟩)
    dsimp only [Pt.U, Pt.locs, Pt.cells, Pt.slots] at X294 l294 y294 z294 st294 hQ294
    rw [l294, y294, z294] at X294
    replace X294 : Stand p l e _ _ m _ below meth c T294 _ 4 18 := X294
    obtain ⟨rfl, N294q, e294q⟩ := hQ294
    have N294 := Fr.app N292 N294q
    refine Go.via st294 ?_
    show Go p e below _ (T294.setTop (mkF m 239 #[.val (.int p1), .val (.int p2), .val (.int p3), .val (.int p4), .val (.int p5), .val (.int (4 : Int32)), .val (.int off), .val (.ref t261), .val (.ref b262), .val (.ref b265)] [(.int (exF (4 : Int32) off (4 : Int32) p1 p2 p3)), (.int (exF (4 : Int32) off (4 : Int32) p1 p2 p3))]))
    refine Go.via (fun _ => XS.icmpNo X294.here hx rfl (hb hby at_239) rfl (teq rfl).2) ?_
    show Go p e below _ (T294.setTop (mkF m 242 #[.val (.int p1), .val (.int p2), .val (.int p3), .val (.int p4), .val (.int p5), .val (.int (4 : Int32)), .val (.int off), .val (.ref t261), .val (.ref b262), .val (.ref b265)] []))
    refine Go.via (fun _ => XS.aload X294.here hx rfl (hb hby at_242) rfl rfl) ?_
    show Go p e below _ (T294.setTop (mkF m 244 #[.val (.int p1), .val (.int p2), .val (.int p3), .val (.int p4), .val (.int p5), .val (.int (4 : Int32)), .val (.int off), .val (.ref t261), .val (.ref b262), .val (.ref b265)] [(.ref b265)]))
    refine Go.via (fun _ => XS.iconst X294.here hx rfl (hb hby at_244)) ?_
    show Go p e below _ (T294.setTop (mkF m 245 #[.val (.int p1), .val (.int p2), .val (.int p3), .val (.int p4), .val (.int p5), .val (.int (4 : Int32)), .val (.int off), .val (.ref t261), .val (.ref b262), .val (.ref b265)] [(.int (5 : Int32)), (.ref b265)]))
    obtain ⟨cl295, Ar295, q295, S295, N295n, H295, G295⟩ := id vb282
    have hin295 := inb_of (j := (5 : Int32)) S295 (by decide)
    have hat295 : cl295.slots[((5 : Int32) : Int32).toNatClampNeg]? = some (.int (exF (5 : Int32) off (4 : Int32) p1 p2 p3)) := H295.at hin295 rfl
    refine Go.via (X294.baloadBytes hx (j := (5 : Int32)) (v := (.int (exF (5 : Int32) off (4 : Int32) p1 p2 p3))) (by rw [e294q]; exact Ar295.1) (State.isArrayOf_alike hZ.alike Ar295.2.1) Ar295.2.2 hin295 hat295 (g := (mkF m 245 #[.val (.int p1), .val (.int p2), .val (.int p3), .val (.int p4), .val (.int p5), .val (.int (4 : Int32)), .val (.int off), .val (.ref t261), .val (.ref b262), .val (.ref b265)] [(.int (5 : Int32)), (.ref b265)])) rfl rfl (hb hby at_245)) ?_
    show Go p e below _ (T294.setTop (mkF m 246 #[.val (.int p1), .val (.int p2), .val (.int p3), .val (.int p4), .val (.int p5), .val (.int (4 : Int32)), .val (.int off), .val (.ref t261), .val (.ref b262), .val (.ref b265)] [(.int (exF (5 : Int32) off (4 : Int32) p1 p2 p3))]))
    refine Go.via (fun _ => XS.iconst X294.here hx rfl (hb hby at_246)) ?_
    show Go p e below _ (T294.setTop (mkF m 247 #[.val (.int p1), .val (.int p2), .val (.int p3), .val (.int p4), .val (.int p5), .val (.int (4 : Int32)), .val (.int off), .val (.ref t261), .val (.ref b262), .val (.ref b265)] [(.int (5 : Int32)), (.int (exF (5 : Int32) off (4 : Int32) p1 p2 p3))]))
    refine Go.via (fun _ => XS.iload X294.here hx rfl (hb hby at_247) rfl) ?_
    show Go p e below _ (T294.setTop (mkF m 249 #[.val (.int p1), .val (.int p2), .val (.int p3), .val (.int p4), .val (.int p5), .val (.int (4 : Int32)), .val (.int off), .val (.ref t261), .val (.ref b262), .val (.ref b265)] [(.int off), (.int (5 : Int32)), (.int (exF (5 : Int32) off (4 : Int32) p1 p2 p3))]))
    refine Go.via (fun _ => XS.iload X294.here hx rfl (hb hby at_249) rfl) ?_
    show Go p e below _ (T294.setTop (mkF m 251 #[.val (.int p1), .val (.int p2), .val (.int p3), .val (.int p4), .val (.int p5), .val (.int (4 : Int32)), .val (.int off), .val (.ref t261), .val (.ref b262), .val (.ref b265)] [(.int (4 : Int32)), (.int off), (.int (5 : Int32)), (.int (exF (5 : Int32) off (4 : Int32) p1 p2 p3))]))
    refine Go.via (fun _ => XS.iloadN X294.here hx rfl (hb hby at_251) rfl) ?_
    show Go p e below _ (T294.setTop (mkF m 252 #[.val (.int p1), .val (.int p2), .val (.int p3), .val (.int p4), .val (.int p5), .val (.int (4 : Int32)), .val (.int off), .val (.ref t261), .val (.ref b262), .val (.ref b265)] [(.int p1), (.int (4 : Int32)), (.int off), (.int (5 : Int32)), (.int (exF (5 : Int32) off (4 : Int32) p1 p2 p3))]))
    refine Go.via (fun _ => XS.iloadN X294.here hx rfl (hb hby at_252) rfl) ?_
    show Go p e below _ (T294.setTop (mkF m 253 #[.val (.int p1), .val (.int p2), .val (.int p3), .val (.int p4), .val (.int p5), .val (.int (4 : Int32)), .val (.int off), .val (.ref t261), .val (.ref b262), .val (.ref b265)] [(.int p2), (.int p1), (.int (4 : Int32)), (.int off), (.int (5 : Int32)), (.int (exF (5 : Int32) off (4 : Int32) p1 p2 p3))]))
    refine Go.via (fun _ => XS.iloadN X294.here hx rfl (hb hby at_253) rfl) ?_
    show Go p e below _ (T294.setTop (mkF m 254 #[.val (.int p1), .val (.int p2), .val (.int p3), .val (.int p4), .val (.int p5), .val (.int (4 : Int32)), .val (.int off), .val (.ref t261), .val (.ref b262), .val (.ref b265)] [(.int p3), (.int p2), (.int p1), (.int (4 : Int32)), (.int off), (.int (5 : Int32)), (.int (exF (5 : Int32) off (4 : Int32) p1 p2 p3))]))
    obtain ⟨_, _, ⟨T296, L296, k296, n296⟩, -, X296, ⟨Lc296, hQ296, l296, y296, z296⟩, st296⟩ := Jvm.LawKit.callS X294 hx (y := (⟨"com/example/sluice/sluice/processor/FlowFileCopyContentPinLaw", "expected", "(IIIIII)B"⟩ : MethodName)) hown (mvT hZ (hw _ (List.mem_of_getElem? (i := 62) rfl))) (mvT hZ (hw _ (List.mem_of_getElem? (i := 63) rfl))) (mvT hZ (hw _ (List.mem_of_getElem? (i := 3) rfl))) (mvT hZ (hw _ (List.mem_of_getElem? (i := 64) rfl))) (by decide) (backOf (W := 1) (rmEx l Z a0 hw [] (5 : Int32) off (4 : Int32) p1 p2 p3 T282.heap n0 Zs282) hZ (hw _ (List.mem_of_getElem? (i := 64) rfl)) (hw _ (List.mem_of_getElem? (i := 3) rfl)) (by decide) (by decide)) (g := (mkF m 254 #[.val (.int p1), .val (.int p2), .val (.int p3), .val (.int p4), .val (.int p5), .val (.int (4 : Int32)), .val (.int off), .val (.ref t261), .val (.ref b262), .val (.ref b265)] [(.int p3), (.int p2), (.int p1), (.int (4 : Int32)), (.int off), (.int (5 : Int32)), (.int (exF (5 : Int32) off (4 : Int32) p1 p2 p3))])) rfl (by rw [hml]; rfl) (argsL := [(.int (5 : Int32)), (.int off), (.int (4 : Int32)), (.int p1), (.int p2), (.int p3)]) (rest := [(.int (exF (5 : Int32) off (4 : Int32) p1 p2 p3))]) (lenOf pd_9 rfl) rfl (by show 2 * 0 + _ ≤ _; exact Nat.le_of_eq rfl) (hb hby at_254) (fun _ _ => ⟨rfl, e294q, (by decide : 4 + 0 ≤ _), (by decide : 18 + 0 ≤ _)⟩)
    dsimp only [Pt.U, Pt.locs, Pt.cells, Pt.slots] at X296 l296 y296 z296 st296 hQ296
    rw [l296, y296, z296] at X296
    replace X296 : Stand p l e _ _ m _ below meth c T296 _ 4 18 := X296
    obtain ⟨rfl, N296q, e296q⟩ := hQ296
    have N296 := Fr.app N294 N296q
    refine Go.via st296 ?_
    show Go p e below _ (T296.setTop (mkF m 257 #[.val (.int p1), .val (.int p2), .val (.int p3), .val (.int p4), .val (.int p5), .val (.int (4 : Int32)), .val (.int off), .val (.ref t261), .val (.ref b262), .val (.ref b265)] [(.int (exF (5 : Int32) off (4 : Int32) p1 p2 p3)), (.int (exF (5 : Int32) off (4 : Int32) p1 p2 p3))]))
    refine Go.via (fun _ => XS.icmpNo X296.here hx rfl (hb hby at_257) rfl (teq rfl).2) ?_
    show Go p e below _ (T296.setTop (mkF m 260 #[.val (.int p1), .val (.int p2), .val (.int p3), .val (.int p4), .val (.int p5), .val (.int (4 : Int32)), .val (.int off), .val (.ref t261), .val (.ref b262), .val (.ref b265)] []))
    refine Go.via (fun _ => XS.aload X296.here hx rfl (hb hby at_260) rfl rfl) ?_
    show Go p e below _ (T296.setTop (mkF m 262 #[.val (.int p1), .val (.int p2), .val (.int p3), .val (.int p4), .val (.int p5), .val (.int (4 : Int32)), .val (.int off), .val (.ref t261), .val (.ref b262), .val (.ref b265)] [(.ref b265)]))
    refine Go.via (fun _ => XS.bipush X296.here hx rfl (hb hby at_262)) ?_
    show Go p e below _ (T296.setTop (mkF m 264 #[.val (.int p1), .val (.int p2), .val (.int p3), .val (.int p4), .val (.int p5), .val (.int (4 : Int32)), .val (.int off), .val (.ref t261), .val (.ref b262), .val (.ref b265)] [(.int (6 : Int32)), (.ref b265)]))
    obtain ⟨cl297, Ar297, q297, S297, N297n, H297, G297⟩ := id vb282
    have hin297 := inb_of (j := (6 : Int32)) S297 (by decide)
    have hat297 : cl297.slots[((6 : Int32) : Int32).toNatClampNeg]? = some (.int (exF (6 : Int32) off (4 : Int32) p1 p2 p3)) := H297.at hin297 rfl
    refine Go.via (X296.baloadBytes hx (j := (6 : Int32)) (v := (.int (exF (6 : Int32) off (4 : Int32) p1 p2 p3))) (by rw [e296q]; exact Ar297.1) (State.isArrayOf_alike hZ.alike Ar297.2.1) Ar297.2.2 hin297 hat297 (g := (mkF m 264 #[.val (.int p1), .val (.int p2), .val (.int p3), .val (.int p4), .val (.int p5), .val (.int (4 : Int32)), .val (.int off), .val (.ref t261), .val (.ref b262), .val (.ref b265)] [(.int (6 : Int32)), (.ref b265)])) rfl rfl (hb hby at_264)) ?_
    show Go p e below _ (T296.setTop (mkF m 265 #[.val (.int p1), .val (.int p2), .val (.int p3), .val (.int p4), .val (.int p5), .val (.int (4 : Int32)), .val (.int off), .val (.ref t261), .val (.ref b262), .val (.ref b265)] [(.int (exF (6 : Int32) off (4 : Int32) p1 p2 p3))]))
    refine Go.via (fun _ => XS.bipush X296.here hx rfl (hb hby at_265)) ?_
    show Go p e below _ (T296.setTop (mkF m 267 #[.val (.int p1), .val (.int p2), .val (.int p3), .val (.int p4), .val (.int p5), .val (.int (4 : Int32)), .val (.int off), .val (.ref t261), .val (.ref b262), .val (.ref b265)] [(.int (6 : Int32)), (.int (exF (6 : Int32) off (4 : Int32) p1 p2 p3))]))
    refine Go.via (fun _ => XS.iload X296.here hx rfl (hb hby at_267) rfl) ?_
    show Go p e below _ (T296.setTop (mkF m 269 #[.val (.int p1), .val (.int p2), .val (.int p3), .val (.int p4), .val (.int p5), .val (.int (4 : Int32)), .val (.int off), .val (.ref t261), .val (.ref b262), .val (.ref b265)] [(.int off), (.int (6 : Int32)), (.int (exF (6 : Int32) off (4 : Int32) p1 p2 p3))]))
    refine Go.via (fun _ => XS.iload X296.here hx rfl (hb hby at_269) rfl) ?_
    show Go p e below _ (T296.setTop (mkF m 271 #[.val (.int p1), .val (.int p2), .val (.int p3), .val (.int p4), .val (.int p5), .val (.int (4 : Int32)), .val (.int off), .val (.ref t261), .val (.ref b262), .val (.ref b265)] [(.int (4 : Int32)), (.int off), (.int (6 : Int32)), (.int (exF (6 : Int32) off (4 : Int32) p1 p2 p3))]))
    refine Go.via (fun _ => XS.iloadN X296.here hx rfl (hb hby at_271) rfl) ?_
    show Go p e below _ (T296.setTop (mkF m 272 #[.val (.int p1), .val (.int p2), .val (.int p3), .val (.int p4), .val (.int p5), .val (.int (4 : Int32)), .val (.int off), .val (.ref t261), .val (.ref b262), .val (.ref b265)] [(.int p1), (.int (4 : Int32)), (.int off), (.int (6 : Int32)), (.int (exF (6 : Int32) off (4 : Int32) p1 p2 p3))]))
    refine Go.via (fun _ => XS.iloadN X296.here hx rfl (hb hby at_272) rfl) ?_
    show Go p e below _ (T296.setTop (mkF m 273 #[.val (.int p1), .val (.int p2), .val (.int p3), .val (.int p4), .val (.int p5), .val (.int (4 : Int32)), .val (.int off), .val (.ref t261), .val (.ref b262), .val (.ref b265)] [(.int p2), (.int p1), (.int (4 : Int32)), (.int off), (.int (6 : Int32)), (.int (exF (6 : Int32) off (4 : Int32) p1 p2 p3))]))
    refine Go.via (fun _ => XS.iloadN X296.here hx rfl (hb hby at_273) rfl) ?_
    show Go p e below _ (T296.setTop (mkF m 274 #[.val (.int p1), .val (.int p2), .val (.int p3), .val (.int p4), .val (.int p5), .val (.int (4 : Int32)), .val (.int off), .val (.ref t261), .val (.ref b262), .val (.ref b265)] [(.int p3), (.int p2), (.int p1), (.int (4 : Int32)), (.int off), (.int (6 : Int32)), (.int (exF (6 : Int32) off (4 : Int32) p1 p2 p3))]))
    obtain ⟨_, _, ⟨T298, L298, k298, n298⟩, -, X298, ⟨Lc298, hQ298, l298, y298, z298⟩, st298⟩ := Jvm.LawKit.callS X296 hx (y := (⟨"com/example/sluice/sluice/processor/FlowFileCopyContentPinLaw", "expected", "(IIIIII)B"⟩ : MethodName)) hown (mvT hZ (hw _ (List.mem_of_getElem? (i := 62) rfl))) (mvT hZ (hw _ (List.mem_of_getElem? (i := 63) rfl))) (mvT hZ (hw _ (List.mem_of_getElem? (i := 3) rfl))) (mvT hZ (hw _ (List.mem_of_getElem? (i := 64) rfl))) (by decide) (backOf (W := 1) (rmEx l Z a0 hw [] (6 : Int32) off (4 : Int32) p1 p2 p3 T282.heap n0 Zs282) hZ (hw _ (List.mem_of_getElem? (i := 64) rfl)) (hw _ (List.mem_of_getElem? (i := 3) rfl)) (by decide) (by decide)) (g := (mkF m 274 #[.val (.int p1), .val (.int p2), .val (.int p3), .val (.int p4), .val (.int p5), .val (.int (4 : Int32)), .val (.int off), .val (.ref t261), .val (.ref b262), .val (.ref b265)] [(.int p3), (.int p2), (.int p1), (.int (4 : Int32)), (.int off), (.int (6 : Int32)), (.int (exF (6 : Int32) off (4 : Int32) p1 p2 p3))])) rfl (by rw [hml]; rfl) (argsL := [(.int (6 : Int32)), (.int off), (.int (4 : Int32)), (.int p1), (.int p2), (.int p3)]) (rest := [(.int (exF (6 : Int32) off (4 : Int32) p1 p2 p3))]) (lenOf pd_9 rfl) rfl (by show 2 * 0 + _ ≤ _; exact Nat.le_of_eq rfl) (hb hby at_274) (fun _ _ => ⟨rfl, e296q, (by decide : 4 + 0 ≤ _), (by decide : 18 + 0 ≤ _)⟩)
    dsimp only [Pt.U, Pt.locs, Pt.cells, Pt.slots] at X298 l298 y298 z298 st298 hQ298
    rw [l298, y298, z298] at X298
    replace X298 : Stand p l e _ _ m _ below meth c T298 _ 4 18 := X298
    obtain ⟨rfl, N298q, e298q⟩ := hQ298
    have N298 := Fr.app N296 N298q
    refine Go.via st298 ?_
    show Go p e below _ (T298.setTop (mkF m 277 #[.val (.int p1), .val (.int p2), .val (.int p3), .val (.int p4), .val (.int p5), .val (.int (4 : Int32)), .val (.int off), .val (.ref t261), .val (.ref b262), .val (.ref b265)] [(.int (exF (6 : Int32) off (4 : Int32) p1 p2 p3)), (.int (exF (6 : Int32) off (4 : Int32) p1 p2 p3))]))
    refine Go.via (fun _ => XS.icmpNo X298.here hx rfl (hb hby at_277) rfl (teq rfl).2) ?_
    show Go p e below _ (T298.setTop (mkF m 280 #[.val (.int p1), .val (.int p2), .val (.int p3), .val (.int p4), .val (.int p5), .val (.int (4 : Int32)), .val (.int off), .val (.ref t261), .val (.ref b262), .val (.ref b265)] []))
    refine Go.via (fun _ => XS.aload X298.here hx rfl (hb hby at_280) rfl rfl) ?_
    show Go p e below _ (T298.setTop (mkF m 282 #[.val (.int p1), .val (.int p2), .val (.int p3), .val (.int p4), .val (.int p5), .val (.int (4 : Int32)), .val (.int off), .val (.ref t261), .val (.ref b262), .val (.ref b265)] [(.ref b265)]))
    refine Go.via (fun _ => XS.bipush X298.here hx rfl (hb hby at_282)) ?_
    show Go p e below _ (T298.setTop (mkF m 284 #[.val (.int p1), .val (.int p2), .val (.int p3), .val (.int p4), .val (.int p5), .val (.int (4 : Int32)), .val (.int off), .val (.ref t261), .val (.ref b262), .val (.ref b265)] [(.int (7 : Int32)), (.ref b265)]))
    obtain ⟨cl299, Ar299, q299, S299, N299n, H299, G299⟩ := id vb282
    have hin299 := inb_of (j := (7 : Int32)) S299 (by decide)
    have hat299 : cl299.slots[((7 : Int32) : Int32).toNatClampNeg]? = some (.int (exF (7 : Int32) off (4 : Int32) p1 p2 p3)) := H299.at hin299 rfl
    refine Go.via (X298.baloadBytes hx (j := (7 : Int32)) (v := (.int (exF (7 : Int32) off (4 : Int32) p1 p2 p3))) (by rw [e298q]; exact Ar299.1) (State.isArrayOf_alike hZ.alike Ar299.2.1) Ar299.2.2 hin299 hat299 (g := (mkF m 284 #[.val (.int p1), .val (.int p2), .val (.int p3), .val (.int p4), .val (.int p5), .val (.int (4 : Int32)), .val (.int off), .val (.ref t261), .val (.ref b262), .val (.ref b265)] [(.int (7 : Int32)), (.ref b265)])) rfl rfl (hb hby at_284)) ?_
    show Go p e below _ (T298.setTop (mkF m 285 #[.val (.int p1), .val (.int p2), .val (.int p3), .val (.int p4), .val (.int p5), .val (.int (4 : Int32)), .val (.int off), .val (.ref t261), .val (.ref b262), .val (.ref b265)] [(.int (exF (7 : Int32) off (4 : Int32) p1 p2 p3))]))
    refine Go.via (fun _ => XS.bipush X298.here hx rfl (hb hby at_285)) ?_
    show Go p e below _ (T298.setTop (mkF m 287 #[.val (.int p1), .val (.int p2), .val (.int p3), .val (.int p4), .val (.int p5), .val (.int (4 : Int32)), .val (.int off), .val (.ref t261), .val (.ref b262), .val (.ref b265)] [(.int (7 : Int32)), (.int (exF (7 : Int32) off (4 : Int32) p1 p2 p3))]))
    refine Go.via (fun _ => XS.iload X298.here hx rfl (hb hby at_287) rfl) ?_
    show Go p e below _ (T298.setTop (mkF m 289 #[.val (.int p1), .val (.int p2), .val (.int p3), .val (.int p4), .val (.int p5), .val (.int (4 : Int32)), .val (.int off), .val (.ref t261), .val (.ref b262), .val (.ref b265)] [(.int off), (.int (7 : Int32)), (.int (exF (7 : Int32) off (4 : Int32) p1 p2 p3))]))
    refine Go.via (fun _ => XS.iload X298.here hx rfl (hb hby at_289) rfl) ?_
    show Go p e below _ (T298.setTop (mkF m 291 #[.val (.int p1), .val (.int p2), .val (.int p3), .val (.int p4), .val (.int p5), .val (.int (4 : Int32)), .val (.int off), .val (.ref t261), .val (.ref b262), .val (.ref b265)] [(.int (4 : Int32)), (.int off), (.int (7 : Int32)), (.int (exF (7 : Int32) off (4 : Int32) p1 p2 p3))]))
    refine Go.via (fun _ => XS.iloadN X298.here hx rfl (hb hby at_291) rfl) ?_
    show Go p e below _ (T298.setTop (mkF m 292 #[.val (.int p1), .val (.int p2), .val (.int p3), .val (.int p4), .val (.int p5), .val (.int (4 : Int32)), .val (.int off), .val (.ref t261), .val (.ref b262), .val (.ref b265)] [(.int p1), (.int (4 : Int32)), (.int off), (.int (7 : Int32)), (.int (exF (7 : Int32) off (4 : Int32) p1 p2 p3))]))
    refine Go.via (fun _ => XS.iloadN X298.here hx rfl (hb hby at_292) rfl) ?_
    show Go p e below _ (T298.setTop (mkF m 293 #[.val (.int p1), .val (.int p2), .val (.int p3), .val (.int p4), .val (.int p5), .val (.int (4 : Int32)), .val (.int off), .val (.ref t261), .val (.ref b262), .val (.ref b265)] [(.int p2), (.int p1), (.int (4 : Int32)), (.int off), (.int (7 : Int32)), (.int (exF (7 : Int32) off (4 : Int32) p1 p2 p3))]))
    refine Go.via (fun _ => XS.iloadN X298.here hx rfl (hb hby at_293) rfl) ?_
    show Go p e below _ (T298.setTop (mkF m 294 #[.val (.int p1), .val (.int p2), .val (.int p3), .val (.int p4), .val (.int p5), .val (.int (4 : Int32)), .val (.int off), .val (.ref t261), .val (.ref b262), .val (.ref b265)] [(.int p3), (.int p2), (.int p1), (.int (4 : Int32)), (.int off), (.int (7 : Int32)), (.int (exF (7 : Int32) off (4 : Int32) p1 p2 p3))]))
    obtain ⟨_, _, ⟨T300, L300, k300, n300⟩, -, X300, ⟨Lc300, hQ300, l300, y300, z300⟩, st300⟩ := Jvm.LawKit.callS X298 hx (y := (⟨"com/example/sluice/sluice/processor/FlowFileCopyContentPinLaw", "expected", "(IIIIII)B"⟩ : MethodName)) hown (mvT hZ (hw _ (List.mem_of_getElem? (i := 62) rfl))) (mvT hZ (hw _ (List.mem_of_getElem? (i := 63) rfl))) (mvT hZ (hw _ (List.mem_of_getElem? (i := 3) rfl))) (mvT hZ (hw _ (List.mem_of_getElem? (i := 64) rfl))) (by decide) (backOf (W := 1) (rmEx l Z a0 hw [] (7 : Int32) off (4 : Int32) p1 p2 p3 T282.heap n0 Zs282) hZ (hw _ (List.mem_of_getElem? (i := 64) rfl)) (hw _ (List.mem_of_getElem? (i := 3) rfl)) (by decide) (by decide)) (g := (mkF m 294 #[.val (.int p1), .val (.int p2), .val (.int p3), .val (.int p4), .val (.int p5), .val (.int (4 : Int32)), .val (.int off), .val (.ref t261), .val (.ref b262), .val (.ref b265)] [(.int p3), (.int p2), (.int p1), (.int (4 : Int32)), (.int off), (.int (7 : Int32)), (.int (exF (7 : Int32) off (4 : Int32) p1 p2 p3))])) rfl (by rw [hml]; rfl) (argsL := [(.int (7 : Int32)), (.int off), (.int (4 : Int32)), (.int p1), (.int p2), (.int p3)]) (rest := [(.int (exF (7 : Int32) off (4 : Int32) p1 p2 p3))]) (lenOf pd_9 rfl) rfl (by show 2 * 0 + _ ≤ _; exact Nat.le_of_eq rfl) (hb hby at_294) (fun _ _ => ⟨rfl, e298q, (by decide : 4 + 0 ≤ _), (by decide : 18 + 0 ≤ _)⟩)
    dsimp only [Pt.U, Pt.locs, Pt.cells, Pt.slots] at X300 l300 y300 z300 st300 hQ300
    rw [l300, y300, z300] at X300
    replace X300 : Stand p l e _ _ m _ below meth c T300 _ 4 18 := X300
    obtain ⟨rfl, N300q, e300q⟩ := hQ300
    have N300 := Fr.app N298 N300q
    refine Go.via st300 ?_
    show Go p e below _ (T300.setTop (mkF m 297 #[.val (.int p1), .val (.int p2), .val (.int p3), .val (.int p4), .val (.int p5), .val (.int (4 : Int32)), .val (.int off), .val (.ref t261), .val (.ref b262), .val (.ref b265)] [(.int (exF (7 : Int32) off (4 : Int32) p1 p2 p3)), (.int (exF (7 : Int32) off (4 : Int32) p1 p2 p3))]))
    refine Go.via (fun _ => XS.icmpNo X300.here hx rfl (hb hby at_297) rfl (teq rfl).2) ?_
    show Go p e below _ (T300.setTop (mkF m 300 #[.val (.int p1), .val (.int p2), .val (.int p3), .val (.int p4), .val (.int p5), .val (.int (4 : Int32)), .val (.int off), .val (.ref t261), .val (.ref b262), .val (.ref b265)] []))
    refine Go.via (fun _ => XS.iconst X300.here hx rfl (hb hby at_300)) ?_
    show Go p e below _ (T300.setTop (mkF m 301 #[.val (.int p1), .val (.int p2), .val (.int p3), .val (.int p4), .val (.int p5), .val (.int (4 : Int32)), .val (.int off), .val (.ref t261), .val (.ref b262), .val (.ref b265)] [(.int (1 : Int32))]))
    refine Go.via (fun _ => XS.goto X300.here hx rfl (pc0 := 301) (pc' := 305) rfl (hb hby at_301) (by decide) (by decide)) ?_
    show Go p e below _ (T300.setTop (mkF m 305 #[.val (.int p1), .val (.int p2), .val (.int p3), .val (.int p4), .val (.int p5), .val (.int (4 : Int32)), .val (.int off), .val (.ref t261), .val (.ref b262), .val (.ref b265)] [(.int (1 : Int32))]))
    exact own_retN X300 hx hlk (t := .boolean) Bd.returns (by simp) (hb hby at_305) (by show Q0 Z p1 p2 p3 p4 p5 em h0 n0 _ T300.heap _; rw [e300q]; exact ⟨rfl, N300⟩) (by decide) (by decide)
theorem own_eq_int {t : Term} {n : Int32} {args : Array Value} {s : State} (h : (Cond.eq t (.int n)).value args s none s [] = some true) : t.eval args s none [] s = some (.int n) := by
  simp only [Cond.value, Term.eval] at h
  split at h <;> simp_all
set_option maxRecDepth 65536 in
set_option maxHeartbeats 40000000 in
theorem comes_1 {Post : Tables → Env → Array Value → State → Outcome → State → Prop} (hpost : ∀ tb e args s v u, (limb_1_1.after args s (.returned v) u = true ∧ limb_1_2.after args s (.returned v) u = true ∧ True) → FrameEnd s (.returned v) u (Jvm.fieldLocs frame_1_writes args s ++ Jvm.arrayLocs frame_1_arrays args s ++ Jvm.staticLocs frame_1_statics s) 16 128 → Post tb e args s (.returned v) u) :
    ArmFor flags0 classFile x code maxLocals ret World_1 tables_1 room_1 Calls_1 rest_1 Pre_1 Post := by
  intro l hfl _ _ p e ha hc hk s m args below hf hA hF happ hP
  obtain ⟨hcalls, hrest, hpre⟩ := hP
  obtain ⟨-, -, -, hnamed, -, -, -, hat⟩ := (Spec.applies_iff hf).mp happ
  obtain ⟨hg, hn⟩ := and_e (Cond.before_iff.mp (show (Jvm.Cond.and given_1 narrow_1).before args s = true from hpre))
  obtain ⟨g1, g2⟩ := and_e hg
  obtain ⟨g3, g4⟩ := and_e g2
  obtain ⟨g5, g6⟩ := and_e g4
  obtain ⟨g7, g8⟩ := and_e g6
  obtain ⟨g9, g10⟩ := and_e g8
  obtain ⟨w0, w1, w2, w3, w4, rfl⟩ : ∃ w0 w1 w2 w3 w4 : Value, args = #[w0, w1, w2, w3, w4] := by
    have hs : args.size = 5 := by simpa [Cond.value, given_1] using g1
    obtain ⟨L⟩ := args
    match L, hs with
    | [w0, w1, w2, w3, w4], _ => exact ⟨w0, w1, w2, w3, w4, rfl⟩
  have hw := fun d (hd : d ∈ tables_1) => atoms_spec (ws := Jvm.Cond.code x code maxLocals ret :: tables_1) hat d (List.mem_cons_of_mem _ hd)
  obtain ⟨hsets, hown0⟩ := atoms_of _ (rest_1_c_eq ▸ (show rest_1_c.before _ s = true from hrest))
  have hr0 := Cond.before_iff.mp hown0
  have hfit : Fit s := fun {y c} hc i hi => by
    obtain ⟨ha, rfl⟩ := Array.getElem?_eq_some_iff.mp hc
    have q := List.all_eq_true.mp ((Array.all_eq_true_iff_forall_mem.mp hF) _ (Array.getElem_mem ha)) i (List.mem_range.mpr hi)
    simpa [Array.getElem?_eq_getElem hi] using q
  obtain ⟨i0, ei0⟩ := is_v g3
  obtain rfl : w0 = (.int i0) := Option.some.inj ei0
  obtain ⟨i1, ei1⟩ := is_v g5
  obtain rfl : w1 = (.int i1) := Option.some.inj ei1
  obtain ⟨i2, ei2⟩ := is_v g7
  obtain rfl : w2 = (.int i2) := Option.some.inj ei2
  obtain ⟨i3, ei3⟩ := is_v g9
  obtain rfl : w3 = (.int i3) := Option.some.inj ei3
  obtain ⟨i4, ei4⟩ := is_v g10
  obtain rfl : w4 = (.int i4) := Option.some.inj ei4
  obtain ⟨em, eem⟩ := exa_v (Cond.before_iff.mp (hsets _ (List.mem_of_getElem? (i := 2) rfl)))
  have E_EM := Exa.start eem (Cond.before_iff.mp (hsets _ (List.mem_of_getElem? (i := 2) rfl)))
  have S_EM := Sta.start eem (Or.inl (hsets _ (List.mem_of_getElem? (i := 1) rfl)))
  obtain ⟨n, o, h1, h2, h3, _, L, rfl, ⟨rfl, N⟩, hq⟩ := rm0 l s _ hw tables_1 i0 i1 i2 i3 i4 em s.heap s.heap.size (Nat.le_refl _) (Old.start s) S_EM E_EM p e ha hc hk s m _ below hf ((Spec.applies_iff_loose hf).mp happ).1 ⟨rfl, State.Warmed39.refl s, rfl⟩ trivial
  refine ⟨n, _, h1, h2, h3, hpost _ _ _ _ _ _ ⟨Cond.after_iff.mpr rfl, Cond.after_iff.mpr (eq_i res_at (Term.int_eval (1)) rfl), trivial⟩ ⟨hq.1, hq.2.1, (hq.2.2.sift fun y hy => Or.inr (N y hy)).mono (by decide) (by decide)⟩⟩
theorem main_1_1 : Claimed_1_1 := comes_1 fun _ _ _ _ _ _ h hF => ⟨h.1, hF⟩
theorem main_1_2 : Claimed_1_2 := comes_1 fun _ _ _ _ _ _ h hF => ⟨h.2.1, hF⟩
end Jvm.Pilot.@@N@@
namespace Jvm.Pilot.@@N@@
open Jvm Jvm.ClassFile Sem Op Lib Jvm.Free Jvm.Stand Jvm.Pilot.@@N@@.Jvm.D
/-! MADE BY PROGRAM (witnessworld.py) out of the Statement's table words and the real class files: 16 classes; the members and pool entries that the words name. The judged class is class 1, her method 1. -/
namespace start1
open Jvm.ClassFile
def u (s : String) : CpInfo := .utf8 (stringToUtf16 s)
/-- a pool by its gaps: so many unusable entries, then the entry; so many at the end -/
def gap : Nat → List CpInfo → List CpInfo
  | 0, r => r
  | n + 1, r => .unusable :: gap n r
def poolList (es : List (Nat × CpInfo)) (last : Nat) : List CpInfo := es.foldr (fun e r => gap e.1 (e.2 :: r)) (gap last [])
def pool (es : List (Nat × CpInfo)) (last : Nat) : Array CpInfo := ⟨poolList es last⟩
def fileOf (pool : Array CpInfo) (this : Nat) (attrs : Array Attribute := #[]) (ms : Array MethodInfo := #[]) (fl : Nat := 33) (sup : Nat := 0) (ifs : Array Nat := #[]) (fds : Array FieldInfo := #[]) : ClassFile where
  minorVersion := 0
  majorVersion := 65
  constantPool := pool
  accessFlags := fl
  thisClass := this
  superClass := sup
  interfaces := ifs
  fields := fds
  methods := ms
  attributes := attrs
def plain (name : String) (sup : Option ClassId) : Class where
  name := name
  kind := .ordinary
  loader := none
  accessFlags := 33
  super := sup
  interfaces := #[]
  cf := none
  fields := #[]
  methods := #[]
  instanceTypes := #[]
  staticTypes := #[]
  resolved := #[]
  callSites := []
  init := .initialized
  statics := none
  mirror := none

def pool0 : Array CpInfo := pool [(5, u "<init>"), (0, u "()V"), (1, .class_ 10), (1, u "java/lang/Object"), (85, u "clone"), (0, u "()Ljava/lang/Object;")] 26

def k0c0 : Code := { maxStack := 0, maxLocals := 1, code := object_method_1_code, exceptionTable := #[], attributes := #[] }
def k0m0 : Method := { name := "<init>", desc := "()V", sig := { parameters := [], returnType := none }, accessFlags := 1, code := some k0c0 }
def k0m1 : Method := { name := "clone", desc := "()Ljava/lang/Object;", sig := { parameters := [], returnType := some (.object "java/lang/Object") }, accessFlags := 260, code := none }
/-- java/lang/Object -/
def k0 : Class := { plain "java/lang/Object" none with
  accessFlags := 33
  interfaces := #[]
  cf := some (fileOf pool0 8 #[] #[{ accessFlags := 1, nameIndex := 5, descriptorIndex := 6, attributes := #[] }, { accessFlags := 260, nameIndex := 96, descriptorIndex := 97, attributes := #[] }] 33 0 #[] #[])
  fields := #[]
  methods := #[k0m0, k0m1]
  instanceTypes := #[]
  staticTypes := #[]
  resolved := Array.replicate 124 none
  statics := none }

def pool1 : Array CpInfo := pool [(2, .class_ 4), (1, u "java/lang/Object"), (0, u "<init>"), (0, u "()V"), (0, .integer 2147483647), (0, .methodref 9 10), (0, .class_ 11), (0, .nameAndType 12 13), (0, u "com/example/sluice/sluice/processor/FlowFileCopyContentPinLaw"), (0, u "makeContent"), (0, u "(II)[B"), (0, .class_ 15), (0, u "com/example/sluice/sluice/processor/FlowFile"), (0, .interfaceMethodref 17 18), (0, .class_ 19), (0, .nameAndType 20 21), (0, u "java/util/Map"), (0, u "of"), (0, u "()Ljava/util/Map;"), (0, .methodref 14 23), (0, .nameAndType 5 24), (0, u "(Ljava/util/Map;[B)V"), (0, .methodref 9 26), (0, .nameAndType 27 28), (0, u "db"), (0, u "(III)B"), (0, .methodref 14 30), (0, .nameAndType 31 32), (0, u "copyContent"), (0, u "([BI)V"), (0, .methodref 14 34), (0, .nameAndType 35 36), (0, u "size"), (0, u "()I"), (0, .methodref 9 38), (0, .nameAndType 39 40), (0, u "expected"), (0, u "(IIIIII)B"), (0, .methodref 9 42), (0, .nameAndType 43 44), (0, u "cb"), (0, u "(II)B"), (2, u "law"), (0, u "(IIIII)Z")] 5

def k1m0 : Method := { name := "<init>", desc := "()V", sig := { parameters := [], returnType := none }, accessFlags := 1, code := none }
def k1c1 : Code := { maxStack := 7, maxLocals := 10, code := code, exceptionTable := #[], attributes := #[] }
def k1m1 : Method := { name := "law", desc := "(IIIII)Z", sig := { parameters := [.int, .int, .int, .int, .int], returnType := some .boolean }, accessFlags := 9, code := some k1c1 }
def k1c2 : Code := { maxStack := 4, maxLocals := 3, code := method_3_code, exceptionTable := #[], attributes := #[] }
def k1m2 : Method := { name := "db", desc := "(III)B", sig := { parameters := [.int, .int, .int], returnType := some .byte }, accessFlags := 10, code := some k1c2 }
def k1c3 : Code := { maxStack := 3, maxLocals := 2, code := method_4_code, exceptionTable := #[], attributes := #[] }
def k1m3 : Method := { name := "cb", desc := "(II)B", sig := { parameters := [.int, .int], returnType := some .byte }, accessFlags := 10, code := some k1c3 }
def k1c4 : Code := { maxStack := 3, maxLocals := 6, code := method_5_code, exceptionTable := #[], attributes := #[] }
def k1m4 : Method := { name := "expected", desc := "(IIIIII)B", sig := { parameters := [.int, .int, .int, .int, .int, .int], returnType := some .byte }, accessFlags := 10, code := some k1c4 }
def k1c5 : Code := { maxStack := 5, maxLocals := 2, code := method_6_code, exceptionTable := #[], attributes := #[] }
def k1m5 : Method := { name := "makeContent", desc := "(II)[B", sig := { parameters := [.int, .int], returnType := some (.array .byte) }, accessFlags := 10, code := some k1c5 }
/-- com/example/sluice/sluice/processor/FlowFileCopyContentPinLaw -/
def k1 : Class := { plain "com/example/sluice/sluice/processor/FlowFileCopyContentPinLaw" (some 0) with
  accessFlags := 49
  interfaces := #[]
  cf := some (fileOf pool1 9 #[] #[{ accessFlags := 1, nameIndex := 5, descriptorIndex := 6, attributes := #[] }, { accessFlags := 9, nameIndex := 47, descriptorIndex := 48, attributes := #[] }, { accessFlags := 10, nameIndex := 27, descriptorIndex := 28, attributes := #[] }, { accessFlags := 10, nameIndex := 43, descriptorIndex := 44, attributes := #[] }, { accessFlags := 10, nameIndex := 39, descriptorIndex := 40, attributes := #[] }, { accessFlags := 10, nameIndex := 12, descriptorIndex := 13, attributes := #[] }] 49 2 #[] #[])
  fields := #[]
  methods := #[k1m0, k1m1, k1m2, k1m3, k1m4, k1m5]
  instanceTypes := #[]
  staticTypes := #[]
  resolved := Array.replicate 54 none
  statics := none }

def pool2 : Array CpInfo := pool [(3, .methodref 4 5), (0, .class_ 6), (0, .nameAndType 7 8), (0, u "[B"), (0, u "clone"), (0, u "()Ljava/lang/Object;"), (0, .interfaceMethodref 10 11), (0, .class_ 12), (0, .nameAndType 13 14), (0, u "java/util/Map"), (0, u "copyOf"), (0, u "(Ljava/util/Map;)Ljava/util/Map;"), (0, .methodref 16 17), (0, .class_ 18), (0, .nameAndType 19 20), (0, u "com/example/sluice/sluice/processor/FlowFile"), (0, u "<init>"), (0, u "([BLjava/util/Map;)V"), (6, .methodref 28 29), (0, .class_ 30), (0, .nameAndType 19 31), (0, u "java/lang/Object"), (0, u "()V"), (0, .fieldref 16 33), (0, .nameAndType 34 35), (0, u "attributes"), (0, u "Ljava/util/Map;"), (0, .fieldref 16 37), (0, .nameAndType 38 6), (0, u "content"), (4, u "size"), (0, u "()I"), (39, .methodref 85 86), (0, .class_ 87), (0, .nameAndType 88 89), (0, u "java/lang/System"), (0, u "arraycopy"), (0, u "(Ljava/lang/Object;ILjava/lang/Object;II)V"), (0, u "FILENAME"), (0, u "Ljava/lang/String;"), (3, u "MAX_SIZE"), (0, u "I"), (1, u "WRITE_SLICE"), (2, u "(Ljava/util/Map;[B)V"), (23, u "copyContent"), (0, u "([BI)V")] 2

def k2c0 : Code := { maxStack := 3, maxLocals := 3, code := prog_30_method_1_code, exceptionTable := #[], attributes := #[] }
def k2m0 : Method := { name := "<init>", desc := "(Ljava/util/Map;[B)V", sig := { parameters := [(.object "java/util/Map"), (.array .byte)], returnType := none }, accessFlags := 1, code := some k2c0 }
def k2c1 : Code := { maxStack := 2, maxLocals := 3, code := prog_30_method_3_code, exceptionTable := #[], attributes := #[] }
def k2m1 : Method := { name := "<init>", desc := "([BLjava/util/Map;)V", sig := { parameters := [(.array .byte), (.object "java/util/Map")], returnType := none }, accessFlags := 2, code := some k2c1 }
def k2c2 : Code := { maxStack := 5, maxLocals := 3, code := prog_30_method_10_code, exceptionTable := #[], attributes := #[] }
def k2m2 : Method := { name := "copyContent", desc := "([BI)V", sig := { parameters := [(.array .byte), .int], returnType := none }, accessFlags := 1, code := some k2c2 }
def k2c3 : Code := { maxStack := 1, maxLocals := 1, code := prog_30_method_11_code, exceptionTable := #[], attributes := #[] }
def k2m3 : Method := { name := "size", desc := "()I", sig := { parameters := [], returnType := some .int }, accessFlags := 1, code := some k2c3 }
/-- com/example/sluice/sluice/processor/FlowFile -/
def k2 : Class := { plain "com/example/sluice/sluice/processor/FlowFile" (some 0) with
  accessFlags := 49
  interfaces := #[]
  cf := some (fileOf pool2 16 #[] #[{ accessFlags := 1, nameIndex := 19, descriptorIndex := 101, attributes := #[] }, { accessFlags := 2, nameIndex := 19, descriptorIndex := 20, attributes := #[] }, { accessFlags := 1, nameIndex := 125, descriptorIndex := 126, attributes := #[] }, { accessFlags := 1, nameIndex := 43, descriptorIndex := 44, attributes := #[] }] 49 28 #[] #[{ accessFlags := 25, nameIndex := 90, descriptorIndex := 91, attributes := #[] }, { accessFlags := 25, nameIndex := 95, descriptorIndex := 96, attributes := #[] }, { accessFlags := 26, nameIndex := 98, descriptorIndex := 96, attributes := #[] }, { accessFlags := 18, nameIndex := 34, descriptorIndex := 35, attributes := #[] }, { accessFlags := 18, nameIndex := 38, descriptorIndex := 6, attributes := #[] }])
  fields := #[{ name := "FILENAME", type := (.object "java/lang/String"), accessFlags := 25, slot := 0, constantValue := 0 }, { name := "MAX_SIZE", type := .int, accessFlags := 25, slot := 1, constantValue := 0 }, { name := "WRITE_SLICE", type := .int, accessFlags := 26, slot := 2, constantValue := 0 }, { name := "attributes", type := (.object "java/util/Map"), accessFlags := 18, slot := 0, constantValue := 0 }, { name := "content", type := (.array .byte), accessFlags := 18, slot := 1, constantValue := 0 }]
  methods := #[k2m0, k2m1, k2m2, k2m3]
  instanceTypes := #[(.object "java/util/Map"), (.array .byte)]
  staticTypes := #[(.object "java/lang/String"), .int, .int]
  resolved := Array.replicate 129 none
  statics := none }

def pool3 : Array CpInfo := pool [(2, .class_ 4), (1, u "java/util/Map"), (31, .class_ 37), (0, u "java/util/Map$Entry"), (43, .fieldref 82 83), (0, .class_ 84), (0, .nameAndType 85 86), (0, u "java/util/ImmutableCollections"), (0, u "EMPTY_MAP"), (0, u "Ljava/util/ImmutableCollections$MapN;"), (6, .class_ 94), (0, u "java/lang/Object"), (6, .class_ 102), (0, u "java/util/ImmutableCollections$AbstractImmutableMap"), (5, u "of"), (0, u "()Ljava/util/Map;"), (140, u "copyOf"), (0, u "(Ljava/util/Map;)Ljava/util/Map;")] 11

def k3c0 : Code := { maxStack := 1, maxLocals := 0, code := jdk_72_method_26_code, exceptionTable := #[], attributes := #[] }
def k3m0 : Method := { name := "of", desc := "()Ljava/util/Map;", sig := { parameters := [], returnType := some (.object "java/util/Map") }, accessFlags := 9, code := some k3c0 }
def k3c1 : Code := { maxStack := 2, maxLocals := 1, code := jdk_72_method_39_code, exceptionTable := #[], attributes := #[] }
def k3m1 : Method := { name := "copyOf", desc := "(Ljava/util/Map;)Ljava/util/Map;", sig := { parameters := [(.object "java/util/Map")], returnType := some (.object "java/util/Map") }, accessFlags := 9, code := some k3c1 }
/-- java/util/Map -/
def k3 : Class := { plain "java/util/Map" (some 0) with
  accessFlags := 1537
  interfaces := #[]
  cf := some (fileOf pool3 2 #[.nestMembers #[36]] #[{ accessFlags := 9, nameIndex := 108, descriptorIndex := 109, attributes := #[] }, { accessFlags := 9, nameIndex := 250, descriptorIndex := 251, attributes := #[] }] 1537 93 #[] #[])
  fields := #[]
  methods := #[k3m0, k3m1]
  instanceTypes := #[]
  staticTypes := #[]
  resolved := Array.replicate 263 none
  statics := none }

def pool4 : Array CpInfo := pool [(2, .class_ 4), (1, u "java/lang/Object"), (0, u "<init>"), (0, u "()V"), (3, .class_ 11), (0, u "java/util/ImmutableCollections$List12"), (0, .class_ 13), (0, u "java/util/ImmutableCollections$ListN"), (3, u "Z"), (29, .class_ 49), (1, u "java/util/ImmutableCollections"), (0, u "$assertionsDisabled"), (5, u "[Ljava/lang/Object;"), (5, u "EMPTY_LIST"), (0, u "Ljava/util/ImmutableCollections$ListN;"), (8, u "EMPTY_LIST_NULLS"), (22, u "SALT32L"), (0, u "J"), (2, u "REVERSE"), (6, u "archivedObjects"), (2, u "EMPTY"), (0, u "Ljava/lang/Object;"), (0, .class_ 112), (0, u "java/util/ImmutableCollections$SetN"), (5, u "EMPTY_SET"), (0, u "Ljava/util/ImmutableCollections$SetN;"), (0, .class_ 121), (0, u "java/util/ImmutableCollections$MapN"), (3, u "EMPTY_MAP"), (0, u "Ljava/util/ImmutableCollections$MapN;"), (4, u "EXPAND_FACTOR"), (0, u "I"), (36, .class_ 170), (0, u "java/util/ImmutableCollections$MapN$MapNIterator"), (0, .class_ 172), (0, u "java/util/ImmutableCollections$MapN$1"), (0, .class_ 174), (0, u "java/util/ImmutableCollections$Map1"), (0, .class_ 176), (0, u "java/util/ImmutableCollections$AbstractImmutableMap"), (0, .class_ 178), (0, u "java/util/ImmutableCollections$SetN$SetNIterator"), (0, .class_ 180), (0, u "java/util/ImmutableCollections$Set12"), (0, .class_ 182), (0, u "java/util/ImmutableCollections$Set12$1"), (0, .class_ 184), (0, u "java/util/ImmutableCollections$AbstractImmutableSet"), (0, .class_ 186), (0, u "java/util/ImmutableCollections$SubList"), (0, .class_ 188), (0, u "java/util/ImmutableCollections$ListItr"), (0, .class_ 190), (0, u "java/util/ImmutableCollections$AbstractImmutableList"), (0, .class_ 192), (0, u "java/util/ImmutableCollections$AbstractImmutableCollection"), (0, .class_ 194), (0, u "java/util/ImmutableCollections$Access"), (0, .class_ 196), (0, u "java/util/ImmutableCollections$Access$1")] 16

def k4m0 : Method := { name := "<init>", desc := "()V", sig := { parameters := [], returnType := none }, accessFlags := 2, code := none }
/-- java/util/ImmutableCollections -/
def k4 : Class := { plain "java/util/ImmutableCollections" (some 0) with
  accessFlags := 32
  interfaces := #[]
  cf := some (fileOf pool4 47 #[.nestMembers #[120, 169, 171, 173, 175, 111, 177, 179, 181, 183, 12, 10, 185, 187, 189, 191, 193, 195]] #[{ accessFlags := 2, nameIndex := 5, descriptorIndex := 6, attributes := #[] }] 32 2 #[] #[{ accessFlags := 26, nameIndex := 95, descriptorIndex := 96, attributes := #[] }, { accessFlags := 26, nameIndex := 99, descriptorIndex := 17, attributes := #[] }, { accessFlags := 10, nameIndex := 106, descriptorIndex := 56, attributes := #[] }, { accessFlags := 26, nameIndex := 109, descriptorIndex := 110, attributes := #[] }, { accessFlags := 24, nameIndex := 62, descriptorIndex := 63, attributes := #[] }, { accessFlags := 24, nameIndex := 72, descriptorIndex := 63, attributes := #[] }, { accessFlags := 24, nameIndex := 118, descriptorIndex := 119, attributes := #[] }, { accessFlags := 24, nameIndex := 125, descriptorIndex := 126, attributes := #[] }, { accessFlags := 24, nameIndex := 131, descriptorIndex := 132, attributes := #[] }, { accessFlags := 4120, nameIndex := 50, descriptorIndex := 17, attributes := #[] }])
  fields := #[{ name := "SALT32L", type := .long, accessFlags := 26, slot := 0, constantValue := 0 }, { name := "REVERSE", type := .boolean, accessFlags := 26, slot := 1, constantValue := 0 }, { name := "archivedObjects", type := (.array (.object "java/lang/Object")), accessFlags := 10, slot := 2, constantValue := 0 }, { name := "EMPTY", type := (.object "java/lang/Object"), accessFlags := 26, slot := 3, constantValue := 0 }, { name := "EMPTY_LIST", type := (.object "java/util/ImmutableCollections$ListN"), accessFlags := 24, slot := 4, constantValue := 0 }, { name := "EMPTY_LIST_NULLS", type := (.object "java/util/ImmutableCollections$ListN"), accessFlags := 24, slot := 5, constantValue := 0 }, { name := "EMPTY_SET", type := (.object "java/util/ImmutableCollections$SetN"), accessFlags := 24, slot := 6, constantValue := 0 }, { name := "EMPTY_MAP", type := (.object "java/util/ImmutableCollections$MapN"), accessFlags := 24, slot := 7, constantValue := 0 }, { name := "EXPAND_FACTOR", type := .int, accessFlags := 24, slot := 8, constantValue := 0 }, { name := "$assertionsDisabled", type := .boolean, accessFlags := 4120, slot := 9, constantValue := 0 }]
  methods := #[k4m0]
  instanceTypes := #[]
  staticTypes := #[.long, .boolean, (.array (.object "java/lang/Object")), (.object "java/lang/Object"), (.object "java/util/ImmutableCollections$ListN"), (.object "java/util/ImmutableCollections$ListN"), (.object "java/util/ImmutableCollections$SetN"), (.object "java/util/ImmutableCollections$MapN"), .int, .boolean]
  resolved := Array.replicate 213 none
  statics := some 0 }

def pool5 : Array CpInfo := pool [(1, .class_ 2), (0, u "java/lang/Cloneable"), (0, .class_ 4), (0, u "java/lang/Object")] 2

/-- java/lang/Cloneable -/
def k5 : Class := { plain "java/lang/Cloneable" (some 0) with
  accessFlags := 1537
  interfaces := #[]
  cf := some (fileOf pool5 1 #[] #[] 1537 3 #[] #[])
  fields := #[]
  methods := #[]
  instanceTypes := #[]
  staticTypes := #[]
  resolved := Array.replicate 7 none
  statics := none }

def pool6 : Array CpInfo := pool [(2, .class_ 4), (1, u "java/lang/Object"), (0, u "<init>"), (0, u "()V"), (1, .class_ 10), (1, u "java/util/AbstractMap"), (42, .class_ 54), (0, u "java/util/Map"), (9, u "keySet"), (0, u "Ljava/util/Set;"), (0, .class_ 67), (0, u "java/util/AbstractMap$1"), (5, u "values"), (0, u "Ljava/util/Collection;"), (0, .class_ 76), (0, u "java/util/AbstractMap$2"), (104, .class_ 182), (0, u "java/util/AbstractMap$ViewCollection"), (0, .class_ 184), (0, u "java/util/AbstractMap$SimpleImmutableEntry"), (0, .class_ 186), (0, u "java/util/AbstractMap$SimpleEntry"), (0, .class_ 188), (0, u "java/util/AbstractMap$2$1"), (0, .class_ 190), (0, u "java/util/AbstractMap$1$1")] 5

def k6m0 : Method := { name := "<init>", desc := "()V", sig := { parameters := [], returnType := none }, accessFlags := 4, code := none }
/-- java/util/AbstractMap -/
def k6 : Class := { plain "java/util/AbstractMap" (some 0) with
  accessFlags := 1057
  interfaces := #[3]
  cf := some (fileOf pool6 8 #[.nestMembers #[181, 183, 185, 75, 187, 66, 189]] #[{ accessFlags := 4, nameIndex := 5, descriptorIndex := 6, attributes := #[] }] 1057 2 #[53] #[{ accessFlags := 128, nameIndex := 64, descriptorIndex := 65, attributes := #[] }, { accessFlags := 128, nameIndex := 73, descriptorIndex := 74, attributes := #[] }])
  fields := #[{ name := "keySet", type := (.object "java/util/Set"), accessFlags := 128, slot := 0, constantValue := 0 }, { name := "values", type := (.object "java/util/Collection"), accessFlags := 128, slot := 1, constantValue := 0 }]
  methods := #[k6m0]
  instanceTypes := #[(.object "java/util/Set"), (.object "java/util/Collection")]
  staticTypes := #[]
  resolved := Array.replicate 196 none
  statics := none }

def pool7 : Array CpInfo := pool [(1, .class_ 2), (0, u "java/io/Serializable"), (0, .class_ 4), (0, u "java/lang/Object")] 2

/-- java/io/Serializable -/
def k7 : Class := { plain "java/io/Serializable" (some 0) with
  accessFlags := 1537
  interfaces := #[]
  cf := some (fileOf pool7 1 #[] #[] 1537 3 #[] #[])
  fields := #[]
  methods := #[]
  instanceTypes := #[]
  staticTypes := #[]
  resolved := Array.replicate 7 none
  statics := none }

def pool8 : Array CpInfo := pool [(2, .class_ 4), (1, u "java/util/AbstractMap"), (0, u "<init>"), (0, u "()V"), (1, .class_ 10), (1, u "java/util/ImmutableCollections"), (3, .class_ 16), (1, u "java/util/ImmutableCollections$AbstractImmutableMap"), (2, .class_ 20), (0, u "java/io/Serializable")] 66

def k8m0 : Method := { name := "<init>", desc := "()V", sig := { parameters := [], returnType := none }, accessFlags := 0, code := none }
/-- java/util/ImmutableCollections$AbstractImmutableMap -/
def k8 : Class := { plain "java/util/ImmutableCollections$AbstractImmutableMap" (some 6) with
  accessFlags := 1056
  interfaces := #[7]
  cf := some (fileOf pool8 14 #[.nestHost 8] #[{ accessFlags := 0, nameIndex := 5, descriptorIndex := 6, attributes := #[] }] 1056 2 #[19] #[])
  fields := #[]
  methods := #[k8m0]
  instanceTypes := #[(.object "java/util/Set"), (.object "java/util/Collection")]
  staticTypes := #[]
  resolved := Array.replicate 87 none
  statics := none }

def pool9 : Array CpInfo := pool [(1, .class_ 2), (0, u "java/util/ImmutableCollections"), (1, .class_ 6), (1, u "java/util/ImmutableCollections$AbstractImmutableMap"), (10, .class_ 19), (1, u "java/util/ImmutableCollections$MapN"), (0, u "size"), (0, u "I"), (4, u "table"), (0, u "[Ljava/lang/Object;")] 121

/-- java/util/ImmutableCollections$MapN -/
def k9 : Class := { plain "java/util/ImmutableCollections$MapN" (some 8) with
  accessFlags := 48
  interfaces := #[]
  cf := some (fileOf pool9 17 #[.nestHost 1] #[] 48 4 #[] #[{ accessFlags := 16, nameIndex := 26, descriptorIndex := 27, attributes := #[] }, { accessFlags := 16, nameIndex := 20, descriptorIndex := 21, attributes := #[] }])
  fields := #[{ name := "table", type := (.array (.object "java/lang/Object")), accessFlags := 16, slot := 2, constantValue := 0 }, { name := "size", type := .int, accessFlags := 16, slot := 3, constantValue := 0 }]
  methods := #[]
  instanceTypes := #[(.object "java/util/Set"), (.object "java/util/Collection"), (.array (.object "java/lang/Object")), .int]
  staticTypes := #[]
  resolved := Array.replicate 149 none
  statics := none }

def pool10 : Array CpInfo := pool [(2, .class_ 4), (1, u "java/lang/Object"), (0, u "<init>"), (0, u "()V"), (1, .class_ 10), (1, u "java/lang/System"), (0, u "allowSecurityManager"), (0, u "I"), (16, u "cons"), (0, u "Ljava/io/Console;"), (77, .class_ 110), (1, u "java/lang/System$CallersHolder"), (43, u "initialErrStream"), (0, u "Ljava/io/PrintStream;"), (19, u "security"), (0, u "Ljava/lang/SecurityManager;"), (31, .class_ 209), (0, u "java/lang/System$1"), (7, u "props"), (0, u "Ljava/util/Properties;"), (2, u "lineSeparator"), (0, u "Ljava/lang/String;"), (96, .class_ 321), (1, u "java/lang/System$LoggerFinder"), (5, .class_ 328), (0, u "java/lang/System$Logger"), (67, u "err"), (2, u "out"), (91, u "notSupportedJnuEncoding"), (15, u "in"), (17, u "initialIn"), (0, u "Ljava/io/InputStream;"), (35, u "bootLayer"), (0, u "Ljava/lang/ModuleLayer;"), (99, .class_ 664), (0, u "java/lang/System$2"), (9, u "NEVER"), (2, u "MAYBE"), (49, u "arraycopy"), (0, u "(Ljava/lang/Object;ILjava/lang/Object;II)V"), (72, .class_ 802), (0, u "java/lang/System$Logger$Level")] 31

def k10m0 : Method := { name := "<init>", desc := "()V", sig := { parameters := [], returnType := none }, accessFlags := 2, code := none }
def k10m1 : Method := { name := "arraycopy", desc := "(Ljava/lang/Object;ILjava/lang/Object;II)V", sig := { parameters := [(.object "java/lang/Object"), .int, (.object "java/lang/Object"), .int, .int], returnType := none }, accessFlags := 265, code := none }
/-- java/lang/System -/
def k10 : Class := { plain "java/lang/System" (some 0) with
  accessFlags := 49
  interfaces := #[]
  cf := some (fileOf pool10 8 #[.nestMembers #[319, 327, 801, 108, 663, 208]] #[{ accessFlags := 2, nameIndex := 5, descriptorIndex := 6, attributes := #[] }, { accessFlags := 265, nameIndex := 727, descriptorIndex := 728, attributes := #[] }] 49 2 #[] #[{ accessFlags := 25, nameIndex := 507, descriptorIndex := 526, attributes := #[] }, { accessFlags := 25, nameIndex := 399, descriptorIndex := 155, attributes := #[] }, { accessFlags := 25, nameIndex := 396, descriptorIndex := 155, attributes := #[] }, { accessFlags := 10, nameIndex := 525, descriptorIndex := 526, attributes := #[] }, { accessFlags := 26, nameIndex := 674, descriptorIndex := 12, attributes := #[] }, { accessFlags := 26, nameIndex := 677, descriptorIndex := 12, attributes := #[] }, { accessFlags := 10, nameIndex := 11, descriptorIndex := 12, attributes := #[] }, { accessFlags := 74, nameIndex := 175, descriptorIndex := 176, attributes := #[] }, { accessFlags := 10, nameIndex := 491, descriptorIndex := 222, attributes := #[] }, { accessFlags := 74, nameIndex := 29, descriptorIndex := 30, attributes := #[] }, { accessFlags := 74, nameIndex := 154, descriptorIndex := 155, attributes := #[] }, { accessFlags := 10, nameIndex := 217, descriptorIndex := 218, attributes := #[] }, { accessFlags := 10, nameIndex := 221, descriptorIndex := 222, attributes := #[] }, { accessFlags := 8, nameIndex := 562, descriptorIndex := 563, attributes := #[] }])
  fields := #[{ name := "in", type := (.object "java/io/InputStream"), accessFlags := 25, slot := 0, constantValue := 0 }, { name := "out", type := (.object "java/io/PrintStream"), accessFlags := 25, slot := 1, constantValue := 0 }, { name := "err", type := (.object "java/io/PrintStream"), accessFlags := 25, slot := 2, constantValue := 0 }, { name := "initialIn", type := (.object "java/io/InputStream"), accessFlags := 10, slot := 3, constantValue := 0 }, { name := "NEVER", type := .int, accessFlags := 26, slot := 4, constantValue := 0 }, { name := "MAYBE", type := .int, accessFlags := 26, slot := 5, constantValue := 0 }, { name := "allowSecurityManager", type := .int, accessFlags := 10, slot := 6, constantValue := 0 }, { name := "security", type := (.object "java/lang/SecurityManager"), accessFlags := 74, slot := 7, constantValue := 0 }, { name := "notSupportedJnuEncoding", type := (.object "java/lang/String"), accessFlags := 10, slot := 8, constantValue := 0 }, { name := "cons", type := (.object "java/io/Console"), accessFlags := 74, slot := 9, constantValue := 0 }, { name := "initialErrStream", type := (.object "java/io/PrintStream"), accessFlags := 74, slot := 10, constantValue := 0 }, { name := "props", type := (.object "java/util/Properties"), accessFlags := 10, slot := 11, constantValue := 0 }, { name := "lineSeparator", type := (.object "java/lang/String"), accessFlags := 10, slot := 12, constantValue := 0 }, { name := "bootLayer", type := (.object "java/lang/ModuleLayer"), accessFlags := 8, slot := 13, constantValue := 0 }]
  methods := #[k10m0, k10m1]
  instanceTypes := #[]
  staticTypes := #[(.object "java/io/InputStream"), (.object "java/io/PrintStream"), (.object "java/io/PrintStream"), (.object "java/io/InputStream"), .int, .int, .int, (.object "java/lang/SecurityManager"), (.object "java/lang/String"), (.object "java/io/Console"), (.object "java/io/PrintStream"), (.object "java/util/Properties"), (.object "java/lang/String"), (.object "java/lang/ModuleLayer")]
  resolved := Array.replicate 834 none
  statics := none }

/-- the primitive byte -/
def k11 : Class := { plain "byte" none with kind := .primitive 'B', accessFlags := 0x411 }
/-- [B -/
def k12 : Class := { plain "[B" (some 0) with kind := .array 11 .byte, interfaces := #[5, 7], accessFlags := 1041 }

/-- the primitive int -/
def k13 : Class := { plain "int" none with kind := .primitive 'I', accessFlags := 0x411 }
/-- [I -/
def k14 : Class := { plain "[I" (some 0) with kind := .array 13 .int, interfaces := #[5, 7], accessFlags := 1041 }

/-- [Ljava/lang/Object; -/
def k15 : Class := { plain "[Ljava/lang/Object;" (some 0) with kind := .array 0 (.object "java/lang/Object"), interfaces := #[5, 7], accessFlags := 1041 }

def heap : Heap := #[{ cls := 4, slots := #[.long 0, .int 0, .null, .null, .null, .null, .null, .ref 2, .int 0, .int 0], vm := .statics 4 },
  { cls := 15, slots := #[], vm := .none },
  { cls := 9, slots := #[.null, .null, .ref 1, .int 0], vm := .none }]
def classes : Array Class := #[k0, k1, k2, k3, k4, k5, k6, k7, k8, k9, k10, k11, k12, k13, k14, k15]
def interned : List (Array UInt16 × Addr) := []
def slotsUsed : Nat := 14
def theMethod : MethodId := ⟨1, 1⟩
def args0 : Array Value := #[.int 5, .int 6, .int 7, .int 8, .int 9]
def aboutOver (below : List Frame) : State where
  vm := { classes := classes, interned := interned.toArray }
  heap := heap
  slotsUsed := slotsUsed
  threads := #[{ frames := .invoking theMethod args0 :: below }]
def below0 : List Frame := [.native { method := ⟨0, 0⟩, args := #[] }]
def about1 : State := aboutOver below0
def p0 : Program := .bare "" "" ""
def e0 : Env := launch0.env 0 0 0
theorem w_frames : about1.frames = Frame.invoking theMethod args0 :: below0 := rfl
set_option maxRecDepth 65536 in
theorem w_args : argsFit about1.vm theMethod args0 = true := by decide +kernel
set_option maxRecDepth 65536 in
theorem w_heap : heapFits about1 = true := by decide +kernel
set_option maxRecDepth 65536 in
theorem w_runnable : about1.curStatus? = some .runnable := by decide +kernel
set_option maxRecDepth 65536 in
theorem w_alone : about1.alone = true := by decide +kernel
set_option maxRecDepth 65536 in
theorem w_named : about1.methodNamed? x = some theMethod := by decide +kernel
set_option maxRecDepth 65536 in
theorem w_hears : about1.hears theMethod below0 = true := by decide +kernel
set_option maxRecDepth 65536 in
theorem w_ripe : about1.ripe theMethod args0 below0 = true := by decide +kernel
theorem w_running : about1.status = .running := rfl
set_option maxRecDepth 65536 in
theorem w_room : about1.hasRoom e0.platform room_1 = true :=
  launch0.hasRoom_least _ room_1 (by decide +kernel) (by decide +kernel) (by decide +kernel) (by decide +kernel) (by decide +kernel) (by decide +kernel)
theorem allAtoms_all (ts : List Jvm.Cond) (a : Array Jvm.Value) (st : Jvm.State) : (allAtoms ts).before a st = ts.all (fun c => c.before a st) := by
  induction ts with
  | nil => rfl
  | cons c t ih =>
    show (Jvm.Cond.and c (allAtoms t)).before a st = _
    rw [Jvm.Cond.before_and, ih, List.all_cons]
def words1 : List Jvm.Cond := Jvm.Cond.code x code maxLocals ret :: tables_1
/-- a 'code' word, met by the world's own term for the bytes: nothing is compared byte by byte -/
theorem code_word {y : MethodName} {bytes : ByteArray} {mx : Nat} {rt : Option FieldType} {a : Array Value} {s : State} {m : MethodId} {meth : Method} {c : Code} (h1 : s.methodNamed? y = some m) (h2 : s.vm.method? m = some meth) (h3 : meth.code = some c) (h4 : c.code = bytes)
    (h5 : (c.maxLocals == mx && c.exceptionTable.isEmpty && decide (c.maxStack ≤ mostOperands) && decide (meth.sig.returnType = rt) && !meth.locks && decide (parseMethodDescriptor y.desc = some meth.sig)) = true) : (Jvm.Cond.code y bytes mx rt).before a s = true := by
  simp only [Bool.and_eq_true, beq_iff_eq, Bool.not_eq_true', decide_eq_true_eq] at h5
  obtain ⟨⟨⟨⟨⟨g1, g2⟩, g3⟩, g4⟩, g5⟩, g6⟩ := h5
  simp [Cond.before, Cond.holds, Cond.value, h1, h2, h3, h4, g1, g2, g3, g4, g5, g6]
def isCode : Jvm.Cond → Bool
  | .code _ _ _ _ => true
  | _ => false
theorem all_split {L : List Jvm.Cond} {P : Jvm.Cond → Bool} (h1 : L.all (fun c => isCode c || P c) = true) (h2 : ∀ c ∈ L.filter isCode, P c = true) : L.all P = true := by
  refine List.all_eq_true.mpr fun c hc => ?_
  have h := List.all_eq_true.mp h1 c hc
  rcases Bool.eq_false_or_eq_true (isCode c) with hi | hi
  · exact h2 c (List.mem_filter.mpr ⟨hc, hi⟩)
  · simpa [hi] using h
set_option maxRecDepth 65536 in
theorem w_c0 : (Jvm.Cond.code x code maxLocals ret).before args0 about1 = true := code_word (m := ⟨1, 1⟩) (meth := k1m1) (c := k1c1) (by decide +kernel) rfl rfl rfl (by decide +kernel)
set_option maxRecDepth 65536 in
theorem w_c1 : (Jvm.Cond.code ({ cls := "com/example/sluice/sluice/processor/FlowFileCopyContentPinLaw", name := "makeContent", desc := "(II)[B" } : Jvm.MethodName) method_6_code (2 : Nat) (Option.some (Jvm.ClassFile.FieldType.array Jvm.ClassFile.FieldType.byte))).before args0 about1 = true := code_word (m := ⟨1, 5⟩) (meth := k1m5) (c := k1c5) (by decide +kernel) rfl rfl rfl (by decide +kernel)
set_option maxRecDepth 65536 in
theorem w_c2 : (Jvm.Cond.code ({ cls := "com/example/sluice/sluice/processor/FlowFileCopyContentPinLaw", name := "cb", desc := "(II)B" } : Jvm.MethodName) method_4_code (2 : Nat) (Option.some Jvm.ClassFile.FieldType.byte)).before args0 about1 = true := code_word (m := ⟨1, 3⟩) (meth := k1m3) (c := k1c3) (by decide +kernel) rfl rfl rfl (by decide +kernel)
set_option maxRecDepth 65536 in
theorem w_c3 : (Jvm.Cond.code ({ cls := "java/util/Map", name := "of", desc := "()Ljava/util/Map;" } : Jvm.MethodName) jdk_72_method_26_code (0 : Nat) (Option.some (Jvm.ClassFile.FieldType.object "java/util/Map"))).before args0 about1 = true := code_word (m := ⟨3, 0⟩) (meth := k3m0) (c := k3c0) (by decide +kernel) rfl rfl rfl (by decide +kernel)
set_option maxRecDepth 65536 in
theorem w_c4 : (Jvm.Cond.code ({ cls := "com/example/sluice/sluice/processor/FlowFile", name := "<init>", desc := "(Ljava/util/Map;[B)V" } : Jvm.MethodName) prog_30_method_1_code (3 : Nat) (Option.none : Option Jvm.ClassFile.FieldType)).before args0 about1 = true := code_word (m := ⟨2, 0⟩) (meth := k2m0) (c := k2c0) (by decide +kernel) rfl rfl rfl (by decide +kernel)
set_option maxRecDepth 65536 in
theorem w_c5 : (Jvm.Cond.code ({ cls := "java/util/Map", name := "copyOf", desc := "(Ljava/util/Map;)Ljava/util/Map;" } : Jvm.MethodName) jdk_72_method_39_code (1 : Nat) (Option.some (Jvm.ClassFile.FieldType.object "java/util/Map"))).before args0 about1 = true := code_word (m := ⟨3, 1⟩) (meth := k3m1) (c := k3c1) (by decide +kernel) rfl rfl rfl (by decide +kernel)
set_option maxRecDepth 65536 in
theorem w_c6 : (Jvm.Cond.code ({ cls := "com/example/sluice/sluice/processor/FlowFile", name := "<init>", desc := "([BLjava/util/Map;)V" } : Jvm.MethodName) prog_30_method_3_code (3 : Nat) (Option.none : Option Jvm.ClassFile.FieldType)).before args0 about1 = true := code_word (m := ⟨2, 1⟩) (meth := k2m1) (c := k2c1) (by decide +kernel) rfl rfl rfl (by decide +kernel)
set_option maxRecDepth 65536 in
theorem w_c7 : (Jvm.Cond.code ({ cls := "java/lang/Object", name := "<init>", desc := "()V" } : Jvm.MethodName) object_method_1_code (1 : Nat) (Option.none : Option Jvm.ClassFile.FieldType)).before args0 about1 = true := code_word (m := ⟨0, 0⟩) (meth := k0m0) (c := k0c0) (by decide +kernel) rfl rfl rfl (by decide +kernel)
set_option maxRecDepth 65536 in
theorem w_c8 : (Jvm.Cond.code ({ cls := "com/example/sluice/sluice/processor/FlowFileCopyContentPinLaw", name := "db", desc := "(III)B" } : Jvm.MethodName) method_3_code (3 : Nat) (Option.some Jvm.ClassFile.FieldType.byte)).before args0 about1 = true := code_word (m := ⟨1, 2⟩) (meth := k1m2) (c := k1c2) (by decide +kernel) rfl rfl rfl (by decide +kernel)
set_option maxRecDepth 65536 in
theorem w_c9 : (Jvm.Cond.code ({ cls := "com/example/sluice/sluice/processor/FlowFile", name := "copyContent", desc := "([BI)V" } : Jvm.MethodName) prog_30_method_10_code (3 : Nat) (Option.none : Option Jvm.ClassFile.FieldType)).before args0 about1 = true := code_word (m := ⟨2, 2⟩) (meth := k2m2) (c := k2c2) (by decide +kernel) rfl rfl rfl (by decide +kernel)
set_option maxRecDepth 65536 in
theorem w_c10 : (Jvm.Cond.code ({ cls := "com/example/sluice/sluice/processor/FlowFile", name := "size", desc := "()I" } : Jvm.MethodName) prog_30_method_11_code (1 : Nat) (Option.some Jvm.ClassFile.FieldType.int)).before args0 about1 = true := code_word (m := ⟨2, 3⟩) (meth := k2m3) (c := k2c3) (by decide +kernel) rfl rfl rfl (by decide +kernel)
set_option maxRecDepth 65536 in
theorem w_c11 : (Jvm.Cond.code ({ cls := "com/example/sluice/sluice/processor/FlowFileCopyContentPinLaw", name := "expected", desc := "(IIIIII)B" } : Jvm.MethodName) method_5_code (6 : Nat) (Option.some Jvm.ClassFile.FieldType.byte)).before args0 about1 = true := code_word (m := ⟨1, 4⟩) (meth := k1m4) (c := k1c4) (by decide +kernel) rfl rfl rfl (by decide +kernel)
def codes1 : List Jvm.Cond := [Jvm.Cond.code x code maxLocals ret, Jvm.Cond.code ({ cls := "com/example/sluice/sluice/processor/FlowFileCopyContentPinLaw", name := "makeContent", desc := "(II)[B" } : Jvm.MethodName) method_6_code (2 : Nat) (Option.some (Jvm.ClassFile.FieldType.array Jvm.ClassFile.FieldType.byte)), Jvm.Cond.code ({ cls := "com/example/sluice/sluice/processor/FlowFileCopyContentPinLaw", name := "cb", desc := "(II)B" } : Jvm.MethodName) method_4_code (2 : Nat) (Option.some Jvm.ClassFile.FieldType.byte), Jvm.Cond.code ({ cls := "java/util/Map", name := "of", desc := "()Ljava/util/Map;" } : Jvm.MethodName) jdk_72_method_26_code (0 : Nat) (Option.some (Jvm.ClassFile.FieldType.object "java/util/Map")), Jvm.Cond.code ({ cls := "com/example/sluice/sluice/processor/FlowFile", name := "<init>", desc := "(Ljava/util/Map;[B)V" } : Jvm.MethodName) prog_30_method_1_code (3 : Nat) (Option.none : Option Jvm.ClassFile.FieldType), Jvm.Cond.code ({ cls := "java/util/Map", name := "copyOf", desc := "(Ljava/util/Map;)Ljava/util/Map;" } : Jvm.MethodName) jdk_72_method_39_code (1 : Nat) (Option.some (Jvm.ClassFile.FieldType.object "java/util/Map")), Jvm.Cond.code ({ cls := "com/example/sluice/sluice/processor/FlowFile", name := "<init>", desc := "([BLjava/util/Map;)V" } : Jvm.MethodName) prog_30_method_3_code (3 : Nat) (Option.none : Option Jvm.ClassFile.FieldType), Jvm.Cond.code ({ cls := "java/lang/Object", name := "<init>", desc := "()V" } : Jvm.MethodName) object_method_1_code (1 : Nat) (Option.none : Option Jvm.ClassFile.FieldType), Jvm.Cond.code ({ cls := "com/example/sluice/sluice/processor/FlowFileCopyContentPinLaw", name := "db", desc := "(III)B" } : Jvm.MethodName) method_3_code (3 : Nat) (Option.some Jvm.ClassFile.FieldType.byte), Jvm.Cond.code ({ cls := "com/example/sluice/sluice/processor/FlowFile", name := "copyContent", desc := "([BI)V" } : Jvm.MethodName) prog_30_method_10_code (3 : Nat) (Option.none : Option Jvm.ClassFile.FieldType), Jvm.Cond.code ({ cls := "com/example/sluice/sluice/processor/FlowFile", name := "size", desc := "()I" } : Jvm.MethodName) prog_30_method_11_code (1 : Nat) (Option.some Jvm.ClassFile.FieldType.int), Jvm.Cond.code ({ cls := "com/example/sluice/sluice/processor/FlowFileCopyContentPinLaw", name := "expected", desc := "(IIIIII)B" } : Jvm.MethodName) method_5_code (6 : Nat) (Option.some Jvm.ClassFile.FieldType.byte)]
set_option maxRecDepth 65536 in
theorem codes_eq : words1.filter isCode = codes1 := rfl
theorem w_codes : ∀ c ∈ words1.filter isCode, c.before args0 about1 = true := by
  rw [codes_eq]
  intro c hc
  simp only [codes1, List.mem_cons, List.not_mem_nil, or_false] at hc
  rcases hc with rfl | rfl | rfl | rfl | rfl | rfl | rfl | rfl | rfl | rfl | rfl | rfl
  · exact w_c0
  · exact w_c1
  · exact w_c2
  · exact w_c3
  · exact w_c4
  · exact w_c5
  · exact w_c6
  · exact w_c7
  · exact w_c8
  · exact w_c9
  · exact w_c10
  · exact w_c11
set_option maxRecDepth 65536 in
theorem w_t1 : (words1.take 24).all (fun c => isCode c || c.before args0 about1) = true := by decide +kernel
set_option maxRecDepth 65536 in
theorem w_t2 : ((words1.drop 24).take 24).all (fun c => isCode c || c.before args0 about1) = true := by decide +kernel
set_option maxRecDepth 65536 in
theorem w_t3 : ((words1.drop 24).drop 24).all (fun c => isCode c || c.before args0 about1) = true := by decide +kernel
theorem w_tables : (allAtoms (Jvm.Cond.code x code maxLocals ret :: tables_1)).before args0 about1 = true := by
  rw [allAtoms_all]
  show words1.all (fun c => c.before args0 about1) = true
  refine all_split ?_ w_codes
  rw [← List.take_append_drop 24 words1, List.all_append, w_t1, ← List.take_append_drop 24 (words1.drop 24), List.all_append, w_t2, w_t3]
  rfl
set_option maxRecDepth 65536 in
theorem w_rest : rest_1_c.before args0 about1 = true := by decide +kernel
set_option maxRecDepth 65536 in
theorem w_case : (Jvm.Cond.and given_1 narrow_1).before args0 about1 = true := by decide +kernel
theorem w_applies : (headSpec (Jvm.Cond.code x code maxLocals ret :: tables_1) room_1).applies x e0.platform about1 = true :=
  (Spec.applies_iff w_frames).mpr ⟨w_running, w_runnable, w_alone, w_named, w_hears, w_ripe, w_room, w_tables⟩
theorem atStart : AtStart classFile x code maxLocals ret World_1 tables_1 room_1 Calls_1 rest_1 Pre_1 launch0 p0 e0 about1 theMethod args0 below0 :=
  ⟨lists_1, trivial, launch0.admits_env _ _ _, launch0.least_env, fairChoices_fair.cas, fairChoices_fair.clock, w_frames, w_args, w_heap, w_applies, trivial, w_rest, w_case⟩
end start1
theorem witness_1 : WitnessClaimed_1 := ⟨start1.p0, start1.e0, start1.about1, start1.theMethod, start1.args0, start1.below0, start1.atStart⟩
end Jvm.Pilot.@@N@@
