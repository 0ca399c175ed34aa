import JvmDerived
import JvmDerived.Pilot.@@N@@Statement
import JvmDerived.Pilot.@@N@@Code
set_option linter.unusedVariables false
set_option linter.unusedSimpArgs false
namespace Jvm.Pilot.@@N@@
open Jvm Jvm.ClassFile Sem Op Lib Jvm.Free Jvm.Stand Jvm.LawKit Jvm.RoadKit Bundle Jvm.Pilot.@@N@@.Jvm.D
section Own
variable {p : Program} {l : Launch} {e : Env} {R : Room} {s : State} {m : MethodId} {args : Array Value} {below : List Frame} {meth : Method} {c : Code} {T : State} {locs : List Loc} {cells slots : Nat}
def Go (p : Program) (e : Env) (below : List Frame) (F : State → Outcome → Prop) (t : State) : Prop := ∃ s₂ o, Steps p.tables e below t s₂ ∧ F s₂ o
theorem Go.via {F : State → Outcome → Prop} {a b : State} (h : ∀ t, Steps p.tables e below b t → Steps p.tables e below a t) (g : Go p e below F b) : Go p e below F a := by
  obtain ⟨s₂, o, k, f⟩ := g
  exact ⟨s₂, o, h _ k, f⟩
theorem Go.tr {F : State → Outcome → Prop} {a b : State} (h : Steps p.tables e below a b) (g : Go p e below F b) : Go p e below F a := by
  obtain ⟨s₂, o, k, f⟩ := g
  exact ⟨s₂, o, h.trans k, f⟩
def FinE (s : State) (below : List Frame) (Q : Option Value → Heap → List Loc → Prop) (C S : Nat) (s₂ : State) (o : Outcome) : Prop := s₂.status = .running ∧ Ended s₂ below o ∧ ∃ v L, o = .returned v ∧ Q v s₂.heap L ∧ FrameEnd s o s₂ L C S
variable {Q : Option Value → Heap → List Loc → Prop} {C S : Nat}
theorem own_retN (X : Stand p l e R s m args below meth c T locs cells slots) (hx : p.tables.exec = Jvm.exec) (hlk : meth.locks = false) {pc : Nat} {Ls : Array Slot} {z : Int32} {t : FieldType} {rest : List Value} (hret : meth.sig.returnType = some t) (ht : t = .boolean ∨ t = .byte ∨ t = .char ∨ t = .short)
    (hd : decode c.code pc = .ok (.ireturn, 1)) (hQ : Q (some (.int (nar t z))) T.heap locs) (hc : cells ≤ C) (hs : slots ≤ S) : Go p e below (FinE s below Q C S) (T.setTop (mkF m pc Ls (.int z :: rest))) := by
  obtain ⟨fs, hr, hrun, hended, hW, hsame⟩ := X.leave (v := some (.int (nar t z))) (fun h => by rw [hret] at h; cases h) hlk
  exact ⟨_, _, retN X hx hret ht hd hr, hrun, hended, _, _, rfl, hQ, ⟨_, rfl⟩, hW, hsame.mono hc hs⟩
theorem own_retI (X : Stand p l e R s m args below meth c T locs cells slots) (hx : p.tables.exec = Jvm.exec) (hlk : meth.locks = false) {pc : Nat} {Ls : Array Slot} {z : Int32} {rest : List Value} (hret : meth.sig.returnType = some .int)
    (hd : decode c.code pc = .ok (.ireturn, 1)) (hQ : Q (some (.int z)) T.heap locs) (hc : cells ≤ C) (hs : slots ≤ S) : Go p e below (FinE s below Q C S) (T.setTop (mkF m pc Ls (.int z :: rest))) := by
  obtain ⟨fs, hr, hrun, hended, hW, hsame⟩ := X.leave (v := some (.int z)) (fun h => by rw [hret] at h; cases h) hlk
  refine ⟨T.setFrames fs, _, ?_, hrun, hended, _, _, rfl, hQ, ⟨_, rfl⟩, hW, hsame.mono hc hs⟩
  have hm' : T.vm.method? m = some meth := X.method'
  have hn : narrow .int (.int z) = .int z := rfl
  show Steps p.tables e below (T.setTop { method := m, pc := pc, locals := Ls, stack := _ :: rest, locked := none }) _
  jvm_step X.here [X.here.top, hx, hd, hm', hret, hn]
  first | (intro acts; rw [hr _ acts rfl rfl rfl]) | rw [hr _ _ rfl rfl rfl]
  exact Steps.refl _
theorem own_retA (X : Stand p l e R s m args below meth c T locs cells slots) (hx : p.tables.exec = Jvm.exec) (hlk : meth.locks = false) {pc : Nat} {Ls : Array Slot} {v : Value} {rest : List Value} {t : FieldType} (hret : meth.sig.returnType = some t) (ht : t.isReference = true) (hv : v.isRef = true)
    (hd : decode c.code pc = .ok (.areturn, 1)) (hQ : Q (some v) T.heap locs) (hc : cells ≤ C) (hs : slots ≤ S) : Go p e below (FinE s below Q C S) (T.setTop (mkF m pc Ls (v :: rest))) := by
  obtain ⟨fs, hr, hrun, hended, hW, hsame⟩ := X.leave (v := some v) (fun h => by rw [hret] at h; cases h) hlk
  refine ⟨T.setFrames fs, _, ?_, hrun, hended, _, _, rfl, hQ, ⟨_, rfl⟩, hW, hsame.mono hc hs⟩
  have hm' : T.vm.method? m = some meth := X.method'
  show Steps p.tables e below (T.setTop { method := m, pc := pc, locals := Ls, stack := _ :: rest, locked := none }) _
  jvm_step X.here [X.here.top, hx, hd, hm', hret, hv, ht]
  first | (intro acts; rw [hr _ acts rfl rfl rfl]) | rw [hr _ _ rfl rfl rfl]
  exact Steps.refl _
theorem own_retV (X : Stand p l e R s m args below meth c T locs cells slots) (hx : p.tables.exec = Jvm.exec) (hlk : meth.locks = false) {pc : Nat} {Ls : Array Slot} (hret : meth.sig.returnType = none)
    (hd : decode c.code pc = .ok (.return_, 1)) (hQ : Q none T.heap locs) (hc : cells ≤ C) (hs : slots ≤ S) : Go p e below (FinE s below Q C S) (T.setTop (mkF m pc Ls [])) := by
  obtain ⟨fs, hr, hrun, hended, hW, hsame⟩ := X.leave (v := none) (fun _ => rfl) hlk
  exact ⟨T.setFrames fs, _, X.returnOut hx hret hd hr, hrun, hended, _, _, rfl, hQ, ⟨_, rfl⟩, hW, hsame.mono hc hs⟩
end Own
theorem d19_0 : decode method_3_code 0 = .ok (.iload 5, 2) := by decide +kernel
theorem d19_2 : decode method_3_code 2 = .ok (.ifCond .gt 11, 3) := by decide +kernel
theorem d19_13 : decode method_3_code 13 = .ok (.iload 5, 2) := by decide +kernel
theorem d19_15 : decode method_3_code 15 = .ok (.iconst 1, 1) := by decide +kernel
theorem d19_16 : decode method_3_code 16 = .ok (.if_icmp .gt 11, 3) := by decide +kernel
theorem d19_27 : decode method_3_code 27 = .ok (.iload 5, 2) := by decide +kernel
theorem d19_29 : decode method_3_code 29 = .ok (.iconst 2, 1) := by decide +kernel
theorem d19_30 : decode method_3_code 30 = .ok (.if_icmp .gt 11, 3) := by decide +kernel
theorem d19_41 : decode method_3_code 41 = .ok (.iload 5, 2) := by decide +kernel
theorem d19_43 : decode method_3_code 43 = .ok (.iconst 3, 1) := by decide +kernel
theorem d19_44 : decode method_3_code 44 = .ok (.if_icmp .gt 11, 3) := by decide +kernel
theorem d19_55 : decode method_3_code 55 = .ok (.iconst (-1), 1) := by decide +kernel
theorem d19_56 : decode method_3_code 56 = .ok (.ireturn, 1) := by decide +kernel
theorem d19_47 : decode method_3_code 47 = .ok (.iload_n 3, 1) := by decide +kernel
theorem d19_48 : decode method_3_code 48 = .ok (.iload 4, 2) := by decide +kernel
theorem d19_50 : decode method_3_code 50 = .ok (.if_icmp .ne 5, 3) := by decide +kernel
theorem d19_53 : decode method_3_code 53 = .ok (.iconst 3, 1) := by decide +kernel
theorem d19_54 : decode method_3_code 54 = .ok (.ireturn, 1) := by decide +kernel
theorem d19_33 : decode method_3_code 33 = .ok (.iload_n 2, 1) := by decide +kernel
theorem d19_34 : decode method_3_code 34 = .ok (.iload 4, 2) := by decide +kernel
theorem d19_36 : decode method_3_code 36 = .ok (.if_icmp .ne 5, 3) := by decide +kernel
theorem d19_39 : decode method_3_code 39 = .ok (.iconst 2, 1) := by decide +kernel
theorem d19_40 : decode method_3_code 40 = .ok (.ireturn, 1) := by decide +kernel
theorem d19_19 : decode method_3_code 19 = .ok (.iload_n 1, 1) := by decide +kernel
theorem d19_20 : decode method_3_code 20 = .ok (.iload 4, 2) := by decide +kernel
theorem d19_22 : decode method_3_code 22 = .ok (.if_icmp .ne 5, 3) := by decide +kernel
theorem d19_25 : decode method_3_code 25 = .ok (.iconst 1, 1) := by decide +kernel
theorem d19_26 : decode method_3_code 26 = .ok (.ireturn, 1) := by decide +kernel
theorem d19_5 : decode method_3_code 5 = .ok (.iload_n 0, 1) := by decide +kernel
theorem d19_6 : decode method_3_code 6 = .ok (.iload 4, 2) := by decide +kernel
theorem d19_8 : decode method_3_code 8 = .ok (.if_icmp .ne 5, 3) := by decide +kernel
theorem d19_11 : decode method_3_code 11 = .ok (.iconst 0, 1) := by decide +kernel
theorem d19_12 : decode method_3_code 12 = .ok (.ireturn, 1) := by decide +kernel
theorem pn_com_example_dogwood_dogwood_model_yaml_OccurrencesFromPinLaw : plainName "com/example/dogwood/dogwood/model/yaml/OccurrencesFromPinLaw" = true := by first | (simp [plainName, overriddenIn]; done) | decide +kernel
theorem d8_0 : decode method_2_code 0 = .ok (.iload_n 0, 1) := by decide +kernel
theorem d8_1 : decode method_2_code 1 = .ok (.bipush 8, 2) := by decide +kernel
theorem d8_3 : decode method_2_code 3 = .ok (.iand, 1) := by decide +kernel
theorem d8_4 : decode method_2_code 4 = .ok (.ifCond .eq 5, 3) := by decide +kernel
theorem d8_9 : decode method_2_code 9 = .ok (.iload_n 0, 1) := by decide +kernel
theorem d8_10 : decode method_2_code 10 = .ok (.bipush 7, 2) := by decide +kernel
theorem d8_12 : decode method_2_code 12 = .ok (.iand, 1) := by decide +kernel
theorem d8_13 : decode method_2_code 13 = .ok (.iconst 2, 1) := by decide +kernel
theorem d8_14 : decode method_2_code 14 = .ok (.isub, 1) := by decide +kernel
theorem d8_15 : decode method_2_code 15 = .ok (.ireturn, 1) := by decide +kernel
theorem d8_7 : decode method_2_code 7 = .ok (.iload_n 0, 1) := by decide +kernel
theorem d8_8 : decode method_2_code 8 = .ok (.ireturn, 1) := by decide +kernel
theorem d7_0 : decode prog_18_method_1_code 0 = .ok (.aload_n 0, 1) := by decide +kernel
theorem d7_1 : decode prog_18_method_1_code 1 = .ok (.invokespecial 1, 3) := by decide +kernel
theorem d7_4 : decode prog_18_method_1_code 4 = .ok (.aload_n 0, 1) := by decide +kernel
theorem d7_5 : decode prog_18_method_1_code 5 = .ok (.ldc 9, 2) := by decide +kernel
theorem d7_7 : decode prog_18_method_1_code 7 = .ok (.putfield 10, 3) := by decide +kernel
theorem d7_10 : decode prog_18_method_1_code 10 = .ok (.aload_n 0, 1) := by decide +kernel
theorem d7_11 : decode prog_18_method_1_code 11 = .ok (.iconst (-1), 1) := by decide +kernel
theorem d7_12 : decode prog_18_method_1_code 12 = .ok (.putfield 16, 3) := by decide +kernel
theorem d7_15 : decode prog_18_method_1_code 15 = .ok (.aload_n 0, 1) := by decide +kernel
theorem d7_16 : decode prog_18_method_1_code 16 = .ok (.aload_n 1, 1) := by decide +kernel
theorem d7_17 : decode prog_18_method_1_code 17 = .ok (.putfield 19, 3) := by decide +kernel
theorem d7_20 : decode prog_18_method_1_code 20 = .ok (.aload_n 0, 1) := by decide +kernel
theorem d7_21 : decode prog_18_method_1_code 21 = .ok (.iload_n 2, 1) := by decide +kernel
theorem d7_22 : decode prog_18_method_1_code 22 = .ok (.putfield 23, 3) := by decide +kernel
theorem d7_25 : decode prog_18_method_1_code 25 = .ok (.return_, 1) := by decide +kernel
theorem pn_com_example_dogwood_dogwood_model_yaml_Occurrences : plainName "com/example/dogwood/dogwood/model/yaml/Occurrences" = true := by first | (simp [plainName, overriddenIn]; done) | decide +kernel
theorem d11_0 : decode jdk_42_method_154_code 0 = .ok (.getstatic 38, 3) := by decide +kernel
theorem d11_3 : decode jdk_42_method_154_code 3 = .ok (.ifCond .eq 14, 3) := by decide +kernel
theorem d11_6 : decode jdk_42_method_154_code 6 = .ok (.aload_n 0, 1) := by decide +kernel
theorem d11_7 : decode jdk_42_method_154_code 7 = .ok (.getfield 15, 3) := by decide +kernel
theorem d11_10 : decode jdk_42_method_154_code 10 = .ok (.ifCond .ne 7, 3) := by decide +kernel
theorem d11_13 : decode jdk_42_method_154_code 13 = .ok (.iconst 1, 1) := by decide +kernel
theorem d11_14 : decode jdk_42_method_154_code 14 = .ok (.goto 4, 3) := by decide +kernel
theorem d11_18 : decode jdk_42_method_154_code 18 = .ok (.ireturn, 1) := by decide +kernel
theorem pn_java_lang_String : plainName "java/lang/String" = true := by first | (simp [plainName, overriddenIn]; done) | decide +kernel
theorem d13_0 : decode jdk_42_method_152_code 0 = .ok (.getstatic 38, 3) := by decide +kernel
theorem d13_3 : decode jdk_42_method_152_code 3 = .ok (.ifCond .eq 10, 3) := by decide +kernel
theorem d13_6 : decode jdk_42_method_152_code 6 = .ok (.aload_n 0, 1) := by decide +kernel
theorem d13_7 : decode jdk_42_method_152_code 7 = .ok (.getfield 15, 3) := by decide +kernel
theorem d13_10 : decode jdk_42_method_152_code 10 = .ok (.goto 4, 3) := by decide +kernel
theorem d13_14 : decode jdk_42_method_152_code 14 = .ok (.ireturn, 1) := by decide +kernel
theorem d12_0 : decode jdk_42_method_54_code 0 = .ok (.aload_n 0, 1) := by decide +kernel
theorem d12_1 : decode jdk_42_method_54_code 1 = .ok (.getfield 9, 3) := by decide +kernel
theorem d12_4 : decode jdk_42_method_54_code 4 = .ok (.arraylength, 1) := by decide +kernel
theorem d12_5 : decode jdk_42_method_54_code 5 = .ok (.aload_n 0, 1) := by decide +kernel
theorem d12_6 : decode jdk_42_method_54_code 6 = .ok (.invokevirtual 335, 3) := by decide +kernel
theorem pd_0 : parseMethodDescriptor "()B" = some ⟨[], some .byte⟩ := by decide +kernel
theorem d12_9 : decode jdk_42_method_54_code 9 = .ok (.ishr, 1) := by decide +kernel
theorem d12_10 : decode jdk_42_method_54_code 10 = .ok (.ireturn, 1) := by decide +kernel
theorem d15_0 : decode jdk_43_method_4_code 0 = .ok (.iload_n 0, 1) := by decide +kernel
theorem d15_1 : decode jdk_43_method_4_code 1 = .ok (.ifCond .lt 14, 3) := by decide +kernel
theorem d15_4 : decode jdk_43_method_4_code 4 = .ok (.iload_n 0, 1) := by decide +kernel
theorem d15_5 : decode jdk_43_method_4_code 5 = .ok (.sipush 255, 3) := by decide +kernel
theorem d15_8 : decode jdk_43_method_4_code 8 = .ok (.if_icmp .gt 7, 3) := by decide +kernel
theorem d15_11 : decode jdk_43_method_4_code 11 = .ok (.iconst 1, 1) := by decide +kernel
theorem d15_12 : decode jdk_43_method_4_code 12 = .ok (.goto 4, 3) := by decide +kernel
theorem d15_16 : decode jdk_43_method_4_code 16 = .ok (.ireturn, 1) := by decide +kernel
theorem pn_java_lang_StringLatin1 : plainName "java/lang/StringLatin1" = true := by first | (simp [plainName, overriddenIn]; done) | decide +kernel
theorem d16_0 : decode jdk_29_method_65_code 0 = .ok (.iload_n 0, 1) := by decide +kernel
theorem d16_1 : decode jdk_29_method_65_code 1 = .ok (.iload_n 1, 1) := by decide +kernel
theorem d16_2 : decode jdk_29_method_65_code 2 = .ok (.if_icmp .lt 7, 3) := by decide +kernel
theorem d16_9 : decode jdk_29_method_65_code 9 = .ok (.iload_n 1, 1) := by decide +kernel
theorem d16_10 : decode jdk_29_method_65_code 10 = .ok (.ireturn, 1) := by decide +kernel
theorem d17_0 : decode jdk_29_method_69_code 0 = .ok (.iload_n 0, 1) := by decide +kernel
theorem d17_1 : decode jdk_29_method_69_code 1 = .ok (.iload_n 1, 1) := by decide +kernel
theorem d17_2 : decode jdk_29_method_69_code 2 = .ok (.if_icmp .gt 7, 3) := by decide +kernel
theorem d17_5 : decode jdk_29_method_69_code 5 = .ok (.iload_n 0, 1) := by decide +kernel
theorem d17_6 : decode jdk_29_method_69_code 6 = .ok (.goto 4, 3) := by decide +kernel
theorem d17_10 : decode jdk_29_method_69_code 10 = .ok (.ireturn, 1) := by decide +kernel
theorem d18_0 : decode jdk_43_method_23_code 0 = .ok (.iload_n 1, 1) := by decide +kernel
theorem d18_1 : decode jdk_43_method_23_code 1 = .ok (.i2b, 1) := by decide +kernel
theorem d18_2 : decode jdk_43_method_23_code 2 = .ok (.istore 4, 2) := by decide +kernel
theorem d18_4 : decode jdk_43_method_23_code 4 = .ok (.iload_n 2, 1) := by decide +kernel
theorem d18_5 : decode jdk_43_method_23_code 5 = .ok (.istore 5, 2) := by decide +kernel
theorem d18_7 : decode jdk_43_method_23_code 7 = .ok (.iload 5, 2) := by decide +kernel
theorem d18_9 : decode jdk_43_method_23_code 9 = .ok (.iload_n 3, 1) := by decide +kernel
theorem d18_10 : decode jdk_43_method_23_code 10 = .ok (.if_icmp .ge 21, 3) := by decide +kernel
theorem d18_13 : decode jdk_43_method_23_code 13 = .ok (.aload_n 0, 1) := by decide +kernel
theorem d18_14 : decode jdk_43_method_23_code 14 = .ok (.iload 5, 2) := by decide +kernel
theorem d18_16 : decode jdk_43_method_23_code 16 = .ok (.baload, 1) := by decide +kernel
theorem d18_17 : decode jdk_43_method_23_code 17 = .ok (.iload 4, 2) := by decide +kernel
theorem d18_19 : decode jdk_43_method_23_code 19 = .ok (.if_icmp .ne 6, 3) := by decide +kernel
theorem d18_22 : decode jdk_43_method_23_code 22 = .ok (.iload 5, 2) := by decide +kernel
theorem d18_24 : decode jdk_43_method_23_code 24 = .ok (.ireturn, 1) := by decide +kernel
theorem d18_25 : decode jdk_43_method_23_code 25 = .ok (.iinc 5 1, 3) := by decide +kernel
theorem d18_28 : decode jdk_43_method_23_code 28 = .ok (.goto (-21), 3) := by decide +kernel
theorem d18_31 : decode jdk_43_method_23_code 31 = .ok (.iconst (-1), 1) := by decide +kernel
theorem d18_32 : decode jdk_43_method_23_code 32 = .ok (.ireturn, 1) := by decide +kernel
theorem d14_0 : decode jdk_43_method_22_code 0 = .ok (.iload_n 1, 1) := by decide +kernel
theorem d14_1 : decode jdk_43_method_22_code 1 = .ok (.invokestatic 88, 3) := by decide +kernel
theorem pd_1 : parseMethodDescriptor "(I)Z" = some ⟨[.int], some .boolean⟩ := by decide +kernel
theorem d14_4 : decode jdk_43_method_22_code 4 = .ok (.ifCond .ne 5, 3) := by decide +kernel
theorem d14_9 : decode jdk_43_method_22_code 9 = .ok (.iload_n 2, 1) := by decide +kernel
theorem d14_10 : decode jdk_43_method_22_code 10 = .ok (.iconst 0, 1) := by decide +kernel
theorem d14_11 : decode jdk_43_method_22_code 11 = .ok (.invokestatic 92, 3) := by decide +kernel
theorem pd_2 : parseMethodDescriptor "(II)I" = some ⟨[.int, .int], some .int⟩ := by decide +kernel
theorem d14_14 : decode jdk_43_method_22_code 14 = .ok (.istore_n 2, 1) := by decide +kernel
theorem d14_15 : decode jdk_43_method_22_code 15 = .ok (.iload_n 3, 1) := by decide +kernel
theorem d14_16 : decode jdk_43_method_22_code 16 = .ok (.aload_n 0, 1) := by decide +kernel
theorem d14_17 : decode jdk_43_method_22_code 17 = .ok (.arraylength, 1) := by decide +kernel
theorem d14_18 : decode jdk_43_method_22_code 18 = .ok (.invokestatic 38, 3) := by decide +kernel
theorem d14_21 : decode jdk_43_method_22_code 21 = .ok (.istore_n 3, 1) := by decide +kernel
theorem d14_22 : decode jdk_43_method_22_code 22 = .ok (.iload_n 2, 1) := by decide +kernel
theorem d14_23 : decode jdk_43_method_22_code 23 = .ok (.iload_n 3, 1) := by decide +kernel
theorem d14_24 : decode jdk_43_method_22_code 24 = .ok (.if_icmp .lt 5, 3) := by decide +kernel
theorem d14_29 : decode jdk_43_method_22_code 29 = .ok (.aload_n 0, 1) := by decide +kernel
theorem d14_30 : decode jdk_43_method_22_code 30 = .ok (.iload_n 1, 1) := by decide +kernel
theorem d14_31 : decode jdk_43_method_22_code 31 = .ok (.iload_n 2, 1) := by decide +kernel
theorem d14_32 : decode jdk_43_method_22_code 32 = .ok (.iload_n 3, 1) := by decide +kernel
theorem d14_33 : decode jdk_43_method_22_code 33 = .ok (.invokestatic 95, 3) := by decide +kernel
theorem pd_3 : parseMethodDescriptor "([BIII)I" = some ⟨[(.array .byte), .int, .int, .int], some .int⟩ := by decide +kernel
theorem d14_36 : decode jdk_43_method_22_code 36 = .ok (.ireturn, 1) := by decide +kernel
theorem d10_0 : decode jdk_42_method_80_code 0 = .ok (.aload_n 0, 1) := by decide +kernel
theorem d10_1 : decode jdk_42_method_80_code 1 = .ok (.invokevirtual 492, 3) := by decide +kernel
theorem pd_4 : parseMethodDescriptor "()Z" = some ⟨[], some .boolean⟩ := by decide +kernel
theorem d10_4 : decode jdk_42_method_80_code 4 = .ok (.ifCond .eq 19, 3) := by decide +kernel
theorem d10_7 : decode jdk_42_method_80_code 7 = .ok (.aload_n 0, 1) := by decide +kernel
theorem d10_8 : decode jdk_42_method_80_code 8 = .ok (.getfield 9, 3) := by decide +kernel
theorem d10_11 : decode jdk_42_method_80_code 11 = .ok (.iload_n 1, 1) := by decide +kernel
theorem d10_12 : decode jdk_42_method_80_code 12 = .ok (.iload_n 2, 1) := by decide +kernel
theorem d10_13 : decode jdk_42_method_80_code 13 = .ok (.aload_n 0, 1) := by decide +kernel
theorem d10_14 : decode jdk_42_method_80_code 14 = .ok (.invokevirtual 505, 3) := by decide +kernel
theorem pd_5 : parseMethodDescriptor "()I" = some ⟨[], some .int⟩ := by decide +kernel
theorem d10_17 : decode jdk_42_method_80_code 17 = .ok (.invokestatic 637, 3) := by decide +kernel
theorem d10_20 : decode jdk_42_method_80_code 20 = .ok (.goto 16, 3) := by decide +kernel
theorem d10_36 : decode jdk_42_method_80_code 36 = .ok (.ireturn, 1) := by decide +kernel
theorem d16_5 : decode jdk_29_method_65_code 5 = .ok (.iload_n 0, 1) := by decide +kernel
theorem d16_6 : decode jdk_29_method_65_code 6 = .ok (.goto 4, 3) := by decide +kernel
theorem d14_27 : decode jdk_43_method_22_code 27 = .ok (.iconst (-1), 1) := by decide +kernel
theorem d14_28 : decode jdk_43_method_22_code 28 = .ok (.ireturn, 1) := by decide +kernel
theorem d9_0 : decode prog_18_method_2_code 0 = .ok (.iload_n 1, 1) := by decide +kernel
theorem d9_1 : decode prog_18_method_2_code 1 = .ok (.aload_n 0, 1) := by decide +kernel
theorem d9_2 : decode prog_18_method_2_code 2 = .ok (.getfield 10, 3) := by decide +kernel
theorem d9_5 : decode prog_18_method_2_code 5 = .ok (.if_icmp .lt 18, 3) := by decide +kernel
theorem d9_23 : decode prog_18_method_2_code 23 = .ok (.aload_n 0, 1) := by decide +kernel
theorem d9_24 : decode prog_18_method_2_code 24 = .ok (.aload_n 0, 1) := by decide +kernel
theorem d9_25 : decode prog_18_method_2_code 25 = .ok (.getfield 19, 3) := by decide +kernel
theorem d9_28 : decode prog_18_method_2_code 28 = .ok (.aload_n 0, 1) := by decide +kernel
theorem d9_29 : decode prog_18_method_2_code 29 = .ok (.getfield 23, 3) := by decide +kernel
theorem d9_32 : decode prog_18_method_2_code 32 = .ok (.iload_n 1, 1) := by decide +kernel
theorem d9_33 : decode prog_18_method_2_code 33 = .ok (.invokevirtual 27, 3) := by decide +kernel
theorem d9_36 : decode prog_18_method_2_code 36 = .ok (.putfield 16, 3) := by decide +kernel
theorem d9_39 : decode prog_18_method_2_code 39 = .ok (.aload_n 0, 1) := by decide +kernel
theorem d9_40 : decode prog_18_method_2_code 40 = .ok (.iload_n 1, 1) := by decide +kernel
theorem d9_41 : decode prog_18_method_2_code 41 = .ok (.putfield 10, 3) := by decide +kernel
theorem d9_44 : decode prog_18_method_2_code 44 = .ok (.aload_n 0, 1) := by decide +kernel
theorem d9_45 : decode prog_18_method_2_code 45 = .ok (.getfield 16, 3) := by decide +kernel
theorem d9_48 : decode prog_18_method_2_code 48 = .ok (.ireturn, 1) := by decide +kernel
theorem d9_8 : decode prog_18_method_2_code 8 = .ok (.aload_n 0, 1) := by decide +kernel
theorem d9_9 : decode prog_18_method_2_code 9 = .ok (.getfield 16, 3) := by decide +kernel
theorem d9_12 : decode prog_18_method_2_code 12 = .ok (.ifCond .lt 27, 3) := by decide +kernel
theorem d9_15 : decode prog_18_method_2_code 15 = .ok (.aload_n 0, 1) := by decide +kernel
theorem d9_16 : decode prog_18_method_2_code 16 = .ok (.getfield 16, 3) := by decide +kernel
theorem d9_19 : decode prog_18_method_2_code 19 = .ok (.iload_n 1, 1) := by decide +kernel
theorem d9_20 : decode prog_18_method_2_code 20 = .ok (.if_icmp .ge 19, 3) := by decide +kernel
theorem d5_0 : decode jdk_52_method_21_code 0 = .ok (.iconst 0, 1) := by decide +kernel
theorem d5_1 : decode jdk_52_method_21_code 1 = .ok (.istore 5, 2) := by decide +kernel
theorem d5_3 : decode jdk_52_method_21_code 3 = .ok (.iload 5, 2) := by decide +kernel
theorem d5_5 : decode jdk_52_method_21_code 5 = .ok (.iload 4, 2) := by decide +kernel
theorem d5_7 : decode jdk_52_method_21_code 7 = .ok (.if_icmp .ge 37, 3) := by decide +kernel
theorem d5_10 : decode jdk_52_method_21_code 10 = .ok (.aload_n 0, 1) := by decide +kernel
theorem d5_11 : decode jdk_52_method_21_code 11 = .ok (.iload_n 1, 1) := by decide +kernel
theorem d5_12 : decode jdk_52_method_21_code 12 = .ok (.caload, 1) := by decide +kernel
theorem d5_13 : decode jdk_52_method_21_code 13 = .ok (.istore 6, 2) := by decide +kernel
theorem d5_15 : decode jdk_52_method_21_code 15 = .ok (.iload 6, 2) := by decide +kernel
theorem d5_17 : decode jdk_52_method_21_code 17 = .ok (.sipush 255, 3) := by decide +kernel
theorem d5_20 : decode jdk_52_method_21_code 20 = .ok (.if_icmp .le 6, 3) := by decide +kernel
theorem d5_26 : decode jdk_52_method_21_code 26 = .ok (.aload_n 2, 1) := by decide +kernel
theorem d5_27 : decode jdk_52_method_21_code 27 = .ok (.iload_n 3, 1) := by decide +kernel
theorem d5_28 : decode jdk_52_method_21_code 28 = .ok (.iload 6, 2) := by decide +kernel
theorem d5_30 : decode jdk_52_method_21_code 30 = .ok (.i2b, 1) := by decide +kernel
theorem d5_31 : decode jdk_52_method_21_code 31 = .ok (.bastore, 1) := by decide +kernel
theorem d5_32 : decode jdk_52_method_21_code 32 = .ok (.iinc 1 1, 3) := by decide +kernel
theorem d5_35 : decode jdk_52_method_21_code 35 = .ok (.iinc 3 1, 3) := by decide +kernel
theorem d5_38 : decode jdk_52_method_21_code 38 = .ok (.iinc 5 1, 3) := by decide +kernel
theorem d5_41 : decode jdk_52_method_21_code 41 = .ok (.goto (-38), 3) := by decide +kernel
theorem d5_44 : decode jdk_52_method_21_code 44 = .ok (.iload 4, 2) := by decide +kernel
theorem d5_46 : decode jdk_52_method_21_code 46 = .ok (.ireturn, 1) := by decide +kernel
theorem pn_java_lang_StringUTF16 : plainName "java/lang/StringUTF16" = true := by first | (simp [plainName, overriddenIn]; done) | decide +kernel
theorem d4_0 : decode jdk_52_method_16_code 0 = .ok (.iload_n 2, 1) := by decide +kernel
theorem d4_1 : decode jdk_52_method_16_code 1 = .ok (.newarray .byte, 2) := by decide +kernel
theorem d4_3 : decode jdk_52_method_16_code 3 = .ok (.astore_n 3, 1) := by decide +kernel
theorem d4_4 : decode jdk_52_method_16_code 4 = .ok (.aload_n 0, 1) := by decide +kernel
theorem d4_5 : decode jdk_52_method_16_code 5 = .ok (.iload_n 1, 1) := by decide +kernel
theorem d4_6 : decode jdk_52_method_16_code 6 = .ok (.aload_n 3, 1) := by decide +kernel
theorem d4_7 : decode jdk_52_method_16_code 7 = .ok (.iconst 0, 1) := by decide +kernel
theorem d4_8 : decode jdk_52_method_16_code 8 = .ok (.iload_n 2, 1) := by decide +kernel
theorem d4_9 : decode jdk_52_method_16_code 9 = .ok (.invokestatic 115, 3) := by decide +kernel
theorem pd_6 : parseMethodDescriptor "([CI[BII)I" = some ⟨[(.array .char), .int, (.array .byte), .int, .int], some .int⟩ := by decide +kernel
theorem d4_12 : decode jdk_52_method_16_code 12 = .ok (.istore 4, 2) := by decide +kernel
theorem d4_14 : decode jdk_52_method_16_code 14 = .ok (.iload 4, 2) := by decide +kernel
theorem d4_16 : decode jdk_52_method_16_code 16 = .ok (.iload_n 2, 1) := by decide +kernel
theorem d4_17 : decode jdk_52_method_16_code 17 = .ok (.if_icmp .eq 40, 3) := by decide +kernel
theorem d4_57 : decode jdk_52_method_16_code 57 = .ok (.aload_n 3, 1) := by decide +kernel
theorem d4_58 : decode jdk_52_method_16_code 58 = .ok (.areturn, 1) := by decide +kernel
theorem d6_0 : decode jdk_52_method_15_code 0 = .ok (.iload_n 1, 1) := by decide +kernel
theorem d6_1 : decode jdk_52_method_15_code 1 = .ok (.aload_n 0, 1) := by decide +kernel
theorem d6_2 : decode jdk_52_method_15_code 2 = .ok (.arraylength, 1) := by decide +kernel
theorem d6_3 : decode jdk_52_method_15_code 3 = .ok (.isub, 1) := by decide +kernel
theorem d6_4 : decode jdk_52_method_15_code 4 = .ok (.bipush 31, 2) := by decide +kernel
theorem d6_6 : decode jdk_52_method_15_code 6 = .ok (.iushr, 1) := by decide +kernel
theorem d6_7 : decode jdk_52_method_15_code 7 = .ok (.i2b, 1) := by decide +kernel
theorem d6_8 : decode jdk_52_method_15_code 8 = .ok (.ireturn, 1) := by decide +kernel
theorem d2_0 : decode jdk_42_method_149_code 0 = .ok (.aload_n 0, 1) := by decide +kernel
theorem d2_1 : decode jdk_42_method_149_code 1 = .ok (.invokespecial 1, 3) := by decide +kernel
theorem d2_4 : decode jdk_42_method_149_code 4 = .ok (.iload_n 3, 1) := by decide +kernel
theorem d2_5 : decode jdk_42_method_149_code 5 = .ok (.ifCond .ne 22, 3) := by decide +kernel
theorem d2_27 : decode jdk_42_method_149_code 27 = .ok (.getstatic 38, 3) := by decide +kernel
theorem d2_30 : decode jdk_42_method_149_code 30 = .ok (.ifCond .eq 28, 3) := by decide +kernel
theorem d2_33 : decode jdk_42_method_149_code 33 = .ok (.aload_n 1, 1) := by decide +kernel
theorem d2_34 : decode jdk_42_method_149_code 34 = .ok (.iload_n 2, 1) := by decide +kernel
theorem d2_35 : decode jdk_42_method_149_code 35 = .ok (.iload_n 3, 1) := by decide +kernel
theorem d2_36 : decode jdk_42_method_149_code 36 = .ok (.invokestatic 177, 3) := by decide +kernel
theorem pd_7 : parseMethodDescriptor "([CII)[B" = some ⟨[(.array .char), .int, .int], some (.array .byte)⟩ := by decide +kernel
theorem d2_39 : decode jdk_42_method_149_code 39 = .ok (.astore 5, 2) := by decide +kernel
theorem d2_41 : decode jdk_42_method_149_code 41 = .ok (.aload_n 0, 1) := by decide +kernel
theorem d2_42 : decode jdk_42_method_149_code 42 = .ok (.aload 5, 2) := by decide +kernel
theorem d2_44 : decode jdk_42_method_149_code 44 = .ok (.iload_n 3, 1) := by decide +kernel
theorem d2_45 : decode jdk_42_method_149_code 45 = .ok (.invokestatic 47, 3) := by decide +kernel
theorem pd_8 : parseMethodDescriptor "([BI)B" = some ⟨[(.array .byte), .int], some .byte⟩ := by decide +kernel
theorem d2_48 : decode jdk_42_method_149_code 48 = .ok (.putfield 15, 3) := by decide +kernel
theorem d2_51 : decode jdk_42_method_149_code 51 = .ok (.aload_n 0, 1) := by decide +kernel
theorem d2_52 : decode jdk_42_method_149_code 52 = .ok (.aload 5, 2) := by decide +kernel
theorem d2_54 : decode jdk_42_method_149_code 54 = .ok (.putfield 9, 3) := by decide +kernel
theorem d2_57 : decode jdk_42_method_149_code 57 = .ok (.return_, 1) := by decide +kernel
theorem d1_0 : decode jdk_42_method_3_code 0 = .ok (.aload_n 0, 1) := by decide +kernel
theorem d1_1 : decode jdk_42_method_3_code 1 = .ok (.aload_n 1, 1) := by decide +kernel
theorem d1_2 : decode jdk_42_method_3_code 2 = .ok (.iconst 0, 1) := by decide +kernel
theorem d1_3 : decode jdk_42_method_3_code 3 = .ok (.aload_n 1, 1) := by decide +kernel
theorem d1_4 : decode jdk_42_method_3_code 4 = .ok (.arraylength, 1) := by decide +kernel
theorem d1_5 : decode jdk_42_method_3_code 5 = .ok (.aconst_null, 1) := by decide +kernel
theorem d1_6 : decode jdk_42_method_3_code 6 = .ok (.invokespecial 27, 3) := by decide +kernel
theorem pd_9 : parseMethodDescriptor "([CIILjava/lang/Void;)V" = some ⟨[(.array .char), .int, .int, (.object "java/lang/Void")], none⟩ := by decide +kernel
theorem d1_9 : decode jdk_42_method_3_code 9 = .ok (.return_, 1) := by decide +kernel
theorem pd_10 : parseMethodDescriptor "([C)V" = some ⟨[(.array .char)], none⟩ := by decide +kernel
theorem pd_11 : parseMethodDescriptor "(Ljava/lang/String;C)V" = some ⟨[(.object "java/lang/String"), .char], none⟩ := by decide +kernel
theorem pd_12 : parseMethodDescriptor "(I)I" = some ⟨[.int], some .int⟩ := by decide +kernel
theorem pd_13 : parseMethodDescriptor "(CCCCCI)I" = some ⟨[.char, .char, .char, .char, .char, .int], some .int⟩ := by decide +kernel
def ix4 (c0 c1 c2 c3 c i : Int32) : Int32 := if ¬ ((0 : Int32) < i) ∧ c0 = c then (0 : Int32) else if ¬ ((1 : Int32) < i) ∧ c1 = c then (1 : Int32) else if ¬ ((2 : Int32) < i) ∧ c2 = c then (2 : Int32) else if ¬ ((3 : Int32) < i) ∧ c3 = c then (3 : Int32) else (-1 : Int32)
theorem own_byte {x y : Int32} (hx : ¬ x < 0) (hx' : ¬ (255 : Int32) < x) (hy : ¬ y < 0) (hy' : ¬ (255 : Int32) < y) : (nar .byte (x.toInt8.toInt32) = y.toInt8.toInt32) ↔ x = y := by
  have t : ∀ a : Fin 256, ((Int32.ofNat a.val).toInt8.toInt32) &&& (255 : Int32) = Int32.ofNat a.val := by decide +kernel
  have w : ∀ z : Int32, ¬ z < 0 → ¬ (255 : Int32) < z → z.toInt8.toInt32 &&& (255 : Int32) = z := by
    intro z h1 h2
    rw [Int32.lt_iff_toInt_lt] at h1 h2
    have e0 : (0 : Int32).toInt = 0 := rfl
    have e1 : (255 : Int32).toInt = 255 := rfl
    have e : z = Int32.ofNat z.toInt.toNat := by
      apply Int32.toInt_inj.mp
      rw [Int32.toInt_ofNat_of_lt (by omega)]
      omega
    rw [e]
    exact t ⟨z.toInt.toNat, by omega⟩
  have e : nar .byte (x.toInt8.toInt32) = x.toInt8.toInt32 := by simp [nar]
  rw [e]
  refine ⟨fun h => ?_, fun h => by rw [h]⟩
  rw [← w x hx hx', ← w y hy hy', h]
theorem own_cases4 (i : Int32) : i < (0 : Int32) ∨ i = (0 : Int32) ∨ i = (1 : Int32) ∨ i = (2 : Int32) ∨ i = (3 : Int32) ∨ ¬ (i < (4 : Int32)) := by
  simp only [Int32.lt_iff_toInt_lt, ← Int32.toInt_inj]
  have : (0 : Int32).toInt = 0 ∧ (1 : Int32).toInt = 1 ∧ (2 : Int32).toInt = 2 ∧ (3 : Int32).toInt = 3 ∧ (4 : Int32).toInt = 4 := by decide
  omega
theorem own_big4 {i : Int32} (h : ¬ (i < (4 : Int32))) : ¬ (i < (0 : Int32)) := by
  simp only [Int32.lt_iff_toInt_lt] at *
  have : (0 : Int32).toInt = 0 ∧ (4 : Int32).toInt = 4 := by decide
  omega
theorem own_ixneg {c0 c1 c2 c3 c i : Int32} (h : i < (0 : Int32)) : ix4 c0 c1 c2 c3 c i = ix4 c0 c1 c2 c3 c (0 : Int32) := by
  have a0 : ¬ ((0 : Int32) < i) := by
    rw [Int32.lt_iff_toInt_lt] at *
    have : (0 : Int32).toInt = 0 ∧ (0 : Int32).toInt = 0 := by decide
    omega
  have a1 : ¬ ((1 : Int32) < i) := by
    rw [Int32.lt_iff_toInt_lt] at *
    have : (0 : Int32).toInt = 0 ∧ (1 : Int32).toInt = 1 := by decide
    omega
  have a2 : ¬ ((2 : Int32) < i) := by
    rw [Int32.lt_iff_toInt_lt] at *
    have : (0 : Int32).toInt = 0 ∧ (2 : Int32).toInt = 2 := by decide
    omega
  have a3 : ¬ ((3 : Int32) < i) := by
    rw [Int32.lt_iff_toInt_lt] at *
    have : (0 : Int32).toInt = 0 ∧ (3 : Int32).toInt = 3 := by decide
    omega
  have b0 : ¬ ((0 : Int32) < (0 : Int32)) := by decide
  have b1 : ¬ ((1 : Int32) < (0 : Int32)) := by decide
  have b2 : ¬ ((2 : Int32) < (0 : Int32)) := by decide
  have b3 : ¬ ((3 : Int32) < (0 : Int32)) := by decide
  simp only [ix4, a0, b0, a1, b1, a2, b2, a3, b3]
theorem own_ixbig {c0 c1 c2 c3 c i : Int32} (h : ¬ (i < (4 : Int32))) : ix4 c0 c1 c2 c3 c i = (-1 : Int32) := by
  have a0 : (0 : Int32) < i := by
    rw [Int32.lt_iff_toInt_lt] at *
    have : (4 : Int32).toInt = 4 ∧ (0 : Int32).toInt = 0 := by decide
    omega
  have a1 : (1 : Int32) < i := by
    rw [Int32.lt_iff_toInt_lt] at *
    have : (4 : Int32).toInt = 4 ∧ (1 : Int32).toInt = 1 := by decide
    omega
  have a2 : (2 : Int32) < i := by
    rw [Int32.lt_iff_toInt_lt] at *
    have : (4 : Int32).toInt = 4 ∧ (2 : Int32).toInt = 2 := by decide
    omega
  have a3 : (3 : Int32) < i := by
    rw [Int32.lt_iff_toInt_lt] at *
    have : (4 : Int32).toInt = 4 ∧ (3 : Int32).toInt = 3 := by decide
    omega
  simp [ix4, a0, a1, a2, a3]
theorem own_ch (y : Int32) : ¬ (((97 : Int32) + (y &&& (3 : Int32))).toUInt32.toUInt16.toUInt32.toInt32) < 0 ∧ ¬ (255 : Int32) < (((97 : Int32) + (y &&& (3 : Int32))).toUInt32.toUInt16.toUInt32.toInt32) ∧ nar .char (((97 : Int32) + (y &&& (3 : Int32))).toUInt32.toUInt16.toUInt32.toInt32) = (((97 : Int32) + (y &&& (3 : Int32))).toUInt32.toUInt16.toUInt32.toInt32) := by
  have t : ∀ k : Fin 4, ¬ (((97 : Int32) + Int32.ofNat k.val).toUInt32.toUInt16.toUInt32.toInt32) < 0 ∧ ¬ (255 : Int32) < (((97 : Int32) + Int32.ofNat k.val).toUInt32.toUInt16.toUInt32.toInt32) ∧ nar .char (((97 : Int32) + Int32.ofNat k.val).toUInt32.toUInt16.toUInt32.toInt32) = (((97 : Int32) + Int32.ofNat k.val).toUInt32.toUInt16.toUInt32.toInt32) := by decide +kernel
  have h : (y &&& 3).toBitVec.toNat < 4 := by
    simp only [Int32.toBitVec_and, BitVec.toNat_and]
    exact Nat.lt_succ_of_le Nat.and_le_right
  have e : (y &&& 3) = Int32.ofNat (y &&& 3).toBitVec.toNat := by
    apply Int32.toBitVec_inj.mp
    show _ = BitVec.ofNat 32 _
    rw [BitVec.ofNat_toNat]; simp
  rw [e]
  exact t ⟨_, h⟩
theorem own_i : (0 : Int32).toInt = 0 ∧ (1 : Int32).toInt = 1 ∧ (2 : Int32).toInt = 2 ∧ (3 : Int32).toInt = 3 ∧ (-1 : Int32).toInt = -1 := by decide
theorem own_stay {c0 c1 c2 c3 c f i : Int32} (h1 : ¬ i < f) (h2 : ix4 c0 c1 c2 c3 c f < (0 : Int32) ∨ ¬ ix4 c0 c1 c2 c3 c f < i) : ix4 c0 c1 c2 c3 c f = ix4 c0 c1 c2 c3 c i := by
  obtain ⟨e0, e1, e2, e3, e4⟩ := own_i
  unfold ix4 at *
  by_cases q0 : c0 = c <;> by_cases q1 : c1 = c <;> by_cases q2 : c2 = c <;> by_cases q3 : c3 = c <;> simp only [q0, q1, q2, q3, and_true, and_false, if_false] at * <;> (repeat' split at *) <;> simp only [Int32.lt_iff_toInt_lt, ← Int32.toInt_inj] at * <;> omega
theorem ef_rmRef (m : MethodId) (x0 : Int32) (x1 : Int32) (x2 : Int32) (x3 : Int32) (x4 : Int32) (x5 : Int32) : entryFrame m #[(.int x0), (.int x1), (.int x2), (.int x3), (.int x4), (.int x5)] 6 = mkF m 0 #[.val (.int x0), .val (.int x1), .val (.int x2), .val (.int x3), .val (.int x4), .val (.int x5)] [] := by first | (simp [entryFrame, mkF, argsToLocals, Value.category]; done) | rfl
def QRef (Z : State) (c0 : Int32) (c1 : Int32) (c2 : Int32) (c3 : Int32) (ch : Int32) (i : Int32) (h0 : Heap) (n0 : Nat) (v : Option Value) (h : Heap) (L : List Loc) : Prop := v = some (.int (ix4 c0 c1 c2 c3 ch i)) ∧ Fr n0 L ∧ h = h0
set_option maxRecDepth 65536 in
set_option maxHeartbeats 40000000 in
theorem rmRef (l : Launch) (Z : State) (a0 : Array Value) (hw : ∀ d ∈ tables_1, d.before a0 Z = true) (ws : List Jvm.Cond) (c0 : Int32) (c1 : Int32) (c2 : Int32) (c3 : Int32) (ch : Int32) (i : Int32) (h0 : Heap) (n0 : Nat) (Z0 : n0 ≤ h0.size) :
    MetFree l (⟨"com/example/dogwood/dogwood/model/yaml/OccurrencesFromPinLaw", "ref", "(CCCCCI)I"⟩ : MethodName) (head1 (Jvm.Cond.code (⟨"com/example/dogwood/dogwood/model/yaml/OccurrencesFromPinLaw", "ref", "(CCCCCI)I"⟩ : MethodName) method_3_code 6 (some .int) :: ws) ({ frames := 0, cells := 0, slots := 0, locals := 0 } : Room)) (fun a U => a = #[(.int c0), (.int c1), (.int c2), (.int c3), (.int ch), (.int i)] ∧ Z.Warmed39 U.vm ∧ U.heap = h0) (fun _ _ _ _ _ => True) (fun _ U o U' => ∃ v L, o = .returned v ∧ QRef Z c0 c1 c2 c3 ch i h0 n0 v U'.heap L ∧ FrameEnd U o U' L ({ frames := 0, cells := 0, slots := 0, locals := 0 } : Room).cells ({ frames := 0, cells := 0, slots := 0, locals := 0 } : Room).slots) := by
  refine MetFree.of_bodySF (plainFor_of_name pn_com_example_dogwood_dogwood_model_yaml_OccurrencesFromPinLaw) hisR ?_
  intro p e s m args below meth c s₁ Bd hml0 hP hK
  obtain ⟨rfl, hZ, hh⟩ := hP
  have hx := Bd.exec
  have hby := Bd.bytes
  have hlk : meth.locks = false := Bd.notSynchronized
  have hml : c.maxLocals = 6 := hml0
  have hown : s.vm.findClass "com/example/dogwood/dogwood/model/yaml/OccurrencesFromPinLaw" = some m.cls := findClass_of_methodNamed Bd.named
  have hnm := (name_of_methodNamed Bd.named Bd.method).1
  have X0 : Stand p l e ({ frames := 0, cells := 0, slots := 0, locals := 0 } : Room) s m #[(.int c0), (.int c1), (.int c2), (.int c3), (.int ch), (.int i)] below meth c s₁ [] 0 0 := Stand.of_body Bd
  have e0 : s₁.heap = h0 := by rw [← hh, Bd.state]; rfl
  have N0 := Fr.nil n0
  show Go p e below (FinE s below (QRef Z c0 c1 c2 c3 ch i h0 n0) ({ frames := 0, cells := 0, slots := 0, locals := 0 } : Room).cells ({ frames := 0, cells := 0, slots := 0, locals := 0 } : Room).slots) (s₁.setTop (entryFrame m #[(.int c0), (.int c1), (.int c2), (.int c3), (.int ch), (.int i)] 6))
  refine Go.via (fun t k => castTop (ef_rmRef m c0 c1 c2 c3 ch i) k) ?_
  show Go p e below _ (s₁.setTop (mkF m 0 #[.val (.int c0), .val (.int c1), .val (.int c2), .val (.int c3), .val (.int ch), .val (.int i)] []))
  refine Go.via (fun _ => XS.iload X0.here hx rfl (hb hby d19_0) rfl) ?_
  show Go p e below _ (s₁.setTop (mkF m 2 #[.val (.int c0), .val (.int c1), .val (.int c2), .val (.int c3), .val (.int ch), .val (.int i)] [(.int i)]))
  by_cases hc1 : (0 : Int32) < i
  · -- yes
    show Go p e below _ (s₁.setTop (mkF m 2 #[.val (.int c0), .val (.int c1), .val (.int c2), .val (.int c3), .val (.int ch), .val (.int i)] [(.int i)]))
    show Go p e below _ (s₁.setTop (mkF m 2 #[.val (.int c0), .val (.int c1), .val (.int c2), .val (.int c3), .val (.int ch), .val (.int i)] [(.int i)]))
    refine Go.via (fun _ => XS.ifYes X0.here hx rfl (pc0 := 2) (pc' := 13) rfl (hb hby d19_2) rfl ((if0 _ _).trans (tlt hc1).2.2.1) (by decide) (by decide)) ?_
    show Go p e below _ (s₁.setTop (mkF m 13 #[.val (.int c0), .val (.int c1), .val (.int c2), .val (.int c3), .val (.int ch), .val (.int i)] []))
    refine Go.via (fun _ => XS.iload X0.here hx rfl (hb hby d19_13) rfl) ?_
    show Go p e below _ (s₁.setTop (mkF m 15 #[.val (.int c0), .val (.int c1), .val (.int c2), .val (.int c3), .val (.int ch), .val (.int i)] [(.int i)]))
    refine Go.via (fun _ => XS.iconst X0.here hx rfl (hb hby d19_15)) ?_
    show Go p e below _ (s₁.setTop (mkF m 16 #[.val (.int c0), .val (.int c1), .val (.int c2), .val (.int c3), .val (.int ch), .val (.int i)] [(.int (1 : Int32)), (.int i)]))
    by_cases hc2 : (1 : Int32) < i
    · -- yes
      show Go p e below _ (s₁.setTop (mkF m 16 #[.val (.int c0), .val (.int c1), .val (.int c2), .val (.int c3), .val (.int ch), .val (.int i)] [(.int (1 : Int32)), (.int i)]))
      show Go p e below _ (s₁.setTop (mkF m 16 #[.val (.int c0), .val (.int c1), .val (.int c2), .val (.int c3), .val (.int ch), .val (.int i)] [(.int (1 : Int32)), (.int i)]))
      refine Go.via (fun _ => XS.icmpYes X0.here hx rfl (pc0 := 16) (pc' := 27) rfl (hb hby d19_16) rfl (tlt hc2).2.2.1 (by decide) (by decide)) ?_
      show Go p e below _ (s₁.setTop (mkF m 27 #[.val (.int c0), .val (.int c1), .val (.int c2), .val (.int c3), .val (.int ch), .val (.int i)] []))
      refine Go.via (fun _ => XS.iload X0.here hx rfl (hb hby d19_27) rfl) ?_
      show Go p e below _ (s₁.setTop (mkF m 29 #[.val (.int c0), .val (.int c1), .val (.int c2), .val (.int c3), .val (.int ch), .val (.int i)] [(.int i)]))
      refine Go.via (fun _ => XS.iconst X0.here hx rfl (hb hby d19_29)) ?_
      show Go p e below _ (s₁.setTop (mkF m 30 #[.val (.int c0), .val (.int c1), .val (.int c2), .val (.int c3), .val (.int ch), .val (.int i)] [(.int (2 : Int32)), (.int i)]))
      by_cases hc3 : (2 : Int32) < i
      · -- yes
        show Go p e below _ (s₁.setTop (mkF m 30 #[.val (.int c0), .val (.int c1), .val (.int c2), .val (.int c3), .val (.int ch), .val (.int i)] [(.int (2 : Int32)), (.int i)]))
        show Go p e below _ (s₁.setTop (mkF m 30 #[.val (.int c0), .val (.int c1), .val (.int c2), .val (.int c3), .val (.int ch), .val (.int i)] [(.int (2 : Int32)), (.int i)]))
        refine Go.via (fun _ => XS.icmpYes X0.here hx rfl (pc0 := 30) (pc' := 41) rfl (hb hby d19_30) rfl (tlt hc3).2.2.1 (by decide) (by decide)) ?_
        show Go p e below _ (s₁.setTop (mkF m 41 #[.val (.int c0), .val (.int c1), .val (.int c2), .val (.int c3), .val (.int ch), .val (.int i)] []))
        refine Go.via (fun _ => XS.iload X0.here hx rfl (hb hby d19_41) rfl) ?_
        show Go p e below _ (s₁.setTop (mkF m 43 #[.val (.int c0), .val (.int c1), .val (.int c2), .val (.int c3), .val (.int ch), .val (.int i)] [(.int i)]))
        refine Go.via (fun _ => XS.iconst X0.here hx rfl (hb hby d19_43)) ?_
        show Go p e below _ (s₁.setTop (mkF m 44 #[.val (.int c0), .val (.int c1), .val (.int c2), .val (.int c3), .val (.int ch), .val (.int i)] [(.int (3 : Int32)), (.int i)]))
        by_cases hc4 : (3 : Int32) < i
        · -- yes
          show Go p e below _ (s₁.setTop (mkF m 44 #[.val (.int c0), .val (.int c1), .val (.int c2), .val (.int c3), .val (.int ch), .val (.int i)] [(.int (3 : Int32)), (.int i)]))
          show Go p e below _ (s₁.setTop (mkF m 44 #[.val (.int c0), .val (.int c1), .val (.int c2), .val (.int c3), .val (.int ch), .val (.int i)] [(.int (3 : Int32)), (.int i)]))
          refine Go.via (fun _ => XS.icmpYes X0.here hx rfl (pc0 := 44) (pc' := 55) rfl (hb hby d19_44) rfl (tlt hc4).2.2.1 (by decide) (by decide)) ?_
          show Go p e below _ (s₁.setTop (mkF m 55 #[.val (.int c0), .val (.int c1), .val (.int c2), .val (.int c3), .val (.int ch), .val (.int i)] []))
          refine Go.via (fun _ => XS.iconst X0.here hx rfl (hb hby d19_55)) ?_
          show Go p e below _ (s₁.setTop (mkF m 56 #[.val (.int c0), .val (.int c1), .val (.int c2), .val (.int c3), .val (.int ch), .val (.int i)] [(.int (-1 : Int32))]))
          exact own_retI X0 hx hlk Bd.returns (hb hby d19_56) (by show QRef Z c0 c1 c2 c3 ch i h0 n0 _ s₁.heap _; rw [e0]; exact ⟨by simp [ix4, hc1, hc2, hc3, hc4], N0, rfl⟩) (by decide) (by decide)
        · -- no
          show Go p e below _ (s₁.setTop (mkF m 44 #[.val (.int c0), .val (.int c1), .val (.int c2), .val (.int c3), .val (.int ch), .val (.int i)] [(.int (3 : Int32)), (.int i)]))
          show Go p e below _ (s₁.setTop (mkF m 44 #[.val (.int c0), .val (.int c1), .val (.int c2), .val (.int c3), .val (.int ch), .val (.int i)] [(.int (3 : Int32)), (.int i)]))
          refine Go.via (fun _ => XS.icmpNo X0.here hx rfl (hb hby d19_44) rfl (flt hc4).2.2.1) ?_
          show Go p e below _ (s₁.setTop (mkF m 47 #[.val (.int c0), .val (.int c1), .val (.int c2), .val (.int c3), .val (.int ch), .val (.int i)] []))
          refine Go.via (fun _ => XS.iloadN X0.here hx rfl (hb hby d19_47) rfl) ?_
          show Go p e below _ (s₁.setTop (mkF m 48 #[.val (.int c0), .val (.int c1), .val (.int c2), .val (.int c3), .val (.int ch), .val (.int i)] [(.int c3)]))
          refine Go.via (fun _ => XS.iload X0.here hx rfl (hb hby d19_48) rfl) ?_
          show Go p e below _ (s₁.setTop (mkF m 50 #[.val (.int c0), .val (.int c1), .val (.int c2), .val (.int c3), .val (.int ch), .val (.int i)] [(.int ch), (.int c3)]))
          by_cases hc5 : c3 = ch
          · -- yes
            show Go p e below _ (s₁.setTop (mkF m 50 #[.val (.int c0), .val (.int c1), .val (.int c2), .val (.int c3), .val (.int ch), .val (.int i)] [(.int ch), (.int c3)]))
            show Go p e below _ (s₁.setTop (mkF m 50 #[.val (.int c0), .val (.int c1), .val (.int c2), .val (.int c3), .val (.int ch), .val (.int i)] [(.int ch), (.int c3)]))
            refine Go.via (fun _ => XS.icmpNo X0.here hx rfl (hb hby d19_50) rfl (teq hc5).2) ?_
            show Go p e below _ (s₁.setTop (mkF m 53 #[.val (.int c0), .val (.int c1), .val (.int c2), .val (.int c3), .val (.int ch), .val (.int i)] []))
            refine Go.via (fun _ => XS.iconst X0.here hx rfl (hb hby d19_53)) ?_
            show Go p e below _ (s₁.setTop (mkF m 54 #[.val (.int c0), .val (.int c1), .val (.int c2), .val (.int c3), .val (.int ch), .val (.int i)] [(.int (3 : Int32))]))
            exact own_retI X0 hx hlk Bd.returns (hb hby d19_54) (by show QRef Z c0 c1 c2 c3 ch i h0 n0 _ s₁.heap _; rw [e0]; exact ⟨by simp [ix4, hc1, hc2, hc3, hc4, hc5], N0, rfl⟩) (by decide) (by decide)
          · -- no
            show Go p e below _ (s₁.setTop (mkF m 50 #[.val (.int c0), .val (.int c1), .val (.int c2), .val (.int c3), .val (.int ch), .val (.int i)] [(.int ch), (.int c3)]))
            show Go p e below _ (s₁.setTop (mkF m 50 #[.val (.int c0), .val (.int c1), .val (.int c2), .val (.int c3), .val (.int ch), .val (.int i)] [(.int ch), (.int c3)]))
            refine Go.via (fun _ => XS.icmpYes X0.here hx rfl (pc0 := 50) (pc' := 55) rfl (hb hby d19_50) rfl (feq hc5).2 (by decide) (by decide)) ?_
            show Go p e below _ (s₁.setTop (mkF m 55 #[.val (.int c0), .val (.int c1), .val (.int c2), .val (.int c3), .val (.int ch), .val (.int i)] []))
            refine Go.via (fun _ => XS.iconst X0.here hx rfl (hb hby d19_55)) ?_
            show Go p e below _ (s₁.setTop (mkF m 56 #[.val (.int c0), .val (.int c1), .val (.int c2), .val (.int c3), .val (.int ch), .val (.int i)] [(.int (-1 : Int32))]))
            exact own_retI X0 hx hlk Bd.returns (hb hby d19_56) (by show QRef Z c0 c1 c2 c3 ch i h0 n0 _ s₁.heap _; rw [e0]; exact ⟨by simp [ix4, hc1, hc2, hc3, hc4, hc5], N0, rfl⟩) (by decide) (by decide)
      · -- no
        show Go p e below _ (s₁.setTop (mkF m 30 #[.val (.int c0), .val (.int c1), .val (.int c2), .val (.int c3), .val (.int ch), .val (.int i)] [(.int (2 : Int32)), (.int i)]))
        show Go p e below _ (s₁.setTop (mkF m 30 #[.val (.int c0), .val (.int c1), .val (.int c2), .val (.int c3), .val (.int ch), .val (.int i)] [(.int (2 : Int32)), (.int i)]))
        refine Go.via (fun _ => XS.icmpNo X0.here hx rfl (hb hby d19_30) rfl (flt hc3).2.2.1) ?_
        show Go p e below _ (s₁.setTop (mkF m 33 #[.val (.int c0), .val (.int c1), .val (.int c2), .val (.int c3), .val (.int ch), .val (.int i)] []))
        refine Go.via (fun _ => XS.iloadN X0.here hx rfl (hb hby d19_33) rfl) ?_
        show Go p e below _ (s₁.setTop (mkF m 34 #[.val (.int c0), .val (.int c1), .val (.int c2), .val (.int c3), .val (.int ch), .val (.int i)] [(.int c2)]))
        refine Go.via (fun _ => XS.iload X0.here hx rfl (hb hby d19_34) rfl) ?_
        show Go p e below _ (s₁.setTop (mkF m 36 #[.val (.int c0), .val (.int c1), .val (.int c2), .val (.int c3), .val (.int ch), .val (.int i)] [(.int ch), (.int c2)]))
        by_cases hc6 : c2 = ch
        · -- yes
          show Go p e below _ (s₁.setTop (mkF m 36 #[.val (.int c0), .val (.int c1), .val (.int c2), .val (.int c3), .val (.int ch), .val (.int i)] [(.int ch), (.int c2)]))
          show Go p e below _ (s₁.setTop (mkF m 36 #[.val (.int c0), .val (.int c1), .val (.int c2), .val (.int c3), .val (.int ch), .val (.int i)] [(.int ch), (.int c2)]))
          refine Go.via (fun _ => XS.icmpNo X0.here hx rfl (hb hby d19_36) rfl (teq hc6).2) ?_
          show Go p e below _ (s₁.setTop (mkF m 39 #[.val (.int c0), .val (.int c1), .val (.int c2), .val (.int c3), .val (.int ch), .val (.int i)] []))
          refine Go.via (fun _ => XS.iconst X0.here hx rfl (hb hby d19_39)) ?_
          show Go p e below _ (s₁.setTop (mkF m 40 #[.val (.int c0), .val (.int c1), .val (.int c2), .val (.int c3), .val (.int ch), .val (.int i)] [(.int (2 : Int32))]))
          exact own_retI X0 hx hlk Bd.returns (hb hby d19_40) (by show QRef Z c0 c1 c2 c3 ch i h0 n0 _ s₁.heap _; rw [e0]; exact ⟨by simp [ix4, hc1, hc2, hc3, hc6], N0, rfl⟩) (by decide) (by decide)
        · -- no
          show Go p e below _ (s₁.setTop (mkF m 36 #[.val (.int c0), .val (.int c1), .val (.int c2), .val (.int c3), .val (.int ch), .val (.int i)] [(.int ch), (.int c2)]))
          show Go p e below _ (s₁.setTop (mkF m 36 #[.val (.int c0), .val (.int c1), .val (.int c2), .val (.int c3), .val (.int ch), .val (.int i)] [(.int ch), (.int c2)]))
          refine Go.via (fun _ => XS.icmpYes X0.here hx rfl (pc0 := 36) (pc' := 41) rfl (hb hby d19_36) rfl (feq hc6).2 (by decide) (by decide)) ?_
          show Go p e below _ (s₁.setTop (mkF m 41 #[.val (.int c0), .val (.int c1), .val (.int c2), .val (.int c3), .val (.int ch), .val (.int i)] []))
          refine Go.via (fun _ => XS.iload X0.here hx rfl (hb hby d19_41) rfl) ?_
          show Go p e below _ (s₁.setTop (mkF m 43 #[.val (.int c0), .val (.int c1), .val (.int c2), .val (.int c3), .val (.int ch), .val (.int i)] [(.int i)]))
          refine Go.via (fun _ => XS.iconst X0.here hx rfl (hb hby d19_43)) ?_
          show Go p e below _ (s₁.setTop (mkF m 44 #[.val (.int c0), .val (.int c1), .val (.int c2), .val (.int c3), .val (.int ch), .val (.int i)] [(.int (3 : Int32)), (.int i)]))
          by_cases hc7 : (3 : Int32) < i
          · -- yes
            show Go p e below _ (s₁.setTop (mkF m 44 #[.val (.int c0), .val (.int c1), .val (.int c2), .val (.int c3), .val (.int ch), .val (.int i)] [(.int (3 : Int32)), (.int i)]))
            show Go p e below _ (s₁.setTop (mkF m 44 #[.val (.int c0), .val (.int c1), .val (.int c2), .val (.int c3), .val (.int ch), .val (.int i)] [(.int (3 : Int32)), (.int i)]))
            refine Go.via (fun _ => XS.icmpYes X0.here hx rfl (pc0 := 44) (pc' := 55) rfl (hb hby d19_44) rfl (tlt hc7).2.2.1 (by decide) (by decide)) ?_
            show Go p e below _ (s₁.setTop (mkF m 55 #[.val (.int c0), .val (.int c1), .val (.int c2), .val (.int c3), .val (.int ch), .val (.int i)] []))
            refine Go.via (fun _ => XS.iconst X0.here hx rfl (hb hby d19_55)) ?_
            show Go p e below _ (s₁.setTop (mkF m 56 #[.val (.int c0), .val (.int c1), .val (.int c2), .val (.int c3), .val (.int ch), .val (.int i)] [(.int (-1 : Int32))]))
            exact own_retI X0 hx hlk Bd.returns (hb hby d19_56) (by show QRef Z c0 c1 c2 c3 ch i h0 n0 _ s₁.heap _; rw [e0]; exact ⟨by simp [ix4, hc1, hc2, hc3, hc6, hc7], N0, rfl⟩) (by decide) (by decide)
          · -- no
            show Go p e below _ (s₁.setTop (mkF m 44 #[.val (.int c0), .val (.int c1), .val (.int c2), .val (.int c3), .val (.int ch), .val (.int i)] [(.int (3 : Int32)), (.int i)]))
            show Go p e below _ (s₁.setTop (mkF m 44 #[.val (.int c0), .val (.int c1), .val (.int c2), .val (.int c3), .val (.int ch), .val (.int i)] [(.int (3 : Int32)), (.int i)]))
            refine Go.via (fun _ => XS.icmpNo X0.here hx rfl (hb hby d19_44) rfl (flt hc7).2.2.1) ?_
            show Go p e below _ (s₁.setTop (mkF m 47 #[.val (.int c0), .val (.int c1), .val (.int c2), .val (.int c3), .val (.int ch), .val (.int i)] []))
            refine Go.via (fun _ => XS.iloadN X0.here hx rfl (hb hby d19_47) rfl) ?_
            show Go p e below _ (s₁.setTop (mkF m 48 #[.val (.int c0), .val (.int c1), .val (.int c2), .val (.int c3), .val (.int ch), .val (.int i)] [(.int c3)]))
            refine Go.via (fun _ => XS.iload X0.here hx rfl (hb hby d19_48) rfl) ?_
            show Go p e below _ (s₁.setTop (mkF m 50 #[.val (.int c0), .val (.int c1), .val (.int c2), .val (.int c3), .val (.int ch), .val (.int i)] [(.int ch), (.int c3)]))
            by_cases hc8 : c3 = ch
            · -- yes
              show Go p e below _ (s₁.setTop (mkF m 50 #[.val (.int c0), .val (.int c1), .val (.int c2), .val (.int c3), .val (.int ch), .val (.int i)] [(.int ch), (.int c3)]))
              show Go p e below _ (s₁.setTop (mkF m 50 #[.val (.int c0), .val (.int c1), .val (.int c2), .val (.int c3), .val (.int ch), .val (.int i)] [(.int ch), (.int c3)]))
              refine Go.via (fun _ => XS.icmpNo X0.here hx rfl (hb hby d19_50) rfl (teq hc8).2) ?_
              show Go p e below _ (s₁.setTop (mkF m 53 #[.val (.int c0), .val (.int c1), .val (.int c2), .val (.int c3), .val (.int ch), .val (.int i)] []))
              refine Go.via (fun _ => XS.iconst X0.here hx rfl (hb hby d19_53)) ?_
              show Go p e below _ (s₁.setTop (mkF m 54 #[.val (.int c0), .val (.int c1), .val (.int c2), .val (.int c3), .val (.int ch), .val (.int i)] [(.int (3 : Int32))]))
              exact own_retI X0 hx hlk Bd.returns (hb hby d19_54) (by show QRef Z c0 c1 c2 c3 ch i h0 n0 _ s₁.heap _; rw [e0]; exact ⟨by simp [ix4, hc1, hc2, hc3, hc6, hc7, hc8], N0, rfl⟩) (by decide) (by decide)
            · -- no
              show Go p e below _ (s₁.setTop (mkF m 50 #[.val (.int c0), .val (.int c1), .val (.int c2), .val (.int c3), .val (.int ch), .val (.int i)] [(.int ch), (.int c3)]))
              show Go p e below _ (s₁.setTop (mkF m 50 #[.val (.int c0), .val (.int c1), .val (.int c2), .val (.int c3), .val (.int ch), .val (.int i)] [(.int ch), (.int c3)]))
              refine Go.via (fun _ => XS.icmpYes X0.here hx rfl (pc0 := 50) (pc' := 55) rfl (hb hby d19_50) rfl (feq hc8).2 (by decide) (by decide)) ?_
              show Go p e below _ (s₁.setTop (mkF m 55 #[.val (.int c0), .val (.int c1), .val (.int c2), .val (.int c3), .val (.int ch), .val (.int i)] []))
              refine Go.via (fun _ => XS.iconst X0.here hx rfl (hb hby d19_55)) ?_
              show Go p e below _ (s₁.setTop (mkF m 56 #[.val (.int c0), .val (.int c1), .val (.int c2), .val (.int c3), .val (.int ch), .val (.int i)] [(.int (-1 : Int32))]))
              exact own_retI X0 hx hlk Bd.returns (hb hby d19_56) (by show QRef Z c0 c1 c2 c3 ch i h0 n0 _ s₁.heap _; rw [e0]; exact ⟨by simp [ix4, hc1, hc2, hc3, hc6, hc7, hc8], N0, rfl⟩) (by decide) (by decide)
    · -- no
      show Go p e below _ (s₁.setTop (mkF m 16 #[.val (.int c0), .val (.int c1), .val (.int c2), .val (.int c3), .val (.int ch), .val (.int i)] [(.int (1 : Int32)), (.int i)]))
      show Go p e below _ (s₁.setTop (mkF m 16 #[.val (.int c0), .val (.int c1), .val (.int c2), .val (.int c3), .val (.int ch), .val (.int i)] [(.int (1 : Int32)), (.int i)]))
      refine Go.via (fun _ => XS.icmpNo X0.here hx rfl (hb hby d19_16) rfl (flt hc2).2.2.1) ?_
      show Go p e below _ (s₁.setTop (mkF m 19 #[.val (.int c0), .val (.int c1), .val (.int c2), .val (.int c3), .val (.int ch), .val (.int i)] []))
      refine Go.via (fun _ => XS.iloadN X0.here hx rfl (hb hby d19_19) rfl) ?_
      show Go p e below _ (s₁.setTop (mkF m 20 #[.val (.int c0), .val (.int c1), .val (.int c2), .val (.int c3), .val (.int ch), .val (.int i)] [(.int c1)]))
      refine Go.via (fun _ => XS.iload X0.here hx rfl (hb hby d19_20) rfl) ?_
      show Go p e below _ (s₁.setTop (mkF m 22 #[.val (.int c0), .val (.int c1), .val (.int c2), .val (.int c3), .val (.int ch), .val (.int i)] [(.int ch), (.int c1)]))
      by_cases hc9 : c1 = ch
      · -- yes
        show Go p e below _ (s₁.setTop (mkF m 22 #[.val (.int c0), .val (.int c1), .val (.int c2), .val (.int c3), .val (.int ch), .val (.int i)] [(.int ch), (.int c1)]))
        show Go p e below _ (s₁.setTop (mkF m 22 #[.val (.int c0), .val (.int c1), .val (.int c2), .val (.int c3), .val (.int ch), .val (.int i)] [(.int ch), (.int c1)]))
        refine Go.via (fun _ => XS.icmpNo X0.here hx rfl (hb hby d19_22) rfl (teq hc9).2) ?_
        show Go p e below _ (s₁.setTop (mkF m 25 #[.val (.int c0), .val (.int c1), .val (.int c2), .val (.int c3), .val (.int ch), .val (.int i)] []))
        refine Go.via (fun _ => XS.iconst X0.here hx rfl (hb hby d19_25)) ?_
        show Go p e below _ (s₁.setTop (mkF m 26 #[.val (.int c0), .val (.int c1), .val (.int c2), .val (.int c3), .val (.int ch), .val (.int i)] [(.int (1 : Int32))]))
        exact own_retI X0 hx hlk Bd.returns (hb hby d19_26) (by show QRef Z c0 c1 c2 c3 ch i h0 n0 _ s₁.heap _; rw [e0]; exact ⟨by simp [ix4, hc1, hc2, hc9], N0, rfl⟩) (by decide) (by decide)
      · -- no
        show Go p e below _ (s₁.setTop (mkF m 22 #[.val (.int c0), .val (.int c1), .val (.int c2), .val (.int c3), .val (.int ch), .val (.int i)] [(.int ch), (.int c1)]))
        show Go p e below _ (s₁.setTop (mkF m 22 #[.val (.int c0), .val (.int c1), .val (.int c2), .val (.int c3), .val (.int ch), .val (.int i)] [(.int ch), (.int c1)]))
        refine Go.via (fun _ => XS.icmpYes X0.here hx rfl (pc0 := 22) (pc' := 27) rfl (hb hby d19_22) rfl (feq hc9).2 (by decide) (by decide)) ?_
        show Go p e below _ (s₁.setTop (mkF m 27 #[.val (.int c0), .val (.int c1), .val (.int c2), .val (.int c3), .val (.int ch), .val (.int i)] []))
        refine Go.via (fun _ => XS.iload X0.here hx rfl (hb hby d19_27) rfl) ?_
        show Go p e below _ (s₁.setTop (mkF m 29 #[.val (.int c0), .val (.int c1), .val (.int c2), .val (.int c3), .val (.int ch), .val (.int i)] [(.int i)]))
        refine Go.via (fun _ => XS.iconst X0.here hx rfl (hb hby d19_29)) ?_
        show Go p e below _ (s₁.setTop (mkF m 30 #[.val (.int c0), .val (.int c1), .val (.int c2), .val (.int c3), .val (.int ch), .val (.int i)] [(.int (2 : Int32)), (.int i)]))
        by_cases hc10 : (2 : Int32) < i
        · -- yes
          show Go p e below _ (s₁.setTop (mkF m 30 #[.val (.int c0), .val (.int c1), .val (.int c2), .val (.int c3), .val (.int ch), .val (.int i)] [(.int (2 : Int32)), (.int i)]))
          show Go p e below _ (s₁.setTop (mkF m 30 #[.val (.int c0), .val (.int c1), .val (.int c2), .val (.int c3), .val (.int ch), .val (.int i)] [(.int (2 : Int32)), (.int i)]))
          refine Go.via (fun _ => XS.icmpYes X0.here hx rfl (pc0 := 30) (pc' := 41) rfl (hb hby d19_30) rfl (tlt hc10).2.2.1 (by decide) (by decide)) ?_
          show Go p e below _ (s₁.setTop (mkF m 41 #[.val (.int c0), .val (.int c1), .val (.int c2), .val (.int c3), .val (.int ch), .val (.int i)] []))
          refine Go.via (fun _ => XS.iload X0.here hx rfl (hb hby d19_41) rfl) ?_
          show Go p e below _ (s₁.setTop (mkF m 43 #[.val (.int c0), .val (.int c1), .val (.int c2), .val (.int c3), .val (.int ch), .val (.int i)] [(.int i)]))
          refine Go.via (fun _ => XS.iconst X0.here hx rfl (hb hby d19_43)) ?_
          show Go p e below _ (s₁.setTop (mkF m 44 #[.val (.int c0), .val (.int c1), .val (.int c2), .val (.int c3), .val (.int ch), .val (.int i)] [(.int (3 : Int32)), (.int i)]))
          by_cases hc11 : (3 : Int32) < i
          · -- yes
            show Go p e below _ (s₁.setTop (mkF m 44 #[.val (.int c0), .val (.int c1), .val (.int c2), .val (.int c3), .val (.int ch), .val (.int i)] [(.int (3 : Int32)), (.int i)]))
            show Go p e below _ (s₁.setTop (mkF m 44 #[.val (.int c0), .val (.int c1), .val (.int c2), .val (.int c3), .val (.int ch), .val (.int i)] [(.int (3 : Int32)), (.int i)]))
            refine Go.via (fun _ => XS.icmpYes X0.here hx rfl (pc0 := 44) (pc' := 55) rfl (hb hby d19_44) rfl (tlt hc11).2.2.1 (by decide) (by decide)) ?_
            show Go p e below _ (s₁.setTop (mkF m 55 #[.val (.int c0), .val (.int c1), .val (.int c2), .val (.int c3), .val (.int ch), .val (.int i)] []))
            refine Go.via (fun _ => XS.iconst X0.here hx rfl (hb hby d19_55)) ?_
            show Go p e below _ (s₁.setTop (mkF m 56 #[.val (.int c0), .val (.int c1), .val (.int c2), .val (.int c3), .val (.int ch), .val (.int i)] [(.int (-1 : Int32))]))
            exact own_retI X0 hx hlk Bd.returns (hb hby d19_56) (by show QRef Z c0 c1 c2 c3 ch i h0 n0 _ s₁.heap _; rw [e0]; exact ⟨by simp [ix4, hc1, hc2, hc9, hc10, hc11], N0, rfl⟩) (by decide) (by decide)
          · -- no
            show Go p e below _ (s₁.setTop (mkF m 44 #[.val (.int c0), .val (.int c1), .val (.int c2), .val (.int c3), .val (.int ch), .val (.int i)] [(.int (3 : Int32)), (.int i)]))
            show Go p e below _ (s₁.setTop (mkF m 44 #[.val (.int c0), .val (.int c1), .val (.int c2), .val (.int c3), .val (.int ch), .val (.int i)] [(.int (3 : Int32)), (.int i)]))
            refine Go.via (fun _ => XS.icmpNo X0.here hx rfl (hb hby d19_44) rfl (flt hc11).2.2.1) ?_
            show Go p e below _ (s₁.setTop (mkF m 47 #[.val (.int c0), .val (.int c1), .val (.int c2), .val (.int c3), .val (.int ch), .val (.int i)] []))
            refine Go.via (fun _ => XS.iloadN X0.here hx rfl (hb hby d19_47) rfl) ?_
            show Go p e below _ (s₁.setTop (mkF m 48 #[.val (.int c0), .val (.int c1), .val (.int c2), .val (.int c3), .val (.int ch), .val (.int i)] [(.int c3)]))
            refine Go.via (fun _ => XS.iload X0.here hx rfl (hb hby d19_48) rfl) ?_
            show Go p e below _ (s₁.setTop (mkF m 50 #[.val (.int c0), .val (.int c1), .val (.int c2), .val (.int c3), .val (.int ch), .val (.int i)] [(.int ch), (.int c3)]))
            by_cases hc12 : c3 = ch
            · -- yes
              show Go p e below _ (s₁.setTop (mkF m 50 #[.val (.int c0), .val (.int c1), .val (.int c2), .val (.int c3), .val (.int ch), .val (.int i)] [(.int ch), (.int c3)]))
              show Go p e below _ (s₁.setTop (mkF m 50 #[.val (.int c0), .val (.int c1), .val (.int c2), .val (.int c3), .val (.int ch), .val (.int i)] [(.int ch), (.int c3)]))
              refine Go.via (fun _ => XS.icmpNo X0.here hx rfl (hb hby d19_50) rfl (teq hc12).2) ?_
              show Go p e below _ (s₁.setTop (mkF m 53 #[.val (.int c0), .val (.int c1), .val (.int c2), .val (.int c3), .val (.int ch), .val (.int i)] []))
              refine Go.via (fun _ => XS.iconst X0.here hx rfl (hb hby d19_53)) ?_
              show Go p e below _ (s₁.setTop (mkF m 54 #[.val (.int c0), .val (.int c1), .val (.int c2), .val (.int c3), .val (.int ch), .val (.int i)] [(.int (3 : Int32))]))
              exact own_retI X0 hx hlk Bd.returns (hb hby d19_54) (by show QRef Z c0 c1 c2 c3 ch i h0 n0 _ s₁.heap _; rw [e0]; exact ⟨by simp [ix4, hc1, hc2, hc9, hc10, hc11, hc12], N0, rfl⟩) (by decide) (by decide)
            · -- no
              show Go p e below _ (s₁.setTop (mkF m 50 #[.val (.int c0), .val (.int c1), .val (.int c2), .val (.int c3), .val (.int ch), .val (.int i)] [(.int ch), (.int c3)]))
              show Go p e below _ (s₁.setTop (mkF m 50 #[.val (.int c0), .val (.int c1), .val (.int c2), .val (.int c3), .val (.int ch), .val (.int i)] [(.int ch), (.int c3)]))
              refine Go.via (fun _ => XS.icmpYes X0.here hx rfl (pc0 := 50) (pc' := 55) rfl (hb hby d19_50) rfl (feq hc12).2 (by decide) (by decide)) ?_
              show Go p e below _ (s₁.setTop (mkF m 55 #[.val (.int c0), .val (.int c1), .val (.int c2), .val (.int c3), .val (.int ch), .val (.int i)] []))
              refine Go.via (fun _ => XS.iconst X0.here hx rfl (hb hby d19_55)) ?_
              show Go p e below _ (s₁.setTop (mkF m 56 #[.val (.int c0), .val (.int c1), .val (.int c2), .val (.int c3), .val (.int ch), .val (.int i)] [(.int (-1 : Int32))]))
              exact own_retI X0 hx hlk Bd.returns (hb hby d19_56) (by show QRef Z c0 c1 c2 c3 ch i h0 n0 _ s₁.heap _; rw [e0]; exact ⟨by simp [ix4, hc1, hc2, hc9, hc10, hc11, hc12], N0, rfl⟩) (by decide) (by decide)
        · -- no
          show Go p e below _ (s₁.setTop (mkF m 30 #[.val (.int c0), .val (.int c1), .val (.int c2), .val (.int c3), .val (.int ch), .val (.int i)] [(.int (2 : Int32)), (.int i)]))
          show Go p e below _ (s₁.setTop (mkF m 30 #[.val (.int c0), .val (.int c1), .val (.int c2), .val (.int c3), .val (.int ch), .val (.int i)] [(.int (2 : Int32)), (.int i)]))
          refine Go.via (fun _ => XS.icmpNo X0.here hx rfl (hb hby d19_30) rfl (flt hc10).2.2.1) ?_
          show Go p e below _ (s₁.setTop (mkF m 33 #[.val (.int c0), .val (.int c1), .val (.int c2), .val (.int c3), .val (.int ch), .val (.int i)] []))
          refine Go.via (fun _ => XS.iloadN X0.here hx rfl (hb hby d19_33) rfl) ?_
          show Go p e below _ (s₁.setTop (mkF m 34 #[.val (.int c0), .val (.int c1), .val (.int c2), .val (.int c3), .val (.int ch), .val (.int i)] [(.int c2)]))
          refine Go.via (fun _ => XS.iload X0.here hx rfl (hb hby d19_34) rfl) ?_
          show Go p e below _ (s₁.setTop (mkF m 36 #[.val (.int c0), .val (.int c1), .val (.int c2), .val (.int c3), .val (.int ch), .val (.int i)] [(.int ch), (.int c2)]))
          by_cases hc13 : c2 = ch
          · -- yes
            show Go p e below _ (s₁.setTop (mkF m 36 #[.val (.int c0), .val (.int c1), .val (.int c2), .val (.int c3), .val (.int ch), .val (.int i)] [(.int ch), (.int c2)]))
            show Go p e below _ (s₁.setTop (mkF m 36 #[.val (.int c0), .val (.int c1), .val (.int c2), .val (.int c3), .val (.int ch), .val (.int i)] [(.int ch), (.int c2)]))
            refine Go.via (fun _ => XS.icmpNo X0.here hx rfl (hb hby d19_36) rfl (teq hc13).2) ?_
            show Go p e below _ (s₁.setTop (mkF m 39 #[.val (.int c0), .val (.int c1), .val (.int c2), .val (.int c3), .val (.int ch), .val (.int i)] []))
            refine Go.via (fun _ => XS.iconst X0.here hx rfl (hb hby d19_39)) ?_
            show Go p e below _ (s₁.setTop (mkF m 40 #[.val (.int c0), .val (.int c1), .val (.int c2), .val (.int c3), .val (.int ch), .val (.int i)] [(.int (2 : Int32))]))
            exact own_retI X0 hx hlk Bd.returns (hb hby d19_40) (by show QRef Z c0 c1 c2 c3 ch i h0 n0 _ s₁.heap _; rw [e0]; exact ⟨by simp [ix4, hc1, hc2, hc9, hc10, hc13], N0, rfl⟩) (by decide) (by decide)
          · -- no
            show Go p e below _ (s₁.setTop (mkF m 36 #[.val (.int c0), .val (.int c1), .val (.int c2), .val (.int c3), .val (.int ch), .val (.int i)] [(.int ch), (.int c2)]))
            show Go p e below _ (s₁.setTop (mkF m 36 #[.val (.int c0), .val (.int c1), .val (.int c2), .val (.int c3), .val (.int ch), .val (.int i)] [(.int ch), (.int c2)]))
            refine Go.via (fun _ => XS.icmpYes X0.here hx rfl (pc0 := 36) (pc' := 41) rfl (hb hby d19_36) rfl (feq hc13).2 (by decide) (by decide)) ?_
            show Go p e below _ (s₁.setTop (mkF m 41 #[.val (.int c0), .val (.int c1), .val (.int c2), .val (.int c3), .val (.int ch), .val (.int i)] []))
            refine Go.via (fun _ => XS.iload X0.here hx rfl (hb hby d19_41) rfl) ?_
            show Go p e below _ (s₁.setTop (mkF m 43 #[.val (.int c0), .val (.int c1), .val (.int c2), .val (.int c3), .val (.int ch), .val (.int i)] [(.int i)]))
            refine Go.via (fun _ => XS.iconst X0.here hx rfl (hb hby d19_43)) ?_
            show Go p e below _ (s₁.setTop (mkF m 44 #[.val (.int c0), .val (.int c1), .val (.int c2), .val (.int c3), .val (.int ch), .val (.int i)] [(.int (3 : Int32)), (.int i)]))
            by_cases hc14 : (3 : Int32) < i
            · -- yes
              show Go p e below _ (s₁.setTop (mkF m 44 #[.val (.int c0), .val (.int c1), .val (.int c2), .val (.int c3), .val (.int ch), .val (.int i)] [(.int (3 : Int32)), (.int i)]))
              show Go p e below _ (s₁.setTop (mkF m 44 #[.val (.int c0), .val (.int c1), .val (.int c2), .val (.int c3), .val (.int ch), .val (.int i)] [(.int (3 : Int32)), (.int i)]))
              refine Go.via (fun _ => XS.icmpYes X0.here hx rfl (pc0 := 44) (pc' := 55) rfl (hb hby d19_44) rfl (tlt hc14).2.2.1 (by decide) (by decide)) ?_
              show Go p e below _ (s₁.setTop (mkF m 55 #[.val (.int c0), .val (.int c1), .val (.int c2), .val (.int c3), .val (.int ch), .val (.int i)] []))
              refine Go.via (fun _ => XS.iconst X0.here hx rfl (hb hby d19_55)) ?_
              show Go p e below _ (s₁.setTop (mkF m 56 #[.val (.int c0), .val (.int c1), .val (.int c2), .val (.int c3), .val (.int ch), .val (.int i)] [(.int (-1 : Int32))]))
              exact own_retI X0 hx hlk Bd.returns (hb hby d19_56) (by show QRef Z c0 c1 c2 c3 ch i h0 n0 _ s₁.heap _; rw [e0]; exact ⟨by simp [ix4, hc1, hc2, hc9, hc10, hc13, hc14], N0, rfl⟩) (by decide) (by decide)
            · -- no
              show Go p e below _ (s₁.setTop (mkF m 44 #[.val (.int c0), .val (.int c1), .val (.int c2), .val (.int c3), .val (.int ch), .val (.int i)] [(.int (3 : Int32)), (.int i)]))
              show Go p e below _ (s₁.setTop (mkF m 44 #[.val (.int c0), .val (.int c1), .val (.int c2), .val (.int c3), .val (.int ch), .val (.int i)] [(.int (3 : Int32)), (.int i)]))
              refine Go.via (fun _ => XS.icmpNo X0.here hx rfl (hb hby d19_44) rfl (flt hc14).2.2.1) ?_
              show Go p e below _ (s₁.setTop (mkF m 47 #[.val (.int c0), .val (.int c1), .val (.int c2), .val (.int c3), .val (.int ch), .val (.int i)] []))
              refine Go.via (fun _ => XS.iloadN X0.here hx rfl (hb hby d19_47) rfl) ?_
              show Go p e below _ (s₁.setTop (mkF m 48 #[.val (.int c0), .val (.int c1), .val (.int c2), .val (.int c3), .val (.int ch), .val (.int i)] [(.int c3)]))
              refine Go.via (fun _ => XS.iload X0.here hx rfl (hb hby d19_48) rfl) ?_
              show Go p e below _ (s₁.setTop (mkF m 50 #[.val (.int c0), .val (.int c1), .val (.int c2), .val (.int c3), .val (.int ch), .val (.int i)] [(.int ch), (.int c3)]))
              by_cases hc15 : c3 = ch
              · -- yes
                show Go p e below _ (s₁.setTop (mkF m 50 #[.val (.int c0), .val (.int c1), .val (.int c2), .val (.int c3), .val (.int ch), .val (.int i)] [(.int ch), (.int c3)]))
                show Go p e below _ (s₁.setTop (mkF m 50 #[.val (.int c0), .val (.int c1), .val (.int c2), .val (.int c3), .val (.int ch), .val (.int i)] [(.int ch), (.int c3)]))
                refine Go.via (fun _ => XS.icmpNo X0.here hx rfl (hb hby d19_50) rfl (teq hc15).2) ?_
                show Go p e below _ (s₁.setTop (mkF m 53 #[.val (.int c0), .val (.int c1), .val (.int c2), .val (.int c3), .val (.int ch), .val (.int i)] []))
                refine Go.via (fun _ => XS.iconst X0.here hx rfl (hb hby d19_53)) ?_
                show Go p e below _ (s₁.setTop (mkF m 54 #[.val (.int c0), .val (.int c1), .val (.int c2), .val (.int c3), .val (.int ch), .val (.int i)] [(.int (3 : Int32))]))
                exact own_retI X0 hx hlk Bd.returns (hb hby d19_54) (by show QRef Z c0 c1 c2 c3 ch i h0 n0 _ s₁.heap _; rw [e0]; exact ⟨by simp [ix4, hc1, hc2, hc9, hc10, hc13, hc14, hc15], N0, rfl⟩) (by decide) (by decide)
              · -- no
                show Go p e below _ (s₁.setTop (mkF m 50 #[.val (.int c0), .val (.int c1), .val (.int c2), .val (.int c3), .val (.int ch), .val (.int i)] [(.int ch), (.int c3)]))
                show Go p e below _ (s₁.setTop (mkF m 50 #[.val (.int c0), .val (.int c1), .val (.int c2), .val (.int c3), .val (.int ch), .val (.int i)] [(.int ch), (.int c3)]))
                refine Go.via (fun _ => XS.icmpYes X0.here hx rfl (pc0 := 50) (pc' := 55) rfl (hb hby d19_50) rfl (feq hc15).2 (by decide) (by decide)) ?_
                show Go p e below _ (s₁.setTop (mkF m 55 #[.val (.int c0), .val (.int c1), .val (.int c2), .val (.int c3), .val (.int ch), .val (.int i)] []))
                refine Go.via (fun _ => XS.iconst X0.here hx rfl (hb hby d19_55)) ?_
                show Go p e below _ (s₁.setTop (mkF m 56 #[.val (.int c0), .val (.int c1), .val (.int c2), .val (.int c3), .val (.int ch), .val (.int i)] [(.int (-1 : Int32))]))
                exact own_retI X0 hx hlk Bd.returns (hb hby d19_56) (by show QRef Z c0 c1 c2 c3 ch i h0 n0 _ s₁.heap _; rw [e0]; exact ⟨by simp [ix4, hc1, hc2, hc9, hc10, hc13, hc14, hc15], N0, rfl⟩) (by decide) (by decide)
  · -- no
    show Go p e below _ (s₁.setTop (mkF m 2 #[.val (.int c0), .val (.int c1), .val (.int c2), .val (.int c3), .val (.int ch), .val (.int i)] [(.int i)]))
    show Go p e below _ (s₁.setTop (mkF m 2 #[.val (.int c0), .val (.int c1), .val (.int c2), .val (.int c3), .val (.int ch), .val (.int i)] [(.int i)]))
    refine Go.via (fun _ => XS.ifNo X0.here hx rfl (hb hby d19_2) rfl ((if0 _ _).trans (flt hc1).2.2.1)) ?_
    show Go p e below _ (s₁.setTop (mkF m 5 #[.val (.int c0), .val (.int c1), .val (.int c2), .val (.int c3), .val (.int ch), .val (.int i)] []))
    refine Go.via (fun _ => XS.iloadN X0.here hx rfl (hb hby d19_5) rfl) ?_
    show Go p e below _ (s₁.setTop (mkF m 6 #[.val (.int c0), .val (.int c1), .val (.int c2), .val (.int c3), .val (.int ch), .val (.int i)] [(.int c0)]))
    refine Go.via (fun _ => XS.iload X0.here hx rfl (hb hby d19_6) rfl) ?_
    show Go p e below _ (s₁.setTop (mkF m 8 #[.val (.int c0), .val (.int c1), .val (.int c2), .val (.int c3), .val (.int ch), .val (.int i)] [(.int ch), (.int c0)]))
    by_cases hc16 : c0 = ch
    · -- yes
      show Go p e below _ (s₁.setTop (mkF m 8 #[.val (.int c0), .val (.int c1), .val (.int c2), .val (.int c3), .val (.int ch), .val (.int i)] [(.int ch), (.int c0)]))
      show Go p e below _ (s₁.setTop (mkF m 8 #[.val (.int c0), .val (.int c1), .val (.int c2), .val (.int c3), .val (.int ch), .val (.int i)] [(.int ch), (.int c0)]))
      refine Go.via (fun _ => XS.icmpNo X0.here hx rfl (hb hby d19_8) rfl (teq hc16).2) ?_
      show Go p e below _ (s₁.setTop (mkF m 11 #[.val (.int c0), .val (.int c1), .val (.int c2), .val (.int c3), .val (.int ch), .val (.int i)] []))
      refine Go.via (fun _ => XS.iconst X0.here hx rfl (hb hby d19_11)) ?_
      show Go p e below _ (s₁.setTop (mkF m 12 #[.val (.int c0), .val (.int c1), .val (.int c2), .val (.int c3), .val (.int ch), .val (.int i)] [(.int (0 : Int32))]))
      exact own_retI X0 hx hlk Bd.returns (hb hby d19_12) (by show QRef Z c0 c1 c2 c3 ch i h0 n0 _ s₁.heap _; rw [e0]; exact ⟨by simp [ix4, hc1, hc16], N0, rfl⟩) (by decide) (by decide)
    · -- no
      show Go p e below _ (s₁.setTop (mkF m 8 #[.val (.int c0), .val (.int c1), .val (.int c2), .val (.int c3), .val (.int ch), .val (.int i)] [(.int ch), (.int c0)]))
      show Go p e below _ (s₁.setTop (mkF m 8 #[.val (.int c0), .val (.int c1), .val (.int c2), .val (.int c3), .val (.int ch), .val (.int i)] [(.int ch), (.int c0)]))
      refine Go.via (fun _ => XS.icmpYes X0.here hx rfl (pc0 := 8) (pc' := 13) rfl (hb hby d19_8) rfl (feq hc16).2 (by decide) (by decide)) ?_
      show Go p e below _ (s₁.setTop (mkF m 13 #[.val (.int c0), .val (.int c1), .val (.int c2), .val (.int c3), .val (.int ch), .val (.int i)] []))
      refine Go.via (fun _ => XS.iload X0.here hx rfl (hb hby d19_13) rfl) ?_
      show Go p e below _ (s₁.setTop (mkF m 15 #[.val (.int c0), .val (.int c1), .val (.int c2), .val (.int c3), .val (.int ch), .val (.int i)] [(.int i)]))
      refine Go.via (fun _ => XS.iconst X0.here hx rfl (hb hby d19_15)) ?_
      show Go p e below _ (s₁.setTop (mkF m 16 #[.val (.int c0), .val (.int c1), .val (.int c2), .val (.int c3), .val (.int ch), .val (.int i)] [(.int (1 : Int32)), (.int i)]))
      by_cases hc17 : (1 : Int32) < i
      · -- yes
        show Go p e below _ (s₁.setTop (mkF m 16 #[.val (.int c0), .val (.int c1), .val (.int c2), .val (.int c3), .val (.int ch), .val (.int i)] [(.int (1 : Int32)), (.int i)]))
        show Go p e below _ (s₁.setTop (mkF m 16 #[.val (.int c0), .val (.int c1), .val (.int c2), .val (.int c3), .val (.int ch), .val (.int i)] [(.int (1 : Int32)), (.int i)]))
        refine Go.via (fun _ => XS.icmpYes X0.here hx rfl (pc0 := 16) (pc' := 27) rfl (hb hby d19_16) rfl (tlt hc17).2.2.1 (by decide) (by decide)) ?_
        show Go p e below _ (s₁.setTop (mkF m 27 #[.val (.int c0), .val (.int c1), .val (.int c2), .val (.int c3), .val (.int ch), .val (.int i)] []))
        refine Go.via (fun _ => XS.iload X0.here hx rfl (hb hby d19_27) rfl) ?_
        show Go p e below _ (s₁.setTop (mkF m 29 #[.val (.int c0), .val (.int c1), .val (.int c2), .val (.int c3), .val (.int ch), .val (.int i)] [(.int i)]))
        refine Go.via (fun _ => XS.iconst X0.here hx rfl (hb hby d19_29)) ?_
        show Go p e below _ (s₁.setTop (mkF m 30 #[.val (.int c0), .val (.int c1), .val (.int c2), .val (.int c3), .val (.int ch), .val (.int i)] [(.int (2 : Int32)), (.int i)]))
        by_cases hc18 : (2 : Int32) < i
        · -- yes
          show Go p e below _ (s₁.setTop (mkF m 30 #[.val (.int c0), .val (.int c1), .val (.int c2), .val (.int c3), .val (.int ch), .val (.int i)] [(.int (2 : Int32)), (.int i)]))
          show Go p e below _ (s₁.setTop (mkF m 30 #[.val (.int c0), .val (.int c1), .val (.int c2), .val (.int c3), .val (.int ch), .val (.int i)] [(.int (2 : Int32)), (.int i)]))
          refine Go.via (fun _ => XS.icmpYes X0.here hx rfl (pc0 := 30) (pc' := 41) rfl (hb hby d19_30) rfl (tlt hc18).2.2.1 (by decide) (by decide)) ?_
          show Go p e below _ (s₁.setTop (mkF m 41 #[.val (.int c0), .val (.int c1), .val (.int c2), .val (.int c3), .val (.int ch), .val (.int i)] []))
          refine Go.via (fun _ => XS.iload X0.here hx rfl (hb hby d19_41) rfl) ?_
          show Go p e below _ (s₁.setTop (mkF m 43 #[.val (.int c0), .val (.int c1), .val (.int c2), .val (.int c3), .val (.int ch), .val (.int i)] [(.int i)]))
          refine Go.via (fun _ => XS.iconst X0.here hx rfl (hb hby d19_43)) ?_
          show Go p e below _ (s₁.setTop (mkF m 44 #[.val (.int c0), .val (.int c1), .val (.int c2), .val (.int c3), .val (.int ch), .val (.int i)] [(.int (3 : Int32)), (.int i)]))
          by_cases hc19 : (3 : Int32) < i
          · -- yes
            show Go p e below _ (s₁.setTop (mkF m 44 #[.val (.int c0), .val (.int c1), .val (.int c2), .val (.int c3), .val (.int ch), .val (.int i)] [(.int (3 : Int32)), (.int i)]))
            show Go p e below _ (s₁.setTop (mkF m 44 #[.val (.int c0), .val (.int c1), .val (.int c2), .val (.int c3), .val (.int ch), .val (.int i)] [(.int (3 : Int32)), (.int i)]))
            refine Go.via (fun _ => XS.icmpYes X0.here hx rfl (pc0 := 44) (pc' := 55) rfl (hb hby d19_44) rfl (tlt hc19).2.2.1 (by decide) (by decide)) ?_
            show Go p e below _ (s₁.setTop (mkF m 55 #[.val (.int c0), .val (.int c1), .val (.int c2), .val (.int c3), .val (.int ch), .val (.int i)] []))
            refine Go.via (fun _ => XS.iconst X0.here hx rfl (hb hby d19_55)) ?_
            show Go p e below _ (s₁.setTop (mkF m 56 #[.val (.int c0), .val (.int c1), .val (.int c2), .val (.int c3), .val (.int ch), .val (.int i)] [(.int (-1 : Int32))]))
            exact own_retI X0 hx hlk Bd.returns (hb hby d19_56) (by show QRef Z c0 c1 c2 c3 ch i h0 n0 _ s₁.heap _; rw [e0]; exact ⟨by simp [ix4, hc1, hc16, hc17, hc18, hc19], N0, rfl⟩) (by decide) (by decide)
          · -- no
            show Go p e below _ (s₁.setTop (mkF m 44 #[.val (.int c0), .val (.int c1), .val (.int c2), .val (.int c3), .val (.int ch), .val (.int i)] [(.int (3 : Int32)), (.int i)]))
            show Go p e below _ (s₁.setTop (mkF m 44 #[.val (.int c0), .val (.int c1), .val (.int c2), .val (.int c3), .val (.int ch), .val (.int i)] [(.int (3 : Int32)), (.int i)]))
            refine Go.via (fun _ => XS.icmpNo X0.here hx rfl (hb hby d19_44) rfl (flt hc19).2.2.1) ?_
            show Go p e below _ (s₁.setTop (mkF m 47 #[.val (.int c0), .val (.int c1), .val (.int c2), .val (.int c3), .val (.int ch), .val (.int i)] []))
            refine Go.via (fun _ => XS.iloadN X0.here hx rfl (hb hby d19_47) rfl) ?_
            show Go p e below _ (s₁.setTop (mkF m 48 #[.val (.int c0), .val (.int c1), .val (.int c2), .val (.int c3), .val (.int ch), .val (.int i)] [(.int c3)]))
            refine Go.via (fun _ => XS.iload X0.here hx rfl (hb hby d19_48) rfl) ?_
            show Go p e below _ (s₁.setTop (mkF m 50 #[.val (.int c0), .val (.int c1), .val (.int c2), .val (.int c3), .val (.int ch), .val (.int i)] [(.int ch), (.int c3)]))
            by_cases hc20 : c3 = ch
            · -- yes
              show Go p e below _ (s₁.setTop (mkF m 50 #[.val (.int c0), .val (.int c1), .val (.int c2), .val (.int c3), .val (.int ch), .val (.int i)] [(.int ch), (.int c3)]))
              show Go p e below _ (s₁.setTop (mkF m 50 #[.val (.int c0), .val (.int c1), .val (.int c2), .val (.int c3), .val (.int ch), .val (.int i)] [(.int ch), (.int c3)]))
              refine Go.via (fun _ => XS.icmpNo X0.here hx rfl (hb hby d19_50) rfl (teq hc20).2) ?_
              show Go p e below _ (s₁.setTop (mkF m 53 #[.val (.int c0), .val (.int c1), .val (.int c2), .val (.int c3), .val (.int ch), .val (.int i)] []))
              refine Go.via (fun _ => XS.iconst X0.here hx rfl (hb hby d19_53)) ?_
              show Go p e below _ (s₁.setTop (mkF m 54 #[.val (.int c0), .val (.int c1), .val (.int c2), .val (.int c3), .val (.int ch), .val (.int i)] [(.int (3 : Int32))]))
              exact own_retI X0 hx hlk Bd.returns (hb hby d19_54) (by show QRef Z c0 c1 c2 c3 ch i h0 n0 _ s₁.heap _; rw [e0]; exact ⟨by simp [ix4, hc1, hc16, hc17, hc18, hc19, hc20], N0, rfl⟩) (by decide) (by decide)
            · -- no
              show Go p e below _ (s₁.setTop (mkF m 50 #[.val (.int c0), .val (.int c1), .val (.int c2), .val (.int c3), .val (.int ch), .val (.int i)] [(.int ch), (.int c3)]))
              show Go p e below _ (s₁.setTop (mkF m 50 #[.val (.int c0), .val (.int c1), .val (.int c2), .val (.int c3), .val (.int ch), .val (.int i)] [(.int ch), (.int c3)]))
              refine Go.via (fun _ => XS.icmpYes X0.here hx rfl (pc0 := 50) (pc' := 55) rfl (hb hby d19_50) rfl (feq hc20).2 (by decide) (by decide)) ?_
              show Go p e below _ (s₁.setTop (mkF m 55 #[.val (.int c0), .val (.int c1), .val (.int c2), .val (.int c3), .val (.int ch), .val (.int i)] []))
              refine Go.via (fun _ => XS.iconst X0.here hx rfl (hb hby d19_55)) ?_
              show Go p e below _ (s₁.setTop (mkF m 56 #[.val (.int c0), .val (.int c1), .val (.int c2), .val (.int c3), .val (.int ch), .val (.int i)] [(.int (-1 : Int32))]))
              exact own_retI X0 hx hlk Bd.returns (hb hby d19_56) (by show QRef Z c0 c1 c2 c3 ch i h0 n0 _ s₁.heap _; rw [e0]; exact ⟨by simp [ix4, hc1, hc16, hc17, hc18, hc19, hc20], N0, rfl⟩) (by decide) (by decide)
        · -- no
          show Go p e below _ (s₁.setTop (mkF m 30 #[.val (.int c0), .val (.int c1), .val (.int c2), .val (.int c3), .val (.int ch), .val (.int i)] [(.int (2 : Int32)), (.int i)]))
          show Go p e below _ (s₁.setTop (mkF m 30 #[.val (.int c0), .val (.int c1), .val (.int c2), .val (.int c3), .val (.int ch), .val (.int i)] [(.int (2 : Int32)), (.int i)]))
          refine Go.via (fun _ => XS.icmpNo X0.here hx rfl (hb hby d19_30) rfl (flt hc18).2.2.1) ?_
          show Go p e below _ (s₁.setTop (mkF m 33 #[.val (.int c0), .val (.int c1), .val (.int c2), .val (.int c3), .val (.int ch), .val (.int i)] []))
          refine Go.via (fun _ => XS.iloadN X0.here hx rfl (hb hby d19_33) rfl) ?_
          show Go p e below _ (s₁.setTop (mkF m 34 #[.val (.int c0), .val (.int c1), .val (.int c2), .val (.int c3), .val (.int ch), .val (.int i)] [(.int c2)]))
          refine Go.via (fun _ => XS.iload X0.here hx rfl (hb hby d19_34) rfl) ?_
          show Go p e below _ (s₁.setTop (mkF m 36 #[.val (.int c0), .val (.int c1), .val (.int c2), .val (.int c3), .val (.int ch), .val (.int i)] [(.int ch), (.int c2)]))
          by_cases hc21 : c2 = ch
          · -- yes
            show Go p e below _ (s₁.setTop (mkF m 36 #[.val (.int c0), .val (.int c1), .val (.int c2), .val (.int c3), .val (.int ch), .val (.int i)] [(.int ch), (.int c2)]))
            show Go p e below _ (s₁.setTop (mkF m 36 #[.val (.int c0), .val (.int c1), .val (.int c2), .val (.int c3), .val (.int ch), .val (.int i)] [(.int ch), (.int c2)]))
            refine Go.via (fun _ => XS.icmpNo X0.here hx rfl (hb hby d19_36) rfl (teq hc21).2) ?_
            show Go p e below _ (s₁.setTop (mkF m 39 #[.val (.int c0), .val (.int c1), .val (.int c2), .val (.int c3), .val (.int ch), .val (.int i)] []))
            refine Go.via (fun _ => XS.iconst X0.here hx rfl (hb hby d19_39)) ?_
            show Go p e below _ (s₁.setTop (mkF m 40 #[.val (.int c0), .val (.int c1), .val (.int c2), .val (.int c3), .val (.int ch), .val (.int i)] [(.int (2 : Int32))]))
            exact own_retI X0 hx hlk Bd.returns (hb hby d19_40) (by show QRef Z c0 c1 c2 c3 ch i h0 n0 _ s₁.heap _; rw [e0]; exact ⟨by simp [ix4, hc1, hc16, hc17, hc18, hc21], N0, rfl⟩) (by decide) (by decide)
          · -- no
            show Go p e below _ (s₁.setTop (mkF m 36 #[.val (.int c0), .val (.int c1), .val (.int c2), .val (.int c3), .val (.int ch), .val (.int i)] [(.int ch), (.int c2)]))
            show Go p e below _ (s₁.setTop (mkF m 36 #[.val (.int c0), .val (.int c1), .val (.int c2), .val (.int c3), .val (.int ch), .val (.int i)] [(.int ch), (.int c2)]))
            refine Go.via (fun _ => XS.icmpYes X0.here hx rfl (pc0 := 36) (pc' := 41) rfl (hb hby d19_36) rfl (feq hc21).2 (by decide) (by decide)) ?_
            show Go p e below _ (s₁.setTop (mkF m 41 #[.val (.int c0), .val (.int c1), .val (.int c2), .val (.int c3), .val (.int ch), .val (.int i)] []))
            refine Go.via (fun _ => XS.iload X0.here hx rfl (hb hby d19_41) rfl) ?_
            show Go p e below _ (s₁.setTop (mkF m 43 #[.val (.int c0), .val (.int c1), .val (.int c2), .val (.int c3), .val (.int ch), .val (.int i)] [(.int i)]))
            refine Go.via (fun _ => XS.iconst X0.here hx rfl (hb hby d19_43)) ?_
            show Go p e below _ (s₁.setTop (mkF m 44 #[.val (.int c0), .val (.int c1), .val (.int c2), .val (.int c3), .val (.int ch), .val (.int i)] [(.int (3 : Int32)), (.int i)]))
            by_cases hc22 : (3 : Int32) < i
            · -- yes
              show Go p e below _ (s₁.setTop (mkF m 44 #[.val (.int c0), .val (.int c1), .val (.int c2), .val (.int c3), .val (.int ch), .val (.int i)] [(.int (3 : Int32)), (.int i)]))
              show Go p e below _ (s₁.setTop (mkF m 44 #[.val (.int c0), .val (.int c1), .val (.int c2), .val (.int c3), .val (.int ch), .val (.int i)] [(.int (3 : Int32)), (.int i)]))
              refine Go.via (fun _ => XS.icmpYes X0.here hx rfl (pc0 := 44) (pc' := 55) rfl (hb hby d19_44) rfl (tlt hc22).2.2.1 (by decide) (by decide)) ?_
              show Go p e below _ (s₁.setTop (mkF m 55 #[.val (.int c0), .val (.int c1), .val (.int c2), .val (.int c3), .val (.int ch), .val (.int i)] []))
              refine Go.via (fun _ => XS.iconst X0.here hx rfl (hb hby d19_55)) ?_
              show Go p e below _ (s₁.setTop (mkF m 56 #[.val (.int c0), .val (.int c1), .val (.int c2), .val (.int c3), .val (.int ch), .val (.int i)] [(.int (-1 : Int32))]))
              exact own_retI X0 hx hlk Bd.returns (hb hby d19_56) (by show QRef Z c0 c1 c2 c3 ch i h0 n0 _ s₁.heap _; rw [e0]; exact ⟨by simp [ix4, hc1, hc16, hc17, hc18, hc21, hc22], N0, rfl⟩) (by decide) (by decide)
            · -- no
              show Go p e below _ (s₁.setTop (mkF m 44 #[.val (.int c0), .val (.int c1), .val (.int c2), .val (.int c3), .val (.int ch), .val (.int i)] [(.int (3 : Int32)), (.int i)]))
              show Go p e below _ (s₁.setTop (mkF m 44 #[.val (.int c0), .val (.int c1), .val (.int c2), .val (.int c3), .val (.int ch), .val (.int i)] [(.int (3 : Int32)), (.int i)]))
              refine Go.via (fun _ => XS.icmpNo X0.here hx rfl (hb hby d19_44) rfl (flt hc22).2.2.1) ?_
              show Go p e below _ (s₁.setTop (mkF m 47 #[.val (.int c0), .val (.int c1), .val (.int c2), .val (.int c3), .val (.int ch), .val (.int i)] []))
              refine Go.via (fun _ => XS.iloadN X0.here hx rfl (hb hby d19_47) rfl) ?_
              show Go p e below _ (s₁.setTop (mkF m 48 #[.val (.int c0), .val (.int c1), .val (.int c2), .val (.int c3), .val (.int ch), .val (.int i)] [(.int c3)]))
              refine Go.via (fun _ => XS.iload X0.here hx rfl (hb hby d19_48) rfl) ?_
              show Go p e below _ (s₁.setTop (mkF m 50 #[.val (.int c0), .val (.int c1), .val (.int c2), .val (.int c3), .val (.int ch), .val (.int i)] [(.int ch), (.int c3)]))
              by_cases hc23 : c3 = ch
              · -- yes
                show Go p e below _ (s₁.setTop (mkF m 50 #[.val (.int c0), .val (.int c1), .val (.int c2), .val (.int c3), .val (.int ch), .val (.int i)] [(.int ch), (.int c3)]))
                show Go p e below _ (s₁.setTop (mkF m 50 #[.val (.int c0), .val (.int c1), .val (.int c2), .val (.int c3), .val (.int ch), .val (.int i)] [(.int ch), (.int c3)]))
                refine Go.via (fun _ => XS.icmpNo X0.here hx rfl (hb hby d19_50) rfl (teq hc23).2) ?_
                show Go p e below _ (s₁.setTop (mkF m 53 #[.val (.int c0), .val (.int c1), .val (.int c2), .val (.int c3), .val (.int ch), .val (.int i)] []))
                refine Go.via (fun _ => XS.iconst X0.here hx rfl (hb hby d19_53)) ?_
                show Go p e below _ (s₁.setTop (mkF m 54 #[.val (.int c0), .val (.int c1), .val (.int c2), .val (.int c3), .val (.int ch), .val (.int i)] [(.int (3 : Int32))]))
                exact own_retI X0 hx hlk Bd.returns (hb hby d19_54) (by show QRef Z c0 c1 c2 c3 ch i h0 n0 _ s₁.heap _; rw [e0]; exact ⟨by simp [ix4, hc1, hc16, hc17, hc18, hc21, hc22, hc23], N0, rfl⟩) (by decide) (by decide)
              · -- no
                show Go p e below _ (s₁.setTop (mkF m 50 #[.val (.int c0), .val (.int c1), .val (.int c2), .val (.int c3), .val (.int ch), .val (.int i)] [(.int ch), (.int c3)]))
                show Go p e below _ (s₁.setTop (mkF m 50 #[.val (.int c0), .val (.int c1), .val (.int c2), .val (.int c3), .val (.int ch), .val (.int i)] [(.int ch), (.int c3)]))
                refine Go.via (fun _ => XS.icmpYes X0.here hx rfl (pc0 := 50) (pc' := 55) rfl (hb hby d19_50) rfl (feq hc23).2 (by decide) (by decide)) ?_
                show Go p e below _ (s₁.setTop (mkF m 55 #[.val (.int c0), .val (.int c1), .val (.int c2), .val (.int c3), .val (.int ch), .val (.int i)] []))
                refine Go.via (fun _ => XS.iconst X0.here hx rfl (hb hby d19_55)) ?_
                show Go p e below _ (s₁.setTop (mkF m 56 #[.val (.int c0), .val (.int c1), .val (.int c2), .val (.int c3), .val (.int ch), .val (.int i)] [(.int (-1 : Int32))]))
                exact own_retI X0 hx hlk Bd.returns (hb hby d19_56) (by show QRef Z c0 c1 c2 c3 ch i h0 n0 _ s₁.heap _; rw [e0]; exact ⟨by simp [ix4, hc1, hc16, hc17, hc18, hc21, hc22, hc23], N0, rfl⟩) (by decide) (by decide)
      · -- no
        show Go p e below _ (s₁.setTop (mkF m 16 #[.val (.int c0), .val (.int c1), .val (.int c2), .val (.int c3), .val (.int ch), .val (.int i)] [(.int (1 : Int32)), (.int i)]))
        show Go p e below _ (s₁.setTop (mkF m 16 #[.val (.int c0), .val (.int c1), .val (.int c2), .val (.int c3), .val (.int ch), .val (.int i)] [(.int (1 : Int32)), (.int i)]))
        refine Go.via (fun _ => XS.icmpNo X0.here hx rfl (hb hby d19_16) rfl (flt hc17).2.2.1) ?_
        show Go p e below _ (s₁.setTop (mkF m 19 #[.val (.int c0), .val (.int c1), .val (.int c2), .val (.int c3), .val (.int ch), .val (.int i)] []))
        refine Go.via (fun _ => XS.iloadN X0.here hx rfl (hb hby d19_19) rfl) ?_
        show Go p e below _ (s₁.setTop (mkF m 20 #[.val (.int c0), .val (.int c1), .val (.int c2), .val (.int c3), .val (.int ch), .val (.int i)] [(.int c1)]))
        refine Go.via (fun _ => XS.iload X0.here hx rfl (hb hby d19_20) rfl) ?_
        show Go p e below _ (s₁.setTop (mkF m 22 #[.val (.int c0), .val (.int c1), .val (.int c2), .val (.int c3), .val (.int ch), .val (.int i)] [(.int ch), (.int c1)]))
        by_cases hc24 : c1 = ch
        · -- yes
          show Go p e below _ (s₁.setTop (mkF m 22 #[.val (.int c0), .val (.int c1), .val (.int c2), .val (.int c3), .val (.int ch), .val (.int i)] [(.int ch), (.int c1)]))
          show Go p e below _ (s₁.setTop (mkF m 22 #[.val (.int c0), .val (.int c1), .val (.int c2), .val (.int c3), .val (.int ch), .val (.int i)] [(.int ch), (.int c1)]))
          refine Go.via (fun _ => XS.icmpNo X0.here hx rfl (hb hby d19_22) rfl (teq hc24).2) ?_
          show Go p e below _ (s₁.setTop (mkF m 25 #[.val (.int c0), .val (.int c1), .val (.int c2), .val (.int c3), .val (.int ch), .val (.int i)] []))
          refine Go.via (fun _ => XS.iconst X0.here hx rfl (hb hby d19_25)) ?_
          show Go p e below _ (s₁.setTop (mkF m 26 #[.val (.int c0), .val (.int c1), .val (.int c2), .val (.int c3), .val (.int ch), .val (.int i)] [(.int (1 : Int32))]))
          exact own_retI X0 hx hlk Bd.returns (hb hby d19_26) (by show QRef Z c0 c1 c2 c3 ch i h0 n0 _ s₁.heap _; rw [e0]; exact ⟨by simp [ix4, hc1, hc16, hc17, hc24], N0, rfl⟩) (by decide) (by decide)
        · -- no
          show Go p e below _ (s₁.setTop (mkF m 22 #[.val (.int c0), .val (.int c1), .val (.int c2), .val (.int c3), .val (.int ch), .val (.int i)] [(.int ch), (.int c1)]))
          show Go p e below _ (s₁.setTop (mkF m 22 #[.val (.int c0), .val (.int c1), .val (.int c2), .val (.int c3), .val (.int ch), .val (.int i)] [(.int ch), (.int c1)]))
          refine Go.via (fun _ => XS.icmpYes X0.here hx rfl (pc0 := 22) (pc' := 27) rfl (hb hby d19_22) rfl (feq hc24).2 (by decide) (by decide)) ?_
          show Go p e below _ (s₁.setTop (mkF m 27 #[.val (.int c0), .val (.int c1), .val (.int c2), .val (.int c3), .val (.int ch), .val (.int i)] []))
          refine Go.via (fun _ => XS.iload X0.here hx rfl (hb hby d19_27) rfl) ?_
          show Go p e below _ (s₁.setTop (mkF m 29 #[.val (.int c0), .val (.int c1), .val (.int c2), .val (.int c3), .val (.int ch), .val (.int i)] [(.int i)]))
          refine Go.via (fun _ => XS.iconst X0.here hx rfl (hb hby d19_29)) ?_
          show Go p e below _ (s₁.setTop (mkF m 30 #[.val (.int c0), .val (.int c1), .val (.int c2), .val (.int c3), .val (.int ch), .val (.int i)] [(.int (2 : Int32)), (.int i)]))
          by_cases hc25 : (2 : Int32) < i
          · -- yes
            show Go p e below _ (s₁.setTop (mkF m 30 #[.val (.int c0), .val (.int c1), .val (.int c2), .val (.int c3), .val (.int ch), .val (.int i)] [(.int (2 : Int32)), (.int i)]))
            show Go p e below _ (s₁.setTop (mkF m 30 #[.val (.int c0), .val (.int c1), .val (.int c2), .val (.int c3), .val (.int ch), .val (.int i)] [(.int (2 : Int32)), (.int i)]))
            refine Go.via (fun _ => XS.icmpYes X0.here hx rfl (pc0 := 30) (pc' := 41) rfl (hb hby d19_30) rfl (tlt hc25).2.2.1 (by decide) (by decide)) ?_
            show Go p e below _ (s₁.setTop (mkF m 41 #[.val (.int c0), .val (.int c1), .val (.int c2), .val (.int c3), .val (.int ch), .val (.int i)] []))
            refine Go.via (fun _ => XS.iload X0.here hx rfl (hb hby d19_41) rfl) ?_
            show Go p e below _ (s₁.setTop (mkF m 43 #[.val (.int c0), .val (.int c1), .val (.int c2), .val (.int c3), .val (.int ch), .val (.int i)] [(.int i)]))
            refine Go.via (fun _ => XS.iconst X0.here hx rfl (hb hby d19_43)) ?_
            show Go p e below _ (s₁.setTop (mkF m 44 #[.val (.int c0), .val (.int c1), .val (.int c2), .val (.int c3), .val (.int ch), .val (.int i)] [(.int (3 : Int32)), (.int i)]))
            by_cases hc26 : (3 : Int32) < i
            · -- yes
              show Go p e below _ (s₁.setTop (mkF m 44 #[.val (.int c0), .val (.int c1), .val (.int c2), .val (.int c3), .val (.int ch), .val (.int i)] [(.int (3 : Int32)), (.int i)]))
              show Go p e below _ (s₁.setTop (mkF m 44 #[.val (.int c0), .val (.int c1), .val (.int c2), .val (.int c3), .val (.int ch), .val (.int i)] [(.int (3 : Int32)), (.int i)]))
              refine Go.via (fun _ => XS.icmpYes X0.here hx rfl (pc0 := 44) (pc' := 55) rfl (hb hby d19_44) rfl (tlt hc26).2.2.1 (by decide) (by decide)) ?_
              show Go p e below _ (s₁.setTop (mkF m 55 #[.val (.int c0), .val (.int c1), .val (.int c2), .val (.int c3), .val (.int ch), .val (.int i)] []))
              refine Go.via (fun _ => XS.iconst X0.here hx rfl (hb hby d19_55)) ?_
              show Go p e below _ (s₁.setTop (mkF m 56 #[.val (.int c0), .val (.int c1), .val (.int c2), .val (.int c3), .val (.int ch), .val (.int i)] [(.int (-1 : Int32))]))
              exact own_retI X0 hx hlk Bd.returns (hb hby d19_56) (by show QRef Z c0 c1 c2 c3 ch i h0 n0 _ s₁.heap _; rw [e0]; exact ⟨by simp [ix4, hc1, hc16, hc17, hc24, hc25, hc26], N0, rfl⟩) (by decide) (by decide)
            · -- no
              show Go p e below _ (s₁.setTop (mkF m 44 #[.val (.int c0), .val (.int c1), .val (.int c2), .val (.int c3), .val (.int ch), .val (.int i)] [(.int (3 : Int32)), (.int i)]))
              show Go p e below _ (s₁.setTop (mkF m 44 #[.val (.int c0), .val (.int c1), .val (.int c2), .val (.int c3), .val (.int ch), .val (.int i)] [(.int (3 : Int32)), (.int i)]))
              refine Go.via (fun _ => XS.icmpNo X0.here hx rfl (hb hby d19_44) rfl (flt hc26).2.2.1) ?_
              show Go p e below _ (s₁.setTop (mkF m 47 #[.val (.int c0), .val (.int c1), .val (.int c2), .val (.int c3), .val (.int ch), .val (.int i)] []))
              refine Go.via (fun _ => XS.iloadN X0.here hx rfl (hb hby d19_47) rfl) ?_
              show Go p e below _ (s₁.setTop (mkF m 48 #[.val (.int c0), .val (.int c1), .val (.int c2), .val (.int c3), .val (.int ch), .val (.int i)] [(.int c3)]))
              refine Go.via (fun _ => XS.iload X0.here hx rfl (hb hby d19_48) rfl) ?_
              show Go p e below _ (s₁.setTop (mkF m 50 #[.val (.int c0), .val (.int c1), .val (.int c2), .val (.int c3), .val (.int ch), .val (.int i)] [(.int ch), (.int c3)]))
              by_cases hc27 : c3 = ch
              · -- yes
                show Go p e below _ (s₁.setTop (mkF m 50 #[.val (.int c0), .val (.int c1), .val (.int c2), .val (.int c3), .val (.int ch), .val (.int i)] [(.int ch), (.int c3)]))
                show Go p e below _ (s₁.setTop (mkF m 50 #[.val (.int c0), .val (.int c1), .val (.int c2), .val (.int c3), .val (.int ch), .val (.int i)] [(.int ch), (.int c3)]))
                refine Go.via (fun _ => XS.icmpNo X0.here hx rfl (hb hby d19_50) rfl (teq hc27).2) ?_
                show Go p e below _ (s₁.setTop (mkF m 53 #[.val (.int c0), .val (.int c1), .val (.int c2), .val (.int c3), .val (.int ch), .val (.int i)] []))
                refine Go.via (fun _ => XS.iconst X0.here hx rfl (hb hby d19_53)) ?_
                show Go p e below _ (s₁.setTop (mkF m 54 #[.val (.int c0), .val (.int c1), .val (.int c2), .val (.int c3), .val (.int ch), .val (.int i)] [(.int (3 : Int32))]))
                exact own_retI X0 hx hlk Bd.returns (hb hby d19_54) (by show QRef Z c0 c1 c2 c3 ch i h0 n0 _ s₁.heap _; rw [e0]; exact ⟨by simp [ix4, hc1, hc16, hc17, hc24, hc25, hc26, hc27], N0, rfl⟩) (by decide) (by decide)
              · -- no
                show Go p e below _ (s₁.setTop (mkF m 50 #[.val (.int c0), .val (.int c1), .val (.int c2), .val (.int c3), .val (.int ch), .val (.int i)] [(.int ch), (.int c3)]))
                show Go p e below _ (s₁.setTop (mkF m 50 #[.val (.int c0), .val (.int c1), .val (.int c2), .val (.int c3), .val (.int ch), .val (.int i)] [(.int ch), (.int c3)]))
                refine Go.via (fun _ => XS.icmpYes X0.here hx rfl (pc0 := 50) (pc' := 55) rfl (hb hby d19_50) rfl (feq hc27).2 (by decide) (by decide)) ?_
                show Go p e below _ (s₁.setTop (mkF m 55 #[.val (.int c0), .val (.int c1), .val (.int c2), .val (.int c3), .val (.int ch), .val (.int i)] []))
                refine Go.via (fun _ => XS.iconst X0.here hx rfl (hb hby d19_55)) ?_
                show Go p e below _ (s₁.setTop (mkF m 56 #[.val (.int c0), .val (.int c1), .val (.int c2), .val (.int c3), .val (.int ch), .val (.int i)] [(.int (-1 : Int32))]))
                exact own_retI X0 hx hlk Bd.returns (hb hby d19_56) (by show QRef Z c0 c1 c2 c3 ch i h0 n0 _ s₁.heap _; rw [e0]; exact ⟨by simp [ix4, hc1, hc16, hc17, hc24, hc25, hc26, hc27], N0, rfl⟩) (by decide) (by decide)
          · -- no
            show Go p e below _ (s₁.setTop (mkF m 30 #[.val (.int c0), .val (.int c1), .val (.int c2), .val (.int c3), .val (.int ch), .val (.int i)] [(.int (2 : Int32)), (.int i)]))
            show Go p e below _ (s₁.setTop (mkF m 30 #[.val (.int c0), .val (.int c1), .val (.int c2), .val (.int c3), .val (.int ch), .val (.int i)] [(.int (2 : Int32)), (.int i)]))
            refine Go.via (fun _ => XS.icmpNo X0.here hx rfl (hb hby d19_30) rfl (flt hc25).2.2.1) ?_
            show Go p e below _ (s₁.setTop (mkF m 33 #[.val (.int c0), .val (.int c1), .val (.int c2), .val (.int c3), .val (.int ch), .val (.int i)] []))
            refine Go.via (fun _ => XS.iloadN X0.here hx rfl (hb hby d19_33) rfl) ?_
            show Go p e below _ (s₁.setTop (mkF m 34 #[.val (.int c0), .val (.int c1), .val (.int c2), .val (.int c3), .val (.int ch), .val (.int i)] [(.int c2)]))
            refine Go.via (fun _ => XS.iload X0.here hx rfl (hb hby d19_34) rfl) ?_
            show Go p e below _ (s₁.setTop (mkF m 36 #[.val (.int c0), .val (.int c1), .val (.int c2), .val (.int c3), .val (.int ch), .val (.int i)] [(.int ch), (.int c2)]))
            by_cases hc28 : c2 = ch
            · -- yes
              show Go p e below _ (s₁.setTop (mkF m 36 #[.val (.int c0), .val (.int c1), .val (.int c2), .val (.int c3), .val (.int ch), .val (.int i)] [(.int ch), (.int c2)]))
              show Go p e below _ (s₁.setTop (mkF m 36 #[.val (.int c0), .val (.int c1), .val (.int c2), .val (.int c3), .val (.int ch), .val (.int i)] [(.int ch), (.int c2)]))
              refine Go.via (fun _ => XS.icmpNo X0.here hx rfl (hb hby d19_36) rfl (teq hc28).2) ?_
              show Go p e below _ (s₁.setTop (mkF m 39 #[.val (.int c0), .val (.int c1), .val (.int c2), .val (.int c3), .val (.int ch), .val (.int i)] []))
              refine Go.via (fun _ => XS.iconst X0.here hx rfl (hb hby d19_39)) ?_
              show Go p e below _ (s₁.setTop (mkF m 40 #[.val (.int c0), .val (.int c1), .val (.int c2), .val (.int c3), .val (.int ch), .val (.int i)] [(.int (2 : Int32))]))
              exact own_retI X0 hx hlk Bd.returns (hb hby d19_40) (by show QRef Z c0 c1 c2 c3 ch i h0 n0 _ s₁.heap _; rw [e0]; exact ⟨by simp [ix4, hc1, hc16, hc17, hc24, hc25, hc28], N0, rfl⟩) (by decide) (by decide)
            · -- no
              show Go p e below _ (s₁.setTop (mkF m 36 #[.val (.int c0), .val (.int c1), .val (.int c2), .val (.int c3), .val (.int ch), .val (.int i)] [(.int ch), (.int c2)]))
              show Go p e below _ (s₁.setTop (mkF m 36 #[.val (.int c0), .val (.int c1), .val (.int c2), .val (.int c3), .val (.int ch), .val (.int i)] [(.int ch), (.int c2)]))
              refine Go.via (fun _ => XS.icmpYes X0.here hx rfl (pc0 := 36) (pc' := 41) rfl (hb hby d19_36) rfl (feq hc28).2 (by decide) (by decide)) ?_
              show Go p e below _ (s₁.setTop (mkF m 41 #[.val (.int c0), .val (.int c1), .val (.int c2), .val (.int c3), .val (.int ch), .val (.int i)] []))
              refine Go.via (fun _ => XS.iload X0.here hx rfl (hb hby d19_41) rfl) ?_
              show Go p e below _ (s₁.setTop (mkF m 43 #[.val (.int c0), .val (.int c1), .val (.int c2), .val (.int c3), .val (.int ch), .val (.int i)] [(.int i)]))
              refine Go.via (fun _ => XS.iconst X0.here hx rfl (hb hby d19_43)) ?_
              show Go p e below _ (s₁.setTop (mkF m 44 #[.val (.int c0), .val (.int c1), .val (.int c2), .val (.int c3), .val (.int ch), .val (.int i)] [(.int (3 : Int32)), (.int i)]))
              by_cases hc29 : (3 : Int32) < i
              · -- yes
                show Go p e below _ (s₁.setTop (mkF m 44 #[.val (.int c0), .val (.int c1), .val (.int c2), .val (.int c3), .val (.int ch), .val (.int i)] [(.int (3 : Int32)), (.int i)]))
                show Go p e below _ (s₁.setTop (mkF m 44 #[.val (.int c0), .val (.int c1), .val (.int c2), .val (.int c3), .val (.int ch), .val (.int i)] [(.int (3 : Int32)), (.int i)]))
                refine Go.via (fun _ => XS.icmpYes X0.here hx rfl (pc0 := 44) (pc' := 55) rfl (hb hby d19_44) rfl (tlt hc29).2.2.1 (by decide) (by decide)) ?_
                show Go p e below _ (s₁.setTop (mkF m 55 #[.val (.int c0), .val (.int c1), .val (.int c2), .val (.int c3), .val (.int ch), .val (.int i)] []))
                refine Go.via (fun _ => XS.iconst X0.here hx rfl (hb hby d19_55)) ?_
                show Go p e below _ (s₁.setTop (mkF m 56 #[.val (.int c0), .val (.int c1), .val (.int c2), .val (.int c3), .val (.int ch), .val (.int i)] [(.int (-1 : Int32))]))
                exact own_retI X0 hx hlk Bd.returns (hb hby d19_56) (by show QRef Z c0 c1 c2 c3 ch i h0 n0 _ s₁.heap _; rw [e0]; exact ⟨by simp [ix4, hc1, hc16, hc17, hc24, hc25, hc28, hc29], N0, rfl⟩) (by decide) (by decide)
              · -- no
                show Go p e below _ (s₁.setTop (mkF m 44 #[.val (.int c0), .val (.int c1), .val (.int c2), .val (.int c3), .val (.int ch), .val (.int i)] [(.int (3 : Int32)), (.int i)]))
                show Go p e below _ (s₁.setTop (mkF m 44 #[.val (.int c0), .val (.int c1), .val (.int c2), .val (.int c3), .val (.int ch), .val (.int i)] [(.int (3 : Int32)), (.int i)]))
                refine Go.via (fun _ => XS.icmpNo X0.here hx rfl (hb hby d19_44) rfl (flt hc29).2.2.1) ?_
                show Go p e below _ (s₁.setTop (mkF m 47 #[.val (.int c0), .val (.int c1), .val (.int c2), .val (.int c3), .val (.int ch), .val (.int i)] []))
                refine Go.via (fun _ => XS.iloadN X0.here hx rfl (hb hby d19_47) rfl) ?_
                show Go p e below _ (s₁.setTop (mkF m 48 #[.val (.int c0), .val (.int c1), .val (.int c2), .val (.int c3), .val (.int ch), .val (.int i)] [(.int c3)]))
                refine Go.via (fun _ => XS.iload X0.here hx rfl (hb hby d19_48) rfl) ?_
                show Go p e below _ (s₁.setTop (mkF m 50 #[.val (.int c0), .val (.int c1), .val (.int c2), .val (.int c3), .val (.int ch), .val (.int i)] [(.int ch), (.int c3)]))
                by_cases hc30 : c3 = ch
                · -- yes
                  show Go p e below _ (s₁.setTop (mkF m 50 #[.val (.int c0), .val (.int c1), .val (.int c2), .val (.int c3), .val (.int ch), .val (.int i)] [(.int ch), (.int c3)]))
                  show Go p e below _ (s₁.setTop (mkF m 50 #[.val (.int c0), .val (.int c1), .val (.int c2), .val (.int c3), .val (.int ch), .val (.int i)] [(.int ch), (.int c3)]))
                  refine Go.via (fun _ => XS.icmpNo X0.here hx rfl (hb hby d19_50) rfl (teq hc30).2) ?_
                  show Go p e below _ (s₁.setTop (mkF m 53 #[.val (.int c0), .val (.int c1), .val (.int c2), .val (.int c3), .val (.int ch), .val (.int i)] []))
                  refine Go.via (fun _ => XS.iconst X0.here hx rfl (hb hby d19_53)) ?_
                  show Go p e below _ (s₁.setTop (mkF m 54 #[.val (.int c0), .val (.int c1), .val (.int c2), .val (.int c3), .val (.int ch), .val (.int i)] [(.int (3 : Int32))]))
                  exact own_retI X0 hx hlk Bd.returns (hb hby d19_54) (by show QRef Z c0 c1 c2 c3 ch i h0 n0 _ s₁.heap _; rw [e0]; exact ⟨by simp [ix4, hc1, hc16, hc17, hc24, hc25, hc28, hc29, hc30], N0, rfl⟩) (by decide) (by decide)
                · -- no
                  show Go p e below _ (s₁.setTop (mkF m 50 #[.val (.int c0), .val (.int c1), .val (.int c2), .val (.int c3), .val (.int ch), .val (.int i)] [(.int ch), (.int c3)]))
                  show Go p e below _ (s₁.setTop (mkF m 50 #[.val (.int c0), .val (.int c1), .val (.int c2), .val (.int c3), .val (.int ch), .val (.int i)] [(.int ch), (.int c3)]))
                  refine Go.via (fun _ => XS.icmpYes X0.here hx rfl (pc0 := 50) (pc' := 55) rfl (hb hby d19_50) rfl (feq hc30).2 (by decide) (by decide)) ?_
                  show Go p e below _ (s₁.setTop (mkF m 55 #[.val (.int c0), .val (.int c1), .val (.int c2), .val (.int c3), .val (.int ch), .val (.int i)] []))
                  refine Go.via (fun _ => XS.iconst X0.here hx rfl (hb hby d19_55)) ?_
                  show Go p e below _ (s₁.setTop (mkF m 56 #[.val (.int c0), .val (.int c1), .val (.int c2), .val (.int c3), .val (.int ch), .val (.int i)] [(.int (-1 : Int32))]))
                  exact own_retI X0 hx hlk Bd.returns (hb hby d19_56) (by show QRef Z c0 c1 c2 c3 ch i h0 n0 _ s₁.heap _; rw [e0]; exact ⟨by simp [ix4, hc1, hc16, hc17, hc24, hc25, hc28, hc29, hc30], N0, rfl⟩) (by decide) (by decide)
theorem ef_rmIdx (m : MethodId) (x0 : Int32) : entryFrame m #[(.int x0)] 1 = mkF m 0 #[.val (.int x0)] [] := by first | (simp [entryFrame, mkF, argsToLocals, Value.category]; done) | rfl
def QIdx (Z : State) (p1 : Int32) (h0 : Heap) (n0 : Nat) (v : Option Value) (h : Heap) (L : List Loc) : Prop := ∃ i : Int32, v = some (.int i) ∧ Fr n0 L ∧ h = h0
set_option maxRecDepth 65536 in
set_option maxHeartbeats 40000000 in
theorem rmIdx (l : Launch) (Z : State) (a0 : Array Value) (hw : ∀ d ∈ tables_1, d.before a0 Z = true) (ws : List Jvm.Cond) (p1 : Int32) (h0 : Heap) (n0 : Nat) (Z0 : n0 ≤ h0.size) :
    MetFree l (⟨"com/example/dogwood/dogwood/model/yaml/OccurrencesFromPinLaw", "idx", "(I)I"⟩ : MethodName) (head1 (Jvm.Cond.code (⟨"com/example/dogwood/dogwood/model/yaml/OccurrencesFromPinLaw", "idx", "(I)I"⟩ : MethodName) method_2_code 1 (some .int) :: ws) ({ frames := 0, cells := 0, slots := 0, locals := 0 } : Room)) (fun a U => a = #[(.int p1)] ∧ Z.Warmed39 U.vm ∧ U.heap = h0) (fun _ _ _ _ _ => True) (fun _ U o U' => ∃ v L, o = .returned v ∧ QIdx Z p1 h0 n0 v U'.heap L ∧ FrameEnd U o U' L ({ frames := 0, cells := 0, slots := 0, locals := 0 } : Room).cells ({ frames := 0, cells := 0, slots := 0, locals := 0 } : Room).slots) := by
  refine MetFree.of_bodySF (plainFor_of_name pn_com_example_dogwood_dogwood_model_yaml_OccurrencesFromPinLaw) hisR ?_
  intro p e s m args below meth c s₁ Bd hml0 hP hK
  obtain ⟨rfl, hZ, hh⟩ := hP
  have hx := Bd.exec
  have hby := Bd.bytes
  have hlk : meth.locks = false := Bd.notSynchronized
  have hml : c.maxLocals = 1 := hml0
  have hown : s.vm.findClass "com/example/dogwood/dogwood/model/yaml/OccurrencesFromPinLaw" = some m.cls := findClass_of_methodNamed Bd.named
  have hnm := (name_of_methodNamed Bd.named Bd.method).1
  have X0 : Stand p l e ({ frames := 0, cells := 0, slots := 0, locals := 0 } : Room) s m #[(.int p1)] below meth c s₁ [] 0 0 := Stand.of_body Bd
  have e0 : s₁.heap = h0 := by rw [← hh, Bd.state]; rfl
  have N0 := Fr.nil n0
  show Go p e below (FinE s below (QIdx Z p1 h0 n0) ({ frames := 0, cells := 0, slots := 0, locals := 0 } : Room).cells ({ frames := 0, cells := 0, slots := 0, locals := 0 } : Room).slots) (s₁.setTop (entryFrame m #[(.int p1)] 1))
  refine Go.via (fun t k => castTop (ef_rmIdx m p1) k) ?_
  show Go p e below _ (s₁.setTop (mkF m 0 #[.val (.int p1)] []))
  refine Go.via (fun _ => XS.iloadN X0.here hx rfl (hb hby d8_0) rfl) ?_
  show Go p e below _ (s₁.setTop (mkF m 1 #[.val (.int p1)] [(.int p1)]))
  refine Go.via (fun _ => XS.bipush X0.here hx rfl (hb hby d8_1)) ?_
  show Go p e below _ (s₁.setTop (mkF m 3 #[.val (.int p1)] [(.int (8 : Int32)), (.int p1)]))
  refine Go.via (fun _ => XS.iand X0.here hx rfl (hb hby d8_3) rfl) ?_
  show Go p e below _ (s₁.setTop (mkF m 4 #[.val (.int p1)] [(.int (p1 &&& (8 : Int32)))]))
  by_cases hc1 : (p1 &&& (8 : Int32)) = (0 : Int32)
  · -- yes
    show Go p e below _ (s₁.setTop (mkF m 4 #[.val (.int p1)] [(.int (p1 &&& (8 : Int32)))]))
    show Go p e below _ (s₁.setTop (mkF m 4 #[.val (.int p1)] [(.int (p1 &&& (8 : Int32)))]))
    refine Go.via (fun _ => XS.ifYes X0.here hx rfl (pc0 := 4) (pc' := 9) rfl (hb hby d8_4) rfl ((if0 _ _).trans (teq hc1).1) (by decide) (by decide)) ?_
    show Go p e below _ (s₁.setTop (mkF m 9 #[.val (.int p1)] []))
    refine Go.via (fun _ => XS.iloadN X0.here hx rfl (hb hby d8_9) rfl) ?_
    show Go p e below _ (s₁.setTop (mkF m 10 #[.val (.int p1)] [(.int p1)]))
    refine Go.via (fun _ => XS.bipush X0.here hx rfl (hb hby d8_10)) ?_
    show Go p e below _ (s₁.setTop (mkF m 12 #[.val (.int p1)] [(.int (7 : Int32)), (.int p1)]))
    refine Go.via (fun _ => XS.iand X0.here hx rfl (hb hby d8_12) rfl) ?_
    show Go p e below _ (s₁.setTop (mkF m 13 #[.val (.int p1)] [(.int (p1 &&& (7 : Int32)))]))
    refine Go.via (fun _ => XS.iconst X0.here hx rfl (hb hby d8_13)) ?_
    show Go p e below _ (s₁.setTop (mkF m 14 #[.val (.int p1)] [(.int (2 : Int32)), (.int (p1 &&& (7 : Int32)))]))
    refine Go.via (fun _ => XS.isub X0.here hx rfl (hb hby d8_14) rfl) ?_
    show Go p e below _ (s₁.setTop (mkF m 15 #[.val (.int p1)] [(.int ((p1 &&& (7 : Int32)) - (2 : Int32)))]))
    exact own_retI X0 hx hlk Bd.returns (hb hby d8_15) (by show QIdx Z p1 h0 n0 _ s₁.heap _; rw [e0]; exact ⟨_, rfl, N0, rfl⟩) (by decide) (by decide)
  · -- no
    show Go p e below _ (s₁.setTop (mkF m 4 #[.val (.int p1)] [(.int (p1 &&& (8 : Int32)))]))
    show Go p e below _ (s₁.setTop (mkF m 4 #[.val (.int p1)] [(.int (p1 &&& (8 : Int32)))]))
    refine Go.via (fun _ => XS.ifNo X0.here hx rfl (hb hby d8_4) rfl ((if0 _ _).trans (feq hc1).1)) ?_
    show Go p e below _ (s₁.setTop (mkF m 7 #[.val (.int p1)] []))
    refine Go.via (fun _ => XS.iloadN X0.here hx rfl (hb hby d8_7) rfl) ?_
    show Go p e below _ (s₁.setTop (mkF m 8 #[.val (.int p1)] [(.int p1)]))
    exact own_retI X0 hx hlk Bd.returns (hb hby d8_8) (by show QIdx Z p1 h0 n0 _ s₁.heap _; rw [e0]; exact ⟨_, rfl, N0, rfl⟩) (by decide) (by decide)
theorem ef_rmOI (m : MethodId) (x0 : Addr) (x1 : Addr) (x2 : Int32) : entryFrame m #[(.ref x0), (.ref x1), (.int x2)] 3 = mkF m 0 #[.val (.ref x0), .val (.ref x1), .val (.int x2)] [] := by first | (simp [entryFrame, mkF, argsToLocals, Value.category]; done) | rfl
def QOI (Z : State) (o1 : Addr) (a1 : Addr) (ch : Int32) (h0 : Heap) (n0 : Nat) (v : Option Value) (h : Heap) (L : List Loc) : Prop := v = none ∧ Fr n0 L ∧ Keep h0 h [o1] ∧ Fld Z h o1 "com/example/dogwood/dogwood/model/yaml/Occurrences" "from" "I" (.int (2147483647 : Int32)) ∧ Fld Z h o1 "com/example/dogwood/dogwood/model/yaml/Occurrences" "found" "I" (.int (-1 : Int32)) ∧ Fld Z h o1 "com/example/dogwood/dogwood/model/yaml/Occurrences" "text" "Ljava/lang/String;" (.ref a1) ∧ Fld Z h o1 "com/example/dogwood/dogwood/model/yaml/Occurrences" "c" "C" (.int (nar .char ch))
set_option maxRecDepth 65536 in
set_option maxHeartbeats 40000000 in
theorem rmOI (l : Launch) (Z : State) (a0 : Array Value) (hw : ∀ d ∈ tables_1, d.before a0 Z = true) (ws : List Jvm.Cond) (o1 : Addr) (a1 : Addr) (ch : Int32) (h0 : Heap) (n0 : Nat) (Z0 : n0 ≤ h0.size) (E1 : Exa Z h0 o1 "com/example/dogwood/dogwood/model/yaml/Occurrences") (F_from : Fld Z h0 o1 "com/example/dogwood/dogwood/model/yaml/Occurrences" "from" "I" (.int (0 : Int32))) (F_found : Fld Z h0 o1 "com/example/dogwood/dogwood/model/yaml/Occurrences" "found" "I" (.int (0 : Int32))) (F_text : Fld Z h0 o1 "com/example/dogwood/dogwood/model/yaml/Occurrences" "text" "Ljava/lang/String;" .null) (F_c : Fld Z h0 o1 "com/example/dogwood/dogwood/model/yaml/Occurrences" "c" "C" (.int (0 : Int32))) (g1 : n0 ≤ o1) :
    MetFree l (⟨"com/example/dogwood/dogwood/model/yaml/Occurrences", "<init>", "(Ljava/lang/String;C)V"⟩ : MethodName) (head1 (Jvm.Cond.code (⟨"com/example/dogwood/dogwood/model/yaml/Occurrences", "<init>", "(Ljava/lang/String;C)V"⟩ : MethodName) prog_18_method_1_code 3 none :: ws) ({ frames := 1, cells := 0, slots := 0, locals := 12 } : Room)) (fun a U => a = #[(.ref o1), (.ref a1), (.int ch)] ∧ Z.Warmed39 U.vm ∧ U.heap = h0) (fun _ _ _ _ _ => True) (fun _ U o U' => ∃ v L, o = .returned v ∧ QOI Z o1 a1 ch h0 n0 v U'.heap L ∧ FrameEnd U o U' L ({ frames := 1, cells := 0, slots := 0, locals := 12 } : Room).cells ({ frames := 1, cells := 0, slots := 0, locals := 12 } : Room).slots) := by
  refine MetFree.of_bodySF (plainFor_of_name pn_com_example_dogwood_dogwood_model_yaml_Occurrences) hisR ?_
  intro p e s m args below meth c s₁ Bd hml0 hP hK
  obtain ⟨rfl, hZ, hh⟩ := hP
  have hx := Bd.exec
  have hby := Bd.bytes
  have hlk : meth.locks = false := Bd.notSynchronized
  have hml : c.maxLocals = 3 := hml0
  have hown : s.vm.findClass "com/example/dogwood/dogwood/model/yaml/Occurrences" = some m.cls := findClass_of_methodNamed Bd.named
  have hnm := (name_of_methodNamed Bd.named Bd.method).1
  have X0 : Stand p l e ({ frames := 1, cells := 0, slots := 0, locals := 12 } : Room) s m #[(.ref o1), (.ref a1), (.int ch)] below meth c s₁ [] 0 0 := Stand.of_body Bd
  have e0 : s₁.heap = h0 := by rw [← hh, Bd.state]; rfl
  have N0 := Fr.nil n0
  show Go p e below (FinE s below (QOI Z o1 a1 ch h0 n0) ({ frames := 1, cells := 0, slots := 0, locals := 12 } : Room).cells ({ frames := 1, cells := 0, slots := 0, locals := 12 } : Room).slots) (s₁.setTop (entryFrame m #[(.ref o1), (.ref a1), (.int ch)] 3))
  refine Go.via (fun t k => castTop (ef_rmOI m o1 a1 ch) k) ?_
  show Go p e below _ (s₁.setTop (mkF m 0 #[.val (.ref o1), .val (.ref a1), .val (.int ch)] []))
  refine Go.via (fun _ => XS.aloadN X0.here hx rfl (hb hby d7_0) rfl rfl) ?_
  show Go p e below _ (s₁.setTop (mkF m 1 #[.val (.ref o1), .val (.ref a1), .val (.int ch)] [(.ref o1)]))
  obtain ⟨T1, X1, e1, st1⟩ := initO X0 hx hZ hown (hw _ (List.mem_of_getElem? (i := 36) rfl)) (hw _ (List.mem_of_getElem? (i := 15) rfl)) (hw _ (List.mem_of_getElem? (i := 16) rfl)) e0 (g := (mkF m 1 #[.val (.ref o1), .val (.ref a1), .val (.int ch)] [(.ref o1)])) rfl (by rw [hml]; rfl) rfl (hb hby d7_1) (by decide) (W := 0) (by show 2 * 0 + _ ≤ _; exact Nat.le_of_eq rfl) (by decide)
  refine Go.via st1 ?_
  show Go p e below _ (T1.setTop (mkF m 4 #[.val (.ref o1), .val (.ref a1), .val (.int ch)] []))
  refine Go.via (fun _ => XS.aloadN X1.here hx rfl (hb hby d7_4) rfl rfl) ?_
  show Go p e below _ (T1.setTop (mkF m 5 #[.val (.ref o1), .val (.ref a1), .val (.int ch)] [(.ref o1)]))
  refine Go.via (X1.ldcInt hx hown (mvT hZ (hw _ (List.mem_of_getElem? (i := 37) rfl))) (g := (mkF m 5 #[.val (.ref o1), .val (.ref a1), .val (.int ch)] [(.ref o1)])) rfl (hb hby d7_5)) ?_
  show Go p e below _ (T1.setTop (mkF m 7 #[.val (.ref o1), .val (.ref a1), .val (.int ch)] [(.int (2147483647 : Int32)), (.ref o1)]))
  obtain ⟨T2, h2, X2, e2, W2, st2⟩ := putF X1 hx hZ hown (host := "") (Or.inl (hw _ (List.mem_of_getElem? (i := 38) rfl))) Via.refl e1 F_from E1 (Or.inl (hw _ (List.mem_of_getElem? (i := 39) rfl))) (hw _ (List.mem_of_getElem? (i := 1) rfl)) (ty := .int) (by decide) rfl rfl (g := (mkF m 7 #[.val (.ref o1), .val (.ref a1), .val (.int ch)] [(.int (2147483647 : Int32)), (.ref o1)])) rfl rfl (hb hby d7_7)
  refine Go.via st2 ?_
  have fF_o1_from_2 : Fld Z h2 o1 "com/example/dogwood/dogwood/model/yaml/Occurrences" "from" "I" (.int (2147483647 : Int32)) := F_from.same W2
  have Zs2 : n0 ≤ h2.size := Nat.le_trans Z0 (Keep.of_wr W2).1
  have K2 : Keep h0 h2 [o1] := (Keep.refl h0 [o1]).wr W2 (Or.inl (List.mem_of_getElem? (i := 0) rfl))
  have N2 := Fr.snoc X2 N0 g1
  have fE_o1_2 := E1.wr W2
  have fF_o1_found_2 := F_found.other W2 (Or.inr (slot_ne (Or.inl (hw _ (List.mem_of_getElem? (i := 41) rfl))) (Or.inl (hw _ (List.mem_of_getElem? (i := 39) rfl))) (by decide) (t := .int) (t' := .int) (by decide) (by decide)))
  have fF_o1_text_2 := F_text.other W2 (Or.inr (slot_ne (Or.inr (hw _ (List.mem_of_getElem? (i := 43) rfl))) (Or.inl (hw _ (List.mem_of_getElem? (i := 39) rfl))) (by decide) (t := (.object "java/lang/String")) (t' := .int) (by decide) (by decide)))
  have fF_o1_c_2 := F_c.other W2 (Or.inr (slot_ne (Or.inr (hw _ (List.mem_of_getElem? (i := 45) rfl))) (Or.inl (hw _ (List.mem_of_getElem? (i := 39) rfl))) (by decide) (t := .char) (t' := .int) (by decide) (by decide)))
  show Go p e below _ (T2.setTop (mkF m 10 #[.val (.ref o1), .val (.ref a1), .val (.int ch)] []))
  refine Go.via (fun _ => XS.aloadN X2.here hx rfl (hb hby d7_10) rfl rfl) ?_
  show Go p e below _ (T2.setTop (mkF m 11 #[.val (.ref o1), .val (.ref a1), .val (.int ch)] [(.ref o1)]))
  refine Go.via (fun _ => XS.iconst X2.here hx rfl (hb hby d7_11)) ?_
  show Go p e below _ (T2.setTop (mkF m 12 #[.val (.ref o1), .val (.ref a1), .val (.int ch)] [(.int (-1 : Int32)), (.ref o1)]))
  obtain ⟨T3, h3, X3, e3, W3, st3⟩ := putF X2 hx hZ hown (host := "") (Or.inl (hw _ (List.mem_of_getElem? (i := 40) rfl))) Via.refl e2 fF_o1_found_2 fE_o1_2 (Or.inl (hw _ (List.mem_of_getElem? (i := 41) rfl))) (hw _ (List.mem_of_getElem? (i := 1) rfl)) (ty := .int) (by decide) rfl rfl (g := (mkF m 12 #[.val (.ref o1), .val (.ref a1), .val (.int ch)] [(.int (-1 : Int32)), (.ref o1)])) rfl rfl (hb hby d7_12)
  refine Go.via st3 ?_
  have fF_o1_found_3 : Fld Z h3 o1 "com/example/dogwood/dogwood/model/yaml/Occurrences" "found" "I" (.int (-1 : Int32)) := fF_o1_found_2.same W3
  have Zs3 : n0 ≤ h3.size := Nat.le_trans Zs2 (Keep.of_wr W3).1
  have K3 : Keep h0 h3 [o1] := K2.wr W3 (Or.inl (List.mem_of_getElem? (i := 0) rfl))
  have N3 := Fr.snoc X3 N2 g1
  have fE_o1_3 := fE_o1_2.wr W3
  have fF_o1_from_3 := fF_o1_from_2.other W3 (Or.inr (slot_ne (Or.inl (hw _ (List.mem_of_getElem? (i := 39) rfl))) (Or.inl (hw _ (List.mem_of_getElem? (i := 41) rfl))) (by decide) (t := .int) (t' := .int) (by decide) (by decide)))
  have fF_o1_text_3 := fF_o1_text_2.other W3 (Or.inr (slot_ne (Or.inr (hw _ (List.mem_of_getElem? (i := 43) rfl))) (Or.inl (hw _ (List.mem_of_getElem? (i := 41) rfl))) (by decide) (t := (.object "java/lang/String")) (t' := .int) (by decide) (by decide)))
  have fF_o1_c_3 := fF_o1_c_2.other W3 (Or.inr (slot_ne (Or.inr (hw _ (List.mem_of_getElem? (i := 45) rfl))) (Or.inl (hw _ (List.mem_of_getElem? (i := 41) rfl))) (by decide) (t := .char) (t' := .int) (by decide) (by decide)))
  show Go p e below _ (T3.setTop (mkF m 15 #[.val (.ref o1), .val (.ref a1), .val (.int ch)] []))
  refine Go.via (fun _ => XS.aloadN X3.here hx rfl (hb hby d7_15) rfl rfl) ?_
  show Go p e below _ (T3.setTop (mkF m 16 #[.val (.ref o1), .val (.ref a1), .val (.int ch)] [(.ref o1)]))
  refine Go.via (fun _ => XS.aloadN X3.here hx rfl (hb hby d7_16) rfl rfl) ?_
  show Go p e below _ (T3.setTop (mkF m 17 #[.val (.ref o1), .val (.ref a1), .val (.int ch)] [(.ref a1), (.ref o1)]))
  obtain ⟨T4, h4, X4, e4, W4, st4⟩ := putF X3 hx hZ hown (host := "") (Or.inl (hw _ (List.mem_of_getElem? (i := 42) rfl))) Via.refl e3 fF_o1_text_3 fE_o1_3 (Or.inr ⟨(hw _ (List.mem_of_getElem? (i := 43) rfl)), rfl, hnm⟩) (hw _ (List.mem_of_getElem? (i := 1) rfl)) (ty := (.object "java/lang/String")) (by decide) rfl rfl (g := (mkF m 17 #[.val (.ref o1), .val (.ref a1), .val (.int ch)] [(.ref a1), (.ref o1)])) rfl rfl (hb hby d7_17)
  refine Go.via st4 ?_
  have fF_o1_text_4 : Fld Z h4 o1 "com/example/dogwood/dogwood/model/yaml/Occurrences" "text" "Ljava/lang/String;" (.ref a1) := fF_o1_text_3.same W4
  have Zs4 : n0 ≤ h4.size := Nat.le_trans Zs3 (Keep.of_wr W4).1
  have K4 : Keep h0 h4 [o1] := K3.wr W4 (Or.inl (List.mem_of_getElem? (i := 0) rfl))
  have N4 := Fr.snoc X4 N3 g1
  have fE_o1_4 := fE_o1_3.wr W4
  have fF_o1_from_4 := fF_o1_from_3.other W4 (Or.inr (slot_ne (Or.inl (hw _ (List.mem_of_getElem? (i := 39) rfl))) (Or.inr (hw _ (List.mem_of_getElem? (i := 43) rfl))) (by decide) (t := .int) (t' := (.object "java/lang/String")) (by decide) (by decide)))
  have fF_o1_found_4 := fF_o1_found_3.other W4 (Or.inr (slot_ne (Or.inl (hw _ (List.mem_of_getElem? (i := 41) rfl))) (Or.inr (hw _ (List.mem_of_getElem? (i := 43) rfl))) (by decide) (t := .int) (t' := (.object "java/lang/String")) (by decide) (by decide)))
  have fF_o1_c_4 := fF_o1_c_3.other W4 (Or.inr (slot_ne (Or.inr (hw _ (List.mem_of_getElem? (i := 45) rfl))) (Or.inr (hw _ (List.mem_of_getElem? (i := 43) rfl))) (by decide) (t := .char) (t' := (.object "java/lang/String")) (by decide) (by decide)))
  show Go p e below _ (T4.setTop (mkF m 20 #[.val (.ref o1), .val (.ref a1), .val (.int ch)] []))
  refine Go.via (fun _ => XS.aloadN X4.here hx rfl (hb hby d7_20) rfl rfl) ?_
  show Go p e below _ (T4.setTop (mkF m 21 #[.val (.ref o1), .val (.ref a1), .val (.int ch)] [(.ref o1)]))
  refine Go.via (fun _ => XS.iloadN X4.here hx rfl (hb hby d7_21) rfl) ?_
  show Go p e below _ (T4.setTop (mkF m 22 #[.val (.ref o1), .val (.ref a1), .val (.int ch)] [(.int ch), (.ref o1)]))
  obtain ⟨T5, h5, X5, e5, W5, st5⟩ := putFN X4 hx hZ hown (hw _ (List.mem_of_getElem? (i := 44) rfl)) Via.refl e4 fF_o1_c_4 fE_o1_4 (Or.inr ⟨(hw _ (List.mem_of_getElem? (i := 45) rfl)), rfl, hnm⟩) (hw _ (List.mem_of_getElem? (i := 1) rfl)) (ty := .char) (v' := .int (nar .char ch)) (by decide) rfl (fits_nar_char _) (g := (mkF m 22 #[.val (.ref o1), .val (.ref a1), .val (.int ch)] [(.int ch), (.ref o1)])) rfl rfl (hb hby d7_22)
  refine Go.via st5 ?_
  have fF_o1_c_5 : Fld Z h5 o1 "com/example/dogwood/dogwood/model/yaml/Occurrences" "c" "C" (.int (nar .char ch)) := fF_o1_c_4.same W5
  have Zs5 : n0 ≤ h5.size := Nat.le_trans Zs4 (Keep.of_wr W5).1
  have K5 : Keep h0 h5 [o1] := K4.wr W5 (Or.inl (List.mem_of_getElem? (i := 0) rfl))
  have N5 := Fr.snoc X5 N4 g1
  have fE_o1_5 := fE_o1_4.wr W5
  have fF_o1_from_5 := fF_o1_from_4.other W5 (Or.inr (slot_ne (Or.inl (hw _ (List.mem_of_getElem? (i := 39) rfl))) (Or.inr (hw _ (List.mem_of_getElem? (i := 45) rfl))) (by decide) (t := .int) (t' := .char) (by decide) (by decide)))
  have fF_o1_found_5 := fF_o1_found_4.other W5 (Or.inr (slot_ne (Or.inl (hw _ (List.mem_of_getElem? (i := 41) rfl))) (Or.inr (hw _ (List.mem_of_getElem? (i := 45) rfl))) (by decide) (t := .int) (t' := .char) (by decide) (by decide)))
  have fF_o1_text_5 := fF_o1_text_4.other W5 (Or.inr (slot_ne (Or.inr (hw _ (List.mem_of_getElem? (i := 43) rfl))) (Or.inr (hw _ (List.mem_of_getElem? (i := 45) rfl))) (by decide) (t := (.object "java/lang/String")) (t' := .char) (by decide) (by decide)))
  show Go p e below _ (T5.setTop (mkF m 25 #[.val (.ref o1), .val (.ref a1), .val (.int ch)] []))
  exact own_retV X5 hx hlk Bd.returns (hb hby d7_25) (by show QOI Z o1 a1 ch h0 n0 _ T5.heap _; rw [e5]; exact ⟨rfl, N5, K5, fF_o1_from_5, fF_o1_found_5, fF_o1_text_5, fF_o1_c_5⟩) (by decide) (by decide)
theorem ef_rmIsLat (m : MethodId) (x0 : Addr) : entryFrame m #[(.ref x0)] 1 = mkF m 0 #[.val (.ref x0)] [] := by first | (simp [entryFrame, mkF, argsToLocals, Value.category]; done) | rfl
def QIsLat (Z : State) (a1 : Addr) (ccs : Int32) (h0 : Heap) (n0 : Nat) (v : Option Value) (h : Heap) (L : List Loc) : Prop := v = some (.int (1 : Int32)) ∧ Fr n0 L ∧ h = h0
set_option maxRecDepth 65536 in
set_option maxHeartbeats 40000000 in
theorem rmIsLat (l : Launch) (Z : State) (a0 : Array Value) (hw : ∀ d ∈ tables_1, d.before a0 Z = true) (ws : List Jvm.Cond) (a1 : Addr) (ccs : Int32) (h0 : Heap) (n0 : Nat) (Z0 : n0 ≤ h0.size) (F2 : Fld Z h0 a1 "java/lang/String" "coder" "B" (.int (0 : Int32))) (O0 : Old Z n0 h0) (S_CS : Sta Z Z.heap "java/lang/String" "COMPACT_STRINGS" "Z" (.int ccs)) (hcs : ¬ (ccs = (0 : Int32))) :
    MetFree l (⟨"java/lang/String", "isLatin1", "()Z"⟩ : MethodName) (head1 (Jvm.Cond.code (⟨"java/lang/String", "isLatin1", "()Z"⟩ : MethodName) jdk_42_method_154_code 1 (some .boolean) :: ws) ({ frames := 0, cells := 0, slots := 0, locals := 0 } : Room)) (fun a U => a = #[(.ref a1)] ∧ Z.Warmed39 U.vm ∧ U.heap = h0) (fun _ _ _ _ _ => True) (fun _ U o U' => ∃ v L, o = .returned v ∧ QIsLat Z a1 ccs h0 n0 v U'.heap L ∧ FrameEnd U o U' L ({ frames := 0, cells := 0, slots := 0, locals := 0 } : Room).cells ({ frames := 0, cells := 0, slots := 0, locals := 0 } : Room).slots) := by
  refine MetFree.of_bodySF (plainFor_of_name pn_java_lang_String) hisR ?_
  intro p e s m args below meth c s₁ Bd hml0 hP hK
  obtain ⟨rfl, hZ, hh⟩ := hP
  have hx := Bd.exec
  have hby := Bd.bytes
  have hlk : meth.locks = false := Bd.notSynchronized
  have hml : c.maxLocals = 1 := hml0
  have hown : s.vm.findClass "java/lang/String" = some m.cls := findClass_of_methodNamed Bd.named
  have hnm := (name_of_methodNamed Bd.named Bd.method).1
  have X0 : Stand p l e ({ frames := 0, cells := 0, slots := 0, locals := 0 } : Room) s m #[(.ref a1)] below meth c s₁ [] 0 0 := Stand.of_body Bd
  have e0 : s₁.heap = h0 := by rw [← hh, Bd.state]; rfl
  have N0 := Fr.nil n0
  show Go p e below (FinE s below (QIsLat Z a1 ccs h0 n0) ({ frames := 0, cells := 0, slots := 0, locals := 0 } : Room).cells ({ frames := 0, cells := 0, slots := 0, locals := 0 } : Room).slots) (s₁.setTop (entryFrame m #[(.ref a1)] 1))
  refine Go.via (fun t k => castTop (ef_rmIsLat m a1) k) ?_
  show Go p e below _ (s₁.setTop (mkF m 0 #[.val (.ref a1)] []))
  obtain ⟨T1, X1, e1, st1⟩ := getS2 X0 hx hZ hown (host := "") (Or.inl (hw _ (List.mem_of_getElem? (i := 17) rfl))) Via.refl e0 (S_CS.ext O0.2) (g := (mkF m 0 #[.val (.ref a1)] [])) rfl (hb hby d11_0)
  refine Go.via st1 ?_
  show Go p e below _ (T1.setTop (mkF m 3 #[.val (.ref a1)] [(.int ccs)]))
  refine Go.via (fun _ => XS.ifNo X1.here hx rfl (hb hby d11_3) rfl ((if0 _ _).trans (feq hcs).1)) ?_
  show Go p e below _ (T1.setTop (mkF m 6 #[.val (.ref a1)] []))
  refine Go.via (fun _ => XS.aloadN X1.here hx rfl (hb hby d11_6) rfl rfl) ?_
  show Go p e below _ (T1.setTop (mkF m 7 #[.val (.ref a1)] [(.ref a1)]))
  obtain ⟨T2, X2, e2, st2⟩ := getF X1 hx hZ hown (host := "") (Or.inl (hw _ (List.mem_of_getElem? (i := 29) rfl))) Via.refl e1 F2 (g := (mkF m 7 #[.val (.ref a1)] [(.ref a1)])) rfl rfl (hb hby d11_7)
  refine Go.via st2 ?_
  show Go p e below _ (T2.setTop (mkF m 10 #[.val (.ref a1)] [(.int (0 : Int32))]))
  refine Go.via (fun _ => XS.ifNo X2.here hx rfl (hb hby d11_10) rfl (by decide)) ?_
  show Go p e below _ (T2.setTop (mkF m 13 #[.val (.ref a1)] []))
  refine Go.via (fun _ => XS.iconst X2.here hx rfl (hb hby d11_13)) ?_
  show Go p e below _ (T2.setTop (mkF m 14 #[.val (.ref a1)] [(.int (1 : Int32))]))
  refine Go.via (fun _ => XS.goto X2.here hx rfl (pc0 := 14) (pc' := 18) rfl (hb hby d11_14) (by decide) (by decide)) ?_
  show Go p e below _ (T2.setTop (mkF m 18 #[.val (.ref a1)] [(.int (1 : Int32))]))
  exact own_retN X2 hx hlk (t := .boolean) Bd.returns (by simp) (hb hby d11_18) (by show QIsLat Z a1 ccs h0 n0 _ T2.heap _; rw [e2]; exact ⟨rfl, N0, rfl⟩) (by decide) (by decide)
theorem ef_rmCoder (m : MethodId) (x0 : Addr) : entryFrame m #[(.ref x0)] 1 = mkF m 0 #[.val (.ref x0)] [] := by first | (simp [entryFrame, mkF, argsToLocals, Value.category]; done) | rfl
def QCoder (Z : State) (a1 : Addr) (ccs : Int32) (h0 : Heap) (n0 : Nat) (v : Option Value) (h : Heap) (L : List Loc) : Prop := v = some (.int (0 : Int32)) ∧ Fr n0 L ∧ h = h0
set_option maxRecDepth 65536 in
set_option maxHeartbeats 40000000 in
theorem rmCoder (l : Launch) (Z : State) (a0 : Array Value) (hw : ∀ d ∈ tables_1, d.before a0 Z = true) (ws : List Jvm.Cond) (a1 : Addr) (ccs : Int32) (h0 : Heap) (n0 : Nat) (Z0 : n0 ≤ h0.size) (F2 : Fld Z h0 a1 "java/lang/String" "coder" "B" (.int (0 : Int32))) (O0 : Old Z n0 h0) (S_CS : Sta Z Z.heap "java/lang/String" "COMPACT_STRINGS" "Z" (.int ccs)) (hcs : ¬ (ccs = (0 : Int32))) :
    MetFree l (⟨"java/lang/String", "coder", "()B"⟩ : MethodName) (head1 (Jvm.Cond.code (⟨"java/lang/String", "coder", "()B"⟩ : MethodName) jdk_42_method_152_code 1 (some .byte) :: ws) ({ frames := 0, cells := 0, slots := 0, locals := 0 } : Room)) (fun a U => a = #[(.ref a1)] ∧ Z.Warmed39 U.vm ∧ U.heap = h0) (fun _ _ _ _ _ => True) (fun _ U o U' => ∃ v L, o = .returned v ∧ QCoder Z a1 ccs h0 n0 v U'.heap L ∧ FrameEnd U o U' L ({ frames := 0, cells := 0, slots := 0, locals := 0 } : Room).cells ({ frames := 0, cells := 0, slots := 0, locals := 0 } : Room).slots) := by
  refine MetFree.of_bodySF (plainFor_of_name pn_java_lang_String) hisR ?_
  intro p e s m args below meth c s₁ Bd hml0 hP hK
  obtain ⟨rfl, hZ, hh⟩ := hP
  have hx := Bd.exec
  have hby := Bd.bytes
  have hlk : meth.locks = false := Bd.notSynchronized
  have hml : c.maxLocals = 1 := hml0
  have hown : s.vm.findClass "java/lang/String" = some m.cls := findClass_of_methodNamed Bd.named
  have hnm := (name_of_methodNamed Bd.named Bd.method).1
  have X0 : Stand p l e ({ frames := 0, cells := 0, slots := 0, locals := 0 } : Room) s m #[(.ref a1)] below meth c s₁ [] 0 0 := Stand.of_body Bd
  have e0 : s₁.heap = h0 := by rw [← hh, Bd.state]; rfl
  have N0 := Fr.nil n0
  show Go p e below (FinE s below (QCoder Z a1 ccs h0 n0) ({ frames := 0, cells := 0, slots := 0, locals := 0 } : Room).cells ({ frames := 0, cells := 0, slots := 0, locals := 0 } : Room).slots) (s₁.setTop (entryFrame m #[(.ref a1)] 1))
  refine Go.via (fun t k => castTop (ef_rmCoder m a1) k) ?_
  show Go p e below _ (s₁.setTop (mkF m 0 #[.val (.ref a1)] []))
  obtain ⟨T1, X1, e1, st1⟩ := getS2 X0 hx hZ hown (host := "") (Or.inl (hw _ (List.mem_of_getElem? (i := 17) rfl))) Via.refl e0 (S_CS.ext O0.2) (g := (mkF m 0 #[.val (.ref a1)] [])) rfl (hb hby d13_0)
  refine Go.via st1 ?_
  show Go p e below _ (T1.setTop (mkF m 3 #[.val (.ref a1)] [(.int ccs)]))
  refine Go.via (fun _ => XS.ifNo X1.here hx rfl (hb hby d13_3) rfl ((if0 _ _).trans (feq hcs).1)) ?_
  show Go p e below _ (T1.setTop (mkF m 6 #[.val (.ref a1)] []))
  refine Go.via (fun _ => XS.aloadN X1.here hx rfl (hb hby d13_6) rfl rfl) ?_
  show Go p e below _ (T1.setTop (mkF m 7 #[.val (.ref a1)] [(.ref a1)]))
  obtain ⟨T2, X2, e2, st2⟩ := getF X1 hx hZ hown (host := "") (Or.inl (hw _ (List.mem_of_getElem? (i := 29) rfl))) Via.refl e1 F2 (g := (mkF m 7 #[.val (.ref a1)] [(.ref a1)])) rfl rfl (hb hby d13_7)
  refine Go.via st2 ?_
  show Go p e below _ (T2.setTop (mkF m 10 #[.val (.ref a1)] [(.int (0 : Int32))]))
  refine Go.via (fun _ => XS.goto X2.here hx rfl (pc0 := 10) (pc' := 14) rfl (hb hby d13_10) (by decide) (by decide)) ?_
  show Go p e below _ (T2.setTop (mkF m 14 #[.val (.ref a1)] [(.int (0 : Int32))]))
  exact own_retN X2 hx hlk (t := .byte) Bd.returns (by simp) (hb hby d13_14) (by show QCoder Z a1 ccs h0 n0 _ T2.heap _; rw [e2]; exact ⟨rfl, N0, rfl⟩) (by decide) (by decide)
theorem ef_rmLen_4 (m : MethodId) (x0 : Addr) : entryFrame m #[(.ref x0)] 1 = mkF m 0 #[.val (.ref x0)] [] := by first | (simp [entryFrame, mkF, argsToLocals, Value.category]; done) | rfl
def QLen_4 (Z : State) (a1 : Addr) (t1 : Addr) (kb : ClassId) (vs : List Value) (ccs : Int32) (h0 : Heap) (n0 : Nat) (v : Option Value) (h : Heap) (L : List Loc) : Prop := v = some (.int (4 : Int32)) ∧ Fr n0 L ∧ h = h0
set_option maxRecDepth 65536 in
set_option maxHeartbeats 40000000 in
theorem rmLen_4 (l : Launch) (Z : State) (a0 : Array Value) (hw : ∀ d ∈ tables_1, d.before a0 Z = true) (ws : List Jvm.Cond) (a1 : Addr) (t1 : Addr) (kb : ClassId) (vs : List Value) (ccs : Int32) (h0 : Heap) (n0 : Nat) (Z0 : n0 ≤ h0.size) (E1 : Exa Z h0 a1 "java/lang/String") (F1 : Fld Z h0 a1 "java/lang/String" "value" "[B" (.ref t1)) (F2 : Fld Z h0 a1 "java/lang/String" "coder" "B" (.int (0 : Int32))) (V2 : Arv Z h0 t1 kb .byte (4 : Int32) vs (.int (0 : Int32))) (O0 : Old Z n0 h0) (S_CS : Sta Z Z.heap "java/lang/String" "COMPACT_STRINGS" "Z" (.int ccs)) (hcs : ¬ (ccs = (0 : Int32))) :
    MetFree l (⟨"java/lang/String", "length", "()I"⟩ : MethodName) (head1 (Jvm.Cond.code (⟨"java/lang/String", "length", "()I"⟩ : MethodName) jdk_42_method_54_code 1 (some .int) :: ws) ({ frames := 1, cells := 0, slots := 0, locals := 13 } : Room)) (fun a U => a = #[(.ref a1)] ∧ Z.Warmed39 U.vm ∧ U.heap = h0) (fun _ _ _ _ _ => True) (fun _ U o U' => ∃ v L, o = .returned v ∧ QLen_4 Z a1 t1 kb vs ccs h0 n0 v U'.heap L ∧ FrameEnd U o U' L ({ frames := 1, cells := 0, slots := 0, locals := 13 } : Room).cells ({ frames := 1, cells := 0, slots := 0, locals := 13 } : Room).slots) := by
  refine MetFree.of_bodySF (plainFor_of_name pn_java_lang_String) hisR ?_
  intro p e s m args below meth c s₁ Bd hml0 hP hK
  obtain ⟨rfl, hZ, hh⟩ := hP
  have hx := Bd.exec
  have hby := Bd.bytes
  have hlk : meth.locks = false := Bd.notSynchronized
  have hml : c.maxLocals = 1 := hml0
  have hown : s.vm.findClass "java/lang/String" = some m.cls := findClass_of_methodNamed Bd.named
  have hnm := (name_of_methodNamed Bd.named Bd.method).1
  have X0 : Stand p l e ({ frames := 1, cells := 0, slots := 0, locals := 13 } : Room) s m #[(.ref a1)] below meth c s₁ [] 0 0 := Stand.of_body Bd
  have e0 : s₁.heap = h0 := by rw [← hh, Bd.state]; rfl
  have N0 := Fr.nil n0
  show Go p e below (FinE s below (QLen_4 Z a1 t1 kb vs ccs h0 n0) ({ frames := 1, cells := 0, slots := 0, locals := 13 } : Room).cells ({ frames := 1, cells := 0, slots := 0, locals := 13 } : Room).slots) (s₁.setTop (entryFrame m #[(.ref a1)] 1))
  refine Go.via (fun t k => castTop (ef_rmLen_4 m a1) k) ?_
  show Go p e below _ (s₁.setTop (mkF m 0 #[.val (.ref a1)] []))
  refine Go.via (fun _ => XS.aloadN X0.here hx rfl (hb hby d12_0) rfl rfl) ?_
  show Go p e below _ (s₁.setTop (mkF m 1 #[.val (.ref a1)] [(.ref a1)]))
  obtain ⟨T1, X1, e1, st1⟩ := getF X0 hx hZ hown (host := "") (Or.inl (hw _ (List.mem_of_getElem? (i := 31) rfl))) Via.refl e0 F1 (g := (mkF m 1 #[.val (.ref a1)] [(.ref a1)])) rfl rfl (hb hby d12_1)
  refine Go.via st1 ?_
  show Go p e below _ (T1.setTop (mkF m 4 #[.val (.ref a1)] [(.ref t1)]))
  obtain ⟨cl2, Ar2, -, S2, N2n, -, -⟩ := id V2
  have al2 := X1.arraylength hx (by rw [e1]; exact Ar2.1) (State.isArrayOf_alike hZ.alike Ar2.2.1) (g := (mkF m 4 #[.val (.ref a1)] [(.ref t1)])) rfl rfl (hb hby d12_4)
  rw [len_of S2 N2n] at al2
  refine Go.via al2 ?_
  show Go p e below _ (T1.setTop (mkF m 5 #[.val (.ref a1)] [(.int (4 : Int32))]))
  refine Go.via (fun _ => XS.aloadN X1.here hx rfl (hb hby d12_5) rfl rfl) ?_
  show Go p e below _ (T1.setTop (mkF m 6 #[.val (.ref a1)] [(.ref a1), (.int (4 : Int32))]))
  obtain ⟨cq3, kq3, q3a, q3b, q3c⟩ := isOf hZ e1 E1
  obtain ⟨_, _, ⟨T3, L3, k3, n3⟩, -, X3, ⟨Lc3, hQ3, l3, y3, z3⟩, st3⟩ := X1.virtualBack hx (y := (⟨"java/lang/String", "coder", "()B"⟩ : MethodName)) (z := (⟨"java/lang/String", "coder", "()B"⟩ : MethodName)) hown (mvT hZ (hw _ (List.mem_of_getElem? (i := 70) rfl))) (mvT hZ (hw _ (List.mem_of_getElem? (i := 71) rfl))) (notFace_of_selects (args := #[]) (mvT hZ (hw _ (List.mem_of_getElem? (i := 73) rfl)))) (mvT hZ (hw _ (List.mem_of_getElem? (i := 73) rfl))) (mvT hZ (hw _ (List.mem_of_getElem? (i := 72) rfl))) (by decide) (backOf (W := 1) (rmCoder l Z a0 hw [] a1 ccs h0 n0 Z0 F2 O0 S_CS hcs) hZ (hw _ (List.mem_of_getElem? (i := 74) rfl)) (hw _ (List.mem_of_getElem? (i := 5) rfl)) (by decide) (by decide)) q3a q3c (g := (mkF m 6 #[.val (.ref a1)] [(.ref a1), (.int (4 : Int32))])) rfl (by rw [hml]; rfl) (Steps.refl _) (argsL := []) (rest := [(.int (4 : Int32))]) (lenOf pd_0 rfl) rfl (by show 2 * 0 + _ ≤ _; exact Nat.le_of_eq rfl) (hb hby d12_6) (fun _ _ => ⟨rfl, e1, (by decide : 0 + 0 ≤ _), (by decide : 0 + 0 ≤ _)⟩)
  dsimp only [Pt.U, Pt.locs, Pt.cells, Pt.slots] at X3 l3 y3 z3 st3 hQ3
  subst l3 y3 z3
  obtain ⟨rfl, N3q, e3q⟩ := hQ3
  have N3 := Fr.app N0 N3q
  refine Go.tr st3 ?_
  show Go p e below _ (T3.setTop (mkF m 9 #[.val (.ref a1)] [(.int (0 : Int32)), (.int (4 : Int32))]))
  refine Go.via (fun _ => XS.ishr X3.here hx rfl (hb hby d12_9) rfl) ?_
  show Go p e below _ (T3.setTop (mkF m 10 #[.val (.ref a1)] [(.int (4 : Int32))]))
  exact own_retI X3 hx hlk Bd.returns (hb hby d12_10) (by show QLen_4 Z a1 t1 kb vs ccs h0 n0 _ T3.heap _; rw [e3q]; exact ⟨rfl, N3, rfl⟩) (by decide) (by decide)
def QIx4 (Z : State) (c0 : Int32) (c1 : Int32) (c2 : Int32) (c3 : Int32) (ch : Int32) (i : Int32) (h0 : Heap) (n0 : Nat) (v : Option Value) (h : Heap) (L : List Loc) : Prop := v = some (.int (ix4 c0 c1 c2 c3 ch i)) ∧ Fr n0 L ∧ h = h0
theorem ef_rmCanI (m : MethodId) (x0 : Int32) : entryFrame m #[(.int x0)] 1 = mkF m 0 #[.val (.int x0)] [] := by first | (simp [entryFrame, mkF, argsToLocals, Value.category]; done) | rfl
def QCanI (Z : State) (ch : Int32) (h0 : Heap) (n0 : Nat) (v : Option Value) (h : Heap) (L : List Loc) : Prop := v = some (.int (1 : Int32)) ∧ Fr n0 L ∧ h = h0
set_option maxRecDepth 65536 in
set_option maxHeartbeats 40000000 in
theorem rmCanI (l : Launch) (Z : State) (a0 : Array Value) (hw : ∀ d ∈ tables_1, d.before a0 Z = true) (ws : List Jvm.Cond) (ch : Int32) (h0 : Heap) (n0 : Nat) (Z0 : n0 ≤ h0.size) (hc0 : ¬ (ch < (0 : Int32))) (hc1 : ¬ ((255 : Int32) < ch)) :
    MetFree l (⟨"java/lang/StringLatin1", "canEncode", "(I)Z"⟩ : MethodName) (head1 (Jvm.Cond.code (⟨"java/lang/StringLatin1", "canEncode", "(I)Z"⟩ : MethodName) jdk_43_method_4_code 1 (some .boolean) :: ws) ({ frames := 0, cells := 0, slots := 0, locals := 0 } : Room)) (fun a U => a = #[(.int ch)] ∧ Z.Warmed39 U.vm ∧ U.heap = h0) (fun _ _ _ _ _ => True) (fun _ U o U' => ∃ v L, o = .returned v ∧ QCanI Z ch h0 n0 v U'.heap L ∧ FrameEnd U o U' L ({ frames := 0, cells := 0, slots := 0, locals := 0 } : Room).cells ({ frames := 0, cells := 0, slots := 0, locals := 0 } : Room).slots) := by
  refine MetFree.of_bodySF (plainFor_of_name pn_java_lang_StringLatin1) hisR ?_
  intro p e s m args below meth c s₁ Bd hml0 hP hK
  obtain ⟨rfl, hZ, hh⟩ := hP
  have hx := Bd.exec
  have hby := Bd.bytes
  have hlk : meth.locks = false := Bd.notSynchronized
  have hml : c.maxLocals = 1 := hml0
  have hown : s.vm.findClass "java/lang/StringLatin1" = some m.cls := findClass_of_methodNamed Bd.named
  have hnm := (name_of_methodNamed Bd.named Bd.method).1
  have X0 : Stand p l e ({ frames := 0, cells := 0, slots := 0, locals := 0 } : Room) s m #[(.int ch)] below meth c s₁ [] 0 0 := Stand.of_body Bd
  have e0 : s₁.heap = h0 := by rw [← hh, Bd.state]; rfl
  have N0 := Fr.nil n0
  show Go p e below (FinE s below (QCanI Z ch h0 n0) ({ frames := 0, cells := 0, slots := 0, locals := 0 } : Room).cells ({ frames := 0, cells := 0, slots := 0, locals := 0 } : Room).slots) (s₁.setTop (entryFrame m #[(.int ch)] 1))
  refine Go.via (fun t k => castTop (ef_rmCanI m ch) k) ?_
  show Go p e below _ (s₁.setTop (mkF m 0 #[.val (.int ch)] []))
  refine Go.via (fun _ => XS.iloadN X0.here hx rfl (hb hby d15_0) rfl) ?_
  show Go p e below _ (s₁.setTop (mkF m 1 #[.val (.int ch)] [(.int ch)]))
  refine Go.via (fun _ => XS.ifNo X0.here hx rfl (hb hby d15_1) rfl ((if0 _ _).trans (flt hc0).1)) ?_
  show Go p e below _ (s₁.setTop (mkF m 4 #[.val (.int ch)] []))
  refine Go.via (fun _ => XS.iloadN X0.here hx rfl (hb hby d15_4) rfl) ?_
  show Go p e below _ (s₁.setTop (mkF m 5 #[.val (.int ch)] [(.int ch)]))
  refine Go.via (fun _ => XS.sipush X0.here hx rfl (hb hby d15_5)) ?_
  show Go p e below _ (s₁.setTop (mkF m 8 #[.val (.int ch)] [(.int (255 : Int32)), (.int ch)]))
  refine Go.via (fun _ => XS.icmpNo X0.here hx rfl (hb hby d15_8) rfl (flt hc1).2.2.1) ?_
  show Go p e below _ (s₁.setTop (mkF m 11 #[.val (.int ch)] []))
  refine Go.via (fun _ => XS.iconst X0.here hx rfl (hb hby d15_11)) ?_
  show Go p e below _ (s₁.setTop (mkF m 12 #[.val (.int ch)] [(.int (1 : Int32))]))
  refine Go.via (fun _ => XS.goto X0.here hx rfl (pc0 := 12) (pc' := 16) rfl (hb hby d15_12) (by decide) (by decide)) ?_
  show Go p e below _ (s₁.setTop (mkF m 16 #[.val (.int ch)] [(.int (1 : Int32))]))
  exact own_retN X0 hx hlk (t := .boolean) Bd.returns (by simp) (hb hby d15_16) (by show QCanI Z ch h0 n0 _ s₁.heap _; rw [e0]; exact ⟨rfl, N0, rfl⟩) (by decide) (by decide)
theorem ef_rm_max_2 (m : MethodId) (x0 : Int32) (x1 : Int32) : entryFrame m #[(.int x0), (.int x1)] 2 = mkF m 0 #[.val (.int x0), .val (.int x1)] [] := by first | (simp [entryFrame, mkF, argsToLocals, Value.category]; done) | rfl
def Q_max_2 (Z : State) (p1 : Int32) (p2 : Int32) (h0 : Heap) (n0 : Nat) (v : Option Value) (h : Heap) (L : List Loc) : Prop := v = some (.int p2) ∧ Fr n0 L ∧ h = h0
set_option maxRecDepth 65536 in
set_option maxHeartbeats 40000000 in
theorem rm_max_2 (l : Launch) (Z : State) (a0 : Array Value) (hw : ∀ d ∈ tables_1, d.before a0 Z = true) (ws : List Jvm.Cond) (p1 : Int32) (p2 : Int32) (h0 : Heap) (n0 : Nat) (Z0 : n0 ≤ h0.size) (hm : p1 < p2) :
    MetFree l (⟨"java/lang/Math", "max", "(II)I"⟩ : MethodName) (head1 (Jvm.Cond.code (⟨"java/lang/Math", "max", "(II)I"⟩ : MethodName) jdk_29_method_65_code 2 (some .int) :: ws) ({ frames := 0, cells := 0, slots := 0, locals := 0 } : Room)) (fun a U => a = #[(.int p1), (.int p2)] ∧ Z.Warmed39 U.vm ∧ U.heap = h0) (fun _ _ _ _ _ => True) (fun _ U o U' => ∃ v L, o = .returned v ∧ Q_max_2 Z p1 p2 h0 n0 v U'.heap L ∧ FrameEnd U o U' L ({ frames := 0, cells := 0, slots := 0, locals := 0 } : Room).cells ({ frames := 0, cells := 0, slots := 0, locals := 0 } : Room).slots) := by
  refine MetFree.of_bodySF (Jvm.Free.JP.mathPlain rfl (by decide +kernel)) hisR ?_
  intro p e s m args below meth c s₁ Bd hml0 hP hK
  obtain ⟨rfl, hZ, hh⟩ := hP
  have hx := Bd.exec
  have hby := Bd.bytes
  have hlk : meth.locks = false := Bd.notSynchronized
  have hml : c.maxLocals = 2 := hml0
  have hown : s.vm.findClass "java/lang/Math" = some m.cls := findClass_of_methodNamed Bd.named
  have hnm := (name_of_methodNamed Bd.named Bd.method).1
  have X0 : Stand p l e ({ frames := 0, cells := 0, slots := 0, locals := 0 } : Room) s m #[(.int p1), (.int p2)] below meth c s₁ [] 0 0 := Stand.of_body Bd
  have e0 : s₁.heap = h0 := by rw [← hh, Bd.state]; rfl
  have N0 := Fr.nil n0
  show Go p e below (FinE s below (Q_max_2 Z p1 p2 h0 n0) ({ frames := 0, cells := 0, slots := 0, locals := 0 } : Room).cells ({ frames := 0, cells := 0, slots := 0, locals := 0 } : Room).slots) (s₁.setTop (entryFrame m #[(.int p1), (.int p2)] 2))
  refine Go.via (fun t k => castTop (ef_rm_max_2 m p1 p2) k) ?_
  show Go p e below _ (s₁.setTop (mkF m 0 #[.val (.int p1), .val (.int p2)] []))
  refine Go.via (fun _ => XS.iloadN X0.here hx rfl (hb hby d16_0) rfl) ?_
  show Go p e below _ (s₁.setTop (mkF m 1 #[.val (.int p1), .val (.int p2)] [(.int p1)]))
  refine Go.via (fun _ => XS.iloadN X0.here hx rfl (hb hby d16_1) rfl) ?_
  show Go p e below _ (s₁.setTop (mkF m 2 #[.val (.int p1), .val (.int p2)] [(.int p2), (.int p1)]))
  refine Go.via (fun _ => XS.icmpYes X0.here hx rfl (pc0 := 2) (pc' := 9) rfl (hb hby d16_2) rfl (tlt hm).1 (by decide) (by decide)) ?_
  show Go p e below _ (s₁.setTop (mkF m 9 #[.val (.int p1), .val (.int p2)] []))
  refine Go.via (fun _ => XS.iloadN X0.here hx rfl (hb hby d16_9) rfl) ?_
  show Go p e below _ (s₁.setTop (mkF m 10 #[.val (.int p1), .val (.int p2)] [(.int p2)]))
  exact own_retI X0 hx hlk Bd.returns (hb hby d16_10) (by show Q_max_2 Z p1 p2 h0 n0 _ s₁.heap _; rw [e0]; exact ⟨rfl, N0, rfl⟩) (by decide) (by decide)
theorem ef_rm_min_1 (m : MethodId) (x0 : Int32) (x1 : Int32) : entryFrame m #[(.int x0), (.int x1)] 2 = mkF m 0 #[.val (.int x0), .val (.int x1)] [] := by first | (simp [entryFrame, mkF, argsToLocals, Value.category]; done) | rfl
def Q_min_1 (Z : State) (p1 : Int32) (p2 : Int32) (h0 : Heap) (n0 : Nat) (v : Option Value) (h : Heap) (L : List Loc) : Prop := v = some (.int p1) ∧ Fr n0 L ∧ h = h0
set_option maxRecDepth 65536 in
set_option maxHeartbeats 40000000 in
theorem rm_min_1 (l : Launch) (Z : State) (a0 : Array Value) (hw : ∀ d ∈ tables_1, d.before a0 Z = true) (ws : List Jvm.Cond) (p1 : Int32) (p2 : Int32) (h0 : Heap) (n0 : Nat) (Z0 : n0 ≤ h0.size) (hm : ¬ (p2 < p1)) :
    MetFree l (⟨"java/lang/Math", "min", "(II)I"⟩ : MethodName) (head1 (Jvm.Cond.code (⟨"java/lang/Math", "min", "(II)I"⟩ : MethodName) jdk_29_method_69_code 2 (some .int) :: ws) ({ frames := 0, cells := 0, slots := 0, locals := 0 } : Room)) (fun a U => a = #[(.int p1), (.int p2)] ∧ Z.Warmed39 U.vm ∧ U.heap = h0) (fun _ _ _ _ _ => True) (fun _ U o U' => ∃ v L, o = .returned v ∧ Q_min_1 Z p1 p2 h0 n0 v U'.heap L ∧ FrameEnd U o U' L ({ frames := 0, cells := 0, slots := 0, locals := 0 } : Room).cells ({ frames := 0, cells := 0, slots := 0, locals := 0 } : Room).slots) := by
  refine MetFree.of_bodySF (Jvm.Free.JP.mathPlain rfl (by decide +kernel)) hisR ?_
  intro p e s m args below meth c s₁ Bd hml0 hP hK
  obtain ⟨rfl, hZ, hh⟩ := hP
  have hx := Bd.exec
  have hby := Bd.bytes
  have hlk : meth.locks = false := Bd.notSynchronized
  have hml : c.maxLocals = 2 := hml0
  have hown : s.vm.findClass "java/lang/Math" = some m.cls := findClass_of_methodNamed Bd.named
  have hnm := (name_of_methodNamed Bd.named Bd.method).1
  have X0 : Stand p l e ({ frames := 0, cells := 0, slots := 0, locals := 0 } : Room) s m #[(.int p1), (.int p2)] below meth c s₁ [] 0 0 := Stand.of_body Bd
  have e0 : s₁.heap = h0 := by rw [← hh, Bd.state]; rfl
  have N0 := Fr.nil n0
  show Go p e below (FinE s below (Q_min_1 Z p1 p2 h0 n0) ({ frames := 0, cells := 0, slots := 0, locals := 0 } : Room).cells ({ frames := 0, cells := 0, slots := 0, locals := 0 } : Room).slots) (s₁.setTop (entryFrame m #[(.int p1), (.int p2)] 2))
  refine Go.via (fun t k => castTop (ef_rm_min_1 m p1 p2) k) ?_
  show Go p e below _ (s₁.setTop (mkF m 0 #[.val (.int p1), .val (.int p2)] []))
  refine Go.via (fun _ => XS.iloadN X0.here hx rfl (hb hby d17_0) rfl) ?_
  show Go p e below _ (s₁.setTop (mkF m 1 #[.val (.int p1), .val (.int p2)] [(.int p1)]))
  refine Go.via (fun _ => XS.iloadN X0.here hx rfl (hb hby d17_1) rfl) ?_
  show Go p e below _ (s₁.setTop (mkF m 2 #[.val (.int p1), .val (.int p2)] [(.int p2), (.int p1)]))
  refine Go.via (fun _ => XS.icmpNo X0.here hx rfl (hb hby d17_2) rfl (flt hm).2.2.1) ?_
  show Go p e below _ (s₁.setTop (mkF m 5 #[.val (.int p1), .val (.int p2)] []))
  refine Go.via (fun _ => XS.iloadN X0.here hx rfl (hb hby d17_5) rfl) ?_
  show Go p e below _ (s₁.setTop (mkF m 6 #[.val (.int p1), .val (.int p2)] [(.int p1)]))
  refine Go.via (fun _ => XS.goto X0.here hx rfl (pc0 := 6) (pc' := 10) rfl (hb hby d17_6) (by decide) (by decide)) ?_
  show Go p e below _ (s₁.setTop (mkF m 10 #[.val (.int p1), .val (.int p2)] [(.int p1)]))
  exact own_retI X0 hx hlk Bd.returns (hb hby d17_10) (by show Q_min_1 Z p1 p2 h0 n0 _ s₁.heap _; rw [e0]; exact ⟨rfl, N0, rfl⟩) (by decide) (by decide)
theorem ef_rmIxC_4_0 (m : MethodId) (x0 : Addr) (x1 : Int32) : entryFrame m #[(.ref x0), (.int x1), (.int (0 : Int32)), (.int (4 : Int32))] 6 = mkF m 0 #[.val (.ref x0), .val (.int x1), .val (.int (0 : Int32)), .val (.int (4 : Int32)), .unset, .unset] [] := by first | (simp [entryFrame, mkF, argsToLocals, Value.category]; done) | rfl
def QIxC_4_0 (Z : State) (t1 : Addr) (kb : ClassId) (c0 : Int32) (c1 : Int32) (c2 : Int32) (c3 : Int32) (ch : Int32) (h0 : Heap) (n0 : Nat) (v : Option Value) (h : Heap) (L : List Loc) : Prop := v = some (.int (ix4 c0 c1 c2 c3 ch (0 : Int32))) ∧ Fr n0 L ∧ h = h0
set_option maxRecDepth 65536 in
set_option maxHeartbeats 40000000 in
theorem rmIxC_4_0 (l : Launch) (Z : State) (a0 : Array Value) (hw : ∀ d ∈ tables_1, d.before a0 Z = true) (ws : List Jvm.Cond) (t1 : Addr) (kb : ClassId) (c0 : Int32) (c1 : Int32) (c2 : Int32) (c3 : Int32) (ch : Int32) (h0 : Heap) (n0 : Nat) (Z0 : n0 ≤ h0.size) (V2 : Arv Z h0 t1 kb .byte (4 : Int32) [(.int (nar .byte (c0.toInt8.toInt32))), (.int (nar .byte (c1.toInt8.toInt32))), (.int (nar .byte (c2.toInt8.toInt32))), (.int (nar .byte (c3.toInt8.toInt32)))] (.int (0 : Int32))) (qe0 : (nar .byte (c0.toInt8.toInt32) = ch.toInt8.toInt32) ↔ c0 = ch) (qe1 : (nar .byte (c1.toInt8.toInt32) = ch.toInt8.toInt32) ↔ c1 = ch) (qe2 : (nar .byte (c2.toInt8.toInt32) = ch.toInt8.toInt32) ↔ c2 = ch) (qe3 : (nar .byte (c3.toInt8.toInt32) = ch.toInt8.toInt32) ↔ c3 = ch) :
    MetFree l (⟨"java/lang/StringLatin1", "indexOfChar", "([BIII)I"⟩ : MethodName) (head1 (Jvm.Cond.code (⟨"java/lang/StringLatin1", "indexOfChar", "([BIII)I"⟩ : MethodName) jdk_43_method_23_code 6 (some .int) :: ws) ({ frames := 0, cells := 0, slots := 0, locals := 0 } : Room)) (fun a U => a = #[(.ref t1), (.int ch), (.int (0 : Int32)), (.int (4 : Int32))] ∧ Z.Warmed39 U.vm ∧ U.heap = h0) (fun _ _ _ _ _ => True) (fun _ U o U' => ∃ v L, o = .returned v ∧ QIxC_4_0 Z t1 kb c0 c1 c2 c3 ch h0 n0 v U'.heap L ∧ FrameEnd U o U' L ({ frames := 0, cells := 0, slots := 0, locals := 0 } : Room).cells ({ frames := 0, cells := 0, slots := 0, locals := 0 } : Room).slots) := by
  refine MetFree.of_bodySF (plainFor_of_name pn_java_lang_StringLatin1) hisR ?_
  intro p e s m args below meth c s₁ Bd hml0 hP hK
  obtain ⟨rfl, hZ, hh⟩ := hP
  have hx := Bd.exec
  have hby := Bd.bytes
  have hlk : meth.locks = false := Bd.notSynchronized
  have hml : c.maxLocals = 6 := hml0
  have hown : s.vm.findClass "java/lang/StringLatin1" = some m.cls := findClass_of_methodNamed Bd.named
  have hnm := (name_of_methodNamed Bd.named Bd.method).1
  have X0 : Stand p l e ({ frames := 0, cells := 0, slots := 0, locals := 0 } : Room) s m #[(.ref t1), (.int ch), (.int (0 : Int32)), (.int (4 : Int32))] below meth c s₁ [] 0 0 := Stand.of_body Bd
  have e0 : s₁.heap = h0 := by rw [← hh, Bd.state]; rfl
  have N0 := Fr.nil n0
  show Go p e below (FinE s below (QIxC_4_0 Z t1 kb c0 c1 c2 c3 ch h0 n0) ({ frames := 0, cells := 0, slots := 0, locals := 0 } : Room).cells ({ frames := 0, cells := 0, slots := 0, locals := 0 } : Room).slots) (s₁.setTop (entryFrame m #[(.ref t1), (.int ch), (.int (0 : Int32)), (.int (4 : Int32))] 6))
  refine Go.via (fun t k => castTop (ef_rmIxC_4_0 m t1 ch) k) ?_
  show Go p e below _ (s₁.setTop (mkF m 0 #[.val (.ref t1), .val (.int ch), .val (.int (0 : Int32)), .val (.int (4 : Int32)), .unset, .unset] []))
  refine Go.via (fun _ => XS.iloadN X0.here hx rfl (hb hby d18_0) rfl) ?_
  show Go p e below _ (s₁.setTop (mkF m 1 #[.val (.ref t1), .val (.int ch), .val (.int (0 : Int32)), .val (.int (4 : Int32)), .unset, .unset] [(.int ch)]))
  refine Go.via (fun _ => XS.i2b X0.here hx rfl (hb hby d18_1) rfl) ?_
  show Go p e below _ (s₁.setTop (mkF m 2 #[.val (.ref t1), .val (.int ch), .val (.int (0 : Int32)), .val (.int (4 : Int32)), .unset, .unset] [(.int (ch.toInt8.toInt32))]))
  refine Go.via (fun _ => XS.istore X0.here hx rfl (hb hby d18_2) rfl (l' := #[.val (.ref t1), .val (.int ch), .val (.int (0 : Int32)), .val (.int (4 : Int32)), .val (.int (ch.toInt8.toInt32)), .unset]) rfl) ?_
  show Go p e below _ (s₁.setTop (mkF m 4 #[.val (.ref t1), .val (.int ch), .val (.int (0 : Int32)), .val (.int (4 : Int32)), .val (.int (ch.toInt8.toInt32)), .unset] []))
  refine Go.via (fun _ => XS.iloadN X0.here hx rfl (hb hby d18_4) rfl) ?_
  show Go p e below _ (s₁.setTop (mkF m 5 #[.val (.ref t1), .val (.int ch), .val (.int (0 : Int32)), .val (.int (4 : Int32)), .val (.int (ch.toInt8.toInt32)), .unset] [(.int (0 : Int32))]))
  refine Go.via (fun _ => XS.istore X0.here hx rfl (hb hby d18_5) rfl (l' := #[.val (.ref t1), .val (.int ch), .val (.int (0 : Int32)), .val (.int (4 : Int32)), .val (.int (ch.toInt8.toInt32)), .val (.int (0 : Int32))]) rfl) ?_
  show Go p e below _ (s₁.setTop (mkF m 7 #[.val (.ref t1), .val (.int ch), .val (.int (0 : Int32)), .val (.int (4 : Int32)), .val (.int (ch.toInt8.toInt32)), .val (.int (0 : Int32))] []))
  refine Go.via (fun _ => XS.iload X0.here hx rfl (hb hby d18_7) rfl) ?_
  show Go p e below _ (s₁.setTop (mkF m 9 #[.val (.ref t1), .val (.int ch), .val (.int (0 : Int32)), .val (.int (4 : Int32)), .val (.int (ch.toInt8.toInt32)), .val (.int (0 : Int32))] [(.int (0 : Int32))]))
  refine Go.via (fun _ => XS.iloadN X0.here hx rfl (hb hby d18_9) rfl) ?_
  show Go p e below _ (s₁.setTop (mkF m 10 #[.val (.ref t1), .val (.int ch), .val (.int (0 : Int32)), .val (.int (4 : Int32)), .val (.int (ch.toInt8.toInt32)), .val (.int (0 : Int32))] [(.int (4 : Int32)), (.int (0 : Int32))]))
  refine Go.via (fun _ => XS.icmpNo X0.here hx rfl (hb hby d18_10) rfl (by decide)) ?_
  show Go p e below _ (s₁.setTop (mkF m 13 #[.val (.ref t1), .val (.int ch), .val (.int (0 : Int32)), .val (.int (4 : Int32)), .val (.int (ch.toInt8.toInt32)), .val (.int (0 : Int32))] []))
  refine Go.via (fun _ => XS.aloadN X0.here hx rfl (hb hby d18_13) rfl rfl) ?_
  show Go p e below _ (s₁.setTop (mkF m 14 #[.val (.ref t1), .val (.int ch), .val (.int (0 : Int32)), .val (.int (4 : Int32)), .val (.int (ch.toInt8.toInt32)), .val (.int (0 : Int32))] [(.ref t1)]))
  refine Go.via (fun _ => XS.iload X0.here hx rfl (hb hby d18_14) rfl) ?_
  show Go p e below _ (s₁.setTop (mkF m 16 #[.val (.ref t1), .val (.int ch), .val (.int (0 : Int32)), .val (.int (4 : Int32)), .val (.int (ch.toInt8.toInt32)), .val (.int (0 : Int32))] [(.int (0 : Int32)), (.ref t1)]))
  obtain ⟨cl1, Ar1, q1, S1, N1n, H1, G1⟩ := id V2
  have hin1 := inb_of (j := (0 : Int32)) S1 (by decide)
  have hat1 : cl1.slots[((0 : Int32) : Int32).toNatClampNeg]? = some (.int (nar .byte (c0.toInt8.toInt32))) := H1.at hin1 rfl
  refine Go.via (X0.baloadBytes hx (j := (0 : Int32)) (v := (.int (nar .byte (c0.toInt8.toInt32)))) (by rw [e0]; exact Ar1.1) (State.isArrayOf_alike hZ.alike Ar1.2.1) Ar1.2.2 hin1 hat1 (g := (mkF m 16 #[.val (.ref t1), .val (.int ch), .val (.int (0 : Int32)), .val (.int (4 : Int32)), .val (.int (ch.toInt8.toInt32)), .val (.int (0 : Int32))] [(.int (0 : Int32)), (.ref t1)])) rfl rfl (hb hby d18_16)) ?_
  show Go p e below _ (s₁.setTop (mkF m 17 #[.val (.ref t1), .val (.int ch), .val (.int (0 : Int32)), .val (.int (4 : Int32)), .val (.int (ch.toInt8.toInt32)), .val (.int (0 : Int32))] [(.int (nar .byte (c0.toInt8.toInt32)))]))
  refine Go.via (fun _ => XS.iload X0.here hx rfl (hb hby d18_17) rfl) ?_
  show Go p e below _ (s₁.setTop (mkF m 19 #[.val (.ref t1), .val (.int ch), .val (.int (0 : Int32)), .val (.int (4 : Int32)), .val (.int (ch.toInt8.toInt32)), .val (.int (0 : Int32))] [(.int (ch.toInt8.toInt32)), (.int (nar .byte (c0.toInt8.toInt32)))]))
  by_cases hc2 : (nar .byte (c0.toInt8.toInt32)) = (ch.toInt8.toInt32)
  · -- yes
    show Go p e below _ (s₁.setTop (mkF m 19 #[.val (.ref t1), .val (.int ch), .val (.int (0 : Int32)), .val (.int (4 : Int32)), .val (.int (ch.toInt8.toInt32)), .val (.int (0 : Int32))] [(.int (ch.toInt8.toInt32)), (.int (nar .byte (c0.toInt8.toInt32)))]))
    show Go p e below _ (s₁.setTop (mkF m 19 #[.val (.ref t1), .val (.int ch), .val (.int (0 : Int32)), .val (.int (4 : Int32)), .val (.int (ch.toInt8.toInt32)), .val (.int (0 : Int32))] [(.int (ch.toInt8.toInt32)), (.int (nar .byte (c0.toInt8.toInt32)))]))
    refine Go.via (fun _ => XS.icmpNo X0.here hx rfl (hb hby d18_19) rfl (teq hc2).2) ?_
    show Go p e below _ (s₁.setTop (mkF m 22 #[.val (.ref t1), .val (.int ch), .val (.int (0 : Int32)), .val (.int (4 : Int32)), .val (.int (ch.toInt8.toInt32)), .val (.int (0 : Int32))] []))
    refine Go.via (fun _ => XS.iload X0.here hx rfl (hb hby d18_22) rfl) ?_
    show Go p e below _ (s₁.setTop (mkF m 24 #[.val (.ref t1), .val (.int ch), .val (.int (0 : Int32)), .val (.int (4 : Int32)), .val (.int (ch.toInt8.toInt32)), .val (.int (0 : Int32))] [(.int (0 : Int32))]))
    exact own_retI X0 hx hlk Bd.returns (hb hby d18_24) (by show QIxC_4_0 Z t1 kb c0 c1 c2 c3 ch h0 n0 _ s₁.heap _; rw [e0]; exact ⟨by simp [ix4, (qe0.mp hc2), (by decide : ¬ ((0 : Int32) < (0 : Int32))), (by decide : ¬ ((1 : Int32) < (0 : Int32))), (by decide : ¬ ((2 : Int32) < (0 : Int32))), (by decide : ¬ ((3 : Int32) < (0 : Int32)))], N0, rfl⟩) (by decide) (by decide)
  · -- no
    show Go p e below _ (s₁.setTop (mkF m 19 #[.val (.ref t1), .val (.int ch), .val (.int (0 : Int32)), .val (.int (4 : Int32)), .val (.int (ch.toInt8.toInt32)), .val (.int (0 : Int32))] [(.int (ch.toInt8.toInt32)), (.int (nar .byte (c0.toInt8.toInt32)))]))
    show Go p e below _ (s₁.setTop (mkF m 19 #[.val (.ref t1), .val (.int ch), .val (.int (0 : Int32)), .val (.int (4 : Int32)), .val (.int (ch.toInt8.toInt32)), .val (.int (0 : Int32))] [(.int (ch.toInt8.toInt32)), (.int (nar .byte (c0.toInt8.toInt32)))]))
    refine Go.via (fun _ => XS.icmpYes X0.here hx rfl (pc0 := 19) (pc' := 25) rfl (hb hby d18_19) rfl (feq hc2).2 (by decide) (by decide)) ?_
    show Go p e below _ (s₁.setTop (mkF m 25 #[.val (.ref t1), .val (.int ch), .val (.int (0 : Int32)), .val (.int (4 : Int32)), .val (.int (ch.toInt8.toInt32)), .val (.int (0 : Int32))] []))
    refine Go.via (fun _ => XS.iinc X0.here hx rfl (hb hby d18_25) rfl (l' := #[.val (.ref t1), .val (.int ch), .val (.int (0 : Int32)), .val (.int (4 : Int32)), .val (.int (ch.toInt8.toInt32)), .val (.int (1 : Int32))]) rfl) ?_
    show Go p e below _ (s₁.setTop (mkF m 28 #[.val (.ref t1), .val (.int ch), .val (.int (0 : Int32)), .val (.int (4 : Int32)), .val (.int (ch.toInt8.toInt32)), .val (.int (1 : Int32))] []))
    refine Go.via (fun _ => XS.goto X0.here hx rfl (pc0 := 28) (pc' := 7) rfl (hb hby d18_28) (by decide) (by decide)) ?_
    show Go p e below _ (s₁.setTop (mkF m 7 #[.val (.ref t1), .val (.int ch), .val (.int (0 : Int32)), .val (.int (4 : Int32)), .val (.int (ch.toInt8.toInt32)), .val (.int (1 : Int32))] []))
    refine Go.via (fun _ => XS.iload X0.here hx rfl (hb hby d18_7) rfl) ?_
    show Go p e below _ (s₁.setTop (mkF m 9 #[.val (.ref t1), .val (.int ch), .val (.int (0 : Int32)), .val (.int (4 : Int32)), .val (.int (ch.toInt8.toInt32)), .val (.int (1 : Int32))] [(.int (1 : Int32))]))
    refine Go.via (fun _ => XS.iloadN X0.here hx rfl (hb hby d18_9) rfl) ?_
    show Go p e below _ (s₁.setTop (mkF m 10 #[.val (.ref t1), .val (.int ch), .val (.int (0 : Int32)), .val (.int (4 : Int32)), .val (.int (ch.toInt8.toInt32)), .val (.int (1 : Int32))] [(.int (4 : Int32)), (.int (1 : Int32))]))
    refine Go.via (fun _ => XS.icmpNo X0.here hx rfl (hb hby d18_10) rfl (by decide)) ?_
    show Go p e below _ (s₁.setTop (mkF m 13 #[.val (.ref t1), .val (.int ch), .val (.int (0 : Int32)), .val (.int (4 : Int32)), .val (.int (ch.toInt8.toInt32)), .val (.int (1 : Int32))] []))
    refine Go.via (fun _ => XS.aloadN X0.here hx rfl (hb hby d18_13) rfl rfl) ?_
    show Go p e below _ (s₁.setTop (mkF m 14 #[.val (.ref t1), .val (.int ch), .val (.int (0 : Int32)), .val (.int (4 : Int32)), .val (.int (ch.toInt8.toInt32)), .val (.int (1 : Int32))] [(.ref t1)]))
    refine Go.via (fun _ => XS.iload X0.here hx rfl (hb hby d18_14) rfl) ?_
    show Go p e below _ (s₁.setTop (mkF m 16 #[.val (.ref t1), .val (.int ch), .val (.int (0 : Int32)), .val (.int (4 : Int32)), .val (.int (ch.toInt8.toInt32)), .val (.int (1 : Int32))] [(.int (1 : Int32)), (.ref t1)]))
    obtain ⟨cl3, Ar3, q3, S3, N3n, H3, G3⟩ := id V2
    have hin3 := inb_of (j := (1 : Int32)) S3 (by decide)
    have hat3 : cl3.slots[((1 : Int32) : Int32).toNatClampNeg]? = some (.int (nar .byte (c1.toInt8.toInt32))) := H3.at hin3 rfl
    refine Go.via (X0.baloadBytes hx (j := (1 : Int32)) (v := (.int (nar .byte (c1.toInt8.toInt32)))) (by rw [e0]; exact Ar3.1) (State.isArrayOf_alike hZ.alike Ar3.2.1) Ar3.2.2 hin3 hat3 (g := (mkF m 16 #[.val (.ref t1), .val (.int ch), .val (.int (0 : Int32)), .val (.int (4 : Int32)), .val (.int (ch.toInt8.toInt32)), .val (.int (1 : Int32))] [(.int (1 : Int32)), (.ref t1)])) rfl rfl (hb hby d18_16)) ?_
    show Go p e below _ (s₁.setTop (mkF m 17 #[.val (.ref t1), .val (.int ch), .val (.int (0 : Int32)), .val (.int (4 : Int32)), .val (.int (ch.toInt8.toInt32)), .val (.int (1 : Int32))] [(.int (nar .byte (c1.toInt8.toInt32)))]))
    refine Go.via (fun _ => XS.iload X0.here hx rfl (hb hby d18_17) rfl) ?_
    show Go p e below _ (s₁.setTop (mkF m 19 #[.val (.ref t1), .val (.int ch), .val (.int (0 : Int32)), .val (.int (4 : Int32)), .val (.int (ch.toInt8.toInt32)), .val (.int (1 : Int32))] [(.int (ch.toInt8.toInt32)), (.int (nar .byte (c1.toInt8.toInt32)))]))
    by_cases hc4 : (nar .byte (c1.toInt8.toInt32)) = (ch.toInt8.toInt32)
    · -- yes
      show Go p e below _ (s₁.setTop (mkF m 19 #[.val (.ref t1), .val (.int ch), .val (.int (0 : Int32)), .val (.int (4 : Int32)), .val (.int (ch.toInt8.toInt32)), .val (.int (1 : Int32))] [(.int (ch.toInt8.toInt32)), (.int (nar .byte (c1.toInt8.toInt32)))]))
      show Go p e below _ (s₁.setTop (mkF m 19 #[.val (.ref t1), .val (.int ch), .val (.int (0 : Int32)), .val (.int (4 : Int32)), .val (.int (ch.toInt8.toInt32)), .val (.int (1 : Int32))] [(.int (ch.toInt8.toInt32)), (.int (nar .byte (c1.toInt8.toInt32)))]))
      refine Go.via (fun _ => XS.icmpNo X0.here hx rfl (hb hby d18_19) rfl (teq hc4).2) ?_
      show Go p e below _ (s₁.setTop (mkF m 22 #[.val (.ref t1), .val (.int ch), .val (.int (0 : Int32)), .val (.int (4 : Int32)), .val (.int (ch.toInt8.toInt32)), .val (.int (1 : Int32))] []))
      refine Go.via (fun _ => XS.iload X0.here hx rfl (hb hby d18_22) rfl) ?_
      show Go p e below _ (s₁.setTop (mkF m 24 #[.val (.ref t1), .val (.int ch), .val (.int (0 : Int32)), .val (.int (4 : Int32)), .val (.int (ch.toInt8.toInt32)), .val (.int (1 : Int32))] [(.int (1 : Int32))]))
      exact own_retI X0 hx hlk Bd.returns (hb hby d18_24) (by show QIxC_4_0 Z t1 kb c0 c1 c2 c3 ch h0 n0 _ s₁.heap _; rw [e0]; exact ⟨by simp [ix4, (mt qe0.mpr hc2), (qe1.mp hc4), (by decide : ¬ ((0 : Int32) < (0 : Int32))), (by decide : ¬ ((1 : Int32) < (0 : Int32))), (by decide : ¬ ((2 : Int32) < (0 : Int32))), (by decide : ¬ ((3 : Int32) < (0 : Int32)))], N0, rfl⟩) (by decide) (by decide)
    · -- no
      show Go p e below _ (s₁.setTop (mkF m 19 #[.val (.ref t1), .val (.int ch), .val (.int (0 : Int32)), .val (.int (4 : Int32)), .val (.int (ch.toInt8.toInt32)), .val (.int (1 : Int32))] [(.int (ch.toInt8.toInt32)), (.int (nar .byte (c1.toInt8.toInt32)))]))
      show Go p e below _ (s₁.setTop (mkF m 19 #[.val (.ref t1), .val (.int ch), .val (.int (0 : Int32)), .val (.int (4 : Int32)), .val (.int (ch.toInt8.toInt32)), .val (.int (1 : Int32))] [(.int (ch.toInt8.toInt32)), (.int (nar .byte (c1.toInt8.toInt32)))]))
      refine Go.via (fun _ => XS.icmpYes X0.here hx rfl (pc0 := 19) (pc' := 25) rfl (hb hby d18_19) rfl (feq hc4).2 (by decide) (by decide)) ?_
      show Go p e below _ (s₁.setTop (mkF m 25 #[.val (.ref t1), .val (.int ch), .val (.int (0 : Int32)), .val (.int (4 : Int32)), .val (.int (ch.toInt8.toInt32)), .val (.int (1 : Int32))] []))
      refine Go.via (fun _ => XS.iinc X0.here hx rfl (hb hby d18_25) rfl (l' := #[.val (.ref t1), .val (.int ch), .val (.int (0 : Int32)), .val (.int (4 : Int32)), .val (.int (ch.toInt8.toInt32)), .val (.int (2 : Int32))]) rfl) ?_
      show Go p e below _ (s₁.setTop (mkF m 28 #[.val (.ref t1), .val (.int ch), .val (.int (0 : Int32)), .val (.int (4 : Int32)), .val (.int (ch.toInt8.toInt32)), .val (.int (2 : Int32))] []))
      refine Go.via (fun _ => XS.goto X0.here hx rfl (pc0 := 28) (pc' := 7) rfl (hb hby d18_28) (by decide) (by decide)) ?_
      show Go p e below _ (s₁.setTop (mkF m 7 #[.val (.ref t1), .val (.int ch), .val (.int (0 : Int32)), .val (.int (4 : Int32)), .val (.int (ch.toInt8.toInt32)), .val (.int (2 : Int32))] []))
      refine Go.via (fun _ => XS.iload X0.here hx rfl (hb hby d18_7) rfl) ?_
      show Go p e below _ (s₁.setTop (mkF m 9 #[.val (.ref t1), .val (.int ch), .val (.int (0 : Int32)), .val (.int (4 : Int32)), .val (.int (ch.toInt8.toInt32)), .val (.int (2 : Int32))] [(.int (2 : Int32))]))
      refine Go.via (fun _ => XS.iloadN X0.here hx rfl (hb hby d18_9) rfl) ?_
      show Go p e below _ (s₁.setTop (mkF m 10 #[.val (.ref t1), .val (.int ch), .val (.int (0 : Int32)), .val (.int (4 : Int32)), .val (.int (ch.toInt8.toInt32)), .val (.int (2 : Int32))] [(.int (4 : Int32)), (.int (2 : Int32))]))
      refine Go.via (fun _ => XS.icmpNo X0.here hx rfl (hb hby d18_10) rfl (by decide)) ?_
      show Go p e below _ (s₁.setTop (mkF m 13 #[.val (.ref t1), .val (.int ch), .val (.int (0 : Int32)), .val (.int (4 : Int32)), .val (.int (ch.toInt8.toInt32)), .val (.int (2 : Int32))] []))
      refine Go.via (fun _ => XS.aloadN X0.here hx rfl (hb hby d18_13) rfl rfl) ?_
      show Go p e below _ (s₁.setTop (mkF m 14 #[.val (.ref t1), .val (.int ch), .val (.int (0 : Int32)), .val (.int (4 : Int32)), .val (.int (ch.toInt8.toInt32)), .val (.int (2 : Int32))] [(.ref t1)]))
      refine Go.via (fun _ => XS.iload X0.here hx rfl (hb hby d18_14) rfl) ?_
      show Go p e below _ (s₁.setTop (mkF m 16 #[.val (.ref t1), .val (.int ch), .val (.int (0 : Int32)), .val (.int (4 : Int32)), .val (.int (ch.toInt8.toInt32)), .val (.int (2 : Int32))] [(.int (2 : Int32)), (.ref t1)]))
      obtain ⟨cl5, Ar5, q5, S5, N5n, H5, G5⟩ := id V2
      have hin5 := inb_of (j := (2 : Int32)) S5 (by decide)
      have hat5 : cl5.slots[((2 : Int32) : Int32).toNatClampNeg]? = some (.int (nar .byte (c2.toInt8.toInt32))) := H5.at hin5 rfl
      refine Go.via (X0.baloadBytes hx (j := (2 : Int32)) (v := (.int (nar .byte (c2.toInt8.toInt32)))) (by rw [e0]; exact Ar5.1) (State.isArrayOf_alike hZ.alike Ar5.2.1) Ar5.2.2 hin5 hat5 (g := (mkF m 16 #[.val (.ref t1), .val (.int ch), .val (.int (0 : Int32)), .val (.int (4 : Int32)), .val (.int (ch.toInt8.toInt32)), .val (.int (2 : Int32))] [(.int (2 : Int32)), (.ref t1)])) rfl rfl (hb hby d18_16)) ?_
      show Go p e below _ (s₁.setTop (mkF m 17 #[.val (.ref t1), .val (.int ch), .val (.int (0 : Int32)), .val (.int (4 : Int32)), .val (.int (ch.toInt8.toInt32)), .val (.int (2 : Int32))] [(.int (nar .byte (c2.toInt8.toInt32)))]))
      refine Go.via (fun _ => XS.iload X0.here hx rfl (hb hby d18_17) rfl) ?_
      show Go p e below _ (s₁.setTop (mkF m 19 #[.val (.ref t1), .val (.int ch), .val (.int (0 : Int32)), .val (.int (4 : Int32)), .val (.int (ch.toInt8.toInt32)), .val (.int (2 : Int32))] [(.int (ch.toInt8.toInt32)), (.int (nar .byte (c2.toInt8.toInt32)))]))
      by_cases hc6 : (nar .byte (c2.toInt8.toInt32)) = (ch.toInt8.toInt32)
      · -- yes
        show Go p e below _ (s₁.setTop (mkF m 19 #[.val (.ref t1), .val (.int ch), .val (.int (0 : Int32)), .val (.int (4 : Int32)), .val (.int (ch.toInt8.toInt32)), .val (.int (2 : Int32))] [(.int (ch.toInt8.toInt32)), (.int (nar .byte (c2.toInt8.toInt32)))]))
        show Go p e below _ (s₁.setTop (mkF m 19 #[.val (.ref t1), .val (.int ch), .val (.int (0 : Int32)), .val (.int (4 : Int32)), .val (.int (ch.toInt8.toInt32)), .val (.int (2 : Int32))] [(.int (ch.toInt8.toInt32)), (.int (nar .byte (c2.toInt8.toInt32)))]))
        refine Go.via (fun _ => XS.icmpNo X0.here hx rfl (hb hby d18_19) rfl (teq hc6).2) ?_
        show Go p e below _ (s₁.setTop (mkF m 22 #[.val (.ref t1), .val (.int ch), .val (.int (0 : Int32)), .val (.int (4 : Int32)), .val (.int (ch.toInt8.toInt32)), .val (.int (2 : Int32))] []))
        refine Go.via (fun _ => XS.iload X0.here hx rfl (hb hby d18_22) rfl) ?_
        show Go p e below _ (s₁.setTop (mkF m 24 #[.val (.ref t1), .val (.int ch), .val (.int (0 : Int32)), .val (.int (4 : Int32)), .val (.int (ch.toInt8.toInt32)), .val (.int (2 : Int32))] [(.int (2 : Int32))]))
        exact own_retI X0 hx hlk Bd.returns (hb hby d18_24) (by show QIxC_4_0 Z t1 kb c0 c1 c2 c3 ch h0 n0 _ s₁.heap _; rw [e0]; exact ⟨by simp [ix4, (mt qe0.mpr hc2), (mt qe1.mpr hc4), (qe2.mp hc6), (by decide : ¬ ((0 : Int32) < (0 : Int32))), (by decide : ¬ ((1 : Int32) < (0 : Int32))), (by decide : ¬ ((2 : Int32) < (0 : Int32))), (by decide : ¬ ((3 : Int32) < (0 : Int32)))], N0, rfl⟩) (by decide) (by decide)
      · -- no
        show Go p e below _ (s₁.setTop (mkF m 19 #[.val (.ref t1), .val (.int ch), .val (.int (0 : Int32)), .val (.int (4 : Int32)), .val (.int (ch.toInt8.toInt32)), .val (.int (2 : Int32))] [(.int (ch.toInt8.toInt32)), (.int (nar .byte (c2.toInt8.toInt32)))]))
        show Go p e below _ (s₁.setTop (mkF m 19 #[.val (.ref t1), .val (.int ch), .val (.int (0 : Int32)), .val (.int (4 : Int32)), .val (.int (ch.toInt8.toInt32)), .val (.int (2 : Int32))] [(.int (ch.toInt8.toInt32)), (.int (nar .byte (c2.toInt8.toInt32)))]))
        refine Go.via (fun _ => XS.icmpYes X0.here hx rfl (pc0 := 19) (pc' := 25) rfl (hb hby d18_19) rfl (feq hc6).2 (by decide) (by decide)) ?_
        show Go p e below _ (s₁.setTop (mkF m 25 #[.val (.ref t1), .val (.int ch), .val (.int (0 : Int32)), .val (.int (4 : Int32)), .val (.int (ch.toInt8.toInt32)), .val (.int (2 : Int32))] []))
        refine Go.via (fun _ => XS.iinc X0.here hx rfl (hb hby d18_25) rfl (l' := #[.val (.ref t1), .val (.int ch), .val (.int (0 : Int32)), .val (.int (4 : Int32)), .val (.int (ch.toInt8.toInt32)), .val (.int (3 : Int32))]) rfl) ?_
        show Go p e below _ (s₁.setTop (mkF m 28 #[.val (.ref t1), .val (.int ch), .val (.int (0 : Int32)), .val (.int (4 : Int32)), .val (.int (ch.toInt8.toInt32)), .val (.int (3 : Int32))] []))
        refine Go.via (fun _ => XS.goto X0.here hx rfl (pc0 := 28) (pc' := 7) rfl (hb hby d18_28) (by decide) (by decide)) ?_
        show Go p e below _ (s₁.setTop (mkF m 7 #[.val (.ref t1), .val (.int ch), .val (.int (0 : Int32)), .val (.int (4 : Int32)), .val (.int (ch.toInt8.toInt32)), .val (.int (3 : Int32))] []))
        refine Go.via (fun _ => XS.iload X0.here hx rfl (hb hby d18_7) rfl) ?_
        show Go p e below _ (s₁.setTop (mkF m 9 #[.val (.ref t1), .val (.int ch), .val (.int (0 : Int32)), .val (.int (4 : Int32)), .val (.int (ch.toInt8.toInt32)), .val (.int (3 : Int32))] [(.int (3 : Int32))]))
        refine Go.via (fun _ => XS.iloadN X0.here hx rfl (hb hby d18_9) rfl) ?_
        show Go p e below _ (s₁.setTop (mkF m 10 #[.val (.ref t1), .val (.int ch), .val (.int (0 : Int32)), .val (.int (4 : Int32)), .val (.int (ch.toInt8.toInt32)), .val (.int (3 : Int32))] [(.int (4 : Int32)), (.int (3 : Int32))]))
        refine Go.via (fun _ => XS.icmpNo X0.here hx rfl (hb hby d18_10) rfl (by decide)) ?_
        show Go p e below _ (s₁.setTop (mkF m 13 #[.val (.ref t1), .val (.int ch), .val (.int (0 : Int32)), .val (.int (4 : Int32)), .val (.int (ch.toInt8.toInt32)), .val (.int (3 : Int32))] []))
        refine Go.via (fun _ => XS.aloadN X0.here hx rfl (hb hby d18_13) rfl rfl) ?_
        show Go p e below _ (s₁.setTop (mkF m 14 #[.val (.ref t1), .val (.int ch), .val (.int (0 : Int32)), .val (.int (4 : Int32)), .val (.int (ch.toInt8.toInt32)), .val (.int (3 : Int32))] [(.ref t1)]))
        refine Go.via (fun _ => XS.iload X0.here hx rfl (hb hby d18_14) rfl) ?_
        show Go p e below _ (s₁.setTop (mkF m 16 #[.val (.ref t1), .val (.int ch), .val (.int (0 : Int32)), .val (.int (4 : Int32)), .val (.int (ch.toInt8.toInt32)), .val (.int (3 : Int32))] [(.int (3 : Int32)), (.ref t1)]))
        obtain ⟨cl7, Ar7, q7, S7, N7n, H7, G7⟩ := id V2
        have hin7 := inb_of (j := (3 : Int32)) S7 (by decide)
        have hat7 : cl7.slots[((3 : Int32) : Int32).toNatClampNeg]? = some (.int (nar .byte (c3.toInt8.toInt32))) := H7.at hin7 rfl
        refine Go.via (X0.baloadBytes hx (j := (3 : Int32)) (v := (.int (nar .byte (c3.toInt8.toInt32)))) (by rw [e0]; exact Ar7.1) (State.isArrayOf_alike hZ.alike Ar7.2.1) Ar7.2.2 hin7 hat7 (g := (mkF m 16 #[.val (.ref t1), .val (.int ch), .val (.int (0 : Int32)), .val (.int (4 : Int32)), .val (.int (ch.toInt8.toInt32)), .val (.int (3 : Int32))] [(.int (3 : Int32)), (.ref t1)])) rfl rfl (hb hby d18_16)) ?_
        show Go p e below _ (s₁.setTop (mkF m 17 #[.val (.ref t1), .val (.int ch), .val (.int (0 : Int32)), .val (.int (4 : Int32)), .val (.int (ch.toInt8.toInt32)), .val (.int (3 : Int32))] [(.int (nar .byte (c3.toInt8.toInt32)))]))
        refine Go.via (fun _ => XS.iload X0.here hx rfl (hb hby d18_17) rfl) ?_
        show Go p e below _ (s₁.setTop (mkF m 19 #[.val (.ref t1), .val (.int ch), .val (.int (0 : Int32)), .val (.int (4 : Int32)), .val (.int (ch.toInt8.toInt32)), .val (.int (3 : Int32))] [(.int (ch.toInt8.toInt32)), (.int (nar .byte (c3.toInt8.toInt32)))]))
        by_cases hc8 : (nar .byte (c3.toInt8.toInt32)) = (ch.toInt8.toInt32)
        · -- yes
          show Go p e below _ (s₁.setTop (mkF m 19 #[.val (.ref t1), .val (.int ch), .val (.int (0 : Int32)), .val (.int (4 : Int32)), .val (.int (ch.toInt8.toInt32)), .val (.int (3 : Int32))] [(.int (ch.toInt8.toInt32)), (.int (nar .byte (c3.toInt8.toInt32)))]))
          show Go p e below _ (s₁.setTop (mkF m 19 #[.val (.ref t1), .val (.int ch), .val (.int (0 : Int32)), .val (.int (4 : Int32)), .val (.int (ch.toInt8.toInt32)), .val (.int (3 : Int32))] [(.int (ch.toInt8.toInt32)), (.int (nar .byte (c3.toInt8.toInt32)))]))
          refine Go.via (fun _ => XS.icmpNo X0.here hx rfl (hb hby d18_19) rfl (teq hc8).2) ?_
          show Go p e below _ (s₁.setTop (mkF m 22 #[.val (.ref t1), .val (.int ch), .val (.int (0 : Int32)), .val (.int (4 : Int32)), .val (.int (ch.toInt8.toInt32)), .val (.int (3 : Int32))] []))
          refine Go.via (fun _ => XS.iload X0.here hx rfl (hb hby d18_22) rfl) ?_
          show Go p e below _ (s₁.setTop (mkF m 24 #[.val (.ref t1), .val (.int ch), .val (.int (0 : Int32)), .val (.int (4 : Int32)), .val (.int (ch.toInt8.toInt32)), .val (.int (3 : Int32))] [(.int (3 : Int32))]))
          exact own_retI X0 hx hlk Bd.returns (hb hby d18_24) (by show QIxC_4_0 Z t1 kb c0 c1 c2 c3 ch h0 n0 _ s₁.heap _; rw [e0]; exact ⟨by simp [ix4, (mt qe0.mpr hc2), (mt qe1.mpr hc4), (mt qe2.mpr hc6), (qe3.mp hc8), (by decide : ¬ ((0 : Int32) < (0 : Int32))), (by decide : ¬ ((1 : Int32) < (0 : Int32))), (by decide : ¬ ((2 : Int32) < (0 : Int32))), (by decide : ¬ ((3 : Int32) < (0 : Int32)))], N0, rfl⟩) (by decide) (by decide)
        · -- no
          show Go p e below _ (s₁.setTop (mkF m 19 #[.val (.ref t1), .val (.int ch), .val (.int (0 : Int32)), .val (.int (4 : Int32)), .val (.int (ch.toInt8.toInt32)), .val (.int (3 : Int32))] [(.int (ch.toInt8.toInt32)), (.int (nar .byte (c3.toInt8.toInt32)))]))
          show Go p e below _ (s₁.setTop (mkF m 19 #[.val (.ref t1), .val (.int ch), .val (.int (0 : Int32)), .val (.int (4 : Int32)), .val (.int (ch.toInt8.toInt32)), .val (.int (3 : Int32))] [(.int (ch.toInt8.toInt32)), (.int (nar .byte (c3.toInt8.toInt32)))]))
          refine Go.via (fun _ => XS.icmpYes X0.here hx rfl (pc0 := 19) (pc' := 25) rfl (hb hby d18_19) rfl (feq hc8).2 (by decide) (by decide)) ?_
          show Go p e below _ (s₁.setTop (mkF m 25 #[.val (.ref t1), .val (.int ch), .val (.int (0 : Int32)), .val (.int (4 : Int32)), .val (.int (ch.toInt8.toInt32)), .val (.int (3 : Int32))] []))
          refine Go.via (fun _ => XS.iinc X0.here hx rfl (hb hby d18_25) rfl (l' := #[.val (.ref t1), .val (.int ch), .val (.int (0 : Int32)), .val (.int (4 : Int32)), .val (.int (ch.toInt8.toInt32)), .val (.int (4 : Int32))]) rfl) ?_
          show Go p e below _ (s₁.setTop (mkF m 28 #[.val (.ref t1), .val (.int ch), .val (.int (0 : Int32)), .val (.int (4 : Int32)), .val (.int (ch.toInt8.toInt32)), .val (.int (4 : Int32))] []))
          refine Go.via (fun _ => XS.goto X0.here hx rfl (pc0 := 28) (pc' := 7) rfl (hb hby d18_28) (by decide) (by decide)) ?_
          show Go p e below _ (s₁.setTop (mkF m 7 #[.val (.ref t1), .val (.int ch), .val (.int (0 : Int32)), .val (.int (4 : Int32)), .val (.int (ch.toInt8.toInt32)), .val (.int (4 : Int32))] []))
          refine Go.via (fun _ => XS.iload X0.here hx rfl (hb hby d18_7) rfl) ?_
          show Go p e below _ (s₁.setTop (mkF m 9 #[.val (.ref t1), .val (.int ch), .val (.int (0 : Int32)), .val (.int (4 : Int32)), .val (.int (ch.toInt8.toInt32)), .val (.int (4 : Int32))] [(.int (4 : Int32))]))
          refine Go.via (fun _ => XS.iloadN X0.here hx rfl (hb hby d18_9) rfl) ?_
          show Go p e below _ (s₁.setTop (mkF m 10 #[.val (.ref t1), .val (.int ch), .val (.int (0 : Int32)), .val (.int (4 : Int32)), .val (.int (ch.toInt8.toInt32)), .val (.int (4 : Int32))] [(.int (4 : Int32)), (.int (4 : Int32))]))
          refine Go.via (fun _ => XS.icmpYes X0.here hx rfl (pc0 := 10) (pc' := 31) rfl (hb hby d18_10) rfl (by decide) (by decide) (by decide)) ?_
          show Go p e below _ (s₁.setTop (mkF m 31 #[.val (.ref t1), .val (.int ch), .val (.int (0 : Int32)), .val (.int (4 : Int32)), .val (.int (ch.toInt8.toInt32)), .val (.int (4 : Int32))] []))
          refine Go.via (fun _ => XS.iconst X0.here hx rfl (hb hby d18_31)) ?_
          show Go p e below _ (s₁.setTop (mkF m 32 #[.val (.ref t1), .val (.int ch), .val (.int (0 : Int32)), .val (.int (4 : Int32)), .val (.int (ch.toInt8.toInt32)), .val (.int (4 : Int32))] [(.int (-1 : Int32))]))
          exact own_retI X0 hx hlk Bd.returns (hb hby d18_32) (by show QIxC_4_0 Z t1 kb c0 c1 c2 c3 ch h0 n0 _ s₁.heap _; rw [e0]; exact ⟨by simp [ix4, (mt qe0.mpr hc2), (mt qe1.mpr hc4), (mt qe2.mpr hc6), (mt qe3.mpr hc8), (by decide : ¬ ((0 : Int32) < (0 : Int32))), (by decide : ¬ ((1 : Int32) < (0 : Int32))), (by decide : ¬ ((2 : Int32) < (0 : Int32))), (by decide : ¬ ((3 : Int32) < (0 : Int32)))], N0, rfl⟩) (by decide) (by decide)
theorem ef_rmIxL_4_neg (m : MethodId) (x0 : Addr) (x1 : Int32) (x2 : Int32) : entryFrame m #[(.ref x0), (.int x1), (.int x2), (.int (4 : Int32))] 4 = mkF m 0 #[.val (.ref x0), .val (.int x1), .val (.int x2), .val (.int (4 : Int32))] [] := by first | (simp [entryFrame, mkF, argsToLocals, Value.category]; done) | rfl
def QIxL_4_neg (Z : State) (t1 : Addr) (kb : ClassId) (c0 : Int32) (c1 : Int32) (c2 : Int32) (c3 : Int32) (ch : Int32) (i : Int32) (h0 : Heap) (n0 : Nat) (v : Option Value) (h : Heap) (L : List Loc) : Prop := v = some (.int (ix4 c0 c1 c2 c3 ch i)) ∧ Fr n0 L ∧ h = h0
set_option maxRecDepth 65536 in
set_option maxHeartbeats 40000000 in
theorem rmIxL_4_neg (l : Launch) (Z : State) (a0 : Array Value) (hw : ∀ d ∈ tables_1, d.before a0 Z = true) (ws : List Jvm.Cond) (t1 : Addr) (kb : ClassId) (c0 : Int32) (c1 : Int32) (c2 : Int32) (c3 : Int32) (ch : Int32) (i : Int32) (h0 : Heap) (n0 : Nat) (Z0 : n0 ≤ h0.size) (V2 : Arv Z h0 t1 kb .byte (4 : Int32) [(.int (nar .byte (c0.toInt8.toInt32))), (.int (nar .byte (c1.toInt8.toInt32))), (.int (nar .byte (c2.toInt8.toInt32))), (.int (nar .byte (c3.toInt8.toInt32)))] (.int (0 : Int32))) (qe0 : (nar .byte (c0.toInt8.toInt32) = ch.toInt8.toInt32) ↔ c0 = ch) (qe1 : (nar .byte (c1.toInt8.toInt32) = ch.toInt8.toInt32) ↔ c1 = ch) (qe2 : (nar .byte (c2.toInt8.toInt32) = ch.toInt8.toInt32) ↔ c2 = ch) (qe3 : (nar .byte (c3.toInt8.toInt32) = ch.toInt8.toInt32) ↔ c3 = ch) (hc0 : ¬ (ch < (0 : Int32))) (hc1 : ¬ ((255 : Int32) < ch)) (hi : i < (0 : Int32)) :
    MetFree l (⟨"java/lang/StringLatin1", "indexOf", "([BIII)I"⟩ : MethodName) (head1 (Jvm.Cond.code (⟨"java/lang/StringLatin1", "indexOf", "([BIII)I"⟩ : MethodName) jdk_43_method_22_code 4 (some .int) :: ws) ({ frames := 1, cells := 0, slots := 0, locals := 17 } : Room)) (fun a U => a = #[(.ref t1), (.int ch), (.int i), (.int (4 : Int32))] ∧ Z.Warmed39 U.vm ∧ U.heap = h0) (fun _ _ _ _ _ => True) (fun _ U o U' => ∃ v L, o = .returned v ∧ QIxL_4_neg Z t1 kb c0 c1 c2 c3 ch i h0 n0 v U'.heap L ∧ FrameEnd U o U' L ({ frames := 1, cells := 0, slots := 0, locals := 17 } : Room).cells ({ frames := 1, cells := 0, slots := 0, locals := 17 } : Room).slots) := by
  refine MetFree.of_bodySF (plainFor_of_name pn_java_lang_StringLatin1) hisR ?_
  intro p e s m args below meth c s₁ Bd hml0 hP hK
  obtain ⟨rfl, hZ, hh⟩ := hP
  have hx := Bd.exec
  have hby := Bd.bytes
  have hlk : meth.locks = false := Bd.notSynchronized
  have hml : c.maxLocals = 4 := hml0
  have hown : s.vm.findClass "java/lang/StringLatin1" = some m.cls := findClass_of_methodNamed Bd.named
  have hnm := (name_of_methodNamed Bd.named Bd.method).1
  have X0 : Stand p l e ({ frames := 1, cells := 0, slots := 0, locals := 17 } : Room) s m #[(.ref t1), (.int ch), (.int i), (.int (4 : Int32))] below meth c s₁ [] 0 0 := Stand.of_body Bd
  have e0 : s₁.heap = h0 := by rw [← hh, Bd.state]; rfl
  have N0 := Fr.nil n0
  show Go p e below (FinE s below (QIxL_4_neg Z t1 kb c0 c1 c2 c3 ch i h0 n0) ({ frames := 1, cells := 0, slots := 0, locals := 17 } : Room).cells ({ frames := 1, cells := 0, slots := 0, locals := 17 } : Room).slots) (s₁.setTop (entryFrame m #[(.ref t1), (.int ch), (.int i), (.int (4 : Int32))] 4))
  refine Go.via (fun t k => castTop (ef_rmIxL_4_neg m t1 ch i) k) ?_
  show Go p e below _ (s₁.setTop (mkF m 0 #[.val (.ref t1), .val (.int ch), .val (.int i), .val (.int (4 : Int32))] []))
  refine Go.via (fun _ => XS.iloadN X0.here hx rfl (hb hby d14_0) rfl) ?_
  show Go p e below _ (s₁.setTop (mkF m 1 #[.val (.ref t1), .val (.int ch), .val (.int i), .val (.int (4 : Int32))] [(.int ch)]))
  obtain ⟨_, _, ⟨T1, L1, k1, n1⟩, -, X1, ⟨Lc1, hQ1, l1, y1, z1⟩, st1⟩ := Jvm.LawKit.callS X0 hx (y := (⟨"java/lang/StringLatin1", "canEncode", "(I)Z"⟩ : MethodName)) hown (mvT hZ (hw _ (List.mem_of_getElem? (i := 79) rfl))) (mvT hZ (hw _ (List.mem_of_getElem? (i := 80) rfl))) (mvT hZ (hw _ (List.mem_of_getElem? (i := 77) rfl))) (mvT hZ (hw _ (List.mem_of_getElem? (i := 81) rfl))) (by decide) (backOf (W := 0) (rmCanI l Z a0 hw [] ch h0 n0 Z0 hc0 hc1) hZ (hw _ (List.mem_of_getElem? (i := 81) rfl)) (hw _ (List.mem_of_getElem? (i := 77) rfl)) (by decide) (by decide)) (g := (mkF m 1 #[.val (.ref t1), .val (.int ch), .val (.int i), .val (.int (4 : Int32))] [(.int ch)])) rfl (by rw [hml]; rfl) (argsL := [(.int ch)]) (rest := []) (lenOf pd_1 rfl) rfl (by show 2 * 0 + _ ≤ _; exact Nat.le_of_eq rfl) (hb hby d14_1) (fun _ _ => ⟨rfl, e0, (by decide : 0 + 0 ≤ _), (by decide : 0 + 0 ≤ _)⟩)
  dsimp only [Pt.U, Pt.locs, Pt.cells, Pt.slots] at X1 l1 y1 z1 st1 hQ1
  subst l1 y1 z1
  obtain ⟨rfl, N1q, e1q⟩ := hQ1
  have N1 := Fr.app N0 N1q
  refine Go.via st1 ?_
  show Go p e below _ (T1.setTop (mkF m 4 #[.val (.ref t1), .val (.int ch), .val (.int i), .val (.int (4 : Int32))] [(.int (1 : Int32))]))
  refine Go.via (fun _ => XS.ifYes X1.here hx rfl (pc0 := 4) (pc' := 9) rfl (hb hby d14_4) rfl (by decide) (by decide) (by decide)) ?_
  show Go p e below _ (T1.setTop (mkF m 9 #[.val (.ref t1), .val (.int ch), .val (.int i), .val (.int (4 : Int32))] []))
  refine Go.via (fun _ => XS.iloadN X1.here hx rfl (hb hby d14_9) rfl) ?_
  show Go p e below _ (T1.setTop (mkF m 10 #[.val (.ref t1), .val (.int ch), .val (.int i), .val (.int (4 : Int32))] [(.int i)]))
  refine Go.via (fun _ => XS.iconst X1.here hx rfl (hb hby d14_10)) ?_
  show Go p e below _ (T1.setTop (mkF m 11 #[.val (.ref t1), .val (.int ch), .val (.int i), .val (.int (4 : Int32))] [(.int (0 : Int32)), (.int i)]))
  obtain ⟨_, _, ⟨T2, L2, k2, n2⟩, -, X2, ⟨Lc2, hQ2, l2, y2, z2⟩, st2⟩ := Jvm.LawKit.callS X1 hx (y := (⟨"java/lang/Math", "max", "(II)I"⟩ : MethodName)) hown (mvT hZ (hw _ (List.mem_of_getElem? (i := 82) rfl))) (mvT hZ (hw _ (List.mem_of_getElem? (i := 83) rfl))) (mvT hZ (hw _ (List.mem_of_getElem? (i := 84) rfl))) (mvT hZ (hw _ (List.mem_of_getElem? (i := 85) rfl))) (by decide) (backOf (W := 0) (rm_max_2 l Z a0 hw [] i (0 : Int32) h0 n0 Z0 hi) hZ (hw _ (List.mem_of_getElem? (i := 85) rfl)) (hw _ (List.mem_of_getElem? (i := 84) rfl)) (by decide) (by decide)) (g := (mkF m 11 #[.val (.ref t1), .val (.int ch), .val (.int i), .val (.int (4 : Int32))] [(.int (0 : Int32)), (.int i)])) rfl (by rw [hml]; rfl) (argsL := [(.int i), (.int (0 : Int32))]) (rest := []) (lenOf pd_2 rfl) rfl (by show 2 * 0 + _ ≤ _; exact Nat.le_of_eq rfl) (hb hby d14_11) (fun _ _ => ⟨rfl, e1q, (by decide : 0 + 0 ≤ _), (by decide : 0 + 0 ≤ _)⟩)
  dsimp only [Pt.U, Pt.locs, Pt.cells, Pt.slots] at X2 l2 y2 z2 st2 hQ2
  subst l2 y2 z2
  obtain ⟨rfl, N2q, e2q⟩ := hQ2
  have N2 := Fr.app N1 N2q
  refine Go.via st2 ?_
  show Go p e below _ (T2.setTop (mkF m 14 #[.val (.ref t1), .val (.int ch), .val (.int i), .val (.int (4 : Int32))] [(.int (0 : Int32))]))
  refine Go.via (fun _ => XS.istoreN X2.here hx rfl (hb hby d14_14) rfl (l' := #[.val (.ref t1), .val (.int ch), .val (.int (0 : Int32)), .val (.int (4 : Int32))]) rfl) ?_
  show Go p e below _ (T2.setTop (mkF m 15 #[.val (.ref t1), .val (.int ch), .val (.int (0 : Int32)), .val (.int (4 : Int32))] []))
  refine Go.via (fun _ => XS.iloadN X2.here hx rfl (hb hby d14_15) rfl) ?_
  show Go p e below _ (T2.setTop (mkF m 16 #[.val (.ref t1), .val (.int ch), .val (.int (0 : Int32)), .val (.int (4 : Int32))] [(.int (4 : Int32))]))
  refine Go.via (fun _ => XS.aloadN X2.here hx rfl (hb hby d14_16) rfl rfl) ?_
  show Go p e below _ (T2.setTop (mkF m 17 #[.val (.ref t1), .val (.int ch), .val (.int (0 : Int32)), .val (.int (4 : Int32))] [(.ref t1), (.int (4 : Int32))]))
  obtain ⟨cl3, Ar3, -, S3, N3n, -, -⟩ := id V2
  have al3 := X2.arraylength hx (by rw [e2q]; exact Ar3.1) (State.isArrayOf_alike hZ.alike Ar3.2.1) (g := (mkF m 17 #[.val (.ref t1), .val (.int ch), .val (.int (0 : Int32)), .val (.int (4 : Int32))] [(.ref t1), (.int (4 : Int32))])) rfl rfl (hb hby d14_17)
  rw [len_of S3 N3n] at al3
  refine Go.via al3 ?_
  show Go p e below _ (T2.setTop (mkF m 18 #[.val (.ref t1), .val (.int ch), .val (.int (0 : Int32)), .val (.int (4 : Int32))] [(.int (4 : Int32)), (.int (4 : Int32))]))
  obtain ⟨_, _, ⟨T4, L4, k4, n4⟩, -, X4, ⟨Lc4, hQ4, l4, y4, z4⟩, st4⟩ := Jvm.LawKit.callS X2 hx (y := (⟨"java/lang/Math", "min", "(II)I"⟩ : MethodName)) hown (mvT hZ (hw _ (List.mem_of_getElem? (i := 86) rfl))) (mvT hZ (hw _ (List.mem_of_getElem? (i := 87) rfl))) (mvT hZ (hw _ (List.mem_of_getElem? (i := 84) rfl))) (mvT hZ (hw _ (List.mem_of_getElem? (i := 88) rfl))) (by decide) (backOf (W := 0) (rm_min_1 l Z a0 hw [] (4 : Int32) (4 : Int32) h0 n0 Z0 (by decide)) hZ (hw _ (List.mem_of_getElem? (i := 88) rfl)) (hw _ (List.mem_of_getElem? (i := 84) rfl)) (by decide) (by decide)) (g := (mkF m 18 #[.val (.ref t1), .val (.int ch), .val (.int (0 : Int32)), .val (.int (4 : Int32))] [(.int (4 : Int32)), (.int (4 : Int32))])) rfl (by rw [hml]; rfl) (argsL := [(.int (4 : Int32)), (.int (4 : Int32))]) (rest := []) (lenOf pd_2 rfl) rfl (by show 2 * 0 + _ ≤ _; exact Nat.le_of_eq rfl) (hb hby d14_18) (fun _ _ => ⟨rfl, e2q, (by decide : 0 + 0 ≤ _), (by decide : 0 + 0 ≤ _)⟩)
  dsimp only [Pt.U, Pt.locs, Pt.cells, Pt.slots] at X4 l4 y4 z4 st4 hQ4
  subst l4 y4 z4
  obtain ⟨rfl, N4q, e4q⟩ := hQ4
  have N4 := Fr.app N2 N4q
  refine Go.via st4 ?_
  show Go p e below _ (T4.setTop (mkF m 21 #[.val (.ref t1), .val (.int ch), .val (.int (0 : Int32)), .val (.int (4 : Int32))] [(.int (4 : Int32))]))
  refine Go.via (fun _ => XS.istoreN X4.here hx rfl (hb hby d14_21) rfl (l' := #[.val (.ref t1), .val (.int ch), .val (.int (0 : Int32)), .val (.int (4 : Int32))]) rfl) ?_
  show Go p e below _ (T4.setTop (mkF m 22 #[.val (.ref t1), .val (.int ch), .val (.int (0 : Int32)), .val (.int (4 : Int32))] []))
  refine Go.via (fun _ => XS.iloadN X4.here hx rfl (hb hby d14_22) rfl) ?_
  show Go p e below _ (T4.setTop (mkF m 23 #[.val (.ref t1), .val (.int ch), .val (.int (0 : Int32)), .val (.int (4 : Int32))] [(.int (0 : Int32))]))
  refine Go.via (fun _ => XS.iloadN X4.here hx rfl (hb hby d14_23) rfl) ?_
  show Go p e below _ (T4.setTop (mkF m 24 #[.val (.ref t1), .val (.int ch), .val (.int (0 : Int32)), .val (.int (4 : Int32))] [(.int (4 : Int32)), (.int (0 : Int32))]))
  refine Go.via (fun _ => XS.icmpYes X4.here hx rfl (pc0 := 24) (pc' := 29) rfl (hb hby d14_24) rfl (by decide) (by decide) (by decide)) ?_
  show Go p e below _ (T4.setTop (mkF m 29 #[.val (.ref t1), .val (.int ch), .val (.int (0 : Int32)), .val (.int (4 : Int32))] []))
  refine Go.via (fun _ => XS.aloadN X4.here hx rfl (hb hby d14_29) rfl rfl) ?_
  show Go p e below _ (T4.setTop (mkF m 30 #[.val (.ref t1), .val (.int ch), .val (.int (0 : Int32)), .val (.int (4 : Int32))] [(.ref t1)]))
  refine Go.via (fun _ => XS.iloadN X4.here hx rfl (hb hby d14_30) rfl) ?_
  show Go p e below _ (T4.setTop (mkF m 31 #[.val (.ref t1), .val (.int ch), .val (.int (0 : Int32)), .val (.int (4 : Int32))] [(.int ch), (.ref t1)]))
  refine Go.via (fun _ => XS.iloadN X4.here hx rfl (hb hby d14_31) rfl) ?_
  show Go p e below _ (T4.setTop (mkF m 32 #[.val (.ref t1), .val (.int ch), .val (.int (0 : Int32)), .val (.int (4 : Int32))] [(.int (0 : Int32)), (.int ch), (.ref t1)]))
  refine Go.via (fun _ => XS.iloadN X4.here hx rfl (hb hby d14_32) rfl) ?_
  show Go p e below _ (T4.setTop (mkF m 33 #[.val (.ref t1), .val (.int ch), .val (.int (0 : Int32)), .val (.int (4 : Int32))] [(.int (4 : Int32)), (.int (0 : Int32)), (.int ch), (.ref t1)]))
  obtain ⟨_, _, ⟨T5, L5, k5, n5⟩, -, X5, ⟨Lc5, hQ5, l5, y5, z5⟩, st5⟩ := Jvm.LawKit.callS X4 hx (y := (⟨"java/lang/StringLatin1", "indexOfChar", "([BIII)I"⟩ : MethodName)) hown (mvT hZ (hw _ (List.mem_of_getElem? (i := 89) rfl))) (mvT hZ (hw _ (List.mem_of_getElem? (i := 90) rfl))) (mvT hZ (hw _ (List.mem_of_getElem? (i := 77) rfl))) (mvT hZ (hw _ (List.mem_of_getElem? (i := 91) rfl))) (by decide) (backOf (W := 0) (rmIxC_4_0 l Z a0 hw [] t1 kb c0 c1 c2 c3 ch h0 n0 Z0 V2 qe0 qe1 qe2 qe3) hZ (hw _ (List.mem_of_getElem? (i := 91) rfl)) (hw _ (List.mem_of_getElem? (i := 77) rfl)) (by decide) (by decide)) (g := (mkF m 33 #[.val (.ref t1), .val (.int ch), .val (.int (0 : Int32)), .val (.int (4 : Int32))] [(.int (4 : Int32)), (.int (0 : Int32)), (.int ch), (.ref t1)])) rfl (by rw [hml]; rfl) (argsL := [(.ref t1), (.int ch), (.int (0 : Int32)), (.int (4 : Int32))]) (rest := []) (lenOf pd_3 rfl) rfl (by show 2 * 0 + _ ≤ _; exact Nat.le_of_eq rfl) (hb hby d14_33) (fun _ _ => ⟨rfl, e4q, (by decide : 0 + 0 ≤ _), (by decide : 0 + 0 ≤ _)⟩)
  dsimp only [Pt.U, Pt.locs, Pt.cells, Pt.slots] at X5 l5 y5 z5 st5 hQ5
  subst l5 y5 z5
  obtain ⟨rfl, N5q, e5q⟩ := hQ5
  have N5 := Fr.app N4 N5q
  refine Go.via st5 ?_
  show Go p e below _ (T5.setTop (mkF m 36 #[.val (.ref t1), .val (.int ch), .val (.int (0 : Int32)), .val (.int (4 : Int32))] [(.int (ix4 c0 c1 c2 c3 ch (0 : Int32)))]))
  exact own_retI X5 hx hlk Bd.returns (hb hby d14_36) (by show QIxL_4_neg Z t1 kb c0 c1 c2 c3 ch i h0 n0 _ T5.heap _; rw [e5q]; exact ⟨by rw [own_ixneg hi], N5, rfl⟩) (by decide) (by decide)
theorem ef_rmIxS_4_neg (m : MethodId) (x0 : Addr) (x1 : Int32) (x2 : Int32) : entryFrame m #[(.ref x0), (.int x1), (.int x2)] 3 = mkF m 0 #[.val (.ref x0), .val (.int x1), .val (.int x2)] [] := by first | (simp [entryFrame, mkF, argsToLocals, Value.category]; done) | rfl
set_option maxRecDepth 65536 in
set_option maxHeartbeats 40000000 in
theorem rmIxS_4_neg (l : Launch) (Z : State) (a0 : Array Value) (hw : ∀ d ∈ tables_1, d.before a0 Z = true) (ws : List Jvm.Cond) (a1 : Addr) (t1 : Addr) (kb : ClassId) (c0 : Int32) (c1 : Int32) (c2 : Int32) (c3 : Int32) (ch : Int32) (i : Int32) (ccs : Int32) (h0 : Heap) (n0 : Nat) (Z0 : n0 ≤ h0.size) (E1 : Exa Z h0 a1 "java/lang/String") (F1 : Fld Z h0 a1 "java/lang/String" "value" "[B" (.ref t1)) (F2 : Fld Z h0 a1 "java/lang/String" "coder" "B" (.int (0 : Int32))) (V2 : Arv Z h0 t1 kb .byte (4 : Int32) [(.int (nar .byte (c0.toInt8.toInt32))), (.int (nar .byte (c1.toInt8.toInt32))), (.int (nar .byte (c2.toInt8.toInt32))), (.int (nar .byte (c3.toInt8.toInt32)))] (.int (0 : Int32))) (qe0 : (nar .byte (c0.toInt8.toInt32) = ch.toInt8.toInt32) ↔ c0 = ch) (qe1 : (nar .byte (c1.toInt8.toInt32) = ch.toInt8.toInt32) ↔ c1 = ch) (qe2 : (nar .byte (c2.toInt8.toInt32) = ch.toInt8.toInt32) ↔ c2 = ch) (qe3 : (nar .byte (c3.toInt8.toInt32) = ch.toInt8.toInt32) ↔ c3 = ch) (hc0 : ¬ (ch < (0 : Int32))) (hc1 : ¬ ((255 : Int32) < ch)) (O0 : Old Z n0 h0) (S_CS : Sta Z Z.heap "java/lang/String" "COMPACT_STRINGS" "Z" (.int ccs)) (hcs : ¬ (ccs = (0 : Int32))) (hi : i < (0 : Int32)) :
    MetFree l (⟨"java/lang/String", "indexOf", "(II)I"⟩ : MethodName) (head1 (Jvm.Cond.code (⟨"java/lang/String", "indexOf", "(II)I"⟩ : MethodName) jdk_42_method_80_code 3 (some .int) :: ws) ({ frames := 3, cells := 0, slots := 0, locals := 60 } : Room)) (fun a U => a = #[(.ref a1), (.int ch), (.int i)] ∧ Z.Warmed39 U.vm ∧ U.heap = h0) (fun _ _ _ _ _ => True) (fun _ U o U' => ∃ v L, o = .returned v ∧ QIx4 Z c0 c1 c2 c3 ch i h0 n0 v U'.heap L ∧ FrameEnd U o U' L ({ frames := 3, cells := 0, slots := 0, locals := 60 } : Room).cells ({ frames := 3, cells := 0, slots := 0, locals := 60 } : Room).slots) := by
  refine MetFree.of_bodySF (plainFor_of_name pn_java_lang_String) hisR ?_
  intro p e s m args below meth c s₁ Bd hml0 hP hK
  obtain ⟨rfl, hZ, hh⟩ := hP
  have hx := Bd.exec
  have hby := Bd.bytes
  have hlk : meth.locks = false := Bd.notSynchronized
  have hml : c.maxLocals = 3 := hml0
  have hown : s.vm.findClass "java/lang/String" = some m.cls := findClass_of_methodNamed Bd.named
  have hnm := (name_of_methodNamed Bd.named Bd.method).1
  have X0 : Stand p l e ({ frames := 3, cells := 0, slots := 0, locals := 60 } : Room) s m #[(.ref a1), (.int ch), (.int i)] below meth c s₁ [] 0 0 := Stand.of_body Bd
  have e0 : s₁.heap = h0 := by rw [← hh, Bd.state]; rfl
  have N0 := Fr.nil n0
  show Go p e below (FinE s below (QIx4 Z c0 c1 c2 c3 ch i h0 n0) ({ frames := 3, cells := 0, slots := 0, locals := 60 } : Room).cells ({ frames := 3, cells := 0, slots := 0, locals := 60 } : Room).slots) (s₁.setTop (entryFrame m #[(.ref a1), (.int ch), (.int i)] 3))
  refine Go.via (fun t k => castTop (ef_rmIxS_4_neg m a1 ch i) k) ?_
  show Go p e below _ (s₁.setTop (mkF m 0 #[.val (.ref a1), .val (.int ch), .val (.int i)] []))
  refine Go.via (fun _ => XS.aloadN X0.here hx rfl (hb hby d10_0) rfl rfl) ?_
  show Go p e below _ (s₁.setTop (mkF m 1 #[.val (.ref a1), .val (.int ch), .val (.int i)] [(.ref a1)]))
  obtain ⟨cq1, kq1, q1a, q1b, q1c⟩ := isOf hZ e0 E1
  obtain ⟨_, _, ⟨T1, L1, k1, n1⟩, -, X1, ⟨Lc1, hQ1, l1, y1, z1⟩, st1⟩ := X0.virtualBack hx (y := (⟨"java/lang/String", "isLatin1", "()Z"⟩ : MethodName)) (z := (⟨"java/lang/String", "isLatin1", "()Z"⟩ : MethodName)) hown (mvT hZ (hw _ (List.mem_of_getElem? (i := 60) rfl))) (mvT hZ (hw _ (List.mem_of_getElem? (i := 61) rfl))) (notFace_of_selects (args := #[]) (mvT hZ (hw _ (List.mem_of_getElem? (i := 63) rfl)))) (mvT hZ (hw _ (List.mem_of_getElem? (i := 63) rfl))) (mvT hZ (hw _ (List.mem_of_getElem? (i := 62) rfl))) (by decide) (backOf (W := 0) (rmIsLat l Z a0 hw [] a1 ccs h0 n0 Z0 F2 O0 S_CS hcs) hZ (hw _ (List.mem_of_getElem? (i := 64) rfl)) (hw _ (List.mem_of_getElem? (i := 5) rfl)) (by decide) (by decide)) q1a q1c (g := (mkF m 1 #[.val (.ref a1), .val (.int ch), .val (.int i)] [(.ref a1)])) rfl (by rw [hml]; rfl) (Steps.refl _) (argsL := []) (rest := []) (lenOf pd_4 rfl) rfl (by show 2 * 0 + _ ≤ _; exact Nat.le_of_eq rfl) (hb hby d10_1) (fun _ _ => ⟨rfl, e0, (by decide : 0 + 0 ≤ _), (by decide : 0 + 0 ≤ _)⟩)
  dsimp only [Pt.U, Pt.locs, Pt.cells, Pt.slots] at X1 l1 y1 z1 st1 hQ1
  subst l1 y1 z1
  obtain ⟨rfl, N1q, e1q⟩ := hQ1
  have N1 := Fr.app N0 N1q
  refine Go.tr st1 ?_
  show Go p e below _ (T1.setTop (mkF m 4 #[.val (.ref a1), .val (.int ch), .val (.int i)] [(.int (1 : Int32))]))
  refine Go.via (fun _ => XS.ifNo X1.here hx rfl (hb hby d10_4) rfl (by decide)) ?_
  show Go p e below _ (T1.setTop (mkF m 7 #[.val (.ref a1), .val (.int ch), .val (.int i)] []))
  refine Go.via (fun _ => XS.aloadN X1.here hx rfl (hb hby d10_7) rfl rfl) ?_
  show Go p e below _ (T1.setTop (mkF m 8 #[.val (.ref a1), .val (.int ch), .val (.int i)] [(.ref a1)]))
  obtain ⟨T2, X2, e2, st2⟩ := getF X1 hx hZ hown (host := "") (Or.inl (hw _ (List.mem_of_getElem? (i := 31) rfl))) Via.refl e1q F1 (g := (mkF m 8 #[.val (.ref a1), .val (.int ch), .val (.int i)] [(.ref a1)])) rfl rfl (hb hby d10_8)
  refine Go.via st2 ?_
  show Go p e below _ (T2.setTop (mkF m 11 #[.val (.ref a1), .val (.int ch), .val (.int i)] [(.ref t1)]))
  refine Go.via (fun _ => XS.iloadN X2.here hx rfl (hb hby d10_11) rfl) ?_
  show Go p e below _ (T2.setTop (mkF m 12 #[.val (.ref a1), .val (.int ch), .val (.int i)] [(.int ch), (.ref t1)]))
  refine Go.via (fun _ => XS.iloadN X2.here hx rfl (hb hby d10_12) rfl) ?_
  show Go p e below _ (T2.setTop (mkF m 13 #[.val (.ref a1), .val (.int ch), .val (.int i)] [(.int i), (.int ch), (.ref t1)]))
  refine Go.via (fun _ => XS.aloadN X2.here hx rfl (hb hby d10_13) rfl rfl) ?_
  show Go p e below _ (T2.setTop (mkF m 14 #[.val (.ref a1), .val (.int ch), .val (.int i)] [(.ref a1), (.int i), (.int ch), (.ref t1)]))
  obtain ⟨cq3, kq3, q3a, q3b, q3c⟩ := isOf hZ e2 E1
  obtain ⟨_, _, ⟨T3, L3, k3, n3⟩, -, X3, ⟨Lc3, hQ3, l3, y3, z3⟩, st3⟩ := X2.virtualBack hx (y := (⟨"java/lang/String", "length", "()I"⟩ : MethodName)) (z := (⟨"java/lang/String", "length", "()I"⟩ : MethodName)) hown (mvT hZ (hw _ (List.mem_of_getElem? (i := 65) rfl))) (mvT hZ (hw _ (List.mem_of_getElem? (i := 66) rfl))) (notFace_of_selects (args := #[]) (mvT hZ (hw _ (List.mem_of_getElem? (i := 68) rfl)))) (mvT hZ (hw _ (List.mem_of_getElem? (i := 68) rfl))) (mvT hZ (hw _ (List.mem_of_getElem? (i := 67) rfl))) (by decide) (backOf (W := 3) (rmLen_4 l Z a0 hw [] a1 t1 kb _ ccs h0 n0 Z0 E1 F1 F2 V2 O0 S_CS hcs) hZ (hw _ (List.mem_of_getElem? (i := 69) rfl)) (hw _ (List.mem_of_getElem? (i := 5) rfl)) (by decide) (by decide)) q3a q3c (g := (mkF m 14 #[.val (.ref a1), .val (.int ch), .val (.int i)] [(.ref a1), (.int i), (.int ch), (.ref t1)])) rfl (by rw [hml]; rfl) (Steps.refl _) (argsL := []) (rest := [(.int i), (.int ch), (.ref t1)]) (lenOf pd_5 rfl) rfl (by show 2 * 0 + _ ≤ _; exact Nat.le_of_eq rfl) (hb hby d10_14) (fun _ _ => ⟨rfl, e2, (by decide : 0 + 0 ≤ _), (by decide : 0 + 0 ≤ _)⟩)
  dsimp only [Pt.U, Pt.locs, Pt.cells, Pt.slots] at X3 l3 y3 z3 st3 hQ3
  subst l3 y3 z3
  obtain ⟨rfl, N3q, e3q⟩ := hQ3
  have N3 := Fr.app N1 N3q
  refine Go.tr st3 ?_
  show Go p e below _ (T3.setTop (mkF m 17 #[.val (.ref a1), .val (.int ch), .val (.int i)] [(.int (4 : Int32)), (.int i), (.int ch), (.ref t1)]))
  obtain ⟨_, _, ⟨T4, L4, k4, n4⟩, -, X4, ⟨Lc4, hQ4, l4, y4, z4⟩, st4⟩ := Jvm.LawKit.callS X3 hx (y := (⟨"java/lang/StringLatin1", "indexOf", "([BIII)I"⟩ : MethodName)) hown (mvT hZ (hw _ (List.mem_of_getElem? (i := 75) rfl))) (mvT hZ (hw _ (List.mem_of_getElem? (i := 76) rfl))) (mvT hZ (hw _ (List.mem_of_getElem? (i := 77) rfl))) (mvT hZ (hw _ (List.mem_of_getElem? (i := 78) rfl))) (by decide) (backOf (W := 0) (rmIxL_4_neg l Z a0 hw [] t1 kb c0 c1 c2 c3 ch i h0 n0 Z0 V2 qe0 qe1 qe2 qe3 hc0 hc1 hi) hZ (hw _ (List.mem_of_getElem? (i := 78) rfl)) (hw _ (List.mem_of_getElem? (i := 77) rfl)) (by decide) (by decide)) (g := (mkF m 17 #[.val (.ref a1), .val (.int ch), .val (.int i)] [(.int (4 : Int32)), (.int i), (.int ch), (.ref t1)])) rfl (by rw [hml]; rfl) (argsL := [(.ref t1), (.int ch), (.int i), (.int (4 : Int32))]) (rest := []) (lenOf pd_3 rfl) rfl (by show 2 * 0 + _ ≤ _; exact Nat.le_of_eq rfl) (hb hby d10_17) (fun _ _ => ⟨rfl, e3q, (by decide : 0 + 0 ≤ _), (by decide : 0 + 0 ≤ _)⟩)
  dsimp only [Pt.U, Pt.locs, Pt.cells, Pt.slots] at X4 l4 y4 z4 st4 hQ4
  subst l4 y4 z4
  obtain ⟨rfl, N4q, e4q⟩ := hQ4
  have N4 := Fr.app N3 N4q
  refine Go.via st4 ?_
  show Go p e below _ (T4.setTop (mkF m 20 #[.val (.ref a1), .val (.int ch), .val (.int i)] [(.int (ix4 c0 c1 c2 c3 ch i))]))
  refine Go.via (fun _ => XS.goto X4.here hx rfl (pc0 := 20) (pc' := 36) rfl (hb hby d10_20) (by decide) (by decide)) ?_
  show Go p e below _ (T4.setTop (mkF m 36 #[.val (.ref a1), .val (.int ch), .val (.int i)] [(.int (ix4 c0 c1 c2 c3 ch i))]))
  exact own_retI X4 hx hlk Bd.returns (hb hby d10_36) (by show QIx4 Z c0 c1 c2 c3 ch i h0 n0 _ T4.heap _; rw [e4q]; exact ⟨rfl, N4, rfl⟩) (by decide) (by decide)
theorem ef_rm_max_1 (m : MethodId) (x0 : Int32) (x1 : Int32) : entryFrame m #[(.int x0), (.int x1)] 2 = mkF m 0 #[.val (.int x0), .val (.int x1)] [] := by first | (simp [entryFrame, mkF, argsToLocals, Value.category]; done) | rfl
def Q_max_1 (Z : State) (p1 : Int32) (p2 : Int32) (h0 : Heap) (n0 : Nat) (v : Option Value) (h : Heap) (L : List Loc) : Prop := v = some (.int p1) ∧ Fr n0 L ∧ h = h0
set_option maxRecDepth 65536 in
set_option maxHeartbeats 40000000 in
theorem rm_max_1 (l : Launch) (Z : State) (a0 : Array Value) (hw : ∀ d ∈ tables_1, d.before a0 Z = true) (ws : List Jvm.Cond) (p1 : Int32) (p2 : Int32) (h0 : Heap) (n0 : Nat) (Z0 : n0 ≤ h0.size) (hm : ¬ (p1 < p2)) :
    MetFree l (⟨"java/lang/Math", "max", "(II)I"⟩ : MethodName) (head1 (Jvm.Cond.code (⟨"java/lang/Math", "max", "(II)I"⟩ : MethodName) jdk_29_method_65_code 2 (some .int) :: ws) ({ frames := 0, cells := 0, slots := 0, locals := 0 } : Room)) (fun a U => a = #[(.int p1), (.int p2)] ∧ Z.Warmed39 U.vm ∧ U.heap = h0) (fun _ _ _ _ _ => True) (fun _ U o U' => ∃ v L, o = .returned v ∧ Q_max_1 Z p1 p2 h0 n0 v U'.heap L ∧ FrameEnd U o U' L ({ frames := 0, cells := 0, slots := 0, locals := 0 } : Room).cells ({ frames := 0, cells := 0, slots := 0, locals := 0 } : Room).slots) := by
  refine MetFree.of_bodySF (Jvm.Free.JP.mathPlain rfl (by decide +kernel)) hisR ?_
  intro p e s m args below meth c s₁ Bd hml0 hP hK
  obtain ⟨rfl, hZ, hh⟩ := hP
  have hx := Bd.exec
  have hby := Bd.bytes
  have hlk : meth.locks = false := Bd.notSynchronized
  have hml : c.maxLocals = 2 := hml0
  have hown : s.vm.findClass "java/lang/Math" = some m.cls := findClass_of_methodNamed Bd.named
  have hnm := (name_of_methodNamed Bd.named Bd.method).1
  have X0 : Stand p l e ({ frames := 0, cells := 0, slots := 0, locals := 0 } : Room) s m #[(.int p1), (.int p2)] below meth c s₁ [] 0 0 := Stand.of_body Bd
  have e0 : s₁.heap = h0 := by rw [← hh, Bd.state]; rfl
  have N0 := Fr.nil n0
  show Go p e below (FinE s below (Q_max_1 Z p1 p2 h0 n0) ({ frames := 0, cells := 0, slots := 0, locals := 0 } : Room).cells ({ frames := 0, cells := 0, slots := 0, locals := 0 } : Room).slots) (s₁.setTop (entryFrame m #[(.int p1), (.int p2)] 2))
  refine Go.via (fun t k => castTop (ef_rm_max_1 m p1 p2) k) ?_
  show Go p e below _ (s₁.setTop (mkF m 0 #[.val (.int p1), .val (.int p2)] []))
  refine Go.via (fun _ => XS.iloadN X0.here hx rfl (hb hby d16_0) rfl) ?_
  show Go p e below _ (s₁.setTop (mkF m 1 #[.val (.int p1), .val (.int p2)] [(.int p1)]))
  refine Go.via (fun _ => XS.iloadN X0.here hx rfl (hb hby d16_1) rfl) ?_
  show Go p e below _ (s₁.setTop (mkF m 2 #[.val (.int p1), .val (.int p2)] [(.int p2), (.int p1)]))
  refine Go.via (fun _ => XS.icmpNo X0.here hx rfl (hb hby d16_2) rfl (flt hm).1) ?_
  show Go p e below _ (s₁.setTop (mkF m 5 #[.val (.int p1), .val (.int p2)] []))
  refine Go.via (fun _ => XS.iloadN X0.here hx rfl (hb hby d16_5) rfl) ?_
  show Go p e below _ (s₁.setTop (mkF m 6 #[.val (.int p1), .val (.int p2)] [(.int p1)]))
  refine Go.via (fun _ => XS.goto X0.here hx rfl (pc0 := 6) (pc' := 10) rfl (hb hby d16_6) (by decide) (by decide)) ?_
  show Go p e below _ (s₁.setTop (mkF m 10 #[.val (.int p1), .val (.int p2)] [(.int p1)]))
  exact own_retI X0 hx hlk Bd.returns (hb hby d16_10) (by show Q_max_1 Z p1 p2 h0 n0 _ s₁.heap _; rw [e0]; exact ⟨rfl, N0, rfl⟩) (by decide) (by decide)
theorem ef_rmIxL_4_0 (m : MethodId) (x0 : Addr) (x1 : Int32) : entryFrame m #[(.ref x0), (.int x1), (.int (0 : Int32)), (.int (4 : Int32))] 4 = mkF m 0 #[.val (.ref x0), .val (.int x1), .val (.int (0 : Int32)), .val (.int (4 : Int32))] [] := by first | (simp [entryFrame, mkF, argsToLocals, Value.category]; done) | rfl
def QIxL_4_0 (Z : State) (t1 : Addr) (kb : ClassId) (c0 : Int32) (c1 : Int32) (c2 : Int32) (c3 : Int32) (ch : Int32) (h0 : Heap) (n0 : Nat) (v : Option Value) (h : Heap) (L : List Loc) : Prop := v = some (.int (ix4 c0 c1 c2 c3 ch (0 : Int32))) ∧ Fr n0 L ∧ h = h0
set_option maxRecDepth 65536 in
set_option maxHeartbeats 40000000 in
theorem rmIxL_4_0 (l : Launch) (Z : State) (a0 : Array Value) (hw : ∀ d ∈ tables_1, d.before a0 Z = true) (ws : List Jvm.Cond) (t1 : Addr) (kb : ClassId) (c0 : Int32) (c1 : Int32) (c2 : Int32) (c3 : Int32) (ch : Int32) (h0 : Heap) (n0 : Nat) (Z0 : n0 ≤ h0.size) (V2 : Arv Z h0 t1 kb .byte (4 : Int32) [(.int (nar .byte (c0.toInt8.toInt32))), (.int (nar .byte (c1.toInt8.toInt32))), (.int (nar .byte (c2.toInt8.toInt32))), (.int (nar .byte (c3.toInt8.toInt32)))] (.int (0 : Int32))) (qe0 : (nar .byte (c0.toInt8.toInt32) = ch.toInt8.toInt32) ↔ c0 = ch) (qe1 : (nar .byte (c1.toInt8.toInt32) = ch.toInt8.toInt32) ↔ c1 = ch) (qe2 : (nar .byte (c2.toInt8.toInt32) = ch.toInt8.toInt32) ↔ c2 = ch) (qe3 : (nar .byte (c3.toInt8.toInt32) = ch.toInt8.toInt32) ↔ c3 = ch) (hc0 : ¬ (ch < (0 : Int32))) (hc1 : ¬ ((255 : Int32) < ch)) :
    MetFree l (⟨"java/lang/StringLatin1", "indexOf", "([BIII)I"⟩ : MethodName) (head1 (Jvm.Cond.code (⟨"java/lang/StringLatin1", "indexOf", "([BIII)I"⟩ : MethodName) jdk_43_method_22_code 4 (some .int) :: ws) ({ frames := 1, cells := 0, slots := 0, locals := 17 } : Room)) (fun a U => a = #[(.ref t1), (.int ch), (.int (0 : Int32)), (.int (4 : Int32))] ∧ Z.Warmed39 U.vm ∧ U.heap = h0) (fun _ _ _ _ _ => True) (fun _ U o U' => ∃ v L, o = .returned v ∧ QIxL_4_0 Z t1 kb c0 c1 c2 c3 ch h0 n0 v U'.heap L ∧ FrameEnd U o U' L ({ frames := 1, cells := 0, slots := 0, locals := 17 } : Room).cells ({ frames := 1, cells := 0, slots := 0, locals := 17 } : Room).slots) := by
  refine MetFree.of_bodySF (plainFor_of_name pn_java_lang_StringLatin1) hisR ?_
  intro p e s m args below meth c s₁ Bd hml0 hP hK
  obtain ⟨rfl, hZ, hh⟩ := hP
  have hx := Bd.exec
  have hby := Bd.bytes
  have hlk : meth.locks = false := Bd.notSynchronized
  have hml : c.maxLocals = 4 := hml0
  have hown : s.vm.findClass "java/lang/StringLatin1" = some m.cls := findClass_of_methodNamed Bd.named
  have hnm := (name_of_methodNamed Bd.named Bd.method).1
  have X0 : Stand p l e ({ frames := 1, cells := 0, slots := 0, locals := 17 } : Room) s m #[(.ref t1), (.int ch), (.int (0 : Int32)), (.int (4 : Int32))] below meth c s₁ [] 0 0 := Stand.of_body Bd
  have e0 : s₁.heap = h0 := by rw [← hh, Bd.state]; rfl
  have N0 := Fr.nil n0
  show Go p e below (FinE s below (QIxL_4_0 Z t1 kb c0 c1 c2 c3 ch h0 n0) ({ frames := 1, cells := 0, slots := 0, locals := 17 } : Room).cells ({ frames := 1, cells := 0, slots := 0, locals := 17 } : Room).slots) (s₁.setTop (entryFrame m #[(.ref t1), (.int ch), (.int (0 : Int32)), (.int (4 : Int32))] 4))
  refine Go.via (fun t k => castTop (ef_rmIxL_4_0 m t1 ch) k) ?_
  show Go p e below _ (s₁.setTop (mkF m 0 #[.val (.ref t1), .val (.int ch), .val (.int (0 : Int32)), .val (.int (4 : Int32))] []))
  refine Go.via (fun _ => XS.iloadN X0.here hx rfl (hb hby d14_0) rfl) ?_
  show Go p e below _ (s₁.setTop (mkF m 1 #[.val (.ref t1), .val (.int ch), .val (.int (0 : Int32)), .val (.int (4 : Int32))] [(.int ch)]))
  obtain ⟨_, _, ⟨T1, L1, k1, n1⟩, -, X1, ⟨Lc1, hQ1, l1, y1, z1⟩, st1⟩ := Jvm.LawKit.callS X0 hx (y := (⟨"java/lang/StringLatin1", "canEncode", "(I)Z"⟩ : MethodName)) hown (mvT hZ (hw _ (List.mem_of_getElem? (i := 79) rfl))) (mvT hZ (hw _ (List.mem_of_getElem? (i := 80) rfl))) (mvT hZ (hw _ (List.mem_of_getElem? (i := 77) rfl))) (mvT hZ (hw _ (List.mem_of_getElem? (i := 81) rfl))) (by decide) (backOf (W := 0) (rmCanI l Z a0 hw [] ch h0 n0 Z0 hc0 hc1) hZ (hw _ (List.mem_of_getElem? (i := 81) rfl)) (hw _ (List.mem_of_getElem? (i := 77) rfl)) (by decide) (by decide)) (g := (mkF m 1 #[.val (.ref t1), .val (.int ch), .val (.int (0 : Int32)), .val (.int (4 : Int32))] [(.int ch)])) rfl (by rw [hml]; rfl) (argsL := [(.int ch)]) (rest := []) (lenOf pd_1 rfl) rfl (by show 2 * 0 + _ ≤ _; exact Nat.le_of_eq rfl) (hb hby d14_1) (fun _ _ => ⟨rfl, e0, (by decide : 0 + 0 ≤ _), (by decide : 0 + 0 ≤ _)⟩)
  dsimp only [Pt.U, Pt.locs, Pt.cells, Pt.slots] at X1 l1 y1 z1 st1 hQ1
  subst l1 y1 z1
  obtain ⟨rfl, N1q, e1q⟩ := hQ1
  have N1 := Fr.app N0 N1q
  refine Go.via st1 ?_
  show Go p e below _ (T1.setTop (mkF m 4 #[.val (.ref t1), .val (.int ch), .val (.int (0 : Int32)), .val (.int (4 : Int32))] [(.int (1 : Int32))]))
  refine Go.via (fun _ => XS.ifYes X1.here hx rfl (pc0 := 4) (pc' := 9) rfl (hb hby d14_4) rfl (by decide) (by decide) (by decide)) ?_
  show Go p e below _ (T1.setTop (mkF m 9 #[.val (.ref t1), .val (.int ch), .val (.int (0 : Int32)), .val (.int (4 : Int32))] []))
  refine Go.via (fun _ => XS.iloadN X1.here hx rfl (hb hby d14_9) rfl) ?_
  show Go p e below _ (T1.setTop (mkF m 10 #[.val (.ref t1), .val (.int ch), .val (.int (0 : Int32)), .val (.int (4 : Int32))] [(.int (0 : Int32))]))
  refine Go.via (fun _ => XS.iconst X1.here hx rfl (hb hby d14_10)) ?_
  show Go p e below _ (T1.setTop (mkF m 11 #[.val (.ref t1), .val (.int ch), .val (.int (0 : Int32)), .val (.int (4 : Int32))] [(.int (0 : Int32)), (.int (0 : Int32))]))
  obtain ⟨_, _, ⟨T2, L2, k2, n2⟩, -, X2, ⟨Lc2, hQ2, l2, y2, z2⟩, st2⟩ := Jvm.LawKit.callS X1 hx (y := (⟨"java/lang/Math", "max", "(II)I"⟩ : MethodName)) hown (mvT hZ (hw _ (List.mem_of_getElem? (i := 82) rfl))) (mvT hZ (hw _ (List.mem_of_getElem? (i := 83) rfl))) (mvT hZ (hw _ (List.mem_of_getElem? (i := 84) rfl))) (mvT hZ (hw _ (List.mem_of_getElem? (i := 85) rfl))) (by decide) (backOf (W := 0) (rm_max_1 l Z a0 hw [] (0 : Int32) (0 : Int32) h0 n0 Z0 (by decide)) hZ (hw _ (List.mem_of_getElem? (i := 85) rfl)) (hw _ (List.mem_of_getElem? (i := 84) rfl)) (by decide) (by decide)) (g := (mkF m 11 #[.val (.ref t1), .val (.int ch), .val (.int (0 : Int32)), .val (.int (4 : Int32))] [(.int (0 : Int32)), (.int (0 : Int32))])) rfl (by rw [hml]; rfl) (argsL := [(.int (0 : Int32)), (.int (0 : Int32))]) (rest := []) (lenOf pd_2 rfl) rfl (by show 2 * 0 + _ ≤ _; exact Nat.le_of_eq rfl) (hb hby d14_11) (fun _ _ => ⟨rfl, e1q, (by decide : 0 + 0 ≤ _), (by decide : 0 + 0 ≤ _)⟩)
  dsimp only [Pt.U, Pt.locs, Pt.cells, Pt.slots] at X2 l2 y2 z2 st2 hQ2
  subst l2 y2 z2
  obtain ⟨rfl, N2q, e2q⟩ := hQ2
  have N2 := Fr.app N1 N2q
  refine Go.via st2 ?_
  show Go p e below _ (T2.setTop (mkF m 14 #[.val (.ref t1), .val (.int ch), .val (.int (0 : Int32)), .val (.int (4 : Int32))] [(.int (0 : Int32))]))
  refine Go.via (fun _ => XS.istoreN X2.here hx rfl (hb hby d14_14) rfl (l' := #[.val (.ref t1), .val (.int ch), .val (.int (0 : Int32)), .val (.int (4 : Int32))]) rfl) ?_
  show Go p e below _ (T2.setTop (mkF m 15 #[.val (.ref t1), .val (.int ch), .val (.int (0 : Int32)), .val (.int (4 : Int32))] []))
  refine Go.via (fun _ => XS.iloadN X2.here hx rfl (hb hby d14_15) rfl) ?_
  show Go p e below _ (T2.setTop (mkF m 16 #[.val (.ref t1), .val (.int ch), .val (.int (0 : Int32)), .val (.int (4 : Int32))] [(.int (4 : Int32))]))
  refine Go.via (fun _ => XS.aloadN X2.here hx rfl (hb hby d14_16) rfl rfl) ?_
  show Go p e below _ (T2.setTop (mkF m 17 #[.val (.ref t1), .val (.int ch), .val (.int (0 : Int32)), .val (.int (4 : Int32))] [(.ref t1), (.int (4 : Int32))]))
  obtain ⟨cl3, Ar3, -, S3, N3n, -, -⟩ := id V2
  have al3 := X2.arraylength hx (by rw [e2q]; exact Ar3.1) (State.isArrayOf_alike hZ.alike Ar3.2.1) (g := (mkF m 17 #[.val (.ref t1), .val (.int ch), .val (.int (0 : Int32)), .val (.int (4 : Int32))] [(.ref t1), (.int (4 : Int32))])) rfl rfl (hb hby d14_17)
  rw [len_of S3 N3n] at al3
  refine Go.via al3 ?_
  show Go p e below _ (T2.setTop (mkF m 18 #[.val (.ref t1), .val (.int ch), .val (.int (0 : Int32)), .val (.int (4 : Int32))] [(.int (4 : Int32)), (.int (4 : Int32))]))
  obtain ⟨_, _, ⟨T4, L4, k4, n4⟩, -, X4, ⟨Lc4, hQ4, l4, y4, z4⟩, st4⟩ := Jvm.LawKit.callS X2 hx (y := (⟨"java/lang/Math", "min", "(II)I"⟩ : MethodName)) hown (mvT hZ (hw _ (List.mem_of_getElem? (i := 86) rfl))) (mvT hZ (hw _ (List.mem_of_getElem? (i := 87) rfl))) (mvT hZ (hw _ (List.mem_of_getElem? (i := 84) rfl))) (mvT hZ (hw _ (List.mem_of_getElem? (i := 88) rfl))) (by decide) (backOf (W := 0) (rm_min_1 l Z a0 hw [] (4 : Int32) (4 : Int32) h0 n0 Z0 (by decide)) hZ (hw _ (List.mem_of_getElem? (i := 88) rfl)) (hw _ (List.mem_of_getElem? (i := 84) rfl)) (by decide) (by decide)) (g := (mkF m 18 #[.val (.ref t1), .val (.int ch), .val (.int (0 : Int32)), .val (.int (4 : Int32))] [(.int (4 : Int32)), (.int (4 : Int32))])) rfl (by rw [hml]; rfl) (argsL := [(.int (4 : Int32)), (.int (4 : Int32))]) (rest := []) (lenOf pd_2 rfl) rfl (by show 2 * 0 + _ ≤ _; exact Nat.le_of_eq rfl) (hb hby d14_18) (fun _ _ => ⟨rfl, e2q, (by decide : 0 + 0 ≤ _), (by decide : 0 + 0 ≤ _)⟩)
  dsimp only [Pt.U, Pt.locs, Pt.cells, Pt.slots] at X4 l4 y4 z4 st4 hQ4
  subst l4 y4 z4
  obtain ⟨rfl, N4q, e4q⟩ := hQ4
  have N4 := Fr.app N2 N4q
  refine Go.via st4 ?_
  show Go p e below _ (T4.setTop (mkF m 21 #[.val (.ref t1), .val (.int ch), .val (.int (0 : Int32)), .val (.int (4 : Int32))] [(.int (4 : Int32))]))
  refine Go.via (fun _ => XS.istoreN X4.here hx rfl (hb hby d14_21) rfl (l' := #[.val (.ref t1), .val (.int ch), .val (.int (0 : Int32)), .val (.int (4 : Int32))]) rfl) ?_
  show Go p e below _ (T4.setTop (mkF m 22 #[.val (.ref t1), .val (.int ch), .val (.int (0 : Int32)), .val (.int (4 : Int32))] []))
  refine Go.via (fun _ => XS.iloadN X4.here hx rfl (hb hby d14_22) rfl) ?_
  show Go p e below _ (T4.setTop (mkF m 23 #[.val (.ref t1), .val (.int ch), .val (.int (0 : Int32)), .val (.int (4 : Int32))] [(.int (0 : Int32))]))
  refine Go.via (fun _ => XS.iloadN X4.here hx rfl (hb hby d14_23) rfl) ?_
  show Go p e below _ (T4.setTop (mkF m 24 #[.val (.ref t1), .val (.int ch), .val (.int (0 : Int32)), .val (.int (4 : Int32))] [(.int (4 : Int32)), (.int (0 : Int32))]))
  refine Go.via (fun _ => XS.icmpYes X4.here hx rfl (pc0 := 24) (pc' := 29) rfl (hb hby d14_24) rfl (by decide) (by decide) (by decide)) ?_
  show Go p e below _ (T4.setTop (mkF m 29 #[.val (.ref t1), .val (.int ch), .val (.int (0 : Int32)), .val (.int (4 : Int32))] []))
  refine Go.via (fun _ => XS.aloadN X4.here hx rfl (hb hby d14_29) rfl rfl) ?_
  show Go p e below _ (T4.setTop (mkF m 30 #[.val (.ref t1), .val (.int ch), .val (.int (0 : Int32)), .val (.int (4 : Int32))] [(.ref t1)]))
  refine Go.via (fun _ => XS.iloadN X4.here hx rfl (hb hby d14_30) rfl) ?_
  show Go p e below _ (T4.setTop (mkF m 31 #[.val (.ref t1), .val (.int ch), .val (.int (0 : Int32)), .val (.int (4 : Int32))] [(.int ch), (.ref t1)]))
  refine Go.via (fun _ => XS.iloadN X4.here hx rfl (hb hby d14_31) rfl) ?_
  show Go p e below _ (T4.setTop (mkF m 32 #[.val (.ref t1), .val (.int ch), .val (.int (0 : Int32)), .val (.int (4 : Int32))] [(.int (0 : Int32)), (.int ch), (.ref t1)]))
  refine Go.via (fun _ => XS.iloadN X4.here hx rfl (hb hby d14_32) rfl) ?_
  show Go p e below _ (T4.setTop (mkF m 33 #[.val (.ref t1), .val (.int ch), .val (.int (0 : Int32)), .val (.int (4 : Int32))] [(.int (4 : Int32)), (.int (0 : Int32)), (.int ch), (.ref t1)]))
  obtain ⟨_, _, ⟨T5, L5, k5, n5⟩, -, X5, ⟨Lc5, hQ5, l5, y5, z5⟩, st5⟩ := Jvm.LawKit.callS X4 hx (y := (⟨"java/lang/StringLatin1", "indexOfChar", "([BIII)I"⟩ : MethodName)) hown (mvT hZ (hw _ (List.mem_of_getElem? (i := 89) rfl))) (mvT hZ (hw _ (List.mem_of_getElem? (i := 90) rfl))) (mvT hZ (hw _ (List.mem_of_getElem? (i := 77) rfl))) (mvT hZ (hw _ (List.mem_of_getElem? (i := 91) rfl))) (by decide) (backOf (W := 0) (rmIxC_4_0 l Z a0 hw [] t1 kb c0 c1 c2 c3 ch h0 n0 Z0 V2 qe0 qe1 qe2 qe3) hZ (hw _ (List.mem_of_getElem? (i := 91) rfl)) (hw _ (List.mem_of_getElem? (i := 77) rfl)) (by decide) (by decide)) (g := (mkF m 33 #[.val (.ref t1), .val (.int ch), .val (.int (0 : Int32)), .val (.int (4 : Int32))] [(.int (4 : Int32)), (.int (0 : Int32)), (.int ch), (.ref t1)])) rfl (by rw [hml]; rfl) (argsL := [(.ref t1), (.int ch), (.int (0 : Int32)), (.int (4 : Int32))]) (rest := []) (lenOf pd_3 rfl) rfl (by show 2 * 0 + _ ≤ _; exact Nat.le_of_eq rfl) (hb hby d14_33) (fun _ _ => ⟨rfl, e4q, (by decide : 0 + 0 ≤ _), (by decide : 0 + 0 ≤ _)⟩)
  dsimp only [Pt.U, Pt.locs, Pt.cells, Pt.slots] at X5 l5 y5 z5 st5 hQ5
  subst l5 y5 z5
  obtain ⟨rfl, N5q, e5q⟩ := hQ5
  have N5 := Fr.app N4 N5q
  refine Go.via st5 ?_
  show Go p e below _ (T5.setTop (mkF m 36 #[.val (.ref t1), .val (.int ch), .val (.int (0 : Int32)), .val (.int (4 : Int32))] [(.int (ix4 c0 c1 c2 c3 ch (0 : Int32)))]))
  exact own_retI X5 hx hlk Bd.returns (hb hby d14_36) (by show QIxL_4_0 Z t1 kb c0 c1 c2 c3 ch h0 n0 _ T5.heap _; rw [e5q]; exact ⟨rfl, N5, rfl⟩) (by decide) (by decide)
theorem ef_rmIxS_4_0 (m : MethodId) (x0 : Addr) (x1 : Int32) : entryFrame m #[(.ref x0), (.int x1), (.int (0 : Int32))] 3 = mkF m 0 #[.val (.ref x0), .val (.int x1), .val (.int (0 : Int32))] [] := by first | (simp [entryFrame, mkF, argsToLocals, Value.category]; done) | rfl
set_option maxRecDepth 65536 in
set_option maxHeartbeats 40000000 in
theorem rmIxS_4_0 (l : Launch) (Z : State) (a0 : Array Value) (hw : ∀ d ∈ tables_1, d.before a0 Z = true) (ws : List Jvm.Cond) (a1 : Addr) (t1 : Addr) (kb : ClassId) (c0 : Int32) (c1 : Int32) (c2 : Int32) (c3 : Int32) (ch : Int32) (ccs : Int32) (h0 : Heap) (n0 : Nat) (Z0 : n0 ≤ h0.size) (E1 : Exa Z h0 a1 "java/lang/String") (F1 : Fld Z h0 a1 "java/lang/String" "value" "[B" (.ref t1)) (F2 : Fld Z h0 a1 "java/lang/String" "coder" "B" (.int (0 : Int32))) (V2 : Arv Z h0 t1 kb .byte (4 : Int32) [(.int (nar .byte (c0.toInt8.toInt32))), (.int (nar .byte (c1.toInt8.toInt32))), (.int (nar .byte (c2.toInt8.toInt32))), (.int (nar .byte (c3.toInt8.toInt32)))] (.int (0 : Int32))) (qe0 : (nar .byte (c0.toInt8.toInt32) = ch.toInt8.toInt32) ↔ c0 = ch) (qe1 : (nar .byte (c1.toInt8.toInt32) = ch.toInt8.toInt32) ↔ c1 = ch) (qe2 : (nar .byte (c2.toInt8.toInt32) = ch.toInt8.toInt32) ↔ c2 = ch) (qe3 : (nar .byte (c3.toInt8.toInt32) = ch.toInt8.toInt32) ↔ c3 = ch) (hc0 : ¬ (ch < (0 : Int32))) (hc1 : ¬ ((255 : Int32) < ch)) (O0 : Old Z n0 h0) (S_CS : Sta Z Z.heap "java/lang/String" "COMPACT_STRINGS" "Z" (.int ccs)) (hcs : ¬ (ccs = (0 : Int32))) :
    MetFree l (⟨"java/lang/String", "indexOf", "(II)I"⟩ : MethodName) (head1 (Jvm.Cond.code (⟨"java/lang/String", "indexOf", "(II)I"⟩ : MethodName) jdk_42_method_80_code 3 (some .int) :: ws) ({ frames := 3, cells := 0, slots := 0, locals := 60 } : Room)) (fun a U => a = #[(.ref a1), (.int ch), (.int (0 : Int32))] ∧ Z.Warmed39 U.vm ∧ U.heap = h0) (fun _ _ _ _ _ => True) (fun _ U o U' => ∃ v L, o = .returned v ∧ QIx4 Z c0 c1 c2 c3 ch (0 : Int32) h0 n0 v U'.heap L ∧ FrameEnd U o U' L ({ frames := 3, cells := 0, slots := 0, locals := 60 } : Room).cells ({ frames := 3, cells := 0, slots := 0, locals := 60 } : Room).slots) := by
  refine MetFree.of_bodySF (plainFor_of_name pn_java_lang_String) hisR ?_
  intro p e s m args below meth c s₁ Bd hml0 hP hK
  obtain ⟨rfl, hZ, hh⟩ := hP
  have hx := Bd.exec
  have hby := Bd.bytes
  have hlk : meth.locks = false := Bd.notSynchronized
  have hml : c.maxLocals = 3 := hml0
  have hown : s.vm.findClass "java/lang/String" = some m.cls := findClass_of_methodNamed Bd.named
  have hnm := (name_of_methodNamed Bd.named Bd.method).1
  have X0 : Stand p l e ({ frames := 3, cells := 0, slots := 0, locals := 60 } : Room) s m #[(.ref a1), (.int ch), (.int (0 : Int32))] below meth c s₁ [] 0 0 := Stand.of_body Bd
  have e0 : s₁.heap = h0 := by rw [← hh, Bd.state]; rfl
  have N0 := Fr.nil n0
  show Go p e below (FinE s below (QIx4 Z c0 c1 c2 c3 ch (0 : Int32) h0 n0) ({ frames := 3, cells := 0, slots := 0, locals := 60 } : Room).cells ({ frames := 3, cells := 0, slots := 0, locals := 60 } : Room).slots) (s₁.setTop (entryFrame m #[(.ref a1), (.int ch), (.int (0 : Int32))] 3))
  refine Go.via (fun t k => castTop (ef_rmIxS_4_0 m a1 ch) k) ?_
  show Go p e below _ (s₁.setTop (mkF m 0 #[.val (.ref a1), .val (.int ch), .val (.int (0 : Int32))] []))
  refine Go.via (fun _ => XS.aloadN X0.here hx rfl (hb hby d10_0) rfl rfl) ?_
  show Go p e below _ (s₁.setTop (mkF m 1 #[.val (.ref a1), .val (.int ch), .val (.int (0 : Int32))] [(.ref a1)]))
  obtain ⟨cq1, kq1, q1a, q1b, q1c⟩ := isOf hZ e0 E1
  obtain ⟨_, _, ⟨T1, L1, k1, n1⟩, -, X1, ⟨Lc1, hQ1, l1, y1, z1⟩, st1⟩ := X0.virtualBack hx (y := (⟨"java/lang/String", "isLatin1", "()Z"⟩ : MethodName)) (z := (⟨"java/lang/String", "isLatin1", "()Z"⟩ : MethodName)) hown (mvT hZ (hw _ (List.mem_of_getElem? (i := 60) rfl))) (mvT hZ (hw _ (List.mem_of_getElem? (i := 61) rfl))) (notFace_of_selects (args := #[]) (mvT hZ (hw _ (List.mem_of_getElem? (i := 63) rfl)))) (mvT hZ (hw _ (List.mem_of_getElem? (i := 63) rfl))) (mvT hZ (hw _ (List.mem_of_getElem? (i := 62) rfl))) (by decide) (backOf (W := 0) (rmIsLat l Z a0 hw [] a1 ccs h0 n0 Z0 F2 O0 S_CS hcs) hZ (hw _ (List.mem_of_getElem? (i := 64) rfl)) (hw _ (List.mem_of_getElem? (i := 5) rfl)) (by decide) (by decide)) q1a q1c (g := (mkF m 1 #[.val (.ref a1), .val (.int ch), .val (.int (0 : Int32))] [(.ref a1)])) rfl (by rw [hml]; rfl) (Steps.refl _) (argsL := []) (rest := []) (lenOf pd_4 rfl) rfl (by show 2 * 0 + _ ≤ _; exact Nat.le_of_eq rfl) (hb hby d10_1) (fun _ _ => ⟨rfl, e0, (by decide : 0 + 0 ≤ _), (by decide : 0 + 0 ≤ _)⟩)
  dsimp only [Pt.U, Pt.locs, Pt.cells, Pt.slots] at X1 l1 y1 z1 st1 hQ1
  subst l1 y1 z1
  obtain ⟨rfl, N1q, e1q⟩ := hQ1
  have N1 := Fr.app N0 N1q
  refine Go.tr st1 ?_
  show Go p e below _ (T1.setTop (mkF m 4 #[.val (.ref a1), .val (.int ch), .val (.int (0 : Int32))] [(.int (1 : Int32))]))
  refine Go.via (fun _ => XS.ifNo X1.here hx rfl (hb hby d10_4) rfl (by decide)) ?_
  show Go p e below _ (T1.setTop (mkF m 7 #[.val (.ref a1), .val (.int ch), .val (.int (0 : Int32))] []))
  refine Go.via (fun _ => XS.aloadN X1.here hx rfl (hb hby d10_7) rfl rfl) ?_
  show Go p e below _ (T1.setTop (mkF m 8 #[.val (.ref a1), .val (.int ch), .val (.int (0 : Int32))] [(.ref a1)]))
  obtain ⟨T2, X2, e2, st2⟩ := getF X1 hx hZ hown (host := "") (Or.inl (hw _ (List.mem_of_getElem? (i := 31) rfl))) Via.refl e1q F1 (g := (mkF m 8 #[.val (.ref a1), .val (.int ch), .val (.int (0 : Int32))] [(.ref a1)])) rfl rfl (hb hby d10_8)
  refine Go.via st2 ?_
  show Go p e below _ (T2.setTop (mkF m 11 #[.val (.ref a1), .val (.int ch), .val (.int (0 : Int32))] [(.ref t1)]))
  refine Go.via (fun _ => XS.iloadN X2.here hx rfl (hb hby d10_11) rfl) ?_
  show Go p e below _ (T2.setTop (mkF m 12 #[.val (.ref a1), .val (.int ch), .val (.int (0 : Int32))] [(.int ch), (.ref t1)]))
  refine Go.via (fun _ => XS.iloadN X2.here hx rfl (hb hby d10_12) rfl) ?_
  show Go p e below _ (T2.setTop (mkF m 13 #[.val (.ref a1), .val (.int ch), .val (.int (0 : Int32))] [(.int (0 : Int32)), (.int ch), (.ref t1)]))
  refine Go.via (fun _ => XS.aloadN X2.here hx rfl (hb hby d10_13) rfl rfl) ?_
  show Go p e below _ (T2.setTop (mkF m 14 #[.val (.ref a1), .val (.int ch), .val (.int (0 : Int32))] [(.ref a1), (.int (0 : Int32)), (.int ch), (.ref t1)]))
  obtain ⟨cq3, kq3, q3a, q3b, q3c⟩ := isOf hZ e2 E1
  obtain ⟨_, _, ⟨T3, L3, k3, n3⟩, -, X3, ⟨Lc3, hQ3, l3, y3, z3⟩, st3⟩ := X2.virtualBack hx (y := (⟨"java/lang/String", "length", "()I"⟩ : MethodName)) (z := (⟨"java/lang/String", "length", "()I"⟩ : MethodName)) hown (mvT hZ (hw _ (List.mem_of_getElem? (i := 65) rfl))) (mvT hZ (hw _ (List.mem_of_getElem? (i := 66) rfl))) (notFace_of_selects (args := #[]) (mvT hZ (hw _ (List.mem_of_getElem? (i := 68) rfl)))) (mvT hZ (hw _ (List.mem_of_getElem? (i := 68) rfl))) (mvT hZ (hw _ (List.mem_of_getElem? (i := 67) rfl))) (by decide) (backOf (W := 3) (rmLen_4 l Z a0 hw [] a1 t1 kb _ ccs h0 n0 Z0 E1 F1 F2 V2 O0 S_CS hcs) hZ (hw _ (List.mem_of_getElem? (i := 69) rfl)) (hw _ (List.mem_of_getElem? (i := 5) rfl)) (by decide) (by decide)) q3a q3c (g := (mkF m 14 #[.val (.ref a1), .val (.int ch), .val (.int (0 : Int32))] [(.ref a1), (.int (0 : Int32)), (.int ch), (.ref t1)])) rfl (by rw [hml]; rfl) (Steps.refl _) (argsL := []) (rest := [(.int (0 : Int32)), (.int ch), (.ref t1)]) (lenOf pd_5 rfl) rfl (by show 2 * 0 + _ ≤ _; exact Nat.le_of_eq rfl) (hb hby d10_14) (fun _ _ => ⟨rfl, e2, (by decide : 0 + 0 ≤ _), (by decide : 0 + 0 ≤ _)⟩)
  dsimp only [Pt.U, Pt.locs, Pt.cells, Pt.slots] at X3 l3 y3 z3 st3 hQ3
  subst l3 y3 z3
  obtain ⟨rfl, N3q, e3q⟩ := hQ3
  have N3 := Fr.app N1 N3q
  refine Go.tr st3 ?_
  show Go p e below _ (T3.setTop (mkF m 17 #[.val (.ref a1), .val (.int ch), .val (.int (0 : Int32))] [(.int (4 : Int32)), (.int (0 : Int32)), (.int ch), (.ref t1)]))
  obtain ⟨_, _, ⟨T4, L4, k4, n4⟩, -, X4, ⟨Lc4, hQ4, l4, y4, z4⟩, st4⟩ := Jvm.LawKit.callS X3 hx (y := (⟨"java/lang/StringLatin1", "indexOf", "([BIII)I"⟩ : MethodName)) hown (mvT hZ (hw _ (List.mem_of_getElem? (i := 75) rfl))) (mvT hZ (hw _ (List.mem_of_getElem? (i := 76) rfl))) (mvT hZ (hw _ (List.mem_of_getElem? (i := 77) rfl))) (mvT hZ (hw _ (List.mem_of_getElem? (i := 78) rfl))) (by decide) (backOf (W := 0) (rmIxL_4_0 l Z a0 hw [] t1 kb c0 c1 c2 c3 ch  h0 n0 Z0 V2 qe0 qe1 qe2 qe3 hc0 hc1) hZ (hw _ (List.mem_of_getElem? (i := 78) rfl)) (hw _ (List.mem_of_getElem? (i := 77) rfl)) (by decide) (by decide)) (g := (mkF m 17 #[.val (.ref a1), .val (.int ch), .val (.int (0 : Int32))] [(.int (4 : Int32)), (.int (0 : Int32)), (.int ch), (.ref t1)])) rfl (by rw [hml]; rfl) (argsL := [(.ref t1), (.int ch), (.int (0 : Int32)), (.int (4 : Int32))]) (rest := []) (lenOf pd_3 rfl) rfl (by show 2 * 0 + _ ≤ _; exact Nat.le_of_eq rfl) (hb hby d10_17) (fun _ _ => ⟨rfl, e3q, (by decide : 0 + 0 ≤ _), (by decide : 0 + 0 ≤ _)⟩)
  dsimp only [Pt.U, Pt.locs, Pt.cells, Pt.slots] at X4 l4 y4 z4 st4 hQ4
  subst l4 y4 z4
  obtain ⟨rfl, N4q, e4q⟩ := hQ4
  have N4 := Fr.app N3 N4q
  refine Go.via st4 ?_
  show Go p e below _ (T4.setTop (mkF m 20 #[.val (.ref a1), .val (.int ch), .val (.int (0 : Int32))] [(.int (ix4 c0 c1 c2 c3 ch (0 : Int32)))]))
  refine Go.via (fun _ => XS.goto X4.here hx rfl (pc0 := 20) (pc' := 36) rfl (hb hby d10_20) (by decide) (by decide)) ?_
  show Go p e below _ (T4.setTop (mkF m 36 #[.val (.ref a1), .val (.int ch), .val (.int (0 : Int32))] [(.int (ix4 c0 c1 c2 c3 ch (0 : Int32)))]))
  exact own_retI X4 hx hlk Bd.returns (hb hby d10_36) (by show QIx4 Z c0 c1 c2 c3 ch (0 : Int32) h0 n0 _ T4.heap _; rw [e4q]; exact ⟨rfl, N4, rfl⟩) (by decide) (by decide)
theorem ef_rmIxC_4_1 (m : MethodId) (x0 : Addr) (x1 : Int32) : entryFrame m #[(.ref x0), (.int x1), (.int (1 : Int32)), (.int (4 : Int32))] 6 = mkF m 0 #[.val (.ref x0), .val (.int x1), .val (.int (1 : Int32)), .val (.int (4 : Int32)), .unset, .unset] [] := by first | (simp [entryFrame, mkF, argsToLocals, Value.category]; done) | rfl
def QIxC_4_1 (Z : State) (t1 : Addr) (kb : ClassId) (c0 : Int32) (c1 : Int32) (c2 : Int32) (c3 : Int32) (ch : Int32) (h0 : Heap) (n0 : Nat) (v : Option Value) (h : Heap) (L : List Loc) : Prop := v = some (.int (ix4 c0 c1 c2 c3 ch (1 : Int32))) ∧ Fr n0 L ∧ h = h0
set_option maxRecDepth 65536 in
set_option maxHeartbeats 40000000 in
theorem rmIxC_4_1 (l : Launch) (Z : State) (a0 : Array Value) (hw : ∀ d ∈ tables_1, d.before a0 Z = true) (ws : List Jvm.Cond) (t1 : Addr) (kb : ClassId) (c0 : Int32) (c1 : Int32) (c2 : Int32) (c3 : Int32) (ch : Int32) (h0 : Heap) (n0 : Nat) (Z0 : n0 ≤ h0.size) (V2 : Arv Z h0 t1 kb .byte (4 : Int32) [(.int (nar .byte (c0.toInt8.toInt32))), (.int (nar .byte (c1.toInt8.toInt32))), (.int (nar .byte (c2.toInt8.toInt32))), (.int (nar .byte (c3.toInt8.toInt32)))] (.int (0 : Int32))) (qe0 : (nar .byte (c0.toInt8.toInt32) = ch.toInt8.toInt32) ↔ c0 = ch) (qe1 : (nar .byte (c1.toInt8.toInt32) = ch.toInt8.toInt32) ↔ c1 = ch) (qe2 : (nar .byte (c2.toInt8.toInt32) = ch.toInt8.toInt32) ↔ c2 = ch) (qe3 : (nar .byte (c3.toInt8.toInt32) = ch.toInt8.toInt32) ↔ c3 = ch) :
    MetFree l (⟨"java/lang/StringLatin1", "indexOfChar", "([BIII)I"⟩ : MethodName) (head1 (Jvm.Cond.code (⟨"java/lang/StringLatin1", "indexOfChar", "([BIII)I"⟩ : MethodName) jdk_43_method_23_code 6 (some .int) :: ws) ({ frames := 0, cells := 0, slots := 0, locals := 0 } : Room)) (fun a U => a = #[(.ref t1), (.int ch), (.int (1 : Int32)), (.int (4 : Int32))] ∧ Z.Warmed39 U.vm ∧ U.heap = h0) (fun _ _ _ _ _ => True) (fun _ U o U' => ∃ v L, o = .returned v ∧ QIxC_4_1 Z t1 kb c0 c1 c2 c3 ch h0 n0 v U'.heap L ∧ FrameEnd U o U' L ({ frames := 0, cells := 0, slots := 0, locals := 0 } : Room).cells ({ frames := 0, cells := 0, slots := 0, locals := 0 } : Room).slots) := by
  refine MetFree.of_bodySF (plainFor_of_name pn_java_lang_StringLatin1) hisR ?_
  intro p e s m args below meth c s₁ Bd hml0 hP hK
  obtain ⟨rfl, hZ, hh⟩ := hP
  have hx := Bd.exec
  have hby := Bd.bytes
  have hlk : meth.locks = false := Bd.notSynchronized
  have hml : c.maxLocals = 6 := hml0
  have hown : s.vm.findClass "java/lang/StringLatin1" = some m.cls := findClass_of_methodNamed Bd.named
  have hnm := (name_of_methodNamed Bd.named Bd.method).1
  have X0 : Stand p l e ({ frames := 0, cells := 0, slots := 0, locals := 0 } : Room) s m #[(.ref t1), (.int ch), (.int (1 : Int32)), (.int (4 : Int32))] below meth c s₁ [] 0 0 := Stand.of_body Bd
  have e0 : s₁.heap = h0 := by rw [← hh, Bd.state]; rfl
  have N0 := Fr.nil n0
  show Go p e below (FinE s below (QIxC_4_1 Z t1 kb c0 c1 c2 c3 ch h0 n0) ({ frames := 0, cells := 0, slots := 0, locals := 0 } : Room).cells ({ frames := 0, cells := 0, slots := 0, locals := 0 } : Room).slots) (s₁.setTop (entryFrame m #[(.ref t1), (.int ch), (.int (1 : Int32)), (.int (4 : Int32))] 6))
  refine Go.via (fun t k => castTop (ef_rmIxC_4_1 m t1 ch) k) ?_
  show Go p e below _ (s₁.setTop (mkF m 0 #[.val (.ref t1), .val (.int ch), .val (.int (1 : Int32)), .val (.int (4 : Int32)), .unset, .unset] []))
  refine Go.via (fun _ => XS.iloadN X0.here hx rfl (hb hby d18_0) rfl) ?_
  show Go p e below _ (s₁.setTop (mkF m 1 #[.val (.ref t1), .val (.int ch), .val (.int (1 : Int32)), .val (.int (4 : Int32)), .unset, .unset] [(.int ch)]))
  refine Go.via (fun _ => XS.i2b X0.here hx rfl (hb hby d18_1) rfl) ?_
  show Go p e below _ (s₁.setTop (mkF m 2 #[.val (.ref t1), .val (.int ch), .val (.int (1 : Int32)), .val (.int (4 : Int32)), .unset, .unset] [(.int (ch.toInt8.toInt32))]))
  refine Go.via (fun _ => XS.istore X0.here hx rfl (hb hby d18_2) rfl (l' := #[.val (.ref t1), .val (.int ch), .val (.int (1 : Int32)), .val (.int (4 : Int32)), .val (.int (ch.toInt8.toInt32)), .unset]) rfl) ?_
  show Go p e below _ (s₁.setTop (mkF m 4 #[.val (.ref t1), .val (.int ch), .val (.int (1 : Int32)), .val (.int (4 : Int32)), .val (.int (ch.toInt8.toInt32)), .unset] []))
  refine Go.via (fun _ => XS.iloadN X0.here hx rfl (hb hby d18_4) rfl) ?_
  show Go p e below _ (s₁.setTop (mkF m 5 #[.val (.ref t1), .val (.int ch), .val (.int (1 : Int32)), .val (.int (4 : Int32)), .val (.int (ch.toInt8.toInt32)), .unset] [(.int (1 : Int32))]))
  refine Go.via (fun _ => XS.istore X0.here hx rfl (hb hby d18_5) rfl (l' := #[.val (.ref t1), .val (.int ch), .val (.int (1 : Int32)), .val (.int (4 : Int32)), .val (.int (ch.toInt8.toInt32)), .val (.int (1 : Int32))]) rfl) ?_
  show Go p e below _ (s₁.setTop (mkF m 7 #[.val (.ref t1), .val (.int ch), .val (.int (1 : Int32)), .val (.int (4 : Int32)), .val (.int (ch.toInt8.toInt32)), .val (.int (1 : Int32))] []))
  refine Go.via (fun _ => XS.iload X0.here hx rfl (hb hby d18_7) rfl) ?_
  show Go p e below _ (s₁.setTop (mkF m 9 #[.val (.ref t1), .val (.int ch), .val (.int (1 : Int32)), .val (.int (4 : Int32)), .val (.int (ch.toInt8.toInt32)), .val (.int (1 : Int32))] [(.int (1 : Int32))]))
  refine Go.via (fun _ => XS.iloadN X0.here hx rfl (hb hby d18_9) rfl) ?_
  show Go p e below _ (s₁.setTop (mkF m 10 #[.val (.ref t1), .val (.int ch), .val (.int (1 : Int32)), .val (.int (4 : Int32)), .val (.int (ch.toInt8.toInt32)), .val (.int (1 : Int32))] [(.int (4 : Int32)), (.int (1 : Int32))]))
  refine Go.via (fun _ => XS.icmpNo X0.here hx rfl (hb hby d18_10) rfl (by decide)) ?_
  show Go p e below _ (s₁.setTop (mkF m 13 #[.val (.ref t1), .val (.int ch), .val (.int (1 : Int32)), .val (.int (4 : Int32)), .val (.int (ch.toInt8.toInt32)), .val (.int (1 : Int32))] []))
  refine Go.via (fun _ => XS.aloadN X0.here hx rfl (hb hby d18_13) rfl rfl) ?_
  show Go p e below _ (s₁.setTop (mkF m 14 #[.val (.ref t1), .val (.int ch), .val (.int (1 : Int32)), .val (.int (4 : Int32)), .val (.int (ch.toInt8.toInt32)), .val (.int (1 : Int32))] [(.ref t1)]))
  refine Go.via (fun _ => XS.iload X0.here hx rfl (hb hby d18_14) rfl) ?_
  show Go p e below _ (s₁.setTop (mkF m 16 #[.val (.ref t1), .val (.int ch), .val (.int (1 : Int32)), .val (.int (4 : Int32)), .val (.int (ch.toInt8.toInt32)), .val (.int (1 : Int32))] [(.int (1 : Int32)), (.ref t1)]))
  obtain ⟨cl1, Ar1, q1, S1, N1n, H1, G1⟩ := id V2
  have hin1 := inb_of (j := (1 : Int32)) S1 (by decide)
  have hat1 : cl1.slots[((1 : Int32) : Int32).toNatClampNeg]? = some (.int (nar .byte (c1.toInt8.toInt32))) := H1.at hin1 rfl
  refine Go.via (X0.baloadBytes hx (j := (1 : Int32)) (v := (.int (nar .byte (c1.toInt8.toInt32)))) (by rw [e0]; exact Ar1.1) (State.isArrayOf_alike hZ.alike Ar1.2.1) Ar1.2.2 hin1 hat1 (g := (mkF m 16 #[.val (.ref t1), .val (.int ch), .val (.int (1 : Int32)), .val (.int (4 : Int32)), .val (.int (ch.toInt8.toInt32)), .val (.int (1 : Int32))] [(.int (1 : Int32)), (.ref t1)])) rfl rfl (hb hby d18_16)) ?_
  show Go p e below _ (s₁.setTop (mkF m 17 #[.val (.ref t1), .val (.int ch), .val (.int (1 : Int32)), .val (.int (4 : Int32)), .val (.int (ch.toInt8.toInt32)), .val (.int (1 : Int32))] [(.int (nar .byte (c1.toInt8.toInt32)))]))
  refine Go.via (fun _ => XS.iload X0.here hx rfl (hb hby d18_17) rfl) ?_
  show Go p e below _ (s₁.setTop (mkF m 19 #[.val (.ref t1), .val (.int ch), .val (.int (1 : Int32)), .val (.int (4 : Int32)), .val (.int (ch.toInt8.toInt32)), .val (.int (1 : Int32))] [(.int (ch.toInt8.toInt32)), (.int (nar .byte (c1.toInt8.toInt32)))]))
  by_cases hc2 : (nar .byte (c1.toInt8.toInt32)) = (ch.toInt8.toInt32)
  · -- yes
    show Go p e below _ (s₁.setTop (mkF m 19 #[.val (.ref t1), .val (.int ch), .val (.int (1 : Int32)), .val (.int (4 : Int32)), .val (.int (ch.toInt8.toInt32)), .val (.int (1 : Int32))] [(.int (ch.toInt8.toInt32)), (.int (nar .byte (c1.toInt8.toInt32)))]))
    show Go p e below _ (s₁.setTop (mkF m 19 #[.val (.ref t1), .val (.int ch), .val (.int (1 : Int32)), .val (.int (4 : Int32)), .val (.int (ch.toInt8.toInt32)), .val (.int (1 : Int32))] [(.int (ch.toInt8.toInt32)), (.int (nar .byte (c1.toInt8.toInt32)))]))
    refine Go.via (fun _ => XS.icmpNo X0.here hx rfl (hb hby d18_19) rfl (teq hc2).2) ?_
    show Go p e below _ (s₁.setTop (mkF m 22 #[.val (.ref t1), .val (.int ch), .val (.int (1 : Int32)), .val (.int (4 : Int32)), .val (.int (ch.toInt8.toInt32)), .val (.int (1 : Int32))] []))
    refine Go.via (fun _ => XS.iload X0.here hx rfl (hb hby d18_22) rfl) ?_
    show Go p e below _ (s₁.setTop (mkF m 24 #[.val (.ref t1), .val (.int ch), .val (.int (1 : Int32)), .val (.int (4 : Int32)), .val (.int (ch.toInt8.toInt32)), .val (.int (1 : Int32))] [(.int (1 : Int32))]))
    exact own_retI X0 hx hlk Bd.returns (hb hby d18_24) (by show QIxC_4_1 Z t1 kb c0 c1 c2 c3 ch h0 n0 _ s₁.heap _; rw [e0]; exact ⟨by simp [ix4, (qe1.mp hc2), (by decide : (0 : Int32) < (1 : Int32)), (by decide : ¬ ((1 : Int32) < (1 : Int32))), (by decide : ¬ ((2 : Int32) < (1 : Int32))), (by decide : ¬ ((3 : Int32) < (1 : Int32)))], N0, rfl⟩) (by decide) (by decide)
  · -- no
    show Go p e below _ (s₁.setTop (mkF m 19 #[.val (.ref t1), .val (.int ch), .val (.int (1 : Int32)), .val (.int (4 : Int32)), .val (.int (ch.toInt8.toInt32)), .val (.int (1 : Int32))] [(.int (ch.toInt8.toInt32)), (.int (nar .byte (c1.toInt8.toInt32)))]))
    show Go p e below _ (s₁.setTop (mkF m 19 #[.val (.ref t1), .val (.int ch), .val (.int (1 : Int32)), .val (.int (4 : Int32)), .val (.int (ch.toInt8.toInt32)), .val (.int (1 : Int32))] [(.int (ch.toInt8.toInt32)), (.int (nar .byte (c1.toInt8.toInt32)))]))
    refine Go.via (fun _ => XS.icmpYes X0.here hx rfl (pc0 := 19) (pc' := 25) rfl (hb hby d18_19) rfl (feq hc2).2 (by decide) (by decide)) ?_
    show Go p e below _ (s₁.setTop (mkF m 25 #[.val (.ref t1), .val (.int ch), .val (.int (1 : Int32)), .val (.int (4 : Int32)), .val (.int (ch.toInt8.toInt32)), .val (.int (1 : Int32))] []))
    refine Go.via (fun _ => XS.iinc X0.here hx rfl (hb hby d18_25) rfl (l' := #[.val (.ref t1), .val (.int ch), .val (.int (1 : Int32)), .val (.int (4 : Int32)), .val (.int (ch.toInt8.toInt32)), .val (.int (2 : Int32))]) rfl) ?_
    show Go p e below _ (s₁.setTop (mkF m 28 #[.val (.ref t1), .val (.int ch), .val (.int (1 : Int32)), .val (.int (4 : Int32)), .val (.int (ch.toInt8.toInt32)), .val (.int (2 : Int32))] []))
    refine Go.via (fun _ => XS.goto X0.here hx rfl (pc0 := 28) (pc' := 7) rfl (hb hby d18_28) (by decide) (by decide)) ?_
    show Go p e below _ (s₁.setTop (mkF m 7 #[.val (.ref t1), .val (.int ch), .val (.int (1 : Int32)), .val (.int (4 : Int32)), .val (.int (ch.toInt8.toInt32)), .val (.int (2 : Int32))] []))
    refine Go.via (fun _ => XS.iload X0.here hx rfl (hb hby d18_7) rfl) ?_
    show Go p e below _ (s₁.setTop (mkF m 9 #[.val (.ref t1), .val (.int ch), .val (.int (1 : Int32)), .val (.int (4 : Int32)), .val (.int (ch.toInt8.toInt32)), .val (.int (2 : Int32))] [(.int (2 : Int32))]))
    refine Go.via (fun _ => XS.iloadN X0.here hx rfl (hb hby d18_9) rfl) ?_
    show Go p e below _ (s₁.setTop (mkF m 10 #[.val (.ref t1), .val (.int ch), .val (.int (1 : Int32)), .val (.int (4 : Int32)), .val (.int (ch.toInt8.toInt32)), .val (.int (2 : Int32))] [(.int (4 : Int32)), (.int (2 : Int32))]))
    refine Go.via (fun _ => XS.icmpNo X0.here hx rfl (hb hby d18_10) rfl (by decide)) ?_
    show Go p e below _ (s₁.setTop (mkF m 13 #[.val (.ref t1), .val (.int ch), .val (.int (1 : Int32)), .val (.int (4 : Int32)), .val (.int (ch.toInt8.toInt32)), .val (.int (2 : Int32))] []))
    refine Go.via (fun _ => XS.aloadN X0.here hx rfl (hb hby d18_13) rfl rfl) ?_
    show Go p e below _ (s₁.setTop (mkF m 14 #[.val (.ref t1), .val (.int ch), .val (.int (1 : Int32)), .val (.int (4 : Int32)), .val (.int (ch.toInt8.toInt32)), .val (.int (2 : Int32))] [(.ref t1)]))
    refine Go.via (fun _ => XS.iload X0.here hx rfl (hb hby d18_14) rfl) ?_
    show Go p e below _ (s₁.setTop (mkF m 16 #[.val (.ref t1), .val (.int ch), .val (.int (1 : Int32)), .val (.int (4 : Int32)), .val (.int (ch.toInt8.toInt32)), .val (.int (2 : Int32))] [(.int (2 : Int32)), (.ref t1)]))
    obtain ⟨cl3, Ar3, q3, S3, N3n, H3, G3⟩ := id V2
    have hin3 := inb_of (j := (2 : Int32)) S3 (by decide)
    have hat3 : cl3.slots[((2 : Int32) : Int32).toNatClampNeg]? = some (.int (nar .byte (c2.toInt8.toInt32))) := H3.at hin3 rfl
    refine Go.via (X0.baloadBytes hx (j := (2 : Int32)) (v := (.int (nar .byte (c2.toInt8.toInt32)))) (by rw [e0]; exact Ar3.1) (State.isArrayOf_alike hZ.alike Ar3.2.1) Ar3.2.2 hin3 hat3 (g := (mkF m 16 #[.val (.ref t1), .val (.int ch), .val (.int (1 : Int32)), .val (.int (4 : Int32)), .val (.int (ch.toInt8.toInt32)), .val (.int (2 : Int32))] [(.int (2 : Int32)), (.ref t1)])) rfl rfl (hb hby d18_16)) ?_
    show Go p e below _ (s₁.setTop (mkF m 17 #[.val (.ref t1), .val (.int ch), .val (.int (1 : Int32)), .val (.int (4 : Int32)), .val (.int (ch.toInt8.toInt32)), .val (.int (2 : Int32))] [(.int (nar .byte (c2.toInt8.toInt32)))]))
    refine Go.via (fun _ => XS.iload X0.here hx rfl (hb hby d18_17) rfl) ?_
    show Go p e below _ (s₁.setTop (mkF m 19 #[.val (.ref t1), .val (.int ch), .val (.int (1 : Int32)), .val (.int (4 : Int32)), .val (.int (ch.toInt8.toInt32)), .val (.int (2 : Int32))] [(.int (ch.toInt8.toInt32)), (.int (nar .byte (c2.toInt8.toInt32)))]))
    by_cases hc4 : (nar .byte (c2.toInt8.toInt32)) = (ch.toInt8.toInt32)
    · -- yes
      show Go p e below _ (s₁.setTop (mkF m 19 #[.val (.ref t1), .val (.int ch), .val (.int (1 : Int32)), .val (.int (4 : Int32)), .val (.int (ch.toInt8.toInt32)), .val (.int (2 : Int32))] [(.int (ch.toInt8.toInt32)), (.int (nar .byte (c2.toInt8.toInt32)))]))
      show Go p e below _ (s₁.setTop (mkF m 19 #[.val (.ref t1), .val (.int ch), .val (.int (1 : Int32)), .val (.int (4 : Int32)), .val (.int (ch.toInt8.toInt32)), .val (.int (2 : Int32))] [(.int (ch.toInt8.toInt32)), (.int (nar .byte (c2.toInt8.toInt32)))]))
      refine Go.via (fun _ => XS.icmpNo X0.here hx rfl (hb hby d18_19) rfl (teq hc4).2) ?_
      show Go p e below _ (s₁.setTop (mkF m 22 #[.val (.ref t1), .val (.int ch), .val (.int (1 : Int32)), .val (.int (4 : Int32)), .val (.int (ch.toInt8.toInt32)), .val (.int (2 : Int32))] []))
      refine Go.via (fun _ => XS.iload X0.here hx rfl (hb hby d18_22) rfl) ?_
      show Go p e below _ (s₁.setTop (mkF m 24 #[.val (.ref t1), .val (.int ch), .val (.int (1 : Int32)), .val (.int (4 : Int32)), .val (.int (ch.toInt8.toInt32)), .val (.int (2 : Int32))] [(.int (2 : Int32))]))
      exact own_retI X0 hx hlk Bd.returns (hb hby d18_24) (by show QIxC_4_1 Z t1 kb c0 c1 c2 c3 ch h0 n0 _ s₁.heap _; rw [e0]; exact ⟨by simp [ix4, (mt qe1.mpr hc2), (qe2.mp hc4), (by decide : (0 : Int32) < (1 : Int32)), (by decide : ¬ ((1 : Int32) < (1 : Int32))), (by decide : ¬ ((2 : Int32) < (1 : Int32))), (by decide : ¬ ((3 : Int32) < (1 : Int32)))], N0, rfl⟩) (by decide) (by decide)
    · -- no
      show Go p e below _ (s₁.setTop (mkF m 19 #[.val (.ref t1), .val (.int ch), .val (.int (1 : Int32)), .val (.int (4 : Int32)), .val (.int (ch.toInt8.toInt32)), .val (.int (2 : Int32))] [(.int (ch.toInt8.toInt32)), (.int (nar .byte (c2.toInt8.toInt32)))]))
      show Go p e below _ (s₁.setTop (mkF m 19 #[.val (.ref t1), .val (.int ch), .val (.int (1 : Int32)), .val (.int (4 : Int32)), .val (.int (ch.toInt8.toInt32)), .val (.int (2 : Int32))] [(.int (ch.toInt8.toInt32)), (.int (nar .byte (c2.toInt8.toInt32)))]))
      refine Go.via (fun _ => XS.icmpYes X0.here hx rfl (pc0 := 19) (pc' := 25) rfl (hb hby d18_19) rfl (feq hc4).2 (by decide) (by decide)) ?_
      show Go p e below _ (s₁.setTop (mkF m 25 #[.val (.ref t1), .val (.int ch), .val (.int (1 : Int32)), .val (.int (4 : Int32)), .val (.int (ch.toInt8.toInt32)), .val (.int (2 : Int32))] []))
      refine Go.via (fun _ => XS.iinc X0.here hx rfl (hb hby d18_25) rfl (l' := #[.val (.ref t1), .val (.int ch), .val (.int (1 : Int32)), .val (.int (4 : Int32)), .val (.int (ch.toInt8.toInt32)), .val (.int (3 : Int32))]) rfl) ?_
      show Go p e below _ (s₁.setTop (mkF m 28 #[.val (.ref t1), .val (.int ch), .val (.int (1 : Int32)), .val (.int (4 : Int32)), .val (.int (ch.toInt8.toInt32)), .val (.int (3 : Int32))] []))
      refine Go.via (fun _ => XS.goto X0.here hx rfl (pc0 := 28) (pc' := 7) rfl (hb hby d18_28) (by decide) (by decide)) ?_
      show Go p e below _ (s₁.setTop (mkF m 7 #[.val (.ref t1), .val (.int ch), .val (.int (1 : Int32)), .val (.int (4 : Int32)), .val (.int (ch.toInt8.toInt32)), .val (.int (3 : Int32))] []))
      refine Go.via (fun _ => XS.iload X0.here hx rfl (hb hby d18_7) rfl) ?_
      show Go p e below _ (s₁.setTop (mkF m 9 #[.val (.ref t1), .val (.int ch), .val (.int (1 : Int32)), .val (.int (4 : Int32)), .val (.int (ch.toInt8.toInt32)), .val (.int (3 : Int32))] [(.int (3 : Int32))]))
      refine Go.via (fun _ => XS.iloadN X0.here hx rfl (hb hby d18_9) rfl) ?_
      show Go p e below _ (s₁.setTop (mkF m 10 #[.val (.ref t1), .val (.int ch), .val (.int (1 : Int32)), .val (.int (4 : Int32)), .val (.int (ch.toInt8.toInt32)), .val (.int (3 : Int32))] [(.int (4 : Int32)), (.int (3 : Int32))]))
      refine Go.via (fun _ => XS.icmpNo X0.here hx rfl (hb hby d18_10) rfl (by decide)) ?_
      show Go p e below _ (s₁.setTop (mkF m 13 #[.val (.ref t1), .val (.int ch), .val (.int (1 : Int32)), .val (.int (4 : Int32)), .val (.int (ch.toInt8.toInt32)), .val (.int (3 : Int32))] []))
      refine Go.via (fun _ => XS.aloadN X0.here hx rfl (hb hby d18_13) rfl rfl) ?_
      show Go p e below _ (s₁.setTop (mkF m 14 #[.val (.ref t1), .val (.int ch), .val (.int (1 : Int32)), .val (.int (4 : Int32)), .val (.int (ch.toInt8.toInt32)), .val (.int (3 : Int32))] [(.ref t1)]))
      refine Go.via (fun _ => XS.iload X0.here hx rfl (hb hby d18_14) rfl) ?_
      show Go p e below _ (s₁.setTop (mkF m 16 #[.val (.ref t1), .val (.int ch), .val (.int (1 : Int32)), .val (.int (4 : Int32)), .val (.int (ch.toInt8.toInt32)), .val (.int (3 : Int32))] [(.int (3 : Int32)), (.ref t1)]))
      obtain ⟨cl5, Ar5, q5, S5, N5n, H5, G5⟩ := id V2
      have hin5 := inb_of (j := (3 : Int32)) S5 (by decide)
      have hat5 : cl5.slots[((3 : Int32) : Int32).toNatClampNeg]? = some (.int (nar .byte (c3.toInt8.toInt32))) := H5.at hin5 rfl
      refine Go.via (X0.baloadBytes hx (j := (3 : Int32)) (v := (.int (nar .byte (c3.toInt8.toInt32)))) (by rw [e0]; exact Ar5.1) (State.isArrayOf_alike hZ.alike Ar5.2.1) Ar5.2.2 hin5 hat5 (g := (mkF m 16 #[.val (.ref t1), .val (.int ch), .val (.int (1 : Int32)), .val (.int (4 : Int32)), .val (.int (ch.toInt8.toInt32)), .val (.int (3 : Int32))] [(.int (3 : Int32)), (.ref t1)])) rfl rfl (hb hby d18_16)) ?_
      show Go p e below _ (s₁.setTop (mkF m 17 #[.val (.ref t1), .val (.int ch), .val (.int (1 : Int32)), .val (.int (4 : Int32)), .val (.int (ch.toInt8.toInt32)), .val (.int (3 : Int32))] [(.int (nar .byte (c3.toInt8.toInt32)))]))
      refine Go.via (fun _ => XS.iload X0.here hx rfl (hb hby d18_17) rfl) ?_
      show Go p e below _ (s₁.setTop (mkF m 19 #[.val (.ref t1), .val (.int ch), .val (.int (1 : Int32)), .val (.int (4 : Int32)), .val (.int (ch.toInt8.toInt32)), .val (.int (3 : Int32))] [(.int (ch.toInt8.toInt32)), (.int (nar .byte (c3.toInt8.toInt32)))]))
      by_cases hc6 : (nar .byte (c3.toInt8.toInt32)) = (ch.toInt8.toInt32)
      · -- yes
        show Go p e below _ (s₁.setTop (mkF m 19 #[.val (.ref t1), .val (.int ch), .val (.int (1 : Int32)), .val (.int (4 : Int32)), .val (.int (ch.toInt8.toInt32)), .val (.int (3 : Int32))] [(.int (ch.toInt8.toInt32)), (.int (nar .byte (c3.toInt8.toInt32)))]))
        show Go p e below _ (s₁.setTop (mkF m 19 #[.val (.ref t1), .val (.int ch), .val (.int (1 : Int32)), .val (.int (4 : Int32)), .val (.int (ch.toInt8.toInt32)), .val (.int (3 : Int32))] [(.int (ch.toInt8.toInt32)), (.int (nar .byte (c3.toInt8.toInt32)))]))
        refine Go.via (fun _ => XS.icmpNo X0.here hx rfl (hb hby d18_19) rfl (teq hc6).2) ?_
        show Go p e below _ (s₁.setTop (mkF m 22 #[.val (.ref t1), .val (.int ch), .val (.int (1 : Int32)), .val (.int (4 : Int32)), .val (.int (ch.toInt8.toInt32)), .val (.int (3 : Int32))] []))
        refine Go.via (fun _ => XS.iload X0.here hx rfl (hb hby d18_22) rfl) ?_
        show Go p e below _ (s₁.setTop (mkF m 24 #[.val (.ref t1), .val (.int ch), .val (.int (1 : Int32)), .val (.int (4 : Int32)), .val (.int (ch.toInt8.toInt32)), .val (.int (3 : Int32))] [(.int (3 : Int32))]))
        exact own_retI X0 hx hlk Bd.returns (hb hby d18_24) (by show QIxC_4_1 Z t1 kb c0 c1 c2 c3 ch h0 n0 _ s₁.heap _; rw [e0]; exact ⟨by simp [ix4, (mt qe1.mpr hc2), (mt qe2.mpr hc4), (qe3.mp hc6), (by decide : (0 : Int32) < (1 : Int32)), (by decide : ¬ ((1 : Int32) < (1 : Int32))), (by decide : ¬ ((2 : Int32) < (1 : Int32))), (by decide : ¬ ((3 : Int32) < (1 : Int32)))], N0, rfl⟩) (by decide) (by decide)
      · -- no
        show Go p e below _ (s₁.setTop (mkF m 19 #[.val (.ref t1), .val (.int ch), .val (.int (1 : Int32)), .val (.int (4 : Int32)), .val (.int (ch.toInt8.toInt32)), .val (.int (3 : Int32))] [(.int (ch.toInt8.toInt32)), (.int (nar .byte (c3.toInt8.toInt32)))]))
        show Go p e below _ (s₁.setTop (mkF m 19 #[.val (.ref t1), .val (.int ch), .val (.int (1 : Int32)), .val (.int (4 : Int32)), .val (.int (ch.toInt8.toInt32)), .val (.int (3 : Int32))] [(.int (ch.toInt8.toInt32)), (.int (nar .byte (c3.toInt8.toInt32)))]))
        refine Go.via (fun _ => XS.icmpYes X0.here hx rfl (pc0 := 19) (pc' := 25) rfl (hb hby d18_19) rfl (feq hc6).2 (by decide) (by decide)) ?_
        show Go p e below _ (s₁.setTop (mkF m 25 #[.val (.ref t1), .val (.int ch), .val (.int (1 : Int32)), .val (.int (4 : Int32)), .val (.int (ch.toInt8.toInt32)), .val (.int (3 : Int32))] []))
        refine Go.via (fun _ => XS.iinc X0.here hx rfl (hb hby d18_25) rfl (l' := #[.val (.ref t1), .val (.int ch), .val (.int (1 : Int32)), .val (.int (4 : Int32)), .val (.int (ch.toInt8.toInt32)), .val (.int (4 : Int32))]) rfl) ?_
        show Go p e below _ (s₁.setTop (mkF m 28 #[.val (.ref t1), .val (.int ch), .val (.int (1 : Int32)), .val (.int (4 : Int32)), .val (.int (ch.toInt8.toInt32)), .val (.int (4 : Int32))] []))
        refine Go.via (fun _ => XS.goto X0.here hx rfl (pc0 := 28) (pc' := 7) rfl (hb hby d18_28) (by decide) (by decide)) ?_
        show Go p e below _ (s₁.setTop (mkF m 7 #[.val (.ref t1), .val (.int ch), .val (.int (1 : Int32)), .val (.int (4 : Int32)), .val (.int (ch.toInt8.toInt32)), .val (.int (4 : Int32))] []))
        refine Go.via (fun _ => XS.iload X0.here hx rfl (hb hby d18_7) rfl) ?_
        show Go p e below _ (s₁.setTop (mkF m 9 #[.val (.ref t1), .val (.int ch), .val (.int (1 : Int32)), .val (.int (4 : Int32)), .val (.int (ch.toInt8.toInt32)), .val (.int (4 : Int32))] [(.int (4 : Int32))]))
        refine Go.via (fun _ => XS.iloadN X0.here hx rfl (hb hby d18_9) rfl) ?_
        show Go p e below _ (s₁.setTop (mkF m 10 #[.val (.ref t1), .val (.int ch), .val (.int (1 : Int32)), .val (.int (4 : Int32)), .val (.int (ch.toInt8.toInt32)), .val (.int (4 : Int32))] [(.int (4 : Int32)), (.int (4 : Int32))]))
        refine Go.via (fun _ => XS.icmpYes X0.here hx rfl (pc0 := 10) (pc' := 31) rfl (hb hby d18_10) rfl (by decide) (by decide) (by decide)) ?_
        show Go p e below _ (s₁.setTop (mkF m 31 #[.val (.ref t1), .val (.int ch), .val (.int (1 : Int32)), .val (.int (4 : Int32)), .val (.int (ch.toInt8.toInt32)), .val (.int (4 : Int32))] []))
        refine Go.via (fun _ => XS.iconst X0.here hx rfl (hb hby d18_31)) ?_
        show Go p e below _ (s₁.setTop (mkF m 32 #[.val (.ref t1), .val (.int ch), .val (.int (1 : Int32)), .val (.int (4 : Int32)), .val (.int (ch.toInt8.toInt32)), .val (.int (4 : Int32))] [(.int (-1 : Int32))]))
        exact own_retI X0 hx hlk Bd.returns (hb hby d18_32) (by show QIxC_4_1 Z t1 kb c0 c1 c2 c3 ch h0 n0 _ s₁.heap _; rw [e0]; exact ⟨by simp [ix4, (mt qe1.mpr hc2), (mt qe2.mpr hc4), (mt qe3.mpr hc6), (by decide : (0 : Int32) < (1 : Int32)), (by decide : ¬ ((1 : Int32) < (1 : Int32))), (by decide : ¬ ((2 : Int32) < (1 : Int32))), (by decide : ¬ ((3 : Int32) < (1 : Int32)))], N0, rfl⟩) (by decide) (by decide)
theorem ef_rmIxL_4_1 (m : MethodId) (x0 : Addr) (x1 : Int32) : entryFrame m #[(.ref x0), (.int x1), (.int (1 : Int32)), (.int (4 : Int32))] 4 = mkF m 0 #[.val (.ref x0), .val (.int x1), .val (.int (1 : Int32)), .val (.int (4 : Int32))] [] := by first | (simp [entryFrame, mkF, argsToLocals, Value.category]; done) | rfl
def QIxL_4_1 (Z : State) (t1 : Addr) (kb : ClassId) (c0 : Int32) (c1 : Int32) (c2 : Int32) (c3 : Int32) (ch : Int32) (h0 : Heap) (n0 : Nat) (v : Option Value) (h : Heap) (L : List Loc) : Prop := v = some (.int (ix4 c0 c1 c2 c3 ch (1 : Int32))) ∧ Fr n0 L ∧ h = h0
set_option maxRecDepth 65536 in
set_option maxHeartbeats 40000000 in
theorem rmIxL_4_1 (l : Launch) (Z : State) (a0 : Array Value) (hw : ∀ d ∈ tables_1, d.before a0 Z = true) (ws : List Jvm.Cond) (t1 : Addr) (kb : ClassId) (c0 : Int32) (c1 : Int32) (c2 : Int32) (c3 : Int32) (ch : Int32) (h0 : Heap) (n0 : Nat) (Z0 : n0 ≤ h0.size) (V2 : Arv Z h0 t1 kb .byte (4 : Int32) [(.int (nar .byte (c0.toInt8.toInt32))), (.int (nar .byte (c1.toInt8.toInt32))), (.int (nar .byte (c2.toInt8.toInt32))), (.int (nar .byte (c3.toInt8.toInt32)))] (.int (0 : Int32))) (qe0 : (nar .byte (c0.toInt8.toInt32) = ch.toInt8.toInt32) ↔ c0 = ch) (qe1 : (nar .byte (c1.toInt8.toInt32) = ch.toInt8.toInt32) ↔ c1 = ch) (qe2 : (nar .byte (c2.toInt8.toInt32) = ch.toInt8.toInt32) ↔ c2 = ch) (qe3 : (nar .byte (c3.toInt8.toInt32) = ch.toInt8.toInt32) ↔ c3 = ch) (hc0 : ¬ (ch < (0 : Int32))) (hc1 : ¬ ((255 : Int32) < ch)) :
    MetFree l (⟨"java/lang/StringLatin1", "indexOf", "([BIII)I"⟩ : MethodName) (head1 (Jvm.Cond.code (⟨"java/lang/StringLatin1", "indexOf", "([BIII)I"⟩ : MethodName) jdk_43_method_22_code 4 (some .int) :: ws) ({ frames := 1, cells := 0, slots := 0, locals := 17 } : Room)) (fun a U => a = #[(.ref t1), (.int ch), (.int (1 : Int32)), (.int (4 : Int32))] ∧ Z.Warmed39 U.vm ∧ U.heap = h0) (fun _ _ _ _ _ => True) (fun _ U o U' => ∃ v L, o = .returned v ∧ QIxL_4_1 Z t1 kb c0 c1 c2 c3 ch h0 n0 v U'.heap L ∧ FrameEnd U o U' L ({ frames := 1, cells := 0, slots := 0, locals := 17 } : Room).cells ({ frames := 1, cells := 0, slots := 0, locals := 17 } : Room).slots) := by
  refine MetFree.of_bodySF (plainFor_of_name pn_java_lang_StringLatin1) hisR ?_
  intro p e s m args below meth c s₁ Bd hml0 hP hK
  obtain ⟨rfl, hZ, hh⟩ := hP
  have hx := Bd.exec
  have hby := Bd.bytes
  have hlk : meth.locks = false := Bd.notSynchronized
  have hml : c.maxLocals = 4 := hml0
  have hown : s.vm.findClass "java/lang/StringLatin1" = some m.cls := findClass_of_methodNamed Bd.named
  have hnm := (name_of_methodNamed Bd.named Bd.method).1
  have X0 : Stand p l e ({ frames := 1, cells := 0, slots := 0, locals := 17 } : Room) s m #[(.ref t1), (.int ch), (.int (1 : Int32)), (.int (4 : Int32))] below meth c s₁ [] 0 0 := Stand.of_body Bd
  have e0 : s₁.heap = h0 := by rw [← hh, Bd.state]; rfl
  have N0 := Fr.nil n0
  show Go p e below (FinE s below (QIxL_4_1 Z t1 kb c0 c1 c2 c3 ch h0 n0) ({ frames := 1, cells := 0, slots := 0, locals := 17 } : Room).cells ({ frames := 1, cells := 0, slots := 0, locals := 17 } : Room).slots) (s₁.setTop (entryFrame m #[(.ref t1), (.int ch), (.int (1 : Int32)), (.int (4 : Int32))] 4))
  refine Go.via (fun t k => castTop (ef_rmIxL_4_1 m t1 ch) k) ?_
  show Go p e below _ (s₁.setTop (mkF m 0 #[.val (.ref t1), .val (.int ch), .val (.int (1 : Int32)), .val (.int (4 : Int32))] []))
  refine Go.via (fun _ => XS.iloadN X0.here hx rfl (hb hby d14_0) rfl) ?_
  show Go p e below _ (s₁.setTop (mkF m 1 #[.val (.ref t1), .val (.int ch), .val (.int (1 : Int32)), .val (.int (4 : Int32))] [(.int ch)]))
  obtain ⟨_, _, ⟨T1, L1, k1, n1⟩, -, X1, ⟨Lc1, hQ1, l1, y1, z1⟩, st1⟩ := Jvm.LawKit.callS X0 hx (y := (⟨"java/lang/StringLatin1", "canEncode", "(I)Z"⟩ : MethodName)) hown (mvT hZ (hw _ (List.mem_of_getElem? (i := 79) rfl))) (mvT hZ (hw _ (List.mem_of_getElem? (i := 80) rfl))) (mvT hZ (hw _ (List.mem_of_getElem? (i := 77) rfl))) (mvT hZ (hw _ (List.mem_of_getElem? (i := 81) rfl))) (by decide) (backOf (W := 0) (rmCanI l Z a0 hw [] ch h0 n0 Z0 hc0 hc1) hZ (hw _ (List.mem_of_getElem? (i := 81) rfl)) (hw _ (List.mem_of_getElem? (i := 77) rfl)) (by decide) (by decide)) (g := (mkF m 1 #[.val (.ref t1), .val (.int ch), .val (.int (1 : Int32)), .val (.int (4 : Int32))] [(.int ch)])) rfl (by rw [hml]; rfl) (argsL := [(.int ch)]) (rest := []) (lenOf pd_1 rfl) rfl (by show 2 * 0 + _ ≤ _; exact Nat.le_of_eq rfl) (hb hby d14_1) (fun _ _ => ⟨rfl, e0, (by decide : 0 + 0 ≤ _), (by decide : 0 + 0 ≤ _)⟩)
  dsimp only [Pt.U, Pt.locs, Pt.cells, Pt.slots] at X1 l1 y1 z1 st1 hQ1
  subst l1 y1 z1
  obtain ⟨rfl, N1q, e1q⟩ := hQ1
  have N1 := Fr.app N0 N1q
  refine Go.via st1 ?_
  show Go p e below _ (T1.setTop (mkF m 4 #[.val (.ref t1), .val (.int ch), .val (.int (1 : Int32)), .val (.int (4 : Int32))] [(.int (1 : Int32))]))
  refine Go.via (fun _ => XS.ifYes X1.here hx rfl (pc0 := 4) (pc' := 9) rfl (hb hby d14_4) rfl (by decide) (by decide) (by decide)) ?_
  show Go p e below _ (T1.setTop (mkF m 9 #[.val (.ref t1), .val (.int ch), .val (.int (1 : Int32)), .val (.int (4 : Int32))] []))
  refine Go.via (fun _ => XS.iloadN X1.here hx rfl (hb hby d14_9) rfl) ?_
  show Go p e below _ (T1.setTop (mkF m 10 #[.val (.ref t1), .val (.int ch), .val (.int (1 : Int32)), .val (.int (4 : Int32))] [(.int (1 : Int32))]))
  refine Go.via (fun _ => XS.iconst X1.here hx rfl (hb hby d14_10)) ?_
  show Go p e below _ (T1.setTop (mkF m 11 #[.val (.ref t1), .val (.int ch), .val (.int (1 : Int32)), .val (.int (4 : Int32))] [(.int (0 : Int32)), (.int (1 : Int32))]))
  obtain ⟨_, _, ⟨T2, L2, k2, n2⟩, -, X2, ⟨Lc2, hQ2, l2, y2, z2⟩, st2⟩ := Jvm.LawKit.callS X1 hx (y := (⟨"java/lang/Math", "max", "(II)I"⟩ : MethodName)) hown (mvT hZ (hw _ (List.mem_of_getElem? (i := 82) rfl))) (mvT hZ (hw _ (List.mem_of_getElem? (i := 83) rfl))) (mvT hZ (hw _ (List.mem_of_getElem? (i := 84) rfl))) (mvT hZ (hw _ (List.mem_of_getElem? (i := 85) rfl))) (by decide) (backOf (W := 0) (rm_max_1 l Z a0 hw [] (1 : Int32) (0 : Int32) h0 n0 Z0 (by decide)) hZ (hw _ (List.mem_of_getElem? (i := 85) rfl)) (hw _ (List.mem_of_getElem? (i := 84) rfl)) (by decide) (by decide)) (g := (mkF m 11 #[.val (.ref t1), .val (.int ch), .val (.int (1 : Int32)), .val (.int (4 : Int32))] [(.int (0 : Int32)), (.int (1 : Int32))])) rfl (by rw [hml]; rfl) (argsL := [(.int (1 : Int32)), (.int (0 : Int32))]) (rest := []) (lenOf pd_2 rfl) rfl (by show 2 * 0 + _ ≤ _; exact Nat.le_of_eq rfl) (hb hby d14_11) (fun _ _ => ⟨rfl, e1q, (by decide : 0 + 0 ≤ _), (by decide : 0 + 0 ≤ _)⟩)
  dsimp only [Pt.U, Pt.locs, Pt.cells, Pt.slots] at X2 l2 y2 z2 st2 hQ2
  subst l2 y2 z2
  obtain ⟨rfl, N2q, e2q⟩ := hQ2
  have N2 := Fr.app N1 N2q
  refine Go.via st2 ?_
  show Go p e below _ (T2.setTop (mkF m 14 #[.val (.ref t1), .val (.int ch), .val (.int (1 : Int32)), .val (.int (4 : Int32))] [(.int (1 : Int32))]))
  refine Go.via (fun _ => XS.istoreN X2.here hx rfl (hb hby d14_14) rfl (l' := #[.val (.ref t1), .val (.int ch), .val (.int (1 : Int32)), .val (.int (4 : Int32))]) rfl) ?_
  show Go p e below _ (T2.setTop (mkF m 15 #[.val (.ref t1), .val (.int ch), .val (.int (1 : Int32)), .val (.int (4 : Int32))] []))
  refine Go.via (fun _ => XS.iloadN X2.here hx rfl (hb hby d14_15) rfl) ?_
  show Go p e below _ (T2.setTop (mkF m 16 #[.val (.ref t1), .val (.int ch), .val (.int (1 : Int32)), .val (.int (4 : Int32))] [(.int (4 : Int32))]))
  refine Go.via (fun _ => XS.aloadN X2.here hx rfl (hb hby d14_16) rfl rfl) ?_
  show Go p e below _ (T2.setTop (mkF m 17 #[.val (.ref t1), .val (.int ch), .val (.int (1 : Int32)), .val (.int (4 : Int32))] [(.ref t1), (.int (4 : Int32))]))
  obtain ⟨cl3, Ar3, -, S3, N3n, -, -⟩ := id V2
  have al3 := X2.arraylength hx (by rw [e2q]; exact Ar3.1) (State.isArrayOf_alike hZ.alike Ar3.2.1) (g := (mkF m 17 #[.val (.ref t1), .val (.int ch), .val (.int (1 : Int32)), .val (.int (4 : Int32))] [(.ref t1), (.int (4 : Int32))])) rfl rfl (hb hby d14_17)
  rw [len_of S3 N3n] at al3
  refine Go.via al3 ?_
  show Go p e below _ (T2.setTop (mkF m 18 #[.val (.ref t1), .val (.int ch), .val (.int (1 : Int32)), .val (.int (4 : Int32))] [(.int (4 : Int32)), (.int (4 : Int32))]))
  obtain ⟨_, _, ⟨T4, L4, k4, n4⟩, -, X4, ⟨Lc4, hQ4, l4, y4, z4⟩, st4⟩ := Jvm.LawKit.callS X2 hx (y := (⟨"java/lang/Math", "min", "(II)I"⟩ : MethodName)) hown (mvT hZ (hw _ (List.mem_of_getElem? (i := 86) rfl))) (mvT hZ (hw _ (List.mem_of_getElem? (i := 87) rfl))) (mvT hZ (hw _ (List.mem_of_getElem? (i := 84) rfl))) (mvT hZ (hw _ (List.mem_of_getElem? (i := 88) rfl))) (by decide) (backOf (W := 0) (rm_min_1 l Z a0 hw [] (4 : Int32) (4 : Int32) h0 n0 Z0 (by decide)) hZ (hw _ (List.mem_of_getElem? (i := 88) rfl)) (hw _ (List.mem_of_getElem? (i := 84) rfl)) (by decide) (by decide)) (g := (mkF m 18 #[.val (.ref t1), .val (.int ch), .val (.int (1 : Int32)), .val (.int (4 : Int32))] [(.int (4 : Int32)), (.int (4 : Int32))])) rfl (by rw [hml]; rfl) (argsL := [(.int (4 : Int32)), (.int (4 : Int32))]) (rest := []) (lenOf pd_2 rfl) rfl (by show 2 * 0 + _ ≤ _; exact Nat.le_of_eq rfl) (hb hby d14_18) (fun _ _ => ⟨rfl, e2q, (by decide : 0 + 0 ≤ _), (by decide : 0 + 0 ≤ _)⟩)
  dsimp only [Pt.U, Pt.locs, Pt.cells, Pt.slots] at X4 l4 y4 z4 st4 hQ4
  subst l4 y4 z4
  obtain ⟨rfl, N4q, e4q⟩ := hQ4
  have N4 := Fr.app N2 N4q
  refine Go.via st4 ?_
  show Go p e below _ (T4.setTop (mkF m 21 #[.val (.ref t1), .val (.int ch), .val (.int (1 : Int32)), .val (.int (4 : Int32))] [(.int (4 : Int32))]))
  refine Go.via (fun _ => XS.istoreN X4.here hx rfl (hb hby d14_21) rfl (l' := #[.val (.ref t1), .val (.int ch), .val (.int (1 : Int32)), .val (.int (4 : Int32))]) rfl) ?_
  show Go p e below _ (T4.setTop (mkF m 22 #[.val (.ref t1), .val (.int ch), .val (.int (1 : Int32)), .val (.int (4 : Int32))] []))
  refine Go.via (fun _ => XS.iloadN X4.here hx rfl (hb hby d14_22) rfl) ?_
  show Go p e below _ (T4.setTop (mkF m 23 #[.val (.ref t1), .val (.int ch), .val (.int (1 : Int32)), .val (.int (4 : Int32))] [(.int (1 : Int32))]))
  refine Go.via (fun _ => XS.iloadN X4.here hx rfl (hb hby d14_23) rfl) ?_
  show Go p e below _ (T4.setTop (mkF m 24 #[.val (.ref t1), .val (.int ch), .val (.int (1 : Int32)), .val (.int (4 : Int32))] [(.int (4 : Int32)), (.int (1 : Int32))]))
  refine Go.via (fun _ => XS.icmpYes X4.here hx rfl (pc0 := 24) (pc' := 29) rfl (hb hby d14_24) rfl (by decide) (by decide) (by decide)) ?_
  show Go p e below _ (T4.setTop (mkF m 29 #[.val (.ref t1), .val (.int ch), .val (.int (1 : Int32)), .val (.int (4 : Int32))] []))
  refine Go.via (fun _ => XS.aloadN X4.here hx rfl (hb hby d14_29) rfl rfl) ?_
  show Go p e below _ (T4.setTop (mkF m 30 #[.val (.ref t1), .val (.int ch), .val (.int (1 : Int32)), .val (.int (4 : Int32))] [(.ref t1)]))
  refine Go.via (fun _ => XS.iloadN X4.here hx rfl (hb hby d14_30) rfl) ?_
  show Go p e below _ (T4.setTop (mkF m 31 #[.val (.ref t1), .val (.int ch), .val (.int (1 : Int32)), .val (.int (4 : Int32))] [(.int ch), (.ref t1)]))
  refine Go.via (fun _ => XS.iloadN X4.here hx rfl (hb hby d14_31) rfl) ?_
  show Go p e below _ (T4.setTop (mkF m 32 #[.val (.ref t1), .val (.int ch), .val (.int (1 : Int32)), .val (.int (4 : Int32))] [(.int (1 : Int32)), (.int ch), (.ref t1)]))
  refine Go.via (fun _ => XS.iloadN X4.here hx rfl (hb hby d14_32) rfl) ?_
  show Go p e below _ (T4.setTop (mkF m 33 #[.val (.ref t1), .val (.int ch), .val (.int (1 : Int32)), .val (.int (4 : Int32))] [(.int (4 : Int32)), (.int (1 : Int32)), (.int ch), (.ref t1)]))
  obtain ⟨_, _, ⟨T5, L5, k5, n5⟩, -, X5, ⟨Lc5, hQ5, l5, y5, z5⟩, st5⟩ := Jvm.LawKit.callS X4 hx (y := (⟨"java/lang/StringLatin1", "indexOfChar", "([BIII)I"⟩ : MethodName)) hown (mvT hZ (hw _ (List.mem_of_getElem? (i := 89) rfl))) (mvT hZ (hw _ (List.mem_of_getElem? (i := 90) rfl))) (mvT hZ (hw _ (List.mem_of_getElem? (i := 77) rfl))) (mvT hZ (hw _ (List.mem_of_getElem? (i := 91) rfl))) (by decide) (backOf (W := 0) (rmIxC_4_1 l Z a0 hw [] t1 kb c0 c1 c2 c3 ch h0 n0 Z0 V2 qe0 qe1 qe2 qe3) hZ (hw _ (List.mem_of_getElem? (i := 91) rfl)) (hw _ (List.mem_of_getElem? (i := 77) rfl)) (by decide) (by decide)) (g := (mkF m 33 #[.val (.ref t1), .val (.int ch), .val (.int (1 : Int32)), .val (.int (4 : Int32))] [(.int (4 : Int32)), (.int (1 : Int32)), (.int ch), (.ref t1)])) rfl (by rw [hml]; rfl) (argsL := [(.ref t1), (.int ch), (.int (1 : Int32)), (.int (4 : Int32))]) (rest := []) (lenOf pd_3 rfl) rfl (by show 2 * 0 + _ ≤ _; exact Nat.le_of_eq rfl) (hb hby d14_33) (fun _ _ => ⟨rfl, e4q, (by decide : 0 + 0 ≤ _), (by decide : 0 + 0 ≤ _)⟩)
  dsimp only [Pt.U, Pt.locs, Pt.cells, Pt.slots] at X5 l5 y5 z5 st5 hQ5
  subst l5 y5 z5
  obtain ⟨rfl, N5q, e5q⟩ := hQ5
  have N5 := Fr.app N4 N5q
  refine Go.via st5 ?_
  show Go p e below _ (T5.setTop (mkF m 36 #[.val (.ref t1), .val (.int ch), .val (.int (1 : Int32)), .val (.int (4 : Int32))] [(.int (ix4 c0 c1 c2 c3 ch (1 : Int32)))]))
  exact own_retI X5 hx hlk Bd.returns (hb hby d14_36) (by show QIxL_4_1 Z t1 kb c0 c1 c2 c3 ch h0 n0 _ T5.heap _; rw [e5q]; exact ⟨rfl, N5, rfl⟩) (by decide) (by decide)
theorem ef_rmIxS_4_1 (m : MethodId) (x0 : Addr) (x1 : Int32) : entryFrame m #[(.ref x0), (.int x1), (.int (1 : Int32))] 3 = mkF m 0 #[.val (.ref x0), .val (.int x1), .val (.int (1 : Int32))] [] := by first | (simp [entryFrame, mkF, argsToLocals, Value.category]; done) | rfl
set_option maxRecDepth 65536 in
set_option maxHeartbeats 40000000 in
theorem rmIxS_4_1 (l : Launch) (Z : State) (a0 : Array Value) (hw : ∀ d ∈ tables_1, d.before a0 Z = true) (ws : List Jvm.Cond) (a1 : Addr) (t1 : Addr) (kb : ClassId) (c0 : Int32) (c1 : Int32) (c2 : Int32) (c3 : Int32) (ch : Int32) (ccs : Int32) (h0 : Heap) (n0 : Nat) (Z0 : n0 ≤ h0.size) (E1 : Exa Z h0 a1 "java/lang/String") (F1 : Fld Z h0 a1 "java/lang/String" "value" "[B" (.ref t1)) (F2 : Fld Z h0 a1 "java/lang/String" "coder" "B" (.int (0 : Int32))) (V2 : Arv Z h0 t1 kb .byte (4 : Int32) [(.int (nar .byte (c0.toInt8.toInt32))), (.int (nar .byte (c1.toInt8.toInt32))), (.int (nar .byte (c2.toInt8.toInt32))), (.int (nar .byte (c3.toInt8.toInt32)))] (.int (0 : Int32))) (qe0 : (nar .byte (c0.toInt8.toInt32) = ch.toInt8.toInt32) ↔ c0 = ch) (qe1 : (nar .byte (c1.toInt8.toInt32) = ch.toInt8.toInt32) ↔ c1 = ch) (qe2 : (nar .byte (c2.toInt8.toInt32) = ch.toInt8.toInt32) ↔ c2 = ch) (qe3 : (nar .byte (c3.toInt8.toInt32) = ch.toInt8.toInt32) ↔ c3 = ch) (hc0 : ¬ (ch < (0 : Int32))) (hc1 : ¬ ((255 : Int32) < ch)) (O0 : Old Z n0 h0) (S_CS : Sta Z Z.heap "java/lang/String" "COMPACT_STRINGS" "Z" (.int ccs)) (hcs : ¬ (ccs = (0 : Int32))) :
    MetFree l (⟨"java/lang/String", "indexOf", "(II)I"⟩ : MethodName) (head1 (Jvm.Cond.code (⟨"java/lang/String", "indexOf", "(II)I"⟩ : MethodName) jdk_42_method_80_code 3 (some .int) :: ws) ({ frames := 3, cells := 0, slots := 0, locals := 60 } : Room)) (fun a U => a = #[(.ref a1), (.int ch), (.int (1 : Int32))] ∧ Z.Warmed39 U.vm ∧ U.heap = h0) (fun _ _ _ _ _ => True) (fun _ U o U' => ∃ v L, o = .returned v ∧ QIx4 Z c0 c1 c2 c3 ch (1 : Int32) h0 n0 v U'.heap L ∧ FrameEnd U o U' L ({ frames := 3, cells := 0, slots := 0, locals := 60 } : Room).cells ({ frames := 3, cells := 0, slots := 0, locals := 60 } : Room).slots) := by
  refine MetFree.of_bodySF (plainFor_of_name pn_java_lang_String) hisR ?_
  intro p e s m args below meth c s₁ Bd hml0 hP hK
  obtain ⟨rfl, hZ, hh⟩ := hP
  have hx := Bd.exec
  have hby := Bd.bytes
  have hlk : meth.locks = false := Bd.notSynchronized
  have hml : c.maxLocals = 3 := hml0
  have hown : s.vm.findClass "java/lang/String" = some m.cls := findClass_of_methodNamed Bd.named
  have hnm := (name_of_methodNamed Bd.named Bd.method).1
  have X0 : Stand p l e ({ frames := 3, cells := 0, slots := 0, locals := 60 } : Room) s m #[(.ref a1), (.int ch), (.int (1 : Int32))] below meth c s₁ [] 0 0 := Stand.of_body Bd
  have e0 : s₁.heap = h0 := by rw [← hh, Bd.state]; rfl
  have N0 := Fr.nil n0
  show Go p e below (FinE s below (QIx4 Z c0 c1 c2 c3 ch (1 : Int32) h0 n0) ({ frames := 3, cells := 0, slots := 0, locals := 60 } : Room).cells ({ frames := 3, cells := 0, slots := 0, locals := 60 } : Room).slots) (s₁.setTop (entryFrame m #[(.ref a1), (.int ch), (.int (1 : Int32))] 3))
  refine Go.via (fun t k => castTop (ef_rmIxS_4_1 m a1 ch) k) ?_
  show Go p e below _ (s₁.setTop (mkF m 0 #[.val (.ref a1), .val (.int ch), .val (.int (1 : Int32))] []))
  refine Go.via (fun _ => XS.aloadN X0.here hx rfl (hb hby d10_0) rfl rfl) ?_
  show Go p e below _ (s₁.setTop (mkF m 1 #[.val (.ref a1), .val (.int ch), .val (.int (1 : Int32))] [(.ref a1)]))
  obtain ⟨cq1, kq1, q1a, q1b, q1c⟩ := isOf hZ e0 E1
  obtain ⟨_, _, ⟨T1, L1, k1, n1⟩, -, X1, ⟨Lc1, hQ1, l1, y1, z1⟩, st1⟩ := X0.virtualBack hx (y := (⟨"java/lang/String", "isLatin1", "()Z"⟩ : MethodName)) (z := (⟨"java/lang/String", "isLatin1", "()Z"⟩ : MethodName)) hown (mvT hZ (hw _ (List.mem_of_getElem? (i := 60) rfl))) (mvT hZ (hw _ (List.mem_of_getElem? (i := 61) rfl))) (notFace_of_selects (args := #[]) (mvT hZ (hw _ (List.mem_of_getElem? (i := 63) rfl)))) (mvT hZ (hw _ (List.mem_of_getElem? (i := 63) rfl))) (mvT hZ (hw _ (List.mem_of_getElem? (i := 62) rfl))) (by decide) (backOf (W := 0) (rmIsLat l Z a0 hw [] a1 ccs h0 n0 Z0 F2 O0 S_CS hcs) hZ (hw _ (List.mem_of_getElem? (i := 64) rfl)) (hw _ (List.mem_of_getElem? (i := 5) rfl)) (by decide) (by decide)) q1a q1c (g := (mkF m 1 #[.val (.ref a1), .val (.int ch), .val (.int (1 : Int32))] [(.ref a1)])) rfl (by rw [hml]; rfl) (Steps.refl _) (argsL := []) (rest := []) (lenOf pd_4 rfl) rfl (by show 2 * 0 + _ ≤ _; exact Nat.le_of_eq rfl) (hb hby d10_1) (fun _ _ => ⟨rfl, e0, (by decide : 0 + 0 ≤ _), (by decide : 0 + 0 ≤ _)⟩)
  dsimp only [Pt.U, Pt.locs, Pt.cells, Pt.slots] at X1 l1 y1 z1 st1 hQ1
  subst l1 y1 z1
  obtain ⟨rfl, N1q, e1q⟩ := hQ1
  have N1 := Fr.app N0 N1q
  refine Go.tr st1 ?_
  show Go p e below _ (T1.setTop (mkF m 4 #[.val (.ref a1), .val (.int ch), .val (.int (1 : Int32))] [(.int (1 : Int32))]))
  refine Go.via (fun _ => XS.ifNo X1.here hx rfl (hb hby d10_4) rfl (by decide)) ?_
  show Go p e below _ (T1.setTop (mkF m 7 #[.val (.ref a1), .val (.int ch), .val (.int (1 : Int32))] []))
  refine Go.via (fun _ => XS.aloadN X1.here hx rfl (hb hby d10_7) rfl rfl) ?_
  show Go p e below _ (T1.setTop (mkF m 8 #[.val (.ref a1), .val (.int ch), .val (.int (1 : Int32))] [(.ref a1)]))
  obtain ⟨T2, X2, e2, st2⟩ := getF X1 hx hZ hown (host := "") (Or.inl (hw _ (List.mem_of_getElem? (i := 31) rfl))) Via.refl e1q F1 (g := (mkF m 8 #[.val (.ref a1), .val (.int ch), .val (.int (1 : Int32))] [(.ref a1)])) rfl rfl (hb hby d10_8)
  refine Go.via st2 ?_
  show Go p e below _ (T2.setTop (mkF m 11 #[.val (.ref a1), .val (.int ch), .val (.int (1 : Int32))] [(.ref t1)]))
  refine Go.via (fun _ => XS.iloadN X2.here hx rfl (hb hby d10_11) rfl) ?_
  show Go p e below _ (T2.setTop (mkF m 12 #[.val (.ref a1), .val (.int ch), .val (.int (1 : Int32))] [(.int ch), (.ref t1)]))
  refine Go.via (fun _ => XS.iloadN X2.here hx rfl (hb hby d10_12) rfl) ?_
  show Go p e below _ (T2.setTop (mkF m 13 #[.val (.ref a1), .val (.int ch), .val (.int (1 : Int32))] [(.int (1 : Int32)), (.int ch), (.ref t1)]))
  refine Go.via (fun _ => XS.aloadN X2.here hx rfl (hb hby d10_13) rfl rfl) ?_
  show Go p e below _ (T2.setTop (mkF m 14 #[.val (.ref a1), .val (.int ch), .val (.int (1 : Int32))] [(.ref a1), (.int (1 : Int32)), (.int ch), (.ref t1)]))
  obtain ⟨cq3, kq3, q3a, q3b, q3c⟩ := isOf hZ e2 E1
  obtain ⟨_, _, ⟨T3, L3, k3, n3⟩, -, X3, ⟨Lc3, hQ3, l3, y3, z3⟩, st3⟩ := X2.virtualBack hx (y := (⟨"java/lang/String", "length", "()I"⟩ : MethodName)) (z := (⟨"java/lang/String", "length", "()I"⟩ : MethodName)) hown (mvT hZ (hw _ (List.mem_of_getElem? (i := 65) rfl))) (mvT hZ (hw _ (List.mem_of_getElem? (i := 66) rfl))) (notFace_of_selects (args := #[]) (mvT hZ (hw _ (List.mem_of_getElem? (i := 68) rfl)))) (mvT hZ (hw _ (List.mem_of_getElem? (i := 68) rfl))) (mvT hZ (hw _ (List.mem_of_getElem? (i := 67) rfl))) (by decide) (backOf (W := 3) (rmLen_4 l Z a0 hw [] a1 t1 kb _ ccs h0 n0 Z0 E1 F1 F2 V2 O0 S_CS hcs) hZ (hw _ (List.mem_of_getElem? (i := 69) rfl)) (hw _ (List.mem_of_getElem? (i := 5) rfl)) (by decide) (by decide)) q3a q3c (g := (mkF m 14 #[.val (.ref a1), .val (.int ch), .val (.int (1 : Int32))] [(.ref a1), (.int (1 : Int32)), (.int ch), (.ref t1)])) rfl (by rw [hml]; rfl) (Steps.refl _) (argsL := []) (rest := [(.int (1 : Int32)), (.int ch), (.ref t1)]) (lenOf pd_5 rfl) rfl (by show 2 * 0 + _ ≤ _; exact Nat.le_of_eq rfl) (hb hby d10_14) (fun _ _ => ⟨rfl, e2, (by decide : 0 + 0 ≤ _), (by decide : 0 + 0 ≤ _)⟩)
  dsimp only [Pt.U, Pt.locs, Pt.cells, Pt.slots] at X3 l3 y3 z3 st3 hQ3
  subst l3 y3 z3
  obtain ⟨rfl, N3q, e3q⟩ := hQ3
  have N3 := Fr.app N1 N3q
  refine Go.tr st3 ?_
  show Go p e below _ (T3.setTop (mkF m 17 #[.val (.ref a1), .val (.int ch), .val (.int (1 : Int32))] [(.int (4 : Int32)), (.int (1 : Int32)), (.int ch), (.ref t1)]))
  obtain ⟨_, _, ⟨T4, L4, k4, n4⟩, -, X4, ⟨Lc4, hQ4, l4, y4, z4⟩, st4⟩ := Jvm.LawKit.callS X3 hx (y := (⟨"java/lang/StringLatin1", "indexOf", "([BIII)I"⟩ : MethodName)) hown (mvT hZ (hw _ (List.mem_of_getElem? (i := 75) rfl))) (mvT hZ (hw _ (List.mem_of_getElem? (i := 76) rfl))) (mvT hZ (hw _ (List.mem_of_getElem? (i := 77) rfl))) (mvT hZ (hw _ (List.mem_of_getElem? (i := 78) rfl))) (by decide) (backOf (W := 0) (rmIxL_4_1 l Z a0 hw [] t1 kb c0 c1 c2 c3 ch  h0 n0 Z0 V2 qe0 qe1 qe2 qe3 hc0 hc1) hZ (hw _ (List.mem_of_getElem? (i := 78) rfl)) (hw _ (List.mem_of_getElem? (i := 77) rfl)) (by decide) (by decide)) (g := (mkF m 17 #[.val (.ref a1), .val (.int ch), .val (.int (1 : Int32))] [(.int (4 : Int32)), (.int (1 : Int32)), (.int ch), (.ref t1)])) rfl (by rw [hml]; rfl) (argsL := [(.ref t1), (.int ch), (.int (1 : Int32)), (.int (4 : Int32))]) (rest := []) (lenOf pd_3 rfl) rfl (by show 2 * 0 + _ ≤ _; exact Nat.le_of_eq rfl) (hb hby d10_17) (fun _ _ => ⟨rfl, e3q, (by decide : 0 + 0 ≤ _), (by decide : 0 + 0 ≤ _)⟩)
  dsimp only [Pt.U, Pt.locs, Pt.cells, Pt.slots] at X4 l4 y4 z4 st4 hQ4
  subst l4 y4 z4
  obtain ⟨rfl, N4q, e4q⟩ := hQ4
  have N4 := Fr.app N3 N4q
  refine Go.via st4 ?_
  show Go p e below _ (T4.setTop (mkF m 20 #[.val (.ref a1), .val (.int ch), .val (.int (1 : Int32))] [(.int (ix4 c0 c1 c2 c3 ch (1 : Int32)))]))
  refine Go.via (fun _ => XS.goto X4.here hx rfl (pc0 := 20) (pc' := 36) rfl (hb hby d10_20) (by decide) (by decide)) ?_
  show Go p e below _ (T4.setTop (mkF m 36 #[.val (.ref a1), .val (.int ch), .val (.int (1 : Int32))] [(.int (ix4 c0 c1 c2 c3 ch (1 : Int32)))]))
  exact own_retI X4 hx hlk Bd.returns (hb hby d10_36) (by show QIx4 Z c0 c1 c2 c3 ch (1 : Int32) h0 n0 _ T4.heap _; rw [e4q]; exact ⟨rfl, N4, rfl⟩) (by decide) (by decide)
theorem ef_rmIxC_4_2 (m : MethodId) (x0 : Addr) (x1 : Int32) : entryFrame m #[(.ref x0), (.int x1), (.int (2 : Int32)), (.int (4 : Int32))] 6 = mkF m 0 #[.val (.ref x0), .val (.int x1), .val (.int (2 : Int32)), .val (.int (4 : Int32)), .unset, .unset] [] := by first | (simp [entryFrame, mkF, argsToLocals, Value.category]; done) | rfl
def QIxC_4_2 (Z : State) (t1 : Addr) (kb : ClassId) (c0 : Int32) (c1 : Int32) (c2 : Int32) (c3 : Int32) (ch : Int32) (h0 : Heap) (n0 : Nat) (v : Option Value) (h : Heap) (L : List Loc) : Prop := v = some (.int (ix4 c0 c1 c2 c3 ch (2 : Int32))) ∧ Fr n0 L ∧ h = h0
set_option maxRecDepth 65536 in
set_option maxHeartbeats 40000000 in
theorem rmIxC_4_2 (l : Launch) (Z : State) (a0 : Array Value) (hw : ∀ d ∈ tables_1, d.before a0 Z = true) (ws : List Jvm.Cond) (t1 : Addr) (kb : ClassId) (c0 : Int32) (c1 : Int32) (c2 : Int32) (c3 : Int32) (ch : Int32) (h0 : Heap) (n0 : Nat) (Z0 : n0 ≤ h0.size) (V2 : Arv Z h0 t1 kb .byte (4 : Int32) [(.int (nar .byte (c0.toInt8.toInt32))), (.int (nar .byte (c1.toInt8.toInt32))), (.int (nar .byte (c2.toInt8.toInt32))), (.int (nar .byte (c3.toInt8.toInt32)))] (.int (0 : Int32))) (qe0 : (nar .byte (c0.toInt8.toInt32) = ch.toInt8.toInt32) ↔ c0 = ch) (qe1 : (nar .byte (c1.toInt8.toInt32) = ch.toInt8.toInt32) ↔ c1 = ch) (qe2 : (nar .byte (c2.toInt8.toInt32) = ch.toInt8.toInt32) ↔ c2 = ch) (qe3 : (nar .byte (c3.toInt8.toInt32) = ch.toInt8.toInt32) ↔ c3 = ch) :
    MetFree l (⟨"java/lang/StringLatin1", "indexOfChar", "([BIII)I"⟩ : MethodName) (head1 (Jvm.Cond.code (⟨"java/lang/StringLatin1", "indexOfChar", "([BIII)I"⟩ : MethodName) jdk_43_method_23_code 6 (some .int) :: ws) ({ frames := 0, cells := 0, slots := 0, locals := 0 } : Room)) (fun a U => a = #[(.ref t1), (.int ch), (.int (2 : Int32)), (.int (4 : Int32))] ∧ Z.Warmed39 U.vm ∧ U.heap = h0) (fun _ _ _ _ _ => True) (fun _ U o U' => ∃ v L, o = .returned v ∧ QIxC_4_2 Z t1 kb c0 c1 c2 c3 ch h0 n0 v U'.heap L ∧ FrameEnd U o U' L ({ frames := 0, cells := 0, slots := 0, locals := 0 } : Room).cells ({ frames := 0, cells := 0, slots := 0, locals := 0 } : Room).slots) := by
  refine MetFree.of_bodySF (plainFor_of_name pn_java_lang_StringLatin1) hisR ?_
  intro p e s m args below meth c s₁ Bd hml0 hP hK
  obtain ⟨rfl, hZ, hh⟩ := hP
  have hx := Bd.exec
  have hby := Bd.bytes
  have hlk : meth.locks = false := Bd.notSynchronized
  have hml : c.maxLocals = 6 := hml0
  have hown : s.vm.findClass "java/lang/StringLatin1" = some m.cls := findClass_of_methodNamed Bd.named
  have hnm := (name_of_methodNamed Bd.named Bd.method).1
  have X0 : Stand p l e ({ frames := 0, cells := 0, slots := 0, locals := 0 } : Room) s m #[(.ref t1), (.int ch), (.int (2 : Int32)), (.int (4 : Int32))] below meth c s₁ [] 0 0 := Stand.of_body Bd
  have e0 : s₁.heap = h0 := by rw [← hh, Bd.state]; rfl
  have N0 := Fr.nil n0
  show Go p e below (FinE s below (QIxC_4_2 Z t1 kb c0 c1 c2 c3 ch h0 n0) ({ frames := 0, cells := 0, slots := 0, locals := 0 } : Room).cells ({ frames := 0, cells := 0, slots := 0, locals := 0 } : Room).slots) (s₁.setTop (entryFrame m #[(.ref t1), (.int ch), (.int (2 : Int32)), (.int (4 : Int32))] 6))
  refine Go.via (fun t k => castTop (ef_rmIxC_4_2 m t1 ch) k) ?_
  show Go p e below _ (s₁.setTop (mkF m 0 #[.val (.ref t1), .val (.int ch), .val (.int (2 : Int32)), .val (.int (4 : Int32)), .unset, .unset] []))
  refine Go.via (fun _ => XS.iloadN X0.here hx rfl (hb hby d18_0) rfl) ?_
  show Go p e below _ (s₁.setTop (mkF m 1 #[.val (.ref t1), .val (.int ch), .val (.int (2 : Int32)), .val (.int (4 : Int32)), .unset, .unset] [(.int ch)]))
  refine Go.via (fun _ => XS.i2b X0.here hx rfl (hb hby d18_1) rfl) ?_
  show Go p e below _ (s₁.setTop (mkF m 2 #[.val (.ref t1), .val (.int ch), .val (.int (2 : Int32)), .val (.int (4 : Int32)), .unset, .unset] [(.int (ch.toInt8.toInt32))]))
  refine Go.via (fun _ => XS.istore X0.here hx rfl (hb hby d18_2) rfl (l' := #[.val (.ref t1), .val (.int ch), .val (.int (2 : Int32)), .val (.int (4 : Int32)), .val (.int (ch.toInt8.toInt32)), .unset]) rfl) ?_
  show Go p e below _ (s₁.setTop (mkF m 4 #[.val (.ref t1), .val (.int ch), .val (.int (2 : Int32)), .val (.int (4 : Int32)), .val (.int (ch.toInt8.toInt32)), .unset] []))
  refine Go.via (fun _ => XS.iloadN X0.here hx rfl (hb hby d18_4) rfl) ?_
  show Go p e below _ (s₁.setTop (mkF m 5 #[.val (.ref t1), .val (.int ch), .val (.int (2 : Int32)), .val (.int (4 : Int32)), .val (.int (ch.toInt8.toInt32)), .unset] [(.int (2 : Int32))]))
  refine Go.via (fun _ => XS.istore X0.here hx rfl (hb hby d18_5) rfl (l' := #[.val (.ref t1), .val (.int ch), .val (.int (2 : Int32)), .val (.int (4 : Int32)), .val (.int (ch.toInt8.toInt32)), .val (.int (2 : Int32))]) rfl) ?_
  show Go p e below _ (s₁.setTop (mkF m 7 #[.val (.ref t1), .val (.int ch), .val (.int (2 : Int32)), .val (.int (4 : Int32)), .val (.int (ch.toInt8.toInt32)), .val (.int (2 : Int32))] []))
  refine Go.via (fun _ => XS.iload X0.here hx rfl (hb hby d18_7) rfl) ?_
  show Go p e below _ (s₁.setTop (mkF m 9 #[.val (.ref t1), .val (.int ch), .val (.int (2 : Int32)), .val (.int (4 : Int32)), .val (.int (ch.toInt8.toInt32)), .val (.int (2 : Int32))] [(.int (2 : Int32))]))
  refine Go.via (fun _ => XS.iloadN X0.here hx rfl (hb hby d18_9) rfl) ?_
  show Go p e below _ (s₁.setTop (mkF m 10 #[.val (.ref t1), .val (.int ch), .val (.int (2 : Int32)), .val (.int (4 : Int32)), .val (.int (ch.toInt8.toInt32)), .val (.int (2 : Int32))] [(.int (4 : Int32)), (.int (2 : Int32))]))
  refine Go.via (fun _ => XS.icmpNo X0.here hx rfl (hb hby d18_10) rfl (by decide)) ?_
  show Go p e below _ (s₁.setTop (mkF m 13 #[.val (.ref t1), .val (.int ch), .val (.int (2 : Int32)), .val (.int (4 : Int32)), .val (.int (ch.toInt8.toInt32)), .val (.int (2 : Int32))] []))
  refine Go.via (fun _ => XS.aloadN X0.here hx rfl (hb hby d18_13) rfl rfl) ?_
  show Go p e below _ (s₁.setTop (mkF m 14 #[.val (.ref t1), .val (.int ch), .val (.int (2 : Int32)), .val (.int (4 : Int32)), .val (.int (ch.toInt8.toInt32)), .val (.int (2 : Int32))] [(.ref t1)]))
  refine Go.via (fun _ => XS.iload X0.here hx rfl (hb hby d18_14) rfl) ?_
  show Go p e below _ (s₁.setTop (mkF m 16 #[.val (.ref t1), .val (.int ch), .val (.int (2 : Int32)), .val (.int (4 : Int32)), .val (.int (ch.toInt8.toInt32)), .val (.int (2 : Int32))] [(.int (2 : Int32)), (.ref t1)]))
  obtain ⟨cl1, Ar1, q1, S1, N1n, H1, G1⟩ := id V2
  have hin1 := inb_of (j := (2 : Int32)) S1 (by decide)
  have hat1 : cl1.slots[((2 : Int32) : Int32).toNatClampNeg]? = some (.int (nar .byte (c2.toInt8.toInt32))) := H1.at hin1 rfl
  refine Go.via (X0.baloadBytes hx (j := (2 : Int32)) (v := (.int (nar .byte (c2.toInt8.toInt32)))) (by rw [e0]; exact Ar1.1) (State.isArrayOf_alike hZ.alike Ar1.2.1) Ar1.2.2 hin1 hat1 (g := (mkF m 16 #[.val (.ref t1), .val (.int ch), .val (.int (2 : Int32)), .val (.int (4 : Int32)), .val (.int (ch.toInt8.toInt32)), .val (.int (2 : Int32))] [(.int (2 : Int32)), (.ref t1)])) rfl rfl (hb hby d18_16)) ?_
  show Go p e below _ (s₁.setTop (mkF m 17 #[.val (.ref t1), .val (.int ch), .val (.int (2 : Int32)), .val (.int (4 : Int32)), .val (.int (ch.toInt8.toInt32)), .val (.int (2 : Int32))] [(.int (nar .byte (c2.toInt8.toInt32)))]))
  refine Go.via (fun _ => XS.iload X0.here hx rfl (hb hby d18_17) rfl) ?_
  show Go p e below _ (s₁.setTop (mkF m 19 #[.val (.ref t1), .val (.int ch), .val (.int (2 : Int32)), .val (.int (4 : Int32)), .val (.int (ch.toInt8.toInt32)), .val (.int (2 : Int32))] [(.int (ch.toInt8.toInt32)), (.int (nar .byte (c2.toInt8.toInt32)))]))
  by_cases hc2 : (nar .byte (c2.toInt8.toInt32)) = (ch.toInt8.toInt32)
  · -- yes
    show Go p e below _ (s₁.setTop (mkF m 19 #[.val (.ref t1), .val (.int ch), .val (.int (2 : Int32)), .val (.int (4 : Int32)), .val (.int (ch.toInt8.toInt32)), .val (.int (2 : Int32))] [(.int (ch.toInt8.toInt32)), (.int (nar .byte (c2.toInt8.toInt32)))]))
    show Go p e below _ (s₁.setTop (mkF m 19 #[.val (.ref t1), .val (.int ch), .val (.int (2 : Int32)), .val (.int (4 : Int32)), .val (.int (ch.toInt8.toInt32)), .val (.int (2 : Int32))] [(.int (ch.toInt8.toInt32)), (.int (nar .byte (c2.toInt8.toInt32)))]))
    refine Go.via (fun _ => XS.icmpNo X0.here hx rfl (hb hby d18_19) rfl (teq hc2).2) ?_
    show Go p e below _ (s₁.setTop (mkF m 22 #[.val (.ref t1), .val (.int ch), .val (.int (2 : Int32)), .val (.int (4 : Int32)), .val (.int (ch.toInt8.toInt32)), .val (.int (2 : Int32))] []))
    refine Go.via (fun _ => XS.iload X0.here hx rfl (hb hby d18_22) rfl) ?_
    show Go p e below _ (s₁.setTop (mkF m 24 #[.val (.ref t1), .val (.int ch), .val (.int (2 : Int32)), .val (.int (4 : Int32)), .val (.int (ch.toInt8.toInt32)), .val (.int (2 : Int32))] [(.int (2 : Int32))]))
    exact own_retI X0 hx hlk Bd.returns (hb hby d18_24) (by show QIxC_4_2 Z t1 kb c0 c1 c2 c3 ch h0 n0 _ s₁.heap _; rw [e0]; exact ⟨by simp [ix4, (qe2.mp hc2), (by decide : (0 : Int32) < (2 : Int32)), (by decide : (1 : Int32) < (2 : Int32)), (by decide : ¬ ((2 : Int32) < (2 : Int32))), (by decide : ¬ ((3 : Int32) < (2 : Int32)))], N0, rfl⟩) (by decide) (by decide)
  · -- no
    show Go p e below _ (s₁.setTop (mkF m 19 #[.val (.ref t1), .val (.int ch), .val (.int (2 : Int32)), .val (.int (4 : Int32)), .val (.int (ch.toInt8.toInt32)), .val (.int (2 : Int32))] [(.int (ch.toInt8.toInt32)), (.int (nar .byte (c2.toInt8.toInt32)))]))
    show Go p e below _ (s₁.setTop (mkF m 19 #[.val (.ref t1), .val (.int ch), .val (.int (2 : Int32)), .val (.int (4 : Int32)), .val (.int (ch.toInt8.toInt32)), .val (.int (2 : Int32))] [(.int (ch.toInt8.toInt32)), (.int (nar .byte (c2.toInt8.toInt32)))]))
    refine Go.via (fun _ => XS.icmpYes X0.here hx rfl (pc0 := 19) (pc' := 25) rfl (hb hby d18_19) rfl (feq hc2).2 (by decide) (by decide)) ?_
    show Go p e below _ (s₁.setTop (mkF m 25 #[.val (.ref t1), .val (.int ch), .val (.int (2 : Int32)), .val (.int (4 : Int32)), .val (.int (ch.toInt8.toInt32)), .val (.int (2 : Int32))] []))
    refine Go.via (fun _ => XS.iinc X0.here hx rfl (hb hby d18_25) rfl (l' := #[.val (.ref t1), .val (.int ch), .val (.int (2 : Int32)), .val (.int (4 : Int32)), .val (.int (ch.toInt8.toInt32)), .val (.int (3 : Int32))]) rfl) ?_
    show Go p e below _ (s₁.setTop (mkF m 28 #[.val (.ref t1), .val (.int ch), .val (.int (2 : Int32)), .val (.int (4 : Int32)), .val (.int (ch.toInt8.toInt32)), .val (.int (3 : Int32))] []))
    refine Go.via (fun _ => XS.goto X0.here hx rfl (pc0 := 28) (pc' := 7) rfl (hb hby d18_28) (by decide) (by decide)) ?_
    show Go p e below _ (s₁.setTop (mkF m 7 #[.val (.ref t1), .val (.int ch), .val (.int (2 : Int32)), .val (.int (4 : Int32)), .val (.int (ch.toInt8.toInt32)), .val (.int (3 : Int32))] []))
    refine Go.via (fun _ => XS.iload X0.here hx rfl (hb hby d18_7) rfl) ?_
    show Go p e below _ (s₁.setTop (mkF m 9 #[.val (.ref t1), .val (.int ch), .val (.int (2 : Int32)), .val (.int (4 : Int32)), .val (.int (ch.toInt8.toInt32)), .val (.int (3 : Int32))] [(.int (3 : Int32))]))
    refine Go.via (fun _ => XS.iloadN X0.here hx rfl (hb hby d18_9) rfl) ?_
    show Go p e below _ (s₁.setTop (mkF m 10 #[.val (.ref t1), .val (.int ch), .val (.int (2 : Int32)), .val (.int (4 : Int32)), .val (.int (ch.toInt8.toInt32)), .val (.int (3 : Int32))] [(.int (4 : Int32)), (.int (3 : Int32))]))
    refine Go.via (fun _ => XS.icmpNo X0.here hx rfl (hb hby d18_10) rfl (by decide)) ?_
    show Go p e below _ (s₁.setTop (mkF m 13 #[.val (.ref t1), .val (.int ch), .val (.int (2 : Int32)), .val (.int (4 : Int32)), .val (.int (ch.toInt8.toInt32)), .val (.int (3 : Int32))] []))
    refine Go.via (fun _ => XS.aloadN X0.here hx rfl (hb hby d18_13) rfl rfl) ?_
    show Go p e below _ (s₁.setTop (mkF m 14 #[.val (.ref t1), .val (.int ch), .val (.int (2 : Int32)), .val (.int (4 : Int32)), .val (.int (ch.toInt8.toInt32)), .val (.int (3 : Int32))] [(.ref t1)]))
    refine Go.via (fun _ => XS.iload X0.here hx rfl (hb hby d18_14) rfl) ?_
    show Go p e below _ (s₁.setTop (mkF m 16 #[.val (.ref t1), .val (.int ch), .val (.int (2 : Int32)), .val (.int (4 : Int32)), .val (.int (ch.toInt8.toInt32)), .val (.int (3 : Int32))] [(.int (3 : Int32)), (.ref t1)]))
    obtain ⟨cl3, Ar3, q3, S3, N3n, H3, G3⟩ := id V2
    have hin3 := inb_of (j := (3 : Int32)) S3 (by decide)
    have hat3 : cl3.slots[((3 : Int32) : Int32).toNatClampNeg]? = some (.int (nar .byte (c3.toInt8.toInt32))) := H3.at hin3 rfl
    refine Go.via (X0.baloadBytes hx (j := (3 : Int32)) (v := (.int (nar .byte (c3.toInt8.toInt32)))) (by rw [e0]; exact Ar3.1) (State.isArrayOf_alike hZ.alike Ar3.2.1) Ar3.2.2 hin3 hat3 (g := (mkF m 16 #[.val (.ref t1), .val (.int ch), .val (.int (2 : Int32)), .val (.int (4 : Int32)), .val (.int (ch.toInt8.toInt32)), .val (.int (3 : Int32))] [(.int (3 : Int32)), (.ref t1)])) rfl rfl (hb hby d18_16)) ?_
    show Go p e below _ (s₁.setTop (mkF m 17 #[.val (.ref t1), .val (.int ch), .val (.int (2 : Int32)), .val (.int (4 : Int32)), .val (.int (ch.toInt8.toInt32)), .val (.int (3 : Int32))] [(.int (nar .byte (c3.toInt8.toInt32)))]))
    refine Go.via (fun _ => XS.iload X0.here hx rfl (hb hby d18_17) rfl) ?_
    show Go p e below _ (s₁.setTop (mkF m 19 #[.val (.ref t1), .val (.int ch), .val (.int (2 : Int32)), .val (.int (4 : Int32)), .val (.int (ch.toInt8.toInt32)), .val (.int (3 : Int32))] [(.int (ch.toInt8.toInt32)), (.int (nar .byte (c3.toInt8.toInt32)))]))
    by_cases hc4 : (nar .byte (c3.toInt8.toInt32)) = (ch.toInt8.toInt32)
    · -- yes
      show Go p e below _ (s₁.setTop (mkF m 19 #[.val (.ref t1), .val (.int ch), .val (.int (2 : Int32)), .val (.int (4 : Int32)), .val (.int (ch.toInt8.toInt32)), .val (.int (3 : Int32))] [(.int (ch.toInt8.toInt32)), (.int (nar .byte (c3.toInt8.toInt32)))]))
      show Go p e below _ (s₁.setTop (mkF m 19 #[.val (.ref t1), .val (.int ch), .val (.int (2 : Int32)), .val (.int (4 : Int32)), .val (.int (ch.toInt8.toInt32)), .val (.int (3 : Int32))] [(.int (ch.toInt8.toInt32)), (.int (nar .byte (c3.toInt8.toInt32)))]))
      refine Go.via (fun _ => XS.icmpNo X0.here hx rfl (hb hby d18_19) rfl (teq hc4).2) ?_
      show Go p e below _ (s₁.setTop (mkF m 22 #[.val (.ref t1), .val (.int ch), .val (.int (2 : Int32)), .val (.int (4 : Int32)), .val (.int (ch.toInt8.toInt32)), .val (.int (3 : Int32))] []))
      refine Go.via (fun _ => XS.iload X0.here hx rfl (hb hby d18_22) rfl) ?_
      show Go p e below _ (s₁.setTop (mkF m 24 #[.val (.ref t1), .val (.int ch), .val (.int (2 : Int32)), .val (.int (4 : Int32)), .val (.int (ch.toInt8.toInt32)), .val (.int (3 : Int32))] [(.int (3 : Int32))]))
      exact own_retI X0 hx hlk Bd.returns (hb hby d18_24) (by show QIxC_4_2 Z t1 kb c0 c1 c2 c3 ch h0 n0 _ s₁.heap _; rw [e0]; exact ⟨by simp [ix4, (mt qe2.mpr hc2), (qe3.mp hc4), (by decide : (0 : Int32) < (2 : Int32)), (by decide : (1 : Int32) < (2 : Int32)), (by decide : ¬ ((2 : Int32) < (2 : Int32))), (by decide : ¬ ((3 : Int32) < (2 : Int32)))], N0, rfl⟩) (by decide) (by decide)
    · -- no
      show Go p e below _ (s₁.setTop (mkF m 19 #[.val (.ref t1), .val (.int ch), .val (.int (2 : Int32)), .val (.int (4 : Int32)), .val (.int (ch.toInt8.toInt32)), .val (.int (3 : Int32))] [(.int (ch.toInt8.toInt32)), (.int (nar .byte (c3.toInt8.toInt32)))]))
      show Go p e below _ (s₁.setTop (mkF m 19 #[.val (.ref t1), .val (.int ch), .val (.int (2 : Int32)), .val (.int (4 : Int32)), .val (.int (ch.toInt8.toInt32)), .val (.int (3 : Int32))] [(.int (ch.toInt8.toInt32)), (.int (nar .byte (c3.toInt8.toInt32)))]))
      refine Go.via (fun _ => XS.icmpYes X0.here hx rfl (pc0 := 19) (pc' := 25) rfl (hb hby d18_19) rfl (feq hc4).2 (by decide) (by decide)) ?_
      show Go p e below _ (s₁.setTop (mkF m 25 #[.val (.ref t1), .val (.int ch), .val (.int (2 : Int32)), .val (.int (4 : Int32)), .val (.int (ch.toInt8.toInt32)), .val (.int (3 : Int32))] []))
      refine Go.via (fun _ => XS.iinc X0.here hx rfl (hb hby d18_25) rfl (l' := #[.val (.ref t1), .val (.int ch), .val (.int (2 : Int32)), .val (.int (4 : Int32)), .val (.int (ch.toInt8.toInt32)), .val (.int (4 : Int32))]) rfl) ?_
      show Go p e below _ (s₁.setTop (mkF m 28 #[.val (.ref t1), .val (.int ch), .val (.int (2 : Int32)), .val (.int (4 : Int32)), .val (.int (ch.toInt8.toInt32)), .val (.int (4 : Int32))] []))
      refine Go.via (fun _ => XS.goto X0.here hx rfl (pc0 := 28) (pc' := 7) rfl (hb hby d18_28) (by decide) (by decide)) ?_
      show Go p e below _ (s₁.setTop (mkF m 7 #[.val (.ref t1), .val (.int ch), .val (.int (2 : Int32)), .val (.int (4 : Int32)), .val (.int (ch.toInt8.toInt32)), .val (.int (4 : Int32))] []))
      refine Go.via (fun _ => XS.iload X0.here hx rfl (hb hby d18_7) rfl) ?_
      show Go p e below _ (s₁.setTop (mkF m 9 #[.val (.ref t1), .val (.int ch), .val (.int (2 : Int32)), .val (.int (4 : Int32)), .val (.int (ch.toInt8.toInt32)), .val (.int (4 : Int32))] [(.int (4 : Int32))]))
      refine Go.via (fun _ => XS.iloadN X0.here hx rfl (hb hby d18_9) rfl) ?_
      show Go p e below _ (s₁.setTop (mkF m 10 #[.val (.ref t1), .val (.int ch), .val (.int (2 : Int32)), .val (.int (4 : Int32)), .val (.int (ch.toInt8.toInt32)), .val (.int (4 : Int32))] [(.int (4 : Int32)), (.int (4 : Int32))]))
      refine Go.via (fun _ => XS.icmpYes X0.here hx rfl (pc0 := 10) (pc' := 31) rfl (hb hby d18_10) rfl (by decide) (by decide) (by decide)) ?_
      show Go p e below _ (s₁.setTop (mkF m 31 #[.val (.ref t1), .val (.int ch), .val (.int (2 : Int32)), .val (.int (4 : Int32)), .val (.int (ch.toInt8.toInt32)), .val (.int (4 : Int32))] []))
      refine Go.via (fun _ => XS.iconst X0.here hx rfl (hb hby d18_31)) ?_
      show Go p e below _ (s₁.setTop (mkF m 32 #[.val (.ref t1), .val (.int ch), .val (.int (2 : Int32)), .val (.int (4 : Int32)), .val (.int (ch.toInt8.toInt32)), .val (.int (4 : Int32))] [(.int (-1 : Int32))]))
      exact own_retI X0 hx hlk Bd.returns (hb hby d18_32) (by show QIxC_4_2 Z t1 kb c0 c1 c2 c3 ch h0 n0 _ s₁.heap _; rw [e0]; exact ⟨by simp [ix4, (mt qe2.mpr hc2), (mt qe3.mpr hc4), (by decide : (0 : Int32) < (2 : Int32)), (by decide : (1 : Int32) < (2 : Int32)), (by decide : ¬ ((2 : Int32) < (2 : Int32))), (by decide : ¬ ((3 : Int32) < (2 : Int32)))], N0, rfl⟩) (by decide) (by decide)
theorem ef_rmIxL_4_2 (m : MethodId) (x0 : Addr) (x1 : Int32) : entryFrame m #[(.ref x0), (.int x1), (.int (2 : Int32)), (.int (4 : Int32))] 4 = mkF m 0 #[.val (.ref x0), .val (.int x1), .val (.int (2 : Int32)), .val (.int (4 : Int32))] [] := by first | (simp [entryFrame, mkF, argsToLocals, Value.category]; done) | rfl
def QIxL_4_2 (Z : State) (t1 : Addr) (kb : ClassId) (c0 : Int32) (c1 : Int32) (c2 : Int32) (c3 : Int32) (ch : Int32) (h0 : Heap) (n0 : Nat) (v : Option Value) (h : Heap) (L : List Loc) : Prop := v = some (.int (ix4 c0 c1 c2 c3 ch (2 : Int32))) ∧ Fr n0 L ∧ h = h0
set_option maxRecDepth 65536 in
set_option maxHeartbeats 40000000 in
theorem rmIxL_4_2 (l : Launch) (Z : State) (a0 : Array Value) (hw : ∀ d ∈ tables_1, d.before a0 Z = true) (ws : List Jvm.Cond) (t1 : Addr) (kb : ClassId) (c0 : Int32) (c1 : Int32) (c2 : Int32) (c3 : Int32) (ch : Int32) (h0 : Heap) (n0 : Nat) (Z0 : n0 ≤ h0.size) (V2 : Arv Z h0 t1 kb .byte (4 : Int32) [(.int (nar .byte (c0.toInt8.toInt32))), (.int (nar .byte (c1.toInt8.toInt32))), (.int (nar .byte (c2.toInt8.toInt32))), (.int (nar .byte (c3.toInt8.toInt32)))] (.int (0 : Int32))) (qe0 : (nar .byte (c0.toInt8.toInt32) = ch.toInt8.toInt32) ↔ c0 = ch) (qe1 : (nar .byte (c1.toInt8.toInt32) = ch.toInt8.toInt32) ↔ c1 = ch) (qe2 : (nar .byte (c2.toInt8.toInt32) = ch.toInt8.toInt32) ↔ c2 = ch) (qe3 : (nar .byte (c3.toInt8.toInt32) = ch.toInt8.toInt32) ↔ c3 = ch) (hc0 : ¬ (ch < (0 : Int32))) (hc1 : ¬ ((255 : Int32) < ch)) :
    MetFree l (⟨"java/lang/StringLatin1", "indexOf", "([BIII)I"⟩ : MethodName) (head1 (Jvm.Cond.code (⟨"java/lang/StringLatin1", "indexOf", "([BIII)I"⟩ : MethodName) jdk_43_method_22_code 4 (some .int) :: ws) ({ frames := 1, cells := 0, slots := 0, locals := 17 } : Room)) (fun a U => a = #[(.ref t1), (.int ch), (.int (2 : Int32)), (.int (4 : Int32))] ∧ Z.Warmed39 U.vm ∧ U.heap = h0) (fun _ _ _ _ _ => True) (fun _ U o U' => ∃ v L, o = .returned v ∧ QIxL_4_2 Z t1 kb c0 c1 c2 c3 ch h0 n0 v U'.heap L ∧ FrameEnd U o U' L ({ frames := 1, cells := 0, slots := 0, locals := 17 } : Room).cells ({ frames := 1, cells := 0, slots := 0, locals := 17 } : Room).slots) := by
  refine MetFree.of_bodySF (plainFor_of_name pn_java_lang_StringLatin1) hisR ?_
  intro p e s m args below meth c s₁ Bd hml0 hP hK
  obtain ⟨rfl, hZ, hh⟩ := hP
  have hx := Bd.exec
  have hby := Bd.bytes
  have hlk : meth.locks = false := Bd.notSynchronized
  have hml : c.maxLocals = 4 := hml0
  have hown : s.vm.findClass "java/lang/StringLatin1" = some m.cls := findClass_of_methodNamed Bd.named
  have hnm := (name_of_methodNamed Bd.named Bd.method).1
  have X0 : Stand p l e ({ frames := 1, cells := 0, slots := 0, locals := 17 } : Room) s m #[(.ref t1), (.int ch), (.int (2 : Int32)), (.int (4 : Int32))] below meth c s₁ [] 0 0 := Stand.of_body Bd
  have e0 : s₁.heap = h0 := by rw [← hh, Bd.state]; rfl
  have N0 := Fr.nil n0
  show Go p e below (FinE s below (QIxL_4_2 Z t1 kb c0 c1 c2 c3 ch h0 n0) ({ frames := 1, cells := 0, slots := 0, locals := 17 } : Room).cells ({ frames := 1, cells := 0, slots := 0, locals := 17 } : Room).slots) (s₁.setTop (entryFrame m #[(.ref t1), (.int ch), (.int (2 : Int32)), (.int (4 : Int32))] 4))
  refine Go.via (fun t k => castTop (ef_rmIxL_4_2 m t1 ch) k) ?_
  show Go p e below _ (s₁.setTop (mkF m 0 #[.val (.ref t1), .val (.int ch), .val (.int (2 : Int32)), .val (.int (4 : Int32))] []))
  refine Go.via (fun _ => XS.iloadN X0.here hx rfl (hb hby d14_0) rfl) ?_
  show Go p e below _ (s₁.setTop (mkF m 1 #[.val (.ref t1), .val (.int ch), .val (.int (2 : Int32)), .val (.int (4 : Int32))] [(.int ch)]))
  obtain ⟨_, _, ⟨T1, L1, k1, n1⟩, -, X1, ⟨Lc1, hQ1, l1, y1, z1⟩, st1⟩ := Jvm.LawKit.callS X0 hx (y := (⟨"java/lang/StringLatin1", "canEncode", "(I)Z"⟩ : MethodName)) hown (mvT hZ (hw _ (List.mem_of_getElem? (i := 79) rfl))) (mvT hZ (hw _ (List.mem_of_getElem? (i := 80) rfl))) (mvT hZ (hw _ (List.mem_of_getElem? (i := 77) rfl))) (mvT hZ (hw _ (List.mem_of_getElem? (i := 81) rfl))) (by decide) (backOf (W := 0) (rmCanI l Z a0 hw [] ch h0 n0 Z0 hc0 hc1) hZ (hw _ (List.mem_of_getElem? (i := 81) rfl)) (hw _ (List.mem_of_getElem? (i := 77) rfl)) (by decide) (by decide)) (g := (mkF m 1 #[.val (.ref t1), .val (.int ch), .val (.int (2 : Int32)), .val (.int (4 : Int32))] [(.int ch)])) rfl (by rw [hml]; rfl) (argsL := [(.int ch)]) (rest := []) (lenOf pd_1 rfl) rfl (by show 2 * 0 + _ ≤ _; exact Nat.le_of_eq rfl) (hb hby d14_1) (fun _ _ => ⟨rfl, e0, (by decide : 0 + 0 ≤ _), (by decide : 0 + 0 ≤ _)⟩)
  dsimp only [Pt.U, Pt.locs, Pt.cells, Pt.slots] at X1 l1 y1 z1 st1 hQ1
  subst l1 y1 z1
  obtain ⟨rfl, N1q, e1q⟩ := hQ1
  have N1 := Fr.app N0 N1q
  refine Go.via st1 ?_
  show Go p e below _ (T1.setTop (mkF m 4 #[.val (.ref t1), .val (.int ch), .val (.int (2 : Int32)), .val (.int (4 : Int32))] [(.int (1 : Int32))]))
  refine Go.via (fun _ => XS.ifYes X1.here hx rfl (pc0 := 4) (pc' := 9) rfl (hb hby d14_4) rfl (by decide) (by decide) (by decide)) ?_
  show Go p e below _ (T1.setTop (mkF m 9 #[.val (.ref t1), .val (.int ch), .val (.int (2 : Int32)), .val (.int (4 : Int32))] []))
  refine Go.via (fun _ => XS.iloadN X1.here hx rfl (hb hby d14_9) rfl) ?_
  show Go p e below _ (T1.setTop (mkF m 10 #[.val (.ref t1), .val (.int ch), .val (.int (2 : Int32)), .val (.int (4 : Int32))] [(.int (2 : Int32))]))
  refine Go.via (fun _ => XS.iconst X1.here hx rfl (hb hby d14_10)) ?_
  show Go p e below _ (T1.setTop (mkF m 11 #[.val (.ref t1), .val (.int ch), .val (.int (2 : Int32)), .val (.int (4 : Int32))] [(.int (0 : Int32)), (.int (2 : Int32))]))
  obtain ⟨_, _, ⟨T2, L2, k2, n2⟩, -, X2, ⟨Lc2, hQ2, l2, y2, z2⟩, st2⟩ := Jvm.LawKit.callS X1 hx (y := (⟨"java/lang/Math", "max", "(II)I"⟩ : MethodName)) hown (mvT hZ (hw _ (List.mem_of_getElem? (i := 82) rfl))) (mvT hZ (hw _ (List.mem_of_getElem? (i := 83) rfl))) (mvT hZ (hw _ (List.mem_of_getElem? (i := 84) rfl))) (mvT hZ (hw _ (List.mem_of_getElem? (i := 85) rfl))) (by decide) (backOf (W := 0) (rm_max_1 l Z a0 hw [] (2 : Int32) (0 : Int32) h0 n0 Z0 (by decide)) hZ (hw _ (List.mem_of_getElem? (i := 85) rfl)) (hw _ (List.mem_of_getElem? (i := 84) rfl)) (by decide) (by decide)) (g := (mkF m 11 #[.val (.ref t1), .val (.int ch), .val (.int (2 : Int32)), .val (.int (4 : Int32))] [(.int (0 : Int32)), (.int (2 : Int32))])) rfl (by rw [hml]; rfl) (argsL := [(.int (2 : Int32)), (.int (0 : Int32))]) (rest := []) (lenOf pd_2 rfl) rfl (by show 2 * 0 + _ ≤ _; exact Nat.le_of_eq rfl) (hb hby d14_11) (fun _ _ => ⟨rfl, e1q, (by decide : 0 + 0 ≤ _), (by decide : 0 + 0 ≤ _)⟩)
  dsimp only [Pt.U, Pt.locs, Pt.cells, Pt.slots] at X2 l2 y2 z2 st2 hQ2
  subst l2 y2 z2
  obtain ⟨rfl, N2q, e2q⟩ := hQ2
  have N2 := Fr.app N1 N2q
  refine Go.via st2 ?_
  show Go p e below _ (T2.setTop (mkF m 14 #[.val (.ref t1), .val (.int ch), .val (.int (2 : Int32)), .val (.int (4 : Int32))] [(.int (2 : Int32))]))
  refine Go.via (fun _ => XS.istoreN X2.here hx rfl (hb hby d14_14) rfl (l' := #[.val (.ref t1), .val (.int ch), .val (.int (2 : Int32)), .val (.int (4 : Int32))]) rfl) ?_
  show Go p e below _ (T2.setTop (mkF m 15 #[.val (.ref t1), .val (.int ch), .val (.int (2 : Int32)), .val (.int (4 : Int32))] []))
  refine Go.via (fun _ => XS.iloadN X2.here hx rfl (hb hby d14_15) rfl) ?_
  show Go p e below _ (T2.setTop (mkF m 16 #[.val (.ref t1), .val (.int ch), .val (.int (2 : Int32)), .val (.int (4 : Int32))] [(.int (4 : Int32))]))
  refine Go.via (fun _ => XS.aloadN X2.here hx rfl (hb hby d14_16) rfl rfl) ?_
  show Go p e below _ (T2.setTop (mkF m 17 #[.val (.ref t1), .val (.int ch), .val (.int (2 : Int32)), .val (.int (4 : Int32))] [(.ref t1), (.int (4 : Int32))]))
  obtain ⟨cl3, Ar3, -, S3, N3n, -, -⟩ := id V2
  have al3 := X2.arraylength hx (by rw [e2q]; exact Ar3.1) (State.isArrayOf_alike hZ.alike Ar3.2.1) (g := (mkF m 17 #[.val (.ref t1), .val (.int ch), .val (.int (2 : Int32)), .val (.int (4 : Int32))] [(.ref t1), (.int (4 : Int32))])) rfl rfl (hb hby d14_17)
  rw [len_of S3 N3n] at al3
  refine Go.via al3 ?_
  show Go p e below _ (T2.setTop (mkF m 18 #[.val (.ref t1), .val (.int ch), .val (.int (2 : Int32)), .val (.int (4 : Int32))] [(.int (4 : Int32)), (.int (4 : Int32))]))
  obtain ⟨_, _, ⟨T4, L4, k4, n4⟩, -, X4, ⟨Lc4, hQ4, l4, y4, z4⟩, st4⟩ := Jvm.LawKit.callS X2 hx (y := (⟨"java/lang/Math", "min", "(II)I"⟩ : MethodName)) hown (mvT hZ (hw _ (List.mem_of_getElem? (i := 86) rfl))) (mvT hZ (hw _ (List.mem_of_getElem? (i := 87) rfl))) (mvT hZ (hw _ (List.mem_of_getElem? (i := 84) rfl))) (mvT hZ (hw _ (List.mem_of_getElem? (i := 88) rfl))) (by decide) (backOf (W := 0) (rm_min_1 l Z a0 hw [] (4 : Int32) (4 : Int32) h0 n0 Z0 (by decide)) hZ (hw _ (List.mem_of_getElem? (i := 88) rfl)) (hw _ (List.mem_of_getElem? (i := 84) rfl)) (by decide) (by decide)) (g := (mkF m 18 #[.val (.ref t1), .val (.int ch), .val (.int (2 : Int32)), .val (.int (4 : Int32))] [(.int (4 : Int32)), (.int (4 : Int32))])) rfl (by rw [hml]; rfl) (argsL := [(.int (4 : Int32)), (.int (4 : Int32))]) (rest := []) (lenOf pd_2 rfl) rfl (by show 2 * 0 + _ ≤ _; exact Nat.le_of_eq rfl) (hb hby d14_18) (fun _ _ => ⟨rfl, e2q, (by decide : 0 + 0 ≤ _), (by decide : 0 + 0 ≤ _)⟩)
  dsimp only [Pt.U, Pt.locs, Pt.cells, Pt.slots] at X4 l4 y4 z4 st4 hQ4
  subst l4 y4 z4
  obtain ⟨rfl, N4q, e4q⟩ := hQ4
  have N4 := Fr.app N2 N4q
  refine Go.via st4 ?_
  show Go p e below _ (T4.setTop (mkF m 21 #[.val (.ref t1), .val (.int ch), .val (.int (2 : Int32)), .val (.int (4 : Int32))] [(.int (4 : Int32))]))
  refine Go.via (fun _ => XS.istoreN X4.here hx rfl (hb hby d14_21) rfl (l' := #[.val (.ref t1), .val (.int ch), .val (.int (2 : Int32)), .val (.int (4 : Int32))]) rfl) ?_
  show Go p e below _ (T4.setTop (mkF m 22 #[.val (.ref t1), .val (.int ch), .val (.int (2 : Int32)), .val (.int (4 : Int32))] []))
  refine Go.via (fun _ => XS.iloadN X4.here hx rfl (hb hby d14_22) rfl) ?_
  show Go p e below _ (T4.setTop (mkF m 23 #[.val (.ref t1), .val (.int ch), .val (.int (2 : Int32)), .val (.int (4 : Int32))] [(.int (2 : Int32))]))
  refine Go.via (fun _ => XS.iloadN X4.here hx rfl (hb hby d14_23) rfl) ?_
  show Go p e below _ (T4.setTop (mkF m 24 #[.val (.ref t1), .val (.int ch), .val (.int (2 : Int32)), .val (.int (4 : Int32))] [(.int (4 : Int32)), (.int (2 : Int32))]))
  refine Go.via (fun _ => XS.icmpYes X4.here hx rfl (pc0 := 24) (pc' := 29) rfl (hb hby d14_24) rfl (by decide) (by decide) (by decide)) ?_
  show Go p e below _ (T4.setTop (mkF m 29 #[.val (.ref t1), .val (.int ch), .val (.int (2 : Int32)), .val (.int (4 : Int32))] []))
  refine Go.via (fun _ => XS.aloadN X4.here hx rfl (hb hby d14_29) rfl rfl) ?_
  show Go p e below _ (T4.setTop (mkF m 30 #[.val (.ref t1), .val (.int ch), .val (.int (2 : Int32)), .val (.int (4 : Int32))] [(.ref t1)]))
  refine Go.via (fun _ => XS.iloadN X4.here hx rfl (hb hby d14_30) rfl) ?_
  show Go p e below _ (T4.setTop (mkF m 31 #[.val (.ref t1), .val (.int ch), .val (.int (2 : Int32)), .val (.int (4 : Int32))] [(.int ch), (.ref t1)]))
  refine Go.via (fun _ => XS.iloadN X4.here hx rfl (hb hby d14_31) rfl) ?_
  show Go p e below _ (T4.setTop (mkF m 32 #[.val (.ref t1), .val (.int ch), .val (.int (2 : Int32)), .val (.int (4 : Int32))] [(.int (2 : Int32)), (.int ch), (.ref t1)]))
  refine Go.via (fun _ => XS.iloadN X4.here hx rfl (hb hby d14_32) rfl) ?_
  show Go p e below _ (T4.setTop (mkF m 33 #[.val (.ref t1), .val (.int ch), .val (.int (2 : Int32)), .val (.int (4 : Int32))] [(.int (4 : Int32)), (.int (2 : Int32)), (.int ch), (.ref t1)]))
  obtain ⟨_, _, ⟨T5, L5, k5, n5⟩, -, X5, ⟨Lc5, hQ5, l5, y5, z5⟩, st5⟩ := Jvm.LawKit.callS X4 hx (y := (⟨"java/lang/StringLatin1", "indexOfChar", "([BIII)I"⟩ : MethodName)) hown (mvT hZ (hw _ (List.mem_of_getElem? (i := 89) rfl))) (mvT hZ (hw _ (List.mem_of_getElem? (i := 90) rfl))) (mvT hZ (hw _ (List.mem_of_getElem? (i := 77) rfl))) (mvT hZ (hw _ (List.mem_of_getElem? (i := 91) rfl))) (by decide) (backOf (W := 0) (rmIxC_4_2 l Z a0 hw [] t1 kb c0 c1 c2 c3 ch h0 n0 Z0 V2 qe0 qe1 qe2 qe3) hZ (hw _ (List.mem_of_getElem? (i := 91) rfl)) (hw _ (List.mem_of_getElem? (i := 77) rfl)) (by decide) (by decide)) (g := (mkF m 33 #[.val (.ref t1), .val (.int ch), .val (.int (2 : Int32)), .val (.int (4 : Int32))] [(.int (4 : Int32)), (.int (2 : Int32)), (.int ch), (.ref t1)])) rfl (by rw [hml]; rfl) (argsL := [(.ref t1), (.int ch), (.int (2 : Int32)), (.int (4 : Int32))]) (rest := []) (lenOf pd_3 rfl) rfl (by show 2 * 0 + _ ≤ _; exact Nat.le_of_eq rfl) (hb hby d14_33) (fun _ _ => ⟨rfl, e4q, (by decide : 0 + 0 ≤ _), (by decide : 0 + 0 ≤ _)⟩)
  dsimp only [Pt.U, Pt.locs, Pt.cells, Pt.slots] at X5 l5 y5 z5 st5 hQ5
  subst l5 y5 z5
  obtain ⟨rfl, N5q, e5q⟩ := hQ5
  have N5 := Fr.app N4 N5q
  refine Go.via st5 ?_
  show Go p e below _ (T5.setTop (mkF m 36 #[.val (.ref t1), .val (.int ch), .val (.int (2 : Int32)), .val (.int (4 : Int32))] [(.int (ix4 c0 c1 c2 c3 ch (2 : Int32)))]))
  exact own_retI X5 hx hlk Bd.returns (hb hby d14_36) (by show QIxL_4_2 Z t1 kb c0 c1 c2 c3 ch h0 n0 _ T5.heap _; rw [e5q]; exact ⟨rfl, N5, rfl⟩) (by decide) (by decide)
theorem ef_rmIxS_4_2 (m : MethodId) (x0 : Addr) (x1 : Int32) : entryFrame m #[(.ref x0), (.int x1), (.int (2 : Int32))] 3 = mkF m 0 #[.val (.ref x0), .val (.int x1), .val (.int (2 : Int32))] [] := by first | (simp [entryFrame, mkF, argsToLocals, Value.category]; done) | rfl
set_option maxRecDepth 65536 in
set_option maxHeartbeats 40000000 in
theorem rmIxS_4_2 (l : Launch) (Z : State) (a0 : Array Value) (hw : ∀ d ∈ tables_1, d.before a0 Z = true) (ws : List Jvm.Cond) (a1 : Addr) (t1 : Addr) (kb : ClassId) (c0 : Int32) (c1 : Int32) (c2 : Int32) (c3 : Int32) (ch : Int32) (ccs : Int32) (h0 : Heap) (n0 : Nat) (Z0 : n0 ≤ h0.size) (E1 : Exa Z h0 a1 "java/lang/String") (F1 : Fld Z h0 a1 "java/lang/String" "value" "[B" (.ref t1)) (F2 : Fld Z h0 a1 "java/lang/String" "coder" "B" (.int (0 : Int32))) (V2 : Arv Z h0 t1 kb .byte (4 : Int32) [(.int (nar .byte (c0.toInt8.toInt32))), (.int (nar .byte (c1.toInt8.toInt32))), (.int (nar .byte (c2.toInt8.toInt32))), (.int (nar .byte (c3.toInt8.toInt32)))] (.int (0 : Int32))) (qe0 : (nar .byte (c0.toInt8.toInt32) = ch.toInt8.toInt32) ↔ c0 = ch) (qe1 : (nar .byte (c1.toInt8.toInt32) = ch.toInt8.toInt32) ↔ c1 = ch) (qe2 : (nar .byte (c2.toInt8.toInt32) = ch.toInt8.toInt32) ↔ c2 = ch) (qe3 : (nar .byte (c3.toInt8.toInt32) = ch.toInt8.toInt32) ↔ c3 = ch) (hc0 : ¬ (ch < (0 : Int32))) (hc1 : ¬ ((255 : Int32) < ch)) (O0 : Old Z n0 h0) (S_CS : Sta Z Z.heap "java/lang/String" "COMPACT_STRINGS" "Z" (.int ccs)) (hcs : ¬ (ccs = (0 : Int32))) :
    MetFree l (⟨"java/lang/String", "indexOf", "(II)I"⟩ : MethodName) (head1 (Jvm.Cond.code (⟨"java/lang/String", "indexOf", "(II)I"⟩ : MethodName) jdk_42_method_80_code 3 (some .int) :: ws) ({ frames := 3, cells := 0, slots := 0, locals := 60 } : Room)) (fun a U => a = #[(.ref a1), (.int ch), (.int (2 : Int32))] ∧ Z.Warmed39 U.vm ∧ U.heap = h0) (fun _ _ _ _ _ => True) (fun _ U o U' => ∃ v L, o = .returned v ∧ QIx4 Z c0 c1 c2 c3 ch (2 : Int32) h0 n0 v U'.heap L ∧ FrameEnd U o U' L ({ frames := 3, cells := 0, slots := 0, locals := 60 } : Room).cells ({ frames := 3, cells := 0, slots := 0, locals := 60 } : Room).slots) := by
  refine MetFree.of_bodySF (plainFor_of_name pn_java_lang_String) hisR ?_
  intro p e s m args below meth c s₁ Bd hml0 hP hK
  obtain ⟨rfl, hZ, hh⟩ := hP
  have hx := Bd.exec
  have hby := Bd.bytes
  have hlk : meth.locks = false := Bd.notSynchronized
  have hml : c.maxLocals = 3 := hml0
  have hown : s.vm.findClass "java/lang/String" = some m.cls := findClass_of_methodNamed Bd.named
  have hnm := (name_of_methodNamed Bd.named Bd.method).1
  have X0 : Stand p l e ({ frames := 3, cells := 0, slots := 0, locals := 60 } : Room) s m #[(.ref a1), (.int ch), (.int (2 : Int32))] below meth c s₁ [] 0 0 := Stand.of_body Bd
  have e0 : s₁.heap = h0 := by rw [← hh, Bd.state]; rfl
  have N0 := Fr.nil n0
  show Go p e below (FinE s below (QIx4 Z c0 c1 c2 c3 ch (2 : Int32) h0 n0) ({ frames := 3, cells := 0, slots := 0, locals := 60 } : Room).cells ({ frames := 3, cells := 0, slots := 0, locals := 60 } : Room).slots) (s₁.setTop (entryFrame m #[(.ref a1), (.int ch), (.int (2 : Int32))] 3))
  refine Go.via (fun t k => castTop (ef_rmIxS_4_2 m a1 ch) k) ?_
  show Go p e below _ (s₁.setTop (mkF m 0 #[.val (.ref a1), .val (.int ch), .val (.int (2 : Int32))] []))
  refine Go.via (fun _ => XS.aloadN X0.here hx rfl (hb hby d10_0) rfl rfl) ?_
  show Go p e below _ (s₁.setTop (mkF m 1 #[.val (.ref a1), .val (.int ch), .val (.int (2 : Int32))] [(.ref a1)]))
  obtain ⟨cq1, kq1, q1a, q1b, q1c⟩ := isOf hZ e0 E1
  obtain ⟨_, _, ⟨T1, L1, k1, n1⟩, -, X1, ⟨Lc1, hQ1, l1, y1, z1⟩, st1⟩ := X0.virtualBack hx (y := (⟨"java/lang/String", "isLatin1", "()Z"⟩ : MethodName)) (z := (⟨"java/lang/String", "isLatin1", "()Z"⟩ : MethodName)) hown (mvT hZ (hw _ (List.mem_of_getElem? (i := 60) rfl))) (mvT hZ (hw _ (List.mem_of_getElem? (i := 61) rfl))) (notFace_of_selects (args := #[]) (mvT hZ (hw _ (List.mem_of_getElem? (i := 63) rfl)))) (mvT hZ (hw _ (List.mem_of_getElem? (i := 63) rfl))) (mvT hZ (hw _ (List.mem_of_getElem? (i := 62) rfl))) (by decide) (backOf (W := 0) (rmIsLat l Z a0 hw [] a1 ccs h0 n0 Z0 F2 O0 S_CS hcs) hZ (hw _ (List.mem_of_getElem? (i := 64) rfl)) (hw _ (List.mem_of_getElem? (i := 5) rfl)) (by decide) (by decide)) q1a q1c (g := (mkF m 1 #[.val (.ref a1), .val (.int ch), .val (.int (2 : Int32))] [(.ref a1)])) rfl (by rw [hml]; rfl) (Steps.refl _) (argsL := []) (rest := []) (lenOf pd_4 rfl) rfl (by show 2 * 0 + _ ≤ _; exact Nat.le_of_eq rfl) (hb hby d10_1) (fun _ _ => ⟨rfl, e0, (by decide : 0 + 0 ≤ _), (by decide : 0 + 0 ≤ _)⟩)
  dsimp only [Pt.U, Pt.locs, Pt.cells, Pt.slots] at X1 l1 y1 z1 st1 hQ1
  subst l1 y1 z1
  obtain ⟨rfl, N1q, e1q⟩ := hQ1
  have N1 := Fr.app N0 N1q
  refine Go.tr st1 ?_
  show Go p e below _ (T1.setTop (mkF m 4 #[.val (.ref a1), .val (.int ch), .val (.int (2 : Int32))] [(.int (1 : Int32))]))
  refine Go.via (fun _ => XS.ifNo X1.here hx rfl (hb hby d10_4) rfl (by decide)) ?_
  show Go p e below _ (T1.setTop (mkF m 7 #[.val (.ref a1), .val (.int ch), .val (.int (2 : Int32))] []))
  refine Go.via (fun _ => XS.aloadN X1.here hx rfl (hb hby d10_7) rfl rfl) ?_
  show Go p e below _ (T1.setTop (mkF m 8 #[.val (.ref a1), .val (.int ch), .val (.int (2 : Int32))] [(.ref a1)]))
  obtain ⟨T2, X2, e2, st2⟩ := getF X1 hx hZ hown (host := "") (Or.inl (hw _ (List.mem_of_getElem? (i := 31) rfl))) Via.refl e1q F1 (g := (mkF m 8 #[.val (.ref a1), .val (.int ch), .val (.int (2 : Int32))] [(.ref a1)])) rfl rfl (hb hby d10_8)
  refine Go.via st2 ?_
  show Go p e below _ (T2.setTop (mkF m 11 #[.val (.ref a1), .val (.int ch), .val (.int (2 : Int32))] [(.ref t1)]))
  refine Go.via (fun _ => XS.iloadN X2.here hx rfl (hb hby d10_11) rfl) ?_
  show Go p e below _ (T2.setTop (mkF m 12 #[.val (.ref a1), .val (.int ch), .val (.int (2 : Int32))] [(.int ch), (.ref t1)]))
  refine Go.via (fun _ => XS.iloadN X2.here hx rfl (hb hby d10_12) rfl) ?_
  show Go p e below _ (T2.setTop (mkF m 13 #[.val (.ref a1), .val (.int ch), .val (.int (2 : Int32))] [(.int (2 : Int32)), (.int ch), (.ref t1)]))
  refine Go.via (fun _ => XS.aloadN X2.here hx rfl (hb hby d10_13) rfl rfl) ?_
  show Go p e below _ (T2.setTop (mkF m 14 #[.val (.ref a1), .val (.int ch), .val (.int (2 : Int32))] [(.ref a1), (.int (2 : Int32)), (.int ch), (.ref t1)]))
  obtain ⟨cq3, kq3, q3a, q3b, q3c⟩ := isOf hZ e2 E1
  obtain ⟨_, _, ⟨T3, L3, k3, n3⟩, -, X3, ⟨Lc3, hQ3, l3, y3, z3⟩, st3⟩ := X2.virtualBack hx (y := (⟨"java/lang/String", "length", "()I"⟩ : MethodName)) (z := (⟨"java/lang/String", "length", "()I"⟩ : MethodName)) hown (mvT hZ (hw _ (List.mem_of_getElem? (i := 65) rfl))) (mvT hZ (hw _ (List.mem_of_getElem? (i := 66) rfl))) (notFace_of_selects (args := #[]) (mvT hZ (hw _ (List.mem_of_getElem? (i := 68) rfl)))) (mvT hZ (hw _ (List.mem_of_getElem? (i := 68) rfl))) (mvT hZ (hw _ (List.mem_of_getElem? (i := 67) rfl))) (by decide) (backOf (W := 3) (rmLen_4 l Z a0 hw [] a1 t1 kb _ ccs h0 n0 Z0 E1 F1 F2 V2 O0 S_CS hcs) hZ (hw _ (List.mem_of_getElem? (i := 69) rfl)) (hw _ (List.mem_of_getElem? (i := 5) rfl)) (by decide) (by decide)) q3a q3c (g := (mkF m 14 #[.val (.ref a1), .val (.int ch), .val (.int (2 : Int32))] [(.ref a1), (.int (2 : Int32)), (.int ch), (.ref t1)])) rfl (by rw [hml]; rfl) (Steps.refl _) (argsL := []) (rest := [(.int (2 : Int32)), (.int ch), (.ref t1)]) (lenOf pd_5 rfl) rfl (by show 2 * 0 + _ ≤ _; exact Nat.le_of_eq rfl) (hb hby d10_14) (fun _ _ => ⟨rfl, e2, (by decide : 0 + 0 ≤ _), (by decide : 0 + 0 ≤ _)⟩)
  dsimp only [Pt.U, Pt.locs, Pt.cells, Pt.slots] at X3 l3 y3 z3 st3 hQ3
  subst l3 y3 z3
  obtain ⟨rfl, N3q, e3q⟩ := hQ3
  have N3 := Fr.app N1 N3q
  refine Go.tr st3 ?_
  show Go p e below _ (T3.setTop (mkF m 17 #[.val (.ref a1), .val (.int ch), .val (.int (2 : Int32))] [(.int (4 : Int32)), (.int (2 : Int32)), (.int ch), (.ref t1)]))
  obtain ⟨_, _, ⟨T4, L4, k4, n4⟩, -, X4, ⟨Lc4, hQ4, l4, y4, z4⟩, st4⟩ := Jvm.LawKit.callS X3 hx (y := (⟨"java/lang/StringLatin1", "indexOf", "([BIII)I"⟩ : MethodName)) hown (mvT hZ (hw _ (List.mem_of_getElem? (i := 75) rfl))) (mvT hZ (hw _ (List.mem_of_getElem? (i := 76) rfl))) (mvT hZ (hw _ (List.mem_of_getElem? (i := 77) rfl))) (mvT hZ (hw _ (List.mem_of_getElem? (i := 78) rfl))) (by decide) (backOf (W := 0) (rmIxL_4_2 l Z a0 hw [] t1 kb c0 c1 c2 c3 ch  h0 n0 Z0 V2 qe0 qe1 qe2 qe3 hc0 hc1) hZ (hw _ (List.mem_of_getElem? (i := 78) rfl)) (hw _ (List.mem_of_getElem? (i := 77) rfl)) (by decide) (by decide)) (g := (mkF m 17 #[.val (.ref a1), .val (.int ch), .val (.int (2 : Int32))] [(.int (4 : Int32)), (.int (2 : Int32)), (.int ch), (.ref t1)])) rfl (by rw [hml]; rfl) (argsL := [(.ref t1), (.int ch), (.int (2 : Int32)), (.int (4 : Int32))]) (rest := []) (lenOf pd_3 rfl) rfl (by show 2 * 0 + _ ≤ _; exact Nat.le_of_eq rfl) (hb hby d10_17) (fun _ _ => ⟨rfl, e3q, (by decide : 0 + 0 ≤ _), (by decide : 0 + 0 ≤ _)⟩)
  dsimp only [Pt.U, Pt.locs, Pt.cells, Pt.slots] at X4 l4 y4 z4 st4 hQ4
  subst l4 y4 z4
  obtain ⟨rfl, N4q, e4q⟩ := hQ4
  have N4 := Fr.app N3 N4q
  refine Go.via st4 ?_
  show Go p e below _ (T4.setTop (mkF m 20 #[.val (.ref a1), .val (.int ch), .val (.int (2 : Int32))] [(.int (ix4 c0 c1 c2 c3 ch (2 : Int32)))]))
  refine Go.via (fun _ => XS.goto X4.here hx rfl (pc0 := 20) (pc' := 36) rfl (hb hby d10_20) (by decide) (by decide)) ?_
  show Go p e below _ (T4.setTop (mkF m 36 #[.val (.ref a1), .val (.int ch), .val (.int (2 : Int32))] [(.int (ix4 c0 c1 c2 c3 ch (2 : Int32)))]))
  exact own_retI X4 hx hlk Bd.returns (hb hby d10_36) (by show QIx4 Z c0 c1 c2 c3 ch (2 : Int32) h0 n0 _ T4.heap _; rw [e4q]; exact ⟨rfl, N4, rfl⟩) (by decide) (by decide)
theorem ef_rmIxC_4_3 (m : MethodId) (x0 : Addr) (x1 : Int32) : entryFrame m #[(.ref x0), (.int x1), (.int (3 : Int32)), (.int (4 : Int32))] 6 = mkF m 0 #[.val (.ref x0), .val (.int x1), .val (.int (3 : Int32)), .val (.int (4 : Int32)), .unset, .unset] [] := by first | (simp [entryFrame, mkF, argsToLocals, Value.category]; done) | rfl
def QIxC_4_3 (Z : State) (t1 : Addr) (kb : ClassId) (c0 : Int32) (c1 : Int32) (c2 : Int32) (c3 : Int32) (ch : Int32) (h0 : Heap) (n0 : Nat) (v : Option Value) (h : Heap) (L : List Loc) : Prop := v = some (.int (ix4 c0 c1 c2 c3 ch (3 : Int32))) ∧ Fr n0 L ∧ h = h0
set_option maxRecDepth 65536 in
set_option maxHeartbeats 40000000 in
theorem rmIxC_4_3 (l : Launch) (Z : State) (a0 : Array Value) (hw : ∀ d ∈ tables_1, d.before a0 Z = true) (ws : List Jvm.Cond) (t1 : Addr) (kb : ClassId) (c0 : Int32) (c1 : Int32) (c2 : Int32) (c3 : Int32) (ch : Int32) (h0 : Heap) (n0 : Nat) (Z0 : n0 ≤ h0.size) (V2 : Arv Z h0 t1 kb .byte (4 : Int32) [(.int (nar .byte (c0.toInt8.toInt32))), (.int (nar .byte (c1.toInt8.toInt32))), (.int (nar .byte (c2.toInt8.toInt32))), (.int (nar .byte (c3.toInt8.toInt32)))] (.int (0 : Int32))) (qe0 : (nar .byte (c0.toInt8.toInt32) = ch.toInt8.toInt32) ↔ c0 = ch) (qe1 : (nar .byte (c1.toInt8.toInt32) = ch.toInt8.toInt32) ↔ c1 = ch) (qe2 : (nar .byte (c2.toInt8.toInt32) = ch.toInt8.toInt32) ↔ c2 = ch) (qe3 : (nar .byte (c3.toInt8.toInt32) = ch.toInt8.toInt32) ↔ c3 = ch) :
    MetFree l (⟨"java/lang/StringLatin1", "indexOfChar", "([BIII)I"⟩ : MethodName) (head1 (Jvm.Cond.code (⟨"java/lang/StringLatin1", "indexOfChar", "([BIII)I"⟩ : MethodName) jdk_43_method_23_code 6 (some .int) :: ws) ({ frames := 0, cells := 0, slots := 0, locals := 0 } : Room)) (fun a U => a = #[(.ref t1), (.int ch), (.int (3 : Int32)), (.int (4 : Int32))] ∧ Z.Warmed39 U.vm ∧ U.heap = h0) (fun _ _ _ _ _ => True) (fun _ U o U' => ∃ v L, o = .returned v ∧ QIxC_4_3 Z t1 kb c0 c1 c2 c3 ch h0 n0 v U'.heap L ∧ FrameEnd U o U' L ({ frames := 0, cells := 0, slots := 0, locals := 0 } : Room).cells ({ frames := 0, cells := 0, slots := 0, locals := 0 } : Room).slots) := by
  refine MetFree.of_bodySF (plainFor_of_name pn_java_lang_StringLatin1) hisR ?_
  intro p e s m args below meth c s₁ Bd hml0 hP hK
  obtain ⟨rfl, hZ, hh⟩ := hP
  have hx := Bd.exec
  have hby := Bd.bytes
  have hlk : meth.locks = false := Bd.notSynchronized
  have hml : c.maxLocals = 6 := hml0
  have hown : s.vm.findClass "java/lang/StringLatin1" = some m.cls := findClass_of_methodNamed Bd.named
  have hnm := (name_of_methodNamed Bd.named Bd.method).1
  have X0 : Stand p l e ({ frames := 0, cells := 0, slots := 0, locals := 0 } : Room) s m #[(.ref t1), (.int ch), (.int (3 : Int32)), (.int (4 : Int32))] below meth c s₁ [] 0 0 := Stand.of_body Bd
  have e0 : s₁.heap = h0 := by rw [← hh, Bd.state]; rfl
  have N0 := Fr.nil n0
  show Go p e below (FinE s below (QIxC_4_3 Z t1 kb c0 c1 c2 c3 ch h0 n0) ({ frames := 0, cells := 0, slots := 0, locals := 0 } : Room).cells ({ frames := 0, cells := 0, slots := 0, locals := 0 } : Room).slots) (s₁.setTop (entryFrame m #[(.ref t1), (.int ch), (.int (3 : Int32)), (.int (4 : Int32))] 6))
  refine Go.via (fun t k => castTop (ef_rmIxC_4_3 m t1 ch) k) ?_
  show Go p e below _ (s₁.setTop (mkF m 0 #[.val (.ref t1), .val (.int ch), .val (.int (3 : Int32)), .val (.int (4 : Int32)), .unset, .unset] []))
  refine Go.via (fun _ => XS.iloadN X0.here hx rfl (hb hby d18_0) rfl) ?_
  show Go p e below _ (s₁.setTop (mkF m 1 #[.val (.ref t1), .val (.int ch), .val (.int (3 : Int32)), .val (.int (4 : Int32)), .unset, .unset] [(.int ch)]))
  refine Go.via (fun _ => XS.i2b X0.here hx rfl (hb hby d18_1) rfl) ?_
  show Go p e below _ (s₁.setTop (mkF m 2 #[.val (.ref t1), .val (.int ch), .val (.int (3 : Int32)), .val (.int (4 : Int32)), .unset, .unset] [(.int (ch.toInt8.toInt32))]))
  refine Go.via (fun _ => XS.istore X0.here hx rfl (hb hby d18_2) rfl (l' := #[.val (.ref t1), .val (.int ch), .val (.int (3 : Int32)), .val (.int (4 : Int32)), .val (.int (ch.toInt8.toInt32)), .unset]) rfl) ?_
  show Go p e below _ (s₁.setTop (mkF m 4 #[.val (.ref t1), .val (.int ch), .val (.int (3 : Int32)), .val (.int (4 : Int32)), .val (.int (ch.toInt8.toInt32)), .unset] []))
  refine Go.via (fun _ => XS.iloadN X0.here hx rfl (hb hby d18_4) rfl) ?_
  show Go p e below _ (s₁.setTop (mkF m 5 #[.val (.ref t1), .val (.int ch), .val (.int (3 : Int32)), .val (.int (4 : Int32)), .val (.int (ch.toInt8.toInt32)), .unset] [(.int (3 : Int32))]))
  refine Go.via (fun _ => XS.istore X0.here hx rfl (hb hby d18_5) rfl (l' := #[.val (.ref t1), .val (.int ch), .val (.int (3 : Int32)), .val (.int (4 : Int32)), .val (.int (ch.toInt8.toInt32)), .val (.int (3 : Int32))]) rfl) ?_
  show Go p e below _ (s₁.setTop (mkF m 7 #[.val (.ref t1), .val (.int ch), .val (.int (3 : Int32)), .val (.int (4 : Int32)), .val (.int (ch.toInt8.toInt32)), .val (.int (3 : Int32))] []))
  refine Go.via (fun _ => XS.iload X0.here hx rfl (hb hby d18_7) rfl) ?_
  show Go p e below _ (s₁.setTop (mkF m 9 #[.val (.ref t1), .val (.int ch), .val (.int (3 : Int32)), .val (.int (4 : Int32)), .val (.int (ch.toInt8.toInt32)), .val (.int (3 : Int32))] [(.int (3 : Int32))]))
  refine Go.via (fun _ => XS.iloadN X0.here hx rfl (hb hby d18_9) rfl) ?_
  show Go p e below _ (s₁.setTop (mkF m 10 #[.val (.ref t1), .val (.int ch), .val (.int (3 : Int32)), .val (.int (4 : Int32)), .val (.int (ch.toInt8.toInt32)), .val (.int (3 : Int32))] [(.int (4 : Int32)), (.int (3 : Int32))]))
  refine Go.via (fun _ => XS.icmpNo X0.here hx rfl (hb hby d18_10) rfl (by decide)) ?_
  show Go p e below _ (s₁.setTop (mkF m 13 #[.val (.ref t1), .val (.int ch), .val (.int (3 : Int32)), .val (.int (4 : Int32)), .val (.int (ch.toInt8.toInt32)), .val (.int (3 : Int32))] []))
  refine Go.via (fun _ => XS.aloadN X0.here hx rfl (hb hby d18_13) rfl rfl) ?_
  show Go p e below _ (s₁.setTop (mkF m 14 #[.val (.ref t1), .val (.int ch), .val (.int (3 : Int32)), .val (.int (4 : Int32)), .val (.int (ch.toInt8.toInt32)), .val (.int (3 : Int32))] [(.ref t1)]))
  refine Go.via (fun _ => XS.iload X0.here hx rfl (hb hby d18_14) rfl) ?_
  show Go p e below _ (s₁.setTop (mkF m 16 #[.val (.ref t1), .val (.int ch), .val (.int (3 : Int32)), .val (.int (4 : Int32)), .val (.int (ch.toInt8.toInt32)), .val (.int (3 : Int32))] [(.int (3 : Int32)), (.ref t1)]))
  obtain ⟨cl1, Ar1, q1, S1, N1n, H1, G1⟩ := id V2
  have hin1 := inb_of (j := (3 : Int32)) S1 (by decide)
  have hat1 : cl1.slots[((3 : Int32) : Int32).toNatClampNeg]? = some (.int (nar .byte (c3.toInt8.toInt32))) := H1.at hin1 rfl
  refine Go.via (X0.baloadBytes hx (j := (3 : Int32)) (v := (.int (nar .byte (c3.toInt8.toInt32)))) (by rw [e0]; exact Ar1.1) (State.isArrayOf_alike hZ.alike Ar1.2.1) Ar1.2.2 hin1 hat1 (g := (mkF m 16 #[.val (.ref t1), .val (.int ch), .val (.int (3 : Int32)), .val (.int (4 : Int32)), .val (.int (ch.toInt8.toInt32)), .val (.int (3 : Int32))] [(.int (3 : Int32)), (.ref t1)])) rfl rfl (hb hby d18_16)) ?_
  show Go p e below _ (s₁.setTop (mkF m 17 #[.val (.ref t1), .val (.int ch), .val (.int (3 : Int32)), .val (.int (4 : Int32)), .val (.int (ch.toInt8.toInt32)), .val (.int (3 : Int32))] [(.int (nar .byte (c3.toInt8.toInt32)))]))
  refine Go.via (fun _ => XS.iload X0.here hx rfl (hb hby d18_17) rfl) ?_
  show Go p e below _ (s₁.setTop (mkF m 19 #[.val (.ref t1), .val (.int ch), .val (.int (3 : Int32)), .val (.int (4 : Int32)), .val (.int (ch.toInt8.toInt32)), .val (.int (3 : Int32))] [(.int (ch.toInt8.toInt32)), (.int (nar .byte (c3.toInt8.toInt32)))]))
  by_cases hc2 : (nar .byte (c3.toInt8.toInt32)) = (ch.toInt8.toInt32)
  · -- yes
    show Go p e below _ (s₁.setTop (mkF m 19 #[.val (.ref t1), .val (.int ch), .val (.int (3 : Int32)), .val (.int (4 : Int32)), .val (.int (ch.toInt8.toInt32)), .val (.int (3 : Int32))] [(.int (ch.toInt8.toInt32)), (.int (nar .byte (c3.toInt8.toInt32)))]))
    show Go p e below _ (s₁.setTop (mkF m 19 #[.val (.ref t1), .val (.int ch), .val (.int (3 : Int32)), .val (.int (4 : Int32)), .val (.int (ch.toInt8.toInt32)), .val (.int (3 : Int32))] [(.int (ch.toInt8.toInt32)), (.int (nar .byte (c3.toInt8.toInt32)))]))
    refine Go.via (fun _ => XS.icmpNo X0.here hx rfl (hb hby d18_19) rfl (teq hc2).2) ?_
    show Go p e below _ (s₁.setTop (mkF m 22 #[.val (.ref t1), .val (.int ch), .val (.int (3 : Int32)), .val (.int (4 : Int32)), .val (.int (ch.toInt8.toInt32)), .val (.int (3 : Int32))] []))
    refine Go.via (fun _ => XS.iload X0.here hx rfl (hb hby d18_22) rfl) ?_
    show Go p e below _ (s₁.setTop (mkF m 24 #[.val (.ref t1), .val (.int ch), .val (.int (3 : Int32)), .val (.int (4 : Int32)), .val (.int (ch.toInt8.toInt32)), .val (.int (3 : Int32))] [(.int (3 : Int32))]))
    exact own_retI X0 hx hlk Bd.returns (hb hby d18_24) (by show QIxC_4_3 Z t1 kb c0 c1 c2 c3 ch h0 n0 _ s₁.heap _; rw [e0]; exact ⟨by simp [ix4, (qe3.mp hc2), (by decide : (0 : Int32) < (3 : Int32)), (by decide : (1 : Int32) < (3 : Int32)), (by decide : (2 : Int32) < (3 : Int32)), (by decide : ¬ ((3 : Int32) < (3 : Int32)))], N0, rfl⟩) (by decide) (by decide)
  · -- no
    show Go p e below _ (s₁.setTop (mkF m 19 #[.val (.ref t1), .val (.int ch), .val (.int (3 : Int32)), .val (.int (4 : Int32)), .val (.int (ch.toInt8.toInt32)), .val (.int (3 : Int32))] [(.int (ch.toInt8.toInt32)), (.int (nar .byte (c3.toInt8.toInt32)))]))
    show Go p e below _ (s₁.setTop (mkF m 19 #[.val (.ref t1), .val (.int ch), .val (.int (3 : Int32)), .val (.int (4 : Int32)), .val (.int (ch.toInt8.toInt32)), .val (.int (3 : Int32))] [(.int (ch.toInt8.toInt32)), (.int (nar .byte (c3.toInt8.toInt32)))]))
    refine Go.via (fun _ => XS.icmpYes X0.here hx rfl (pc0 := 19) (pc' := 25) rfl (hb hby d18_19) rfl (feq hc2).2 (by decide) (by decide)) ?_
    show Go p e below _ (s₁.setTop (mkF m 25 #[.val (.ref t1), .val (.int ch), .val (.int (3 : Int32)), .val (.int (4 : Int32)), .val (.int (ch.toInt8.toInt32)), .val (.int (3 : Int32))] []))
    refine Go.via (fun _ => XS.iinc X0.here hx rfl (hb hby d18_25) rfl (l' := #[.val (.ref t1), .val (.int ch), .val (.int (3 : Int32)), .val (.int (4 : Int32)), .val (.int (ch.toInt8.toInt32)), .val (.int (4 : Int32))]) rfl) ?_
    show Go p e below _ (s₁.setTop (mkF m 28 #[.val (.ref t1), .val (.int ch), .val (.int (3 : Int32)), .val (.int (4 : Int32)), .val (.int (ch.toInt8.toInt32)), .val (.int (4 : Int32))] []))
    refine Go.via (fun _ => XS.goto X0.here hx rfl (pc0 := 28) (pc' := 7) rfl (hb hby d18_28) (by decide) (by decide)) ?_
    show Go p e below _ (s₁.setTop (mkF m 7 #[.val (.ref t1), .val (.int ch), .val (.int (3 : Int32)), .val (.int (4 : Int32)), .val (.int (ch.toInt8.toInt32)), .val (.int (4 : Int32))] []))
    refine Go.via (fun _ => XS.iload X0.here hx rfl (hb hby d18_7) rfl) ?_
    show Go p e below _ (s₁.setTop (mkF m 9 #[.val (.ref t1), .val (.int ch), .val (.int (3 : Int32)), .val (.int (4 : Int32)), .val (.int (ch.toInt8.toInt32)), .val (.int (4 : Int32))] [(.int (4 : Int32))]))
    refine Go.via (fun _ => XS.iloadN X0.here hx rfl (hb hby d18_9) rfl) ?_
    show Go p e below _ (s₁.setTop (mkF m 10 #[.val (.ref t1), .val (.int ch), .val (.int (3 : Int32)), .val (.int (4 : Int32)), .val (.int (ch.toInt8.toInt32)), .val (.int (4 : Int32))] [(.int (4 : Int32)), (.int (4 : Int32))]))
    refine Go.via (fun _ => XS.icmpYes X0.here hx rfl (pc0 := 10) (pc' := 31) rfl (hb hby d18_10) rfl (by decide) (by decide) (by decide)) ?_
    show Go p e below _ (s₁.setTop (mkF m 31 #[.val (.ref t1), .val (.int ch), .val (.int (3 : Int32)), .val (.int (4 : Int32)), .val (.int (ch.toInt8.toInt32)), .val (.int (4 : Int32))] []))
    refine Go.via (fun _ => XS.iconst X0.here hx rfl (hb hby d18_31)) ?_
    show Go p e below _ (s₁.setTop (mkF m 32 #[.val (.ref t1), .val (.int ch), .val (.int (3 : Int32)), .val (.int (4 : Int32)), .val (.int (ch.toInt8.toInt32)), .val (.int (4 : Int32))] [(.int (-1 : Int32))]))
    exact own_retI X0 hx hlk Bd.returns (hb hby d18_32) (by show QIxC_4_3 Z t1 kb c0 c1 c2 c3 ch h0 n0 _ s₁.heap _; rw [e0]; exact ⟨by simp [ix4, (mt qe3.mpr hc2), (by decide : (0 : Int32) < (3 : Int32)), (by decide : (1 : Int32) < (3 : Int32)), (by decide : (2 : Int32) < (3 : Int32)), (by decide : ¬ ((3 : Int32) < (3 : Int32)))], N0, rfl⟩) (by decide) (by decide)
theorem ef_rmIxL_4_3 (m : MethodId) (x0 : Addr) (x1 : Int32) : entryFrame m #[(.ref x0), (.int x1), (.int (3 : Int32)), (.int (4 : Int32))] 4 = mkF m 0 #[.val (.ref x0), .val (.int x1), .val (.int (3 : Int32)), .val (.int (4 : Int32))] [] := by first | (simp [entryFrame, mkF, argsToLocals, Value.category]; done) | rfl
def QIxL_4_3 (Z : State) (t1 : Addr) (kb : ClassId) (c0 : Int32) (c1 : Int32) (c2 : Int32) (c3 : Int32) (ch : Int32) (h0 : Heap) (n0 : Nat) (v : Option Value) (h : Heap) (L : List Loc) : Prop := v = some (.int (ix4 c0 c1 c2 c3 ch (3 : Int32))) ∧ Fr n0 L ∧ h = h0
set_option maxRecDepth 65536 in
set_option maxHeartbeats 40000000 in
theorem rmIxL_4_3 (l : Launch) (Z : State) (a0 : Array Value) (hw : ∀ d ∈ tables_1, d.before a0 Z = true) (ws : List Jvm.Cond) (t1 : Addr) (kb : ClassId) (c0 : Int32) (c1 : Int32) (c2 : Int32) (c3 : Int32) (ch : Int32) (h0 : Heap) (n0 : Nat) (Z0 : n0 ≤ h0.size) (V2 : Arv Z h0 t1 kb .byte (4 : Int32) [(.int (nar .byte (c0.toInt8.toInt32))), (.int (nar .byte (c1.toInt8.toInt32))), (.int (nar .byte (c2.toInt8.toInt32))), (.int (nar .byte (c3.toInt8.toInt32)))] (.int (0 : Int32))) (qe0 : (nar .byte (c0.toInt8.toInt32) = ch.toInt8.toInt32) ↔ c0 = ch) (qe1 : (nar .byte (c1.toInt8.toInt32) = ch.toInt8.toInt32) ↔ c1 = ch) (qe2 : (nar .byte (c2.toInt8.toInt32) = ch.toInt8.toInt32) ↔ c2 = ch) (qe3 : (nar .byte (c3.toInt8.toInt32) = ch.toInt8.toInt32) ↔ c3 = ch) (hc0 : ¬ (ch < (0 : Int32))) (hc1 : ¬ ((255 : Int32) < ch)) :
    MetFree l (⟨"java/lang/StringLatin1", "indexOf", "([BIII)I"⟩ : MethodName) (head1 (Jvm.Cond.code (⟨"java/lang/StringLatin1", "indexOf", "([BIII)I"⟩ : MethodName) jdk_43_method_22_code 4 (some .int) :: ws) ({ frames := 1, cells := 0, slots := 0, locals := 17 } : Room)) (fun a U => a = #[(.ref t1), (.int ch), (.int (3 : Int32)), (.int (4 : Int32))] ∧ Z.Warmed39 U.vm ∧ U.heap = h0) (fun _ _ _ _ _ => True) (fun _ U o U' => ∃ v L, o = .returned v ∧ QIxL_4_3 Z t1 kb c0 c1 c2 c3 ch h0 n0 v U'.heap L ∧ FrameEnd U o U' L ({ frames := 1, cells := 0, slots := 0, locals := 17 } : Room).cells ({ frames := 1, cells := 0, slots := 0, locals := 17 } : Room).slots) := by
  refine MetFree.of_bodySF (plainFor_of_name pn_java_lang_StringLatin1) hisR ?_
  intro p e s m args below meth c s₁ Bd hml0 hP hK
  obtain ⟨rfl, hZ, hh⟩ := hP
  have hx := Bd.exec
  have hby := Bd.bytes
  have hlk : meth.locks = false := Bd.notSynchronized
  have hml : c.maxLocals = 4 := hml0
  have hown : s.vm.findClass "java/lang/StringLatin1" = some m.cls := findClass_of_methodNamed Bd.named
  have hnm := (name_of_methodNamed Bd.named Bd.method).1
  have X0 : Stand p l e ({ frames := 1, cells := 0, slots := 0, locals := 17 } : Room) s m #[(.ref t1), (.int ch), (.int (3 : Int32)), (.int (4 : Int32))] below meth c s₁ [] 0 0 := Stand.of_body Bd
  have e0 : s₁.heap = h0 := by rw [← hh, Bd.state]; rfl
  have N0 := Fr.nil n0
  show Go p e below (FinE s below (QIxL_4_3 Z t1 kb c0 c1 c2 c3 ch h0 n0) ({ frames := 1, cells := 0, slots := 0, locals := 17 } : Room).cells ({ frames := 1, cells := 0, slots := 0, locals := 17 } : Room).slots) (s₁.setTop (entryFrame m #[(.ref t1), (.int ch), (.int (3 : Int32)), (.int (4 : Int32))] 4))
  refine Go.via (fun t k => castTop (ef_rmIxL_4_3 m t1 ch) k) ?_
  show Go p e below _ (s₁.setTop (mkF m 0 #[.val (.ref t1), .val (.int ch), .val (.int (3 : Int32)), .val (.int (4 : Int32))] []))
  refine Go.via (fun _ => XS.iloadN X0.here hx rfl (hb hby d14_0) rfl) ?_
  show Go p e below _ (s₁.setTop (mkF m 1 #[.val (.ref t1), .val (.int ch), .val (.int (3 : Int32)), .val (.int (4 : Int32))] [(.int ch)]))
  obtain ⟨_, _, ⟨T1, L1, k1, n1⟩, -, X1, ⟨Lc1, hQ1, l1, y1, z1⟩, st1⟩ := Jvm.LawKit.callS X0 hx (y := (⟨"java/lang/StringLatin1", "canEncode", "(I)Z"⟩ : MethodName)) hown (mvT hZ (hw _ (List.mem_of_getElem? (i := 79) rfl))) (mvT hZ (hw _ (List.mem_of_getElem? (i := 80) rfl))) (mvT hZ (hw _ (List.mem_of_getElem? (i := 77) rfl))) (mvT hZ (hw _ (List.mem_of_getElem? (i := 81) rfl))) (by decide) (backOf (W := 0) (rmCanI l Z a0 hw [] ch h0 n0 Z0 hc0 hc1) hZ (hw _ (List.mem_of_getElem? (i := 81) rfl)) (hw _ (List.mem_of_getElem? (i := 77) rfl)) (by decide) (by decide)) (g := (mkF m 1 #[.val (.ref t1), .val (.int ch), .val (.int (3 : Int32)), .val (.int (4 : Int32))] [(.int ch)])) rfl (by rw [hml]; rfl) (argsL := [(.int ch)]) (rest := []) (lenOf pd_1 rfl) rfl (by show 2 * 0 + _ ≤ _; exact Nat.le_of_eq rfl) (hb hby d14_1) (fun _ _ => ⟨rfl, e0, (by decide : 0 + 0 ≤ _), (by decide : 0 + 0 ≤ _)⟩)
  dsimp only [Pt.U, Pt.locs, Pt.cells, Pt.slots] at X1 l1 y1 z1 st1 hQ1
  subst l1 y1 z1
  obtain ⟨rfl, N1q, e1q⟩ := hQ1
  have N1 := Fr.app N0 N1q
  refine Go.via st1 ?_
  show Go p e below _ (T1.setTop (mkF m 4 #[.val (.ref t1), .val (.int ch), .val (.int (3 : Int32)), .val (.int (4 : Int32))] [(.int (1 : Int32))]))
  refine Go.via (fun _ => XS.ifYes X1.here hx rfl (pc0 := 4) (pc' := 9) rfl (hb hby d14_4) rfl (by decide) (by decide) (by decide)) ?_
  show Go p e below _ (T1.setTop (mkF m 9 #[.val (.ref t1), .val (.int ch), .val (.int (3 : Int32)), .val (.int (4 : Int32))] []))
  refine Go.via (fun _ => XS.iloadN X1.here hx rfl (hb hby d14_9) rfl) ?_
  show Go p e below _ (T1.setTop (mkF m 10 #[.val (.ref t1), .val (.int ch), .val (.int (3 : Int32)), .val (.int (4 : Int32))] [(.int (3 : Int32))]))
  refine Go.via (fun _ => XS.iconst X1.here hx rfl (hb hby d14_10)) ?_
  show Go p e below _ (T1.setTop (mkF m 11 #[.val (.ref t1), .val (.int ch), .val (.int (3 : Int32)), .val (.int (4 : Int32))] [(.int (0 : Int32)), (.int (3 : Int32))]))
  obtain ⟨_, _, ⟨T2, L2, k2, n2⟩, -, X2, ⟨Lc2, hQ2, l2, y2, z2⟩, st2⟩ := Jvm.LawKit.callS X1 hx (y := (⟨"java/lang/Math", "max", "(II)I"⟩ : MethodName)) hown (mvT hZ (hw _ (List.mem_of_getElem? (i := 82) rfl))) (mvT hZ (hw _ (List.mem_of_getElem? (i := 83) rfl))) (mvT hZ (hw _ (List.mem_of_getElem? (i := 84) rfl))) (mvT hZ (hw _ (List.mem_of_getElem? (i := 85) rfl))) (by decide) (backOf (W := 0) (rm_max_1 l Z a0 hw [] (3 : Int32) (0 : Int32) h0 n0 Z0 (by decide)) hZ (hw _ (List.mem_of_getElem? (i := 85) rfl)) (hw _ (List.mem_of_getElem? (i := 84) rfl)) (by decide) (by decide)) (g := (mkF m 11 #[.val (.ref t1), .val (.int ch), .val (.int (3 : Int32)), .val (.int (4 : Int32))] [(.int (0 : Int32)), (.int (3 : Int32))])) rfl (by rw [hml]; rfl) (argsL := [(.int (3 : Int32)), (.int (0 : Int32))]) (rest := []) (lenOf pd_2 rfl) rfl (by show 2 * 0 + _ ≤ _; exact Nat.le_of_eq rfl) (hb hby d14_11) (fun _ _ => ⟨rfl, e1q, (by decide : 0 + 0 ≤ _), (by decide : 0 + 0 ≤ _)⟩)
  dsimp only [Pt.U, Pt.locs, Pt.cells, Pt.slots] at X2 l2 y2 z2 st2 hQ2
  subst l2 y2 z2
  obtain ⟨rfl, N2q, e2q⟩ := hQ2
  have N2 := Fr.app N1 N2q
  refine Go.via st2 ?_
  show Go p e below _ (T2.setTop (mkF m 14 #[.val (.ref t1), .val (.int ch), .val (.int (3 : Int32)), .val (.int (4 : Int32))] [(.int (3 : Int32))]))
  refine Go.via (fun _ => XS.istoreN X2.here hx rfl (hb hby d14_14) rfl (l' := #[.val (.ref t1), .val (.int ch), .val (.int (3 : Int32)), .val (.int (4 : Int32))]) rfl) ?_
  show Go p e below _ (T2.setTop (mkF m 15 #[.val (.ref t1), .val (.int ch), .val (.int (3 : Int32)), .val (.int (4 : Int32))] []))
  refine Go.via (fun _ => XS.iloadN X2.here hx rfl (hb hby d14_15) rfl) ?_
  show Go p e below _ (T2.setTop (mkF m 16 #[.val (.ref t1), .val (.int ch), .val (.int (3 : Int32)), .val (.int (4 : Int32))] [(.int (4 : Int32))]))
  refine Go.via (fun _ => XS.aloadN X2.here hx rfl (hb hby d14_16) rfl rfl) ?_
  show Go p e below _ (T2.setTop (mkF m 17 #[.val (.ref t1), .val (.int ch), .val (.int (3 : Int32)), .val (.int (4 : Int32))] [(.ref t1), (.int (4 : Int32))]))
  obtain ⟨cl3, Ar3, -, S3, N3n, -, -⟩ := id V2
  have al3 := X2.arraylength hx (by rw [e2q]; exact Ar3.1) (State.isArrayOf_alike hZ.alike Ar3.2.1) (g := (mkF m 17 #[.val (.ref t1), .val (.int ch), .val (.int (3 : Int32)), .val (.int (4 : Int32))] [(.ref t1), (.int (4 : Int32))])) rfl rfl (hb hby d14_17)
  rw [len_of S3 N3n] at al3
  refine Go.via al3 ?_
  show Go p e below _ (T2.setTop (mkF m 18 #[.val (.ref t1), .val (.int ch), .val (.int (3 : Int32)), .val (.int (4 : Int32))] [(.int (4 : Int32)), (.int (4 : Int32))]))
  obtain ⟨_, _, ⟨T4, L4, k4, n4⟩, -, X4, ⟨Lc4, hQ4, l4, y4, z4⟩, st4⟩ := Jvm.LawKit.callS X2 hx (y := (⟨"java/lang/Math", "min", "(II)I"⟩ : MethodName)) hown (mvT hZ (hw _ (List.mem_of_getElem? (i := 86) rfl))) (mvT hZ (hw _ (List.mem_of_getElem? (i := 87) rfl))) (mvT hZ (hw _ (List.mem_of_getElem? (i := 84) rfl))) (mvT hZ (hw _ (List.mem_of_getElem? (i := 88) rfl))) (by decide) (backOf (W := 0) (rm_min_1 l Z a0 hw [] (4 : Int32) (4 : Int32) h0 n0 Z0 (by decide)) hZ (hw _ (List.mem_of_getElem? (i := 88) rfl)) (hw _ (List.mem_of_getElem? (i := 84) rfl)) (by decide) (by decide)) (g := (mkF m 18 #[.val (.ref t1), .val (.int ch), .val (.int (3 : Int32)), .val (.int (4 : Int32))] [(.int (4 : Int32)), (.int (4 : Int32))])) rfl (by rw [hml]; rfl) (argsL := [(.int (4 : Int32)), (.int (4 : Int32))]) (rest := []) (lenOf pd_2 rfl) rfl (by show 2 * 0 + _ ≤ _; exact Nat.le_of_eq rfl) (hb hby d14_18) (fun _ _ => ⟨rfl, e2q, (by decide : 0 + 0 ≤ _), (by decide : 0 + 0 ≤ _)⟩)
  dsimp only [Pt.U, Pt.locs, Pt.cells, Pt.slots] at X4 l4 y4 z4 st4 hQ4
  subst l4 y4 z4
  obtain ⟨rfl, N4q, e4q⟩ := hQ4
  have N4 := Fr.app N2 N4q
  refine Go.via st4 ?_
  show Go p e below _ (T4.setTop (mkF m 21 #[.val (.ref t1), .val (.int ch), .val (.int (3 : Int32)), .val (.int (4 : Int32))] [(.int (4 : Int32))]))
  refine Go.via (fun _ => XS.istoreN X4.here hx rfl (hb hby d14_21) rfl (l' := #[.val (.ref t1), .val (.int ch), .val (.int (3 : Int32)), .val (.int (4 : Int32))]) rfl) ?_
  show Go p e below _ (T4.setTop (mkF m 22 #[.val (.ref t1), .val (.int ch), .val (.int (3 : Int32)), .val (.int (4 : Int32))] []))
  refine Go.via (fun _ => XS.iloadN X4.here hx rfl (hb hby d14_22) rfl) ?_
  show Go p e below _ (T4.setTop (mkF m 23 #[.val (.ref t1), .val (.int ch), .val (.int (3 : Int32)), .val (.int (4 : Int32))] [(.int (3 : Int32))]))
  refine Go.via (fun _ => XS.iloadN X4.here hx rfl (hb hby d14_23) rfl) ?_
  show Go p e below _ (T4.setTop (mkF m 24 #[.val (.ref t1), .val (.int ch), .val (.int (3 : Int32)), .val (.int (4 : Int32))] [(.int (4 : Int32)), (.int (3 : Int32))]))
  refine Go.via (fun _ => XS.icmpYes X4.here hx rfl (pc0 := 24) (pc' := 29) rfl (hb hby d14_24) rfl (by decide) (by decide) (by decide)) ?_
  show Go p e below _ (T4.setTop (mkF m 29 #[.val (.ref t1), .val (.int ch), .val (.int (3 : Int32)), .val (.int (4 : Int32))] []))
  refine Go.via (fun _ => XS.aloadN X4.here hx rfl (hb hby d14_29) rfl rfl) ?_
  show Go p e below _ (T4.setTop (mkF m 30 #[.val (.ref t1), .val (.int ch), .val (.int (3 : Int32)), .val (.int (4 : Int32))] [(.ref t1)]))
  refine Go.via (fun _ => XS.iloadN X4.here hx rfl (hb hby d14_30) rfl) ?_
  show Go p e below _ (T4.setTop (mkF m 31 #[.val (.ref t1), .val (.int ch), .val (.int (3 : Int32)), .val (.int (4 : Int32))] [(.int ch), (.ref t1)]))
  refine Go.via (fun _ => XS.iloadN X4.here hx rfl (hb hby d14_31) rfl) ?_
  show Go p e below _ (T4.setTop (mkF m 32 #[.val (.ref t1), .val (.int ch), .val (.int (3 : Int32)), .val (.int (4 : Int32))] [(.int (3 : Int32)), (.int ch), (.ref t1)]))
  refine Go.via (fun _ => XS.iloadN X4.here hx rfl (hb hby d14_32) rfl) ?_
  show Go p e below _ (T4.setTop (mkF m 33 #[.val (.ref t1), .val (.int ch), .val (.int (3 : Int32)), .val (.int (4 : Int32))] [(.int (4 : Int32)), (.int (3 : Int32)), (.int ch), (.ref t1)]))
  obtain ⟨_, _, ⟨T5, L5, k5, n5⟩, -, X5, ⟨Lc5, hQ5, l5, y5, z5⟩, st5⟩ := Jvm.LawKit.callS X4 hx (y := (⟨"java/lang/StringLatin1", "indexOfChar", "([BIII)I"⟩ : MethodName)) hown (mvT hZ (hw _ (List.mem_of_getElem? (i := 89) rfl))) (mvT hZ (hw _ (List.mem_of_getElem? (i := 90) rfl))) (mvT hZ (hw _ (List.mem_of_getElem? (i := 77) rfl))) (mvT hZ (hw _ (List.mem_of_getElem? (i := 91) rfl))) (by decide) (backOf (W := 0) (rmIxC_4_3 l Z a0 hw [] t1 kb c0 c1 c2 c3 ch h0 n0 Z0 V2 qe0 qe1 qe2 qe3) hZ (hw _ (List.mem_of_getElem? (i := 91) rfl)) (hw _ (List.mem_of_getElem? (i := 77) rfl)) (by decide) (by decide)) (g := (mkF m 33 #[.val (.ref t1), .val (.int ch), .val (.int (3 : Int32)), .val (.int (4 : Int32))] [(.int (4 : Int32)), (.int (3 : Int32)), (.int ch), (.ref t1)])) rfl (by rw [hml]; rfl) (argsL := [(.ref t1), (.int ch), (.int (3 : Int32)), (.int (4 : Int32))]) (rest := []) (lenOf pd_3 rfl) rfl (by show 2 * 0 + _ ≤ _; exact Nat.le_of_eq rfl) (hb hby d14_33) (fun _ _ => ⟨rfl, e4q, (by decide : 0 + 0 ≤ _), (by decide : 0 + 0 ≤ _)⟩)
  dsimp only [Pt.U, Pt.locs, Pt.cells, Pt.slots] at X5 l5 y5 z5 st5 hQ5
  subst l5 y5 z5
  obtain ⟨rfl, N5q, e5q⟩ := hQ5
  have N5 := Fr.app N4 N5q
  refine Go.via st5 ?_
  show Go p e below _ (T5.setTop (mkF m 36 #[.val (.ref t1), .val (.int ch), .val (.int (3 : Int32)), .val (.int (4 : Int32))] [(.int (ix4 c0 c1 c2 c3 ch (3 : Int32)))]))
  exact own_retI X5 hx hlk Bd.returns (hb hby d14_36) (by show QIxL_4_3 Z t1 kb c0 c1 c2 c3 ch h0 n0 _ T5.heap _; rw [e5q]; exact ⟨rfl, N5, rfl⟩) (by decide) (by decide)
theorem ef_rmIxS_4_3 (m : MethodId) (x0 : Addr) (x1 : Int32) : entryFrame m #[(.ref x0), (.int x1), (.int (3 : Int32))] 3 = mkF m 0 #[.val (.ref x0), .val (.int x1), .val (.int (3 : Int32))] [] := by first | (simp [entryFrame, mkF, argsToLocals, Value.category]; done) | rfl
set_option maxRecDepth 65536 in
set_option maxHeartbeats 40000000 in
theorem rmIxS_4_3 (l : Launch) (Z : State) (a0 : Array Value) (hw : ∀ d ∈ tables_1, d.before a0 Z = true) (ws : List Jvm.Cond) (a1 : Addr) (t1 : Addr) (kb : ClassId) (c0 : Int32) (c1 : Int32) (c2 : Int32) (c3 : Int32) (ch : Int32) (ccs : Int32) (h0 : Heap) (n0 : Nat) (Z0 : n0 ≤ h0.size) (E1 : Exa Z h0 a1 "java/lang/String") (F1 : Fld Z h0 a1 "java/lang/String" "value" "[B" (.ref t1)) (F2 : Fld Z h0 a1 "java/lang/String" "coder" "B" (.int (0 : Int32))) (V2 : Arv Z h0 t1 kb .byte (4 : Int32) [(.int (nar .byte (c0.toInt8.toInt32))), (.int (nar .byte (c1.toInt8.toInt32))), (.int (nar .byte (c2.toInt8.toInt32))), (.int (nar .byte (c3.toInt8.toInt32)))] (.int (0 : Int32))) (qe0 : (nar .byte (c0.toInt8.toInt32) = ch.toInt8.toInt32) ↔ c0 = ch) (qe1 : (nar .byte (c1.toInt8.toInt32) = ch.toInt8.toInt32) ↔ c1 = ch) (qe2 : (nar .byte (c2.toInt8.toInt32) = ch.toInt8.toInt32) ↔ c2 = ch) (qe3 : (nar .byte (c3.toInt8.toInt32) = ch.toInt8.toInt32) ↔ c3 = ch) (hc0 : ¬ (ch < (0 : Int32))) (hc1 : ¬ ((255 : Int32) < ch)) (O0 : Old Z n0 h0) (S_CS : Sta Z Z.heap "java/lang/String" "COMPACT_STRINGS" "Z" (.int ccs)) (hcs : ¬ (ccs = (0 : Int32))) :
    MetFree l (⟨"java/lang/String", "indexOf", "(II)I"⟩ : MethodName) (head1 (Jvm.Cond.code (⟨"java/lang/String", "indexOf", "(II)I"⟩ : MethodName) jdk_42_method_80_code 3 (some .int) :: ws) ({ frames := 3, cells := 0, slots := 0, locals := 60 } : Room)) (fun a U => a = #[(.ref a1), (.int ch), (.int (3 : Int32))] ∧ Z.Warmed39 U.vm ∧ U.heap = h0) (fun _ _ _ _ _ => True) (fun _ U o U' => ∃ v L, o = .returned v ∧ QIx4 Z c0 c1 c2 c3 ch (3 : Int32) h0 n0 v U'.heap L ∧ FrameEnd U o U' L ({ frames := 3, cells := 0, slots := 0, locals := 60 } : Room).cells ({ frames := 3, cells := 0, slots := 0, locals := 60 } : Room).slots) := by
  refine MetFree.of_bodySF (plainFor_of_name pn_java_lang_String) hisR ?_
  intro p e s m args below meth c s₁ Bd hml0 hP hK
  obtain ⟨rfl, hZ, hh⟩ := hP
  have hx := Bd.exec
  have hby := Bd.bytes
  have hlk : meth.locks = false := Bd.notSynchronized
  have hml : c.maxLocals = 3 := hml0
  have hown : s.vm.findClass "java/lang/String" = some m.cls := findClass_of_methodNamed Bd.named
  have hnm := (name_of_methodNamed Bd.named Bd.method).1
  have X0 : Stand p l e ({ frames := 3, cells := 0, slots := 0, locals := 60 } : Room) s m #[(.ref a1), (.int ch), (.int (3 : Int32))] below meth c s₁ [] 0 0 := Stand.of_body Bd
  have e0 : s₁.heap = h0 := by rw [← hh, Bd.state]; rfl
  have N0 := Fr.nil n0
  show Go p e below (FinE s below (QIx4 Z c0 c1 c2 c3 ch (3 : Int32) h0 n0) ({ frames := 3, cells := 0, slots := 0, locals := 60 } : Room).cells ({ frames := 3, cells := 0, slots := 0, locals := 60 } : Room).slots) (s₁.setTop (entryFrame m #[(.ref a1), (.int ch), (.int (3 : Int32))] 3))
  refine Go.via (fun t k => castTop (ef_rmIxS_4_3 m a1 ch) k) ?_
  show Go p e below _ (s₁.setTop (mkF m 0 #[.val (.ref a1), .val (.int ch), .val (.int (3 : Int32))] []))
  refine Go.via (fun _ => XS.aloadN X0.here hx rfl (hb hby d10_0) rfl rfl) ?_
  show Go p e below _ (s₁.setTop (mkF m 1 #[.val (.ref a1), .val (.int ch), .val (.int (3 : Int32))] [(.ref a1)]))
  obtain ⟨cq1, kq1, q1a, q1b, q1c⟩ := isOf hZ e0 E1
  obtain ⟨_, _, ⟨T1, L1, k1, n1⟩, -, X1, ⟨Lc1, hQ1, l1, y1, z1⟩, st1⟩ := X0.virtualBack hx (y := (⟨"java/lang/String", "isLatin1", "()Z"⟩ : MethodName)) (z := (⟨"java/lang/String", "isLatin1", "()Z"⟩ : MethodName)) hown (mvT hZ (hw _ (List.mem_of_getElem? (i := 60) rfl))) (mvT hZ (hw _ (List.mem_of_getElem? (i := 61) rfl))) (notFace_of_selects (args := #[]) (mvT hZ (hw _ (List.mem_of_getElem? (i := 63) rfl)))) (mvT hZ (hw _ (List.mem_of_getElem? (i := 63) rfl))) (mvT hZ (hw _ (List.mem_of_getElem? (i := 62) rfl))) (by decide) (backOf (W := 0) (rmIsLat l Z a0 hw [] a1 ccs h0 n0 Z0 F2 O0 S_CS hcs) hZ (hw _ (List.mem_of_getElem? (i := 64) rfl)) (hw _ (List.mem_of_getElem? (i := 5) rfl)) (by decide) (by decide)) q1a q1c (g := (mkF m 1 #[.val (.ref a1), .val (.int ch), .val (.int (3 : Int32))] [(.ref a1)])) rfl (by rw [hml]; rfl) (Steps.refl _) (argsL := []) (rest := []) (lenOf pd_4 rfl) rfl (by show 2 * 0 + _ ≤ _; exact Nat.le_of_eq rfl) (hb hby d10_1) (fun _ _ => ⟨rfl, e0, (by decide : 0 + 0 ≤ _), (by decide : 0 + 0 ≤ _)⟩)
  dsimp only [Pt.U, Pt.locs, Pt.cells, Pt.slots] at X1 l1 y1 z1 st1 hQ1
  subst l1 y1 z1
  obtain ⟨rfl, N1q, e1q⟩ := hQ1
  have N1 := Fr.app N0 N1q
  refine Go.tr st1 ?_
  show Go p e below _ (T1.setTop (mkF m 4 #[.val (.ref a1), .val (.int ch), .val (.int (3 : Int32))] [(.int (1 : Int32))]))
  refine Go.via (fun _ => XS.ifNo X1.here hx rfl (hb hby d10_4) rfl (by decide)) ?_
  show Go p e below _ (T1.setTop (mkF m 7 #[.val (.ref a1), .val (.int ch), .val (.int (3 : Int32))] []))
  refine Go.via (fun _ => XS.aloadN X1.here hx rfl (hb hby d10_7) rfl rfl) ?_
  show Go p e below _ (T1.setTop (mkF m 8 #[.val (.ref a1), .val (.int ch), .val (.int (3 : Int32))] [(.ref a1)]))
  obtain ⟨T2, X2, e2, st2⟩ := getF X1 hx hZ hown (host := "") (Or.inl (hw _ (List.mem_of_getElem? (i := 31) rfl))) Via.refl e1q F1 (g := (mkF m 8 #[.val (.ref a1), .val (.int ch), .val (.int (3 : Int32))] [(.ref a1)])) rfl rfl (hb hby d10_8)
  refine Go.via st2 ?_
  show Go p e below _ (T2.setTop (mkF m 11 #[.val (.ref a1), .val (.int ch), .val (.int (3 : Int32))] [(.ref t1)]))
  refine Go.via (fun _ => XS.iloadN X2.here hx rfl (hb hby d10_11) rfl) ?_
  show Go p e below _ (T2.setTop (mkF m 12 #[.val (.ref a1), .val (.int ch), .val (.int (3 : Int32))] [(.int ch), (.ref t1)]))
  refine Go.via (fun _ => XS.iloadN X2.here hx rfl (hb hby d10_12) rfl) ?_
  show Go p e below _ (T2.setTop (mkF m 13 #[.val (.ref a1), .val (.int ch), .val (.int (3 : Int32))] [(.int (3 : Int32)), (.int ch), (.ref t1)]))
  refine Go.via (fun _ => XS.aloadN X2.here hx rfl (hb hby d10_13) rfl rfl) ?_
  show Go p e below _ (T2.setTop (mkF m 14 #[.val (.ref a1), .val (.int ch), .val (.int (3 : Int32))] [(.ref a1), (.int (3 : Int32)), (.int ch), (.ref t1)]))
  obtain ⟨cq3, kq3, q3a, q3b, q3c⟩ := isOf hZ e2 E1
  obtain ⟨_, _, ⟨T3, L3, k3, n3⟩, -, X3, ⟨Lc3, hQ3, l3, y3, z3⟩, st3⟩ := X2.virtualBack hx (y := (⟨"java/lang/String", "length", "()I"⟩ : MethodName)) (z := (⟨"java/lang/String", "length", "()I"⟩ : MethodName)) hown (mvT hZ (hw _ (List.mem_of_getElem? (i := 65) rfl))) (mvT hZ (hw _ (List.mem_of_getElem? (i := 66) rfl))) (notFace_of_selects (args := #[]) (mvT hZ (hw _ (List.mem_of_getElem? (i := 68) rfl)))) (mvT hZ (hw _ (List.mem_of_getElem? (i := 68) rfl))) (mvT hZ (hw _ (List.mem_of_getElem? (i := 67) rfl))) (by decide) (backOf (W := 3) (rmLen_4 l Z a0 hw [] a1 t1 kb _ ccs h0 n0 Z0 E1 F1 F2 V2 O0 S_CS hcs) hZ (hw _ (List.mem_of_getElem? (i := 69) rfl)) (hw _ (List.mem_of_getElem? (i := 5) rfl)) (by decide) (by decide)) q3a q3c (g := (mkF m 14 #[.val (.ref a1), .val (.int ch), .val (.int (3 : Int32))] [(.ref a1), (.int (3 : Int32)), (.int ch), (.ref t1)])) rfl (by rw [hml]; rfl) (Steps.refl _) (argsL := []) (rest := [(.int (3 : Int32)), (.int ch), (.ref t1)]) (lenOf pd_5 rfl) rfl (by show 2 * 0 + _ ≤ _; exact Nat.le_of_eq rfl) (hb hby d10_14) (fun _ _ => ⟨rfl, e2, (by decide : 0 + 0 ≤ _), (by decide : 0 + 0 ≤ _)⟩)
  dsimp only [Pt.U, Pt.locs, Pt.cells, Pt.slots] at X3 l3 y3 z3 st3 hQ3
  subst l3 y3 z3
  obtain ⟨rfl, N3q, e3q⟩ := hQ3
  have N3 := Fr.app N1 N3q
  refine Go.tr st3 ?_
  show Go p e below _ (T3.setTop (mkF m 17 #[.val (.ref a1), .val (.int ch), .val (.int (3 : Int32))] [(.int (4 : Int32)), (.int (3 : Int32)), (.int ch), (.ref t1)]))
  obtain ⟨_, _, ⟨T4, L4, k4, n4⟩, -, X4, ⟨Lc4, hQ4, l4, y4, z4⟩, st4⟩ := Jvm.LawKit.callS X3 hx (y := (⟨"java/lang/StringLatin1", "indexOf", "([BIII)I"⟩ : MethodName)) hown (mvT hZ (hw _ (List.mem_of_getElem? (i := 75) rfl))) (mvT hZ (hw _ (List.mem_of_getElem? (i := 76) rfl))) (mvT hZ (hw _ (List.mem_of_getElem? (i := 77) rfl))) (mvT hZ (hw _ (List.mem_of_getElem? (i := 78) rfl))) (by decide) (backOf (W := 0) (rmIxL_4_3 l Z a0 hw [] t1 kb c0 c1 c2 c3 ch  h0 n0 Z0 V2 qe0 qe1 qe2 qe3 hc0 hc1) hZ (hw _ (List.mem_of_getElem? (i := 78) rfl)) (hw _ (List.mem_of_getElem? (i := 77) rfl)) (by decide) (by decide)) (g := (mkF m 17 #[.val (.ref a1), .val (.int ch), .val (.int (3 : Int32))] [(.int (4 : Int32)), (.int (3 : Int32)), (.int ch), (.ref t1)])) rfl (by rw [hml]; rfl) (argsL := [(.ref t1), (.int ch), (.int (3 : Int32)), (.int (4 : Int32))]) (rest := []) (lenOf pd_3 rfl) rfl (by show 2 * 0 + _ ≤ _; exact Nat.le_of_eq rfl) (hb hby d10_17) (fun _ _ => ⟨rfl, e3q, (by decide : 0 + 0 ≤ _), (by decide : 0 + 0 ≤ _)⟩)
  dsimp only [Pt.U, Pt.locs, Pt.cells, Pt.slots] at X4 l4 y4 z4 st4 hQ4
  subst l4 y4 z4
  obtain ⟨rfl, N4q, e4q⟩ := hQ4
  have N4 := Fr.app N3 N4q
  refine Go.via st4 ?_
  show Go p e below _ (T4.setTop (mkF m 20 #[.val (.ref a1), .val (.int ch), .val (.int (3 : Int32))] [(.int (ix4 c0 c1 c2 c3 ch (3 : Int32)))]))
  refine Go.via (fun _ => XS.goto X4.here hx rfl (pc0 := 20) (pc' := 36) rfl (hb hby d10_20) (by decide) (by decide)) ?_
  show Go p e below _ (T4.setTop (mkF m 36 #[.val (.ref a1), .val (.int ch), .val (.int (3 : Int32))] [(.int (ix4 c0 c1 c2 c3 ch (3 : Int32)))]))
  exact own_retI X4 hx hlk Bd.returns (hb hby d10_36) (by show QIx4 Z c0 c1 c2 c3 ch (3 : Int32) h0 n0 _ T4.heap _; rw [e4q]; exact ⟨rfl, N4, rfl⟩) (by decide) (by decide)
theorem ef_rmIxL_4_big (m : MethodId) (x0 : Addr) (x1 : Int32) (x2 : Int32) : entryFrame m #[(.ref x0), (.int x1), (.int x2), (.int (4 : Int32))] 4 = mkF m 0 #[.val (.ref x0), .val (.int x1), .val (.int x2), .val (.int (4 : Int32))] [] := by first | (simp [entryFrame, mkF, argsToLocals, Value.category]; done) | rfl
def QIxL_4_big (Z : State) (t1 : Addr) (kb : ClassId) (c0 : Int32) (c1 : Int32) (c2 : Int32) (c3 : Int32) (ch : Int32) (i : Int32) (h0 : Heap) (n0 : Nat) (v : Option Value) (h : Heap) (L : List Loc) : Prop := v = some (.int (ix4 c0 c1 c2 c3 ch i)) ∧ Fr n0 L ∧ h = h0
set_option maxRecDepth 65536 in
set_option maxHeartbeats 40000000 in
theorem rmIxL_4_big (l : Launch) (Z : State) (a0 : Array Value) (hw : ∀ d ∈ tables_1, d.before a0 Z = true) (ws : List Jvm.Cond) (t1 : Addr) (kb : ClassId) (c0 : Int32) (c1 : Int32) (c2 : Int32) (c3 : Int32) (ch : Int32) (i : Int32) (h0 : Heap) (n0 : Nat) (Z0 : n0 ≤ h0.size) (V2 : Arv Z h0 t1 kb .byte (4 : Int32) [(.int (nar .byte (c0.toInt8.toInt32))), (.int (nar .byte (c1.toInt8.toInt32))), (.int (nar .byte (c2.toInt8.toInt32))), (.int (nar .byte (c3.toInt8.toInt32)))] (.int (0 : Int32))) (qe0 : (nar .byte (c0.toInt8.toInt32) = ch.toInt8.toInt32) ↔ c0 = ch) (qe1 : (nar .byte (c1.toInt8.toInt32) = ch.toInt8.toInt32) ↔ c1 = ch) (qe2 : (nar .byte (c2.toInt8.toInt32) = ch.toInt8.toInt32) ↔ c2 = ch) (qe3 : (nar .byte (c3.toInt8.toInt32) = ch.toInt8.toInt32) ↔ c3 = ch) (hc0 : ¬ (ch < (0 : Int32))) (hc1 : ¬ ((255 : Int32) < ch)) (hi : ¬ (i < (4 : Int32))) :
    MetFree l (⟨"java/lang/StringLatin1", "indexOf", "([BIII)I"⟩ : MethodName) (head1 (Jvm.Cond.code (⟨"java/lang/StringLatin1", "indexOf", "([BIII)I"⟩ : MethodName) jdk_43_method_22_code 4 (some .int) :: ws) ({ frames := 1, cells := 0, slots := 0, locals := 13 } : Room)) (fun a U => a = #[(.ref t1), (.int ch), (.int i), (.int (4 : Int32))] ∧ Z.Warmed39 U.vm ∧ U.heap = h0) (fun _ _ _ _ _ => True) (fun _ U o U' => ∃ v L, o = .returned v ∧ QIxL_4_big Z t1 kb c0 c1 c2 c3 ch i h0 n0 v U'.heap L ∧ FrameEnd U o U' L ({ frames := 1, cells := 0, slots := 0, locals := 13 } : Room).cells ({ frames := 1, cells := 0, slots := 0, locals := 13 } : Room).slots) := by
  refine MetFree.of_bodySF (plainFor_of_name pn_java_lang_StringLatin1) hisR ?_
  intro p e s m args below meth c s₁ Bd hml0 hP hK
  obtain ⟨rfl, hZ, hh⟩ := hP
  have hx := Bd.exec
  have hby := Bd.bytes
  have hlk : meth.locks = false := Bd.notSynchronized
  have hml : c.maxLocals = 4 := hml0
  have hown : s.vm.findClass "java/lang/StringLatin1" = some m.cls := findClass_of_methodNamed Bd.named
  have hnm := (name_of_methodNamed Bd.named Bd.method).1
  have X0 : Stand p l e ({ frames := 1, cells := 0, slots := 0, locals := 13 } : Room) s m #[(.ref t1), (.int ch), (.int i), (.int (4 : Int32))] below meth c s₁ [] 0 0 := Stand.of_body Bd
  have e0 : s₁.heap = h0 := by rw [← hh, Bd.state]; rfl
  have N0 := Fr.nil n0
  show Go p e below (FinE s below (QIxL_4_big Z t1 kb c0 c1 c2 c3 ch i h0 n0) ({ frames := 1, cells := 0, slots := 0, locals := 13 } : Room).cells ({ frames := 1, cells := 0, slots := 0, locals := 13 } : Room).slots) (s₁.setTop (entryFrame m #[(.ref t1), (.int ch), (.int i), (.int (4 : Int32))] 4))
  refine Go.via (fun t k => castTop (ef_rmIxL_4_big m t1 ch i) k) ?_
  show Go p e below _ (s₁.setTop (mkF m 0 #[.val (.ref t1), .val (.int ch), .val (.int i), .val (.int (4 : Int32))] []))
  refine Go.via (fun _ => XS.iloadN X0.here hx rfl (hb hby d14_0) rfl) ?_
  show Go p e below _ (s₁.setTop (mkF m 1 #[.val (.ref t1), .val (.int ch), .val (.int i), .val (.int (4 : Int32))] [(.int ch)]))
  obtain ⟨_, _, ⟨T1, L1, k1, n1⟩, -, X1, ⟨Lc1, hQ1, l1, y1, z1⟩, st1⟩ := Jvm.LawKit.callS X0 hx (y := (⟨"java/lang/StringLatin1", "canEncode", "(I)Z"⟩ : MethodName)) hown (mvT hZ (hw _ (List.mem_of_getElem? (i := 79) rfl))) (mvT hZ (hw _ (List.mem_of_getElem? (i := 80) rfl))) (mvT hZ (hw _ (List.mem_of_getElem? (i := 77) rfl))) (mvT hZ (hw _ (List.mem_of_getElem? (i := 81) rfl))) (by decide) (backOf (W := 0) (rmCanI l Z a0 hw [] ch h0 n0 Z0 hc0 hc1) hZ (hw _ (List.mem_of_getElem? (i := 81) rfl)) (hw _ (List.mem_of_getElem? (i := 77) rfl)) (by decide) (by decide)) (g := (mkF m 1 #[.val (.ref t1), .val (.int ch), .val (.int i), .val (.int (4 : Int32))] [(.int ch)])) rfl (by rw [hml]; rfl) (argsL := [(.int ch)]) (rest := []) (lenOf pd_1 rfl) rfl (by show 2 * 0 + _ ≤ _; exact Nat.le_of_eq rfl) (hb hby d14_1) (fun _ _ => ⟨rfl, e0, (by decide : 0 + 0 ≤ _), (by decide : 0 + 0 ≤ _)⟩)
  dsimp only [Pt.U, Pt.locs, Pt.cells, Pt.slots] at X1 l1 y1 z1 st1 hQ1
  subst l1 y1 z1
  obtain ⟨rfl, N1q, e1q⟩ := hQ1
  have N1 := Fr.app N0 N1q
  refine Go.via st1 ?_
  show Go p e below _ (T1.setTop (mkF m 4 #[.val (.ref t1), .val (.int ch), .val (.int i), .val (.int (4 : Int32))] [(.int (1 : Int32))]))
  refine Go.via (fun _ => XS.ifYes X1.here hx rfl (pc0 := 4) (pc' := 9) rfl (hb hby d14_4) rfl (by decide) (by decide) (by decide)) ?_
  show Go p e below _ (T1.setTop (mkF m 9 #[.val (.ref t1), .val (.int ch), .val (.int i), .val (.int (4 : Int32))] []))
  refine Go.via (fun _ => XS.iloadN X1.here hx rfl (hb hby d14_9) rfl) ?_
  show Go p e below _ (T1.setTop (mkF m 10 #[.val (.ref t1), .val (.int ch), .val (.int i), .val (.int (4 : Int32))] [(.int i)]))
  refine Go.via (fun _ => XS.iconst X1.here hx rfl (hb hby d14_10)) ?_
  show Go p e below _ (T1.setTop (mkF m 11 #[.val (.ref t1), .val (.int ch), .val (.int i), .val (.int (4 : Int32))] [(.int (0 : Int32)), (.int i)]))
  obtain ⟨_, _, ⟨T2, L2, k2, n2⟩, -, X2, ⟨Lc2, hQ2, l2, y2, z2⟩, st2⟩ := Jvm.LawKit.callS X1 hx (y := (⟨"java/lang/Math", "max", "(II)I"⟩ : MethodName)) hown (mvT hZ (hw _ (List.mem_of_getElem? (i := 82) rfl))) (mvT hZ (hw _ (List.mem_of_getElem? (i := 83) rfl))) (mvT hZ (hw _ (List.mem_of_getElem? (i := 84) rfl))) (mvT hZ (hw _ (List.mem_of_getElem? (i := 85) rfl))) (by decide) (backOf (W := 0) (rm_max_1 l Z a0 hw [] i (0 : Int32) h0 n0 Z0 (own_big4 hi)) hZ (hw _ (List.mem_of_getElem? (i := 85) rfl)) (hw _ (List.mem_of_getElem? (i := 84) rfl)) (by decide) (by decide)) (g := (mkF m 11 #[.val (.ref t1), .val (.int ch), .val (.int i), .val (.int (4 : Int32))] [(.int (0 : Int32)), (.int i)])) rfl (by rw [hml]; rfl) (argsL := [(.int i), (.int (0 : Int32))]) (rest := []) (lenOf pd_2 rfl) rfl (by show 2 * 0 + _ ≤ _; exact Nat.le_of_eq rfl) (hb hby d14_11) (fun _ _ => ⟨rfl, e1q, (by decide : 0 + 0 ≤ _), (by decide : 0 + 0 ≤ _)⟩)
  dsimp only [Pt.U, Pt.locs, Pt.cells, Pt.slots] at X2 l2 y2 z2 st2 hQ2
  subst l2 y2 z2
  obtain ⟨rfl, N2q, e2q⟩ := hQ2
  have N2 := Fr.app N1 N2q
  refine Go.via st2 ?_
  show Go p e below _ (T2.setTop (mkF m 14 #[.val (.ref t1), .val (.int ch), .val (.int i), .val (.int (4 : Int32))] [(.int i)]))
  refine Go.via (fun _ => XS.istoreN X2.here hx rfl (hb hby d14_14) rfl (l' := #[.val (.ref t1), .val (.int ch), .val (.int i), .val (.int (4 : Int32))]) rfl) ?_
  show Go p e below _ (T2.setTop (mkF m 15 #[.val (.ref t1), .val (.int ch), .val (.int i), .val (.int (4 : Int32))] []))
  refine Go.via (fun _ => XS.iloadN X2.here hx rfl (hb hby d14_15) rfl) ?_
  show Go p e below _ (T2.setTop (mkF m 16 #[.val (.ref t1), .val (.int ch), .val (.int i), .val (.int (4 : Int32))] [(.int (4 : Int32))]))
  refine Go.via (fun _ => XS.aloadN X2.here hx rfl (hb hby d14_16) rfl rfl) ?_
  show Go p e below _ (T2.setTop (mkF m 17 #[.val (.ref t1), .val (.int ch), .val (.int i), .val (.int (4 : Int32))] [(.ref t1), (.int (4 : Int32))]))
  obtain ⟨cl3, Ar3, -, S3, N3n, -, -⟩ := id V2
  have al3 := X2.arraylength hx (by rw [e2q]; exact Ar3.1) (State.isArrayOf_alike hZ.alike Ar3.2.1) (g := (mkF m 17 #[.val (.ref t1), .val (.int ch), .val (.int i), .val (.int (4 : Int32))] [(.ref t1), (.int (4 : Int32))])) rfl rfl (hb hby d14_17)
  rw [len_of S3 N3n] at al3
  refine Go.via al3 ?_
  show Go p e below _ (T2.setTop (mkF m 18 #[.val (.ref t1), .val (.int ch), .val (.int i), .val (.int (4 : Int32))] [(.int (4 : Int32)), (.int (4 : Int32))]))
  obtain ⟨_, _, ⟨T4, L4, k4, n4⟩, -, X4, ⟨Lc4, hQ4, l4, y4, z4⟩, st4⟩ := Jvm.LawKit.callS X2 hx (y := (⟨"java/lang/Math", "min", "(II)I"⟩ : MethodName)) hown (mvT hZ (hw _ (List.mem_of_getElem? (i := 86) rfl))) (mvT hZ (hw _ (List.mem_of_getElem? (i := 87) rfl))) (mvT hZ (hw _ (List.mem_of_getElem? (i := 84) rfl))) (mvT hZ (hw _ (List.mem_of_getElem? (i := 88) rfl))) (by decide) (backOf (W := 0) (rm_min_1 l Z a0 hw [] (4 : Int32) (4 : Int32) h0 n0 Z0 (by decide)) hZ (hw _ (List.mem_of_getElem? (i := 88) rfl)) (hw _ (List.mem_of_getElem? (i := 84) rfl)) (by decide) (by decide)) (g := (mkF m 18 #[.val (.ref t1), .val (.int ch), .val (.int i), .val (.int (4 : Int32))] [(.int (4 : Int32)), (.int (4 : Int32))])) rfl (by rw [hml]; rfl) (argsL := [(.int (4 : Int32)), (.int (4 : Int32))]) (rest := []) (lenOf pd_2 rfl) rfl (by show 2 * 0 + _ ≤ _; exact Nat.le_of_eq rfl) (hb hby d14_18) (fun _ _ => ⟨rfl, e2q, (by decide : 0 + 0 ≤ _), (by decide : 0 + 0 ≤ _)⟩)
  dsimp only [Pt.U, Pt.locs, Pt.cells, Pt.slots] at X4 l4 y4 z4 st4 hQ4
  subst l4 y4 z4
  obtain ⟨rfl, N4q, e4q⟩ := hQ4
  have N4 := Fr.app N2 N4q
  refine Go.via st4 ?_
  show Go p e below _ (T4.setTop (mkF m 21 #[.val (.ref t1), .val (.int ch), .val (.int i), .val (.int (4 : Int32))] [(.int (4 : Int32))]))
  refine Go.via (fun _ => XS.istoreN X4.here hx rfl (hb hby d14_21) rfl (l' := #[.val (.ref t1), .val (.int ch), .val (.int i), .val (.int (4 : Int32))]) rfl) ?_
  show Go p e below _ (T4.setTop (mkF m 22 #[.val (.ref t1), .val (.int ch), .val (.int i), .val (.int (4 : Int32))] []))
  refine Go.via (fun _ => XS.iloadN X4.here hx rfl (hb hby d14_22) rfl) ?_
  show Go p e below _ (T4.setTop (mkF m 23 #[.val (.ref t1), .val (.int ch), .val (.int i), .val (.int (4 : Int32))] [(.int i)]))
  refine Go.via (fun _ => XS.iloadN X4.here hx rfl (hb hby d14_23) rfl) ?_
  show Go p e below _ (T4.setTop (mkF m 24 #[.val (.ref t1), .val (.int ch), .val (.int i), .val (.int (4 : Int32))] [(.int (4 : Int32)), (.int i)]))
  refine Go.via (fun _ => XS.icmpNo X4.here hx rfl (hb hby d14_24) rfl (flt hi).1) ?_
  show Go p e below _ (T4.setTop (mkF m 27 #[.val (.ref t1), .val (.int ch), .val (.int i), .val (.int (4 : Int32))] []))
  refine Go.via (fun _ => XS.iconst X4.here hx rfl (hb hby d14_27)) ?_
  show Go p e below _ (T4.setTop (mkF m 28 #[.val (.ref t1), .val (.int ch), .val (.int i), .val (.int (4 : Int32))] [(.int (-1 : Int32))]))
  exact own_retI X4 hx hlk Bd.returns (hb hby d14_28) (by show QIxL_4_big Z t1 kb c0 c1 c2 c3 ch i h0 n0 _ T4.heap _; rw [e4q]; exact ⟨by rw [own_ixbig hi], N4, rfl⟩) (by decide) (by decide)
theorem ef_rmIxS_4_big (m : MethodId) (x0 : Addr) (x1 : Int32) (x2 : Int32) : entryFrame m #[(.ref x0), (.int x1), (.int x2)] 3 = mkF m 0 #[.val (.ref x0), .val (.int x1), .val (.int x2)] [] := by first | (simp [entryFrame, mkF, argsToLocals, Value.category]; done) | rfl
set_option maxRecDepth 65536 in
set_option maxHeartbeats 40000000 in
theorem rmIxS_4_big (l : Launch) (Z : State) (a0 : Array Value) (hw : ∀ d ∈ tables_1, d.before a0 Z = true) (ws : List Jvm.Cond) (a1 : Addr) (t1 : Addr) (kb : ClassId) (c0 : Int32) (c1 : Int32) (c2 : Int32) (c3 : Int32) (ch : Int32) (i : Int32) (ccs : Int32) (h0 : Heap) (n0 : Nat) (Z0 : n0 ≤ h0.size) (E1 : Exa Z h0 a1 "java/lang/String") (F1 : Fld Z h0 a1 "java/lang/String" "value" "[B" (.ref t1)) (F2 : Fld Z h0 a1 "java/lang/String" "coder" "B" (.int (0 : Int32))) (V2 : Arv Z h0 t1 kb .byte (4 : Int32) [(.int (nar .byte (c0.toInt8.toInt32))), (.int (nar .byte (c1.toInt8.toInt32))), (.int (nar .byte (c2.toInt8.toInt32))), (.int (nar .byte (c3.toInt8.toInt32)))] (.int (0 : Int32))) (qe0 : (nar .byte (c0.toInt8.toInt32) = ch.toInt8.toInt32) ↔ c0 = ch) (qe1 : (nar .byte (c1.toInt8.toInt32) = ch.toInt8.toInt32) ↔ c1 = ch) (qe2 : (nar .byte (c2.toInt8.toInt32) = ch.toInt8.toInt32) ↔ c2 = ch) (qe3 : (nar .byte (c3.toInt8.toInt32) = ch.toInt8.toInt32) ↔ c3 = ch) (hc0 : ¬ (ch < (0 : Int32))) (hc1 : ¬ ((255 : Int32) < ch)) (O0 : Old Z n0 h0) (S_CS : Sta Z Z.heap "java/lang/String" "COMPACT_STRINGS" "Z" (.int ccs)) (hcs : ¬ (ccs = (0 : Int32))) (hi : ¬ (i < (4 : Int32))) :
    MetFree l (⟨"java/lang/String", "indexOf", "(II)I"⟩ : MethodName) (head1 (Jvm.Cond.code (⟨"java/lang/String", "indexOf", "(II)I"⟩ : MethodName) jdk_42_method_80_code 3 (some .int) :: ws) ({ frames := 3, cells := 0, slots := 0, locals := 60 } : Room)) (fun a U => a = #[(.ref a1), (.int ch), (.int i)] ∧ Z.Warmed39 U.vm ∧ U.heap = h0) (fun _ _ _ _ _ => True) (fun _ U o U' => ∃ v L, o = .returned v ∧ QIx4 Z c0 c1 c2 c3 ch i h0 n0 v U'.heap L ∧ FrameEnd U o U' L ({ frames := 3, cells := 0, slots := 0, locals := 60 } : Room).cells ({ frames := 3, cells := 0, slots := 0, locals := 60 } : Room).slots) := by
  refine MetFree.of_bodySF (plainFor_of_name pn_java_lang_String) hisR ?_
  intro p e s m args below meth c s₁ Bd hml0 hP hK
  obtain ⟨rfl, hZ, hh⟩ := hP
  have hx := Bd.exec
  have hby := Bd.bytes
  have hlk : meth.locks = false := Bd.notSynchronized
  have hml : c.maxLocals = 3 := hml0
  have hown : s.vm.findClass "java/lang/String" = some m.cls := findClass_of_methodNamed Bd.named
  have hnm := (name_of_methodNamed Bd.named Bd.method).1
  have X0 : Stand p l e ({ frames := 3, cells := 0, slots := 0, locals := 60 } : Room) s m #[(.ref a1), (.int ch), (.int i)] below meth c s₁ [] 0 0 := Stand.of_body Bd
  have e0 : s₁.heap = h0 := by rw [← hh, Bd.state]; rfl
  have N0 := Fr.nil n0
  show Go p e below (FinE s below (QIx4 Z c0 c1 c2 c3 ch i h0 n0) ({ frames := 3, cells := 0, slots := 0, locals := 60 } : Room).cells ({ frames := 3, cells := 0, slots := 0, locals := 60 } : Room).slots) (s₁.setTop (entryFrame m #[(.ref a1), (.int ch), (.int i)] 3))
  refine Go.via (fun t k => castTop (ef_rmIxS_4_big m a1 ch i) k) ?_
  show Go p e below _ (s₁.setTop (mkF m 0 #[.val (.ref a1), .val (.int ch), .val (.int i)] []))
  refine Go.via (fun _ => XS.aloadN X0.here hx rfl (hb hby d10_0) rfl rfl) ?_
  show Go p e below _ (s₁.setTop (mkF m 1 #[.val (.ref a1), .val (.int ch), .val (.int i)] [(.ref a1)]))
  obtain ⟨cq1, kq1, q1a, q1b, q1c⟩ := isOf hZ e0 E1
  obtain ⟨_, _, ⟨T1, L1, k1, n1⟩, -, X1, ⟨Lc1, hQ1, l1, y1, z1⟩, st1⟩ := X0.virtualBack hx (y := (⟨"java/lang/String", "isLatin1", "()Z"⟩ : MethodName)) (z := (⟨"java/lang/String", "isLatin1", "()Z"⟩ : MethodName)) hown (mvT hZ (hw _ (List.mem_of_getElem? (i := 60) rfl))) (mvT hZ (hw _ (List.mem_of_getElem? (i := 61) rfl))) (notFace_of_selects (args := #[]) (mvT hZ (hw _ (List.mem_of_getElem? (i := 63) rfl)))) (mvT hZ (hw _ (List.mem_of_getElem? (i := 63) rfl))) (mvT hZ (hw _ (List.mem_of_getElem? (i := 62) rfl))) (by decide) (backOf (W := 0) (rmIsLat l Z a0 hw [] a1 ccs h0 n0 Z0 F2 O0 S_CS hcs) hZ (hw _ (List.mem_of_getElem? (i := 64) rfl)) (hw _ (List.mem_of_getElem? (i := 5) rfl)) (by decide) (by decide)) q1a q1c (g := (mkF m 1 #[.val (.ref a1), .val (.int ch), .val (.int i)] [(.ref a1)])) rfl (by rw [hml]; rfl) (Steps.refl _) (argsL := []) (rest := []) (lenOf pd_4 rfl) rfl (by show 2 * 0 + _ ≤ _; exact Nat.le_of_eq rfl) (hb hby d10_1) (fun _ _ => ⟨rfl, e0, (by decide : 0 + 0 ≤ _), (by decide : 0 + 0 ≤ _)⟩)
  dsimp only [Pt.U, Pt.locs, Pt.cells, Pt.slots] at X1 l1 y1 z1 st1 hQ1
  subst l1 y1 z1
  obtain ⟨rfl, N1q, e1q⟩ := hQ1
  have N1 := Fr.app N0 N1q
  refine Go.tr st1 ?_
  show Go p e below _ (T1.setTop (mkF m 4 #[.val (.ref a1), .val (.int ch), .val (.int i)] [(.int (1 : Int32))]))
  refine Go.via (fun _ => XS.ifNo X1.here hx rfl (hb hby d10_4) rfl (by decide)) ?_
  show Go p e below _ (T1.setTop (mkF m 7 #[.val (.ref a1), .val (.int ch), .val (.int i)] []))
  refine Go.via (fun _ => XS.aloadN X1.here hx rfl (hb hby d10_7) rfl rfl) ?_
  show Go p e below _ (T1.setTop (mkF m 8 #[.val (.ref a1), .val (.int ch), .val (.int i)] [(.ref a1)]))
  obtain ⟨T2, X2, e2, st2⟩ := getF X1 hx hZ hown (host := "") (Or.inl (hw _ (List.mem_of_getElem? (i := 31) rfl))) Via.refl e1q F1 (g := (mkF m 8 #[.val (.ref a1), .val (.int ch), .val (.int i)] [(.ref a1)])) rfl rfl (hb hby d10_8)
  refine Go.via st2 ?_
  show Go p e below _ (T2.setTop (mkF m 11 #[.val (.ref a1), .val (.int ch), .val (.int i)] [(.ref t1)]))
  refine Go.via (fun _ => XS.iloadN X2.here hx rfl (hb hby d10_11) rfl) ?_
  show Go p e below _ (T2.setTop (mkF m 12 #[.val (.ref a1), .val (.int ch), .val (.int i)] [(.int ch), (.ref t1)]))
  refine Go.via (fun _ => XS.iloadN X2.here hx rfl (hb hby d10_12) rfl) ?_
  show Go p e below _ (T2.setTop (mkF m 13 #[.val (.ref a1), .val (.int ch), .val (.int i)] [(.int i), (.int ch), (.ref t1)]))
  refine Go.via (fun _ => XS.aloadN X2.here hx rfl (hb hby d10_13) rfl rfl) ?_
  show Go p e below _ (T2.setTop (mkF m 14 #[.val (.ref a1), .val (.int ch), .val (.int i)] [(.ref a1), (.int i), (.int ch), (.ref t1)]))
  obtain ⟨cq3, kq3, q3a, q3b, q3c⟩ := isOf hZ e2 E1
  obtain ⟨_, _, ⟨T3, L3, k3, n3⟩, -, X3, ⟨Lc3, hQ3, l3, y3, z3⟩, st3⟩ := X2.virtualBack hx (y := (⟨"java/lang/String", "length", "()I"⟩ : MethodName)) (z := (⟨"java/lang/String", "length", "()I"⟩ : MethodName)) hown (mvT hZ (hw _ (List.mem_of_getElem? (i := 65) rfl))) (mvT hZ (hw _ (List.mem_of_getElem? (i := 66) rfl))) (notFace_of_selects (args := #[]) (mvT hZ (hw _ (List.mem_of_getElem? (i := 68) rfl)))) (mvT hZ (hw _ (List.mem_of_getElem? (i := 68) rfl))) (mvT hZ (hw _ (List.mem_of_getElem? (i := 67) rfl))) (by decide) (backOf (W := 3) (rmLen_4 l Z a0 hw [] a1 t1 kb _ ccs h0 n0 Z0 E1 F1 F2 V2 O0 S_CS hcs) hZ (hw _ (List.mem_of_getElem? (i := 69) rfl)) (hw _ (List.mem_of_getElem? (i := 5) rfl)) (by decide) (by decide)) q3a q3c (g := (mkF m 14 #[.val (.ref a1), .val (.int ch), .val (.int i)] [(.ref a1), (.int i), (.int ch), (.ref t1)])) rfl (by rw [hml]; rfl) (Steps.refl _) (argsL := []) (rest := [(.int i), (.int ch), (.ref t1)]) (lenOf pd_5 rfl) rfl (by show 2 * 0 + _ ≤ _; exact Nat.le_of_eq rfl) (hb hby d10_14) (fun _ _ => ⟨rfl, e2, (by decide : 0 + 0 ≤ _), (by decide : 0 + 0 ≤ _)⟩)
  dsimp only [Pt.U, Pt.locs, Pt.cells, Pt.slots] at X3 l3 y3 z3 st3 hQ3
  subst l3 y3 z3
  obtain ⟨rfl, N3q, e3q⟩ := hQ3
  have N3 := Fr.app N1 N3q
  refine Go.tr st3 ?_
  show Go p e below _ (T3.setTop (mkF m 17 #[.val (.ref a1), .val (.int ch), .val (.int i)] [(.int (4 : Int32)), (.int i), (.int ch), (.ref t1)]))
  obtain ⟨_, _, ⟨T4, L4, k4, n4⟩, -, X4, ⟨Lc4, hQ4, l4, y4, z4⟩, st4⟩ := Jvm.LawKit.callS X3 hx (y := (⟨"java/lang/StringLatin1", "indexOf", "([BIII)I"⟩ : MethodName)) hown (mvT hZ (hw _ (List.mem_of_getElem? (i := 75) rfl))) (mvT hZ (hw _ (List.mem_of_getElem? (i := 76) rfl))) (mvT hZ (hw _ (List.mem_of_getElem? (i := 77) rfl))) (mvT hZ (hw _ (List.mem_of_getElem? (i := 78) rfl))) (by decide) (backOf (W := 0) (rmIxL_4_big l Z a0 hw [] t1 kb c0 c1 c2 c3 ch i h0 n0 Z0 V2 qe0 qe1 qe2 qe3 hc0 hc1 hi) hZ (hw _ (List.mem_of_getElem? (i := 78) rfl)) (hw _ (List.mem_of_getElem? (i := 77) rfl)) (by decide) (by decide)) (g := (mkF m 17 #[.val (.ref a1), .val (.int ch), .val (.int i)] [(.int (4 : Int32)), (.int i), (.int ch), (.ref t1)])) rfl (by rw [hml]; rfl) (argsL := [(.ref t1), (.int ch), (.int i), (.int (4 : Int32))]) (rest := []) (lenOf pd_3 rfl) rfl (by show 2 * 0 + _ ≤ _; exact Nat.le_of_eq rfl) (hb hby d10_17) (fun _ _ => ⟨rfl, e3q, (by decide : 0 + 0 ≤ _), (by decide : 0 + 0 ≤ _)⟩)
  dsimp only [Pt.U, Pt.locs, Pt.cells, Pt.slots] at X4 l4 y4 z4 st4 hQ4
  subst l4 y4 z4
  obtain ⟨rfl, N4q, e4q⟩ := hQ4
  have N4 := Fr.app N3 N4q
  refine Go.via st4 ?_
  show Go p e below _ (T4.setTop (mkF m 20 #[.val (.ref a1), .val (.int ch), .val (.int i)] [(.int (ix4 c0 c1 c2 c3 ch i))]))
  refine Go.via (fun _ => XS.goto X4.here hx rfl (pc0 := 20) (pc' := 36) rfl (hb hby d10_20) (by decide) (by decide)) ?_
  show Go p e below _ (T4.setTop (mkF m 36 #[.val (.ref a1), .val (.int ch), .val (.int i)] [(.int (ix4 c0 c1 c2 c3 ch i))]))
  exact own_retI X4 hx hlk Bd.returns (hb hby d10_36) (by show QIx4 Z c0 c1 c2 c3 ch i h0 n0 _ T4.heap _; rw [e4q]; exact ⟨rfl, N4, rfl⟩) (by decide) (by decide)
theorem rmIxS_4 (l : Launch) (Z : State) (a0 : Array Value) (hw : ∀ d ∈ tables_1, d.before a0 Z = true) (ws : List Jvm.Cond) (a1 : Addr) (t1 : Addr) (kb : ClassId) (c0 : Int32) (c1 : Int32) (c2 : Int32) (c3 : Int32) (ch : Int32) (i : Int32) (ccs : Int32) (h0 : Heap) (n0 : Nat) (Z0 : n0 ≤ h0.size) (E1 : Exa Z h0 a1 "java/lang/String") (F1 : Fld Z h0 a1 "java/lang/String" "value" "[B" (.ref t1)) (F2 : Fld Z h0 a1 "java/lang/String" "coder" "B" (.int (0 : Int32))) (V2 : Arv Z h0 t1 kb .byte (4 : Int32) [(.int (nar .byte (c0.toInt8.toInt32))), (.int (nar .byte (c1.toInt8.toInt32))), (.int (nar .byte (c2.toInt8.toInt32))), (.int (nar .byte (c3.toInt8.toInt32)))] (.int (0 : Int32))) (qe0 : (nar .byte (c0.toInt8.toInt32) = ch.toInt8.toInt32) ↔ c0 = ch) (qe1 : (nar .byte (c1.toInt8.toInt32) = ch.toInt8.toInt32) ↔ c1 = ch) (qe2 : (nar .byte (c2.toInt8.toInt32) = ch.toInt8.toInt32) ↔ c2 = ch) (qe3 : (nar .byte (c3.toInt8.toInt32) = ch.toInt8.toInt32) ↔ c3 = ch) (hc0 : ¬ (ch < (0 : Int32))) (hc1 : ¬ ((255 : Int32) < ch)) (O0 : Old Z n0 h0) (S_CS : Sta Z Z.heap "java/lang/String" "COMPACT_STRINGS" "Z" (.int ccs)) (hcs : ¬ (ccs = (0 : Int32))) :
    MetFree l (⟨"java/lang/String", "indexOf", "(II)I"⟩ : MethodName) (head1 (Jvm.Cond.code (⟨"java/lang/String", "indexOf", "(II)I"⟩ : MethodName) jdk_42_method_80_code 3 (some .int) :: ws) ({ frames := 3, cells := 0, slots := 0, locals := 60 } : Room)) (fun a U => a = #[(.ref a1), (.int ch), (.int i)] ∧ Z.Warmed39 U.vm ∧ U.heap = h0) (fun _ _ _ _ _ => True) (fun _ U o U' => ∃ v L, o = .returned v ∧ QIx4 Z c0 c1 c2 c3 ch i h0 n0 v U'.heap L ∧ FrameEnd U o U' L ({ frames := 3, cells := 0, slots := 0, locals := 60 } : Room).cells ({ frames := 3, cells := 0, slots := 0, locals := 60 } : Room).slots) := by
  rcases own_cases4 i with hi | rfl | rfl | rfl | rfl | hi
  · exact rmIxS_4_neg l Z a0 hw ws a1 t1 kb c0 c1 c2 c3 ch i ccs h0 n0 Z0 E1 F1 F2 V2 qe0 qe1 qe2 qe3 hc0 hc1 O0 S_CS hcs hi
  · exact rmIxS_4_0 l Z a0 hw ws a1 t1 kb c0 c1 c2 c3 ch  ccs h0 n0 Z0 E1 F1 F2 V2 qe0 qe1 qe2 qe3 hc0 hc1 O0 S_CS hcs
  · exact rmIxS_4_1 l Z a0 hw ws a1 t1 kb c0 c1 c2 c3 ch  ccs h0 n0 Z0 E1 F1 F2 V2 qe0 qe1 qe2 qe3 hc0 hc1 O0 S_CS hcs
  · exact rmIxS_4_2 l Z a0 hw ws a1 t1 kb c0 c1 c2 c3 ch  ccs h0 n0 Z0 E1 F1 F2 V2 qe0 qe1 qe2 qe3 hc0 hc1 O0 S_CS hcs
  · exact rmIxS_4_3 l Z a0 hw ws a1 t1 kb c0 c1 c2 c3 ch  ccs h0 n0 Z0 E1 F1 F2 V2 qe0 qe1 qe2 qe3 hc0 hc1 O0 S_CS hcs
  · exact rmIxS_4_big l Z a0 hw ws a1 t1 kb c0 c1 c2 c3 ch i ccs h0 n0 Z0 E1 F1 F2 V2 qe0 qe1 qe2 qe3 hc0 hc1 O0 S_CS hcs hi
theorem ef_rmFrom (m : MethodId) (x0 : Addr) (x1 : Int32) : entryFrame m #[(.ref x0), (.int x1)] 2 = mkF m 0 #[.val (.ref x0), .val (.int x1)] [] := by first | (simp [entryFrame, mkF, argsToLocals, Value.category]; done) | rfl
def QFrom (Z : State) (o1 : Addr) (a1 : Addr) (t1 : Addr) (kb : ClassId) (c0 : Int32) (c1 : Int32) (c2 : Int32) (c3 : Int32) (ch : Int32) (f : Int32) (i : Int32) (ccs : Int32) (h0 : Heap) (n0 : Nat) (v : Option Value) (h : Heap) (L : List Loc) : Prop := v = some (.int (ix4 c0 c1 c2 c3 ch i)) ∧ Fr n0 L ∧ Keep h0 h [o1] ∧ Fld Z h o1 "com/example/dogwood/dogwood/model/yaml/Occurrences" "from" "I" (.int i) ∧ Fld Z h o1 "com/example/dogwood/dogwood/model/yaml/Occurrences" "found" "I" (.int (ix4 c0 c1 c2 c3 ch i)) ∧ Fld Z h o1 "com/example/dogwood/dogwood/model/yaml/Occurrences" "text" "Ljava/lang/String;" (.ref a1) ∧ Fld Z h o1 "com/example/dogwood/dogwood/model/yaml/Occurrences" "c" "C" (.int ch)
set_option maxRecDepth 65536 in
set_option maxHeartbeats 40000000 in
theorem rmFrom (l : Launch) (Z : State) (a0 : Array Value) (hw : ∀ d ∈ tables_1, d.before a0 Z = true) (ws : List Jvm.Cond) (o1 : Addr) (a1 : Addr) (t1 : Addr) (kb : ClassId) (c0 : Int32) (c1 : Int32) (c2 : Int32) (c3 : Int32) (ch : Int32) (f : Int32) (i : Int32) (ccs : Int32) (h0 : Heap) (n0 : Nat) (Z0 : n0 ≤ h0.size) (E1 : Exa Z h0 o1 "com/example/dogwood/dogwood/model/yaml/Occurrences") (H1 : Fld Z h0 o1 "com/example/dogwood/dogwood/model/yaml/Occurrences" "from" "I" (.int f)) (H2 : Fld Z h0 o1 "com/example/dogwood/dogwood/model/yaml/Occurrences" "found" "I" (.int (ix4 c0 c1 c2 c3 ch f))) (H3 : Fld Z h0 o1 "com/example/dogwood/dogwood/model/yaml/Occurrences" "text" "Ljava/lang/String;" (.ref a1)) (H4 : Fld Z h0 o1 "com/example/dogwood/dogwood/model/yaml/Occurrences" "c" "C" (.int ch)) (g1 : n0 ≤ o1) (E2 : Exa Z h0 a1 "java/lang/String") (G1 : Fld Z h0 a1 "java/lang/String" "value" "[B" (.ref t1)) (G2 : Fld Z h0 a1 "java/lang/String" "coder" "B" (.int (0 : Int32))) (V2 : Arv Z h0 t1 kb .byte (4 : Int32) [(.int (nar .byte (c0.toInt8.toInt32))), (.int (nar .byte (c1.toInt8.toInt32))), (.int (nar .byte (c2.toInt8.toInt32))), (.int (nar .byte (c3.toInt8.toInt32)))] (.int (0 : Int32))) (qe0 : (nar .byte (c0.toInt8.toInt32) = ch.toInt8.toInt32) ↔ c0 = ch) (qe1 : (nar .byte (c1.toInt8.toInt32) = ch.toInt8.toInt32) ↔ c1 = ch) (qe2 : (nar .byte (c2.toInt8.toInt32) = ch.toInt8.toInt32) ↔ c2 = ch) (qe3 : (nar .byte (c3.toInt8.toInt32) = ch.toInt8.toInt32) ↔ c3 = ch) (hc0 : ¬ (ch < (0 : Int32))) (hc1 : ¬ ((255 : Int32) < ch)) (O0 : Old Z n0 h0) (S_CS : Sta Z Z.heap "java/lang/String" "COMPACT_STRINGS" "Z" (.int ccs)) (hcs : ¬ (ccs = (0 : Int32))) :
    MetFree l (⟨"com/example/dogwood/dogwood/model/yaml/Occurrences", "from", "(I)I"⟩ : MethodName) (head1 (Jvm.Cond.code (⟨"com/example/dogwood/dogwood/model/yaml/Occurrences", "from", "(I)I"⟩ : MethodName) prog_18_method_2_code 2 (some .int) :: ws) ({ frames := 4, cells := 0, slots := 0, locals := 75 } : Room)) (fun a U => a = #[(.ref o1), (.int i)] ∧ Z.Warmed39 U.vm ∧ U.heap = h0) (fun _ _ _ _ _ => True) (fun _ U o U' => ∃ v L, o = .returned v ∧ QFrom Z o1 a1 t1 kb c0 c1 c2 c3 ch f i ccs h0 n0 v U'.heap L ∧ FrameEnd U o U' L ({ frames := 4, cells := 0, slots := 0, locals := 75 } : Room).cells ({ frames := 4, cells := 0, slots := 0, locals := 75 } : Room).slots) := by
  refine MetFree.of_bodySF (plainFor_of_name pn_com_example_dogwood_dogwood_model_yaml_Occurrences) hisR ?_
  intro p e s m args below meth c s₁ Bd hml0 hP hK
  obtain ⟨rfl, hZ, hh⟩ := hP
  have hx := Bd.exec
  have hby := Bd.bytes
  have hlk : meth.locks = false := Bd.notSynchronized
  have hml : c.maxLocals = 2 := hml0
  have hown : s.vm.findClass "com/example/dogwood/dogwood/model/yaml/Occurrences" = some m.cls := findClass_of_methodNamed Bd.named
  have hnm := (name_of_methodNamed Bd.named Bd.method).1
  have X0 : Stand p l e ({ frames := 4, cells := 0, slots := 0, locals := 75 } : Room) s m #[(.ref o1), (.int i)] below meth c s₁ [] 0 0 := Stand.of_body Bd
  have e0 : s₁.heap = h0 := by rw [← hh, Bd.state]; rfl
  have N0 := Fr.nil n0
  show Go p e below (FinE s below (QFrom Z o1 a1 t1 kb c0 c1 c2 c3 ch f i ccs h0 n0) ({ frames := 4, cells := 0, slots := 0, locals := 75 } : Room).cells ({ frames := 4, cells := 0, slots := 0, locals := 75 } : Room).slots) (s₁.setTop (entryFrame m #[(.ref o1), (.int i)] 2))
  refine Go.via (fun t k => castTop (ef_rmFrom m o1 i) k) ?_
  show Go p e below _ (s₁.setTop (mkF m 0 #[.val (.ref o1), .val (.int i)] []))
  refine Go.via (fun _ => XS.iloadN X0.here hx rfl (hb hby d9_0) rfl) ?_
  show Go p e below _ (s₁.setTop (mkF m 1 #[.val (.ref o1), .val (.int i)] [(.int i)]))
  refine Go.via (fun _ => XS.aloadN X0.here hx rfl (hb hby d9_1) rfl rfl) ?_
  show Go p e below _ (s₁.setTop (mkF m 2 #[.val (.ref o1), .val (.int i)] [(.ref o1), (.int i)]))
  obtain ⟨T1, X1, e1, st1⟩ := getF X0 hx hZ hown (host := "") (Or.inl (hw _ (List.mem_of_getElem? (i := 38) rfl))) Via.refl e0 H1 (g := (mkF m 2 #[.val (.ref o1), .val (.int i)] [(.ref o1), (.int i)])) rfl rfl (hb hby d9_2)
  refine Go.via st1 ?_
  show Go p e below _ (T1.setTop (mkF m 5 #[.val (.ref o1), .val (.int i)] [(.int f), (.int i)]))
  by_cases hc2 : i < f
  · -- yes
    show Go p e below _ (T1.setTop (mkF m 5 #[.val (.ref o1), .val (.int i)] [(.int f), (.int i)]))
    show Go p e below _ (T1.setTop (mkF m 5 #[.val (.ref o1), .val (.int i)] [(.int f), (.int i)]))
    refine Go.via (fun _ => XS.icmpYes X1.here hx rfl (pc0 := 5) (pc' := 23) rfl (hb hby d9_5) rfl (tlt hc2).1 (by decide) (by decide)) ?_
    show Go p e below _ (T1.setTop (mkF m 23 #[.val (.ref o1), .val (.int i)] []))
    refine Go.via (fun _ => XS.aloadN X1.here hx rfl (hb hby d9_23) rfl rfl) ?_
    show Go p e below _ (T1.setTop (mkF m 24 #[.val (.ref o1), .val (.int i)] [(.ref o1)]))
    refine Go.via (fun _ => XS.aloadN X1.here hx rfl (hb hby d9_24) rfl rfl) ?_
    show Go p e below _ (T1.setTop (mkF m 25 #[.val (.ref o1), .val (.int i)] [(.ref o1), (.ref o1)]))
    obtain ⟨T3, X3, e3, st3⟩ := getF X1 hx hZ hown (host := "") (Or.inl (hw _ (List.mem_of_getElem? (i := 42) rfl))) Via.refl e1 H3 (g := (mkF m 25 #[.val (.ref o1), .val (.int i)] [(.ref o1), (.ref o1)])) rfl rfl (hb hby d9_25)
    refine Go.via st3 ?_
    show Go p e below _ (T3.setTop (mkF m 28 #[.val (.ref o1), .val (.int i)] [(.ref a1), (.ref o1)]))
    refine Go.via (fun _ => XS.aloadN X3.here hx rfl (hb hby d9_28) rfl rfl) ?_
    show Go p e below _ (T3.setTop (mkF m 29 #[.val (.ref o1), .val (.int i)] [(.ref o1), (.ref a1), (.ref o1)]))
    obtain ⟨T4, X4, e4, st4⟩ := getF X3 hx hZ hown (host := "") (Or.inl (hw _ (List.mem_of_getElem? (i := 44) rfl))) Via.refl e3 H4 (g := (mkF m 29 #[.val (.ref o1), .val (.int i)] [(.ref o1), (.ref a1), (.ref o1)])) rfl rfl (hb hby d9_29)
    refine Go.via st4 ?_
    show Go p e below _ (T4.setTop (mkF m 32 #[.val (.ref o1), .val (.int i)] [(.int ch), (.ref a1), (.ref o1)]))
    refine Go.via (fun _ => XS.iloadN X4.here hx rfl (hb hby d9_32) rfl) ?_
    show Go p e below _ (T4.setTop (mkF m 33 #[.val (.ref o1), .val (.int i)] [(.int i), (.int ch), (.ref a1), (.ref o1)]))
    obtain ⟨cq5, kq5, q5a, q5b, q5c⟩ := isOf hZ e4 E2
    obtain ⟨_, _, ⟨T5, L5, k5, n5⟩, -, X5, ⟨Lc5, hQ5, l5, y5, z5⟩, st5⟩ := X4.virtualBack hx (y := (⟨"java/lang/String", "indexOf", "(II)I"⟩ : MethodName)) (z := (⟨"java/lang/String", "indexOf", "(II)I"⟩ : MethodName)) hown (mvT hZ (hw _ (List.mem_of_getElem? (i := 55) rfl))) (mvT hZ (hw _ (List.mem_of_getElem? (i := 56) rfl))) (notFace_of_selects (args := #[]) (mvT hZ (hw _ (List.mem_of_getElem? (i := 58) rfl)))) (mvT hZ (hw _ (List.mem_of_getElem? (i := 58) rfl))) (mvT hZ (hw _ (List.mem_of_getElem? (i := 57) rfl))) (by decide) (backOf (W := 1) (rmIxS_4 l Z a0 hw [] a1 t1 kb c0 c1 c2 c3 ch i ccs h0 n0 Z0 E2 G1 G2 V2 qe0 qe1 qe2 qe3 hc0 hc1 O0 S_CS hcs) hZ (hw _ (List.mem_of_getElem? (i := 59) rfl)) (hw _ (List.mem_of_getElem? (i := 5) rfl)) (by decide) (by decide)) q5a q5c (g := (mkF m 33 #[.val (.ref o1), .val (.int i)] [(.int i), (.int ch), (.ref a1), (.ref o1)])) rfl (by rw [hml]; rfl) (Steps.refl _) (argsL := [(.int ch), (.int i)]) (rest := [(.ref o1)]) (lenOf pd_2 rfl) rfl (by show 2 * 0 + _ ≤ _; exact Nat.le_of_eq rfl) (hb hby d9_33) (fun _ _ => ⟨rfl, e4, (by decide : 0 + 0 ≤ _), (by decide : 0 + 0 ≤ _)⟩)
    dsimp only [Pt.U, Pt.locs, Pt.cells, Pt.slots] at X5 l5 y5 z5 st5 hQ5
    subst l5 y5 z5
    obtain ⟨rfl, N5q, e5q⟩ := hQ5
    have N5 := Fr.app N0 N5q
    refine Go.tr st5 ?_
    show Go p e below _ (T5.setTop (mkF m 36 #[.val (.ref o1), .val (.int i)] [(.int (ix4 c0 c1 c2 c3 ch i)), (.ref o1)]))
    obtain ⟨T6, h6, X6, e6, W6, st6⟩ := putF X5 hx hZ hown (host := "") (Or.inl (hw _ (List.mem_of_getElem? (i := 40) rfl))) Via.refl e5q H2 E1 (Or.inl (hw _ (List.mem_of_getElem? (i := 41) rfl))) (hw _ (List.mem_of_getElem? (i := 1) rfl)) (ty := .int) (by decide) rfl rfl (g := (mkF m 36 #[.val (.ref o1), .val (.int i)] [(.int (ix4 c0 c1 c2 c3 ch i)), (.ref o1)])) rfl rfl (hb hby d9_36)
    refine Go.via st6 ?_
    have fF_o1_found_6 : Fld Z h6 o1 "com/example/dogwood/dogwood/model/yaml/Occurrences" "found" "I" (.int (ix4 c0 c1 c2 c3 ch i)) := H2.same W6
    have Zs6 : n0 ≤ h6.size := Nat.le_trans Z0 (Keep.of_wr W6).1
    have O6 : Old Z n0 h6 := O0.wr W6 g1
    have K6 : Keep h0 h6 [o1] := (Keep.refl h0 [o1]).wr W6 (Or.inl (List.mem_of_getElem? (i := 0) rfl))
    have N6 := Fr.snoc X6 N5 g1
    have fE_o1_6 := E1.wr W6
    have fF_o1_from_6 := H1.other W6 (Or.inr (slot_ne (Or.inl (hw _ (List.mem_of_getElem? (i := 39) rfl))) (Or.inl (hw _ (List.mem_of_getElem? (i := 41) rfl))) (by decide) (t := .int) (t' := .int) (by decide) (by decide)))
    have fF_o1_text_6 := H3.other W6 (Or.inr (slot_ne (Or.inr (hw _ (List.mem_of_getElem? (i := 43) rfl))) (Or.inl (hw _ (List.mem_of_getElem? (i := 41) rfl))) (by decide) (t := (.object "java/lang/String")) (t' := .int) (by decide) (by decide)))
    have fF_o1_c_6 := H4.other W6 (Or.inr (slot_ne (Or.inr (hw _ (List.mem_of_getElem? (i := 45) rfl))) (Or.inl (hw _ (List.mem_of_getElem? (i := 41) rfl))) (by decide) (t := .char) (t' := .int) (by decide) (by decide)))
    show Go p e below _ (T6.setTop (mkF m 39 #[.val (.ref o1), .val (.int i)] []))
    refine Go.via (fun _ => XS.aloadN X6.here hx rfl (hb hby d9_39) rfl rfl) ?_
    show Go p e below _ (T6.setTop (mkF m 40 #[.val (.ref o1), .val (.int i)] [(.ref o1)]))
    refine Go.via (fun _ => XS.iloadN X6.here hx rfl (hb hby d9_40) rfl) ?_
    show Go p e below _ (T6.setTop (mkF m 41 #[.val (.ref o1), .val (.int i)] [(.int i), (.ref o1)]))
    obtain ⟨T7, h7, X7, e7, W7, st7⟩ := putF X6 hx hZ hown (host := "") (Or.inl (hw _ (List.mem_of_getElem? (i := 38) rfl))) Via.refl e6 fF_o1_from_6 fE_o1_6 (Or.inl (hw _ (List.mem_of_getElem? (i := 39) rfl))) (hw _ (List.mem_of_getElem? (i := 1) rfl)) (ty := .int) (by decide) rfl rfl (g := (mkF m 41 #[.val (.ref o1), .val (.int i)] [(.int i), (.ref o1)])) rfl rfl (hb hby d9_41)
    refine Go.via st7 ?_
    have fF_o1_from_7 : Fld Z h7 o1 "com/example/dogwood/dogwood/model/yaml/Occurrences" "from" "I" (.int i) := fF_o1_from_6.same W7
    have Zs7 : n0 ≤ h7.size := Nat.le_trans Zs6 (Keep.of_wr W7).1
    have O7 : Old Z n0 h7 := O6.wr W7 g1
    have K7 : Keep h0 h7 [o1] := K6.wr W7 (Or.inl (List.mem_of_getElem? (i := 0) rfl))
    have N7 := Fr.snoc X7 N6 g1
    have fE_o1_7 := fE_o1_6.wr W7
    have fF_o1_found_7 := fF_o1_found_6.other W7 (Or.inr (slot_ne (Or.inl (hw _ (List.mem_of_getElem? (i := 41) rfl))) (Or.inl (hw _ (List.mem_of_getElem? (i := 39) rfl))) (by decide) (t := .int) (t' := .int) (by decide) (by decide)))
    have fF_o1_text_7 := fF_o1_text_6.other W7 (Or.inr (slot_ne (Or.inr (hw _ (List.mem_of_getElem? (i := 43) rfl))) (Or.inl (hw _ (List.mem_of_getElem? (i := 39) rfl))) (by decide) (t := (.object "java/lang/String")) (t' := .int) (by decide) (by decide)))
    have fF_o1_c_7 := fF_o1_c_6.other W7 (Or.inr (slot_ne (Or.inr (hw _ (List.mem_of_getElem? (i := 45) rfl))) (Or.inl (hw _ (List.mem_of_getElem? (i := 39) rfl))) (by decide) (t := .char) (t' := .int) (by decide) (by decide)))
    show Go p e below _ (T7.setTop (mkF m 44 #[.val (.ref o1), .val (.int i)] []))
    refine Go.via (fun _ => XS.aloadN X7.here hx rfl (hb hby d9_44) rfl rfl) ?_
    show Go p e below _ (T7.setTop (mkF m 45 #[.val (.ref o1), .val (.int i)] [(.ref o1)]))
    obtain ⟨T8, X8, e8, st8⟩ := getF X7 hx hZ hown (host := "") (Or.inl (hw _ (List.mem_of_getElem? (i := 40) rfl))) Via.refl e7 fF_o1_found_7 (g := (mkF m 45 #[.val (.ref o1), .val (.int i)] [(.ref o1)])) rfl rfl (hb hby d9_45)
    refine Go.via st8 ?_
    show Go p e below _ (T8.setTop (mkF m 48 #[.val (.ref o1), .val (.int i)] [(.int (ix4 c0 c1 c2 c3 ch i))]))
    exact own_retI X8 hx hlk Bd.returns (hb hby d9_48) (by show QFrom Z o1 a1 t1 kb c0 c1 c2 c3 ch f i ccs h0 n0 _ T8.heap _; rw [e8]; exact ⟨rfl, N7, K7, fF_o1_from_7, fF_o1_found_7, fF_o1_text_7, fF_o1_c_7⟩) (by decide) (by decide)
  · -- no
    show Go p e below _ (T1.setTop (mkF m 5 #[.val (.ref o1), .val (.int i)] [(.int f), (.int i)]))
    show Go p e below _ (T1.setTop (mkF m 5 #[.val (.ref o1), .val (.int i)] [(.int f), (.int i)]))
    refine Go.via (fun _ => XS.icmpNo X1.here hx rfl (hb hby d9_5) rfl (flt hc2).1) ?_
    show Go p e below _ (T1.setTop (mkF m 8 #[.val (.ref o1), .val (.int i)] []))
    refine Go.via (fun _ => XS.aloadN X1.here hx rfl (hb hby d9_8) rfl rfl) ?_
    show Go p e below _ (T1.setTop (mkF m 9 #[.val (.ref o1), .val (.int i)] [(.ref o1)]))
    obtain ⟨T9, X9, e9, st9⟩ := getF X1 hx hZ hown (host := "") (Or.inl (hw _ (List.mem_of_getElem? (i := 40) rfl))) Via.refl e1 H2 (g := (mkF m 9 #[.val (.ref o1), .val (.int i)] [(.ref o1)])) rfl rfl (hb hby d9_9)
    refine Go.via st9 ?_
    show Go p e below _ (T9.setTop (mkF m 12 #[.val (.ref o1), .val (.int i)] [(.int (ix4 c0 c1 c2 c3 ch f))]))
    by_cases hc10 : (ix4 c0 c1 c2 c3 ch f) < (0 : Int32)
    · -- yes
      show Go p e below _ (T9.setTop (mkF m 12 #[.val (.ref o1), .val (.int i)] [(.int (ix4 c0 c1 c2 c3 ch f))]))
      show Go p e below _ (T9.setTop (mkF m 12 #[.val (.ref o1), .val (.int i)] [(.int (ix4 c0 c1 c2 c3 ch f))]))
      refine Go.via (fun _ => XS.ifYes X9.here hx rfl (pc0 := 12) (pc' := 39) rfl (hb hby d9_12) rfl ((if0 _ _).trans (tlt hc10).1) (by decide) (by decide)) ?_
      show Go p e below _ (T9.setTop (mkF m 39 #[.val (.ref o1), .val (.int i)] []))
      refine Go.via (fun _ => XS.aloadN X9.here hx rfl (hb hby d9_39) rfl rfl) ?_
      show Go p e below _ (T9.setTop (mkF m 40 #[.val (.ref o1), .val (.int i)] [(.ref o1)]))
      refine Go.via (fun _ => XS.iloadN X9.here hx rfl (hb hby d9_40) rfl) ?_
      show Go p e below _ (T9.setTop (mkF m 41 #[.val (.ref o1), .val (.int i)] [(.int i), (.ref o1)]))
      obtain ⟨T11, h11, X11, e11, W11, st11⟩ := putF X9 hx hZ hown (host := "") (Or.inl (hw _ (List.mem_of_getElem? (i := 38) rfl))) Via.refl e9 H1 E1 (Or.inl (hw _ (List.mem_of_getElem? (i := 39) rfl))) (hw _ (List.mem_of_getElem? (i := 1) rfl)) (ty := .int) (by decide) rfl rfl (g := (mkF m 41 #[.val (.ref o1), .val (.int i)] [(.int i), (.ref o1)])) rfl rfl (hb hby d9_41)
      refine Go.via st11 ?_
      have fF_o1_from_11 : Fld Z h11 o1 "com/example/dogwood/dogwood/model/yaml/Occurrences" "from" "I" (.int i) := H1.same W11
      have Zs11 : n0 ≤ h11.size := Nat.le_trans Z0 (Keep.of_wr W11).1
      have O11 : Old Z n0 h11 := O0.wr W11 g1
      have K11 : Keep h0 h11 [o1] := (Keep.refl h0 [o1]).wr W11 (Or.inl (List.mem_of_getElem? (i := 0) rfl))
      have N11 := Fr.snoc X11 N0 g1
      have fE_o1_11 := E1.wr W11
      have fF_o1_found_11 := H2.other W11 (Or.inr (slot_ne (Or.inl (hw _ (List.mem_of_getElem? (i := 41) rfl))) (Or.inl (hw _ (List.mem_of_getElem? (i := 39) rfl))) (by decide) (t := .int) (t' := .int) (by decide) (by decide)))
      have fF_o1_text_11 := H3.other W11 (Or.inr (slot_ne (Or.inr (hw _ (List.mem_of_getElem? (i := 43) rfl))) (Or.inl (hw _ (List.mem_of_getElem? (i := 39) rfl))) (by decide) (t := (.object "java/lang/String")) (t' := .int) (by decide) (by decide)))
      have fF_o1_c_11 := H4.other W11 (Or.inr (slot_ne (Or.inr (hw _ (List.mem_of_getElem? (i := 45) rfl))) (Or.inl (hw _ (List.mem_of_getElem? (i := 39) rfl))) (by decide) (t := .char) (t' := .int) (by decide) (by decide)))
      show Go p e below _ (T11.setTop (mkF m 44 #[.val (.ref o1), .val (.int i)] []))
      refine Go.via (fun _ => XS.aloadN X11.here hx rfl (hb hby d9_44) rfl rfl) ?_
      show Go p e below _ (T11.setTop (mkF m 45 #[.val (.ref o1), .val (.int i)] [(.ref o1)]))
      obtain ⟨T12, X12, e12, st12⟩ := getF X11 hx hZ hown (host := "") (Or.inl (hw _ (List.mem_of_getElem? (i := 40) rfl))) Via.refl e11 fF_o1_found_11 (g := (mkF m 45 #[.val (.ref o1), .val (.int i)] [(.ref o1)])) rfl rfl (hb hby d9_45)
      refine Go.via st12 ?_
      show Go p e below _ (T12.setTop (mkF m 48 #[.val (.ref o1), .val (.int i)] [(.int (ix4 c0 c1 c2 c3 ch f))]))
      exact own_retI X12 hx hlk Bd.returns (hb hby d9_48) (by show QFrom Z o1 a1 t1 kb c0 c1 c2 c3 ch f i ccs h0 n0 _ T12.heap _; rw [e12]; exact ⟨by rw [own_stay hc2 (Or.inl hc10)], N11, K11, fF_o1_from_11, own_stay hc2 (Or.inl hc10) ▸ fF_o1_found_11, fF_o1_text_11, fF_o1_c_11⟩) (by decide) (by decide)
    · -- no
      show Go p e below _ (T9.setTop (mkF m 12 #[.val (.ref o1), .val (.int i)] [(.int (ix4 c0 c1 c2 c3 ch f))]))
      show Go p e below _ (T9.setTop (mkF m 12 #[.val (.ref o1), .val (.int i)] [(.int (ix4 c0 c1 c2 c3 ch f))]))
      refine Go.via (fun _ => XS.ifNo X9.here hx rfl (hb hby d9_12) rfl ((if0 _ _).trans (flt hc10).1)) ?_
      show Go p e below _ (T9.setTop (mkF m 15 #[.val (.ref o1), .val (.int i)] []))
      refine Go.via (fun _ => XS.aloadN X9.here hx rfl (hb hby d9_15) rfl rfl) ?_
      show Go p e below _ (T9.setTop (mkF m 16 #[.val (.ref o1), .val (.int i)] [(.ref o1)]))
      obtain ⟨T13, X13, e13, st13⟩ := getF X9 hx hZ hown (host := "") (Or.inl (hw _ (List.mem_of_getElem? (i := 40) rfl))) Via.refl e9 H2 (g := (mkF m 16 #[.val (.ref o1), .val (.int i)] [(.ref o1)])) rfl rfl (hb hby d9_16)
      refine Go.via st13 ?_
      show Go p e below _ (T13.setTop (mkF m 19 #[.val (.ref o1), .val (.int i)] [(.int (ix4 c0 c1 c2 c3 ch f))]))
      refine Go.via (fun _ => XS.iloadN X13.here hx rfl (hb hby d9_19) rfl) ?_
      show Go p e below _ (T13.setTop (mkF m 20 #[.val (.ref o1), .val (.int i)] [(.int i), (.int (ix4 c0 c1 c2 c3 ch f))]))
      by_cases hc14 : (ix4 c0 c1 c2 c3 ch f) < i
      · -- yes
        show Go p e below _ (T13.setTop (mkF m 20 #[.val (.ref o1), .val (.int i)] [(.int i), (.int (ix4 c0 c1 c2 c3 ch f))]))
        show Go p e below _ (T13.setTop (mkF m 20 #[.val (.ref o1), .val (.int i)] [(.int i), (.int (ix4 c0 c1 c2 c3 ch f))]))
        refine Go.via (fun _ => XS.icmpNo X13.here hx rfl (hb hby d9_20) rfl (tlt hc14).2.1) ?_
        show Go p e below _ (T13.setTop (mkF m 23 #[.val (.ref o1), .val (.int i)] []))
        refine Go.via (fun _ => XS.aloadN X13.here hx rfl (hb hby d9_23) rfl rfl) ?_
        show Go p e below _ (T13.setTop (mkF m 24 #[.val (.ref o1), .val (.int i)] [(.ref o1)]))
        refine Go.via (fun _ => XS.aloadN X13.here hx rfl (hb hby d9_24) rfl rfl) ?_
        show Go p e below _ (T13.setTop (mkF m 25 #[.val (.ref o1), .val (.int i)] [(.ref o1), (.ref o1)]))
        obtain ⟨T15, X15, e15, st15⟩ := getF X13 hx hZ hown (host := "") (Or.inl (hw _ (List.mem_of_getElem? (i := 42) rfl))) Via.refl e13 H3 (g := (mkF m 25 #[.val (.ref o1), .val (.int i)] [(.ref o1), (.ref o1)])) rfl rfl (hb hby d9_25)
        refine Go.via st15 ?_
        show Go p e below _ (T15.setTop (mkF m 28 #[.val (.ref o1), .val (.int i)] [(.ref a1), (.ref o1)]))
        refine Go.via (fun _ => XS.aloadN X15.here hx rfl (hb hby d9_28) rfl rfl) ?_
        show Go p e below _ (T15.setTop (mkF m 29 #[.val (.ref o1), .val (.int i)] [(.ref o1), (.ref a1), (.ref o1)]))
        obtain ⟨T16, X16, e16, st16⟩ := getF X15 hx hZ hown (host := "") (Or.inl (hw _ (List.mem_of_getElem? (i := 44) rfl))) Via.refl e15 H4 (g := (mkF m 29 #[.val (.ref o1), .val (.int i)] [(.ref o1), (.ref a1), (.ref o1)])) rfl rfl (hb hby d9_29)
        refine Go.via st16 ?_
        show Go p e below _ (T16.setTop (mkF m 32 #[.val (.ref o1), .val (.int i)] [(.int ch), (.ref a1), (.ref o1)]))
        refine Go.via (fun _ => XS.iloadN X16.here hx rfl (hb hby d9_32) rfl) ?_
        show Go p e below _ (T16.setTop (mkF m 33 #[.val (.ref o1), .val (.int i)] [(.int i), (.int ch), (.ref a1), (.ref o1)]))
        obtain ⟨cq17, kq17, q17a, q17b, q17c⟩ := isOf hZ e16 E2
        obtain ⟨_, _, ⟨T17, L17, k17, n17⟩, -, X17, ⟨Lc17, hQ17, l17, y17, z17⟩, st17⟩ := X16.virtualBack hx (y := (⟨"java/lang/String", "indexOf", "(II)I"⟩ : MethodName)) (z := (⟨"java/lang/String", "indexOf", "(II)I"⟩ : MethodName)) hown (mvT hZ (hw _ (List.mem_of_getElem? (i := 55) rfl))) (mvT hZ (hw _ (List.mem_of_getElem? (i := 56) rfl))) (notFace_of_selects (args := #[]) (mvT hZ (hw _ (List.mem_of_getElem? (i := 58) rfl)))) (mvT hZ (hw _ (List.mem_of_getElem? (i := 58) rfl))) (mvT hZ (hw _ (List.mem_of_getElem? (i := 57) rfl))) (by decide) (backOf (W := 1) (rmIxS_4 l Z a0 hw [] a1 t1 kb c0 c1 c2 c3 ch i ccs h0 n0 Z0 E2 G1 G2 V2 qe0 qe1 qe2 qe3 hc0 hc1 O0 S_CS hcs) hZ (hw _ (List.mem_of_getElem? (i := 59) rfl)) (hw _ (List.mem_of_getElem? (i := 5) rfl)) (by decide) (by decide)) q17a q17c (g := (mkF m 33 #[.val (.ref o1), .val (.int i)] [(.int i), (.int ch), (.ref a1), (.ref o1)])) rfl (by rw [hml]; rfl) (Steps.refl _) (argsL := [(.int ch), (.int i)]) (rest := [(.ref o1)]) (lenOf pd_2 rfl) rfl (by show 2 * 0 + _ ≤ _; exact Nat.le_of_eq rfl) (hb hby d9_33) (fun _ _ => ⟨rfl, e16, (by decide : 0 + 0 ≤ _), (by decide : 0 + 0 ≤ _)⟩)
        dsimp only [Pt.U, Pt.locs, Pt.cells, Pt.slots] at X17 l17 y17 z17 st17 hQ17
        subst l17 y17 z17
        obtain ⟨rfl, N17q, e17q⟩ := hQ17
        have N17 := Fr.app N0 N17q
        refine Go.tr st17 ?_
        show Go p e below _ (T17.setTop (mkF m 36 #[.val (.ref o1), .val (.int i)] [(.int (ix4 c0 c1 c2 c3 ch i)), (.ref o1)]))
        obtain ⟨T18, h18, X18, e18, W18, st18⟩ := putF X17 hx hZ hown (host := "") (Or.inl (hw _ (List.mem_of_getElem? (i := 40) rfl))) Via.refl e17q H2 E1 (Or.inl (hw _ (List.mem_of_getElem? (i := 41) rfl))) (hw _ (List.mem_of_getElem? (i := 1) rfl)) (ty := .int) (by decide) rfl rfl (g := (mkF m 36 #[.val (.ref o1), .val (.int i)] [(.int (ix4 c0 c1 c2 c3 ch i)), (.ref o1)])) rfl rfl (hb hby d9_36)
        refine Go.via st18 ?_
        have fF_o1_found_18 : Fld Z h18 o1 "com/example/dogwood/dogwood/model/yaml/Occurrences" "found" "I" (.int (ix4 c0 c1 c2 c3 ch i)) := H2.same W18
        have Zs18 : n0 ≤ h18.size := Nat.le_trans Z0 (Keep.of_wr W18).1
        have O18 : Old Z n0 h18 := O0.wr W18 g1
        have K18 : Keep h0 h18 [o1] := (Keep.refl h0 [o1]).wr W18 (Or.inl (List.mem_of_getElem? (i := 0) rfl))
        have N18 := Fr.snoc X18 N17 g1
        have fE_o1_18 := E1.wr W18
        have fF_o1_from_18 := H1.other W18 (Or.inr (slot_ne (Or.inl (hw _ (List.mem_of_getElem? (i := 39) rfl))) (Or.inl (hw _ (List.mem_of_getElem? (i := 41) rfl))) (by decide) (t := .int) (t' := .int) (by decide) (by decide)))
        have fF_o1_text_18 := H3.other W18 (Or.inr (slot_ne (Or.inr (hw _ (List.mem_of_getElem? (i := 43) rfl))) (Or.inl (hw _ (List.mem_of_getElem? (i := 41) rfl))) (by decide) (t := (.object "java/lang/String")) (t' := .int) (by decide) (by decide)))
        have fF_o1_c_18 := H4.other W18 (Or.inr (slot_ne (Or.inr (hw _ (List.mem_of_getElem? (i := 45) rfl))) (Or.inl (hw _ (List.mem_of_getElem? (i := 41) rfl))) (by decide) (t := .char) (t' := .int) (by decide) (by decide)))
        show Go p e below _ (T18.setTop (mkF m 39 #[.val (.ref o1), .val (.int i)] []))
        refine Go.via (fun _ => XS.aloadN X18.here hx rfl (hb hby d9_39) rfl rfl) ?_
        show Go p e below _ (T18.setTop (mkF m 40 #[.val (.ref o1), .val (.int i)] [(.ref o1)]))
        refine Go.via (fun _ => XS.iloadN X18.here hx rfl (hb hby d9_40) rfl) ?_
        show Go p e below _ (T18.setTop (mkF m 41 #[.val (.ref o1), .val (.int i)] [(.int i), (.ref o1)]))
        obtain ⟨T19, h19, X19, e19, W19, st19⟩ := putF X18 hx hZ hown (host := "") (Or.inl (hw _ (List.mem_of_getElem? (i := 38) rfl))) Via.refl e18 fF_o1_from_18 fE_o1_18 (Or.inl (hw _ (List.mem_of_getElem? (i := 39) rfl))) (hw _ (List.mem_of_getElem? (i := 1) rfl)) (ty := .int) (by decide) rfl rfl (g := (mkF m 41 #[.val (.ref o1), .val (.int i)] [(.int i), (.ref o1)])) rfl rfl (hb hby d9_41)
        refine Go.via st19 ?_
        have fF_o1_from_19 : Fld Z h19 o1 "com/example/dogwood/dogwood/model/yaml/Occurrences" "from" "I" (.int i) := fF_o1_from_18.same W19
        have Zs19 : n0 ≤ h19.size := Nat.le_trans Zs18 (Keep.of_wr W19).1
        have O19 : Old Z n0 h19 := O18.wr W19 g1
        have K19 : Keep h0 h19 [o1] := K18.wr W19 (Or.inl (List.mem_of_getElem? (i := 0) rfl))
        have N19 := Fr.snoc X19 N18 g1
        have fE_o1_19 := fE_o1_18.wr W19
        have fF_o1_found_19 := fF_o1_found_18.other W19 (Or.inr (slot_ne (Or.inl (hw _ (List.mem_of_getElem? (i := 41) rfl))) (Or.inl (hw _ (List.mem_of_getElem? (i := 39) rfl))) (by decide) (t := .int) (t' := .int) (by decide) (by decide)))
        have fF_o1_text_19 := fF_o1_text_18.other W19 (Or.inr (slot_ne (Or.inr (hw _ (List.mem_of_getElem? (i := 43) rfl))) (Or.inl (hw _ (List.mem_of_getElem? (i := 39) rfl))) (by decide) (t := (.object "java/lang/String")) (t' := .int) (by decide) (by decide)))
        have fF_o1_c_19 := fF_o1_c_18.other W19 (Or.inr (slot_ne (Or.inr (hw _ (List.mem_of_getElem? (i := 45) rfl))) (Or.inl (hw _ (List.mem_of_getElem? (i := 39) rfl))) (by decide) (t := .char) (t' := .int) (by decide) (by decide)))
        show Go p e below _ (T19.setTop (mkF m 44 #[.val (.ref o1), .val (.int i)] []))
        refine Go.via (fun _ => XS.aloadN X19.here hx rfl (hb hby d9_44) rfl rfl) ?_
        show Go p e below _ (T19.setTop (mkF m 45 #[.val (.ref o1), .val (.int i)] [(.ref o1)]))
        obtain ⟨T20, X20, e20, st20⟩ := getF X19 hx hZ hown (host := "") (Or.inl (hw _ (List.mem_of_getElem? (i := 40) rfl))) Via.refl e19 fF_o1_found_19 (g := (mkF m 45 #[.val (.ref o1), .val (.int i)] [(.ref o1)])) rfl rfl (hb hby d9_45)
        refine Go.via st20 ?_
        show Go p e below _ (T20.setTop (mkF m 48 #[.val (.ref o1), .val (.int i)] [(.int (ix4 c0 c1 c2 c3 ch i))]))
        exact own_retI X20 hx hlk Bd.returns (hb hby d9_48) (by show QFrom Z o1 a1 t1 kb c0 c1 c2 c3 ch f i ccs h0 n0 _ T20.heap _; rw [e20]; exact ⟨rfl, N19, K19, fF_o1_from_19, fF_o1_found_19, fF_o1_text_19, fF_o1_c_19⟩) (by decide) (by decide)
      · -- no
        show Go p e below _ (T13.setTop (mkF m 20 #[.val (.ref o1), .val (.int i)] [(.int i), (.int (ix4 c0 c1 c2 c3 ch f))]))
        show Go p e below _ (T13.setTop (mkF m 20 #[.val (.ref o1), .val (.int i)] [(.int i), (.int (ix4 c0 c1 c2 c3 ch f))]))
        refine Go.via (fun _ => XS.icmpYes X13.here hx rfl (pc0 := 20) (pc' := 39) rfl (hb hby d9_20) rfl (flt hc14).2.1 (by decide) (by decide)) ?_
        show Go p e below _ (T13.setTop (mkF m 39 #[.val (.ref o1), .val (.int i)] []))
        refine Go.via (fun _ => XS.aloadN X13.here hx rfl (hb hby d9_39) rfl rfl) ?_
        show Go p e below _ (T13.setTop (mkF m 40 #[.val (.ref o1), .val (.int i)] [(.ref o1)]))
        refine Go.via (fun _ => XS.iloadN X13.here hx rfl (hb hby d9_40) rfl) ?_
        show Go p e below _ (T13.setTop (mkF m 41 #[.val (.ref o1), .val (.int i)] [(.int i), (.ref o1)]))
        obtain ⟨T21, h21, X21, e21, W21, st21⟩ := putF X13 hx hZ hown (host := "") (Or.inl (hw _ (List.mem_of_getElem? (i := 38) rfl))) Via.refl e13 H1 E1 (Or.inl (hw _ (List.mem_of_getElem? (i := 39) rfl))) (hw _ (List.mem_of_getElem? (i := 1) rfl)) (ty := .int) (by decide) rfl rfl (g := (mkF m 41 #[.val (.ref o1), .val (.int i)] [(.int i), (.ref o1)])) rfl rfl (hb hby d9_41)
        refine Go.via st21 ?_
        have fF_o1_from_21 : Fld Z h21 o1 "com/example/dogwood/dogwood/model/yaml/Occurrences" "from" "I" (.int i) := H1.same W21
        have Zs21 : n0 ≤ h21.size := Nat.le_trans Z0 (Keep.of_wr W21).1
        have O21 : Old Z n0 h21 := O0.wr W21 g1
        have K21 : Keep h0 h21 [o1] := (Keep.refl h0 [o1]).wr W21 (Or.inl (List.mem_of_getElem? (i := 0) rfl))
        have N21 := Fr.snoc X21 N0 g1
        have fE_o1_21 := E1.wr W21
        have fF_o1_found_21 := H2.other W21 (Or.inr (slot_ne (Or.inl (hw _ (List.mem_of_getElem? (i := 41) rfl))) (Or.inl (hw _ (List.mem_of_getElem? (i := 39) rfl))) (by decide) (t := .int) (t' := .int) (by decide) (by decide)))
        have fF_o1_text_21 := H3.other W21 (Or.inr (slot_ne (Or.inr (hw _ (List.mem_of_getElem? (i := 43) rfl))) (Or.inl (hw _ (List.mem_of_getElem? (i := 39) rfl))) (by decide) (t := (.object "java/lang/String")) (t' := .int) (by decide) (by decide)))
        have fF_o1_c_21 := H4.other W21 (Or.inr (slot_ne (Or.inr (hw _ (List.mem_of_getElem? (i := 45) rfl))) (Or.inl (hw _ (List.mem_of_getElem? (i := 39) rfl))) (by decide) (t := .char) (t' := .int) (by decide) (by decide)))
        show Go p e below _ (T21.setTop (mkF m 44 #[.val (.ref o1), .val (.int i)] []))
        refine Go.via (fun _ => XS.aloadN X21.here hx rfl (hb hby d9_44) rfl rfl) ?_
        show Go p e below _ (T21.setTop (mkF m 45 #[.val (.ref o1), .val (.int i)] [(.ref o1)]))
        obtain ⟨T22, X22, e22, st22⟩ := getF X21 hx hZ hown (host := "") (Or.inl (hw _ (List.mem_of_getElem? (i := 40) rfl))) Via.refl e21 fF_o1_found_21 (g := (mkF m 45 #[.val (.ref o1), .val (.int i)] [(.ref o1)])) rfl rfl (hb hby d9_45)
        refine Go.via st22 ?_
        show Go p e below _ (T22.setTop (mkF m 48 #[.val (.ref o1), .val (.int i)] [(.int (ix4 c0 c1 c2 c3 ch f))]))
        exact own_retI X22 hx hlk Bd.returns (hb hby d9_48) (by show QFrom Z o1 a1 t1 kb c0 c1 c2 c3 ch f i ccs h0 n0 _ T22.heap _; rw [e22]; exact ⟨by rw [own_stay hc2 (Or.inr hc14)], N21, K21, fF_o1_from_21, own_stay hc2 (Or.inr hc14) ▸ fF_o1_found_21, fF_o1_text_21, fF_o1_c_21⟩) (by decide) (by decide)
theorem ef_rmC2_4 (m : MethodId) (x0 : Addr) (x2 : Addr) : entryFrame m #[(.ref x0), (.int (0 : Int32)), (.ref x2), (.int (0 : Int32)), (.int (4 : Int32))] 7 = mkF m 0 #[.val (.ref x0), .val (.int (0 : Int32)), .val (.ref x2), .val (.int (0 : Int32)), .val (.int (4 : Int32)), .unset, .unset] [] := by first | (simp [entryFrame, mkF, argsToLocals, Value.category]; done) | rfl
def QC2_4 (Z : State) (a1 : Addr) (kc1 : ClassId) (b1 : Addr) (kc2 : ClassId) (c0 : Int32) (c1 : Int32) (c2 : Int32) (c3 : Int32) (h0 : Heap) (n0 : Nat) (v : Option Value) (h : Heap) (L : List Loc) : Prop := v = some (.int (4 : Int32)) ∧ Fr n0 L ∧ Keep h0 h [b1] ∧ Arv Z h b1 kc2 .byte (4 : Int32) [(.int (nar .byte (c0.toInt8.toInt32))), (.int (nar .byte (c1.toInt8.toInt32))), (.int (nar .byte (c2.toInt8.toInt32))), (.int (nar .byte (c3.toInt8.toInt32)))] (.int (0 : Int32))
set_option maxRecDepth 65536 in
set_option maxHeartbeats 40000000 in
theorem rmC2_4 (l : Launch) (Z : State) (a0 : Array Value) (hw : ∀ d ∈ tables_1, d.before a0 Z = true) (ws : List Jvm.Cond) (a1 : Addr) (kc1 : ClassId) (b1 : Addr) (kc2 : ClassId) (c0 : Int32) (c1 : Int32) (c2 : Int32) (c3 : Int32) (h0 : Heap) (n0 : Nat) (Z0 : n0 ≤ h0.size) (V1 : Arv Z h0 a1 kc1 .char (4 : Int32) [(.int c0), (.int c1), (.int c2), (.int c3)] (.int (0 : Int32))) (V2 : Arv Z h0 b1 kc2 .byte (4 : Int32) [(.int (0 : Int32)), (.int (0 : Int32)), (.int (0 : Int32)), (.int (0 : Int32))] (.int (0 : Int32))) (g1 : n0 ≤ b1) (ne1 : a1 ≠ b1) (hl0 : ¬ ((255 : Int32) < c0)) (hl1 : ¬ ((255 : Int32) < c1)) (hl2 : ¬ ((255 : Int32) < c2)) (hl3 : ¬ ((255 : Int32) < c3)) :
    MetFree l (⟨"java/lang/StringUTF16", "compress", "([CI[BII)I"⟩ : MethodName) (head1 (Jvm.Cond.code (⟨"java/lang/StringUTF16", "compress", "([CI[BII)I"⟩ : MethodName) jdk_52_method_21_code 7 (some .int) :: ws) ({ frames := 0, cells := 0, slots := 0, locals := 0 } : Room)) (fun a U => a = #[(.ref a1), (.int (0 : Int32)), (.ref b1), (.int (0 : Int32)), (.int (4 : Int32))] ∧ Z.Warmed39 U.vm ∧ U.heap = h0) (fun _ _ _ _ _ => True) (fun _ U o U' => ∃ v L, o = .returned v ∧ QC2_4 Z a1 kc1 b1 kc2 c0 c1 c2 c3 h0 n0 v U'.heap L ∧ FrameEnd U o U' L ({ frames := 0, cells := 0, slots := 0, locals := 0 } : Room).cells ({ frames := 0, cells := 0, slots := 0, locals := 0 } : Room).slots) := by
  refine MetFree.of_bodySF (plainFor_of_name pn_java_lang_StringUTF16) hisR ?_
  intro p e s m args below meth c s₁ Bd hml0 hP hK
  obtain ⟨rfl, hZ, hh⟩ := hP
  have hx := Bd.exec
  have hby := Bd.bytes
  have hlk : meth.locks = false := Bd.notSynchronized
  have hml : c.maxLocals = 7 := hml0
  have hown : s.vm.findClass "java/lang/StringUTF16" = some m.cls := findClass_of_methodNamed Bd.named
  have hnm := (name_of_methodNamed Bd.named Bd.method).1
  have X0 : Stand p l e ({ frames := 0, cells := 0, slots := 0, locals := 0 } : Room) s m #[(.ref a1), (.int (0 : Int32)), (.ref b1), (.int (0 : Int32)), (.int (4 : Int32))] below meth c s₁ [] 0 0 := Stand.of_body Bd
  have e0 : s₁.heap = h0 := by rw [← hh, Bd.state]; rfl
  have N0 := Fr.nil n0
  show Go p e below (FinE s below (QC2_4 Z a1 kc1 b1 kc2 c0 c1 c2 c3 h0 n0) ({ frames := 0, cells := 0, slots := 0, locals := 0 } : Room).cells ({ frames := 0, cells := 0, slots := 0, locals := 0 } : Room).slots) (s₁.setTop (entryFrame m #[(.ref a1), (.int (0 : Int32)), (.ref b1), (.int (0 : Int32)), (.int (4 : Int32))] 7))
  refine Go.via (fun t k => castTop (ef_rmC2_4 m a1 b1) k) ?_
  show Go p e below _ (s₁.setTop (mkF m 0 #[.val (.ref a1), .val (.int (0 : Int32)), .val (.ref b1), .val (.int (0 : Int32)), .val (.int (4 : Int32)), .unset, .unset] []))
  refine Go.via (fun _ => XS.iconst X0.here hx rfl (hb hby d5_0)) ?_
  show Go p e below _ (s₁.setTop (mkF m 1 #[.val (.ref a1), .val (.int (0 : Int32)), .val (.ref b1), .val (.int (0 : Int32)), .val (.int (4 : Int32)), .unset, .unset] [(.int (0 : Int32))]))
  refine Go.via (fun _ => XS.istore X0.here hx rfl (hb hby d5_1) rfl (l' := #[.val (.ref a1), .val (.int (0 : Int32)), .val (.ref b1), .val (.int (0 : Int32)), .val (.int (4 : Int32)), .val (.int (0 : Int32)), .unset]) rfl) ?_
  show Go p e below _ (s₁.setTop (mkF m 3 #[.val (.ref a1), .val (.int (0 : Int32)), .val (.ref b1), .val (.int (0 : Int32)), .val (.int (4 : Int32)), .val (.int (0 : Int32)), .unset] []))
  refine Go.via (fun _ => XS.iload X0.here hx rfl (hb hby d5_3) rfl) ?_
  show Go p e below _ (s₁.setTop (mkF m 5 #[.val (.ref a1), .val (.int (0 : Int32)), .val (.ref b1), .val (.int (0 : Int32)), .val (.int (4 : Int32)), .val (.int (0 : Int32)), .unset] [(.int (0 : Int32))]))
  refine Go.via (fun _ => XS.iload X0.here hx rfl (hb hby d5_5) rfl) ?_
  show Go p e below _ (s₁.setTop (mkF m 7 #[.val (.ref a1), .val (.int (0 : Int32)), .val (.ref b1), .val (.int (0 : Int32)), .val (.int (4 : Int32)), .val (.int (0 : Int32)), .unset] [(.int (4 : Int32)), (.int (0 : Int32))]))
  refine Go.via (fun _ => XS.icmpNo X0.here hx rfl (hb hby d5_7) rfl (by decide)) ?_
  show Go p e below _ (s₁.setTop (mkF m 10 #[.val (.ref a1), .val (.int (0 : Int32)), .val (.ref b1), .val (.int (0 : Int32)), .val (.int (4 : Int32)), .val (.int (0 : Int32)), .unset] []))
  refine Go.via (fun _ => XS.aloadN X0.here hx rfl (hb hby d5_10) rfl rfl) ?_
  show Go p e below _ (s₁.setTop (mkF m 11 #[.val (.ref a1), .val (.int (0 : Int32)), .val (.ref b1), .val (.int (0 : Int32)), .val (.int (4 : Int32)), .val (.int (0 : Int32)), .unset] [(.ref a1)]))
  refine Go.via (fun _ => XS.iloadN X0.here hx rfl (hb hby d5_11) rfl) ?_
  show Go p e below _ (s₁.setTop (mkF m 12 #[.val (.ref a1), .val (.int (0 : Int32)), .val (.ref b1), .val (.int (0 : Int32)), .val (.int (4 : Int32)), .val (.int (0 : Int32)), .unset] [(.int (0 : Int32)), (.ref a1)]))
  obtain ⟨cl1, Ar1, q1, S1, N1n, H1, G1⟩ := id V1
  have hin1 := inb_of (j := (0 : Int32)) S1 (by decide)
  have hat1 : cl1.slots[((0 : Int32) : Int32).toNatClampNeg]? = some (.int c0) := H1.at hin1 rfl
  refine Go.via (X0.caload hx (j := (0 : Int32)) (v := (.int c0)) (by rw [e0]; exact Ar1.1) (State.isArrayOf_alike hZ.alike Ar1.2.1) Ar1.2.2 hin1 hat1 (g := (mkF m 12 #[.val (.ref a1), .val (.int (0 : Int32)), .val (.ref b1), .val (.int (0 : Int32)), .val (.int (4 : Int32)), .val (.int (0 : Int32)), .unset] [(.int (0 : Int32)), (.ref a1)])) rfl rfl (hb hby d5_12)) ?_
  show Go p e below _ (s₁.setTop (mkF m 13 #[.val (.ref a1), .val (.int (0 : Int32)), .val (.ref b1), .val (.int (0 : Int32)), .val (.int (4 : Int32)), .val (.int (0 : Int32)), .unset] [(.int c0)]))
  refine Go.via (fun _ => XS.istore X0.here hx rfl (hb hby d5_13) rfl (l' := #[.val (.ref a1), .val (.int (0 : Int32)), .val (.ref b1), .val (.int (0 : Int32)), .val (.int (4 : Int32)), .val (.int (0 : Int32)), .val (.int c0)]) rfl) ?_
  show Go p e below _ (s₁.setTop (mkF m 15 #[.val (.ref a1), .val (.int (0 : Int32)), .val (.ref b1), .val (.int (0 : Int32)), .val (.int (4 : Int32)), .val (.int (0 : Int32)), .val (.int c0)] []))
  refine Go.via (fun _ => XS.iload X0.here hx rfl (hb hby d5_15) rfl) ?_
  show Go p e below _ (s₁.setTop (mkF m 17 #[.val (.ref a1), .val (.int (0 : Int32)), .val (.ref b1), .val (.int (0 : Int32)), .val (.int (4 : Int32)), .val (.int (0 : Int32)), .val (.int c0)] [(.int c0)]))
  refine Go.via (fun _ => XS.sipush X0.here hx rfl (hb hby d5_17)) ?_
  show Go p e below _ (s₁.setTop (mkF m 20 #[.val (.ref a1), .val (.int (0 : Int32)), .val (.ref b1), .val (.int (0 : Int32)), .val (.int (4 : Int32)), .val (.int (0 : Int32)), .val (.int c0)] [(.int (255 : Int32)), (.int c0)]))
  refine Go.via (fun _ => XS.icmpYes X0.here hx rfl (pc0 := 20) (pc' := 26) rfl (hb hby d5_20) rfl (flt hl0).2.2.2 (by decide) (by decide)) ?_
  show Go p e below _ (s₁.setTop (mkF m 26 #[.val (.ref a1), .val (.int (0 : Int32)), .val (.ref b1), .val (.int (0 : Int32)), .val (.int (4 : Int32)), .val (.int (0 : Int32)), .val (.int c0)] []))
  refine Go.via (fun _ => XS.aloadN X0.here hx rfl (hb hby d5_26) rfl rfl) ?_
  show Go p e below _ (s₁.setTop (mkF m 27 #[.val (.ref a1), .val (.int (0 : Int32)), .val (.ref b1), .val (.int (0 : Int32)), .val (.int (4 : Int32)), .val (.int (0 : Int32)), .val (.int c0)] [(.ref b1)]))
  refine Go.via (fun _ => XS.iloadN X0.here hx rfl (hb hby d5_27) rfl) ?_
  show Go p e below _ (s₁.setTop (mkF m 28 #[.val (.ref a1), .val (.int (0 : Int32)), .val (.ref b1), .val (.int (0 : Int32)), .val (.int (4 : Int32)), .val (.int (0 : Int32)), .val (.int c0)] [(.int (0 : Int32)), (.ref b1)]))
  refine Go.via (fun _ => XS.iload X0.here hx rfl (hb hby d5_28) rfl) ?_
  show Go p e below _ (s₁.setTop (mkF m 30 #[.val (.ref a1), .val (.int (0 : Int32)), .val (.ref b1), .val (.int (0 : Int32)), .val (.int (4 : Int32)), .val (.int (0 : Int32)), .val (.int c0)] [(.int c0), (.int (0 : Int32)), (.ref b1)]))
  refine Go.via (fun _ => XS.i2b X0.here hx rfl (hb hby d5_30) rfl) ?_
  show Go p e below _ (s₁.setTop (mkF m 31 #[.val (.ref a1), .val (.int (0 : Int32)), .val (.ref b1), .val (.int (0 : Int32)), .val (.int (4 : Int32)), .val (.int (0 : Int32)), .val (.int c0)] [(.int (c0.toInt8.toInt32)), (.int (0 : Int32)), (.ref b1)]))
  obtain ⟨cl2, Ar2, q2, S2, N2n, H2, G2⟩ := id V2
  have hin2 := inb_of (j := (0 : Int32)) S2 (by decide)
  obtain ⟨T2, h2, X2, e2, W2, st2⟩ := stB X0 hx hZ e0 Ar2 (j := (0 : Int32)) hin2 (g := (mkF m 31 #[.val (.ref a1), .val (.int (0 : Int32)), .val (.ref b1), .val (.int (0 : Int32)), .val (.int (4 : Int32)), .val (.int (0 : Int32)), .val (.int c0)] [(.int (c0.toInt8.toInt32)), (.int (0 : Int32)), (.ref b1)])) rfl rfl (hb hby d5_31)
  refine Go.via st2 ?_
  have V2 : Arv Z h2 b1 kc2 .byte (4 : Int32) [(.int (nar .byte (c0.toInt8.toInt32))), (.int (0 : Int32)), (.int (0 : Int32)), (.int (0 : Int32))] (.int (0 : Int32)) := Arv.set Ar2 q2 S2 N2n H2 G2 (fits_nar_byte _) W2 0 rfl (Nat.le_of_ble_eq_true rfl)
  have Zs2 : n0 ≤ h2.size := Nat.le_trans Z0 (Keep.of_wr W2).1
  have K2 : Keep h0 h2 [b1] := (Keep.refl h0 [b1]).wr W2 (Or.inl (List.mem_of_getElem? (i := 0) rfl))
  have N2 := Fr.snoc X2 N0 g1
  have fV_a1_2 := V1.other W2 ne1
  show Go p e below _ (T2.setTop (mkF m 32 #[.val (.ref a1), .val (.int (0 : Int32)), .val (.ref b1), .val (.int (0 : Int32)), .val (.int (4 : Int32)), .val (.int (0 : Int32)), .val (.int c0)] []))
  refine Go.via (fun _ => XS.iinc X2.here hx rfl (hb hby d5_32) rfl (l' := #[.val (.ref a1), .val (.int (1 : Int32)), .val (.ref b1), .val (.int (0 : Int32)), .val (.int (4 : Int32)), .val (.int (0 : Int32)), .val (.int c0)]) rfl) ?_
  show Go p e below _ (T2.setTop (mkF m 35 #[.val (.ref a1), .val (.int (1 : Int32)), .val (.ref b1), .val (.int (0 : Int32)), .val (.int (4 : Int32)), .val (.int (0 : Int32)), .val (.int c0)] []))
  refine Go.via (fun _ => XS.iinc X2.here hx rfl (hb hby d5_35) rfl (l' := #[.val (.ref a1), .val (.int (1 : Int32)), .val (.ref b1), .val (.int (1 : Int32)), .val (.int (4 : Int32)), .val (.int (0 : Int32)), .val (.int c0)]) rfl) ?_
  show Go p e below _ (T2.setTop (mkF m 38 #[.val (.ref a1), .val (.int (1 : Int32)), .val (.ref b1), .val (.int (1 : Int32)), .val (.int (4 : Int32)), .val (.int (0 : Int32)), .val (.int c0)] []))
  refine Go.via (fun _ => XS.iinc X2.here hx rfl (hb hby d5_38) rfl (l' := #[.val (.ref a1), .val (.int (1 : Int32)), .val (.ref b1), .val (.int (1 : Int32)), .val (.int (4 : Int32)), .val (.int (1 : Int32)), .val (.int c0)]) rfl) ?_
  show Go p e below _ (T2.setTop (mkF m 41 #[.val (.ref a1), .val (.int (1 : Int32)), .val (.ref b1), .val (.int (1 : Int32)), .val (.int (4 : Int32)), .val (.int (1 : Int32)), .val (.int c0)] []))
  refine Go.via (fun _ => XS.goto X2.here hx rfl (pc0 := 41) (pc' := 3) rfl (hb hby d5_41) (by decide) (by decide)) ?_
  show Go p e below _ (T2.setTop (mkF m 3 #[.val (.ref a1), .val (.int (1 : Int32)), .val (.ref b1), .val (.int (1 : Int32)), .val (.int (4 : Int32)), .val (.int (1 : Int32)), .val (.int c0)] []))
  refine Go.via (fun _ => XS.iload X2.here hx rfl (hb hby d5_3) rfl) ?_
  show Go p e below _ (T2.setTop (mkF m 5 #[.val (.ref a1), .val (.int (1 : Int32)), .val (.ref b1), .val (.int (1 : Int32)), .val (.int (4 : Int32)), .val (.int (1 : Int32)), .val (.int c0)] [(.int (1 : Int32))]))
  refine Go.via (fun _ => XS.iload X2.here hx rfl (hb hby d5_5) rfl) ?_
  show Go p e below _ (T2.setTop (mkF m 7 #[.val (.ref a1), .val (.int (1 : Int32)), .val (.ref b1), .val (.int (1 : Int32)), .val (.int (4 : Int32)), .val (.int (1 : Int32)), .val (.int c0)] [(.int (4 : Int32)), (.int (1 : Int32))]))
  refine Go.via (fun _ => XS.icmpNo X2.here hx rfl (hb hby d5_7) rfl (by decide)) ?_
  show Go p e below _ (T2.setTop (mkF m 10 #[.val (.ref a1), .val (.int (1 : Int32)), .val (.ref b1), .val (.int (1 : Int32)), .val (.int (4 : Int32)), .val (.int (1 : Int32)), .val (.int c0)] []))
  refine Go.via (fun _ => XS.aloadN X2.here hx rfl (hb hby d5_10) rfl rfl) ?_
  show Go p e below _ (T2.setTop (mkF m 11 #[.val (.ref a1), .val (.int (1 : Int32)), .val (.ref b1), .val (.int (1 : Int32)), .val (.int (4 : Int32)), .val (.int (1 : Int32)), .val (.int c0)] [(.ref a1)]))
  refine Go.via (fun _ => XS.iloadN X2.here hx rfl (hb hby d5_11) rfl) ?_
  show Go p e below _ (T2.setTop (mkF m 12 #[.val (.ref a1), .val (.int (1 : Int32)), .val (.ref b1), .val (.int (1 : Int32)), .val (.int (4 : Int32)), .val (.int (1 : Int32)), .val (.int c0)] [(.int (1 : Int32)), (.ref a1)]))
  obtain ⟨cl3, Ar3, q3, S3, N3n, H3, G3⟩ := id fV_a1_2
  have hin3 := inb_of (j := (1 : Int32)) S3 (by decide)
  have hat3 : cl3.slots[((1 : Int32) : Int32).toNatClampNeg]? = some (.int c1) := H3.at hin3 rfl
  refine Go.via (X2.caload hx (j := (1 : Int32)) (v := (.int c1)) (by rw [e2]; exact Ar3.1) (State.isArrayOf_alike hZ.alike Ar3.2.1) Ar3.2.2 hin3 hat3 (g := (mkF m 12 #[.val (.ref a1), .val (.int (1 : Int32)), .val (.ref b1), .val (.int (1 : Int32)), .val (.int (4 : Int32)), .val (.int (1 : Int32)), .val (.int c0)] [(.int (1 : Int32)), (.ref a1)])) rfl rfl (hb hby d5_12)) ?_
  show Go p e below _ (T2.setTop (mkF m 13 #[.val (.ref a1), .val (.int (1 : Int32)), .val (.ref b1), .val (.int (1 : Int32)), .val (.int (4 : Int32)), .val (.int (1 : Int32)), .val (.int c0)] [(.int c1)]))
  refine Go.via (fun _ => XS.istore X2.here hx rfl (hb hby d5_13) rfl (l' := #[.val (.ref a1), .val (.int (1 : Int32)), .val (.ref b1), .val (.int (1 : Int32)), .val (.int (4 : Int32)), .val (.int (1 : Int32)), .val (.int c1)]) rfl) ?_
  show Go p e below _ (T2.setTop (mkF m 15 #[.val (.ref a1), .val (.int (1 : Int32)), .val (.ref b1), .val (.int (1 : Int32)), .val (.int (4 : Int32)), .val (.int (1 : Int32)), .val (.int c1)] []))
  refine Go.via (fun _ => XS.iload X2.here hx rfl (hb hby d5_15) rfl) ?_
  show Go p e below _ (T2.setTop (mkF m 17 #[.val (.ref a1), .val (.int (1 : Int32)), .val (.ref b1), .val (.int (1 : Int32)), .val (.int (4 : Int32)), .val (.int (1 : Int32)), .val (.int c1)] [(.int c1)]))
  refine Go.via (fun _ => XS.sipush X2.here hx rfl (hb hby d5_17)) ?_
  show Go p e below _ (T2.setTop (mkF m 20 #[.val (.ref a1), .val (.int (1 : Int32)), .val (.ref b1), .val (.int (1 : Int32)), .val (.int (4 : Int32)), .val (.int (1 : Int32)), .val (.int c1)] [(.int (255 : Int32)), (.int c1)]))
  refine Go.via (fun _ => XS.icmpYes X2.here hx rfl (pc0 := 20) (pc' := 26) rfl (hb hby d5_20) rfl (flt hl1).2.2.2 (by decide) (by decide)) ?_
  show Go p e below _ (T2.setTop (mkF m 26 #[.val (.ref a1), .val (.int (1 : Int32)), .val (.ref b1), .val (.int (1 : Int32)), .val (.int (4 : Int32)), .val (.int (1 : Int32)), .val (.int c1)] []))
  refine Go.via (fun _ => XS.aloadN X2.here hx rfl (hb hby d5_26) rfl rfl) ?_
  show Go p e below _ (T2.setTop (mkF m 27 #[.val (.ref a1), .val (.int (1 : Int32)), .val (.ref b1), .val (.int (1 : Int32)), .val (.int (4 : Int32)), .val (.int (1 : Int32)), .val (.int c1)] [(.ref b1)]))
  refine Go.via (fun _ => XS.iloadN X2.here hx rfl (hb hby d5_27) rfl) ?_
  show Go p e below _ (T2.setTop (mkF m 28 #[.val (.ref a1), .val (.int (1 : Int32)), .val (.ref b1), .val (.int (1 : Int32)), .val (.int (4 : Int32)), .val (.int (1 : Int32)), .val (.int c1)] [(.int (1 : Int32)), (.ref b1)]))
  refine Go.via (fun _ => XS.iload X2.here hx rfl (hb hby d5_28) rfl) ?_
  show Go p e below _ (T2.setTop (mkF m 30 #[.val (.ref a1), .val (.int (1 : Int32)), .val (.ref b1), .val (.int (1 : Int32)), .val (.int (4 : Int32)), .val (.int (1 : Int32)), .val (.int c1)] [(.int c1), (.int (1 : Int32)), (.ref b1)]))
  refine Go.via (fun _ => XS.i2b X2.here hx rfl (hb hby d5_30) rfl) ?_
  show Go p e below _ (T2.setTop (mkF m 31 #[.val (.ref a1), .val (.int (1 : Int32)), .val (.ref b1), .val (.int (1 : Int32)), .val (.int (4 : Int32)), .val (.int (1 : Int32)), .val (.int c1)] [(.int (c1.toInt8.toInt32)), (.int (1 : Int32)), (.ref b1)]))
  obtain ⟨cl4, Ar4, q4, S4, N4n, H4, G4⟩ := id V2
  have hin4 := inb_of (j := (1 : Int32)) S4 (by decide)
  obtain ⟨T4, h4, X4, e4, W4, st4⟩ := stB X2 hx hZ e2 Ar4 (j := (1 : Int32)) hin4 (g := (mkF m 31 #[.val (.ref a1), .val (.int (1 : Int32)), .val (.ref b1), .val (.int (1 : Int32)), .val (.int (4 : Int32)), .val (.int (1 : Int32)), .val (.int c1)] [(.int (c1.toInt8.toInt32)), (.int (1 : Int32)), (.ref b1)])) rfl rfl (hb hby d5_31)
  refine Go.via st4 ?_
  have V4 : Arv Z h4 b1 kc2 .byte (4 : Int32) [(.int (nar .byte (c0.toInt8.toInt32))), (.int (nar .byte (c1.toInt8.toInt32))), (.int (0 : Int32)), (.int (0 : Int32))] (.int (0 : Int32)) := Arv.set Ar4 q4 S4 N4n H4 G4 (fits_nar_byte _) W4 1 rfl (Nat.le_of_ble_eq_true rfl)
  have Zs4 : n0 ≤ h4.size := Nat.le_trans Zs2 (Keep.of_wr W4).1
  have K4 : Keep h0 h4 [b1] := K2.wr W4 (Or.inl (List.mem_of_getElem? (i := 0) rfl))
  have N4 := Fr.snoc X4 N2 g1
  have fV_a1_4 := fV_a1_2.other W4 ne1
  show Go p e below _ (T4.setTop (mkF m 32 #[.val (.ref a1), .val (.int (1 : Int32)), .val (.ref b1), .val (.int (1 : Int32)), .val (.int (4 : Int32)), .val (.int (1 : Int32)), .val (.int c1)] []))
  refine Go.via (fun _ => XS.iinc X4.here hx rfl (hb hby d5_32) rfl (l' := #[.val (.ref a1), .val (.int (2 : Int32)), .val (.ref b1), .val (.int (1 : Int32)), .val (.int (4 : Int32)), .val (.int (1 : Int32)), .val (.int c1)]) rfl) ?_
  show Go p e below _ (T4.setTop (mkF m 35 #[.val (.ref a1), .val (.int (2 : Int32)), .val (.ref b1), .val (.int (1 : Int32)), .val (.int (4 : Int32)), .val (.int (1 : Int32)), .val (.int c1)] []))
  refine Go.via (fun _ => XS.iinc X4.here hx rfl (hb hby d5_35) rfl (l' := #[.val (.ref a1), .val (.int (2 : Int32)), .val (.ref b1), .val (.int (2 : Int32)), .val (.int (4 : Int32)), .val (.int (1 : Int32)), .val (.int c1)]) rfl) ?_
  show Go p e below _ (T4.setTop (mkF m 38 #[.val (.ref a1), .val (.int (2 : Int32)), .val (.ref b1), .val (.int (2 : Int32)), .val (.int (4 : Int32)), .val (.int (1 : Int32)), .val (.int c1)] []))
  refine Go.via (fun _ => XS.iinc X4.here hx rfl (hb hby d5_38) rfl (l' := #[.val (.ref a1), .val (.int (2 : Int32)), .val (.ref b1), .val (.int (2 : Int32)), .val (.int (4 : Int32)), .val (.int (2 : Int32)), .val (.int c1)]) rfl) ?_
  show Go p e below _ (T4.setTop (mkF m 41 #[.val (.ref a1), .val (.int (2 : Int32)), .val (.ref b1), .val (.int (2 : Int32)), .val (.int (4 : Int32)), .val (.int (2 : Int32)), .val (.int c1)] []))
  refine Go.via (fun _ => XS.goto X4.here hx rfl (pc0 := 41) (pc' := 3) rfl (hb hby d5_41) (by decide) (by decide)) ?_
  show Go p e below _ (T4.setTop (mkF m 3 #[.val (.ref a1), .val (.int (2 : Int32)), .val (.ref b1), .val (.int (2 : Int32)), .val (.int (4 : Int32)), .val (.int (2 : Int32)), .val (.int c1)] []))
  refine Go.via (fun _ => XS.iload X4.here hx rfl (hb hby d5_3) rfl) ?_
  show Go p e below _ (T4.setTop (mkF m 5 #[.val (.ref a1), .val (.int (2 : Int32)), .val (.ref b1), .val (.int (2 : Int32)), .val (.int (4 : Int32)), .val (.int (2 : Int32)), .val (.int c1)] [(.int (2 : Int32))]))
  refine Go.via (fun _ => XS.iload X4.here hx rfl (hb hby d5_5) rfl) ?_
  show Go p e below _ (T4.setTop (mkF m 7 #[.val (.ref a1), .val (.int (2 : Int32)), .val (.ref b1), .val (.int (2 : Int32)), .val (.int (4 : Int32)), .val (.int (2 : Int32)), .val (.int c1)] [(.int (4 : Int32)), (.int (2 : Int32))]))
  refine Go.via (fun _ => XS.icmpNo X4.here hx rfl (hb hby d5_7) rfl (by decide)) ?_
  show Go p e below _ (T4.setTop (mkF m 10 #[.val (.ref a1), .val (.int (2 : Int32)), .val (.ref b1), .val (.int (2 : Int32)), .val (.int (4 : Int32)), .val (.int (2 : Int32)), .val (.int c1)] []))
  refine Go.via (fun _ => XS.aloadN X4.here hx rfl (hb hby d5_10) rfl rfl) ?_
  show Go p e below _ (T4.setTop (mkF m 11 #[.val (.ref a1), .val (.int (2 : Int32)), .val (.ref b1), .val (.int (2 : Int32)), .val (.int (4 : Int32)), .val (.int (2 : Int32)), .val (.int c1)] [(.ref a1)]))
  refine Go.via (fun _ => XS.iloadN X4.here hx rfl (hb hby d5_11) rfl) ?_
  show Go p e below _ (T4.setTop (mkF m 12 #[.val (.ref a1), .val (.int (2 : Int32)), .val (.ref b1), .val (.int (2 : Int32)), .val (.int (4 : Int32)), .val (.int (2 : Int32)), .val (.int c1)] [(.int (2 : Int32)), (.ref a1)]))
  obtain ⟨cl5, Ar5, q5, S5, N5n, H5, G5⟩ := id fV_a1_4
  have hin5 := inb_of (j := (2 : Int32)) S5 (by decide)
  have hat5 : cl5.slots[((2 : Int32) : Int32).toNatClampNeg]? = some (.int c2) := H5.at hin5 rfl
  refine Go.via (X4.caload hx (j := (2 : Int32)) (v := (.int c2)) (by rw [e4]; exact Ar5.1) (State.isArrayOf_alike hZ.alike Ar5.2.1) Ar5.2.2 hin5 hat5 (g := (mkF m 12 #[.val (.ref a1), .val (.int (2 : Int32)), .val (.ref b1), .val (.int (2 : Int32)), .val (.int (4 : Int32)), .val (.int (2 : Int32)), .val (.int c1)] [(.int (2 : Int32)), (.ref a1)])) rfl rfl (hb hby d5_12)) ?_
  show Go p e below _ (T4.setTop (mkF m 13 #[.val (.ref a1), .val (.int (2 : Int32)), .val (.ref b1), .val (.int (2 : Int32)), .val (.int (4 : Int32)), .val (.int (2 : Int32)), .val (.int c1)] [(.int c2)]))
  refine Go.via (fun _ => XS.istore X4.here hx rfl (hb hby d5_13) rfl (l' := #[.val (.ref a1), .val (.int (2 : Int32)), .val (.ref b1), .val (.int (2 : Int32)), .val (.int (4 : Int32)), .val (.int (2 : Int32)), .val (.int c2)]) rfl) ?_
  show Go p e below _ (T4.setTop (mkF m 15 #[.val (.ref a1), .val (.int (2 : Int32)), .val (.ref b1), .val (.int (2 : Int32)), .val (.int (4 : Int32)), .val (.int (2 : Int32)), .val (.int c2)] []))
  refine Go.via (fun _ => XS.iload X4.here hx rfl (hb hby d5_15) rfl) ?_
  show Go p e below _ (T4.setTop (mkF m 17 #[.val (.ref a1), .val (.int (2 : Int32)), .val (.ref b1), .val (.int (2 : Int32)), .val (.int (4 : Int32)), .val (.int (2 : Int32)), .val (.int c2)] [(.int c2)]))
  refine Go.via (fun _ => XS.sipush X4.here hx rfl (hb hby d5_17)) ?_
  show Go p e below _ (T4.setTop (mkF m 20 #[.val (.ref a1), .val (.int (2 : Int32)), .val (.ref b1), .val (.int (2 : Int32)), .val (.int (4 : Int32)), .val (.int (2 : Int32)), .val (.int c2)] [(.int (255 : Int32)), (.int c2)]))
  refine Go.via (fun _ => XS.icmpYes X4.here hx rfl (pc0 := 20) (pc' := 26) rfl (hb hby d5_20) rfl (flt hl2).2.2.2 (by decide) (by decide)) ?_
  show Go p e below _ (T4.setTop (mkF m 26 #[.val (.ref a1), .val (.int (2 : Int32)), .val (.ref b1), .val (.int (2 : Int32)), .val (.int (4 : Int32)), .val (.int (2 : Int32)), .val (.int c2)] []))
  refine Go.via (fun _ => XS.aloadN X4.here hx rfl (hb hby d5_26) rfl rfl) ?_
  show Go p e below _ (T4.setTop (mkF m 27 #[.val (.ref a1), .val (.int (2 : Int32)), .val (.ref b1), .val (.int (2 : Int32)), .val (.int (4 : Int32)), .val (.int (2 : Int32)), .val (.int c2)] [(.ref b1)]))
  refine Go.via (fun _ => XS.iloadN X4.here hx rfl (hb hby d5_27) rfl) ?_
  show Go p e below _ (T4.setTop (mkF m 28 #[.val (.ref a1), .val (.int (2 : Int32)), .val (.ref b1), .val (.int (2 : Int32)), .val (.int (4 : Int32)), .val (.int (2 : Int32)), .val (.int c2)] [(.int (2 : Int32)), (.ref b1)]))
  refine Go.via (fun _ => XS.iload X4.here hx rfl (hb hby d5_28) rfl) ?_
  show Go p e below _ (T4.setTop (mkF m 30 #[.val (.ref a1), .val (.int (2 : Int32)), .val (.ref b1), .val (.int (2 : Int32)), .val (.int (4 : Int32)), .val (.int (2 : Int32)), .val (.int c2)] [(.int c2), (.int (2 : Int32)), (.ref b1)]))
  refine Go.via (fun _ => XS.i2b X4.here hx rfl (hb hby d5_30) rfl) ?_
  show Go p e below _ (T4.setTop (mkF m 31 #[.val (.ref a1), .val (.int (2 : Int32)), .val (.ref b1), .val (.int (2 : Int32)), .val (.int (4 : Int32)), .val (.int (2 : Int32)), .val (.int c2)] [(.int (c2.toInt8.toInt32)), (.int (2 : Int32)), (.ref b1)]))
  obtain ⟨cl6, Ar6, q6, S6, N6n, H6, G6⟩ := id V4
  have hin6 := inb_of (j := (2 : Int32)) S6 (by decide)
  obtain ⟨T6, h6, X6, e6, W6, st6⟩ := stB X4 hx hZ e4 Ar6 (j := (2 : Int32)) hin6 (g := (mkF m 31 #[.val (.ref a1), .val (.int (2 : Int32)), .val (.ref b1), .val (.int (2 : Int32)), .val (.int (4 : Int32)), .val (.int (2 : Int32)), .val (.int c2)] [(.int (c2.toInt8.toInt32)), (.int (2 : Int32)), (.ref b1)])) rfl rfl (hb hby d5_31)
  refine Go.via st6 ?_
  have V6 : Arv Z h6 b1 kc2 .byte (4 : Int32) [(.int (nar .byte (c0.toInt8.toInt32))), (.int (nar .byte (c1.toInt8.toInt32))), (.int (nar .byte (c2.toInt8.toInt32))), (.int (0 : Int32))] (.int (0 : Int32)) := Arv.set Ar6 q6 S6 N6n H6 G6 (fits_nar_byte _) W6 2 rfl (Nat.le_of_ble_eq_true rfl)
  have Zs6 : n0 ≤ h6.size := Nat.le_trans Zs4 (Keep.of_wr W6).1
  have K6 : Keep h0 h6 [b1] := K4.wr W6 (Or.inl (List.mem_of_getElem? (i := 0) rfl))
  have N6 := Fr.snoc X6 N4 g1
  have fV_a1_6 := fV_a1_4.other W6 ne1
  show Go p e below _ (T6.setTop (mkF m 32 #[.val (.ref a1), .val (.int (2 : Int32)), .val (.ref b1), .val (.int (2 : Int32)), .val (.int (4 : Int32)), .val (.int (2 : Int32)), .val (.int c2)] []))
  refine Go.via (fun _ => XS.iinc X6.here hx rfl (hb hby d5_32) rfl (l' := #[.val (.ref a1), .val (.int (3 : Int32)), .val (.ref b1), .val (.int (2 : Int32)), .val (.int (4 : Int32)), .val (.int (2 : Int32)), .val (.int c2)]) rfl) ?_
  show Go p e below _ (T6.setTop (mkF m 35 #[.val (.ref a1), .val (.int (3 : Int32)), .val (.ref b1), .val (.int (2 : Int32)), .val (.int (4 : Int32)), .val (.int (2 : Int32)), .val (.int c2)] []))
  refine Go.via (fun _ => XS.iinc X6.here hx rfl (hb hby d5_35) rfl (l' := #[.val (.ref a1), .val (.int (3 : Int32)), .val (.ref b1), .val (.int (3 : Int32)), .val (.int (4 : Int32)), .val (.int (2 : Int32)), .val (.int c2)]) rfl) ?_
  show Go p e below _ (T6.setTop (mkF m 38 #[.val (.ref a1), .val (.int (3 : Int32)), .val (.ref b1), .val (.int (3 : Int32)), .val (.int (4 : Int32)), .val (.int (2 : Int32)), .val (.int c2)] []))
  refine Go.via (fun _ => XS.iinc X6.here hx rfl (hb hby d5_38) rfl (l' := #[.val (.ref a1), .val (.int (3 : Int32)), .val (.ref b1), .val (.int (3 : Int32)), .val (.int (4 : Int32)), .val (.int (3 : Int32)), .val (.int c2)]) rfl) ?_
  show Go p e below _ (T6.setTop (mkF m 41 #[.val (.ref a1), .val (.int (3 : Int32)), .val (.ref b1), .val (.int (3 : Int32)), .val (.int (4 : Int32)), .val (.int (3 : Int32)), .val (.int c2)] []))
  refine Go.via (fun _ => XS.goto X6.here hx rfl (pc0 := 41) (pc' := 3) rfl (hb hby d5_41) (by decide) (by decide)) ?_
  show Go p e below _ (T6.setTop (mkF m 3 #[.val (.ref a1), .val (.int (3 : Int32)), .val (.ref b1), .val (.int (3 : Int32)), .val (.int (4 : Int32)), .val (.int (3 : Int32)), .val (.int c2)] []))
  refine Go.via (fun _ => XS.iload X6.here hx rfl (hb hby d5_3) rfl) ?_
  show Go p e below _ (T6.setTop (mkF m 5 #[.val (.ref a1), .val (.int (3 : Int32)), .val (.ref b1), .val (.int (3 : Int32)), .val (.int (4 : Int32)), .val (.int (3 : Int32)), .val (.int c2)] [(.int (3 : Int32))]))
  refine Go.via (fun _ => XS.iload X6.here hx rfl (hb hby d5_5) rfl) ?_
  show Go p e below _ (T6.setTop (mkF m 7 #[.val (.ref a1), .val (.int (3 : Int32)), .val (.ref b1), .val (.int (3 : Int32)), .val (.int (4 : Int32)), .val (.int (3 : Int32)), .val (.int c2)] [(.int (4 : Int32)), (.int (3 : Int32))]))
  refine Go.via (fun _ => XS.icmpNo X6.here hx rfl (hb hby d5_7) rfl (by decide)) ?_
  show Go p e below _ (T6.setTop (mkF m 10 #[.val (.ref a1), .val (.int (3 : Int32)), .val (.ref b1), .val (.int (3 : Int32)), .val (.int (4 : Int32)), .val (.int (3 : Int32)), .val (.int c2)] []))
  refine Go.via (fun _ => XS.aloadN X6.here hx rfl (hb hby d5_10) rfl rfl) ?_
  show Go p e below _ (T6.setTop (mkF m 11 #[.val (.ref a1), .val (.int (3 : Int32)), .val (.ref b1), .val (.int (3 : Int32)), .val (.int (4 : Int32)), .val (.int (3 : Int32)), .val (.int c2)] [(.ref a1)]))
  refine Go.via (fun _ => XS.iloadN X6.here hx rfl (hb hby d5_11) rfl) ?_
  show Go p e below _ (T6.setTop (mkF m 12 #[.val (.ref a1), .val (.int (3 : Int32)), .val (.ref b1), .val (.int (3 : Int32)), .val (.int (4 : Int32)), .val (.int (3 : Int32)), .val (.int c2)] [(.int (3 : Int32)), (.ref a1)]))
  obtain ⟨cl7, Ar7, q7, S7, N7n, H7, G7⟩ := id fV_a1_6
  have hin7 := inb_of (j := (3 : Int32)) S7 (by decide)
  have hat7 : cl7.slots[((3 : Int32) : Int32).toNatClampNeg]? = some (.int c3) := H7.at hin7 rfl
  refine Go.via (X6.caload hx (j := (3 : Int32)) (v := (.int c3)) (by rw [e6]; exact Ar7.1) (State.isArrayOf_alike hZ.alike Ar7.2.1) Ar7.2.2 hin7 hat7 (g := (mkF m 12 #[.val (.ref a1), .val (.int (3 : Int32)), .val (.ref b1), .val (.int (3 : Int32)), .val (.int (4 : Int32)), .val (.int (3 : Int32)), .val (.int c2)] [(.int (3 : Int32)), (.ref a1)])) rfl rfl (hb hby d5_12)) ?_
  show Go p e below _ (T6.setTop (mkF m 13 #[.val (.ref a1), .val (.int (3 : Int32)), .val (.ref b1), .val (.int (3 : Int32)), .val (.int (4 : Int32)), .val (.int (3 : Int32)), .val (.int c2)] [(.int c3)]))
  refine Go.via (fun _ => XS.istore X6.here hx rfl (hb hby d5_13) rfl (l' := #[.val (.ref a1), .val (.int (3 : Int32)), .val (.ref b1), .val (.int (3 : Int32)), .val (.int (4 : Int32)), .val (.int (3 : Int32)), .val (.int c3)]) rfl) ?_
  show Go p e below _ (T6.setTop (mkF m 15 #[.val (.ref a1), .val (.int (3 : Int32)), .val (.ref b1), .val (.int (3 : Int32)), .val (.int (4 : Int32)), .val (.int (3 : Int32)), .val (.int c3)] []))
  refine Go.via (fun _ => XS.iload X6.here hx rfl (hb hby d5_15) rfl) ?_
  show Go p e below _ (T6.setTop (mkF m 17 #[.val (.ref a1), .val (.int (3 : Int32)), .val (.ref b1), .val (.int (3 : Int32)), .val (.int (4 : Int32)), .val (.int (3 : Int32)), .val (.int c3)] [(.int c3)]))
  refine Go.via (fun _ => XS.sipush X6.here hx rfl (hb hby d5_17)) ?_
  show Go p e below _ (T6.setTop (mkF m 20 #[.val (.ref a1), .val (.int (3 : Int32)), .val (.ref b1), .val (.int (3 : Int32)), .val (.int (4 : Int32)), .val (.int (3 : Int32)), .val (.int c3)] [(.int (255 : Int32)), (.int c3)]))
  refine Go.via (fun _ => XS.icmpYes X6.here hx rfl (pc0 := 20) (pc' := 26) rfl (hb hby d5_20) rfl (flt hl3).2.2.2 (by decide) (by decide)) ?_
  show Go p e below _ (T6.setTop (mkF m 26 #[.val (.ref a1), .val (.int (3 : Int32)), .val (.ref b1), .val (.int (3 : Int32)), .val (.int (4 : Int32)), .val (.int (3 : Int32)), .val (.int c3)] []))
  refine Go.via (fun _ => XS.aloadN X6.here hx rfl (hb hby d5_26) rfl rfl) ?_
  show Go p e below _ (T6.setTop (mkF m 27 #[.val (.ref a1), .val (.int (3 : Int32)), .val (.ref b1), .val (.int (3 : Int32)), .val (.int (4 : Int32)), .val (.int (3 : Int32)), .val (.int c3)] [(.ref b1)]))
  refine Go.via (fun _ => XS.iloadN X6.here hx rfl (hb hby d5_27) rfl) ?_
  show Go p e below _ (T6.setTop (mkF m 28 #[.val (.ref a1), .val (.int (3 : Int32)), .val (.ref b1), .val (.int (3 : Int32)), .val (.int (4 : Int32)), .val (.int (3 : Int32)), .val (.int c3)] [(.int (3 : Int32)), (.ref b1)]))
  refine Go.via (fun _ => XS.iload X6.here hx rfl (hb hby d5_28) rfl) ?_
  show Go p e below _ (T6.setTop (mkF m 30 #[.val (.ref a1), .val (.int (3 : Int32)), .val (.ref b1), .val (.int (3 : Int32)), .val (.int (4 : Int32)), .val (.int (3 : Int32)), .val (.int c3)] [(.int c3), (.int (3 : Int32)), (.ref b1)]))
  refine Go.via (fun _ => XS.i2b X6.here hx rfl (hb hby d5_30) rfl) ?_
  show Go p e below _ (T6.setTop (mkF m 31 #[.val (.ref a1), .val (.int (3 : Int32)), .val (.ref b1), .val (.int (3 : Int32)), .val (.int (4 : Int32)), .val (.int (3 : Int32)), .val (.int c3)] [(.int (c3.toInt8.toInt32)), (.int (3 : Int32)), (.ref b1)]))
  obtain ⟨cl8, Ar8, q8, S8, N8n, H8, G8⟩ := id V6
  have hin8 := inb_of (j := (3 : Int32)) S8 (by decide)
  obtain ⟨T8, h8, X8, e8, W8, st8⟩ := stB X6 hx hZ e6 Ar8 (j := (3 : Int32)) hin8 (g := (mkF m 31 #[.val (.ref a1), .val (.int (3 : Int32)), .val (.ref b1), .val (.int (3 : Int32)), .val (.int (4 : Int32)), .val (.int (3 : Int32)), .val (.int c3)] [(.int (c3.toInt8.toInt32)), (.int (3 : Int32)), (.ref b1)])) rfl rfl (hb hby d5_31)
  refine Go.via st8 ?_
  have V8 : Arv Z h8 b1 kc2 .byte (4 : Int32) [(.int (nar .byte (c0.toInt8.toInt32))), (.int (nar .byte (c1.toInt8.toInt32))), (.int (nar .byte (c2.toInt8.toInt32))), (.int (nar .byte (c3.toInt8.toInt32)))] (.int (0 : Int32)) := Arv.set Ar8 q8 S8 N8n H8 G8 (fits_nar_byte _) W8 3 rfl (Nat.le_of_ble_eq_true rfl)
  have Zs8 : n0 ≤ h8.size := Nat.le_trans Zs6 (Keep.of_wr W8).1
  have K8 : Keep h0 h8 [b1] := K6.wr W8 (Or.inl (List.mem_of_getElem? (i := 0) rfl))
  have N8 := Fr.snoc X8 N6 g1
  have fV_a1_8 := fV_a1_6.other W8 ne1
  show Go p e below _ (T8.setTop (mkF m 32 #[.val (.ref a1), .val (.int (3 : Int32)), .val (.ref b1), .val (.int (3 : Int32)), .val (.int (4 : Int32)), .val (.int (3 : Int32)), .val (.int c3)] []))
  refine Go.via (fun _ => XS.iinc X8.here hx rfl (hb hby d5_32) rfl (l' := #[.val (.ref a1), .val (.int (4 : Int32)), .val (.ref b1), .val (.int (3 : Int32)), .val (.int (4 : Int32)), .val (.int (3 : Int32)), .val (.int c3)]) rfl) ?_
  show Go p e below _ (T8.setTop (mkF m 35 #[.val (.ref a1), .val (.int (4 : Int32)), .val (.ref b1), .val (.int (3 : Int32)), .val (.int (4 : Int32)), .val (.int (3 : Int32)), .val (.int c3)] []))
  refine Go.via (fun _ => XS.iinc X8.here hx rfl (hb hby d5_35) rfl (l' := #[.val (.ref a1), .val (.int (4 : Int32)), .val (.ref b1), .val (.int (4 : Int32)), .val (.int (4 : Int32)), .val (.int (3 : Int32)), .val (.int c3)]) rfl) ?_
  show Go p e below _ (T8.setTop (mkF m 38 #[.val (.ref a1), .val (.int (4 : Int32)), .val (.ref b1), .val (.int (4 : Int32)), .val (.int (4 : Int32)), .val (.int (3 : Int32)), .val (.int c3)] []))
  refine Go.via (fun _ => XS.iinc X8.here hx rfl (hb hby d5_38) rfl (l' := #[.val (.ref a1), .val (.int (4 : Int32)), .val (.ref b1), .val (.int (4 : Int32)), .val (.int (4 : Int32)), .val (.int (4 : Int32)), .val (.int c3)]) rfl) ?_
  show Go p e below _ (T8.setTop (mkF m 41 #[.val (.ref a1), .val (.int (4 : Int32)), .val (.ref b1), .val (.int (4 : Int32)), .val (.int (4 : Int32)), .val (.int (4 : Int32)), .val (.int c3)] []))
  refine Go.via (fun _ => XS.goto X8.here hx rfl (pc0 := 41) (pc' := 3) rfl (hb hby d5_41) (by decide) (by decide)) ?_
  show Go p e below _ (T8.setTop (mkF m 3 #[.val (.ref a1), .val (.int (4 : Int32)), .val (.ref b1), .val (.int (4 : Int32)), .val (.int (4 : Int32)), .val (.int (4 : Int32)), .val (.int c3)] []))
  refine Go.via (fun _ => XS.iload X8.here hx rfl (hb hby d5_3) rfl) ?_
  show Go p e below _ (T8.setTop (mkF m 5 #[.val (.ref a1), .val (.int (4 : Int32)), .val (.ref b1), .val (.int (4 : Int32)), .val (.int (4 : Int32)), .val (.int (4 : Int32)), .val (.int c3)] [(.int (4 : Int32))]))
  refine Go.via (fun _ => XS.iload X8.here hx rfl (hb hby d5_5) rfl) ?_
  show Go p e below _ (T8.setTop (mkF m 7 #[.val (.ref a1), .val (.int (4 : Int32)), .val (.ref b1), .val (.int (4 : Int32)), .val (.int (4 : Int32)), .val (.int (4 : Int32)), .val (.int c3)] [(.int (4 : Int32)), (.int (4 : Int32))]))
  refine Go.via (fun _ => XS.icmpYes X8.here hx rfl (pc0 := 7) (pc' := 44) rfl (hb hby d5_7) rfl (by decide) (by decide) (by decide)) ?_
  show Go p e below _ (T8.setTop (mkF m 44 #[.val (.ref a1), .val (.int (4 : Int32)), .val (.ref b1), .val (.int (4 : Int32)), .val (.int (4 : Int32)), .val (.int (4 : Int32)), .val (.int c3)] []))
  refine Go.via (fun _ => XS.iload X8.here hx rfl (hb hby d5_44) rfl) ?_
  show Go p e below _ (T8.setTop (mkF m 46 #[.val (.ref a1), .val (.int (4 : Int32)), .val (.ref b1), .val (.int (4 : Int32)), .val (.int (4 : Int32)), .val (.int (4 : Int32)), .val (.int c3)] [(.int (4 : Int32))]))
  exact own_retI X8 hx hlk Bd.returns (hb hby d5_46) (by show QC2_4 Z a1 kc1 b1 kc2 c0 c1 c2 c3 h0 n0 _ T8.heap _; rw [e8]; exact ⟨rfl, N8, K8, V8⟩) (by decide) (by decide)
theorem ef_rmC1_4 (m : MethodId) (x0 : Addr) : entryFrame m #[(.ref x0), (.int (0 : Int32)), (.int (4 : Int32))] 6 = mkF m 0 #[.val (.ref x0), .val (.int (0 : Int32)), .val (.int (4 : Int32)), .unset, .unset, .unset] [] := by first | (simp [entryFrame, mkF, argsToLocals, Value.category]; done) | rfl
def QC1_4 (Z : State) (a1 : Addr) (kc1 : ClassId) (c0 : Int32) (c1 : Int32) (c2 : Int32) (c3 : Int32) (h0 : Heap) (n0 : Nat) (v : Option Value) (h : Heap) (L : List Loc) : Prop := ∃ (t : Addr) (kb : ClassId), v = some (.ref t) ∧ Fr n0 L ∧ Keep h0 h [] ∧ h0.size ≤ t ∧ Arv Z h t kb .byte (4 : Int32) [(.int (nar .byte (c0.toInt8.toInt32))), (.int (nar .byte (c1.toInt8.toInt32))), (.int (nar .byte (c2.toInt8.toInt32))), (.int (nar .byte (c3.toInt8.toInt32)))] (.int (0 : Int32))
set_option maxRecDepth 65536 in
set_option maxHeartbeats 40000000 in
theorem rmC1_4 (l : Launch) (Z : State) (a0 : Array Value) (hw : ∀ d ∈ tables_1, d.before a0 Z = true) (ws : List Jvm.Cond) (a1 : Addr) (kc1 : ClassId) (c0 : Int32) (c1 : Int32) (c2 : Int32) (c3 : Int32) (h0 : Heap) (n0 : Nat) (Z0 : n0 ≤ h0.size) (V1 : Arv Z h0 a1 kc1 .char (4 : Int32) [(.int c0), (.int c1), (.int c2), (.int c3)] (.int (0 : Int32))) (hl0 : ¬ ((255 : Int32) < c0)) (hl1 : ¬ ((255 : Int32) < c1)) (hl2 : ¬ ((255 : Int32) < c2)) (hl3 : ¬ ((255 : Int32) < c3)) :
    MetFree l (⟨"java/lang/StringUTF16", "compress", "([CII)[B"⟩ : MethodName) (head1 (Jvm.Cond.code (⟨"java/lang/StringUTF16", "compress", "([CII)[B"⟩ : MethodName) jdk_52_method_16_code 6 (some (.array .byte)) :: ws) ({ frames := 1, cells := 1, slots := 4, locals := 18 } : Room)) (fun a U => a = #[(.ref a1), (.int (0 : Int32)), (.int (4 : Int32))] ∧ Z.Warmed39 U.vm ∧ U.heap = h0) (fun _ _ _ _ _ => True) (fun _ U o U' => ∃ v L, o = .returned v ∧ QC1_4 Z a1 kc1 c0 c1 c2 c3 h0 n0 v U'.heap L ∧ FrameEnd U o U' L ({ frames := 1, cells := 1, slots := 4, locals := 18 } : Room).cells ({ frames := 1, cells := 1, slots := 4, locals := 18 } : Room).slots) := by
  refine MetFree.of_bodySF (plainFor_of_name pn_java_lang_StringUTF16) hisR ?_
  intro p e s m args below meth c s₁ Bd hml0 hP hK
  obtain ⟨rfl, hZ, hh⟩ := hP
  have hx := Bd.exec
  have hby := Bd.bytes
  have hlk : meth.locks = false := Bd.notSynchronized
  have hml : c.maxLocals = 6 := hml0
  have hown : s.vm.findClass "java/lang/StringUTF16" = some m.cls := findClass_of_methodNamed Bd.named
  have hnm := (name_of_methodNamed Bd.named Bd.method).1
  have X0 : Stand p l e ({ frames := 1, cells := 1, slots := 4, locals := 18 } : Room) s m #[(.ref a1), (.int (0 : Int32)), (.int (4 : Int32))] below meth c s₁ [] 0 0 := Stand.of_body Bd
  have e0 : s₁.heap = h0 := by rw [← hh, Bd.state]; rfl
  have N0 := Fr.nil n0
  show Go p e below (FinE s below (QC1_4 Z a1 kc1 c0 c1 c2 c3 h0 n0) ({ frames := 1, cells := 1, slots := 4, locals := 18 } : Room).cells ({ frames := 1, cells := 1, slots := 4, locals := 18 } : Room).slots) (s₁.setTop (entryFrame m #[(.ref a1), (.int (0 : Int32)), (.int (4 : Int32))] 6))
  refine Go.via (fun t k => castTop (ef_rmC1_4 m a1) k) ?_
  show Go p e below _ (s₁.setTop (mkF m 0 #[.val (.ref a1), .val (.int (0 : Int32)), .val (.int (4 : Int32)), .unset, .unset, .unset] []))
  refine Go.via (fun _ => XS.iloadN X0.here hx rfl (hb hby d4_0) rfl) ?_
  show Go p e below _ (s₁.setTop (mkF m 1 #[.val (.ref a1), .val (.int (0 : Int32)), .val (.int (4 : Int32)), .unset, .unset, .unset] [(.int (4 : Int32))]))
  obtain ⟨T1, h1, k1, X1, e1, E1, A1, st1⟩ := newP X0 hx hZ (hw _ (List.mem_of_getElem? (i := 22) rfl)) e0 (g := (mkF m 1 #[.val (.ref a1), .val (.int (0 : Int32)), .val (.int (4 : Int32)), .unset, .unset, .unset] [(.int (4 : Int32))])) rfl (hb hby d4_1) rfl (by decide) (cap := 4) (by decide) (by decide) (by decide) (by decide)
  obtain ⟨b1, g1⟩ : ∃ z, z = h0.size := ⟨_, rfl⟩
  rw [← g1] at A1 st1
  have g_b1 : n0 ≤ b1 := Nat.le_trans Z0 (Nat.le_of_eq g1.symm)
  have ne_a1_b1 : a1 ≠ b1 := Nat.ne_of_lt (Nat.lt_of_lt_of_le V1.lt (Nat.le_of_eq g1.symm))
  have sz_b1 : h0.size ≤ b1 := Nat.le_trans (Keep.refl h0 []).1 (Nat.le_of_eq g1.symm)
  refine Go.via st1 ?_
  have Zs1 : n0 ≤ h1.size := Nat.le_trans Z0 E1.1
  have K1 : Keep h0 h1 [] := (Keep.refl h0 []).ext E1
  have fV_a1_1 := V1.ext E1
  have V_b1 : Arv Z h1 b1 k1 .byte (4 : Int32) [(.int (0 : Int32)), (.int (0 : Int32)), (.int (0 : Int32)), (.int (0 : Int32))] (.int (0 : Int32)) := (Arv.new A1 (by decide)).pad (pad_rep [] (.int (0 : Int32)) 4)
  show Go p e below _ (T1.setTop (mkF m 3 #[.val (.ref a1), .val (.int (0 : Int32)), .val (.int (4 : Int32)), .unset, .unset, .unset] [(.ref b1)]))
  refine Go.via (fun _ => XS.astoreN X1.here hx rfl (hb hby d4_3) rfl rfl (l' := #[.val (.ref a1), .val (.int (0 : Int32)), .val (.int (4 : Int32)), .val (.ref b1), .unset, .unset]) rfl) ?_
  show Go p e below _ (T1.setTop (mkF m 4 #[.val (.ref a1), .val (.int (0 : Int32)), .val (.int (4 : Int32)), .val (.ref b1), .unset, .unset] []))
  refine Go.via (fun _ => XS.aloadN X1.here hx rfl (hb hby d4_4) rfl rfl) ?_
  show Go p e below _ (T1.setTop (mkF m 5 #[.val (.ref a1), .val (.int (0 : Int32)), .val (.int (4 : Int32)), .val (.ref b1), .unset, .unset] [(.ref a1)]))
  refine Go.via (fun _ => XS.iloadN X1.here hx rfl (hb hby d4_5) rfl) ?_
  show Go p e below _ (T1.setTop (mkF m 6 #[.val (.ref a1), .val (.int (0 : Int32)), .val (.int (4 : Int32)), .val (.ref b1), .unset, .unset] [(.int (0 : Int32)), (.ref a1)]))
  refine Go.via (fun _ => XS.aloadN X1.here hx rfl (hb hby d4_6) rfl rfl) ?_
  show Go p e below _ (T1.setTop (mkF m 7 #[.val (.ref a1), .val (.int (0 : Int32)), .val (.int (4 : Int32)), .val (.ref b1), .unset, .unset] [(.ref b1), (.int (0 : Int32)), (.ref a1)]))
  refine Go.via (fun _ => XS.iconst X1.here hx rfl (hb hby d4_7)) ?_
  show Go p e below _ (T1.setTop (mkF m 8 #[.val (.ref a1), .val (.int (0 : Int32)), .val (.int (4 : Int32)), .val (.ref b1), .unset, .unset] [(.int (0 : Int32)), (.ref b1), (.int (0 : Int32)), (.ref a1)]))
  refine Go.via (fun _ => XS.iloadN X1.here hx rfl (hb hby d4_8) rfl) ?_
  show Go p e below _ (T1.setTop (mkF m 9 #[.val (.ref a1), .val (.int (0 : Int32)), .val (.int (4 : Int32)), .val (.ref b1), .unset, .unset] [(.int (4 : Int32)), (.int (0 : Int32)), (.ref b1), (.int (0 : Int32)), (.ref a1)]))
  obtain ⟨_, _, ⟨T2, L2, k2, n2⟩, -, X2, ⟨Lc2, hQ2, l2, y2, z2⟩, st2⟩ := Jvm.LawKit.callS X1 hx (y := (⟨"java/lang/StringUTF16", "compress", "([CI[BII)I"⟩ : MethodName)) hown (mvT hZ (hw _ (List.mem_of_getElem? (i := 23) rfl))) (mvT hZ (hw _ (List.mem_of_getElem? (i := 24) rfl))) (mvT hZ (hw _ (List.mem_of_getElem? (i := 20) rfl))) (mvT hZ (hw _ (List.mem_of_getElem? (i := 25) rfl))) (by decide) (backOf (W := 0) (rmC2_4 l Z a0 hw [] a1 kc1 b1 k1 c0 c1 c2 c3 h1 n0 Zs1 fV_a1_1 V_b1 g_b1 ne_a1_b1 hl0 hl1 hl2 hl3) hZ (hw _ (List.mem_of_getElem? (i := 25) rfl)) (hw _ (List.mem_of_getElem? (i := 20) rfl)) (by decide) (by decide)) (g := (mkF m 9 #[.val (.ref a1), .val (.int (0 : Int32)), .val (.int (4 : Int32)), .val (.ref b1), .unset, .unset] [(.int (4 : Int32)), (.int (0 : Int32)), (.ref b1), (.int (0 : Int32)), (.ref a1)])) rfl (by rw [hml]; rfl) (argsL := [(.ref a1), (.int (0 : Int32)), (.ref b1), (.int (0 : Int32)), (.int (4 : Int32))]) (rest := []) (lenOf pd_6 rfl) rfl (by show 2 * 0 + _ ≤ _; exact Nat.le_of_eq rfl) (hb hby d4_9) (fun _ _ => ⟨rfl, e1, (by decide : 1 + 0 ≤ _), (by decide : 4 + 0 ≤ _)⟩)
  dsimp only [Pt.U, Pt.locs, Pt.cells, Pt.slots] at X2 l2 y2 z2 st2 hQ2
  subst l2 y2 z2
  obtain ⟨rfl, N2q, K2q, va2⟩ := hQ2
  have N2 := Fr.app N0 N2q
  refine Go.via st2 ?_
  have Zs2 : n0 ≤ T2.heap.size := Nat.le_trans Zs1 K2q.1
  have K2 : Keep h0 T2.heap [] := K1.trans K2q (allS (Or.inr sz_b1) all0)
  have fV_a1_2 := fV_a1_1.keep K2q (ninS ne_a1_b1 nin0)
  show Go p e below _ (T2.setTop (mkF m 12 #[.val (.ref a1), .val (.int (0 : Int32)), .val (.int (4 : Int32)), .val (.ref b1), .unset, .unset] [(.int (4 : Int32))]))
  refine Go.via (fun _ => XS.istore X2.here hx rfl (hb hby d4_12) rfl (l' := #[.val (.ref a1), .val (.int (0 : Int32)), .val (.int (4 : Int32)), .val (.ref b1), .val (.int (4 : Int32)), .unset]) rfl) ?_
  show Go p e below _ (T2.setTop (mkF m 14 #[.val (.ref a1), .val (.int (0 : Int32)), .val (.int (4 : Int32)), .val (.ref b1), .val (.int (4 : Int32)), .unset] []))
  refine Go.via (fun _ => XS.iload X2.here hx rfl (hb hby d4_14) rfl) ?_
  show Go p e below _ (T2.setTop (mkF m 16 #[.val (.ref a1), .val (.int (0 : Int32)), .val (.int (4 : Int32)), .val (.ref b1), .val (.int (4 : Int32)), .unset] [(.int (4 : Int32))]))
  refine Go.via (fun _ => XS.iloadN X2.here hx rfl (hb hby d4_16) rfl) ?_
  show Go p e below _ (T2.setTop (mkF m 17 #[.val (.ref a1), .val (.int (0 : Int32)), .val (.int (4 : Int32)), .val (.ref b1), .val (.int (4 : Int32)), .unset] [(.int (4 : Int32)), (.int (4 : Int32))]))
  refine Go.via (fun _ => XS.icmpYes X2.here hx rfl (pc0 := 17) (pc' := 57) rfl (hb hby d4_17) rfl (by decide) (by decide) (by decide)) ?_
  show Go p e below _ (T2.setTop (mkF m 57 #[.val (.ref a1), .val (.int (0 : Int32)), .val (.int (4 : Int32)), .val (.ref b1), .val (.int (4 : Int32)), .unset] []))
  refine Go.via (fun _ => XS.aloadN X2.here hx rfl (hb hby d4_57) rfl rfl) ?_
  show Go p e below _ (T2.setTop (mkF m 58 #[.val (.ref a1), .val (.int (0 : Int32)), .val (.int (4 : Int32)), .val (.ref b1), .val (.int (4 : Int32)), .unset] [(.ref b1)]))
  exact own_retA X2 hx hlk Bd.returns rfl rfl (hb hby d4_58) (by show QC1_4 Z a1 kc1 c0 c1 c2 c3 h0 n0 _ T2.heap _; exact ⟨b1, k1, rfl, N2, K2, sz_b1, va2⟩) (by decide) (by decide)
theorem ef_rmCL_4_4 (m : MethodId) (x0 : Addr) : entryFrame m #[(.ref x0), (.int (4 : Int32))] 2 = mkF m 0 #[.val (.ref x0), .val (.int (4 : Int32))] [] := by first | (simp [entryFrame, mkF, argsToLocals, Value.category]; done) | rfl
def QCL_4_4 (Z : State) (b1 : Addr) (kc2 : ClassId) (vs : List Value) (h0 : Heap) (n0 : Nat) (v : Option Value) (h : Heap) (L : List Loc) : Prop := v = some (.int (0 : Int32)) ∧ Fr n0 L ∧ h = h0
set_option maxRecDepth 65536 in
set_option maxHeartbeats 40000000 in
theorem rmCL_4_4 (l : Launch) (Z : State) (a0 : Array Value) (hw : ∀ d ∈ tables_1, d.before a0 Z = true) (ws : List Jvm.Cond) (b1 : Addr) (kc2 : ClassId) (vs : List Value) (h0 : Heap) (n0 : Nat) (Z0 : n0 ≤ h0.size) (V2 : Arv Z h0 b1 kc2 .byte (4 : Int32) vs (.int (0 : Int32))) :
    MetFree l (⟨"java/lang/StringUTF16", "coderFromArrayLen", "([BI)B"⟩ : MethodName) (head1 (Jvm.Cond.code (⟨"java/lang/StringUTF16", "coderFromArrayLen", "([BI)B"⟩ : MethodName) jdk_52_method_15_code 2 (some .byte) :: ws) ({ frames := 0, cells := 0, slots := 0, locals := 0 } : Room)) (fun a U => a = #[(.ref b1), (.int (4 : Int32))] ∧ Z.Warmed39 U.vm ∧ U.heap = h0) (fun _ _ _ _ _ => True) (fun _ U o U' => ∃ v L, o = .returned v ∧ QCL_4_4 Z b1 kc2 vs h0 n0 v U'.heap L ∧ FrameEnd U o U' L ({ frames := 0, cells := 0, slots := 0, locals := 0 } : Room).cells ({ frames := 0, cells := 0, slots := 0, locals := 0 } : Room).slots) := by
  refine MetFree.of_bodySF (plainFor_of_name pn_java_lang_StringUTF16) hisR ?_
  intro p e s m args below meth c s₁ Bd hml0 hP hK
  obtain ⟨rfl, hZ, hh⟩ := hP
  have hx := Bd.exec
  have hby := Bd.bytes
  have hlk : meth.locks = false := Bd.notSynchronized
  have hml : c.maxLocals = 2 := hml0
  have hown : s.vm.findClass "java/lang/StringUTF16" = some m.cls := findClass_of_methodNamed Bd.named
  have hnm := (name_of_methodNamed Bd.named Bd.method).1
  have X0 : Stand p l e ({ frames := 0, cells := 0, slots := 0, locals := 0 } : Room) s m #[(.ref b1), (.int (4 : Int32))] below meth c s₁ [] 0 0 := Stand.of_body Bd
  have e0 : s₁.heap = h0 := by rw [← hh, Bd.state]; rfl
  have N0 := Fr.nil n0
  show Go p e below (FinE s below (QCL_4_4 Z b1 kc2 vs h0 n0) ({ frames := 0, cells := 0, slots := 0, locals := 0 } : Room).cells ({ frames := 0, cells := 0, slots := 0, locals := 0 } : Room).slots) (s₁.setTop (entryFrame m #[(.ref b1), (.int (4 : Int32))] 2))
  refine Go.via (fun t k => castTop (ef_rmCL_4_4 m b1) k) ?_
  show Go p e below _ (s₁.setTop (mkF m 0 #[.val (.ref b1), .val (.int (4 : Int32))] []))
  refine Go.via (fun _ => XS.iloadN X0.here hx rfl (hb hby d6_0) rfl) ?_
  show Go p e below _ (s₁.setTop (mkF m 1 #[.val (.ref b1), .val (.int (4 : Int32))] [(.int (4 : Int32))]))
  refine Go.via (fun _ => XS.aloadN X0.here hx rfl (hb hby d6_1) rfl rfl) ?_
  show Go p e below _ (s₁.setTop (mkF m 2 #[.val (.ref b1), .val (.int (4 : Int32))] [(.ref b1), (.int (4 : Int32))]))
  obtain ⟨cl1, Ar1, -, S1, N1n, -, -⟩ := id V2
  have al1 := X0.arraylength hx (by rw [e0]; exact Ar1.1) (State.isArrayOf_alike hZ.alike Ar1.2.1) (g := (mkF m 2 #[.val (.ref b1), .val (.int (4 : Int32))] [(.ref b1), (.int (4 : Int32))])) rfl rfl (hb hby d6_2)
  rw [len_of S1 N1n] at al1
  refine Go.via al1 ?_
  show Go p e below _ (s₁.setTop (mkF m 3 #[.val (.ref b1), .val (.int (4 : Int32))] [(.int (4 : Int32)), (.int (4 : Int32))]))
  refine Go.via (fun _ => XS.isub X0.here hx rfl (hb hby d6_3) rfl) ?_
  show Go p e below _ (s₁.setTop (mkF m 4 #[.val (.ref b1), .val (.int (4 : Int32))] [(.int (0 : Int32))]))
  refine Go.via (fun _ => XS.bipush X0.here hx rfl (hb hby d6_4)) ?_
  show Go p e below _ (s₁.setTop (mkF m 6 #[.val (.ref b1), .val (.int (4 : Int32))] [(.int (31 : Int32)), (.int (0 : Int32))]))
  refine Go.via (fun _ => XS.iushr X0.here hx rfl (hb hby d6_6) rfl) ?_
  show Go p e below _ (s₁.setTop (mkF m 7 #[.val (.ref b1), .val (.int (4 : Int32))] [(.int (0 : Int32))]))
  refine Go.via (fun _ => XS.i2b X0.here hx rfl (hb hby d6_7) rfl) ?_
  show Go p e below _ (s₁.setTop (mkF m 8 #[.val (.ref b1), .val (.int (4 : Int32))] [(.int (0 : Int32))]))
  exact own_retN X0 hx hlk (t := .byte) Bd.returns (by simp) (hb hby d6_8) (by show QCL_4_4 Z b1 kc2 vs h0 n0 _ s₁.heap _; rw [e0]; exact ⟨rfl, N0, rfl⟩) (by decide) (by decide)
theorem ef_rmI4_4 (m : MethodId) (x0 : Addr) (x1 : Addr) : entryFrame m #[(.ref x0), (.ref x1), (.int (0 : Int32)), (.int (4 : Int32)), .null] 6 = mkF m 0 #[.val (.ref x0), .val (.ref x1), .val (.int (0 : Int32)), .val (.int (4 : Int32)), .val .null, .unset] [] := by first | (simp [entryFrame, mkF, argsToLocals, Value.category]; done) | rfl
def QI4_4 (Z : State) (a1 : Addr) (a2 : Addr) (kc1 : ClassId) (c0 : Int32) (c1 : Int32) (c2 : Int32) (c3 : Int32) (ccs : Int32) (h0 : Heap) (n0 : Nat) (v : Option Value) (h : Heap) (L : List Loc) : Prop := v = none ∧ Fr n0 L ∧ Keep h0 h [a1] ∧ ∃ (t : Addr) (kb : ClassId), h0.size ≤ t ∧ Fld Z h a1 "java/lang/String" "value" "[B" (.ref t) ∧ Fld Z h a1 "java/lang/String" "coder" "B" (.int (0 : Int32)) ∧ Arv Z h t kb .byte (4 : Int32) [(.int (nar .byte (c0.toInt8.toInt32))), (.int (nar .byte (c1.toInt8.toInt32))), (.int (nar .byte (c2.toInt8.toInt32))), (.int (nar .byte (c3.toInt8.toInt32)))] (.int (0 : Int32))
set_option maxRecDepth 65536 in
set_option maxHeartbeats 40000000 in
theorem rmI4_4 (l : Launch) (Z : State) (a0 : Array Value) (hw : ∀ d ∈ tables_1, d.before a0 Z = true) (ws : List Jvm.Cond) (a1 : Addr) (a2 : Addr) (kc1 : ClassId) (c0 : Int32) (c1 : Int32) (c2 : Int32) (c3 : Int32) (ccs : Int32) (h0 : Heap) (n0 : Nat) (Z0 : n0 ≤ h0.size) (E1 : Exa Z h0 a1 "java/lang/String") (F1 : Fld Z h0 a1 "java/lang/String" "value" "[B" .null) (F2 : Fld Z h0 a1 "java/lang/String" "coder" "B" (.int (0 : Int32))) (g1 : n0 ≤ a1) (ne1 : a1 ≠ a2) (V1 : Arv Z h0 a2 kc1 .char (4 : Int32) [(.int c0), (.int c1), (.int c2), (.int c3)] (.int (0 : Int32))) (hl0 : ¬ ((255 : Int32) < c0)) (hl1 : ¬ ((255 : Int32) < c1)) (hl2 : ¬ ((255 : Int32) < c2)) (hl3 : ¬ ((255 : Int32) < c3)) (O0 : Old Z n0 h0) (S_CS : Sta Z Z.heap "java/lang/String" "COMPACT_STRINGS" "Z" (.int ccs)) (hcs : ¬ (ccs = (0 : Int32))) :
    MetFree l (⟨"java/lang/String", "<init>", "([CIILjava/lang/Void;)V"⟩ : MethodName) (head1 (Jvm.Cond.code (⟨"java/lang/String", "<init>", "([CIILjava/lang/Void;)V"⟩ : MethodName) jdk_42_method_149_code 6 none :: ws) ({ frames := 2, cells := 1, slots := 4, locals := 35 } : Room)) (fun a U => a = #[(.ref a1), (.ref a2), (.int (0 : Int32)), (.int (4 : Int32)), .null] ∧ Z.Warmed39 U.vm ∧ U.heap = h0) (fun _ _ _ _ _ => True) (fun _ U o U' => ∃ v L, o = .returned v ∧ QI4_4 Z a1 a2 kc1 c0 c1 c2 c3 ccs h0 n0 v U'.heap L ∧ FrameEnd U o U' L ({ frames := 2, cells := 1, slots := 4, locals := 35 } : Room).cells ({ frames := 2, cells := 1, slots := 4, locals := 35 } : Room).slots) := by
  refine MetFree.of_bodySF (plainFor_of_name pn_java_lang_String) hisR ?_
  intro p e s m args below meth c s₁ Bd hml0 hP hK
  obtain ⟨rfl, hZ, hh⟩ := hP
  have hx := Bd.exec
  have hby := Bd.bytes
  have hlk : meth.locks = false := Bd.notSynchronized
  have hml : c.maxLocals = 6 := hml0
  have hown : s.vm.findClass "java/lang/String" = some m.cls := findClass_of_methodNamed Bd.named
  have hnm := (name_of_methodNamed Bd.named Bd.method).1
  have X0 : Stand p l e ({ frames := 2, cells := 1, slots := 4, locals := 35 } : Room) s m #[(.ref a1), (.ref a2), (.int (0 : Int32)), (.int (4 : Int32)), .null] below meth c s₁ [] 0 0 := Stand.of_body Bd
  have e0 : s₁.heap = h0 := by rw [← hh, Bd.state]; rfl
  have N0 := Fr.nil n0
  show Go p e below (FinE s below (QI4_4 Z a1 a2 kc1 c0 c1 c2 c3 ccs h0 n0) ({ frames := 2, cells := 1, slots := 4, locals := 35 } : Room).cells ({ frames := 2, cells := 1, slots := 4, locals := 35 } : Room).slots) (s₁.setTop (entryFrame m #[(.ref a1), (.ref a2), (.int (0 : Int32)), (.int (4 : Int32)), .null] 6))
  refine Go.via (fun t k => castTop (ef_rmI4_4 m a1 a2) k) ?_
  show Go p e below _ (s₁.setTop (mkF m 0 #[.val (.ref a1), .val (.ref a2), .val (.int (0 : Int32)), .val (.int (4 : Int32)), .val .null, .unset] []))
  refine Go.via (fun _ => XS.aloadN X0.here hx rfl (hb hby d2_0) rfl rfl) ?_
  show Go p e below _ (s₁.setTop (mkF m 1 #[.val (.ref a1), .val (.ref a2), .val (.int (0 : Int32)), .val (.int (4 : Int32)), .val .null, .unset] [(.ref a1)]))
  obtain ⟨T1, X1, e1, st1⟩ := initO X0 hx hZ hown (hw _ (List.mem_of_getElem? (i := 14) rfl)) (hw _ (List.mem_of_getElem? (i := 15) rfl)) (hw _ (List.mem_of_getElem? (i := 16) rfl)) e0 (g := (mkF m 1 #[.val (.ref a1), .val (.ref a2), .val (.int (0 : Int32)), .val (.int (4 : Int32)), .val .null, .unset] [(.ref a1)])) rfl (by rw [hml]; rfl) rfl (hb hby d2_1) (by decide) (W := 0) (by show 2 * 0 + _ ≤ _; exact Nat.le_of_eq rfl) (by decide)
  refine Go.via st1 ?_
  show Go p e below _ (T1.setTop (mkF m 4 #[.val (.ref a1), .val (.ref a2), .val (.int (0 : Int32)), .val (.int (4 : Int32)), .val .null, .unset] []))
  refine Go.via (fun _ => XS.iloadN X1.here hx rfl (hb hby d2_4) rfl) ?_
  show Go p e below _ (T1.setTop (mkF m 5 #[.val (.ref a1), .val (.ref a2), .val (.int (0 : Int32)), .val (.int (4 : Int32)), .val .null, .unset] [(.int (4 : Int32))]))
  refine Go.via (fun _ => XS.ifYes X1.here hx rfl (pc0 := 5) (pc' := 27) rfl (hb hby d2_5) rfl (by decide) (by decide) (by decide)) ?_
  show Go p e below _ (T1.setTop (mkF m 27 #[.val (.ref a1), .val (.ref a2), .val (.int (0 : Int32)), .val (.int (4 : Int32)), .val .null, .unset] []))
  obtain ⟨T2, X2, e2, st2⟩ := getS2 X1 hx hZ hown (host := "") (Or.inl (hw _ (List.mem_of_getElem? (i := 17) rfl))) Via.refl e1 (S_CS.ext O0.2) (g := (mkF m 27 #[.val (.ref a1), .val (.ref a2), .val (.int (0 : Int32)), .val (.int (4 : Int32)), .val .null, .unset] [])) rfl (hb hby d2_27)
  refine Go.via st2 ?_
  show Go p e below _ (T2.setTop (mkF m 30 #[.val (.ref a1), .val (.ref a2), .val (.int (0 : Int32)), .val (.int (4 : Int32)), .val .null, .unset] [(.int ccs)]))
  refine Go.via (fun _ => XS.ifNo X2.here hx rfl (hb hby d2_30) rfl ((if0 _ _).trans (feq hcs).1)) ?_
  show Go p e below _ (T2.setTop (mkF m 33 #[.val (.ref a1), .val (.ref a2), .val (.int (0 : Int32)), .val (.int (4 : Int32)), .val .null, .unset] []))
  refine Go.via (fun _ => XS.aloadN X2.here hx rfl (hb hby d2_33) rfl rfl) ?_
  show Go p e below _ (T2.setTop (mkF m 34 #[.val (.ref a1), .val (.ref a2), .val (.int (0 : Int32)), .val (.int (4 : Int32)), .val .null, .unset] [(.ref a2)]))
  refine Go.via (fun _ => XS.iloadN X2.here hx rfl (hb hby d2_34) rfl) ?_
  show Go p e below _ (T2.setTop (mkF m 35 #[.val (.ref a1), .val (.ref a2), .val (.int (0 : Int32)), .val (.int (4 : Int32)), .val .null, .unset] [(.int (0 : Int32)), (.ref a2)]))
  refine Go.via (fun _ => XS.iloadN X2.here hx rfl (hb hby d2_35) rfl) ?_
  show Go p e below _ (T2.setTop (mkF m 36 #[.val (.ref a1), .val (.ref a2), .val (.int (0 : Int32)), .val (.int (4 : Int32)), .val .null, .unset] [(.int (4 : Int32)), (.int (0 : Int32)), (.ref a2)]))
  obtain ⟨_, _, ⟨T3, L3, k3, n3⟩, -, X3, ⟨Lc3, hQ3, l3, y3, z3⟩, st3⟩ := Jvm.LawKit.callS X2 hx (y := (⟨"java/lang/StringUTF16", "compress", "([CII)[B"⟩ : MethodName)) hown (mvT hZ (hw _ (List.mem_of_getElem? (i := 18) rfl))) (mvT hZ (hw _ (List.mem_of_getElem? (i := 19) rfl))) (mvT hZ (hw _ (List.mem_of_getElem? (i := 20) rfl))) (mvT hZ (hw _ (List.mem_of_getElem? (i := 21) rfl))) (by decide) (backOf (W := 0) (rmC1_4 l Z a0 hw [] a2 kc1 c0 c1 c2 c3 h0 n0 Z0 V1 hl0 hl1 hl2 hl3) hZ (hw _ (List.mem_of_getElem? (i := 21) rfl)) (hw _ (List.mem_of_getElem? (i := 20) rfl)) (by decide) (by decide)) (g := (mkF m 36 #[.val (.ref a1), .val (.ref a2), .val (.int (0 : Int32)), .val (.int (4 : Int32)), .val .null, .unset] [(.int (4 : Int32)), (.int (0 : Int32)), (.ref a2)])) rfl (by rw [hml]; rfl) (argsL := [(.ref a2), (.int (0 : Int32)), (.int (4 : Int32))]) (rest := []) (lenOf pd_7 rfl) rfl (by show 2 * 0 + _ ≤ _; exact Nat.le_of_eq rfl) (hb hby d2_36) (fun _ _ => ⟨rfl, e2, (by decide : 0 + 1 ≤ _), (by decide : 0 + 4 ≤ _)⟩)
  dsimp only [Pt.U, Pt.locs, Pt.cells, Pt.slots] at X3 l3 y3 z3 st3 hQ3
  subst l3 y3 z3
  obtain ⟨t3, kb3, rfl, N3q, K3q, gt3, va3⟩ := hQ3
  have N3 := Fr.app N0 N3q
  refine Go.via st3 ?_
  have Zs3 : n0 ≤ T3.heap.size := Nat.le_trans Z0 K3q.1
  have O3 : Old Z n0 T3.heap := O0.keep K3q all0
  have K3 : Keep h0 T3.heap [a1] := (Keep.refl h0 [a1]).trans K3q all0
  have fE_a1_3 := E1.keep K3q
  have fF_a1_value_3 := F1.keep K3q nin0
  have fF_a1_coder_3 := F2.keep K3q nin0
  have fV_a2_3 := V1.keep K3q nin0
  have g_t3 : n0 ≤ t3 := Nat.le_trans Z0 gt3
  have ne_a1_t3 : a1 ≠ t3 := Nat.ne_of_lt (Nat.lt_of_lt_of_le E1.lt gt3)
  have ne_a2_t3 : a2 ≠ t3 := Nat.ne_of_lt (Nat.lt_of_lt_of_le V1.lt gt3)
  have sz_t3 : h0.size ≤ t3 := Nat.le_trans (Keep.refl h0 [a1]).1 gt3
  show Go p e below _ (T3.setTop (mkF m 39 #[.val (.ref a1), .val (.ref a2), .val (.int (0 : Int32)), .val (.int (4 : Int32)), .val .null, .unset] [(.ref t3)]))
  refine Go.via (fun _ => XS.astore X3.here hx rfl (hb hby d2_39) rfl rfl (l' := #[.val (.ref a1), .val (.ref a2), .val (.int (0 : Int32)), .val (.int (4 : Int32)), .val .null, .val (.ref t3)]) rfl) ?_
  show Go p e below _ (T3.setTop (mkF m 41 #[.val (.ref a1), .val (.ref a2), .val (.int (0 : Int32)), .val (.int (4 : Int32)), .val .null, .val (.ref t3)] []))
  refine Go.via (fun _ => XS.aloadN X3.here hx rfl (hb hby d2_41) rfl rfl) ?_
  show Go p e below _ (T3.setTop (mkF m 42 #[.val (.ref a1), .val (.ref a2), .val (.int (0 : Int32)), .val (.int (4 : Int32)), .val .null, .val (.ref t3)] [(.ref a1)]))
  refine Go.via (fun _ => XS.aload X3.here hx rfl (hb hby d2_42) rfl rfl) ?_
  show Go p e below _ (T3.setTop (mkF m 44 #[.val (.ref a1), .val (.ref a2), .val (.int (0 : Int32)), .val (.int (4 : Int32)), .val .null, .val (.ref t3)] [(.ref t3), (.ref a1)]))
  refine Go.via (fun _ => XS.iloadN X3.here hx rfl (hb hby d2_44) rfl) ?_
  show Go p e below _ (T3.setTop (mkF m 45 #[.val (.ref a1), .val (.ref a2), .val (.int (0 : Int32)), .val (.int (4 : Int32)), .val .null, .val (.ref t3)] [(.int (4 : Int32)), (.ref t3), (.ref a1)]))
  obtain ⟨_, _, ⟨T4, L4, k4, n4⟩, -, X4, ⟨Lc4, hQ4, l4, y4, z4⟩, st4⟩ := Jvm.LawKit.callS X3 hx (y := (⟨"java/lang/StringUTF16", "coderFromArrayLen", "([BI)B"⟩ : MethodName)) hown (mvT hZ (hw _ (List.mem_of_getElem? (i := 26) rfl))) (mvT hZ (hw _ (List.mem_of_getElem? (i := 27) rfl))) (mvT hZ (hw _ (List.mem_of_getElem? (i := 20) rfl))) (mvT hZ (hw _ (List.mem_of_getElem? (i := 28) rfl))) (by decide) (backOf (W := 1) (rmCL_4_4 l Z a0 hw [] t3 kb3 _ T3.heap n0 Zs3 va3) hZ (hw _ (List.mem_of_getElem? (i := 28) rfl)) (hw _ (List.mem_of_getElem? (i := 20) rfl)) (by decide) (by decide)) (g := (mkF m 45 #[.val (.ref a1), .val (.ref a2), .val (.int (0 : Int32)), .val (.int (4 : Int32)), .val .null, .val (.ref t3)] [(.int (4 : Int32)), (.ref t3), (.ref a1)])) rfl (by rw [hml]; rfl) (argsL := [(.ref t3), (.int (4 : Int32))]) (rest := [(.ref a1)]) (lenOf pd_8 rfl) rfl (by show 2 * 0 + _ ≤ _; exact Nat.le_of_eq rfl) (hb hby d2_45) (fun _ _ => ⟨rfl, rfl, (by decide : 1 + 0 ≤ _), (by decide : 4 + 0 ≤ _)⟩)
  dsimp only [Pt.U, Pt.locs, Pt.cells, Pt.slots] at X4 l4 y4 z4 st4 hQ4
  subst l4 y4 z4
  obtain ⟨rfl, N4q, e4q⟩ := hQ4
  have N4 := Fr.app N3 N4q
  refine Go.via st4 ?_
  show Go p e below _ (T4.setTop (mkF m 48 #[.val (.ref a1), .val (.ref a2), .val (.int (0 : Int32)), .val (.int (4 : Int32)), .val .null, .val (.ref t3)] [(.int (0 : Int32)), (.ref a1)]))
  obtain ⟨T5, h5, X5, e5, W5, st5⟩ := putFN X4 hx hZ hown (hw _ (List.mem_of_getElem? (i := 29) rfl)) Via.refl e4q fF_a1_coder_3 fE_a1_3 (Or.inr ⟨(hw _ (List.mem_of_getElem? (i := 30) rfl)), rfl, hnm⟩) (hw _ (List.mem_of_getElem? (i := 4) rfl)) (ty := .byte) (v' := .int (nar .byte (0 : Int32))) (by decide) rfl (fits_nar_byte _) (g := (mkF m 48 #[.val (.ref a1), .val (.ref a2), .val (.int (0 : Int32)), .val (.int (4 : Int32)), .val .null, .val (.ref t3)] [(.int (0 : Int32)), (.ref a1)])) rfl rfl (hb hby d2_48)
  refine Go.via st5 ?_
  have fF_a1_coder_5 : Fld Z h5 a1 "java/lang/String" "coder" "B" (.int (0 : Int32)) := fF_a1_coder_3.same W5
  have Zs5 : n0 ≤ h5.size := Nat.le_trans Zs3 (Keep.of_wr W5).1
  have O5 : Old Z n0 h5 := O3.wr W5 g1
  have K5 : Keep h0 h5 [a1] := K3.wr W5 (Or.inl (List.mem_of_getElem? (i := 0) rfl))
  have N5 := Fr.snoc X5 N4 g1
  have fE_a1_5 := fE_a1_3.wr W5
  have fF_a1_value_5 := fF_a1_value_3.other W5 (Or.inr (slot_ne (Or.inr (hw _ (List.mem_of_getElem? (i := 32) rfl))) (Or.inr (hw _ (List.mem_of_getElem? (i := 30) rfl))) (by decide) (t := (.array .byte)) (t' := .byte) (by decide) (by decide)))
  have fV_a2_5 := fV_a2_3.other W5 (Ne.symm ne1)
  have fV_t3_5 := va3.other W5 (Ne.symm ne_a1_t3)
  show Go p e below _ (T5.setTop (mkF m 51 #[.val (.ref a1), .val (.ref a2), .val (.int (0 : Int32)), .val (.int (4 : Int32)), .val .null, .val (.ref t3)] []))
  refine Go.via (fun _ => XS.aloadN X5.here hx rfl (hb hby d2_51) rfl rfl) ?_
  show Go p e below _ (T5.setTop (mkF m 52 #[.val (.ref a1), .val (.ref a2), .val (.int (0 : Int32)), .val (.int (4 : Int32)), .val .null, .val (.ref t3)] [(.ref a1)]))
  refine Go.via (fun _ => XS.aload X5.here hx rfl (hb hby d2_52) rfl rfl) ?_
  show Go p e below _ (T5.setTop (mkF m 54 #[.val (.ref a1), .val (.ref a2), .val (.int (0 : Int32)), .val (.int (4 : Int32)), .val .null, .val (.ref t3)] [(.ref t3), (.ref a1)]))
  obtain ⟨T6, h6, X6, e6, W6, st6⟩ := putF X5 hx hZ hown (host := "") (Or.inl (hw _ (List.mem_of_getElem? (i := 31) rfl))) Via.refl e5 fF_a1_value_5 fE_a1_5 (Or.inr ⟨(hw _ (List.mem_of_getElem? (i := 32) rfl)), rfl, hnm⟩) (hw _ (List.mem_of_getElem? (i := 4) rfl)) (ty := (.array .byte)) (by decide) rfl rfl (g := (mkF m 54 #[.val (.ref a1), .val (.ref a2), .val (.int (0 : Int32)), .val (.int (4 : Int32)), .val .null, .val (.ref t3)] [(.ref t3), (.ref a1)])) rfl rfl (hb hby d2_54)
  refine Go.via st6 ?_
  have fF_a1_value_6 : Fld Z h6 a1 "java/lang/String" "value" "[B" (.ref t3) := fF_a1_value_5.same W6
  have Zs6 : n0 ≤ h6.size := Nat.le_trans Zs5 (Keep.of_wr W6).1
  have O6 : Old Z n0 h6 := O5.wr W6 g1
  have K6 : Keep h0 h6 [a1] := K5.wr W6 (Or.inl (List.mem_of_getElem? (i := 0) rfl))
  have N6 := Fr.snoc X6 N5 g1
  have fE_a1_6 := fE_a1_5.wr W6
  have fF_a1_coder_6 := fF_a1_coder_5.other W6 (Or.inr (slot_ne (Or.inr (hw _ (List.mem_of_getElem? (i := 30) rfl))) (Or.inr (hw _ (List.mem_of_getElem? (i := 32) rfl))) (by decide) (t := .byte) (t' := (.array .byte)) (by decide) (by decide)))
  have fV_a2_6 := fV_a2_5.other W6 (Ne.symm ne1)
  have fV_t3_6 := fV_t3_5.other W6 (Ne.symm ne_a1_t3)
  show Go p e below _ (T6.setTop (mkF m 57 #[.val (.ref a1), .val (.ref a2), .val (.int (0 : Int32)), .val (.int (4 : Int32)), .val .null, .val (.ref t3)] []))
  exact own_retV X6 hx hlk Bd.returns (hb hby d2_57) (by show QI4_4 Z a1 a2 kc1 c0 c1 c2 c3 ccs h0 n0 _ T6.heap _; rw [e6]; exact ⟨rfl, N6, K6, t3, kb3, sz_t3, fF_a1_value_6, fF_a1_coder_6, fV_t3_6⟩) (by decide) (by decide)
theorem ef_rmI1_4 (m : MethodId) (x0 : Addr) (x1 : Addr) : entryFrame m #[(.ref x0), (.ref x1)] 2 = mkF m 0 #[.val (.ref x0), .val (.ref x1)] [] := by first | (simp [entryFrame, mkF, argsToLocals, Value.category]; done) | rfl
def QI1_4 (Z : State) (a1 : Addr) (a2 : Addr) (kc1 : ClassId) (c0 : Int32) (c1 : Int32) (c2 : Int32) (c3 : Int32) (ccs : Int32) (h0 : Heap) (n0 : Nat) (v : Option Value) (h : Heap) (L : List Loc) : Prop := v = none ∧ Fr n0 L ∧ Keep h0 h [a1] ∧ ∃ (t : Addr) (kb : ClassId), h0.size ≤ t ∧ Fld Z h a1 "java/lang/String" "value" "[B" (.ref t) ∧ Fld Z h a1 "java/lang/String" "coder" "B" (.int (0 : Int32)) ∧ Arv Z h t kb .byte (4 : Int32) [(.int (nar .byte (c0.toInt8.toInt32))), (.int (nar .byte (c1.toInt8.toInt32))), (.int (nar .byte (c2.toInt8.toInt32))), (.int (nar .byte (c3.toInt8.toInt32)))] (.int (0 : Int32))
set_option maxRecDepth 65536 in
set_option maxHeartbeats 40000000 in
theorem rmI1_4 (l : Launch) (Z : State) (a0 : Array Value) (hw : ∀ d ∈ tables_1, d.before a0 Z = true) (ws : List Jvm.Cond) (a1 : Addr) (a2 : Addr) (kc1 : ClassId) (c0 : Int32) (c1 : Int32) (c2 : Int32) (c3 : Int32) (ccs : Int32) (h0 : Heap) (n0 : Nat) (Z0 : n0 ≤ h0.size) (E1 : Exa Z h0 a1 "java/lang/String") (F1 : Fld Z h0 a1 "java/lang/String" "value" "[B" .null) (F2 : Fld Z h0 a1 "java/lang/String" "coder" "B" (.int (0 : Int32))) (g1 : n0 ≤ a1) (ne1 : a1 ≠ a2) (V1 : Arv Z h0 a2 kc1 .char (4 : Int32) [(.int c0), (.int c1), (.int c2), (.int c3)] (.int (0 : Int32))) (hl0 : ¬ ((255 : Int32) < c0)) (hl1 : ¬ ((255 : Int32) < c1)) (hl2 : ¬ ((255 : Int32) < c2)) (hl3 : ¬ ((255 : Int32) < c3)) (O0 : Old Z n0 h0) (S_CS : Sta Z Z.heap "java/lang/String" "COMPACT_STRINGS" "Z" (.int ccs)) (hcs : ¬ (ccs = (0 : Int32))) :
    MetFree l (⟨"java/lang/String", "<init>", "([C)V"⟩ : MethodName) (head1 (Jvm.Cond.code (⟨"java/lang/String", "<init>", "([C)V"⟩ : MethodName) jdk_42_method_3_code 2 none :: ws) ({ frames := 3, cells := 1, slots := 4, locals := 52 } : Room)) (fun a U => a = #[(.ref a1), (.ref a2)] ∧ Z.Warmed39 U.vm ∧ U.heap = h0) (fun _ _ _ _ _ => True) (fun _ U o U' => ∃ v L, o = .returned v ∧ QI1_4 Z a1 a2 kc1 c0 c1 c2 c3 ccs h0 n0 v U'.heap L ∧ FrameEnd U o U' L ({ frames := 3, cells := 1, slots := 4, locals := 52 } : Room).cells ({ frames := 3, cells := 1, slots := 4, locals := 52 } : Room).slots) := by
  refine MetFree.of_bodySF (plainFor_of_name pn_java_lang_String) hisR ?_
  intro p e s m args below meth c s₁ Bd hml0 hP hK
  obtain ⟨rfl, hZ, hh⟩ := hP
  have hx := Bd.exec
  have hby := Bd.bytes
  have hlk : meth.locks = false := Bd.notSynchronized
  have hml : c.maxLocals = 2 := hml0
  have hown : s.vm.findClass "java/lang/String" = some m.cls := findClass_of_methodNamed Bd.named
  have hnm := (name_of_methodNamed Bd.named Bd.method).1
  have X0 : Stand p l e ({ frames := 3, cells := 1, slots := 4, locals := 52 } : Room) s m #[(.ref a1), (.ref a2)] below meth c s₁ [] 0 0 := Stand.of_body Bd
  have e0 : s₁.heap = h0 := by rw [← hh, Bd.state]; rfl
  have N0 := Fr.nil n0
  show Go p e below (FinE s below (QI1_4 Z a1 a2 kc1 c0 c1 c2 c3 ccs h0 n0) ({ frames := 3, cells := 1, slots := 4, locals := 52 } : Room).cells ({ frames := 3, cells := 1, slots := 4, locals := 52 } : Room).slots) (s₁.setTop (entryFrame m #[(.ref a1), (.ref a2)] 2))
  refine Go.via (fun t k => castTop (ef_rmI1_4 m a1 a2) k) ?_
  show Go p e below _ (s₁.setTop (mkF m 0 #[.val (.ref a1), .val (.ref a2)] []))
  refine Go.via (fun _ => XS.aloadN X0.here hx rfl (hb hby d1_0) rfl rfl) ?_
  show Go p e below _ (s₁.setTop (mkF m 1 #[.val (.ref a1), .val (.ref a2)] [(.ref a1)]))
  refine Go.via (fun _ => XS.aloadN X0.here hx rfl (hb hby d1_1) rfl rfl) ?_
  show Go p e below _ (s₁.setTop (mkF m 2 #[.val (.ref a1), .val (.ref a2)] [(.ref a2), (.ref a1)]))
  refine Go.via (fun _ => XS.iconst X0.here hx rfl (hb hby d1_2)) ?_
  show Go p e below _ (s₁.setTop (mkF m 3 #[.val (.ref a1), .val (.ref a2)] [(.int (0 : Int32)), (.ref a2), (.ref a1)]))
  refine Go.via (fun _ => XS.aloadN X0.here hx rfl (hb hby d1_3) rfl rfl) ?_
  show Go p e below _ (s₁.setTop (mkF m 4 #[.val (.ref a1), .val (.ref a2)] [(.ref a2), (.int (0 : Int32)), (.ref a2), (.ref a1)]))
  obtain ⟨cl1, Ar1, -, S1, N1n, -, -⟩ := id V1
  have al1 := X0.arraylength hx (by rw [e0]; exact Ar1.1) (State.isArrayOf_alike hZ.alike Ar1.2.1) (g := (mkF m 4 #[.val (.ref a1), .val (.ref a2)] [(.ref a2), (.int (0 : Int32)), (.ref a2), (.ref a1)])) rfl rfl (hb hby d1_4)
  rw [len_of S1 N1n] at al1
  refine Go.via al1 ?_
  show Go p e below _ (s₁.setTop (mkF m 5 #[.val (.ref a1), .val (.ref a2)] [(.int (4 : Int32)), (.int (0 : Int32)), (.ref a2), (.ref a1)]))
  refine Go.via (fun _ => XS.aconstNull X0.here hx rfl (hb hby d1_5)) ?_
  show Go p e below _ (s₁.setTop (mkF m 6 #[.val (.ref a1), .val (.ref a2)] [.null, (.int (4 : Int32)), (.int (0 : Int32)), (.ref a2), (.ref a1)]))
  obtain ⟨_, _, ⟨T2, L2, k2, n2⟩, -, X2, ⟨Lc2, hQ2, l2, y2, z2⟩, st2⟩ := X0.specialBack hx (y := (⟨"java/lang/String", "<init>", "([CIILjava/lang/Void;)V"⟩ : MethodName)) rfl hown (mvT hZ (hw _ (List.mem_of_getElem? (i := 10) rfl))) (mvT hZ (hw _ (List.mem_of_getElem? (i := 11) rfl))) (mvT hZ (hw _ (List.mem_of_getElem? (i := 13) rfl))) (by decide) (backOf (W := 0) (rmI4_4 l Z a0 hw [] a1 a2 kc1 c0 c1 c2 c3 ccs h0 n0 Z0 E1 F1 F2 g1 ne1 V1 hl0 hl1 hl2 hl3 O0 S_CS hcs) hZ (hw _ (List.mem_of_getElem? (i := 13) rfl)) (hw _ (List.mem_of_getElem? (i := 5) rfl)) (by decide) (by decide)) (g := (mkF m 6 #[.val (.ref a1), .val (.ref a2)] [.null, (.int (4 : Int32)), (.int (0 : Int32)), (.ref a2), (.ref a1)])) rfl (by rw [hml]; rfl) (Steps.refl _) (a := a1) (argsL := [(.ref a2), (.int (0 : Int32)), (.int (4 : Int32)), .null]) (rest := []) (lenOf pd_9 rfl) rfl (by show 2 * 0 + _ ≤ _; exact Nat.le_of_eq rfl) (hb hby d1_6) (fun _ _ => ⟨rfl, e0, (by decide : 0 + 1 ≤ _), (by decide : 0 + 4 ≤ _)⟩)
  dsimp only [Pt.U, Pt.locs, Pt.cells, Pt.slots] at X2 l2 y2 z2 st2 hQ2
  subst l2 y2 z2
  obtain ⟨rfl, N2q, K2q, t2, kb2, gt2, fv2, fc2, va2⟩ := hQ2
  have N2 := Fr.app N0 N2q
  refine Go.tr st2 ?_
  have Zs2 : n0 ≤ T2.heap.size := Nat.le_trans Z0 K2q.1
  have O2 : Old Z n0 T2.heap := O0.keep K2q (allS g1 all0)
  have fE_a1_2 := E1.keep K2q
  have fV_a2_2 := V1.keep K2q (ninS (Ne.symm ne1) nin0)
  show Go p e below _ (T2.setTop (mkF m 9 #[.val (.ref a1), .val (.ref a2)] []))
  exact own_retV X2 hx hlk Bd.returns (hb hby d1_9) (by show QI1_4 Z a1 a2 kc1 c0 c1 c2 c3 ccs h0 n0 _ T2.heap _; exact ⟨rfl, N2, K2q, t2, kb2, gt2, fv2, fc2, va2⟩) (by decide) (by decide)
theorem ef_rm0 (m : MethodId) (x0 : Int32) (x1 : Int32) (x2 : Int32) (x3 : Int32) (x4 : Int32) : entryFrame m #[(.int x0), (.int x1), (.int x2), (.int x3), (.int x4)] maxLocals = mkF m 0 #[.val (.int x0), .val (.int x1), .val (.int x2), .val (.int x3), .val (.int x4), .unset, .unset, .unset, .unset, .unset, .unset, .unset, .unset, .unset, .unset, .unset] [] := by first | (simp [entryFrame, mkF, argsToLocals, Value.category, maxLocals]; done) | rfl
def Q0 (Z : State) (p1 : Int32) (p2 : Int32) (p3 : Int32) (p4 : Int32) (p5 : Int32) (ccs : Int32) (h0 : Heap) (n0 : Nat) (v : Option Value) (h : Heap) (L : List Loc) : Prop := v = some (.int 1) ∧ Fr n0 L
set_option maxRecDepth 65536 in
set_option maxHeartbeats 40000000 in
theorem rm0 (l : Launch) (Z : State) (a0 : Array Value) (hw : ∀ d ∈ tables_1, d.before a0 Z = true) (ws : List Jvm.Cond) (p1 : Int32) (p2 : Int32) (p3 : Int32) (p4 : Int32) (p5 : Int32) (ccs : Int32) (h0 : Heap) (n0 : Nat) (Z0 : n0 ≤ h0.size) (O0 : Old Z n0 h0) (S_CS : Sta Z Z.heap "java/lang/String" "COMPACT_STRINGS" "Z" (.int ccs)) (hcs : ¬ (ccs = (0 : Int32))) :
    MetFree l x (head1 (Jvm.Cond.code x code maxLocals ret :: ws) room_1) (fun a U => a = #[(.int p1), (.int p2), (.int p3), (.int p4), (.int p5)] ∧ Z.Warmed39 U.vm ∧ U.heap = h0) (fun _ _ _ _ _ => True) (fun _ U o U' => ∃ v L, o = .returned v ∧ Q0 Z p1 p2 p3 p4 p5 ccs h0 n0 v U'.heap L ∧ FrameEnd U o U' L room_1.cells room_1.slots) := by
  refine MetFree.of_bodySF (plainFor_of_name pn_com_example_dogwood_dogwood_model_yaml_OccurrencesFromPinLaw) hisR ?_
  intro p e s m args below meth c s₁ Bd hml0 hP hK
  obtain ⟨rfl, hZ, hh⟩ := hP
  have hx := Bd.exec
  have hby := Bd.bytes
  have hlk : meth.locks = false := Bd.notSynchronized
  have hml : c.maxLocals = 16 := hml0
  have hown : s.vm.findClass "com/example/dogwood/dogwood/model/yaml/OccurrencesFromPinLaw" = some m.cls := findClass_of_methodNamed Bd.named
  have hnm := (name_of_methodNamed Bd.named Bd.method).1
  have X0 : Stand p l e room_1 s m #[(.int p1), (.int p2), (.int p3), (.int p4), (.int p5)] below meth c s₁ [] 0 0 := Stand.of_body Bd
  have e0 : s₁.heap = h0 := by rw [← hh, Bd.state]; rfl
  have N0 := Fr.nil n0
  show Go p e below (FinE s below (Q0 Z p1 p2 p3 p4 p5 ccs h0 n0) room_1.cells room_1.slots) (s₁.setTop (entryFrame m #[(.int p1), (.int p2), (.int p3), (.int p4), (.int p5)] maxLocals))
  refine Go.via (fun t k => castTop (ef_rm0 m p1 p2 p3 p4 p5) k) ?_
  show Go p e below _ (s₁.setTop (mkF m 0 #[.val (.int p1), .val (.int p2), .val (.int p3), .val (.int p4), .val (.int p5), .unset, .unset, .unset, .unset, .unset, .unset, .unset, .unset, .unset, .unset, .unset] []))
  refine Go.via (fun _ => XS.bipush X0.here hx rfl (hb hby at_0)) ?_
  show Go p e below _ (s₁.setTop (mkF m 2 #[.val (.int p1), .val (.int p2), .val (.int p3), .val (.int p4), .val (.int p5), .unset, .unset, .unset, .unset, .unset, .unset, .unset, .unset, .unset, .unset, .unset] [(.int (97 : Int32))]))
  refine Go.via (fun _ => XS.iloadN X0.here hx rfl (hb hby at_2) rfl) ?_
  show Go p e below _ (s₁.setTop (mkF m 3 #[.val (.int p1), .val (.int p2), .val (.int p3), .val (.int p4), .val (.int p5), .unset, .unset, .unset, .unset, .unset, .unset, .unset, .unset, .unset, .unset, .unset] [(.int p1), (.int (97 : Int32))]))
  refine Go.via (fun _ => XS.iconst X0.here hx rfl (hb hby at_3)) ?_
  show Go p e below _ (s₁.setTop (mkF m 4 #[.val (.int p1), .val (.int p2), .val (.int p3), .val (.int p4), .val (.int p5), .unset, .unset, .unset, .unset, .unset, .unset, .unset, .unset, .unset, .unset, .unset] [(.int (3 : Int32)), (.int p1), (.int (97 : Int32))]))
  refine Go.via (fun _ => XS.iand X0.here hx rfl (hb hby at_4) rfl) ?_
  show Go p e below _ (s₁.setTop (mkF m 5 #[.val (.int p1), .val (.int p2), .val (.int p3), .val (.int p4), .val (.int p5), .unset, .unset, .unset, .unset, .unset, .unset, .unset, .unset, .unset, .unset, .unset] [(.int (p1 &&& (3 : Int32))), (.int (97 : Int32))]))
  refine Go.via (fun _ => XS.iadd X0.here hx rfl (hb hby at_5) rfl) ?_
  show Go p e below _ (s₁.setTop (mkF m 6 #[.val (.int p1), .val (.int p2), .val (.int p3), .val (.int p4), .val (.int p5), .unset, .unset, .unset, .unset, .unset, .unset, .unset, .unset, .unset, .unset, .unset] [(.int ((97 : Int32) + (p1 &&& (3 : Int32))))]))
  refine Go.via (fun _ => XS.i2c X0.here hx rfl (hb hby at_6) rfl) ?_
  show Go p e below _ (s₁.setTop (mkF m 7 #[.val (.int p1), .val (.int p2), .val (.int p3), .val (.int p4), .val (.int p5), .unset, .unset, .unset, .unset, .unset, .unset, .unset, .unset, .unset, .unset, .unset] [(.int (((97 : Int32) + (p1 &&& (3 : Int32))).toUInt32.toUInt16.toUInt32.toInt32))]))
  have r_s0 := own_ch p1
  generalize hs0 : (((97 : Int32) + (p1 &&& (3 : Int32))).toUInt32.toUInt16.toUInt32.toInt32) = s0 at r_s0 ⊢
  show Go p e below _ (s₁.setTop (mkF m 7 #[.val (.int p1), .val (.int p2), .val (.int p3), .val (.int p4), .val (.int p5), .unset, .unset, .unset, .unset, .unset, .unset, .unset, .unset, .unset, .unset, .unset] [(.int s0)]))
  refine Go.via (fun _ => XS.istore X0.here hx rfl (hb hby at_7) rfl (l' := #[.val (.int p1), .val (.int p2), .val (.int p3), .val (.int p4), .val (.int p5), .val (.int s0), .unset, .unset, .unset, .unset, .unset, .unset, .unset, .unset, .unset, .unset]) rfl) ?_
  show Go p e below _ (s₁.setTop (mkF m 9 #[.val (.int p1), .val (.int p2), .val (.int p3), .val (.int p4), .val (.int p5), .val (.int s0), .unset, .unset, .unset, .unset, .unset, .unset, .unset, .unset, .unset, .unset] []))
  refine Go.via (fun _ => XS.bipush X0.here hx rfl (hb hby at_9)) ?_
  show Go p e below _ (s₁.setTop (mkF m 11 #[.val (.int p1), .val (.int p2), .val (.int p3), .val (.int p4), .val (.int p5), .val (.int s0), .unset, .unset, .unset, .unset, .unset, .unset, .unset, .unset, .unset, .unset] [(.int (97 : Int32))]))
  refine Go.via (fun _ => XS.iloadN X0.here hx rfl (hb hby at_11) rfl) ?_
  show Go p e below _ (s₁.setTop (mkF m 12 #[.val (.int p1), .val (.int p2), .val (.int p3), .val (.int p4), .val (.int p5), .val (.int s0), .unset, .unset, .unset, .unset, .unset, .unset, .unset, .unset, .unset, .unset] [(.int p1), (.int (97 : Int32))]))
  refine Go.via (fun _ => XS.iconst X0.here hx rfl (hb hby at_12)) ?_
  show Go p e below _ (s₁.setTop (mkF m 13 #[.val (.int p1), .val (.int p2), .val (.int p3), .val (.int p4), .val (.int p5), .val (.int s0), .unset, .unset, .unset, .unset, .unset, .unset, .unset, .unset, .unset, .unset] [(.int (2 : Int32)), (.int p1), (.int (97 : Int32))]))
  refine Go.via (fun _ => XS.iushr X0.here hx rfl (hb hby at_13) rfl) ?_
  show Go p e below _ (s₁.setTop (mkF m 14 #[.val (.int p1), .val (.int p2), .val (.int p3), .val (.int p4), .val (.int p5), .val (.int s0), .unset, .unset, .unset, .unset, .unset, .unset, .unset, .unset, .unset, .unset] [(.int ((p1.toUInt32 >>> ((2 : Int32) &&& 31).toUInt32).toInt32)), (.int (97 : Int32))]))
  refine Go.via (fun _ => XS.iconst X0.here hx rfl (hb hby at_14)) ?_
  show Go p e below _ (s₁.setTop (mkF m 15 #[.val (.int p1), .val (.int p2), .val (.int p3), .val (.int p4), .val (.int p5), .val (.int s0), .unset, .unset, .unset, .unset, .unset, .unset, .unset, .unset, .unset, .unset] [(.int (3 : Int32)), (.int ((p1.toUInt32 >>> ((2 : Int32) &&& 31).toUInt32).toInt32)), (.int (97 : Int32))]))
  refine Go.via (fun _ => XS.iand X0.here hx rfl (hb hby at_15) rfl) ?_
  show Go p e below _ (s₁.setTop (mkF m 16 #[.val (.int p1), .val (.int p2), .val (.int p3), .val (.int p4), .val (.int p5), .val (.int s0), .unset, .unset, .unset, .unset, .unset, .unset, .unset, .unset, .unset, .unset] [(.int (((p1.toUInt32 >>> ((2 : Int32) &&& 31).toUInt32).toInt32) &&& (3 : Int32))), (.int (97 : Int32))]))
  refine Go.via (fun _ => XS.iadd X0.here hx rfl (hb hby at_16) rfl) ?_
  show Go p e below _ (s₁.setTop (mkF m 17 #[.val (.int p1), .val (.int p2), .val (.int p3), .val (.int p4), .val (.int p5), .val (.int s0), .unset, .unset, .unset, .unset, .unset, .unset, .unset, .unset, .unset, .unset] [(.int ((97 : Int32) + (((p1.toUInt32 >>> ((2 : Int32) &&& 31).toUInt32).toInt32) &&& (3 : Int32))))]))
  refine Go.via (fun _ => XS.i2c X0.here hx rfl (hb hby at_17) rfl) ?_
  show Go p e below _ (s₁.setTop (mkF m 18 #[.val (.int p1), .val (.int p2), .val (.int p3), .val (.int p4), .val (.int p5), .val (.int s0), .unset, .unset, .unset, .unset, .unset, .unset, .unset, .unset, .unset, .unset] [(.int (((97 : Int32) + (((p1.toUInt32 >>> ((2 : Int32) &&& 31).toUInt32).toInt32) &&& (3 : Int32))).toUInt32.toUInt16.toUInt32.toInt32))]))
  have r_s1 := own_ch ((p1.toUInt32 >>> ((2 : Int32) &&& 31).toUInt32).toInt32)
  generalize hs1 : (((97 : Int32) + (((p1.toUInt32 >>> ((2 : Int32) &&& 31).toUInt32).toInt32) &&& (3 : Int32))).toUInt32.toUInt16.toUInt32.toInt32) = s1 at r_s1 ⊢
  show Go p e below _ (s₁.setTop (mkF m 18 #[.val (.int p1), .val (.int p2), .val (.int p3), .val (.int p4), .val (.int p5), .val (.int s0), .unset, .unset, .unset, .unset, .unset, .unset, .unset, .unset, .unset, .unset] [(.int s1)]))
  refine Go.via (fun _ => XS.istore X0.here hx rfl (hb hby at_18) rfl (l' := #[.val (.int p1), .val (.int p2), .val (.int p3), .val (.int p4), .val (.int p5), .val (.int s0), .val (.int s1), .unset, .unset, .unset, .unset, .unset, .unset, .unset, .unset, .unset]) rfl) ?_
  show Go p e below _ (s₁.setTop (mkF m 20 #[.val (.int p1), .val (.int p2), .val (.int p3), .val (.int p4), .val (.int p5), .val (.int s0), .val (.int s1), .unset, .unset, .unset, .unset, .unset, .unset, .unset, .unset, .unset] []))
  refine Go.via (fun _ => XS.bipush X0.here hx rfl (hb hby at_20)) ?_
  show Go p e below _ (s₁.setTop (mkF m 22 #[.val (.int p1), .val (.int p2), .val (.int p3), .val (.int p4), .val (.int p5), .val (.int s0), .val (.int s1), .unset, .unset, .unset, .unset, .unset, .unset, .unset, .unset, .unset] [(.int (97 : Int32))]))
  refine Go.via (fun _ => XS.iloadN X0.here hx rfl (hb hby at_22) rfl) ?_
  show Go p e below _ (s₁.setTop (mkF m 23 #[.val (.int p1), .val (.int p2), .val (.int p3), .val (.int p4), .val (.int p5), .val (.int s0), .val (.int s1), .unset, .unset, .unset, .unset, .unset, .unset, .unset, .unset, .unset] [(.int p1), (.int (97 : Int32))]))
  refine Go.via (fun _ => XS.iconst X0.here hx rfl (hb hby at_23)) ?_
  show Go p e below _ (s₁.setTop (mkF m 24 #[.val (.int p1), .val (.int p2), .val (.int p3), .val (.int p4), .val (.int p5), .val (.int s0), .val (.int s1), .unset, .unset, .unset, .unset, .unset, .unset, .unset, .unset, .unset] [(.int (4 : Int32)), (.int p1), (.int (97 : Int32))]))
  refine Go.via (fun _ => XS.iushr X0.here hx rfl (hb hby at_24) rfl) ?_
  show Go p e below _ (s₁.setTop (mkF m 25 #[.val (.int p1), .val (.int p2), .val (.int p3), .val (.int p4), .val (.int p5), .val (.int s0), .val (.int s1), .unset, .unset, .unset, .unset, .unset, .unset, .unset, .unset, .unset] [(.int ((p1.toUInt32 >>> ((4 : Int32) &&& 31).toUInt32).toInt32)), (.int (97 : Int32))]))
  refine Go.via (fun _ => XS.iconst X0.here hx rfl (hb hby at_25)) ?_
  show Go p e below _ (s₁.setTop (mkF m 26 #[.val (.int p1), .val (.int p2), .val (.int p3), .val (.int p4), .val (.int p5), .val (.int s0), .val (.int s1), .unset, .unset, .unset, .unset, .unset, .unset, .unset, .unset, .unset] [(.int (3 : Int32)), (.int ((p1.toUInt32 >>> ((4 : Int32) &&& 31).toUInt32).toInt32)), (.int (97 : Int32))]))
  refine Go.via (fun _ => XS.iand X0.here hx rfl (hb hby at_26) rfl) ?_
  show Go p e below _ (s₁.setTop (mkF m 27 #[.val (.int p1), .val (.int p2), .val (.int p3), .val (.int p4), .val (.int p5), .val (.int s0), .val (.int s1), .unset, .unset, .unset, .unset, .unset, .unset, .unset, .unset, .unset] [(.int (((p1.toUInt32 >>> ((4 : Int32) &&& 31).toUInt32).toInt32) &&& (3 : Int32))), (.int (97 : Int32))]))
  refine Go.via (fun _ => XS.iadd X0.here hx rfl (hb hby at_27) rfl) ?_
  show Go p e below _ (s₁.setTop (mkF m 28 #[.val (.int p1), .val (.int p2), .val (.int p3), .val (.int p4), .val (.int p5), .val (.int s0), .val (.int s1), .unset, .unset, .unset, .unset, .unset, .unset, .unset, .unset, .unset] [(.int ((97 : Int32) + (((p1.toUInt32 >>> ((4 : Int32) &&& 31).toUInt32).toInt32) &&& (3 : Int32))))]))
  refine Go.via (fun _ => XS.i2c X0.here hx rfl (hb hby at_28) rfl) ?_
  show Go p e below _ (s₁.setTop (mkF m 29 #[.val (.int p1), .val (.int p2), .val (.int p3), .val (.int p4), .val (.int p5), .val (.int s0), .val (.int s1), .unset, .unset, .unset, .unset, .unset, .unset, .unset, .unset, .unset] [(.int (((97 : Int32) + (((p1.toUInt32 >>> ((4 : Int32) &&& 31).toUInt32).toInt32) &&& (3 : Int32))).toUInt32.toUInt16.toUInt32.toInt32))]))
  have r_s2 := own_ch ((p1.toUInt32 >>> ((4 : Int32) &&& 31).toUInt32).toInt32)
  generalize hs2 : (((97 : Int32) + (((p1.toUInt32 >>> ((4 : Int32) &&& 31).toUInt32).toInt32) &&& (3 : Int32))).toUInt32.toUInt16.toUInt32.toInt32) = s2 at r_s2 ⊢
  show Go p e below _ (s₁.setTop (mkF m 29 #[.val (.int p1), .val (.int p2), .val (.int p3), .val (.int p4), .val (.int p5), .val (.int s0), .val (.int s1), .unset, .unset, .unset, .unset, .unset, .unset, .unset, .unset, .unset] [(.int s2)]))
  refine Go.via (fun _ => XS.istore X0.here hx rfl (hb hby at_29) rfl (l' := #[.val (.int p1), .val (.int p2), .val (.int p3), .val (.int p4), .val (.int p5), .val (.int s0), .val (.int s1), .val (.int s2), .unset, .unset, .unset, .unset, .unset, .unset, .unset, .unset]) rfl) ?_
  show Go p e below _ (s₁.setTop (mkF m 31 #[.val (.int p1), .val (.int p2), .val (.int p3), .val (.int p4), .val (.int p5), .val (.int s0), .val (.int s1), .val (.int s2), .unset, .unset, .unset, .unset, .unset, .unset, .unset, .unset] []))
  refine Go.via (fun _ => XS.bipush X0.here hx rfl (hb hby at_31)) ?_
  show Go p e below _ (s₁.setTop (mkF m 33 #[.val (.int p1), .val (.int p2), .val (.int p3), .val (.int p4), .val (.int p5), .val (.int s0), .val (.int s1), .val (.int s2), .unset, .unset, .unset, .unset, .unset, .unset, .unset, .unset] [(.int (97 : Int32))]))
  refine Go.via (fun _ => XS.iloadN X0.here hx rfl (hb hby at_33) rfl) ?_
  show Go p e below _ (s₁.setTop (mkF m 34 #[.val (.int p1), .val (.int p2), .val (.int p3), .val (.int p4), .val (.int p5), .val (.int s0), .val (.int s1), .val (.int s2), .unset, .unset, .unset, .unset, .unset, .unset, .unset, .unset] [(.int p1), (.int (97 : Int32))]))
  refine Go.via (fun _ => XS.bipush X0.here hx rfl (hb hby at_34)) ?_
  show Go p e below _ (s₁.setTop (mkF m 36 #[.val (.int p1), .val (.int p2), .val (.int p3), .val (.int p4), .val (.int p5), .val (.int s0), .val (.int s1), .val (.int s2), .unset, .unset, .unset, .unset, .unset, .unset, .unset, .unset] [(.int (6 : Int32)), (.int p1), (.int (97 : Int32))]))
  refine Go.via (fun _ => XS.iushr X0.here hx rfl (hb hby at_36) rfl) ?_
  show Go p e below _ (s₁.setTop (mkF m 37 #[.val (.int p1), .val (.int p2), .val (.int p3), .val (.int p4), .val (.int p5), .val (.int s0), .val (.int s1), .val (.int s2), .unset, .unset, .unset, .unset, .unset, .unset, .unset, .unset] [(.int ((p1.toUInt32 >>> ((6 : Int32) &&& 31).toUInt32).toInt32)), (.int (97 : Int32))]))
  refine Go.via (fun _ => XS.iconst X0.here hx rfl (hb hby at_37)) ?_
  show Go p e below _ (s₁.setTop (mkF m 38 #[.val (.int p1), .val (.int p2), .val (.int p3), .val (.int p4), .val (.int p5), .val (.int s0), .val (.int s1), .val (.int s2), .unset, .unset, .unset, .unset, .unset, .unset, .unset, .unset] [(.int (3 : Int32)), (.int ((p1.toUInt32 >>> ((6 : Int32) &&& 31).toUInt32).toInt32)), (.int (97 : Int32))]))
  refine Go.via (fun _ => XS.iand X0.here hx rfl (hb hby at_38) rfl) ?_
  show Go p e below _ (s₁.setTop (mkF m 39 #[.val (.int p1), .val (.int p2), .val (.int p3), .val (.int p4), .val (.int p5), .val (.int s0), .val (.int s1), .val (.int s2), .unset, .unset, .unset, .unset, .unset, .unset, .unset, .unset] [(.int (((p1.toUInt32 >>> ((6 : Int32) &&& 31).toUInt32).toInt32) &&& (3 : Int32))), (.int (97 : Int32))]))
  refine Go.via (fun _ => XS.iadd X0.here hx rfl (hb hby at_39) rfl) ?_
  show Go p e below _ (s₁.setTop (mkF m 40 #[.val (.int p1), .val (.int p2), .val (.int p3), .val (.int p4), .val (.int p5), .val (.int s0), .val (.int s1), .val (.int s2), .unset, .unset, .unset, .unset, .unset, .unset, .unset, .unset] [(.int ((97 : Int32) + (((p1.toUInt32 >>> ((6 : Int32) &&& 31).toUInt32).toInt32) &&& (3 : Int32))))]))
  refine Go.via (fun _ => XS.i2c X0.here hx rfl (hb hby at_40) rfl) ?_
  show Go p e below _ (s₁.setTop (mkF m 41 #[.val (.int p1), .val (.int p2), .val (.int p3), .val (.int p4), .val (.int p5), .val (.int s0), .val (.int s1), .val (.int s2), .unset, .unset, .unset, .unset, .unset, .unset, .unset, .unset] [(.int (((97 : Int32) + (((p1.toUInt32 >>> ((6 : Int32) &&& 31).toUInt32).toInt32) &&& (3 : Int32))).toUInt32.toUInt16.toUInt32.toInt32))]))
  have r_s3 := own_ch ((p1.toUInt32 >>> ((6 : Int32) &&& 31).toUInt32).toInt32)
  generalize hs3 : (((97 : Int32) + (((p1.toUInt32 >>> ((6 : Int32) &&& 31).toUInt32).toInt32) &&& (3 : Int32))).toUInt32.toUInt16.toUInt32.toInt32) = s3 at r_s3 ⊢
  show Go p e below _ (s₁.setTop (mkF m 41 #[.val (.int p1), .val (.int p2), .val (.int p3), .val (.int p4), .val (.int p5), .val (.int s0), .val (.int s1), .val (.int s2), .unset, .unset, .unset, .unset, .unset, .unset, .unset, .unset] [(.int s3)]))
  refine Go.via (fun _ => XS.istore X0.here hx rfl (hb hby at_41) rfl (l' := #[.val (.int p1), .val (.int p2), .val (.int p3), .val (.int p4), .val (.int p5), .val (.int s0), .val (.int s1), .val (.int s2), .val (.int s3), .unset, .unset, .unset, .unset, .unset, .unset, .unset]) rfl) ?_
  show Go p e below _ (s₁.setTop (mkF m 43 #[.val (.int p1), .val (.int p2), .val (.int p3), .val (.int p4), .val (.int p5), .val (.int s0), .val (.int s1), .val (.int s2), .val (.int s3), .unset, .unset, .unset, .unset, .unset, .unset, .unset] []))
  refine Go.via (fun _ => XS.bipush X0.here hx rfl (hb hby at_43)) ?_
  show Go p e below _ (s₁.setTop (mkF m 45 #[.val (.int p1), .val (.int p2), .val (.int p3), .val (.int p4), .val (.int p5), .val (.int s0), .val (.int s1), .val (.int s2), .val (.int s3), .unset, .unset, .unset, .unset, .unset, .unset, .unset] [(.int (97 : Int32))]))
  refine Go.via (fun _ => XS.iloadN X0.here hx rfl (hb hby at_45) rfl) ?_
  show Go p e below _ (s₁.setTop (mkF m 46 #[.val (.int p1), .val (.int p2), .val (.int p3), .val (.int p4), .val (.int p5), .val (.int s0), .val (.int s1), .val (.int s2), .val (.int s3), .unset, .unset, .unset, .unset, .unset, .unset, .unset] [(.int p1), (.int (97 : Int32))]))
  refine Go.via (fun _ => XS.bipush X0.here hx rfl (hb hby at_46)) ?_
  show Go p e below _ (s₁.setTop (mkF m 48 #[.val (.int p1), .val (.int p2), .val (.int p3), .val (.int p4), .val (.int p5), .val (.int s0), .val (.int s1), .val (.int s2), .val (.int s3), .unset, .unset, .unset, .unset, .unset, .unset, .unset] [(.int (8 : Int32)), (.int p1), (.int (97 : Int32))]))
  refine Go.via (fun _ => XS.iushr X0.here hx rfl (hb hby at_48) rfl) ?_
  show Go p e below _ (s₁.setTop (mkF m 49 #[.val (.int p1), .val (.int p2), .val (.int p3), .val (.int p4), .val (.int p5), .val (.int s0), .val (.int s1), .val (.int s2), .val (.int s3), .unset, .unset, .unset, .unset, .unset, .unset, .unset] [(.int ((p1.toUInt32 >>> ((8 : Int32) &&& 31).toUInt32).toInt32)), (.int (97 : Int32))]))
  refine Go.via (fun _ => XS.iconst X0.here hx rfl (hb hby at_49)) ?_
  show Go p e below _ (s₁.setTop (mkF m 50 #[.val (.int p1), .val (.int p2), .val (.int p3), .val (.int p4), .val (.int p5), .val (.int s0), .val (.int s1), .val (.int s2), .val (.int s3), .unset, .unset, .unset, .unset, .unset, .unset, .unset] [(.int (3 : Int32)), (.int ((p1.toUInt32 >>> ((8 : Int32) &&& 31).toUInt32).toInt32)), (.int (97 : Int32))]))
  refine Go.via (fun _ => XS.iand X0.here hx rfl (hb hby at_50) rfl) ?_
  show Go p e below _ (s₁.setTop (mkF m 51 #[.val (.int p1), .val (.int p2), .val (.int p3), .val (.int p4), .val (.int p5), .val (.int s0), .val (.int s1), .val (.int s2), .val (.int s3), .unset, .unset, .unset, .unset, .unset, .unset, .unset] [(.int (((p1.toUInt32 >>> ((8 : Int32) &&& 31).toUInt32).toInt32) &&& (3 : Int32))), (.int (97 : Int32))]))
  refine Go.via (fun _ => XS.iadd X0.here hx rfl (hb hby at_51) rfl) ?_
  show Go p e below _ (s₁.setTop (mkF m 52 #[.val (.int p1), .val (.int p2), .val (.int p3), .val (.int p4), .val (.int p5), .val (.int s0), .val (.int s1), .val (.int s2), .val (.int s3), .unset, .unset, .unset, .unset, .unset, .unset, .unset] [(.int ((97 : Int32) + (((p1.toUInt32 >>> ((8 : Int32) &&& 31).toUInt32).toInt32) &&& (3 : Int32))))]))
  refine Go.via (fun _ => XS.i2c X0.here hx rfl (hb hby at_52) rfl) ?_
  show Go p e below _ (s₁.setTop (mkF m 53 #[.val (.int p1), .val (.int p2), .val (.int p3), .val (.int p4), .val (.int p5), .val (.int s0), .val (.int s1), .val (.int s2), .val (.int s3), .unset, .unset, .unset, .unset, .unset, .unset, .unset] [(.int (((97 : Int32) + (((p1.toUInt32 >>> ((8 : Int32) &&& 31).toUInt32).toInt32) &&& (3 : Int32))).toUInt32.toUInt16.toUInt32.toInt32))]))
  have r_sc := own_ch ((p1.toUInt32 >>> ((8 : Int32) &&& 31).toUInt32).toInt32)
  generalize hsc : (((97 : Int32) + (((p1.toUInt32 >>> ((8 : Int32) &&& 31).toUInt32).toInt32) &&& (3 : Int32))).toUInt32.toUInt16.toUInt32.toInt32) = sc at r_sc ⊢
  show Go p e below _ (s₁.setTop (mkF m 53 #[.val (.int p1), .val (.int p2), .val (.int p3), .val (.int p4), .val (.int p5), .val (.int s0), .val (.int s1), .val (.int s2), .val (.int s3), .unset, .unset, .unset, .unset, .unset, .unset, .unset] [(.int sc)]))
  refine Go.via (fun _ => XS.istore X0.here hx rfl (hb hby at_53) rfl (l' := #[.val (.int p1), .val (.int p2), .val (.int p3), .val (.int p4), .val (.int p5), .val (.int s0), .val (.int s1), .val (.int s2), .val (.int s3), .val (.int sc), .unset, .unset, .unset, .unset, .unset, .unset]) rfl) ?_
  show Go p e below _ (s₁.setTop (mkF m 55 #[.val (.int p1), .val (.int p2), .val (.int p3), .val (.int p4), .val (.int p5), .val (.int s0), .val (.int s1), .val (.int s2), .val (.int s3), .val (.int sc), .unset, .unset, .unset, .unset, .unset, .unset] []))
  have w_sc := r_sc.2.2
  obtain ⟨T1, h1, X1, e1, E1, A1, D1, -, st1⟩ := newO X0 hx hZ hown (hw _ (List.mem_of_getElem? (i := 0) rfl)) (hw _ (List.mem_of_getElem? (i := 1) rfl)) (hw _ (List.mem_of_getElem? (i := 2) rfl)) e0 (g := (mkF m 55 #[.val (.int p1), .val (.int p2), .val (.int p3), .val (.int p4), .val (.int p5), .val (.int s0), .val (.int s1), .val (.int s2), .val (.int s3), .val (.int sc), .unset, .unset, .unset, .unset, .unset, .unset] [])) rfl (hb hby at_55) (by decide) (by decide)
  obtain ⟨b1, g1⟩ : ∃ z, z = h0.size := ⟨_, rfl⟩
  rw [← g1] at A1 D1 st1
  have g_b1 : n0 ≤ b1 := Nat.le_trans Z0 (Nat.le_of_eq g1.symm)
  refine Go.via st1 ?_
  have Zs1 : n0 ≤ h1.size := Nat.le_trans Z0 E1.1
  have O1 : Old Z n0 h1 := O0.ext E1
  have F_from_b1 : Fld Z h1 b1 "com/example/dogwood/dogwood/model/yaml/Occurrences" "from" "I" (.int (0 : Int32)) := D1 (Or.inl (hw _ (List.mem_of_getElem? (i := 39) rfl))) (ty := .int) (by decide)
  have F_found_b1 : Fld Z h1 b1 "com/example/dogwood/dogwood/model/yaml/Occurrences" "found" "I" (.int (0 : Int32)) := D1 (Or.inl (hw _ (List.mem_of_getElem? (i := 41) rfl))) (ty := .int) (by decide)
  have F_text_b1 : Fld Z h1 b1 "com/example/dogwood/dogwood/model/yaml/Occurrences" "text" "Ljava/lang/String;" .null := D1 (Or.inr (hw _ (List.mem_of_getElem? (i := 43) rfl))) (ty := (.object "java/lang/String")) (by decide)
  have F_c_b1 : Fld Z h1 b1 "com/example/dogwood/dogwood/model/yaml/Occurrences" "c" "C" (.int (0 : Int32)) := D1 (Or.inr (hw _ (List.mem_of_getElem? (i := 45) rfl))) (ty := .char) (by decide)
  show Go p e below _ (T1.setTop (mkF m 58 #[.val (.int p1), .val (.int p2), .val (.int p3), .val (.int p4), .val (.int p5), .val (.int s0), .val (.int s1), .val (.int s2), .val (.int s3), .val (.int sc), .unset, .unset, .unset, .unset, .unset, .unset] [(.ref b1)]))
  refine Go.via (fun _ => XS.dup X1.here hx rfl (hb hby at_58) rfl rfl) ?_
  show Go p e below _ (T1.setTop (mkF m 59 #[.val (.int p1), .val (.int p2), .val (.int p3), .val (.int p4), .val (.int p5), .val (.int s0), .val (.int s1), .val (.int s2), .val (.int s3), .val (.int sc), .unset, .unset, .unset, .unset, .unset, .unset] [(.ref b1), (.ref b1)]))
  obtain ⟨T2, h2, X2, e2, E2, A2, D2, -, st2⟩ := newO X1 hx hZ hown (hw _ (List.mem_of_getElem? (i := 3) rfl)) (hw _ (List.mem_of_getElem? (i := 4) rfl)) (hw _ (List.mem_of_getElem? (i := 5) rfl)) e1 (g := (mkF m 59 #[.val (.int p1), .val (.int p2), .val (.int p3), .val (.int p4), .val (.int p5), .val (.int s0), .val (.int s1), .val (.int s2), .val (.int s3), .val (.int sc), .unset, .unset, .unset, .unset, .unset, .unset] [(.ref b1), (.ref b1)])) rfl (hb hby at_59) (by decide) (by decide)
  obtain ⟨b2, g2⟩ : ∃ z, z = h1.size := ⟨_, rfl⟩
  rw [← g2] at A2 D2 st2
  have g_b2 : n0 ≤ b2 := Nat.le_trans Zs1 (Nat.le_of_eq g2.symm)
  have ne_b1_b2 : b1 ≠ b2 := Nat.ne_of_lt (Nat.lt_of_lt_of_le A1.lt (Nat.le_of_eq g2.symm))
  refine Go.via st2 ?_
  have Zs2 : n0 ≤ h2.size := Nat.le_trans Zs1 E2.1
  have O2 : Old Z n0 h2 := O1.ext E2
  have fE_b1_2 := A1.ext E2
  have fF_b1_from_2 := F_from_b1.ext E2
  have fF_b1_found_2 := F_found_b1.ext E2
  have fF_b1_text_2 := F_text_b1.ext E2
  have fF_b1_c_2 := F_c_b1.ext E2
  have F_coder_b2 : Fld Z h2 b2 "java/lang/String" "coder" "B" (.int (0 : Int32)) := D2 (Or.inr (hw _ (List.mem_of_getElem? (i := 30) rfl))) (ty := .byte) (by decide)
  have F_value_b2 : Fld Z h2 b2 "java/lang/String" "value" "[B" .null := D2 (Or.inr (hw _ (List.mem_of_getElem? (i := 32) rfl))) (ty := (.array .byte)) (by decide)
  show Go p e below _ (T2.setTop (mkF m 62 #[.val (.int p1), .val (.int p2), .val (.int p3), .val (.int p4), .val (.int p5), .val (.int s0), .val (.int s1), .val (.int s2), .val (.int s3), .val (.int sc), .unset, .unset, .unset, .unset, .unset, .unset] [(.ref b2), (.ref b1), (.ref b1)]))
  refine Go.via (fun _ => XS.dup X2.here hx rfl (hb hby at_62) rfl rfl) ?_
  show Go p e below _ (T2.setTop (mkF m 63 #[.val (.int p1), .val (.int p2), .val (.int p3), .val (.int p4), .val (.int p5), .val (.int s0), .val (.int s1), .val (.int s2), .val (.int s3), .val (.int sc), .unset, .unset, .unset, .unset, .unset, .unset] [(.ref b2), (.ref b2), (.ref b1), (.ref b1)]))
  refine Go.via (fun _ => XS.iconst X2.here hx rfl (hb hby at_63)) ?_
  show Go p e below _ (T2.setTop (mkF m 64 #[.val (.int p1), .val (.int p2), .val (.int p3), .val (.int p4), .val (.int p5), .val (.int s0), .val (.int s1), .val (.int s2), .val (.int s3), .val (.int sc), .unset, .unset, .unset, .unset, .unset, .unset] [(.int (4 : Int32)), (.ref b2), (.ref b2), (.ref b1), (.ref b1)]))
  obtain ⟨T3, h3, k3, X3, e3, E3, A3, st3⟩ := newP X2 hx hZ (hw _ (List.mem_of_getElem? (i := 6) rfl)) e2 (g := (mkF m 64 #[.val (.int p1), .val (.int p2), .val (.int p3), .val (.int p4), .val (.int p5), .val (.int s0), .val (.int s1), .val (.int s2), .val (.int s3), .val (.int sc), .unset, .unset, .unset, .unset, .unset, .unset] [(.int (4 : Int32)), (.ref b2), (.ref b2), (.ref b1), (.ref b1)])) rfl (hb hby at_64) rfl (by decide) (cap := 4) (by decide) (by decide) (by decide) (by decide)
  obtain ⟨b3, g3⟩ : ∃ z, z = h2.size := ⟨_, rfl⟩
  rw [← g3] at A3 st3
  have g_b3 : n0 ≤ b3 := Nat.le_trans Zs2 (Nat.le_of_eq g3.symm)
  have ne_b1_b3 : b1 ≠ b3 := Nat.ne_of_lt (Nat.lt_of_lt_of_le fE_b1_2.lt (Nat.le_of_eq g3.symm))
  have ne_b2_b3 : b2 ≠ b3 := Nat.ne_of_lt (Nat.lt_of_lt_of_le A2.lt (Nat.le_of_eq g3.symm))
  refine Go.via st3 ?_
  have Zs3 : n0 ≤ h3.size := Nat.le_trans Zs2 E3.1
  have O3 : Old Z n0 h3 := O2.ext E3
  have fE_b1_3 := fE_b1_2.ext E3
  have fF_b1_from_3 := fF_b1_from_2.ext E3
  have fF_b1_found_3 := fF_b1_found_2.ext E3
  have fF_b1_text_3 := fF_b1_text_2.ext E3
  have fF_b1_c_3 := fF_b1_c_2.ext E3
  have fE_b2_3 := A2.ext E3
  have fF_b2_coder_3 := F_coder_b2.ext E3
  have fF_b2_value_3 := F_value_b2.ext E3
  have V_b3 : Arv Z h3 b3 k3 .char (4 : Int32) [(.int (0 : Int32)), (.int (0 : Int32)), (.int (0 : Int32)), (.int (0 : Int32))] (.int (0 : Int32)) := (Arv.new A3 (by decide)).pad (pad_rep [] (.int (0 : Int32)) 4)
  show Go p e below _ (T3.setTop (mkF m 66 #[.val (.int p1), .val (.int p2), .val (.int p3), .val (.int p4), .val (.int p5), .val (.int s0), .val (.int s1), .val (.int s2), .val (.int s3), .val (.int sc), .unset, .unset, .unset, .unset, .unset, .unset] [(.ref b3), (.ref b2), (.ref b2), (.ref b1), (.ref b1)]))
  refine Go.via (fun _ => XS.dup X3.here hx rfl (hb hby at_66) rfl rfl) ?_
  show Go p e below _ (T3.setTop (mkF m 67 #[.val (.int p1), .val (.int p2), .val (.int p3), .val (.int p4), .val (.int p5), .val (.int s0), .val (.int s1), .val (.int s2), .val (.int s3), .val (.int sc), .unset, .unset, .unset, .unset, .unset, .unset] [(.ref b3), (.ref b3), (.ref b2), (.ref b2), (.ref b1), (.ref b1)]))
  refine Go.via (fun _ => XS.iconst X3.here hx rfl (hb hby at_67)) ?_
  show Go p e below _ (T3.setTop (mkF m 68 #[.val (.int p1), .val (.int p2), .val (.int p3), .val (.int p4), .val (.int p5), .val (.int s0), .val (.int s1), .val (.int s2), .val (.int s3), .val (.int sc), .unset, .unset, .unset, .unset, .unset, .unset] [(.int (0 : Int32)), (.ref b3), (.ref b3), (.ref b2), (.ref b2), (.ref b1), (.ref b1)]))
  refine Go.via (fun _ => XS.iload X3.here hx rfl (hb hby at_68) rfl) ?_
  show Go p e below _ (T3.setTop (mkF m 70 #[.val (.int p1), .val (.int p2), .val (.int p3), .val (.int p4), .val (.int p5), .val (.int s0), .val (.int s1), .val (.int s2), .val (.int s3), .val (.int sc), .unset, .unset, .unset, .unset, .unset, .unset] [(.int s0), (.int (0 : Int32)), (.ref b3), (.ref b3), (.ref b2), (.ref b2), (.ref b1), (.ref b1)]))
  obtain ⟨cl4, Ar4, q4, S4, N4n, H4, G4⟩ := id V_b3
  have hin4 := inb_of (j := (0 : Int32)) S4 (by decide)
  obtain ⟨T4, h4, X4, e4, W4, st4⟩ := stC X3 hx hZ e3 Ar4 (j := (0 : Int32)) hin4 (g := (mkF m 70 #[.val (.int p1), .val (.int p2), .val (.int p3), .val (.int p4), .val (.int p5), .val (.int s0), .val (.int s1), .val (.int s2), .val (.int s3), .val (.int sc), .unset, .unset, .unset, .unset, .unset, .unset] [(.int s0), (.int (0 : Int32)), (.ref b3), (.ref b3), (.ref b2), (.ref b2), (.ref b1), (.ref b1)])) rfl rfl (hb hby at_70)
  refine Go.via st4 ?_
  have V4 : Arv Z h4 b3 k3 .char (4 : Int32) [(.int (nar .char s0)), (.int (0 : Int32)), (.int (0 : Int32)), (.int (0 : Int32))] (.int (0 : Int32)) := Arv.set Ar4 q4 S4 N4n H4 G4 (fits_nar_char _) W4 0 rfl (Nat.le_of_ble_eq_true rfl)
  have Zs4 : n0 ≤ h4.size := Nat.le_trans Zs3 (Keep.of_wr W4).1
  have O4 : Old Z n0 h4 := O3.wr W4 g_b3
  have N4 := Fr.snoc X4 N0 g_b3
  have fE_b1_4 := fE_b1_3.wr W4
  have fF_b1_from_4 := fF_b1_from_3.other W4 (Or.inl ne_b1_b3)
  have fF_b1_found_4 := fF_b1_found_3.other W4 (Or.inl ne_b1_b3)
  have fF_b1_text_4 := fF_b1_text_3.other W4 (Or.inl ne_b1_b3)
  have fF_b1_c_4 := fF_b1_c_3.other W4 (Or.inl ne_b1_b3)
  have fE_b2_4 := fE_b2_3.wr W4
  have fF_b2_coder_4 := fF_b2_coder_3.other W4 (Or.inl ne_b2_b3)
  have fF_b2_value_4 := fF_b2_value_3.other W4 (Or.inl ne_b2_b3)
  show Go p e below _ (T4.setTop (mkF m 71 #[.val (.int p1), .val (.int p2), .val (.int p3), .val (.int p4), .val (.int p5), .val (.int s0), .val (.int s1), .val (.int s2), .val (.int s3), .val (.int sc), .unset, .unset, .unset, .unset, .unset, .unset] [(.ref b3), (.ref b2), (.ref b2), (.ref b1), (.ref b1)]))
  refine Go.via (fun _ => XS.dup X4.here hx rfl (hb hby at_71) rfl rfl) ?_
  show Go p e below _ (T4.setTop (mkF m 72 #[.val (.int p1), .val (.int p2), .val (.int p3), .val (.int p4), .val (.int p5), .val (.int s0), .val (.int s1), .val (.int s2), .val (.int s3), .val (.int sc), .unset, .unset, .unset, .unset, .unset, .unset] [(.ref b3), (.ref b3), (.ref b2), (.ref b2), (.ref b1), (.ref b1)]))
  refine Go.via (fun _ => XS.iconst X4.here hx rfl (hb hby at_72)) ?_
  show Go p e below _ (T4.setTop (mkF m 73 #[.val (.int p1), .val (.int p2), .val (.int p3), .val (.int p4), .val (.int p5), .val (.int s0), .val (.int s1), .val (.int s2), .val (.int s3), .val (.int sc), .unset, .unset, .unset, .unset, .unset, .unset] [(.int (1 : Int32)), (.ref b3), (.ref b3), (.ref b2), (.ref b2), (.ref b1), (.ref b1)]))
  refine Go.via (fun _ => XS.iload X4.here hx rfl (hb hby at_73) rfl) ?_
  show Go p e below _ (T4.setTop (mkF m 75 #[.val (.int p1), .val (.int p2), .val (.int p3), .val (.int p4), .val (.int p5), .val (.int s0), .val (.int s1), .val (.int s2), .val (.int s3), .val (.int sc), .unset, .unset, .unset, .unset, .unset, .unset] [(.int s1), (.int (1 : Int32)), (.ref b3), (.ref b3), (.ref b2), (.ref b2), (.ref b1), (.ref b1)]))
  obtain ⟨cl5, Ar5, q5, S5, N5n, H5, G5⟩ := id V4
  have hin5 := inb_of (j := (1 : Int32)) S5 (by decide)
  obtain ⟨T5, h5, X5, e5, W5, st5⟩ := stC X4 hx hZ e4 Ar5 (j := (1 : Int32)) hin5 (g := (mkF m 75 #[.val (.int p1), .val (.int p2), .val (.int p3), .val (.int p4), .val (.int p5), .val (.int s0), .val (.int s1), .val (.int s2), .val (.int s3), .val (.int sc), .unset, .unset, .unset, .unset, .unset, .unset] [(.int s1), (.int (1 : Int32)), (.ref b3), (.ref b3), (.ref b2), (.ref b2), (.ref b1), (.ref b1)])) rfl rfl (hb hby at_75)
  refine Go.via st5 ?_
  have V5 : Arv Z h5 b3 k3 .char (4 : Int32) [(.int (nar .char s0)), (.int (nar .char s1)), (.int (0 : Int32)), (.int (0 : Int32))] (.int (0 : Int32)) := Arv.set Ar5 q5 S5 N5n H5 G5 (fits_nar_char _) W5 1 rfl (Nat.le_of_ble_eq_true rfl)
  have Zs5 : n0 ≤ h5.size := Nat.le_trans Zs4 (Keep.of_wr W5).1
  have O5 : Old Z n0 h5 := O4.wr W5 g_b3
  have N5 := Fr.snoc X5 N4 g_b3
  have fE_b1_5 := fE_b1_4.wr W5
  have fF_b1_from_5 := fF_b1_from_4.other W5 (Or.inl ne_b1_b3)
  have fF_b1_found_5 := fF_b1_found_4.other W5 (Or.inl ne_b1_b3)
  have fF_b1_text_5 := fF_b1_text_4.other W5 (Or.inl ne_b1_b3)
  have fF_b1_c_5 := fF_b1_c_4.other W5 (Or.inl ne_b1_b3)
  have fE_b2_5 := fE_b2_4.wr W5
  have fF_b2_coder_5 := fF_b2_coder_4.other W5 (Or.inl ne_b2_b3)
  have fF_b2_value_5 := fF_b2_value_4.other W5 (Or.inl ne_b2_b3)
  show Go p e below _ (T5.setTop (mkF m 76 #[.val (.int p1), .val (.int p2), .val (.int p3), .val (.int p4), .val (.int p5), .val (.int s0), .val (.int s1), .val (.int s2), .val (.int s3), .val (.int sc), .unset, .unset, .unset, .unset, .unset, .unset] [(.ref b3), (.ref b2), (.ref b2), (.ref b1), (.ref b1)]))
  refine Go.via (fun _ => XS.dup X5.here hx rfl (hb hby at_76) rfl rfl) ?_
  show Go p e below _ (T5.setTop (mkF m 77 #[.val (.int p1), .val (.int p2), .val (.int p3), .val (.int p4), .val (.int p5), .val (.int s0), .val (.int s1), .val (.int s2), .val (.int s3), .val (.int sc), .unset, .unset, .unset, .unset, .unset, .unset] [(.ref b3), (.ref b3), (.ref b2), (.ref b2), (.ref b1), (.ref b1)]))
  refine Go.via (fun _ => XS.iconst X5.here hx rfl (hb hby at_77)) ?_
  show Go p e below _ (T5.setTop (mkF m 78 #[.val (.int p1), .val (.int p2), .val (.int p3), .val (.int p4), .val (.int p5), .val (.int s0), .val (.int s1), .val (.int s2), .val (.int s3), .val (.int sc), .unset, .unset, .unset, .unset, .unset, .unset] [(.int (2 : Int32)), (.ref b3), (.ref b3), (.ref b2), (.ref b2), (.ref b1), (.ref b1)]))
  refine Go.via (fun _ => XS.iload X5.here hx rfl (hb hby at_78) rfl) ?_
  show Go p e below _ (T5.setTop (mkF m 80 #[.val (.int p1), .val (.int p2), .val (.int p3), .val (.int p4), .val (.int p5), .val (.int s0), .val (.int s1), .val (.int s2), .val (.int s3), .val (.int sc), .unset, .unset, .unset, .unset, .unset, .unset] [(.int s2), (.int (2 : Int32)), (.ref b3), (.ref b3), (.ref b2), (.ref b2), (.ref b1), (.ref b1)]))
  obtain ⟨cl6, Ar6, q6, S6, N6n, H6, G6⟩ := id V5
  have hin6 := inb_of (j := (2 : Int32)) S6 (by decide)
  obtain ⟨T6, h6, X6, e6, W6, st6⟩ := stC X5 hx hZ e5 Ar6 (j := (2 : Int32)) hin6 (g := (mkF m 80 #[.val (.int p1), .val (.int p2), .val (.int p3), .val (.int p4), .val (.int p5), .val (.int s0), .val (.int s1), .val (.int s2), .val (.int s3), .val (.int sc), .unset, .unset, .unset, .unset, .unset, .unset] [(.int s2), (.int (2 : Int32)), (.ref b3), (.ref b3), (.ref b2), (.ref b2), (.ref b1), (.ref b1)])) rfl rfl (hb hby at_80)
  refine Go.via st6 ?_
  have V6 : Arv Z h6 b3 k3 .char (4 : Int32) [(.int (nar .char s0)), (.int (nar .char s1)), (.int (nar .char s2)), (.int (0 : Int32))] (.int (0 : Int32)) := Arv.set Ar6 q6 S6 N6n H6 G6 (fits_nar_char _) W6 2 rfl (Nat.le_of_ble_eq_true rfl)
  have Zs6 : n0 ≤ h6.size := Nat.le_trans Zs5 (Keep.of_wr W6).1
  have O6 : Old Z n0 h6 := O5.wr W6 g_b3
  have N6 := Fr.snoc X6 N5 g_b3
  have fE_b1_6 := fE_b1_5.wr W6
  have fF_b1_from_6 := fF_b1_from_5.other W6 (Or.inl ne_b1_b3)
  have fF_b1_found_6 := fF_b1_found_5.other W6 (Or.inl ne_b1_b3)
  have fF_b1_text_6 := fF_b1_text_5.other W6 (Or.inl ne_b1_b3)
  have fF_b1_c_6 := fF_b1_c_5.other W6 (Or.inl ne_b1_b3)
  have fE_b2_6 := fE_b2_5.wr W6
  have fF_b2_coder_6 := fF_b2_coder_5.other W6 (Or.inl ne_b2_b3)
  have fF_b2_value_6 := fF_b2_value_5.other W6 (Or.inl ne_b2_b3)
  show Go p e below _ (T6.setTop (mkF m 81 #[.val (.int p1), .val (.int p2), .val (.int p3), .val (.int p4), .val (.int p5), .val (.int s0), .val (.int s1), .val (.int s2), .val (.int s3), .val (.int sc), .unset, .unset, .unset, .unset, .unset, .unset] [(.ref b3), (.ref b2), (.ref b2), (.ref b1), (.ref b1)]))
  refine Go.via (fun _ => XS.dup X6.here hx rfl (hb hby at_81) rfl rfl) ?_
  show Go p e below _ (T6.setTop (mkF m 82 #[.val (.int p1), .val (.int p2), .val (.int p3), .val (.int p4), .val (.int p5), .val (.int s0), .val (.int s1), .val (.int s2), .val (.int s3), .val (.int sc), .unset, .unset, .unset, .unset, .unset, .unset] [(.ref b3), (.ref b3), (.ref b2), (.ref b2), (.ref b1), (.ref b1)]))
  refine Go.via (fun _ => XS.iconst X6.here hx rfl (hb hby at_82)) ?_
  show Go p e below _ (T6.setTop (mkF m 83 #[.val (.int p1), .val (.int p2), .val (.int p3), .val (.int p4), .val (.int p5), .val (.int s0), .val (.int s1), .val (.int s2), .val (.int s3), .val (.int sc), .unset, .unset, .unset, .unset, .unset, .unset] [(.int (3 : Int32)), (.ref b3), (.ref b3), (.ref b2), (.ref b2), (.ref b1), (.ref b1)]))
  refine Go.via (fun _ => XS.iload X6.here hx rfl (hb hby at_83) rfl) ?_
  show Go p e below _ (T6.setTop (mkF m 85 #[.val (.int p1), .val (.int p2), .val (.int p3), .val (.int p4), .val (.int p5), .val (.int s0), .val (.int s1), .val (.int s2), .val (.int s3), .val (.int sc), .unset, .unset, .unset, .unset, .unset, .unset] [(.int s3), (.int (3 : Int32)), (.ref b3), (.ref b3), (.ref b2), (.ref b2), (.ref b1), (.ref b1)]))
  obtain ⟨cl7, Ar7, q7, S7, N7n, H7, G7⟩ := id V6
  have hin7 := inb_of (j := (3 : Int32)) S7 (by decide)
  obtain ⟨T7, h7, X7, e7, W7, st7⟩ := stC X6 hx hZ e6 Ar7 (j := (3 : Int32)) hin7 (g := (mkF m 85 #[.val (.int p1), .val (.int p2), .val (.int p3), .val (.int p4), .val (.int p5), .val (.int s0), .val (.int s1), .val (.int s2), .val (.int s3), .val (.int sc), .unset, .unset, .unset, .unset, .unset, .unset] [(.int s3), (.int (3 : Int32)), (.ref b3), (.ref b3), (.ref b2), (.ref b2), (.ref b1), (.ref b1)])) rfl rfl (hb hby at_85)
  refine Go.via st7 ?_
  have V7 : Arv Z h7 b3 k3 .char (4 : Int32) [(.int (nar .char s0)), (.int (nar .char s1)), (.int (nar .char s2)), (.int (nar .char s3))] (.int (0 : Int32)) := Arv.set Ar7 q7 S7 N7n H7 G7 (fits_nar_char _) W7 3 rfl (Nat.le_of_ble_eq_true rfl)
  have Zs7 : n0 ≤ h7.size := Nat.le_trans Zs6 (Keep.of_wr W7).1
  have O7 : Old Z n0 h7 := O6.wr W7 g_b3
  have N7 := Fr.snoc X7 N6 g_b3
  have fE_b1_7 := fE_b1_6.wr W7
  have fF_b1_from_7 := fF_b1_from_6.other W7 (Or.inl ne_b1_b3)
  have fF_b1_found_7 := fF_b1_found_6.other W7 (Or.inl ne_b1_b3)
  have fF_b1_text_7 := fF_b1_text_6.other W7 (Or.inl ne_b1_b3)
  have fF_b1_c_7 := fF_b1_c_6.other W7 (Or.inl ne_b1_b3)
  have fE_b2_7 := fE_b2_6.wr W7
  have fF_b2_coder_7 := fF_b2_coder_6.other W7 (Or.inl ne_b2_b3)
  have fF_b2_value_7 := fF_b2_value_6.other W7 (Or.inl ne_b2_b3)
  show Go p e below _ (T7.setTop (mkF m 86 #[.val (.int p1), .val (.int p2), .val (.int p3), .val (.int p4), .val (.int p5), .val (.int s0), .val (.int s1), .val (.int s2), .val (.int s3), .val (.int sc), .unset, .unset, .unset, .unset, .unset, .unset] [(.ref b3), (.ref b2), (.ref b2), (.ref b1), (.ref b1)]))
  rw [r_s0.2.2, r_s1.2.2, r_s2.2.2, r_s3.2.2] at V7
  obtain ⟨_, _, ⟨T8, L8, k8, n8⟩, -, X8, ⟨Lc8, hQ8, l8, y8, z8⟩, st8⟩ := X7.specialBack hx (y := (⟨"java/lang/String", "<init>", "([C)V"⟩ : MethodName)) rfl hown (mvT hZ (hw _ (List.mem_of_getElem? (i := 7) rfl))) (mvT hZ (hw _ (List.mem_of_getElem? (i := 8) rfl))) (mvT hZ (hw _ (List.mem_of_getElem? (i := 9) rfl))) (by decide) (backOf (W := 3) (rmI1_4 l Z a0 hw [] b2 b3 k3 (s0) (s1) (s2) (s3) ccs h7 n0 Zs7 fE_b2_7 fF_b2_value_7 fF_b2_coder_7 g_b2 ne_b2_b3 V7 r_s0.2.1 r_s1.2.1 r_s2.2.1 r_s3.2.1 O7 S_CS hcs) hZ (hw _ (List.mem_of_getElem? (i := 9) rfl)) (hw _ (List.mem_of_getElem? (i := 5) rfl)) (by decide) (by decide)) (g := (mkF m 86 #[.val (.int p1), .val (.int p2), .val (.int p3), .val (.int p4), .val (.int p5), .val (.int s0), .val (.int s1), .val (.int s2), .val (.int s3), .val (.int sc), .unset, .unset, .unset, .unset, .unset, .unset] [(.ref b3), (.ref b2), (.ref b2), (.ref b1), (.ref b1)])) rfl (by rw [hml]; rfl) (Steps.refl _) (a := b2) (argsL := [(.ref b3)]) (rest := [(.ref b2), (.ref b1), (.ref b1)]) (lenOf pd_10 rfl) rfl (by show 2 * 0 + _ ≤ _; exact Nat.le_of_eq rfl) (hb hby at_86) (fun _ _ => ⟨rfl, e7, (by decide : 3 + 1 ≤ _), (by decide : 12 + 4 ≤ _)⟩)
  dsimp only [Pt.U, Pt.locs, Pt.cells, Pt.slots] at X8 l8 y8 z8 st8 hQ8
  subst l8 y8 z8
  obtain ⟨rfl, N8q, K8q, t8, kb8, gt8, fv8, fc8, va8⟩ := hQ8
  have N8 := Fr.app N7 N8q
  refine Go.tr st8 ?_
  have Zs8 : n0 ≤ T8.heap.size := Nat.le_trans Zs7 K8q.1
  have O8 : Old Z n0 T8.heap := O7.keep K8q (allS g_b2 all0)
  have fE_b1_8 := fE_b1_7.keep K8q
  have fF_b1_from_8 := fF_b1_from_7.keep K8q (ninS ne_b1_b2 nin0)
  have fF_b1_found_8 := fF_b1_found_7.keep K8q (ninS ne_b1_b2 nin0)
  have fF_b1_text_8 := fF_b1_text_7.keep K8q (ninS ne_b1_b2 nin0)
  have fF_b1_c_8 := fF_b1_c_7.keep K8q (ninS ne_b1_b2 nin0)
  have fE_b2_8 := fE_b2_7.keep K8q
  have fV_b3_8 := V7.keep K8q (ninS (Ne.symm ne_b2_b3) nin0)
  have g_t8 : n0 ≤ t8 := Nat.le_trans Zs7 gt8
  have ne_b1_t8 : b1 ≠ t8 := Nat.ne_of_lt (Nat.lt_of_lt_of_le fE_b1_7.lt gt8)
  have ne_b2_t8 : b2 ≠ t8 := Nat.ne_of_lt (Nat.lt_of_lt_of_le fE_b2_7.lt gt8)
  have ne_b3_t8 : b3 ≠ t8 := Nat.ne_of_lt (Nat.lt_of_lt_of_le V7.lt gt8)
  show Go p e below _ (T8.setTop (mkF m 89 #[.val (.int p1), .val (.int p2), .val (.int p3), .val (.int p4), .val (.int p5), .val (.int s0), .val (.int s1), .val (.int s2), .val (.int s3), .val (.int sc), .unset, .unset, .unset, .unset, .unset, .unset] [(.ref b2), (.ref b1), (.ref b1)]))
  refine Go.via (fun _ => XS.iload X8.here hx rfl (hb hby at_89) rfl) ?_
  show Go p e below _ (T8.setTop (mkF m 91 #[.val (.int p1), .val (.int p2), .val (.int p3), .val (.int p4), .val (.int p5), .val (.int s0), .val (.int s1), .val (.int s2), .val (.int s3), .val (.int sc), .unset, .unset, .unset, .unset, .unset, .unset] [(.int sc), (.ref b2), (.ref b1), (.ref b1)]))
  obtain ⟨_, _, ⟨T9, L9, k9, n9⟩, -, X9, ⟨Lc9, hQ9, l9, y9, z9⟩, st9⟩ := X8.specialBack hx (y := (⟨"com/example/dogwood/dogwood/model/yaml/Occurrences", "<init>", "(Ljava/lang/String;C)V"⟩ : MethodName)) rfl hown (mvT hZ (hw _ (List.mem_of_getElem? (i := 33) rfl))) (mvT hZ (hw _ (List.mem_of_getElem? (i := 34) rfl))) (mvT hZ (hw _ (List.mem_of_getElem? (i := 35) rfl))) (by decide) (backOf (W := 1) (rmOI l Z a0 hw [] b1 b2 sc T8.heap n0 Zs8 fE_b1_8 fF_b1_from_8 fF_b1_found_8 fF_b1_text_8 fF_b1_c_8 g_b1) hZ (hw _ (List.mem_of_getElem? (i := 35) rfl)) (hw _ (List.mem_of_getElem? (i := 2) rfl)) (by decide) (by decide)) (g := (mkF m 91 #[.val (.int p1), .val (.int p2), .val (.int p3), .val (.int p4), .val (.int p5), .val (.int s0), .val (.int s1), .val (.int s2), .val (.int s3), .val (.int sc), .unset, .unset, .unset, .unset, .unset, .unset] [(.int sc), (.ref b2), (.ref b1), (.ref b1)])) rfl (by rw [hml]; rfl) (Steps.refl _) (a := b1) (argsL := [(.ref b2), (.int sc)]) (rest := [(.ref b1)]) (lenOf pd_11 rfl) rfl (by show 2 * 0 + _ ≤ _; exact Nat.le_of_eq rfl) (hb hby at_91) (fun _ _ => ⟨rfl, rfl, (by decide : 4 + 0 ≤ _), (by decide : 16 + 0 ≤ _)⟩)
  dsimp only [Pt.U, Pt.locs, Pt.cells, Pt.slots] at X9 l9 y9 z9 st9 hQ9
  subst l9 y9 z9
  obtain ⟨rfl, N9q, K9q, ff9, fd9, ft9, fc9⟩ := hQ9
  have N9 := Fr.app N8 N9q
  refine Go.tr st9 ?_
  have Zs9 : n0 ≤ T9.heap.size := Nat.le_trans Zs8 K9q.1
  have O9 : Old Z n0 T9.heap := O8.keep K9q (allS g_b1 all0)
  have fE_b1_9 := fE_b1_8.keep K9q
  have fE_b2_9 := fE_b2_8.keep K9q
  have fV_b3_9 := fV_b3_8.keep K9q (ninS (Ne.symm ne_b1_b3) nin0)
  have fV_t8_9 := va8.keep K9q (ninS (Ne.symm ne_b1_t8) nin0)
  have fF_b2_value_9 := fv8.keep K9q (ninS (Ne.symm ne_b1_b2) nin0)
  have fF_b2_coder_9 := fc8.keep K9q (ninS (Ne.symm ne_b1_b2) nin0)
  rw [w_sc] at fc9
  rw [show (-1 : Int32) = ix4 s0 s1 s2 s3 sc (2147483647 : Int32) from (own_ixbig (by decide)).symm] at fd9
  have q_s0 := own_byte r_s0.1 r_s0.2.1 r_sc.1 r_sc.2.1
  have q_s1 := own_byte r_s1.1 r_s1.2.1 r_sc.1 r_sc.2.1
  have q_s2 := own_byte r_s2.1 r_s2.2.1 r_sc.1 r_sc.2.1
  have q_s3 := own_byte r_s3.1 r_s3.2.1 r_sc.1 r_sc.2.1
  show Go p e below _ (T9.setTop (mkF m 94 #[.val (.int p1), .val (.int p2), .val (.int p3), .val (.int p4), .val (.int p5), .val (.int s0), .val (.int s1), .val (.int s2), .val (.int s3), .val (.int sc), .unset, .unset, .unset, .unset, .unset, .unset] [(.ref b1)]))
  refine Go.via (fun _ => XS.astore X9.here hx rfl (hb hby at_94) rfl rfl (l' := #[.val (.int p1), .val (.int p2), .val (.int p3), .val (.int p4), .val (.int p5), .val (.int s0), .val (.int s1), .val (.int s2), .val (.int s3), .val (.int sc), .val (.ref b1), .unset, .unset, .unset, .unset, .unset]) rfl) ?_
  show Go p e below _ (T9.setTop (mkF m 96 #[.val (.int p1), .val (.int p2), .val (.int p3), .val (.int p4), .val (.int p5), .val (.int s0), .val (.int s1), .val (.int s2), .val (.int s3), .val (.int sc), .val (.ref b1), .unset, .unset, .unset, .unset, .unset] []))
  refine Go.via (fun _ => XS.iloadN X9.here hx rfl (hb hby at_96) rfl) ?_
  show Go p e below _ (T9.setTop (mkF m 97 #[.val (.int p1), .val (.int p2), .val (.int p3), .val (.int p4), .val (.int p5), .val (.int s0), .val (.int s1), .val (.int s2), .val (.int s3), .val (.int sc), .val (.ref b1), .unset, .unset, .unset, .unset, .unset] [(.int p2)]))
  obtain ⟨_, _, ⟨T10, L10, k10, n10⟩, -, X10, ⟨Lc10, hQ10, l10, y10, z10⟩, st10⟩ := Jvm.LawKit.callS X9 hx (y := (⟨"com/example/dogwood/dogwood/model/yaml/OccurrencesFromPinLaw", "idx", "(I)I"⟩ : MethodName)) hown (mvT hZ (hw _ (List.mem_of_getElem? (i := 46) rfl))) (mvT hZ (hw _ (List.mem_of_getElem? (i := 47) rfl))) (mvT hZ (hw _ (List.mem_of_getElem? (i := 48) rfl))) (mvT hZ (hw _ (List.mem_of_getElem? (i := 49) rfl))) (by decide) (backOf (W := 0) (rmIdx l Z a0 hw [] p2 T9.heap n0 Zs9) hZ (hw _ (List.mem_of_getElem? (i := 49) rfl)) (hw _ (List.mem_of_getElem? (i := 48) rfl)) (by decide) (by decide)) (g := (mkF m 97 #[.val (.int p1), .val (.int p2), .val (.int p3), .val (.int p4), .val (.int p5), .val (.int s0), .val (.int s1), .val (.int s2), .val (.int s3), .val (.int sc), .val (.ref b1), .unset, .unset, .unset, .unset, .unset] [(.int p2)])) rfl (by rw [hml]; rfl) (argsL := [(.int p2)]) (rest := []) (lenOf pd_12 rfl) rfl (by show 2 * 0 + _ ≤ _; exact Nat.le_of_eq rfl) (hb hby at_97) (fun _ _ => ⟨rfl, rfl, (by decide : 4 + 0 ≤ _), (by decide : 16 + 0 ≤ _)⟩)
  dsimp only [Pt.U, Pt.locs, Pt.cells, Pt.slots] at X10 l10 y10 z10 st10 hQ10
  subst l10 y10 z10
  obtain ⟨i10, rfl, N10q, e10q⟩ := hQ10
  have N10 := Fr.app N9 N10q
  refine Go.via st10 ?_
  show Go p e below _ (T10.setTop (mkF m 100 #[.val (.int p1), .val (.int p2), .val (.int p3), .val (.int p4), .val (.int p5), .val (.int s0), .val (.int s1), .val (.int s2), .val (.int s3), .val (.int sc), .val (.ref b1), .unset, .unset, .unset, .unset, .unset] [(.int i10)]))
  refine Go.via (fun _ => XS.istore X10.here hx rfl (hb hby at_100) rfl (l' := #[.val (.int p1), .val (.int p2), .val (.int p3), .val (.int p4), .val (.int p5), .val (.int s0), .val (.int s1), .val (.int s2), .val (.int s3), .val (.int sc), .val (.ref b1), .val (.int i10), .unset, .unset, .unset, .unset]) rfl) ?_
  show Go p e below _ (T10.setTop (mkF m 102 #[.val (.int p1), .val (.int p2), .val (.int p3), .val (.int p4), .val (.int p5), .val (.int s0), .val (.int s1), .val (.int s2), .val (.int s3), .val (.int sc), .val (.ref b1), .val (.int i10), .unset, .unset, .unset, .unset] []))
  refine Go.via (fun _ => XS.iloadN X10.here hx rfl (hb hby at_102) rfl) ?_
  show Go p e below _ (T10.setTop (mkF m 103 #[.val (.int p1), .val (.int p2), .val (.int p3), .val (.int p4), .val (.int p5), .val (.int s0), .val (.int s1), .val (.int s2), .val (.int s3), .val (.int sc), .val (.ref b1), .val (.int i10), .unset, .unset, .unset, .unset] [(.int p3)]))
  obtain ⟨_, _, ⟨T11, L11, k11, n11⟩, -, X11, ⟨Lc11, hQ11, l11, y11, z11⟩, st11⟩ := Jvm.LawKit.callS X10 hx (y := (⟨"com/example/dogwood/dogwood/model/yaml/OccurrencesFromPinLaw", "idx", "(I)I"⟩ : MethodName)) hown (mvT hZ (hw _ (List.mem_of_getElem? (i := 46) rfl))) (mvT hZ (hw _ (List.mem_of_getElem? (i := 47) rfl))) (mvT hZ (hw _ (List.mem_of_getElem? (i := 48) rfl))) (mvT hZ (hw _ (List.mem_of_getElem? (i := 49) rfl))) (by decide) (backOf (W := 0) (rmIdx l Z a0 hw [] p3 T9.heap n0 Zs9) hZ (hw _ (List.mem_of_getElem? (i := 49) rfl)) (hw _ (List.mem_of_getElem? (i := 48) rfl)) (by decide) (by decide)) (g := (mkF m 103 #[.val (.int p1), .val (.int p2), .val (.int p3), .val (.int p4), .val (.int p5), .val (.int s0), .val (.int s1), .val (.int s2), .val (.int s3), .val (.int sc), .val (.ref b1), .val (.int i10), .unset, .unset, .unset, .unset] [(.int p3)])) rfl (by rw [hml]; rfl) (argsL := [(.int p3)]) (rest := []) (lenOf pd_12 rfl) rfl (by show 2 * 0 + _ ≤ _; exact Nat.le_of_eq rfl) (hb hby at_103) (fun _ _ => ⟨rfl, e10q, (by decide : 4 + 0 ≤ _), (by decide : 16 + 0 ≤ _)⟩)
  dsimp only [Pt.U, Pt.locs, Pt.cells, Pt.slots] at X11 l11 y11 z11 st11 hQ11
  subst l11 y11 z11
  obtain ⟨i11, rfl, N11q, e11q⟩ := hQ11
  have N11 := Fr.app N10 N11q
  refine Go.via st11 ?_
  show Go p e below _ (T11.setTop (mkF m 106 #[.val (.int p1), .val (.int p2), .val (.int p3), .val (.int p4), .val (.int p5), .val (.int s0), .val (.int s1), .val (.int s2), .val (.int s3), .val (.int sc), .val (.ref b1), .val (.int i10), .unset, .unset, .unset, .unset] [(.int i11)]))
  refine Go.via (fun _ => XS.istore X11.here hx rfl (hb hby at_106) rfl (l' := #[.val (.int p1), .val (.int p2), .val (.int p3), .val (.int p4), .val (.int p5), .val (.int s0), .val (.int s1), .val (.int s2), .val (.int s3), .val (.int sc), .val (.ref b1), .val (.int i10), .val (.int i11), .unset, .unset, .unset]) rfl) ?_
  show Go p e below _ (T11.setTop (mkF m 108 #[.val (.int p1), .val (.int p2), .val (.int p3), .val (.int p4), .val (.int p5), .val (.int s0), .val (.int s1), .val (.int s2), .val (.int s3), .val (.int sc), .val (.ref b1), .val (.int i10), .val (.int i11), .unset, .unset, .unset] []))
  refine Go.via (fun _ => XS.iloadN X11.here hx rfl (hb hby at_108) rfl) ?_
  show Go p e below _ (T11.setTop (mkF m 109 #[.val (.int p1), .val (.int p2), .val (.int p3), .val (.int p4), .val (.int p5), .val (.int s0), .val (.int s1), .val (.int s2), .val (.int s3), .val (.int sc), .val (.ref b1), .val (.int i10), .val (.int i11), .unset, .unset, .unset] [(.int p4)]))
  obtain ⟨_, _, ⟨T12, L12, k12, n12⟩, -, X12, ⟨Lc12, hQ12, l12, y12, z12⟩, st12⟩ := Jvm.LawKit.callS X11 hx (y := (⟨"com/example/dogwood/dogwood/model/yaml/OccurrencesFromPinLaw", "idx", "(I)I"⟩ : MethodName)) hown (mvT hZ (hw _ (List.mem_of_getElem? (i := 46) rfl))) (mvT hZ (hw _ (List.mem_of_getElem? (i := 47) rfl))) (mvT hZ (hw _ (List.mem_of_getElem? (i := 48) rfl))) (mvT hZ (hw _ (List.mem_of_getElem? (i := 49) rfl))) (by decide) (backOf (W := 0) (rmIdx l Z a0 hw [] p4 T9.heap n0 Zs9) hZ (hw _ (List.mem_of_getElem? (i := 49) rfl)) (hw _ (List.mem_of_getElem? (i := 48) rfl)) (by decide) (by decide)) (g := (mkF m 109 #[.val (.int p1), .val (.int p2), .val (.int p3), .val (.int p4), .val (.int p5), .val (.int s0), .val (.int s1), .val (.int s2), .val (.int s3), .val (.int sc), .val (.ref b1), .val (.int i10), .val (.int i11), .unset, .unset, .unset] [(.int p4)])) rfl (by rw [hml]; rfl) (argsL := [(.int p4)]) (rest := []) (lenOf pd_12 rfl) rfl (by show 2 * 0 + _ ≤ _; exact Nat.le_of_eq rfl) (hb hby at_109) (fun _ _ => ⟨rfl, e11q, (by decide : 4 + 0 ≤ _), (by decide : 16 + 0 ≤ _)⟩)
  dsimp only [Pt.U, Pt.locs, Pt.cells, Pt.slots] at X12 l12 y12 z12 st12 hQ12
  subst l12 y12 z12
  obtain ⟨i12, rfl, N12q, e12q⟩ := hQ12
  have N12 := Fr.app N11 N12q
  refine Go.via st12 ?_
  show Go p e below _ (T12.setTop (mkF m 112 #[.val (.int p1), .val (.int p2), .val (.int p3), .val (.int p4), .val (.int p5), .val (.int s0), .val (.int s1), .val (.int s2), .val (.int s3), .val (.int sc), .val (.ref b1), .val (.int i10), .val (.int i11), .unset, .unset, .unset] [(.int i12)]))
  refine Go.via (fun _ => XS.istore X12.here hx rfl (hb hby at_112) rfl (l' := #[.val (.int p1), .val (.int p2), .val (.int p3), .val (.int p4), .val (.int p5), .val (.int s0), .val (.int s1), .val (.int s2), .val (.int s3), .val (.int sc), .val (.ref b1), .val (.int i10), .val (.int i11), .val (.int i12), .unset, .unset]) rfl) ?_
  show Go p e below _ (T12.setTop (mkF m 114 #[.val (.int p1), .val (.int p2), .val (.int p3), .val (.int p4), .val (.int p5), .val (.int s0), .val (.int s1), .val (.int s2), .val (.int s3), .val (.int sc), .val (.ref b1), .val (.int i10), .val (.int i11), .val (.int i12), .unset, .unset] []))
  refine Go.via (fun _ => XS.iload X12.here hx rfl (hb hby at_114) rfl) ?_
  show Go p e below _ (T12.setTop (mkF m 116 #[.val (.int p1), .val (.int p2), .val (.int p3), .val (.int p4), .val (.int p5), .val (.int s0), .val (.int s1), .val (.int s2), .val (.int s3), .val (.int sc), .val (.ref b1), .val (.int i10), .val (.int i11), .val (.int i12), .unset, .unset] [(.int p5)]))
  obtain ⟨_, _, ⟨T13, L13, k13, n13⟩, -, X13, ⟨Lc13, hQ13, l13, y13, z13⟩, st13⟩ := Jvm.LawKit.callS X12 hx (y := (⟨"com/example/dogwood/dogwood/model/yaml/OccurrencesFromPinLaw", "idx", "(I)I"⟩ : MethodName)) hown (mvT hZ (hw _ (List.mem_of_getElem? (i := 46) rfl))) (mvT hZ (hw _ (List.mem_of_getElem? (i := 47) rfl))) (mvT hZ (hw _ (List.mem_of_getElem? (i := 48) rfl))) (mvT hZ (hw _ (List.mem_of_getElem? (i := 49) rfl))) (by decide) (backOf (W := 0) (rmIdx l Z a0 hw [] p5 T9.heap n0 Zs9) hZ (hw _ (List.mem_of_getElem? (i := 49) rfl)) (hw _ (List.mem_of_getElem? (i := 48) rfl)) (by decide) (by decide)) (g := (mkF m 116 #[.val (.int p1), .val (.int p2), .val (.int p3), .val (.int p4), .val (.int p5), .val (.int s0), .val (.int s1), .val (.int s2), .val (.int s3), .val (.int sc), .val (.ref b1), .val (.int i10), .val (.int i11), .val (.int i12), .unset, .unset] [(.int p5)])) rfl (by rw [hml]; rfl) (argsL := [(.int p5)]) (rest := []) (lenOf pd_12 rfl) rfl (by show 2 * 0 + _ ≤ _; exact Nat.le_of_eq rfl) (hb hby at_116) (fun _ _ => ⟨rfl, e12q, (by decide : 4 + 0 ≤ _), (by decide : 16 + 0 ≤ _)⟩)
  dsimp only [Pt.U, Pt.locs, Pt.cells, Pt.slots] at X13 l13 y13 z13 st13 hQ13
  subst l13 y13 z13
  obtain ⟨i13, rfl, N13q, e13q⟩ := hQ13
  have N13 := Fr.app N12 N13q
  refine Go.via st13 ?_
  show Go p e below _ (T13.setTop (mkF m 119 #[.val (.int p1), .val (.int p2), .val (.int p3), .val (.int p4), .val (.int p5), .val (.int s0), .val (.int s1), .val (.int s2), .val (.int s3), .val (.int sc), .val (.ref b1), .val (.int i10), .val (.int i11), .val (.int i12), .unset, .unset] [(.int i13)]))
  refine Go.via (fun _ => XS.istore X13.here hx rfl (hb hby at_119) rfl (l' := #[.val (.int p1), .val (.int p2), .val (.int p3), .val (.int p4), .val (.int p5), .val (.int s0), .val (.int s1), .val (.int s2), .val (.int s3), .val (.int sc), .val (.ref b1), .val (.int i10), .val (.int i11), .val (.int i12), .val (.int i13), .unset]) rfl) ?_
  show Go p e below _ (T13.setTop (mkF m 121 #[.val (.int p1), .val (.int p2), .val (.int p3), .val (.int p4), .val (.int p5), .val (.int s0), .val (.int s1), .val (.int s2), .val (.int s3), .val (.int sc), .val (.ref b1), .val (.int i10), .val (.int i11), .val (.int i12), .val (.int i13), .unset] []))
  refine Go.via (fun _ => XS.aload X13.here hx rfl (hb hby at_121) rfl rfl) ?_
  show Go p e below _ (T13.setTop (mkF m 123 #[.val (.int p1), .val (.int p2), .val (.int p3), .val (.int p4), .val (.int p5), .val (.int s0), .val (.int s1), .val (.int s2), .val (.int s3), .val (.int sc), .val (.ref b1), .val (.int i10), .val (.int i11), .val (.int i12), .val (.int i13), .unset] [(.ref b1)]))
  refine Go.via (fun _ => XS.iload X13.here hx rfl (hb hby at_123) rfl) ?_
  show Go p e below _ (T13.setTop (mkF m 125 #[.val (.int p1), .val (.int p2), .val (.int p3), .val (.int p4), .val (.int p5), .val (.int s0), .val (.int s1), .val (.int s2), .val (.int s3), .val (.int sc), .val (.ref b1), .val (.int i10), .val (.int i11), .val (.int i12), .val (.int i13), .unset] [(.int i10), (.ref b1)]))
  obtain ⟨cq14, kq14, q14a, q14b, q14c⟩ := isOf hZ e13q fE_b1_9
  obtain ⟨_, _, ⟨T14, L14, k14, n14⟩, -, X14, ⟨Lc14, hQ14, l14, y14, z14⟩, st14⟩ := X13.virtualBack hx (y := (⟨"com/example/dogwood/dogwood/model/yaml/Occurrences", "from", "(I)I"⟩ : MethodName)) (z := (⟨"com/example/dogwood/dogwood/model/yaml/Occurrences", "from", "(I)I"⟩ : MethodName)) hown (mvT hZ (hw _ (List.mem_of_getElem? (i := 50) rfl))) (mvT hZ (hw _ (List.mem_of_getElem? (i := 51) rfl))) (notFace_of_selects (args := #[]) (mvT hZ (hw _ (List.mem_of_getElem? (i := 53) rfl)))) (mvT hZ (hw _ (List.mem_of_getElem? (i := 53) rfl))) (mvT hZ (hw _ (List.mem_of_getElem? (i := 52) rfl))) (by decide) (backOf (W := 0) (rmFrom l Z a0 hw [] b1 b2 t8 kb8 s0 s1 s2 s3 sc (2147483647 : Int32) i10 ccs T9.heap n0 Zs9 fE_b1_9 ff9 fd9 ft9 fc9 g_b1 fE_b2_9 fF_b2_value_9 fF_b2_coder_9 fV_t8_9 q_s0 q_s1 q_s2 q_s3 r_sc.1 r_sc.2.1 O9 S_CS hcs) hZ (hw _ (List.mem_of_getElem? (i := 54) rfl)) (hw _ (List.mem_of_getElem? (i := 2) rfl)) (by decide) (by decide)) q14a q14c (g := (mkF m 125 #[.val (.int p1), .val (.int p2), .val (.int p3), .val (.int p4), .val (.int p5), .val (.int s0), .val (.int s1), .val (.int s2), .val (.int s3), .val (.int sc), .val (.ref b1), .val (.int i10), .val (.int i11), .val (.int i12), .val (.int i13), .unset] [(.int i10), (.ref b1)])) rfl (by rw [hml]; rfl) (Steps.refl _) (argsL := [(.int i10)]) (rest := []) (lenOf pd_12 rfl) rfl (by show 2 * 0 + _ ≤ _; exact Nat.le_of_eq rfl) (hb hby at_125) (fun _ _ => ⟨rfl, e13q, (by decide : 4 + 0 ≤ _), (by decide : 16 + 0 ≤ _)⟩)
  dsimp only [Pt.U, Pt.locs, Pt.cells, Pt.slots] at X14 l14 y14 z14 st14 hQ14
  subst l14 y14 z14
  obtain ⟨rfl, N14q, K14q, ff14, fd14, ft14, fc14⟩ := hQ14
  have N14 := Fr.app N13 N14q
  refine Go.tr st14 ?_
  have Zs14 : n0 ≤ T14.heap.size := Nat.le_trans Zs9 K14q.1
  have O14 : Old Z n0 T14.heap := O9.keep K14q (allS g_b1 all0)
  have fE_b1_14 := fE_b1_9.keep K14q
  have fE_b2_14 := fE_b2_9.keep K14q
  have fV_b3_14 := fV_b3_9.keep K14q (ninS (Ne.symm ne_b1_b3) nin0)
  have fV_t8_14 := fV_t8_9.keep K14q (ninS (Ne.symm ne_b1_t8) nin0)
  have fF_b2_value_14 := fF_b2_value_9.keep K14q (ninS (Ne.symm ne_b1_b2) nin0)
  have fF_b2_coder_14 := fF_b2_coder_9.keep K14q (ninS (Ne.symm ne_b1_b2) nin0)
  show Go p e below _ (T14.setTop (mkF m 128 #[.val (.int p1), .val (.int p2), .val (.int p3), .val (.int p4), .val (.int p5), .val (.int s0), .val (.int s1), .val (.int s2), .val (.int s3), .val (.int sc), .val (.ref b1), .val (.int i10), .val (.int i11), .val (.int i12), .val (.int i13), .unset] [(.int (ix4 s0 s1 s2 s3 sc i10))]))
  refine Go.via (fun _ => XS.iload X14.here hx rfl (hb hby at_128) rfl) ?_
  show Go p e below _ (T14.setTop (mkF m 130 #[.val (.int p1), .val (.int p2), .val (.int p3), .val (.int p4), .val (.int p5), .val (.int s0), .val (.int s1), .val (.int s2), .val (.int s3), .val (.int sc), .val (.ref b1), .val (.int i10), .val (.int i11), .val (.int i12), .val (.int i13), .unset] [(.int s0), (.int (ix4 s0 s1 s2 s3 sc i10))]))
  refine Go.via (fun _ => XS.iload X14.here hx rfl (hb hby at_130) rfl) ?_
  show Go p e below _ (T14.setTop (mkF m 132 #[.val (.int p1), .val (.int p2), .val (.int p3), .val (.int p4), .val (.int p5), .val (.int s0), .val (.int s1), .val (.int s2), .val (.int s3), .val (.int sc), .val (.ref b1), .val (.int i10), .val (.int i11), .val (.int i12), .val (.int i13), .unset] [(.int s1), (.int s0), (.int (ix4 s0 s1 s2 s3 sc i10))]))
  refine Go.via (fun _ => XS.iload X14.here hx rfl (hb hby at_132) rfl) ?_
  show Go p e below _ (T14.setTop (mkF m 134 #[.val (.int p1), .val (.int p2), .val (.int p3), .val (.int p4), .val (.int p5), .val (.int s0), .val (.int s1), .val (.int s2), .val (.int s3), .val (.int sc), .val (.ref b1), .val (.int i10), .val (.int i11), .val (.int i12), .val (.int i13), .unset] [(.int s2), (.int s1), (.int s0), (.int (ix4 s0 s1 s2 s3 sc i10))]))
  refine Go.via (fun _ => XS.iload X14.here hx rfl (hb hby at_134) rfl) ?_
  show Go p e below _ (T14.setTop (mkF m 136 #[.val (.int p1), .val (.int p2), .val (.int p3), .val (.int p4), .val (.int p5), .val (.int s0), .val (.int s1), .val (.int s2), .val (.int s3), .val (.int sc), .val (.ref b1), .val (.int i10), .val (.int i11), .val (.int i12), .val (.int i13), .unset] [(.int s3), (.int s2), (.int s1), (.int s0), (.int (ix4 s0 s1 s2 s3 sc i10))]))
  refine Go.via (fun _ => XS.iload X14.here hx rfl (hb hby at_136) rfl) ?_
  show Go p e below _ (T14.setTop (mkF m 138 #[.val (.int p1), .val (.int p2), .val (.int p3), .val (.int p4), .val (.int p5), .val (.int s0), .val (.int s1), .val (.int s2), .val (.int s3), .val (.int sc), .val (.ref b1), .val (.int i10), .val (.int i11), .val (.int i12), .val (.int i13), .unset] [(.int sc), (.int s3), (.int s2), (.int s1), (.int s0), (.int (ix4 s0 s1 s2 s3 sc i10))]))
  refine Go.via (fun _ => XS.iload X14.here hx rfl (hb hby at_138) rfl) ?_
  show Go p e below _ (T14.setTop (mkF m 140 #[.val (.int p1), .val (.int p2), .val (.int p3), .val (.int p4), .val (.int p5), .val (.int s0), .val (.int s1), .val (.int s2), .val (.int s3), .val (.int sc), .val (.ref b1), .val (.int i10), .val (.int i11), .val (.int i12), .val (.int i13), .unset] [(.int i10), (.int sc), (.int s3), (.int s2), (.int s1), (.int s0), (.int (ix4 s0 s1 s2 s3 sc i10))]))
  obtain ⟨_, _, ⟨T15, L15, k15, n15⟩, -, X15, ⟨Lc15, hQ15, l15, y15, z15⟩, st15⟩ := Jvm.LawKit.callS X14 hx (y := (⟨"com/example/dogwood/dogwood/model/yaml/OccurrencesFromPinLaw", "ref", "(CCCCCI)I"⟩ : MethodName)) hown (mvT hZ (hw _ (List.mem_of_getElem? (i := 92) rfl))) (mvT hZ (hw _ (List.mem_of_getElem? (i := 93) rfl))) (mvT hZ (hw _ (List.mem_of_getElem? (i := 48) rfl))) (mvT hZ (hw _ (List.mem_of_getElem? (i := 94) rfl))) (by decide) (backOf (W := 1) (rmRef l Z a0 hw [] s0 s1 s2 s3 sc i10 T14.heap n0 Zs14) hZ (hw _ (List.mem_of_getElem? (i := 94) rfl)) (hw _ (List.mem_of_getElem? (i := 48) rfl)) (by decide) (by decide)) (g := (mkF m 140 #[.val (.int p1), .val (.int p2), .val (.int p3), .val (.int p4), .val (.int p5), .val (.int s0), .val (.int s1), .val (.int s2), .val (.int s3), .val (.int sc), .val (.ref b1), .val (.int i10), .val (.int i11), .val (.int i12), .val (.int i13), .unset] [(.int i10), (.int sc), (.int s3), (.int s2), (.int s1), (.int s0), (.int (ix4 s0 s1 s2 s3 sc i10))])) rfl (by rw [hml]; rfl) (argsL := [(.int s0), (.int s1), (.int s2), (.int s3), (.int sc), (.int i10)]) (rest := [(.int (ix4 s0 s1 s2 s3 sc i10))]) (lenOf pd_13 rfl) rfl (by show 2 * 0 + _ ≤ _; exact Nat.le_of_eq rfl) (hb hby at_140) (fun _ _ => ⟨rfl, rfl, (by decide : 4 + 0 ≤ _), (by decide : 16 + 0 ≤ _)⟩)
  dsimp only [Pt.U, Pt.locs, Pt.cells, Pt.slots] at X15 l15 y15 z15 st15 hQ15
  subst l15 y15 z15
  obtain ⟨rfl, N15q, e15q⟩ := hQ15
  have N15 := Fr.app N14 N15q
  refine Go.via st15 ?_
  show Go p e below _ (T15.setTop (mkF m 143 #[.val (.int p1), .val (.int p2), .val (.int p3), .val (.int p4), .val (.int p5), .val (.int s0), .val (.int s1), .val (.int s2), .val (.int s3), .val (.int sc), .val (.ref b1), .val (.int i10), .val (.int i11), .val (.int i12), .val (.int i13), .unset] [(.int (ix4 s0 s1 s2 s3 sc i10)), (.int (ix4 s0 s1 s2 s3 sc i10))]))
  refine Go.via (fun _ => XS.icmpNo X15.here hx rfl (hb hby at_143) rfl (teq rfl).2) ?_
  show Go p e below _ (T15.setTop (mkF m 146 #[.val (.int p1), .val (.int p2), .val (.int p3), .val (.int p4), .val (.int p5), .val (.int s0), .val (.int s1), .val (.int s2), .val (.int s3), .val (.int sc), .val (.ref b1), .val (.int i10), .val (.int i11), .val (.int i12), .val (.int i13), .unset] []))
  refine Go.via (fun _ => XS.iconst X15.here hx rfl (hb hby at_146)) ?_
  show Go p e below _ (T15.setTop (mkF m 147 #[.val (.int p1), .val (.int p2), .val (.int p3), .val (.int p4), .val (.int p5), .val (.int s0), .val (.int s1), .val (.int s2), .val (.int s3), .val (.int sc), .val (.ref b1), .val (.int i10), .val (.int i11), .val (.int i12), .val (.int i13), .unset] [(.int (1 : Int32))]))
  refine Go.via (fun _ => XS.goto X15.here hx rfl (pc0 := 147) (pc' := 151) rfl (hb hby at_147) (by decide) (by decide)) ?_
  show Go p e below _ (T15.setTop (mkF m 151 #[.val (.int p1), .val (.int p2), .val (.int p3), .val (.int p4), .val (.int p5), .val (.int s0), .val (.int s1), .val (.int s2), .val (.int s3), .val (.int sc), .val (.ref b1), .val (.int i10), .val (.int i11), .val (.int i12), .val (.int i13), .unset] [(.int (1 : Int32))]))
  refine Go.via (fun _ => XS.istore X15.here hx rfl (hb hby at_151) rfl (l' := #[.val (.int p1), .val (.int p2), .val (.int p3), .val (.int p4), .val (.int p5), .val (.int s0), .val (.int s1), .val (.int s2), .val (.int s3), .val (.int sc), .val (.ref b1), .val (.int i10), .val (.int i11), .val (.int i12), .val (.int i13), .val (.int (1 : Int32))]) rfl) ?_
  show Go p e below _ (T15.setTop (mkF m 153 #[.val (.int p1), .val (.int p2), .val (.int p3), .val (.int p4), .val (.int p5), .val (.int s0), .val (.int s1), .val (.int s2), .val (.int s3), .val (.int sc), .val (.ref b1), .val (.int i10), .val (.int i11), .val (.int i12), .val (.int i13), .val (.int (1 : Int32))] []))
  refine Go.via (fun _ => XS.iload X15.here hx rfl (hb hby at_153) rfl) ?_
  show Go p e below _ (T15.setTop (mkF m 155 #[.val (.int p1), .val (.int p2), .val (.int p3), .val (.int p4), .val (.int p5), .val (.int s0), .val (.int s1), .val (.int s2), .val (.int s3), .val (.int sc), .val (.ref b1), .val (.int i10), .val (.int i11), .val (.int i12), .val (.int i13), .val (.int (1 : Int32))] [(.int (1 : Int32))]))
  refine Go.via (fun _ => XS.aload X15.here hx rfl (hb hby at_155) rfl rfl) ?_
  show Go p e below _ (T15.setTop (mkF m 157 #[.val (.int p1), .val (.int p2), .val (.int p3), .val (.int p4), .val (.int p5), .val (.int s0), .val (.int s1), .val (.int s2), .val (.int s3), .val (.int sc), .val (.ref b1), .val (.int i10), .val (.int i11), .val (.int i12), .val (.int i13), .val (.int (1 : Int32))] [(.ref b1), (.int (1 : Int32))]))
  refine Go.via (fun _ => XS.iload X15.here hx rfl (hb hby at_157) rfl) ?_
  show Go p e below _ (T15.setTop (mkF m 159 #[.val (.int p1), .val (.int p2), .val (.int p3), .val (.int p4), .val (.int p5), .val (.int s0), .val (.int s1), .val (.int s2), .val (.int s3), .val (.int sc), .val (.ref b1), .val (.int i10), .val (.int i11), .val (.int i12), .val (.int i13), .val (.int (1 : Int32))] [(.int i11), (.ref b1), (.int (1 : Int32))]))
  obtain ⟨cq16, kq16, q16a, q16b, q16c⟩ := isOf hZ e15q fE_b1_14
  obtain ⟨_, _, ⟨T16, L16, k16, n16⟩, -, X16, ⟨Lc16, hQ16, l16, y16, z16⟩, st16⟩ := X15.virtualBack hx (y := (⟨"com/example/dogwood/dogwood/model/yaml/Occurrences", "from", "(I)I"⟩ : MethodName)) (z := (⟨"com/example/dogwood/dogwood/model/yaml/Occurrences", "from", "(I)I"⟩ : MethodName)) hown (mvT hZ (hw _ (List.mem_of_getElem? (i := 50) rfl))) (mvT hZ (hw _ (List.mem_of_getElem? (i := 51) rfl))) (notFace_of_selects (args := #[]) (mvT hZ (hw _ (List.mem_of_getElem? (i := 53) rfl)))) (mvT hZ (hw _ (List.mem_of_getElem? (i := 53) rfl))) (mvT hZ (hw _ (List.mem_of_getElem? (i := 52) rfl))) (by decide) (backOf (W := 1) (rmFrom l Z a0 hw [] b1 b2 t8 kb8 s0 s1 s2 s3 sc i10 i11 ccs T14.heap n0 Zs14 fE_b1_14 ff14 fd14 ft14 fc14 g_b1 fE_b2_14 fF_b2_value_14 fF_b2_coder_14 fV_t8_14 q_s0 q_s1 q_s2 q_s3 r_sc.1 r_sc.2.1 O14 S_CS hcs) hZ (hw _ (List.mem_of_getElem? (i := 54) rfl)) (hw _ (List.mem_of_getElem? (i := 2) rfl)) (by decide) (by decide)) q16a q16c (g := (mkF m 159 #[.val (.int p1), .val (.int p2), .val (.int p3), .val (.int p4), .val (.int p5), .val (.int s0), .val (.int s1), .val (.int s2), .val (.int s3), .val (.int sc), .val (.ref b1), .val (.int i10), .val (.int i11), .val (.int i12), .val (.int i13), .val (.int (1 : Int32))] [(.int i11), (.ref b1), (.int (1 : Int32))])) rfl (by rw [hml]; rfl) (Steps.refl _) (argsL := [(.int i11)]) (rest := [(.int (1 : Int32))]) (lenOf pd_12 rfl) rfl (by show 2 * 0 + _ ≤ _; exact Nat.le_of_eq rfl) (hb hby at_159) (fun _ _ => ⟨rfl, e15q, (by decide : 4 + 0 ≤ _), (by decide : 16 + 0 ≤ _)⟩)
  dsimp only [Pt.U, Pt.locs, Pt.cells, Pt.slots] at X16 l16 y16 z16 st16 hQ16
  subst l16 y16 z16
  obtain ⟨rfl, N16q, K16q, ff16, fd16, ft16, fc16⟩ := hQ16
  have N16 := Fr.app N15 N16q
  refine Go.tr st16 ?_
  have Zs16 : n0 ≤ T16.heap.size := Nat.le_trans Zs14 K16q.1
  have O16 : Old Z n0 T16.heap := O14.keep K16q (allS g_b1 all0)
  have fE_b1_16 := fE_b1_14.keep K16q
  have fE_b2_16 := fE_b2_14.keep K16q
  have fV_b3_16 := fV_b3_14.keep K16q (ninS (Ne.symm ne_b1_b3) nin0)
  have fV_t8_16 := fV_t8_14.keep K16q (ninS (Ne.symm ne_b1_t8) nin0)
  have fF_b2_value_16 := fF_b2_value_14.keep K16q (ninS (Ne.symm ne_b1_b2) nin0)
  have fF_b2_coder_16 := fF_b2_coder_14.keep K16q (ninS (Ne.symm ne_b1_b2) nin0)
  show Go p e below _ (T16.setTop (mkF m 162 #[.val (.int p1), .val (.int p2), .val (.int p3), .val (.int p4), .val (.int p5), .val (.int s0), .val (.int s1), .val (.int s2), .val (.int s3), .val (.int sc), .val (.ref b1), .val (.int i10), .val (.int i11), .val (.int i12), .val (.int i13), .val (.int (1 : Int32))] [(.int (ix4 s0 s1 s2 s3 sc i11)), (.int (1 : Int32))]))
  refine Go.via (fun _ => XS.iload X16.here hx rfl (hb hby at_162) rfl) ?_
  show Go p e below _ (T16.setTop (mkF m 164 #[.val (.int p1), .val (.int p2), .val (.int p3), .val (.int p4), .val (.int p5), .val (.int s0), .val (.int s1), .val (.int s2), .val (.int s3), .val (.int sc), .val (.ref b1), .val (.int i10), .val (.int i11), .val (.int i12), .val (.int i13), .val (.int (1 : Int32))] [(.int s0), (.int (ix4 s0 s1 s2 s3 sc i11)), (.int (1 : Int32))]))
  refine Go.via (fun _ => XS.iload X16.here hx rfl (hb hby at_164) rfl) ?_
  show Go p e below _ (T16.setTop (mkF m 166 #[.val (.int p1), .val (.int p2), .val (.int p3), .val (.int p4), .val (.int p5), .val (.int s0), .val (.int s1), .val (.int s2), .val (.int s3), .val (.int sc), .val (.ref b1), .val (.int i10), .val (.int i11), .val (.int i12), .val (.int i13), .val (.int (1 : Int32))] [(.int s1), (.int s0), (.int (ix4 s0 s1 s2 s3 sc i11)), (.int (1 : Int32))]))
  refine Go.via (fun _ => XS.iload X16.here hx rfl (hb hby at_166) rfl) ?_
  show Go p e below _ (T16.setTop (mkF m 168 #[.val (.int p1), .val (.int p2), .val (.int p3), .val (.int p4), .val (.int p5), .val (.int s0), .val (.int s1), .val (.int s2), .val (.int s3), .val (.int sc), .val (.ref b1), .val (.int i10), .val (.int i11), .val (.int i12), .val (.int i13), .val (.int (1 : Int32))] [(.int s2), (.int s1), (.int s0), (.int (ix4 s0 s1 s2 s3 sc i11)), (.int (1 : Int32))]))
  refine Go.via (fun _ => XS.iload X16.here hx rfl (hb hby at_168) rfl) ?_
  show Go p e below _ (T16.setTop (mkF m 170 #[.val (.int p1), .val (.int p2), .val (.int p3), .val (.int p4), .val (.int p5), .val (.int s0), .val (.int s1), .val (.int s2), .val (.int s3), .val (.int sc), .val (.ref b1), .val (.int i10), .val (.int i11), .val (.int i12), .val (.int i13), .val (.int (1 : Int32))] [(.int s3), (.int s2), (.int s1), (.int s0), (.int (ix4 s0 s1 s2 s3 sc i11)), (.int (1 : Int32))]))
  refine Go.via (fun _ => XS.iload X16.here hx rfl (hb hby at_170) rfl) ?_
  show Go p e below _ (T16.setTop (mkF m 172 #[.val (.int p1), .val (.int p2), .val (.int p3), .val (.int p4), .val (.int p5), .val (.int s0), .val (.int s1), .val (.int s2), .val (.int s3), .val (.int sc), .val (.ref b1), .val (.int i10), .val (.int i11), .val (.int i12), .val (.int i13), .val (.int (1 : Int32))] [(.int sc), (.int s3), (.int s2), (.int s1), (.int s0), (.int (ix4 s0 s1 s2 s3 sc i11)), (.int (1 : Int32))]))
  refine Go.via (fun _ => XS.iload X16.here hx rfl (hb hby at_172) rfl) ?_
  show Go p e below _ (T16.setTop (mkF m 174 #[.val (.int p1), .val (.int p2), .val (.int p3), .val (.int p4), .val (.int p5), .val (.int s0), .val (.int s1), .val (.int s2), .val (.int s3), .val (.int sc), .val (.ref b1), .val (.int i10), .val (.int i11), .val (.int i12), .val (.int i13), .val (.int (1 : Int32))] [(.int i11), (.int sc), (.int s3), (.int s2), (.int s1), (.int s0), (.int (ix4 s0 s1 s2 s3 sc i11)), (.int (1 : Int32))]))
  obtain ⟨_, _, ⟨T17, L17, k17, n17⟩, -, X17, ⟨Lc17, hQ17, l17, y17, z17⟩, st17⟩ := Jvm.LawKit.callS X16 hx (y := (⟨"com/example/dogwood/dogwood/model/yaml/OccurrencesFromPinLaw", "ref", "(CCCCCI)I"⟩ : MethodName)) hown (mvT hZ (hw _ (List.mem_of_getElem? (i := 92) rfl))) (mvT hZ (hw _ (List.mem_of_getElem? (i := 93) rfl))) (mvT hZ (hw _ (List.mem_of_getElem? (i := 48) rfl))) (mvT hZ (hw _ (List.mem_of_getElem? (i := 94) rfl))) (by decide) (backOf (W := 2) (rmRef l Z a0 hw [] s0 s1 s2 s3 sc i11 T16.heap n0 Zs16) hZ (hw _ (List.mem_of_getElem? (i := 94) rfl)) (hw _ (List.mem_of_getElem? (i := 48) rfl)) (by decide) (by decide)) (g := (mkF m 174 #[.val (.int p1), .val (.int p2), .val (.int p3), .val (.int p4), .val (.int p5), .val (.int s0), .val (.int s1), .val (.int s2), .val (.int s3), .val (.int sc), .val (.ref b1), .val (.int i10), .val (.int i11), .val (.int i12), .val (.int i13), .val (.int (1 : Int32))] [(.int i11), (.int sc), (.int s3), (.int s2), (.int s1), (.int s0), (.int (ix4 s0 s1 s2 s3 sc i11)), (.int (1 : Int32))])) rfl (by rw [hml]; rfl) (argsL := [(.int s0), (.int s1), (.int s2), (.int s3), (.int sc), (.int i11)]) (rest := [(.int (ix4 s0 s1 s2 s3 sc i11)), (.int (1 : Int32))]) (lenOf pd_13 rfl) rfl (by show 2 * 0 + _ ≤ _; exact Nat.le_of_eq rfl) (hb hby at_174) (fun _ _ => ⟨rfl, rfl, (by decide : 4 + 0 ≤ _), (by decide : 16 + 0 ≤ _)⟩)
  dsimp only [Pt.U, Pt.locs, Pt.cells, Pt.slots] at X17 l17 y17 z17 st17 hQ17
  subst l17 y17 z17
  obtain ⟨rfl, N17q, e17q⟩ := hQ17
  have N17 := Fr.app N16 N17q
  refine Go.via st17 ?_
  show Go p e below _ (T17.setTop (mkF m 177 #[.val (.int p1), .val (.int p2), .val (.int p3), .val (.int p4), .val (.int p5), .val (.int s0), .val (.int s1), .val (.int s2), .val (.int s3), .val (.int sc), .val (.ref b1), .val (.int i10), .val (.int i11), .val (.int i12), .val (.int i13), .val (.int (1 : Int32))] [(.int (ix4 s0 s1 s2 s3 sc i11)), (.int (ix4 s0 s1 s2 s3 sc i11)), (.int (1 : Int32))]))
  refine Go.via (fun _ => XS.icmpNo X17.here hx rfl (hb hby at_177) rfl (teq rfl).2) ?_
  show Go p e below _ (T17.setTop (mkF m 180 #[.val (.int p1), .val (.int p2), .val (.int p3), .val (.int p4), .val (.int p5), .val (.int s0), .val (.int s1), .val (.int s2), .val (.int s3), .val (.int sc), .val (.ref b1), .val (.int i10), .val (.int i11), .val (.int i12), .val (.int i13), .val (.int (1 : Int32))] [(.int (1 : Int32))]))
  refine Go.via (fun _ => XS.iconst X17.here hx rfl (hb hby at_180)) ?_
  show Go p e below _ (T17.setTop (mkF m 181 #[.val (.int p1), .val (.int p2), .val (.int p3), .val (.int p4), .val (.int p5), .val (.int s0), .val (.int s1), .val (.int s2), .val (.int s3), .val (.int sc), .val (.ref b1), .val (.int i10), .val (.int i11), .val (.int i12), .val (.int i13), .val (.int (1 : Int32))] [(.int (1 : Int32)), (.int (1 : Int32))]))
  refine Go.via (fun _ => XS.goto X17.here hx rfl (pc0 := 181) (pc' := 185) rfl (hb hby at_181) (by decide) (by decide)) ?_
  show Go p e below _ (T17.setTop (mkF m 185 #[.val (.int p1), .val (.int p2), .val (.int p3), .val (.int p4), .val (.int p5), .val (.int s0), .val (.int s1), .val (.int s2), .val (.int s3), .val (.int sc), .val (.ref b1), .val (.int i10), .val (.int i11), .val (.int i12), .val (.int i13), .val (.int (1 : Int32))] [(.int (1 : Int32)), (.int (1 : Int32))]))
  refine Go.via (fun _ => XS.iand X17.here hx rfl (hb hby at_185) rfl) ?_
  show Go p e below _ (T17.setTop (mkF m 186 #[.val (.int p1), .val (.int p2), .val (.int p3), .val (.int p4), .val (.int p5), .val (.int s0), .val (.int s1), .val (.int s2), .val (.int s3), .val (.int sc), .val (.ref b1), .val (.int i10), .val (.int i11), .val (.int i12), .val (.int i13), .val (.int (1 : Int32))] [(.int (1 : Int32))]))
  refine Go.via (fun _ => XS.istore X17.here hx rfl (hb hby at_186) rfl (l' := #[.val (.int p1), .val (.int p2), .val (.int p3), .val (.int p4), .val (.int p5), .val (.int s0), .val (.int s1), .val (.int s2), .val (.int s3), .val (.int sc), .val (.ref b1), .val (.int i10), .val (.int i11), .val (.int i12), .val (.int i13), .val (.int (1 : Int32))]) rfl) ?_
  show Go p e below _ (T17.setTop (mkF m 188 #[.val (.int p1), .val (.int p2), .val (.int p3), .val (.int p4), .val (.int p5), .val (.int s0), .val (.int s1), .val (.int s2), .val (.int s3), .val (.int sc), .val (.ref b1), .val (.int i10), .val (.int i11), .val (.int i12), .val (.int i13), .val (.int (1 : Int32))] []))
  refine Go.via (fun _ => XS.iload X17.here hx rfl (hb hby at_188) rfl) ?_
  show Go p e below _ (T17.setTop (mkF m 190 #[.val (.int p1), .val (.int p2), .val (.int p3), .val (.int p4), .val (.int p5), .val (.int s0), .val (.int s1), .val (.int s2), .val (.int s3), .val (.int sc), .val (.ref b1), .val (.int i10), .val (.int i11), .val (.int i12), .val (.int i13), .val (.int (1 : Int32))] [(.int (1 : Int32))]))
  refine Go.via (fun _ => XS.aload X17.here hx rfl (hb hby at_190) rfl rfl) ?_
  show Go p e below _ (T17.setTop (mkF m 192 #[.val (.int p1), .val (.int p2), .val (.int p3), .val (.int p4), .val (.int p5), .val (.int s0), .val (.int s1), .val (.int s2), .val (.int s3), .val (.int sc), .val (.ref b1), .val (.int i10), .val (.int i11), .val (.int i12), .val (.int i13), .val (.int (1 : Int32))] [(.ref b1), (.int (1 : Int32))]))
  refine Go.via (fun _ => XS.iload X17.here hx rfl (hb hby at_192) rfl) ?_
  show Go p e below _ (T17.setTop (mkF m 194 #[.val (.int p1), .val (.int p2), .val (.int p3), .val (.int p4), .val (.int p5), .val (.int s0), .val (.int s1), .val (.int s2), .val (.int s3), .val (.int sc), .val (.ref b1), .val (.int i10), .val (.int i11), .val (.int i12), .val (.int i13), .val (.int (1 : Int32))] [(.int i12), (.ref b1), (.int (1 : Int32))]))
  obtain ⟨cq18, kq18, q18a, q18b, q18c⟩ := isOf hZ e17q fE_b1_16
  obtain ⟨_, _, ⟨T18, L18, k18, n18⟩, -, X18, ⟨Lc18, hQ18, l18, y18, z18⟩, st18⟩ := X17.virtualBack hx (y := (⟨"com/example/dogwood/dogwood/model/yaml/Occurrences", "from", "(I)I"⟩ : MethodName)) (z := (⟨"com/example/dogwood/dogwood/model/yaml/Occurrences", "from", "(I)I"⟩ : MethodName)) hown (mvT hZ (hw _ (List.mem_of_getElem? (i := 50) rfl))) (mvT hZ (hw _ (List.mem_of_getElem? (i := 51) rfl))) (notFace_of_selects (args := #[]) (mvT hZ (hw _ (List.mem_of_getElem? (i := 53) rfl)))) (mvT hZ (hw _ (List.mem_of_getElem? (i := 53) rfl))) (mvT hZ (hw _ (List.mem_of_getElem? (i := 52) rfl))) (by decide) (backOf (W := 1) (rmFrom l Z a0 hw [] b1 b2 t8 kb8 s0 s1 s2 s3 sc i11 i12 ccs T16.heap n0 Zs16 fE_b1_16 ff16 fd16 ft16 fc16 g_b1 fE_b2_16 fF_b2_value_16 fF_b2_coder_16 fV_t8_16 q_s0 q_s1 q_s2 q_s3 r_sc.1 r_sc.2.1 O16 S_CS hcs) hZ (hw _ (List.mem_of_getElem? (i := 54) rfl)) (hw _ (List.mem_of_getElem? (i := 2) rfl)) (by decide) (by decide)) q18a q18c (g := (mkF m 194 #[.val (.int p1), .val (.int p2), .val (.int p3), .val (.int p4), .val (.int p5), .val (.int s0), .val (.int s1), .val (.int s2), .val (.int s3), .val (.int sc), .val (.ref b1), .val (.int i10), .val (.int i11), .val (.int i12), .val (.int i13), .val (.int (1 : Int32))] [(.int i12), (.ref b1), (.int (1 : Int32))])) rfl (by rw [hml]; rfl) (Steps.refl _) (argsL := [(.int i12)]) (rest := [(.int (1 : Int32))]) (lenOf pd_12 rfl) rfl (by show 2 * 0 + _ ≤ _; exact Nat.le_of_eq rfl) (hb hby at_194) (fun _ _ => ⟨rfl, e17q, (by decide : 4 + 0 ≤ _), (by decide : 16 + 0 ≤ _)⟩)
  dsimp only [Pt.U, Pt.locs, Pt.cells, Pt.slots] at X18 l18 y18 z18 st18 hQ18
  subst l18 y18 z18
  obtain ⟨rfl, N18q, K18q, ff18, fd18, ft18, fc18⟩ := hQ18
  have N18 := Fr.app N17 N18q
  refine Go.tr st18 ?_
  have Zs18 : n0 ≤ T18.heap.size := Nat.le_trans Zs16 K18q.1
  have O18 : Old Z n0 T18.heap := O16.keep K18q (allS g_b1 all0)
  have fE_b1_18 := fE_b1_16.keep K18q
  have fE_b2_18 := fE_b2_16.keep K18q
  have fV_b3_18 := fV_b3_16.keep K18q (ninS (Ne.symm ne_b1_b3) nin0)
  have fV_t8_18 := fV_t8_16.keep K18q (ninS (Ne.symm ne_b1_t8) nin0)
  have fF_b2_value_18 := fF_b2_value_16.keep K18q (ninS (Ne.symm ne_b1_b2) nin0)
  have fF_b2_coder_18 := fF_b2_coder_16.keep K18q (ninS (Ne.symm ne_b1_b2) nin0)
  show Go p e below _ (T18.setTop (mkF m 197 #[.val (.int p1), .val (.int p2), .val (.int p3), .val (.int p4), .val (.int p5), .val (.int s0), .val (.int s1), .val (.int s2), .val (.int s3), .val (.int sc), .val (.ref b1), .val (.int i10), .val (.int i11), .val (.int i12), .val (.int i13), .val (.int (1 : Int32))] [(.int (ix4 s0 s1 s2 s3 sc i12)), (.int (1 : Int32))]))
  refine Go.via (fun _ => XS.iload X18.here hx rfl (hb hby at_197) rfl) ?_
  show Go p e below _ (T18.setTop (mkF m 199 #[.val (.int p1), .val (.int p2), .val (.int p3), .val (.int p4), .val (.int p5), .val (.int s0), .val (.int s1), .val (.int s2), .val (.int s3), .val (.int sc), .val (.ref b1), .val (.int i10), .val (.int i11), .val (.int i12), .val (.int i13), .val (.int (1 : Int32))] [(.int s0), (.int (ix4 s0 s1 s2 s3 sc i12)), (.int (1 : Int32))]))
  refine Go.via (fun _ => XS.iload X18.here hx rfl (hb hby at_199) rfl) ?_
  show Go p e below _ (T18.setTop (mkF m 201 #[.val (.int p1), .val (.int p2), .val (.int p3), .val (.int p4), .val (.int p5), .val (.int s0), .val (.int s1), .val (.int s2), .val (.int s3), .val (.int sc), .val (.ref b1), .val (.int i10), .val (.int i11), .val (.int i12), .val (.int i13), .val (.int (1 : Int32))] [(.int s1), (.int s0), (.int (ix4 s0 s1 s2 s3 sc i12)), (.int (1 : Int32))]))
  refine Go.via (fun _ => XS.iload X18.here hx rfl (hb hby at_201) rfl) ?_
  show Go p e below _ (T18.setTop (mkF m 203 #[.val (.int p1), .val (.int p2), .val (.int p3), .val (.int p4), .val (.int p5), .val (.int s0), .val (.int s1), .val (.int s2), .val (.int s3), .val (.int sc), .val (.ref b1), .val (.int i10), .val (.int i11), .val (.int i12), .val (.int i13), .val (.int (1 : Int32))] [(.int s2), (.int s1), (.int s0), (.int (ix4 s0 s1 s2 s3 sc i12)), (.int (1 : Int32))]))
  refine Go.via (fun _ => XS.iload X18.here hx rfl (hb hby at_203) rfl) ?_
  show Go p e below _ (T18.setTop (mkF m 205 #[.val (.int p1), .val (.int p2), .val (.int p3), .val (.int p4), .val (.int p5), .val (.int s0), .val (.int s1), .val (.int s2), .val (.int s3), .val (.int sc), .val (.ref b1), .val (.int i10), .val (.int i11), .val (.int i12), .val (.int i13), .val (.int (1 : Int32))] [(.int s3), (.int s2), (.int s1), (.int s0), (.int (ix4 s0 s1 s2 s3 sc i12)), (.int (1 : Int32))]))
  refine Go.via (fun _ => XS.iload X18.here hx rfl (hb hby at_205) rfl) ?_
  show Go p e below _ (T18.setTop (mkF m 207 #[.val (.int p1), .val (.int p2), .val (.int p3), .val (.int p4), .val (.int p5), .val (.int s0), .val (.int s1), .val (.int s2), .val (.int s3), .val (.int sc), .val (.ref b1), .val (.int i10), .val (.int i11), .val (.int i12), .val (.int i13), .val (.int (1 : Int32))] [(.int sc), (.int s3), (.int s2), (.int s1), (.int s0), (.int (ix4 s0 s1 s2 s3 sc i12)), (.int (1 : Int32))]))
  refine Go.via (fun _ => XS.iload X18.here hx rfl (hb hby at_207) rfl) ?_
  show Go p e below _ (T18.setTop (mkF m 209 #[.val (.int p1), .val (.int p2), .val (.int p3), .val (.int p4), .val (.int p5), .val (.int s0), .val (.int s1), .val (.int s2), .val (.int s3), .val (.int sc), .val (.ref b1), .val (.int i10), .val (.int i11), .val (.int i12), .val (.int i13), .val (.int (1 : Int32))] [(.int i12), (.int sc), (.int s3), (.int s2), (.int s1), (.int s0), (.int (ix4 s0 s1 s2 s3 sc i12)), (.int (1 : Int32))]))
  obtain ⟨_, _, ⟨T19, L19, k19, n19⟩, -, X19, ⟨Lc19, hQ19, l19, y19, z19⟩, st19⟩ := Jvm.LawKit.callS X18 hx (y := (⟨"com/example/dogwood/dogwood/model/yaml/OccurrencesFromPinLaw", "ref", "(CCCCCI)I"⟩ : MethodName)) hown (mvT hZ (hw _ (List.mem_of_getElem? (i := 92) rfl))) (mvT hZ (hw _ (List.mem_of_getElem? (i := 93) rfl))) (mvT hZ (hw _ (List.mem_of_getElem? (i := 48) rfl))) (mvT hZ (hw _ (List.mem_of_getElem? (i := 94) rfl))) (by decide) (backOf (W := 2) (rmRef l Z a0 hw [] s0 s1 s2 s3 sc i12 T18.heap n0 Zs18) hZ (hw _ (List.mem_of_getElem? (i := 94) rfl)) (hw _ (List.mem_of_getElem? (i := 48) rfl)) (by decide) (by decide)) (g := (mkF m 209 #[.val (.int p1), .val (.int p2), .val (.int p3), .val (.int p4), .val (.int p5), .val (.int s0), .val (.int s1), .val (.int s2), .val (.int s3), .val (.int sc), .val (.ref b1), .val (.int i10), .val (.int i11), .val (.int i12), .val (.int i13), .val (.int (1 : Int32))] [(.int i12), (.int sc), (.int s3), (.int s2), (.int s1), (.int s0), (.int (ix4 s0 s1 s2 s3 sc i12)), (.int (1 : Int32))])) rfl (by rw [hml]; rfl) (argsL := [(.int s0), (.int s1), (.int s2), (.int s3), (.int sc), (.int i12)]) (rest := [(.int (ix4 s0 s1 s2 s3 sc i12)), (.int (1 : Int32))]) (lenOf pd_13 rfl) rfl (by show 2 * 0 + _ ≤ _; exact Nat.le_of_eq rfl) (hb hby at_209) (fun _ _ => ⟨rfl, rfl, (by decide : 4 + 0 ≤ _), (by decide : 16 + 0 ≤ _)⟩)
  dsimp only [Pt.U, Pt.locs, Pt.cells, Pt.slots] at X19 l19 y19 z19 st19 hQ19
  subst l19 y19 z19
  obtain ⟨rfl, N19q, e19q⟩ := hQ19
  have N19 := Fr.app N18 N19q
  refine Go.via st19 ?_
  show Go p e below _ (T19.setTop (mkF m 212 #[.val (.int p1), .val (.int p2), .val (.int p3), .val (.int p4), .val (.int p5), .val (.int s0), .val (.int s1), .val (.int s2), .val (.int s3), .val (.int sc), .val (.ref b1), .val (.int i10), .val (.int i11), .val (.int i12), .val (.int i13), .val (.int (1 : Int32))] [(.int (ix4 s0 s1 s2 s3 sc i12)), (.int (ix4 s0 s1 s2 s3 sc i12)), (.int (1 : Int32))]))
  refine Go.via (fun _ => XS.icmpNo X19.here hx rfl (hb hby at_212) rfl (teq rfl).2) ?_
  show Go p e below _ (T19.setTop (mkF m 215 #[.val (.int p1), .val (.int p2), .val (.int p3), .val (.int p4), .val (.int p5), .val (.int s0), .val (.int s1), .val (.int s2), .val (.int s3), .val (.int sc), .val (.ref b1), .val (.int i10), .val (.int i11), .val (.int i12), .val (.int i13), .val (.int (1 : Int32))] [(.int (1 : Int32))]))
  refine Go.via (fun _ => XS.iconst X19.here hx rfl (hb hby at_215)) ?_
  show Go p e below _ (T19.setTop (mkF m 216 #[.val (.int p1), .val (.int p2), .val (.int p3), .val (.int p4), .val (.int p5), .val (.int s0), .val (.int s1), .val (.int s2), .val (.int s3), .val (.int sc), .val (.ref b1), .val (.int i10), .val (.int i11), .val (.int i12), .val (.int i13), .val (.int (1 : Int32))] [(.int (1 : Int32)), (.int (1 : Int32))]))
  refine Go.via (fun _ => XS.goto X19.here hx rfl (pc0 := 216) (pc' := 220) rfl (hb hby at_216) (by decide) (by decide)) ?_
  show Go p e below _ (T19.setTop (mkF m 220 #[.val (.int p1), .val (.int p2), .val (.int p3), .val (.int p4), .val (.int p5), .val (.int s0), .val (.int s1), .val (.int s2), .val (.int s3), .val (.int sc), .val (.ref b1), .val (.int i10), .val (.int i11), .val (.int i12), .val (.int i13), .val (.int (1 : Int32))] [(.int (1 : Int32)), (.int (1 : Int32))]))
  refine Go.via (fun _ => XS.iand X19.here hx rfl (hb hby at_220) rfl) ?_
  show Go p e below _ (T19.setTop (mkF m 221 #[.val (.int p1), .val (.int p2), .val (.int p3), .val (.int p4), .val (.int p5), .val (.int s0), .val (.int s1), .val (.int s2), .val (.int s3), .val (.int sc), .val (.ref b1), .val (.int i10), .val (.int i11), .val (.int i12), .val (.int i13), .val (.int (1 : Int32))] [(.int (1 : Int32))]))
  refine Go.via (fun _ => XS.istore X19.here hx rfl (hb hby at_221) rfl (l' := #[.val (.int p1), .val (.int p2), .val (.int p3), .val (.int p4), .val (.int p5), .val (.int s0), .val (.int s1), .val (.int s2), .val (.int s3), .val (.int sc), .val (.ref b1), .val (.int i10), .val (.int i11), .val (.int i12), .val (.int i13), .val (.int (1 : Int32))]) rfl) ?_
  show Go p e below _ (T19.setTop (mkF m 223 #[.val (.int p1), .val (.int p2), .val (.int p3), .val (.int p4), .val (.int p5), .val (.int s0), .val (.int s1), .val (.int s2), .val (.int s3), .val (.int sc), .val (.ref b1), .val (.int i10), .val (.int i11), .val (.int i12), .val (.int i13), .val (.int (1 : Int32))] []))
  refine Go.via (fun _ => XS.iload X19.here hx rfl (hb hby at_223) rfl) ?_
  show Go p e below _ (T19.setTop (mkF m 225 #[.val (.int p1), .val (.int p2), .val (.int p3), .val (.int p4), .val (.int p5), .val (.int s0), .val (.int s1), .val (.int s2), .val (.int s3), .val (.int sc), .val (.ref b1), .val (.int i10), .val (.int i11), .val (.int i12), .val (.int i13), .val (.int (1 : Int32))] [(.int (1 : Int32))]))
  refine Go.via (fun _ => XS.aload X19.here hx rfl (hb hby at_225) rfl rfl) ?_
  show Go p e below _ (T19.setTop (mkF m 227 #[.val (.int p1), .val (.int p2), .val (.int p3), .val (.int p4), .val (.int p5), .val (.int s0), .val (.int s1), .val (.int s2), .val (.int s3), .val (.int sc), .val (.ref b1), .val (.int i10), .val (.int i11), .val (.int i12), .val (.int i13), .val (.int (1 : Int32))] [(.ref b1), (.int (1 : Int32))]))
  refine Go.via (fun _ => XS.iload X19.here hx rfl (hb hby at_227) rfl) ?_
  show Go p e below _ (T19.setTop (mkF m 229 #[.val (.int p1), .val (.int p2), .val (.int p3), .val (.int p4), .val (.int p5), .val (.int s0), .val (.int s1), .val (.int s2), .val (.int s3), .val (.int sc), .val (.ref b1), .val (.int i10), .val (.int i11), .val (.int i12), .val (.int i13), .val (.int (1 : Int32))] [(.int i13), (.ref b1), (.int (1 : Int32))]))
  obtain ⟨cq20, kq20, q20a, q20b, q20c⟩ := isOf hZ e19q fE_b1_18
  obtain ⟨_, _, ⟨T20, L20, k20, n20⟩, -, X20, ⟨Lc20, hQ20, l20, y20, z20⟩, st20⟩ := X19.virtualBack hx (y := (⟨"com/example/dogwood/dogwood/model/yaml/Occurrences", "from", "(I)I"⟩ : MethodName)) (z := (⟨"com/example/dogwood/dogwood/model/yaml/Occurrences", "from", "(I)I"⟩ : MethodName)) hown (mvT hZ (hw _ (List.mem_of_getElem? (i := 50) rfl))) (mvT hZ (hw _ (List.mem_of_getElem? (i := 51) rfl))) (notFace_of_selects (args := #[]) (mvT hZ (hw _ (List.mem_of_getElem? (i := 53) rfl)))) (mvT hZ (hw _ (List.mem_of_getElem? (i := 53) rfl))) (mvT hZ (hw _ (List.mem_of_getElem? (i := 52) rfl))) (by decide) (backOf (W := 1) (rmFrom l Z a0 hw [] b1 b2 t8 kb8 s0 s1 s2 s3 sc i12 i13 ccs T18.heap n0 Zs18 fE_b1_18 ff18 fd18 ft18 fc18 g_b1 fE_b2_18 fF_b2_value_18 fF_b2_coder_18 fV_t8_18 q_s0 q_s1 q_s2 q_s3 r_sc.1 r_sc.2.1 O18 S_CS hcs) hZ (hw _ (List.mem_of_getElem? (i := 54) rfl)) (hw _ (List.mem_of_getElem? (i := 2) rfl)) (by decide) (by decide)) q20a q20c (g := (mkF m 229 #[.val (.int p1), .val (.int p2), .val (.int p3), .val (.int p4), .val (.int p5), .val (.int s0), .val (.int s1), .val (.int s2), .val (.int s3), .val (.int sc), .val (.ref b1), .val (.int i10), .val (.int i11), .val (.int i12), .val (.int i13), .val (.int (1 : Int32))] [(.int i13), (.ref b1), (.int (1 : Int32))])) rfl (by rw [hml]; rfl) (Steps.refl _) (argsL := [(.int i13)]) (rest := [(.int (1 : Int32))]) (lenOf pd_12 rfl) rfl (by show 2 * 0 + _ ≤ _; exact Nat.le_of_eq rfl) (hb hby at_229) (fun _ _ => ⟨rfl, e19q, (by decide : 4 + 0 ≤ _), (by decide : 16 + 0 ≤ _)⟩)
  dsimp only [Pt.U, Pt.locs, Pt.cells, Pt.slots] at X20 l20 y20 z20 st20 hQ20
  subst l20 y20 z20
  obtain ⟨rfl, N20q, K20q, ff20, fd20, ft20, fc20⟩ := hQ20
  have N20 := Fr.app N19 N20q
  refine Go.tr st20 ?_
  have Zs20 : n0 ≤ T20.heap.size := Nat.le_trans Zs18 K20q.1
  have O20 : Old Z n0 T20.heap := O18.keep K20q (allS g_b1 all0)
  have fE_b1_20 := fE_b1_18.keep K20q
  have fE_b2_20 := fE_b2_18.keep K20q
  have fV_b3_20 := fV_b3_18.keep K20q (ninS (Ne.symm ne_b1_b3) nin0)
  have fV_t8_20 := fV_t8_18.keep K20q (ninS (Ne.symm ne_b1_t8) nin0)
  have fF_b2_value_20 := fF_b2_value_18.keep K20q (ninS (Ne.symm ne_b1_b2) nin0)
  have fF_b2_coder_20 := fF_b2_coder_18.keep K20q (ninS (Ne.symm ne_b1_b2) nin0)
  show Go p e below _ (T20.setTop (mkF m 232 #[.val (.int p1), .val (.int p2), .val (.int p3), .val (.int p4), .val (.int p5), .val (.int s0), .val (.int s1), .val (.int s2), .val (.int s3), .val (.int sc), .val (.ref b1), .val (.int i10), .val (.int i11), .val (.int i12), .val (.int i13), .val (.int (1 : Int32))] [(.int (ix4 s0 s1 s2 s3 sc i13)), (.int (1 : Int32))]))
  refine Go.via (fun _ => XS.iload X20.here hx rfl (hb hby at_232) rfl) ?_
  show Go p e below _ (T20.setTop (mkF m 234 #[.val (.int p1), .val (.int p2), .val (.int p3), .val (.int p4), .val (.int p5), .val (.int s0), .val (.int s1), .val (.int s2), .val (.int s3), .val (.int sc), .val (.ref b1), .val (.int i10), .val (.int i11), .val (.int i12), .val (.int i13), .val (.int (1 : Int32))] [(.int s0), (.int (ix4 s0 s1 s2 s3 sc i13)), (.int (1 : Int32))]))
  refine Go.via (fun _ => XS.iload X20.here hx rfl (hb hby at_234) rfl) ?_
  show Go p e below _ (T20.setTop (mkF m 236 #[.val (.int p1), .val (.int p2), .val (.int p3), .val (.int p4), .val (.int p5), .val (.int s0), .val (.int s1), .val (.int s2), .val (.int s3), .val (.int sc), .val (.ref b1), .val (.int i10), .val (.int i11), .val (.int i12), .val (.int i13), .val (.int (1 : Int32))] [(.int s1), (.int s0), (.int (ix4 s0 s1 s2 s3 sc i13)), (.int (1 : Int32))]))
  refine Go.via (fun _ => XS.iload X20.here hx rfl (hb hby at_236) rfl) ?_
  show Go p e below _ (T20.setTop (mkF m 238 #[.val (.int p1), .val (.int p2), .val (.int p3), .val (.int p4), .val (.int p5), .val (.int s0), .val (.int s1), .val (.int s2), .val (.int s3), .val (.int sc), .val (.ref b1), .val (.int i10), .val (.int i11), .val (.int i12), .val (.int i13), .val (.int (1 : Int32))] [(.int s2), (.int s1), (.int s0), (.int (ix4 s0 s1 s2 s3 sc i13)), (.int (1 : Int32))]))
  refine Go.via (fun _ => XS.iload X20.here hx rfl (hb hby at_238) rfl) ?_
  show Go p e below _ (T20.setTop (mkF m 240 #[.val (.int p1), .val (.int p2), .val (.int p3), .val (.int p4), .val (.int p5), .val (.int s0), .val (.int s1), .val (.int s2), .val (.int s3), .val (.int sc), .val (.ref b1), .val (.int i10), .val (.int i11), .val (.int i12), .val (.int i13), .val (.int (1 : Int32))] [(.int s3), (.int s2), (.int s1), (.int s0), (.int (ix4 s0 s1 s2 s3 sc i13)), (.int (1 : Int32))]))
  refine Go.via (fun _ => XS.iload X20.here hx rfl (hb hby at_240) rfl) ?_
  show Go p e below _ (T20.setTop (mkF m 242 #[.val (.int p1), .val (.int p2), .val (.int p3), .val (.int p4), .val (.int p5), .val (.int s0), .val (.int s1), .val (.int s2), .val (.int s3), .val (.int sc), .val (.ref b1), .val (.int i10), .val (.int i11), .val (.int i12), .val (.int i13), .val (.int (1 : Int32))] [(.int sc), (.int s3), (.int s2), (.int s1), (.int s0), (.int (ix4 s0 s1 s2 s3 sc i13)), (.int (1 : Int32))]))
  refine Go.via (fun _ => XS.iload X20.here hx rfl (hb hby at_242) rfl) ?_
  show Go p e below _ (T20.setTop (mkF m 244 #[.val (.int p1), .val (.int p2), .val (.int p3), .val (.int p4), .val (.int p5), .val (.int s0), .val (.int s1), .val (.int s2), .val (.int s3), .val (.int sc), .val (.ref b1), .val (.int i10), .val (.int i11), .val (.int i12), .val (.int i13), .val (.int (1 : Int32))] [(.int i13), (.int sc), (.int s3), (.int s2), (.int s1), (.int s0), (.int (ix4 s0 s1 s2 s3 sc i13)), (.int (1 : Int32))]))
  obtain ⟨_, _, ⟨T21, L21, k21, n21⟩, -, X21, ⟨Lc21, hQ21, l21, y21, z21⟩, st21⟩ := Jvm.LawKit.callS X20 hx (y := (⟨"com/example/dogwood/dogwood/model/yaml/OccurrencesFromPinLaw", "ref", "(CCCCCI)I"⟩ : MethodName)) hown (mvT hZ (hw _ (List.mem_of_getElem? (i := 92) rfl))) (mvT hZ (hw _ (List.mem_of_getElem? (i := 93) rfl))) (mvT hZ (hw _ (List.mem_of_getElem? (i := 48) rfl))) (mvT hZ (hw _ (List.mem_of_getElem? (i := 94) rfl))) (by decide) (backOf (W := 2) (rmRef l Z a0 hw [] s0 s1 s2 s3 sc i13 T20.heap n0 Zs20) hZ (hw _ (List.mem_of_getElem? (i := 94) rfl)) (hw _ (List.mem_of_getElem? (i := 48) rfl)) (by decide) (by decide)) (g := (mkF m 244 #[.val (.int p1), .val (.int p2), .val (.int p3), .val (.int p4), .val (.int p5), .val (.int s0), .val (.int s1), .val (.int s2), .val (.int s3), .val (.int sc), .val (.ref b1), .val (.int i10), .val (.int i11), .val (.int i12), .val (.int i13), .val (.int (1 : Int32))] [(.int i13), (.int sc), (.int s3), (.int s2), (.int s1), (.int s0), (.int (ix4 s0 s1 s2 s3 sc i13)), (.int (1 : Int32))])) rfl (by rw [hml]; rfl) (argsL := [(.int s0), (.int s1), (.int s2), (.int s3), (.int sc), (.int i13)]) (rest := [(.int (ix4 s0 s1 s2 s3 sc i13)), (.int (1 : Int32))]) (lenOf pd_13 rfl) rfl (by show 2 * 0 + _ ≤ _; exact Nat.le_of_eq rfl) (hb hby at_244) (fun _ _ => ⟨rfl, rfl, (by decide : 4 + 0 ≤ _), (by decide : 16 + 0 ≤ _)⟩)
  dsimp only [Pt.U, Pt.locs, Pt.cells, Pt.slots] at X21 l21 y21 z21 st21 hQ21
  subst l21 y21 z21
  obtain ⟨rfl, N21q, e21q⟩ := hQ21
  have N21 := Fr.app N20 N21q
  refine Go.via st21 ?_
  show Go p e below _ (T21.setTop (mkF m 247 #[.val (.int p1), .val (.int p2), .val (.int p3), .val (.int p4), .val (.int p5), .val (.int s0), .val (.int s1), .val (.int s2), .val (.int s3), .val (.int sc), .val (.ref b1), .val (.int i10), .val (.int i11), .val (.int i12), .val (.int i13), .val (.int (1 : Int32))] [(.int (ix4 s0 s1 s2 s3 sc i13)), (.int (ix4 s0 s1 s2 s3 sc i13)), (.int (1 : Int32))]))
  refine Go.via (fun _ => XS.icmpNo X21.here hx rfl (hb hby at_247) rfl (teq rfl).2) ?_
  show Go p e below _ (T21.setTop (mkF m 250 #[.val (.int p1), .val (.int p2), .val (.int p3), .val (.int p4), .val (.int p5), .val (.int s0), .val (.int s1), .val (.int s2), .val (.int s3), .val (.int sc), .val (.ref b1), .val (.int i10), .val (.int i11), .val (.int i12), .val (.int i13), .val (.int (1 : Int32))] [(.int (1 : Int32))]))
  refine Go.via (fun _ => XS.iconst X21.here hx rfl (hb hby at_250)) ?_
  show Go p e below _ (T21.setTop (mkF m 251 #[.val (.int p1), .val (.int p2), .val (.int p3), .val (.int p4), .val (.int p5), .val (.int s0), .val (.int s1), .val (.int s2), .val (.int s3), .val (.int sc), .val (.ref b1), .val (.int i10), .val (.int i11), .val (.int i12), .val (.int i13), .val (.int (1 : Int32))] [(.int (1 : Int32)), (.int (1 : Int32))]))
  refine Go.via (fun _ => XS.goto X21.here hx rfl (pc0 := 251) (pc' := 255) rfl (hb hby at_251) (by decide) (by decide)) ?_
  show Go p e below _ (T21.setTop (mkF m 255 #[.val (.int p1), .val (.int p2), .val (.int p3), .val (.int p4), .val (.int p5), .val (.int s0), .val (.int s1), .val (.int s2), .val (.int s3), .val (.int sc), .val (.ref b1), .val (.int i10), .val (.int i11), .val (.int i12), .val (.int i13), .val (.int (1 : Int32))] [(.int (1 : Int32)), (.int (1 : Int32))]))
  refine Go.via (fun _ => XS.iand X21.here hx rfl (hb hby at_255) rfl) ?_
  show Go p e below _ (T21.setTop (mkF m 256 #[.val (.int p1), .val (.int p2), .val (.int p3), .val (.int p4), .val (.int p5), .val (.int s0), .val (.int s1), .val (.int s2), .val (.int s3), .val (.int sc), .val (.ref b1), .val (.int i10), .val (.int i11), .val (.int i12), .val (.int i13), .val (.int (1 : Int32))] [(.int (1 : Int32))]))
  refine Go.via (fun _ => XS.istore X21.here hx rfl (hb hby at_256) rfl (l' := #[.val (.int p1), .val (.int p2), .val (.int p3), .val (.int p4), .val (.int p5), .val (.int s0), .val (.int s1), .val (.int s2), .val (.int s3), .val (.int sc), .val (.ref b1), .val (.int i10), .val (.int i11), .val (.int i12), .val (.int i13), .val (.int (1 : Int32))]) rfl) ?_
  show Go p e below _ (T21.setTop (mkF m 258 #[.val (.int p1), .val (.int p2), .val (.int p3), .val (.int p4), .val (.int p5), .val (.int s0), .val (.int s1), .val (.int s2), .val (.int s3), .val (.int sc), .val (.ref b1), .val (.int i10), .val (.int i11), .val (.int i12), .val (.int i13), .val (.int (1 : Int32))] []))
  refine Go.via (fun _ => XS.iload X21.here hx rfl (hb hby at_258) rfl) ?_
  show Go p e below _ (T21.setTop (mkF m 260 #[.val (.int p1), .val (.int p2), .val (.int p3), .val (.int p4), .val (.int p5), .val (.int s0), .val (.int s1), .val (.int s2), .val (.int s3), .val (.int sc), .val (.ref b1), .val (.int i10), .val (.int i11), .val (.int i12), .val (.int i13), .val (.int (1 : Int32))] [(.int (1 : Int32))]))
  exact own_retN X21 hx hlk (t := .boolean) Bd.returns (by simp) (hb hby at_260) (by show Q0 Z p1 p2 p3 p4 p5 ccs h0 n0 _ T21.heap _; rw [e21q]; exact ⟨rfl, N21⟩) (by decide) (by decide)
theorem own_eq_int {t : Term} {n : Int32} {args : Array Value} {s : State} (h : (Cond.eq t (.int n)).value args s none s [] = some true) : t.eval args s none [] s = some (.int n) := by
  simp only [Cond.value, Term.eval] at h
  split at h <;> simp_all
set_option maxRecDepth 65536 in
set_option maxHeartbeats 40000000 in
theorem comes_1 {Post : Tables → Env → Array Value → State → Outcome → State → Prop} (hpost : ∀ tb e args s v u, (limb_1_1.after args s (.returned v) u = true ∧ limb_1_2.after args s (.returned v) u = true ∧ True) → FrameEnd s (.returned v) u (Jvm.fieldLocs frame_1_writes args s ++ Jvm.arrayLocs frame_1_arrays args s ++ Jvm.staticLocs frame_1_statics s) 16 128 → Post tb e args s (.returned v) u) :
    ArmFor flags0 classFile x code maxLocals ret World_1 tables_1 room_1 Calls_1 rest_1 Pre_1 Post := by
  intro l hfl _ _ p e ha hc hk s m args below hf hA hF happ hP
  obtain ⟨hcalls, hrest, hpre⟩ := hP
  obtain ⟨-, -, -, hnamed, -, -, -, hat⟩ := (Spec.applies_iff hf).mp happ
  obtain ⟨hg, hn⟩ := and_e (Cond.before_iff.mp (show (Jvm.Cond.and given_1 narrow_1).before args s = true from hpre))
  obtain ⟨g1, g2⟩ := and_e hg
  obtain ⟨g3, g4⟩ := and_e g2
  obtain ⟨g5, g6⟩ := and_e g4
  obtain ⟨g7, g8⟩ := and_e g6
  obtain ⟨g9, g10⟩ := and_e g8
  obtain ⟨w0, w1, w2, w3, w4, rfl⟩ : ∃ w0 w1 w2 w3 w4 : Value, args = #[w0, w1, w2, w3, w4] := by
    have hs : args.size = 5 := by simpa [Cond.value, given_1] using g1
    obtain ⟨L⟩ := args
    match L, hs with
    | [w0, w1, w2, w3, w4], _ => exact ⟨w0, w1, w2, w3, w4, rfl⟩
  have hw := fun d (hd : d ∈ tables_1) => atoms_spec (ws := Jvm.Cond.code x code maxLocals ret :: tables_1) hat d (List.mem_cons_of_mem _ hd)
  obtain ⟨hsets, hown0⟩ := atoms_of _ (rest_1_c_eq ▸ (show rest_1_c.before _ s = true from hrest))
  have hr0 := Cond.before_iff.mp hown0
  have hfit : Fit s := fun {y c} hc i hi => by
    obtain ⟨ha, rfl⟩ := Array.getElem?_eq_some_iff.mp hc
    have q := List.all_eq_true.mp ((Array.all_eq_true_iff_forall_mem.mp hF) _ (Array.getElem_mem ha)) i (List.mem_range.mpr hi)
    simpa [Array.getElem?_eq_getElem hi] using q
  obtain ⟨i0, ei0⟩ := is_v g3
  obtain rfl : w0 = (.int i0) := Option.some.inj ei0
  obtain ⟨i1, ei1⟩ := is_v g5
  obtain rfl : w1 = (.int i1) := Option.some.inj ei1
  obtain ⟨i2, ei2⟩ := is_v g7
  obtain rfl : w2 = (.int i2) := Option.some.inj ei2
  obtain ⟨i3, ei3⟩ := is_v g9
  obtain rfl : w3 = (.int i3) := Option.some.inj ei3
  obtain ⟨i4, ei4⟩ := is_v g10
  obtain rfl : w4 = (.int i4) := Option.some.inj ei4
  obtain ⟨ccs, ecs⟩ := is_v (Cond.before_iff.mp (hsets _ (List.mem_of_getElem? (i := 1) rfl)))
  have S_CS : Sta s s.heap "java/lang/String" "COMPACT_STRINGS" "Z" (.int ccs) := Sta.start ecs (Or.inl (hsets _ (List.mem_of_getElem? (i := 0) rfl)))
  have ncs := not_v (Cond.before_iff.mp (hsets _ (List.mem_of_getElem? (i := 2) rfl)))
  have hcs : ¬ (ccs = (0 : Int32)) := gotF (Cond.eq_ints ecs (Term.int_eval (0))) ncs
  obtain ⟨n, o, h1, h2, h3, _, L, rfl, ⟨rfl, N⟩, hq⟩ := rm0 l s _ hw tables_1 i0 i1 i2 i3 i4 ccs s.heap s.heap.size (Nat.le_refl _) (Old.start s) S_CS hcs p e ha hc hk s m _ below hf ((Spec.applies_iff_loose hf).mp happ).1 ⟨rfl, State.Warmed39.refl s, rfl⟩ trivial
  refine ⟨n, _, h1, h2, h3, hpost _ _ _ _ _ _ ⟨Cond.after_iff.mpr rfl, Cond.after_iff.mpr (eq_i res_at (Term.int_eval (1)) rfl), trivial⟩ ⟨hq.1, hq.2.1, (hq.2.2.sift fun y hy => Or.inr (N y hy)).mono (by decide) (by decide)⟩⟩
theorem main_1_1 : Claimed_1_1 := comes_1 fun _ _ _ _ _ _ h hF => ⟨h.1, hF⟩
theorem main_1_2 : Claimed_1_2 := comes_1 fun _ _ _ _ _ _ h hF => ⟨h.2.1, hF⟩
end Jvm.Pilot.@@N@@
namespace Jvm.Pilot.@@N@@
open Jvm Jvm.ClassFile Sem Op Lib Jvm.Free Jvm.Stand Jvm.Pilot.@@N@@.Jvm.D
/-! MADE BY PROGRAM (witnessworld.py) out of the Statement's table words and the real class files: 21 classes; the members and pool entries that the words name. The judged class is class 1, her method 3. -/
namespace start1
open Jvm.ClassFile
def u (s : String) : CpInfo := .utf8 (stringToUtf16 s)
/-- a pool by its gaps: so many unusable entries, then the entry; so many at the end -/
def gap : Nat → List CpInfo → List CpInfo
  | 0, r => r
  | n + 1, r => .unusable :: gap n r
def poolList (es : List (Nat × CpInfo)) (last : Nat) : List CpInfo := es.foldr (fun e r => gap e.1 (e.2 :: r)) (gap last [])
def pool (es : List (Nat × CpInfo)) (last : Nat) : Array CpInfo := ⟨poolList es last⟩
def fileOf (pool : Array CpInfo) (this : Nat) (attrs : Array Attribute := #[]) (ms : Array MethodInfo := #[]) (fl : Nat := 33) (sup : Nat := 0) (ifs : Array Nat := #[]) (fds : Array FieldInfo := #[]) : ClassFile where
  minorVersion := 0
  majorVersion := 65
  constantPool := pool
  accessFlags := fl
  thisClass := this
  superClass := sup
  interfaces := ifs
  fields := fds
  methods := ms
  attributes := attrs
def plain (name : String) (sup : Option ClassId) : Class where
  name := name
  kind := .ordinary
  loader := none
  accessFlags := 33
  super := sup
  interfaces := #[]
  cf := none
  fields := #[]
  methods := #[]
  instanceTypes := #[]
  staticTypes := #[]
  resolved := #[]
  callSites := []
  init := .initialized
  statics := none
  mirror := none

def pool0 : Array CpInfo := pool [(5, u "<init>"), (0, u "()V"), (1, .class_ 10), (1, u "java/lang/Object")] 113

def k0c0 : Code := { maxStack := 0, maxLocals := 1, code := object_method_1_code, exceptionTable := #[], attributes := #[] }
def k0m0 : Method := { name := "<init>", desc := "()V", sig := { parameters := [], returnType := none }, accessFlags := 1, code := some k0c0 }
/-- java/lang/Object -/
def k0 : Class := { plain "java/lang/Object" none with
  accessFlags := 33
  interfaces := #[]
  cf := some (fileOf pool0 8 #[] #[{ accessFlags := 1, nameIndex := 5, descriptorIndex := 6, attributes := #[] }] 33 0 #[] #[])
  fields := #[]
  methods := #[k0m0]
  instanceTypes := #[]
  staticTypes := #[]
  resolved := Array.replicate 124 none
  statics := none }

def pool1 : Array CpInfo := pool [(2, .class_ 4), (1, u "java/lang/Object"), (0, u "<init>"), (0, u "()V"), (0, .class_ 8), (0, u "com/example/dogwood/dogwood/model/yaml/Occurrences"), (0, .class_ 10), (0, u "java/lang/String"), (0, .methodref 9 12), (0, .nameAndType 5 13), (0, u "([C)V"), (0, .methodref 7 15), (0, .nameAndType 5 16), (0, u "(Ljava/lang/String;C)V"), (0, .methodref 18 19), (0, .class_ 20), (0, .nameAndType 21 22), (0, u "com/example/dogwood/dogwood/model/yaml/OccurrencesFromPinLaw"), (0, u "idx"), (0, u "(I)I"), (0, .methodref 7 24), (0, .nameAndType 25 22), (0, u "from"), (0, .methodref 18 27), (0, .nameAndType 28 29), (0, u "ref"), (0, u "(CCCCCI)I"), (3, u "law"), (0, u "(IIIII)Z")] 2

def k1m0 : Method := { name := "<init>", desc := "()V", sig := { parameters := [], returnType := none }, accessFlags := 1, code := none }
def k1c1 : Code := { maxStack := 2, maxLocals := 1, code := method_2_code, exceptionTable := #[], attributes := #[] }
def k1m1 : Method := { name := "idx", desc := "(I)I", sig := { parameters := [.int], returnType := some .int }, accessFlags := 10, code := some k1c1 }
def k1c2 : Code := { maxStack := 2, maxLocals := 6, code := method_3_code, exceptionTable := #[], attributes := #[] }
def k1m2 : Method := { name := "ref", desc := "(CCCCCI)I", sig := { parameters := [.char, .char, .char, .char, .char, .int], returnType := some .int }, accessFlags := 10, code := some k1c2 }
def k1c3 : Code := { maxStack := 8, maxLocals := 16, code := code, exceptionTable := #[], attributes := #[] }
def k1m3 : Method := { name := "law", desc := "(IIIII)Z", sig := { parameters := [.int, .int, .int, .int, .int], returnType := some .boolean }, accessFlags := 9, code := some k1c3 }
/-- com/example/dogwood/dogwood/model/yaml/OccurrencesFromPinLaw -/
def k1 : Class := { plain "com/example/dogwood/dogwood/model/yaml/OccurrencesFromPinLaw" (some 0) with
  accessFlags := 49
  interfaces := #[]
  cf := some (fileOf pool1 18 #[] #[{ accessFlags := 1, nameIndex := 5, descriptorIndex := 6, attributes := #[] }, { accessFlags := 10, nameIndex := 21, descriptorIndex := 22, attributes := #[] }, { accessFlags := 10, nameIndex := 28, descriptorIndex := 29, attributes := #[] }, { accessFlags := 9, nameIndex := 33, descriptorIndex := 34, attributes := #[] }] 49 2 #[] #[])
  fields := #[]
  methods := #[k1m0, k1m1, k1m2, k1m3]
  instanceTypes := #[]
  staticTypes := #[]
  resolved := Array.replicate 37 none
  statics := none }

def pool2 : Array CpInfo := pool [(1, .methodref 2 3), (0, .class_ 4), (0, .nameAndType 5 6), (0, u "java/lang/Object"), (0, u "<init>"), (0, u "()V"), (2, .integer 2147483647), (0, .fieldref 11 12), (0, .class_ 13), (0, .nameAndType 14 15), (0, u "com/example/dogwood/dogwood/model/yaml/Occurrences"), (0, u "from"), (0, u "I"), (0, .fieldref 11 17), (0, .nameAndType 18 15), (0, u "found"), (0, .fieldref 11 20), (0, .nameAndType 21 22), (0, u "text"), (0, u "Ljava/lang/String;"), (0, .fieldref 11 24), (0, .nameAndType 25 26), (0, u "c"), (0, u "C"), (0, .methodref 28 29), (0, .class_ 30), (0, .nameAndType 31 32), (0, u "java/lang/String"), (0, u "indexOf"), (0, u "(II)I"), (2, u "(I)I"), (0, u "(Ljava/lang/String;C)V")] 6

def k2c0 : Code := { maxStack := 2, maxLocals := 3, code := prog_18_method_1_code, exceptionTable := #[], attributes := #[] }
def k2m0 : Method := { name := "<init>", desc := "(Ljava/lang/String;C)V", sig := { parameters := [(.object "java/lang/String"), .char], returnType := none }, accessFlags := 1, code := some k2c0 }
def k2c1 : Code := { maxStack := 4, maxLocals := 2, code := prog_18_method_2_code, exceptionTable := #[], attributes := #[] }
def k2m1 : Method := { name := "from", desc := "(I)I", sig := { parameters := [.int], returnType := some .int }, accessFlags := 1, code := some k2c1 }
/-- com/example/dogwood/dogwood/model/yaml/Occurrences -/
def k2 : Class := { plain "com/example/dogwood/dogwood/model/yaml/Occurrences" (some 0) with
  accessFlags := 33
  interfaces := #[]
  cf := some (fileOf pool2 11 #[] #[{ accessFlags := 1, nameIndex := 5, descriptorIndex := 36, attributes := #[] }, { accessFlags := 1, nameIndex := 14, descriptorIndex := 35, attributes := #[] }] 33 2 #[] #[{ accessFlags := 18, nameIndex := 21, descriptorIndex := 22, attributes := #[] }, { accessFlags := 18, nameIndex := 25, descriptorIndex := 26, attributes := #[] }, { accessFlags := 2, nameIndex := 14, descriptorIndex := 15, attributes := #[] }, { accessFlags := 2, nameIndex := 18, descriptorIndex := 15, attributes := #[] }])
  fields := #[{ name := "text", type := (.object "java/lang/String"), accessFlags := 18, slot := 0, constantValue := 0 }, { name := "c", type := .char, accessFlags := 18, slot := 1, constantValue := 0 }, { name := "from", type := .int, accessFlags := 2, slot := 2, constantValue := 0 }, { name := "found", type := .int, accessFlags := 2, slot := 3, constantValue := 0 }]
  methods := #[k2m0, k2m1]
  instanceTypes := #[(.object "java/lang/String"), .char, .int, .int]
  staticTypes := #[]
  resolved := Array.replicate 43 none
  statics := none }

def pool3 : Array CpInfo := pool [(1, .class_ 2), (0, u "java/io/Serializable"), (0, .class_ 4), (0, u "java/lang/Object")] 2

/-- java/io/Serializable -/
def k3 : Class := { plain "java/io/Serializable" (some 0) with
  accessFlags := 1537
  interfaces := #[]
  cf := some (fileOf pool3 1 #[] #[] 1537 3 #[] #[])
  fields := #[]
  methods := #[]
  instanceTypes := #[]
  staticTypes := #[]
  resolved := Array.replicate 7 none
  statics := none }

def pool4 : Array CpInfo := pool [(1, .class_ 2), (0, u "java/lang/Comparable"), (0, .class_ 4), (0, u "java/lang/Object")] 7

/-- java/lang/Comparable -/
def k4 : Class := { plain "java/lang/Comparable" (some 0) with
  accessFlags := 1537
  interfaces := #[]
  cf := some (fileOf pool4 1 #[] #[] 1537 3 #[] #[])
  fields := #[]
  methods := #[]
  instanceTypes := #[]
  staticTypes := #[]
  resolved := Array.replicate 12 none
  statics := none }

def pool5 : Array CpInfo := pool [(2, .class_ 4), (1, u "java/lang/CharSequence"), (42, .class_ 48), (0, u "java/lang/CharSequence$1CodePointIterator"), (10, .class_ 60), (0, u "java/lang/CharSequence$1CharIterator"), (5, .class_ 67), (0, u "java/lang/Object")] 63

/-- java/lang/CharSequence -/
def k5 : Class := { plain "java/lang/CharSequence" (some 0) with
  accessFlags := 1537
  interfaces := #[]
  cf := some (fileOf pool5 2 #[.nestMembers #[47, 59]] #[] 1537 66 #[] #[])
  fields := #[]
  methods := #[]
  instanceTypes := #[]
  staticTypes := #[]
  resolved := Array.replicate 131 none
  statics := none }

def pool6 : Array CpInfo := pool [(1, .class_ 2), (0, u "java/lang/constant/Constable"), (0, .class_ 4), (0, u "java/lang/Object")] 6

/-- java/lang/constant/Constable -/
def k6 : Class := { plain "java/lang/constant/Constable" (some 0) with
  accessFlags := 1537
  interfaces := #[]
  cf := some (fileOf pool6 1 #[] #[] 1537 3 #[] #[])
  fields := #[]
  methods := #[]
  instanceTypes := #[]
  staticTypes := #[]
  resolved := Array.replicate 11 none
  statics := none }

def pool7 : Array CpInfo := pool [(1, .class_ 2), (0, u "java/lang/constant/ConstantDesc"), (0, .class_ 4), (0, u "java/lang/Object")] 32

/-- java/lang/constant/ConstantDesc -/
def k7 : Class := { plain "java/lang/constant/ConstantDesc" (some 0) with
  accessFlags := 1537
  interfaces := #[]
  cf := some (fileOf pool7 1 #[] #[] 1537 3 #[] #[])
  fields := #[]
  methods := #[]
  instanceTypes := #[]
  staticTypes := #[]
  resolved := Array.replicate 37 none
  statics := none }

def pool8 : Array CpInfo := pool [(1, .methodref 2 3), (0, .class_ 4), (0, .nameAndType 5 6), (0, u "java/lang/Object"), (0, u "<init>"), (0, u "()V"), (2, .fieldref 10 11), (0, .class_ 12), (0, .nameAndType 13 14), (0, u "java/lang/String"), (0, u "value"), (0, u "[B"), (0, .fieldref 10 16), (0, .nameAndType 17 18), (0, u "coder"), (0, u "B"), (2, u "hash"), (0, u "I"), (2, u "hashIsZero"), (0, u "Z"), (0, .methodref 10 28), (0, .nameAndType 5 29), (0, u "([CIILjava/lang/Void;)V"), (8, .fieldref 10 39), (0, .nameAndType 40 26), (0, u "COMPACT_STRINGS"), (1, .class_ 44), (1, u "java/lang/StringUTF16"), (0, u "compress"), (1, .methodref 42 48), (0, .nameAndType 49 50), (0, u "coderFromArrayLen"), (0, u "([BI)B"), (56, .class_ 109), (1, u "java/lang/StringLatin1"), (32, u "()Z"), (34, .methodref 42 178), (0, .nameAndType 45 179), (0, u "([CII)[B"), (154, u "()I"), (0, .methodref 10 336), (0, .nameAndType 17 337), (0, u "()B"), (154, .methodref 10 493), (0, .nameAndType 494 142), (0, u "isLatin1"), (10, .methodref 10 506), (0, .nameAndType 507 334), (0, u "length"), (67, .class_ 576), (0, u "java/lang/CharSequence"), (22, u "CASE_INSENSITIVE_ORDER"), (0, u "Ljava/util/Comparator;"), (34, u "indexOf"), (0, u "(II)I"), (0, .methodref 107 638), (0, .nameAndType 635 639), (0, u "([BIII)I"), (370, u "([C)V"), (90, u "serialPersistentFields"), (0, u "[Ljava/io/ObjectStreamField;"), (0, .class_ 1104), (0, u "java/lang/String$CaseInsensitiveComparator"), (1, .class_ 1107), (0, u "java/io/Serializable"), (0, .class_ 1109), (0, u "java/lang/Comparable"), (0, .class_ 1111), (0, u "java/lang/constant/Constable"), (0, .class_ 1113), (0, u "java/lang/constant/ConstantDesc"), (2, u "serialVersionUID"), (0, u "J"), (3, u "REPL"), (0, u "C"), (2, u "LATIN1"), (1, u "UTF16")] 323

def k8m0 : Method := { name := "<init>", desc := "()V", sig := { parameters := [], returnType := none }, accessFlags := 1, code := none }
def k8c1 : Code := { maxStack := 5, maxLocals := 2, code := jdk_42_method_3_code, exceptionTable := #[], attributes := #[] }
def k8m1 : Method := { name := "<init>", desc := "([C)V", sig := { parameters := [(.array .char)], returnType := none }, accessFlags := 1, code := some k8c1 }
def k8c2 : Code := { maxStack := 2, maxLocals := 1, code := jdk_42_method_54_code, exceptionTable := #[], attributes := #[] }
def k8m2 : Method := { name := "length", desc := "()I", sig := { parameters := [], returnType := some .int }, accessFlags := 1, code := some k8c2 }
def k8c3 : Code := { maxStack := 4, maxLocals := 3, code := jdk_42_method_80_code, exceptionTable := #[], attributes := #[] }
def k8m3 : Method := { name := "indexOf", desc := "(II)I", sig := { parameters := [.int, .int], returnType := some .int }, accessFlags := 1, code := some k8c3 }
def k8c4 : Code := { maxStack := 4, maxLocals := 6, code := jdk_42_method_149_code, exceptionTable := #[], attributes := #[] }
def k8m4 : Method := { name := "<init>", desc := "([CIILjava/lang/Void;)V", sig := { parameters := [(.array .char), .int, .int, (.object "java/lang/Void")], returnType := none }, accessFlags := 2, code := some k8c4 }
def k8c5 : Code := { maxStack := 1, maxLocals := 1, code := jdk_42_method_152_code, exceptionTable := #[], attributes := #[] }
def k8m5 : Method := { name := "coder", desc := "()B", sig := { parameters := [], returnType := some .byte }, accessFlags := 0, code := some k8c5 }
def k8c6 : Code := { maxStack := 1, maxLocals := 1, code := jdk_42_method_154_code, exceptionTable := #[], attributes := #[] }
def k8m6 : Method := { name := "isLatin1", desc := "()Z", sig := { parameters := [], returnType := some .boolean }, accessFlags := 0, code := some k8c6 }
/-- java/lang/String -/
def k8 : Class := { plain "java/lang/String" (some 0) with
  accessFlags := 49
  interfaces := #[3, 4, 5, 6, 7]
  cf := some (fileOf pool8 10 #[.nestMembers #[1103]] #[{ accessFlags := 1, nameIndex := 5, descriptorIndex := 6, attributes := #[] }, { accessFlags := 1, nameIndex := 5, descriptorIndex := 1010, attributes := #[] }, { accessFlags := 1, nameIndex := 507, descriptorIndex := 334, attributes := #[] }, { accessFlags := 1, nameIndex := 635, descriptorIndex := 636, attributes := #[] }, { accessFlags := 2, nameIndex := 5, descriptorIndex := 29, attributes := #[] }, { accessFlags := 0, nameIndex := 17, descriptorIndex := 337, attributes := #[] }, { accessFlags := 0, nameIndex := 494, descriptorIndex := 142, attributes := #[] }] 49 2 #[1106, 1108, 575, 1110, 1112] #[{ accessFlags := 18, nameIndex := 13, descriptorIndex := 14, attributes := #[] }, { accessFlags := 18, nameIndex := 17, descriptorIndex := 18, attributes := #[] }, { accessFlags := 2, nameIndex := 21, descriptorIndex := 22, attributes := #[] }, { accessFlags := 2, nameIndex := 25, descriptorIndex := 26, attributes := #[] }, { accessFlags := 26, nameIndex := 1116, descriptorIndex := 1117, attributes := #[] }, { accessFlags := 24, nameIndex := 40, descriptorIndex := 26, attributes := #[] }, { accessFlags := 26, nameIndex := 1101, descriptorIndex := 1102, attributes := #[] }, { accessFlags := 26, nameIndex := 1121, descriptorIndex := 1122, attributes := #[] }, { accessFlags := 25, nameIndex := 599, descriptorIndex := 600, attributes := #[] }, { accessFlags := 24, nameIndex := 1125, descriptorIndex := 18, attributes := #[] }, { accessFlags := 24, nameIndex := 1127, descriptorIndex := 18, attributes := #[] }])
  fields := #[{ name := "value", type := (.array .byte), accessFlags := 18, slot := 0, constantValue := 0 }, { name := "coder", type := .byte, accessFlags := 18, slot := 1, constantValue := 0 }, { name := "hash", type := .int, accessFlags := 2, slot := 2, constantValue := 0 }, { name := "hashIsZero", type := .boolean, accessFlags := 2, slot := 3, constantValue := 0 }, { name := "serialVersionUID", type := .long, accessFlags := 26, slot := 0, constantValue := 0 }, { name := "COMPACT_STRINGS", type := .boolean, accessFlags := 24, slot := 1, constantValue := 0 }, { name := "serialPersistentFields", type := (.array (.object "java/io/ObjectStreamField")), accessFlags := 26, slot := 2, constantValue := 0 }, { name := "REPL", type := .char, accessFlags := 26, slot := 3, constantValue := 0 }, { name := "CASE_INSENSITIVE_ORDER", type := (.object "java/util/Comparator"), accessFlags := 25, slot := 4, constantValue := 0 }, { name := "LATIN1", type := .byte, accessFlags := 24, slot := 5, constantValue := 0 }, { name := "UTF16", type := .byte, accessFlags := 24, slot := 6, constantValue := 0 }]
  methods := #[k8m0, k8m1, k8m2, k8m3, k8m4, k8m5, k8m6]
  instanceTypes := #[(.array .byte), .byte, .int, .boolean]
  staticTypes := #[.long, .boolean, (.array (.object "java/io/ObjectStreamField")), .char, (.object "java/util/Comparator"), .byte, .byte]
  resolved := Array.replicate 1451 none
  statics := some 0 }

def pool9 : Array CpInfo := pool [(6, .class_ 8), (1, u "java/lang/Object"), (0, u "<init>"), (0, u "()V"), (1, .class_ 14), (1, u "java/lang/StringUTF16"), (31, u "$assertionsDisabled"), (0, u "Z"), (13, u "HI_BYTE_SHIFT"), (0, u "I"), (2, u "LO_BYTE_SHIFT"), (49, .methodref 12 116), (0, .nameAndType 117 118), (0, u "compress"), (0, u "([CI[BII)I"), (3, u "([CII)[B"), (138, u "coderFromArrayLen"), (0, u "([BI)B"), (106, .class_ 371), (1, u "java/lang/StringUTF16$LinesSpliterator"), (58, u "MAX_LENGTH"), (196, .class_ 628), (0, u "java/lang/StringUTF16$CodePointsSpliterator"), (0, .class_ 630), (0, u "java/lang/StringUTF16$CharsSpliterator")] 4

def k9m0 : Method := { name := "<init>", desc := "()V", sig := { parameters := [], returnType := none }, accessFlags := 0, code := none }
def k9c1 : Code := { maxStack := 2, maxLocals := 2, code := jdk_52_method_15_code, exceptionTable := #[], attributes := #[] }
def k9m1 : Method := { name := "coderFromArrayLen", desc := "([BI)B", sig := { parameters := [(.array .byte), .int], returnType := some .byte }, accessFlags := 8, code := some k9c1 }
def k9c2 : Code := { maxStack := 5, maxLocals := 6, code := jdk_52_method_16_code, exceptionTable := #[], attributes := #[] }
def k9m2 : Method := { name := "compress", desc := "([CII)[B", sig := { parameters := [(.array .char), .int, .int], returnType := some (.array .byte) }, accessFlags := 9, code := some k9c2 }
def k9c3 : Code := { maxStack := 3, maxLocals := 7, code := jdk_52_method_21_code, exceptionTable := #[], attributes := #[] }
def k9m3 : Method := { name := "compress", desc := "([CI[BII)I", sig := { parameters := [(.array .char), .int, (.array .byte), .int, .int], returnType := some .int }, accessFlags := 9, code := some k9c3 }
/-- java/lang/StringUTF16 -/
def k9 : Class := { plain "java/lang/StringUTF16" (some 0) with
  accessFlags := 48
  interfaces := #[]
  cf := some (fileOf pool9 12 #[.nestMembers #[627, 629, 369]] #[{ accessFlags := 0, nameIndex := 9, descriptorIndex := 10, attributes := #[] }, { accessFlags := 8, nameIndex := 261, descriptorIndex := 262, attributes := #[] }, { accessFlags := 9, nameIndex := 117, descriptorIndex := 122, attributes := #[] }, { accessFlags := 9, nameIndex := 117, descriptorIndex := 118, attributes := #[] }] 48 6 #[] #[{ accessFlags := 26, nameIndex := 61, descriptorIndex := 62, attributes := #[] }, { accessFlags := 26, nameIndex := 65, descriptorIndex := 62, attributes := #[] }, { accessFlags := 24, nameIndex := 430, descriptorIndex := 62, attributes := #[] }, { accessFlags := 4120, nameIndex := 46, descriptorIndex := 47, attributes := #[] }])
  fields := #[{ name := "HI_BYTE_SHIFT", type := .int, accessFlags := 26, slot := 0, constantValue := 0 }, { name := "LO_BYTE_SHIFT", type := .int, accessFlags := 26, slot := 1, constantValue := 0 }, { name := "MAX_LENGTH", type := .int, accessFlags := 24, slot := 2, constantValue := 0 }, { name := "$assertionsDisabled", type := .boolean, accessFlags := 4120, slot := 3, constantValue := 0 }]
  methods := #[k9m0, k9m1, k9m2, k9m3]
  instanceTypes := #[]
  staticTypes := #[.int, .int, .int, .boolean]
  resolved := Array.replicate 635 none
  statics := none }

def pool10 : Array CpInfo := pool [(4, .class_ 6), (1, u "java/lang/Object"), (0, u "<init>"), (0, u "()V"), (5, .class_ 16), (1, u "java/lang/StringLatin1"), (21, .methodref 39 40), (0, .class_ 41), (0, .nameAndType 42 43), (0, u "java/lang/Math"), (0, u "min"), (0, u "(II)I"), (44, .methodref 14 89), (0, .nameAndType 90 91), (0, u "canEncode"), (0, u "(I)Z"), (0, .methodref 39 93), (0, .nameAndType 94 43), (0, u "max"), (0, .methodref 14 96), (0, .nameAndType 97 98), (0, u "indexOfChar"), (0, u "([BIII)I"), (2, u "indexOf"), (19, u "$assertionsDisabled"), (0, u "Z"), (98, .class_ 223), (1, u "java/lang/StringLatin1$LinesSpliterator"), (166, .class_ 391), (0, u "java/lang/StringLatin1$CharsSpliterator")] 3

def k10m0 : Method := { name := "<init>", desc := "()V", sig := { parameters := [], returnType := none }, accessFlags := 0, code := none }
def k10c1 : Code := { maxStack := 2, maxLocals := 1, code := jdk_43_method_4_code, exceptionTable := #[], attributes := #[] }
def k10m1 : Method := { name := "canEncode", desc := "(I)Z", sig := { parameters := [.int], returnType := some .boolean }, accessFlags := 9, code := some k10c1 }
def k10c2 : Code := { maxStack := 4, maxLocals := 4, code := jdk_43_method_22_code, exceptionTable := #[], attributes := #[] }
def k10m2 : Method := { name := "indexOf", desc := "([BIII)I", sig := { parameters := [(.array .byte), .int, .int, .int], returnType := some .int }, accessFlags := 9, code := some k10c2 }
def k10c3 : Code := { maxStack := 2, maxLocals := 6, code := jdk_43_method_23_code, exceptionTable := #[], attributes := #[] }
def k10m3 : Method := { name := "indexOfChar", desc := "([BIII)I", sig := { parameters := [(.array .byte), .int, .int, .int], returnType := some .int }, accessFlags := 10, code := some k10c3 }
/-- java/lang/StringLatin1 -/
def k10 : Class := { plain "java/lang/StringLatin1" (some 0) with
  accessFlags := 48
  interfaces := #[]
  cf := some (fileOf pool10 14 #[.nestMembers #[390, 221]] #[{ accessFlags := 0, nameIndex := 7, descriptorIndex := 8, attributes := #[] }, { accessFlags := 9, nameIndex := 90, descriptorIndex := 91, attributes := #[] }, { accessFlags := 9, nameIndex := 101, descriptorIndex := 98, attributes := #[] }, { accessFlags := 10, nameIndex := 97, descriptorIndex := 98, attributes := #[] }] 48 4 #[] #[{ accessFlags := 4120, nameIndex := 121, descriptorIndex := 122, attributes := #[] }])
  fields := #[{ name := "$assertionsDisabled", type := .boolean, accessFlags := 4120, slot := 0, constantValue := 0 }]
  methods := #[k10m0, k10m1, k10m2, k10m3]
  instanceTypes := #[]
  staticTypes := #[.boolean]
  resolved := Array.replicate 395 none
  statics := none }

def pool11 : Array CpInfo := pool [(1, .class_ 2), (0, u "java/lang/Math"), (1, .class_ 6), (1, u "java/lang/Object"), (0, u "<init>"), (0, u "()V"), (89, .class_ 100), (1, u "java/lang/Math$RandomNumberGeneratorHolder"), (71, u "negativeZeroFloatBits"), (0, u "J"), (2, u "negativeZeroDoubleBits"), (21, u "max"), (2, u "min"), (43, u "$assertionsDisabled"), (0, u "Z"), (88, u "(II)I"), (2, u "twoToTheDoubleScaleDown"), (0, u "D"), (4, u "twoToTheDoubleScaleUp"), (9, u "E"), (3, u "PI"), (2, u "TAU"), (2, u "DEGREES_TO_RADIANS"), (0, u "RADIANS_TO_DEGREES")] 94

def k11m0 : Method := { name := "<init>", desc := "()V", sig := { parameters := [], returnType := none }, accessFlags := 2, code := none }
def k11c1 : Code := { maxStack := 2, maxLocals := 2, code := jdk_29_method_65_code, exceptionTable := #[], attributes := #[] }
def k11m1 : Method := { name := "max", desc := "(II)I", sig := { parameters := [.int, .int], returnType := some .int }, accessFlags := 9, code := some k11c1 }
def k11c2 : Code := { maxStack := 2, maxLocals := 2, code := jdk_29_method_69_code, exceptionTable := #[], attributes := #[] }
def k11m2 : Method := { name := "min", desc := "(II)I", sig := { parameters := [.int, .int], returnType := some .int }, accessFlags := 9, code := some k11c2 }
/-- java/lang/Math -/
def k11 : Class := { plain "java/lang/Math" (some 0) with
  accessFlags := 49
  interfaces := #[]
  cf := some (fileOf pool11 1 #[.nestMembers #[98]] #[{ accessFlags := 2, nameIndex := 7, descriptorIndex := 8, attributes := #[] }, { accessFlags := 9, nameIndex := 198, descriptorIndex := 335, attributes := #[] }, { accessFlags := 9, nameIndex := 201, descriptorIndex := 335, attributes := #[] }] 49 4 #[] #[{ accessFlags := 25, nameIndex := 354, descriptorIndex := 339, attributes := #[] }, { accessFlags := 25, nameIndex := 358, descriptorIndex := 339, attributes := #[] }, { accessFlags := 25, nameIndex := 361, descriptorIndex := 339, attributes := #[] }, { accessFlags := 26, nameIndex := 364, descriptorIndex := 339, attributes := #[] }, { accessFlags := 26, nameIndex := 365, descriptorIndex := 339, attributes := #[] }, { accessFlags := 26, nameIndex := 172, descriptorIndex := 173, attributes := #[] }, { accessFlags := 26, nameIndex := 176, descriptorIndex := 173, attributes := #[] }, { accessFlags := 8, nameIndex := 344, descriptorIndex := 339, attributes := #[] }, { accessFlags := 8, nameIndex := 338, descriptorIndex := 339, attributes := #[] }, { accessFlags := 4120, nameIndex := 245, descriptorIndex := 246, attributes := #[] }])
  fields := #[{ name := "E", type := .double, accessFlags := 25, slot := 0, constantValue := 0 }, { name := "PI", type := .double, accessFlags := 25, slot := 1, constantValue := 0 }, { name := "TAU", type := .double, accessFlags := 25, slot := 2, constantValue := 0 }, { name := "DEGREES_TO_RADIANS", type := .double, accessFlags := 26, slot := 3, constantValue := 0 }, { name := "RADIANS_TO_DEGREES", type := .double, accessFlags := 26, slot := 4, constantValue := 0 }, { name := "negativeZeroFloatBits", type := .long, accessFlags := 26, slot := 5, constantValue := 0 }, { name := "negativeZeroDoubleBits", type := .long, accessFlags := 26, slot := 6, constantValue := 0 }, { name := "twoToTheDoubleScaleUp", type := .double, accessFlags := 8, slot := 7, constantValue := 0 }, { name := "twoToTheDoubleScaleDown", type := .double, accessFlags := 8, slot := 8, constantValue := 0 }, { name := "$assertionsDisabled", type := .boolean, accessFlags := 4120, slot := 9, constantValue := 0 }]
  methods := #[k11m0, k11m1, k11m2]
  instanceTypes := #[]
  staticTypes := #[.double, .double, .double, .double, .double, .long, .long, .double, .double, .boolean]
  resolved := Array.replicate 460 none
  statics := none }

def pool12 : Array CpInfo := pool [(2, .class_ 4), (1, u "java/lang/Object"), (0, u "<init>"), (0, u "()V"), (17, .class_ 26), (1, u "jdk/internal/util/Preconditions"), (28, .class_ 56), (0, u "jdk/internal/util/Preconditions$4"), (57, .class_ 115), (0, u "jdk/internal/util/Preconditions$1"), (7, u "SIOOBE_FORMATTER"), (0, u "Ljava/util/function/BiFunction;"), (0, .class_ 126), (0, u "jdk/internal/util/Preconditions$2"), (3, u "AIOOBE_FORMATTER"), (0, .class_ 132), (0, u "jdk/internal/util/Preconditions$3"), (3, u "IOOBE_FORMATTER")] 57

def k12m0 : Method := { name := "<init>", desc := "()V", sig := { parameters := [], returnType := none }, accessFlags := 1, code := none }
/-- jdk/internal/util/Preconditions -/
def k12 : Class := { plain "jdk/internal/util/Preconditions" (some 0) with
  accessFlags := 33
  interfaces := #[]
  cf := some (fileOf pool12 24 #[.nestMembers #[55, 131, 125, 114]] #[{ accessFlags := 1, nameIndex := 5, descriptorIndex := 6, attributes := #[] }] 33 2 #[] #[{ accessFlags := 25, nameIndex := 123, descriptorIndex := 124, attributes := #[] }, { accessFlags := 25, nameIndex := 130, descriptorIndex := 124, attributes := #[] }, { accessFlags := 25, nameIndex := 136, descriptorIndex := 124, attributes := #[] }])
  fields := #[{ name := "SIOOBE_FORMATTER", type := (.object "java/util/function/BiFunction"), accessFlags := 25, slot := 0, constantValue := 0 }, { name := "AIOOBE_FORMATTER", type := (.object "java/util/function/BiFunction"), accessFlags := 25, slot := 1, constantValue := 0 }, { name := "IOOBE_FORMATTER", type := (.object "java/util/function/BiFunction"), accessFlags := 25, slot := 2, constantValue := 0 }]
  methods := #[k12m0]
  instanceTypes := #[]
  staticTypes := #[(.object "java/util/function/BiFunction"), (.object "java/util/function/BiFunction"), (.object "java/util/function/BiFunction")]
  resolved := Array.replicate 194 none
  statics := some 1 }

def pool13 : Array CpInfo := pool [(9, u "<init>"), (6, .class_ 18), (1, u "java/lang/Object"), (0, u "()V"), (1, .class_ 23), (1, u "jdk/internal/util/ArraysSupport"), (0, u "LOG2_ARRAY_LONG_INDEX_SCALE"), (0, u "I"), (2, u "U"), (0, u "Ljdk/internal/misc/Unsafe;"), (8, u "BIG_ENDIAN"), (0, u "Z"), (8, u "LOG2_BYTE_BIT_SIZE"), (4, u "LOG2_ARRAY_INT_INDEX_SCALE"), (54, u "JLA"), (0, u "Ljdk/internal/access/JavaLangAccess;"), (11, u "LOG2_ARRAY_BOOLEAN_INDEX_SCALE"), (9, u "LOG2_ARRAY_BYTE_INDEX_SCALE"), (5, u "LOG2_ARRAY_CHAR_INDEX_SCALE"), (5, u "LOG2_ARRAY_SHORT_INDEX_SCALE"), (18, u "LOG2_ARRAY_FLOAT_INDEX_SCALE"), (24, u "LOG2_ARRAY_DOUBLE_INDEX_SCALE"), (89, u "T_BOOLEAN"), (2, u "T_CHAR"), (1, u "T_FLOAT"), (1, u "T_DOUBLE"), (1, u "T_BYTE"), (1, u "T_SHORT"), (1, u "T_INT"), (1, u "T_LONG"), (1, u "SOFT_MAX_ARRAY_LENGTH")] 83

def k13m0 : Method := { name := "<init>", desc := "()V", sig := { parameters := [], returnType := none }, accessFlags := 2, code := none }
/-- jdk/internal/util/ArraysSupport -/
def k13 : Class := { plain "jdk/internal/util/ArraysSupport" (some 0) with
  accessFlags := 33
  interfaces := #[]
  cf := some (fileOf pool13 21 #[] #[{ accessFlags := 2, nameIndex := 9, descriptorIndex := 19, attributes := #[] }] 33 16 #[] #[{ accessFlags := 24, nameIndex := 28, descriptorIndex := 29, attributes := #[] }, { accessFlags := 26, nameIndex := 38, descriptorIndex := 39, attributes := #[] }, { accessFlags := 25, nameIndex := 121, descriptorIndex := 25, attributes := #[] }, { accessFlags := 25, nameIndex := 131, descriptorIndex := 25, attributes := #[] }, { accessFlags := 25, nameIndex := 137, descriptorIndex := 25, attributes := #[] }, { accessFlags := 25, nameIndex := 143, descriptorIndex := 25, attributes := #[] }, { accessFlags := 25, nameIndex := 53, descriptorIndex := 25, attributes := #[] }, { accessFlags := 25, nameIndex := 24, descriptorIndex := 25, attributes := #[] }, { accessFlags := 25, nameIndex := 162, descriptorIndex := 25, attributes := #[] }, { accessFlags := 25, nameIndex := 187, descriptorIndex := 25, attributes := #[] }, { accessFlags := 26, nameIndex := 48, descriptorIndex := 25, attributes := #[] }, { accessFlags := 25, nameIndex := 277, descriptorIndex := 25, attributes := #[] }, { accessFlags := 25, nameIndex := 280, descriptorIndex := 25, attributes := #[] }, { accessFlags := 25, nameIndex := 282, descriptorIndex := 25, attributes := #[] }, { accessFlags := 25, nameIndex := 284, descriptorIndex := 25, attributes := #[] }, { accessFlags := 25, nameIndex := 286, descriptorIndex := 25, attributes := #[] }, { accessFlags := 25, nameIndex := 288, descriptorIndex := 25, attributes := #[] }, { accessFlags := 25, nameIndex := 290, descriptorIndex := 25, attributes := #[] }, { accessFlags := 25, nameIndex := 292, descriptorIndex := 25, attributes := #[] }, { accessFlags := 26, nameIndex := 108, descriptorIndex := 109, attributes := #[] }, { accessFlags := 25, nameIndex := 294, descriptorIndex := 25, attributes := #[] }])
  fields := #[{ name := "U", type := (.object "jdk/internal/misc/Unsafe"), accessFlags := 24, slot := 0, constantValue := 0 }, { name := "BIG_ENDIAN", type := .boolean, accessFlags := 26, slot := 1, constantValue := 0 }, { name := "LOG2_ARRAY_BOOLEAN_INDEX_SCALE", type := .int, accessFlags := 25, slot := 2, constantValue := 0 }, { name := "LOG2_ARRAY_BYTE_INDEX_SCALE", type := .int, accessFlags := 25, slot := 3, constantValue := 0 }, { name := "LOG2_ARRAY_CHAR_INDEX_SCALE", type := .int, accessFlags := 25, slot := 4, constantValue := 0 }, { name := "LOG2_ARRAY_SHORT_INDEX_SCALE", type := .int, accessFlags := 25, slot := 5, constantValue := 0 }, { name := "LOG2_ARRAY_INT_INDEX_SCALE", type := .int, accessFlags := 25, slot := 6, constantValue := 0 }, { name := "LOG2_ARRAY_LONG_INDEX_SCALE", type := .int, accessFlags := 25, slot := 7, constantValue := 0 }, { name := "LOG2_ARRAY_FLOAT_INDEX_SCALE", type := .int, accessFlags := 25, slot := 8, constantValue := 0 }, { name := "LOG2_ARRAY_DOUBLE_INDEX_SCALE", type := .int, accessFlags := 25, slot := 9, constantValue := 0 }, { name := "LOG2_BYTE_BIT_SIZE", type := .int, accessFlags := 26, slot := 10, constantValue := 0 }, { name := "T_BOOLEAN", type := .int, accessFlags := 25, slot := 11, constantValue := 0 }, { name := "T_CHAR", type := .int, accessFlags := 25, slot := 12, constantValue := 0 }, { name := "T_FLOAT", type := .int, accessFlags := 25, slot := 13, constantValue := 0 }, { name := "T_DOUBLE", type := .int, accessFlags := 25, slot := 14, constantValue := 0 }, { name := "T_BYTE", type := .int, accessFlags := 25, slot := 15, constantValue := 0 }, { name := "T_SHORT", type := .int, accessFlags := 25, slot := 16, constantValue := 0 }, { name := "T_INT", type := .int, accessFlags := 25, slot := 17, constantValue := 0 }, { name := "T_LONG", type := .int, accessFlags := 25, slot := 18, constantValue := 0 }, { name := "JLA", type := (.object "jdk/internal/access/JavaLangAccess"), accessFlags := 26, slot := 19, constantValue := 0 }, { name := "SOFT_MAX_ARRAY_LENGTH", type := .int, accessFlags := 25, slot := 20, constantValue := 0 }]
  methods := #[k13m0]
  instanceTypes := #[]
  staticTypes := #[(.object "jdk/internal/misc/Unsafe"), .boolean, .int, .int, .int, .int, .int, .int, .int, .int, .int, .int, .int, .int, .int, .int, .int, .int, .int, (.object "jdk/internal/access/JavaLangAccess"), .int]
  resolved := Array.replicate 378 none
  statics := none }

def pool14 : Array CpInfo := pool [(1, u "java/lang/Cloneable"), (0, .class_ 1), (0, u "java/lang/Object"), (0, .class_ 3)] 3

/-- java/lang/Cloneable -/
def k14 : Class := { plain "java/lang/Cloneable" (some 0) with
  accessFlags := 1537
  interfaces := #[]
  cf := some (fileOf pool14 2 #[] #[] 1537 4 #[] #[])
  fields := #[]
  methods := #[]
  instanceTypes := #[]
  staticTypes := #[]
  resolved := Array.replicate 8 none
  statics := none }

/-- the primitive byte -/
def k15 : Class := { plain "byte" none with kind := .primitive 'B', accessFlags := 0x411 }
/-- [B -/
def k16 : Class := { plain "[B" (some 0) with kind := .array 15 .byte, interfaces := #[14, 3], accessFlags := 1041 }

/-- the primitive char -/
def k17 : Class := { plain "char" none with kind := .primitive 'C', accessFlags := 0x411 }
/-- [C -/
def k18 : Class := { plain "[C" (some 0) with kind := .array 17 .char, interfaces := #[14, 3], accessFlags := 1041 }

/-- the primitive int -/
def k19 : Class := { plain "int" none with kind := .primitive 'I', accessFlags := 0x411 }
/-- [I -/
def k20 : Class := { plain "[I" (some 0) with kind := .array 19 .int, interfaces := #[14, 3], accessFlags := 1041 }

def heap : Heap := #[{ cls := 8, slots := #[.long 0, .int 1, .null, .int 0, .null, .int 0, .int 0], vm := .statics 8 },
  { cls := 12, slots := #[.null, .null, .null], vm := .statics 12 }]
def classes : Array Class := #[k0, k1, k2, k3, k4, k5, k6, k7, k8, k9, k10, k11, k12, k13, k14, k15, k16, k17, k18, k19, k20]
def interned : List (Array UInt16 × Addr) := []
def slotsUsed : Nat := 10
def theMethod : MethodId := ⟨1, 3⟩
def args0 : Array Value := #[.int 5, .int 6, .int 7, .int 8, .int 9]
def aboutOver (below : List Frame) : State where
  vm := { classes := classes, interned := interned.toArray }
  heap := heap
  slotsUsed := slotsUsed
  threads := #[{ frames := .invoking theMethod args0 :: below }]
def below0 : List Frame := [.native { method := ⟨0, 0⟩, args := #[] }]
def about1 : State := aboutOver below0
def p0 : Program := .bare "" "" ""
def e0 : Env := launch0.env 0 0 0
theorem w_frames : about1.frames = Frame.invoking theMethod args0 :: below0 := rfl
set_option maxRecDepth 65536 in
theorem w_args : argsFit about1.vm theMethod args0 = true := by decide +kernel
set_option maxRecDepth 65536 in
theorem w_heap : heapFits about1 = true := by decide +kernel
set_option maxRecDepth 65536 in
theorem w_runnable : about1.curStatus? = some .runnable := by decide +kernel
set_option maxRecDepth 65536 in
theorem w_alone : about1.alone = true := by decide +kernel
set_option maxRecDepth 65536 in
theorem w_named : about1.methodNamed? x = some theMethod := by decide +kernel
set_option maxRecDepth 65536 in
theorem w_hears : about1.hears theMethod below0 = true := by decide +kernel
set_option maxRecDepth 65536 in
theorem w_ripe : about1.ripe theMethod args0 below0 = true := by decide +kernel
theorem w_running : about1.status = .running := rfl
set_option maxRecDepth 65536 in
theorem w_room : about1.hasRoom e0.platform room_1 = true :=
  launch0.hasRoom_least _ room_1 (by decide +kernel) (by decide +kernel) (by decide +kernel) (by decide +kernel) (by decide +kernel) (by decide +kernel)
theorem allAtoms_all (ts : List Jvm.Cond) (a : Array Jvm.Value) (st : Jvm.State) : (allAtoms ts).before a st = ts.all (fun c => c.before a st) := by
  induction ts with
  | nil => rfl
  | cons c t ih =>
    show (Jvm.Cond.and c (allAtoms t)).before a st = _
    rw [Jvm.Cond.before_and, ih, List.all_cons]
def words1 : List Jvm.Cond := Jvm.Cond.code x code maxLocals ret :: tables_1
/-- a 'code' word, met by the world's own term for the bytes: nothing is compared byte by byte -/
theorem code_word {y : MethodName} {bytes : ByteArray} {mx : Nat} {rt : Option FieldType} {a : Array Value} {s : State} {m : MethodId} {meth : Method} {c : Code} (h1 : s.methodNamed? y = some m) (h2 : s.vm.method? m = some meth) (h3 : meth.code = some c) (h4 : c.code = bytes)
    (h5 : (c.maxLocals == mx && c.exceptionTable.isEmpty && decide (c.maxStack ≤ mostOperands) && decide (meth.sig.returnType = rt) && !meth.locks && decide (parseMethodDescriptor y.desc = some meth.sig)) = true) : (Jvm.Cond.code y bytes mx rt).before a s = true := by
  simp only [Bool.and_eq_true, beq_iff_eq, Bool.not_eq_true', decide_eq_true_eq] at h5
  obtain ⟨⟨⟨⟨⟨g1, g2⟩, g3⟩, g4⟩, g5⟩, g6⟩ := h5
  simp [Cond.before, Cond.holds, Cond.value, h1, h2, h3, h4, g1, g2, g3, g4, g5, g6]
def isCode : Jvm.Cond → Bool
  | .code _ _ _ _ => true
  | _ => false
theorem all_split {L : List Jvm.Cond} {P : Jvm.Cond → Bool} (h1 : L.all (fun c => isCode c || P c) = true) (h2 : ∀ c ∈ L.filter isCode, P c = true) : L.all P = true := by
  refine List.all_eq_true.mpr fun c hc => ?_
  have h := List.all_eq_true.mp h1 c hc
  rcases Bool.eq_false_or_eq_true (isCode c) with hi | hi
  · exact h2 c (List.mem_filter.mpr ⟨hc, hi⟩)
  · simpa [hi] using h
set_option maxRecDepth 65536 in
theorem w_c0 : (Jvm.Cond.code x code maxLocals ret).before args0 about1 = true := code_word (m := ⟨1, 3⟩) (meth := k1m3) (c := k1c3) (by decide +kernel) rfl rfl rfl (by decide +kernel)
set_option maxRecDepth 65536 in
theorem w_c1 : (Jvm.Cond.code ({ cls := "java/lang/String", name := "<init>", desc := "([C)V" } : Jvm.MethodName) jdk_42_method_3_code (2 : Nat) (Option.none : Option Jvm.ClassFile.FieldType)).before args0 about1 = true := code_word (m := ⟨8, 1⟩) (meth := k8m1) (c := k8c1) (by decide +kernel) rfl rfl rfl (by decide +kernel)
set_option maxRecDepth 65536 in
theorem w_c2 : (Jvm.Cond.code ({ cls := "java/lang/String", name := "<init>", desc := "([CIILjava/lang/Void;)V" } : Jvm.MethodName) jdk_42_method_149_code (6 : Nat) (Option.none : Option Jvm.ClassFile.FieldType)).before args0 about1 = true := code_word (m := ⟨8, 4⟩) (meth := k8m4) (c := k8c4) (by decide +kernel) rfl rfl rfl (by decide +kernel)
set_option maxRecDepth 65536 in
theorem w_c3 : (Jvm.Cond.code ({ cls := "java/lang/Object", name := "<init>", desc := "()V" } : Jvm.MethodName) object_method_1_code (1 : Nat) (Option.none : Option Jvm.ClassFile.FieldType)).before args0 about1 = true := code_word (m := ⟨0, 0⟩) (meth := k0m0) (c := k0c0) (by decide +kernel) rfl rfl rfl (by decide +kernel)
set_option maxRecDepth 65536 in
theorem w_c4 : (Jvm.Cond.code ({ cls := "java/lang/StringUTF16", name := "compress", desc := "([CII)[B" } : Jvm.MethodName) jdk_52_method_16_code (6 : Nat) (Option.some (Jvm.ClassFile.FieldType.array Jvm.ClassFile.FieldType.byte))).before args0 about1 = true := code_word (m := ⟨9, 2⟩) (meth := k9m2) (c := k9c2) (by decide +kernel) rfl rfl rfl (by decide +kernel)
set_option maxRecDepth 65536 in
theorem w_c5 : (Jvm.Cond.code ({ cls := "java/lang/StringUTF16", name := "compress", desc := "([CI[BII)I" } : Jvm.MethodName) jdk_52_method_21_code (7 : Nat) (Option.some Jvm.ClassFile.FieldType.int)).before args0 about1 = true := code_word (m := ⟨9, 3⟩) (meth := k9m3) (c := k9c3) (by decide +kernel) rfl rfl rfl (by decide +kernel)
set_option maxRecDepth 65536 in
theorem w_c6 : (Jvm.Cond.code ({ cls := "java/lang/StringUTF16", name := "coderFromArrayLen", desc := "([BI)B" } : Jvm.MethodName) jdk_52_method_15_code (2 : Nat) (Option.some Jvm.ClassFile.FieldType.byte)).before args0 about1 = true := code_word (m := ⟨9, 1⟩) (meth := k9m1) (c := k9c1) (by decide +kernel) rfl rfl rfl (by decide +kernel)
set_option maxRecDepth 65536 in
theorem w_c7 : (Jvm.Cond.code ({ cls := "com/example/dogwood/dogwood/model/yaml/Occurrences", name := "<init>", desc := "(Ljava/lang/String;C)V" } : Jvm.MethodName) prog_18_method_1_code (3 : Nat) (Option.none : Option Jvm.ClassFile.FieldType)).before args0 about1 = true := code_word (m := ⟨2, 0⟩) (meth := k2m0) (c := k2c0) (by decide +kernel) rfl rfl rfl (by decide +kernel)
set_option maxRecDepth 65536 in
theorem w_c8 : (Jvm.Cond.code ({ cls := "com/example/dogwood/dogwood/model/yaml/OccurrencesFromPinLaw", name := "idx", desc := "(I)I" } : Jvm.MethodName) method_2_code (1 : Nat) (Option.some Jvm.ClassFile.FieldType.int)).before args0 about1 = true := code_word (m := ⟨1, 1⟩) (meth := k1m1) (c := k1c1) (by decide +kernel) rfl rfl rfl (by decide +kernel)
set_option maxRecDepth 65536 in
theorem w_c9 : (Jvm.Cond.code ({ cls := "com/example/dogwood/dogwood/model/yaml/Occurrences", name := "from", desc := "(I)I" } : Jvm.MethodName) prog_18_method_2_code (2 : Nat) (Option.some Jvm.ClassFile.FieldType.int)).before args0 about1 = true := code_word (m := ⟨2, 1⟩) (meth := k2m1) (c := k2c1) (by decide +kernel) rfl rfl rfl (by decide +kernel)
set_option maxRecDepth 65536 in
theorem w_c10 : (Jvm.Cond.code ({ cls := "java/lang/String", name := "indexOf", desc := "(II)I" } : Jvm.MethodName) jdk_42_method_80_code (3 : Nat) (Option.some Jvm.ClassFile.FieldType.int)).before args0 about1 = true := code_word (m := ⟨8, 3⟩) (meth := k8m3) (c := k8c3) (by decide +kernel) rfl rfl rfl (by decide +kernel)
set_option maxRecDepth 65536 in
theorem w_c11 : (Jvm.Cond.code ({ cls := "java/lang/String", name := "isLatin1", desc := "()Z" } : Jvm.MethodName) jdk_42_method_154_code (1 : Nat) (Option.some Jvm.ClassFile.FieldType.boolean)).before args0 about1 = true := code_word (m := ⟨8, 6⟩) (meth := k8m6) (c := k8c6) (by decide +kernel) rfl rfl rfl (by decide +kernel)
set_option maxRecDepth 65536 in
theorem w_c12 : (Jvm.Cond.code ({ cls := "java/lang/String", name := "length", desc := "()I" } : Jvm.MethodName) jdk_42_method_54_code (1 : Nat) (Option.some Jvm.ClassFile.FieldType.int)).before args0 about1 = true := code_word (m := ⟨8, 2⟩) (meth := k8m2) (c := k8c2) (by decide +kernel) rfl rfl rfl (by decide +kernel)
set_option maxRecDepth 65536 in
theorem w_c13 : (Jvm.Cond.code ({ cls := "java/lang/String", name := "coder", desc := "()B" } : Jvm.MethodName) jdk_42_method_152_code (1 : Nat) (Option.some Jvm.ClassFile.FieldType.byte)).before args0 about1 = true := code_word (m := ⟨8, 5⟩) (meth := k8m5) (c := k8c5) (by decide +kernel) rfl rfl rfl (by decide +kernel)
set_option maxRecDepth 65536 in
theorem w_c14 : (Jvm.Cond.code ({ cls := "java/lang/StringLatin1", name := "indexOf", desc := "([BIII)I" } : Jvm.MethodName) jdk_43_method_22_code (4 : Nat) (Option.some Jvm.ClassFile.FieldType.int)).before args0 about1 = true := code_word (m := ⟨10, 2⟩) (meth := k10m2) (c := k10c2) (by decide +kernel) rfl rfl rfl (by decide +kernel)
set_option maxRecDepth 65536 in
theorem w_c15 : (Jvm.Cond.code ({ cls := "java/lang/StringLatin1", name := "canEncode", desc := "(I)Z" } : Jvm.MethodName) jdk_43_method_4_code (1 : Nat) (Option.some Jvm.ClassFile.FieldType.boolean)).before args0 about1 = true := code_word (m := ⟨10, 1⟩) (meth := k10m1) (c := k10c1) (by decide +kernel) rfl rfl rfl (by decide +kernel)
set_option maxRecDepth 65536 in
theorem w_c16 : (Jvm.Cond.code ({ cls := "java/lang/Math", name := "max", desc := "(II)I" } : Jvm.MethodName) jdk_29_method_65_code (2 : Nat) (Option.some Jvm.ClassFile.FieldType.int)).before args0 about1 = true := code_word (m := ⟨11, 1⟩) (meth := k11m1) (c := k11c1) (by decide +kernel) rfl rfl rfl (by decide +kernel)
set_option maxRecDepth 65536 in
theorem w_c17 : (Jvm.Cond.code ({ cls := "java/lang/Math", name := "min", desc := "(II)I" } : Jvm.MethodName) jdk_29_method_69_code (2 : Nat) (Option.some Jvm.ClassFile.FieldType.int)).before args0 about1 = true := code_word (m := ⟨11, 2⟩) (meth := k11m2) (c := k11c2) (by decide +kernel) rfl rfl rfl (by decide +kernel)
set_option maxRecDepth 65536 in
theorem w_c18 : (Jvm.Cond.code ({ cls := "java/lang/StringLatin1", name := "indexOfChar", desc := "([BIII)I" } : Jvm.MethodName) jdk_43_method_23_code (6 : Nat) (Option.some Jvm.ClassFile.FieldType.int)).before args0 about1 = true := code_word (m := ⟨10, 3⟩) (meth := k10m3) (c := k10c3) (by decide +kernel) rfl rfl rfl (by decide +kernel)
set_option maxRecDepth 65536 in
theorem w_c19 : (Jvm.Cond.code ({ cls := "com/example/dogwood/dogwood/model/yaml/OccurrencesFromPinLaw", name := "ref", desc := "(CCCCCI)I" } : Jvm.MethodName) method_3_code (6 : Nat) (Option.some Jvm.ClassFile.FieldType.int)).before args0 about1 = true := code_word (m := ⟨1, 2⟩) (meth := k1m2) (c := k1c2) (by decide +kernel) rfl rfl rfl (by decide +kernel)
def codes1 : List Jvm.Cond := [Jvm.Cond.code x code maxLocals ret, Jvm.Cond.code ({ cls := "java/lang/String", name := "<init>", desc := "([C)V" } : Jvm.MethodName) jdk_42_method_3_code (2 : Nat) (Option.none : Option Jvm.ClassFile.FieldType), Jvm.Cond.code ({ cls := "java/lang/String", name := "<init>", desc := "([CIILjava/lang/Void;)V" } : Jvm.MethodName) jdk_42_method_149_code (6 : Nat) (Option.none : Option Jvm.ClassFile.FieldType), Jvm.Cond.code ({ cls := "java/lang/Object", name := "<init>", desc := "()V" } : Jvm.MethodName) object_method_1_code (1 : Nat) (Option.none : Option Jvm.ClassFile.FieldType), Jvm.Cond.code ({ cls := "java/lang/StringUTF16", name := "compress", desc := "([CII)[B" } : Jvm.MethodName) jdk_52_method_16_code (6 : Nat) (Option.some (Jvm.ClassFile.FieldType.array Jvm.ClassFile.FieldType.byte)), Jvm.Cond.code ({ cls := "java/lang/StringUTF16", name := "compress", desc := "([CI[BII)I" } : Jvm.MethodName) jdk_52_method_21_code (7 : Nat) (Option.some Jvm.ClassFile.FieldType.int), Jvm.Cond.code ({ cls := "java/lang/StringUTF16", name := "coderFromArrayLen", desc := "([BI)B" } : Jvm.MethodName) jdk_52_method_15_code (2 : Nat) (Option.some Jvm.ClassFile.FieldType.byte), Jvm.Cond.code ({ cls := "com/example/dogwood/dogwood/model/yaml/Occurrences", name := "<init>", desc := "(Ljava/lang/String;C)V" } : Jvm.MethodName) prog_18_method_1_code (3 : Nat) (Option.none : Option Jvm.ClassFile.FieldType), Jvm.Cond.code ({ cls := "com/example/dogwood/dogwood/model/yaml/OccurrencesFromPinLaw", name := "idx", desc := "(I)I" } : Jvm.MethodName) method_2_code (1 : Nat) (Option.some Jvm.ClassFile.FieldType.int), Jvm.Cond.code ({ cls := "com/example/dogwood/dogwood/model/yaml/Occurrences", name := "from", desc := "(I)I" } : Jvm.MethodName) prog_18_method_2_code (2 : Nat) (Option.some Jvm.ClassFile.FieldType.int), Jvm.Cond.code ({ cls := "java/lang/String", name := "indexOf", desc := "(II)I" } : Jvm.MethodName) jdk_42_method_80_code (3 : Nat) (Option.some Jvm.ClassFile.FieldType.int), Jvm.Cond.code ({ cls := "java/lang/String", name := "isLatin1", desc := "()Z" } : Jvm.MethodName) jdk_42_method_154_code (1 : Nat) (Option.some Jvm.ClassFile.FieldType.boolean), Jvm.Cond.code ({ cls := "java/lang/String", name := "length", desc := "()I" } : Jvm.MethodName) jdk_42_method_54_code (1 : Nat) (Option.some Jvm.ClassFile.FieldType.int), Jvm.Cond.code ({ cls := "java/lang/String", name := "coder", desc := "()B" } : Jvm.MethodName) jdk_42_method_152_code (1 : Nat) (Option.some Jvm.ClassFile.FieldType.byte), Jvm.Cond.code ({ cls := "java/lang/StringLatin1", name := "indexOf", desc := "([BIII)I" } : Jvm.MethodName) jdk_43_method_22_code (4 : Nat) (Option.some Jvm.ClassFile.FieldType.int), Jvm.Cond.code ({ cls := "java/lang/StringLatin1", name := "canEncode", desc := "(I)Z" } : Jvm.MethodName) jdk_43_method_4_code (1 : Nat) (Option.some Jvm.ClassFile.FieldType.boolean), Jvm.Cond.code ({ cls := "java/lang/Math", name := "max", desc := "(II)I" } : Jvm.MethodName) jdk_29_method_65_code (2 : Nat) (Option.some Jvm.ClassFile.FieldType.int), Jvm.Cond.code ({ cls := "java/lang/Math", name := "min", desc := "(II)I" } : Jvm.MethodName) jdk_29_method_69_code (2 : Nat) (Option.some Jvm.ClassFile.FieldType.int), Jvm.Cond.code ({ cls := "java/lang/StringLatin1", name := "indexOfChar", desc := "([BIII)I" } : Jvm.MethodName) jdk_43_method_23_code (6 : Nat) (Option.some Jvm.ClassFile.FieldType.int), Jvm.Cond.code ({ cls := "com/example/dogwood/dogwood/model/yaml/OccurrencesFromPinLaw", name := "ref", desc := "(CCCCCI)I" } : Jvm.MethodName) method_3_code (6 : Nat) (Option.some Jvm.ClassFile.FieldType.int)]
set_option maxRecDepth 65536 in
theorem codes_eq : words1.filter isCode = codes1 := rfl
theorem w_codes : ∀ c ∈ words1.filter isCode, c.before args0 about1 = true := by
  rw [codes_eq]
  intro c hc
  simp only [codes1, List.mem_cons, List.not_mem_nil, or_false] at hc
  rcases hc with rfl | rfl | rfl | rfl | rfl | rfl | rfl | rfl | rfl | rfl | rfl | rfl | rfl | rfl | rfl | rfl | rfl | rfl | rfl | rfl
  · exact w_c0
  · exact w_c1
  · exact w_c2
  · exact w_c3
  · exact w_c4
  · exact w_c5
  · exact w_c6
  · exact w_c7
  · exact w_c8
  · exact w_c9
  · exact w_c10
  · exact w_c11
  · exact w_c12
  · exact w_c13
  · exact w_c14
  · exact w_c15
  · exact w_c16
  · exact w_c17
  · exact w_c18
  · exact w_c19
set_option maxRecDepth 65536 in
theorem w_t1 : (words1.take 24).all (fun c => isCode c || c.before args0 about1) = true := by decide +kernel
set_option maxRecDepth 65536 in
theorem w_t2 : ((words1.drop 24).take 24).all (fun c => isCode c || c.before args0 about1) = true := by decide +kernel
set_option maxRecDepth 65536 in
theorem w_t3 : (((words1.drop 24).drop 24).take 24).all (fun c => isCode c || c.before args0 about1) = true := by decide +kernel
set_option maxRecDepth 65536 in
theorem w_t4 : (((words1.drop 24).drop 24).drop 24).all (fun c => isCode c || c.before args0 about1) = true := by decide +kernel
theorem w_tables : (allAtoms (Jvm.Cond.code x code maxLocals ret :: tables_1)).before args0 about1 = true := by
  rw [allAtoms_all]
  show words1.all (fun c => c.before args0 about1) = true
  refine all_split ?_ w_codes
  rw [← List.take_append_drop 24 words1, List.all_append, w_t1, ← List.take_append_drop 24 (words1.drop 24), List.all_append, w_t2, ← List.take_append_drop 24 ((words1.drop 24).drop 24), List.all_append, w_t3, w_t4]
  rfl
set_option maxRecDepth 65536 in
theorem w_rest : rest_1_c.before args0 about1 = true := by decide +kernel
set_option maxRecDepth 65536 in
theorem w_case : (Jvm.Cond.and given_1 narrow_1).before args0 about1 = true := by decide +kernel
theorem w_applies : (headSpec (Jvm.Cond.code x code maxLocals ret :: tables_1) room_1).applies x e0.platform about1 = true :=
  (Spec.applies_iff w_frames).mpr ⟨w_running, w_runnable, w_alone, w_named, w_hears, w_ripe, w_room, w_tables⟩
theorem atStart : AtStart classFile x code maxLocals ret World_1 tables_1 room_1 Calls_1 rest_1 Pre_1 launch0 p0 e0 about1 theMethod args0 below0 :=
  ⟨lists_1, trivial, launch0.admits_env _ _ _, launch0.least_env, fairChoices_fair.cas, fairChoices_fair.clock, w_frames, w_args, w_heap, w_applies, trivial, w_rest, w_case⟩
end start1
theorem witness_1 : WitnessClaimed_1 := ⟨start1.p0, start1.e0, start1.about1, start1.theMethod, start1.args0, start1.below0, start1.atStart⟩
end Jvm.Pilot.@@N@@
