import JvmDerived
import JvmDerived.Pilot.@@N@@Statement
import JvmDerived.Pilot.@@N@@Code
set_option linter.unusedVariables false
set_option linter.unusedSimpArgs false
namespace Jvm.Pilot.@@N@@
open Jvm Jvm.ClassFile Sem Op Lib Jvm.Free Jvm.Stand Jvm.LawKit Jvm.RoadKit Bundle Jvm.Pilot.@@N@@.Jvm.D
section Own
variable {p : Program} {l : Launch} {e : Env} {R : Room} {s : State} {m : MethodId} {args : Array Value} {below : List Frame} {meth : Method} {c : Code} {T : State} {locs : List Loc} {cells slots : Nat}
def Go (p : Program) (e : Env) (below : List Frame) (F : State → Outcome → Prop) (t : State) : Prop := ∃ s₂ o, Steps p.tables e below t s₂ ∧ F s₂ o
theorem Go.via {F : State → Outcome → Prop} {a b : State} (h : ∀ t, Steps p.tables e below b t → Steps p.tables e below a t) (g : Go p e below F b) : Go p e below F a := by
  obtain ⟨s₂, o, k, f⟩ := g
  exact ⟨s₂, o, h _ k, f⟩
theorem Go.tr {F : State → Outcome → Prop} {a b : State} (h : Steps p.tables e below a b) (g : Go p e below F b) : Go p e below F a := by
  obtain ⟨s₂, o, k, f⟩ := g
  exact ⟨s₂, o, h.trans k, f⟩
def FinE (s : State) (below : List Frame) (Q : Option Value → Heap → List Loc → Prop) (C S : Nat) (s₂ : State) (o : Outcome) : Prop := s₂.status = .running ∧ Ended s₂ below o ∧ ∃ v L, o = .returned v ∧ Q v s₂.heap L ∧ FrameEnd s o s₂ L C S
variable {Q : Option Value → Heap → List Loc → Prop} {C S : Nat}
theorem own_retN (X : Stand p l e R s m args below meth c T locs cells slots) (hx : p.tables.exec = Jvm.exec) (hlk : meth.locks = false) {pc : Nat} {Ls : Array Slot} {z : Int32} {t : FieldType} {rest : List Value} (hret : meth.sig.returnType = some t) (ht : t = .boolean ∨ t = .byte ∨ t = .char ∨ t = .short)
    (hd : decode c.code pc = .ok (.ireturn, 1)) (hQ : Q (some (.int (nar t z))) T.heap locs) (hc : cells ≤ C) (hs : slots ≤ S) : Go p e below (FinE s below Q C S) (T.setTop (mkF m pc Ls (.int z :: rest))) := by
  obtain ⟨fs, hr, hrun, hended, hW, hsame⟩ := X.leave (v := some (.int (nar t z))) (fun h => by rw [hret] at h; cases h) hlk
  exact ⟨_, _, retN X hx hret ht hd hr, hrun, hended, _, _, rfl, hQ, ⟨_, rfl⟩, hW, hsame.mono hc hs⟩
theorem own_retI (X : Stand p l e R s m args below meth c T locs cells slots) (hx : p.tables.exec = Jvm.exec) (hlk : meth.locks = false) {pc : Nat} {Ls : Array Slot} {z : Int32} {rest : List Value} (hret : meth.sig.returnType = some .int)
    (hd : decode c.code pc = .ok (.ireturn, 1)) (hQ : Q (some (.int z)) T.heap locs) (hc : cells ≤ C) (hs : slots ≤ S) : Go p e below (FinE s below Q C S) (T.setTop (mkF m pc Ls (.int z :: rest))) := by
  obtain ⟨fs, hr, hrun, hended, hW, hsame⟩ := X.leave (v := some (.int z)) (fun h => by rw [hret] at h; cases h) hlk
  refine ⟨T.setFrames fs, _, ?_, hrun, hended, _, _, rfl, hQ, ⟨_, rfl⟩, hW, hsame.mono hc hs⟩
  have hm' : T.vm.method? m = some meth := X.method'
  have hn : narrow .int (.int z) = .int z := rfl
  show Steps p.tables e below (T.setTop { method := m, pc := pc, locals := Ls, stack := _ :: rest, locked := none }) _
  jvm_step X.here [X.here.top, hx, hd, hm', hret, hn]
  first | (intro acts; rw [hr _ acts rfl rfl rfl]) | rw [hr _ _ rfl rfl rfl]
  exact Steps.refl _
theorem own_retA (X : Stand p l e R s m args below meth c T locs cells slots) (hx : p.tables.exec = Jvm.exec) (hlk : meth.locks = false) {pc : Nat} {Ls : Array Slot} {v : Value} {rest : List Value} {t : FieldType} (hret : meth.sig.returnType = some t) (ht : t.isReference = true) (hv : v.isRef = true)
    (hd : decode c.code pc = .ok (.areturn, 1)) (hQ : Q (some v) T.heap locs) (hc : cells ≤ C) (hs : slots ≤ S) : Go p e below (FinE s below Q C S) (T.setTop (mkF m pc Ls (v :: rest))) := by
  obtain ⟨fs, hr, hrun, hended, hW, hsame⟩ := X.leave (v := some v) (fun h => by rw [hret] at h; cases h) hlk
  refine ⟨T.setFrames fs, _, ?_, hrun, hended, _, _, rfl, hQ, ⟨_, rfl⟩, hW, hsame.mono hc hs⟩
  have hm' : T.vm.method? m = some meth := X.method'
  show Steps p.tables e below (T.setTop { method := m, pc := pc, locals := Ls, stack := _ :: rest, locked := none }) _
  jvm_step X.here [X.here.top, hx, hd, hm', hret, hv, ht]
  first | (intro acts; rw [hr _ acts rfl rfl rfl]) | rw [hr _ _ rfl rfl rfl]
  exact Steps.refl _
theorem own_retV (X : Stand p l e R s m args below meth c T locs cells slots) (hx : p.tables.exec = Jvm.exec) (hlk : meth.locks = false) {pc : Nat} {Ls : Array Slot} (hret : meth.sig.returnType = none)
    (hd : decode c.code pc = .ok (.return_, 1)) (hQ : Q none T.heap locs) (hc : cells ≤ C) (hs : slots ≤ S) : Go p e below (FinE s below Q C S) (T.setTop (mkF m pc Ls [])) := by
  obtain ⟨fs, hr, hrun, hended, hW, hsame⟩ := X.leave (v := none) (fun _ => rfl) hlk
  exact ⟨T.setFrames fs, _, X.returnOut hx hret hd hr, hrun, hended, _, _, rfl, hQ, ⟨_, rfl⟩, hW, hsame.mono hc hs⟩
theorem own_cat {v : Value} (h : v.isRef = true) : v.category = 1 := by cases v <;> simp_all [Value.isRef, Value.category]
end Own
theorem d1_0 : decode prog_16_method_4_code 0 = .ok (.iload_n 0, 1) := by decide +kernel
theorem d1_1 : decode prog_16_method_4_code 1 = .ok (.bipush 10, 2) := by decide +kernel
theorem d1_3 : decode prog_16_method_4_code 3 = .ok (.if_icmp .eq 9, 3) := by decide +kernel
theorem d1_12 : decode prog_16_method_4_code 12 = .ok (.iconst 1, 1) := by decide +kernel
theorem d1_13 : decode prog_16_method_4_code 13 = .ok (.goto 4, 3) := by decide +kernel
theorem d1_17 : decode prog_16_method_4_code 17 = .ok (.ireturn, 1) := by decide +kernel
theorem pn_com_example_dogwood_dogwood_model_yaml_Lines : plainName "com/example/dogwood/dogwood/model/yaml/Lines" = true := by first | (simp [plainName, overriddenIn]; done) | decide +kernel
theorem d1_6 : decode prog_16_method_4_code 6 = .ok (.iload_n 0, 1) := by decide +kernel
theorem d1_7 : decode prog_16_method_4_code 7 = .ok (.bipush 13, 2) := by decide +kernel
theorem d1_9 : decode prog_16_method_4_code 9 = .ok (.if_icmp .ne 7, 3) := by decide +kernel
theorem d1_16 : decode prog_16_method_4_code 16 = .ok (.iconst 0, 1) := by decide +kernel
theorem d3_0 : decode jdk_43_method_3_code 0 = .ok (.iload_n 0, 1) := by decide +kernel
theorem d3_1 : decode jdk_43_method_3_code 1 = .ok (.sipush 255, 3) := by decide +kernel
theorem d3_4 : decode jdk_43_method_3_code 4 = .ok (.if_icmp .gt 7, 3) := by decide +kernel
theorem d3_7 : decode jdk_43_method_3_code 7 = .ok (.iconst 1, 1) := by decide +kernel
theorem d3_8 : decode jdk_43_method_3_code 8 = .ok (.goto 4, 3) := by decide +kernel
theorem d3_12 : decode jdk_43_method_3_code 12 = .ok (.ireturn, 1) := by decide +kernel
theorem pn_java_lang_StringLatin1 : plainName "java/lang/StringLatin1" = true := by first | (simp [plainName, overriddenIn]; done) | decide +kernel
theorem d3_11 : decode jdk_43_method_3_code 11 = .ok (.iconst 0, 1) := by decide +kernel
theorem d4_0 : decode jdk_43_method_46_code 0 = .ok (.iconst 1, 1) := by decide +kernel
theorem d4_1 : decode jdk_43_method_46_code 1 = .ok (.newarray .byte, 2) := by decide +kernel
theorem d4_3 : decode jdk_43_method_46_code 3 = .ok (.dup, 1) := by decide +kernel
theorem d4_4 : decode jdk_43_method_46_code 4 = .ok (.iconst 0, 1) := by decide +kernel
theorem d4_5 : decode jdk_43_method_46_code 5 = .ok (.iload_n 0, 1) := by decide +kernel
theorem d4_6 : decode jdk_43_method_46_code 6 = .ok (.i2b, 1) := by decide +kernel
theorem d4_7 : decode jdk_43_method_46_code 7 = .ok (.bastore, 1) := by decide +kernel
theorem d4_8 : decode jdk_43_method_46_code 8 = .ok (.areturn, 1) := by decide +kernel
theorem d20_0 : decode jdk_52_method_4_code 0 = .ok (.getstatic 44, 3) := by decide +kernel
theorem d20_3 : decode jdk_52_method_4_code 3 = .ok (.ifCond .ne 25, 3) := by decide +kernel
theorem d20_28 : decode jdk_52_method_4_code 28 = .ok (.iload_n 1, 1) := by decide +kernel
theorem d20_29 : decode jdk_52_method_4_code 29 = .ok (.iconst 1, 1) := by decide +kernel
theorem d20_30 : decode jdk_52_method_4_code 30 = .ok (.ishl, 1) := by decide +kernel
theorem d20_31 : decode jdk_52_method_4_code 31 = .ok (.istore_n 1, 1) := by decide +kernel
theorem d20_32 : decode jdk_52_method_4_code 32 = .ok (.aload_n 0, 1) := by decide +kernel
theorem d20_33 : decode jdk_52_method_4_code 33 = .ok (.iload_n 1, 1) := by decide +kernel
theorem d20_34 : decode jdk_52_method_4_code 34 = .ok (.iinc 1 1, 3) := by decide +kernel
theorem d20_37 : decode jdk_52_method_4_code 37 = .ok (.iload_n 2, 1) := by decide +kernel
theorem d20_38 : decode jdk_52_method_4_code 38 = .ok (.getstatic 59, 3) := by decide +kernel
theorem d20_41 : decode jdk_52_method_4_code 41 = .ok (.ishr, 1) := by decide +kernel
theorem d20_42 : decode jdk_52_method_4_code 42 = .ok (.i2b, 1) := by decide +kernel
theorem d20_43 : decode jdk_52_method_4_code 43 = .ok (.bastore, 1) := by decide +kernel
theorem d20_44 : decode jdk_52_method_4_code 44 = .ok (.aload_n 0, 1) := by decide +kernel
theorem d20_45 : decode jdk_52_method_4_code 45 = .ok (.iload_n 1, 1) := by decide +kernel
theorem d20_46 : decode jdk_52_method_4_code 46 = .ok (.iload_n 2, 1) := by decide +kernel
theorem d20_47 : decode jdk_52_method_4_code 47 = .ok (.getstatic 63, 3) := by decide +kernel
theorem d20_50 : decode jdk_52_method_4_code 50 = .ok (.ishr, 1) := by decide +kernel
theorem d20_51 : decode jdk_52_method_4_code 51 = .ok (.i2b, 1) := by decide +kernel
theorem d20_52 : decode jdk_52_method_4_code 52 = .ok (.bastore, 1) := by decide +kernel
theorem d20_53 : decode jdk_52_method_4_code 53 = .ok (.return_, 1) := by decide +kernel
theorem pn_java_lang_StringUTF16 : plainName "java/lang/StringUTF16" = true := by first | (simp [plainName, overriddenIn]; done) | decide +kernel
theorem d19_0 : decode jdk_52_method_24_code 0 = .ok (.iconst 2, 1) := by decide +kernel
theorem d19_1 : decode jdk_52_method_24_code 1 = .ok (.newarray .byte, 2) := by decide +kernel
theorem d19_3 : decode jdk_52_method_24_code 3 = .ok (.astore_n 1, 1) := by decide +kernel
theorem d19_4 : decode jdk_52_method_24_code 4 = .ok (.aload_n 1, 1) := by decide +kernel
theorem d19_5 : decode jdk_52_method_24_code 5 = .ok (.iconst 0, 1) := by decide +kernel
theorem d19_6 : decode jdk_52_method_24_code 6 = .ok (.iload_n 0, 1) := by decide +kernel
theorem d19_7 : decode jdk_52_method_24_code 7 = .ok (.invokestatic 111, 3) := by decide +kernel
theorem pd_0 : parseMethodDescriptor "([BII)V" = some ⟨[(.array .byte), .int, .int], none⟩ := by decide +kernel
theorem d19_10 : decode jdk_52_method_24_code 10 = .ok (.aload_n 1, 1) := by decide +kernel
theorem d19_11 : decode jdk_52_method_24_code 11 = .ok (.areturn, 1) := by decide +kernel
theorem d5_0 : decode jdk_42_method_151_code 0 = .ok (.aload_n 0, 1) := by decide +kernel
theorem d5_1 : decode jdk_42_method_151_code 1 = .ok (.invokespecial 1, 3) := by decide +kernel
theorem d5_4 : decode jdk_42_method_151_code 4 = .ok (.aload_n 0, 1) := by decide +kernel
theorem d5_5 : decode jdk_42_method_151_code 5 = .ok (.aload_n 1, 1) := by decide +kernel
theorem d5_6 : decode jdk_42_method_151_code 6 = .ok (.putfield 9, 3) := by decide +kernel
theorem d5_9 : decode jdk_42_method_151_code 9 = .ok (.aload_n 0, 1) := by decide +kernel
theorem d5_10 : decode jdk_42_method_151_code 10 = .ok (.iload_n 2, 1) := by decide +kernel
theorem d5_11 : decode jdk_42_method_151_code 11 = .ok (.putfield 15, 3) := by decide +kernel
theorem d5_14 : decode jdk_42_method_151_code 14 = .ok (.return_, 1) := by decide +kernel
theorem pn_java_lang_String : plainName "java/lang/String" = true := by first | (simp [plainName, overriddenIn]; done) | decide +kernel
theorem d2_0 : decode jdk_42_method_139_code 0 = .ok (.getstatic 38, 3) := by decide +kernel
theorem d2_3 : decode jdk_42_method_139_code 3 = .ok (.ifCond .eq 23, 3) := by decide +kernel
theorem d2_6 : decode jdk_42_method_139_code 6 = .ok (.iload_n 0, 1) := by decide +kernel
theorem d2_7 : decode jdk_42_method_139_code 7 = .ok (.invokestatic 1015, 3) := by decide +kernel
theorem pd_1 : parseMethodDescriptor "(C)Z" = some ⟨[.char], some .boolean⟩ := by decide +kernel
theorem d2_10 : decode jdk_42_method_139_code 10 = .ok (.ifCond .eq 16, 3) := by decide +kernel
theorem d2_13 : decode jdk_42_method_139_code 13 = .ok (.new 10, 3) := by decide +kernel
theorem d2_16 : decode jdk_42_method_139_code 16 = .ok (.dup, 1) := by decide +kernel
theorem d2_17 : decode jdk_42_method_139_code 17 = .ok (.iload_n 0, 1) := by decide +kernel
theorem d2_18 : decode jdk_42_method_139_code 18 = .ok (.invokestatic 1018, 3) := by decide +kernel
theorem pd_2 : parseMethodDescriptor "(C)[B" = some ⟨[.char], some (.array .byte)⟩ := by decide +kernel
theorem d2_21 : decode jdk_42_method_139_code 21 = .ok (.iconst 0, 1) := by decide +kernel
theorem d2_22 : decode jdk_42_method_139_code 22 = .ok (.invokespecial 209, 3) := by decide +kernel
theorem pd_3 : parseMethodDescriptor "([BB)V" = some ⟨[(.array .byte), .byte], none⟩ := by decide +kernel
theorem d2_25 : decode jdk_42_method_139_code 25 = .ok (.areturn, 1) := by decide +kernel
theorem d2_26 : decode jdk_42_method_139_code 26 = .ok (.new 10, 3) := by decide +kernel
theorem d2_29 : decode jdk_42_method_139_code 29 = .ok (.dup, 1) := by decide +kernel
theorem d2_30 : decode jdk_42_method_139_code 30 = .ok (.iload_n 0, 1) := by decide +kernel
theorem d2_31 : decode jdk_42_method_139_code 31 = .ok (.invokestatic 1021, 3) := by decide +kernel
theorem d2_34 : decode jdk_42_method_139_code 34 = .ok (.iconst 1, 1) := by decide +kernel
theorem d2_35 : decode jdk_42_method_139_code 35 = .ok (.invokespecial 209, 3) := by decide +kernel
theorem d2_38 : decode jdk_42_method_139_code 38 = .ok (.areturn, 1) := by decide +kernel
theorem d7_0 : decode prog_19_method_1_code 0 = .ok (.aload_n 0, 1) := by decide +kernel
theorem d7_1 : decode prog_19_method_1_code 1 = .ok (.invokespecial 1, 3) := by decide +kernel
theorem d7_4 : decode prog_19_method_1_code 4 = .ok (.aload_n 0, 1) := by decide +kernel
theorem d7_5 : decode prog_19_method_1_code 5 = .ok (.ldc 9, 2) := by decide +kernel
theorem d7_7 : decode prog_19_method_1_code 7 = .ok (.putfield 10, 3) := by decide +kernel
theorem d7_10 : decode prog_19_method_1_code 10 = .ok (.aload_n 0, 1) := by decide +kernel
theorem d7_11 : decode prog_19_method_1_code 11 = .ok (.iconst (-1), 1) := by decide +kernel
theorem d7_12 : decode prog_19_method_1_code 12 = .ok (.putfield 16, 3) := by decide +kernel
theorem d7_15 : decode prog_19_method_1_code 15 = .ok (.aload_n 0, 1) := by decide +kernel
theorem d7_16 : decode prog_19_method_1_code 16 = .ok (.aload_n 1, 1) := by decide +kernel
theorem d7_17 : decode prog_19_method_1_code 17 = .ok (.putfield 19, 3) := by decide +kernel
theorem d7_20 : decode prog_19_method_1_code 20 = .ok (.aload_n 0, 1) := by decide +kernel
theorem d7_21 : decode prog_19_method_1_code 21 = .ok (.iload_n 2, 1) := by decide +kernel
theorem d7_22 : decode prog_19_method_1_code 22 = .ok (.putfield 23, 3) := by decide +kernel
theorem d7_25 : decode prog_19_method_1_code 25 = .ok (.return_, 1) := by decide +kernel
theorem pn_com_example_dogwood_dogwood_model_yaml_Occurrences : plainName "com/example/dogwood/dogwood/model/yaml/Occurrences" = true := by first | (simp [plainName, overriddenIn]; done) | decide +kernel
theorem d11_0 : decode jdk_42_method_154_code 0 = .ok (.getstatic 38, 3) := by decide +kernel
theorem d11_3 : decode jdk_42_method_154_code 3 = .ok (.ifCond .eq 14, 3) := by decide +kernel
theorem d11_6 : decode jdk_42_method_154_code 6 = .ok (.aload_n 0, 1) := by decide +kernel
theorem d11_7 : decode jdk_42_method_154_code 7 = .ok (.getfield 15, 3) := by decide +kernel
theorem d11_10 : decode jdk_42_method_154_code 10 = .ok (.ifCond .ne 7, 3) := by decide +kernel
theorem d11_13 : decode jdk_42_method_154_code 13 = .ok (.iconst 1, 1) := by decide +kernel
theorem d11_14 : decode jdk_42_method_154_code 14 = .ok (.goto 4, 3) := by decide +kernel
theorem d11_18 : decode jdk_42_method_154_code 18 = .ok (.ireturn, 1) := by decide +kernel
theorem d13_0 : decode jdk_42_method_152_code 0 = .ok (.getstatic 38, 3) := by decide +kernel
theorem d13_3 : decode jdk_42_method_152_code 3 = .ok (.ifCond .eq 10, 3) := by decide +kernel
theorem d13_6 : decode jdk_42_method_152_code 6 = .ok (.aload_n 0, 1) := by decide +kernel
theorem d13_7 : decode jdk_42_method_152_code 7 = .ok (.getfield 15, 3) := by decide +kernel
theorem d13_10 : decode jdk_42_method_152_code 10 = .ok (.goto 4, 3) := by decide +kernel
theorem d13_14 : decode jdk_42_method_152_code 14 = .ok (.ireturn, 1) := by decide +kernel
theorem d12_0 : decode jdk_42_method_54_code 0 = .ok (.aload_n 0, 1) := by decide +kernel
theorem d12_1 : decode jdk_42_method_54_code 1 = .ok (.getfield 9, 3) := by decide +kernel
theorem d12_4 : decode jdk_42_method_54_code 4 = .ok (.arraylength, 1) := by decide +kernel
theorem d12_5 : decode jdk_42_method_54_code 5 = .ok (.aload_n 0, 1) := by decide +kernel
theorem d12_6 : decode jdk_42_method_54_code 6 = .ok (.invokevirtual 335, 3) := by decide +kernel
theorem pd_4 : parseMethodDescriptor "()B" = some ⟨[], some .byte⟩ := by decide +kernel
theorem d12_9 : decode jdk_42_method_54_code 9 = .ok (.ishr, 1) := by decide +kernel
theorem d12_10 : decode jdk_42_method_54_code 10 = .ok (.ireturn, 1) := by decide +kernel
theorem d15_0 : decode jdk_43_method_4_code 0 = .ok (.iload_n 0, 1) := by decide +kernel
theorem d15_1 : decode jdk_43_method_4_code 1 = .ok (.ifCond .lt 14, 3) := by decide +kernel
theorem d15_4 : decode jdk_43_method_4_code 4 = .ok (.iload_n 0, 1) := by decide +kernel
theorem d15_5 : decode jdk_43_method_4_code 5 = .ok (.sipush 255, 3) := by decide +kernel
theorem d15_8 : decode jdk_43_method_4_code 8 = .ok (.if_icmp .gt 7, 3) := by decide +kernel
theorem d15_11 : decode jdk_43_method_4_code 11 = .ok (.iconst 1, 1) := by decide +kernel
theorem d15_12 : decode jdk_43_method_4_code 12 = .ok (.goto 4, 3) := by decide +kernel
theorem d15_16 : decode jdk_43_method_4_code 16 = .ok (.ireturn, 1) := by decide +kernel
theorem d16_0 : decode jdk_29_method_65_code 0 = .ok (.iload_n 0, 1) := by decide +kernel
theorem d16_1 : decode jdk_29_method_65_code 1 = .ok (.iload_n 1, 1) := by decide +kernel
theorem d16_2 : decode jdk_29_method_65_code 2 = .ok (.if_icmp .lt 7, 3) := by decide +kernel
theorem d16_9 : decode jdk_29_method_65_code 9 = .ok (.iload_n 1, 1) := by decide +kernel
theorem d16_10 : decode jdk_29_method_65_code 10 = .ok (.ireturn, 1) := by decide +kernel
theorem d17_0 : decode jdk_29_method_69_code 0 = .ok (.iload_n 0, 1) := by decide +kernel
theorem d17_1 : decode jdk_29_method_69_code 1 = .ok (.iload_n 1, 1) := by decide +kernel
theorem d17_2 : decode jdk_29_method_69_code 2 = .ok (.if_icmp .gt 7, 3) := by decide +kernel
theorem d17_5 : decode jdk_29_method_69_code 5 = .ok (.iload_n 0, 1) := by decide +kernel
theorem d17_6 : decode jdk_29_method_69_code 6 = .ok (.goto 4, 3) := by decide +kernel
theorem d17_10 : decode jdk_29_method_69_code 10 = .ok (.ireturn, 1) := by decide +kernel
theorem d18_0 : decode jdk_43_method_23_code 0 = .ok (.iload_n 1, 1) := by decide +kernel
theorem d18_1 : decode jdk_43_method_23_code 1 = .ok (.i2b, 1) := by decide +kernel
theorem d18_2 : decode jdk_43_method_23_code 2 = .ok (.istore 4, 2) := by decide +kernel
theorem d18_4 : decode jdk_43_method_23_code 4 = .ok (.iload_n 2, 1) := by decide +kernel
theorem d18_5 : decode jdk_43_method_23_code 5 = .ok (.istore 5, 2) := by decide +kernel
theorem d18_7 : decode jdk_43_method_23_code 7 = .ok (.iload 5, 2) := by decide +kernel
theorem d18_9 : decode jdk_43_method_23_code 9 = .ok (.iload_n 3, 1) := by decide +kernel
theorem d18_10 : decode jdk_43_method_23_code 10 = .ok (.if_icmp .ge 21, 3) := by decide +kernel
theorem d18_13 : decode jdk_43_method_23_code 13 = .ok (.aload_n 0, 1) := by decide +kernel
theorem d18_14 : decode jdk_43_method_23_code 14 = .ok (.iload 5, 2) := by decide +kernel
theorem d18_16 : decode jdk_43_method_23_code 16 = .ok (.baload, 1) := by decide +kernel
theorem d18_17 : decode jdk_43_method_23_code 17 = .ok (.iload 4, 2) := by decide +kernel
theorem d18_19 : decode jdk_43_method_23_code 19 = .ok (.if_icmp .ne 6, 3) := by decide +kernel
theorem d18_22 : decode jdk_43_method_23_code 22 = .ok (.iload 5, 2) := by decide +kernel
theorem d18_24 : decode jdk_43_method_23_code 24 = .ok (.ireturn, 1) := by decide +kernel
theorem d18_25 : decode jdk_43_method_23_code 25 = .ok (.iinc 5 1, 3) := by decide +kernel
theorem d18_28 : decode jdk_43_method_23_code 28 = .ok (.goto (-21), 3) := by decide +kernel
theorem d18_31 : decode jdk_43_method_23_code 31 = .ok (.iconst (-1), 1) := by decide +kernel
theorem d18_32 : decode jdk_43_method_23_code 32 = .ok (.ireturn, 1) := by decide +kernel
theorem d14_0 : decode jdk_43_method_22_code 0 = .ok (.iload_n 1, 1) := by decide +kernel
theorem d14_1 : decode jdk_43_method_22_code 1 = .ok (.invokestatic 88, 3) := by decide +kernel
theorem pd_5 : parseMethodDescriptor "(I)Z" = some ⟨[.int], some .boolean⟩ := by decide +kernel
theorem d14_4 : decode jdk_43_method_22_code 4 = .ok (.ifCond .ne 5, 3) := by decide +kernel
theorem d14_9 : decode jdk_43_method_22_code 9 = .ok (.iload_n 2, 1) := by decide +kernel
theorem d14_10 : decode jdk_43_method_22_code 10 = .ok (.iconst 0, 1) := by decide +kernel
theorem d14_11 : decode jdk_43_method_22_code 11 = .ok (.invokestatic 92, 3) := by decide +kernel
theorem pd_6 : parseMethodDescriptor "(II)I" = some ⟨[.int, .int], some .int⟩ := by decide +kernel
theorem d14_14 : decode jdk_43_method_22_code 14 = .ok (.istore_n 2, 1) := by decide +kernel
theorem d14_15 : decode jdk_43_method_22_code 15 = .ok (.iload_n 3, 1) := by decide +kernel
theorem d14_16 : decode jdk_43_method_22_code 16 = .ok (.aload_n 0, 1) := by decide +kernel
theorem d14_17 : decode jdk_43_method_22_code 17 = .ok (.arraylength, 1) := by decide +kernel
theorem d14_18 : decode jdk_43_method_22_code 18 = .ok (.invokestatic 38, 3) := by decide +kernel
theorem d14_21 : decode jdk_43_method_22_code 21 = .ok (.istore_n 3, 1) := by decide +kernel
theorem d14_22 : decode jdk_43_method_22_code 22 = .ok (.iload_n 2, 1) := by decide +kernel
theorem d14_23 : decode jdk_43_method_22_code 23 = .ok (.iload_n 3, 1) := by decide +kernel
theorem d14_24 : decode jdk_43_method_22_code 24 = .ok (.if_icmp .lt 5, 3) := by decide +kernel
theorem d14_29 : decode jdk_43_method_22_code 29 = .ok (.aload_n 0, 1) := by decide +kernel
theorem d14_30 : decode jdk_43_method_22_code 30 = .ok (.iload_n 1, 1) := by decide +kernel
theorem d14_31 : decode jdk_43_method_22_code 31 = .ok (.iload_n 2, 1) := by decide +kernel
theorem d14_32 : decode jdk_43_method_22_code 32 = .ok (.iload_n 3, 1) := by decide +kernel
theorem d14_33 : decode jdk_43_method_22_code 33 = .ok (.invokestatic 95, 3) := by decide +kernel
theorem pd_7 : parseMethodDescriptor "([BIII)I" = some ⟨[(.array .byte), .int, .int, .int], some .int⟩ := by decide +kernel
theorem d14_36 : decode jdk_43_method_22_code 36 = .ok (.ireturn, 1) := by decide +kernel
theorem d10_0 : decode jdk_42_method_80_code 0 = .ok (.aload_n 0, 1) := by decide +kernel
theorem d10_1 : decode jdk_42_method_80_code 1 = .ok (.invokevirtual 492, 3) := by decide +kernel
theorem pd_8 : parseMethodDescriptor "()Z" = some ⟨[], some .boolean⟩ := by decide +kernel
theorem d10_4 : decode jdk_42_method_80_code 4 = .ok (.ifCond .eq 19, 3) := by decide +kernel
theorem d10_7 : decode jdk_42_method_80_code 7 = .ok (.aload_n 0, 1) := by decide +kernel
theorem d10_8 : decode jdk_42_method_80_code 8 = .ok (.getfield 9, 3) := by decide +kernel
theorem d10_11 : decode jdk_42_method_80_code 11 = .ok (.iload_n 1, 1) := by decide +kernel
theorem d10_12 : decode jdk_42_method_80_code 12 = .ok (.iload_n 2, 1) := by decide +kernel
theorem d10_13 : decode jdk_42_method_80_code 13 = .ok (.aload_n 0, 1) := by decide +kernel
theorem d10_14 : decode jdk_42_method_80_code 14 = .ok (.invokevirtual 505, 3) := by decide +kernel
theorem pd_9 : parseMethodDescriptor "()I" = some ⟨[], some .int⟩ := by decide +kernel
theorem d10_17 : decode jdk_42_method_80_code 17 = .ok (.invokestatic 637, 3) := by decide +kernel
theorem d10_20 : decode jdk_42_method_80_code 20 = .ok (.goto 16, 3) := by decide +kernel
theorem d10_36 : decode jdk_42_method_80_code 36 = .ok (.ireturn, 1) := by decide +kernel
theorem d16_5 : decode jdk_29_method_65_code 5 = .ok (.iload_n 0, 1) := by decide +kernel
theorem d16_6 : decode jdk_29_method_65_code 6 = .ok (.goto 4, 3) := by decide +kernel
theorem d14_27 : decode jdk_43_method_22_code 27 = .ok (.iconst (-1), 1) := by decide +kernel
theorem d14_28 : decode jdk_43_method_22_code 28 = .ok (.ireturn, 1) := by decide +kernel
theorem d24_0 : decode jdk_52_method_6_code 0 = .ok (.aload_n 0, 1) := by decide +kernel
theorem d24_1 : decode jdk_52_method_6_code 1 = .ok (.arraylength, 1) := by decide +kernel
theorem d24_2 : decode jdk_52_method_6_code 2 = .ok (.iconst 1, 1) := by decide +kernel
theorem d24_3 : decode jdk_52_method_6_code 3 = .ok (.ishr, 1) := by decide +kernel
theorem d24_4 : decode jdk_52_method_6_code 4 = .ok (.ireturn, 1) := by decide +kernel
theorem d28_0 : decode jdk_52_method_5_code 0 = .ok (.getstatic 44, 3) := by decide +kernel
theorem d28_3 : decode jdk_52_method_5_code 3 = .ok (.ifCond .ne 25, 3) := by decide +kernel
theorem d28_28 : decode jdk_52_method_5_code 28 = .ok (.iload_n 1, 1) := by decide +kernel
theorem d28_29 : decode jdk_52_method_5_code 29 = .ok (.iconst 1, 1) := by decide +kernel
theorem d28_30 : decode jdk_52_method_5_code 30 = .ok (.ishl, 1) := by decide +kernel
theorem d28_31 : decode jdk_52_method_5_code 31 = .ok (.istore_n 1, 1) := by decide +kernel
theorem d28_32 : decode jdk_52_method_5_code 32 = .ok (.aload_n 0, 1) := by decide +kernel
theorem d28_33 : decode jdk_52_method_5_code 33 = .ok (.iload_n 1, 1) := by decide +kernel
theorem d28_34 : decode jdk_52_method_5_code 34 = .ok (.iinc 1 1, 3) := by decide +kernel
theorem d28_37 : decode jdk_52_method_5_code 37 = .ok (.baload, 1) := by decide +kernel
theorem d28_38 : decode jdk_52_method_5_code 38 = .ok (.sipush 255, 3) := by decide +kernel
theorem d28_41 : decode jdk_52_method_5_code 41 = .ok (.iand, 1) := by decide +kernel
theorem d28_42 : decode jdk_52_method_5_code 42 = .ok (.getstatic 59, 3) := by decide +kernel
theorem d28_45 : decode jdk_52_method_5_code 45 = .ok (.ishl, 1) := by decide +kernel
theorem d28_46 : decode jdk_52_method_5_code 46 = .ok (.aload_n 0, 1) := by decide +kernel
theorem d28_47 : decode jdk_52_method_5_code 47 = .ok (.iload_n 1, 1) := by decide +kernel
theorem d28_48 : decode jdk_52_method_5_code 48 = .ok (.baload, 1) := by decide +kernel
theorem d28_49 : decode jdk_52_method_5_code 49 = .ok (.sipush 255, 3) := by decide +kernel
theorem d28_52 : decode jdk_52_method_5_code 52 = .ok (.iand, 1) := by decide +kernel
theorem d28_53 : decode jdk_52_method_5_code 53 = .ok (.getstatic 63, 3) := by decide +kernel
theorem d28_56 : decode jdk_52_method_5_code 56 = .ok (.ishl, 1) := by decide +kernel
theorem d28_57 : decode jdk_52_method_5_code 57 = .ok (.ior, 1) := by decide +kernel
theorem d28_58 : decode jdk_52_method_5_code 58 = .ok (.i2c, 1) := by decide +kernel
theorem d28_59 : decode jdk_52_method_5_code 59 = .ok (.ireturn, 1) := by decide +kernel
theorem d26_0 : decode jdk_41_method_12_code 0 = .ok (.iload_n 0, 1) := by decide +kernel
theorem d26_1 : decode jdk_41_method_12_code 1 = .ok (.ifCond .lt 13, 3) := by decide +kernel
theorem d26_4 : decode jdk_41_method_12_code 4 = .ok (.iload_n 0, 1) := by decide +kernel
theorem d26_5 : decode jdk_41_method_12_code 5 = .ok (.iload_n 1, 1) := by decide +kernel
theorem d26_6 : decode jdk_41_method_12_code 6 = .ok (.if_icmp .gt 8, 3) := by decide +kernel
theorem d26_9 : decode jdk_41_method_12_code 9 = .ok (.iload_n 1, 1) := by decide +kernel
theorem d26_10 : decode jdk_41_method_12_code 10 = .ok (.iload_n 2, 1) := by decide +kernel
theorem d26_11 : decode jdk_41_method_12_code 11 = .ok (.if_icmp .le 11, 3) := by decide +kernel
theorem d26_22 : decode jdk_41_method_12_code 22 = .ok (.iload_n 0, 1) := by decide +kernel
theorem d26_23 : decode jdk_41_method_12_code 23 = .ok (.ireturn, 1) := by decide +kernel
theorem pn_jdk_internal_util_Preconditions : plainName "jdk/internal/util/Preconditions" = true := by first | (simp [plainName, overriddenIn]; done) | decide +kernel
theorem d25_0 : decode jdk_42_method_158_code 0 = .ok (.iload_n 0, 1) := by decide +kernel
theorem d25_1 : decode jdk_42_method_158_code 1 = .ok (.iload_n 1, 1) := by decide +kernel
theorem d25_2 : decode jdk_42_method_158_code 2 = .ok (.iload_n 2, 1) := by decide +kernel
theorem d25_3 : decode jdk_42_method_158_code 3 = .ok (.getstatic 1053, 3) := by decide +kernel
theorem d25_6 : decode jdk_42_method_158_code 6 = .ok (.invokestatic 1062, 3) := by decide +kernel
theorem pd_10 : parseMethodDescriptor "(IIILjava/util/function/BiFunction;)I" = some ⟨[.int, .int, .int, (.object "java/util/function/BiFunction")], some .int⟩ := by decide +kernel
theorem d25_9 : decode jdk_42_method_158_code 9 = .ok (.pop, 1) := by decide +kernel
theorem d25_10 : decode jdk_42_method_158_code 10 = .ok (.return_, 1) := by decide +kernel
theorem d23_0 : decode jdk_52_method_93_code 0 = .ok (.iload_n 0, 1) := by decide +kernel
theorem d23_1 : decode jdk_52_method_93_code 1 = .ok (.iload_n 1, 1) := by decide +kernel
theorem d23_2 : decode jdk_52_method_93_code 2 = .ok (.aload_n 2, 1) := by decide +kernel
theorem d23_3 : decode jdk_52_method_93_code 3 = .ok (.invokestatic 48, 3) := by decide +kernel
theorem pd_11 : parseMethodDescriptor "([B)I" = some ⟨[(.array .byte)], some .int⟩ := by decide +kernel
theorem d23_6 : decode jdk_52_method_93_code 6 = .ok (.invokestatic 241, 3) := by decide +kernel
theorem pd_12 : parseMethodDescriptor "(III)V" = some ⟨[.int, .int, .int], none⟩ := by decide +kernel
theorem d23_9 : decode jdk_52_method_93_code 9 = .ok (.return_, 1) := by decide +kernel
theorem d27_0 : decode jdk_52_method_48_code 0 = .ok (.iload_n 2, 1) := by decide +kernel
theorem d27_1 : decode jdk_52_method_48_code 1 = .ok (.istore 4, 2) := by decide +kernel
theorem d27_3 : decode jdk_52_method_48_code 3 = .ok (.iload 4, 2) := by decide +kernel
theorem d27_5 : decode jdk_52_method_48_code 5 = .ok (.iload_n 3, 1) := by decide +kernel
theorem d27_6 : decode jdk_52_method_48_code 6 = .ok (.if_icmp .ge 22, 3) := by decide +kernel
theorem d27_9 : decode jdk_52_method_48_code 9 = .ok (.aload_n 0, 1) := by decide +kernel
theorem d27_10 : decode jdk_52_method_48_code 10 = .ok (.iload 4, 2) := by decide +kernel
theorem d27_12 : decode jdk_52_method_48_code 12 = .ok (.invokestatic 71, 3) := by decide +kernel
theorem pd_13 : parseMethodDescriptor "([BI)C" = some ⟨[(.array .byte), .int], some .char⟩ := by decide +kernel
theorem d27_15 : decode jdk_52_method_48_code 15 = .ok (.iload_n 1, 1) := by decide +kernel
theorem d27_16 : decode jdk_52_method_48_code 16 = .ok (.if_icmp .ne 6, 3) := by decide +kernel
theorem d27_22 : decode jdk_52_method_48_code 22 = .ok (.iinc 4 1, 3) := by decide +kernel
theorem d27_25 : decode jdk_52_method_48_code 25 = .ok (.goto (-22), 3) := by decide +kernel
theorem d27_28 : decode jdk_52_method_48_code 28 = .ok (.iconst (-1), 1) := by decide +kernel
theorem d27_29 : decode jdk_52_method_48_code 29 = .ok (.ireturn, 1) := by decide +kernel
theorem d22_0 : decode jdk_52_method_47_code 0 = .ok (.iload_n 2, 1) := by decide +kernel
theorem d22_1 : decode jdk_52_method_47_code 1 = .ok (.iload_n 3, 1) := by decide +kernel
theorem d22_2 : decode jdk_52_method_47_code 2 = .ok (.aload_n 0, 1) := by decide +kernel
theorem d22_3 : decode jdk_52_method_47_code 3 = .ok (.invokestatic 96, 3) := by decide +kernel
theorem pd_14 : parseMethodDescriptor "(II[B)V" = some ⟨[.int, .int, (.array .byte)], none⟩ := by decide +kernel
theorem d22_6 : decode jdk_52_method_47_code 6 = .ok (.aload_n 0, 1) := by decide +kernel
theorem d22_7 : decode jdk_52_method_47_code 7 = .ok (.iload_n 1, 1) := by decide +kernel
theorem d22_8 : decode jdk_52_method_47_code 8 = .ok (.iload_n 2, 1) := by decide +kernel
theorem d22_9 : decode jdk_52_method_47_code 9 = .ok (.iload_n 3, 1) := by decide +kernel
theorem d22_10 : decode jdk_52_method_47_code 10 = .ok (.invokestatic 244, 3) := by decide +kernel
theorem d22_13 : decode jdk_52_method_47_code 13 = .ok (.ireturn, 1) := by decide +kernel
theorem d21_0 : decode jdk_52_method_40_code 0 = .ok (.iload_n 2, 1) := by decide +kernel
theorem d21_1 : decode jdk_52_method_40_code 1 = .ok (.iconst 0, 1) := by decide +kernel
theorem d21_2 : decode jdk_52_method_40_code 2 = .ok (.invokestatic 224, 3) := by decide +kernel
theorem d21_5 : decode jdk_52_method_40_code 5 = .ok (.istore_n 2, 1) := by decide +kernel
theorem d21_6 : decode jdk_52_method_40_code 6 = .ok (.iload_n 3, 1) := by decide +kernel
theorem d21_7 : decode jdk_52_method_40_code 7 = .ok (.aload_n 0, 1) := by decide +kernel
theorem d21_8 : decode jdk_52_method_40_code 8 = .ok (.arraylength, 1) := by decide +kernel
theorem d21_9 : decode jdk_52_method_40_code 9 = .ok (.iconst 1, 1) := by decide +kernel
theorem d21_10 : decode jdk_52_method_40_code 10 = .ok (.ishr, 1) := by decide +kernel
theorem d21_11 : decode jdk_52_method_40_code 11 = .ok (.invokestatic 183, 3) := by decide +kernel
theorem d21_14 : decode jdk_52_method_40_code 14 = .ok (.istore_n 3, 1) := by decide +kernel
theorem d21_15 : decode jdk_52_method_40_code 15 = .ok (.iload_n 2, 1) := by decide +kernel
theorem d21_16 : decode jdk_52_method_40_code 16 = .ok (.iload_n 3, 1) := by decide +kernel
theorem d21_17 : decode jdk_52_method_40_code 17 = .ok (.if_icmp .lt 5, 3) := by decide +kernel
theorem d21_22 : decode jdk_52_method_40_code 22 = .ok (.iload_n 1, 1) := by decide +kernel
theorem d21_23 : decode jdk_52_method_40_code 23 = .ok (.ldc 227, 2) := by decide +kernel
theorem d21_25 : decode jdk_52_method_40_code 25 = .ok (.if_icmp .ge 11, 3) := by decide +kernel
theorem d21_28 : decode jdk_52_method_40_code 28 = .ok (.aload_n 0, 1) := by decide +kernel
theorem d21_29 : decode jdk_52_method_40_code 29 = .ok (.iload_n 1, 1) := by decide +kernel
theorem d21_30 : decode jdk_52_method_40_code 30 = .ok (.iload_n 2, 1) := by decide +kernel
theorem d21_31 : decode jdk_52_method_40_code 31 = .ok (.iload_n 3, 1) := by decide +kernel
theorem d21_32 : decode jdk_52_method_40_code 32 = .ok (.invokestatic 228, 3) := by decide +kernel
theorem d21_35 : decode jdk_52_method_40_code 35 = .ok (.ireturn, 1) := by decide +kernel
theorem d11_17 : decode jdk_42_method_154_code 17 = .ok (.iconst 0, 1) := by decide +kernel
theorem d10_23 : decode jdk_42_method_80_code 23 = .ok (.aload_n 0, 1) := by decide +kernel
theorem d10_24 : decode jdk_42_method_80_code 24 = .ok (.getfield 9, 3) := by decide +kernel
theorem d10_27 : decode jdk_42_method_80_code 27 = .ok (.iload_n 1, 1) := by decide +kernel
theorem d10_28 : decode jdk_42_method_80_code 28 = .ok (.iload_n 2, 1) := by decide +kernel
theorem d10_29 : decode jdk_42_method_80_code 29 = .ok (.aload_n 0, 1) := by decide +kernel
theorem d10_30 : decode jdk_42_method_80_code 30 = .ok (.invokevirtual 505, 3) := by decide +kernel
theorem d10_33 : decode jdk_42_method_80_code 33 = .ok (.invokestatic 640, 3) := by decide +kernel
theorem d9_0 : decode prog_19_method_2_code 0 = .ok (.iload_n 1, 1) := by decide +kernel
theorem d9_1 : decode prog_19_method_2_code 1 = .ok (.aload_n 0, 1) := by decide +kernel
theorem d9_2 : decode prog_19_method_2_code 2 = .ok (.getfield 10, 3) := by decide +kernel
theorem d9_5 : decode prog_19_method_2_code 5 = .ok (.if_icmp .lt 18, 3) := by decide +kernel
theorem d9_23 : decode prog_19_method_2_code 23 = .ok (.aload_n 0, 1) := by decide +kernel
theorem d9_24 : decode prog_19_method_2_code 24 = .ok (.aload_n 0, 1) := by decide +kernel
theorem d9_25 : decode prog_19_method_2_code 25 = .ok (.getfield 19, 3) := by decide +kernel
theorem d9_28 : decode prog_19_method_2_code 28 = .ok (.aload_n 0, 1) := by decide +kernel
theorem d9_29 : decode prog_19_method_2_code 29 = .ok (.getfield 23, 3) := by decide +kernel
theorem d9_32 : decode prog_19_method_2_code 32 = .ok (.iload_n 1, 1) := by decide +kernel
theorem d9_33 : decode prog_19_method_2_code 33 = .ok (.invokevirtual 27, 3) := by decide +kernel
theorem d9_36 : decode prog_19_method_2_code 36 = .ok (.putfield 16, 3) := by decide +kernel
theorem d9_39 : decode prog_19_method_2_code 39 = .ok (.aload_n 0, 1) := by decide +kernel
theorem d9_40 : decode prog_19_method_2_code 40 = .ok (.iload_n 1, 1) := by decide +kernel
theorem d9_41 : decode prog_19_method_2_code 41 = .ok (.putfield 10, 3) := by decide +kernel
theorem d9_44 : decode prog_19_method_2_code 44 = .ok (.aload_n 0, 1) := by decide +kernel
theorem d9_45 : decode prog_19_method_2_code 45 = .ok (.getfield 16, 3) := by decide +kernel
theorem d9_48 : decode prog_19_method_2_code 48 = .ok (.ireturn, 1) := by decide +kernel
theorem d8_0 : decode prog_16_method_6_code 0 = .ok (.aload_n 2, 1) := by decide +kernel
theorem d8_1 : decode prog_16_method_6_code 1 = .ok (.iload_n 1, 1) := by decide +kernel
theorem d8_2 : decode prog_16_method_6_code 2 = .ok (.invokevirtual 64, 3) := by decide +kernel
theorem pd_15 : parseMethodDescriptor "(I)I" = some ⟨[.int], some .int⟩ := by decide +kernel
theorem d8_5 : decode prog_16_method_6_code 5 = .ok (.istore 4, 2) := by decide +kernel
theorem d8_7 : decode prog_16_method_6_code 7 = .ok (.aload_n 3, 1) := by decide +kernel
theorem d8_8 : decode prog_16_method_6_code 8 = .ok (.iload_n 1, 1) := by decide +kernel
theorem d8_9 : decode prog_16_method_6_code 9 = .ok (.invokevirtual 64, 3) := by decide +kernel
theorem d8_12 : decode prog_16_method_6_code 12 = .ok (.istore 5, 2) := by decide +kernel
theorem d8_14 : decode prog_16_method_6_code 14 = .ok (.iload 4, 2) := by decide +kernel
theorem d8_16 : decode prog_16_method_6_code 16 = .ok (.ifCond .lt 15, 3) := by decide +kernel
theorem d8_19 : decode prog_16_method_6_code 19 = .ok (.iload 5, 2) := by decide +kernel
theorem d8_21 : decode prog_16_method_6_code 21 = .ok (.ifCond .lt 25, 3) := by decide +kernel
theorem d8_46 : decode prog_16_method_6_code 46 = .ok (.iload 4, 2) := by decide +kernel
theorem d8_48 : decode prog_16_method_6_code 48 = .ok (.ireturn, 1) := by decide +kernel
theorem d8_31 : decode prog_16_method_6_code 31 = .ok (.iload 5, 2) := by decide +kernel
theorem d8_33 : decode prog_16_method_6_code 33 = .ok (.ifCond .ge 10, 3) := by decide +kernel
theorem d8_43 : decode prog_16_method_6_code 43 = .ok (.iload 5, 2) := by decide +kernel
theorem d8_45 : decode prog_16_method_6_code 45 = .ok (.ireturn, 1) := by decide +kernel
theorem d8_36 : decode prog_16_method_6_code 36 = .ok (.aload_n 0, 1) := by decide +kernel
theorem d8_37 : decode prog_16_method_6_code 37 = .ok (.invokevirtual 24, 3) := by decide +kernel
theorem d8_40 : decode prog_16_method_6_code 40 = .ok (.goto 5, 3) := by decide +kernel
theorem pd_16 : parseMethodDescriptor "(C)Ljava/lang/String;" = some ⟨[.char], some (.object "java/lang/String")⟩ := by decide +kernel
theorem pd_17 : parseMethodDescriptor "(Ljava/lang/String;C)V" = some ⟨[(.object "java/lang/String"), .char], none⟩ := by decide +kernel
theorem pd_18 : parseMethodDescriptor "(Ljava/lang/String;ILcom/example/dogwood/dogwood/model/yaml/Occurrences;Lcom/example/dogwood/dogwood/model/yaml/Occurrences;)I" = some ⟨[(.object "java/lang/String"), .int, (.object "com/example/dogwood/dogwood/model/yaml/Occurrences"), (.object "com/example/dogwood/dogwood/model/yaml/Occurrences")], some .int⟩ := by decide +kernel
theorem pn_com_example_dogwood_dogwood_model_yaml_LinesIsBreakPinLaw : plainName "com/example/dogwood/dogwood/model/yaml/LinesIsBreakPinLaw" = true := by first | (simp [plainName, overriddenIn]; done) | decide +kernel
theorem own_byteAnd (y : BitVec 32) : (BitVec.signExtend 32 (BitVec.signExtend 8 (BitVec.signExtend 32 (BitVec.signExtend 8 y))) &&& 255#32) = y &&& 255#32 := by
  apply BitVec.eq_of_getLsbD_eq
  intro i hi
  rw [BitVec.getLsbD_and, BitVec.getLsbD_and]
  have e : ∀ j, (255#32).getLsbD j = decide (j < 8) := by
    intro j
    rw [BitVec.getLsbD_ofNat]
    have : (255 : Nat) = 2 ^ 8 - 1 := by decide
    rw [this, Nat.testBit_two_pow_sub_one]
    by_cases q : j < 8
    · have : j < 32 := by omega
      simp [q, this]
    · simp [q]
  rw [e]
  by_cases q : i < 8
  · have q' : i < 32 := hi
    simp only [BitVec.getLsbD_signExtend, q, q', if_true, decide_true, Bool.true_and, Bool.and_true]
  · simp [q]
theorem own_u16bv (x : BitVec 32) (h : x.toNat < 65536) : ((((x.sshiftRight 0 &&& 255#32) <<< 0 ||| (x.sshiftRight 8 &&& 255#32) <<< 8)).setWidth 16).setWidth 32 = x := by
  have m : x.msb = false := by rw [BitVec.msb_eq_false_iff_two_mul_lt]; omega
  apply BitVec.eq_of_toNat_eq
  rw [BitVec.sshiftRight_eq_of_msb_false m, BitVec.sshiftRight_eq_of_msb_false m]
  simp only [BitVec.toNat_setWidth, BitVec.toNat_or, BitVec.toNat_and, BitVec.toNat_shiftLeft, BitVec.toNat_ushiftRight, BitVec.toNat_ofNat]
  have e1 : ∀ n : Nat, n &&& 255 % 2 ^ 32 = n % 256 := by
    intro n
    have : (255 % 2 ^ 32 : Nat) = 2 ^ 8 - 1 := by decide
    rw [this, Nat.and_two_pow_sub_one_eq_mod]
  simp only [e1, Nat.shiftLeft_zero, Nat.shiftRight_zero, Nat.shiftRight_eq_div_pow, Nat.shiftLeft_eq]
  generalize x.toNat = n at h
  have a1 : n / 2 ^ 0 % 256 * 2 ^ 0 % 2 ^ 32 = n % 256 := by omega
  have a2 : n / 2 ^ 8 % 256 * 2 ^ 8 % 2 ^ 32 = 2 ^ 8 * (n / 256) := by omega
  rw [a1, a2, Nat.or_comm, ← Nat.two_pow_add_eq_or_of_lt (by omega)]
  omega
theorem own_u16 (c : Int32) (h0 : ¬ c < 0) (h1 : ¬ (65535 : Int32) < c) : nar .char ((((((nar .byte (((c >>> ((0 : Int32) &&& 31)).toInt8.toInt32))) &&& (255 : Int32)) <<< ((0 : Int32) &&& 31)) ||| (((nar .byte (((c >>> ((8 : Int32) &&& 31)).toInt8.toInt32))) &&& (255 : Int32)) <<< ((8 : Int32) &&& 31))).toUInt32.toUInt16.toUInt32.toInt32)) = c := by
  have e0 : ((0 : Int32) &&& 31) = 0 := by decide
  have e8 : ((8 : Int32) &&& 31) = 8 := by decide
  have s0 : BitVec.smod (0 : Int32).toBitVec 32 = 0#32 := by decide
  have s8 : BitVec.smod (8 : Int32).toBitVec 32 = 8#32 := by decide
  have hn : c.toBitVec.toNat < 65536 := by
    rw [Int32.lt_iff_toInt_lt] at h0 h1
    have q0 : (0 : Int32).toInt = 0 := rfl
    have q1 : (65535 : Int32).toInt = 65535 := rfl
    have q2 : c.toInt = c.toBitVec.toInt := rfl
    have q3 := BitVec.toInt_eq_toNat_cond c.toBitVec
    have q4 := c.toBitVec.isLt
    split at q3 <;> omega
  apply Int32.toBitVec_inj.mp
  have k : (255 : Int32).toBitVec = 255#32 := rfl
  have r0 : (0#32).toNat = 0 := rfl
  have r8 : (8#32).toNat = 8 := rfl
  simp only [nar, e0, e8, UInt32.toBitVec_toInt32, Int32.toBitVec_toUInt32, UInt32.toBitVec_toUInt16, UInt16.toBitVec_toUInt32, Int32.toBitVec_or, Int32.toBitVec_and, Int32.toBitVec_shiftLeft, Int32.toBitVec_shiftRight, Int32.toBitVec_toInt8, Int8.toBitVec_toInt32, k]
  rw [s0, s8]
  simp only [BitVec.sshiftRight', BitVec.shiftLeft_eq', r0, r8]
  rw [own_byteAnd, own_byteAnd]
  have := own_u16bv c.toBitVec hn
  rw [this]
  apply BitVec.eq_of_toNat_eq
  simp only [BitVec.toNat_setWidth]
  omega
theorem own_small {c : Int32} (hn : c.toBitVec.toNat < 65536) : ¬ c < 0 ∧ ¬ (65535 : Int32) < c := by
  rw [Int32.lt_iff_toInt_lt, Int32.lt_iff_toInt_lt]
  have q0 : (0 : Int32).toInt = 0 := rfl
  have q1 : (65535 : Int32).toInt = 65535 := rfl
  have q2 : c.toInt = c.toBitVec.toInt := rfl
  have q3 := BitVec.toInt_eq_toNat_cond c.toBitVec
  split at q3 <;> omega
theorem own_i2c (z : Int32) : ¬ z.toUInt32.toUInt16.toUInt32.toInt32 < 0 ∧ ¬ (65535 : Int32) < z.toUInt32.toUInt16.toUInt32.toInt32 ∧ nar .char z.toUInt32.toUInt16.toUInt32.toInt32 = z.toUInt32.toUInt16.toUInt32.toInt32 := by
  have h : (z.toUInt32.toUInt16.toUInt32.toInt32).toBitVec.toNat < 65536 := by
    simp only [UInt32.toBitVec_toInt32, Int32.toBitVec_toUInt32, UInt32.toBitVec_toUInt16, UInt16.toBitVec_toUInt32, BitVec.toNat_setWidth]
    omega
  refine ⟨(own_small h).1, (own_small h).2, ?_⟩
  simp only [nar, UInt32.toUInt32_toInt32, UInt16.toUInt16_toUInt32]
theorem own_nch {z : Int32} (h0 : ¬ z < 0) (h1 : ¬ (65535 : Int32) < z) : nar .char z = z := by
  apply Int32.toBitVec_inj.mp
  have hn : z.toBitVec.toNat < 65536 := by
    rw [Int32.lt_iff_toInt_lt] at h0 h1
    have q0 : (0 : Int32).toInt = 0 := rfl
    have q1 : (65535 : Int32).toInt = 65535 := rfl
    have q2 : z.toInt = z.toBitVec.toInt := rfl
    have q3 := BitVec.toInt_eq_toNat_cond z.toBitVec
    have q4 := z.toBitVec.isLt
    split at q3 <;> omega
  simp only [nar, UInt32.toBitVec_toInt32, Int32.toBitVec_toUInt32, UInt32.toBitVec_toUInt16, UInt16.toBitVec_toUInt32]
  apply BitVec.eq_of_toNat_eq
  simp only [BitVec.toNat_setWidth]
  omega

theorem ef_rmB_10 (m : MethodId)  : entryFrame m #[(.int (10 : Int32))] 1 = mkF m 0 #[.val (.int (10 : Int32))] [] := by first | (simp [entryFrame, mkF, argsToLocals, Value.category]; done) | rfl
def QB_10 (Z : State)  (h0 : Heap) (n0 : Nat) (v : Option Value) (h : Heap) (L : List Loc) : Prop := v = some (.int (1 : Int32)) ∧ Fr n0 L ∧ h = h0
set_option maxRecDepth 65536 in
set_option maxHeartbeats 40000000 in
theorem rmB_10 (l : Launch) (Z : State) (a0 : Array Value) (hw : ∀ d ∈ tables_1, d.before a0 Z = true) (ws : List Jvm.Cond)  (h0 : Heap) (n0 : Nat) (Z0 : n0 ≤ h0.size) :
    MetFree l (⟨"com/example/dogwood/dogwood/model/yaml/Lines", "isBreak", "(C)Z"⟩ : MethodName) (head1 (Jvm.Cond.code (⟨"com/example/dogwood/dogwood/model/yaml/Lines", "isBreak", "(C)Z"⟩ : MethodName) prog_16_method_4_code 1 (some .boolean) :: ws) ({ frames := 0, cells := 0, slots := 0, locals := 0 } : Room)) (fun a U => a = #[(.int (10 : Int32))] ∧ Z.Warmed39 U.vm ∧ U.heap = h0) (fun _ _ _ _ _ => True) (fun _ U o U' => ∃ v L, o = .returned v ∧ QB_10 Z  h0 n0 v U'.heap L ∧ FrameEnd U o U' L ({ frames := 0, cells := 0, slots := 0, locals := 0 } : Room).cells ({ frames := 0, cells := 0, slots := 0, locals := 0 } : Room).slots) := by
  refine MetFree.of_bodySF (plainFor_of_name pn_com_example_dogwood_dogwood_model_yaml_Lines) hisR ?_
  intro p e s m args below meth c s₁ Bd hml0 hP hK
  obtain ⟨rfl, hZ, hh⟩ := hP
  have hx := Bd.exec
  have hby := Bd.bytes
  have hlk : meth.locks = false := Bd.notSynchronized
  have hml : c.maxLocals = 1 := hml0
  have hown : s.vm.findClass "com/example/dogwood/dogwood/model/yaml/Lines" = some m.cls := findClass_of_methodNamed Bd.named
  have hnm := (name_of_methodNamed Bd.named Bd.method).1
  have X0 : Stand p l e ({ frames := 0, cells := 0, slots := 0, locals := 0 } : Room) s m #[(.int (10 : Int32))] below meth c s₁ [] 0 0 := Stand.of_body Bd
  have e0 : s₁.heap = h0 := by rw [← hh, Bd.state]; rfl
  have N0 := Fr.nil n0
  show Go p e below (FinE s below (QB_10 Z  h0 n0) ({ frames := 0, cells := 0, slots := 0, locals := 0 } : Room).cells ({ frames := 0, cells := 0, slots := 0, locals := 0 } : Room).slots) (s₁.setTop (entryFrame m #[(.int (10 : Int32))] 1))
  refine Go.via (fun t k => castTop (ef_rmB_10 m ) k) ?_
  show Go p e below _ (s₁.setTop (mkF m 0 #[.val (.int (10 : Int32))] []))
  refine Go.via (fun _ => XS.iloadN X0.here hx rfl (hb hby d1_0) rfl) ?_
  show Go p e below _ (s₁.setTop (mkF m 1 #[.val (.int (10 : Int32))] [(.int (10 : Int32))]))
  refine Go.via (fun _ => XS.bipush X0.here hx rfl (hb hby d1_1)) ?_
  show Go p e below _ (s₁.setTop (mkF m 3 #[.val (.int (10 : Int32))] [(.int (10 : Int32)), (.int (10 : Int32))]))
  refine Go.via (fun _ => XS.icmpYes X0.here hx rfl (pc0 := 3) (pc' := 12) rfl (hb hby d1_3) rfl (by decide) (by decide) (by decide)) ?_
  show Go p e below _ (s₁.setTop (mkF m 12 #[.val (.int (10 : Int32))] []))
  refine Go.via (fun _ => XS.iconst X0.here hx rfl (hb hby d1_12)) ?_
  show Go p e below _ (s₁.setTop (mkF m 13 #[.val (.int (10 : Int32))] [(.int (1 : Int32))]))
  refine Go.via (fun _ => XS.goto X0.here hx rfl (pc0 := 13) (pc' := 17) rfl (hb hby d1_13) (by decide) (by decide)) ?_
  show Go p e below _ (s₁.setTop (mkF m 17 #[.val (.int (10 : Int32))] [(.int (1 : Int32))]))
  exact own_retN X0 hx hlk (t := .boolean) Bd.returns (by simp) (hb hby d1_17) (by show QB_10 Z  h0 n0 _ s₁.heap _; rw [e0]; exact ⟨rfl, N0, rfl⟩) (by decide) (by decide)
theorem ef_rmB_13 (m : MethodId)  : entryFrame m #[(.int (13 : Int32))] 1 = mkF m 0 #[.val (.int (13 : Int32))] [] := by first | (simp [entryFrame, mkF, argsToLocals, Value.category]; done) | rfl
def QB_13 (Z : State)  (h0 : Heap) (n0 : Nat) (v : Option Value) (h : Heap) (L : List Loc) : Prop := v = some (.int (1 : Int32)) ∧ Fr n0 L ∧ h = h0
set_option maxRecDepth 65536 in
set_option maxHeartbeats 40000000 in
theorem rmB_13 (l : Launch) (Z : State) (a0 : Array Value) (hw : ∀ d ∈ tables_1, d.before a0 Z = true) (ws : List Jvm.Cond)  (h0 : Heap) (n0 : Nat) (Z0 : n0 ≤ h0.size) :
    MetFree l (⟨"com/example/dogwood/dogwood/model/yaml/Lines", "isBreak", "(C)Z"⟩ : MethodName) (head1 (Jvm.Cond.code (⟨"com/example/dogwood/dogwood/model/yaml/Lines", "isBreak", "(C)Z"⟩ : MethodName) prog_16_method_4_code 1 (some .boolean) :: ws) ({ frames := 0, cells := 0, slots := 0, locals := 0 } : Room)) (fun a U => a = #[(.int (13 : Int32))] ∧ Z.Warmed39 U.vm ∧ U.heap = h0) (fun _ _ _ _ _ => True) (fun _ U o U' => ∃ v L, o = .returned v ∧ QB_13 Z  h0 n0 v U'.heap L ∧ FrameEnd U o U' L ({ frames := 0, cells := 0, slots := 0, locals := 0 } : Room).cells ({ frames := 0, cells := 0, slots := 0, locals := 0 } : Room).slots) := by
  refine MetFree.of_bodySF (plainFor_of_name pn_com_example_dogwood_dogwood_model_yaml_Lines) hisR ?_
  intro p e s m args below meth c s₁ Bd hml0 hP hK
  obtain ⟨rfl, hZ, hh⟩ := hP
  have hx := Bd.exec
  have hby := Bd.bytes
  have hlk : meth.locks = false := Bd.notSynchronized
  have hml : c.maxLocals = 1 := hml0
  have hown : s.vm.findClass "com/example/dogwood/dogwood/model/yaml/Lines" = some m.cls := findClass_of_methodNamed Bd.named
  have hnm := (name_of_methodNamed Bd.named Bd.method).1
  have X0 : Stand p l e ({ frames := 0, cells := 0, slots := 0, locals := 0 } : Room) s m #[(.int (13 : Int32))] below meth c s₁ [] 0 0 := Stand.of_body Bd
  have e0 : s₁.heap = h0 := by rw [← hh, Bd.state]; rfl
  have N0 := Fr.nil n0
  show Go p e below (FinE s below (QB_13 Z  h0 n0) ({ frames := 0, cells := 0, slots := 0, locals := 0 } : Room).cells ({ frames := 0, cells := 0, slots := 0, locals := 0 } : Room).slots) (s₁.setTop (entryFrame m #[(.int (13 : Int32))] 1))
  refine Go.via (fun t k => castTop (ef_rmB_13 m ) k) ?_
  show Go p e below _ (s₁.setTop (mkF m 0 #[.val (.int (13 : Int32))] []))
  refine Go.via (fun _ => XS.iloadN X0.here hx rfl (hb hby d1_0) rfl) ?_
  show Go p e below _ (s₁.setTop (mkF m 1 #[.val (.int (13 : Int32))] [(.int (13 : Int32))]))
  refine Go.via (fun _ => XS.bipush X0.here hx rfl (hb hby d1_1)) ?_
  show Go p e below _ (s₁.setTop (mkF m 3 #[.val (.int (13 : Int32))] [(.int (10 : Int32)), (.int (13 : Int32))]))
  refine Go.via (fun _ => XS.icmpNo X0.here hx rfl (hb hby d1_3) rfl (by decide)) ?_
  show Go p e below _ (s₁.setTop (mkF m 6 #[.val (.int (13 : Int32))] []))
  refine Go.via (fun _ => XS.iloadN X0.here hx rfl (hb hby d1_6) rfl) ?_
  show Go p e below _ (s₁.setTop (mkF m 7 #[.val (.int (13 : Int32))] [(.int (13 : Int32))]))
  refine Go.via (fun _ => XS.bipush X0.here hx rfl (hb hby d1_7)) ?_
  show Go p e below _ (s₁.setTop (mkF m 9 #[.val (.int (13 : Int32))] [(.int (13 : Int32)), (.int (13 : Int32))]))
  refine Go.via (fun _ => XS.icmpNo X0.here hx rfl (hb hby d1_9) rfl (by decide)) ?_
  show Go p e below _ (s₁.setTop (mkF m 12 #[.val (.int (13 : Int32))] []))
  refine Go.via (fun _ => XS.iconst X0.here hx rfl (hb hby d1_12)) ?_
  show Go p e below _ (s₁.setTop (mkF m 13 #[.val (.int (13 : Int32))] [(.int (1 : Int32))]))
  refine Go.via (fun _ => XS.goto X0.here hx rfl (pc0 := 13) (pc' := 17) rfl (hb hby d1_13) (by decide) (by decide)) ?_
  show Go p e below _ (s₁.setTop (mkF m 17 #[.val (.int (13 : Int32))] [(.int (1 : Int32))]))
  exact own_retN X0 hx hlk (t := .boolean) Bd.returns (by simp) (hb hby d1_17) (by show QB_13 Z  h0 n0 _ s₁.heap _; rw [e0]; exact ⟨rfl, N0, rfl⟩) (by decide) (by decide)
theorem ef_rmB_o (m : MethodId) (x0 : Int32) : entryFrame m #[(.int x0)] 1 = mkF m 0 #[.val (.int x0)] [] := by first | (simp [entryFrame, mkF, argsToLocals, Value.category]; done) | rfl
def QB_o (Z : State) (ch : Int32) (h0 : Heap) (n0 : Nat) (v : Option Value) (h : Heap) (L : List Loc) : Prop := v = some (.int (0 : Int32)) ∧ Fr n0 L ∧ h = h0
set_option maxRecDepth 65536 in
set_option maxHeartbeats 40000000 in
theorem rmB_o (l : Launch) (Z : State) (a0 : Array Value) (hw : ∀ d ∈ tables_1, d.before a0 Z = true) (ws : List Jvm.Cond) (ch : Int32) (h0 : Heap) (n0 : Nat) (Z0 : n0 ≤ h0.size) (h10 : ¬ (ch = (10 : Int32))) (h13 : ¬ (ch = (13 : Int32))) :
    MetFree l (⟨"com/example/dogwood/dogwood/model/yaml/Lines", "isBreak", "(C)Z"⟩ : MethodName) (head1 (Jvm.Cond.code (⟨"com/example/dogwood/dogwood/model/yaml/Lines", "isBreak", "(C)Z"⟩ : MethodName) prog_16_method_4_code 1 (some .boolean) :: ws) ({ frames := 0, cells := 0, slots := 0, locals := 0 } : Room)) (fun a U => a = #[(.int ch)] ∧ Z.Warmed39 U.vm ∧ U.heap = h0) (fun _ _ _ _ _ => True) (fun _ U o U' => ∃ v L, o = .returned v ∧ QB_o Z ch h0 n0 v U'.heap L ∧ FrameEnd U o U' L ({ frames := 0, cells := 0, slots := 0, locals := 0 } : Room).cells ({ frames := 0, cells := 0, slots := 0, locals := 0 } : Room).slots) := by
  refine MetFree.of_bodySF (plainFor_of_name pn_com_example_dogwood_dogwood_model_yaml_Lines) hisR ?_
  intro p e s m args below meth c s₁ Bd hml0 hP hK
  obtain ⟨rfl, hZ, hh⟩ := hP
  have hx := Bd.exec
  have hby := Bd.bytes
  have hlk : meth.locks = false := Bd.notSynchronized
  have hml : c.maxLocals = 1 := hml0
  have hown : s.vm.findClass "com/example/dogwood/dogwood/model/yaml/Lines" = some m.cls := findClass_of_methodNamed Bd.named
  have hnm := (name_of_methodNamed Bd.named Bd.method).1
  have X0 : Stand p l e ({ frames := 0, cells := 0, slots := 0, locals := 0 } : Room) s m #[(.int ch)] below meth c s₁ [] 0 0 := Stand.of_body Bd
  have e0 : s₁.heap = h0 := by rw [← hh, Bd.state]; rfl
  have N0 := Fr.nil n0
  show Go p e below (FinE s below (QB_o Z ch h0 n0) ({ frames := 0, cells := 0, slots := 0, locals := 0 } : Room).cells ({ frames := 0, cells := 0, slots := 0, locals := 0 } : Room).slots) (s₁.setTop (entryFrame m #[(.int ch)] 1))
  refine Go.via (fun t k => castTop (ef_rmB_o m ch) k) ?_
  show Go p e below _ (s₁.setTop (mkF m 0 #[.val (.int ch)] []))
  refine Go.via (fun _ => XS.iloadN X0.here hx rfl (hb hby d1_0) rfl) ?_
  show Go p e below _ (s₁.setTop (mkF m 1 #[.val (.int ch)] [(.int ch)]))
  refine Go.via (fun _ => XS.bipush X0.here hx rfl (hb hby d1_1)) ?_
  show Go p e below _ (s₁.setTop (mkF m 3 #[.val (.int ch)] [(.int (10 : Int32)), (.int ch)]))
  refine Go.via (fun _ => XS.icmpNo X0.here hx rfl (hb hby d1_3) rfl (feq h10).1) ?_
  show Go p e below _ (s₁.setTop (mkF m 6 #[.val (.int ch)] []))
  refine Go.via (fun _ => XS.iloadN X0.here hx rfl (hb hby d1_6) rfl) ?_
  show Go p e below _ (s₁.setTop (mkF m 7 #[.val (.int ch)] [(.int ch)]))
  refine Go.via (fun _ => XS.bipush X0.here hx rfl (hb hby d1_7)) ?_
  show Go p e below _ (s₁.setTop (mkF m 9 #[.val (.int ch)] [(.int (13 : Int32)), (.int ch)]))
  refine Go.via (fun _ => XS.icmpYes X0.here hx rfl (pc0 := 9) (pc' := 16) rfl (hb hby d1_9) rfl (feq h13).2 (by decide) (by decide)) ?_
  show Go p e below _ (s₁.setTop (mkF m 16 #[.val (.int ch)] []))
  refine Go.via (fun _ => XS.iconst X0.here hx rfl (hb hby d1_16)) ?_
  show Go p e below _ (s₁.setTop (mkF m 17 #[.val (.int ch)] [(.int (0 : Int32))]))
  exact own_retN X0 hx hlk (t := .boolean) Bd.returns (by simp) (hb hby d1_17) (by show QB_o Z ch h0 n0 _ s₁.heap _; rw [e0]; exact ⟨rfl, N0, rfl⟩) (by decide) (by decide)
theorem ef_rmCanC_1 (m : MethodId) (x0 : Int32) : entryFrame m #[(.int x0)] 1 = mkF m 0 #[.val (.int x0)] [] := by first | (simp [entryFrame, mkF, argsToLocals, Value.category]; done) | rfl
def QCanC_1 (Z : State) (ch : Int32) (h0 : Heap) (n0 : Nat) (v : Option Value) (h : Heap) (L : List Loc) : Prop := v = some (.int (1 : Int32)) ∧ Fr n0 L ∧ h = h0
set_option maxRecDepth 65536 in
set_option maxHeartbeats 40000000 in
theorem rmCanC_1 (l : Launch) (Z : State) (a0 : Array Value) (hw : ∀ d ∈ tables_1, d.before a0 Z = true) (ws : List Jvm.Cond) (ch : Int32) (h0 : Heap) (n0 : Nat) (Z0 : n0 ≤ h0.size) (hl : ¬ ((255 : Int32) < ch)) :
    MetFree l (⟨"java/lang/StringLatin1", "canEncode", "(C)Z"⟩ : MethodName) (head1 (Jvm.Cond.code (⟨"java/lang/StringLatin1", "canEncode", "(C)Z"⟩ : MethodName) jdk_43_method_3_code 1 (some .boolean) :: ws) ({ frames := 0, cells := 0, slots := 0, locals := 0 } : Room)) (fun a U => a = #[(.int ch)] ∧ Z.Warmed39 U.vm ∧ U.heap = h0) (fun _ _ _ _ _ => True) (fun _ U o U' => ∃ v L, o = .returned v ∧ QCanC_1 Z ch h0 n0 v U'.heap L ∧ FrameEnd U o U' L ({ frames := 0, cells := 0, slots := 0, locals := 0 } : Room).cells ({ frames := 0, cells := 0, slots := 0, locals := 0 } : Room).slots) := by
  refine MetFree.of_bodySF (plainFor_of_name pn_java_lang_StringLatin1) hisR ?_
  intro p e s m args below meth c s₁ Bd hml0 hP hK
  obtain ⟨rfl, hZ, hh⟩ := hP
  have hx := Bd.exec
  have hby := Bd.bytes
  have hlk : meth.locks = false := Bd.notSynchronized
  have hml : c.maxLocals = 1 := hml0
  have hown : s.vm.findClass "java/lang/StringLatin1" = some m.cls := findClass_of_methodNamed Bd.named
  have hnm := (name_of_methodNamed Bd.named Bd.method).1
  have X0 : Stand p l e ({ frames := 0, cells := 0, slots := 0, locals := 0 } : Room) s m #[(.int ch)] below meth c s₁ [] 0 0 := Stand.of_body Bd
  have e0 : s₁.heap = h0 := by rw [← hh, Bd.state]; rfl
  have N0 := Fr.nil n0
  show Go p e below (FinE s below (QCanC_1 Z ch h0 n0) ({ frames := 0, cells := 0, slots := 0, locals := 0 } : Room).cells ({ frames := 0, cells := 0, slots := 0, locals := 0 } : Room).slots) (s₁.setTop (entryFrame m #[(.int ch)] 1))
  refine Go.via (fun t k => castTop (ef_rmCanC_1 m ch) k) ?_
  show Go p e below _ (s₁.setTop (mkF m 0 #[.val (.int ch)] []))
  refine Go.via (fun _ => XS.iloadN X0.here hx rfl (hb hby d3_0) rfl) ?_
  show Go p e below _ (s₁.setTop (mkF m 1 #[.val (.int ch)] [(.int ch)]))
  refine Go.via (fun _ => XS.sipush X0.here hx rfl (hb hby d3_1)) ?_
  show Go p e below _ (s₁.setTop (mkF m 4 #[.val (.int ch)] [(.int (255 : Int32)), (.int ch)]))
  refine Go.via (fun _ => XS.icmpNo X0.here hx rfl (hb hby d3_4) rfl (flt hl).2.2.1) ?_
  show Go p e below _ (s₁.setTop (mkF m 7 #[.val (.int ch)] []))
  refine Go.via (fun _ => XS.iconst X0.here hx rfl (hb hby d3_7)) ?_
  show Go p e below _ (s₁.setTop (mkF m 8 #[.val (.int ch)] [(.int (1 : Int32))]))
  refine Go.via (fun _ => XS.goto X0.here hx rfl (pc0 := 8) (pc' := 12) rfl (hb hby d3_8) (by decide) (by decide)) ?_
  show Go p e below _ (s₁.setTop (mkF m 12 #[.val (.int ch)] [(.int (1 : Int32))]))
  exact own_retN X0 hx hlk (t := .boolean) Bd.returns (by simp) (hb hby d3_12) (by show QCanC_1 Z ch h0 n0 _ s₁.heap _; rw [e0]; exact ⟨rfl, N0, rfl⟩) (by decide) (by decide)
theorem ef_rmCanC_0 (m : MethodId) (x0 : Int32) : entryFrame m #[(.int x0)] 1 = mkF m 0 #[.val (.int x0)] [] := by first | (simp [entryFrame, mkF, argsToLocals, Value.category]; done) | rfl
def QCanC_0 (Z : State) (ch : Int32) (h0 : Heap) (n0 : Nat) (v : Option Value) (h : Heap) (L : List Loc) : Prop := v = some (.int (0 : Int32)) ∧ Fr n0 L ∧ h = h0
set_option maxRecDepth 65536 in
set_option maxHeartbeats 40000000 in
theorem rmCanC_0 (l : Launch) (Z : State) (a0 : Array Value) (hw : ∀ d ∈ tables_1, d.before a0 Z = true) (ws : List Jvm.Cond) (ch : Int32) (h0 : Heap) (n0 : Nat) (Z0 : n0 ≤ h0.size) (hl : (255 : Int32) < ch) :
    MetFree l (⟨"java/lang/StringLatin1", "canEncode", "(C)Z"⟩ : MethodName) (head1 (Jvm.Cond.code (⟨"java/lang/StringLatin1", "canEncode", "(C)Z"⟩ : MethodName) jdk_43_method_3_code 1 (some .boolean) :: ws) ({ frames := 0, cells := 0, slots := 0, locals := 0 } : Room)) (fun a U => a = #[(.int ch)] ∧ Z.Warmed39 U.vm ∧ U.heap = h0) (fun _ _ _ _ _ => True) (fun _ U o U' => ∃ v L, o = .returned v ∧ QCanC_0 Z ch h0 n0 v U'.heap L ∧ FrameEnd U o U' L ({ frames := 0, cells := 0, slots := 0, locals := 0 } : Room).cells ({ frames := 0, cells := 0, slots := 0, locals := 0 } : Room).slots) := by
  refine MetFree.of_bodySF (plainFor_of_name pn_java_lang_StringLatin1) hisR ?_
  intro p e s m args below meth c s₁ Bd hml0 hP hK
  obtain ⟨rfl, hZ, hh⟩ := hP
  have hx := Bd.exec
  have hby := Bd.bytes
  have hlk : meth.locks = false := Bd.notSynchronized
  have hml : c.maxLocals = 1 := hml0
  have hown : s.vm.findClass "java/lang/StringLatin1" = some m.cls := findClass_of_methodNamed Bd.named
  have hnm := (name_of_methodNamed Bd.named Bd.method).1
  have X0 : Stand p l e ({ frames := 0, cells := 0, slots := 0, locals := 0 } : Room) s m #[(.int ch)] below meth c s₁ [] 0 0 := Stand.of_body Bd
  have e0 : s₁.heap = h0 := by rw [← hh, Bd.state]; rfl
  have N0 := Fr.nil n0
  show Go p e below (FinE s below (QCanC_0 Z ch h0 n0) ({ frames := 0, cells := 0, slots := 0, locals := 0 } : Room).cells ({ frames := 0, cells := 0, slots := 0, locals := 0 } : Room).slots) (s₁.setTop (entryFrame m #[(.int ch)] 1))
  refine Go.via (fun t k => castTop (ef_rmCanC_0 m ch) k) ?_
  show Go p e below _ (s₁.setTop (mkF m 0 #[.val (.int ch)] []))
  refine Go.via (fun _ => XS.iloadN X0.here hx rfl (hb hby d3_0) rfl) ?_
  show Go p e below _ (s₁.setTop (mkF m 1 #[.val (.int ch)] [(.int ch)]))
  refine Go.via (fun _ => XS.sipush X0.here hx rfl (hb hby d3_1)) ?_
  show Go p e below _ (s₁.setTop (mkF m 4 #[.val (.int ch)] [(.int (255 : Int32)), (.int ch)]))
  refine Go.via (fun _ => XS.icmpYes X0.here hx rfl (pc0 := 4) (pc' := 11) rfl (hb hby d3_4) rfl (tlt hl).2.2.1 (by decide) (by decide)) ?_
  show Go p e below _ (s₁.setTop (mkF m 11 #[.val (.int ch)] []))
  refine Go.via (fun _ => XS.iconst X0.here hx rfl (hb hby d3_11)) ?_
  show Go p e below _ (s₁.setTop (mkF m 12 #[.val (.int ch)] [(.int (0 : Int32))]))
  exact own_retN X0 hx hlk (t := .boolean) Bd.returns (by simp) (hb hby d3_12) (by show QCanC_0 Z ch h0 n0 _ s₁.heap _; rw [e0]; exact ⟨rfl, N0, rfl⟩) (by decide) (by decide)
theorem ef_rmTB_1 (m : MethodId) (x0 : Int32) : entryFrame m #[(.int x0)] 1 = mkF m 0 #[.val (.int x0)] [] := by first | (simp [entryFrame, mkF, argsToLocals, Value.category]; done) | rfl
def QTB_1 (Z : State) (ch : Int32) (h0 : Heap) (n0 : Nat) (v : Option Value) (h : Heap) (L : List Loc) : Prop := ∃ (t : Addr) (kb : ClassId), v = some (.ref t) ∧ Fr n0 L ∧ Keep h0 h [] ∧ h0.size ≤ t ∧ Arv Z h t kb .byte (1 : Int32) [(.int (nar .byte (ch.toInt8.toInt32)))] (.int (0 : Int32))
set_option maxRecDepth 65536 in
set_option maxHeartbeats 40000000 in
theorem rmTB_1 (l : Launch) (Z : State) (a0 : Array Value) (hw : ∀ d ∈ tables_1, d.before a0 Z = true) (ws : List Jvm.Cond) (ch : Int32) (h0 : Heap) (n0 : Nat) (Z0 : n0 ≤ h0.size) :
    MetFree l (⟨"java/lang/StringLatin1", "toBytes", "(C)[B"⟩ : MethodName) (head1 (Jvm.Cond.code (⟨"java/lang/StringLatin1", "toBytes", "(C)[B"⟩ : MethodName) jdk_43_method_46_code 1 (some (.array .byte)) :: ws) ({ frames := 0, cells := 1, slots := 1, locals := 0 } : Room)) (fun a U => a = #[(.int ch)] ∧ Z.Warmed39 U.vm ∧ U.heap = h0) (fun _ _ _ _ _ => True) (fun _ U o U' => ∃ v L, o = .returned v ∧ QTB_1 Z ch h0 n0 v U'.heap L ∧ FrameEnd U o U' L ({ frames := 0, cells := 1, slots := 1, locals := 0 } : Room).cells ({ frames := 0, cells := 1, slots := 1, locals := 0 } : Room).slots) := by
  refine MetFree.of_bodySF (plainFor_of_name pn_java_lang_StringLatin1) hisR ?_
  intro p e s m args below meth c s₁ Bd hml0 hP hK
  obtain ⟨rfl, hZ, hh⟩ := hP
  have hx := Bd.exec
  have hby := Bd.bytes
  have hlk : meth.locks = false := Bd.notSynchronized
  have hml : c.maxLocals = 1 := hml0
  have hown : s.vm.findClass "java/lang/StringLatin1" = some m.cls := findClass_of_methodNamed Bd.named
  have hnm := (name_of_methodNamed Bd.named Bd.method).1
  have X0 : Stand p l e ({ frames := 0, cells := 1, slots := 1, locals := 0 } : Room) s m #[(.int ch)] below meth c s₁ [] 0 0 := Stand.of_body Bd
  have e0 : s₁.heap = h0 := by rw [← hh, Bd.state]; rfl
  have N0 := Fr.nil n0
  show Go p e below (FinE s below (QTB_1 Z ch h0 n0) ({ frames := 0, cells := 1, slots := 1, locals := 0 } : Room).cells ({ frames := 0, cells := 1, slots := 1, locals := 0 } : Room).slots) (s₁.setTop (entryFrame m #[(.int ch)] 1))
  refine Go.via (fun t k => castTop (ef_rmTB_1 m ch) k) ?_
  show Go p e below _ (s₁.setTop (mkF m 0 #[.val (.int ch)] []))
  refine Go.via (fun _ => XS.iconst X0.here hx rfl (hb hby d4_0)) ?_
  show Go p e below _ (s₁.setTop (mkF m 1 #[.val (.int ch)] [(.int (1 : Int32))]))
  obtain ⟨T1, h1, k1, X1, e1, E1, A1, st1⟩ := newP X0 hx hZ (hw _ (List.mem_of_getElem? (i := 19) rfl)) e0 (g := (mkF m 1 #[.val (.int ch)] [(.int (1 : Int32))])) rfl (hb hby d4_1) rfl (by decide) (cap := 1) (by decide) (by decide) (by decide) (by decide)
  obtain ⟨b1, g1⟩ : ∃ z, z = h0.size := ⟨_, rfl⟩
  rw [← g1] at A1 st1
  have g_b1 : n0 ≤ b1 := Nat.le_trans Z0 (Nat.le_of_eq g1.symm)
  have sz_b1 : h0.size ≤ b1 := Nat.le_trans (Keep.refl h0 []).1 (Nat.le_of_eq g1.symm)
  refine Go.via st1 ?_
  have Zs1 : n0 ≤ h1.size := Nat.le_trans Z0 E1.1
  have K1 : Keep h0 h1 [] := (Keep.refl h0 []).ext E1
  have V_b1 : Arv Z h1 b1 k1 .byte (1 : Int32) [(.int (0 : Int32))] (.int (0 : Int32)) := (Arv.new A1 (by decide)).pad (pad_rep [] (.int (0 : Int32)) 1)
  show Go p e below _ (T1.setTop (mkF m 3 #[.val (.int ch)] [(.ref b1)]))
  refine Go.via (fun _ => XS.dup X1.here hx rfl (hb hby d4_3) rfl rfl) ?_
  show Go p e below _ (T1.setTop (mkF m 4 #[.val (.int ch)] [(.ref b1), (.ref b1)]))
  refine Go.via (fun _ => XS.iconst X1.here hx rfl (hb hby d4_4)) ?_
  show Go p e below _ (T1.setTop (mkF m 5 #[.val (.int ch)] [(.int (0 : Int32)), (.ref b1), (.ref b1)]))
  refine Go.via (fun _ => XS.iloadN X1.here hx rfl (hb hby d4_5) rfl) ?_
  show Go p e below _ (T1.setTop (mkF m 6 #[.val (.int ch)] [(.int ch), (.int (0 : Int32)), (.ref b1), (.ref b1)]))
  refine Go.via (fun _ => XS.i2b X1.here hx rfl (hb hby d4_6) rfl) ?_
  show Go p e below _ (T1.setTop (mkF m 7 #[.val (.int ch)] [(.int (ch.toInt8.toInt32)), (.int (0 : Int32)), (.ref b1), (.ref b1)]))
  obtain ⟨cl2, Ar2, q2, S2, N2n, H2, G2⟩ := id V_b1
  have hin2 := inb_of (j := (0 : Int32)) S2 (by decide)
  obtain ⟨T2, h2, X2, e2, W2, st2⟩ := stB X1 hx hZ e1 Ar2 (j := (0 : Int32)) hin2 (g := (mkF m 7 #[.val (.int ch)] [(.int (ch.toInt8.toInt32)), (.int (0 : Int32)), (.ref b1), (.ref b1)])) rfl rfl (hb hby d4_7)
  refine Go.via st2 ?_
  have V2 : Arv Z h2 b1 k1 .byte (1 : Int32) [(.int (nar .byte (ch.toInt8.toInt32)))] (.int (0 : Int32)) := Arv.set Ar2 q2 S2 N2n H2 G2 (fits_nar_byte _) W2 0 rfl (Nat.le_of_ble_eq_true rfl)
  have Zs2 : n0 ≤ h2.size := Nat.le_trans Zs1 (Keep.of_wr W2).1
  have K2 : Keep h0 h2 [] := K1.wr W2 (Or.inr sz_b1)
  have N2 := Fr.snoc X2 N0 g_b1
  show Go p e below _ (T2.setTop (mkF m 8 #[.val (.int ch)] [(.ref b1)]))
  exact own_retA X2 hx hlk Bd.returns rfl rfl (hb hby d4_8) (by show QTB_1 Z ch h0 n0 _ T2.heap _; rw [e2]; exact ⟨b1, k1, rfl, N2, K2, sz_b1, V2⟩) (by decide) (by decide)
theorem ef_rmPut_1_0 (m : MethodId) (x0 : Addr) (x2 : Int32) : entryFrame m #[(.ref x0), (.int (0 : Int32)), (.int x2)] 3 = mkF m 0 #[.val (.ref x0), .val (.int (0 : Int32)), .val (.int x2)] [] := by first | (simp [entryFrame, mkF, argsToLocals, Value.category]; done) | rfl
def QPut_1_0 (Z : State) (b1 : Addr) (kc2 : ClassId) (ch : Int32) (x0 : Value) (x1 : Value) (ccs : Int32) (vF : Value) (h0 : Heap) (n0 : Nat) (v : Option Value) (h : Heap) (L : List Loc) : Prop := v = none ∧ Fr n0 L ∧ Keep h0 h [b1] ∧ Arv Z h b1 kc2 .byte (2 : Int32) [(.int (nar .byte ((ch >>> ((0 : Int32) &&& 31)).toInt8.toInt32))), (.int (nar .byte ((ch >>> ((8 : Int32) &&& 31)).toInt8.toInt32)))] (.int (0 : Int32))
set_option maxRecDepth 65536 in
set_option maxHeartbeats 40000000 in
theorem rmPut_1_0 (l : Launch) (Z : State) (a0 : Array Value) (hw : ∀ d ∈ tables_1, d.before a0 Z = true) (ws : List Jvm.Cond) (b1 : Addr) (kc2 : ClassId) (ch : Int32) (x0 : Value) (x1 : Value) (ccs : Int32) (vF : Value) (h0 : Heap) (n0 : Nat) (Z0 : n0 ≤ h0.size) (V2 : Arv Z h0 b1 kc2 .byte (2 : Int32) [x0, x1] (.int (0 : Int32))) (g1 : n0 ≤ b1) (O0 : Old Z n0 h0) (S_CS : Sta Z Z.heap "java/lang/String" "COMPACT_STRINGS" "Z" (.int ccs)) (hcs : ¬ (ccs = (0 : Int32))) (S_AD : Sta Z Z.heap "java/lang/StringUTF16" "$assertionsDisabled" "Z" (.int (1 : Int32))) (S_HI : Sta Z Z.heap "java/lang/StringUTF16" "HI_BYTE_SHIFT" "I" (.int (0 : Int32))) (S_LO : Sta Z Z.heap "java/lang/StringUTF16" "LO_BYTE_SHIFT" "I" (.int (8 : Int32))) (S_SF : Sta Z Z.heap "jdk/internal/util/Preconditions" "SIOOBE_FORMATTER" "Ljava/util/function/BiFunction;" vF) (rF : vF.isRef = true) :
    MetFree l (⟨"java/lang/StringUTF16", "putChar", "([BII)V"⟩ : MethodName) (head1 (Jvm.Cond.code (⟨"java/lang/StringUTF16", "putChar", "([BII)V"⟩ : MethodName) jdk_52_method_4_code 3 none :: ws) ({ frames := 0, cells := 0, slots := 0, locals := 0 } : Room)) (fun a U => a = #[(.ref b1), (.int (0 : Int32)), (.int ch)] ∧ Z.Warmed39 U.vm ∧ U.heap = h0) (fun _ _ _ _ _ => True) (fun _ U o U' => ∃ v L, o = .returned v ∧ QPut_1_0 Z b1 kc2 ch x0 x1 ccs vF h0 n0 v U'.heap L ∧ FrameEnd U o U' L ({ frames := 0, cells := 0, slots := 0, locals := 0 } : Room).cells ({ frames := 0, cells := 0, slots := 0, locals := 0 } : Room).slots) := by
  refine MetFree.of_bodySF (plainFor_of_name pn_java_lang_StringUTF16) hisR ?_
  intro p e s m args below meth c s₁ Bd hml0 hP hK
  obtain ⟨rfl, hZ, hh⟩ := hP
  have hx := Bd.exec
  have hby := Bd.bytes
  have hlk : meth.locks = false := Bd.notSynchronized
  have hml : c.maxLocals = 3 := hml0
  have hown : s.vm.findClass "java/lang/StringUTF16" = some m.cls := findClass_of_methodNamed Bd.named
  have hnm := (name_of_methodNamed Bd.named Bd.method).1
  have X0 : Stand p l e ({ frames := 0, cells := 0, slots := 0, locals := 0 } : Room) s m #[(.ref b1), (.int (0 : Int32)), (.int ch)] below meth c s₁ [] 0 0 := Stand.of_body Bd
  have e0 : s₁.heap = h0 := by rw [← hh, Bd.state]; rfl
  have N0 := Fr.nil n0
  show Go p e below (FinE s below (QPut_1_0 Z b1 kc2 ch x0 x1 ccs vF h0 n0) ({ frames := 0, cells := 0, slots := 0, locals := 0 } : Room).cells ({ frames := 0, cells := 0, slots := 0, locals := 0 } : Room).slots) (s₁.setTop (entryFrame m #[(.ref b1), (.int (0 : Int32)), (.int ch)] 3))
  refine Go.via (fun t k => castTop (ef_rmPut_1_0 m b1 ch) k) ?_
  show Go p e below _ (s₁.setTop (mkF m 0 #[.val (.ref b1), .val (.int (0 : Int32)), .val (.int ch)] []))
  obtain ⟨T1, X1, e1, st1⟩ := getS2 X0 hx hZ hown (host := "") (Or.inl (hw _ (List.mem_of_getElem? (i := 99) rfl))) Via.refl e0 (S_AD.ext O0.2) (g := (mkF m 0 #[.val (.ref b1), .val (.int (0 : Int32)), .val (.int ch)] [])) rfl (hb hby d20_0)
  refine Go.via st1 ?_
  show Go p e below _ (T1.setTop (mkF m 3 #[.val (.ref b1), .val (.int (0 : Int32)), .val (.int ch)] [(.int (1 : Int32))]))
  refine Go.via (fun _ => XS.ifYes X1.here hx rfl (pc0 := 3) (pc' := 28) rfl (hb hby d20_3) rfl (by decide) (by decide) (by decide)) ?_
  show Go p e below _ (T1.setTop (mkF m 28 #[.val (.ref b1), .val (.int (0 : Int32)), .val (.int ch)] []))
  refine Go.via (fun _ => XS.iloadN X1.here hx rfl (hb hby d20_28) rfl) ?_
  show Go p e below _ (T1.setTop (mkF m 29 #[.val (.ref b1), .val (.int (0 : Int32)), .val (.int ch)] [(.int (0 : Int32))]))
  refine Go.via (fun _ => XS.iconst X1.here hx rfl (hb hby d20_29)) ?_
  show Go p e below _ (T1.setTop (mkF m 30 #[.val (.ref b1), .val (.int (0 : Int32)), .val (.int ch)] [(.int (1 : Int32)), (.int (0 : Int32))]))
  refine Go.via (fun _ => XS.ishl X1.here hx rfl (hb hby d20_30) rfl) ?_
  show Go p e below _ (T1.setTop (mkF m 31 #[.val (.ref b1), .val (.int (0 : Int32)), .val (.int ch)] [(.int (0 : Int32))]))
  refine Go.via (fun _ => XS.istoreN X1.here hx rfl (hb hby d20_31) rfl (l' := #[.val (.ref b1), .val (.int (0 : Int32)), .val (.int ch)]) rfl) ?_
  show Go p e below _ (T1.setTop (mkF m 32 #[.val (.ref b1), .val (.int (0 : Int32)), .val (.int ch)] []))
  refine Go.via (fun _ => XS.aloadN X1.here hx rfl (hb hby d20_32) rfl rfl) ?_
  show Go p e below _ (T1.setTop (mkF m 33 #[.val (.ref b1), .val (.int (0 : Int32)), .val (.int ch)] [(.ref b1)]))
  refine Go.via (fun _ => XS.iloadN X1.here hx rfl (hb hby d20_33) rfl) ?_
  show Go p e below _ (T1.setTop (mkF m 34 #[.val (.ref b1), .val (.int (0 : Int32)), .val (.int ch)] [(.int (0 : Int32)), (.ref b1)]))
  refine Go.via (fun _ => XS.iinc X1.here hx rfl (hb hby d20_34) rfl (l' := #[.val (.ref b1), .val (.int (1 : Int32)), .val (.int ch)]) rfl) ?_
  show Go p e below _ (T1.setTop (mkF m 37 #[.val (.ref b1), .val (.int (1 : Int32)), .val (.int ch)] [(.int (0 : Int32)), (.ref b1)]))
  refine Go.via (fun _ => XS.iloadN X1.here hx rfl (hb hby d20_37) rfl) ?_
  show Go p e below _ (T1.setTop (mkF m 38 #[.val (.ref b1), .val (.int (1 : Int32)), .val (.int ch)] [(.int ch), (.int (0 : Int32)), (.ref b1)]))
  obtain ⟨T2, X2, e2, st2⟩ := getS2 X1 hx hZ hown (host := "") (Or.inl (hw _ (List.mem_of_getElem? (i := 100) rfl))) Via.refl e1 (S_HI.ext O0.2) (g := (mkF m 38 #[.val (.ref b1), .val (.int (1 : Int32)), .val (.int ch)] [(.int ch), (.int (0 : Int32)), (.ref b1)])) rfl (hb hby d20_38)
  refine Go.via st2 ?_
  show Go p e below _ (T2.setTop (mkF m 41 #[.val (.ref b1), .val (.int (1 : Int32)), .val (.int ch)] [(.int (0 : Int32)), (.int ch), (.int (0 : Int32)), (.ref b1)]))
  refine Go.via (fun _ => XS.ishr X2.here hx rfl (hb hby d20_41) rfl) ?_
  show Go p e below _ (T2.setTop (mkF m 42 #[.val (.ref b1), .val (.int (1 : Int32)), .val (.int ch)] [(.int (ch >>> ((0 : Int32) &&& 31))), (.int (0 : Int32)), (.ref b1)]))
  refine Go.via (fun _ => XS.i2b X2.here hx rfl (hb hby d20_42) rfl) ?_
  show Go p e below _ (T2.setTop (mkF m 43 #[.val (.ref b1), .val (.int (1 : Int32)), .val (.int ch)] [(.int ((ch >>> ((0 : Int32) &&& 31)).toInt8.toInt32)), (.int (0 : Int32)), (.ref b1)]))
  obtain ⟨cl3, Ar3, q3, S3, N3n, H3, G3⟩ := id V2
  have hin3 := inb_of (j := (0 : Int32)) S3 (by decide)
  obtain ⟨T3, h3, X3, e3, W3, st3⟩ := stB X2 hx hZ e2 Ar3 (j := (0 : Int32)) hin3 (g := (mkF m 43 #[.val (.ref b1), .val (.int (1 : Int32)), .val (.int ch)] [(.int ((ch >>> ((0 : Int32) &&& 31)).toInt8.toInt32)), (.int (0 : Int32)), (.ref b1)])) rfl rfl (hb hby d20_43)
  refine Go.via st3 ?_
  have V3 : Arv Z h3 b1 kc2 .byte (2 : Int32) [(.int (nar .byte ((ch >>> ((0 : Int32) &&& 31)).toInt8.toInt32))), x1] (.int (0 : Int32)) := Arv.set Ar3 q3 S3 N3n H3 G3 (fits_nar_byte _) W3 0 rfl (Nat.le_of_ble_eq_true rfl)
  have Zs3 : n0 ≤ h3.size := Nat.le_trans Z0 (Keep.of_wr W3).1
  have O3 : Old Z n0 h3 := O0.wr W3 g1
  have K3 : Keep h0 h3 [b1] := (Keep.refl h0 [b1]).wr W3 (Or.inl (List.mem_of_getElem? (i := 0) rfl))
  have N3 := Fr.snoc X3 N0 g1
  show Go p e below _ (T3.setTop (mkF m 44 #[.val (.ref b1), .val (.int (1 : Int32)), .val (.int ch)] []))
  refine Go.via (fun _ => XS.aloadN X3.here hx rfl (hb hby d20_44) rfl rfl) ?_
  show Go p e below _ (T3.setTop (mkF m 45 #[.val (.ref b1), .val (.int (1 : Int32)), .val (.int ch)] [(.ref b1)]))
  refine Go.via (fun _ => XS.iloadN X3.here hx rfl (hb hby d20_45) rfl) ?_
  show Go p e below _ (T3.setTop (mkF m 46 #[.val (.ref b1), .val (.int (1 : Int32)), .val (.int ch)] [(.int (1 : Int32)), (.ref b1)]))
  refine Go.via (fun _ => XS.iloadN X3.here hx rfl (hb hby d20_46) rfl) ?_
  show Go p e below _ (T3.setTop (mkF m 47 #[.val (.ref b1), .val (.int (1 : Int32)), .val (.int ch)] [(.int ch), (.int (1 : Int32)), (.ref b1)]))
  obtain ⟨T4, X4, e4, st4⟩ := getS2 X3 hx hZ hown (host := "") (Or.inl (hw _ (List.mem_of_getElem? (i := 101) rfl))) Via.refl e3 (S_LO.ext O3.2) (g := (mkF m 47 #[.val (.ref b1), .val (.int (1 : Int32)), .val (.int ch)] [(.int ch), (.int (1 : Int32)), (.ref b1)])) rfl (hb hby d20_47)
  refine Go.via st4 ?_
  show Go p e below _ (T4.setTop (mkF m 50 #[.val (.ref b1), .val (.int (1 : Int32)), .val (.int ch)] [(.int (8 : Int32)), (.int ch), (.int (1 : Int32)), (.ref b1)]))
  refine Go.via (fun _ => XS.ishr X4.here hx rfl (hb hby d20_50) rfl) ?_
  show Go p e below _ (T4.setTop (mkF m 51 #[.val (.ref b1), .val (.int (1 : Int32)), .val (.int ch)] [(.int (ch >>> ((8 : Int32) &&& 31))), (.int (1 : Int32)), (.ref b1)]))
  refine Go.via (fun _ => XS.i2b X4.here hx rfl (hb hby d20_51) rfl) ?_
  show Go p e below _ (T4.setTop (mkF m 52 #[.val (.ref b1), .val (.int (1 : Int32)), .val (.int ch)] [(.int ((ch >>> ((8 : Int32) &&& 31)).toInt8.toInt32)), (.int (1 : Int32)), (.ref b1)]))
  obtain ⟨cl5, Ar5, q5, S5, N5n, H5, G5⟩ := id V3
  have hin5 := inb_of (j := (1 : Int32)) S5 (by decide)
  obtain ⟨T5, h5, X5, e5, W5, st5⟩ := stB X4 hx hZ e4 Ar5 (j := (1 : Int32)) hin5 (g := (mkF m 52 #[.val (.ref b1), .val (.int (1 : Int32)), .val (.int ch)] [(.int ((ch >>> ((8 : Int32) &&& 31)).toInt8.toInt32)), (.int (1 : Int32)), (.ref b1)])) rfl rfl (hb hby d20_52)
  refine Go.via st5 ?_
  have V5 : Arv Z h5 b1 kc2 .byte (2 : Int32) [(.int (nar .byte ((ch >>> ((0 : Int32) &&& 31)).toInt8.toInt32))), (.int (nar .byte ((ch >>> ((8 : Int32) &&& 31)).toInt8.toInt32)))] (.int (0 : Int32)) := Arv.set Ar5 q5 S5 N5n H5 G5 (fits_nar_byte _) W5 1 rfl (Nat.le_of_ble_eq_true rfl)
  have Zs5 : n0 ≤ h5.size := Nat.le_trans Zs3 (Keep.of_wr W5).1
  have O5 : Old Z n0 h5 := O3.wr W5 g1
  have K5 : Keep h0 h5 [b1] := K3.wr W5 (Or.inl (List.mem_of_getElem? (i := 0) rfl))
  have N5 := Fr.snoc X5 N3 g1
  show Go p e below _ (T5.setTop (mkF m 53 #[.val (.ref b1), .val (.int (1 : Int32)), .val (.int ch)] []))
  exact own_retV X5 hx hlk Bd.returns (hb hby d20_53) (by show QPut_1_0 Z b1 kc2 ch x0 x1 ccs vF h0 n0 _ T5.heap _; rw [e5]; exact ⟨rfl, N5, K5, V5⟩) (by decide) (by decide)
theorem ef_rmTB_0 (m : MethodId) (x0 : Int32) : entryFrame m #[(.int x0)] 2 = mkF m 0 #[.val (.int x0), .unset] [] := by first | (simp [entryFrame, mkF, argsToLocals, Value.category]; done) | rfl
def QTB_0 (Z : State) (ch : Int32) (ccs : Int32) (vF : Value) (h0 : Heap) (n0 : Nat) (v : Option Value) (h : Heap) (L : List Loc) : Prop := ∃ (t : Addr) (kb : ClassId), v = some (.ref t) ∧ Fr n0 L ∧ Keep h0 h [] ∧ h0.size ≤ t ∧ Arv Z h t kb .byte (2 : Int32) [(.int (nar .byte ((ch >>> ((0 : Int32) &&& 31)).toInt8.toInt32))), (.int (nar .byte ((ch >>> ((8 : Int32) &&& 31)).toInt8.toInt32)))] (.int (0 : Int32))
set_option maxRecDepth 65536 in
set_option maxHeartbeats 40000000 in
theorem rmTB_0 (l : Launch) (Z : State) (a0 : Array Value) (hw : ∀ d ∈ tables_1, d.before a0 Z = true) (ws : List Jvm.Cond) (ch : Int32) (ccs : Int32) (vF : Value) (h0 : Heap) (n0 : Nat) (Z0 : n0 ≤ h0.size) (O0 : Old Z n0 h0) (S_CS : Sta Z Z.heap "java/lang/String" "COMPACT_STRINGS" "Z" (.int ccs)) (hcs : ¬ (ccs = (0 : Int32))) (S_AD : Sta Z Z.heap "java/lang/StringUTF16" "$assertionsDisabled" "Z" (.int (1 : Int32))) (S_HI : Sta Z Z.heap "java/lang/StringUTF16" "HI_BYTE_SHIFT" "I" (.int (0 : Int32))) (S_LO : Sta Z Z.heap "java/lang/StringUTF16" "LO_BYTE_SHIFT" "I" (.int (8 : Int32))) (S_SF : Sta Z Z.heap "jdk/internal/util/Preconditions" "SIOOBE_FORMATTER" "Ljava/util/function/BiFunction;" vF) (rF : vF.isRef = true) :
    MetFree l (⟨"java/lang/StringUTF16", "toBytes", "(C)[B"⟩ : MethodName) (head1 (Jvm.Cond.code (⟨"java/lang/StringUTF16", "toBytes", "(C)[B"⟩ : MethodName) jdk_52_method_24_code 2 (some (.array .byte)) :: ws) ({ frames := 1, cells := 1, slots := 2, locals := 14 } : Room)) (fun a U => a = #[(.int ch)] ∧ Z.Warmed39 U.vm ∧ U.heap = h0) (fun _ _ _ _ _ => True) (fun _ U o U' => ∃ v L, o = .returned v ∧ QTB_0 Z ch ccs vF h0 n0 v U'.heap L ∧ FrameEnd U o U' L ({ frames := 1, cells := 1, slots := 2, locals := 14 } : Room).cells ({ frames := 1, cells := 1, slots := 2, locals := 14 } : Room).slots) := by
  refine MetFree.of_bodySF (plainFor_of_name pn_java_lang_StringUTF16) hisR ?_
  intro p e s m args below meth c s₁ Bd hml0 hP hK
  obtain ⟨rfl, hZ, hh⟩ := hP
  have hx := Bd.exec
  have hby := Bd.bytes
  have hlk : meth.locks = false := Bd.notSynchronized
  have hml : c.maxLocals = 2 := hml0
  have hown : s.vm.findClass "java/lang/StringUTF16" = some m.cls := findClass_of_methodNamed Bd.named
  have hnm := (name_of_methodNamed Bd.named Bd.method).1
  have X0 : Stand p l e ({ frames := 1, cells := 1, slots := 2, locals := 14 } : Room) s m #[(.int ch)] below meth c s₁ [] 0 0 := Stand.of_body Bd
  have e0 : s₁.heap = h0 := by rw [← hh, Bd.state]; rfl
  have N0 := Fr.nil n0
  show Go p e below (FinE s below (QTB_0 Z ch ccs vF h0 n0) ({ frames := 1, cells := 1, slots := 2, locals := 14 } : Room).cells ({ frames := 1, cells := 1, slots := 2, locals := 14 } : Room).slots) (s₁.setTop (entryFrame m #[(.int ch)] 2))
  refine Go.via (fun t k => castTop (ef_rmTB_0 m ch) k) ?_
  show Go p e below _ (s₁.setTop (mkF m 0 #[.val (.int ch), .unset] []))
  refine Go.via (fun _ => XS.iconst X0.here hx rfl (hb hby d19_0)) ?_
  show Go p e below _ (s₁.setTop (mkF m 1 #[.val (.int ch), .unset] [(.int (2 : Int32))]))
  obtain ⟨T1, h1, k1, X1, e1, E1, A1, st1⟩ := newP X0 hx hZ (hw _ (List.mem_of_getElem? (i := 19) rfl)) e0 (g := (mkF m 1 #[.val (.int ch), .unset] [(.int (2 : Int32))])) rfl (hb hby d19_1) rfl (by decide) (cap := 2) (by decide) (by decide) (by decide) (by decide)
  obtain ⟨b1, g1⟩ : ∃ z, z = h0.size := ⟨_, rfl⟩
  rw [← g1] at A1 st1
  have g_b1 : n0 ≤ b1 := Nat.le_trans Z0 (Nat.le_of_eq g1.symm)
  have sz_b1 : h0.size ≤ b1 := Nat.le_trans (Keep.refl h0 []).1 (Nat.le_of_eq g1.symm)
  refine Go.via st1 ?_
  have Zs1 : n0 ≤ h1.size := Nat.le_trans Z0 E1.1
  have O1 : Old Z n0 h1 := O0.ext E1
  have K1 : Keep h0 h1 [] := (Keep.refl h0 []).ext E1
  have V_b1 : Arv Z h1 b1 k1 .byte (2 : Int32) [(.int (0 : Int32)), (.int (0 : Int32))] (.int (0 : Int32)) := (Arv.new A1 (by decide)).pad (pad_rep [] (.int (0 : Int32)) 2)
  show Go p e below _ (T1.setTop (mkF m 3 #[.val (.int ch), .unset] [(.ref b1)]))
  refine Go.via (fun _ => XS.astoreN X1.here hx rfl (hb hby d19_3) rfl rfl (l' := #[.val (.int ch), .val (.ref b1)]) rfl) ?_
  show Go p e below _ (T1.setTop (mkF m 4 #[.val (.int ch), .val (.ref b1)] []))
  refine Go.via (fun _ => XS.aloadN X1.here hx rfl (hb hby d19_4) rfl rfl) ?_
  show Go p e below _ (T1.setTop (mkF m 5 #[.val (.int ch), .val (.ref b1)] [(.ref b1)]))
  refine Go.via (fun _ => XS.iconst X1.here hx rfl (hb hby d19_5)) ?_
  show Go p e below _ (T1.setTop (mkF m 6 #[.val (.int ch), .val (.ref b1)] [(.int (0 : Int32)), (.ref b1)]))
  refine Go.via (fun _ => XS.iloadN X1.here hx rfl (hb hby d19_6) rfl) ?_
  show Go p e below _ (T1.setTop (mkF m 7 #[.val (.int ch), .val (.ref b1)] [(.int ch), (.int (0 : Int32)), (.ref b1)]))
  obtain ⟨_, _, ⟨T2, L2, k2, n2⟩, -, X2, ⟨Lc2, hQ2, l2, y2, z2⟩, st2⟩ := Jvm.LawKit.callS X1 hx (y := (⟨"java/lang/StringUTF16", "putChar", "([BII)V"⟩ : MethodName)) hown (mvT hZ (hw _ (List.mem_of_getElem? (i := 96) rfl))) (mvT hZ (hw _ (List.mem_of_getElem? (i := 97) rfl))) (mvT hZ (hw _ (List.mem_of_getElem? (i := 94) rfl))) (mvT hZ (hw _ (List.mem_of_getElem? (i := 98) rfl))) (by decide) (backOf (W := 0) (rmPut_1_0 l Z a0 hw [] b1 k1 ch (.int (0 : Int32)) (.int (0 : Int32)) ccs vF h1 n0 Zs1 V_b1 g_b1 O1 S_CS hcs S_AD S_HI S_LO S_SF rF) hZ (hw _ (List.mem_of_getElem? (i := 98) rfl)) (hw _ (List.mem_of_getElem? (i := 94) rfl)) (by decide) (by decide)) (g := (mkF m 7 #[.val (.int ch), .val (.ref b1)] [(.int ch), (.int (0 : Int32)), (.ref b1)])) rfl (by rw [hml]; rfl) (argsL := [(.ref b1), (.int (0 : Int32)), (.int ch)]) (rest := []) (lenOf pd_0 rfl) rfl (by show 2 * 0 + _ ≤ _; exact Nat.le_of_eq rfl) (hb hby d19_7) (fun _ _ => ⟨rfl, e1, (by decide : 1 + 0 ≤ _), (by decide : 2 + 0 ≤ _)⟩)
  dsimp only [Pt.U, Pt.locs, Pt.cells, Pt.slots] at X2 l2 y2 z2 st2 hQ2
  subst l2 y2 z2
  obtain ⟨rfl, N2q, K2q, va2⟩ := hQ2
  have N2 := Fr.app N0 N2q
  refine Go.via st2 ?_
  have Zs2 : n0 ≤ T2.heap.size := Nat.le_trans Zs1 K2q.1
  have O2 : Old Z n0 T2.heap := O1.keep K2q (allS g_b1 all0)
  have K2 : Keep h0 T2.heap [] := K1.trans K2q (allS (Or.inr sz_b1) all0)
  show Go p e below _ (T2.setTop (mkF m 10 #[.val (.int ch), .val (.ref b1)] []))
  refine Go.via (fun _ => XS.aloadN X2.here hx rfl (hb hby d19_10) rfl rfl) ?_
  show Go p e below _ (T2.setTop (mkF m 11 #[.val (.int ch), .val (.ref b1)] [(.ref b1)]))
  exact own_retA X2 hx hlk Bd.returns rfl rfl (hb hby d19_11) (by show QTB_0 Z ch ccs vF h0 n0 _ T2.heap _; exact ⟨b1, k1, rfl, N2, K2, sz_b1, va2⟩) (by decide) (by decide)
theorem ef_rmIB_0 (m : MethodId) (x0 : Addr) (x1 : Addr) : entryFrame m #[(.ref x0), (.ref x1), (.int (0 : Int32))] 3 = mkF m 0 #[.val (.ref x0), .val (.ref x1), .val (.int (0 : Int32))] [] := by first | (simp [entryFrame, mkF, argsToLocals, Value.category]; done) | rfl
def QIB_0 (Z : State) (a1 : Addr) (t1 : Addr) (h0 : Heap) (n0 : Nat) (v : Option Value) (h : Heap) (L : List Loc) : Prop := v = none ∧ Fr n0 L ∧ Keep h0 h [a1] ∧ Fld Z h a1 "java/lang/String" "value" "[B" (.ref t1) ∧ Fld Z h a1 "java/lang/String" "coder" "B" (.int (0 : Int32))
set_option maxRecDepth 65536 in
set_option maxHeartbeats 40000000 in
theorem rmIB_0 (l : Launch) (Z : State) (a0 : Array Value) (hw : ∀ d ∈ tables_1, d.before a0 Z = true) (ws : List Jvm.Cond) (a1 : Addr) (t1 : Addr) (h0 : Heap) (n0 : Nat) (Z0 : n0 ≤ h0.size) (E1 : Exa Z h0 a1 "java/lang/String") (F1 : Fld Z h0 a1 "java/lang/String" "value" "[B" .null) (F2 : Fld Z h0 a1 "java/lang/String" "coder" "B" (.int (0 : Int32))) (g1 : n0 ≤ a1) :
    MetFree l (⟨"java/lang/String", "<init>", "([BB)V"⟩ : MethodName) (head1 (Jvm.Cond.code (⟨"java/lang/String", "<init>", "([BB)V"⟩ : MethodName) jdk_42_method_151_code 3 none :: ws) ({ frames := 1, cells := 0, slots := 0, locals := 12 } : Room)) (fun a U => a = #[(.ref a1), (.ref t1), (.int (0 : Int32))] ∧ Z.Warmed39 U.vm ∧ U.heap = h0) (fun _ _ _ _ _ => True) (fun _ U o U' => ∃ v L, o = .returned v ∧ QIB_0 Z a1 t1 h0 n0 v U'.heap L ∧ FrameEnd U o U' L ({ frames := 1, cells := 0, slots := 0, locals := 12 } : Room).cells ({ frames := 1, cells := 0, slots := 0, locals := 12 } : Room).slots) := by
  refine MetFree.of_bodySF (plainFor_of_name pn_java_lang_String) hisR ?_
  intro p e s m args below meth c s₁ Bd hml0 hP hK
  obtain ⟨rfl, hZ, hh⟩ := hP
  have hx := Bd.exec
  have hby := Bd.bytes
  have hlk : meth.locks = false := Bd.notSynchronized
  have hml : c.maxLocals = 3 := hml0
  have hown : s.vm.findClass "java/lang/String" = some m.cls := findClass_of_methodNamed Bd.named
  have hnm := (name_of_methodNamed Bd.named Bd.method).1
  have X0 : Stand p l e ({ frames := 1, cells := 0, slots := 0, locals := 12 } : Room) s m #[(.ref a1), (.ref t1), (.int (0 : Int32))] below meth c s₁ [] 0 0 := Stand.of_body Bd
  have e0 : s₁.heap = h0 := by rw [← hh, Bd.state]; rfl
  have N0 := Fr.nil n0
  show Go p e below (FinE s below (QIB_0 Z a1 t1 h0 n0) ({ frames := 1, cells := 0, slots := 0, locals := 12 } : Room).cells ({ frames := 1, cells := 0, slots := 0, locals := 12 } : Room).slots) (s₁.setTop (entryFrame m #[(.ref a1), (.ref t1), (.int (0 : Int32))] 3))
  refine Go.via (fun t k => castTop (ef_rmIB_0 m a1 t1) k) ?_
  show Go p e below _ (s₁.setTop (mkF m 0 #[.val (.ref a1), .val (.ref t1), .val (.int (0 : Int32))] []))
  refine Go.via (fun _ => XS.aloadN X0.here hx rfl (hb hby d5_0) rfl rfl) ?_
  show Go p e below _ (s₁.setTop (mkF m 1 #[.val (.ref a1), .val (.ref t1), .val (.int (0 : Int32))] [(.ref a1)]))
  obtain ⟨T1, X1, e1, st1⟩ := initO X0 hx hZ hown (hw _ (List.mem_of_getElem? (i := 24) rfl)) (hw _ (List.mem_of_getElem? (i := 25) rfl)) (hw _ (List.mem_of_getElem? (i := 26) rfl)) e0 (g := (mkF m 1 #[.val (.ref a1), .val (.ref t1), .val (.int (0 : Int32))] [(.ref a1)])) rfl (by rw [hml]; rfl) rfl (hb hby d5_1) (by decide) (W := 0) (by show 2 * 0 + _ ≤ _; exact Nat.le_of_eq rfl) (by decide)
  refine Go.via st1 ?_
  show Go p e below _ (T1.setTop (mkF m 4 #[.val (.ref a1), .val (.ref t1), .val (.int (0 : Int32))] []))
  refine Go.via (fun _ => XS.aloadN X1.here hx rfl (hb hby d5_4) rfl rfl) ?_
  show Go p e below _ (T1.setTop (mkF m 5 #[.val (.ref a1), .val (.ref t1), .val (.int (0 : Int32))] [(.ref a1)]))
  refine Go.via (fun _ => XS.aloadN X1.here hx rfl (hb hby d5_5) rfl rfl) ?_
  show Go p e below _ (T1.setTop (mkF m 6 #[.val (.ref a1), .val (.ref t1), .val (.int (0 : Int32))] [(.ref t1), (.ref a1)]))
  obtain ⟨T2, h2, X2, e2, W2, st2⟩ := putF X1 hx hZ hown (host := "") (Or.inl (hw _ (List.mem_of_getElem? (i := 27) rfl))) Via.refl e1 F1 E1 (Or.inr ⟨(hw _ (List.mem_of_getElem? (i := 28) rfl)), rfl, hnm⟩) (hw _ (List.mem_of_getElem? (i := 15) rfl)) (ty := (.array .byte)) (by decide) rfl rfl (g := (mkF m 6 #[.val (.ref a1), .val (.ref t1), .val (.int (0 : Int32))] [(.ref t1), (.ref a1)])) rfl rfl (hb hby d5_6)
  refine Go.via st2 ?_
  have fF_a1_value_2 : Fld Z h2 a1 "java/lang/String" "value" "[B" (.ref t1) := F1.same W2
  have Zs2 : n0 ≤ h2.size := Nat.le_trans Z0 (Keep.of_wr W2).1
  have K2 : Keep h0 h2 [a1] := (Keep.refl h0 [a1]).wr W2 (Or.inl (List.mem_of_getElem? (i := 0) rfl))
  have N2 := Fr.snoc X2 N0 g1
  have fE_a1_2 := E1.wr W2
  have fF_a1_coder_2 := F2.other W2 (Or.inr (slot_ne (Or.inr (hw _ (List.mem_of_getElem? (i := 30) rfl))) (Or.inr (hw _ (List.mem_of_getElem? (i := 28) rfl))) (by decide) (t := .byte) (t' := (.array .byte)) (by decide) (by decide)))
  show Go p e below _ (T2.setTop (mkF m 9 #[.val (.ref a1), .val (.ref t1), .val (.int (0 : Int32))] []))
  refine Go.via (fun _ => XS.aloadN X2.here hx rfl (hb hby d5_9) rfl rfl) ?_
  show Go p e below _ (T2.setTop (mkF m 10 #[.val (.ref a1), .val (.ref t1), .val (.int (0 : Int32))] [(.ref a1)]))
  refine Go.via (fun _ => XS.iloadN X2.here hx rfl (hb hby d5_10) rfl) ?_
  show Go p e below _ (T2.setTop (mkF m 11 #[.val (.ref a1), .val (.ref t1), .val (.int (0 : Int32))] [(.int (0 : Int32)), (.ref a1)]))
  obtain ⟨T3, h3, X3, e3, W3, st3⟩ := putFN X2 hx hZ hown (hw _ (List.mem_of_getElem? (i := 29) rfl)) Via.refl e2 fF_a1_coder_2 fE_a1_2 (Or.inr ⟨(hw _ (List.mem_of_getElem? (i := 30) rfl)), rfl, hnm⟩) (hw _ (List.mem_of_getElem? (i := 15) rfl)) (ty := .byte) (v' := .int (nar .byte (0 : Int32))) (by decide) rfl (fits_nar_byte _) (g := (mkF m 11 #[.val (.ref a1), .val (.ref t1), .val (.int (0 : Int32))] [(.int (0 : Int32)), (.ref a1)])) rfl rfl (hb hby d5_11)
  refine Go.via st3 ?_
  have fF_a1_coder_3 : Fld Z h3 a1 "java/lang/String" "coder" "B" (.int (0 : Int32)) := fF_a1_coder_2.same W3
  have Zs3 : n0 ≤ h3.size := Nat.le_trans Zs2 (Keep.of_wr W3).1
  have K3 : Keep h0 h3 [a1] := K2.wr W3 (Or.inl (List.mem_of_getElem? (i := 0) rfl))
  have N3 := Fr.snoc X3 N2 g1
  have fE_a1_3 := fE_a1_2.wr W3
  have fF_a1_value_3 := fF_a1_value_2.other W3 (Or.inr (slot_ne (Or.inr (hw _ (List.mem_of_getElem? (i := 28) rfl))) (Or.inr (hw _ (List.mem_of_getElem? (i := 30) rfl))) (by decide) (t := (.array .byte)) (t' := .byte) (by decide) (by decide)))
  show Go p e below _ (T3.setTop (mkF m 14 #[.val (.ref a1), .val (.ref t1), .val (.int (0 : Int32))] []))
  exact own_retV X3 hx hlk Bd.returns (hb hby d5_14) (by show QIB_0 Z a1 t1 h0 n0 _ T3.heap _; rw [e3]; exact ⟨rfl, N3, K3, fF_a1_value_3, fF_a1_coder_3⟩) (by decide) (by decide)
theorem ef_rmIB_1 (m : MethodId) (x0 : Addr) (x1 : Addr) : entryFrame m #[(.ref x0), (.ref x1), (.int (1 : Int32))] 3 = mkF m 0 #[.val (.ref x0), .val (.ref x1), .val (.int (1 : Int32))] [] := by first | (simp [entryFrame, mkF, argsToLocals, Value.category]; done) | rfl
def QIB_1 (Z : State) (a1 : Addr) (t1 : Addr) (h0 : Heap) (n0 : Nat) (v : Option Value) (h : Heap) (L : List Loc) : Prop := v = none ∧ Fr n0 L ∧ Keep h0 h [a1] ∧ Fld Z h a1 "java/lang/String" "value" "[B" (.ref t1) ∧ Fld Z h a1 "java/lang/String" "coder" "B" (.int (1 : Int32))
set_option maxRecDepth 65536 in
set_option maxHeartbeats 40000000 in
theorem rmIB_1 (l : Launch) (Z : State) (a0 : Array Value) (hw : ∀ d ∈ tables_1, d.before a0 Z = true) (ws : List Jvm.Cond) (a1 : Addr) (t1 : Addr) (h0 : Heap) (n0 : Nat) (Z0 : n0 ≤ h0.size) (E1 : Exa Z h0 a1 "java/lang/String") (F1 : Fld Z h0 a1 "java/lang/String" "value" "[B" .null) (F2 : Fld Z h0 a1 "java/lang/String" "coder" "B" (.int (0 : Int32))) (g1 : n0 ≤ a1) :
    MetFree l (⟨"java/lang/String", "<init>", "([BB)V"⟩ : MethodName) (head1 (Jvm.Cond.code (⟨"java/lang/String", "<init>", "([BB)V"⟩ : MethodName) jdk_42_method_151_code 3 none :: ws) ({ frames := 1, cells := 0, slots := 0, locals := 12 } : Room)) (fun a U => a = #[(.ref a1), (.ref t1), (.int (1 : Int32))] ∧ Z.Warmed39 U.vm ∧ U.heap = h0) (fun _ _ _ _ _ => True) (fun _ U o U' => ∃ v L, o = .returned v ∧ QIB_1 Z a1 t1 h0 n0 v U'.heap L ∧ FrameEnd U o U' L ({ frames := 1, cells := 0, slots := 0, locals := 12 } : Room).cells ({ frames := 1, cells := 0, slots := 0, locals := 12 } : Room).slots) := by
  refine MetFree.of_bodySF (plainFor_of_name pn_java_lang_String) hisR ?_
  intro p e s m args below meth c s₁ Bd hml0 hP hK
  obtain ⟨rfl, hZ, hh⟩ := hP
  have hx := Bd.exec
  have hby := Bd.bytes
  have hlk : meth.locks = false := Bd.notSynchronized
  have hml : c.maxLocals = 3 := hml0
  have hown : s.vm.findClass "java/lang/String" = some m.cls := findClass_of_methodNamed Bd.named
  have hnm := (name_of_methodNamed Bd.named Bd.method).1
  have X0 : Stand p l e ({ frames := 1, cells := 0, slots := 0, locals := 12 } : Room) s m #[(.ref a1), (.ref t1), (.int (1 : Int32))] below meth c s₁ [] 0 0 := Stand.of_body Bd
  have e0 : s₁.heap = h0 := by rw [← hh, Bd.state]; rfl
  have N0 := Fr.nil n0
  show Go p e below (FinE s below (QIB_1 Z a1 t1 h0 n0) ({ frames := 1, cells := 0, slots := 0, locals := 12 } : Room).cells ({ frames := 1, cells := 0, slots := 0, locals := 12 } : Room).slots) (s₁.setTop (entryFrame m #[(.ref a1), (.ref t1), (.int (1 : Int32))] 3))
  refine Go.via (fun t k => castTop (ef_rmIB_1 m a1 t1) k) ?_
  show Go p e below _ (s₁.setTop (mkF m 0 #[.val (.ref a1), .val (.ref t1), .val (.int (1 : Int32))] []))
  refine Go.via (fun _ => XS.aloadN X0.here hx rfl (hb hby d5_0) rfl rfl) ?_
  show Go p e below _ (s₁.setTop (mkF m 1 #[.val (.ref a1), .val (.ref t1), .val (.int (1 : Int32))] [(.ref a1)]))
  obtain ⟨T1, X1, e1, st1⟩ := initO X0 hx hZ hown (hw _ (List.mem_of_getElem? (i := 24) rfl)) (hw _ (List.mem_of_getElem? (i := 25) rfl)) (hw _ (List.mem_of_getElem? (i := 26) rfl)) e0 (g := (mkF m 1 #[.val (.ref a1), .val (.ref t1), .val (.int (1 : Int32))] [(.ref a1)])) rfl (by rw [hml]; rfl) rfl (hb hby d5_1) (by decide) (W := 0) (by show 2 * 0 + _ ≤ _; exact Nat.le_of_eq rfl) (by decide)
  refine Go.via st1 ?_
  show Go p e below _ (T1.setTop (mkF m 4 #[.val (.ref a1), .val (.ref t1), .val (.int (1 : Int32))] []))
  refine Go.via (fun _ => XS.aloadN X1.here hx rfl (hb hby d5_4) rfl rfl) ?_
  show Go p e below _ (T1.setTop (mkF m 5 #[.val (.ref a1), .val (.ref t1), .val (.int (1 : Int32))] [(.ref a1)]))
  refine Go.via (fun _ => XS.aloadN X1.here hx rfl (hb hby d5_5) rfl rfl) ?_
  show Go p e below _ (T1.setTop (mkF m 6 #[.val (.ref a1), .val (.ref t1), .val (.int (1 : Int32))] [(.ref t1), (.ref a1)]))
  obtain ⟨T2, h2, X2, e2, W2, st2⟩ := putF X1 hx hZ hown (host := "") (Or.inl (hw _ (List.mem_of_getElem? (i := 27) rfl))) Via.refl e1 F1 E1 (Or.inr ⟨(hw _ (List.mem_of_getElem? (i := 28) rfl)), rfl, hnm⟩) (hw _ (List.mem_of_getElem? (i := 15) rfl)) (ty := (.array .byte)) (by decide) rfl rfl (g := (mkF m 6 #[.val (.ref a1), .val (.ref t1), .val (.int (1 : Int32))] [(.ref t1), (.ref a1)])) rfl rfl (hb hby d5_6)
  refine Go.via st2 ?_
  have fF_a1_value_2 : Fld Z h2 a1 "java/lang/String" "value" "[B" (.ref t1) := F1.same W2
  have Zs2 : n0 ≤ h2.size := Nat.le_trans Z0 (Keep.of_wr W2).1
  have K2 : Keep h0 h2 [a1] := (Keep.refl h0 [a1]).wr W2 (Or.inl (List.mem_of_getElem? (i := 0) rfl))
  have N2 := Fr.snoc X2 N0 g1
  have fE_a1_2 := E1.wr W2
  have fF_a1_coder_2 := F2.other W2 (Or.inr (slot_ne (Or.inr (hw _ (List.mem_of_getElem? (i := 30) rfl))) (Or.inr (hw _ (List.mem_of_getElem? (i := 28) rfl))) (by decide) (t := .byte) (t' := (.array .byte)) (by decide) (by decide)))
  show Go p e below _ (T2.setTop (mkF m 9 #[.val (.ref a1), .val (.ref t1), .val (.int (1 : Int32))] []))
  refine Go.via (fun _ => XS.aloadN X2.here hx rfl (hb hby d5_9) rfl rfl) ?_
  show Go p e below _ (T2.setTop (mkF m 10 #[.val (.ref a1), .val (.ref t1), .val (.int (1 : Int32))] [(.ref a1)]))
  refine Go.via (fun _ => XS.iloadN X2.here hx rfl (hb hby d5_10) rfl) ?_
  show Go p e below _ (T2.setTop (mkF m 11 #[.val (.ref a1), .val (.ref t1), .val (.int (1 : Int32))] [(.int (1 : Int32)), (.ref a1)]))
  obtain ⟨T3, h3, X3, e3, W3, st3⟩ := putFN X2 hx hZ hown (hw _ (List.mem_of_getElem? (i := 29) rfl)) Via.refl e2 fF_a1_coder_2 fE_a1_2 (Or.inr ⟨(hw _ (List.mem_of_getElem? (i := 30) rfl)), rfl, hnm⟩) (hw _ (List.mem_of_getElem? (i := 15) rfl)) (ty := .byte) (v' := .int (nar .byte (1 : Int32))) (by decide) rfl (fits_nar_byte _) (g := (mkF m 11 #[.val (.ref a1), .val (.ref t1), .val (.int (1 : Int32))] [(.int (1 : Int32)), (.ref a1)])) rfl rfl (hb hby d5_11)
  refine Go.via st3 ?_
  have fF_a1_coder_3 : Fld Z h3 a1 "java/lang/String" "coder" "B" (.int (1 : Int32)) := fF_a1_coder_2.same W3
  have Zs3 : n0 ≤ h3.size := Nat.le_trans Zs2 (Keep.of_wr W3).1
  have K3 : Keep h0 h3 [a1] := K2.wr W3 (Or.inl (List.mem_of_getElem? (i := 0) rfl))
  have N3 := Fr.snoc X3 N2 g1
  have fE_a1_3 := fE_a1_2.wr W3
  have fF_a1_value_3 := fF_a1_value_2.other W3 (Or.inr (slot_ne (Or.inr (hw _ (List.mem_of_getElem? (i := 28) rfl))) (Or.inr (hw _ (List.mem_of_getElem? (i := 30) rfl))) (by decide) (t := (.array .byte)) (t' := .byte) (by decide) (by decide)))
  show Go p e below _ (T3.setTop (mkF m 14 #[.val (.ref a1), .val (.ref t1), .val (.int (1 : Int32))] []))
  exact own_retV X3 hx hlk Bd.returns (hb hby d5_14) (by show QIB_1 Z a1 t1 h0 n0 _ T3.heap _; rw [e3]; exact ⟨rfl, N3, K3, fF_a1_value_3, fF_a1_coder_3⟩) (by decide) (by decide)
theorem ef_rmVO_1 (m : MethodId) (x0 : Int32) : entryFrame m #[(.int x0)] 1 = mkF m 0 #[.val (.int x0)] [] := by first | (simp [entryFrame, mkF, argsToLocals, Value.category]; done) | rfl
def QVO_1 (Z : State) (ch : Int32) (ccs : Int32) (vF : Value) (h0 : Heap) (n0 : Nat) (v : Option Value) (h : Heap) (L : List Loc) : Prop := ∃ (a t : Addr) (kb : ClassId), v = some (.ref a) ∧ Fr n0 L ∧ Keep h0 h [] ∧ h0.size ≤ a ∧ h0.size ≤ t ∧ a ≠ t ∧ Exa Z h a "java/lang/String" ∧ Fld Z h a "java/lang/String" "value" "[B" (.ref t) ∧ Fld Z h a "java/lang/String" "coder" "B" (.int (0 : Int32)) ∧ Arv Z h t kb .byte (1 : Int32) [(.int (nar .byte (ch.toInt8.toInt32)))] (.int (0 : Int32))
set_option maxRecDepth 65536 in
set_option maxHeartbeats 40000000 in
theorem rmVO_1 (l : Launch) (Z : State) (a0 : Array Value) (hw : ∀ d ∈ tables_1, d.before a0 Z = true) (ws : List Jvm.Cond) (ch : Int32) (ccs : Int32) (vF : Value) (h0 : Heap) (n0 : Nat) (Z0 : n0 ≤ h0.size) (O0 : Old Z n0 h0) (S_CS : Sta Z Z.heap "java/lang/String" "COMPACT_STRINGS" "Z" (.int ccs)) (hcs : ¬ (ccs = (0 : Int32))) (S_AD : Sta Z Z.heap "java/lang/StringUTF16" "$assertionsDisabled" "Z" (.int (1 : Int32))) (S_HI : Sta Z Z.heap "java/lang/StringUTF16" "HI_BYTE_SHIFT" "I" (.int (0 : Int32))) (S_LO : Sta Z Z.heap "java/lang/StringUTF16" "LO_BYTE_SHIFT" "I" (.int (8 : Int32))) (S_SF : Sta Z Z.heap "jdk/internal/util/Preconditions" "SIOOBE_FORMATTER" "Ljava/util/function/BiFunction;" vF) (rF : vF.isRef = true) (hl : ¬ ((255 : Int32) < ch)) :
    MetFree l (⟨"java/lang/String", "valueOf", "(C)Ljava/lang/String;"⟩ : MethodName) (head1 (Jvm.Cond.code (⟨"java/lang/String", "valueOf", "(C)Ljava/lang/String;"⟩ : MethodName) jdk_42_method_139_code 1 (some (.object "java/lang/String")) :: ws) ({ frames := 2, cells := 2, slots := 5, locals := 27 } : Room)) (fun a U => a = #[(.int ch)] ∧ Z.Warmed39 U.vm ∧ U.heap = h0) (fun _ _ _ _ _ => True) (fun _ U o U' => ∃ v L, o = .returned v ∧ QVO_1 Z ch ccs vF h0 n0 v U'.heap L ∧ FrameEnd U o U' L ({ frames := 2, cells := 2, slots := 5, locals := 27 } : Room).cells ({ frames := 2, cells := 2, slots := 5, locals := 27 } : Room).slots) := by
  refine MetFree.of_bodySF (plainFor_of_name pn_java_lang_String) hisR ?_
  intro p e s m args below meth c s₁ Bd hml0 hP hK
  obtain ⟨rfl, hZ, hh⟩ := hP
  have hx := Bd.exec
  have hby := Bd.bytes
  have hlk : meth.locks = false := Bd.notSynchronized
  have hml : c.maxLocals = 1 := hml0
  have hown : s.vm.findClass "java/lang/String" = some m.cls := findClass_of_methodNamed Bd.named
  have hnm := (name_of_methodNamed Bd.named Bd.method).1
  have X0 : Stand p l e ({ frames := 2, cells := 2, slots := 5, locals := 27 } : Room) s m #[(.int ch)] below meth c s₁ [] 0 0 := Stand.of_body Bd
  have e0 : s₁.heap = h0 := by rw [← hh, Bd.state]; rfl
  have N0 := Fr.nil n0
  show Go p e below (FinE s below (QVO_1 Z ch ccs vF h0 n0) ({ frames := 2, cells := 2, slots := 5, locals := 27 } : Room).cells ({ frames := 2, cells := 2, slots := 5, locals := 27 } : Room).slots) (s₁.setTop (entryFrame m #[(.int ch)] 1))
  refine Go.via (fun t k => castTop (ef_rmVO_1 m ch) k) ?_
  show Go p e below _ (s₁.setTop (mkF m 0 #[.val (.int ch)] []))
  obtain ⟨T1, X1, e1, st1⟩ := getS2 X0 hx hZ hown (host := "") (Or.inl (hw _ (List.mem_of_getElem? (i := 9) rfl))) Via.refl e0 (S_CS.ext O0.2) (g := (mkF m 0 #[.val (.int ch)] [])) rfl (hb hby d2_0)
  refine Go.via st1 ?_
  show Go p e below _ (T1.setTop (mkF m 3 #[.val (.int ch)] [(.int ccs)]))
  refine Go.via (fun _ => XS.ifNo X1.here hx rfl (hb hby d2_3) rfl ((if0 _ _).trans (feq hcs).1)) ?_
  show Go p e below _ (T1.setTop (mkF m 6 #[.val (.int ch)] []))
  refine Go.via (fun _ => XS.iloadN X1.here hx rfl (hb hby d2_6) rfl) ?_
  show Go p e below _ (T1.setTop (mkF m 7 #[.val (.int ch)] [(.int ch)]))
  obtain ⟨_, _, ⟨T2, L2, k2, n2⟩, -, X2, ⟨Lc2, hQ2, l2, y2, z2⟩, st2⟩ := Jvm.LawKit.callS X1 hx (y := (⟨"java/lang/StringLatin1", "canEncode", "(C)Z"⟩ : MethodName)) hown (mvT hZ (hw _ (List.mem_of_getElem? (i := 10) rfl))) (mvT hZ (hw _ (List.mem_of_getElem? (i := 11) rfl))) (mvT hZ (hw _ (List.mem_of_getElem? (i := 12) rfl))) (mvT hZ (hw _ (List.mem_of_getElem? (i := 13) rfl))) (by decide) (backOf (W := 0) (rmCanC_1 l Z a0 hw [] ch h0 n0 Z0 hl) hZ (hw _ (List.mem_of_getElem? (i := 13) rfl)) (hw _ (List.mem_of_getElem? (i := 12) rfl)) (by decide) (by decide)) (g := (mkF m 7 #[.val (.int ch)] [(.int ch)])) rfl (by rw [hml]; rfl) (argsL := [(.int ch)]) (rest := []) (lenOf pd_1 rfl) rfl (by show 2 * 0 + _ ≤ _; exact Nat.le_of_eq rfl) (hb hby d2_7) (fun _ _ => ⟨rfl, e1, (by decide : 0 + 0 ≤ _), (by decide : 0 + 0 ≤ _)⟩)
  dsimp only [Pt.U, Pt.locs, Pt.cells, Pt.slots] at X2 l2 y2 z2 st2 hQ2
  subst l2 y2 z2
  obtain ⟨rfl, N2q, e2q⟩ := hQ2
  have N2 := Fr.app N0 N2q
  refine Go.via st2 ?_
  show Go p e below _ (T2.setTop (mkF m 10 #[.val (.int ch)] [(.int (1 : Int32))]))
  refine Go.via (fun _ => XS.ifNo X2.here hx rfl (hb hby d2_10) rfl (by decide)) ?_
  show Go p e below _ (T2.setTop (mkF m 13 #[.val (.int ch)] []))
  obtain ⟨T3, h3, X3, e3, E3, A3, D3, -, st3⟩ := newO X2 hx hZ hown (hw _ (List.mem_of_getElem? (i := 14) rfl)) (hw _ (List.mem_of_getElem? (i := 15) rfl)) (hw _ (List.mem_of_getElem? (i := 7) rfl)) e2q (g := (mkF m 13 #[.val (.int ch)] [])) rfl (hb hby d2_13) (by decide) (by decide)
  obtain ⟨b3, g3⟩ : ∃ z, z = h0.size := ⟨_, rfl⟩
  rw [← g3] at A3 D3 st3
  have g_b3 : n0 ≤ b3 := Nat.le_trans Z0 (Nat.le_of_eq g3.symm)
  have sz_b3 : h0.size ≤ b3 := Nat.le_trans (Keep.refl h0 []).1 (Nat.le_of_eq g3.symm)
  refine Go.via st3 ?_
  have Zs3 : n0 ≤ h3.size := Nat.le_trans Z0 E3.1
  have O3 : Old Z n0 h3 := O0.ext E3
  have K3 : Keep h0 h3 [] := (Keep.refl h0 []).ext E3
  have F_value_b3 : Fld Z h3 b3 "java/lang/String" "value" "[B" .null := D3 (Or.inr (hw _ (List.mem_of_getElem? (i := 28) rfl))) (ty := (.array .byte)) (by decide)
  have F_coder_b3 : Fld Z h3 b3 "java/lang/String" "coder" "B" (.int (0 : Int32)) := D3 (Or.inr (hw _ (List.mem_of_getElem? (i := 30) rfl))) (ty := .byte) (by decide)
  show Go p e below _ (T3.setTop (mkF m 16 #[.val (.int ch)] [(.ref b3)]))
  refine Go.via (fun _ => XS.dup X3.here hx rfl (hb hby d2_16) rfl rfl) ?_
  show Go p e below _ (T3.setTop (mkF m 17 #[.val (.int ch)] [(.ref b3), (.ref b3)]))
  refine Go.via (fun _ => XS.iloadN X3.here hx rfl (hb hby d2_17) rfl) ?_
  show Go p e below _ (T3.setTop (mkF m 18 #[.val (.int ch)] [(.int ch), (.ref b3), (.ref b3)]))
  obtain ⟨_, _, ⟨T4, L4, k4, n4⟩, -, X4, ⟨Lc4, hQ4, l4, y4, z4⟩, st4⟩ := Jvm.LawKit.callS X3 hx (y := (⟨"java/lang/StringLatin1", "toBytes", "(C)[B"⟩ : MethodName)) hown (mvT hZ (hw _ (List.mem_of_getElem? (i := 16) rfl))) (mvT hZ (hw _ (List.mem_of_getElem? (i := 17) rfl))) (mvT hZ (hw _ (List.mem_of_getElem? (i := 12) rfl))) (mvT hZ (hw _ (List.mem_of_getElem? (i := 18) rfl))) (by decide) (backOf (W := 2) (rmTB_1 l Z a0 hw [] ch h3 n0 Zs3) hZ (hw _ (List.mem_of_getElem? (i := 18) rfl)) (hw _ (List.mem_of_getElem? (i := 12) rfl)) (by decide) (by decide)) (g := (mkF m 18 #[.val (.int ch)] [(.int ch), (.ref b3), (.ref b3)])) rfl (by rw [hml]; rfl) (argsL := [(.int ch)]) (rest := [(.ref b3), (.ref b3)]) (lenOf pd_2 rfl) rfl (by show 2 * 0 + _ ≤ _; exact Nat.le_of_eq rfl) (hb hby d2_18) (fun _ _ => ⟨rfl, e3, (by decide : 1 + 1 ≤ _), (by decide : 4 + 1 ≤ _)⟩)
  dsimp only [Pt.U, Pt.locs, Pt.cells, Pt.slots] at X4 l4 y4 z4 st4 hQ4
  subst l4 y4 z4
  obtain ⟨t4, kb4, rfl, N4q, K4q, gt4, va4⟩ := hQ4
  have N4 := Fr.app N2 N4q
  refine Go.via st4 ?_
  have Zs4 : n0 ≤ T4.heap.size := Nat.le_trans Zs3 K4q.1
  have O4 : Old Z n0 T4.heap := O3.keep K4q all0
  have K4 : Keep h0 T4.heap [] := K3.trans K4q all0
  have fE_b3_4 := A3.keep K4q
  have fF_b3_value_4 := F_value_b3.keep K4q nin0
  have fF_b3_coder_4 := F_coder_b3.keep K4q nin0
  have g_t4 : n0 ≤ t4 := Nat.le_trans Zs3 gt4
  have ne_b3_t4 : b3 ≠ t4 := Nat.ne_of_lt (Nat.lt_of_lt_of_le A3.lt gt4)
  have sz_t4 : h0.size ≤ t4 := Nat.le_trans K3.1 gt4
  show Go p e below _ (T4.setTop (mkF m 21 #[.val (.int ch)] [(.ref t4), (.ref b3), (.ref b3)]))
  refine Go.via (fun _ => XS.iconst X4.here hx rfl (hb hby d2_21)) ?_
  show Go p e below _ (T4.setTop (mkF m 22 #[.val (.int ch)] [(.int (0 : Int32)), (.ref t4), (.ref b3), (.ref b3)]))
  obtain ⟨_, _, ⟨T5, L5, k5, n5⟩, -, X5, ⟨Lc5, hQ5, l5, y5, z5⟩, st5⟩ := X4.specialBack hx (y := (⟨"java/lang/String", "<init>", "([BB)V"⟩ : MethodName)) rfl hown (mvT hZ (hw _ (List.mem_of_getElem? (i := 20) rfl))) (mvT hZ (hw _ (List.mem_of_getElem? (i := 21) rfl))) (mvT hZ (hw _ (List.mem_of_getElem? (i := 23) rfl))) (by decide) (backOf (W := 1) (rmIB_0 l Z a0 hw [] b3 t4 T4.heap n0 Zs4 fE_b3_4 fF_b3_value_4 fF_b3_coder_4 g_b3) hZ (hw _ (List.mem_of_getElem? (i := 23) rfl)) (hw _ (List.mem_of_getElem? (i := 7) rfl)) (by decide) (by decide)) (g := (mkF m 22 #[.val (.int ch)] [(.int (0 : Int32)), (.ref t4), (.ref b3), (.ref b3)])) rfl (by rw [hml]; rfl) (Steps.refl _) (a := b3) (argsL := [(.ref t4), (.int (0 : Int32))]) (rest := [(.ref b3)]) (lenOf pd_3 rfl) rfl (by show 2 * 0 + _ ≤ _; exact Nat.le_of_eq rfl) (hb hby d2_22) (fun _ _ => ⟨rfl, rfl, (by decide : 2 + 0 ≤ _), (by decide : 5 + 0 ≤ _)⟩)
  dsimp only [Pt.U, Pt.locs, Pt.cells, Pt.slots] at X5 l5 y5 z5 st5 hQ5
  subst l5 y5 z5
  obtain ⟨rfl, N5q, K5q, fv5, fc5⟩ := hQ5
  have N5 := Fr.app N4 N5q
  refine Go.tr st5 ?_
  have Zs5 : n0 ≤ T5.heap.size := Nat.le_trans Zs4 K5q.1
  have O5 : Old Z n0 T5.heap := O4.keep K5q (allS g_b3 all0)
  have K5 : Keep h0 T5.heap [] := K4.trans K5q (allS (Or.inr sz_b3) all0)
  have fE_b3_5 := fE_b3_4.keep K5q
  have fV_t4_5 := va4.keep K5q (ninS (Ne.symm ne_b3_t4) nin0)
  show Go p e below _ (T5.setTop (mkF m 25 #[.val (.int ch)] [(.ref b3)]))
  exact own_retA X5 hx hlk Bd.returns rfl rfl (hb hby d2_25) (by show QVO_1 Z ch ccs vF h0 n0 _ T5.heap _; exact ⟨b3, t4, kb4, rfl, N5, K5, sz_b3, sz_t4, ne_b3_t4, fE_b3_5, fv5, fc5, fV_t4_5⟩) (by decide) (by decide)
theorem ef_rmVO_0 (m : MethodId) (x0 : Int32) : entryFrame m #[(.int x0)] 1 = mkF m 0 #[.val (.int x0)] [] := by first | (simp [entryFrame, mkF, argsToLocals, Value.category]; done) | rfl
def QVO_0 (Z : State) (ch : Int32) (ccs : Int32) (vF : Value) (h0 : Heap) (n0 : Nat) (v : Option Value) (h : Heap) (L : List Loc) : Prop := ∃ (a t : Addr) (kb : ClassId), v = some (.ref a) ∧ Fr n0 L ∧ Keep h0 h [] ∧ h0.size ≤ a ∧ h0.size ≤ t ∧ a ≠ t ∧ Exa Z h a "java/lang/String" ∧ Fld Z h a "java/lang/String" "value" "[B" (.ref t) ∧ Fld Z h a "java/lang/String" "coder" "B" (.int (1 : Int32)) ∧ Arv Z h t kb .byte (2 : Int32) [(.int (nar .byte ((ch >>> ((0 : Int32) &&& 31)).toInt8.toInt32))), (.int (nar .byte ((ch >>> ((8 : Int32) &&& 31)).toInt8.toInt32)))] (.int (0 : Int32))
set_option maxRecDepth 65536 in
set_option maxHeartbeats 40000000 in
theorem rmVO_0 (l : Launch) (Z : State) (a0 : Array Value) (hw : ∀ d ∈ tables_1, d.before a0 Z = true) (ws : List Jvm.Cond) (ch : Int32) (ccs : Int32) (vF : Value) (h0 : Heap) (n0 : Nat) (Z0 : n0 ≤ h0.size) (O0 : Old Z n0 h0) (S_CS : Sta Z Z.heap "java/lang/String" "COMPACT_STRINGS" "Z" (.int ccs)) (hcs : ¬ (ccs = (0 : Int32))) (S_AD : Sta Z Z.heap "java/lang/StringUTF16" "$assertionsDisabled" "Z" (.int (1 : Int32))) (S_HI : Sta Z Z.heap "java/lang/StringUTF16" "HI_BYTE_SHIFT" "I" (.int (0 : Int32))) (S_LO : Sta Z Z.heap "java/lang/StringUTF16" "LO_BYTE_SHIFT" "I" (.int (8 : Int32))) (S_SF : Sta Z Z.heap "jdk/internal/util/Preconditions" "SIOOBE_FORMATTER" "Ljava/util/function/BiFunction;" vF) (rF : vF.isRef = true) (hl : (255 : Int32) < ch) :
    MetFree l (⟨"java/lang/String", "valueOf", "(C)Ljava/lang/String;"⟩ : MethodName) (head1 (Jvm.Cond.code (⟨"java/lang/String", "valueOf", "(C)Ljava/lang/String;"⟩ : MethodName) jdk_42_method_139_code 1 (some (.object "java/lang/String")) :: ws) ({ frames := 2, cells := 2, slots := 6, locals := 29 } : Room)) (fun a U => a = #[(.int ch)] ∧ Z.Warmed39 U.vm ∧ U.heap = h0) (fun _ _ _ _ _ => True) (fun _ U o U' => ∃ v L, o = .returned v ∧ QVO_0 Z ch ccs vF h0 n0 v U'.heap L ∧ FrameEnd U o U' L ({ frames := 2, cells := 2, slots := 6, locals := 29 } : Room).cells ({ frames := 2, cells := 2, slots := 6, locals := 29 } : Room).slots) := by
  refine MetFree.of_bodySF (plainFor_of_name pn_java_lang_String) hisR ?_
  intro p e s m args below meth c s₁ Bd hml0 hP hK
  obtain ⟨rfl, hZ, hh⟩ := hP
  have hx := Bd.exec
  have hby := Bd.bytes
  have hlk : meth.locks = false := Bd.notSynchronized
  have hml : c.maxLocals = 1 := hml0
  have hown : s.vm.findClass "java/lang/String" = some m.cls := findClass_of_methodNamed Bd.named
  have hnm := (name_of_methodNamed Bd.named Bd.method).1
  have X0 : Stand p l e ({ frames := 2, cells := 2, slots := 6, locals := 29 } : Room) s m #[(.int ch)] below meth c s₁ [] 0 0 := Stand.of_body Bd
  have e0 : s₁.heap = h0 := by rw [← hh, Bd.state]; rfl
  have N0 := Fr.nil n0
  show Go p e below (FinE s below (QVO_0 Z ch ccs vF h0 n0) ({ frames := 2, cells := 2, slots := 6, locals := 29 } : Room).cells ({ frames := 2, cells := 2, slots := 6, locals := 29 } : Room).slots) (s₁.setTop (entryFrame m #[(.int ch)] 1))
  refine Go.via (fun t k => castTop (ef_rmVO_0 m ch) k) ?_
  show Go p e below _ (s₁.setTop (mkF m 0 #[.val (.int ch)] []))
  obtain ⟨T1, X1, e1, st1⟩ := getS2 X0 hx hZ hown (host := "") (Or.inl (hw _ (List.mem_of_getElem? (i := 9) rfl))) Via.refl e0 (S_CS.ext O0.2) (g := (mkF m 0 #[.val (.int ch)] [])) rfl (hb hby d2_0)
  refine Go.via st1 ?_
  show Go p e below _ (T1.setTop (mkF m 3 #[.val (.int ch)] [(.int ccs)]))
  refine Go.via (fun _ => XS.ifNo X1.here hx rfl (hb hby d2_3) rfl ((if0 _ _).trans (feq hcs).1)) ?_
  show Go p e below _ (T1.setTop (mkF m 6 #[.val (.int ch)] []))
  refine Go.via (fun _ => XS.iloadN X1.here hx rfl (hb hby d2_6) rfl) ?_
  show Go p e below _ (T1.setTop (mkF m 7 #[.val (.int ch)] [(.int ch)]))
  obtain ⟨_, _, ⟨T2, L2, k2, n2⟩, -, X2, ⟨Lc2, hQ2, l2, y2, z2⟩, st2⟩ := Jvm.LawKit.callS X1 hx (y := (⟨"java/lang/StringLatin1", "canEncode", "(C)Z"⟩ : MethodName)) hown (mvT hZ (hw _ (List.mem_of_getElem? (i := 10) rfl))) (mvT hZ (hw _ (List.mem_of_getElem? (i := 11) rfl))) (mvT hZ (hw _ (List.mem_of_getElem? (i := 12) rfl))) (mvT hZ (hw _ (List.mem_of_getElem? (i := 13) rfl))) (by decide) (backOf (W := 0) (rmCanC_0 l Z a0 hw [] ch h0 n0 Z0 hl) hZ (hw _ (List.mem_of_getElem? (i := 13) rfl)) (hw _ (List.mem_of_getElem? (i := 12) rfl)) (by decide) (by decide)) (g := (mkF m 7 #[.val (.int ch)] [(.int ch)])) rfl (by rw [hml]; rfl) (argsL := [(.int ch)]) (rest := []) (lenOf pd_1 rfl) rfl (by show 2 * 0 + _ ≤ _; exact Nat.le_of_eq rfl) (hb hby d2_7) (fun _ _ => ⟨rfl, e1, (by decide : 0 + 0 ≤ _), (by decide : 0 + 0 ≤ _)⟩)
  dsimp only [Pt.U, Pt.locs, Pt.cells, Pt.slots] at X2 l2 y2 z2 st2 hQ2
  subst l2 y2 z2
  obtain ⟨rfl, N2q, e2q⟩ := hQ2
  have N2 := Fr.app N0 N2q
  refine Go.via st2 ?_
  show Go p e below _ (T2.setTop (mkF m 10 #[.val (.int ch)] [(.int (0 : Int32))]))
  refine Go.via (fun _ => XS.ifYes X2.here hx rfl (pc0 := 10) (pc' := 26) rfl (hb hby d2_10) rfl (by decide) (by decide) (by decide)) ?_
  show Go p e below _ (T2.setTop (mkF m 26 #[.val (.int ch)] []))
  obtain ⟨T3, h3, X3, e3, E3, A3, D3, -, st3⟩ := newO X2 hx hZ hown (hw _ (List.mem_of_getElem? (i := 14) rfl)) (hw _ (List.mem_of_getElem? (i := 15) rfl)) (hw _ (List.mem_of_getElem? (i := 7) rfl)) e2q (g := (mkF m 26 #[.val (.int ch)] [])) rfl (hb hby d2_26) (by decide) (by decide)
  obtain ⟨b3, g3⟩ : ∃ z, z = h0.size := ⟨_, rfl⟩
  rw [← g3] at A3 D3 st3
  have g_b3 : n0 ≤ b3 := Nat.le_trans Z0 (Nat.le_of_eq g3.symm)
  have sz_b3 : h0.size ≤ b3 := Nat.le_trans (Keep.refl h0 []).1 (Nat.le_of_eq g3.symm)
  refine Go.via st3 ?_
  have Zs3 : n0 ≤ h3.size := Nat.le_trans Z0 E3.1
  have O3 : Old Z n0 h3 := O0.ext E3
  have K3 : Keep h0 h3 [] := (Keep.refl h0 []).ext E3
  have F_value_b3 : Fld Z h3 b3 "java/lang/String" "value" "[B" .null := D3 (Or.inr (hw _ (List.mem_of_getElem? (i := 28) rfl))) (ty := (.array .byte)) (by decide)
  have F_coder_b3 : Fld Z h3 b3 "java/lang/String" "coder" "B" (.int (0 : Int32)) := D3 (Or.inr (hw _ (List.mem_of_getElem? (i := 30) rfl))) (ty := .byte) (by decide)
  show Go p e below _ (T3.setTop (mkF m 29 #[.val (.int ch)] [(.ref b3)]))
  refine Go.via (fun _ => XS.dup X3.here hx rfl (hb hby d2_29) rfl rfl) ?_
  show Go p e below _ (T3.setTop (mkF m 30 #[.val (.int ch)] [(.ref b3), (.ref b3)]))
  refine Go.via (fun _ => XS.iloadN X3.here hx rfl (hb hby d2_30) rfl) ?_
  show Go p e below _ (T3.setTop (mkF m 31 #[.val (.int ch)] [(.int ch), (.ref b3), (.ref b3)]))
  obtain ⟨_, _, ⟨T4, L4, k4, n4⟩, -, X4, ⟨Lc4, hQ4, l4, y4, z4⟩, st4⟩ := Jvm.LawKit.callS X3 hx (y := (⟨"java/lang/StringUTF16", "toBytes", "(C)[B"⟩ : MethodName)) hown (mvT hZ (hw _ (List.mem_of_getElem? (i := 92) rfl))) (mvT hZ (hw _ (List.mem_of_getElem? (i := 93) rfl))) (mvT hZ (hw _ (List.mem_of_getElem? (i := 94) rfl))) (mvT hZ (hw _ (List.mem_of_getElem? (i := 95) rfl))) (by decide) (backOf (W := 2) (rmTB_0 l Z a0 hw [] ch ccs vF h3 n0 Zs3 O3 S_CS hcs S_AD S_HI S_LO S_SF rF) hZ (hw _ (List.mem_of_getElem? (i := 95) rfl)) (hw _ (List.mem_of_getElem? (i := 94) rfl)) (by decide) (by decide)) (g := (mkF m 31 #[.val (.int ch)] [(.int ch), (.ref b3), (.ref b3)])) rfl (by rw [hml]; rfl) (argsL := [(.int ch)]) (rest := [(.ref b3), (.ref b3)]) (lenOf pd_2 rfl) rfl (by show 2 * 0 + _ ≤ _; exact Nat.le_of_eq rfl) (hb hby d2_31) (fun _ _ => ⟨rfl, e3, (by decide : 1 + 1 ≤ _), (by decide : 4 + 2 ≤ _)⟩)
  dsimp only [Pt.U, Pt.locs, Pt.cells, Pt.slots] at X4 l4 y4 z4 st4 hQ4
  subst l4 y4 z4
  obtain ⟨t4, kb4, rfl, N4q, K4q, gt4, va4⟩ := hQ4
  have N4 := Fr.app N2 N4q
  refine Go.via st4 ?_
  have Zs4 : n0 ≤ T4.heap.size := Nat.le_trans Zs3 K4q.1
  have O4 : Old Z n0 T4.heap := O3.keep K4q all0
  have K4 : Keep h0 T4.heap [] := K3.trans K4q all0
  have fE_b3_4 := A3.keep K4q
  have fF_b3_value_4 := F_value_b3.keep K4q nin0
  have fF_b3_coder_4 := F_coder_b3.keep K4q nin0
  have g_t4 : n0 ≤ t4 := Nat.le_trans Zs3 gt4
  have ne_b3_t4 : b3 ≠ t4 := Nat.ne_of_lt (Nat.lt_of_lt_of_le A3.lt gt4)
  have sz_t4 : h0.size ≤ t4 := Nat.le_trans K3.1 gt4
  show Go p e below _ (T4.setTop (mkF m 34 #[.val (.int ch)] [(.ref t4), (.ref b3), (.ref b3)]))
  refine Go.via (fun _ => XS.iconst X4.here hx rfl (hb hby d2_34)) ?_
  show Go p e below _ (T4.setTop (mkF m 35 #[.val (.int ch)] [(.int (1 : Int32)), (.ref t4), (.ref b3), (.ref b3)]))
  obtain ⟨_, _, ⟨T5, L5, k5, n5⟩, -, X5, ⟨Lc5, hQ5, l5, y5, z5⟩, st5⟩ := X4.specialBack hx (y := (⟨"java/lang/String", "<init>", "([BB)V"⟩ : MethodName)) rfl hown (mvT hZ (hw _ (List.mem_of_getElem? (i := 20) rfl))) (mvT hZ (hw _ (List.mem_of_getElem? (i := 21) rfl))) (mvT hZ (hw _ (List.mem_of_getElem? (i := 23) rfl))) (by decide) (backOf (W := 1) (rmIB_1 l Z a0 hw [] b3 t4 T4.heap n0 Zs4 fE_b3_4 fF_b3_value_4 fF_b3_coder_4 g_b3) hZ (hw _ (List.mem_of_getElem? (i := 23) rfl)) (hw _ (List.mem_of_getElem? (i := 7) rfl)) (by decide) (by decide)) (g := (mkF m 35 #[.val (.int ch)] [(.int (1 : Int32)), (.ref t4), (.ref b3), (.ref b3)])) rfl (by rw [hml]; rfl) (Steps.refl _) (a := b3) (argsL := [(.ref t4), (.int (1 : Int32))]) (rest := [(.ref b3)]) (lenOf pd_3 rfl) rfl (by show 2 * 0 + _ ≤ _; exact Nat.le_of_eq rfl) (hb hby d2_35) (fun _ _ => ⟨rfl, rfl, (by decide : 2 + 0 ≤ _), (by decide : 6 + 0 ≤ _)⟩)
  dsimp only [Pt.U, Pt.locs, Pt.cells, Pt.slots] at X5 l5 y5 z5 st5 hQ5
  subst l5 y5 z5
  obtain ⟨rfl, N5q, K5q, fv5, fc5⟩ := hQ5
  have N5 := Fr.app N4 N5q
  refine Go.tr st5 ?_
  have Zs5 : n0 ≤ T5.heap.size := Nat.le_trans Zs4 K5q.1
  have O5 : Old Z n0 T5.heap := O4.keep K5q (allS g_b3 all0)
  have K5 : Keep h0 T5.heap [] := K4.trans K5q (allS (Or.inr sz_b3) all0)
  have fE_b3_5 := fE_b3_4.keep K5q
  have fV_t4_5 := va4.keep K5q (ninS (Ne.symm ne_b3_t4) nin0)
  show Go p e below _ (T5.setTop (mkF m 38 #[.val (.int ch)] [(.ref b3)]))
  exact own_retA X5 hx hlk Bd.returns rfl rfl (hb hby d2_38) (by show QVO_0 Z ch ccs vF h0 n0 _ T5.heap _; exact ⟨b3, t4, kb4, rfl, N5, K5, sz_b3, sz_t4, ne_b3_t4, fE_b3_5, fv5, fc5, fV_t4_5⟩) (by decide) (by decide)
theorem ef_rmOI_10 (m : MethodId) (x0 : Addr) (x1 : Addr) : entryFrame m #[(.ref x0), (.ref x1), (.int (10 : Int32))] 3 = mkF m 0 #[.val (.ref x0), .val (.ref x1), .val (.int (10 : Int32))] [] := by first | (simp [entryFrame, mkF, argsToLocals, Value.category]; done) | rfl
def QOI_10 (Z : State) (o1 : Addr) (a1 : Addr) (h0 : Heap) (n0 : Nat) (v : Option Value) (h : Heap) (L : List Loc) : Prop := v = none ∧ Fr n0 L ∧ Keep h0 h [o1] ∧ Fld Z h o1 "com/example/dogwood/dogwood/model/yaml/Occurrences" "from" "I" (.int (2147483647 : Int32)) ∧ Fld Z h o1 "com/example/dogwood/dogwood/model/yaml/Occurrences" "found" "I" (.int (-1 : Int32)) ∧ Fld Z h o1 "com/example/dogwood/dogwood/model/yaml/Occurrences" "text" "Ljava/lang/String;" (.ref a1) ∧ Fld Z h o1 "com/example/dogwood/dogwood/model/yaml/Occurrences" "c" "C" (.int (10 : Int32))
set_option maxRecDepth 65536 in
set_option maxHeartbeats 40000000 in
theorem rmOI_10 (l : Launch) (Z : State) (a0 : Array Value) (hw : ∀ d ∈ tables_1, d.before a0 Z = true) (ws : List Jvm.Cond) (o1 : Addr) (a1 : Addr) (h0 : Heap) (n0 : Nat) (Z0 : n0 ≤ h0.size) (E1 : Exa Z h0 o1 "com/example/dogwood/dogwood/model/yaml/Occurrences") (F_from : Fld Z h0 o1 "com/example/dogwood/dogwood/model/yaml/Occurrences" "from" "I" (.int (0 : Int32))) (F_found : Fld Z h0 o1 "com/example/dogwood/dogwood/model/yaml/Occurrences" "found" "I" (.int (0 : Int32))) (F_text : Fld Z h0 o1 "com/example/dogwood/dogwood/model/yaml/Occurrences" "text" "Ljava/lang/String;" .null) (F_c : Fld Z h0 o1 "com/example/dogwood/dogwood/model/yaml/Occurrences" "c" "C" (.int (0 : Int32))) (g1 : n0 ≤ o1) :
    MetFree l (⟨"com/example/dogwood/dogwood/model/yaml/Occurrences", "<init>", "(Ljava/lang/String;C)V"⟩ : MethodName) (head1 (Jvm.Cond.code (⟨"com/example/dogwood/dogwood/model/yaml/Occurrences", "<init>", "(Ljava/lang/String;C)V"⟩ : MethodName) prog_19_method_1_code 3 none :: ws) ({ frames := 1, cells := 0, slots := 0, locals := 12 } : Room)) (fun a U => a = #[(.ref o1), (.ref a1), (.int (10 : Int32))] ∧ Z.Warmed39 U.vm ∧ U.heap = h0) (fun _ _ _ _ _ => True) (fun _ U o U' => ∃ v L, o = .returned v ∧ QOI_10 Z o1 a1 h0 n0 v U'.heap L ∧ FrameEnd U o U' L ({ frames := 1, cells := 0, slots := 0, locals := 12 } : Room).cells ({ frames := 1, cells := 0, slots := 0, locals := 12 } : Room).slots) := by
  refine MetFree.of_bodySF (plainFor_of_name pn_com_example_dogwood_dogwood_model_yaml_Occurrences) hisR ?_
  intro p e s m args below meth c s₁ Bd hml0 hP hK
  obtain ⟨rfl, hZ, hh⟩ := hP
  have hx := Bd.exec
  have hby := Bd.bytes
  have hlk : meth.locks = false := Bd.notSynchronized
  have hml : c.maxLocals = 3 := hml0
  have hown : s.vm.findClass "com/example/dogwood/dogwood/model/yaml/Occurrences" = some m.cls := findClass_of_methodNamed Bd.named
  have hnm := (name_of_methodNamed Bd.named Bd.method).1
  have X0 : Stand p l e ({ frames := 1, cells := 0, slots := 0, locals := 12 } : Room) s m #[(.ref o1), (.ref a1), (.int (10 : Int32))] below meth c s₁ [] 0 0 := Stand.of_body Bd
  have e0 : s₁.heap = h0 := by rw [← hh, Bd.state]; rfl
  have N0 := Fr.nil n0
  show Go p e below (FinE s below (QOI_10 Z o1 a1 h0 n0) ({ frames := 1, cells := 0, slots := 0, locals := 12 } : Room).cells ({ frames := 1, cells := 0, slots := 0, locals := 12 } : Room).slots) (s₁.setTop (entryFrame m #[(.ref o1), (.ref a1), (.int (10 : Int32))] 3))
  refine Go.via (fun t k => castTop (ef_rmOI_10 m o1 a1) k) ?_
  show Go p e below _ (s₁.setTop (mkF m 0 #[.val (.ref o1), .val (.ref a1), .val (.int (10 : Int32))] []))
  refine Go.via (fun _ => XS.aloadN X0.here hx rfl (hb hby d7_0) rfl rfl) ?_
  show Go p e below _ (s₁.setTop (mkF m 1 #[.val (.ref o1), .val (.ref a1), .val (.int (10 : Int32))] [(.ref o1)]))
  obtain ⟨T1, X1, e1, st1⟩ := initO X0 hx hZ hown (hw _ (List.mem_of_getElem? (i := 37) rfl)) (hw _ (List.mem_of_getElem? (i := 25) rfl)) (hw _ (List.mem_of_getElem? (i := 26) rfl)) e0 (g := (mkF m 1 #[.val (.ref o1), .val (.ref a1), .val (.int (10 : Int32))] [(.ref o1)])) rfl (by rw [hml]; rfl) rfl (hb hby d7_1) (by decide) (W := 0) (by show 2 * 0 + _ ≤ _; exact Nat.le_of_eq rfl) (by decide)
  refine Go.via st1 ?_
  show Go p e below _ (T1.setTop (mkF m 4 #[.val (.ref o1), .val (.ref a1), .val (.int (10 : Int32))] []))
  refine Go.via (fun _ => XS.aloadN X1.here hx rfl (hb hby d7_4) rfl rfl) ?_
  show Go p e below _ (T1.setTop (mkF m 5 #[.val (.ref o1), .val (.ref a1), .val (.int (10 : Int32))] [(.ref o1)]))
  refine Go.via (X1.ldcInt hx hown (mvT hZ (hw _ (List.mem_of_getElem? (i := 38) rfl))) (g := (mkF m 5 #[.val (.ref o1), .val (.ref a1), .val (.int (10 : Int32))] [(.ref o1)])) rfl (hb hby d7_5)) ?_
  show Go p e below _ (T1.setTop (mkF m 7 #[.val (.ref o1), .val (.ref a1), .val (.int (10 : Int32))] [(.int (2147483647 : Int32)), (.ref o1)]))
  obtain ⟨T2, h2, X2, e2, W2, st2⟩ := putF X1 hx hZ hown (host := "") (Or.inl (hw _ (List.mem_of_getElem? (i := 39) rfl))) Via.refl e1 F_from E1 (Or.inl (hw _ (List.mem_of_getElem? (i := 40) rfl))) (hw _ (List.mem_of_getElem? (i := 32) rfl)) (ty := .int) (by decide) rfl rfl (g := (mkF m 7 #[.val (.ref o1), .val (.ref a1), .val (.int (10 : Int32))] [(.int (2147483647 : Int32)), (.ref o1)])) rfl rfl (hb hby d7_7)
  refine Go.via st2 ?_
  have fF_o1_from_2 : Fld Z h2 o1 "com/example/dogwood/dogwood/model/yaml/Occurrences" "from" "I" (.int (2147483647 : Int32)) := F_from.same W2
  have Zs2 : n0 ≤ h2.size := Nat.le_trans Z0 (Keep.of_wr W2).1
  have K2 : Keep h0 h2 [o1] := (Keep.refl h0 [o1]).wr W2 (Or.inl (List.mem_of_getElem? (i := 0) rfl))
  have N2 := Fr.snoc X2 N0 g1
  have fE_o1_2 := E1.wr W2
  have fF_o1_found_2 := F_found.other W2 (Or.inr (slot_ne (Or.inl (hw _ (List.mem_of_getElem? (i := 42) rfl))) (Or.inl (hw _ (List.mem_of_getElem? (i := 40) rfl))) (by decide) (t := .int) (t' := .int) (by decide) (by decide)))
  have fF_o1_text_2 := F_text.other W2 (Or.inr (slot_ne (Or.inr (hw _ (List.mem_of_getElem? (i := 44) rfl))) (Or.inl (hw _ (List.mem_of_getElem? (i := 40) rfl))) (by decide) (t := (.object "java/lang/String")) (t' := .int) (by decide) (by decide)))
  have fF_o1_c_2 := F_c.other W2 (Or.inr (slot_ne (Or.inr (hw _ (List.mem_of_getElem? (i := 46) rfl))) (Or.inl (hw _ (List.mem_of_getElem? (i := 40) rfl))) (by decide) (t := .char) (t' := .int) (by decide) (by decide)))
  show Go p e below _ (T2.setTop (mkF m 10 #[.val (.ref o1), .val (.ref a1), .val (.int (10 : Int32))] []))
  refine Go.via (fun _ => XS.aloadN X2.here hx rfl (hb hby d7_10) rfl rfl) ?_
  show Go p e below _ (T2.setTop (mkF m 11 #[.val (.ref o1), .val (.ref a1), .val (.int (10 : Int32))] [(.ref o1)]))
  refine Go.via (fun _ => XS.iconst X2.here hx rfl (hb hby d7_11)) ?_
  show Go p e below _ (T2.setTop (mkF m 12 #[.val (.ref o1), .val (.ref a1), .val (.int (10 : Int32))] [(.int (-1 : Int32)), (.ref o1)]))
  obtain ⟨T3, h3, X3, e3, W3, st3⟩ := putF X2 hx hZ hown (host := "") (Or.inl (hw _ (List.mem_of_getElem? (i := 41) rfl))) Via.refl e2 fF_o1_found_2 fE_o1_2 (Or.inl (hw _ (List.mem_of_getElem? (i := 42) rfl))) (hw _ (List.mem_of_getElem? (i := 32) rfl)) (ty := .int) (by decide) rfl rfl (g := (mkF m 12 #[.val (.ref o1), .val (.ref a1), .val (.int (10 : Int32))] [(.int (-1 : Int32)), (.ref o1)])) rfl rfl (hb hby d7_12)
  refine Go.via st3 ?_
  have fF_o1_found_3 : Fld Z h3 o1 "com/example/dogwood/dogwood/model/yaml/Occurrences" "found" "I" (.int (-1 : Int32)) := fF_o1_found_2.same W3
  have Zs3 : n0 ≤ h3.size := Nat.le_trans Zs2 (Keep.of_wr W3).1
  have K3 : Keep h0 h3 [o1] := K2.wr W3 (Or.inl (List.mem_of_getElem? (i := 0) rfl))
  have N3 := Fr.snoc X3 N2 g1
  have fE_o1_3 := fE_o1_2.wr W3
  have fF_o1_from_3 := fF_o1_from_2.other W3 (Or.inr (slot_ne (Or.inl (hw _ (List.mem_of_getElem? (i := 40) rfl))) (Or.inl (hw _ (List.mem_of_getElem? (i := 42) rfl))) (by decide) (t := .int) (t' := .int) (by decide) (by decide)))
  have fF_o1_text_3 := fF_o1_text_2.other W3 (Or.inr (slot_ne (Or.inr (hw _ (List.mem_of_getElem? (i := 44) rfl))) (Or.inl (hw _ (List.mem_of_getElem? (i := 42) rfl))) (by decide) (t := (.object "java/lang/String")) (t' := .int) (by decide) (by decide)))
  have fF_o1_c_3 := fF_o1_c_2.other W3 (Or.inr (slot_ne (Or.inr (hw _ (List.mem_of_getElem? (i := 46) rfl))) (Or.inl (hw _ (List.mem_of_getElem? (i := 42) rfl))) (by decide) (t := .char) (t' := .int) (by decide) (by decide)))
  show Go p e below _ (T3.setTop (mkF m 15 #[.val (.ref o1), .val (.ref a1), .val (.int (10 : Int32))] []))
  refine Go.via (fun _ => XS.aloadN X3.here hx rfl (hb hby d7_15) rfl rfl) ?_
  show Go p e below _ (T3.setTop (mkF m 16 #[.val (.ref o1), .val (.ref a1), .val (.int (10 : Int32))] [(.ref o1)]))
  refine Go.via (fun _ => XS.aloadN X3.here hx rfl (hb hby d7_16) rfl rfl) ?_
  show Go p e below _ (T3.setTop (mkF m 17 #[.val (.ref o1), .val (.ref a1), .val (.int (10 : Int32))] [(.ref a1), (.ref o1)]))
  obtain ⟨T4, h4, X4, e4, W4, st4⟩ := putF X3 hx hZ hown (host := "") (Or.inl (hw _ (List.mem_of_getElem? (i := 43) rfl))) Via.refl e3 fF_o1_text_3 fE_o1_3 (Or.inr ⟨(hw _ (List.mem_of_getElem? (i := 44) rfl)), rfl, hnm⟩) (hw _ (List.mem_of_getElem? (i := 32) rfl)) (ty := (.object "java/lang/String")) (by decide) rfl rfl (g := (mkF m 17 #[.val (.ref o1), .val (.ref a1), .val (.int (10 : Int32))] [(.ref a1), (.ref o1)])) rfl rfl (hb hby d7_17)
  refine Go.via st4 ?_
  have fF_o1_text_4 : Fld Z h4 o1 "com/example/dogwood/dogwood/model/yaml/Occurrences" "text" "Ljava/lang/String;" (.ref a1) := fF_o1_text_3.same W4
  have Zs4 : n0 ≤ h4.size := Nat.le_trans Zs3 (Keep.of_wr W4).1
  have K4 : Keep h0 h4 [o1] := K3.wr W4 (Or.inl (List.mem_of_getElem? (i := 0) rfl))
  have N4 := Fr.snoc X4 N3 g1
  have fE_o1_4 := fE_o1_3.wr W4
  have fF_o1_from_4 := fF_o1_from_3.other W4 (Or.inr (slot_ne (Or.inl (hw _ (List.mem_of_getElem? (i := 40) rfl))) (Or.inr (hw _ (List.mem_of_getElem? (i := 44) rfl))) (by decide) (t := .int) (t' := (.object "java/lang/String")) (by decide) (by decide)))
  have fF_o1_found_4 := fF_o1_found_3.other W4 (Or.inr (slot_ne (Or.inl (hw _ (List.mem_of_getElem? (i := 42) rfl))) (Or.inr (hw _ (List.mem_of_getElem? (i := 44) rfl))) (by decide) (t := .int) (t' := (.object "java/lang/String")) (by decide) (by decide)))
  have fF_o1_c_4 := fF_o1_c_3.other W4 (Or.inr (slot_ne (Or.inr (hw _ (List.mem_of_getElem? (i := 46) rfl))) (Or.inr (hw _ (List.mem_of_getElem? (i := 44) rfl))) (by decide) (t := .char) (t' := (.object "java/lang/String")) (by decide) (by decide)))
  show Go p e below _ (T4.setTop (mkF m 20 #[.val (.ref o1), .val (.ref a1), .val (.int (10 : Int32))] []))
  refine Go.via (fun _ => XS.aloadN X4.here hx rfl (hb hby d7_20) rfl rfl) ?_
  show Go p e below _ (T4.setTop (mkF m 21 #[.val (.ref o1), .val (.ref a1), .val (.int (10 : Int32))] [(.ref o1)]))
  refine Go.via (fun _ => XS.iloadN X4.here hx rfl (hb hby d7_21) rfl) ?_
  show Go p e below _ (T4.setTop (mkF m 22 #[.val (.ref o1), .val (.ref a1), .val (.int (10 : Int32))] [(.int (10 : Int32)), (.ref o1)]))
  obtain ⟨T5, h5, X5, e5, W5, st5⟩ := putFN X4 hx hZ hown (hw _ (List.mem_of_getElem? (i := 45) rfl)) Via.refl e4 fF_o1_c_4 fE_o1_4 (Or.inr ⟨(hw _ (List.mem_of_getElem? (i := 46) rfl)), rfl, hnm⟩) (hw _ (List.mem_of_getElem? (i := 32) rfl)) (ty := .char) (v' := .int (nar .char (10 : Int32))) (by decide) rfl (fits_nar_char _) (g := (mkF m 22 #[.val (.ref o1), .val (.ref a1), .val (.int (10 : Int32))] [(.int (10 : Int32)), (.ref o1)])) rfl rfl (hb hby d7_22)
  refine Go.via st5 ?_
  have fF_o1_c_5 : Fld Z h5 o1 "com/example/dogwood/dogwood/model/yaml/Occurrences" "c" "C" (.int (10 : Int32)) := fF_o1_c_4.same W5
  have Zs5 : n0 ≤ h5.size := Nat.le_trans Zs4 (Keep.of_wr W5).1
  have K5 : Keep h0 h5 [o1] := K4.wr W5 (Or.inl (List.mem_of_getElem? (i := 0) rfl))
  have N5 := Fr.snoc X5 N4 g1
  have fE_o1_5 := fE_o1_4.wr W5
  have fF_o1_from_5 := fF_o1_from_4.other W5 (Or.inr (slot_ne (Or.inl (hw _ (List.mem_of_getElem? (i := 40) rfl))) (Or.inr (hw _ (List.mem_of_getElem? (i := 46) rfl))) (by decide) (t := .int) (t' := .char) (by decide) (by decide)))
  have fF_o1_found_5 := fF_o1_found_4.other W5 (Or.inr (slot_ne (Or.inl (hw _ (List.mem_of_getElem? (i := 42) rfl))) (Or.inr (hw _ (List.mem_of_getElem? (i := 46) rfl))) (by decide) (t := .int) (t' := .char) (by decide) (by decide)))
  have fF_o1_text_5 := fF_o1_text_4.other W5 (Or.inr (slot_ne (Or.inr (hw _ (List.mem_of_getElem? (i := 44) rfl))) (Or.inr (hw _ (List.mem_of_getElem? (i := 46) rfl))) (by decide) (t := (.object "java/lang/String")) (t' := .char) (by decide) (by decide)))
  show Go p e below _ (T5.setTop (mkF m 25 #[.val (.ref o1), .val (.ref a1), .val (.int (10 : Int32))] []))
  exact own_retV X5 hx hlk Bd.returns (hb hby d7_25) (by show QOI_10 Z o1 a1 h0 n0 _ T5.heap _; rw [e5]; exact ⟨rfl, N5, K5, fF_o1_from_5, fF_o1_found_5, fF_o1_text_5, fF_o1_c_5⟩) (by decide) (by decide)
theorem ef_rmOI_13 (m : MethodId) (x0 : Addr) (x1 : Addr) : entryFrame m #[(.ref x0), (.ref x1), (.int (13 : Int32))] 3 = mkF m 0 #[.val (.ref x0), .val (.ref x1), .val (.int (13 : Int32))] [] := by first | (simp [entryFrame, mkF, argsToLocals, Value.category]; done) | rfl
def QOI_13 (Z : State) (o1 : Addr) (a1 : Addr) (h0 : Heap) (n0 : Nat) (v : Option Value) (h : Heap) (L : List Loc) : Prop := v = none ∧ Fr n0 L ∧ Keep h0 h [o1] ∧ Fld Z h o1 "com/example/dogwood/dogwood/model/yaml/Occurrences" "from" "I" (.int (2147483647 : Int32)) ∧ Fld Z h o1 "com/example/dogwood/dogwood/model/yaml/Occurrences" "found" "I" (.int (-1 : Int32)) ∧ Fld Z h o1 "com/example/dogwood/dogwood/model/yaml/Occurrences" "text" "Ljava/lang/String;" (.ref a1) ∧ Fld Z h o1 "com/example/dogwood/dogwood/model/yaml/Occurrences" "c" "C" (.int (13 : Int32))
set_option maxRecDepth 65536 in
set_option maxHeartbeats 40000000 in
theorem rmOI_13 (l : Launch) (Z : State) (a0 : Array Value) (hw : ∀ d ∈ tables_1, d.before a0 Z = true) (ws : List Jvm.Cond) (o1 : Addr) (a1 : Addr) (h0 : Heap) (n0 : Nat) (Z0 : n0 ≤ h0.size) (E1 : Exa Z h0 o1 "com/example/dogwood/dogwood/model/yaml/Occurrences") (F_from : Fld Z h0 o1 "com/example/dogwood/dogwood/model/yaml/Occurrences" "from" "I" (.int (0 : Int32))) (F_found : Fld Z h0 o1 "com/example/dogwood/dogwood/model/yaml/Occurrences" "found" "I" (.int (0 : Int32))) (F_text : Fld Z h0 o1 "com/example/dogwood/dogwood/model/yaml/Occurrences" "text" "Ljava/lang/String;" .null) (F_c : Fld Z h0 o1 "com/example/dogwood/dogwood/model/yaml/Occurrences" "c" "C" (.int (0 : Int32))) (g1 : n0 ≤ o1) :
    MetFree l (⟨"com/example/dogwood/dogwood/model/yaml/Occurrences", "<init>", "(Ljava/lang/String;C)V"⟩ : MethodName) (head1 (Jvm.Cond.code (⟨"com/example/dogwood/dogwood/model/yaml/Occurrences", "<init>", "(Ljava/lang/String;C)V"⟩ : MethodName) prog_19_method_1_code 3 none :: ws) ({ frames := 1, cells := 0, slots := 0, locals := 12 } : Room)) (fun a U => a = #[(.ref o1), (.ref a1), (.int (13 : Int32))] ∧ Z.Warmed39 U.vm ∧ U.heap = h0) (fun _ _ _ _ _ => True) (fun _ U o U' => ∃ v L, o = .returned v ∧ QOI_13 Z o1 a1 h0 n0 v U'.heap L ∧ FrameEnd U o U' L ({ frames := 1, cells := 0, slots := 0, locals := 12 } : Room).cells ({ frames := 1, cells := 0, slots := 0, locals := 12 } : Room).slots) := by
  refine MetFree.of_bodySF (plainFor_of_name pn_com_example_dogwood_dogwood_model_yaml_Occurrences) hisR ?_
  intro p e s m args below meth c s₁ Bd hml0 hP hK
  obtain ⟨rfl, hZ, hh⟩ := hP
  have hx := Bd.exec
  have hby := Bd.bytes
  have hlk : meth.locks = false := Bd.notSynchronized
  have hml : c.maxLocals = 3 := hml0
  have hown : s.vm.findClass "com/example/dogwood/dogwood/model/yaml/Occurrences" = some m.cls := findClass_of_methodNamed Bd.named
  have hnm := (name_of_methodNamed Bd.named Bd.method).1
  have X0 : Stand p l e ({ frames := 1, cells := 0, slots := 0, locals := 12 } : Room) s m #[(.ref o1), (.ref a1), (.int (13 : Int32))] below meth c s₁ [] 0 0 := Stand.of_body Bd
  have e0 : s₁.heap = h0 := by rw [← hh, Bd.state]; rfl
  have N0 := Fr.nil n0
  show Go p e below (FinE s below (QOI_13 Z o1 a1 h0 n0) ({ frames := 1, cells := 0, slots := 0, locals := 12 } : Room).cells ({ frames := 1, cells := 0, slots := 0, locals := 12 } : Room).slots) (s₁.setTop (entryFrame m #[(.ref o1), (.ref a1), (.int (13 : Int32))] 3))
  refine Go.via (fun t k => castTop (ef_rmOI_13 m o1 a1) k) ?_
  show Go p e below _ (s₁.setTop (mkF m 0 #[.val (.ref o1), .val (.ref a1), .val (.int (13 : Int32))] []))
  refine Go.via (fun _ => XS.aloadN X0.here hx rfl (hb hby d7_0) rfl rfl) ?_
  show Go p e below _ (s₁.setTop (mkF m 1 #[.val (.ref o1), .val (.ref a1), .val (.int (13 : Int32))] [(.ref o1)]))
  obtain ⟨T1, X1, e1, st1⟩ := initO X0 hx hZ hown (hw _ (List.mem_of_getElem? (i := 37) rfl)) (hw _ (List.mem_of_getElem? (i := 25) rfl)) (hw _ (List.mem_of_getElem? (i := 26) rfl)) e0 (g := (mkF m 1 #[.val (.ref o1), .val (.ref a1), .val (.int (13 : Int32))] [(.ref o1)])) rfl (by rw [hml]; rfl) rfl (hb hby d7_1) (by decide) (W := 0) (by show 2 * 0 + _ ≤ _; exact Nat.le_of_eq rfl) (by decide)
  refine Go.via st1 ?_
  show Go p e below _ (T1.setTop (mkF m 4 #[.val (.ref o1), .val (.ref a1), .val (.int (13 : Int32))] []))
  refine Go.via (fun _ => XS.aloadN X1.here hx rfl (hb hby d7_4) rfl rfl) ?_
  show Go p e below _ (T1.setTop (mkF m 5 #[.val (.ref o1), .val (.ref a1), .val (.int (13 : Int32))] [(.ref o1)]))
  refine Go.via (X1.ldcInt hx hown (mvT hZ (hw _ (List.mem_of_getElem? (i := 38) rfl))) (g := (mkF m 5 #[.val (.ref o1), .val (.ref a1), .val (.int (13 : Int32))] [(.ref o1)])) rfl (hb hby d7_5)) ?_
  show Go p e below _ (T1.setTop (mkF m 7 #[.val (.ref o1), .val (.ref a1), .val (.int (13 : Int32))] [(.int (2147483647 : Int32)), (.ref o1)]))
  obtain ⟨T2, h2, X2, e2, W2, st2⟩ := putF X1 hx hZ hown (host := "") (Or.inl (hw _ (List.mem_of_getElem? (i := 39) rfl))) Via.refl e1 F_from E1 (Or.inl (hw _ (List.mem_of_getElem? (i := 40) rfl))) (hw _ (List.mem_of_getElem? (i := 32) rfl)) (ty := .int) (by decide) rfl rfl (g := (mkF m 7 #[.val (.ref o1), .val (.ref a1), .val (.int (13 : Int32))] [(.int (2147483647 : Int32)), (.ref o1)])) rfl rfl (hb hby d7_7)
  refine Go.via st2 ?_
  have fF_o1_from_2 : Fld Z h2 o1 "com/example/dogwood/dogwood/model/yaml/Occurrences" "from" "I" (.int (2147483647 : Int32)) := F_from.same W2
  have Zs2 : n0 ≤ h2.size := Nat.le_trans Z0 (Keep.of_wr W2).1
  have K2 : Keep h0 h2 [o1] := (Keep.refl h0 [o1]).wr W2 (Or.inl (List.mem_of_getElem? (i := 0) rfl))
  have N2 := Fr.snoc X2 N0 g1
  have fE_o1_2 := E1.wr W2
  have fF_o1_found_2 := F_found.other W2 (Or.inr (slot_ne (Or.inl (hw _ (List.mem_of_getElem? (i := 42) rfl))) (Or.inl (hw _ (List.mem_of_getElem? (i := 40) rfl))) (by decide) (t := .int) (t' := .int) (by decide) (by decide)))
  have fF_o1_text_2 := F_text.other W2 (Or.inr (slot_ne (Or.inr (hw _ (List.mem_of_getElem? (i := 44) rfl))) (Or.inl (hw _ (List.mem_of_getElem? (i := 40) rfl))) (by decide) (t := (.object "java/lang/String")) (t' := .int) (by decide) (by decide)))
  have fF_o1_c_2 := F_c.other W2 (Or.inr (slot_ne (Or.inr (hw _ (List.mem_of_getElem? (i := 46) rfl))) (Or.inl (hw _ (List.mem_of_getElem? (i := 40) rfl))) (by decide) (t := .char) (t' := .int) (by decide) (by decide)))
  show Go p e below _ (T2.setTop (mkF m 10 #[.val (.ref o1), .val (.ref a1), .val (.int (13 : Int32))] []))
  refine Go.via (fun _ => XS.aloadN X2.here hx rfl (hb hby d7_10) rfl rfl) ?_
  show Go p e below _ (T2.setTop (mkF m 11 #[.val (.ref o1), .val (.ref a1), .val (.int (13 : Int32))] [(.ref o1)]))
  refine Go.via (fun _ => XS.iconst X2.here hx rfl (hb hby d7_11)) ?_
  show Go p e below _ (T2.setTop (mkF m 12 #[.val (.ref o1), .val (.ref a1), .val (.int (13 : Int32))] [(.int (-1 : Int32)), (.ref o1)]))
  obtain ⟨T3, h3, X3, e3, W3, st3⟩ := putF X2 hx hZ hown (host := "") (Or.inl (hw _ (List.mem_of_getElem? (i := 41) rfl))) Via.refl e2 fF_o1_found_2 fE_o1_2 (Or.inl (hw _ (List.mem_of_getElem? (i := 42) rfl))) (hw _ (List.mem_of_getElem? (i := 32) rfl)) (ty := .int) (by decide) rfl rfl (g := (mkF m 12 #[.val (.ref o1), .val (.ref a1), .val (.int (13 : Int32))] [(.int (-1 : Int32)), (.ref o1)])) rfl rfl (hb hby d7_12)
  refine Go.via st3 ?_
  have fF_o1_found_3 : Fld Z h3 o1 "com/example/dogwood/dogwood/model/yaml/Occurrences" "found" "I" (.int (-1 : Int32)) := fF_o1_found_2.same W3
  have Zs3 : n0 ≤ h3.size := Nat.le_trans Zs2 (Keep.of_wr W3).1
  have K3 : Keep h0 h3 [o1] := K2.wr W3 (Or.inl (List.mem_of_getElem? (i := 0) rfl))
  have N3 := Fr.snoc X3 N2 g1
  have fE_o1_3 := fE_o1_2.wr W3
  have fF_o1_from_3 := fF_o1_from_2.other W3 (Or.inr (slot_ne (Or.inl (hw _ (List.mem_of_getElem? (i := 40) rfl))) (Or.inl (hw _ (List.mem_of_getElem? (i := 42) rfl))) (by decide) (t := .int) (t' := .int) (by decide) (by decide)))
  have fF_o1_text_3 := fF_o1_text_2.other W3 (Or.inr (slot_ne (Or.inr (hw _ (List.mem_of_getElem? (i := 44) rfl))) (Or.inl (hw _ (List.mem_of_getElem? (i := 42) rfl))) (by decide) (t := (.object "java/lang/String")) (t' := .int) (by decide) (by decide)))
  have fF_o1_c_3 := fF_o1_c_2.other W3 (Or.inr (slot_ne (Or.inr (hw _ (List.mem_of_getElem? (i := 46) rfl))) (Or.inl (hw _ (List.mem_of_getElem? (i := 42) rfl))) (by decide) (t := .char) (t' := .int) (by decide) (by decide)))
  show Go p e below _ (T3.setTop (mkF m 15 #[.val (.ref o1), .val (.ref a1), .val (.int (13 : Int32))] []))
  refine Go.via (fun _ => XS.aloadN X3.here hx rfl (hb hby d7_15) rfl rfl) ?_
  show Go p e below _ (T3.setTop (mkF m 16 #[.val (.ref o1), .val (.ref a1), .val (.int (13 : Int32))] [(.ref o1)]))
  refine Go.via (fun _ => XS.aloadN X3.here hx rfl (hb hby d7_16) rfl rfl) ?_
  show Go p e below _ (T3.setTop (mkF m 17 #[.val (.ref o1), .val (.ref a1), .val (.int (13 : Int32))] [(.ref a1), (.ref o1)]))
  obtain ⟨T4, h4, X4, e4, W4, st4⟩ := putF X3 hx hZ hown (host := "") (Or.inl (hw _ (List.mem_of_getElem? (i := 43) rfl))) Via.refl e3 fF_o1_text_3 fE_o1_3 (Or.inr ⟨(hw _ (List.mem_of_getElem? (i := 44) rfl)), rfl, hnm⟩) (hw _ (List.mem_of_getElem? (i := 32) rfl)) (ty := (.object "java/lang/String")) (by decide) rfl rfl (g := (mkF m 17 #[.val (.ref o1), .val (.ref a1), .val (.int (13 : Int32))] [(.ref a1), (.ref o1)])) rfl rfl (hb hby d7_17)
  refine Go.via st4 ?_
  have fF_o1_text_4 : Fld Z h4 o1 "com/example/dogwood/dogwood/model/yaml/Occurrences" "text" "Ljava/lang/String;" (.ref a1) := fF_o1_text_3.same W4
  have Zs4 : n0 ≤ h4.size := Nat.le_trans Zs3 (Keep.of_wr W4).1
  have K4 : Keep h0 h4 [o1] := K3.wr W4 (Or.inl (List.mem_of_getElem? (i := 0) rfl))
  have N4 := Fr.snoc X4 N3 g1
  have fE_o1_4 := fE_o1_3.wr W4
  have fF_o1_from_4 := fF_o1_from_3.other W4 (Or.inr (slot_ne (Or.inl (hw _ (List.mem_of_getElem? (i := 40) rfl))) (Or.inr (hw _ (List.mem_of_getElem? (i := 44) rfl))) (by decide) (t := .int) (t' := (.object "java/lang/String")) (by decide) (by decide)))
  have fF_o1_found_4 := fF_o1_found_3.other W4 (Or.inr (slot_ne (Or.inl (hw _ (List.mem_of_getElem? (i := 42) rfl))) (Or.inr (hw _ (List.mem_of_getElem? (i := 44) rfl))) (by decide) (t := .int) (t' := (.object "java/lang/String")) (by decide) (by decide)))
  have fF_o1_c_4 := fF_o1_c_3.other W4 (Or.inr (slot_ne (Or.inr (hw _ (List.mem_of_getElem? (i := 46) rfl))) (Or.inr (hw _ (List.mem_of_getElem? (i := 44) rfl))) (by decide) (t := .char) (t' := (.object "java/lang/String")) (by decide) (by decide)))
  show Go p e below _ (T4.setTop (mkF m 20 #[.val (.ref o1), .val (.ref a1), .val (.int (13 : Int32))] []))
  refine Go.via (fun _ => XS.aloadN X4.here hx rfl (hb hby d7_20) rfl rfl) ?_
  show Go p e below _ (T4.setTop (mkF m 21 #[.val (.ref o1), .val (.ref a1), .val (.int (13 : Int32))] [(.ref o1)]))
  refine Go.via (fun _ => XS.iloadN X4.here hx rfl (hb hby d7_21) rfl) ?_
  show Go p e below _ (T4.setTop (mkF m 22 #[.val (.ref o1), .val (.ref a1), .val (.int (13 : Int32))] [(.int (13 : Int32)), (.ref o1)]))
  obtain ⟨T5, h5, X5, e5, W5, st5⟩ := putFN X4 hx hZ hown (hw _ (List.mem_of_getElem? (i := 45) rfl)) Via.refl e4 fF_o1_c_4 fE_o1_4 (Or.inr ⟨(hw _ (List.mem_of_getElem? (i := 46) rfl)), rfl, hnm⟩) (hw _ (List.mem_of_getElem? (i := 32) rfl)) (ty := .char) (v' := .int (nar .char (13 : Int32))) (by decide) rfl (fits_nar_char _) (g := (mkF m 22 #[.val (.ref o1), .val (.ref a1), .val (.int (13 : Int32))] [(.int (13 : Int32)), (.ref o1)])) rfl rfl (hb hby d7_22)
  refine Go.via st5 ?_
  have fF_o1_c_5 : Fld Z h5 o1 "com/example/dogwood/dogwood/model/yaml/Occurrences" "c" "C" (.int (13 : Int32)) := fF_o1_c_4.same W5
  have Zs5 : n0 ≤ h5.size := Nat.le_trans Zs4 (Keep.of_wr W5).1
  have K5 : Keep h0 h5 [o1] := K4.wr W5 (Or.inl (List.mem_of_getElem? (i := 0) rfl))
  have N5 := Fr.snoc X5 N4 g1
  have fE_o1_5 := fE_o1_4.wr W5
  have fF_o1_from_5 := fF_o1_from_4.other W5 (Or.inr (slot_ne (Or.inl (hw _ (List.mem_of_getElem? (i := 40) rfl))) (Or.inr (hw _ (List.mem_of_getElem? (i := 46) rfl))) (by decide) (t := .int) (t' := .char) (by decide) (by decide)))
  have fF_o1_found_5 := fF_o1_found_4.other W5 (Or.inr (slot_ne (Or.inl (hw _ (List.mem_of_getElem? (i := 42) rfl))) (Or.inr (hw _ (List.mem_of_getElem? (i := 46) rfl))) (by decide) (t := .int) (t' := .char) (by decide) (by decide)))
  have fF_o1_text_5 := fF_o1_text_4.other W5 (Or.inr (slot_ne (Or.inr (hw _ (List.mem_of_getElem? (i := 44) rfl))) (Or.inr (hw _ (List.mem_of_getElem? (i := 46) rfl))) (by decide) (t := (.object "java/lang/String")) (t' := .char) (by decide) (by decide)))
  show Go p e below _ (T5.setTop (mkF m 25 #[.val (.ref o1), .val (.ref a1), .val (.int (13 : Int32))] []))
  exact own_retV X5 hx hlk Bd.returns (hb hby d7_25) (by show QOI_13 Z o1 a1 h0 n0 _ T5.heap _; rw [e5]; exact ⟨rfl, N5, K5, fF_o1_from_5, fF_o1_found_5, fF_o1_text_5, fF_o1_c_5⟩) (by decide) (by decide)
def ix1 (c0 c i : Int32) : Int32 := if ¬ ((0 : Int32) < i) ∧ c0 = c then (0 : Int32) else (-1 : Int32)
theorem own_byte {x y : Int32} (hx : ¬ x < 0) (hx' : ¬ (255 : Int32) < x) (hy : ¬ y < 0) (hy' : ¬ (255 : Int32) < y) : (nar .byte (x.toInt8.toInt32) = y.toInt8.toInt32) ↔ x = y := by
  have t : ∀ a : Fin 256, ((Int32.ofNat a.val).toInt8.toInt32) &&& (255 : Int32) = Int32.ofNat a.val := by decide +kernel
  have w : ∀ z : Int32, ¬ z < 0 → ¬ (255 : Int32) < z → z.toInt8.toInt32 &&& (255 : Int32) = z := by
    intro z h1 h2
    rw [Int32.lt_iff_toInt_lt] at h1 h2
    have e0 : (0 : Int32).toInt = 0 := rfl
    have e1 : (255 : Int32).toInt = 255 := rfl
    have e : z = Int32.ofNat z.toInt.toNat := by
      apply Int32.toInt_inj.mp
      rw [Int32.toInt_ofNat_of_lt (by omega)]
      omega
    rw [e]
    exact t ⟨z.toInt.toNat, by omega⟩
  have e : nar .byte (x.toInt8.toInt32) = x.toInt8.toInt32 := by simp [nar]
  rw [e]
  refine ⟨fun h => ?_, fun h => by rw [h]⟩
  rw [← w x hx hx', ← w y hy hy', h]
theorem own_cases1 (i : Int32) : i < (0 : Int32) ∨ i = (0 : Int32) ∨ ¬ (i < (1 : Int32)) := by
  simp only [Int32.lt_iff_toInt_lt, ← Int32.toInt_inj]
  have : (0 : Int32).toInt = 0 ∧ (1 : Int32).toInt = 1 := by decide
  omega
theorem own_big1 {i : Int32} (h : ¬ (i < (1 : Int32))) : ¬ (i < (0 : Int32)) := by
  simp only [Int32.lt_iff_toInt_lt] at *
  have : (0 : Int32).toInt = 0 ∧ (1 : Int32).toInt = 1 := by decide
  omega
theorem own_ixneg {c0 c i : Int32} (h : i < (0 : Int32)) : ix1 c0 c i = ix1 c0 c (0 : Int32) := by
  have a0 : ¬ ((0 : Int32) < i) := by
    rw [Int32.lt_iff_toInt_lt] at *
    have : (0 : Int32).toInt = 0 ∧ (0 : Int32).toInt = 0 := by decide
    omega
  have b0 : ¬ ((0 : Int32) < (0 : Int32)) := by decide
  simp only [ix1, a0, b0]
theorem own_ixbig {c0 c i : Int32} (h : ¬ (i < (1 : Int32))) : ix1 c0 c i = (-1 : Int32) := by
  have a0 : (0 : Int32) < i := by
    rw [Int32.lt_iff_toInt_lt] at *
    have : (1 : Int32).toInt = 1 ∧ (0 : Int32).toInt = 0 := by decide
    omega
  simp [ix1, a0]
theorem ef_rmIsLat (m : MethodId) (x0 : Addr) : entryFrame m #[(.ref x0)] 1 = mkF m 0 #[.val (.ref x0)] [] := by first | (simp [entryFrame, mkF, argsToLocals, Value.category]; done) | rfl
def QIsLat (Z : State) (a1 : Addr) (ccs : Int32) (vF : Value) (h0 : Heap) (n0 : Nat) (v : Option Value) (h : Heap) (L : List Loc) : Prop := v = some (.int (1 : Int32)) ∧ Fr n0 L ∧ h = h0
set_option maxRecDepth 65536 in
set_option maxHeartbeats 40000000 in
theorem rmIsLat (l : Launch) (Z : State) (a0 : Array Value) (hw : ∀ d ∈ tables_1, d.before a0 Z = true) (ws : List Jvm.Cond) (a1 : Addr) (ccs : Int32) (vF : Value) (h0 : Heap) (n0 : Nat) (Z0 : n0 ≤ h0.size) (F2 : Fld Z h0 a1 "java/lang/String" "coder" "B" (.int (0 : Int32))) (O0 : Old Z n0 h0) (S_CS : Sta Z Z.heap "java/lang/String" "COMPACT_STRINGS" "Z" (.int ccs)) (hcs : ¬ (ccs = (0 : Int32))) (S_AD : Sta Z Z.heap "java/lang/StringUTF16" "$assertionsDisabled" "Z" (.int (1 : Int32))) (S_HI : Sta Z Z.heap "java/lang/StringUTF16" "HI_BYTE_SHIFT" "I" (.int (0 : Int32))) (S_LO : Sta Z Z.heap "java/lang/StringUTF16" "LO_BYTE_SHIFT" "I" (.int (8 : Int32))) (S_SF : Sta Z Z.heap "jdk/internal/util/Preconditions" "SIOOBE_FORMATTER" "Ljava/util/function/BiFunction;" vF) (rF : vF.isRef = true) :
    MetFree l (⟨"java/lang/String", "isLatin1", "()Z"⟩ : MethodName) (head1 (Jvm.Cond.code (⟨"java/lang/String", "isLatin1", "()Z"⟩ : MethodName) jdk_42_method_154_code 1 (some .boolean) :: ws) ({ frames := 0, cells := 0, slots := 0, locals := 0 } : Room)) (fun a U => a = #[(.ref a1)] ∧ Z.Warmed39 U.vm ∧ U.heap = h0) (fun _ _ _ _ _ => True) (fun _ U o U' => ∃ v L, o = .returned v ∧ QIsLat Z a1 ccs vF h0 n0 v U'.heap L ∧ FrameEnd U o U' L ({ frames := 0, cells := 0, slots := 0, locals := 0 } : Room).cells ({ frames := 0, cells := 0, slots := 0, locals := 0 } : Room).slots) := by
  refine MetFree.of_bodySF (plainFor_of_name pn_java_lang_String) hisR ?_
  intro p e s m args below meth c s₁ Bd hml0 hP hK
  obtain ⟨rfl, hZ, hh⟩ := hP
  have hx := Bd.exec
  have hby := Bd.bytes
  have hlk : meth.locks = false := Bd.notSynchronized
  have hml : c.maxLocals = 1 := hml0
  have hown : s.vm.findClass "java/lang/String" = some m.cls := findClass_of_methodNamed Bd.named
  have hnm := (name_of_methodNamed Bd.named Bd.method).1
  have X0 : Stand p l e ({ frames := 0, cells := 0, slots := 0, locals := 0 } : Room) s m #[(.ref a1)] below meth c s₁ [] 0 0 := Stand.of_body Bd
  have e0 : s₁.heap = h0 := by rw [← hh, Bd.state]; rfl
  have N0 := Fr.nil n0
  show Go p e below (FinE s below (QIsLat Z a1 ccs vF h0 n0) ({ frames := 0, cells := 0, slots := 0, locals := 0 } : Room).cells ({ frames := 0, cells := 0, slots := 0, locals := 0 } : Room).slots) (s₁.setTop (entryFrame m #[(.ref a1)] 1))
  refine Go.via (fun t k => castTop (ef_rmIsLat m a1) k) ?_
  show Go p e below _ (s₁.setTop (mkF m 0 #[.val (.ref a1)] []))
  obtain ⟨T1, X1, e1, st1⟩ := getS2 X0 hx hZ hown (host := "") (Or.inl (hw _ (List.mem_of_getElem? (i := 9) rfl))) Via.refl e0 (S_CS.ext O0.2) (g := (mkF m 0 #[.val (.ref a1)] [])) rfl (hb hby d11_0)
  refine Go.via st1 ?_
  show Go p e below _ (T1.setTop (mkF m 3 #[.val (.ref a1)] [(.int ccs)]))
  refine Go.via (fun _ => XS.ifNo X1.here hx rfl (hb hby d11_3) rfl ((if0 _ _).trans (feq hcs).1)) ?_
  show Go p e below _ (T1.setTop (mkF m 6 #[.val (.ref a1)] []))
  refine Go.via (fun _ => XS.aloadN X1.here hx rfl (hb hby d11_6) rfl rfl) ?_
  show Go p e below _ (T1.setTop (mkF m 7 #[.val (.ref a1)] [(.ref a1)]))
  obtain ⟨T2, X2, e2, st2⟩ := getF X1 hx hZ hown (host := "") (Or.inl (hw _ (List.mem_of_getElem? (i := 29) rfl))) Via.refl e1 F2 (g := (mkF m 7 #[.val (.ref a1)] [(.ref a1)])) rfl rfl (hb hby d11_7)
  refine Go.via st2 ?_
  show Go p e below _ (T2.setTop (mkF m 10 #[.val (.ref a1)] [(.int (0 : Int32))]))
  refine Go.via (fun _ => XS.ifNo X2.here hx rfl (hb hby d11_10) rfl (by decide)) ?_
  show Go p e below _ (T2.setTop (mkF m 13 #[.val (.ref a1)] []))
  refine Go.via (fun _ => XS.iconst X2.here hx rfl (hb hby d11_13)) ?_
  show Go p e below _ (T2.setTop (mkF m 14 #[.val (.ref a1)] [(.int (1 : Int32))]))
  refine Go.via (fun _ => XS.goto X2.here hx rfl (pc0 := 14) (pc' := 18) rfl (hb hby d11_14) (by decide) (by decide)) ?_
  show Go p e below _ (T2.setTop (mkF m 18 #[.val (.ref a1)] [(.int (1 : Int32))]))
  exact own_retN X2 hx hlk (t := .boolean) Bd.returns (by simp) (hb hby d11_18) (by show QIsLat Z a1 ccs vF h0 n0 _ T2.heap _; rw [e2]; exact ⟨rfl, N0, rfl⟩) (by decide) (by decide)
theorem ef_rmCoder (m : MethodId) (x0 : Addr) : entryFrame m #[(.ref x0)] 1 = mkF m 0 #[.val (.ref x0)] [] := by first | (simp [entryFrame, mkF, argsToLocals, Value.category]; done) | rfl
def QCoder (Z : State) (a1 : Addr) (ccs : Int32) (vF : Value) (h0 : Heap) (n0 : Nat) (v : Option Value) (h : Heap) (L : List Loc) : Prop := v = some (.int (0 : Int32)) ∧ Fr n0 L ∧ h = h0
set_option maxRecDepth 65536 in
set_option maxHeartbeats 40000000 in
theorem rmCoder (l : Launch) (Z : State) (a0 : Array Value) (hw : ∀ d ∈ tables_1, d.before a0 Z = true) (ws : List Jvm.Cond) (a1 : Addr) (ccs : Int32) (vF : Value) (h0 : Heap) (n0 : Nat) (Z0 : n0 ≤ h0.size) (F2 : Fld Z h0 a1 "java/lang/String" "coder" "B" (.int (0 : Int32))) (O0 : Old Z n0 h0) (S_CS : Sta Z Z.heap "java/lang/String" "COMPACT_STRINGS" "Z" (.int ccs)) (hcs : ¬ (ccs = (0 : Int32))) (S_AD : Sta Z Z.heap "java/lang/StringUTF16" "$assertionsDisabled" "Z" (.int (1 : Int32))) (S_HI : Sta Z Z.heap "java/lang/StringUTF16" "HI_BYTE_SHIFT" "I" (.int (0 : Int32))) (S_LO : Sta Z Z.heap "java/lang/StringUTF16" "LO_BYTE_SHIFT" "I" (.int (8 : Int32))) (S_SF : Sta Z Z.heap "jdk/internal/util/Preconditions" "SIOOBE_FORMATTER" "Ljava/util/function/BiFunction;" vF) (rF : vF.isRef = true) :
    MetFree l (⟨"java/lang/String", "coder", "()B"⟩ : MethodName) (head1 (Jvm.Cond.code (⟨"java/lang/String", "coder", "()B"⟩ : MethodName) jdk_42_method_152_code 1 (some .byte) :: ws) ({ frames := 0, cells := 0, slots := 0, locals := 0 } : Room)) (fun a U => a = #[(.ref a1)] ∧ Z.Warmed39 U.vm ∧ U.heap = h0) (fun _ _ _ _ _ => True) (fun _ U o U' => ∃ v L, o = .returned v ∧ QCoder Z a1 ccs vF h0 n0 v U'.heap L ∧ FrameEnd U o U' L ({ frames := 0, cells := 0, slots := 0, locals := 0 } : Room).cells ({ frames := 0, cells := 0, slots := 0, locals := 0 } : Room).slots) := by
  refine MetFree.of_bodySF (plainFor_of_name pn_java_lang_String) hisR ?_
  intro p e s m args below meth c s₁ Bd hml0 hP hK
  obtain ⟨rfl, hZ, hh⟩ := hP
  have hx := Bd.exec
  have hby := Bd.bytes
  have hlk : meth.locks = false := Bd.notSynchronized
  have hml : c.maxLocals = 1 := hml0
  have hown : s.vm.findClass "java/lang/String" = some m.cls := findClass_of_methodNamed Bd.named
  have hnm := (name_of_methodNamed Bd.named Bd.method).1
  have X0 : Stand p l e ({ frames := 0, cells := 0, slots := 0, locals := 0 } : Room) s m #[(.ref a1)] below meth c s₁ [] 0 0 := Stand.of_body Bd
  have e0 : s₁.heap = h0 := by rw [← hh, Bd.state]; rfl
  have N0 := Fr.nil n0
  show Go p e below (FinE s below (QCoder Z a1 ccs vF h0 n0) ({ frames := 0, cells := 0, slots := 0, locals := 0 } : Room).cells ({ frames := 0, cells := 0, slots := 0, locals := 0 } : Room).slots) (s₁.setTop (entryFrame m #[(.ref a1)] 1))
  refine Go.via (fun t k => castTop (ef_rmCoder m a1) k) ?_
  show Go p e below _ (s₁.setTop (mkF m 0 #[.val (.ref a1)] []))
  obtain ⟨T1, X1, e1, st1⟩ := getS2 X0 hx hZ hown (host := "") (Or.inl (hw _ (List.mem_of_getElem? (i := 9) rfl))) Via.refl e0 (S_CS.ext O0.2) (g := (mkF m 0 #[.val (.ref a1)] [])) rfl (hb hby d13_0)
  refine Go.via st1 ?_
  show Go p e below _ (T1.setTop (mkF m 3 #[.val (.ref a1)] [(.int ccs)]))
  refine Go.via (fun _ => XS.ifNo X1.here hx rfl (hb hby d13_3) rfl ((if0 _ _).trans (feq hcs).1)) ?_
  show Go p e below _ (T1.setTop (mkF m 6 #[.val (.ref a1)] []))
  refine Go.via (fun _ => XS.aloadN X1.here hx rfl (hb hby d13_6) rfl rfl) ?_
  show Go p e below _ (T1.setTop (mkF m 7 #[.val (.ref a1)] [(.ref a1)]))
  obtain ⟨T2, X2, e2, st2⟩ := getF X1 hx hZ hown (host := "") (Or.inl (hw _ (List.mem_of_getElem? (i := 29) rfl))) Via.refl e1 F2 (g := (mkF m 7 #[.val (.ref a1)] [(.ref a1)])) rfl rfl (hb hby d13_7)
  refine Go.via st2 ?_
  show Go p e below _ (T2.setTop (mkF m 10 #[.val (.ref a1)] [(.int (0 : Int32))]))
  refine Go.via (fun _ => XS.goto X2.here hx rfl (pc0 := 10) (pc' := 14) rfl (hb hby d13_10) (by decide) (by decide)) ?_
  show Go p e below _ (T2.setTop (mkF m 14 #[.val (.ref a1)] [(.int (0 : Int32))]))
  exact own_retN X2 hx hlk (t := .byte) Bd.returns (by simp) (hb hby d13_14) (by show QCoder Z a1 ccs vF h0 n0 _ T2.heap _; rw [e2]; exact ⟨rfl, N0, rfl⟩) (by decide) (by decide)
theorem ef_rmLen_1 (m : MethodId) (x0 : Addr) : entryFrame m #[(.ref x0)] 1 = mkF m 0 #[.val (.ref x0)] [] := by first | (simp [entryFrame, mkF, argsToLocals, Value.category]; done) | rfl
def QLen_1 (Z : State) (a1 : Addr) (t1 : Addr) (kb : ClassId) (vs : List Value) (ccs : Int32) (vF : Value) (h0 : Heap) (n0 : Nat) (v : Option Value) (h : Heap) (L : List Loc) : Prop := v = some (.int (1 : Int32)) ∧ Fr n0 L ∧ h = h0
set_option maxRecDepth 65536 in
set_option maxHeartbeats 40000000 in
theorem rmLen_1 (l : Launch) (Z : State) (a0 : Array Value) (hw : ∀ d ∈ tables_1, d.before a0 Z = true) (ws : List Jvm.Cond) (a1 : Addr) (t1 : Addr) (kb : ClassId) (vs : List Value) (ccs : Int32) (vF : Value) (h0 : Heap) (n0 : Nat) (Z0 : n0 ≤ h0.size) (E1 : Exa Z h0 a1 "java/lang/String") (F1 : Fld Z h0 a1 "java/lang/String" "value" "[B" (.ref t1)) (F2 : Fld Z h0 a1 "java/lang/String" "coder" "B" (.int (0 : Int32))) (V2 : Arv Z h0 t1 kb .byte (1 : Int32) vs (.int (0 : Int32))) (O0 : Old Z n0 h0) (S_CS : Sta Z Z.heap "java/lang/String" "COMPACT_STRINGS" "Z" (.int ccs)) (hcs : ¬ (ccs = (0 : Int32))) (S_AD : Sta Z Z.heap "java/lang/StringUTF16" "$assertionsDisabled" "Z" (.int (1 : Int32))) (S_HI : Sta Z Z.heap "java/lang/StringUTF16" "HI_BYTE_SHIFT" "I" (.int (0 : Int32))) (S_LO : Sta Z Z.heap "java/lang/StringUTF16" "LO_BYTE_SHIFT" "I" (.int (8 : Int32))) (S_SF : Sta Z Z.heap "jdk/internal/util/Preconditions" "SIOOBE_FORMATTER" "Ljava/util/function/BiFunction;" vF) (rF : vF.isRef = true) :
    MetFree l (⟨"java/lang/String", "length", "()I"⟩ : MethodName) (head1 (Jvm.Cond.code (⟨"java/lang/String", "length", "()I"⟩ : MethodName) jdk_42_method_54_code 1 (some .int) :: ws) ({ frames := 1, cells := 0, slots := 0, locals := 13 } : Room)) (fun a U => a = #[(.ref a1)] ∧ Z.Warmed39 U.vm ∧ U.heap = h0) (fun _ _ _ _ _ => True) (fun _ U o U' => ∃ v L, o = .returned v ∧ QLen_1 Z a1 t1 kb vs ccs vF h0 n0 v U'.heap L ∧ FrameEnd U o U' L ({ frames := 1, cells := 0, slots := 0, locals := 13 } : Room).cells ({ frames := 1, cells := 0, slots := 0, locals := 13 } : Room).slots) := by
  refine MetFree.of_bodySF (plainFor_of_name pn_java_lang_String) hisR ?_
  intro p e s m args below meth c s₁ Bd hml0 hP hK
  obtain ⟨rfl, hZ, hh⟩ := hP
  have hx := Bd.exec
  have hby := Bd.bytes
  have hlk : meth.locks = false := Bd.notSynchronized
  have hml : c.maxLocals = 1 := hml0
  have hown : s.vm.findClass "java/lang/String" = some m.cls := findClass_of_methodNamed Bd.named
  have hnm := (name_of_methodNamed Bd.named Bd.method).1
  have X0 : Stand p l e ({ frames := 1, cells := 0, slots := 0, locals := 13 } : Room) s m #[(.ref a1)] below meth c s₁ [] 0 0 := Stand.of_body Bd
  have e0 : s₁.heap = h0 := by rw [← hh, Bd.state]; rfl
  have N0 := Fr.nil n0
  show Go p e below (FinE s below (QLen_1 Z a1 t1 kb vs ccs vF h0 n0) ({ frames := 1, cells := 0, slots := 0, locals := 13 } : Room).cells ({ frames := 1, cells := 0, slots := 0, locals := 13 } : Room).slots) (s₁.setTop (entryFrame m #[(.ref a1)] 1))
  refine Go.via (fun t k => castTop (ef_rmLen_1 m a1) k) ?_
  show Go p e below _ (s₁.setTop (mkF m 0 #[.val (.ref a1)] []))
  refine Go.via (fun _ => XS.aloadN X0.here hx rfl (hb hby d12_0) rfl rfl) ?_
  show Go p e below _ (s₁.setTop (mkF m 1 #[.val (.ref a1)] [(.ref a1)]))
  obtain ⟨T1, X1, e1, st1⟩ := getF X0 hx hZ hown (host := "") (Or.inl (hw _ (List.mem_of_getElem? (i := 27) rfl))) Via.refl e0 F1 (g := (mkF m 1 #[.val (.ref a1)] [(.ref a1)])) rfl rfl (hb hby d12_1)
  refine Go.via st1 ?_
  show Go p e below _ (T1.setTop (mkF m 4 #[.val (.ref a1)] [(.ref t1)]))
  obtain ⟨cl2, Ar2, -, S2, N2n, -, -⟩ := id V2
  have al2 := X1.arraylength hx (by rw [e1]; exact Ar2.1) (State.isArrayOf_alike hZ.alike Ar2.2.1) (g := (mkF m 4 #[.val (.ref a1)] [(.ref t1)])) rfl rfl (hb hby d12_4)
  rw [len_of S2 N2n] at al2
  refine Go.via al2 ?_
  show Go p e below _ (T1.setTop (mkF m 5 #[.val (.ref a1)] [(.int (1 : Int32))]))
  refine Go.via (fun _ => XS.aloadN X1.here hx rfl (hb hby d12_5) rfl rfl) ?_
  show Go p e below _ (T1.setTop (mkF m 6 #[.val (.ref a1)] [(.ref a1), (.int (1 : Int32))]))
  obtain ⟨cq3, kq3, q3a, q3b, q3c⟩ := isOf hZ e1 E1
  obtain ⟨_, _, ⟨T3, L3, k3, n3⟩, -, X3, ⟨Lc3, hQ3, l3, y3, z3⟩, st3⟩ := X1.virtualBack hx (y := (⟨"java/lang/String", "coder", "()B"⟩ : MethodName)) (z := (⟨"java/lang/String", "coder", "()B"⟩ : MethodName)) hown (mvT hZ (hw _ (List.mem_of_getElem? (i := 70) rfl))) (mvT hZ (hw _ (List.mem_of_getElem? (i := 71) rfl))) (notFace_of_selects (args := #[]) (mvT hZ (hw _ (List.mem_of_getElem? (i := 73) rfl)))) (mvT hZ (hw _ (List.mem_of_getElem? (i := 73) rfl))) (mvT hZ (hw _ (List.mem_of_getElem? (i := 72) rfl))) (by decide) (backOf (W := 1) (rmCoder l Z a0 hw [] a1 ccs vF h0 n0 Z0 F2 O0 S_CS hcs S_AD S_HI S_LO S_SF rF) hZ (hw _ (List.mem_of_getElem? (i := 74) rfl)) (hw _ (List.mem_of_getElem? (i := 7) rfl)) (by decide) (by decide)) q3a q3c (g := (mkF m 6 #[.val (.ref a1)] [(.ref a1), (.int (1 : Int32))])) rfl (by rw [hml]; rfl) (Steps.refl _) (argsL := []) (rest := [(.int (1 : Int32))]) (lenOf pd_4 rfl) rfl (by show 2 * 0 + _ ≤ _; exact Nat.le_of_eq rfl) (hb hby d12_6) (fun _ _ => ⟨rfl, e1, (by decide : 0 + 0 ≤ _), (by decide : 0 + 0 ≤ _)⟩)
  dsimp only [Pt.U, Pt.locs, Pt.cells, Pt.slots] at X3 l3 y3 z3 st3 hQ3
  subst l3 y3 z3
  obtain ⟨rfl, N3q, e3q⟩ := hQ3
  have N3 := Fr.app N0 N3q
  refine Go.tr st3 ?_
  show Go p e below _ (T3.setTop (mkF m 9 #[.val (.ref a1)] [(.int (0 : Int32)), (.int (1 : Int32))]))
  refine Go.via (fun _ => XS.ishr X3.here hx rfl (hb hby d12_9) rfl) ?_
  show Go p e below _ (T3.setTop (mkF m 10 #[.val (.ref a1)] [(.int (1 : Int32))]))
  exact own_retI X3 hx hlk Bd.returns (hb hby d12_10) (by show QLen_1 Z a1 t1 kb vs ccs vF h0 n0 _ T3.heap _; rw [e3q]; exact ⟨rfl, N3, rfl⟩) (by decide) (by decide)
def QIx1 (Z : State) (c0 : Int32) (ch : Int32) (i : Int32) (h0 : Heap) (n0 : Nat) (v : Option Value) (h : Heap) (L : List Loc) : Prop := v = some (.int (ix1 c0 ch i)) ∧ Fr n0 L ∧ h = h0
theorem ef_rmCanI (m : MethodId) (x0 : Int32) : entryFrame m #[(.int x0)] 1 = mkF m 0 #[.val (.int x0)] [] := by first | (simp [entryFrame, mkF, argsToLocals, Value.category]; done) | rfl
def QCanI (Z : State) (ch : Int32) (h0 : Heap) (n0 : Nat) (v : Option Value) (h : Heap) (L : List Loc) : Prop := v = some (.int (1 : Int32)) ∧ Fr n0 L ∧ h = h0
set_option maxRecDepth 65536 in
set_option maxHeartbeats 40000000 in
theorem rmCanI (l : Launch) (Z : State) (a0 : Array Value) (hw : ∀ d ∈ tables_1, d.before a0 Z = true) (ws : List Jvm.Cond) (ch : Int32) (h0 : Heap) (n0 : Nat) (Z0 : n0 ≤ h0.size) (hc0 : ¬ (ch < (0 : Int32))) (hc1 : ¬ ((255 : Int32) < ch)) :
    MetFree l (⟨"java/lang/StringLatin1", "canEncode", "(I)Z"⟩ : MethodName) (head1 (Jvm.Cond.code (⟨"java/lang/StringLatin1", "canEncode", "(I)Z"⟩ : MethodName) jdk_43_method_4_code 1 (some .boolean) :: ws) ({ frames := 0, cells := 0, slots := 0, locals := 0 } : Room)) (fun a U => a = #[(.int ch)] ∧ Z.Warmed39 U.vm ∧ U.heap = h0) (fun _ _ _ _ _ => True) (fun _ U o U' => ∃ v L, o = .returned v ∧ QCanI Z ch h0 n0 v U'.heap L ∧ FrameEnd U o U' L ({ frames := 0, cells := 0, slots := 0, locals := 0 } : Room).cells ({ frames := 0, cells := 0, slots := 0, locals := 0 } : Room).slots) := by
  refine MetFree.of_bodySF (plainFor_of_name pn_java_lang_StringLatin1) hisR ?_
  intro p e s m args below meth c s₁ Bd hml0 hP hK
  obtain ⟨rfl, hZ, hh⟩ := hP
  have hx := Bd.exec
  have hby := Bd.bytes
  have hlk : meth.locks = false := Bd.notSynchronized
  have hml : c.maxLocals = 1 := hml0
  have hown : s.vm.findClass "java/lang/StringLatin1" = some m.cls := findClass_of_methodNamed Bd.named
  have hnm := (name_of_methodNamed Bd.named Bd.method).1
  have X0 : Stand p l e ({ frames := 0, cells := 0, slots := 0, locals := 0 } : Room) s m #[(.int ch)] below meth c s₁ [] 0 0 := Stand.of_body Bd
  have e0 : s₁.heap = h0 := by rw [← hh, Bd.state]; rfl
  have N0 := Fr.nil n0
  show Go p e below (FinE s below (QCanI Z ch h0 n0) ({ frames := 0, cells := 0, slots := 0, locals := 0 } : Room).cells ({ frames := 0, cells := 0, slots := 0, locals := 0 } : Room).slots) (s₁.setTop (entryFrame m #[(.int ch)] 1))
  refine Go.via (fun t k => castTop (ef_rmCanI m ch) k) ?_
  show Go p e below _ (s₁.setTop (mkF m 0 #[.val (.int ch)] []))
  refine Go.via (fun _ => XS.iloadN X0.here hx rfl (hb hby d15_0) rfl) ?_
  show Go p e below _ (s₁.setTop (mkF m 1 #[.val (.int ch)] [(.int ch)]))
  refine Go.via (fun _ => XS.ifNo X0.here hx rfl (hb hby d15_1) rfl ((if0 _ _).trans (flt hc0).1)) ?_
  show Go p e below _ (s₁.setTop (mkF m 4 #[.val (.int ch)] []))
  refine Go.via (fun _ => XS.iloadN X0.here hx rfl (hb hby d15_4) rfl) ?_
  show Go p e below _ (s₁.setTop (mkF m 5 #[.val (.int ch)] [(.int ch)]))
  refine Go.via (fun _ => XS.sipush X0.here hx rfl (hb hby d15_5)) ?_
  show Go p e below _ (s₁.setTop (mkF m 8 #[.val (.int ch)] [(.int (255 : Int32)), (.int ch)]))
  refine Go.via (fun _ => XS.icmpNo X0.here hx rfl (hb hby d15_8) rfl (flt hc1).2.2.1) ?_
  show Go p e below _ (s₁.setTop (mkF m 11 #[.val (.int ch)] []))
  refine Go.via (fun _ => XS.iconst X0.here hx rfl (hb hby d15_11)) ?_
  show Go p e below _ (s₁.setTop (mkF m 12 #[.val (.int ch)] [(.int (1 : Int32))]))
  refine Go.via (fun _ => XS.goto X0.here hx rfl (pc0 := 12) (pc' := 16) rfl (hb hby d15_12) (by decide) (by decide)) ?_
  show Go p e below _ (s₁.setTop (mkF m 16 #[.val (.int ch)] [(.int (1 : Int32))]))
  exact own_retN X0 hx hlk (t := .boolean) Bd.returns (by simp) (hb hby d15_16) (by show QCanI Z ch h0 n0 _ s₁.heap _; rw [e0]; exact ⟨rfl, N0, rfl⟩) (by decide) (by decide)
theorem ef_rm_max_2 (m : MethodId) (x0 : Int32) (x1 : Int32) : entryFrame m #[(.int x0), (.int x1)] 2 = mkF m 0 #[.val (.int x0), .val (.int x1)] [] := by first | (simp [entryFrame, mkF, argsToLocals, Value.category]; done) | rfl
def Q_max_2 (Z : State) (p1 : Int32) (p2 : Int32) (h0 : Heap) (n0 : Nat) (v : Option Value) (h : Heap) (L : List Loc) : Prop := v = some (.int p2) ∧ Fr n0 L ∧ h = h0
set_option maxRecDepth 65536 in
set_option maxHeartbeats 40000000 in
theorem rm_max_2 (l : Launch) (Z : State) (a0 : Array Value) (hw : ∀ d ∈ tables_1, d.before a0 Z = true) (ws : List Jvm.Cond) (p1 : Int32) (p2 : Int32) (h0 : Heap) (n0 : Nat) (Z0 : n0 ≤ h0.size) (hm : p1 < p2) :
    MetFree l (⟨"java/lang/Math", "max", "(II)I"⟩ : MethodName) (head1 (Jvm.Cond.code (⟨"java/lang/Math", "max", "(II)I"⟩ : MethodName) jdk_29_method_65_code 2 (some .int) :: ws) ({ frames := 0, cells := 0, slots := 0, locals := 0 } : Room)) (fun a U => a = #[(.int p1), (.int p2)] ∧ Z.Warmed39 U.vm ∧ U.heap = h0) (fun _ _ _ _ _ => True) (fun _ U o U' => ∃ v L, o = .returned v ∧ Q_max_2 Z p1 p2 h0 n0 v U'.heap L ∧ FrameEnd U o U' L ({ frames := 0, cells := 0, slots := 0, locals := 0 } : Room).cells ({ frames := 0, cells := 0, slots := 0, locals := 0 } : Room).slots) := by
  refine MetFree.of_bodySF (Jvm.Free.JP.mathPlain rfl (by decide +kernel)) hisR ?_
  intro p e s m args below meth c s₁ Bd hml0 hP hK
  obtain ⟨rfl, hZ, hh⟩ := hP
  have hx := Bd.exec
  have hby := Bd.bytes
  have hlk : meth.locks = false := Bd.notSynchronized
  have hml : c.maxLocals = 2 := hml0
  have hown : s.vm.findClass "java/lang/Math" = some m.cls := findClass_of_methodNamed Bd.named
  have hnm := (name_of_methodNamed Bd.named Bd.method).1
  have X0 : Stand p l e ({ frames := 0, cells := 0, slots := 0, locals := 0 } : Room) s m #[(.int p1), (.int p2)] below meth c s₁ [] 0 0 := Stand.of_body Bd
  have e0 : s₁.heap = h0 := by rw [← hh, Bd.state]; rfl
  have N0 := Fr.nil n0
  show Go p e below (FinE s below (Q_max_2 Z p1 p2 h0 n0) ({ frames := 0, cells := 0, slots := 0, locals := 0 } : Room).cells ({ frames := 0, cells := 0, slots := 0, locals := 0 } : Room).slots) (s₁.setTop (entryFrame m #[(.int p1), (.int p2)] 2))
  refine Go.via (fun t k => castTop (ef_rm_max_2 m p1 p2) k) ?_
  show Go p e below _ (s₁.setTop (mkF m 0 #[.val (.int p1), .val (.int p2)] []))
  refine Go.via (fun _ => XS.iloadN X0.here hx rfl (hb hby d16_0) rfl) ?_
  show Go p e below _ (s₁.setTop (mkF m 1 #[.val (.int p1), .val (.int p2)] [(.int p1)]))
  refine Go.via (fun _ => XS.iloadN X0.here hx rfl (hb hby d16_1) rfl) ?_
  show Go p e below _ (s₁.setTop (mkF m 2 #[.val (.int p1), .val (.int p2)] [(.int p2), (.int p1)]))
  refine Go.via (fun _ => XS.icmpYes X0.here hx rfl (pc0 := 2) (pc' := 9) rfl (hb hby d16_2) rfl (tlt hm).1 (by decide) (by decide)) ?_
  show Go p e below _ (s₁.setTop (mkF m 9 #[.val (.int p1), .val (.int p2)] []))
  refine Go.via (fun _ => XS.iloadN X0.here hx rfl (hb hby d16_9) rfl) ?_
  show Go p e below _ (s₁.setTop (mkF m 10 #[.val (.int p1), .val (.int p2)] [(.int p2)]))
  exact own_retI X0 hx hlk Bd.returns (hb hby d16_10) (by show Q_max_2 Z p1 p2 h0 n0 _ s₁.heap _; rw [e0]; exact ⟨rfl, N0, rfl⟩) (by decide) (by decide)
theorem ef_rm_min_1 (m : MethodId) (x0 : Int32) (x1 : Int32) : entryFrame m #[(.int x0), (.int x1)] 2 = mkF m 0 #[.val (.int x0), .val (.int x1)] [] := by first | (simp [entryFrame, mkF, argsToLocals, Value.category]; done) | rfl
def Q_min_1 (Z : State) (p1 : Int32) (p2 : Int32) (h0 : Heap) (n0 : Nat) (v : Option Value) (h : Heap) (L : List Loc) : Prop := v = some (.int p1) ∧ Fr n0 L ∧ h = h0
set_option maxRecDepth 65536 in
set_option maxHeartbeats 40000000 in
theorem rm_min_1 (l : Launch) (Z : State) (a0 : Array Value) (hw : ∀ d ∈ tables_1, d.before a0 Z = true) (ws : List Jvm.Cond) (p1 : Int32) (p2 : Int32) (h0 : Heap) (n0 : Nat) (Z0 : n0 ≤ h0.size) (hm : ¬ (p2 < p1)) :
    MetFree l (⟨"java/lang/Math", "min", "(II)I"⟩ : MethodName) (head1 (Jvm.Cond.code (⟨"java/lang/Math", "min", "(II)I"⟩ : MethodName) jdk_29_method_69_code 2 (some .int) :: ws) ({ frames := 0, cells := 0, slots := 0, locals := 0 } : Room)) (fun a U => a = #[(.int p1), (.int p2)] ∧ Z.Warmed39 U.vm ∧ U.heap = h0) (fun _ _ _ _ _ => True) (fun _ U o U' => ∃ v L, o = .returned v ∧ Q_min_1 Z p1 p2 h0 n0 v U'.heap L ∧ FrameEnd U o U' L ({ frames := 0, cells := 0, slots := 0, locals := 0 } : Room).cells ({ frames := 0, cells := 0, slots := 0, locals := 0 } : Room).slots) := by
  refine MetFree.of_bodySF (Jvm.Free.JP.mathPlain rfl (by decide +kernel)) hisR ?_
  intro p e s m args below meth c s₁ Bd hml0 hP hK
  obtain ⟨rfl, hZ, hh⟩ := hP
  have hx := Bd.exec
  have hby := Bd.bytes
  have hlk : meth.locks = false := Bd.notSynchronized
  have hml : c.maxLocals = 2 := hml0
  have hown : s.vm.findClass "java/lang/Math" = some m.cls := findClass_of_methodNamed Bd.named
  have hnm := (name_of_methodNamed Bd.named Bd.method).1
  have X0 : Stand p l e ({ frames := 0, cells := 0, slots := 0, locals := 0 } : Room) s m #[(.int p1), (.int p2)] below meth c s₁ [] 0 0 := Stand.of_body Bd
  have e0 : s₁.heap = h0 := by rw [← hh, Bd.state]; rfl
  have N0 := Fr.nil n0
  show Go p e below (FinE s below (Q_min_1 Z p1 p2 h0 n0) ({ frames := 0, cells := 0, slots := 0, locals := 0 } : Room).cells ({ frames := 0, cells := 0, slots := 0, locals := 0 } : Room).slots) (s₁.setTop (entryFrame m #[(.int p1), (.int p2)] 2))
  refine Go.via (fun t k => castTop (ef_rm_min_1 m p1 p2) k) ?_
  show Go p e below _ (s₁.setTop (mkF m 0 #[.val (.int p1), .val (.int p2)] []))
  refine Go.via (fun _ => XS.iloadN X0.here hx rfl (hb hby d17_0) rfl) ?_
  show Go p e below _ (s₁.setTop (mkF m 1 #[.val (.int p1), .val (.int p2)] [(.int p1)]))
  refine Go.via (fun _ => XS.iloadN X0.here hx rfl (hb hby d17_1) rfl) ?_
  show Go p e below _ (s₁.setTop (mkF m 2 #[.val (.int p1), .val (.int p2)] [(.int p2), (.int p1)]))
  refine Go.via (fun _ => XS.icmpNo X0.here hx rfl (hb hby d17_2) rfl (flt hm).2.2.1) ?_
  show Go p e below _ (s₁.setTop (mkF m 5 #[.val (.int p1), .val (.int p2)] []))
  refine Go.via (fun _ => XS.iloadN X0.here hx rfl (hb hby d17_5) rfl) ?_
  show Go p e below _ (s₁.setTop (mkF m 6 #[.val (.int p1), .val (.int p2)] [(.int p1)]))
  refine Go.via (fun _ => XS.goto X0.here hx rfl (pc0 := 6) (pc' := 10) rfl (hb hby d17_6) (by decide) (by decide)) ?_
  show Go p e below _ (s₁.setTop (mkF m 10 #[.val (.int p1), .val (.int p2)] [(.int p1)]))
  exact own_retI X0 hx hlk Bd.returns (hb hby d17_10) (by show Q_min_1 Z p1 p2 h0 n0 _ s₁.heap _; rw [e0]; exact ⟨rfl, N0, rfl⟩) (by decide) (by decide)
theorem ef_rmIxC_1_0 (m : MethodId) (x0 : Addr) (x1 : Int32) : entryFrame m #[(.ref x0), (.int x1), (.int (0 : Int32)), (.int (1 : Int32))] 6 = mkF m 0 #[.val (.ref x0), .val (.int x1), .val (.int (0 : Int32)), .val (.int (1 : Int32)), .unset, .unset] [] := by first | (simp [entryFrame, mkF, argsToLocals, Value.category]; done) | rfl
def QIxC_1_0 (Z : State) (t1 : Addr) (kb : ClassId) (c0 : Int32) (ch : Int32) (h0 : Heap) (n0 : Nat) (v : Option Value) (h : Heap) (L : List Loc) : Prop := v = some (.int (ix1 c0 ch (0 : Int32))) ∧ Fr n0 L ∧ h = h0
set_option maxRecDepth 65536 in
set_option maxHeartbeats 40000000 in
theorem rmIxC_1_0 (l : Launch) (Z : State) (a0 : Array Value) (hw : ∀ d ∈ tables_1, d.before a0 Z = true) (ws : List Jvm.Cond) (t1 : Addr) (kb : ClassId) (c0 : Int32) (ch : Int32) (h0 : Heap) (n0 : Nat) (Z0 : n0 ≤ h0.size) (V2 : Arv Z h0 t1 kb .byte (1 : Int32) [(.int (nar .byte (c0.toInt8.toInt32)))] (.int (0 : Int32))) (qe0 : (nar .byte (c0.toInt8.toInt32) = ch.toInt8.toInt32) ↔ c0 = ch) :
    MetFree l (⟨"java/lang/StringLatin1", "indexOfChar", "([BIII)I"⟩ : MethodName) (head1 (Jvm.Cond.code (⟨"java/lang/StringLatin1", "indexOfChar", "([BIII)I"⟩ : MethodName) jdk_43_method_23_code 6 (some .int) :: ws) ({ frames := 0, cells := 0, slots := 0, locals := 0 } : Room)) (fun a U => a = #[(.ref t1), (.int ch), (.int (0 : Int32)), (.int (1 : Int32))] ∧ Z.Warmed39 U.vm ∧ U.heap = h0) (fun _ _ _ _ _ => True) (fun _ U o U' => ∃ v L, o = .returned v ∧ QIxC_1_0 Z t1 kb c0 ch h0 n0 v U'.heap L ∧ FrameEnd U o U' L ({ frames := 0, cells := 0, slots := 0, locals := 0 } : Room).cells ({ frames := 0, cells := 0, slots := 0, locals := 0 } : Room).slots) := by
  refine MetFree.of_bodySF (plainFor_of_name pn_java_lang_StringLatin1) hisR ?_
  intro p e s m args below meth c s₁ Bd hml0 hP hK
  obtain ⟨rfl, hZ, hh⟩ := hP
  have hx := Bd.exec
  have hby := Bd.bytes
  have hlk : meth.locks = false := Bd.notSynchronized
  have hml : c.maxLocals = 6 := hml0
  have hown : s.vm.findClass "java/lang/StringLatin1" = some m.cls := findClass_of_methodNamed Bd.named
  have hnm := (name_of_methodNamed Bd.named Bd.method).1
  have X0 : Stand p l e ({ frames := 0, cells := 0, slots := 0, locals := 0 } : Room) s m #[(.ref t1), (.int ch), (.int (0 : Int32)), (.int (1 : Int32))] below meth c s₁ [] 0 0 := Stand.of_body Bd
  have e0 : s₁.heap = h0 := by rw [← hh, Bd.state]; rfl
  have N0 := Fr.nil n0
  show Go p e below (FinE s below (QIxC_1_0 Z t1 kb c0 ch h0 n0) ({ frames := 0, cells := 0, slots := 0, locals := 0 } : Room).cells ({ frames := 0, cells := 0, slots := 0, locals := 0 } : Room).slots) (s₁.setTop (entryFrame m #[(.ref t1), (.int ch), (.int (0 : Int32)), (.int (1 : Int32))] 6))
  refine Go.via (fun t k => castTop (ef_rmIxC_1_0 m t1 ch) k) ?_
  show Go p e below _ (s₁.setTop (mkF m 0 #[.val (.ref t1), .val (.int ch), .val (.int (0 : Int32)), .val (.int (1 : Int32)), .unset, .unset] []))
  refine Go.via (fun _ => XS.iloadN X0.here hx rfl (hb hby d18_0) rfl) ?_
  show Go p e below _ (s₁.setTop (mkF m 1 #[.val (.ref t1), .val (.int ch), .val (.int (0 : Int32)), .val (.int (1 : Int32)), .unset, .unset] [(.int ch)]))
  refine Go.via (fun _ => XS.i2b X0.here hx rfl (hb hby d18_1) rfl) ?_
  show Go p e below _ (s₁.setTop (mkF m 2 #[.val (.ref t1), .val (.int ch), .val (.int (0 : Int32)), .val (.int (1 : Int32)), .unset, .unset] [(.int (ch.toInt8.toInt32))]))
  refine Go.via (fun _ => XS.istore X0.here hx rfl (hb hby d18_2) rfl (l' := #[.val (.ref t1), .val (.int ch), .val (.int (0 : Int32)), .val (.int (1 : Int32)), .val (.int (ch.toInt8.toInt32)), .unset]) rfl) ?_
  show Go p e below _ (s₁.setTop (mkF m 4 #[.val (.ref t1), .val (.int ch), .val (.int (0 : Int32)), .val (.int (1 : Int32)), .val (.int (ch.toInt8.toInt32)), .unset] []))
  refine Go.via (fun _ => XS.iloadN X0.here hx rfl (hb hby d18_4) rfl) ?_
  show Go p e below _ (s₁.setTop (mkF m 5 #[.val (.ref t1), .val (.int ch), .val (.int (0 : Int32)), .val (.int (1 : Int32)), .val (.int (ch.toInt8.toInt32)), .unset] [(.int (0 : Int32))]))
  refine Go.via (fun _ => XS.istore X0.here hx rfl (hb hby d18_5) rfl (l' := #[.val (.ref t1), .val (.int ch), .val (.int (0 : Int32)), .val (.int (1 : Int32)), .val (.int (ch.toInt8.toInt32)), .val (.int (0 : Int32))]) rfl) ?_
  show Go p e below _ (s₁.setTop (mkF m 7 #[.val (.ref t1), .val (.int ch), .val (.int (0 : Int32)), .val (.int (1 : Int32)), .val (.int (ch.toInt8.toInt32)), .val (.int (0 : Int32))] []))
  refine Go.via (fun _ => XS.iload X0.here hx rfl (hb hby d18_7) rfl) ?_
  show Go p e below _ (s₁.setTop (mkF m 9 #[.val (.ref t1), .val (.int ch), .val (.int (0 : Int32)), .val (.int (1 : Int32)), .val (.int (ch.toInt8.toInt32)), .val (.int (0 : Int32))] [(.int (0 : Int32))]))
  refine Go.via (fun _ => XS.iloadN X0.here hx rfl (hb hby d18_9) rfl) ?_
  show Go p e below _ (s₁.setTop (mkF m 10 #[.val (.ref t1), .val (.int ch), .val (.int (0 : Int32)), .val (.int (1 : Int32)), .val (.int (ch.toInt8.toInt32)), .val (.int (0 : Int32))] [(.int (1 : Int32)), (.int (0 : Int32))]))
  refine Go.via (fun _ => XS.icmpNo X0.here hx rfl (hb hby d18_10) rfl (by decide)) ?_
  show Go p e below _ (s₁.setTop (mkF m 13 #[.val (.ref t1), .val (.int ch), .val (.int (0 : Int32)), .val (.int (1 : Int32)), .val (.int (ch.toInt8.toInt32)), .val (.int (0 : Int32))] []))
  refine Go.via (fun _ => XS.aloadN X0.here hx rfl (hb hby d18_13) rfl rfl) ?_
  show Go p e below _ (s₁.setTop (mkF m 14 #[.val (.ref t1), .val (.int ch), .val (.int (0 : Int32)), .val (.int (1 : Int32)), .val (.int (ch.toInt8.toInt32)), .val (.int (0 : Int32))] [(.ref t1)]))
  refine Go.via (fun _ => XS.iload X0.here hx rfl (hb hby d18_14) rfl) ?_
  show Go p e below _ (s₁.setTop (mkF m 16 #[.val (.ref t1), .val (.int ch), .val (.int (0 : Int32)), .val (.int (1 : Int32)), .val (.int (ch.toInt8.toInt32)), .val (.int (0 : Int32))] [(.int (0 : Int32)), (.ref t1)]))
  obtain ⟨cl1, Ar1, q1, S1, N1n, H1, G1⟩ := id V2
  have hin1 := inb_of (j := (0 : Int32)) S1 (by decide)
  have hat1 : cl1.slots[((0 : Int32) : Int32).toNatClampNeg]? = some (.int (nar .byte (c0.toInt8.toInt32))) := H1.at hin1 rfl
  refine Go.via (X0.baloadBytes hx (j := (0 : Int32)) (v := (.int (nar .byte (c0.toInt8.toInt32)))) (by rw [e0]; exact Ar1.1) (State.isArrayOf_alike hZ.alike Ar1.2.1) Ar1.2.2 hin1 hat1 (g := (mkF m 16 #[.val (.ref t1), .val (.int ch), .val (.int (0 : Int32)), .val (.int (1 : Int32)), .val (.int (ch.toInt8.toInt32)), .val (.int (0 : Int32))] [(.int (0 : Int32)), (.ref t1)])) rfl rfl (hb hby d18_16)) ?_
  show Go p e below _ (s₁.setTop (mkF m 17 #[.val (.ref t1), .val (.int ch), .val (.int (0 : Int32)), .val (.int (1 : Int32)), .val (.int (ch.toInt8.toInt32)), .val (.int (0 : Int32))] [(.int (nar .byte (c0.toInt8.toInt32)))]))
  refine Go.via (fun _ => XS.iload X0.here hx rfl (hb hby d18_17) rfl) ?_
  show Go p e below _ (s₁.setTop (mkF m 19 #[.val (.ref t1), .val (.int ch), .val (.int (0 : Int32)), .val (.int (1 : Int32)), .val (.int (ch.toInt8.toInt32)), .val (.int (0 : Int32))] [(.int (ch.toInt8.toInt32)), (.int (nar .byte (c0.toInt8.toInt32)))]))
  by_cases hc2 : (nar .byte (c0.toInt8.toInt32)) = (ch.toInt8.toInt32)
  · -- yes
    show Go p e below _ (s₁.setTop (mkF m 19 #[.val (.ref t1), .val (.int ch), .val (.int (0 : Int32)), .val (.int (1 : Int32)), .val (.int (ch.toInt8.toInt32)), .val (.int (0 : Int32))] [(.int (ch.toInt8.toInt32)), (.int (nar .byte (c0.toInt8.toInt32)))]))
    show Go p e below _ (s₁.setTop (mkF m 19 #[.val (.ref t1), .val (.int ch), .val (.int (0 : Int32)), .val (.int (1 : Int32)), .val (.int (ch.toInt8.toInt32)), .val (.int (0 : Int32))] [(.int (ch.toInt8.toInt32)), (.int (nar .byte (c0.toInt8.toInt32)))]))
    refine Go.via (fun _ => XS.icmpNo X0.here hx rfl (hb hby d18_19) rfl (teq hc2).2) ?_
    show Go p e below _ (s₁.setTop (mkF m 22 #[.val (.ref t1), .val (.int ch), .val (.int (0 : Int32)), .val (.int (1 : Int32)), .val (.int (ch.toInt8.toInt32)), .val (.int (0 : Int32))] []))
    refine Go.via (fun _ => XS.iload X0.here hx rfl (hb hby d18_22) rfl) ?_
    show Go p e below _ (s₁.setTop (mkF m 24 #[.val (.ref t1), .val (.int ch), .val (.int (0 : Int32)), .val (.int (1 : Int32)), .val (.int (ch.toInt8.toInt32)), .val (.int (0 : Int32))] [(.int (0 : Int32))]))
    exact own_retI X0 hx hlk Bd.returns (hb hby d18_24) (by show QIxC_1_0 Z t1 kb c0 ch h0 n0 _ s₁.heap _; rw [e0]; exact ⟨by simp [ix1, (qe0.mp hc2), (by decide : ¬ ((0 : Int32) < (0 : Int32)))], N0, rfl⟩) (by decide) (by decide)
  · -- no
    show Go p e below _ (s₁.setTop (mkF m 19 #[.val (.ref t1), .val (.int ch), .val (.int (0 : Int32)), .val (.int (1 : Int32)), .val (.int (ch.toInt8.toInt32)), .val (.int (0 : Int32))] [(.int (ch.toInt8.toInt32)), (.int (nar .byte (c0.toInt8.toInt32)))]))
    show Go p e below _ (s₁.setTop (mkF m 19 #[.val (.ref t1), .val (.int ch), .val (.int (0 : Int32)), .val (.int (1 : Int32)), .val (.int (ch.toInt8.toInt32)), .val (.int (0 : Int32))] [(.int (ch.toInt8.toInt32)), (.int (nar .byte (c0.toInt8.toInt32)))]))
    refine Go.via (fun _ => XS.icmpYes X0.here hx rfl (pc0 := 19) (pc' := 25) rfl (hb hby d18_19) rfl (feq hc2).2 (by decide) (by decide)) ?_
    show Go p e below _ (s₁.setTop (mkF m 25 #[.val (.ref t1), .val (.int ch), .val (.int (0 : Int32)), .val (.int (1 : Int32)), .val (.int (ch.toInt8.toInt32)), .val (.int (0 : Int32))] []))
    refine Go.via (fun _ => XS.iinc X0.here hx rfl (hb hby d18_25) rfl (l' := #[.val (.ref t1), .val (.int ch), .val (.int (0 : Int32)), .val (.int (1 : Int32)), .val (.int (ch.toInt8.toInt32)), .val (.int (1 : Int32))]) rfl) ?_
    show Go p e below _ (s₁.setTop (mkF m 28 #[.val (.ref t1), .val (.int ch), .val (.int (0 : Int32)), .val (.int (1 : Int32)), .val (.int (ch.toInt8.toInt32)), .val (.int (1 : Int32))] []))
    refine Go.via (fun _ => XS.goto X0.here hx rfl (pc0 := 28) (pc' := 7) rfl (hb hby d18_28) (by decide) (by decide)) ?_
    show Go p e below _ (s₁.setTop (mkF m 7 #[.val (.ref t1), .val (.int ch), .val (.int (0 : Int32)), .val (.int (1 : Int32)), .val (.int (ch.toInt8.toInt32)), .val (.int (1 : Int32))] []))
    refine Go.via (fun _ => XS.iload X0.here hx rfl (hb hby d18_7) rfl) ?_
    show Go p e below _ (s₁.setTop (mkF m 9 #[.val (.ref t1), .val (.int ch), .val (.int (0 : Int32)), .val (.int (1 : Int32)), .val (.int (ch.toInt8.toInt32)), .val (.int (1 : Int32))] [(.int (1 : Int32))]))
    refine Go.via (fun _ => XS.iloadN X0.here hx rfl (hb hby d18_9) rfl) ?_
    show Go p e below _ (s₁.setTop (mkF m 10 #[.val (.ref t1), .val (.int ch), .val (.int (0 : Int32)), .val (.int (1 : Int32)), .val (.int (ch.toInt8.toInt32)), .val (.int (1 : Int32))] [(.int (1 : Int32)), (.int (1 : Int32))]))
    refine Go.via (fun _ => XS.icmpYes X0.here hx rfl (pc0 := 10) (pc' := 31) rfl (hb hby d18_10) rfl (by decide) (by decide) (by decide)) ?_
    show Go p e below _ (s₁.setTop (mkF m 31 #[.val (.ref t1), .val (.int ch), .val (.int (0 : Int32)), .val (.int (1 : Int32)), .val (.int (ch.toInt8.toInt32)), .val (.int (1 : Int32))] []))
    refine Go.via (fun _ => XS.iconst X0.here hx rfl (hb hby d18_31)) ?_
    show Go p e below _ (s₁.setTop (mkF m 32 #[.val (.ref t1), .val (.int ch), .val (.int (0 : Int32)), .val (.int (1 : Int32)), .val (.int (ch.toInt8.toInt32)), .val (.int (1 : Int32))] [(.int (-1 : Int32))]))
    exact own_retI X0 hx hlk Bd.returns (hb hby d18_32) (by show QIxC_1_0 Z t1 kb c0 ch h0 n0 _ s₁.heap _; rw [e0]; exact ⟨by simp [ix1, (mt qe0.mpr hc2), (by decide : ¬ ((0 : Int32) < (0 : Int32)))], N0, rfl⟩) (by decide) (by decide)
theorem ef_rmIxL_1_neg (m : MethodId) (x0 : Addr) (x1 : Int32) (x2 : Int32) : entryFrame m #[(.ref x0), (.int x1), (.int x2), (.int (1 : Int32))] 4 = mkF m 0 #[.val (.ref x0), .val (.int x1), .val (.int x2), .val (.int (1 : Int32))] [] := by first | (simp [entryFrame, mkF, argsToLocals, Value.category]; done) | rfl
def QIxL_1_neg (Z : State) (t1 : Addr) (kb : ClassId) (c0 : Int32) (ch : Int32) (i : Int32) (h0 : Heap) (n0 : Nat) (v : Option Value) (h : Heap) (L : List Loc) : Prop := v = some (.int (ix1 c0 ch i)) ∧ Fr n0 L ∧ h = h0
set_option maxRecDepth 65536 in
set_option maxHeartbeats 40000000 in
theorem rmIxL_1_neg (l : Launch) (Z : State) (a0 : Array Value) (hw : ∀ d ∈ tables_1, d.before a0 Z = true) (ws : List Jvm.Cond) (t1 : Addr) (kb : ClassId) (c0 : Int32) (ch : Int32) (i : Int32) (h0 : Heap) (n0 : Nat) (Z0 : n0 ≤ h0.size) (V2 : Arv Z h0 t1 kb .byte (1 : Int32) [(.int (nar .byte (c0.toInt8.toInt32)))] (.int (0 : Int32))) (qe0 : (nar .byte (c0.toInt8.toInt32) = ch.toInt8.toInt32) ↔ c0 = ch) (hc0 : ¬ (ch < (0 : Int32))) (hc1 : ¬ ((255 : Int32) < ch)) (hi : i < (0 : Int32)) :
    MetFree l (⟨"java/lang/StringLatin1", "indexOf", "([BIII)I"⟩ : MethodName) (head1 (Jvm.Cond.code (⟨"java/lang/StringLatin1", "indexOf", "([BIII)I"⟩ : MethodName) jdk_43_method_22_code 4 (some .int) :: ws) ({ frames := 1, cells := 0, slots := 0, locals := 17 } : Room)) (fun a U => a = #[(.ref t1), (.int ch), (.int i), (.int (1 : Int32))] ∧ Z.Warmed39 U.vm ∧ U.heap = h0) (fun _ _ _ _ _ => True) (fun _ U o U' => ∃ v L, o = .returned v ∧ QIxL_1_neg Z t1 kb c0 ch i h0 n0 v U'.heap L ∧ FrameEnd U o U' L ({ frames := 1, cells := 0, slots := 0, locals := 17 } : Room).cells ({ frames := 1, cells := 0, slots := 0, locals := 17 } : Room).slots) := by
  refine MetFree.of_bodySF (plainFor_of_name pn_java_lang_StringLatin1) hisR ?_
  intro p e s m args below meth c s₁ Bd hml0 hP hK
  obtain ⟨rfl, hZ, hh⟩ := hP
  have hx := Bd.exec
  have hby := Bd.bytes
  have hlk : meth.locks = false := Bd.notSynchronized
  have hml : c.maxLocals = 4 := hml0
  have hown : s.vm.findClass "java/lang/StringLatin1" = some m.cls := findClass_of_methodNamed Bd.named
  have hnm := (name_of_methodNamed Bd.named Bd.method).1
  have X0 : Stand p l e ({ frames := 1, cells := 0, slots := 0, locals := 17 } : Room) s m #[(.ref t1), (.int ch), (.int i), (.int (1 : Int32))] below meth c s₁ [] 0 0 := Stand.of_body Bd
  have e0 : s₁.heap = h0 := by rw [← hh, Bd.state]; rfl
  have N0 := Fr.nil n0
  show Go p e below (FinE s below (QIxL_1_neg Z t1 kb c0 ch i h0 n0) ({ frames := 1, cells := 0, slots := 0, locals := 17 } : Room).cells ({ frames := 1, cells := 0, slots := 0, locals := 17 } : Room).slots) (s₁.setTop (entryFrame m #[(.ref t1), (.int ch), (.int i), (.int (1 : Int32))] 4))
  refine Go.via (fun t k => castTop (ef_rmIxL_1_neg m t1 ch i) k) ?_
  show Go p e below _ (s₁.setTop (mkF m 0 #[.val (.ref t1), .val (.int ch), .val (.int i), .val (.int (1 : Int32))] []))
  refine Go.via (fun _ => XS.iloadN X0.here hx rfl (hb hby d14_0) rfl) ?_
  show Go p e below _ (s₁.setTop (mkF m 1 #[.val (.ref t1), .val (.int ch), .val (.int i), .val (.int (1 : Int32))] [(.int ch)]))
  obtain ⟨_, _, ⟨T1, L1, k1, n1⟩, -, X1, ⟨Lc1, hQ1, l1, y1, z1⟩, st1⟩ := Jvm.LawKit.callS X0 hx (y := (⟨"java/lang/StringLatin1", "canEncode", "(I)Z"⟩ : MethodName)) hown (mvT hZ (hw _ (List.mem_of_getElem? (i := 78) rfl))) (mvT hZ (hw _ (List.mem_of_getElem? (i := 79) rfl))) (mvT hZ (hw _ (List.mem_of_getElem? (i := 12) rfl))) (mvT hZ (hw _ (List.mem_of_getElem? (i := 80) rfl))) (by decide) (backOf (W := 0) (rmCanI l Z a0 hw [] ch h0 n0 Z0 hc0 hc1) hZ (hw _ (List.mem_of_getElem? (i := 80) rfl)) (hw _ (List.mem_of_getElem? (i := 12) rfl)) (by decide) (by decide)) (g := (mkF m 1 #[.val (.ref t1), .val (.int ch), .val (.int i), .val (.int (1 : Int32))] [(.int ch)])) rfl (by rw [hml]; rfl) (argsL := [(.int ch)]) (rest := []) (lenOf pd_5 rfl) rfl (by show 2 * 0 + _ ≤ _; exact Nat.le_of_eq rfl) (hb hby d14_1) (fun _ _ => ⟨rfl, e0, (by decide : 0 + 0 ≤ _), (by decide : 0 + 0 ≤ _)⟩)
  dsimp only [Pt.U, Pt.locs, Pt.cells, Pt.slots] at X1 l1 y1 z1 st1 hQ1
  subst l1 y1 z1
  obtain ⟨rfl, N1q, e1q⟩ := hQ1
  have N1 := Fr.app N0 N1q
  refine Go.via st1 ?_
  show Go p e below _ (T1.setTop (mkF m 4 #[.val (.ref t1), .val (.int ch), .val (.int i), .val (.int (1 : Int32))] [(.int (1 : Int32))]))
  refine Go.via (fun _ => XS.ifYes X1.here hx rfl (pc0 := 4) (pc' := 9) rfl (hb hby d14_4) rfl (by decide) (by decide) (by decide)) ?_
  show Go p e below _ (T1.setTop (mkF m 9 #[.val (.ref t1), .val (.int ch), .val (.int i), .val (.int (1 : Int32))] []))
  refine Go.via (fun _ => XS.iloadN X1.here hx rfl (hb hby d14_9) rfl) ?_
  show Go p e below _ (T1.setTop (mkF m 10 #[.val (.ref t1), .val (.int ch), .val (.int i), .val (.int (1 : Int32))] [(.int i)]))
  refine Go.via (fun _ => XS.iconst X1.here hx rfl (hb hby d14_10)) ?_
  show Go p e below _ (T1.setTop (mkF m 11 #[.val (.ref t1), .val (.int ch), .val (.int i), .val (.int (1 : Int32))] [(.int (0 : Int32)), (.int i)]))
  obtain ⟨_, _, ⟨T2, L2, k2, n2⟩, -, X2, ⟨Lc2, hQ2, l2, y2, z2⟩, st2⟩ := Jvm.LawKit.callS X1 hx (y := (⟨"java/lang/Math", "max", "(II)I"⟩ : MethodName)) hown (mvT hZ (hw _ (List.mem_of_getElem? (i := 81) rfl))) (mvT hZ (hw _ (List.mem_of_getElem? (i := 82) rfl))) (mvT hZ (hw _ (List.mem_of_getElem? (i := 83) rfl))) (mvT hZ (hw _ (List.mem_of_getElem? (i := 84) rfl))) (by decide) (backOf (W := 0) (rm_max_2 l Z a0 hw [] i (0 : Int32) h0 n0 Z0 hi) hZ (hw _ (List.mem_of_getElem? (i := 84) rfl)) (hw _ (List.mem_of_getElem? (i := 83) rfl)) (by decide) (by decide)) (g := (mkF m 11 #[.val (.ref t1), .val (.int ch), .val (.int i), .val (.int (1 : Int32))] [(.int (0 : Int32)), (.int i)])) rfl (by rw [hml]; rfl) (argsL := [(.int i), (.int (0 : Int32))]) (rest := []) (lenOf pd_6 rfl) rfl (by show 2 * 0 + _ ≤ _; exact Nat.le_of_eq rfl) (hb hby d14_11) (fun _ _ => ⟨rfl, e1q, (by decide : 0 + 0 ≤ _), (by decide : 0 + 0 ≤ _)⟩)
  dsimp only [Pt.U, Pt.locs, Pt.cells, Pt.slots] at X2 l2 y2 z2 st2 hQ2
  subst l2 y2 z2
  obtain ⟨rfl, N2q, e2q⟩ := hQ2
  have N2 := Fr.app N1 N2q
  refine Go.via st2 ?_
  show Go p e below _ (T2.setTop (mkF m 14 #[.val (.ref t1), .val (.int ch), .val (.int i), .val (.int (1 : Int32))] [(.int (0 : Int32))]))
  refine Go.via (fun _ => XS.istoreN X2.here hx rfl (hb hby d14_14) rfl (l' := #[.val (.ref t1), .val (.int ch), .val (.int (0 : Int32)), .val (.int (1 : Int32))]) rfl) ?_
  show Go p e below _ (T2.setTop (mkF m 15 #[.val (.ref t1), .val (.int ch), .val (.int (0 : Int32)), .val (.int (1 : Int32))] []))
  refine Go.via (fun _ => XS.iloadN X2.here hx rfl (hb hby d14_15) rfl) ?_
  show Go p e below _ (T2.setTop (mkF m 16 #[.val (.ref t1), .val (.int ch), .val (.int (0 : Int32)), .val (.int (1 : Int32))] [(.int (1 : Int32))]))
  refine Go.via (fun _ => XS.aloadN X2.here hx rfl (hb hby d14_16) rfl rfl) ?_
  show Go p e below _ (T2.setTop (mkF m 17 #[.val (.ref t1), .val (.int ch), .val (.int (0 : Int32)), .val (.int (1 : Int32))] [(.ref t1), (.int (1 : Int32))]))
  obtain ⟨cl3, Ar3, -, S3, N3n, -, -⟩ := id V2
  have al3 := X2.arraylength hx (by rw [e2q]; exact Ar3.1) (State.isArrayOf_alike hZ.alike Ar3.2.1) (g := (mkF m 17 #[.val (.ref t1), .val (.int ch), .val (.int (0 : Int32)), .val (.int (1 : Int32))] [(.ref t1), (.int (1 : Int32))])) rfl rfl (hb hby d14_17)
  rw [len_of S3 N3n] at al3
  refine Go.via al3 ?_
  show Go p e below _ (T2.setTop (mkF m 18 #[.val (.ref t1), .val (.int ch), .val (.int (0 : Int32)), .val (.int (1 : Int32))] [(.int (1 : Int32)), (.int (1 : Int32))]))
  obtain ⟨_, _, ⟨T4, L4, k4, n4⟩, -, X4, ⟨Lc4, hQ4, l4, y4, z4⟩, st4⟩ := Jvm.LawKit.callS X2 hx (y := (⟨"java/lang/Math", "min", "(II)I"⟩ : MethodName)) hown (mvT hZ (hw _ (List.mem_of_getElem? (i := 85) rfl))) (mvT hZ (hw _ (List.mem_of_getElem? (i := 86) rfl))) (mvT hZ (hw _ (List.mem_of_getElem? (i := 83) rfl))) (mvT hZ (hw _ (List.mem_of_getElem? (i := 87) rfl))) (by decide) (backOf (W := 0) (rm_min_1 l Z a0 hw [] (1 : Int32) (1 : Int32) h0 n0 Z0 (by decide)) hZ (hw _ (List.mem_of_getElem? (i := 87) rfl)) (hw _ (List.mem_of_getElem? (i := 83) rfl)) (by decide) (by decide)) (g := (mkF m 18 #[.val (.ref t1), .val (.int ch), .val (.int (0 : Int32)), .val (.int (1 : Int32))] [(.int (1 : Int32)), (.int (1 : Int32))])) rfl (by rw [hml]; rfl) (argsL := [(.int (1 : Int32)), (.int (1 : Int32))]) (rest := []) (lenOf pd_6 rfl) rfl (by show 2 * 0 + _ ≤ _; exact Nat.le_of_eq rfl) (hb hby d14_18) (fun _ _ => ⟨rfl, e2q, (by decide : 0 + 0 ≤ _), (by decide : 0 + 0 ≤ _)⟩)
  dsimp only [Pt.U, Pt.locs, Pt.cells, Pt.slots] at X4 l4 y4 z4 st4 hQ4
  subst l4 y4 z4
  obtain ⟨rfl, N4q, e4q⟩ := hQ4
  have N4 := Fr.app N2 N4q
  refine Go.via st4 ?_
  show Go p e below _ (T4.setTop (mkF m 21 #[.val (.ref t1), .val (.int ch), .val (.int (0 : Int32)), .val (.int (1 : Int32))] [(.int (1 : Int32))]))
  refine Go.via (fun _ => XS.istoreN X4.here hx rfl (hb hby d14_21) rfl (l' := #[.val (.ref t1), .val (.int ch), .val (.int (0 : Int32)), .val (.int (1 : Int32))]) rfl) ?_
  show Go p e below _ (T4.setTop (mkF m 22 #[.val (.ref t1), .val (.int ch), .val (.int (0 : Int32)), .val (.int (1 : Int32))] []))
  refine Go.via (fun _ => XS.iloadN X4.here hx rfl (hb hby d14_22) rfl) ?_
  show Go p e below _ (T4.setTop (mkF m 23 #[.val (.ref t1), .val (.int ch), .val (.int (0 : Int32)), .val (.int (1 : Int32))] [(.int (0 : Int32))]))
  refine Go.via (fun _ => XS.iloadN X4.here hx rfl (hb hby d14_23) rfl) ?_
  show Go p e below _ (T4.setTop (mkF m 24 #[.val (.ref t1), .val (.int ch), .val (.int (0 : Int32)), .val (.int (1 : Int32))] [(.int (1 : Int32)), (.int (0 : Int32))]))
  refine Go.via (fun _ => XS.icmpYes X4.here hx rfl (pc0 := 24) (pc' := 29) rfl (hb hby d14_24) rfl (by decide) (by decide) (by decide)) ?_
  show Go p e below _ (T4.setTop (mkF m 29 #[.val (.ref t1), .val (.int ch), .val (.int (0 : Int32)), .val (.int (1 : Int32))] []))
  refine Go.via (fun _ => XS.aloadN X4.here hx rfl (hb hby d14_29) rfl rfl) ?_
  show Go p e below _ (T4.setTop (mkF m 30 #[.val (.ref t1), .val (.int ch), .val (.int (0 : Int32)), .val (.int (1 : Int32))] [(.ref t1)]))
  refine Go.via (fun _ => XS.iloadN X4.here hx rfl (hb hby d14_30) rfl) ?_
  show Go p e below _ (T4.setTop (mkF m 31 #[.val (.ref t1), .val (.int ch), .val (.int (0 : Int32)), .val (.int (1 : Int32))] [(.int ch), (.ref t1)]))
  refine Go.via (fun _ => XS.iloadN X4.here hx rfl (hb hby d14_31) rfl) ?_
  show Go p e below _ (T4.setTop (mkF m 32 #[.val (.ref t1), .val (.int ch), .val (.int (0 : Int32)), .val (.int (1 : Int32))] [(.int (0 : Int32)), (.int ch), (.ref t1)]))
  refine Go.via (fun _ => XS.iloadN X4.here hx rfl (hb hby d14_32) rfl) ?_
  show Go p e below _ (T4.setTop (mkF m 33 #[.val (.ref t1), .val (.int ch), .val (.int (0 : Int32)), .val (.int (1 : Int32))] [(.int (1 : Int32)), (.int (0 : Int32)), (.int ch), (.ref t1)]))
  obtain ⟨_, _, ⟨T5, L5, k5, n5⟩, -, X5, ⟨Lc5, hQ5, l5, y5, z5⟩, st5⟩ := Jvm.LawKit.callS X4 hx (y := (⟨"java/lang/StringLatin1", "indexOfChar", "([BIII)I"⟩ : MethodName)) hown (mvT hZ (hw _ (List.mem_of_getElem? (i := 88) rfl))) (mvT hZ (hw _ (List.mem_of_getElem? (i := 89) rfl))) (mvT hZ (hw _ (List.mem_of_getElem? (i := 12) rfl))) (mvT hZ (hw _ (List.mem_of_getElem? (i := 90) rfl))) (by decide) (backOf (W := 0) (rmIxC_1_0 l Z a0 hw [] t1 kb c0 ch h0 n0 Z0 V2 qe0) hZ (hw _ (List.mem_of_getElem? (i := 90) rfl)) (hw _ (List.mem_of_getElem? (i := 12) rfl)) (by decide) (by decide)) (g := (mkF m 33 #[.val (.ref t1), .val (.int ch), .val (.int (0 : Int32)), .val (.int (1 : Int32))] [(.int (1 : Int32)), (.int (0 : Int32)), (.int ch), (.ref t1)])) rfl (by rw [hml]; rfl) (argsL := [(.ref t1), (.int ch), (.int (0 : Int32)), (.int (1 : Int32))]) (rest := []) (lenOf pd_7 rfl) rfl (by show 2 * 0 + _ ≤ _; exact Nat.le_of_eq rfl) (hb hby d14_33) (fun _ _ => ⟨rfl, e4q, (by decide : 0 + 0 ≤ _), (by decide : 0 + 0 ≤ _)⟩)
  dsimp only [Pt.U, Pt.locs, Pt.cells, Pt.slots] at X5 l5 y5 z5 st5 hQ5
  subst l5 y5 z5
  obtain ⟨rfl, N5q, e5q⟩ := hQ5
  have N5 := Fr.app N4 N5q
  refine Go.via st5 ?_
  show Go p e below _ (T5.setTop (mkF m 36 #[.val (.ref t1), .val (.int ch), .val (.int (0 : Int32)), .val (.int (1 : Int32))] [(.int (ix1 c0 ch (0 : Int32)))]))
  exact own_retI X5 hx hlk Bd.returns (hb hby d14_36) (by show QIxL_1_neg Z t1 kb c0 ch i h0 n0 _ T5.heap _; rw [e5q]; exact ⟨by rw [own_ixneg hi], N5, rfl⟩) (by decide) (by decide)
theorem ef_rmIxS_1_neg (m : MethodId) (x0 : Addr) (x1 : Int32) (x2 : Int32) : entryFrame m #[(.ref x0), (.int x1), (.int x2)] 3 = mkF m 0 #[.val (.ref x0), .val (.int x1), .val (.int x2)] [] := by first | (simp [entryFrame, mkF, argsToLocals, Value.category]; done) | rfl
set_option maxRecDepth 65536 in
set_option maxHeartbeats 40000000 in
theorem rmIxS_1_neg (l : Launch) (Z : State) (a0 : Array Value) (hw : ∀ d ∈ tables_1, d.before a0 Z = true) (ws : List Jvm.Cond) (a1 : Addr) (t1 : Addr) (kb : ClassId) (c0 : Int32) (ch : Int32) (i : Int32) (ccs : Int32) (vF : Value) (h0 : Heap) (n0 : Nat) (Z0 : n0 ≤ h0.size) (E1 : Exa Z h0 a1 "java/lang/String") (F1 : Fld Z h0 a1 "java/lang/String" "value" "[B" (.ref t1)) (F2 : Fld Z h0 a1 "java/lang/String" "coder" "B" (.int (0 : Int32))) (V2 : Arv Z h0 t1 kb .byte (1 : Int32) [(.int (nar .byte (c0.toInt8.toInt32)))] (.int (0 : Int32))) (qe0 : (nar .byte (c0.toInt8.toInt32) = ch.toInt8.toInt32) ↔ c0 = ch) (hc0 : ¬ (ch < (0 : Int32))) (hc1 : ¬ ((255 : Int32) < ch)) (O0 : Old Z n0 h0) (S_CS : Sta Z Z.heap "java/lang/String" "COMPACT_STRINGS" "Z" (.int ccs)) (hcs : ¬ (ccs = (0 : Int32))) (S_AD : Sta Z Z.heap "java/lang/StringUTF16" "$assertionsDisabled" "Z" (.int (1 : Int32))) (S_HI : Sta Z Z.heap "java/lang/StringUTF16" "HI_BYTE_SHIFT" "I" (.int (0 : Int32))) (S_LO : Sta Z Z.heap "java/lang/StringUTF16" "LO_BYTE_SHIFT" "I" (.int (8 : Int32))) (S_SF : Sta Z Z.heap "jdk/internal/util/Preconditions" "SIOOBE_FORMATTER" "Ljava/util/function/BiFunction;" vF) (rF : vF.isRef = true) (hi : i < (0 : Int32)) :
    MetFree l (⟨"java/lang/String", "indexOf", "(II)I"⟩ : MethodName) (head1 (Jvm.Cond.code (⟨"java/lang/String", "indexOf", "(II)I"⟩ : MethodName) jdk_42_method_80_code 3 (some .int) :: ws) ({ frames := 3, cells := 0, slots := 0, locals := 60 } : Room)) (fun a U => a = #[(.ref a1), (.int ch), (.int i)] ∧ Z.Warmed39 U.vm ∧ U.heap = h0) (fun _ _ _ _ _ => True) (fun _ U o U' => ∃ v L, o = .returned v ∧ QIx1 Z c0 ch i h0 n0 v U'.heap L ∧ FrameEnd U o U' L ({ frames := 3, cells := 0, slots := 0, locals := 60 } : Room).cells ({ frames := 3, cells := 0, slots := 0, locals := 60 } : Room).slots) := by
  refine MetFree.of_bodySF (plainFor_of_name pn_java_lang_String) hisR ?_
  intro p e s m args below meth c s₁ Bd hml0 hP hK
  obtain ⟨rfl, hZ, hh⟩ := hP
  have hx := Bd.exec
  have hby := Bd.bytes
  have hlk : meth.locks = false := Bd.notSynchronized
  have hml : c.maxLocals = 3 := hml0
  have hown : s.vm.findClass "java/lang/String" = some m.cls := findClass_of_methodNamed Bd.named
  have hnm := (name_of_methodNamed Bd.named Bd.method).1
  have X0 : Stand p l e ({ frames := 3, cells := 0, slots := 0, locals := 60 } : Room) s m #[(.ref a1), (.int ch), (.int i)] below meth c s₁ [] 0 0 := Stand.of_body Bd
  have e0 : s₁.heap = h0 := by rw [← hh, Bd.state]; rfl
  have N0 := Fr.nil n0
  show Go p e below (FinE s below (QIx1 Z c0 ch i h0 n0) ({ frames := 3, cells := 0, slots := 0, locals := 60 } : Room).cells ({ frames := 3, cells := 0, slots := 0, locals := 60 } : Room).slots) (s₁.setTop (entryFrame m #[(.ref a1), (.int ch), (.int i)] 3))
  refine Go.via (fun t k => castTop (ef_rmIxS_1_neg m a1 ch i) k) ?_
  show Go p e below _ (s₁.setTop (mkF m 0 #[.val (.ref a1), .val (.int ch), .val (.int i)] []))
  refine Go.via (fun _ => XS.aloadN X0.here hx rfl (hb hby d10_0) rfl rfl) ?_
  show Go p e below _ (s₁.setTop (mkF m 1 #[.val (.ref a1), .val (.int ch), .val (.int i)] [(.ref a1)]))
  obtain ⟨cq1, kq1, q1a, q1b, q1c⟩ := isOf hZ e0 E1
  obtain ⟨_, _, ⟨T1, L1, k1, n1⟩, -, X1, ⟨Lc1, hQ1, l1, y1, z1⟩, st1⟩ := X0.virtualBack hx (y := (⟨"java/lang/String", "isLatin1", "()Z"⟩ : MethodName)) (z := (⟨"java/lang/String", "isLatin1", "()Z"⟩ : MethodName)) hown (mvT hZ (hw _ (List.mem_of_getElem? (i := 60) rfl))) (mvT hZ (hw _ (List.mem_of_getElem? (i := 61) rfl))) (notFace_of_selects (args := #[]) (mvT hZ (hw _ (List.mem_of_getElem? (i := 63) rfl)))) (mvT hZ (hw _ (List.mem_of_getElem? (i := 63) rfl))) (mvT hZ (hw _ (List.mem_of_getElem? (i := 62) rfl))) (by decide) (backOf (W := 0) (rmIsLat l Z a0 hw [] a1 ccs vF h0 n0 Z0 F2 O0 S_CS hcs S_AD S_HI S_LO S_SF rF) hZ (hw _ (List.mem_of_getElem? (i := 64) rfl)) (hw _ (List.mem_of_getElem? (i := 7) rfl)) (by decide) (by decide)) q1a q1c (g := (mkF m 1 #[.val (.ref a1), .val (.int ch), .val (.int i)] [(.ref a1)])) rfl (by rw [hml]; rfl) (Steps.refl _) (argsL := []) (rest := []) (lenOf pd_8 rfl) rfl (by show 2 * 0 + _ ≤ _; exact Nat.le_of_eq rfl) (hb hby d10_1) (fun _ _ => ⟨rfl, e0, (by decide : 0 + 0 ≤ _), (by decide : 0 + 0 ≤ _)⟩)
  dsimp only [Pt.U, Pt.locs, Pt.cells, Pt.slots] at X1 l1 y1 z1 st1 hQ1
  subst l1 y1 z1
  obtain ⟨rfl, N1q, e1q⟩ := hQ1
  have N1 := Fr.app N0 N1q
  refine Go.tr st1 ?_
  show Go p e below _ (T1.setTop (mkF m 4 #[.val (.ref a1), .val (.int ch), .val (.int i)] [(.int (1 : Int32))]))
  refine Go.via (fun _ => XS.ifNo X1.here hx rfl (hb hby d10_4) rfl (by decide)) ?_
  show Go p e below _ (T1.setTop (mkF m 7 #[.val (.ref a1), .val (.int ch), .val (.int i)] []))
  refine Go.via (fun _ => XS.aloadN X1.here hx rfl (hb hby d10_7) rfl rfl) ?_
  show Go p e below _ (T1.setTop (mkF m 8 #[.val (.ref a1), .val (.int ch), .val (.int i)] [(.ref a1)]))
  obtain ⟨T2, X2, e2, st2⟩ := getF X1 hx hZ hown (host := "") (Or.inl (hw _ (List.mem_of_getElem? (i := 27) rfl))) Via.refl e1q F1 (g := (mkF m 8 #[.val (.ref a1), .val (.int ch), .val (.int i)] [(.ref a1)])) rfl rfl (hb hby d10_8)
  refine Go.via st2 ?_
  show Go p e below _ (T2.setTop (mkF m 11 #[.val (.ref a1), .val (.int ch), .val (.int i)] [(.ref t1)]))
  refine Go.via (fun _ => XS.iloadN X2.here hx rfl (hb hby d10_11) rfl) ?_
  show Go p e below _ (T2.setTop (mkF m 12 #[.val (.ref a1), .val (.int ch), .val (.int i)] [(.int ch), (.ref t1)]))
  refine Go.via (fun _ => XS.iloadN X2.here hx rfl (hb hby d10_12) rfl) ?_
  show Go p e below _ (T2.setTop (mkF m 13 #[.val (.ref a1), .val (.int ch), .val (.int i)] [(.int i), (.int ch), (.ref t1)]))
  refine Go.via (fun _ => XS.aloadN X2.here hx rfl (hb hby d10_13) rfl rfl) ?_
  show Go p e below _ (T2.setTop (mkF m 14 #[.val (.ref a1), .val (.int ch), .val (.int i)] [(.ref a1), (.int i), (.int ch), (.ref t1)]))
  obtain ⟨cq3, kq3, q3a, q3b, q3c⟩ := isOf hZ e2 E1
  obtain ⟨_, _, ⟨T3, L3, k3, n3⟩, -, X3, ⟨Lc3, hQ3, l3, y3, z3⟩, st3⟩ := X2.virtualBack hx (y := (⟨"java/lang/String", "length", "()I"⟩ : MethodName)) (z := (⟨"java/lang/String", "length", "()I"⟩ : MethodName)) hown (mvT hZ (hw _ (List.mem_of_getElem? (i := 65) rfl))) (mvT hZ (hw _ (List.mem_of_getElem? (i := 66) rfl))) (notFace_of_selects (args := #[]) (mvT hZ (hw _ (List.mem_of_getElem? (i := 68) rfl)))) (mvT hZ (hw _ (List.mem_of_getElem? (i := 68) rfl))) (mvT hZ (hw _ (List.mem_of_getElem? (i := 67) rfl))) (by decide) (backOf (W := 3) (rmLen_1 l Z a0 hw [] a1 t1 kb _ ccs vF h0 n0 Z0 E1 F1 F2 V2 O0 S_CS hcs S_AD S_HI S_LO S_SF rF) hZ (hw _ (List.mem_of_getElem? (i := 69) rfl)) (hw _ (List.mem_of_getElem? (i := 7) rfl)) (by decide) (by decide)) q3a q3c (g := (mkF m 14 #[.val (.ref a1), .val (.int ch), .val (.int i)] [(.ref a1), (.int i), (.int ch), (.ref t1)])) rfl (by rw [hml]; rfl) (Steps.refl _) (argsL := []) (rest := [(.int i), (.int ch), (.ref t1)]) (lenOf pd_9 rfl) rfl (by show 2 * 0 + _ ≤ _; exact Nat.le_of_eq rfl) (hb hby d10_14) (fun _ _ => ⟨rfl, e2, (by decide : 0 + 0 ≤ _), (by decide : 0 + 0 ≤ _)⟩)
  dsimp only [Pt.U, Pt.locs, Pt.cells, Pt.slots] at X3 l3 y3 z3 st3 hQ3
  subst l3 y3 z3
  obtain ⟨rfl, N3q, e3q⟩ := hQ3
  have N3 := Fr.app N1 N3q
  refine Go.tr st3 ?_
  show Go p e below _ (T3.setTop (mkF m 17 #[.val (.ref a1), .val (.int ch), .val (.int i)] [(.int (1 : Int32)), (.int i), (.int ch), (.ref t1)]))
  obtain ⟨_, _, ⟨T4, L4, k4, n4⟩, -, X4, ⟨Lc4, hQ4, l4, y4, z4⟩, st4⟩ := Jvm.LawKit.callS X3 hx (y := (⟨"java/lang/StringLatin1", "indexOf", "([BIII)I"⟩ : MethodName)) hown (mvT hZ (hw _ (List.mem_of_getElem? (i := 75) rfl))) (mvT hZ (hw _ (List.mem_of_getElem? (i := 76) rfl))) (mvT hZ (hw _ (List.mem_of_getElem? (i := 12) rfl))) (mvT hZ (hw _ (List.mem_of_getElem? (i := 77) rfl))) (by decide) (backOf (W := 0) (rmIxL_1_neg l Z a0 hw [] t1 kb c0 ch i h0 n0 Z0 V2 qe0 hc0 hc1 hi) hZ (hw _ (List.mem_of_getElem? (i := 77) rfl)) (hw _ (List.mem_of_getElem? (i := 12) rfl)) (by decide) (by decide)) (g := (mkF m 17 #[.val (.ref a1), .val (.int ch), .val (.int i)] [(.int (1 : Int32)), (.int i), (.int ch), (.ref t1)])) rfl (by rw [hml]; rfl) (argsL := [(.ref t1), (.int ch), (.int i), (.int (1 : Int32))]) (rest := []) (lenOf pd_7 rfl) rfl (by show 2 * 0 + _ ≤ _; exact Nat.le_of_eq rfl) (hb hby d10_17) (fun _ _ => ⟨rfl, e3q, (by decide : 0 + 0 ≤ _), (by decide : 0 + 0 ≤ _)⟩)
  dsimp only [Pt.U, Pt.locs, Pt.cells, Pt.slots] at X4 l4 y4 z4 st4 hQ4
  subst l4 y4 z4
  obtain ⟨rfl, N4q, e4q⟩ := hQ4
  have N4 := Fr.app N3 N4q
  refine Go.via st4 ?_
  show Go p e below _ (T4.setTop (mkF m 20 #[.val (.ref a1), .val (.int ch), .val (.int i)] [(.int (ix1 c0 ch i))]))
  refine Go.via (fun _ => XS.goto X4.here hx rfl (pc0 := 20) (pc' := 36) rfl (hb hby d10_20) (by decide) (by decide)) ?_
  show Go p e below _ (T4.setTop (mkF m 36 #[.val (.ref a1), .val (.int ch), .val (.int i)] [(.int (ix1 c0 ch i))]))
  exact own_retI X4 hx hlk Bd.returns (hb hby d10_36) (by show QIx1 Z c0 ch i h0 n0 _ T4.heap _; rw [e4q]; exact ⟨rfl, N4, rfl⟩) (by decide) (by decide)
theorem ef_rm_max_1 (m : MethodId) (x0 : Int32) (x1 : Int32) : entryFrame m #[(.int x0), (.int x1)] 2 = mkF m 0 #[.val (.int x0), .val (.int x1)] [] := by first | (simp [entryFrame, mkF, argsToLocals, Value.category]; done) | rfl
def Q_max_1 (Z : State) (p1 : Int32) (p2 : Int32) (h0 : Heap) (n0 : Nat) (v : Option Value) (h : Heap) (L : List Loc) : Prop := v = some (.int p1) ∧ Fr n0 L ∧ h = h0
set_option maxRecDepth 65536 in
set_option maxHeartbeats 40000000 in
theorem rm_max_1 (l : Launch) (Z : State) (a0 : Array Value) (hw : ∀ d ∈ tables_1, d.before a0 Z = true) (ws : List Jvm.Cond) (p1 : Int32) (p2 : Int32) (h0 : Heap) (n0 : Nat) (Z0 : n0 ≤ h0.size) (hm : ¬ (p1 < p2)) :
    MetFree l (⟨"java/lang/Math", "max", "(II)I"⟩ : MethodName) (head1 (Jvm.Cond.code (⟨"java/lang/Math", "max", "(II)I"⟩ : MethodName) jdk_29_method_65_code 2 (some .int) :: ws) ({ frames := 0, cells := 0, slots := 0, locals := 0 } : Room)) (fun a U => a = #[(.int p1), (.int p2)] ∧ Z.Warmed39 U.vm ∧ U.heap = h0) (fun _ _ _ _ _ => True) (fun _ U o U' => ∃ v L, o = .returned v ∧ Q_max_1 Z p1 p2 h0 n0 v U'.heap L ∧ FrameEnd U o U' L ({ frames := 0, cells := 0, slots := 0, locals := 0 } : Room).cells ({ frames := 0, cells := 0, slots := 0, locals := 0 } : Room).slots) := by
  refine MetFree.of_bodySF (Jvm.Free.JP.mathPlain rfl (by decide +kernel)) hisR ?_
  intro p e s m args below meth c s₁ Bd hml0 hP hK
  obtain ⟨rfl, hZ, hh⟩ := hP
  have hx := Bd.exec
  have hby := Bd.bytes
  have hlk : meth.locks = false := Bd.notSynchronized
  have hml : c.maxLocals = 2 := hml0
  have hown : s.vm.findClass "java/lang/Math" = some m.cls := findClass_of_methodNamed Bd.named
  have hnm := (name_of_methodNamed Bd.named Bd.method).1
  have X0 : Stand p l e ({ frames := 0, cells := 0, slots := 0, locals := 0 } : Room) s m #[(.int p1), (.int p2)] below meth c s₁ [] 0 0 := Stand.of_body Bd
  have e0 : s₁.heap = h0 := by rw [← hh, Bd.state]; rfl
  have N0 := Fr.nil n0
  show Go p e below (FinE s below (Q_max_1 Z p1 p2 h0 n0) ({ frames := 0, cells := 0, slots := 0, locals := 0 } : Room).cells ({ frames := 0, cells := 0, slots := 0, locals := 0 } : Room).slots) (s₁.setTop (entryFrame m #[(.int p1), (.int p2)] 2))
  refine Go.via (fun t k => castTop (ef_rm_max_1 m p1 p2) k) ?_
  show Go p e below _ (s₁.setTop (mkF m 0 #[.val (.int p1), .val (.int p2)] []))
  refine Go.via (fun _ => XS.iloadN X0.here hx rfl (hb hby d16_0) rfl) ?_
  show Go p e below _ (s₁.setTop (mkF m 1 #[.val (.int p1), .val (.int p2)] [(.int p1)]))
  refine Go.via (fun _ => XS.iloadN X0.here hx rfl (hb hby d16_1) rfl) ?_
  show Go p e below _ (s₁.setTop (mkF m 2 #[.val (.int p1), .val (.int p2)] [(.int p2), (.int p1)]))
  refine Go.via (fun _ => XS.icmpNo X0.here hx rfl (hb hby d16_2) rfl (flt hm).1) ?_
  show Go p e below _ (s₁.setTop (mkF m 5 #[.val (.int p1), .val (.int p2)] []))
  refine Go.via (fun _ => XS.iloadN X0.here hx rfl (hb hby d16_5) rfl) ?_
  show Go p e below _ (s₁.setTop (mkF m 6 #[.val (.int p1), .val (.int p2)] [(.int p1)]))
  refine Go.via (fun _ => XS.goto X0.here hx rfl (pc0 := 6) (pc' := 10) rfl (hb hby d16_6) (by decide) (by decide)) ?_
  show Go p e below _ (s₁.setTop (mkF m 10 #[.val (.int p1), .val (.int p2)] [(.int p1)]))
  exact own_retI X0 hx hlk Bd.returns (hb hby d16_10) (by show Q_max_1 Z p1 p2 h0 n0 _ s₁.heap _; rw [e0]; exact ⟨rfl, N0, rfl⟩) (by decide) (by decide)
theorem ef_rmIxL_1_0 (m : MethodId) (x0 : Addr) (x1 : Int32) : entryFrame m #[(.ref x0), (.int x1), (.int (0 : Int32)), (.int (1 : Int32))] 4 = mkF m 0 #[.val (.ref x0), .val (.int x1), .val (.int (0 : Int32)), .val (.int (1 : Int32))] [] := by first | (simp [entryFrame, mkF, argsToLocals, Value.category]; done) | rfl
def QIxL_1_0 (Z : State) (t1 : Addr) (kb : ClassId) (c0 : Int32) (ch : Int32) (h0 : Heap) (n0 : Nat) (v : Option Value) (h : Heap) (L : List Loc) : Prop := v = some (.int (ix1 c0 ch (0 : Int32))) ∧ Fr n0 L ∧ h = h0
set_option maxRecDepth 65536 in
set_option maxHeartbeats 40000000 in
theorem rmIxL_1_0 (l : Launch) (Z : State) (a0 : Array Value) (hw : ∀ d ∈ tables_1, d.before a0 Z = true) (ws : List Jvm.Cond) (t1 : Addr) (kb : ClassId) (c0 : Int32) (ch : Int32) (h0 : Heap) (n0 : Nat) (Z0 : n0 ≤ h0.size) (V2 : Arv Z h0 t1 kb .byte (1 : Int32) [(.int (nar .byte (c0.toInt8.toInt32)))] (.int (0 : Int32))) (qe0 : (nar .byte (c0.toInt8.toInt32) = ch.toInt8.toInt32) ↔ c0 = ch) (hc0 : ¬ (ch < (0 : Int32))) (hc1 : ¬ ((255 : Int32) < ch)) :
    MetFree l (⟨"java/lang/StringLatin1", "indexOf", "([BIII)I"⟩ : MethodName) (head1 (Jvm.Cond.code (⟨"java/lang/StringLatin1", "indexOf", "([BIII)I"⟩ : MethodName) jdk_43_method_22_code 4 (some .int) :: ws) ({ frames := 1, cells := 0, slots := 0, locals := 17 } : Room)) (fun a U => a = #[(.ref t1), (.int ch), (.int (0 : Int32)), (.int (1 : Int32))] ∧ Z.Warmed39 U.vm ∧ U.heap = h0) (fun _ _ _ _ _ => True) (fun _ U o U' => ∃ v L, o = .returned v ∧ QIxL_1_0 Z t1 kb c0 ch h0 n0 v U'.heap L ∧ FrameEnd U o U' L ({ frames := 1, cells := 0, slots := 0, locals := 17 } : Room).cells ({ frames := 1, cells := 0, slots := 0, locals := 17 } : Room).slots) := by
  refine MetFree.of_bodySF (plainFor_of_name pn_java_lang_StringLatin1) hisR ?_
  intro p e s m args below meth c s₁ Bd hml0 hP hK
  obtain ⟨rfl, hZ, hh⟩ := hP
  have hx := Bd.exec
  have hby := Bd.bytes
  have hlk : meth.locks = false := Bd.notSynchronized
  have hml : c.maxLocals = 4 := hml0
  have hown : s.vm.findClass "java/lang/StringLatin1" = some m.cls := findClass_of_methodNamed Bd.named
  have hnm := (name_of_methodNamed Bd.named Bd.method).1
  have X0 : Stand p l e ({ frames := 1, cells := 0, slots := 0, locals := 17 } : Room) s m #[(.ref t1), (.int ch), (.int (0 : Int32)), (.int (1 : Int32))] below meth c s₁ [] 0 0 := Stand.of_body Bd
  have e0 : s₁.heap = h0 := by rw [← hh, Bd.state]; rfl
  have N0 := Fr.nil n0
  show Go p e below (FinE s below (QIxL_1_0 Z t1 kb c0 ch h0 n0) ({ frames := 1, cells := 0, slots := 0, locals := 17 } : Room).cells ({ frames := 1, cells := 0, slots := 0, locals := 17 } : Room).slots) (s₁.setTop (entryFrame m #[(.ref t1), (.int ch), (.int (0 : Int32)), (.int (1 : Int32))] 4))
  refine Go.via (fun t k => castTop (ef_rmIxL_1_0 m t1 ch) k) ?_
  show Go p e below _ (s₁.setTop (mkF m 0 #[.val (.ref t1), .val (.int ch), .val (.int (0 : Int32)), .val (.int (1 : Int32))] []))
  refine Go.via (fun _ => XS.iloadN X0.here hx rfl (hb hby d14_0) rfl) ?_
  show Go p e below _ (s₁.setTop (mkF m 1 #[.val (.ref t1), .val (.int ch), .val (.int (0 : Int32)), .val (.int (1 : Int32))] [(.int ch)]))
  obtain ⟨_, _, ⟨T1, L1, k1, n1⟩, -, X1, ⟨Lc1, hQ1, l1, y1, z1⟩, st1⟩ := Jvm.LawKit.callS X0 hx (y := (⟨"java/lang/StringLatin1", "canEncode", "(I)Z"⟩ : MethodName)) hown (mvT hZ (hw _ (List.mem_of_getElem? (i := 78) rfl))) (mvT hZ (hw _ (List.mem_of_getElem? (i := 79) rfl))) (mvT hZ (hw _ (List.mem_of_getElem? (i := 12) rfl))) (mvT hZ (hw _ (List.mem_of_getElem? (i := 80) rfl))) (by decide) (backOf (W := 0) (rmCanI l Z a0 hw [] ch h0 n0 Z0 hc0 hc1) hZ (hw _ (List.mem_of_getElem? (i := 80) rfl)) (hw _ (List.mem_of_getElem? (i := 12) rfl)) (by decide) (by decide)) (g := (mkF m 1 #[.val (.ref t1), .val (.int ch), .val (.int (0 : Int32)), .val (.int (1 : Int32))] [(.int ch)])) rfl (by rw [hml]; rfl) (argsL := [(.int ch)]) (rest := []) (lenOf pd_5 rfl) rfl (by show 2 * 0 + _ ≤ _; exact Nat.le_of_eq rfl) (hb hby d14_1) (fun _ _ => ⟨rfl, e0, (by decide : 0 + 0 ≤ _), (by decide : 0 + 0 ≤ _)⟩)
  dsimp only [Pt.U, Pt.locs, Pt.cells, Pt.slots] at X1 l1 y1 z1 st1 hQ1
  subst l1 y1 z1
  obtain ⟨rfl, N1q, e1q⟩ := hQ1
  have N1 := Fr.app N0 N1q
  refine Go.via st1 ?_
  show Go p e below _ (T1.setTop (mkF m 4 #[.val (.ref t1), .val (.int ch), .val (.int (0 : Int32)), .val (.int (1 : Int32))] [(.int (1 : Int32))]))
  refine Go.via (fun _ => XS.ifYes X1.here hx rfl (pc0 := 4) (pc' := 9) rfl (hb hby d14_4) rfl (by decide) (by decide) (by decide)) ?_
  show Go p e below _ (T1.setTop (mkF m 9 #[.val (.ref t1), .val (.int ch), .val (.int (0 : Int32)), .val (.int (1 : Int32))] []))
  refine Go.via (fun _ => XS.iloadN X1.here hx rfl (hb hby d14_9) rfl) ?_
  show Go p e below _ (T1.setTop (mkF m 10 #[.val (.ref t1), .val (.int ch), .val (.int (0 : Int32)), .val (.int (1 : Int32))] [(.int (0 : Int32))]))
  refine Go.via (fun _ => XS.iconst X1.here hx rfl (hb hby d14_10)) ?_
  show Go p e below _ (T1.setTop (mkF m 11 #[.val (.ref t1), .val (.int ch), .val (.int (0 : Int32)), .val (.int (1 : Int32))] [(.int (0 : Int32)), (.int (0 : Int32))]))
  obtain ⟨_, _, ⟨T2, L2, k2, n2⟩, -, X2, ⟨Lc2, hQ2, l2, y2, z2⟩, st2⟩ := Jvm.LawKit.callS X1 hx (y := (⟨"java/lang/Math", "max", "(II)I"⟩ : MethodName)) hown (mvT hZ (hw _ (List.mem_of_getElem? (i := 81) rfl))) (mvT hZ (hw _ (List.mem_of_getElem? (i := 82) rfl))) (mvT hZ (hw _ (List.mem_of_getElem? (i := 83) rfl))) (mvT hZ (hw _ (List.mem_of_getElem? (i := 84) rfl))) (by decide) (backOf (W := 0) (rm_max_1 l Z a0 hw [] (0 : Int32) (0 : Int32) h0 n0 Z0 (by decide)) hZ (hw _ (List.mem_of_getElem? (i := 84) rfl)) (hw _ (List.mem_of_getElem? (i := 83) rfl)) (by decide) (by decide)) (g := (mkF m 11 #[.val (.ref t1), .val (.int ch), .val (.int (0 : Int32)), .val (.int (1 : Int32))] [(.int (0 : Int32)), (.int (0 : Int32))])) rfl (by rw [hml]; rfl) (argsL := [(.int (0 : Int32)), (.int (0 : Int32))]) (rest := []) (lenOf pd_6 rfl) rfl (by show 2 * 0 + _ ≤ _; exact Nat.le_of_eq rfl) (hb hby d14_11) (fun _ _ => ⟨rfl, e1q, (by decide : 0 + 0 ≤ _), (by decide : 0 + 0 ≤ _)⟩)
  dsimp only [Pt.U, Pt.locs, Pt.cells, Pt.slots] at X2 l2 y2 z2 st2 hQ2
  subst l2 y2 z2
  obtain ⟨rfl, N2q, e2q⟩ := hQ2
  have N2 := Fr.app N1 N2q
  refine Go.via st2 ?_
  show Go p e below _ (T2.setTop (mkF m 14 #[.val (.ref t1), .val (.int ch), .val (.int (0 : Int32)), .val (.int (1 : Int32))] [(.int (0 : Int32))]))
  refine Go.via (fun _ => XS.istoreN X2.here hx rfl (hb hby d14_14) rfl (l' := #[.val (.ref t1), .val (.int ch), .val (.int (0 : Int32)), .val (.int (1 : Int32))]) rfl) ?_
  show Go p e below _ (T2.setTop (mkF m 15 #[.val (.ref t1), .val (.int ch), .val (.int (0 : Int32)), .val (.int (1 : Int32))] []))
  refine Go.via (fun _ => XS.iloadN X2.here hx rfl (hb hby d14_15) rfl) ?_
  show Go p e below _ (T2.setTop (mkF m 16 #[.val (.ref t1), .val (.int ch), .val (.int (0 : Int32)), .val (.int (1 : Int32))] [(.int (1 : Int32))]))
  refine Go.via (fun _ => XS.aloadN X2.here hx rfl (hb hby d14_16) rfl rfl) ?_
  show Go p e below _ (T2.setTop (mkF m 17 #[.val (.ref t1), .val (.int ch), .val (.int (0 : Int32)), .val (.int (1 : Int32))] [(.ref t1), (.int (1 : Int32))]))
  obtain ⟨cl3, Ar3, -, S3, N3n, -, -⟩ := id V2
  have al3 := X2.arraylength hx (by rw [e2q]; exact Ar3.1) (State.isArrayOf_alike hZ.alike Ar3.2.1) (g := (mkF m 17 #[.val (.ref t1), .val (.int ch), .val (.int (0 : Int32)), .val (.int (1 : Int32))] [(.ref t1), (.int (1 : Int32))])) rfl rfl (hb hby d14_17)
  rw [len_of S3 N3n] at al3
  refine Go.via al3 ?_
  show Go p e below _ (T2.setTop (mkF m 18 #[.val (.ref t1), .val (.int ch), .val (.int (0 : Int32)), .val (.int (1 : Int32))] [(.int (1 : Int32)), (.int (1 : Int32))]))
  obtain ⟨_, _, ⟨T4, L4, k4, n4⟩, -, X4, ⟨Lc4, hQ4, l4, y4, z4⟩, st4⟩ := Jvm.LawKit.callS X2 hx (y := (⟨"java/lang/Math", "min", "(II)I"⟩ : MethodName)) hown (mvT hZ (hw _ (List.mem_of_getElem? (i := 85) rfl))) (mvT hZ (hw _ (List.mem_of_getElem? (i := 86) rfl))) (mvT hZ (hw _ (List.mem_of_getElem? (i := 83) rfl))) (mvT hZ (hw _ (List.mem_of_getElem? (i := 87) rfl))) (by decide) (backOf (W := 0) (rm_min_1 l Z a0 hw [] (1 : Int32) (1 : Int32) h0 n0 Z0 (by decide)) hZ (hw _ (List.mem_of_getElem? (i := 87) rfl)) (hw _ (List.mem_of_getElem? (i := 83) rfl)) (by decide) (by decide)) (g := (mkF m 18 #[.val (.ref t1), .val (.int ch), .val (.int (0 : Int32)), .val (.int (1 : Int32))] [(.int (1 : Int32)), (.int (1 : Int32))])) rfl (by rw [hml]; rfl) (argsL := [(.int (1 : Int32)), (.int (1 : Int32))]) (rest := []) (lenOf pd_6 rfl) rfl (by show 2 * 0 + _ ≤ _; exact Nat.le_of_eq rfl) (hb hby d14_18) (fun _ _ => ⟨rfl, e2q, (by decide : 0 + 0 ≤ _), (by decide : 0 + 0 ≤ _)⟩)
  dsimp only [Pt.U, Pt.locs, Pt.cells, Pt.slots] at X4 l4 y4 z4 st4 hQ4
  subst l4 y4 z4
  obtain ⟨rfl, N4q, e4q⟩ := hQ4
  have N4 := Fr.app N2 N4q
  refine Go.via st4 ?_
  show Go p e below _ (T4.setTop (mkF m 21 #[.val (.ref t1), .val (.int ch), .val (.int (0 : Int32)), .val (.int (1 : Int32))] [(.int (1 : Int32))]))
  refine Go.via (fun _ => XS.istoreN X4.here hx rfl (hb hby d14_21) rfl (l' := #[.val (.ref t1), .val (.int ch), .val (.int (0 : Int32)), .val (.int (1 : Int32))]) rfl) ?_
  show Go p e below _ (T4.setTop (mkF m 22 #[.val (.ref t1), .val (.int ch), .val (.int (0 : Int32)), .val (.int (1 : Int32))] []))
  refine Go.via (fun _ => XS.iloadN X4.here hx rfl (hb hby d14_22) rfl) ?_
  show Go p e below _ (T4.setTop (mkF m 23 #[.val (.ref t1), .val (.int ch), .val (.int (0 : Int32)), .val (.int (1 : Int32))] [(.int (0 : Int32))]))
  refine Go.via (fun _ => XS.iloadN X4.here hx rfl (hb hby d14_23) rfl) ?_
  show Go p e below _ (T4.setTop (mkF m 24 #[.val (.ref t1), .val (.int ch), .val (.int (0 : Int32)), .val (.int (1 : Int32))] [(.int (1 : Int32)), (.int (0 : Int32))]))
  refine Go.via (fun _ => XS.icmpYes X4.here hx rfl (pc0 := 24) (pc' := 29) rfl (hb hby d14_24) rfl (by decide) (by decide) (by decide)) ?_
  show Go p e below _ (T4.setTop (mkF m 29 #[.val (.ref t1), .val (.int ch), .val (.int (0 : Int32)), .val (.int (1 : Int32))] []))
  refine Go.via (fun _ => XS.aloadN X4.here hx rfl (hb hby d14_29) rfl rfl) ?_
  show Go p e below _ (T4.setTop (mkF m 30 #[.val (.ref t1), .val (.int ch), .val (.int (0 : Int32)), .val (.int (1 : Int32))] [(.ref t1)]))
  refine Go.via (fun _ => XS.iloadN X4.here hx rfl (hb hby d14_30) rfl) ?_
  show Go p e below _ (T4.setTop (mkF m 31 #[.val (.ref t1), .val (.int ch), .val (.int (0 : Int32)), .val (.int (1 : Int32))] [(.int ch), (.ref t1)]))
  refine Go.via (fun _ => XS.iloadN X4.here hx rfl (hb hby d14_31) rfl) ?_
  show Go p e below _ (T4.setTop (mkF m 32 #[.val (.ref t1), .val (.int ch), .val (.int (0 : Int32)), .val (.int (1 : Int32))] [(.int (0 : Int32)), (.int ch), (.ref t1)]))
  refine Go.via (fun _ => XS.iloadN X4.here hx rfl (hb hby d14_32) rfl) ?_
  show Go p e below _ (T4.setTop (mkF m 33 #[.val (.ref t1), .val (.int ch), .val (.int (0 : Int32)), .val (.int (1 : Int32))] [(.int (1 : Int32)), (.int (0 : Int32)), (.int ch), (.ref t1)]))
  obtain ⟨_, _, ⟨T5, L5, k5, n5⟩, -, X5, ⟨Lc5, hQ5, l5, y5, z5⟩, st5⟩ := Jvm.LawKit.callS X4 hx (y := (⟨"java/lang/StringLatin1", "indexOfChar", "([BIII)I"⟩ : MethodName)) hown (mvT hZ (hw _ (List.mem_of_getElem? (i := 88) rfl))) (mvT hZ (hw _ (List.mem_of_getElem? (i := 89) rfl))) (mvT hZ (hw _ (List.mem_of_getElem? (i := 12) rfl))) (mvT hZ (hw _ (List.mem_of_getElem? (i := 90) rfl))) (by decide) (backOf (W := 0) (rmIxC_1_0 l Z a0 hw [] t1 kb c0 ch h0 n0 Z0 V2 qe0) hZ (hw _ (List.mem_of_getElem? (i := 90) rfl)) (hw _ (List.mem_of_getElem? (i := 12) rfl)) (by decide) (by decide)) (g := (mkF m 33 #[.val (.ref t1), .val (.int ch), .val (.int (0 : Int32)), .val (.int (1 : Int32))] [(.int (1 : Int32)), (.int (0 : Int32)), (.int ch), (.ref t1)])) rfl (by rw [hml]; rfl) (argsL := [(.ref t1), (.int ch), (.int (0 : Int32)), (.int (1 : Int32))]) (rest := []) (lenOf pd_7 rfl) rfl (by show 2 * 0 + _ ≤ _; exact Nat.le_of_eq rfl) (hb hby d14_33) (fun _ _ => ⟨rfl, e4q, (by decide : 0 + 0 ≤ _), (by decide : 0 + 0 ≤ _)⟩)
  dsimp only [Pt.U, Pt.locs, Pt.cells, Pt.slots] at X5 l5 y5 z5 st5 hQ5
  subst l5 y5 z5
  obtain ⟨rfl, N5q, e5q⟩ := hQ5
  have N5 := Fr.app N4 N5q
  refine Go.via st5 ?_
  show Go p e below _ (T5.setTop (mkF m 36 #[.val (.ref t1), .val (.int ch), .val (.int (0 : Int32)), .val (.int (1 : Int32))] [(.int (ix1 c0 ch (0 : Int32)))]))
  exact own_retI X5 hx hlk Bd.returns (hb hby d14_36) (by show QIxL_1_0 Z t1 kb c0 ch h0 n0 _ T5.heap _; rw [e5q]; exact ⟨rfl, N5, rfl⟩) (by decide) (by decide)
theorem ef_rmIxS_1_0 (m : MethodId) (x0 : Addr) (x1 : Int32) : entryFrame m #[(.ref x0), (.int x1), (.int (0 : Int32))] 3 = mkF m 0 #[.val (.ref x0), .val (.int x1), .val (.int (0 : Int32))] [] := by first | (simp [entryFrame, mkF, argsToLocals, Value.category]; done) | rfl
set_option maxRecDepth 65536 in
set_option maxHeartbeats 40000000 in
theorem rmIxS_1_0 (l : Launch) (Z : State) (a0 : Array Value) (hw : ∀ d ∈ tables_1, d.before a0 Z = true) (ws : List Jvm.Cond) (a1 : Addr) (t1 : Addr) (kb : ClassId) (c0 : Int32) (ch : Int32) (ccs : Int32) (vF : Value) (h0 : Heap) (n0 : Nat) (Z0 : n0 ≤ h0.size) (E1 : Exa Z h0 a1 "java/lang/String") (F1 : Fld Z h0 a1 "java/lang/String" "value" "[B" (.ref t1)) (F2 : Fld Z h0 a1 "java/lang/String" "coder" "B" (.int (0 : Int32))) (V2 : Arv Z h0 t1 kb .byte (1 : Int32) [(.int (nar .byte (c0.toInt8.toInt32)))] (.int (0 : Int32))) (qe0 : (nar .byte (c0.toInt8.toInt32) = ch.toInt8.toInt32) ↔ c0 = ch) (hc0 : ¬ (ch < (0 : Int32))) (hc1 : ¬ ((255 : Int32) < ch)) (O0 : Old Z n0 h0) (S_CS : Sta Z Z.heap "java/lang/String" "COMPACT_STRINGS" "Z" (.int ccs)) (hcs : ¬ (ccs = (0 : Int32))) (S_AD : Sta Z Z.heap "java/lang/StringUTF16" "$assertionsDisabled" "Z" (.int (1 : Int32))) (S_HI : Sta Z Z.heap "java/lang/StringUTF16" "HI_BYTE_SHIFT" "I" (.int (0 : Int32))) (S_LO : Sta Z Z.heap "java/lang/StringUTF16" "LO_BYTE_SHIFT" "I" (.int (8 : Int32))) (S_SF : Sta Z Z.heap "jdk/internal/util/Preconditions" "SIOOBE_FORMATTER" "Ljava/util/function/BiFunction;" vF) (rF : vF.isRef = true) :
    MetFree l (⟨"java/lang/String", "indexOf", "(II)I"⟩ : MethodName) (head1 (Jvm.Cond.code (⟨"java/lang/String", "indexOf", "(II)I"⟩ : MethodName) jdk_42_method_80_code 3 (some .int) :: ws) ({ frames := 3, cells := 0, slots := 0, locals := 60 } : Room)) (fun a U => a = #[(.ref a1), (.int ch), (.int (0 : Int32))] ∧ Z.Warmed39 U.vm ∧ U.heap = h0) (fun _ _ _ _ _ => True) (fun _ U o U' => ∃ v L, o = .returned v ∧ QIx1 Z c0 ch (0 : Int32) h0 n0 v U'.heap L ∧ FrameEnd U o U' L ({ frames := 3, cells := 0, slots := 0, locals := 60 } : Room).cells ({ frames := 3, cells := 0, slots := 0, locals := 60 } : Room).slots) := by
  refine MetFree.of_bodySF (plainFor_of_name pn_java_lang_String) hisR ?_
  intro p e s m args below meth c s₁ Bd hml0 hP hK
  obtain ⟨rfl, hZ, hh⟩ := hP
  have hx := Bd.exec
  have hby := Bd.bytes
  have hlk : meth.locks = false := Bd.notSynchronized
  have hml : c.maxLocals = 3 := hml0
  have hown : s.vm.findClass "java/lang/String" = some m.cls := findClass_of_methodNamed Bd.named
  have hnm := (name_of_methodNamed Bd.named Bd.method).1
  have X0 : Stand p l e ({ frames := 3, cells := 0, slots := 0, locals := 60 } : Room) s m #[(.ref a1), (.int ch), (.int (0 : Int32))] below meth c s₁ [] 0 0 := Stand.of_body Bd
  have e0 : s₁.heap = h0 := by rw [← hh, Bd.state]; rfl
  have N0 := Fr.nil n0
  show Go p e below (FinE s below (QIx1 Z c0 ch (0 : Int32) h0 n0) ({ frames := 3, cells := 0, slots := 0, locals := 60 } : Room).cells ({ frames := 3, cells := 0, slots := 0, locals := 60 } : Room).slots) (s₁.setTop (entryFrame m #[(.ref a1), (.int ch), (.int (0 : Int32))] 3))
  refine Go.via (fun t k => castTop (ef_rmIxS_1_0 m a1 ch) k) ?_
  show Go p e below _ (s₁.setTop (mkF m 0 #[.val (.ref a1), .val (.int ch), .val (.int (0 : Int32))] []))
  refine Go.via (fun _ => XS.aloadN X0.here hx rfl (hb hby d10_0) rfl rfl) ?_
  show Go p e below _ (s₁.setTop (mkF m 1 #[.val (.ref a1), .val (.int ch), .val (.int (0 : Int32))] [(.ref a1)]))
  obtain ⟨cq1, kq1, q1a, q1b, q1c⟩ := isOf hZ e0 E1
  obtain ⟨_, _, ⟨T1, L1, k1, n1⟩, -, X1, ⟨Lc1, hQ1, l1, y1, z1⟩, st1⟩ := X0.virtualBack hx (y := (⟨"java/lang/String", "isLatin1", "()Z"⟩ : MethodName)) (z := (⟨"java/lang/String", "isLatin1", "()Z"⟩ : MethodName)) hown (mvT hZ (hw _ (List.mem_of_getElem? (i := 60) rfl))) (mvT hZ (hw _ (List.mem_of_getElem? (i := 61) rfl))) (notFace_of_selects (args := #[]) (mvT hZ (hw _ (List.mem_of_getElem? (i := 63) rfl)))) (mvT hZ (hw _ (List.mem_of_getElem? (i := 63) rfl))) (mvT hZ (hw _ (List.mem_of_getElem? (i := 62) rfl))) (by decide) (backOf (W := 0) (rmIsLat l Z a0 hw [] a1 ccs vF h0 n0 Z0 F2 O0 S_CS hcs S_AD S_HI S_LO S_SF rF) hZ (hw _ (List.mem_of_getElem? (i := 64) rfl)) (hw _ (List.mem_of_getElem? (i := 7) rfl)) (by decide) (by decide)) q1a q1c (g := (mkF m 1 #[.val (.ref a1), .val (.int ch), .val (.int (0 : Int32))] [(.ref a1)])) rfl (by rw [hml]; rfl) (Steps.refl _) (argsL := []) (rest := []) (lenOf pd_8 rfl) rfl (by show 2 * 0 + _ ≤ _; exact Nat.le_of_eq rfl) (hb hby d10_1) (fun _ _ => ⟨rfl, e0, (by decide : 0 + 0 ≤ _), (by decide : 0 + 0 ≤ _)⟩)
  dsimp only [Pt.U, Pt.locs, Pt.cells, Pt.slots] at X1 l1 y1 z1 st1 hQ1
  subst l1 y1 z1
  obtain ⟨rfl, N1q, e1q⟩ := hQ1
  have N1 := Fr.app N0 N1q
  refine Go.tr st1 ?_
  show Go p e below _ (T1.setTop (mkF m 4 #[.val (.ref a1), .val (.int ch), .val (.int (0 : Int32))] [(.int (1 : Int32))]))
  refine Go.via (fun _ => XS.ifNo X1.here hx rfl (hb hby d10_4) rfl (by decide)) ?_
  show Go p e below _ (T1.setTop (mkF m 7 #[.val (.ref a1), .val (.int ch), .val (.int (0 : Int32))] []))
  refine Go.via (fun _ => XS.aloadN X1.here hx rfl (hb hby d10_7) rfl rfl) ?_
  show Go p e below _ (T1.setTop (mkF m 8 #[.val (.ref a1), .val (.int ch), .val (.int (0 : Int32))] [(.ref a1)]))
  obtain ⟨T2, X2, e2, st2⟩ := getF X1 hx hZ hown (host := "") (Or.inl (hw _ (List.mem_of_getElem? (i := 27) rfl))) Via.refl e1q F1 (g := (mkF m 8 #[.val (.ref a1), .val (.int ch), .val (.int (0 : Int32))] [(.ref a1)])) rfl rfl (hb hby d10_8)
  refine Go.via st2 ?_
  show Go p e below _ (T2.setTop (mkF m 11 #[.val (.ref a1), .val (.int ch), .val (.int (0 : Int32))] [(.ref t1)]))
  refine Go.via (fun _ => XS.iloadN X2.here hx rfl (hb hby d10_11) rfl) ?_
  show Go p e below _ (T2.setTop (mkF m 12 #[.val (.ref a1), .val (.int ch), .val (.int (0 : Int32))] [(.int ch), (.ref t1)]))
  refine Go.via (fun _ => XS.iloadN X2.here hx rfl (hb hby d10_12) rfl) ?_
  show Go p e below _ (T2.setTop (mkF m 13 #[.val (.ref a1), .val (.int ch), .val (.int (0 : Int32))] [(.int (0 : Int32)), (.int ch), (.ref t1)]))
  refine Go.via (fun _ => XS.aloadN X2.here hx rfl (hb hby d10_13) rfl rfl) ?_
  show Go p e below _ (T2.setTop (mkF m 14 #[.val (.ref a1), .val (.int ch), .val (.int (0 : Int32))] [(.ref a1), (.int (0 : Int32)), (.int ch), (.ref t1)]))
  obtain ⟨cq3, kq3, q3a, q3b, q3c⟩ := isOf hZ e2 E1
  obtain ⟨_, _, ⟨T3, L3, k3, n3⟩, -, X3, ⟨Lc3, hQ3, l3, y3, z3⟩, st3⟩ := X2.virtualBack hx (y := (⟨"java/lang/String", "length", "()I"⟩ : MethodName)) (z := (⟨"java/lang/String", "length", "()I"⟩ : MethodName)) hown (mvT hZ (hw _ (List.mem_of_getElem? (i := 65) rfl))) (mvT hZ (hw _ (List.mem_of_getElem? (i := 66) rfl))) (notFace_of_selects (args := #[]) (mvT hZ (hw _ (List.mem_of_getElem? (i := 68) rfl)))) (mvT hZ (hw _ (List.mem_of_getElem? (i := 68) rfl))) (mvT hZ (hw _ (List.mem_of_getElem? (i := 67) rfl))) (by decide) (backOf (W := 3) (rmLen_1 l Z a0 hw [] a1 t1 kb _ ccs vF h0 n0 Z0 E1 F1 F2 V2 O0 S_CS hcs S_AD S_HI S_LO S_SF rF) hZ (hw _ (List.mem_of_getElem? (i := 69) rfl)) (hw _ (List.mem_of_getElem? (i := 7) rfl)) (by decide) (by decide)) q3a q3c (g := (mkF m 14 #[.val (.ref a1), .val (.int ch), .val (.int (0 : Int32))] [(.ref a1), (.int (0 : Int32)), (.int ch), (.ref t1)])) rfl (by rw [hml]; rfl) (Steps.refl _) (argsL := []) (rest := [(.int (0 : Int32)), (.int ch), (.ref t1)]) (lenOf pd_9 rfl) rfl (by show 2 * 0 + _ ≤ _; exact Nat.le_of_eq rfl) (hb hby d10_14) (fun _ _ => ⟨rfl, e2, (by decide : 0 + 0 ≤ _), (by decide : 0 + 0 ≤ _)⟩)
  dsimp only [Pt.U, Pt.locs, Pt.cells, Pt.slots] at X3 l3 y3 z3 st3 hQ3
  subst l3 y3 z3
  obtain ⟨rfl, N3q, e3q⟩ := hQ3
  have N3 := Fr.app N1 N3q
  refine Go.tr st3 ?_
  show Go p e below _ (T3.setTop (mkF m 17 #[.val (.ref a1), .val (.int ch), .val (.int (0 : Int32))] [(.int (1 : Int32)), (.int (0 : Int32)), (.int ch), (.ref t1)]))
  obtain ⟨_, _, ⟨T4, L4, k4, n4⟩, -, X4, ⟨Lc4, hQ4, l4, y4, z4⟩, st4⟩ := Jvm.LawKit.callS X3 hx (y := (⟨"java/lang/StringLatin1", "indexOf", "([BIII)I"⟩ : MethodName)) hown (mvT hZ (hw _ (List.mem_of_getElem? (i := 75) rfl))) (mvT hZ (hw _ (List.mem_of_getElem? (i := 76) rfl))) (mvT hZ (hw _ (List.mem_of_getElem? (i := 12) rfl))) (mvT hZ (hw _ (List.mem_of_getElem? (i := 77) rfl))) (by decide) (backOf (W := 0) (rmIxL_1_0 l Z a0 hw [] t1 kb c0 ch  h0 n0 Z0 V2 qe0 hc0 hc1) hZ (hw _ (List.mem_of_getElem? (i := 77) rfl)) (hw _ (List.mem_of_getElem? (i := 12) rfl)) (by decide) (by decide)) (g := (mkF m 17 #[.val (.ref a1), .val (.int ch), .val (.int (0 : Int32))] [(.int (1 : Int32)), (.int (0 : Int32)), (.int ch), (.ref t1)])) rfl (by rw [hml]; rfl) (argsL := [(.ref t1), (.int ch), (.int (0 : Int32)), (.int (1 : Int32))]) (rest := []) (lenOf pd_7 rfl) rfl (by show 2 * 0 + _ ≤ _; exact Nat.le_of_eq rfl) (hb hby d10_17) (fun _ _ => ⟨rfl, e3q, (by decide : 0 + 0 ≤ _), (by decide : 0 + 0 ≤ _)⟩)
  dsimp only [Pt.U, Pt.locs, Pt.cells, Pt.slots] at X4 l4 y4 z4 st4 hQ4
  subst l4 y4 z4
  obtain ⟨rfl, N4q, e4q⟩ := hQ4
  have N4 := Fr.app N3 N4q
  refine Go.via st4 ?_
  show Go p e below _ (T4.setTop (mkF m 20 #[.val (.ref a1), .val (.int ch), .val (.int (0 : Int32))] [(.int (ix1 c0 ch (0 : Int32)))]))
  refine Go.via (fun _ => XS.goto X4.here hx rfl (pc0 := 20) (pc' := 36) rfl (hb hby d10_20) (by decide) (by decide)) ?_
  show Go p e below _ (T4.setTop (mkF m 36 #[.val (.ref a1), .val (.int ch), .val (.int (0 : Int32))] [(.int (ix1 c0 ch (0 : Int32)))]))
  exact own_retI X4 hx hlk Bd.returns (hb hby d10_36) (by show QIx1 Z c0 ch (0 : Int32) h0 n0 _ T4.heap _; rw [e4q]; exact ⟨rfl, N4, rfl⟩) (by decide) (by decide)
theorem ef_rmIxL_1_big (m : MethodId) (x0 : Addr) (x1 : Int32) (x2 : Int32) : entryFrame m #[(.ref x0), (.int x1), (.int x2), (.int (1 : Int32))] 4 = mkF m 0 #[.val (.ref x0), .val (.int x1), .val (.int x2), .val (.int (1 : Int32))] [] := by first | (simp [entryFrame, mkF, argsToLocals, Value.category]; done) | rfl
def QIxL_1_big (Z : State) (t1 : Addr) (kb : ClassId) (c0 : Int32) (ch : Int32) (i : Int32) (h0 : Heap) (n0 : Nat) (v : Option Value) (h : Heap) (L : List Loc) : Prop := v = some (.int (ix1 c0 ch i)) ∧ Fr n0 L ∧ h = h0
set_option maxRecDepth 65536 in
set_option maxHeartbeats 40000000 in
theorem rmIxL_1_big (l : Launch) (Z : State) (a0 : Array Value) (hw : ∀ d ∈ tables_1, d.before a0 Z = true) (ws : List Jvm.Cond) (t1 : Addr) (kb : ClassId) (c0 : Int32) (ch : Int32) (i : Int32) (h0 : Heap) (n0 : Nat) (Z0 : n0 ≤ h0.size) (V2 : Arv Z h0 t1 kb .byte (1 : Int32) [(.int (nar .byte (c0.toInt8.toInt32)))] (.int (0 : Int32))) (qe0 : (nar .byte (c0.toInt8.toInt32) = ch.toInt8.toInt32) ↔ c0 = ch) (hc0 : ¬ (ch < (0 : Int32))) (hc1 : ¬ ((255 : Int32) < ch)) (hi : ¬ (i < (1 : Int32))) :
    MetFree l (⟨"java/lang/StringLatin1", "indexOf", "([BIII)I"⟩ : MethodName) (head1 (Jvm.Cond.code (⟨"java/lang/StringLatin1", "indexOf", "([BIII)I"⟩ : MethodName) jdk_43_method_22_code 4 (some .int) :: ws) ({ frames := 1, cells := 0, slots := 0, locals := 13 } : Room)) (fun a U => a = #[(.ref t1), (.int ch), (.int i), (.int (1 : Int32))] ∧ Z.Warmed39 U.vm ∧ U.heap = h0) (fun _ _ _ _ _ => True) (fun _ U o U' => ∃ v L, o = .returned v ∧ QIxL_1_big Z t1 kb c0 ch i h0 n0 v U'.heap L ∧ FrameEnd U o U' L ({ frames := 1, cells := 0, slots := 0, locals := 13 } : Room).cells ({ frames := 1, cells := 0, slots := 0, locals := 13 } : Room).slots) := by
  refine MetFree.of_bodySF (plainFor_of_name pn_java_lang_StringLatin1) hisR ?_
  intro p e s m args below meth c s₁ Bd hml0 hP hK
  obtain ⟨rfl, hZ, hh⟩ := hP
  have hx := Bd.exec
  have hby := Bd.bytes
  have hlk : meth.locks = false := Bd.notSynchronized
  have hml : c.maxLocals = 4 := hml0
  have hown : s.vm.findClass "java/lang/StringLatin1" = some m.cls := findClass_of_methodNamed Bd.named
  have hnm := (name_of_methodNamed Bd.named Bd.method).1
  have X0 : Stand p l e ({ frames := 1, cells := 0, slots := 0, locals := 13 } : Room) s m #[(.ref t1), (.int ch), (.int i), (.int (1 : Int32))] below meth c s₁ [] 0 0 := Stand.of_body Bd
  have e0 : s₁.heap = h0 := by rw [← hh, Bd.state]; rfl
  have N0 := Fr.nil n0
  show Go p e below (FinE s below (QIxL_1_big Z t1 kb c0 ch i h0 n0) ({ frames := 1, cells := 0, slots := 0, locals := 13 } : Room).cells ({ frames := 1, cells := 0, slots := 0, locals := 13 } : Room).slots) (s₁.setTop (entryFrame m #[(.ref t1), (.int ch), (.int i), (.int (1 : Int32))] 4))
  refine Go.via (fun t k => castTop (ef_rmIxL_1_big m t1 ch i) k) ?_
  show Go p e below _ (s₁.setTop (mkF m 0 #[.val (.ref t1), .val (.int ch), .val (.int i), .val (.int (1 : Int32))] []))
  refine Go.via (fun _ => XS.iloadN X0.here hx rfl (hb hby d14_0) rfl) ?_
  show Go p e below _ (s₁.setTop (mkF m 1 #[.val (.ref t1), .val (.int ch), .val (.int i), .val (.int (1 : Int32))] [(.int ch)]))
  obtain ⟨_, _, ⟨T1, L1, k1, n1⟩, -, X1, ⟨Lc1, hQ1, l1, y1, z1⟩, st1⟩ := Jvm.LawKit.callS X0 hx (y := (⟨"java/lang/StringLatin1", "canEncode", "(I)Z"⟩ : MethodName)) hown (mvT hZ (hw _ (List.mem_of_getElem? (i := 78) rfl))) (mvT hZ (hw _ (List.mem_of_getElem? (i := 79) rfl))) (mvT hZ (hw _ (List.mem_of_getElem? (i := 12) rfl))) (mvT hZ (hw _ (List.mem_of_getElem? (i := 80) rfl))) (by decide) (backOf (W := 0) (rmCanI l Z a0 hw [] ch h0 n0 Z0 hc0 hc1) hZ (hw _ (List.mem_of_getElem? (i := 80) rfl)) (hw _ (List.mem_of_getElem? (i := 12) rfl)) (by decide) (by decide)) (g := (mkF m 1 #[.val (.ref t1), .val (.int ch), .val (.int i), .val (.int (1 : Int32))] [(.int ch)])) rfl (by rw [hml]; rfl) (argsL := [(.int ch)]) (rest := []) (lenOf pd_5 rfl) rfl (by show 2 * 0 + _ ≤ _; exact Nat.le_of_eq rfl) (hb hby d14_1) (fun _ _ => ⟨rfl, e0, (by decide : 0 + 0 ≤ _), (by decide : 0 + 0 ≤ _)⟩)
  dsimp only [Pt.U, Pt.locs, Pt.cells, Pt.slots] at X1 l1 y1 z1 st1 hQ1
  subst l1 y1 z1
  obtain ⟨rfl, N1q, e1q⟩ := hQ1
  have N1 := Fr.app N0 N1q
  refine Go.via st1 ?_
  show Go p e below _ (T1.setTop (mkF m 4 #[.val (.ref t1), .val (.int ch), .val (.int i), .val (.int (1 : Int32))] [(.int (1 : Int32))]))
  refine Go.via (fun _ => XS.ifYes X1.here hx rfl (pc0 := 4) (pc' := 9) rfl (hb hby d14_4) rfl (by decide) (by decide) (by decide)) ?_
  show Go p e below _ (T1.setTop (mkF m 9 #[.val (.ref t1), .val (.int ch), .val (.int i), .val (.int (1 : Int32))] []))
  refine Go.via (fun _ => XS.iloadN X1.here hx rfl (hb hby d14_9) rfl) ?_
  show Go p e below _ (T1.setTop (mkF m 10 #[.val (.ref t1), .val (.int ch), .val (.int i), .val (.int (1 : Int32))] [(.int i)]))
  refine Go.via (fun _ => XS.iconst X1.here hx rfl (hb hby d14_10)) ?_
  show Go p e below _ (T1.setTop (mkF m 11 #[.val (.ref t1), .val (.int ch), .val (.int i), .val (.int (1 : Int32))] [(.int (0 : Int32)), (.int i)]))
  obtain ⟨_, _, ⟨T2, L2, k2, n2⟩, -, X2, ⟨Lc2, hQ2, l2, y2, z2⟩, st2⟩ := Jvm.LawKit.callS X1 hx (y := (⟨"java/lang/Math", "max", "(II)I"⟩ : MethodName)) hown (mvT hZ (hw _ (List.mem_of_getElem? (i := 81) rfl))) (mvT hZ (hw _ (List.mem_of_getElem? (i := 82) rfl))) (mvT hZ (hw _ (List.mem_of_getElem? (i := 83) rfl))) (mvT hZ (hw _ (List.mem_of_getElem? (i := 84) rfl))) (by decide) (backOf (W := 0) (rm_max_1 l Z a0 hw [] i (0 : Int32) h0 n0 Z0 (own_big1 hi)) hZ (hw _ (List.mem_of_getElem? (i := 84) rfl)) (hw _ (List.mem_of_getElem? (i := 83) rfl)) (by decide) (by decide)) (g := (mkF m 11 #[.val (.ref t1), .val (.int ch), .val (.int i), .val (.int (1 : Int32))] [(.int (0 : Int32)), (.int i)])) rfl (by rw [hml]; rfl) (argsL := [(.int i), (.int (0 : Int32))]) (rest := []) (lenOf pd_6 rfl) rfl (by show 2 * 0 + _ ≤ _; exact Nat.le_of_eq rfl) (hb hby d14_11) (fun _ _ => ⟨rfl, e1q, (by decide : 0 + 0 ≤ _), (by decide : 0 + 0 ≤ _)⟩)
  dsimp only [Pt.U, Pt.locs, Pt.cells, Pt.slots] at X2 l2 y2 z2 st2 hQ2
  subst l2 y2 z2
  obtain ⟨rfl, N2q, e2q⟩ := hQ2
  have N2 := Fr.app N1 N2q
  refine Go.via st2 ?_
  show Go p e below _ (T2.setTop (mkF m 14 #[.val (.ref t1), .val (.int ch), .val (.int i), .val (.int (1 : Int32))] [(.int i)]))
  refine Go.via (fun _ => XS.istoreN X2.here hx rfl (hb hby d14_14) rfl (l' := #[.val (.ref t1), .val (.int ch), .val (.int i), .val (.int (1 : Int32))]) rfl) ?_
  show Go p e below _ (T2.setTop (mkF m 15 #[.val (.ref t1), .val (.int ch), .val (.int i), .val (.int (1 : Int32))] []))
  refine Go.via (fun _ => XS.iloadN X2.here hx rfl (hb hby d14_15) rfl) ?_
  show Go p e below _ (T2.setTop (mkF m 16 #[.val (.ref t1), .val (.int ch), .val (.int i), .val (.int (1 : Int32))] [(.int (1 : Int32))]))
  refine Go.via (fun _ => XS.aloadN X2.here hx rfl (hb hby d14_16) rfl rfl) ?_
  show Go p e below _ (T2.setTop (mkF m 17 #[.val (.ref t1), .val (.int ch), .val (.int i), .val (.int (1 : Int32))] [(.ref t1), (.int (1 : Int32))]))
  obtain ⟨cl3, Ar3, -, S3, N3n, -, -⟩ := id V2
  have al3 := X2.arraylength hx (by rw [e2q]; exact Ar3.1) (State.isArrayOf_alike hZ.alike Ar3.2.1) (g := (mkF m 17 #[.val (.ref t1), .val (.int ch), .val (.int i), .val (.int (1 : Int32))] [(.ref t1), (.int (1 : Int32))])) rfl rfl (hb hby d14_17)
  rw [len_of S3 N3n] at al3
  refine Go.via al3 ?_
  show Go p e below _ (T2.setTop (mkF m 18 #[.val (.ref t1), .val (.int ch), .val (.int i), .val (.int (1 : Int32))] [(.int (1 : Int32)), (.int (1 : Int32))]))
  obtain ⟨_, _, ⟨T4, L4, k4, n4⟩, -, X4, ⟨Lc4, hQ4, l4, y4, z4⟩, st4⟩ := Jvm.LawKit.callS X2 hx (y := (⟨"java/lang/Math", "min", "(II)I"⟩ : MethodName)) hown (mvT hZ (hw _ (List.mem_of_getElem? (i := 85) rfl))) (mvT hZ (hw _ (List.mem_of_getElem? (i := 86) rfl))) (mvT hZ (hw _ (List.mem_of_getElem? (i := 83) rfl))) (mvT hZ (hw _ (List.mem_of_getElem? (i := 87) rfl))) (by decide) (backOf (W := 0) (rm_min_1 l Z a0 hw [] (1 : Int32) (1 : Int32) h0 n0 Z0 (by decide)) hZ (hw _ (List.mem_of_getElem? (i := 87) rfl)) (hw _ (List.mem_of_getElem? (i := 83) rfl)) (by decide) (by decide)) (g := (mkF m 18 #[.val (.ref t1), .val (.int ch), .val (.int i), .val (.int (1 : Int32))] [(.int (1 : Int32)), (.int (1 : Int32))])) rfl (by rw [hml]; rfl) (argsL := [(.int (1 : Int32)), (.int (1 : Int32))]) (rest := []) (lenOf pd_6 rfl) rfl (by show 2 * 0 + _ ≤ _; exact Nat.le_of_eq rfl) (hb hby d14_18) (fun _ _ => ⟨rfl, e2q, (by decide : 0 + 0 ≤ _), (by decide : 0 + 0 ≤ _)⟩)
  dsimp only [Pt.U, Pt.locs, Pt.cells, Pt.slots] at X4 l4 y4 z4 st4 hQ4
  subst l4 y4 z4
  obtain ⟨rfl, N4q, e4q⟩ := hQ4
  have N4 := Fr.app N2 N4q
  refine Go.via st4 ?_
  show Go p e below _ (T4.setTop (mkF m 21 #[.val (.ref t1), .val (.int ch), .val (.int i), .val (.int (1 : Int32))] [(.int (1 : Int32))]))
  refine Go.via (fun _ => XS.istoreN X4.here hx rfl (hb hby d14_21) rfl (l' := #[.val (.ref t1), .val (.int ch), .val (.int i), .val (.int (1 : Int32))]) rfl) ?_
  show Go p e below _ (T4.setTop (mkF m 22 #[.val (.ref t1), .val (.int ch), .val (.int i), .val (.int (1 : Int32))] []))
  refine Go.via (fun _ => XS.iloadN X4.here hx rfl (hb hby d14_22) rfl) ?_
  show Go p e below _ (T4.setTop (mkF m 23 #[.val (.ref t1), .val (.int ch), .val (.int i), .val (.int (1 : Int32))] [(.int i)]))
  refine Go.via (fun _ => XS.iloadN X4.here hx rfl (hb hby d14_23) rfl) ?_
  show Go p e below _ (T4.setTop (mkF m 24 #[.val (.ref t1), .val (.int ch), .val (.int i), .val (.int (1 : Int32))] [(.int (1 : Int32)), (.int i)]))
  refine Go.via (fun _ => XS.icmpNo X4.here hx rfl (hb hby d14_24) rfl (flt hi).1) ?_
  show Go p e below _ (T4.setTop (mkF m 27 #[.val (.ref t1), .val (.int ch), .val (.int i), .val (.int (1 : Int32))] []))
  refine Go.via (fun _ => XS.iconst X4.here hx rfl (hb hby d14_27)) ?_
  show Go p e below _ (T4.setTop (mkF m 28 #[.val (.ref t1), .val (.int ch), .val (.int i), .val (.int (1 : Int32))] [(.int (-1 : Int32))]))
  exact own_retI X4 hx hlk Bd.returns (hb hby d14_28) (by show QIxL_1_big Z t1 kb c0 ch i h0 n0 _ T4.heap _; rw [e4q]; exact ⟨by rw [own_ixbig hi], N4, rfl⟩) (by decide) (by decide)
theorem ef_rmIxS_1_big (m : MethodId) (x0 : Addr) (x1 : Int32) (x2 : Int32) : entryFrame m #[(.ref x0), (.int x1), (.int x2)] 3 = mkF m 0 #[.val (.ref x0), .val (.int x1), .val (.int x2)] [] := by first | (simp [entryFrame, mkF, argsToLocals, Value.category]; done) | rfl
set_option maxRecDepth 65536 in
set_option maxHeartbeats 40000000 in
theorem rmIxS_1_big (l : Launch) (Z : State) (a0 : Array Value) (hw : ∀ d ∈ tables_1, d.before a0 Z = true) (ws : List Jvm.Cond) (a1 : Addr) (t1 : Addr) (kb : ClassId) (c0 : Int32) (ch : Int32) (i : Int32) (ccs : Int32) (vF : Value) (h0 : Heap) (n0 : Nat) (Z0 : n0 ≤ h0.size) (E1 : Exa Z h0 a1 "java/lang/String") (F1 : Fld Z h0 a1 "java/lang/String" "value" "[B" (.ref t1)) (F2 : Fld Z h0 a1 "java/lang/String" "coder" "B" (.int (0 : Int32))) (V2 : Arv Z h0 t1 kb .byte (1 : Int32) [(.int (nar .byte (c0.toInt8.toInt32)))] (.int (0 : Int32))) (qe0 : (nar .byte (c0.toInt8.toInt32) = ch.toInt8.toInt32) ↔ c0 = ch) (hc0 : ¬ (ch < (0 : Int32))) (hc1 : ¬ ((255 : Int32) < ch)) (O0 : Old Z n0 h0) (S_CS : Sta Z Z.heap "java/lang/String" "COMPACT_STRINGS" "Z" (.int ccs)) (hcs : ¬ (ccs = (0 : Int32))) (S_AD : Sta Z Z.heap "java/lang/StringUTF16" "$assertionsDisabled" "Z" (.int (1 : Int32))) (S_HI : Sta Z Z.heap "java/lang/StringUTF16" "HI_BYTE_SHIFT" "I" (.int (0 : Int32))) (S_LO : Sta Z Z.heap "java/lang/StringUTF16" "LO_BYTE_SHIFT" "I" (.int (8 : Int32))) (S_SF : Sta Z Z.heap "jdk/internal/util/Preconditions" "SIOOBE_FORMATTER" "Ljava/util/function/BiFunction;" vF) (rF : vF.isRef = true) (hi : ¬ (i < (1 : Int32))) :
    MetFree l (⟨"java/lang/String", "indexOf", "(II)I"⟩ : MethodName) (head1 (Jvm.Cond.code (⟨"java/lang/String", "indexOf", "(II)I"⟩ : MethodName) jdk_42_method_80_code 3 (some .int) :: ws) ({ frames := 3, cells := 0, slots := 0, locals := 60 } : Room)) (fun a U => a = #[(.ref a1), (.int ch), (.int i)] ∧ Z.Warmed39 U.vm ∧ U.heap = h0) (fun _ _ _ _ _ => True) (fun _ U o U' => ∃ v L, o = .returned v ∧ QIx1 Z c0 ch i h0 n0 v U'.heap L ∧ FrameEnd U o U' L ({ frames := 3, cells := 0, slots := 0, locals := 60 } : Room).cells ({ frames := 3, cells := 0, slots := 0, locals := 60 } : Room).slots) := by
  refine MetFree.of_bodySF (plainFor_of_name pn_java_lang_String) hisR ?_
  intro p e s m args below meth c s₁ Bd hml0 hP hK
  obtain ⟨rfl, hZ, hh⟩ := hP
  have hx := Bd.exec
  have hby := Bd.bytes
  have hlk : meth.locks = false := Bd.notSynchronized
  have hml : c.maxLocals = 3 := hml0
  have hown : s.vm.findClass "java/lang/String" = some m.cls := findClass_of_methodNamed Bd.named
  have hnm := (name_of_methodNamed Bd.named Bd.method).1
  have X0 : Stand p l e ({ frames := 3, cells := 0, slots := 0, locals := 60 } : Room) s m #[(.ref a1), (.int ch), (.int i)] below meth c s₁ [] 0 0 := Stand.of_body Bd
  have e0 : s₁.heap = h0 := by rw [← hh, Bd.state]; rfl
  have N0 := Fr.nil n0
  show Go p e below (FinE s below (QIx1 Z c0 ch i h0 n0) ({ frames := 3, cells := 0, slots := 0, locals := 60 } : Room).cells ({ frames := 3, cells := 0, slots := 0, locals := 60 } : Room).slots) (s₁.setTop (entryFrame m #[(.ref a1), (.int ch), (.int i)] 3))
  refine Go.via (fun t k => castTop (ef_rmIxS_1_big m a1 ch i) k) ?_
  show Go p e below _ (s₁.setTop (mkF m 0 #[.val (.ref a1), .val (.int ch), .val (.int i)] []))
  refine Go.via (fun _ => XS.aloadN X0.here hx rfl (hb hby d10_0) rfl rfl) ?_
  show Go p e below _ (s₁.setTop (mkF m 1 #[.val (.ref a1), .val (.int ch), .val (.int i)] [(.ref a1)]))
  obtain ⟨cq1, kq1, q1a, q1b, q1c⟩ := isOf hZ e0 E1
  obtain ⟨_, _, ⟨T1, L1, k1, n1⟩, -, X1, ⟨Lc1, hQ1, l1, y1, z1⟩, st1⟩ := X0.virtualBack hx (y := (⟨"java/lang/String", "isLatin1", "()Z"⟩ : MethodName)) (z := (⟨"java/lang/String", "isLatin1", "()Z"⟩ : MethodName)) hown (mvT hZ (hw _ (List.mem_of_getElem? (i := 60) rfl))) (mvT hZ (hw _ (List.mem_of_getElem? (i := 61) rfl))) (notFace_of_selects (args := #[]) (mvT hZ (hw _ (List.mem_of_getElem? (i := 63) rfl)))) (mvT hZ (hw _ (List.mem_of_getElem? (i := 63) rfl))) (mvT hZ (hw _ (List.mem_of_getElem? (i := 62) rfl))) (by decide) (backOf (W := 0) (rmIsLat l Z a0 hw [] a1 ccs vF h0 n0 Z0 F2 O0 S_CS hcs S_AD S_HI S_LO S_SF rF) hZ (hw _ (List.mem_of_getElem? (i := 64) rfl)) (hw _ (List.mem_of_getElem? (i := 7) rfl)) (by decide) (by decide)) q1a q1c (g := (mkF m 1 #[.val (.ref a1), .val (.int ch), .val (.int i)] [(.ref a1)])) rfl (by rw [hml]; rfl) (Steps.refl _) (argsL := []) (rest := []) (lenOf pd_8 rfl) rfl (by show 2 * 0 + _ ≤ _; exact Nat.le_of_eq rfl) (hb hby d10_1) (fun _ _ => ⟨rfl, e0, (by decide : 0 + 0 ≤ _), (by decide : 0 + 0 ≤ _)⟩)
  dsimp only [Pt.U, Pt.locs, Pt.cells, Pt.slots] at X1 l1 y1 z1 st1 hQ1
  subst l1 y1 z1
  obtain ⟨rfl, N1q, e1q⟩ := hQ1
  have N1 := Fr.app N0 N1q
  refine Go.tr st1 ?_
  show Go p e below _ (T1.setTop (mkF m 4 #[.val (.ref a1), .val (.int ch), .val (.int i)] [(.int (1 : Int32))]))
  refine Go.via (fun _ => XS.ifNo X1.here hx rfl (hb hby d10_4) rfl (by decide)) ?_
  show Go p e below _ (T1.setTop (mkF m 7 #[.val (.ref a1), .val (.int ch), .val (.int i)] []))
  refine Go.via (fun _ => XS.aloadN X1.here hx rfl (hb hby d10_7) rfl rfl) ?_
  show Go p e below _ (T1.setTop (mkF m 8 #[.val (.ref a1), .val (.int ch), .val (.int i)] [(.ref a1)]))
  obtain ⟨T2, X2, e2, st2⟩ := getF X1 hx hZ hown (host := "") (Or.inl (hw _ (List.mem_of_getElem? (i := 27) rfl))) Via.refl e1q F1 (g := (mkF m 8 #[.val (.ref a1), .val (.int ch), .val (.int i)] [(.ref a1)])) rfl rfl (hb hby d10_8)
  refine Go.via st2 ?_
  show Go p e below _ (T2.setTop (mkF m 11 #[.val (.ref a1), .val (.int ch), .val (.int i)] [(.ref t1)]))
  refine Go.via (fun _ => XS.iloadN X2.here hx rfl (hb hby d10_11) rfl) ?_
  show Go p e below _ (T2.setTop (mkF m 12 #[.val (.ref a1), .val (.int ch), .val (.int i)] [(.int ch), (.ref t1)]))
  refine Go.via (fun _ => XS.iloadN X2.here hx rfl (hb hby d10_12) rfl) ?_
  show Go p e below _ (T2.setTop (mkF m 13 #[.val (.ref a1), .val (.int ch), .val (.int i)] [(.int i), (.int ch), (.ref t1)]))
  refine Go.via (fun _ => XS.aloadN X2.here hx rfl (hb hby d10_13) rfl rfl) ?_
  show Go p e below _ (T2.setTop (mkF m 14 #[.val (.ref a1), .val (.int ch), .val (.int i)] [(.ref a1), (.int i), (.int ch), (.ref t1)]))
  obtain ⟨cq3, kq3, q3a, q3b, q3c⟩ := isOf hZ e2 E1
  obtain ⟨_, _, ⟨T3, L3, k3, n3⟩, -, X3, ⟨Lc3, hQ3, l3, y3, z3⟩, st3⟩ := X2.virtualBack hx (y := (⟨"java/lang/String", "length", "()I"⟩ : MethodName)) (z := (⟨"java/lang/String", "length", "()I"⟩ : MethodName)) hown (mvT hZ (hw _ (List.mem_of_getElem? (i := 65) rfl))) (mvT hZ (hw _ (List.mem_of_getElem? (i := 66) rfl))) (notFace_of_selects (args := #[]) (mvT hZ (hw _ (List.mem_of_getElem? (i := 68) rfl)))) (mvT hZ (hw _ (List.mem_of_getElem? (i := 68) rfl))) (mvT hZ (hw _ (List.mem_of_getElem? (i := 67) rfl))) (by decide) (backOf (W := 3) (rmLen_1 l Z a0 hw [] a1 t1 kb _ ccs vF h0 n0 Z0 E1 F1 F2 V2 O0 S_CS hcs S_AD S_HI S_LO S_SF rF) hZ (hw _ (List.mem_of_getElem? (i := 69) rfl)) (hw _ (List.mem_of_getElem? (i := 7) rfl)) (by decide) (by decide)) q3a q3c (g := (mkF m 14 #[.val (.ref a1), .val (.int ch), .val (.int i)] [(.ref a1), (.int i), (.int ch), (.ref t1)])) rfl (by rw [hml]; rfl) (Steps.refl _) (argsL := []) (rest := [(.int i), (.int ch), (.ref t1)]) (lenOf pd_9 rfl) rfl (by show 2 * 0 + _ ≤ _; exact Nat.le_of_eq rfl) (hb hby d10_14) (fun _ _ => ⟨rfl, e2, (by decide : 0 + 0 ≤ _), (by decide : 0 + 0 ≤ _)⟩)
  dsimp only [Pt.U, Pt.locs, Pt.cells, Pt.slots] at X3 l3 y3 z3 st3 hQ3
  subst l3 y3 z3
  obtain ⟨rfl, N3q, e3q⟩ := hQ3
  have N3 := Fr.app N1 N3q
  refine Go.tr st3 ?_
  show Go p e below _ (T3.setTop (mkF m 17 #[.val (.ref a1), .val (.int ch), .val (.int i)] [(.int (1 : Int32)), (.int i), (.int ch), (.ref t1)]))
  obtain ⟨_, _, ⟨T4, L4, k4, n4⟩, -, X4, ⟨Lc4, hQ4, l4, y4, z4⟩, st4⟩ := Jvm.LawKit.callS X3 hx (y := (⟨"java/lang/StringLatin1", "indexOf", "([BIII)I"⟩ : MethodName)) hown (mvT hZ (hw _ (List.mem_of_getElem? (i := 75) rfl))) (mvT hZ (hw _ (List.mem_of_getElem? (i := 76) rfl))) (mvT hZ (hw _ (List.mem_of_getElem? (i := 12) rfl))) (mvT hZ (hw _ (List.mem_of_getElem? (i := 77) rfl))) (by decide) (backOf (W := 0) (rmIxL_1_big l Z a0 hw [] t1 kb c0 ch i h0 n0 Z0 V2 qe0 hc0 hc1 hi) hZ (hw _ (List.mem_of_getElem? (i := 77) rfl)) (hw _ (List.mem_of_getElem? (i := 12) rfl)) (by decide) (by decide)) (g := (mkF m 17 #[.val (.ref a1), .val (.int ch), .val (.int i)] [(.int (1 : Int32)), (.int i), (.int ch), (.ref t1)])) rfl (by rw [hml]; rfl) (argsL := [(.ref t1), (.int ch), (.int i), (.int (1 : Int32))]) (rest := []) (lenOf pd_7 rfl) rfl (by show 2 * 0 + _ ≤ _; exact Nat.le_of_eq rfl) (hb hby d10_17) (fun _ _ => ⟨rfl, e3q, (by decide : 0 + 0 ≤ _), (by decide : 0 + 0 ≤ _)⟩)
  dsimp only [Pt.U, Pt.locs, Pt.cells, Pt.slots] at X4 l4 y4 z4 st4 hQ4
  subst l4 y4 z4
  obtain ⟨rfl, N4q, e4q⟩ := hQ4
  have N4 := Fr.app N3 N4q
  refine Go.via st4 ?_
  show Go p e below _ (T4.setTop (mkF m 20 #[.val (.ref a1), .val (.int ch), .val (.int i)] [(.int (ix1 c0 ch i))]))
  refine Go.via (fun _ => XS.goto X4.here hx rfl (pc0 := 20) (pc' := 36) rfl (hb hby d10_20) (by decide) (by decide)) ?_
  show Go p e below _ (T4.setTop (mkF m 36 #[.val (.ref a1), .val (.int ch), .val (.int i)] [(.int (ix1 c0 ch i))]))
  exact own_retI X4 hx hlk Bd.returns (hb hby d10_36) (by show QIx1 Z c0 ch i h0 n0 _ T4.heap _; rw [e4q]; exact ⟨rfl, N4, rfl⟩) (by decide) (by decide)
theorem rmIxS_1 (l : Launch) (Z : State) (a0 : Array Value) (hw : ∀ d ∈ tables_1, d.before a0 Z = true) (ws : List Jvm.Cond) (a1 : Addr) (t1 : Addr) (kb : ClassId) (c0 : Int32) (ch : Int32) (i : Int32) (ccs : Int32) (vF : Value) (h0 : Heap) (n0 : Nat) (Z0 : n0 ≤ h0.size) (E1 : Exa Z h0 a1 "java/lang/String") (F1 : Fld Z h0 a1 "java/lang/String" "value" "[B" (.ref t1)) (F2 : Fld Z h0 a1 "java/lang/String" "coder" "B" (.int (0 : Int32))) (V2 : Arv Z h0 t1 kb .byte (1 : Int32) [(.int (nar .byte (c0.toInt8.toInt32)))] (.int (0 : Int32))) (qe0 : (nar .byte (c0.toInt8.toInt32) = ch.toInt8.toInt32) ↔ c0 = ch) (hc0 : ¬ (ch < (0 : Int32))) (hc1 : ¬ ((255 : Int32) < ch)) (O0 : Old Z n0 h0) (S_CS : Sta Z Z.heap "java/lang/String" "COMPACT_STRINGS" "Z" (.int ccs)) (hcs : ¬ (ccs = (0 : Int32))) (S_AD : Sta Z Z.heap "java/lang/StringUTF16" "$assertionsDisabled" "Z" (.int (1 : Int32))) (S_HI : Sta Z Z.heap "java/lang/StringUTF16" "HI_BYTE_SHIFT" "I" (.int (0 : Int32))) (S_LO : Sta Z Z.heap "java/lang/StringUTF16" "LO_BYTE_SHIFT" "I" (.int (8 : Int32))) (S_SF : Sta Z Z.heap "jdk/internal/util/Preconditions" "SIOOBE_FORMATTER" "Ljava/util/function/BiFunction;" vF) (rF : vF.isRef = true) :
    MetFree l (⟨"java/lang/String", "indexOf", "(II)I"⟩ : MethodName) (head1 (Jvm.Cond.code (⟨"java/lang/String", "indexOf", "(II)I"⟩ : MethodName) jdk_42_method_80_code 3 (some .int) :: ws) ({ frames := 3, cells := 0, slots := 0, locals := 60 } : Room)) (fun a U => a = #[(.ref a1), (.int ch), (.int i)] ∧ Z.Warmed39 U.vm ∧ U.heap = h0) (fun _ _ _ _ _ => True) (fun _ U o U' => ∃ v L, o = .returned v ∧ QIx1 Z c0 ch i h0 n0 v U'.heap L ∧ FrameEnd U o U' L ({ frames := 3, cells := 0, slots := 0, locals := 60 } : Room).cells ({ frames := 3, cells := 0, slots := 0, locals := 60 } : Room).slots) := by
  rcases own_cases1 i with hi | rfl | hi
  · exact rmIxS_1_neg l Z a0 hw ws a1 t1 kb c0 ch i ccs vF h0 n0 Z0 E1 F1 F2 V2 qe0 hc0 hc1 O0 S_CS hcs S_AD S_HI S_LO S_SF rF hi
  · exact rmIxS_1_0 l Z a0 hw ws a1 t1 kb c0 ch  ccs vF h0 n0 Z0 E1 F1 F2 V2 qe0 hc0 hc1 O0 S_CS hcs S_AD S_HI S_LO S_SF rF
  · exact rmIxS_1_big l Z a0 hw ws a1 t1 kb c0 ch i ccs vF h0 n0 Z0 E1 F1 F2 V2 qe0 hc0 hc1 O0 S_CS hcs S_AD S_HI S_LO S_SF rF hi
theorem ef_rmL16_1 (m : MethodId) (x0 : Addr) : entryFrame m #[(.ref x0)] 1 = mkF m 0 #[.val (.ref x0)] [] := by first | (simp [entryFrame, mkF, argsToLocals, Value.category]; done) | rfl
def QL16_1 (Z : State) (b1 : Addr) (kc2 : ClassId) (vs : List Value) (h0 : Heap) (n0 : Nat) (v : Option Value) (h : Heap) (L : List Loc) : Prop := v = some (.int (1 : Int32)) ∧ Fr n0 L ∧ h = h0
set_option maxRecDepth 65536 in
set_option maxHeartbeats 40000000 in
theorem rmL16_1 (l : Launch) (Z : State) (a0 : Array Value) (hw : ∀ d ∈ tables_1, d.before a0 Z = true) (ws : List Jvm.Cond) (b1 : Addr) (kc2 : ClassId) (vs : List Value) (h0 : Heap) (n0 : Nat) (Z0 : n0 ≤ h0.size) (V2 : Arv Z h0 b1 kc2 .byte (2 : Int32) vs (.int (0 : Int32))) :
    MetFree l (⟨"java/lang/StringUTF16", "length", "([B)I"⟩ : MethodName) (head1 (Jvm.Cond.code (⟨"java/lang/StringUTF16", "length", "([B)I"⟩ : MethodName) jdk_52_method_6_code 1 (some .int) :: ws) ({ frames := 0, cells := 0, slots := 0, locals := 0 } : Room)) (fun a U => a = #[(.ref b1)] ∧ Z.Warmed39 U.vm ∧ U.heap = h0) (fun _ _ _ _ _ => True) (fun _ U o U' => ∃ v L, o = .returned v ∧ QL16_1 Z b1 kc2 vs h0 n0 v U'.heap L ∧ FrameEnd U o U' L ({ frames := 0, cells := 0, slots := 0, locals := 0 } : Room).cells ({ frames := 0, cells := 0, slots := 0, locals := 0 } : Room).slots) := by
  refine MetFree.of_bodySF (plainFor_of_name pn_java_lang_StringUTF16) hisR ?_
  intro p e s m args below meth c s₁ Bd hml0 hP hK
  obtain ⟨rfl, hZ, hh⟩ := hP
  have hx := Bd.exec
  have hby := Bd.bytes
  have hlk : meth.locks = false := Bd.notSynchronized
  have hml : c.maxLocals = 1 := hml0
  have hown : s.vm.findClass "java/lang/StringUTF16" = some m.cls := findClass_of_methodNamed Bd.named
  have hnm := (name_of_methodNamed Bd.named Bd.method).1
  have X0 : Stand p l e ({ frames := 0, cells := 0, slots := 0, locals := 0 } : Room) s m #[(.ref b1)] below meth c s₁ [] 0 0 := Stand.of_body Bd
  have e0 : s₁.heap = h0 := by rw [← hh, Bd.state]; rfl
  have N0 := Fr.nil n0
  show Go p e below (FinE s below (QL16_1 Z b1 kc2 vs h0 n0) ({ frames := 0, cells := 0, slots := 0, locals := 0 } : Room).cells ({ frames := 0, cells := 0, slots := 0, locals := 0 } : Room).slots) (s₁.setTop (entryFrame m #[(.ref b1)] 1))
  refine Go.via (fun t k => castTop (ef_rmL16_1 m b1) k) ?_
  show Go p e below _ (s₁.setTop (mkF m 0 #[.val (.ref b1)] []))
  refine Go.via (fun _ => XS.aloadN X0.here hx rfl (hb hby d24_0) rfl rfl) ?_
  show Go p e below _ (s₁.setTop (mkF m 1 #[.val (.ref b1)] [(.ref b1)]))
  obtain ⟨cl1, Ar1, -, S1, N1n, -, -⟩ := id V2
  have al1 := X0.arraylength hx (by rw [e0]; exact Ar1.1) (State.isArrayOf_alike hZ.alike Ar1.2.1) (g := (mkF m 1 #[.val (.ref b1)] [(.ref b1)])) rfl rfl (hb hby d24_1)
  rw [len_of S1 N1n] at al1
  refine Go.via al1 ?_
  show Go p e below _ (s₁.setTop (mkF m 2 #[.val (.ref b1)] [(.int (2 : Int32))]))
  refine Go.via (fun _ => XS.iconst X0.here hx rfl (hb hby d24_2)) ?_
  show Go p e below _ (s₁.setTop (mkF m 3 #[.val (.ref b1)] [(.int (1 : Int32)), (.int (2 : Int32))]))
  refine Go.via (fun _ => XS.ishr X0.here hx rfl (hb hby d24_3) rfl) ?_
  show Go p e below _ (s₁.setTop (mkF m 4 #[.val (.ref b1)] [(.int (1 : Int32))]))
  exact own_retI X0 hx hlk Bd.returns (hb hby d24_4) (by show QL16_1 Z b1 kc2 vs h0 n0 _ s₁.heap _; rw [e0]; exact ⟨rfl, N0, rfl⟩) (by decide) (by decide)
theorem ef_rmGetC_1_0 (m : MethodId) (x0 : Addr) : entryFrame m #[(.ref x0), (.int (0 : Int32))] 2 = mkF m 0 #[.val (.ref x0), .val (.int (0 : Int32))] [] := by first | (simp [entryFrame, mkF, argsToLocals, Value.category]; done) | rfl
def QGetC_1_0 (Z : State) (b1 : Addr) (kc2 : ClassId) (ch : Int32) (ccs : Int32) (vF : Value) (h0 : Heap) (n0 : Nat) (v : Option Value) (h : Heap) (L : List Loc) : Prop := v = some (.int ch) ∧ Fr n0 L ∧ h = h0
set_option maxRecDepth 65536 in
set_option maxHeartbeats 40000000 in
theorem rmGetC_1_0 (l : Launch) (Z : State) (a0 : Array Value) (hw : ∀ d ∈ tables_1, d.before a0 Z = true) (ws : List Jvm.Cond) (b1 : Addr) (kc2 : ClassId) (ch : Int32) (ccs : Int32) (vF : Value) (h0 : Heap) (n0 : Nat) (Z0 : n0 ≤ h0.size) (V2 : Arv Z h0 b1 kc2 .byte (2 : Int32) [(.int (nar .byte ((ch >>> ((0 : Int32) &&& 31)).toInt8.toInt32))), (.int (nar .byte ((ch >>> ((8 : Int32) &&& 31)).toInt8.toInt32)))] (.int (0 : Int32))) (hu : nar .char ((((((nar .byte ((ch >>> ((0 : Int32) &&& 31)).toInt8.toInt32))) &&& (255 : Int32)) <<< ((0 : Int32) &&& 31)) ||| ((((nar .byte ((ch >>> ((8 : Int32) &&& 31)).toInt8.toInt32))) &&& (255 : Int32)) <<< ((8 : Int32) &&& 31))).toUInt32.toUInt16.toUInt32.toInt32) = ch) (O0 : Old Z n0 h0) (S_CS : Sta Z Z.heap "java/lang/String" "COMPACT_STRINGS" "Z" (.int ccs)) (hcs : ¬ (ccs = (0 : Int32))) (S_AD : Sta Z Z.heap "java/lang/StringUTF16" "$assertionsDisabled" "Z" (.int (1 : Int32))) (S_HI : Sta Z Z.heap "java/lang/StringUTF16" "HI_BYTE_SHIFT" "I" (.int (0 : Int32))) (S_LO : Sta Z Z.heap "java/lang/StringUTF16" "LO_BYTE_SHIFT" "I" (.int (8 : Int32))) (S_SF : Sta Z Z.heap "jdk/internal/util/Preconditions" "SIOOBE_FORMATTER" "Ljava/util/function/BiFunction;" vF) (rF : vF.isRef = true) :
    MetFree l (⟨"java/lang/StringUTF16", "getChar", "([BI)C"⟩ : MethodName) (head1 (Jvm.Cond.code (⟨"java/lang/StringUTF16", "getChar", "([BI)C"⟩ : MethodName) jdk_52_method_5_code 2 (some .char) :: ws) ({ frames := 0, cells := 0, slots := 0, locals := 0 } : Room)) (fun a U => a = #[(.ref b1), (.int (0 : Int32))] ∧ Z.Warmed39 U.vm ∧ U.heap = h0) (fun _ _ _ _ _ => True) (fun _ U o U' => ∃ v L, o = .returned v ∧ QGetC_1_0 Z b1 kc2 ch ccs vF h0 n0 v U'.heap L ∧ FrameEnd U o U' L ({ frames := 0, cells := 0, slots := 0, locals := 0 } : Room).cells ({ frames := 0, cells := 0, slots := 0, locals := 0 } : Room).slots) := by
  refine MetFree.of_bodySF (plainFor_of_name pn_java_lang_StringUTF16) hisR ?_
  intro p e s m args below meth c s₁ Bd hml0 hP hK
  obtain ⟨rfl, hZ, hh⟩ := hP
  have hx := Bd.exec
  have hby := Bd.bytes
  have hlk : meth.locks = false := Bd.notSynchronized
  have hml : c.maxLocals = 2 := hml0
  have hown : s.vm.findClass "java/lang/StringUTF16" = some m.cls := findClass_of_methodNamed Bd.named
  have hnm := (name_of_methodNamed Bd.named Bd.method).1
  have X0 : Stand p l e ({ frames := 0, cells := 0, slots := 0, locals := 0 } : Room) s m #[(.ref b1), (.int (0 : Int32))] below meth c s₁ [] 0 0 := Stand.of_body Bd
  have e0 : s₁.heap = h0 := by rw [← hh, Bd.state]; rfl
  have N0 := Fr.nil n0
  show Go p e below (FinE s below (QGetC_1_0 Z b1 kc2 ch ccs vF h0 n0) ({ frames := 0, cells := 0, slots := 0, locals := 0 } : Room).cells ({ frames := 0, cells := 0, slots := 0, locals := 0 } : Room).slots) (s₁.setTop (entryFrame m #[(.ref b1), (.int (0 : Int32))] 2))
  refine Go.via (fun t k => castTop (ef_rmGetC_1_0 m b1) k) ?_
  show Go p e below _ (s₁.setTop (mkF m 0 #[.val (.ref b1), .val (.int (0 : Int32))] []))
  obtain ⟨T1, X1, e1, st1⟩ := getS2 X0 hx hZ hown (host := "") (Or.inl (hw _ (List.mem_of_getElem? (i := 99) rfl))) Via.refl e0 (S_AD.ext O0.2) (g := (mkF m 0 #[.val (.ref b1), .val (.int (0 : Int32))] [])) rfl (hb hby d28_0)
  refine Go.via st1 ?_
  show Go p e below _ (T1.setTop (mkF m 3 #[.val (.ref b1), .val (.int (0 : Int32))] [(.int (1 : Int32))]))
  refine Go.via (fun _ => XS.ifYes X1.here hx rfl (pc0 := 3) (pc' := 28) rfl (hb hby d28_3) rfl (by decide) (by decide) (by decide)) ?_
  show Go p e below _ (T1.setTop (mkF m 28 #[.val (.ref b1), .val (.int (0 : Int32))] []))
  refine Go.via (fun _ => XS.iloadN X1.here hx rfl (hb hby d28_28) rfl) ?_
  show Go p e below _ (T1.setTop (mkF m 29 #[.val (.ref b1), .val (.int (0 : Int32))] [(.int (0 : Int32))]))
  refine Go.via (fun _ => XS.iconst X1.here hx rfl (hb hby d28_29)) ?_
  show Go p e below _ (T1.setTop (mkF m 30 #[.val (.ref b1), .val (.int (0 : Int32))] [(.int (1 : Int32)), (.int (0 : Int32))]))
  refine Go.via (fun _ => XS.ishl X1.here hx rfl (hb hby d28_30) rfl) ?_
  show Go p e below _ (T1.setTop (mkF m 31 #[.val (.ref b1), .val (.int (0 : Int32))] [(.int (0 : Int32))]))
  refine Go.via (fun _ => XS.istoreN X1.here hx rfl (hb hby d28_31) rfl (l' := #[.val (.ref b1), .val (.int (0 : Int32))]) rfl) ?_
  show Go p e below _ (T1.setTop (mkF m 32 #[.val (.ref b1), .val (.int (0 : Int32))] []))
  refine Go.via (fun _ => XS.aloadN X1.here hx rfl (hb hby d28_32) rfl rfl) ?_
  show Go p e below _ (T1.setTop (mkF m 33 #[.val (.ref b1), .val (.int (0 : Int32))] [(.ref b1)]))
  refine Go.via (fun _ => XS.iloadN X1.here hx rfl (hb hby d28_33) rfl) ?_
  show Go p e below _ (T1.setTop (mkF m 34 #[.val (.ref b1), .val (.int (0 : Int32))] [(.int (0 : Int32)), (.ref b1)]))
  refine Go.via (fun _ => XS.iinc X1.here hx rfl (hb hby d28_34) rfl (l' := #[.val (.ref b1), .val (.int (1 : Int32))]) rfl) ?_
  show Go p e below _ (T1.setTop (mkF m 37 #[.val (.ref b1), .val (.int (1 : Int32))] [(.int (0 : Int32)), (.ref b1)]))
  obtain ⟨cl2, Ar2, q2, S2, N2n, H2, G2⟩ := id V2
  have hin2 := inb_of (j := (0 : Int32)) S2 (by decide)
  have hat2 : cl2.slots[((0 : Int32) : Int32).toNatClampNeg]? = some (.int (nar .byte ((ch >>> ((0 : Int32) &&& 31)).toInt8.toInt32))) := H2.at hin2 rfl
  refine Go.via (X1.baloadBytes hx (j := (0 : Int32)) (v := (.int (nar .byte ((ch >>> ((0 : Int32) &&& 31)).toInt8.toInt32)))) (by rw [e1]; exact Ar2.1) (State.isArrayOf_alike hZ.alike Ar2.2.1) Ar2.2.2 hin2 hat2 (g := (mkF m 37 #[.val (.ref b1), .val (.int (1 : Int32))] [(.int (0 : Int32)), (.ref b1)])) rfl rfl (hb hby d28_37)) ?_
  show Go p e below _ (T1.setTop (mkF m 38 #[.val (.ref b1), .val (.int (1 : Int32))] [(.int (nar .byte ((ch >>> ((0 : Int32) &&& 31)).toInt8.toInt32)))]))
  refine Go.via (fun _ => XS.sipush X1.here hx rfl (hb hby d28_38)) ?_
  show Go p e below _ (T1.setTop (mkF m 41 #[.val (.ref b1), .val (.int (1 : Int32))] [(.int (255 : Int32)), (.int (nar .byte ((ch >>> ((0 : Int32) &&& 31)).toInt8.toInt32)))]))
  refine Go.via (fun _ => XS.iand X1.here hx rfl (hb hby d28_41) rfl) ?_
  show Go p e below _ (T1.setTop (mkF m 42 #[.val (.ref b1), .val (.int (1 : Int32))] [(.int ((nar .byte ((ch >>> ((0 : Int32) &&& 31)).toInt8.toInt32)) &&& (255 : Int32)))]))
  obtain ⟨T3, X3, e3, st3⟩ := getS2 X1 hx hZ hown (host := "") (Or.inl (hw _ (List.mem_of_getElem? (i := 100) rfl))) Via.refl e1 (S_HI.ext O0.2) (g := (mkF m 42 #[.val (.ref b1), .val (.int (1 : Int32))] [(.int ((nar .byte ((ch >>> ((0 : Int32) &&& 31)).toInt8.toInt32)) &&& (255 : Int32)))])) rfl (hb hby d28_42)
  refine Go.via st3 ?_
  show Go p e below _ (T3.setTop (mkF m 45 #[.val (.ref b1), .val (.int (1 : Int32))] [(.int (0 : Int32)), (.int ((nar .byte ((ch >>> ((0 : Int32) &&& 31)).toInt8.toInt32)) &&& (255 : Int32)))]))
  refine Go.via (fun _ => XS.ishl X3.here hx rfl (hb hby d28_45) rfl) ?_
  show Go p e below _ (T3.setTop (mkF m 46 #[.val (.ref b1), .val (.int (1 : Int32))] [(.int (((nar .byte ((ch >>> ((0 : Int32) &&& 31)).toInt8.toInt32)) &&& (255 : Int32)) <<< ((0 : Int32) &&& 31)))]))
  refine Go.via (fun _ => XS.aloadN X3.here hx rfl (hb hby d28_46) rfl rfl) ?_
  show Go p e below _ (T3.setTop (mkF m 47 #[.val (.ref b1), .val (.int (1 : Int32))] [(.ref b1), (.int (((nar .byte ((ch >>> ((0 : Int32) &&& 31)).toInt8.toInt32)) &&& (255 : Int32)) <<< ((0 : Int32) &&& 31)))]))
  refine Go.via (fun _ => XS.iloadN X3.here hx rfl (hb hby d28_47) rfl) ?_
  show Go p e below _ (T3.setTop (mkF m 48 #[.val (.ref b1), .val (.int (1 : Int32))] [(.int (1 : Int32)), (.ref b1), (.int (((nar .byte ((ch >>> ((0 : Int32) &&& 31)).toInt8.toInt32)) &&& (255 : Int32)) <<< ((0 : Int32) &&& 31)))]))
  obtain ⟨cl4, Ar4, q4, S4, N4n, H4, G4⟩ := id V2
  have hin4 := inb_of (j := (1 : Int32)) S4 (by decide)
  have hat4 : cl4.slots[((1 : Int32) : Int32).toNatClampNeg]? = some (.int (nar .byte ((ch >>> ((8 : Int32) &&& 31)).toInt8.toInt32))) := H4.at hin4 rfl
  refine Go.via (X3.baloadBytes hx (j := (1 : Int32)) (v := (.int (nar .byte ((ch >>> ((8 : Int32) &&& 31)).toInt8.toInt32)))) (by rw [e3]; exact Ar4.1) (State.isArrayOf_alike hZ.alike Ar4.2.1) Ar4.2.2 hin4 hat4 (g := (mkF m 48 #[.val (.ref b1), .val (.int (1 : Int32))] [(.int (1 : Int32)), (.ref b1), (.int (((nar .byte ((ch >>> ((0 : Int32) &&& 31)).toInt8.toInt32)) &&& (255 : Int32)) <<< ((0 : Int32) &&& 31)))])) rfl rfl (hb hby d28_48)) ?_
  show Go p e below _ (T3.setTop (mkF m 49 #[.val (.ref b1), .val (.int (1 : Int32))] [(.int (nar .byte ((ch >>> ((8 : Int32) &&& 31)).toInt8.toInt32))), (.int (((nar .byte ((ch >>> ((0 : Int32) &&& 31)).toInt8.toInt32)) &&& (255 : Int32)) <<< ((0 : Int32) &&& 31)))]))
  refine Go.via (fun _ => XS.sipush X3.here hx rfl (hb hby d28_49)) ?_
  show Go p e below _ (T3.setTop (mkF m 52 #[.val (.ref b1), .val (.int (1 : Int32))] [(.int (255 : Int32)), (.int (nar .byte ((ch >>> ((8 : Int32) &&& 31)).toInt8.toInt32))), (.int (((nar .byte ((ch >>> ((0 : Int32) &&& 31)).toInt8.toInt32)) &&& (255 : Int32)) <<< ((0 : Int32) &&& 31)))]))
  refine Go.via (fun _ => XS.iand X3.here hx rfl (hb hby d28_52) rfl) ?_
  show Go p e below _ (T3.setTop (mkF m 53 #[.val (.ref b1), .val (.int (1 : Int32))] [(.int ((nar .byte ((ch >>> ((8 : Int32) &&& 31)).toInt8.toInt32)) &&& (255 : Int32))), (.int (((nar .byte ((ch >>> ((0 : Int32) &&& 31)).toInt8.toInt32)) &&& (255 : Int32)) <<< ((0 : Int32) &&& 31)))]))
  obtain ⟨T5, X5, e5, st5⟩ := getS2 X3 hx hZ hown (host := "") (Or.inl (hw _ (List.mem_of_getElem? (i := 101) rfl))) Via.refl e3 (S_LO.ext O0.2) (g := (mkF m 53 #[.val (.ref b1), .val (.int (1 : Int32))] [(.int ((nar .byte ((ch >>> ((8 : Int32) &&& 31)).toInt8.toInt32)) &&& (255 : Int32))), (.int (((nar .byte ((ch >>> ((0 : Int32) &&& 31)).toInt8.toInt32)) &&& (255 : Int32)) <<< ((0 : Int32) &&& 31)))])) rfl (hb hby d28_53)
  refine Go.via st5 ?_
  show Go p e below _ (T5.setTop (mkF m 56 #[.val (.ref b1), .val (.int (1 : Int32))] [(.int (8 : Int32)), (.int ((nar .byte ((ch >>> ((8 : Int32) &&& 31)).toInt8.toInt32)) &&& (255 : Int32))), (.int (((nar .byte ((ch >>> ((0 : Int32) &&& 31)).toInt8.toInt32)) &&& (255 : Int32)) <<< ((0 : Int32) &&& 31)))]))
  refine Go.via (fun _ => XS.ishl X5.here hx rfl (hb hby d28_56) rfl) ?_
  show Go p e below _ (T5.setTop (mkF m 57 #[.val (.ref b1), .val (.int (1 : Int32))] [(.int (((nar .byte ((ch >>> ((8 : Int32) &&& 31)).toInt8.toInt32)) &&& (255 : Int32)) <<< ((8 : Int32) &&& 31))), (.int (((nar .byte ((ch >>> ((0 : Int32) &&& 31)).toInt8.toInt32)) &&& (255 : Int32)) <<< ((0 : Int32) &&& 31)))]))
  refine Go.via (fun _ => XS.ior X5.here hx rfl (hb hby d28_57) rfl) ?_
  show Go p e below _ (T5.setTop (mkF m 58 #[.val (.ref b1), .val (.int (1 : Int32))] [(.int ((((nar .byte ((ch >>> ((0 : Int32) &&& 31)).toInt8.toInt32)) &&& (255 : Int32)) <<< ((0 : Int32) &&& 31)) ||| (((nar .byte ((ch >>> ((8 : Int32) &&& 31)).toInt8.toInt32)) &&& (255 : Int32)) <<< ((8 : Int32) &&& 31))))]))
  refine Go.via (fun _ => XS.i2c X5.here hx rfl (hb hby d28_58) rfl) ?_
  show Go p e below _ (T5.setTop (mkF m 59 #[.val (.ref b1), .val (.int (1 : Int32))] [(.int (((((nar .byte ((ch >>> ((0 : Int32) &&& 31)).toInt8.toInt32)) &&& (255 : Int32)) <<< ((0 : Int32) &&& 31)) ||| (((nar .byte ((ch >>> ((8 : Int32) &&& 31)).toInt8.toInt32)) &&& (255 : Int32)) <<< ((8 : Int32) &&& 31))).toUInt32.toUInt16.toUInt32.toInt32))]))
  exact own_retN X5 hx hlk (t := .char) Bd.returns (by simp) (hb hby d28_59) (by show QGetC_1_0 Z b1 kc2 ch ccs vF h0 n0 _ T5.heap _; rw [e5]; exact ⟨congrArg (fun z => some (Value.int z)) hu, N0, rfl⟩) (by decide) (by decide)
theorem ef_rmCFT (m : MethodId) (x3 : Value) (hx3 : x3.isRef = true) : entryFrame m #[(.int (0 : Int32)), (.int (1 : Int32)), (.int (1 : Int32)), x3] 4 = mkF m 0 #[.val (.int (0 : Int32)), .val (.int (1 : Int32)), .val (.int (1 : Int32)), .val x3] [] := by cases x3 <;> first | rfl | cases hx3
def QCFT (Z : State) (vF : Value) (h0 : Heap) (n0 : Nat) (v : Option Value) (h : Heap) (L : List Loc) : Prop := v = some (.int (0 : Int32)) ∧ Fr n0 L ∧ h = h0
set_option maxRecDepth 65536 in
set_option maxHeartbeats 40000000 in
theorem rmCFT (l : Launch) (Z : State) (a0 : Array Value) (hw : ∀ d ∈ tables_1, d.before a0 Z = true) (ws : List Jvm.Cond) (vF : Value) (h0 : Heap) (n0 : Nat) (Z0 : n0 ≤ h0.size) (rF : vF.isRef = true) :
    MetFree l (⟨"jdk/internal/util/Preconditions", "checkFromToIndex", "(IIILjava/util/function/BiFunction;)I"⟩ : MethodName) (head1 (Jvm.Cond.code (⟨"jdk/internal/util/Preconditions", "checkFromToIndex", "(IIILjava/util/function/BiFunction;)I"⟩ : MethodName) jdk_41_method_12_code 4 (some .int) :: ws) ({ frames := 0, cells := 0, slots := 0, locals := 0 } : Room)) (fun a U => a = #[(.int (0 : Int32)), (.int (1 : Int32)), (.int (1 : Int32)), vF] ∧ Z.Warmed39 U.vm ∧ U.heap = h0) (fun _ _ _ _ _ => True) (fun _ U o U' => ∃ v L, o = .returned v ∧ QCFT Z vF h0 n0 v U'.heap L ∧ FrameEnd U o U' L ({ frames := 0, cells := 0, slots := 0, locals := 0 } : Room).cells ({ frames := 0, cells := 0, slots := 0, locals := 0 } : Room).slots) := by
  refine MetFree.of_bodySF (plainFor_of_name pn_jdk_internal_util_Preconditions) hisR ?_
  intro p e s m args below meth c s₁ Bd hml0 hP hK
  obtain ⟨rfl, hZ, hh⟩ := hP
  have hx := Bd.exec
  have hby := Bd.bytes
  have hlk : meth.locks = false := Bd.notSynchronized
  have hml : c.maxLocals = 4 := hml0
  have hown : s.vm.findClass "jdk/internal/util/Preconditions" = some m.cls := findClass_of_methodNamed Bd.named
  have hnm := (name_of_methodNamed Bd.named Bd.method).1
  have X0 : Stand p l e ({ frames := 0, cells := 0, slots := 0, locals := 0 } : Room) s m #[(.int (0 : Int32)), (.int (1 : Int32)), (.int (1 : Int32)), vF] below meth c s₁ [] 0 0 := Stand.of_body Bd
  have e0 : s₁.heap = h0 := by rw [← hh, Bd.state]; rfl
  have N0 := Fr.nil n0
  show Go p e below (FinE s below (QCFT Z vF h0 n0) ({ frames := 0, cells := 0, slots := 0, locals := 0 } : Room).cells ({ frames := 0, cells := 0, slots := 0, locals := 0 } : Room).slots) (s₁.setTop (entryFrame m #[(.int (0 : Int32)), (.int (1 : Int32)), (.int (1 : Int32)), vF] 4))
  refine Go.via (fun t k => castTop (ef_rmCFT m vF rF) k) ?_
  show Go p e below _ (s₁.setTop (mkF m 0 #[.val (.int (0 : Int32)), .val (.int (1 : Int32)), .val (.int (1 : Int32)), .val vF] []))
  refine Go.via (fun _ => XS.iloadN X0.here hx rfl (hb hby d26_0) rfl) ?_
  show Go p e below _ (s₁.setTop (mkF m 1 #[.val (.int (0 : Int32)), .val (.int (1 : Int32)), .val (.int (1 : Int32)), .val vF] [(.int (0 : Int32))]))
  refine Go.via (fun _ => XS.ifNo X0.here hx rfl (hb hby d26_1) rfl (by decide)) ?_
  show Go p e below _ (s₁.setTop (mkF m 4 #[.val (.int (0 : Int32)), .val (.int (1 : Int32)), .val (.int (1 : Int32)), .val vF] []))
  refine Go.via (fun _ => XS.iloadN X0.here hx rfl (hb hby d26_4) rfl) ?_
  show Go p e below _ (s₁.setTop (mkF m 5 #[.val (.int (0 : Int32)), .val (.int (1 : Int32)), .val (.int (1 : Int32)), .val vF] [(.int (0 : Int32))]))
  refine Go.via (fun _ => XS.iloadN X0.here hx rfl (hb hby d26_5) rfl) ?_
  show Go p e below _ (s₁.setTop (mkF m 6 #[.val (.int (0 : Int32)), .val (.int (1 : Int32)), .val (.int (1 : Int32)), .val vF] [(.int (1 : Int32)), (.int (0 : Int32))]))
  refine Go.via (fun _ => XS.icmpNo X0.here hx rfl (hb hby d26_6) rfl (by decide)) ?_
  show Go p e below _ (s₁.setTop (mkF m 9 #[.val (.int (0 : Int32)), .val (.int (1 : Int32)), .val (.int (1 : Int32)), .val vF] []))
  refine Go.via (fun _ => XS.iloadN X0.here hx rfl (hb hby d26_9) rfl) ?_
  show Go p e below _ (s₁.setTop (mkF m 10 #[.val (.int (0 : Int32)), .val (.int (1 : Int32)), .val (.int (1 : Int32)), .val vF] [(.int (1 : Int32))]))
  refine Go.via (fun _ => XS.iloadN X0.here hx rfl (hb hby d26_10) rfl) ?_
  show Go p e below _ (s₁.setTop (mkF m 11 #[.val (.int (0 : Int32)), .val (.int (1 : Int32)), .val (.int (1 : Int32)), .val vF] [(.int (1 : Int32)), (.int (1 : Int32))]))
  refine Go.via (fun _ => XS.icmpYes X0.here hx rfl (pc0 := 11) (pc' := 22) rfl (hb hby d26_11) rfl (by decide) (by decide) (by decide)) ?_
  show Go p e below _ (s₁.setTop (mkF m 22 #[.val (.int (0 : Int32)), .val (.int (1 : Int32)), .val (.int (1 : Int32)), .val vF] []))
  refine Go.via (fun _ => XS.iloadN X0.here hx rfl (hb hby d26_22) rfl) ?_
  show Go p e below _ (s₁.setTop (mkF m 23 #[.val (.int (0 : Int32)), .val (.int (1 : Int32)), .val (.int (1 : Int32)), .val vF] [(.int (0 : Int32))]))
  exact own_retI X0 hx hlk Bd.returns (hb hby d26_23) (by show QCFT Z vF h0 n0 _ s₁.heap _; rw [e0]; exact ⟨rfl, N0, rfl⟩) (by decide) (by decide)
theorem ef_rmCB1 (m : MethodId)  : entryFrame m #[(.int (0 : Int32)), (.int (1 : Int32)), (.int (1 : Int32))] 3 = mkF m 0 #[.val (.int (0 : Int32)), .val (.int (1 : Int32)), .val (.int (1 : Int32))] [] := by first | (simp [entryFrame, mkF, argsToLocals, Value.category]; done) | rfl
def QCB1 (Z : State) (ccs : Int32) (vF : Value) (h0 : Heap) (n0 : Nat) (v : Option Value) (h : Heap) (L : List Loc) : Prop := v = none ∧ Fr n0 L ∧ h = h0
set_option maxRecDepth 65536 in
set_option maxHeartbeats 40000000 in
theorem rmCB1 (l : Launch) (Z : State) (a0 : Array Value) (hw : ∀ d ∈ tables_1, d.before a0 Z = true) (ws : List Jvm.Cond) (ccs : Int32) (vF : Value) (h0 : Heap) (n0 : Nat) (Z0 : n0 ≤ h0.size) (O0 : Old Z n0 h0) (S_CS : Sta Z Z.heap "java/lang/String" "COMPACT_STRINGS" "Z" (.int ccs)) (hcs : ¬ (ccs = (0 : Int32))) (S_AD : Sta Z Z.heap "java/lang/StringUTF16" "$assertionsDisabled" "Z" (.int (1 : Int32))) (S_HI : Sta Z Z.heap "java/lang/StringUTF16" "HI_BYTE_SHIFT" "I" (.int (0 : Int32))) (S_LO : Sta Z Z.heap "java/lang/StringUTF16" "LO_BYTE_SHIFT" "I" (.int (8 : Int32))) (S_SF : Sta Z Z.heap "jdk/internal/util/Preconditions" "SIOOBE_FORMATTER" "Ljava/util/function/BiFunction;" vF) (rF : vF.isRef = true) :
    MetFree l (⟨"java/lang/String", "checkBoundsBeginEnd", "(III)V"⟩ : MethodName) (head1 (Jvm.Cond.code (⟨"java/lang/String", "checkBoundsBeginEnd", "(III)V"⟩ : MethodName) jdk_42_method_158_code 3 none :: ws) ({ frames := 1, cells := 0, slots := 0, locals := 15 } : Room)) (fun a U => a = #[(.int (0 : Int32)), (.int (1 : Int32)), (.int (1 : Int32))] ∧ Z.Warmed39 U.vm ∧ U.heap = h0) (fun _ _ _ _ _ => True) (fun _ U o U' => ∃ v L, o = .returned v ∧ QCB1 Z ccs vF h0 n0 v U'.heap L ∧ FrameEnd U o U' L ({ frames := 1, cells := 0, slots := 0, locals := 15 } : Room).cells ({ frames := 1, cells := 0, slots := 0, locals := 15 } : Room).slots) := by
  refine MetFree.of_bodySF (plainFor_of_name pn_java_lang_String) hisR ?_
  intro p e s m args below meth c s₁ Bd hml0 hP hK
  obtain ⟨rfl, hZ, hh⟩ := hP
  have hx := Bd.exec
  have hby := Bd.bytes
  have hlk : meth.locks = false := Bd.notSynchronized
  have hml : c.maxLocals = 3 := hml0
  have hown : s.vm.findClass "java/lang/String" = some m.cls := findClass_of_methodNamed Bd.named
  have hnm := (name_of_methodNamed Bd.named Bd.method).1
  have X0 : Stand p l e ({ frames := 1, cells := 0, slots := 0, locals := 15 } : Room) s m #[(.int (0 : Int32)), (.int (1 : Int32)), (.int (1 : Int32))] below meth c s₁ [] 0 0 := Stand.of_body Bd
  have e0 : s₁.heap = h0 := by rw [← hh, Bd.state]; rfl
  have N0 := Fr.nil n0
  show Go p e below (FinE s below (QCB1 Z ccs vF h0 n0) ({ frames := 1, cells := 0, slots := 0, locals := 15 } : Room).cells ({ frames := 1, cells := 0, slots := 0, locals := 15 } : Room).slots) (s₁.setTop (entryFrame m #[(.int (0 : Int32)), (.int (1 : Int32)), (.int (1 : Int32))] 3))
  refine Go.via (fun t k => castTop (ef_rmCB1 m ) k) ?_
  show Go p e below _ (s₁.setTop (mkF m 0 #[.val (.int (0 : Int32)), .val (.int (1 : Int32)), .val (.int (1 : Int32))] []))
  refine Go.via (fun _ => XS.iloadN X0.here hx rfl (hb hby d25_0) rfl) ?_
  show Go p e below _ (s₁.setTop (mkF m 1 #[.val (.int (0 : Int32)), .val (.int (1 : Int32)), .val (.int (1 : Int32))] [(.int (0 : Int32))]))
  refine Go.via (fun _ => XS.iloadN X0.here hx rfl (hb hby d25_1) rfl) ?_
  show Go p e below _ (s₁.setTop (mkF m 2 #[.val (.int (0 : Int32)), .val (.int (1 : Int32)), .val (.int (1 : Int32))] [(.int (1 : Int32)), (.int (0 : Int32))]))
  refine Go.via (fun _ => XS.iloadN X0.here hx rfl (hb hby d25_2) rfl) ?_
  show Go p e below _ (s₁.setTop (mkF m 3 #[.val (.int (0 : Int32)), .val (.int (1 : Int32)), .val (.int (1 : Int32))] [(.int (1 : Int32)), (.int (1 : Int32)), (.int (0 : Int32))]))
  obtain ⟨T1, X1, e1, st1⟩ := getS2 X0 hx hZ hown (host := "") (Or.inl (hw _ (List.mem_of_getElem? (i := 120) rfl))) Via.refl e0 (S_SF.ext O0.2) (g := (mkF m 3 #[.val (.int (0 : Int32)), .val (.int (1 : Int32)), .val (.int (1 : Int32))] [(.int (1 : Int32)), (.int (1 : Int32)), (.int (0 : Int32))])) rfl (hb hby d25_3)
  refine Go.via st1 ?_
  show Go p e below _ (T1.setTop (mkF m 6 #[.val (.int (0 : Int32)), .val (.int (1 : Int32)), .val (.int (1 : Int32))] [vF, (.int (1 : Int32)), (.int (1 : Int32)), (.int (0 : Int32))]))
  obtain ⟨_, _, ⟨T2, L2, k2, n2⟩, -, X2, ⟨Lc2, hQ2, l2, y2, z2⟩, st2⟩ := Jvm.LawKit.callS X1 hx (y := (⟨"jdk/internal/util/Preconditions", "checkFromToIndex", "(IIILjava/util/function/BiFunction;)I"⟩ : MethodName)) hown (mvT hZ (hw _ (List.mem_of_getElem? (i := 122) rfl))) (mvT hZ (hw _ (List.mem_of_getElem? (i := 123) rfl))) (mvT hZ (hw _ (List.mem_of_getElem? (i := 121) rfl))) (mvT hZ (hw _ (List.mem_of_getElem? (i := 124) rfl))) (by decide) (backOf (W := 0) (rmCFT l Z a0 hw [] vF h0 n0 Z0 rF) hZ (hw _ (List.mem_of_getElem? (i := 124) rfl)) (hw _ (List.mem_of_getElem? (i := 121) rfl)) (by decide) (by decide)) (g := (mkF m 6 #[.val (.int (0 : Int32)), .val (.int (1 : Int32)), .val (.int (1 : Int32))] [vF, (.int (1 : Int32)), (.int (1 : Int32)), (.int (0 : Int32))])) rfl (by rw [hml]; rfl) (argsL := [(.int (0 : Int32)), (.int (1 : Int32)), (.int (1 : Int32)), vF]) (rest := []) (lenOf pd_10 rfl) rfl (by show 2 * 0 + _ ≤ _; exact Nat.le_of_eq rfl) (hb hby d25_6) (fun _ _ => ⟨rfl, e1, (by decide : 0 + 0 ≤ _), (by decide : 0 + 0 ≤ _)⟩)
  dsimp only [Pt.U, Pt.locs, Pt.cells, Pt.slots] at X2 l2 y2 z2 st2 hQ2
  subst l2 y2 z2
  obtain ⟨rfl, N2q, e2q⟩ := hQ2
  have N2 := Fr.app N0 N2q
  refine Go.via st2 ?_
  show Go p e below _ (T2.setTop (mkF m 9 #[.val (.int (0 : Int32)), .val (.int (1 : Int32)), .val (.int (1 : Int32))] [(.int (0 : Int32))]))
  refine Go.via (fun _ => XS.pop X2.here hx rfl (hb hby d25_9) rfl rfl) ?_
  show Go p e below _ (T2.setTop (mkF m 10 #[.val (.int (0 : Int32)), .val (.int (1 : Int32)), .val (.int (1 : Int32))] []))
  exact own_retV X2 hx hlk Bd.returns (hb hby d25_10) (by show QCB1 Z ccs vF h0 n0 _ T2.heap _; rw [e2q]; exact ⟨rfl, N2, rfl⟩) (by decide) (by decide)
theorem ef_rmCB2 (m : MethodId) (x2 : Addr) : entryFrame m #[(.int (0 : Int32)), (.int (1 : Int32)), (.ref x2)] 3 = mkF m 0 #[.val (.int (0 : Int32)), .val (.int (1 : Int32)), .val (.ref x2)] [] := by first | (simp [entryFrame, mkF, argsToLocals, Value.category]; done) | rfl
def QCB2 (Z : State) (t1 : Addr) (kb : ClassId) (c0 : Int32) (ccs : Int32) (vF : Value) (h0 : Heap) (n0 : Nat) (v : Option Value) (h : Heap) (L : List Loc) : Prop := v = none ∧ Fr n0 L ∧ h = h0
set_option maxRecDepth 65536 in
set_option maxHeartbeats 40000000 in
theorem rmCB2 (l : Launch) (Z : State) (a0 : Array Value) (hw : ∀ d ∈ tables_1, d.before a0 Z = true) (ws : List Jvm.Cond) (t1 : Addr) (kb : ClassId) (c0 : Int32) (ccs : Int32) (vF : Value) (h0 : Heap) (n0 : Nat) (Z0 : n0 ≤ h0.size) (V2 : Arv Z h0 t1 kb .byte (2 : Int32) [(.int (nar .byte ((c0 >>> ((0 : Int32) &&& 31)).toInt8.toInt32))), (.int (nar .byte ((c0 >>> ((8 : Int32) &&& 31)).toInt8.toInt32)))] (.int (0 : Int32))) (O0 : Old Z n0 h0) (S_CS : Sta Z Z.heap "java/lang/String" "COMPACT_STRINGS" "Z" (.int ccs)) (hcs : ¬ (ccs = (0 : Int32))) (S_AD : Sta Z Z.heap "java/lang/StringUTF16" "$assertionsDisabled" "Z" (.int (1 : Int32))) (S_HI : Sta Z Z.heap "java/lang/StringUTF16" "HI_BYTE_SHIFT" "I" (.int (0 : Int32))) (S_LO : Sta Z Z.heap "java/lang/StringUTF16" "LO_BYTE_SHIFT" "I" (.int (8 : Int32))) (S_SF : Sta Z Z.heap "jdk/internal/util/Preconditions" "SIOOBE_FORMATTER" "Ljava/util/function/BiFunction;" vF) (rF : vF.isRef = true) :
    MetFree l (⟨"java/lang/StringUTF16", "checkBoundsBeginEnd", "(II[B)V"⟩ : MethodName) (head1 (Jvm.Cond.code (⟨"java/lang/StringUTF16", "checkBoundsBeginEnd", "(II[B)V"⟩ : MethodName) jdk_52_method_93_code 3 none :: ws) ({ frames := 2, cells := 0, slots := 0, locals := 29 } : Room)) (fun a U => a = #[(.int (0 : Int32)), (.int (1 : Int32)), (.ref t1)] ∧ Z.Warmed39 U.vm ∧ U.heap = h0) (fun _ _ _ _ _ => True) (fun _ U o U' => ∃ v L, o = .returned v ∧ QCB2 Z t1 kb c0 ccs vF h0 n0 v U'.heap L ∧ FrameEnd U o U' L ({ frames := 2, cells := 0, slots := 0, locals := 29 } : Room).cells ({ frames := 2, cells := 0, slots := 0, locals := 29 } : Room).slots) := by
  refine MetFree.of_bodySF (plainFor_of_name pn_java_lang_StringUTF16) hisR ?_
  intro p e s m args below meth c s₁ Bd hml0 hP hK
  obtain ⟨rfl, hZ, hh⟩ := hP
  have hx := Bd.exec
  have hby := Bd.bytes
  have hlk : meth.locks = false := Bd.notSynchronized
  have hml : c.maxLocals = 3 := hml0
  have hown : s.vm.findClass "java/lang/StringUTF16" = some m.cls := findClass_of_methodNamed Bd.named
  have hnm := (name_of_methodNamed Bd.named Bd.method).1
  have X0 : Stand p l e ({ frames := 2, cells := 0, slots := 0, locals := 29 } : Room) s m #[(.int (0 : Int32)), (.int (1 : Int32)), (.ref t1)] below meth c s₁ [] 0 0 := Stand.of_body Bd
  have e0 : s₁.heap = h0 := by rw [← hh, Bd.state]; rfl
  have N0 := Fr.nil n0
  show Go p e below (FinE s below (QCB2 Z t1 kb c0 ccs vF h0 n0) ({ frames := 2, cells := 0, slots := 0, locals := 29 } : Room).cells ({ frames := 2, cells := 0, slots := 0, locals := 29 } : Room).slots) (s₁.setTop (entryFrame m #[(.int (0 : Int32)), (.int (1 : Int32)), (.ref t1)] 3))
  refine Go.via (fun t k => castTop (ef_rmCB2 m t1) k) ?_
  show Go p e below _ (s₁.setTop (mkF m 0 #[.val (.int (0 : Int32)), .val (.int (1 : Int32)), .val (.ref t1)] []))
  refine Go.via (fun _ => XS.iloadN X0.here hx rfl (hb hby d23_0) rfl) ?_
  show Go p e below _ (s₁.setTop (mkF m 1 #[.val (.int (0 : Int32)), .val (.int (1 : Int32)), .val (.ref t1)] [(.int (0 : Int32))]))
  refine Go.via (fun _ => XS.iloadN X0.here hx rfl (hb hby d23_1) rfl) ?_
  show Go p e below _ (s₁.setTop (mkF m 2 #[.val (.int (0 : Int32)), .val (.int (1 : Int32)), .val (.ref t1)] [(.int (1 : Int32)), (.int (0 : Int32))]))
  refine Go.via (fun _ => XS.aloadN X0.here hx rfl (hb hby d23_2) rfl rfl) ?_
  show Go p e below _ (s₁.setTop (mkF m 3 #[.val (.int (0 : Int32)), .val (.int (1 : Int32)), .val (.ref t1)] [(.ref t1), (.int (1 : Int32)), (.int (0 : Int32))]))
  obtain ⟨_, _, ⟨T1, L1, k1, n1⟩, -, X1, ⟨Lc1, hQ1, l1, y1, z1⟩, st1⟩ := Jvm.LawKit.callS X0 hx (y := (⟨"java/lang/StringUTF16", "length", "([B)I"⟩ : MethodName)) hown (mvT hZ (hw _ (List.mem_of_getElem? (i := 114) rfl))) (mvT hZ (hw _ (List.mem_of_getElem? (i := 115) rfl))) (mvT hZ (hw _ (List.mem_of_getElem? (i := 94) rfl))) (mvT hZ (hw _ (List.mem_of_getElem? (i := 116) rfl))) (by decide) (backOf (W := 2) (rmL16_1 l Z a0 hw [] t1 kb _ h0 n0 Z0 V2) hZ (hw _ (List.mem_of_getElem? (i := 116) rfl)) (hw _ (List.mem_of_getElem? (i := 94) rfl)) (by decide) (by decide)) (g := (mkF m 3 #[.val (.int (0 : Int32)), .val (.int (1 : Int32)), .val (.ref t1)] [(.ref t1), (.int (1 : Int32)), (.int (0 : Int32))])) rfl (by rw [hml]; rfl) (argsL := [(.ref t1)]) (rest := [(.int (1 : Int32)), (.int (0 : Int32))]) (lenOf pd_11 rfl) rfl (by show 2 * 0 + _ ≤ _; exact Nat.le_of_eq rfl) (hb hby d23_3) (fun _ _ => ⟨rfl, e0, (by decide : 0 + 0 ≤ _), (by decide : 0 + 0 ≤ _)⟩)
  dsimp only [Pt.U, Pt.locs, Pt.cells, Pt.slots] at X1 l1 y1 z1 st1 hQ1
  subst l1 y1 z1
  obtain ⟨rfl, N1q, e1q⟩ := hQ1
  have N1 := Fr.app N0 N1q
  refine Go.via st1 ?_
  show Go p e below _ (T1.setTop (mkF m 6 #[.val (.int (0 : Int32)), .val (.int (1 : Int32)), .val (.ref t1)] [(.int (1 : Int32)), (.int (1 : Int32)), (.int (0 : Int32))]))
  obtain ⟨_, _, ⟨T2, L2, k2, n2⟩, -, X2, ⟨Lc2, hQ2, l2, y2, z2⟩, st2⟩ := Jvm.LawKit.callS X1 hx (y := (⟨"java/lang/String", "checkBoundsBeginEnd", "(III)V"⟩ : MethodName)) hown (mvT hZ (hw _ (List.mem_of_getElem? (i := 117) rfl))) (mvT hZ (hw _ (List.mem_of_getElem? (i := 118) rfl))) (mvT hZ (hw _ (List.mem_of_getElem? (i := 7) rfl))) (mvT hZ (hw _ (List.mem_of_getElem? (i := 119) rfl))) (by decide) (backOf (W := 0) (rmCB1 l Z a0 hw [] ccs vF h0 n0 Z0 O0 S_CS hcs S_AD S_HI S_LO S_SF rF) hZ (hw _ (List.mem_of_getElem? (i := 119) rfl)) (hw _ (List.mem_of_getElem? (i := 7) rfl)) (by decide) (by decide)) (g := (mkF m 6 #[.val (.int (0 : Int32)), .val (.int (1 : Int32)), .val (.ref t1)] [(.int (1 : Int32)), (.int (1 : Int32)), (.int (0 : Int32))])) rfl (by rw [hml]; rfl) (argsL := [(.int (0 : Int32)), (.int (1 : Int32)), (.int (1 : Int32))]) (rest := []) (lenOf pd_12 rfl) rfl (by show 2 * 0 + _ ≤ _; exact Nat.le_of_eq rfl) (hb hby d23_6) (fun _ _ => ⟨rfl, e1q, (by decide : 0 + 0 ≤ _), (by decide : 0 + 0 ≤ _)⟩)
  dsimp only [Pt.U, Pt.locs, Pt.cells, Pt.slots] at X2 l2 y2 z2 st2 hQ2
  subst l2 y2 z2
  obtain ⟨rfl, N2q, e2q⟩ := hQ2
  have N2 := Fr.app N1 N2q
  refine Go.via st2 ?_
  show Go p e below _ (T2.setTop (mkF m 9 #[.val (.int (0 : Int32)), .val (.int (1 : Int32)), .val (.ref t1)] []))
  exact own_retV X2 hx hlk Bd.returns (hb hby d23_9) (by show QCB2 Z t1 kb c0 ccs vF h0 n0 _ T2.heap _; rw [e2q]; exact ⟨rfl, N2, rfl⟩) (by decide) (by decide)
theorem ef_rmICU (m : MethodId) (x0 : Addr) (x1 : Int32) : entryFrame m #[(.ref x0), (.int x1), (.int (0 : Int32)), (.int (1 : Int32))] 5 = mkF m 0 #[.val (.ref x0), .val (.int x1), .val (.int (0 : Int32)), .val (.int (1 : Int32)), .unset] [] := by first | (simp [entryFrame, mkF, argsToLocals, Value.category]; done) | rfl
def QICU (Z : State) (t1 : Addr) (kb : ClassId) (c0 : Int32) (ch : Int32) (ccs : Int32) (vF : Value) (h0 : Heap) (n0 : Nat) (v : Option Value) (h : Heap) (L : List Loc) : Prop := v = some (.int (-1 : Int32)) ∧ Fr n0 L ∧ h = h0
set_option maxRecDepth 65536 in
set_option maxHeartbeats 40000000 in
theorem rmICU (l : Launch) (Z : State) (a0 : Array Value) (hw : ∀ d ∈ tables_1, d.before a0 Z = true) (ws : List Jvm.Cond) (t1 : Addr) (kb : ClassId) (c0 : Int32) (ch : Int32) (ccs : Int32) (vF : Value) (h0 : Heap) (n0 : Nat) (Z0 : n0 ≤ h0.size) (V2 : Arv Z h0 t1 kb .byte (2 : Int32) [(.int (nar .byte ((c0 >>> ((0 : Int32) &&& 31)).toInt8.toInt32))), (.int (nar .byte ((c0 >>> ((8 : Int32) &&& 31)).toInt8.toInt32)))] (.int (0 : Int32))) (hu : nar .char ((((((nar .byte ((c0 >>> ((0 : Int32) &&& 31)).toInt8.toInt32))) &&& (255 : Int32)) <<< ((0 : Int32) &&& 31)) ||| ((((nar .byte ((c0 >>> ((8 : Int32) &&& 31)).toInt8.toInt32))) &&& (255 : Int32)) <<< ((8 : Int32) &&& 31))).toUInt32.toUInt16.toUInt32.toInt32) = c0) (hne : ¬ (c0 = ch)) (O0 : Old Z n0 h0) (S_CS : Sta Z Z.heap "java/lang/String" "COMPACT_STRINGS" "Z" (.int ccs)) (hcs : ¬ (ccs = (0 : Int32))) (S_AD : Sta Z Z.heap "java/lang/StringUTF16" "$assertionsDisabled" "Z" (.int (1 : Int32))) (S_HI : Sta Z Z.heap "java/lang/StringUTF16" "HI_BYTE_SHIFT" "I" (.int (0 : Int32))) (S_LO : Sta Z Z.heap "java/lang/StringUTF16" "LO_BYTE_SHIFT" "I" (.int (8 : Int32))) (S_SF : Sta Z Z.heap "jdk/internal/util/Preconditions" "SIOOBE_FORMATTER" "Ljava/util/function/BiFunction;" vF) (rF : vF.isRef = true) :
    MetFree l (⟨"java/lang/StringUTF16", "indexOfCharUnsafe", "([BIII)I"⟩ : MethodName) (head1 (Jvm.Cond.code (⟨"java/lang/StringUTF16", "indexOfCharUnsafe", "([BIII)I"⟩ : MethodName) jdk_52_method_48_code 5 (some .int) :: ws) ({ frames := 1, cells := 0, slots := 0, locals := 13 } : Room)) (fun a U => a = #[(.ref t1), (.int ch), (.int (0 : Int32)), (.int (1 : Int32))] ∧ Z.Warmed39 U.vm ∧ U.heap = h0) (fun _ _ _ _ _ => True) (fun _ U o U' => ∃ v L, o = .returned v ∧ QICU Z t1 kb c0 ch ccs vF h0 n0 v U'.heap L ∧ FrameEnd U o U' L ({ frames := 1, cells := 0, slots := 0, locals := 13 } : Room).cells ({ frames := 1, cells := 0, slots := 0, locals := 13 } : Room).slots) := by
  refine MetFree.of_bodySF (plainFor_of_name pn_java_lang_StringUTF16) hisR ?_
  intro p e s m args below meth c s₁ Bd hml0 hP hK
  obtain ⟨rfl, hZ, hh⟩ := hP
  have hx := Bd.exec
  have hby := Bd.bytes
  have hlk : meth.locks = false := Bd.notSynchronized
  have hml : c.maxLocals = 5 := hml0
  have hown : s.vm.findClass "java/lang/StringUTF16" = some m.cls := findClass_of_methodNamed Bd.named
  have hnm := (name_of_methodNamed Bd.named Bd.method).1
  have X0 : Stand p l e ({ frames := 1, cells := 0, slots := 0, locals := 13 } : Room) s m #[(.ref t1), (.int ch), (.int (0 : Int32)), (.int (1 : Int32))] below meth c s₁ [] 0 0 := Stand.of_body Bd
  have e0 : s₁.heap = h0 := by rw [← hh, Bd.state]; rfl
  have N0 := Fr.nil n0
  show Go p e below (FinE s below (QICU Z t1 kb c0 ch ccs vF h0 n0) ({ frames := 1, cells := 0, slots := 0, locals := 13 } : Room).cells ({ frames := 1, cells := 0, slots := 0, locals := 13 } : Room).slots) (s₁.setTop (entryFrame m #[(.ref t1), (.int ch), (.int (0 : Int32)), (.int (1 : Int32))] 5))
  refine Go.via (fun t k => castTop (ef_rmICU m t1 ch) k) ?_
  show Go p e below _ (s₁.setTop (mkF m 0 #[.val (.ref t1), .val (.int ch), .val (.int (0 : Int32)), .val (.int (1 : Int32)), .unset] []))
  refine Go.via (fun _ => XS.iloadN X0.here hx rfl (hb hby d27_0) rfl) ?_
  show Go p e below _ (s₁.setTop (mkF m 1 #[.val (.ref t1), .val (.int ch), .val (.int (0 : Int32)), .val (.int (1 : Int32)), .unset] [(.int (0 : Int32))]))
  refine Go.via (fun _ => XS.istore X0.here hx rfl (hb hby d27_1) rfl (l' := #[.val (.ref t1), .val (.int ch), .val (.int (0 : Int32)), .val (.int (1 : Int32)), .val (.int (0 : Int32))]) rfl) ?_
  show Go p e below _ (s₁.setTop (mkF m 3 #[.val (.ref t1), .val (.int ch), .val (.int (0 : Int32)), .val (.int (1 : Int32)), .val (.int (0 : Int32))] []))
  refine Go.via (fun _ => XS.iload X0.here hx rfl (hb hby d27_3) rfl) ?_
  show Go p e below _ (s₁.setTop (mkF m 5 #[.val (.ref t1), .val (.int ch), .val (.int (0 : Int32)), .val (.int (1 : Int32)), .val (.int (0 : Int32))] [(.int (0 : Int32))]))
  refine Go.via (fun _ => XS.iloadN X0.here hx rfl (hb hby d27_5) rfl) ?_
  show Go p e below _ (s₁.setTop (mkF m 6 #[.val (.ref t1), .val (.int ch), .val (.int (0 : Int32)), .val (.int (1 : Int32)), .val (.int (0 : Int32))] [(.int (1 : Int32)), (.int (0 : Int32))]))
  refine Go.via (fun _ => XS.icmpNo X0.here hx rfl (hb hby d27_6) rfl (by decide)) ?_
  show Go p e below _ (s₁.setTop (mkF m 9 #[.val (.ref t1), .val (.int ch), .val (.int (0 : Int32)), .val (.int (1 : Int32)), .val (.int (0 : Int32))] []))
  refine Go.via (fun _ => XS.aloadN X0.here hx rfl (hb hby d27_9) rfl rfl) ?_
  show Go p e below _ (s₁.setTop (mkF m 10 #[.val (.ref t1), .val (.int ch), .val (.int (0 : Int32)), .val (.int (1 : Int32)), .val (.int (0 : Int32))] [(.ref t1)]))
  refine Go.via (fun _ => XS.iload X0.here hx rfl (hb hby d27_10) rfl) ?_
  show Go p e below _ (s₁.setTop (mkF m 12 #[.val (.ref t1), .val (.int ch), .val (.int (0 : Int32)), .val (.int (1 : Int32)), .val (.int (0 : Int32))] [(.int (0 : Int32)), (.ref t1)]))
  obtain ⟨_, _, ⟨T1, L1, k1, n1⟩, -, X1, ⟨Lc1, hQ1, l1, y1, z1⟩, st1⟩ := Jvm.LawKit.callS X0 hx (y := (⟨"java/lang/StringUTF16", "getChar", "([BI)C"⟩ : MethodName)) hown (mvT hZ (hw _ (List.mem_of_getElem? (i := 128) rfl))) (mvT hZ (hw _ (List.mem_of_getElem? (i := 129) rfl))) (mvT hZ (hw _ (List.mem_of_getElem? (i := 94) rfl))) (mvT hZ (hw _ (List.mem_of_getElem? (i := 130) rfl))) (by decide) (backOf (W := 0) (rmGetC_1_0 l Z a0 hw [] t1 kb c0  ccs vF h0 n0 Z0 V2 hu O0 S_CS hcs S_AD S_HI S_LO S_SF rF) hZ (hw _ (List.mem_of_getElem? (i := 130) rfl)) (hw _ (List.mem_of_getElem? (i := 94) rfl)) (by decide) (by decide)) (g := (mkF m 12 #[.val (.ref t1), .val (.int ch), .val (.int (0 : Int32)), .val (.int (1 : Int32)), .val (.int (0 : Int32))] [(.int (0 : Int32)), (.ref t1)])) rfl (by rw [hml]; rfl) (argsL := [(.ref t1), (.int (0 : Int32))]) (rest := []) (lenOf pd_13 rfl) rfl (by show 2 * 0 + _ ≤ _; exact Nat.le_of_eq rfl) (hb hby d27_12) (fun _ _ => ⟨rfl, e0, (by decide : 0 + 0 ≤ _), (by decide : 0 + 0 ≤ _)⟩)
  dsimp only [Pt.U, Pt.locs, Pt.cells, Pt.slots] at X1 l1 y1 z1 st1 hQ1
  subst l1 y1 z1
  obtain ⟨rfl, N1q, e1q⟩ := hQ1
  have N1 := Fr.app N0 N1q
  refine Go.via st1 ?_
  show Go p e below _ (T1.setTop (mkF m 15 #[.val (.ref t1), .val (.int ch), .val (.int (0 : Int32)), .val (.int (1 : Int32)), .val (.int (0 : Int32))] [(.int c0)]))
  refine Go.via (fun _ => XS.iloadN X1.here hx rfl (hb hby d27_15) rfl) ?_
  show Go p e below _ (T1.setTop (mkF m 16 #[.val (.ref t1), .val (.int ch), .val (.int (0 : Int32)), .val (.int (1 : Int32)), .val (.int (0 : Int32))] [(.int ch), (.int c0)]))
  refine Go.via (fun _ => XS.icmpYes X1.here hx rfl (pc0 := 16) (pc' := 22) rfl (hb hby d27_16) rfl (feq hne).2 (by decide) (by decide)) ?_
  show Go p e below _ (T1.setTop (mkF m 22 #[.val (.ref t1), .val (.int ch), .val (.int (0 : Int32)), .val (.int (1 : Int32)), .val (.int (0 : Int32))] []))
  refine Go.via (fun _ => XS.iinc X1.here hx rfl (hb hby d27_22) rfl (l' := #[.val (.ref t1), .val (.int ch), .val (.int (0 : Int32)), .val (.int (1 : Int32)), .val (.int (1 : Int32))]) rfl) ?_
  show Go p e below _ (T1.setTop (mkF m 25 #[.val (.ref t1), .val (.int ch), .val (.int (0 : Int32)), .val (.int (1 : Int32)), .val (.int (1 : Int32))] []))
  refine Go.via (fun _ => XS.goto X1.here hx rfl (pc0 := 25) (pc' := 3) rfl (hb hby d27_25) (by decide) (by decide)) ?_
  show Go p e below _ (T1.setTop (mkF m 3 #[.val (.ref t1), .val (.int ch), .val (.int (0 : Int32)), .val (.int (1 : Int32)), .val (.int (1 : Int32))] []))
  refine Go.via (fun _ => XS.iload X1.here hx rfl (hb hby d27_3) rfl) ?_
  show Go p e below _ (T1.setTop (mkF m 5 #[.val (.ref t1), .val (.int ch), .val (.int (0 : Int32)), .val (.int (1 : Int32)), .val (.int (1 : Int32))] [(.int (1 : Int32))]))
  refine Go.via (fun _ => XS.iloadN X1.here hx rfl (hb hby d27_5) rfl) ?_
  show Go p e below _ (T1.setTop (mkF m 6 #[.val (.ref t1), .val (.int ch), .val (.int (0 : Int32)), .val (.int (1 : Int32)), .val (.int (1 : Int32))] [(.int (1 : Int32)), (.int (1 : Int32))]))
  refine Go.via (fun _ => XS.icmpYes X1.here hx rfl (pc0 := 6) (pc' := 28) rfl (hb hby d27_6) rfl (by decide) (by decide) (by decide)) ?_
  show Go p e below _ (T1.setTop (mkF m 28 #[.val (.ref t1), .val (.int ch), .val (.int (0 : Int32)), .val (.int (1 : Int32)), .val (.int (1 : Int32))] []))
  refine Go.via (fun _ => XS.iconst X1.here hx rfl (hb hby d27_28)) ?_
  show Go p e below _ (T1.setTop (mkF m 29 #[.val (.ref t1), .val (.int ch), .val (.int (0 : Int32)), .val (.int (1 : Int32)), .val (.int (1 : Int32))] [(.int (-1 : Int32))]))
  exact own_retI X1 hx hlk Bd.returns (hb hby d27_29) (by show QICU Z t1 kb c0 ch ccs vF h0 n0 _ T1.heap _; rw [e1q]; exact ⟨rfl, N1, rfl⟩) (by decide) (by decide)
theorem ef_rmIC16 (m : MethodId) (x0 : Addr) (x1 : Int32) : entryFrame m #[(.ref x0), (.int x1), (.int (0 : Int32)), (.int (1 : Int32))] 4 = mkF m 0 #[.val (.ref x0), .val (.int x1), .val (.int (0 : Int32)), .val (.int (1 : Int32))] [] := by first | (simp [entryFrame, mkF, argsToLocals, Value.category]; done) | rfl
def QIC16 (Z : State) (t1 : Addr) (kb : ClassId) (c0 : Int32) (ch : Int32) (ccs : Int32) (vF : Value) (h0 : Heap) (n0 : Nat) (v : Option Value) (h : Heap) (L : List Loc) : Prop := v = some (.int (-1 : Int32)) ∧ Fr n0 L ∧ h = h0
set_option maxRecDepth 65536 in
set_option maxHeartbeats 40000000 in
theorem rmIC16 (l : Launch) (Z : State) (a0 : Array Value) (hw : ∀ d ∈ tables_1, d.before a0 Z = true) (ws : List Jvm.Cond) (t1 : Addr) (kb : ClassId) (c0 : Int32) (ch : Int32) (ccs : Int32) (vF : Value) (h0 : Heap) (n0 : Nat) (Z0 : n0 ≤ h0.size) (V2 : Arv Z h0 t1 kb .byte (2 : Int32) [(.int (nar .byte ((c0 >>> ((0 : Int32) &&& 31)).toInt8.toInt32))), (.int (nar .byte ((c0 >>> ((8 : Int32) &&& 31)).toInt8.toInt32)))] (.int (0 : Int32))) (hu : nar .char ((((((nar .byte ((c0 >>> ((0 : Int32) &&& 31)).toInt8.toInt32))) &&& (255 : Int32)) <<< ((0 : Int32) &&& 31)) ||| ((((nar .byte ((c0 >>> ((8 : Int32) &&& 31)).toInt8.toInt32))) &&& (255 : Int32)) <<< ((8 : Int32) &&& 31))).toUInt32.toUInt16.toUInt32.toInt32) = c0) (hne : ¬ (c0 = ch)) (O0 : Old Z n0 h0) (S_CS : Sta Z Z.heap "java/lang/String" "COMPACT_STRINGS" "Z" (.int ccs)) (hcs : ¬ (ccs = (0 : Int32))) (S_AD : Sta Z Z.heap "java/lang/StringUTF16" "$assertionsDisabled" "Z" (.int (1 : Int32))) (S_HI : Sta Z Z.heap "java/lang/StringUTF16" "HI_BYTE_SHIFT" "I" (.int (0 : Int32))) (S_LO : Sta Z Z.heap "java/lang/StringUTF16" "LO_BYTE_SHIFT" "I" (.int (8 : Int32))) (S_SF : Sta Z Z.heap "jdk/internal/util/Preconditions" "SIOOBE_FORMATTER" "Ljava/util/function/BiFunction;" vF) (rF : vF.isRef = true) :
    MetFree l (⟨"java/lang/StringUTF16", "indexOfChar", "([BIII)I"⟩ : MethodName) (head1 (Jvm.Cond.code (⟨"java/lang/StringUTF16", "indexOfChar", "([BIII)I"⟩ : MethodName) jdk_52_method_47_code 4 (some .int) :: ws) ({ frames := 3, cells := 0, slots := 0, locals := 43 } : Room)) (fun a U => a = #[(.ref t1), (.int ch), (.int (0 : Int32)), (.int (1 : Int32))] ∧ Z.Warmed39 U.vm ∧ U.heap = h0) (fun _ _ _ _ _ => True) (fun _ U o U' => ∃ v L, o = .returned v ∧ QIC16 Z t1 kb c0 ch ccs vF h0 n0 v U'.heap L ∧ FrameEnd U o U' L ({ frames := 3, cells := 0, slots := 0, locals := 43 } : Room).cells ({ frames := 3, cells := 0, slots := 0, locals := 43 } : Room).slots) := by
  refine MetFree.of_bodySF (plainFor_of_name pn_java_lang_StringUTF16) hisR ?_
  intro p e s m args below meth c s₁ Bd hml0 hP hK
  obtain ⟨rfl, hZ, hh⟩ := hP
  have hx := Bd.exec
  have hby := Bd.bytes
  have hlk : meth.locks = false := Bd.notSynchronized
  have hml : c.maxLocals = 4 := hml0
  have hown : s.vm.findClass "java/lang/StringUTF16" = some m.cls := findClass_of_methodNamed Bd.named
  have hnm := (name_of_methodNamed Bd.named Bd.method).1
  have X0 : Stand p l e ({ frames := 3, cells := 0, slots := 0, locals := 43 } : Room) s m #[(.ref t1), (.int ch), (.int (0 : Int32)), (.int (1 : Int32))] below meth c s₁ [] 0 0 := Stand.of_body Bd
  have e0 : s₁.heap = h0 := by rw [← hh, Bd.state]; rfl
  have N0 := Fr.nil n0
  show Go p e below (FinE s below (QIC16 Z t1 kb c0 ch ccs vF h0 n0) ({ frames := 3, cells := 0, slots := 0, locals := 43 } : Room).cells ({ frames := 3, cells := 0, slots := 0, locals := 43 } : Room).slots) (s₁.setTop (entryFrame m #[(.ref t1), (.int ch), (.int (0 : Int32)), (.int (1 : Int32))] 4))
  refine Go.via (fun t k => castTop (ef_rmIC16 m t1 ch) k) ?_
  show Go p e below _ (s₁.setTop (mkF m 0 #[.val (.ref t1), .val (.int ch), .val (.int (0 : Int32)), .val (.int (1 : Int32))] []))
  refine Go.via (fun _ => XS.iloadN X0.here hx rfl (hb hby d22_0) rfl) ?_
  show Go p e below _ (s₁.setTop (mkF m 1 #[.val (.ref t1), .val (.int ch), .val (.int (0 : Int32)), .val (.int (1 : Int32))] [(.int (0 : Int32))]))
  refine Go.via (fun _ => XS.iloadN X0.here hx rfl (hb hby d22_1) rfl) ?_
  show Go p e below _ (s₁.setTop (mkF m 2 #[.val (.ref t1), .val (.int ch), .val (.int (0 : Int32)), .val (.int (1 : Int32))] [(.int (1 : Int32)), (.int (0 : Int32))]))
  refine Go.via (fun _ => XS.aloadN X0.here hx rfl (hb hby d22_2) rfl rfl) ?_
  show Go p e below _ (s₁.setTop (mkF m 3 #[.val (.ref t1), .val (.int ch), .val (.int (0 : Int32)), .val (.int (1 : Int32))] [(.ref t1), (.int (1 : Int32)), (.int (0 : Int32))]))
  obtain ⟨_, _, ⟨T1, L1, k1, n1⟩, -, X1, ⟨Lc1, hQ1, l1, y1, z1⟩, st1⟩ := Jvm.LawKit.callS X0 hx (y := (⟨"java/lang/StringUTF16", "checkBoundsBeginEnd", "(II[B)V"⟩ : MethodName)) hown (mvT hZ (hw _ (List.mem_of_getElem? (i := 111) rfl))) (mvT hZ (hw _ (List.mem_of_getElem? (i := 112) rfl))) (mvT hZ (hw _ (List.mem_of_getElem? (i := 94) rfl))) (mvT hZ (hw _ (List.mem_of_getElem? (i := 113) rfl))) (by decide) (backOf (W := 0) (rmCB2 l Z a0 hw [] t1 kb c0 ccs vF h0 n0 Z0 V2 O0 S_CS hcs S_AD S_HI S_LO S_SF rF) hZ (hw _ (List.mem_of_getElem? (i := 113) rfl)) (hw _ (List.mem_of_getElem? (i := 94) rfl)) (by decide) (by decide)) (g := (mkF m 3 #[.val (.ref t1), .val (.int ch), .val (.int (0 : Int32)), .val (.int (1 : Int32))] [(.ref t1), (.int (1 : Int32)), (.int (0 : Int32))])) rfl (by rw [hml]; rfl) (argsL := [(.int (0 : Int32)), (.int (1 : Int32)), (.ref t1)]) (rest := []) (lenOf pd_14 rfl) rfl (by show 2 * 0 + _ ≤ _; exact Nat.le_of_eq rfl) (hb hby d22_3) (fun _ _ => ⟨rfl, e0, (by decide : 0 + 0 ≤ _), (by decide : 0 + 0 ≤ _)⟩)
  dsimp only [Pt.U, Pt.locs, Pt.cells, Pt.slots] at X1 l1 y1 z1 st1 hQ1
  subst l1 y1 z1
  obtain ⟨rfl, N1q, e1q⟩ := hQ1
  have N1 := Fr.app N0 N1q
  refine Go.via st1 ?_
  show Go p e below _ (T1.setTop (mkF m 6 #[.val (.ref t1), .val (.int ch), .val (.int (0 : Int32)), .val (.int (1 : Int32))] []))
  refine Go.via (fun _ => XS.aloadN X1.here hx rfl (hb hby d22_6) rfl rfl) ?_
  show Go p e below _ (T1.setTop (mkF m 7 #[.val (.ref t1), .val (.int ch), .val (.int (0 : Int32)), .val (.int (1 : Int32))] [(.ref t1)]))
  refine Go.via (fun _ => XS.iloadN X1.here hx rfl (hb hby d22_7) rfl) ?_
  show Go p e below _ (T1.setTop (mkF m 8 #[.val (.ref t1), .val (.int ch), .val (.int (0 : Int32)), .val (.int (1 : Int32))] [(.int ch), (.ref t1)]))
  refine Go.via (fun _ => XS.iloadN X1.here hx rfl (hb hby d22_8) rfl) ?_
  show Go p e below _ (T1.setTop (mkF m 9 #[.val (.ref t1), .val (.int ch), .val (.int (0 : Int32)), .val (.int (1 : Int32))] [(.int (0 : Int32)), (.int ch), (.ref t1)]))
  refine Go.via (fun _ => XS.iloadN X1.here hx rfl (hb hby d22_9) rfl) ?_
  show Go p e below _ (T1.setTop (mkF m 10 #[.val (.ref t1), .val (.int ch), .val (.int (0 : Int32)), .val (.int (1 : Int32))] [(.int (1 : Int32)), (.int (0 : Int32)), (.int ch), (.ref t1)]))
  obtain ⟨_, _, ⟨T2, L2, k2, n2⟩, -, X2, ⟨Lc2, hQ2, l2, y2, z2⟩, st2⟩ := Jvm.LawKit.callS X1 hx (y := (⟨"java/lang/StringUTF16", "indexOfCharUnsafe", "([BIII)I"⟩ : MethodName)) hown (mvT hZ (hw _ (List.mem_of_getElem? (i := 125) rfl))) (mvT hZ (hw _ (List.mem_of_getElem? (i := 126) rfl))) (mvT hZ (hw _ (List.mem_of_getElem? (i := 94) rfl))) (mvT hZ (hw _ (List.mem_of_getElem? (i := 127) rfl))) (by decide) (backOf (W := 0) (rmICU l Z a0 hw [] t1 kb c0 ch ccs vF h0 n0 Z0 V2 hu hne O0 S_CS hcs S_AD S_HI S_LO S_SF rF) hZ (hw _ (List.mem_of_getElem? (i := 127) rfl)) (hw _ (List.mem_of_getElem? (i := 94) rfl)) (by decide) (by decide)) (g := (mkF m 10 #[.val (.ref t1), .val (.int ch), .val (.int (0 : Int32)), .val (.int (1 : Int32))] [(.int (1 : Int32)), (.int (0 : Int32)), (.int ch), (.ref t1)])) rfl (by rw [hml]; rfl) (argsL := [(.ref t1), (.int ch), (.int (0 : Int32)), (.int (1 : Int32))]) (rest := []) (lenOf pd_7 rfl) rfl (by show 2 * 0 + _ ≤ _; exact Nat.le_of_eq rfl) (hb hby d22_10) (fun _ _ => ⟨rfl, e1q, (by decide : 0 + 0 ≤ _), (by decide : 0 + 0 ≤ _)⟩)
  dsimp only [Pt.U, Pt.locs, Pt.cells, Pt.slots] at X2 l2 y2 z2 st2 hQ2
  subst l2 y2 z2
  obtain ⟨rfl, N2q, e2q⟩ := hQ2
  have N2 := Fr.app N1 N2q
  refine Go.via st2 ?_
  show Go p e below _ (T2.setTop (mkF m 13 #[.val (.ref t1), .val (.int ch), .val (.int (0 : Int32)), .val (.int (1 : Int32))] [(.int (-1 : Int32))]))
  exact own_retI X2 hx hlk Bd.returns (hb hby d22_13) (by show QIC16 Z t1 kb c0 ch ccs vF h0 n0 _ T2.heap _; rw [e2q]; exact ⟨rfl, N2, rfl⟩) (by decide) (by decide)
theorem ef_rmI16 (m : MethodId) (x0 : Addr) (x1 : Int32) : entryFrame m #[(.ref x0), (.int x1), (.int (0 : Int32)), (.int (1 : Int32))] 4 = mkF m 0 #[.val (.ref x0), .val (.int x1), .val (.int (0 : Int32)), .val (.int (1 : Int32))] [] := by first | (simp [entryFrame, mkF, argsToLocals, Value.category]; done) | rfl
def QI16 (Z : State) (t1 : Addr) (kb : ClassId) (c0 : Int32) (ch : Int32) (ccs : Int32) (vF : Value) (h0 : Heap) (n0 : Nat) (v : Option Value) (h : Heap) (L : List Loc) : Prop := v = some (.int (-1 : Int32)) ∧ Fr n0 L ∧ h = h0
set_option maxRecDepth 65536 in
set_option maxHeartbeats 40000000 in
theorem rmI16 (l : Launch) (Z : State) (a0 : Array Value) (hw : ∀ d ∈ tables_1, d.before a0 Z = true) (ws : List Jvm.Cond) (t1 : Addr) (kb : ClassId) (c0 : Int32) (ch : Int32) (ccs : Int32) (vF : Value) (h0 : Heap) (n0 : Nat) (Z0 : n0 ≤ h0.size) (V2 : Arv Z h0 t1 kb .byte (2 : Int32) [(.int (nar .byte ((c0 >>> ((0 : Int32) &&& 31)).toInt8.toInt32))), (.int (nar .byte ((c0 >>> ((8 : Int32) &&& 31)).toInt8.toInt32)))] (.int (0 : Int32))) (hu : nar .char ((((((nar .byte ((c0 >>> ((0 : Int32) &&& 31)).toInt8.toInt32))) &&& (255 : Int32)) <<< ((0 : Int32) &&& 31)) ||| ((((nar .byte ((c0 >>> ((8 : Int32) &&& 31)).toInt8.toInt32))) &&& (255 : Int32)) <<< ((8 : Int32) &&& 31))).toUInt32.toUInt16.toUInt32.toInt32) = c0) (hne : ¬ (c0 = ch)) (hch : ch < (65536 : Int32)) (O0 : Old Z n0 h0) (S_CS : Sta Z Z.heap "java/lang/String" "COMPACT_STRINGS" "Z" (.int ccs)) (hcs : ¬ (ccs = (0 : Int32))) (S_AD : Sta Z Z.heap "java/lang/StringUTF16" "$assertionsDisabled" "Z" (.int (1 : Int32))) (S_HI : Sta Z Z.heap "java/lang/StringUTF16" "HI_BYTE_SHIFT" "I" (.int (0 : Int32))) (S_LO : Sta Z Z.heap "java/lang/StringUTF16" "LO_BYTE_SHIFT" "I" (.int (8 : Int32))) (S_SF : Sta Z Z.heap "jdk/internal/util/Preconditions" "SIOOBE_FORMATTER" "Ljava/util/function/BiFunction;" vF) (rF : vF.isRef = true) :
    MetFree l (⟨"java/lang/StringUTF16", "indexOf", "([BIII)I"⟩ : MethodName) (head1 (Jvm.Cond.code (⟨"java/lang/StringUTF16", "indexOf", "([BIII)I"⟩ : MethodName) jdk_52_method_40_code 4 (some .int) :: ws) ({ frames := 4, cells := 0, slots := 0, locals := 58 } : Room)) (fun a U => a = #[(.ref t1), (.int ch), (.int (0 : Int32)), (.int (1 : Int32))] ∧ Z.Warmed39 U.vm ∧ U.heap = h0) (fun _ _ _ _ _ => True) (fun _ U o U' => ∃ v L, o = .returned v ∧ QI16 Z t1 kb c0 ch ccs vF h0 n0 v U'.heap L ∧ FrameEnd U o U' L ({ frames := 4, cells := 0, slots := 0, locals := 58 } : Room).cells ({ frames := 4, cells := 0, slots := 0, locals := 58 } : Room).slots) := by
  refine MetFree.of_bodySF (plainFor_of_name pn_java_lang_StringUTF16) hisR ?_
  intro p e s m args below meth c s₁ Bd hml0 hP hK
  obtain ⟨rfl, hZ, hh⟩ := hP
  have hx := Bd.exec
  have hby := Bd.bytes
  have hlk : meth.locks = false := Bd.notSynchronized
  have hml : c.maxLocals = 4 := hml0
  have hown : s.vm.findClass "java/lang/StringUTF16" = some m.cls := findClass_of_methodNamed Bd.named
  have hnm := (name_of_methodNamed Bd.named Bd.method).1
  have X0 : Stand p l e ({ frames := 4, cells := 0, slots := 0, locals := 58 } : Room) s m #[(.ref t1), (.int ch), (.int (0 : Int32)), (.int (1 : Int32))] below meth c s₁ [] 0 0 := Stand.of_body Bd
  have e0 : s₁.heap = h0 := by rw [← hh, Bd.state]; rfl
  have N0 := Fr.nil n0
  show Go p e below (FinE s below (QI16 Z t1 kb c0 ch ccs vF h0 n0) ({ frames := 4, cells := 0, slots := 0, locals := 58 } : Room).cells ({ frames := 4, cells := 0, slots := 0, locals := 58 } : Room).slots) (s₁.setTop (entryFrame m #[(.ref t1), (.int ch), (.int (0 : Int32)), (.int (1 : Int32))] 4))
  refine Go.via (fun t k => castTop (ef_rmI16 m t1 ch) k) ?_
  show Go p e below _ (s₁.setTop (mkF m 0 #[.val (.ref t1), .val (.int ch), .val (.int (0 : Int32)), .val (.int (1 : Int32))] []))
  refine Go.via (fun _ => XS.iloadN X0.here hx rfl (hb hby d21_0) rfl) ?_
  show Go p e below _ (s₁.setTop (mkF m 1 #[.val (.ref t1), .val (.int ch), .val (.int (0 : Int32)), .val (.int (1 : Int32))] [(.int (0 : Int32))]))
  refine Go.via (fun _ => XS.iconst X0.here hx rfl (hb hby d21_1)) ?_
  show Go p e below _ (s₁.setTop (mkF m 2 #[.val (.ref t1), .val (.int ch), .val (.int (0 : Int32)), .val (.int (1 : Int32))] [(.int (0 : Int32)), (.int (0 : Int32))]))
  obtain ⟨_, _, ⟨T1, L1, k1, n1⟩, -, X1, ⟨Lc1, hQ1, l1, y1, z1⟩, st1⟩ := Jvm.LawKit.callS X0 hx (y := (⟨"java/lang/Math", "max", "(II)I"⟩ : MethodName)) hown (mvT hZ (hw _ (List.mem_of_getElem? (i := 105) rfl))) (mvT hZ (hw _ (List.mem_of_getElem? (i := 82) rfl))) (mvT hZ (hw _ (List.mem_of_getElem? (i := 83) rfl))) (mvT hZ (hw _ (List.mem_of_getElem? (i := 84) rfl))) (by decide) (backOf (W := 0) (rm_max_1 l Z a0 hw [] (0 : Int32) (0 : Int32) h0 n0 Z0 (by decide)) hZ (hw _ (List.mem_of_getElem? (i := 84) rfl)) (hw _ (List.mem_of_getElem? (i := 83) rfl)) (by decide) (by decide)) (g := (mkF m 2 #[.val (.ref t1), .val (.int ch), .val (.int (0 : Int32)), .val (.int (1 : Int32))] [(.int (0 : Int32)), (.int (0 : Int32))])) rfl (by rw [hml]; rfl) (argsL := [(.int (0 : Int32)), (.int (0 : Int32))]) (rest := []) (lenOf pd_6 rfl) rfl (by show 2 * 0 + _ ≤ _; exact Nat.le_of_eq rfl) (hb hby d21_2) (fun _ _ => ⟨rfl, e0, (by decide : 0 + 0 ≤ _), (by decide : 0 + 0 ≤ _)⟩)
  dsimp only [Pt.U, Pt.locs, Pt.cells, Pt.slots] at X1 l1 y1 z1 st1 hQ1
  subst l1 y1 z1
  obtain ⟨rfl, N1q, e1q⟩ := hQ1
  have N1 := Fr.app N0 N1q
  refine Go.via st1 ?_
  show Go p e below _ (T1.setTop (mkF m 5 #[.val (.ref t1), .val (.int ch), .val (.int (0 : Int32)), .val (.int (1 : Int32))] [(.int (0 : Int32))]))
  refine Go.via (fun _ => XS.istoreN X1.here hx rfl (hb hby d21_5) rfl (l' := #[.val (.ref t1), .val (.int ch), .val (.int (0 : Int32)), .val (.int (1 : Int32))]) rfl) ?_
  show Go p e below _ (T1.setTop (mkF m 6 #[.val (.ref t1), .val (.int ch), .val (.int (0 : Int32)), .val (.int (1 : Int32))] []))
  refine Go.via (fun _ => XS.iloadN X1.here hx rfl (hb hby d21_6) rfl) ?_
  show Go p e below _ (T1.setTop (mkF m 7 #[.val (.ref t1), .val (.int ch), .val (.int (0 : Int32)), .val (.int (1 : Int32))] [(.int (1 : Int32))]))
  refine Go.via (fun _ => XS.aloadN X1.here hx rfl (hb hby d21_7) rfl rfl) ?_
  show Go p e below _ (T1.setTop (mkF m 8 #[.val (.ref t1), .val (.int ch), .val (.int (0 : Int32)), .val (.int (1 : Int32))] [(.ref t1), (.int (1 : Int32))]))
  obtain ⟨cl2, Ar2, -, S2, N2n, -, -⟩ := id V2
  have al2 := X1.arraylength hx (by rw [e1q]; exact Ar2.1) (State.isArrayOf_alike hZ.alike Ar2.2.1) (g := (mkF m 8 #[.val (.ref t1), .val (.int ch), .val (.int (0 : Int32)), .val (.int (1 : Int32))] [(.ref t1), (.int (1 : Int32))])) rfl rfl (hb hby d21_8)
  rw [len_of S2 N2n] at al2
  refine Go.via al2 ?_
  show Go p e below _ (T1.setTop (mkF m 9 #[.val (.ref t1), .val (.int ch), .val (.int (0 : Int32)), .val (.int (1 : Int32))] [(.int (2 : Int32)), (.int (1 : Int32))]))
  refine Go.via (fun _ => XS.iconst X1.here hx rfl (hb hby d21_9)) ?_
  show Go p e below _ (T1.setTop (mkF m 10 #[.val (.ref t1), .val (.int ch), .val (.int (0 : Int32)), .val (.int (1 : Int32))] [(.int (1 : Int32)), (.int (2 : Int32)), (.int (1 : Int32))]))
  refine Go.via (fun _ => XS.ishr X1.here hx rfl (hb hby d21_10) rfl) ?_
  show Go p e below _ (T1.setTop (mkF m 11 #[.val (.ref t1), .val (.int ch), .val (.int (0 : Int32)), .val (.int (1 : Int32))] [(.int (1 : Int32)), (.int (1 : Int32))]))
  obtain ⟨_, _, ⟨T3, L3, k3, n3⟩, -, X3, ⟨Lc3, hQ3, l3, y3, z3⟩, st3⟩ := Jvm.LawKit.callS X1 hx (y := (⟨"java/lang/Math", "min", "(II)I"⟩ : MethodName)) hown (mvT hZ (hw _ (List.mem_of_getElem? (i := 106) rfl))) (mvT hZ (hw _ (List.mem_of_getElem? (i := 86) rfl))) (mvT hZ (hw _ (List.mem_of_getElem? (i := 83) rfl))) (mvT hZ (hw _ (List.mem_of_getElem? (i := 87) rfl))) (by decide) (backOf (W := 0) (rm_min_1 l Z a0 hw [] (1 : Int32) (1 : Int32) h0 n0 Z0 (by decide)) hZ (hw _ (List.mem_of_getElem? (i := 87) rfl)) (hw _ (List.mem_of_getElem? (i := 83) rfl)) (by decide) (by decide)) (g := (mkF m 11 #[.val (.ref t1), .val (.int ch), .val (.int (0 : Int32)), .val (.int (1 : Int32))] [(.int (1 : Int32)), (.int (1 : Int32))])) rfl (by rw [hml]; rfl) (argsL := [(.int (1 : Int32)), (.int (1 : Int32))]) (rest := []) (lenOf pd_6 rfl) rfl (by show 2 * 0 + _ ≤ _; exact Nat.le_of_eq rfl) (hb hby d21_11) (fun _ _ => ⟨rfl, e1q, (by decide : 0 + 0 ≤ _), (by decide : 0 + 0 ≤ _)⟩)
  dsimp only [Pt.U, Pt.locs, Pt.cells, Pt.slots] at X3 l3 y3 z3 st3 hQ3
  subst l3 y3 z3
  obtain ⟨rfl, N3q, e3q⟩ := hQ3
  have N3 := Fr.app N1 N3q
  refine Go.via st3 ?_
  show Go p e below _ (T3.setTop (mkF m 14 #[.val (.ref t1), .val (.int ch), .val (.int (0 : Int32)), .val (.int (1 : Int32))] [(.int (1 : Int32))]))
  refine Go.via (fun _ => XS.istoreN X3.here hx rfl (hb hby d21_14) rfl (l' := #[.val (.ref t1), .val (.int ch), .val (.int (0 : Int32)), .val (.int (1 : Int32))]) rfl) ?_
  show Go p e below _ (T3.setTop (mkF m 15 #[.val (.ref t1), .val (.int ch), .val (.int (0 : Int32)), .val (.int (1 : Int32))] []))
  refine Go.via (fun _ => XS.iloadN X3.here hx rfl (hb hby d21_15) rfl) ?_
  show Go p e below _ (T3.setTop (mkF m 16 #[.val (.ref t1), .val (.int ch), .val (.int (0 : Int32)), .val (.int (1 : Int32))] [(.int (0 : Int32))]))
  refine Go.via (fun _ => XS.iloadN X3.here hx rfl (hb hby d21_16) rfl) ?_
  show Go p e below _ (T3.setTop (mkF m 17 #[.val (.ref t1), .val (.int ch), .val (.int (0 : Int32)), .val (.int (1 : Int32))] [(.int (1 : Int32)), (.int (0 : Int32))]))
  refine Go.via (fun _ => XS.icmpYes X3.here hx rfl (pc0 := 17) (pc' := 22) rfl (hb hby d21_17) rfl (by decide) (by decide) (by decide)) ?_
  show Go p e below _ (T3.setTop (mkF m 22 #[.val (.ref t1), .val (.int ch), .val (.int (0 : Int32)), .val (.int (1 : Int32))] []))
  refine Go.via (fun _ => XS.iloadN X3.here hx rfl (hb hby d21_22) rfl) ?_
  show Go p e below _ (T3.setTop (mkF m 23 #[.val (.ref t1), .val (.int ch), .val (.int (0 : Int32)), .val (.int (1 : Int32))] [(.int ch)]))
  refine Go.via (X3.ldcInt hx hown (mvT hZ (hw _ (List.mem_of_getElem? (i := 107) rfl))) (g := (mkF m 23 #[.val (.ref t1), .val (.int ch), .val (.int (0 : Int32)), .val (.int (1 : Int32))] [(.int ch)])) rfl (hb hby d21_23)) ?_
  show Go p e below _ (T3.setTop (mkF m 25 #[.val (.ref t1), .val (.int ch), .val (.int (0 : Int32)), .val (.int (1 : Int32))] [(.int (65536 : Int32)), (.int ch)]))
  refine Go.via (fun _ => XS.icmpNo X3.here hx rfl (hb hby d21_25) rfl (tlt hch).2.1) ?_
  show Go p e below _ (T3.setTop (mkF m 28 #[.val (.ref t1), .val (.int ch), .val (.int (0 : Int32)), .val (.int (1 : Int32))] []))
  refine Go.via (fun _ => XS.aloadN X3.here hx rfl (hb hby d21_28) rfl rfl) ?_
  show Go p e below _ (T3.setTop (mkF m 29 #[.val (.ref t1), .val (.int ch), .val (.int (0 : Int32)), .val (.int (1 : Int32))] [(.ref t1)]))
  refine Go.via (fun _ => XS.iloadN X3.here hx rfl (hb hby d21_29) rfl) ?_
  show Go p e below _ (T3.setTop (mkF m 30 #[.val (.ref t1), .val (.int ch), .val (.int (0 : Int32)), .val (.int (1 : Int32))] [(.int ch), (.ref t1)]))
  refine Go.via (fun _ => XS.iloadN X3.here hx rfl (hb hby d21_30) rfl) ?_
  show Go p e below _ (T3.setTop (mkF m 31 #[.val (.ref t1), .val (.int ch), .val (.int (0 : Int32)), .val (.int (1 : Int32))] [(.int (0 : Int32)), (.int ch), (.ref t1)]))
  refine Go.via (fun _ => XS.iloadN X3.here hx rfl (hb hby d21_31) rfl) ?_
  show Go p e below _ (T3.setTop (mkF m 32 #[.val (.ref t1), .val (.int ch), .val (.int (0 : Int32)), .val (.int (1 : Int32))] [(.int (1 : Int32)), (.int (0 : Int32)), (.int ch), (.ref t1)]))
  obtain ⟨_, _, ⟨T4, L4, k4, n4⟩, -, X4, ⟨Lc4, hQ4, l4, y4, z4⟩, st4⟩ := Jvm.LawKit.callS X3 hx (y := (⟨"java/lang/StringUTF16", "indexOfChar", "([BIII)I"⟩ : MethodName)) hown (mvT hZ (hw _ (List.mem_of_getElem? (i := 108) rfl))) (mvT hZ (hw _ (List.mem_of_getElem? (i := 109) rfl))) (mvT hZ (hw _ (List.mem_of_getElem? (i := 94) rfl))) (mvT hZ (hw _ (List.mem_of_getElem? (i := 110) rfl))) (by decide) (backOf (W := 0) (rmIC16 l Z a0 hw [] t1 kb c0 ch ccs vF h0 n0 Z0 V2 hu hne O0 S_CS hcs S_AD S_HI S_LO S_SF rF) hZ (hw _ (List.mem_of_getElem? (i := 110) rfl)) (hw _ (List.mem_of_getElem? (i := 94) rfl)) (by decide) (by decide)) (g := (mkF m 32 #[.val (.ref t1), .val (.int ch), .val (.int (0 : Int32)), .val (.int (1 : Int32))] [(.int (1 : Int32)), (.int (0 : Int32)), (.int ch), (.ref t1)])) rfl (by rw [hml]; rfl) (argsL := [(.ref t1), (.int ch), (.int (0 : Int32)), (.int (1 : Int32))]) (rest := []) (lenOf pd_7 rfl) rfl (by show 2 * 0 + _ ≤ _; exact Nat.le_of_eq rfl) (hb hby d21_32) (fun _ _ => ⟨rfl, e3q, (by decide : 0 + 0 ≤ _), (by decide : 0 + 0 ≤ _)⟩)
  dsimp only [Pt.U, Pt.locs, Pt.cells, Pt.slots] at X4 l4 y4 z4 st4 hQ4
  subst l4 y4 z4
  obtain ⟨rfl, N4q, e4q⟩ := hQ4
  have N4 := Fr.app N3 N4q
  refine Go.via st4 ?_
  show Go p e below _ (T4.setTop (mkF m 35 #[.val (.ref t1), .val (.int ch), .val (.int (0 : Int32)), .val (.int (1 : Int32))] [(.int (-1 : Int32))]))
  exact own_retI X4 hx hlk Bd.returns (hb hby d21_35) (by show QI16 Z t1 kb c0 ch ccs vF h0 n0 _ T4.heap _; rw [e4q]; exact ⟨rfl, N4, rfl⟩) (by decide) (by decide)
theorem ef_rmIsLat16 (m : MethodId) (x0 : Addr) : entryFrame m #[(.ref x0)] 1 = mkF m 0 #[.val (.ref x0)] [] := by first | (simp [entryFrame, mkF, argsToLocals, Value.category]; done) | rfl
def QIsLat16 (Z : State) (a1 : Addr) (ccs : Int32) (vF : Value) (h0 : Heap) (n0 : Nat) (v : Option Value) (h : Heap) (L : List Loc) : Prop := v = some (.int (0 : Int32)) ∧ Fr n0 L ∧ h = h0
set_option maxRecDepth 65536 in
set_option maxHeartbeats 40000000 in
theorem rmIsLat16 (l : Launch) (Z : State) (a0 : Array Value) (hw : ∀ d ∈ tables_1, d.before a0 Z = true) (ws : List Jvm.Cond) (a1 : Addr) (ccs : Int32) (vF : Value) (h0 : Heap) (n0 : Nat) (Z0 : n0 ≤ h0.size) (F2 : Fld Z h0 a1 "java/lang/String" "coder" "B" (.int (1 : Int32))) (O0 : Old Z n0 h0) (S_CS : Sta Z Z.heap "java/lang/String" "COMPACT_STRINGS" "Z" (.int ccs)) (hcs : ¬ (ccs = (0 : Int32))) (S_AD : Sta Z Z.heap "java/lang/StringUTF16" "$assertionsDisabled" "Z" (.int (1 : Int32))) (S_HI : Sta Z Z.heap "java/lang/StringUTF16" "HI_BYTE_SHIFT" "I" (.int (0 : Int32))) (S_LO : Sta Z Z.heap "java/lang/StringUTF16" "LO_BYTE_SHIFT" "I" (.int (8 : Int32))) (S_SF : Sta Z Z.heap "jdk/internal/util/Preconditions" "SIOOBE_FORMATTER" "Ljava/util/function/BiFunction;" vF) (rF : vF.isRef = true) :
    MetFree l (⟨"java/lang/String", "isLatin1", "()Z"⟩ : MethodName) (head1 (Jvm.Cond.code (⟨"java/lang/String", "isLatin1", "()Z"⟩ : MethodName) jdk_42_method_154_code 1 (some .boolean) :: ws) ({ frames := 0, cells := 0, slots := 0, locals := 0 } : Room)) (fun a U => a = #[(.ref a1)] ∧ Z.Warmed39 U.vm ∧ U.heap = h0) (fun _ _ _ _ _ => True) (fun _ U o U' => ∃ v L, o = .returned v ∧ QIsLat16 Z a1 ccs vF h0 n0 v U'.heap L ∧ FrameEnd U o U' L ({ frames := 0, cells := 0, slots := 0, locals := 0 } : Room).cells ({ frames := 0, cells := 0, slots := 0, locals := 0 } : Room).slots) := by
  refine MetFree.of_bodySF (plainFor_of_name pn_java_lang_String) hisR ?_
  intro p e s m args below meth c s₁ Bd hml0 hP hK
  obtain ⟨rfl, hZ, hh⟩ := hP
  have hx := Bd.exec
  have hby := Bd.bytes
  have hlk : meth.locks = false := Bd.notSynchronized
  have hml : c.maxLocals = 1 := hml0
  have hown : s.vm.findClass "java/lang/String" = some m.cls := findClass_of_methodNamed Bd.named
  have hnm := (name_of_methodNamed Bd.named Bd.method).1
  have X0 : Stand p l e ({ frames := 0, cells := 0, slots := 0, locals := 0 } : Room) s m #[(.ref a1)] below meth c s₁ [] 0 0 := Stand.of_body Bd
  have e0 : s₁.heap = h0 := by rw [← hh, Bd.state]; rfl
  have N0 := Fr.nil n0
  show Go p e below (FinE s below (QIsLat16 Z a1 ccs vF h0 n0) ({ frames := 0, cells := 0, slots := 0, locals := 0 } : Room).cells ({ frames := 0, cells := 0, slots := 0, locals := 0 } : Room).slots) (s₁.setTop (entryFrame m #[(.ref a1)] 1))
  refine Go.via (fun t k => castTop (ef_rmIsLat16 m a1) k) ?_
  show Go p e below _ (s₁.setTop (mkF m 0 #[.val (.ref a1)] []))
  obtain ⟨T1, X1, e1, st1⟩ := getS2 X0 hx hZ hown (host := "") (Or.inl (hw _ (List.mem_of_getElem? (i := 9) rfl))) Via.refl e0 (S_CS.ext O0.2) (g := (mkF m 0 #[.val (.ref a1)] [])) rfl (hb hby d11_0)
  refine Go.via st1 ?_
  show Go p e below _ (T1.setTop (mkF m 3 #[.val (.ref a1)] [(.int ccs)]))
  refine Go.via (fun _ => XS.ifNo X1.here hx rfl (hb hby d11_3) rfl ((if0 _ _).trans (feq hcs).1)) ?_
  show Go p e below _ (T1.setTop (mkF m 6 #[.val (.ref a1)] []))
  refine Go.via (fun _ => XS.aloadN X1.here hx rfl (hb hby d11_6) rfl rfl) ?_
  show Go p e below _ (T1.setTop (mkF m 7 #[.val (.ref a1)] [(.ref a1)]))
  obtain ⟨T2, X2, e2, st2⟩ := getF X1 hx hZ hown (host := "") (Or.inl (hw _ (List.mem_of_getElem? (i := 29) rfl))) Via.refl e1 F2 (g := (mkF m 7 #[.val (.ref a1)] [(.ref a1)])) rfl rfl (hb hby d11_7)
  refine Go.via st2 ?_
  show Go p e below _ (T2.setTop (mkF m 10 #[.val (.ref a1)] [(.int (1 : Int32))]))
  refine Go.via (fun _ => XS.ifYes X2.here hx rfl (pc0 := 10) (pc' := 17) rfl (hb hby d11_10) rfl (by decide) (by decide) (by decide)) ?_
  show Go p e below _ (T2.setTop (mkF m 17 #[.val (.ref a1)] []))
  refine Go.via (fun _ => XS.iconst X2.here hx rfl (hb hby d11_17)) ?_
  show Go p e below _ (T2.setTop (mkF m 18 #[.val (.ref a1)] [(.int (0 : Int32))]))
  exact own_retN X2 hx hlk (t := .boolean) Bd.returns (by simp) (hb hby d11_18) (by show QIsLat16 Z a1 ccs vF h0 n0 _ T2.heap _; rw [e2]; exact ⟨rfl, N0, rfl⟩) (by decide) (by decide)
theorem ef_rmCoder16 (m : MethodId) (x0 : Addr) : entryFrame m #[(.ref x0)] 1 = mkF m 0 #[.val (.ref x0)] [] := by first | (simp [entryFrame, mkF, argsToLocals, Value.category]; done) | rfl
def QCoder16 (Z : State) (a1 : Addr) (ccs : Int32) (vF : Value) (h0 : Heap) (n0 : Nat) (v : Option Value) (h : Heap) (L : List Loc) : Prop := v = some (.int (1 : Int32)) ∧ Fr n0 L ∧ h = h0
set_option maxRecDepth 65536 in
set_option maxHeartbeats 40000000 in
theorem rmCoder16 (l : Launch) (Z : State) (a0 : Array Value) (hw : ∀ d ∈ tables_1, d.before a0 Z = true) (ws : List Jvm.Cond) (a1 : Addr) (ccs : Int32) (vF : Value) (h0 : Heap) (n0 : Nat) (Z0 : n0 ≤ h0.size) (F2 : Fld Z h0 a1 "java/lang/String" "coder" "B" (.int (1 : Int32))) (O0 : Old Z n0 h0) (S_CS : Sta Z Z.heap "java/lang/String" "COMPACT_STRINGS" "Z" (.int ccs)) (hcs : ¬ (ccs = (0 : Int32))) (S_AD : Sta Z Z.heap "java/lang/StringUTF16" "$assertionsDisabled" "Z" (.int (1 : Int32))) (S_HI : Sta Z Z.heap "java/lang/StringUTF16" "HI_BYTE_SHIFT" "I" (.int (0 : Int32))) (S_LO : Sta Z Z.heap "java/lang/StringUTF16" "LO_BYTE_SHIFT" "I" (.int (8 : Int32))) (S_SF : Sta Z Z.heap "jdk/internal/util/Preconditions" "SIOOBE_FORMATTER" "Ljava/util/function/BiFunction;" vF) (rF : vF.isRef = true) :
    MetFree l (⟨"java/lang/String", "coder", "()B"⟩ : MethodName) (head1 (Jvm.Cond.code (⟨"java/lang/String", "coder", "()B"⟩ : MethodName) jdk_42_method_152_code 1 (some .byte) :: ws) ({ frames := 0, cells := 0, slots := 0, locals := 0 } : Room)) (fun a U => a = #[(.ref a1)] ∧ Z.Warmed39 U.vm ∧ U.heap = h0) (fun _ _ _ _ _ => True) (fun _ U o U' => ∃ v L, o = .returned v ∧ QCoder16 Z a1 ccs vF h0 n0 v U'.heap L ∧ FrameEnd U o U' L ({ frames := 0, cells := 0, slots := 0, locals := 0 } : Room).cells ({ frames := 0, cells := 0, slots := 0, locals := 0 } : Room).slots) := by
  refine MetFree.of_bodySF (plainFor_of_name pn_java_lang_String) hisR ?_
  intro p e s m args below meth c s₁ Bd hml0 hP hK
  obtain ⟨rfl, hZ, hh⟩ := hP
  have hx := Bd.exec
  have hby := Bd.bytes
  have hlk : meth.locks = false := Bd.notSynchronized
  have hml : c.maxLocals = 1 := hml0
  have hown : s.vm.findClass "java/lang/String" = some m.cls := findClass_of_methodNamed Bd.named
  have hnm := (name_of_methodNamed Bd.named Bd.method).1
  have X0 : Stand p l e ({ frames := 0, cells := 0, slots := 0, locals := 0 } : Room) s m #[(.ref a1)] below meth c s₁ [] 0 0 := Stand.of_body Bd
  have e0 : s₁.heap = h0 := by rw [← hh, Bd.state]; rfl
  have N0 := Fr.nil n0
  show Go p e below (FinE s below (QCoder16 Z a1 ccs vF h0 n0) ({ frames := 0, cells := 0, slots := 0, locals := 0 } : Room).cells ({ frames := 0, cells := 0, slots := 0, locals := 0 } : Room).slots) (s₁.setTop (entryFrame m #[(.ref a1)] 1))
  refine Go.via (fun t k => castTop (ef_rmCoder16 m a1) k) ?_
  show Go p e below _ (s₁.setTop (mkF m 0 #[.val (.ref a1)] []))
  obtain ⟨T1, X1, e1, st1⟩ := getS2 X0 hx hZ hown (host := "") (Or.inl (hw _ (List.mem_of_getElem? (i := 9) rfl))) Via.refl e0 (S_CS.ext O0.2) (g := (mkF m 0 #[.val (.ref a1)] [])) rfl (hb hby d13_0)
  refine Go.via st1 ?_
  show Go p e below _ (T1.setTop (mkF m 3 #[.val (.ref a1)] [(.int ccs)]))
  refine Go.via (fun _ => XS.ifNo X1.here hx rfl (hb hby d13_3) rfl ((if0 _ _).trans (feq hcs).1)) ?_
  show Go p e below _ (T1.setTop (mkF m 6 #[.val (.ref a1)] []))
  refine Go.via (fun _ => XS.aloadN X1.here hx rfl (hb hby d13_6) rfl rfl) ?_
  show Go p e below _ (T1.setTop (mkF m 7 #[.val (.ref a1)] [(.ref a1)]))
  obtain ⟨T2, X2, e2, st2⟩ := getF X1 hx hZ hown (host := "") (Or.inl (hw _ (List.mem_of_getElem? (i := 29) rfl))) Via.refl e1 F2 (g := (mkF m 7 #[.val (.ref a1)] [(.ref a1)])) rfl rfl (hb hby d13_7)
  refine Go.via st2 ?_
  show Go p e below _ (T2.setTop (mkF m 10 #[.val (.ref a1)] [(.int (1 : Int32))]))
  refine Go.via (fun _ => XS.goto X2.here hx rfl (pc0 := 10) (pc' := 14) rfl (hb hby d13_10) (by decide) (by decide)) ?_
  show Go p e below _ (T2.setTop (mkF m 14 #[.val (.ref a1)] [(.int (1 : Int32))]))
  exact own_retN X2 hx hlk (t := .byte) Bd.returns (by simp) (hb hby d13_14) (by show QCoder16 Z a1 ccs vF h0 n0 _ T2.heap _; rw [e2]; exact ⟨rfl, N0, rfl⟩) (by decide) (by decide)
theorem ef_rmLen16_1 (m : MethodId) (x0 : Addr) : entryFrame m #[(.ref x0)] 1 = mkF m 0 #[.val (.ref x0)] [] := by first | (simp [entryFrame, mkF, argsToLocals, Value.category]; done) | rfl
def QLen16_1 (Z : State) (a1 : Addr) (t1 : Addr) (kb : ClassId) (vs : List Value) (ccs : Int32) (vF : Value) (h0 : Heap) (n0 : Nat) (v : Option Value) (h : Heap) (L : List Loc) : Prop := v = some (.int (1 : Int32)) ∧ Fr n0 L ∧ h = h0
set_option maxRecDepth 65536 in
set_option maxHeartbeats 40000000 in
theorem rmLen16_1 (l : Launch) (Z : State) (a0 : Array Value) (hw : ∀ d ∈ tables_1, d.before a0 Z = true) (ws : List Jvm.Cond) (a1 : Addr) (t1 : Addr) (kb : ClassId) (vs : List Value) (ccs : Int32) (vF : Value) (h0 : Heap) (n0 : Nat) (Z0 : n0 ≤ h0.size) (E1 : Exa Z h0 a1 "java/lang/String") (F1 : Fld Z h0 a1 "java/lang/String" "value" "[B" (.ref t1)) (F2 : Fld Z h0 a1 "java/lang/String" "coder" "B" (.int (1 : Int32))) (V2 : Arv Z h0 t1 kb .byte (2 : Int32) vs (.int (0 : Int32))) (O0 : Old Z n0 h0) (S_CS : Sta Z Z.heap "java/lang/String" "COMPACT_STRINGS" "Z" (.int ccs)) (hcs : ¬ (ccs = (0 : Int32))) (S_AD : Sta Z Z.heap "java/lang/StringUTF16" "$assertionsDisabled" "Z" (.int (1 : Int32))) (S_HI : Sta Z Z.heap "java/lang/StringUTF16" "HI_BYTE_SHIFT" "I" (.int (0 : Int32))) (S_LO : Sta Z Z.heap "java/lang/StringUTF16" "LO_BYTE_SHIFT" "I" (.int (8 : Int32))) (S_SF : Sta Z Z.heap "jdk/internal/util/Preconditions" "SIOOBE_FORMATTER" "Ljava/util/function/BiFunction;" vF) (rF : vF.isRef = true) :
    MetFree l (⟨"java/lang/String", "length", "()I"⟩ : MethodName) (head1 (Jvm.Cond.code (⟨"java/lang/String", "length", "()I"⟩ : MethodName) jdk_42_method_54_code 1 (some .int) :: ws) ({ frames := 1, cells := 0, slots := 0, locals := 13 } : Room)) (fun a U => a = #[(.ref a1)] ∧ Z.Warmed39 U.vm ∧ U.heap = h0) (fun _ _ _ _ _ => True) (fun _ U o U' => ∃ v L, o = .returned v ∧ QLen16_1 Z a1 t1 kb vs ccs vF h0 n0 v U'.heap L ∧ FrameEnd U o U' L ({ frames := 1, cells := 0, slots := 0, locals := 13 } : Room).cells ({ frames := 1, cells := 0, slots := 0, locals := 13 } : Room).slots) := by
  refine MetFree.of_bodySF (plainFor_of_name pn_java_lang_String) hisR ?_
  intro p e s m args below meth c s₁ Bd hml0 hP hK
  obtain ⟨rfl, hZ, hh⟩ := hP
  have hx := Bd.exec
  have hby := Bd.bytes
  have hlk : meth.locks = false := Bd.notSynchronized
  have hml : c.maxLocals = 1 := hml0
  have hown : s.vm.findClass "java/lang/String" = some m.cls := findClass_of_methodNamed Bd.named
  have hnm := (name_of_methodNamed Bd.named Bd.method).1
  have X0 : Stand p l e ({ frames := 1, cells := 0, slots := 0, locals := 13 } : Room) s m #[(.ref a1)] below meth c s₁ [] 0 0 := Stand.of_body Bd
  have e0 : s₁.heap = h0 := by rw [← hh, Bd.state]; rfl
  have N0 := Fr.nil n0
  show Go p e below (FinE s below (QLen16_1 Z a1 t1 kb vs ccs vF h0 n0) ({ frames := 1, cells := 0, slots := 0, locals := 13 } : Room).cells ({ frames := 1, cells := 0, slots := 0, locals := 13 } : Room).slots) (s₁.setTop (entryFrame m #[(.ref a1)] 1))
  refine Go.via (fun t k => castTop (ef_rmLen16_1 m a1) k) ?_
  show Go p e below _ (s₁.setTop (mkF m 0 #[.val (.ref a1)] []))
  refine Go.via (fun _ => XS.aloadN X0.here hx rfl (hb hby d12_0) rfl rfl) ?_
  show Go p e below _ (s₁.setTop (mkF m 1 #[.val (.ref a1)] [(.ref a1)]))
  obtain ⟨T1, X1, e1, st1⟩ := getF X0 hx hZ hown (host := "") (Or.inl (hw _ (List.mem_of_getElem? (i := 27) rfl))) Via.refl e0 F1 (g := (mkF m 1 #[.val (.ref a1)] [(.ref a1)])) rfl rfl (hb hby d12_1)
  refine Go.via st1 ?_
  show Go p e below _ (T1.setTop (mkF m 4 #[.val (.ref a1)] [(.ref t1)]))
  obtain ⟨cl2, Ar2, -, S2, N2n, -, -⟩ := id V2
  have al2 := X1.arraylength hx (by rw [e1]; exact Ar2.1) (State.isArrayOf_alike hZ.alike Ar2.2.1) (g := (mkF m 4 #[.val (.ref a1)] [(.ref t1)])) rfl rfl (hb hby d12_4)
  rw [len_of S2 N2n] at al2
  refine Go.via al2 ?_
  show Go p e below _ (T1.setTop (mkF m 5 #[.val (.ref a1)] [(.int (2 : Int32))]))
  refine Go.via (fun _ => XS.aloadN X1.here hx rfl (hb hby d12_5) rfl rfl) ?_
  show Go p e below _ (T1.setTop (mkF m 6 #[.val (.ref a1)] [(.ref a1), (.int (2 : Int32))]))
  obtain ⟨cq3, kq3, q3a, q3b, q3c⟩ := isOf hZ e1 E1
  obtain ⟨_, _, ⟨T3, L3, k3, n3⟩, -, X3, ⟨Lc3, hQ3, l3, y3, z3⟩, st3⟩ := X1.virtualBack hx (y := (⟨"java/lang/String", "coder", "()B"⟩ : MethodName)) (z := (⟨"java/lang/String", "coder", "()B"⟩ : MethodName)) hown (mvT hZ (hw _ (List.mem_of_getElem? (i := 70) rfl))) (mvT hZ (hw _ (List.mem_of_getElem? (i := 71) rfl))) (notFace_of_selects (args := #[]) (mvT hZ (hw _ (List.mem_of_getElem? (i := 73) rfl)))) (mvT hZ (hw _ (List.mem_of_getElem? (i := 73) rfl))) (mvT hZ (hw _ (List.mem_of_getElem? (i := 72) rfl))) (by decide) (backOf (W := 1) (rmCoder16 l Z a0 hw [] a1 ccs vF h0 n0 Z0 F2 O0 S_CS hcs S_AD S_HI S_LO S_SF rF) hZ (hw _ (List.mem_of_getElem? (i := 74) rfl)) (hw _ (List.mem_of_getElem? (i := 7) rfl)) (by decide) (by decide)) q3a q3c (g := (mkF m 6 #[.val (.ref a1)] [(.ref a1), (.int (2 : Int32))])) rfl (by rw [hml]; rfl) (Steps.refl _) (argsL := []) (rest := [(.int (2 : Int32))]) (lenOf pd_4 rfl) rfl (by show 2 * 0 + _ ≤ _; exact Nat.le_of_eq rfl) (hb hby d12_6) (fun _ _ => ⟨rfl, e1, (by decide : 0 + 0 ≤ _), (by decide : 0 + 0 ≤ _)⟩)
  dsimp only [Pt.U, Pt.locs, Pt.cells, Pt.slots] at X3 l3 y3 z3 st3 hQ3
  subst l3 y3 z3
  obtain ⟨rfl, N3q, e3q⟩ := hQ3
  have N3 := Fr.app N0 N3q
  refine Go.tr st3 ?_
  show Go p e below _ (T3.setTop (mkF m 9 #[.val (.ref a1)] [(.int (1 : Int32)), (.int (2 : Int32))]))
  refine Go.via (fun _ => XS.ishr X3.here hx rfl (hb hby d12_9) rfl) ?_
  show Go p e below _ (T3.setTop (mkF m 10 #[.val (.ref a1)] [(.int (1 : Int32))]))
  exact own_retI X3 hx hlk Bd.returns (hb hby d12_10) (by show QLen16_1 Z a1 t1 kb vs ccs vF h0 n0 _ T3.heap _; rw [e3q]; exact ⟨rfl, N3, rfl⟩) (by decide) (by decide)
theorem ef_rmIS16 (m : MethodId) (x0 : Addr) (x1 : Int32) : entryFrame m #[(.ref x0), (.int x1), (.int (0 : Int32))] 3 = mkF m 0 #[.val (.ref x0), .val (.int x1), .val (.int (0 : Int32))] [] := by first | (simp [entryFrame, mkF, argsToLocals, Value.category]; done) | rfl
def QIS16 (Z : State) (a1 : Addr) (t1 : Addr) (kb : ClassId) (c0 : Int32) (ch : Int32) (ccs : Int32) (vF : Value) (h0 : Heap) (n0 : Nat) (v : Option Value) (h : Heap) (L : List Loc) : Prop := v = some (.int (-1 : Int32)) ∧ Fr n0 L ∧ h = h0
set_option maxRecDepth 65536 in
set_option maxHeartbeats 40000000 in
theorem rmIS16 (l : Launch) (Z : State) (a0 : Array Value) (hw : ∀ d ∈ tables_1, d.before a0 Z = true) (ws : List Jvm.Cond) (a1 : Addr) (t1 : Addr) (kb : ClassId) (c0 : Int32) (ch : Int32) (ccs : Int32) (vF : Value) (h0 : Heap) (n0 : Nat) (Z0 : n0 ≤ h0.size) (E1 : Exa Z h0 a1 "java/lang/String") (F1 : Fld Z h0 a1 "java/lang/String" "value" "[B" (.ref t1)) (F2 : Fld Z h0 a1 "java/lang/String" "coder" "B" (.int (1 : Int32))) (V2 : Arv Z h0 t1 kb .byte (2 : Int32) [(.int (nar .byte ((c0 >>> ((0 : Int32) &&& 31)).toInt8.toInt32))), (.int (nar .byte ((c0 >>> ((8 : Int32) &&& 31)).toInt8.toInt32)))] (.int (0 : Int32))) (hu : nar .char ((((((nar .byte ((c0 >>> ((0 : Int32) &&& 31)).toInt8.toInt32))) &&& (255 : Int32)) <<< ((0 : Int32) &&& 31)) ||| ((((nar .byte ((c0 >>> ((8 : Int32) &&& 31)).toInt8.toInt32))) &&& (255 : Int32)) <<< ((8 : Int32) &&& 31))).toUInt32.toUInt16.toUInt32.toInt32) = c0) (hne : ¬ (c0 = ch)) (hch : ch < (65536 : Int32)) (O0 : Old Z n0 h0) (S_CS : Sta Z Z.heap "java/lang/String" "COMPACT_STRINGS" "Z" (.int ccs)) (hcs : ¬ (ccs = (0 : Int32))) (S_AD : Sta Z Z.heap "java/lang/StringUTF16" "$assertionsDisabled" "Z" (.int (1 : Int32))) (S_HI : Sta Z Z.heap "java/lang/StringUTF16" "HI_BYTE_SHIFT" "I" (.int (0 : Int32))) (S_LO : Sta Z Z.heap "java/lang/StringUTF16" "LO_BYTE_SHIFT" "I" (.int (8 : Int32))) (S_SF : Sta Z Z.heap "jdk/internal/util/Preconditions" "SIOOBE_FORMATTER" "Ljava/util/function/BiFunction;" vF) (rF : vF.isRef = true) :
    MetFree l (⟨"java/lang/String", "indexOf", "(II)I"⟩ : MethodName) (head1 (Jvm.Cond.code (⟨"java/lang/String", "indexOf", "(II)I"⟩ : MethodName) jdk_42_method_80_code 3 (some .int) :: ws) ({ frames := 5, cells := 0, slots := 0, locals := 73 } : Room)) (fun a U => a = #[(.ref a1), (.int ch), (.int (0 : Int32))] ∧ Z.Warmed39 U.vm ∧ U.heap = h0) (fun _ _ _ _ _ => True) (fun _ U o U' => ∃ v L, o = .returned v ∧ QIS16 Z a1 t1 kb c0 ch ccs vF h0 n0 v U'.heap L ∧ FrameEnd U o U' L ({ frames := 5, cells := 0, slots := 0, locals := 73 } : Room).cells ({ frames := 5, cells := 0, slots := 0, locals := 73 } : Room).slots) := by
  refine MetFree.of_bodySF (plainFor_of_name pn_java_lang_String) hisR ?_
  intro p e s m args below meth c s₁ Bd hml0 hP hK
  obtain ⟨rfl, hZ, hh⟩ := hP
  have hx := Bd.exec
  have hby := Bd.bytes
  have hlk : meth.locks = false := Bd.notSynchronized
  have hml : c.maxLocals = 3 := hml0
  have hown : s.vm.findClass "java/lang/String" = some m.cls := findClass_of_methodNamed Bd.named
  have hnm := (name_of_methodNamed Bd.named Bd.method).1
  have X0 : Stand p l e ({ frames := 5, cells := 0, slots := 0, locals := 73 } : Room) s m #[(.ref a1), (.int ch), (.int (0 : Int32))] below meth c s₁ [] 0 0 := Stand.of_body Bd
  have e0 : s₁.heap = h0 := by rw [← hh, Bd.state]; rfl
  have N0 := Fr.nil n0
  show Go p e below (FinE s below (QIS16 Z a1 t1 kb c0 ch ccs vF h0 n0) ({ frames := 5, cells := 0, slots := 0, locals := 73 } : Room).cells ({ frames := 5, cells := 0, slots := 0, locals := 73 } : Room).slots) (s₁.setTop (entryFrame m #[(.ref a1), (.int ch), (.int (0 : Int32))] 3))
  refine Go.via (fun t k => castTop (ef_rmIS16 m a1 ch) k) ?_
  show Go p e below _ (s₁.setTop (mkF m 0 #[.val (.ref a1), .val (.int ch), .val (.int (0 : Int32))] []))
  refine Go.via (fun _ => XS.aloadN X0.here hx rfl (hb hby d10_0) rfl rfl) ?_
  show Go p e below _ (s₁.setTop (mkF m 1 #[.val (.ref a1), .val (.int ch), .val (.int (0 : Int32))] [(.ref a1)]))
  obtain ⟨cq1, kq1, q1a, q1b, q1c⟩ := isOf hZ e0 E1
  obtain ⟨_, _, ⟨T1, L1, k1, n1⟩, -, X1, ⟨Lc1, hQ1, l1, y1, z1⟩, st1⟩ := X0.virtualBack hx (y := (⟨"java/lang/String", "isLatin1", "()Z"⟩ : MethodName)) (z := (⟨"java/lang/String", "isLatin1", "()Z"⟩ : MethodName)) hown (mvT hZ (hw _ (List.mem_of_getElem? (i := 60) rfl))) (mvT hZ (hw _ (List.mem_of_getElem? (i := 61) rfl))) (notFace_of_selects (args := #[]) (mvT hZ (hw _ (List.mem_of_getElem? (i := 63) rfl)))) (mvT hZ (hw _ (List.mem_of_getElem? (i := 63) rfl))) (mvT hZ (hw _ (List.mem_of_getElem? (i := 62) rfl))) (by decide) (backOf (W := 0) (rmIsLat16 l Z a0 hw [] a1 ccs vF h0 n0 Z0 F2 O0 S_CS hcs S_AD S_HI S_LO S_SF rF) hZ (hw _ (List.mem_of_getElem? (i := 64) rfl)) (hw _ (List.mem_of_getElem? (i := 7) rfl)) (by decide) (by decide)) q1a q1c (g := (mkF m 1 #[.val (.ref a1), .val (.int ch), .val (.int (0 : Int32))] [(.ref a1)])) rfl (by rw [hml]; rfl) (Steps.refl _) (argsL := []) (rest := []) (lenOf pd_8 rfl) rfl (by show 2 * 0 + _ ≤ _; exact Nat.le_of_eq rfl) (hb hby d10_1) (fun _ _ => ⟨rfl, e0, (by decide : 0 + 0 ≤ _), (by decide : 0 + 0 ≤ _)⟩)
  dsimp only [Pt.U, Pt.locs, Pt.cells, Pt.slots] at X1 l1 y1 z1 st1 hQ1
  subst l1 y1 z1
  obtain ⟨rfl, N1q, e1q⟩ := hQ1
  have N1 := Fr.app N0 N1q
  refine Go.tr st1 ?_
  show Go p e below _ (T1.setTop (mkF m 4 #[.val (.ref a1), .val (.int ch), .val (.int (0 : Int32))] [(.int (0 : Int32))]))
  refine Go.via (fun _ => XS.ifYes X1.here hx rfl (pc0 := 4) (pc' := 23) rfl (hb hby d10_4) rfl (by decide) (by decide) (by decide)) ?_
  show Go p e below _ (T1.setTop (mkF m 23 #[.val (.ref a1), .val (.int ch), .val (.int (0 : Int32))] []))
  refine Go.via (fun _ => XS.aloadN X1.here hx rfl (hb hby d10_23) rfl rfl) ?_
  show Go p e below _ (T1.setTop (mkF m 24 #[.val (.ref a1), .val (.int ch), .val (.int (0 : Int32))] [(.ref a1)]))
  obtain ⟨T2, X2, e2, st2⟩ := getF X1 hx hZ hown (host := "") (Or.inl (hw _ (List.mem_of_getElem? (i := 27) rfl))) Via.refl e1q F1 (g := (mkF m 24 #[.val (.ref a1), .val (.int ch), .val (.int (0 : Int32))] [(.ref a1)])) rfl rfl (hb hby d10_24)
  refine Go.via st2 ?_
  show Go p e below _ (T2.setTop (mkF m 27 #[.val (.ref a1), .val (.int ch), .val (.int (0 : Int32))] [(.ref t1)]))
  refine Go.via (fun _ => XS.iloadN X2.here hx rfl (hb hby d10_27) rfl) ?_
  show Go p e below _ (T2.setTop (mkF m 28 #[.val (.ref a1), .val (.int ch), .val (.int (0 : Int32))] [(.int ch), (.ref t1)]))
  refine Go.via (fun _ => XS.iloadN X2.here hx rfl (hb hby d10_28) rfl) ?_
  show Go p e below _ (T2.setTop (mkF m 29 #[.val (.ref a1), .val (.int ch), .val (.int (0 : Int32))] [(.int (0 : Int32)), (.int ch), (.ref t1)]))
  refine Go.via (fun _ => XS.aloadN X2.here hx rfl (hb hby d10_29) rfl rfl) ?_
  show Go p e below _ (T2.setTop (mkF m 30 #[.val (.ref a1), .val (.int ch), .val (.int (0 : Int32))] [(.ref a1), (.int (0 : Int32)), (.int ch), (.ref t1)]))
  obtain ⟨cq3, kq3, q3a, q3b, q3c⟩ := isOf hZ e2 E1
  obtain ⟨_, _, ⟨T3, L3, k3, n3⟩, -, X3, ⟨Lc3, hQ3, l3, y3, z3⟩, st3⟩ := X2.virtualBack hx (y := (⟨"java/lang/String", "length", "()I"⟩ : MethodName)) (z := (⟨"java/lang/String", "length", "()I"⟩ : MethodName)) hown (mvT hZ (hw _ (List.mem_of_getElem? (i := 65) rfl))) (mvT hZ (hw _ (List.mem_of_getElem? (i := 66) rfl))) (notFace_of_selects (args := #[]) (mvT hZ (hw _ (List.mem_of_getElem? (i := 68) rfl)))) (mvT hZ (hw _ (List.mem_of_getElem? (i := 68) rfl))) (mvT hZ (hw _ (List.mem_of_getElem? (i := 67) rfl))) (by decide) (backOf (W := 3) (rmLen16_1 l Z a0 hw [] a1 t1 kb _ ccs vF h0 n0 Z0 E1 F1 F2 V2 O0 S_CS hcs S_AD S_HI S_LO S_SF rF) hZ (hw _ (List.mem_of_getElem? (i := 69) rfl)) (hw _ (List.mem_of_getElem? (i := 7) rfl)) (by decide) (by decide)) q3a q3c (g := (mkF m 30 #[.val (.ref a1), .val (.int ch), .val (.int (0 : Int32))] [(.ref a1), (.int (0 : Int32)), (.int ch), (.ref t1)])) rfl (by rw [hml]; rfl) (Steps.refl _) (argsL := []) (rest := [(.int (0 : Int32)), (.int ch), (.ref t1)]) (lenOf pd_9 rfl) rfl (by show 2 * 0 + _ ≤ _; exact Nat.le_of_eq rfl) (hb hby d10_30) (fun _ _ => ⟨rfl, e2, (by decide : 0 + 0 ≤ _), (by decide : 0 + 0 ≤ _)⟩)
  dsimp only [Pt.U, Pt.locs, Pt.cells, Pt.slots] at X3 l3 y3 z3 st3 hQ3
  subst l3 y3 z3
  obtain ⟨rfl, N3q, e3q⟩ := hQ3
  have N3 := Fr.app N1 N3q
  refine Go.tr st3 ?_
  show Go p e below _ (T3.setTop (mkF m 33 #[.val (.ref a1), .val (.int ch), .val (.int (0 : Int32))] [(.int (1 : Int32)), (.int (0 : Int32)), (.int ch), (.ref t1)]))
  obtain ⟨_, _, ⟨T4, L4, k4, n4⟩, -, X4, ⟨Lc4, hQ4, l4, y4, z4⟩, st4⟩ := Jvm.LawKit.callS X3 hx (y := (⟨"java/lang/StringUTF16", "indexOf", "([BIII)I"⟩ : MethodName)) hown (mvT hZ (hw _ (List.mem_of_getElem? (i := 102) rfl))) (mvT hZ (hw _ (List.mem_of_getElem? (i := 103) rfl))) (mvT hZ (hw _ (List.mem_of_getElem? (i := 94) rfl))) (mvT hZ (hw _ (List.mem_of_getElem? (i := 104) rfl))) (by decide) (backOf (W := 0) (rmI16 l Z a0 hw [] t1 kb c0 ch ccs vF h0 n0 Z0 V2 hu hne hch O0 S_CS hcs S_AD S_HI S_LO S_SF rF) hZ (hw _ (List.mem_of_getElem? (i := 104) rfl)) (hw _ (List.mem_of_getElem? (i := 94) rfl)) (by decide) (by decide)) (g := (mkF m 33 #[.val (.ref a1), .val (.int ch), .val (.int (0 : Int32))] [(.int (1 : Int32)), (.int (0 : Int32)), (.int ch), (.ref t1)])) rfl (by rw [hml]; rfl) (argsL := [(.ref t1), (.int ch), (.int (0 : Int32)), (.int (1 : Int32))]) (rest := []) (lenOf pd_7 rfl) rfl (by show 2 * 0 + _ ≤ _; exact Nat.le_of_eq rfl) (hb hby d10_33) (fun _ _ => ⟨rfl, e3q, (by decide : 0 + 0 ≤ _), (by decide : 0 + 0 ≤ _)⟩)
  dsimp only [Pt.U, Pt.locs, Pt.cells, Pt.slots] at X4 l4 y4 z4 st4 hQ4
  subst l4 y4 z4
  obtain ⟨rfl, N4q, e4q⟩ := hQ4
  have N4 := Fr.app N3 N4q
  refine Go.via st4 ?_
  show Go p e below _ (T4.setTop (mkF m 36 #[.val (.ref a1), .val (.int ch), .val (.int (0 : Int32))] [(.int (-1 : Int32))]))
  exact own_retI X4 hx hlk Bd.returns (hb hby d10_36) (by show QIS16 Z a1 t1 kb c0 ch ccs vF h0 n0 _ T4.heap _; rw [e4q]; exact ⟨rfl, N4, rfl⟩) (by decide) (by decide)
theorem ef_rmF_1_10_y (m : MethodId) (x0 : Addr) : entryFrame m #[(.ref x0), (.int (0 : Int32))] 2 = mkF m 0 #[.val (.ref x0), .val (.int (0 : Int32))] [] := by first | (simp [entryFrame, mkF, argsToLocals, Value.category]; done) | rfl
def QF_1_10_y (Z : State) (o1 : Addr) (a1 : Addr) (t1 : Addr) (kb : ClassId) (c0 : Int32) (ccs : Int32) (vF : Value) (h0 : Heap) (n0 : Nat) (v : Option Value) (h : Heap) (L : List Loc) : Prop := v = some (.int (0 : Int32)) ∧ Fr n0 L ∧ Keep h0 h [o1]
set_option maxRecDepth 65536 in
set_option maxHeartbeats 40000000 in
theorem rmF_1_10_y (l : Launch) (Z : State) (a0 : Array Value) (hw : ∀ d ∈ tables_1, d.before a0 Z = true) (ws : List Jvm.Cond) (o1 : Addr) (a1 : Addr) (t1 : Addr) (kb : ClassId) (c0 : Int32) (ccs : Int32) (vF : Value) (h0 : Heap) (n0 : Nat) (Z0 : n0 ≤ h0.size) (E1 : Exa Z h0 o1 "com/example/dogwood/dogwood/model/yaml/Occurrences") (H1 : Fld Z h0 o1 "com/example/dogwood/dogwood/model/yaml/Occurrences" "from" "I" (.int (2147483647 : Int32))) (H2 : Fld Z h0 o1 "com/example/dogwood/dogwood/model/yaml/Occurrences" "found" "I" (.int (-1 : Int32))) (H3 : Fld Z h0 o1 "com/example/dogwood/dogwood/model/yaml/Occurrences" "text" "Ljava/lang/String;" (.ref a1)) (H4 : Fld Z h0 o1 "com/example/dogwood/dogwood/model/yaml/Occurrences" "c" "C" (.int (10 : Int32))) (g1 : n0 ≤ o1) (E2 : Exa Z h0 a1 "java/lang/String") (G1 : Fld Z h0 a1 "java/lang/String" "value" "[B" (.ref t1)) (G2 : Fld Z h0 a1 "java/lang/String" "coder" "B" (.int (0 : Int32))) (V2 : Arv Z h0 t1 kb .byte (1 : Int32) [(.int (nar .byte (c0.toInt8.toInt32)))] (.int (0 : Int32))) (qe0 : (nar .byte (c0.toInt8.toInt32) = ((10 : Int32)).toInt8.toInt32) ↔ c0 = (10 : Int32)) (hix : ix1 c0 (10 : Int32) (0 : Int32) = (0 : Int32)) (O0 : Old Z n0 h0) (S_CS : Sta Z Z.heap "java/lang/String" "COMPACT_STRINGS" "Z" (.int ccs)) (hcs : ¬ (ccs = (0 : Int32))) (S_AD : Sta Z Z.heap "java/lang/StringUTF16" "$assertionsDisabled" "Z" (.int (1 : Int32))) (S_HI : Sta Z Z.heap "java/lang/StringUTF16" "HI_BYTE_SHIFT" "I" (.int (0 : Int32))) (S_LO : Sta Z Z.heap "java/lang/StringUTF16" "LO_BYTE_SHIFT" "I" (.int (8 : Int32))) (S_SF : Sta Z Z.heap "jdk/internal/util/Preconditions" "SIOOBE_FORMATTER" "Ljava/util/function/BiFunction;" vF) (rF : vF.isRef = true) :
    MetFree l (⟨"com/example/dogwood/dogwood/model/yaml/Occurrences", "from", "(I)I"⟩ : MethodName) (head1 (Jvm.Cond.code (⟨"com/example/dogwood/dogwood/model/yaml/Occurrences", "from", "(I)I"⟩ : MethodName) prog_19_method_2_code 2 (some .int) :: ws) ({ frames := 4, cells := 0, slots := 0, locals := 75 } : Room)) (fun a U => a = #[(.ref o1), (.int (0 : Int32))] ∧ Z.Warmed39 U.vm ∧ U.heap = h0) (fun _ _ _ _ _ => True) (fun _ U o U' => ∃ v L, o = .returned v ∧ QF_1_10_y Z o1 a1 t1 kb c0 ccs vF h0 n0 v U'.heap L ∧ FrameEnd U o U' L ({ frames := 4, cells := 0, slots := 0, locals := 75 } : Room).cells ({ frames := 4, cells := 0, slots := 0, locals := 75 } : Room).slots) := by
  refine MetFree.of_bodySF (plainFor_of_name pn_com_example_dogwood_dogwood_model_yaml_Occurrences) hisR ?_
  intro p e s m args below meth c s₁ Bd hml0 hP hK
  obtain ⟨rfl, hZ, hh⟩ := hP
  have hx := Bd.exec
  have hby := Bd.bytes
  have hlk : meth.locks = false := Bd.notSynchronized
  have hml : c.maxLocals = 2 := hml0
  have hown : s.vm.findClass "com/example/dogwood/dogwood/model/yaml/Occurrences" = some m.cls := findClass_of_methodNamed Bd.named
  have hnm := (name_of_methodNamed Bd.named Bd.method).1
  have X0 : Stand p l e ({ frames := 4, cells := 0, slots := 0, locals := 75 } : Room) s m #[(.ref o1), (.int (0 : Int32))] below meth c s₁ [] 0 0 := Stand.of_body Bd
  have e0 : s₁.heap = h0 := by rw [← hh, Bd.state]; rfl
  have N0 := Fr.nil n0
  show Go p e below (FinE s below (QF_1_10_y Z o1 a1 t1 kb c0 ccs vF h0 n0) ({ frames := 4, cells := 0, slots := 0, locals := 75 } : Room).cells ({ frames := 4, cells := 0, slots := 0, locals := 75 } : Room).slots) (s₁.setTop (entryFrame m #[(.ref o1), (.int (0 : Int32))] 2))
  refine Go.via (fun t k => castTop (ef_rmF_1_10_y m o1) k) ?_
  show Go p e below _ (s₁.setTop (mkF m 0 #[.val (.ref o1), .val (.int (0 : Int32))] []))
  refine Go.via (fun _ => XS.iloadN X0.here hx rfl (hb hby d9_0) rfl) ?_
  show Go p e below _ (s₁.setTop (mkF m 1 #[.val (.ref o1), .val (.int (0 : Int32))] [(.int (0 : Int32))]))
  refine Go.via (fun _ => XS.aloadN X0.here hx rfl (hb hby d9_1) rfl rfl) ?_
  show Go p e below _ (s₁.setTop (mkF m 2 #[.val (.ref o1), .val (.int (0 : Int32))] [(.ref o1), (.int (0 : Int32))]))
  obtain ⟨T1, X1, e1, st1⟩ := getF X0 hx hZ hown (host := "") (Or.inl (hw _ (List.mem_of_getElem? (i := 39) rfl))) Via.refl e0 H1 (g := (mkF m 2 #[.val (.ref o1), .val (.int (0 : Int32))] [(.ref o1), (.int (0 : Int32))])) rfl rfl (hb hby d9_2)
  refine Go.via st1 ?_
  show Go p e below _ (T1.setTop (mkF m 5 #[.val (.ref o1), .val (.int (0 : Int32))] [(.int (2147483647 : Int32)), (.int (0 : Int32))]))
  refine Go.via (fun _ => XS.icmpYes X1.here hx rfl (pc0 := 5) (pc' := 23) rfl (hb hby d9_5) rfl (by decide) (by decide) (by decide)) ?_
  show Go p e below _ (T1.setTop (mkF m 23 #[.val (.ref o1), .val (.int (0 : Int32))] []))
  refine Go.via (fun _ => XS.aloadN X1.here hx rfl (hb hby d9_23) rfl rfl) ?_
  show Go p e below _ (T1.setTop (mkF m 24 #[.val (.ref o1), .val (.int (0 : Int32))] [(.ref o1)]))
  refine Go.via (fun _ => XS.aloadN X1.here hx rfl (hb hby d9_24) rfl rfl) ?_
  show Go p e below _ (T1.setTop (mkF m 25 #[.val (.ref o1), .val (.int (0 : Int32))] [(.ref o1), (.ref o1)]))
  obtain ⟨T2, X2, e2, st2⟩ := getF X1 hx hZ hown (host := "") (Or.inl (hw _ (List.mem_of_getElem? (i := 43) rfl))) Via.refl e1 H3 (g := (mkF m 25 #[.val (.ref o1), .val (.int (0 : Int32))] [(.ref o1), (.ref o1)])) rfl rfl (hb hby d9_25)
  refine Go.via st2 ?_
  show Go p e below _ (T2.setTop (mkF m 28 #[.val (.ref o1), .val (.int (0 : Int32))] [(.ref a1), (.ref o1)]))
  refine Go.via (fun _ => XS.aloadN X2.here hx rfl (hb hby d9_28) rfl rfl) ?_
  show Go p e below _ (T2.setTop (mkF m 29 #[.val (.ref o1), .val (.int (0 : Int32))] [(.ref o1), (.ref a1), (.ref o1)]))
  obtain ⟨T3, X3, e3, st3⟩ := getF X2 hx hZ hown (host := "") (Or.inl (hw _ (List.mem_of_getElem? (i := 45) rfl))) Via.refl e2 H4 (g := (mkF m 29 #[.val (.ref o1), .val (.int (0 : Int32))] [(.ref o1), (.ref a1), (.ref o1)])) rfl rfl (hb hby d9_29)
  refine Go.via st3 ?_
  show Go p e below _ (T3.setTop (mkF m 32 #[.val (.ref o1), .val (.int (0 : Int32))] [(.int (10 : Int32)), (.ref a1), (.ref o1)]))
  refine Go.via (fun _ => XS.iloadN X3.here hx rfl (hb hby d9_32) rfl) ?_
  show Go p e below _ (T3.setTop (mkF m 33 #[.val (.ref o1), .val (.int (0 : Int32))] [(.int (0 : Int32)), (.int (10 : Int32)), (.ref a1), (.ref o1)]))
  obtain ⟨cq4, kq4, q4a, q4b, q4c⟩ := isOf hZ e3 E2
  obtain ⟨_, _, ⟨T4, L4, k4, n4⟩, -, X4, ⟨Lc4, hQ4, l4, y4, z4⟩, st4⟩ := X3.virtualBack hx (y := (⟨"java/lang/String", "indexOf", "(II)I"⟩ : MethodName)) (z := (⟨"java/lang/String", "indexOf", "(II)I"⟩ : MethodName)) hown (mvT hZ (hw _ (List.mem_of_getElem? (i := 55) rfl))) (mvT hZ (hw _ (List.mem_of_getElem? (i := 56) rfl))) (notFace_of_selects (args := #[]) (mvT hZ (hw _ (List.mem_of_getElem? (i := 58) rfl)))) (mvT hZ (hw _ (List.mem_of_getElem? (i := 58) rfl))) (mvT hZ (hw _ (List.mem_of_getElem? (i := 57) rfl))) (by decide) (backOf (W := 1) (rmIxS_1_0 l Z a0 hw [] a1 t1 kb c0 (10 : Int32) ccs vF h0 n0 Z0 E2 G1 G2 V2 qe0 (by decide) (by decide) O0 S_CS hcs S_AD S_HI S_LO S_SF rF) hZ (hw _ (List.mem_of_getElem? (i := 59) rfl)) (hw _ (List.mem_of_getElem? (i := 7) rfl)) (by decide) (by decide)) q4a q4c (g := (mkF m 33 #[.val (.ref o1), .val (.int (0 : Int32))] [(.int (0 : Int32)), (.int (10 : Int32)), (.ref a1), (.ref o1)])) rfl (by rw [hml]; rfl) (Steps.refl _) (argsL := [(.int (10 : Int32)), (.int (0 : Int32))]) (rest := [(.ref o1)]) (lenOf pd_6 rfl) rfl (by show 2 * 0 + _ ≤ _; exact Nat.le_of_eq rfl) (hb hby d9_33) (fun _ _ => ⟨rfl, e3, (by decide : 0 + 0 ≤ _), (by decide : 0 + 0 ≤ _)⟩)
  dsimp only [Pt.U, Pt.locs, Pt.cells, Pt.slots] at X4 l4 y4 z4 st4 hQ4
  subst l4 y4 z4
  obtain ⟨rfl, N4q, e4q⟩ := hQ4
  have N4 := Fr.app N0 N4q
  refine Go.tr st4 ?_
  show Go p e below _ (T4.setTop (mkF m 36 #[.val (.ref o1), .val (.int (0 : Int32))] [(.int (ix1 c0 (10 : Int32) (0 : Int32))), (.ref o1)]))
  obtain ⟨T5, h5, X5, e5, W5, st5⟩ := putF X4 hx hZ hown (host := "") (Or.inl (hw _ (List.mem_of_getElem? (i := 41) rfl))) Via.refl e4q H2 E1 (Or.inl (hw _ (List.mem_of_getElem? (i := 42) rfl))) (hw _ (List.mem_of_getElem? (i := 32) rfl)) (ty := .int) (by decide) rfl rfl (g := (mkF m 36 #[.val (.ref o1), .val (.int (0 : Int32))] [(.int (ix1 c0 (10 : Int32) (0 : Int32))), (.ref o1)])) rfl rfl (hb hby d9_36)
  refine Go.via st5 ?_
  have fF_o1_found_5 : Fld Z h5 o1 "com/example/dogwood/dogwood/model/yaml/Occurrences" "found" "I" (.int (ix1 c0 (10 : Int32) (0 : Int32))) := H2.same W5
  have Zs5 : n0 ≤ h5.size := Nat.le_trans Z0 (Keep.of_wr W5).1
  have O5 : Old Z n0 h5 := O0.wr W5 g1
  have K5 : Keep h0 h5 [o1] := (Keep.refl h0 [o1]).wr W5 (Or.inl (List.mem_of_getElem? (i := 0) rfl))
  have N5 := Fr.snoc X5 N4 g1
  have fE_o1_5 := E1.wr W5
  have fF_o1_from_5 := H1.other W5 (Or.inr (slot_ne (Or.inl (hw _ (List.mem_of_getElem? (i := 40) rfl))) (Or.inl (hw _ (List.mem_of_getElem? (i := 42) rfl))) (by decide) (t := .int) (t' := .int) (by decide) (by decide)))
  have fF_o1_text_5 := H3.other W5 (Or.inr (slot_ne (Or.inr (hw _ (List.mem_of_getElem? (i := 44) rfl))) (Or.inl (hw _ (List.mem_of_getElem? (i := 42) rfl))) (by decide) (t := (.object "java/lang/String")) (t' := .int) (by decide) (by decide)))
  have fF_o1_c_5 := H4.other W5 (Or.inr (slot_ne (Or.inr (hw _ (List.mem_of_getElem? (i := 46) rfl))) (Or.inl (hw _ (List.mem_of_getElem? (i := 42) rfl))) (by decide) (t := .char) (t' := .int) (by decide) (by decide)))
  show Go p e below _ (T5.setTop (mkF m 39 #[.val (.ref o1), .val (.int (0 : Int32))] []))
  refine Go.via (fun _ => XS.aloadN X5.here hx rfl (hb hby d9_39) rfl rfl) ?_
  show Go p e below _ (T5.setTop (mkF m 40 #[.val (.ref o1), .val (.int (0 : Int32))] [(.ref o1)]))
  refine Go.via (fun _ => XS.iloadN X5.here hx rfl (hb hby d9_40) rfl) ?_
  show Go p e below _ (T5.setTop (mkF m 41 #[.val (.ref o1), .val (.int (0 : Int32))] [(.int (0 : Int32)), (.ref o1)]))
  obtain ⟨T6, h6, X6, e6, W6, st6⟩ := putF X5 hx hZ hown (host := "") (Or.inl (hw _ (List.mem_of_getElem? (i := 39) rfl))) Via.refl e5 fF_o1_from_5 fE_o1_5 (Or.inl (hw _ (List.mem_of_getElem? (i := 40) rfl))) (hw _ (List.mem_of_getElem? (i := 32) rfl)) (ty := .int) (by decide) rfl rfl (g := (mkF m 41 #[.val (.ref o1), .val (.int (0 : Int32))] [(.int (0 : Int32)), (.ref o1)])) rfl rfl (hb hby d9_41)
  refine Go.via st6 ?_
  have fF_o1_from_6 : Fld Z h6 o1 "com/example/dogwood/dogwood/model/yaml/Occurrences" "from" "I" (.int (0 : Int32)) := fF_o1_from_5.same W6
  have Zs6 : n0 ≤ h6.size := Nat.le_trans Zs5 (Keep.of_wr W6).1
  have O6 : Old Z n0 h6 := O5.wr W6 g1
  have K6 : Keep h0 h6 [o1] := K5.wr W6 (Or.inl (List.mem_of_getElem? (i := 0) rfl))
  have N6 := Fr.snoc X6 N5 g1
  have fE_o1_6 := fE_o1_5.wr W6
  have fF_o1_found_6 := fF_o1_found_5.other W6 (Or.inr (slot_ne (Or.inl (hw _ (List.mem_of_getElem? (i := 42) rfl))) (Or.inl (hw _ (List.mem_of_getElem? (i := 40) rfl))) (by decide) (t := .int) (t' := .int) (by decide) (by decide)))
  have fF_o1_text_6 := fF_o1_text_5.other W6 (Or.inr (slot_ne (Or.inr (hw _ (List.mem_of_getElem? (i := 44) rfl))) (Or.inl (hw _ (List.mem_of_getElem? (i := 40) rfl))) (by decide) (t := (.object "java/lang/String")) (t' := .int) (by decide) (by decide)))
  have fF_o1_c_6 := fF_o1_c_5.other W6 (Or.inr (slot_ne (Or.inr (hw _ (List.mem_of_getElem? (i := 46) rfl))) (Or.inl (hw _ (List.mem_of_getElem? (i := 40) rfl))) (by decide) (t := .char) (t' := .int) (by decide) (by decide)))
  show Go p e below _ (T6.setTop (mkF m 44 #[.val (.ref o1), .val (.int (0 : Int32))] []))
  refine Go.via (fun _ => XS.aloadN X6.here hx rfl (hb hby d9_44) rfl rfl) ?_
  show Go p e below _ (T6.setTop (mkF m 45 #[.val (.ref o1), .val (.int (0 : Int32))] [(.ref o1)]))
  obtain ⟨T7, X7, e7, st7⟩ := getF X6 hx hZ hown (host := "") (Or.inl (hw _ (List.mem_of_getElem? (i := 41) rfl))) Via.refl e6 fF_o1_found_6 (g := (mkF m 45 #[.val (.ref o1), .val (.int (0 : Int32))] [(.ref o1)])) rfl rfl (hb hby d9_45)
  refine Go.via st7 ?_
  show Go p e below _ (T7.setTop (mkF m 48 #[.val (.ref o1), .val (.int (0 : Int32))] [(.int (ix1 c0 (10 : Int32) (0 : Int32)))]))
  exact own_retI X7 hx hlk Bd.returns (hb hby d9_48) (by show QF_1_10_y Z o1 a1 t1 kb c0 ccs vF h0 n0 _ T7.heap _; rw [e7]; exact ⟨congrArg (fun z => some (Value.int z)) hix, N6, K6⟩) (by decide) (by decide)
theorem ef_rmF_1_10_n (m : MethodId) (x0 : Addr) : entryFrame m #[(.ref x0), (.int (0 : Int32))] 2 = mkF m 0 #[.val (.ref x0), .val (.int (0 : Int32))] [] := by first | (simp [entryFrame, mkF, argsToLocals, Value.category]; done) | rfl
def QF_1_10_n (Z : State) (o1 : Addr) (a1 : Addr) (t1 : Addr) (kb : ClassId) (c0 : Int32) (ccs : Int32) (vF : Value) (h0 : Heap) (n0 : Nat) (v : Option Value) (h : Heap) (L : List Loc) : Prop := v = some (.int (-1 : Int32)) ∧ Fr n0 L ∧ Keep h0 h [o1]
set_option maxRecDepth 65536 in
set_option maxHeartbeats 40000000 in
theorem rmF_1_10_n (l : Launch) (Z : State) (a0 : Array Value) (hw : ∀ d ∈ tables_1, d.before a0 Z = true) (ws : List Jvm.Cond) (o1 : Addr) (a1 : Addr) (t1 : Addr) (kb : ClassId) (c0 : Int32) (ccs : Int32) (vF : Value) (h0 : Heap) (n0 : Nat) (Z0 : n0 ≤ h0.size) (E1 : Exa Z h0 o1 "com/example/dogwood/dogwood/model/yaml/Occurrences") (H1 : Fld Z h0 o1 "com/example/dogwood/dogwood/model/yaml/Occurrences" "from" "I" (.int (2147483647 : Int32))) (H2 : Fld Z h0 o1 "com/example/dogwood/dogwood/model/yaml/Occurrences" "found" "I" (.int (-1 : Int32))) (H3 : Fld Z h0 o1 "com/example/dogwood/dogwood/model/yaml/Occurrences" "text" "Ljava/lang/String;" (.ref a1)) (H4 : Fld Z h0 o1 "com/example/dogwood/dogwood/model/yaml/Occurrences" "c" "C" (.int (10 : Int32))) (g1 : n0 ≤ o1) (E2 : Exa Z h0 a1 "java/lang/String") (G1 : Fld Z h0 a1 "java/lang/String" "value" "[B" (.ref t1)) (G2 : Fld Z h0 a1 "java/lang/String" "coder" "B" (.int (0 : Int32))) (V2 : Arv Z h0 t1 kb .byte (1 : Int32) [(.int (nar .byte (c0.toInt8.toInt32)))] (.int (0 : Int32))) (qe0 : (nar .byte (c0.toInt8.toInt32) = ((10 : Int32)).toInt8.toInt32) ↔ c0 = (10 : Int32)) (hix : ix1 c0 (10 : Int32) (0 : Int32) = (-1 : Int32)) (O0 : Old Z n0 h0) (S_CS : Sta Z Z.heap "java/lang/String" "COMPACT_STRINGS" "Z" (.int ccs)) (hcs : ¬ (ccs = (0 : Int32))) (S_AD : Sta Z Z.heap "java/lang/StringUTF16" "$assertionsDisabled" "Z" (.int (1 : Int32))) (S_HI : Sta Z Z.heap "java/lang/StringUTF16" "HI_BYTE_SHIFT" "I" (.int (0 : Int32))) (S_LO : Sta Z Z.heap "java/lang/StringUTF16" "LO_BYTE_SHIFT" "I" (.int (8 : Int32))) (S_SF : Sta Z Z.heap "jdk/internal/util/Preconditions" "SIOOBE_FORMATTER" "Ljava/util/function/BiFunction;" vF) (rF : vF.isRef = true) :
    MetFree l (⟨"com/example/dogwood/dogwood/model/yaml/Occurrences", "from", "(I)I"⟩ : MethodName) (head1 (Jvm.Cond.code (⟨"com/example/dogwood/dogwood/model/yaml/Occurrences", "from", "(I)I"⟩ : MethodName) prog_19_method_2_code 2 (some .int) :: ws) ({ frames := 4, cells := 0, slots := 0, locals := 75 } : Room)) (fun a U => a = #[(.ref o1), (.int (0 : Int32))] ∧ Z.Warmed39 U.vm ∧ U.heap = h0) (fun _ _ _ _ _ => True) (fun _ U o U' => ∃ v L, o = .returned v ∧ QF_1_10_n Z o1 a1 t1 kb c0 ccs vF h0 n0 v U'.heap L ∧ FrameEnd U o U' L ({ frames := 4, cells := 0, slots := 0, locals := 75 } : Room).cells ({ frames := 4, cells := 0, slots := 0, locals := 75 } : Room).slots) := by
  refine MetFree.of_bodySF (plainFor_of_name pn_com_example_dogwood_dogwood_model_yaml_Occurrences) hisR ?_
  intro p e s m args below meth c s₁ Bd hml0 hP hK
  obtain ⟨rfl, hZ, hh⟩ := hP
  have hx := Bd.exec
  have hby := Bd.bytes
  have hlk : meth.locks = false := Bd.notSynchronized
  have hml : c.maxLocals = 2 := hml0
  have hown : s.vm.findClass "com/example/dogwood/dogwood/model/yaml/Occurrences" = some m.cls := findClass_of_methodNamed Bd.named
  have hnm := (name_of_methodNamed Bd.named Bd.method).1
  have X0 : Stand p l e ({ frames := 4, cells := 0, slots := 0, locals := 75 } : Room) s m #[(.ref o1), (.int (0 : Int32))] below meth c s₁ [] 0 0 := Stand.of_body Bd
  have e0 : s₁.heap = h0 := by rw [← hh, Bd.state]; rfl
  have N0 := Fr.nil n0
  show Go p e below (FinE s below (QF_1_10_n Z o1 a1 t1 kb c0 ccs vF h0 n0) ({ frames := 4, cells := 0, slots := 0, locals := 75 } : Room).cells ({ frames := 4, cells := 0, slots := 0, locals := 75 } : Room).slots) (s₁.setTop (entryFrame m #[(.ref o1), (.int (0 : Int32))] 2))
  refine Go.via (fun t k => castTop (ef_rmF_1_10_n m o1) k) ?_
  show Go p e below _ (s₁.setTop (mkF m 0 #[.val (.ref o1), .val (.int (0 : Int32))] []))
  refine Go.via (fun _ => XS.iloadN X0.here hx rfl (hb hby d9_0) rfl) ?_
  show Go p e below _ (s₁.setTop (mkF m 1 #[.val (.ref o1), .val (.int (0 : Int32))] [(.int (0 : Int32))]))
  refine Go.via (fun _ => XS.aloadN X0.here hx rfl (hb hby d9_1) rfl rfl) ?_
  show Go p e below _ (s₁.setTop (mkF m 2 #[.val (.ref o1), .val (.int (0 : Int32))] [(.ref o1), (.int (0 : Int32))]))
  obtain ⟨T1, X1, e1, st1⟩ := getF X0 hx hZ hown (host := "") (Or.inl (hw _ (List.mem_of_getElem? (i := 39) rfl))) Via.refl e0 H1 (g := (mkF m 2 #[.val (.ref o1), .val (.int (0 : Int32))] [(.ref o1), (.int (0 : Int32))])) rfl rfl (hb hby d9_2)
  refine Go.via st1 ?_
  show Go p e below _ (T1.setTop (mkF m 5 #[.val (.ref o1), .val (.int (0 : Int32))] [(.int (2147483647 : Int32)), (.int (0 : Int32))]))
  refine Go.via (fun _ => XS.icmpYes X1.here hx rfl (pc0 := 5) (pc' := 23) rfl (hb hby d9_5) rfl (by decide) (by decide) (by decide)) ?_
  show Go p e below _ (T1.setTop (mkF m 23 #[.val (.ref o1), .val (.int (0 : Int32))] []))
  refine Go.via (fun _ => XS.aloadN X1.here hx rfl (hb hby d9_23) rfl rfl) ?_
  show Go p e below _ (T1.setTop (mkF m 24 #[.val (.ref o1), .val (.int (0 : Int32))] [(.ref o1)]))
  refine Go.via (fun _ => XS.aloadN X1.here hx rfl (hb hby d9_24) rfl rfl) ?_
  show Go p e below _ (T1.setTop (mkF m 25 #[.val (.ref o1), .val (.int (0 : Int32))] [(.ref o1), (.ref o1)]))
  obtain ⟨T2, X2, e2, st2⟩ := getF X1 hx hZ hown (host := "") (Or.inl (hw _ (List.mem_of_getElem? (i := 43) rfl))) Via.refl e1 H3 (g := (mkF m 25 #[.val (.ref o1), .val (.int (0 : Int32))] [(.ref o1), (.ref o1)])) rfl rfl (hb hby d9_25)
  refine Go.via st2 ?_
  show Go p e below _ (T2.setTop (mkF m 28 #[.val (.ref o1), .val (.int (0 : Int32))] [(.ref a1), (.ref o1)]))
  refine Go.via (fun _ => XS.aloadN X2.here hx rfl (hb hby d9_28) rfl rfl) ?_
  show Go p e below _ (T2.setTop (mkF m 29 #[.val (.ref o1), .val (.int (0 : Int32))] [(.ref o1), (.ref a1), (.ref o1)]))
  obtain ⟨T3, X3, e3, st3⟩ := getF X2 hx hZ hown (host := "") (Or.inl (hw _ (List.mem_of_getElem? (i := 45) rfl))) Via.refl e2 H4 (g := (mkF m 29 #[.val (.ref o1), .val (.int (0 : Int32))] [(.ref o1), (.ref a1), (.ref o1)])) rfl rfl (hb hby d9_29)
  refine Go.via st3 ?_
  show Go p e below _ (T3.setTop (mkF m 32 #[.val (.ref o1), .val (.int (0 : Int32))] [(.int (10 : Int32)), (.ref a1), (.ref o1)]))
  refine Go.via (fun _ => XS.iloadN X3.here hx rfl (hb hby d9_32) rfl) ?_
  show Go p e below _ (T3.setTop (mkF m 33 #[.val (.ref o1), .val (.int (0 : Int32))] [(.int (0 : Int32)), (.int (10 : Int32)), (.ref a1), (.ref o1)]))
  obtain ⟨cq4, kq4, q4a, q4b, q4c⟩ := isOf hZ e3 E2
  obtain ⟨_, _, ⟨T4, L4, k4, n4⟩, -, X4, ⟨Lc4, hQ4, l4, y4, z4⟩, st4⟩ := X3.virtualBack hx (y := (⟨"java/lang/String", "indexOf", "(II)I"⟩ : MethodName)) (z := (⟨"java/lang/String", "indexOf", "(II)I"⟩ : MethodName)) hown (mvT hZ (hw _ (List.mem_of_getElem? (i := 55) rfl))) (mvT hZ (hw _ (List.mem_of_getElem? (i := 56) rfl))) (notFace_of_selects (args := #[]) (mvT hZ (hw _ (List.mem_of_getElem? (i := 58) rfl)))) (mvT hZ (hw _ (List.mem_of_getElem? (i := 58) rfl))) (mvT hZ (hw _ (List.mem_of_getElem? (i := 57) rfl))) (by decide) (backOf (W := 1) (rmIxS_1_0 l Z a0 hw [] a1 t1 kb c0 (10 : Int32) ccs vF h0 n0 Z0 E2 G1 G2 V2 qe0 (by decide) (by decide) O0 S_CS hcs S_AD S_HI S_LO S_SF rF) hZ (hw _ (List.mem_of_getElem? (i := 59) rfl)) (hw _ (List.mem_of_getElem? (i := 7) rfl)) (by decide) (by decide)) q4a q4c (g := (mkF m 33 #[.val (.ref o1), .val (.int (0 : Int32))] [(.int (0 : Int32)), (.int (10 : Int32)), (.ref a1), (.ref o1)])) rfl (by rw [hml]; rfl) (Steps.refl _) (argsL := [(.int (10 : Int32)), (.int (0 : Int32))]) (rest := [(.ref o1)]) (lenOf pd_6 rfl) rfl (by show 2 * 0 + _ ≤ _; exact Nat.le_of_eq rfl) (hb hby d9_33) (fun _ _ => ⟨rfl, e3, (by decide : 0 + 0 ≤ _), (by decide : 0 + 0 ≤ _)⟩)
  dsimp only [Pt.U, Pt.locs, Pt.cells, Pt.slots] at X4 l4 y4 z4 st4 hQ4
  subst l4 y4 z4
  obtain ⟨rfl, N4q, e4q⟩ := hQ4
  have N4 := Fr.app N0 N4q
  refine Go.tr st4 ?_
  show Go p e below _ (T4.setTop (mkF m 36 #[.val (.ref o1), .val (.int (0 : Int32))] [(.int (ix1 c0 (10 : Int32) (0 : Int32))), (.ref o1)]))
  obtain ⟨T5, h5, X5, e5, W5, st5⟩ := putF X4 hx hZ hown (host := "") (Or.inl (hw _ (List.mem_of_getElem? (i := 41) rfl))) Via.refl e4q H2 E1 (Or.inl (hw _ (List.mem_of_getElem? (i := 42) rfl))) (hw _ (List.mem_of_getElem? (i := 32) rfl)) (ty := .int) (by decide) rfl rfl (g := (mkF m 36 #[.val (.ref o1), .val (.int (0 : Int32))] [(.int (ix1 c0 (10 : Int32) (0 : Int32))), (.ref o1)])) rfl rfl (hb hby d9_36)
  refine Go.via st5 ?_
  have fF_o1_found_5 : Fld Z h5 o1 "com/example/dogwood/dogwood/model/yaml/Occurrences" "found" "I" (.int (ix1 c0 (10 : Int32) (0 : Int32))) := H2.same W5
  have Zs5 : n0 ≤ h5.size := Nat.le_trans Z0 (Keep.of_wr W5).1
  have O5 : Old Z n0 h5 := O0.wr W5 g1
  have K5 : Keep h0 h5 [o1] := (Keep.refl h0 [o1]).wr W5 (Or.inl (List.mem_of_getElem? (i := 0) rfl))
  have N5 := Fr.snoc X5 N4 g1
  have fE_o1_5 := E1.wr W5
  have fF_o1_from_5 := H1.other W5 (Or.inr (slot_ne (Or.inl (hw _ (List.mem_of_getElem? (i := 40) rfl))) (Or.inl (hw _ (List.mem_of_getElem? (i := 42) rfl))) (by decide) (t := .int) (t' := .int) (by decide) (by decide)))
  have fF_o1_text_5 := H3.other W5 (Or.inr (slot_ne (Or.inr (hw _ (List.mem_of_getElem? (i := 44) rfl))) (Or.inl (hw _ (List.mem_of_getElem? (i := 42) rfl))) (by decide) (t := (.object "java/lang/String")) (t' := .int) (by decide) (by decide)))
  have fF_o1_c_5 := H4.other W5 (Or.inr (slot_ne (Or.inr (hw _ (List.mem_of_getElem? (i := 46) rfl))) (Or.inl (hw _ (List.mem_of_getElem? (i := 42) rfl))) (by decide) (t := .char) (t' := .int) (by decide) (by decide)))
  show Go p e below _ (T5.setTop (mkF m 39 #[.val (.ref o1), .val (.int (0 : Int32))] []))
  refine Go.via (fun _ => XS.aloadN X5.here hx rfl (hb hby d9_39) rfl rfl) ?_
  show Go p e below _ (T5.setTop (mkF m 40 #[.val (.ref o1), .val (.int (0 : Int32))] [(.ref o1)]))
  refine Go.via (fun _ => XS.iloadN X5.here hx rfl (hb hby d9_40) rfl) ?_
  show Go p e below _ (T5.setTop (mkF m 41 #[.val (.ref o1), .val (.int (0 : Int32))] [(.int (0 : Int32)), (.ref o1)]))
  obtain ⟨T6, h6, X6, e6, W6, st6⟩ := putF X5 hx hZ hown (host := "") (Or.inl (hw _ (List.mem_of_getElem? (i := 39) rfl))) Via.refl e5 fF_o1_from_5 fE_o1_5 (Or.inl (hw _ (List.mem_of_getElem? (i := 40) rfl))) (hw _ (List.mem_of_getElem? (i := 32) rfl)) (ty := .int) (by decide) rfl rfl (g := (mkF m 41 #[.val (.ref o1), .val (.int (0 : Int32))] [(.int (0 : Int32)), (.ref o1)])) rfl rfl (hb hby d9_41)
  refine Go.via st6 ?_
  have fF_o1_from_6 : Fld Z h6 o1 "com/example/dogwood/dogwood/model/yaml/Occurrences" "from" "I" (.int (0 : Int32)) := fF_o1_from_5.same W6
  have Zs6 : n0 ≤ h6.size := Nat.le_trans Zs5 (Keep.of_wr W6).1
  have O6 : Old Z n0 h6 := O5.wr W6 g1
  have K6 : Keep h0 h6 [o1] := K5.wr W6 (Or.inl (List.mem_of_getElem? (i := 0) rfl))
  have N6 := Fr.snoc X6 N5 g1
  have fE_o1_6 := fE_o1_5.wr W6
  have fF_o1_found_6 := fF_o1_found_5.other W6 (Or.inr (slot_ne (Or.inl (hw _ (List.mem_of_getElem? (i := 42) rfl))) (Or.inl (hw _ (List.mem_of_getElem? (i := 40) rfl))) (by decide) (t := .int) (t' := .int) (by decide) (by decide)))
  have fF_o1_text_6 := fF_o1_text_5.other W6 (Or.inr (slot_ne (Or.inr (hw _ (List.mem_of_getElem? (i := 44) rfl))) (Or.inl (hw _ (List.mem_of_getElem? (i := 40) rfl))) (by decide) (t := (.object "java/lang/String")) (t' := .int) (by decide) (by decide)))
  have fF_o1_c_6 := fF_o1_c_5.other W6 (Or.inr (slot_ne (Or.inr (hw _ (List.mem_of_getElem? (i := 46) rfl))) (Or.inl (hw _ (List.mem_of_getElem? (i := 40) rfl))) (by decide) (t := .char) (t' := .int) (by decide) (by decide)))
  show Go p e below _ (T6.setTop (mkF m 44 #[.val (.ref o1), .val (.int (0 : Int32))] []))
  refine Go.via (fun _ => XS.aloadN X6.here hx rfl (hb hby d9_44) rfl rfl) ?_
  show Go p e below _ (T6.setTop (mkF m 45 #[.val (.ref o1), .val (.int (0 : Int32))] [(.ref o1)]))
  obtain ⟨T7, X7, e7, st7⟩ := getF X6 hx hZ hown (host := "") (Or.inl (hw _ (List.mem_of_getElem? (i := 41) rfl))) Via.refl e6 fF_o1_found_6 (g := (mkF m 45 #[.val (.ref o1), .val (.int (0 : Int32))] [(.ref o1)])) rfl rfl (hb hby d9_45)
  refine Go.via st7 ?_
  show Go p e below _ (T7.setTop (mkF m 48 #[.val (.ref o1), .val (.int (0 : Int32))] [(.int (ix1 c0 (10 : Int32) (0 : Int32)))]))
  exact own_retI X7 hx hlk Bd.returns (hb hby d9_48) (by show QF_1_10_n Z o1 a1 t1 kb c0 ccs vF h0 n0 _ T7.heap _; rw [e7]; exact ⟨congrArg (fun z => some (Value.int z)) hix, N6, K6⟩) (by decide) (by decide)
theorem ef_rmF_1_13_y (m : MethodId) (x0 : Addr) : entryFrame m #[(.ref x0), (.int (0 : Int32))] 2 = mkF m 0 #[.val (.ref x0), .val (.int (0 : Int32))] [] := by first | (simp [entryFrame, mkF, argsToLocals, Value.category]; done) | rfl
def QF_1_13_y (Z : State) (o1 : Addr) (a1 : Addr) (t1 : Addr) (kb : ClassId) (c0 : Int32) (ccs : Int32) (vF : Value) (h0 : Heap) (n0 : Nat) (v : Option Value) (h : Heap) (L : List Loc) : Prop := v = some (.int (0 : Int32)) ∧ Fr n0 L ∧ Keep h0 h [o1]
set_option maxRecDepth 65536 in
set_option maxHeartbeats 40000000 in
theorem rmF_1_13_y (l : Launch) (Z : State) (a0 : Array Value) (hw : ∀ d ∈ tables_1, d.before a0 Z = true) (ws : List Jvm.Cond) (o1 : Addr) (a1 : Addr) (t1 : Addr) (kb : ClassId) (c0 : Int32) (ccs : Int32) (vF : Value) (h0 : Heap) (n0 : Nat) (Z0 : n0 ≤ h0.size) (E1 : Exa Z h0 o1 "com/example/dogwood/dogwood/model/yaml/Occurrences") (H1 : Fld Z h0 o1 "com/example/dogwood/dogwood/model/yaml/Occurrences" "from" "I" (.int (2147483647 : Int32))) (H2 : Fld Z h0 o1 "com/example/dogwood/dogwood/model/yaml/Occurrences" "found" "I" (.int (-1 : Int32))) (H3 : Fld Z h0 o1 "com/example/dogwood/dogwood/model/yaml/Occurrences" "text" "Ljava/lang/String;" (.ref a1)) (H4 : Fld Z h0 o1 "com/example/dogwood/dogwood/model/yaml/Occurrences" "c" "C" (.int (13 : Int32))) (g1 : n0 ≤ o1) (E2 : Exa Z h0 a1 "java/lang/String") (G1 : Fld Z h0 a1 "java/lang/String" "value" "[B" (.ref t1)) (G2 : Fld Z h0 a1 "java/lang/String" "coder" "B" (.int (0 : Int32))) (V2 : Arv Z h0 t1 kb .byte (1 : Int32) [(.int (nar .byte (c0.toInt8.toInt32)))] (.int (0 : Int32))) (qe0 : (nar .byte (c0.toInt8.toInt32) = ((13 : Int32)).toInt8.toInt32) ↔ c0 = (13 : Int32)) (hix : ix1 c0 (13 : Int32) (0 : Int32) = (0 : Int32)) (O0 : Old Z n0 h0) (S_CS : Sta Z Z.heap "java/lang/String" "COMPACT_STRINGS" "Z" (.int ccs)) (hcs : ¬ (ccs = (0 : Int32))) (S_AD : Sta Z Z.heap "java/lang/StringUTF16" "$assertionsDisabled" "Z" (.int (1 : Int32))) (S_HI : Sta Z Z.heap "java/lang/StringUTF16" "HI_BYTE_SHIFT" "I" (.int (0 : Int32))) (S_LO : Sta Z Z.heap "java/lang/StringUTF16" "LO_BYTE_SHIFT" "I" (.int (8 : Int32))) (S_SF : Sta Z Z.heap "jdk/internal/util/Preconditions" "SIOOBE_FORMATTER" "Ljava/util/function/BiFunction;" vF) (rF : vF.isRef = true) :
    MetFree l (⟨"com/example/dogwood/dogwood/model/yaml/Occurrences", "from", "(I)I"⟩ : MethodName) (head1 (Jvm.Cond.code (⟨"com/example/dogwood/dogwood/model/yaml/Occurrences", "from", "(I)I"⟩ : MethodName) prog_19_method_2_code 2 (some .int) :: ws) ({ frames := 4, cells := 0, slots := 0, locals := 75 } : Room)) (fun a U => a = #[(.ref o1), (.int (0 : Int32))] ∧ Z.Warmed39 U.vm ∧ U.heap = h0) (fun _ _ _ _ _ => True) (fun _ U o U' => ∃ v L, o = .returned v ∧ QF_1_13_y Z o1 a1 t1 kb c0 ccs vF h0 n0 v U'.heap L ∧ FrameEnd U o U' L ({ frames := 4, cells := 0, slots := 0, locals := 75 } : Room).cells ({ frames := 4, cells := 0, slots := 0, locals := 75 } : Room).slots) := by
  refine MetFree.of_bodySF (plainFor_of_name pn_com_example_dogwood_dogwood_model_yaml_Occurrences) hisR ?_
  intro p e s m args below meth c s₁ Bd hml0 hP hK
  obtain ⟨rfl, hZ, hh⟩ := hP
  have hx := Bd.exec
  have hby := Bd.bytes
  have hlk : meth.locks = false := Bd.notSynchronized
  have hml : c.maxLocals = 2 := hml0
  have hown : s.vm.findClass "com/example/dogwood/dogwood/model/yaml/Occurrences" = some m.cls := findClass_of_methodNamed Bd.named
  have hnm := (name_of_methodNamed Bd.named Bd.method).1
  have X0 : Stand p l e ({ frames := 4, cells := 0, slots := 0, locals := 75 } : Room) s m #[(.ref o1), (.int (0 : Int32))] below meth c s₁ [] 0 0 := Stand.of_body Bd
  have e0 : s₁.heap = h0 := by rw [← hh, Bd.state]; rfl
  have N0 := Fr.nil n0
  show Go p e below (FinE s below (QF_1_13_y Z o1 a1 t1 kb c0 ccs vF h0 n0) ({ frames := 4, cells := 0, slots := 0, locals := 75 } : Room).cells ({ frames := 4, cells := 0, slots := 0, locals := 75 } : Room).slots) (s₁.setTop (entryFrame m #[(.ref o1), (.int (0 : Int32))] 2))
  refine Go.via (fun t k => castTop (ef_rmF_1_13_y m o1) k) ?_
  show Go p e below _ (s₁.setTop (mkF m 0 #[.val (.ref o1), .val (.int (0 : Int32))] []))
  refine Go.via (fun _ => XS.iloadN X0.here hx rfl (hb hby d9_0) rfl) ?_
  show Go p e below _ (s₁.setTop (mkF m 1 #[.val (.ref o1), .val (.int (0 : Int32))] [(.int (0 : Int32))]))
  refine Go.via (fun _ => XS.aloadN X0.here hx rfl (hb hby d9_1) rfl rfl) ?_
  show Go p e below _ (s₁.setTop (mkF m 2 #[.val (.ref o1), .val (.int (0 : Int32))] [(.ref o1), (.int (0 : Int32))]))
  obtain ⟨T1, X1, e1, st1⟩ := getF X0 hx hZ hown (host := "") (Or.inl (hw _ (List.mem_of_getElem? (i := 39) rfl))) Via.refl e0 H1 (g := (mkF m 2 #[.val (.ref o1), .val (.int (0 : Int32))] [(.ref o1), (.int (0 : Int32))])) rfl rfl (hb hby d9_2)
  refine Go.via st1 ?_
  show Go p e below _ (T1.setTop (mkF m 5 #[.val (.ref o1), .val (.int (0 : Int32))] [(.int (2147483647 : Int32)), (.int (0 : Int32))]))
  refine Go.via (fun _ => XS.icmpYes X1.here hx rfl (pc0 := 5) (pc' := 23) rfl (hb hby d9_5) rfl (by decide) (by decide) (by decide)) ?_
  show Go p e below _ (T1.setTop (mkF m 23 #[.val (.ref o1), .val (.int (0 : Int32))] []))
  refine Go.via (fun _ => XS.aloadN X1.here hx rfl (hb hby d9_23) rfl rfl) ?_
  show Go p e below _ (T1.setTop (mkF m 24 #[.val (.ref o1), .val (.int (0 : Int32))] [(.ref o1)]))
  refine Go.via (fun _ => XS.aloadN X1.here hx rfl (hb hby d9_24) rfl rfl) ?_
  show Go p e below _ (T1.setTop (mkF m 25 #[.val (.ref o1), .val (.int (0 : Int32))] [(.ref o1), (.ref o1)]))
  obtain ⟨T2, X2, e2, st2⟩ := getF X1 hx hZ hown (host := "") (Or.inl (hw _ (List.mem_of_getElem? (i := 43) rfl))) Via.refl e1 H3 (g := (mkF m 25 #[.val (.ref o1), .val (.int (0 : Int32))] [(.ref o1), (.ref o1)])) rfl rfl (hb hby d9_25)
  refine Go.via st2 ?_
  show Go p e below _ (T2.setTop (mkF m 28 #[.val (.ref o1), .val (.int (0 : Int32))] [(.ref a1), (.ref o1)]))
  refine Go.via (fun _ => XS.aloadN X2.here hx rfl (hb hby d9_28) rfl rfl) ?_
  show Go p e below _ (T2.setTop (mkF m 29 #[.val (.ref o1), .val (.int (0 : Int32))] [(.ref o1), (.ref a1), (.ref o1)]))
  obtain ⟨T3, X3, e3, st3⟩ := getF X2 hx hZ hown (host := "") (Or.inl (hw _ (List.mem_of_getElem? (i := 45) rfl))) Via.refl e2 H4 (g := (mkF m 29 #[.val (.ref o1), .val (.int (0 : Int32))] [(.ref o1), (.ref a1), (.ref o1)])) rfl rfl (hb hby d9_29)
  refine Go.via st3 ?_
  show Go p e below _ (T3.setTop (mkF m 32 #[.val (.ref o1), .val (.int (0 : Int32))] [(.int (13 : Int32)), (.ref a1), (.ref o1)]))
  refine Go.via (fun _ => XS.iloadN X3.here hx rfl (hb hby d9_32) rfl) ?_
  show Go p e below _ (T3.setTop (mkF m 33 #[.val (.ref o1), .val (.int (0 : Int32))] [(.int (0 : Int32)), (.int (13 : Int32)), (.ref a1), (.ref o1)]))
  obtain ⟨cq4, kq4, q4a, q4b, q4c⟩ := isOf hZ e3 E2
  obtain ⟨_, _, ⟨T4, L4, k4, n4⟩, -, X4, ⟨Lc4, hQ4, l4, y4, z4⟩, st4⟩ := X3.virtualBack hx (y := (⟨"java/lang/String", "indexOf", "(II)I"⟩ : MethodName)) (z := (⟨"java/lang/String", "indexOf", "(II)I"⟩ : MethodName)) hown (mvT hZ (hw _ (List.mem_of_getElem? (i := 55) rfl))) (mvT hZ (hw _ (List.mem_of_getElem? (i := 56) rfl))) (notFace_of_selects (args := #[]) (mvT hZ (hw _ (List.mem_of_getElem? (i := 58) rfl)))) (mvT hZ (hw _ (List.mem_of_getElem? (i := 58) rfl))) (mvT hZ (hw _ (List.mem_of_getElem? (i := 57) rfl))) (by decide) (backOf (W := 1) (rmIxS_1_0 l Z a0 hw [] a1 t1 kb c0 (13 : Int32) ccs vF h0 n0 Z0 E2 G1 G2 V2 qe0 (by decide) (by decide) O0 S_CS hcs S_AD S_HI S_LO S_SF rF) hZ (hw _ (List.mem_of_getElem? (i := 59) rfl)) (hw _ (List.mem_of_getElem? (i := 7) rfl)) (by decide) (by decide)) q4a q4c (g := (mkF m 33 #[.val (.ref o1), .val (.int (0 : Int32))] [(.int (0 : Int32)), (.int (13 : Int32)), (.ref a1), (.ref o1)])) rfl (by rw [hml]; rfl) (Steps.refl _) (argsL := [(.int (13 : Int32)), (.int (0 : Int32))]) (rest := [(.ref o1)]) (lenOf pd_6 rfl) rfl (by show 2 * 0 + _ ≤ _; exact Nat.le_of_eq rfl) (hb hby d9_33) (fun _ _ => ⟨rfl, e3, (by decide : 0 + 0 ≤ _), (by decide : 0 + 0 ≤ _)⟩)
  dsimp only [Pt.U, Pt.locs, Pt.cells, Pt.slots] at X4 l4 y4 z4 st4 hQ4
  subst l4 y4 z4
  obtain ⟨rfl, N4q, e4q⟩ := hQ4
  have N4 := Fr.app N0 N4q
  refine Go.tr st4 ?_
  show Go p e below _ (T4.setTop (mkF m 36 #[.val (.ref o1), .val (.int (0 : Int32))] [(.int (ix1 c0 (13 : Int32) (0 : Int32))), (.ref o1)]))
  obtain ⟨T5, h5, X5, e5, W5, st5⟩ := putF X4 hx hZ hown (host := "") (Or.inl (hw _ (List.mem_of_getElem? (i := 41) rfl))) Via.refl e4q H2 E1 (Or.inl (hw _ (List.mem_of_getElem? (i := 42) rfl))) (hw _ (List.mem_of_getElem? (i := 32) rfl)) (ty := .int) (by decide) rfl rfl (g := (mkF m 36 #[.val (.ref o1), .val (.int (0 : Int32))] [(.int (ix1 c0 (13 : Int32) (0 : Int32))), (.ref o1)])) rfl rfl (hb hby d9_36)
  refine Go.via st5 ?_
  have fF_o1_found_5 : Fld Z h5 o1 "com/example/dogwood/dogwood/model/yaml/Occurrences" "found" "I" (.int (ix1 c0 (13 : Int32) (0 : Int32))) := H2.same W5
  have Zs5 : n0 ≤ h5.size := Nat.le_trans Z0 (Keep.of_wr W5).1
  have O5 : Old Z n0 h5 := O0.wr W5 g1
  have K5 : Keep h0 h5 [o1] := (Keep.refl h0 [o1]).wr W5 (Or.inl (List.mem_of_getElem? (i := 0) rfl))
  have N5 := Fr.snoc X5 N4 g1
  have fE_o1_5 := E1.wr W5
  have fF_o1_from_5 := H1.other W5 (Or.inr (slot_ne (Or.inl (hw _ (List.mem_of_getElem? (i := 40) rfl))) (Or.inl (hw _ (List.mem_of_getElem? (i := 42) rfl))) (by decide) (t := .int) (t' := .int) (by decide) (by decide)))
  have fF_o1_text_5 := H3.other W5 (Or.inr (slot_ne (Or.inr (hw _ (List.mem_of_getElem? (i := 44) rfl))) (Or.inl (hw _ (List.mem_of_getElem? (i := 42) rfl))) (by decide) (t := (.object "java/lang/String")) (t' := .int) (by decide) (by decide)))
  have fF_o1_c_5 := H4.other W5 (Or.inr (slot_ne (Or.inr (hw _ (List.mem_of_getElem? (i := 46) rfl))) (Or.inl (hw _ (List.mem_of_getElem? (i := 42) rfl))) (by decide) (t := .char) (t' := .int) (by decide) (by decide)))
  show Go p e below _ (T5.setTop (mkF m 39 #[.val (.ref o1), .val (.int (0 : Int32))] []))
  refine Go.via (fun _ => XS.aloadN X5.here hx rfl (hb hby d9_39) rfl rfl) ?_
  show Go p e below _ (T5.setTop (mkF m 40 #[.val (.ref o1), .val (.int (0 : Int32))] [(.ref o1)]))
  refine Go.via (fun _ => XS.iloadN X5.here hx rfl (hb hby d9_40) rfl) ?_
  show Go p e below _ (T5.setTop (mkF m 41 #[.val (.ref o1), .val (.int (0 : Int32))] [(.int (0 : Int32)), (.ref o1)]))
  obtain ⟨T6, h6, X6, e6, W6, st6⟩ := putF X5 hx hZ hown (host := "") (Or.inl (hw _ (List.mem_of_getElem? (i := 39) rfl))) Via.refl e5 fF_o1_from_5 fE_o1_5 (Or.inl (hw _ (List.mem_of_getElem? (i := 40) rfl))) (hw _ (List.mem_of_getElem? (i := 32) rfl)) (ty := .int) (by decide) rfl rfl (g := (mkF m 41 #[.val (.ref o1), .val (.int (0 : Int32))] [(.int (0 : Int32)), (.ref o1)])) rfl rfl (hb hby d9_41)
  refine Go.via st6 ?_
  have fF_o1_from_6 : Fld Z h6 o1 "com/example/dogwood/dogwood/model/yaml/Occurrences" "from" "I" (.int (0 : Int32)) := fF_o1_from_5.same W6
  have Zs6 : n0 ≤ h6.size := Nat.le_trans Zs5 (Keep.of_wr W6).1
  have O6 : Old Z n0 h6 := O5.wr W6 g1
  have K6 : Keep h0 h6 [o1] := K5.wr W6 (Or.inl (List.mem_of_getElem? (i := 0) rfl))
  have N6 := Fr.snoc X6 N5 g1
  have fE_o1_6 := fE_o1_5.wr W6
  have fF_o1_found_6 := fF_o1_found_5.other W6 (Or.inr (slot_ne (Or.inl (hw _ (List.mem_of_getElem? (i := 42) rfl))) (Or.inl (hw _ (List.mem_of_getElem? (i := 40) rfl))) (by decide) (t := .int) (t' := .int) (by decide) (by decide)))
  have fF_o1_text_6 := fF_o1_text_5.other W6 (Or.inr (slot_ne (Or.inr (hw _ (List.mem_of_getElem? (i := 44) rfl))) (Or.inl (hw _ (List.mem_of_getElem? (i := 40) rfl))) (by decide) (t := (.object "java/lang/String")) (t' := .int) (by decide) (by decide)))
  have fF_o1_c_6 := fF_o1_c_5.other W6 (Or.inr (slot_ne (Or.inr (hw _ (List.mem_of_getElem? (i := 46) rfl))) (Or.inl (hw _ (List.mem_of_getElem? (i := 40) rfl))) (by decide) (t := .char) (t' := .int) (by decide) (by decide)))
  show Go p e below _ (T6.setTop (mkF m 44 #[.val (.ref o1), .val (.int (0 : Int32))] []))
  refine Go.via (fun _ => XS.aloadN X6.here hx rfl (hb hby d9_44) rfl rfl) ?_
  show Go p e below _ (T6.setTop (mkF m 45 #[.val (.ref o1), .val (.int (0 : Int32))] [(.ref o1)]))
  obtain ⟨T7, X7, e7, st7⟩ := getF X6 hx hZ hown (host := "") (Or.inl (hw _ (List.mem_of_getElem? (i := 41) rfl))) Via.refl e6 fF_o1_found_6 (g := (mkF m 45 #[.val (.ref o1), .val (.int (0 : Int32))] [(.ref o1)])) rfl rfl (hb hby d9_45)
  refine Go.via st7 ?_
  show Go p e below _ (T7.setTop (mkF m 48 #[.val (.ref o1), .val (.int (0 : Int32))] [(.int (ix1 c0 (13 : Int32) (0 : Int32)))]))
  exact own_retI X7 hx hlk Bd.returns (hb hby d9_48) (by show QF_1_13_y Z o1 a1 t1 kb c0 ccs vF h0 n0 _ T7.heap _; rw [e7]; exact ⟨congrArg (fun z => some (Value.int z)) hix, N6, K6⟩) (by decide) (by decide)
theorem ef_rmF_1_13_n (m : MethodId) (x0 : Addr) : entryFrame m #[(.ref x0), (.int (0 : Int32))] 2 = mkF m 0 #[.val (.ref x0), .val (.int (0 : Int32))] [] := by first | (simp [entryFrame, mkF, argsToLocals, Value.category]; done) | rfl
def QF_1_13_n (Z : State) (o1 : Addr) (a1 : Addr) (t1 : Addr) (kb : ClassId) (c0 : Int32) (ccs : Int32) (vF : Value) (h0 : Heap) (n0 : Nat) (v : Option Value) (h : Heap) (L : List Loc) : Prop := v = some (.int (-1 : Int32)) ∧ Fr n0 L ∧ Keep h0 h [o1]
set_option maxRecDepth 65536 in
set_option maxHeartbeats 40000000 in
theorem rmF_1_13_n (l : Launch) (Z : State) (a0 : Array Value) (hw : ∀ d ∈ tables_1, d.before a0 Z = true) (ws : List Jvm.Cond) (o1 : Addr) (a1 : Addr) (t1 : Addr) (kb : ClassId) (c0 : Int32) (ccs : Int32) (vF : Value) (h0 : Heap) (n0 : Nat) (Z0 : n0 ≤ h0.size) (E1 : Exa Z h0 o1 "com/example/dogwood/dogwood/model/yaml/Occurrences") (H1 : Fld Z h0 o1 "com/example/dogwood/dogwood/model/yaml/Occurrences" "from" "I" (.int (2147483647 : Int32))) (H2 : Fld Z h0 o1 "com/example/dogwood/dogwood/model/yaml/Occurrences" "found" "I" (.int (-1 : Int32))) (H3 : Fld Z h0 o1 "com/example/dogwood/dogwood/model/yaml/Occurrences" "text" "Ljava/lang/String;" (.ref a1)) (H4 : Fld Z h0 o1 "com/example/dogwood/dogwood/model/yaml/Occurrences" "c" "C" (.int (13 : Int32))) (g1 : n0 ≤ o1) (E2 : Exa Z h0 a1 "java/lang/String") (G1 : Fld Z h0 a1 "java/lang/String" "value" "[B" (.ref t1)) (G2 : Fld Z h0 a1 "java/lang/String" "coder" "B" (.int (0 : Int32))) (V2 : Arv Z h0 t1 kb .byte (1 : Int32) [(.int (nar .byte (c0.toInt8.toInt32)))] (.int (0 : Int32))) (qe0 : (nar .byte (c0.toInt8.toInt32) = ((13 : Int32)).toInt8.toInt32) ↔ c0 = (13 : Int32)) (hix : ix1 c0 (13 : Int32) (0 : Int32) = (-1 : Int32)) (O0 : Old Z n0 h0) (S_CS : Sta Z Z.heap "java/lang/String" "COMPACT_STRINGS" "Z" (.int ccs)) (hcs : ¬ (ccs = (0 : Int32))) (S_AD : Sta Z Z.heap "java/lang/StringUTF16" "$assertionsDisabled" "Z" (.int (1 : Int32))) (S_HI : Sta Z Z.heap "java/lang/StringUTF16" "HI_BYTE_SHIFT" "I" (.int (0 : Int32))) (S_LO : Sta Z Z.heap "java/lang/StringUTF16" "LO_BYTE_SHIFT" "I" (.int (8 : Int32))) (S_SF : Sta Z Z.heap "jdk/internal/util/Preconditions" "SIOOBE_FORMATTER" "Ljava/util/function/BiFunction;" vF) (rF : vF.isRef = true) :
    MetFree l (⟨"com/example/dogwood/dogwood/model/yaml/Occurrences", "from", "(I)I"⟩ : MethodName) (head1 (Jvm.Cond.code (⟨"com/example/dogwood/dogwood/model/yaml/Occurrences", "from", "(I)I"⟩ : MethodName) prog_19_method_2_code 2 (some .int) :: ws) ({ frames := 4, cells := 0, slots := 0, locals := 75 } : Room)) (fun a U => a = #[(.ref o1), (.int (0 : Int32))] ∧ Z.Warmed39 U.vm ∧ U.heap = h0) (fun _ _ _ _ _ => True) (fun _ U o U' => ∃ v L, o = .returned v ∧ QF_1_13_n Z o1 a1 t1 kb c0 ccs vF h0 n0 v U'.heap L ∧ FrameEnd U o U' L ({ frames := 4, cells := 0, slots := 0, locals := 75 } : Room).cells ({ frames := 4, cells := 0, slots := 0, locals := 75 } : Room).slots) := by
  refine MetFree.of_bodySF (plainFor_of_name pn_com_example_dogwood_dogwood_model_yaml_Occurrences) hisR ?_
  intro p e s m args below meth c s₁ Bd hml0 hP hK
  obtain ⟨rfl, hZ, hh⟩ := hP
  have hx := Bd.exec
  have hby := Bd.bytes
  have hlk : meth.locks = false := Bd.notSynchronized
  have hml : c.maxLocals = 2 := hml0
  have hown : s.vm.findClass "com/example/dogwood/dogwood/model/yaml/Occurrences" = some m.cls := findClass_of_methodNamed Bd.named
  have hnm := (name_of_methodNamed Bd.named Bd.method).1
  have X0 : Stand p l e ({ frames := 4, cells := 0, slots := 0, locals := 75 } : Room) s m #[(.ref o1), (.int (0 : Int32))] below meth c s₁ [] 0 0 := Stand.of_body Bd
  have e0 : s₁.heap = h0 := by rw [← hh, Bd.state]; rfl
  have N0 := Fr.nil n0
  show Go p e below (FinE s below (QF_1_13_n Z o1 a1 t1 kb c0 ccs vF h0 n0) ({ frames := 4, cells := 0, slots := 0, locals := 75 } : Room).cells ({ frames := 4, cells := 0, slots := 0, locals := 75 } : Room).slots) (s₁.setTop (entryFrame m #[(.ref o1), (.int (0 : Int32))] 2))
  refine Go.via (fun t k => castTop (ef_rmF_1_13_n m o1) k) ?_
  show Go p e below _ (s₁.setTop (mkF m 0 #[.val (.ref o1), .val (.int (0 : Int32))] []))
  refine Go.via (fun _ => XS.iloadN X0.here hx rfl (hb hby d9_0) rfl) ?_
  show Go p e below _ (s₁.setTop (mkF m 1 #[.val (.ref o1), .val (.int (0 : Int32))] [(.int (0 : Int32))]))
  refine Go.via (fun _ => XS.aloadN X0.here hx rfl (hb hby d9_1) rfl rfl) ?_
  show Go p e below _ (s₁.setTop (mkF m 2 #[.val (.ref o1), .val (.int (0 : Int32))] [(.ref o1), (.int (0 : Int32))]))
  obtain ⟨T1, X1, e1, st1⟩ := getF X0 hx hZ hown (host := "") (Or.inl (hw _ (List.mem_of_getElem? (i := 39) rfl))) Via.refl e0 H1 (g := (mkF m 2 #[.val (.ref o1), .val (.int (0 : Int32))] [(.ref o1), (.int (0 : Int32))])) rfl rfl (hb hby d9_2)
  refine Go.via st1 ?_
  show Go p e below _ (T1.setTop (mkF m 5 #[.val (.ref o1), .val (.int (0 : Int32))] [(.int (2147483647 : Int32)), (.int (0 : Int32))]))
  refine Go.via (fun _ => XS.icmpYes X1.here hx rfl (pc0 := 5) (pc' := 23) rfl (hb hby d9_5) rfl (by decide) (by decide) (by decide)) ?_
  show Go p e below _ (T1.setTop (mkF m 23 #[.val (.ref o1), .val (.int (0 : Int32))] []))
  refine Go.via (fun _ => XS.aloadN X1.here hx rfl (hb hby d9_23) rfl rfl) ?_
  show Go p e below _ (T1.setTop (mkF m 24 #[.val (.ref o1), .val (.int (0 : Int32))] [(.ref o1)]))
  refine Go.via (fun _ => XS.aloadN X1.here hx rfl (hb hby d9_24) rfl rfl) ?_
  show Go p e below _ (T1.setTop (mkF m 25 #[.val (.ref o1), .val (.int (0 : Int32))] [(.ref o1), (.ref o1)]))
  obtain ⟨T2, X2, e2, st2⟩ := getF X1 hx hZ hown (host := "") (Or.inl (hw _ (List.mem_of_getElem? (i := 43) rfl))) Via.refl e1 H3 (g := (mkF m 25 #[.val (.ref o1), .val (.int (0 : Int32))] [(.ref o1), (.ref o1)])) rfl rfl (hb hby d9_25)
  refine Go.via st2 ?_
  show Go p e below _ (T2.setTop (mkF m 28 #[.val (.ref o1), .val (.int (0 : Int32))] [(.ref a1), (.ref o1)]))
  refine Go.via (fun _ => XS.aloadN X2.here hx rfl (hb hby d9_28) rfl rfl) ?_
  show Go p e below _ (T2.setTop (mkF m 29 #[.val (.ref o1), .val (.int (0 : Int32))] [(.ref o1), (.ref a1), (.ref o1)]))
  obtain ⟨T3, X3, e3, st3⟩ := getF X2 hx hZ hown (host := "") (Or.inl (hw _ (List.mem_of_getElem? (i := 45) rfl))) Via.refl e2 H4 (g := (mkF m 29 #[.val (.ref o1), .val (.int (0 : Int32))] [(.ref o1), (.ref a1), (.ref o1)])) rfl rfl (hb hby d9_29)
  refine Go.via st3 ?_
  show Go p e below _ (T3.setTop (mkF m 32 #[.val (.ref o1), .val (.int (0 : Int32))] [(.int (13 : Int32)), (.ref a1), (.ref o1)]))
  refine Go.via (fun _ => XS.iloadN X3.here hx rfl (hb hby d9_32) rfl) ?_
  show Go p e below _ (T3.setTop (mkF m 33 #[.val (.ref o1), .val (.int (0 : Int32))] [(.int (0 : Int32)), (.int (13 : Int32)), (.ref a1), (.ref o1)]))
  obtain ⟨cq4, kq4, q4a, q4b, q4c⟩ := isOf hZ e3 E2
  obtain ⟨_, _, ⟨T4, L4, k4, n4⟩, -, X4, ⟨Lc4, hQ4, l4, y4, z4⟩, st4⟩ := X3.virtualBack hx (y := (⟨"java/lang/String", "indexOf", "(II)I"⟩ : MethodName)) (z := (⟨"java/lang/String", "indexOf", "(II)I"⟩ : MethodName)) hown (mvT hZ (hw _ (List.mem_of_getElem? (i := 55) rfl))) (mvT hZ (hw _ (List.mem_of_getElem? (i := 56) rfl))) (notFace_of_selects (args := #[]) (mvT hZ (hw _ (List.mem_of_getElem? (i := 58) rfl)))) (mvT hZ (hw _ (List.mem_of_getElem? (i := 58) rfl))) (mvT hZ (hw _ (List.mem_of_getElem? (i := 57) rfl))) (by decide) (backOf (W := 1) (rmIxS_1_0 l Z a0 hw [] a1 t1 kb c0 (13 : Int32) ccs vF h0 n0 Z0 E2 G1 G2 V2 qe0 (by decide) (by decide) O0 S_CS hcs S_AD S_HI S_LO S_SF rF) hZ (hw _ (List.mem_of_getElem? (i := 59) rfl)) (hw _ (List.mem_of_getElem? (i := 7) rfl)) (by decide) (by decide)) q4a q4c (g := (mkF m 33 #[.val (.ref o1), .val (.int (0 : Int32))] [(.int (0 : Int32)), (.int (13 : Int32)), (.ref a1), (.ref o1)])) rfl (by rw [hml]; rfl) (Steps.refl _) (argsL := [(.int (13 : Int32)), (.int (0 : Int32))]) (rest := [(.ref o1)]) (lenOf pd_6 rfl) rfl (by show 2 * 0 + _ ≤ _; exact Nat.le_of_eq rfl) (hb hby d9_33) (fun _ _ => ⟨rfl, e3, (by decide : 0 + 0 ≤ _), (by decide : 0 + 0 ≤ _)⟩)
  dsimp only [Pt.U, Pt.locs, Pt.cells, Pt.slots] at X4 l4 y4 z4 st4 hQ4
  subst l4 y4 z4
  obtain ⟨rfl, N4q, e4q⟩ := hQ4
  have N4 := Fr.app N0 N4q
  refine Go.tr st4 ?_
  show Go p e below _ (T4.setTop (mkF m 36 #[.val (.ref o1), .val (.int (0 : Int32))] [(.int (ix1 c0 (13 : Int32) (0 : Int32))), (.ref o1)]))
  obtain ⟨T5, h5, X5, e5, W5, st5⟩ := putF X4 hx hZ hown (host := "") (Or.inl (hw _ (List.mem_of_getElem? (i := 41) rfl))) Via.refl e4q H2 E1 (Or.inl (hw _ (List.mem_of_getElem? (i := 42) rfl))) (hw _ (List.mem_of_getElem? (i := 32) rfl)) (ty := .int) (by decide) rfl rfl (g := (mkF m 36 #[.val (.ref o1), .val (.int (0 : Int32))] [(.int (ix1 c0 (13 : Int32) (0 : Int32))), (.ref o1)])) rfl rfl (hb hby d9_36)
  refine Go.via st5 ?_
  have fF_o1_found_5 : Fld Z h5 o1 "com/example/dogwood/dogwood/model/yaml/Occurrences" "found" "I" (.int (ix1 c0 (13 : Int32) (0 : Int32))) := H2.same W5
  have Zs5 : n0 ≤ h5.size := Nat.le_trans Z0 (Keep.of_wr W5).1
  have O5 : Old Z n0 h5 := O0.wr W5 g1
  have K5 : Keep h0 h5 [o1] := (Keep.refl h0 [o1]).wr W5 (Or.inl (List.mem_of_getElem? (i := 0) rfl))
  have N5 := Fr.snoc X5 N4 g1
  have fE_o1_5 := E1.wr W5
  have fF_o1_from_5 := H1.other W5 (Or.inr (slot_ne (Or.inl (hw _ (List.mem_of_getElem? (i := 40) rfl))) (Or.inl (hw _ (List.mem_of_getElem? (i := 42) rfl))) (by decide) (t := .int) (t' := .int) (by decide) (by decide)))
  have fF_o1_text_5 := H3.other W5 (Or.inr (slot_ne (Or.inr (hw _ (List.mem_of_getElem? (i := 44) rfl))) (Or.inl (hw _ (List.mem_of_getElem? (i := 42) rfl))) (by decide) (t := (.object "java/lang/String")) (t' := .int) (by decide) (by decide)))
  have fF_o1_c_5 := H4.other W5 (Or.inr (slot_ne (Or.inr (hw _ (List.mem_of_getElem? (i := 46) rfl))) (Or.inl (hw _ (List.mem_of_getElem? (i := 42) rfl))) (by decide) (t := .char) (t' := .int) (by decide) (by decide)))
  show Go p e below _ (T5.setTop (mkF m 39 #[.val (.ref o1), .val (.int (0 : Int32))] []))
  refine Go.via (fun _ => XS.aloadN X5.here hx rfl (hb hby d9_39) rfl rfl) ?_
  show Go p e below _ (T5.setTop (mkF m 40 #[.val (.ref o1), .val (.int (0 : Int32))] [(.ref o1)]))
  refine Go.via (fun _ => XS.iloadN X5.here hx rfl (hb hby d9_40) rfl) ?_
  show Go p e below _ (T5.setTop (mkF m 41 #[.val (.ref o1), .val (.int (0 : Int32))] [(.int (0 : Int32)), (.ref o1)]))
  obtain ⟨T6, h6, X6, e6, W6, st6⟩ := putF X5 hx hZ hown (host := "") (Or.inl (hw _ (List.mem_of_getElem? (i := 39) rfl))) Via.refl e5 fF_o1_from_5 fE_o1_5 (Or.inl (hw _ (List.mem_of_getElem? (i := 40) rfl))) (hw _ (List.mem_of_getElem? (i := 32) rfl)) (ty := .int) (by decide) rfl rfl (g := (mkF m 41 #[.val (.ref o1), .val (.int (0 : Int32))] [(.int (0 : Int32)), (.ref o1)])) rfl rfl (hb hby d9_41)
  refine Go.via st6 ?_
  have fF_o1_from_6 : Fld Z h6 o1 "com/example/dogwood/dogwood/model/yaml/Occurrences" "from" "I" (.int (0 : Int32)) := fF_o1_from_5.same W6
  have Zs6 : n0 ≤ h6.size := Nat.le_trans Zs5 (Keep.of_wr W6).1
  have O6 : Old Z n0 h6 := O5.wr W6 g1
  have K6 : Keep h0 h6 [o1] := K5.wr W6 (Or.inl (List.mem_of_getElem? (i := 0) rfl))
  have N6 := Fr.snoc X6 N5 g1
  have fE_o1_6 := fE_o1_5.wr W6
  have fF_o1_found_6 := fF_o1_found_5.other W6 (Or.inr (slot_ne (Or.inl (hw _ (List.mem_of_getElem? (i := 42) rfl))) (Or.inl (hw _ (List.mem_of_getElem? (i := 40) rfl))) (by decide) (t := .int) (t' := .int) (by decide) (by decide)))
  have fF_o1_text_6 := fF_o1_text_5.other W6 (Or.inr (slot_ne (Or.inr (hw _ (List.mem_of_getElem? (i := 44) rfl))) (Or.inl (hw _ (List.mem_of_getElem? (i := 40) rfl))) (by decide) (t := (.object "java/lang/String")) (t' := .int) (by decide) (by decide)))
  have fF_o1_c_6 := fF_o1_c_5.other W6 (Or.inr (slot_ne (Or.inr (hw _ (List.mem_of_getElem? (i := 46) rfl))) (Or.inl (hw _ (List.mem_of_getElem? (i := 40) rfl))) (by decide) (t := .char) (t' := .int) (by decide) (by decide)))
  show Go p e below _ (T6.setTop (mkF m 44 #[.val (.ref o1), .val (.int (0 : Int32))] []))
  refine Go.via (fun _ => XS.aloadN X6.here hx rfl (hb hby d9_44) rfl rfl) ?_
  show Go p e below _ (T6.setTop (mkF m 45 #[.val (.ref o1), .val (.int (0 : Int32))] [(.ref o1)]))
  obtain ⟨T7, X7, e7, st7⟩ := getF X6 hx hZ hown (host := "") (Or.inl (hw _ (List.mem_of_getElem? (i := 41) rfl))) Via.refl e6 fF_o1_found_6 (g := (mkF m 45 #[.val (.ref o1), .val (.int (0 : Int32))] [(.ref o1)])) rfl rfl (hb hby d9_45)
  refine Go.via st7 ?_
  show Go p e below _ (T7.setTop (mkF m 48 #[.val (.ref o1), .val (.int (0 : Int32))] [(.int (ix1 c0 (13 : Int32) (0 : Int32)))]))
  exact own_retI X7 hx hlk Bd.returns (hb hby d9_48) (by show QF_1_13_n Z o1 a1 t1 kb c0 ccs vF h0 n0 _ T7.heap _; rw [e7]; exact ⟨congrArg (fun z => some (Value.int z)) hix, N6, K6⟩) (by decide) (by decide)
theorem ef_rmF_0_10_n (m : MethodId) (x0 : Addr) : entryFrame m #[(.ref x0), (.int (0 : Int32))] 2 = mkF m 0 #[.val (.ref x0), .val (.int (0 : Int32))] [] := by first | (simp [entryFrame, mkF, argsToLocals, Value.category]; done) | rfl
def QF_0_10_n (Z : State) (o1 : Addr) (a1 : Addr) (t1 : Addr) (kb : ClassId) (c0 : Int32) (ccs : Int32) (vF : Value) (h0 : Heap) (n0 : Nat) (v : Option Value) (h : Heap) (L : List Loc) : Prop := v = some (.int (-1 : Int32)) ∧ Fr n0 L ∧ Keep h0 h [o1]
set_option maxRecDepth 65536 in
set_option maxHeartbeats 40000000 in
theorem rmF_0_10_n (l : Launch) (Z : State) (a0 : Array Value) (hw : ∀ d ∈ tables_1, d.before a0 Z = true) (ws : List Jvm.Cond) (o1 : Addr) (a1 : Addr) (t1 : Addr) (kb : ClassId) (c0 : Int32) (ccs : Int32) (vF : Value) (h0 : Heap) (n0 : Nat) (Z0 : n0 ≤ h0.size) (E1 : Exa Z h0 o1 "com/example/dogwood/dogwood/model/yaml/Occurrences") (H1 : Fld Z h0 o1 "com/example/dogwood/dogwood/model/yaml/Occurrences" "from" "I" (.int (2147483647 : Int32))) (H2 : Fld Z h0 o1 "com/example/dogwood/dogwood/model/yaml/Occurrences" "found" "I" (.int (-1 : Int32))) (H3 : Fld Z h0 o1 "com/example/dogwood/dogwood/model/yaml/Occurrences" "text" "Ljava/lang/String;" (.ref a1)) (H4 : Fld Z h0 o1 "com/example/dogwood/dogwood/model/yaml/Occurrences" "c" "C" (.int (10 : Int32))) (g1 : n0 ≤ o1) (E2 : Exa Z h0 a1 "java/lang/String") (G1 : Fld Z h0 a1 "java/lang/String" "value" "[B" (.ref t1)) (G2 : Fld Z h0 a1 "java/lang/String" "coder" "B" (.int (1 : Int32))) (V2 : Arv Z h0 t1 kb .byte (2 : Int32) [(.int (nar .byte ((c0 >>> ((0 : Int32) &&& 31)).toInt8.toInt32))), (.int (nar .byte ((c0 >>> ((8 : Int32) &&& 31)).toInt8.toInt32)))] (.int (0 : Int32))) (hu : nar .char ((((((nar .byte ((c0 >>> ((0 : Int32) &&& 31)).toInt8.toInt32))) &&& (255 : Int32)) <<< ((0 : Int32) &&& 31)) ||| ((((nar .byte ((c0 >>> ((8 : Int32) &&& 31)).toInt8.toInt32))) &&& (255 : Int32)) <<< ((8 : Int32) &&& 31))).toUInt32.toUInt16.toUInt32.toInt32) = c0) (hne : ¬ (c0 = (10 : Int32))) (O0 : Old Z n0 h0) (S_CS : Sta Z Z.heap "java/lang/String" "COMPACT_STRINGS" "Z" (.int ccs)) (hcs : ¬ (ccs = (0 : Int32))) (S_AD : Sta Z Z.heap "java/lang/StringUTF16" "$assertionsDisabled" "Z" (.int (1 : Int32))) (S_HI : Sta Z Z.heap "java/lang/StringUTF16" "HI_BYTE_SHIFT" "I" (.int (0 : Int32))) (S_LO : Sta Z Z.heap "java/lang/StringUTF16" "LO_BYTE_SHIFT" "I" (.int (8 : Int32))) (S_SF : Sta Z Z.heap "jdk/internal/util/Preconditions" "SIOOBE_FORMATTER" "Ljava/util/function/BiFunction;" vF) (rF : vF.isRef = true) :
    MetFree l (⟨"com/example/dogwood/dogwood/model/yaml/Occurrences", "from", "(I)I"⟩ : MethodName) (head1 (Jvm.Cond.code (⟨"com/example/dogwood/dogwood/model/yaml/Occurrences", "from", "(I)I"⟩ : MethodName) prog_19_method_2_code 2 (some .int) :: ws) ({ frames := 6, cells := 0, slots := 0, locals := 88 } : Room)) (fun a U => a = #[(.ref o1), (.int (0 : Int32))] ∧ Z.Warmed39 U.vm ∧ U.heap = h0) (fun _ _ _ _ _ => True) (fun _ U o U' => ∃ v L, o = .returned v ∧ QF_0_10_n Z o1 a1 t1 kb c0 ccs vF h0 n0 v U'.heap L ∧ FrameEnd U o U' L ({ frames := 6, cells := 0, slots := 0, locals := 88 } : Room).cells ({ frames := 6, cells := 0, slots := 0, locals := 88 } : Room).slots) := by
  refine MetFree.of_bodySF (plainFor_of_name pn_com_example_dogwood_dogwood_model_yaml_Occurrences) hisR ?_
  intro p e s m args below meth c s₁ Bd hml0 hP hK
  obtain ⟨rfl, hZ, hh⟩ := hP
  have hx := Bd.exec
  have hby := Bd.bytes
  have hlk : meth.locks = false := Bd.notSynchronized
  have hml : c.maxLocals = 2 := hml0
  have hown : s.vm.findClass "com/example/dogwood/dogwood/model/yaml/Occurrences" = some m.cls := findClass_of_methodNamed Bd.named
  have hnm := (name_of_methodNamed Bd.named Bd.method).1
  have X0 : Stand p l e ({ frames := 6, cells := 0, slots := 0, locals := 88 } : Room) s m #[(.ref o1), (.int (0 : Int32))] below meth c s₁ [] 0 0 := Stand.of_body Bd
  have e0 : s₁.heap = h0 := by rw [← hh, Bd.state]; rfl
  have N0 := Fr.nil n0
  show Go p e below (FinE s below (QF_0_10_n Z o1 a1 t1 kb c0 ccs vF h0 n0) ({ frames := 6, cells := 0, slots := 0, locals := 88 } : Room).cells ({ frames := 6, cells := 0, slots := 0, locals := 88 } : Room).slots) (s₁.setTop (entryFrame m #[(.ref o1), (.int (0 : Int32))] 2))
  refine Go.via (fun t k => castTop (ef_rmF_0_10_n m o1) k) ?_
  show Go p e below _ (s₁.setTop (mkF m 0 #[.val (.ref o1), .val (.int (0 : Int32))] []))
  refine Go.via (fun _ => XS.iloadN X0.here hx rfl (hb hby d9_0) rfl) ?_
  show Go p e below _ (s₁.setTop (mkF m 1 #[.val (.ref o1), .val (.int (0 : Int32))] [(.int (0 : Int32))]))
  refine Go.via (fun _ => XS.aloadN X0.here hx rfl (hb hby d9_1) rfl rfl) ?_
  show Go p e below _ (s₁.setTop (mkF m 2 #[.val (.ref o1), .val (.int (0 : Int32))] [(.ref o1), (.int (0 : Int32))]))
  obtain ⟨T1, X1, e1, st1⟩ := getF X0 hx hZ hown (host := "") (Or.inl (hw _ (List.mem_of_getElem? (i := 39) rfl))) Via.refl e0 H1 (g := (mkF m 2 #[.val (.ref o1), .val (.int (0 : Int32))] [(.ref o1), (.int (0 : Int32))])) rfl rfl (hb hby d9_2)
  refine Go.via st1 ?_
  show Go p e below _ (T1.setTop (mkF m 5 #[.val (.ref o1), .val (.int (0 : Int32))] [(.int (2147483647 : Int32)), (.int (0 : Int32))]))
  refine Go.via (fun _ => XS.icmpYes X1.here hx rfl (pc0 := 5) (pc' := 23) rfl (hb hby d9_5) rfl (by decide) (by decide) (by decide)) ?_
  show Go p e below _ (T1.setTop (mkF m 23 #[.val (.ref o1), .val (.int (0 : Int32))] []))
  refine Go.via (fun _ => XS.aloadN X1.here hx rfl (hb hby d9_23) rfl rfl) ?_
  show Go p e below _ (T1.setTop (mkF m 24 #[.val (.ref o1), .val (.int (0 : Int32))] [(.ref o1)]))
  refine Go.via (fun _ => XS.aloadN X1.here hx rfl (hb hby d9_24) rfl rfl) ?_
  show Go p e below _ (T1.setTop (mkF m 25 #[.val (.ref o1), .val (.int (0 : Int32))] [(.ref o1), (.ref o1)]))
  obtain ⟨T2, X2, e2, st2⟩ := getF X1 hx hZ hown (host := "") (Or.inl (hw _ (List.mem_of_getElem? (i := 43) rfl))) Via.refl e1 H3 (g := (mkF m 25 #[.val (.ref o1), .val (.int (0 : Int32))] [(.ref o1), (.ref o1)])) rfl rfl (hb hby d9_25)
  refine Go.via st2 ?_
  show Go p e below _ (T2.setTop (mkF m 28 #[.val (.ref o1), .val (.int (0 : Int32))] [(.ref a1), (.ref o1)]))
  refine Go.via (fun _ => XS.aloadN X2.here hx rfl (hb hby d9_28) rfl rfl) ?_
  show Go p e below _ (T2.setTop (mkF m 29 #[.val (.ref o1), .val (.int (0 : Int32))] [(.ref o1), (.ref a1), (.ref o1)]))
  obtain ⟨T3, X3, e3, st3⟩ := getF X2 hx hZ hown (host := "") (Or.inl (hw _ (List.mem_of_getElem? (i := 45) rfl))) Via.refl e2 H4 (g := (mkF m 29 #[.val (.ref o1), .val (.int (0 : Int32))] [(.ref o1), (.ref a1), (.ref o1)])) rfl rfl (hb hby d9_29)
  refine Go.via st3 ?_
  show Go p e below _ (T3.setTop (mkF m 32 #[.val (.ref o1), .val (.int (0 : Int32))] [(.int (10 : Int32)), (.ref a1), (.ref o1)]))
  refine Go.via (fun _ => XS.iloadN X3.here hx rfl (hb hby d9_32) rfl) ?_
  show Go p e below _ (T3.setTop (mkF m 33 #[.val (.ref o1), .val (.int (0 : Int32))] [(.int (0 : Int32)), (.int (10 : Int32)), (.ref a1), (.ref o1)]))
  obtain ⟨cq4, kq4, q4a, q4b, q4c⟩ := isOf hZ e3 E2
  obtain ⟨_, _, ⟨T4, L4, k4, n4⟩, -, X4, ⟨Lc4, hQ4, l4, y4, z4⟩, st4⟩ := X3.virtualBack hx (y := (⟨"java/lang/String", "indexOf", "(II)I"⟩ : MethodName)) (z := (⟨"java/lang/String", "indexOf", "(II)I"⟩ : MethodName)) hown (mvT hZ (hw _ (List.mem_of_getElem? (i := 55) rfl))) (mvT hZ (hw _ (List.mem_of_getElem? (i := 56) rfl))) (notFace_of_selects (args := #[]) (mvT hZ (hw _ (List.mem_of_getElem? (i := 58) rfl)))) (mvT hZ (hw _ (List.mem_of_getElem? (i := 58) rfl))) (mvT hZ (hw _ (List.mem_of_getElem? (i := 57) rfl))) (by decide) (backOf (W := 1) (rmIS16 l Z a0 hw [] a1 t1 kb c0 (10 : Int32) ccs vF h0 n0 Z0 E2 G1 G2 V2 hu hne (by decide) O0 S_CS hcs S_AD S_HI S_LO S_SF rF) hZ (hw _ (List.mem_of_getElem? (i := 59) rfl)) (hw _ (List.mem_of_getElem? (i := 7) rfl)) (by decide) (by decide)) q4a q4c (g := (mkF m 33 #[.val (.ref o1), .val (.int (0 : Int32))] [(.int (0 : Int32)), (.int (10 : Int32)), (.ref a1), (.ref o1)])) rfl (by rw [hml]; rfl) (Steps.refl _) (argsL := [(.int (10 : Int32)), (.int (0 : Int32))]) (rest := [(.ref o1)]) (lenOf pd_6 rfl) rfl (by show 2 * 0 + _ ≤ _; exact Nat.le_of_eq rfl) (hb hby d9_33) (fun _ _ => ⟨rfl, e3, (by decide : 0 + 0 ≤ _), (by decide : 0 + 0 ≤ _)⟩)
  dsimp only [Pt.U, Pt.locs, Pt.cells, Pt.slots] at X4 l4 y4 z4 st4 hQ4
  subst l4 y4 z4
  obtain ⟨rfl, N4q, e4q⟩ := hQ4
  have N4 := Fr.app N0 N4q
  refine Go.tr st4 ?_
  show Go p e below _ (T4.setTop (mkF m 36 #[.val (.ref o1), .val (.int (0 : Int32))] [(.int (-1 : Int32)), (.ref o1)]))
  obtain ⟨T5, h5, X5, e5, W5, st5⟩ := putF X4 hx hZ hown (host := "") (Or.inl (hw _ (List.mem_of_getElem? (i := 41) rfl))) Via.refl e4q H2 E1 (Or.inl (hw _ (List.mem_of_getElem? (i := 42) rfl))) (hw _ (List.mem_of_getElem? (i := 32) rfl)) (ty := .int) (by decide) rfl rfl (g := (mkF m 36 #[.val (.ref o1), .val (.int (0 : Int32))] [(.int (-1 : Int32)), (.ref o1)])) rfl rfl (hb hby d9_36)
  refine Go.via st5 ?_
  have fF_o1_found_5 : Fld Z h5 o1 "com/example/dogwood/dogwood/model/yaml/Occurrences" "found" "I" (.int (-1 : Int32)) := H2.same W5
  have Zs5 : n0 ≤ h5.size := Nat.le_trans Z0 (Keep.of_wr W5).1
  have O5 : Old Z n0 h5 := O0.wr W5 g1
  have K5 : Keep h0 h5 [o1] := (Keep.refl h0 [o1]).wr W5 (Or.inl (List.mem_of_getElem? (i := 0) rfl))
  have N5 := Fr.snoc X5 N4 g1
  have fE_o1_5 := E1.wr W5
  have fF_o1_from_5 := H1.other W5 (Or.inr (slot_ne (Or.inl (hw _ (List.mem_of_getElem? (i := 40) rfl))) (Or.inl (hw _ (List.mem_of_getElem? (i := 42) rfl))) (by decide) (t := .int) (t' := .int) (by decide) (by decide)))
  have fF_o1_text_5 := H3.other W5 (Or.inr (slot_ne (Or.inr (hw _ (List.mem_of_getElem? (i := 44) rfl))) (Or.inl (hw _ (List.mem_of_getElem? (i := 42) rfl))) (by decide) (t := (.object "java/lang/String")) (t' := .int) (by decide) (by decide)))
  have fF_o1_c_5 := H4.other W5 (Or.inr (slot_ne (Or.inr (hw _ (List.mem_of_getElem? (i := 46) rfl))) (Or.inl (hw _ (List.mem_of_getElem? (i := 42) rfl))) (by decide) (t := .char) (t' := .int) (by decide) (by decide)))
  show Go p e below _ (T5.setTop (mkF m 39 #[.val (.ref o1), .val (.int (0 : Int32))] []))
  refine Go.via (fun _ => XS.aloadN X5.here hx rfl (hb hby d9_39) rfl rfl) ?_
  show Go p e below _ (T5.setTop (mkF m 40 #[.val (.ref o1), .val (.int (0 : Int32))] [(.ref o1)]))
  refine Go.via (fun _ => XS.iloadN X5.here hx rfl (hb hby d9_40) rfl) ?_
  show Go p e below _ (T5.setTop (mkF m 41 #[.val (.ref o1), .val (.int (0 : Int32))] [(.int (0 : Int32)), (.ref o1)]))
  obtain ⟨T6, h6, X6, e6, W6, st6⟩ := putF X5 hx hZ hown (host := "") (Or.inl (hw _ (List.mem_of_getElem? (i := 39) rfl))) Via.refl e5 fF_o1_from_5 fE_o1_5 (Or.inl (hw _ (List.mem_of_getElem? (i := 40) rfl))) (hw _ (List.mem_of_getElem? (i := 32) rfl)) (ty := .int) (by decide) rfl rfl (g := (mkF m 41 #[.val (.ref o1), .val (.int (0 : Int32))] [(.int (0 : Int32)), (.ref o1)])) rfl rfl (hb hby d9_41)
  refine Go.via st6 ?_
  have fF_o1_from_6 : Fld Z h6 o1 "com/example/dogwood/dogwood/model/yaml/Occurrences" "from" "I" (.int (0 : Int32)) := fF_o1_from_5.same W6
  have Zs6 : n0 ≤ h6.size := Nat.le_trans Zs5 (Keep.of_wr W6).1
  have O6 : Old Z n0 h6 := O5.wr W6 g1
  have K6 : Keep h0 h6 [o1] := K5.wr W6 (Or.inl (List.mem_of_getElem? (i := 0) rfl))
  have N6 := Fr.snoc X6 N5 g1
  have fE_o1_6 := fE_o1_5.wr W6
  have fF_o1_found_6 := fF_o1_found_5.other W6 (Or.inr (slot_ne (Or.inl (hw _ (List.mem_of_getElem? (i := 42) rfl))) (Or.inl (hw _ (List.mem_of_getElem? (i := 40) rfl))) (by decide) (t := .int) (t' := .int) (by decide) (by decide)))
  have fF_o1_text_6 := fF_o1_text_5.other W6 (Or.inr (slot_ne (Or.inr (hw _ (List.mem_of_getElem? (i := 44) rfl))) (Or.inl (hw _ (List.mem_of_getElem? (i := 40) rfl))) (by decide) (t := (.object "java/lang/String")) (t' := .int) (by decide) (by decide)))
  have fF_o1_c_6 := fF_o1_c_5.other W6 (Or.inr (slot_ne (Or.inr (hw _ (List.mem_of_getElem? (i := 46) rfl))) (Or.inl (hw _ (List.mem_of_getElem? (i := 40) rfl))) (by decide) (t := .char) (t' := .int) (by decide) (by decide)))
  show Go p e below _ (T6.setTop (mkF m 44 #[.val (.ref o1), .val (.int (0 : Int32))] []))
  refine Go.via (fun _ => XS.aloadN X6.here hx rfl (hb hby d9_44) rfl rfl) ?_
  show Go p e below _ (T6.setTop (mkF m 45 #[.val (.ref o1), .val (.int (0 : Int32))] [(.ref o1)]))
  obtain ⟨T7, X7, e7, st7⟩ := getF X6 hx hZ hown (host := "") (Or.inl (hw _ (List.mem_of_getElem? (i := 41) rfl))) Via.refl e6 fF_o1_found_6 (g := (mkF m 45 #[.val (.ref o1), .val (.int (0 : Int32))] [(.ref o1)])) rfl rfl (hb hby d9_45)
  refine Go.via st7 ?_
  show Go p e below _ (T7.setTop (mkF m 48 #[.val (.ref o1), .val (.int (0 : Int32))] [(.int (-1 : Int32))]))
  exact own_retI X7 hx hlk Bd.returns (hb hby d9_48) (by show QF_0_10_n Z o1 a1 t1 kb c0 ccs vF h0 n0 _ T7.heap _; rw [e7]; exact ⟨rfl, N6, K6⟩) (by decide) (by decide)
theorem ef_rmF_0_13_n (m : MethodId) (x0 : Addr) : entryFrame m #[(.ref x0), (.int (0 : Int32))] 2 = mkF m 0 #[.val (.ref x0), .val (.int (0 : Int32))] [] := by first | (simp [entryFrame, mkF, argsToLocals, Value.category]; done) | rfl
def QF_0_13_n (Z : State) (o1 : Addr) (a1 : Addr) (t1 : Addr) (kb : ClassId) (c0 : Int32) (ccs : Int32) (vF : Value) (h0 : Heap) (n0 : Nat) (v : Option Value) (h : Heap) (L : List Loc) : Prop := v = some (.int (-1 : Int32)) ∧ Fr n0 L ∧ Keep h0 h [o1]
set_option maxRecDepth 65536 in
set_option maxHeartbeats 40000000 in
theorem rmF_0_13_n (l : Launch) (Z : State) (a0 : Array Value) (hw : ∀ d ∈ tables_1, d.before a0 Z = true) (ws : List Jvm.Cond) (o1 : Addr) (a1 : Addr) (t1 : Addr) (kb : ClassId) (c0 : Int32) (ccs : Int32) (vF : Value) (h0 : Heap) (n0 : Nat) (Z0 : n0 ≤ h0.size) (E1 : Exa Z h0 o1 "com/example/dogwood/dogwood/model/yaml/Occurrences") (H1 : Fld Z h0 o1 "com/example/dogwood/dogwood/model/yaml/Occurrences" "from" "I" (.int (2147483647 : Int32))) (H2 : Fld Z h0 o1 "com/example/dogwood/dogwood/model/yaml/Occurrences" "found" "I" (.int (-1 : Int32))) (H3 : Fld Z h0 o1 "com/example/dogwood/dogwood/model/yaml/Occurrences" "text" "Ljava/lang/String;" (.ref a1)) (H4 : Fld Z h0 o1 "com/example/dogwood/dogwood/model/yaml/Occurrences" "c" "C" (.int (13 : Int32))) (g1 : n0 ≤ o1) (E2 : Exa Z h0 a1 "java/lang/String") (G1 : Fld Z h0 a1 "java/lang/String" "value" "[B" (.ref t1)) (G2 : Fld Z h0 a1 "java/lang/String" "coder" "B" (.int (1 : Int32))) (V2 : Arv Z h0 t1 kb .byte (2 : Int32) [(.int (nar .byte ((c0 >>> ((0 : Int32) &&& 31)).toInt8.toInt32))), (.int (nar .byte ((c0 >>> ((8 : Int32) &&& 31)).toInt8.toInt32)))] (.int (0 : Int32))) (hu : nar .char ((((((nar .byte ((c0 >>> ((0 : Int32) &&& 31)).toInt8.toInt32))) &&& (255 : Int32)) <<< ((0 : Int32) &&& 31)) ||| ((((nar .byte ((c0 >>> ((8 : Int32) &&& 31)).toInt8.toInt32))) &&& (255 : Int32)) <<< ((8 : Int32) &&& 31))).toUInt32.toUInt16.toUInt32.toInt32) = c0) (hne : ¬ (c0 = (13 : Int32))) (O0 : Old Z n0 h0) (S_CS : Sta Z Z.heap "java/lang/String" "COMPACT_STRINGS" "Z" (.int ccs)) (hcs : ¬ (ccs = (0 : Int32))) (S_AD : Sta Z Z.heap "java/lang/StringUTF16" "$assertionsDisabled" "Z" (.int (1 : Int32))) (S_HI : Sta Z Z.heap "java/lang/StringUTF16" "HI_BYTE_SHIFT" "I" (.int (0 : Int32))) (S_LO : Sta Z Z.heap "java/lang/StringUTF16" "LO_BYTE_SHIFT" "I" (.int (8 : Int32))) (S_SF : Sta Z Z.heap "jdk/internal/util/Preconditions" "SIOOBE_FORMATTER" "Ljava/util/function/BiFunction;" vF) (rF : vF.isRef = true) :
    MetFree l (⟨"com/example/dogwood/dogwood/model/yaml/Occurrences", "from", "(I)I"⟩ : MethodName) (head1 (Jvm.Cond.code (⟨"com/example/dogwood/dogwood/model/yaml/Occurrences", "from", "(I)I"⟩ : MethodName) prog_19_method_2_code 2 (some .int) :: ws) ({ frames := 6, cells := 0, slots := 0, locals := 88 } : Room)) (fun a U => a = #[(.ref o1), (.int (0 : Int32))] ∧ Z.Warmed39 U.vm ∧ U.heap = h0) (fun _ _ _ _ _ => True) (fun _ U o U' => ∃ v L, o = .returned v ∧ QF_0_13_n Z o1 a1 t1 kb c0 ccs vF h0 n0 v U'.heap L ∧ FrameEnd U o U' L ({ frames := 6, cells := 0, slots := 0, locals := 88 } : Room).cells ({ frames := 6, cells := 0, slots := 0, locals := 88 } : Room).slots) := by
  refine MetFree.of_bodySF (plainFor_of_name pn_com_example_dogwood_dogwood_model_yaml_Occurrences) hisR ?_
  intro p e s m args below meth c s₁ Bd hml0 hP hK
  obtain ⟨rfl, hZ, hh⟩ := hP
  have hx := Bd.exec
  have hby := Bd.bytes
  have hlk : meth.locks = false := Bd.notSynchronized
  have hml : c.maxLocals = 2 := hml0
  have hown : s.vm.findClass "com/example/dogwood/dogwood/model/yaml/Occurrences" = some m.cls := findClass_of_methodNamed Bd.named
  have hnm := (name_of_methodNamed Bd.named Bd.method).1
  have X0 : Stand p l e ({ frames := 6, cells := 0, slots := 0, locals := 88 } : Room) s m #[(.ref o1), (.int (0 : Int32))] below meth c s₁ [] 0 0 := Stand.of_body Bd
  have e0 : s₁.heap = h0 := by rw [← hh, Bd.state]; rfl
  have N0 := Fr.nil n0
  show Go p e below (FinE s below (QF_0_13_n Z o1 a1 t1 kb c0 ccs vF h0 n0) ({ frames := 6, cells := 0, slots := 0, locals := 88 } : Room).cells ({ frames := 6, cells := 0, slots := 0, locals := 88 } : Room).slots) (s₁.setTop (entryFrame m #[(.ref o1), (.int (0 : Int32))] 2))
  refine Go.via (fun t k => castTop (ef_rmF_0_13_n m o1) k) ?_
  show Go p e below _ (s₁.setTop (mkF m 0 #[.val (.ref o1), .val (.int (0 : Int32))] []))
  refine Go.via (fun _ => XS.iloadN X0.here hx rfl (hb hby d9_0) rfl) ?_
  show Go p e below _ (s₁.setTop (mkF m 1 #[.val (.ref o1), .val (.int (0 : Int32))] [(.int (0 : Int32))]))
  refine Go.via (fun _ => XS.aloadN X0.here hx rfl (hb hby d9_1) rfl rfl) ?_
  show Go p e below _ (s₁.setTop (mkF m 2 #[.val (.ref o1), .val (.int (0 : Int32))] [(.ref o1), (.int (0 : Int32))]))
  obtain ⟨T1, X1, e1, st1⟩ := getF X0 hx hZ hown (host := "") (Or.inl (hw _ (List.mem_of_getElem? (i := 39) rfl))) Via.refl e0 H1 (g := (mkF m 2 #[.val (.ref o1), .val (.int (0 : Int32))] [(.ref o1), (.int (0 : Int32))])) rfl rfl (hb hby d9_2)
  refine Go.via st1 ?_
  show Go p e below _ (T1.setTop (mkF m 5 #[.val (.ref o1), .val (.int (0 : Int32))] [(.int (2147483647 : Int32)), (.int (0 : Int32))]))
  refine Go.via (fun _ => XS.icmpYes X1.here hx rfl (pc0 := 5) (pc' := 23) rfl (hb hby d9_5) rfl (by decide) (by decide) (by decide)) ?_
  show Go p e below _ (T1.setTop (mkF m 23 #[.val (.ref o1), .val (.int (0 : Int32))] []))
  refine Go.via (fun _ => XS.aloadN X1.here hx rfl (hb hby d9_23) rfl rfl) ?_
  show Go p e below _ (T1.setTop (mkF m 24 #[.val (.ref o1), .val (.int (0 : Int32))] [(.ref o1)]))
  refine Go.via (fun _ => XS.aloadN X1.here hx rfl (hb hby d9_24) rfl rfl) ?_
  show Go p e below _ (T1.setTop (mkF m 25 #[.val (.ref o1), .val (.int (0 : Int32))] [(.ref o1), (.ref o1)]))
  obtain ⟨T2, X2, e2, st2⟩ := getF X1 hx hZ hown (host := "") (Or.inl (hw _ (List.mem_of_getElem? (i := 43) rfl))) Via.refl e1 H3 (g := (mkF m 25 #[.val (.ref o1), .val (.int (0 : Int32))] [(.ref o1), (.ref o1)])) rfl rfl (hb hby d9_25)
  refine Go.via st2 ?_
  show Go p e below _ (T2.setTop (mkF m 28 #[.val (.ref o1), .val (.int (0 : Int32))] [(.ref a1), (.ref o1)]))
  refine Go.via (fun _ => XS.aloadN X2.here hx rfl (hb hby d9_28) rfl rfl) ?_
  show Go p e below _ (T2.setTop (mkF m 29 #[.val (.ref o1), .val (.int (0 : Int32))] [(.ref o1), (.ref a1), (.ref o1)]))
  obtain ⟨T3, X3, e3, st3⟩ := getF X2 hx hZ hown (host := "") (Or.inl (hw _ (List.mem_of_getElem? (i := 45) rfl))) Via.refl e2 H4 (g := (mkF m 29 #[.val (.ref o1), .val (.int (0 : Int32))] [(.ref o1), (.ref a1), (.ref o1)])) rfl rfl (hb hby d9_29)
  refine Go.via st3 ?_
  show Go p e below _ (T3.setTop (mkF m 32 #[.val (.ref o1), .val (.int (0 : Int32))] [(.int (13 : Int32)), (.ref a1), (.ref o1)]))
  refine Go.via (fun _ => XS.iloadN X3.here hx rfl (hb hby d9_32) rfl) ?_
  show Go p e below _ (T3.setTop (mkF m 33 #[.val (.ref o1), .val (.int (0 : Int32))] [(.int (0 : Int32)), (.int (13 : Int32)), (.ref a1), (.ref o1)]))
  obtain ⟨cq4, kq4, q4a, q4b, q4c⟩ := isOf hZ e3 E2
  obtain ⟨_, _, ⟨T4, L4, k4, n4⟩, -, X4, ⟨Lc4, hQ4, l4, y4, z4⟩, st4⟩ := X3.virtualBack hx (y := (⟨"java/lang/String", "indexOf", "(II)I"⟩ : MethodName)) (z := (⟨"java/lang/String", "indexOf", "(II)I"⟩ : MethodName)) hown (mvT hZ (hw _ (List.mem_of_getElem? (i := 55) rfl))) (mvT hZ (hw _ (List.mem_of_getElem? (i := 56) rfl))) (notFace_of_selects (args := #[]) (mvT hZ (hw _ (List.mem_of_getElem? (i := 58) rfl)))) (mvT hZ (hw _ (List.mem_of_getElem? (i := 58) rfl))) (mvT hZ (hw _ (List.mem_of_getElem? (i := 57) rfl))) (by decide) (backOf (W := 1) (rmIS16 l Z a0 hw [] a1 t1 kb c0 (13 : Int32) ccs vF h0 n0 Z0 E2 G1 G2 V2 hu hne (by decide) O0 S_CS hcs S_AD S_HI S_LO S_SF rF) hZ (hw _ (List.mem_of_getElem? (i := 59) rfl)) (hw _ (List.mem_of_getElem? (i := 7) rfl)) (by decide) (by decide)) q4a q4c (g := (mkF m 33 #[.val (.ref o1), .val (.int (0 : Int32))] [(.int (0 : Int32)), (.int (13 : Int32)), (.ref a1), (.ref o1)])) rfl (by rw [hml]; rfl) (Steps.refl _) (argsL := [(.int (13 : Int32)), (.int (0 : Int32))]) (rest := [(.ref o1)]) (lenOf pd_6 rfl) rfl (by show 2 * 0 + _ ≤ _; exact Nat.le_of_eq rfl) (hb hby d9_33) (fun _ _ => ⟨rfl, e3, (by decide : 0 + 0 ≤ _), (by decide : 0 + 0 ≤ _)⟩)
  dsimp only [Pt.U, Pt.locs, Pt.cells, Pt.slots] at X4 l4 y4 z4 st4 hQ4
  subst l4 y4 z4
  obtain ⟨rfl, N4q, e4q⟩ := hQ4
  have N4 := Fr.app N0 N4q
  refine Go.tr st4 ?_
  show Go p e below _ (T4.setTop (mkF m 36 #[.val (.ref o1), .val (.int (0 : Int32))] [(.int (-1 : Int32)), (.ref o1)]))
  obtain ⟨T5, h5, X5, e5, W5, st5⟩ := putF X4 hx hZ hown (host := "") (Or.inl (hw _ (List.mem_of_getElem? (i := 41) rfl))) Via.refl e4q H2 E1 (Or.inl (hw _ (List.mem_of_getElem? (i := 42) rfl))) (hw _ (List.mem_of_getElem? (i := 32) rfl)) (ty := .int) (by decide) rfl rfl (g := (mkF m 36 #[.val (.ref o1), .val (.int (0 : Int32))] [(.int (-1 : Int32)), (.ref o1)])) rfl rfl (hb hby d9_36)
  refine Go.via st5 ?_
  have fF_o1_found_5 : Fld Z h5 o1 "com/example/dogwood/dogwood/model/yaml/Occurrences" "found" "I" (.int (-1 : Int32)) := H2.same W5
  have Zs5 : n0 ≤ h5.size := Nat.le_trans Z0 (Keep.of_wr W5).1
  have O5 : Old Z n0 h5 := O0.wr W5 g1
  have K5 : Keep h0 h5 [o1] := (Keep.refl h0 [o1]).wr W5 (Or.inl (List.mem_of_getElem? (i := 0) rfl))
  have N5 := Fr.snoc X5 N4 g1
  have fE_o1_5 := E1.wr W5
  have fF_o1_from_5 := H1.other W5 (Or.inr (slot_ne (Or.inl (hw _ (List.mem_of_getElem? (i := 40) rfl))) (Or.inl (hw _ (List.mem_of_getElem? (i := 42) rfl))) (by decide) (t := .int) (t' := .int) (by decide) (by decide)))
  have fF_o1_text_5 := H3.other W5 (Or.inr (slot_ne (Or.inr (hw _ (List.mem_of_getElem? (i := 44) rfl))) (Or.inl (hw _ (List.mem_of_getElem? (i := 42) rfl))) (by decide) (t := (.object "java/lang/String")) (t' := .int) (by decide) (by decide)))
  have fF_o1_c_5 := H4.other W5 (Or.inr (slot_ne (Or.inr (hw _ (List.mem_of_getElem? (i := 46) rfl))) (Or.inl (hw _ (List.mem_of_getElem? (i := 42) rfl))) (by decide) (t := .char) (t' := .int) (by decide) (by decide)))
  show Go p e below _ (T5.setTop (mkF m 39 #[.val (.ref o1), .val (.int (0 : Int32))] []))
  refine Go.via (fun _ => XS.aloadN X5.here hx rfl (hb hby d9_39) rfl rfl) ?_
  show Go p e below _ (T5.setTop (mkF m 40 #[.val (.ref o1), .val (.int (0 : Int32))] [(.ref o1)]))
  refine Go.via (fun _ => XS.iloadN X5.here hx rfl (hb hby d9_40) rfl) ?_
  show Go p e below _ (T5.setTop (mkF m 41 #[.val (.ref o1), .val (.int (0 : Int32))] [(.int (0 : Int32)), (.ref o1)]))
  obtain ⟨T6, h6, X6, e6, W6, st6⟩ := putF X5 hx hZ hown (host := "") (Or.inl (hw _ (List.mem_of_getElem? (i := 39) rfl))) Via.refl e5 fF_o1_from_5 fE_o1_5 (Or.inl (hw _ (List.mem_of_getElem? (i := 40) rfl))) (hw _ (List.mem_of_getElem? (i := 32) rfl)) (ty := .int) (by decide) rfl rfl (g := (mkF m 41 #[.val (.ref o1), .val (.int (0 : Int32))] [(.int (0 : Int32)), (.ref o1)])) rfl rfl (hb hby d9_41)
  refine Go.via st6 ?_
  have fF_o1_from_6 : Fld Z h6 o1 "com/example/dogwood/dogwood/model/yaml/Occurrences" "from" "I" (.int (0 : Int32)) := fF_o1_from_5.same W6
  have Zs6 : n0 ≤ h6.size := Nat.le_trans Zs5 (Keep.of_wr W6).1
  have O6 : Old Z n0 h6 := O5.wr W6 g1
  have K6 : Keep h0 h6 [o1] := K5.wr W6 (Or.inl (List.mem_of_getElem? (i := 0) rfl))
  have N6 := Fr.snoc X6 N5 g1
  have fE_o1_6 := fE_o1_5.wr W6
  have fF_o1_found_6 := fF_o1_found_5.other W6 (Or.inr (slot_ne (Or.inl (hw _ (List.mem_of_getElem? (i := 42) rfl))) (Or.inl (hw _ (List.mem_of_getElem? (i := 40) rfl))) (by decide) (t := .int) (t' := .int) (by decide) (by decide)))
  have fF_o1_text_6 := fF_o1_text_5.other W6 (Or.inr (slot_ne (Or.inr (hw _ (List.mem_of_getElem? (i := 44) rfl))) (Or.inl (hw _ (List.mem_of_getElem? (i := 40) rfl))) (by decide) (t := (.object "java/lang/String")) (t' := .int) (by decide) (by decide)))
  have fF_o1_c_6 := fF_o1_c_5.other W6 (Or.inr (slot_ne (Or.inr (hw _ (List.mem_of_getElem? (i := 46) rfl))) (Or.inl (hw _ (List.mem_of_getElem? (i := 40) rfl))) (by decide) (t := .char) (t' := .int) (by decide) (by decide)))
  show Go p e below _ (T6.setTop (mkF m 44 #[.val (.ref o1), .val (.int (0 : Int32))] []))
  refine Go.via (fun _ => XS.aloadN X6.here hx rfl (hb hby d9_44) rfl rfl) ?_
  show Go p e below _ (T6.setTop (mkF m 45 #[.val (.ref o1), .val (.int (0 : Int32))] [(.ref o1)]))
  obtain ⟨T7, X7, e7, st7⟩ := getF X6 hx hZ hown (host := "") (Or.inl (hw _ (List.mem_of_getElem? (i := 41) rfl))) Via.refl e6 fF_o1_found_6 (g := (mkF m 45 #[.val (.ref o1), .val (.int (0 : Int32))] [(.ref o1)])) rfl rfl (hb hby d9_45)
  refine Go.via st7 ?_
  show Go p e below _ (T7.setTop (mkF m 48 #[.val (.ref o1), .val (.int (0 : Int32))] [(.int (-1 : Int32))]))
  exact own_retI X7 hx hlk Bd.returns (hb hby d9_48) (by show QF_0_13_n Z o1 a1 t1 kb c0 ccs vF h0 n0 _ T7.heap _; rw [e7]; exact ⟨rfl, N6, K6⟩) (by decide) (by decide)
theorem ef_rmE_10 (m : MethodId) (x0 : Addr) (x2 : Addr) (x3 : Addr) : entryFrame m #[(.ref x0), (.int (0 : Int32)), (.ref x2), (.ref x3)] 6 = mkF m 0 #[.val (.ref x0), .val (.int (0 : Int32)), .val (.ref x2), .val (.ref x3), .unset, .unset] [] := by first | (simp [entryFrame, mkF, argsToLocals, Value.category]; done) | rfl
def QE_10 (Z : State) (o1 : Addr) (o2 : Addr) (a1 : Addr) (t1 : Addr) (kb : ClassId) (c0 : Int32) (ccs : Int32) (vF : Value) (h0 : Heap) (n0 : Nat) (v : Option Value) (h : Heap) (L : List Loc) : Prop := v = some (.int (0 : Int32)) ∧ Fr n0 L ∧ Keep h0 h [o1, o2]
set_option maxRecDepth 65536 in
set_option maxHeartbeats 40000000 in
theorem rmE_10 (l : Launch) (Z : State) (a0 : Array Value) (hw : ∀ d ∈ tables_1, d.before a0 Z = true) (ws : List Jvm.Cond) (o1 : Addr) (o2 : Addr) (a1 : Addr) (t1 : Addr) (kb : ClassId) (c0 : Int32) (ccs : Int32) (vF : Value) (h0 : Heap) (n0 : Nat) (Z0 : n0 ≤ h0.size) (E_o1 : Exa Z h0 o1 "com/example/dogwood/dogwood/model/yaml/Occurrences") (A_o1 : Fld Z h0 o1 "com/example/dogwood/dogwood/model/yaml/Occurrences" "from" "I" (.int (2147483647 : Int32))) (B_o1 : Fld Z h0 o1 "com/example/dogwood/dogwood/model/yaml/Occurrences" "found" "I" (.int (-1 : Int32))) (C_o1 : Fld Z h0 o1 "com/example/dogwood/dogwood/model/yaml/Occurrences" "text" "Ljava/lang/String;" (.ref a1)) (D_o1 : Fld Z h0 o1 "com/example/dogwood/dogwood/model/yaml/Occurrences" "c" "C" (.int (10 : Int32))) (g_o1 : n0 ≤ o1) (E_o2 : Exa Z h0 o2 "com/example/dogwood/dogwood/model/yaml/Occurrences") (A_o2 : Fld Z h0 o2 "com/example/dogwood/dogwood/model/yaml/Occurrences" "from" "I" (.int (2147483647 : Int32))) (B_o2 : Fld Z h0 o2 "com/example/dogwood/dogwood/model/yaml/Occurrences" "found" "I" (.int (-1 : Int32))) (C_o2 : Fld Z h0 o2 "com/example/dogwood/dogwood/model/yaml/Occurrences" "text" "Ljava/lang/String;" (.ref a1)) (D_o2 : Fld Z h0 o2 "com/example/dogwood/dogwood/model/yaml/Occurrences" "c" "C" (.int (13 : Int32))) (g_o2 : n0 ≤ o2) (ne12 : o1 ≠ o2) (nea1 : a1 ≠ o1) (nea2 : a1 ≠ o2) (net1 : t1 ≠ o1) (net2 : t1 ≠ o2) (E2 : Exa Z h0 a1 "java/lang/String") (G1 : Fld Z h0 a1 "java/lang/String" "value" "[B" (.ref t1)) (G2 : Fld Z h0 a1 "java/lang/String" "coder" "B" (.int (0 : Int32))) (V2 : Arv Z h0 t1 kb .byte (1 : Int32) [(.int (nar .byte (c0.toInt8.toInt32)))] (.int (0 : Int32))) (qe10 : (nar .byte (c0.toInt8.toInt32) = ((10 : Int32)).toInt8.toInt32) ↔ c0 = (10 : Int32)) (qe13 : (nar .byte (c0.toInt8.toInt32) = ((13 : Int32)).toInt8.toInt32) ↔ c0 = (13 : Int32)) (hix10 : ix1 c0 (10 : Int32) (0 : Int32) = (0 : Int32)) (hix13 : ix1 c0 (13 : Int32) (0 : Int32) = (-1 : Int32)) (O0 : Old Z n0 h0) (S_CS : Sta Z Z.heap "java/lang/String" "COMPACT_STRINGS" "Z" (.int ccs)) (hcs : ¬ (ccs = (0 : Int32))) (S_AD : Sta Z Z.heap "java/lang/StringUTF16" "$assertionsDisabled" "Z" (.int (1 : Int32))) (S_HI : Sta Z Z.heap "java/lang/StringUTF16" "HI_BYTE_SHIFT" "I" (.int (0 : Int32))) (S_LO : Sta Z Z.heap "java/lang/StringUTF16" "LO_BYTE_SHIFT" "I" (.int (8 : Int32))) (S_SF : Sta Z Z.heap "jdk/internal/util/Preconditions" "SIOOBE_FORMATTER" "Ljava/util/function/BiFunction;" vF) (rF : vF.isRef = true) :
    MetFree l (⟨"com/example/dogwood/dogwood/model/yaml/Lines", "end", "(Ljava/lang/String;ILcom/example/dogwood/dogwood/model/yaml/Occurrences;Lcom/example/dogwood/dogwood/model/yaml/Occurrences;)I"⟩ : MethodName) (head1 (Jvm.Cond.code (⟨"com/example/dogwood/dogwood/model/yaml/Lines", "end", "(Ljava/lang/String;ILcom/example/dogwood/dogwood/model/yaml/Occurrences;Lcom/example/dogwood/dogwood/model/yaml/Occurrences;)I"⟩ : MethodName) prog_16_method_6_code 6 (some .int) :: ws) ({ frames := 5, cells := 0, slots := 0, locals := 88 } : Room)) (fun a U => a = #[(.ref a1), (.int (0 : Int32)), (.ref o1), (.ref o2)] ∧ Z.Warmed39 U.vm ∧ U.heap = h0) (fun _ _ _ _ _ => True) (fun _ U o U' => ∃ v L, o = .returned v ∧ QE_10 Z o1 o2 a1 t1 kb c0 ccs vF h0 n0 v U'.heap L ∧ FrameEnd U o U' L ({ frames := 5, cells := 0, slots := 0, locals := 88 } : Room).cells ({ frames := 5, cells := 0, slots := 0, locals := 88 } : Room).slots) := by
  refine MetFree.of_bodySF (plainFor_of_name pn_com_example_dogwood_dogwood_model_yaml_Lines) hisR ?_
  intro p e s m args below meth c s₁ Bd hml0 hP hK
  obtain ⟨rfl, hZ, hh⟩ := hP
  have hx := Bd.exec
  have hby := Bd.bytes
  have hlk : meth.locks = false := Bd.notSynchronized
  have hml : c.maxLocals = 6 := hml0
  have hown : s.vm.findClass "com/example/dogwood/dogwood/model/yaml/Lines" = some m.cls := findClass_of_methodNamed Bd.named
  have hnm := (name_of_methodNamed Bd.named Bd.method).1
  have X0 : Stand p l e ({ frames := 5, cells := 0, slots := 0, locals := 88 } : Room) s m #[(.ref a1), (.int (0 : Int32)), (.ref o1), (.ref o2)] below meth c s₁ [] 0 0 := Stand.of_body Bd
  have e0 : s₁.heap = h0 := by rw [← hh, Bd.state]; rfl
  have N0 := Fr.nil n0
  show Go p e below (FinE s below (QE_10 Z o1 o2 a1 t1 kb c0 ccs vF h0 n0) ({ frames := 5, cells := 0, slots := 0, locals := 88 } : Room).cells ({ frames := 5, cells := 0, slots := 0, locals := 88 } : Room).slots) (s₁.setTop (entryFrame m #[(.ref a1), (.int (0 : Int32)), (.ref o1), (.ref o2)] 6))
  refine Go.via (fun t k => castTop (ef_rmE_10 m a1 o1 o2) k) ?_
  show Go p e below _ (s₁.setTop (mkF m 0 #[.val (.ref a1), .val (.int (0 : Int32)), .val (.ref o1), .val (.ref o2), .unset, .unset] []))
  refine Go.via (fun _ => XS.aloadN X0.here hx rfl (hb hby d8_0) rfl rfl) ?_
  show Go p e below _ (s₁.setTop (mkF m 1 #[.val (.ref a1), .val (.int (0 : Int32)), .val (.ref o1), .val (.ref o2), .unset, .unset] [(.ref o1)]))
  refine Go.via (fun _ => XS.iloadN X0.here hx rfl (hb hby d8_1) rfl) ?_
  show Go p e below _ (s₁.setTop (mkF m 2 #[.val (.ref a1), .val (.int (0 : Int32)), .val (.ref o1), .val (.ref o2), .unset, .unset] [(.int (0 : Int32)), (.ref o1)]))
  obtain ⟨cq1, kq1, q1a, q1b, q1c⟩ := isOf hZ e0 E_o1
  obtain ⟨_, _, ⟨T1, L1, k1, n1⟩, -, X1, ⟨Lc1, hQ1, l1, y1, z1⟩, st1⟩ := X0.virtualBack hx (y := (⟨"com/example/dogwood/dogwood/model/yaml/Occurrences", "from", "(I)I"⟩ : MethodName)) (z := (⟨"com/example/dogwood/dogwood/model/yaml/Occurrences", "from", "(I)I"⟩ : MethodName)) hown (mvT hZ (hw _ (List.mem_of_getElem? (i := 50) rfl))) (mvT hZ (hw _ (List.mem_of_getElem? (i := 51) rfl))) (notFace_of_selects (args := #[]) (mvT hZ (hw _ (List.mem_of_getElem? (i := 53) rfl)))) (mvT hZ (hw _ (List.mem_of_getElem? (i := 53) rfl))) (mvT hZ (hw _ (List.mem_of_getElem? (i := 52) rfl))) (by decide) (backOf (W := 0) (rmF_1_10_y l Z a0 hw [] o1 a1 t1 kb c0 ccs vF h0 n0 Z0 E_o1 A_o1 B_o1 C_o1 D_o1 g_o1 E2 G1 G2 V2 qe10 hix10 O0 S_CS hcs S_AD S_HI S_LO S_SF rF) hZ (hw _ (List.mem_of_getElem? (i := 54) rfl)) (hw _ (List.mem_of_getElem? (i := 33) rfl)) (by decide) (by decide)) q1a q1c (g := (mkF m 2 #[.val (.ref a1), .val (.int (0 : Int32)), .val (.ref o1), .val (.ref o2), .unset, .unset] [(.int (0 : Int32)), (.ref o1)])) rfl (by rw [hml]; rfl) (Steps.refl _) (argsL := [(.int (0 : Int32))]) (rest := []) (lenOf pd_15 rfl) rfl (by show 2 * 0 + _ ≤ _; exact Nat.le_of_eq rfl) (hb hby d8_2) (fun _ _ => ⟨rfl, e0, (by decide : 0 + 0 ≤ _), (by decide : 0 + 0 ≤ _)⟩)
  dsimp only [Pt.U, Pt.locs, Pt.cells, Pt.slots] at X1 l1 y1 z1 st1 hQ1
  subst l1 y1 z1
  obtain ⟨rfl, N1q, K1q⟩ := hQ1
  have N1 := Fr.app N0 N1q
  refine Go.tr st1 ?_
  have Zs1 : n0 ≤ T1.heap.size := Nat.le_trans Z0 K1q.1
  have O1 : Old Z n0 T1.heap := O0.keep K1q (allS g_o1 all0)
  have K1 : Keep h0 T1.heap [o1, o2] := (Keep.refl h0 [o1, o2]).trans K1q (allS (Or.inl (List.mem_of_getElem? (i := 0) rfl)) all0)
  have fE_o1_1 := E_o1.keep K1q
  have fE_o2_1 := E_o2.keep K1q
  have fF_o2_from_1 := A_o2.keep K1q (ninS (Ne.symm ne12) nin0)
  have fF_o2_found_1 := B_o2.keep K1q (ninS (Ne.symm ne12) nin0)
  have fF_o2_text_1 := C_o2.keep K1q (ninS (Ne.symm ne12) nin0)
  have fF_o2_c_1 := D_o2.keep K1q (ninS (Ne.symm ne12) nin0)
  have fE_a1_1 := E2.keep K1q
  have fF_a1_value_1 := G1.keep K1q (ninS nea1 nin0)
  have fF_a1_coder_1 := G2.keep K1q (ninS nea1 nin0)
  have fV_t1_1 := V2.keep K1q (ninS net1 nin0)
  show Go p e below _ (T1.setTop (mkF m 5 #[.val (.ref a1), .val (.int (0 : Int32)), .val (.ref o1), .val (.ref o2), .unset, .unset] [(.int (0 : Int32))]))
  refine Go.via (fun _ => XS.istore X1.here hx rfl (hb hby d8_5) rfl (l' := #[.val (.ref a1), .val (.int (0 : Int32)), .val (.ref o1), .val (.ref o2), .val (.int (0 : Int32)), .unset]) rfl) ?_
  show Go p e below _ (T1.setTop (mkF m 7 #[.val (.ref a1), .val (.int (0 : Int32)), .val (.ref o1), .val (.ref o2), .val (.int (0 : Int32)), .unset] []))
  refine Go.via (fun _ => XS.aloadN X1.here hx rfl (hb hby d8_7) rfl rfl) ?_
  show Go p e below _ (T1.setTop (mkF m 8 #[.val (.ref a1), .val (.int (0 : Int32)), .val (.ref o1), .val (.ref o2), .val (.int (0 : Int32)), .unset] [(.ref o2)]))
  refine Go.via (fun _ => XS.iloadN X1.here hx rfl (hb hby d8_8) rfl) ?_
  show Go p e below _ (T1.setTop (mkF m 9 #[.val (.ref a1), .val (.int (0 : Int32)), .val (.ref o1), .val (.ref o2), .val (.int (0 : Int32)), .unset] [(.int (0 : Int32)), (.ref o2)]))
  obtain ⟨cq2, kq2, q2a, q2b, q2c⟩ := isOf hZ rfl fE_o2_1
  obtain ⟨_, _, ⟨T2, L2, k2, n2⟩, -, X2, ⟨Lc2, hQ2, l2, y2, z2⟩, st2⟩ := X1.virtualBack hx (y := (⟨"com/example/dogwood/dogwood/model/yaml/Occurrences", "from", "(I)I"⟩ : MethodName)) (z := (⟨"com/example/dogwood/dogwood/model/yaml/Occurrences", "from", "(I)I"⟩ : MethodName)) hown (mvT hZ (hw _ (List.mem_of_getElem? (i := 50) rfl))) (mvT hZ (hw _ (List.mem_of_getElem? (i := 51) rfl))) (notFace_of_selects (args := #[]) (mvT hZ (hw _ (List.mem_of_getElem? (i := 53) rfl)))) (mvT hZ (hw _ (List.mem_of_getElem? (i := 53) rfl))) (mvT hZ (hw _ (List.mem_of_getElem? (i := 52) rfl))) (by decide) (backOf (W := 0) (rmF_1_13_n l Z a0 hw [] o2 a1 t1 kb c0 ccs vF T1.heap n0 Zs1 fE_o2_1 fF_o2_from_1 fF_o2_found_1 fF_o2_text_1 fF_o2_c_1 g_o2 fE_a1_1 fF_a1_value_1 fF_a1_coder_1 fV_t1_1 qe13 hix13 O1 S_CS hcs S_AD S_HI S_LO S_SF rF) hZ (hw _ (List.mem_of_getElem? (i := 54) rfl)) (hw _ (List.mem_of_getElem? (i := 33) rfl)) (by decide) (by decide)) q2a q2c (g := (mkF m 9 #[.val (.ref a1), .val (.int (0 : Int32)), .val (.ref o1), .val (.ref o2), .val (.int (0 : Int32)), .unset] [(.int (0 : Int32)), (.ref o2)])) rfl (by rw [hml]; rfl) (Steps.refl _) (argsL := [(.int (0 : Int32))]) (rest := []) (lenOf pd_15 rfl) rfl (by show 2 * 0 + _ ≤ _; exact Nat.le_of_eq rfl) (hb hby d8_9) (fun _ _ => ⟨rfl, rfl, (by decide : 0 + 0 ≤ _), (by decide : 0 + 0 ≤ _)⟩)
  dsimp only [Pt.U, Pt.locs, Pt.cells, Pt.slots] at X2 l2 y2 z2 st2 hQ2
  subst l2 y2 z2
  obtain ⟨rfl, N2q, K2q⟩ := hQ2
  have N2 := Fr.app N1 N2q
  refine Go.tr st2 ?_
  have Zs2 : n0 ≤ T2.heap.size := Nat.le_trans Zs1 K2q.1
  have O2 : Old Z n0 T2.heap := O1.keep K2q (allS g_o2 all0)
  have K2 : Keep h0 T2.heap [o1, o2] := K1.trans K2q (allS (Or.inl (List.mem_of_getElem? (i := 1) rfl)) all0)
  have fE_o1_2 := fE_o1_1.keep K2q
  have fE_o2_2 := fE_o2_1.keep K2q
  have fE_a1_2 := fE_a1_1.keep K2q
  have fF_a1_value_2 := fF_a1_value_1.keep K2q (ninS nea2 nin0)
  have fF_a1_coder_2 := fF_a1_coder_1.keep K2q (ninS nea2 nin0)
  have fV_t1_2 := fV_t1_1.keep K2q (ninS net2 nin0)
  show Go p e below _ (T2.setTop (mkF m 12 #[.val (.ref a1), .val (.int (0 : Int32)), .val (.ref o1), .val (.ref o2), .val (.int (0 : Int32)), .unset] [(.int (-1 : Int32))]))
  refine Go.via (fun _ => XS.istore X2.here hx rfl (hb hby d8_12) rfl (l' := #[.val (.ref a1), .val (.int (0 : Int32)), .val (.ref o1), .val (.ref o2), .val (.int (0 : Int32)), .val (.int (-1 : Int32))]) rfl) ?_
  show Go p e below _ (T2.setTop (mkF m 14 #[.val (.ref a1), .val (.int (0 : Int32)), .val (.ref o1), .val (.ref o2), .val (.int (0 : Int32)), .val (.int (-1 : Int32))] []))
  refine Go.via (fun _ => XS.iload X2.here hx rfl (hb hby d8_14) rfl) ?_
  show Go p e below _ (T2.setTop (mkF m 16 #[.val (.ref a1), .val (.int (0 : Int32)), .val (.ref o1), .val (.ref o2), .val (.int (0 : Int32)), .val (.int (-1 : Int32))] [(.int (0 : Int32))]))
  refine Go.via (fun _ => XS.ifNo X2.here hx rfl (hb hby d8_16) rfl (by decide)) ?_
  show Go p e below _ (T2.setTop (mkF m 19 #[.val (.ref a1), .val (.int (0 : Int32)), .val (.ref o1), .val (.ref o2), .val (.int (0 : Int32)), .val (.int (-1 : Int32))] []))
  refine Go.via (fun _ => XS.iload X2.here hx rfl (hb hby d8_19) rfl) ?_
  show Go p e below _ (T2.setTop (mkF m 21 #[.val (.ref a1), .val (.int (0 : Int32)), .val (.ref o1), .val (.ref o2), .val (.int (0 : Int32)), .val (.int (-1 : Int32))] [(.int (-1 : Int32))]))
  refine Go.via (fun _ => XS.ifYes X2.here hx rfl (pc0 := 21) (pc' := 46) rfl (hb hby d8_21) rfl (by decide) (by decide) (by decide)) ?_
  show Go p e below _ (T2.setTop (mkF m 46 #[.val (.ref a1), .val (.int (0 : Int32)), .val (.ref o1), .val (.ref o2), .val (.int (0 : Int32)), .val (.int (-1 : Int32))] []))
  refine Go.via (fun _ => XS.iload X2.here hx rfl (hb hby d8_46) rfl) ?_
  show Go p e below _ (T2.setTop (mkF m 48 #[.val (.ref a1), .val (.int (0 : Int32)), .val (.ref o1), .val (.ref o2), .val (.int (0 : Int32)), .val (.int (-1 : Int32))] [(.int (0 : Int32))]))
  exact own_retI X2 hx hlk Bd.returns (hb hby d8_48) (by show QE_10 Z o1 o2 a1 t1 kb c0 ccs vF h0 n0 _ T2.heap _; exact ⟨rfl, N2, K2⟩) (by decide) (by decide)
theorem ef_rmE_13 (m : MethodId) (x0 : Addr) (x2 : Addr) (x3 : Addr) : entryFrame m #[(.ref x0), (.int (0 : Int32)), (.ref x2), (.ref x3)] 6 = mkF m 0 #[.val (.ref x0), .val (.int (0 : Int32)), .val (.ref x2), .val (.ref x3), .unset, .unset] [] := by first | (simp [entryFrame, mkF, argsToLocals, Value.category]; done) | rfl
def QE_13 (Z : State) (o1 : Addr) (o2 : Addr) (a1 : Addr) (t1 : Addr) (kb : ClassId) (c0 : Int32) (ccs : Int32) (vF : Value) (h0 : Heap) (n0 : Nat) (v : Option Value) (h : Heap) (L : List Loc) : Prop := v = some (.int (0 : Int32)) ∧ Fr n0 L ∧ Keep h0 h [o1, o2]
set_option maxRecDepth 65536 in
set_option maxHeartbeats 40000000 in
theorem rmE_13 (l : Launch) (Z : State) (a0 : Array Value) (hw : ∀ d ∈ tables_1, d.before a0 Z = true) (ws : List Jvm.Cond) (o1 : Addr) (o2 : Addr) (a1 : Addr) (t1 : Addr) (kb : ClassId) (c0 : Int32) (ccs : Int32) (vF : Value) (h0 : Heap) (n0 : Nat) (Z0 : n0 ≤ h0.size) (E_o1 : Exa Z h0 o1 "com/example/dogwood/dogwood/model/yaml/Occurrences") (A_o1 : Fld Z h0 o1 "com/example/dogwood/dogwood/model/yaml/Occurrences" "from" "I" (.int (2147483647 : Int32))) (B_o1 : Fld Z h0 o1 "com/example/dogwood/dogwood/model/yaml/Occurrences" "found" "I" (.int (-1 : Int32))) (C_o1 : Fld Z h0 o1 "com/example/dogwood/dogwood/model/yaml/Occurrences" "text" "Ljava/lang/String;" (.ref a1)) (D_o1 : Fld Z h0 o1 "com/example/dogwood/dogwood/model/yaml/Occurrences" "c" "C" (.int (10 : Int32))) (g_o1 : n0 ≤ o1) (E_o2 : Exa Z h0 o2 "com/example/dogwood/dogwood/model/yaml/Occurrences") (A_o2 : Fld Z h0 o2 "com/example/dogwood/dogwood/model/yaml/Occurrences" "from" "I" (.int (2147483647 : Int32))) (B_o2 : Fld Z h0 o2 "com/example/dogwood/dogwood/model/yaml/Occurrences" "found" "I" (.int (-1 : Int32))) (C_o2 : Fld Z h0 o2 "com/example/dogwood/dogwood/model/yaml/Occurrences" "text" "Ljava/lang/String;" (.ref a1)) (D_o2 : Fld Z h0 o2 "com/example/dogwood/dogwood/model/yaml/Occurrences" "c" "C" (.int (13 : Int32))) (g_o2 : n0 ≤ o2) (ne12 : o1 ≠ o2) (nea1 : a1 ≠ o1) (nea2 : a1 ≠ o2) (net1 : t1 ≠ o1) (net2 : t1 ≠ o2) (E2 : Exa Z h0 a1 "java/lang/String") (G1 : Fld Z h0 a1 "java/lang/String" "value" "[B" (.ref t1)) (G2 : Fld Z h0 a1 "java/lang/String" "coder" "B" (.int (0 : Int32))) (V2 : Arv Z h0 t1 kb .byte (1 : Int32) [(.int (nar .byte (c0.toInt8.toInt32)))] (.int (0 : Int32))) (qe10 : (nar .byte (c0.toInt8.toInt32) = ((10 : Int32)).toInt8.toInt32) ↔ c0 = (10 : Int32)) (qe13 : (nar .byte (c0.toInt8.toInt32) = ((13 : Int32)).toInt8.toInt32) ↔ c0 = (13 : Int32)) (hix10 : ix1 c0 (10 : Int32) (0 : Int32) = (-1 : Int32)) (hix13 : ix1 c0 (13 : Int32) (0 : Int32) = (0 : Int32)) (O0 : Old Z n0 h0) (S_CS : Sta Z Z.heap "java/lang/String" "COMPACT_STRINGS" "Z" (.int ccs)) (hcs : ¬ (ccs = (0 : Int32))) (S_AD : Sta Z Z.heap "java/lang/StringUTF16" "$assertionsDisabled" "Z" (.int (1 : Int32))) (S_HI : Sta Z Z.heap "java/lang/StringUTF16" "HI_BYTE_SHIFT" "I" (.int (0 : Int32))) (S_LO : Sta Z Z.heap "java/lang/StringUTF16" "LO_BYTE_SHIFT" "I" (.int (8 : Int32))) (S_SF : Sta Z Z.heap "jdk/internal/util/Preconditions" "SIOOBE_FORMATTER" "Ljava/util/function/BiFunction;" vF) (rF : vF.isRef = true) :
    MetFree l (⟨"com/example/dogwood/dogwood/model/yaml/Lines", "end", "(Ljava/lang/String;ILcom/example/dogwood/dogwood/model/yaml/Occurrences;Lcom/example/dogwood/dogwood/model/yaml/Occurrences;)I"⟩ : MethodName) (head1 (Jvm.Cond.code (⟨"com/example/dogwood/dogwood/model/yaml/Lines", "end", "(Ljava/lang/String;ILcom/example/dogwood/dogwood/model/yaml/Occurrences;Lcom/example/dogwood/dogwood/model/yaml/Occurrences;)I"⟩ : MethodName) prog_16_method_6_code 6 (some .int) :: ws) ({ frames := 5, cells := 0, slots := 0, locals := 88 } : Room)) (fun a U => a = #[(.ref a1), (.int (0 : Int32)), (.ref o1), (.ref o2)] ∧ Z.Warmed39 U.vm ∧ U.heap = h0) (fun _ _ _ _ _ => True) (fun _ U o U' => ∃ v L, o = .returned v ∧ QE_13 Z o1 o2 a1 t1 kb c0 ccs vF h0 n0 v U'.heap L ∧ FrameEnd U o U' L ({ frames := 5, cells := 0, slots := 0, locals := 88 } : Room).cells ({ frames := 5, cells := 0, slots := 0, locals := 88 } : Room).slots) := by
  refine MetFree.of_bodySF (plainFor_of_name pn_com_example_dogwood_dogwood_model_yaml_Lines) hisR ?_
  intro p e s m args below meth c s₁ Bd hml0 hP hK
  obtain ⟨rfl, hZ, hh⟩ := hP
  have hx := Bd.exec
  have hby := Bd.bytes
  have hlk : meth.locks = false := Bd.notSynchronized
  have hml : c.maxLocals = 6 := hml0
  have hown : s.vm.findClass "com/example/dogwood/dogwood/model/yaml/Lines" = some m.cls := findClass_of_methodNamed Bd.named
  have hnm := (name_of_methodNamed Bd.named Bd.method).1
  have X0 : Stand p l e ({ frames := 5, cells := 0, slots := 0, locals := 88 } : Room) s m #[(.ref a1), (.int (0 : Int32)), (.ref o1), (.ref o2)] below meth c s₁ [] 0 0 := Stand.of_body Bd
  have e0 : s₁.heap = h0 := by rw [← hh, Bd.state]; rfl
  have N0 := Fr.nil n0
  show Go p e below (FinE s below (QE_13 Z o1 o2 a1 t1 kb c0 ccs vF h0 n0) ({ frames := 5, cells := 0, slots := 0, locals := 88 } : Room).cells ({ frames := 5, cells := 0, slots := 0, locals := 88 } : Room).slots) (s₁.setTop (entryFrame m #[(.ref a1), (.int (0 : Int32)), (.ref o1), (.ref o2)] 6))
  refine Go.via (fun t k => castTop (ef_rmE_13 m a1 o1 o2) k) ?_
  show Go p e below _ (s₁.setTop (mkF m 0 #[.val (.ref a1), .val (.int (0 : Int32)), .val (.ref o1), .val (.ref o2), .unset, .unset] []))
  refine Go.via (fun _ => XS.aloadN X0.here hx rfl (hb hby d8_0) rfl rfl) ?_
  show Go p e below _ (s₁.setTop (mkF m 1 #[.val (.ref a1), .val (.int (0 : Int32)), .val (.ref o1), .val (.ref o2), .unset, .unset] [(.ref o1)]))
  refine Go.via (fun _ => XS.iloadN X0.here hx rfl (hb hby d8_1) rfl) ?_
  show Go p e below _ (s₁.setTop (mkF m 2 #[.val (.ref a1), .val (.int (0 : Int32)), .val (.ref o1), .val (.ref o2), .unset, .unset] [(.int (0 : Int32)), (.ref o1)]))
  obtain ⟨cq1, kq1, q1a, q1b, q1c⟩ := isOf hZ e0 E_o1
  obtain ⟨_, _, ⟨T1, L1, k1, n1⟩, -, X1, ⟨Lc1, hQ1, l1, y1, z1⟩, st1⟩ := X0.virtualBack hx (y := (⟨"com/example/dogwood/dogwood/model/yaml/Occurrences", "from", "(I)I"⟩ : MethodName)) (z := (⟨"com/example/dogwood/dogwood/model/yaml/Occurrences", "from", "(I)I"⟩ : MethodName)) hown (mvT hZ (hw _ (List.mem_of_getElem? (i := 50) rfl))) (mvT hZ (hw _ (List.mem_of_getElem? (i := 51) rfl))) (notFace_of_selects (args := #[]) (mvT hZ (hw _ (List.mem_of_getElem? (i := 53) rfl)))) (mvT hZ (hw _ (List.mem_of_getElem? (i := 53) rfl))) (mvT hZ (hw _ (List.mem_of_getElem? (i := 52) rfl))) (by decide) (backOf (W := 0) (rmF_1_10_n l Z a0 hw [] o1 a1 t1 kb c0 ccs vF h0 n0 Z0 E_o1 A_o1 B_o1 C_o1 D_o1 g_o1 E2 G1 G2 V2 qe10 hix10 O0 S_CS hcs S_AD S_HI S_LO S_SF rF) hZ (hw _ (List.mem_of_getElem? (i := 54) rfl)) (hw _ (List.mem_of_getElem? (i := 33) rfl)) (by decide) (by decide)) q1a q1c (g := (mkF m 2 #[.val (.ref a1), .val (.int (0 : Int32)), .val (.ref o1), .val (.ref o2), .unset, .unset] [(.int (0 : Int32)), (.ref o1)])) rfl (by rw [hml]; rfl) (Steps.refl _) (argsL := [(.int (0 : Int32))]) (rest := []) (lenOf pd_15 rfl) rfl (by show 2 * 0 + _ ≤ _; exact Nat.le_of_eq rfl) (hb hby d8_2) (fun _ _ => ⟨rfl, e0, (by decide : 0 + 0 ≤ _), (by decide : 0 + 0 ≤ _)⟩)
  dsimp only [Pt.U, Pt.locs, Pt.cells, Pt.slots] at X1 l1 y1 z1 st1 hQ1
  subst l1 y1 z1
  obtain ⟨rfl, N1q, K1q⟩ := hQ1
  have N1 := Fr.app N0 N1q
  refine Go.tr st1 ?_
  have Zs1 : n0 ≤ T1.heap.size := Nat.le_trans Z0 K1q.1
  have O1 : Old Z n0 T1.heap := O0.keep K1q (allS g_o1 all0)
  have K1 : Keep h0 T1.heap [o1, o2] := (Keep.refl h0 [o1, o2]).trans K1q (allS (Or.inl (List.mem_of_getElem? (i := 0) rfl)) all0)
  have fE_o1_1 := E_o1.keep K1q
  have fE_o2_1 := E_o2.keep K1q
  have fF_o2_from_1 := A_o2.keep K1q (ninS (Ne.symm ne12) nin0)
  have fF_o2_found_1 := B_o2.keep K1q (ninS (Ne.symm ne12) nin0)
  have fF_o2_text_1 := C_o2.keep K1q (ninS (Ne.symm ne12) nin0)
  have fF_o2_c_1 := D_o2.keep K1q (ninS (Ne.symm ne12) nin0)
  have fE_a1_1 := E2.keep K1q
  have fF_a1_value_1 := G1.keep K1q (ninS nea1 nin0)
  have fF_a1_coder_1 := G2.keep K1q (ninS nea1 nin0)
  have fV_t1_1 := V2.keep K1q (ninS net1 nin0)
  show Go p e below _ (T1.setTop (mkF m 5 #[.val (.ref a1), .val (.int (0 : Int32)), .val (.ref o1), .val (.ref o2), .unset, .unset] [(.int (-1 : Int32))]))
  refine Go.via (fun _ => XS.istore X1.here hx rfl (hb hby d8_5) rfl (l' := #[.val (.ref a1), .val (.int (0 : Int32)), .val (.ref o1), .val (.ref o2), .val (.int (-1 : Int32)), .unset]) rfl) ?_
  show Go p e below _ (T1.setTop (mkF m 7 #[.val (.ref a1), .val (.int (0 : Int32)), .val (.ref o1), .val (.ref o2), .val (.int (-1 : Int32)), .unset] []))
  refine Go.via (fun _ => XS.aloadN X1.here hx rfl (hb hby d8_7) rfl rfl) ?_
  show Go p e below _ (T1.setTop (mkF m 8 #[.val (.ref a1), .val (.int (0 : Int32)), .val (.ref o1), .val (.ref o2), .val (.int (-1 : Int32)), .unset] [(.ref o2)]))
  refine Go.via (fun _ => XS.iloadN X1.here hx rfl (hb hby d8_8) rfl) ?_
  show Go p e below _ (T1.setTop (mkF m 9 #[.val (.ref a1), .val (.int (0 : Int32)), .val (.ref o1), .val (.ref o2), .val (.int (-1 : Int32)), .unset] [(.int (0 : Int32)), (.ref o2)]))
  obtain ⟨cq2, kq2, q2a, q2b, q2c⟩ := isOf hZ rfl fE_o2_1
  obtain ⟨_, _, ⟨T2, L2, k2, n2⟩, -, X2, ⟨Lc2, hQ2, l2, y2, z2⟩, st2⟩ := X1.virtualBack hx (y := (⟨"com/example/dogwood/dogwood/model/yaml/Occurrences", "from", "(I)I"⟩ : MethodName)) (z := (⟨"com/example/dogwood/dogwood/model/yaml/Occurrences", "from", "(I)I"⟩ : MethodName)) hown (mvT hZ (hw _ (List.mem_of_getElem? (i := 50) rfl))) (mvT hZ (hw _ (List.mem_of_getElem? (i := 51) rfl))) (notFace_of_selects (args := #[]) (mvT hZ (hw _ (List.mem_of_getElem? (i := 53) rfl)))) (mvT hZ (hw _ (List.mem_of_getElem? (i := 53) rfl))) (mvT hZ (hw _ (List.mem_of_getElem? (i := 52) rfl))) (by decide) (backOf (W := 0) (rmF_1_13_y l Z a0 hw [] o2 a1 t1 kb c0 ccs vF T1.heap n0 Zs1 fE_o2_1 fF_o2_from_1 fF_o2_found_1 fF_o2_text_1 fF_o2_c_1 g_o2 fE_a1_1 fF_a1_value_1 fF_a1_coder_1 fV_t1_1 qe13 hix13 O1 S_CS hcs S_AD S_HI S_LO S_SF rF) hZ (hw _ (List.mem_of_getElem? (i := 54) rfl)) (hw _ (List.mem_of_getElem? (i := 33) rfl)) (by decide) (by decide)) q2a q2c (g := (mkF m 9 #[.val (.ref a1), .val (.int (0 : Int32)), .val (.ref o1), .val (.ref o2), .val (.int (-1 : Int32)), .unset] [(.int (0 : Int32)), (.ref o2)])) rfl (by rw [hml]; rfl) (Steps.refl _) (argsL := [(.int (0 : Int32))]) (rest := []) (lenOf pd_15 rfl) rfl (by show 2 * 0 + _ ≤ _; exact Nat.le_of_eq rfl) (hb hby d8_9) (fun _ _ => ⟨rfl, rfl, (by decide : 0 + 0 ≤ _), (by decide : 0 + 0 ≤ _)⟩)
  dsimp only [Pt.U, Pt.locs, Pt.cells, Pt.slots] at X2 l2 y2 z2 st2 hQ2
  subst l2 y2 z2
  obtain ⟨rfl, N2q, K2q⟩ := hQ2
  have N2 := Fr.app N1 N2q
  refine Go.tr st2 ?_
  have Zs2 : n0 ≤ T2.heap.size := Nat.le_trans Zs1 K2q.1
  have O2 : Old Z n0 T2.heap := O1.keep K2q (allS g_o2 all0)
  have K2 : Keep h0 T2.heap [o1, o2] := K1.trans K2q (allS (Or.inl (List.mem_of_getElem? (i := 1) rfl)) all0)
  have fE_o1_2 := fE_o1_1.keep K2q
  have fE_o2_2 := fE_o2_1.keep K2q
  have fE_a1_2 := fE_a1_1.keep K2q
  have fF_a1_value_2 := fF_a1_value_1.keep K2q (ninS nea2 nin0)
  have fF_a1_coder_2 := fF_a1_coder_1.keep K2q (ninS nea2 nin0)
  have fV_t1_2 := fV_t1_1.keep K2q (ninS net2 nin0)
  show Go p e below _ (T2.setTop (mkF m 12 #[.val (.ref a1), .val (.int (0 : Int32)), .val (.ref o1), .val (.ref o2), .val (.int (-1 : Int32)), .unset] [(.int (0 : Int32))]))
  refine Go.via (fun _ => XS.istore X2.here hx rfl (hb hby d8_12) rfl (l' := #[.val (.ref a1), .val (.int (0 : Int32)), .val (.ref o1), .val (.ref o2), .val (.int (-1 : Int32)), .val (.int (0 : Int32))]) rfl) ?_
  show Go p e below _ (T2.setTop (mkF m 14 #[.val (.ref a1), .val (.int (0 : Int32)), .val (.ref o1), .val (.ref o2), .val (.int (-1 : Int32)), .val (.int (0 : Int32))] []))
  refine Go.via (fun _ => XS.iload X2.here hx rfl (hb hby d8_14) rfl) ?_
  show Go p e below _ (T2.setTop (mkF m 16 #[.val (.ref a1), .val (.int (0 : Int32)), .val (.ref o1), .val (.ref o2), .val (.int (-1 : Int32)), .val (.int (0 : Int32))] [(.int (-1 : Int32))]))
  refine Go.via (fun _ => XS.ifYes X2.here hx rfl (pc0 := 16) (pc' := 31) rfl (hb hby d8_16) rfl (by decide) (by decide) (by decide)) ?_
  show Go p e below _ (T2.setTop (mkF m 31 #[.val (.ref a1), .val (.int (0 : Int32)), .val (.ref o1), .val (.ref o2), .val (.int (-1 : Int32)), .val (.int (0 : Int32))] []))
  refine Go.via (fun _ => XS.iload X2.here hx rfl (hb hby d8_31) rfl) ?_
  show Go p e below _ (T2.setTop (mkF m 33 #[.val (.ref a1), .val (.int (0 : Int32)), .val (.ref o1), .val (.ref o2), .val (.int (-1 : Int32)), .val (.int (0 : Int32))] [(.int (0 : Int32))]))
  refine Go.via (fun _ => XS.ifYes X2.here hx rfl (pc0 := 33) (pc' := 43) rfl (hb hby d8_33) rfl (by decide) (by decide) (by decide)) ?_
  show Go p e below _ (T2.setTop (mkF m 43 #[.val (.ref a1), .val (.int (0 : Int32)), .val (.ref o1), .val (.ref o2), .val (.int (-1 : Int32)), .val (.int (0 : Int32))] []))
  refine Go.via (fun _ => XS.iload X2.here hx rfl (hb hby d8_43) rfl) ?_
  show Go p e below _ (T2.setTop (mkF m 45 #[.val (.ref a1), .val (.int (0 : Int32)), .val (.ref o1), .val (.ref o2), .val (.int (-1 : Int32)), .val (.int (0 : Int32))] [(.int (0 : Int32))]))
  exact own_retI X2 hx hlk Bd.returns (hb hby d8_45) (by show QE_13 Z o1 o2 a1 t1 kb c0 ccs vF h0 n0 _ T2.heap _; exact ⟨rfl, N2, K2⟩) (by decide) (by decide)
theorem ef_rmE_lat (m : MethodId) (x0 : Addr) (x2 : Addr) (x3 : Addr) : entryFrame m #[(.ref x0), (.int (0 : Int32)), (.ref x2), (.ref x3)] 6 = mkF m 0 #[.val (.ref x0), .val (.int (0 : Int32)), .val (.ref x2), .val (.ref x3), .unset, .unset] [] := by first | (simp [entryFrame, mkF, argsToLocals, Value.category]; done) | rfl
def QE_lat (Z : State) (o1 : Addr) (o2 : Addr) (a1 : Addr) (t1 : Addr) (kb : ClassId) (c0 : Int32) (ccs : Int32) (vF : Value) (h0 : Heap) (n0 : Nat) (v : Option Value) (h : Heap) (L : List Loc) : Prop := v = some (.int (1 : Int32)) ∧ Fr n0 L ∧ Keep h0 h [o1, o2]
set_option maxRecDepth 65536 in
set_option maxHeartbeats 40000000 in
theorem rmE_lat (l : Launch) (Z : State) (a0 : Array Value) (hw : ∀ d ∈ tables_1, d.before a0 Z = true) (ws : List Jvm.Cond) (o1 : Addr) (o2 : Addr) (a1 : Addr) (t1 : Addr) (kb : ClassId) (c0 : Int32) (ccs : Int32) (vF : Value) (h0 : Heap) (n0 : Nat) (Z0 : n0 ≤ h0.size) (E_o1 : Exa Z h0 o1 "com/example/dogwood/dogwood/model/yaml/Occurrences") (A_o1 : Fld Z h0 o1 "com/example/dogwood/dogwood/model/yaml/Occurrences" "from" "I" (.int (2147483647 : Int32))) (B_o1 : Fld Z h0 o1 "com/example/dogwood/dogwood/model/yaml/Occurrences" "found" "I" (.int (-1 : Int32))) (C_o1 : Fld Z h0 o1 "com/example/dogwood/dogwood/model/yaml/Occurrences" "text" "Ljava/lang/String;" (.ref a1)) (D_o1 : Fld Z h0 o1 "com/example/dogwood/dogwood/model/yaml/Occurrences" "c" "C" (.int (10 : Int32))) (g_o1 : n0 ≤ o1) (E_o2 : Exa Z h0 o2 "com/example/dogwood/dogwood/model/yaml/Occurrences") (A_o2 : Fld Z h0 o2 "com/example/dogwood/dogwood/model/yaml/Occurrences" "from" "I" (.int (2147483647 : Int32))) (B_o2 : Fld Z h0 o2 "com/example/dogwood/dogwood/model/yaml/Occurrences" "found" "I" (.int (-1 : Int32))) (C_o2 : Fld Z h0 o2 "com/example/dogwood/dogwood/model/yaml/Occurrences" "text" "Ljava/lang/String;" (.ref a1)) (D_o2 : Fld Z h0 o2 "com/example/dogwood/dogwood/model/yaml/Occurrences" "c" "C" (.int (13 : Int32))) (g_o2 : n0 ≤ o2) (ne12 : o1 ≠ o2) (nea1 : a1 ≠ o1) (nea2 : a1 ≠ o2) (net1 : t1 ≠ o1) (net2 : t1 ≠ o2) (E2 : Exa Z h0 a1 "java/lang/String") (G1 : Fld Z h0 a1 "java/lang/String" "value" "[B" (.ref t1)) (G2 : Fld Z h0 a1 "java/lang/String" "coder" "B" (.int (0 : Int32))) (V2 : Arv Z h0 t1 kb .byte (1 : Int32) [(.int (nar .byte (c0.toInt8.toInt32)))] (.int (0 : Int32))) (qe10 : (nar .byte (c0.toInt8.toInt32) = ((10 : Int32)).toInt8.toInt32) ↔ c0 = (10 : Int32)) (qe13 : (nar .byte (c0.toInt8.toInt32) = ((13 : Int32)).toInt8.toInt32) ↔ c0 = (13 : Int32)) (hix10 : ix1 c0 (10 : Int32) (0 : Int32) = (-1 : Int32)) (hix13 : ix1 c0 (13 : Int32) (0 : Int32) = (-1 : Int32)) (O0 : Old Z n0 h0) (S_CS : Sta Z Z.heap "java/lang/String" "COMPACT_STRINGS" "Z" (.int ccs)) (hcs : ¬ (ccs = (0 : Int32))) (S_AD : Sta Z Z.heap "java/lang/StringUTF16" "$assertionsDisabled" "Z" (.int (1 : Int32))) (S_HI : Sta Z Z.heap "java/lang/StringUTF16" "HI_BYTE_SHIFT" "I" (.int (0 : Int32))) (S_LO : Sta Z Z.heap "java/lang/StringUTF16" "LO_BYTE_SHIFT" "I" (.int (8 : Int32))) (S_SF : Sta Z Z.heap "jdk/internal/util/Preconditions" "SIOOBE_FORMATTER" "Ljava/util/function/BiFunction;" vF) (rF : vF.isRef = true) :
    MetFree l (⟨"com/example/dogwood/dogwood/model/yaml/Lines", "end", "(Ljava/lang/String;ILcom/example/dogwood/dogwood/model/yaml/Occurrences;Lcom/example/dogwood/dogwood/model/yaml/Occurrences;)I"⟩ : MethodName) (head1 (Jvm.Cond.code (⟨"com/example/dogwood/dogwood/model/yaml/Lines", "end", "(Ljava/lang/String;ILcom/example/dogwood/dogwood/model/yaml/Occurrences;Lcom/example/dogwood/dogwood/model/yaml/Occurrences;)I"⟩ : MethodName) prog_16_method_6_code 6 (some .int) :: ws) ({ frames := 5, cells := 0, slots := 0, locals := 88 } : Room)) (fun a U => a = #[(.ref a1), (.int (0 : Int32)), (.ref o1), (.ref o2)] ∧ Z.Warmed39 U.vm ∧ U.heap = h0) (fun _ _ _ _ _ => True) (fun _ U o U' => ∃ v L, o = .returned v ∧ QE_lat Z o1 o2 a1 t1 kb c0 ccs vF h0 n0 v U'.heap L ∧ FrameEnd U o U' L ({ frames := 5, cells := 0, slots := 0, locals := 88 } : Room).cells ({ frames := 5, cells := 0, slots := 0, locals := 88 } : Room).slots) := by
  refine MetFree.of_bodySF (plainFor_of_name pn_com_example_dogwood_dogwood_model_yaml_Lines) hisR ?_
  intro p e s m args below meth c s₁ Bd hml0 hP hK
  obtain ⟨rfl, hZ, hh⟩ := hP
  have hx := Bd.exec
  have hby := Bd.bytes
  have hlk : meth.locks = false := Bd.notSynchronized
  have hml : c.maxLocals = 6 := hml0
  have hown : s.vm.findClass "com/example/dogwood/dogwood/model/yaml/Lines" = some m.cls := findClass_of_methodNamed Bd.named
  have hnm := (name_of_methodNamed Bd.named Bd.method).1
  have X0 : Stand p l e ({ frames := 5, cells := 0, slots := 0, locals := 88 } : Room) s m #[(.ref a1), (.int (0 : Int32)), (.ref o1), (.ref o2)] below meth c s₁ [] 0 0 := Stand.of_body Bd
  have e0 : s₁.heap = h0 := by rw [← hh, Bd.state]; rfl
  have N0 := Fr.nil n0
  show Go p e below (FinE s below (QE_lat Z o1 o2 a1 t1 kb c0 ccs vF h0 n0) ({ frames := 5, cells := 0, slots := 0, locals := 88 } : Room).cells ({ frames := 5, cells := 0, slots := 0, locals := 88 } : Room).slots) (s₁.setTop (entryFrame m #[(.ref a1), (.int (0 : Int32)), (.ref o1), (.ref o2)] 6))
  refine Go.via (fun t k => castTop (ef_rmE_lat m a1 o1 o2) k) ?_
  show Go p e below _ (s₁.setTop (mkF m 0 #[.val (.ref a1), .val (.int (0 : Int32)), .val (.ref o1), .val (.ref o2), .unset, .unset] []))
  refine Go.via (fun _ => XS.aloadN X0.here hx rfl (hb hby d8_0) rfl rfl) ?_
  show Go p e below _ (s₁.setTop (mkF m 1 #[.val (.ref a1), .val (.int (0 : Int32)), .val (.ref o1), .val (.ref o2), .unset, .unset] [(.ref o1)]))
  refine Go.via (fun _ => XS.iloadN X0.here hx rfl (hb hby d8_1) rfl) ?_
  show Go p e below _ (s₁.setTop (mkF m 2 #[.val (.ref a1), .val (.int (0 : Int32)), .val (.ref o1), .val (.ref o2), .unset, .unset] [(.int (0 : Int32)), (.ref o1)]))
  obtain ⟨cq1, kq1, q1a, q1b, q1c⟩ := isOf hZ e0 E_o1
  obtain ⟨_, _, ⟨T1, L1, k1, n1⟩, -, X1, ⟨Lc1, hQ1, l1, y1, z1⟩, st1⟩ := X0.virtualBack hx (y := (⟨"com/example/dogwood/dogwood/model/yaml/Occurrences", "from", "(I)I"⟩ : MethodName)) (z := (⟨"com/example/dogwood/dogwood/model/yaml/Occurrences", "from", "(I)I"⟩ : MethodName)) hown (mvT hZ (hw _ (List.mem_of_getElem? (i := 50) rfl))) (mvT hZ (hw _ (List.mem_of_getElem? (i := 51) rfl))) (notFace_of_selects (args := #[]) (mvT hZ (hw _ (List.mem_of_getElem? (i := 53) rfl)))) (mvT hZ (hw _ (List.mem_of_getElem? (i := 53) rfl))) (mvT hZ (hw _ (List.mem_of_getElem? (i := 52) rfl))) (by decide) (backOf (W := 0) (rmF_1_10_n l Z a0 hw [] o1 a1 t1 kb c0 ccs vF h0 n0 Z0 E_o1 A_o1 B_o1 C_o1 D_o1 g_o1 E2 G1 G2 V2 qe10 hix10 O0 S_CS hcs S_AD S_HI S_LO S_SF rF) hZ (hw _ (List.mem_of_getElem? (i := 54) rfl)) (hw _ (List.mem_of_getElem? (i := 33) rfl)) (by decide) (by decide)) q1a q1c (g := (mkF m 2 #[.val (.ref a1), .val (.int (0 : Int32)), .val (.ref o1), .val (.ref o2), .unset, .unset] [(.int (0 : Int32)), (.ref o1)])) rfl (by rw [hml]; rfl) (Steps.refl _) (argsL := [(.int (0 : Int32))]) (rest := []) (lenOf pd_15 rfl) rfl (by show 2 * 0 + _ ≤ _; exact Nat.le_of_eq rfl) (hb hby d8_2) (fun _ _ => ⟨rfl, e0, (by decide : 0 + 0 ≤ _), (by decide : 0 + 0 ≤ _)⟩)
  dsimp only [Pt.U, Pt.locs, Pt.cells, Pt.slots] at X1 l1 y1 z1 st1 hQ1
  subst l1 y1 z1
  obtain ⟨rfl, N1q, K1q⟩ := hQ1
  have N1 := Fr.app N0 N1q
  refine Go.tr st1 ?_
  have Zs1 : n0 ≤ T1.heap.size := Nat.le_trans Z0 K1q.1
  have O1 : Old Z n0 T1.heap := O0.keep K1q (allS g_o1 all0)
  have K1 : Keep h0 T1.heap [o1, o2] := (Keep.refl h0 [o1, o2]).trans K1q (allS (Or.inl (List.mem_of_getElem? (i := 0) rfl)) all0)
  have fE_o1_1 := E_o1.keep K1q
  have fE_o2_1 := E_o2.keep K1q
  have fF_o2_from_1 := A_o2.keep K1q (ninS (Ne.symm ne12) nin0)
  have fF_o2_found_1 := B_o2.keep K1q (ninS (Ne.symm ne12) nin0)
  have fF_o2_text_1 := C_o2.keep K1q (ninS (Ne.symm ne12) nin0)
  have fF_o2_c_1 := D_o2.keep K1q (ninS (Ne.symm ne12) nin0)
  have fE_a1_1 := E2.keep K1q
  have fF_a1_value_1 := G1.keep K1q (ninS nea1 nin0)
  have fF_a1_coder_1 := G2.keep K1q (ninS nea1 nin0)
  have fV_t1_1 := V2.keep K1q (ninS net1 nin0)
  show Go p e below _ (T1.setTop (mkF m 5 #[.val (.ref a1), .val (.int (0 : Int32)), .val (.ref o1), .val (.ref o2), .unset, .unset] [(.int (-1 : Int32))]))
  refine Go.via (fun _ => XS.istore X1.here hx rfl (hb hby d8_5) rfl (l' := #[.val (.ref a1), .val (.int (0 : Int32)), .val (.ref o1), .val (.ref o2), .val (.int (-1 : Int32)), .unset]) rfl) ?_
  show Go p e below _ (T1.setTop (mkF m 7 #[.val (.ref a1), .val (.int (0 : Int32)), .val (.ref o1), .val (.ref o2), .val (.int (-1 : Int32)), .unset] []))
  refine Go.via (fun _ => XS.aloadN X1.here hx rfl (hb hby d8_7) rfl rfl) ?_
  show Go p e below _ (T1.setTop (mkF m 8 #[.val (.ref a1), .val (.int (0 : Int32)), .val (.ref o1), .val (.ref o2), .val (.int (-1 : Int32)), .unset] [(.ref o2)]))
  refine Go.via (fun _ => XS.iloadN X1.here hx rfl (hb hby d8_8) rfl) ?_
  show Go p e below _ (T1.setTop (mkF m 9 #[.val (.ref a1), .val (.int (0 : Int32)), .val (.ref o1), .val (.ref o2), .val (.int (-1 : Int32)), .unset] [(.int (0 : Int32)), (.ref o2)]))
  obtain ⟨cq2, kq2, q2a, q2b, q2c⟩ := isOf hZ rfl fE_o2_1
  obtain ⟨_, _, ⟨T2, L2, k2, n2⟩, -, X2, ⟨Lc2, hQ2, l2, y2, z2⟩, st2⟩ := X1.virtualBack hx (y := (⟨"com/example/dogwood/dogwood/model/yaml/Occurrences", "from", "(I)I"⟩ : MethodName)) (z := (⟨"com/example/dogwood/dogwood/model/yaml/Occurrences", "from", "(I)I"⟩ : MethodName)) hown (mvT hZ (hw _ (List.mem_of_getElem? (i := 50) rfl))) (mvT hZ (hw _ (List.mem_of_getElem? (i := 51) rfl))) (notFace_of_selects (args := #[]) (mvT hZ (hw _ (List.mem_of_getElem? (i := 53) rfl)))) (mvT hZ (hw _ (List.mem_of_getElem? (i := 53) rfl))) (mvT hZ (hw _ (List.mem_of_getElem? (i := 52) rfl))) (by decide) (backOf (W := 0) (rmF_1_13_n l Z a0 hw [] o2 a1 t1 kb c0 ccs vF T1.heap n0 Zs1 fE_o2_1 fF_o2_from_1 fF_o2_found_1 fF_o2_text_1 fF_o2_c_1 g_o2 fE_a1_1 fF_a1_value_1 fF_a1_coder_1 fV_t1_1 qe13 hix13 O1 S_CS hcs S_AD S_HI S_LO S_SF rF) hZ (hw _ (List.mem_of_getElem? (i := 54) rfl)) (hw _ (List.mem_of_getElem? (i := 33) rfl)) (by decide) (by decide)) q2a q2c (g := (mkF m 9 #[.val (.ref a1), .val (.int (0 : Int32)), .val (.ref o1), .val (.ref o2), .val (.int (-1 : Int32)), .unset] [(.int (0 : Int32)), (.ref o2)])) rfl (by rw [hml]; rfl) (Steps.refl _) (argsL := [(.int (0 : Int32))]) (rest := []) (lenOf pd_15 rfl) rfl (by show 2 * 0 + _ ≤ _; exact Nat.le_of_eq rfl) (hb hby d8_9) (fun _ _ => ⟨rfl, rfl, (by decide : 0 + 0 ≤ _), (by decide : 0 + 0 ≤ _)⟩)
  dsimp only [Pt.U, Pt.locs, Pt.cells, Pt.slots] at X2 l2 y2 z2 st2 hQ2
  subst l2 y2 z2
  obtain ⟨rfl, N2q, K2q⟩ := hQ2
  have N2 := Fr.app N1 N2q
  refine Go.tr st2 ?_
  have Zs2 : n0 ≤ T2.heap.size := Nat.le_trans Zs1 K2q.1
  have O2 : Old Z n0 T2.heap := O1.keep K2q (allS g_o2 all0)
  have K2 : Keep h0 T2.heap [o1, o2] := K1.trans K2q (allS (Or.inl (List.mem_of_getElem? (i := 1) rfl)) all0)
  have fE_o1_2 := fE_o1_1.keep K2q
  have fE_o2_2 := fE_o2_1.keep K2q
  have fE_a1_2 := fE_a1_1.keep K2q
  have fF_a1_value_2 := fF_a1_value_1.keep K2q (ninS nea2 nin0)
  have fF_a1_coder_2 := fF_a1_coder_1.keep K2q (ninS nea2 nin0)
  have fV_t1_2 := fV_t1_1.keep K2q (ninS net2 nin0)
  show Go p e below _ (T2.setTop (mkF m 12 #[.val (.ref a1), .val (.int (0 : Int32)), .val (.ref o1), .val (.ref o2), .val (.int (-1 : Int32)), .unset] [(.int (-1 : Int32))]))
  refine Go.via (fun _ => XS.istore X2.here hx rfl (hb hby d8_12) rfl (l' := #[.val (.ref a1), .val (.int (0 : Int32)), .val (.ref o1), .val (.ref o2), .val (.int (-1 : Int32)), .val (.int (-1 : Int32))]) rfl) ?_
  show Go p e below _ (T2.setTop (mkF m 14 #[.val (.ref a1), .val (.int (0 : Int32)), .val (.ref o1), .val (.ref o2), .val (.int (-1 : Int32)), .val (.int (-1 : Int32))] []))
  refine Go.via (fun _ => XS.iload X2.here hx rfl (hb hby d8_14) rfl) ?_
  show Go p e below _ (T2.setTop (mkF m 16 #[.val (.ref a1), .val (.int (0 : Int32)), .val (.ref o1), .val (.ref o2), .val (.int (-1 : Int32)), .val (.int (-1 : Int32))] [(.int (-1 : Int32))]))
  refine Go.via (fun _ => XS.ifYes X2.here hx rfl (pc0 := 16) (pc' := 31) rfl (hb hby d8_16) rfl (by decide) (by decide) (by decide)) ?_
  show Go p e below _ (T2.setTop (mkF m 31 #[.val (.ref a1), .val (.int (0 : Int32)), .val (.ref o1), .val (.ref o2), .val (.int (-1 : Int32)), .val (.int (-1 : Int32))] []))
  refine Go.via (fun _ => XS.iload X2.here hx rfl (hb hby d8_31) rfl) ?_
  show Go p e below _ (T2.setTop (mkF m 33 #[.val (.ref a1), .val (.int (0 : Int32)), .val (.ref o1), .val (.ref o2), .val (.int (-1 : Int32)), .val (.int (-1 : Int32))] [(.int (-1 : Int32))]))
  refine Go.via (fun _ => XS.ifNo X2.here hx rfl (hb hby d8_33) rfl (by decide)) ?_
  show Go p e below _ (T2.setTop (mkF m 36 #[.val (.ref a1), .val (.int (0 : Int32)), .val (.ref o1), .val (.ref o2), .val (.int (-1 : Int32)), .val (.int (-1 : Int32))] []))
  refine Go.via (fun _ => XS.aloadN X2.here hx rfl (hb hby d8_36) rfl rfl) ?_
  show Go p e below _ (T2.setTop (mkF m 37 #[.val (.ref a1), .val (.int (0 : Int32)), .val (.ref o1), .val (.ref o2), .val (.int (-1 : Int32)), .val (.int (-1 : Int32))] [(.ref a1)]))
  obtain ⟨cq3, kq3, q3a, q3b, q3c⟩ := isOf hZ rfl fE_a1_2
  obtain ⟨_, _, ⟨T3, L3, k3, n3⟩, -, X3, ⟨Lc3, hQ3, l3, y3, z3⟩, st3⟩ := X2.virtualBack hx (y := (⟨"java/lang/String", "length", "()I"⟩ : MethodName)) (z := (⟨"java/lang/String", "length", "()I"⟩ : MethodName)) hown (mvT hZ (hw _ (List.mem_of_getElem? (i := 91) rfl))) (mvT hZ (hw _ (List.mem_of_getElem? (i := 66) rfl))) (notFace_of_selects (args := #[]) (mvT hZ (hw _ (List.mem_of_getElem? (i := 68) rfl)))) (mvT hZ (hw _ (List.mem_of_getElem? (i := 68) rfl))) (mvT hZ (hw _ (List.mem_of_getElem? (i := 67) rfl))) (by decide) (backOf (W := 0) (rmLen_1 l Z a0 hw [] a1 t1 kb _ ccs vF T2.heap n0 Zs2 fE_a1_2 fF_a1_value_2 fF_a1_coder_2 fV_t1_2 O2 S_CS hcs S_AD S_HI S_LO S_SF rF) hZ (hw _ (List.mem_of_getElem? (i := 69) rfl)) (hw _ (List.mem_of_getElem? (i := 7) rfl)) (by decide) (by decide)) q3a q3c (g := (mkF m 37 #[.val (.ref a1), .val (.int (0 : Int32)), .val (.ref o1), .val (.ref o2), .val (.int (-1 : Int32)), .val (.int (-1 : Int32))] [(.ref a1)])) rfl (by rw [hml]; rfl) (Steps.refl _) (argsL := []) (rest := []) (lenOf pd_9 rfl) rfl (by show 2 * 0 + _ ≤ _; exact Nat.le_of_eq rfl) (hb hby d8_37) (fun _ _ => ⟨rfl, rfl, (by decide : 0 + 0 ≤ _), (by decide : 0 + 0 ≤ _)⟩)
  dsimp only [Pt.U, Pt.locs, Pt.cells, Pt.slots] at X3 l3 y3 z3 st3 hQ3
  subst l3 y3 z3
  obtain ⟨rfl, N3q, e3q⟩ := hQ3
  have N3 := Fr.app N2 N3q
  refine Go.tr st3 ?_
  show Go p e below _ (T3.setTop (mkF m 40 #[.val (.ref a1), .val (.int (0 : Int32)), .val (.ref o1), .val (.ref o2), .val (.int (-1 : Int32)), .val (.int (-1 : Int32))] [(.int (1 : Int32))]))
  refine Go.via (fun _ => XS.goto X3.here hx rfl (pc0 := 40) (pc' := 45) rfl (hb hby d8_40) (by decide) (by decide)) ?_
  show Go p e below _ (T3.setTop (mkF m 45 #[.val (.ref a1), .val (.int (0 : Int32)), .val (.ref o1), .val (.ref o2), .val (.int (-1 : Int32)), .val (.int (-1 : Int32))] [(.int (1 : Int32))]))
  exact own_retI X3 hx hlk Bd.returns (hb hby d8_45) (by show QE_lat Z o1 o2 a1 t1 kb c0 ccs vF h0 n0 _ T3.heap _; rw [e3q]; exact ⟨rfl, N3, K2⟩) (by decide) (by decide)
theorem ef_rmE_u16 (m : MethodId) (x0 : Addr) (x2 : Addr) (x3 : Addr) : entryFrame m #[(.ref x0), (.int (0 : Int32)), (.ref x2), (.ref x3)] 6 = mkF m 0 #[.val (.ref x0), .val (.int (0 : Int32)), .val (.ref x2), .val (.ref x3), .unset, .unset] [] := by first | (simp [entryFrame, mkF, argsToLocals, Value.category]; done) | rfl
def QE_u16 (Z : State) (o1 : Addr) (o2 : Addr) (a1 : Addr) (t1 : Addr) (kb : ClassId) (c0 : Int32) (ccs : Int32) (vF : Value) (h0 : Heap) (n0 : Nat) (v : Option Value) (h : Heap) (L : List Loc) : Prop := v = some (.int (1 : Int32)) ∧ Fr n0 L ∧ Keep h0 h [o1, o2]
set_option maxRecDepth 65536 in
set_option maxHeartbeats 40000000 in
theorem rmE_u16 (l : Launch) (Z : State) (a0 : Array Value) (hw : ∀ d ∈ tables_1, d.before a0 Z = true) (ws : List Jvm.Cond) (o1 : Addr) (o2 : Addr) (a1 : Addr) (t1 : Addr) (kb : ClassId) (c0 : Int32) (ccs : Int32) (vF : Value) (h0 : Heap) (n0 : Nat) (Z0 : n0 ≤ h0.size) (E_o1 : Exa Z h0 o1 "com/example/dogwood/dogwood/model/yaml/Occurrences") (A_o1 : Fld Z h0 o1 "com/example/dogwood/dogwood/model/yaml/Occurrences" "from" "I" (.int (2147483647 : Int32))) (B_o1 : Fld Z h0 o1 "com/example/dogwood/dogwood/model/yaml/Occurrences" "found" "I" (.int (-1 : Int32))) (C_o1 : Fld Z h0 o1 "com/example/dogwood/dogwood/model/yaml/Occurrences" "text" "Ljava/lang/String;" (.ref a1)) (D_o1 : Fld Z h0 o1 "com/example/dogwood/dogwood/model/yaml/Occurrences" "c" "C" (.int (10 : Int32))) (g_o1 : n0 ≤ o1) (E_o2 : Exa Z h0 o2 "com/example/dogwood/dogwood/model/yaml/Occurrences") (A_o2 : Fld Z h0 o2 "com/example/dogwood/dogwood/model/yaml/Occurrences" "from" "I" (.int (2147483647 : Int32))) (B_o2 : Fld Z h0 o2 "com/example/dogwood/dogwood/model/yaml/Occurrences" "found" "I" (.int (-1 : Int32))) (C_o2 : Fld Z h0 o2 "com/example/dogwood/dogwood/model/yaml/Occurrences" "text" "Ljava/lang/String;" (.ref a1)) (D_o2 : Fld Z h0 o2 "com/example/dogwood/dogwood/model/yaml/Occurrences" "c" "C" (.int (13 : Int32))) (g_o2 : n0 ≤ o2) (ne12 : o1 ≠ o2) (nea1 : a1 ≠ o1) (nea2 : a1 ≠ o2) (net1 : t1 ≠ o1) (net2 : t1 ≠ o2) (E2 : Exa Z h0 a1 "java/lang/String") (G1 : Fld Z h0 a1 "java/lang/String" "value" "[B" (.ref t1)) (G2 : Fld Z h0 a1 "java/lang/String" "coder" "B" (.int (1 : Int32))) (V2 : Arv Z h0 t1 kb .byte (2 : Int32) [(.int (nar .byte ((c0 >>> ((0 : Int32) &&& 31)).toInt8.toInt32))), (.int (nar .byte ((c0 >>> ((8 : Int32) &&& 31)).toInt8.toInt32)))] (.int (0 : Int32))) (hu : nar .char ((((((nar .byte ((c0 >>> ((0 : Int32) &&& 31)).toInt8.toInt32))) &&& (255 : Int32)) <<< ((0 : Int32) &&& 31)) ||| ((((nar .byte ((c0 >>> ((8 : Int32) &&& 31)).toInt8.toInt32))) &&& (255 : Int32)) <<< ((8 : Int32) &&& 31))).toUInt32.toUInt16.toUInt32.toInt32) = c0) (hne10 : ¬ (c0 = (10 : Int32))) (hne13 : ¬ (c0 = (13 : Int32))) (O0 : Old Z n0 h0) (S_CS : Sta Z Z.heap "java/lang/String" "COMPACT_STRINGS" "Z" (.int ccs)) (hcs : ¬ (ccs = (0 : Int32))) (S_AD : Sta Z Z.heap "java/lang/StringUTF16" "$assertionsDisabled" "Z" (.int (1 : Int32))) (S_HI : Sta Z Z.heap "java/lang/StringUTF16" "HI_BYTE_SHIFT" "I" (.int (0 : Int32))) (S_LO : Sta Z Z.heap "java/lang/StringUTF16" "LO_BYTE_SHIFT" "I" (.int (8 : Int32))) (S_SF : Sta Z Z.heap "jdk/internal/util/Preconditions" "SIOOBE_FORMATTER" "Ljava/util/function/BiFunction;" vF) (rF : vF.isRef = true) :
    MetFree l (⟨"com/example/dogwood/dogwood/model/yaml/Lines", "end", "(Ljava/lang/String;ILcom/example/dogwood/dogwood/model/yaml/Occurrences;Lcom/example/dogwood/dogwood/model/yaml/Occurrences;)I"⟩ : MethodName) (head1 (Jvm.Cond.code (⟨"com/example/dogwood/dogwood/model/yaml/Lines", "end", "(Ljava/lang/String;ILcom/example/dogwood/dogwood/model/yaml/Occurrences;Lcom/example/dogwood/dogwood/model/yaml/Occurrences;)I"⟩ : MethodName) prog_16_method_6_code 6 (some .int) :: ws) ({ frames := 7, cells := 0, slots := 0, locals := 101 } : Room)) (fun a U => a = #[(.ref a1), (.int (0 : Int32)), (.ref o1), (.ref o2)] ∧ Z.Warmed39 U.vm ∧ U.heap = h0) (fun _ _ _ _ _ => True) (fun _ U o U' => ∃ v L, o = .returned v ∧ QE_u16 Z o1 o2 a1 t1 kb c0 ccs vF h0 n0 v U'.heap L ∧ FrameEnd U o U' L ({ frames := 7, cells := 0, slots := 0, locals := 101 } : Room).cells ({ frames := 7, cells := 0, slots := 0, locals := 101 } : Room).slots) := by
  refine MetFree.of_bodySF (plainFor_of_name pn_com_example_dogwood_dogwood_model_yaml_Lines) hisR ?_
  intro p e s m args below meth c s₁ Bd hml0 hP hK
  obtain ⟨rfl, hZ, hh⟩ := hP
  have hx := Bd.exec
  have hby := Bd.bytes
  have hlk : meth.locks = false := Bd.notSynchronized
  have hml : c.maxLocals = 6 := hml0
  have hown : s.vm.findClass "com/example/dogwood/dogwood/model/yaml/Lines" = some m.cls := findClass_of_methodNamed Bd.named
  have hnm := (name_of_methodNamed Bd.named Bd.method).1
  have X0 : Stand p l e ({ frames := 7, cells := 0, slots := 0, locals := 101 } : Room) s m #[(.ref a1), (.int (0 : Int32)), (.ref o1), (.ref o2)] below meth c s₁ [] 0 0 := Stand.of_body Bd
  have e0 : s₁.heap = h0 := by rw [← hh, Bd.state]; rfl
  have N0 := Fr.nil n0
  show Go p e below (FinE s below (QE_u16 Z o1 o2 a1 t1 kb c0 ccs vF h0 n0) ({ frames := 7, cells := 0, slots := 0, locals := 101 } : Room).cells ({ frames := 7, cells := 0, slots := 0, locals := 101 } : Room).slots) (s₁.setTop (entryFrame m #[(.ref a1), (.int (0 : Int32)), (.ref o1), (.ref o2)] 6))
  refine Go.via (fun t k => castTop (ef_rmE_u16 m a1 o1 o2) k) ?_
  show Go p e below _ (s₁.setTop (mkF m 0 #[.val (.ref a1), .val (.int (0 : Int32)), .val (.ref o1), .val (.ref o2), .unset, .unset] []))
  refine Go.via (fun _ => XS.aloadN X0.here hx rfl (hb hby d8_0) rfl rfl) ?_
  show Go p e below _ (s₁.setTop (mkF m 1 #[.val (.ref a1), .val (.int (0 : Int32)), .val (.ref o1), .val (.ref o2), .unset, .unset] [(.ref o1)]))
  refine Go.via (fun _ => XS.iloadN X0.here hx rfl (hb hby d8_1) rfl) ?_
  show Go p e below _ (s₁.setTop (mkF m 2 #[.val (.ref a1), .val (.int (0 : Int32)), .val (.ref o1), .val (.ref o2), .unset, .unset] [(.int (0 : Int32)), (.ref o1)]))
  obtain ⟨cq1, kq1, q1a, q1b, q1c⟩ := isOf hZ e0 E_o1
  obtain ⟨_, _, ⟨T1, L1, k1, n1⟩, -, X1, ⟨Lc1, hQ1, l1, y1, z1⟩, st1⟩ := X0.virtualBack hx (y := (⟨"com/example/dogwood/dogwood/model/yaml/Occurrences", "from", "(I)I"⟩ : MethodName)) (z := (⟨"com/example/dogwood/dogwood/model/yaml/Occurrences", "from", "(I)I"⟩ : MethodName)) hown (mvT hZ (hw _ (List.mem_of_getElem? (i := 50) rfl))) (mvT hZ (hw _ (List.mem_of_getElem? (i := 51) rfl))) (notFace_of_selects (args := #[]) (mvT hZ (hw _ (List.mem_of_getElem? (i := 53) rfl)))) (mvT hZ (hw _ (List.mem_of_getElem? (i := 53) rfl))) (mvT hZ (hw _ (List.mem_of_getElem? (i := 52) rfl))) (by decide) (backOf (W := 0) (rmF_0_10_n l Z a0 hw [] o1 a1 t1 kb c0 ccs vF h0 n0 Z0 E_o1 A_o1 B_o1 C_o1 D_o1 g_o1 E2 G1 G2 V2 hu hne10 O0 S_CS hcs S_AD S_HI S_LO S_SF rF) hZ (hw _ (List.mem_of_getElem? (i := 54) rfl)) (hw _ (List.mem_of_getElem? (i := 33) rfl)) (by decide) (by decide)) q1a q1c (g := (mkF m 2 #[.val (.ref a1), .val (.int (0 : Int32)), .val (.ref o1), .val (.ref o2), .unset, .unset] [(.int (0 : Int32)), (.ref o1)])) rfl (by rw [hml]; rfl) (Steps.refl _) (argsL := [(.int (0 : Int32))]) (rest := []) (lenOf pd_15 rfl) rfl (by show 2 * 0 + _ ≤ _; exact Nat.le_of_eq rfl) (hb hby d8_2) (fun _ _ => ⟨rfl, e0, (by decide : 0 + 0 ≤ _), (by decide : 0 + 0 ≤ _)⟩)
  dsimp only [Pt.U, Pt.locs, Pt.cells, Pt.slots] at X1 l1 y1 z1 st1 hQ1
  subst l1 y1 z1
  obtain ⟨rfl, N1q, K1q⟩ := hQ1
  have N1 := Fr.app N0 N1q
  refine Go.tr st1 ?_
  have Zs1 : n0 ≤ T1.heap.size := Nat.le_trans Z0 K1q.1
  have O1 : Old Z n0 T1.heap := O0.keep K1q (allS g_o1 all0)
  have K1 : Keep h0 T1.heap [o1, o2] := (Keep.refl h0 [o1, o2]).trans K1q (allS (Or.inl (List.mem_of_getElem? (i := 0) rfl)) all0)
  have fE_o1_1 := E_o1.keep K1q
  have fE_o2_1 := E_o2.keep K1q
  have fF_o2_from_1 := A_o2.keep K1q (ninS (Ne.symm ne12) nin0)
  have fF_o2_found_1 := B_o2.keep K1q (ninS (Ne.symm ne12) nin0)
  have fF_o2_text_1 := C_o2.keep K1q (ninS (Ne.symm ne12) nin0)
  have fF_o2_c_1 := D_o2.keep K1q (ninS (Ne.symm ne12) nin0)
  have fE_a1_1 := E2.keep K1q
  have fF_a1_value_1 := G1.keep K1q (ninS nea1 nin0)
  have fF_a1_coder_1 := G2.keep K1q (ninS nea1 nin0)
  have fV_t1_1 := V2.keep K1q (ninS net1 nin0)
  show Go p e below _ (T1.setTop (mkF m 5 #[.val (.ref a1), .val (.int (0 : Int32)), .val (.ref o1), .val (.ref o2), .unset, .unset] [(.int (-1 : Int32))]))
  refine Go.via (fun _ => XS.istore X1.here hx rfl (hb hby d8_5) rfl (l' := #[.val (.ref a1), .val (.int (0 : Int32)), .val (.ref o1), .val (.ref o2), .val (.int (-1 : Int32)), .unset]) rfl) ?_
  show Go p e below _ (T1.setTop (mkF m 7 #[.val (.ref a1), .val (.int (0 : Int32)), .val (.ref o1), .val (.ref o2), .val (.int (-1 : Int32)), .unset] []))
  refine Go.via (fun _ => XS.aloadN X1.here hx rfl (hb hby d8_7) rfl rfl) ?_
  show Go p e below _ (T1.setTop (mkF m 8 #[.val (.ref a1), .val (.int (0 : Int32)), .val (.ref o1), .val (.ref o2), .val (.int (-1 : Int32)), .unset] [(.ref o2)]))
  refine Go.via (fun _ => XS.iloadN X1.here hx rfl (hb hby d8_8) rfl) ?_
  show Go p e below _ (T1.setTop (mkF m 9 #[.val (.ref a1), .val (.int (0 : Int32)), .val (.ref o1), .val (.ref o2), .val (.int (-1 : Int32)), .unset] [(.int (0 : Int32)), (.ref o2)]))
  obtain ⟨cq2, kq2, q2a, q2b, q2c⟩ := isOf hZ rfl fE_o2_1
  obtain ⟨_, _, ⟨T2, L2, k2, n2⟩, -, X2, ⟨Lc2, hQ2, l2, y2, z2⟩, st2⟩ := X1.virtualBack hx (y := (⟨"com/example/dogwood/dogwood/model/yaml/Occurrences", "from", "(I)I"⟩ : MethodName)) (z := (⟨"com/example/dogwood/dogwood/model/yaml/Occurrences", "from", "(I)I"⟩ : MethodName)) hown (mvT hZ (hw _ (List.mem_of_getElem? (i := 50) rfl))) (mvT hZ (hw _ (List.mem_of_getElem? (i := 51) rfl))) (notFace_of_selects (args := #[]) (mvT hZ (hw _ (List.mem_of_getElem? (i := 53) rfl)))) (mvT hZ (hw _ (List.mem_of_getElem? (i := 53) rfl))) (mvT hZ (hw _ (List.mem_of_getElem? (i := 52) rfl))) (by decide) (backOf (W := 0) (rmF_0_13_n l Z a0 hw [] o2 a1 t1 kb c0 ccs vF T1.heap n0 Zs1 fE_o2_1 fF_o2_from_1 fF_o2_found_1 fF_o2_text_1 fF_o2_c_1 g_o2 fE_a1_1 fF_a1_value_1 fF_a1_coder_1 fV_t1_1 hu hne13 O1 S_CS hcs S_AD S_HI S_LO S_SF rF) hZ (hw _ (List.mem_of_getElem? (i := 54) rfl)) (hw _ (List.mem_of_getElem? (i := 33) rfl)) (by decide) (by decide)) q2a q2c (g := (mkF m 9 #[.val (.ref a1), .val (.int (0 : Int32)), .val (.ref o1), .val (.ref o2), .val (.int (-1 : Int32)), .unset] [(.int (0 : Int32)), (.ref o2)])) rfl (by rw [hml]; rfl) (Steps.refl _) (argsL := [(.int (0 : Int32))]) (rest := []) (lenOf pd_15 rfl) rfl (by show 2 * 0 + _ ≤ _; exact Nat.le_of_eq rfl) (hb hby d8_9) (fun _ _ => ⟨rfl, rfl, (by decide : 0 + 0 ≤ _), (by decide : 0 + 0 ≤ _)⟩)
  dsimp only [Pt.U, Pt.locs, Pt.cells, Pt.slots] at X2 l2 y2 z2 st2 hQ2
  subst l2 y2 z2
  obtain ⟨rfl, N2q, K2q⟩ := hQ2
  have N2 := Fr.app N1 N2q
  refine Go.tr st2 ?_
  have Zs2 : n0 ≤ T2.heap.size := Nat.le_trans Zs1 K2q.1
  have O2 : Old Z n0 T2.heap := O1.keep K2q (allS g_o2 all0)
  have K2 : Keep h0 T2.heap [o1, o2] := K1.trans K2q (allS (Or.inl (List.mem_of_getElem? (i := 1) rfl)) all0)
  have fE_o1_2 := fE_o1_1.keep K2q
  have fE_o2_2 := fE_o2_1.keep K2q
  have fE_a1_2 := fE_a1_1.keep K2q
  have fF_a1_value_2 := fF_a1_value_1.keep K2q (ninS nea2 nin0)
  have fF_a1_coder_2 := fF_a1_coder_1.keep K2q (ninS nea2 nin0)
  have fV_t1_2 := fV_t1_1.keep K2q (ninS net2 nin0)
  show Go p e below _ (T2.setTop (mkF m 12 #[.val (.ref a1), .val (.int (0 : Int32)), .val (.ref o1), .val (.ref o2), .val (.int (-1 : Int32)), .unset] [(.int (-1 : Int32))]))
  refine Go.via (fun _ => XS.istore X2.here hx rfl (hb hby d8_12) rfl (l' := #[.val (.ref a1), .val (.int (0 : Int32)), .val (.ref o1), .val (.ref o2), .val (.int (-1 : Int32)), .val (.int (-1 : Int32))]) rfl) ?_
  show Go p e below _ (T2.setTop (mkF m 14 #[.val (.ref a1), .val (.int (0 : Int32)), .val (.ref o1), .val (.ref o2), .val (.int (-1 : Int32)), .val (.int (-1 : Int32))] []))
  refine Go.via (fun _ => XS.iload X2.here hx rfl (hb hby d8_14) rfl) ?_
  show Go p e below _ (T2.setTop (mkF m 16 #[.val (.ref a1), .val (.int (0 : Int32)), .val (.ref o1), .val (.ref o2), .val (.int (-1 : Int32)), .val (.int (-1 : Int32))] [(.int (-1 : Int32))]))
  refine Go.via (fun _ => XS.ifYes X2.here hx rfl (pc0 := 16) (pc' := 31) rfl (hb hby d8_16) rfl (by decide) (by decide) (by decide)) ?_
  show Go p e below _ (T2.setTop (mkF m 31 #[.val (.ref a1), .val (.int (0 : Int32)), .val (.ref o1), .val (.ref o2), .val (.int (-1 : Int32)), .val (.int (-1 : Int32))] []))
  refine Go.via (fun _ => XS.iload X2.here hx rfl (hb hby d8_31) rfl) ?_
  show Go p e below _ (T2.setTop (mkF m 33 #[.val (.ref a1), .val (.int (0 : Int32)), .val (.ref o1), .val (.ref o2), .val (.int (-1 : Int32)), .val (.int (-1 : Int32))] [(.int (-1 : Int32))]))
  refine Go.via (fun _ => XS.ifNo X2.here hx rfl (hb hby d8_33) rfl (by decide)) ?_
  show Go p e below _ (T2.setTop (mkF m 36 #[.val (.ref a1), .val (.int (0 : Int32)), .val (.ref o1), .val (.ref o2), .val (.int (-1 : Int32)), .val (.int (-1 : Int32))] []))
  refine Go.via (fun _ => XS.aloadN X2.here hx rfl (hb hby d8_36) rfl rfl) ?_
  show Go p e below _ (T2.setTop (mkF m 37 #[.val (.ref a1), .val (.int (0 : Int32)), .val (.ref o1), .val (.ref o2), .val (.int (-1 : Int32)), .val (.int (-1 : Int32))] [(.ref a1)]))
  obtain ⟨cq3, kq3, q3a, q3b, q3c⟩ := isOf hZ rfl fE_a1_2
  obtain ⟨_, _, ⟨T3, L3, k3, n3⟩, -, X3, ⟨Lc3, hQ3, l3, y3, z3⟩, st3⟩ := X2.virtualBack hx (y := (⟨"java/lang/String", "length", "()I"⟩ : MethodName)) (z := (⟨"java/lang/String", "length", "()I"⟩ : MethodName)) hown (mvT hZ (hw _ (List.mem_of_getElem? (i := 91) rfl))) (mvT hZ (hw _ (List.mem_of_getElem? (i := 66) rfl))) (notFace_of_selects (args := #[]) (mvT hZ (hw _ (List.mem_of_getElem? (i := 68) rfl)))) (mvT hZ (hw _ (List.mem_of_getElem? (i := 68) rfl))) (mvT hZ (hw _ (List.mem_of_getElem? (i := 67) rfl))) (by decide) (backOf (W := 0) (rmLen16_1 l Z a0 hw [] a1 t1 kb _ ccs vF T2.heap n0 Zs2 fE_a1_2 fF_a1_value_2 fF_a1_coder_2 fV_t1_2 O2 S_CS hcs S_AD S_HI S_LO S_SF rF) hZ (hw _ (List.mem_of_getElem? (i := 69) rfl)) (hw _ (List.mem_of_getElem? (i := 7) rfl)) (by decide) (by decide)) q3a q3c (g := (mkF m 37 #[.val (.ref a1), .val (.int (0 : Int32)), .val (.ref o1), .val (.ref o2), .val (.int (-1 : Int32)), .val (.int (-1 : Int32))] [(.ref a1)])) rfl (by rw [hml]; rfl) (Steps.refl _) (argsL := []) (rest := []) (lenOf pd_9 rfl) rfl (by show 2 * 0 + _ ≤ _; exact Nat.le_of_eq rfl) (hb hby d8_37) (fun _ _ => ⟨rfl, rfl, (by decide : 0 + 0 ≤ _), (by decide : 0 + 0 ≤ _)⟩)
  dsimp only [Pt.U, Pt.locs, Pt.cells, Pt.slots] at X3 l3 y3 z3 st3 hQ3
  subst l3 y3 z3
  obtain ⟨rfl, N3q, e3q⟩ := hQ3
  have N3 := Fr.app N2 N3q
  refine Go.tr st3 ?_
  show Go p e below _ (T3.setTop (mkF m 40 #[.val (.ref a1), .val (.int (0 : Int32)), .val (.ref o1), .val (.ref o2), .val (.int (-1 : Int32)), .val (.int (-1 : Int32))] [(.int (1 : Int32))]))
  refine Go.via (fun _ => XS.goto X3.here hx rfl (pc0 := 40) (pc' := 45) rfl (hb hby d8_40) (by decide) (by decide)) ?_
  show Go p e below _ (T3.setTop (mkF m 45 #[.val (.ref a1), .val (.int (0 : Int32)), .val (.ref o1), .val (.ref o2), .val (.int (-1 : Int32)), .val (.int (-1 : Int32))] [(.int (1 : Int32))]))
  exact own_retI X3 hx hlk Bd.returns (hb hby d8_45) (by show QE_u16 Z o1 o2 a1 t1 kb c0 ccs vF h0 n0 _ T3.heap _; rw [e3q]; exact ⟨rfl, N3, K2⟩) (by decide) (by decide)
theorem own_q10_10 : (nar .byte (((10 : Int32)).toInt8.toInt32) = ((10 : Int32)).toInt8.toInt32) ↔ (10 : Int32) = (10 : Int32) := by decide
theorem own_q13_10 : (nar .byte (((10 : Int32)).toInt8.toInt32) = ((13 : Int32)).toInt8.toInt32) ↔ (10 : Int32) = (13 : Int32) := by decide
theorem own_q10_13 : (nar .byte (((13 : Int32)).toInt8.toInt32) = ((10 : Int32)).toInt8.toInt32) ↔ (13 : Int32) = (10 : Int32) := by decide
theorem own_q13_13 : (nar .byte (((13 : Int32)).toInt8.toInt32) = ((13 : Int32)).toInt8.toInt32) ↔ (13 : Int32) = (13 : Int32) := by decide
theorem ef_rm0 (m : MethodId) (x0 : Int32) : entryFrame m #[(.int x0)] maxLocals = mkF m 0 #[.val (.int x0), .unset, .unset, .unset, .unset, .unset, .unset, .unset] [] := by first | (simp [entryFrame, mkF, argsToLocals, Value.category, maxLocals]; done) | rfl
def Q0 (Z : State) (p1 : Int32) (ccs : Int32) (vF : Value) (h0 : Heap) (n0 : Nat) (v : Option Value) (h : Heap) (L : List Loc) : Prop := v = some (.int 1) ∧ Fr n0 L
set_option maxRecDepth 65536 in
set_option maxHeartbeats 40000000 in
theorem rm0 (l : Launch) (Z : State) (a0 : Array Value) (hw : ∀ d ∈ tables_1, d.before a0 Z = true) (ws : List Jvm.Cond) (p1 : Int32) (ccs : Int32) (vF : Value) (h0 : Heap) (n0 : Nat) (Z0 : n0 ≤ h0.size) (O0 : Old Z n0 h0) (S_CS : Sta Z Z.heap "java/lang/String" "COMPACT_STRINGS" "Z" (.int ccs)) (hcs : ¬ (ccs = (0 : Int32))) (S_AD : Sta Z Z.heap "java/lang/StringUTF16" "$assertionsDisabled" "Z" (.int (1 : Int32))) (S_HI : Sta Z Z.heap "java/lang/StringUTF16" "HI_BYTE_SHIFT" "I" (.int (0 : Int32))) (S_LO : Sta Z Z.heap "java/lang/StringUTF16" "LO_BYTE_SHIFT" "I" (.int (8 : Int32))) (S_SF : Sta Z Z.heap "jdk/internal/util/Preconditions" "SIOOBE_FORMATTER" "Ljava/util/function/BiFunction;" vF) (rF : vF.isRef = true) :
    MetFree l x (head1 (Jvm.Cond.code x code maxLocals ret :: ws) room_1) (fun a U => a = #[(.int p1)] ∧ Z.Warmed39 U.vm ∧ U.heap = h0) (fun _ _ _ _ _ => True) (fun _ U o U' => ∃ v L, o = .returned v ∧ Q0 Z p1 ccs vF h0 n0 v U'.heap L ∧ FrameEnd U o U' L room_1.cells room_1.slots) := by
  refine MetFree.of_bodySF (plainFor_of_name pn_com_example_dogwood_dogwood_model_yaml_LinesIsBreakPinLaw) hisR ?_
  intro p e s m args below meth c s₁ Bd hml0 hP hK
  obtain ⟨rfl, hZ, hh⟩ := hP
  have hx := Bd.exec
  have hby := Bd.bytes
  have hlk : meth.locks = false := Bd.notSynchronized
  have hml : c.maxLocals = 8 := hml0
  have hown : s.vm.findClass "com/example/dogwood/dogwood/model/yaml/LinesIsBreakPinLaw" = some m.cls := findClass_of_methodNamed Bd.named
  have hnm := (name_of_methodNamed Bd.named Bd.method).1
  have X0 : Stand p l e room_1 s m #[(.int p1)] below meth c s₁ [] 0 0 := Stand.of_body Bd
  have e0 : s₁.heap = h0 := by rw [← hh, Bd.state]; rfl
  have N0 := Fr.nil n0
  show Go p e below (FinE s below (Q0 Z p1 ccs vF h0 n0) room_1.cells room_1.slots) (s₁.setTop (entryFrame m #[(.int p1)] maxLocals))
  refine Go.via (fun t k => castTop (ef_rm0 m p1) k) ?_
  show Go p e below _ (s₁.setTop (mkF m 0 #[.val (.int p1), .unset, .unset, .unset, .unset, .unset, .unset, .unset] []))
  refine Go.via (fun _ => XS.iloadN X0.here hx rfl (hb hby at_0) rfl) ?_
  show Go p e below _ (s₁.setTop (mkF m 1 #[.val (.int p1), .unset, .unset, .unset, .unset, .unset, .unset, .unset] [(.int p1)]))
  refine Go.via (X0.ldcInt hx hown (mvT hZ (hw _ (List.mem_of_getElem? (i := 0) rfl))) (g := (mkF m 1 #[.val (.int p1), .unset, .unset, .unset, .unset, .unset, .unset, .unset] [(.int p1)])) rfl (hb hby at_1)) ?_
  show Go p e below _ (s₁.setTop (mkF m 3 #[.val (.int p1), .unset, .unset, .unset, .unset, .unset, .unset, .unset] [(.int (65535 : Int32)), (.int p1)]))
  refine Go.via (fun _ => XS.iand X0.here hx rfl (hb hby at_3) rfl) ?_
  show Go p e below _ (s₁.setTop (mkF m 4 #[.val (.int p1), .unset, .unset, .unset, .unset, .unset, .unset, .unset] [(.int (p1 &&& (65535 : Int32)))]))
  refine Go.via (fun _ => XS.i2c X0.here hx rfl (hb hby at_4) rfl) ?_
  show Go p e below _ (s₁.setTop (mkF m 5 #[.val (.int p1), .unset, .unset, .unset, .unset, .unset, .unset, .unset] [(.int ((p1 &&& (65535 : Int32)).toUInt32.toUInt16.toUInt32.toInt32))]))
  have r_c := own_i2c (p1 &&& (65535 : Int32))
  generalize hcz : ((p1 &&& (65535 : Int32)).toUInt32.toUInt16.toUInt32.toInt32) = cz at r_c ⊢
  show Go p e below _ (s₁.setTop (mkF m 5 #[.val (.int p1), .unset, .unset, .unset, .unset, .unset, .unset, .unset] [(.int cz)]))
  refine Go.via (fun _ => XS.istoreN X0.here hx rfl (hb hby at_5) rfl (l' := #[.val (.int p1), .val (.int cz), .unset, .unset, .unset, .unset, .unset, .unset]) rfl) ?_
  show Go p e below _ (s₁.setTop (mkF m 6 #[.val (.int p1), .val (.int cz), .unset, .unset, .unset, .unset, .unset, .unset] []))
  refine Go.via (fun _ => XS.iloadN X0.here hx rfl (hb hby at_6) rfl) ?_
  show Go p e below _ (s₁.setTop (mkF m 7 #[.val (.int p1), .val (.int cz), .unset, .unset, .unset, .unset, .unset, .unset] [(.int cz)]))
  refine Go.via (fun _ => XS.bipush X0.here hx rfl (hb hby at_7)) ?_
  show Go p e below _ (s₁.setTop (mkF m 9 #[.val (.int p1), .val (.int cz), .unset, .unset, .unset, .unset, .unset, .unset] [(.int (10 : Int32)), (.int cz)]))
  by_cases hc1 : cz = (10 : Int32)
  · -- yes
    subst hc1
    show Go p e below _ (s₁.setTop (mkF m 9 #[.val (.int p1), .val (.int (10 : Int32)), .unset, .unset, .unset, .unset, .unset, .unset] [(.int (10 : Int32)), (.int (10 : Int32))]))
    show Go p e below _ (s₁.setTop (mkF m 9 #[.val (.int p1), .val (.int (10 : Int32)), .unset, .unset, .unset, .unset, .unset, .unset] [(.int (10 : Int32)), (.int (10 : Int32))]))
    refine Go.via (fun _ => XS.icmpYes X0.here hx rfl (pc0 := 9) (pc' := 18) rfl (hb hby at_9) rfl (by decide) (by decide) (by decide)) ?_
    show Go p e below _ (s₁.setTop (mkF m 18 #[.val (.int p1), .val (.int (10 : Int32)), .unset, .unset, .unset, .unset, .unset, .unset] []))
    refine Go.via (fun _ => XS.iconst X0.here hx rfl (hb hby at_18)) ?_
    show Go p e below _ (s₁.setTop (mkF m 19 #[.val (.int p1), .val (.int (10 : Int32)), .unset, .unset, .unset, .unset, .unset, .unset] [(.int (1 : Int32))]))
    refine Go.via (fun _ => XS.goto X0.here hx rfl (pc0 := 19) (pc' := 23) rfl (hb hby at_19) (by decide) (by decide)) ?_
    show Go p e below _ (s₁.setTop (mkF m 23 #[.val (.int p1), .val (.int (10 : Int32)), .unset, .unset, .unset, .unset, .unset, .unset] [(.int (1 : Int32))]))
    refine Go.via (fun _ => XS.istoreN X0.here hx rfl (hb hby at_23) rfl (l' := #[.val (.int p1), .val (.int (10 : Int32)), .val (.int (1 : Int32)), .unset, .unset, .unset, .unset, .unset]) rfl) ?_
    show Go p e below _ (s₁.setTop (mkF m 24 #[.val (.int p1), .val (.int (10 : Int32)), .val (.int (1 : Int32)), .unset, .unset, .unset, .unset, .unset] []))
    refine Go.via (fun _ => XS.iloadN X0.here hx rfl (hb hby at_24) rfl) ?_
    show Go p e below _ (s₁.setTop (mkF m 25 #[.val (.int p1), .val (.int (10 : Int32)), .val (.int (1 : Int32)), .unset, .unset, .unset, .unset, .unset] [(.int (10 : Int32))]))
    obtain ⟨_, _, ⟨T2, L2, k2, n2⟩, -, X2, ⟨Lc2, hQ2, l2, y2, z2⟩, st2⟩ := Jvm.LawKit.callS X0 hx (y := (⟨"com/example/dogwood/dogwood/model/yaml/Lines", "isBreak", "(C)Z"⟩ : MethodName)) hown (mvT hZ (hw _ (List.mem_of_getElem? (i := 1) rfl))) (mvT hZ (hw _ (List.mem_of_getElem? (i := 2) rfl))) (mvT hZ (hw _ (List.mem_of_getElem? (i := 3) rfl))) (mvT hZ (hw _ (List.mem_of_getElem? (i := 4) rfl))) (by decide) (backOf (W := 0) (rmB_10 l Z a0 hw [] h0 n0 Z0) hZ (hw _ (List.mem_of_getElem? (i := 4) rfl)) (hw _ (List.mem_of_getElem? (i := 3) rfl)) (by decide) (by decide)) (g := (mkF m 25 #[.val (.int p1), .val (.int (10 : Int32)), .val (.int (1 : Int32)), .unset, .unset, .unset, .unset, .unset] [(.int (10 : Int32))])) rfl (by rw [hml]; rfl) (argsL := [(.int (10 : Int32))]) (rest := []) (lenOf pd_1 rfl) rfl (by show 2 * 0 + _ ≤ _; exact Nat.le_of_eq rfl) (hb hby at_25) (fun _ _ => ⟨rfl, e0, (by decide : 0 + 0 ≤ _), (by decide : 0 + 0 ≤ _)⟩)
    dsimp only [Pt.U, Pt.locs, Pt.cells, Pt.slots] at X2 l2 y2 z2 st2 hQ2
    subst l2 y2 z2
    obtain ⟨rfl, N2q, e2q⟩ := hQ2
    have N2 := Fr.app N0 N2q
    refine Go.via st2 ?_
    show Go p e below _ (T2.setTop (mkF m 28 #[.val (.int p1), .val (.int (10 : Int32)), .val (.int (1 : Int32)), .unset, .unset, .unset, .unset, .unset] [(.int (1 : Int32))]))
    refine Go.via (fun _ => XS.istoreN X2.here hx rfl (hb hby at_28) rfl (l' := #[.val (.int p1), .val (.int (10 : Int32)), .val (.int (1 : Int32)), .val (.int (1 : Int32)), .unset, .unset, .unset, .unset]) rfl) ?_
    show Go p e below _ (T2.setTop (mkF m 29 #[.val (.int p1), .val (.int (10 : Int32)), .val (.int (1 : Int32)), .val (.int (1 : Int32)), .unset, .unset, .unset, .unset] []))
    refine Go.via (fun _ => XS.iloadN X2.here hx rfl (hb hby at_29) rfl) ?_
    show Go p e below _ (T2.setTop (mkF m 30 #[.val (.int p1), .val (.int (10 : Int32)), .val (.int (1 : Int32)), .val (.int (1 : Int32)), .unset, .unset, .unset, .unset] [(.int (1 : Int32))]))
    refine Go.via (fun _ => XS.iloadN X2.here hx rfl (hb hby at_30) rfl) ?_
    show Go p e below _ (T2.setTop (mkF m 31 #[.val (.int p1), .val (.int (10 : Int32)), .val (.int (1 : Int32)), .val (.int (1 : Int32)), .unset, .unset, .unset, .unset] [(.int (1 : Int32)), (.int (1 : Int32))]))
    refine Go.via (fun _ => XS.icmpYes X2.here hx rfl (pc0 := 31) (pc' := 36) rfl (hb hby at_31) rfl (by decide) (by decide) (by decide)) ?_
    show Go p e below _ (T2.setTop (mkF m 36 #[.val (.int p1), .val (.int (10 : Int32)), .val (.int (1 : Int32)), .val (.int (1 : Int32)), .unset, .unset, .unset, .unset] []))
    refine Go.via (fun _ => XS.iloadN X2.here hx rfl (hb hby at_36) rfl) ?_
    show Go p e below _ (T2.setTop (mkF m 37 #[.val (.int p1), .val (.int (10 : Int32)), .val (.int (1 : Int32)), .val (.int (1 : Int32)), .unset, .unset, .unset, .unset] [(.int (10 : Int32))]))
    obtain ⟨_, _, ⟨T3, L3, k3, n3⟩, -, X3, ⟨Lc3, hQ3, l3, y3, z3⟩, st3⟩ := Jvm.LawKit.callS X2 hx (y := (⟨"java/lang/String", "valueOf", "(C)Ljava/lang/String;"⟩ : MethodName)) hown (mvT hZ (hw _ (List.mem_of_getElem? (i := 5) rfl))) (mvT hZ (hw _ (List.mem_of_getElem? (i := 6) rfl))) (mvT hZ (hw _ (List.mem_of_getElem? (i := 7) rfl))) (mvT hZ (hw _ (List.mem_of_getElem? (i := 8) rfl))) (by decide) (backOf (W := 0) (rmVO_1 l Z a0 hw [] (10 : Int32) ccs vF h0 n0 Z0 O0 S_CS hcs S_AD S_HI S_LO S_SF rF (by decide)) hZ (hw _ (List.mem_of_getElem? (i := 8) rfl)) (hw _ (List.mem_of_getElem? (i := 7) rfl)) (by decide) (by decide)) (g := (mkF m 37 #[.val (.int p1), .val (.int (10 : Int32)), .val (.int (1 : Int32)), .val (.int (1 : Int32)), .unset, .unset, .unset, .unset] [(.int (10 : Int32))])) rfl (by rw [hml]; rfl) (argsL := [(.int (10 : Int32))]) (rest := []) (lenOf pd_16 rfl) rfl (by show 2 * 0 + _ ≤ _; exact Nat.le_of_eq rfl) (hb hby at_37) (fun _ _ => ⟨rfl, e2q, (by decide : 0 + 2 ≤ _), (by decide : 0 + 5 ≤ _)⟩)
    dsimp only [Pt.U, Pt.locs, Pt.cells, Pt.slots] at X3 l3 y3 z3 st3 hQ3
    subst l3 y3 z3
    obtain ⟨sa3, t3, kb3, rfl, N3q, K3q, ga3, gt3, nat3, es3, fv3, fc3, va3⟩ := hQ3
    have N3 := Fr.app N2 N3q
    refine Go.via st3 ?_
    have Zs3 : n0 ≤ T3.heap.size := Nat.le_trans Z0 K3q.1
    have O3 : Old Z n0 T3.heap := O0.keep K3q all0
    have g_sa3 : n0 ≤ sa3 := Nat.le_trans Z0 ga3
    have g_t3 : n0 ≤ t3 := Nat.le_trans Z0 gt3
    show Go p e below _ (T3.setTop (mkF m 40 #[.val (.int p1), .val (.int (10 : Int32)), .val (.int (1 : Int32)), .val (.int (1 : Int32)), .unset, .unset, .unset, .unset] [(.ref sa3)]))
    refine Go.via (fun _ => XS.astore X3.here hx rfl (hb hby at_40) rfl rfl (l' := #[.val (.int p1), .val (.int (10 : Int32)), .val (.int (1 : Int32)), .val (.int (1 : Int32)), .val (.ref sa3), .unset, .unset, .unset]) rfl) ?_
    show Go p e below _ (T3.setTop (mkF m 42 #[.val (.int p1), .val (.int (10 : Int32)), .val (.int (1 : Int32)), .val (.int (1 : Int32)), .val (.ref sa3), .unset, .unset, .unset] []))
    obtain ⟨T4, h4, X4, e4, E4, A4, D4, -, st4⟩ := newO X3 hx hZ hown (hw _ (List.mem_of_getElem? (i := 31) rfl)) (hw _ (List.mem_of_getElem? (i := 32) rfl)) (hw _ (List.mem_of_getElem? (i := 33) rfl)) rfl (g := (mkF m 42 #[.val (.int p1), .val (.int (10 : Int32)), .val (.int (1 : Int32)), .val (.int (1 : Int32)), .val (.ref sa3), .unset, .unset, .unset] [])) rfl (hb hby at_42) (by decide) (by decide)
    obtain ⟨b4, g4⟩ : ∃ z, z = T3.heap.size := ⟨_, rfl⟩
    rw [← g4] at A4 D4 st4
    have g_b4 : n0 ≤ b4 := Nat.le_trans Zs3 (Nat.le_of_eq g4.symm)
    have ne_sa3_b4 : sa3 ≠ b4 := Nat.ne_of_lt (Nat.lt_of_lt_of_le es3.lt (Nat.le_of_eq g4.symm))
    have ne_t3_b4 : t3 ≠ b4 := Nat.ne_of_lt (Nat.lt_of_lt_of_le va3.lt (Nat.le_of_eq g4.symm))
    refine Go.via st4 ?_
    have Zs4 : n0 ≤ h4.size := Nat.le_trans Zs3 E4.1
    have O4 : Old Z n0 h4 := O3.ext E4
    have fE_sa3_4 := es3.ext E4
    have fF_sa3_value_4 := fv3.ext E4
    have fF_sa3_coder_4 := fc3.ext E4
    have fV_t3_4 := va3.ext E4
    have F_from_b4 : Fld Z h4 b4 "com/example/dogwood/dogwood/model/yaml/Occurrences" "from" "I" (.int (0 : Int32)) := D4 (Or.inl (hw _ (List.mem_of_getElem? (i := 40) rfl))) (ty := .int) (by decide)
    have F_found_b4 : Fld Z h4 b4 "com/example/dogwood/dogwood/model/yaml/Occurrences" "found" "I" (.int (0 : Int32)) := D4 (Or.inl (hw _ (List.mem_of_getElem? (i := 42) rfl))) (ty := .int) (by decide)
    have F_text_b4 : Fld Z h4 b4 "com/example/dogwood/dogwood/model/yaml/Occurrences" "text" "Ljava/lang/String;" .null := D4 (Or.inr (hw _ (List.mem_of_getElem? (i := 44) rfl))) (ty := (.object "java/lang/String")) (by decide)
    have F_c_b4 : Fld Z h4 b4 "com/example/dogwood/dogwood/model/yaml/Occurrences" "c" "C" (.int (0 : Int32)) := D4 (Or.inr (hw _ (List.mem_of_getElem? (i := 46) rfl))) (ty := .char) (by decide)
    show Go p e below _ (T4.setTop (mkF m 45 #[.val (.int p1), .val (.int (10 : Int32)), .val (.int (1 : Int32)), .val (.int (1 : Int32)), .val (.ref sa3), .unset, .unset, .unset] [(.ref b4)]))
    refine Go.via (fun _ => XS.dup X4.here hx rfl (hb hby at_45) rfl rfl) ?_
    show Go p e below _ (T4.setTop (mkF m 46 #[.val (.int p1), .val (.int (10 : Int32)), .val (.int (1 : Int32)), .val (.int (1 : Int32)), .val (.ref sa3), .unset, .unset, .unset] [(.ref b4), (.ref b4)]))
    refine Go.via (fun _ => XS.aload X4.here hx rfl (hb hby at_46) rfl rfl) ?_
    show Go p e below _ (T4.setTop (mkF m 48 #[.val (.int p1), .val (.int (10 : Int32)), .val (.int (1 : Int32)), .val (.int (1 : Int32)), .val (.ref sa3), .unset, .unset, .unset] [(.ref sa3), (.ref b4), (.ref b4)]))
    refine Go.via (fun _ => XS.bipush X4.here hx rfl (hb hby at_48)) ?_
    show Go p e below _ (T4.setTop (mkF m 50 #[.val (.int p1), .val (.int (10 : Int32)), .val (.int (1 : Int32)), .val (.int (1 : Int32)), .val (.ref sa3), .unset, .unset, .unset] [(.int (10 : Int32)), (.ref sa3), (.ref b4), (.ref b4)]))
    obtain ⟨_, _, ⟨T5, L5, k5, n5⟩, -, X5, ⟨Lc5, hQ5, l5, y5, z5⟩, st5⟩ := X4.specialBack hx (y := (⟨"com/example/dogwood/dogwood/model/yaml/Occurrences", "<init>", "(Ljava/lang/String;C)V"⟩ : MethodName)) rfl hown (mvT hZ (hw _ (List.mem_of_getElem? (i := 34) rfl))) (mvT hZ (hw _ (List.mem_of_getElem? (i := 35) rfl))) (mvT hZ (hw _ (List.mem_of_getElem? (i := 36) rfl))) (by decide) (backOf (W := 1) (rmOI_10 l Z a0 hw [] b4 sa3 h4 n0 Zs4 A4 F_from_b4 F_found_b4 F_text_b4 F_c_b4 g_b4) hZ (hw _ (List.mem_of_getElem? (i := 36) rfl)) (hw _ (List.mem_of_getElem? (i := 33) rfl)) (by decide) (by decide)) (g := (mkF m 50 #[.val (.int p1), .val (.int (10 : Int32)), .val (.int (1 : Int32)), .val (.int (1 : Int32)), .val (.ref sa3), .unset, .unset, .unset] [(.int (10 : Int32)), (.ref sa3), (.ref b4), (.ref b4)])) rfl (by rw [hml]; rfl) (Steps.refl _) (a := b4) (argsL := [(.ref sa3), (.int (10 : Int32))]) (rest := [(.ref b4)]) (lenOf pd_17 rfl) rfl (by show 2 * 0 + _ ≤ _; exact Nat.le_of_eq rfl) (hb hby at_50) (fun _ _ => ⟨rfl, e4, (by decide : 3 + 0 ≤ _), (by decide : 9 + 0 ≤ _)⟩)
    dsimp only [Pt.U, Pt.locs, Pt.cells, Pt.slots] at X5 l5 y5 z5 st5 hQ5
    subst l5 y5 z5
    obtain ⟨rfl, N5q, K5q, ff5, fd5, ft5, fcc5⟩ := hQ5
    have N5 := Fr.app N3 N5q
    refine Go.tr st5 ?_
    have Zs5 : n0 ≤ T5.heap.size := Nat.le_trans Zs4 K5q.1
    have O5 : Old Z n0 T5.heap := O4.keep K5q (allS g_b4 all0)
    have fE_sa3_5 := fE_sa3_4.keep K5q
    have fF_sa3_value_5 := fF_sa3_value_4.keep K5q (ninS ne_sa3_b4 nin0)
    have fF_sa3_coder_5 := fF_sa3_coder_4.keep K5q (ninS ne_sa3_b4 nin0)
    have fV_t3_5 := fV_t3_4.keep K5q (ninS ne_t3_b4 nin0)
    have fE_b4_5 := A4.keep K5q
    show Go p e below _ (T5.setTop (mkF m 53 #[.val (.int p1), .val (.int (10 : Int32)), .val (.int (1 : Int32)), .val (.int (1 : Int32)), .val (.ref sa3), .unset, .unset, .unset] [(.ref b4)]))
    refine Go.via (fun _ => XS.astore X5.here hx rfl (hb hby at_53) rfl rfl (l' := #[.val (.int p1), .val (.int (10 : Int32)), .val (.int (1 : Int32)), .val (.int (1 : Int32)), .val (.ref sa3), .val (.ref b4), .unset, .unset]) rfl) ?_
    show Go p e below _ (T5.setTop (mkF m 55 #[.val (.int p1), .val (.int (10 : Int32)), .val (.int (1 : Int32)), .val (.int (1 : Int32)), .val (.ref sa3), .val (.ref b4), .unset, .unset] []))
    obtain ⟨T6, h6, X6, e6, E6, A6, D6, -, st6⟩ := newO X5 hx hZ hown (hw _ (List.mem_of_getElem? (i := 31) rfl)) (hw _ (List.mem_of_getElem? (i := 32) rfl)) (hw _ (List.mem_of_getElem? (i := 33) rfl)) rfl (g := (mkF m 55 #[.val (.int p1), .val (.int (10 : Int32)), .val (.int (1 : Int32)), .val (.int (1 : Int32)), .val (.ref sa3), .val (.ref b4), .unset, .unset] [])) rfl (hb hby at_55) (by decide) (by decide)
    obtain ⟨b6, g6⟩ : ∃ z, z = T5.heap.size := ⟨_, rfl⟩
    rw [← g6] at A6 D6 st6
    have g_b6 : n0 ≤ b6 := Nat.le_trans Zs5 (Nat.le_of_eq g6.symm)
    have ne_sa3_b6 : sa3 ≠ b6 := Nat.ne_of_lt (Nat.lt_of_lt_of_le fE_sa3_5.lt (Nat.le_of_eq g6.symm))
    have ne_t3_b6 : t3 ≠ b6 := Nat.ne_of_lt (Nat.lt_of_lt_of_le fV_t3_5.lt (Nat.le_of_eq g6.symm))
    have ne_b4_b6 : b4 ≠ b6 := Nat.ne_of_lt (Nat.lt_of_lt_of_le fE_b4_5.lt (Nat.le_of_eq g6.symm))
    refine Go.via st6 ?_
    have Zs6 : n0 ≤ h6.size := Nat.le_trans Zs5 E6.1
    have O6 : Old Z n0 h6 := O5.ext E6
    have fE_sa3_6 := fE_sa3_5.ext E6
    have fF_sa3_value_6 := fF_sa3_value_5.ext E6
    have fF_sa3_coder_6 := fF_sa3_coder_5.ext E6
    have fV_t3_6 := fV_t3_5.ext E6
    have fE_b4_6 := fE_b4_5.ext E6
    have fF_b4_from_6 := ff5.ext E6
    have fF_b4_found_6 := fd5.ext E6
    have fF_b4_text_6 := ft5.ext E6
    have fF_b4_c_6 := fcc5.ext E6
    have F_from_b6 : Fld Z h6 b6 "com/example/dogwood/dogwood/model/yaml/Occurrences" "from" "I" (.int (0 : Int32)) := D6 (Or.inl (hw _ (List.mem_of_getElem? (i := 40) rfl))) (ty := .int) (by decide)
    have F_found_b6 : Fld Z h6 b6 "com/example/dogwood/dogwood/model/yaml/Occurrences" "found" "I" (.int (0 : Int32)) := D6 (Or.inl (hw _ (List.mem_of_getElem? (i := 42) rfl))) (ty := .int) (by decide)
    have F_text_b6 : Fld Z h6 b6 "com/example/dogwood/dogwood/model/yaml/Occurrences" "text" "Ljava/lang/String;" .null := D6 (Or.inr (hw _ (List.mem_of_getElem? (i := 44) rfl))) (ty := (.object "java/lang/String")) (by decide)
    have F_c_b6 : Fld Z h6 b6 "com/example/dogwood/dogwood/model/yaml/Occurrences" "c" "C" (.int (0 : Int32)) := D6 (Or.inr (hw _ (List.mem_of_getElem? (i := 46) rfl))) (ty := .char) (by decide)
    show Go p e below _ (T6.setTop (mkF m 58 #[.val (.int p1), .val (.int (10 : Int32)), .val (.int (1 : Int32)), .val (.int (1 : Int32)), .val (.ref sa3), .val (.ref b4), .unset, .unset] [(.ref b6)]))
    refine Go.via (fun _ => XS.dup X6.here hx rfl (hb hby at_58) rfl rfl) ?_
    show Go p e below _ (T6.setTop (mkF m 59 #[.val (.int p1), .val (.int (10 : Int32)), .val (.int (1 : Int32)), .val (.int (1 : Int32)), .val (.ref sa3), .val (.ref b4), .unset, .unset] [(.ref b6), (.ref b6)]))
    refine Go.via (fun _ => XS.aload X6.here hx rfl (hb hby at_59) rfl rfl) ?_
    show Go p e below _ (T6.setTop (mkF m 61 #[.val (.int p1), .val (.int (10 : Int32)), .val (.int (1 : Int32)), .val (.int (1 : Int32)), .val (.ref sa3), .val (.ref b4), .unset, .unset] [(.ref sa3), (.ref b6), (.ref b6)]))
    refine Go.via (fun _ => XS.bipush X6.here hx rfl (hb hby at_61)) ?_
    show Go p e below _ (T6.setTop (mkF m 63 #[.val (.int p1), .val (.int (10 : Int32)), .val (.int (1 : Int32)), .val (.int (1 : Int32)), .val (.ref sa3), .val (.ref b4), .unset, .unset] [(.int (13 : Int32)), (.ref sa3), (.ref b6), (.ref b6)]))
    obtain ⟨_, _, ⟨T7, L7, k7, n7⟩, -, X7, ⟨Lc7, hQ7, l7, y7, z7⟩, st7⟩ := X6.specialBack hx (y := (⟨"com/example/dogwood/dogwood/model/yaml/Occurrences", "<init>", "(Ljava/lang/String;C)V"⟩ : MethodName)) rfl hown (mvT hZ (hw _ (List.mem_of_getElem? (i := 34) rfl))) (mvT hZ (hw _ (List.mem_of_getElem? (i := 35) rfl))) (mvT hZ (hw _ (List.mem_of_getElem? (i := 36) rfl))) (by decide) (backOf (W := 1) (rmOI_13 l Z a0 hw [] b6 sa3 h6 n0 Zs6 A6 F_from_b6 F_found_b6 F_text_b6 F_c_b6 g_b6) hZ (hw _ (List.mem_of_getElem? (i := 36) rfl)) (hw _ (List.mem_of_getElem? (i := 33) rfl)) (by decide) (by decide)) (g := (mkF m 63 #[.val (.int p1), .val (.int (10 : Int32)), .val (.int (1 : Int32)), .val (.int (1 : Int32)), .val (.ref sa3), .val (.ref b4), .unset, .unset] [(.int (13 : Int32)), (.ref sa3), (.ref b6), (.ref b6)])) rfl (by rw [hml]; rfl) (Steps.refl _) (a := b6) (argsL := [(.ref sa3), (.int (13 : Int32))]) (rest := [(.ref b6)]) (lenOf pd_17 rfl) rfl (by show 2 * 0 + _ ≤ _; exact Nat.le_of_eq rfl) (hb hby at_63) (fun _ _ => ⟨rfl, e6, (by decide : 4 + 0 ≤ _), (by decide : 13 + 0 ≤ _)⟩)
    dsimp only [Pt.U, Pt.locs, Pt.cells, Pt.slots] at X7 l7 y7 z7 st7 hQ7
    subst l7 y7 z7
    obtain ⟨rfl, N7q, K7q, ff7, fd7, ft7, fcc7⟩ := hQ7
    have N7 := Fr.app N5 N7q
    refine Go.tr st7 ?_
    have Zs7 : n0 ≤ T7.heap.size := Nat.le_trans Zs6 K7q.1
    have O7 : Old Z n0 T7.heap := O6.keep K7q (allS g_b6 all0)
    have fE_sa3_7 := fE_sa3_6.keep K7q
    have fF_sa3_value_7 := fF_sa3_value_6.keep K7q (ninS ne_sa3_b6 nin0)
    have fF_sa3_coder_7 := fF_sa3_coder_6.keep K7q (ninS ne_sa3_b6 nin0)
    have fV_t3_7 := fV_t3_6.keep K7q (ninS ne_t3_b6 nin0)
    have fE_b4_7 := fE_b4_6.keep K7q
    have fF_b4_from_7 := fF_b4_from_6.keep K7q (ninS ne_b4_b6 nin0)
    have fF_b4_found_7 := fF_b4_found_6.keep K7q (ninS ne_b4_b6 nin0)
    have fF_b4_text_7 := fF_b4_text_6.keep K7q (ninS ne_b4_b6 nin0)
    have fF_b4_c_7 := fF_b4_c_6.keep K7q (ninS ne_b4_b6 nin0)
    have fE_b6_7 := A6.keep K7q
    show Go p e below _ (T7.setTop (mkF m 66 #[.val (.int p1), .val (.int (10 : Int32)), .val (.int (1 : Int32)), .val (.int (1 : Int32)), .val (.ref sa3), .val (.ref b4), .unset, .unset] [(.ref b6)]))
    refine Go.via (fun _ => XS.astore X7.here hx rfl (hb hby at_66) rfl rfl (l' := #[.val (.int p1), .val (.int (10 : Int32)), .val (.int (1 : Int32)), .val (.int (1 : Int32)), .val (.ref sa3), .val (.ref b4), .val (.ref b6), .unset]) rfl) ?_
    show Go p e below _ (T7.setTop (mkF m 68 #[.val (.int p1), .val (.int (10 : Int32)), .val (.int (1 : Int32)), .val (.int (1 : Int32)), .val (.ref sa3), .val (.ref b4), .val (.ref b6), .unset] []))
    refine Go.via (fun _ => XS.aload X7.here hx rfl (hb hby at_68) rfl rfl) ?_
    show Go p e below _ (T7.setTop (mkF m 70 #[.val (.int p1), .val (.int (10 : Int32)), .val (.int (1 : Int32)), .val (.int (1 : Int32)), .val (.ref sa3), .val (.ref b4), .val (.ref b6), .unset] [(.ref sa3)]))
    refine Go.via (fun _ => XS.iconst X7.here hx rfl (hb hby at_70)) ?_
    show Go p e below _ (T7.setTop (mkF m 71 #[.val (.int p1), .val (.int (10 : Int32)), .val (.int (1 : Int32)), .val (.int (1 : Int32)), .val (.ref sa3), .val (.ref b4), .val (.ref b6), .unset] [(.int (0 : Int32)), (.ref sa3)]))
    refine Go.via (fun _ => XS.aload X7.here hx rfl (hb hby at_71) rfl rfl) ?_
    show Go p e below _ (T7.setTop (mkF m 73 #[.val (.int p1), .val (.int (10 : Int32)), .val (.int (1 : Int32)), .val (.int (1 : Int32)), .val (.ref sa3), .val (.ref b4), .val (.ref b6), .unset] [(.ref b4), (.int (0 : Int32)), (.ref sa3)]))
    refine Go.via (fun _ => XS.aload X7.here hx rfl (hb hby at_73) rfl rfl) ?_
    show Go p e below _ (T7.setTop (mkF m 75 #[.val (.int p1), .val (.int (10 : Int32)), .val (.int (1 : Int32)), .val (.int (1 : Int32)), .val (.ref sa3), .val (.ref b4), .val (.ref b6), .unset] [(.ref b6), (.ref b4), (.int (0 : Int32)), (.ref sa3)]))
    obtain ⟨_, _, ⟨T8, L8, k8, n8⟩, -, X8, ⟨Lc8, hQ8, l8, y8, z8⟩, st8⟩ := Jvm.LawKit.callS X7 hx (y := (⟨"com/example/dogwood/dogwood/model/yaml/Lines", "end", "(Ljava/lang/String;ILcom/example/dogwood/dogwood/model/yaml/Occurrences;Lcom/example/dogwood/dogwood/model/yaml/Occurrences;)I"⟩ : MethodName)) hown (mvT hZ (hw _ (List.mem_of_getElem? (i := 47) rfl))) (mvT hZ (hw _ (List.mem_of_getElem? (i := 48) rfl))) (mvT hZ (hw _ (List.mem_of_getElem? (i := 3) rfl))) (mvT hZ (hw _ (List.mem_of_getElem? (i := 49) rfl))) (by decide) (backOf (W := 0) (rmE_10 l Z a0 hw [] b4 b6 sa3 t3 kb3 (10 : Int32) ccs vF T7.heap n0 Zs7 fE_b4_7 fF_b4_from_7 fF_b4_found_7 fF_b4_text_7 fF_b4_c_7 g_b4 fE_b6_7 ff7 fd7 ft7 fcc7 g_b6 ne_b4_b6 ne_sa3_b4 ne_sa3_b6 ne_t3_b4 ne_t3_b6 fE_sa3_7 fF_sa3_value_7 fF_sa3_coder_7 fV_t3_7 own_q10_10 own_q13_10 (by decide) (by decide) O7 S_CS hcs S_AD S_HI S_LO S_SF rF) hZ (hw _ (List.mem_of_getElem? (i := 49) rfl)) (hw _ (List.mem_of_getElem? (i := 3) rfl)) (by decide) (by decide)) (g := (mkF m 75 #[.val (.int p1), .val (.int (10 : Int32)), .val (.int (1 : Int32)), .val (.int (1 : Int32)), .val (.ref sa3), .val (.ref b4), .val (.ref b6), .unset] [(.ref b6), (.ref b4), (.int (0 : Int32)), (.ref sa3)])) rfl (by rw [hml]; rfl) (argsL := [(.ref sa3), (.int (0 : Int32)), (.ref b4), (.ref b6)]) (rest := []) (lenOf pd_18 rfl) rfl (by show 2 * 0 + _ ≤ _; exact Nat.le_of_eq rfl) (hb hby at_75) (fun _ _ => ⟨rfl, rfl, (by decide : 4 + 0 ≤ _), (by decide : 13 + 0 ≤ _)⟩)
    dsimp only [Pt.U, Pt.locs, Pt.cells, Pt.slots] at X8 l8 y8 z8 st8 hQ8
    subst l8 y8 z8
    obtain ⟨rfl, N8q, K8q⟩ := hQ8
    have N8 := Fr.app N7 N8q
    refine Go.via st8 ?_
    have Zs8 : n0 ≤ T8.heap.size := Nat.le_trans Zs7 K8q.1
    have O8 : Old Z n0 T8.heap := O7.keep K8q (allS g_b4 (allS g_b6 all0))
    have fE_sa3_8 := fE_sa3_7.keep K8q
    have fF_sa3_value_8 := fF_sa3_value_7.keep K8q (ninS ne_sa3_b4 (ninS ne_sa3_b6 nin0))
    have fF_sa3_coder_8 := fF_sa3_coder_7.keep K8q (ninS ne_sa3_b4 (ninS ne_sa3_b6 nin0))
    have fV_t3_8 := fV_t3_7.keep K8q (ninS ne_t3_b4 (ninS ne_t3_b6 nin0))
    have fE_b4_8 := fE_b4_7.keep K8q
    have fE_b6_8 := fE_b6_7.keep K8q
    show Go p e below _ (T8.setTop (mkF m 78 #[.val (.int p1), .val (.int (10 : Int32)), .val (.int (1 : Int32)), .val (.int (1 : Int32)), .val (.ref sa3), .val (.ref b4), .val (.ref b6), .unset] [(.int (0 : Int32))]))
    refine Go.via (fun _ => XS.istore X8.here hx rfl (hb hby at_78) rfl (l' := #[.val (.int p1), .val (.int (10 : Int32)), .val (.int (1 : Int32)), .val (.int (1 : Int32)), .val (.ref sa3), .val (.ref b4), .val (.ref b6), .val (.int (0 : Int32))]) rfl) ?_
    show Go p e below _ (T8.setTop (mkF m 80 #[.val (.int p1), .val (.int (10 : Int32)), .val (.int (1 : Int32)), .val (.int (1 : Int32)), .val (.ref sa3), .val (.ref b4), .val (.ref b6), .val (.int (0 : Int32))] []))
    refine Go.via (fun _ => XS.iloadN X8.here hx rfl (hb hby at_80) rfl) ?_
    show Go p e below _ (T8.setTop (mkF m 81 #[.val (.int p1), .val (.int (10 : Int32)), .val (.int (1 : Int32)), .val (.int (1 : Int32)), .val (.ref sa3), .val (.ref b4), .val (.ref b6), .val (.int (0 : Int32))] [(.int (1 : Int32))]))
    refine Go.via (fun _ => XS.iload X8.here hx rfl (hb hby at_81) rfl) ?_
    show Go p e below _ (T8.setTop (mkF m 83 #[.val (.int p1), .val (.int (10 : Int32)), .val (.int (1 : Int32)), .val (.int (1 : Int32)), .val (.ref sa3), .val (.ref b4), .val (.ref b6), .val (.int (0 : Int32))] [(.int (0 : Int32)), (.int (1 : Int32))]))
    refine Go.via (fun _ => XS.ifNo X8.here hx rfl (hb hby at_83) rfl (by decide)) ?_
    show Go p e below _ (T8.setTop (mkF m 86 #[.val (.int p1), .val (.int (10 : Int32)), .val (.int (1 : Int32)), .val (.int (1 : Int32)), .val (.ref sa3), .val (.ref b4), .val (.ref b6), .val (.int (0 : Int32))] [(.int (1 : Int32))]))
    refine Go.via (fun _ => XS.iconst X8.here hx rfl (hb hby at_86)) ?_
    show Go p e below _ (T8.setTop (mkF m 87 #[.val (.int p1), .val (.int (10 : Int32)), .val (.int (1 : Int32)), .val (.int (1 : Int32)), .val (.ref sa3), .val (.ref b4), .val (.ref b6), .val (.int (0 : Int32))] [(.int (1 : Int32)), (.int (1 : Int32))]))
    refine Go.via (fun _ => XS.goto X8.here hx rfl (pc0 := 87) (pc' := 91) rfl (hb hby at_87) (by decide) (by decide)) ?_
    show Go p e below _ (T8.setTop (mkF m 91 #[.val (.int p1), .val (.int (10 : Int32)), .val (.int (1 : Int32)), .val (.int (1 : Int32)), .val (.ref sa3), .val (.ref b4), .val (.ref b6), .val (.int (0 : Int32))] [(.int (1 : Int32)), (.int (1 : Int32))]))
    refine Go.via (fun _ => XS.icmpNo X8.here hx rfl (hb hby at_91) rfl (by decide)) ?_
    show Go p e below _ (T8.setTop (mkF m 94 #[.val (.int p1), .val (.int (10 : Int32)), .val (.int (1 : Int32)), .val (.int (1 : Int32)), .val (.ref sa3), .val (.ref b4), .val (.ref b6), .val (.int (0 : Int32))] []))
    refine Go.via (fun _ => XS.iconst X8.here hx rfl (hb hby at_94)) ?_
    show Go p e below _ (T8.setTop (mkF m 95 #[.val (.int p1), .val (.int (10 : Int32)), .val (.int (1 : Int32)), .val (.int (1 : Int32)), .val (.ref sa3), .val (.ref b4), .val (.ref b6), .val (.int (0 : Int32))] [(.int (1 : Int32))]))
    refine Go.via (fun _ => XS.goto X8.here hx rfl (pc0 := 95) (pc' := 99) rfl (hb hby at_95) (by decide) (by decide)) ?_
    show Go p e below _ (T8.setTop (mkF m 99 #[.val (.int p1), .val (.int (10 : Int32)), .val (.int (1 : Int32)), .val (.int (1 : Int32)), .val (.ref sa3), .val (.ref b4), .val (.ref b6), .val (.int (0 : Int32))] [(.int (1 : Int32))]))
    exact own_retN X8 hx hlk (t := .boolean) Bd.returns (by simp) (hb hby at_99) (by show Q0 Z p1 ccs vF h0 n0 _ T8.heap _; exact ⟨rfl, N8⟩) (by decide) (by decide)
  · -- no
    show Go p e below _ (s₁.setTop (mkF m 9 #[.val (.int p1), .val (.int cz), .unset, .unset, .unset, .unset, .unset, .unset] [(.int (10 : Int32)), (.int cz)]))
    show Go p e below _ (s₁.setTop (mkF m 9 #[.val (.int p1), .val (.int cz), .unset, .unset, .unset, .unset, .unset, .unset] [(.int (10 : Int32)), (.int cz)]))
    refine Go.via (fun _ => XS.icmpNo X0.here hx rfl (hb hby at_9) rfl (feq hc1).1) ?_
    show Go p e below _ (s₁.setTop (mkF m 12 #[.val (.int p1), .val (.int cz), .unset, .unset, .unset, .unset, .unset, .unset] []))
    refine Go.via (fun _ => XS.iloadN X0.here hx rfl (hb hby at_12) rfl) ?_
    show Go p e below _ (s₁.setTop (mkF m 13 #[.val (.int p1), .val (.int cz), .unset, .unset, .unset, .unset, .unset, .unset] [(.int cz)]))
    refine Go.via (fun _ => XS.bipush X0.here hx rfl (hb hby at_13)) ?_
    show Go p e below _ (s₁.setTop (mkF m 15 #[.val (.int p1), .val (.int cz), .unset, .unset, .unset, .unset, .unset, .unset] [(.int (13 : Int32)), (.int cz)]))
    by_cases hc9 : cz = (13 : Int32)
    · -- yes
      subst hc9
      show Go p e below _ (s₁.setTop (mkF m 15 #[.val (.int p1), .val (.int (13 : Int32)), .unset, .unset, .unset, .unset, .unset, .unset] [(.int (13 : Int32)), (.int (13 : Int32))]))
      show Go p e below _ (s₁.setTop (mkF m 15 #[.val (.int p1), .val (.int (13 : Int32)), .unset, .unset, .unset, .unset, .unset, .unset] [(.int (13 : Int32)), (.int (13 : Int32))]))
      refine Go.via (fun _ => XS.icmpNo X0.here hx rfl (hb hby at_15) rfl (by decide)) ?_
      show Go p e below _ (s₁.setTop (mkF m 18 #[.val (.int p1), .val (.int (13 : Int32)), .unset, .unset, .unset, .unset, .unset, .unset] []))
      refine Go.via (fun _ => XS.iconst X0.here hx rfl (hb hby at_18)) ?_
      show Go p e below _ (s₁.setTop (mkF m 19 #[.val (.int p1), .val (.int (13 : Int32)), .unset, .unset, .unset, .unset, .unset, .unset] [(.int (1 : Int32))]))
      refine Go.via (fun _ => XS.goto X0.here hx rfl (pc0 := 19) (pc' := 23) rfl (hb hby at_19) (by decide) (by decide)) ?_
      show Go p e below _ (s₁.setTop (mkF m 23 #[.val (.int p1), .val (.int (13 : Int32)), .unset, .unset, .unset, .unset, .unset, .unset] [(.int (1 : Int32))]))
      refine Go.via (fun _ => XS.istoreN X0.here hx rfl (hb hby at_23) rfl (l' := #[.val (.int p1), .val (.int (13 : Int32)), .val (.int (1 : Int32)), .unset, .unset, .unset, .unset, .unset]) rfl) ?_
      show Go p e below _ (s₁.setTop (mkF m 24 #[.val (.int p1), .val (.int (13 : Int32)), .val (.int (1 : Int32)), .unset, .unset, .unset, .unset, .unset] []))
      refine Go.via (fun _ => XS.iloadN X0.here hx rfl (hb hby at_24) rfl) ?_
      show Go p e below _ (s₁.setTop (mkF m 25 #[.val (.int p1), .val (.int (13 : Int32)), .val (.int (1 : Int32)), .unset, .unset, .unset, .unset, .unset] [(.int (13 : Int32))]))
      obtain ⟨_, _, ⟨T10, L10, k10, n10⟩, -, X10, ⟨Lc10, hQ10, l10, y10, z10⟩, st10⟩ := Jvm.LawKit.callS X0 hx (y := (⟨"com/example/dogwood/dogwood/model/yaml/Lines", "isBreak", "(C)Z"⟩ : MethodName)) hown (mvT hZ (hw _ (List.mem_of_getElem? (i := 1) rfl))) (mvT hZ (hw _ (List.mem_of_getElem? (i := 2) rfl))) (mvT hZ (hw _ (List.mem_of_getElem? (i := 3) rfl))) (mvT hZ (hw _ (List.mem_of_getElem? (i := 4) rfl))) (by decide) (backOf (W := 0) (rmB_13 l Z a0 hw [] h0 n0 Z0) hZ (hw _ (List.mem_of_getElem? (i := 4) rfl)) (hw _ (List.mem_of_getElem? (i := 3) rfl)) (by decide) (by decide)) (g := (mkF m 25 #[.val (.int p1), .val (.int (13 : Int32)), .val (.int (1 : Int32)), .unset, .unset, .unset, .unset, .unset] [(.int (13 : Int32))])) rfl (by rw [hml]; rfl) (argsL := [(.int (13 : Int32))]) (rest := []) (lenOf pd_1 rfl) rfl (by show 2 * 0 + _ ≤ _; exact Nat.le_of_eq rfl) (hb hby at_25) (fun _ _ => ⟨rfl, e0, (by decide : 0 + 0 ≤ _), (by decide : 0 + 0 ≤ _)⟩)
      dsimp only [Pt.U, Pt.locs, Pt.cells, Pt.slots] at X10 l10 y10 z10 st10 hQ10
      subst l10 y10 z10
      obtain ⟨rfl, N10q, e10q⟩ := hQ10
      have N10 := Fr.app N0 N10q
      refine Go.via st10 ?_
      show Go p e below _ (T10.setTop (mkF m 28 #[.val (.int p1), .val (.int (13 : Int32)), .val (.int (1 : Int32)), .unset, .unset, .unset, .unset, .unset] [(.int (1 : Int32))]))
      refine Go.via (fun _ => XS.istoreN X10.here hx rfl (hb hby at_28) rfl (l' := #[.val (.int p1), .val (.int (13 : Int32)), .val (.int (1 : Int32)), .val (.int (1 : Int32)), .unset, .unset, .unset, .unset]) rfl) ?_
      show Go p e below _ (T10.setTop (mkF m 29 #[.val (.int p1), .val (.int (13 : Int32)), .val (.int (1 : Int32)), .val (.int (1 : Int32)), .unset, .unset, .unset, .unset] []))
      refine Go.via (fun _ => XS.iloadN X10.here hx rfl (hb hby at_29) rfl) ?_
      show Go p e below _ (T10.setTop (mkF m 30 #[.val (.int p1), .val (.int (13 : Int32)), .val (.int (1 : Int32)), .val (.int (1 : Int32)), .unset, .unset, .unset, .unset] [(.int (1 : Int32))]))
      refine Go.via (fun _ => XS.iloadN X10.here hx rfl (hb hby at_30) rfl) ?_
      show Go p e below _ (T10.setTop (mkF m 31 #[.val (.int p1), .val (.int (13 : Int32)), .val (.int (1 : Int32)), .val (.int (1 : Int32)), .unset, .unset, .unset, .unset] [(.int (1 : Int32)), (.int (1 : Int32))]))
      refine Go.via (fun _ => XS.icmpYes X10.here hx rfl (pc0 := 31) (pc' := 36) rfl (hb hby at_31) rfl (by decide) (by decide) (by decide)) ?_
      show Go p e below _ (T10.setTop (mkF m 36 #[.val (.int p1), .val (.int (13 : Int32)), .val (.int (1 : Int32)), .val (.int (1 : Int32)), .unset, .unset, .unset, .unset] []))
      refine Go.via (fun _ => XS.iloadN X10.here hx rfl (hb hby at_36) rfl) ?_
      show Go p e below _ (T10.setTop (mkF m 37 #[.val (.int p1), .val (.int (13 : Int32)), .val (.int (1 : Int32)), .val (.int (1 : Int32)), .unset, .unset, .unset, .unset] [(.int (13 : Int32))]))
      obtain ⟨_, _, ⟨T11, L11, k11, n11⟩, -, X11, ⟨Lc11, hQ11, l11, y11, z11⟩, st11⟩ := Jvm.LawKit.callS X10 hx (y := (⟨"java/lang/String", "valueOf", "(C)Ljava/lang/String;"⟩ : MethodName)) hown (mvT hZ (hw _ (List.mem_of_getElem? (i := 5) rfl))) (mvT hZ (hw _ (List.mem_of_getElem? (i := 6) rfl))) (mvT hZ (hw _ (List.mem_of_getElem? (i := 7) rfl))) (mvT hZ (hw _ (List.mem_of_getElem? (i := 8) rfl))) (by decide) (backOf (W := 0) (rmVO_1 l Z a0 hw [] (13 : Int32) ccs vF h0 n0 Z0 O0 S_CS hcs S_AD S_HI S_LO S_SF rF (by decide)) hZ (hw _ (List.mem_of_getElem? (i := 8) rfl)) (hw _ (List.mem_of_getElem? (i := 7) rfl)) (by decide) (by decide)) (g := (mkF m 37 #[.val (.int p1), .val (.int (13 : Int32)), .val (.int (1 : Int32)), .val (.int (1 : Int32)), .unset, .unset, .unset, .unset] [(.int (13 : Int32))])) rfl (by rw [hml]; rfl) (argsL := [(.int (13 : Int32))]) (rest := []) (lenOf pd_16 rfl) rfl (by show 2 * 0 + _ ≤ _; exact Nat.le_of_eq rfl) (hb hby at_37) (fun _ _ => ⟨rfl, e10q, (by decide : 0 + 2 ≤ _), (by decide : 0 + 5 ≤ _)⟩)
      dsimp only [Pt.U, Pt.locs, Pt.cells, Pt.slots] at X11 l11 y11 z11 st11 hQ11
      subst l11 y11 z11
      obtain ⟨sa11, t11, kb11, rfl, N11q, K11q, ga11, gt11, nat11, es11, fv11, fc11, va11⟩ := hQ11
      have N11 := Fr.app N10 N11q
      refine Go.via st11 ?_
      have Zs11 : n0 ≤ T11.heap.size := Nat.le_trans Z0 K11q.1
      have O11 : Old Z n0 T11.heap := O0.keep K11q all0
      have g_sa11 : n0 ≤ sa11 := Nat.le_trans Z0 ga11
      have g_t11 : n0 ≤ t11 := Nat.le_trans Z0 gt11
      show Go p e below _ (T11.setTop (mkF m 40 #[.val (.int p1), .val (.int (13 : Int32)), .val (.int (1 : Int32)), .val (.int (1 : Int32)), .unset, .unset, .unset, .unset] [(.ref sa11)]))
      refine Go.via (fun _ => XS.astore X11.here hx rfl (hb hby at_40) rfl rfl (l' := #[.val (.int p1), .val (.int (13 : Int32)), .val (.int (1 : Int32)), .val (.int (1 : Int32)), .val (.ref sa11), .unset, .unset, .unset]) rfl) ?_
      show Go p e below _ (T11.setTop (mkF m 42 #[.val (.int p1), .val (.int (13 : Int32)), .val (.int (1 : Int32)), .val (.int (1 : Int32)), .val (.ref sa11), .unset, .unset, .unset] []))
      obtain ⟨T12, h12, X12, e12, E12, A12, D12, -, st12⟩ := newO X11 hx hZ hown (hw _ (List.mem_of_getElem? (i := 31) rfl)) (hw _ (List.mem_of_getElem? (i := 32) rfl)) (hw _ (List.mem_of_getElem? (i := 33) rfl)) rfl (g := (mkF m 42 #[.val (.int p1), .val (.int (13 : Int32)), .val (.int (1 : Int32)), .val (.int (1 : Int32)), .val (.ref sa11), .unset, .unset, .unset] [])) rfl (hb hby at_42) (by decide) (by decide)
      obtain ⟨b12, g12⟩ : ∃ z, z = T11.heap.size := ⟨_, rfl⟩
      rw [← g12] at A12 D12 st12
      have g_b12 : n0 ≤ b12 := Nat.le_trans Zs11 (Nat.le_of_eq g12.symm)
      have ne_sa11_b12 : sa11 ≠ b12 := Nat.ne_of_lt (Nat.lt_of_lt_of_le es11.lt (Nat.le_of_eq g12.symm))
      have ne_t11_b12 : t11 ≠ b12 := Nat.ne_of_lt (Nat.lt_of_lt_of_le va11.lt (Nat.le_of_eq g12.symm))
      refine Go.via st12 ?_
      have Zs12 : n0 ≤ h12.size := Nat.le_trans Zs11 E12.1
      have O12 : Old Z n0 h12 := O11.ext E12
      have fE_sa11_12 := es11.ext E12
      have fF_sa11_value_12 := fv11.ext E12
      have fF_sa11_coder_12 := fc11.ext E12
      have fV_t11_12 := va11.ext E12
      have F_from_b12 : Fld Z h12 b12 "com/example/dogwood/dogwood/model/yaml/Occurrences" "from" "I" (.int (0 : Int32)) := D12 (Or.inl (hw _ (List.mem_of_getElem? (i := 40) rfl))) (ty := .int) (by decide)
      have F_found_b12 : Fld Z h12 b12 "com/example/dogwood/dogwood/model/yaml/Occurrences" "found" "I" (.int (0 : Int32)) := D12 (Or.inl (hw _ (List.mem_of_getElem? (i := 42) rfl))) (ty := .int) (by decide)
      have F_text_b12 : Fld Z h12 b12 "com/example/dogwood/dogwood/model/yaml/Occurrences" "text" "Ljava/lang/String;" .null := D12 (Or.inr (hw _ (List.mem_of_getElem? (i := 44) rfl))) (ty := (.object "java/lang/String")) (by decide)
      have F_c_b12 : Fld Z h12 b12 "com/example/dogwood/dogwood/model/yaml/Occurrences" "c" "C" (.int (0 : Int32)) := D12 (Or.inr (hw _ (List.mem_of_getElem? (i := 46) rfl))) (ty := .char) (by decide)
      show Go p e below _ (T12.setTop (mkF m 45 #[.val (.int p1), .val (.int (13 : Int32)), .val (.int (1 : Int32)), .val (.int (1 : Int32)), .val (.ref sa11), .unset, .unset, .unset] [(.ref b12)]))
      refine Go.via (fun _ => XS.dup X12.here hx rfl (hb hby at_45) rfl rfl) ?_
      show Go p e below _ (T12.setTop (mkF m 46 #[.val (.int p1), .val (.int (13 : Int32)), .val (.int (1 : Int32)), .val (.int (1 : Int32)), .val (.ref sa11), .unset, .unset, .unset] [(.ref b12), (.ref b12)]))
      refine Go.via (fun _ => XS.aload X12.here hx rfl (hb hby at_46) rfl rfl) ?_
      show Go p e below _ (T12.setTop (mkF m 48 #[.val (.int p1), .val (.int (13 : Int32)), .val (.int (1 : Int32)), .val (.int (1 : Int32)), .val (.ref sa11), .unset, .unset, .unset] [(.ref sa11), (.ref b12), (.ref b12)]))
      refine Go.via (fun _ => XS.bipush X12.here hx rfl (hb hby at_48)) ?_
      show Go p e below _ (T12.setTop (mkF m 50 #[.val (.int p1), .val (.int (13 : Int32)), .val (.int (1 : Int32)), .val (.int (1 : Int32)), .val (.ref sa11), .unset, .unset, .unset] [(.int (10 : Int32)), (.ref sa11), (.ref b12), (.ref b12)]))
      obtain ⟨_, _, ⟨T13, L13, k13, n13⟩, -, X13, ⟨Lc13, hQ13, l13, y13, z13⟩, st13⟩ := X12.specialBack hx (y := (⟨"com/example/dogwood/dogwood/model/yaml/Occurrences", "<init>", "(Ljava/lang/String;C)V"⟩ : MethodName)) rfl hown (mvT hZ (hw _ (List.mem_of_getElem? (i := 34) rfl))) (mvT hZ (hw _ (List.mem_of_getElem? (i := 35) rfl))) (mvT hZ (hw _ (List.mem_of_getElem? (i := 36) rfl))) (by decide) (backOf (W := 1) (rmOI_10 l Z a0 hw [] b12 sa11 h12 n0 Zs12 A12 F_from_b12 F_found_b12 F_text_b12 F_c_b12 g_b12) hZ (hw _ (List.mem_of_getElem? (i := 36) rfl)) (hw _ (List.mem_of_getElem? (i := 33) rfl)) (by decide) (by decide)) (g := (mkF m 50 #[.val (.int p1), .val (.int (13 : Int32)), .val (.int (1 : Int32)), .val (.int (1 : Int32)), .val (.ref sa11), .unset, .unset, .unset] [(.int (10 : Int32)), (.ref sa11), (.ref b12), (.ref b12)])) rfl (by rw [hml]; rfl) (Steps.refl _) (a := b12) (argsL := [(.ref sa11), (.int (10 : Int32))]) (rest := [(.ref b12)]) (lenOf pd_17 rfl) rfl (by show 2 * 0 + _ ≤ _; exact Nat.le_of_eq rfl) (hb hby at_50) (fun _ _ => ⟨rfl, e12, (by decide : 3 + 0 ≤ _), (by decide : 9 + 0 ≤ _)⟩)
      dsimp only [Pt.U, Pt.locs, Pt.cells, Pt.slots] at X13 l13 y13 z13 st13 hQ13
      subst l13 y13 z13
      obtain ⟨rfl, N13q, K13q, ff13, fd13, ft13, fcc13⟩ := hQ13
      have N13 := Fr.app N11 N13q
      refine Go.tr st13 ?_
      have Zs13 : n0 ≤ T13.heap.size := Nat.le_trans Zs12 K13q.1
      have O13 : Old Z n0 T13.heap := O12.keep K13q (allS g_b12 all0)
      have fE_sa11_13 := fE_sa11_12.keep K13q
      have fF_sa11_value_13 := fF_sa11_value_12.keep K13q (ninS ne_sa11_b12 nin0)
      have fF_sa11_coder_13 := fF_sa11_coder_12.keep K13q (ninS ne_sa11_b12 nin0)
      have fV_t11_13 := fV_t11_12.keep K13q (ninS ne_t11_b12 nin0)
      have fE_b12_13 := A12.keep K13q
      show Go p e below _ (T13.setTop (mkF m 53 #[.val (.int p1), .val (.int (13 : Int32)), .val (.int (1 : Int32)), .val (.int (1 : Int32)), .val (.ref sa11), .unset, .unset, .unset] [(.ref b12)]))
      refine Go.via (fun _ => XS.astore X13.here hx rfl (hb hby at_53) rfl rfl (l' := #[.val (.int p1), .val (.int (13 : Int32)), .val (.int (1 : Int32)), .val (.int (1 : Int32)), .val (.ref sa11), .val (.ref b12), .unset, .unset]) rfl) ?_
      show Go p e below _ (T13.setTop (mkF m 55 #[.val (.int p1), .val (.int (13 : Int32)), .val (.int (1 : Int32)), .val (.int (1 : Int32)), .val (.ref sa11), .val (.ref b12), .unset, .unset] []))
      obtain ⟨T14, h14, X14, e14, E14, A14, D14, -, st14⟩ := newO X13 hx hZ hown (hw _ (List.mem_of_getElem? (i := 31) rfl)) (hw _ (List.mem_of_getElem? (i := 32) rfl)) (hw _ (List.mem_of_getElem? (i := 33) rfl)) rfl (g := (mkF m 55 #[.val (.int p1), .val (.int (13 : Int32)), .val (.int (1 : Int32)), .val (.int (1 : Int32)), .val (.ref sa11), .val (.ref b12), .unset, .unset] [])) rfl (hb hby at_55) (by decide) (by decide)
      obtain ⟨b14, g14⟩ : ∃ z, z = T13.heap.size := ⟨_, rfl⟩
      rw [← g14] at A14 D14 st14
      have g_b14 : n0 ≤ b14 := Nat.le_trans Zs13 (Nat.le_of_eq g14.symm)
      have ne_sa11_b14 : sa11 ≠ b14 := Nat.ne_of_lt (Nat.lt_of_lt_of_le fE_sa11_13.lt (Nat.le_of_eq g14.symm))
      have ne_t11_b14 : t11 ≠ b14 := Nat.ne_of_lt (Nat.lt_of_lt_of_le fV_t11_13.lt (Nat.le_of_eq g14.symm))
      have ne_b12_b14 : b12 ≠ b14 := Nat.ne_of_lt (Nat.lt_of_lt_of_le fE_b12_13.lt (Nat.le_of_eq g14.symm))
      refine Go.via st14 ?_
      have Zs14 : n0 ≤ h14.size := Nat.le_trans Zs13 E14.1
      have O14 : Old Z n0 h14 := O13.ext E14
      have fE_sa11_14 := fE_sa11_13.ext E14
      have fF_sa11_value_14 := fF_sa11_value_13.ext E14
      have fF_sa11_coder_14 := fF_sa11_coder_13.ext E14
      have fV_t11_14 := fV_t11_13.ext E14
      have fE_b12_14 := fE_b12_13.ext E14
      have fF_b12_from_14 := ff13.ext E14
      have fF_b12_found_14 := fd13.ext E14
      have fF_b12_text_14 := ft13.ext E14
      have fF_b12_c_14 := fcc13.ext E14
      have F_from_b14 : Fld Z h14 b14 "com/example/dogwood/dogwood/model/yaml/Occurrences" "from" "I" (.int (0 : Int32)) := D14 (Or.inl (hw _ (List.mem_of_getElem? (i := 40) rfl))) (ty := .int) (by decide)
      have F_found_b14 : Fld Z h14 b14 "com/example/dogwood/dogwood/model/yaml/Occurrences" "found" "I" (.int (0 : Int32)) := D14 (Or.inl (hw _ (List.mem_of_getElem? (i := 42) rfl))) (ty := .int) (by decide)
      have F_text_b14 : Fld Z h14 b14 "com/example/dogwood/dogwood/model/yaml/Occurrences" "text" "Ljava/lang/String;" .null := D14 (Or.inr (hw _ (List.mem_of_getElem? (i := 44) rfl))) (ty := (.object "java/lang/String")) (by decide)
      have F_c_b14 : Fld Z h14 b14 "com/example/dogwood/dogwood/model/yaml/Occurrences" "c" "C" (.int (0 : Int32)) := D14 (Or.inr (hw _ (List.mem_of_getElem? (i := 46) rfl))) (ty := .char) (by decide)
      show Go p e below _ (T14.setTop (mkF m 58 #[.val (.int p1), .val (.int (13 : Int32)), .val (.int (1 : Int32)), .val (.int (1 : Int32)), .val (.ref sa11), .val (.ref b12), .unset, .unset] [(.ref b14)]))
      refine Go.via (fun _ => XS.dup X14.here hx rfl (hb hby at_58) rfl rfl) ?_
      show Go p e below _ (T14.setTop (mkF m 59 #[.val (.int p1), .val (.int (13 : Int32)), .val (.int (1 : Int32)), .val (.int (1 : Int32)), .val (.ref sa11), .val (.ref b12), .unset, .unset] [(.ref b14), (.ref b14)]))
      refine Go.via (fun _ => XS.aload X14.here hx rfl (hb hby at_59) rfl rfl) ?_
      show Go p e below _ (T14.setTop (mkF m 61 #[.val (.int p1), .val (.int (13 : Int32)), .val (.int (1 : Int32)), .val (.int (1 : Int32)), .val (.ref sa11), .val (.ref b12), .unset, .unset] [(.ref sa11), (.ref b14), (.ref b14)]))
      refine Go.via (fun _ => XS.bipush X14.here hx rfl (hb hby at_61)) ?_
      show Go p e below _ (T14.setTop (mkF m 63 #[.val (.int p1), .val (.int (13 : Int32)), .val (.int (1 : Int32)), .val (.int (1 : Int32)), .val (.ref sa11), .val (.ref b12), .unset, .unset] [(.int (13 : Int32)), (.ref sa11), (.ref b14), (.ref b14)]))
      obtain ⟨_, _, ⟨T15, L15, k15, n15⟩, -, X15, ⟨Lc15, hQ15, l15, y15, z15⟩, st15⟩ := X14.specialBack hx (y := (⟨"com/example/dogwood/dogwood/model/yaml/Occurrences", "<init>", "(Ljava/lang/String;C)V"⟩ : MethodName)) rfl hown (mvT hZ (hw _ (List.mem_of_getElem? (i := 34) rfl))) (mvT hZ (hw _ (List.mem_of_getElem? (i := 35) rfl))) (mvT hZ (hw _ (List.mem_of_getElem? (i := 36) rfl))) (by decide) (backOf (W := 1) (rmOI_13 l Z a0 hw [] b14 sa11 h14 n0 Zs14 A14 F_from_b14 F_found_b14 F_text_b14 F_c_b14 g_b14) hZ (hw _ (List.mem_of_getElem? (i := 36) rfl)) (hw _ (List.mem_of_getElem? (i := 33) rfl)) (by decide) (by decide)) (g := (mkF m 63 #[.val (.int p1), .val (.int (13 : Int32)), .val (.int (1 : Int32)), .val (.int (1 : Int32)), .val (.ref sa11), .val (.ref b12), .unset, .unset] [(.int (13 : Int32)), (.ref sa11), (.ref b14), (.ref b14)])) rfl (by rw [hml]; rfl) (Steps.refl _) (a := b14) (argsL := [(.ref sa11), (.int (13 : Int32))]) (rest := [(.ref b14)]) (lenOf pd_17 rfl) rfl (by show 2 * 0 + _ ≤ _; exact Nat.le_of_eq rfl) (hb hby at_63) (fun _ _ => ⟨rfl, e14, (by decide : 4 + 0 ≤ _), (by decide : 13 + 0 ≤ _)⟩)
      dsimp only [Pt.U, Pt.locs, Pt.cells, Pt.slots] at X15 l15 y15 z15 st15 hQ15
      subst l15 y15 z15
      obtain ⟨rfl, N15q, K15q, ff15, fd15, ft15, fcc15⟩ := hQ15
      have N15 := Fr.app N13 N15q
      refine Go.tr st15 ?_
      have Zs15 : n0 ≤ T15.heap.size := Nat.le_trans Zs14 K15q.1
      have O15 : Old Z n0 T15.heap := O14.keep K15q (allS g_b14 all0)
      have fE_sa11_15 := fE_sa11_14.keep K15q
      have fF_sa11_value_15 := fF_sa11_value_14.keep K15q (ninS ne_sa11_b14 nin0)
      have fF_sa11_coder_15 := fF_sa11_coder_14.keep K15q (ninS ne_sa11_b14 nin0)
      have fV_t11_15 := fV_t11_14.keep K15q (ninS ne_t11_b14 nin0)
      have fE_b12_15 := fE_b12_14.keep K15q
      have fF_b12_from_15 := fF_b12_from_14.keep K15q (ninS ne_b12_b14 nin0)
      have fF_b12_found_15 := fF_b12_found_14.keep K15q (ninS ne_b12_b14 nin0)
      have fF_b12_text_15 := fF_b12_text_14.keep K15q (ninS ne_b12_b14 nin0)
      have fF_b12_c_15 := fF_b12_c_14.keep K15q (ninS ne_b12_b14 nin0)
      have fE_b14_15 := A14.keep K15q
      show Go p e below _ (T15.setTop (mkF m 66 #[.val (.int p1), .val (.int (13 : Int32)), .val (.int (1 : Int32)), .val (.int (1 : Int32)), .val (.ref sa11), .val (.ref b12), .unset, .unset] [(.ref b14)]))
      refine Go.via (fun _ => XS.astore X15.here hx rfl (hb hby at_66) rfl rfl (l' := #[.val (.int p1), .val (.int (13 : Int32)), .val (.int (1 : Int32)), .val (.int (1 : Int32)), .val (.ref sa11), .val (.ref b12), .val (.ref b14), .unset]) rfl) ?_
      show Go p e below _ (T15.setTop (mkF m 68 #[.val (.int p1), .val (.int (13 : Int32)), .val (.int (1 : Int32)), .val (.int (1 : Int32)), .val (.ref sa11), .val (.ref b12), .val (.ref b14), .unset] []))
      refine Go.via (fun _ => XS.aload X15.here hx rfl (hb hby at_68) rfl rfl) ?_
      show Go p e below _ (T15.setTop (mkF m 70 #[.val (.int p1), .val (.int (13 : Int32)), .val (.int (1 : Int32)), .val (.int (1 : Int32)), .val (.ref sa11), .val (.ref b12), .val (.ref b14), .unset] [(.ref sa11)]))
      refine Go.via (fun _ => XS.iconst X15.here hx rfl (hb hby at_70)) ?_
      show Go p e below _ (T15.setTop (mkF m 71 #[.val (.int p1), .val (.int (13 : Int32)), .val (.int (1 : Int32)), .val (.int (1 : Int32)), .val (.ref sa11), .val (.ref b12), .val (.ref b14), .unset] [(.int (0 : Int32)), (.ref sa11)]))
      refine Go.via (fun _ => XS.aload X15.here hx rfl (hb hby at_71) rfl rfl) ?_
      show Go p e below _ (T15.setTop (mkF m 73 #[.val (.int p1), .val (.int (13 : Int32)), .val (.int (1 : Int32)), .val (.int (1 : Int32)), .val (.ref sa11), .val (.ref b12), .val (.ref b14), .unset] [(.ref b12), (.int (0 : Int32)), (.ref sa11)]))
      refine Go.via (fun _ => XS.aload X15.here hx rfl (hb hby at_73) rfl rfl) ?_
      show Go p e below _ (T15.setTop (mkF m 75 #[.val (.int p1), .val (.int (13 : Int32)), .val (.int (1 : Int32)), .val (.int (1 : Int32)), .val (.ref sa11), .val (.ref b12), .val (.ref b14), .unset] [(.ref b14), (.ref b12), (.int (0 : Int32)), (.ref sa11)]))
      obtain ⟨_, _, ⟨T16, L16, k16, n16⟩, -, X16, ⟨Lc16, hQ16, l16, y16, z16⟩, st16⟩ := Jvm.LawKit.callS X15 hx (y := (⟨"com/example/dogwood/dogwood/model/yaml/Lines", "end", "(Ljava/lang/String;ILcom/example/dogwood/dogwood/model/yaml/Occurrences;Lcom/example/dogwood/dogwood/model/yaml/Occurrences;)I"⟩ : MethodName)) hown (mvT hZ (hw _ (List.mem_of_getElem? (i := 47) rfl))) (mvT hZ (hw _ (List.mem_of_getElem? (i := 48) rfl))) (mvT hZ (hw _ (List.mem_of_getElem? (i := 3) rfl))) (mvT hZ (hw _ (List.mem_of_getElem? (i := 49) rfl))) (by decide) (backOf (W := 0) (rmE_13 l Z a0 hw [] b12 b14 sa11 t11 kb11 (13 : Int32) ccs vF T15.heap n0 Zs15 fE_b12_15 fF_b12_from_15 fF_b12_found_15 fF_b12_text_15 fF_b12_c_15 g_b12 fE_b14_15 ff15 fd15 ft15 fcc15 g_b14 ne_b12_b14 ne_sa11_b12 ne_sa11_b14 ne_t11_b12 ne_t11_b14 fE_sa11_15 fF_sa11_value_15 fF_sa11_coder_15 fV_t11_15 own_q10_13 own_q13_13 (by decide) (by decide) O15 S_CS hcs S_AD S_HI S_LO S_SF rF) hZ (hw _ (List.mem_of_getElem? (i := 49) rfl)) (hw _ (List.mem_of_getElem? (i := 3) rfl)) (by decide) (by decide)) (g := (mkF m 75 #[.val (.int p1), .val (.int (13 : Int32)), .val (.int (1 : Int32)), .val (.int (1 : Int32)), .val (.ref sa11), .val (.ref b12), .val (.ref b14), .unset] [(.ref b14), (.ref b12), (.int (0 : Int32)), (.ref sa11)])) rfl (by rw [hml]; rfl) (argsL := [(.ref sa11), (.int (0 : Int32)), (.ref b12), (.ref b14)]) (rest := []) (lenOf pd_18 rfl) rfl (by show 2 * 0 + _ ≤ _; exact Nat.le_of_eq rfl) (hb hby at_75) (fun _ _ => ⟨rfl, rfl, (by decide : 4 + 0 ≤ _), (by decide : 13 + 0 ≤ _)⟩)
      dsimp only [Pt.U, Pt.locs, Pt.cells, Pt.slots] at X16 l16 y16 z16 st16 hQ16
      subst l16 y16 z16
      obtain ⟨rfl, N16q, K16q⟩ := hQ16
      have N16 := Fr.app N15 N16q
      refine Go.via st16 ?_
      have Zs16 : n0 ≤ T16.heap.size := Nat.le_trans Zs15 K16q.1
      have O16 : Old Z n0 T16.heap := O15.keep K16q (allS g_b12 (allS g_b14 all0))
      have fE_sa11_16 := fE_sa11_15.keep K16q
      have fF_sa11_value_16 := fF_sa11_value_15.keep K16q (ninS ne_sa11_b12 (ninS ne_sa11_b14 nin0))
      have fF_sa11_coder_16 := fF_sa11_coder_15.keep K16q (ninS ne_sa11_b12 (ninS ne_sa11_b14 nin0))
      have fV_t11_16 := fV_t11_15.keep K16q (ninS ne_t11_b12 (ninS ne_t11_b14 nin0))
      have fE_b12_16 := fE_b12_15.keep K16q
      have fE_b14_16 := fE_b14_15.keep K16q
      show Go p e below _ (T16.setTop (mkF m 78 #[.val (.int p1), .val (.int (13 : Int32)), .val (.int (1 : Int32)), .val (.int (1 : Int32)), .val (.ref sa11), .val (.ref b12), .val (.ref b14), .unset] [(.int (0 : Int32))]))
      refine Go.via (fun _ => XS.istore X16.here hx rfl (hb hby at_78) rfl (l' := #[.val (.int p1), .val (.int (13 : Int32)), .val (.int (1 : Int32)), .val (.int (1 : Int32)), .val (.ref sa11), .val (.ref b12), .val (.ref b14), .val (.int (0 : Int32))]) rfl) ?_
      show Go p e below _ (T16.setTop (mkF m 80 #[.val (.int p1), .val (.int (13 : Int32)), .val (.int (1 : Int32)), .val (.int (1 : Int32)), .val (.ref sa11), .val (.ref b12), .val (.ref b14), .val (.int (0 : Int32))] []))
      refine Go.via (fun _ => XS.iloadN X16.here hx rfl (hb hby at_80) rfl) ?_
      show Go p e below _ (T16.setTop (mkF m 81 #[.val (.int p1), .val (.int (13 : Int32)), .val (.int (1 : Int32)), .val (.int (1 : Int32)), .val (.ref sa11), .val (.ref b12), .val (.ref b14), .val (.int (0 : Int32))] [(.int (1 : Int32))]))
      refine Go.via (fun _ => XS.iload X16.here hx rfl (hb hby at_81) rfl) ?_
      show Go p e below _ (T16.setTop (mkF m 83 #[.val (.int p1), .val (.int (13 : Int32)), .val (.int (1 : Int32)), .val (.int (1 : Int32)), .val (.ref sa11), .val (.ref b12), .val (.ref b14), .val (.int (0 : Int32))] [(.int (0 : Int32)), (.int (1 : Int32))]))
      refine Go.via (fun _ => XS.ifNo X16.here hx rfl (hb hby at_83) rfl (by decide)) ?_
      show Go p e below _ (T16.setTop (mkF m 86 #[.val (.int p1), .val (.int (13 : Int32)), .val (.int (1 : Int32)), .val (.int (1 : Int32)), .val (.ref sa11), .val (.ref b12), .val (.ref b14), .val (.int (0 : Int32))] [(.int (1 : Int32))]))
      refine Go.via (fun _ => XS.iconst X16.here hx rfl (hb hby at_86)) ?_
      show Go p e below _ (T16.setTop (mkF m 87 #[.val (.int p1), .val (.int (13 : Int32)), .val (.int (1 : Int32)), .val (.int (1 : Int32)), .val (.ref sa11), .val (.ref b12), .val (.ref b14), .val (.int (0 : Int32))] [(.int (1 : Int32)), (.int (1 : Int32))]))
      refine Go.via (fun _ => XS.goto X16.here hx rfl (pc0 := 87) (pc' := 91) rfl (hb hby at_87) (by decide) (by decide)) ?_
      show Go p e below _ (T16.setTop (mkF m 91 #[.val (.int p1), .val (.int (13 : Int32)), .val (.int (1 : Int32)), .val (.int (1 : Int32)), .val (.ref sa11), .val (.ref b12), .val (.ref b14), .val (.int (0 : Int32))] [(.int (1 : Int32)), (.int (1 : Int32))]))
      refine Go.via (fun _ => XS.icmpNo X16.here hx rfl (hb hby at_91) rfl (by decide)) ?_
      show Go p e below _ (T16.setTop (mkF m 94 #[.val (.int p1), .val (.int (13 : Int32)), .val (.int (1 : Int32)), .val (.int (1 : Int32)), .val (.ref sa11), .val (.ref b12), .val (.ref b14), .val (.int (0 : Int32))] []))
      refine Go.via (fun _ => XS.iconst X16.here hx rfl (hb hby at_94)) ?_
      show Go p e below _ (T16.setTop (mkF m 95 #[.val (.int p1), .val (.int (13 : Int32)), .val (.int (1 : Int32)), .val (.int (1 : Int32)), .val (.ref sa11), .val (.ref b12), .val (.ref b14), .val (.int (0 : Int32))] [(.int (1 : Int32))]))
      refine Go.via (fun _ => XS.goto X16.here hx rfl (pc0 := 95) (pc' := 99) rfl (hb hby at_95) (by decide) (by decide)) ?_
      show Go p e below _ (T16.setTop (mkF m 99 #[.val (.int p1), .val (.int (13 : Int32)), .val (.int (1 : Int32)), .val (.int (1 : Int32)), .val (.ref sa11), .val (.ref b12), .val (.ref b14), .val (.int (0 : Int32))] [(.int (1 : Int32))]))
      exact own_retN X16 hx hlk (t := .boolean) Bd.returns (by simp) (hb hby at_99) (by show Q0 Z p1 ccs vF h0 n0 _ T16.heap _; exact ⟨rfl, N16⟩) (by decide) (by decide)
    · -- no
      show Go p e below _ (s₁.setTop (mkF m 15 #[.val (.int p1), .val (.int cz), .unset, .unset, .unset, .unset, .unset, .unset] [(.int (13 : Int32)), (.int cz)]))
      show Go p e below _ (s₁.setTop (mkF m 15 #[.val (.int p1), .val (.int cz), .unset, .unset, .unset, .unset, .unset, .unset] [(.int (13 : Int32)), (.int cz)]))
      refine Go.via (fun _ => XS.icmpYes X0.here hx rfl (pc0 := 15) (pc' := 22) rfl (hb hby at_15) rfl (feq hc9).2 (by decide) (by decide)) ?_
      show Go p e below _ (s₁.setTop (mkF m 22 #[.val (.int p1), .val (.int cz), .unset, .unset, .unset, .unset, .unset, .unset] []))
      refine Go.via (fun _ => XS.iconst X0.here hx rfl (hb hby at_22)) ?_
      show Go p e below _ (s₁.setTop (mkF m 23 #[.val (.int p1), .val (.int cz), .unset, .unset, .unset, .unset, .unset, .unset] [(.int (0 : Int32))]))
      refine Go.via (fun _ => XS.istoreN X0.here hx rfl (hb hby at_23) rfl (l' := #[.val (.int p1), .val (.int cz), .val (.int (0 : Int32)), .unset, .unset, .unset, .unset, .unset]) rfl) ?_
      show Go p e below _ (s₁.setTop (mkF m 24 #[.val (.int p1), .val (.int cz), .val (.int (0 : Int32)), .unset, .unset, .unset, .unset, .unset] []))
      refine Go.via (fun _ => XS.iloadN X0.here hx rfl (hb hby at_24) rfl) ?_
      show Go p e below _ (s₁.setTop (mkF m 25 #[.val (.int p1), .val (.int cz), .val (.int (0 : Int32)), .unset, .unset, .unset, .unset, .unset] [(.int cz)]))
      obtain ⟨_, _, ⟨T17, L17, k17, n17⟩, -, X17, ⟨Lc17, hQ17, l17, y17, z17⟩, st17⟩ := Jvm.LawKit.callS X0 hx (y := (⟨"com/example/dogwood/dogwood/model/yaml/Lines", "isBreak", "(C)Z"⟩ : MethodName)) hown (mvT hZ (hw _ (List.mem_of_getElem? (i := 1) rfl))) (mvT hZ (hw _ (List.mem_of_getElem? (i := 2) rfl))) (mvT hZ (hw _ (List.mem_of_getElem? (i := 3) rfl))) (mvT hZ (hw _ (List.mem_of_getElem? (i := 4) rfl))) (by decide) (backOf (W := 0) (rmB_o l Z a0 hw [] cz h0 n0 Z0 hc1 hc9) hZ (hw _ (List.mem_of_getElem? (i := 4) rfl)) (hw _ (List.mem_of_getElem? (i := 3) rfl)) (by decide) (by decide)) (g := (mkF m 25 #[.val (.int p1), .val (.int cz), .val (.int (0 : Int32)), .unset, .unset, .unset, .unset, .unset] [(.int cz)])) rfl (by rw [hml]; rfl) (argsL := [(.int cz)]) (rest := []) (lenOf pd_1 rfl) rfl (by show 2 * 0 + _ ≤ _; exact Nat.le_of_eq rfl) (hb hby at_25) (fun _ _ => ⟨rfl, e0, (by decide : 0 + 0 ≤ _), (by decide : 0 + 0 ≤ _)⟩)
      dsimp only [Pt.U, Pt.locs, Pt.cells, Pt.slots] at X17 l17 y17 z17 st17 hQ17
      subst l17 y17 z17
      obtain ⟨rfl, N17q, e17q⟩ := hQ17
      have N17 := Fr.app N0 N17q
      refine Go.via st17 ?_
      show Go p e below _ (T17.setTop (mkF m 28 #[.val (.int p1), .val (.int cz), .val (.int (0 : Int32)), .unset, .unset, .unset, .unset, .unset] [(.int (0 : Int32))]))
      refine Go.via (fun _ => XS.istoreN X17.here hx rfl (hb hby at_28) rfl (l' := #[.val (.int p1), .val (.int cz), .val (.int (0 : Int32)), .val (.int (0 : Int32)), .unset, .unset, .unset, .unset]) rfl) ?_
      show Go p e below _ (T17.setTop (mkF m 29 #[.val (.int p1), .val (.int cz), .val (.int (0 : Int32)), .val (.int (0 : Int32)), .unset, .unset, .unset, .unset] []))
      refine Go.via (fun _ => XS.iloadN X17.here hx rfl (hb hby at_29) rfl) ?_
      show Go p e below _ (T17.setTop (mkF m 30 #[.val (.int p1), .val (.int cz), .val (.int (0 : Int32)), .val (.int (0 : Int32)), .unset, .unset, .unset, .unset] [(.int (0 : Int32))]))
      refine Go.via (fun _ => XS.iloadN X17.here hx rfl (hb hby at_30) rfl) ?_
      show Go p e below _ (T17.setTop (mkF m 31 #[.val (.int p1), .val (.int cz), .val (.int (0 : Int32)), .val (.int (0 : Int32)), .unset, .unset, .unset, .unset] [(.int (0 : Int32)), (.int (0 : Int32))]))
      refine Go.via (fun _ => XS.icmpYes X17.here hx rfl (pc0 := 31) (pc' := 36) rfl (hb hby at_31) rfl (by decide) (by decide) (by decide)) ?_
      show Go p e below _ (T17.setTop (mkF m 36 #[.val (.int p1), .val (.int cz), .val (.int (0 : Int32)), .val (.int (0 : Int32)), .unset, .unset, .unset, .unset] []))
      refine Go.via (fun _ => XS.iloadN X17.here hx rfl (hb hby at_36) rfl) ?_
      show Go p e below _ (T17.setTop (mkF m 37 #[.val (.int p1), .val (.int cz), .val (.int (0 : Int32)), .val (.int (0 : Int32)), .unset, .unset, .unset, .unset] [(.int cz)]))
      by_cases hz : (255 : Int32) < cz
      ·
        show Go p e below _ (T17.setTop (mkF m 37 #[.val (.int p1), .val (.int cz), .val (.int (0 : Int32)), .val (.int (0 : Int32)), .unset, .unset, .unset, .unset] [(.int cz)]))
        obtain ⟨_, _, ⟨T18, L18, k18, n18⟩, -, X18, ⟨Lc18, hQ18, l18, y18, z18⟩, st18⟩ := Jvm.LawKit.callS X17 hx (y := (⟨"java/lang/String", "valueOf", "(C)Ljava/lang/String;"⟩ : MethodName)) hown (mvT hZ (hw _ (List.mem_of_getElem? (i := 5) rfl))) (mvT hZ (hw _ (List.mem_of_getElem? (i := 6) rfl))) (mvT hZ (hw _ (List.mem_of_getElem? (i := 7) rfl))) (mvT hZ (hw _ (List.mem_of_getElem? (i := 8) rfl))) (by decide) (backOf (W := 0) (rmVO_0 l Z a0 hw [] cz ccs vF h0 n0 Z0 O0 S_CS hcs S_AD S_HI S_LO S_SF rF hz) hZ (hw _ (List.mem_of_getElem? (i := 8) rfl)) (hw _ (List.mem_of_getElem? (i := 7) rfl)) (by decide) (by decide)) (g := (mkF m 37 #[.val (.int p1), .val (.int cz), .val (.int (0 : Int32)), .val (.int (0 : Int32)), .unset, .unset, .unset, .unset] [(.int cz)])) rfl (by rw [hml]; rfl) (argsL := [(.int cz)]) (rest := []) (lenOf pd_16 rfl) rfl (by show 2 * 0 + _ ≤ _; exact Nat.le_of_eq rfl) (hb hby at_37) (fun _ _ => ⟨rfl, e17q, (by decide : 0 + 2 ≤ _), (by decide : 0 + 6 ≤ _)⟩)
        dsimp only [Pt.U, Pt.locs, Pt.cells, Pt.slots] at X18 l18 y18 z18 st18 hQ18
        subst l18 y18 z18
        obtain ⟨sa18, t18, kb18, rfl, N18q, K18q, ga18, gt18, nat18, es18, fv18, fc18, va18⟩ := hQ18
        have N18 := Fr.app N17 N18q
        refine Go.via st18 ?_
        have Zs18 : n0 ≤ T18.heap.size := Nat.le_trans Z0 K18q.1
        have O18 : Old Z n0 T18.heap := O0.keep K18q all0
        have g_sa18 : n0 ≤ sa18 := Nat.le_trans Z0 ga18
        have g_t18 : n0 ≤ t18 := Nat.le_trans Z0 gt18
        show Go p e below _ (T18.setTop (mkF m 40 #[.val (.int p1), .val (.int cz), .val (.int (0 : Int32)), .val (.int (0 : Int32)), .unset, .unset, .unset, .unset] [(.ref sa18)]))
        refine Go.via (fun _ => XS.astore X18.here hx rfl (hb hby at_40) rfl rfl (l' := #[.val (.int p1), .val (.int cz), .val (.int (0 : Int32)), .val (.int (0 : Int32)), .val (.ref sa18), .unset, .unset, .unset]) rfl) ?_
        show Go p e below _ (T18.setTop (mkF m 42 #[.val (.int p1), .val (.int cz), .val (.int (0 : Int32)), .val (.int (0 : Int32)), .val (.ref sa18), .unset, .unset, .unset] []))
        obtain ⟨T19, h19, X19, e19, E19, A19, D19, -, st19⟩ := newO X18 hx hZ hown (hw _ (List.mem_of_getElem? (i := 31) rfl)) (hw _ (List.mem_of_getElem? (i := 32) rfl)) (hw _ (List.mem_of_getElem? (i := 33) rfl)) rfl (g := (mkF m 42 #[.val (.int p1), .val (.int cz), .val (.int (0 : Int32)), .val (.int (0 : Int32)), .val (.ref sa18), .unset, .unset, .unset] [])) rfl (hb hby at_42) (by decide) (by decide)
        obtain ⟨b19, g19⟩ : ∃ z, z = T18.heap.size := ⟨_, rfl⟩
        rw [← g19] at A19 D19 st19
        have g_b19 : n0 ≤ b19 := Nat.le_trans Zs18 (Nat.le_of_eq g19.symm)
        have ne_sa18_b19 : sa18 ≠ b19 := Nat.ne_of_lt (Nat.lt_of_lt_of_le es18.lt (Nat.le_of_eq g19.symm))
        have ne_t18_b19 : t18 ≠ b19 := Nat.ne_of_lt (Nat.lt_of_lt_of_le va18.lt (Nat.le_of_eq g19.symm))
        refine Go.via st19 ?_
        have Zs19 : n0 ≤ h19.size := Nat.le_trans Zs18 E19.1
        have O19 : Old Z n0 h19 := O18.ext E19
        have fE_sa18_19 := es18.ext E19
        have fF_sa18_value_19 := fv18.ext E19
        have fF_sa18_coder_19 := fc18.ext E19
        have fV_t18_19 := va18.ext E19
        have F_from_b19 : Fld Z h19 b19 "com/example/dogwood/dogwood/model/yaml/Occurrences" "from" "I" (.int (0 : Int32)) := D19 (Or.inl (hw _ (List.mem_of_getElem? (i := 40) rfl))) (ty := .int) (by decide)
        have F_found_b19 : Fld Z h19 b19 "com/example/dogwood/dogwood/model/yaml/Occurrences" "found" "I" (.int (0 : Int32)) := D19 (Or.inl (hw _ (List.mem_of_getElem? (i := 42) rfl))) (ty := .int) (by decide)
        have F_text_b19 : Fld Z h19 b19 "com/example/dogwood/dogwood/model/yaml/Occurrences" "text" "Ljava/lang/String;" .null := D19 (Or.inr (hw _ (List.mem_of_getElem? (i := 44) rfl))) (ty := (.object "java/lang/String")) (by decide)
        have F_c_b19 : Fld Z h19 b19 "com/example/dogwood/dogwood/model/yaml/Occurrences" "c" "C" (.int (0 : Int32)) := D19 (Or.inr (hw _ (List.mem_of_getElem? (i := 46) rfl))) (ty := .char) (by decide)
        show Go p e below _ (T19.setTop (mkF m 45 #[.val (.int p1), .val (.int cz), .val (.int (0 : Int32)), .val (.int (0 : Int32)), .val (.ref sa18), .unset, .unset, .unset] [(.ref b19)]))
        refine Go.via (fun _ => XS.dup X19.here hx rfl (hb hby at_45) rfl rfl) ?_
        show Go p e below _ (T19.setTop (mkF m 46 #[.val (.int p1), .val (.int cz), .val (.int (0 : Int32)), .val (.int (0 : Int32)), .val (.ref sa18), .unset, .unset, .unset] [(.ref b19), (.ref b19)]))
        refine Go.via (fun _ => XS.aload X19.here hx rfl (hb hby at_46) rfl rfl) ?_
        show Go p e below _ (T19.setTop (mkF m 48 #[.val (.int p1), .val (.int cz), .val (.int (0 : Int32)), .val (.int (0 : Int32)), .val (.ref sa18), .unset, .unset, .unset] [(.ref sa18), (.ref b19), (.ref b19)]))
        refine Go.via (fun _ => XS.bipush X19.here hx rfl (hb hby at_48)) ?_
        show Go p e below _ (T19.setTop (mkF m 50 #[.val (.int p1), .val (.int cz), .val (.int (0 : Int32)), .val (.int (0 : Int32)), .val (.ref sa18), .unset, .unset, .unset] [(.int (10 : Int32)), (.ref sa18), (.ref b19), (.ref b19)]))
        obtain ⟨_, _, ⟨T20, L20, k20, n20⟩, -, X20, ⟨Lc20, hQ20, l20, y20, z20⟩, st20⟩ := X19.specialBack hx (y := (⟨"com/example/dogwood/dogwood/model/yaml/Occurrences", "<init>", "(Ljava/lang/String;C)V"⟩ : MethodName)) rfl hown (mvT hZ (hw _ (List.mem_of_getElem? (i := 34) rfl))) (mvT hZ (hw _ (List.mem_of_getElem? (i := 35) rfl))) (mvT hZ (hw _ (List.mem_of_getElem? (i := 36) rfl))) (by decide) (backOf (W := 1) (rmOI_10 l Z a0 hw [] b19 sa18 h19 n0 Zs19 A19 F_from_b19 F_found_b19 F_text_b19 F_c_b19 g_b19) hZ (hw _ (List.mem_of_getElem? (i := 36) rfl)) (hw _ (List.mem_of_getElem? (i := 33) rfl)) (by decide) (by decide)) (g := (mkF m 50 #[.val (.int p1), .val (.int cz), .val (.int (0 : Int32)), .val (.int (0 : Int32)), .val (.ref sa18), .unset, .unset, .unset] [(.int (10 : Int32)), (.ref sa18), (.ref b19), (.ref b19)])) rfl (by rw [hml]; rfl) (Steps.refl _) (a := b19) (argsL := [(.ref sa18), (.int (10 : Int32))]) (rest := [(.ref b19)]) (lenOf pd_17 rfl) rfl (by show 2 * 0 + _ ≤ _; exact Nat.le_of_eq rfl) (hb hby at_50) (fun _ _ => ⟨rfl, e19, (by decide : 3 + 0 ≤ _), (by decide : 10 + 0 ≤ _)⟩)
        dsimp only [Pt.U, Pt.locs, Pt.cells, Pt.slots] at X20 l20 y20 z20 st20 hQ20
        subst l20 y20 z20
        obtain ⟨rfl, N20q, K20q, ff20, fd20, ft20, fcc20⟩ := hQ20
        have N20 := Fr.app N18 N20q
        refine Go.tr st20 ?_
        have Zs20 : n0 ≤ T20.heap.size := Nat.le_trans Zs19 K20q.1
        have O20 : Old Z n0 T20.heap := O19.keep K20q (allS g_b19 all0)
        have fE_sa18_20 := fE_sa18_19.keep K20q
        have fF_sa18_value_20 := fF_sa18_value_19.keep K20q (ninS ne_sa18_b19 nin0)
        have fF_sa18_coder_20 := fF_sa18_coder_19.keep K20q (ninS ne_sa18_b19 nin0)
        have fV_t18_20 := fV_t18_19.keep K20q (ninS ne_t18_b19 nin0)
        have fE_b19_20 := A19.keep K20q
        show Go p e below _ (T20.setTop (mkF m 53 #[.val (.int p1), .val (.int cz), .val (.int (0 : Int32)), .val (.int (0 : Int32)), .val (.ref sa18), .unset, .unset, .unset] [(.ref b19)]))
        refine Go.via (fun _ => XS.astore X20.here hx rfl (hb hby at_53) rfl rfl (l' := #[.val (.int p1), .val (.int cz), .val (.int (0 : Int32)), .val (.int (0 : Int32)), .val (.ref sa18), .val (.ref b19), .unset, .unset]) rfl) ?_
        show Go p e below _ (T20.setTop (mkF m 55 #[.val (.int p1), .val (.int cz), .val (.int (0 : Int32)), .val (.int (0 : Int32)), .val (.ref sa18), .val (.ref b19), .unset, .unset] []))
        obtain ⟨T21, h21, X21, e21, E21, A21, D21, -, st21⟩ := newO X20 hx hZ hown (hw _ (List.mem_of_getElem? (i := 31) rfl)) (hw _ (List.mem_of_getElem? (i := 32) rfl)) (hw _ (List.mem_of_getElem? (i := 33) rfl)) rfl (g := (mkF m 55 #[.val (.int p1), .val (.int cz), .val (.int (0 : Int32)), .val (.int (0 : Int32)), .val (.ref sa18), .val (.ref b19), .unset, .unset] [])) rfl (hb hby at_55) (by decide) (by decide)
        obtain ⟨b21, g21⟩ : ∃ z, z = T20.heap.size := ⟨_, rfl⟩
        rw [← g21] at A21 D21 st21
        have g_b21 : n0 ≤ b21 := Nat.le_trans Zs20 (Nat.le_of_eq g21.symm)
        have ne_sa18_b21 : sa18 ≠ b21 := Nat.ne_of_lt (Nat.lt_of_lt_of_le fE_sa18_20.lt (Nat.le_of_eq g21.symm))
        have ne_t18_b21 : t18 ≠ b21 := Nat.ne_of_lt (Nat.lt_of_lt_of_le fV_t18_20.lt (Nat.le_of_eq g21.symm))
        have ne_b19_b21 : b19 ≠ b21 := Nat.ne_of_lt (Nat.lt_of_lt_of_le fE_b19_20.lt (Nat.le_of_eq g21.symm))
        refine Go.via st21 ?_
        have Zs21 : n0 ≤ h21.size := Nat.le_trans Zs20 E21.1
        have O21 : Old Z n0 h21 := O20.ext E21
        have fE_sa18_21 := fE_sa18_20.ext E21
        have fF_sa18_value_21 := fF_sa18_value_20.ext E21
        have fF_sa18_coder_21 := fF_sa18_coder_20.ext E21
        have fV_t18_21 := fV_t18_20.ext E21
        have fE_b19_21 := fE_b19_20.ext E21
        have fF_b19_from_21 := ff20.ext E21
        have fF_b19_found_21 := fd20.ext E21
        have fF_b19_text_21 := ft20.ext E21
        have fF_b19_c_21 := fcc20.ext E21
        have F_from_b21 : Fld Z h21 b21 "com/example/dogwood/dogwood/model/yaml/Occurrences" "from" "I" (.int (0 : Int32)) := D21 (Or.inl (hw _ (List.mem_of_getElem? (i := 40) rfl))) (ty := .int) (by decide)
        have F_found_b21 : Fld Z h21 b21 "com/example/dogwood/dogwood/model/yaml/Occurrences" "found" "I" (.int (0 : Int32)) := D21 (Or.inl (hw _ (List.mem_of_getElem? (i := 42) rfl))) (ty := .int) (by decide)
        have F_text_b21 : Fld Z h21 b21 "com/example/dogwood/dogwood/model/yaml/Occurrences" "text" "Ljava/lang/String;" .null := D21 (Or.inr (hw _ (List.mem_of_getElem? (i := 44) rfl))) (ty := (.object "java/lang/String")) (by decide)
        have F_c_b21 : Fld Z h21 b21 "com/example/dogwood/dogwood/model/yaml/Occurrences" "c" "C" (.int (0 : Int32)) := D21 (Or.inr (hw _ (List.mem_of_getElem? (i := 46) rfl))) (ty := .char) (by decide)
        show Go p e below _ (T21.setTop (mkF m 58 #[.val (.int p1), .val (.int cz), .val (.int (0 : Int32)), .val (.int (0 : Int32)), .val (.ref sa18), .val (.ref b19), .unset, .unset] [(.ref b21)]))
        refine Go.via (fun _ => XS.dup X21.here hx rfl (hb hby at_58) rfl rfl) ?_
        show Go p e below _ (T21.setTop (mkF m 59 #[.val (.int p1), .val (.int cz), .val (.int (0 : Int32)), .val (.int (0 : Int32)), .val (.ref sa18), .val (.ref b19), .unset, .unset] [(.ref b21), (.ref b21)]))
        refine Go.via (fun _ => XS.aload X21.here hx rfl (hb hby at_59) rfl rfl) ?_
        show Go p e below _ (T21.setTop (mkF m 61 #[.val (.int p1), .val (.int cz), .val (.int (0 : Int32)), .val (.int (0 : Int32)), .val (.ref sa18), .val (.ref b19), .unset, .unset] [(.ref sa18), (.ref b21), (.ref b21)]))
        refine Go.via (fun _ => XS.bipush X21.here hx rfl (hb hby at_61)) ?_
        show Go p e below _ (T21.setTop (mkF m 63 #[.val (.int p1), .val (.int cz), .val (.int (0 : Int32)), .val (.int (0 : Int32)), .val (.ref sa18), .val (.ref b19), .unset, .unset] [(.int (13 : Int32)), (.ref sa18), (.ref b21), (.ref b21)]))
        obtain ⟨_, _, ⟨T22, L22, k22, n22⟩, -, X22, ⟨Lc22, hQ22, l22, y22, z22⟩, st22⟩ := X21.specialBack hx (y := (⟨"com/example/dogwood/dogwood/model/yaml/Occurrences", "<init>", "(Ljava/lang/String;C)V"⟩ : MethodName)) rfl hown (mvT hZ (hw _ (List.mem_of_getElem? (i := 34) rfl))) (mvT hZ (hw _ (List.mem_of_getElem? (i := 35) rfl))) (mvT hZ (hw _ (List.mem_of_getElem? (i := 36) rfl))) (by decide) (backOf (W := 1) (rmOI_13 l Z a0 hw [] b21 sa18 h21 n0 Zs21 A21 F_from_b21 F_found_b21 F_text_b21 F_c_b21 g_b21) hZ (hw _ (List.mem_of_getElem? (i := 36) rfl)) (hw _ (List.mem_of_getElem? (i := 33) rfl)) (by decide) (by decide)) (g := (mkF m 63 #[.val (.int p1), .val (.int cz), .val (.int (0 : Int32)), .val (.int (0 : Int32)), .val (.ref sa18), .val (.ref b19), .unset, .unset] [(.int (13 : Int32)), (.ref sa18), (.ref b21), (.ref b21)])) rfl (by rw [hml]; rfl) (Steps.refl _) (a := b21) (argsL := [(.ref sa18), (.int (13 : Int32))]) (rest := [(.ref b21)]) (lenOf pd_17 rfl) rfl (by show 2 * 0 + _ ≤ _; exact Nat.le_of_eq rfl) (hb hby at_63) (fun _ _ => ⟨rfl, e21, (by decide : 4 + 0 ≤ _), (by decide : 14 + 0 ≤ _)⟩)
        dsimp only [Pt.U, Pt.locs, Pt.cells, Pt.slots] at X22 l22 y22 z22 st22 hQ22
        subst l22 y22 z22
        obtain ⟨rfl, N22q, K22q, ff22, fd22, ft22, fcc22⟩ := hQ22
        have N22 := Fr.app N20 N22q
        refine Go.tr st22 ?_
        have Zs22 : n0 ≤ T22.heap.size := Nat.le_trans Zs21 K22q.1
        have O22 : Old Z n0 T22.heap := O21.keep K22q (allS g_b21 all0)
        have fE_sa18_22 := fE_sa18_21.keep K22q
        have fF_sa18_value_22 := fF_sa18_value_21.keep K22q (ninS ne_sa18_b21 nin0)
        have fF_sa18_coder_22 := fF_sa18_coder_21.keep K22q (ninS ne_sa18_b21 nin0)
        have fV_t18_22 := fV_t18_21.keep K22q (ninS ne_t18_b21 nin0)
        have fE_b19_22 := fE_b19_21.keep K22q
        have fF_b19_from_22 := fF_b19_from_21.keep K22q (ninS ne_b19_b21 nin0)
        have fF_b19_found_22 := fF_b19_found_21.keep K22q (ninS ne_b19_b21 nin0)
        have fF_b19_text_22 := fF_b19_text_21.keep K22q (ninS ne_b19_b21 nin0)
        have fF_b19_c_22 := fF_b19_c_21.keep K22q (ninS ne_b19_b21 nin0)
        have fE_b21_22 := A21.keep K22q
        show Go p e below _ (T22.setTop (mkF m 66 #[.val (.int p1), .val (.int cz), .val (.int (0 : Int32)), .val (.int (0 : Int32)), .val (.ref sa18), .val (.ref b19), .unset, .unset] [(.ref b21)]))
        refine Go.via (fun _ => XS.astore X22.here hx rfl (hb hby at_66) rfl rfl (l' := #[.val (.int p1), .val (.int cz), .val (.int (0 : Int32)), .val (.int (0 : Int32)), .val (.ref sa18), .val (.ref b19), .val (.ref b21), .unset]) rfl) ?_
        show Go p e below _ (T22.setTop (mkF m 68 #[.val (.int p1), .val (.int cz), .val (.int (0 : Int32)), .val (.int (0 : Int32)), .val (.ref sa18), .val (.ref b19), .val (.ref b21), .unset] []))
        refine Go.via (fun _ => XS.aload X22.here hx rfl (hb hby at_68) rfl rfl) ?_
        show Go p e below _ (T22.setTop (mkF m 70 #[.val (.int p1), .val (.int cz), .val (.int (0 : Int32)), .val (.int (0 : Int32)), .val (.ref sa18), .val (.ref b19), .val (.ref b21), .unset] [(.ref sa18)]))
        refine Go.via (fun _ => XS.iconst X22.here hx rfl (hb hby at_70)) ?_
        show Go p e below _ (T22.setTop (mkF m 71 #[.val (.int p1), .val (.int cz), .val (.int (0 : Int32)), .val (.int (0 : Int32)), .val (.ref sa18), .val (.ref b19), .val (.ref b21), .unset] [(.int (0 : Int32)), (.ref sa18)]))
        refine Go.via (fun _ => XS.aload X22.here hx rfl (hb hby at_71) rfl rfl) ?_
        show Go p e below _ (T22.setTop (mkF m 73 #[.val (.int p1), .val (.int cz), .val (.int (0 : Int32)), .val (.int (0 : Int32)), .val (.ref sa18), .val (.ref b19), .val (.ref b21), .unset] [(.ref b19), (.int (0 : Int32)), (.ref sa18)]))
        refine Go.via (fun _ => XS.aload X22.here hx rfl (hb hby at_73) rfl rfl) ?_
        show Go p e below _ (T22.setTop (mkF m 75 #[.val (.int p1), .val (.int cz), .val (.int (0 : Int32)), .val (.int (0 : Int32)), .val (.ref sa18), .val (.ref b19), .val (.ref b21), .unset] [(.ref b21), (.ref b19), (.int (0 : Int32)), (.ref sa18)]))
        obtain ⟨_, _, ⟨T23, L23, k23, n23⟩, -, X23, ⟨Lc23, hQ23, l23, y23, z23⟩, st23⟩ := Jvm.LawKit.callS X22 hx (y := (⟨"com/example/dogwood/dogwood/model/yaml/Lines", "end", "(Ljava/lang/String;ILcom/example/dogwood/dogwood/model/yaml/Occurrences;Lcom/example/dogwood/dogwood/model/yaml/Occurrences;)I"⟩ : MethodName)) hown (mvT hZ (hw _ (List.mem_of_getElem? (i := 47) rfl))) (mvT hZ (hw _ (List.mem_of_getElem? (i := 48) rfl))) (mvT hZ (hw _ (List.mem_of_getElem? (i := 3) rfl))) (mvT hZ (hw _ (List.mem_of_getElem? (i := 49) rfl))) (by decide) (backOf (W := 0) (rmE_u16 l Z a0 hw [] b19 b21 sa18 t18 kb18 cz ccs vF T22.heap n0 Zs22 fE_b19_22 fF_b19_from_22 fF_b19_found_22 fF_b19_text_22 fF_b19_c_22 g_b19 fE_b21_22 ff22 fd22 ft22 fcc22 g_b21 ne_b19_b21 ne_sa18_b19 ne_sa18_b21 ne_t18_b19 ne_t18_b21 fE_sa18_22 fF_sa18_value_22 fF_sa18_coder_22 fV_t18_22 (own_u16 cz r_c.1 r_c.2.1) hc1 hc9 O22 S_CS hcs S_AD S_HI S_LO S_SF rF) hZ (hw _ (List.mem_of_getElem? (i := 49) rfl)) (hw _ (List.mem_of_getElem? (i := 3) rfl)) (by decide) (by decide)) (g := (mkF m 75 #[.val (.int p1), .val (.int cz), .val (.int (0 : Int32)), .val (.int (0 : Int32)), .val (.ref sa18), .val (.ref b19), .val (.ref b21), .unset] [(.ref b21), (.ref b19), (.int (0 : Int32)), (.ref sa18)])) rfl (by rw [hml]; rfl) (argsL := [(.ref sa18), (.int (0 : Int32)), (.ref b19), (.ref b21)]) (rest := []) (lenOf pd_18 rfl) rfl (by show 2 * 0 + _ ≤ _; exact Nat.le_of_eq rfl) (hb hby at_75) (fun _ _ => ⟨rfl, rfl, (by decide : 4 + 0 ≤ _), (by decide : 14 + 0 ≤ _)⟩)
        dsimp only [Pt.U, Pt.locs, Pt.cells, Pt.slots] at X23 l23 y23 z23 st23 hQ23
        subst l23 y23 z23
        obtain ⟨rfl, N23q, K23q⟩ := hQ23
        have N23 := Fr.app N22 N23q
        refine Go.via st23 ?_
        have Zs23 : n0 ≤ T23.heap.size := Nat.le_trans Zs22 K23q.1
        have O23 : Old Z n0 T23.heap := O22.keep K23q (allS g_b19 (allS g_b21 all0))
        have fE_sa18_23 := fE_sa18_22.keep K23q
        have fF_sa18_value_23 := fF_sa18_value_22.keep K23q (ninS ne_sa18_b19 (ninS ne_sa18_b21 nin0))
        have fF_sa18_coder_23 := fF_sa18_coder_22.keep K23q (ninS ne_sa18_b19 (ninS ne_sa18_b21 nin0))
        have fV_t18_23 := fV_t18_22.keep K23q (ninS ne_t18_b19 (ninS ne_t18_b21 nin0))
        have fE_b19_23 := fE_b19_22.keep K23q
        have fE_b21_23 := fE_b21_22.keep K23q
        show Go p e below _ (T23.setTop (mkF m 78 #[.val (.int p1), .val (.int cz), .val (.int (0 : Int32)), .val (.int (0 : Int32)), .val (.ref sa18), .val (.ref b19), .val (.ref b21), .unset] [(.int (1 : Int32))]))
        refine Go.via (fun _ => XS.istore X23.here hx rfl (hb hby at_78) rfl (l' := #[.val (.int p1), .val (.int cz), .val (.int (0 : Int32)), .val (.int (0 : Int32)), .val (.ref sa18), .val (.ref b19), .val (.ref b21), .val (.int (1 : Int32))]) rfl) ?_
        show Go p e below _ (T23.setTop (mkF m 80 #[.val (.int p1), .val (.int cz), .val (.int (0 : Int32)), .val (.int (0 : Int32)), .val (.ref sa18), .val (.ref b19), .val (.ref b21), .val (.int (1 : Int32))] []))
        refine Go.via (fun _ => XS.iloadN X23.here hx rfl (hb hby at_80) rfl) ?_
        show Go p e below _ (T23.setTop (mkF m 81 #[.val (.int p1), .val (.int cz), .val (.int (0 : Int32)), .val (.int (0 : Int32)), .val (.ref sa18), .val (.ref b19), .val (.ref b21), .val (.int (1 : Int32))] [(.int (0 : Int32))]))
        refine Go.via (fun _ => XS.iload X23.here hx rfl (hb hby at_81) rfl) ?_
        show Go p e below _ (T23.setTop (mkF m 83 #[.val (.int p1), .val (.int cz), .val (.int (0 : Int32)), .val (.int (0 : Int32)), .val (.ref sa18), .val (.ref b19), .val (.ref b21), .val (.int (1 : Int32))] [(.int (1 : Int32)), (.int (0 : Int32))]))
        refine Go.via (fun _ => XS.ifYes X23.here hx rfl (pc0 := 83) (pc' := 90) rfl (hb hby at_83) rfl (by decide) (by decide) (by decide)) ?_
        show Go p e below _ (T23.setTop (mkF m 90 #[.val (.int p1), .val (.int cz), .val (.int (0 : Int32)), .val (.int (0 : Int32)), .val (.ref sa18), .val (.ref b19), .val (.ref b21), .val (.int (1 : Int32))] [(.int (0 : Int32))]))
        refine Go.via (fun _ => XS.iconst X23.here hx rfl (hb hby at_90)) ?_
        show Go p e below _ (T23.setTop (mkF m 91 #[.val (.int p1), .val (.int cz), .val (.int (0 : Int32)), .val (.int (0 : Int32)), .val (.ref sa18), .val (.ref b19), .val (.ref b21), .val (.int (1 : Int32))] [(.int (0 : Int32)), (.int (0 : Int32))]))
        refine Go.via (fun _ => XS.icmpNo X23.here hx rfl (hb hby at_91) rfl (by decide)) ?_
        show Go p e below _ (T23.setTop (mkF m 94 #[.val (.int p1), .val (.int cz), .val (.int (0 : Int32)), .val (.int (0 : Int32)), .val (.ref sa18), .val (.ref b19), .val (.ref b21), .val (.int (1 : Int32))] []))
        refine Go.via (fun _ => XS.iconst X23.here hx rfl (hb hby at_94)) ?_
        show Go p e below _ (T23.setTop (mkF m 95 #[.val (.int p1), .val (.int cz), .val (.int (0 : Int32)), .val (.int (0 : Int32)), .val (.ref sa18), .val (.ref b19), .val (.ref b21), .val (.int (1 : Int32))] [(.int (1 : Int32))]))
        refine Go.via (fun _ => XS.goto X23.here hx rfl (pc0 := 95) (pc' := 99) rfl (hb hby at_95) (by decide) (by decide)) ?_
        show Go p e below _ (T23.setTop (mkF m 99 #[.val (.int p1), .val (.int cz), .val (.int (0 : Int32)), .val (.int (0 : Int32)), .val (.ref sa18), .val (.ref b19), .val (.ref b21), .val (.int (1 : Int32))] [(.int (1 : Int32))]))
        exact own_retN X23 hx hlk (t := .boolean) Bd.returns (by simp) (hb hby at_99) (by show Q0 Z p1 ccs vF h0 n0 _ T23.heap _; exact ⟨rfl, N23⟩) (by decide) (by decide)
      ·
        show Go p e below _ (T17.setTop (mkF m 37 #[.val (.int p1), .val (.int cz), .val (.int (0 : Int32)), .val (.int (0 : Int32)), .unset, .unset, .unset, .unset] [(.int cz)]))
        obtain ⟨_, _, ⟨T24, L24, k24, n24⟩, -, X24, ⟨Lc24, hQ24, l24, y24, z24⟩, st24⟩ := Jvm.LawKit.callS X17 hx (y := (⟨"java/lang/String", "valueOf", "(C)Ljava/lang/String;"⟩ : MethodName)) hown (mvT hZ (hw _ (List.mem_of_getElem? (i := 5) rfl))) (mvT hZ (hw _ (List.mem_of_getElem? (i := 6) rfl))) (mvT hZ (hw _ (List.mem_of_getElem? (i := 7) rfl))) (mvT hZ (hw _ (List.mem_of_getElem? (i := 8) rfl))) (by decide) (backOf (W := 0) (rmVO_1 l Z a0 hw [] cz ccs vF h0 n0 Z0 O0 S_CS hcs S_AD S_HI S_LO S_SF rF hz) hZ (hw _ (List.mem_of_getElem? (i := 8) rfl)) (hw _ (List.mem_of_getElem? (i := 7) rfl)) (by decide) (by decide)) (g := (mkF m 37 #[.val (.int p1), .val (.int cz), .val (.int (0 : Int32)), .val (.int (0 : Int32)), .unset, .unset, .unset, .unset] [(.int cz)])) rfl (by rw [hml]; rfl) (argsL := [(.int cz)]) (rest := []) (lenOf pd_16 rfl) rfl (by show 2 * 0 + _ ≤ _; exact Nat.le_of_eq rfl) (hb hby at_37) (fun _ _ => ⟨rfl, e17q, (by decide : 0 + 2 ≤ _), (by decide : 0 + 5 ≤ _)⟩)
        dsimp only [Pt.U, Pt.locs, Pt.cells, Pt.slots] at X24 l24 y24 z24 st24 hQ24
        subst l24 y24 z24
        obtain ⟨sa24, t24, kb24, rfl, N24q, K24q, ga24, gt24, nat24, es24, fv24, fc24, va24⟩ := hQ24
        have N24 := Fr.app N17 N24q
        refine Go.via st24 ?_
        have Zs24 : n0 ≤ T24.heap.size := Nat.le_trans Z0 K24q.1
        have O24 : Old Z n0 T24.heap := O0.keep K24q all0
        have g_sa24 : n0 ≤ sa24 := Nat.le_trans Z0 ga24
        have g_t24 : n0 ≤ t24 := Nat.le_trans Z0 gt24
        show Go p e below _ (T24.setTop (mkF m 40 #[.val (.int p1), .val (.int cz), .val (.int (0 : Int32)), .val (.int (0 : Int32)), .unset, .unset, .unset, .unset] [(.ref sa24)]))
        refine Go.via (fun _ => XS.astore X24.here hx rfl (hb hby at_40) rfl rfl (l' := #[.val (.int p1), .val (.int cz), .val (.int (0 : Int32)), .val (.int (0 : Int32)), .val (.ref sa24), .unset, .unset, .unset]) rfl) ?_
        show Go p e below _ (T24.setTop (mkF m 42 #[.val (.int p1), .val (.int cz), .val (.int (0 : Int32)), .val (.int (0 : Int32)), .val (.ref sa24), .unset, .unset, .unset] []))
        obtain ⟨T25, h25, X25, e25, E25, A25, D25, -, st25⟩ := newO X24 hx hZ hown (hw _ (List.mem_of_getElem? (i := 31) rfl)) (hw _ (List.mem_of_getElem? (i := 32) rfl)) (hw _ (List.mem_of_getElem? (i := 33) rfl)) rfl (g := (mkF m 42 #[.val (.int p1), .val (.int cz), .val (.int (0 : Int32)), .val (.int (0 : Int32)), .val (.ref sa24), .unset, .unset, .unset] [])) rfl (hb hby at_42) (by decide) (by decide)
        obtain ⟨b25, g25⟩ : ∃ z, z = T24.heap.size := ⟨_, rfl⟩
        rw [← g25] at A25 D25 st25
        have g_b25 : n0 ≤ b25 := Nat.le_trans Zs24 (Nat.le_of_eq g25.symm)
        have ne_sa24_b25 : sa24 ≠ b25 := Nat.ne_of_lt (Nat.lt_of_lt_of_le es24.lt (Nat.le_of_eq g25.symm))
        have ne_t24_b25 : t24 ≠ b25 := Nat.ne_of_lt (Nat.lt_of_lt_of_le va24.lt (Nat.le_of_eq g25.symm))
        refine Go.via st25 ?_
        have Zs25 : n0 ≤ h25.size := Nat.le_trans Zs24 E25.1
        have O25 : Old Z n0 h25 := O24.ext E25
        have fE_sa24_25 := es24.ext E25
        have fF_sa24_value_25 := fv24.ext E25
        have fF_sa24_coder_25 := fc24.ext E25
        have fV_t24_25 := va24.ext E25
        have F_from_b25 : Fld Z h25 b25 "com/example/dogwood/dogwood/model/yaml/Occurrences" "from" "I" (.int (0 : Int32)) := D25 (Or.inl (hw _ (List.mem_of_getElem? (i := 40) rfl))) (ty := .int) (by decide)
        have F_found_b25 : Fld Z h25 b25 "com/example/dogwood/dogwood/model/yaml/Occurrences" "found" "I" (.int (0 : Int32)) := D25 (Or.inl (hw _ (List.mem_of_getElem? (i := 42) rfl))) (ty := .int) (by decide)
        have F_text_b25 : Fld Z h25 b25 "com/example/dogwood/dogwood/model/yaml/Occurrences" "text" "Ljava/lang/String;" .null := D25 (Or.inr (hw _ (List.mem_of_getElem? (i := 44) rfl))) (ty := (.object "java/lang/String")) (by decide)
        have F_c_b25 : Fld Z h25 b25 "com/example/dogwood/dogwood/model/yaml/Occurrences" "c" "C" (.int (0 : Int32)) := D25 (Or.inr (hw _ (List.mem_of_getElem? (i := 46) rfl))) (ty := .char) (by decide)
        show Go p e below _ (T25.setTop (mkF m 45 #[.val (.int p1), .val (.int cz), .val (.int (0 : Int32)), .val (.int (0 : Int32)), .val (.ref sa24), .unset, .unset, .unset] [(.ref b25)]))
        refine Go.via (fun _ => XS.dup X25.here hx rfl (hb hby at_45) rfl rfl) ?_
        show Go p e below _ (T25.setTop (mkF m 46 #[.val (.int p1), .val (.int cz), .val (.int (0 : Int32)), .val (.int (0 : Int32)), .val (.ref sa24), .unset, .unset, .unset] [(.ref b25), (.ref b25)]))
        refine Go.via (fun _ => XS.aload X25.here hx rfl (hb hby at_46) rfl rfl) ?_
        show Go p e below _ (T25.setTop (mkF m 48 #[.val (.int p1), .val (.int cz), .val (.int (0 : Int32)), .val (.int (0 : Int32)), .val (.ref sa24), .unset, .unset, .unset] [(.ref sa24), (.ref b25), (.ref b25)]))
        refine Go.via (fun _ => XS.bipush X25.here hx rfl (hb hby at_48)) ?_
        show Go p e below _ (T25.setTop (mkF m 50 #[.val (.int p1), .val (.int cz), .val (.int (0 : Int32)), .val (.int (0 : Int32)), .val (.ref sa24), .unset, .unset, .unset] [(.int (10 : Int32)), (.ref sa24), (.ref b25), (.ref b25)]))
        obtain ⟨_, _, ⟨T26, L26, k26, n26⟩, -, X26, ⟨Lc26, hQ26, l26, y26, z26⟩, st26⟩ := X25.specialBack hx (y := (⟨"com/example/dogwood/dogwood/model/yaml/Occurrences", "<init>", "(Ljava/lang/String;C)V"⟩ : MethodName)) rfl hown (mvT hZ (hw _ (List.mem_of_getElem? (i := 34) rfl))) (mvT hZ (hw _ (List.mem_of_getElem? (i := 35) rfl))) (mvT hZ (hw _ (List.mem_of_getElem? (i := 36) rfl))) (by decide) (backOf (W := 1) (rmOI_10 l Z a0 hw [] b25 sa24 h25 n0 Zs25 A25 F_from_b25 F_found_b25 F_text_b25 F_c_b25 g_b25) hZ (hw _ (List.mem_of_getElem? (i := 36) rfl)) (hw _ (List.mem_of_getElem? (i := 33) rfl)) (by decide) (by decide)) (g := (mkF m 50 #[.val (.int p1), .val (.int cz), .val (.int (0 : Int32)), .val (.int (0 : Int32)), .val (.ref sa24), .unset, .unset, .unset] [(.int (10 : Int32)), (.ref sa24), (.ref b25), (.ref b25)])) rfl (by rw [hml]; rfl) (Steps.refl _) (a := b25) (argsL := [(.ref sa24), (.int (10 : Int32))]) (rest := [(.ref b25)]) (lenOf pd_17 rfl) rfl (by show 2 * 0 + _ ≤ _; exact Nat.le_of_eq rfl) (hb hby at_50) (fun _ _ => ⟨rfl, e25, (by decide : 3 + 0 ≤ _), (by decide : 9 + 0 ≤ _)⟩)
        dsimp only [Pt.U, Pt.locs, Pt.cells, Pt.slots] at X26 l26 y26 z26 st26 hQ26
        subst l26 y26 z26
        obtain ⟨rfl, N26q, K26q, ff26, fd26, ft26, fcc26⟩ := hQ26
        have N26 := Fr.app N24 N26q
        refine Go.tr st26 ?_
        have Zs26 : n0 ≤ T26.heap.size := Nat.le_trans Zs25 K26q.1
        have O26 : Old Z n0 T26.heap := O25.keep K26q (allS g_b25 all0)
        have fE_sa24_26 := fE_sa24_25.keep K26q
        have fF_sa24_value_26 := fF_sa24_value_25.keep K26q (ninS ne_sa24_b25 nin0)
        have fF_sa24_coder_26 := fF_sa24_coder_25.keep K26q (ninS ne_sa24_b25 nin0)
        have fV_t24_26 := fV_t24_25.keep K26q (ninS ne_t24_b25 nin0)
        have fE_b25_26 := A25.keep K26q
        show Go p e below _ (T26.setTop (mkF m 53 #[.val (.int p1), .val (.int cz), .val (.int (0 : Int32)), .val (.int (0 : Int32)), .val (.ref sa24), .unset, .unset, .unset] [(.ref b25)]))
        refine Go.via (fun _ => XS.astore X26.here hx rfl (hb hby at_53) rfl rfl (l' := #[.val (.int p1), .val (.int cz), .val (.int (0 : Int32)), .val (.int (0 : Int32)), .val (.ref sa24), .val (.ref b25), .unset, .unset]) rfl) ?_
        show Go p e below _ (T26.setTop (mkF m 55 #[.val (.int p1), .val (.int cz), .val (.int (0 : Int32)), .val (.int (0 : Int32)), .val (.ref sa24), .val (.ref b25), .unset, .unset] []))
        obtain ⟨T27, h27, X27, e27, E27, A27, D27, -, st27⟩ := newO X26 hx hZ hown (hw _ (List.mem_of_getElem? (i := 31) rfl)) (hw _ (List.mem_of_getElem? (i := 32) rfl)) (hw _ (List.mem_of_getElem? (i := 33) rfl)) rfl (g := (mkF m 55 #[.val (.int p1), .val (.int cz), .val (.int (0 : Int32)), .val (.int (0 : Int32)), .val (.ref sa24), .val (.ref b25), .unset, .unset] [])) rfl (hb hby at_55) (by decide) (by decide)
        obtain ⟨b27, g27⟩ : ∃ z, z = T26.heap.size := ⟨_, rfl⟩
        rw [← g27] at A27 D27 st27
        have g_b27 : n0 ≤ b27 := Nat.le_trans Zs26 (Nat.le_of_eq g27.symm)
        have ne_sa24_b27 : sa24 ≠ b27 := Nat.ne_of_lt (Nat.lt_of_lt_of_le fE_sa24_26.lt (Nat.le_of_eq g27.symm))
        have ne_t24_b27 : t24 ≠ b27 := Nat.ne_of_lt (Nat.lt_of_lt_of_le fV_t24_26.lt (Nat.le_of_eq g27.symm))
        have ne_b25_b27 : b25 ≠ b27 := Nat.ne_of_lt (Nat.lt_of_lt_of_le fE_b25_26.lt (Nat.le_of_eq g27.symm))
        refine Go.via st27 ?_
        have Zs27 : n0 ≤ h27.size := Nat.le_trans Zs26 E27.1
        have O27 : Old Z n0 h27 := O26.ext E27
        have fE_sa24_27 := fE_sa24_26.ext E27
        have fF_sa24_value_27 := fF_sa24_value_26.ext E27
        have fF_sa24_coder_27 := fF_sa24_coder_26.ext E27
        have fV_t24_27 := fV_t24_26.ext E27
        have fE_b25_27 := fE_b25_26.ext E27
        have fF_b25_from_27 := ff26.ext E27
        have fF_b25_found_27 := fd26.ext E27
        have fF_b25_text_27 := ft26.ext E27
        have fF_b25_c_27 := fcc26.ext E27
        have F_from_b27 : Fld Z h27 b27 "com/example/dogwood/dogwood/model/yaml/Occurrences" "from" "I" (.int (0 : Int32)) := D27 (Or.inl (hw _ (List.mem_of_getElem? (i := 40) rfl))) (ty := .int) (by decide)
        have F_found_b27 : Fld Z h27 b27 "com/example/dogwood/dogwood/model/yaml/Occurrences" "found" "I" (.int (0 : Int32)) := D27 (Or.inl (hw _ (List.mem_of_getElem? (i := 42) rfl))) (ty := .int) (by decide)
        have F_text_b27 : Fld Z h27 b27 "com/example/dogwood/dogwood/model/yaml/Occurrences" "text" "Ljava/lang/String;" .null := D27 (Or.inr (hw _ (List.mem_of_getElem? (i := 44) rfl))) (ty := (.object "java/lang/String")) (by decide)
        have F_c_b27 : Fld Z h27 b27 "com/example/dogwood/dogwood/model/yaml/Occurrences" "c" "C" (.int (0 : Int32)) := D27 (Or.inr (hw _ (List.mem_of_getElem? (i := 46) rfl))) (ty := .char) (by decide)
        show Go p e below _ (T27.setTop (mkF m 58 #[.val (.int p1), .val (.int cz), .val (.int (0 : Int32)), .val (.int (0 : Int32)), .val (.ref sa24), .val (.ref b25), .unset, .unset] [(.ref b27)]))
        refine Go.via (fun _ => XS.dup X27.here hx rfl (hb hby at_58) rfl rfl) ?_
        show Go p e below _ (T27.setTop (mkF m 59 #[.val (.int p1), .val (.int cz), .val (.int (0 : Int32)), .val (.int (0 : Int32)), .val (.ref sa24), .val (.ref b25), .unset, .unset] [(.ref b27), (.ref b27)]))
        refine Go.via (fun _ => XS.aload X27.here hx rfl (hb hby at_59) rfl rfl) ?_
        show Go p e below _ (T27.setTop (mkF m 61 #[.val (.int p1), .val (.int cz), .val (.int (0 : Int32)), .val (.int (0 : Int32)), .val (.ref sa24), .val (.ref b25), .unset, .unset] [(.ref sa24), (.ref b27), (.ref b27)]))
        refine Go.via (fun _ => XS.bipush X27.here hx rfl (hb hby at_61)) ?_
        show Go p e below _ (T27.setTop (mkF m 63 #[.val (.int p1), .val (.int cz), .val (.int (0 : Int32)), .val (.int (0 : Int32)), .val (.ref sa24), .val (.ref b25), .unset, .unset] [(.int (13 : Int32)), (.ref sa24), (.ref b27), (.ref b27)]))
        obtain ⟨_, _, ⟨T28, L28, k28, n28⟩, -, X28, ⟨Lc28, hQ28, l28, y28, z28⟩, st28⟩ := X27.specialBack hx (y := (⟨"com/example/dogwood/dogwood/model/yaml/Occurrences", "<init>", "(Ljava/lang/String;C)V"⟩ : MethodName)) rfl hown (mvT hZ (hw _ (List.mem_of_getElem? (i := 34) rfl))) (mvT hZ (hw _ (List.mem_of_getElem? (i := 35) rfl))) (mvT hZ (hw _ (List.mem_of_getElem? (i := 36) rfl))) (by decide) (backOf (W := 1) (rmOI_13 l Z a0 hw [] b27 sa24 h27 n0 Zs27 A27 F_from_b27 F_found_b27 F_text_b27 F_c_b27 g_b27) hZ (hw _ (List.mem_of_getElem? (i := 36) rfl)) (hw _ (List.mem_of_getElem? (i := 33) rfl)) (by decide) (by decide)) (g := (mkF m 63 #[.val (.int p1), .val (.int cz), .val (.int (0 : Int32)), .val (.int (0 : Int32)), .val (.ref sa24), .val (.ref b25), .unset, .unset] [(.int (13 : Int32)), (.ref sa24), (.ref b27), (.ref b27)])) rfl (by rw [hml]; rfl) (Steps.refl _) (a := b27) (argsL := [(.ref sa24), (.int (13 : Int32))]) (rest := [(.ref b27)]) (lenOf pd_17 rfl) rfl (by show 2 * 0 + _ ≤ _; exact Nat.le_of_eq rfl) (hb hby at_63) (fun _ _ => ⟨rfl, e27, (by decide : 4 + 0 ≤ _), (by decide : 13 + 0 ≤ _)⟩)
        dsimp only [Pt.U, Pt.locs, Pt.cells, Pt.slots] at X28 l28 y28 z28 st28 hQ28
        subst l28 y28 z28
        obtain ⟨rfl, N28q, K28q, ff28, fd28, ft28, fcc28⟩ := hQ28
        have N28 := Fr.app N26 N28q
        refine Go.tr st28 ?_
        have Zs28 : n0 ≤ T28.heap.size := Nat.le_trans Zs27 K28q.1
        have O28 : Old Z n0 T28.heap := O27.keep K28q (allS g_b27 all0)
        have fE_sa24_28 := fE_sa24_27.keep K28q
        have fF_sa24_value_28 := fF_sa24_value_27.keep K28q (ninS ne_sa24_b27 nin0)
        have fF_sa24_coder_28 := fF_sa24_coder_27.keep K28q (ninS ne_sa24_b27 nin0)
        have fV_t24_28 := fV_t24_27.keep K28q (ninS ne_t24_b27 nin0)
        have fE_b25_28 := fE_b25_27.keep K28q
        have fF_b25_from_28 := fF_b25_from_27.keep K28q (ninS ne_b25_b27 nin0)
        have fF_b25_found_28 := fF_b25_found_27.keep K28q (ninS ne_b25_b27 nin0)
        have fF_b25_text_28 := fF_b25_text_27.keep K28q (ninS ne_b25_b27 nin0)
        have fF_b25_c_28 := fF_b25_c_27.keep K28q (ninS ne_b25_b27 nin0)
        have fE_b27_28 := A27.keep K28q
        show Go p e below _ (T28.setTop (mkF m 66 #[.val (.int p1), .val (.int cz), .val (.int (0 : Int32)), .val (.int (0 : Int32)), .val (.ref sa24), .val (.ref b25), .unset, .unset] [(.ref b27)]))
        refine Go.via (fun _ => XS.astore X28.here hx rfl (hb hby at_66) rfl rfl (l' := #[.val (.int p1), .val (.int cz), .val (.int (0 : Int32)), .val (.int (0 : Int32)), .val (.ref sa24), .val (.ref b25), .val (.ref b27), .unset]) rfl) ?_
        show Go p e below _ (T28.setTop (mkF m 68 #[.val (.int p1), .val (.int cz), .val (.int (0 : Int32)), .val (.int (0 : Int32)), .val (.ref sa24), .val (.ref b25), .val (.ref b27), .unset] []))
        refine Go.via (fun _ => XS.aload X28.here hx rfl (hb hby at_68) rfl rfl) ?_
        show Go p e below _ (T28.setTop (mkF m 70 #[.val (.int p1), .val (.int cz), .val (.int (0 : Int32)), .val (.int (0 : Int32)), .val (.ref sa24), .val (.ref b25), .val (.ref b27), .unset] [(.ref sa24)]))
        refine Go.via (fun _ => XS.iconst X28.here hx rfl (hb hby at_70)) ?_
        show Go p e below _ (T28.setTop (mkF m 71 #[.val (.int p1), .val (.int cz), .val (.int (0 : Int32)), .val (.int (0 : Int32)), .val (.ref sa24), .val (.ref b25), .val (.ref b27), .unset] [(.int (0 : Int32)), (.ref sa24)]))
        refine Go.via (fun _ => XS.aload X28.here hx rfl (hb hby at_71) rfl rfl) ?_
        show Go p e below _ (T28.setTop (mkF m 73 #[.val (.int p1), .val (.int cz), .val (.int (0 : Int32)), .val (.int (0 : Int32)), .val (.ref sa24), .val (.ref b25), .val (.ref b27), .unset] [(.ref b25), (.int (0 : Int32)), (.ref sa24)]))
        refine Go.via (fun _ => XS.aload X28.here hx rfl (hb hby at_73) rfl rfl) ?_
        show Go p e below _ (T28.setTop (mkF m 75 #[.val (.int p1), .val (.int cz), .val (.int (0 : Int32)), .val (.int (0 : Int32)), .val (.ref sa24), .val (.ref b25), .val (.ref b27), .unset] [(.ref b27), (.ref b25), (.int (0 : Int32)), (.ref sa24)]))
        obtain ⟨_, _, ⟨T29, L29, k29, n29⟩, -, X29, ⟨Lc29, hQ29, l29, y29, z29⟩, st29⟩ := Jvm.LawKit.callS X28 hx (y := (⟨"com/example/dogwood/dogwood/model/yaml/Lines", "end", "(Ljava/lang/String;ILcom/example/dogwood/dogwood/model/yaml/Occurrences;Lcom/example/dogwood/dogwood/model/yaml/Occurrences;)I"⟩ : MethodName)) hown (mvT hZ (hw _ (List.mem_of_getElem? (i := 47) rfl))) (mvT hZ (hw _ (List.mem_of_getElem? (i := 48) rfl))) (mvT hZ (hw _ (List.mem_of_getElem? (i := 3) rfl))) (mvT hZ (hw _ (List.mem_of_getElem? (i := 49) rfl))) (by decide) (backOf (W := 0) (rmE_lat l Z a0 hw [] b25 b27 sa24 t24 kb24 cz ccs vF T28.heap n0 Zs28 fE_b25_28 fF_b25_from_28 fF_b25_found_28 fF_b25_text_28 fF_b25_c_28 g_b25 fE_b27_28 ff28 fd28 ft28 fcc28 g_b27 ne_b25_b27 ne_sa24_b25 ne_sa24_b27 ne_t24_b25 ne_t24_b27 fE_sa24_28 fF_sa24_value_28 fF_sa24_coder_28 fV_t24_28 (own_byte r_c.1 hz (by decide) (by decide)) (own_byte r_c.1 hz (by decide) (by decide)) (by simp [ix1, hc1]) (by simp [ix1, hc9]) O28 S_CS hcs S_AD S_HI S_LO S_SF rF) hZ (hw _ (List.mem_of_getElem? (i := 49) rfl)) (hw _ (List.mem_of_getElem? (i := 3) rfl)) (by decide) (by decide)) (g := (mkF m 75 #[.val (.int p1), .val (.int cz), .val (.int (0 : Int32)), .val (.int (0 : Int32)), .val (.ref sa24), .val (.ref b25), .val (.ref b27), .unset] [(.ref b27), (.ref b25), (.int (0 : Int32)), (.ref sa24)])) rfl (by rw [hml]; rfl) (argsL := [(.ref sa24), (.int (0 : Int32)), (.ref b25), (.ref b27)]) (rest := []) (lenOf pd_18 rfl) rfl (by show 2 * 0 + _ ≤ _; exact Nat.le_of_eq rfl) (hb hby at_75) (fun _ _ => ⟨rfl, rfl, (by decide : 4 + 0 ≤ _), (by decide : 13 + 0 ≤ _)⟩)
        dsimp only [Pt.U, Pt.locs, Pt.cells, Pt.slots] at X29 l29 y29 z29 st29 hQ29
        subst l29 y29 z29
        obtain ⟨rfl, N29q, K29q⟩ := hQ29
        have N29 := Fr.app N28 N29q
        refine Go.via st29 ?_
        have Zs29 : n0 ≤ T29.heap.size := Nat.le_trans Zs28 K29q.1
        have O29 : Old Z n0 T29.heap := O28.keep K29q (allS g_b25 (allS g_b27 all0))
        have fE_sa24_29 := fE_sa24_28.keep K29q
        have fF_sa24_value_29 := fF_sa24_value_28.keep K29q (ninS ne_sa24_b25 (ninS ne_sa24_b27 nin0))
        have fF_sa24_coder_29 := fF_sa24_coder_28.keep K29q (ninS ne_sa24_b25 (ninS ne_sa24_b27 nin0))
        have fV_t24_29 := fV_t24_28.keep K29q (ninS ne_t24_b25 (ninS ne_t24_b27 nin0))
        have fE_b25_29 := fE_b25_28.keep K29q
        have fE_b27_29 := fE_b27_28.keep K29q
        show Go p e below _ (T29.setTop (mkF m 78 #[.val (.int p1), .val (.int cz), .val (.int (0 : Int32)), .val (.int (0 : Int32)), .val (.ref sa24), .val (.ref b25), .val (.ref b27), .unset] [(.int (1 : Int32))]))
        refine Go.via (fun _ => XS.istore X29.here hx rfl (hb hby at_78) rfl (l' := #[.val (.int p1), .val (.int cz), .val (.int (0 : Int32)), .val (.int (0 : Int32)), .val (.ref sa24), .val (.ref b25), .val (.ref b27), .val (.int (1 : Int32))]) rfl) ?_
        show Go p e below _ (T29.setTop (mkF m 80 #[.val (.int p1), .val (.int cz), .val (.int (0 : Int32)), .val (.int (0 : Int32)), .val (.ref sa24), .val (.ref b25), .val (.ref b27), .val (.int (1 : Int32))] []))
        refine Go.via (fun _ => XS.iloadN X29.here hx rfl (hb hby at_80) rfl) ?_
        show Go p e below _ (T29.setTop (mkF m 81 #[.val (.int p1), .val (.int cz), .val (.int (0 : Int32)), .val (.int (0 : Int32)), .val (.ref sa24), .val (.ref b25), .val (.ref b27), .val (.int (1 : Int32))] [(.int (0 : Int32))]))
        refine Go.via (fun _ => XS.iload X29.here hx rfl (hb hby at_81) rfl) ?_
        show Go p e below _ (T29.setTop (mkF m 83 #[.val (.int p1), .val (.int cz), .val (.int (0 : Int32)), .val (.int (0 : Int32)), .val (.ref sa24), .val (.ref b25), .val (.ref b27), .val (.int (1 : Int32))] [(.int (1 : Int32)), (.int (0 : Int32))]))
        refine Go.via (fun _ => XS.ifYes X29.here hx rfl (pc0 := 83) (pc' := 90) rfl (hb hby at_83) rfl (by decide) (by decide) (by decide)) ?_
        show Go p e below _ (T29.setTop (mkF m 90 #[.val (.int p1), .val (.int cz), .val (.int (0 : Int32)), .val (.int (0 : Int32)), .val (.ref sa24), .val (.ref b25), .val (.ref b27), .val (.int (1 : Int32))] [(.int (0 : Int32))]))
        refine Go.via (fun _ => XS.iconst X29.here hx rfl (hb hby at_90)) ?_
        show Go p e below _ (T29.setTop (mkF m 91 #[.val (.int p1), .val (.int cz), .val (.int (0 : Int32)), .val (.int (0 : Int32)), .val (.ref sa24), .val (.ref b25), .val (.ref b27), .val (.int (1 : Int32))] [(.int (0 : Int32)), (.int (0 : Int32))]))
        refine Go.via (fun _ => XS.icmpNo X29.here hx rfl (hb hby at_91) rfl (by decide)) ?_
        show Go p e below _ (T29.setTop (mkF m 94 #[.val (.int p1), .val (.int cz), .val (.int (0 : Int32)), .val (.int (0 : Int32)), .val (.ref sa24), .val (.ref b25), .val (.ref b27), .val (.int (1 : Int32))] []))
        refine Go.via (fun _ => XS.iconst X29.here hx rfl (hb hby at_94)) ?_
        show Go p e below _ (T29.setTop (mkF m 95 #[.val (.int p1), .val (.int cz), .val (.int (0 : Int32)), .val (.int (0 : Int32)), .val (.ref sa24), .val (.ref b25), .val (.ref b27), .val (.int (1 : Int32))] [(.int (1 : Int32))]))
        refine Go.via (fun _ => XS.goto X29.here hx rfl (pc0 := 95) (pc' := 99) rfl (hb hby at_95) (by decide) (by decide)) ?_
        show Go p e below _ (T29.setTop (mkF m 99 #[.val (.int p1), .val (.int cz), .val (.int (0 : Int32)), .val (.int (0 : Int32)), .val (.ref sa24), .val (.ref b25), .val (.ref b27), .val (.int (1 : Int32))] [(.int (1 : Int32))]))
        exact own_retN X29 hx hlk (t := .boolean) Bd.returns (by simp) (hb hby at_99) (by show Q0 Z p1 ccs vF h0 n0 _ T29.heap _; exact ⟨rfl, N29⟩) (by decide) (by decide)
theorem own_eq_int {t : Term} {n : Int32} {args : Array Value} {s : State} (h : (Cond.eq t (.int n)).value args s none s [] = some true) : t.eval args s none [] s = some (.int n) := by
  simp only [Cond.value, Term.eval] at h
  split at h <;> simp_all
set_option maxRecDepth 65536 in
set_option maxHeartbeats 40000000 in
theorem comes_1 {Post : Tables → Env → Array Value → State → Outcome → State → Prop} (hpost : ∀ tb e args s v u, (limb_1_1.after args s (.returned v) u = true ∧ limb_1_2.after args s (.returned v) u = true ∧ True) → FrameEnd s (.returned v) u (Jvm.fieldLocs frame_1_writes args s ++ Jvm.arrayLocs frame_1_arrays args s ++ Jvm.staticLocs frame_1_statics s) 16 128 → Post tb e args s (.returned v) u) :
    ArmFor flags0 classFile x code maxLocals ret World_1 tables_1 room_1 Calls_1 rest_1 Pre_1 Post := by
  intro l hfl _ _ p e ha hc hk s m args below hf hA hF happ hP
  obtain ⟨hcalls, hrest, hpre⟩ := hP
  obtain ⟨-, -, -, hnamed, -, -, -, hat⟩ := (Spec.applies_iff hf).mp happ
  obtain ⟨hg, hn⟩ := and_e (Cond.before_iff.mp (show (Jvm.Cond.and given_1 narrow_1).before args s = true from hpre))
  obtain ⟨g1, g2⟩ := and_e hg
  obtain ⟨w0, rfl⟩ : ∃ w0 : Value, args = #[w0] := by
    have hs : args.size = 1 := by simpa [Cond.value, given_1] using g1
    obtain ⟨L⟩ := args
    match L, hs with
    | [w0], _ => exact ⟨w0, rfl⟩
  have hw := fun d (hd : d ∈ tables_1) => atoms_spec (ws := Jvm.Cond.code x code maxLocals ret :: tables_1) hat d (List.mem_cons_of_mem _ hd)
  obtain ⟨hsets, hown0⟩ := atoms_of _ (rest_1_c_eq ▸ (show rest_1_c.before _ s = true from hrest))
  have hr0 := Cond.before_iff.mp hown0
  have hfit : Fit s := fun {y c} hc i hi => by
    obtain ⟨ha, rfl⟩ := Array.getElem?_eq_some_iff.mp hc
    have q := List.all_eq_true.mp ((Array.all_eq_true_iff_forall_mem.mp hF) _ (Array.getElem_mem ha)) i (List.mem_range.mpr hi)
    simpa [Array.getElem?_eq_getElem hi] using q
  obtain ⟨i0, ei0⟩ := is_v g2
  obtain rfl : w0 = (.int i0) := Option.some.inj ei0
  obtain ⟨ccs, ecs⟩ := is_v (Cond.before_iff.mp (hsets _ (List.mem_of_getElem? (i := 1) rfl)))
  have S_CS : Sta s s.heap "java/lang/String" "COMPACT_STRINGS" "Z" (.int ccs) := Sta.start ecs (Or.inl (hsets _ (List.mem_of_getElem? (i := 0) rfl)))
  have ncs := not_v (Cond.before_iff.mp (hsets _ (List.mem_of_getElem? (i := 2) rfl)))
  have hcs : ¬ (ccs = (0 : Int32)) := gotF (Cond.eq_ints ecs (Term.int_eval (0))) ncs
  have S_AD := Sta.start (own_eq_int (Cond.before_iff.mp (hsets _ (List.mem_of_getElem? (i := 12) rfl)))) (Or.inl (hsets _ (List.mem_of_getElem? (i := 11) rfl)))
  have S_HI := Sta.start (own_eq_int (Cond.before_iff.mp (hsets _ (List.mem_of_getElem? (i := 15) rfl)))) (Or.inl (hsets _ (List.mem_of_getElem? (i := 14) rfl)))
  have S_LO := Sta.start (own_eq_int (Cond.before_iff.mp (hsets _ (List.mem_of_getElem? (i := 18) rfl)))) (Or.inl (hsets _ (List.mem_of_getElem? (i := 17) rfl)))
  obtain ⟨vF, eF, rF⟩ := isR_v (Cond.before_iff.mp (hsets _ (List.mem_of_getElem? (i := 8) rfl)))
  have S_SF := Sta.start eF (Or.inl (hsets _ (List.mem_of_getElem? (i := 7) rfl)))
  obtain ⟨n, o, h1, h2, h3, _, L, rfl, ⟨rfl, N⟩, hq⟩ := rm0 l s _ hw tables_1 i0 ccs vF s.heap s.heap.size (Nat.le_refl _) (Old.start s) S_CS hcs S_AD S_HI S_LO S_SF rF p e ha hc hk s m _ below hf ((Spec.applies_iff_loose hf).mp happ).1 ⟨rfl, State.Warmed39.refl s, rfl⟩ trivial
  refine ⟨n, _, h1, h2, h3, hpost _ _ _ _ _ _ ⟨Cond.after_iff.mpr rfl, Cond.after_iff.mpr (eq_i res_at (Term.int_eval (1)) rfl), trivial⟩ ⟨hq.1, hq.2.1, (hq.2.2.sift fun y hy => Or.inr (N y hy)).mono (by decide) (by decide)⟩⟩
theorem main_1_1 : Claimed_1_1 := comes_1 fun _ _ _ _ _ _ h hF => ⟨h.1, hF⟩
theorem main_1_2 : Claimed_1_2 := comes_1 fun _ _ _ _ _ _ h hF => ⟨h.2.1, hF⟩
end Jvm.Pilot.@@N@@
namespace Jvm.Pilot.@@N@@
open Jvm Jvm.ClassFile Sem Op Lib Jvm.Free Jvm.Stand Jvm.Pilot.@@N@@.Jvm.D
/-! MADE BY PROGRAM (witnessworld.py) out of the Statement's table words and the real class files: 20 classes; the members and pool entries that the words name. The judged class is class 1, her method 1. -/
namespace start1
open Jvm.ClassFile
def u (s : String) : CpInfo := .utf8 (stringToUtf16 s)
/-- a pool by its gaps: so many unusable entries, then the entry; so many at the end -/
def gap : Nat → List CpInfo → List CpInfo
  | 0, r => r
  | n + 1, r => .unusable :: gap n r
def poolList (es : List (Nat × CpInfo)) (last : Nat) : List CpInfo := es.foldr (fun e r => gap e.1 (e.2 :: r)) (gap last [])
def pool (es : List (Nat × CpInfo)) (last : Nat) : Array CpInfo := ⟨poolList es last⟩
def fileOf (pool : Array CpInfo) (this : Nat) (attrs : Array Attribute := #[]) (ms : Array MethodInfo := #[]) (fl : Nat := 33) (sup : Nat := 0) (ifs : Array Nat := #[]) (fds : Array FieldInfo := #[]) : ClassFile where
  minorVersion := 0
  majorVersion := 65
  constantPool := pool
  accessFlags := fl
  thisClass := this
  superClass := sup
  interfaces := ifs
  fields := fds
  methods := ms
  attributes := attrs
def plain (name : String) (sup : Option ClassId) : Class where
  name := name
  kind := .ordinary
  loader := none
  accessFlags := 33
  super := sup
  interfaces := #[]
  cf := none
  fields := #[]
  methods := #[]
  instanceTypes := #[]
  staticTypes := #[]
  resolved := #[]
  callSites := []
  init := .initialized
  statics := none
  mirror := none

def pool0 : Array CpInfo := pool [(5, u "<init>"), (0, u "()V"), (1, .class_ 10), (1, u "java/lang/Object")] 113

def k0c0 : Code := { maxStack := 0, maxLocals := 1, code := object_method_1_code, exceptionTable := #[], attributes := #[] }
def k0m0 : Method := { name := "<init>", desc := "()V", sig := { parameters := [], returnType := none }, accessFlags := 1, code := some k0c0 }
/-- java/lang/Object -/
def k0 : Class := { plain "java/lang/Object" none with
  accessFlags := 33
  interfaces := #[]
  cf := some (fileOf pool0 8 #[] #[{ accessFlags := 1, nameIndex := 5, descriptorIndex := 6, attributes := #[] }] 33 0 #[] #[])
  fields := #[]
  methods := #[k0m0]
  instanceTypes := #[]
  staticTypes := #[]
  resolved := Array.replicate 124 none
  statics := none }

def pool1 : Array CpInfo := pool [(2, .class_ 4), (1, u "java/lang/Object"), (0, u "<init>"), (0, u "()V"), (0, .integer 65535), (0, .methodref 9 10), (0, .class_ 11), (0, .nameAndType 12 13), (0, u "com/example/dogwood/dogwood/model/yaml/Lines"), (0, u "isBreak"), (0, u "(C)Z"), (0, .methodref 15 16), (0, .class_ 17), (0, .nameAndType 18 19), (0, u "java/lang/String"), (0, u "valueOf"), (0, u "(C)Ljava/lang/String;"), (0, .class_ 21), (0, u "com/example/dogwood/dogwood/model/yaml/Occurrences"), (0, .methodref 20 23), (0, .nameAndType 5 24), (0, u "(Ljava/lang/String;C)V"), (0, .methodref 9 26), (0, .nameAndType 27 28), (0, u "end"), (0, u "(Ljava/lang/String;ILcom/example/dogwood/dogwood/model/yaml/Occurrences;Lcom/example/dogwood/dogwood/model/yaml/Occurrences;)I"), (0, .class_ 30), (0, u "com/example/dogwood/dogwood/model/yaml/LinesIsBreakPinLaw"), (2, u "law"), (0, u "(I)Z")] 3

def k1m0 : Method := { name := "<init>", desc := "()V", sig := { parameters := [], returnType := none }, accessFlags := 2, code := none }
def k1c1 : Code := { maxStack := 4, maxLocals := 8, code := code, exceptionTable := #[], attributes := #[] }
def k1m1 : Method := { name := "law", desc := "(I)Z", sig := { parameters := [.int], returnType := some .boolean }, accessFlags := 9, code := some k1c1 }
/-- com/example/dogwood/dogwood/model/yaml/LinesIsBreakPinLaw -/
def k1 : Class := { plain "com/example/dogwood/dogwood/model/yaml/LinesIsBreakPinLaw" (some 0) with
  accessFlags := 49
  interfaces := #[]
  cf := some (fileOf pool1 29 #[] #[{ accessFlags := 2, nameIndex := 5, descriptorIndex := 6, attributes := #[] }, { accessFlags := 9, nameIndex := 33, descriptorIndex := 34, attributes := #[] }] 49 2 #[] #[])
  fields := #[]
  methods := #[k1m0, k1m1]
  instanceTypes := #[]
  staticTypes := #[]
  resolved := Array.replicate 38 none
  statics := none }

def pool2 : Array CpInfo := pool [(2, .class_ 4), (1, u "java/lang/Object"), (0, u "<init>"), (0, u "()V"), (0, .class_ 8), (0, u "com/example/dogwood/dogwood/model/yaml/Occurrences"), (4, .class_ 15), (1, u "com/example/dogwood/dogwood/model/yaml/Lines"), (0, u "end"), (0, u "(Ljava/lang/String;ILcom/example/dogwood/dogwood/model/yaml/Occurrences;Lcom/example/dogwood/dogwood/model/yaml/Occurrences;)I"), (1, .class_ 21), (1, u "com/example/dogwood/dogwood/model/yaml/Lines$LineAction"), (2, .methodref 25 26), (0, .class_ 27), (0, .nameAndType 28 29), (0, u "java/lang/String"), (0, u "length"), (0, u "()I"), (6, u "SPACE_OR_BREAK"), (0, u "Ljava/util/regex/Pattern;"), (24, u "isBreak"), (0, u "(C)Z"), (0, .methodref 7 65), (0, .nameAndType 66 67), (0, u "from"), (0, u "(I)I")] 24

def k2m0 : Method := { name := "<init>", desc := "()V", sig := { parameters := [], returnType := none }, accessFlags := 2, code := none }
def k2c1 : Code := { maxStack := 2, maxLocals := 1, code := prog_16_method_4_code, exceptionTable := #[], attributes := #[] }
def k2m1 : Method := { name := "isBreak", desc := "(C)Z", sig := { parameters := [.char], returnType := some .boolean }, accessFlags := 8, code := some k2c1 }
def k2c2 : Code := { maxStack := 2, maxLocals := 6, code := prog_16_method_6_code, exceptionTable := #[], attributes := #[] }
def k2m2 : Method := { name := "end", desc := "(Ljava/lang/String;ILcom/example/dogwood/dogwood/model/yaml/Occurrences;Lcom/example/dogwood/dogwood/model/yaml/Occurrences;)I", sig := { parameters := [(.object "java/lang/String"), .int, (.object "com/example/dogwood/dogwood/model/yaml/Occurrences"), (.object "com/example/dogwood/dogwood/model/yaml/Occurrences")], returnType := some .int }, accessFlags := 8, code := some k2c2 }
/-- com/example/dogwood/dogwood/model/yaml/Lines -/
def k2 : Class := { plain "com/example/dogwood/dogwood/model/yaml/Lines" (some 0) with
  accessFlags := 33
  interfaces := #[]
  cf := some (fileOf pool2 13 #[.nestMembers #[19]] #[{ accessFlags := 2, nameIndex := 5, descriptorIndex := 6, attributes := #[] }, { accessFlags := 8, nameIndex := 62, descriptorIndex := 63, attributes := #[] }, { accessFlags := 8, nameIndex := 16, descriptorIndex := 17, attributes := #[] }] 33 2 #[] #[{ accessFlags := 26, nameIndex := 36, descriptorIndex := 37, attributes := #[] }])
  fields := #[{ name := "SPACE_OR_BREAK", type := (.object "java/util/regex/Pattern"), accessFlags := 26, slot := 0, constantValue := 0 }]
  methods := #[k2m0, k2m1, k2m2]
  instanceTypes := #[]
  staticTypes := #[(.object "java/util/regex/Pattern")]
  resolved := Array.replicate 92 none
  statics := none }

def pool3 : Array CpInfo := pool [(1, .class_ 2), (0, u "java/io/Serializable"), (0, .class_ 4), (0, u "java/lang/Object")] 2

/-- java/io/Serializable -/
def k3 : Class := { plain "java/io/Serializable" (some 0) with
  accessFlags := 1537
  interfaces := #[]
  cf := some (fileOf pool3 1 #[] #[] 1537 3 #[] #[])
  fields := #[]
  methods := #[]
  instanceTypes := #[]
  staticTypes := #[]
  resolved := Array.replicate 7 none
  statics := none }

def pool4 : Array CpInfo := pool [(1, .class_ 2), (0, u "java/lang/Comparable"), (0, .class_ 4), (0, u "java/lang/Object")] 7

/-- java/lang/Comparable -/
def k4 : Class := { plain "java/lang/Comparable" (some 0) with
  accessFlags := 1537
  interfaces := #[]
  cf := some (fileOf pool4 1 #[] #[] 1537 3 #[] #[])
  fields := #[]
  methods := #[]
  instanceTypes := #[]
  staticTypes := #[]
  resolved := Array.replicate 12 none
  statics := none }

def pool5 : Array CpInfo := pool [(2, .class_ 4), (1, u "java/lang/CharSequence"), (42, .class_ 48), (0, u "java/lang/CharSequence$1CodePointIterator"), (10, .class_ 60), (0, u "java/lang/CharSequence$1CharIterator"), (5, .class_ 67), (0, u "java/lang/Object")] 63

/-- java/lang/CharSequence -/
def k5 : Class := { plain "java/lang/CharSequence" (some 0) with
  accessFlags := 1537
  interfaces := #[]
  cf := some (fileOf pool5 2 #[.nestMembers #[47, 59]] #[] 1537 66 #[] #[])
  fields := #[]
  methods := #[]
  instanceTypes := #[]
  staticTypes := #[]
  resolved := Array.replicate 131 none
  statics := none }

def pool6 : Array CpInfo := pool [(1, .class_ 2), (0, u "java/lang/constant/Constable"), (0, .class_ 4), (0, u "java/lang/Object")] 6

/-- java/lang/constant/Constable -/
def k6 : Class := { plain "java/lang/constant/Constable" (some 0) with
  accessFlags := 1537
  interfaces := #[]
  cf := some (fileOf pool6 1 #[] #[] 1537 3 #[] #[])
  fields := #[]
  methods := #[]
  instanceTypes := #[]
  staticTypes := #[]
  resolved := Array.replicate 11 none
  statics := none }

def pool7 : Array CpInfo := pool [(1, .class_ 2), (0, u "java/lang/constant/ConstantDesc"), (0, .class_ 4), (0, u "java/lang/Object")] 32

/-- java/lang/constant/ConstantDesc -/
def k7 : Class := { plain "java/lang/constant/ConstantDesc" (some 0) with
  accessFlags := 1537
  interfaces := #[]
  cf := some (fileOf pool7 1 #[] #[] 1537 3 #[] #[])
  fields := #[]
  methods := #[]
  instanceTypes := #[]
  staticTypes := #[]
  resolved := Array.replicate 37 none
  statics := none }

def pool8 : Array CpInfo := pool [(1, .methodref 2 3), (0, .class_ 4), (0, .nameAndType 5 6), (0, u "java/lang/Object"), (0, u "<init>"), (0, u "()V"), (2, .fieldref 10 11), (0, .class_ 12), (0, .nameAndType 13 14), (0, u "java/lang/String"), (0, u "value"), (0, u "[B"), (0, .fieldref 10 16), (0, .nameAndType 17 18), (0, u "coder"), (0, u "B"), (2, u "hash"), (0, u "I"), (2, u "hashIsZero"), (0, u "Z"), (11, .fieldref 10 39), (0, .nameAndType 40 26), (0, u "COMPACT_STRINGS"), (1, .class_ 44), (1, u "java/lang/StringUTF16"), (8, u "toBytes"), (53, .class_ 109), (1, u "java/lang/StringLatin1"), (32, u "()Z"), (66, .methodref 10 210), (0, .nameAndType 5 211), (0, u "([BB)V"), (122, u "()I"), (0, .methodref 10 336), (0, .nameAndType 17 337), (0, u "()B"), (31, u "(C)Z"), (122, .methodref 10 493), (0, .nameAndType 494 142), (0, u "isLatin1"), (10, .methodref 10 506), (0, .nameAndType 507 334), (0, u "length"), (5, u "checkFromToIndex"), (9, u "checkBoundsBeginEnd"), (0, u "(III)V"), (50, .class_ 576), (0, u "java/lang/CharSequence"), (22, u "CASE_INSENSITIVE_ORDER"), (0, u "Ljava/util/Comparator;"), (34, u "indexOf"), (0, u "(II)I"), (0, .methodref 107 638), (0, .nameAndType 635 639), (0, u "([BIII)I"), (0, .methodref 42 638), (141, u "valueOf"), (0, u "(C)Ljava/lang/String;"), (231, .methodref 107 1016), (0, .nameAndType 1017 369), (0, u "canEncode"), (0, .methodref 107 1019), (0, .nameAndType 53 1020), (0, u "(C)[B"), (0, .methodref 42 1019), (31, .fieldref 1054 1055), (0, .class_ 1056), (0, .nameAndType 1057 1058), (0, u "jdk/internal/util/Preconditions"), (0, u "SIOOBE_FORMATTER"), (0, u "Ljava/util/function/BiFunction;"), (3, .methodref 1054 1063), (0, .nameAndType 513 1064), (0, u "(IIILjava/util/function/BiFunction;)I"), (36, u "serialPersistentFields"), (0, u "[Ljava/io/ObjectStreamField;"), (0, .class_ 1104), (0, u "java/lang/String$CaseInsensitiveComparator"), (1, .class_ 1107), (0, u "java/io/Serializable"), (0, .class_ 1109), (0, u "java/lang/Comparable"), (0, .class_ 1111), (0, u "java/lang/constant/Constable"), (0, .class_ 1113), (0, u "java/lang/constant/ConstantDesc"), (2, u "serialVersionUID"), (0, u "J"), (3, u "REPL"), (0, u "C"), (2, u "LATIN1"), (1, u "UTF16")] 323

def k8m0 : Method := { name := "<init>", desc := "()V", sig := { parameters := [], returnType := none }, accessFlags := 1, code := none }
def k8c1 : Code := { maxStack := 2, maxLocals := 1, code := jdk_42_method_54_code, exceptionTable := #[], attributes := #[] }
def k8m1 : Method := { name := "length", desc := "()I", sig := { parameters := [], returnType := some .int }, accessFlags := 1, code := some k8c1 }
def k8c2 : Code := { maxStack := 4, maxLocals := 3, code := jdk_42_method_80_code, exceptionTable := #[], attributes := #[] }
def k8m2 : Method := { name := "indexOf", desc := "(II)I", sig := { parameters := [.int, .int], returnType := some .int }, accessFlags := 1, code := some k8c2 }
def k8c3 : Code := { maxStack := 4, maxLocals := 1, code := jdk_42_method_139_code, exceptionTable := #[], attributes := #[] }
def k8m3 : Method := { name := "valueOf", desc := "(C)Ljava/lang/String;", sig := { parameters := [.char], returnType := some (.object "java/lang/String") }, accessFlags := 9, code := some k8c3 }
def k8c4 : Code := { maxStack := 2, maxLocals := 3, code := jdk_42_method_151_code, exceptionTable := #[], attributes := #[] }
def k8m4 : Method := { name := "<init>", desc := "([BB)V", sig := { parameters := [(.array .byte), .byte], returnType := none }, accessFlags := 0, code := some k8c4 }
def k8c5 : Code := { maxStack := 1, maxLocals := 1, code := jdk_42_method_152_code, exceptionTable := #[], attributes := #[] }
def k8m5 : Method := { name := "coder", desc := "()B", sig := { parameters := [], returnType := some .byte }, accessFlags := 0, code := some k8c5 }
def k8c6 : Code := { maxStack := 1, maxLocals := 1, code := jdk_42_method_154_code, exceptionTable := #[], attributes := #[] }
def k8m6 : Method := { name := "isLatin1", desc := "()Z", sig := { parameters := [], returnType := some .boolean }, accessFlags := 0, code := some k8c6 }
def k8c7 : Code := { maxStack := 4, maxLocals := 3, code := jdk_42_method_158_code, exceptionTable := #[], attributes := #[] }
def k8m7 : Method := { name := "checkBoundsBeginEnd", desc := "(III)V", sig := { parameters := [.int, .int, .int], returnType := none }, accessFlags := 8, code := some k8c7 }
/-- java/lang/String -/
def k8 : Class := { plain "java/lang/String" (some 0) with
  accessFlags := 49
  interfaces := #[3, 4, 5, 6, 7]
  cf := some (fileOf pool8 10 #[.nestMembers #[1103]] #[{ accessFlags := 1, nameIndex := 5, descriptorIndex := 6, attributes := #[] }, { accessFlags := 1, nameIndex := 507, descriptorIndex := 334, attributes := #[] }, { accessFlags := 1, nameIndex := 635, descriptorIndex := 636, attributes := #[] }, { accessFlags := 9, nameIndex := 782, descriptorIndex := 783, attributes := #[] }, { accessFlags := 0, nameIndex := 5, descriptorIndex := 211, attributes := #[] }, { accessFlags := 0, nameIndex := 17, descriptorIndex := 337, attributes := #[] }, { accessFlags := 0, nameIndex := 494, descriptorIndex := 142, attributes := #[] }, { accessFlags := 8, nameIndex := 523, descriptorIndex := 524, attributes := #[] }] 49 2 #[1106, 1108, 575, 1110, 1112] #[{ accessFlags := 18, nameIndex := 13, descriptorIndex := 14, attributes := #[] }, { accessFlags := 18, nameIndex := 17, descriptorIndex := 18, attributes := #[] }, { accessFlags := 2, nameIndex := 21, descriptorIndex := 22, attributes := #[] }, { accessFlags := 2, nameIndex := 25, descriptorIndex := 26, attributes := #[] }, { accessFlags := 26, nameIndex := 1116, descriptorIndex := 1117, attributes := #[] }, { accessFlags := 24, nameIndex := 40, descriptorIndex := 26, attributes := #[] }, { accessFlags := 26, nameIndex := 1101, descriptorIndex := 1102, attributes := #[] }, { accessFlags := 26, nameIndex := 1121, descriptorIndex := 1122, attributes := #[] }, { accessFlags := 25, nameIndex := 599, descriptorIndex := 600, attributes := #[] }, { accessFlags := 24, nameIndex := 1125, descriptorIndex := 18, attributes := #[] }, { accessFlags := 24, nameIndex := 1127, descriptorIndex := 18, attributes := #[] }])
  fields := #[{ name := "value", type := (.array .byte), accessFlags := 18, slot := 0, constantValue := 0 }, { name := "coder", type := .byte, accessFlags := 18, slot := 1, constantValue := 0 }, { name := "hash", type := .int, accessFlags := 2, slot := 2, constantValue := 0 }, { name := "hashIsZero", type := .boolean, accessFlags := 2, slot := 3, constantValue := 0 }, { name := "serialVersionUID", type := .long, accessFlags := 26, slot := 0, constantValue := 0 }, { name := "COMPACT_STRINGS", type := .boolean, accessFlags := 24, slot := 1, constantValue := 0 }, { name := "serialPersistentFields", type := (.array (.object "java/io/ObjectStreamField")), accessFlags := 26, slot := 2, constantValue := 0 }, { name := "REPL", type := .char, accessFlags := 26, slot := 3, constantValue := 0 }, { name := "CASE_INSENSITIVE_ORDER", type := (.object "java/util/Comparator"), accessFlags := 25, slot := 4, constantValue := 0 }, { name := "LATIN1", type := .byte, accessFlags := 24, slot := 5, constantValue := 0 }, { name := "UTF16", type := .byte, accessFlags := 24, slot := 6, constantValue := 0 }]
  methods := #[k8m0, k8m1, k8m2, k8m3, k8m4, k8m5, k8m6, k8m7]
  instanceTypes := #[(.array .byte), .byte, .int, .boolean]
  staticTypes := #[.long, .boolean, (.array (.object "java/io/ObjectStreamField")), .char, (.object "java/util/Comparator"), .byte, .byte]
  resolved := Array.replicate 1451 none
  statics := some 0 }

def pool9 : Array CpInfo := pool [(4, .class_ 6), (1, u "java/lang/Object"), (0, u "<init>"), (0, u "()V"), (5, .class_ 16), (1, u "java/lang/StringLatin1"), (21, .methodref 39 40), (0, .class_ 41), (0, .nameAndType 42 43), (0, u "java/lang/Math"), (0, u "min"), (0, u "(II)I"), (44, .methodref 14 89), (0, .nameAndType 90 91), (0, u "canEncode"), (0, u "(I)Z"), (0, .methodref 39 93), (0, .nameAndType 94 43), (0, u "max"), (0, .methodref 14 96), (0, .nameAndType 97 98), (0, u "indexOfChar"), (0, u "([BIII)I"), (2, u "indexOf"), (3, u "(C)Z"), (15, u "$assertionsDisabled"), (0, u "Z"), (98, .class_ 223), (1, u "java/lang/StringLatin1$LinesSpliterator"), (156, u "toBytes"), (1, u "(C)[B"), (7, .class_ 391), (0, u "java/lang/StringLatin1$CharsSpliterator")] 3

def k9m0 : Method := { name := "<init>", desc := "()V", sig := { parameters := [], returnType := none }, accessFlags := 0, code := none }
def k9c1 : Code := { maxStack := 2, maxLocals := 1, code := jdk_43_method_3_code, exceptionTable := #[], attributes := #[] }
def k9m1 : Method := { name := "canEncode", desc := "(C)Z", sig := { parameters := [.char], returnType := some .boolean }, accessFlags := 9, code := some k9c1 }
def k9c2 : Code := { maxStack := 2, maxLocals := 1, code := jdk_43_method_4_code, exceptionTable := #[], attributes := #[] }
def k9m2 : Method := { name := "canEncode", desc := "(I)Z", sig := { parameters := [.int], returnType := some .boolean }, accessFlags := 9, code := some k9c2 }
def k9c3 : Code := { maxStack := 4, maxLocals := 4, code := jdk_43_method_22_code, exceptionTable := #[], attributes := #[] }
def k9m3 : Method := { name := "indexOf", desc := "([BIII)I", sig := { parameters := [(.array .byte), .int, .int, .int], returnType := some .int }, accessFlags := 9, code := some k9c3 }
def k9c4 : Code := { maxStack := 2, maxLocals := 6, code := jdk_43_method_23_code, exceptionTable := #[], attributes := #[] }
def k9m4 : Method := { name := "indexOfChar", desc := "([BIII)I", sig := { parameters := [(.array .byte), .int, .int, .int], returnType := some .int }, accessFlags := 10, code := some k9c4 }
def k9c5 : Code := { maxStack := 4, maxLocals := 1, code := jdk_43_method_46_code, exceptionTable := #[], attributes := #[] }
def k9m5 : Method := { name := "toBytes", desc := "(C)[B", sig := { parameters := [.char], returnType := some (.array .byte) }, accessFlags := 9, code := some k9c5 }
/-- java/lang/StringLatin1 -/
def k9 : Class := { plain "java/lang/StringLatin1" (some 0) with
  accessFlags := 48
  interfaces := #[]
  cf := some (fileOf pool9 14 #[.nestMembers #[390, 221]] #[{ accessFlags := 0, nameIndex := 7, descriptorIndex := 8, attributes := #[] }, { accessFlags := 9, nameIndex := 90, descriptorIndex := 105, attributes := #[] }, { accessFlags := 9, nameIndex := 90, descriptorIndex := 91, attributes := #[] }, { accessFlags := 9, nameIndex := 101, descriptorIndex := 98, attributes := #[] }, { accessFlags := 10, nameIndex := 97, descriptorIndex := 98, attributes := #[] }, { accessFlags := 9, nameIndex := 380, descriptorIndex := 382, attributes := #[] }] 48 4 #[] #[{ accessFlags := 4120, nameIndex := 121, descriptorIndex := 122, attributes := #[] }])
  fields := #[{ name := "$assertionsDisabled", type := .boolean, accessFlags := 4120, slot := 0, constantValue := 0 }]
  methods := #[k9m0, k9m1, k9m2, k9m3, k9m4, k9m5]
  instanceTypes := #[]
  staticTypes := #[.boolean]
  resolved := Array.replicate 395 none
  statics := none }

def pool10 : Array CpInfo := pool [(1, .methodref 2 3), (0, .class_ 4), (0, .nameAndType 5 6), (0, u "java/lang/Object"), (0, u "<init>"), (0, u "()V"), (2, .integer 2147483647), (0, .fieldref 11 12), (0, .class_ 13), (0, .nameAndType 14 15), (0, u "com/example/dogwood/dogwood/model/yaml/Occurrences"), (0, u "from"), (0, u "I"), (0, .fieldref 11 17), (0, .nameAndType 18 15), (0, u "found"), (0, .fieldref 11 20), (0, .nameAndType 21 22), (0, u "text"), (0, u "Ljava/lang/String;"), (0, .fieldref 11 24), (0, .nameAndType 25 26), (0, u "c"), (0, u "C"), (0, .methodref 28 29), (0, .class_ 30), (0, .nameAndType 31 32), (0, u "java/lang/String"), (0, u "indexOf"), (0, u "(II)I"), (2, u "(I)I"), (0, u "(Ljava/lang/String;C)V")] 6

def k10c0 : Code := { maxStack := 2, maxLocals := 3, code := prog_19_method_1_code, exceptionTable := #[], attributes := #[] }
def k10m0 : Method := { name := "<init>", desc := "(Ljava/lang/String;C)V", sig := { parameters := [(.object "java/lang/String"), .char], returnType := none }, accessFlags := 1, code := some k10c0 }
def k10c1 : Code := { maxStack := 4, maxLocals := 2, code := prog_19_method_2_code, exceptionTable := #[], attributes := #[] }
def k10m1 : Method := { name := "from", desc := "(I)I", sig := { parameters := [.int], returnType := some .int }, accessFlags := 1, code := some k10c1 }
/-- com/example/dogwood/dogwood/model/yaml/Occurrences -/
def k10 : Class := { plain "com/example/dogwood/dogwood/model/yaml/Occurrences" (some 0) with
  accessFlags := 33
  interfaces := #[]
  cf := some (fileOf pool10 11 #[] #[{ accessFlags := 1, nameIndex := 5, descriptorIndex := 36, attributes := #[] }, { accessFlags := 1, nameIndex := 14, descriptorIndex := 35, attributes := #[] }] 33 2 #[] #[{ accessFlags := 18, nameIndex := 21, descriptorIndex := 22, attributes := #[] }, { accessFlags := 18, nameIndex := 25, descriptorIndex := 26, attributes := #[] }, { accessFlags := 2, nameIndex := 14, descriptorIndex := 15, attributes := #[] }, { accessFlags := 2, nameIndex := 18, descriptorIndex := 15, attributes := #[] }])
  fields := #[{ name := "text", type := (.object "java/lang/String"), accessFlags := 18, slot := 0, constantValue := 0 }, { name := "c", type := .char, accessFlags := 18, slot := 1, constantValue := 0 }, { name := "from", type := .int, accessFlags := 2, slot := 2, constantValue := 0 }, { name := "found", type := .int, accessFlags := 2, slot := 3, constantValue := 0 }]
  methods := #[k10m0, k10m1]
  instanceTypes := #[(.object "java/lang/String"), .char, .int, .int]
  staticTypes := #[]
  resolved := Array.replicate 43 none
  statics := none }

def pool11 : Array CpInfo := pool [(1, .class_ 2), (0, u "java/lang/Math"), (1, .class_ 6), (1, u "java/lang/Object"), (0, u "<init>"), (0, u "()V"), (89, .class_ 100), (1, u "java/lang/Math$RandomNumberGeneratorHolder"), (71, u "negativeZeroFloatBits"), (0, u "J"), (2, u "negativeZeroDoubleBits"), (21, u "max"), (2, u "min"), (43, u "$assertionsDisabled"), (0, u "Z"), (88, u "(II)I"), (2, u "twoToTheDoubleScaleDown"), (0, u "D"), (4, u "twoToTheDoubleScaleUp"), (9, u "E"), (3, u "PI"), (2, u "TAU"), (2, u "DEGREES_TO_RADIANS"), (0, u "RADIANS_TO_DEGREES")] 94

def k11m0 : Method := { name := "<init>", desc := "()V", sig := { parameters := [], returnType := none }, accessFlags := 2, code := none }
def k11c1 : Code := { maxStack := 2, maxLocals := 2, code := jdk_29_method_65_code, exceptionTable := #[], attributes := #[] }
def k11m1 : Method := { name := "max", desc := "(II)I", sig := { parameters := [.int, .int], returnType := some .int }, accessFlags := 9, code := some k11c1 }
def k11c2 : Code := { maxStack := 2, maxLocals := 2, code := jdk_29_method_69_code, exceptionTable := #[], attributes := #[] }
def k11m2 : Method := { name := "min", desc := "(II)I", sig := { parameters := [.int, .int], returnType := some .int }, accessFlags := 9, code := some k11c2 }
/-- java/lang/Math -/
def k11 : Class := { plain "java/lang/Math" (some 0) with
  accessFlags := 49
  interfaces := #[]
  cf := some (fileOf pool11 1 #[.nestMembers #[98]] #[{ accessFlags := 2, nameIndex := 7, descriptorIndex := 8, attributes := #[] }, { accessFlags := 9, nameIndex := 198, descriptorIndex := 335, attributes := #[] }, { accessFlags := 9, nameIndex := 201, descriptorIndex := 335, attributes := #[] }] 49 4 #[] #[{ accessFlags := 25, nameIndex := 354, descriptorIndex := 339, attributes := #[] }, { accessFlags := 25, nameIndex := 358, descriptorIndex := 339, attributes := #[] }, { accessFlags := 25, nameIndex := 361, descriptorIndex := 339, attributes := #[] }, { accessFlags := 26, nameIndex := 364, descriptorIndex := 339, attributes := #[] }, { accessFlags := 26, nameIndex := 365, descriptorIndex := 339, attributes := #[] }, { accessFlags := 26, nameIndex := 172, descriptorIndex := 173, attributes := #[] }, { accessFlags := 26, nameIndex := 176, descriptorIndex := 173, attributes := #[] }, { accessFlags := 8, nameIndex := 344, descriptorIndex := 339, attributes := #[] }, { accessFlags := 8, nameIndex := 338, descriptorIndex := 339, attributes := #[] }, { accessFlags := 4120, nameIndex := 245, descriptorIndex := 246, attributes := #[] }])
  fields := #[{ name := "E", type := .double, accessFlags := 25, slot := 0, constantValue := 0 }, { name := "PI", type := .double, accessFlags := 25, slot := 1, constantValue := 0 }, { name := "TAU", type := .double, accessFlags := 25, slot := 2, constantValue := 0 }, { name := "DEGREES_TO_RADIANS", type := .double, accessFlags := 26, slot := 3, constantValue := 0 }, { name := "RADIANS_TO_DEGREES", type := .double, accessFlags := 26, slot := 4, constantValue := 0 }, { name := "negativeZeroFloatBits", type := .long, accessFlags := 26, slot := 5, constantValue := 0 }, { name := "negativeZeroDoubleBits", type := .long, accessFlags := 26, slot := 6, constantValue := 0 }, { name := "twoToTheDoubleScaleUp", type := .double, accessFlags := 8, slot := 7, constantValue := 0 }, { name := "twoToTheDoubleScaleDown", type := .double, accessFlags := 8, slot := 8, constantValue := 0 }, { name := "$assertionsDisabled", type := .boolean, accessFlags := 4120, slot := 9, constantValue := 0 }]
  methods := #[k11m0, k11m1, k11m2]
  instanceTypes := #[]
  staticTypes := #[.double, .double, .double, .double, .double, .long, .long, .double, .double, .boolean]
  resolved := Array.replicate 460 none
  statics := none }

def pool12 : Array CpInfo := pool [(3, .class_ 4), (0, u "java/lang/String"), (1, .class_ 8), (1, u "java/lang/Object"), (0, u "<init>"), (0, u "()V"), (1, .class_ 14), (1, u "java/lang/StringUTF16"), (29, .fieldref 12 45), (0, .nameAndType 46 47), (0, u "$assertionsDisabled"), (0, u "Z"), (0, .methodref 12 49), (0, .nameAndType 50 51), (0, u "length"), (0, u "([B)I"), (7, .fieldref 12 60), (0, .nameAndType 61 62), (0, u "HI_BYTE_SHIFT"), (0, u "I"), (0, .fieldref 12 64), (0, .nameAndType 65 62), (0, u "LO_BYTE_SHIFT"), (5, .methodref 12 72), (0, .nameAndType 73 74), (0, u "getChar"), (0, u "([BI)C"), (21, .methodref 12 97), (0, .nameAndType 98 99), (0, u "checkBoundsBeginEnd"), (0, u "(II[B)V"), (11, .methodref 12 112), (0, .nameAndType 113 114), (0, u "putChar"), (0, u "([BII)V"), (6, u "toBytes"), (61, .methodref 184 185), (0, .class_ 186), (0, .nameAndType 187 188), (0, u "java/lang/Math"), (0, u "min"), (0, u "(II)I"), (35, .methodref 184 225), (0, .nameAndType 226 188), (0, u "max"), (0, .integer 65536), (0, .methodref 12 229), (0, .nameAndType 230 231), (0, u "indexOfChar"), (0, u "([BIII)I"), (9, .methodref 3 242), (0, .nameAndType 98 243), (0, u "(III)V"), (0, .methodref 12 245), (0, .nameAndType 246 231), (0, u "indexOfCharUnsafe"), (21, u "indexOf"), (100, .class_ 371), (1, u "java/lang/StringUTF16$LinesSpliterator"), (58, u "MAX_LENGTH"), (44, u "(C)[B"), (151, .class_ 628), (0, u "java/lang/StringUTF16$CodePointsSpliterator"), (0, .class_ 630), (0, u "java/lang/StringUTF16$CharsSpliterator")] 4

def k12m0 : Method := { name := "<init>", desc := "()V", sig := { parameters := [], returnType := none }, accessFlags := 0, code := none }
def k12c1 : Code := { maxStack := 4, maxLocals := 3, code := jdk_52_method_4_code, exceptionTable := #[], attributes := #[] }
def k12m1 : Method := { name := "putChar", desc := "([BII)V", sig := { parameters := [(.array .byte), .int, .int], returnType := none }, accessFlags := 8, code := some k12c1 }
def k12c2 : Code := { maxStack := 3, maxLocals := 2, code := jdk_52_method_5_code, exceptionTable := #[], attributes := #[] }
def k12m2 : Method := { name := "getChar", desc := "([BI)C", sig := { parameters := [(.array .byte), .int], returnType := some .char }, accessFlags := 8, code := some k12c2 }
def k12c3 : Code := { maxStack := 2, maxLocals := 1, code := jdk_52_method_6_code, exceptionTable := #[], attributes := #[] }
def k12m3 : Method := { name := "length", desc := "([B)I", sig := { parameters := [(.array .byte)], returnType := some .int }, accessFlags := 9, code := some k12c3 }
def k12c4 : Code := { maxStack := 3, maxLocals := 2, code := jdk_52_method_24_code, exceptionTable := #[], attributes := #[] }
def k12m4 : Method := { name := "toBytes", desc := "(C)[B", sig := { parameters := [.char], returnType := some (.array .byte) }, accessFlags := 9, code := some k12c4 }
def k12c5 : Code := { maxStack := 4, maxLocals := 4, code := jdk_52_method_40_code, exceptionTable := #[], attributes := #[] }
def k12m5 : Method := { name := "indexOf", desc := "([BIII)I", sig := { parameters := [(.array .byte), .int, .int, .int], returnType := some .int }, accessFlags := 9, code := some k12c5 }
def k12c6 : Code := { maxStack := 4, maxLocals := 4, code := jdk_52_method_47_code, exceptionTable := #[], attributes := #[] }
def k12m6 : Method := { name := "indexOfChar", desc := "([BIII)I", sig := { parameters := [(.array .byte), .int, .int, .int], returnType := some .int }, accessFlags := 10, code := some k12c6 }
def k12c7 : Code := { maxStack := 2, maxLocals := 5, code := jdk_52_method_48_code, exceptionTable := #[], attributes := #[] }
def k12m7 : Method := { name := "indexOfCharUnsafe", desc := "([BIII)I", sig := { parameters := [(.array .byte), .int, .int, .int], returnType := some .int }, accessFlags := 10, code := some k12c7 }
def k12c8 : Code := { maxStack := 3, maxLocals := 3, code := jdk_52_method_93_code, exceptionTable := #[], attributes := #[] }
def k12m8 : Method := { name := "checkBoundsBeginEnd", desc := "(II[B)V", sig := { parameters := [.int, .int, (.array .byte)], returnType := none }, accessFlags := 9, code := some k12c8 }
/-- java/lang/StringUTF16 -/
def k12 : Class := { plain "java/lang/StringUTF16" (some 0) with
  accessFlags := 48
  interfaces := #[]
  cf := some (fileOf pool12 12 #[.nestMembers #[627, 629, 369]] #[{ accessFlags := 0, nameIndex := 9, descriptorIndex := 10, attributes := #[] }, { accessFlags := 8, nameIndex := 113, descriptorIndex := 114, attributes := #[] }, { accessFlags := 8, nameIndex := 73, descriptorIndex := 74, attributes := #[] }, { accessFlags := 9, nameIndex := 50, descriptorIndex := 51, attributes := #[] }, { accessFlags := 9, nameIndex := 121, descriptorIndex := 475, attributes := #[] }, { accessFlags := 9, nameIndex := 268, descriptorIndex := 231, attributes := #[] }, { accessFlags := 10, nameIndex := 230, descriptorIndex := 231, attributes := #[] }, { accessFlags := 10, nameIndex := 246, descriptorIndex := 231, attributes := #[] }, { accessFlags := 9, nameIndex := 98, descriptorIndex := 99, attributes := #[] }] 48 6 #[] #[{ accessFlags := 26, nameIndex := 61, descriptorIndex := 62, attributes := #[] }, { accessFlags := 26, nameIndex := 65, descriptorIndex := 62, attributes := #[] }, { accessFlags := 24, nameIndex := 430, descriptorIndex := 62, attributes := #[] }, { accessFlags := 4120, nameIndex := 46, descriptorIndex := 47, attributes := #[] }])
  fields := #[{ name := "HI_BYTE_SHIFT", type := .int, accessFlags := 26, slot := 0, constantValue := 0 }, { name := "LO_BYTE_SHIFT", type := .int, accessFlags := 26, slot := 1, constantValue := 0 }, { name := "MAX_LENGTH", type := .int, accessFlags := 24, slot := 2, constantValue := 0 }, { name := "$assertionsDisabled", type := .boolean, accessFlags := 4120, slot := 3, constantValue := 0 }]
  methods := #[k12m0, k12m1, k12m2, k12m3, k12m4, k12m5, k12m6, k12m7, k12m8]
  instanceTypes := #[]
  staticTypes := #[.int, .int, .int, .boolean]
  resolved := Array.replicate 635 none
  statics := some 1 }

def pool13 : Array CpInfo := pool [(2, .class_ 4), (1, u "java/lang/Object"), (0, u "<init>"), (0, u "()V"), (17, .class_ 26), (1, u "jdk/internal/util/Preconditions"), (20, u "checkFromToIndex"), (7, .class_ 56), (0, u "jdk/internal/util/Preconditions$4"), (57, .class_ 115), (0, u "jdk/internal/util/Preconditions$1"), (7, u "SIOOBE_FORMATTER"), (0, u "Ljava/util/function/BiFunction;"), (0, .class_ 126), (0, u "jdk/internal/util/Preconditions$2"), (3, u "AIOOBE_FORMATTER"), (0, .class_ 132), (0, u "jdk/internal/util/Preconditions$3"), (3, u "IOOBE_FORMATTER"), (46, u "(IIILjava/util/function/BiFunction;)I")] 10

def k13m0 : Method := { name := "<init>", desc := "()V", sig := { parameters := [], returnType := none }, accessFlags := 1, code := none }
def k13c1 : Code := { maxStack := 4, maxLocals := 4, code := jdk_41_method_12_code, exceptionTable := #[], attributes := #[] }
def k13m1 : Method := { name := "checkFromToIndex", desc := "(IIILjava/util/function/BiFunction;)I", sig := { parameters := [.int, .int, .int, (.object "java/util/function/BiFunction")], returnType := some .int }, accessFlags := 9, code := some k13c1 }
/-- jdk/internal/util/Preconditions -/
def k13 : Class := { plain "jdk/internal/util/Preconditions" (some 0) with
  accessFlags := 33
  interfaces := #[]
  cf := some (fileOf pool13 24 #[.nestMembers #[55, 131, 125, 114]] #[{ accessFlags := 1, nameIndex := 5, descriptorIndex := 6, attributes := #[] }, { accessFlags := 9, nameIndex := 47, descriptorIndex := 183, attributes := #[] }] 33 2 #[] #[{ accessFlags := 25, nameIndex := 123, descriptorIndex := 124, attributes := #[] }, { accessFlags := 25, nameIndex := 130, descriptorIndex := 124, attributes := #[] }, { accessFlags := 25, nameIndex := 136, descriptorIndex := 124, attributes := #[] }])
  fields := #[{ name := "SIOOBE_FORMATTER", type := (.object "java/util/function/BiFunction"), accessFlags := 25, slot := 0, constantValue := 0 }, { name := "AIOOBE_FORMATTER", type := (.object "java/util/function/BiFunction"), accessFlags := 25, slot := 1, constantValue := 0 }, { name := "IOOBE_FORMATTER", type := (.object "java/util/function/BiFunction"), accessFlags := 25, slot := 2, constantValue := 0 }]
  methods := #[k13m0, k13m1]
  instanceTypes := #[]
  staticTypes := #[(.object "java/util/function/BiFunction"), (.object "java/util/function/BiFunction"), (.object "java/util/function/BiFunction")]
  resolved := Array.replicate 194 none
  statics := some 2 }

def pool14 : Array CpInfo := pool [(9, u "<init>"), (6, .class_ 18), (1, u "java/lang/Object"), (0, u "()V"), (1, .class_ 23), (1, u "jdk/internal/util/ArraysSupport"), (0, u "LOG2_ARRAY_LONG_INDEX_SCALE"), (0, u "I"), (2, u "U"), (0, u "Ljdk/internal/misc/Unsafe;"), (8, u "BIG_ENDIAN"), (0, u "Z"), (8, u "LOG2_BYTE_BIT_SIZE"), (4, u "LOG2_ARRAY_INT_INDEX_SCALE"), (54, u "JLA"), (0, u "Ljdk/internal/access/JavaLangAccess;"), (11, u "LOG2_ARRAY_BOOLEAN_INDEX_SCALE"), (9, u "LOG2_ARRAY_BYTE_INDEX_SCALE"), (5, u "LOG2_ARRAY_CHAR_INDEX_SCALE"), (5, u "LOG2_ARRAY_SHORT_INDEX_SCALE"), (18, u "LOG2_ARRAY_FLOAT_INDEX_SCALE"), (24, u "LOG2_ARRAY_DOUBLE_INDEX_SCALE"), (89, u "T_BOOLEAN"), (2, u "T_CHAR"), (1, u "T_FLOAT"), (1, u "T_DOUBLE"), (1, u "T_BYTE"), (1, u "T_SHORT"), (1, u "T_INT"), (1, u "T_LONG"), (1, u "SOFT_MAX_ARRAY_LENGTH")] 83

def k14m0 : Method := { name := "<init>", desc := "()V", sig := { parameters := [], returnType := none }, accessFlags := 2, code := none }
/-- jdk/internal/util/ArraysSupport -/
def k14 : Class := { plain "jdk/internal/util/ArraysSupport" (some 0) with
  accessFlags := 33
  interfaces := #[]
  cf := some (fileOf pool14 21 #[] #[{ accessFlags := 2, nameIndex := 9, descriptorIndex := 19, attributes := #[] }] 33 16 #[] #[{ accessFlags := 24, nameIndex := 28, descriptorIndex := 29, attributes := #[] }, { accessFlags := 26, nameIndex := 38, descriptorIndex := 39, attributes := #[] }, { accessFlags := 25, nameIndex := 121, descriptorIndex := 25, attributes := #[] }, { accessFlags := 25, nameIndex := 131, descriptorIndex := 25, attributes := #[] }, { accessFlags := 25, nameIndex := 137, descriptorIndex := 25, attributes := #[] }, { accessFlags := 25, nameIndex := 143, descriptorIndex := 25, attributes := #[] }, { accessFlags := 25, nameIndex := 53, descriptorIndex := 25, attributes := #[] }, { accessFlags := 25, nameIndex := 24, descriptorIndex := 25, attributes := #[] }, { accessFlags := 25, nameIndex := 162, descriptorIndex := 25, attributes := #[] }, { accessFlags := 25, nameIndex := 187, descriptorIndex := 25, attributes := #[] }, { accessFlags := 26, nameIndex := 48, descriptorIndex := 25, attributes := #[] }, { accessFlags := 25, nameIndex := 277, descriptorIndex := 25, attributes := #[] }, { accessFlags := 25, nameIndex := 280, descriptorIndex := 25, attributes := #[] }, { accessFlags := 25, nameIndex := 282, descriptorIndex := 25, attributes := #[] }, { accessFlags := 25, nameIndex := 284, descriptorIndex := 25, attributes := #[] }, { accessFlags := 25, nameIndex := 286, descriptorIndex := 25, attributes := #[] }, { accessFlags := 25, nameIndex := 288, descriptorIndex := 25, attributes := #[] }, { accessFlags := 25, nameIndex := 290, descriptorIndex := 25, attributes := #[] }, { accessFlags := 25, nameIndex := 292, descriptorIndex := 25, attributes := #[] }, { accessFlags := 26, nameIndex := 108, descriptorIndex := 109, attributes := #[] }, { accessFlags := 25, nameIndex := 294, descriptorIndex := 25, attributes := #[] }])
  fields := #[{ name := "U", type := (.object "jdk/internal/misc/Unsafe"), accessFlags := 24, slot := 0, constantValue := 0 }, { name := "BIG_ENDIAN", type := .boolean, accessFlags := 26, slot := 1, constantValue := 0 }, { name := "LOG2_ARRAY_BOOLEAN_INDEX_SCALE", type := .int, accessFlags := 25, slot := 2, constantValue := 0 }, { name := "LOG2_ARRAY_BYTE_INDEX_SCALE", type := .int, accessFlags := 25, slot := 3, constantValue := 0 }, { name := "LOG2_ARRAY_CHAR_INDEX_SCALE", type := .int, accessFlags := 25, slot := 4, constantValue := 0 }, { name := "LOG2_ARRAY_SHORT_INDEX_SCALE", type := .int, accessFlags := 25, slot := 5, constantValue := 0 }, { name := "LOG2_ARRAY_INT_INDEX_SCALE", type := .int, accessFlags := 25, slot := 6, constantValue := 0 }, { name := "LOG2_ARRAY_LONG_INDEX_SCALE", type := .int, accessFlags := 25, slot := 7, constantValue := 0 }, { name := "LOG2_ARRAY_FLOAT_INDEX_SCALE", type := .int, accessFlags := 25, slot := 8, constantValue := 0 }, { name := "LOG2_ARRAY_DOUBLE_INDEX_SCALE", type := .int, accessFlags := 25, slot := 9, constantValue := 0 }, { name := "LOG2_BYTE_BIT_SIZE", type := .int, accessFlags := 26, slot := 10, constantValue := 0 }, { name := "T_BOOLEAN", type := .int, accessFlags := 25, slot := 11, constantValue := 0 }, { name := "T_CHAR", type := .int, accessFlags := 25, slot := 12, constantValue := 0 }, { name := "T_FLOAT", type := .int, accessFlags := 25, slot := 13, constantValue := 0 }, { name := "T_DOUBLE", type := .int, accessFlags := 25, slot := 14, constantValue := 0 }, { name := "T_BYTE", type := .int, accessFlags := 25, slot := 15, constantValue := 0 }, { name := "T_SHORT", type := .int, accessFlags := 25, slot := 16, constantValue := 0 }, { name := "T_INT", type := .int, accessFlags := 25, slot := 17, constantValue := 0 }, { name := "T_LONG", type := .int, accessFlags := 25, slot := 18, constantValue := 0 }, { name := "JLA", type := (.object "jdk/internal/access/JavaLangAccess"), accessFlags := 26, slot := 19, constantValue := 0 }, { name := "SOFT_MAX_ARRAY_LENGTH", type := .int, accessFlags := 25, slot := 20, constantValue := 0 }]
  methods := #[k14m0]
  instanceTypes := #[]
  staticTypes := #[(.object "jdk/internal/misc/Unsafe"), .boolean, .int, .int, .int, .int, .int, .int, .int, .int, .int, .int, .int, .int, .int, .int, .int, .int, .int, (.object "jdk/internal/access/JavaLangAccess"), .int]
  resolved := Array.replicate 378 none
  statics := none }

def pool15 : Array CpInfo := pool [(1, u "java/lang/Cloneable"), (0, .class_ 1), (0, u "java/lang/Object"), (0, .class_ 3)] 3

/-- java/lang/Cloneable -/
def k15 : Class := { plain "java/lang/Cloneable" (some 0) with
  accessFlags := 1537
  interfaces := #[]
  cf := some (fileOf pool15 2 #[] #[] 1537 4 #[] #[])
  fields := #[]
  methods := #[]
  instanceTypes := #[]
  staticTypes := #[]
  resolved := Array.replicate 8 none
  statics := none }

/-- the primitive byte -/
def k16 : Class := { plain "byte" none with kind := .primitive 'B', accessFlags := 0x411 }
/-- [B -/
def k17 : Class := { plain "[B" (some 0) with kind := .array 16 .byte, interfaces := #[15, 3], accessFlags := 1041 }

/-- the primitive int -/
def k18 : Class := { plain "int" none with kind := .primitive 'I', accessFlags := 0x411 }
/-- [I -/
def k19 : Class := { plain "[I" (some 0) with kind := .array 18 .int, interfaces := #[15, 3], accessFlags := 1041 }

def heap : Heap := #[{ cls := 8, slots := #[.long 0, .int 1, .null, .int 0, .null, .int 0, .int 0], vm := .statics 8 },
  { cls := 12, slots := #[.int 0, .int 8, .int 0, .int 1], vm := .statics 12 },
  { cls := 13, slots := #[.null, .null, .null], vm := .statics 13 }]
def classes : Array Class := #[k0, k1, k2, k3, k4, k5, k6, k7, k8, k9, k10, k11, k12, k13, k14, k15, k16, k17, k18, k19]
def interned : List (Array UInt16 × Addr) := []
def slotsUsed : Nat := 14
def theMethod : MethodId := ⟨1, 1⟩
def args0 : Array Value := #[.int 5]
def aboutOver (below : List Frame) : State where
  vm := { classes := classes, interned := interned.toArray }
  heap := heap
  slotsUsed := slotsUsed
  threads := #[{ frames := .invoking theMethod args0 :: below }]
def below0 : List Frame := [.native { method := ⟨0, 0⟩, args := #[] }]
def about1 : State := aboutOver below0
def p0 : Program := .bare "" "" ""
def e0 : Env := launch0.env 0 0 0
theorem w_frames : about1.frames = Frame.invoking theMethod args0 :: below0 := rfl
set_option maxRecDepth 65536 in
theorem w_args : argsFit about1.vm theMethod args0 = true := by decide +kernel
set_option maxRecDepth 65536 in
theorem w_heap : heapFits about1 = true := by decide +kernel
set_option maxRecDepth 65536 in
theorem w_runnable : about1.curStatus? = some .runnable := by decide +kernel
set_option maxRecDepth 65536 in
theorem w_alone : about1.alone = true := by decide +kernel
set_option maxRecDepth 65536 in
theorem w_named : about1.methodNamed? x = some theMethod := by decide +kernel
set_option maxRecDepth 65536 in
theorem w_hears : about1.hears theMethod below0 = true := by decide +kernel
set_option maxRecDepth 65536 in
theorem w_ripe : about1.ripe theMethod args0 below0 = true := by decide +kernel
theorem w_running : about1.status = .running := rfl
set_option maxRecDepth 65536 in
theorem w_room : about1.hasRoom e0.platform room_1 = true :=
  launch0.hasRoom_least _ room_1 (by decide +kernel) (by decide +kernel) (by decide +kernel) (by decide +kernel) (by decide +kernel) (by decide +kernel)
theorem allAtoms_all (ts : List Jvm.Cond) (a : Array Jvm.Value) (st : Jvm.State) : (allAtoms ts).before a st = ts.all (fun c => c.before a st) := by
  induction ts with
  | nil => rfl
  | cons c t ih =>
    show (Jvm.Cond.and c (allAtoms t)).before a st = _
    rw [Jvm.Cond.before_and, ih, List.all_cons]
def words1 : List Jvm.Cond := Jvm.Cond.code x code maxLocals ret :: tables_1
/-- a 'code' word, met by the world's own term for the bytes: nothing is compared byte by byte -/
theorem code_word {y : MethodName} {bytes : ByteArray} {mx : Nat} {rt : Option FieldType} {a : Array Value} {s : State} {m : MethodId} {meth : Method} {c : Code} (h1 : s.methodNamed? y = some m) (h2 : s.vm.method? m = some meth) (h3 : meth.code = some c) (h4 : c.code = bytes)
    (h5 : (c.maxLocals == mx && c.exceptionTable.isEmpty && decide (c.maxStack ≤ mostOperands) && decide (meth.sig.returnType = rt) && !meth.locks && decide (parseMethodDescriptor y.desc = some meth.sig)) = true) : (Jvm.Cond.code y bytes mx rt).before a s = true := by
  simp only [Bool.and_eq_true, beq_iff_eq, Bool.not_eq_true', decide_eq_true_eq] at h5
  obtain ⟨⟨⟨⟨⟨g1, g2⟩, g3⟩, g4⟩, g5⟩, g6⟩ := h5
  simp [Cond.before, Cond.holds, Cond.value, h1, h2, h3, h4, g1, g2, g3, g4, g5, g6]
def isCode : Jvm.Cond → Bool
  | .code _ _ _ _ => true
  | _ => false
theorem all_split {L : List Jvm.Cond} {P : Jvm.Cond → Bool} (h1 : L.all (fun c => isCode c || P c) = true) (h2 : ∀ c ∈ L.filter isCode, P c = true) : L.all P = true := by
  refine List.all_eq_true.mpr fun c hc => ?_
  have h := List.all_eq_true.mp h1 c hc
  rcases Bool.eq_false_or_eq_true (isCode c) with hi | hi
  · exact h2 c (List.mem_filter.mpr ⟨hc, hi⟩)
  · simpa [hi] using h
set_option maxRecDepth 65536 in
theorem w_c0 : (Jvm.Cond.code x code maxLocals ret).before args0 about1 = true := code_word (m := ⟨1, 1⟩) (meth := k1m1) (c := k1c1) (by decide +kernel) rfl rfl rfl (by decide +kernel)
set_option maxRecDepth 65536 in
theorem w_c1 : (Jvm.Cond.code ({ cls := "com/example/dogwood/dogwood/model/yaml/Lines", name := "isBreak", desc := "(C)Z" } : Jvm.MethodName) prog_16_method_4_code (1 : Nat) (Option.some Jvm.ClassFile.FieldType.boolean)).before args0 about1 = true := code_word (m := ⟨2, 1⟩) (meth := k2m1) (c := k2c1) (by decide +kernel) rfl rfl rfl (by decide +kernel)
set_option maxRecDepth 65536 in
theorem w_c2 : (Jvm.Cond.code ({ cls := "java/lang/String", name := "valueOf", desc := "(C)Ljava/lang/String;" } : Jvm.MethodName) jdk_42_method_139_code (1 : Nat) (Option.some (Jvm.ClassFile.FieldType.object "java/lang/String"))).before args0 about1 = true := code_word (m := ⟨8, 3⟩) (meth := k8m3) (c := k8c3) (by decide +kernel) rfl rfl rfl (by decide +kernel)
set_option maxRecDepth 65536 in
theorem w_c3 : (Jvm.Cond.code ({ cls := "java/lang/StringLatin1", name := "canEncode", desc := "(C)Z" } : Jvm.MethodName) jdk_43_method_3_code (1 : Nat) (Option.some Jvm.ClassFile.FieldType.boolean)).before args0 about1 = true := code_word (m := ⟨9, 1⟩) (meth := k9m1) (c := k9c1) (by decide +kernel) rfl rfl rfl (by decide +kernel)
set_option maxRecDepth 65536 in
theorem w_c4 : (Jvm.Cond.code ({ cls := "java/lang/StringLatin1", name := "toBytes", desc := "(C)[B" } : Jvm.MethodName) jdk_43_method_46_code (1 : Nat) (Option.some (Jvm.ClassFile.FieldType.array Jvm.ClassFile.FieldType.byte))).before args0 about1 = true := code_word (m := ⟨9, 5⟩) (meth := k9m5) (c := k9c5) (by decide +kernel) rfl rfl rfl (by decide +kernel)
set_option maxRecDepth 65536 in
theorem w_c5 : (Jvm.Cond.code ({ cls := "java/lang/String", name := "<init>", desc := "([BB)V" } : Jvm.MethodName) jdk_42_method_151_code (3 : Nat) (Option.none : Option Jvm.ClassFile.FieldType)).before args0 about1 = true := code_word (m := ⟨8, 4⟩) (meth := k8m4) (c := k8c4) (by decide +kernel) rfl rfl rfl (by decide +kernel)
set_option maxRecDepth 65536 in
theorem w_c6 : (Jvm.Cond.code ({ cls := "java/lang/Object", name := "<init>", desc := "()V" } : Jvm.MethodName) object_method_1_code (1 : Nat) (Option.none : Option Jvm.ClassFile.FieldType)).before args0 about1 = true := code_word (m := ⟨0, 0⟩) (meth := k0m0) (c := k0c0) (by decide +kernel) rfl rfl rfl (by decide +kernel)
set_option maxRecDepth 65536 in
theorem w_c7 : (Jvm.Cond.code ({ cls := "com/example/dogwood/dogwood/model/yaml/Occurrences", name := "<init>", desc := "(Ljava/lang/String;C)V" } : Jvm.MethodName) prog_19_method_1_code (3 : Nat) (Option.none : Option Jvm.ClassFile.FieldType)).before args0 about1 = true := code_word (m := ⟨10, 0⟩) (meth := k10m0) (c := k10c0) (by decide +kernel) rfl rfl rfl (by decide +kernel)
set_option maxRecDepth 65536 in
theorem w_c8 : (Jvm.Cond.code ({ cls := "com/example/dogwood/dogwood/model/yaml/Lines", name := "end", desc := "(Ljava/lang/String;ILcom/example/dogwood/dogwood/model/yaml/Occurrences;Lcom/example/dogwood/dogwood/model/yaml/Occurrences;)I" } : Jvm.MethodName) prog_16_method_6_code (6 : Nat) (Option.some Jvm.ClassFile.FieldType.int)).before args0 about1 = true := code_word (m := ⟨2, 2⟩) (meth := k2m2) (c := k2c2) (by decide +kernel) rfl rfl rfl (by decide +kernel)
set_option maxRecDepth 65536 in
theorem w_c9 : (Jvm.Cond.code ({ cls := "com/example/dogwood/dogwood/model/yaml/Occurrences", name := "from", desc := "(I)I" } : Jvm.MethodName) prog_19_method_2_code (2 : Nat) (Option.some Jvm.ClassFile.FieldType.int)).before args0 about1 = true := code_word (m := ⟨10, 1⟩) (meth := k10m1) (c := k10c1) (by decide +kernel) rfl rfl rfl (by decide +kernel)
set_option maxRecDepth 65536 in
theorem w_c10 : (Jvm.Cond.code ({ cls := "java/lang/String", name := "indexOf", desc := "(II)I" } : Jvm.MethodName) jdk_42_method_80_code (3 : Nat) (Option.some Jvm.ClassFile.FieldType.int)).before args0 about1 = true := code_word (m := ⟨8, 2⟩) (meth := k8m2) (c := k8c2) (by decide +kernel) rfl rfl rfl (by decide +kernel)
set_option maxRecDepth 65536 in
theorem w_c11 : (Jvm.Cond.code ({ cls := "java/lang/String", name := "isLatin1", desc := "()Z" } : Jvm.MethodName) jdk_42_method_154_code (1 : Nat) (Option.some Jvm.ClassFile.FieldType.boolean)).before args0 about1 = true := code_word (m := ⟨8, 6⟩) (meth := k8m6) (c := k8c6) (by decide +kernel) rfl rfl rfl (by decide +kernel)
set_option maxRecDepth 65536 in
theorem w_c12 : (Jvm.Cond.code ({ cls := "java/lang/String", name := "length", desc := "()I" } : Jvm.MethodName) jdk_42_method_54_code (1 : Nat) (Option.some Jvm.ClassFile.FieldType.int)).before args0 about1 = true := code_word (m := ⟨8, 1⟩) (meth := k8m1) (c := k8c1) (by decide +kernel) rfl rfl rfl (by decide +kernel)
set_option maxRecDepth 65536 in
theorem w_c13 : (Jvm.Cond.code ({ cls := "java/lang/String", name := "coder", desc := "()B" } : Jvm.MethodName) jdk_42_method_152_code (1 : Nat) (Option.some Jvm.ClassFile.FieldType.byte)).before args0 about1 = true := code_word (m := ⟨8, 5⟩) (meth := k8m5) (c := k8c5) (by decide +kernel) rfl rfl rfl (by decide +kernel)
set_option maxRecDepth 65536 in
theorem w_c14 : (Jvm.Cond.code ({ cls := "java/lang/StringLatin1", name := "indexOf", desc := "([BIII)I" } : Jvm.MethodName) jdk_43_method_22_code (4 : Nat) (Option.some Jvm.ClassFile.FieldType.int)).before args0 about1 = true := code_word (m := ⟨9, 3⟩) (meth := k9m3) (c := k9c3) (by decide +kernel) rfl rfl rfl (by decide +kernel)
set_option maxRecDepth 65536 in
theorem w_c15 : (Jvm.Cond.code ({ cls := "java/lang/StringLatin1", name := "canEncode", desc := "(I)Z" } : Jvm.MethodName) jdk_43_method_4_code (1 : Nat) (Option.some Jvm.ClassFile.FieldType.boolean)).before args0 about1 = true := code_word (m := ⟨9, 2⟩) (meth := k9m2) (c := k9c2) (by decide +kernel) rfl rfl rfl (by decide +kernel)
set_option maxRecDepth 65536 in
theorem w_c16 : (Jvm.Cond.code ({ cls := "java/lang/Math", name := "max", desc := "(II)I" } : Jvm.MethodName) jdk_29_method_65_code (2 : Nat) (Option.some Jvm.ClassFile.FieldType.int)).before args0 about1 = true := code_word (m := ⟨11, 1⟩) (meth := k11m1) (c := k11c1) (by decide +kernel) rfl rfl rfl (by decide +kernel)
set_option maxRecDepth 65536 in
theorem w_c17 : (Jvm.Cond.code ({ cls := "java/lang/Math", name := "min", desc := "(II)I" } : Jvm.MethodName) jdk_29_method_69_code (2 : Nat) (Option.some Jvm.ClassFile.FieldType.int)).before args0 about1 = true := code_word (m := ⟨11, 2⟩) (meth := k11m2) (c := k11c2) (by decide +kernel) rfl rfl rfl (by decide +kernel)
set_option maxRecDepth 65536 in
theorem w_c18 : (Jvm.Cond.code ({ cls := "java/lang/StringLatin1", name := "indexOfChar", desc := "([BIII)I" } : Jvm.MethodName) jdk_43_method_23_code (6 : Nat) (Option.some Jvm.ClassFile.FieldType.int)).before args0 about1 = true := code_word (m := ⟨9, 4⟩) (meth := k9m4) (c := k9c4) (by decide +kernel) rfl rfl rfl (by decide +kernel)
set_option maxRecDepth 65536 in
theorem w_c19 : (Jvm.Cond.code ({ cls := "java/lang/StringUTF16", name := "toBytes", desc := "(C)[B" } : Jvm.MethodName) jdk_52_method_24_code (2 : Nat) (Option.some (Jvm.ClassFile.FieldType.array Jvm.ClassFile.FieldType.byte))).before args0 about1 = true := code_word (m := ⟨12, 4⟩) (meth := k12m4) (c := k12c4) (by decide +kernel) rfl rfl rfl (by decide +kernel)
set_option maxRecDepth 65536 in
theorem w_c20 : (Jvm.Cond.code ({ cls := "java/lang/StringUTF16", name := "putChar", desc := "([BII)V" } : Jvm.MethodName) jdk_52_method_4_code (3 : Nat) (Option.none : Option Jvm.ClassFile.FieldType)).before args0 about1 = true := code_word (m := ⟨12, 1⟩) (meth := k12m1) (c := k12c1) (by decide +kernel) rfl rfl rfl (by decide +kernel)
set_option maxRecDepth 65536 in
theorem w_c21 : (Jvm.Cond.code ({ cls := "java/lang/StringUTF16", name := "indexOf", desc := "([BIII)I" } : Jvm.MethodName) jdk_52_method_40_code (4 : Nat) (Option.some Jvm.ClassFile.FieldType.int)).before args0 about1 = true := code_word (m := ⟨12, 5⟩) (meth := k12m5) (c := k12c5) (by decide +kernel) rfl rfl rfl (by decide +kernel)
set_option maxRecDepth 65536 in
theorem w_c22 : (Jvm.Cond.code ({ cls := "java/lang/StringUTF16", name := "indexOfChar", desc := "([BIII)I" } : Jvm.MethodName) jdk_52_method_47_code (4 : Nat) (Option.some Jvm.ClassFile.FieldType.int)).before args0 about1 = true := code_word (m := ⟨12, 6⟩) (meth := k12m6) (c := k12c6) (by decide +kernel) rfl rfl rfl (by decide +kernel)
set_option maxRecDepth 65536 in
theorem w_c23 : (Jvm.Cond.code ({ cls := "java/lang/StringUTF16", name := "checkBoundsBeginEnd", desc := "(II[B)V" } : Jvm.MethodName) jdk_52_method_93_code (3 : Nat) (Option.none : Option Jvm.ClassFile.FieldType)).before args0 about1 = true := code_word (m := ⟨12, 8⟩) (meth := k12m8) (c := k12c8) (by decide +kernel) rfl rfl rfl (by decide +kernel)
set_option maxRecDepth 65536 in
theorem w_c24 : (Jvm.Cond.code ({ cls := "java/lang/StringUTF16", name := "length", desc := "([B)I" } : Jvm.MethodName) jdk_52_method_6_code (1 : Nat) (Option.some Jvm.ClassFile.FieldType.int)).before args0 about1 = true := code_word (m := ⟨12, 3⟩) (meth := k12m3) (c := k12c3) (by decide +kernel) rfl rfl rfl (by decide +kernel)
set_option maxRecDepth 65536 in
theorem w_c25 : (Jvm.Cond.code ({ cls := "java/lang/String", name := "checkBoundsBeginEnd", desc := "(III)V" } : Jvm.MethodName) jdk_42_method_158_code (3 : Nat) (Option.none : Option Jvm.ClassFile.FieldType)).before args0 about1 = true := code_word (m := ⟨8, 7⟩) (meth := k8m7) (c := k8c7) (by decide +kernel) rfl rfl rfl (by decide +kernel)
set_option maxRecDepth 65536 in
theorem w_c26 : (Jvm.Cond.code ({ cls := "jdk/internal/util/Preconditions", name := "checkFromToIndex", desc := "(IIILjava/util/function/BiFunction;)I" } : Jvm.MethodName) jdk_41_method_12_code (4 : Nat) (Option.some Jvm.ClassFile.FieldType.int)).before args0 about1 = true := code_word (m := ⟨13, 1⟩) (meth := k13m1) (c := k13c1) (by decide +kernel) rfl rfl rfl (by decide +kernel)
set_option maxRecDepth 65536 in
theorem w_c27 : (Jvm.Cond.code ({ cls := "java/lang/StringUTF16", name := "indexOfCharUnsafe", desc := "([BIII)I" } : Jvm.MethodName) jdk_52_method_48_code (5 : Nat) (Option.some Jvm.ClassFile.FieldType.int)).before args0 about1 = true := code_word (m := ⟨12, 7⟩) (meth := k12m7) (c := k12c7) (by decide +kernel) rfl rfl rfl (by decide +kernel)
set_option maxRecDepth 65536 in
theorem w_c28 : (Jvm.Cond.code ({ cls := "java/lang/StringUTF16", name := "getChar", desc := "([BI)C" } : Jvm.MethodName) jdk_52_method_5_code (2 : Nat) (Option.some Jvm.ClassFile.FieldType.char)).before args0 about1 = true := code_word (m := ⟨12, 2⟩) (meth := k12m2) (c := k12c2) (by decide +kernel) rfl rfl rfl (by decide +kernel)
def codes1 : List Jvm.Cond := [Jvm.Cond.code x code maxLocals ret, Jvm.Cond.code ({ cls := "com/example/dogwood/dogwood/model/yaml/Lines", name := "isBreak", desc := "(C)Z" } : Jvm.MethodName) prog_16_method_4_code (1 : Nat) (Option.some Jvm.ClassFile.FieldType.boolean), Jvm.Cond.code ({ cls := "java/lang/String", name := "valueOf", desc := "(C)Ljava/lang/String;" } : Jvm.MethodName) jdk_42_method_139_code (1 : Nat) (Option.some (Jvm.ClassFile.FieldType.object "java/lang/String")), Jvm.Cond.code ({ cls := "java/lang/StringLatin1", name := "canEncode", desc := "(C)Z" } : Jvm.MethodName) jdk_43_method_3_code (1 : Nat) (Option.some Jvm.ClassFile.FieldType.boolean), Jvm.Cond.code ({ cls := "java/lang/StringLatin1", name := "toBytes", desc := "(C)[B" } : Jvm.MethodName) jdk_43_method_46_code (1 : Nat) (Option.some (Jvm.ClassFile.FieldType.array Jvm.ClassFile.FieldType.byte)), Jvm.Cond.code ({ cls := "java/lang/String", name := "<init>", desc := "([BB)V" } : Jvm.MethodName) jdk_42_method_151_code (3 : Nat) (Option.none : Option Jvm.ClassFile.FieldType), Jvm.Cond.code ({ cls := "java/lang/Object", name := "<init>", desc := "()V" } : Jvm.MethodName) object_method_1_code (1 : Nat) (Option.none : Option Jvm.ClassFile.FieldType), Jvm.Cond.code ({ cls := "com/example/dogwood/dogwood/model/yaml/Occurrences", name := "<init>", desc := "(Ljava/lang/String;C)V" } : Jvm.MethodName) prog_19_method_1_code (3 : Nat) (Option.none : Option Jvm.ClassFile.FieldType), Jvm.Cond.code ({ cls := "com/example/dogwood/dogwood/model/yaml/Lines", name := "end", desc := "(Ljava/lang/String;ILcom/example/dogwood/dogwood/model/yaml/Occurrences;Lcom/example/dogwood/dogwood/model/yaml/Occurrences;)I" } : Jvm.MethodName) prog_16_method_6_code (6 : Nat) (Option.some Jvm.ClassFile.FieldType.int), Jvm.Cond.code ({ cls := "com/example/dogwood/dogwood/model/yaml/Occurrences", name := "from", desc := "(I)I" } : Jvm.MethodName) prog_19_method_2_code (2 : Nat) (Option.some Jvm.ClassFile.FieldType.int), Jvm.Cond.code ({ cls := "java/lang/String", name := "indexOf", desc := "(II)I" } : Jvm.MethodName) jdk_42_method_80_code (3 : Nat) (Option.some Jvm.ClassFile.FieldType.int), Jvm.Cond.code ({ cls := "java/lang/String", name := "isLatin1", desc := "()Z" } : Jvm.MethodName) jdk_42_method_154_code (1 : Nat) (Option.some Jvm.ClassFile.FieldType.boolean), Jvm.Cond.code ({ cls := "java/lang/String", name := "length", desc := "()I" } : Jvm.MethodName) jdk_42_method_54_code (1 : Nat) (Option.some Jvm.ClassFile.FieldType.int), Jvm.Cond.code ({ cls := "java/lang/String", name := "coder", desc := "()B" } : Jvm.MethodName) jdk_42_method_152_code (1 : Nat) (Option.some Jvm.ClassFile.FieldType.byte), Jvm.Cond.code ({ cls := "java/lang/StringLatin1", name := "indexOf", desc := "([BIII)I" } : Jvm.MethodName) jdk_43_method_22_code (4 : Nat) (Option.some Jvm.ClassFile.FieldType.int), Jvm.Cond.code ({ cls := "java/lang/StringLatin1", name := "canEncode", desc := "(I)Z" } : Jvm.MethodName) jdk_43_method_4_code (1 : Nat) (Option.some Jvm.ClassFile.FieldType.boolean), Jvm.Cond.code ({ cls := "java/lang/Math", name := "max", desc := "(II)I" } : Jvm.MethodName) jdk_29_method_65_code (2 : Nat) (Option.some Jvm.ClassFile.FieldType.int), Jvm.Cond.code ({ cls := "java/lang/Math", name := "min", desc := "(II)I" } : Jvm.MethodName) jdk_29_method_69_code (2 : Nat) (Option.some Jvm.ClassFile.FieldType.int), Jvm.Cond.code ({ cls := "java/lang/StringLatin1", name := "indexOfChar", desc := "([BIII)I" } : Jvm.MethodName) jdk_43_method_23_code (6 : Nat) (Option.some Jvm.ClassFile.FieldType.int), Jvm.Cond.code ({ cls := "java/lang/StringUTF16", name := "toBytes", desc := "(C)[B" } : Jvm.MethodName) jdk_52_method_24_code (2 : Nat) (Option.some (Jvm.ClassFile.FieldType.array Jvm.ClassFile.FieldType.byte)), Jvm.Cond.code ({ cls := "java/lang/StringUTF16", name := "putChar", desc := "([BII)V" } : Jvm.MethodName) jdk_52_method_4_code (3 : Nat) (Option.none : Option Jvm.ClassFile.FieldType), Jvm.Cond.code ({ cls := "java/lang/StringUTF16", name := "indexOf", desc := "([BIII)I" } : Jvm.MethodName) jdk_52_method_40_code (4 : Nat) (Option.some Jvm.ClassFile.FieldType.int), Jvm.Cond.code ({ cls := "java/lang/StringUTF16", name := "indexOfChar", desc := "([BIII)I" } : Jvm.MethodName) jdk_52_method_47_code (4 : Nat) (Option.some Jvm.ClassFile.FieldType.int), Jvm.Cond.code ({ cls := "java/lang/StringUTF16", name := "checkBoundsBeginEnd", desc := "(II[B)V" } : Jvm.MethodName) jdk_52_method_93_code (3 : Nat) (Option.none : Option Jvm.ClassFile.FieldType), Jvm.Cond.code ({ cls := "java/lang/StringUTF16", name := "length", desc := "([B)I" } : Jvm.MethodName) jdk_52_method_6_code (1 : Nat) (Option.some Jvm.ClassFile.FieldType.int), Jvm.Cond.code ({ cls := "java/lang/String", name := "checkBoundsBeginEnd", desc := "(III)V" } : Jvm.MethodName) jdk_42_method_158_code (3 : Nat) (Option.none : Option Jvm.ClassFile.FieldType), Jvm.Cond.code ({ cls := "jdk/internal/util/Preconditions", name := "checkFromToIndex", desc := "(IIILjava/util/function/BiFunction;)I" } : Jvm.MethodName) jdk_41_method_12_code (4 : Nat) (Option.some Jvm.ClassFile.FieldType.int), Jvm.Cond.code ({ cls := "java/lang/StringUTF16", name := "indexOfCharUnsafe", desc := "([BIII)I" } : Jvm.MethodName) jdk_52_method_48_code (5 : Nat) (Option.some Jvm.ClassFile.FieldType.int), Jvm.Cond.code ({ cls := "java/lang/StringUTF16", name := "getChar", desc := "([BI)C" } : Jvm.MethodName) jdk_52_method_5_code (2 : Nat) (Option.some Jvm.ClassFile.FieldType.char)]
set_option maxRecDepth 65536 in
theorem codes_eq : words1.filter isCode = codes1 := rfl
theorem w_codes : ∀ c ∈ words1.filter isCode, c.before args0 about1 = true := by
  rw [codes_eq]
  intro c hc
  simp only [codes1, List.mem_cons, List.not_mem_nil, or_false] at hc
  rcases hc with rfl | rfl | rfl | rfl | rfl | rfl | rfl | rfl | rfl | rfl | rfl | rfl | rfl | rfl | rfl | rfl | rfl | rfl | rfl | rfl | rfl | rfl | rfl | rfl | rfl | rfl | rfl | rfl | rfl
  · exact w_c0
  · exact w_c1
  · exact w_c2
  · exact w_c3
  · exact w_c4
  · exact w_c5
  · exact w_c6
  · exact w_c7
  · exact w_c8
  · exact w_c9
  · exact w_c10
  · exact w_c11
  · exact w_c12
  · exact w_c13
  · exact w_c14
  · exact w_c15
  · exact w_c16
  · exact w_c17
  · exact w_c18
  · exact w_c19
  · exact w_c20
  · exact w_c21
  · exact w_c22
  · exact w_c23
  · exact w_c24
  · exact w_c25
  · exact w_c26
  · exact w_c27
  · exact w_c28
set_option maxRecDepth 65536 in
theorem w_t1 : (words1.take 24).all (fun c => isCode c || c.before args0 about1) = true := by decide +kernel
set_option maxRecDepth 65536 in
theorem w_t2 : ((words1.drop 24).take 24).all (fun c => isCode c || c.before args0 about1) = true := by decide +kernel
set_option maxRecDepth 65536 in
theorem w_t3 : (((words1.drop 24).drop 24).take 24).all (fun c => isCode c || c.before args0 about1) = true := by decide +kernel
set_option maxRecDepth 65536 in
theorem w_t4 : ((((words1.drop 24).drop 24).drop 24).take 24).all (fun c => isCode c || c.before args0 about1) = true := by decide +kernel
set_option maxRecDepth 65536 in
theorem w_t5 : (((((words1.drop 24).drop 24).drop 24).drop 24).take 24).all (fun c => isCode c || c.before args0 about1) = true := by decide +kernel
set_option maxRecDepth 65536 in
theorem w_t6 : (((((words1.drop 24).drop 24).drop 24).drop 24).drop 24).all (fun c => isCode c || c.before args0 about1) = true := by decide +kernel
theorem w_tables : (allAtoms (Jvm.Cond.code x code maxLocals ret :: tables_1)).before args0 about1 = true := by
  rw [allAtoms_all]
  show words1.all (fun c => c.before args0 about1) = true
  refine all_split ?_ w_codes
  rw [← List.take_append_drop 24 words1, List.all_append, w_t1, ← List.take_append_drop 24 (words1.drop 24), List.all_append, w_t2, ← List.take_append_drop 24 ((words1.drop 24).drop 24), List.all_append, w_t3, ← List.take_append_drop 24 (((words1.drop 24).drop 24).drop 24), List.all_append, w_t4, ← List.take_append_drop 24 ((((words1.drop 24).drop 24).drop 24).drop 24), List.all_append, w_t5, w_t6]
  rfl
set_option maxRecDepth 65536 in
theorem w_rest : rest_1_c.before args0 about1 = true := by decide +kernel
set_option maxRecDepth 65536 in
theorem w_case : (Jvm.Cond.and given_1 narrow_1).before args0 about1 = true := by decide +kernel
theorem w_applies : (headSpec (Jvm.Cond.code x code maxLocals ret :: tables_1) room_1).applies x e0.platform about1 = true :=
  (Spec.applies_iff w_frames).mpr ⟨w_running, w_runnable, w_alone, w_named, w_hears, w_ripe, w_room, w_tables⟩
theorem atStart : AtStart classFile x code maxLocals ret World_1 tables_1 room_1 Calls_1 rest_1 Pre_1 launch0 p0 e0 about1 theMethod args0 below0 :=
  ⟨lists_1, trivial, launch0.admits_env _ _ _, launch0.least_env, fairChoices_fair.cas, fairChoices_fair.clock, w_frames, w_args, w_heap, w_applies, trivial, w_rest, w_case⟩
end start1
theorem witness_1 : WitnessClaimed_1 := ⟨start1.p0, start1.e0, start1.about1, start1.theMethod, start1.args0, start1.below0, start1.atStart⟩
end Jvm.Pilot.@@N@@
