import JvmDerived
import JvmDerived.Pilot.@@N@@Statement
import JvmDerived.Pilot.@@N@@Code
set_option linter.unusedVariables false
set_option linter.unusedSimpArgs false
@@BLOCK:NumsL.lean.txt@@
namespace Jvm.Pilot.@@N@@
open Jvm Jvm.ClassFile Sem Op Lib Jvm.Free Jvm.Stand Jvm.LawKit Jvm.RoadKit Bundle Jvm.Pilot.@@N@@.Jvm.D
section Own
variable {p : Program} {l : Launch} {e : Env} {R : Room} {s : State} {m : MethodId} {args : Array Value} {below : List Frame} {meth : Method} {c : Code} {T : State} {locs : List Loc} {cells slots : Nat}
def Go (p : Program) (e : Env) (below : List Frame) (F : State → Outcome → Prop) (t : State) : Prop := ∃ s₂ o, Steps p.tables e below t s₂ ∧ F s₂ o
theorem Go.via {F : State → Outcome → Prop} {a b : State} (h : ∀ t, Steps p.tables e below b t → Steps p.tables e below a t) (g : Go p e below F b) : Go p e below F a := by
  obtain ⟨s₂, o, k, f⟩ := g
  exact ⟨s₂, o, h _ k, f⟩
theorem Go.tr {F : State → Outcome → Prop} {a b : State} (h : Steps p.tables e below a b) (g : Go p e below F b) : Go p e below F a := by
  obtain ⟨s₂, o, k, f⟩ := g
  exact ⟨s₂, o, h.trans k, f⟩
def FinE (s : State) (below : List Frame) (Q : Option Value → Heap → List Loc → Prop) (C S : Nat) (s₂ : State) (o : Outcome) : Prop := s₂.status = .running ∧ Ended s₂ below o ∧ ∃ v L, o = .returned v ∧ Q v s₂.heap L ∧ FrameEnd s o s₂ L C S
variable {Q : Option Value → Heap → List Loc → Prop} {C S : Nat}
theorem own_retN (X : Stand p l e R s m args below meth c T locs cells slots) (hx : p.tables.exec = Jvm.exec) (hlk : meth.locks = false) {pc : Nat} {Ls : Array Slot} {z : Int32} {t : FieldType} {rest : List Value} (hret : meth.sig.returnType = some t) (ht : t = .boolean ∨ t = .byte ∨ t = .char ∨ t = .short)
    (hd : decode c.code pc = .ok (.ireturn, 1)) (hQ : Q (some (.int (nar t z))) T.heap locs) (hc : cells ≤ C) (hs : slots ≤ S) : Go p e below (FinE s below Q C S) (T.setTop (mkF m pc Ls (.int z :: rest))) := by
  obtain ⟨fs, hr, hrun, hended, hW, hsame⟩ := X.leave (v := some (.int (nar t z))) (fun h => by rw [hret] at h; cases h) hlk
  exact ⟨_, _, retN X hx hret ht hd hr, hrun, hended, _, _, rfl, hQ, ⟨_, rfl⟩, hW, hsame.mono hc hs⟩
theorem own_retI (X : Stand p l e R s m args below meth c T locs cells slots) (hx : p.tables.exec = Jvm.exec) (hlk : meth.locks = false) {pc : Nat} {Ls : Array Slot} {z : Int32} {rest : List Value} (hret : meth.sig.returnType = some .int)
    (hd : decode c.code pc = .ok (.ireturn, 1)) (hQ : Q (some (.int z)) T.heap locs) (hc : cells ≤ C) (hs : slots ≤ S) : Go p e below (FinE s below Q C S) (T.setTop (mkF m pc Ls (.int z :: rest))) := by
  obtain ⟨fs, hr, hrun, hended, hW, hsame⟩ := X.leave (v := some (.int z)) (fun h => by rw [hret] at h; cases h) hlk
  refine ⟨T.setFrames fs, _, ?_, hrun, hended, _, _, rfl, hQ, ⟨_, rfl⟩, hW, hsame.mono hc hs⟩
  have hm' : T.vm.method? m = some meth := X.method'
  have hn : narrow .int (.int z) = .int z := rfl
  show Steps p.tables e below (T.setTop { method := m, pc := pc, locals := Ls, stack := _ :: rest, locked := none }) _
  jvm_step X.here [X.here.top, hx, hd, hm', hret, hn]
  first | (intro acts; rw [hr _ acts rfl rfl rfl]) | rw [hr _ _ rfl rfl rfl]
  exact Steps.refl _
theorem own_retA (X : Stand p l e R s m args below meth c T locs cells slots) (hx : p.tables.exec = Jvm.exec) (hlk : meth.locks = false) {pc : Nat} {Ls : Array Slot} {v : Value} {rest : List Value} {t : FieldType} (hret : meth.sig.returnType = some t) (ht : t.isReference = true) (hv : v.isRef = true)
    (hd : decode c.code pc = .ok (.areturn, 1)) (hQ : Q (some v) T.heap locs) (hc : cells ≤ C) (hs : slots ≤ S) : Go p e below (FinE s below Q C S) (T.setTop (mkF m pc Ls (v :: rest))) := by
  obtain ⟨fs, hr, hrun, hended, hW, hsame⟩ := X.leave (v := some v) (fun h => by rw [hret] at h; cases h) hlk
  refine ⟨T.setFrames fs, _, ?_, hrun, hended, _, _, rfl, hQ, ⟨_, rfl⟩, hW, hsame.mono hc hs⟩
  have hm' : T.vm.method? m = some meth := X.method'
  show Steps p.tables e below (T.setTop { method := m, pc := pc, locals := Ls, stack := _ :: rest, locked := none }) _
  jvm_step X.here [X.here.top, hx, hd, hm', hret, hv, ht]
  first | (intro acts; rw [hr _ acts rfl rfl rfl]) | rw [hr _ _ rfl rfl rfl]
  exact Steps.refl _
theorem own_retV (X : Stand p l e R s m args below meth c T locs cells slots) (hx : p.tables.exec = Jvm.exec) (hlk : meth.locks = false) {pc : Nat} {Ls : Array Slot} (hret : meth.sig.returnType = none)
    (hd : decode c.code pc = .ok (.return_, 1)) (hQ : Q none T.heap locs) (hc : cells ≤ C) (hs : slots ≤ S) : Go p e below (FinE s below Q C S) (T.setTop (mkF m pc Ls [])) := by
  obtain ⟨fs, hr, hrun, hended, hW, hsame⟩ := X.leave (v := none) (fun _ => rfl) hlk
  exact ⟨T.setFrames fs, _, X.returnOut hx hret hd hr, hrun, hended, _, _, rfl, hQ, ⟨_, rfl⟩, hW, hsame.mono hc hs⟩
def FinW (s : State) (below : List Frame) (Q : Option Value → Heap → List Loc → Prop) (C S : Nat) (s₂ : State) (o : Outcome) : Prop := s₂.status = .running ∧ Ended s₂ below o ∧ ∃ v L, o = .returned v ∧ Q v s₂.heap L ∧ ReturnedEndW s o s₂ L C S
theorem own_mono {s t : State} {o : Outcome} {L : List Loc} {k n k' n' : Nat} (h : ReturnedEndW s o t L k n) (hk : k ≤ k') (hn : n ≤ n') : ReturnedEndW s o t L k' n' := ⟨h.1, h.2.1, h.2.2.1, h.2.2.2.mono hk hn⟩
theorem own_retNW {vm₁ : Vm} {kk : Nat} (X : Stand p l e R (s.setVm vm₁) m args below meth c T locs cells slots) (hS : s.Since vm₁ kk) (hk : kk ≤ T.heap.size) (hx : p.tables.exec = Jvm.exec) (hlk : meth.locks = false) {pc : Nat} {Ls : Array Slot} {z : Int32} {t : FieldType} {rest : List Value} (hret : meth.sig.returnType = some t) (ht : t = .boolean ∨ t = .byte ∨ t = .char ∨ t = .short)
    (hd : decode c.code pc = .ok (.ireturn, 1)) (hQ : Q (some (.int (nar t z))) T.heap locs) (hc : cells ≤ C) (hs : slots ≤ S) : Go p e below (FinW s below Q C S) (T.setTop (mkF m pc Ls (.int z :: rest))) := by
  obtain ⟨fs, hr, hrun, hended, hW⟩ := X.leaveW hS hk (v := some (.int (nar t z))) (fun h => by rw [hret] at h; cases h) hlk
  exact ⟨_, _, retN X hx hret ht hd hr, hrun, hended, _, _, rfl, hQ, own_mono hW hc hs⟩
theorem own_retAW {vm₁ : Vm} {kk : Nat} (X : Stand p l e R (s.setVm vm₁) m args below meth c T locs cells slots) (hS : s.Since vm₁ kk) (hk : kk ≤ T.heap.size) (hx : p.tables.exec = Jvm.exec) (hlk : meth.locks = false) {pc : Nat} {Ls : Array Slot} {v : Value} {rest : List Value} {t : FieldType} (hret : meth.sig.returnType = some t) (ht : t.isReference = true) (hv : v.isRef = true)
    (hd : decode c.code pc = .ok (.areturn, 1)) (hQ : Q (some v) T.heap locs) (hc : cells ≤ C) (hs : slots ≤ S) : Go p e below (FinW s below Q C S) (T.setTop (mkF m pc Ls (v :: rest))) := by
  obtain ⟨fs, hr, hrun, hended, hW⟩ := X.leaveW hS hk (v := some v) (fun h => by rw [hret] at h; cases h) hlk
  refine ⟨T.setFrames fs, _, ?_, hrun, hended, _, _, rfl, hQ, own_mono hW hc hs⟩
  have hm' : T.vm.method? m = some meth := X.method'
  show Steps p.tables e below (T.setTop { method := m, pc := pc, locals := Ls, stack := _ :: rest, locked := none }) _
  jvm_step X.here [X.here.top, hx, hd, hm', hret, hv, ht]
  first | (intro acts; rw [hr _ acts rfl rfl rfl]) | rw [hr _ _ rfl rfl rfl]
  exact Steps.refl _
theorem own_retVW {vm₁ : Vm} {kk : Nat} (X : Stand p l e R (s.setVm vm₁) m args below meth c T locs cells slots) (hS : s.Since vm₁ kk) (hk : kk ≤ T.heap.size) (hx : p.tables.exec = Jvm.exec) (hlk : meth.locks = false) {pc : Nat} {Ls : Array Slot} (hret : meth.sig.returnType = none)
    (hd : decode c.code pc = .ok (.return_, 1)) (hQ : Q none T.heap locs) (hc : cells ≤ C) (hs : slots ≤ S) : Go p e below (FinW s below Q C S) (T.setTop (mkF m pc Ls [])) := by
  obtain ⟨fs, hr, hrun, hended, hW⟩ := X.leaveW hS hk (v := none) (fun _ => rfl) hlk
  exact ⟨T.setFrames fs, _, X.returnOut hx hret hd hr, hrun, hended, _, _, rfl, hQ, own_mono hW hc hs⟩
def FinH (Z : State) (EL : List (String × Nat)) (s : State) (below : List Frame) (Q : Option Value → Heap → List Loc → Prop) (C S : Nat) (s₂ : State) (o : Outcome) : Prop := s₂.status = .running ∧ Ended s₂ below o ∧ ∃ v L, o = .returned v ∧ Q v s₂.heap L ∧ CHr Z EL s.vm s.heap s₂.vm s₂.heap ∧ ReturnedEndW s o s₂ L C S
theorem own_retVH {Z : State} {EL : List (String × Nat)} {vm₁ : Vm} {kk : Nat} (X : Stand p l e R (s.setVm vm₁) m args below meth c T locs cells slots) (hS : s.Since vm₁ kk) (hk : kk ≤ T.heap.size) (hR : CHr Z EL s.vm s.heap T.vm T.heap) (hx : p.tables.exec = Jvm.exec) (hlk : meth.locks = false) {pc : Nat} {Ls : Array Slot} (hret : meth.sig.returnType = none)
    (hd : decode c.code pc = .ok (.return_, 1)) (hQ : Q none T.heap locs) (hc : cells ≤ C) (hs : slots ≤ S) : Go p e below (FinH Z EL s below Q C S) (T.setTop (mkF m pc Ls [])) := by
  obtain ⟨fs, hr, hrun, hended, hW⟩ := X.leaveW hS hk (v := none) (fun _ => rfl) hlk
  exact ⟨T.setFrames fs, _, X.returnOut hx hret hd hr, hrun, hended, _, _, rfl, hQ, hR, own_mono hW hc hs⟩
theorem own_retAH {Z : State} {EL : List (String × Nat)} {vm₁ : Vm} {kk : Nat} (X : Stand p l e R (s.setVm vm₁) m args below meth c T locs cells slots) (hS : s.Since vm₁ kk) (hk : kk ≤ T.heap.size) (hR : CHr Z EL s.vm s.heap T.vm T.heap) (hx : p.tables.exec = Jvm.exec) (hlk : meth.locks = false) {pc : Nat} {Ls : Array Slot} {v : Value} {rest : List Value} {t : FieldType} (hret : meth.sig.returnType = some t) (ht : t.isReference = true) (hv : v.isRef = true)
    (hd : decode c.code pc = .ok (.areturn, 1)) (hQ : Q (some v) T.heap locs) (hc : cells ≤ C) (hs : slots ≤ S) : Go p e below (FinH Z EL s below Q C S) (T.setTop (mkF m pc Ls (v :: rest))) := by
  obtain ⟨fs, hr, hrun, hended, hW⟩ := X.leaveW hS hk (v := some v) (fun h => by rw [hret] at h; cases h) hlk
  refine ⟨T.setFrames fs, _, ?_, hrun, hended, _, _, rfl, hQ, hR, own_mono hW hc hs⟩
  have hm' : T.vm.method? m = some meth := X.method'
  show Steps p.tables e below (T.setTop { method := m, pc := pc, locals := Ls, stack := _ :: rest, locked := none }) _
  jvm_step X.here [X.here.top, hx, hd, hm', hret, hv, ht]
  first | (intro acts; rw [hr _ acts rfl rfl rfl]) | rw [hr _ _ rfl rfl rfl]
  exact Steps.refl _
theorem own_retNH {Z : State} {EL : List (String × Nat)} {vm₁ : Vm} {kk : Nat} (X : Stand p l e R (s.setVm vm₁) m args below meth c T locs cells slots) (hS : s.Since vm₁ kk) (hk : kk ≤ T.heap.size) (hR : CHr Z EL s.vm s.heap T.vm T.heap) (hx : p.tables.exec = Jvm.exec) (hlk : meth.locks = false) {pc : Nat} {Ls : Array Slot} {z : Int32} {t : FieldType} {rest : List Value} (hret : meth.sig.returnType = some t) (ht : t = .boolean ∨ t = .byte ∨ t = .char ∨ t = .short)
    (hd : decode c.code pc = .ok (.ireturn, 1)) (hQ : Q (some (.int (nar t z))) T.heap locs) (hc : cells ≤ C) (hs : slots ≤ S) : Go p e below (FinH Z EL s below Q C S) (T.setTop (mkF m pc Ls (.int z :: rest))) := by
  obtain ⟨fs, hr, hrun, hended, hW⟩ := X.leaveW hS hk (v := some (.int (nar t z))) (fun h => by rw [hret] at h; cases h) hlk
  exact ⟨_, _, retN X hx hret ht hd hr, hrun, hended, _, _, rfl, hQ, hR, own_mono hW hc hs⟩
theorem own_cat {v : Value} (h : v.isRef = true) : v.category = 1 := by cases v <;> simp_all [Value.isRef, Value.category]
end Own
theorem ow {Z : State} {a0 : Array Value} (hw : ∀ d ∈ tables_1, d.before a0 Z = true) (i : Nat) {d : Jvm.Cond} (h : tables_1[i]? = some d) : d.before a0 Z = true := hw d (List.mem_of_getElem? h)
abbrev TW (Z : State) (a0 : Array Value) : Prop := ∀ d ∈ tables_1, d.before a0 Z = true
abbrev MF (l : Launch) (Z : State) (y : MethodName) (b : ByteArray) (k : Nat) (r : Option FieldType) (ws : List Jvm.Cond) (R : Room) (as' : Array Value) (h0 : Heap) (Q : Option Value → Heap → List Loc → Prop) : Prop := MetFree l y (head1 (Jvm.Cond.code y b k r :: ws) R) (fun a U => a = as' ∧ Z.Warmed39 U.vm ∧ U.heap = h0) (fun _ _ _ _ _ => True) (fun _ U o U' => ∃ v L, o = .returned v ∧ Q v U'.heap L ∧ FrameEnd U o U' L R.cells R.slots)
abbrev rmm (f c s k : Nat) : Room := { frames := f, cells := c, slots := s, locals := k }
theorem d9_0 : decode jdk_2055_method_4_code 0 = .ok (.aload_n 0, 1) := by decide +kernel
theorem d9_1 : decode jdk_2055_method_4_code 1 = .ok (.getfield 7, 3) := by decide +kernel
theorem d9_4 : decode jdk_2055_method_4_code 4 = .ok (.ireturn, 1) := by decide +kernel
theorem pn_java_lang_Boolean : plainName "java/lang/Boolean" = true := by first | (simp [plainName, overriddenIn]; done) | decide +kernel
theorem d8_0 : decode jdk_2055_method_5_code 0 = .ok (.iload_n 0, 1) := by decide +kernel
theorem d8_1 : decode jdk_2055_method_5_code 1 = .ok (.ifCond .eq 9, 3) := by decide +kernel
theorem d8_10 : decode jdk_2055_method_5_code 10 = .ok (.getstatic 31, 3) := by decide +kernel
theorem d8_13 : decode jdk_2055_method_5_code 13 = .ok (.areturn, 1) := by decide +kernel
theorem d8_4 : decode jdk_2055_method_5_code 4 = .ok (.getstatic 27, 3) := by decide +kernel
theorem d8_7 : decode jdk_2055_method_5_code 7 = .ok (.goto 6, 3) := by decide +kernel
theorem d2_0 : decode jdk_2055_method_11_code 0 = .ok (.aload_n 1, 1) := by decide +kernel
theorem d2_1 : decode jdk_2055_method_11_code 1 = .ok (.instanceof 8, 3) := by decide +kernel
theorem d2_4 : decode jdk_2055_method_11_code 4 = .ok (.ifCond .eq 23, 3) := by decide +kernel
theorem d2_27 : decode jdk_2055_method_11_code 27 = .ok (.iconst 0, 1) := by decide +kernel
theorem d2_28 : decode jdk_2055_method_11_code 28 = .ok (.ireturn, 1) := by decide +kernel
theorem d2_7 : decode jdk_2055_method_11_code 7 = .ok (.aload_n 0, 1) := by decide +kernel
theorem d2_8 : decode jdk_2055_method_11_code 8 = .ok (.getfield 7, 3) := by decide +kernel
theorem d2_11 : decode jdk_2055_method_11_code 11 = .ok (.aload_n 1, 1) := by decide +kernel
theorem d2_12 : decode jdk_2055_method_11_code 12 = .ok (.checkcast 8, 3) := by decide +kernel
theorem d2_15 : decode jdk_2055_method_11_code 15 = .ok (.invokevirtual 42, 3) := by decide +kernel
theorem pd_0 : parseMethodDescriptor "()Z" = some ⟨[], some .boolean⟩ := by decide +kernel
theorem d2_18 : decode jdk_2055_method_11_code 18 = .ok (.if_icmp .ne 7, 3) := by decide +kernel
theorem d2_25 : decode jdk_2055_method_11_code 25 = .ok (.iconst 0, 1) := by decide +kernel
theorem d2_26 : decode jdk_2055_method_11_code 26 = .ok (.ireturn, 1) := by decide +kernel
theorem d2_21 : decode jdk_2055_method_11_code 21 = .ok (.iconst 1, 1) := by decide +kernel
theorem d2_22 : decode jdk_2055_method_11_code 22 = .ok (.goto 4, 3) := by decide +kernel
theorem d16_0 : decode jdk_43_method_13_code 0 = .ok (.aload_n 0, 1) := by decide +kernel
theorem d16_1 : decode jdk_43_method_13_code 1 = .ok (.arraylength, 1) := by decide +kernel
theorem d16_2 : decode jdk_43_method_13_code 2 = .ok (.aload_n 1, 1) := by decide +kernel
theorem d16_3 : decode jdk_43_method_13_code 3 = .ok (.arraylength, 1) := by decide +kernel
theorem d16_4 : decode jdk_43_method_13_code 4 = .ok (.if_icmp .ne 30, 3) := by decide +kernel
theorem d16_34 : decode jdk_43_method_13_code 34 = .ok (.iconst 0, 1) := by decide +kernel
theorem d16_35 : decode jdk_43_method_13_code 35 = .ok (.ireturn, 1) := by decide +kernel
theorem pn_java_lang_StringLatin1 : plainName "java/lang/StringLatin1" = true := by first | (simp [plainName, overriddenIn]; done) | decide +kernel
theorem d16_7 : decode jdk_43_method_13_code 7 = .ok (.iconst 0, 1) := by decide +kernel
theorem d16_8 : decode jdk_43_method_13_code 8 = .ok (.istore_n 2, 1) := by decide +kernel
theorem d16_9 : decode jdk_43_method_13_code 9 = .ok (.iload_n 2, 1) := by decide +kernel
theorem d16_10 : decode jdk_43_method_13_code 10 = .ok (.aload_n 0, 1) := by decide +kernel
theorem d16_11 : decode jdk_43_method_13_code 11 = .ok (.arraylength, 1) := by decide +kernel
theorem d16_12 : decode jdk_43_method_13_code 12 = .ok (.if_icmp .ge 20, 3) := by decide +kernel
theorem d16_15 : decode jdk_43_method_13_code 15 = .ok (.aload_n 0, 1) := by decide +kernel
theorem d16_16 : decode jdk_43_method_13_code 16 = .ok (.iload_n 2, 1) := by decide +kernel
theorem d16_17 : decode jdk_43_method_13_code 17 = .ok (.baload, 1) := by decide +kernel
theorem d16_18 : decode jdk_43_method_13_code 18 = .ok (.aload_n 1, 1) := by decide +kernel
theorem d16_19 : decode jdk_43_method_13_code 19 = .ok (.iload_n 2, 1) := by decide +kernel
theorem d16_20 : decode jdk_43_method_13_code 20 = .ok (.baload, 1) := by decide +kernel
theorem d16_21 : decode jdk_43_method_13_code 21 = .ok (.if_icmp .eq 5, 3) := by decide +kernel
theorem d16_26 : decode jdk_43_method_13_code 26 = .ok (.iinc 2 1, 3) := by decide +kernel
theorem d16_29 : decode jdk_43_method_13_code 29 = .ok (.goto (-20), 3) := by decide +kernel
theorem d16_32 : decode jdk_43_method_13_code 32 = .ok (.iconst 1, 1) := by decide +kernel
theorem d16_33 : decode jdk_43_method_13_code 33 = .ok (.ireturn, 1) := by decide +kernel
theorem d16_24 : decode jdk_43_method_13_code 24 = .ok (.iconst 0, 1) := by decide +kernel
theorem d16_25 : decode jdk_43_method_13_code 25 = .ok (.ireturn, 1) := by decide +kernel
theorem d3_0 : decode jdk_42_method_66_code 0 = .ok (.aload_n 0, 1) := by decide +kernel
theorem d3_1 : decode jdk_42_method_66_code 1 = .ok (.aload_n 1, 1) := by decide +kernel
theorem d3_2 : decode jdk_42_method_66_code 2 = .ok (.if_acmp .ne 5, 3) := by decide +kernel
theorem d3_7 : decode jdk_42_method_66_code 7 = .ok (.aload_n 1, 1) := by decide +kernel
theorem d3_8 : decode jdk_42_method_66_code 8 = .ok (.instanceof 10, 3) := by decide +kernel
theorem d3_11 : decode jdk_42_method_66_code 11 = .ok (.ifCond .eq 43, 3) := by decide +kernel
theorem d3_54 : decode jdk_42_method_66_code 54 = .ok (.iconst 0, 1) := by decide +kernel
theorem d3_55 : decode jdk_42_method_66_code 55 = .ok (.ireturn, 1) := by decide +kernel
theorem pn_java_lang_String : plainName "java/lang/String" = true := by first | (simp [plainName, overriddenIn]; done) | decide +kernel
theorem d3_5 : decode jdk_42_method_66_code 5 = .ok (.iconst 1, 1) := by decide +kernel
theorem d3_6 : decode jdk_42_method_66_code 6 = .ok (.ireturn, 1) := by decide +kernel
theorem d3_14 : decode jdk_42_method_66_code 14 = .ok (.aload_n 1, 1) := by decide +kernel
theorem d3_15 : decode jdk_42_method_66_code 15 = .ok (.checkcast 10, 3) := by decide +kernel
theorem d3_18 : decode jdk_42_method_66_code 18 = .ok (.astore_n 2, 1) := by decide +kernel
theorem d3_19 : decode jdk_42_method_66_code 19 = .ok (.getstatic 38, 3) := by decide +kernel
theorem d3_22 : decode jdk_42_method_66_code 22 = .ok (.ifCond .eq 14, 3) := by decide +kernel
theorem d3_25 : decode jdk_42_method_66_code 25 = .ok (.aload_n 0, 1) := by decide +kernel
theorem d3_26 : decode jdk_42_method_66_code 26 = .ok (.getfield 15, 3) := by decide +kernel
theorem d3_29 : decode jdk_42_method_66_code 29 = .ok (.aload_n 2, 1) := by decide +kernel
theorem d3_30 : decode jdk_42_method_66_code 30 = .ok (.getfield 15, 3) := by decide +kernel
theorem d3_33 : decode jdk_42_method_66_code 33 = .ok (.if_icmp .ne 21, 3) := by decide +kernel
theorem d3_36 : decode jdk_42_method_66_code 36 = .ok (.aload_n 0, 1) := by decide +kernel
theorem d3_37 : decode jdk_42_method_66_code 37 = .ok (.getfield 9, 3) := by decide +kernel
theorem d3_40 : decode jdk_42_method_66_code 40 = .ok (.aload_n 2, 1) := by decide +kernel
theorem d3_41 : decode jdk_42_method_66_code 41 = .ok (.getfield 9, 3) := by decide +kernel
theorem d3_44 : decode jdk_42_method_66_code 44 = .ok (.invokestatic 541, 3) := by decide +kernel
theorem pd_1 : parseMethodDescriptor "([B[B)Z" = some ⟨[(.array .byte), (.array .byte)], some .boolean⟩ := by decide +kernel
theorem d3_47 : decode jdk_42_method_66_code 47 = .ok (.ifCond .eq 7, 3) := by decide +kernel
theorem d3_50 : decode jdk_42_method_66_code 50 = .ok (.iconst 1, 1) := by decide +kernel
theorem d3_51 : decode jdk_42_method_66_code 51 = .ok (.goto 4, 3) := by decide +kernel
theorem d1_0 : decode prog_11_method_7_code 0 = .ok (.getstatic 68, 3) := by decide +kernel
theorem d1_3 : decode prog_11_method_7_code 3 = .ok (.aload_n 0, 1) := by decide +kernel
theorem d1_4 : decode prog_11_method_7_code 4 = .ok (.invokevirtual 74, 3) := by decide +kernel
theorem pd_2 : parseMethodDescriptor "(Ljava/lang/Object;)Z" = some ⟨[(.object "java/lang/Object")], some .boolean⟩ := by decide +kernel
theorem d1_7 : decode prog_11_method_7_code 7 = .ok (.ifCond .ne 12, 3) := by decide +kernel
theorem d1_10 : decode prog_11_method_7_code 10 = .ok (.ldc 78, 2) := by decide +kernel
theorem d1_12 : decode prog_11_method_7_code 12 = .ok (.aload_n 0, 1) := by decide +kernel
theorem d1_13 : decode prog_11_method_7_code 13 = .ok (.invokevirtual 80, 3) := by decide +kernel
theorem d1_16 : decode prog_11_method_7_code 16 = .ok (.ifCond .eq 7, 3) := by decide +kernel
theorem d1_23 : decode prog_11_method_7_code 23 = .ok (.iconst 0, 1) := by decide +kernel
theorem d1_24 : decode prog_11_method_7_code 24 = .ok (.ireturn, 1) := by decide +kernel
theorem pn_com_example_sluice_sluice_expression_Values : plainName "com/example/sluice/sluice/expression/Values" = true := by first | (simp [plainName, overriddenIn]; done) | decide +kernel
theorem d1_19 : decode prog_11_method_7_code 19 = .ok (.iconst 1, 1) := by decide +kernel
theorem d1_20 : decode prog_11_method_7_code 20 = .ok (.goto 4, 3) := by decide +kernel
theorem d6_0 : decode jdk_18_method_1_code 0 = .ok (.aload_n 0, 1) := by decide +kernel
theorem d6_1 : decode jdk_18_method_1_code 1 = .ok (.invokespecial 1, 3) := by decide +kernel
theorem d6_4 : decode jdk_18_method_1_code 4 = .ok (.return_, 1) := by decide +kernel
theorem pn_java_lang_Number : plainName "java/lang/Number" = true := by first | (simp [plainName, overriddenIn]; done) | decide +kernel
theorem d5_0 : decode jdk_35_method_26_code 0 = .ok (.aload_n 0, 1) := by decide +kernel
theorem d5_1 : decode jdk_35_method_26_code 1 = .ok (.invokespecial 270, 3) := by decide +kernel
theorem pd_3 : parseMethodDescriptor "()V" = some ⟨[], none⟩ := by decide +kernel
theorem d5_4 : decode jdk_35_method_26_code 4 = .ok (.aload_n 0, 1) := by decide +kernel
theorem d5_5 : decode jdk_35_method_26_code 5 = .ok (.lload_n 1, 1) := by decide +kernel
theorem d5_6 : decode jdk_35_method_26_code 6 = .ok (.putfield 273, 3) := by decide +kernel
theorem d5_9 : decode jdk_35_method_26_code 9 = .ok (.return_, 1) := by decide +kernel
theorem pn_java_lang_Long : plainName "java/lang/Long" = true := by first | (simp [plainName, overriddenIn]; done) | decide +kernel
theorem d4_0 : decode jdk_35_method_24_code 0 = .ok (.sipush 128, 3) := by decide +kernel
theorem d4_3 : decode jdk_35_method_24_code 3 = .ok (.istore_n 2, 1) := by decide +kernel
theorem d4_4 : decode jdk_35_method_24_code 4 = .ok (.lload_n 0, 1) := by decide +kernel
theorem d4_5 : decode jdk_35_method_24_code 5 = .ok (.ldc2_w 230, 3) := by decide +kernel
theorem d4_8 : decode jdk_35_method_24_code 8 = .ok (.lcmp, 1) := by decide +kernel
theorem d4_9 : decode jdk_35_method_24_code 9 = .ok (.ifCond .lt 22, 3) := by decide +kernel
theorem d4_31 : decode jdk_35_method_24_code 31 = .ok (.new 1, 3) := by decide +kernel
theorem d4_34 : decode jdk_35_method_24_code 34 = .ok (.dup, 1) := by decide +kernel
theorem d4_35 : decode jdk_35_method_24_code 35 = .ok (.lload_n 0, 1) := by decide +kernel
theorem d4_36 : decode jdk_35_method_24_code 36 = .ok (.invokespecial 240, 3) := by decide +kernel
theorem pd_4 : parseMethodDescriptor "(J)V" = some ⟨[.long], none⟩ := by decide +kernel
theorem d4_39 : decode jdk_35_method_24_code 39 = .ok (.areturn, 1) := by decide +kernel
theorem d4_12 : decode jdk_35_method_24_code 12 = .ok (.lload_n 0, 1) := by decide +kernel
theorem d4_13 : decode jdk_35_method_24_code 13 = .ok (.ldc2_w 232, 3) := by decide +kernel
theorem d4_16 : decode jdk_35_method_24_code 16 = .ok (.lcmp, 1) := by decide +kernel
theorem d4_17 : decode jdk_35_method_24_code 17 = .ok (.ifCond .gt 14, 3) := by decide +kernel
theorem d4_20 : decode jdk_35_method_24_code 20 = .ok (.getstatic 234, 3) := by decide +kernel
theorem d4_23 : decode jdk_35_method_24_code 23 = .ok (.lload_n 0, 1) := by decide +kernel
theorem d4_24 : decode jdk_35_method_24_code 24 = .ok (.l2i, 1) := by decide +kernel
theorem d4_25 : decode jdk_35_method_24_code 25 = .ok (.sipush 128, 3) := by decide +kernel
theorem d4_28 : decode jdk_35_method_24_code 28 = .ok (.iadd, 1) := by decide +kernel
theorem d4_29 : decode jdk_35_method_24_code 29 = .ok (.aaload, 1) := by decide +kernel
theorem d4_30 : decode jdk_35_method_24_code 30 = .ok (.areturn, 1) := by decide +kernel
theorem d12_0 : decode jdk_42_method_149_code 0 = .ok (.aload_n 0, 1) := by decide +kernel
theorem d12_1 : decode jdk_42_method_149_code 1 = .ok (.invokespecial 1, 3) := by decide +kernel
theorem d12_4 : decode jdk_42_method_149_code 4 = .ok (.iload_n 3, 1) := by decide +kernel
theorem d12_5 : decode jdk_42_method_149_code 5 = .ok (.ifCond .ne 22, 3) := by decide +kernel
theorem d12_8 : decode jdk_42_method_149_code 8 = .ok (.aload_n 0, 1) := by decide +kernel
theorem d12_9 : decode jdk_42_method_149_code 9 = .ok (.ldc 7, 2) := by decide +kernel
theorem d12_11 : decode jdk_42_method_149_code 11 = .ok (.getfield 9, 3) := by decide +kernel
theorem d12_14 : decode jdk_42_method_149_code 14 = .ok (.putfield 9, 3) := by decide +kernel
theorem d12_17 : decode jdk_42_method_149_code 17 = .ok (.aload_n 0, 1) := by decide +kernel
theorem d12_18 : decode jdk_42_method_149_code 18 = .ok (.ldc 7, 2) := by decide +kernel
theorem d12_20 : decode jdk_42_method_149_code 20 = .ok (.getfield 15, 3) := by decide +kernel
theorem d12_23 : decode jdk_42_method_149_code 23 = .ok (.putfield 15, 3) := by decide +kernel
theorem d12_26 : decode jdk_42_method_149_code 26 = .ok (.return_, 1) := by decide +kernel
theorem d11_0 : decode jdk_42_method_3_code 0 = .ok (.aload_n 0, 1) := by decide +kernel
theorem d11_1 : decode jdk_42_method_3_code 1 = .ok (.aload_n 1, 1) := by decide +kernel
theorem d11_2 : decode jdk_42_method_3_code 2 = .ok (.iconst 0, 1) := by decide +kernel
theorem d11_3 : decode jdk_42_method_3_code 3 = .ok (.aload_n 1, 1) := by decide +kernel
theorem d11_4 : decode jdk_42_method_3_code 4 = .ok (.arraylength, 1) := by decide +kernel
theorem d11_5 : decode jdk_42_method_3_code 5 = .ok (.aconst_null, 1) := by decide +kernel
theorem d11_6 : decode jdk_42_method_3_code 6 = .ok (.invokespecial 27, 3) := by decide +kernel
theorem pd_5 : parseMethodDescriptor "([CIILjava/lang/Void;)V" = some ⟨[(.array .char), .int, .int, (.object "java/lang/Void")], none⟩ := by decide +kernel
theorem d11_9 : decode jdk_42_method_3_code 9 = .ok (.return_, 1) := by decide +kernel
theorem d14_0 : decode jdk_52_method_21_code 0 = .ok (.iconst 0, 1) := by decide +kernel
theorem d14_1 : decode jdk_52_method_21_code 1 = .ok (.istore 5, 2) := by decide +kernel
theorem d14_3 : decode jdk_52_method_21_code 3 = .ok (.iload 5, 2) := by decide +kernel
theorem d14_5 : decode jdk_52_method_21_code 5 = .ok (.iload 4, 2) := by decide +kernel
theorem d14_7 : decode jdk_52_method_21_code 7 = .ok (.if_icmp .ge 37, 3) := by decide +kernel
theorem d14_10 : decode jdk_52_method_21_code 10 = .ok (.aload_n 0, 1) := by decide +kernel
theorem d14_11 : decode jdk_52_method_21_code 11 = .ok (.iload_n 1, 1) := by decide +kernel
theorem d14_12 : decode jdk_52_method_21_code 12 = .ok (.caload, 1) := by decide +kernel
theorem d14_13 : decode jdk_52_method_21_code 13 = .ok (.istore 6, 2) := by decide +kernel
theorem d14_15 : decode jdk_52_method_21_code 15 = .ok (.iload 6, 2) := by decide +kernel
theorem d14_17 : decode jdk_52_method_21_code 17 = .ok (.sipush 255, 3) := by decide +kernel
theorem d14_20 : decode jdk_52_method_21_code 20 = .ok (.if_icmp .le 6, 3) := by decide +kernel
theorem d14_26 : decode jdk_52_method_21_code 26 = .ok (.aload_n 2, 1) := by decide +kernel
theorem d14_27 : decode jdk_52_method_21_code 27 = .ok (.iload_n 3, 1) := by decide +kernel
theorem d14_28 : decode jdk_52_method_21_code 28 = .ok (.iload 6, 2) := by decide +kernel
theorem d14_30 : decode jdk_52_method_21_code 30 = .ok (.i2b, 1) := by decide +kernel
theorem d14_31 : decode jdk_52_method_21_code 31 = .ok (.bastore, 1) := by decide +kernel
theorem d14_32 : decode jdk_52_method_21_code 32 = .ok (.iinc 1 1, 3) := by decide +kernel
theorem d14_35 : decode jdk_52_method_21_code 35 = .ok (.iinc 3 1, 3) := by decide +kernel
theorem d14_38 : decode jdk_52_method_21_code 38 = .ok (.iinc 5 1, 3) := by decide +kernel
theorem d14_41 : decode jdk_52_method_21_code 41 = .ok (.goto (-38), 3) := by decide +kernel
theorem d14_44 : decode jdk_52_method_21_code 44 = .ok (.iload 4, 2) := by decide +kernel
theorem d14_46 : decode jdk_52_method_21_code 46 = .ok (.ireturn, 1) := by decide +kernel
theorem pn_java_lang_StringUTF16 : plainName "java/lang/StringUTF16" = true := by first | (simp [plainName, overriddenIn]; done) | decide +kernel
theorem d13_0 : decode jdk_52_method_16_code 0 = .ok (.iload_n 2, 1) := by decide +kernel
theorem d13_1 : decode jdk_52_method_16_code 1 = .ok (.newarray .byte, 2) := by decide +kernel
theorem d13_3 : decode jdk_52_method_16_code 3 = .ok (.astore_n 3, 1) := by decide +kernel
theorem d13_4 : decode jdk_52_method_16_code 4 = .ok (.aload_n 0, 1) := by decide +kernel
theorem d13_5 : decode jdk_52_method_16_code 5 = .ok (.iload_n 1, 1) := by decide +kernel
theorem d13_6 : decode jdk_52_method_16_code 6 = .ok (.aload_n 3, 1) := by decide +kernel
theorem d13_7 : decode jdk_52_method_16_code 7 = .ok (.iconst 0, 1) := by decide +kernel
theorem d13_8 : decode jdk_52_method_16_code 8 = .ok (.iload_n 2, 1) := by decide +kernel
theorem d13_9 : decode jdk_52_method_16_code 9 = .ok (.invokestatic 115, 3) := by decide +kernel
theorem pd_6 : parseMethodDescriptor "([CI[BII)I" = some ⟨[(.array .char), .int, (.array .byte), .int, .int], some .int⟩ := by decide +kernel
theorem d13_12 : decode jdk_52_method_16_code 12 = .ok (.istore 4, 2) := by decide +kernel
theorem d13_14 : decode jdk_52_method_16_code 14 = .ok (.iload 4, 2) := by decide +kernel
theorem d13_16 : decode jdk_52_method_16_code 16 = .ok (.iload_n 2, 1) := by decide +kernel
theorem d13_17 : decode jdk_52_method_16_code 17 = .ok (.if_icmp .eq 40, 3) := by decide +kernel
theorem d13_57 : decode jdk_52_method_16_code 57 = .ok (.aload_n 3, 1) := by decide +kernel
theorem d13_58 : decode jdk_52_method_16_code 58 = .ok (.areturn, 1) := by decide +kernel
theorem d15_0 : decode jdk_52_method_15_code 0 = .ok (.iload_n 1, 1) := by decide +kernel
theorem d15_1 : decode jdk_52_method_15_code 1 = .ok (.aload_n 0, 1) := by decide +kernel
theorem d15_2 : decode jdk_52_method_15_code 2 = .ok (.arraylength, 1) := by decide +kernel
theorem d15_3 : decode jdk_52_method_15_code 3 = .ok (.isub, 1) := by decide +kernel
theorem d15_4 : decode jdk_52_method_15_code 4 = .ok (.bipush 31, 2) := by decide +kernel
theorem d15_6 : decode jdk_52_method_15_code 6 = .ok (.iushr, 1) := by decide +kernel
theorem d15_7 : decode jdk_52_method_15_code 7 = .ok (.i2b, 1) := by decide +kernel
theorem d15_8 : decode jdk_52_method_15_code 8 = .ok (.ireturn, 1) := by decide +kernel
theorem d12_27 : decode jdk_42_method_149_code 27 = .ok (.getstatic 38, 3) := by decide +kernel
theorem d12_30 : decode jdk_42_method_149_code 30 = .ok (.ifCond .eq 28, 3) := by decide +kernel
theorem d12_33 : decode jdk_42_method_149_code 33 = .ok (.aload_n 1, 1) := by decide +kernel
theorem d12_34 : decode jdk_42_method_149_code 34 = .ok (.iload_n 2, 1) := by decide +kernel
theorem d12_35 : decode jdk_42_method_149_code 35 = .ok (.iload_n 3, 1) := by decide +kernel
theorem d12_36 : decode jdk_42_method_149_code 36 = .ok (.invokestatic 177, 3) := by decide +kernel
theorem pd_7 : parseMethodDescriptor "([CII)[B" = some ⟨[(.array .char), .int, .int], some (.array .byte)⟩ := by decide +kernel
theorem d12_39 : decode jdk_42_method_149_code 39 = .ok (.astore 5, 2) := by decide +kernel
theorem d12_41 : decode jdk_42_method_149_code 41 = .ok (.aload_n 0, 1) := by decide +kernel
theorem d12_42 : decode jdk_42_method_149_code 42 = .ok (.aload 5, 2) := by decide +kernel
theorem d12_44 : decode jdk_42_method_149_code 44 = .ok (.iload_n 3, 1) := by decide +kernel
theorem d12_45 : decode jdk_42_method_149_code 45 = .ok (.invokestatic 47, 3) := by decide +kernel
theorem pd_8 : parseMethodDescriptor "([BI)B" = some ⟨[(.array .byte), .int], some .byte⟩ := by decide +kernel
theorem d12_48 : decode jdk_42_method_149_code 48 = .ok (.putfield 15, 3) := by decide +kernel
theorem d12_51 : decode jdk_42_method_149_code 51 = .ok (.aload_n 0, 1) := by decide +kernel
theorem d12_52 : decode jdk_42_method_149_code 52 = .ok (.aload 5, 2) := by decide +kernel
theorem d12_54 : decode jdk_42_method_149_code 54 = .ok (.putfield 9, 3) := by decide +kernel
theorem d12_57 : decode jdk_42_method_149_code 57 = .ok (.return_, 1) := by decide +kernel
theorem d10_0 : decode method_3_code 0 = .ok (.iload_n 0, 1) := by decide +kernel
theorem d10_1 : decode method_3_code 1 = .ok (.ifCond .ne 14, 3) := by decide +kernel
theorem d10_4 : decode method_3_code 4 = .ok (.new 30, 3) := by decide +kernel
theorem d10_7 : decode method_3_code 7 = .ok (.dup, 1) := by decide +kernel
theorem d10_8 : decode method_3_code 8 = .ok (.iconst 0, 1) := by decide +kernel
theorem d10_9 : decode method_3_code 9 = .ok (.newarray .char, 2) := by decide +kernel
theorem d10_11 : decode method_3_code 11 = .ok (.invokespecial 32, 3) := by decide +kernel
theorem pd_9 : parseMethodDescriptor "([C)V" = some ⟨[(.array .char)], none⟩ := by decide +kernel
theorem d10_14 : decode method_3_code 14 = .ok (.areturn, 1) := by decide +kernel
theorem pn_com_example_sluice_sluice_expression_ValuesIsTruePinLaw : plainName "com/example/sluice/sluice/expression/ValuesIsTruePinLaw" = true := by first | (simp [plainName, overriddenIn]; done) | decide +kernel
theorem d10_15 : decode method_3_code 15 = .ok (.iload_n 0, 1) := by decide +kernel
theorem d10_16 : decode method_3_code 16 = .ok (.iconst 1, 1) := by decide +kernel
theorem d10_17 : decode method_3_code 17 = .ok (.if_icmp .ne 18, 3) := by decide +kernel
theorem d10_20 : decode method_3_code 20 = .ok (.new 30, 3) := by decide +kernel
theorem d10_23 : decode method_3_code 23 = .ok (.dup, 1) := by decide +kernel
theorem d10_24 : decode method_3_code 24 = .ok (.iconst 1, 1) := by decide +kernel
theorem d10_25 : decode method_3_code 25 = .ok (.newarray .char, 2) := by decide +kernel
theorem d10_27 : decode method_3_code 27 = .ok (.dup, 1) := by decide +kernel
theorem d10_28 : decode method_3_code 28 = .ok (.iconst 0, 1) := by decide +kernel
theorem d10_29 : decode method_3_code 29 = .ok (.iload_n 1, 1) := by decide +kernel
theorem d10_30 : decode method_3_code 30 = .ok (.castore, 1) := by decide +kernel
theorem d10_31 : decode method_3_code 31 = .ok (.invokespecial 32, 3) := by decide +kernel
theorem d10_34 : decode method_3_code 34 = .ok (.areturn, 1) := by decide +kernel
theorem d10_35 : decode method_3_code 35 = .ok (.iload_n 0, 1) := by decide +kernel
theorem d10_36 : decode method_3_code 36 = .ok (.iconst 2, 1) := by decide +kernel
theorem d10_37 : decode method_3_code 37 = .ok (.if_icmp .ne 22, 3) := by decide +kernel
theorem d10_40 : decode method_3_code 40 = .ok (.new 30, 3) := by decide +kernel
theorem d10_43 : decode method_3_code 43 = .ok (.dup, 1) := by decide +kernel
theorem d10_44 : decode method_3_code 44 = .ok (.iconst 2, 1) := by decide +kernel
theorem d10_45 : decode method_3_code 45 = .ok (.newarray .char, 2) := by decide +kernel
theorem d10_47 : decode method_3_code 47 = .ok (.dup, 1) := by decide +kernel
theorem d10_48 : decode method_3_code 48 = .ok (.iconst 0, 1) := by decide +kernel
theorem d10_49 : decode method_3_code 49 = .ok (.iload_n 1, 1) := by decide +kernel
theorem d10_50 : decode method_3_code 50 = .ok (.castore, 1) := by decide +kernel
theorem d10_51 : decode method_3_code 51 = .ok (.dup, 1) := by decide +kernel
theorem d10_52 : decode method_3_code 52 = .ok (.iconst 1, 1) := by decide +kernel
theorem d10_53 : decode method_3_code 53 = .ok (.iload_n 2, 1) := by decide +kernel
theorem d10_54 : decode method_3_code 54 = .ok (.castore, 1) := by decide +kernel
theorem d10_55 : decode method_3_code 55 = .ok (.invokespecial 32, 3) := by decide +kernel
theorem d10_58 : decode method_3_code 58 = .ok (.areturn, 1) := by decide +kernel
theorem d10_59 : decode method_3_code 59 = .ok (.iload_n 0, 1) := by decide +kernel
theorem d10_60 : decode method_3_code 60 = .ok (.iconst 3, 1) := by decide +kernel
theorem d10_61 : decode method_3_code 61 = .ok (.if_icmp .ne 26, 3) := by decide +kernel
theorem d10_64 : decode method_3_code 64 = .ok (.new 30, 3) := by decide +kernel
theorem d10_67 : decode method_3_code 67 = .ok (.dup, 1) := by decide +kernel
theorem d10_68 : decode method_3_code 68 = .ok (.iconst 3, 1) := by decide +kernel
theorem d10_69 : decode method_3_code 69 = .ok (.newarray .char, 2) := by decide +kernel
theorem d10_71 : decode method_3_code 71 = .ok (.dup, 1) := by decide +kernel
theorem d10_72 : decode method_3_code 72 = .ok (.iconst 0, 1) := by decide +kernel
theorem d10_73 : decode method_3_code 73 = .ok (.iload_n 1, 1) := by decide +kernel
theorem d10_74 : decode method_3_code 74 = .ok (.castore, 1) := by decide +kernel
theorem d10_75 : decode method_3_code 75 = .ok (.dup, 1) := by decide +kernel
theorem d10_76 : decode method_3_code 76 = .ok (.iconst 1, 1) := by decide +kernel
theorem d10_77 : decode method_3_code 77 = .ok (.iload_n 2, 1) := by decide +kernel
theorem d10_78 : decode method_3_code 78 = .ok (.castore, 1) := by decide +kernel
theorem d10_79 : decode method_3_code 79 = .ok (.dup, 1) := by decide +kernel
theorem d10_80 : decode method_3_code 80 = .ok (.iconst 2, 1) := by decide +kernel
theorem d10_81 : decode method_3_code 81 = .ok (.iload_n 3, 1) := by decide +kernel
theorem d10_82 : decode method_3_code 82 = .ok (.castore, 1) := by decide +kernel
theorem d10_83 : decode method_3_code 83 = .ok (.invokespecial 32, 3) := by decide +kernel
theorem d10_86 : decode method_3_code 86 = .ok (.areturn, 1) := by decide +kernel
theorem d10_87 : decode method_3_code 87 = .ok (.iload_n 0, 1) := by decide +kernel
theorem d10_88 : decode method_3_code 88 = .ok (.iconst 4, 1) := by decide +kernel
theorem d10_89 : decode method_3_code 89 = .ok (.if_icmp .ne 31, 3) := by decide +kernel
theorem d10_92 : decode method_3_code 92 = .ok (.new 30, 3) := by decide +kernel
theorem d10_95 : decode method_3_code 95 = .ok (.dup, 1) := by decide +kernel
theorem d10_96 : decode method_3_code 96 = .ok (.iconst 4, 1) := by decide +kernel
theorem d10_97 : decode method_3_code 97 = .ok (.newarray .char, 2) := by decide +kernel
theorem d10_99 : decode method_3_code 99 = .ok (.dup, 1) := by decide +kernel
theorem d10_100 : decode method_3_code 100 = .ok (.iconst 0, 1) := by decide +kernel
theorem d10_101 : decode method_3_code 101 = .ok (.iload_n 1, 1) := by decide +kernel
theorem d10_102 : decode method_3_code 102 = .ok (.castore, 1) := by decide +kernel
theorem d10_103 : decode method_3_code 103 = .ok (.dup, 1) := by decide +kernel
theorem d10_104 : decode method_3_code 104 = .ok (.iconst 1, 1) := by decide +kernel
theorem d10_105 : decode method_3_code 105 = .ok (.iload_n 2, 1) := by decide +kernel
theorem d10_106 : decode method_3_code 106 = .ok (.castore, 1) := by decide +kernel
theorem d10_107 : decode method_3_code 107 = .ok (.dup, 1) := by decide +kernel
theorem d10_108 : decode method_3_code 108 = .ok (.iconst 2, 1) := by decide +kernel
theorem d10_109 : decode method_3_code 109 = .ok (.iload_n 3, 1) := by decide +kernel
theorem d10_110 : decode method_3_code 110 = .ok (.castore, 1) := by decide +kernel
theorem d10_111 : decode method_3_code 111 = .ok (.dup, 1) := by decide +kernel
theorem d10_112 : decode method_3_code 112 = .ok (.iconst 3, 1) := by decide +kernel
theorem d10_113 : decode method_3_code 113 = .ok (.iload 4, 2) := by decide +kernel
theorem d10_115 : decode method_3_code 115 = .ok (.castore, 1) := by decide +kernel
theorem d10_116 : decode method_3_code 116 = .ok (.invokespecial 32, 3) := by decide +kernel
theorem d10_119 : decode method_3_code 119 = .ok (.areturn, 1) := by decide +kernel
theorem d10_120 : decode method_3_code 120 = .ok (.new 30, 3) := by decide +kernel
theorem d10_123 : decode method_3_code 123 = .ok (.dup, 1) := by decide +kernel
theorem d10_124 : decode method_3_code 124 = .ok (.iconst 5, 1) := by decide +kernel
theorem d10_125 : decode method_3_code 125 = .ok (.newarray .char, 2) := by decide +kernel
theorem d10_127 : decode method_3_code 127 = .ok (.dup, 1) := by decide +kernel
theorem d10_128 : decode method_3_code 128 = .ok (.iconst 0, 1) := by decide +kernel
theorem d10_129 : decode method_3_code 129 = .ok (.iload_n 1, 1) := by decide +kernel
theorem d10_130 : decode method_3_code 130 = .ok (.castore, 1) := by decide +kernel
theorem d10_131 : decode method_3_code 131 = .ok (.dup, 1) := by decide +kernel
theorem d10_132 : decode method_3_code 132 = .ok (.iconst 1, 1) := by decide +kernel
theorem d10_133 : decode method_3_code 133 = .ok (.iload_n 2, 1) := by decide +kernel
theorem d10_134 : decode method_3_code 134 = .ok (.castore, 1) := by decide +kernel
theorem d10_135 : decode method_3_code 135 = .ok (.dup, 1) := by decide +kernel
theorem d10_136 : decode method_3_code 136 = .ok (.iconst 2, 1) := by decide +kernel
theorem d10_137 : decode method_3_code 137 = .ok (.iload_n 3, 1) := by decide +kernel
theorem d10_138 : decode method_3_code 138 = .ok (.castore, 1) := by decide +kernel
theorem d10_139 : decode method_3_code 139 = .ok (.dup, 1) := by decide +kernel
theorem d10_140 : decode method_3_code 140 = .ok (.iconst 3, 1) := by decide +kernel
theorem d10_141 : decode method_3_code 141 = .ok (.iload 4, 2) := by decide +kernel
theorem d10_143 : decode method_3_code 143 = .ok (.castore, 1) := by decide +kernel
theorem d10_144 : decode method_3_code 144 = .ok (.dup, 1) := by decide +kernel
theorem d10_145 : decode method_3_code 145 = .ok (.iconst 4, 1) := by decide +kernel
theorem d10_146 : decode method_3_code 146 = .ok (.iload 5, 2) := by decide +kernel
theorem d10_148 : decode method_3_code 148 = .ok (.castore, 1) := by decide +kernel
theorem d10_149 : decode method_3_code 149 = .ok (.invokespecial 32, 3) := by decide +kernel
theorem d10_152 : decode method_3_code 152 = .ok (.areturn, 1) := by decide +kernel
theorem pd_10 : parseMethodDescriptor "(Z)Ljava/lang/Boolean;" = some ⟨[.boolean], some (.object "java/lang/Boolean")⟩ := by decide +kernel
theorem pd_11 : parseMethodDescriptor "(J)Ljava/lang/Long;" = some ⟨[.long], some (.object "java/lang/Long")⟩ := by decide +kernel
theorem pd_12 : parseMethodDescriptor "(ICCCCC)Ljava/lang/String;" = some ⟨[.int, .char, .char, .char, .char, .char], some (.object "java/lang/String")⟩ := by decide +kernel
theorem own_byteAnd (y : BitVec 32) : (BitVec.signExtend 32 (BitVec.signExtend 8 (BitVec.signExtend 32 (BitVec.signExtend 8 y))) &&& 255#32) = y &&& 255#32 := by
  apply BitVec.eq_of_getLsbD_eq
  intro i hi
  rw [BitVec.getLsbD_and, BitVec.getLsbD_and]
  have e : ∀ j, (255#32).getLsbD j = decide (j < 8) := by
    intro j
    rw [BitVec.getLsbD_ofNat]
    have : (255 : Nat) = 2 ^ 8 - 1 := by decide
    rw [this, Nat.testBit_two_pow_sub_one]
    by_cases q : j < 8
    · have : j < 32 := by omega
      simp [q, this]
    · simp [q]
  rw [e]
  by_cases q : i < 8
  · have q' : i < 32 := hi
    simp only [BitVec.getLsbD_signExtend, q, q', if_true, decide_true, Bool.true_and, Bool.and_true]
  · simp [q]
theorem own_u16bv (x : BitVec 32) (h : x.toNat < 65536) : ((((x.sshiftRight 0 &&& 255#32) <<< 0 ||| (x.sshiftRight 8 &&& 255#32) <<< 8)).setWidth 16).setWidth 32 = x := by
  have m : x.msb = false := by rw [BitVec.msb_eq_false_iff_two_mul_lt]; omega
  apply BitVec.eq_of_toNat_eq
  rw [BitVec.sshiftRight_eq_of_msb_false m, BitVec.sshiftRight_eq_of_msb_false m]
  simp only [BitVec.toNat_setWidth, BitVec.toNat_or, BitVec.toNat_and, BitVec.toNat_shiftLeft, BitVec.toNat_ushiftRight, BitVec.toNat_ofNat]
  have e1 : ∀ n : Nat, n &&& 255 % 2 ^ 32 = n % 256 := by
    intro n
    have : (255 % 2 ^ 32 : Nat) = 2 ^ 8 - 1 := by decide
    rw [this, Nat.and_two_pow_sub_one_eq_mod]
  simp only [e1, Nat.shiftLeft_zero, Nat.shiftRight_zero, Nat.shiftRight_eq_div_pow, Nat.shiftLeft_eq]
  generalize x.toNat = n at h
  have a1 : n / 2 ^ 0 % 256 * 2 ^ 0 % 2 ^ 32 = n % 256 := by omega
  have a2 : n / 2 ^ 8 % 256 * 2 ^ 8 % 2 ^ 32 = 2 ^ 8 * (n / 256) := by omega
  rw [a1, a2, Nat.or_comm, ← Nat.two_pow_add_eq_or_of_lt (by omega)]
  omega
theorem own_u16 (c : Int32) (h0 : ¬ c < 0) (h1 : ¬ (65535 : Int32) < c) : nar .char ((((((nar .byte (((c >>> ((0 : Int32) &&& 31)).toInt8.toInt32))) &&& (255 : Int32)) <<< ((0 : Int32) &&& 31)) ||| (((nar .byte (((c >>> ((8 : Int32) &&& 31)).toInt8.toInt32))) &&& (255 : Int32)) <<< ((8 : Int32) &&& 31))).toUInt32.toUInt16.toUInt32.toInt32)) = c := by
  have e0 : ((0 : Int32) &&& 31) = 0 := by decide
  have e8 : ((8 : Int32) &&& 31) = 8 := by decide
  have s0 : BitVec.smod (0 : Int32).toBitVec 32 = 0#32 := by decide
  have s8 : BitVec.smod (8 : Int32).toBitVec 32 = 8#32 := by decide
  have hn : c.toBitVec.toNat < 65536 := by
    rw [Int32.lt_iff_toInt_lt] at h0 h1
    have q0 : (0 : Int32).toInt = 0 := rfl
    have q1 : (65535 : Int32).toInt = 65535 := rfl
    have q2 : c.toInt = c.toBitVec.toInt := rfl
    have q3 := BitVec.toInt_eq_toNat_cond c.toBitVec
    have q4 := c.toBitVec.isLt
    split at q3 <;> omega
  apply Int32.toBitVec_inj.mp
  have k : (255 : Int32).toBitVec = 255#32 := rfl
  have r0 : (0#32).toNat = 0 := rfl
  have r8 : (8#32).toNat = 8 := rfl
  simp only [nar, e0, e8, UInt32.toBitVec_toInt32, Int32.toBitVec_toUInt32, UInt32.toBitVec_toUInt16, UInt16.toBitVec_toUInt32, Int32.toBitVec_or, Int32.toBitVec_and, Int32.toBitVec_shiftLeft, Int32.toBitVec_shiftRight, Int32.toBitVec_toInt8, Int8.toBitVec_toInt32, k]
  rw [s0, s8]
  simp only [BitVec.sshiftRight', BitVec.shiftLeft_eq', r0, r8]
  rw [own_byteAnd, own_byteAnd]
  have := own_u16bv c.toBitVec hn
  rw [this]
  apply BitVec.eq_of_toNat_eq
  simp only [BitVec.toNat_setWidth]
  omega
theorem own_small {c : Int32} (hn : c.toBitVec.toNat < 65536) : ¬ c < 0 ∧ ¬ (65535 : Int32) < c := by
  rw [Int32.lt_iff_toInt_lt, Int32.lt_iff_toInt_lt]
  have q0 : (0 : Int32).toInt = 0 := rfl
  have q1 : (65535 : Int32).toInt = 65535 := rfl
  have q2 : c.toInt = c.toBitVec.toInt := rfl
  have q3 := BitVec.toInt_eq_toNat_cond c.toBitVec
  split at q3 <;> omega
theorem own_i2c (z : Int32) : ¬ z.toUInt32.toUInt16.toUInt32.toInt32 < 0 ∧ ¬ (65535 : Int32) < z.toUInt32.toUInt16.toUInt32.toInt32 ∧ nar .char z.toUInt32.toUInt16.toUInt32.toInt32 = z.toUInt32.toUInt16.toUInt32.toInt32 := by
  have h : (z.toUInt32.toUInt16.toUInt32.toInt32).toBitVec.toNat < 65536 := by
    simp only [UInt32.toBitVec_toInt32, Int32.toBitVec_toUInt32, UInt32.toBitVec_toUInt16, UInt16.toBitVec_toUInt32, BitVec.toNat_setWidth]
    omega
  refine ⟨(own_small h).1, (own_small h).2, ?_⟩
  simp only [nar, UInt32.toUInt32_toInt32, UInt16.toUInt16_toUInt32]
theorem own_nch {z : Int32} (h0 : ¬ z < 0) (h1 : ¬ (65535 : Int32) < z) : nar .char z = z := by
  apply Int32.toBitVec_inj.mp
  have hn : z.toBitVec.toNat < 65536 := by
    rw [Int32.lt_iff_toInt_lt] at h0 h1
    have q0 : (0 : Int32).toInt = 0 := rfl
    have q1 : (65535 : Int32).toInt = 65535 := rfl
    have q2 : z.toInt = z.toBitVec.toInt := rfl
    have q3 := BitVec.toInt_eq_toNat_cond z.toBitVec
    have q4 := z.toBitVec.isLt
    split at q3 <;> omega
  simp only [nar, UInt32.toBitVec_toInt32, Int32.toBitVec_toUInt32, UInt32.toBitVec_toUInt16, UInt16.toBitVec_toUInt32]
  apply BitVec.eq_of_toNat_eq
  simp only [BitVec.toNat_setWidth]
  omega

theorem own_l8 {x : Int32} (h0 : ¬ x < 0) (h1 : ¬ (255 : Int32) < x) : nar .char (((nar .byte (x.toInt8.toInt32)) &&& (255 : Int32)).toUInt32.toUInt16.toUInt32.toInt32) = x := by
  have t : ∀ a : Fin 256, nar .char (((nar .byte ((Int32.ofNat a.val).toInt8.toInt32)) &&& (255 : Int32)).toUInt32.toUInt16.toUInt32.toInt32) = Int32.ofNat a.val := by decide +kernel
  rw [Int32.lt_iff_toInt_lt] at h0 h1
  have e0 : (0 : Int32).toInt = 0 := rfl
  have e1 : (255 : Int32).toInt = 255 := rfl
  have e : x = Int32.ofNat x.toInt.toNat := by
    apply Int32.toInt_inj.mp
    rw [Int32.toInt_ofNat_of_lt (by omega)]
    omega
  rw [e]
  exact t ⟨x.toInt.toNat, by omega⟩
def eqF (y0 y1 y2 y3 : Int32) : Int32 := if (116 : Int32) = y0 then (if (114 : Int32) = y1 then (if (117 : Int32) = y2 then (if (101 : Int32) = y3 then (1) else 0) else 0) else 0) else 0
theorem own_eqne {y0 y1 y2 y3 : Int32} (h : ¬ (eqF y0 y1 y2 y3) = (0 : Int32)) : (eqF y0 y1 y2 y3) = (1 : Int32) := by
  unfold eqF at *
  repeat' split
  all_goals simp_all
theorem own_4 (p : Int32) : (p &&& (3 : Int32)) = (0 : Int32) ∨ (p &&& (3 : Int32)) = (1 : Int32) ∨ (p &&& (3 : Int32)) = (2 : Int32) ∨ (p &&& (3 : Int32)) = (3 : Int32) := by
  have h := Jvm.Kit.i32_mask p (3 : Int32) (k := 2) (by decide) (by decide)
  have e : (0 : Int32).toInt = 0 ∧ (1 : Int32).toInt = 1 ∧ (2 : Int32).toInt = 2 ∧ (3 : Int32).toInt = 3 := by decide
  simp only [← Int32.toInt_inj]
  omega
theorem own_cix {x : Int64} (h1 : ¬ (lcmpW x (-128 : Int64)) < (0 : Int32)) (h2 : ¬ (0 : Int32) < (lcmpW x (127 : Int64))) : ¬ ((x.toInt32) + (128 : Int32)) < 0 ∧ ((x.toInt32) + (128 : Int32)) < (256 : Int32) := by
  have t : ∀ a : Fin 256, ¬ ((Int64.ofInt ((a.val : Int) - 128)).toInt32 + (128 : Int32)) < 0 ∧ ((Int64.ofInt ((a.val : Int) - 128)).toInt32 + (128 : Int32)) < (256 : Int32) := by decide +kernel
  have a1 : -128 ≤ x.toInt := by
    unfold lcmpW at h1
    have e : (-128 : Int64).toInt = -128 := rfl
    split at h1
    · rename_i q; have q : (-128 : Int64) < x := q; rw [Int64.lt_iff_toInt_lt] at q; omega
    · split at h1
      · rename_i q; rw [q]; decide
      · exact absurd (by decide) h1
  have a2 : x.toInt ≤ 127 := by
    unfold lcmpW at h2
    have e : (127 : Int64).toInt = 127 := rfl
    split at h2
    · exact absurd (by decide) h2
    · rename_i q; have q : ¬ (127 : Int64) < x := q; rw [Int64.lt_iff_toInt_lt] at q; omega
  have e : x = Int64.ofInt (((x.toInt + 128).toNat : Int) - 128) := by
    apply Int64.toInt_inj.mp
    rw [Int64.toInt_ofInt_of_le (by omega) (by omega)]
    omega
  rw [e]
  exact t ⟨(x.toInt + 128).toNat, by omega⟩
theorem own_ixlt {j : Int32} (h : ¬ j < 0 ∧ j < (256 : Int32)) : j.toNatClampNeg < 256 := by
  obtain ⟨h0, h1⟩ := h
  rw [Int32.lt_iff_toInt_lt] at h0 h1
  have e0 : (0 : Int32).toInt = 0 := rfl
  have e1 : (256 : Int32).toInt = 256 := rfl
  simp only [Int32.toNatClampNeg]; omega
theorem own_len (u : UInt32) : 0 ≤ ((u >>> ((8 : Int32) &&& 31).toUInt32).toInt32).toInt := by
  have e8 : ((8 : Int32) &&& 31).toUInt32 = 8 := by decide
  rw [e8]
  have k : (u >>> 8).toNat < 16777216 := by
    rw [UInt32.toNat_shiftRight]
    have := u.toNat_lt
    have e : (8 : UInt32).toNat % 32 = 8 := by decide
    rw [e, Nat.shiftRight_eq_div_pow]; omega
  have q := BitVec.toInt_eq_toNat_cond (u >>> 8).toBitVec
  have q2 : (u >>> 8).toInt32.toInt = (u >>> 8).toBitVec.toInt := rfl
  have q3 : (u >>> 8).toBitVec.toNat = (u >>> 8).toNat := rfl
  split at q <;> omega
theorem own_nat {a b : Int32} (ha : ¬ a < 0) (hb : ¬ b < 0) (h : a.toNatClampNeg = b.toNatClampNeg) : a = b := by
  rw [Int32.lt_iff_toInt_lt] at ha hb
  have e0 : (0 : Int32).toInt = 0 := rfl
  apply Int32.toInt_inj.mp
  simp only [Int32.toNatClampNeg] at h; omega
theorem own_6 (u : UInt32) : ((u >>> ((8 : Int32) &&& 31).toUInt32).toInt32 % (6 : Int32)) = (0 : Int32) ∨ ((u >>> ((8 : Int32) &&& 31).toUInt32).toInt32 % (6 : Int32)) = (1 : Int32) ∨ ((u >>> ((8 : Int32) &&& 31).toUInt32).toInt32 % (6 : Int32)) = (2 : Int32) ∨ ((u >>> ((8 : Int32) &&& 31).toUInt32).toInt32 % (6 : Int32)) = (3 : Int32) ∨ ((u >>> ((8 : Int32) &&& 31).toUInt32).toInt32 % (6 : Int32)) = (4 : Int32) ∨ ((u >>> ((8 : Int32) &&& 31).toUInt32).toInt32 % (6 : Int32)) = (5 : Int32) := by
  have h := Jvm.Kit.i32_rem_nonneg (y := (6 : Int32)) (own_len u)
  rw [show ((6 : Int32)).toInt = 6 from by decide] at h
  have e : (0 : Int32).toInt = 0 ∧ (1 : Int32).toInt = 1 ∧ (2 : Int32).toInt = 2 ∧ (3 : Int32).toInt = 3 ∧ (4 : Int32).toInt = 4 ∧ (5 : Int32).toInt = 5 := by decide
  simp only [← Int32.toInt_inj]
  omega
theorem own_m8 (x : Int32) : ¬ ((x &&& (255 : Int32)).toUInt32.toUInt16.toUInt32.toInt32) < 0 ∧ ¬ (255 : Int32) < ((x &&& (255 : Int32)).toUInt32.toUInt16.toUInt32.toInt32) ∧ nar .char ((x &&& (255 : Int32)).toUInt32.toUInt16.toUInt32.toInt32) = ((x &&& (255 : Int32)).toUInt32.toUInt16.toUInt32.toInt32) := by
  have t : ∀ k : Fin 256, ¬ ((Int32.ofNat k.val).toUInt32.toUInt16.toUInt32.toInt32) < 0 ∧ ¬ (255 : Int32) < ((Int32.ofNat k.val).toUInt32.toUInt16.toUInt32.toInt32) ∧ nar .char ((Int32.ofNat k.val).toUInt32.toUInt16.toUInt32.toInt32) = ((Int32.ofNat k.val).toUInt32.toUInt16.toUInt32.toInt32) := by decide +kernel
  have h : (x &&& 255).toBitVec.toNat < 256 := by
    simp only [Int32.toBitVec_and, BitVec.toNat_and]
    exact Nat.lt_succ_of_le Nat.and_le_right
  have e : (x &&& 255) = Int32.ofNat (x &&& 255).toBitVec.toNat := by
    apply Int32.toBitVec_inj.mp
    show _ = BitVec.ofNat 32 _
    rw [BitVec.ofNat_toNat]; simp
  rw [e]
  exact t ⟨_, h⟩
theorem own_q0 {x : Int32} (h0 : ¬ x < 0) (h1 : ¬ (255 : Int32) < x) : (116 : Int32) = (nar .byte (x.toInt8.toInt32)) ↔ x = (116 : Int32) := by
  have t : ∀ a : Fin 256, (116 : Int32) = (nar .byte ((Int32.ofNat a.val).toInt8.toInt32)) ↔ (Int32.ofNat a.val) = (116 : Int32) := by decide +kernel
  rw [Int32.lt_iff_toInt_lt] at h0 h1
  have e0 : (0 : Int32).toInt = 0 := rfl
  have e1 : (255 : Int32).toInt = 255 := rfl
  have e : x = Int32.ofNat x.toInt.toNat := by
    apply Int32.toInt_inj.mp
    rw [Int32.toInt_ofNat_of_lt (by omega)]
    omega
  rw [e]
  exact t ⟨x.toInt.toNat, by omega⟩
theorem own_q1 {x : Int32} (h0 : ¬ x < 0) (h1 : ¬ (255 : Int32) < x) : (114 : Int32) = (nar .byte (x.toInt8.toInt32)) ↔ x = (114 : Int32) := by
  have t : ∀ a : Fin 256, (114 : Int32) = (nar .byte ((Int32.ofNat a.val).toInt8.toInt32)) ↔ (Int32.ofNat a.val) = (114 : Int32) := by decide +kernel
  rw [Int32.lt_iff_toInt_lt] at h0 h1
  have e0 : (0 : Int32).toInt = 0 := rfl
  have e1 : (255 : Int32).toInt = 255 := rfl
  have e : x = Int32.ofNat x.toInt.toNat := by
    apply Int32.toInt_inj.mp
    rw [Int32.toInt_ofNat_of_lt (by omega)]
    omega
  rw [e]
  exact t ⟨x.toInt.toNat, by omega⟩
theorem own_q2 {x : Int32} (h0 : ¬ x < 0) (h1 : ¬ (255 : Int32) < x) : (117 : Int32) = (nar .byte (x.toInt8.toInt32)) ↔ x = (117 : Int32) := by
  have t : ∀ a : Fin 256, (117 : Int32) = (nar .byte ((Int32.ofNat a.val).toInt8.toInt32)) ↔ (Int32.ofNat a.val) = (117 : Int32) := by decide +kernel
  rw [Int32.lt_iff_toInt_lt] at h0 h1
  have e0 : (0 : Int32).toInt = 0 := rfl
  have e1 : (255 : Int32).toInt = 255 := rfl
  have e : x = Int32.ofNat x.toInt.toNat := by
    apply Int32.toInt_inj.mp
    rw [Int32.toInt_ofNat_of_lt (by omega)]
    omega
  rw [e]
  exact t ⟨x.toInt.toNat, by omega⟩
theorem own_q3 {x : Int32} (h0 : ¬ x < 0) (h1 : ¬ (255 : Int32) < x) : (101 : Int32) = (nar .byte (x.toInt8.toInt32)) ↔ x = (101 : Int32) := by
  have t : ∀ a : Fin 256, (101 : Int32) = (nar .byte ((Int32.ofNat a.val).toInt8.toInt32)) ↔ (Int32.ofNat a.val) = (101 : Int32) := by decide +kernel
  rw [Int32.lt_iff_toInt_lt] at h0 h1
  have e0 : (0 : Int32).toInt = 0 := rfl
  have e1 : (255 : Int32).toInt = 255 := rfl
  have e : x = Int32.ofNat x.toInt.toNat := by
    apply Int32.toInt_inj.mp
    rw [Int32.toInt_ofNat_of_lt (by omega)]
    omega
  rw [e]
  exact t ⟨x.toInt.toNat, by omega⟩
theorem own_same {Z : State} {h : Heap} {a x t1 t2 : Addr} {k1 k2 : ClassId} {z1 z2 : Int32} {v1 v2 : List Value} {d : Value} (e : a = x) (F : Fld Z h x "java/lang/String" "value" "[B" (.ref t1)) (G : Fld Z h a "java/lang/String" "value" "[B" (.ref t2)) (V : Arv Z h t1 k1 .byte z1 v1 d) (W : Arv Z h t2 k2 .byte z2 v2 d) : z1 = z2 ∧ ∀ i, i < z1.toNatClampNeg → v1.getD i d = v2.getD i d := by
  subst e
  obtain ⟨c1, _, _, _, _, f1, f2, -, -, -, -, f7⟩ := F
  obtain ⟨c2, _, _, _, _, g1, g2, -, -, -, -, g7⟩ := G
  cases f1.symm.trans g1; cases f2.symm.trans g2
  cases f7.symm.trans g7
  obtain ⟨c, A, -, S, N, H, -⟩ := V
  obtain ⟨c', A', -, S', N', H', -⟩ := W
  cases A.1.symm.trans A'.1
  refine ⟨own_nat N N' (S.symm.trans S'), fun i hi => Option.some.inj ((H i (by rw [S]; exact hi)).symm.trans (H' i (by rw [S]; exact hi)))⟩
theorem own_cache {s : State} {args : Array Value} {lc : Addr} {cC : Cell} {t : Term} {w : Cond} (ev : ∀ idx, t.eval args s none idx s = some (.ref lc)) (A : Arr s s.heap lc cC (.object "java/lang/Long")) (hl : (Term.length t).eval args s none [] s = some (.int (256 : Int32)))
    (ha : (Cond.all t (Cond.and (Cond.exactly (Term.elem t (Term.index (0 : Nat))) "java/lang/Long") w)).value args s none s [] = some true) : ∃ vs : List Value, Arv s s.heap lc cC.cls (.object "java/lang/Long") (256 : Int32) vs .null ∧ ∀ i, i < 256 → ∃ b : Addr, vs.getD i .null = .ref b ∧ Exa s s.heap b "java/lang/Long" := by
  have hat : s.arrayAt? lc = some cC := Arr.fin (State.Warmed39.refl s).alike A
  have sz : cC.slots.size = 256 := by
    simp only [Term.eval, ev, Option.bind_eq_bind, Option.bind_some, hat] at hl
    by_cases q : cC.slots.size < 2 ^ 31
    · rw [if_pos q] at hl
      have e1 : cC.slots.size.toInt32 = (256 : Int32) := Value.int.inj (Option.some.inj hl)
      have e2 := len_toInt q
      rw [e1] at e2
      have e3 : (256 : Int32).toInt = 256 := rfl
      omega
    · rw [if_neg q] at hl; cases hl
  have el : ∀ i, i < 256 → ∃ b : Addr, cC.slots[i]? = some (.ref b) ∧ Exa s s.heap b "java/lang/Long" := fun i hi => by
    obtain ⟨h1, -⟩ := and_e (Cond.all_elim (ev []) hat ha i (by rw [sz]; exact hi))
    have h1' : (Cond.exactly (Term.elem t (Term.index (0 : Nat))) "java/lang/Long").holds args s none s [i] = true := by simp [Cond.holds, h1]
    obtain ⟨b, c', cell, k, e1, e2, e3, e4, e5, rfl, e7⟩ := Cond.exactly_spec h1'
    obtain ⟨a, j, cl, q1, q2, q3, -, q5⟩ := Term.elem_spec e1
    cases (ev _).symm.trans q1
    cases hat.symm.trans q3
    have q2' : some (Value.int i.toInt32) = some (Value.int j) := q2
    cases q2'
    have q6 : (i.toInt32).toNatClampNeg = i := by simp only [Int32.toNatClampNeg, len_toInt (show i < 2 ^ 31 by omega)]; rfl
    rw [q6] at q5
    exact ⟨b, q5, cell, k, e3, e2, e4, e5, e7⟩
  have gd : ∀ i, i < 256 → cC.slots[i]? = some (cC.slots.toList.getD i .null) := fun i hi => by
    rw [List.getD_eq_getElem?_getD, Array.getElem?_toList, Array.getElem?_eq_getElem (by rw [sz]; exact hi)]; rfl
  refine ⟨cC.slots.toList, ⟨cC, A, rfl, by rw [sz]; rfl, by decide, fun i hi => gd i (by rw [sz] at hi; exact hi), fun i hi => ?_⟩, fun i hi => ?_⟩
  · obtain ⟨b, e1, -⟩ := el i (by rw [sz] at hi; exact hi)
    rw [← Option.some.inj ((gd i (by rw [sz] at hi; exact hi)).symm.trans e1).symm]; rfl
  · obtain ⟨b, e1, e2⟩ := el i hi
    exact ⟨b, Option.some.inj ((gd i hi).symm.trans e1), e2⟩
theorem ef_rmBV_0 (m : MethodId) (x0 : Addr) : entryFrame m #[(.ref x0)] 1 = mkF m 0 #[rv x0] [] := by first | (simp [entryFrame, mkF, argsToLocals, Value.category]; done) | rfl
def QBV_0 (Z : State) (a1 : Addr) (h0 : Heap) (n0 : Nat) (v : Option Value) (h : Heap) (L : List Loc) : Prop := v = some (.int (0 : Int32)) ∧ Fr n0 L ∧ h = h0
set_option maxRecDepth 65536 in
set_option maxHeartbeats 40000000 in
theorem rmBV_0 (l : Launch) (Z : State) (a0 : Array Value) (hw : TW Z a0) (ws : List Jvm.Cond) (a1 : Addr) (h0 : Heap) (n0 : Nat) (Z0 : n0 ≤ h0.size) (F1 : Fld Z h0 a1 "java/lang/Boolean" "value" "Z" (.int (0 : Int32))) :
    MF l Z (⟨"java/lang/Boolean", "booleanValue", "()Z"⟩ : MethodName) jdk_2055_method_4_code 1 (some .boolean) ws (rmm 0 0 0 0) #[(.ref a1)] h0 (QBV_0 Z a1 h0 n0) := by
  refine MetFree.of_bodySF (plainFor_of_name pn_java_lang_Boolean) hisR ?_
  intro p e s m args below meth c s₁ Bd hml0 hP hK
  obtain ⟨rfl, hZ, hh⟩ := hP
  have hx := Bd.exec
  have hby := Bd.bytes
  have hlk : meth.locks = false := Bd.notSynchronized
  have hml : c.maxLocals = 1 := hml0
  have hown : s.vm.findClass "java/lang/Boolean" = some m.cls := findClass_of_methodNamed Bd.named
  have hnm := (name_of_methodNamed Bd.named Bd.method).1
  have X0 : Stand p l e (rmm 0 0 0 0) s m #[(.ref a1)] below meth c s₁ [] 0 0 := Stand.of_body Bd
  have e0 : s₁.heap = h0 := by rw [← hh, Bd.state]; rfl
  have N0 := Fr.nil n0
  show Go p e below (FinE s below (QBV_0 Z a1 h0 n0) (rmm 0 0 0 0).cells (rmm 0 0 0 0).slots) (s₁.setTop (entryFrame m #[(.ref a1)] 1))
  refine Go.via (fun t k => castTop (ef_rmBV_0 m a1) k) ?_
  refine Go.via (fun _ => XS.aloadN X0.here hx rfl (hb hby d9_0) rfl rfl) ?_
  obtain ⟨T101, X101, e101, st101⟩ := getF X0 hx hZ hown (host := "") (Or.inl (ow hw 57 rfl)) Via.refl e0 F1 (g := (mkF m 1 #[rv a1] [(.ref a1)])) rfl rfl (hb hby d9_1)
  refine Go.via st101 ?_
  exact own_retN X101 hx hlk (t := .boolean) Bd.returns (by simp) (hb hby d9_4) (by show QBV_0 Z a1 h0 n0 _ T101.heap _; rw [e101]; exact ⟨rfl, N0, rfl⟩) (by decide) (by decide)
theorem ef_rmBO_0 (m : MethodId)  : entryFrame m #[(.int (0 : Int32))] 1 = mkF m 0 #[iv (0 : Int32)] [] := by first | (simp [entryFrame, mkF, argsToLocals, Value.category]; done) | rfl
def QBO_0 (Z : State) (bf : Addr) (h0 : Heap) (n0 : Nat) (v : Option Value) (h : Heap) (L : List Loc) : Prop := v = some (.ref bf) ∧ Fr n0 L ∧ h = h0
set_option maxRecDepth 65536 in
set_option maxHeartbeats 40000000 in
theorem rmBO_0 (l : Launch) (Z : State) (a0 : Array Value) (hw : TW Z a0) (ws : List Jvm.Cond) (bf : Addr) (h0 : Heap) (n0 : Nat) (Z0 : n0 ≤ h0.size) (O0 : Old Z n0 h0) (S_F : Sta Z Z.heap "java/lang/Boolean" "FALSE" "Ljava/lang/Boolean;" (.ref bf)) :
    MF l Z (⟨"java/lang/Boolean", "valueOf", "(Z)Ljava/lang/Boolean;"⟩ : MethodName) jdk_2055_method_5_code 1 (some (.object "java/lang/Boolean")) ws (rmm 0 0 0 0) #[(.int (0 : Int32))] h0 (QBO_0 Z bf h0 n0) := by
  refine MetFree.of_bodySF (plainFor_of_name pn_java_lang_Boolean) hisR ?_
  intro p e s m args below meth c s₁ Bd hml0 hP hK
  obtain ⟨rfl, hZ, hh⟩ := hP
  have hx := Bd.exec
  have hby := Bd.bytes
  have hlk : meth.locks = false := Bd.notSynchronized
  have hml : c.maxLocals = 1 := hml0
  have hown : s.vm.findClass "java/lang/Boolean" = some m.cls := findClass_of_methodNamed Bd.named
  have hnm := (name_of_methodNamed Bd.named Bd.method).1
  have X0 : Stand p l e (rmm 0 0 0 0) s m #[(.int (0 : Int32))] below meth c s₁ [] 0 0 := Stand.of_body Bd
  have e0 : s₁.heap = h0 := by rw [← hh, Bd.state]; rfl
  have N0 := Fr.nil n0
  show Go p e below (FinE s below (QBO_0 Z bf h0 n0) (rmm 0 0 0 0).cells (rmm 0 0 0 0).slots) (s₁.setTop (entryFrame m #[(.int (0 : Int32))] 1))
  refine Go.via (fun t k => castTop (ef_rmBO_0 m ) k) ?_
  refine Go.via (fun _ => XS.iloadN X0.here hx rfl (hb hby d8_0) rfl) ?_
  refine Go.via (fun _ => XS.ifYes X0.here hx rfl (pc0 := 1) (pc' := 10) rfl (hb hby d8_1) rfl (by decide) (by decide) (by decide)) ?_
  obtain ⟨T101, X101, e101, st101⟩ := getS2 X0 hx hZ hown (host := "") (Or.inl (ow hw 96 rfl)) Via.refl e0 (S_F.ext O0.2) (g := (mkF m 10 #[iv (0 : Int32)] [])) rfl (hb hby d8_10)
  refine Go.via st101 ?_
  exact own_retA X101 hx hlk Bd.returns rfl rfl (hb hby d8_13) (by show QBO_0 Z bf h0 n0 _ T101.heap _; rw [e101]; exact ⟨rfl, N0, rfl⟩) (by decide) (by decide)
theorem ef_rmBV_1 (m : MethodId) (x0 : Addr) : entryFrame m #[(.ref x0)] 1 = mkF m 0 #[rv x0] [] := by first | (simp [entryFrame, mkF, argsToLocals, Value.category]; done) | rfl
def QBV_1 (Z : State) (a1 : Addr) (h0 : Heap) (n0 : Nat) (v : Option Value) (h : Heap) (L : List Loc) : Prop := v = some (.int (1 : Int32)) ∧ Fr n0 L ∧ h = h0
set_option maxRecDepth 65536 in
set_option maxHeartbeats 40000000 in
theorem rmBV_1 (l : Launch) (Z : State) (a0 : Array Value) (hw : TW Z a0) (ws : List Jvm.Cond) (a1 : Addr) (h0 : Heap) (n0 : Nat) (Z0 : n0 ≤ h0.size) (F1 : Fld Z h0 a1 "java/lang/Boolean" "value" "Z" (.int (1 : Int32))) :
    MF l Z (⟨"java/lang/Boolean", "booleanValue", "()Z"⟩ : MethodName) jdk_2055_method_4_code 1 (some .boolean) ws (rmm 0 0 0 0) #[(.ref a1)] h0 (QBV_1 Z a1 h0 n0) := by
  refine MetFree.of_bodySF (plainFor_of_name pn_java_lang_Boolean) hisR ?_
  intro p e s m args below meth c s₁ Bd hml0 hP hK
  obtain ⟨rfl, hZ, hh⟩ := hP
  have hx := Bd.exec
  have hby := Bd.bytes
  have hlk : meth.locks = false := Bd.notSynchronized
  have hml : c.maxLocals = 1 := hml0
  have hown : s.vm.findClass "java/lang/Boolean" = some m.cls := findClass_of_methodNamed Bd.named
  have hnm := (name_of_methodNamed Bd.named Bd.method).1
  have X0 : Stand p l e (rmm 0 0 0 0) s m #[(.ref a1)] below meth c s₁ [] 0 0 := Stand.of_body Bd
  have e0 : s₁.heap = h0 := by rw [← hh, Bd.state]; rfl
  have N0 := Fr.nil n0
  show Go p e below (FinE s below (QBV_1 Z a1 h0 n0) (rmm 0 0 0 0).cells (rmm 0 0 0 0).slots) (s₁.setTop (entryFrame m #[(.ref a1)] 1))
  refine Go.via (fun t k => castTop (ef_rmBV_1 m a1) k) ?_
  refine Go.via (fun _ => XS.aloadN X0.here hx rfl (hb hby d9_0) rfl rfl) ?_
  obtain ⟨T101, X101, e101, st101⟩ := getF X0 hx hZ hown (host := "") (Or.inl (ow hw 57 rfl)) Via.refl e0 F1 (g := (mkF m 1 #[rv a1] [(.ref a1)])) rfl rfl (hb hby d9_1)
  refine Go.via st101 ?_
  exact own_retN X101 hx hlk (t := .boolean) Bd.returns (by simp) (hb hby d9_4) (by show QBV_1 Z a1 h0 n0 _ T101.heap _; rw [e101]; exact ⟨rfl, N0, rfl⟩) (by decide) (by decide)
theorem ef_rmBO_1 (m : MethodId)  : entryFrame m #[(.int (1 : Int32))] 1 = mkF m 0 #[iv (1 : Int32)] [] := by first | (simp [entryFrame, mkF, argsToLocals, Value.category]; done) | rfl
def QBO_1 (Z : State) (bt : Addr) (h0 : Heap) (n0 : Nat) (v : Option Value) (h : Heap) (L : List Loc) : Prop := v = some (.ref bt) ∧ Fr n0 L ∧ h = h0
set_option maxRecDepth 65536 in
set_option maxHeartbeats 40000000 in
theorem rmBO_1 (l : Launch) (Z : State) (a0 : Array Value) (hw : TW Z a0) (ws : List Jvm.Cond) (bt : Addr) (h0 : Heap) (n0 : Nat) (Z0 : n0 ≤ h0.size) (O0 : Old Z n0 h0) (S_T : Sta Z Z.heap "java/lang/Boolean" "TRUE" "Ljava/lang/Boolean;" (.ref bt)) :
    MF l Z (⟨"java/lang/Boolean", "valueOf", "(Z)Ljava/lang/Boolean;"⟩ : MethodName) jdk_2055_method_5_code 1 (some (.object "java/lang/Boolean")) ws (rmm 0 0 0 0) #[(.int (1 : Int32))] h0 (QBO_1 Z bt h0 n0) := by
  refine MetFree.of_bodySF (plainFor_of_name pn_java_lang_Boolean) hisR ?_
  intro p e s m args below meth c s₁ Bd hml0 hP hK
  obtain ⟨rfl, hZ, hh⟩ := hP
  have hx := Bd.exec
  have hby := Bd.bytes
  have hlk : meth.locks = false := Bd.notSynchronized
  have hml : c.maxLocals = 1 := hml0
  have hown : s.vm.findClass "java/lang/Boolean" = some m.cls := findClass_of_methodNamed Bd.named
  have hnm := (name_of_methodNamed Bd.named Bd.method).1
  have X0 : Stand p l e (rmm 0 0 0 0) s m #[(.int (1 : Int32))] below meth c s₁ [] 0 0 := Stand.of_body Bd
  have e0 : s₁.heap = h0 := by rw [← hh, Bd.state]; rfl
  have N0 := Fr.nil n0
  show Go p e below (FinE s below (QBO_1 Z bt h0 n0) (rmm 0 0 0 0).cells (rmm 0 0 0 0).slots) (s₁.setTop (entryFrame m #[(.int (1 : Int32))] 1))
  refine Go.via (fun t k => castTop (ef_rmBO_1 m ) k) ?_
  refine Go.via (fun _ => XS.iloadN X0.here hx rfl (hb hby d8_0) rfl) ?_
  refine Go.via (fun _ => XS.ifNo X0.here hx rfl (hb hby d8_1) rfl (by decide)) ?_
  obtain ⟨T101, X101, e101, st101⟩ := getS2 X0 hx hZ hown (host := "") (Or.inl (ow hw 55 rfl)) Via.refl e0 (S_T.ext O0.2) (g := (mkF m 4 #[iv (1 : Int32)] [])) rfl (hb hby d8_4)
  refine Go.via st101 ?_
  refine Go.via (fun _ => XS.goto X101.here hx rfl (pc0 := 7) (pc' := 13) rfl (hb hby d8_7) (by decide) (by decide)) ?_
  exact own_retA X101 hx hlk Bd.returns rfl rfl (hb hby d8_13) (by show QBO_1 Z bt h0 n0 _ T101.heap _; rw [e101]; exact ⟨rfl, N0, rfl⟩) (by decide) (by decide)
theorem ef_rmBE_null (m : MethodId) (x0 : Addr) : entryFrame m #[(.ref x0), .null] 2 = mkF m 0 #[rv x0, .val .null] [] := by first | (simp [entryFrame, mkF, argsToLocals, Value.category]; done) | rfl
def QBE_null (Z : State) (b1 : Addr) (h0 : Heap) (n0 : Nat) (v : Option Value) (h : Heap) (L : List Loc) : Prop := v = some (.int (0 : Int32)) ∧ Fr n0 L ∧ h = h0
set_option maxRecDepth 65536 in
set_option maxHeartbeats 40000000 in
theorem rmBE_null (l : Launch) (Z : State) (a0 : Array Value) (hw : TW Z a0) (ws : List Jvm.Cond) (b1 : Addr) (h0 : Heap) (n0 : Nat) (Z0 : n0 ≤ h0.size) (FT : Fld Z h0 b1 "java/lang/Boolean" "value" "Z" (.int (1 : Int32))) :
    MF l Z (⟨"java/lang/Boolean", "equals", "(Ljava/lang/Object;)Z"⟩ : MethodName) jdk_2055_method_11_code 2 (some .boolean) ws (rmm 0 0 0 0) #[(.ref b1), .null] h0 (QBE_null Z b1 h0 n0) := by
  refine MetFree.of_bodySF (plainFor_of_name pn_java_lang_Boolean) hisR ?_
  intro p e s m args below meth c s₁ Bd hml0 hP hK
  obtain ⟨rfl, hZ, hh⟩ := hP
  have hx := Bd.exec
  have hby := Bd.bytes
  have hlk : meth.locks = false := Bd.notSynchronized
  have hml : c.maxLocals = 2 := hml0
  have hown : s.vm.findClass "java/lang/Boolean" = some m.cls := findClass_of_methodNamed Bd.named
  have hnm := (name_of_methodNamed Bd.named Bd.method).1
  have X0 : Stand p l e (rmm 0 0 0 0) s m #[(.ref b1), .null] below meth c s₁ [] 0 0 := Stand.of_body Bd
  have e0 : s₁.heap = h0 := by rw [← hh, Bd.state]; rfl
  have N0 := Fr.nil n0
  show Go p e below (FinE s below (QBE_null Z b1 h0 n0) (rmm 0 0 0 0).cells (rmm 0 0 0 0).slots) (s₁.setTop (entryFrame m #[(.ref b1), .null] 2))
  refine Go.via (fun t k => castTop (ef_rmBE_null m b1) k) ?_
  refine Go.via (fun _ => XS.aloadN X0.here hx rfl (hb hby d2_0) rfl rfl) ?_
  refine Go.via (X0.instanceofNull hx (g := (mkF m 1 #[rv b1, .val .null] [.null])) rfl rfl (hb hby d2_1)) ?_
  refine Go.via (fun _ => XS.ifYes X0.here hx rfl (pc0 := 4) (pc' := 27) rfl (hb hby d2_4) rfl (by decide) (by decide) (by decide)) ?_
  refine Go.via (fun _ => XS.iconst X0.here hx rfl (hb hby d2_27)) ?_
  exact own_retN X0 hx hlk (t := .boolean) Bd.returns (by simp) (hb hby d2_28) (by show QBE_null Z b1 h0 n0 _ s₁.heap _; rw [e0]; exact ⟨rfl, N0, rfl⟩) (by decide) (by decide)
theorem ef_rmBE_0 (m : MethodId) (x0 : Addr) (x1 : Addr) : entryFrame m #[(.ref x0), (.ref x1)] 2 = mkF m 0 #[rv x0, rv x1] [] := by first | (simp [entryFrame, mkF, argsToLocals, Value.category]; done) | rfl
def QBE_0 (Z : State) (b1 : Addr) (a1 : Addr) (h0 : Heap) (n0 : Nat) (v : Option Value) (h : Heap) (L : List Loc) : Prop := v = some (.int (0 : Int32)) ∧ Fr n0 L ∧ h = h0
set_option maxRecDepth 65536 in
set_option maxHeartbeats 40000000 in
theorem rmBE_0 (l : Launch) (Z : State) (a0 : Array Value) (hw : TW Z a0) (ws : List Jvm.Cond) (b1 : Addr) (a1 : Addr) (h0 : Heap) (n0 : Nat) (Z0 : n0 ≤ h0.size) (FT : Fld Z h0 b1 "java/lang/Boolean" "value" "Z" (.int (1 : Int32))) (E1 : Exa Z h0 a1 "java/lang/Boolean") (F1 : Fld Z h0 a1 "java/lang/Boolean" "value" "Z" (.int (0 : Int32))) :
    MF l Z (⟨"java/lang/Boolean", "equals", "(Ljava/lang/Object;)Z"⟩ : MethodName) jdk_2055_method_11_code 2 (some .boolean) ws (rmm 1 0 0 13) #[(.ref b1), (.ref a1)] h0 (QBE_0 Z b1 a1 h0 n0) := by
  refine MetFree.of_bodySF (plainFor_of_name pn_java_lang_Boolean) hisR ?_
  intro p e s m args below meth c s₁ Bd hml0 hP hK
  obtain ⟨rfl, hZ, hh⟩ := hP
  have hx := Bd.exec
  have hby := Bd.bytes
  have hlk : meth.locks = false := Bd.notSynchronized
  have hml : c.maxLocals = 2 := hml0
  have hown : s.vm.findClass "java/lang/Boolean" = some m.cls := findClass_of_methodNamed Bd.named
  have hnm := (name_of_methodNamed Bd.named Bd.method).1
  have X0 : Stand p l e (rmm 1 0 0 13) s m #[(.ref b1), (.ref a1)] below meth c s₁ [] 0 0 := Stand.of_body Bd
  have e0 : s₁.heap = h0 := by rw [← hh, Bd.state]; rfl
  have N0 := Fr.nil n0
  show Go p e below (FinE s below (QBE_0 Z b1 a1 h0 n0) (rmm 1 0 0 13).cells (rmm 1 0 0 13).slots) (s₁.setTop (entryFrame m #[(.ref b1), (.ref a1)] 2))
  refine Go.via (fun t k => castTop (ef_rmBE_0 m b1 a1) k) ?_
  refine Go.via (fun _ => XS.aloadN X0.here hx rfl (hb hby d2_0) rfl rfl) ?_
  obtain ⟨T101, X101, e101, st101⟩ := instY X0 hx hZ hown (ow hw 47 rfl) e0 (Ins.self E1) (g := (mkF m 1 #[rv b1, rv a1] [(.ref a1)])) rfl rfl (hb hby d2_1)
  refine Go.via st101 ?_
  refine Go.via (fun _ => XS.ifNo X101.here hx rfl (hb hby d2_4) rfl (by decide)) ?_
  refine Go.via (fun _ => XS.aloadN X101.here hx rfl (hb hby d2_7) rfl rfl) ?_
  obtain ⟨T102, X102, e102, st102⟩ := getF X101 hx hZ hown (host := "") (Or.inl (ow hw 57 rfl)) Via.refl e101 FT (g := (mkF m 8 #[rv b1, rv a1] [(.ref b1)])) rfl rfl (hb hby d2_8)
  refine Go.via st102 ?_
  show Go p e below _ (T102.setTop (mkF m 11 #[rv b1, rv a1] [(.int (1 : Int32))]))
  refine Go.via (fun _ => XS.aloadN X102.here hx rfl (hb hby d2_11) rfl rfl) ?_
  obtain ⟨T103, X103, e103, st103⟩ := castY X102 hx hZ hown (ow hw 47 rfl) e102 (Ins.self E1) (g := (mkF m 12 #[rv b1, rv a1] [(.ref a1), (.int (1 : Int32))])) rfl rfl (hb hby d2_12)
  refine Go.via st103 ?_
  obtain ⟨cq104, kq104, q104a, q104b, q104c⟩ := isOf hZ e103 E1
  obtain ⟨_, _, ⟨T104, L104, k104, n104⟩, -, X104, ⟨Lc104, hQ104, l104, y104, z104⟩, st104⟩ := X103.virtualBack hx (y := (⟨"java/lang/Boolean", "booleanValue", "()Z"⟩ : MethodName)) (z := (⟨"java/lang/Boolean", "booleanValue", "()Z"⟩ : MethodName)) hown (mvT hZ (ow hw 59 rfl)) (mvT hZ (ow hw 60 rfl)) (notFace_of_selects (args := #[]) (mvT hZ (ow hw 62 rfl))) (mvT hZ (ow hw 62 rfl)) (mvT hZ (ow hw 61 rfl)) (by decide) (backOf (W := 1) (rmBV_0 l Z a0 hw [] a1 h0 n0 Z0 F1) hZ (ow hw 63 rfl) (ow hw 5 rfl) (by decide) (by decide)) q104a q104c (g := (mkF m 15 #[rv b1, rv a1] [(.ref a1), (.int (1 : Int32))])) rfl (by rw [hml]; rfl) (Steps.refl _) (argsL := []) (rest := [(.int (1 : Int32))]) (lenOf pd_0 rfl) rfl (by show 2 * 0 + _ ≤ _; exact Nat.le_of_eq rfl) (hb hby d2_15) (fun _ _ => ⟨rfl, e103, (by decide : 0 + 0 ≤ _), (by decide : 0 + 0 ≤ _)⟩)
  dsimp only [Pt.U, Pt.locs, Pt.cells, Pt.slots] at X104 l104 y104 z104 st104 hQ104
  rw [l104, y104, z104] at X104
  replace X104 : Stand p l e _ _ m _ below meth c T104 _ 0 0 := X104
  obtain ⟨rfl, N104q, e104q⟩ := hQ104
  have N104 := Fr.app N0 N104q
  refine Go.tr st104 ?_
  refine Go.via (fun _ => XS.icmpYes X104.here hx rfl (pc0 := 18) (pc' := 25) rfl (hb hby d2_18) rfl (by decide) (by decide) (by decide)) ?_
  refine Go.via (fun _ => XS.iconst X104.here hx rfl (hb hby d2_25)) ?_
  exact own_retN X104 hx hlk (t := .boolean) Bd.returns (by simp) (hb hby d2_26) (by show QBE_0 Z b1 a1 h0 n0 _ T104.heap _; rw [e104q]; exact ⟨rfl, N104, rfl⟩) (by decide) (by decide)
theorem ef_rmBE_1 (m : MethodId) (x0 : Addr) (x1 : Addr) : entryFrame m #[(.ref x0), (.ref x1)] 2 = mkF m 0 #[rv x0, rv x1] [] := by first | (simp [entryFrame, mkF, argsToLocals, Value.category]; done) | rfl
def QBE_1 (Z : State) (b1 : Addr) (a1 : Addr) (h0 : Heap) (n0 : Nat) (v : Option Value) (h : Heap) (L : List Loc) : Prop := v = some (.int (1 : Int32)) ∧ Fr n0 L ∧ h = h0
set_option maxRecDepth 65536 in
set_option maxHeartbeats 40000000 in
theorem rmBE_1 (l : Launch) (Z : State) (a0 : Array Value) (hw : TW Z a0) (ws : List Jvm.Cond) (b1 : Addr) (a1 : Addr) (h0 : Heap) (n0 : Nat) (Z0 : n0 ≤ h0.size) (FT : Fld Z h0 b1 "java/lang/Boolean" "value" "Z" (.int (1 : Int32))) (E1 : Exa Z h0 a1 "java/lang/Boolean") (F1 : Fld Z h0 a1 "java/lang/Boolean" "value" "Z" (.int (1 : Int32))) :
    MF l Z (⟨"java/lang/Boolean", "equals", "(Ljava/lang/Object;)Z"⟩ : MethodName) jdk_2055_method_11_code 2 (some .boolean) ws (rmm 1 0 0 13) #[(.ref b1), (.ref a1)] h0 (QBE_1 Z b1 a1 h0 n0) := by
  refine MetFree.of_bodySF (plainFor_of_name pn_java_lang_Boolean) hisR ?_
  intro p e s m args below meth c s₁ Bd hml0 hP hK
  obtain ⟨rfl, hZ, hh⟩ := hP
  have hx := Bd.exec
  have hby := Bd.bytes
  have hlk : meth.locks = false := Bd.notSynchronized
  have hml : c.maxLocals = 2 := hml0
  have hown : s.vm.findClass "java/lang/Boolean" = some m.cls := findClass_of_methodNamed Bd.named
  have hnm := (name_of_methodNamed Bd.named Bd.method).1
  have X0 : Stand p l e (rmm 1 0 0 13) s m #[(.ref b1), (.ref a1)] below meth c s₁ [] 0 0 := Stand.of_body Bd
  have e0 : s₁.heap = h0 := by rw [← hh, Bd.state]; rfl
  have N0 := Fr.nil n0
  show Go p e below (FinE s below (QBE_1 Z b1 a1 h0 n0) (rmm 1 0 0 13).cells (rmm 1 0 0 13).slots) (s₁.setTop (entryFrame m #[(.ref b1), (.ref a1)] 2))
  refine Go.via (fun t k => castTop (ef_rmBE_1 m b1 a1) k) ?_
  refine Go.via (fun _ => XS.aloadN X0.here hx rfl (hb hby d2_0) rfl rfl) ?_
  obtain ⟨T101, X101, e101, st101⟩ := instY X0 hx hZ hown (ow hw 47 rfl) e0 (Ins.self E1) (g := (mkF m 1 #[rv b1, rv a1] [(.ref a1)])) rfl rfl (hb hby d2_1)
  refine Go.via st101 ?_
  refine Go.via (fun _ => XS.ifNo X101.here hx rfl (hb hby d2_4) rfl (by decide)) ?_
  refine Go.via (fun _ => XS.aloadN X101.here hx rfl (hb hby d2_7) rfl rfl) ?_
  obtain ⟨T102, X102, e102, st102⟩ := getF X101 hx hZ hown (host := "") (Or.inl (ow hw 57 rfl)) Via.refl e101 FT (g := (mkF m 8 #[rv b1, rv a1] [(.ref b1)])) rfl rfl (hb hby d2_8)
  refine Go.via st102 ?_
  show Go p e below _ (T102.setTop (mkF m 11 #[rv b1, rv a1] [(.int (1 : Int32))]))
  refine Go.via (fun _ => XS.aloadN X102.here hx rfl (hb hby d2_11) rfl rfl) ?_
  obtain ⟨T103, X103, e103, st103⟩ := castY X102 hx hZ hown (ow hw 47 rfl) e102 (Ins.self E1) (g := (mkF m 12 #[rv b1, rv a1] [(.ref a1), (.int (1 : Int32))])) rfl rfl (hb hby d2_12)
  refine Go.via st103 ?_
  obtain ⟨cq104, kq104, q104a, q104b, q104c⟩ := isOf hZ e103 E1
  obtain ⟨_, _, ⟨T104, L104, k104, n104⟩, -, X104, ⟨Lc104, hQ104, l104, y104, z104⟩, st104⟩ := X103.virtualBack hx (y := (⟨"java/lang/Boolean", "booleanValue", "()Z"⟩ : MethodName)) (z := (⟨"java/lang/Boolean", "booleanValue", "()Z"⟩ : MethodName)) hown (mvT hZ (ow hw 59 rfl)) (mvT hZ (ow hw 60 rfl)) (notFace_of_selects (args := #[]) (mvT hZ (ow hw 62 rfl))) (mvT hZ (ow hw 62 rfl)) (mvT hZ (ow hw 61 rfl)) (by decide) (backOf (W := 1) (rmBV_1 l Z a0 hw [] a1 h0 n0 Z0 F1) hZ (ow hw 63 rfl) (ow hw 5 rfl) (by decide) (by decide)) q104a q104c (g := (mkF m 15 #[rv b1, rv a1] [(.ref a1), (.int (1 : Int32))])) rfl (by rw [hml]; rfl) (Steps.refl _) (argsL := []) (rest := [(.int (1 : Int32))]) (lenOf pd_0 rfl) rfl (by show 2 * 0 + _ ≤ _; exact Nat.le_of_eq rfl) (hb hby d2_15) (fun _ _ => ⟨rfl, e103, (by decide : 0 + 0 ≤ _), (by decide : 0 + 0 ≤ _)⟩)
  dsimp only [Pt.U, Pt.locs, Pt.cells, Pt.slots] at X104 l104 y104 z104 st104 hQ104
  rw [l104, y104, z104] at X104
  replace X104 : Stand p l e _ _ m _ below meth c T104 _ 0 0 := X104
  obtain ⟨rfl, N104q, e104q⟩ := hQ104
  have N104 := Fr.app N0 N104q
  refine Go.tr st104 ?_
  refine Go.via (fun _ => XS.icmpNo X104.here hx rfl (hb hby d2_18) rfl (by decide)) ?_
  refine Go.via (fun _ => XS.iconst X104.here hx rfl (hb hby d2_21)) ?_
  refine Go.via (fun _ => XS.goto X104.here hx rfl (pc0 := 22) (pc' := 26) rfl (hb hby d2_22) (by decide) (by decide)) ?_
  show Go p e below _ (T104.setTop (mkF m 26 #[rv b1, rv a1] [(.int (1 : Int32))]))
  exact own_retN X104 hx hlk (t := .boolean) Bd.returns (by simp) (hb hby d2_26) (by show QBE_1 Z b1 a1 h0 n0 _ T104.heap _; rw [e104q]; exact ⟨rfl, N104, rfl⟩) (by decide) (by decide)
theorem ef_rmBE_L (m : MethodId) (x0 : Addr) (x1 : Addr) : entryFrame m #[(.ref x0), (.ref x1)] 2 = mkF m 0 #[rv x0, rv x1] [] := by first | (simp [entryFrame, mkF, argsToLocals, Value.category]; done) | rfl
def QBE_L (Z : State) (b1 : Addr) (a1 : Addr) (h0 : Heap) (n0 : Nat) (v : Option Value) (h : Heap) (L : List Loc) : Prop := v = some (.int (0 : Int32)) ∧ Fr n0 L ∧ h = h0
set_option maxRecDepth 65536 in
set_option maxHeartbeats 40000000 in
theorem rmBE_L (l : Launch) (Z : State) (a0 : Array Value) (hw : TW Z a0) (ws : List Jvm.Cond) (b1 : Addr) (a1 : Addr) (h0 : Heap) (n0 : Nat) (Z0 : n0 ≤ h0.size) (FT : Fld Z h0 b1 "java/lang/Boolean" "value" "Z" (.int (1 : Int32))) (E1 : Exa Z h0 a1 "java/lang/Long") :
    MF l Z (⟨"java/lang/Boolean", "equals", "(Ljava/lang/Object;)Z"⟩ : MethodName) jdk_2055_method_11_code 2 (some .boolean) ws (rmm 0 0 0 0) #[(.ref b1), (.ref a1)] h0 (QBE_L Z b1 a1 h0 n0) := by
  refine MetFree.of_bodySF (plainFor_of_name pn_java_lang_Boolean) hisR ?_
  intro p e s m args below meth c s₁ Bd hml0 hP hK
  obtain ⟨rfl, hZ, hh⟩ := hP
  have hx := Bd.exec
  have hby := Bd.bytes
  have hlk : meth.locks = false := Bd.notSynchronized
  have hml : c.maxLocals = 2 := hml0
  have hown : s.vm.findClass "java/lang/Boolean" = some m.cls := findClass_of_methodNamed Bd.named
  have hnm := (name_of_methodNamed Bd.named Bd.method).1
  have X0 : Stand p l e (rmm 0 0 0 0) s m #[(.ref b1), (.ref a1)] below meth c s₁ [] 0 0 := Stand.of_body Bd
  have e0 : s₁.heap = h0 := by rw [← hh, Bd.state]; rfl
  have N0 := Fr.nil n0
  show Go p e below (FinE s below (QBE_L Z b1 a1 h0 n0) (rmm 0 0 0 0).cells (rmm 0 0 0 0).slots) (s₁.setTop (entryFrame m #[(.ref b1), (.ref a1)] 2))
  refine Go.via (fun t k => castTop (ef_rmBE_L m b1 a1) k) ?_
  refine Go.via (fun _ => XS.aloadN X0.here hx rfl (hb hby d2_0) rfl rfl) ?_
  obtain ⟨T101, X101, e101, st101⟩ := Jvm.RoadKit.instNo X0 hx hZ hown (ow hw 47 rfl) e0 E1 (NS.no (ow hw 48 rfl) (ow hw 97 rfl) (NS.step (ow hw 48 rfl) (NS.step (ow hw 49 rfl) (NS.root (ow hw 50 rfl) (ow hw 97 rfl) (by decide)) (by decide)) (by decide)) (by decide)) (g := (mkF m 1 #[rv b1, rv a1] [(.ref a1)])) rfl rfl (hb hby d2_1)
  refine Go.via st101 ?_
  refine Go.via (fun _ => XS.ifYes X101.here hx rfl (pc0 := 4) (pc' := 27) rfl (hb hby d2_4) rfl (by decide) (by decide) (by decide)) ?_
  refine Go.via (fun _ => XS.iconst X101.here hx rfl (hb hby d2_27)) ?_
  exact own_retN X101 hx hlk (t := .boolean) Bd.returns (by simp) (hb hby d2_28) (by show QBE_L Z b1 a1 h0 n0 _ T101.heap _; rw [e101]; exact ⟨rfl, N0, rfl⟩) (by decide) (by decide)
theorem ef_rmBE_S (m : MethodId) (x0 : Addr) (x1 : Addr) : entryFrame m #[(.ref x0), (.ref x1)] 2 = mkF m 0 #[rv x0, rv x1] [] := by first | (simp [entryFrame, mkF, argsToLocals, Value.category]; done) | rfl
def QBE_S (Z : State) (b1 : Addr) (a1 : Addr) (h0 : Heap) (n0 : Nat) (v : Option Value) (h : Heap) (L : List Loc) : Prop := v = some (.int (0 : Int32)) ∧ Fr n0 L ∧ h = h0
set_option maxRecDepth 65536 in
set_option maxHeartbeats 40000000 in
theorem rmBE_S (l : Launch) (Z : State) (a0 : Array Value) (hw : TW Z a0) (ws : List Jvm.Cond) (b1 : Addr) (a1 : Addr) (h0 : Heap) (n0 : Nat) (Z0 : n0 ≤ h0.size) (FT : Fld Z h0 b1 "java/lang/Boolean" "value" "Z" (.int (1 : Int32))) (E1 : Exa Z h0 a1 "java/lang/String") :
    MF l Z (⟨"java/lang/Boolean", "equals", "(Ljava/lang/Object;)Z"⟩ : MethodName) jdk_2055_method_11_code 2 (some .boolean) ws (rmm 0 0 0 0) #[(.ref b1), (.ref a1)] h0 (QBE_S Z b1 a1 h0 n0) := by
  refine MetFree.of_bodySF (plainFor_of_name pn_java_lang_Boolean) hisR ?_
  intro p e s m args below meth c s₁ Bd hml0 hP hK
  obtain ⟨rfl, hZ, hh⟩ := hP
  have hx := Bd.exec
  have hby := Bd.bytes
  have hlk : meth.locks = false := Bd.notSynchronized
  have hml : c.maxLocals = 2 := hml0
  have hown : s.vm.findClass "java/lang/Boolean" = some m.cls := findClass_of_methodNamed Bd.named
  have hnm := (name_of_methodNamed Bd.named Bd.method).1
  have X0 : Stand p l e (rmm 0 0 0 0) s m #[(.ref b1), (.ref a1)] below meth c s₁ [] 0 0 := Stand.of_body Bd
  have e0 : s₁.heap = h0 := by rw [← hh, Bd.state]; rfl
  have N0 := Fr.nil n0
  show Go p e below (FinE s below (QBE_S Z b1 a1 h0 n0) (rmm 0 0 0 0).cells (rmm 0 0 0 0).slots) (s₁.setTop (entryFrame m #[(.ref b1), (.ref a1)] 2))
  refine Go.via (fun t k => castTop (ef_rmBE_S m b1 a1) k) ?_
  refine Go.via (fun _ => XS.aloadN X0.here hx rfl (hb hby d2_0) rfl rfl) ?_
  obtain ⟨T101, X101, e101, st101⟩ := Jvm.RoadKit.instNo X0 hx hZ hown (ow hw 47 rfl) e0 E1 (NS.no (ow hw 91 rfl) (ow hw 97 rfl) (NS.step (ow hw 91 rfl) (NS.root (ow hw 50 rfl) (ow hw 97 rfl) (by decide)) (by decide)) (by decide)) (g := (mkF m 1 #[rv b1, rv a1] [(.ref a1)])) rfl rfl (hb hby d2_1)
  refine Go.via st101 ?_
  refine Go.via (fun _ => XS.ifYes X101.here hx rfl (pc0 := 4) (pc' := 27) rfl (hb hby d2_4) rfl (by decide) (by decide) (by decide)) ?_
  refine Go.via (fun _ => XS.iconst X101.here hx rfl (hb hby d2_27)) ?_
  exact own_retN X101 hx hlk (t := .boolean) Bd.returns (by simp) (hb hby d2_28) (by show QBE_S Z b1 a1 h0 n0 _ T101.heap _; rw [e101]; exact ⟨rfl, N0, rfl⟩) (by decide) (by decide)
theorem ef_rmLE_0 (m : MethodId) (x0 : Addr) (x1 : Addr) : entryFrame m #[(.ref x0), (.ref x1)] 3 = mkF m 0 #[rv x0, rv x1, .unset] [] := by first | (simp [entryFrame, mkF, argsToLocals, Value.category]; done) | rfl
def QLE_0 (Z : State) (t1 : Addr) (k1 : ClassId) (t2 : Addr) (k2 : ClassId) (zz : Int32) (vs : List Value) (h0 : Heap) (n0 : Nat) (v : Option Value) (h : Heap) (L : List Loc) : Prop := v = some (.int (0 : Int32)) ∧ Fr n0 L ∧ h = h0
set_option maxRecDepth 65536 in
set_option maxHeartbeats 40000000 in
theorem rmLE_0 (l : Launch) (Z : State) (a0 : Array Value) (hw : TW Z a0) (ws : List Jvm.Cond) (t1 : Addr) (k1 : ClassId) (t2 : Addr) (k2 : ClassId) (zz : Int32) (vs : List Value) (h0 : Heap) (n0 : Nat) (Z0 : n0 ≤ h0.size) (VX : Arv Z h0 t1 k1 .byte (4 : Int32) [(.int (116 : Int32)), (.int (114 : Int32)), (.int (117 : Int32)), (.int (101 : Int32))] (.int (0 : Int32))) (V2 : Arv Z h0 t2 k2 .byte zz vs (.int (0 : Int32))) (hz : ¬ ((4 : Int32) = zz)) :
    MF l Z (⟨"java/lang/StringLatin1", "equals", "([B[B)Z"⟩ : MethodName) jdk_43_method_13_code 3 (some .boolean) ws (rmm 0 0 0 0) #[(.ref t1), (.ref t2)] h0 (QLE_0 Z t1 k1 t2 k2 zz vs h0 n0) := by
  refine MetFree.of_bodySF (plainFor_of_name pn_java_lang_StringLatin1) hisR ?_
  intro p e s m args below meth c s₁ Bd hml0 hP hK
  obtain ⟨rfl, hZ, hh⟩ := hP
  have hx := Bd.exec
  have hby := Bd.bytes
  have hlk : meth.locks = false := Bd.notSynchronized
  have hml : c.maxLocals = 3 := hml0
  have hown : s.vm.findClass "java/lang/StringLatin1" = some m.cls := findClass_of_methodNamed Bd.named
  have hnm := (name_of_methodNamed Bd.named Bd.method).1
  have X0 : Stand p l e (rmm 0 0 0 0) s m #[(.ref t1), (.ref t2)] below meth c s₁ [] 0 0 := Stand.of_body Bd
  have e0 : s₁.heap = h0 := by rw [← hh, Bd.state]; rfl
  have N0 := Fr.nil n0
  show Go p e below (FinE s below (QLE_0 Z t1 k1 t2 k2 zz vs h0 n0) (rmm 0 0 0 0).cells (rmm 0 0 0 0).slots) (s₁.setTop (entryFrame m #[(.ref t1), (.ref t2)] 3))
  refine Go.via (fun t k => castTop (ef_rmLE_0 m t1 t2) k) ?_
  refine Go.via (fun _ => XS.aloadN X0.here hx rfl (hb hby d16_0) rfl rfl) ?_
  obtain ⟨cl101, Ar101, -, S101, N101n, -, -⟩ := id VX
  have al101 := X0.arraylength hx (by rw [e0]; exact Ar101.1) (State.isArrayOf_alike hZ.alike Ar101.2.1) (g := (mkF m 1 #[rv t1, rv t2, .unset] [(.ref t1)])) rfl rfl (hb hby d16_1)
  rw [len_of S101 N101n] at al101
  refine Go.via al101 ?_
  refine Go.via (fun _ => XS.aloadN X0.here hx rfl (hb hby d16_2) rfl rfl) ?_
  obtain ⟨cl102, Ar102, -, S102, N102n, -, -⟩ := id V2
  have al102 := X0.arraylength hx (by rw [e0]; exact Ar102.1) (State.isArrayOf_alike hZ.alike Ar102.2.1) (g := (mkF m 3 #[rv t1, rv t2, .unset] [(.ref t2), (.int (4 : Int32))])) rfl rfl (hb hby d16_3)
  rw [len_of S102 N102n] at al102
  refine Go.via al102 ?_
  refine Go.via (fun _ => XS.icmpYes X0.here hx rfl (pc0 := 4) (pc' := 34) rfl (hb hby d16_4) rfl (feq hz).2 (by decide) (by decide)) ?_
  show Go p e below _ (s₁.setTop (mkF m 34 #[rv t1, rv t2, .unset] []))
  refine Go.via (fun _ => XS.iconst X0.here hx rfl (hb hby d16_34)) ?_
  exact own_retN X0 hx hlk (t := .boolean) Bd.returns (by simp) (hb hby d16_35) (by show QLE_0 Z t1 k1 t2 k2 zz vs h0 n0 _ s₁.heap _; rw [e0]; exact ⟨rfl, N0, rfl⟩) (by decide) (by decide)
theorem ef_rmLE_1 (m : MethodId) (x0 : Addr) (x1 : Addr) : entryFrame m #[(.ref x0), (.ref x1)] 3 = mkF m 0 #[rv x0, rv x1, .unset] [] := by first | (simp [entryFrame, mkF, argsToLocals, Value.category]; done) | rfl
def QLE_1 (Z : State) (t1 : Addr) (k1 : ClassId) (t2 : Addr) (k2 : ClassId) (y0 : Int32) (y1 : Int32) (y2 : Int32) (y3 : Int32) (h0 : Heap) (n0 : Nat) (v : Option Value) (h : Heap) (L : List Loc) : Prop := v = some (.int (eqF y0 y1 y2 y3)) ∧ Fr n0 L ∧ h = h0
set_option maxRecDepth 65536 in
set_option maxHeartbeats 40000000 in
theorem rmLE_1 (l : Launch) (Z : State) (a0 : Array Value) (hw : TW Z a0) (ws : List Jvm.Cond) (t1 : Addr) (k1 : ClassId) (t2 : Addr) (k2 : ClassId) (y0 : Int32) (y1 : Int32) (y2 : Int32) (y3 : Int32) (h0 : Heap) (n0 : Nat) (Z0 : n0 ≤ h0.size) (VX : Arv Z h0 t1 k1 .byte (4 : Int32) [(.int (116 : Int32)), (.int (114 : Int32)), (.int (117 : Int32)), (.int (101 : Int32))] (.int (0 : Int32))) (V2 : Arv Z h0 t2 k2 .byte (4 : Int32) [(.int y0), (.int y1), (.int y2), (.int y3)] (.int (0 : Int32))) :
    MF l Z (⟨"java/lang/StringLatin1", "equals", "([B[B)Z"⟩ : MethodName) jdk_43_method_13_code 3 (some .boolean) ws (rmm 0 0 0 0) #[(.ref t1), (.ref t2)] h0 (QLE_1 Z t1 k1 t2 k2 y0 y1 y2 y3 h0 n0) := by
  refine MetFree.of_bodySF (plainFor_of_name pn_java_lang_StringLatin1) hisR ?_
  intro p e s m args below meth c s₁ Bd hml0 hP hK
  obtain ⟨rfl, hZ, hh⟩ := hP
  have hx := Bd.exec
  have hby := Bd.bytes
  have hlk : meth.locks = false := Bd.notSynchronized
  have hml : c.maxLocals = 3 := hml0
  have hown : s.vm.findClass "java/lang/StringLatin1" = some m.cls := findClass_of_methodNamed Bd.named
  have hnm := (name_of_methodNamed Bd.named Bd.method).1
  have X0 : Stand p l e (rmm 0 0 0 0) s m #[(.ref t1), (.ref t2)] below meth c s₁ [] 0 0 := Stand.of_body Bd
  have e0 : s₁.heap = h0 := by rw [← hh, Bd.state]; rfl
  have N0 := Fr.nil n0
  show Go p e below (FinE s below (QLE_1 Z t1 k1 t2 k2 y0 y1 y2 y3 h0 n0) (rmm 0 0 0 0).cells (rmm 0 0 0 0).slots) (s₁.setTop (entryFrame m #[(.ref t1), (.ref t2)] 3))
  refine Go.via (fun t k => castTop (ef_rmLE_1 m t1 t2) k) ?_
  refine Go.via (fun _ => XS.aloadN X0.here hx rfl (hb hby d16_0) rfl rfl) ?_
  obtain ⟨cl101, Ar101, -, S101, N101n, -, -⟩ := id VX
  have al101 := X0.arraylength hx (by rw [e0]; exact Ar101.1) (State.isArrayOf_alike hZ.alike Ar101.2.1) (g := (mkF m 1 #[rv t1, rv t2, .unset] [(.ref t1)])) rfl rfl (hb hby d16_1)
  rw [len_of S101 N101n] at al101
  refine Go.via al101 ?_
  refine Go.via (fun _ => XS.aloadN X0.here hx rfl (hb hby d16_2) rfl rfl) ?_
  obtain ⟨cl102, Ar102, -, S102, N102n, -, -⟩ := id V2
  have al102 := X0.arraylength hx (by rw [e0]; exact Ar102.1) (State.isArrayOf_alike hZ.alike Ar102.2.1) (g := (mkF m 3 #[rv t1, rv t2, .unset] [(.ref t2), (.int (4 : Int32))])) rfl rfl (hb hby d16_3)
  rw [len_of S102 N102n] at al102
  refine Go.via al102 ?_
  refine Go.via (fun _ => XS.icmpNo X0.here hx rfl (hb hby d16_4) rfl (by decide)) ?_
  show Go p e below _ (s₁.setTop (mkF m 7 #[rv t1, rv t2, .unset] []))
  refine Go.via (fun _ => XS.iconst X0.here hx rfl (hb hby d16_7)) ?_
  refine Go.via (fun _ => XS.istoreN X0.here hx rfl (hb hby d16_8) rfl (l' := #[rv t1, rv t2, iv (0 : Int32)]) rfl) ?_
  refine Go.via (fun _ => XS.iloadN X0.here hx rfl (hb hby d16_9) rfl) ?_
  refine Go.via (fun _ => XS.aloadN X0.here hx rfl (hb hby d16_10) rfl rfl) ?_
  obtain ⟨cl103, Ar103, -, S103, N103n, -, -⟩ := id VX
  have al103 := X0.arraylength hx (by rw [e0]; exact Ar103.1) (State.isArrayOf_alike hZ.alike Ar103.2.1) (g := (mkF m 11 #[rv t1, rv t2, iv (0 : Int32)] [(.ref t1), (.int (0 : Int32))])) rfl rfl (hb hby d16_11)
  rw [len_of S103 N103n] at al103
  refine Go.via al103 ?_
  refine Go.via (fun _ => XS.icmpNo X0.here hx rfl (hb hby d16_12) rfl (by decide)) ?_
  show Go p e below _ (s₁.setTop (mkF m 15 #[rv t1, rv t2, iv (0 : Int32)] []))
  refine Go.via (fun _ => XS.aloadN X0.here hx rfl (hb hby d16_15) rfl rfl) ?_
  refine Go.via (fun _ => XS.iloadN X0.here hx rfl (hb hby d16_16) rfl) ?_
  obtain ⟨cl104, Ar104, q104, S104, N104n, H104, G104⟩ := id VX
  have hin104 := inb_of (j := (0 : Int32)) S104 (by decide)
  have hat104 : cl104.slots[((0 : Int32) : Int32).toNatClampNeg]? = some (.int (116 : Int32)) := H104.at hin104 rfl
  refine Go.via (X0.baloadBytes hx (j := (0 : Int32)) (v := (.int (116 : Int32))) (by rw [e0]; exact Ar104.1) (State.isArrayOf_alike hZ.alike Ar104.2.1) Ar104.2.2 hin104 hat104 (g := (mkF m 17 #[rv t1, rv t2, iv (0 : Int32)] [(.int (0 : Int32)), (.ref t1)])) rfl rfl (hb hby d16_17)) ?_
  refine Go.via (fun _ => XS.aloadN X0.here hx rfl (hb hby d16_18) rfl rfl) ?_
  refine Go.via (fun _ => XS.iloadN X0.here hx rfl (hb hby d16_19) rfl) ?_
  obtain ⟨cl105, Ar105, q105, S105, N105n, H105, G105⟩ := id V2
  have hin105 := inb_of (j := (0 : Int32)) S105 (by decide)
  have hat105 : cl105.slots[((0 : Int32) : Int32).toNatClampNeg]? = some (.int y0) := H105.at hin105 rfl
  refine Go.via (X0.baloadBytes hx (j := (0 : Int32)) (v := (.int y0)) (by rw [e0]; exact Ar105.1) (State.isArrayOf_alike hZ.alike Ar105.2.1) Ar105.2.2 hin105 hat105 (g := (mkF m 20 #[rv t1, rv t2, iv (0 : Int32)] [(.int (0 : Int32)), (.ref t2), (.int (116 : Int32))])) rfl rfl (hb hby d16_20)) ?_
  show Go p e below _ (s₁.setTop (mkF m 21 #[rv t1, rv t2, iv (0 : Int32)] [(.int y0), (.int (116 : Int32))]))
  by_cases hc106 : (116 : Int32) = y0
  · -- yes
    refine Go.via (fun _ => XS.icmpYes X0.here hx rfl (pc0 := 21) (pc' := 26) rfl (hb hby d16_21) rfl (teq hc106).1 (by decide) (by decide)) ?_
    refine Go.via (fun _ => XS.iinc X0.here hx rfl (hb hby d16_26) rfl (l' := #[rv t1, rv t2, iv (1 : Int32)]) rfl) ?_
    refine Go.via (fun _ => XS.goto X0.here hx rfl (pc0 := 29) (pc' := 9) rfl (hb hby d16_29) (by decide) (by decide)) ?_
    refine Go.via (fun _ => XS.iloadN X0.here hx rfl (hb hby d16_9) rfl) ?_
    show Go p e below _ (s₁.setTop (mkF m 10 #[rv t1, rv t2, iv (1 : Int32)] [(.int (1 : Int32))]))
    refine Go.via (fun _ => XS.aloadN X0.here hx rfl (hb hby d16_10) rfl rfl) ?_
    obtain ⟨cl107, Ar107, -, S107, N107n, -, -⟩ := id VX
    have al107 := X0.arraylength hx (by rw [e0]; exact Ar107.1) (State.isArrayOf_alike hZ.alike Ar107.2.1) (g := (mkF m 11 #[rv t1, rv t2, iv (1 : Int32)] [(.ref t1), (.int (1 : Int32))])) rfl rfl (hb hby d16_11)
    rw [len_of S107 N107n] at al107
    refine Go.via al107 ?_
    refine Go.via (fun _ => XS.icmpNo X0.here hx rfl (hb hby d16_12) rfl (by decide)) ?_
    refine Go.via (fun _ => XS.aloadN X0.here hx rfl (hb hby d16_15) rfl rfl) ?_
    refine Go.via (fun _ => XS.iloadN X0.here hx rfl (hb hby d16_16) rfl) ?_
    obtain ⟨cl108, Ar108, q108, S108, N108n, H108, G108⟩ := id VX
    have hin108 := inb_of (j := (1 : Int32)) S108 (by decide)
    have hat108 : cl108.slots[((1 : Int32) : Int32).toNatClampNeg]? = some (.int (114 : Int32)) := H108.at hin108 rfl
    refine Go.via (X0.baloadBytes hx (j := (1 : Int32)) (v := (.int (114 : Int32))) (by rw [e0]; exact Ar108.1) (State.isArrayOf_alike hZ.alike Ar108.2.1) Ar108.2.2 hin108 hat108 (g := (mkF m 17 #[rv t1, rv t2, iv (1 : Int32)] [(.int (1 : Int32)), (.ref t1)])) rfl rfl (hb hby d16_17)) ?_
    show Go p e below _ (s₁.setTop (mkF m 18 #[rv t1, rv t2, iv (1 : Int32)] [(.int (114 : Int32))]))
    refine Go.via (fun _ => XS.aloadN X0.here hx rfl (hb hby d16_18) rfl rfl) ?_
    refine Go.via (fun _ => XS.iloadN X0.here hx rfl (hb hby d16_19) rfl) ?_
    obtain ⟨cl109, Ar109, q109, S109, N109n, H109, G109⟩ := id V2
    have hin109 := inb_of (j := (1 : Int32)) S109 (by decide)
    have hat109 : cl109.slots[((1 : Int32) : Int32).toNatClampNeg]? = some (.int y1) := H109.at hin109 rfl
    refine Go.via (X0.baloadBytes hx (j := (1 : Int32)) (v := (.int y1)) (by rw [e0]; exact Ar109.1) (State.isArrayOf_alike hZ.alike Ar109.2.1) Ar109.2.2 hin109 hat109 (g := (mkF m 20 #[rv t1, rv t2, iv (1 : Int32)] [(.int (1 : Int32)), (.ref t2), (.int (114 : Int32))])) rfl rfl (hb hby d16_20)) ?_
    by_cases hc110 : (114 : Int32) = y1
    · -- yes
      refine Go.via (fun _ => XS.icmpYes X0.here hx rfl (pc0 := 21) (pc' := 26) rfl (hb hby d16_21) rfl (teq hc110).1 (by decide) (by decide)) ?_
      show Go p e below _ (s₁.setTop (mkF m 26 #[rv t1, rv t2, iv (1 : Int32)] []))
      refine Go.via (fun _ => XS.iinc X0.here hx rfl (hb hby d16_26) rfl (l' := #[rv t1, rv t2, iv (2 : Int32)]) rfl) ?_
      refine Go.via (fun _ => XS.goto X0.here hx rfl (pc0 := 29) (pc' := 9) rfl (hb hby d16_29) (by decide) (by decide)) ?_
      refine Go.via (fun _ => XS.iloadN X0.here hx rfl (hb hby d16_9) rfl) ?_
      refine Go.via (fun _ => XS.aloadN X0.here hx rfl (hb hby d16_10) rfl rfl) ?_
      obtain ⟨cl111, Ar111, -, S111, N111n, -, -⟩ := id VX
      have al111 := X0.arraylength hx (by rw [e0]; exact Ar111.1) (State.isArrayOf_alike hZ.alike Ar111.2.1) (g := (mkF m 11 #[rv t1, rv t2, iv (2 : Int32)] [(.ref t1), (.int (2 : Int32))])) rfl rfl (hb hby d16_11)
      rw [len_of S111 N111n] at al111
      refine Go.via al111 ?_
      refine Go.via (fun _ => XS.icmpNo X0.here hx rfl (hb hby d16_12) rfl (by decide)) ?_
      show Go p e below _ (s₁.setTop (mkF m 15 #[rv t1, rv t2, iv (2 : Int32)] []))
      refine Go.via (fun _ => XS.aloadN X0.here hx rfl (hb hby d16_15) rfl rfl) ?_
      refine Go.via (fun _ => XS.iloadN X0.here hx rfl (hb hby d16_16) rfl) ?_
      obtain ⟨cl112, Ar112, q112, S112, N112n, H112, G112⟩ := id VX
      have hin112 := inb_of (j := (2 : Int32)) S112 (by decide)
      have hat112 : cl112.slots[((2 : Int32) : Int32).toNatClampNeg]? = some (.int (117 : Int32)) := H112.at hin112 rfl
      refine Go.via (X0.baloadBytes hx (j := (2 : Int32)) (v := (.int (117 : Int32))) (by rw [e0]; exact Ar112.1) (State.isArrayOf_alike hZ.alike Ar112.2.1) Ar112.2.2 hin112 hat112 (g := (mkF m 17 #[rv t1, rv t2, iv (2 : Int32)] [(.int (2 : Int32)), (.ref t1)])) rfl rfl (hb hby d16_17)) ?_
      refine Go.via (fun _ => XS.aloadN X0.here hx rfl (hb hby d16_18) rfl rfl) ?_
      refine Go.via (fun _ => XS.iloadN X0.here hx rfl (hb hby d16_19) rfl) ?_
      obtain ⟨cl113, Ar113, q113, S113, N113n, H113, G113⟩ := id V2
      have hin113 := inb_of (j := (2 : Int32)) S113 (by decide)
      have hat113 : cl113.slots[((2 : Int32) : Int32).toNatClampNeg]? = some (.int y2) := H113.at hin113 rfl
      refine Go.via (X0.baloadBytes hx (j := (2 : Int32)) (v := (.int y2)) (by rw [e0]; exact Ar113.1) (State.isArrayOf_alike hZ.alike Ar113.2.1) Ar113.2.2 hin113 hat113 (g := (mkF m 20 #[rv t1, rv t2, iv (2 : Int32)] [(.int (2 : Int32)), (.ref t2), (.int (117 : Int32))])) rfl rfl (hb hby d16_20)) ?_
      show Go p e below _ (s₁.setTop (mkF m 21 #[rv t1, rv t2, iv (2 : Int32)] [(.int y2), (.int (117 : Int32))]))
      by_cases hc114 : (117 : Int32) = y2
      · -- yes
        refine Go.via (fun _ => XS.icmpYes X0.here hx rfl (pc0 := 21) (pc' := 26) rfl (hb hby d16_21) rfl (teq hc114).1 (by decide) (by decide)) ?_
        refine Go.via (fun _ => XS.iinc X0.here hx rfl (hb hby d16_26) rfl (l' := #[rv t1, rv t2, iv (3 : Int32)]) rfl) ?_
        refine Go.via (fun _ => XS.goto X0.here hx rfl (pc0 := 29) (pc' := 9) rfl (hb hby d16_29) (by decide) (by decide)) ?_
        refine Go.via (fun _ => XS.iloadN X0.here hx rfl (hb hby d16_9) rfl) ?_
        show Go p e below _ (s₁.setTop (mkF m 10 #[rv t1, rv t2, iv (3 : Int32)] [(.int (3 : Int32))]))
        refine Go.via (fun _ => XS.aloadN X0.here hx rfl (hb hby d16_10) rfl rfl) ?_
        obtain ⟨cl115, Ar115, -, S115, N115n, -, -⟩ := id VX
        have al115 := X0.arraylength hx (by rw [e0]; exact Ar115.1) (State.isArrayOf_alike hZ.alike Ar115.2.1) (g := (mkF m 11 #[rv t1, rv t2, iv (3 : Int32)] [(.ref t1), (.int (3 : Int32))])) rfl rfl (hb hby d16_11)
        rw [len_of S115 N115n] at al115
        refine Go.via al115 ?_
        refine Go.via (fun _ => XS.icmpNo X0.here hx rfl (hb hby d16_12) rfl (by decide)) ?_
        refine Go.via (fun _ => XS.aloadN X0.here hx rfl (hb hby d16_15) rfl rfl) ?_
        refine Go.via (fun _ => XS.iloadN X0.here hx rfl (hb hby d16_16) rfl) ?_
        obtain ⟨cl116, Ar116, q116, S116, N116n, H116, G116⟩ := id VX
        have hin116 := inb_of (j := (3 : Int32)) S116 (by decide)
        have hat116 : cl116.slots[((3 : Int32) : Int32).toNatClampNeg]? = some (.int (101 : Int32)) := H116.at hin116 rfl
        refine Go.via (X0.baloadBytes hx (j := (3 : Int32)) (v := (.int (101 : Int32))) (by rw [e0]; exact Ar116.1) (State.isArrayOf_alike hZ.alike Ar116.2.1) Ar116.2.2 hin116 hat116 (g := (mkF m 17 #[rv t1, rv t2, iv (3 : Int32)] [(.int (3 : Int32)), (.ref t1)])) rfl rfl (hb hby d16_17)) ?_
        show Go p e below _ (s₁.setTop (mkF m 18 #[rv t1, rv t2, iv (3 : Int32)] [(.int (101 : Int32))]))
        refine Go.via (fun _ => XS.aloadN X0.here hx rfl (hb hby d16_18) rfl rfl) ?_
        refine Go.via (fun _ => XS.iloadN X0.here hx rfl (hb hby d16_19) rfl) ?_
        obtain ⟨cl117, Ar117, q117, S117, N117n, H117, G117⟩ := id V2
        have hin117 := inb_of (j := (3 : Int32)) S117 (by decide)
        have hat117 : cl117.slots[((3 : Int32) : Int32).toNatClampNeg]? = some (.int y3) := H117.at hin117 rfl
        refine Go.via (X0.baloadBytes hx (j := (3 : Int32)) (v := (.int y3)) (by rw [e0]; exact Ar117.1) (State.isArrayOf_alike hZ.alike Ar117.2.1) Ar117.2.2 hin117 hat117 (g := (mkF m 20 #[rv t1, rv t2, iv (3 : Int32)] [(.int (3 : Int32)), (.ref t2), (.int (101 : Int32))])) rfl rfl (hb hby d16_20)) ?_
        by_cases hc118 : (101 : Int32) = y3
        · -- yes
          refine Go.via (fun _ => XS.icmpYes X0.here hx rfl (pc0 := 21) (pc' := 26) rfl (hb hby d16_21) rfl (teq hc118).1 (by decide) (by decide)) ?_
          show Go p e below _ (s₁.setTop (mkF m 26 #[rv t1, rv t2, iv (3 : Int32)] []))
          refine Go.via (fun _ => XS.iinc X0.here hx rfl (hb hby d16_26) rfl (l' := #[rv t1, rv t2, iv (4 : Int32)]) rfl) ?_
          refine Go.via (fun _ => XS.goto X0.here hx rfl (pc0 := 29) (pc' := 9) rfl (hb hby d16_29) (by decide) (by decide)) ?_
          refine Go.via (fun _ => XS.iloadN X0.here hx rfl (hb hby d16_9) rfl) ?_
          refine Go.via (fun _ => XS.aloadN X0.here hx rfl (hb hby d16_10) rfl rfl) ?_
          obtain ⟨cl119, Ar119, -, S119, N119n, -, -⟩ := id VX
          have al119 := X0.arraylength hx (by rw [e0]; exact Ar119.1) (State.isArrayOf_alike hZ.alike Ar119.2.1) (g := (mkF m 11 #[rv t1, rv t2, iv (4 : Int32)] [(.ref t1), (.int (4 : Int32))])) rfl rfl (hb hby d16_11)
          rw [len_of S119 N119n] at al119
          refine Go.via al119 ?_
          refine Go.via (fun _ => XS.icmpYes X0.here hx rfl (pc0 := 12) (pc' := 32) rfl (hb hby d16_12) rfl (by decide) (by decide) (by decide)) ?_
          show Go p e below _ (s₁.setTop (mkF m 32 #[rv t1, rv t2, iv (4 : Int32)] []))
          refine Go.via (fun _ => XS.iconst X0.here hx rfl (hb hby d16_32)) ?_
          exact own_retN X0 hx hlk (t := .boolean) Bd.returns (by simp) (hb hby d16_33) (by show QLE_1 Z t1 k1 t2 k2 y0 y1 y2 y3 h0 n0 _ s₁.heap _; rw [e0]; exact ⟨by rw [eqF, if_pos hc106, if_pos hc110, if_pos hc114, if_pos hc118] <;> rfl, N0, rfl⟩) (by decide) (by decide)
        · -- no
          refine Go.via (fun _ => XS.icmpNo X0.here hx rfl (hb hby d16_21) rfl (feq hc118).1) ?_
          show Go p e below _ (s₁.setTop (mkF m 24 #[rv t1, rv t2, iv (3 : Int32)] []))
          refine Go.via (fun _ => XS.iconst X0.here hx rfl (hb hby d16_24)) ?_
          exact own_retN X0 hx hlk (t := .boolean) Bd.returns (by simp) (hb hby d16_25) (by show QLE_1 Z t1 k1 t2 k2 y0 y1 y2 y3 h0 n0 _ s₁.heap _; rw [e0]; exact ⟨by rw [eqF, if_pos hc106, if_pos hc110, if_pos hc114, if_neg hc118] <;> rfl, N0, rfl⟩) (by decide) (by decide)
      · -- no
        refine Go.via (fun _ => XS.icmpNo X0.here hx rfl (hb hby d16_21) rfl (feq hc114).1) ?_
        refine Go.via (fun _ => XS.iconst X0.here hx rfl (hb hby d16_24)) ?_
        exact own_retN X0 hx hlk (t := .boolean) Bd.returns (by simp) (hb hby d16_25) (by show QLE_1 Z t1 k1 t2 k2 y0 y1 y2 y3 h0 n0 _ s₁.heap _; rw [e0]; exact ⟨by rw [eqF, if_pos hc106, if_pos hc110, if_neg hc114] <;> rfl, N0, rfl⟩) (by decide) (by decide)
    · -- no
      refine Go.via (fun _ => XS.icmpNo X0.here hx rfl (hb hby d16_21) rfl (feq hc110).1) ?_
      show Go p e below _ (s₁.setTop (mkF m 24 #[rv t1, rv t2, iv (1 : Int32)] []))
      refine Go.via (fun _ => XS.iconst X0.here hx rfl (hb hby d16_24)) ?_
      exact own_retN X0 hx hlk (t := .boolean) Bd.returns (by simp) (hb hby d16_25) (by show QLE_1 Z t1 k1 t2 k2 y0 y1 y2 y3 h0 n0 _ s₁.heap _; rw [e0]; exact ⟨by rw [eqF, if_pos hc106, if_neg hc110] <;> rfl, N0, rfl⟩) (by decide) (by decide)
  · -- no
    refine Go.via (fun _ => XS.icmpNo X0.here hx rfl (hb hby d16_21) rfl (feq hc106).1) ?_
    refine Go.via (fun _ => XS.iconst X0.here hx rfl (hb hby d16_24)) ?_
    exact own_retN X0 hx hlk (t := .boolean) Bd.returns (by simp) (hb hby d16_25) (by show QLE_1 Z t1 k1 t2 k2 y0 y1 y2 y3 h0 n0 _ s₁.heap _; rw [e0]; exact ⟨by rw [eqF, if_neg hc106] <;> rfl, N0, rfl⟩) (by decide) (by decide)
theorem ef_rmSE_null (m : MethodId) (x0 : Addr) : entryFrame m #[(.ref x0), .null] 3 = mkF m 0 #[rv x0, .val .null, .unset] [] := by first | (simp [entryFrame, mkF, argsToLocals, Value.category]; done) | rfl
def QSE_null (Z : State) (x1 : Addr) (h0 : Heap) (n0 : Nat) (v : Option Value) (h : Heap) (L : List Loc) : Prop := v = some (.int (0 : Int32)) ∧ Fr n0 L ∧ h = h0
set_option maxRecDepth 65536 in
set_option maxHeartbeats 40000000 in
theorem rmSE_null (l : Launch) (Z : State) (a0 : Array Value) (hw : TW Z a0) (ws : List Jvm.Cond) (x1 : Addr) (h0 : Heap) (n0 : Nat) (Z0 : n0 ≤ h0.size) :
    MF l Z (⟨"java/lang/String", "equals", "(Ljava/lang/Object;)Z"⟩ : MethodName) jdk_42_method_66_code 3 (some .boolean) ws (rmm 0 0 0 0) #[(.ref x1), .null] h0 (QSE_null Z x1 h0 n0) := by
  refine MetFree.of_bodySF (plainFor_of_name pn_java_lang_String) hisR ?_
  intro p e s m args below meth c s₁ Bd hml0 hP hK
  obtain ⟨rfl, hZ, hh⟩ := hP
  have hx := Bd.exec
  have hby := Bd.bytes
  have hlk : meth.locks = false := Bd.notSynchronized
  have hml : c.maxLocals = 3 := hml0
  have hown : s.vm.findClass "java/lang/String" = some m.cls := findClass_of_methodNamed Bd.named
  have hnm := (name_of_methodNamed Bd.named Bd.method).1
  have X0 : Stand p l e (rmm 0 0 0 0) s m #[(.ref x1), .null] below meth c s₁ [] 0 0 := Stand.of_body Bd
  have e0 : s₁.heap = h0 := by rw [← hh, Bd.state]; rfl
  have N0 := Fr.nil n0
  show Go p e below (FinE s below (QSE_null Z x1 h0 n0) (rmm 0 0 0 0).cells (rmm 0 0 0 0).slots) (s₁.setTop (entryFrame m #[(.ref x1), .null] 3))
  refine Go.via (fun t k => castTop (ef_rmSE_null m x1) k) ?_
  refine Go.via (fun _ => XS.aloadN X0.here hx rfl (hb hby d3_0) rfl rfl) ?_
  refine Go.via (fun _ => XS.aloadN X0.here hx rfl (hb hby d3_1) rfl rfl) ?_
  refine Go.via (fun _ => Jvm.RoadKit.acmp (g := (mkF m 2 #[rv x1, .val .null, .unset] [.null, (.ref x1)])) X0 hx rfl rfl rfl (pc0 := 2) (pc' := 7) (same := false) rfl (hb hby d3_2) rfl (decide_eq_false nofun) (by decide) (by decide)) ?_
  refine Go.via (fun _ => XS.aloadN X0.here hx rfl (hb hby d3_7) rfl rfl) ?_
  refine Go.via (X0.instanceofNull hx (g := (mkF m 8 #[rv x1, .val .null, .unset] [.null])) rfl rfl (hb hby d3_8)) ?_
  show Go p e below _ (s₁.setTop (mkF m 11 #[rv x1, .val .null, .unset] [(.int (0 : Int32))]))
  refine Go.via (fun _ => XS.ifYes X0.here hx rfl (pc0 := 11) (pc' := 54) rfl (hb hby d3_11) rfl (by decide) (by decide) (by decide)) ?_
  refine Go.via (fun _ => XS.iconst X0.here hx rfl (hb hby d3_54)) ?_
  exact own_retN X0 hx hlk (t := .boolean) Bd.returns (by simp) (hb hby d3_55) (by show QSE_null Z x1 h0 n0 _ s₁.heap _; rw [e0]; exact ⟨rfl, N0, rfl⟩) (by decide) (by decide)
theorem ef_rmSE_same (m : MethodId) (x0 : Addr) (x1 : Addr) : entryFrame m #[(.ref x0), (.ref x1)] 3 = mkF m 0 #[rv x0, rv x1, .unset] [] := by first | (simp [entryFrame, mkF, argsToLocals, Value.category]; done) | rfl
def QSE_same (Z : State) (a1 : Addr) (h0 : Heap) (n0 : Nat) (v : Option Value) (h : Heap) (L : List Loc) : Prop := v = some (.int (1 : Int32)) ∧ Fr n0 L ∧ h = h0
set_option maxRecDepth 65536 in
set_option maxHeartbeats 40000000 in
theorem rmSE_same (l : Launch) (Z : State) (a0 : Array Value) (hw : TW Z a0) (ws : List Jvm.Cond) (a1 : Addr) (h0 : Heap) (n0 : Nat) (Z0 : n0 ≤ h0.size) :
    MF l Z (⟨"java/lang/String", "equals", "(Ljava/lang/Object;)Z"⟩ : MethodName) jdk_42_method_66_code 3 (some .boolean) ws (rmm 0 0 0 0) #[(.ref a1), (.ref a1)] h0 (QSE_same Z a1 h0 n0) := by
  refine MetFree.of_bodySF (plainFor_of_name pn_java_lang_String) hisR ?_
  intro p e s m args below meth c s₁ Bd hml0 hP hK
  obtain ⟨rfl, hZ, hh⟩ := hP
  have hx := Bd.exec
  have hby := Bd.bytes
  have hlk : meth.locks = false := Bd.notSynchronized
  have hml : c.maxLocals = 3 := hml0
  have hown : s.vm.findClass "java/lang/String" = some m.cls := findClass_of_methodNamed Bd.named
  have hnm := (name_of_methodNamed Bd.named Bd.method).1
  have X0 : Stand p l e (rmm 0 0 0 0) s m #[(.ref a1), (.ref a1)] below meth c s₁ [] 0 0 := Stand.of_body Bd
  have e0 : s₁.heap = h0 := by rw [← hh, Bd.state]; rfl
  have N0 := Fr.nil n0
  show Go p e below (FinE s below (QSE_same Z a1 h0 n0) (rmm 0 0 0 0).cells (rmm 0 0 0 0).slots) (s₁.setTop (entryFrame m #[(.ref a1), (.ref a1)] 3))
  refine Go.via (fun t k => castTop (ef_rmSE_same m a1 a1) k) ?_
  refine Go.via (fun _ => XS.aloadN X0.here hx rfl (hb hby d3_0) rfl rfl) ?_
  refine Go.via (fun _ => XS.aloadN X0.here hx rfl (hb hby d3_1) rfl rfl) ?_
  refine Go.via (fun _ => Jvm.RoadKit.acmp (g := (mkF m 2 #[rv a1, rv a1, .unset] [(.ref a1), (.ref a1)])) X0 hx rfl rfl rfl (pc0 := 2) (pc' := 5) (same := true) rfl (hb hby d3_2) rfl (decide_eq_true rfl) (by decide) (by decide)) ?_
  refine Go.via (fun _ => XS.iconst X0.here hx rfl (hb hby d3_5)) ?_
  exact own_retN X0 hx hlk (t := .boolean) Bd.returns (by simp) (hb hby d3_6) (by show QSE_same Z a1 h0 n0 _ s₁.heap _; rw [e0]; exact ⟨rfl, N0, rfl⟩) (by decide) (by decide)
theorem ef_rmSE_0 (m : MethodId) (x0 : Addr) (x1 : Addr) : entryFrame m #[(.ref x0), (.ref x1)] 3 = mkF m 0 #[rv x0, rv x1, .unset] [] := by first | (simp [entryFrame, mkF, argsToLocals, Value.category]; done) | rfl
def QSE_0 (Z : State) (x1 : Addr) (a1 : Addr) (h0 : Heap) (n0 : Nat) (v : Option Value) (h : Heap) (L : List Loc) : Prop := v = some (.int (0 : Int32)) ∧ Fr n0 L ∧ h = h0
set_option maxRecDepth 65536 in
set_option maxHeartbeats 40000000 in
theorem rmSE_0 (l : Launch) (Z : State) (a0 : Array Value) (hw : TW Z a0) (ws : List Jvm.Cond) (x1 : Addr) (a1 : Addr) (h0 : Heap) (n0 : Nat) (Z0 : n0 ≤ h0.size) (ne1 : x1 ≠ a1) (E1 : Exa Z h0 a1 "java/lang/Boolean") :
    MF l Z (⟨"java/lang/String", "equals", "(Ljava/lang/Object;)Z"⟩ : MethodName) jdk_42_method_66_code 3 (some .boolean) ws (rmm 0 0 0 0) #[(.ref x1), (.ref a1)] h0 (QSE_0 Z x1 a1 h0 n0) := by
  refine MetFree.of_bodySF (plainFor_of_name pn_java_lang_String) hisR ?_
  intro p e s m args below meth c s₁ Bd hml0 hP hK
  obtain ⟨rfl, hZ, hh⟩ := hP
  have hx := Bd.exec
  have hby := Bd.bytes
  have hlk : meth.locks = false := Bd.notSynchronized
  have hml : c.maxLocals = 3 := hml0
  have hown : s.vm.findClass "java/lang/String" = some m.cls := findClass_of_methodNamed Bd.named
  have hnm := (name_of_methodNamed Bd.named Bd.method).1
  have X0 : Stand p l e (rmm 0 0 0 0) s m #[(.ref x1), (.ref a1)] below meth c s₁ [] 0 0 := Stand.of_body Bd
  have e0 : s₁.heap = h0 := by rw [← hh, Bd.state]; rfl
  have N0 := Fr.nil n0
  show Go p e below (FinE s below (QSE_0 Z x1 a1 h0 n0) (rmm 0 0 0 0).cells (rmm 0 0 0 0).slots) (s₁.setTop (entryFrame m #[(.ref x1), (.ref a1)] 3))
  refine Go.via (fun t k => castTop (ef_rmSE_0 m x1 a1) k) ?_
  refine Go.via (fun _ => XS.aloadN X0.here hx rfl (hb hby d3_0) rfl rfl) ?_
  refine Go.via (fun _ => XS.aloadN X0.here hx rfl (hb hby d3_1) rfl rfl) ?_
  refine Go.via (fun _ => Jvm.RoadKit.acmp (g := (mkF m 2 #[rv x1, rv a1, .unset] [(.ref a1), (.ref x1)])) X0 hx rfl rfl rfl (pc0 := 2) (pc' := 7) (same := false) rfl (hb hby d3_2) rfl (decide_eq_false fun q => (ne1) (Value.ref.inj q)) (by decide) (by decide)) ?_
  refine Go.via (fun _ => XS.aloadN X0.here hx rfl (hb hby d3_7) rfl rfl) ?_
  obtain ⟨T101, X101, e101, st101⟩ := Jvm.RoadKit.instNo X0 hx hZ hown (ow hw 51 rfl) e0 E1 (NS.no (ow hw 97 rfl) (ow hw 91 rfl) (NS.step (ow hw 97 rfl) (NS.root (ow hw 50 rfl) (ow hw 91 rfl) (by decide)) (by decide)) (by decide)) (g := (mkF m 8 #[rv x1, rv a1, .unset] [(.ref a1)])) rfl rfl (hb hby d3_8)
  refine Go.via st101 ?_
  show Go p e below _ (T101.setTop (mkF m 11 #[rv x1, rv a1, .unset] [(.int (0 : Int32))]))
  refine Go.via (fun _ => XS.ifYes X101.here hx rfl (pc0 := 11) (pc' := 54) rfl (hb hby d3_11) rfl (by decide) (by decide) (by decide)) ?_
  refine Go.via (fun _ => XS.iconst X101.here hx rfl (hb hby d3_54)) ?_
  exact own_retN X101 hx hlk (t := .boolean) Bd.returns (by simp) (hb hby d3_55) (by show QSE_0 Z x1 a1 h0 n0 _ T101.heap _; rw [e101]; exact ⟨rfl, N0, rfl⟩) (by decide) (by decide)
theorem ef_rmSE_L (m : MethodId) (x0 : Addr) (x1 : Addr) : entryFrame m #[(.ref x0), (.ref x1)] 3 = mkF m 0 #[rv x0, rv x1, .unset] [] := by first | (simp [entryFrame, mkF, argsToLocals, Value.category]; done) | rfl
def QSE_L (Z : State) (x1 : Addr) (a1 : Addr) (h0 : Heap) (n0 : Nat) (v : Option Value) (h : Heap) (L : List Loc) : Prop := v = some (.int (0 : Int32)) ∧ Fr n0 L ∧ h = h0
set_option maxRecDepth 65536 in
set_option maxHeartbeats 40000000 in
theorem rmSE_L (l : Launch) (Z : State) (a0 : Array Value) (hw : TW Z a0) (ws : List Jvm.Cond) (x1 : Addr) (a1 : Addr) (h0 : Heap) (n0 : Nat) (Z0 : n0 ≤ h0.size) (ne1 : x1 ≠ a1) (E1 : Exa Z h0 a1 "java/lang/Long") :
    MF l Z (⟨"java/lang/String", "equals", "(Ljava/lang/Object;)Z"⟩ : MethodName) jdk_42_method_66_code 3 (some .boolean) ws (rmm 0 0 0 0) #[(.ref x1), (.ref a1)] h0 (QSE_L Z x1 a1 h0 n0) := by
  refine MetFree.of_bodySF (plainFor_of_name pn_java_lang_String) hisR ?_
  intro p e s m args below meth c s₁ Bd hml0 hP hK
  obtain ⟨rfl, hZ, hh⟩ := hP
  have hx := Bd.exec
  have hby := Bd.bytes
  have hlk : meth.locks = false := Bd.notSynchronized
  have hml : c.maxLocals = 3 := hml0
  have hown : s.vm.findClass "java/lang/String" = some m.cls := findClass_of_methodNamed Bd.named
  have hnm := (name_of_methodNamed Bd.named Bd.method).1
  have X0 : Stand p l e (rmm 0 0 0 0) s m #[(.ref x1), (.ref a1)] below meth c s₁ [] 0 0 := Stand.of_body Bd
  have e0 : s₁.heap = h0 := by rw [← hh, Bd.state]; rfl
  have N0 := Fr.nil n0
  show Go p e below (FinE s below (QSE_L Z x1 a1 h0 n0) (rmm 0 0 0 0).cells (rmm 0 0 0 0).slots) (s₁.setTop (entryFrame m #[(.ref x1), (.ref a1)] 3))
  refine Go.via (fun t k => castTop (ef_rmSE_L m x1 a1) k) ?_
  refine Go.via (fun _ => XS.aloadN X0.here hx rfl (hb hby d3_0) rfl rfl) ?_
  refine Go.via (fun _ => XS.aloadN X0.here hx rfl (hb hby d3_1) rfl rfl) ?_
  refine Go.via (fun _ => Jvm.RoadKit.acmp (g := (mkF m 2 #[rv x1, rv a1, .unset] [(.ref a1), (.ref x1)])) X0 hx rfl rfl rfl (pc0 := 2) (pc' := 7) (same := false) rfl (hb hby d3_2) rfl (decide_eq_false fun q => (ne1) (Value.ref.inj q)) (by decide) (by decide)) ?_
  refine Go.via (fun _ => XS.aloadN X0.here hx rfl (hb hby d3_7) rfl rfl) ?_
  obtain ⟨T101, X101, e101, st101⟩ := Jvm.RoadKit.instNo X0 hx hZ hown (ow hw 51 rfl) e0 E1 (NS.no (ow hw 48 rfl) (ow hw 91 rfl) (NS.step (ow hw 48 rfl) (NS.step (ow hw 49 rfl) (NS.root (ow hw 50 rfl) (ow hw 91 rfl) (by decide)) (by decide)) (by decide)) (by decide)) (g := (mkF m 8 #[rv x1, rv a1, .unset] [(.ref a1)])) rfl rfl (hb hby d3_8)
  refine Go.via st101 ?_
  show Go p e below _ (T101.setTop (mkF m 11 #[rv x1, rv a1, .unset] [(.int (0 : Int32))]))
  refine Go.via (fun _ => XS.ifYes X101.here hx rfl (pc0 := 11) (pc' := 54) rfl (hb hby d3_11) rfl (by decide) (by decide) (by decide)) ?_
  refine Go.via (fun _ => XS.iconst X101.here hx rfl (hb hby d3_54)) ?_
  exact own_retN X101 hx hlk (t := .boolean) Bd.returns (by simp) (hb hby d3_55) (by show QSE_L Z x1 a1 h0 n0 _ T101.heap _; rw [e101]; exact ⟨rfl, N0, rfl⟩) (by decide) (by decide)
theorem ef_rmSE_S0 (m : MethodId) (x0 : Addr) (x1 : Addr) : entryFrame m #[(.ref x0), (.ref x1)] 3 = mkF m 0 #[rv x0, rv x1, .unset] [] := by first | (simp [entryFrame, mkF, argsToLocals, Value.category]; done) | rfl
def QSE_S0 (Z : State) (x1 : Addr) (a1 : Addr) (t1 : Addr) (k1 : ClassId) (t2 : Addr) (k2 : ClassId) (zz : Int32) (vs : List Value) (ccs : Int32) (h0 : Heap) (n0 : Nat) (v : Option Value) (h : Heap) (L : List Loc) : Prop := v = some (.int (0 : Int32)) ∧ Fr n0 L ∧ h = h0
set_option maxRecDepth 65536 in
set_option maxHeartbeats 40000000 in
theorem rmSE_S0 (l : Launch) (Z : State) (a0 : Array Value) (hw : TW Z a0) (ws : List Jvm.Cond) (x1 : Addr) (a1 : Addr) (t1 : Addr) (k1 : ClassId) (t2 : Addr) (k2 : ClassId) (zz : Int32) (vs : List Value) (ccs : Int32) (h0 : Heap) (n0 : Nat) (Z0 : n0 ≤ h0.size) (ne1 : x1 ≠ a1) (X1 : Fld Z h0 x1 "java/lang/String" "value" "[B" (.ref t1)) (X2 : Fld Z h0 x1 "java/lang/String" "coder" "B" (.int (0 : Int32))) (E1 : Exa Z h0 a1 "java/lang/String") (F1 : Fld Z h0 a1 "java/lang/String" "value" "[B" (.ref t2)) (F2 : Fld Z h0 a1 "java/lang/String" "coder" "B" (.int (0 : Int32))) (VX : Arv Z h0 t1 k1 .byte (4 : Int32) [(.int (116 : Int32)), (.int (114 : Int32)), (.int (117 : Int32)), (.int (101 : Int32))] (.int (0 : Int32))) (V2 : Arv Z h0 t2 k2 .byte zz vs (.int (0 : Int32))) (hz : ¬ ((4 : Int32) = zz)) (O0 : Old Z n0 h0) (S_CS : Sta Z Z.heap "java/lang/String" "COMPACT_STRINGS" "Z" (.int ccs)) (hcs : ¬ (ccs = (0 : Int32))) :
    MF l Z (⟨"java/lang/String", "equals", "(Ljava/lang/Object;)Z"⟩ : MethodName) jdk_42_method_66_code 3 (some .boolean) ws (rmm 1 0 0 14) #[(.ref x1), (.ref a1)] h0 (QSE_S0 Z x1 a1 t1 k1 t2 k2 zz vs ccs h0 n0) := by
  refine MetFree.of_bodySF (plainFor_of_name pn_java_lang_String) hisR ?_
  intro p e s m args below meth c s₁ Bd hml0 hP hK
  obtain ⟨rfl, hZ, hh⟩ := hP
  have hx := Bd.exec
  have hby := Bd.bytes
  have hlk : meth.locks = false := Bd.notSynchronized
  have hml : c.maxLocals = 3 := hml0
  have hown : s.vm.findClass "java/lang/String" = some m.cls := findClass_of_methodNamed Bd.named
  have hnm := (name_of_methodNamed Bd.named Bd.method).1
  have X0 : Stand p l e (rmm 1 0 0 14) s m #[(.ref x1), (.ref a1)] below meth c s₁ [] 0 0 := Stand.of_body Bd
  have e0 : s₁.heap = h0 := by rw [← hh, Bd.state]; rfl
  have N0 := Fr.nil n0
  show Go p e below (FinE s below (QSE_S0 Z x1 a1 t1 k1 t2 k2 zz vs ccs h0 n0) (rmm 1 0 0 14).cells (rmm 1 0 0 14).slots) (s₁.setTop (entryFrame m #[(.ref x1), (.ref a1)] 3))
  refine Go.via (fun t k => castTop (ef_rmSE_S0 m x1 a1) k) ?_
  refine Go.via (fun _ => XS.aloadN X0.here hx rfl (hb hby d3_0) rfl rfl) ?_
  refine Go.via (fun _ => XS.aloadN X0.here hx rfl (hb hby d3_1) rfl rfl) ?_
  refine Go.via (fun _ => Jvm.RoadKit.acmp (g := (mkF m 2 #[rv x1, rv a1, .unset] [(.ref a1), (.ref x1)])) X0 hx rfl rfl rfl (pc0 := 2) (pc' := 7) (same := false) rfl (hb hby d3_2) rfl (decide_eq_false fun q => (ne1) (Value.ref.inj q)) (by decide) (by decide)) ?_
  refine Go.via (fun _ => XS.aloadN X0.here hx rfl (hb hby d3_7) rfl rfl) ?_
  obtain ⟨T101, X101, e101, st101⟩ := instY X0 hx hZ hown (ow hw 51 rfl) e0 (Ins.self E1) (g := (mkF m 8 #[rv x1, rv a1, .unset] [(.ref a1)])) rfl rfl (hb hby d3_8)
  refine Go.via st101 ?_
  show Go p e below _ (T101.setTop (mkF m 11 #[rv x1, rv a1, .unset] [(.int (1 : Int32))]))
  refine Go.via (fun _ => XS.ifNo X101.here hx rfl (hb hby d3_11) rfl (by decide)) ?_
  refine Go.via (fun _ => XS.aloadN X101.here hx rfl (hb hby d3_14) rfl rfl) ?_
  obtain ⟨T102, X102, e102, st102⟩ := castY X101 hx hZ hown (ow hw 51 rfl) e101 (Ins.self E1) (g := (mkF m 15 #[rv x1, rv a1, .unset] [(.ref a1)])) rfl rfl (hb hby d3_15)
  refine Go.via st102 ?_
  refine Go.via (fun _ => XS.astoreN X102.here hx rfl (hb hby d3_18) rfl rfl (l' := #[rv x1, rv a1, rv a1]) rfl) ?_
  obtain ⟨T103, X103, e103, st103⟩ := getS2 X102 hx hZ hown (host := "") (Or.inl (ow hw 78 rfl)) Via.refl e102 (S_CS.ext O0.2) (g := (mkF m 19 #[rv x1, rv a1, rv a1] [])) rfl (hb hby d3_19)
  refine Go.via st103 ?_
  refine Go.via (fun _ => XS.ifNo X103.here hx rfl (hb hby d3_22) rfl ((if0 _ _).trans (feq hcs).1)) ?_
  show Go p e below _ (T103.setTop (mkF m 25 #[rv x1, rv a1, rv a1] []))
  refine Go.via (fun _ => XS.aloadN X103.here hx rfl (hb hby d3_25) rfl rfl) ?_
  obtain ⟨T104, X104, e104, st104⟩ := getF X103 hx hZ hown (host := "") (Or.inl (ow hw 89 rfl)) Via.refl e103 X2 (g := (mkF m 26 #[rv x1, rv a1, rv a1] [(.ref x1)])) rfl rfl (hb hby d3_26)
  refine Go.via st104 ?_
  refine Go.via (fun _ => XS.aloadN X104.here hx rfl (hb hby d3_29) rfl rfl) ?_
  obtain ⟨T105, X105, e105, st105⟩ := getF X104 hx hZ hown (host := "") (Or.inl (ow hw 89 rfl)) Via.refl e104 F2 (g := (mkF m 30 #[rv x1, rv a1, rv a1] [(.ref a1), (.int (0 : Int32))])) rfl rfl (hb hby d3_30)
  refine Go.via st105 ?_
  refine Go.via (fun _ => XS.icmpNo X105.here hx rfl (hb hby d3_33) rfl (by decide)) ?_
  refine Go.via (fun _ => XS.aloadN X105.here hx rfl (hb hby d3_36) rfl rfl) ?_
  show Go p e below _ (T105.setTop (mkF m 37 #[rv x1, rv a1, rv a1] [(.ref x1)]))
  obtain ⟨T106, X106, e106, st106⟩ := getF X105 hx hZ hown (host := "") (Or.inl (ow hw 90 rfl)) Via.refl e105 X1 (g := (mkF m 37 #[rv x1, rv a1, rv a1] [(.ref x1)])) rfl rfl (hb hby d3_37)
  refine Go.via st106 ?_
  refine Go.via (fun _ => XS.aloadN X106.here hx rfl (hb hby d3_40) rfl rfl) ?_
  obtain ⟨T107, X107, e107, st107⟩ := getF X106 hx hZ hown (host := "") (Or.inl (ow hw 90 rfl)) Via.refl e106 F1 (g := (mkF m 41 #[rv x1, rv a1, rv a1] [(.ref a1), (.ref t1)])) rfl rfl (hb hby d3_41)
  refine Go.via st107 ?_
  obtain ⟨_, _, ⟨T108, L108, k108, n108⟩, -, X108, ⟨Lc108, hQ108, l108, y108, z108⟩, st108⟩ := Jvm.LawKit.callS X107 hx (y := (⟨"java/lang/StringLatin1", "equals", "([B[B)Z"⟩ : MethodName)) hown (mvT hZ (ow hw 92 rfl)) (mvT hZ (ow hw 93 rfl)) (mvT hZ (ow hw 94 rfl)) (mvT hZ (ow hw 95 rfl)) (by decide) (backOf (W := 0) (rmLE_0 l Z a0 hw [] t1 k1 t2 k2 zz vs h0 n0 Z0 VX V2 hz) hZ (ow hw 95 rfl) (ow hw 94 rfl) (by decide) (by decide)) (g := (mkF m 44 #[rv x1, rv a1, rv a1] [(.ref t2), (.ref t1)])) rfl (by rw [hml]; rfl) (argsL := [(.ref t1), (.ref t2)]) (rest := []) (lenOf pd_1 rfl) rfl (by show 2 * 0 + _ ≤ _; exact Nat.le_of_eq rfl) (hb hby d3_44) (fun _ _ => ⟨rfl, e107, (by decide : 0 + 0 ≤ _), (by decide : 0 + 0 ≤ _)⟩)
  dsimp only [Pt.U, Pt.locs, Pt.cells, Pt.slots] at X108 l108 y108 z108 st108 hQ108
  rw [l108, y108, z108] at X108
  replace X108 : Stand p l e _ _ m _ below meth c T108 _ 0 0 := X108
  obtain ⟨rfl, N108q, e108q⟩ := hQ108
  have N108 := Fr.app N0 N108q
  refine Go.via st108 ?_
  refine Go.via (fun _ => XS.ifYes X108.here hx rfl (pc0 := 47) (pc' := 54) rfl (hb hby d3_47) rfl (by decide) (by decide) (by decide)) ?_
  refine Go.via (fun _ => XS.iconst X108.here hx rfl (hb hby d3_54)) ?_
  show Go p e below _ (T108.setTop (mkF m 55 #[rv x1, rv a1, rv a1] [(.int (0 : Int32))]))
  exact own_retN X108 hx hlk (t := .boolean) Bd.returns (by simp) (hb hby d3_55) (by show QSE_S0 Z x1 a1 t1 k1 t2 k2 zz vs ccs h0 n0 _ T108.heap _; rw [e108q]; exact ⟨rfl, N108, rfl⟩) (by decide) (by decide)
theorem ef_rmSE_S1 (m : MethodId) (x0 : Addr) (x1 : Addr) : entryFrame m #[(.ref x0), (.ref x1)] 3 = mkF m 0 #[rv x0, rv x1, .unset] [] := by first | (simp [entryFrame, mkF, argsToLocals, Value.category]; done) | rfl
def QSE_S1 (Z : State) (x1 : Addr) (a1 : Addr) (t1 : Addr) (k1 : ClassId) (t2 : Addr) (k2 : ClassId) (y0 : Int32) (y1 : Int32) (y2 : Int32) (y3 : Int32) (ccs : Int32) (h0 : Heap) (n0 : Nat) (v : Option Value) (h : Heap) (L : List Loc) : Prop := v = some (.int (eqF y0 y1 y2 y3)) ∧ Fr n0 L ∧ h = h0
set_option maxRecDepth 65536 in
set_option maxHeartbeats 40000000 in
theorem rmSE_S1 (l : Launch) (Z : State) (a0 : Array Value) (hw : TW Z a0) (ws : List Jvm.Cond) (x1 : Addr) (a1 : Addr) (t1 : Addr) (k1 : ClassId) (t2 : Addr) (k2 : ClassId) (y0 : Int32) (y1 : Int32) (y2 : Int32) (y3 : Int32) (ccs : Int32) (h0 : Heap) (n0 : Nat) (Z0 : n0 ≤ h0.size) (ne1 : x1 ≠ a1) (X1 : Fld Z h0 x1 "java/lang/String" "value" "[B" (.ref t1)) (X2 : Fld Z h0 x1 "java/lang/String" "coder" "B" (.int (0 : Int32))) (E1 : Exa Z h0 a1 "java/lang/String") (F1 : Fld Z h0 a1 "java/lang/String" "value" "[B" (.ref t2)) (F2 : Fld Z h0 a1 "java/lang/String" "coder" "B" (.int (0 : Int32))) (VX : Arv Z h0 t1 k1 .byte (4 : Int32) [(.int (116 : Int32)), (.int (114 : Int32)), (.int (117 : Int32)), (.int (101 : Int32))] (.int (0 : Int32))) (V2 : Arv Z h0 t2 k2 .byte (4 : Int32) [(.int y0), (.int y1), (.int y2), (.int y3)] (.int (0 : Int32))) (O0 : Old Z n0 h0) (S_CS : Sta Z Z.heap "java/lang/String" "COMPACT_STRINGS" "Z" (.int ccs)) (hcs : ¬ (ccs = (0 : Int32))) :
    MF l Z (⟨"java/lang/String", "equals", "(Ljava/lang/Object;)Z"⟩ : MethodName) jdk_42_method_66_code 3 (some .boolean) ws (rmm 1 0 0 14) #[(.ref x1), (.ref a1)] h0 (QSE_S1 Z x1 a1 t1 k1 t2 k2 y0 y1 y2 y3 ccs h0 n0) := by
  refine MetFree.of_bodySF (plainFor_of_name pn_java_lang_String) hisR ?_
  intro p e s m args below meth c s₁ Bd hml0 hP hK
  obtain ⟨rfl, hZ, hh⟩ := hP
  have hx := Bd.exec
  have hby := Bd.bytes
  have hlk : meth.locks = false := Bd.notSynchronized
  have hml : c.maxLocals = 3 := hml0
  have hown : s.vm.findClass "java/lang/String" = some m.cls := findClass_of_methodNamed Bd.named
  have hnm := (name_of_methodNamed Bd.named Bd.method).1
  have X0 : Stand p l e (rmm 1 0 0 14) s m #[(.ref x1), (.ref a1)] below meth c s₁ [] 0 0 := Stand.of_body Bd
  have e0 : s₁.heap = h0 := by rw [← hh, Bd.state]; rfl
  have N0 := Fr.nil n0
  show Go p e below (FinE s below (QSE_S1 Z x1 a1 t1 k1 t2 k2 y0 y1 y2 y3 ccs h0 n0) (rmm 1 0 0 14).cells (rmm 1 0 0 14).slots) (s₁.setTop (entryFrame m #[(.ref x1), (.ref a1)] 3))
  refine Go.via (fun t k => castTop (ef_rmSE_S1 m x1 a1) k) ?_
  refine Go.via (fun _ => XS.aloadN X0.here hx rfl (hb hby d3_0) rfl rfl) ?_
  refine Go.via (fun _ => XS.aloadN X0.here hx rfl (hb hby d3_1) rfl rfl) ?_
  refine Go.via (fun _ => Jvm.RoadKit.acmp (g := (mkF m 2 #[rv x1, rv a1, .unset] [(.ref a1), (.ref x1)])) X0 hx rfl rfl rfl (pc0 := 2) (pc' := 7) (same := false) rfl (hb hby d3_2) rfl (decide_eq_false fun q => (ne1) (Value.ref.inj q)) (by decide) (by decide)) ?_
  refine Go.via (fun _ => XS.aloadN X0.here hx rfl (hb hby d3_7) rfl rfl) ?_
  obtain ⟨T101, X101, e101, st101⟩ := instY X0 hx hZ hown (ow hw 51 rfl) e0 (Ins.self E1) (g := (mkF m 8 #[rv x1, rv a1, .unset] [(.ref a1)])) rfl rfl (hb hby d3_8)
  refine Go.via st101 ?_
  show Go p e below _ (T101.setTop (mkF m 11 #[rv x1, rv a1, .unset] [(.int (1 : Int32))]))
  refine Go.via (fun _ => XS.ifNo X101.here hx rfl (hb hby d3_11) rfl (by decide)) ?_
  refine Go.via (fun _ => XS.aloadN X101.here hx rfl (hb hby d3_14) rfl rfl) ?_
  obtain ⟨T102, X102, e102, st102⟩ := castY X101 hx hZ hown (ow hw 51 rfl) e101 (Ins.self E1) (g := (mkF m 15 #[rv x1, rv a1, .unset] [(.ref a1)])) rfl rfl (hb hby d3_15)
  refine Go.via st102 ?_
  refine Go.via (fun _ => XS.astoreN X102.here hx rfl (hb hby d3_18) rfl rfl (l' := #[rv x1, rv a1, rv a1]) rfl) ?_
  obtain ⟨T103, X103, e103, st103⟩ := getS2 X102 hx hZ hown (host := "") (Or.inl (ow hw 78 rfl)) Via.refl e102 (S_CS.ext O0.2) (g := (mkF m 19 #[rv x1, rv a1, rv a1] [])) rfl (hb hby d3_19)
  refine Go.via st103 ?_
  refine Go.via (fun _ => XS.ifNo X103.here hx rfl (hb hby d3_22) rfl ((if0 _ _).trans (feq hcs).1)) ?_
  show Go p e below _ (T103.setTop (mkF m 25 #[rv x1, rv a1, rv a1] []))
  refine Go.via (fun _ => XS.aloadN X103.here hx rfl (hb hby d3_25) rfl rfl) ?_
  obtain ⟨T104, X104, e104, st104⟩ := getF X103 hx hZ hown (host := "") (Or.inl (ow hw 89 rfl)) Via.refl e103 X2 (g := (mkF m 26 #[rv x1, rv a1, rv a1] [(.ref x1)])) rfl rfl (hb hby d3_26)
  refine Go.via st104 ?_
  refine Go.via (fun _ => XS.aloadN X104.here hx rfl (hb hby d3_29) rfl rfl) ?_
  obtain ⟨T105, X105, e105, st105⟩ := getF X104 hx hZ hown (host := "") (Or.inl (ow hw 89 rfl)) Via.refl e104 F2 (g := (mkF m 30 #[rv x1, rv a1, rv a1] [(.ref a1), (.int (0 : Int32))])) rfl rfl (hb hby d3_30)
  refine Go.via st105 ?_
  refine Go.via (fun _ => XS.icmpNo X105.here hx rfl (hb hby d3_33) rfl (by decide)) ?_
  refine Go.via (fun _ => XS.aloadN X105.here hx rfl (hb hby d3_36) rfl rfl) ?_
  show Go p e below _ (T105.setTop (mkF m 37 #[rv x1, rv a1, rv a1] [(.ref x1)]))
  obtain ⟨T106, X106, e106, st106⟩ := getF X105 hx hZ hown (host := "") (Or.inl (ow hw 90 rfl)) Via.refl e105 X1 (g := (mkF m 37 #[rv x1, rv a1, rv a1] [(.ref x1)])) rfl rfl (hb hby d3_37)
  refine Go.via st106 ?_
  refine Go.via (fun _ => XS.aloadN X106.here hx rfl (hb hby d3_40) rfl rfl) ?_
  obtain ⟨T107, X107, e107, st107⟩ := getF X106 hx hZ hown (host := "") (Or.inl (ow hw 90 rfl)) Via.refl e106 F1 (g := (mkF m 41 #[rv x1, rv a1, rv a1] [(.ref a1), (.ref t1)])) rfl rfl (hb hby d3_41)
  refine Go.via st107 ?_
  obtain ⟨_, _, ⟨T108, L108, k108, n108⟩, -, X108, ⟨Lc108, hQ108, l108, y108, z108⟩, st108⟩ := Jvm.LawKit.callS X107 hx (y := (⟨"java/lang/StringLatin1", "equals", "([B[B)Z"⟩ : MethodName)) hown (mvT hZ (ow hw 92 rfl)) (mvT hZ (ow hw 93 rfl)) (mvT hZ (ow hw 94 rfl)) (mvT hZ (ow hw 95 rfl)) (by decide) (backOf (W := 0) (rmLE_1 l Z a0 hw [] t1 k1 t2 k2 y0 y1 y2 y3 h0 n0 Z0 VX V2) hZ (ow hw 95 rfl) (ow hw 94 rfl) (by decide) (by decide)) (g := (mkF m 44 #[rv x1, rv a1, rv a1] [(.ref t2), (.ref t1)])) rfl (by rw [hml]; rfl) (argsL := [(.ref t1), (.ref t2)]) (rest := []) (lenOf pd_1 rfl) rfl (by show 2 * 0 + _ ≤ _; exact Nat.le_of_eq rfl) (hb hby d3_44) (fun _ _ => ⟨rfl, e107, (by decide : 0 + 0 ≤ _), (by decide : 0 + 0 ≤ _)⟩)
  dsimp only [Pt.U, Pt.locs, Pt.cells, Pt.slots] at X108 l108 y108 z108 st108 hQ108
  rw [l108, y108, z108] at X108
  replace X108 : Stand p l e _ _ m _ below meth c T108 _ 0 0 := X108
  obtain ⟨rfl, N108q, e108q⟩ := hQ108
  have N108 := Fr.app N0 N108q
  refine Go.via st108 ?_
  by_cases hc109 : (eqF y0 y1 y2 y3) = (0 : Int32)
  · -- yes
    show Go p e below _ (T108.setTop (mkF m 47 #[rv x1, rv a1, rv a1] [(.int (eqF y0 y1 y2 y3))]))
    refine Go.via (fun _ => XS.ifYes X108.here hx rfl (pc0 := 47) (pc' := 54) rfl (hb hby d3_47) rfl ((if0 _ _).trans (teq hc109).1) (by decide) (by decide)) ?_
    refine Go.via (fun _ => XS.iconst X108.here hx rfl (hb hby d3_54)) ?_
    exact own_retN X108 hx hlk (t := .boolean) Bd.returns (by simp) (hb hby d3_55) (by show QSE_S1 Z x1 a1 t1 k1 t2 k2 y0 y1 y2 y3 ccs h0 n0 _ T108.heap _; rw [e108q]; exact ⟨by rw [hc109] <;> rfl, N108, rfl⟩) (by decide) (by decide)
  · -- no
    show Go p e below _ (T108.setTop (mkF m 47 #[rv x1, rv a1, rv a1] [(.int (eqF y0 y1 y2 y3))]))
    refine Go.via (fun _ => XS.ifNo X108.here hx rfl (hb hby d3_47) rfl ((if0 _ _).trans (feq hc109).1)) ?_
    refine Go.via (fun _ => XS.iconst X108.here hx rfl (hb hby d3_50)) ?_
    refine Go.via (fun _ => XS.goto X108.here hx rfl (pc0 := 51) (pc' := 55) rfl (hb hby d3_51) (by decide) (by decide)) ?_
    exact own_retN X108 hx hlk (t := .boolean) Bd.returns (by simp) (hb hby d3_55) (by show QSE_S1 Z x1 a1 t1 k1 t2 k2 y0 y1 y2 y3 ccs h0 n0 _ T108.heap _; rw [e108q]; exact ⟨by rw [own_eqne hc109] <;> rfl, N108, rfl⟩) (by decide) (by decide)
theorem ef_rmIT_null (m : MethodId)  : entryFrame m #[.null] 1 = mkF m 0 #[.val .null] [] := by first | (simp [entryFrame, mkF, argsToLocals, Value.category]; done) | rfl
def QIT_null (Z : State) (bt : Addr) (ccs : Int32) (h0 : Heap) (n0 : Nat) (v : Option Value) (h : Heap) (L : List Loc) : Prop := v = some (.int (0 : Int32)) ∧ Fr n0 L ∧ Keep h0 h []
set_option maxRecDepth 65536 in
set_option maxHeartbeats 40000000 in
theorem rmIT_null (l : Launch) (Z : State) (a0 : Array Value) (hw : TW Z a0) (ws : List Jvm.Cond) (bt : Addr) (ccs : Int32) (h0 : Heap) (n0 : Nat) (Z0 : n0 ≤ h0.size) (hEW : EW Z a0 consts_1) (S_T : Sta Z Z.heap "java/lang/Boolean" "TRUE" "Ljava/lang/Boolean;" (.ref bt)) (ET : Exa Z h0 bt "java/lang/Boolean") (FT : Fld Z h0 bt "java/lang/Boolean" "value" "Z" (.int (1 : Int32))) (O0 : Old Z n0 h0) (S_CS : Sta Z Z.heap "java/lang/String" "COMPACT_STRINGS" "Z" (.int ccs)) (hcs : ¬ (ccs = (0 : Int32))) :
    MetFree l (⟨"com/example/sluice/sluice/expression/Values", "isTrue", "(Ljava/lang/Object;)Z"⟩ : MethodName) (head1 (Jvm.Cond.code (⟨"com/example/sluice/sluice/expression/Values", "isTrue", "(Ljava/lang/Object;)Z"⟩ : MethodName) prog_11_method_7_code 1 (some .boolean) :: ws) (rmm 1 2 20 14)) (fun a U => a = #[.null] ∧ Z.Warmed39 U.vm ∧ U.heap = h0 ∧ CHv Z consts_1 U.vm h0) (fun _ _ _ _ _ => True) (fun _ U o U' => ∃ v L, o = .returned v ∧ QIT_null Z bt ccs h0 n0 v U'.heap L ∧ CHr Z consts_1 U.vm U.heap U'.vm U'.heap ∧ ReturnedEndW U o U' L (rmm 1 2 20 14).cells (rmm 1 2 20 14).slots) := by
  refine MetFree.of_bodySF (plainFor_of_name pn_com_example_sluice_sluice_expression_Values) hisR ?_
  intro p e s m args below meth c s₁ Bd hml0 hP hK
  obtain ⟨rfl, hZ, hh, hCH⟩ := hP
  have hx := Bd.exec
  have hby := Bd.bytes
  have hlk : meth.locks = false := Bd.notSynchronized
  have hml : c.maxLocals = 1 := hml0
  have hown : s.vm.findClass "com/example/sluice/sluice/expression/Values" = some m.cls := findClass_of_methodNamed Bd.named
  have hnm := (name_of_methodNamed Bd.named Bd.method).1
  have X0 : Stand p l e (rmm 1 2 20 14) (s.setVm s.vm) m #[.null] below meth c s₁ [] 0 0 := Stand.of_body Bd
  replace hZ : Z.Warmed39 (s.setVm s.vm).vm := hZ
  replace hown : (s.setVm s.vm).vm.findClass "com/example/sluice/sluice/expression/Values" = some m.cls := hown
  have hS0 : s.Since s.vm 0 := (State.WarmedH.refl s).since 0
  have hk0 : 0 ≤ h0.size := Nat.zero_le _
  have R0 : CHr Z consts_1 s.vm h0 s.vm h0 := CHr.refl hCH
  have e0 : s₁.heap = h0 := by rw [← hh, Bd.state]; rfl
  have N0 := Fr.nil n0
  show Go p e below (FinH Z consts_1 s below (QIT_null Z bt ccs h0 n0) (rmm 1 2 20 14).cells (rmm 1 2 20 14).slots) (s₁.setTop (entryFrame m #[.null] 1))
  refine Go.via (fun t k => castTop (ef_rmIT_null m ) k) ?_
  obtain ⟨T101, X101, e101, st101⟩ := getS2 X0 hx hZ hown (host := "") (Or.inl (ow hw 4 rfl)) Via.refl e0 (S_T.ext O0.2) (g := (mkF m 0 #[.val .null] [])) rfl (hb hby d1_0)
  refine Go.via st101 ?_
  refine Go.via (fun _ => XS.aloadN X101.here hx rfl (hb hby d1_3) rfl rfl) ?_
  obtain ⟨cq102, kq102, q102a, q102b, q102c⟩ := isOf hZ e101 ET
  obtain ⟨_, _, ⟨T102, L102, k102, n102⟩, -, X102, ⟨Lc102, hQ102, l102, y102, z102⟩, st102⟩ := X101.virtualBack hx (y := (⟨"java/lang/Boolean", "equals", "(Ljava/lang/Object;)Z"⟩ : MethodName)) (z := (⟨"java/lang/Boolean", "equals", "(Ljava/lang/Object;)Z"⟩ : MethodName)) hown (mvT hZ (ow hw 6 rfl)) (mvT hZ (ow hw 7 rfl)) (notFace_of_selects (args := #[]) (mvT hZ (ow hw 9 rfl))) (mvT hZ (ow hw 9 rfl)) (mvT hZ (ow hw 8 rfl)) (by decide) (backOf (W := 0) (rmBE_null l Z a0 hw [] bt h0 n0 Z0 FT) hZ (ow hw 10 rfl) (ow hw 5 rfl) (by decide) (by decide)) q102a q102c (g := (mkF m 4 #[.val .null] [.null, (.ref bt)])) rfl (by rw [hml]; rfl) (Steps.refl _) (argsL := [.null]) (rest := []) (lenOf pd_2 rfl) rfl (by show 2 * 0 + _ ≤ _; exact Nat.le_of_eq rfl) (hb hby d1_4) (fun _ _ => ⟨rfl, e101, (by decide : 0 + 0 ≤ _), (by decide : 0 + 0 ≤ _)⟩)
  dsimp only [Pt.U, Pt.locs, Pt.cells, Pt.slots] at X102 l102 y102 z102 st102 hQ102
  rw [l102, y102, z102] at X102
  replace X102 : Stand p l e _ _ m _ below meth c T102 _ 0 0 := X102
  obtain ⟨rfl, N102q, e102q⟩ := hQ102
  have N102 := Fr.app N0 N102q
  refine Go.tr st102 ?_
  refine Go.via (fun _ => XS.ifNo X102.here hx rfl (hb hby d1_7) rfl (by decide)) ?_
  have wS103 : ∀ d ∈ Bundle.stringAtoms, d.before a0 Z = true := fun d hd => hw d (by simpa using (List.all_eq_true.mp (by decide +kernel : (Bundle.stringAtoms.all fun d => tables_1.contains d) = true)) d hd)
  obtain ⟨s103, T103, h103, kk103, sb103, kb103, X103, e103, E103, hS103, hk103, hZ103, hown103, ex103, fc103, fv103, va103, lta103, ltb103, cr103, -, sne103, st103⟩ := ldcCH X102 hx hZ hown (ow hw 11 rfl) wS103 e102q hS0 hk0 hEW (by simp [consts_1]) R0.1 (vs := [(.int (116 : Int32)), (.int (114 : Int32)), (.int (117 : Int32)), (.int (101 : Int32))]) (z := (4 : Int32)) (by decide +kernel) (by decide) (by decide) (g := (mkF m 10 #[.val .null] [])) rfl (hb hby d1_10) (n := 16) (by decide +kernel) (by decide) (by decide) (by decide)
  refine Go.via st103 ?_
  have Zs103 : n0 ≤ h103.size := Nat.le_trans Z0 E103.1
  have O103 : Old Z n0 h103 := O0.ext E103
  have K103 : Keep h0 h103 [] := (Keep.refl h0 []).ext E103
  have fE_bt_103 := ET.ext E103
  have fF_bt_value_103 := FT.ext E103
  have R103 : CHr Z consts_1 s.vm h0 T103.vm h103 := R0.trans cr103
  show Go p e below _ (T103.setTop (mkF m 12 #[.val .null] [(.ref s103)]))
  refine Go.via (fun _ => XS.aloadN X103.here hx rfl (hb hby d1_12) rfl rfl) ?_
  obtain ⟨cq104, kq104, q104a, q104b, q104c⟩ := isOf hZ103 e103 ex103
  obtain ⟨_, _, ⟨T104, L104, k104, n104⟩, -, X104, ⟨Lc104, hQ104, l104, y104, z104⟩, st104⟩ := X103.virtualBack hx (y := (⟨"java/lang/String", "equals", "(Ljava/lang/Object;)Z"⟩ : MethodName)) (z := (⟨"java/lang/String", "equals", "(Ljava/lang/Object;)Z"⟩ : MethodName)) hown103 (mvT hZ103 (ow hw 19 rfl)) (mvT hZ103 (ow hw 20 rfl)) (notFace_of_selects (args := #[]) (mvT hZ103 (ow hw 22 rfl))) (mvT hZ103 (ow hw 22 rfl)) (mvT hZ103 (ow hw 21 rfl)) (by decide) (backOf (W := 0) (rmSE_null l Z a0 hw [] s103 h103 n0 Zs103) hZ103 (ow hw 23 rfl) (ow hw 12 rfl) (by decide) (by decide)) q104a q104c (g := (mkF m 13 #[.val .null] [.null, (.ref s103)])) rfl (by rw [hml]; rfl) (Steps.refl _) (argsL := [.null]) (rest := []) (lenOf pd_2 rfl) rfl (by show 2 * 0 + _ ≤ _; exact Nat.le_of_eq rfl) (hb hby d1_13) (fun _ _ => ⟨rfl, e103, (by decide : 2 + 0 ≤ _), (by decide : 20 + 0 ≤ _)⟩)
  dsimp only [Pt.U, Pt.locs, Pt.cells, Pt.slots] at X104 l104 y104 z104 st104 hQ104
  rw [l104, y104, z104] at X104
  replace X104 : Stand p l e _ _ m _ below meth c T104 _ 2 20 := X104
  obtain ⟨rfl, N104q, e104q⟩ := hQ104
  have N104 := Fr.app N102 N104q
  refine Go.tr st104 ?_
  refine Go.via (fun _ => XS.ifYes X104.here hx rfl (pc0 := 16) (pc' := 23) rfl (hb hby d1_16) rfl (by decide) (by decide) (by decide)) ?_
  refine Go.via (fun _ => XS.iconst X104.here hx rfl (hb hby d1_23)) ?_
  have hR : CHr Z consts_1 s.vm s.heap T104.vm T104.heap := by rw [hh, e104q]; exact R103.trans (CHv.at X104 hZ103 hEW R103.1)
  exact own_retNH X104 hS103 (by rw [e104q]; exact hk103) hR hx hlk (t := .boolean) Bd.returns (by simp) (hb hby d1_24) (by show QIT_null Z bt ccs h0 n0 _ T104.heap _; rw [e104q]; exact ⟨rfl, N104, K103⟩) (by decide) (by decide)
theorem ef_rmIT_0 (m : MethodId) (x0 : Addr) : entryFrame m #[(.ref x0)] 1 = mkF m 0 #[rv x0] [] := by first | (simp [entryFrame, mkF, argsToLocals, Value.category]; done) | rfl
def QIT_0 (Z : State) (bt : Addr) (a1 : Addr) (ccs : Int32) (h0 : Heap) (n0 : Nat) (v : Option Value) (h : Heap) (L : List Loc) : Prop := v = some (.int (0 : Int32)) ∧ Fr n0 L ∧ Keep h0 h []
set_option maxRecDepth 65536 in
set_option maxHeartbeats 40000000 in
theorem rmIT_0 (l : Launch) (Z : State) (a0 : Array Value) (hw : TW Z a0) (ws : List Jvm.Cond) (bt : Addr) (a1 : Addr) (ccs : Int32) (h0 : Heap) (n0 : Nat) (Z0 : n0 ≤ h0.size) (hEW : EW Z a0 consts_1) (S_T : Sta Z Z.heap "java/lang/Boolean" "TRUE" "Ljava/lang/Boolean;" (.ref bt)) (ET : Exa Z h0 bt "java/lang/Boolean") (FT : Fld Z h0 bt "java/lang/Boolean" "value" "Z" (.int (1 : Int32))) (E1 : Exa Z h0 a1 "java/lang/Boolean") (F1 : Fld Z h0 a1 "java/lang/Boolean" "value" "Z" (.int (0 : Int32))) (O0 : Old Z n0 h0) (S_CS : Sta Z Z.heap "java/lang/String" "COMPACT_STRINGS" "Z" (.int ccs)) (hcs : ¬ (ccs = (0 : Int32))) :
    MetFree l (⟨"com/example/sluice/sluice/expression/Values", "isTrue", "(Ljava/lang/Object;)Z"⟩ : MethodName) (head1 (Jvm.Cond.code (⟨"com/example/sluice/sluice/expression/Values", "isTrue", "(Ljava/lang/Object;)Z"⟩ : MethodName) prog_11_method_7_code 1 (some .boolean) :: ws) (rmm 2 2 20 26)) (fun a U => a = #[(.ref a1)] ∧ Z.Warmed39 U.vm ∧ U.heap = h0 ∧ CHv Z consts_1 U.vm h0) (fun _ _ _ _ _ => True) (fun _ U o U' => ∃ v L, o = .returned v ∧ QIT_0 Z bt a1 ccs h0 n0 v U'.heap L ∧ CHr Z consts_1 U.vm U.heap U'.vm U'.heap ∧ ReturnedEndW U o U' L (rmm 2 2 20 26).cells (rmm 2 2 20 26).slots) := by
  refine MetFree.of_bodySF (plainFor_of_name pn_com_example_sluice_sluice_expression_Values) hisR ?_
  intro p e s m args below meth c s₁ Bd hml0 hP hK
  obtain ⟨rfl, hZ, hh, hCH⟩ := hP
  have hx := Bd.exec
  have hby := Bd.bytes
  have hlk : meth.locks = false := Bd.notSynchronized
  have hml : c.maxLocals = 1 := hml0
  have hown : s.vm.findClass "com/example/sluice/sluice/expression/Values" = some m.cls := findClass_of_methodNamed Bd.named
  have hnm := (name_of_methodNamed Bd.named Bd.method).1
  have X0 : Stand p l e (rmm 2 2 20 26) (s.setVm s.vm) m #[(.ref a1)] below meth c s₁ [] 0 0 := Stand.of_body Bd
  replace hZ : Z.Warmed39 (s.setVm s.vm).vm := hZ
  replace hown : (s.setVm s.vm).vm.findClass "com/example/sluice/sluice/expression/Values" = some m.cls := hown
  have hS0 : s.Since s.vm 0 := (State.WarmedH.refl s).since 0
  have hk0 : 0 ≤ h0.size := Nat.zero_le _
  have R0 : CHr Z consts_1 s.vm h0 s.vm h0 := CHr.refl hCH
  have e0 : s₁.heap = h0 := by rw [← hh, Bd.state]; rfl
  have N0 := Fr.nil n0
  show Go p e below (FinH Z consts_1 s below (QIT_0 Z bt a1 ccs h0 n0) (rmm 2 2 20 26).cells (rmm 2 2 20 26).slots) (s₁.setTop (entryFrame m #[(.ref a1)] 1))
  refine Go.via (fun t k => castTop (ef_rmIT_0 m a1) k) ?_
  obtain ⟨T101, X101, e101, st101⟩ := getS2 X0 hx hZ hown (host := "") (Or.inl (ow hw 4 rfl)) Via.refl e0 (S_T.ext O0.2) (g := (mkF m 0 #[rv a1] [])) rfl (hb hby d1_0)
  refine Go.via st101 ?_
  refine Go.via (fun _ => XS.aloadN X101.here hx rfl (hb hby d1_3) rfl rfl) ?_
  obtain ⟨cq102, kq102, q102a, q102b, q102c⟩ := isOf hZ e101 ET
  obtain ⟨_, _, ⟨T102, L102, k102, n102⟩, -, X102, ⟨Lc102, hQ102, l102, y102, z102⟩, st102⟩ := X101.virtualBack hx (y := (⟨"java/lang/Boolean", "equals", "(Ljava/lang/Object;)Z"⟩ : MethodName)) (z := (⟨"java/lang/Boolean", "equals", "(Ljava/lang/Object;)Z"⟩ : MethodName)) hown (mvT hZ (ow hw 6 rfl)) (mvT hZ (ow hw 7 rfl)) (notFace_of_selects (args := #[]) (mvT hZ (ow hw 9 rfl))) (mvT hZ (ow hw 9 rfl)) (mvT hZ (ow hw 8 rfl)) (by decide) (backOf (W := 0) (rmBE_0 l Z a0 hw [] bt a1 h0 n0 Z0 FT E1 F1) hZ (ow hw 10 rfl) (ow hw 5 rfl) (by decide) (by decide)) q102a q102c (g := (mkF m 4 #[rv a1] [(.ref a1), (.ref bt)])) rfl (by rw [hml]; rfl) (Steps.refl _) (argsL := [(.ref a1)]) (rest := []) (lenOf pd_2 rfl) rfl (by show 2 * 0 + _ ≤ _; exact Nat.le_of_eq rfl) (hb hby d1_4) (fun _ _ => ⟨rfl, e101, (by decide : 0 + 0 ≤ _), (by decide : 0 + 0 ≤ _)⟩)
  dsimp only [Pt.U, Pt.locs, Pt.cells, Pt.slots] at X102 l102 y102 z102 st102 hQ102
  rw [l102, y102, z102] at X102
  replace X102 : Stand p l e _ _ m _ below meth c T102 _ 0 0 := X102
  obtain ⟨rfl, N102q, e102q⟩ := hQ102
  have N102 := Fr.app N0 N102q
  refine Go.tr st102 ?_
  refine Go.via (fun _ => XS.ifNo X102.here hx rfl (hb hby d1_7) rfl (by decide)) ?_
  have wS103 : ∀ d ∈ Bundle.stringAtoms, d.before a0 Z = true := fun d hd => hw d (by simpa using (List.all_eq_true.mp (by decide +kernel : (Bundle.stringAtoms.all fun d => tables_1.contains d) = true)) d hd)
  obtain ⟨s103, T103, h103, kk103, sb103, kb103, X103, e103, E103, hS103, hk103, hZ103, hown103, ex103, fc103, fv103, va103, lta103, ltb103, cr103, -, sne103, st103⟩ := ldcCH X102 hx hZ hown (ow hw 11 rfl) wS103 e102q hS0 hk0 hEW (by simp [consts_1]) R0.1 (vs := [(.int (116 : Int32)), (.int (114 : Int32)), (.int (117 : Int32)), (.int (101 : Int32))]) (z := (4 : Int32)) (by decide +kernel) (by decide) (by decide) (g := (mkF m 10 #[rv a1] [])) rfl (hb hby d1_10) (n := 16) (by decide +kernel) (by decide) (by decide) (by decide)
  refine Go.via st103 ?_
  have Zs103 : n0 ≤ h103.size := Nat.le_trans Z0 E103.1
  have O103 : Old Z n0 h103 := O0.ext E103
  have K103 : Keep h0 h103 [] := (Keep.refl h0 []).ext E103
  have fE_bt_103 := ET.ext E103
  have fF_bt_value_103 := FT.ext E103
  have fE_a1_103 := E1.ext E103
  have fF_a1_value_103 := F1.ext E103
  have R103 : CHr Z consts_1 s.vm h0 T103.vm h103 := R0.trans cr103
  show Go p e below _ (T103.setTop (mkF m 12 #[rv a1] [(.ref s103)]))
  refine Go.via (fun _ => XS.aloadN X103.here hx rfl (hb hby d1_12) rfl rfl) ?_
  obtain ⟨cq104, kq104, q104a, q104b, q104c⟩ := isOf hZ103 e103 ex103
  obtain ⟨_, _, ⟨T104, L104, k104, n104⟩, -, X104, ⟨Lc104, hQ104, l104, y104, z104⟩, st104⟩ := X103.virtualBack hx (y := (⟨"java/lang/String", "equals", "(Ljava/lang/Object;)Z"⟩ : MethodName)) (z := (⟨"java/lang/String", "equals", "(Ljava/lang/Object;)Z"⟩ : MethodName)) hown103 (mvT hZ103 (ow hw 19 rfl)) (mvT hZ103 (ow hw 20 rfl)) (notFace_of_selects (args := #[]) (mvT hZ103 (ow hw 22 rfl))) (mvT hZ103 (ow hw 22 rfl)) (mvT hZ103 (ow hw 21 rfl)) (by decide) (backOf (W := 0) (rmSE_0 l Z a0 hw [] s103 a1 h103 n0 Zs103 (Exa.ne ex103 fE_a1_103 (by decide)) fE_a1_103) hZ103 (ow hw 23 rfl) (ow hw 12 rfl) (by decide) (by decide)) q104a q104c (g := (mkF m 13 #[rv a1] [(.ref a1), (.ref s103)])) rfl (by rw [hml]; rfl) (Steps.refl _) (argsL := [(.ref a1)]) (rest := []) (lenOf pd_2 rfl) rfl (by show 2 * 0 + _ ≤ _; exact Nat.le_of_eq rfl) (hb hby d1_13) (fun _ _ => ⟨rfl, e103, (by decide : 2 + 0 ≤ _), (by decide : 20 + 0 ≤ _)⟩)
  dsimp only [Pt.U, Pt.locs, Pt.cells, Pt.slots] at X104 l104 y104 z104 st104 hQ104
  rw [l104, y104, z104] at X104
  replace X104 : Stand p l e _ _ m _ below meth c T104 _ 2 20 := X104
  obtain ⟨rfl, N104q, e104q⟩ := hQ104
  have N104 := Fr.app N102 N104q
  refine Go.tr st104 ?_
  refine Go.via (fun _ => XS.ifYes X104.here hx rfl (pc0 := 16) (pc' := 23) rfl (hb hby d1_16) rfl (by decide) (by decide) (by decide)) ?_
  refine Go.via (fun _ => XS.iconst X104.here hx rfl (hb hby d1_23)) ?_
  have hR : CHr Z consts_1 s.vm s.heap T104.vm T104.heap := by rw [hh, e104q]; exact R103.trans (CHv.at X104 hZ103 hEW R103.1)
  exact own_retNH X104 hS103 (by rw [e104q]; exact hk103) hR hx hlk (t := .boolean) Bd.returns (by simp) (hb hby d1_24) (by show QIT_0 Z bt a1 ccs h0 n0 _ T104.heap _; rw [e104q]; exact ⟨rfl, N104, K103⟩) (by decide) (by decide)
theorem ef_rmIT_1 (m : MethodId) (x0 : Addr) : entryFrame m #[(.ref x0)] 1 = mkF m 0 #[rv x0] [] := by first | (simp [entryFrame, mkF, argsToLocals, Value.category]; done) | rfl
def QIT_1 (Z : State) (bt : Addr) (a1 : Addr) (ccs : Int32) (h0 : Heap) (n0 : Nat) (v : Option Value) (h : Heap) (L : List Loc) : Prop := v = some (.int (1 : Int32)) ∧ Fr n0 L ∧ Keep h0 h []
set_option maxRecDepth 65536 in
set_option maxHeartbeats 40000000 in
theorem rmIT_1 (l : Launch) (Z : State) (a0 : Array Value) (hw : TW Z a0) (ws : List Jvm.Cond) (bt : Addr) (a1 : Addr) (ccs : Int32) (h0 : Heap) (n0 : Nat) (Z0 : n0 ≤ h0.size) (hEW : EW Z a0 consts_1) (S_T : Sta Z Z.heap "java/lang/Boolean" "TRUE" "Ljava/lang/Boolean;" (.ref bt)) (ET : Exa Z h0 bt "java/lang/Boolean") (FT : Fld Z h0 bt "java/lang/Boolean" "value" "Z" (.int (1 : Int32))) (E1 : Exa Z h0 a1 "java/lang/Boolean") (F1 : Fld Z h0 a1 "java/lang/Boolean" "value" "Z" (.int (1 : Int32))) (O0 : Old Z n0 h0) (S_CS : Sta Z Z.heap "java/lang/String" "COMPACT_STRINGS" "Z" (.int ccs)) (hcs : ¬ (ccs = (0 : Int32))) :
    MetFree l (⟨"com/example/sluice/sluice/expression/Values", "isTrue", "(Ljava/lang/Object;)Z"⟩ : MethodName) (head1 (Jvm.Cond.code (⟨"com/example/sluice/sluice/expression/Values", "isTrue", "(Ljava/lang/Object;)Z"⟩ : MethodName) prog_11_method_7_code 1 (some .boolean) :: ws) (rmm 2 0 0 26)) (fun a U => a = #[(.ref a1)] ∧ Z.Warmed39 U.vm ∧ U.heap = h0 ∧ CHv Z consts_1 U.vm h0) (fun _ _ _ _ _ => True) (fun _ U o U' => ∃ v L, o = .returned v ∧ QIT_1 Z bt a1 ccs h0 n0 v U'.heap L ∧ CHr Z consts_1 U.vm U.heap U'.vm U'.heap ∧ ReturnedEndW U o U' L (rmm 2 0 0 26).cells (rmm 2 0 0 26).slots) := by
  refine MetFree.of_bodySF (plainFor_of_name pn_com_example_sluice_sluice_expression_Values) hisR ?_
  intro p e s m args below meth c s₁ Bd hml0 hP hK
  obtain ⟨rfl, hZ, hh, hCH⟩ := hP
  have hx := Bd.exec
  have hby := Bd.bytes
  have hlk : meth.locks = false := Bd.notSynchronized
  have hml : c.maxLocals = 1 := hml0
  have hown : s.vm.findClass "com/example/sluice/sluice/expression/Values" = some m.cls := findClass_of_methodNamed Bd.named
  have hnm := (name_of_methodNamed Bd.named Bd.method).1
  have X0 : Stand p l e (rmm 2 0 0 26) (s.setVm s.vm) m #[(.ref a1)] below meth c s₁ [] 0 0 := Stand.of_body Bd
  replace hZ : Z.Warmed39 (s.setVm s.vm).vm := hZ
  replace hown : (s.setVm s.vm).vm.findClass "com/example/sluice/sluice/expression/Values" = some m.cls := hown
  have hS0 : s.Since s.vm 0 := (State.WarmedH.refl s).since 0
  have hk0 : 0 ≤ h0.size := Nat.zero_le _
  have R0 : CHr Z consts_1 s.vm h0 s.vm h0 := CHr.refl hCH
  have e0 : s₁.heap = h0 := by rw [← hh, Bd.state]; rfl
  have N0 := Fr.nil n0
  show Go p e below (FinH Z consts_1 s below (QIT_1 Z bt a1 ccs h0 n0) (rmm 2 0 0 26).cells (rmm 2 0 0 26).slots) (s₁.setTop (entryFrame m #[(.ref a1)] 1))
  refine Go.via (fun t k => castTop (ef_rmIT_1 m a1) k) ?_
  obtain ⟨T101, X101, e101, st101⟩ := getS2 X0 hx hZ hown (host := "") (Or.inl (ow hw 4 rfl)) Via.refl e0 (S_T.ext O0.2) (g := (mkF m 0 #[rv a1] [])) rfl (hb hby d1_0)
  refine Go.via st101 ?_
  refine Go.via (fun _ => XS.aloadN X101.here hx rfl (hb hby d1_3) rfl rfl) ?_
  obtain ⟨cq102, kq102, q102a, q102b, q102c⟩ := isOf hZ e101 ET
  obtain ⟨_, _, ⟨T102, L102, k102, n102⟩, -, X102, ⟨Lc102, hQ102, l102, y102, z102⟩, st102⟩ := X101.virtualBack hx (y := (⟨"java/lang/Boolean", "equals", "(Ljava/lang/Object;)Z"⟩ : MethodName)) (z := (⟨"java/lang/Boolean", "equals", "(Ljava/lang/Object;)Z"⟩ : MethodName)) hown (mvT hZ (ow hw 6 rfl)) (mvT hZ (ow hw 7 rfl)) (notFace_of_selects (args := #[]) (mvT hZ (ow hw 9 rfl))) (mvT hZ (ow hw 9 rfl)) (mvT hZ (ow hw 8 rfl)) (by decide) (backOf (W := 0) (rmBE_1 l Z a0 hw [] bt a1 h0 n0 Z0 FT E1 F1) hZ (ow hw 10 rfl) (ow hw 5 rfl) (by decide) (by decide)) q102a q102c (g := (mkF m 4 #[rv a1] [(.ref a1), (.ref bt)])) rfl (by rw [hml]; rfl) (Steps.refl _) (argsL := [(.ref a1)]) (rest := []) (lenOf pd_2 rfl) rfl (by show 2 * 0 + _ ≤ _; exact Nat.le_of_eq rfl) (hb hby d1_4) (fun _ _ => ⟨rfl, e101, (by decide : 0 + 0 ≤ _), (by decide : 0 + 0 ≤ _)⟩)
  dsimp only [Pt.U, Pt.locs, Pt.cells, Pt.slots] at X102 l102 y102 z102 st102 hQ102
  rw [l102, y102, z102] at X102
  replace X102 : Stand p l e _ _ m _ below meth c T102 _ 0 0 := X102
  obtain ⟨rfl, N102q, e102q⟩ := hQ102
  have N102 := Fr.app N0 N102q
  refine Go.tr st102 ?_
  refine Go.via (fun _ => XS.ifYes X102.here hx rfl (pc0 := 7) (pc' := 19) rfl (hb hby d1_7) rfl (by decide) (by decide) (by decide)) ?_
  refine Go.via (fun _ => XS.iconst X102.here hx rfl (hb hby d1_19)) ?_
  show Go p e below _ (T102.setTop (mkF m 20 #[rv a1] [(.int (1 : Int32))]))
  refine Go.via (fun _ => XS.goto X102.here hx rfl (pc0 := 20) (pc' := 24) rfl (hb hby d1_20) (by decide) (by decide)) ?_
  have hR : CHr Z consts_1 s.vm s.heap T102.vm T102.heap := by rw [hh, e102q]; exact R0.trans (CHv.at X102 hZ hEW R0.1)
  exact own_retNH X102 hS0 (by rw [e102q]; exact hk0) hR hx hlk (t := .boolean) Bd.returns (by simp) (hb hby d1_24) (by show QIT_1 Z bt a1 ccs h0 n0 _ T102.heap _; rw [e102q]; exact ⟨rfl, N102, (Keep.refl h0 [])⟩) (by decide) (by decide)
theorem ef_rmIT_L (m : MethodId) (x0 : Addr) : entryFrame m #[(.ref x0)] 1 = mkF m 0 #[rv x0] [] := by first | (simp [entryFrame, mkF, argsToLocals, Value.category]; done) | rfl
def QIT_L (Z : State) (bt : Addr) (a1 : Addr) (ccs : Int32) (h0 : Heap) (n0 : Nat) (v : Option Value) (h : Heap) (L : List Loc) : Prop := v = some (.int (0 : Int32)) ∧ Fr n0 L ∧ Keep h0 h []
set_option maxRecDepth 65536 in
set_option maxHeartbeats 40000000 in
theorem rmIT_L (l : Launch) (Z : State) (a0 : Array Value) (hw : TW Z a0) (ws : List Jvm.Cond) (bt : Addr) (a1 : Addr) (ccs : Int32) (h0 : Heap) (n0 : Nat) (Z0 : n0 ≤ h0.size) (hEW : EW Z a0 consts_1) (S_T : Sta Z Z.heap "java/lang/Boolean" "TRUE" "Ljava/lang/Boolean;" (.ref bt)) (ET : Exa Z h0 bt "java/lang/Boolean") (FT : Fld Z h0 bt "java/lang/Boolean" "value" "Z" (.int (1 : Int32))) (E1 : Exa Z h0 a1 "java/lang/Long") (O0 : Old Z n0 h0) (S_CS : Sta Z Z.heap "java/lang/String" "COMPACT_STRINGS" "Z" (.int ccs)) (hcs : ¬ (ccs = (0 : Int32))) :
    MetFree l (⟨"com/example/sluice/sluice/expression/Values", "isTrue", "(Ljava/lang/Object;)Z"⟩ : MethodName) (head1 (Jvm.Cond.code (⟨"com/example/sluice/sluice/expression/Values", "isTrue", "(Ljava/lang/Object;)Z"⟩ : MethodName) prog_11_method_7_code 1 (some .boolean) :: ws) (rmm 1 2 20 14)) (fun a U => a = #[(.ref a1)] ∧ Z.Warmed39 U.vm ∧ U.heap = h0 ∧ CHv Z consts_1 U.vm h0) (fun _ _ _ _ _ => True) (fun _ U o U' => ∃ v L, o = .returned v ∧ QIT_L Z bt a1 ccs h0 n0 v U'.heap L ∧ CHr Z consts_1 U.vm U.heap U'.vm U'.heap ∧ ReturnedEndW U o U' L (rmm 1 2 20 14).cells (rmm 1 2 20 14).slots) := by
  refine MetFree.of_bodySF (plainFor_of_name pn_com_example_sluice_sluice_expression_Values) hisR ?_
  intro p e s m args below meth c s₁ Bd hml0 hP hK
  obtain ⟨rfl, hZ, hh, hCH⟩ := hP
  have hx := Bd.exec
  have hby := Bd.bytes
  have hlk : meth.locks = false := Bd.notSynchronized
  have hml : c.maxLocals = 1 := hml0
  have hown : s.vm.findClass "com/example/sluice/sluice/expression/Values" = some m.cls := findClass_of_methodNamed Bd.named
  have hnm := (name_of_methodNamed Bd.named Bd.method).1
  have X0 : Stand p l e (rmm 1 2 20 14) (s.setVm s.vm) m #[(.ref a1)] below meth c s₁ [] 0 0 := Stand.of_body Bd
  replace hZ : Z.Warmed39 (s.setVm s.vm).vm := hZ
  replace hown : (s.setVm s.vm).vm.findClass "com/example/sluice/sluice/expression/Values" = some m.cls := hown
  have hS0 : s.Since s.vm 0 := (State.WarmedH.refl s).since 0
  have hk0 : 0 ≤ h0.size := Nat.zero_le _
  have R0 : CHr Z consts_1 s.vm h0 s.vm h0 := CHr.refl hCH
  have e0 : s₁.heap = h0 := by rw [← hh, Bd.state]; rfl
  have N0 := Fr.nil n0
  show Go p e below (FinH Z consts_1 s below (QIT_L Z bt a1 ccs h0 n0) (rmm 1 2 20 14).cells (rmm 1 2 20 14).slots) (s₁.setTop (entryFrame m #[(.ref a1)] 1))
  refine Go.via (fun t k => castTop (ef_rmIT_L m a1) k) ?_
  obtain ⟨T101, X101, e101, st101⟩ := getS2 X0 hx hZ hown (host := "") (Or.inl (ow hw 4 rfl)) Via.refl e0 (S_T.ext O0.2) (g := (mkF m 0 #[rv a1] [])) rfl (hb hby d1_0)
  refine Go.via st101 ?_
  refine Go.via (fun _ => XS.aloadN X101.here hx rfl (hb hby d1_3) rfl rfl) ?_
  obtain ⟨cq102, kq102, q102a, q102b, q102c⟩ := isOf hZ e101 ET
  obtain ⟨_, _, ⟨T102, L102, k102, n102⟩, -, X102, ⟨Lc102, hQ102, l102, y102, z102⟩, st102⟩ := X101.virtualBack hx (y := (⟨"java/lang/Boolean", "equals", "(Ljava/lang/Object;)Z"⟩ : MethodName)) (z := (⟨"java/lang/Boolean", "equals", "(Ljava/lang/Object;)Z"⟩ : MethodName)) hown (mvT hZ (ow hw 6 rfl)) (mvT hZ (ow hw 7 rfl)) (notFace_of_selects (args := #[]) (mvT hZ (ow hw 9 rfl))) (mvT hZ (ow hw 9 rfl)) (mvT hZ (ow hw 8 rfl)) (by decide) (backOf (W := 0) (rmBE_L l Z a0 hw [] bt a1 h0 n0 Z0 FT E1) hZ (ow hw 10 rfl) (ow hw 5 rfl) (by decide) (by decide)) q102a q102c (g := (mkF m 4 #[rv a1] [(.ref a1), (.ref bt)])) rfl (by rw [hml]; rfl) (Steps.refl _) (argsL := [(.ref a1)]) (rest := []) (lenOf pd_2 rfl) rfl (by show 2 * 0 + _ ≤ _; exact Nat.le_of_eq rfl) (hb hby d1_4) (fun _ _ => ⟨rfl, e101, (by decide : 0 + 0 ≤ _), (by decide : 0 + 0 ≤ _)⟩)
  dsimp only [Pt.U, Pt.locs, Pt.cells, Pt.slots] at X102 l102 y102 z102 st102 hQ102
  rw [l102, y102, z102] at X102
  replace X102 : Stand p l e _ _ m _ below meth c T102 _ 0 0 := X102
  obtain ⟨rfl, N102q, e102q⟩ := hQ102
  have N102 := Fr.app N0 N102q
  refine Go.tr st102 ?_
  refine Go.via (fun _ => XS.ifNo X102.here hx rfl (hb hby d1_7) rfl (by decide)) ?_
  have wS103 : ∀ d ∈ Bundle.stringAtoms, d.before a0 Z = true := fun d hd => hw d (by simpa using (List.all_eq_true.mp (by decide +kernel : (Bundle.stringAtoms.all fun d => tables_1.contains d) = true)) d hd)
  obtain ⟨s103, T103, h103, kk103, sb103, kb103, X103, e103, E103, hS103, hk103, hZ103, hown103, ex103, fc103, fv103, va103, lta103, ltb103, cr103, -, sne103, st103⟩ := ldcCH X102 hx hZ hown (ow hw 11 rfl) wS103 e102q hS0 hk0 hEW (by simp [consts_1]) R0.1 (vs := [(.int (116 : Int32)), (.int (114 : Int32)), (.int (117 : Int32)), (.int (101 : Int32))]) (z := (4 : Int32)) (by decide +kernel) (by decide) (by decide) (g := (mkF m 10 #[rv a1] [])) rfl (hb hby d1_10) (n := 16) (by decide +kernel) (by decide) (by decide) (by decide)
  refine Go.via st103 ?_
  have Zs103 : n0 ≤ h103.size := Nat.le_trans Z0 E103.1
  have O103 : Old Z n0 h103 := O0.ext E103
  have K103 : Keep h0 h103 [] := (Keep.refl h0 []).ext E103
  have fE_bt_103 := ET.ext E103
  have fF_bt_value_103 := FT.ext E103
  have fE_a1_103 := E1.ext E103
  have R103 : CHr Z consts_1 s.vm h0 T103.vm h103 := R0.trans cr103
  show Go p e below _ (T103.setTop (mkF m 12 #[rv a1] [(.ref s103)]))
  refine Go.via (fun _ => XS.aloadN X103.here hx rfl (hb hby d1_12) rfl rfl) ?_
  obtain ⟨cq104, kq104, q104a, q104b, q104c⟩ := isOf hZ103 e103 ex103
  obtain ⟨_, _, ⟨T104, L104, k104, n104⟩, -, X104, ⟨Lc104, hQ104, l104, y104, z104⟩, st104⟩ := X103.virtualBack hx (y := (⟨"java/lang/String", "equals", "(Ljava/lang/Object;)Z"⟩ : MethodName)) (z := (⟨"java/lang/String", "equals", "(Ljava/lang/Object;)Z"⟩ : MethodName)) hown103 (mvT hZ103 (ow hw 19 rfl)) (mvT hZ103 (ow hw 20 rfl)) (notFace_of_selects (args := #[]) (mvT hZ103 (ow hw 22 rfl))) (mvT hZ103 (ow hw 22 rfl)) (mvT hZ103 (ow hw 21 rfl)) (by decide) (backOf (W := 0) (rmSE_L l Z a0 hw [] s103 a1 h103 n0 Zs103 (Exa.ne ex103 fE_a1_103 (by decide)) fE_a1_103) hZ103 (ow hw 23 rfl) (ow hw 12 rfl) (by decide) (by decide)) q104a q104c (g := (mkF m 13 #[rv a1] [(.ref a1), (.ref s103)])) rfl (by rw [hml]; rfl) (Steps.refl _) (argsL := [(.ref a1)]) (rest := []) (lenOf pd_2 rfl) rfl (by show 2 * 0 + _ ≤ _; exact Nat.le_of_eq rfl) (hb hby d1_13) (fun _ _ => ⟨rfl, e103, (by decide : 2 + 0 ≤ _), (by decide : 20 + 0 ≤ _)⟩)
  dsimp only [Pt.U, Pt.locs, Pt.cells, Pt.slots] at X104 l104 y104 z104 st104 hQ104
  rw [l104, y104, z104] at X104
  replace X104 : Stand p l e _ _ m _ below meth c T104 _ 2 20 := X104
  obtain ⟨rfl, N104q, e104q⟩ := hQ104
  have N104 := Fr.app N102 N104q
  refine Go.tr st104 ?_
  refine Go.via (fun _ => XS.ifYes X104.here hx rfl (pc0 := 16) (pc' := 23) rfl (hb hby d1_16) rfl (by decide) (by decide) (by decide)) ?_
  refine Go.via (fun _ => XS.iconst X104.here hx rfl (hb hby d1_23)) ?_
  have hR : CHr Z consts_1 s.vm s.heap T104.vm T104.heap := by rw [hh, e104q]; exact R103.trans (CHv.at X104 hZ103 hEW R103.1)
  exact own_retNH X104 hS103 (by rw [e104q]; exact hk103) hR hx hlk (t := .boolean) Bd.returns (by simp) (hb hby d1_24) (by show QIT_L Z bt a1 ccs h0 n0 _ T104.heap _; rw [e104q]; exact ⟨rfl, N104, K103⟩) (by decide) (by decide)
theorem ef_rmIT_S0 (m : MethodId) (x0 : Addr) : entryFrame m #[(.ref x0)] 1 = mkF m 0 #[rv x0] [] := by first | (simp [entryFrame, mkF, argsToLocals, Value.category]; done) | rfl
def QIT_S0 (Z : State) (bt : Addr) (a1 : Addr) (t2 : Addr) (kb : ClassId) (zz : Int32) (vs : List Value) (ccs : Int32) (h0 : Heap) (n0 : Nat) (v : Option Value) (h : Heap) (L : List Loc) : Prop := v = some (.int (0 : Int32)) ∧ Fr n0 L ∧ Keep h0 h []
set_option maxRecDepth 65536 in
set_option maxHeartbeats 40000000 in
theorem rmIT_S0 (l : Launch) (Z : State) (a0 : Array Value) (hw : TW Z a0) (ws : List Jvm.Cond) (bt : Addr) (a1 : Addr) (t2 : Addr) (kb : ClassId) (zz : Int32) (vs : List Value) (ccs : Int32) (h0 : Heap) (n0 : Nat) (Z0 : n0 ≤ h0.size) (hEW : EW Z a0 consts_1) (S_T : Sta Z Z.heap "java/lang/Boolean" "TRUE" "Ljava/lang/Boolean;" (.ref bt)) (ET : Exa Z h0 bt "java/lang/Boolean") (FT : Fld Z h0 bt "java/lang/Boolean" "value" "Z" (.int (1 : Int32))) (E1 : Exa Z h0 a1 "java/lang/String") (F1 : Fld Z h0 a1 "java/lang/String" "value" "[B" (.ref t2)) (F2 : Fld Z h0 a1 "java/lang/String" "coder" "B" (.int (0 : Int32))) (V2 : Arv Z h0 t2 kb .byte zz vs (.int (0 : Int32))) (hz : ¬ ((4 : Int32) = zz)) (O0 : Old Z n0 h0) (S_CS : Sta Z Z.heap "java/lang/String" "COMPACT_STRINGS" "Z" (.int ccs)) (hcs : ¬ (ccs = (0 : Int32))) :
    MetFree l (⟨"com/example/sluice/sluice/expression/Values", "isTrue", "(Ljava/lang/Object;)Z"⟩ : MethodName) (head1 (Jvm.Cond.code (⟨"com/example/sluice/sluice/expression/Values", "isTrue", "(Ljava/lang/Object;)Z"⟩ : MethodName) prog_11_method_7_code 1 (some .boolean) :: ws) (rmm 2 2 20 28)) (fun a U => a = #[(.ref a1)] ∧ Z.Warmed39 U.vm ∧ U.heap = h0 ∧ CHv Z consts_1 U.vm h0) (fun _ _ _ _ _ => True) (fun _ U o U' => ∃ v L, o = .returned v ∧ QIT_S0 Z bt a1 t2 kb zz vs ccs h0 n0 v U'.heap L ∧ CHr Z consts_1 U.vm U.heap U'.vm U'.heap ∧ ReturnedEndW U o U' L (rmm 2 2 20 28).cells (rmm 2 2 20 28).slots) := by
  refine MetFree.of_bodySF (plainFor_of_name pn_com_example_sluice_sluice_expression_Values) hisR ?_
  intro p e s m args below meth c s₁ Bd hml0 hP hK
  obtain ⟨rfl, hZ, hh, hCH⟩ := hP
  have hx := Bd.exec
  have hby := Bd.bytes
  have hlk : meth.locks = false := Bd.notSynchronized
  have hml : c.maxLocals = 1 := hml0
  have hown : s.vm.findClass "com/example/sluice/sluice/expression/Values" = some m.cls := findClass_of_methodNamed Bd.named
  have hnm := (name_of_methodNamed Bd.named Bd.method).1
  have X0 : Stand p l e (rmm 2 2 20 28) (s.setVm s.vm) m #[(.ref a1)] below meth c s₁ [] 0 0 := Stand.of_body Bd
  replace hZ : Z.Warmed39 (s.setVm s.vm).vm := hZ
  replace hown : (s.setVm s.vm).vm.findClass "com/example/sluice/sluice/expression/Values" = some m.cls := hown
  have hS0 : s.Since s.vm 0 := (State.WarmedH.refl s).since 0
  have hk0 : 0 ≤ h0.size := Nat.zero_le _
  have R0 : CHr Z consts_1 s.vm h0 s.vm h0 := CHr.refl hCH
  have e0 : s₁.heap = h0 := by rw [← hh, Bd.state]; rfl
  have N0 := Fr.nil n0
  show Go p e below (FinH Z consts_1 s below (QIT_S0 Z bt a1 t2 kb zz vs ccs h0 n0) (rmm 2 2 20 28).cells (rmm 2 2 20 28).slots) (s₁.setTop (entryFrame m #[(.ref a1)] 1))
  refine Go.via (fun t k => castTop (ef_rmIT_S0 m a1) k) ?_
  obtain ⟨T101, X101, e101, st101⟩ := getS2 X0 hx hZ hown (host := "") (Or.inl (ow hw 4 rfl)) Via.refl e0 (S_T.ext O0.2) (g := (mkF m 0 #[rv a1] [])) rfl (hb hby d1_0)
  refine Go.via st101 ?_
  refine Go.via (fun _ => XS.aloadN X101.here hx rfl (hb hby d1_3) rfl rfl) ?_
  obtain ⟨cq102, kq102, q102a, q102b, q102c⟩ := isOf hZ e101 ET
  obtain ⟨_, _, ⟨T102, L102, k102, n102⟩, -, X102, ⟨Lc102, hQ102, l102, y102, z102⟩, st102⟩ := X101.virtualBack hx (y := (⟨"java/lang/Boolean", "equals", "(Ljava/lang/Object;)Z"⟩ : MethodName)) (z := (⟨"java/lang/Boolean", "equals", "(Ljava/lang/Object;)Z"⟩ : MethodName)) hown (mvT hZ (ow hw 6 rfl)) (mvT hZ (ow hw 7 rfl)) (notFace_of_selects (args := #[]) (mvT hZ (ow hw 9 rfl))) (mvT hZ (ow hw 9 rfl)) (mvT hZ (ow hw 8 rfl)) (by decide) (backOf (W := 0) (rmBE_S l Z a0 hw [] bt a1 h0 n0 Z0 FT E1) hZ (ow hw 10 rfl) (ow hw 5 rfl) (by decide) (by decide)) q102a q102c (g := (mkF m 4 #[rv a1] [(.ref a1), (.ref bt)])) rfl (by rw [hml]; rfl) (Steps.refl _) (argsL := [(.ref a1)]) (rest := []) (lenOf pd_2 rfl) rfl (by show 2 * 0 + _ ≤ _; exact Nat.le_of_eq rfl) (hb hby d1_4) (fun _ _ => ⟨rfl, e101, (by decide : 0 + 0 ≤ _), (by decide : 0 + 0 ≤ _)⟩)
  dsimp only [Pt.U, Pt.locs, Pt.cells, Pt.slots] at X102 l102 y102 z102 st102 hQ102
  rw [l102, y102, z102] at X102
  replace X102 : Stand p l e _ _ m _ below meth c T102 _ 0 0 := X102
  obtain ⟨rfl, N102q, e102q⟩ := hQ102
  have N102 := Fr.app N0 N102q
  refine Go.tr st102 ?_
  refine Go.via (fun _ => XS.ifNo X102.here hx rfl (hb hby d1_7) rfl (by decide)) ?_
  have wS103 : ∀ d ∈ Bundle.stringAtoms, d.before a0 Z = true := fun d hd => hw d (by simpa using (List.all_eq_true.mp (by decide +kernel : (Bundle.stringAtoms.all fun d => tables_1.contains d) = true)) d hd)
  obtain ⟨s103, T103, h103, kk103, sb103, kb103, X103, e103, E103, hS103, hk103, hZ103, hown103, ex103, fc103, fv103, va103, lta103, ltb103, cr103, -, sne103, st103⟩ := ldcCH X102 hx hZ hown (ow hw 11 rfl) wS103 e102q hS0 hk0 hEW (by simp [consts_1]) R0.1 (vs := [(.int (116 : Int32)), (.int (114 : Int32)), (.int (117 : Int32)), (.int (101 : Int32))]) (z := (4 : Int32)) (by decide +kernel) (by decide) (by decide) (g := (mkF m 10 #[rv a1] [])) rfl (hb hby d1_10) (n := 16) (by decide +kernel) (by decide) (by decide) (by decide)
  refine Go.via st103 ?_
  have Zs103 : n0 ≤ h103.size := Nat.le_trans Z0 E103.1
  have O103 : Old Z n0 h103 := O0.ext E103
  have K103 : Keep h0 h103 [] := (Keep.refl h0 []).ext E103
  have fE_bt_103 := ET.ext E103
  have fF_bt_value_103 := FT.ext E103
  have fE_a1_103 := E1.ext E103
  have fF_a1_value_103 := F1.ext E103
  have fF_a1_coder_103 := F2.ext E103
  have fV_t2_103 := V2.ext E103
  have R103 : CHr Z consts_1 s.vm h0 T103.vm h103 := R0.trans cr103
  show Go p e below _ (T103.setTop (mkF m 12 #[rv a1] [(.ref s103)]))
  refine Go.via (fun _ => XS.aloadN X103.here hx rfl (hb hby d1_12) rfl rfl) ?_
  show Go p e below _ (T103.setTop (mkF m 13 #[rv a1] [(.ref a1), (.ref s103)]))
  by_cases hax : a1 = s103
  ·
    have hsm := own_same hax fv103 fF_a1_value_103 va103 fV_t2_103
    exact absurd hsm.1 hz
  ·
    show Go p e below _ (T103.setTop (mkF m 13 #[rv a1] [(.ref a1), (.ref s103)]))
    obtain ⟨cq104, kq104, q104a, q104b, q104c⟩ := isOf hZ103 e103 ex103
    obtain ⟨_, _, ⟨T104, L104, k104, n104⟩, -, X104, ⟨Lc104, hQ104, l104, y104, z104⟩, st104⟩ := X103.virtualBack hx (y := (⟨"java/lang/String", "equals", "(Ljava/lang/Object;)Z"⟩ : MethodName)) (z := (⟨"java/lang/String", "equals", "(Ljava/lang/Object;)Z"⟩ : MethodName)) hown103 (mvT hZ103 (ow hw 19 rfl)) (mvT hZ103 (ow hw 20 rfl)) (notFace_of_selects (args := #[]) (mvT hZ103 (ow hw 22 rfl))) (mvT hZ103 (ow hw 22 rfl)) (mvT hZ103 (ow hw 21 rfl)) (by decide) (backOf (W := 0) (rmSE_S0 l Z a0 hw [] s103 a1 sb103 kb103 t2 kb zz vs ccs h103 n0 Zs103 (Ne.symm hax) fv103 fc103 fE_a1_103 fF_a1_value_103 fF_a1_coder_103 va103 fV_t2_103 hz O103 S_CS hcs) hZ103 (ow hw 23 rfl) (ow hw 12 rfl) (by decide) (by decide)) q104a q104c (g := (mkF m 13 #[rv a1] [(.ref a1), (.ref s103)])) rfl (by rw [hml]; rfl) (Steps.refl _) (argsL := [(.ref a1)]) (rest := []) (lenOf pd_2 rfl) rfl (by show 2 * 0 + _ ≤ _; exact Nat.le_of_eq rfl) (hb hby d1_13) (fun _ _ => ⟨rfl, e103, (by decide : 2 + 0 ≤ _), (by decide : 20 + 0 ≤ _)⟩)
    dsimp only [Pt.U, Pt.locs, Pt.cells, Pt.slots] at X104 l104 y104 z104 st104 hQ104
    rw [l104, y104, z104] at X104
    replace X104 : Stand p l e _ _ m _ below meth c T104 _ 2 20 := X104
    obtain ⟨rfl, N104q, e104q⟩ := hQ104
    have N104 := Fr.app N102 N104q
    refine Go.tr st104 ?_
    refine Go.via (fun _ => XS.ifYes X104.here hx rfl (pc0 := 16) (pc' := 23) rfl (hb hby d1_16) rfl (by decide) (by decide) (by decide)) ?_
    show Go p e below _ (T104.setTop (mkF m 23 #[rv a1] []))
    refine Go.via (fun _ => XS.iconst X104.here hx rfl (hb hby d1_23)) ?_
    have hR : CHr Z consts_1 s.vm s.heap T104.vm T104.heap := by rw [hh, e104q]; exact R103.trans (CHv.at X104 hZ103 hEW R103.1)
    exact own_retNH X104 hS103 (by rw [e104q]; exact hk103) hR hx hlk (t := .boolean) Bd.returns (by simp) (hb hby d1_24) (by show QIT_S0 Z bt a1 t2 kb zz vs ccs h0 n0 _ T104.heap _; rw [e104q]; exact ⟨rfl, N104, K103⟩) (by decide) (by decide)
theorem ef_rmIT_S1 (m : MethodId) (x0 : Addr) : entryFrame m #[(.ref x0)] 1 = mkF m 0 #[rv x0] [] := by first | (simp [entryFrame, mkF, argsToLocals, Value.category]; done) | rfl
def QIT_S1 (Z : State) (bt : Addr) (a1 : Addr) (t2 : Addr) (kb : ClassId) (y0 : Int32) (y1 : Int32) (y2 : Int32) (y3 : Int32) (ccs : Int32) (h0 : Heap) (n0 : Nat) (v : Option Value) (h : Heap) (L : List Loc) : Prop := v = some (.int (eqF y0 y1 y2 y3)) ∧ Fr n0 L ∧ Keep h0 h []
set_option maxRecDepth 65536 in
set_option maxHeartbeats 40000000 in
theorem rmIT_S1 (l : Launch) (Z : State) (a0 : Array Value) (hw : TW Z a0) (ws : List Jvm.Cond) (bt : Addr) (a1 : Addr) (t2 : Addr) (kb : ClassId) (y0 : Int32) (y1 : Int32) (y2 : Int32) (y3 : Int32) (ccs : Int32) (h0 : Heap) (n0 : Nat) (Z0 : n0 ≤ h0.size) (hEW : EW Z a0 consts_1) (S_T : Sta Z Z.heap "java/lang/Boolean" "TRUE" "Ljava/lang/Boolean;" (.ref bt)) (ET : Exa Z h0 bt "java/lang/Boolean") (FT : Fld Z h0 bt "java/lang/Boolean" "value" "Z" (.int (1 : Int32))) (E1 : Exa Z h0 a1 "java/lang/String") (F1 : Fld Z h0 a1 "java/lang/String" "value" "[B" (.ref t2)) (F2 : Fld Z h0 a1 "java/lang/String" "coder" "B" (.int (0 : Int32))) (V2 : Arv Z h0 t2 kb .byte (4 : Int32) [(.int y0), (.int y1), (.int y2), (.int y3)] (.int (0 : Int32))) (O0 : Old Z n0 h0) (S_CS : Sta Z Z.heap "java/lang/String" "COMPACT_STRINGS" "Z" (.int ccs)) (hcs : ¬ (ccs = (0 : Int32))) :
    MetFree l (⟨"com/example/sluice/sluice/expression/Values", "isTrue", "(Ljava/lang/Object;)Z"⟩ : MethodName) (head1 (Jvm.Cond.code (⟨"com/example/sluice/sluice/expression/Values", "isTrue", "(Ljava/lang/Object;)Z"⟩ : MethodName) prog_11_method_7_code 1 (some .boolean) :: ws) (rmm 2 2 20 28)) (fun a U => a = #[(.ref a1)] ∧ Z.Warmed39 U.vm ∧ U.heap = h0 ∧ CHv Z consts_1 U.vm h0) (fun _ _ _ _ _ => True) (fun _ U o U' => ∃ v L, o = .returned v ∧ QIT_S1 Z bt a1 t2 kb y0 y1 y2 y3 ccs h0 n0 v U'.heap L ∧ CHr Z consts_1 U.vm U.heap U'.vm U'.heap ∧ ReturnedEndW U o U' L (rmm 2 2 20 28).cells (rmm 2 2 20 28).slots) := by
  refine MetFree.of_bodySF (plainFor_of_name pn_com_example_sluice_sluice_expression_Values) hisR ?_
  intro p e s m args below meth c s₁ Bd hml0 hP hK
  obtain ⟨rfl, hZ, hh, hCH⟩ := hP
  have hx := Bd.exec
  have hby := Bd.bytes
  have hlk : meth.locks = false := Bd.notSynchronized
  have hml : c.maxLocals = 1 := hml0
  have hown : s.vm.findClass "com/example/sluice/sluice/expression/Values" = some m.cls := findClass_of_methodNamed Bd.named
  have hnm := (name_of_methodNamed Bd.named Bd.method).1
  have X0 : Stand p l e (rmm 2 2 20 28) (s.setVm s.vm) m #[(.ref a1)] below meth c s₁ [] 0 0 := Stand.of_body Bd
  replace hZ : Z.Warmed39 (s.setVm s.vm).vm := hZ
  replace hown : (s.setVm s.vm).vm.findClass "com/example/sluice/sluice/expression/Values" = some m.cls := hown
  have hS0 : s.Since s.vm 0 := (State.WarmedH.refl s).since 0
  have hk0 : 0 ≤ h0.size := Nat.zero_le _
  have R0 : CHr Z consts_1 s.vm h0 s.vm h0 := CHr.refl hCH
  have e0 : s₁.heap = h0 := by rw [← hh, Bd.state]; rfl
  have N0 := Fr.nil n0
  show Go p e below (FinH Z consts_1 s below (QIT_S1 Z bt a1 t2 kb y0 y1 y2 y3 ccs h0 n0) (rmm 2 2 20 28).cells (rmm 2 2 20 28).slots) (s₁.setTop (entryFrame m #[(.ref a1)] 1))
  refine Go.via (fun t k => castTop (ef_rmIT_S1 m a1) k) ?_
  obtain ⟨T101, X101, e101, st101⟩ := getS2 X0 hx hZ hown (host := "") (Or.inl (ow hw 4 rfl)) Via.refl e0 (S_T.ext O0.2) (g := (mkF m 0 #[rv a1] [])) rfl (hb hby d1_0)
  refine Go.via st101 ?_
  refine Go.via (fun _ => XS.aloadN X101.here hx rfl (hb hby d1_3) rfl rfl) ?_
  obtain ⟨cq102, kq102, q102a, q102b, q102c⟩ := isOf hZ e101 ET
  obtain ⟨_, _, ⟨T102, L102, k102, n102⟩, -, X102, ⟨Lc102, hQ102, l102, y102, z102⟩, st102⟩ := X101.virtualBack hx (y := (⟨"java/lang/Boolean", "equals", "(Ljava/lang/Object;)Z"⟩ : MethodName)) (z := (⟨"java/lang/Boolean", "equals", "(Ljava/lang/Object;)Z"⟩ : MethodName)) hown (mvT hZ (ow hw 6 rfl)) (mvT hZ (ow hw 7 rfl)) (notFace_of_selects (args := #[]) (mvT hZ (ow hw 9 rfl))) (mvT hZ (ow hw 9 rfl)) (mvT hZ (ow hw 8 rfl)) (by decide) (backOf (W := 0) (rmBE_S l Z a0 hw [] bt a1 h0 n0 Z0 FT E1) hZ (ow hw 10 rfl) (ow hw 5 rfl) (by decide) (by decide)) q102a q102c (g := (mkF m 4 #[rv a1] [(.ref a1), (.ref bt)])) rfl (by rw [hml]; rfl) (Steps.refl _) (argsL := [(.ref a1)]) (rest := []) (lenOf pd_2 rfl) rfl (by show 2 * 0 + _ ≤ _; exact Nat.le_of_eq rfl) (hb hby d1_4) (fun _ _ => ⟨rfl, e101, (by decide : 0 + 0 ≤ _), (by decide : 0 + 0 ≤ _)⟩)
  dsimp only [Pt.U, Pt.locs, Pt.cells, Pt.slots] at X102 l102 y102 z102 st102 hQ102
  rw [l102, y102, z102] at X102
  replace X102 : Stand p l e _ _ m _ below meth c T102 _ 0 0 := X102
  obtain ⟨rfl, N102q, e102q⟩ := hQ102
  have N102 := Fr.app N0 N102q
  refine Go.tr st102 ?_
  refine Go.via (fun _ => XS.ifNo X102.here hx rfl (hb hby d1_7) rfl (by decide)) ?_
  have wS103 : ∀ d ∈ Bundle.stringAtoms, d.before a0 Z = true := fun d hd => hw d (by simpa using (List.all_eq_true.mp (by decide +kernel : (Bundle.stringAtoms.all fun d => tables_1.contains d) = true)) d hd)
  obtain ⟨s103, T103, h103, kk103, sb103, kb103, X103, e103, E103, hS103, hk103, hZ103, hown103, ex103, fc103, fv103, va103, lta103, ltb103, cr103, -, sne103, st103⟩ := ldcCH X102 hx hZ hown (ow hw 11 rfl) wS103 e102q hS0 hk0 hEW (by simp [consts_1]) R0.1 (vs := [(.int (116 : Int32)), (.int (114 : Int32)), (.int (117 : Int32)), (.int (101 : Int32))]) (z := (4 : Int32)) (by decide +kernel) (by decide) (by decide) (g := (mkF m 10 #[rv a1] [])) rfl (hb hby d1_10) (n := 16) (by decide +kernel) (by decide) (by decide) (by decide)
  refine Go.via st103 ?_
  have Zs103 : n0 ≤ h103.size := Nat.le_trans Z0 E103.1
  have O103 : Old Z n0 h103 := O0.ext E103
  have K103 : Keep h0 h103 [] := (Keep.refl h0 []).ext E103
  have fE_bt_103 := ET.ext E103
  have fF_bt_value_103 := FT.ext E103
  have fE_a1_103 := E1.ext E103
  have fF_a1_value_103 := F1.ext E103
  have fF_a1_coder_103 := F2.ext E103
  have fV_t2_103 := V2.ext E103
  have R103 : CHr Z consts_1 s.vm h0 T103.vm h103 := R0.trans cr103
  show Go p e below _ (T103.setTop (mkF m 12 #[rv a1] [(.ref s103)]))
  refine Go.via (fun _ => XS.aloadN X103.here hx rfl (hb hby d1_12) rfl rfl) ?_
  show Go p e below _ (T103.setTop (mkF m 13 #[rv a1] [(.ref a1), (.ref s103)]))
  by_cases hax : a1 = s103
  ·
    have hsm := own_same hax fv103 fF_a1_value_103 va103 fV_t2_103
    have q0 : (116 : Int32) = y0 := Value.int.inj (hsm.2 0 (by decide))
    have q1 : (114 : Int32) = y1 := Value.int.inj (hsm.2 1 (by decide))
    have q2 : (117 : Int32) = y2 := Value.int.inj (hsm.2 2 (by decide))
    have q3 : (101 : Int32) = y3 := Value.int.inj (hsm.2 3 (by decide))
    rw [← hax]
    show Go p e below _ (T103.setTop (mkF m 13 #[rv a1] [(.ref a1), (.ref a1)]))
    obtain ⟨cq104, kq104, q104a, q104b, q104c⟩ := isOf hZ103 e103 fE_a1_103
    obtain ⟨_, _, ⟨T104, L104, k104, n104⟩, -, X104, ⟨Lc104, hQ104, l104, y104, z104⟩, st104⟩ := X103.virtualBack hx (y := (⟨"java/lang/String", "equals", "(Ljava/lang/Object;)Z"⟩ : MethodName)) (z := (⟨"java/lang/String", "equals", "(Ljava/lang/Object;)Z"⟩ : MethodName)) hown103 (mvT hZ103 (ow hw 19 rfl)) (mvT hZ103 (ow hw 20 rfl)) (notFace_of_selects (args := #[]) (mvT hZ103 (ow hw 22 rfl))) (mvT hZ103 (ow hw 22 rfl)) (mvT hZ103 (ow hw 21 rfl)) (by decide) (backOf (W := 0) (rmSE_same l Z a0 hw [] a1 h103 n0 Zs103) hZ103 (ow hw 23 rfl) (ow hw 12 rfl) (by decide) (by decide)) q104a q104c (g := (mkF m 13 #[rv a1] [(.ref a1), (.ref a1)])) rfl (by rw [hml]; rfl) (Steps.refl _) (argsL := [(.ref a1)]) (rest := []) (lenOf pd_2 rfl) rfl (by show 2 * 0 + _ ≤ _; exact Nat.le_of_eq rfl) (hb hby d1_13) (fun _ _ => ⟨rfl, e103, (by decide : 2 + 0 ≤ _), (by decide : 20 + 0 ≤ _)⟩)
    dsimp only [Pt.U, Pt.locs, Pt.cells, Pt.slots] at X104 l104 y104 z104 st104 hQ104
    rw [l104, y104, z104] at X104
    replace X104 : Stand p l e _ _ m _ below meth c T104 _ 2 20 := X104
    obtain ⟨rfl, N104q, e104q⟩ := hQ104
    have N104 := Fr.app N102 N104q
    refine Go.tr st104 ?_
    refine Go.via (fun _ => XS.ifNo X104.here hx rfl (hb hby d1_16) rfl (by decide)) ?_
    show Go p e below _ (T104.setTop (mkF m 19 #[rv a1] []))
    refine Go.via (fun _ => XS.iconst X104.here hx rfl (hb hby d1_19)) ?_
    refine Go.via (fun _ => XS.goto X104.here hx rfl (pc0 := 20) (pc' := 24) rfl (hb hby d1_20) (by decide) (by decide)) ?_
    have hR : CHr Z consts_1 s.vm s.heap T104.vm T104.heap := by rw [hh, e104q]; exact R103.trans (CHv.at X104 hZ103 hEW R103.1)
    exact own_retNH X104 hS103 (by rw [e104q]; exact hk103) hR hx hlk (t := .boolean) Bd.returns (by simp) (hb hby d1_24) (by show QIT_S1 Z bt a1 t2 kb y0 y1 y2 y3 ccs h0 n0 _ T104.heap _; rw [e104q]; exact ⟨by rw [eqF, if_pos q0, if_pos q1, if_pos q2, if_pos q3] <;> rfl, N104, K103⟩) (by decide) (by decide)
  ·
    show Go p e below _ (T103.setTop (mkF m 13 #[rv a1] [(.ref a1), (.ref s103)]))
    obtain ⟨cq105, kq105, q105a, q105b, q105c⟩ := isOf hZ103 e103 ex103
    obtain ⟨_, _, ⟨T105, L105, k105, n105⟩, -, X105, ⟨Lc105, hQ105, l105, y105, z105⟩, st105⟩ := X103.virtualBack hx (y := (⟨"java/lang/String", "equals", "(Ljava/lang/Object;)Z"⟩ : MethodName)) (z := (⟨"java/lang/String", "equals", "(Ljava/lang/Object;)Z"⟩ : MethodName)) hown103 (mvT hZ103 (ow hw 19 rfl)) (mvT hZ103 (ow hw 20 rfl)) (notFace_of_selects (args := #[]) (mvT hZ103 (ow hw 22 rfl))) (mvT hZ103 (ow hw 22 rfl)) (mvT hZ103 (ow hw 21 rfl)) (by decide) (backOf (W := 0) (rmSE_S1 l Z a0 hw [] s103 a1 sb103 kb103 t2 kb y0 y1 y2 y3 ccs h103 n0 Zs103 (Ne.symm hax) fv103 fc103 fE_a1_103 fF_a1_value_103 fF_a1_coder_103 va103 fV_t2_103 O103 S_CS hcs) hZ103 (ow hw 23 rfl) (ow hw 12 rfl) (by decide) (by decide)) q105a q105c (g := (mkF m 13 #[rv a1] [(.ref a1), (.ref s103)])) rfl (by rw [hml]; rfl) (Steps.refl _) (argsL := [(.ref a1)]) (rest := []) (lenOf pd_2 rfl) rfl (by show 2 * 0 + _ ≤ _; exact Nat.le_of_eq rfl) (hb hby d1_13) (fun _ _ => ⟨rfl, e103, (by decide : 2 + 0 ≤ _), (by decide : 20 + 0 ≤ _)⟩)
    dsimp only [Pt.U, Pt.locs, Pt.cells, Pt.slots] at X105 l105 y105 z105 st105 hQ105
    rw [l105, y105, z105] at X105
    replace X105 : Stand p l e _ _ m _ below meth c T105 _ 2 20 := X105
    obtain ⟨rfl, N105q, e105q⟩ := hQ105
    have N105 := Fr.app N102 N105q
    refine Go.tr st105 ?_
    by_cases hc106 : (eqF y0 y1 y2 y3) = (0 : Int32)
    · -- yes
      show Go p e below _ (T105.setTop (mkF m 16 #[rv a1] [(.int (eqF y0 y1 y2 y3))]))
      refine Go.via (fun _ => XS.ifYes X105.here hx rfl (pc0 := 16) (pc' := 23) rfl (hb hby d1_16) rfl ((if0 _ _).trans (teq hc106).1) (by decide) (by decide)) ?_
      refine Go.via (fun _ => XS.iconst X105.here hx rfl (hb hby d1_23)) ?_
      have hR : CHr Z consts_1 s.vm s.heap T105.vm T105.heap := by rw [hh, e105q]; exact R103.trans (CHv.at X105 hZ103 hEW R103.1)
      exact own_retNH X105 hS103 (by rw [e105q]; exact hk103) hR hx hlk (t := .boolean) Bd.returns (by simp) (hb hby d1_24) (by show QIT_S1 Z bt a1 t2 kb y0 y1 y2 y3 ccs h0 n0 _ T105.heap _; rw [e105q]; exact ⟨by rw [hc106] <;> rfl, N105, K103⟩) (by decide) (by decide)
    · -- no
      show Go p e below _ (T105.setTop (mkF m 16 #[rv a1] [(.int (eqF y0 y1 y2 y3))]))
      refine Go.via (fun _ => XS.ifNo X105.here hx rfl (hb hby d1_16) rfl ((if0 _ _).trans (feq hc106).1)) ?_
      refine Go.via (fun _ => XS.iconst X105.here hx rfl (hb hby d1_19)) ?_
      refine Go.via (fun _ => XS.goto X105.here hx rfl (pc0 := 20) (pc' := 24) rfl (hb hby d1_20) (by decide) (by decide)) ?_
      have hR : CHr Z consts_1 s.vm s.heap T105.vm T105.heap := by rw [hh, e105q]; exact R103.trans (CHv.at X105 hZ103 hEW R103.1)
      exact own_retNH X105 hS103 (by rw [e105q]; exact hk103) hR hx hlk (t := .boolean) Bd.returns (by simp) (hb hby d1_24) (by show QIT_S1 Z bt a1 t2 kb y0 y1 y2 y3 ccs h0 n0 _ T105.heap _; rw [e105q]; exact ⟨by rw [own_eqne hc106] <;> rfl, N105, K103⟩) (by decide) (by decide)
theorem ef_rmNum (m : MethodId) (x0 : Addr) : entryFrame m #[(.ref x0)] 1 = mkF m 0 #[rv x0] [] := by first | (simp [entryFrame, mkF, argsToLocals, Value.category]; done) | rfl
def QNum (Z : State) (a1 : Addr) (h0 : Heap) (n0 : Nat) (v : Option Value) (h : Heap) (L : List Loc) : Prop := v = none ∧ Fr n0 L ∧ h = h0
set_option maxRecDepth 65536 in
set_option maxHeartbeats 40000000 in
theorem rmNum (l : Launch) (Z : State) (a0 : Array Value) (hw : TW Z a0) (ws : List Jvm.Cond) (a1 : Addr) (h0 : Heap) (n0 : Nat) (Z0 : n0 ≤ h0.size) :
    MF l Z (⟨"java/lang/Number", "<init>", "()V"⟩ : MethodName) jdk_18_method_1_code 1 none ws (rmm 1 0 0 12) #[(.ref a1)] h0 (QNum Z a1 h0 n0) := by
  refine MetFree.of_bodySF (plainFor_of_name pn_java_lang_Number) hisR ?_
  intro p e s m args below meth c s₁ Bd hml0 hP hK
  obtain ⟨rfl, hZ, hh⟩ := hP
  have hx := Bd.exec
  have hby := Bd.bytes
  have hlk : meth.locks = false := Bd.notSynchronized
  have hml : c.maxLocals = 1 := hml0
  have hown : s.vm.findClass "java/lang/Number" = some m.cls := findClass_of_methodNamed Bd.named
  have hnm := (name_of_methodNamed Bd.named Bd.method).1
  have X0 : Stand p l e (rmm 1 0 0 12) s m #[(.ref a1)] below meth c s₁ [] 0 0 := Stand.of_body Bd
  have e0 : s₁.heap = h0 := by rw [← hh, Bd.state]; rfl
  have N0 := Fr.nil n0
  show Go p e below (FinE s below (QNum Z a1 h0 n0) (rmm 1 0 0 12).cells (rmm 1 0 0 12).slots) (s₁.setTop (entryFrame m #[(.ref a1)] 1))
  refine Go.via (fun t k => castTop (ef_rmNum m a1) k) ?_
  refine Go.via (fun _ => XS.aloadN X0.here hx rfl (hb hby d6_0) rfl rfl) ?_
  obtain ⟨T101, X101, e101, st101⟩ := initO X0 hx hZ hown (ow hw 42 rfl) (ow hw 43 rfl) (ow hw 44 rfl) e0 (g := (mkF m 1 #[rv a1] [(.ref a1)])) rfl (by rw [hml]; rfl) rfl (hb hby d6_1) (by decide) (W := 0) (by show 2 * 0 + _ ≤ _; exact Nat.le_of_eq rfl) (by decide)
  refine Go.via st101 ?_
  exact own_retV X101 hx hlk Bd.returns (hb hby d6_4) (by show QNum Z a1 h0 n0 _ T101.heap _; rw [e101]; exact ⟨rfl, N0, rfl⟩) (by decide) (by decide)
theorem ef_rmLI (m : MethodId) (x0 : Addr) (x1 : Int64) : entryFrame m #[(.ref x0), (.long x1)] 3 = mkF m 0 #[rv x0, .val (.long x1), .second] [] := by first | (simp [entryFrame, mkF, argsToLocals, Value.category]; done) | rfl
def QLI (Z : State) (a1 : Addr) (nn : Int64) (h0 : Heap) (n0 : Nat) (v : Option Value) (h : Heap) (L : List Loc) : Prop := v = none ∧ Fr n0 L ∧ Keep h0 h [a1]
set_option maxRecDepth 65536 in
set_option maxHeartbeats 40000000 in
theorem rmLI (l : Launch) (Z : State) (a0 : Array Value) (hw : TW Z a0) (ws : List Jvm.Cond) (a1 : Addr) (nn : Int64) (h0 : Heap) (n0 : Nat) (Z0 : n0 ≤ h0.size) (E1 : Exa Z h0 a1 "java/lang/Long") (F1 : Fld Z h0 a1 "java/lang/Long" "value" "J" (.long (0 : Int64))) (g1 : n0 ≤ a1) :
    MF l Z (⟨"java/lang/Long", "<init>", "(J)V"⟩ : MethodName) jdk_35_method_26_code 3 none ws (rmm 2 0 0 24) #[(.ref a1), (.long nn)] h0 (QLI Z a1 nn h0 n0) := by
  refine MetFree.of_bodySF (plainFor_of_name pn_java_lang_Long) hisR ?_
  intro p e s m args below meth c s₁ Bd hml0 hP hK
  obtain ⟨rfl, hZ, hh⟩ := hP
  have hx := Bd.exec
  have hby := Bd.bytes
  have hlk : meth.locks = false := Bd.notSynchronized
  have hml : c.maxLocals = 3 := hml0
  have hown : s.vm.findClass "java/lang/Long" = some m.cls := findClass_of_methodNamed Bd.named
  have hnm := (name_of_methodNamed Bd.named Bd.method).1
  have X0 : Stand p l e (rmm 2 0 0 24) s m #[(.ref a1), (.long nn)] below meth c s₁ [] 0 0 := Stand.of_body Bd
  have e0 : s₁.heap = h0 := by rw [← hh, Bd.state]; rfl
  have N0 := Fr.nil n0
  show Go p e below (FinE s below (QLI Z a1 nn h0 n0) (rmm 2 0 0 24).cells (rmm 2 0 0 24).slots) (s₁.setTop (entryFrame m #[(.ref a1), (.long nn)] 3))
  refine Go.via (fun t k => castTop (ef_rmLI m a1 nn) k) ?_
  refine Go.via (fun _ => XS.aloadN X0.here hx rfl (hb hby d5_0) rfl rfl) ?_
  obtain ⟨_, _, ⟨T101, L101, k101, n101⟩, -, X101, ⟨Lc101, hQ101, l101, y101, z101⟩, st101⟩ := X0.specialBack hx (y := (⟨"java/lang/Number", "<init>", "()V"⟩ : MethodName)) rfl hown (mvT hZ (ow hw 36 rfl)) (mvT hZ (ow hw 37 rfl)) (mvT hZ (ow hw 41 rfl)) (by decide) (backOf (W := 0) (rmNum l Z a0 hw [] a1 h0 n0 Z0) hZ (ow hw 41 rfl) (ow hw 40 rfl) (by decide) (by decide)) (g := (mkF m 1 #[rv a1, .val (.long nn), .second] [(.ref a1)])) rfl (by rw [hml]; rfl) (Steps.refl _) (a := a1) (argsL := []) (rest := []) (lenOf pd_3 rfl) rfl (by show 2 * 0 + _ ≤ _; exact Nat.le_of_eq rfl) (hb hby d5_1) (fun _ _ => ⟨rfl, e0, (by decide : 0 + 0 ≤ _), (by decide : 0 + 0 ≤ _)⟩)
  dsimp only [Pt.U, Pt.locs, Pt.cells, Pt.slots] at X101 l101 y101 z101 st101 hQ101
  rw [l101, y101, z101] at X101
  replace X101 : Stand p l e _ _ m _ below meth c T101 _ 0 0 := X101
  obtain ⟨rfl, N101q, e101q⟩ := hQ101
  have N101 := Fr.app N0 N101q
  refine Go.tr st101 ?_
  refine Go.via (fun _ => XS.aloadN X101.here hx rfl (hb hby d5_4) rfl rfl) ?_
  refine Go.via (fun _ => XS.lloadN X101.here hx rfl (hb hby d5_5) rfl) ?_
  obtain ⟨T102, h102, X102, e102, W102, st102⟩ := putF X101 hx hZ hown (host := "") (Or.inl (ow hw 45 rfl)) Via.refl e101q F1 E1 (Or.inr ⟨(ow hw 46 rfl), rfl, hnm⟩) (ow hw 31 rfl) (ty := .long) (by decide) rfl rfl (g := (mkF m 6 #[rv a1, .val (.long nn), .second] [(.long nn), (.ref a1)])) rfl rfl (hb hby d5_6)
  refine Go.via st102 ?_
  have fF_a1_value_102 : Fld Z h102 a1 "java/lang/Long" "value" "J" (.long nn) := F1.same W102
  have Zs102 : n0 ≤ h102.size := Nat.le_trans Z0 (Keep.of_wr W102).1
  have K102 : Keep h0 h102 [a1] := (Keep.refl h0 [a1]).wr W102 (Or.inl (List.mem_of_getElem? (i := 0) rfl))
  have N102 := Fr.snoc X102 N101 g1
  have fE_a1_102 := E1.wr W102
  show Go p e below _ (T102.setTop (mkF m 9 #[rv a1, .val (.long nn), .second] []))
  exact own_retV X102 hx hlk Bd.returns (hb hby d5_9) (by show QLI Z a1 nn h0 n0 _ T102.heap _; rw [e102]; exact ⟨rfl, N102, K102⟩) (by decide) (by decide)
theorem ef_rmLV (m : MethodId) (x0 : Int64) : entryFrame m #[(.long x0)] 3 = mkF m 0 #[.val (.long x0), .second, .unset] [] := by first | (simp [entryFrame, mkF, argsToLocals, Value.category]; done) | rfl
def QLV (Z : State) (nn : Int64) (lc : Addr) (kL : ClassId) (vs : List Value) (h0 : Heap) (n0 : Nat) (v : Option Value) (h : Heap) (L : List Loc) : Prop := ∃ b : Addr, v = some (.ref b) ∧ Fr n0 L ∧ Keep h0 h [] ∧ Exa Z h b "java/lang/Long"
set_option maxRecDepth 65536 in
set_option maxHeartbeats 40000000 in
theorem rmLV (l : Launch) (Z : State) (a0 : Array Value) (hw : TW Z a0) (ws : List Jvm.Cond) (nn : Int64) (lc : Addr) (kL : ClassId) (vs : List Value) (h0 : Heap) (n0 : Nat) (Z0 : n0 ≤ h0.size) (O0 : Old Z n0 h0) (S_L : Sta Z Z.heap "java/lang/Long$LongCache" "cache" "[Ljava/lang/Long;" (.ref lc)) (VC : Arv Z h0 lc kL (.object "java/lang/Long") (256 : Int32) vs .null) (hel : ∀ i, i < 256 → ∃ b : Addr, vs.getD i .null = .ref b ∧ Exa Z h0 b "java/lang/Long") :
    MF l Z (⟨"java/lang/Long", "valueOf", "(J)Ljava/lang/Long;"⟩ : MethodName) jdk_35_method_24_code 3 (some (.object "java/lang/Long")) ws (rmm 3 1 1 39) #[(.long nn)] h0 (QLV Z nn lc kL vs h0 n0) := by
  refine MetFree.of_bodySF (plainFor_of_name pn_java_lang_Long) hisR ?_
  intro p e s m args below meth c s₁ Bd hml0 hP hK
  obtain ⟨rfl, hZ, hh⟩ := hP
  have hx := Bd.exec
  have hby := Bd.bytes
  have hlk : meth.locks = false := Bd.notSynchronized
  have hml : c.maxLocals = 3 := hml0
  have hown : s.vm.findClass "java/lang/Long" = some m.cls := findClass_of_methodNamed Bd.named
  have hnm := (name_of_methodNamed Bd.named Bd.method).1
  have X0 : Stand p l e (rmm 3 1 1 39) s m #[(.long nn)] below meth c s₁ [] 0 0 := Stand.of_body Bd
  have e0 : s₁.heap = h0 := by rw [← hh, Bd.state]; rfl
  have N0 := Fr.nil n0
  show Go p e below (FinE s below (QLV Z nn lc kL vs h0 n0) (rmm 3 1 1 39).cells (rmm 3 1 1 39).slots) (s₁.setTop (entryFrame m #[(.long nn)] 3))
  refine Go.via (fun t k => castTop (ef_rmLV m nn) k) ?_
  refine Go.via (fun _ => XS.sipush X0.here hx rfl (hb hby d4_0)) ?_
  refine Go.via (fun _ => XS.istoreN X0.here hx rfl (hb hby d4_3) rfl (l' := #[.val (.long nn), .second, iv (128 : Int32)]) rfl) ?_
  refine Go.via (fun _ => XS.lloadN X0.here hx rfl (hb hby d4_4) rfl) ?_
  refine Go.via (X0.ldc2Long hx hown (mvT hZ (ow hw 28 rfl)) (g := (mkF m 5 #[.val (.long nn), .second, iv (128 : Int32)] [(.long nn)])) rfl (hb hby d4_5)) ?_
  refine Go.via (fun _ => XS.lcmp X0.here hx rfl (hb hby d4_8) rfl) ?_
  show Go p e below _ (s₁.setTop (mkF m 9 #[.val (.long nn), .second, iv (128 : Int32)] [(.int (lcmpW nn (-128 : Int64)))]))
  by_cases hc101 : (lcmpW nn (-128 : Int64)) < (0 : Int32)
  · -- yes
    refine Go.via (fun _ => XS.ifYes X0.here hx rfl (pc0 := 9) (pc' := 31) rfl (hb hby d4_9) rfl ((if0 _ _).trans (tlt hc101).1) (by decide) (by decide)) ?_
    obtain ⟨T102, h102, X102, e102, E102, A102, D102, -, st102⟩ := newO X0 hx hZ hown (ow hw 30 rfl) (ow hw 31 rfl) (ow hw 26 rfl) e0 (g := (mkF m 31 #[.val (.long nn), .second, iv (128 : Int32)] [])) rfl (hb hby d4_31) (by decide) (by decide)
    obtain ⟨b102, g102⟩ : ∃ z, z = h0.size := ⟨_, rfl⟩
    rw [← g102] at A102 D102 st102
    have g_b102 : n0 ≤ b102 := Nat.le_trans Z0 (Nat.le_of_eq g102.symm)
    have ne_lc_b102 : lc ≠ b102 := Nat.ne_of_lt (Nat.lt_of_lt_of_le VC.lt (Nat.le_of_eq g102.symm))
    have sz_b102 : h0.size ≤ b102 := Nat.le_trans (Keep.refl h0 []).1 (Nat.le_of_eq g102.symm)
    refine Go.via st102 ?_
    have Zs102 : n0 ≤ h102.size := Nat.le_trans Z0 E102.1
    have O102 : Old Z n0 h102 := O0.ext E102
    have K102 : Keep h0 h102 [] := (Keep.refl h0 []).ext E102
    have fV_lc_102 := VC.ext E102
    have F_value_b102 : Fld Z h102 b102 "java/lang/Long" "value" "J" (.long (0 : Int64)) := D102 (Or.inr (ow hw 46 rfl)) (ty := .long) (by decide)
    refine Go.via (fun _ => XS.dup X102.here hx rfl (hb hby d4_34) rfl rfl) ?_
    refine Go.via (fun _ => XS.lloadN X102.here hx rfl (hb hby d4_35) rfl) ?_
    show Go p e below _ (T102.setTop (mkF m 36 #[.val (.long nn), .second, iv (128 : Int32)] [(.long nn), (.ref b102), (.ref b102)]))
    obtain ⟨_, _, ⟨T103, L103, k103, n103⟩, -, X103, ⟨Lc103, hQ103, l103, y103, z103⟩, st103⟩ := X102.specialBack hx (y := (⟨"java/lang/Long", "<init>", "(J)V"⟩ : MethodName)) rfl hown (mvT hZ (ow hw 32 rfl)) (mvT hZ (ow hw 33 rfl)) (mvT hZ (ow hw 35 rfl)) (by decide) (backOf (W := 1) (rmLI l Z a0 hw [] b102 nn h102 n0 Zs102 A102 F_value_b102 g_b102) hZ (ow hw 35 rfl) (ow hw 26 rfl) (by decide) (by decide)) (g := (mkF m 36 #[.val (.long nn), .second, iv (128 : Int32)] [(.long nn), (.ref b102), (.ref b102)])) rfl (by rw [hml]; rfl) (Steps.refl _) (a := b102) (argsL := [(.long nn)]) (rest := [(.ref b102)]) (lenOf pd_4 rfl) rfl (by show 2 * 0 + _ ≤ _; exact Nat.le_of_eq rfl) (hb hby d4_36) (fun _ _ => ⟨rfl, e102, (by decide : 1 + 0 ≤ _), (by decide : 1 + 0 ≤ _)⟩)
    dsimp only [Pt.U, Pt.locs, Pt.cells, Pt.slots] at X103 l103 y103 z103 st103 hQ103
    rw [l103, y103, z103] at X103
    replace X103 : Stand p l e _ _ m _ below meth c T103 _ 1 1 := X103
    obtain ⟨rfl, N103q, K103q⟩ := hQ103
    have N103 := Fr.app N0 N103q
    refine Go.tr st103 ?_
    have Zs103 : n0 ≤ T103.heap.size := Nat.le_trans Zs102 K103q.1
    have O103 : Old Z n0 T103.heap := O102.keep K103q (allS g_b102 all0)
    have K103 : Keep h0 T103.heap [] := K102.trans K103q (allS (Or.inr sz_b102) all0)
    have fV_lc_103 := fV_lc_102.keep K103q (ninS ne_lc_b102 nin0)
    have fE_b102_103 := A102.keep K103q
    exact own_retA X103 hx hlk Bd.returns rfl rfl (hb hby d4_39) (by show QLV Z nn lc kL vs h0 n0 _ T103.heap _; exact ⟨b102, rfl, N103, K103, fE_b102_103⟩) (by decide) (by decide)
  · -- no
    refine Go.via (fun _ => XS.ifNo X0.here hx rfl (hb hby d4_9) rfl ((if0 _ _).trans (flt hc101).1)) ?_
    refine Go.via (fun _ => XS.lloadN X0.here hx rfl (hb hby d4_12) rfl) ?_
    refine Go.via (X0.ldc2Long hx hown (mvT hZ (ow hw 29 rfl)) (g := (mkF m 13 #[.val (.long nn), .second, iv (128 : Int32)] [(.long nn)])) rfl (hb hby d4_13)) ?_
    refine Go.via (fun _ => XS.lcmp X0.here hx rfl (hb hby d4_16) rfl) ?_
    show Go p e below _ (s₁.setTop (mkF m 17 #[.val (.long nn), .second, iv (128 : Int32)] [(.int (lcmpW nn (127 : Int64)))]))
    by_cases hc104 : (0 : Int32) < (lcmpW nn (127 : Int64))
    · -- yes
      refine Go.via (fun _ => XS.ifYes X0.here hx rfl (pc0 := 17) (pc' := 31) rfl (hb hby d4_17) rfl ((if0 _ _).trans (tlt hc104).2.2.1) (by decide) (by decide)) ?_
      obtain ⟨T105, h105, X105, e105, E105, A105, D105, -, st105⟩ := newO X0 hx hZ hown (ow hw 30 rfl) (ow hw 31 rfl) (ow hw 26 rfl) e0 (g := (mkF m 31 #[.val (.long nn), .second, iv (128 : Int32)] [])) rfl (hb hby d4_31) (by decide) (by decide)
      obtain ⟨b105, g105⟩ : ∃ z, z = h0.size := ⟨_, rfl⟩
      rw [← g105] at A105 D105 st105
      have g_b105 : n0 ≤ b105 := Nat.le_trans Z0 (Nat.le_of_eq g105.symm)
      have ne_lc_b105 : lc ≠ b105 := Nat.ne_of_lt (Nat.lt_of_lt_of_le VC.lt (Nat.le_of_eq g105.symm))
      have sz_b105 : h0.size ≤ b105 := Nat.le_trans (Keep.refl h0 []).1 (Nat.le_of_eq g105.symm)
      refine Go.via st105 ?_
      have Zs105 : n0 ≤ h105.size := Nat.le_trans Z0 E105.1
      have O105 : Old Z n0 h105 := O0.ext E105
      have K105 : Keep h0 h105 [] := (Keep.refl h0 []).ext E105
      have fV_lc_105 := VC.ext E105
      have F_value_b105 : Fld Z h105 b105 "java/lang/Long" "value" "J" (.long (0 : Int64)) := D105 (Or.inr (ow hw 46 rfl)) (ty := .long) (by decide)
      refine Go.via (fun _ => XS.dup X105.here hx rfl (hb hby d4_34) rfl rfl) ?_
      refine Go.via (fun _ => XS.lloadN X105.here hx rfl (hb hby d4_35) rfl) ?_
      show Go p e below _ (T105.setTop (mkF m 36 #[.val (.long nn), .second, iv (128 : Int32)] [(.long nn), (.ref b105), (.ref b105)]))
      obtain ⟨_, _, ⟨T106, L106, k106, n106⟩, -, X106, ⟨Lc106, hQ106, l106, y106, z106⟩, st106⟩ := X105.specialBack hx (y := (⟨"java/lang/Long", "<init>", "(J)V"⟩ : MethodName)) rfl hown (mvT hZ (ow hw 32 rfl)) (mvT hZ (ow hw 33 rfl)) (mvT hZ (ow hw 35 rfl)) (by decide) (backOf (W := 1) (rmLI l Z a0 hw [] b105 nn h105 n0 Zs105 A105 F_value_b105 g_b105) hZ (ow hw 35 rfl) (ow hw 26 rfl) (by decide) (by decide)) (g := (mkF m 36 #[.val (.long nn), .second, iv (128 : Int32)] [(.long nn), (.ref b105), (.ref b105)])) rfl (by rw [hml]; rfl) (Steps.refl _) (a := b105) (argsL := [(.long nn)]) (rest := [(.ref b105)]) (lenOf pd_4 rfl) rfl (by show 2 * 0 + _ ≤ _; exact Nat.le_of_eq rfl) (hb hby d4_36) (fun _ _ => ⟨rfl, e105, (by decide : 1 + 0 ≤ _), (by decide : 1 + 0 ≤ _)⟩)
      dsimp only [Pt.U, Pt.locs, Pt.cells, Pt.slots] at X106 l106 y106 z106 st106 hQ106
      rw [l106, y106, z106] at X106
      replace X106 : Stand p l e _ _ m _ below meth c T106 _ 1 1 := X106
      obtain ⟨rfl, N106q, K106q⟩ := hQ106
      have N106 := Fr.app N0 N106q
      refine Go.tr st106 ?_
      have Zs106 : n0 ≤ T106.heap.size := Nat.le_trans Zs105 K106q.1
      have O106 : Old Z n0 T106.heap := O105.keep K106q (allS g_b105 all0)
      have K106 : Keep h0 T106.heap [] := K105.trans K106q (allS (Or.inr sz_b105) all0)
      have fV_lc_106 := fV_lc_105.keep K106q (ninS ne_lc_b105 nin0)
      have fE_b105_106 := A105.keep K106q
      exact own_retA X106 hx hlk Bd.returns rfl rfl (hb hby d4_39) (by show QLV Z nn lc kL vs h0 n0 _ T106.heap _; exact ⟨b105, rfl, N106, K106, fE_b105_106⟩) (by decide) (by decide)
    · -- no
      refine Go.via (fun _ => XS.ifNo X0.here hx rfl (hb hby d4_17) rfl ((if0 _ _).trans (flt hc104).2.2.1)) ?_
      obtain ⟨T107, X107, e107, st107⟩ := getS2 X0 hx hZ hown (host := "") (Or.inl (ow hw 99 rfl)) Via.refl e0 (S_L.ext O0.2) (g := (mkF m 20 #[.val (.long nn), .second, iv (128 : Int32)] [])) rfl (hb hby d4_20)
      refine Go.via st107 ?_
      refine Go.via (fun _ => XS.lloadN X107.here hx rfl (hb hby d4_23) rfl) ?_
      refine Go.via (fun _ => XS.l2i X107.here hx rfl (hb hby d4_24) rfl) ?_
      show Go p e below _ (T107.setTop (mkF m 25 #[.val (.long nn), .second, iv (128 : Int32)] [(.int (nn.toInt32)), (.ref lc)]))
      refine Go.via (fun _ => XS.sipush X107.here hx rfl (hb hby d4_25)) ?_
      refine Go.via (fun _ => XS.iadd X107.here hx rfl (hb hby d4_28) rfl) ?_
      obtain ⟨bx, hbx, bxE⟩ := hel _ (own_ixlt (own_cix hc101 hc104))
      obtain ⟨cl108, Ar108, q108, S108, N108n, H108, G108⟩ := id VC
      have hin108 := inb_of (j := ((nn.toInt32) + (128 : Int32))) S108 (own_cix hc101 hc104)
      have hat108 : cl108.slots[(((nn.toInt32) + (128 : Int32)) : Int32).toNatClampNeg]? = some (.ref bx) := H108.at hin108 hbx
      refine Go.via (X107.aaload hx (j := ((nn.toInt32) + (128 : Int32))) (v := (.ref bx)) (by rw [e107]; exact Ar108.1) (State.isArrayOf_alike hZ.alike Ar108.2.1) rfl Ar108.2.2 hin108 hat108 (g := (mkF m 29 #[.val (.long nn), .second, iv (128 : Int32)] [(.int ((nn.toInt32) + (128 : Int32))), (.ref lc)])) rfl rfl (hb hby d4_29)) ?_
      exact own_retA X107 hx hlk Bd.returns rfl rfl (hb hby d4_30) (by show QLV Z nn lc kL vs h0 n0 _ T107.heap _; rw [e107]; exact ⟨bx, rfl, N0, (Keep.refl h0 []), bxE⟩) (by decide) (by decide)
def Tx0 (Z : State) (h : Heap) (a1 : Addr) : Prop := ∃ (t : Addr) (kb : ClassId), Fld Z h a1 "java/lang/String" "value" "[B" (.ref t) ∧ Fld Z h a1 "java/lang/String" "coder" "B" (.int (0 : Int32)) ∧ Arv Z h t kb .byte (0 : Int32) [] (.int (0 : Int32))
def QTx0 (Z : State) (a1 : Addr) (h0 : Heap) (n0 : Nat) (v : Option Value) (h : Heap) (L : List Loc) : Prop := v = none ∧ Fr n0 L ∧ Keep h0 h [a1] ∧ Tx0 Z h a1 
open Jvm.Free.SB Jvm.Free.SBG in
theorem own_safe {Z : State} {EL : List (String × Nat)} {vm : Vm} {h : Heap} {x : Addr} (hal : Z.vm.Alike vm) (E : Exa Z h x "java/lang/String") (F : Fld Z h x "java/lang/String" "value" "[B" .null) : Safe Z EL vm h x := fun B => by
  obtain ⟨p, -, u, a, -, q, -, G, rfl | rfl⟩ := B
  · obtain ⟨cell, cf, k, i, f, f1, f2, f3, f4, f5, f6, f7⟩ := F
    cases (show h[q.sa]? = some q.sC from G.ha).symm.trans f1
    obtain ⟨cS, ⟨⟨s1, s2, s3, ⟨cv, kv, iv, s4, s4'⟩, ⟨cc, kc, ic, s5, s5'⟩, s6, s7, s8, s9, -⟩, -⟩, -⟩ := G
    obtain ⟨kv', z4⟩ := ff_back (U := Wst Z vm h) hal s4
    cases f2.symm.trans z4
    cases f7.symm.trans s8
  · obtain ⟨cell, k, e1, e2, e3, -, -⟩ := E
    cases (show h[q.sd]? = some q.SA from G.hd).symm.trans e1
    obtain ⟨cS, -, -, f, -⟩ := G
    have f' : vm.findClass "[B" = some q.SA.cls := f
    rw [hal.findClass] at f'
    obtain ⟨k1, q1, q2⟩ := Vm.findClass_spec f'
    obtain ⟨k2, q3, q4⟩ := Vm.findClass_spec e2
    cases q1.symm.trans q3
    exact absurd (q2.symm.trans q4) (by decide)
theorem ef_rmK4 (m : MethodId) (x0 : Addr) (x1 : Addr) : entryFrame m #[(.ref x0), (.ref x1), (.int (0 : Int32)), (.int (0 : Int32)), .null] 6 = mkF m 0 #[rv x0, rv x1, iv (0 : Int32), iv (0 : Int32), .val .null, .unset] [] := by first | (simp [entryFrame, mkF, argsToLocals, Value.category]; done) | rfl
set_option maxRecDepth 65536 in
set_option maxHeartbeats 40000000 in
theorem rmK4 (l : Launch) (Z : State) (a0 : Array Value) (hw : TW Z a0) (ws : List Jvm.Cond) (a1 : Addr) (a2 : Addr) (kc1 : ClassId) (ccs : Int32) (h0 : Heap) (n0 : Nat) (Z0 : n0 ≤ h0.size) (E1 : Exa Z h0 a1 "java/lang/String") (F1 : Fld Z h0 a1 "java/lang/String" "value" "[B" .null) (F2 : Fld Z h0 a1 "java/lang/String" "coder" "B" (.int (0 : Int32))) (g1 : n0 ≤ a1) (ne1 : a1 ≠ a2) (V1 : Arv Z h0 a2 kc1 .char (0 : Int32) [] (.int (0 : Int32))) (hEW : EW Z a0 consts_1) (O0 : Old Z n0 h0) (S_CS : Sta Z Z.heap "java/lang/String" "COMPACT_STRINGS" "Z" (.int ccs)) (hcs : ¬ (ccs = (0 : Int32))) :
    MetFree l (⟨"java/lang/String", "<init>", "([CIILjava/lang/Void;)V"⟩ : MethodName) (head1 (Jvm.Cond.code (⟨"java/lang/String", "<init>", "([CIILjava/lang/Void;)V"⟩ : MethodName) jdk_42_method_149_code 6 none :: ws) (rmm 1 4 8 12)) (fun a U => a = #[(.ref a1), (.ref a2), (.int (0 : Int32)), (.int (0 : Int32)), .null] ∧ Z.Warmed39 U.vm ∧ U.heap = h0 ∧ CHv Z consts_1 U.vm h0) (fun _ _ _ _ _ => True) (fun _ U o U' => ∃ v L, o = .returned v ∧ QTx0 Z a1 h0 n0 v U'.heap L ∧ CHr Z consts_1 U.vm U.heap U'.vm U'.heap ∧ ReturnedEndW U o U' L (rmm 1 4 8 12).cells (rmm 1 4 8 12).slots) := by
  refine MetFree.of_bodySF (plainFor_of_name pn_java_lang_String) hisR ?_
  intro p e s m args below meth c s₁ Bd hml0 hP hK
  obtain ⟨rfl, hZ, hh, hCH⟩ := hP
  have hx := Bd.exec
  have hby := Bd.bytes
  have hlk : meth.locks = false := Bd.notSynchronized
  have hml : c.maxLocals = 6 := hml0
  have hown : s.vm.findClass "java/lang/String" = some m.cls := findClass_of_methodNamed Bd.named
  have hnm := (name_of_methodNamed Bd.named Bd.method).1
  have X0 : Stand p l e (rmm 1 4 8 12) (s.setVm s.vm) m #[(.ref a1), (.ref a2), (.int (0 : Int32)), (.int (0 : Int32)), .null] below meth c s₁ [] 0 0 := Stand.of_body Bd
  replace hZ : Z.Warmed39 (s.setVm s.vm).vm := hZ
  replace hown : (s.setVm s.vm).vm.findClass "java/lang/String" = some m.cls := hown
  have hS0 : s.Since s.vm 0 := (State.WarmedH.refl s).since 0
  have hk0 : 0 ≤ h0.size := Nat.zero_le _
  have R0 : CHr Z consts_1 s.vm h0 s.vm h0 := CHr.refl hCH
  have e0 : s₁.heap = h0 := by rw [← hh, Bd.state]; rfl
  have N0 := Fr.nil n0
  show Go p e below (FinH Z consts_1 s below (QTx0 Z a1 h0 n0) (rmm 1 4 8 12).cells (rmm 1 4 8 12).slots) (s₁.setTop (entryFrame m #[(.ref a1), (.ref a2), (.int (0 : Int32)), (.int (0 : Int32)), .null] 6))
  refine Go.via (fun t k => castTop (ef_rmK4 m a1 a2) k) ?_
  have sfa : Safe Z consts_1 s.vm h0 a1 := own_safe (hZ.alike) E1 F1
  refine Go.via (fun _ => XS.aloadN X0.here hx rfl (hb hby d12_0) rfl rfl) ?_
  obtain ⟨T101, X101, e101, st101⟩ := initO X0 hx hZ hown (ow hw 77 rfl) (ow hw 43 rfl) (ow hw 44 rfl) e0 (g := (mkF m 1 #[rv a1, rv a2, iv (0 : Int32), iv (0 : Int32), .val .null, .unset] [(.ref a1)])) rfl (by rw [hml]; rfl) rfl (hb hby d12_1) (by decide) (W := 0) (by show 2 * 0 + _ ≤ _; exact Nat.le_of_eq rfl) (by decide)
  refine Go.via st101 ?_
  refine Go.via (fun _ => XS.iloadN X101.here hx rfl (hb hby d12_4) rfl) ?_
  refine Go.via (fun _ => XS.ifNo X101.here hx rfl (hb hby d12_5) rfl (by decide)) ?_
  refine Go.via (fun _ => XS.aloadN X101.here hx rfl (hb hby d12_8) rfl rfl) ?_
  show Go p e below _ (T101.setTop (mkF m 9 #[rv a1, rv a2, iv (0 : Int32), iv (0 : Int32), .val .null, .unset] [(.ref a1)]))
  have wS102 : ∀ d ∈ Bundle.stringAtoms, d.before a0 Z = true := fun d hd => hw d (by simpa using (List.all_eq_true.mp (by decide +kernel : (Bundle.stringAtoms.all fun d => tables_1.contains d) = true)) d hd)
  obtain ⟨s102, T102, h102, kk102, sb102, kb102, X102, e102, E102, hS102, hk102, hZ102, hown102, ex102, fc102, fv102, va102, lta102, ltb102, cr102, -, sne102, st102⟩ := ldcCH X101 hx hZ hown (ow hw 98 rfl) wS102 e101 hS0 hk0 hEW (by simp [consts_1]) R0.1 (vs := []) (z := (0 : Int32)) (by decide +kernel) (by decide) (by decide) (g := (mkF m 9 #[rv a1, rv a2, iv (0 : Int32), iv (0 : Int32), .val .null, .unset] [(.ref a1)])) rfl (hb hby d12_9) (n := 0) (by decide +kernel) (by decide) (by decide) (by decide)
  refine Go.via st102 ?_
  have sf_a1_102 := cr102.safe E1.lt sfa
  have ne_a1_s102 := (sne102 a1 sf_a1_102).1
  have ne_a1_sb102 := (sne102 a1 sf_a1_102).2
  have Zs102 : n0 ≤ h102.size := Nat.le_trans Z0 E102.1
  have O102 : Old Z n0 h102 := O0.ext E102
  have K102 : Keep h0 h102 [a1] := (Keep.refl h0 [a1]).ext E102
  have fE_a1_102 := E1.ext E102
  have fF_a1_value_102 := F1.ext E102
  have fF_a1_coder_102 := F2.ext E102
  have fV_a2_102 := V1.ext E102
  have R102 : CHr Z consts_1 s.vm h0 T102.vm h102 := R0.trans cr102
  obtain ⟨T103, X103, e103, st103⟩ := getF X102 hx hZ102 hown102 (host := "") (Or.inl (ow hw 90 rfl)) Via.refl e102 fv102 (g := (mkF m 11 #[rv a1, rv a2, iv (0 : Int32), iv (0 : Int32), .val .null, .unset] [(.ref s102), (.ref a1)])) rfl rfl (hb hby d12_11)
  refine Go.via st103 ?_
  obtain ⟨T104, h104, X104, e104, W104, st104⟩ := putF X103 hx hZ102 hown102 (host := "") (Or.inl (ow hw 90 rfl)) Via.refl e103 fF_a1_value_102 fE_a1_102 (Or.inr ⟨(ow hw 15 rfl), rfl, hnm⟩) (ow hw 13 rfl) (ty := (.array .byte)) (by decide) rfl rfl (g := (mkF m 14 #[rv a1, rv a2, iv (0 : Int32), iv (0 : Int32), .val .null, .unset] [(.ref sb102), (.ref a1)])) rfl rfl (hb hby d12_14)
  refine Go.via st104 ?_
  have fF_a1_value_104 : Fld Z h104 a1 "java/lang/String" "value" "[B" (.ref sb102) := fF_a1_value_102.same W104
  have Zs104 : n0 ≤ h104.size := Nat.le_trans Zs102 (Keep.of_wr W104).1
  have hk104 : kk102 ≤ h104.size := Nat.le_trans hk102 (Keep.of_wr W104).1
  have sf_a1_104 := Safe.wr W104 sf_a1_102 R102.1 sf_a1_102
  have R104 : CHr Z consts_1 s.vm h0 T102.vm h104 := R102.trans (CHr.wr W104 sf_a1_102 R102.1)
  have O104 : Old Z n0 h104 := O102.wr W104 g1
  have K104 : Keep h0 h104 [a1] := K102.wr W104 (Or.inl (List.mem_of_getElem? (i := 0) rfl))
  have N104 := Fr.snoc X104 N0 g1
  have fE_a1_104 := fE_a1_102.wr W104
  have fF_a1_coder_104 := fF_a1_coder_102.other W104 (Or.inr (slot_ne (Or.inr (ow hw 16 rfl)) (Or.inr (ow hw 15 rfl)) (by decide) (t := .byte) (t' := (.array .byte)) (by decide) (by decide)))
  have fV_a2_104 := fV_a2_102.other W104 (Ne.symm ne1)
  have fE_s102_104 := ex102.wr W104
  have fF_s102_coder_104 := fc102.other W104 (Or.inl (Ne.symm ne_a1_s102))
  have fF_s102_value_104 := fv102.other W104 (Or.inl (Ne.symm ne_a1_s102))
  have fV_sb102_104 := va102.other W104 (Ne.symm ne_a1_sb102)
  refine Go.via (fun _ => XS.aloadN X104.here hx rfl (hb hby d12_17) rfl rfl) ?_
  have wS105 : ∀ d ∈ Bundle.stringAtoms, d.before a0 Z = true := fun d hd => hw d (by simpa using (List.all_eq_true.mp (by decide +kernel : (Bundle.stringAtoms.all fun d => tables_1.contains d) = true)) d hd)
  obtain ⟨s105, T105, h105, kk105, sb105, kb105, X105, e105, E105, hS105, hk105, hZ105, hown105, ex105, fc105, fv105, va105, lta105, ltb105, cr105, -, sne105, st105⟩ := ldcCH X104 hx hZ102 hown102 (ow hw 98 rfl) wS105 e104 hS102 hk104 hEW (by simp [consts_1]) R104.1 (vs := []) (z := (0 : Int32)) (by decide +kernel) (by decide) (by decide) (g := (mkF m 18 #[rv a1, rv a2, iv (0 : Int32), iv (0 : Int32), .val .null, .unset] [(.ref a1)])) rfl (hb hby d12_18) (n := 0) (by decide +kernel) (by decide) (by decide) (by decide)
  refine Go.via st105 ?_
  have sf_a1_105 := cr105.safe fE_a1_104.lt sf_a1_104
  have ne_a1_s105 := (sne105 a1 sf_a1_105).1
  have ne_a1_sb105 := (sne105 a1 sf_a1_105).2
  have Zs105 : n0 ≤ h105.size := Nat.le_trans Zs104 E105.1
  have O105 : Old Z n0 h105 := O104.ext E105
  have K105 : Keep h0 h105 [a1] := K104.ext E105
  have fE_a1_105 := fE_a1_104.ext E105
  have fF_a1_value_105 := fF_a1_value_104.ext E105
  have fF_a1_coder_105 := fF_a1_coder_104.ext E105
  have fV_a2_105 := fV_a2_104.ext E105
  have fE_s102_105 := fE_s102_104.ext E105
  have fF_s102_coder_105 := fF_s102_coder_104.ext E105
  have fF_s102_value_105 := fF_s102_value_104.ext E105
  have fV_sb102_105 := fV_sb102_104.ext E105
  have R105 : CHr Z consts_1 s.vm h0 T105.vm h105 := R104.trans cr105
  obtain ⟨T106, X106, e106, st106⟩ := getF X105 hx hZ105 hown105 (host := "") (Or.inl (ow hw 89 rfl)) Via.refl e105 fc105 (g := (mkF m 20 #[rv a1, rv a2, iv (0 : Int32), iv (0 : Int32), .val .null, .unset] [(.ref s105), (.ref a1)])) rfl rfl (hb hby d12_20)
  refine Go.via st106 ?_
  show Go p e below _ (T106.setTop (mkF m 23 #[rv a1, rv a2, iv (0 : Int32), iv (0 : Int32), .val .null, .unset] [(.int (0 : Int32)), (.ref a1)]))
  obtain ⟨T107, h107, X107, e107, W107, st107⟩ := putFN X106 hx hZ105 hown105 (ow hw 89 rfl) Via.refl e106 fF_a1_coder_105 fE_a1_105 (Or.inr ⟨(ow hw 16 rfl), rfl, hnm⟩) (ow hw 13 rfl) (ty := .byte) (v' := .int (nar .byte (0 : Int32))) (by decide) rfl (fits_nar_byte _) (g := (mkF m 23 #[rv a1, rv a2, iv (0 : Int32), iv (0 : Int32), .val .null, .unset] [(.int (0 : Int32)), (.ref a1)])) rfl rfl (hb hby d12_23)
  refine Go.via st107 ?_
  have fF_a1_coder_107 : Fld Z h107 a1 "java/lang/String" "coder" "B" (.int (0 : Int32)) := fF_a1_coder_105.same W107
  have Zs107 : n0 ≤ h107.size := Nat.le_trans Zs105 (Keep.of_wr W107).1
  have hk107 : kk105 ≤ h107.size := Nat.le_trans hk105 (Keep.of_wr W107).1
  have sf_a1_107 := Safe.wr W107 sf_a1_105 R105.1 sf_a1_105
  have R107 : CHr Z consts_1 s.vm h0 T105.vm h107 := R105.trans (CHr.wr W107 sf_a1_105 R105.1)
  have O107 : Old Z n0 h107 := O105.wr W107 g1
  have K107 : Keep h0 h107 [a1] := K105.wr W107 (Or.inl (List.mem_of_getElem? (i := 0) rfl))
  have N107 := Fr.snoc X107 N104 g1
  have fE_a1_107 := fE_a1_105.wr W107
  have fF_a1_value_107 := fF_a1_value_105.other W107 (Or.inr (slot_ne (Or.inr (ow hw 15 rfl)) (Or.inr (ow hw 16 rfl)) (by decide) (t := (.array .byte)) (t' := .byte) (by decide) (by decide)))
  have fV_a2_107 := fV_a2_105.other W107 (Ne.symm ne1)
  have fE_s102_107 := fE_s102_105.wr W107
  have fF_s102_coder_107 := fF_s102_coder_105.other W107 (Or.inl (Ne.symm ne_a1_s102))
  have fF_s102_value_107 := fF_s102_value_105.other W107 (Or.inl (Ne.symm ne_a1_s102))
  have fV_sb102_107 := fV_sb102_105.other W107 (Ne.symm ne_a1_sb102)
  have fE_s105_107 := ex105.wr W107
  have fF_s105_coder_107 := fc105.other W107 (Or.inl (Ne.symm ne_a1_s105))
  have fF_s105_value_107 := fv105.other W107 (Or.inl (Ne.symm ne_a1_s105))
  have fV_sb105_107 := va105.other W107 (Ne.symm ne_a1_sb105)
  have hR : CHr Z consts_1 s.vm s.heap T107.vm T107.heap := by rw [hh, e107]; exact R107.trans (CHv.at X107 hZ105 hEW R107.1)
  exact own_retVH X107 hS105 (by rw [e107]; exact hk107) hR hx hlk Bd.returns (hb hby d12_26) (by show QTx0 Z a1 h0 n0 _ T107.heap _; rw [e107]; exact ⟨rfl, N107, K107, sb102, kb102, fF_a1_value_107, fF_a1_coder_107, fV_sb102_107⟩) (by decide) (by decide)
theorem ef_rmK1 (m : MethodId) (x0 : Addr) (x1 : Addr) : entryFrame m #[(.ref x0), (.ref x1)] 2 = mkF m 0 #[rv x0, rv x1] [] := by first | (simp [entryFrame, mkF, argsToLocals, Value.category]; done) | rfl
set_option maxRecDepth 65536 in
set_option maxHeartbeats 40000000 in
theorem rmK1 (l : Launch) (Z : State) (a0 : Array Value) (hw : TW Z a0) (ws : List Jvm.Cond) (a1 : Addr) (a2 : Addr) (kc1 : ClassId) (ccs : Int32) (h0 : Heap) (n0 : Nat) (Z0 : n0 ≤ h0.size) (E1 : Exa Z h0 a1 "java/lang/String") (F1 : Fld Z h0 a1 "java/lang/String" "value" "[B" .null) (F2 : Fld Z h0 a1 "java/lang/String" "coder" "B" (.int (0 : Int32))) (g1 : n0 ≤ a1) (ne1 : a1 ≠ a2) (V1 : Arv Z h0 a2 kc1 .char (0 : Int32) [] (.int (0 : Int32))) (hEW : EW Z a0 consts_1) (O0 : Old Z n0 h0) (S_CS : Sta Z Z.heap "java/lang/String" "COMPACT_STRINGS" "Z" (.int ccs)) (hcs : ¬ (ccs = (0 : Int32))) :
    MetFree l (⟨"java/lang/String", "<init>", "([C)V"⟩ : MethodName) (head1 (Jvm.Cond.code (⟨"java/lang/String", "<init>", "([C)V"⟩ : MethodName) jdk_42_method_3_code 2 none :: ws) (rmm 2 4 8 29)) (fun a U => a = #[(.ref a1), (.ref a2)] ∧ Z.Warmed39 U.vm ∧ U.heap = h0 ∧ CHv Z consts_1 U.vm h0) (fun _ _ _ _ _ => True) (fun _ U o U' => ∃ v L, o = .returned v ∧ QTx0 Z a1 h0 n0 v U'.heap L ∧ CHr Z consts_1 U.vm U.heap U'.vm U'.heap ∧ ReturnedEndW U o U' L (rmm 2 4 8 29).cells (rmm 2 4 8 29).slots) := by
  refine MetFree.of_bodySF (plainFor_of_name pn_java_lang_String) hisR ?_
  intro p e s m args below meth c s₁ Bd hml0 hP hK
  obtain ⟨rfl, hZ, hh, hCH⟩ := hP
  have hx := Bd.exec
  have hby := Bd.bytes
  have hlk : meth.locks = false := Bd.notSynchronized
  have hml : c.maxLocals = 2 := hml0
  have hown : s.vm.findClass "java/lang/String" = some m.cls := findClass_of_methodNamed Bd.named
  have hnm := (name_of_methodNamed Bd.named Bd.method).1
  have X0 : Stand p l e (rmm 2 4 8 29) (s.setVm s.vm) m #[(.ref a1), (.ref a2)] below meth c s₁ [] 0 0 := Stand.of_body Bd
  replace hZ : Z.Warmed39 (s.setVm s.vm).vm := hZ
  replace hown : (s.setVm s.vm).vm.findClass "java/lang/String" = some m.cls := hown
  have hS0 : s.Since s.vm 0 := (State.WarmedH.refl s).since 0
  have hk0 : 0 ≤ h0.size := Nat.zero_le _
  have R0 : CHr Z consts_1 s.vm h0 s.vm h0 := CHr.refl hCH
  have e0 : s₁.heap = h0 := by rw [← hh, Bd.state]; rfl
  have N0 := Fr.nil n0
  show Go p e below (FinH Z consts_1 s below (QTx0 Z a1 h0 n0) (rmm 2 4 8 29).cells (rmm 2 4 8 29).slots) (s₁.setTop (entryFrame m #[(.ref a1), (.ref a2)] 2))
  refine Go.via (fun t k => castTop (ef_rmK1 m a1 a2) k) ?_
  have sfa : Safe Z consts_1 s.vm h0 a1 := own_safe (hZ.alike) E1 F1
  refine Go.via (fun _ => XS.aloadN X0.here hx rfl (hb hby d11_0) rfl rfl) ?_
  refine Go.via (fun _ => XS.aloadN X0.here hx rfl (hb hby d11_1) rfl rfl) ?_
  refine Go.via (fun _ => XS.iconst X0.here hx rfl (hb hby d11_2)) ?_
  refine Go.via (fun _ => XS.aloadN X0.here hx rfl (hb hby d11_3) rfl rfl) ?_
  obtain ⟨cl101, Ar101, -, S101, N101n, -, -⟩ := id V1
  have al101 := X0.arraylength hx (by rw [e0]; exact Ar101.1) (State.isArrayOf_alike hZ.alike Ar101.2.1) (g := (mkF m 4 #[rv a1, rv a2] [(.ref a2), (.int (0 : Int32)), (.ref a2), (.ref a1)])) rfl rfl (hb hby d11_4)
  rw [len_of S101 N101n] at al101
  refine Go.via al101 ?_
  show Go p e below _ (s₁.setTop (mkF m 5 #[rv a1, rv a2] [(.int (0 : Int32)), (.int (0 : Int32)), (.ref a2), (.ref a1)]))
  refine Go.via (fun _ => XS.aconstNull X0.here hx rfl (hb hby d11_5)) ?_
  obtain ⟨_, _, ⟨T102, L102, k102, n102⟩, -, X102, S102w, gr102, ⟨Lc102, hQ102, l102, y102, z102, cr102⟩, st102⟩ := X0.specialBackS hx (y := (⟨"java/lang/String", "<init>", "([CIILjava/lang/Void;)V"⟩ : MethodName)) rfl hown (mvT hZ (ow hw 73 rfl)) (mvT hZ (ow hw 74 rfl)) (mvT hZ (ow hw 76 rfl)) (by decide) (backOfSH (W := 0) (rmK4 l Z a0 hw [] a1 a2 kc1 ccs h0 n0 Z0 E1 F1 F2 g1 ne1 V1 hEW O0 S_CS hcs) hZ (ow hw 76 rfl) (ow hw 12 rfl) (by decide) (by decide) hEW R0.1) (g := (mkF m 6 #[rv a1, rv a2] [.null, (.int (0 : Int32)), (.int (0 : Int32)), (.ref a2), (.ref a1)])) rfl (by rw [hml]; rfl) (Steps.refl _) (a := a1) (argsL := [(.ref a2), (.int (0 : Int32)), (.int (0 : Int32)), .null]) (rest := []) (lenOf pd_5 rfl) rfl (by show 2 * 0 + _ ≤ _; exact Nat.le_of_eq rfl) (hb hby d11_6) (fun _ _ => ⟨rfl, e0, (by decide : 0 + 4 ≤ _), (by decide : 0 + 8 ≤ _)⟩)
  dsimp only [Pt.U, Pt.locs, Pt.cells, Pt.slots] at X102 l102 y102 z102 st102 hQ102 S102w gr102 cr102
  rw [l102, y102, z102] at X102
  replace X102 : Stand p l e _ _ m _ below meth c T102 _ 4 8 := X102
  obtain ⟨rfl, N102q, K102q, tx102⟩ := hQ102
  have N102 := Fr.app N0 N102q
  refine Go.tr st102 ?_
  obtain ⟨X102r, hS102, hZ102, hown102⟩ := rebS hS0 (by rw [e0]; exact hk0) X102 S102w gr102 hZ hown
  have sf_a1_102 := cr102.safe E1.lt sfa
  have R102 : CHr Z consts_1 s.vm h0 T102.vm T102.heap := R0.trans cr102
  have Zs102 : n0 ≤ T102.heap.size := Nat.le_trans Z0 K102q.1
  have O102 : Old Z n0 T102.heap := O0.keep K102q (allS g1 all0)
  have K102 : Keep h0 T102.heap [a1] := (Keep.refl h0 [a1]).trans K102q (allS (Or.inl (List.mem_of_getElem? (i := 0) rfl)) all0)
  have fE_a1_102 := E1.keep K102q
  have fV_a2_102 := V1.keep K102q (ninS (Ne.symm ne1) nin0)
  have hR : CHr Z consts_1 s.vm s.heap T102.vm T102.heap := by rw [hh]; exact R102.trans (CHv.at X102r hZ102 hEW R102.1)
  exact own_retVH X102r hS102 (Nat.le_refl _) hR hx hlk Bd.returns (hb hby d11_9) (by show QTx0 Z a1 h0 n0 _ T102.heap _; exact ⟨rfl, N102, K102q, tx102⟩) (by decide) (by decide)
theorem ef_rmC2_1 (m : MethodId) (x0 : Addr) (x2 : Addr) : entryFrame m #[(.ref x0), (.int (0 : Int32)), (.ref x2), (.int (0 : Int32)), (.int (1 : Int32))] 7 = mkF m 0 #[rv x0, iv (0 : Int32), rv x2, iv (0 : Int32), iv (1 : Int32), .unset, .unset] [] := by first | (simp [entryFrame, mkF, argsToLocals, Value.category]; done) | rfl
def QC2_1 (Z : State) (a1 : Addr) (kc1 : ClassId) (b1 : Addr) (kc2 : ClassId) (c0 : Int32) (h0 : Heap) (n0 : Nat) (v : Option Value) (h : Heap) (L : List Loc) : Prop := v = some (.int (1 : Int32)) ∧ Fr n0 L ∧ Keep h0 h [b1] ∧ Arv Z h b1 kc2 .byte (1 : Int32) [(.int (nar .byte (c0.toInt8.toInt32)))] (.int (0 : Int32))
set_option maxRecDepth 65536 in
set_option maxHeartbeats 40000000 in
theorem rmC2_1 (l : Launch) (Z : State) (a0 : Array Value) (hw : TW Z a0) (ws : List Jvm.Cond) (a1 : Addr) (kc1 : ClassId) (b1 : Addr) (kc2 : ClassId) (c0 : Int32) (h0 : Heap) (n0 : Nat) (Z0 : n0 ≤ h0.size) (V1 : Arv Z h0 a1 kc1 .char (1 : Int32) [(.int c0)] (.int (0 : Int32))) (V2 : Arv Z h0 b1 kc2 .byte (1 : Int32) [(.int (0 : Int32))] (.int (0 : Int32))) (g1 : n0 ≤ b1) (ne1 : a1 ≠ b1) (hl0 : ¬ ((255 : Int32) < c0)) :
    MF l Z (⟨"java/lang/StringUTF16", "compress", "([CI[BII)I"⟩ : MethodName) jdk_52_method_21_code 7 (some .int) ws (rmm 0 0 0 0) #[(.ref a1), (.int (0 : Int32)), (.ref b1), (.int (0 : Int32)), (.int (1 : Int32))] h0 (QC2_1 Z a1 kc1 b1 kc2 c0 h0 n0) := by
  refine MetFree.of_bodySF (plainFor_of_name pn_java_lang_StringUTF16) hisR ?_
  intro p e s m args below meth c s₁ Bd hml0 hP hK
  obtain ⟨rfl, hZ, hh⟩ := hP
  have hx := Bd.exec
  have hby := Bd.bytes
  have hlk : meth.locks = false := Bd.notSynchronized
  have hml : c.maxLocals = 7 := hml0
  have hown : s.vm.findClass "java/lang/StringUTF16" = some m.cls := findClass_of_methodNamed Bd.named
  have hnm := (name_of_methodNamed Bd.named Bd.method).1
  have X0 : Stand p l e (rmm 0 0 0 0) s m #[(.ref a1), (.int (0 : Int32)), (.ref b1), (.int (0 : Int32)), (.int (1 : Int32))] below meth c s₁ [] 0 0 := Stand.of_body Bd
  have e0 : s₁.heap = h0 := by rw [← hh, Bd.state]; rfl
  have N0 := Fr.nil n0
  show Go p e below (FinE s below (QC2_1 Z a1 kc1 b1 kc2 c0 h0 n0) (rmm 0 0 0 0).cells (rmm 0 0 0 0).slots) (s₁.setTop (entryFrame m #[(.ref a1), (.int (0 : Int32)), (.ref b1), (.int (0 : Int32)), (.int (1 : Int32))] 7))
  refine Go.via (fun t k => castTop (ef_rmC2_1 m a1 b1) k) ?_
  refine Go.via (fun _ => XS.iconst X0.here hx rfl (hb hby d14_0)) ?_
  refine Go.via (fun _ => XS.istore X0.here hx rfl (hb hby d14_1) rfl (l' := #[rv a1, iv (0 : Int32), rv b1, iv (0 : Int32), iv (1 : Int32), iv (0 : Int32), .unset]) rfl) ?_
  refine Go.via (fun _ => XS.iload X0.here hx rfl (hb hby d14_3) rfl) ?_
  refine Go.via (fun _ => XS.iload X0.here hx rfl (hb hby d14_5) rfl) ?_
  refine Go.via (fun _ => XS.icmpNo X0.here hx rfl (hb hby d14_7) rfl (by decide)) ?_
  show Go p e below _ (s₁.setTop (mkF m 10 #[rv a1, iv (0 : Int32), rv b1, iv (0 : Int32), iv (1 : Int32), iv (0 : Int32), .unset] []))
  refine Go.via (fun _ => XS.aloadN X0.here hx rfl (hb hby d14_10) rfl rfl) ?_
  refine Go.via (fun _ => XS.iloadN X0.here hx rfl (hb hby d14_11) rfl) ?_
  obtain ⟨cl101, Ar101, q101, S101, N101n, H101, G101⟩ := id V1
  have hin101 := inb_of (j := (0 : Int32)) S101 (by decide)
  have hat101 : cl101.slots[((0 : Int32) : Int32).toNatClampNeg]? = some (.int c0) := H101.at hin101 rfl
  refine Go.via (X0.caload hx (j := (0 : Int32)) (v := (.int c0)) (by rw [e0]; exact Ar101.1) (State.isArrayOf_alike hZ.alike Ar101.2.1) Ar101.2.2 hin101 hat101 (g := (mkF m 12 #[rv a1, iv (0 : Int32), rv b1, iv (0 : Int32), iv (1 : Int32), iv (0 : Int32), .unset] [(.int (0 : Int32)), (.ref a1)])) rfl rfl (hb hby d14_12)) ?_
  refine Go.via (fun _ => XS.istore X0.here hx rfl (hb hby d14_13) rfl (l' := #[rv a1, iv (0 : Int32), rv b1, iv (0 : Int32), iv (1 : Int32), iv (0 : Int32), iv c0]) rfl) ?_
  refine Go.via (fun _ => XS.iload X0.here hx rfl (hb hby d14_15) rfl) ?_
  refine Go.via (fun _ => XS.sipush X0.here hx rfl (hb hby d14_17)) ?_
  show Go p e below _ (s₁.setTop (mkF m 20 #[rv a1, iv (0 : Int32), rv b1, iv (0 : Int32), iv (1 : Int32), iv (0 : Int32), iv c0] [(.int (255 : Int32)), (.int c0)]))
  refine Go.via (fun _ => XS.icmpYes X0.here hx rfl (pc0 := 20) (pc' := 26) rfl (hb hby d14_20) rfl (flt hl0).2.2.2 (by decide) (by decide)) ?_
  refine Go.via (fun _ => XS.aloadN X0.here hx rfl (hb hby d14_26) rfl rfl) ?_
  refine Go.via (fun _ => XS.iloadN X0.here hx rfl (hb hby d14_27) rfl) ?_
  refine Go.via (fun _ => XS.iload X0.here hx rfl (hb hby d14_28) rfl) ?_
  refine Go.via (fun _ => XS.i2b X0.here hx rfl (hb hby d14_30) rfl) ?_
  obtain ⟨cl102, Ar102, q102, S102, N102n, H102, G102⟩ := id V2
  have hin102 := inb_of (j := (0 : Int32)) S102 (by decide)
  obtain ⟨T102, h102, X102, e102, W102, st102⟩ := stB X0 hx hZ e0 Ar102 (j := (0 : Int32)) hin102 (g := (mkF m 31 #[rv a1, iv (0 : Int32), rv b1, iv (0 : Int32), iv (1 : Int32), iv (0 : Int32), iv c0] [(.int (c0.toInt8.toInt32)), (.int (0 : Int32)), (.ref b1)])) rfl rfl (hb hby d14_31)
  refine Go.via st102 ?_
  have V102 : Arv Z h102 b1 kc2 .byte (1 : Int32) [(.int (nar .byte (c0.toInt8.toInt32)))] (.int (0 : Int32)) := Arv.set Ar102 q102 S102 N102n H102 G102 (fits_nar_byte _) W102 0 rfl (Nat.le_of_ble_eq_true rfl)
  have Zs102 : n0 ≤ h102.size := Nat.le_trans Z0 (Keep.of_wr W102).1
  have K102 : Keep h0 h102 [b1] := (Keep.refl h0 [b1]).wr W102 (Or.inl (List.mem_of_getElem? (i := 0) rfl))
  have N102 := Fr.snoc X102 N0 g1
  have fV_a1_102 := V1.other W102 ne1
  show Go p e below _ (T102.setTop (mkF m 32 #[rv a1, iv (0 : Int32), rv b1, iv (0 : Int32), iv (1 : Int32), iv (0 : Int32), iv c0] []))
  refine Go.via (fun _ => XS.iinc X102.here hx rfl (hb hby d14_32) rfl (l' := #[rv a1, iv (1 : Int32), rv b1, iv (0 : Int32), iv (1 : Int32), iv (0 : Int32), iv c0]) rfl) ?_
  refine Go.via (fun _ => XS.iinc X102.here hx rfl (hb hby d14_35) rfl (l' := #[rv a1, iv (1 : Int32), rv b1, iv (1 : Int32), iv (1 : Int32), iv (0 : Int32), iv c0]) rfl) ?_
  refine Go.via (fun _ => XS.iinc X102.here hx rfl (hb hby d14_38) rfl (l' := #[rv a1, iv (1 : Int32), rv b1, iv (1 : Int32), iv (1 : Int32), iv (1 : Int32), iv c0]) rfl) ?_
  refine Go.via (fun _ => XS.goto X102.here hx rfl (pc0 := 41) (pc' := 3) rfl (hb hby d14_41) (by decide) (by decide)) ?_
  refine Go.via (fun _ => XS.iload X102.here hx rfl (hb hby d14_3) rfl) ?_
  refine Go.via (fun _ => XS.iload X102.here hx rfl (hb hby d14_5) rfl) ?_
  show Go p e below _ (T102.setTop (mkF m 7 #[rv a1, iv (1 : Int32), rv b1, iv (1 : Int32), iv (1 : Int32), iv (1 : Int32), iv c0] [(.int (1 : Int32)), (.int (1 : Int32))]))
  refine Go.via (fun _ => XS.icmpYes X102.here hx rfl (pc0 := 7) (pc' := 44) rfl (hb hby d14_7) rfl (by decide) (by decide) (by decide)) ?_
  refine Go.via (fun _ => XS.iload X102.here hx rfl (hb hby d14_44) rfl) ?_
  exact own_retI X102 hx hlk Bd.returns (hb hby d14_46) (by show QC2_1 Z a1 kc1 b1 kc2 c0 h0 n0 _ T102.heap _; rw [e102]; exact ⟨rfl, N102, K102, V102⟩) (by decide) (by decide)
theorem ef_rmC1_1 (m : MethodId) (x0 : Addr) : entryFrame m #[(.ref x0), (.int (0 : Int32)), (.int (1 : Int32))] 6 = mkF m 0 #[rv x0, iv (0 : Int32), iv (1 : Int32), .unset, .unset, .unset] [] := by first | (simp [entryFrame, mkF, argsToLocals, Value.category]; done) | rfl
def QC1_1 (Z : State) (a1 : Addr) (kc1 : ClassId) (c0 : Int32) (h0 : Heap) (n0 : Nat) (v : Option Value) (h : Heap) (L : List Loc) : Prop := ∃ (t : Addr) (kb : ClassId), v = some (.ref t) ∧ Fr n0 L ∧ Keep h0 h [] ∧ h0.size ≤ t ∧ Arv Z h t kb .byte (1 : Int32) [(.int (nar .byte (c0.toInt8.toInt32)))] (.int (0 : Int32))
set_option maxRecDepth 65536 in
set_option maxHeartbeats 40000000 in
theorem rmC1_1 (l : Launch) (Z : State) (a0 : Array Value) (hw : TW Z a0) (ws : List Jvm.Cond) (a1 : Addr) (kc1 : ClassId) (c0 : Int32) (h0 : Heap) (n0 : Nat) (Z0 : n0 ≤ h0.size) (V1 : Arv Z h0 a1 kc1 .char (1 : Int32) [(.int c0)] (.int (0 : Int32))) (hl0 : ¬ ((255 : Int32) < c0)) :
    MF l Z (⟨"java/lang/StringUTF16", "compress", "([CII)[B"⟩ : MethodName) jdk_52_method_16_code 6 (some (.array .byte)) ws (rmm 1 1 1 18) #[(.ref a1), (.int (0 : Int32)), (.int (1 : Int32))] h0 (QC1_1 Z a1 kc1 c0 h0 n0) := by
  refine MetFree.of_bodySF (plainFor_of_name pn_java_lang_StringUTF16) hisR ?_
  intro p e s m args below meth c s₁ Bd hml0 hP hK
  obtain ⟨rfl, hZ, hh⟩ := hP
  have hx := Bd.exec
  have hby := Bd.bytes
  have hlk : meth.locks = false := Bd.notSynchronized
  have hml : c.maxLocals = 6 := hml0
  have hown : s.vm.findClass "java/lang/StringUTF16" = some m.cls := findClass_of_methodNamed Bd.named
  have hnm := (name_of_methodNamed Bd.named Bd.method).1
  have X0 : Stand p l e (rmm 1 1 1 18) s m #[(.ref a1), (.int (0 : Int32)), (.int (1 : Int32))] below meth c s₁ [] 0 0 := Stand.of_body Bd
  have e0 : s₁.heap = h0 := by rw [← hh, Bd.state]; rfl
  have N0 := Fr.nil n0
  show Go p e below (FinE s below (QC1_1 Z a1 kc1 c0 h0 n0) (rmm 1 1 1 18).cells (rmm 1 1 1 18).slots) (s₁.setTop (entryFrame m #[(.ref a1), (.int (0 : Int32)), (.int (1 : Int32))] 6))
  refine Go.via (fun t k => castTop (ef_rmC1_1 m a1) k) ?_
  refine Go.via (fun _ => XS.iloadN X0.here hx rfl (hb hby d13_0) rfl) ?_
  obtain ⟨T101, h101, k101, X101, e101, E101, A101, st101⟩ := newP X0 hx hZ (ow hw 14 rfl) e0 (g := (mkF m 1 #[rv a1, iv (0 : Int32), iv (1 : Int32), .unset, .unset, .unset] [(.int (1 : Int32))])) rfl (hb hby d13_1) rfl (by decide) (cap := 1) (by decide) (by decide) (by decide) (by decide)
  obtain ⟨b101, g101⟩ : ∃ z, z = h0.size := ⟨_, rfl⟩
  rw [← g101] at A101 st101
  have g_b101 : n0 ≤ b101 := Nat.le_trans Z0 (Nat.le_of_eq g101.symm)
  have ne_a1_b101 : a1 ≠ b101 := Nat.ne_of_lt (Nat.lt_of_lt_of_le V1.lt (Nat.le_of_eq g101.symm))
  have sz_b101 : h0.size ≤ b101 := Nat.le_trans (Keep.refl h0 []).1 (Nat.le_of_eq g101.symm)
  refine Go.via st101 ?_
  have Zs101 : n0 ≤ h101.size := Nat.le_trans Z0 E101.1
  have K101 : Keep h0 h101 [] := (Keep.refl h0 []).ext E101
  have fV_a1_101 := V1.ext E101
  have V_b101 : Arv Z h101 b101 k101 .byte (1 : Int32) [(.int (0 : Int32))] (.int (0 : Int32)) := (Arv.new A101 (by decide)).pad (pad_rep [] (.int (0 : Int32)) 1)
  refine Go.via (fun _ => XS.astoreN X101.here hx rfl (hb hby d13_3) rfl rfl (l' := #[rv a1, iv (0 : Int32), iv (1 : Int32), rv b101, .unset, .unset]) rfl) ?_
  refine Go.via (fun _ => XS.aloadN X101.here hx rfl (hb hby d13_4) rfl rfl) ?_
  refine Go.via (fun _ => XS.iloadN X101.here hx rfl (hb hby d13_5) rfl) ?_
  show Go p e below _ (T101.setTop (mkF m 6 #[rv a1, iv (0 : Int32), iv (1 : Int32), rv b101, .unset, .unset] [(.int (0 : Int32)), (.ref a1)]))
  refine Go.via (fun _ => XS.aloadN X101.here hx rfl (hb hby d13_6) rfl rfl) ?_
  refine Go.via (fun _ => XS.iconst X101.here hx rfl (hb hby d13_7)) ?_
  refine Go.via (fun _ => XS.iloadN X101.here hx rfl (hb hby d13_8) rfl) ?_
  obtain ⟨_, _, ⟨T102, L102, k102, n102⟩, -, X102, ⟨Lc102, hQ102, l102, y102, z102⟩, st102⟩ := Jvm.LawKit.callS X101 hx (y := (⟨"java/lang/StringUTF16", "compress", "([CI[BII)I"⟩ : MethodName)) hown (mvT hZ (ow hw 83 rfl)) (mvT hZ (ow hw 84 rfl)) (mvT hZ (ow hw 81 rfl)) (mvT hZ (ow hw 85 rfl)) (by decide) (backOf (W := 0) (rmC2_1 l Z a0 hw [] a1 kc1 b101 k101 c0 h101 n0 Zs101 fV_a1_101 V_b101 g_b101 ne_a1_b101 hl0) hZ (ow hw 85 rfl) (ow hw 81 rfl) (by decide) (by decide)) (g := (mkF m 9 #[rv a1, iv (0 : Int32), iv (1 : Int32), rv b101, .unset, .unset] [(.int (1 : Int32)), (.int (0 : Int32)), (.ref b101), (.int (0 : Int32)), (.ref a1)])) rfl (by rw [hml]; rfl) (argsL := [(.ref a1), (.int (0 : Int32)), (.ref b101), (.int (0 : Int32)), (.int (1 : Int32))]) (rest := []) (lenOf pd_6 rfl) rfl (by show 2 * 0 + _ ≤ _; exact Nat.le_of_eq rfl) (hb hby d13_9) (fun _ _ => ⟨rfl, e101, (by decide : 1 + 0 ≤ _), (by decide : 1 + 0 ≤ _)⟩)
  dsimp only [Pt.U, Pt.locs, Pt.cells, Pt.slots] at X102 l102 y102 z102 st102 hQ102
  rw [l102, y102, z102] at X102
  replace X102 : Stand p l e _ _ m _ below meth c T102 _ 1 1 := X102
  obtain ⟨rfl, N102q, K102q, va102⟩ := hQ102
  have N102 := Fr.app N0 N102q
  refine Go.via st102 ?_
  have Zs102 : n0 ≤ T102.heap.size := Nat.le_trans Zs101 K102q.1
  have K102 : Keep h0 T102.heap [] := K101.trans K102q (allS (Or.inr sz_b101) all0)
  have fV_a1_102 := fV_a1_101.keep K102q (ninS ne_a1_b101 nin0)
  refine Go.via (fun _ => XS.istore X102.here hx rfl (hb hby d13_12) rfl (l' := #[rv a1, iv (0 : Int32), iv (1 : Int32), rv b101, iv (1 : Int32), .unset]) rfl) ?_
  refine Go.via (fun _ => XS.iload X102.here hx rfl (hb hby d13_14) rfl) ?_
  show Go p e below _ (T102.setTop (mkF m 16 #[rv a1, iv (0 : Int32), iv (1 : Int32), rv b101, iv (1 : Int32), .unset] [(.int (1 : Int32))]))
  refine Go.via (fun _ => XS.iloadN X102.here hx rfl (hb hby d13_16) rfl) ?_
  refine Go.via (fun _ => XS.icmpYes X102.here hx rfl (pc0 := 17) (pc' := 57) rfl (hb hby d13_17) rfl (by decide) (by decide) (by decide)) ?_
  refine Go.via (fun _ => XS.aloadN X102.here hx rfl (hb hby d13_57) rfl rfl) ?_
  exact own_retA X102 hx hlk Bd.returns rfl rfl (hb hby d13_58) (by show QC1_1 Z a1 kc1 c0 h0 n0 _ T102.heap _; exact ⟨b101, k101, rfl, N102, K102, sz_b101, va102⟩) (by decide) (by decide)
theorem ef_rmCL_1_1 (m : MethodId) (x0 : Addr) : entryFrame m #[(.ref x0), (.int (1 : Int32))] 2 = mkF m 0 #[rv x0, iv (1 : Int32)] [] := by first | (simp [entryFrame, mkF, argsToLocals, Value.category]; done) | rfl
def QCL_1_1 (Z : State) (b1 : Addr) (kc2 : ClassId) (vs : List Value) (h0 : Heap) (n0 : Nat) (v : Option Value) (h : Heap) (L : List Loc) : Prop := v = some (.int (0 : Int32)) ∧ Fr n0 L ∧ h = h0
set_option maxRecDepth 65536 in
set_option maxHeartbeats 40000000 in
theorem rmCL_1_1 (l : Launch) (Z : State) (a0 : Array Value) (hw : TW Z a0) (ws : List Jvm.Cond) (b1 : Addr) (kc2 : ClassId) (vs : List Value) (h0 : Heap) (n0 : Nat) (Z0 : n0 ≤ h0.size) (V2 : Arv Z h0 b1 kc2 .byte (1 : Int32) vs (.int (0 : Int32))) :
    MF l Z (⟨"java/lang/StringUTF16", "coderFromArrayLen", "([BI)B"⟩ : MethodName) jdk_52_method_15_code 2 (some .byte) ws (rmm 0 0 0 0) #[(.ref b1), (.int (1 : Int32))] h0 (QCL_1_1 Z b1 kc2 vs h0 n0) := by
  refine MetFree.of_bodySF (plainFor_of_name pn_java_lang_StringUTF16) hisR ?_
  intro p e s m args below meth c s₁ Bd hml0 hP hK
  obtain ⟨rfl, hZ, hh⟩ := hP
  have hx := Bd.exec
  have hby := Bd.bytes
  have hlk : meth.locks = false := Bd.notSynchronized
  have hml : c.maxLocals = 2 := hml0
  have hown : s.vm.findClass "java/lang/StringUTF16" = some m.cls := findClass_of_methodNamed Bd.named
  have hnm := (name_of_methodNamed Bd.named Bd.method).1
  have X0 : Stand p l e (rmm 0 0 0 0) s m #[(.ref b1), (.int (1 : Int32))] below meth c s₁ [] 0 0 := Stand.of_body Bd
  have e0 : s₁.heap = h0 := by rw [← hh, Bd.state]; rfl
  have N0 := Fr.nil n0
  show Go p e below (FinE s below (QCL_1_1 Z b1 kc2 vs h0 n0) (rmm 0 0 0 0).cells (rmm 0 0 0 0).slots) (s₁.setTop (entryFrame m #[(.ref b1), (.int (1 : Int32))] 2))
  refine Go.via (fun t k => castTop (ef_rmCL_1_1 m b1) k) ?_
  refine Go.via (fun _ => XS.iloadN X0.here hx rfl (hb hby d15_0) rfl) ?_
  refine Go.via (fun _ => XS.aloadN X0.here hx rfl (hb hby d15_1) rfl rfl) ?_
  obtain ⟨cl101, Ar101, -, S101, N101n, -, -⟩ := id V2
  have al101 := X0.arraylength hx (by rw [e0]; exact Ar101.1) (State.isArrayOf_alike hZ.alike Ar101.2.1) (g := (mkF m 2 #[rv b1, iv (1 : Int32)] [(.ref b1), (.int (1 : Int32))])) rfl rfl (hb hby d15_2)
  rw [len_of S101 N101n] at al101
  refine Go.via al101 ?_
  refine Go.via (fun _ => XS.isub X0.here hx rfl (hb hby d15_3) rfl) ?_
  refine Go.via (fun _ => XS.bipush X0.here hx rfl (hb hby d15_4)) ?_
  show Go p e below _ (s₁.setTop (mkF m 6 #[rv b1, iv (1 : Int32)] [(.int (31 : Int32)), (.int (0 : Int32))]))
  refine Go.via (fun _ => XS.iushr X0.here hx rfl (hb hby d15_6) rfl) ?_
  refine Go.via (fun _ => XS.i2b X0.here hx rfl (hb hby d15_7) rfl) ?_
  exact own_retN X0 hx hlk (t := .byte) Bd.returns (by simp) (hb hby d15_8) (by show QCL_1_1 Z b1 kc2 vs h0 n0 _ s₁.heap _; rw [e0]; exact ⟨rfl, N0, rfl⟩) (by decide) (by decide)
theorem ef_rmI4_1 (m : MethodId) (x0 : Addr) (x1 : Addr) : entryFrame m #[(.ref x0), (.ref x1), (.int (0 : Int32)), (.int (1 : Int32)), .null] 6 = mkF m 0 #[rv x0, rv x1, iv (0 : Int32), iv (1 : Int32), .val .null, .unset] [] := by first | (simp [entryFrame, mkF, argsToLocals, Value.category]; done) | rfl
def QI4_1 (Z : State) (a1 : Addr) (a2 : Addr) (kc1 : ClassId) (c0 : Int32) (ccs : Int32) (h0 : Heap) (n0 : Nat) (v : Option Value) (h : Heap) (L : List Loc) : Prop := v = none ∧ Fr n0 L ∧ Keep h0 h [a1] ∧ ∃ (t : Addr) (kb : ClassId), h0.size ≤ t ∧ Fld Z h a1 "java/lang/String" "value" "[B" (.ref t) ∧ Fld Z h a1 "java/lang/String" "coder" "B" (.int (0 : Int32)) ∧ Arv Z h t kb .byte (1 : Int32) [(.int (nar .byte (c0.toInt8.toInt32)))] (.int (0 : Int32))
set_option maxRecDepth 65536 in
set_option maxHeartbeats 40000000 in
theorem rmI4_1 (l : Launch) (Z : State) (a0 : Array Value) (hw : TW Z a0) (ws : List Jvm.Cond) (a1 : Addr) (a2 : Addr) (kc1 : ClassId) (c0 : Int32) (ccs : Int32) (h0 : Heap) (n0 : Nat) (Z0 : n0 ≤ h0.size) (E1 : Exa Z h0 a1 "java/lang/String") (F1 : Fld Z h0 a1 "java/lang/String" "value" "[B" .null) (F2 : Fld Z h0 a1 "java/lang/String" "coder" "B" (.int (0 : Int32))) (g1 : n0 ≤ a1) (ne1 : a1 ≠ a2) (V1 : Arv Z h0 a2 kc1 .char (1 : Int32) [(.int c0)] (.int (0 : Int32))) (hl0 : ¬ ((255 : Int32) < c0)) (O0 : Old Z n0 h0) (S_CS : Sta Z Z.heap "java/lang/String" "COMPACT_STRINGS" "Z" (.int ccs)) (hcs : ¬ (ccs = (0 : Int32))) :
    MF l Z (⟨"java/lang/String", "<init>", "([CIILjava/lang/Void;)V"⟩ : MethodName) jdk_42_method_149_code 6 none ws (rmm 2 1 1 35) #[(.ref a1), (.ref a2), (.int (0 : Int32)), (.int (1 : Int32)), .null] h0 (QI4_1 Z a1 a2 kc1 c0 ccs h0 n0) := by
  refine MetFree.of_bodySF (plainFor_of_name pn_java_lang_String) hisR ?_
  intro p e s m args below meth c s₁ Bd hml0 hP hK
  obtain ⟨rfl, hZ, hh⟩ := hP
  have hx := Bd.exec
  have hby := Bd.bytes
  have hlk : meth.locks = false := Bd.notSynchronized
  have hml : c.maxLocals = 6 := hml0
  have hown : s.vm.findClass "java/lang/String" = some m.cls := findClass_of_methodNamed Bd.named
  have hnm := (name_of_methodNamed Bd.named Bd.method).1
  have X0 : Stand p l e (rmm 2 1 1 35) s m #[(.ref a1), (.ref a2), (.int (0 : Int32)), (.int (1 : Int32)), .null] below meth c s₁ [] 0 0 := Stand.of_body Bd
  have e0 : s₁.heap = h0 := by rw [← hh, Bd.state]; rfl
  have N0 := Fr.nil n0
  show Go p e below (FinE s below (QI4_1 Z a1 a2 kc1 c0 ccs h0 n0) (rmm 2 1 1 35).cells (rmm 2 1 1 35).slots) (s₁.setTop (entryFrame m #[(.ref a1), (.ref a2), (.int (0 : Int32)), (.int (1 : Int32)), .null] 6))
  refine Go.via (fun t k => castTop (ef_rmI4_1 m a1 a2) k) ?_
  refine Go.via (fun _ => XS.aloadN X0.here hx rfl (hb hby d12_0) rfl rfl) ?_
  obtain ⟨T101, X101, e101, st101⟩ := initO X0 hx hZ hown (ow hw 77 rfl) (ow hw 43 rfl) (ow hw 44 rfl) e0 (g := (mkF m 1 #[rv a1, rv a2, iv (0 : Int32), iv (1 : Int32), .val .null, .unset] [(.ref a1)])) rfl (by rw [hml]; rfl) rfl (hb hby d12_1) (by decide) (W := 0) (by show 2 * 0 + _ ≤ _; exact Nat.le_of_eq rfl) (by decide)
  refine Go.via st101 ?_
  refine Go.via (fun _ => XS.iloadN X101.here hx rfl (hb hby d12_4) rfl) ?_
  refine Go.via (fun _ => XS.ifYes X101.here hx rfl (pc0 := 5) (pc' := 27) rfl (hb hby d12_5) rfl (by decide) (by decide) (by decide)) ?_
  obtain ⟨T102, X102, e102, st102⟩ := getS2 X101 hx hZ hown (host := "") (Or.inl (ow hw 78 rfl)) Via.refl e101 (S_CS.ext O0.2) (g := (mkF m 27 #[rv a1, rv a2, iv (0 : Int32), iv (1 : Int32), .val .null, .unset] [])) rfl (hb hby d12_27)
  refine Go.via st102 ?_
  show Go p e below _ (T102.setTop (mkF m 30 #[rv a1, rv a2, iv (0 : Int32), iv (1 : Int32), .val .null, .unset] [(.int ccs)]))
  refine Go.via (fun _ => XS.ifNo X102.here hx rfl (hb hby d12_30) rfl ((if0 _ _).trans (feq hcs).1)) ?_
  refine Go.via (fun _ => XS.aloadN X102.here hx rfl (hb hby d12_33) rfl rfl) ?_
  refine Go.via (fun _ => XS.iloadN X102.here hx rfl (hb hby d12_34) rfl) ?_
  refine Go.via (fun _ => XS.iloadN X102.here hx rfl (hb hby d12_35) rfl) ?_
  obtain ⟨_, _, ⟨T103, L103, k103, n103⟩, -, X103, ⟨Lc103, hQ103, l103, y103, z103⟩, st103⟩ := Jvm.LawKit.callS X102 hx (y := (⟨"java/lang/StringUTF16", "compress", "([CII)[B"⟩ : MethodName)) hown (mvT hZ (ow hw 79 rfl)) (mvT hZ (ow hw 80 rfl)) (mvT hZ (ow hw 81 rfl)) (mvT hZ (ow hw 82 rfl)) (by decide) (backOf (W := 0) (rmC1_1 l Z a0 hw [] a2 kc1 c0 h0 n0 Z0 V1 hl0) hZ (ow hw 82 rfl) (ow hw 81 rfl) (by decide) (by decide)) (g := (mkF m 36 #[rv a1, rv a2, iv (0 : Int32), iv (1 : Int32), .val .null, .unset] [(.int (1 : Int32)), (.int (0 : Int32)), (.ref a2)])) rfl (by rw [hml]; rfl) (argsL := [(.ref a2), (.int (0 : Int32)), (.int (1 : Int32))]) (rest := []) (lenOf pd_7 rfl) rfl (by show 2 * 0 + _ ≤ _; exact Nat.le_of_eq rfl) (hb hby d12_36) (fun _ _ => ⟨rfl, e102, (by decide : 0 + 1 ≤ _), (by decide : 0 + 1 ≤ _)⟩)
  dsimp only [Pt.U, Pt.locs, Pt.cells, Pt.slots] at X103 l103 y103 z103 st103 hQ103
  rw [l103, y103, z103] at X103
  replace X103 : Stand p l e _ _ m _ below meth c T103 _ 1 1 := X103
  obtain ⟨t103, kb103, rfl, N103q, K103q, gt103, va103⟩ := hQ103
  have N103 := Fr.app N0 N103q
  refine Go.via st103 ?_
  have Zs103 : n0 ≤ T103.heap.size := Nat.le_trans Z0 K103q.1
  have O103 : Old Z n0 T103.heap := O0.keep K103q all0
  have K103 : Keep h0 T103.heap [a1] := (Keep.refl h0 [a1]).trans K103q all0
  have fE_a1_103 := E1.keep K103q
  have fF_a1_value_103 := F1.keep K103q nin0
  have fF_a1_coder_103 := F2.keep K103q nin0
  have fV_a2_103 := V1.keep K103q nin0
  have g_t103 : n0 ≤ t103 := Nat.le_trans Z0 gt103
  have ne_a1_t103 : a1 ≠ t103 := Nat.ne_of_lt (Nat.lt_of_lt_of_le E1.lt gt103)
  have ne_a2_t103 : a2 ≠ t103 := Nat.ne_of_lt (Nat.lt_of_lt_of_le V1.lt gt103)
  have sz_t103 : h0.size ≤ t103 := Nat.le_trans (Keep.refl h0 [a1]).1 gt103
  refine Go.via (fun _ => XS.astore X103.here hx rfl (hb hby d12_39) rfl rfl (l' := #[rv a1, rv a2, iv (0 : Int32), iv (1 : Int32), .val .null, rv t103]) rfl) ?_
  show Go p e below _ (T103.setTop (mkF m 41 #[rv a1, rv a2, iv (0 : Int32), iv (1 : Int32), .val .null, rv t103] []))
  refine Go.via (fun _ => XS.aloadN X103.here hx rfl (hb hby d12_41) rfl rfl) ?_
  refine Go.via (fun _ => XS.aload X103.here hx rfl (hb hby d12_42) rfl rfl) ?_
  refine Go.via (fun _ => XS.iloadN X103.here hx rfl (hb hby d12_44) rfl) ?_
  obtain ⟨_, _, ⟨T104, L104, k104, n104⟩, -, X104, ⟨Lc104, hQ104, l104, y104, z104⟩, st104⟩ := Jvm.LawKit.callS X103 hx (y := (⟨"java/lang/StringUTF16", "coderFromArrayLen", "([BI)B"⟩ : MethodName)) hown (mvT hZ (ow hw 86 rfl)) (mvT hZ (ow hw 87 rfl)) (mvT hZ (ow hw 81 rfl)) (mvT hZ (ow hw 88 rfl)) (by decide) (backOf (W := 1) (rmCL_1_1 l Z a0 hw [] t103 kb103 _ T103.heap n0 Zs103 va103) hZ (ow hw 88 rfl) (ow hw 81 rfl) (by decide) (by decide)) (g := (mkF m 45 #[rv a1, rv a2, iv (0 : Int32), iv (1 : Int32), .val .null, rv t103] [(.int (1 : Int32)), (.ref t103), (.ref a1)])) rfl (by rw [hml]; rfl) (argsL := [(.ref t103), (.int (1 : Int32))]) (rest := [(.ref a1)]) (lenOf pd_8 rfl) rfl (by show 2 * 0 + _ ≤ _; exact Nat.le_of_eq rfl) (hb hby d12_45) (fun _ _ => ⟨rfl, rfl, (by decide : 1 + 0 ≤ _), (by decide : 1 + 0 ≤ _)⟩)
  dsimp only [Pt.U, Pt.locs, Pt.cells, Pt.slots] at X104 l104 y104 z104 st104 hQ104
  rw [l104, y104, z104] at X104
  replace X104 : Stand p l e _ _ m _ below meth c T104 _ 1 1 := X104
  obtain ⟨rfl, N104q, e104q⟩ := hQ104
  have N104 := Fr.app N103 N104q
  refine Go.via st104 ?_
  obtain ⟨T105, h105, X105, e105, W105, st105⟩ := putFN X104 hx hZ hown (ow hw 89 rfl) Via.refl e104q fF_a1_coder_103 fE_a1_103 (Or.inr ⟨(ow hw 16 rfl), rfl, hnm⟩) (ow hw 13 rfl) (ty := .byte) (v' := .int (nar .byte (0 : Int32))) (by decide) rfl (fits_nar_byte _) (g := (mkF m 48 #[rv a1, rv a2, iv (0 : Int32), iv (1 : Int32), .val .null, rv t103] [(.int (0 : Int32)), (.ref a1)])) rfl rfl (hb hby d12_48)
  refine Go.via st105 ?_
  have fF_a1_coder_105 : Fld Z h105 a1 "java/lang/String" "coder" "B" (.int (0 : Int32)) := fF_a1_coder_103.same W105
  have Zs105 : n0 ≤ h105.size := Nat.le_trans Zs103 (Keep.of_wr W105).1
  have O105 : Old Z n0 h105 := O103.wr W105 g1
  have K105 : Keep h0 h105 [a1] := K103.wr W105 (Or.inl (List.mem_of_getElem? (i := 0) rfl))
  have N105 := Fr.snoc X105 N104 g1
  have fE_a1_105 := fE_a1_103.wr W105
  have fF_a1_value_105 := fF_a1_value_103.other W105 (Or.inr (slot_ne (Or.inr (ow hw 15 rfl)) (Or.inr (ow hw 16 rfl)) (by decide) (t := (.array .byte)) (t' := .byte) (by decide) (by decide)))
  have fV_a2_105 := fV_a2_103.other W105 (Ne.symm ne1)
  have fV_t103_105 := va103.other W105 (Ne.symm ne_a1_t103)
  refine Go.via (fun _ => XS.aloadN X105.here hx rfl (hb hby d12_51) rfl rfl) ?_
  show Go p e below _ (T105.setTop (mkF m 52 #[rv a1, rv a2, iv (0 : Int32), iv (1 : Int32), .val .null, rv t103] [(.ref a1)]))
  refine Go.via (fun _ => XS.aload X105.here hx rfl (hb hby d12_52) rfl rfl) ?_
  obtain ⟨T106, h106, X106, e106, W106, st106⟩ := putF X105 hx hZ hown (host := "") (Or.inl (ow hw 90 rfl)) Via.refl e105 fF_a1_value_105 fE_a1_105 (Or.inr ⟨(ow hw 15 rfl), rfl, hnm⟩) (ow hw 13 rfl) (ty := (.array .byte)) (by decide) rfl rfl (g := (mkF m 54 #[rv a1, rv a2, iv (0 : Int32), iv (1 : Int32), .val .null, rv t103] [(.ref t103), (.ref a1)])) rfl rfl (hb hby d12_54)
  refine Go.via st106 ?_
  have fF_a1_value_106 : Fld Z h106 a1 "java/lang/String" "value" "[B" (.ref t103) := fF_a1_value_105.same W106
  have Zs106 : n0 ≤ h106.size := Nat.le_trans Zs105 (Keep.of_wr W106).1
  have O106 : Old Z n0 h106 := O105.wr W106 g1
  have K106 : Keep h0 h106 [a1] := K105.wr W106 (Or.inl (List.mem_of_getElem? (i := 0) rfl))
  have N106 := Fr.snoc X106 N105 g1
  have fE_a1_106 := fE_a1_105.wr W106
  have fF_a1_coder_106 := fF_a1_coder_105.other W106 (Or.inr (slot_ne (Or.inr (ow hw 16 rfl)) (Or.inr (ow hw 15 rfl)) (by decide) (t := .byte) (t' := (.array .byte)) (by decide) (by decide)))
  have fV_a2_106 := fV_a2_105.other W106 (Ne.symm ne1)
  have fV_t103_106 := fV_t103_105.other W106 (Ne.symm ne_a1_t103)
  exact own_retV X106 hx hlk Bd.returns (hb hby d12_57) (by show QI4_1 Z a1 a2 kc1 c0 ccs h0 n0 _ T106.heap _; rw [e106]; exact ⟨rfl, N106, K106, t103, kb103, sz_t103, fF_a1_value_106, fF_a1_coder_106, fV_t103_106⟩) (by decide) (by decide)
theorem ef_rmI1_1 (m : MethodId) (x0 : Addr) (x1 : Addr) : entryFrame m #[(.ref x0), (.ref x1)] 2 = mkF m 0 #[rv x0, rv x1] [] := by first | (simp [entryFrame, mkF, argsToLocals, Value.category]; done) | rfl
def QI1_1 (Z : State) (a1 : Addr) (a2 : Addr) (kc1 : ClassId) (c0 : Int32) (ccs : Int32) (h0 : Heap) (n0 : Nat) (v : Option Value) (h : Heap) (L : List Loc) : Prop := v = none ∧ Fr n0 L ∧ Keep h0 h [a1] ∧ ∃ (t : Addr) (kb : ClassId), h0.size ≤ t ∧ Fld Z h a1 "java/lang/String" "value" "[B" (.ref t) ∧ Fld Z h a1 "java/lang/String" "coder" "B" (.int (0 : Int32)) ∧ Arv Z h t kb .byte (1 : Int32) [(.int (nar .byte (c0.toInt8.toInt32)))] (.int (0 : Int32))
set_option maxRecDepth 65536 in
set_option maxHeartbeats 40000000 in
theorem rmI1_1 (l : Launch) (Z : State) (a0 : Array Value) (hw : TW Z a0) (ws : List Jvm.Cond) (a1 : Addr) (a2 : Addr) (kc1 : ClassId) (c0 : Int32) (ccs : Int32) (h0 : Heap) (n0 : Nat) (Z0 : n0 ≤ h0.size) (E1 : Exa Z h0 a1 "java/lang/String") (F1 : Fld Z h0 a1 "java/lang/String" "value" "[B" .null) (F2 : Fld Z h0 a1 "java/lang/String" "coder" "B" (.int (0 : Int32))) (g1 : n0 ≤ a1) (ne1 : a1 ≠ a2) (V1 : Arv Z h0 a2 kc1 .char (1 : Int32) [(.int c0)] (.int (0 : Int32))) (hl0 : ¬ ((255 : Int32) < c0)) (O0 : Old Z n0 h0) (S_CS : Sta Z Z.heap "java/lang/String" "COMPACT_STRINGS" "Z" (.int ccs)) (hcs : ¬ (ccs = (0 : Int32))) :
    MF l Z (⟨"java/lang/String", "<init>", "([C)V"⟩ : MethodName) jdk_42_method_3_code 2 none ws (rmm 3 1 1 52) #[(.ref a1), (.ref a2)] h0 (QI1_1 Z a1 a2 kc1 c0 ccs h0 n0) := by
  refine MetFree.of_bodySF (plainFor_of_name pn_java_lang_String) hisR ?_
  intro p e s m args below meth c s₁ Bd hml0 hP hK
  obtain ⟨rfl, hZ, hh⟩ := hP
  have hx := Bd.exec
  have hby := Bd.bytes
  have hlk : meth.locks = false := Bd.notSynchronized
  have hml : c.maxLocals = 2 := hml0
  have hown : s.vm.findClass "java/lang/String" = some m.cls := findClass_of_methodNamed Bd.named
  have hnm := (name_of_methodNamed Bd.named Bd.method).1
  have X0 : Stand p l e (rmm 3 1 1 52) s m #[(.ref a1), (.ref a2)] below meth c s₁ [] 0 0 := Stand.of_body Bd
  have e0 : s₁.heap = h0 := by rw [← hh, Bd.state]; rfl
  have N0 := Fr.nil n0
  show Go p e below (FinE s below (QI1_1 Z a1 a2 kc1 c0 ccs h0 n0) (rmm 3 1 1 52).cells (rmm 3 1 1 52).slots) (s₁.setTop (entryFrame m #[(.ref a1), (.ref a2)] 2))
  refine Go.via (fun t k => castTop (ef_rmI1_1 m a1 a2) k) ?_
  refine Go.via (fun _ => XS.aloadN X0.here hx rfl (hb hby d11_0) rfl rfl) ?_
  refine Go.via (fun _ => XS.aloadN X0.here hx rfl (hb hby d11_1) rfl rfl) ?_
  refine Go.via (fun _ => XS.iconst X0.here hx rfl (hb hby d11_2)) ?_
  refine Go.via (fun _ => XS.aloadN X0.here hx rfl (hb hby d11_3) rfl rfl) ?_
  obtain ⟨cl101, Ar101, -, S101, N101n, -, -⟩ := id V1
  have al101 := X0.arraylength hx (by rw [e0]; exact Ar101.1) (State.isArrayOf_alike hZ.alike Ar101.2.1) (g := (mkF m 4 #[rv a1, rv a2] [(.ref a2), (.int (0 : Int32)), (.ref a2), (.ref a1)])) rfl rfl (hb hby d11_4)
  rw [len_of S101 N101n] at al101
  refine Go.via al101 ?_
  show Go p e below _ (s₁.setTop (mkF m 5 #[rv a1, rv a2] [(.int (1 : Int32)), (.int (0 : Int32)), (.ref a2), (.ref a1)]))
  refine Go.via (fun _ => XS.aconstNull X0.here hx rfl (hb hby d11_5)) ?_
  obtain ⟨_, _, ⟨T102, L102, k102, n102⟩, -, X102, ⟨Lc102, hQ102, l102, y102, z102⟩, st102⟩ := X0.specialBack hx (y := (⟨"java/lang/String", "<init>", "([CIILjava/lang/Void;)V"⟩ : MethodName)) rfl hown (mvT hZ (ow hw 73 rfl)) (mvT hZ (ow hw 74 rfl)) (mvT hZ (ow hw 76 rfl)) (by decide) (backOf (W := 0) (rmI4_1 l Z a0 hw [] a1 a2 kc1 c0 ccs h0 n0 Z0 E1 F1 F2 g1 ne1 V1 hl0 O0 S_CS hcs) hZ (ow hw 76 rfl) (ow hw 12 rfl) (by decide) (by decide)) (g := (mkF m 6 #[rv a1, rv a2] [.null, (.int (1 : Int32)), (.int (0 : Int32)), (.ref a2), (.ref a1)])) rfl (by rw [hml]; rfl) (Steps.refl _) (a := a1) (argsL := [(.ref a2), (.int (0 : Int32)), (.int (1 : Int32)), .null]) (rest := []) (lenOf pd_5 rfl) rfl (by show 2 * 0 + _ ≤ _; exact Nat.le_of_eq rfl) (hb hby d11_6) (fun _ _ => ⟨rfl, e0, (by decide : 0 + 1 ≤ _), (by decide : 0 + 1 ≤ _)⟩)
  dsimp only [Pt.U, Pt.locs, Pt.cells, Pt.slots] at X102 l102 y102 z102 st102 hQ102
  rw [l102, y102, z102] at X102
  replace X102 : Stand p l e _ _ m _ below meth c T102 _ 1 1 := X102
  obtain ⟨rfl, N102q, K102q, t102, kb102, gt102, fv102, fc102, va102⟩ := hQ102
  have N102 := Fr.app N0 N102q
  refine Go.tr st102 ?_
  have Zs102 : n0 ≤ T102.heap.size := Nat.le_trans Z0 K102q.1
  have O102 : Old Z n0 T102.heap := O0.keep K102q (allS g1 all0)
  have fE_a1_102 := E1.keep K102q
  have fV_a2_102 := V1.keep K102q (ninS (Ne.symm ne1) nin0)
  exact own_retV X102 hx hlk Bd.returns (hb hby d11_9) (by show QI1_1 Z a1 a2 kc1 c0 ccs h0 n0 _ T102.heap _; exact ⟨rfl, N102, K102q, t102, kb102, gt102, fv102, fc102, va102⟩) (by decide) (by decide)
theorem ef_rmC2_2 (m : MethodId) (x0 : Addr) (x2 : Addr) : entryFrame m #[(.ref x0), (.int (0 : Int32)), (.ref x2), (.int (0 : Int32)), (.int (2 : Int32))] 7 = mkF m 0 #[rv x0, iv (0 : Int32), rv x2, iv (0 : Int32), iv (2 : Int32), .unset, .unset] [] := by first | (simp [entryFrame, mkF, argsToLocals, Value.category]; done) | rfl
def QC2_2 (Z : State) (a1 : Addr) (kc1 : ClassId) (b1 : Addr) (kc2 : ClassId) (c0 : Int32) (c1 : Int32) (h0 : Heap) (n0 : Nat) (v : Option Value) (h : Heap) (L : List Loc) : Prop := v = some (.int (2 : Int32)) ∧ Fr n0 L ∧ Keep h0 h [b1] ∧ Arv Z h b1 kc2 .byte (2 : Int32) [(.int (nar .byte (c0.toInt8.toInt32))), (.int (nar .byte (c1.toInt8.toInt32)))] (.int (0 : Int32))
set_option maxRecDepth 65536 in
set_option maxHeartbeats 40000000 in
theorem rmC2_2 (l : Launch) (Z : State) (a0 : Array Value) (hw : TW Z a0) (ws : List Jvm.Cond) (a1 : Addr) (kc1 : ClassId) (b1 : Addr) (kc2 : ClassId) (c0 : Int32) (c1 : Int32) (h0 : Heap) (n0 : Nat) (Z0 : n0 ≤ h0.size) (V1 : Arv Z h0 a1 kc1 .char (2 : Int32) [(.int c0), (.int c1)] (.int (0 : Int32))) (V2 : Arv Z h0 b1 kc2 .byte (2 : Int32) [(.int (0 : Int32)), (.int (0 : Int32))] (.int (0 : Int32))) (g1 : n0 ≤ b1) (ne1 : a1 ≠ b1) (hl0 : ¬ ((255 : Int32) < c0)) (hl1 : ¬ ((255 : Int32) < c1)) :
    MF l Z (⟨"java/lang/StringUTF16", "compress", "([CI[BII)I"⟩ : MethodName) jdk_52_method_21_code 7 (some .int) ws (rmm 0 0 0 0) #[(.ref a1), (.int (0 : Int32)), (.ref b1), (.int (0 : Int32)), (.int (2 : Int32))] h0 (QC2_2 Z a1 kc1 b1 kc2 c0 c1 h0 n0) := by
  refine MetFree.of_bodySF (plainFor_of_name pn_java_lang_StringUTF16) hisR ?_
  intro p e s m args below meth c s₁ Bd hml0 hP hK
  obtain ⟨rfl, hZ, hh⟩ := hP
  have hx := Bd.exec
  have hby := Bd.bytes
  have hlk : meth.locks = false := Bd.notSynchronized
  have hml : c.maxLocals = 7 := hml0
  have hown : s.vm.findClass "java/lang/StringUTF16" = some m.cls := findClass_of_methodNamed Bd.named
  have hnm := (name_of_methodNamed Bd.named Bd.method).1
  have X0 : Stand p l e (rmm 0 0 0 0) s m #[(.ref a1), (.int (0 : Int32)), (.ref b1), (.int (0 : Int32)), (.int (2 : Int32))] below meth c s₁ [] 0 0 := Stand.of_body Bd
  have e0 : s₁.heap = h0 := by rw [← hh, Bd.state]; rfl
  have N0 := Fr.nil n0
  show Go p e below (FinE s below (QC2_2 Z a1 kc1 b1 kc2 c0 c1 h0 n0) (rmm 0 0 0 0).cells (rmm 0 0 0 0).slots) (s₁.setTop (entryFrame m #[(.ref a1), (.int (0 : Int32)), (.ref b1), (.int (0 : Int32)), (.int (2 : Int32))] 7))
  refine Go.via (fun t k => castTop (ef_rmC2_2 m a1 b1) k) ?_
  refine Go.via (fun _ => XS.iconst X0.here hx rfl (hb hby d14_0)) ?_
  refine Go.via (fun _ => XS.istore X0.here hx rfl (hb hby d14_1) rfl (l' := #[rv a1, iv (0 : Int32), rv b1, iv (0 : Int32), iv (2 : Int32), iv (0 : Int32), .unset]) rfl) ?_
  refine Go.via (fun _ => XS.iload X0.here hx rfl (hb hby d14_3) rfl) ?_
  refine Go.via (fun _ => XS.iload X0.here hx rfl (hb hby d14_5) rfl) ?_
  refine Go.via (fun _ => XS.icmpNo X0.here hx rfl (hb hby d14_7) rfl (by decide)) ?_
  show Go p e below _ (s₁.setTop (mkF m 10 #[rv a1, iv (0 : Int32), rv b1, iv (0 : Int32), iv (2 : Int32), iv (0 : Int32), .unset] []))
  refine Go.via (fun _ => XS.aloadN X0.here hx rfl (hb hby d14_10) rfl rfl) ?_
  refine Go.via (fun _ => XS.iloadN X0.here hx rfl (hb hby d14_11) rfl) ?_
  obtain ⟨cl101, Ar101, q101, S101, N101n, H101, G101⟩ := id V1
  have hin101 := inb_of (j := (0 : Int32)) S101 (by decide)
  have hat101 : cl101.slots[((0 : Int32) : Int32).toNatClampNeg]? = some (.int c0) := H101.at hin101 rfl
  refine Go.via (X0.caload hx (j := (0 : Int32)) (v := (.int c0)) (by rw [e0]; exact Ar101.1) (State.isArrayOf_alike hZ.alike Ar101.2.1) Ar101.2.2 hin101 hat101 (g := (mkF m 12 #[rv a1, iv (0 : Int32), rv b1, iv (0 : Int32), iv (2 : Int32), iv (0 : Int32), .unset] [(.int (0 : Int32)), (.ref a1)])) rfl rfl (hb hby d14_12)) ?_
  refine Go.via (fun _ => XS.istore X0.here hx rfl (hb hby d14_13) rfl (l' := #[rv a1, iv (0 : Int32), rv b1, iv (0 : Int32), iv (2 : Int32), iv (0 : Int32), iv c0]) rfl) ?_
  refine Go.via (fun _ => XS.iload X0.here hx rfl (hb hby d14_15) rfl) ?_
  refine Go.via (fun _ => XS.sipush X0.here hx rfl (hb hby d14_17)) ?_
  show Go p e below _ (s₁.setTop (mkF m 20 #[rv a1, iv (0 : Int32), rv b1, iv (0 : Int32), iv (2 : Int32), iv (0 : Int32), iv c0] [(.int (255 : Int32)), (.int c0)]))
  refine Go.via (fun _ => XS.icmpYes X0.here hx rfl (pc0 := 20) (pc' := 26) rfl (hb hby d14_20) rfl (flt hl0).2.2.2 (by decide) (by decide)) ?_
  refine Go.via (fun _ => XS.aloadN X0.here hx rfl (hb hby d14_26) rfl rfl) ?_
  refine Go.via (fun _ => XS.iloadN X0.here hx rfl (hb hby d14_27) rfl) ?_
  refine Go.via (fun _ => XS.iload X0.here hx rfl (hb hby d14_28) rfl) ?_
  refine Go.via (fun _ => XS.i2b X0.here hx rfl (hb hby d14_30) rfl) ?_
  obtain ⟨cl102, Ar102, q102, S102, N102n, H102, G102⟩ := id V2
  have hin102 := inb_of (j := (0 : Int32)) S102 (by decide)
  obtain ⟨T102, h102, X102, e102, W102, st102⟩ := stB X0 hx hZ e0 Ar102 (j := (0 : Int32)) hin102 (g := (mkF m 31 #[rv a1, iv (0 : Int32), rv b1, iv (0 : Int32), iv (2 : Int32), iv (0 : Int32), iv c0] [(.int (c0.toInt8.toInt32)), (.int (0 : Int32)), (.ref b1)])) rfl rfl (hb hby d14_31)
  refine Go.via st102 ?_
  have V102 : Arv Z h102 b1 kc2 .byte (2 : Int32) [(.int (nar .byte (c0.toInt8.toInt32))), (.int (0 : Int32))] (.int (0 : Int32)) := Arv.set Ar102 q102 S102 N102n H102 G102 (fits_nar_byte _) W102 0 rfl (Nat.le_of_ble_eq_true rfl)
  have Zs102 : n0 ≤ h102.size := Nat.le_trans Z0 (Keep.of_wr W102).1
  have K102 : Keep h0 h102 [b1] := (Keep.refl h0 [b1]).wr W102 (Or.inl (List.mem_of_getElem? (i := 0) rfl))
  have N102 := Fr.snoc X102 N0 g1
  have fV_a1_102 := V1.other W102 ne1
  show Go p e below _ (T102.setTop (mkF m 32 #[rv a1, iv (0 : Int32), rv b1, iv (0 : Int32), iv (2 : Int32), iv (0 : Int32), iv c0] []))
  refine Go.via (fun _ => XS.iinc X102.here hx rfl (hb hby d14_32) rfl (l' := #[rv a1, iv (1 : Int32), rv b1, iv (0 : Int32), iv (2 : Int32), iv (0 : Int32), iv c0]) rfl) ?_
  refine Go.via (fun _ => XS.iinc X102.here hx rfl (hb hby d14_35) rfl (l' := #[rv a1, iv (1 : Int32), rv b1, iv (1 : Int32), iv (2 : Int32), iv (0 : Int32), iv c0]) rfl) ?_
  refine Go.via (fun _ => XS.iinc X102.here hx rfl (hb hby d14_38) rfl (l' := #[rv a1, iv (1 : Int32), rv b1, iv (1 : Int32), iv (2 : Int32), iv (1 : Int32), iv c0]) rfl) ?_
  refine Go.via (fun _ => XS.goto X102.here hx rfl (pc0 := 41) (pc' := 3) rfl (hb hby d14_41) (by decide) (by decide)) ?_
  refine Go.via (fun _ => XS.iload X102.here hx rfl (hb hby d14_3) rfl) ?_
  refine Go.via (fun _ => XS.iload X102.here hx rfl (hb hby d14_5) rfl) ?_
  show Go p e below _ (T102.setTop (mkF m 7 #[rv a1, iv (1 : Int32), rv b1, iv (1 : Int32), iv (2 : Int32), iv (1 : Int32), iv c0] [(.int (2 : Int32)), (.int (1 : Int32))]))
  refine Go.via (fun _ => XS.icmpNo X102.here hx rfl (hb hby d14_7) rfl (by decide)) ?_
  refine Go.via (fun _ => XS.aloadN X102.here hx rfl (hb hby d14_10) rfl rfl) ?_
  refine Go.via (fun _ => XS.iloadN X102.here hx rfl (hb hby d14_11) rfl) ?_
  obtain ⟨cl103, Ar103, q103, S103, N103n, H103, G103⟩ := id fV_a1_102
  have hin103 := inb_of (j := (1 : Int32)) S103 (by decide)
  have hat103 : cl103.slots[((1 : Int32) : Int32).toNatClampNeg]? = some (.int c1) := H103.at hin103 rfl
  refine Go.via (X102.caload hx (j := (1 : Int32)) (v := (.int c1)) (by rw [e102]; exact Ar103.1) (State.isArrayOf_alike hZ.alike Ar103.2.1) Ar103.2.2 hin103 hat103 (g := (mkF m 12 #[rv a1, iv (1 : Int32), rv b1, iv (1 : Int32), iv (2 : Int32), iv (1 : Int32), iv c0] [(.int (1 : Int32)), (.ref a1)])) rfl rfl (hb hby d14_12)) ?_
  refine Go.via (fun _ => XS.istore X102.here hx rfl (hb hby d14_13) rfl (l' := #[rv a1, iv (1 : Int32), rv b1, iv (1 : Int32), iv (2 : Int32), iv (1 : Int32), iv c1]) rfl) ?_
  refine Go.via (fun _ => XS.iload X102.here hx rfl (hb hby d14_15) rfl) ?_
  show Go p e below _ (T102.setTop (mkF m 17 #[rv a1, iv (1 : Int32), rv b1, iv (1 : Int32), iv (2 : Int32), iv (1 : Int32), iv c1] [(.int c1)]))
  refine Go.via (fun _ => XS.sipush X102.here hx rfl (hb hby d14_17)) ?_
  refine Go.via (fun _ => XS.icmpYes X102.here hx rfl (pc0 := 20) (pc' := 26) rfl (hb hby d14_20) rfl (flt hl1).2.2.2 (by decide) (by decide)) ?_
  refine Go.via (fun _ => XS.aloadN X102.here hx rfl (hb hby d14_26) rfl rfl) ?_
  refine Go.via (fun _ => XS.iloadN X102.here hx rfl (hb hby d14_27) rfl) ?_
  refine Go.via (fun _ => XS.iload X102.here hx rfl (hb hby d14_28) rfl) ?_
  refine Go.via (fun _ => XS.i2b X102.here hx rfl (hb hby d14_30) rfl) ?_
  show Go p e below _ (T102.setTop (mkF m 31 #[rv a1, iv (1 : Int32), rv b1, iv (1 : Int32), iv (2 : Int32), iv (1 : Int32), iv c1] [(.int (c1.toInt8.toInt32)), (.int (1 : Int32)), (.ref b1)]))
  obtain ⟨cl104, Ar104, q104, S104, N104n, H104, G104⟩ := id V102
  have hin104 := inb_of (j := (1 : Int32)) S104 (by decide)
  obtain ⟨T104, h104, X104, e104, W104, st104⟩ := stB X102 hx hZ e102 Ar104 (j := (1 : Int32)) hin104 (g := (mkF m 31 #[rv a1, iv (1 : Int32), rv b1, iv (1 : Int32), iv (2 : Int32), iv (1 : Int32), iv c1] [(.int (c1.toInt8.toInt32)), (.int (1 : Int32)), (.ref b1)])) rfl rfl (hb hby d14_31)
  refine Go.via st104 ?_
  have V104 : Arv Z h104 b1 kc2 .byte (2 : Int32) [(.int (nar .byte (c0.toInt8.toInt32))), (.int (nar .byte (c1.toInt8.toInt32)))] (.int (0 : Int32)) := Arv.set Ar104 q104 S104 N104n H104 G104 (fits_nar_byte _) W104 1 rfl (Nat.le_of_ble_eq_true rfl)
  have Zs104 : n0 ≤ h104.size := Nat.le_trans Zs102 (Keep.of_wr W104).1
  have K104 : Keep h0 h104 [b1] := K102.wr W104 (Or.inl (List.mem_of_getElem? (i := 0) rfl))
  have N104 := Fr.snoc X104 N102 g1
  have fV_a1_104 := fV_a1_102.other W104 ne1
  refine Go.via (fun _ => XS.iinc X104.here hx rfl (hb hby d14_32) rfl (l' := #[rv a1, iv (2 : Int32), rv b1, iv (1 : Int32), iv (2 : Int32), iv (1 : Int32), iv c1]) rfl) ?_
  refine Go.via (fun _ => XS.iinc X104.here hx rfl (hb hby d14_35) rfl (l' := #[rv a1, iv (2 : Int32), rv b1, iv (2 : Int32), iv (2 : Int32), iv (1 : Int32), iv c1]) rfl) ?_
  refine Go.via (fun _ => XS.iinc X104.here hx rfl (hb hby d14_38) rfl (l' := #[rv a1, iv (2 : Int32), rv b1, iv (2 : Int32), iv (2 : Int32), iv (2 : Int32), iv c1]) rfl) ?_
  refine Go.via (fun _ => XS.goto X104.here hx rfl (pc0 := 41) (pc' := 3) rfl (hb hby d14_41) (by decide) (by decide)) ?_
  refine Go.via (fun _ => XS.iload X104.here hx rfl (hb hby d14_3) rfl) ?_
  show Go p e below _ (T104.setTop (mkF m 5 #[rv a1, iv (2 : Int32), rv b1, iv (2 : Int32), iv (2 : Int32), iv (2 : Int32), iv c1] [(.int (2 : Int32))]))
  refine Go.via (fun _ => XS.iload X104.here hx rfl (hb hby d14_5) rfl) ?_
  refine Go.via (fun _ => XS.icmpYes X104.here hx rfl (pc0 := 7) (pc' := 44) rfl (hb hby d14_7) rfl (by decide) (by decide) (by decide)) ?_
  refine Go.via (fun _ => XS.iload X104.here hx rfl (hb hby d14_44) rfl) ?_
  exact own_retI X104 hx hlk Bd.returns (hb hby d14_46) (by show QC2_2 Z a1 kc1 b1 kc2 c0 c1 h0 n0 _ T104.heap _; rw [e104]; exact ⟨rfl, N104, K104, V104⟩) (by decide) (by decide)
theorem ef_rmC1_2 (m : MethodId) (x0 : Addr) : entryFrame m #[(.ref x0), (.int (0 : Int32)), (.int (2 : Int32))] 6 = mkF m 0 #[rv x0, iv (0 : Int32), iv (2 : Int32), .unset, .unset, .unset] [] := by first | (simp [entryFrame, mkF, argsToLocals, Value.category]; done) | rfl
def QC1_2 (Z : State) (a1 : Addr) (kc1 : ClassId) (c0 : Int32) (c1 : Int32) (h0 : Heap) (n0 : Nat) (v : Option Value) (h : Heap) (L : List Loc) : Prop := ∃ (t : Addr) (kb : ClassId), v = some (.ref t) ∧ Fr n0 L ∧ Keep h0 h [] ∧ h0.size ≤ t ∧ Arv Z h t kb .byte (2 : Int32) [(.int (nar .byte (c0.toInt8.toInt32))), (.int (nar .byte (c1.toInt8.toInt32)))] (.int (0 : Int32))
set_option maxRecDepth 65536 in
set_option maxHeartbeats 40000000 in
theorem rmC1_2 (l : Launch) (Z : State) (a0 : Array Value) (hw : TW Z a0) (ws : List Jvm.Cond) (a1 : Addr) (kc1 : ClassId) (c0 : Int32) (c1 : Int32) (h0 : Heap) (n0 : Nat) (Z0 : n0 ≤ h0.size) (V1 : Arv Z h0 a1 kc1 .char (2 : Int32) [(.int c0), (.int c1)] (.int (0 : Int32))) (hl0 : ¬ ((255 : Int32) < c0)) (hl1 : ¬ ((255 : Int32) < c1)) :
    MF l Z (⟨"java/lang/StringUTF16", "compress", "([CII)[B"⟩ : MethodName) jdk_52_method_16_code 6 (some (.array .byte)) ws (rmm 1 1 2 18) #[(.ref a1), (.int (0 : Int32)), (.int (2 : Int32))] h0 (QC1_2 Z a1 kc1 c0 c1 h0 n0) := by
  refine MetFree.of_bodySF (plainFor_of_name pn_java_lang_StringUTF16) hisR ?_
  intro p e s m args below meth c s₁ Bd hml0 hP hK
  obtain ⟨rfl, hZ, hh⟩ := hP
  have hx := Bd.exec
  have hby := Bd.bytes
  have hlk : meth.locks = false := Bd.notSynchronized
  have hml : c.maxLocals = 6 := hml0
  have hown : s.vm.findClass "java/lang/StringUTF16" = some m.cls := findClass_of_methodNamed Bd.named
  have hnm := (name_of_methodNamed Bd.named Bd.method).1
  have X0 : Stand p l e (rmm 1 1 2 18) s m #[(.ref a1), (.int (0 : Int32)), (.int (2 : Int32))] below meth c s₁ [] 0 0 := Stand.of_body Bd
  have e0 : s₁.heap = h0 := by rw [← hh, Bd.state]; rfl
  have N0 := Fr.nil n0
  show Go p e below (FinE s below (QC1_2 Z a1 kc1 c0 c1 h0 n0) (rmm 1 1 2 18).cells (rmm 1 1 2 18).slots) (s₁.setTop (entryFrame m #[(.ref a1), (.int (0 : Int32)), (.int (2 : Int32))] 6))
  refine Go.via (fun t k => castTop (ef_rmC1_2 m a1) k) ?_
  refine Go.via (fun _ => XS.iloadN X0.here hx rfl (hb hby d13_0) rfl) ?_
  obtain ⟨T101, h101, k101, X101, e101, E101, A101, st101⟩ := newP X0 hx hZ (ow hw 14 rfl) e0 (g := (mkF m 1 #[rv a1, iv (0 : Int32), iv (2 : Int32), .unset, .unset, .unset] [(.int (2 : Int32))])) rfl (hb hby d13_1) rfl (by decide) (cap := 2) (by decide) (by decide) (by decide) (by decide)
  obtain ⟨b101, g101⟩ : ∃ z, z = h0.size := ⟨_, rfl⟩
  rw [← g101] at A101 st101
  have g_b101 : n0 ≤ b101 := Nat.le_trans Z0 (Nat.le_of_eq g101.symm)
  have ne_a1_b101 : a1 ≠ b101 := Nat.ne_of_lt (Nat.lt_of_lt_of_le V1.lt (Nat.le_of_eq g101.symm))
  have sz_b101 : h0.size ≤ b101 := Nat.le_trans (Keep.refl h0 []).1 (Nat.le_of_eq g101.symm)
  refine Go.via st101 ?_
  have Zs101 : n0 ≤ h101.size := Nat.le_trans Z0 E101.1
  have K101 : Keep h0 h101 [] := (Keep.refl h0 []).ext E101
  have fV_a1_101 := V1.ext E101
  have V_b101 : Arv Z h101 b101 k101 .byte (2 : Int32) [(.int (0 : Int32)), (.int (0 : Int32))] (.int (0 : Int32)) := (Arv.new A101 (by decide)).pad (pad_rep [] (.int (0 : Int32)) 2)
  refine Go.via (fun _ => XS.astoreN X101.here hx rfl (hb hby d13_3) rfl rfl (l' := #[rv a1, iv (0 : Int32), iv (2 : Int32), rv b101, .unset, .unset]) rfl) ?_
  refine Go.via (fun _ => XS.aloadN X101.here hx rfl (hb hby d13_4) rfl rfl) ?_
  refine Go.via (fun _ => XS.iloadN X101.here hx rfl (hb hby d13_5) rfl) ?_
  show Go p e below _ (T101.setTop (mkF m 6 #[rv a1, iv (0 : Int32), iv (2 : Int32), rv b101, .unset, .unset] [(.int (0 : Int32)), (.ref a1)]))
  refine Go.via (fun _ => XS.aloadN X101.here hx rfl (hb hby d13_6) rfl rfl) ?_
  refine Go.via (fun _ => XS.iconst X101.here hx rfl (hb hby d13_7)) ?_
  refine Go.via (fun _ => XS.iloadN X101.here hx rfl (hb hby d13_8) rfl) ?_
  obtain ⟨_, _, ⟨T102, L102, k102, n102⟩, -, X102, ⟨Lc102, hQ102, l102, y102, z102⟩, st102⟩ := Jvm.LawKit.callS X101 hx (y := (⟨"java/lang/StringUTF16", "compress", "([CI[BII)I"⟩ : MethodName)) hown (mvT hZ (ow hw 83 rfl)) (mvT hZ (ow hw 84 rfl)) (mvT hZ (ow hw 81 rfl)) (mvT hZ (ow hw 85 rfl)) (by decide) (backOf (W := 0) (rmC2_2 l Z a0 hw [] a1 kc1 b101 k101 c0 c1 h101 n0 Zs101 fV_a1_101 V_b101 g_b101 ne_a1_b101 hl0 hl1) hZ (ow hw 85 rfl) (ow hw 81 rfl) (by decide) (by decide)) (g := (mkF m 9 #[rv a1, iv (0 : Int32), iv (2 : Int32), rv b101, .unset, .unset] [(.int (2 : Int32)), (.int (0 : Int32)), (.ref b101), (.int (0 : Int32)), (.ref a1)])) rfl (by rw [hml]; rfl) (argsL := [(.ref a1), (.int (0 : Int32)), (.ref b101), (.int (0 : Int32)), (.int (2 : Int32))]) (rest := []) (lenOf pd_6 rfl) rfl (by show 2 * 0 + _ ≤ _; exact Nat.le_of_eq rfl) (hb hby d13_9) (fun _ _ => ⟨rfl, e101, (by decide : 1 + 0 ≤ _), (by decide : 2 + 0 ≤ _)⟩)
  dsimp only [Pt.U, Pt.locs, Pt.cells, Pt.slots] at X102 l102 y102 z102 st102 hQ102
  rw [l102, y102, z102] at X102
  replace X102 : Stand p l e _ _ m _ below meth c T102 _ 1 2 := X102
  obtain ⟨rfl, N102q, K102q, va102⟩ := hQ102
  have N102 := Fr.app N0 N102q
  refine Go.via st102 ?_
  have Zs102 : n0 ≤ T102.heap.size := Nat.le_trans Zs101 K102q.1
  have K102 : Keep h0 T102.heap [] := K101.trans K102q (allS (Or.inr sz_b101) all0)
  have fV_a1_102 := fV_a1_101.keep K102q (ninS ne_a1_b101 nin0)
  refine Go.via (fun _ => XS.istore X102.here hx rfl (hb hby d13_12) rfl (l' := #[rv a1, iv (0 : Int32), iv (2 : Int32), rv b101, iv (2 : Int32), .unset]) rfl) ?_
  refine Go.via (fun _ => XS.iload X102.here hx rfl (hb hby d13_14) rfl) ?_
  show Go p e below _ (T102.setTop (mkF m 16 #[rv a1, iv (0 : Int32), iv (2 : Int32), rv b101, iv (2 : Int32), .unset] [(.int (2 : Int32))]))
  refine Go.via (fun _ => XS.iloadN X102.here hx rfl (hb hby d13_16) rfl) ?_
  refine Go.via (fun _ => XS.icmpYes X102.here hx rfl (pc0 := 17) (pc' := 57) rfl (hb hby d13_17) rfl (by decide) (by decide) (by decide)) ?_
  refine Go.via (fun _ => XS.aloadN X102.here hx rfl (hb hby d13_57) rfl rfl) ?_
  exact own_retA X102 hx hlk Bd.returns rfl rfl (hb hby d13_58) (by show QC1_2 Z a1 kc1 c0 c1 h0 n0 _ T102.heap _; exact ⟨b101, k101, rfl, N102, K102, sz_b101, va102⟩) (by decide) (by decide)
theorem ef_rmCL_2_2 (m : MethodId) (x0 : Addr) : entryFrame m #[(.ref x0), (.int (2 : Int32))] 2 = mkF m 0 #[rv x0, iv (2 : Int32)] [] := by first | (simp [entryFrame, mkF, argsToLocals, Value.category]; done) | rfl
def QCL_2_2 (Z : State) (b1 : Addr) (kc2 : ClassId) (vs : List Value) (h0 : Heap) (n0 : Nat) (v : Option Value) (h : Heap) (L : List Loc) : Prop := v = some (.int (0 : Int32)) ∧ Fr n0 L ∧ h = h0
set_option maxRecDepth 65536 in
set_option maxHeartbeats 40000000 in
theorem rmCL_2_2 (l : Launch) (Z : State) (a0 : Array Value) (hw : TW Z a0) (ws : List Jvm.Cond) (b1 : Addr) (kc2 : ClassId) (vs : List Value) (h0 : Heap) (n0 : Nat) (Z0 : n0 ≤ h0.size) (V2 : Arv Z h0 b1 kc2 .byte (2 : Int32) vs (.int (0 : Int32))) :
    MF l Z (⟨"java/lang/StringUTF16", "coderFromArrayLen", "([BI)B"⟩ : MethodName) jdk_52_method_15_code 2 (some .byte) ws (rmm 0 0 0 0) #[(.ref b1), (.int (2 : Int32))] h0 (QCL_2_2 Z b1 kc2 vs h0 n0) := by
  refine MetFree.of_bodySF (plainFor_of_name pn_java_lang_StringUTF16) hisR ?_
  intro p e s m args below meth c s₁ Bd hml0 hP hK
  obtain ⟨rfl, hZ, hh⟩ := hP
  have hx := Bd.exec
  have hby := Bd.bytes
  have hlk : meth.locks = false := Bd.notSynchronized
  have hml : c.maxLocals = 2 := hml0
  have hown : s.vm.findClass "java/lang/StringUTF16" = some m.cls := findClass_of_methodNamed Bd.named
  have hnm := (name_of_methodNamed Bd.named Bd.method).1
  have X0 : Stand p l e (rmm 0 0 0 0) s m #[(.ref b1), (.int (2 : Int32))] below meth c s₁ [] 0 0 := Stand.of_body Bd
  have e0 : s₁.heap = h0 := by rw [← hh, Bd.state]; rfl
  have N0 := Fr.nil n0
  show Go p e below (FinE s below (QCL_2_2 Z b1 kc2 vs h0 n0) (rmm 0 0 0 0).cells (rmm 0 0 0 0).slots) (s₁.setTop (entryFrame m #[(.ref b1), (.int (2 : Int32))] 2))
  refine Go.via (fun t k => castTop (ef_rmCL_2_2 m b1) k) ?_
  refine Go.via (fun _ => XS.iloadN X0.here hx rfl (hb hby d15_0) rfl) ?_
  refine Go.via (fun _ => XS.aloadN X0.here hx rfl (hb hby d15_1) rfl rfl) ?_
  obtain ⟨cl101, Ar101, -, S101, N101n, -, -⟩ := id V2
  have al101 := X0.arraylength hx (by rw [e0]; exact Ar101.1) (State.isArrayOf_alike hZ.alike Ar101.2.1) (g := (mkF m 2 #[rv b1, iv (2 : Int32)] [(.ref b1), (.int (2 : Int32))])) rfl rfl (hb hby d15_2)
  rw [len_of S101 N101n] at al101
  refine Go.via al101 ?_
  refine Go.via (fun _ => XS.isub X0.here hx rfl (hb hby d15_3) rfl) ?_
  refine Go.via (fun _ => XS.bipush X0.here hx rfl (hb hby d15_4)) ?_
  show Go p e below _ (s₁.setTop (mkF m 6 #[rv b1, iv (2 : Int32)] [(.int (31 : Int32)), (.int (0 : Int32))]))
  refine Go.via (fun _ => XS.iushr X0.here hx rfl (hb hby d15_6) rfl) ?_
  refine Go.via (fun _ => XS.i2b X0.here hx rfl (hb hby d15_7) rfl) ?_
  exact own_retN X0 hx hlk (t := .byte) Bd.returns (by simp) (hb hby d15_8) (by show QCL_2_2 Z b1 kc2 vs h0 n0 _ s₁.heap _; rw [e0]; exact ⟨rfl, N0, rfl⟩) (by decide) (by decide)
theorem ef_rmI4_2 (m : MethodId) (x0 : Addr) (x1 : Addr) : entryFrame m #[(.ref x0), (.ref x1), (.int (0 : Int32)), (.int (2 : Int32)), .null] 6 = mkF m 0 #[rv x0, rv x1, iv (0 : Int32), iv (2 : Int32), .val .null, .unset] [] := by first | (simp [entryFrame, mkF, argsToLocals, Value.category]; done) | rfl
def QI4_2 (Z : State) (a1 : Addr) (a2 : Addr) (kc1 : ClassId) (c0 : Int32) (c1 : Int32) (ccs : Int32) (h0 : Heap) (n0 : Nat) (v : Option Value) (h : Heap) (L : List Loc) : Prop := v = none ∧ Fr n0 L ∧ Keep h0 h [a1] ∧ ∃ (t : Addr) (kb : ClassId), h0.size ≤ t ∧ Fld Z h a1 "java/lang/String" "value" "[B" (.ref t) ∧ Fld Z h a1 "java/lang/String" "coder" "B" (.int (0 : Int32)) ∧ Arv Z h t kb .byte (2 : Int32) [(.int (nar .byte (c0.toInt8.toInt32))), (.int (nar .byte (c1.toInt8.toInt32)))] (.int (0 : Int32))
set_option maxRecDepth 65536 in
set_option maxHeartbeats 40000000 in
theorem rmI4_2 (l : Launch) (Z : State) (a0 : Array Value) (hw : TW Z a0) (ws : List Jvm.Cond) (a1 : Addr) (a2 : Addr) (kc1 : ClassId) (c0 : Int32) (c1 : Int32) (ccs : Int32) (h0 : Heap) (n0 : Nat) (Z0 : n0 ≤ h0.size) (E1 : Exa Z h0 a1 "java/lang/String") (F1 : Fld Z h0 a1 "java/lang/String" "value" "[B" .null) (F2 : Fld Z h0 a1 "java/lang/String" "coder" "B" (.int (0 : Int32))) (g1 : n0 ≤ a1) (ne1 : a1 ≠ a2) (V1 : Arv Z h0 a2 kc1 .char (2 : Int32) [(.int c0), (.int c1)] (.int (0 : Int32))) (hl0 : ¬ ((255 : Int32) < c0)) (hl1 : ¬ ((255 : Int32) < c1)) (O0 : Old Z n0 h0) (S_CS : Sta Z Z.heap "java/lang/String" "COMPACT_STRINGS" "Z" (.int ccs)) (hcs : ¬ (ccs = (0 : Int32))) :
    MF l Z (⟨"java/lang/String", "<init>", "([CIILjava/lang/Void;)V"⟩ : MethodName) jdk_42_method_149_code 6 none ws (rmm 2 1 2 35) #[(.ref a1), (.ref a2), (.int (0 : Int32)), (.int (2 : Int32)), .null] h0 (QI4_2 Z a1 a2 kc1 c0 c1 ccs h0 n0) := by
  refine MetFree.of_bodySF (plainFor_of_name pn_java_lang_String) hisR ?_
  intro p e s m args below meth c s₁ Bd hml0 hP hK
  obtain ⟨rfl, hZ, hh⟩ := hP
  have hx := Bd.exec
  have hby := Bd.bytes
  have hlk : meth.locks = false := Bd.notSynchronized
  have hml : c.maxLocals = 6 := hml0
  have hown : s.vm.findClass "java/lang/String" = some m.cls := findClass_of_methodNamed Bd.named
  have hnm := (name_of_methodNamed Bd.named Bd.method).1
  have X0 : Stand p l e (rmm 2 1 2 35) s m #[(.ref a1), (.ref a2), (.int (0 : Int32)), (.int (2 : Int32)), .null] below meth c s₁ [] 0 0 := Stand.of_body Bd
  have e0 : s₁.heap = h0 := by rw [← hh, Bd.state]; rfl
  have N0 := Fr.nil n0
  show Go p e below (FinE s below (QI4_2 Z a1 a2 kc1 c0 c1 ccs h0 n0) (rmm 2 1 2 35).cells (rmm 2 1 2 35).slots) (s₁.setTop (entryFrame m #[(.ref a1), (.ref a2), (.int (0 : Int32)), (.int (2 : Int32)), .null] 6))
  refine Go.via (fun t k => castTop (ef_rmI4_2 m a1 a2) k) ?_
  refine Go.via (fun _ => XS.aloadN X0.here hx rfl (hb hby d12_0) rfl rfl) ?_
  obtain ⟨T101, X101, e101, st101⟩ := initO X0 hx hZ hown (ow hw 77 rfl) (ow hw 43 rfl) (ow hw 44 rfl) e0 (g := (mkF m 1 #[rv a1, rv a2, iv (0 : Int32), iv (2 : Int32), .val .null, .unset] [(.ref a1)])) rfl (by rw [hml]; rfl) rfl (hb hby d12_1) (by decide) (W := 0) (by show 2 * 0 + _ ≤ _; exact Nat.le_of_eq rfl) (by decide)
  refine Go.via st101 ?_
  refine Go.via (fun _ => XS.iloadN X101.here hx rfl (hb hby d12_4) rfl) ?_
  refine Go.via (fun _ => XS.ifYes X101.here hx rfl (pc0 := 5) (pc' := 27) rfl (hb hby d12_5) rfl (by decide) (by decide) (by decide)) ?_
  obtain ⟨T102, X102, e102, st102⟩ := getS2 X101 hx hZ hown (host := "") (Or.inl (ow hw 78 rfl)) Via.refl e101 (S_CS.ext O0.2) (g := (mkF m 27 #[rv a1, rv a2, iv (0 : Int32), iv (2 : Int32), .val .null, .unset] [])) rfl (hb hby d12_27)
  refine Go.via st102 ?_
  show Go p e below _ (T102.setTop (mkF m 30 #[rv a1, rv a2, iv (0 : Int32), iv (2 : Int32), .val .null, .unset] [(.int ccs)]))
  refine Go.via (fun _ => XS.ifNo X102.here hx rfl (hb hby d12_30) rfl ((if0 _ _).trans (feq hcs).1)) ?_
  refine Go.via (fun _ => XS.aloadN X102.here hx rfl (hb hby d12_33) rfl rfl) ?_
  refine Go.via (fun _ => XS.iloadN X102.here hx rfl (hb hby d12_34) rfl) ?_
  refine Go.via (fun _ => XS.iloadN X102.here hx rfl (hb hby d12_35) rfl) ?_
  obtain ⟨_, _, ⟨T103, L103, k103, n103⟩, -, X103, ⟨Lc103, hQ103, l103, y103, z103⟩, st103⟩ := Jvm.LawKit.callS X102 hx (y := (⟨"java/lang/StringUTF16", "compress", "([CII)[B"⟩ : MethodName)) hown (mvT hZ (ow hw 79 rfl)) (mvT hZ (ow hw 80 rfl)) (mvT hZ (ow hw 81 rfl)) (mvT hZ (ow hw 82 rfl)) (by decide) (backOf (W := 0) (rmC1_2 l Z a0 hw [] a2 kc1 c0 c1 h0 n0 Z0 V1 hl0 hl1) hZ (ow hw 82 rfl) (ow hw 81 rfl) (by decide) (by decide)) (g := (mkF m 36 #[rv a1, rv a2, iv (0 : Int32), iv (2 : Int32), .val .null, .unset] [(.int (2 : Int32)), (.int (0 : Int32)), (.ref a2)])) rfl (by rw [hml]; rfl) (argsL := [(.ref a2), (.int (0 : Int32)), (.int (2 : Int32))]) (rest := []) (lenOf pd_7 rfl) rfl (by show 2 * 0 + _ ≤ _; exact Nat.le_of_eq rfl) (hb hby d12_36) (fun _ _ => ⟨rfl, e102, (by decide : 0 + 1 ≤ _), (by decide : 0 + 2 ≤ _)⟩)
  dsimp only [Pt.U, Pt.locs, Pt.cells, Pt.slots] at X103 l103 y103 z103 st103 hQ103
  rw [l103, y103, z103] at X103
  replace X103 : Stand p l e _ _ m _ below meth c T103 _ 1 2 := X103
  obtain ⟨t103, kb103, rfl, N103q, K103q, gt103, va103⟩ := hQ103
  have N103 := Fr.app N0 N103q
  refine Go.via st103 ?_
  have Zs103 : n0 ≤ T103.heap.size := Nat.le_trans Z0 K103q.1
  have O103 : Old Z n0 T103.heap := O0.keep K103q all0
  have K103 : Keep h0 T103.heap [a1] := (Keep.refl h0 [a1]).trans K103q all0
  have fE_a1_103 := E1.keep K103q
  have fF_a1_value_103 := F1.keep K103q nin0
  have fF_a1_coder_103 := F2.keep K103q nin0
  have fV_a2_103 := V1.keep K103q nin0
  have g_t103 : n0 ≤ t103 := Nat.le_trans Z0 gt103
  have ne_a1_t103 : a1 ≠ t103 := Nat.ne_of_lt (Nat.lt_of_lt_of_le E1.lt gt103)
  have ne_a2_t103 : a2 ≠ t103 := Nat.ne_of_lt (Nat.lt_of_lt_of_le V1.lt gt103)
  have sz_t103 : h0.size ≤ t103 := Nat.le_trans (Keep.refl h0 [a1]).1 gt103
  refine Go.via (fun _ => XS.astore X103.here hx rfl (hb hby d12_39) rfl rfl (l' := #[rv a1, rv a2, iv (0 : Int32), iv (2 : Int32), .val .null, rv t103]) rfl) ?_
  show Go p e below _ (T103.setTop (mkF m 41 #[rv a1, rv a2, iv (0 : Int32), iv (2 : Int32), .val .null, rv t103] []))
  refine Go.via (fun _ => XS.aloadN X103.here hx rfl (hb hby d12_41) rfl rfl) ?_
  refine Go.via (fun _ => XS.aload X103.here hx rfl (hb hby d12_42) rfl rfl) ?_
  refine Go.via (fun _ => XS.iloadN X103.here hx rfl (hb hby d12_44) rfl) ?_
  obtain ⟨_, _, ⟨T104, L104, k104, n104⟩, -, X104, ⟨Lc104, hQ104, l104, y104, z104⟩, st104⟩ := Jvm.LawKit.callS X103 hx (y := (⟨"java/lang/StringUTF16", "coderFromArrayLen", "([BI)B"⟩ : MethodName)) hown (mvT hZ (ow hw 86 rfl)) (mvT hZ (ow hw 87 rfl)) (mvT hZ (ow hw 81 rfl)) (mvT hZ (ow hw 88 rfl)) (by decide) (backOf (W := 1) (rmCL_2_2 l Z a0 hw [] t103 kb103 _ T103.heap n0 Zs103 va103) hZ (ow hw 88 rfl) (ow hw 81 rfl) (by decide) (by decide)) (g := (mkF m 45 #[rv a1, rv a2, iv (0 : Int32), iv (2 : Int32), .val .null, rv t103] [(.int (2 : Int32)), (.ref t103), (.ref a1)])) rfl (by rw [hml]; rfl) (argsL := [(.ref t103), (.int (2 : Int32))]) (rest := [(.ref a1)]) (lenOf pd_8 rfl) rfl (by show 2 * 0 + _ ≤ _; exact Nat.le_of_eq rfl) (hb hby d12_45) (fun _ _ => ⟨rfl, rfl, (by decide : 1 + 0 ≤ _), (by decide : 2 + 0 ≤ _)⟩)
  dsimp only [Pt.U, Pt.locs, Pt.cells, Pt.slots] at X104 l104 y104 z104 st104 hQ104
  rw [l104, y104, z104] at X104
  replace X104 : Stand p l e _ _ m _ below meth c T104 _ 1 2 := X104
  obtain ⟨rfl, N104q, e104q⟩ := hQ104
  have N104 := Fr.app N103 N104q
  refine Go.via st104 ?_
  obtain ⟨T105, h105, X105, e105, W105, st105⟩ := putFN X104 hx hZ hown (ow hw 89 rfl) Via.refl e104q fF_a1_coder_103 fE_a1_103 (Or.inr ⟨(ow hw 16 rfl), rfl, hnm⟩) (ow hw 13 rfl) (ty := .byte) (v' := .int (nar .byte (0 : Int32))) (by decide) rfl (fits_nar_byte _) (g := (mkF m 48 #[rv a1, rv a2, iv (0 : Int32), iv (2 : Int32), .val .null, rv t103] [(.int (0 : Int32)), (.ref a1)])) rfl rfl (hb hby d12_48)
  refine Go.via st105 ?_
  have fF_a1_coder_105 : Fld Z h105 a1 "java/lang/String" "coder" "B" (.int (0 : Int32)) := fF_a1_coder_103.same W105
  have Zs105 : n0 ≤ h105.size := Nat.le_trans Zs103 (Keep.of_wr W105).1
  have O105 : Old Z n0 h105 := O103.wr W105 g1
  have K105 : Keep h0 h105 [a1] := K103.wr W105 (Or.inl (List.mem_of_getElem? (i := 0) rfl))
  have N105 := Fr.snoc X105 N104 g1
  have fE_a1_105 := fE_a1_103.wr W105
  have fF_a1_value_105 := fF_a1_value_103.other W105 (Or.inr (slot_ne (Or.inr (ow hw 15 rfl)) (Or.inr (ow hw 16 rfl)) (by decide) (t := (.array .byte)) (t' := .byte) (by decide) (by decide)))
  have fV_a2_105 := fV_a2_103.other W105 (Ne.symm ne1)
  have fV_t103_105 := va103.other W105 (Ne.symm ne_a1_t103)
  refine Go.via (fun _ => XS.aloadN X105.here hx rfl (hb hby d12_51) rfl rfl) ?_
  show Go p e below _ (T105.setTop (mkF m 52 #[rv a1, rv a2, iv (0 : Int32), iv (2 : Int32), .val .null, rv t103] [(.ref a1)]))
  refine Go.via (fun _ => XS.aload X105.here hx rfl (hb hby d12_52) rfl rfl) ?_
  obtain ⟨T106, h106, X106, e106, W106, st106⟩ := putF X105 hx hZ hown (host := "") (Or.inl (ow hw 90 rfl)) Via.refl e105 fF_a1_value_105 fE_a1_105 (Or.inr ⟨(ow hw 15 rfl), rfl, hnm⟩) (ow hw 13 rfl) (ty := (.array .byte)) (by decide) rfl rfl (g := (mkF m 54 #[rv a1, rv a2, iv (0 : Int32), iv (2 : Int32), .val .null, rv t103] [(.ref t103), (.ref a1)])) rfl rfl (hb hby d12_54)
  refine Go.via st106 ?_
  have fF_a1_value_106 : Fld Z h106 a1 "java/lang/String" "value" "[B" (.ref t103) := fF_a1_value_105.same W106
  have Zs106 : n0 ≤ h106.size := Nat.le_trans Zs105 (Keep.of_wr W106).1
  have O106 : Old Z n0 h106 := O105.wr W106 g1
  have K106 : Keep h0 h106 [a1] := K105.wr W106 (Or.inl (List.mem_of_getElem? (i := 0) rfl))
  have N106 := Fr.snoc X106 N105 g1
  have fE_a1_106 := fE_a1_105.wr W106
  have fF_a1_coder_106 := fF_a1_coder_105.other W106 (Or.inr (slot_ne (Or.inr (ow hw 16 rfl)) (Or.inr (ow hw 15 rfl)) (by decide) (t := .byte) (t' := (.array .byte)) (by decide) (by decide)))
  have fV_a2_106 := fV_a2_105.other W106 (Ne.symm ne1)
  have fV_t103_106 := fV_t103_105.other W106 (Ne.symm ne_a1_t103)
  exact own_retV X106 hx hlk Bd.returns (hb hby d12_57) (by show QI4_2 Z a1 a2 kc1 c0 c1 ccs h0 n0 _ T106.heap _; rw [e106]; exact ⟨rfl, N106, K106, t103, kb103, sz_t103, fF_a1_value_106, fF_a1_coder_106, fV_t103_106⟩) (by decide) (by decide)
theorem ef_rmI1_2 (m : MethodId) (x0 : Addr) (x1 : Addr) : entryFrame m #[(.ref x0), (.ref x1)] 2 = mkF m 0 #[rv x0, rv x1] [] := by first | (simp [entryFrame, mkF, argsToLocals, Value.category]; done) | rfl
def QI1_2 (Z : State) (a1 : Addr) (a2 : Addr) (kc1 : ClassId) (c0 : Int32) (c1 : Int32) (ccs : Int32) (h0 : Heap) (n0 : Nat) (v : Option Value) (h : Heap) (L : List Loc) : Prop := v = none ∧ Fr n0 L ∧ Keep h0 h [a1] ∧ ∃ (t : Addr) (kb : ClassId), h0.size ≤ t ∧ Fld Z h a1 "java/lang/String" "value" "[B" (.ref t) ∧ Fld Z h a1 "java/lang/String" "coder" "B" (.int (0 : Int32)) ∧ Arv Z h t kb .byte (2 : Int32) [(.int (nar .byte (c0.toInt8.toInt32))), (.int (nar .byte (c1.toInt8.toInt32)))] (.int (0 : Int32))
set_option maxRecDepth 65536 in
set_option maxHeartbeats 40000000 in
theorem rmI1_2 (l : Launch) (Z : State) (a0 : Array Value) (hw : TW Z a0) (ws : List Jvm.Cond) (a1 : Addr) (a2 : Addr) (kc1 : ClassId) (c0 : Int32) (c1 : Int32) (ccs : Int32) (h0 : Heap) (n0 : Nat) (Z0 : n0 ≤ h0.size) (E1 : Exa Z h0 a1 "java/lang/String") (F1 : Fld Z h0 a1 "java/lang/String" "value" "[B" .null) (F2 : Fld Z h0 a1 "java/lang/String" "coder" "B" (.int (0 : Int32))) (g1 : n0 ≤ a1) (ne1 : a1 ≠ a2) (V1 : Arv Z h0 a2 kc1 .char (2 : Int32) [(.int c0), (.int c1)] (.int (0 : Int32))) (hl0 : ¬ ((255 : Int32) < c0)) (hl1 : ¬ ((255 : Int32) < c1)) (O0 : Old Z n0 h0) (S_CS : Sta Z Z.heap "java/lang/String" "COMPACT_STRINGS" "Z" (.int ccs)) (hcs : ¬ (ccs = (0 : Int32))) :
    MF l Z (⟨"java/lang/String", "<init>", "([C)V"⟩ : MethodName) jdk_42_method_3_code 2 none ws (rmm 3 1 2 52) #[(.ref a1), (.ref a2)] h0 (QI1_2 Z a1 a2 kc1 c0 c1 ccs h0 n0) := by
  refine MetFree.of_bodySF (plainFor_of_name pn_java_lang_String) hisR ?_
  intro p e s m args below meth c s₁ Bd hml0 hP hK
  obtain ⟨rfl, hZ, hh⟩ := hP
  have hx := Bd.exec
  have hby := Bd.bytes
  have hlk : meth.locks = false := Bd.notSynchronized
  have hml : c.maxLocals = 2 := hml0
  have hown : s.vm.findClass "java/lang/String" = some m.cls := findClass_of_methodNamed Bd.named
  have hnm := (name_of_methodNamed Bd.named Bd.method).1
  have X0 : Stand p l e (rmm 3 1 2 52) s m #[(.ref a1), (.ref a2)] below meth c s₁ [] 0 0 := Stand.of_body Bd
  have e0 : s₁.heap = h0 := by rw [← hh, Bd.state]; rfl
  have N0 := Fr.nil n0
  show Go p e below (FinE s below (QI1_2 Z a1 a2 kc1 c0 c1 ccs h0 n0) (rmm 3 1 2 52).cells (rmm 3 1 2 52).slots) (s₁.setTop (entryFrame m #[(.ref a1), (.ref a2)] 2))
  refine Go.via (fun t k => castTop (ef_rmI1_2 m a1 a2) k) ?_
  refine Go.via (fun _ => XS.aloadN X0.here hx rfl (hb hby d11_0) rfl rfl) ?_
  refine Go.via (fun _ => XS.aloadN X0.here hx rfl (hb hby d11_1) rfl rfl) ?_
  refine Go.via (fun _ => XS.iconst X0.here hx rfl (hb hby d11_2)) ?_
  refine Go.via (fun _ => XS.aloadN X0.here hx rfl (hb hby d11_3) rfl rfl) ?_
  obtain ⟨cl101, Ar101, -, S101, N101n, -, -⟩ := id V1
  have al101 := X0.arraylength hx (by rw [e0]; exact Ar101.1) (State.isArrayOf_alike hZ.alike Ar101.2.1) (g := (mkF m 4 #[rv a1, rv a2] [(.ref a2), (.int (0 : Int32)), (.ref a2), (.ref a1)])) rfl rfl (hb hby d11_4)
  rw [len_of S101 N101n] at al101
  refine Go.via al101 ?_
  show Go p e below _ (s₁.setTop (mkF m 5 #[rv a1, rv a2] [(.int (2 : Int32)), (.int (0 : Int32)), (.ref a2), (.ref a1)]))
  refine Go.via (fun _ => XS.aconstNull X0.here hx rfl (hb hby d11_5)) ?_
  obtain ⟨_, _, ⟨T102, L102, k102, n102⟩, -, X102, ⟨Lc102, hQ102, l102, y102, z102⟩, st102⟩ := X0.specialBack hx (y := (⟨"java/lang/String", "<init>", "([CIILjava/lang/Void;)V"⟩ : MethodName)) rfl hown (mvT hZ (ow hw 73 rfl)) (mvT hZ (ow hw 74 rfl)) (mvT hZ (ow hw 76 rfl)) (by decide) (backOf (W := 0) (rmI4_2 l Z a0 hw [] a1 a2 kc1 c0 c1 ccs h0 n0 Z0 E1 F1 F2 g1 ne1 V1 hl0 hl1 O0 S_CS hcs) hZ (ow hw 76 rfl) (ow hw 12 rfl) (by decide) (by decide)) (g := (mkF m 6 #[rv a1, rv a2] [.null, (.int (2 : Int32)), (.int (0 : Int32)), (.ref a2), (.ref a1)])) rfl (by rw [hml]; rfl) (Steps.refl _) (a := a1) (argsL := [(.ref a2), (.int (0 : Int32)), (.int (2 : Int32)), .null]) (rest := []) (lenOf pd_5 rfl) rfl (by show 2 * 0 + _ ≤ _; exact Nat.le_of_eq rfl) (hb hby d11_6) (fun _ _ => ⟨rfl, e0, (by decide : 0 + 1 ≤ _), (by decide : 0 + 2 ≤ _)⟩)
  dsimp only [Pt.U, Pt.locs, Pt.cells, Pt.slots] at X102 l102 y102 z102 st102 hQ102
  rw [l102, y102, z102] at X102
  replace X102 : Stand p l e _ _ m _ below meth c T102 _ 1 2 := X102
  obtain ⟨rfl, N102q, K102q, t102, kb102, gt102, fv102, fc102, va102⟩ := hQ102
  have N102 := Fr.app N0 N102q
  refine Go.tr st102 ?_
  have Zs102 : n0 ≤ T102.heap.size := Nat.le_trans Z0 K102q.1
  have O102 : Old Z n0 T102.heap := O0.keep K102q (allS g1 all0)
  have fE_a1_102 := E1.keep K102q
  have fV_a2_102 := V1.keep K102q (ninS (Ne.symm ne1) nin0)
  exact own_retV X102 hx hlk Bd.returns (hb hby d11_9) (by show QI1_2 Z a1 a2 kc1 c0 c1 ccs h0 n0 _ T102.heap _; exact ⟨rfl, N102, K102q, t102, kb102, gt102, fv102, fc102, va102⟩) (by decide) (by decide)
theorem ef_rmC2_3 (m : MethodId) (x0 : Addr) (x2 : Addr) : entryFrame m #[(.ref x0), (.int (0 : Int32)), (.ref x2), (.int (0 : Int32)), (.int (3 : Int32))] 7 = mkF m 0 #[rv x0, iv (0 : Int32), rv x2, iv (0 : Int32), iv (3 : Int32), .unset, .unset] [] := by first | (simp [entryFrame, mkF, argsToLocals, Value.category]; done) | rfl
def QC2_3 (Z : State) (a1 : Addr) (kc1 : ClassId) (b1 : Addr) (kc2 : ClassId) (c0 : Int32) (c1 : Int32) (c2 : Int32) (h0 : Heap) (n0 : Nat) (v : Option Value) (h : Heap) (L : List Loc) : Prop := v = some (.int (3 : Int32)) ∧ Fr n0 L ∧ Keep h0 h [b1] ∧ Arv Z h b1 kc2 .byte (3 : Int32) [(.int (nar .byte (c0.toInt8.toInt32))), (.int (nar .byte (c1.toInt8.toInt32))), (.int (nar .byte (c2.toInt8.toInt32)))] (.int (0 : Int32))
set_option maxRecDepth 65536 in
set_option maxHeartbeats 40000000 in
theorem rmC2_3 (l : Launch) (Z : State) (a0 : Array Value) (hw : TW Z a0) (ws : List Jvm.Cond) (a1 : Addr) (kc1 : ClassId) (b1 : Addr) (kc2 : ClassId) (c0 : Int32) (c1 : Int32) (c2 : Int32) (h0 : Heap) (n0 : Nat) (Z0 : n0 ≤ h0.size) (V1 : Arv Z h0 a1 kc1 .char (3 : Int32) [(.int c0), (.int c1), (.int c2)] (.int (0 : Int32))) (V2 : Arv Z h0 b1 kc2 .byte (3 : Int32) [(.int (0 : Int32)), (.int (0 : Int32)), (.int (0 : Int32))] (.int (0 : Int32))) (g1 : n0 ≤ b1) (ne1 : a1 ≠ b1) (hl0 : ¬ ((255 : Int32) < c0)) (hl1 : ¬ ((255 : Int32) < c1)) (hl2 : ¬ ((255 : Int32) < c2)) :
    MF l Z (⟨"java/lang/StringUTF16", "compress", "([CI[BII)I"⟩ : MethodName) jdk_52_method_21_code 7 (some .int) ws (rmm 0 0 0 0) #[(.ref a1), (.int (0 : Int32)), (.ref b1), (.int (0 : Int32)), (.int (3 : Int32))] h0 (QC2_3 Z a1 kc1 b1 kc2 c0 c1 c2 h0 n0) := by
  refine MetFree.of_bodySF (plainFor_of_name pn_java_lang_StringUTF16) hisR ?_
  intro p e s m args below meth c s₁ Bd hml0 hP hK
  obtain ⟨rfl, hZ, hh⟩ := hP
  have hx := Bd.exec
  have hby := Bd.bytes
  have hlk : meth.locks = false := Bd.notSynchronized
  have hml : c.maxLocals = 7 := hml0
  have hown : s.vm.findClass "java/lang/StringUTF16" = some m.cls := findClass_of_methodNamed Bd.named
  have hnm := (name_of_methodNamed Bd.named Bd.method).1
  have X0 : Stand p l e (rmm 0 0 0 0) s m #[(.ref a1), (.int (0 : Int32)), (.ref b1), (.int (0 : Int32)), (.int (3 : Int32))] below meth c s₁ [] 0 0 := Stand.of_body Bd
  have e0 : s₁.heap = h0 := by rw [← hh, Bd.state]; rfl
  have N0 := Fr.nil n0
  show Go p e below (FinE s below (QC2_3 Z a1 kc1 b1 kc2 c0 c1 c2 h0 n0) (rmm 0 0 0 0).cells (rmm 0 0 0 0).slots) (s₁.setTop (entryFrame m #[(.ref a1), (.int (0 : Int32)), (.ref b1), (.int (0 : Int32)), (.int (3 : Int32))] 7))
  refine Go.via (fun t k => castTop (ef_rmC2_3 m a1 b1) k) ?_
  refine Go.via (fun _ => XS.iconst X0.here hx rfl (hb hby d14_0)) ?_
  refine Go.via (fun _ => XS.istore X0.here hx rfl (hb hby d14_1) rfl (l' := #[rv a1, iv (0 : Int32), rv b1, iv (0 : Int32), iv (3 : Int32), iv (0 : Int32), .unset]) rfl) ?_
  refine Go.via (fun _ => XS.iload X0.here hx rfl (hb hby d14_3) rfl) ?_
  refine Go.via (fun _ => XS.iload X0.here hx rfl (hb hby d14_5) rfl) ?_
  refine Go.via (fun _ => XS.icmpNo X0.here hx rfl (hb hby d14_7) rfl (by decide)) ?_
  show Go p e below _ (s₁.setTop (mkF m 10 #[rv a1, iv (0 : Int32), rv b1, iv (0 : Int32), iv (3 : Int32), iv (0 : Int32), .unset] []))
  refine Go.via (fun _ => XS.aloadN X0.here hx rfl (hb hby d14_10) rfl rfl) ?_
  refine Go.via (fun _ => XS.iloadN X0.here hx rfl (hb hby d14_11) rfl) ?_
  obtain ⟨cl101, Ar101, q101, S101, N101n, H101, G101⟩ := id V1
  have hin101 := inb_of (j := (0 : Int32)) S101 (by decide)
  have hat101 : cl101.slots[((0 : Int32) : Int32).toNatClampNeg]? = some (.int c0) := H101.at hin101 rfl
  refine Go.via (X0.caload hx (j := (0 : Int32)) (v := (.int c0)) (by rw [e0]; exact Ar101.1) (State.isArrayOf_alike hZ.alike Ar101.2.1) Ar101.2.2 hin101 hat101 (g := (mkF m 12 #[rv a1, iv (0 : Int32), rv b1, iv (0 : Int32), iv (3 : Int32), iv (0 : Int32), .unset] [(.int (0 : Int32)), (.ref a1)])) rfl rfl (hb hby d14_12)) ?_
  refine Go.via (fun _ => XS.istore X0.here hx rfl (hb hby d14_13) rfl (l' := #[rv a1, iv (0 : Int32), rv b1, iv (0 : Int32), iv (3 : Int32), iv (0 : Int32), iv c0]) rfl) ?_
  refine Go.via (fun _ => XS.iload X0.here hx rfl (hb hby d14_15) rfl) ?_
  refine Go.via (fun _ => XS.sipush X0.here hx rfl (hb hby d14_17)) ?_
  show Go p e below _ (s₁.setTop (mkF m 20 #[rv a1, iv (0 : Int32), rv b1, iv (0 : Int32), iv (3 : Int32), iv (0 : Int32), iv c0] [(.int (255 : Int32)), (.int c0)]))
  refine Go.via (fun _ => XS.icmpYes X0.here hx rfl (pc0 := 20) (pc' := 26) rfl (hb hby d14_20) rfl (flt hl0).2.2.2 (by decide) (by decide)) ?_
  refine Go.via (fun _ => XS.aloadN X0.here hx rfl (hb hby d14_26) rfl rfl) ?_
  refine Go.via (fun _ => XS.iloadN X0.here hx rfl (hb hby d14_27) rfl) ?_
  refine Go.via (fun _ => XS.iload X0.here hx rfl (hb hby d14_28) rfl) ?_
  refine Go.via (fun _ => XS.i2b X0.here hx rfl (hb hby d14_30) rfl) ?_
  obtain ⟨cl102, Ar102, q102, S102, N102n, H102, G102⟩ := id V2
  have hin102 := inb_of (j := (0 : Int32)) S102 (by decide)
  obtain ⟨T102, h102, X102, e102, W102, st102⟩ := stB X0 hx hZ e0 Ar102 (j := (0 : Int32)) hin102 (g := (mkF m 31 #[rv a1, iv (0 : Int32), rv b1, iv (0 : Int32), iv (3 : Int32), iv (0 : Int32), iv c0] [(.int (c0.toInt8.toInt32)), (.int (0 : Int32)), (.ref b1)])) rfl rfl (hb hby d14_31)
  refine Go.via st102 ?_
  have V102 : Arv Z h102 b1 kc2 .byte (3 : Int32) [(.int (nar .byte (c0.toInt8.toInt32))), (.int (0 : Int32)), (.int (0 : Int32))] (.int (0 : Int32)) := Arv.set Ar102 q102 S102 N102n H102 G102 (fits_nar_byte _) W102 0 rfl (Nat.le_of_ble_eq_true rfl)
  have Zs102 : n0 ≤ h102.size := Nat.le_trans Z0 (Keep.of_wr W102).1
  have K102 : Keep h0 h102 [b1] := (Keep.refl h0 [b1]).wr W102 (Or.inl (List.mem_of_getElem? (i := 0) rfl))
  have N102 := Fr.snoc X102 N0 g1
  have fV_a1_102 := V1.other W102 ne1
  show Go p e below _ (T102.setTop (mkF m 32 #[rv a1, iv (0 : Int32), rv b1, iv (0 : Int32), iv (3 : Int32), iv (0 : Int32), iv c0] []))
  refine Go.via (fun _ => XS.iinc X102.here hx rfl (hb hby d14_32) rfl (l' := #[rv a1, iv (1 : Int32), rv b1, iv (0 : Int32), iv (3 : Int32), iv (0 : Int32), iv c0]) rfl) ?_
  refine Go.via (fun _ => XS.iinc X102.here hx rfl (hb hby d14_35) rfl (l' := #[rv a1, iv (1 : Int32), rv b1, iv (1 : Int32), iv (3 : Int32), iv (0 : Int32), iv c0]) rfl) ?_
  refine Go.via (fun _ => XS.iinc X102.here hx rfl (hb hby d14_38) rfl (l' := #[rv a1, iv (1 : Int32), rv b1, iv (1 : Int32), iv (3 : Int32), iv (1 : Int32), iv c0]) rfl) ?_
  refine Go.via (fun _ => XS.goto X102.here hx rfl (pc0 := 41) (pc' := 3) rfl (hb hby d14_41) (by decide) (by decide)) ?_
  refine Go.via (fun _ => XS.iload X102.here hx rfl (hb hby d14_3) rfl) ?_
  refine Go.via (fun _ => XS.iload X102.here hx rfl (hb hby d14_5) rfl) ?_
  show Go p e below _ (T102.setTop (mkF m 7 #[rv a1, iv (1 : Int32), rv b1, iv (1 : Int32), iv (3 : Int32), iv (1 : Int32), iv c0] [(.int (3 : Int32)), (.int (1 : Int32))]))
  refine Go.via (fun _ => XS.icmpNo X102.here hx rfl (hb hby d14_7) rfl (by decide)) ?_
  refine Go.via (fun _ => XS.aloadN X102.here hx rfl (hb hby d14_10) rfl rfl) ?_
  refine Go.via (fun _ => XS.iloadN X102.here hx rfl (hb hby d14_11) rfl) ?_
  obtain ⟨cl103, Ar103, q103, S103, N103n, H103, G103⟩ := id fV_a1_102
  have hin103 := inb_of (j := (1 : Int32)) S103 (by decide)
  have hat103 : cl103.slots[((1 : Int32) : Int32).toNatClampNeg]? = some (.int c1) := H103.at hin103 rfl
  refine Go.via (X102.caload hx (j := (1 : Int32)) (v := (.int c1)) (by rw [e102]; exact Ar103.1) (State.isArrayOf_alike hZ.alike Ar103.2.1) Ar103.2.2 hin103 hat103 (g := (mkF m 12 #[rv a1, iv (1 : Int32), rv b1, iv (1 : Int32), iv (3 : Int32), iv (1 : Int32), iv c0] [(.int (1 : Int32)), (.ref a1)])) rfl rfl (hb hby d14_12)) ?_
  refine Go.via (fun _ => XS.istore X102.here hx rfl (hb hby d14_13) rfl (l' := #[rv a1, iv (1 : Int32), rv b1, iv (1 : Int32), iv (3 : Int32), iv (1 : Int32), iv c1]) rfl) ?_
  refine Go.via (fun _ => XS.iload X102.here hx rfl (hb hby d14_15) rfl) ?_
  show Go p e below _ (T102.setTop (mkF m 17 #[rv a1, iv (1 : Int32), rv b1, iv (1 : Int32), iv (3 : Int32), iv (1 : Int32), iv c1] [(.int c1)]))
  refine Go.via (fun _ => XS.sipush X102.here hx rfl (hb hby d14_17)) ?_
  refine Go.via (fun _ => XS.icmpYes X102.here hx rfl (pc0 := 20) (pc' := 26) rfl (hb hby d14_20) rfl (flt hl1).2.2.2 (by decide) (by decide)) ?_
  refine Go.via (fun _ => XS.aloadN X102.here hx rfl (hb hby d14_26) rfl rfl) ?_
  refine Go.via (fun _ => XS.iloadN X102.here hx rfl (hb hby d14_27) rfl) ?_
  refine Go.via (fun _ => XS.iload X102.here hx rfl (hb hby d14_28) rfl) ?_
  refine Go.via (fun _ => XS.i2b X102.here hx rfl (hb hby d14_30) rfl) ?_
  show Go p e below _ (T102.setTop (mkF m 31 #[rv a1, iv (1 : Int32), rv b1, iv (1 : Int32), iv (3 : Int32), iv (1 : Int32), iv c1] [(.int (c1.toInt8.toInt32)), (.int (1 : Int32)), (.ref b1)]))
  obtain ⟨cl104, Ar104, q104, S104, N104n, H104, G104⟩ := id V102
  have hin104 := inb_of (j := (1 : Int32)) S104 (by decide)
  obtain ⟨T104, h104, X104, e104, W104, st104⟩ := stB X102 hx hZ e102 Ar104 (j := (1 : Int32)) hin104 (g := (mkF m 31 #[rv a1, iv (1 : Int32), rv b1, iv (1 : Int32), iv (3 : Int32), iv (1 : Int32), iv c1] [(.int (c1.toInt8.toInt32)), (.int (1 : Int32)), (.ref b1)])) rfl rfl (hb hby d14_31)
  refine Go.via st104 ?_
  have V104 : Arv Z h104 b1 kc2 .byte (3 : Int32) [(.int (nar .byte (c0.toInt8.toInt32))), (.int (nar .byte (c1.toInt8.toInt32))), (.int (0 : Int32))] (.int (0 : Int32)) := Arv.set Ar104 q104 S104 N104n H104 G104 (fits_nar_byte _) W104 1 rfl (Nat.le_of_ble_eq_true rfl)
  have Zs104 : n0 ≤ h104.size := Nat.le_trans Zs102 (Keep.of_wr W104).1
  have K104 : Keep h0 h104 [b1] := K102.wr W104 (Or.inl (List.mem_of_getElem? (i := 0) rfl))
  have N104 := Fr.snoc X104 N102 g1
  have fV_a1_104 := fV_a1_102.other W104 ne1
  refine Go.via (fun _ => XS.iinc X104.here hx rfl (hb hby d14_32) rfl (l' := #[rv a1, iv (2 : Int32), rv b1, iv (1 : Int32), iv (3 : Int32), iv (1 : Int32), iv c1]) rfl) ?_
  refine Go.via (fun _ => XS.iinc X104.here hx rfl (hb hby d14_35) rfl (l' := #[rv a1, iv (2 : Int32), rv b1, iv (2 : Int32), iv (3 : Int32), iv (1 : Int32), iv c1]) rfl) ?_
  refine Go.via (fun _ => XS.iinc X104.here hx rfl (hb hby d14_38) rfl (l' := #[rv a1, iv (2 : Int32), rv b1, iv (2 : Int32), iv (3 : Int32), iv (2 : Int32), iv c1]) rfl) ?_
  refine Go.via (fun _ => XS.goto X104.here hx rfl (pc0 := 41) (pc' := 3) rfl (hb hby d14_41) (by decide) (by decide)) ?_
  refine Go.via (fun _ => XS.iload X104.here hx rfl (hb hby d14_3) rfl) ?_
  show Go p e below _ (T104.setTop (mkF m 5 #[rv a1, iv (2 : Int32), rv b1, iv (2 : Int32), iv (3 : Int32), iv (2 : Int32), iv c1] [(.int (2 : Int32))]))
  refine Go.via (fun _ => XS.iload X104.here hx rfl (hb hby d14_5) rfl) ?_
  refine Go.via (fun _ => XS.icmpNo X104.here hx rfl (hb hby d14_7) rfl (by decide)) ?_
  refine Go.via (fun _ => XS.aloadN X104.here hx rfl (hb hby d14_10) rfl rfl) ?_
  refine Go.via (fun _ => XS.iloadN X104.here hx rfl (hb hby d14_11) rfl) ?_
  obtain ⟨cl105, Ar105, q105, S105, N105n, H105, G105⟩ := id fV_a1_104
  have hin105 := inb_of (j := (2 : Int32)) S105 (by decide)
  have hat105 : cl105.slots[((2 : Int32) : Int32).toNatClampNeg]? = some (.int c2) := H105.at hin105 rfl
  refine Go.via (X104.caload hx (j := (2 : Int32)) (v := (.int c2)) (by rw [e104]; exact Ar105.1) (State.isArrayOf_alike hZ.alike Ar105.2.1) Ar105.2.2 hin105 hat105 (g := (mkF m 12 #[rv a1, iv (2 : Int32), rv b1, iv (2 : Int32), iv (3 : Int32), iv (2 : Int32), iv c1] [(.int (2 : Int32)), (.ref a1)])) rfl rfl (hb hby d14_12)) ?_
  refine Go.via (fun _ => XS.istore X104.here hx rfl (hb hby d14_13) rfl (l' := #[rv a1, iv (2 : Int32), rv b1, iv (2 : Int32), iv (3 : Int32), iv (2 : Int32), iv c2]) rfl) ?_
  show Go p e below _ (T104.setTop (mkF m 15 #[rv a1, iv (2 : Int32), rv b1, iv (2 : Int32), iv (3 : Int32), iv (2 : Int32), iv c2] []))
  refine Go.via (fun _ => XS.iload X104.here hx rfl (hb hby d14_15) rfl) ?_
  refine Go.via (fun _ => XS.sipush X104.here hx rfl (hb hby d14_17)) ?_
  refine Go.via (fun _ => XS.icmpYes X104.here hx rfl (pc0 := 20) (pc' := 26) rfl (hb hby d14_20) rfl (flt hl2).2.2.2 (by decide) (by decide)) ?_
  refine Go.via (fun _ => XS.aloadN X104.here hx rfl (hb hby d14_26) rfl rfl) ?_
  refine Go.via (fun _ => XS.iloadN X104.here hx rfl (hb hby d14_27) rfl) ?_
  refine Go.via (fun _ => XS.iload X104.here hx rfl (hb hby d14_28) rfl) ?_
  show Go p e below _ (T104.setTop (mkF m 30 #[rv a1, iv (2 : Int32), rv b1, iv (2 : Int32), iv (3 : Int32), iv (2 : Int32), iv c2] [(.int c2), (.int (2 : Int32)), (.ref b1)]))
  refine Go.via (fun _ => XS.i2b X104.here hx rfl (hb hby d14_30) rfl) ?_
  obtain ⟨cl106, Ar106, q106, S106, N106n, H106, G106⟩ := id V104
  have hin106 := inb_of (j := (2 : Int32)) S106 (by decide)
  obtain ⟨T106, h106, X106, e106, W106, st106⟩ := stB X104 hx hZ e104 Ar106 (j := (2 : Int32)) hin106 (g := (mkF m 31 #[rv a1, iv (2 : Int32), rv b1, iv (2 : Int32), iv (3 : Int32), iv (2 : Int32), iv c2] [(.int (c2.toInt8.toInt32)), (.int (2 : Int32)), (.ref b1)])) rfl rfl (hb hby d14_31)
  refine Go.via st106 ?_
  have V106 : Arv Z h106 b1 kc2 .byte (3 : Int32) [(.int (nar .byte (c0.toInt8.toInt32))), (.int (nar .byte (c1.toInt8.toInt32))), (.int (nar .byte (c2.toInt8.toInt32)))] (.int (0 : Int32)) := Arv.set Ar106 q106 S106 N106n H106 G106 (fits_nar_byte _) W106 2 rfl (Nat.le_of_ble_eq_true rfl)
  have Zs106 : n0 ≤ h106.size := Nat.le_trans Zs104 (Keep.of_wr W106).1
  have K106 : Keep h0 h106 [b1] := K104.wr W106 (Or.inl (List.mem_of_getElem? (i := 0) rfl))
  have N106 := Fr.snoc X106 N104 g1
  have fV_a1_106 := fV_a1_104.other W106 ne1
  refine Go.via (fun _ => XS.iinc X106.here hx rfl (hb hby d14_32) rfl (l' := #[rv a1, iv (3 : Int32), rv b1, iv (2 : Int32), iv (3 : Int32), iv (2 : Int32), iv c2]) rfl) ?_
  refine Go.via (fun _ => XS.iinc X106.here hx rfl (hb hby d14_35) rfl (l' := #[rv a1, iv (3 : Int32), rv b1, iv (3 : Int32), iv (3 : Int32), iv (2 : Int32), iv c2]) rfl) ?_
  refine Go.via (fun _ => XS.iinc X106.here hx rfl (hb hby d14_38) rfl (l' := #[rv a1, iv (3 : Int32), rv b1, iv (3 : Int32), iv (3 : Int32), iv (3 : Int32), iv c2]) rfl) ?_
  refine Go.via (fun _ => XS.goto X106.here hx rfl (pc0 := 41) (pc' := 3) rfl (hb hby d14_41) (by decide) (by decide)) ?_
  show Go p e below _ (T106.setTop (mkF m 3 #[rv a1, iv (3 : Int32), rv b1, iv (3 : Int32), iv (3 : Int32), iv (3 : Int32), iv c2] []))
  refine Go.via (fun _ => XS.iload X106.here hx rfl (hb hby d14_3) rfl) ?_
  refine Go.via (fun _ => XS.iload X106.here hx rfl (hb hby d14_5) rfl) ?_
  refine Go.via (fun _ => XS.icmpYes X106.here hx rfl (pc0 := 7) (pc' := 44) rfl (hb hby d14_7) rfl (by decide) (by decide) (by decide)) ?_
  refine Go.via (fun _ => XS.iload X106.here hx rfl (hb hby d14_44) rfl) ?_
  exact own_retI X106 hx hlk Bd.returns (hb hby d14_46) (by show QC2_3 Z a1 kc1 b1 kc2 c0 c1 c2 h0 n0 _ T106.heap _; rw [e106]; exact ⟨rfl, N106, K106, V106⟩) (by decide) (by decide)
theorem ef_rmC1_3 (m : MethodId) (x0 : Addr) : entryFrame m #[(.ref x0), (.int (0 : Int32)), (.int (3 : Int32))] 6 = mkF m 0 #[rv x0, iv (0 : Int32), iv (3 : Int32), .unset, .unset, .unset] [] := by first | (simp [entryFrame, mkF, argsToLocals, Value.category]; done) | rfl
def QC1_3 (Z : State) (a1 : Addr) (kc1 : ClassId) (c0 : Int32) (c1 : Int32) (c2 : Int32) (h0 : Heap) (n0 : Nat) (v : Option Value) (h : Heap) (L : List Loc) : Prop := ∃ (t : Addr) (kb : ClassId), v = some (.ref t) ∧ Fr n0 L ∧ Keep h0 h [] ∧ h0.size ≤ t ∧ Arv Z h t kb .byte (3 : Int32) [(.int (nar .byte (c0.toInt8.toInt32))), (.int (nar .byte (c1.toInt8.toInt32))), (.int (nar .byte (c2.toInt8.toInt32)))] (.int (0 : Int32))
set_option maxRecDepth 65536 in
set_option maxHeartbeats 40000000 in
theorem rmC1_3 (l : Launch) (Z : State) (a0 : Array Value) (hw : TW Z a0) (ws : List Jvm.Cond) (a1 : Addr) (kc1 : ClassId) (c0 : Int32) (c1 : Int32) (c2 : Int32) (h0 : Heap) (n0 : Nat) (Z0 : n0 ≤ h0.size) (V1 : Arv Z h0 a1 kc1 .char (3 : Int32) [(.int c0), (.int c1), (.int c2)] (.int (0 : Int32))) (hl0 : ¬ ((255 : Int32) < c0)) (hl1 : ¬ ((255 : Int32) < c1)) (hl2 : ¬ ((255 : Int32) < c2)) :
    MF l Z (⟨"java/lang/StringUTF16", "compress", "([CII)[B"⟩ : MethodName) jdk_52_method_16_code 6 (some (.array .byte)) ws (rmm 1 1 3 18) #[(.ref a1), (.int (0 : Int32)), (.int (3 : Int32))] h0 (QC1_3 Z a1 kc1 c0 c1 c2 h0 n0) := by
  refine MetFree.of_bodySF (plainFor_of_name pn_java_lang_StringUTF16) hisR ?_
  intro p e s m args below meth c s₁ Bd hml0 hP hK
  obtain ⟨rfl, hZ, hh⟩ := hP
  have hx := Bd.exec
  have hby := Bd.bytes
  have hlk : meth.locks = false := Bd.notSynchronized
  have hml : c.maxLocals = 6 := hml0
  have hown : s.vm.findClass "java/lang/StringUTF16" = some m.cls := findClass_of_methodNamed Bd.named
  have hnm := (name_of_methodNamed Bd.named Bd.method).1
  have X0 : Stand p l e (rmm 1 1 3 18) s m #[(.ref a1), (.int (0 : Int32)), (.int (3 : Int32))] below meth c s₁ [] 0 0 := Stand.of_body Bd
  have e0 : s₁.heap = h0 := by rw [← hh, Bd.state]; rfl
  have N0 := Fr.nil n0
  show Go p e below (FinE s below (QC1_3 Z a1 kc1 c0 c1 c2 h0 n0) (rmm 1 1 3 18).cells (rmm 1 1 3 18).slots) (s₁.setTop (entryFrame m #[(.ref a1), (.int (0 : Int32)), (.int (3 : Int32))] 6))
  refine Go.via (fun t k => castTop (ef_rmC1_3 m a1) k) ?_
  refine Go.via (fun _ => XS.iloadN X0.here hx rfl (hb hby d13_0) rfl) ?_
  obtain ⟨T101, h101, k101, X101, e101, E101, A101, st101⟩ := newP X0 hx hZ (ow hw 14 rfl) e0 (g := (mkF m 1 #[rv a1, iv (0 : Int32), iv (3 : Int32), .unset, .unset, .unset] [(.int (3 : Int32))])) rfl (hb hby d13_1) rfl (by decide) (cap := 3) (by decide) (by decide) (by decide) (by decide)
  obtain ⟨b101, g101⟩ : ∃ z, z = h0.size := ⟨_, rfl⟩
  rw [← g101] at A101 st101
  have g_b101 : n0 ≤ b101 := Nat.le_trans Z0 (Nat.le_of_eq g101.symm)
  have ne_a1_b101 : a1 ≠ b101 := Nat.ne_of_lt (Nat.lt_of_lt_of_le V1.lt (Nat.le_of_eq g101.symm))
  have sz_b101 : h0.size ≤ b101 := Nat.le_trans (Keep.refl h0 []).1 (Nat.le_of_eq g101.symm)
  refine Go.via st101 ?_
  have Zs101 : n0 ≤ h101.size := Nat.le_trans Z0 E101.1
  have K101 : Keep h0 h101 [] := (Keep.refl h0 []).ext E101
  have fV_a1_101 := V1.ext E101
  have V_b101 : Arv Z h101 b101 k101 .byte (3 : Int32) [(.int (0 : Int32)), (.int (0 : Int32)), (.int (0 : Int32))] (.int (0 : Int32)) := (Arv.new A101 (by decide)).pad (pad_rep [] (.int (0 : Int32)) 3)
  refine Go.via (fun _ => XS.astoreN X101.here hx rfl (hb hby d13_3) rfl rfl (l' := #[rv a1, iv (0 : Int32), iv (3 : Int32), rv b101, .unset, .unset]) rfl) ?_
  refine Go.via (fun _ => XS.aloadN X101.here hx rfl (hb hby d13_4) rfl rfl) ?_
  refine Go.via (fun _ => XS.iloadN X101.here hx rfl (hb hby d13_5) rfl) ?_
  show Go p e below _ (T101.setTop (mkF m 6 #[rv a1, iv (0 : Int32), iv (3 : Int32), rv b101, .unset, .unset] [(.int (0 : Int32)), (.ref a1)]))
  refine Go.via (fun _ => XS.aloadN X101.here hx rfl (hb hby d13_6) rfl rfl) ?_
  refine Go.via (fun _ => XS.iconst X101.here hx rfl (hb hby d13_7)) ?_
  refine Go.via (fun _ => XS.iloadN X101.here hx rfl (hb hby d13_8) rfl) ?_
  obtain ⟨_, _, ⟨T102, L102, k102, n102⟩, -, X102, ⟨Lc102, hQ102, l102, y102, z102⟩, st102⟩ := Jvm.LawKit.callS X101 hx (y := (⟨"java/lang/StringUTF16", "compress", "([CI[BII)I"⟩ : MethodName)) hown (mvT hZ (ow hw 83 rfl)) (mvT hZ (ow hw 84 rfl)) (mvT hZ (ow hw 81 rfl)) (mvT hZ (ow hw 85 rfl)) (by decide) (backOf (W := 0) (rmC2_3 l Z a0 hw [] a1 kc1 b101 k101 c0 c1 c2 h101 n0 Zs101 fV_a1_101 V_b101 g_b101 ne_a1_b101 hl0 hl1 hl2) hZ (ow hw 85 rfl) (ow hw 81 rfl) (by decide) (by decide)) (g := (mkF m 9 #[rv a1, iv (0 : Int32), iv (3 : Int32), rv b101, .unset, .unset] [(.int (3 : Int32)), (.int (0 : Int32)), (.ref b101), (.int (0 : Int32)), (.ref a1)])) rfl (by rw [hml]; rfl) (argsL := [(.ref a1), (.int (0 : Int32)), (.ref b101), (.int (0 : Int32)), (.int (3 : Int32))]) (rest := []) (lenOf pd_6 rfl) rfl (by show 2 * 0 + _ ≤ _; exact Nat.le_of_eq rfl) (hb hby d13_9) (fun _ _ => ⟨rfl, e101, (by decide : 1 + 0 ≤ _), (by decide : 3 + 0 ≤ _)⟩)
  dsimp only [Pt.U, Pt.locs, Pt.cells, Pt.slots] at X102 l102 y102 z102 st102 hQ102
  rw [l102, y102, z102] at X102
  replace X102 : Stand p l e _ _ m _ below meth c T102 _ 1 3 := X102
  obtain ⟨rfl, N102q, K102q, va102⟩ := hQ102
  have N102 := Fr.app N0 N102q
  refine Go.via st102 ?_
  have Zs102 : n0 ≤ T102.heap.size := Nat.le_trans Zs101 K102q.1
  have K102 : Keep h0 T102.heap [] := K101.trans K102q (allS (Or.inr sz_b101) all0)
  have fV_a1_102 := fV_a1_101.keep K102q (ninS ne_a1_b101 nin0)
  refine Go.via (fun _ => XS.istore X102.here hx rfl (hb hby d13_12) rfl (l' := #[rv a1, iv (0 : Int32), iv (3 : Int32), rv b101, iv (3 : Int32), .unset]) rfl) ?_
  refine Go.via (fun _ => XS.iload X102.here hx rfl (hb hby d13_14) rfl) ?_
  show Go p e below _ (T102.setTop (mkF m 16 #[rv a1, iv (0 : Int32), iv (3 : Int32), rv b101, iv (3 : Int32), .unset] [(.int (3 : Int32))]))
  refine Go.via (fun _ => XS.iloadN X102.here hx rfl (hb hby d13_16) rfl) ?_
  refine Go.via (fun _ => XS.icmpYes X102.here hx rfl (pc0 := 17) (pc' := 57) rfl (hb hby d13_17) rfl (by decide) (by decide) (by decide)) ?_
  refine Go.via (fun _ => XS.aloadN X102.here hx rfl (hb hby d13_57) rfl rfl) ?_
  exact own_retA X102 hx hlk Bd.returns rfl rfl (hb hby d13_58) (by show QC1_3 Z a1 kc1 c0 c1 c2 h0 n0 _ T102.heap _; exact ⟨b101, k101, rfl, N102, K102, sz_b101, va102⟩) (by decide) (by decide)
theorem ef_rmCL_3_3 (m : MethodId) (x0 : Addr) : entryFrame m #[(.ref x0), (.int (3 : Int32))] 2 = mkF m 0 #[rv x0, iv (3 : Int32)] [] := by first | (simp [entryFrame, mkF, argsToLocals, Value.category]; done) | rfl
def QCL_3_3 (Z : State) (b1 : Addr) (kc2 : ClassId) (vs : List Value) (h0 : Heap) (n0 : Nat) (v : Option Value) (h : Heap) (L : List Loc) : Prop := v = some (.int (0 : Int32)) ∧ Fr n0 L ∧ h = h0
set_option maxRecDepth 65536 in
set_option maxHeartbeats 40000000 in
theorem rmCL_3_3 (l : Launch) (Z : State) (a0 : Array Value) (hw : TW Z a0) (ws : List Jvm.Cond) (b1 : Addr) (kc2 : ClassId) (vs : List Value) (h0 : Heap) (n0 : Nat) (Z0 : n0 ≤ h0.size) (V2 : Arv Z h0 b1 kc2 .byte (3 : Int32) vs (.int (0 : Int32))) :
    MF l Z (⟨"java/lang/StringUTF16", "coderFromArrayLen", "([BI)B"⟩ : MethodName) jdk_52_method_15_code 2 (some .byte) ws (rmm 0 0 0 0) #[(.ref b1), (.int (3 : Int32))] h0 (QCL_3_3 Z b1 kc2 vs h0 n0) := by
  refine MetFree.of_bodySF (plainFor_of_name pn_java_lang_StringUTF16) hisR ?_
  intro p e s m args below meth c s₁ Bd hml0 hP hK
  obtain ⟨rfl, hZ, hh⟩ := hP
  have hx := Bd.exec
  have hby := Bd.bytes
  have hlk : meth.locks = false := Bd.notSynchronized
  have hml : c.maxLocals = 2 := hml0
  have hown : s.vm.findClass "java/lang/StringUTF16" = some m.cls := findClass_of_methodNamed Bd.named
  have hnm := (name_of_methodNamed Bd.named Bd.method).1
  have X0 : Stand p l e (rmm 0 0 0 0) s m #[(.ref b1), (.int (3 : Int32))] below meth c s₁ [] 0 0 := Stand.of_body Bd
  have e0 : s₁.heap = h0 := by rw [← hh, Bd.state]; rfl
  have N0 := Fr.nil n0
  show Go p e below (FinE s below (QCL_3_3 Z b1 kc2 vs h0 n0) (rmm 0 0 0 0).cells (rmm 0 0 0 0).slots) (s₁.setTop (entryFrame m #[(.ref b1), (.int (3 : Int32))] 2))
  refine Go.via (fun t k => castTop (ef_rmCL_3_3 m b1) k) ?_
  refine Go.via (fun _ => XS.iloadN X0.here hx rfl (hb hby d15_0) rfl) ?_
  refine Go.via (fun _ => XS.aloadN X0.here hx rfl (hb hby d15_1) rfl rfl) ?_
  obtain ⟨cl101, Ar101, -, S101, N101n, -, -⟩ := id V2
  have al101 := X0.arraylength hx (by rw [e0]; exact Ar101.1) (State.isArrayOf_alike hZ.alike Ar101.2.1) (g := (mkF m 2 #[rv b1, iv (3 : Int32)] [(.ref b1), (.int (3 : Int32))])) rfl rfl (hb hby d15_2)
  rw [len_of S101 N101n] at al101
  refine Go.via al101 ?_
  refine Go.via (fun _ => XS.isub X0.here hx rfl (hb hby d15_3) rfl) ?_
  refine Go.via (fun _ => XS.bipush X0.here hx rfl (hb hby d15_4)) ?_
  show Go p e below _ (s₁.setTop (mkF m 6 #[rv b1, iv (3 : Int32)] [(.int (31 : Int32)), (.int (0 : Int32))]))
  refine Go.via (fun _ => XS.iushr X0.here hx rfl (hb hby d15_6) rfl) ?_
  refine Go.via (fun _ => XS.i2b X0.here hx rfl (hb hby d15_7) rfl) ?_
  exact own_retN X0 hx hlk (t := .byte) Bd.returns (by simp) (hb hby d15_8) (by show QCL_3_3 Z b1 kc2 vs h0 n0 _ s₁.heap _; rw [e0]; exact ⟨rfl, N0, rfl⟩) (by decide) (by decide)
theorem ef_rmI4_3 (m : MethodId) (x0 : Addr) (x1 : Addr) : entryFrame m #[(.ref x0), (.ref x1), (.int (0 : Int32)), (.int (3 : Int32)), .null] 6 = mkF m 0 #[rv x0, rv x1, iv (0 : Int32), iv (3 : Int32), .val .null, .unset] [] := by first | (simp [entryFrame, mkF, argsToLocals, Value.category]; done) | rfl
def QI4_3 (Z : State) (a1 : Addr) (a2 : Addr) (kc1 : ClassId) (c0 : Int32) (c1 : Int32) (c2 : Int32) (ccs : Int32) (h0 : Heap) (n0 : Nat) (v : Option Value) (h : Heap) (L : List Loc) : Prop := v = none ∧ Fr n0 L ∧ Keep h0 h [a1] ∧ ∃ (t : Addr) (kb : ClassId), h0.size ≤ t ∧ Fld Z h a1 "java/lang/String" "value" "[B" (.ref t) ∧ Fld Z h a1 "java/lang/String" "coder" "B" (.int (0 : Int32)) ∧ Arv Z h t kb .byte (3 : Int32) [(.int (nar .byte (c0.toInt8.toInt32))), (.int (nar .byte (c1.toInt8.toInt32))), (.int (nar .byte (c2.toInt8.toInt32)))] (.int (0 : Int32))
set_option maxRecDepth 65536 in
set_option maxHeartbeats 40000000 in
theorem rmI4_3 (l : Launch) (Z : State) (a0 : Array Value) (hw : TW Z a0) (ws : List Jvm.Cond) (a1 : Addr) (a2 : Addr) (kc1 : ClassId) (c0 : Int32) (c1 : Int32) (c2 : Int32) (ccs : Int32) (h0 : Heap) (n0 : Nat) (Z0 : n0 ≤ h0.size) (E1 : Exa Z h0 a1 "java/lang/String") (F1 : Fld Z h0 a1 "java/lang/String" "value" "[B" .null) (F2 : Fld Z h0 a1 "java/lang/String" "coder" "B" (.int (0 : Int32))) (g1 : n0 ≤ a1) (ne1 : a1 ≠ a2) (V1 : Arv Z h0 a2 kc1 .char (3 : Int32) [(.int c0), (.int c1), (.int c2)] (.int (0 : Int32))) (hl0 : ¬ ((255 : Int32) < c0)) (hl1 : ¬ ((255 : Int32) < c1)) (hl2 : ¬ ((255 : Int32) < c2)) (O0 : Old Z n0 h0) (S_CS : Sta Z Z.heap "java/lang/String" "COMPACT_STRINGS" "Z" (.int ccs)) (hcs : ¬ (ccs = (0 : Int32))) :
    MF l Z (⟨"java/lang/String", "<init>", "([CIILjava/lang/Void;)V"⟩ : MethodName) jdk_42_method_149_code 6 none ws (rmm 2 1 3 35) #[(.ref a1), (.ref a2), (.int (0 : Int32)), (.int (3 : Int32)), .null] h0 (QI4_3 Z a1 a2 kc1 c0 c1 c2 ccs h0 n0) := by
  refine MetFree.of_bodySF (plainFor_of_name pn_java_lang_String) hisR ?_
  intro p e s m args below meth c s₁ Bd hml0 hP hK
  obtain ⟨rfl, hZ, hh⟩ := hP
  have hx := Bd.exec
  have hby := Bd.bytes
  have hlk : meth.locks = false := Bd.notSynchronized
  have hml : c.maxLocals = 6 := hml0
  have hown : s.vm.findClass "java/lang/String" = some m.cls := findClass_of_methodNamed Bd.named
  have hnm := (name_of_methodNamed Bd.named Bd.method).1
  have X0 : Stand p l e (rmm 2 1 3 35) s m #[(.ref a1), (.ref a2), (.int (0 : Int32)), (.int (3 : Int32)), .null] below meth c s₁ [] 0 0 := Stand.of_body Bd
  have e0 : s₁.heap = h0 := by rw [← hh, Bd.state]; rfl
  have N0 := Fr.nil n0
  show Go p e below (FinE s below (QI4_3 Z a1 a2 kc1 c0 c1 c2 ccs h0 n0) (rmm 2 1 3 35).cells (rmm 2 1 3 35).slots) (s₁.setTop (entryFrame m #[(.ref a1), (.ref a2), (.int (0 : Int32)), (.int (3 : Int32)), .null] 6))
  refine Go.via (fun t k => castTop (ef_rmI4_3 m a1 a2) k) ?_
  refine Go.via (fun _ => XS.aloadN X0.here hx rfl (hb hby d12_0) rfl rfl) ?_
  obtain ⟨T101, X101, e101, st101⟩ := initO X0 hx hZ hown (ow hw 77 rfl) (ow hw 43 rfl) (ow hw 44 rfl) e0 (g := (mkF m 1 #[rv a1, rv a2, iv (0 : Int32), iv (3 : Int32), .val .null, .unset] [(.ref a1)])) rfl (by rw [hml]; rfl) rfl (hb hby d12_1) (by decide) (W := 0) (by show 2 * 0 + _ ≤ _; exact Nat.le_of_eq rfl) (by decide)
  refine Go.via st101 ?_
  refine Go.via (fun _ => XS.iloadN X101.here hx rfl (hb hby d12_4) rfl) ?_
  refine Go.via (fun _ => XS.ifYes X101.here hx rfl (pc0 := 5) (pc' := 27) rfl (hb hby d12_5) rfl (by decide) (by decide) (by decide)) ?_
  obtain ⟨T102, X102, e102, st102⟩ := getS2 X101 hx hZ hown (host := "") (Or.inl (ow hw 78 rfl)) Via.refl e101 (S_CS.ext O0.2) (g := (mkF m 27 #[rv a1, rv a2, iv (0 : Int32), iv (3 : Int32), .val .null, .unset] [])) rfl (hb hby d12_27)
  refine Go.via st102 ?_
  show Go p e below _ (T102.setTop (mkF m 30 #[rv a1, rv a2, iv (0 : Int32), iv (3 : Int32), .val .null, .unset] [(.int ccs)]))
  refine Go.via (fun _ => XS.ifNo X102.here hx rfl (hb hby d12_30) rfl ((if0 _ _).trans (feq hcs).1)) ?_
  refine Go.via (fun _ => XS.aloadN X102.here hx rfl (hb hby d12_33) rfl rfl) ?_
  refine Go.via (fun _ => XS.iloadN X102.here hx rfl (hb hby d12_34) rfl) ?_
  refine Go.via (fun _ => XS.iloadN X102.here hx rfl (hb hby d12_35) rfl) ?_
  obtain ⟨_, _, ⟨T103, L103, k103, n103⟩, -, X103, ⟨Lc103, hQ103, l103, y103, z103⟩, st103⟩ := Jvm.LawKit.callS X102 hx (y := (⟨"java/lang/StringUTF16", "compress", "([CII)[B"⟩ : MethodName)) hown (mvT hZ (ow hw 79 rfl)) (mvT hZ (ow hw 80 rfl)) (mvT hZ (ow hw 81 rfl)) (mvT hZ (ow hw 82 rfl)) (by decide) (backOf (W := 0) (rmC1_3 l Z a0 hw [] a2 kc1 c0 c1 c2 h0 n0 Z0 V1 hl0 hl1 hl2) hZ (ow hw 82 rfl) (ow hw 81 rfl) (by decide) (by decide)) (g := (mkF m 36 #[rv a1, rv a2, iv (0 : Int32), iv (3 : Int32), .val .null, .unset] [(.int (3 : Int32)), (.int (0 : Int32)), (.ref a2)])) rfl (by rw [hml]; rfl) (argsL := [(.ref a2), (.int (0 : Int32)), (.int (3 : Int32))]) (rest := []) (lenOf pd_7 rfl) rfl (by show 2 * 0 + _ ≤ _; exact Nat.le_of_eq rfl) (hb hby d12_36) (fun _ _ => ⟨rfl, e102, (by decide : 0 + 1 ≤ _), (by decide : 0 + 3 ≤ _)⟩)
  dsimp only [Pt.U, Pt.locs, Pt.cells, Pt.slots] at X103 l103 y103 z103 st103 hQ103
  rw [l103, y103, z103] at X103
  replace X103 : Stand p l e _ _ m _ below meth c T103 _ 1 3 := X103
  obtain ⟨t103, kb103, rfl, N103q, K103q, gt103, va103⟩ := hQ103
  have N103 := Fr.app N0 N103q
  refine Go.via st103 ?_
  have Zs103 : n0 ≤ T103.heap.size := Nat.le_trans Z0 K103q.1
  have O103 : Old Z n0 T103.heap := O0.keep K103q all0
  have K103 : Keep h0 T103.heap [a1] := (Keep.refl h0 [a1]).trans K103q all0
  have fE_a1_103 := E1.keep K103q
  have fF_a1_value_103 := F1.keep K103q nin0
  have fF_a1_coder_103 := F2.keep K103q nin0
  have fV_a2_103 := V1.keep K103q nin0
  have g_t103 : n0 ≤ t103 := Nat.le_trans Z0 gt103
  have ne_a1_t103 : a1 ≠ t103 := Nat.ne_of_lt (Nat.lt_of_lt_of_le E1.lt gt103)
  have ne_a2_t103 : a2 ≠ t103 := Nat.ne_of_lt (Nat.lt_of_lt_of_le V1.lt gt103)
  have sz_t103 : h0.size ≤ t103 := Nat.le_trans (Keep.refl h0 [a1]).1 gt103
  refine Go.via (fun _ => XS.astore X103.here hx rfl (hb hby d12_39) rfl rfl (l' := #[rv a1, rv a2, iv (0 : Int32), iv (3 : Int32), .val .null, rv t103]) rfl) ?_
  show Go p e below _ (T103.setTop (mkF m 41 #[rv a1, rv a2, iv (0 : Int32), iv (3 : Int32), .val .null, rv t103] []))
  refine Go.via (fun _ => XS.aloadN X103.here hx rfl (hb hby d12_41) rfl rfl) ?_
  refine Go.via (fun _ => XS.aload X103.here hx rfl (hb hby d12_42) rfl rfl) ?_
  refine Go.via (fun _ => XS.iloadN X103.here hx rfl (hb hby d12_44) rfl) ?_
  obtain ⟨_, _, ⟨T104, L104, k104, n104⟩, -, X104, ⟨Lc104, hQ104, l104, y104, z104⟩, st104⟩ := Jvm.LawKit.callS X103 hx (y := (⟨"java/lang/StringUTF16", "coderFromArrayLen", "([BI)B"⟩ : MethodName)) hown (mvT hZ (ow hw 86 rfl)) (mvT hZ (ow hw 87 rfl)) (mvT hZ (ow hw 81 rfl)) (mvT hZ (ow hw 88 rfl)) (by decide) (backOf (W := 1) (rmCL_3_3 l Z a0 hw [] t103 kb103 _ T103.heap n0 Zs103 va103) hZ (ow hw 88 rfl) (ow hw 81 rfl) (by decide) (by decide)) (g := (mkF m 45 #[rv a1, rv a2, iv (0 : Int32), iv (3 : Int32), .val .null, rv t103] [(.int (3 : Int32)), (.ref t103), (.ref a1)])) rfl (by rw [hml]; rfl) (argsL := [(.ref t103), (.int (3 : Int32))]) (rest := [(.ref a1)]) (lenOf pd_8 rfl) rfl (by show 2 * 0 + _ ≤ _; exact Nat.le_of_eq rfl) (hb hby d12_45) (fun _ _ => ⟨rfl, rfl, (by decide : 1 + 0 ≤ _), (by decide : 3 + 0 ≤ _)⟩)
  dsimp only [Pt.U, Pt.locs, Pt.cells, Pt.slots] at X104 l104 y104 z104 st104 hQ104
  rw [l104, y104, z104] at X104
  replace X104 : Stand p l e _ _ m _ below meth c T104 _ 1 3 := X104
  obtain ⟨rfl, N104q, e104q⟩ := hQ104
  have N104 := Fr.app N103 N104q
  refine Go.via st104 ?_
  obtain ⟨T105, h105, X105, e105, W105, st105⟩ := putFN X104 hx hZ hown (ow hw 89 rfl) Via.refl e104q fF_a1_coder_103 fE_a1_103 (Or.inr ⟨(ow hw 16 rfl), rfl, hnm⟩) (ow hw 13 rfl) (ty := .byte) (v' := .int (nar .byte (0 : Int32))) (by decide) rfl (fits_nar_byte _) (g := (mkF m 48 #[rv a1, rv a2, iv (0 : Int32), iv (3 : Int32), .val .null, rv t103] [(.int (0 : Int32)), (.ref a1)])) rfl rfl (hb hby d12_48)
  refine Go.via st105 ?_
  have fF_a1_coder_105 : Fld Z h105 a1 "java/lang/String" "coder" "B" (.int (0 : Int32)) := fF_a1_coder_103.same W105
  have Zs105 : n0 ≤ h105.size := Nat.le_trans Zs103 (Keep.of_wr W105).1
  have O105 : Old Z n0 h105 := O103.wr W105 g1
  have K105 : Keep h0 h105 [a1] := K103.wr W105 (Or.inl (List.mem_of_getElem? (i := 0) rfl))
  have N105 := Fr.snoc X105 N104 g1
  have fE_a1_105 := fE_a1_103.wr W105
  have fF_a1_value_105 := fF_a1_value_103.other W105 (Or.inr (slot_ne (Or.inr (ow hw 15 rfl)) (Or.inr (ow hw 16 rfl)) (by decide) (t := (.array .byte)) (t' := .byte) (by decide) (by decide)))
  have fV_a2_105 := fV_a2_103.other W105 (Ne.symm ne1)
  have fV_t103_105 := va103.other W105 (Ne.symm ne_a1_t103)
  refine Go.via (fun _ => XS.aloadN X105.here hx rfl (hb hby d12_51) rfl rfl) ?_
  show Go p e below _ (T105.setTop (mkF m 52 #[rv a1, rv a2, iv (0 : Int32), iv (3 : Int32), .val .null, rv t103] [(.ref a1)]))
  refine Go.via (fun _ => XS.aload X105.here hx rfl (hb hby d12_52) rfl rfl) ?_
  obtain ⟨T106, h106, X106, e106, W106, st106⟩ := putF X105 hx hZ hown (host := "") (Or.inl (ow hw 90 rfl)) Via.refl e105 fF_a1_value_105 fE_a1_105 (Or.inr ⟨(ow hw 15 rfl), rfl, hnm⟩) (ow hw 13 rfl) (ty := (.array .byte)) (by decide) rfl rfl (g := (mkF m 54 #[rv a1, rv a2, iv (0 : Int32), iv (3 : Int32), .val .null, rv t103] [(.ref t103), (.ref a1)])) rfl rfl (hb hby d12_54)
  refine Go.via st106 ?_
  have fF_a1_value_106 : Fld Z h106 a1 "java/lang/String" "value" "[B" (.ref t103) := fF_a1_value_105.same W106
  have Zs106 : n0 ≤ h106.size := Nat.le_trans Zs105 (Keep.of_wr W106).1
  have O106 : Old Z n0 h106 := O105.wr W106 g1
  have K106 : Keep h0 h106 [a1] := K105.wr W106 (Or.inl (List.mem_of_getElem? (i := 0) rfl))
  have N106 := Fr.snoc X106 N105 g1
  have fE_a1_106 := fE_a1_105.wr W106
  have fF_a1_coder_106 := fF_a1_coder_105.other W106 (Or.inr (slot_ne (Or.inr (ow hw 16 rfl)) (Or.inr (ow hw 15 rfl)) (by decide) (t := .byte) (t' := (.array .byte)) (by decide) (by decide)))
  have fV_a2_106 := fV_a2_105.other W106 (Ne.symm ne1)
  have fV_t103_106 := fV_t103_105.other W106 (Ne.symm ne_a1_t103)
  exact own_retV X106 hx hlk Bd.returns (hb hby d12_57) (by show QI4_3 Z a1 a2 kc1 c0 c1 c2 ccs h0 n0 _ T106.heap _; rw [e106]; exact ⟨rfl, N106, K106, t103, kb103, sz_t103, fF_a1_value_106, fF_a1_coder_106, fV_t103_106⟩) (by decide) (by decide)
theorem ef_rmI1_3 (m : MethodId) (x0 : Addr) (x1 : Addr) : entryFrame m #[(.ref x0), (.ref x1)] 2 = mkF m 0 #[rv x0, rv x1] [] := by first | (simp [entryFrame, mkF, argsToLocals, Value.category]; done) | rfl
def QI1_3 (Z : State) (a1 : Addr) (a2 : Addr) (kc1 : ClassId) (c0 : Int32) (c1 : Int32) (c2 : Int32) (ccs : Int32) (h0 : Heap) (n0 : Nat) (v : Option Value) (h : Heap) (L : List Loc) : Prop := v = none ∧ Fr n0 L ∧ Keep h0 h [a1] ∧ ∃ (t : Addr) (kb : ClassId), h0.size ≤ t ∧ Fld Z h a1 "java/lang/String" "value" "[B" (.ref t) ∧ Fld Z h a1 "java/lang/String" "coder" "B" (.int (0 : Int32)) ∧ Arv Z h t kb .byte (3 : Int32) [(.int (nar .byte (c0.toInt8.toInt32))), (.int (nar .byte (c1.toInt8.toInt32))), (.int (nar .byte (c2.toInt8.toInt32)))] (.int (0 : Int32))
set_option maxRecDepth 65536 in
set_option maxHeartbeats 40000000 in
theorem rmI1_3 (l : Launch) (Z : State) (a0 : Array Value) (hw : TW Z a0) (ws : List Jvm.Cond) (a1 : Addr) (a2 : Addr) (kc1 : ClassId) (c0 : Int32) (c1 : Int32) (c2 : Int32) (ccs : Int32) (h0 : Heap) (n0 : Nat) (Z0 : n0 ≤ h0.size) (E1 : Exa Z h0 a1 "java/lang/String") (F1 : Fld Z h0 a1 "java/lang/String" "value" "[B" .null) (F2 : Fld Z h0 a1 "java/lang/String" "coder" "B" (.int (0 : Int32))) (g1 : n0 ≤ a1) (ne1 : a1 ≠ a2) (V1 : Arv Z h0 a2 kc1 .char (3 : Int32) [(.int c0), (.int c1), (.int c2)] (.int (0 : Int32))) (hl0 : ¬ ((255 : Int32) < c0)) (hl1 : ¬ ((255 : Int32) < c1)) (hl2 : ¬ ((255 : Int32) < c2)) (O0 : Old Z n0 h0) (S_CS : Sta Z Z.heap "java/lang/String" "COMPACT_STRINGS" "Z" (.int ccs)) (hcs : ¬ (ccs = (0 : Int32))) :
    MF l Z (⟨"java/lang/String", "<init>", "([C)V"⟩ : MethodName) jdk_42_method_3_code 2 none ws (rmm 3 1 3 52) #[(.ref a1), (.ref a2)] h0 (QI1_3 Z a1 a2 kc1 c0 c1 c2 ccs h0 n0) := by
  refine MetFree.of_bodySF (plainFor_of_name pn_java_lang_String) hisR ?_
  intro p e s m args below meth c s₁ Bd hml0 hP hK
  obtain ⟨rfl, hZ, hh⟩ := hP
  have hx := Bd.exec
  have hby := Bd.bytes
  have hlk : meth.locks = false := Bd.notSynchronized
  have hml : c.maxLocals = 2 := hml0
  have hown : s.vm.findClass "java/lang/String" = some m.cls := findClass_of_methodNamed Bd.named
  have hnm := (name_of_methodNamed Bd.named Bd.method).1
  have X0 : Stand p l e (rmm 3 1 3 52) s m #[(.ref a1), (.ref a2)] below meth c s₁ [] 0 0 := Stand.of_body Bd
  have e0 : s₁.heap = h0 := by rw [← hh, Bd.state]; rfl
  have N0 := Fr.nil n0
  show Go p e below (FinE s below (QI1_3 Z a1 a2 kc1 c0 c1 c2 ccs h0 n0) (rmm 3 1 3 52).cells (rmm 3 1 3 52).slots) (s₁.setTop (entryFrame m #[(.ref a1), (.ref a2)] 2))
  refine Go.via (fun t k => castTop (ef_rmI1_3 m a1 a2) k) ?_
  refine Go.via (fun _ => XS.aloadN X0.here hx rfl (hb hby d11_0) rfl rfl) ?_
  refine Go.via (fun _ => XS.aloadN X0.here hx rfl (hb hby d11_1) rfl rfl) ?_
  refine Go.via (fun _ => XS.iconst X0.here hx rfl (hb hby d11_2)) ?_
  refine Go.via (fun _ => XS.aloadN X0.here hx rfl (hb hby d11_3) rfl rfl) ?_
  obtain ⟨cl101, Ar101, -, S101, N101n, -, -⟩ := id V1
  have al101 := X0.arraylength hx (by rw [e0]; exact Ar101.1) (State.isArrayOf_alike hZ.alike Ar101.2.1) (g := (mkF m 4 #[rv a1, rv a2] [(.ref a2), (.int (0 : Int32)), (.ref a2), (.ref a1)])) rfl rfl (hb hby d11_4)
  rw [len_of S101 N101n] at al101
  refine Go.via al101 ?_
  show Go p e below _ (s₁.setTop (mkF m 5 #[rv a1, rv a2] [(.int (3 : Int32)), (.int (0 : Int32)), (.ref a2), (.ref a1)]))
  refine Go.via (fun _ => XS.aconstNull X0.here hx rfl (hb hby d11_5)) ?_
  obtain ⟨_, _, ⟨T102, L102, k102, n102⟩, -, X102, ⟨Lc102, hQ102, l102, y102, z102⟩, st102⟩ := X0.specialBack hx (y := (⟨"java/lang/String", "<init>", "([CIILjava/lang/Void;)V"⟩ : MethodName)) rfl hown (mvT hZ (ow hw 73 rfl)) (mvT hZ (ow hw 74 rfl)) (mvT hZ (ow hw 76 rfl)) (by decide) (backOf (W := 0) (rmI4_3 l Z a0 hw [] a1 a2 kc1 c0 c1 c2 ccs h0 n0 Z0 E1 F1 F2 g1 ne1 V1 hl0 hl1 hl2 O0 S_CS hcs) hZ (ow hw 76 rfl) (ow hw 12 rfl) (by decide) (by decide)) (g := (mkF m 6 #[rv a1, rv a2] [.null, (.int (3 : Int32)), (.int (0 : Int32)), (.ref a2), (.ref a1)])) rfl (by rw [hml]; rfl) (Steps.refl _) (a := a1) (argsL := [(.ref a2), (.int (0 : Int32)), (.int (3 : Int32)), .null]) (rest := []) (lenOf pd_5 rfl) rfl (by show 2 * 0 + _ ≤ _; exact Nat.le_of_eq rfl) (hb hby d11_6) (fun _ _ => ⟨rfl, e0, (by decide : 0 + 1 ≤ _), (by decide : 0 + 3 ≤ _)⟩)
  dsimp only [Pt.U, Pt.locs, Pt.cells, Pt.slots] at X102 l102 y102 z102 st102 hQ102
  rw [l102, y102, z102] at X102
  replace X102 : Stand p l e _ _ m _ below meth c T102 _ 1 3 := X102
  obtain ⟨rfl, N102q, K102q, t102, kb102, gt102, fv102, fc102, va102⟩ := hQ102
  have N102 := Fr.app N0 N102q
  refine Go.tr st102 ?_
  have Zs102 : n0 ≤ T102.heap.size := Nat.le_trans Z0 K102q.1
  have O102 : Old Z n0 T102.heap := O0.keep K102q (allS g1 all0)
  have fE_a1_102 := E1.keep K102q
  have fV_a2_102 := V1.keep K102q (ninS (Ne.symm ne1) nin0)
  exact own_retV X102 hx hlk Bd.returns (hb hby d11_9) (by show QI1_3 Z a1 a2 kc1 c0 c1 c2 ccs h0 n0 _ T102.heap _; exact ⟨rfl, N102, K102q, t102, kb102, gt102, fv102, fc102, va102⟩) (by decide) (by decide)
theorem ef_rmC2_4 (m : MethodId) (x0 : Addr) (x2 : Addr) : entryFrame m #[(.ref x0), (.int (0 : Int32)), (.ref x2), (.int (0 : Int32)), (.int (4 : Int32))] 7 = mkF m 0 #[rv x0, iv (0 : Int32), rv x2, iv (0 : Int32), iv (4 : Int32), .unset, .unset] [] := by first | (simp [entryFrame, mkF, argsToLocals, Value.category]; done) | rfl
def QC2_4 (Z : State) (a1 : Addr) (kc1 : ClassId) (b1 : Addr) (kc2 : ClassId) (c0 : Int32) (c1 : Int32) (c2 : Int32) (c3 : Int32) (h0 : Heap) (n0 : Nat) (v : Option Value) (h : Heap) (L : List Loc) : Prop := v = some (.int (4 : Int32)) ∧ Fr n0 L ∧ Keep h0 h [b1] ∧ Arv Z h b1 kc2 .byte (4 : Int32) [(.int (nar .byte (c0.toInt8.toInt32))), (.int (nar .byte (c1.toInt8.toInt32))), (.int (nar .byte (c2.toInt8.toInt32))), (.int (nar .byte (c3.toInt8.toInt32)))] (.int (0 : Int32))
set_option maxRecDepth 65536 in
set_option maxHeartbeats 40000000 in
theorem rmC2_4 (l : Launch) (Z : State) (a0 : Array Value) (hw : TW Z a0) (ws : List Jvm.Cond) (a1 : Addr) (kc1 : ClassId) (b1 : Addr) (kc2 : ClassId) (c0 : Int32) (c1 : Int32) (c2 : Int32) (c3 : Int32) (h0 : Heap) (n0 : Nat) (Z0 : n0 ≤ h0.size) (V1 : Arv Z h0 a1 kc1 .char (4 : Int32) [(.int c0), (.int c1), (.int c2), (.int c3)] (.int (0 : Int32))) (V2 : Arv Z h0 b1 kc2 .byte (4 : Int32) [(.int (0 : Int32)), (.int (0 : Int32)), (.int (0 : Int32)), (.int (0 : Int32))] (.int (0 : Int32))) (g1 : n0 ≤ b1) (ne1 : a1 ≠ b1) (hl0 : ¬ ((255 : Int32) < c0)) (hl1 : ¬ ((255 : Int32) < c1)) (hl2 : ¬ ((255 : Int32) < c2)) (hl3 : ¬ ((255 : Int32) < c3)) :
    MF l Z (⟨"java/lang/StringUTF16", "compress", "([CI[BII)I"⟩ : MethodName) jdk_52_method_21_code 7 (some .int) ws (rmm 0 0 0 0) #[(.ref a1), (.int (0 : Int32)), (.ref b1), (.int (0 : Int32)), (.int (4 : Int32))] h0 (QC2_4 Z a1 kc1 b1 kc2 c0 c1 c2 c3 h0 n0) := by
  refine MetFree.of_bodySF (plainFor_of_name pn_java_lang_StringUTF16) hisR ?_
  intro p e s m args below meth c s₁ Bd hml0 hP hK
  obtain ⟨rfl, hZ, hh⟩ := hP
  have hx := Bd.exec
  have hby := Bd.bytes
  have hlk : meth.locks = false := Bd.notSynchronized
  have hml : c.maxLocals = 7 := hml0
  have hown : s.vm.findClass "java/lang/StringUTF16" = some m.cls := findClass_of_methodNamed Bd.named
  have hnm := (name_of_methodNamed Bd.named Bd.method).1
  have X0 : Stand p l e (rmm 0 0 0 0) s m #[(.ref a1), (.int (0 : Int32)), (.ref b1), (.int (0 : Int32)), (.int (4 : Int32))] below meth c s₁ [] 0 0 := Stand.of_body Bd
  have e0 : s₁.heap = h0 := by rw [← hh, Bd.state]; rfl
  have N0 := Fr.nil n0
  show Go p e below (FinE s below (QC2_4 Z a1 kc1 b1 kc2 c0 c1 c2 c3 h0 n0) (rmm 0 0 0 0).cells (rmm 0 0 0 0).slots) (s₁.setTop (entryFrame m #[(.ref a1), (.int (0 : Int32)), (.ref b1), (.int (0 : Int32)), (.int (4 : Int32))] 7))
  refine Go.via (fun t k => castTop (ef_rmC2_4 m a1 b1) k) ?_
  refine Go.via (fun _ => XS.iconst X0.here hx rfl (hb hby d14_0)) ?_
  refine Go.via (fun _ => XS.istore X0.here hx rfl (hb hby d14_1) rfl (l' := #[rv a1, iv (0 : Int32), rv b1, iv (0 : Int32), iv (4 : Int32), iv (0 : Int32), .unset]) rfl) ?_
  refine Go.via (fun _ => XS.iload X0.here hx rfl (hb hby d14_3) rfl) ?_
  refine Go.via (fun _ => XS.iload X0.here hx rfl (hb hby d14_5) rfl) ?_
  refine Go.via (fun _ => XS.icmpNo X0.here hx rfl (hb hby d14_7) rfl (by decide)) ?_
  show Go p e below _ (s₁.setTop (mkF m 10 #[rv a1, iv (0 : Int32), rv b1, iv (0 : Int32), iv (4 : Int32), iv (0 : Int32), .unset] []))
  refine Go.via (fun _ => XS.aloadN X0.here hx rfl (hb hby d14_10) rfl rfl) ?_
  refine Go.via (fun _ => XS.iloadN X0.here hx rfl (hb hby d14_11) rfl) ?_
  obtain ⟨cl101, Ar101, q101, S101, N101n, H101, G101⟩ := id V1
  have hin101 := inb_of (j := (0 : Int32)) S101 (by decide)
  have hat101 : cl101.slots[((0 : Int32) : Int32).toNatClampNeg]? = some (.int c0) := H101.at hin101 rfl
  refine Go.via (X0.caload hx (j := (0 : Int32)) (v := (.int c0)) (by rw [e0]; exact Ar101.1) (State.isArrayOf_alike hZ.alike Ar101.2.1) Ar101.2.2 hin101 hat101 (g := (mkF m 12 #[rv a1, iv (0 : Int32), rv b1, iv (0 : Int32), iv (4 : Int32), iv (0 : Int32), .unset] [(.int (0 : Int32)), (.ref a1)])) rfl rfl (hb hby d14_12)) ?_
  refine Go.via (fun _ => XS.istore X0.here hx rfl (hb hby d14_13) rfl (l' := #[rv a1, iv (0 : Int32), rv b1, iv (0 : Int32), iv (4 : Int32), iv (0 : Int32), iv c0]) rfl) ?_
  refine Go.via (fun _ => XS.iload X0.here hx rfl (hb hby d14_15) rfl) ?_
  refine Go.via (fun _ => XS.sipush X0.here hx rfl (hb hby d14_17)) ?_
  show Go p e below _ (s₁.setTop (mkF m 20 #[rv a1, iv (0 : Int32), rv b1, iv (0 : Int32), iv (4 : Int32), iv (0 : Int32), iv c0] [(.int (255 : Int32)), (.int c0)]))
  refine Go.via (fun _ => XS.icmpYes X0.here hx rfl (pc0 := 20) (pc' := 26) rfl (hb hby d14_20) rfl (flt hl0).2.2.2 (by decide) (by decide)) ?_
  refine Go.via (fun _ => XS.aloadN X0.here hx rfl (hb hby d14_26) rfl rfl) ?_
  refine Go.via (fun _ => XS.iloadN X0.here hx rfl (hb hby d14_27) rfl) ?_
  refine Go.via (fun _ => XS.iload X0.here hx rfl (hb hby d14_28) rfl) ?_
  refine Go.via (fun _ => XS.i2b X0.here hx rfl (hb hby d14_30) rfl) ?_
  obtain ⟨cl102, Ar102, q102, S102, N102n, H102, G102⟩ := id V2
  have hin102 := inb_of (j := (0 : Int32)) S102 (by decide)
  obtain ⟨T102, h102, X102, e102, W102, st102⟩ := stB X0 hx hZ e0 Ar102 (j := (0 : Int32)) hin102 (g := (mkF m 31 #[rv a1, iv (0 : Int32), rv b1, iv (0 : Int32), iv (4 : Int32), iv (0 : Int32), iv c0] [(.int (c0.toInt8.toInt32)), (.int (0 : Int32)), (.ref b1)])) rfl rfl (hb hby d14_31)
  refine Go.via st102 ?_
  have V102 : Arv Z h102 b1 kc2 .byte (4 : Int32) [(.int (nar .byte (c0.toInt8.toInt32))), (.int (0 : Int32)), (.int (0 : Int32)), (.int (0 : Int32))] (.int (0 : Int32)) := Arv.set Ar102 q102 S102 N102n H102 G102 (fits_nar_byte _) W102 0 rfl (Nat.le_of_ble_eq_true rfl)
  have Zs102 : n0 ≤ h102.size := Nat.le_trans Z0 (Keep.of_wr W102).1
  have K102 : Keep h0 h102 [b1] := (Keep.refl h0 [b1]).wr W102 (Or.inl (List.mem_of_getElem? (i := 0) rfl))
  have N102 := Fr.snoc X102 N0 g1
  have fV_a1_102 := V1.other W102 ne1
  show Go p e below _ (T102.setTop (mkF m 32 #[rv a1, iv (0 : Int32), rv b1, iv (0 : Int32), iv (4 : Int32), iv (0 : Int32), iv c0] []))
  refine Go.via (fun _ => XS.iinc X102.here hx rfl (hb hby d14_32) rfl (l' := #[rv a1, iv (1 : Int32), rv b1, iv (0 : Int32), iv (4 : Int32), iv (0 : Int32), iv c0]) rfl) ?_
  refine Go.via (fun _ => XS.iinc X102.here hx rfl (hb hby d14_35) rfl (l' := #[rv a1, iv (1 : Int32), rv b1, iv (1 : Int32), iv (4 : Int32), iv (0 : Int32), iv c0]) rfl) ?_
  refine Go.via (fun _ => XS.iinc X102.here hx rfl (hb hby d14_38) rfl (l' := #[rv a1, iv (1 : Int32), rv b1, iv (1 : Int32), iv (4 : Int32), iv (1 : Int32), iv c0]) rfl) ?_
  refine Go.via (fun _ => XS.goto X102.here hx rfl (pc0 := 41) (pc' := 3) rfl (hb hby d14_41) (by decide) (by decide)) ?_
  refine Go.via (fun _ => XS.iload X102.here hx rfl (hb hby d14_3) rfl) ?_
  refine Go.via (fun _ => XS.iload X102.here hx rfl (hb hby d14_5) rfl) ?_
  show Go p e below _ (T102.setTop (mkF m 7 #[rv a1, iv (1 : Int32), rv b1, iv (1 : Int32), iv (4 : Int32), iv (1 : Int32), iv c0] [(.int (4 : Int32)), (.int (1 : Int32))]))
  refine Go.via (fun _ => XS.icmpNo X102.here hx rfl (hb hby d14_7) rfl (by decide)) ?_
  refine Go.via (fun _ => XS.aloadN X102.here hx rfl (hb hby d14_10) rfl rfl) ?_
  refine Go.via (fun _ => XS.iloadN X102.here hx rfl (hb hby d14_11) rfl) ?_
  obtain ⟨cl103, Ar103, q103, S103, N103n, H103, G103⟩ := id fV_a1_102
  have hin103 := inb_of (j := (1 : Int32)) S103 (by decide)
  have hat103 : cl103.slots[((1 : Int32) : Int32).toNatClampNeg]? = some (.int c1) := H103.at hin103 rfl
  refine Go.via (X102.caload hx (j := (1 : Int32)) (v := (.int c1)) (by rw [e102]; exact Ar103.1) (State.isArrayOf_alike hZ.alike Ar103.2.1) Ar103.2.2 hin103 hat103 (g := (mkF m 12 #[rv a1, iv (1 : Int32), rv b1, iv (1 : Int32), iv (4 : Int32), iv (1 : Int32), iv c0] [(.int (1 : Int32)), (.ref a1)])) rfl rfl (hb hby d14_12)) ?_
  refine Go.via (fun _ => XS.istore X102.here hx rfl (hb hby d14_13) rfl (l' := #[rv a1, iv (1 : Int32), rv b1, iv (1 : Int32), iv (4 : Int32), iv (1 : Int32), iv c1]) rfl) ?_
  refine Go.via (fun _ => XS.iload X102.here hx rfl (hb hby d14_15) rfl) ?_
  show Go p e below _ (T102.setTop (mkF m 17 #[rv a1, iv (1 : Int32), rv b1, iv (1 : Int32), iv (4 : Int32), iv (1 : Int32), iv c1] [(.int c1)]))
  refine Go.via (fun _ => XS.sipush X102.here hx rfl (hb hby d14_17)) ?_
  refine Go.via (fun _ => XS.icmpYes X102.here hx rfl (pc0 := 20) (pc' := 26) rfl (hb hby d14_20) rfl (flt hl1).2.2.2 (by decide) (by decide)) ?_
  refine Go.via (fun _ => XS.aloadN X102.here hx rfl (hb hby d14_26) rfl rfl) ?_
  refine Go.via (fun _ => XS.iloadN X102.here hx rfl (hb hby d14_27) rfl) ?_
  refine Go.via (fun _ => XS.iload X102.here hx rfl (hb hby d14_28) rfl) ?_
  refine Go.via (fun _ => XS.i2b X102.here hx rfl (hb hby d14_30) rfl) ?_
  show Go p e below _ (T102.setTop (mkF m 31 #[rv a1, iv (1 : Int32), rv b1, iv (1 : Int32), iv (4 : Int32), iv (1 : Int32), iv c1] [(.int (c1.toInt8.toInt32)), (.int (1 : Int32)), (.ref b1)]))
  obtain ⟨cl104, Ar104, q104, S104, N104n, H104, G104⟩ := id V102
  have hin104 := inb_of (j := (1 : Int32)) S104 (by decide)
  obtain ⟨T104, h104, X104, e104, W104, st104⟩ := stB X102 hx hZ e102 Ar104 (j := (1 : Int32)) hin104 (g := (mkF m 31 #[rv a1, iv (1 : Int32), rv b1, iv (1 : Int32), iv (4 : Int32), iv (1 : Int32), iv c1] [(.int (c1.toInt8.toInt32)), (.int (1 : Int32)), (.ref b1)])) rfl rfl (hb hby d14_31)
  refine Go.via st104 ?_
  have V104 : Arv Z h104 b1 kc2 .byte (4 : Int32) [(.int (nar .byte (c0.toInt8.toInt32))), (.int (nar .byte (c1.toInt8.toInt32))), (.int (0 : Int32)), (.int (0 : Int32))] (.int (0 : Int32)) := Arv.set Ar104 q104 S104 N104n H104 G104 (fits_nar_byte _) W104 1 rfl (Nat.le_of_ble_eq_true rfl)
  have Zs104 : n0 ≤ h104.size := Nat.le_trans Zs102 (Keep.of_wr W104).1
  have K104 : Keep h0 h104 [b1] := K102.wr W104 (Or.inl (List.mem_of_getElem? (i := 0) rfl))
  have N104 := Fr.snoc X104 N102 g1
  have fV_a1_104 := fV_a1_102.other W104 ne1
  refine Go.via (fun _ => XS.iinc X104.here hx rfl (hb hby d14_32) rfl (l' := #[rv a1, iv (2 : Int32), rv b1, iv (1 : Int32), iv (4 : Int32), iv (1 : Int32), iv c1]) rfl) ?_
  refine Go.via (fun _ => XS.iinc X104.here hx rfl (hb hby d14_35) rfl (l' := #[rv a1, iv (2 : Int32), rv b1, iv (2 : Int32), iv (4 : Int32), iv (1 : Int32), iv c1]) rfl) ?_
  refine Go.via (fun _ => XS.iinc X104.here hx rfl (hb hby d14_38) rfl (l' := #[rv a1, iv (2 : Int32), rv b1, iv (2 : Int32), iv (4 : Int32), iv (2 : Int32), iv c1]) rfl) ?_
  refine Go.via (fun _ => XS.goto X104.here hx rfl (pc0 := 41) (pc' := 3) rfl (hb hby d14_41) (by decide) (by decide)) ?_
  refine Go.via (fun _ => XS.iload X104.here hx rfl (hb hby d14_3) rfl) ?_
  show Go p e below _ (T104.setTop (mkF m 5 #[rv a1, iv (2 : Int32), rv b1, iv (2 : Int32), iv (4 : Int32), iv (2 : Int32), iv c1] [(.int (2 : Int32))]))
  refine Go.via (fun _ => XS.iload X104.here hx rfl (hb hby d14_5) rfl) ?_
  refine Go.via (fun _ => XS.icmpNo X104.here hx rfl (hb hby d14_7) rfl (by decide)) ?_
  refine Go.via (fun _ => XS.aloadN X104.here hx rfl (hb hby d14_10) rfl rfl) ?_
  refine Go.via (fun _ => XS.iloadN X104.here hx rfl (hb hby d14_11) rfl) ?_
  obtain ⟨cl105, Ar105, q105, S105, N105n, H105, G105⟩ := id fV_a1_104
  have hin105 := inb_of (j := (2 : Int32)) S105 (by decide)
  have hat105 : cl105.slots[((2 : Int32) : Int32).toNatClampNeg]? = some (.int c2) := H105.at hin105 rfl
  refine Go.via (X104.caload hx (j := (2 : Int32)) (v := (.int c2)) (by rw [e104]; exact Ar105.1) (State.isArrayOf_alike hZ.alike Ar105.2.1) Ar105.2.2 hin105 hat105 (g := (mkF m 12 #[rv a1, iv (2 : Int32), rv b1, iv (2 : Int32), iv (4 : Int32), iv (2 : Int32), iv c1] [(.int (2 : Int32)), (.ref a1)])) rfl rfl (hb hby d14_12)) ?_
  refine Go.via (fun _ => XS.istore X104.here hx rfl (hb hby d14_13) rfl (l' := #[rv a1, iv (2 : Int32), rv b1, iv (2 : Int32), iv (4 : Int32), iv (2 : Int32), iv c2]) rfl) ?_
  show Go p e below _ (T104.setTop (mkF m 15 #[rv a1, iv (2 : Int32), rv b1, iv (2 : Int32), iv (4 : Int32), iv (2 : Int32), iv c2] []))
  refine Go.via (fun _ => XS.iload X104.here hx rfl (hb hby d14_15) rfl) ?_
  refine Go.via (fun _ => XS.sipush X104.here hx rfl (hb hby d14_17)) ?_
  refine Go.via (fun _ => XS.icmpYes X104.here hx rfl (pc0 := 20) (pc' := 26) rfl (hb hby d14_20) rfl (flt hl2).2.2.2 (by decide) (by decide)) ?_
  refine Go.via (fun _ => XS.aloadN X104.here hx rfl (hb hby d14_26) rfl rfl) ?_
  refine Go.via (fun _ => XS.iloadN X104.here hx rfl (hb hby d14_27) rfl) ?_
  refine Go.via (fun _ => XS.iload X104.here hx rfl (hb hby d14_28) rfl) ?_
  show Go p e below _ (T104.setTop (mkF m 30 #[rv a1, iv (2 : Int32), rv b1, iv (2 : Int32), iv (4 : Int32), iv (2 : Int32), iv c2] [(.int c2), (.int (2 : Int32)), (.ref b1)]))
  refine Go.via (fun _ => XS.i2b X104.here hx rfl (hb hby d14_30) rfl) ?_
  obtain ⟨cl106, Ar106, q106, S106, N106n, H106, G106⟩ := id V104
  have hin106 := inb_of (j := (2 : Int32)) S106 (by decide)
  obtain ⟨T106, h106, X106, e106, W106, st106⟩ := stB X104 hx hZ e104 Ar106 (j := (2 : Int32)) hin106 (g := (mkF m 31 #[rv a1, iv (2 : Int32), rv b1, iv (2 : Int32), iv (4 : Int32), iv (2 : Int32), iv c2] [(.int (c2.toInt8.toInt32)), (.int (2 : Int32)), (.ref b1)])) rfl rfl (hb hby d14_31)
  refine Go.via st106 ?_
  have V106 : Arv Z h106 b1 kc2 .byte (4 : Int32) [(.int (nar .byte (c0.toInt8.toInt32))), (.int (nar .byte (c1.toInt8.toInt32))), (.int (nar .byte (c2.toInt8.toInt32))), (.int (0 : Int32))] (.int (0 : Int32)) := Arv.set Ar106 q106 S106 N106n H106 G106 (fits_nar_byte _) W106 2 rfl (Nat.le_of_ble_eq_true rfl)
  have Zs106 : n0 ≤ h106.size := Nat.le_trans Zs104 (Keep.of_wr W106).1
  have K106 : Keep h0 h106 [b1] := K104.wr W106 (Or.inl (List.mem_of_getElem? (i := 0) rfl))
  have N106 := Fr.snoc X106 N104 g1
  have fV_a1_106 := fV_a1_104.other W106 ne1
  refine Go.via (fun _ => XS.iinc X106.here hx rfl (hb hby d14_32) rfl (l' := #[rv a1, iv (3 : Int32), rv b1, iv (2 : Int32), iv (4 : Int32), iv (2 : Int32), iv c2]) rfl) ?_
  refine Go.via (fun _ => XS.iinc X106.here hx rfl (hb hby d14_35) rfl (l' := #[rv a1, iv (3 : Int32), rv b1, iv (3 : Int32), iv (4 : Int32), iv (2 : Int32), iv c2]) rfl) ?_
  refine Go.via (fun _ => XS.iinc X106.here hx rfl (hb hby d14_38) rfl (l' := #[rv a1, iv (3 : Int32), rv b1, iv (3 : Int32), iv (4 : Int32), iv (3 : Int32), iv c2]) rfl) ?_
  refine Go.via (fun _ => XS.goto X106.here hx rfl (pc0 := 41) (pc' := 3) rfl (hb hby d14_41) (by decide) (by decide)) ?_
  show Go p e below _ (T106.setTop (mkF m 3 #[rv a1, iv (3 : Int32), rv b1, iv (3 : Int32), iv (4 : Int32), iv (3 : Int32), iv c2] []))
  refine Go.via (fun _ => XS.iload X106.here hx rfl (hb hby d14_3) rfl) ?_
  refine Go.via (fun _ => XS.iload X106.here hx rfl (hb hby d14_5) rfl) ?_
  refine Go.via (fun _ => XS.icmpNo X106.here hx rfl (hb hby d14_7) rfl (by decide)) ?_
  refine Go.via (fun _ => XS.aloadN X106.here hx rfl (hb hby d14_10) rfl rfl) ?_
  refine Go.via (fun _ => XS.iloadN X106.here hx rfl (hb hby d14_11) rfl) ?_
  obtain ⟨cl107, Ar107, q107, S107, N107n, H107, G107⟩ := id fV_a1_106
  have hin107 := inb_of (j := (3 : Int32)) S107 (by decide)
  have hat107 : cl107.slots[((3 : Int32) : Int32).toNatClampNeg]? = some (.int c3) := H107.at hin107 rfl
  refine Go.via (X106.caload hx (j := (3 : Int32)) (v := (.int c3)) (by rw [e106]; exact Ar107.1) (State.isArrayOf_alike hZ.alike Ar107.2.1) Ar107.2.2 hin107 hat107 (g := (mkF m 12 #[rv a1, iv (3 : Int32), rv b1, iv (3 : Int32), iv (4 : Int32), iv (3 : Int32), iv c2] [(.int (3 : Int32)), (.ref a1)])) rfl rfl (hb hby d14_12)) ?_
  show Go p e below _ (T106.setTop (mkF m 13 #[rv a1, iv (3 : Int32), rv b1, iv (3 : Int32), iv (4 : Int32), iv (3 : Int32), iv c2] [(.int c3)]))
  refine Go.via (fun _ => XS.istore X106.here hx rfl (hb hby d14_13) rfl (l' := #[rv a1, iv (3 : Int32), rv b1, iv (3 : Int32), iv (4 : Int32), iv (3 : Int32), iv c3]) rfl) ?_
  refine Go.via (fun _ => XS.iload X106.here hx rfl (hb hby d14_15) rfl) ?_
  refine Go.via (fun _ => XS.sipush X106.here hx rfl (hb hby d14_17)) ?_
  refine Go.via (fun _ => XS.icmpYes X106.here hx rfl (pc0 := 20) (pc' := 26) rfl (hb hby d14_20) rfl (flt hl3).2.2.2 (by decide) (by decide)) ?_
  refine Go.via (fun _ => XS.aloadN X106.here hx rfl (hb hby d14_26) rfl rfl) ?_
  refine Go.via (fun _ => XS.iloadN X106.here hx rfl (hb hby d14_27) rfl) ?_
  show Go p e below _ (T106.setTop (mkF m 28 #[rv a1, iv (3 : Int32), rv b1, iv (3 : Int32), iv (4 : Int32), iv (3 : Int32), iv c3] [(.int (3 : Int32)), (.ref b1)]))
  refine Go.via (fun _ => XS.iload X106.here hx rfl (hb hby d14_28) rfl) ?_
  refine Go.via (fun _ => XS.i2b X106.here hx rfl (hb hby d14_30) rfl) ?_
  obtain ⟨cl108, Ar108, q108, S108, N108n, H108, G108⟩ := id V106
  have hin108 := inb_of (j := (3 : Int32)) S108 (by decide)
  obtain ⟨T108, h108, X108, e108, W108, st108⟩ := stB X106 hx hZ e106 Ar108 (j := (3 : Int32)) hin108 (g := (mkF m 31 #[rv a1, iv (3 : Int32), rv b1, iv (3 : Int32), iv (4 : Int32), iv (3 : Int32), iv c3] [(.int (c3.toInt8.toInt32)), (.int (3 : Int32)), (.ref b1)])) rfl rfl (hb hby d14_31)
  refine Go.via st108 ?_
  have V108 : Arv Z h108 b1 kc2 .byte (4 : Int32) [(.int (nar .byte (c0.toInt8.toInt32))), (.int (nar .byte (c1.toInt8.toInt32))), (.int (nar .byte (c2.toInt8.toInt32))), (.int (nar .byte (c3.toInt8.toInt32)))] (.int (0 : Int32)) := Arv.set Ar108 q108 S108 N108n H108 G108 (fits_nar_byte _) W108 3 rfl (Nat.le_of_ble_eq_true rfl)
  have Zs108 : n0 ≤ h108.size := Nat.le_trans Zs106 (Keep.of_wr W108).1
  have K108 : Keep h0 h108 [b1] := K106.wr W108 (Or.inl (List.mem_of_getElem? (i := 0) rfl))
  have N108 := Fr.snoc X108 N106 g1
  have fV_a1_108 := fV_a1_106.other W108 ne1
  refine Go.via (fun _ => XS.iinc X108.here hx rfl (hb hby d14_32) rfl (l' := #[rv a1, iv (4 : Int32), rv b1, iv (3 : Int32), iv (4 : Int32), iv (3 : Int32), iv c3]) rfl) ?_
  refine Go.via (fun _ => XS.iinc X108.here hx rfl (hb hby d14_35) rfl (l' := #[rv a1, iv (4 : Int32), rv b1, iv (4 : Int32), iv (4 : Int32), iv (3 : Int32), iv c3]) rfl) ?_
  refine Go.via (fun _ => XS.iinc X108.here hx rfl (hb hby d14_38) rfl (l' := #[rv a1, iv (4 : Int32), rv b1, iv (4 : Int32), iv (4 : Int32), iv (4 : Int32), iv c3]) rfl) ?_
  show Go p e below _ (T108.setTop (mkF m 41 #[rv a1, iv (4 : Int32), rv b1, iv (4 : Int32), iv (4 : Int32), iv (4 : Int32), iv c3] []))
  refine Go.via (fun _ => XS.goto X108.here hx rfl (pc0 := 41) (pc' := 3) rfl (hb hby d14_41) (by decide) (by decide)) ?_
  refine Go.via (fun _ => XS.iload X108.here hx rfl (hb hby d14_3) rfl) ?_
  refine Go.via (fun _ => XS.iload X108.here hx rfl (hb hby d14_5) rfl) ?_
  refine Go.via (fun _ => XS.icmpYes X108.here hx rfl (pc0 := 7) (pc' := 44) rfl (hb hby d14_7) rfl (by decide) (by decide) (by decide)) ?_
  refine Go.via (fun _ => XS.iload X108.here hx rfl (hb hby d14_44) rfl) ?_
  exact own_retI X108 hx hlk Bd.returns (hb hby d14_46) (by show QC2_4 Z a1 kc1 b1 kc2 c0 c1 c2 c3 h0 n0 _ T108.heap _; rw [e108]; exact ⟨rfl, N108, K108, V108⟩) (by decide) (by decide)
theorem ef_rmC1_4 (m : MethodId) (x0 : Addr) : entryFrame m #[(.ref x0), (.int (0 : Int32)), (.int (4 : Int32))] 6 = mkF m 0 #[rv x0, iv (0 : Int32), iv (4 : Int32), .unset, .unset, .unset] [] := by first | (simp [entryFrame, mkF, argsToLocals, Value.category]; done) | rfl
def QC1_4 (Z : State) (a1 : Addr) (kc1 : ClassId) (c0 : Int32) (c1 : Int32) (c2 : Int32) (c3 : Int32) (h0 : Heap) (n0 : Nat) (v : Option Value) (h : Heap) (L : List Loc) : Prop := ∃ (t : Addr) (kb : ClassId), v = some (.ref t) ∧ Fr n0 L ∧ Keep h0 h [] ∧ h0.size ≤ t ∧ Arv Z h t kb .byte (4 : Int32) [(.int (nar .byte (c0.toInt8.toInt32))), (.int (nar .byte (c1.toInt8.toInt32))), (.int (nar .byte (c2.toInt8.toInt32))), (.int (nar .byte (c3.toInt8.toInt32)))] (.int (0 : Int32))
set_option maxRecDepth 65536 in
set_option maxHeartbeats 40000000 in
theorem rmC1_4 (l : Launch) (Z : State) (a0 : Array Value) (hw : TW Z a0) (ws : List Jvm.Cond) (a1 : Addr) (kc1 : ClassId) (c0 : Int32) (c1 : Int32) (c2 : Int32) (c3 : Int32) (h0 : Heap) (n0 : Nat) (Z0 : n0 ≤ h0.size) (V1 : Arv Z h0 a1 kc1 .char (4 : Int32) [(.int c0), (.int c1), (.int c2), (.int c3)] (.int (0 : Int32))) (hl0 : ¬ ((255 : Int32) < c0)) (hl1 : ¬ ((255 : Int32) < c1)) (hl2 : ¬ ((255 : Int32) < c2)) (hl3 : ¬ ((255 : Int32) < c3)) :
    MF l Z (⟨"java/lang/StringUTF16", "compress", "([CII)[B"⟩ : MethodName) jdk_52_method_16_code 6 (some (.array .byte)) ws (rmm 1 1 4 18) #[(.ref a1), (.int (0 : Int32)), (.int (4 : Int32))] h0 (QC1_4 Z a1 kc1 c0 c1 c2 c3 h0 n0) := by
  refine MetFree.of_bodySF (plainFor_of_name pn_java_lang_StringUTF16) hisR ?_
  intro p e s m args below meth c s₁ Bd hml0 hP hK
  obtain ⟨rfl, hZ, hh⟩ := hP
  have hx := Bd.exec
  have hby := Bd.bytes
  have hlk : meth.locks = false := Bd.notSynchronized
  have hml : c.maxLocals = 6 := hml0
  have hown : s.vm.findClass "java/lang/StringUTF16" = some m.cls := findClass_of_methodNamed Bd.named
  have hnm := (name_of_methodNamed Bd.named Bd.method).1
  have X0 : Stand p l e (rmm 1 1 4 18) s m #[(.ref a1), (.int (0 : Int32)), (.int (4 : Int32))] below meth c s₁ [] 0 0 := Stand.of_body Bd
  have e0 : s₁.heap = h0 := by rw [← hh, Bd.state]; rfl
  have N0 := Fr.nil n0
  show Go p e below (FinE s below (QC1_4 Z a1 kc1 c0 c1 c2 c3 h0 n0) (rmm 1 1 4 18).cells (rmm 1 1 4 18).slots) (s₁.setTop (entryFrame m #[(.ref a1), (.int (0 : Int32)), (.int (4 : Int32))] 6))
  refine Go.via (fun t k => castTop (ef_rmC1_4 m a1) k) ?_
  refine Go.via (fun _ => XS.iloadN X0.here hx rfl (hb hby d13_0) rfl) ?_
  obtain ⟨T101, h101, k101, X101, e101, E101, A101, st101⟩ := newP X0 hx hZ (ow hw 14 rfl) e0 (g := (mkF m 1 #[rv a1, iv (0 : Int32), iv (4 : Int32), .unset, .unset, .unset] [(.int (4 : Int32))])) rfl (hb hby d13_1) rfl (by decide) (cap := 4) (by decide) (by decide) (by decide) (by decide)
  obtain ⟨b101, g101⟩ : ∃ z, z = h0.size := ⟨_, rfl⟩
  rw [← g101] at A101 st101
  have g_b101 : n0 ≤ b101 := Nat.le_trans Z0 (Nat.le_of_eq g101.symm)
  have ne_a1_b101 : a1 ≠ b101 := Nat.ne_of_lt (Nat.lt_of_lt_of_le V1.lt (Nat.le_of_eq g101.symm))
  have sz_b101 : h0.size ≤ b101 := Nat.le_trans (Keep.refl h0 []).1 (Nat.le_of_eq g101.symm)
  refine Go.via st101 ?_
  have Zs101 : n0 ≤ h101.size := Nat.le_trans Z0 E101.1
  have K101 : Keep h0 h101 [] := (Keep.refl h0 []).ext E101
  have fV_a1_101 := V1.ext E101
  have V_b101 : Arv Z h101 b101 k101 .byte (4 : Int32) [(.int (0 : Int32)), (.int (0 : Int32)), (.int (0 : Int32)), (.int (0 : Int32))] (.int (0 : Int32)) := (Arv.new A101 (by decide)).pad (pad_rep [] (.int (0 : Int32)) 4)
  refine Go.via (fun _ => XS.astoreN X101.here hx rfl (hb hby d13_3) rfl rfl (l' := #[rv a1, iv (0 : Int32), iv (4 : Int32), rv b101, .unset, .unset]) rfl) ?_
  refine Go.via (fun _ => XS.aloadN X101.here hx rfl (hb hby d13_4) rfl rfl) ?_
  refine Go.via (fun _ => XS.iloadN X101.here hx rfl (hb hby d13_5) rfl) ?_
  show Go p e below _ (T101.setTop (mkF m 6 #[rv a1, iv (0 : Int32), iv (4 : Int32), rv b101, .unset, .unset] [(.int (0 : Int32)), (.ref a1)]))
  refine Go.via (fun _ => XS.aloadN X101.here hx rfl (hb hby d13_6) rfl rfl) ?_
  refine Go.via (fun _ => XS.iconst X101.here hx rfl (hb hby d13_7)) ?_
  refine Go.via (fun _ => XS.iloadN X101.here hx rfl (hb hby d13_8) rfl) ?_
  obtain ⟨_, _, ⟨T102, L102, k102, n102⟩, -, X102, ⟨Lc102, hQ102, l102, y102, z102⟩, st102⟩ := Jvm.LawKit.callS X101 hx (y := (⟨"java/lang/StringUTF16", "compress", "([CI[BII)I"⟩ : MethodName)) hown (mvT hZ (ow hw 83 rfl)) (mvT hZ (ow hw 84 rfl)) (mvT hZ (ow hw 81 rfl)) (mvT hZ (ow hw 85 rfl)) (by decide) (backOf (W := 0) (rmC2_4 l Z a0 hw [] a1 kc1 b101 k101 c0 c1 c2 c3 h101 n0 Zs101 fV_a1_101 V_b101 g_b101 ne_a1_b101 hl0 hl1 hl2 hl3) hZ (ow hw 85 rfl) (ow hw 81 rfl) (by decide) (by decide)) (g := (mkF m 9 #[rv a1, iv (0 : Int32), iv (4 : Int32), rv b101, .unset, .unset] [(.int (4 : Int32)), (.int (0 : Int32)), (.ref b101), (.int (0 : Int32)), (.ref a1)])) rfl (by rw [hml]; rfl) (argsL := [(.ref a1), (.int (0 : Int32)), (.ref b101), (.int (0 : Int32)), (.int (4 : Int32))]) (rest := []) (lenOf pd_6 rfl) rfl (by show 2 * 0 + _ ≤ _; exact Nat.le_of_eq rfl) (hb hby d13_9) (fun _ _ => ⟨rfl, e101, (by decide : 1 + 0 ≤ _), (by decide : 4 + 0 ≤ _)⟩)
  dsimp only [Pt.U, Pt.locs, Pt.cells, Pt.slots] at X102 l102 y102 z102 st102 hQ102
  rw [l102, y102, z102] at X102
  replace X102 : Stand p l e _ _ m _ below meth c T102 _ 1 4 := X102
  obtain ⟨rfl, N102q, K102q, va102⟩ := hQ102
  have N102 := Fr.app N0 N102q
  refine Go.via st102 ?_
  have Zs102 : n0 ≤ T102.heap.size := Nat.le_trans Zs101 K102q.1
  have K102 : Keep h0 T102.heap [] := K101.trans K102q (allS (Or.inr sz_b101) all0)
  have fV_a1_102 := fV_a1_101.keep K102q (ninS ne_a1_b101 nin0)
  refine Go.via (fun _ => XS.istore X102.here hx rfl (hb hby d13_12) rfl (l' := #[rv a1, iv (0 : Int32), iv (4 : Int32), rv b101, iv (4 : Int32), .unset]) rfl) ?_
  refine Go.via (fun _ => XS.iload X102.here hx rfl (hb hby d13_14) rfl) ?_
  show Go p e below _ (T102.setTop (mkF m 16 #[rv a1, iv (0 : Int32), iv (4 : Int32), rv b101, iv (4 : Int32), .unset] [(.int (4 : Int32))]))
  refine Go.via (fun _ => XS.iloadN X102.here hx rfl (hb hby d13_16) rfl) ?_
  refine Go.via (fun _ => XS.icmpYes X102.here hx rfl (pc0 := 17) (pc' := 57) rfl (hb hby d13_17) rfl (by decide) (by decide) (by decide)) ?_
  refine Go.via (fun _ => XS.aloadN X102.here hx rfl (hb hby d13_57) rfl rfl) ?_
  exact own_retA X102 hx hlk Bd.returns rfl rfl (hb hby d13_58) (by show QC1_4 Z a1 kc1 c0 c1 c2 c3 h0 n0 _ T102.heap _; exact ⟨b101, k101, rfl, N102, K102, sz_b101, va102⟩) (by decide) (by decide)
theorem ef_rmCL_4_4 (m : MethodId) (x0 : Addr) : entryFrame m #[(.ref x0), (.int (4 : Int32))] 2 = mkF m 0 #[rv x0, iv (4 : Int32)] [] := by first | (simp [entryFrame, mkF, argsToLocals, Value.category]; done) | rfl
def QCL_4_4 (Z : State) (b1 : Addr) (kc2 : ClassId) (vs : List Value) (h0 : Heap) (n0 : Nat) (v : Option Value) (h : Heap) (L : List Loc) : Prop := v = some (.int (0 : Int32)) ∧ Fr n0 L ∧ h = h0
set_option maxRecDepth 65536 in
set_option maxHeartbeats 40000000 in
theorem rmCL_4_4 (l : Launch) (Z : State) (a0 : Array Value) (hw : TW Z a0) (ws : List Jvm.Cond) (b1 : Addr) (kc2 : ClassId) (vs : List Value) (h0 : Heap) (n0 : Nat) (Z0 : n0 ≤ h0.size) (V2 : Arv Z h0 b1 kc2 .byte (4 : Int32) vs (.int (0 : Int32))) :
    MF l Z (⟨"java/lang/StringUTF16", "coderFromArrayLen", "([BI)B"⟩ : MethodName) jdk_52_method_15_code 2 (some .byte) ws (rmm 0 0 0 0) #[(.ref b1), (.int (4 : Int32))] h0 (QCL_4_4 Z b1 kc2 vs h0 n0) := by
  refine MetFree.of_bodySF (plainFor_of_name pn_java_lang_StringUTF16) hisR ?_
  intro p e s m args below meth c s₁ Bd hml0 hP hK
  obtain ⟨rfl, hZ, hh⟩ := hP
  have hx := Bd.exec
  have hby := Bd.bytes
  have hlk : meth.locks = false := Bd.notSynchronized
  have hml : c.maxLocals = 2 := hml0
  have hown : s.vm.findClass "java/lang/StringUTF16" = some m.cls := findClass_of_methodNamed Bd.named
  have hnm := (name_of_methodNamed Bd.named Bd.method).1
  have X0 : Stand p l e (rmm 0 0 0 0) s m #[(.ref b1), (.int (4 : Int32))] below meth c s₁ [] 0 0 := Stand.of_body Bd
  have e0 : s₁.heap = h0 := by rw [← hh, Bd.state]; rfl
  have N0 := Fr.nil n0
  show Go p e below (FinE s below (QCL_4_4 Z b1 kc2 vs h0 n0) (rmm 0 0 0 0).cells (rmm 0 0 0 0).slots) (s₁.setTop (entryFrame m #[(.ref b1), (.int (4 : Int32))] 2))
  refine Go.via (fun t k => castTop (ef_rmCL_4_4 m b1) k) ?_
  refine Go.via (fun _ => XS.iloadN X0.here hx rfl (hb hby d15_0) rfl) ?_
  refine Go.via (fun _ => XS.aloadN X0.here hx rfl (hb hby d15_1) rfl rfl) ?_
  obtain ⟨cl101, Ar101, -, S101, N101n, -, -⟩ := id V2
  have al101 := X0.arraylength hx (by rw [e0]; exact Ar101.1) (State.isArrayOf_alike hZ.alike Ar101.2.1) (g := (mkF m 2 #[rv b1, iv (4 : Int32)] [(.ref b1), (.int (4 : Int32))])) rfl rfl (hb hby d15_2)
  rw [len_of S101 N101n] at al101
  refine Go.via al101 ?_
  refine Go.via (fun _ => XS.isub X0.here hx rfl (hb hby d15_3) rfl) ?_
  refine Go.via (fun _ => XS.bipush X0.here hx rfl (hb hby d15_4)) ?_
  show Go p e below _ (s₁.setTop (mkF m 6 #[rv b1, iv (4 : Int32)] [(.int (31 : Int32)), (.int (0 : Int32))]))
  refine Go.via (fun _ => XS.iushr X0.here hx rfl (hb hby d15_6) rfl) ?_
  refine Go.via (fun _ => XS.i2b X0.here hx rfl (hb hby d15_7) rfl) ?_
  exact own_retN X0 hx hlk (t := .byte) Bd.returns (by simp) (hb hby d15_8) (by show QCL_4_4 Z b1 kc2 vs h0 n0 _ s₁.heap _; rw [e0]; exact ⟨rfl, N0, rfl⟩) (by decide) (by decide)
theorem ef_rmI4_4 (m : MethodId) (x0 : Addr) (x1 : Addr) : entryFrame m #[(.ref x0), (.ref x1), (.int (0 : Int32)), (.int (4 : Int32)), .null] 6 = mkF m 0 #[rv x0, rv x1, iv (0 : Int32), iv (4 : Int32), .val .null, .unset] [] := by first | (simp [entryFrame, mkF, argsToLocals, Value.category]; done) | rfl
def QI4_4 (Z : State) (a1 : Addr) (a2 : Addr) (kc1 : ClassId) (c0 : Int32) (c1 : Int32) (c2 : Int32) (c3 : Int32) (ccs : Int32) (h0 : Heap) (n0 : Nat) (v : Option Value) (h : Heap) (L : List Loc) : Prop := v = none ∧ Fr n0 L ∧ Keep h0 h [a1] ∧ ∃ (t : Addr) (kb : ClassId), h0.size ≤ t ∧ Fld Z h a1 "java/lang/String" "value" "[B" (.ref t) ∧ Fld Z h a1 "java/lang/String" "coder" "B" (.int (0 : Int32)) ∧ Arv Z h t kb .byte (4 : Int32) [(.int (nar .byte (c0.toInt8.toInt32))), (.int (nar .byte (c1.toInt8.toInt32))), (.int (nar .byte (c2.toInt8.toInt32))), (.int (nar .byte (c3.toInt8.toInt32)))] (.int (0 : Int32))
set_option maxRecDepth 65536 in
set_option maxHeartbeats 40000000 in
theorem rmI4_4 (l : Launch) (Z : State) (a0 : Array Value) (hw : TW Z a0) (ws : List Jvm.Cond) (a1 : Addr) (a2 : Addr) (kc1 : ClassId) (c0 : Int32) (c1 : Int32) (c2 : Int32) (c3 : Int32) (ccs : Int32) (h0 : Heap) (n0 : Nat) (Z0 : n0 ≤ h0.size) (E1 : Exa Z h0 a1 "java/lang/String") (F1 : Fld Z h0 a1 "java/lang/String" "value" "[B" .null) (F2 : Fld Z h0 a1 "java/lang/String" "coder" "B" (.int (0 : Int32))) (g1 : n0 ≤ a1) (ne1 : a1 ≠ a2) (V1 : Arv Z h0 a2 kc1 .char (4 : Int32) [(.int c0), (.int c1), (.int c2), (.int c3)] (.int (0 : Int32))) (hl0 : ¬ ((255 : Int32) < c0)) (hl1 : ¬ ((255 : Int32) < c1)) (hl2 : ¬ ((255 : Int32) < c2)) (hl3 : ¬ ((255 : Int32) < c3)) (O0 : Old Z n0 h0) (S_CS : Sta Z Z.heap "java/lang/String" "COMPACT_STRINGS" "Z" (.int ccs)) (hcs : ¬ (ccs = (0 : Int32))) :
    MF l Z (⟨"java/lang/String", "<init>", "([CIILjava/lang/Void;)V"⟩ : MethodName) jdk_42_method_149_code 6 none ws (rmm 2 1 4 35) #[(.ref a1), (.ref a2), (.int (0 : Int32)), (.int (4 : Int32)), .null] h0 (QI4_4 Z a1 a2 kc1 c0 c1 c2 c3 ccs h0 n0) := by
  refine MetFree.of_bodySF (plainFor_of_name pn_java_lang_String) hisR ?_
  intro p e s m args below meth c s₁ Bd hml0 hP hK
  obtain ⟨rfl, hZ, hh⟩ := hP
  have hx := Bd.exec
  have hby := Bd.bytes
  have hlk : meth.locks = false := Bd.notSynchronized
  have hml : c.maxLocals = 6 := hml0
  have hown : s.vm.findClass "java/lang/String" = some m.cls := findClass_of_methodNamed Bd.named
  have hnm := (name_of_methodNamed Bd.named Bd.method).1
  have X0 : Stand p l e (rmm 2 1 4 35) s m #[(.ref a1), (.ref a2), (.int (0 : Int32)), (.int (4 : Int32)), .null] below meth c s₁ [] 0 0 := Stand.of_body Bd
  have e0 : s₁.heap = h0 := by rw [← hh, Bd.state]; rfl
  have N0 := Fr.nil n0
  show Go p e below (FinE s below (QI4_4 Z a1 a2 kc1 c0 c1 c2 c3 ccs h0 n0) (rmm 2 1 4 35).cells (rmm 2 1 4 35).slots) (s₁.setTop (entryFrame m #[(.ref a1), (.ref a2), (.int (0 : Int32)), (.int (4 : Int32)), .null] 6))
  refine Go.via (fun t k => castTop (ef_rmI4_4 m a1 a2) k) ?_
  refine Go.via (fun _ => XS.aloadN X0.here hx rfl (hb hby d12_0) rfl rfl) ?_
  obtain ⟨T101, X101, e101, st101⟩ := initO X0 hx hZ hown (ow hw 77 rfl) (ow hw 43 rfl) (ow hw 44 rfl) e0 (g := (mkF m 1 #[rv a1, rv a2, iv (0 : Int32), iv (4 : Int32), .val .null, .unset] [(.ref a1)])) rfl (by rw [hml]; rfl) rfl (hb hby d12_1) (by decide) (W := 0) (by show 2 * 0 + _ ≤ _; exact Nat.le_of_eq rfl) (by decide)
  refine Go.via st101 ?_
  refine Go.via (fun _ => XS.iloadN X101.here hx rfl (hb hby d12_4) rfl) ?_
  refine Go.via (fun _ => XS.ifYes X101.here hx rfl (pc0 := 5) (pc' := 27) rfl (hb hby d12_5) rfl (by decide) (by decide) (by decide)) ?_
  obtain ⟨T102, X102, e102, st102⟩ := getS2 X101 hx hZ hown (host := "") (Or.inl (ow hw 78 rfl)) Via.refl e101 (S_CS.ext O0.2) (g := (mkF m 27 #[rv a1, rv a2, iv (0 : Int32), iv (4 : Int32), .val .null, .unset] [])) rfl (hb hby d12_27)
  refine Go.via st102 ?_
  show Go p e below _ (T102.setTop (mkF m 30 #[rv a1, rv a2, iv (0 : Int32), iv (4 : Int32), .val .null, .unset] [(.int ccs)]))
  refine Go.via (fun _ => XS.ifNo X102.here hx rfl (hb hby d12_30) rfl ((if0 _ _).trans (feq hcs).1)) ?_
  refine Go.via (fun _ => XS.aloadN X102.here hx rfl (hb hby d12_33) rfl rfl) ?_
  refine Go.via (fun _ => XS.iloadN X102.here hx rfl (hb hby d12_34) rfl) ?_
  refine Go.via (fun _ => XS.iloadN X102.here hx rfl (hb hby d12_35) rfl) ?_
  obtain ⟨_, _, ⟨T103, L103, k103, n103⟩, -, X103, ⟨Lc103, hQ103, l103, y103, z103⟩, st103⟩ := Jvm.LawKit.callS X102 hx (y := (⟨"java/lang/StringUTF16", "compress", "([CII)[B"⟩ : MethodName)) hown (mvT hZ (ow hw 79 rfl)) (mvT hZ (ow hw 80 rfl)) (mvT hZ (ow hw 81 rfl)) (mvT hZ (ow hw 82 rfl)) (by decide) (backOf (W := 0) (rmC1_4 l Z a0 hw [] a2 kc1 c0 c1 c2 c3 h0 n0 Z0 V1 hl0 hl1 hl2 hl3) hZ (ow hw 82 rfl) (ow hw 81 rfl) (by decide) (by decide)) (g := (mkF m 36 #[rv a1, rv a2, iv (0 : Int32), iv (4 : Int32), .val .null, .unset] [(.int (4 : Int32)), (.int (0 : Int32)), (.ref a2)])) rfl (by rw [hml]; rfl) (argsL := [(.ref a2), (.int (0 : Int32)), (.int (4 : Int32))]) (rest := []) (lenOf pd_7 rfl) rfl (by show 2 * 0 + _ ≤ _; exact Nat.le_of_eq rfl) (hb hby d12_36) (fun _ _ => ⟨rfl, e102, (by decide : 0 + 1 ≤ _), (by decide : 0 + 4 ≤ _)⟩)
  dsimp only [Pt.U, Pt.locs, Pt.cells, Pt.slots] at X103 l103 y103 z103 st103 hQ103
  rw [l103, y103, z103] at X103
  replace X103 : Stand p l e _ _ m _ below meth c T103 _ 1 4 := X103
  obtain ⟨t103, kb103, rfl, N103q, K103q, gt103, va103⟩ := hQ103
  have N103 := Fr.app N0 N103q
  refine Go.via st103 ?_
  have Zs103 : n0 ≤ T103.heap.size := Nat.le_trans Z0 K103q.1
  have O103 : Old Z n0 T103.heap := O0.keep K103q all0
  have K103 : Keep h0 T103.heap [a1] := (Keep.refl h0 [a1]).trans K103q all0
  have fE_a1_103 := E1.keep K103q
  have fF_a1_value_103 := F1.keep K103q nin0
  have fF_a1_coder_103 := F2.keep K103q nin0
  have fV_a2_103 := V1.keep K103q nin0
  have g_t103 : n0 ≤ t103 := Nat.le_trans Z0 gt103
  have ne_a1_t103 : a1 ≠ t103 := Nat.ne_of_lt (Nat.lt_of_lt_of_le E1.lt gt103)
  have ne_a2_t103 : a2 ≠ t103 := Nat.ne_of_lt (Nat.lt_of_lt_of_le V1.lt gt103)
  have sz_t103 : h0.size ≤ t103 := Nat.le_trans (Keep.refl h0 [a1]).1 gt103
  refine Go.via (fun _ => XS.astore X103.here hx rfl (hb hby d12_39) rfl rfl (l' := #[rv a1, rv a2, iv (0 : Int32), iv (4 : Int32), .val .null, rv t103]) rfl) ?_
  show Go p e below _ (T103.setTop (mkF m 41 #[rv a1, rv a2, iv (0 : Int32), iv (4 : Int32), .val .null, rv t103] []))
  refine Go.via (fun _ => XS.aloadN X103.here hx rfl (hb hby d12_41) rfl rfl) ?_
  refine Go.via (fun _ => XS.aload X103.here hx rfl (hb hby d12_42) rfl rfl) ?_
  refine Go.via (fun _ => XS.iloadN X103.here hx rfl (hb hby d12_44) rfl) ?_
  obtain ⟨_, _, ⟨T104, L104, k104, n104⟩, -, X104, ⟨Lc104, hQ104, l104, y104, z104⟩, st104⟩ := Jvm.LawKit.callS X103 hx (y := (⟨"java/lang/StringUTF16", "coderFromArrayLen", "([BI)B"⟩ : MethodName)) hown (mvT hZ (ow hw 86 rfl)) (mvT hZ (ow hw 87 rfl)) (mvT hZ (ow hw 81 rfl)) (mvT hZ (ow hw 88 rfl)) (by decide) (backOf (W := 1) (rmCL_4_4 l Z a0 hw [] t103 kb103 _ T103.heap n0 Zs103 va103) hZ (ow hw 88 rfl) (ow hw 81 rfl) (by decide) (by decide)) (g := (mkF m 45 #[rv a1, rv a2, iv (0 : Int32), iv (4 : Int32), .val .null, rv t103] [(.int (4 : Int32)), (.ref t103), (.ref a1)])) rfl (by rw [hml]; rfl) (argsL := [(.ref t103), (.int (4 : Int32))]) (rest := [(.ref a1)]) (lenOf pd_8 rfl) rfl (by show 2 * 0 + _ ≤ _; exact Nat.le_of_eq rfl) (hb hby d12_45) (fun _ _ => ⟨rfl, rfl, (by decide : 1 + 0 ≤ _), (by decide : 4 + 0 ≤ _)⟩)
  dsimp only [Pt.U, Pt.locs, Pt.cells, Pt.slots] at X104 l104 y104 z104 st104 hQ104
  rw [l104, y104, z104] at X104
  replace X104 : Stand p l e _ _ m _ below meth c T104 _ 1 4 := X104
  obtain ⟨rfl, N104q, e104q⟩ := hQ104
  have N104 := Fr.app N103 N104q
  refine Go.via st104 ?_
  obtain ⟨T105, h105, X105, e105, W105, st105⟩ := putFN X104 hx hZ hown (ow hw 89 rfl) Via.refl e104q fF_a1_coder_103 fE_a1_103 (Or.inr ⟨(ow hw 16 rfl), rfl, hnm⟩) (ow hw 13 rfl) (ty := .byte) (v' := .int (nar .byte (0 : Int32))) (by decide) rfl (fits_nar_byte _) (g := (mkF m 48 #[rv a1, rv a2, iv (0 : Int32), iv (4 : Int32), .val .null, rv t103] [(.int (0 : Int32)), (.ref a1)])) rfl rfl (hb hby d12_48)
  refine Go.via st105 ?_
  have fF_a1_coder_105 : Fld Z h105 a1 "java/lang/String" "coder" "B" (.int (0 : Int32)) := fF_a1_coder_103.same W105
  have Zs105 : n0 ≤ h105.size := Nat.le_trans Zs103 (Keep.of_wr W105).1
  have O105 : Old Z n0 h105 := O103.wr W105 g1
  have K105 : Keep h0 h105 [a1] := K103.wr W105 (Or.inl (List.mem_of_getElem? (i := 0) rfl))
  have N105 := Fr.snoc X105 N104 g1
  have fE_a1_105 := fE_a1_103.wr W105
  have fF_a1_value_105 := fF_a1_value_103.other W105 (Or.inr (slot_ne (Or.inr (ow hw 15 rfl)) (Or.inr (ow hw 16 rfl)) (by decide) (t := (.array .byte)) (t' := .byte) (by decide) (by decide)))
  have fV_a2_105 := fV_a2_103.other W105 (Ne.symm ne1)
  have fV_t103_105 := va103.other W105 (Ne.symm ne_a1_t103)
  refine Go.via (fun _ => XS.aloadN X105.here hx rfl (hb hby d12_51) rfl rfl) ?_
  show Go p e below _ (T105.setTop (mkF m 52 #[rv a1, rv a2, iv (0 : Int32), iv (4 : Int32), .val .null, rv t103] [(.ref a1)]))
  refine Go.via (fun _ => XS.aload X105.here hx rfl (hb hby d12_52) rfl rfl) ?_
  obtain ⟨T106, h106, X106, e106, W106, st106⟩ := putF X105 hx hZ hown (host := "") (Or.inl (ow hw 90 rfl)) Via.refl e105 fF_a1_value_105 fE_a1_105 (Or.inr ⟨(ow hw 15 rfl), rfl, hnm⟩) (ow hw 13 rfl) (ty := (.array .byte)) (by decide) rfl rfl (g := (mkF m 54 #[rv a1, rv a2, iv (0 : Int32), iv (4 : Int32), .val .null, rv t103] [(.ref t103), (.ref a1)])) rfl rfl (hb hby d12_54)
  refine Go.via st106 ?_
  have fF_a1_value_106 : Fld Z h106 a1 "java/lang/String" "value" "[B" (.ref t103) := fF_a1_value_105.same W106
  have Zs106 : n0 ≤ h106.size := Nat.le_trans Zs105 (Keep.of_wr W106).1
  have O106 : Old Z n0 h106 := O105.wr W106 g1
  have K106 : Keep h0 h106 [a1] := K105.wr W106 (Or.inl (List.mem_of_getElem? (i := 0) rfl))
  have N106 := Fr.snoc X106 N105 g1
  have fE_a1_106 := fE_a1_105.wr W106
  have fF_a1_coder_106 := fF_a1_coder_105.other W106 (Or.inr (slot_ne (Or.inr (ow hw 16 rfl)) (Or.inr (ow hw 15 rfl)) (by decide) (t := .byte) (t' := (.array .byte)) (by decide) (by decide)))
  have fV_a2_106 := fV_a2_105.other W106 (Ne.symm ne1)
  have fV_t103_106 := fV_t103_105.other W106 (Ne.symm ne_a1_t103)
  exact own_retV X106 hx hlk Bd.returns (hb hby d12_57) (by show QI4_4 Z a1 a2 kc1 c0 c1 c2 c3 ccs h0 n0 _ T106.heap _; rw [e106]; exact ⟨rfl, N106, K106, t103, kb103, sz_t103, fF_a1_value_106, fF_a1_coder_106, fV_t103_106⟩) (by decide) (by decide)
theorem ef_rmI1_4 (m : MethodId) (x0 : Addr) (x1 : Addr) : entryFrame m #[(.ref x0), (.ref x1)] 2 = mkF m 0 #[rv x0, rv x1] [] := by first | (simp [entryFrame, mkF, argsToLocals, Value.category]; done) | rfl
def QI1_4 (Z : State) (a1 : Addr) (a2 : Addr) (kc1 : ClassId) (c0 : Int32) (c1 : Int32) (c2 : Int32) (c3 : Int32) (ccs : Int32) (h0 : Heap) (n0 : Nat) (v : Option Value) (h : Heap) (L : List Loc) : Prop := v = none ∧ Fr n0 L ∧ Keep h0 h [a1] ∧ ∃ (t : Addr) (kb : ClassId), h0.size ≤ t ∧ Fld Z h a1 "java/lang/String" "value" "[B" (.ref t) ∧ Fld Z h a1 "java/lang/String" "coder" "B" (.int (0 : Int32)) ∧ Arv Z h t kb .byte (4 : Int32) [(.int (nar .byte (c0.toInt8.toInt32))), (.int (nar .byte (c1.toInt8.toInt32))), (.int (nar .byte (c2.toInt8.toInt32))), (.int (nar .byte (c3.toInt8.toInt32)))] (.int (0 : Int32))
set_option maxRecDepth 65536 in
set_option maxHeartbeats 40000000 in
theorem rmI1_4 (l : Launch) (Z : State) (a0 : Array Value) (hw : TW Z a0) (ws : List Jvm.Cond) (a1 : Addr) (a2 : Addr) (kc1 : ClassId) (c0 : Int32) (c1 : Int32) (c2 : Int32) (c3 : Int32) (ccs : Int32) (h0 : Heap) (n0 : Nat) (Z0 : n0 ≤ h0.size) (E1 : Exa Z h0 a1 "java/lang/String") (F1 : Fld Z h0 a1 "java/lang/String" "value" "[B" .null) (F2 : Fld Z h0 a1 "java/lang/String" "coder" "B" (.int (0 : Int32))) (g1 : n0 ≤ a1) (ne1 : a1 ≠ a2) (V1 : Arv Z h0 a2 kc1 .char (4 : Int32) [(.int c0), (.int c1), (.int c2), (.int c3)] (.int (0 : Int32))) (hl0 : ¬ ((255 : Int32) < c0)) (hl1 : ¬ ((255 : Int32) < c1)) (hl2 : ¬ ((255 : Int32) < c2)) (hl3 : ¬ ((255 : Int32) < c3)) (O0 : Old Z n0 h0) (S_CS : Sta Z Z.heap "java/lang/String" "COMPACT_STRINGS" "Z" (.int ccs)) (hcs : ¬ (ccs = (0 : Int32))) :
    MF l Z (⟨"java/lang/String", "<init>", "([C)V"⟩ : MethodName) jdk_42_method_3_code 2 none ws (rmm 3 1 4 52) #[(.ref a1), (.ref a2)] h0 (QI1_4 Z a1 a2 kc1 c0 c1 c2 c3 ccs h0 n0) := by
  refine MetFree.of_bodySF (plainFor_of_name pn_java_lang_String) hisR ?_
  intro p e s m args below meth c s₁ Bd hml0 hP hK
  obtain ⟨rfl, hZ, hh⟩ := hP
  have hx := Bd.exec
  have hby := Bd.bytes
  have hlk : meth.locks = false := Bd.notSynchronized
  have hml : c.maxLocals = 2 := hml0
  have hown : s.vm.findClass "java/lang/String" = some m.cls := findClass_of_methodNamed Bd.named
  have hnm := (name_of_methodNamed Bd.named Bd.method).1
  have X0 : Stand p l e (rmm 3 1 4 52) s m #[(.ref a1), (.ref a2)] below meth c s₁ [] 0 0 := Stand.of_body Bd
  have e0 : s₁.heap = h0 := by rw [← hh, Bd.state]; rfl
  have N0 := Fr.nil n0
  show Go p e below (FinE s below (QI1_4 Z a1 a2 kc1 c0 c1 c2 c3 ccs h0 n0) (rmm 3 1 4 52).cells (rmm 3 1 4 52).slots) (s₁.setTop (entryFrame m #[(.ref a1), (.ref a2)] 2))
  refine Go.via (fun t k => castTop (ef_rmI1_4 m a1 a2) k) ?_
  refine Go.via (fun _ => XS.aloadN X0.here hx rfl (hb hby d11_0) rfl rfl) ?_
  refine Go.via (fun _ => XS.aloadN X0.here hx rfl (hb hby d11_1) rfl rfl) ?_
  refine Go.via (fun _ => XS.iconst X0.here hx rfl (hb hby d11_2)) ?_
  refine Go.via (fun _ => XS.aloadN X0.here hx rfl (hb hby d11_3) rfl rfl) ?_
  obtain ⟨cl101, Ar101, -, S101, N101n, -, -⟩ := id V1
  have al101 := X0.arraylength hx (by rw [e0]; exact Ar101.1) (State.isArrayOf_alike hZ.alike Ar101.2.1) (g := (mkF m 4 #[rv a1, rv a2] [(.ref a2), (.int (0 : Int32)), (.ref a2), (.ref a1)])) rfl rfl (hb hby d11_4)
  rw [len_of S101 N101n] at al101
  refine Go.via al101 ?_
  show Go p e below _ (s₁.setTop (mkF m 5 #[rv a1, rv a2] [(.int (4 : Int32)), (.int (0 : Int32)), (.ref a2), (.ref a1)]))
  refine Go.via (fun _ => XS.aconstNull X0.here hx rfl (hb hby d11_5)) ?_
  obtain ⟨_, _, ⟨T102, L102, k102, n102⟩, -, X102, ⟨Lc102, hQ102, l102, y102, z102⟩, st102⟩ := X0.specialBack hx (y := (⟨"java/lang/String", "<init>", "([CIILjava/lang/Void;)V"⟩ : MethodName)) rfl hown (mvT hZ (ow hw 73 rfl)) (mvT hZ (ow hw 74 rfl)) (mvT hZ (ow hw 76 rfl)) (by decide) (backOf (W := 0) (rmI4_4 l Z a0 hw [] a1 a2 kc1 c0 c1 c2 c3 ccs h0 n0 Z0 E1 F1 F2 g1 ne1 V1 hl0 hl1 hl2 hl3 O0 S_CS hcs) hZ (ow hw 76 rfl) (ow hw 12 rfl) (by decide) (by decide)) (g := (mkF m 6 #[rv a1, rv a2] [.null, (.int (4 : Int32)), (.int (0 : Int32)), (.ref a2), (.ref a1)])) rfl (by rw [hml]; rfl) (Steps.refl _) (a := a1) (argsL := [(.ref a2), (.int (0 : Int32)), (.int (4 : Int32)), .null]) (rest := []) (lenOf pd_5 rfl) rfl (by show 2 * 0 + _ ≤ _; exact Nat.le_of_eq rfl) (hb hby d11_6) (fun _ _ => ⟨rfl, e0, (by decide : 0 + 1 ≤ _), (by decide : 0 + 4 ≤ _)⟩)
  dsimp only [Pt.U, Pt.locs, Pt.cells, Pt.slots] at X102 l102 y102 z102 st102 hQ102
  rw [l102, y102, z102] at X102
  replace X102 : Stand p l e _ _ m _ below meth c T102 _ 1 4 := X102
  obtain ⟨rfl, N102q, K102q, t102, kb102, gt102, fv102, fc102, va102⟩ := hQ102
  have N102 := Fr.app N0 N102q
  refine Go.tr st102 ?_
  have Zs102 : n0 ≤ T102.heap.size := Nat.le_trans Z0 K102q.1
  have O102 : Old Z n0 T102.heap := O0.keep K102q (allS g1 all0)
  have fE_a1_102 := E1.keep K102q
  have fV_a2_102 := V1.keep K102q (ninS (Ne.symm ne1) nin0)
  exact own_retV X102 hx hlk Bd.returns (hb hby d11_9) (by show QI1_4 Z a1 a2 kc1 c0 c1 c2 c3 ccs h0 n0 _ T102.heap _; exact ⟨rfl, N102, K102q, t102, kb102, gt102, fv102, fc102, va102⟩) (by decide) (by decide)
theorem ef_rmC2_5 (m : MethodId) (x0 : Addr) (x2 : Addr) : entryFrame m #[(.ref x0), (.int (0 : Int32)), (.ref x2), (.int (0 : Int32)), (.int (5 : Int32))] 7 = mkF m 0 #[rv x0, iv (0 : Int32), rv x2, iv (0 : Int32), iv (5 : Int32), .unset, .unset] [] := by first | (simp [entryFrame, mkF, argsToLocals, Value.category]; done) | rfl
def QC2_5 (Z : State) (a1 : Addr) (kc1 : ClassId) (b1 : Addr) (kc2 : ClassId) (c0 : Int32) (c1 : Int32) (c2 : Int32) (c3 : Int32) (c4 : Int32) (h0 : Heap) (n0 : Nat) (v : Option Value) (h : Heap) (L : List Loc) : Prop := v = some (.int (5 : Int32)) ∧ Fr n0 L ∧ Keep h0 h [b1] ∧ Arv Z h b1 kc2 .byte (5 : Int32) [(.int (nar .byte (c0.toInt8.toInt32))), (.int (nar .byte (c1.toInt8.toInt32))), (.int (nar .byte (c2.toInt8.toInt32))), (.int (nar .byte (c3.toInt8.toInt32))), (.int (nar .byte (c4.toInt8.toInt32)))] (.int (0 : Int32))
set_option maxRecDepth 65536 in
set_option maxHeartbeats 40000000 in
theorem rmC2_5 (l : Launch) (Z : State) (a0 : Array Value) (hw : TW Z a0) (ws : List Jvm.Cond) (a1 : Addr) (kc1 : ClassId) (b1 : Addr) (kc2 : ClassId) (c0 : Int32) (c1 : Int32) (c2 : Int32) (c3 : Int32) (c4 : Int32) (h0 : Heap) (n0 : Nat) (Z0 : n0 ≤ h0.size) (V1 : Arv Z h0 a1 kc1 .char (5 : Int32) [(.int c0), (.int c1), (.int c2), (.int c3), (.int c4)] (.int (0 : Int32))) (V2 : Arv Z h0 b1 kc2 .byte (5 : Int32) [(.int (0 : Int32)), (.int (0 : Int32)), (.int (0 : Int32)), (.int (0 : Int32)), (.int (0 : Int32))] (.int (0 : Int32))) (g1 : n0 ≤ b1) (ne1 : a1 ≠ b1) (hl0 : ¬ ((255 : Int32) < c0)) (hl1 : ¬ ((255 : Int32) < c1)) (hl2 : ¬ ((255 : Int32) < c2)) (hl3 : ¬ ((255 : Int32) < c3)) (hl4 : ¬ ((255 : Int32) < c4)) :
    MF l Z (⟨"java/lang/StringUTF16", "compress", "([CI[BII)I"⟩ : MethodName) jdk_52_method_21_code 7 (some .int) ws (rmm 0 0 0 0) #[(.ref a1), (.int (0 : Int32)), (.ref b1), (.int (0 : Int32)), (.int (5 : Int32))] h0 (QC2_5 Z a1 kc1 b1 kc2 c0 c1 c2 c3 c4 h0 n0) := by
  refine MetFree.of_bodySF (plainFor_of_name pn_java_lang_StringUTF16) hisR ?_
  intro p e s m args below meth c s₁ Bd hml0 hP hK
  obtain ⟨rfl, hZ, hh⟩ := hP
  have hx := Bd.exec
  have hby := Bd.bytes
  have hlk : meth.locks = false := Bd.notSynchronized
  have hml : c.maxLocals = 7 := hml0
  have hown : s.vm.findClass "java/lang/StringUTF16" = some m.cls := findClass_of_methodNamed Bd.named
  have hnm := (name_of_methodNamed Bd.named Bd.method).1
  have X0 : Stand p l e (rmm 0 0 0 0) s m #[(.ref a1), (.int (0 : Int32)), (.ref b1), (.int (0 : Int32)), (.int (5 : Int32))] below meth c s₁ [] 0 0 := Stand.of_body Bd
  have e0 : s₁.heap = h0 := by rw [← hh, Bd.state]; rfl
  have N0 := Fr.nil n0
  show Go p e below (FinE s below (QC2_5 Z a1 kc1 b1 kc2 c0 c1 c2 c3 c4 h0 n0) (rmm 0 0 0 0).cells (rmm 0 0 0 0).slots) (s₁.setTop (entryFrame m #[(.ref a1), (.int (0 : Int32)), (.ref b1), (.int (0 : Int32)), (.int (5 : Int32))] 7))
  refine Go.via (fun t k => castTop (ef_rmC2_5 m a1 b1) k) ?_
  refine Go.via (fun _ => XS.iconst X0.here hx rfl (hb hby d14_0)) ?_
  refine Go.via (fun _ => XS.istore X0.here hx rfl (hb hby d14_1) rfl (l' := #[rv a1, iv (0 : Int32), rv b1, iv (0 : Int32), iv (5 : Int32), iv (0 : Int32), .unset]) rfl) ?_
  refine Go.via (fun _ => XS.iload X0.here hx rfl (hb hby d14_3) rfl) ?_
  refine Go.via (fun _ => XS.iload X0.here hx rfl (hb hby d14_5) rfl) ?_
  refine Go.via (fun _ => XS.icmpNo X0.here hx rfl (hb hby d14_7) rfl (by decide)) ?_
  show Go p e below _ (s₁.setTop (mkF m 10 #[rv a1, iv (0 : Int32), rv b1, iv (0 : Int32), iv (5 : Int32), iv (0 : Int32), .unset] []))
  refine Go.via (fun _ => XS.aloadN X0.here hx rfl (hb hby d14_10) rfl rfl) ?_
  refine Go.via (fun _ => XS.iloadN X0.here hx rfl (hb hby d14_11) rfl) ?_
  obtain ⟨cl101, Ar101, q101, S101, N101n, H101, G101⟩ := id V1
  have hin101 := inb_of (j := (0 : Int32)) S101 (by decide)
  have hat101 : cl101.slots[((0 : Int32) : Int32).toNatClampNeg]? = some (.int c0) := H101.at hin101 rfl
  refine Go.via (X0.caload hx (j := (0 : Int32)) (v := (.int c0)) (by rw [e0]; exact Ar101.1) (State.isArrayOf_alike hZ.alike Ar101.2.1) Ar101.2.2 hin101 hat101 (g := (mkF m 12 #[rv a1, iv (0 : Int32), rv b1, iv (0 : Int32), iv (5 : Int32), iv (0 : Int32), .unset] [(.int (0 : Int32)), (.ref a1)])) rfl rfl (hb hby d14_12)) ?_
  refine Go.via (fun _ => XS.istore X0.here hx rfl (hb hby d14_13) rfl (l' := #[rv a1, iv (0 : Int32), rv b1, iv (0 : Int32), iv (5 : Int32), iv (0 : Int32), iv c0]) rfl) ?_
  refine Go.via (fun _ => XS.iload X0.here hx rfl (hb hby d14_15) rfl) ?_
  refine Go.via (fun _ => XS.sipush X0.here hx rfl (hb hby d14_17)) ?_
  show Go p e below _ (s₁.setTop (mkF m 20 #[rv a1, iv (0 : Int32), rv b1, iv (0 : Int32), iv (5 : Int32), iv (0 : Int32), iv c0] [(.int (255 : Int32)), (.int c0)]))
  refine Go.via (fun _ => XS.icmpYes X0.here hx rfl (pc0 := 20) (pc' := 26) rfl (hb hby d14_20) rfl (flt hl0).2.2.2 (by decide) (by decide)) ?_
  refine Go.via (fun _ => XS.aloadN X0.here hx rfl (hb hby d14_26) rfl rfl) ?_
  refine Go.via (fun _ => XS.iloadN X0.here hx rfl (hb hby d14_27) rfl) ?_
  refine Go.via (fun _ => XS.iload X0.here hx rfl (hb hby d14_28) rfl) ?_
  refine Go.via (fun _ => XS.i2b X0.here hx rfl (hb hby d14_30) rfl) ?_
  obtain ⟨cl102, Ar102, q102, S102, N102n, H102, G102⟩ := id V2
  have hin102 := inb_of (j := (0 : Int32)) S102 (by decide)
  obtain ⟨T102, h102, X102, e102, W102, st102⟩ := stB X0 hx hZ e0 Ar102 (j := (0 : Int32)) hin102 (g := (mkF m 31 #[rv a1, iv (0 : Int32), rv b1, iv (0 : Int32), iv (5 : Int32), iv (0 : Int32), iv c0] [(.int (c0.toInt8.toInt32)), (.int (0 : Int32)), (.ref b1)])) rfl rfl (hb hby d14_31)
  refine Go.via st102 ?_
  have V102 : Arv Z h102 b1 kc2 .byte (5 : Int32) [(.int (nar .byte (c0.toInt8.toInt32))), (.int (0 : Int32)), (.int (0 : Int32)), (.int (0 : Int32)), (.int (0 : Int32))] (.int (0 : Int32)) := Arv.set Ar102 q102 S102 N102n H102 G102 (fits_nar_byte _) W102 0 rfl (Nat.le_of_ble_eq_true rfl)
  have Zs102 : n0 ≤ h102.size := Nat.le_trans Z0 (Keep.of_wr W102).1
  have K102 : Keep h0 h102 [b1] := (Keep.refl h0 [b1]).wr W102 (Or.inl (List.mem_of_getElem? (i := 0) rfl))
  have N102 := Fr.snoc X102 N0 g1
  have fV_a1_102 := V1.other W102 ne1
  show Go p e below _ (T102.setTop (mkF m 32 #[rv a1, iv (0 : Int32), rv b1, iv (0 : Int32), iv (5 : Int32), iv (0 : Int32), iv c0] []))
  refine Go.via (fun _ => XS.iinc X102.here hx rfl (hb hby d14_32) rfl (l' := #[rv a1, iv (1 : Int32), rv b1, iv (0 : Int32), iv (5 : Int32), iv (0 : Int32), iv c0]) rfl) ?_
  refine Go.via (fun _ => XS.iinc X102.here hx rfl (hb hby d14_35) rfl (l' := #[rv a1, iv (1 : Int32), rv b1, iv (1 : Int32), iv (5 : Int32), iv (0 : Int32), iv c0]) rfl) ?_
  refine Go.via (fun _ => XS.iinc X102.here hx rfl (hb hby d14_38) rfl (l' := #[rv a1, iv (1 : Int32), rv b1, iv (1 : Int32), iv (5 : Int32), iv (1 : Int32), iv c0]) rfl) ?_
  refine Go.via (fun _ => XS.goto X102.here hx rfl (pc0 := 41) (pc' := 3) rfl (hb hby d14_41) (by decide) (by decide)) ?_
  refine Go.via (fun _ => XS.iload X102.here hx rfl (hb hby d14_3) rfl) ?_
  refine Go.via (fun _ => XS.iload X102.here hx rfl (hb hby d14_5) rfl) ?_
  show Go p e below _ (T102.setTop (mkF m 7 #[rv a1, iv (1 : Int32), rv b1, iv (1 : Int32), iv (5 : Int32), iv (1 : Int32), iv c0] [(.int (5 : Int32)), (.int (1 : Int32))]))
  refine Go.via (fun _ => XS.icmpNo X102.here hx rfl (hb hby d14_7) rfl (by decide)) ?_
  refine Go.via (fun _ => XS.aloadN X102.here hx rfl (hb hby d14_10) rfl rfl) ?_
  refine Go.via (fun _ => XS.iloadN X102.here hx rfl (hb hby d14_11) rfl) ?_
  obtain ⟨cl103, Ar103, q103, S103, N103n, H103, G103⟩ := id fV_a1_102
  have hin103 := inb_of (j := (1 : Int32)) S103 (by decide)
  have hat103 : cl103.slots[((1 : Int32) : Int32).toNatClampNeg]? = some (.int c1) := H103.at hin103 rfl
  refine Go.via (X102.caload hx (j := (1 : Int32)) (v := (.int c1)) (by rw [e102]; exact Ar103.1) (State.isArrayOf_alike hZ.alike Ar103.2.1) Ar103.2.2 hin103 hat103 (g := (mkF m 12 #[rv a1, iv (1 : Int32), rv b1, iv (1 : Int32), iv (5 : Int32), iv (1 : Int32), iv c0] [(.int (1 : Int32)), (.ref a1)])) rfl rfl (hb hby d14_12)) ?_
  refine Go.via (fun _ => XS.istore X102.here hx rfl (hb hby d14_13) rfl (l' := #[rv a1, iv (1 : Int32), rv b1, iv (1 : Int32), iv (5 : Int32), iv (1 : Int32), iv c1]) rfl) ?_
  refine Go.via (fun _ => XS.iload X102.here hx rfl (hb hby d14_15) rfl) ?_
  show Go p e below _ (T102.setTop (mkF m 17 #[rv a1, iv (1 : Int32), rv b1, iv (1 : Int32), iv (5 : Int32), iv (1 : Int32), iv c1] [(.int c1)]))
  refine Go.via (fun _ => XS.sipush X102.here hx rfl (hb hby d14_17)) ?_
  refine Go.via (fun _ => XS.icmpYes X102.here hx rfl (pc0 := 20) (pc' := 26) rfl (hb hby d14_20) rfl (flt hl1).2.2.2 (by decide) (by decide)) ?_
  refine Go.via (fun _ => XS.aloadN X102.here hx rfl (hb hby d14_26) rfl rfl) ?_
  refine Go.via (fun _ => XS.iloadN X102.here hx rfl (hb hby d14_27) rfl) ?_
  refine Go.via (fun _ => XS.iload X102.here hx rfl (hb hby d14_28) rfl) ?_
  refine Go.via (fun _ => XS.i2b X102.here hx rfl (hb hby d14_30) rfl) ?_
  show Go p e below _ (T102.setTop (mkF m 31 #[rv a1, iv (1 : Int32), rv b1, iv (1 : Int32), iv (5 : Int32), iv (1 : Int32), iv c1] [(.int (c1.toInt8.toInt32)), (.int (1 : Int32)), (.ref b1)]))
  obtain ⟨cl104, Ar104, q104, S104, N104n, H104, G104⟩ := id V102
  have hin104 := inb_of (j := (1 : Int32)) S104 (by decide)
  obtain ⟨T104, h104, X104, e104, W104, st104⟩ := stB X102 hx hZ e102 Ar104 (j := (1 : Int32)) hin104 (g := (mkF m 31 #[rv a1, iv (1 : Int32), rv b1, iv (1 : Int32), iv (5 : Int32), iv (1 : Int32), iv c1] [(.int (c1.toInt8.toInt32)), (.int (1 : Int32)), (.ref b1)])) rfl rfl (hb hby d14_31)
  refine Go.via st104 ?_
  have V104 : Arv Z h104 b1 kc2 .byte (5 : Int32) [(.int (nar .byte (c0.toInt8.toInt32))), (.int (nar .byte (c1.toInt8.toInt32))), (.int (0 : Int32)), (.int (0 : Int32)), (.int (0 : Int32))] (.int (0 : Int32)) := Arv.set Ar104 q104 S104 N104n H104 G104 (fits_nar_byte _) W104 1 rfl (Nat.le_of_ble_eq_true rfl)
  have Zs104 : n0 ≤ h104.size := Nat.le_trans Zs102 (Keep.of_wr W104).1
  have K104 : Keep h0 h104 [b1] := K102.wr W104 (Or.inl (List.mem_of_getElem? (i := 0) rfl))
  have N104 := Fr.snoc X104 N102 g1
  have fV_a1_104 := fV_a1_102.other W104 ne1
  refine Go.via (fun _ => XS.iinc X104.here hx rfl (hb hby d14_32) rfl (l' := #[rv a1, iv (2 : Int32), rv b1, iv (1 : Int32), iv (5 : Int32), iv (1 : Int32), iv c1]) rfl) ?_
  refine Go.via (fun _ => XS.iinc X104.here hx rfl (hb hby d14_35) rfl (l' := #[rv a1, iv (2 : Int32), rv b1, iv (2 : Int32), iv (5 : Int32), iv (1 : Int32), iv c1]) rfl) ?_
  refine Go.via (fun _ => XS.iinc X104.here hx rfl (hb hby d14_38) rfl (l' := #[rv a1, iv (2 : Int32), rv b1, iv (2 : Int32), iv (5 : Int32), iv (2 : Int32), iv c1]) rfl) ?_
  refine Go.via (fun _ => XS.goto X104.here hx rfl (pc0 := 41) (pc' := 3) rfl (hb hby d14_41) (by decide) (by decide)) ?_
  refine Go.via (fun _ => XS.iload X104.here hx rfl (hb hby d14_3) rfl) ?_
  show Go p e below _ (T104.setTop (mkF m 5 #[rv a1, iv (2 : Int32), rv b1, iv (2 : Int32), iv (5 : Int32), iv (2 : Int32), iv c1] [(.int (2 : Int32))]))
  refine Go.via (fun _ => XS.iload X104.here hx rfl (hb hby d14_5) rfl) ?_
  refine Go.via (fun _ => XS.icmpNo X104.here hx rfl (hb hby d14_7) rfl (by decide)) ?_
  refine Go.via (fun _ => XS.aloadN X104.here hx rfl (hb hby d14_10) rfl rfl) ?_
  refine Go.via (fun _ => XS.iloadN X104.here hx rfl (hb hby d14_11) rfl) ?_
  obtain ⟨cl105, Ar105, q105, S105, N105n, H105, G105⟩ := id fV_a1_104
  have hin105 := inb_of (j := (2 : Int32)) S105 (by decide)
  have hat105 : cl105.slots[((2 : Int32) : Int32).toNatClampNeg]? = some (.int c2) := H105.at hin105 rfl
  refine Go.via (X104.caload hx (j := (2 : Int32)) (v := (.int c2)) (by rw [e104]; exact Ar105.1) (State.isArrayOf_alike hZ.alike Ar105.2.1) Ar105.2.2 hin105 hat105 (g := (mkF m 12 #[rv a1, iv (2 : Int32), rv b1, iv (2 : Int32), iv (5 : Int32), iv (2 : Int32), iv c1] [(.int (2 : Int32)), (.ref a1)])) rfl rfl (hb hby d14_12)) ?_
  refine Go.via (fun _ => XS.istore X104.here hx rfl (hb hby d14_13) rfl (l' := #[rv a1, iv (2 : Int32), rv b1, iv (2 : Int32), iv (5 : Int32), iv (2 : Int32), iv c2]) rfl) ?_
  show Go p e below _ (T104.setTop (mkF m 15 #[rv a1, iv (2 : Int32), rv b1, iv (2 : Int32), iv (5 : Int32), iv (2 : Int32), iv c2] []))
  refine Go.via (fun _ => XS.iload X104.here hx rfl (hb hby d14_15) rfl) ?_
  refine Go.via (fun _ => XS.sipush X104.here hx rfl (hb hby d14_17)) ?_
  refine Go.via (fun _ => XS.icmpYes X104.here hx rfl (pc0 := 20) (pc' := 26) rfl (hb hby d14_20) rfl (flt hl2).2.2.2 (by decide) (by decide)) ?_
  refine Go.via (fun _ => XS.aloadN X104.here hx rfl (hb hby d14_26) rfl rfl) ?_
  refine Go.via (fun _ => XS.iloadN X104.here hx rfl (hb hby d14_27) rfl) ?_
  refine Go.via (fun _ => XS.iload X104.here hx rfl (hb hby d14_28) rfl) ?_
  show Go p e below _ (T104.setTop (mkF m 30 #[rv a1, iv (2 : Int32), rv b1, iv (2 : Int32), iv (5 : Int32), iv (2 : Int32), iv c2] [(.int c2), (.int (2 : Int32)), (.ref b1)]))
  refine Go.via (fun _ => XS.i2b X104.here hx rfl (hb hby d14_30) rfl) ?_
  obtain ⟨cl106, Ar106, q106, S106, N106n, H106, G106⟩ := id V104
  have hin106 := inb_of (j := (2 : Int32)) S106 (by decide)
  obtain ⟨T106, h106, X106, e106, W106, st106⟩ := stB X104 hx hZ e104 Ar106 (j := (2 : Int32)) hin106 (g := (mkF m 31 #[rv a1, iv (2 : Int32), rv b1, iv (2 : Int32), iv (5 : Int32), iv (2 : Int32), iv c2] [(.int (c2.toInt8.toInt32)), (.int (2 : Int32)), (.ref b1)])) rfl rfl (hb hby d14_31)
  refine Go.via st106 ?_
  have V106 : Arv Z h106 b1 kc2 .byte (5 : Int32) [(.int (nar .byte (c0.toInt8.toInt32))), (.int (nar .byte (c1.toInt8.toInt32))), (.int (nar .byte (c2.toInt8.toInt32))), (.int (0 : Int32)), (.int (0 : Int32))] (.int (0 : Int32)) := Arv.set Ar106 q106 S106 N106n H106 G106 (fits_nar_byte _) W106 2 rfl (Nat.le_of_ble_eq_true rfl)
  have Zs106 : n0 ≤ h106.size := Nat.le_trans Zs104 (Keep.of_wr W106).1
  have K106 : Keep h0 h106 [b1] := K104.wr W106 (Or.inl (List.mem_of_getElem? (i := 0) rfl))
  have N106 := Fr.snoc X106 N104 g1
  have fV_a1_106 := fV_a1_104.other W106 ne1
  refine Go.via (fun _ => XS.iinc X106.here hx rfl (hb hby d14_32) rfl (l' := #[rv a1, iv (3 : Int32), rv b1, iv (2 : Int32), iv (5 : Int32), iv (2 : Int32), iv c2]) rfl) ?_
  refine Go.via (fun _ => XS.iinc X106.here hx rfl (hb hby d14_35) rfl (l' := #[rv a1, iv (3 : Int32), rv b1, iv (3 : Int32), iv (5 : Int32), iv (2 : Int32), iv c2]) rfl) ?_
  refine Go.via (fun _ => XS.iinc X106.here hx rfl (hb hby d14_38) rfl (l' := #[rv a1, iv (3 : Int32), rv b1, iv (3 : Int32), iv (5 : Int32), iv (3 : Int32), iv c2]) rfl) ?_
  refine Go.via (fun _ => XS.goto X106.here hx rfl (pc0 := 41) (pc' := 3) rfl (hb hby d14_41) (by decide) (by decide)) ?_
  show Go p e below _ (T106.setTop (mkF m 3 #[rv a1, iv (3 : Int32), rv b1, iv (3 : Int32), iv (5 : Int32), iv (3 : Int32), iv c2] []))
  refine Go.via (fun _ => XS.iload X106.here hx rfl (hb hby d14_3) rfl) ?_
  refine Go.via (fun _ => XS.iload X106.here hx rfl (hb hby d14_5) rfl) ?_
  refine Go.via (fun _ => XS.icmpNo X106.here hx rfl (hb hby d14_7) rfl (by decide)) ?_
  refine Go.via (fun _ => XS.aloadN X106.here hx rfl (hb hby d14_10) rfl rfl) ?_
  refine Go.via (fun _ => XS.iloadN X106.here hx rfl (hb hby d14_11) rfl) ?_
  obtain ⟨cl107, Ar107, q107, S107, N107n, H107, G107⟩ := id fV_a1_106
  have hin107 := inb_of (j := (3 : Int32)) S107 (by decide)
  have hat107 : cl107.slots[((3 : Int32) : Int32).toNatClampNeg]? = some (.int c3) := H107.at hin107 rfl
  refine Go.via (X106.caload hx (j := (3 : Int32)) (v := (.int c3)) (by rw [e106]; exact Ar107.1) (State.isArrayOf_alike hZ.alike Ar107.2.1) Ar107.2.2 hin107 hat107 (g := (mkF m 12 #[rv a1, iv (3 : Int32), rv b1, iv (3 : Int32), iv (5 : Int32), iv (3 : Int32), iv c2] [(.int (3 : Int32)), (.ref a1)])) rfl rfl (hb hby d14_12)) ?_
  show Go p e below _ (T106.setTop (mkF m 13 #[rv a1, iv (3 : Int32), rv b1, iv (3 : Int32), iv (5 : Int32), iv (3 : Int32), iv c2] [(.int c3)]))
  refine Go.via (fun _ => XS.istore X106.here hx rfl (hb hby d14_13) rfl (l' := #[rv a1, iv (3 : Int32), rv b1, iv (3 : Int32), iv (5 : Int32), iv (3 : Int32), iv c3]) rfl) ?_
  refine Go.via (fun _ => XS.iload X106.here hx rfl (hb hby d14_15) rfl) ?_
  refine Go.via (fun _ => XS.sipush X106.here hx rfl (hb hby d14_17)) ?_
  refine Go.via (fun _ => XS.icmpYes X106.here hx rfl (pc0 := 20) (pc' := 26) rfl (hb hby d14_20) rfl (flt hl3).2.2.2 (by decide) (by decide)) ?_
  refine Go.via (fun _ => XS.aloadN X106.here hx rfl (hb hby d14_26) rfl rfl) ?_
  refine Go.via (fun _ => XS.iloadN X106.here hx rfl (hb hby d14_27) rfl) ?_
  show Go p e below _ (T106.setTop (mkF m 28 #[rv a1, iv (3 : Int32), rv b1, iv (3 : Int32), iv (5 : Int32), iv (3 : Int32), iv c3] [(.int (3 : Int32)), (.ref b1)]))
  refine Go.via (fun _ => XS.iload X106.here hx rfl (hb hby d14_28) rfl) ?_
  refine Go.via (fun _ => XS.i2b X106.here hx rfl (hb hby d14_30) rfl) ?_
  obtain ⟨cl108, Ar108, q108, S108, N108n, H108, G108⟩ := id V106
  have hin108 := inb_of (j := (3 : Int32)) S108 (by decide)
  obtain ⟨T108, h108, X108, e108, W108, st108⟩ := stB X106 hx hZ e106 Ar108 (j := (3 : Int32)) hin108 (g := (mkF m 31 #[rv a1, iv (3 : Int32), rv b1, iv (3 : Int32), iv (5 : Int32), iv (3 : Int32), iv c3] [(.int (c3.toInt8.toInt32)), (.int (3 : Int32)), (.ref b1)])) rfl rfl (hb hby d14_31)
  refine Go.via st108 ?_
  have V108 : Arv Z h108 b1 kc2 .byte (5 : Int32) [(.int (nar .byte (c0.toInt8.toInt32))), (.int (nar .byte (c1.toInt8.toInt32))), (.int (nar .byte (c2.toInt8.toInt32))), (.int (nar .byte (c3.toInt8.toInt32))), (.int (0 : Int32))] (.int (0 : Int32)) := Arv.set Ar108 q108 S108 N108n H108 G108 (fits_nar_byte _) W108 3 rfl (Nat.le_of_ble_eq_true rfl)
  have Zs108 : n0 ≤ h108.size := Nat.le_trans Zs106 (Keep.of_wr W108).1
  have K108 : Keep h0 h108 [b1] := K106.wr W108 (Or.inl (List.mem_of_getElem? (i := 0) rfl))
  have N108 := Fr.snoc X108 N106 g1
  have fV_a1_108 := fV_a1_106.other W108 ne1
  refine Go.via (fun _ => XS.iinc X108.here hx rfl (hb hby d14_32) rfl (l' := #[rv a1, iv (4 : Int32), rv b1, iv (3 : Int32), iv (5 : Int32), iv (3 : Int32), iv c3]) rfl) ?_
  refine Go.via (fun _ => XS.iinc X108.here hx rfl (hb hby d14_35) rfl (l' := #[rv a1, iv (4 : Int32), rv b1, iv (4 : Int32), iv (5 : Int32), iv (3 : Int32), iv c3]) rfl) ?_
  refine Go.via (fun _ => XS.iinc X108.here hx rfl (hb hby d14_38) rfl (l' := #[rv a1, iv (4 : Int32), rv b1, iv (4 : Int32), iv (5 : Int32), iv (4 : Int32), iv c3]) rfl) ?_
  show Go p e below _ (T108.setTop (mkF m 41 #[rv a1, iv (4 : Int32), rv b1, iv (4 : Int32), iv (5 : Int32), iv (4 : Int32), iv c3] []))
  refine Go.via (fun _ => XS.goto X108.here hx rfl (pc0 := 41) (pc' := 3) rfl (hb hby d14_41) (by decide) (by decide)) ?_
  refine Go.via (fun _ => XS.iload X108.here hx rfl (hb hby d14_3) rfl) ?_
  refine Go.via (fun _ => XS.iload X108.here hx rfl (hb hby d14_5) rfl) ?_
  refine Go.via (fun _ => XS.icmpNo X108.here hx rfl (hb hby d14_7) rfl (by decide)) ?_
  refine Go.via (fun _ => XS.aloadN X108.here hx rfl (hb hby d14_10) rfl rfl) ?_
  refine Go.via (fun _ => XS.iloadN X108.here hx rfl (hb hby d14_11) rfl) ?_
  show Go p e below _ (T108.setTop (mkF m 12 #[rv a1, iv (4 : Int32), rv b1, iv (4 : Int32), iv (5 : Int32), iv (4 : Int32), iv c3] [(.int (4 : Int32)), (.ref a1)]))
  obtain ⟨cl109, Ar109, q109, S109, N109n, H109, G109⟩ := id fV_a1_108
  have hin109 := inb_of (j := (4 : Int32)) S109 (by decide)
  have hat109 : cl109.slots[((4 : Int32) : Int32).toNatClampNeg]? = some (.int c4) := H109.at hin109 rfl
  refine Go.via (X108.caload hx (j := (4 : Int32)) (v := (.int c4)) (by rw [e108]; exact Ar109.1) (State.isArrayOf_alike hZ.alike Ar109.2.1) Ar109.2.2 hin109 hat109 (g := (mkF m 12 #[rv a1, iv (4 : Int32), rv b1, iv (4 : Int32), iv (5 : Int32), iv (4 : Int32), iv c3] [(.int (4 : Int32)), (.ref a1)])) rfl rfl (hb hby d14_12)) ?_
  refine Go.via (fun _ => XS.istore X108.here hx rfl (hb hby d14_13) rfl (l' := #[rv a1, iv (4 : Int32), rv b1, iv (4 : Int32), iv (5 : Int32), iv (4 : Int32), iv c4]) rfl) ?_
  refine Go.via (fun _ => XS.iload X108.here hx rfl (hb hby d14_15) rfl) ?_
  refine Go.via (fun _ => XS.sipush X108.here hx rfl (hb hby d14_17)) ?_
  refine Go.via (fun _ => XS.icmpYes X108.here hx rfl (pc0 := 20) (pc' := 26) rfl (hb hby d14_20) rfl (flt hl4).2.2.2 (by decide) (by decide)) ?_
  refine Go.via (fun _ => XS.aloadN X108.here hx rfl (hb hby d14_26) rfl rfl) ?_
  show Go p e below _ (T108.setTop (mkF m 27 #[rv a1, iv (4 : Int32), rv b1, iv (4 : Int32), iv (5 : Int32), iv (4 : Int32), iv c4] [(.ref b1)]))
  refine Go.via (fun _ => XS.iloadN X108.here hx rfl (hb hby d14_27) rfl) ?_
  refine Go.via (fun _ => XS.iload X108.here hx rfl (hb hby d14_28) rfl) ?_
  refine Go.via (fun _ => XS.i2b X108.here hx rfl (hb hby d14_30) rfl) ?_
  obtain ⟨cl110, Ar110, q110, S110, N110n, H110, G110⟩ := id V108
  have hin110 := inb_of (j := (4 : Int32)) S110 (by decide)
  obtain ⟨T110, h110, X110, e110, W110, st110⟩ := stB X108 hx hZ e108 Ar110 (j := (4 : Int32)) hin110 (g := (mkF m 31 #[rv a1, iv (4 : Int32), rv b1, iv (4 : Int32), iv (5 : Int32), iv (4 : Int32), iv c4] [(.int (c4.toInt8.toInt32)), (.int (4 : Int32)), (.ref b1)])) rfl rfl (hb hby d14_31)
  refine Go.via st110 ?_
  have V110 : Arv Z h110 b1 kc2 .byte (5 : Int32) [(.int (nar .byte (c0.toInt8.toInt32))), (.int (nar .byte (c1.toInt8.toInt32))), (.int (nar .byte (c2.toInt8.toInt32))), (.int (nar .byte (c3.toInt8.toInt32))), (.int (nar .byte (c4.toInt8.toInt32)))] (.int (0 : Int32)) := Arv.set Ar110 q110 S110 N110n H110 G110 (fits_nar_byte _) W110 4 rfl (Nat.le_of_ble_eq_true rfl)
  have Zs110 : n0 ≤ h110.size := Nat.le_trans Zs108 (Keep.of_wr W110).1
  have K110 : Keep h0 h110 [b1] := K108.wr W110 (Or.inl (List.mem_of_getElem? (i := 0) rfl))
  have N110 := Fr.snoc X110 N108 g1
  have fV_a1_110 := fV_a1_108.other W110 ne1
  refine Go.via (fun _ => XS.iinc X110.here hx rfl (hb hby d14_32) rfl (l' := #[rv a1, iv (5 : Int32), rv b1, iv (4 : Int32), iv (5 : Int32), iv (4 : Int32), iv c4]) rfl) ?_
  refine Go.via (fun _ => XS.iinc X110.here hx rfl (hb hby d14_35) rfl (l' := #[rv a1, iv (5 : Int32), rv b1, iv (5 : Int32), iv (5 : Int32), iv (4 : Int32), iv c4]) rfl) ?_
  show Go p e below _ (T110.setTop (mkF m 38 #[rv a1, iv (5 : Int32), rv b1, iv (5 : Int32), iv (5 : Int32), iv (4 : Int32), iv c4] []))
  refine Go.via (fun _ => XS.iinc X110.here hx rfl (hb hby d14_38) rfl (l' := #[rv a1, iv (5 : Int32), rv b1, iv (5 : Int32), iv (5 : Int32), iv (5 : Int32), iv c4]) rfl) ?_
  refine Go.via (fun _ => XS.goto X110.here hx rfl (pc0 := 41) (pc' := 3) rfl (hb hby d14_41) (by decide) (by decide)) ?_
  refine Go.via (fun _ => XS.iload X110.here hx rfl (hb hby d14_3) rfl) ?_
  refine Go.via (fun _ => XS.iload X110.here hx rfl (hb hby d14_5) rfl) ?_
  refine Go.via (fun _ => XS.icmpYes X110.here hx rfl (pc0 := 7) (pc' := 44) rfl (hb hby d14_7) rfl (by decide) (by decide) (by decide)) ?_
  refine Go.via (fun _ => XS.iload X110.here hx rfl (hb hby d14_44) rfl) ?_
  show Go p e below _ (T110.setTop (mkF m 46 #[rv a1, iv (5 : Int32), rv b1, iv (5 : Int32), iv (5 : Int32), iv (5 : Int32), iv c4] [(.int (5 : Int32))]))
  exact own_retI X110 hx hlk Bd.returns (hb hby d14_46) (by show QC2_5 Z a1 kc1 b1 kc2 c0 c1 c2 c3 c4 h0 n0 _ T110.heap _; rw [e110]; exact ⟨rfl, N110, K110, V110⟩) (by decide) (by decide)
theorem ef_rmC1_5 (m : MethodId) (x0 : Addr) : entryFrame m #[(.ref x0), (.int (0 : Int32)), (.int (5 : Int32))] 6 = mkF m 0 #[rv x0, iv (0 : Int32), iv (5 : Int32), .unset, .unset, .unset] [] := by first | (simp [entryFrame, mkF, argsToLocals, Value.category]; done) | rfl
def QC1_5 (Z : State) (a1 : Addr) (kc1 : ClassId) (c0 : Int32) (c1 : Int32) (c2 : Int32) (c3 : Int32) (c4 : Int32) (h0 : Heap) (n0 : Nat) (v : Option Value) (h : Heap) (L : List Loc) : Prop := ∃ (t : Addr) (kb : ClassId), v = some (.ref t) ∧ Fr n0 L ∧ Keep h0 h [] ∧ h0.size ≤ t ∧ Arv Z h t kb .byte (5 : Int32) [(.int (nar .byte (c0.toInt8.toInt32))), (.int (nar .byte (c1.toInt8.toInt32))), (.int (nar .byte (c2.toInt8.toInt32))), (.int (nar .byte (c3.toInt8.toInt32))), (.int (nar .byte (c4.toInt8.toInt32)))] (.int (0 : Int32))
set_option maxRecDepth 65536 in
set_option maxHeartbeats 40000000 in
theorem rmC1_5 (l : Launch) (Z : State) (a0 : Array Value) (hw : TW Z a0) (ws : List Jvm.Cond) (a1 : Addr) (kc1 : ClassId) (c0 : Int32) (c1 : Int32) (c2 : Int32) (c3 : Int32) (c4 : Int32) (h0 : Heap) (n0 : Nat) (Z0 : n0 ≤ h0.size) (V1 : Arv Z h0 a1 kc1 .char (5 : Int32) [(.int c0), (.int c1), (.int c2), (.int c3), (.int c4)] (.int (0 : Int32))) (hl0 : ¬ ((255 : Int32) < c0)) (hl1 : ¬ ((255 : Int32) < c1)) (hl2 : ¬ ((255 : Int32) < c2)) (hl3 : ¬ ((255 : Int32) < c3)) (hl4 : ¬ ((255 : Int32) < c4)) :
    MF l Z (⟨"java/lang/StringUTF16", "compress", "([CII)[B"⟩ : MethodName) jdk_52_method_16_code 6 (some (.array .byte)) ws (rmm 1 1 5 18) #[(.ref a1), (.int (0 : Int32)), (.int (5 : Int32))] h0 (QC1_5 Z a1 kc1 c0 c1 c2 c3 c4 h0 n0) := by
  refine MetFree.of_bodySF (plainFor_of_name pn_java_lang_StringUTF16) hisR ?_
  intro p e s m args below meth c s₁ Bd hml0 hP hK
  obtain ⟨rfl, hZ, hh⟩ := hP
  have hx := Bd.exec
  have hby := Bd.bytes
  have hlk : meth.locks = false := Bd.notSynchronized
  have hml : c.maxLocals = 6 := hml0
  have hown : s.vm.findClass "java/lang/StringUTF16" = some m.cls := findClass_of_methodNamed Bd.named
  have hnm := (name_of_methodNamed Bd.named Bd.method).1
  have X0 : Stand p l e (rmm 1 1 5 18) s m #[(.ref a1), (.int (0 : Int32)), (.int (5 : Int32))] below meth c s₁ [] 0 0 := Stand.of_body Bd
  have e0 : s₁.heap = h0 := by rw [← hh, Bd.state]; rfl
  have N0 := Fr.nil n0
  show Go p e below (FinE s below (QC1_5 Z a1 kc1 c0 c1 c2 c3 c4 h0 n0) (rmm 1 1 5 18).cells (rmm 1 1 5 18).slots) (s₁.setTop (entryFrame m #[(.ref a1), (.int (0 : Int32)), (.int (5 : Int32))] 6))
  refine Go.via (fun t k => castTop (ef_rmC1_5 m a1) k) ?_
  refine Go.via (fun _ => XS.iloadN X0.here hx rfl (hb hby d13_0) rfl) ?_
  obtain ⟨T101, h101, k101, X101, e101, E101, A101, st101⟩ := newP X0 hx hZ (ow hw 14 rfl) e0 (g := (mkF m 1 #[rv a1, iv (0 : Int32), iv (5 : Int32), .unset, .unset, .unset] [(.int (5 : Int32))])) rfl (hb hby d13_1) rfl (by decide) (cap := 5) (by decide) (by decide) (by decide) (by decide)
  obtain ⟨b101, g101⟩ : ∃ z, z = h0.size := ⟨_, rfl⟩
  rw [← g101] at A101 st101
  have g_b101 : n0 ≤ b101 := Nat.le_trans Z0 (Nat.le_of_eq g101.symm)
  have ne_a1_b101 : a1 ≠ b101 := Nat.ne_of_lt (Nat.lt_of_lt_of_le V1.lt (Nat.le_of_eq g101.symm))
  have sz_b101 : h0.size ≤ b101 := Nat.le_trans (Keep.refl h0 []).1 (Nat.le_of_eq g101.symm)
  refine Go.via st101 ?_
  have Zs101 : n0 ≤ h101.size := Nat.le_trans Z0 E101.1
  have K101 : Keep h0 h101 [] := (Keep.refl h0 []).ext E101
  have fV_a1_101 := V1.ext E101
  have V_b101 : Arv Z h101 b101 k101 .byte (5 : Int32) [(.int (0 : Int32)), (.int (0 : Int32)), (.int (0 : Int32)), (.int (0 : Int32)), (.int (0 : Int32))] (.int (0 : Int32)) := (Arv.new A101 (by decide)).pad (pad_rep [] (.int (0 : Int32)) 5)
  refine Go.via (fun _ => XS.astoreN X101.here hx rfl (hb hby d13_3) rfl rfl (l' := #[rv a1, iv (0 : Int32), iv (5 : Int32), rv b101, .unset, .unset]) rfl) ?_
  refine Go.via (fun _ => XS.aloadN X101.here hx rfl (hb hby d13_4) rfl rfl) ?_
  refine Go.via (fun _ => XS.iloadN X101.here hx rfl (hb hby d13_5) rfl) ?_
  show Go p e below _ (T101.setTop (mkF m 6 #[rv a1, iv (0 : Int32), iv (5 : Int32), rv b101, .unset, .unset] [(.int (0 : Int32)), (.ref a1)]))
  refine Go.via (fun _ => XS.aloadN X101.here hx rfl (hb hby d13_6) rfl rfl) ?_
  refine Go.via (fun _ => XS.iconst X101.here hx rfl (hb hby d13_7)) ?_
  refine Go.via (fun _ => XS.iloadN X101.here hx rfl (hb hby d13_8) rfl) ?_
  obtain ⟨_, _, ⟨T102, L102, k102, n102⟩, -, X102, ⟨Lc102, hQ102, l102, y102, z102⟩, st102⟩ := Jvm.LawKit.callS X101 hx (y := (⟨"java/lang/StringUTF16", "compress", "([CI[BII)I"⟩ : MethodName)) hown (mvT hZ (ow hw 83 rfl)) (mvT hZ (ow hw 84 rfl)) (mvT hZ (ow hw 81 rfl)) (mvT hZ (ow hw 85 rfl)) (by decide) (backOf (W := 0) (rmC2_5 l Z a0 hw [] a1 kc1 b101 k101 c0 c1 c2 c3 c4 h101 n0 Zs101 fV_a1_101 V_b101 g_b101 ne_a1_b101 hl0 hl1 hl2 hl3 hl4) hZ (ow hw 85 rfl) (ow hw 81 rfl) (by decide) (by decide)) (g := (mkF m 9 #[rv a1, iv (0 : Int32), iv (5 : Int32), rv b101, .unset, .unset] [(.int (5 : Int32)), (.int (0 : Int32)), (.ref b101), (.int (0 : Int32)), (.ref a1)])) rfl (by rw [hml]; rfl) (argsL := [(.ref a1), (.int (0 : Int32)), (.ref b101), (.int (0 : Int32)), (.int (5 : Int32))]) (rest := []) (lenOf pd_6 rfl) rfl (by show 2 * 0 + _ ≤ _; exact Nat.le_of_eq rfl) (hb hby d13_9) (fun _ _ => ⟨rfl, e101, (by decide : 1 + 0 ≤ _), (by decide : 5 + 0 ≤ _)⟩)
  dsimp only [Pt.U, Pt.locs, Pt.cells, Pt.slots] at X102 l102 y102 z102 st102 hQ102
  rw [l102, y102, z102] at X102
  replace X102 : Stand p l e _ _ m _ below meth c T102 _ 1 5 := X102
  obtain ⟨rfl, N102q, K102q, va102⟩ := hQ102
  have N102 := Fr.app N0 N102q
  refine Go.via st102 ?_
  have Zs102 : n0 ≤ T102.heap.size := Nat.le_trans Zs101 K102q.1
  have K102 : Keep h0 T102.heap [] := K101.trans K102q (allS (Or.inr sz_b101) all0)
  have fV_a1_102 := fV_a1_101.keep K102q (ninS ne_a1_b101 nin0)
  refine Go.via (fun _ => XS.istore X102.here hx rfl (hb hby d13_12) rfl (l' := #[rv a1, iv (0 : Int32), iv (5 : Int32), rv b101, iv (5 : Int32), .unset]) rfl) ?_
  refine Go.via (fun _ => XS.iload X102.here hx rfl (hb hby d13_14) rfl) ?_
  show Go p e below _ (T102.setTop (mkF m 16 #[rv a1, iv (0 : Int32), iv (5 : Int32), rv b101, iv (5 : Int32), .unset] [(.int (5 : Int32))]))
  refine Go.via (fun _ => XS.iloadN X102.here hx rfl (hb hby d13_16) rfl) ?_
  refine Go.via (fun _ => XS.icmpYes X102.here hx rfl (pc0 := 17) (pc' := 57) rfl (hb hby d13_17) rfl (by decide) (by decide) (by decide)) ?_
  refine Go.via (fun _ => XS.aloadN X102.here hx rfl (hb hby d13_57) rfl rfl) ?_
  exact own_retA X102 hx hlk Bd.returns rfl rfl (hb hby d13_58) (by show QC1_5 Z a1 kc1 c0 c1 c2 c3 c4 h0 n0 _ T102.heap _; exact ⟨b101, k101, rfl, N102, K102, sz_b101, va102⟩) (by decide) (by decide)
theorem ef_rmCL_5_5 (m : MethodId) (x0 : Addr) : entryFrame m #[(.ref x0), (.int (5 : Int32))] 2 = mkF m 0 #[rv x0, iv (5 : Int32)] [] := by first | (simp [entryFrame, mkF, argsToLocals, Value.category]; done) | rfl
def QCL_5_5 (Z : State) (b1 : Addr) (kc2 : ClassId) (vs : List Value) (h0 : Heap) (n0 : Nat) (v : Option Value) (h : Heap) (L : List Loc) : Prop := v = some (.int (0 : Int32)) ∧ Fr n0 L ∧ h = h0
set_option maxRecDepth 65536 in
set_option maxHeartbeats 40000000 in
theorem rmCL_5_5 (l : Launch) (Z : State) (a0 : Array Value) (hw : TW Z a0) (ws : List Jvm.Cond) (b1 : Addr) (kc2 : ClassId) (vs : List Value) (h0 : Heap) (n0 : Nat) (Z0 : n0 ≤ h0.size) (V2 : Arv Z h0 b1 kc2 .byte (5 : Int32) vs (.int (0 : Int32))) :
    MF l Z (⟨"java/lang/StringUTF16", "coderFromArrayLen", "([BI)B"⟩ : MethodName) jdk_52_method_15_code 2 (some .byte) ws (rmm 0 0 0 0) #[(.ref b1), (.int (5 : Int32))] h0 (QCL_5_5 Z b1 kc2 vs h0 n0) := by
  refine MetFree.of_bodySF (plainFor_of_name pn_java_lang_StringUTF16) hisR ?_
  intro p e s m args below meth c s₁ Bd hml0 hP hK
  obtain ⟨rfl, hZ, hh⟩ := hP
  have hx := Bd.exec
  have hby := Bd.bytes
  have hlk : meth.locks = false := Bd.notSynchronized
  have hml : c.maxLocals = 2 := hml0
  have hown : s.vm.findClass "java/lang/StringUTF16" = some m.cls := findClass_of_methodNamed Bd.named
  have hnm := (name_of_methodNamed Bd.named Bd.method).1
  have X0 : Stand p l e (rmm 0 0 0 0) s m #[(.ref b1), (.int (5 : Int32))] below meth c s₁ [] 0 0 := Stand.of_body Bd
  have e0 : s₁.heap = h0 := by rw [← hh, Bd.state]; rfl
  have N0 := Fr.nil n0
  show Go p e below (FinE s below (QCL_5_5 Z b1 kc2 vs h0 n0) (rmm 0 0 0 0).cells (rmm 0 0 0 0).slots) (s₁.setTop (entryFrame m #[(.ref b1), (.int (5 : Int32))] 2))
  refine Go.via (fun t k => castTop (ef_rmCL_5_5 m b1) k) ?_
  refine Go.via (fun _ => XS.iloadN X0.here hx rfl (hb hby d15_0) rfl) ?_
  refine Go.via (fun _ => XS.aloadN X0.here hx rfl (hb hby d15_1) rfl rfl) ?_
  obtain ⟨cl101, Ar101, -, S101, N101n, -, -⟩ := id V2
  have al101 := X0.arraylength hx (by rw [e0]; exact Ar101.1) (State.isArrayOf_alike hZ.alike Ar101.2.1) (g := (mkF m 2 #[rv b1, iv (5 : Int32)] [(.ref b1), (.int (5 : Int32))])) rfl rfl (hb hby d15_2)
  rw [len_of S101 N101n] at al101
  refine Go.via al101 ?_
  refine Go.via (fun _ => XS.isub X0.here hx rfl (hb hby d15_3) rfl) ?_
  refine Go.via (fun _ => XS.bipush X0.here hx rfl (hb hby d15_4)) ?_
  show Go p e below _ (s₁.setTop (mkF m 6 #[rv b1, iv (5 : Int32)] [(.int (31 : Int32)), (.int (0 : Int32))]))
  refine Go.via (fun _ => XS.iushr X0.here hx rfl (hb hby d15_6) rfl) ?_
  refine Go.via (fun _ => XS.i2b X0.here hx rfl (hb hby d15_7) rfl) ?_
  exact own_retN X0 hx hlk (t := .byte) Bd.returns (by simp) (hb hby d15_8) (by show QCL_5_5 Z b1 kc2 vs h0 n0 _ s₁.heap _; rw [e0]; exact ⟨rfl, N0, rfl⟩) (by decide) (by decide)
theorem ef_rmI4_5 (m : MethodId) (x0 : Addr) (x1 : Addr) : entryFrame m #[(.ref x0), (.ref x1), (.int (0 : Int32)), (.int (5 : Int32)), .null] 6 = mkF m 0 #[rv x0, rv x1, iv (0 : Int32), iv (5 : Int32), .val .null, .unset] [] := by first | (simp [entryFrame, mkF, argsToLocals, Value.category]; done) | rfl
def QI4_5 (Z : State) (a1 : Addr) (a2 : Addr) (kc1 : ClassId) (c0 : Int32) (c1 : Int32) (c2 : Int32) (c3 : Int32) (c4 : Int32) (ccs : Int32) (h0 : Heap) (n0 : Nat) (v : Option Value) (h : Heap) (L : List Loc) : Prop := v = none ∧ Fr n0 L ∧ Keep h0 h [a1] ∧ ∃ (t : Addr) (kb : ClassId), h0.size ≤ t ∧ Fld Z h a1 "java/lang/String" "value" "[B" (.ref t) ∧ Fld Z h a1 "java/lang/String" "coder" "B" (.int (0 : Int32)) ∧ Arv Z h t kb .byte (5 : Int32) [(.int (nar .byte (c0.toInt8.toInt32))), (.int (nar .byte (c1.toInt8.toInt32))), (.int (nar .byte (c2.toInt8.toInt32))), (.int (nar .byte (c3.toInt8.toInt32))), (.int (nar .byte (c4.toInt8.toInt32)))] (.int (0 : Int32))
set_option maxRecDepth 65536 in
set_option maxHeartbeats 40000000 in
theorem rmI4_5 (l : Launch) (Z : State) (a0 : Array Value) (hw : TW Z a0) (ws : List Jvm.Cond) (a1 : Addr) (a2 : Addr) (kc1 : ClassId) (c0 : Int32) (c1 : Int32) (c2 : Int32) (c3 : Int32) (c4 : Int32) (ccs : Int32) (h0 : Heap) (n0 : Nat) (Z0 : n0 ≤ h0.size) (E1 : Exa Z h0 a1 "java/lang/String") (F1 : Fld Z h0 a1 "java/lang/String" "value" "[B" .null) (F2 : Fld Z h0 a1 "java/lang/String" "coder" "B" (.int (0 : Int32))) (g1 : n0 ≤ a1) (ne1 : a1 ≠ a2) (V1 : Arv Z h0 a2 kc1 .char (5 : Int32) [(.int c0), (.int c1), (.int c2), (.int c3), (.int c4)] (.int (0 : Int32))) (hl0 : ¬ ((255 : Int32) < c0)) (hl1 : ¬ ((255 : Int32) < c1)) (hl2 : ¬ ((255 : Int32) < c2)) (hl3 : ¬ ((255 : Int32) < c3)) (hl4 : ¬ ((255 : Int32) < c4)) (O0 : Old Z n0 h0) (S_CS : Sta Z Z.heap "java/lang/String" "COMPACT_STRINGS" "Z" (.int ccs)) (hcs : ¬ (ccs = (0 : Int32))) :
    MF l Z (⟨"java/lang/String", "<init>", "([CIILjava/lang/Void;)V"⟩ : MethodName) jdk_42_method_149_code 6 none ws (rmm 2 1 5 35) #[(.ref a1), (.ref a2), (.int (0 : Int32)), (.int (5 : Int32)), .null] h0 (QI4_5 Z a1 a2 kc1 c0 c1 c2 c3 c4 ccs h0 n0) := by
  refine MetFree.of_bodySF (plainFor_of_name pn_java_lang_String) hisR ?_
  intro p e s m args below meth c s₁ Bd hml0 hP hK
  obtain ⟨rfl, hZ, hh⟩ := hP
  have hx := Bd.exec
  have hby := Bd.bytes
  have hlk : meth.locks = false := Bd.notSynchronized
  have hml : c.maxLocals = 6 := hml0
  have hown : s.vm.findClass "java/lang/String" = some m.cls := findClass_of_methodNamed Bd.named
  have hnm := (name_of_methodNamed Bd.named Bd.method).1
  have X0 : Stand p l e (rmm 2 1 5 35) s m #[(.ref a1), (.ref a2), (.int (0 : Int32)), (.int (5 : Int32)), .null] below meth c s₁ [] 0 0 := Stand.of_body Bd
  have e0 : s₁.heap = h0 := by rw [← hh, Bd.state]; rfl
  have N0 := Fr.nil n0
  show Go p e below (FinE s below (QI4_5 Z a1 a2 kc1 c0 c1 c2 c3 c4 ccs h0 n0) (rmm 2 1 5 35).cells (rmm 2 1 5 35).slots) (s₁.setTop (entryFrame m #[(.ref a1), (.ref a2), (.int (0 : Int32)), (.int (5 : Int32)), .null] 6))
  refine Go.via (fun t k => castTop (ef_rmI4_5 m a1 a2) k) ?_
  refine Go.via (fun _ => XS.aloadN X0.here hx rfl (hb hby d12_0) rfl rfl) ?_
  obtain ⟨T101, X101, e101, st101⟩ := initO X0 hx hZ hown (ow hw 77 rfl) (ow hw 43 rfl) (ow hw 44 rfl) e0 (g := (mkF m 1 #[rv a1, rv a2, iv (0 : Int32), iv (5 : Int32), .val .null, .unset] [(.ref a1)])) rfl (by rw [hml]; rfl) rfl (hb hby d12_1) (by decide) (W := 0) (by show 2 * 0 + _ ≤ _; exact Nat.le_of_eq rfl) (by decide)
  refine Go.via st101 ?_
  refine Go.via (fun _ => XS.iloadN X101.here hx rfl (hb hby d12_4) rfl) ?_
  refine Go.via (fun _ => XS.ifYes X101.here hx rfl (pc0 := 5) (pc' := 27) rfl (hb hby d12_5) rfl (by decide) (by decide) (by decide)) ?_
  obtain ⟨T102, X102, e102, st102⟩ := getS2 X101 hx hZ hown (host := "") (Or.inl (ow hw 78 rfl)) Via.refl e101 (S_CS.ext O0.2) (g := (mkF m 27 #[rv a1, rv a2, iv (0 : Int32), iv (5 : Int32), .val .null, .unset] [])) rfl (hb hby d12_27)
  refine Go.via st102 ?_
  show Go p e below _ (T102.setTop (mkF m 30 #[rv a1, rv a2, iv (0 : Int32), iv (5 : Int32), .val .null, .unset] [(.int ccs)]))
  refine Go.via (fun _ => XS.ifNo X102.here hx rfl (hb hby d12_30) rfl ((if0 _ _).trans (feq hcs).1)) ?_
  refine Go.via (fun _ => XS.aloadN X102.here hx rfl (hb hby d12_33) rfl rfl) ?_
  refine Go.via (fun _ => XS.iloadN X102.here hx rfl (hb hby d12_34) rfl) ?_
  refine Go.via (fun _ => XS.iloadN X102.here hx rfl (hb hby d12_35) rfl) ?_
  obtain ⟨_, _, ⟨T103, L103, k103, n103⟩, -, X103, ⟨Lc103, hQ103, l103, y103, z103⟩, st103⟩ := Jvm.LawKit.callS X102 hx (y := (⟨"java/lang/StringUTF16", "compress", "([CII)[B"⟩ : MethodName)) hown (mvT hZ (ow hw 79 rfl)) (mvT hZ (ow hw 80 rfl)) (mvT hZ (ow hw 81 rfl)) (mvT hZ (ow hw 82 rfl)) (by decide) (backOf (W := 0) (rmC1_5 l Z a0 hw [] a2 kc1 c0 c1 c2 c3 c4 h0 n0 Z0 V1 hl0 hl1 hl2 hl3 hl4) hZ (ow hw 82 rfl) (ow hw 81 rfl) (by decide) (by decide)) (g := (mkF m 36 #[rv a1, rv a2, iv (0 : Int32), iv (5 : Int32), .val .null, .unset] [(.int (5 : Int32)), (.int (0 : Int32)), (.ref a2)])) rfl (by rw [hml]; rfl) (argsL := [(.ref a2), (.int (0 : Int32)), (.int (5 : Int32))]) (rest := []) (lenOf pd_7 rfl) rfl (by show 2 * 0 + _ ≤ _; exact Nat.le_of_eq rfl) (hb hby d12_36) (fun _ _ => ⟨rfl, e102, (by decide : 0 + 1 ≤ _), (by decide : 0 + 5 ≤ _)⟩)
  dsimp only [Pt.U, Pt.locs, Pt.cells, Pt.slots] at X103 l103 y103 z103 st103 hQ103
  rw [l103, y103, z103] at X103
  replace X103 : Stand p l e _ _ m _ below meth c T103 _ 1 5 := X103
  obtain ⟨t103, kb103, rfl, N103q, K103q, gt103, va103⟩ := hQ103
  have N103 := Fr.app N0 N103q
  refine Go.via st103 ?_
  have Zs103 : n0 ≤ T103.heap.size := Nat.le_trans Z0 K103q.1
  have O103 : Old Z n0 T103.heap := O0.keep K103q all0
  have K103 : Keep h0 T103.heap [a1] := (Keep.refl h0 [a1]).trans K103q all0
  have fE_a1_103 := E1.keep K103q
  have fF_a1_value_103 := F1.keep K103q nin0
  have fF_a1_coder_103 := F2.keep K103q nin0
  have fV_a2_103 := V1.keep K103q nin0
  have g_t103 : n0 ≤ t103 := Nat.le_trans Z0 gt103
  have ne_a1_t103 : a1 ≠ t103 := Nat.ne_of_lt (Nat.lt_of_lt_of_le E1.lt gt103)
  have ne_a2_t103 : a2 ≠ t103 := Nat.ne_of_lt (Nat.lt_of_lt_of_le V1.lt gt103)
  have sz_t103 : h0.size ≤ t103 := Nat.le_trans (Keep.refl h0 [a1]).1 gt103
  refine Go.via (fun _ => XS.astore X103.here hx rfl (hb hby d12_39) rfl rfl (l' := #[rv a1, rv a2, iv (0 : Int32), iv (5 : Int32), .val .null, rv t103]) rfl) ?_
  show Go p e below _ (T103.setTop (mkF m 41 #[rv a1, rv a2, iv (0 : Int32), iv (5 : Int32), .val .null, rv t103] []))
  refine Go.via (fun _ => XS.aloadN X103.here hx rfl (hb hby d12_41) rfl rfl) ?_
  refine Go.via (fun _ => XS.aload X103.here hx rfl (hb hby d12_42) rfl rfl) ?_
  refine Go.via (fun _ => XS.iloadN X103.here hx rfl (hb hby d12_44) rfl) ?_
  obtain ⟨_, _, ⟨T104, L104, k104, n104⟩, -, X104, ⟨Lc104, hQ104, l104, y104, z104⟩, st104⟩ := Jvm.LawKit.callS X103 hx (y := (⟨"java/lang/StringUTF16", "coderFromArrayLen", "([BI)B"⟩ : MethodName)) hown (mvT hZ (ow hw 86 rfl)) (mvT hZ (ow hw 87 rfl)) (mvT hZ (ow hw 81 rfl)) (mvT hZ (ow hw 88 rfl)) (by decide) (backOf (W := 1) (rmCL_5_5 l Z a0 hw [] t103 kb103 _ T103.heap n0 Zs103 va103) hZ (ow hw 88 rfl) (ow hw 81 rfl) (by decide) (by decide)) (g := (mkF m 45 #[rv a1, rv a2, iv (0 : Int32), iv (5 : Int32), .val .null, rv t103] [(.int (5 : Int32)), (.ref t103), (.ref a1)])) rfl (by rw [hml]; rfl) (argsL := [(.ref t103), (.int (5 : Int32))]) (rest := [(.ref a1)]) (lenOf pd_8 rfl) rfl (by show 2 * 0 + _ ≤ _; exact Nat.le_of_eq rfl) (hb hby d12_45) (fun _ _ => ⟨rfl, rfl, (by decide : 1 + 0 ≤ _), (by decide : 5 + 0 ≤ _)⟩)
  dsimp only [Pt.U, Pt.locs, Pt.cells, Pt.slots] at X104 l104 y104 z104 st104 hQ104
  rw [l104, y104, z104] at X104
  replace X104 : Stand p l e _ _ m _ below meth c T104 _ 1 5 := X104
  obtain ⟨rfl, N104q, e104q⟩ := hQ104
  have N104 := Fr.app N103 N104q
  refine Go.via st104 ?_
  obtain ⟨T105, h105, X105, e105, W105, st105⟩ := putFN X104 hx hZ hown (ow hw 89 rfl) Via.refl e104q fF_a1_coder_103 fE_a1_103 (Or.inr ⟨(ow hw 16 rfl), rfl, hnm⟩) (ow hw 13 rfl) (ty := .byte) (v' := .int (nar .byte (0 : Int32))) (by decide) rfl (fits_nar_byte _) (g := (mkF m 48 #[rv a1, rv a2, iv (0 : Int32), iv (5 : Int32), .val .null, rv t103] [(.int (0 : Int32)), (.ref a1)])) rfl rfl (hb hby d12_48)
  refine Go.via st105 ?_
  have fF_a1_coder_105 : Fld Z h105 a1 "java/lang/String" "coder" "B" (.int (0 : Int32)) := fF_a1_coder_103.same W105
  have Zs105 : n0 ≤ h105.size := Nat.le_trans Zs103 (Keep.of_wr W105).1
  have O105 : Old Z n0 h105 := O103.wr W105 g1
  have K105 : Keep h0 h105 [a1] := K103.wr W105 (Or.inl (List.mem_of_getElem? (i := 0) rfl))
  have N105 := Fr.snoc X105 N104 g1
  have fE_a1_105 := fE_a1_103.wr W105
  have fF_a1_value_105 := fF_a1_value_103.other W105 (Or.inr (slot_ne (Or.inr (ow hw 15 rfl)) (Or.inr (ow hw 16 rfl)) (by decide) (t := (.array .byte)) (t' := .byte) (by decide) (by decide)))
  have fV_a2_105 := fV_a2_103.other W105 (Ne.symm ne1)
  have fV_t103_105 := va103.other W105 (Ne.symm ne_a1_t103)
  refine Go.via (fun _ => XS.aloadN X105.here hx rfl (hb hby d12_51) rfl rfl) ?_
  show Go p e below _ (T105.setTop (mkF m 52 #[rv a1, rv a2, iv (0 : Int32), iv (5 : Int32), .val .null, rv t103] [(.ref a1)]))
  refine Go.via (fun _ => XS.aload X105.here hx rfl (hb hby d12_52) rfl rfl) ?_
  obtain ⟨T106, h106, X106, e106, W106, st106⟩ := putF X105 hx hZ hown (host := "") (Or.inl (ow hw 90 rfl)) Via.refl e105 fF_a1_value_105 fE_a1_105 (Or.inr ⟨(ow hw 15 rfl), rfl, hnm⟩) (ow hw 13 rfl) (ty := (.array .byte)) (by decide) rfl rfl (g := (mkF m 54 #[rv a1, rv a2, iv (0 : Int32), iv (5 : Int32), .val .null, rv t103] [(.ref t103), (.ref a1)])) rfl rfl (hb hby d12_54)
  refine Go.via st106 ?_
  have fF_a1_value_106 : Fld Z h106 a1 "java/lang/String" "value" "[B" (.ref t103) := fF_a1_value_105.same W106
  have Zs106 : n0 ≤ h106.size := Nat.le_trans Zs105 (Keep.of_wr W106).1
  have O106 : Old Z n0 h106 := O105.wr W106 g1
  have K106 : Keep h0 h106 [a1] := K105.wr W106 (Or.inl (List.mem_of_getElem? (i := 0) rfl))
  have N106 := Fr.snoc X106 N105 g1
  have fE_a1_106 := fE_a1_105.wr W106
  have fF_a1_coder_106 := fF_a1_coder_105.other W106 (Or.inr (slot_ne (Or.inr (ow hw 16 rfl)) (Or.inr (ow hw 15 rfl)) (by decide) (t := .byte) (t' := (.array .byte)) (by decide) (by decide)))
  have fV_a2_106 := fV_a2_105.other W106 (Ne.symm ne1)
  have fV_t103_106 := fV_t103_105.other W106 (Ne.symm ne_a1_t103)
  exact own_retV X106 hx hlk Bd.returns (hb hby d12_57) (by show QI4_5 Z a1 a2 kc1 c0 c1 c2 c3 c4 ccs h0 n0 _ T106.heap _; rw [e106]; exact ⟨rfl, N106, K106, t103, kb103, sz_t103, fF_a1_value_106, fF_a1_coder_106, fV_t103_106⟩) (by decide) (by decide)
theorem ef_rmI1_5 (m : MethodId) (x0 : Addr) (x1 : Addr) : entryFrame m #[(.ref x0), (.ref x1)] 2 = mkF m 0 #[rv x0, rv x1] [] := by first | (simp [entryFrame, mkF, argsToLocals, Value.category]; done) | rfl
def QI1_5 (Z : State) (a1 : Addr) (a2 : Addr) (kc1 : ClassId) (c0 : Int32) (c1 : Int32) (c2 : Int32) (c3 : Int32) (c4 : Int32) (ccs : Int32) (h0 : Heap) (n0 : Nat) (v : Option Value) (h : Heap) (L : List Loc) : Prop := v = none ∧ Fr n0 L ∧ Keep h0 h [a1] ∧ ∃ (t : Addr) (kb : ClassId), h0.size ≤ t ∧ Fld Z h a1 "java/lang/String" "value" "[B" (.ref t) ∧ Fld Z h a1 "java/lang/String" "coder" "B" (.int (0 : Int32)) ∧ Arv Z h t kb .byte (5 : Int32) [(.int (nar .byte (c0.toInt8.toInt32))), (.int (nar .byte (c1.toInt8.toInt32))), (.int (nar .byte (c2.toInt8.toInt32))), (.int (nar .byte (c3.toInt8.toInt32))), (.int (nar .byte (c4.toInt8.toInt32)))] (.int (0 : Int32))
set_option maxRecDepth 65536 in
set_option maxHeartbeats 40000000 in
theorem rmI1_5 (l : Launch) (Z : State) (a0 : Array Value) (hw : TW Z a0) (ws : List Jvm.Cond) (a1 : Addr) (a2 : Addr) (kc1 : ClassId) (c0 : Int32) (c1 : Int32) (c2 : Int32) (c3 : Int32) (c4 : Int32) (ccs : Int32) (h0 : Heap) (n0 : Nat) (Z0 : n0 ≤ h0.size) (E1 : Exa Z h0 a1 "java/lang/String") (F1 : Fld Z h0 a1 "java/lang/String" "value" "[B" .null) (F2 : Fld Z h0 a1 "java/lang/String" "coder" "B" (.int (0 : Int32))) (g1 : n0 ≤ a1) (ne1 : a1 ≠ a2) (V1 : Arv Z h0 a2 kc1 .char (5 : Int32) [(.int c0), (.int c1), (.int c2), (.int c3), (.int c4)] (.int (0 : Int32))) (hl0 : ¬ ((255 : Int32) < c0)) (hl1 : ¬ ((255 : Int32) < c1)) (hl2 : ¬ ((255 : Int32) < c2)) (hl3 : ¬ ((255 : Int32) < c3)) (hl4 : ¬ ((255 : Int32) < c4)) (O0 : Old Z n0 h0) (S_CS : Sta Z Z.heap "java/lang/String" "COMPACT_STRINGS" "Z" (.int ccs)) (hcs : ¬ (ccs = (0 : Int32))) :
    MF l Z (⟨"java/lang/String", "<init>", "([C)V"⟩ : MethodName) jdk_42_method_3_code 2 none ws (rmm 3 1 5 52) #[(.ref a1), (.ref a2)] h0 (QI1_5 Z a1 a2 kc1 c0 c1 c2 c3 c4 ccs h0 n0) := by
  refine MetFree.of_bodySF (plainFor_of_name pn_java_lang_String) hisR ?_
  intro p e s m args below meth c s₁ Bd hml0 hP hK
  obtain ⟨rfl, hZ, hh⟩ := hP
  have hx := Bd.exec
  have hby := Bd.bytes
  have hlk : meth.locks = false := Bd.notSynchronized
  have hml : c.maxLocals = 2 := hml0
  have hown : s.vm.findClass "java/lang/String" = some m.cls := findClass_of_methodNamed Bd.named
  have hnm := (name_of_methodNamed Bd.named Bd.method).1
  have X0 : Stand p l e (rmm 3 1 5 52) s m #[(.ref a1), (.ref a2)] below meth c s₁ [] 0 0 := Stand.of_body Bd
  have e0 : s₁.heap = h0 := by rw [← hh, Bd.state]; rfl
  have N0 := Fr.nil n0
  show Go p e below (FinE s below (QI1_5 Z a1 a2 kc1 c0 c1 c2 c3 c4 ccs h0 n0) (rmm 3 1 5 52).cells (rmm 3 1 5 52).slots) (s₁.setTop (entryFrame m #[(.ref a1), (.ref a2)] 2))
  refine Go.via (fun t k => castTop (ef_rmI1_5 m a1 a2) k) ?_
  refine Go.via (fun _ => XS.aloadN X0.here hx rfl (hb hby d11_0) rfl rfl) ?_
  refine Go.via (fun _ => XS.aloadN X0.here hx rfl (hb hby d11_1) rfl rfl) ?_
  refine Go.via (fun _ => XS.iconst X0.here hx rfl (hb hby d11_2)) ?_
  refine Go.via (fun _ => XS.aloadN X0.here hx rfl (hb hby d11_3) rfl rfl) ?_
  obtain ⟨cl101, Ar101, -, S101, N101n, -, -⟩ := id V1
  have al101 := X0.arraylength hx (by rw [e0]; exact Ar101.1) (State.isArrayOf_alike hZ.alike Ar101.2.1) (g := (mkF m 4 #[rv a1, rv a2] [(.ref a2), (.int (0 : Int32)), (.ref a2), (.ref a1)])) rfl rfl (hb hby d11_4)
  rw [len_of S101 N101n] at al101
  refine Go.via al101 ?_
  show Go p e below _ (s₁.setTop (mkF m 5 #[rv a1, rv a2] [(.int (5 : Int32)), (.int (0 : Int32)), (.ref a2), (.ref a1)]))
  refine Go.via (fun _ => XS.aconstNull X0.here hx rfl (hb hby d11_5)) ?_
  obtain ⟨_, _, ⟨T102, L102, k102, n102⟩, -, X102, ⟨Lc102, hQ102, l102, y102, z102⟩, st102⟩ := X0.specialBack hx (y := (⟨"java/lang/String", "<init>", "([CIILjava/lang/Void;)V"⟩ : MethodName)) rfl hown (mvT hZ (ow hw 73 rfl)) (mvT hZ (ow hw 74 rfl)) (mvT hZ (ow hw 76 rfl)) (by decide) (backOf (W := 0) (rmI4_5 l Z a0 hw [] a1 a2 kc1 c0 c1 c2 c3 c4 ccs h0 n0 Z0 E1 F1 F2 g1 ne1 V1 hl0 hl1 hl2 hl3 hl4 O0 S_CS hcs) hZ (ow hw 76 rfl) (ow hw 12 rfl) (by decide) (by decide)) (g := (mkF m 6 #[rv a1, rv a2] [.null, (.int (5 : Int32)), (.int (0 : Int32)), (.ref a2), (.ref a1)])) rfl (by rw [hml]; rfl) (Steps.refl _) (a := a1) (argsL := [(.ref a2), (.int (0 : Int32)), (.int (5 : Int32)), .null]) (rest := []) (lenOf pd_5 rfl) rfl (by show 2 * 0 + _ ≤ _; exact Nat.le_of_eq rfl) (hb hby d11_6) (fun _ _ => ⟨rfl, e0, (by decide : 0 + 1 ≤ _), (by decide : 0 + 5 ≤ _)⟩)
  dsimp only [Pt.U, Pt.locs, Pt.cells, Pt.slots] at X102 l102 y102 z102 st102 hQ102
  rw [l102, y102, z102] at X102
  replace X102 : Stand p l e _ _ m _ below meth c T102 _ 1 5 := X102
  obtain ⟨rfl, N102q, K102q, t102, kb102, gt102, fv102, fc102, va102⟩ := hQ102
  have N102 := Fr.app N0 N102q
  refine Go.tr st102 ?_
  have Zs102 : n0 ≤ T102.heap.size := Nat.le_trans Z0 K102q.1
  have O102 : Old Z n0 T102.heap := O0.keep K102q (allS g1 all0)
  have fE_a1_102 := E1.keep K102q
  have fV_a2_102 := V1.keep K102q (ninS (Ne.symm ne1) nin0)
  exact own_retV X102 hx hlk Bd.returns (hb hby d11_9) (by show QI1_5 Z a1 a2 kc1 c0 c1 c2 c3 c4 ccs h0 n0 _ T102.heap _; exact ⟨rfl, N102, K102q, t102, kb102, gt102, fv102, fc102, va102⟩) (by decide) (by decide)
theorem ef_rmTX_0 (m : MethodId) (x1 : Int32) (x2 : Int32) (x3 : Int32) (x4 : Int32) (x5 : Int32) : entryFrame m #[(.int (0 : Int32)), (.int x1), (.int x2), (.int x3), (.int x4), (.int x5)] 6 = mkF m 0 #[iv (0 : Int32), iv x1, iv x2, iv x3, iv x4, iv x5] [] := by first | (simp [entryFrame, mkF, argsToLocals, Value.category]; done) | rfl
def QTX_0 (Z : State) (c0 : Int32) (c1 : Int32) (c2 : Int32) (c3 : Int32) (c4 : Int32) (ccs : Int32) (h0 : Heap) (n0 : Nat) (v : Option Value) (h : Heap) (L : List Loc) : Prop := ∃ (a t : Addr) (kb : ClassId), v = some (.ref a) ∧ Fr n0 L ∧ Keep h0 h [] ∧ Exa Z h a "java/lang/String" ∧ Fld Z h a "java/lang/String" "value" "[B" (.ref t) ∧ Fld Z h a "java/lang/String" "coder" "B" (.int (0 : Int32)) ∧ Arv Z h t kb .byte (0 : Int32) [] (.int (0 : Int32))
set_option maxRecDepth 65536 in
set_option maxHeartbeats 40000000 in
theorem rmTX_0 (l : Launch) (Z : State) (a0 : Array Value) (hw : TW Z a0) (ws : List Jvm.Cond) (c0 : Int32) (c1 : Int32) (c2 : Int32) (c3 : Int32) (c4 : Int32) (ccs : Int32) (h0 : Heap) (n0 : Nat) (Z0 : n0 ≤ h0.size) (hEW : EW Z a0 consts_1) (O0 : Old Z n0 h0) (S_CS : Sta Z Z.heap "java/lang/String" "COMPACT_STRINGS" "Z" (.int ccs)) (hcs : ¬ (ccs = (0 : Int32))) :
    MetFree l (⟨"com/example/sluice/sluice/expression/ValuesIsTruePinLaw", "text", "(ICCCCC)Ljava/lang/String;"⟩ : MethodName) (head1 (Jvm.Cond.code (⟨"com/example/sluice/sluice/expression/ValuesIsTruePinLaw", "text", "(ICCCCC)Ljava/lang/String;"⟩ : MethodName) method_3_code 6 (some (.object "java/lang/String")) :: ws) (rmm 3 6 12 43)) (fun a U => a = #[(.int (0 : Int32)), (.int c0), (.int c1), (.int c2), (.int c3), (.int c4)] ∧ Z.Warmed39 U.vm ∧ U.heap = h0 ∧ CHv Z consts_1 U.vm h0) (fun _ _ _ _ _ => True) (fun _ U o U' => ∃ v L, o = .returned v ∧ QTX_0 Z c0 c1 c2 c3 c4 ccs h0 n0 v U'.heap L ∧ CHr Z consts_1 U.vm U.heap U'.vm U'.heap ∧ ReturnedEndW U o U' L (rmm 3 6 12 43).cells (rmm 3 6 12 43).slots) := by
  refine MetFree.of_bodySF (plainFor_of_name pn_com_example_sluice_sluice_expression_ValuesIsTruePinLaw) hisR ?_
  intro p e s m args below meth c s₁ Bd hml0 hP hK
  obtain ⟨rfl, hZ, hh, hCH⟩ := hP
  have hx := Bd.exec
  have hby := Bd.bytes
  have hlk : meth.locks = false := Bd.notSynchronized
  have hml : c.maxLocals = 6 := hml0
  have hown : s.vm.findClass "com/example/sluice/sluice/expression/ValuesIsTruePinLaw" = some m.cls := findClass_of_methodNamed Bd.named
  have hnm := (name_of_methodNamed Bd.named Bd.method).1
  have X0 : Stand p l e (rmm 3 6 12 43) (s.setVm s.vm) m #[(.int (0 : Int32)), (.int c0), (.int c1), (.int c2), (.int c3), (.int c4)] below meth c s₁ [] 0 0 := Stand.of_body Bd
  replace hZ : Z.Warmed39 (s.setVm s.vm).vm := hZ
  replace hown : (s.setVm s.vm).vm.findClass "com/example/sluice/sluice/expression/ValuesIsTruePinLaw" = some m.cls := hown
  have hS0 : s.Since s.vm 0 := (State.WarmedH.refl s).since 0
  have hk0 : 0 ≤ h0.size := Nat.zero_le _
  have R0 : CHr Z consts_1 s.vm h0 s.vm h0 := CHr.refl hCH
  have e0 : s₁.heap = h0 := by rw [← hh, Bd.state]; rfl
  have N0 := Fr.nil n0
  show Go p e below (FinH Z consts_1 s below (QTX_0 Z c0 c1 c2 c3 c4 ccs h0 n0) (rmm 3 6 12 43).cells (rmm 3 6 12 43).slots) (s₁.setTop (entryFrame m #[(.int (0 : Int32)), (.int c0), (.int c1), (.int c2), (.int c3), (.int c4)] 6))
  refine Go.via (fun t k => castTop (ef_rmTX_0 m c0 c1 c2 c3 c4) k) ?_
  refine Go.via (fun _ => XS.iloadN X0.here hx rfl (hb hby d10_0) rfl) ?_
  refine Go.via (fun _ => XS.ifNo X0.here hx rfl (hb hby d10_1) rfl (by decide)) ?_
  obtain ⟨T101, h101, X101, e101, E101, A101, D101, -, st101⟩ := newO X0 hx hZ hown (ow hw 68 rfl) (ow hw 13 rfl) (ow hw 12 rfl) e0 (g := (mkF m 4 #[iv (0 : Int32), iv c0, iv c1, iv c2, iv c3, iv c4] [])) rfl (hb hby d10_4) (by decide) (by decide)
  obtain ⟨b101, g101⟩ : ∃ z, z = h0.size := ⟨_, rfl⟩
  rw [← g101] at A101 D101 st101
  have g_b101 : n0 ≤ b101 := Nat.le_trans Z0 (Nat.le_of_eq g101.symm)
  have sz_b101 : h0.size ≤ b101 := Nat.le_trans (Keep.refl h0 []).1 (Nat.le_of_eq g101.symm)
  refine Go.via st101 ?_
  have Zs101 : n0 ≤ h101.size := Nat.le_trans Z0 E101.1
  have hk101 : 0 ≤ h101.size := Nat.le_trans hk0 E101.1
  have R101 : CHr Z consts_1 s.vm h0 s.vm h101 := R0.trans (CHr.ext E101 R0.1)
  have O101 : Old Z n0 h101 := O0.ext E101
  have K101 : Keep h0 h101 [] := (Keep.refl h0 []).ext E101
  have sf_b101 : Safe Z consts_1 s.vm h101 b101 := Safe.ext E101 R0.1 (Safe.new (Nat.le_of_eq g101.symm))
  have F_value_b101 : Fld Z h101 b101 "java/lang/String" "value" "[B" .null := D101 (Or.inr (ow hw 15 rfl)) (ty := (.array .byte)) (by decide)
  have F_coder_b101 : Fld Z h101 b101 "java/lang/String" "coder" "B" (.int (0 : Int32)) := D101 (Or.inr (ow hw 16 rfl)) (ty := .byte) (by decide)
  refine Go.via (fun _ => XS.dup X101.here hx rfl (hb hby d10_7) rfl rfl) ?_
  refine Go.via (fun _ => XS.iconst X101.here hx rfl (hb hby d10_8)) ?_
  show Go p e below _ (T101.setTop (mkF m 9 #[iv (0 : Int32), iv c0, iv c1, iv c2, iv c3, iv c4] [(.int (0 : Int32)), (.ref b101), (.ref b101)]))
  obtain ⟨T102, h102, k102, X102, e102, E102, A102, st102⟩ := newP X101 hx hZ (ow hw 69 rfl) e101 (g := (mkF m 9 #[iv (0 : Int32), iv c0, iv c1, iv c2, iv c3, iv c4] [(.int (0 : Int32)), (.ref b101), (.ref b101)])) rfl (hb hby d10_9) rfl (by decide) (cap := 0) (by decide) (by decide) (by decide) (by decide)
  obtain ⟨b102, g102⟩ : ∃ z, z = h101.size := ⟨_, rfl⟩
  rw [← g102] at A102 st102
  have g_b102 : n0 ≤ b102 := Nat.le_trans Zs101 (Nat.le_of_eq g102.symm)
  have ne_b101_b102 : b101 ≠ b102 := Nat.ne_of_lt (Nat.lt_of_lt_of_le A101.lt (Nat.le_of_eq g102.symm))
  have sz_b102 : h0.size ≤ b102 := Nat.le_trans K101.1 (Nat.le_of_eq g102.symm)
  refine Go.via st102 ?_
  have Zs102 : n0 ≤ h102.size := Nat.le_trans Zs101 E102.1
  have hk102 : 0 ≤ h102.size := Nat.le_trans hk101 E102.1
  have sf_b101_102 := Safe.ext E102 R101.1 sf_b101
  have R102 : CHr Z consts_1 s.vm h0 s.vm h102 := R101.trans (CHr.ext E102 R101.1)
  have O102 : Old Z n0 h102 := O101.ext E102
  have K102 : Keep h0 h102 [] := K101.ext E102
  have fE_b101_102 := A101.ext E102
  have fF_b101_value_102 := F_value_b101.ext E102
  have fF_b101_coder_102 := F_coder_b101.ext E102
  have V_b102 : Arv Z h102 b102 k102 .char (0 : Int32) [] (.int (0 : Int32)) := (Arv.new A102 (by decide)).pad (pad_rep [] (.int (0 : Int32)) 0)
  have sf_b102 : Safe Z consts_1 s.vm h102 b102 := Safe.ext E102 R101.1 (Safe.new (Nat.le_of_eq g102.symm))
  obtain ⟨_, _, ⟨T103, L103, k103, n103⟩, -, X103, S103w, gr103, ⟨Lc103, hQ103, l103, y103, z103, cr103⟩, st103⟩ := X102.specialBackS hx (y := (⟨"java/lang/String", "<init>", "([C)V"⟩ : MethodName)) rfl hown (mvT hZ (ow hw 70 rfl)) (mvT hZ (ow hw 71 rfl)) (mvT hZ (ow hw 72 rfl)) (by decide) (backOfSH (W := 1) (rmK1 l Z a0 hw [] b101 b102 k102 ccs h102 n0 Zs102 fE_b101_102 fF_b101_value_102 fF_b101_coder_102 g_b101 ne_b101_b102 V_b102 hEW O102 S_CS hcs) hZ (ow hw 72 rfl) (ow hw 12 rfl) (by decide) (by decide) hEW R102.1) (g := (mkF m 11 #[iv (0 : Int32), iv c0, iv c1, iv c2, iv c3, iv c4] [(.ref b102), (.ref b101), (.ref b101)])) rfl (by rw [hml]; rfl) (Steps.refl _) (a := b101) (argsL := [(.ref b102)]) (rest := [(.ref b101)]) (lenOf pd_9 rfl) rfl (by show 2 * 0 + _ ≤ _; exact Nat.le_of_eq rfl) (hb hby d10_11) (fun _ _ => ⟨rfl, e102, (by decide : 2 + 4 ≤ _), (by decide : 4 + 8 ≤ _)⟩)
  dsimp only [Pt.U, Pt.locs, Pt.cells, Pt.slots] at X103 l103 y103 z103 st103 hQ103 S103w gr103 cr103
  rw [l103, y103, z103] at X103
  replace X103 : Stand p l e _ _ m _ below meth c T103 _ 6 12 := X103
  obtain ⟨rfl, N103q, K103q, t103, kb103, fv103, fc103, va103⟩ := hQ103
  have N103 := Fr.app N0 N103q
  refine Go.tr st103 ?_
  obtain ⟨X103r, hS103, hZ103, hown103⟩ := rebS hS0 (by rw [e102]; exact hk102) X103 S103w gr103 hZ hown
  have sf_b101_103 := cr103.safe fE_b101_102.lt sf_b101_102
  have sf_b102_103 := cr103.safe V_b102.lt sf_b102
  have R103 : CHr Z consts_1 s.vm h0 T103.vm T103.heap := R102.trans cr103
  have Zs103 : n0 ≤ T103.heap.size := Nat.le_trans Zs102 K103q.1
  have O103 : Old Z n0 T103.heap := O102.keep K103q (allS g_b101 all0)
  have K103 : Keep h0 T103.heap [] := K102.trans K103q (allS (Or.inr sz_b101) all0)
  have fE_b101_103 := fE_b101_102.keep K103q
  have fV_b102_103 := V_b102.keep K103q (ninS (Ne.symm ne_b101_b102) nin0)
  have hR : CHr Z consts_1 s.vm s.heap T103.vm T103.heap := by rw [hh]; exact R103.trans (CHv.at X103r hZ103 hEW R103.1)
  exact own_retAH X103r hS103 (Nat.le_refl _) hR hx hlk Bd.returns rfl rfl (hb hby d10_14) (by show QTX_0 Z c0 c1 c2 c3 c4 ccs h0 n0 _ T103.heap _; exact ⟨b101, t103, kb103, rfl, N103, K103, fE_b101_103, fv103, fc103, va103⟩) (by decide) (by decide)
theorem ef_rmTX_1 (m : MethodId) (x1 : Int32) (x2 : Int32) (x3 : Int32) (x4 : Int32) (x5 : Int32) : entryFrame m #[(.int (1 : Int32)), (.int x1), (.int x2), (.int x3), (.int x4), (.int x5)] 6 = mkF m 0 #[iv (1 : Int32), iv x1, iv x2, iv x3, iv x4, iv x5] [] := by first | (simp [entryFrame, mkF, argsToLocals, Value.category]; done) | rfl
def QTX_1 (Z : State) (c0 : Int32) (c1 : Int32) (c2 : Int32) (c3 : Int32) (c4 : Int32) (ccs : Int32) (h0 : Heap) (n0 : Nat) (v : Option Value) (h : Heap) (L : List Loc) : Prop := ∃ (a t : Addr) (kb : ClassId), v = some (.ref a) ∧ Fr n0 L ∧ Keep h0 h [] ∧ Exa Z h a "java/lang/String" ∧ Fld Z h a "java/lang/String" "value" "[B" (.ref t) ∧ Fld Z h a "java/lang/String" "coder" "B" (.int (0 : Int32)) ∧ Arv Z h t kb .byte (1 : Int32) [(.int (nar .byte (c0.toInt8.toInt32)))] (.int (0 : Int32))
set_option maxRecDepth 65536 in
set_option maxHeartbeats 40000000 in
theorem rmTX_1 (l : Launch) (Z : State) (a0 : Array Value) (hw : TW Z a0) (ws : List Jvm.Cond) (c0 : Int32) (c1 : Int32) (c2 : Int32) (c3 : Int32) (c4 : Int32) (ccs : Int32) (h0 : Heap) (n0 : Nat) (Z0 : n0 ≤ h0.size) (hl0 : ¬ ((255 : Int32) < c0)) (hn0 : nar .char c0 = c0) (O0 : Old Z n0 h0) (S_CS : Sta Z Z.heap "java/lang/String" "COMPACT_STRINGS" "Z" (.int ccs)) (hcs : ¬ (ccs = (0 : Int32))) :
    MF l Z (⟨"com/example/sluice/sluice/expression/ValuesIsTruePinLaw", "text", "(ICCCCC)Ljava/lang/String;"⟩ : MethodName) method_3_code 6 (some (.object "java/lang/String")) ws (rmm 4 3 6 66) #[(.int (1 : Int32)), (.int c0), (.int c1), (.int c2), (.int c3), (.int c4)] h0 (QTX_1 Z c0 c1 c2 c3 c4 ccs h0 n0) := by
  refine MetFree.of_bodySF (plainFor_of_name pn_com_example_sluice_sluice_expression_ValuesIsTruePinLaw) hisR ?_
  intro p e s m args below meth c s₁ Bd hml0 hP hK
  obtain ⟨rfl, hZ, hh⟩ := hP
  have hx := Bd.exec
  have hby := Bd.bytes
  have hlk : meth.locks = false := Bd.notSynchronized
  have hml : c.maxLocals = 6 := hml0
  have hown : s.vm.findClass "com/example/sluice/sluice/expression/ValuesIsTruePinLaw" = some m.cls := findClass_of_methodNamed Bd.named
  have hnm := (name_of_methodNamed Bd.named Bd.method).1
  have X0 : Stand p l e (rmm 4 3 6 66) s m #[(.int (1 : Int32)), (.int c0), (.int c1), (.int c2), (.int c3), (.int c4)] below meth c s₁ [] 0 0 := Stand.of_body Bd
  have e0 : s₁.heap = h0 := by rw [← hh, Bd.state]; rfl
  have N0 := Fr.nil n0
  show Go p e below (FinE s below (QTX_1 Z c0 c1 c2 c3 c4 ccs h0 n0) (rmm 4 3 6 66).cells (rmm 4 3 6 66).slots) (s₁.setTop (entryFrame m #[(.int (1 : Int32)), (.int c0), (.int c1), (.int c2), (.int c3), (.int c4)] 6))
  refine Go.via (fun t k => castTop (ef_rmTX_1 m c0 c1 c2 c3 c4) k) ?_
  refine Go.via (fun _ => XS.iloadN X0.here hx rfl (hb hby d10_0) rfl) ?_
  refine Go.via (fun _ => XS.ifYes X0.here hx rfl (pc0 := 1) (pc' := 15) rfl (hb hby d10_1) rfl (by decide) (by decide) (by decide)) ?_
  refine Go.via (fun _ => XS.iloadN X0.here hx rfl (hb hby d10_15) rfl) ?_
  refine Go.via (fun _ => XS.iconst X0.here hx rfl (hb hby d10_16)) ?_
  refine Go.via (fun _ => XS.icmpNo X0.here hx rfl (hb hby d10_17) rfl (by decide)) ?_
  show Go p e below _ (s₁.setTop (mkF m 20 #[iv (1 : Int32), iv c0, iv c1, iv c2, iv c3, iv c4] []))
  obtain ⟨T101, h101, X101, e101, E101, A101, D101, -, st101⟩ := newO X0 hx hZ hown (ow hw 68 rfl) (ow hw 13 rfl) (ow hw 12 rfl) e0 (g := (mkF m 20 #[iv (1 : Int32), iv c0, iv c1, iv c2, iv c3, iv c4] [])) rfl (hb hby d10_20) (by decide) (by decide)
  obtain ⟨b101, g101⟩ : ∃ z, z = h0.size := ⟨_, rfl⟩
  rw [← g101] at A101 D101 st101
  have g_b101 : n0 ≤ b101 := Nat.le_trans Z0 (Nat.le_of_eq g101.symm)
  have sz_b101 : h0.size ≤ b101 := Nat.le_trans (Keep.refl h0 []).1 (Nat.le_of_eq g101.symm)
  refine Go.via st101 ?_
  have Zs101 : n0 ≤ h101.size := Nat.le_trans Z0 E101.1
  have O101 : Old Z n0 h101 := O0.ext E101
  have K101 : Keep h0 h101 [] := (Keep.refl h0 []).ext E101
  have F_value_b101 : Fld Z h101 b101 "java/lang/String" "value" "[B" .null := D101 (Or.inr (ow hw 15 rfl)) (ty := (.array .byte)) (by decide)
  have F_coder_b101 : Fld Z h101 b101 "java/lang/String" "coder" "B" (.int (0 : Int32)) := D101 (Or.inr (ow hw 16 rfl)) (ty := .byte) (by decide)
  refine Go.via (fun _ => XS.dup X101.here hx rfl (hb hby d10_23) rfl rfl) ?_
  refine Go.via (fun _ => XS.iconst X101.here hx rfl (hb hby d10_24)) ?_
  obtain ⟨T102, h102, k102, X102, e102, E102, A102, st102⟩ := newP X101 hx hZ (ow hw 69 rfl) e101 (g := (mkF m 25 #[iv (1 : Int32), iv c0, iv c1, iv c2, iv c3, iv c4] [(.int (1 : Int32)), (.ref b101), (.ref b101)])) rfl (hb hby d10_25) rfl (by decide) (cap := 1) (by decide) (by decide) (by decide) (by decide)
  obtain ⟨b102, g102⟩ : ∃ z, z = h101.size := ⟨_, rfl⟩
  rw [← g102] at A102 st102
  have g_b102 : n0 ≤ b102 := Nat.le_trans Zs101 (Nat.le_of_eq g102.symm)
  have ne_b101_b102 : b101 ≠ b102 := Nat.ne_of_lt (Nat.lt_of_lt_of_le A101.lt (Nat.le_of_eq g102.symm))
  have sz_b102 : h0.size ≤ b102 := Nat.le_trans K101.1 (Nat.le_of_eq g102.symm)
  refine Go.via st102 ?_
  have Zs102 : n0 ≤ h102.size := Nat.le_trans Zs101 E102.1
  have O102 : Old Z n0 h102 := O101.ext E102
  have K102 : Keep h0 h102 [] := K101.ext E102
  have fE_b101_102 := A101.ext E102
  have fF_b101_value_102 := F_value_b101.ext E102
  have fF_b101_coder_102 := F_coder_b101.ext E102
  have V_b102 : Arv Z h102 b102 k102 .char (1 : Int32) [(.int (0 : Int32))] (.int (0 : Int32)) := (Arv.new A102 (by decide)).pad (pad_rep [] (.int (0 : Int32)) 1)
  refine Go.via (fun _ => XS.dup X102.here hx rfl (hb hby d10_27) rfl rfl) ?_
  refine Go.via (fun _ => XS.iconst X102.here hx rfl (hb hby d10_28)) ?_
  show Go p e below _ (T102.setTop (mkF m 29 #[iv (1 : Int32), iv c0, iv c1, iv c2, iv c3, iv c4] [(.int (0 : Int32)), (.ref b102), (.ref b102), (.ref b101), (.ref b101)]))
  refine Go.via (fun _ => XS.iloadN X102.here hx rfl (hb hby d10_29) rfl) ?_
  obtain ⟨cl103, Ar103, q103, S103, N103n, H103, G103⟩ := id V_b102
  have hin103 := inb_of (j := (0 : Int32)) S103 (by decide)
  obtain ⟨T103, h103, X103, e103, W103, st103⟩ := stC X102 hx hZ e102 Ar103 (j := (0 : Int32)) hin103 (g := (mkF m 30 #[iv (1 : Int32), iv c0, iv c1, iv c2, iv c3, iv c4] [(.int c0), (.int (0 : Int32)), (.ref b102), (.ref b102), (.ref b101), (.ref b101)])) rfl rfl (hb hby d10_30)
  refine Go.via st103 ?_
  have V103 : Arv Z h103 b102 k102 .char (1 : Int32) [(.int (nar .char c0))] (.int (0 : Int32)) := Arv.set Ar103 q103 S103 N103n H103 G103 (fits_nar_char _) W103 0 rfl (Nat.le_of_ble_eq_true rfl)
  have Zs103 : n0 ≤ h103.size := Nat.le_trans Zs102 (Keep.of_wr W103).1
  have O103 : Old Z n0 h103 := O102.wr W103 g_b102
  have K103 : Keep h0 h103 [] := K102.wr W103 (Or.inr sz_b102)
  have N103 := Fr.snoc X103 N0 g_b102
  have fE_b101_103 := fE_b101_102.wr W103
  have fF_b101_value_103 := fF_b101_value_102.other W103 (Or.inl ne_b101_b102)
  have fF_b101_coder_103 := fF_b101_coder_102.other W103 (Or.inl ne_b101_b102)
  rw [hn0] at V103
  obtain ⟨_, _, ⟨T104, L104, k104, n104⟩, -, X104, ⟨Lc104, hQ104, l104, y104, z104⟩, st104⟩ := X103.specialBack hx (y := (⟨"java/lang/String", "<init>", "([C)V"⟩ : MethodName)) rfl hown (mvT hZ (ow hw 70 rfl)) (mvT hZ (ow hw 71 rfl)) (mvT hZ (ow hw 72 rfl)) (by decide) (backOf (W := 1) (rmI1_1 l Z a0 hw [] b101 b102 k102 (c0) ccs h103 n0 Zs103 fE_b101_103 fF_b101_value_103 fF_b101_coder_103 g_b101 ne_b101_b102 V103 hl0 O103 S_CS hcs) hZ (ow hw 72 rfl) (ow hw 12 rfl) (by decide) (by decide)) (g := (mkF m 31 #[iv (1 : Int32), iv c0, iv c1, iv c2, iv c3, iv c4] [(.ref b102), (.ref b101), (.ref b101)])) rfl (by rw [hml]; rfl) (Steps.refl _) (a := b101) (argsL := [(.ref b102)]) (rest := [(.ref b101)]) (lenOf pd_9 rfl) rfl (by show 2 * 0 + _ ≤ _; exact Nat.le_of_eq rfl) (hb hby d10_31) (fun _ _ => ⟨rfl, e103, (by decide : 2 + 1 ≤ _), (by decide : 5 + 1 ≤ _)⟩)
  dsimp only [Pt.U, Pt.locs, Pt.cells, Pt.slots] at X104 l104 y104 z104 st104 hQ104
  rw [l104, y104, z104] at X104
  replace X104 : Stand p l e _ _ m _ below meth c T104 _ 3 6 := X104
  obtain ⟨rfl, N104q, K104q, t104, kb104, gt104, fv104, fc104, va104⟩ := hQ104
  have N104 := Fr.app N103 N104q
  refine Go.tr st104 ?_
  have Zs104 : n0 ≤ T104.heap.size := Nat.le_trans Zs103 K104q.1
  have O104 : Old Z n0 T104.heap := O103.keep K104q (allS g_b101 all0)
  have K104 : Keep h0 T104.heap [] := K103.trans K104q (allS (Or.inr sz_b101) all0)
  have fE_b101_104 := fE_b101_103.keep K104q
  have fV_b102_104 := V103.keep K104q (ninS (Ne.symm ne_b101_b102) nin0)
  have g_t104 : n0 ≤ t104 := Nat.le_trans Zs103 gt104
  have ne_b101_t104 : b101 ≠ t104 := Nat.ne_of_lt (Nat.lt_of_lt_of_le fE_b101_103.lt gt104)
  have ne_b102_t104 : b102 ≠ t104 := Nat.ne_of_lt (Nat.lt_of_lt_of_le V103.lt gt104)
  have sz_t104 : h0.size ≤ t104 := Nat.le_trans K103.1 gt104
  exact own_retA X104 hx hlk Bd.returns rfl rfl (hb hby d10_34) (by show QTX_1 Z c0 c1 c2 c3 c4 ccs h0 n0 _ T104.heap _; exact ⟨b101, t104, kb104, rfl, N104, K104, fE_b101_104, fv104, fc104, va104⟩) (by decide) (by decide)
theorem ef_rmTX_2 (m : MethodId) (x1 : Int32) (x2 : Int32) (x3 : Int32) (x4 : Int32) (x5 : Int32) : entryFrame m #[(.int (2 : Int32)), (.int x1), (.int x2), (.int x3), (.int x4), (.int x5)] 6 = mkF m 0 #[iv (2 : Int32), iv x1, iv x2, iv x3, iv x4, iv x5] [] := by first | (simp [entryFrame, mkF, argsToLocals, Value.category]; done) | rfl
def QTX_2 (Z : State) (c0 : Int32) (c1 : Int32) (c2 : Int32) (c3 : Int32) (c4 : Int32) (ccs : Int32) (h0 : Heap) (n0 : Nat) (v : Option Value) (h : Heap) (L : List Loc) : Prop := ∃ (a t : Addr) (kb : ClassId), v = some (.ref a) ∧ Fr n0 L ∧ Keep h0 h [] ∧ Exa Z h a "java/lang/String" ∧ Fld Z h a "java/lang/String" "value" "[B" (.ref t) ∧ Fld Z h a "java/lang/String" "coder" "B" (.int (0 : Int32)) ∧ Arv Z h t kb .byte (2 : Int32) [(.int (nar .byte (c0.toInt8.toInt32))), (.int (nar .byte (c1.toInt8.toInt32)))] (.int (0 : Int32))
set_option maxRecDepth 65536 in
set_option maxHeartbeats 40000000 in
theorem rmTX_2 (l : Launch) (Z : State) (a0 : Array Value) (hw : TW Z a0) (ws : List Jvm.Cond) (c0 : Int32) (c1 : Int32) (c2 : Int32) (c3 : Int32) (c4 : Int32) (ccs : Int32) (h0 : Heap) (n0 : Nat) (Z0 : n0 ≤ h0.size) (hl0 : ¬ ((255 : Int32) < c0)) (hl1 : ¬ ((255 : Int32) < c1)) (hn0 : nar .char c0 = c0) (hn1 : nar .char c1 = c1) (O0 : Old Z n0 h0) (S_CS : Sta Z Z.heap "java/lang/String" "COMPACT_STRINGS" "Z" (.int ccs)) (hcs : ¬ (ccs = (0 : Int32))) :
    MF l Z (⟨"com/example/sluice/sluice/expression/ValuesIsTruePinLaw", "text", "(ICCCCC)Ljava/lang/String;"⟩ : MethodName) method_3_code 6 (some (.object "java/lang/String")) ws (rmm 4 3 8 66) #[(.int (2 : Int32)), (.int c0), (.int c1), (.int c2), (.int c3), (.int c4)] h0 (QTX_2 Z c0 c1 c2 c3 c4 ccs h0 n0) := by
  refine MetFree.of_bodySF (plainFor_of_name pn_com_example_sluice_sluice_expression_ValuesIsTruePinLaw) hisR ?_
  intro p e s m args below meth c s₁ Bd hml0 hP hK
  obtain ⟨rfl, hZ, hh⟩ := hP
  have hx := Bd.exec
  have hby := Bd.bytes
  have hlk : meth.locks = false := Bd.notSynchronized
  have hml : c.maxLocals = 6 := hml0
  have hown : s.vm.findClass "com/example/sluice/sluice/expression/ValuesIsTruePinLaw" = some m.cls := findClass_of_methodNamed Bd.named
  have hnm := (name_of_methodNamed Bd.named Bd.method).1
  have X0 : Stand p l e (rmm 4 3 8 66) s m #[(.int (2 : Int32)), (.int c0), (.int c1), (.int c2), (.int c3), (.int c4)] below meth c s₁ [] 0 0 := Stand.of_body Bd
  have e0 : s₁.heap = h0 := by rw [← hh, Bd.state]; rfl
  have N0 := Fr.nil n0
  show Go p e below (FinE s below (QTX_2 Z c0 c1 c2 c3 c4 ccs h0 n0) (rmm 4 3 8 66).cells (rmm 4 3 8 66).slots) (s₁.setTop (entryFrame m #[(.int (2 : Int32)), (.int c0), (.int c1), (.int c2), (.int c3), (.int c4)] 6))
  refine Go.via (fun t k => castTop (ef_rmTX_2 m c0 c1 c2 c3 c4) k) ?_
  refine Go.via (fun _ => XS.iloadN X0.here hx rfl (hb hby d10_0) rfl) ?_
  refine Go.via (fun _ => XS.ifYes X0.here hx rfl (pc0 := 1) (pc' := 15) rfl (hb hby d10_1) rfl (by decide) (by decide) (by decide)) ?_
  refine Go.via (fun _ => XS.iloadN X0.here hx rfl (hb hby d10_15) rfl) ?_
  refine Go.via (fun _ => XS.iconst X0.here hx rfl (hb hby d10_16)) ?_
  refine Go.via (fun _ => XS.icmpYes X0.here hx rfl (pc0 := 17) (pc' := 35) rfl (hb hby d10_17) rfl (by decide) (by decide) (by decide)) ?_
  show Go p e below _ (s₁.setTop (mkF m 35 #[iv (2 : Int32), iv c0, iv c1, iv c2, iv c3, iv c4] []))
  refine Go.via (fun _ => XS.iloadN X0.here hx rfl (hb hby d10_35) rfl) ?_
  refine Go.via (fun _ => XS.iconst X0.here hx rfl (hb hby d10_36)) ?_
  refine Go.via (fun _ => XS.icmpNo X0.here hx rfl (hb hby d10_37) rfl (by decide)) ?_
  obtain ⟨T101, h101, X101, e101, E101, A101, D101, -, st101⟩ := newO X0 hx hZ hown (ow hw 68 rfl) (ow hw 13 rfl) (ow hw 12 rfl) e0 (g := (mkF m 40 #[iv (2 : Int32), iv c0, iv c1, iv c2, iv c3, iv c4] [])) rfl (hb hby d10_40) (by decide) (by decide)
  obtain ⟨b101, g101⟩ : ∃ z, z = h0.size := ⟨_, rfl⟩
  rw [← g101] at A101 D101 st101
  have g_b101 : n0 ≤ b101 := Nat.le_trans Z0 (Nat.le_of_eq g101.symm)
  have sz_b101 : h0.size ≤ b101 := Nat.le_trans (Keep.refl h0 []).1 (Nat.le_of_eq g101.symm)
  refine Go.via st101 ?_
  have Zs101 : n0 ≤ h101.size := Nat.le_trans Z0 E101.1
  have O101 : Old Z n0 h101 := O0.ext E101
  have K101 : Keep h0 h101 [] := (Keep.refl h0 []).ext E101
  have F_value_b101 : Fld Z h101 b101 "java/lang/String" "value" "[B" .null := D101 (Or.inr (ow hw 15 rfl)) (ty := (.array .byte)) (by decide)
  have F_coder_b101 : Fld Z h101 b101 "java/lang/String" "coder" "B" (.int (0 : Int32)) := D101 (Or.inr (ow hw 16 rfl)) (ty := .byte) (by decide)
  refine Go.via (fun _ => XS.dup X101.here hx rfl (hb hby d10_43) rfl rfl) ?_
  refine Go.via (fun _ => XS.iconst X101.here hx rfl (hb hby d10_44)) ?_
  show Go p e below _ (T101.setTop (mkF m 45 #[iv (2 : Int32), iv c0, iv c1, iv c2, iv c3, iv c4] [(.int (2 : Int32)), (.ref b101), (.ref b101)]))
  obtain ⟨T102, h102, k102, X102, e102, E102, A102, st102⟩ := newP X101 hx hZ (ow hw 69 rfl) e101 (g := (mkF m 45 #[iv (2 : Int32), iv c0, iv c1, iv c2, iv c3, iv c4] [(.int (2 : Int32)), (.ref b101), (.ref b101)])) rfl (hb hby d10_45) rfl (by decide) (cap := 2) (by decide) (by decide) (by decide) (by decide)
  obtain ⟨b102, g102⟩ : ∃ z, z = h101.size := ⟨_, rfl⟩
  rw [← g102] at A102 st102
  have g_b102 : n0 ≤ b102 := Nat.le_trans Zs101 (Nat.le_of_eq g102.symm)
  have ne_b101_b102 : b101 ≠ b102 := Nat.ne_of_lt (Nat.lt_of_lt_of_le A101.lt (Nat.le_of_eq g102.symm))
  have sz_b102 : h0.size ≤ b102 := Nat.le_trans K101.1 (Nat.le_of_eq g102.symm)
  refine Go.via st102 ?_
  have Zs102 : n0 ≤ h102.size := Nat.le_trans Zs101 E102.1
  have O102 : Old Z n0 h102 := O101.ext E102
  have K102 : Keep h0 h102 [] := K101.ext E102
  have fE_b101_102 := A101.ext E102
  have fF_b101_value_102 := F_value_b101.ext E102
  have fF_b101_coder_102 := F_coder_b101.ext E102
  have V_b102 : Arv Z h102 b102 k102 .char (2 : Int32) [(.int (0 : Int32)), (.int (0 : Int32))] (.int (0 : Int32)) := (Arv.new A102 (by decide)).pad (pad_rep [] (.int (0 : Int32)) 2)
  refine Go.via (fun _ => XS.dup X102.here hx rfl (hb hby d10_47) rfl rfl) ?_
  refine Go.via (fun _ => XS.iconst X102.here hx rfl (hb hby d10_48)) ?_
  refine Go.via (fun _ => XS.iloadN X102.here hx rfl (hb hby d10_49) rfl) ?_
  obtain ⟨cl103, Ar103, q103, S103, N103n, H103, G103⟩ := id V_b102
  have hin103 := inb_of (j := (0 : Int32)) S103 (by decide)
  obtain ⟨T103, h103, X103, e103, W103, st103⟩ := stC X102 hx hZ e102 Ar103 (j := (0 : Int32)) hin103 (g := (mkF m 50 #[iv (2 : Int32), iv c0, iv c1, iv c2, iv c3, iv c4] [(.int c0), (.int (0 : Int32)), (.ref b102), (.ref b102), (.ref b101), (.ref b101)])) rfl rfl (hb hby d10_50)
  refine Go.via st103 ?_
  have V103 : Arv Z h103 b102 k102 .char (2 : Int32) [(.int (nar .char c0)), (.int (0 : Int32))] (.int (0 : Int32)) := Arv.set Ar103 q103 S103 N103n H103 G103 (fits_nar_char _) W103 0 rfl (Nat.le_of_ble_eq_true rfl)
  have Zs103 : n0 ≤ h103.size := Nat.le_trans Zs102 (Keep.of_wr W103).1
  have O103 : Old Z n0 h103 := O102.wr W103 g_b102
  have K103 : Keep h0 h103 [] := K102.wr W103 (Or.inr sz_b102)
  have N103 := Fr.snoc X103 N0 g_b102
  have fE_b101_103 := fE_b101_102.wr W103
  have fF_b101_value_103 := fF_b101_value_102.other W103 (Or.inl ne_b101_b102)
  have fF_b101_coder_103 := fF_b101_coder_102.other W103 (Or.inl ne_b101_b102)
  refine Go.via (fun _ => XS.dup X103.here hx rfl (hb hby d10_51) rfl rfl) ?_
  show Go p e below _ (T103.setTop (mkF m 52 #[iv (2 : Int32), iv c0, iv c1, iv c2, iv c3, iv c4] [(.ref b102), (.ref b102), (.ref b101), (.ref b101)]))
  refine Go.via (fun _ => XS.iconst X103.here hx rfl (hb hby d10_52)) ?_
  refine Go.via (fun _ => XS.iloadN X103.here hx rfl (hb hby d10_53) rfl) ?_
  obtain ⟨cl104, Ar104, q104, S104, N104n, H104, G104⟩ := id V103
  have hin104 := inb_of (j := (1 : Int32)) S104 (by decide)
  obtain ⟨T104, h104, X104, e104, W104, st104⟩ := stC X103 hx hZ e103 Ar104 (j := (1 : Int32)) hin104 (g := (mkF m 54 #[iv (2 : Int32), iv c0, iv c1, iv c2, iv c3, iv c4] [(.int c1), (.int (1 : Int32)), (.ref b102), (.ref b102), (.ref b101), (.ref b101)])) rfl rfl (hb hby d10_54)
  refine Go.via st104 ?_
  have V104 : Arv Z h104 b102 k102 .char (2 : Int32) [(.int (nar .char c0)), (.int (nar .char c1))] (.int (0 : Int32)) := Arv.set Ar104 q104 S104 N104n H104 G104 (fits_nar_char _) W104 1 rfl (Nat.le_of_ble_eq_true rfl)
  have Zs104 : n0 ≤ h104.size := Nat.le_trans Zs103 (Keep.of_wr W104).1
  have O104 : Old Z n0 h104 := O103.wr W104 g_b102
  have K104 : Keep h0 h104 [] := K103.wr W104 (Or.inr sz_b102)
  have N104 := Fr.snoc X104 N103 g_b102
  have fE_b101_104 := fE_b101_103.wr W104
  have fF_b101_value_104 := fF_b101_value_103.other W104 (Or.inl ne_b101_b102)
  have fF_b101_coder_104 := fF_b101_coder_103.other W104 (Or.inl ne_b101_b102)
  rw [hn0, hn1] at V104
  obtain ⟨_, _, ⟨T105, L105, k105, n105⟩, -, X105, ⟨Lc105, hQ105, l105, y105, z105⟩, st105⟩ := X104.specialBack hx (y := (⟨"java/lang/String", "<init>", "([C)V"⟩ : MethodName)) rfl hown (mvT hZ (ow hw 70 rfl)) (mvT hZ (ow hw 71 rfl)) (mvT hZ (ow hw 72 rfl)) (by decide) (backOf (W := 1) (rmI1_2 l Z a0 hw [] b101 b102 k102 (c0) (c1) ccs h104 n0 Zs104 fE_b101_104 fF_b101_value_104 fF_b101_coder_104 g_b101 ne_b101_b102 V104 hl0 hl1 O104 S_CS hcs) hZ (ow hw 72 rfl) (ow hw 12 rfl) (by decide) (by decide)) (g := (mkF m 55 #[iv (2 : Int32), iv c0, iv c1, iv c2, iv c3, iv c4] [(.ref b102), (.ref b101), (.ref b101)])) rfl (by rw [hml]; rfl) (Steps.refl _) (a := b101) (argsL := [(.ref b102)]) (rest := [(.ref b101)]) (lenOf pd_9 rfl) rfl (by show 2 * 0 + _ ≤ _; exact Nat.le_of_eq rfl) (hb hby d10_55) (fun _ _ => ⟨rfl, e104, (by decide : 2 + 1 ≤ _), (by decide : 6 + 2 ≤ _)⟩)
  dsimp only [Pt.U, Pt.locs, Pt.cells, Pt.slots] at X105 l105 y105 z105 st105 hQ105
  rw [l105, y105, z105] at X105
  replace X105 : Stand p l e _ _ m _ below meth c T105 _ 3 8 := X105
  obtain ⟨rfl, N105q, K105q, t105, kb105, gt105, fv105, fc105, va105⟩ := hQ105
  have N105 := Fr.app N104 N105q
  refine Go.tr st105 ?_
  have Zs105 : n0 ≤ T105.heap.size := Nat.le_trans Zs104 K105q.1
  have O105 : Old Z n0 T105.heap := O104.keep K105q (allS g_b101 all0)
  have K105 : Keep h0 T105.heap [] := K104.trans K105q (allS (Or.inr sz_b101) all0)
  have fE_b101_105 := fE_b101_104.keep K105q
  have fV_b102_105 := V104.keep K105q (ninS (Ne.symm ne_b101_b102) nin0)
  have g_t105 : n0 ≤ t105 := Nat.le_trans Zs104 gt105
  have ne_b101_t105 : b101 ≠ t105 := Nat.ne_of_lt (Nat.lt_of_lt_of_le fE_b101_104.lt gt105)
  have ne_b102_t105 : b102 ≠ t105 := Nat.ne_of_lt (Nat.lt_of_lt_of_le V104.lt gt105)
  have sz_t105 : h0.size ≤ t105 := Nat.le_trans K104.1 gt105
  exact own_retA X105 hx hlk Bd.returns rfl rfl (hb hby d10_58) (by show QTX_2 Z c0 c1 c2 c3 c4 ccs h0 n0 _ T105.heap _; exact ⟨b101, t105, kb105, rfl, N105, K105, fE_b101_105, fv105, fc105, va105⟩) (by decide) (by decide)
theorem ef_rmTX_3 (m : MethodId) (x1 : Int32) (x2 : Int32) (x3 : Int32) (x4 : Int32) (x5 : Int32) : entryFrame m #[(.int (3 : Int32)), (.int x1), (.int x2), (.int x3), (.int x4), (.int x5)] 6 = mkF m 0 #[iv (3 : Int32), iv x1, iv x2, iv x3, iv x4, iv x5] [] := by first | (simp [entryFrame, mkF, argsToLocals, Value.category]; done) | rfl
def QTX_3 (Z : State) (c0 : Int32) (c1 : Int32) (c2 : Int32) (c3 : Int32) (c4 : Int32) (ccs : Int32) (h0 : Heap) (n0 : Nat) (v : Option Value) (h : Heap) (L : List Loc) : Prop := ∃ (a t : Addr) (kb : ClassId), v = some (.ref a) ∧ Fr n0 L ∧ Keep h0 h [] ∧ Exa Z h a "java/lang/String" ∧ Fld Z h a "java/lang/String" "value" "[B" (.ref t) ∧ Fld Z h a "java/lang/String" "coder" "B" (.int (0 : Int32)) ∧ Arv Z h t kb .byte (3 : Int32) [(.int (nar .byte (c0.toInt8.toInt32))), (.int (nar .byte (c1.toInt8.toInt32))), (.int (nar .byte (c2.toInt8.toInt32)))] (.int (0 : Int32))
set_option maxRecDepth 65536 in
set_option maxHeartbeats 40000000 in
theorem rmTX_3 (l : Launch) (Z : State) (a0 : Array Value) (hw : TW Z a0) (ws : List Jvm.Cond) (c0 : Int32) (c1 : Int32) (c2 : Int32) (c3 : Int32) (c4 : Int32) (ccs : Int32) (h0 : Heap) (n0 : Nat) (Z0 : n0 ≤ h0.size) (hl0 : ¬ ((255 : Int32) < c0)) (hl1 : ¬ ((255 : Int32) < c1)) (hl2 : ¬ ((255 : Int32) < c2)) (hn0 : nar .char c0 = c0) (hn1 : nar .char c1 = c1) (hn2 : nar .char c2 = c2) (O0 : Old Z n0 h0) (S_CS : Sta Z Z.heap "java/lang/String" "COMPACT_STRINGS" "Z" (.int ccs)) (hcs : ¬ (ccs = (0 : Int32))) :
    MF l Z (⟨"com/example/sluice/sluice/expression/ValuesIsTruePinLaw", "text", "(ICCCCC)Ljava/lang/String;"⟩ : MethodName) method_3_code 6 (some (.object "java/lang/String")) ws (rmm 4 3 10 66) #[(.int (3 : Int32)), (.int c0), (.int c1), (.int c2), (.int c3), (.int c4)] h0 (QTX_3 Z c0 c1 c2 c3 c4 ccs h0 n0) := by
  refine MetFree.of_bodySF (plainFor_of_name pn_com_example_sluice_sluice_expression_ValuesIsTruePinLaw) hisR ?_
  intro p e s m args below meth c s₁ Bd hml0 hP hK
  obtain ⟨rfl, hZ, hh⟩ := hP
  have hx := Bd.exec
  have hby := Bd.bytes
  have hlk : meth.locks = false := Bd.notSynchronized
  have hml : c.maxLocals = 6 := hml0
  have hown : s.vm.findClass "com/example/sluice/sluice/expression/ValuesIsTruePinLaw" = some m.cls := findClass_of_methodNamed Bd.named
  have hnm := (name_of_methodNamed Bd.named Bd.method).1
  have X0 : Stand p l e (rmm 4 3 10 66) s m #[(.int (3 : Int32)), (.int c0), (.int c1), (.int c2), (.int c3), (.int c4)] below meth c s₁ [] 0 0 := Stand.of_body Bd
  have e0 : s₁.heap = h0 := by rw [← hh, Bd.state]; rfl
  have N0 := Fr.nil n0
  show Go p e below (FinE s below (QTX_3 Z c0 c1 c2 c3 c4 ccs h0 n0) (rmm 4 3 10 66).cells (rmm 4 3 10 66).slots) (s₁.setTop (entryFrame m #[(.int (3 : Int32)), (.int c0), (.int c1), (.int c2), (.int c3), (.int c4)] 6))
  refine Go.via (fun t k => castTop (ef_rmTX_3 m c0 c1 c2 c3 c4) k) ?_
  refine Go.via (fun _ => XS.iloadN X0.here hx rfl (hb hby d10_0) rfl) ?_
  refine Go.via (fun _ => XS.ifYes X0.here hx rfl (pc0 := 1) (pc' := 15) rfl (hb hby d10_1) rfl (by decide) (by decide) (by decide)) ?_
  refine Go.via (fun _ => XS.iloadN X0.here hx rfl (hb hby d10_15) rfl) ?_
  refine Go.via (fun _ => XS.iconst X0.here hx rfl (hb hby d10_16)) ?_
  refine Go.via (fun _ => XS.icmpYes X0.here hx rfl (pc0 := 17) (pc' := 35) rfl (hb hby d10_17) rfl (by decide) (by decide) (by decide)) ?_
  show Go p e below _ (s₁.setTop (mkF m 35 #[iv (3 : Int32), iv c0, iv c1, iv c2, iv c3, iv c4] []))
  refine Go.via (fun _ => XS.iloadN X0.here hx rfl (hb hby d10_35) rfl) ?_
  refine Go.via (fun _ => XS.iconst X0.here hx rfl (hb hby d10_36)) ?_
  refine Go.via (fun _ => XS.icmpYes X0.here hx rfl (pc0 := 37) (pc' := 59) rfl (hb hby d10_37) rfl (by decide) (by decide) (by decide)) ?_
  refine Go.via (fun _ => XS.iloadN X0.here hx rfl (hb hby d10_59) rfl) ?_
  refine Go.via (fun _ => XS.iconst X0.here hx rfl (hb hby d10_60)) ?_
  refine Go.via (fun _ => XS.icmpNo X0.here hx rfl (hb hby d10_61) rfl (by decide)) ?_
  show Go p e below _ (s₁.setTop (mkF m 64 #[iv (3 : Int32), iv c0, iv c1, iv c2, iv c3, iv c4] []))
  obtain ⟨T101, h101, X101, e101, E101, A101, D101, -, st101⟩ := newO X0 hx hZ hown (ow hw 68 rfl) (ow hw 13 rfl) (ow hw 12 rfl) e0 (g := (mkF m 64 #[iv (3 : Int32), iv c0, iv c1, iv c2, iv c3, iv c4] [])) rfl (hb hby d10_64) (by decide) (by decide)
  obtain ⟨b101, g101⟩ : ∃ z, z = h0.size := ⟨_, rfl⟩
  rw [← g101] at A101 D101 st101
  have g_b101 : n0 ≤ b101 := Nat.le_trans Z0 (Nat.le_of_eq g101.symm)
  have sz_b101 : h0.size ≤ b101 := Nat.le_trans (Keep.refl h0 []).1 (Nat.le_of_eq g101.symm)
  refine Go.via st101 ?_
  have Zs101 : n0 ≤ h101.size := Nat.le_trans Z0 E101.1
  have O101 : Old Z n0 h101 := O0.ext E101
  have K101 : Keep h0 h101 [] := (Keep.refl h0 []).ext E101
  have F_value_b101 : Fld Z h101 b101 "java/lang/String" "value" "[B" .null := D101 (Or.inr (ow hw 15 rfl)) (ty := (.array .byte)) (by decide)
  have F_coder_b101 : Fld Z h101 b101 "java/lang/String" "coder" "B" (.int (0 : Int32)) := D101 (Or.inr (ow hw 16 rfl)) (ty := .byte) (by decide)
  refine Go.via (fun _ => XS.dup X101.here hx rfl (hb hby d10_67) rfl rfl) ?_
  refine Go.via (fun _ => XS.iconst X101.here hx rfl (hb hby d10_68)) ?_
  obtain ⟨T102, h102, k102, X102, e102, E102, A102, st102⟩ := newP X101 hx hZ (ow hw 69 rfl) e101 (g := (mkF m 69 #[iv (3 : Int32), iv c0, iv c1, iv c2, iv c3, iv c4] [(.int (3 : Int32)), (.ref b101), (.ref b101)])) rfl (hb hby d10_69) rfl (by decide) (cap := 3) (by decide) (by decide) (by decide) (by decide)
  obtain ⟨b102, g102⟩ : ∃ z, z = h101.size := ⟨_, rfl⟩
  rw [← g102] at A102 st102
  have g_b102 : n0 ≤ b102 := Nat.le_trans Zs101 (Nat.le_of_eq g102.symm)
  have ne_b101_b102 : b101 ≠ b102 := Nat.ne_of_lt (Nat.lt_of_lt_of_le A101.lt (Nat.le_of_eq g102.symm))
  have sz_b102 : h0.size ≤ b102 := Nat.le_trans K101.1 (Nat.le_of_eq g102.symm)
  refine Go.via st102 ?_
  have Zs102 : n0 ≤ h102.size := Nat.le_trans Zs101 E102.1
  have O102 : Old Z n0 h102 := O101.ext E102
  have K102 : Keep h0 h102 [] := K101.ext E102
  have fE_b101_102 := A101.ext E102
  have fF_b101_value_102 := F_value_b101.ext E102
  have fF_b101_coder_102 := F_coder_b101.ext E102
  have V_b102 : Arv Z h102 b102 k102 .char (3 : Int32) [(.int (0 : Int32)), (.int (0 : Int32)), (.int (0 : Int32))] (.int (0 : Int32)) := (Arv.new A102 (by decide)).pad (pad_rep [] (.int (0 : Int32)) 3)
  refine Go.via (fun _ => XS.dup X102.here hx rfl (hb hby d10_71) rfl rfl) ?_
  refine Go.via (fun _ => XS.iconst X102.here hx rfl (hb hby d10_72)) ?_
  show Go p e below _ (T102.setTop (mkF m 73 #[iv (3 : Int32), iv c0, iv c1, iv c2, iv c3, iv c4] [(.int (0 : Int32)), (.ref b102), (.ref b102), (.ref b101), (.ref b101)]))
  refine Go.via (fun _ => XS.iloadN X102.here hx rfl (hb hby d10_73) rfl) ?_
  obtain ⟨cl103, Ar103, q103, S103, N103n, H103, G103⟩ := id V_b102
  have hin103 := inb_of (j := (0 : Int32)) S103 (by decide)
  obtain ⟨T103, h103, X103, e103, W103, st103⟩ := stC X102 hx hZ e102 Ar103 (j := (0 : Int32)) hin103 (g := (mkF m 74 #[iv (3 : Int32), iv c0, iv c1, iv c2, iv c3, iv c4] [(.int c0), (.int (0 : Int32)), (.ref b102), (.ref b102), (.ref b101), (.ref b101)])) rfl rfl (hb hby d10_74)
  refine Go.via st103 ?_
  have V103 : Arv Z h103 b102 k102 .char (3 : Int32) [(.int (nar .char c0)), (.int (0 : Int32)), (.int (0 : Int32))] (.int (0 : Int32)) := Arv.set Ar103 q103 S103 N103n H103 G103 (fits_nar_char _) W103 0 rfl (Nat.le_of_ble_eq_true rfl)
  have Zs103 : n0 ≤ h103.size := Nat.le_trans Zs102 (Keep.of_wr W103).1
  have O103 : Old Z n0 h103 := O102.wr W103 g_b102
  have K103 : Keep h0 h103 [] := K102.wr W103 (Or.inr sz_b102)
  have N103 := Fr.snoc X103 N0 g_b102
  have fE_b101_103 := fE_b101_102.wr W103
  have fF_b101_value_103 := fF_b101_value_102.other W103 (Or.inl ne_b101_b102)
  have fF_b101_coder_103 := fF_b101_coder_102.other W103 (Or.inl ne_b101_b102)
  refine Go.via (fun _ => XS.dup X103.here hx rfl (hb hby d10_75) rfl rfl) ?_
  refine Go.via (fun _ => XS.iconst X103.here hx rfl (hb hby d10_76)) ?_
  refine Go.via (fun _ => XS.iloadN X103.here hx rfl (hb hby d10_77) rfl) ?_
  obtain ⟨cl104, Ar104, q104, S104, N104n, H104, G104⟩ := id V103
  have hin104 := inb_of (j := (1 : Int32)) S104 (by decide)
  obtain ⟨T104, h104, X104, e104, W104, st104⟩ := stC X103 hx hZ e103 Ar104 (j := (1 : Int32)) hin104 (g := (mkF m 78 #[iv (3 : Int32), iv c0, iv c1, iv c2, iv c3, iv c4] [(.int c1), (.int (1 : Int32)), (.ref b102), (.ref b102), (.ref b101), (.ref b101)])) rfl rfl (hb hby d10_78)
  refine Go.via st104 ?_
  have V104 : Arv Z h104 b102 k102 .char (3 : Int32) [(.int (nar .char c0)), (.int (nar .char c1)), (.int (0 : Int32))] (.int (0 : Int32)) := Arv.set Ar104 q104 S104 N104n H104 G104 (fits_nar_char _) W104 1 rfl (Nat.le_of_ble_eq_true rfl)
  have Zs104 : n0 ≤ h104.size := Nat.le_trans Zs103 (Keep.of_wr W104).1
  have O104 : Old Z n0 h104 := O103.wr W104 g_b102
  have K104 : Keep h0 h104 [] := K103.wr W104 (Or.inr sz_b102)
  have N104 := Fr.snoc X104 N103 g_b102
  have fE_b101_104 := fE_b101_103.wr W104
  have fF_b101_value_104 := fF_b101_value_103.other W104 (Or.inl ne_b101_b102)
  have fF_b101_coder_104 := fF_b101_coder_103.other W104 (Or.inl ne_b101_b102)
  show Go p e below _ (T104.setTop (mkF m 79 #[iv (3 : Int32), iv c0, iv c1, iv c2, iv c3, iv c4] [(.ref b102), (.ref b101), (.ref b101)]))
  refine Go.via (fun _ => XS.dup X104.here hx rfl (hb hby d10_79) rfl rfl) ?_
  refine Go.via (fun _ => XS.iconst X104.here hx rfl (hb hby d10_80)) ?_
  refine Go.via (fun _ => XS.iloadN X104.here hx rfl (hb hby d10_81) rfl) ?_
  obtain ⟨cl105, Ar105, q105, S105, N105n, H105, G105⟩ := id V104
  have hin105 := inb_of (j := (2 : Int32)) S105 (by decide)
  obtain ⟨T105, h105, X105, e105, W105, st105⟩ := stC X104 hx hZ e104 Ar105 (j := (2 : Int32)) hin105 (g := (mkF m 82 #[iv (3 : Int32), iv c0, iv c1, iv c2, iv c3, iv c4] [(.int c2), (.int (2 : Int32)), (.ref b102), (.ref b102), (.ref b101), (.ref b101)])) rfl rfl (hb hby d10_82)
  refine Go.via st105 ?_
  have V105 : Arv Z h105 b102 k102 .char (3 : Int32) [(.int (nar .char c0)), (.int (nar .char c1)), (.int (nar .char c2))] (.int (0 : Int32)) := Arv.set Ar105 q105 S105 N105n H105 G105 (fits_nar_char _) W105 2 rfl (Nat.le_of_ble_eq_true rfl)
  have Zs105 : n0 ≤ h105.size := Nat.le_trans Zs104 (Keep.of_wr W105).1
  have O105 : Old Z n0 h105 := O104.wr W105 g_b102
  have K105 : Keep h0 h105 [] := K104.wr W105 (Or.inr sz_b102)
  have N105 := Fr.snoc X105 N104 g_b102
  have fE_b101_105 := fE_b101_104.wr W105
  have fF_b101_value_105 := fF_b101_value_104.other W105 (Or.inl ne_b101_b102)
  have fF_b101_coder_105 := fF_b101_coder_104.other W105 (Or.inl ne_b101_b102)
  rw [hn0, hn1, hn2] at V105
  obtain ⟨_, _, ⟨T106, L106, k106, n106⟩, -, X106, ⟨Lc106, hQ106, l106, y106, z106⟩, st106⟩ := X105.specialBack hx (y := (⟨"java/lang/String", "<init>", "([C)V"⟩ : MethodName)) rfl hown (mvT hZ (ow hw 70 rfl)) (mvT hZ (ow hw 71 rfl)) (mvT hZ (ow hw 72 rfl)) (by decide) (backOf (W := 1) (rmI1_3 l Z a0 hw [] b101 b102 k102 (c0) (c1) (c2) ccs h105 n0 Zs105 fE_b101_105 fF_b101_value_105 fF_b101_coder_105 g_b101 ne_b101_b102 V105 hl0 hl1 hl2 O105 S_CS hcs) hZ (ow hw 72 rfl) (ow hw 12 rfl) (by decide) (by decide)) (g := (mkF m 83 #[iv (3 : Int32), iv c0, iv c1, iv c2, iv c3, iv c4] [(.ref b102), (.ref b101), (.ref b101)])) rfl (by rw [hml]; rfl) (Steps.refl _) (a := b101) (argsL := [(.ref b102)]) (rest := [(.ref b101)]) (lenOf pd_9 rfl) rfl (by show 2 * 0 + _ ≤ _; exact Nat.le_of_eq rfl) (hb hby d10_83) (fun _ _ => ⟨rfl, e105, (by decide : 2 + 1 ≤ _), (by decide : 7 + 3 ≤ _)⟩)
  dsimp only [Pt.U, Pt.locs, Pt.cells, Pt.slots] at X106 l106 y106 z106 st106 hQ106
  rw [l106, y106, z106] at X106
  replace X106 : Stand p l e _ _ m _ below meth c T106 _ 3 10 := X106
  obtain ⟨rfl, N106q, K106q, t106, kb106, gt106, fv106, fc106, va106⟩ := hQ106
  have N106 := Fr.app N105 N106q
  refine Go.tr st106 ?_
  have Zs106 : n0 ≤ T106.heap.size := Nat.le_trans Zs105 K106q.1
  have O106 : Old Z n0 T106.heap := O105.keep K106q (allS g_b101 all0)
  have K106 : Keep h0 T106.heap [] := K105.trans K106q (allS (Or.inr sz_b101) all0)
  have fE_b101_106 := fE_b101_105.keep K106q
  have fV_b102_106 := V105.keep K106q (ninS (Ne.symm ne_b101_b102) nin0)
  have g_t106 : n0 ≤ t106 := Nat.le_trans Zs105 gt106
  have ne_b101_t106 : b101 ≠ t106 := Nat.ne_of_lt (Nat.lt_of_lt_of_le fE_b101_105.lt gt106)
  have ne_b102_t106 : b102 ≠ t106 := Nat.ne_of_lt (Nat.lt_of_lt_of_le V105.lt gt106)
  have sz_t106 : h0.size ≤ t106 := Nat.le_trans K105.1 gt106
  exact own_retA X106 hx hlk Bd.returns rfl rfl (hb hby d10_86) (by show QTX_3 Z c0 c1 c2 c3 c4 ccs h0 n0 _ T106.heap _; exact ⟨b101, t106, kb106, rfl, N106, K106, fE_b101_106, fv106, fc106, va106⟩) (by decide) (by decide)
theorem ef_rmTX_4 (m : MethodId) (x1 : Int32) (x2 : Int32) (x3 : Int32) (x4 : Int32) (x5 : Int32) : entryFrame m #[(.int (4 : Int32)), (.int x1), (.int x2), (.int x3), (.int x4), (.int x5)] 6 = mkF m 0 #[iv (4 : Int32), iv x1, iv x2, iv x3, iv x4, iv x5] [] := by first | (simp [entryFrame, mkF, argsToLocals, Value.category]; done) | rfl
def QTX_4 (Z : State) (c0 : Int32) (c1 : Int32) (c2 : Int32) (c3 : Int32) (c4 : Int32) (ccs : Int32) (h0 : Heap) (n0 : Nat) (v : Option Value) (h : Heap) (L : List Loc) : Prop := ∃ (a t : Addr) (kb : ClassId), v = some (.ref a) ∧ Fr n0 L ∧ Keep h0 h [] ∧ Exa Z h a "java/lang/String" ∧ Fld Z h a "java/lang/String" "value" "[B" (.ref t) ∧ Fld Z h a "java/lang/String" "coder" "B" (.int (0 : Int32)) ∧ Arv Z h t kb .byte (4 : Int32) [(.int (nar .byte (c0.toInt8.toInt32))), (.int (nar .byte (c1.toInt8.toInt32))), (.int (nar .byte (c2.toInt8.toInt32))), (.int (nar .byte (c3.toInt8.toInt32)))] (.int (0 : Int32))
set_option maxRecDepth 65536 in
set_option maxHeartbeats 40000000 in
theorem rmTX_4 (l : Launch) (Z : State) (a0 : Array Value) (hw : TW Z a0) (ws : List Jvm.Cond) (c0 : Int32) (c1 : Int32) (c2 : Int32) (c3 : Int32) (c4 : Int32) (ccs : Int32) (h0 : Heap) (n0 : Nat) (Z0 : n0 ≤ h0.size) (hl0 : ¬ ((255 : Int32) < c0)) (hl1 : ¬ ((255 : Int32) < c1)) (hl2 : ¬ ((255 : Int32) < c2)) (hl3 : ¬ ((255 : Int32) < c3)) (hn0 : nar .char c0 = c0) (hn1 : nar .char c1 = c1) (hn2 : nar .char c2 = c2) (hn3 : nar .char c3 = c3) (O0 : Old Z n0 h0) (S_CS : Sta Z Z.heap "java/lang/String" "COMPACT_STRINGS" "Z" (.int ccs)) (hcs : ¬ (ccs = (0 : Int32))) :
    MF l Z (⟨"com/example/sluice/sluice/expression/ValuesIsTruePinLaw", "text", "(ICCCCC)Ljava/lang/String;"⟩ : MethodName) method_3_code 6 (some (.object "java/lang/String")) ws (rmm 4 3 12 66) #[(.int (4 : Int32)), (.int c0), (.int c1), (.int c2), (.int c3), (.int c4)] h0 (QTX_4 Z c0 c1 c2 c3 c4 ccs h0 n0) := by
  refine MetFree.of_bodySF (plainFor_of_name pn_com_example_sluice_sluice_expression_ValuesIsTruePinLaw) hisR ?_
  intro p e s m args below meth c s₁ Bd hml0 hP hK
  obtain ⟨rfl, hZ, hh⟩ := hP
  have hx := Bd.exec
  have hby := Bd.bytes
  have hlk : meth.locks = false := Bd.notSynchronized
  have hml : c.maxLocals = 6 := hml0
  have hown : s.vm.findClass "com/example/sluice/sluice/expression/ValuesIsTruePinLaw" = some m.cls := findClass_of_methodNamed Bd.named
  have hnm := (name_of_methodNamed Bd.named Bd.method).1
  have X0 : Stand p l e (rmm 4 3 12 66) s m #[(.int (4 : Int32)), (.int c0), (.int c1), (.int c2), (.int c3), (.int c4)] below meth c s₁ [] 0 0 := Stand.of_body Bd
  have e0 : s₁.heap = h0 := by rw [← hh, Bd.state]; rfl
  have N0 := Fr.nil n0
  show Go p e below (FinE s below (QTX_4 Z c0 c1 c2 c3 c4 ccs h0 n0) (rmm 4 3 12 66).cells (rmm 4 3 12 66).slots) (s₁.setTop (entryFrame m #[(.int (4 : Int32)), (.int c0), (.int c1), (.int c2), (.int c3), (.int c4)] 6))
  refine Go.via (fun t k => castTop (ef_rmTX_4 m c0 c1 c2 c3 c4) k) ?_
  refine Go.via (fun _ => XS.iloadN X0.here hx rfl (hb hby d10_0) rfl) ?_
  refine Go.via (fun _ => XS.ifYes X0.here hx rfl (pc0 := 1) (pc' := 15) rfl (hb hby d10_1) rfl (by decide) (by decide) (by decide)) ?_
  refine Go.via (fun _ => XS.iloadN X0.here hx rfl (hb hby d10_15) rfl) ?_
  refine Go.via (fun _ => XS.iconst X0.here hx rfl (hb hby d10_16)) ?_
  refine Go.via (fun _ => XS.icmpYes X0.here hx rfl (pc0 := 17) (pc' := 35) rfl (hb hby d10_17) rfl (by decide) (by decide) (by decide)) ?_
  show Go p e below _ (s₁.setTop (mkF m 35 #[iv (4 : Int32), iv c0, iv c1, iv c2, iv c3, iv c4] []))
  refine Go.via (fun _ => XS.iloadN X0.here hx rfl (hb hby d10_35) rfl) ?_
  refine Go.via (fun _ => XS.iconst X0.here hx rfl (hb hby d10_36)) ?_
  refine Go.via (fun _ => XS.icmpYes X0.here hx rfl (pc0 := 37) (pc' := 59) rfl (hb hby d10_37) rfl (by decide) (by decide) (by decide)) ?_
  refine Go.via (fun _ => XS.iloadN X0.here hx rfl (hb hby d10_59) rfl) ?_
  refine Go.via (fun _ => XS.iconst X0.here hx rfl (hb hby d10_60)) ?_
  refine Go.via (fun _ => XS.icmpYes X0.here hx rfl (pc0 := 61) (pc' := 87) rfl (hb hby d10_61) rfl (by decide) (by decide) (by decide)) ?_
  show Go p e below _ (s₁.setTop (mkF m 87 #[iv (4 : Int32), iv c0, iv c1, iv c2, iv c3, iv c4] []))
  refine Go.via (fun _ => XS.iloadN X0.here hx rfl (hb hby d10_87) rfl) ?_
  refine Go.via (fun _ => XS.iconst X0.here hx rfl (hb hby d10_88)) ?_
  refine Go.via (fun _ => XS.icmpNo X0.here hx rfl (hb hby d10_89) rfl (by decide)) ?_
  obtain ⟨T101, h101, X101, e101, E101, A101, D101, -, st101⟩ := newO X0 hx hZ hown (ow hw 68 rfl) (ow hw 13 rfl) (ow hw 12 rfl) e0 (g := (mkF m 92 #[iv (4 : Int32), iv c0, iv c1, iv c2, iv c3, iv c4] [])) rfl (hb hby d10_92) (by decide) (by decide)
  obtain ⟨b101, g101⟩ : ∃ z, z = h0.size := ⟨_, rfl⟩
  rw [← g101] at A101 D101 st101
  have g_b101 : n0 ≤ b101 := Nat.le_trans Z0 (Nat.le_of_eq g101.symm)
  have sz_b101 : h0.size ≤ b101 := Nat.le_trans (Keep.refl h0 []).1 (Nat.le_of_eq g101.symm)
  refine Go.via st101 ?_
  have Zs101 : n0 ≤ h101.size := Nat.le_trans Z0 E101.1
  have O101 : Old Z n0 h101 := O0.ext E101
  have K101 : Keep h0 h101 [] := (Keep.refl h0 []).ext E101
  have F_value_b101 : Fld Z h101 b101 "java/lang/String" "value" "[B" .null := D101 (Or.inr (ow hw 15 rfl)) (ty := (.array .byte)) (by decide)
  have F_coder_b101 : Fld Z h101 b101 "java/lang/String" "coder" "B" (.int (0 : Int32)) := D101 (Or.inr (ow hw 16 rfl)) (ty := .byte) (by decide)
  refine Go.via (fun _ => XS.dup X101.here hx rfl (hb hby d10_95) rfl rfl) ?_
  refine Go.via (fun _ => XS.iconst X101.here hx rfl (hb hby d10_96)) ?_
  show Go p e below _ (T101.setTop (mkF m 97 #[iv (4 : Int32), iv c0, iv c1, iv c2, iv c3, iv c4] [(.int (4 : Int32)), (.ref b101), (.ref b101)]))
  obtain ⟨T102, h102, k102, X102, e102, E102, A102, st102⟩ := newP X101 hx hZ (ow hw 69 rfl) e101 (g := (mkF m 97 #[iv (4 : Int32), iv c0, iv c1, iv c2, iv c3, iv c4] [(.int (4 : Int32)), (.ref b101), (.ref b101)])) rfl (hb hby d10_97) rfl (by decide) (cap := 4) (by decide) (by decide) (by decide) (by decide)
  obtain ⟨b102, g102⟩ : ∃ z, z = h101.size := ⟨_, rfl⟩
  rw [← g102] at A102 st102
  have g_b102 : n0 ≤ b102 := Nat.le_trans Zs101 (Nat.le_of_eq g102.symm)
  have ne_b101_b102 : b101 ≠ b102 := Nat.ne_of_lt (Nat.lt_of_lt_of_le A101.lt (Nat.le_of_eq g102.symm))
  have sz_b102 : h0.size ≤ b102 := Nat.le_trans K101.1 (Nat.le_of_eq g102.symm)
  refine Go.via st102 ?_
  have Zs102 : n0 ≤ h102.size := Nat.le_trans Zs101 E102.1
  have O102 : Old Z n0 h102 := O101.ext E102
  have K102 : Keep h0 h102 [] := K101.ext E102
  have fE_b101_102 := A101.ext E102
  have fF_b101_value_102 := F_value_b101.ext E102
  have fF_b101_coder_102 := F_coder_b101.ext E102
  have V_b102 : Arv Z h102 b102 k102 .char (4 : Int32) [(.int (0 : Int32)), (.int (0 : Int32)), (.int (0 : Int32)), (.int (0 : Int32))] (.int (0 : Int32)) := (Arv.new A102 (by decide)).pad (pad_rep [] (.int (0 : Int32)) 4)
  refine Go.via (fun _ => XS.dup X102.here hx rfl (hb hby d10_99) rfl rfl) ?_
  refine Go.via (fun _ => XS.iconst X102.here hx rfl (hb hby d10_100)) ?_
  refine Go.via (fun _ => XS.iloadN X102.here hx rfl (hb hby d10_101) rfl) ?_
  obtain ⟨cl103, Ar103, q103, S103, N103n, H103, G103⟩ := id V_b102
  have hin103 := inb_of (j := (0 : Int32)) S103 (by decide)
  obtain ⟨T103, h103, X103, e103, W103, st103⟩ := stC X102 hx hZ e102 Ar103 (j := (0 : Int32)) hin103 (g := (mkF m 102 #[iv (4 : Int32), iv c0, iv c1, iv c2, iv c3, iv c4] [(.int c0), (.int (0 : Int32)), (.ref b102), (.ref b102), (.ref b101), (.ref b101)])) rfl rfl (hb hby d10_102)
  refine Go.via st103 ?_
  have V103 : Arv Z h103 b102 k102 .char (4 : Int32) [(.int (nar .char c0)), (.int (0 : Int32)), (.int (0 : Int32)), (.int (0 : Int32))] (.int (0 : Int32)) := Arv.set Ar103 q103 S103 N103n H103 G103 (fits_nar_char _) W103 0 rfl (Nat.le_of_ble_eq_true rfl)
  have Zs103 : n0 ≤ h103.size := Nat.le_trans Zs102 (Keep.of_wr W103).1
  have O103 : Old Z n0 h103 := O102.wr W103 g_b102
  have K103 : Keep h0 h103 [] := K102.wr W103 (Or.inr sz_b102)
  have N103 := Fr.snoc X103 N0 g_b102
  have fE_b101_103 := fE_b101_102.wr W103
  have fF_b101_value_103 := fF_b101_value_102.other W103 (Or.inl ne_b101_b102)
  have fF_b101_coder_103 := fF_b101_coder_102.other W103 (Or.inl ne_b101_b102)
  refine Go.via (fun _ => XS.dup X103.here hx rfl (hb hby d10_103) rfl rfl) ?_
  show Go p e below _ (T103.setTop (mkF m 104 #[iv (4 : Int32), iv c0, iv c1, iv c2, iv c3, iv c4] [(.ref b102), (.ref b102), (.ref b101), (.ref b101)]))
  refine Go.via (fun _ => XS.iconst X103.here hx rfl (hb hby d10_104)) ?_
  refine Go.via (fun _ => XS.iloadN X103.here hx rfl (hb hby d10_105) rfl) ?_
  obtain ⟨cl104, Ar104, q104, S104, N104n, H104, G104⟩ := id V103
  have hin104 := inb_of (j := (1 : Int32)) S104 (by decide)
  obtain ⟨T104, h104, X104, e104, W104, st104⟩ := stC X103 hx hZ e103 Ar104 (j := (1 : Int32)) hin104 (g := (mkF m 106 #[iv (4 : Int32), iv c0, iv c1, iv c2, iv c3, iv c4] [(.int c1), (.int (1 : Int32)), (.ref b102), (.ref b102), (.ref b101), (.ref b101)])) rfl rfl (hb hby d10_106)
  refine Go.via st104 ?_
  have V104 : Arv Z h104 b102 k102 .char (4 : Int32) [(.int (nar .char c0)), (.int (nar .char c1)), (.int (0 : Int32)), (.int (0 : Int32))] (.int (0 : Int32)) := Arv.set Ar104 q104 S104 N104n H104 G104 (fits_nar_char _) W104 1 rfl (Nat.le_of_ble_eq_true rfl)
  have Zs104 : n0 ≤ h104.size := Nat.le_trans Zs103 (Keep.of_wr W104).1
  have O104 : Old Z n0 h104 := O103.wr W104 g_b102
  have K104 : Keep h0 h104 [] := K103.wr W104 (Or.inr sz_b102)
  have N104 := Fr.snoc X104 N103 g_b102
  have fE_b101_104 := fE_b101_103.wr W104
  have fF_b101_value_104 := fF_b101_value_103.other W104 (Or.inl ne_b101_b102)
  have fF_b101_coder_104 := fF_b101_coder_103.other W104 (Or.inl ne_b101_b102)
  refine Go.via (fun _ => XS.dup X104.here hx rfl (hb hby d10_107) rfl rfl) ?_
  refine Go.via (fun _ => XS.iconst X104.here hx rfl (hb hby d10_108)) ?_
  refine Go.via (fun _ => XS.iloadN X104.here hx rfl (hb hby d10_109) rfl) ?_
  show Go p e below _ (T104.setTop (mkF m 110 #[iv (4 : Int32), iv c0, iv c1, iv c2, iv c3, iv c4] [(.int c2), (.int (2 : Int32)), (.ref b102), (.ref b102), (.ref b101), (.ref b101)]))
  obtain ⟨cl105, Ar105, q105, S105, N105n, H105, G105⟩ := id V104
  have hin105 := inb_of (j := (2 : Int32)) S105 (by decide)
  obtain ⟨T105, h105, X105, e105, W105, st105⟩ := stC X104 hx hZ e104 Ar105 (j := (2 : Int32)) hin105 (g := (mkF m 110 #[iv (4 : Int32), iv c0, iv c1, iv c2, iv c3, iv c4] [(.int c2), (.int (2 : Int32)), (.ref b102), (.ref b102), (.ref b101), (.ref b101)])) rfl rfl (hb hby d10_110)
  refine Go.via st105 ?_
  have V105 : Arv Z h105 b102 k102 .char (4 : Int32) [(.int (nar .char c0)), (.int (nar .char c1)), (.int (nar .char c2)), (.int (0 : Int32))] (.int (0 : Int32)) := Arv.set Ar105 q105 S105 N105n H105 G105 (fits_nar_char _) W105 2 rfl (Nat.le_of_ble_eq_true rfl)
  have Zs105 : n0 ≤ h105.size := Nat.le_trans Zs104 (Keep.of_wr W105).1
  have O105 : Old Z n0 h105 := O104.wr W105 g_b102
  have K105 : Keep h0 h105 [] := K104.wr W105 (Or.inr sz_b102)
  have N105 := Fr.snoc X105 N104 g_b102
  have fE_b101_105 := fE_b101_104.wr W105
  have fF_b101_value_105 := fF_b101_value_104.other W105 (Or.inl ne_b101_b102)
  have fF_b101_coder_105 := fF_b101_coder_104.other W105 (Or.inl ne_b101_b102)
  refine Go.via (fun _ => XS.dup X105.here hx rfl (hb hby d10_111) rfl rfl) ?_
  refine Go.via (fun _ => XS.iconst X105.here hx rfl (hb hby d10_112)) ?_
  refine Go.via (fun _ => XS.iload X105.here hx rfl (hb hby d10_113) rfl) ?_
  obtain ⟨cl106, Ar106, q106, S106, N106n, H106, G106⟩ := id V105
  have hin106 := inb_of (j := (3 : Int32)) S106 (by decide)
  obtain ⟨T106, h106, X106, e106, W106, st106⟩ := stC X105 hx hZ e105 Ar106 (j := (3 : Int32)) hin106 (g := (mkF m 115 #[iv (4 : Int32), iv c0, iv c1, iv c2, iv c3, iv c4] [(.int c3), (.int (3 : Int32)), (.ref b102), (.ref b102), (.ref b101), (.ref b101)])) rfl rfl (hb hby d10_115)
  refine Go.via st106 ?_
  have V106 : Arv Z h106 b102 k102 .char (4 : Int32) [(.int (nar .char c0)), (.int (nar .char c1)), (.int (nar .char c2)), (.int (nar .char c3))] (.int (0 : Int32)) := Arv.set Ar106 q106 S106 N106n H106 G106 (fits_nar_char _) W106 3 rfl (Nat.le_of_ble_eq_true rfl)
  have Zs106 : n0 ≤ h106.size := Nat.le_trans Zs105 (Keep.of_wr W106).1
  have O106 : Old Z n0 h106 := O105.wr W106 g_b102
  have K106 : Keep h0 h106 [] := K105.wr W106 (Or.inr sz_b102)
  have N106 := Fr.snoc X106 N105 g_b102
  have fE_b101_106 := fE_b101_105.wr W106
  have fF_b101_value_106 := fF_b101_value_105.other W106 (Or.inl ne_b101_b102)
  have fF_b101_coder_106 := fF_b101_coder_105.other W106 (Or.inl ne_b101_b102)
  rw [hn0, hn1, hn2, hn3] at V106
  obtain ⟨_, _, ⟨T107, L107, k107, n107⟩, -, X107, ⟨Lc107, hQ107, l107, y107, z107⟩, st107⟩ := X106.specialBack hx (y := (⟨"java/lang/String", "<init>", "([C)V"⟩ : MethodName)) rfl hown (mvT hZ (ow hw 70 rfl)) (mvT hZ (ow hw 71 rfl)) (mvT hZ (ow hw 72 rfl)) (by decide) (backOf (W := 1) (rmI1_4 l Z a0 hw [] b101 b102 k102 (c0) (c1) (c2) (c3) ccs h106 n0 Zs106 fE_b101_106 fF_b101_value_106 fF_b101_coder_106 g_b101 ne_b101_b102 V106 hl0 hl1 hl2 hl3 O106 S_CS hcs) hZ (ow hw 72 rfl) (ow hw 12 rfl) (by decide) (by decide)) (g := (mkF m 116 #[iv (4 : Int32), iv c0, iv c1, iv c2, iv c3, iv c4] [(.ref b102), (.ref b101), (.ref b101)])) rfl (by rw [hml]; rfl) (Steps.refl _) (a := b101) (argsL := [(.ref b102)]) (rest := [(.ref b101)]) (lenOf pd_9 rfl) rfl (by show 2 * 0 + _ ≤ _; exact Nat.le_of_eq rfl) (hb hby d10_116) (fun _ _ => ⟨rfl, e106, (by decide : 2 + 1 ≤ _), (by decide : 8 + 4 ≤ _)⟩)
  dsimp only [Pt.U, Pt.locs, Pt.cells, Pt.slots] at X107 l107 y107 z107 st107 hQ107
  rw [l107, y107, z107] at X107
  replace X107 : Stand p l e _ _ m _ below meth c T107 _ 3 12 := X107
  obtain ⟨rfl, N107q, K107q, t107, kb107, gt107, fv107, fc107, va107⟩ := hQ107
  have N107 := Fr.app N106 N107q
  refine Go.tr st107 ?_
  have Zs107 : n0 ≤ T107.heap.size := Nat.le_trans Zs106 K107q.1
  have O107 : Old Z n0 T107.heap := O106.keep K107q (allS g_b101 all0)
  have K107 : Keep h0 T107.heap [] := K106.trans K107q (allS (Or.inr sz_b101) all0)
  have fE_b101_107 := fE_b101_106.keep K107q
  have fV_b102_107 := V106.keep K107q (ninS (Ne.symm ne_b101_b102) nin0)
  have g_t107 : n0 ≤ t107 := Nat.le_trans Zs106 gt107
  have ne_b101_t107 : b101 ≠ t107 := Nat.ne_of_lt (Nat.lt_of_lt_of_le fE_b101_106.lt gt107)
  have ne_b102_t107 : b102 ≠ t107 := Nat.ne_of_lt (Nat.lt_of_lt_of_le V106.lt gt107)
  have sz_t107 : h0.size ≤ t107 := Nat.le_trans K106.1 gt107
  show Go p e below _ (T107.setTop (mkF m 119 #[iv (4 : Int32), iv c0, iv c1, iv c2, iv c3, iv c4] [(.ref b101)]))
  exact own_retA X107 hx hlk Bd.returns rfl rfl (hb hby d10_119) (by show QTX_4 Z c0 c1 c2 c3 c4 ccs h0 n0 _ T107.heap _; exact ⟨b101, t107, kb107, rfl, N107, K107, fE_b101_107, fv107, fc107, va107⟩) (by decide) (by decide)
theorem ef_rmTX_5 (m : MethodId) (x1 : Int32) (x2 : Int32) (x3 : Int32) (x4 : Int32) (x5 : Int32) : entryFrame m #[(.int (5 : Int32)), (.int x1), (.int x2), (.int x3), (.int x4), (.int x5)] 6 = mkF m 0 #[iv (5 : Int32), iv x1, iv x2, iv x3, iv x4, iv x5] [] := by first | (simp [entryFrame, mkF, argsToLocals, Value.category]; done) | rfl
def QTX_5 (Z : State) (c0 : Int32) (c1 : Int32) (c2 : Int32) (c3 : Int32) (c4 : Int32) (ccs : Int32) (h0 : Heap) (n0 : Nat) (v : Option Value) (h : Heap) (L : List Loc) : Prop := ∃ (a t : Addr) (kb : ClassId), v = some (.ref a) ∧ Fr n0 L ∧ Keep h0 h [] ∧ Exa Z h a "java/lang/String" ∧ Fld Z h a "java/lang/String" "value" "[B" (.ref t) ∧ Fld Z h a "java/lang/String" "coder" "B" (.int (0 : Int32)) ∧ Arv Z h t kb .byte (5 : Int32) [(.int (nar .byte (c0.toInt8.toInt32))), (.int (nar .byte (c1.toInt8.toInt32))), (.int (nar .byte (c2.toInt8.toInt32))), (.int (nar .byte (c3.toInt8.toInt32))), (.int (nar .byte (c4.toInt8.toInt32)))] (.int (0 : Int32))
set_option maxRecDepth 65536 in
set_option maxHeartbeats 40000000 in
theorem rmTX_5 (l : Launch) (Z : State) (a0 : Array Value) (hw : TW Z a0) (ws : List Jvm.Cond) (c0 : Int32) (c1 : Int32) (c2 : Int32) (c3 : Int32) (c4 : Int32) (ccs : Int32) (h0 : Heap) (n0 : Nat) (Z0 : n0 ≤ h0.size) (hl0 : ¬ ((255 : Int32) < c0)) (hl1 : ¬ ((255 : Int32) < c1)) (hl2 : ¬ ((255 : Int32) < c2)) (hl3 : ¬ ((255 : Int32) < c3)) (hl4 : ¬ ((255 : Int32) < c4)) (hn0 : nar .char c0 = c0) (hn1 : nar .char c1 = c1) (hn2 : nar .char c2 = c2) (hn3 : nar .char c3 = c3) (hn4 : nar .char c4 = c4) (O0 : Old Z n0 h0) (S_CS : Sta Z Z.heap "java/lang/String" "COMPACT_STRINGS" "Z" (.int ccs)) (hcs : ¬ (ccs = (0 : Int32))) :
    MF l Z (⟨"com/example/sluice/sluice/expression/ValuesIsTruePinLaw", "text", "(ICCCCC)Ljava/lang/String;"⟩ : MethodName) method_3_code 6 (some (.object "java/lang/String")) ws (rmm 4 3 14 66) #[(.int (5 : Int32)), (.int c0), (.int c1), (.int c2), (.int c3), (.int c4)] h0 (QTX_5 Z c0 c1 c2 c3 c4 ccs h0 n0) := by
  refine MetFree.of_bodySF (plainFor_of_name pn_com_example_sluice_sluice_expression_ValuesIsTruePinLaw) hisR ?_
  intro p e s m args below meth c s₁ Bd hml0 hP hK
  obtain ⟨rfl, hZ, hh⟩ := hP
  have hx := Bd.exec
  have hby := Bd.bytes
  have hlk : meth.locks = false := Bd.notSynchronized
  have hml : c.maxLocals = 6 := hml0
  have hown : s.vm.findClass "com/example/sluice/sluice/expression/ValuesIsTruePinLaw" = some m.cls := findClass_of_methodNamed Bd.named
  have hnm := (name_of_methodNamed Bd.named Bd.method).1
  have X0 : Stand p l e (rmm 4 3 14 66) s m #[(.int (5 : Int32)), (.int c0), (.int c1), (.int c2), (.int c3), (.int c4)] below meth c s₁ [] 0 0 := Stand.of_body Bd
  have e0 : s₁.heap = h0 := by rw [← hh, Bd.state]; rfl
  have N0 := Fr.nil n0
  show Go p e below (FinE s below (QTX_5 Z c0 c1 c2 c3 c4 ccs h0 n0) (rmm 4 3 14 66).cells (rmm 4 3 14 66).slots) (s₁.setTop (entryFrame m #[(.int (5 : Int32)), (.int c0), (.int c1), (.int c2), (.int c3), (.int c4)] 6))
  refine Go.via (fun t k => castTop (ef_rmTX_5 m c0 c1 c2 c3 c4) k) ?_
  refine Go.via (fun _ => XS.iloadN X0.here hx rfl (hb hby d10_0) rfl) ?_
  refine Go.via (fun _ => XS.ifYes X0.here hx rfl (pc0 := 1) (pc' := 15) rfl (hb hby d10_1) rfl (by decide) (by decide) (by decide)) ?_
  refine Go.via (fun _ => XS.iloadN X0.here hx rfl (hb hby d10_15) rfl) ?_
  refine Go.via (fun _ => XS.iconst X0.here hx rfl (hb hby d10_16)) ?_
  refine Go.via (fun _ => XS.icmpYes X0.here hx rfl (pc0 := 17) (pc' := 35) rfl (hb hby d10_17) rfl (by decide) (by decide) (by decide)) ?_
  show Go p e below _ (s₁.setTop (mkF m 35 #[iv (5 : Int32), iv c0, iv c1, iv c2, iv c3, iv c4] []))
  refine Go.via (fun _ => XS.iloadN X0.here hx rfl (hb hby d10_35) rfl) ?_
  refine Go.via (fun _ => XS.iconst X0.here hx rfl (hb hby d10_36)) ?_
  refine Go.via (fun _ => XS.icmpYes X0.here hx rfl (pc0 := 37) (pc' := 59) rfl (hb hby d10_37) rfl (by decide) (by decide) (by decide)) ?_
  refine Go.via (fun _ => XS.iloadN X0.here hx rfl (hb hby d10_59) rfl) ?_
  refine Go.via (fun _ => XS.iconst X0.here hx rfl (hb hby d10_60)) ?_
  refine Go.via (fun _ => XS.icmpYes X0.here hx rfl (pc0 := 61) (pc' := 87) rfl (hb hby d10_61) rfl (by decide) (by decide) (by decide)) ?_
  show Go p e below _ (s₁.setTop (mkF m 87 #[iv (5 : Int32), iv c0, iv c1, iv c2, iv c3, iv c4] []))
  refine Go.via (fun _ => XS.iloadN X0.here hx rfl (hb hby d10_87) rfl) ?_
  refine Go.via (fun _ => XS.iconst X0.here hx rfl (hb hby d10_88)) ?_
  refine Go.via (fun _ => XS.icmpYes X0.here hx rfl (pc0 := 89) (pc' := 120) rfl (hb hby d10_89) rfl (by decide) (by decide) (by decide)) ?_
  obtain ⟨T101, h101, X101, e101, E101, A101, D101, -, st101⟩ := newO X0 hx hZ hown (ow hw 68 rfl) (ow hw 13 rfl) (ow hw 12 rfl) e0 (g := (mkF m 120 #[iv (5 : Int32), iv c0, iv c1, iv c2, iv c3, iv c4] [])) rfl (hb hby d10_120) (by decide) (by decide)
  obtain ⟨b101, g101⟩ : ∃ z, z = h0.size := ⟨_, rfl⟩
  rw [← g101] at A101 D101 st101
  have g_b101 : n0 ≤ b101 := Nat.le_trans Z0 (Nat.le_of_eq g101.symm)
  have sz_b101 : h0.size ≤ b101 := Nat.le_trans (Keep.refl h0 []).1 (Nat.le_of_eq g101.symm)
  refine Go.via st101 ?_
  have Zs101 : n0 ≤ h101.size := Nat.le_trans Z0 E101.1
  have O101 : Old Z n0 h101 := O0.ext E101
  have K101 : Keep h0 h101 [] := (Keep.refl h0 []).ext E101
  have F_value_b101 : Fld Z h101 b101 "java/lang/String" "value" "[B" .null := D101 (Or.inr (ow hw 15 rfl)) (ty := (.array .byte)) (by decide)
  have F_coder_b101 : Fld Z h101 b101 "java/lang/String" "coder" "B" (.int (0 : Int32)) := D101 (Or.inr (ow hw 16 rfl)) (ty := .byte) (by decide)
  refine Go.via (fun _ => XS.dup X101.here hx rfl (hb hby d10_123) rfl rfl) ?_
  refine Go.via (fun _ => XS.iconst X101.here hx rfl (hb hby d10_124)) ?_
  show Go p e below _ (T101.setTop (mkF m 125 #[iv (5 : Int32), iv c0, iv c1, iv c2, iv c3, iv c4] [(.int (5 : Int32)), (.ref b101), (.ref b101)]))
  obtain ⟨T102, h102, k102, X102, e102, E102, A102, st102⟩ := newP X101 hx hZ (ow hw 69 rfl) e101 (g := (mkF m 125 #[iv (5 : Int32), iv c0, iv c1, iv c2, iv c3, iv c4] [(.int (5 : Int32)), (.ref b101), (.ref b101)])) rfl (hb hby d10_125) rfl (by decide) (cap := 5) (by decide) (by decide) (by decide) (by decide)
  obtain ⟨b102, g102⟩ : ∃ z, z = h101.size := ⟨_, rfl⟩
  rw [← g102] at A102 st102
  have g_b102 : n0 ≤ b102 := Nat.le_trans Zs101 (Nat.le_of_eq g102.symm)
  have ne_b101_b102 : b101 ≠ b102 := Nat.ne_of_lt (Nat.lt_of_lt_of_le A101.lt (Nat.le_of_eq g102.symm))
  have sz_b102 : h0.size ≤ b102 := Nat.le_trans K101.1 (Nat.le_of_eq g102.symm)
  refine Go.via st102 ?_
  have Zs102 : n0 ≤ h102.size := Nat.le_trans Zs101 E102.1
  have O102 : Old Z n0 h102 := O101.ext E102
  have K102 : Keep h0 h102 [] := K101.ext E102
  have fE_b101_102 := A101.ext E102
  have fF_b101_value_102 := F_value_b101.ext E102
  have fF_b101_coder_102 := F_coder_b101.ext E102
  have V_b102 : Arv Z h102 b102 k102 .char (5 : Int32) [(.int (0 : Int32)), (.int (0 : Int32)), (.int (0 : Int32)), (.int (0 : Int32)), (.int (0 : Int32))] (.int (0 : Int32)) := (Arv.new A102 (by decide)).pad (pad_rep [] (.int (0 : Int32)) 5)
  refine Go.via (fun _ => XS.dup X102.here hx rfl (hb hby d10_127) rfl rfl) ?_
  refine Go.via (fun _ => XS.iconst X102.here hx rfl (hb hby d10_128)) ?_
  refine Go.via (fun _ => XS.iloadN X102.here hx rfl (hb hby d10_129) rfl) ?_
  obtain ⟨cl103, Ar103, q103, S103, N103n, H103, G103⟩ := id V_b102
  have hin103 := inb_of (j := (0 : Int32)) S103 (by decide)
  obtain ⟨T103, h103, X103, e103, W103, st103⟩ := stC X102 hx hZ e102 Ar103 (j := (0 : Int32)) hin103 (g := (mkF m 130 #[iv (5 : Int32), iv c0, iv c1, iv c2, iv c3, iv c4] [(.int c0), (.int (0 : Int32)), (.ref b102), (.ref b102), (.ref b101), (.ref b101)])) rfl rfl (hb hby d10_130)
  refine Go.via st103 ?_
  have V103 : Arv Z h103 b102 k102 .char (5 : Int32) [(.int (nar .char c0)), (.int (0 : Int32)), (.int (0 : Int32)), (.int (0 : Int32)), (.int (0 : Int32))] (.int (0 : Int32)) := Arv.set Ar103 q103 S103 N103n H103 G103 (fits_nar_char _) W103 0 rfl (Nat.le_of_ble_eq_true rfl)
  have Zs103 : n0 ≤ h103.size := Nat.le_trans Zs102 (Keep.of_wr W103).1
  have O103 : Old Z n0 h103 := O102.wr W103 g_b102
  have K103 : Keep h0 h103 [] := K102.wr W103 (Or.inr sz_b102)
  have N103 := Fr.snoc X103 N0 g_b102
  have fE_b101_103 := fE_b101_102.wr W103
  have fF_b101_value_103 := fF_b101_value_102.other W103 (Or.inl ne_b101_b102)
  have fF_b101_coder_103 := fF_b101_coder_102.other W103 (Or.inl ne_b101_b102)
  refine Go.via (fun _ => XS.dup X103.here hx rfl (hb hby d10_131) rfl rfl) ?_
  show Go p e below _ (T103.setTop (mkF m 132 #[iv (5 : Int32), iv c0, iv c1, iv c2, iv c3, iv c4] [(.ref b102), (.ref b102), (.ref b101), (.ref b101)]))
  refine Go.via (fun _ => XS.iconst X103.here hx rfl (hb hby d10_132)) ?_
  refine Go.via (fun _ => XS.iloadN X103.here hx rfl (hb hby d10_133) rfl) ?_
  obtain ⟨cl104, Ar104, q104, S104, N104n, H104, G104⟩ := id V103
  have hin104 := inb_of (j := (1 : Int32)) S104 (by decide)
  obtain ⟨T104, h104, X104, e104, W104, st104⟩ := stC X103 hx hZ e103 Ar104 (j := (1 : Int32)) hin104 (g := (mkF m 134 #[iv (5 : Int32), iv c0, iv c1, iv c2, iv c3, iv c4] [(.int c1), (.int (1 : Int32)), (.ref b102), (.ref b102), (.ref b101), (.ref b101)])) rfl rfl (hb hby d10_134)
  refine Go.via st104 ?_
  have V104 : Arv Z h104 b102 k102 .char (5 : Int32) [(.int (nar .char c0)), (.int (nar .char c1)), (.int (0 : Int32)), (.int (0 : Int32)), (.int (0 : Int32))] (.int (0 : Int32)) := Arv.set Ar104 q104 S104 N104n H104 G104 (fits_nar_char _) W104 1 rfl (Nat.le_of_ble_eq_true rfl)
  have Zs104 : n0 ≤ h104.size := Nat.le_trans Zs103 (Keep.of_wr W104).1
  have O104 : Old Z n0 h104 := O103.wr W104 g_b102
  have K104 : Keep h0 h104 [] := K103.wr W104 (Or.inr sz_b102)
  have N104 := Fr.snoc X104 N103 g_b102
  have fE_b101_104 := fE_b101_103.wr W104
  have fF_b101_value_104 := fF_b101_value_103.other W104 (Or.inl ne_b101_b102)
  have fF_b101_coder_104 := fF_b101_coder_103.other W104 (Or.inl ne_b101_b102)
  refine Go.via (fun _ => XS.dup X104.here hx rfl (hb hby d10_135) rfl rfl) ?_
  refine Go.via (fun _ => XS.iconst X104.here hx rfl (hb hby d10_136)) ?_
  refine Go.via (fun _ => XS.iloadN X104.here hx rfl (hb hby d10_137) rfl) ?_
  show Go p e below _ (T104.setTop (mkF m 138 #[iv (5 : Int32), iv c0, iv c1, iv c2, iv c3, iv c4] [(.int c2), (.int (2 : Int32)), (.ref b102), (.ref b102), (.ref b101), (.ref b101)]))
  obtain ⟨cl105, Ar105, q105, S105, N105n, H105, G105⟩ := id V104
  have hin105 := inb_of (j := (2 : Int32)) S105 (by decide)
  obtain ⟨T105, h105, X105, e105, W105, st105⟩ := stC X104 hx hZ e104 Ar105 (j := (2 : Int32)) hin105 (g := (mkF m 138 #[iv (5 : Int32), iv c0, iv c1, iv c2, iv c3, iv c4] [(.int c2), (.int (2 : Int32)), (.ref b102), (.ref b102), (.ref b101), (.ref b101)])) rfl rfl (hb hby d10_138)
  refine Go.via st105 ?_
  have V105 : Arv Z h105 b102 k102 .char (5 : Int32) [(.int (nar .char c0)), (.int (nar .char c1)), (.int (nar .char c2)), (.int (0 : Int32)), (.int (0 : Int32))] (.int (0 : Int32)) := Arv.set Ar105 q105 S105 N105n H105 G105 (fits_nar_char _) W105 2 rfl (Nat.le_of_ble_eq_true rfl)
  have Zs105 : n0 ≤ h105.size := Nat.le_trans Zs104 (Keep.of_wr W105).1
  have O105 : Old Z n0 h105 := O104.wr W105 g_b102
  have K105 : Keep h0 h105 [] := K104.wr W105 (Or.inr sz_b102)
  have N105 := Fr.snoc X105 N104 g_b102
  have fE_b101_105 := fE_b101_104.wr W105
  have fF_b101_value_105 := fF_b101_value_104.other W105 (Or.inl ne_b101_b102)
  have fF_b101_coder_105 := fF_b101_coder_104.other W105 (Or.inl ne_b101_b102)
  refine Go.via (fun _ => XS.dup X105.here hx rfl (hb hby d10_139) rfl rfl) ?_
  refine Go.via (fun _ => XS.iconst X105.here hx rfl (hb hby d10_140)) ?_
  refine Go.via (fun _ => XS.iload X105.here hx rfl (hb hby d10_141) rfl) ?_
  obtain ⟨cl106, Ar106, q106, S106, N106n, H106, G106⟩ := id V105
  have hin106 := inb_of (j := (3 : Int32)) S106 (by decide)
  obtain ⟨T106, h106, X106, e106, W106, st106⟩ := stC X105 hx hZ e105 Ar106 (j := (3 : Int32)) hin106 (g := (mkF m 143 #[iv (5 : Int32), iv c0, iv c1, iv c2, iv c3, iv c4] [(.int c3), (.int (3 : Int32)), (.ref b102), (.ref b102), (.ref b101), (.ref b101)])) rfl rfl (hb hby d10_143)
  refine Go.via st106 ?_
  have V106 : Arv Z h106 b102 k102 .char (5 : Int32) [(.int (nar .char c0)), (.int (nar .char c1)), (.int (nar .char c2)), (.int (nar .char c3)), (.int (0 : Int32))] (.int (0 : Int32)) := Arv.set Ar106 q106 S106 N106n H106 G106 (fits_nar_char _) W106 3 rfl (Nat.le_of_ble_eq_true rfl)
  have Zs106 : n0 ≤ h106.size := Nat.le_trans Zs105 (Keep.of_wr W106).1
  have O106 : Old Z n0 h106 := O105.wr W106 g_b102
  have K106 : Keep h0 h106 [] := K105.wr W106 (Or.inr sz_b102)
  have N106 := Fr.snoc X106 N105 g_b102
  have fE_b101_106 := fE_b101_105.wr W106
  have fF_b101_value_106 := fF_b101_value_105.other W106 (Or.inl ne_b101_b102)
  have fF_b101_coder_106 := fF_b101_coder_105.other W106 (Or.inl ne_b101_b102)
  refine Go.via (fun _ => XS.dup X106.here hx rfl (hb hby d10_144) rfl rfl) ?_
  show Go p e below _ (T106.setTop (mkF m 145 #[iv (5 : Int32), iv c0, iv c1, iv c2, iv c3, iv c4] [(.ref b102), (.ref b102), (.ref b101), (.ref b101)]))
  refine Go.via (fun _ => XS.iconst X106.here hx rfl (hb hby d10_145)) ?_
  refine Go.via (fun _ => XS.iload X106.here hx rfl (hb hby d10_146) rfl) ?_
  obtain ⟨cl107, Ar107, q107, S107, N107n, H107, G107⟩ := id V106
  have hin107 := inb_of (j := (4 : Int32)) S107 (by decide)
  obtain ⟨T107, h107, X107, e107, W107, st107⟩ := stC X106 hx hZ e106 Ar107 (j := (4 : Int32)) hin107 (g := (mkF m 148 #[iv (5 : Int32), iv c0, iv c1, iv c2, iv c3, iv c4] [(.int c4), (.int (4 : Int32)), (.ref b102), (.ref b102), (.ref b101), (.ref b101)])) rfl rfl (hb hby d10_148)
  refine Go.via st107 ?_
  have V107 : Arv Z h107 b102 k102 .char (5 : Int32) [(.int (nar .char c0)), (.int (nar .char c1)), (.int (nar .char c2)), (.int (nar .char c3)), (.int (nar .char c4))] (.int (0 : Int32)) := Arv.set Ar107 q107 S107 N107n H107 G107 (fits_nar_char _) W107 4 rfl (Nat.le_of_ble_eq_true rfl)
  have Zs107 : n0 ≤ h107.size := Nat.le_trans Zs106 (Keep.of_wr W107).1
  have O107 : Old Z n0 h107 := O106.wr W107 g_b102
  have K107 : Keep h0 h107 [] := K106.wr W107 (Or.inr sz_b102)
  have N107 := Fr.snoc X107 N106 g_b102
  have fE_b101_107 := fE_b101_106.wr W107
  have fF_b101_value_107 := fF_b101_value_106.other W107 (Or.inl ne_b101_b102)
  have fF_b101_coder_107 := fF_b101_coder_106.other W107 (Or.inl ne_b101_b102)
  rw [hn0, hn1, hn2, hn3, hn4] at V107
  obtain ⟨_, _, ⟨T108, L108, k108, n108⟩, -, X108, ⟨Lc108, hQ108, l108, y108, z108⟩, st108⟩ := X107.specialBack hx (y := (⟨"java/lang/String", "<init>", "([C)V"⟩ : MethodName)) rfl hown (mvT hZ (ow hw 70 rfl)) (mvT hZ (ow hw 71 rfl)) (mvT hZ (ow hw 72 rfl)) (by decide) (backOf (W := 1) (rmI1_5 l Z a0 hw [] b101 b102 k102 (c0) (c1) (c2) (c3) (c4) ccs h107 n0 Zs107 fE_b101_107 fF_b101_value_107 fF_b101_coder_107 g_b101 ne_b101_b102 V107 hl0 hl1 hl2 hl3 hl4 O107 S_CS hcs) hZ (ow hw 72 rfl) (ow hw 12 rfl) (by decide) (by decide)) (g := (mkF m 149 #[iv (5 : Int32), iv c0, iv c1, iv c2, iv c3, iv c4] [(.ref b102), (.ref b101), (.ref b101)])) rfl (by rw [hml]; rfl) (Steps.refl _) (a := b101) (argsL := [(.ref b102)]) (rest := [(.ref b101)]) (lenOf pd_9 rfl) rfl (by show 2 * 0 + _ ≤ _; exact Nat.le_of_eq rfl) (hb hby d10_149) (fun _ _ => ⟨rfl, e107, (by decide : 2 + 1 ≤ _), (by decide : 9 + 5 ≤ _)⟩)
  dsimp only [Pt.U, Pt.locs, Pt.cells, Pt.slots] at X108 l108 y108 z108 st108 hQ108
  rw [l108, y108, z108] at X108
  replace X108 : Stand p l e _ _ m _ below meth c T108 _ 3 14 := X108
  obtain ⟨rfl, N108q, K108q, t108, kb108, gt108, fv108, fc108, va108⟩ := hQ108
  have N108 := Fr.app N107 N108q
  refine Go.tr st108 ?_
  have Zs108 : n0 ≤ T108.heap.size := Nat.le_trans Zs107 K108q.1
  have O108 : Old Z n0 T108.heap := O107.keep K108q (allS g_b101 all0)
  have K108 : Keep h0 T108.heap [] := K107.trans K108q (allS (Or.inr sz_b101) all0)
  have fE_b101_108 := fE_b101_107.keep K108q
  have fV_b102_108 := V107.keep K108q (ninS (Ne.symm ne_b101_b102) nin0)
  have g_t108 : n0 ≤ t108 := Nat.le_trans Zs107 gt108
  have ne_b101_t108 : b101 ≠ t108 := Nat.ne_of_lt (Nat.lt_of_lt_of_le fE_b101_107.lt gt108)
  have ne_b102_t108 : b102 ≠ t108 := Nat.ne_of_lt (Nat.lt_of_lt_of_le V107.lt gt108)
  have sz_t108 : h0.size ≤ t108 := Nat.le_trans K107.1 gt108
  exact own_retA X108 hx hlk Bd.returns rfl rfl (hb hby d10_152) (by show QTX_5 Z c0 c1 c2 c3 c4 ccs h0 n0 _ T108.heap _; exact ⟨b101, t108, kb108, rfl, N108, K108, fE_b101_108, fv108, fc108, va108⟩) (by decide) (by decide)
theorem ef_rm0 (m : MethodId) (x0 : Int32) (x1 : Int32) (x2 : Int32) (x3 : Int32) (x4 : Int64) : entryFrame m #[(.int x0), (.int x1), (.int x2), (.int x3), (.long x4)] maxLocals = mkF m 0 #[iv x0, iv x1, iv x2, iv x3, .val (.long x4), .second, .unset, .unset, .unset, .unset, .unset, .unset, .unset, .unset, .unset] [] := by first | (simp [entryFrame, mkF, argsToLocals, Value.category, maxLocals]; done) | rfl
def Q0 (Z : State) (p1 : Int32) (p2 : Int32) (p3 : Int32) (p4 : Int32) (p5 : Int64) (bt : Addr) (bf : Addr) (lc : Addr) (kL : ClassId) (vs : List Value) (ccs : Int32) (h0 : Heap) (n0 : Nat) (v : Option Value) (h : Heap) (L : List Loc) : Prop := v = some (.int 1) ∧ Fr n0 L
set_option maxRecDepth 65536 in
set_option maxHeartbeats 40000000 in
theorem rm0 (l : Launch) (Z : State) (a0 : Array Value) (hw : TW Z a0) (ws : List Jvm.Cond) (p1 : Int32) (p2 : Int32) (p3 : Int32) (p4 : Int32) (p5 : Int64) (bt : Addr) (bf : Addr) (lc : Addr) (kL : ClassId) (vs : List Value) (ccs : Int32) (h0 : Heap) (n0 : Nat) (Z0 : n0 ≤ h0.size) (hEW : EW Z a0 consts_1) (S_T : Sta Z Z.heap "java/lang/Boolean" "TRUE" "Ljava/lang/Boolean;" (.ref bt)) (E_T : Exa Z Z.heap bt "java/lang/Boolean") (F_T : Fld Z Z.heap bt "java/lang/Boolean" "value" "Z" (.int (1 : Int32))) (S_F : Sta Z Z.heap "java/lang/Boolean" "FALSE" "Ljava/lang/Boolean;" (.ref bf)) (E_F : Exa Z Z.heap bf "java/lang/Boolean") (F_F : Fld Z Z.heap bf "java/lang/Boolean" "value" "Z" (.int (0 : Int32))) (S_L : Sta Z Z.heap "java/lang/Long$LongCache" "cache" "[Ljava/lang/Long;" (.ref lc)) (VC : Arv Z h0 lc kL (.object "java/lang/Long") (256 : Int32) vs .null) (hel : ∀ i, i < 256 → ∃ b : Addr, vs.getD i .null = .ref b ∧ Exa Z h0 b "java/lang/Long") (O0 : Old Z n0 h0) (S_CS : Sta Z Z.heap "java/lang/String" "COMPACT_STRINGS" "Z" (.int ccs)) (hcs : ¬ (ccs = (0 : Int32))) :
    MetFree l x (head1 (Jvm.Cond.code x code maxLocals ret :: ws) room_1) (fun a U => a = #[(.int p1), (.int p2), (.int p3), (.int p4), (.long p5)] ∧ Z.Warmed39 U.vm ∧ U.heap = h0 ∧ CHv Z consts_1 U.vm h0) (fun _ _ _ _ _ => True) (fun _ U o U' => ∃ v L, o = .returned v ∧ Q0 Z p1 p2 p3 p4 p5 bt bf lc kL vs ccs h0 n0 v U'.heap L ∧ ReturnedEndW U o U' L room_1.cells room_1.slots) := by
  refine MetFree.of_bodySF (plainFor_of_name pn_com_example_sluice_sluice_expression_ValuesIsTruePinLaw) hisR ?_
  intro p e s m args below meth c s₁ Bd hml0 hP hK
  obtain ⟨rfl, hZ, hh, hCH⟩ := hP
  have hx := Bd.exec
  have hby := Bd.bytes
  have hlk : meth.locks = false := Bd.notSynchronized
  have hml : c.maxLocals = 15 := hml0
  have hown : s.vm.findClass "com/example/sluice/sluice/expression/ValuesIsTruePinLaw" = some m.cls := findClass_of_methodNamed Bd.named
  have hnm := (name_of_methodNamed Bd.named Bd.method).1
  have X0 : Stand p l e room_1 (s.setVm s.vm) m #[(.int p1), (.int p2), (.int p3), (.int p4), (.long p5)] below meth c s₁ [] 0 0 := Stand.of_body Bd
  replace hZ : Z.Warmed39 (s.setVm s.vm).vm := hZ
  replace hown : (s.setVm s.vm).vm.findClass "com/example/sluice/sluice/expression/ValuesIsTruePinLaw" = some m.cls := hown
  have hS0 : s.Since s.vm 0 := (State.WarmedH.refl s).since 0
  have hk0 : 0 ≤ h0.size := Nat.zero_le _
  have R0 : CHr Z consts_1 s.vm h0 s.vm h0 := CHr.refl hCH
  have e0 : s₁.heap = h0 := by rw [← hh, Bd.state]; rfl
  have N0 := Fr.nil n0
  show Go p e below (FinW s below (Q0 Z p1 p2 p3 p4 p5 bt bf lc kL vs ccs h0 n0) room_1.cells room_1.slots) (s₁.setTop (entryFrame m #[(.int p1), (.int p2), (.int p3), (.int p4), (.long p5)] maxLocals))
  refine Go.via (fun t k => castTop (ef_rm0 m p1 p2 p3 p4 p5) k) ?_
  refine Go.via (fun _ => XS.iloadN X0.here hx rfl (hb hby at_0) rfl) ?_
  refine Go.via (fun _ => XS.iconst X0.here hx rfl (hb hby at_1)) ?_
  refine Go.via (fun _ => XS.iand X0.here hx rfl (hb hby at_2) rfl) ?_
  show Go p e below _ (s₁.setTop (mkF m 3 #[iv p1, iv p2, iv p3, iv p4, .val (.long p5), .second, .unset, .unset, .unset, .unset, .unset, .unset, .unset, .unset, .unset] [(.int (p1 &&& (3 : Int32)))]))
  have hn := own_4 p1
  generalize hnn : (p1 &&& (3 : Int32)) = kx at hn ⊢
  rcases hn with rfl | rfl | rfl | rfl
  ·
    show Go p e below _ (s₁.setTop (mkF m 3 #[iv p1, iv p2, iv p3, iv p4, .val (.long p5), .second, .unset, .unset, .unset, .unset, .unset, .unset, .unset, .unset, .unset] [(.int (0 : Int32))]))
    refine Go.via (fun _ => XS.istore X0.here hx rfl (hb hby at_3) rfl (l' := #[iv p1, iv p2, iv p3, iv p4, .val (.long p5), .second, iv (0 : Int32), .unset, .unset, .unset, .unset, .unset, .unset, .unset, .unset]) rfl) ?_
    refine Go.via (fun _ => XS.iload X0.here hx rfl (hb hby at_5) rfl) ?_
    refine Go.via (fun _ => XS.ifNo X0.here hx rfl (hb hby at_7) rfl (by decide)) ?_
    refine Go.via (fun _ => XS.aconstNull X0.here hx rfl (hb hby at_10)) ?_
    refine Go.via (fun _ => XS.astore X0.here hx rfl (hb hby at_11) rfl rfl (l' := #[iv p1, iv p2, iv p3, iv p4, .val (.long p5), .second, iv (0 : Int32), .val .null, .unset, .unset, .unset, .unset, .unset, .unset, .unset]) rfl) ?_
    show Go p e below _ (s₁.setTop (mkF m 13 #[iv p1, iv p2, iv p3, iv p4, .val (.long p5), .second, iv (0 : Int32), .val .null, .unset, .unset, .unset, .unset, .unset, .unset, .unset] []))
    refine Go.via (fun _ => XS.iconst X0.here hx rfl (hb hby at_13)) ?_
    refine Go.via (fun _ => XS.istore X0.here hx rfl (hb hby at_14) rfl (l' := #[iv p1, iv p2, iv p3, iv p4, .val (.long p5), .second, iv (0 : Int32), .val .null, iv (0 : Int32), .unset, .unset, .unset, .unset, .unset, .unset]) rfl) ?_
    refine Go.via (fun _ => XS.goto X0.here hx rfl (pc0 := 16) (pc' := 187) rfl (hb hby at_16) (by decide) (by decide)) ?_
    refine Go.via (fun _ => XS.aload X0.here hx rfl (hb hby at_187) rfl rfl) ?_
    obtain ⟨_, _, ⟨T101, L101, k101, n101⟩, -, X101, S101w, gr101, ⟨Lc101, hQ101, l101, y101, z101, cr101⟩, st101⟩ := callSS X0 hx (y := (⟨"com/example/sluice/sluice/expression/Values", "isTrue", "(Ljava/lang/Object;)Z"⟩ : MethodName)) hown (mvT hZ (ow hw 0 rfl)) (mvT hZ (ow hw 1 rfl)) (mvT hZ (ow hw 2 rfl)) (mvT hZ (ow hw 3 rfl)) (by decide) (backOfSH (W := 0) (rmIT_null l Z a0 hw [] bt ccs h0 n0 Z0 hEW S_T (E_T.ext O0.2) (F_T.ext O0.2) O0 S_CS hcs) hZ (ow hw 3 rfl) (ow hw 2 rfl) (by decide) (by decide) hEW R0.1) (g := (mkF m 189 #[iv p1, iv p2, iv p3, iv p4, .val (.long p5), .second, iv (0 : Int32), .val .null, iv (0 : Int32), .unset, .unset, .unset, .unset, .unset, .unset] [.null])) rfl (by rw [hml]; rfl) (argsL := [.null]) (rest := []) (lenOf pd_2 rfl) rfl (by show 2 * 0 + _ ≤ _; exact Nat.le_of_eq rfl) (hb hby at_189) (fun _ _ => ⟨rfl, e0, (by decide : 0 + 2 ≤ _), (by decide : 0 + 20 ≤ _)⟩)
    dsimp only [Pt.U, Pt.locs, Pt.cells, Pt.slots] at X101 l101 y101 z101 st101 hQ101 S101w gr101 cr101
    rw [l101, y101, z101] at X101
    replace X101 : Stand p l e _ _ m _ below meth c T101 _ 2 20 := X101
    obtain ⟨rfl, N101q, K101q⟩ := hQ101
    have N101 := Fr.app N0 N101q
    refine Go.tr st101 ?_
    obtain ⟨X101r, hS101, hZ101, hown101⟩ := rebS hS0 (by rw [e0]; exact hk0) X101 S101w gr101 hZ hown
    have R101 : CHr Z consts_1 s.vm h0 T101.vm T101.heap := R0.trans cr101
    have Zs101 : n0 ≤ T101.heap.size := Nat.le_trans Z0 K101q.1
    have O101 : Old Z n0 T101.heap := O0.keep K101q all0
    refine Go.via (fun _ => XS.iload X101r.here hx rfl (hb hby at_192) rfl) ?_
    show Go p e below _ (T101.setTop (mkF m 194 #[iv p1, iv p2, iv p3, iv p4, .val (.long p5), .second, iv (0 : Int32), .val .null, iv (0 : Int32), .unset, .unset, .unset, .unset, .unset, .unset] [(.int (0 : Int32)), (.int (0 : Int32))]))
    refine Go.via (fun _ => XS.icmpNo X101r.here hx rfl (hb hby at_194) rfl (by decide)) ?_
    refine Go.via (fun _ => XS.iconst X101r.here hx rfl (hb hby at_197)) ?_
    refine Go.via (fun _ => XS.goto X101r.here hx rfl (pc0 := 198) (pc' := 202) rfl (hb hby at_198) (by decide) (by decide)) ?_
    exact own_retNW X101r hS101 (Nat.le_refl _) hx hlk (t := .boolean) Bd.returns (by simp) (hb hby at_202) (by show Q0 Z p1 p2 p3 p4 p5 bt bf lc kL vs ccs h0 n0 _ T101.heap _; exact ⟨rfl, N101⟩) (by decide) (by decide)
  ·
    show Go p e below _ (s₁.setTop (mkF m 3 #[iv p1, iv p2, iv p3, iv p4, .val (.long p5), .second, .unset, .unset, .unset, .unset, .unset, .unset, .unset, .unset, .unset] [(.int (1 : Int32))]))
    refine Go.via (fun _ => XS.istore X0.here hx rfl (hb hby at_3) rfl (l' := #[iv p1, iv p2, iv p3, iv p4, .val (.long p5), .second, iv (1 : Int32), .unset, .unset, .unset, .unset, .unset, .unset, .unset, .unset]) rfl) ?_
    refine Go.via (fun _ => XS.iload X0.here hx rfl (hb hby at_5) rfl) ?_
    refine Go.via (fun _ => XS.ifYes X0.here hx rfl (pc0 := 7) (pc' := 19) rfl (hb hby at_7) rfl (by decide) (by decide) (by decide)) ?_
    refine Go.via (fun _ => XS.iload X0.here hx rfl (hb hby at_19) rfl) ?_
    refine Go.via (fun _ => XS.iconst X0.here hx rfl (hb hby at_21)) ?_
    show Go p e below _ (s₁.setTop (mkF m 22 #[iv p1, iv p2, iv p3, iv p4, .val (.long p5), .second, iv (1 : Int32), .unset, .unset, .unset, .unset, .unset, .unset, .unset, .unset] [(.int (1 : Int32)), (.int (1 : Int32))]))
    refine Go.via (fun _ => XS.icmpNo X0.here hx rfl (hb hby at_22) rfl (by decide)) ?_
    refine Go.via (fun _ => XS.lload X0.here hx rfl (hb hby at_25) rfl) ?_
    refine Go.via (fun _ => XS.lconst X0.here hx rfl (hb hby at_27)) ?_
    refine Go.via (fun _ => XS.land X0.here hx rfl (hb hby at_28) rfl) ?_
    refine Go.via (fun _ => XS.lconst X0.here hx rfl (hb hby at_29)) ?_
    refine Go.via (fun _ => XS.lcmp X0.here hx rfl (hb hby at_30) rfl) ?_
    show Go p e below _ (s₁.setTop (mkF m 31 #[iv p1, iv p2, iv p3, iv p4, .val (.long p5), .second, iv (1 : Int32), .unset, .unset, .unset, .unset, .unset, .unset, .unset, .unset] [(.int (lcmpW (p5 &&& (1 : Int64)) (0 : Int64)))]))
    by_cases hc102 : (lcmpW (p5 &&& (1 : Int64)) (0 : Int64)) = (0 : Int32)
    · -- yes
      refine Go.via (fun _ => XS.ifYes X0.here hx rfl (pc0 := 31) (pc' := 38) rfl (hb hby at_31) rfl ((if0 _ _).trans (teq hc102).1) (by decide) (by decide)) ?_
      refine Go.via (fun _ => XS.iconst X0.here hx rfl (hb hby at_38)) ?_
      refine Go.via (fun _ => XS.istore X0.here hx rfl (hb hby at_39) rfl (l' := #[iv p1, iv p2, iv p3, iv p4, .val (.long p5), .second, iv (1 : Int32), .unset, .unset, iv (0 : Int32), .unset, .unset, .unset, .unset, .unset]) rfl) ?_
      refine Go.via (fun _ => XS.iload X0.here hx rfl (hb hby at_41) rfl) ?_
      show Go p e below _ (s₁.setTop (mkF m 43 #[iv p1, iv p2, iv p3, iv p4, .val (.long p5), .second, iv (1 : Int32), .unset, .unset, iv (0 : Int32), .unset, .unset, .unset, .unset, .unset] [(.int (0 : Int32))]))
      obtain ⟨_, _, ⟨T103, L103, k103, n103⟩, -, X103, ⟨Lc103, hQ103, l103, y103, z103⟩, st103⟩ := Jvm.LawKit.callS X0 hx (y := (⟨"java/lang/Boolean", "valueOf", "(Z)Ljava/lang/Boolean;"⟩ : MethodName)) hown (mvT hZ (ow hw 52 rfl)) (mvT hZ (ow hw 53 rfl)) (mvT hZ (ow hw 5 rfl)) (mvT hZ (ow hw 54 rfl)) (by decide) (backOf (W := 0) (rmBO_0 l Z a0 hw [] bf h0 n0 Z0 O0 S_F) hZ (ow hw 54 rfl) (ow hw 5 rfl) (by decide) (by decide)) (g := (mkF m 43 #[iv p1, iv p2, iv p3, iv p4, .val (.long p5), .second, iv (1 : Int32), .unset, .unset, iv (0 : Int32), .unset, .unset, .unset, .unset, .unset] [(.int (0 : Int32))])) rfl (by rw [hml]; rfl) (argsL := [(.int (0 : Int32))]) (rest := []) (lenOf pd_10 rfl) rfl (by show 2 * 0 + _ ≤ _; exact Nat.le_of_eq rfl) (hb hby at_43) (fun _ _ => ⟨rfl, e0, (by decide : 0 + 0 ≤ _), (by decide : 0 + 0 ≤ _)⟩)
      dsimp only [Pt.U, Pt.locs, Pt.cells, Pt.slots] at X103 l103 y103 z103 st103 hQ103
      rw [l103, y103, z103] at X103
      replace X103 : Stand p l e _ _ m _ below meth c T103 _ 0 0 := X103
      obtain ⟨rfl, N103q, e103q⟩ := hQ103
      have N103 := Fr.app N0 N103q
      refine Go.via st103 ?_
      refine Go.via (fun _ => XS.astore X103.here hx rfl (hb hby at_46) rfl rfl (l' := #[iv p1, iv p2, iv p3, iv p4, .val (.long p5), .second, iv (1 : Int32), rv bf, .unset, iv (0 : Int32), .unset, .unset, .unset, .unset, .unset]) rfl) ?_
      refine Go.via (fun _ => XS.iload X103.here hx rfl (hb hby at_48) rfl) ?_
      refine Go.via (fun _ => XS.istore X103.here hx rfl (hb hby at_50) rfl (l' := #[iv p1, iv p2, iv p3, iv p4, .val (.long p5), .second, iv (1 : Int32), rv bf, iv (0 : Int32), iv (0 : Int32), .unset, .unset, .unset, .unset, .unset]) rfl) ?_
      refine Go.via (fun _ => XS.goto X103.here hx rfl (pc0 := 52) (pc' := 187) rfl (hb hby at_52) (by decide) (by decide)) ?_
      refine Go.via (fun _ => XS.aload X103.here hx rfl (hb hby at_187) rfl rfl) ?_
      show Go p e below _ (T103.setTop (mkF m 189 #[iv p1, iv p2, iv p3, iv p4, .val (.long p5), .second, iv (1 : Int32), rv bf, iv (0 : Int32), iv (0 : Int32), .unset, .unset, .unset, .unset, .unset] [(.ref bf)]))
      obtain ⟨_, _, ⟨T104, L104, k104, n104⟩, -, X104, S104w, gr104, ⟨Lc104, hQ104, l104, y104, z104, cr104⟩, st104⟩ := callSS X103 hx (y := (⟨"com/example/sluice/sluice/expression/Values", "isTrue", "(Ljava/lang/Object;)Z"⟩ : MethodName)) hown (mvT hZ (ow hw 0 rfl)) (mvT hZ (ow hw 1 rfl)) (mvT hZ (ow hw 2 rfl)) (mvT hZ (ow hw 3 rfl)) (by decide) (backOfSH (W := 0) (rmIT_0 l Z a0 hw [] bt bf ccs h0 n0 Z0 hEW S_T (E_T.ext O0.2) (F_T.ext O0.2) (E_F.ext O0.2) (F_F.ext O0.2) O0 S_CS hcs) hZ (ow hw 3 rfl) (ow hw 2 rfl) (by decide) (by decide) hEW R0.1) (g := (mkF m 189 #[iv p1, iv p2, iv p3, iv p4, .val (.long p5), .second, iv (1 : Int32), rv bf, iv (0 : Int32), iv (0 : Int32), .unset, .unset, .unset, .unset, .unset] [(.ref bf)])) rfl (by rw [hml]; rfl) (argsL := [(.ref bf)]) (rest := []) (lenOf pd_2 rfl) rfl (by show 2 * 0 + _ ≤ _; exact Nat.le_of_eq rfl) (hb hby at_189) (fun _ _ => ⟨rfl, e103q, (by decide : 0 + 2 ≤ _), (by decide : 0 + 20 ≤ _)⟩)
      dsimp only [Pt.U, Pt.locs, Pt.cells, Pt.slots] at X104 l104 y104 z104 st104 hQ104 S104w gr104 cr104
      rw [l104, y104, z104] at X104
      replace X104 : Stand p l e _ _ m _ below meth c T104 _ 2 20 := X104
      obtain ⟨rfl, N104q, K104q⟩ := hQ104
      have N104 := Fr.app N103 N104q
      refine Go.tr st104 ?_
      obtain ⟨X104r, hS104, hZ104, hown104⟩ := rebS hS0 (by rw [e103q]; exact hk0) X104 S104w gr104 hZ hown
      have R104 : CHr Z consts_1 s.vm h0 T104.vm T104.heap := R0.trans cr104
      have Zs104 : n0 ≤ T104.heap.size := Nat.le_trans Z0 K104q.1
      have O104 : Old Z n0 T104.heap := O0.keep K104q all0
      refine Go.via (fun _ => XS.iload X104r.here hx rfl (hb hby at_192) rfl) ?_
      refine Go.via (fun _ => XS.icmpNo X104r.here hx rfl (hb hby at_194) rfl (by decide)) ?_
      refine Go.via (fun _ => XS.iconst X104r.here hx rfl (hb hby at_197)) ?_
      refine Go.via (fun _ => XS.goto X104r.here hx rfl (pc0 := 198) (pc' := 202) rfl (hb hby at_198) (by decide) (by decide)) ?_
      exact own_retNW X104r hS104 (Nat.le_refl _) hx hlk (t := .boolean) Bd.returns (by simp) (hb hby at_202) (by show Q0 Z p1 p2 p3 p4 p5 bt bf lc kL vs ccs h0 n0 _ T104.heap _; exact ⟨rfl, N104⟩) (by decide) (by decide)
    · -- no
      refine Go.via (fun _ => XS.ifNo X0.here hx rfl (hb hby at_31) rfl ((if0 _ _).trans (feq hc102).1)) ?_
      refine Go.via (fun _ => XS.iconst X0.here hx rfl (hb hby at_34)) ?_
      refine Go.via (fun _ => XS.goto X0.here hx rfl (pc0 := 35) (pc' := 39) rfl (hb hby at_35) (by decide) (by decide)) ?_
      refine Go.via (fun _ => XS.istore X0.here hx rfl (hb hby at_39) rfl (l' := #[iv p1, iv p2, iv p3, iv p4, .val (.long p5), .second, iv (1 : Int32), .unset, .unset, iv (1 : Int32), .unset, .unset, .unset, .unset, .unset]) rfl) ?_
      show Go p e below _ (s₁.setTop (mkF m 41 #[iv p1, iv p2, iv p3, iv p4, .val (.long p5), .second, iv (1 : Int32), .unset, .unset, iv (1 : Int32), .unset, .unset, .unset, .unset, .unset] []))
      refine Go.via (fun _ => XS.iload X0.here hx rfl (hb hby at_41) rfl) ?_
      obtain ⟨_, _, ⟨T105, L105, k105, n105⟩, -, X105, ⟨Lc105, hQ105, l105, y105, z105⟩, st105⟩ := Jvm.LawKit.callS X0 hx (y := (⟨"java/lang/Boolean", "valueOf", "(Z)Ljava/lang/Boolean;"⟩ : MethodName)) hown (mvT hZ (ow hw 52 rfl)) (mvT hZ (ow hw 53 rfl)) (mvT hZ (ow hw 5 rfl)) (mvT hZ (ow hw 54 rfl)) (by decide) (backOf (W := 0) (rmBO_1 l Z a0 hw [] bt h0 n0 Z0 O0 S_T) hZ (ow hw 54 rfl) (ow hw 5 rfl) (by decide) (by decide)) (g := (mkF m 43 #[iv p1, iv p2, iv p3, iv p4, .val (.long p5), .second, iv (1 : Int32), .unset, .unset, iv (1 : Int32), .unset, .unset, .unset, .unset, .unset] [(.int (1 : Int32))])) rfl (by rw [hml]; rfl) (argsL := [(.int (1 : Int32))]) (rest := []) (lenOf pd_10 rfl) rfl (by show 2 * 0 + _ ≤ _; exact Nat.le_of_eq rfl) (hb hby at_43) (fun _ _ => ⟨rfl, e0, (by decide : 0 + 0 ≤ _), (by decide : 0 + 0 ≤ _)⟩)
      dsimp only [Pt.U, Pt.locs, Pt.cells, Pt.slots] at X105 l105 y105 z105 st105 hQ105
      rw [l105, y105, z105] at X105
      replace X105 : Stand p l e _ _ m _ below meth c T105 _ 0 0 := X105
      obtain ⟨rfl, N105q, e105q⟩ := hQ105
      have N105 := Fr.app N0 N105q
      refine Go.via st105 ?_
      refine Go.via (fun _ => XS.astore X105.here hx rfl (hb hby at_46) rfl rfl (l' := #[iv p1, iv p2, iv p3, iv p4, .val (.long p5), .second, iv (1 : Int32), rv bt, .unset, iv (1 : Int32), .unset, .unset, .unset, .unset, .unset]) rfl) ?_
      refine Go.via (fun _ => XS.iload X105.here hx rfl (hb hby at_48) rfl) ?_
      refine Go.via (fun _ => XS.istore X105.here hx rfl (hb hby at_50) rfl (l' := #[iv p1, iv p2, iv p3, iv p4, .val (.long p5), .second, iv (1 : Int32), rv bt, iv (1 : Int32), iv (1 : Int32), .unset, .unset, .unset, .unset, .unset]) rfl) ?_
      refine Go.via (fun _ => XS.goto X105.here hx rfl (pc0 := 52) (pc' := 187) rfl (hb hby at_52) (by decide) (by decide)) ?_
      show Go p e below _ (T105.setTop (mkF m 187 #[iv p1, iv p2, iv p3, iv p4, .val (.long p5), .second, iv (1 : Int32), rv bt, iv (1 : Int32), iv (1 : Int32), .unset, .unset, .unset, .unset, .unset] []))
      refine Go.via (fun _ => XS.aload X105.here hx rfl (hb hby at_187) rfl rfl) ?_
      obtain ⟨_, _, ⟨T106, L106, k106, n106⟩, -, X106, S106w, gr106, ⟨Lc106, hQ106, l106, y106, z106, cr106⟩, st106⟩ := callSS X105 hx (y := (⟨"com/example/sluice/sluice/expression/Values", "isTrue", "(Ljava/lang/Object;)Z"⟩ : MethodName)) hown (mvT hZ (ow hw 0 rfl)) (mvT hZ (ow hw 1 rfl)) (mvT hZ (ow hw 2 rfl)) (mvT hZ (ow hw 3 rfl)) (by decide) (backOfSH (W := 0) (rmIT_1 l Z a0 hw [] bt bt ccs h0 n0 Z0 hEW S_T (E_T.ext O0.2) (F_T.ext O0.2) (E_T.ext O0.2) (F_T.ext O0.2) O0 S_CS hcs) hZ (ow hw 3 rfl) (ow hw 2 rfl) (by decide) (by decide) hEW R0.1) (g := (mkF m 189 #[iv p1, iv p2, iv p3, iv p4, .val (.long p5), .second, iv (1 : Int32), rv bt, iv (1 : Int32), iv (1 : Int32), .unset, .unset, .unset, .unset, .unset] [(.ref bt)])) rfl (by rw [hml]; rfl) (argsL := [(.ref bt)]) (rest := []) (lenOf pd_2 rfl) rfl (by show 2 * 0 + _ ≤ _; exact Nat.le_of_eq rfl) (hb hby at_189) (fun _ _ => ⟨rfl, e105q, (by decide : 0 + 0 ≤ _), (by decide : 0 + 0 ≤ _)⟩)
      dsimp only [Pt.U, Pt.locs, Pt.cells, Pt.slots] at X106 l106 y106 z106 st106 hQ106 S106w gr106 cr106
      rw [l106, y106, z106] at X106
      replace X106 : Stand p l e _ _ m _ below meth c T106 _ 0 0 := X106
      obtain ⟨rfl, N106q, K106q⟩ := hQ106
      have N106 := Fr.app N105 N106q
      refine Go.tr st106 ?_
      obtain ⟨X106r, hS106, hZ106, hown106⟩ := rebS hS0 (by rw [e105q]; exact hk0) X106 S106w gr106 hZ hown
      have R106 : CHr Z consts_1 s.vm h0 T106.vm T106.heap := R0.trans cr106
      have Zs106 : n0 ≤ T106.heap.size := Nat.le_trans Z0 K106q.1
      have O106 : Old Z n0 T106.heap := O0.keep K106q all0
      refine Go.via (fun _ => XS.iload X106r.here hx rfl (hb hby at_192) rfl) ?_
      refine Go.via (fun _ => XS.icmpNo X106r.here hx rfl (hb hby at_194) rfl (by decide)) ?_
      refine Go.via (fun _ => XS.iconst X106r.here hx rfl (hb hby at_197)) ?_
      refine Go.via (fun _ => XS.goto X106r.here hx rfl (pc0 := 198) (pc' := 202) rfl (hb hby at_198) (by decide) (by decide)) ?_
      show Go p e below _ (T106.setTop (mkF m 202 #[iv p1, iv p2, iv p3, iv p4, .val (.long p5), .second, iv (1 : Int32), rv bt, iv (1 : Int32), iv (1 : Int32), .unset, .unset, .unset, .unset, .unset] [(.int (1 : Int32))]))
      exact own_retNW X106r hS106 (Nat.le_refl _) hx hlk (t := .boolean) Bd.returns (by simp) (hb hby at_202) (by show Q0 Z p1 p2 p3 p4 p5 bt bf lc kL vs ccs h0 n0 _ T106.heap _; exact ⟨rfl, N106⟩) (by decide) (by decide)
  ·
    show Go p e below _ (s₁.setTop (mkF m 3 #[iv p1, iv p2, iv p3, iv p4, .val (.long p5), .second, .unset, .unset, .unset, .unset, .unset, .unset, .unset, .unset, .unset] [(.int (2 : Int32))]))
    refine Go.via (fun _ => XS.istore X0.here hx rfl (hb hby at_3) rfl (l' := #[iv p1, iv p2, iv p3, iv p4, .val (.long p5), .second, iv (2 : Int32), .unset, .unset, .unset, .unset, .unset, .unset, .unset, .unset]) rfl) ?_
    refine Go.via (fun _ => XS.iload X0.here hx rfl (hb hby at_5) rfl) ?_
    refine Go.via (fun _ => XS.ifYes X0.here hx rfl (pc0 := 7) (pc' := 19) rfl (hb hby at_7) rfl (by decide) (by decide) (by decide)) ?_
    refine Go.via (fun _ => XS.iload X0.here hx rfl (hb hby at_19) rfl) ?_
    refine Go.via (fun _ => XS.iconst X0.here hx rfl (hb hby at_21)) ?_
    show Go p e below _ (s₁.setTop (mkF m 22 #[iv p1, iv p2, iv p3, iv p4, .val (.long p5), .second, iv (2 : Int32), .unset, .unset, .unset, .unset, .unset, .unset, .unset, .unset] [(.int (1 : Int32)), (.int (2 : Int32))]))
    refine Go.via (fun _ => XS.icmpYes X0.here hx rfl (pc0 := 22) (pc' := 55) rfl (hb hby at_22) rfl (by decide) (by decide) (by decide)) ?_
    refine Go.via (fun _ => XS.iload X0.here hx rfl (hb hby at_55) rfl) ?_
    refine Go.via (fun _ => XS.iconst X0.here hx rfl (hb hby at_57)) ?_
    refine Go.via (fun _ => XS.icmpNo X0.here hx rfl (hb hby at_58) rfl (by decide)) ?_
    refine Go.via (fun _ => XS.lload X0.here hx rfl (hb hby at_61) rfl) ?_
    obtain ⟨_, _, ⟨T107, L107, k107, n107⟩, -, X107, ⟨Lc107, hQ107, l107, y107, z107⟩, st107⟩ := Jvm.LawKit.callS X0 hx (y := (⟨"java/lang/Long", "valueOf", "(J)Ljava/lang/Long;"⟩ : MethodName)) hown (mvT hZ (ow hw 24 rfl)) (mvT hZ (ow hw 25 rfl)) (mvT hZ (ow hw 26 rfl)) (mvT hZ (ow hw 27 rfl)) (by decide) (backOf (W := 0) (rmLV l Z a0 hw [] p5 lc kL vs h0 n0 Z0 O0 S_L VC hel) hZ (ow hw 27 rfl) (ow hw 26 rfl) (by decide) (by decide)) (g := (mkF m 63 #[iv p1, iv p2, iv p3, iv p4, .val (.long p5), .second, iv (2 : Int32), .unset, .unset, .unset, .unset, .unset, .unset, .unset, .unset] [(.long p5)])) rfl (by rw [hml]; rfl) (argsL := [(.long p5)]) (rest := []) (lenOf pd_11 rfl) rfl (by show 2 * 0 + _ ≤ _; exact Nat.le_of_eq rfl) (hb hby at_63) (fun _ _ => ⟨rfl, e0, (by decide : 0 + 1 ≤ _), (by decide : 0 + 1 ≤ _)⟩)
    dsimp only [Pt.U, Pt.locs, Pt.cells, Pt.slots] at X107 l107 y107 z107 st107 hQ107
    rw [l107, y107, z107] at X107
    replace X107 : Stand p l e _ _ m _ below meth c T107 _ 1 1 := X107
    obtain ⟨bl107, rfl, N107q, K107q, el107⟩ := hQ107
    have N107 := Fr.app N0 N107q
    refine Go.via st107 ?_
    have Zs107 : n0 ≤ T107.heap.size := Nat.le_trans Z0 K107q.1
    have hk107 : 0 ≤ T107.heap.size := Nat.le_trans hk0 K107q.1
    have R107 : CHr Z consts_1 s.vm h0 s.vm T107.heap := R0.trans (CHr.keep K107q all0 R0.1)
    have O107 : Old Z n0 T107.heap := O0.keep K107q all0
    show Go p e below _ (T107.setTop (mkF m 66 #[iv p1, iv p2, iv p3, iv p4, .val (.long p5), .second, iv (2 : Int32), .unset, .unset, .unset, .unset, .unset, .unset, .unset, .unset] [(.ref bl107)]))
    refine Go.via (fun _ => XS.astore X107.here hx rfl (hb hby at_66) rfl rfl (l' := #[iv p1, iv p2, iv p3, iv p4, .val (.long p5), .second, iv (2 : Int32), rv bl107, .unset, .unset, .unset, .unset, .unset, .unset, .unset]) rfl) ?_
    refine Go.via (fun _ => XS.iconst X107.here hx rfl (hb hby at_68)) ?_
    refine Go.via (fun _ => XS.istore X107.here hx rfl (hb hby at_69) rfl (l' := #[iv p1, iv p2, iv p3, iv p4, .val (.long p5), .second, iv (2 : Int32), rv bl107, iv (0 : Int32), .unset, .unset, .unset, .unset, .unset, .unset]) rfl) ?_
    refine Go.via (fun _ => XS.goto X107.here hx rfl (pc0 := 71) (pc' := 187) rfl (hb hby at_71) (by decide) (by decide)) ?_
    refine Go.via (fun _ => XS.aload X107.here hx rfl (hb hby at_187) rfl rfl) ?_
    obtain ⟨_, _, ⟨T108, L108, k108, n108⟩, -, X108, S108w, gr108, ⟨Lc108, hQ108, l108, y108, z108, cr108⟩, st108⟩ := callSS X107 hx (y := (⟨"com/example/sluice/sluice/expression/Values", "isTrue", "(Ljava/lang/Object;)Z"⟩ : MethodName)) hown (mvT hZ (ow hw 0 rfl)) (mvT hZ (ow hw 1 rfl)) (mvT hZ (ow hw 2 rfl)) (mvT hZ (ow hw 3 rfl)) (by decide) (backOfSH (W := 0) (rmIT_L l Z a0 hw [] bt bl107 ccs T107.heap n0 Zs107 hEW S_T (E_T.ext O107.2) (F_T.ext O107.2) el107 O107 S_CS hcs) hZ (ow hw 3 rfl) (ow hw 2 rfl) (by decide) (by decide) hEW R107.1) (g := (mkF m 189 #[iv p1, iv p2, iv p3, iv p4, .val (.long p5), .second, iv (2 : Int32), rv bl107, iv (0 : Int32), .unset, .unset, .unset, .unset, .unset, .unset] [(.ref bl107)])) rfl (by rw [hml]; rfl) (argsL := [(.ref bl107)]) (rest := []) (lenOf pd_2 rfl) rfl (by show 2 * 0 + _ ≤ _; exact Nat.le_of_eq rfl) (hb hby at_189) (fun _ _ => ⟨rfl, rfl, (by decide : 1 + 2 ≤ _), (by decide : 1 + 20 ≤ _)⟩)
    dsimp only [Pt.U, Pt.locs, Pt.cells, Pt.slots] at X108 l108 y108 z108 st108 hQ108 S108w gr108 cr108
    rw [l108, y108, z108] at X108
    replace X108 : Stand p l e _ _ m _ below meth c T108 _ 3 21 := X108
    obtain ⟨rfl, N108q, K108q⟩ := hQ108
    have N108 := Fr.app N107 N108q
    refine Go.tr st108 ?_
    obtain ⟨X108r, hS108, hZ108, hown108⟩ := rebS hS0 (hk107) X108 S108w gr108 hZ hown
    have R108 : CHr Z consts_1 s.vm h0 T108.vm T108.heap := R107.trans cr108
    have Zs108 : n0 ≤ T108.heap.size := Nat.le_trans Zs107 K108q.1
    have O108 : Old Z n0 T108.heap := O107.keep K108q all0
    have fE_bl107_108 := el107.keep K108q
    show Go p e below _ (T108.setTop (mkF m 192 #[iv p1, iv p2, iv p3, iv p4, .val (.long p5), .second, iv (2 : Int32), rv bl107, iv (0 : Int32), .unset, .unset, .unset, .unset, .unset, .unset] [(.int (0 : Int32))]))
    refine Go.via (fun _ => XS.iload X108r.here hx rfl (hb hby at_192) rfl) ?_
    refine Go.via (fun _ => XS.icmpNo X108r.here hx rfl (hb hby at_194) rfl (by decide)) ?_
    refine Go.via (fun _ => XS.iconst X108r.here hx rfl (hb hby at_197)) ?_
    refine Go.via (fun _ => XS.goto X108r.here hx rfl (pc0 := 198) (pc' := 202) rfl (hb hby at_198) (by decide) (by decide)) ?_
    exact own_retNW X108r hS108 (Nat.le_refl _) hx hlk (t := .boolean) Bd.returns (by simp) (hb hby at_202) (by show Q0 Z p1 p2 p3 p4 p5 bt bf lc kL vs ccs h0 n0 _ T108.heap _; exact ⟨rfl, N108⟩) (by decide) (by decide)
  ·
    show Go p e below _ (s₁.setTop (mkF m 3 #[iv p1, iv p2, iv p3, iv p4, .val (.long p5), .second, .unset, .unset, .unset, .unset, .unset, .unset, .unset, .unset, .unset] [(.int (3 : Int32))]))
    refine Go.via (fun _ => XS.istore X0.here hx rfl (hb hby at_3) rfl (l' := #[iv p1, iv p2, iv p3, iv p4, .val (.long p5), .second, iv (3 : Int32), .unset, .unset, .unset, .unset, .unset, .unset, .unset, .unset]) rfl) ?_
    refine Go.via (fun _ => XS.iload X0.here hx rfl (hb hby at_5) rfl) ?_
    refine Go.via (fun _ => XS.ifYes X0.here hx rfl (pc0 := 7) (pc' := 19) rfl (hb hby at_7) rfl (by decide) (by decide) (by decide)) ?_
    refine Go.via (fun _ => XS.iload X0.here hx rfl (hb hby at_19) rfl) ?_
    refine Go.via (fun _ => XS.iconst X0.here hx rfl (hb hby at_21)) ?_
    show Go p e below _ (s₁.setTop (mkF m 22 #[iv p1, iv p2, iv p3, iv p4, .val (.long p5), .second, iv (3 : Int32), .unset, .unset, .unset, .unset, .unset, .unset, .unset, .unset] [(.int (1 : Int32)), (.int (3 : Int32))]))
    refine Go.via (fun _ => XS.icmpYes X0.here hx rfl (pc0 := 22) (pc' := 55) rfl (hb hby at_22) rfl (by decide) (by decide) (by decide)) ?_
    refine Go.via (fun _ => XS.iload X0.here hx rfl (hb hby at_55) rfl) ?_
    refine Go.via (fun _ => XS.iconst X0.here hx rfl (hb hby at_57)) ?_
    refine Go.via (fun _ => XS.icmpYes X0.here hx rfl (pc0 := 58) (pc' := 74) rfl (hb hby at_58) rfl (by decide) (by decide) (by decide)) ?_
    refine Go.via (fun _ => XS.iloadN X0.here hx rfl (hb hby at_74) rfl) ?_
    refine Go.via (fun _ => XS.sipush X0.here hx rfl (hb hby at_75)) ?_
    show Go p e below _ (s₁.setTop (mkF m 78 #[iv p1, iv p2, iv p3, iv p4, .val (.long p5), .second, iv (3 : Int32), .unset, .unset, .unset, .unset, .unset, .unset, .unset, .unset] [(.int (255 : Int32)), (.int p2)]))
    refine Go.via (fun _ => XS.iand X0.here hx rfl (hb hby at_78) rfl) ?_
    refine Go.via (fun _ => XS.i2c X0.here hx rfl (hb hby at_79) rfl) ?_
    show Go p e below _ (s₁.setTop (mkF m 80 #[iv p1, iv p2, iv p3, iv p4, .val (.long p5), .second, iv (3 : Int32), .unset, .unset, .unset, .unset, .unset, .unset, .unset, .unset] [(.int ((p2 &&& (255 : Int32)).toUInt32.toUInt16.toUInt32.toInt32))]))
    have r_z0 := own_m8 p2
    generalize hz0 : ((p2 &&& (255 : Int32)).toUInt32.toUInt16.toUInt32.toInt32) = z0 at r_z0 ⊢
    show Go p e below _ (s₁.setTop (mkF m 80 #[iv p1, iv p2, iv p3, iv p4, .val (.long p5), .second, iv (3 : Int32), .unset, .unset, .unset, .unset, .unset, .unset, .unset, .unset] [(.int z0)]))
    refine Go.via (fun _ => XS.istore X0.here hx rfl (hb hby at_80) rfl (l' := #[iv p1, iv p2, iv p3, iv p4, .val (.long p5), .second, iv (3 : Int32), .unset, .unset, iv z0, .unset, .unset, .unset, .unset, .unset]) rfl) ?_
    refine Go.via (fun _ => XS.iloadN X0.here hx rfl (hb hby at_82) rfl) ?_
    show Go p e below _ (s₁.setTop (mkF m 83 #[iv p1, iv p2, iv p3, iv p4, .val (.long p5), .second, iv (3 : Int32), .unset, .unset, iv z0, .unset, .unset, .unset, .unset, .unset] [(.int p2)]))
    refine Go.via (fun _ => XS.bipush X0.here hx rfl (hb hby at_83)) ?_
    refine Go.via (fun _ => XS.iushr X0.here hx rfl (hb hby at_85) rfl) ?_
    refine Go.via (fun _ => XS.sipush X0.here hx rfl (hb hby at_86)) ?_
    refine Go.via (fun _ => XS.iand X0.here hx rfl (hb hby at_89) rfl) ?_
    refine Go.via (fun _ => XS.i2c X0.here hx rfl (hb hby at_90) rfl) ?_
    show Go p e below _ (s₁.setTop (mkF m 91 #[iv p1, iv p2, iv p3, iv p4, .val (.long p5), .second, iv (3 : Int32), .unset, .unset, iv z0, .unset, .unset, .unset, .unset, .unset] [(.int ((((p2.toUInt32 >>> ((8 : Int32) &&& 31).toUInt32).toInt32) &&& (255 : Int32)).toUInt32.toUInt16.toUInt32.toInt32))]))
    have r_z1 := own_m8 ((p2.toUInt32 >>> ((8 : Int32) &&& 31).toUInt32).toInt32)
    generalize hz1 : ((((p2.toUInt32 >>> ((8 : Int32) &&& 31).toUInt32).toInt32) &&& (255 : Int32)).toUInt32.toUInt16.toUInt32.toInt32) = z1 at r_z1 ⊢
    show Go p e below _ (s₁.setTop (mkF m 91 #[iv p1, iv p2, iv p3, iv p4, .val (.long p5), .second, iv (3 : Int32), .unset, .unset, iv z0, .unset, .unset, .unset, .unset, .unset] [(.int z1)]))
    refine Go.via (fun _ => XS.istore X0.here hx rfl (hb hby at_91) rfl (l' := #[iv p1, iv p2, iv p3, iv p4, .val (.long p5), .second, iv (3 : Int32), .unset, .unset, iv z0, iv z1, .unset, .unset, .unset, .unset]) rfl) ?_
    refine Go.via (fun _ => XS.iloadN X0.here hx rfl (hb hby at_93) rfl) ?_
    refine Go.via (fun _ => XS.sipush X0.here hx rfl (hb hby at_94)) ?_
    refine Go.via (fun _ => XS.iand X0.here hx rfl (hb hby at_97) rfl) ?_
    refine Go.via (fun _ => XS.i2c X0.here hx rfl (hb hby at_98) rfl) ?_
    show Go p e below _ (s₁.setTop (mkF m 99 #[iv p1, iv p2, iv p3, iv p4, .val (.long p5), .second, iv (3 : Int32), .unset, .unset, iv z0, iv z1, .unset, .unset, .unset, .unset] [(.int ((p3 &&& (255 : Int32)).toUInt32.toUInt16.toUInt32.toInt32))]))
    show Go p e below _ (s₁.setTop (mkF m 99 #[iv p1, iv p2, iv p3, iv p4, .val (.long p5), .second, iv (3 : Int32), .unset, .unset, iv z0, iv z1, .unset, .unset, .unset, .unset] [(.int ((p3 &&& (255 : Int32)).toUInt32.toUInt16.toUInt32.toInt32))]))
    have r_z2 := own_m8 p3
    generalize hz2 : ((p3 &&& (255 : Int32)).toUInt32.toUInt16.toUInt32.toInt32) = z2 at r_z2 ⊢
    show Go p e below _ (s₁.setTop (mkF m 99 #[iv p1, iv p2, iv p3, iv p4, .val (.long p5), .second, iv (3 : Int32), .unset, .unset, iv z0, iv z1, .unset, .unset, .unset, .unset] [(.int z2)]))
    refine Go.via (fun _ => XS.istore X0.here hx rfl (hb hby at_99) rfl (l' := #[iv p1, iv p2, iv p3, iv p4, .val (.long p5), .second, iv (3 : Int32), .unset, .unset, iv z0, iv z1, iv z2, .unset, .unset, .unset]) rfl) ?_
    refine Go.via (fun _ => XS.iloadN X0.here hx rfl (hb hby at_101) rfl) ?_
    refine Go.via (fun _ => XS.bipush X0.here hx rfl (hb hby at_102)) ?_
    refine Go.via (fun _ => XS.iushr X0.here hx rfl (hb hby at_104) rfl) ?_
    show Go p e below _ (s₁.setTop (mkF m 105 #[iv p1, iv p2, iv p3, iv p4, .val (.long p5), .second, iv (3 : Int32), .unset, .unset, iv z0, iv z1, iv z2, .unset, .unset, .unset] [(.int ((p3.toUInt32 >>> ((8 : Int32) &&& 31).toUInt32).toInt32))]))
    refine Go.via (fun _ => XS.sipush X0.here hx rfl (hb hby at_105)) ?_
    refine Go.via (fun _ => XS.iand X0.here hx rfl (hb hby at_108) rfl) ?_
    refine Go.via (fun _ => XS.i2c X0.here hx rfl (hb hby at_109) rfl) ?_
    show Go p e below _ (s₁.setTop (mkF m 110 #[iv p1, iv p2, iv p3, iv p4, .val (.long p5), .second, iv (3 : Int32), .unset, .unset, iv z0, iv z1, iv z2, .unset, .unset, .unset] [(.int ((((p3.toUInt32 >>> ((8 : Int32) &&& 31).toUInt32).toInt32) &&& (255 : Int32)).toUInt32.toUInt16.toUInt32.toInt32))]))
    have r_z3 := own_m8 ((p3.toUInt32 >>> ((8 : Int32) &&& 31).toUInt32).toInt32)
    generalize hz3 : ((((p3.toUInt32 >>> ((8 : Int32) &&& 31).toUInt32).toInt32) &&& (255 : Int32)).toUInt32.toUInt16.toUInt32.toInt32) = z3 at r_z3 ⊢
    show Go p e below _ (s₁.setTop (mkF m 110 #[iv p1, iv p2, iv p3, iv p4, .val (.long p5), .second, iv (3 : Int32), .unset, .unset, iv z0, iv z1, iv z2, .unset, .unset, .unset] [(.int z3)]))
    refine Go.via (fun _ => XS.istore X0.here hx rfl (hb hby at_110) rfl (l' := #[iv p1, iv p2, iv p3, iv p4, .val (.long p5), .second, iv (3 : Int32), .unset, .unset, iv z0, iv z1, iv z2, iv z3, .unset, .unset]) rfl) ?_
    show Go p e below _ (s₁.setTop (mkF m 112 #[iv p1, iv p2, iv p3, iv p4, .val (.long p5), .second, iv (3 : Int32), .unset, .unset, iv z0, iv z1, iv z2, iv z3, .unset, .unset] []))
    refine Go.via (fun _ => XS.iloadN X0.here hx rfl (hb hby at_112) rfl) ?_
    refine Go.via (fun _ => XS.sipush X0.here hx rfl (hb hby at_113)) ?_
    refine Go.via (fun _ => XS.iand X0.here hx rfl (hb hby at_116) rfl) ?_
    refine Go.via (fun _ => XS.i2c X0.here hx rfl (hb hby at_117) rfl) ?_
    show Go p e below _ (s₁.setTop (mkF m 118 #[iv p1, iv p2, iv p3, iv p4, .val (.long p5), .second, iv (3 : Int32), .unset, .unset, iv z0, iv z1, iv z2, iv z3, .unset, .unset] [(.int ((p4 &&& (255 : Int32)).toUInt32.toUInt16.toUInt32.toInt32))]))
    have r_z4 := own_m8 p4
    generalize hz4 : ((p4 &&& (255 : Int32)).toUInt32.toUInt16.toUInt32.toInt32) = z4 at r_z4 ⊢
    show Go p e below _ (s₁.setTop (mkF m 118 #[iv p1, iv p2, iv p3, iv p4, .val (.long p5), .second, iv (3 : Int32), .unset, .unset, iv z0, iv z1, iv z2, iv z3, .unset, .unset] [(.int z4)]))
    refine Go.via (fun _ => XS.istore X0.here hx rfl (hb hby at_118) rfl (l' := #[iv p1, iv p2, iv p3, iv p4, .val (.long p5), .second, iv (3 : Int32), .unset, .unset, iv z0, iv z1, iv z2, iv z3, iv z4, .unset]) rfl) ?_
    refine Go.via (fun _ => XS.iloadN X0.here hx rfl (hb hby at_120) rfl) ?_
    refine Go.via (fun _ => XS.bipush X0.here hx rfl (hb hby at_121)) ?_
    refine Go.via (fun _ => XS.iushr X0.here hx rfl (hb hby at_123) rfl) ?_
    refine Go.via (fun _ => XS.bipush X0.here hx rfl (hb hby at_124)) ?_
    refine Go.via (fun _ => iremM X0 hx rfl (hb hby at_126) rfl (by decide)) ?_
    show Go p e below _ (s₁.setTop (mkF m 127 #[iv p1, iv p2, iv p3, iv p4, .val (.long p5), .second, iv (3 : Int32), .unset, .unset, iv z0, iv z1, iv z2, iv z3, iv z4, .unset] [(.int (((p4.toUInt32 >>> ((8 : Int32) &&& 31).toUInt32).toInt32) % (6 : Int32)))]))
    show Go p e below _ (s₁.setTop (mkF m 127 #[iv p1, iv p2, iv p3, iv p4, .val (.long p5), .second, iv (3 : Int32), .unset, .unset, iv z0, iv z1, iv z2, iv z3, iv z4, .unset] [(.int (((p4.toUInt32 >>> ((8 : Int32) &&& 31).toUInt32).toInt32) % (6 : Int32)))]))
    have hn := own_6 p4.toUInt32
    generalize hnn : (((p4.toUInt32 >>> ((8 : Int32) &&& 31).toUInt32).toInt32) % (6 : Int32)) = nx at hn ⊢
    rcases hn with rfl | rfl | rfl | rfl | rfl | rfl
    ·
      show Go p e below _ (s₁.setTop (mkF m 127 #[iv p1, iv p2, iv p3, iv p4, .val (.long p5), .second, iv (3 : Int32), .unset, .unset, iv z0, iv z1, iv z2, iv z3, iv z4, .unset] [(.int (0 : Int32))]))
      refine Go.via (fun _ => XS.istore X0.here hx rfl (hb hby at_127) rfl (l' := #[iv p1, iv p2, iv p3, iv p4, .val (.long p5), .second, iv (3 : Int32), .unset, .unset, iv z0, iv z1, iv z2, iv z3, iv z4, iv (0 : Int32)]) rfl) ?_
      refine Go.via (fun _ => XS.iload X0.here hx rfl (hb hby at_129) rfl) ?_
      refine Go.via (fun _ => XS.iload X0.here hx rfl (hb hby at_131) rfl) ?_
      show Go p e below _ (s₁.setTop (mkF m 133 #[iv p1, iv p2, iv p3, iv p4, .val (.long p5), .second, iv (3 : Int32), .unset, .unset, iv z0, iv z1, iv z2, iv z3, iv z4, iv (0 : Int32)] [(.int z0), (.int (0 : Int32))]))
      refine Go.via (fun _ => XS.iload X0.here hx rfl (hb hby at_133) rfl) ?_
      refine Go.via (fun _ => XS.iload X0.here hx rfl (hb hby at_135) rfl) ?_
      refine Go.via (fun _ => XS.iload X0.here hx rfl (hb hby at_137) rfl) ?_
      refine Go.via (fun _ => XS.iload X0.here hx rfl (hb hby at_139) rfl) ?_
      obtain ⟨_, _, ⟨T109, L109, k109, n109⟩, -, X109, S109w, gr109, ⟨Lc109, hQ109, l109, y109, z109, cr109⟩, st109⟩ := callSS X0 hx (y := (⟨"com/example/sluice/sluice/expression/ValuesIsTruePinLaw", "text", "(ICCCCC)Ljava/lang/String;"⟩ : MethodName)) hown (mvT hZ (ow hw 64 rfl)) (mvT hZ (ow hw 65 rfl)) (mvT hZ (ow hw 66 rfl)) (mvT hZ (ow hw 67 rfl)) (by decide) (backOfSH (W := 0) (rmTX_0 l Z a0 hw [] z0 z1 z2 z3 z4 ccs h0 n0 Z0 hEW   O0 S_CS hcs) hZ (ow hw 67 rfl) (ow hw 66 rfl) (by decide) (by decide) hEW R0.1) (g := (mkF m 141 #[iv p1, iv p2, iv p3, iv p4, .val (.long p5), .second, iv (3 : Int32), .unset, .unset, iv z0, iv z1, iv z2, iv z3, iv z4, iv (0 : Int32)] [(.int z4), (.int z3), (.int z2), (.int z1), (.int z0), (.int (0 : Int32))])) rfl (by rw [hml]; rfl) (argsL := [(.int (0 : Int32)), (.int z0), (.int z1), (.int z2), (.int z3), (.int z4)]) (rest := []) (lenOf pd_12 rfl) rfl (by show 2 * 0 + _ ≤ _; exact Nat.le_of_eq rfl) (hb hby at_141) (fun _ _ => ⟨rfl, e0, (by decide : 0 + 6 ≤ _), (by decide : 0 + 12 ≤ _)⟩)
      dsimp only [Pt.U, Pt.locs, Pt.cells, Pt.slots] at X109 l109 y109 z109 st109 hQ109 S109w gr109 cr109
      rw [l109, y109, z109] at X109
      replace X109 : Stand p l e _ _ m _ below meth c T109 _ 6 12 := X109
      obtain ⟨ta109, tt109, tk109, rfl, N109q, K109q, te109, tv109, tc109, tw109⟩ := hQ109
      have N109 := Fr.app N0 N109q
      refine Go.tr st109 ?_
      obtain ⟨X109r, hS109, hZ109, hown109⟩ := rebS hS0 (by rw [e0]; exact hk0) X109 S109w gr109 hZ hown
      have R109 : CHr Z consts_1 s.vm h0 T109.vm T109.heap := R0.trans cr109
      have Zs109 : n0 ≤ T109.heap.size := Nat.le_trans Z0 K109q.1
      have O109 : Old Z n0 T109.heap := O0.keep K109q all0
      refine Go.via (fun _ => XS.astore X109r.here hx rfl (hb hby at_144) rfl rfl (l' := #[iv p1, iv p2, iv p3, iv p4, .val (.long p5), .second, iv (3 : Int32), rv ta109, .unset, iv z0, iv z1, iv z2, iv z3, iv z4, iv (0 : Int32)]) rfl) ?_
      show Go p e below _ (T109.setTop (mkF m 146 #[iv p1, iv p2, iv p3, iv p4, .val (.long p5), .second, iv (3 : Int32), rv ta109, .unset, iv z0, iv z1, iv z2, iv z3, iv z4, iv (0 : Int32)] []))
      refine Go.via (fun _ => XS.iload X109r.here hx rfl (hb hby at_146) rfl) ?_
      refine Go.via (fun _ => XS.iconst X109r.here hx rfl (hb hby at_148)) ?_
      refine Go.via (fun _ => XS.icmpYes X109r.here hx rfl (pc0 := 149) (pc' := 184) rfl (hb hby at_149) rfl (by decide) (by decide) (by decide)) ?_
      refine Go.via (fun _ => XS.iconst X109r.here hx rfl (hb hby at_184)) ?_
      refine Go.via (fun _ => XS.istore X109r.here hx rfl (hb hby at_185) rfl (l' := #[iv p1, iv p2, iv p3, iv p4, .val (.long p5), .second, iv (3 : Int32), rv ta109, iv (0 : Int32), iv z0, iv z1, iv z2, iv z3, iv z4, iv (0 : Int32)]) rfl) ?_
      refine Go.via (fun _ => XS.aload X109r.here hx rfl (hb hby at_187) rfl rfl) ?_
      show Go p e below _ (T109.setTop (mkF m 189 #[iv p1, iv p2, iv p3, iv p4, .val (.long p5), .second, iv (3 : Int32), rv ta109, iv (0 : Int32), iv z0, iv z1, iv z2, iv z3, iv z4, iv (0 : Int32)] [(.ref ta109)]))
      obtain ⟨_, _, ⟨T110, L110, k110, n110⟩, -, X110, S110w, gr110, ⟨Lc110, hQ110, l110, y110, z110, cr110⟩, st110⟩ := callSS X109r hx (y := (⟨"com/example/sluice/sluice/expression/Values", "isTrue", "(Ljava/lang/Object;)Z"⟩ : MethodName)) hown109 (mvT hZ109 (ow hw 0 rfl)) (mvT hZ109 (ow hw 1 rfl)) (mvT hZ109 (ow hw 2 rfl)) (mvT hZ109 (ow hw 3 rfl)) (by decide) (backOfSH (W := 0) (rmIT_S0 l Z a0 hw [] bt ta109 tt109 tk109 (0 : Int32) _ ccs T109.heap n0 Zs109 hEW S_T (E_T.ext O109.2) (F_T.ext O109.2) te109 tv109 tc109 tw109 (by decide) O109 S_CS hcs) hZ109 (ow hw 3 rfl) (ow hw 2 rfl) (by decide) (by decide) hEW R109.1) (g := (mkF m 189 #[iv p1, iv p2, iv p3, iv p4, .val (.long p5), .second, iv (3 : Int32), rv ta109, iv (0 : Int32), iv z0, iv z1, iv z2, iv z3, iv z4, iv (0 : Int32)] [(.ref ta109)])) rfl (by rw [hml]; rfl) (argsL := [(.ref ta109)]) (rest := []) (lenOf pd_2 rfl) rfl (by show 2 * 0 + _ ≤ _; exact Nat.le_of_eq rfl) (hb hby at_189) (fun _ _ => ⟨rfl, rfl, (by decide : 6 + 2 ≤ _), (by decide : 12 + 20 ≤ _)⟩)
      dsimp only [Pt.U, Pt.locs, Pt.cells, Pt.slots] at X110 l110 y110 z110 st110 hQ110 S110w gr110 cr110
      rw [l110, y110, z110] at X110
      replace X110 : Stand p l e _ _ m _ below meth c T110 _ 8 32 := X110
      obtain ⟨rfl, N110q, K110q⟩ := hQ110
      have N110 := Fr.app N109 N110q
      refine Go.tr st110 ?_
      obtain ⟨X110r, hS110, hZ110, hown110⟩ := rebS hS109 ((Nat.le_refl _)) X110 S110w gr110 hZ109 hown109
      have R110 : CHr Z consts_1 s.vm h0 T110.vm T110.heap := R109.trans cr110
      have Zs110 : n0 ≤ T110.heap.size := Nat.le_trans Zs109 K110q.1
      have O110 : Old Z n0 T110.heap := O109.keep K110q all0
      have fE_ta109_110 := te109.keep K110q
      have fF_ta109_value_110 := tv109.keep K110q nin0
      have fF_ta109_coder_110 := tc109.keep K110q nin0
      have fV_tt109_110 := tw109.keep K110q nin0
      refine Go.via (fun _ => XS.iload X110r.here hx rfl (hb hby at_192) rfl) ?_
      refine Go.via (fun _ => XS.icmpNo X110r.here hx rfl (hb hby at_194) rfl (by decide)) ?_
      refine Go.via (fun _ => XS.iconst X110r.here hx rfl (hb hby at_197)) ?_
      refine Go.via (fun _ => XS.goto X110r.here hx rfl (pc0 := 198) (pc' := 202) rfl (hb hby at_198) (by decide) (by decide)) ?_
      exact own_retNW X110r hS110 (Nat.le_refl _) hx hlk (t := .boolean) Bd.returns (by simp) (hb hby at_202) (by show Q0 Z p1 p2 p3 p4 p5 bt bf lc kL vs ccs h0 n0 _ T110.heap _; exact ⟨rfl, N110⟩) (by decide) (by decide)
    ·
      show Go p e below _ (s₁.setTop (mkF m 127 #[iv p1, iv p2, iv p3, iv p4, .val (.long p5), .second, iv (3 : Int32), .unset, .unset, iv z0, iv z1, iv z2, iv z3, iv z4, .unset] [(.int (1 : Int32))]))
      refine Go.via (fun _ => XS.istore X0.here hx rfl (hb hby at_127) rfl (l' := #[iv p1, iv p2, iv p3, iv p4, .val (.long p5), .second, iv (3 : Int32), .unset, .unset, iv z0, iv z1, iv z2, iv z3, iv z4, iv (1 : Int32)]) rfl) ?_
      refine Go.via (fun _ => XS.iload X0.here hx rfl (hb hby at_129) rfl) ?_
      refine Go.via (fun _ => XS.iload X0.here hx rfl (hb hby at_131) rfl) ?_
      show Go p e below _ (s₁.setTop (mkF m 133 #[iv p1, iv p2, iv p3, iv p4, .val (.long p5), .second, iv (3 : Int32), .unset, .unset, iv z0, iv z1, iv z2, iv z3, iv z4, iv (1 : Int32)] [(.int z0), (.int (1 : Int32))]))
      refine Go.via (fun _ => XS.iload X0.here hx rfl (hb hby at_133) rfl) ?_
      refine Go.via (fun _ => XS.iload X0.here hx rfl (hb hby at_135) rfl) ?_
      refine Go.via (fun _ => XS.iload X0.here hx rfl (hb hby at_137) rfl) ?_
      refine Go.via (fun _ => XS.iload X0.here hx rfl (hb hby at_139) rfl) ?_
      obtain ⟨_, _, ⟨T111, L111, k111, n111⟩, -, X111, ⟨Lc111, hQ111, l111, y111, z111⟩, st111⟩ := Jvm.LawKit.callS X0 hx (y := (⟨"com/example/sluice/sluice/expression/ValuesIsTruePinLaw", "text", "(ICCCCC)Ljava/lang/String;"⟩ : MethodName)) hown (mvT hZ (ow hw 64 rfl)) (mvT hZ (ow hw 65 rfl)) (mvT hZ (ow hw 66 rfl)) (mvT hZ (ow hw 67 rfl)) (by decide) (backOf (W := 0) (rmTX_1 l Z a0 hw [] z0 z1 z2 z3 z4 ccs h0 n0 Z0 r_z0.2.1 r_z0.2.2 O0 S_CS hcs) hZ (ow hw 67 rfl) (ow hw 66 rfl) (by decide) (by decide)) (g := (mkF m 141 #[iv p1, iv p2, iv p3, iv p4, .val (.long p5), .second, iv (3 : Int32), .unset, .unset, iv z0, iv z1, iv z2, iv z3, iv z4, iv (1 : Int32)] [(.int z4), (.int z3), (.int z2), (.int z1), (.int z0), (.int (1 : Int32))])) rfl (by rw [hml]; rfl) (argsL := [(.int (1 : Int32)), (.int z0), (.int z1), (.int z2), (.int z3), (.int z4)]) (rest := []) (lenOf pd_12 rfl) rfl (by show 2 * 0 + _ ≤ _; exact Nat.le_of_eq rfl) (hb hby at_141) (fun _ _ => ⟨rfl, e0, (by decide : 0 + 3 ≤ _), (by decide : 0 + 6 ≤ _)⟩)
      dsimp only [Pt.U, Pt.locs, Pt.cells, Pt.slots] at X111 l111 y111 z111 st111 hQ111
      rw [l111, y111, z111] at X111
      replace X111 : Stand p l e _ _ m _ below meth c T111 _ 3 6 := X111
      obtain ⟨ta111, tt111, tk111, rfl, N111q, K111q, te111, tv111, tc111, tw111⟩ := hQ111
      have N111 := Fr.app N0 N111q
      refine Go.via st111 ?_
      have Zs111 : n0 ≤ T111.heap.size := Nat.le_trans Z0 K111q.1
      have hk111 : 0 ≤ T111.heap.size := Nat.le_trans hk0 K111q.1
      have R111 : CHr Z consts_1 s.vm h0 s.vm T111.heap := R0.trans (CHr.keep K111q all0 R0.1)
      have O111 : Old Z n0 T111.heap := O0.keep K111q all0
      refine Go.via (fun _ => XS.astore X111.here hx rfl (hb hby at_144) rfl rfl (l' := #[iv p1, iv p2, iv p3, iv p4, .val (.long p5), .second, iv (3 : Int32), rv ta111, .unset, iv z0, iv z1, iv z2, iv z3, iv z4, iv (1 : Int32)]) rfl) ?_
      show Go p e below _ (T111.setTop (mkF m 146 #[iv p1, iv p2, iv p3, iv p4, .val (.long p5), .second, iv (3 : Int32), rv ta111, .unset, iv z0, iv z1, iv z2, iv z3, iv z4, iv (1 : Int32)] []))
      refine Go.via (fun _ => XS.iload X111.here hx rfl (hb hby at_146) rfl) ?_
      refine Go.via (fun _ => XS.iconst X111.here hx rfl (hb hby at_148)) ?_
      refine Go.via (fun _ => XS.icmpYes X111.here hx rfl (pc0 := 149) (pc' := 184) rfl (hb hby at_149) rfl (by decide) (by decide) (by decide)) ?_
      refine Go.via (fun _ => XS.iconst X111.here hx rfl (hb hby at_184)) ?_
      refine Go.via (fun _ => XS.istore X111.here hx rfl (hb hby at_185) rfl (l' := #[iv p1, iv p2, iv p3, iv p4, .val (.long p5), .second, iv (3 : Int32), rv ta111, iv (0 : Int32), iv z0, iv z1, iv z2, iv z3, iv z4, iv (1 : Int32)]) rfl) ?_
      refine Go.via (fun _ => XS.aload X111.here hx rfl (hb hby at_187) rfl rfl) ?_
      show Go p e below _ (T111.setTop (mkF m 189 #[iv p1, iv p2, iv p3, iv p4, .val (.long p5), .second, iv (3 : Int32), rv ta111, iv (0 : Int32), iv z0, iv z1, iv z2, iv z3, iv z4, iv (1 : Int32)] [(.ref ta111)]))
      obtain ⟨_, _, ⟨T112, L112, k112, n112⟩, -, X112, S112w, gr112, ⟨Lc112, hQ112, l112, y112, z112, cr112⟩, st112⟩ := callSS X111 hx (y := (⟨"com/example/sluice/sluice/expression/Values", "isTrue", "(Ljava/lang/Object;)Z"⟩ : MethodName)) hown (mvT hZ (ow hw 0 rfl)) (mvT hZ (ow hw 1 rfl)) (mvT hZ (ow hw 2 rfl)) (mvT hZ (ow hw 3 rfl)) (by decide) (backOfSH (W := 0) (rmIT_S0 l Z a0 hw [] bt ta111 tt111 tk111 (1 : Int32) _ ccs T111.heap n0 Zs111 hEW S_T (E_T.ext O111.2) (F_T.ext O111.2) te111 tv111 tc111 tw111 (by decide) O111 S_CS hcs) hZ (ow hw 3 rfl) (ow hw 2 rfl) (by decide) (by decide) hEW R111.1) (g := (mkF m 189 #[iv p1, iv p2, iv p3, iv p4, .val (.long p5), .second, iv (3 : Int32), rv ta111, iv (0 : Int32), iv z0, iv z1, iv z2, iv z3, iv z4, iv (1 : Int32)] [(.ref ta111)])) rfl (by rw [hml]; rfl) (argsL := [(.ref ta111)]) (rest := []) (lenOf pd_2 rfl) rfl (by show 2 * 0 + _ ≤ _; exact Nat.le_of_eq rfl) (hb hby at_189) (fun _ _ => ⟨rfl, rfl, (by decide : 3 + 2 ≤ _), (by decide : 6 + 20 ≤ _)⟩)
      dsimp only [Pt.U, Pt.locs, Pt.cells, Pt.slots] at X112 l112 y112 z112 st112 hQ112 S112w gr112 cr112
      rw [l112, y112, z112] at X112
      replace X112 : Stand p l e _ _ m _ below meth c T112 _ 5 26 := X112
      obtain ⟨rfl, N112q, K112q⟩ := hQ112
      have N112 := Fr.app N111 N112q
      refine Go.tr st112 ?_
      obtain ⟨X112r, hS112, hZ112, hown112⟩ := rebS hS0 (hk111) X112 S112w gr112 hZ hown
      have R112 : CHr Z consts_1 s.vm h0 T112.vm T112.heap := R111.trans cr112
      have Zs112 : n0 ≤ T112.heap.size := Nat.le_trans Zs111 K112q.1
      have O112 : Old Z n0 T112.heap := O111.keep K112q all0
      have fE_ta111_112 := te111.keep K112q
      have fF_ta111_value_112 := tv111.keep K112q nin0
      have fF_ta111_coder_112 := tc111.keep K112q nin0
      have fV_tt111_112 := tw111.keep K112q nin0
      refine Go.via (fun _ => XS.iload X112r.here hx rfl (hb hby at_192) rfl) ?_
      refine Go.via (fun _ => XS.icmpNo X112r.here hx rfl (hb hby at_194) rfl (by decide)) ?_
      refine Go.via (fun _ => XS.iconst X112r.here hx rfl (hb hby at_197)) ?_
      refine Go.via (fun _ => XS.goto X112r.here hx rfl (pc0 := 198) (pc' := 202) rfl (hb hby at_198) (by decide) (by decide)) ?_
      exact own_retNW X112r hS112 (Nat.le_refl _) hx hlk (t := .boolean) Bd.returns (by simp) (hb hby at_202) (by show Q0 Z p1 p2 p3 p4 p5 bt bf lc kL vs ccs h0 n0 _ T112.heap _; exact ⟨rfl, N112⟩) (by decide) (by decide)
    ·
      show Go p e below _ (s₁.setTop (mkF m 127 #[iv p1, iv p2, iv p3, iv p4, .val (.long p5), .second, iv (3 : Int32), .unset, .unset, iv z0, iv z1, iv z2, iv z3, iv z4, .unset] [(.int (2 : Int32))]))
      refine Go.via (fun _ => XS.istore X0.here hx rfl (hb hby at_127) rfl (l' := #[iv p1, iv p2, iv p3, iv p4, .val (.long p5), .second, iv (3 : Int32), .unset, .unset, iv z0, iv z1, iv z2, iv z3, iv z4, iv (2 : Int32)]) rfl) ?_
      refine Go.via (fun _ => XS.iload X0.here hx rfl (hb hby at_129) rfl) ?_
      refine Go.via (fun _ => XS.iload X0.here hx rfl (hb hby at_131) rfl) ?_
      show Go p e below _ (s₁.setTop (mkF m 133 #[iv p1, iv p2, iv p3, iv p4, .val (.long p5), .second, iv (3 : Int32), .unset, .unset, iv z0, iv z1, iv z2, iv z3, iv z4, iv (2 : Int32)] [(.int z0), (.int (2 : Int32))]))
      refine Go.via (fun _ => XS.iload X0.here hx rfl (hb hby at_133) rfl) ?_
      refine Go.via (fun _ => XS.iload X0.here hx rfl (hb hby at_135) rfl) ?_
      refine Go.via (fun _ => XS.iload X0.here hx rfl (hb hby at_137) rfl) ?_
      refine Go.via (fun _ => XS.iload X0.here hx rfl (hb hby at_139) rfl) ?_
      obtain ⟨_, _, ⟨T113, L113, k113, n113⟩, -, X113, ⟨Lc113, hQ113, l113, y113, z113⟩, st113⟩ := Jvm.LawKit.callS X0 hx (y := (⟨"com/example/sluice/sluice/expression/ValuesIsTruePinLaw", "text", "(ICCCCC)Ljava/lang/String;"⟩ : MethodName)) hown (mvT hZ (ow hw 64 rfl)) (mvT hZ (ow hw 65 rfl)) (mvT hZ (ow hw 66 rfl)) (mvT hZ (ow hw 67 rfl)) (by decide) (backOf (W := 0) (rmTX_2 l Z a0 hw [] z0 z1 z2 z3 z4 ccs h0 n0 Z0 r_z0.2.1 r_z1.2.1 r_z0.2.2 r_z1.2.2 O0 S_CS hcs) hZ (ow hw 67 rfl) (ow hw 66 rfl) (by decide) (by decide)) (g := (mkF m 141 #[iv p1, iv p2, iv p3, iv p4, .val (.long p5), .second, iv (3 : Int32), .unset, .unset, iv z0, iv z1, iv z2, iv z3, iv z4, iv (2 : Int32)] [(.int z4), (.int z3), (.int z2), (.int z1), (.int z0), (.int (2 : Int32))])) rfl (by rw [hml]; rfl) (argsL := [(.int (2 : Int32)), (.int z0), (.int z1), (.int z2), (.int z3), (.int z4)]) (rest := []) (lenOf pd_12 rfl) rfl (by show 2 * 0 + _ ≤ _; exact Nat.le_of_eq rfl) (hb hby at_141) (fun _ _ => ⟨rfl, e0, (by decide : 0 + 3 ≤ _), (by decide : 0 + 8 ≤ _)⟩)
      dsimp only [Pt.U, Pt.locs, Pt.cells, Pt.slots] at X113 l113 y113 z113 st113 hQ113
      rw [l113, y113, z113] at X113
      replace X113 : Stand p l e _ _ m _ below meth c T113 _ 3 8 := X113
      obtain ⟨ta113, tt113, tk113, rfl, N113q, K113q, te113, tv113, tc113, tw113⟩ := hQ113
      have N113 := Fr.app N0 N113q
      refine Go.via st113 ?_
      have Zs113 : n0 ≤ T113.heap.size := Nat.le_trans Z0 K113q.1
      have hk113 : 0 ≤ T113.heap.size := Nat.le_trans hk0 K113q.1
      have R113 : CHr Z consts_1 s.vm h0 s.vm T113.heap := R0.trans (CHr.keep K113q all0 R0.1)
      have O113 : Old Z n0 T113.heap := O0.keep K113q all0
      refine Go.via (fun _ => XS.astore X113.here hx rfl (hb hby at_144) rfl rfl (l' := #[iv p1, iv p2, iv p3, iv p4, .val (.long p5), .second, iv (3 : Int32), rv ta113, .unset, iv z0, iv z1, iv z2, iv z3, iv z4, iv (2 : Int32)]) rfl) ?_
      show Go p e below _ (T113.setTop (mkF m 146 #[iv p1, iv p2, iv p3, iv p4, .val (.long p5), .second, iv (3 : Int32), rv ta113, .unset, iv z0, iv z1, iv z2, iv z3, iv z4, iv (2 : Int32)] []))
      refine Go.via (fun _ => XS.iload X113.here hx rfl (hb hby at_146) rfl) ?_
      refine Go.via (fun _ => XS.iconst X113.here hx rfl (hb hby at_148)) ?_
      refine Go.via (fun _ => XS.icmpYes X113.here hx rfl (pc0 := 149) (pc' := 184) rfl (hb hby at_149) rfl (by decide) (by decide) (by decide)) ?_
      refine Go.via (fun _ => XS.iconst X113.here hx rfl (hb hby at_184)) ?_
      refine Go.via (fun _ => XS.istore X113.here hx rfl (hb hby at_185) rfl (l' := #[iv p1, iv p2, iv p3, iv p4, .val (.long p5), .second, iv (3 : Int32), rv ta113, iv (0 : Int32), iv z0, iv z1, iv z2, iv z3, iv z4, iv (2 : Int32)]) rfl) ?_
      refine Go.via (fun _ => XS.aload X113.here hx rfl (hb hby at_187) rfl rfl) ?_
      show Go p e below _ (T113.setTop (mkF m 189 #[iv p1, iv p2, iv p3, iv p4, .val (.long p5), .second, iv (3 : Int32), rv ta113, iv (0 : Int32), iv z0, iv z1, iv z2, iv z3, iv z4, iv (2 : Int32)] [(.ref ta113)]))
      obtain ⟨_, _, ⟨T114, L114, k114, n114⟩, -, X114, S114w, gr114, ⟨Lc114, hQ114, l114, y114, z114, cr114⟩, st114⟩ := callSS X113 hx (y := (⟨"com/example/sluice/sluice/expression/Values", "isTrue", "(Ljava/lang/Object;)Z"⟩ : MethodName)) hown (mvT hZ (ow hw 0 rfl)) (mvT hZ (ow hw 1 rfl)) (mvT hZ (ow hw 2 rfl)) (mvT hZ (ow hw 3 rfl)) (by decide) (backOfSH (W := 0) (rmIT_S0 l Z a0 hw [] bt ta113 tt113 tk113 (2 : Int32) _ ccs T113.heap n0 Zs113 hEW S_T (E_T.ext O113.2) (F_T.ext O113.2) te113 tv113 tc113 tw113 (by decide) O113 S_CS hcs) hZ (ow hw 3 rfl) (ow hw 2 rfl) (by decide) (by decide) hEW R113.1) (g := (mkF m 189 #[iv p1, iv p2, iv p3, iv p4, .val (.long p5), .second, iv (3 : Int32), rv ta113, iv (0 : Int32), iv z0, iv z1, iv z2, iv z3, iv z4, iv (2 : Int32)] [(.ref ta113)])) rfl (by rw [hml]; rfl) (argsL := [(.ref ta113)]) (rest := []) (lenOf pd_2 rfl) rfl (by show 2 * 0 + _ ≤ _; exact Nat.le_of_eq rfl) (hb hby at_189) (fun _ _ => ⟨rfl, rfl, (by decide : 3 + 2 ≤ _), (by decide : 8 + 20 ≤ _)⟩)
      dsimp only [Pt.U, Pt.locs, Pt.cells, Pt.slots] at X114 l114 y114 z114 st114 hQ114 S114w gr114 cr114
      rw [l114, y114, z114] at X114
      replace X114 : Stand p l e _ _ m _ below meth c T114 _ 5 28 := X114
      obtain ⟨rfl, N114q, K114q⟩ := hQ114
      have N114 := Fr.app N113 N114q
      refine Go.tr st114 ?_
      obtain ⟨X114r, hS114, hZ114, hown114⟩ := rebS hS0 (hk113) X114 S114w gr114 hZ hown
      have R114 : CHr Z consts_1 s.vm h0 T114.vm T114.heap := R113.trans cr114
      have Zs114 : n0 ≤ T114.heap.size := Nat.le_trans Zs113 K114q.1
      have O114 : Old Z n0 T114.heap := O113.keep K114q all0
      have fE_ta113_114 := te113.keep K114q
      have fF_ta113_value_114 := tv113.keep K114q nin0
      have fF_ta113_coder_114 := tc113.keep K114q nin0
      have fV_tt113_114 := tw113.keep K114q nin0
      refine Go.via (fun _ => XS.iload X114r.here hx rfl (hb hby at_192) rfl) ?_
      refine Go.via (fun _ => XS.icmpNo X114r.here hx rfl (hb hby at_194) rfl (by decide)) ?_
      refine Go.via (fun _ => XS.iconst X114r.here hx rfl (hb hby at_197)) ?_
      refine Go.via (fun _ => XS.goto X114r.here hx rfl (pc0 := 198) (pc' := 202) rfl (hb hby at_198) (by decide) (by decide)) ?_
      exact own_retNW X114r hS114 (Nat.le_refl _) hx hlk (t := .boolean) Bd.returns (by simp) (hb hby at_202) (by show Q0 Z p1 p2 p3 p4 p5 bt bf lc kL vs ccs h0 n0 _ T114.heap _; exact ⟨rfl, N114⟩) (by decide) (by decide)
    ·
      show Go p e below _ (s₁.setTop (mkF m 127 #[iv p1, iv p2, iv p3, iv p4, .val (.long p5), .second, iv (3 : Int32), .unset, .unset, iv z0, iv z1, iv z2, iv z3, iv z4, .unset] [(.int (3 : Int32))]))
      refine Go.via (fun _ => XS.istore X0.here hx rfl (hb hby at_127) rfl (l' := #[iv p1, iv p2, iv p3, iv p4, .val (.long p5), .second, iv (3 : Int32), .unset, .unset, iv z0, iv z1, iv z2, iv z3, iv z4, iv (3 : Int32)]) rfl) ?_
      refine Go.via (fun _ => XS.iload X0.here hx rfl (hb hby at_129) rfl) ?_
      refine Go.via (fun _ => XS.iload X0.here hx rfl (hb hby at_131) rfl) ?_
      show Go p e below _ (s₁.setTop (mkF m 133 #[iv p1, iv p2, iv p3, iv p4, .val (.long p5), .second, iv (3 : Int32), .unset, .unset, iv z0, iv z1, iv z2, iv z3, iv z4, iv (3 : Int32)] [(.int z0), (.int (3 : Int32))]))
      refine Go.via (fun _ => XS.iload X0.here hx rfl (hb hby at_133) rfl) ?_
      refine Go.via (fun _ => XS.iload X0.here hx rfl (hb hby at_135) rfl) ?_
      refine Go.via (fun _ => XS.iload X0.here hx rfl (hb hby at_137) rfl) ?_
      refine Go.via (fun _ => XS.iload X0.here hx rfl (hb hby at_139) rfl) ?_
      obtain ⟨_, _, ⟨T115, L115, k115, n115⟩, -, X115, ⟨Lc115, hQ115, l115, y115, z115⟩, st115⟩ := Jvm.LawKit.callS X0 hx (y := (⟨"com/example/sluice/sluice/expression/ValuesIsTruePinLaw", "text", "(ICCCCC)Ljava/lang/String;"⟩ : MethodName)) hown (mvT hZ (ow hw 64 rfl)) (mvT hZ (ow hw 65 rfl)) (mvT hZ (ow hw 66 rfl)) (mvT hZ (ow hw 67 rfl)) (by decide) (backOf (W := 0) (rmTX_3 l Z a0 hw [] z0 z1 z2 z3 z4 ccs h0 n0 Z0 r_z0.2.1 r_z1.2.1 r_z2.2.1 r_z0.2.2 r_z1.2.2 r_z2.2.2 O0 S_CS hcs) hZ (ow hw 67 rfl) (ow hw 66 rfl) (by decide) (by decide)) (g := (mkF m 141 #[iv p1, iv p2, iv p3, iv p4, .val (.long p5), .second, iv (3 : Int32), .unset, .unset, iv z0, iv z1, iv z2, iv z3, iv z4, iv (3 : Int32)] [(.int z4), (.int z3), (.int z2), (.int z1), (.int z0), (.int (3 : Int32))])) rfl (by rw [hml]; rfl) (argsL := [(.int (3 : Int32)), (.int z0), (.int z1), (.int z2), (.int z3), (.int z4)]) (rest := []) (lenOf pd_12 rfl) rfl (by show 2 * 0 + _ ≤ _; exact Nat.le_of_eq rfl) (hb hby at_141) (fun _ _ => ⟨rfl, e0, (by decide : 0 + 3 ≤ _), (by decide : 0 + 10 ≤ _)⟩)
      dsimp only [Pt.U, Pt.locs, Pt.cells, Pt.slots] at X115 l115 y115 z115 st115 hQ115
      rw [l115, y115, z115] at X115
      replace X115 : Stand p l e _ _ m _ below meth c T115 _ 3 10 := X115
      obtain ⟨ta115, tt115, tk115, rfl, N115q, K115q, te115, tv115, tc115, tw115⟩ := hQ115
      have N115 := Fr.app N0 N115q
      refine Go.via st115 ?_
      have Zs115 : n0 ≤ T115.heap.size := Nat.le_trans Z0 K115q.1
      have hk115 : 0 ≤ T115.heap.size := Nat.le_trans hk0 K115q.1
      have R115 : CHr Z consts_1 s.vm h0 s.vm T115.heap := R0.trans (CHr.keep K115q all0 R0.1)
      have O115 : Old Z n0 T115.heap := O0.keep K115q all0
      refine Go.via (fun _ => XS.astore X115.here hx rfl (hb hby at_144) rfl rfl (l' := #[iv p1, iv p2, iv p3, iv p4, .val (.long p5), .second, iv (3 : Int32), rv ta115, .unset, iv z0, iv z1, iv z2, iv z3, iv z4, iv (3 : Int32)]) rfl) ?_
      show Go p e below _ (T115.setTop (mkF m 146 #[iv p1, iv p2, iv p3, iv p4, .val (.long p5), .second, iv (3 : Int32), rv ta115, .unset, iv z0, iv z1, iv z2, iv z3, iv z4, iv (3 : Int32)] []))
      refine Go.via (fun _ => XS.iload X115.here hx rfl (hb hby at_146) rfl) ?_
      refine Go.via (fun _ => XS.iconst X115.here hx rfl (hb hby at_148)) ?_
      refine Go.via (fun _ => XS.icmpYes X115.here hx rfl (pc0 := 149) (pc' := 184) rfl (hb hby at_149) rfl (by decide) (by decide) (by decide)) ?_
      refine Go.via (fun _ => XS.iconst X115.here hx rfl (hb hby at_184)) ?_
      refine Go.via (fun _ => XS.istore X115.here hx rfl (hb hby at_185) rfl (l' := #[iv p1, iv p2, iv p3, iv p4, .val (.long p5), .second, iv (3 : Int32), rv ta115, iv (0 : Int32), iv z0, iv z1, iv z2, iv z3, iv z4, iv (3 : Int32)]) rfl) ?_
      refine Go.via (fun _ => XS.aload X115.here hx rfl (hb hby at_187) rfl rfl) ?_
      show Go p e below _ (T115.setTop (mkF m 189 #[iv p1, iv p2, iv p3, iv p4, .val (.long p5), .second, iv (3 : Int32), rv ta115, iv (0 : Int32), iv z0, iv z1, iv z2, iv z3, iv z4, iv (3 : Int32)] [(.ref ta115)]))
      obtain ⟨_, _, ⟨T116, L116, k116, n116⟩, -, X116, S116w, gr116, ⟨Lc116, hQ116, l116, y116, z116, cr116⟩, st116⟩ := callSS X115 hx (y := (⟨"com/example/sluice/sluice/expression/Values", "isTrue", "(Ljava/lang/Object;)Z"⟩ : MethodName)) hown (mvT hZ (ow hw 0 rfl)) (mvT hZ (ow hw 1 rfl)) (mvT hZ (ow hw 2 rfl)) (mvT hZ (ow hw 3 rfl)) (by decide) (backOfSH (W := 0) (rmIT_S0 l Z a0 hw [] bt ta115 tt115 tk115 (3 : Int32) _ ccs T115.heap n0 Zs115 hEW S_T (E_T.ext O115.2) (F_T.ext O115.2) te115 tv115 tc115 tw115 (by decide) O115 S_CS hcs) hZ (ow hw 3 rfl) (ow hw 2 rfl) (by decide) (by decide) hEW R115.1) (g := (mkF m 189 #[iv p1, iv p2, iv p3, iv p4, .val (.long p5), .second, iv (3 : Int32), rv ta115, iv (0 : Int32), iv z0, iv z1, iv z2, iv z3, iv z4, iv (3 : Int32)] [(.ref ta115)])) rfl (by rw [hml]; rfl) (argsL := [(.ref ta115)]) (rest := []) (lenOf pd_2 rfl) rfl (by show 2 * 0 + _ ≤ _; exact Nat.le_of_eq rfl) (hb hby at_189) (fun _ _ => ⟨rfl, rfl, (by decide : 3 + 2 ≤ _), (by decide : 10 + 20 ≤ _)⟩)
      dsimp only [Pt.U, Pt.locs, Pt.cells, Pt.slots] at X116 l116 y116 z116 st116 hQ116 S116w gr116 cr116
      rw [l116, y116, z116] at X116
      replace X116 : Stand p l e _ _ m _ below meth c T116 _ 5 30 := X116
      obtain ⟨rfl, N116q, K116q⟩ := hQ116
      have N116 := Fr.app N115 N116q
      refine Go.tr st116 ?_
      obtain ⟨X116r, hS116, hZ116, hown116⟩ := rebS hS0 (hk115) X116 S116w gr116 hZ hown
      have R116 : CHr Z consts_1 s.vm h0 T116.vm T116.heap := R115.trans cr116
      have Zs116 : n0 ≤ T116.heap.size := Nat.le_trans Zs115 K116q.1
      have O116 : Old Z n0 T116.heap := O115.keep K116q all0
      have fE_ta115_116 := te115.keep K116q
      have fF_ta115_value_116 := tv115.keep K116q nin0
      have fF_ta115_coder_116 := tc115.keep K116q nin0
      have fV_tt115_116 := tw115.keep K116q nin0
      refine Go.via (fun _ => XS.iload X116r.here hx rfl (hb hby at_192) rfl) ?_
      refine Go.via (fun _ => XS.icmpNo X116r.here hx rfl (hb hby at_194) rfl (by decide)) ?_
      refine Go.via (fun _ => XS.iconst X116r.here hx rfl (hb hby at_197)) ?_
      refine Go.via (fun _ => XS.goto X116r.here hx rfl (pc0 := 198) (pc' := 202) rfl (hb hby at_198) (by decide) (by decide)) ?_
      exact own_retNW X116r hS116 (Nat.le_refl _) hx hlk (t := .boolean) Bd.returns (by simp) (hb hby at_202) (by show Q0 Z p1 p2 p3 p4 p5 bt bf lc kL vs ccs h0 n0 _ T116.heap _; exact ⟨rfl, N116⟩) (by decide) (by decide)
    ·
      show Go p e below _ (s₁.setTop (mkF m 127 #[iv p1, iv p2, iv p3, iv p4, .val (.long p5), .second, iv (3 : Int32), .unset, .unset, iv z0, iv z1, iv z2, iv z3, iv z4, .unset] [(.int (4 : Int32))]))
      refine Go.via (fun _ => XS.istore X0.here hx rfl (hb hby at_127) rfl (l' := #[iv p1, iv p2, iv p3, iv p4, .val (.long p5), .second, iv (3 : Int32), .unset, .unset, iv z0, iv z1, iv z2, iv z3, iv z4, iv (4 : Int32)]) rfl) ?_
      refine Go.via (fun _ => XS.iload X0.here hx rfl (hb hby at_129) rfl) ?_
      refine Go.via (fun _ => XS.iload X0.here hx rfl (hb hby at_131) rfl) ?_
      show Go p e below _ (s₁.setTop (mkF m 133 #[iv p1, iv p2, iv p3, iv p4, .val (.long p5), .second, iv (3 : Int32), .unset, .unset, iv z0, iv z1, iv z2, iv z3, iv z4, iv (4 : Int32)] [(.int z0), (.int (4 : Int32))]))
      refine Go.via (fun _ => XS.iload X0.here hx rfl (hb hby at_133) rfl) ?_
      refine Go.via (fun _ => XS.iload X0.here hx rfl (hb hby at_135) rfl) ?_
      refine Go.via (fun _ => XS.iload X0.here hx rfl (hb hby at_137) rfl) ?_
      refine Go.via (fun _ => XS.iload X0.here hx rfl (hb hby at_139) rfl) ?_
      obtain ⟨_, _, ⟨T117, L117, k117, n117⟩, -, X117, ⟨Lc117, hQ117, l117, y117, z117⟩, st117⟩ := Jvm.LawKit.callS X0 hx (y := (⟨"com/example/sluice/sluice/expression/ValuesIsTruePinLaw", "text", "(ICCCCC)Ljava/lang/String;"⟩ : MethodName)) hown (mvT hZ (ow hw 64 rfl)) (mvT hZ (ow hw 65 rfl)) (mvT hZ (ow hw 66 rfl)) (mvT hZ (ow hw 67 rfl)) (by decide) (backOf (W := 0) (rmTX_4 l Z a0 hw [] z0 z1 z2 z3 z4 ccs h0 n0 Z0 r_z0.2.1 r_z1.2.1 r_z2.2.1 r_z3.2.1 r_z0.2.2 r_z1.2.2 r_z2.2.2 r_z3.2.2 O0 S_CS hcs) hZ (ow hw 67 rfl) (ow hw 66 rfl) (by decide) (by decide)) (g := (mkF m 141 #[iv p1, iv p2, iv p3, iv p4, .val (.long p5), .second, iv (3 : Int32), .unset, .unset, iv z0, iv z1, iv z2, iv z3, iv z4, iv (4 : Int32)] [(.int z4), (.int z3), (.int z2), (.int z1), (.int z0), (.int (4 : Int32))])) rfl (by rw [hml]; rfl) (argsL := [(.int (4 : Int32)), (.int z0), (.int z1), (.int z2), (.int z3), (.int z4)]) (rest := []) (lenOf pd_12 rfl) rfl (by show 2 * 0 + _ ≤ _; exact Nat.le_of_eq rfl) (hb hby at_141) (fun _ _ => ⟨rfl, e0, (by decide : 0 + 3 ≤ _), (by decide : 0 + 12 ≤ _)⟩)
      dsimp only [Pt.U, Pt.locs, Pt.cells, Pt.slots] at X117 l117 y117 z117 st117 hQ117
      rw [l117, y117, z117] at X117
      replace X117 : Stand p l e _ _ m _ below meth c T117 _ 3 12 := X117
      obtain ⟨ta117, tt117, tk117, rfl, N117q, K117q, te117, tv117, tc117, tw117⟩ := hQ117
      have N117 := Fr.app N0 N117q
      refine Go.via st117 ?_
      have Zs117 : n0 ≤ T117.heap.size := Nat.le_trans Z0 K117q.1
      have hk117 : 0 ≤ T117.heap.size := Nat.le_trans hk0 K117q.1
      have R117 : CHr Z consts_1 s.vm h0 s.vm T117.heap := R0.trans (CHr.keep K117q all0 R0.1)
      have O117 : Old Z n0 T117.heap := O0.keep K117q all0
      refine Go.via (fun _ => XS.astore X117.here hx rfl (hb hby at_144) rfl rfl (l' := #[iv p1, iv p2, iv p3, iv p4, .val (.long p5), .second, iv (3 : Int32), rv ta117, .unset, iv z0, iv z1, iv z2, iv z3, iv z4, iv (4 : Int32)]) rfl) ?_
      show Go p e below _ (T117.setTop (mkF m 146 #[iv p1, iv p2, iv p3, iv p4, .val (.long p5), .second, iv (3 : Int32), rv ta117, .unset, iv z0, iv z1, iv z2, iv z3, iv z4, iv (4 : Int32)] []))
      refine Go.via (fun _ => XS.iload X117.here hx rfl (hb hby at_146) rfl) ?_
      refine Go.via (fun _ => XS.iconst X117.here hx rfl (hb hby at_148)) ?_
      refine Go.via (fun _ => XS.icmpNo X117.here hx rfl (hb hby at_149) rfl (by decide)) ?_
      refine Go.via (fun _ => XS.iload X117.here hx rfl (hb hby at_152) rfl) ?_
      refine Go.via (fun _ => XS.bipush X117.here hx rfl (hb hby at_154)) ?_
      by_cases hc118 : z0 = (116 : Int32)
      · -- yes
        show Go p e below _ (T117.setTop (mkF m 156 #[iv p1, iv p2, iv p3, iv p4, .val (.long p5), .second, iv (3 : Int32), rv ta117, .unset, iv z0, iv z1, iv z2, iv z3, iv z4, iv (4 : Int32)] [(.int (116 : Int32)), (.int z0)]))
        refine Go.via (fun _ => XS.icmpNo X117.here hx rfl (hb hby at_156) rfl (teq hc118).2) ?_
        refine Go.via (fun _ => XS.iload X117.here hx rfl (hb hby at_159) rfl) ?_
        refine Go.via (fun _ => XS.bipush X117.here hx rfl (hb hby at_161)) ?_
        by_cases hc119 : z1 = (114 : Int32)
        · -- yes
          show Go p e below _ (T117.setTop (mkF m 163 #[iv p1, iv p2, iv p3, iv p4, .val (.long p5), .second, iv (3 : Int32), rv ta117, .unset, iv z0, iv z1, iv z2, iv z3, iv z4, iv (4 : Int32)] [(.int (114 : Int32)), (.int z1)]))
          refine Go.via (fun _ => XS.icmpNo X117.here hx rfl (hb hby at_163) rfl (teq hc119).2) ?_
          refine Go.via (fun _ => XS.iload X117.here hx rfl (hb hby at_166) rfl) ?_
          refine Go.via (fun _ => XS.bipush X117.here hx rfl (hb hby at_168)) ?_
          by_cases hc120 : z2 = (117 : Int32)
          · -- yes
            refine Go.via (fun _ => XS.icmpNo X117.here hx rfl (hb hby at_170) rfl (teq hc120).2) ?_
            show Go p e below _ (T117.setTop (mkF m 173 #[iv p1, iv p2, iv p3, iv p4, .val (.long p5), .second, iv (3 : Int32), rv ta117, .unset, iv z0, iv z1, iv z2, iv z3, iv z4, iv (4 : Int32)] []))
            refine Go.via (fun _ => XS.iload X117.here hx rfl (hb hby at_173) rfl) ?_
            refine Go.via (fun _ => XS.bipush X117.here hx rfl (hb hby at_175)) ?_
            by_cases hc121 : z3 = (101 : Int32)
            · -- yes
              refine Go.via (fun _ => XS.icmpNo X117.here hx rfl (hb hby at_177) rfl (teq hc121).2) ?_
              refine Go.via (fun _ => XS.iconst X117.here hx rfl (hb hby at_180)) ?_
              show Go p e below _ (T117.setTop (mkF m 181 #[iv p1, iv p2, iv p3, iv p4, .val (.long p5), .second, iv (3 : Int32), rv ta117, .unset, iv z0, iv z1, iv z2, iv z3, iv z4, iv (4 : Int32)] [(.int (1 : Int32))]))
              refine Go.via (fun _ => XS.goto X117.here hx rfl (pc0 := 181) (pc' := 185) rfl (hb hby at_181) (by decide) (by decide)) ?_
              refine Go.via (fun _ => XS.istore X117.here hx rfl (hb hby at_185) rfl (l' := #[iv p1, iv p2, iv p3, iv p4, .val (.long p5), .second, iv (3 : Int32), rv ta117, iv (1 : Int32), iv z0, iv z1, iv z2, iv z3, iv z4, iv (4 : Int32)]) rfl) ?_
              refine Go.via (fun _ => XS.aload X117.here hx rfl (hb hby at_187) rfl rfl) ?_
              obtain ⟨_, _, ⟨T122, L122, k122, n122⟩, -, X122, S122w, gr122, ⟨Lc122, hQ122, l122, y122, z122, cr122⟩, st122⟩ := callSS X117 hx (y := (⟨"com/example/sluice/sluice/expression/Values", "isTrue", "(Ljava/lang/Object;)Z"⟩ : MethodName)) hown (mvT hZ (ow hw 0 rfl)) (mvT hZ (ow hw 1 rfl)) (mvT hZ (ow hw 2 rfl)) (mvT hZ (ow hw 3 rfl)) (by decide) (backOfSH (W := 0) (rmIT_S1 l Z a0 hw [] bt ta117 tt117 tk117 (nar .byte (z0.toInt8.toInt32)) (nar .byte (z1.toInt8.toInt32)) (nar .byte (z2.toInt8.toInt32)) (nar .byte (z3.toInt8.toInt32)) ccs T117.heap n0 Zs117 hEW S_T (E_T.ext O117.2) (F_T.ext O117.2) te117 tv117 tc117 tw117 O117 S_CS hcs) hZ (ow hw 3 rfl) (ow hw 2 rfl) (by decide) (by decide) hEW R117.1) (g := (mkF m 189 #[iv p1, iv p2, iv p3, iv p4, .val (.long p5), .second, iv (3 : Int32), rv ta117, iv (1 : Int32), iv z0, iv z1, iv z2, iv z3, iv z4, iv (4 : Int32)] [(.ref ta117)])) rfl (by rw [hml]; rfl) (argsL := [(.ref ta117)]) (rest := []) (lenOf pd_2 rfl) rfl (by show 2 * 0 + _ ≤ _; exact Nat.le_of_eq rfl) (hb hby at_189) (fun _ _ => ⟨rfl, rfl, (by decide : 3 + 2 ≤ _), (by decide : 12 + 20 ≤ _)⟩)
              dsimp only [Pt.U, Pt.locs, Pt.cells, Pt.slots] at X122 l122 y122 z122 st122 hQ122 S122w gr122 cr122
              rw [l122, y122, z122] at X122
              replace X122 : Stand p l e _ _ m _ below meth c T122 _ 5 32 := X122
              obtain ⟨rfl, N122q, K122q⟩ := hQ122
              have N122 := Fr.app N117 N122q
              refine Go.tr st122 ?_
              obtain ⟨X122r, hS122, hZ122, hown122⟩ := rebS hS0 (hk117) X122 S122w gr122 hZ hown
              have R122 : CHr Z consts_1 s.vm h0 T122.vm T122.heap := R117.trans cr122
              have Zs122 : n0 ≤ T122.heap.size := Nat.le_trans Zs117 K122q.1
              have O122 : Old Z n0 T122.heap := O117.keep K122q all0
              have fE_ta117_122 := te117.keep K122q
              have fF_ta117_value_122 := tv117.keep K122q nin0
              have fF_ta117_coder_122 := tc117.keep K122q nin0
              have fV_tt117_122 := tw117.keep K122q nin0
              refine Go.via (fun _ => XS.iload X122r.here hx rfl (hb hby at_192) rfl) ?_
              have hfin : (eqF (nar .byte (z0.toInt8.toInt32)) (nar .byte (z1.toInt8.toInt32)) (nar .byte (z2.toInt8.toInt32)) (nar .byte (z3.toInt8.toInt32))) = (1 : Int32) := by rw [eqF, if_pos ((own_q0 r_z0.1 r_z0.2.1).mpr hc118), if_pos ((own_q1 r_z1.1 r_z1.2.1).mpr hc119), if_pos ((own_q2 r_z2.1 r_z2.2.1).mpr hc120), if_pos ((own_q3 r_z3.1 r_z3.2.1).mpr hc121)]
              refine Go.via (fun _ => XS.icmpNo X122r.here hx rfl (hb hby at_194) rfl (teq hfin).2) ?_
              show Go p e below _ (T122.setTop (mkF m 197 #[iv p1, iv p2, iv p3, iv p4, .val (.long p5), .second, iv (3 : Int32), rv ta117, iv (1 : Int32), iv z0, iv z1, iv z2, iv z3, iv z4, iv (4 : Int32)] []))
              refine Go.via (fun _ => XS.iconst X122r.here hx rfl (hb hby at_197)) ?_
              refine Go.via (fun _ => XS.goto X122r.here hx rfl (pc0 := 198) (pc' := 202) rfl (hb hby at_198) (by decide) (by decide)) ?_
              exact own_retNW X122r hS122 (Nat.le_refl _) hx hlk (t := .boolean) Bd.returns (by simp) (hb hby at_202) (by show Q0 Z p1 p2 p3 p4 p5 bt bf lc kL vs ccs h0 n0 _ T122.heap _; exact ⟨rfl, N122⟩) (by decide) (by decide)
            · -- no
              refine Go.via (fun _ => XS.icmpYes X117.here hx rfl (pc0 := 177) (pc' := 184) rfl (hb hby at_177) rfl (feq hc121).2 (by decide) (by decide)) ?_
              refine Go.via (fun _ => XS.iconst X117.here hx rfl (hb hby at_184)) ?_
              show Go p e below _ (T117.setTop (mkF m 185 #[iv p1, iv p2, iv p3, iv p4, .val (.long p5), .second, iv (3 : Int32), rv ta117, .unset, iv z0, iv z1, iv z2, iv z3, iv z4, iv (4 : Int32)] [(.int (0 : Int32))]))
              refine Go.via (fun _ => XS.istore X117.here hx rfl (hb hby at_185) rfl (l' := #[iv p1, iv p2, iv p3, iv p4, .val (.long p5), .second, iv (3 : Int32), rv ta117, iv (0 : Int32), iv z0, iv z1, iv z2, iv z3, iv z4, iv (4 : Int32)]) rfl) ?_
              refine Go.via (fun _ => XS.aload X117.here hx rfl (hb hby at_187) rfl rfl) ?_
              obtain ⟨_, _, ⟨T123, L123, k123, n123⟩, -, X123, S123w, gr123, ⟨Lc123, hQ123, l123, y123, z123, cr123⟩, st123⟩ := callSS X117 hx (y := (⟨"com/example/sluice/sluice/expression/Values", "isTrue", "(Ljava/lang/Object;)Z"⟩ : MethodName)) hown (mvT hZ (ow hw 0 rfl)) (mvT hZ (ow hw 1 rfl)) (mvT hZ (ow hw 2 rfl)) (mvT hZ (ow hw 3 rfl)) (by decide) (backOfSH (W := 0) (rmIT_S1 l Z a0 hw [] bt ta117 tt117 tk117 (nar .byte (z0.toInt8.toInt32)) (nar .byte (z1.toInt8.toInt32)) (nar .byte (z2.toInt8.toInt32)) (nar .byte (z3.toInt8.toInt32)) ccs T117.heap n0 Zs117 hEW S_T (E_T.ext O117.2) (F_T.ext O117.2) te117 tv117 tc117 tw117 O117 S_CS hcs) hZ (ow hw 3 rfl) (ow hw 2 rfl) (by decide) (by decide) hEW R117.1) (g := (mkF m 189 #[iv p1, iv p2, iv p3, iv p4, .val (.long p5), .second, iv (3 : Int32), rv ta117, iv (0 : Int32), iv z0, iv z1, iv z2, iv z3, iv z4, iv (4 : Int32)] [(.ref ta117)])) rfl (by rw [hml]; rfl) (argsL := [(.ref ta117)]) (rest := []) (lenOf pd_2 rfl) rfl (by show 2 * 0 + _ ≤ _; exact Nat.le_of_eq rfl) (hb hby at_189) (fun _ _ => ⟨rfl, rfl, (by decide : 3 + 2 ≤ _), (by decide : 12 + 20 ≤ _)⟩)
              dsimp only [Pt.U, Pt.locs, Pt.cells, Pt.slots] at X123 l123 y123 z123 st123 hQ123 S123w gr123 cr123
              rw [l123, y123, z123] at X123
              replace X123 : Stand p l e _ _ m _ below meth c T123 _ 5 32 := X123
              obtain ⟨rfl, N123q, K123q⟩ := hQ123
              have N123 := Fr.app N117 N123q
              refine Go.tr st123 ?_
              obtain ⟨X123r, hS123, hZ123, hown123⟩ := rebS hS0 (hk117) X123 S123w gr123 hZ hown
              have R123 : CHr Z consts_1 s.vm h0 T123.vm T123.heap := R117.trans cr123
              have Zs123 : n0 ≤ T123.heap.size := Nat.le_trans Zs117 K123q.1
              have O123 : Old Z n0 T123.heap := O117.keep K123q all0
              have fE_ta117_123 := te117.keep K123q
              have fF_ta117_value_123 := tv117.keep K123q nin0
              have fF_ta117_coder_123 := tc117.keep K123q nin0
              have fV_tt117_123 := tw117.keep K123q nin0
              refine Go.via (fun _ => XS.iload X123r.here hx rfl (hb hby at_192) rfl) ?_
              have hfin : (eqF (nar .byte (z0.toInt8.toInt32)) (nar .byte (z1.toInt8.toInt32)) (nar .byte (z2.toInt8.toInt32)) (nar .byte (z3.toInt8.toInt32))) = (0 : Int32) := by rw [eqF, if_pos ((own_q0 r_z0.1 r_z0.2.1).mpr hc118), if_pos ((own_q1 r_z1.1 r_z1.2.1).mpr hc119), if_pos ((own_q2 r_z2.1 r_z2.2.1).mpr hc120), if_neg (fun q => hc121 ((own_q3 r_z3.1 r_z3.2.1).mp q))]
              refine Go.via (fun _ => XS.icmpNo X123r.here hx rfl (hb hby at_194) rfl (teq hfin).2) ?_
              refine Go.via (fun _ => XS.iconst X123r.here hx rfl (hb hby at_197)) ?_
              show Go p e below _ (T123.setTop (mkF m 198 #[iv p1, iv p2, iv p3, iv p4, .val (.long p5), .second, iv (3 : Int32), rv ta117, iv (0 : Int32), iv z0, iv z1, iv z2, iv z3, iv z4, iv (4 : Int32)] [(.int (1 : Int32))]))
              refine Go.via (fun _ => XS.goto X123r.here hx rfl (pc0 := 198) (pc' := 202) rfl (hb hby at_198) (by decide) (by decide)) ?_
              exact own_retNW X123r hS123 (Nat.le_refl _) hx hlk (t := .boolean) Bd.returns (by simp) (hb hby at_202) (by show Q0 Z p1 p2 p3 p4 p5 bt bf lc kL vs ccs h0 n0 _ T123.heap _; exact ⟨rfl, N123⟩) (by decide) (by decide)
          · -- no
            refine Go.via (fun _ => XS.icmpYes X117.here hx rfl (pc0 := 170) (pc' := 184) rfl (hb hby at_170) rfl (feq hc120).2 (by decide) (by decide)) ?_
            show Go p e below _ (T117.setTop (mkF m 184 #[iv p1, iv p2, iv p3, iv p4, .val (.long p5), .second, iv (3 : Int32), rv ta117, .unset, iv z0, iv z1, iv z2, iv z3, iv z4, iv (4 : Int32)] []))
            refine Go.via (fun _ => XS.iconst X117.here hx rfl (hb hby at_184)) ?_
            refine Go.via (fun _ => XS.istore X117.here hx rfl (hb hby at_185) rfl (l' := #[iv p1, iv p2, iv p3, iv p4, .val (.long p5), .second, iv (3 : Int32), rv ta117, iv (0 : Int32), iv z0, iv z1, iv z2, iv z3, iv z4, iv (4 : Int32)]) rfl) ?_
            refine Go.via (fun _ => XS.aload X117.here hx rfl (hb hby at_187) rfl rfl) ?_
            obtain ⟨_, _, ⟨T124, L124, k124, n124⟩, -, X124, S124w, gr124, ⟨Lc124, hQ124, l124, y124, z124, cr124⟩, st124⟩ := callSS X117 hx (y := (⟨"com/example/sluice/sluice/expression/Values", "isTrue", "(Ljava/lang/Object;)Z"⟩ : MethodName)) hown (mvT hZ (ow hw 0 rfl)) (mvT hZ (ow hw 1 rfl)) (mvT hZ (ow hw 2 rfl)) (mvT hZ (ow hw 3 rfl)) (by decide) (backOfSH (W := 0) (rmIT_S1 l Z a0 hw [] bt ta117 tt117 tk117 (nar .byte (z0.toInt8.toInt32)) (nar .byte (z1.toInt8.toInt32)) (nar .byte (z2.toInt8.toInt32)) (nar .byte (z3.toInt8.toInt32)) ccs T117.heap n0 Zs117 hEW S_T (E_T.ext O117.2) (F_T.ext O117.2) te117 tv117 tc117 tw117 O117 S_CS hcs) hZ (ow hw 3 rfl) (ow hw 2 rfl) (by decide) (by decide) hEW R117.1) (g := (mkF m 189 #[iv p1, iv p2, iv p3, iv p4, .val (.long p5), .second, iv (3 : Int32), rv ta117, iv (0 : Int32), iv z0, iv z1, iv z2, iv z3, iv z4, iv (4 : Int32)] [(.ref ta117)])) rfl (by rw [hml]; rfl) (argsL := [(.ref ta117)]) (rest := []) (lenOf pd_2 rfl) rfl (by show 2 * 0 + _ ≤ _; exact Nat.le_of_eq rfl) (hb hby at_189) (fun _ _ => ⟨rfl, rfl, (by decide : 3 + 2 ≤ _), (by decide : 12 + 20 ≤ _)⟩)
            dsimp only [Pt.U, Pt.locs, Pt.cells, Pt.slots] at X124 l124 y124 z124 st124 hQ124 S124w gr124 cr124
            rw [l124, y124, z124] at X124
            replace X124 : Stand p l e _ _ m _ below meth c T124 _ 5 32 := X124
            obtain ⟨rfl, N124q, K124q⟩ := hQ124
            have N124 := Fr.app N117 N124q
            refine Go.tr st124 ?_
            obtain ⟨X124r, hS124, hZ124, hown124⟩ := rebS hS0 (hk117) X124 S124w gr124 hZ hown
            have R124 : CHr Z consts_1 s.vm h0 T124.vm T124.heap := R117.trans cr124
            have Zs124 : n0 ≤ T124.heap.size := Nat.le_trans Zs117 K124q.1
            have O124 : Old Z n0 T124.heap := O117.keep K124q all0
            have fE_ta117_124 := te117.keep K124q
            have fF_ta117_value_124 := tv117.keep K124q nin0
            have fF_ta117_coder_124 := tc117.keep K124q nin0
            have fV_tt117_124 := tw117.keep K124q nin0
            refine Go.via (fun _ => XS.iload X124r.here hx rfl (hb hby at_192) rfl) ?_
            have hfin : (eqF (nar .byte (z0.toInt8.toInt32)) (nar .byte (z1.toInt8.toInt32)) (nar .byte (z2.toInt8.toInt32)) (nar .byte (z3.toInt8.toInt32))) = (0 : Int32) := by rw [eqF, if_pos ((own_q0 r_z0.1 r_z0.2.1).mpr hc118), if_pos ((own_q1 r_z1.1 r_z1.2.1).mpr hc119), if_neg (fun q => hc120 ((own_q2 r_z2.1 r_z2.2.1).mp q))]
            refine Go.via (fun _ => XS.icmpNo X124r.here hx rfl (hb hby at_194) rfl (teq hfin).2) ?_
            show Go p e below _ (T124.setTop (mkF m 197 #[iv p1, iv p2, iv p3, iv p4, .val (.long p5), .second, iv (3 : Int32), rv ta117, iv (0 : Int32), iv z0, iv z1, iv z2, iv z3, iv z4, iv (4 : Int32)] []))
            refine Go.via (fun _ => XS.iconst X124r.here hx rfl (hb hby at_197)) ?_
            refine Go.via (fun _ => XS.goto X124r.here hx rfl (pc0 := 198) (pc' := 202) rfl (hb hby at_198) (by decide) (by decide)) ?_
            exact own_retNW X124r hS124 (Nat.le_refl _) hx hlk (t := .boolean) Bd.returns (by simp) (hb hby at_202) (by show Q0 Z p1 p2 p3 p4 p5 bt bf lc kL vs ccs h0 n0 _ T124.heap _; exact ⟨rfl, N124⟩) (by decide) (by decide)
        · -- no
          show Go p e below _ (T117.setTop (mkF m 163 #[iv p1, iv p2, iv p3, iv p4, .val (.long p5), .second, iv (3 : Int32), rv ta117, .unset, iv z0, iv z1, iv z2, iv z3, iv z4, iv (4 : Int32)] [(.int (114 : Int32)), (.int z1)]))
          refine Go.via (fun _ => XS.icmpYes X117.here hx rfl (pc0 := 163) (pc' := 184) rfl (hb hby at_163) rfl (feq hc119).2 (by decide) (by decide)) ?_
          refine Go.via (fun _ => XS.iconst X117.here hx rfl (hb hby at_184)) ?_
          refine Go.via (fun _ => XS.istore X117.here hx rfl (hb hby at_185) rfl (l' := #[iv p1, iv p2, iv p3, iv p4, .val (.long p5), .second, iv (3 : Int32), rv ta117, iv (0 : Int32), iv z0, iv z1, iv z2, iv z3, iv z4, iv (4 : Int32)]) rfl) ?_
          refine Go.via (fun _ => XS.aload X117.here hx rfl (hb hby at_187) rfl rfl) ?_
          obtain ⟨_, _, ⟨T125, L125, k125, n125⟩, -, X125, S125w, gr125, ⟨Lc125, hQ125, l125, y125, z125, cr125⟩, st125⟩ := callSS X117 hx (y := (⟨"com/example/sluice/sluice/expression/Values", "isTrue", "(Ljava/lang/Object;)Z"⟩ : MethodName)) hown (mvT hZ (ow hw 0 rfl)) (mvT hZ (ow hw 1 rfl)) (mvT hZ (ow hw 2 rfl)) (mvT hZ (ow hw 3 rfl)) (by decide) (backOfSH (W := 0) (rmIT_S1 l Z a0 hw [] bt ta117 tt117 tk117 (nar .byte (z0.toInt8.toInt32)) (nar .byte (z1.toInt8.toInt32)) (nar .byte (z2.toInt8.toInt32)) (nar .byte (z3.toInt8.toInt32)) ccs T117.heap n0 Zs117 hEW S_T (E_T.ext O117.2) (F_T.ext O117.2) te117 tv117 tc117 tw117 O117 S_CS hcs) hZ (ow hw 3 rfl) (ow hw 2 rfl) (by decide) (by decide) hEW R117.1) (g := (mkF m 189 #[iv p1, iv p2, iv p3, iv p4, .val (.long p5), .second, iv (3 : Int32), rv ta117, iv (0 : Int32), iv z0, iv z1, iv z2, iv z3, iv z4, iv (4 : Int32)] [(.ref ta117)])) rfl (by rw [hml]; rfl) (argsL := [(.ref ta117)]) (rest := []) (lenOf pd_2 rfl) rfl (by show 2 * 0 + _ ≤ _; exact Nat.le_of_eq rfl) (hb hby at_189) (fun _ _ => ⟨rfl, rfl, (by decide : 3 + 2 ≤ _), (by decide : 12 + 20 ≤ _)⟩)
          dsimp only [Pt.U, Pt.locs, Pt.cells, Pt.slots] at X125 l125 y125 z125 st125 hQ125 S125w gr125 cr125
          rw [l125, y125, z125] at X125
          replace X125 : Stand p l e _ _ m _ below meth c T125 _ 5 32 := X125
          obtain ⟨rfl, N125q, K125q⟩ := hQ125
          have N125 := Fr.app N117 N125q
          refine Go.tr st125 ?_
          obtain ⟨X125r, hS125, hZ125, hown125⟩ := rebS hS0 (hk117) X125 S125w gr125 hZ hown
          have R125 : CHr Z consts_1 s.vm h0 T125.vm T125.heap := R117.trans cr125
          have Zs125 : n0 ≤ T125.heap.size := Nat.le_trans Zs117 K125q.1
          have O125 : Old Z n0 T125.heap := O117.keep K125q all0
          have fE_ta117_125 := te117.keep K125q
          have fF_ta117_value_125 := tv117.keep K125q nin0
          have fF_ta117_coder_125 := tc117.keep K125q nin0
          have fV_tt117_125 := tw117.keep K125q nin0
          refine Go.via (fun _ => XS.iload X125r.here hx rfl (hb hby at_192) rfl) ?_
          show Go p e below _ (T125.setTop (mkF m 194 #[iv p1, iv p2, iv p3, iv p4, .val (.long p5), .second, iv (3 : Int32), rv ta117, iv (0 : Int32), iv z0, iv z1, iv z2, iv z3, iv z4, iv (4 : Int32)] [(.int (0 : Int32)), (.int (eqF (nar .byte (z0.toInt8.toInt32)) (nar .byte (z1.toInt8.toInt32)) (nar .byte (z2.toInt8.toInt32)) (nar .byte (z3.toInt8.toInt32))))]))
          have hfin : (eqF (nar .byte (z0.toInt8.toInt32)) (nar .byte (z1.toInt8.toInt32)) (nar .byte (z2.toInt8.toInt32)) (nar .byte (z3.toInt8.toInt32))) = (0 : Int32) := by rw [eqF, if_pos ((own_q0 r_z0.1 r_z0.2.1).mpr hc118), if_neg (fun q => hc119 ((own_q1 r_z1.1 r_z1.2.1).mp q))]
          refine Go.via (fun _ => XS.icmpNo X125r.here hx rfl (hb hby at_194) rfl (teq hfin).2) ?_
          refine Go.via (fun _ => XS.iconst X125r.here hx rfl (hb hby at_197)) ?_
          refine Go.via (fun _ => XS.goto X125r.here hx rfl (pc0 := 198) (pc' := 202) rfl (hb hby at_198) (by decide) (by decide)) ?_
          exact own_retNW X125r hS125 (Nat.le_refl _) hx hlk (t := .boolean) Bd.returns (by simp) (hb hby at_202) (by show Q0 Z p1 p2 p3 p4 p5 bt bf lc kL vs ccs h0 n0 _ T125.heap _; exact ⟨rfl, N125⟩) (by decide) (by decide)
      · -- no
        show Go p e below _ (T117.setTop (mkF m 156 #[iv p1, iv p2, iv p3, iv p4, .val (.long p5), .second, iv (3 : Int32), rv ta117, .unset, iv z0, iv z1, iv z2, iv z3, iv z4, iv (4 : Int32)] [(.int (116 : Int32)), (.int z0)]))
        refine Go.via (fun _ => XS.icmpYes X117.here hx rfl (pc0 := 156) (pc' := 184) rfl (hb hby at_156) rfl (feq hc118).2 (by decide) (by decide)) ?_
        refine Go.via (fun _ => XS.iconst X117.here hx rfl (hb hby at_184)) ?_
        refine Go.via (fun _ => XS.istore X117.here hx rfl (hb hby at_185) rfl (l' := #[iv p1, iv p2, iv p3, iv p4, .val (.long p5), .second, iv (3 : Int32), rv ta117, iv (0 : Int32), iv z0, iv z1, iv z2, iv z3, iv z4, iv (4 : Int32)]) rfl) ?_
        refine Go.via (fun _ => XS.aload X117.here hx rfl (hb hby at_187) rfl rfl) ?_
        obtain ⟨_, _, ⟨T126, L126, k126, n126⟩, -, X126, S126w, gr126, ⟨Lc126, hQ126, l126, y126, z126, cr126⟩, st126⟩ := callSS X117 hx (y := (⟨"com/example/sluice/sluice/expression/Values", "isTrue", "(Ljava/lang/Object;)Z"⟩ : MethodName)) hown (mvT hZ (ow hw 0 rfl)) (mvT hZ (ow hw 1 rfl)) (mvT hZ (ow hw 2 rfl)) (mvT hZ (ow hw 3 rfl)) (by decide) (backOfSH (W := 0) (rmIT_S1 l Z a0 hw [] bt ta117 tt117 tk117 (nar .byte (z0.toInt8.toInt32)) (nar .byte (z1.toInt8.toInt32)) (nar .byte (z2.toInt8.toInt32)) (nar .byte (z3.toInt8.toInt32)) ccs T117.heap n0 Zs117 hEW S_T (E_T.ext O117.2) (F_T.ext O117.2) te117 tv117 tc117 tw117 O117 S_CS hcs) hZ (ow hw 3 rfl) (ow hw 2 rfl) (by decide) (by decide) hEW R117.1) (g := (mkF m 189 #[iv p1, iv p2, iv p3, iv p4, .val (.long p5), .second, iv (3 : Int32), rv ta117, iv (0 : Int32), iv z0, iv z1, iv z2, iv z3, iv z4, iv (4 : Int32)] [(.ref ta117)])) rfl (by rw [hml]; rfl) (argsL := [(.ref ta117)]) (rest := []) (lenOf pd_2 rfl) rfl (by show 2 * 0 + _ ≤ _; exact Nat.le_of_eq rfl) (hb hby at_189) (fun _ _ => ⟨rfl, rfl, (by decide : 3 + 2 ≤ _), (by decide : 12 + 20 ≤ _)⟩)
        dsimp only [Pt.U, Pt.locs, Pt.cells, Pt.slots] at X126 l126 y126 z126 st126 hQ126 S126w gr126 cr126
        rw [l126, y126, z126] at X126
        replace X126 : Stand p l e _ _ m _ below meth c T126 _ 5 32 := X126
        obtain ⟨rfl, N126q, K126q⟩ := hQ126
        have N126 := Fr.app N117 N126q
        refine Go.tr st126 ?_
        obtain ⟨X126r, hS126, hZ126, hown126⟩ := rebS hS0 (hk117) X126 S126w gr126 hZ hown
        have R126 : CHr Z consts_1 s.vm h0 T126.vm T126.heap := R117.trans cr126
        have Zs126 : n0 ≤ T126.heap.size := Nat.le_trans Zs117 K126q.1
        have O126 : Old Z n0 T126.heap := O117.keep K126q all0
        have fE_ta117_126 := te117.keep K126q
        have fF_ta117_value_126 := tv117.keep K126q nin0
        have fF_ta117_coder_126 := tc117.keep K126q nin0
        have fV_tt117_126 := tw117.keep K126q nin0
        show Go p e below _ (T126.setTop (mkF m 192 #[iv p1, iv p2, iv p3, iv p4, .val (.long p5), .second, iv (3 : Int32), rv ta117, iv (0 : Int32), iv z0, iv z1, iv z2, iv z3, iv z4, iv (4 : Int32)] [(.int (eqF (nar .byte (z0.toInt8.toInt32)) (nar .byte (z1.toInt8.toInt32)) (nar .byte (z2.toInt8.toInt32)) (nar .byte (z3.toInt8.toInt32))))]))
        refine Go.via (fun _ => XS.iload X126r.here hx rfl (hb hby at_192) rfl) ?_
        have hfin : (eqF (nar .byte (z0.toInt8.toInt32)) (nar .byte (z1.toInt8.toInt32)) (nar .byte (z2.toInt8.toInt32)) (nar .byte (z3.toInt8.toInt32))) = (0 : Int32) := by rw [eqF, if_neg (fun q => hc118 ((own_q0 r_z0.1 r_z0.2.1).mp q))]
        refine Go.via (fun _ => XS.icmpNo X126r.here hx rfl (hb hby at_194) rfl (teq hfin).2) ?_
        refine Go.via (fun _ => XS.iconst X126r.here hx rfl (hb hby at_197)) ?_
        refine Go.via (fun _ => XS.goto X126r.here hx rfl (pc0 := 198) (pc' := 202) rfl (hb hby at_198) (by decide) (by decide)) ?_
        exact own_retNW X126r hS126 (Nat.le_refl _) hx hlk (t := .boolean) Bd.returns (by simp) (hb hby at_202) (by show Q0 Z p1 p2 p3 p4 p5 bt bf lc kL vs ccs h0 n0 _ T126.heap _; exact ⟨rfl, N126⟩) (by decide) (by decide)
    ·
      show Go p e below _ (s₁.setTop (mkF m 127 #[iv p1, iv p2, iv p3, iv p4, .val (.long p5), .second, iv (3 : Int32), .unset, .unset, iv z0, iv z1, iv z2, iv z3, iv z4, .unset] [(.int (5 : Int32))]))
      refine Go.via (fun _ => XS.istore X0.here hx rfl (hb hby at_127) rfl (l' := #[iv p1, iv p2, iv p3, iv p4, .val (.long p5), .second, iv (3 : Int32), .unset, .unset, iv z0, iv z1, iv z2, iv z3, iv z4, iv (5 : Int32)]) rfl) ?_
      refine Go.via (fun _ => XS.iload X0.here hx rfl (hb hby at_129) rfl) ?_
      refine Go.via (fun _ => XS.iload X0.here hx rfl (hb hby at_131) rfl) ?_
      show Go p e below _ (s₁.setTop (mkF m 133 #[iv p1, iv p2, iv p3, iv p4, .val (.long p5), .second, iv (3 : Int32), .unset, .unset, iv z0, iv z1, iv z2, iv z3, iv z4, iv (5 : Int32)] [(.int z0), (.int (5 : Int32))]))
      refine Go.via (fun _ => XS.iload X0.here hx rfl (hb hby at_133) rfl) ?_
      refine Go.via (fun _ => XS.iload X0.here hx rfl (hb hby at_135) rfl) ?_
      refine Go.via (fun _ => XS.iload X0.here hx rfl (hb hby at_137) rfl) ?_
      refine Go.via (fun _ => XS.iload X0.here hx rfl (hb hby at_139) rfl) ?_
      obtain ⟨_, _, ⟨T127, L127, k127, n127⟩, -, X127, ⟨Lc127, hQ127, l127, y127, z127⟩, st127⟩ := Jvm.LawKit.callS X0 hx (y := (⟨"com/example/sluice/sluice/expression/ValuesIsTruePinLaw", "text", "(ICCCCC)Ljava/lang/String;"⟩ : MethodName)) hown (mvT hZ (ow hw 64 rfl)) (mvT hZ (ow hw 65 rfl)) (mvT hZ (ow hw 66 rfl)) (mvT hZ (ow hw 67 rfl)) (by decide) (backOf (W := 0) (rmTX_5 l Z a0 hw [] z0 z1 z2 z3 z4 ccs h0 n0 Z0 r_z0.2.1 r_z1.2.1 r_z2.2.1 r_z3.2.1 r_z4.2.1 r_z0.2.2 r_z1.2.2 r_z2.2.2 r_z3.2.2 r_z4.2.2 O0 S_CS hcs) hZ (ow hw 67 rfl) (ow hw 66 rfl) (by decide) (by decide)) (g := (mkF m 141 #[iv p1, iv p2, iv p3, iv p4, .val (.long p5), .second, iv (3 : Int32), .unset, .unset, iv z0, iv z1, iv z2, iv z3, iv z4, iv (5 : Int32)] [(.int z4), (.int z3), (.int z2), (.int z1), (.int z0), (.int (5 : Int32))])) rfl (by rw [hml]; rfl) (argsL := [(.int (5 : Int32)), (.int z0), (.int z1), (.int z2), (.int z3), (.int z4)]) (rest := []) (lenOf pd_12 rfl) rfl (by show 2 * 0 + _ ≤ _; exact Nat.le_of_eq rfl) (hb hby at_141) (fun _ _ => ⟨rfl, e0, (by decide : 0 + 3 ≤ _), (by decide : 0 + 14 ≤ _)⟩)
      dsimp only [Pt.U, Pt.locs, Pt.cells, Pt.slots] at X127 l127 y127 z127 st127 hQ127
      rw [l127, y127, z127] at X127
      replace X127 : Stand p l e _ _ m _ below meth c T127 _ 3 14 := X127
      obtain ⟨ta127, tt127, tk127, rfl, N127q, K127q, te127, tv127, tc127, tw127⟩ := hQ127
      have N127 := Fr.app N0 N127q
      refine Go.via st127 ?_
      have Zs127 : n0 ≤ T127.heap.size := Nat.le_trans Z0 K127q.1
      have hk127 : 0 ≤ T127.heap.size := Nat.le_trans hk0 K127q.1
      have R127 : CHr Z consts_1 s.vm h0 s.vm T127.heap := R0.trans (CHr.keep K127q all0 R0.1)
      have O127 : Old Z n0 T127.heap := O0.keep K127q all0
      refine Go.via (fun _ => XS.astore X127.here hx rfl (hb hby at_144) rfl rfl (l' := #[iv p1, iv p2, iv p3, iv p4, .val (.long p5), .second, iv (3 : Int32), rv ta127, .unset, iv z0, iv z1, iv z2, iv z3, iv z4, iv (5 : Int32)]) rfl) ?_
      show Go p e below _ (T127.setTop (mkF m 146 #[iv p1, iv p2, iv p3, iv p4, .val (.long p5), .second, iv (3 : Int32), rv ta127, .unset, iv z0, iv z1, iv z2, iv z3, iv z4, iv (5 : Int32)] []))
      refine Go.via (fun _ => XS.iload X127.here hx rfl (hb hby at_146) rfl) ?_
      refine Go.via (fun _ => XS.iconst X127.here hx rfl (hb hby at_148)) ?_
      refine Go.via (fun _ => XS.icmpYes X127.here hx rfl (pc0 := 149) (pc' := 184) rfl (hb hby at_149) rfl (by decide) (by decide) (by decide)) ?_
      refine Go.via (fun _ => XS.iconst X127.here hx rfl (hb hby at_184)) ?_
      refine Go.via (fun _ => XS.istore X127.here hx rfl (hb hby at_185) rfl (l' := #[iv p1, iv p2, iv p3, iv p4, .val (.long p5), .second, iv (3 : Int32), rv ta127, iv (0 : Int32), iv z0, iv z1, iv z2, iv z3, iv z4, iv (5 : Int32)]) rfl) ?_
      refine Go.via (fun _ => XS.aload X127.here hx rfl (hb hby at_187) rfl rfl) ?_
      show Go p e below _ (T127.setTop (mkF m 189 #[iv p1, iv p2, iv p3, iv p4, .val (.long p5), .second, iv (3 : Int32), rv ta127, iv (0 : Int32), iv z0, iv z1, iv z2, iv z3, iv z4, iv (5 : Int32)] [(.ref ta127)]))
      obtain ⟨_, _, ⟨T128, L128, k128, n128⟩, -, X128, S128w, gr128, ⟨Lc128, hQ128, l128, y128, z128, cr128⟩, st128⟩ := callSS X127 hx (y := (⟨"com/example/sluice/sluice/expression/Values", "isTrue", "(Ljava/lang/Object;)Z"⟩ : MethodName)) hown (mvT hZ (ow hw 0 rfl)) (mvT hZ (ow hw 1 rfl)) (mvT hZ (ow hw 2 rfl)) (mvT hZ (ow hw 3 rfl)) (by decide) (backOfSH (W := 0) (rmIT_S0 l Z a0 hw [] bt ta127 tt127 tk127 (5 : Int32) _ ccs T127.heap n0 Zs127 hEW S_T (E_T.ext O127.2) (F_T.ext O127.2) te127 tv127 tc127 tw127 (by decide) O127 S_CS hcs) hZ (ow hw 3 rfl) (ow hw 2 rfl) (by decide) (by decide) hEW R127.1) (g := (mkF m 189 #[iv p1, iv p2, iv p3, iv p4, .val (.long p5), .second, iv (3 : Int32), rv ta127, iv (0 : Int32), iv z0, iv z1, iv z2, iv z3, iv z4, iv (5 : Int32)] [(.ref ta127)])) rfl (by rw [hml]; rfl) (argsL := [(.ref ta127)]) (rest := []) (lenOf pd_2 rfl) rfl (by show 2 * 0 + _ ≤ _; exact Nat.le_of_eq rfl) (hb hby at_189) (fun _ _ => ⟨rfl, rfl, (by decide : 3 + 2 ≤ _), (by decide : 14 + 20 ≤ _)⟩)
      dsimp only [Pt.U, Pt.locs, Pt.cells, Pt.slots] at X128 l128 y128 z128 st128 hQ128 S128w gr128 cr128
      rw [l128, y128, z128] at X128
      replace X128 : Stand p l e _ _ m _ below meth c T128 _ 5 34 := X128
      obtain ⟨rfl, N128q, K128q⟩ := hQ128
      have N128 := Fr.app N127 N128q
      refine Go.tr st128 ?_
      obtain ⟨X128r, hS128, hZ128, hown128⟩ := rebS hS0 (hk127) X128 S128w gr128 hZ hown
      have R128 : CHr Z consts_1 s.vm h0 T128.vm T128.heap := R127.trans cr128
      have Zs128 : n0 ≤ T128.heap.size := Nat.le_trans Zs127 K128q.1
      have O128 : Old Z n0 T128.heap := O127.keep K128q all0
      have fE_ta127_128 := te127.keep K128q
      have fF_ta127_value_128 := tv127.keep K128q nin0
      have fF_ta127_coder_128 := tc127.keep K128q nin0
      have fV_tt127_128 := tw127.keep K128q nin0
      refine Go.via (fun _ => XS.iload X128r.here hx rfl (hb hby at_192) rfl) ?_
      refine Go.via (fun _ => XS.icmpNo X128r.here hx rfl (hb hby at_194) rfl (by decide)) ?_
      refine Go.via (fun _ => XS.iconst X128r.here hx rfl (hb hby at_197)) ?_
      refine Go.via (fun _ => XS.goto X128r.here hx rfl (pc0 := 198) (pc' := 202) rfl (hb hby at_198) (by decide) (by decide)) ?_
      exact own_retNW X128r hS128 (Nat.le_refl _) hx hlk (t := .boolean) Bd.returns (by simp) (hb hby at_202) (by show Q0 Z p1 p2 p3 p4 p5 bt bf lc kL vs ccs h0 n0 _ T128.heap _; exact ⟨rfl, N128⟩) (by decide) (by decide)
theorem own_eq_int {t : Term} {n : Int32} {args : Array Value} {s : State} (h : (Cond.eq t (.int n)).value args s none s [] = some true) : t.eval args s none [] s = some (.int n) := by
  simp only [Cond.value, Term.eval] at h
  split at h <;> simp_all
set_option maxRecDepth 65536 in
set_option maxHeartbeats 40000000 in
theorem comes_1 {Post : Tables → Env → Array Value → State → Outcome → State → Prop} (hpost : ∀ tb e args s v u, (limb_1_1.after args s (.returned v) u = true ∧ limb_1_2.after args s (.returned v) u = true ∧ True) → ReturnedEndW s (.returned v) u (Jvm.fieldLocs frame_1_writes args s ++ Jvm.arrayLocs frame_1_arrays args s ++ Jvm.staticLocs frame_1_statics s) 24 2176 → Post tb e args s (.returned v) u) :
    ArmFor flags0 classFile x code maxLocals ret World_1 tables_1 room_1 Calls_1 rest_1 Pre_1 Post := by
  intro l hfl _ _ p e ha hc hk s m args below hf hA hF happ hP
  obtain ⟨hcalls, hrest, hpre⟩ := hP
  obtain ⟨-, -, -, hnamed, -, -, -, hat⟩ := (Spec.applies_iff hf).mp happ
  obtain ⟨hg, hn⟩ := and_e (Cond.before_iff.mp (show (Jvm.Cond.and given_1 narrow_1).before args s = true from hpre))
  obtain ⟨g1, g2⟩ := and_e hg
  obtain ⟨g3, g4⟩ := and_e g2
  obtain ⟨g5, g6⟩ := and_e g4
  obtain ⟨g7, g8⟩ := and_e g6
  obtain ⟨g9, g10⟩ := and_e g8
  obtain ⟨w0, w1, w2, w3, w4, rfl⟩ : ∃ w0 w1 w2 w3 w4 : Value, args = #[w0, w1, w2, w3, w4] := by
    have hs : args.size = 5 := by simpa [Cond.value, given_1] using g1
    obtain ⟨L⟩ := args
    match L, hs with
    | [w0, w1, w2, w3, w4], _ => exact ⟨w0, w1, w2, w3, w4, rfl⟩
  have hw := fun d (hd : d ∈ tables_1) => atoms_spec (ws := Jvm.Cond.code x code maxLocals ret :: tables_1) hat d (List.mem_cons_of_mem _ hd)
  obtain ⟨hsets, hown0⟩ := atoms_of _ (rest_1_c_eq ▸ (show rest_1_c.before _ s = true from hrest))
  have hr0 := Cond.before_iff.mp hown0
  have hfit : Fit s := fun {y c} hc i hi => by
    obtain ⟨ha, rfl⟩ := Array.getElem?_eq_some_iff.mp hc
    have q := List.all_eq_true.mp ((Array.all_eq_true_iff_forall_mem.mp hF) _ (Array.getElem_mem ha)) i (List.mem_range.mpr hi)
    simpa [Array.getElem?_eq_getElem hi] using q
  obtain ⟨i0, ei0⟩ := is_v g3
  obtain rfl : w0 = (.int i0) := Option.some.inj ei0
  obtain ⟨i1, ei1⟩ := is_v g5
  obtain rfl : w1 = (.int i1) := Option.some.inj ei1
  obtain ⟨i2, ei2⟩ := is_v g7
  obtain rfl : w2 = (.int i2) := Option.some.inj ei2
  obtain ⟨i3, ei3⟩ := is_v g9
  obtain rfl : w3 = (.int i3) := Option.some.inj ei3
  obtain ⟨i4, ei4⟩ := isL_v g10
  obtain rfl : w4 = (.long i4) := Option.some.inj ei4
  obtain ⟨ccs, ecs⟩ := is_v (Cond.before_iff.mp (hsets _ (List.mem_of_getElem? (i := 5) rfl)))
  have S_CS : Sta s s.heap "java/lang/String" "COMPACT_STRINGS" "Z" (.int ccs) := Sta.start ecs (Or.inl (hsets _ (List.mem_of_getElem? (i := 4) rfl)))
  have ncs := not_v (Cond.before_iff.mp (hsets _ (List.mem_of_getElem? (i := 6) rfl)))
  have hcs : ¬ (ccs = (0 : Int32)) := gotF (Cond.eq_ints ecs (Term.int_eval (0))) ncs
  obtain ⟨bt, evT⟩ := exa_v (Cond.before_iff.mp (hsets _ (List.mem_of_getElem? (i := 2) rfl)))
  have E_T := Exa.start evT (Cond.before_iff.mp (hsets _ (List.mem_of_getElem? (i := 2) rfl)))
  have S_T := Sta.start evT (Or.inl (hsets _ (List.mem_of_getElem? (i := 1) rfl)))
  have F_T : Fld s s.heap bt "java/lang/Boolean" "value" "Z" (.int (1 : Int32)) := Fld.start ((fld_at evT).symm.trans (own_eq_int (Cond.before_iff.mp (hsets _ (List.mem_of_getElem? (i := 3) rfl)))))
  obtain ⟨bf, evF⟩ := exa_v (Cond.before_iff.mp (hsets _ (List.mem_of_getElem? (i := 15) rfl)))
  have E_F := Exa.start evF (Cond.before_iff.mp (hsets _ (List.mem_of_getElem? (i := 15) rfl)))
  have S_F := Sta.start evF (Or.inl (hsets _ (List.mem_of_getElem? (i := 14) rfl)))
  have F_F : Fld s s.heap bf "java/lang/Boolean" "value" "Z" (.int (0 : Int32)) := Fld.start ((fld_at evF).symm.trans (own_eq_int (Cond.before_iff.mp (hsets _ (List.mem_of_getElem? (i := 16) rfl)))))
  obtain ⟨lc, evL⟩ := exa_v (Cond.before_iff.mp (hsets _ (List.mem_of_getElem? (i := 20) rfl)))
  obtain ⟨cC, AC⟩ := Arr.start evL (Cond.before_iff.mp (hsets _ (List.mem_of_getElem? (i := 19) rfl)))
  have S_L := Sta.start evL (Or.inl (hsets _ (List.mem_of_getElem? (i := 18) rfl)))
  obtain ⟨vs, VC, hel⟩ := own_cache (fun _ => evL) AC (own_eq_int (Cond.before_iff.mp (hsets _ (List.mem_of_getElem? (i := 21) rfl)))) (Cond.before_iff.mp (hsets _ (List.mem_of_getElem? (i := 22) rfl)))
  have hEW : EW s #[.int i0, .int i1, .int i2, .int i3, .long i4] consts_1 := EW.cons (ow hw 11 rfl) (by decide +kernel) (EW.cons (ow hw 98 rfl) (by decide +kernel) EW.nil)
  have hCH : CHv s consts_1 s.vm s.heap := CHv.start hEW (fun p hp => hcalls.1 p hp) (hsets _ (List.mem_of_getElem? (i := 6) rfl)) (ow hw 14 rfl) (ow hw 13 rfl)
  obtain ⟨n, o, h1, h2, h3, _, L, rfl, ⟨rfl, N⟩, hq⟩ := rm0 l s _ hw tables_1 i0 i1 i2 i3 i4 bt bf lc _ vs ccs s.heap s.heap.size (Nat.le_refl _) hEW S_T E_T F_T S_F E_F F_F S_L VC hel (Old.start s) S_CS hcs p e ha hc hk s m _ below hf ((Spec.applies_iff_loose hf).mp happ).1 ⟨rfl, State.Warmed39.refl s, rfl, hCH⟩ trivial
  refine ⟨n, _, h1, h2, h3, hpost _ _ _ _ _ _ ⟨Cond.after_iff.mpr rfl, Cond.after_iff.mpr (eq_i res_at (Term.int_eval (1)) rfl), trivial⟩ ⟨hq.1, hq.2.1, hq.2.2.1, (hq.2.2.2.sift fun y hy => Or.inr (N y hy)).mono (by decide) (by decide)⟩⟩
theorem main_1_1 : Claimed_1_1 := comes_1 fun _ _ _ _ _ _ h hF => ⟨h.1, hF⟩
theorem main_1_2 : Claimed_1_2 := comes_1 fun _ _ _ _ _ _ h hF => ⟨h.2.1, hF⟩
end Jvm.Pilot.@@N@@
namespace Jvm.Pilot.@@N@@
open Jvm Jvm.ClassFile Sem Op Lib Jvm.Free Jvm.Stand Jvm.Pilot.@@N@@.Jvm.D
/-! MADE BY PROGRAM (witnessworld.py) out of the Statement's table words and the real class files: 25 classes; the members and pool entries that the words name. The judged class is class 1, her method 1. -/
namespace start1
open Jvm.ClassFile
def u (s : String) : CpInfo := .utf8 (stringToUtf16 s)
/-- a pool by its gaps: so many unusable entries, then the entry; so many at the end -/
def gap : Nat → List CpInfo → List CpInfo
  | 0, r => r
  | n + 1, r => .unusable :: gap n r
def poolList (es : List (Nat × CpInfo)) (last : Nat) : List CpInfo := es.foldr (fun e r => gap e.1 (e.2 :: r)) (gap last [])
def pool (es : List (Nat × CpInfo)) (last : Nat) : Array CpInfo := ⟨poolList es last⟩
def fileOf (pool : Array CpInfo) (this : Nat) (attrs : Array Attribute := #[]) (ms : Array MethodInfo := #[]) (fl : Nat := 33) (sup : Nat := 0) (ifs : Array Nat := #[]) (fds : Array FieldInfo := #[]) : ClassFile where
  minorVersion := 0
  majorVersion := 65
  constantPool := pool
  accessFlags := fl
  thisClass := this
  superClass := sup
  interfaces := ifs
  fields := fds
  methods := ms
  attributes := attrs
def plain (name : String) (sup : Option ClassId) : Class where
  name := name
  kind := .ordinary
  loader := none
  accessFlags := 33
  super := sup
  interfaces := #[]
  cf := none
  fields := #[]
  methods := #[]
  instanceTypes := #[]
  staticTypes := #[]
  resolved := #[]
  callSites := []
  init := .initialized
  statics := none
  mirror := none

def pool0 : Array CpInfo := pool [(5, u "<init>"), (0, u "()V"), (1, .class_ 10), (1, u "java/lang/Object")] 113

def k0c0 : Code := { maxStack := 0, maxLocals := 1, code := object_method_1_code, exceptionTable := #[], attributes := #[] }
def k0m0 : Method := { name := "<init>", desc := "()V", sig := { parameters := [], returnType := none }, accessFlags := 1, code := some k0c0 }
/-- java/lang/Object -/
def k0 : Class := { plain "java/lang/Object" none with
  accessFlags := 33
  interfaces := #[]
  cf := some (fileOf pool0 8 #[] #[{ accessFlags := 1, nameIndex := 5, descriptorIndex := 6, attributes := #[] }] 33 0 #[] #[])
  fields := #[]
  methods := #[k0m0]
  instanceTypes := #[]
  staticTypes := #[]
  resolved := Array.replicate 124 none
  statics := none }

def pool1 : Array CpInfo := pool [(2, .class_ 4), (1, u "java/lang/Object"), (0, u "<init>"), (0, u "()V"), (0, .methodref 8 9), (0, .class_ 10), (0, .nameAndType 11 12), (0, u "java/lang/Boolean"), (0, u "valueOf"), (0, u "(Z)Ljava/lang/Boolean;"), (0, .methodref 14 15), (0, .class_ 16), (0, .nameAndType 11 17), (0, u "java/lang/Long"), (0, u "(J)Ljava/lang/Long;"), (0, .methodref 19 20), (0, .class_ 21), (0, .nameAndType 22 23), (0, u "com/example/sluice/sluice/expression/ValuesIsTruePinLaw"), (0, u "text"), (0, u "(ICCCCC)Ljava/lang/String;"), (0, .methodref 25 26), (0, .class_ 27), (0, .nameAndType 28 29), (0, u "com/example/sluice/sluice/expression/Values"), (0, u "isTrue"), (0, u "(Ljava/lang/Object;)Z"), (0, .class_ 31), (0, u "java/lang/String"), (0, .methodref 30 33), (0, .nameAndType 5 34), (0, u "([C)V"), (2, u "law"), (0, u "(IIIIJ)Z")] 3

def k1m0 : Method := { name := "<init>", desc := "()V", sig := { parameters := [], returnType := none }, accessFlags := 2, code := none }
def k1c1 : Code := { maxStack := 6, maxLocals := 15, code := code, exceptionTable := #[], attributes := #[] }
def k1m1 : Method := { name := "law", desc := "(IIIIJ)Z", sig := { parameters := [.int, .int, .int, .int, .long], returnType := some .boolean }, accessFlags := 9, code := some k1c1 }
def k1c2 : Code := { maxStack := 6, maxLocals := 6, code := method_3_code, exceptionTable := #[], attributes := #[] }
def k1m2 : Method := { name := "text", desc := "(ICCCCC)Ljava/lang/String;", sig := { parameters := [.int, .char, .char, .char, .char, .char], returnType := some (.object "java/lang/String") }, accessFlags := 10, code := some k1c2 }
/-- com/example/sluice/sluice/expression/ValuesIsTruePinLaw -/
def k1 : Class := { plain "com/example/sluice/sluice/expression/ValuesIsTruePinLaw" (some 0) with
  accessFlags := 49
  interfaces := #[]
  cf := some (fileOf pool1 19 #[] #[{ accessFlags := 2, nameIndex := 5, descriptorIndex := 6, attributes := #[] }, { accessFlags := 9, nameIndex := 37, descriptorIndex := 38, attributes := #[] }, { accessFlags := 10, nameIndex := 22, descriptorIndex := 23, attributes := #[] }] 49 2 #[] #[])
  fields := #[]
  methods := #[k1m0, k1m1, k1m2]
  instanceTypes := #[]
  staticTypes := #[]
  resolved := Array.replicate 42 none
  statics := none }

def pool2 : Array CpInfo := pool [(2, .class_ 4), (1, u "java/lang/Object"), (0, u "<init>"), (0, u "()V"), (7, .class_ 16), (1, u "java/lang/String"), (9, .class_ 28), (1, u "com/example/sluice/sluice/expression/Values"), (39, .fieldref 69 70), (0, .class_ 71), (0, .nameAndType 72 73), (0, u "java/lang/Boolean"), (0, u "TRUE"), (0, u "Ljava/lang/Boolean;"), (0, .methodref 69 75), (0, .nameAndType 76 77), (0, u "equals"), (0, u "(Ljava/lang/Object;)Z"), (0, .string 79), (0, u "true"), (0, .methodref 14 75), (7, u "isTrue")] 19

def k2m0 : Method := { name := "<init>", desc := "()V", sig := { parameters := [], returnType := none }, accessFlags := 2, code := none }
def k2c1 : Code := { maxStack := 2, maxLocals := 1, code := prog_11_method_7_code, exceptionTable := #[], attributes := #[] }
def k2m1 : Method := { name := "isTrue", desc := "(Ljava/lang/Object;)Z", sig := { parameters := [(.object "java/lang/Object")], returnType := some .boolean }, accessFlags := 8, code := some k2c1 }
/-- com/example/sluice/sluice/expression/Values -/
def k2 : Class := { plain "com/example/sluice/sluice/expression/Values" (some 0) with
  accessFlags := 48
  interfaces := #[]
  cf := some (fileOf pool2 26 #[] #[{ accessFlags := 2, nameIndex := 5, descriptorIndex := 6, attributes := #[] }, { accessFlags := 8, nameIndex := 88, descriptorIndex := 77, attributes := #[] }] 48 2 #[] #[])
  fields := #[]
  methods := #[k2m0, k2m1]
  instanceTypes := #[]
  staticTypes := #[]
  resolved := Array.replicate 108 none
  statics := none }

def pool3 : Array CpInfo := pool [(1, .class_ 2), (0, u "java/io/Serializable"), (0, .class_ 4), (0, u "java/lang/Object")] 2

/-- java/io/Serializable -/
def k3 : Class := { plain "java/io/Serializable" (some 0) with
  accessFlags := 1537
  interfaces := #[]
  cf := some (fileOf pool3 1 #[] #[] 1537 3 #[] #[])
  fields := #[]
  methods := #[]
  instanceTypes := #[]
  staticTypes := #[]
  resolved := Array.replicate 7 none
  statics := none }

def pool4 : Array CpInfo := pool [(1, .class_ 2), (0, u "java/lang/Comparable"), (0, .class_ 4), (0, u "java/lang/Object")] 7

/-- java/lang/Comparable -/
def k4 : Class := { plain "java/lang/Comparable" (some 0) with
  accessFlags := 1537
  interfaces := #[]
  cf := some (fileOf pool4 1 #[] #[] 1537 3 #[] #[])
  fields := #[]
  methods := #[]
  instanceTypes := #[]
  staticTypes := #[]
  resolved := Array.replicate 12 none
  statics := none }

def pool5 : Array CpInfo := pool [(1, .class_ 2), (0, u "java/lang/constant/Constable"), (0, .class_ 4), (0, u "java/lang/Object")] 6

/-- java/lang/constant/Constable -/
def k5 : Class := { plain "java/lang/constant/Constable" (some 0) with
  accessFlags := 1537
  interfaces := #[]
  cf := some (fileOf pool5 1 #[] #[] 1537 3 #[] #[])
  fields := #[]
  methods := #[]
  instanceTypes := #[]
  staticTypes := #[]
  resolved := Array.replicate 11 none
  statics := none }

def pool6 : Array CpInfo := pool [(2, .class_ 4), (1, u "java/lang/Object"), (2, .fieldref 8 9), (0, .class_ 10), (0, .nameAndType 11 12), (0, u "java/lang/Boolean"), (0, u "value"), (0, u "Z"), (14, .fieldref 8 28), (0, .nameAndType 29 30), (0, u "TRUE"), (0, u "Ljava/lang/Boolean;"), (0, .fieldref 8 32), (0, .nameAndType 33 30), (0, u "FALSE"), (2, u "valueOf"), (5, .methodref 8 43), (0, .nameAndType 44 45), (0, u "booleanValue"), (0, u "()Z"), (41, u "TYPE"), (0, u "Ljava/lang/Class;"), (0, .class_ 90), (0, u "java/io/Serializable"), (0, .class_ 92), (0, u "java/lang/Comparable"), (0, .class_ 94), (0, u "java/lang/constant/Constable"), (2, u "serialVersionUID"), (0, u "J"), (18, u "(Z)Ljava/lang/Boolean;"), (6, u "equals"), (0, u "(Ljava/lang/Object;)Z")] 26

def k6c0 : Code := { maxStack := 1, maxLocals := 1, code := jdk_2055_method_4_code, exceptionTable := #[], attributes := #[] }
def k6m0 : Method := { name := "booleanValue", desc := "()Z", sig := { parameters := [], returnType := some .boolean }, accessFlags := 1, code := some k6c0 }
def k6c1 : Code := { maxStack := 1, maxLocals := 1, code := jdk_2055_method_5_code, exceptionTable := #[], attributes := #[] }
def k6m1 : Method := { name := "valueOf", desc := "(Z)Ljava/lang/Boolean;", sig := { parameters := [.boolean], returnType := some (.object "java/lang/Boolean") }, accessFlags := 9, code := some k6c1 }
def k6c2 : Code := { maxStack := 2, maxLocals := 2, code := jdk_2055_method_11_code, exceptionTable := #[], attributes := #[] }
def k6m2 : Method := { name := "equals", desc := "(Ljava/lang/Object;)Z", sig := { parameters := [(.object "java/lang/Object")], returnType := some .boolean }, accessFlags := 1, code := some k6c2 }
/-- java/lang/Boolean -/
def k6 : Class := { plain "java/lang/Boolean" (some 0) with
  accessFlags := 49
  interfaces := #[3, 4, 5]
  cf := some (fileOf pool6 8 #[] #[{ accessFlags := 1, nameIndex := 44, descriptorIndex := 45, attributes := #[] }, { accessFlags := 9, nameIndex := 36, descriptorIndex := 117, attributes := #[] }, { accessFlags := 1, nameIndex := 124, descriptorIndex := 125, attributes := #[] }] 49 2 #[89, 91, 93] #[{ accessFlags := 25, nameIndex := 29, descriptorIndex := 30, attributes := #[] }, { accessFlags := 25, nameIndex := 33, descriptorIndex := 30, attributes := #[] }, { accessFlags := 25, nameIndex := 87, descriptorIndex := 88, attributes := #[] }, { accessFlags := 18, nameIndex := 11, descriptorIndex := 12, attributes := #[] }, { accessFlags := 26, nameIndex := 97, descriptorIndex := 98, attributes := #[] }])
  fields := #[{ name := "TRUE", type := (.object "java/lang/Boolean"), accessFlags := 25, slot := 0, constantValue := 0 }, { name := "FALSE", type := (.object "java/lang/Boolean"), accessFlags := 25, slot := 1, constantValue := 0 }, { name := "TYPE", type := (.object "java/lang/Class"), accessFlags := 25, slot := 2, constantValue := 0 }, { name := "value", type := .boolean, accessFlags := 18, slot := 0, constantValue := 0 }, { name := "serialVersionUID", type := .long, accessFlags := 26, slot := 3, constantValue := 0 }]
  methods := #[k6m0, k6m1, k6m2]
  instanceTypes := #[.boolean]
  staticTypes := #[(.object "java/lang/Boolean"), (.object "java/lang/Boolean"), (.object "java/lang/Class"), .long]
  resolved := Array.replicate 152 none
  statics := some 0 }

def pool7 : Array CpInfo := pool [(2, .class_ 4), (1, u "java/lang/CharSequence"), (42, .class_ 48), (0, u "java/lang/CharSequence$1CodePointIterator"), (10, .class_ 60), (0, u "java/lang/CharSequence$1CharIterator"), (5, .class_ 67), (0, u "java/lang/Object")] 63

/-- java/lang/CharSequence -/
def k7 : Class := { plain "java/lang/CharSequence" (some 0) with
  accessFlags := 1537
  interfaces := #[]
  cf := some (fileOf pool7 2 #[.nestMembers #[47, 59]] #[] 1537 66 #[] #[])
  fields := #[]
  methods := #[]
  instanceTypes := #[]
  staticTypes := #[]
  resolved := Array.replicate 131 none
  statics := none }

def pool8 : Array CpInfo := pool [(1, .class_ 2), (0, u "java/lang/constant/ConstantDesc"), (0, .class_ 4), (0, u "java/lang/Object")] 32

/-- java/lang/constant/ConstantDesc -/
def k8 : Class := { plain "java/lang/constant/ConstantDesc" (some 0) with
  accessFlags := 1537
  interfaces := #[]
  cf := some (fileOf pool8 1 #[] #[] 1537 3 #[] #[])
  fields := #[]
  methods := #[]
  instanceTypes := #[]
  staticTypes := #[]
  resolved := Array.replicate 37 none
  statics := none }

def pool9 : Array CpInfo := pool [(1, .methodref 2 3), (0, .class_ 4), (0, .nameAndType 5 6), (0, u "java/lang/Object"), (0, u "<init>"), (0, u "()V"), (0, .string 8), (0, u ""), (0, .fieldref 10 11), (0, .class_ 12), (0, .nameAndType 13 14), (0, u "java/lang/String"), (0, u "value"), (0, u "[B"), (0, .fieldref 10 16), (0, .nameAndType 17 18), (0, u "coder"), (0, u "B"), (2, u "hash"), (0, u "I"), (2, u "hashIsZero"), (0, u "Z"), (0, .methodref 10 28), (0, .nameAndType 5 29), (0, u "([CIILjava/lang/Void;)V"), (8, .fieldref 10 39), (0, .nameAndType 40 26), (0, u "COMPACT_STRINGS"), (1, .class_ 44), (1, u "java/lang/StringUTF16"), (0, u "compress"), (1, .methodref 42 48), (0, .nameAndType 49 50), (0, u "coderFromArrayLen"), (0, u "([BI)B"), (56, .class_ 109), (1, u "java/lang/StringLatin1"), (67, .methodref 42 178), (0, .nameAndType 45 179), (0, u "([CII)[B"), (361, .methodref 107 542), (0, .nameAndType 543 544), (0, u "equals"), (0, u "([B[B)Z"), (28, u "(Ljava/lang/Object;)Z"), (1, .class_ 576), (0, u "java/lang/CharSequence"), (22, u "CASE_INSENSITIVE_ORDER"), (0, u "Ljava/util/Comparator;"), (409, u "([C)V"), (90, u "serialPersistentFields"), (0, u "[Ljava/io/ObjectStreamField;"), (0, .class_ 1104), (0, u "java/lang/String$CaseInsensitiveComparator"), (1, .class_ 1107), (0, u "java/io/Serializable"), (0, .class_ 1109), (0, u "java/lang/Comparable"), (0, .class_ 1111), (0, u "java/lang/constant/Constable"), (0, .class_ 1113), (0, u "java/lang/constant/ConstantDesc"), (2, u "serialVersionUID"), (0, u "J"), (3, u "REPL"), (0, u "C"), (2, u "LATIN1"), (1, u "UTF16")] 323

def k9m0 : Method := { name := "<init>", desc := "()V", sig := { parameters := [], returnType := none }, accessFlags := 1, code := none }
def k9c1 : Code := { maxStack := 5, maxLocals := 2, code := jdk_42_method_3_code, exceptionTable := #[], attributes := #[] }
def k9m1 : Method := { name := "<init>", desc := "([C)V", sig := { parameters := [(.array .char)], returnType := none }, accessFlags := 1, code := some k9c1 }
def k9c2 : Code := { maxStack := 2, maxLocals := 3, code := jdk_42_method_66_code, exceptionTable := #[], attributes := #[] }
def k9m2 : Method := { name := "equals", desc := "(Ljava/lang/Object;)Z", sig := { parameters := [(.object "java/lang/Object")], returnType := some .boolean }, accessFlags := 1, code := some k9c2 }
def k9c3 : Code := { maxStack := 4, maxLocals := 6, code := jdk_42_method_149_code, exceptionTable := #[], attributes := #[] }
def k9m3 : Method := { name := "<init>", desc := "([CIILjava/lang/Void;)V", sig := { parameters := [(.array .char), .int, .int, (.object "java/lang/Void")], returnType := none }, accessFlags := 2, code := some k9c3 }
/-- java/lang/String -/
def k9 : Class := { plain "java/lang/String" (some 0) with
  accessFlags := 49
  interfaces := #[3, 4, 7, 5, 8]
  cf := some (fileOf pool9 10 #[.nestMembers #[1103]] #[{ accessFlags := 1, nameIndex := 5, descriptorIndex := 6, attributes := #[] }, { accessFlags := 1, nameIndex := 5, descriptorIndex := 1010, attributes := #[] }, { accessFlags := 1, nameIndex := 543, descriptorIndex := 573, attributes := #[] }, { accessFlags := 2, nameIndex := 5, descriptorIndex := 29, attributes := #[] }] 49 2 #[1106, 1108, 575, 1110, 1112] #[{ accessFlags := 18, nameIndex := 13, descriptorIndex := 14, attributes := #[] }, { accessFlags := 18, nameIndex := 17, descriptorIndex := 18, attributes := #[] }, { accessFlags := 2, nameIndex := 21, descriptorIndex := 22, attributes := #[] }, { accessFlags := 2, nameIndex := 25, descriptorIndex := 26, attributes := #[] }, { accessFlags := 26, nameIndex := 1116, descriptorIndex := 1117, attributes := #[] }, { accessFlags := 24, nameIndex := 40, descriptorIndex := 26, attributes := #[] }, { accessFlags := 26, nameIndex := 1101, descriptorIndex := 1102, attributes := #[] }, { accessFlags := 26, nameIndex := 1121, descriptorIndex := 1122, attributes := #[] }, { accessFlags := 25, nameIndex := 599, descriptorIndex := 600, attributes := #[] }, { accessFlags := 24, nameIndex := 1125, descriptorIndex := 18, attributes := #[] }, { accessFlags := 24, nameIndex := 1127, descriptorIndex := 18, attributes := #[] }])
  fields := #[{ name := "value", type := (.array .byte), accessFlags := 18, slot := 0, constantValue := 0 }, { name := "coder", type := .byte, accessFlags := 18, slot := 1, constantValue := 0 }, { name := "hash", type := .int, accessFlags := 2, slot := 2, constantValue := 0 }, { name := "hashIsZero", type := .boolean, accessFlags := 2, slot := 3, constantValue := 0 }, { name := "serialVersionUID", type := .long, accessFlags := 26, slot := 0, constantValue := 0 }, { name := "COMPACT_STRINGS", type := .boolean, accessFlags := 24, slot := 1, constantValue := 0 }, { name := "serialPersistentFields", type := (.array (.object "java/io/ObjectStreamField")), accessFlags := 26, slot := 2, constantValue := 0 }, { name := "REPL", type := .char, accessFlags := 26, slot := 3, constantValue := 0 }, { name := "CASE_INSENSITIVE_ORDER", type := (.object "java/util/Comparator"), accessFlags := 25, slot := 4, constantValue := 0 }, { name := "LATIN1", type := .byte, accessFlags := 24, slot := 5, constantValue := 0 }, { name := "UTF16", type := .byte, accessFlags := 24, slot := 6, constantValue := 0 }]
  methods := #[k9m0, k9m1, k9m2, k9m3]
  instanceTypes := #[(.array .byte), .byte, .int, .boolean]
  staticTypes := #[.long, .boolean, (.array (.object "java/io/ObjectStreamField")), .char, (.object "java/util/Comparator"), .byte, .byte]
  resolved := Array.replicate 1451 none
  statics := some 1 }

def pool10 : Array CpInfo := pool [(1, .methodref 2 3), (0, .class_ 4), (0, .nameAndType 5 6), (0, u "java/lang/Object"), (0, u "<init>"), (0, u "()V"), (1, .class_ 10), (1, u "java/lang/Number"), (2, .class_ 14), (0, u "java/io/Serializable"), (0, u "serialVersionUID"), (0, u "J")] 20

def k10c0 : Code := { maxStack := 1, maxLocals := 1, code := jdk_18_method_1_code, exceptionTable := #[], attributes := #[] }
def k10m0 : Method := { name := "<init>", desc := "()V", sig := { parameters := [], returnType := none }, accessFlags := 1, code := some k10c0 }
/-- java/lang/Number -/
def k10 : Class := { plain "java/lang/Number" (some 0) with
  accessFlags := 1057
  interfaces := #[3]
  cf := some (fileOf pool10 8 #[] #[{ accessFlags := 1, nameIndex := 5, descriptorIndex := 6, attributes := #[] }] 1057 2 #[13] #[{ accessFlags := 26, nameIndex := 15, descriptorIndex := 16, attributes := #[] }])
  fields := #[{ name := "serialVersionUID", type := .long, accessFlags := 26, slot := 0, constantValue := 0 }]
  methods := #[k10m0]
  instanceTypes := #[]
  staticTypes := #[.long]
  resolved := Array.replicate 37 none
  statics := none }

def pool11 : Array CpInfo := pool [(1, .class_ 2), (0, u "java/lang/Long"), (55, .nameAndType 59 60), (0, u "<init>"), (0, u "()V"), (24, u "valueOf"), (143, u "(J)Ljava/lang/Long;"), (0, .long 18446744073709551488), (1, .long 127), (1, .fieldref 235 236), (0, .class_ 237), (0, .nameAndType 238 239), (0, u "java/lang/Long$LongCache"), (0, u "cache"), (0, u "[Ljava/lang/Long;"), (0, .methodref 1 241), (0, .nameAndType 59 242), (0, u "(J)V"), (27, .methodref 271 58), (0, .class_ 272), (0, u "java/lang/Number"), (0, .fieldref 1 274), (0, .nameAndType 275 276), (0, u "value"), (0, u "J"), (84, u "TYPE"), (0, u "Ljava/lang/Class;"), (0, .class_ 364), (0, u "java/lang/Comparable"), (0, .class_ 366), (0, u "java/lang/constant/Constable"), (0, .class_ 368), (0, u "java/lang/constant/ConstantDesc"), (0, u "MIN_VALUE"), (1, u "MAX_VALUE"), (4, u "SIZE"), (0, u "I"), (1, u "BYTES"), (1, u "serialVersionUID")] 142

def k11c0 : Code := { maxStack := 4, maxLocals := 3, code := jdk_35_method_24_code, exceptionTable := #[], attributes := #[] }
def k11m0 : Method := { name := "valueOf", desc := "(J)Ljava/lang/Long;", sig := { parameters := [.long], returnType := some (.object "java/lang/Long") }, accessFlags := 9, code := some k11c0 }
def k11c1 : Code := { maxStack := 3, maxLocals := 3, code := jdk_35_method_26_code, exceptionTable := #[], attributes := #[] }
def k11m1 : Method := { name := "<init>", desc := "(J)V", sig := { parameters := [.long], returnType := none }, accessFlags := 1, code := some k11c1 }
/-- java/lang/Long -/
def k11 : Class := { plain "java/lang/Long" (some 10) with
  accessFlags := 49
  interfaces := #[4, 5, 8]
  cf := some (fileOf pool11 1 #[.nestMembers #[235]] #[{ accessFlags := 9, nameIndex := 85, descriptorIndex := 229, attributes := #[] }, { accessFlags := 1, nameIndex := 59, descriptorIndex := 242, attributes := #[] }] 49 271 #[363, 365, 367] #[{ accessFlags := 25, nameIndex := 369, descriptorIndex := 276, attributes := #[] }, { accessFlags := 25, nameIndex := 371, descriptorIndex := 276, attributes := #[] }, { accessFlags := 25, nameIndex := 361, descriptorIndex := 362, attributes := #[] }, { accessFlags := 18, nameIndex := 275, descriptorIndex := 276, attributes := #[] }, { accessFlags := 25, nameIndex := 376, descriptorIndex := 377, attributes := #[] }, { accessFlags := 25, nameIndex := 379, descriptorIndex := 377, attributes := #[] }, { accessFlags := 26, nameIndex := 381, descriptorIndex := 276, attributes := #[] }])
  fields := #[{ name := "MIN_VALUE", type := .long, accessFlags := 25, slot := 0, constantValue := 0 }, { name := "MAX_VALUE", type := .long, accessFlags := 25, slot := 1, constantValue := 0 }, { name := "TYPE", type := (.object "java/lang/Class"), accessFlags := 25, slot := 2, constantValue := 0 }, { name := "value", type := .long, accessFlags := 18, slot := 0, constantValue := 0 }, { name := "SIZE", type := .int, accessFlags := 25, slot := 3, constantValue := 0 }, { name := "BYTES", type := .int, accessFlags := 25, slot := 4, constantValue := 0 }, { name := "serialVersionUID", type := .long, accessFlags := 26, slot := 5, constantValue := 0 }]
  methods := #[k11m0, k11m1]
  instanceTypes := #[.long]
  staticTypes := #[.long, .long, (.object "java/lang/Class"), .int, .int, .long]
  resolved := Array.replicate 524 none
  statics := none }

def pool12 : Array CpInfo := pool [(6, .class_ 8), (1, u "java/lang/Object"), (0, u "<init>"), (0, u "()V"), (1, .class_ 14), (1, u "java/lang/StringUTF16"), (31, u "$assertionsDisabled"), (0, u "Z"), (13, u "HI_BYTE_SHIFT"), (0, u "I"), (2, u "LO_BYTE_SHIFT"), (49, .methodref 12 116), (0, .nameAndType 117 118), (0, u "compress"), (0, u "([CI[BII)I"), (3, u "([CII)[B"), (138, u "coderFromArrayLen"), (0, u "([BI)B"), (106, .class_ 371), (1, u "java/lang/StringUTF16$LinesSpliterator"), (58, u "MAX_LENGTH"), (196, .class_ 628), (0, u "java/lang/StringUTF16$CodePointsSpliterator"), (0, .class_ 630), (0, u "java/lang/StringUTF16$CharsSpliterator")] 4

def k12m0 : Method := { name := "<init>", desc := "()V", sig := { parameters := [], returnType := none }, accessFlags := 0, code := none }
def k12c1 : Code := { maxStack := 2, maxLocals := 2, code := jdk_52_method_15_code, exceptionTable := #[], attributes := #[] }
def k12m1 : Method := { name := "coderFromArrayLen", desc := "([BI)B", sig := { parameters := [(.array .byte), .int], returnType := some .byte }, accessFlags := 8, code := some k12c1 }
def k12c2 : Code := { maxStack := 5, maxLocals := 6, code := jdk_52_method_16_code, exceptionTable := #[], attributes := #[] }
def k12m2 : Method := { name := "compress", desc := "([CII)[B", sig := { parameters := [(.array .char), .int, .int], returnType := some (.array .byte) }, accessFlags := 9, code := some k12c2 }
def k12c3 : Code := { maxStack := 3, maxLocals := 7, code := jdk_52_method_21_code, exceptionTable := #[], attributes := #[] }
def k12m3 : Method := { name := "compress", desc := "([CI[BII)I", sig := { parameters := [(.array .char), .int, (.array .byte), .int, .int], returnType := some .int }, accessFlags := 9, code := some k12c3 }
/-- java/lang/StringUTF16 -/
def k12 : Class := { plain "java/lang/StringUTF16" (some 0) with
  accessFlags := 48
  interfaces := #[]
  cf := some (fileOf pool12 12 #[.nestMembers #[627, 629, 369]] #[{ accessFlags := 0, nameIndex := 9, descriptorIndex := 10, attributes := #[] }, { accessFlags := 8, nameIndex := 261, descriptorIndex := 262, attributes := #[] }, { accessFlags := 9, nameIndex := 117, descriptorIndex := 122, attributes := #[] }, { accessFlags := 9, nameIndex := 117, descriptorIndex := 118, attributes := #[] }] 48 6 #[] #[{ accessFlags := 26, nameIndex := 61, descriptorIndex := 62, attributes := #[] }, { accessFlags := 26, nameIndex := 65, descriptorIndex := 62, attributes := #[] }, { accessFlags := 24, nameIndex := 430, descriptorIndex := 62, attributes := #[] }, { accessFlags := 4120, nameIndex := 46, descriptorIndex := 47, attributes := #[] }])
  fields := #[{ name := "HI_BYTE_SHIFT", type := .int, accessFlags := 26, slot := 0, constantValue := 0 }, { name := "LO_BYTE_SHIFT", type := .int, accessFlags := 26, slot := 1, constantValue := 0 }, { name := "MAX_LENGTH", type := .int, accessFlags := 24, slot := 2, constantValue := 0 }, { name := "$assertionsDisabled", type := .boolean, accessFlags := 4120, slot := 3, constantValue := 0 }]
  methods := #[k12m0, k12m1, k12m2, k12m3]
  instanceTypes := #[]
  staticTypes := #[.int, .int, .int, .boolean]
  resolved := Array.replicate 635 none
  statics := none }

def pool13 : Array CpInfo := pool [(4, .class_ 6), (1, u "java/lang/Object"), (0, u "<init>"), (0, u "()V"), (5, .class_ 16), (1, u "java/lang/StringLatin1"), (104, u "$assertionsDisabled"), (0, u "Z"), (98, .class_ 223), (1, u "java/lang/StringLatin1$LinesSpliterator"), (57, u "equals"), (0, u "([B[B)Z"), (107, .class_ 391), (0, u "java/lang/StringLatin1$CharsSpliterator")] 3

def k13m0 : Method := { name := "<init>", desc := "()V", sig := { parameters := [], returnType := none }, accessFlags := 0, code := none }
def k13c1 : Code := { maxStack := 3, maxLocals := 3, code := jdk_43_method_13_code, exceptionTable := #[], attributes := #[] }
def k13m1 : Method := { name := "equals", desc := "([B[B)Z", sig := { parameters := [(.array .byte), (.array .byte)], returnType := some .boolean }, accessFlags := 9, code := some k13c1 }
/-- java/lang/StringLatin1 -/
def k13 : Class := { plain "java/lang/StringLatin1" (some 0) with
  accessFlags := 48
  interfaces := #[]
  cf := some (fileOf pool13 14 #[.nestMembers #[390, 221]] #[{ accessFlags := 0, nameIndex := 7, descriptorIndex := 8, attributes := #[] }, { accessFlags := 9, nameIndex := 281, descriptorIndex := 282, attributes := #[] }] 48 4 #[] #[{ accessFlags := 4120, nameIndex := 121, descriptorIndex := 122, attributes := #[] }])
  fields := #[{ name := "$assertionsDisabled", type := .boolean, accessFlags := 4120, slot := 0, constantValue := 0 }]
  methods := #[k13m0, k13m1]
  instanceTypes := #[]
  staticTypes := #[.boolean]
  resolved := Array.replicate 395 none
  statics := none }

def pool14 : Array CpInfo := pool [(2, .class_ 4), (1, u "java/lang/Object"), (0, u "<init>"), (0, u "()V"), (0, .class_ 8), (0, u "java/lang/Long"), (7, .class_ 18), (1, u "java/lang/Long$LongCache"), (0, u "$assertionsDisabled"), (0, u "Z"), (8, u "archivedCache"), (0, u "[Ljava/lang/Long;"), (7, u "cache")] 24

def k14m0 : Method := { name := "<init>", desc := "()V", sig := { parameters := [], returnType := none }, accessFlags := 2, code := none }
/-- java/lang/Long$LongCache -/
def k14 : Class := { plain "java/lang/Long$LongCache" (some 0) with
  accessFlags := 48
  interfaces := #[]
  cf := some (fileOf pool14 16 #[.nestHost 7] #[{ accessFlags := 2, nameIndex := 5, descriptorIndex := 6, attributes := #[] }] 48 2 #[] #[{ accessFlags := 24, nameIndex := 38, descriptorIndex := 30, attributes := #[] }, { accessFlags := 8, nameIndex := 29, descriptorIndex := 30, attributes := #[] }, { accessFlags := 4120, nameIndex := 19, descriptorIndex := 20, attributes := #[] }])
  fields := #[{ name := "cache", type := (.array (.object "java/lang/Long")), accessFlags := 24, slot := 0, constantValue := 0 }, { name := "archivedCache", type := (.array (.object "java/lang/Long")), accessFlags := 8, slot := 1, constantValue := 0 }, { name := "$assertionsDisabled", type := .boolean, accessFlags := 4120, slot := 2, constantValue := 0 }]
  methods := #[k14m0]
  instanceTypes := #[]
  staticTypes := #[(.array (.object "java/lang/Long")), (.array (.object "java/lang/Long")), .boolean]
  resolved := Array.replicate 63 none
  statics := some 2 }

def pool15 : Array CpInfo := pool [(2, .class_ 4), (1, u "java/lang/Object"), (0, u "<init>"), (0, u "()V"), (17, .class_ 26), (1, u "jdk/internal/util/Preconditions"), (28, .class_ 56), (0, u "jdk/internal/util/Preconditions$4"), (57, .class_ 115), (0, u "jdk/internal/util/Preconditions$1"), (7, u "SIOOBE_FORMATTER"), (0, u "Ljava/util/function/BiFunction;"), (0, .class_ 126), (0, u "jdk/internal/util/Preconditions$2"), (3, u "AIOOBE_FORMATTER"), (0, .class_ 132), (0, u "jdk/internal/util/Preconditions$3"), (3, u "IOOBE_FORMATTER")] 57

def k15m0 : Method := { name := "<init>", desc := "()V", sig := { parameters := [], returnType := none }, accessFlags := 1, code := none }
/-- jdk/internal/util/Preconditions -/
def k15 : Class := { plain "jdk/internal/util/Preconditions" (some 0) with
  accessFlags := 33
  interfaces := #[]
  cf := some (fileOf pool15 24 #[.nestMembers #[55, 131, 125, 114]] #[{ accessFlags := 1, nameIndex := 5, descriptorIndex := 6, attributes := #[] }] 33 2 #[] #[{ accessFlags := 25, nameIndex := 123, descriptorIndex := 124, attributes := #[] }, { accessFlags := 25, nameIndex := 130, descriptorIndex := 124, attributes := #[] }, { accessFlags := 25, nameIndex := 136, descriptorIndex := 124, attributes := #[] }])
  fields := #[{ name := "SIOOBE_FORMATTER", type := (.object "java/util/function/BiFunction"), accessFlags := 25, slot := 0, constantValue := 0 }, { name := "AIOOBE_FORMATTER", type := (.object "java/util/function/BiFunction"), accessFlags := 25, slot := 1, constantValue := 0 }, { name := "IOOBE_FORMATTER", type := (.object "java/util/function/BiFunction"), accessFlags := 25, slot := 2, constantValue := 0 }]
  methods := #[k15m0]
  instanceTypes := #[]
  staticTypes := #[(.object "java/util/function/BiFunction"), (.object "java/util/function/BiFunction"), (.object "java/util/function/BiFunction")]
  resolved := Array.replicate 194 none
  statics := some 3 }

def pool16 : Array CpInfo := pool [(9, u "<init>"), (6, .class_ 18), (1, u "java/lang/Object"), (0, u "()V"), (1, .class_ 23), (1, u "jdk/internal/util/ArraysSupport"), (0, u "LOG2_ARRAY_LONG_INDEX_SCALE"), (0, u "I"), (2, u "U"), (0, u "Ljdk/internal/misc/Unsafe;"), (8, u "BIG_ENDIAN"), (0, u "Z"), (8, u "LOG2_BYTE_BIT_SIZE"), (4, u "LOG2_ARRAY_INT_INDEX_SCALE"), (54, u "JLA"), (0, u "Ljdk/internal/access/JavaLangAccess;"), (11, u "LOG2_ARRAY_BOOLEAN_INDEX_SCALE"), (9, u "LOG2_ARRAY_BYTE_INDEX_SCALE"), (5, u "LOG2_ARRAY_CHAR_INDEX_SCALE"), (5, u "LOG2_ARRAY_SHORT_INDEX_SCALE"), (18, u "LOG2_ARRAY_FLOAT_INDEX_SCALE"), (24, u "LOG2_ARRAY_DOUBLE_INDEX_SCALE"), (89, u "T_BOOLEAN"), (2, u "T_CHAR"), (1, u "T_FLOAT"), (1, u "T_DOUBLE"), (1, u "T_BYTE"), (1, u "T_SHORT"), (1, u "T_INT"), (1, u "T_LONG"), (1, u "SOFT_MAX_ARRAY_LENGTH")] 83

def k16m0 : Method := { name := "<init>", desc := "()V", sig := { parameters := [], returnType := none }, accessFlags := 2, code := none }
/-- jdk/internal/util/ArraysSupport -/
def k16 : Class := { plain "jdk/internal/util/ArraysSupport" (some 0) with
  accessFlags := 33
  interfaces := #[]
  cf := some (fileOf pool16 21 #[] #[{ accessFlags := 2, nameIndex := 9, descriptorIndex := 19, attributes := #[] }] 33 16 #[] #[{ accessFlags := 24, nameIndex := 28, descriptorIndex := 29, attributes := #[] }, { accessFlags := 26, nameIndex := 38, descriptorIndex := 39, attributes := #[] }, { accessFlags := 25, nameIndex := 121, descriptorIndex := 25, attributes := #[] }, { accessFlags := 25, nameIndex := 131, descriptorIndex := 25, attributes := #[] }, { accessFlags := 25, nameIndex := 137, descriptorIndex := 25, attributes := #[] }, { accessFlags := 25, nameIndex := 143, descriptorIndex := 25, attributes := #[] }, { accessFlags := 25, nameIndex := 53, descriptorIndex := 25, attributes := #[] }, { accessFlags := 25, nameIndex := 24, descriptorIndex := 25, attributes := #[] }, { accessFlags := 25, nameIndex := 162, descriptorIndex := 25, attributes := #[] }, { accessFlags := 25, nameIndex := 187, descriptorIndex := 25, attributes := #[] }, { accessFlags := 26, nameIndex := 48, descriptorIndex := 25, attributes := #[] }, { accessFlags := 25, nameIndex := 277, descriptorIndex := 25, attributes := #[] }, { accessFlags := 25, nameIndex := 280, descriptorIndex := 25, attributes := #[] }, { accessFlags := 25, nameIndex := 282, descriptorIndex := 25, attributes := #[] }, { accessFlags := 25, nameIndex := 284, descriptorIndex := 25, attributes := #[] }, { accessFlags := 25, nameIndex := 286, descriptorIndex := 25, attributes := #[] }, { accessFlags := 25, nameIndex := 288, descriptorIndex := 25, attributes := #[] }, { accessFlags := 25, nameIndex := 290, descriptorIndex := 25, attributes := #[] }, { accessFlags := 25, nameIndex := 292, descriptorIndex := 25, attributes := #[] }, { accessFlags := 26, nameIndex := 108, descriptorIndex := 109, attributes := #[] }, { accessFlags := 25, nameIndex := 294, descriptorIndex := 25, attributes := #[] }])
  fields := #[{ name := "U", type := (.object "jdk/internal/misc/Unsafe"), accessFlags := 24, slot := 0, constantValue := 0 }, { name := "BIG_ENDIAN", type := .boolean, accessFlags := 26, slot := 1, constantValue := 0 }, { name := "LOG2_ARRAY_BOOLEAN_INDEX_SCALE", type := .int, accessFlags := 25, slot := 2, constantValue := 0 }, { name := "LOG2_ARRAY_BYTE_INDEX_SCALE", type := .int, accessFlags := 25, slot := 3, constantValue := 0 }, { name := "LOG2_ARRAY_CHAR_INDEX_SCALE", type := .int, accessFlags := 25, slot := 4, constantValue := 0 }, { name := "LOG2_ARRAY_SHORT_INDEX_SCALE", type := .int, accessFlags := 25, slot := 5, constantValue := 0 }, { name := "LOG2_ARRAY_INT_INDEX_SCALE", type := .int, accessFlags := 25, slot := 6, constantValue := 0 }, { name := "LOG2_ARRAY_LONG_INDEX_SCALE", type := .int, accessFlags := 25, slot := 7, constantValue := 0 }, { name := "LOG2_ARRAY_FLOAT_INDEX_SCALE", type := .int, accessFlags := 25, slot := 8, constantValue := 0 }, { name := "LOG2_ARRAY_DOUBLE_INDEX_SCALE", type := .int, accessFlags := 25, slot := 9, constantValue := 0 }, { name := "LOG2_BYTE_BIT_SIZE", type := .int, accessFlags := 26, slot := 10, constantValue := 0 }, { name := "T_BOOLEAN", type := .int, accessFlags := 25, slot := 11, constantValue := 0 }, { name := "T_CHAR", type := .int, accessFlags := 25, slot := 12, constantValue := 0 }, { name := "T_FLOAT", type := .int, accessFlags := 25, slot := 13, constantValue := 0 }, { name := "T_DOUBLE", type := .int, accessFlags := 25, slot := 14, constantValue := 0 }, { name := "T_BYTE", type := .int, accessFlags := 25, slot := 15, constantValue := 0 }, { name := "T_SHORT", type := .int, accessFlags := 25, slot := 16, constantValue := 0 }, { name := "T_INT", type := .int, accessFlags := 25, slot := 17, constantValue := 0 }, { name := "T_LONG", type := .int, accessFlags := 25, slot := 18, constantValue := 0 }, { name := "JLA", type := (.object "jdk/internal/access/JavaLangAccess"), accessFlags := 26, slot := 19, constantValue := 0 }, { name := "SOFT_MAX_ARRAY_LENGTH", type := .int, accessFlags := 25, slot := 20, constantValue := 0 }]
  methods := #[k16m0]
  instanceTypes := #[]
  staticTypes := #[(.object "jdk/internal/misc/Unsafe"), .boolean, .int, .int, .int, .int, .int, .int, .int, .int, .int, .int, .int, .int, .int, .int, .int, .int, .int, (.object "jdk/internal/access/JavaLangAccess"), .int]
  resolved := Array.replicate 378 none
  statics := none }

def pool17 : Array CpInfo := pool [(1, u "java/lang/Cloneable"), (0, .class_ 1), (0, u "java/lang/Object"), (0, .class_ 3)] 3

/-- java/lang/Cloneable -/
def k17 : Class := { plain "java/lang/Cloneable" (some 0) with
  accessFlags := 1537
  interfaces := #[]
  cf := some (fileOf pool17 2 #[] #[] 1537 4 #[] #[])
  fields := #[]
  methods := #[]
  instanceTypes := #[]
  staticTypes := #[]
  resolved := Array.replicate 8 none
  statics := none }

/-- the primitive byte -/
def k18 : Class := { plain "byte" none with kind := .primitive 'B', accessFlags := 0x411 }
/-- [B -/
def k19 : Class := { plain "[B" (some 0) with kind := .array 18 .byte, interfaces := #[17, 3], accessFlags := 1041 }

/-- the primitive char -/
def k20 : Class := { plain "char" none with kind := .primitive 'C', accessFlags := 0x411 }
/-- [C -/
def k21 : Class := { plain "[C" (some 0) with kind := .array 20 .char, interfaces := #[17, 3], accessFlags := 1041 }

/-- the primitive int -/
def k22 : Class := { plain "int" none with kind := .primitive 'I', accessFlags := 0x411 }
/-- [I -/
def k23 : Class := { plain "[I" (some 0) with kind := .array 22 .int, interfaces := #[17, 3], accessFlags := 1041 }

/-- [Ljava/lang/Long; -/
def k24 : Class := { plain "[Ljava/lang/Long;" (some 0) with kind := .array 11 (.object "java/lang/Long"), interfaces := #[17, 3], accessFlags := 1041 }

def heap : Heap := #[{ cls := 6, slots := #[.ref 261, .ref 262, .null, .long 0], vm := .statics 6 },
  { cls := 9, slots := #[.long 0, .int 1, .null, .int 0, .null, .int 0, .int 0], vm := .statics 9 },
  { cls := 14, slots := #[.ref 4, .null, .int 0], vm := .statics 14 },
  { cls := 15, slots := #[.null, .null, .null], vm := .statics 15 },
  { cls := 24, slots := #[.ref 5, .ref 6, .ref 7, .ref 8, .ref 9, .ref 10, .ref 11, .ref 12, .ref 13, .ref 14, .ref 15, .ref 16, .ref 17, .ref 18, .ref 19, .ref 20, .ref 21, .ref 22, .ref 23, .ref 24, .ref 25, .ref 26, .ref 27, .ref 28, .ref 29, .ref 30, .ref 31, .ref 32, .ref 33, .ref 34, .ref 35, .ref 36, .ref 37, .ref 38, .ref 39, .ref 40, .ref 41, .ref 42, .ref 43, .ref 44, .ref 45, .ref 46, .ref 47, .ref 48, .ref 49, .ref 50, .ref 51, .ref 52, .ref 53, .ref 54, .ref 55, .ref 56, .ref 57, .ref 58, .ref 59, .ref 60, .ref 61, .ref 62, .ref 63, .ref 64, .ref 65, .ref 66, .ref 67, .ref 68, .ref 69, .ref 70, .ref 71, .ref 72, .ref 73, .ref 74, .ref 75, .ref 76, .ref 77, .ref 78, .ref 79, .ref 80, .ref 81, .ref 82, .ref 83, .ref 84, .ref 85, .ref 86, .ref 87, .ref 88, .ref 89, .ref 90, .ref 91, .ref 92, .ref 93, .ref 94, .ref 95, .ref 96, .ref 97, .ref 98, .ref 99, .ref 100, .ref 101, .ref 102, .ref 103, .ref 104, .ref 105, .ref 106, .ref 107, .ref 108, .ref 109, .ref 110, .ref 111, .ref 112, .ref 113, .ref 114, .ref 115, .ref 116, .ref 117, .ref 118, .ref 119, .ref 120, .ref 121, .ref 122, .ref 123, .ref 124, .ref 125, .ref 126, .ref 127, .ref 128, .ref 129, .ref 130, .ref 131, .ref 132, .ref 133, .ref 134, .ref 135, .ref 136, .ref 137, .ref 138, .ref 139, .ref 140, .ref 141, .ref 142, .ref 143, .ref 144, .ref 145, .ref 146, .ref 147, .ref 148, .ref 149, .ref 150, .ref 151, .ref 152, .ref 153, .ref 154, .ref 155, .ref 156, .ref 157, .ref 158, .ref 159, .ref 160, .ref 161, .ref 162, .ref 163, .ref 164, .ref 165, .ref 166, .ref 167, .ref 168, .ref 169, .ref 170, .ref 171, .ref 172, .ref 173, .ref 174, .ref 175, .ref 176, .ref 177, .ref 178, .ref 179, .ref 180, .ref 181, .ref 182, .ref 183, .ref 184, .ref 185, .ref 186, .ref 187, .ref 188, .ref 189, .ref 190, .ref 191, .ref 192, .ref 193, .ref 194, .ref 195, .ref 196, .ref 197, .ref 198, .ref 199, .ref 200, .ref 201, .ref 202, .ref 203, .ref 204, .ref 205, .ref 206, .ref 207, .ref 208, .ref 209, .ref 210, .ref 211, .ref 212, .ref 213, .ref 214, .ref 215, .ref 216, .ref 217, .ref 218, .ref 219, .ref 220, .ref 221, .ref 222, .ref 223, .ref 224, .ref 225, .ref 226, .ref 227, .ref 228, .ref 229, .ref 230, .ref 231, .ref 232, .ref 233, .ref 234, .ref 235, .ref 236, .ref 237, .ref 238, .ref 239, .ref 240, .ref 241, .ref 242, .ref 243, .ref 244, .ref 245, .ref 246, .ref 247, .ref 248, .ref 249, .ref 250, .ref 251, .ref 252, .ref 253, .ref 254, .ref 255, .ref 256, .ref 257, .ref 258, .ref 259, .ref 260], vm := .none },
  { cls := 11, slots := #[.long (-128)], vm := .none },
  { cls := 11, slots := #[.long (-127)], vm := .none },
  { cls := 11, slots := #[.long (-126)], vm := .none },
  { cls := 11, slots := #[.long (-125)], vm := .none },
  { cls := 11, slots := #[.long (-124)], vm := .none },
  { cls := 11, slots := #[.long (-123)], vm := .none },
  { cls := 11, slots := #[.long (-122)], vm := .none },
  { cls := 11, slots := #[.long (-121)], vm := .none },
  { cls := 11, slots := #[.long (-120)], vm := .none },
  { cls := 11, slots := #[.long (-119)], vm := .none },
  { cls := 11, slots := #[.long (-118)], vm := .none },
  { cls := 11, slots := #[.long (-117)], vm := .none },
  { cls := 11, slots := #[.long (-116)], vm := .none },
  { cls := 11, slots := #[.long (-115)], vm := .none },
  { cls := 11, slots := #[.long (-114)], vm := .none },
  { cls := 11, slots := #[.long (-113)], vm := .none },
  { cls := 11, slots := #[.long (-112)], vm := .none },
  { cls := 11, slots := #[.long (-111)], vm := .none },
  { cls := 11, slots := #[.long (-110)], vm := .none },
  { cls := 11, slots := #[.long (-109)], vm := .none },
  { cls := 11, slots := #[.long (-108)], vm := .none },
  { cls := 11, slots := #[.long (-107)], vm := .none },
  { cls := 11, slots := #[.long (-106)], vm := .none },
  { cls := 11, slots := #[.long (-105)], vm := .none },
  { cls := 11, slots := #[.long (-104)], vm := .none },
  { cls := 11, slots := #[.long (-103)], vm := .none },
  { cls := 11, slots := #[.long (-102)], vm := .none },
  { cls := 11, slots := #[.long (-101)], vm := .none },
  { cls := 11, slots := #[.long (-100)], vm := .none },
  { cls := 11, slots := #[.long (-99)], vm := .none },
  { cls := 11, slots := #[.long (-98)], vm := .none },
  { cls := 11, slots := #[.long (-97)], vm := .none },
  { cls := 11, slots := #[.long (-96)], vm := .none },
  { cls := 11, slots := #[.long (-95)], vm := .none },
  { cls := 11, slots := #[.long (-94)], vm := .none },
  { cls := 11, slots := #[.long (-93)], vm := .none },
  { cls := 11, slots := #[.long (-92)], vm := .none },
  { cls := 11, slots := #[.long (-91)], vm := .none },
  { cls := 11, slots := #[.long (-90)], vm := .none },
  { cls := 11, slots := #[.long (-89)], vm := .none },
  { cls := 11, slots := #[.long (-88)], vm := .none },
  { cls := 11, slots := #[.long (-87)], vm := .none },
  { cls := 11, slots := #[.long (-86)], vm := .none },
  { cls := 11, slots := #[.long (-85)], vm := .none },
  { cls := 11, slots := #[.long (-84)], vm := .none },
  { cls := 11, slots := #[.long (-83)], vm := .none },
  { cls := 11, slots := #[.long (-82)], vm := .none },
  { cls := 11, slots := #[.long (-81)], vm := .none },
  { cls := 11, slots := #[.long (-80)], vm := .none },
  { cls := 11, slots := #[.long (-79)], vm := .none },
  { cls := 11, slots := #[.long (-78)], vm := .none },
  { cls := 11, slots := #[.long (-77)], vm := .none },
  { cls := 11, slots := #[.long (-76)], vm := .none },
  { cls := 11, slots := #[.long (-75)], vm := .none },
  { cls := 11, slots := #[.long (-74)], vm := .none },
  { cls := 11, slots := #[.long (-73)], vm := .none },
  { cls := 11, slots := #[.long (-72)], vm := .none },
  { cls := 11, slots := #[.long (-71)], vm := .none },
  { cls := 11, slots := #[.long (-70)], vm := .none },
  { cls := 11, slots := #[.long (-69)], vm := .none },
  { cls := 11, slots := #[.long (-68)], vm := .none },
  { cls := 11, slots := #[.long (-67)], vm := .none },
  { cls := 11, slots := #[.long (-66)], vm := .none },
  { cls := 11, slots := #[.long (-65)], vm := .none },
  { cls := 11, slots := #[.long (-64)], vm := .none },
  { cls := 11, slots := #[.long (-63)], vm := .none },
  { cls := 11, slots := #[.long (-62)], vm := .none },
  { cls := 11, slots := #[.long (-61)], vm := .none },
  { cls := 11, slots := #[.long (-60)], vm := .none },
  { cls := 11, slots := #[.long (-59)], vm := .none },
  { cls := 11, slots := #[.long (-58)], vm := .none },
  { cls := 11, slots := #[.long (-57)], vm := .none },
  { cls := 11, slots := #[.long (-56)], vm := .none },
  { cls := 11, slots := #[.long (-55)], vm := .none },
  { cls := 11, slots := #[.long (-54)], vm := .none },
  { cls := 11, slots := #[.long (-53)], vm := .none },
  { cls := 11, slots := #[.long (-52)], vm := .none },
  { cls := 11, slots := #[.long (-51)], vm := .none },
  { cls := 11, slots := #[.long (-50)], vm := .none },
  { cls := 11, slots := #[.long (-49)], vm := .none },
  { cls := 11, slots := #[.long (-48)], vm := .none },
  { cls := 11, slots := #[.long (-47)], vm := .none },
  { cls := 11, slots := #[.long (-46)], vm := .none },
  { cls := 11, slots := #[.long (-45)], vm := .none },
  { cls := 11, slots := #[.long (-44)], vm := .none },
  { cls := 11, slots := #[.long (-43)], vm := .none },
  { cls := 11, slots := #[.long (-42)], vm := .none },
  { cls := 11, slots := #[.long (-41)], vm := .none },
  { cls := 11, slots := #[.long (-40)], vm := .none },
  { cls := 11, slots := #[.long (-39)], vm := .none },
  { cls := 11, slots := #[.long (-38)], vm := .none },
  { cls := 11, slots := #[.long (-37)], vm := .none },
  { cls := 11, slots := #[.long (-36)], vm := .none },
  { cls := 11, slots := #[.long (-35)], vm := .none },
  { cls := 11, slots := #[.long (-34)], vm := .none },
  { cls := 11, slots := #[.long (-33)], vm := .none },
  { cls := 11, slots := #[.long (-32)], vm := .none },
  { cls := 11, slots := #[.long (-31)], vm := .none },
  { cls := 11, slots := #[.long (-30)], vm := .none },
  { cls := 11, slots := #[.long (-29)], vm := .none },
  { cls := 11, slots := #[.long (-28)], vm := .none },
  { cls := 11, slots := #[.long (-27)], vm := .none },
  { cls := 11, slots := #[.long (-26)], vm := .none },
  { cls := 11, slots := #[.long (-25)], vm := .none },
  { cls := 11, slots := #[.long (-24)], vm := .none },
  { cls := 11, slots := #[.long (-23)], vm := .none },
  { cls := 11, slots := #[.long (-22)], vm := .none },
  { cls := 11, slots := #[.long (-21)], vm := .none },
  { cls := 11, slots := #[.long (-20)], vm := .none },
  { cls := 11, slots := #[.long (-19)], vm := .none },
  { cls := 11, slots := #[.long (-18)], vm := .none },
  { cls := 11, slots := #[.long (-17)], vm := .none },
  { cls := 11, slots := #[.long (-16)], vm := .none },
  { cls := 11, slots := #[.long (-15)], vm := .none },
  { cls := 11, slots := #[.long (-14)], vm := .none },
  { cls := 11, slots := #[.long (-13)], vm := .none },
  { cls := 11, slots := #[.long (-12)], vm := .none },
  { cls := 11, slots := #[.long (-11)], vm := .none },
  { cls := 11, slots := #[.long (-10)], vm := .none },
  { cls := 11, slots := #[.long (-9)], vm := .none },
  { cls := 11, slots := #[.long (-8)], vm := .none },
  { cls := 11, slots := #[.long (-7)], vm := .none },
  { cls := 11, slots := #[.long (-6)], vm := .none },
  { cls := 11, slots := #[.long (-5)], vm := .none },
  { cls := 11, slots := #[.long (-4)], vm := .none },
  { cls := 11, slots := #[.long (-3)], vm := .none },
  { cls := 11, slots := #[.long (-2)], vm := .none },
  { cls := 11, slots := #[.long (-1)], vm := .none },
  { cls := 11, slots := #[.long 0], vm := .none },
  { cls := 11, slots := #[.long 1], vm := .none },
  { cls := 11, slots := #[.long 2], vm := .none },
  { cls := 11, slots := #[.long 3], vm := .none },
  { cls := 11, slots := #[.long 4], vm := .none },
  { cls := 11, slots := #[.long 5], vm := .none },
  { cls := 11, slots := #[.long 6], vm := .none },
  { cls := 11, slots := #[.long 7], vm := .none },
  { cls := 11, slots := #[.long 8], vm := .none },
  { cls := 11, slots := #[.long 9], vm := .none },
  { cls := 11, slots := #[.long 10], vm := .none },
  { cls := 11, slots := #[.long 11], vm := .none },
  { cls := 11, slots := #[.long 12], vm := .none },
  { cls := 11, slots := #[.long 13], vm := .none },
  { cls := 11, slots := #[.long 14], vm := .none },
  { cls := 11, slots := #[.long 15], vm := .none },
  { cls := 11, slots := #[.long 16], vm := .none },
  { cls := 11, slots := #[.long 17], vm := .none },
  { cls := 11, slots := #[.long 18], vm := .none },
  { cls := 11, slots := #[.long 19], vm := .none },
  { cls := 11, slots := #[.long 20], vm := .none },
  { cls := 11, slots := #[.long 21], vm := .none },
  { cls := 11, slots := #[.long 22], vm := .none },
  { cls := 11, slots := #[.long 23], vm := .none },
  { cls := 11, slots := #[.long 24], vm := .none },
  { cls := 11, slots := #[.long 25], vm := .none },
  { cls := 11, slots := #[.long 26], vm := .none },
  { cls := 11, slots := #[.long 27], vm := .none },
  { cls := 11, slots := #[.long 28], vm := .none },
  { cls := 11, slots := #[.long 29], vm := .none },
  { cls := 11, slots := #[.long 30], vm := .none },
  { cls := 11, slots := #[.long 31], vm := .none },
  { cls := 11, slots := #[.long 32], vm := .none },
  { cls := 11, slots := #[.long 33], vm := .none },
  { cls := 11, slots := #[.long 34], vm := .none },
  { cls := 11, slots := #[.long 35], vm := .none },
  { cls := 11, slots := #[.long 36], vm := .none },
  { cls := 11, slots := #[.long 37], vm := .none },
  { cls := 11, slots := #[.long 38], vm := .none },
  { cls := 11, slots := #[.long 39], vm := .none },
  { cls := 11, slots := #[.long 40], vm := .none },
  { cls := 11, slots := #[.long 41], vm := .none },
  { cls := 11, slots := #[.long 42], vm := .none },
  { cls := 11, slots := #[.long 43], vm := .none },
  { cls := 11, slots := #[.long 44], vm := .none },
  { cls := 11, slots := #[.long 45], vm := .none },
  { cls := 11, slots := #[.long 46], vm := .none },
  { cls := 11, slots := #[.long 47], vm := .none },
  { cls := 11, slots := #[.long 48], vm := .none },
  { cls := 11, slots := #[.long 49], vm := .none },
  { cls := 11, slots := #[.long 50], vm := .none },
  { cls := 11, slots := #[.long 51], vm := .none },
  { cls := 11, slots := #[.long 52], vm := .none },
  { cls := 11, slots := #[.long 53], vm := .none },
  { cls := 11, slots := #[.long 54], vm := .none },
  { cls := 11, slots := #[.long 55], vm := .none },
  { cls := 11, slots := #[.long 56], vm := .none },
  { cls := 11, slots := #[.long 57], vm := .none },
  { cls := 11, slots := #[.long 58], vm := .none },
  { cls := 11, slots := #[.long 59], vm := .none },
  { cls := 11, slots := #[.long 60], vm := .none },
  { cls := 11, slots := #[.long 61], vm := .none },
  { cls := 11, slots := #[.long 62], vm := .none },
  { cls := 11, slots := #[.long 63], vm := .none },
  { cls := 11, slots := #[.long 64], vm := .none },
  { cls := 11, slots := #[.long 65], vm := .none },
  { cls := 11, slots := #[.long 66], vm := .none },
  { cls := 11, slots := #[.long 67], vm := .none },
  { cls := 11, slots := #[.long 68], vm := .none },
  { cls := 11, slots := #[.long 69], vm := .none },
  { cls := 11, slots := #[.long 70], vm := .none },
  { cls := 11, slots := #[.long 71], vm := .none },
  { cls := 11, slots := #[.long 72], vm := .none },
  { cls := 11, slots := #[.long 73], vm := .none },
  { cls := 11, slots := #[.long 74], vm := .none },
  { cls := 11, slots := #[.long 75], vm := .none },
  { cls := 11, slots := #[.long 76], vm := .none },
  { cls := 11, slots := #[.long 77], vm := .none },
  { cls := 11, slots := #[.long 78], vm := .none },
  { cls := 11, slots := #[.long 79], vm := .none },
  { cls := 11, slots := #[.long 80], vm := .none },
  { cls := 11, slots := #[.long 81], vm := .none },
  { cls := 11, slots := #[.long 82], vm := .none },
  { cls := 11, slots := #[.long 83], vm := .none },
  { cls := 11, slots := #[.long 84], vm := .none },
  { cls := 11, slots := #[.long 85], vm := .none },
  { cls := 11, slots := #[.long 86], vm := .none },
  { cls := 11, slots := #[.long 87], vm := .none },
  { cls := 11, slots := #[.long 88], vm := .none },
  { cls := 11, slots := #[.long 89], vm := .none },
  { cls := 11, slots := #[.long 90], vm := .none },
  { cls := 11, slots := #[.long 91], vm := .none },
  { cls := 11, slots := #[.long 92], vm := .none },
  { cls := 11, slots := #[.long 93], vm := .none },
  { cls := 11, slots := #[.long 94], vm := .none },
  { cls := 11, slots := #[.long 95], vm := .none },
  { cls := 11, slots := #[.long 96], vm := .none },
  { cls := 11, slots := #[.long 97], vm := .none },
  { cls := 11, slots := #[.long 98], vm := .none },
  { cls := 11, slots := #[.long 99], vm := .none },
  { cls := 11, slots := #[.long 100], vm := .none },
  { cls := 11, slots := #[.long 101], vm := .none },
  { cls := 11, slots := #[.long 102], vm := .none },
  { cls := 11, slots := #[.long 103], vm := .none },
  { cls := 11, slots := #[.long 104], vm := .none },
  { cls := 11, slots := #[.long 105], vm := .none },
  { cls := 11, slots := #[.long 106], vm := .none },
  { cls := 11, slots := #[.long 107], vm := .none },
  { cls := 11, slots := #[.long 108], vm := .none },
  { cls := 11, slots := #[.long 109], vm := .none },
  { cls := 11, slots := #[.long 110], vm := .none },
  { cls := 11, slots := #[.long 111], vm := .none },
  { cls := 11, slots := #[.long 112], vm := .none },
  { cls := 11, slots := #[.long 113], vm := .none },
  { cls := 11, slots := #[.long 114], vm := .none },
  { cls := 11, slots := #[.long 115], vm := .none },
  { cls := 11, slots := #[.long 116], vm := .none },
  { cls := 11, slots := #[.long 117], vm := .none },
  { cls := 11, slots := #[.long 118], vm := .none },
  { cls := 11, slots := #[.long 119], vm := .none },
  { cls := 11, slots := #[.long 120], vm := .none },
  { cls := 11, slots := #[.long 121], vm := .none },
  { cls := 11, slots := #[.long 122], vm := .none },
  { cls := 11, slots := #[.long 123], vm := .none },
  { cls := 11, slots := #[.long 124], vm := .none },
  { cls := 11, slots := #[.long 125], vm := .none },
  { cls := 11, slots := #[.long 126], vm := .none },
  { cls := 11, slots := #[.long 127], vm := .none },
  { cls := 6, slots := #[.int 1], vm := .none },
  { cls := 6, slots := #[.int 0], vm := .none }]
def classes : Array Class := #[k0, k1, k2, k3, k4, k5, k6, k7, k8, k9, k10, k11, k12, k13, k14, k15, k16, k17, k18, k19, k20, k21, k22, k23, k24]
def interned : List (Array UInt16 × Addr) := []
def slotsUsed : Nat := 531
def theMethod : MethodId := ⟨1, 1⟩
def args0 : Array Value := #[.int 5, .int 6, .int 7, .int 8, .long 9]
def aboutOver (below : List Frame) : State where
  vm := { classes := classes, interned := interned.toArray }
  heap := heap
  slotsUsed := slotsUsed
  threads := #[{ frames := .invoking theMethod args0 :: below }]
def below0 : List Frame := [.native { method := ⟨0, 0⟩, args := #[] }]
def about1 : State := aboutOver below0
def p0 : Program := .bare "" "" ""
def e0 : Env := launch0.env 0 0 0
theorem w_frames : about1.frames = Frame.invoking theMethod args0 :: below0 := rfl
set_option maxRecDepth 65536 in
theorem w_args : argsFit about1.vm theMethod args0 = true := by decide +kernel
set_option maxRecDepth 65536 in
theorem w_heap : heapFits about1 = true := by decide +kernel
set_option maxRecDepth 65536 in
theorem w_runnable : about1.curStatus? = some .runnable := by decide +kernel
set_option maxRecDepth 65536 in
theorem w_alone : about1.alone = true := by decide +kernel
set_option maxRecDepth 65536 in
theorem w_named : about1.methodNamed? x = some theMethod := by decide +kernel
set_option maxRecDepth 65536 in
theorem w_hears : about1.hears theMethod below0 = true := by decide +kernel
set_option maxRecDepth 65536 in
theorem w_ripe : about1.ripe theMethod args0 below0 = true := by decide +kernel
theorem w_running : about1.status = .running := rfl
set_option maxRecDepth 65536 in
theorem w_room : about1.hasRoom e0.platform room_1 = true :=
  launch0.hasRoom_least _ room_1 (by decide +kernel) (by decide +kernel) (by decide +kernel) (by decide +kernel) (by decide +kernel) (by decide +kernel)
theorem allAtoms_all (ts : List Jvm.Cond) (a : Array Jvm.Value) (st : Jvm.State) : (allAtoms ts).before a st = ts.all (fun c => c.before a st) := by
  induction ts with
  | nil => rfl
  | cons c t ih =>
    show (Jvm.Cond.and c (allAtoms t)).before a st = _
    rw [Jvm.Cond.before_and, ih, List.all_cons]
def words1 : List Jvm.Cond := Jvm.Cond.code x code maxLocals ret :: tables_1
/-- a 'code' word, met by the world's own term for the bytes: nothing is compared byte by byte -/
theorem code_word {y : MethodName} {bytes : ByteArray} {mx : Nat} {rt : Option FieldType} {a : Array Value} {s : State} {m : MethodId} {meth : Method} {c : Code} (h1 : s.methodNamed? y = some m) (h2 : s.vm.method? m = some meth) (h3 : meth.code = some c) (h4 : c.code = bytes)
    (h5 : (c.maxLocals == mx && c.exceptionTable.isEmpty && decide (c.maxStack ≤ mostOperands) && decide (meth.sig.returnType = rt) && !meth.locks && decide (parseMethodDescriptor y.desc = some meth.sig)) = true) : (Jvm.Cond.code y bytes mx rt).before a s = true := by
  simp only [Bool.and_eq_true, beq_iff_eq, Bool.not_eq_true', decide_eq_true_eq] at h5
  obtain ⟨⟨⟨⟨⟨g1, g2⟩, g3⟩, g4⟩, g5⟩, g6⟩ := h5
  simp [Cond.before, Cond.holds, Cond.value, h1, h2, h3, h4, g1, g2, g3, g4, g5, g6]
def isCode : Jvm.Cond → Bool
  | .code _ _ _ _ => true
  | _ => false
theorem all_split {L : List Jvm.Cond} {P : Jvm.Cond → Bool} (h1 : L.all (fun c => isCode c || P c) = true) (h2 : ∀ c ∈ L.filter isCode, P c = true) : L.all P = true := by
  refine List.all_eq_true.mpr fun c hc => ?_
  have h := List.all_eq_true.mp h1 c hc
  rcases Bool.eq_false_or_eq_true (isCode c) with hi | hi
  · exact h2 c (List.mem_filter.mpr ⟨hc, hi⟩)
  · simpa [hi] using h
set_option maxRecDepth 65536 in
theorem w_c0 : (Jvm.Cond.code x code maxLocals ret).before args0 about1 = true := code_word (m := ⟨1, 1⟩) (meth := k1m1) (c := k1c1) (by decide +kernel) rfl rfl rfl (by decide +kernel)
set_option maxRecDepth 65536 in
theorem w_c1 : (Jvm.Cond.code ({ cls := "com/example/sluice/sluice/expression/Values", name := "isTrue", desc := "(Ljava/lang/Object;)Z" } : Jvm.MethodName) prog_11_method_7_code (1 : Nat) (Option.some Jvm.ClassFile.FieldType.boolean)).before args0 about1 = true := code_word (m := ⟨2, 1⟩) (meth := k2m1) (c := k2c1) (by decide +kernel) rfl rfl rfl (by decide +kernel)
set_option maxRecDepth 65536 in
theorem w_c2 : (Jvm.Cond.code ({ cls := "java/lang/Boolean", name := "equals", desc := "(Ljava/lang/Object;)Z" } : Jvm.MethodName) jdk_2055_method_11_code (2 : Nat) (Option.some Jvm.ClassFile.FieldType.boolean)).before args0 about1 = true := code_word (m := ⟨6, 2⟩) (meth := k6m2) (c := k6c2) (by decide +kernel) rfl rfl rfl (by decide +kernel)
set_option maxRecDepth 65536 in
theorem w_c3 : (Jvm.Cond.code ({ cls := "java/lang/String", name := "equals", desc := "(Ljava/lang/Object;)Z" } : Jvm.MethodName) jdk_42_method_66_code (3 : Nat) (Option.some Jvm.ClassFile.FieldType.boolean)).before args0 about1 = true := code_word (m := ⟨9, 2⟩) (meth := k9m2) (c := k9c2) (by decide +kernel) rfl rfl rfl (by decide +kernel)
set_option maxRecDepth 65536 in
theorem w_c4 : (Jvm.Cond.code ({ cls := "java/lang/Long", name := "valueOf", desc := "(J)Ljava/lang/Long;" } : Jvm.MethodName) jdk_35_method_24_code (3 : Nat) (Option.some (Jvm.ClassFile.FieldType.object "java/lang/Long"))).before args0 about1 = true := code_word (m := ⟨11, 0⟩) (meth := k11m0) (c := k11c0) (by decide +kernel) rfl rfl rfl (by decide +kernel)
set_option maxRecDepth 65536 in
theorem w_c5 : (Jvm.Cond.code ({ cls := "java/lang/Long", name := "<init>", desc := "(J)V" } : Jvm.MethodName) jdk_35_method_26_code (3 : Nat) (Option.none : Option Jvm.ClassFile.FieldType)).before args0 about1 = true := code_word (m := ⟨11, 1⟩) (meth := k11m1) (c := k11c1) (by decide +kernel) rfl rfl rfl (by decide +kernel)
set_option maxRecDepth 65536 in
theorem w_c6 : (Jvm.Cond.code ({ cls := "java/lang/Number", name := "<init>", desc := "()V" } : Jvm.MethodName) jdk_18_method_1_code (1 : Nat) (Option.none : Option Jvm.ClassFile.FieldType)).before args0 about1 = true := code_word (m := ⟨10, 0⟩) (meth := k10m0) (c := k10c0) (by decide +kernel) rfl rfl rfl (by decide +kernel)
set_option maxRecDepth 65536 in
theorem w_c7 : (Jvm.Cond.code ({ cls := "java/lang/Object", name := "<init>", desc := "()V" } : Jvm.MethodName) object_method_1_code (1 : Nat) (Option.none : Option Jvm.ClassFile.FieldType)).before args0 about1 = true := code_word (m := ⟨0, 0⟩) (meth := k0m0) (c := k0c0) (by decide +kernel) rfl rfl rfl (by decide +kernel)
set_option maxRecDepth 65536 in
theorem w_c8 : (Jvm.Cond.code ({ cls := "java/lang/Boolean", name := "valueOf", desc := "(Z)Ljava/lang/Boolean;" } : Jvm.MethodName) jdk_2055_method_5_code (1 : Nat) (Option.some (Jvm.ClassFile.FieldType.object "java/lang/Boolean"))).before args0 about1 = true := code_word (m := ⟨6, 1⟩) (meth := k6m1) (c := k6c1) (by decide +kernel) rfl rfl rfl (by decide +kernel)
set_option maxRecDepth 65536 in
theorem w_c9 : (Jvm.Cond.code ({ cls := "java/lang/Boolean", name := "booleanValue", desc := "()Z" } : Jvm.MethodName) jdk_2055_method_4_code (1 : Nat) (Option.some Jvm.ClassFile.FieldType.boolean)).before args0 about1 = true := code_word (m := ⟨6, 0⟩) (meth := k6m0) (c := k6c0) (by decide +kernel) rfl rfl rfl (by decide +kernel)
set_option maxRecDepth 65536 in
theorem w_c10 : (Jvm.Cond.code ({ cls := "com/example/sluice/sluice/expression/ValuesIsTruePinLaw", name := "text", desc := "(ICCCCC)Ljava/lang/String;" } : Jvm.MethodName) method_3_code (6 : Nat) (Option.some (Jvm.ClassFile.FieldType.object "java/lang/String"))).before args0 about1 = true := code_word (m := ⟨1, 2⟩) (meth := k1m2) (c := k1c2) (by decide +kernel) rfl rfl rfl (by decide +kernel)
set_option maxRecDepth 65536 in
theorem w_c11 : (Jvm.Cond.code ({ cls := "java/lang/String", name := "<init>", desc := "([C)V" } : Jvm.MethodName) jdk_42_method_3_code (2 : Nat) (Option.none : Option Jvm.ClassFile.FieldType)).before args0 about1 = true := code_word (m := ⟨9, 1⟩) (meth := k9m1) (c := k9c1) (by decide +kernel) rfl rfl rfl (by decide +kernel)
set_option maxRecDepth 65536 in
theorem w_c12 : (Jvm.Cond.code ({ cls := "java/lang/String", name := "<init>", desc := "([CIILjava/lang/Void;)V" } : Jvm.MethodName) jdk_42_method_149_code (6 : Nat) (Option.none : Option Jvm.ClassFile.FieldType)).before args0 about1 = true := code_word (m := ⟨9, 3⟩) (meth := k9m3) (c := k9c3) (by decide +kernel) rfl rfl rfl (by decide +kernel)
set_option maxRecDepth 65536 in
theorem w_c13 : (Jvm.Cond.code ({ cls := "java/lang/StringUTF16", name := "compress", desc := "([CII)[B" } : Jvm.MethodName) jdk_52_method_16_code (6 : Nat) (Option.some (Jvm.ClassFile.FieldType.array Jvm.ClassFile.FieldType.byte))).before args0 about1 = true := code_word (m := ⟨12, 2⟩) (meth := k12m2) (c := k12c2) (by decide +kernel) rfl rfl rfl (by decide +kernel)
set_option maxRecDepth 65536 in
theorem w_c14 : (Jvm.Cond.code ({ cls := "java/lang/StringUTF16", name := "compress", desc := "([CI[BII)I" } : Jvm.MethodName) jdk_52_method_21_code (7 : Nat) (Option.some Jvm.ClassFile.FieldType.int)).before args0 about1 = true := code_word (m := ⟨12, 3⟩) (meth := k12m3) (c := k12c3) (by decide +kernel) rfl rfl rfl (by decide +kernel)
set_option maxRecDepth 65536 in
theorem w_c15 : (Jvm.Cond.code ({ cls := "java/lang/StringUTF16", name := "coderFromArrayLen", desc := "([BI)B" } : Jvm.MethodName) jdk_52_method_15_code (2 : Nat) (Option.some Jvm.ClassFile.FieldType.byte)).before args0 about1 = true := code_word (m := ⟨12, 1⟩) (meth := k12m1) (c := k12c1) (by decide +kernel) rfl rfl rfl (by decide +kernel)
set_option maxRecDepth 65536 in
theorem w_c16 : (Jvm.Cond.code ({ cls := "java/lang/StringLatin1", name := "equals", desc := "([B[B)Z" } : Jvm.MethodName) jdk_43_method_13_code (3 : Nat) (Option.some Jvm.ClassFile.FieldType.boolean)).before args0 about1 = true := code_word (m := ⟨13, 1⟩) (meth := k13m1) (c := k13c1) (by decide +kernel) rfl rfl rfl (by decide +kernel)
def codes1 : List Jvm.Cond := [Jvm.Cond.code x code maxLocals ret, Jvm.Cond.code ({ cls := "com/example/sluice/sluice/expression/Values", name := "isTrue", desc := "(Ljava/lang/Object;)Z" } : Jvm.MethodName) prog_11_method_7_code (1 : Nat) (Option.some Jvm.ClassFile.FieldType.boolean), Jvm.Cond.code ({ cls := "java/lang/Boolean", name := "equals", desc := "(Ljava/lang/Object;)Z" } : Jvm.MethodName) jdk_2055_method_11_code (2 : Nat) (Option.some Jvm.ClassFile.FieldType.boolean), Jvm.Cond.code ({ cls := "java/lang/String", name := "equals", desc := "(Ljava/lang/Object;)Z" } : Jvm.MethodName) jdk_42_method_66_code (3 : Nat) (Option.some Jvm.ClassFile.FieldType.boolean), Jvm.Cond.code ({ cls := "java/lang/Long", name := "valueOf", desc := "(J)Ljava/lang/Long;" } : Jvm.MethodName) jdk_35_method_24_code (3 : Nat) (Option.some (Jvm.ClassFile.FieldType.object "java/lang/Long")), Jvm.Cond.code ({ cls := "java/lang/Long", name := "<init>", desc := "(J)V" } : Jvm.MethodName) jdk_35_method_26_code (3 : Nat) (Option.none : Option Jvm.ClassFile.FieldType), Jvm.Cond.code ({ cls := "java/lang/Number", name := "<init>", desc := "()V" } : Jvm.MethodName) jdk_18_method_1_code (1 : Nat) (Option.none : Option Jvm.ClassFile.FieldType), Jvm.Cond.code ({ cls := "java/lang/Object", name := "<init>", desc := "()V" } : Jvm.MethodName) object_method_1_code (1 : Nat) (Option.none : Option Jvm.ClassFile.FieldType), Jvm.Cond.code ({ cls := "java/lang/Boolean", name := "valueOf", desc := "(Z)Ljava/lang/Boolean;" } : Jvm.MethodName) jdk_2055_method_5_code (1 : Nat) (Option.some (Jvm.ClassFile.FieldType.object "java/lang/Boolean")), Jvm.Cond.code ({ cls := "java/lang/Boolean", name := "booleanValue", desc := "()Z" } : Jvm.MethodName) jdk_2055_method_4_code (1 : Nat) (Option.some Jvm.ClassFile.FieldType.boolean), Jvm.Cond.code ({ cls := "com/example/sluice/sluice/expression/ValuesIsTruePinLaw", name := "text", desc := "(ICCCCC)Ljava/lang/String;" } : Jvm.MethodName) method_3_code (6 : Nat) (Option.some (Jvm.ClassFile.FieldType.object "java/lang/String")), Jvm.Cond.code ({ cls := "java/lang/String", name := "<init>", desc := "([C)V" } : Jvm.MethodName) jdk_42_method_3_code (2 : Nat) (Option.none : Option Jvm.ClassFile.FieldType), Jvm.Cond.code ({ cls := "java/lang/String", name := "<init>", desc := "([CIILjava/lang/Void;)V" } : Jvm.MethodName) jdk_42_method_149_code (6 : Nat) (Option.none : Option Jvm.ClassFile.FieldType), Jvm.Cond.code ({ cls := "java/lang/StringUTF16", name := "compress", desc := "([CII)[B" } : Jvm.MethodName) jdk_52_method_16_code (6 : Nat) (Option.some (Jvm.ClassFile.FieldType.array Jvm.ClassFile.FieldType.byte)), Jvm.Cond.code ({ cls := "java/lang/StringUTF16", name := "compress", desc := "([CI[BII)I" } : Jvm.MethodName) jdk_52_method_21_code (7 : Nat) (Option.some Jvm.ClassFile.FieldType.int), Jvm.Cond.code ({ cls := "java/lang/StringUTF16", name := "coderFromArrayLen", desc := "([BI)B" } : Jvm.MethodName) jdk_52_method_15_code (2 : Nat) (Option.some Jvm.ClassFile.FieldType.byte), Jvm.Cond.code ({ cls := "java/lang/StringLatin1", name := "equals", desc := "([B[B)Z" } : Jvm.MethodName) jdk_43_method_13_code (3 : Nat) (Option.some Jvm.ClassFile.FieldType.boolean)]
set_option maxRecDepth 65536 in
theorem codes_eq : words1.filter isCode = codes1 := rfl
theorem w_codes : ∀ c ∈ words1.filter isCode, c.before args0 about1 = true := by
  rw [codes_eq]
  intro c hc
  simp only [codes1, List.mem_cons, List.not_mem_nil, or_false] at hc
  rcases hc with rfl | rfl | rfl | rfl | rfl | rfl | rfl | rfl | rfl | rfl | rfl | rfl | rfl | rfl | rfl | rfl | rfl
  · exact w_c0
  · exact w_c1
  · exact w_c2
  · exact w_c3
  · exact w_c4
  · exact w_c5
  · exact w_c6
  · exact w_c7
  · exact w_c8
  · exact w_c9
  · exact w_c10
  · exact w_c11
  · exact w_c12
  · exact w_c13
  · exact w_c14
  · exact w_c15
  · exact w_c16
set_option maxRecDepth 65536 in
theorem w_t1 : (words1.take 24).all (fun c => isCode c || c.before args0 about1) = true := by decide +kernel
set_option maxRecDepth 65536 in
theorem w_t2 : ((words1.drop 24).take 24).all (fun c => isCode c || c.before args0 about1) = true := by decide +kernel
set_option maxRecDepth 65536 in
theorem w_t3 : (((words1.drop 24).drop 24).take 24).all (fun c => isCode c || c.before args0 about1) = true := by decide +kernel
set_option maxRecDepth 65536 in
theorem w_t4 : ((((words1.drop 24).drop 24).drop 24).take 24).all (fun c => isCode c || c.before args0 about1) = true := by decide +kernel
set_option maxRecDepth 65536 in
theorem w_t5 : ((((words1.drop 24).drop 24).drop 24).drop 24).all (fun c => isCode c || c.before args0 about1) = true := by decide +kernel
theorem w_tables : (allAtoms (Jvm.Cond.code x code maxLocals ret :: tables_1)).before args0 about1 = true := by
  rw [allAtoms_all]
  show words1.all (fun c => c.before args0 about1) = true
  refine all_split ?_ w_codes
  rw [← List.take_append_drop 24 words1, List.all_append, w_t1, ← List.take_append_drop 24 (words1.drop 24), List.all_append, w_t2, ← List.take_append_drop 24 ((words1.drop 24).drop 24), List.all_append, w_t3, ← List.take_append_drop 24 (((words1.drop 24).drop 24).drop 24), List.all_append, w_t4, w_t5]
  rfl
set_option maxRecDepth 65536 in
theorem w_rest : rest_1_c.before args0 about1 = true := by decide +kernel
set_option maxRecDepth 65536 in
theorem w_case : (Jvm.Cond.and given_1 narrow_1).before args0 about1 = true := by decide +kernel
set_option maxRecDepth 65536 in
theorem w_consts : constsHeld consts_1 about1 := Jvm.Lit.constsHeldB_iff.mp (by decide +kernel)
theorem w_applies : (headSpec (Jvm.Cond.code x code maxLocals ret :: tables_1) room_1).applies x e0.platform about1 = true :=
  (Spec.applies_iff w_frames).mpr ⟨w_running, w_runnable, w_alone, w_named, w_hears, w_ripe, w_room, w_tables⟩
theorem atStart : AtStart classFile x code maxLocals ret World_1 tables_1 room_1 Calls_1 rest_1 Pre_1 launch0 p0 e0 about1 theMethod args0 below0 :=
  ⟨lists_1, trivial, launch0.admits_env _ _ _, launch0.least_env, fairChoices_fair.cas, fairChoices_fair.clock, w_frames, w_args, w_heap, w_applies, ⟨w_consts, trivial⟩, w_rest, w_case⟩
end start1
theorem witness_1 : WitnessClaimed_1 := ⟨start1.p0, start1.e0, start1.about1, start1.theMethod, start1.args0, start1.below0, start1.atStart⟩
end Jvm.Pilot.@@N@@
