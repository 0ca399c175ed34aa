import JvmDerived
import JvmDerived.Pilot.@@N@@Statement
import JvmDerived.Pilot.@@N@@Code
set_option linter.unusedVariables false
set_option linter.unusedSimpArgs false
@@BLOCK:NumsL.lean.txt@@
namespace Jvm.Pilot.@@N@@
open Jvm Jvm.ClassFile Sem Op Lib Jvm.Free Jvm.Stand Jvm.LawKit Jvm.RoadKit Bundle Jvm.Pilot.@@N@@.Jvm.D
section Own
variable {p : Program} {l : Launch} {e : Env} {R : Room} {s : State} {m : MethodId} {args : Array Value} {below : List Frame} {meth : Method} {c : Code} {T : State} {locs : List Loc} {cells slots : Nat}
def Go (p : Program) (e : Env) (below : List Frame) (F : State → Outcome → Prop) (t : State) : Prop := ∃ s₂ o, Steps p.tables e below t s₂ ∧ F s₂ o
theorem Go.via {F : State → Outcome → Prop} {a b : State} (h : ∀ t, Steps p.tables e below b t → Steps p.tables e below a t) (g : Go p e below F b) : Go p e below F a := by
  obtain ⟨s₂, o, k, f⟩ := g
  exact ⟨s₂, o, h _ k, f⟩
theorem Go.tr {F : State → Outcome → Prop} {a b : State} (h : Steps p.tables e below a b) (g : Go p e below F b) : Go p e below F a := by
  obtain ⟨s₂, o, k, f⟩ := g
  exact ⟨s₂, o, h.trans k, f⟩
def FinE (s : State) (below : List Frame) (Q : Option Value → Heap → List Loc → Prop) (C S : Nat) (s₂ : State) (o : Outcome) : Prop := s₂.status = .running ∧ Ended s₂ below o ∧ ∃ v L, o = .returned v ∧ Q v s₂.heap L ∧ FrameEnd s o s₂ L C S
variable {Q : Option Value → Heap → List Loc → Prop} {C S : Nat}
theorem own_retN (X : Stand p l e R s m args below meth c T locs cells slots) (hx : p.tables.exec = Jvm.exec) (hlk : meth.locks = false) {pc : Nat} {Ls : Array Slot} {z : Int32} {t : FieldType} {rest : List Value} (hret : meth.sig.returnType = some t) (ht : t = .boolean ∨ t = .byte ∨ t = .char ∨ t = .short)
    (hd : decode c.code pc = .ok (.ireturn, 1)) (hQ : Q (some (.int (nar t z))) T.heap locs) (hc : cells ≤ C) (hs : slots ≤ S) : Go p e below (FinE s below Q C S) (T.setTop (mkF m pc Ls (.int z :: rest))) := by
  obtain ⟨fs, hr, hrun, hended, hW, hsame⟩ := X.leave (v := some (.int (nar t z))) (fun h => by rw [hret] at h; cases h) hlk
  exact ⟨_, _, retN X hx hret ht hd hr, hrun, hended, _, _, rfl, hQ, ⟨_, rfl⟩, hW, hsame.mono hc hs⟩
theorem own_retI (X : Stand p l e R s m args below meth c T locs cells slots) (hx : p.tables.exec = Jvm.exec) (hlk : meth.locks = false) {pc : Nat} {Ls : Array Slot} {z : Int32} {rest : List Value} (hret : meth.sig.returnType = some .int)
    (hd : decode c.code pc = .ok (.ireturn, 1)) (hQ : Q (some (.int z)) T.heap locs) (hc : cells ≤ C) (hs : slots ≤ S) : Go p e below (FinE s below Q C S) (T.setTop (mkF m pc Ls (.int z :: rest))) := by
  obtain ⟨fs, hr, hrun, hended, hW, hsame⟩ := X.leave (v := some (.int z)) (fun h => by rw [hret] at h; cases h) hlk
  refine ⟨T.setFrames fs, _, ?_, hrun, hended, _, _, rfl, hQ, ⟨_, rfl⟩, hW, hsame.mono hc hs⟩
  have hm' : T.vm.method? m = some meth := X.method'
  have hn : narrow .int (.int z) = .int z := rfl
  show Steps p.tables e below (T.setTop { method := m, pc := pc, locals := Ls, stack := _ :: rest, locked := none }) _
  jvm_step X.here [X.here.top, hx, hd, hm', hret, hn]
  first | (intro acts; rw [hr _ acts rfl rfl rfl]) | rw [hr _ _ rfl rfl rfl]
  exact Steps.refl _
theorem own_retA (X : Stand p l e R s m args below meth c T locs cells slots) (hx : p.tables.exec = Jvm.exec) (hlk : meth.locks = false) {pc : Nat} {Ls : Array Slot} {v : Value} {rest : List Value} {t : FieldType} (hret : meth.sig.returnType = some t) (ht : t.isReference = true) (hv : v.isRef = true)
    (hd : decode c.code pc = .ok (.areturn, 1)) (hQ : Q (some v) T.heap locs) (hc : cells ≤ C) (hs : slots ≤ S) : Go p e below (FinE s below Q C S) (T.setTop (mkF m pc Ls (v :: rest))) := by
  obtain ⟨fs, hr, hrun, hended, hW, hsame⟩ := X.leave (v := some v) (fun h => by rw [hret] at h; cases h) hlk
  refine ⟨T.setFrames fs, _, ?_, hrun, hended, _, _, rfl, hQ, ⟨_, rfl⟩, hW, hsame.mono hc hs⟩
  have hm' : T.vm.method? m = some meth := X.method'
  show Steps p.tables e below (T.setTop { method := m, pc := pc, locals := Ls, stack := _ :: rest, locked := none }) _
  jvm_step X.here [X.here.top, hx, hd, hm', hret, hv, ht]
  first | (intro acts; rw [hr _ acts rfl rfl rfl]) | rw [hr _ _ rfl rfl rfl]
  exact Steps.refl _
theorem own_retV (X : Stand p l e R s m args below meth c T locs cells slots) (hx : p.tables.exec = Jvm.exec) (hlk : meth.locks = false) {pc : Nat} {Ls : Array Slot} (hret : meth.sig.returnType = none)
    (hd : decode c.code pc = .ok (.return_, 1)) (hQ : Q none T.heap locs) (hc : cells ≤ C) (hs : slots ≤ S) : Go p e below (FinE s below Q C S) (T.setTop (mkF m pc Ls [])) := by
  obtain ⟨fs, hr, hrun, hended, hW, hsame⟩ := X.leave (v := none) (fun _ => rfl) hlk
  exact ⟨T.setFrames fs, _, X.returnOut hx hret hd hr, hrun, hended, _, _, rfl, hQ, ⟨_, rfl⟩, hW, hsame.mono hc hs⟩
def FinW (s : State) (below : List Frame) (Q : Option Value → Heap → List Loc → Prop) (C S : Nat) (s₂ : State) (o : Outcome) : Prop := s₂.status = .running ∧ Ended s₂ below o ∧ ∃ v L, o = .returned v ∧ Q v s₂.heap L ∧ ReturnedEndW s o s₂ L C S
theorem own_mono {s t : State} {o : Outcome} {L : List Loc} {k n k' n' : Nat} (h : ReturnedEndW s o t L k n) (hk : k ≤ k') (hn : n ≤ n') : ReturnedEndW s o t L k' n' := ⟨h.1, h.2.1, h.2.2.1, h.2.2.2.mono hk hn⟩
theorem own_retNW {vm₁ : Vm} {kk : Nat} (X : Stand p l e R (s.setVm vm₁) m args below meth c T locs cells slots) (hS : s.Since vm₁ kk) (hk : kk ≤ T.heap.size) (hx : p.tables.exec = Jvm.exec) (hlk : meth.locks = false) {pc : Nat} {Ls : Array Slot} {z : Int32} {t : FieldType} {rest : List Value} (hret : meth.sig.returnType = some t) (ht : t = .boolean ∨ t = .byte ∨ t = .char ∨ t = .short)
    (hd : decode c.code pc = .ok (.ireturn, 1)) (hQ : Q (some (.int (nar t z))) T.heap locs) (hc : cells ≤ C) (hs : slots ≤ S) : Go p e below (FinW s below Q C S) (T.setTop (mkF m pc Ls (.int z :: rest))) := by
  obtain ⟨fs, hr, hrun, hended, hW⟩ := X.leaveW hS hk (v := some (.int (nar t z))) (fun h => by rw [hret] at h; cases h) hlk
  exact ⟨_, _, retN X hx hret ht hd hr, hrun, hended, _, _, rfl, hQ, own_mono hW hc hs⟩
theorem own_retAW {vm₁ : Vm} {kk : Nat} (X : Stand p l e R (s.setVm vm₁) m args below meth c T locs cells slots) (hS : s.Since vm₁ kk) (hk : kk ≤ T.heap.size) (hx : p.tables.exec = Jvm.exec) (hlk : meth.locks = false) {pc : Nat} {Ls : Array Slot} {v : Value} {rest : List Value} {t : FieldType} (hret : meth.sig.returnType = some t) (ht : t.isReference = true) (hv : v.isRef = true)
    (hd : decode c.code pc = .ok (.areturn, 1)) (hQ : Q (some v) T.heap locs) (hc : cells ≤ C) (hs : slots ≤ S) : Go p e below (FinW s below Q C S) (T.setTop (mkF m pc Ls (v :: rest))) := by
  obtain ⟨fs, hr, hrun, hended, hW⟩ := X.leaveW hS hk (v := some v) (fun h => by rw [hret] at h; cases h) hlk
  refine ⟨T.setFrames fs, _, ?_, hrun, hended, _, _, rfl, hQ, own_mono hW hc hs⟩
  have hm' : T.vm.method? m = some meth := X.method'
  show Steps p.tables e below (T.setTop { method := m, pc := pc, locals := Ls, stack := _ :: rest, locked := none }) _
  jvm_step X.here [X.here.top, hx, hd, hm', hret, hv, ht]
  first | (intro acts; rw [hr _ acts rfl rfl rfl]) | rw [hr _ _ rfl rfl rfl]
  exact Steps.refl _
theorem own_retVW {vm₁ : Vm} {kk : Nat} (X : Stand p l e R (s.setVm vm₁) m args below meth c T locs cells slots) (hS : s.Since vm₁ kk) (hk : kk ≤ T.heap.size) (hx : p.tables.exec = Jvm.exec) (hlk : meth.locks = false) {pc : Nat} {Ls : Array Slot} (hret : meth.sig.returnType = none)
    (hd : decode c.code pc = .ok (.return_, 1)) (hQ : Q none T.heap locs) (hc : cells ≤ C) (hs : slots ≤ S) : Go p e below (FinW s below Q C S) (T.setTop (mkF m pc Ls [])) := by
  obtain ⟨fs, hr, hrun, hended, hW⟩ := X.leaveW hS hk (v := none) (fun _ => rfl) hlk
  exact ⟨T.setFrames fs, _, X.returnOut hx hret hd hr, hrun, hended, _, _, rfl, hQ, own_mono hW hc hs⟩
def FinH (Z : State) (EL : List (String × Nat)) (s : State) (below : List Frame) (Q : Option Value → Heap → List Loc → Prop) (C S : Nat) (s₂ : State) (o : Outcome) : Prop := s₂.status = .running ∧ Ended s₂ below o ∧ ∃ v L, o = .returned v ∧ Q v s₂.heap L ∧ CHr Z EL s.vm s.heap s₂.vm s₂.heap ∧ ReturnedEndW s o s₂ L C S
theorem own_retVH {Z : State} {EL : List (String × Nat)} {vm₁ : Vm} {kk : Nat} (X : Stand p l e R (s.setVm vm₁) m args below meth c T locs cells slots) (hS : s.Since vm₁ kk) (hk : kk ≤ T.heap.size) (hR : CHr Z EL s.vm s.heap T.vm T.heap) (hx : p.tables.exec = Jvm.exec) (hlk : meth.locks = false) {pc : Nat} {Ls : Array Slot} (hret : meth.sig.returnType = none)
    (hd : decode c.code pc = .ok (.return_, 1)) (hQ : Q none T.heap locs) (hc : cells ≤ C) (hs : slots ≤ S) : Go p e below (FinH Z EL s below Q C S) (T.setTop (mkF m pc Ls [])) := by
  obtain ⟨fs, hr, hrun, hended, hW⟩ := X.leaveW hS hk (v := none) (fun _ => rfl) hlk
  exact ⟨T.setFrames fs, _, X.returnOut hx hret hd hr, hrun, hended, _, _, rfl, hQ, hR, own_mono hW hc hs⟩
theorem own_retAH {Z : State} {EL : List (String × Nat)} {vm₁ : Vm} {kk : Nat} (X : Stand p l e R (s.setVm vm₁) m args below meth c T locs cells slots) (hS : s.Since vm₁ kk) (hk : kk ≤ T.heap.size) (hR : CHr Z EL s.vm s.heap T.vm T.heap) (hx : p.tables.exec = Jvm.exec) (hlk : meth.locks = false) {pc : Nat} {Ls : Array Slot} {v : Value} {rest : List Value} {t : FieldType} (hret : meth.sig.returnType = some t) (ht : t.isReference = true) (hv : v.isRef = true)
    (hd : decode c.code pc = .ok (.areturn, 1)) (hQ : Q (some v) T.heap locs) (hc : cells ≤ C) (hs : slots ≤ S) : Go p e below (FinH Z EL s below Q C S) (T.setTop (mkF m pc Ls (v :: rest))) := by
  obtain ⟨fs, hr, hrun, hended, hW⟩ := X.leaveW hS hk (v := some v) (fun h => by rw [hret] at h; cases h) hlk
  refine ⟨T.setFrames fs, _, ?_, hrun, hended, _, _, rfl, hQ, hR, own_mono hW hc hs⟩
  have hm' : T.vm.method? m = some meth := X.method'
  show Steps p.tables e below (T.setTop { method := m, pc := pc, locals := Ls, stack := _ :: rest, locked := none }) _
  jvm_step X.here [X.here.top, hx, hd, hm', hret, hv, ht]
  first | (intro acts; rw [hr _ acts rfl rfl rfl]) | rw [hr _ _ rfl rfl rfl]
  exact Steps.refl _
theorem own_retNH {Z : State} {EL : List (String × Nat)} {vm₁ : Vm} {kk : Nat} (X : Stand p l e R (s.setVm vm₁) m args below meth c T locs cells slots) (hS : s.Since vm₁ kk) (hk : kk ≤ T.heap.size) (hR : CHr Z EL s.vm s.heap T.vm T.heap) (hx : p.tables.exec = Jvm.exec) (hlk : meth.locks = false) {pc : Nat} {Ls : Array Slot} {z : Int32} {t : FieldType} {rest : List Value} (hret : meth.sig.returnType = some t) (ht : t = .boolean ∨ t = .byte ∨ t = .char ∨ t = .short)
    (hd : decode c.code pc = .ok (.ireturn, 1)) (hQ : Q (some (.int (nar t z))) T.heap locs) (hc : cells ≤ C) (hs : slots ≤ S) : Go p e below (FinH Z EL s below Q C S) (T.setTop (mkF m pc Ls (.int z :: rest))) := by
  obtain ⟨fs, hr, hrun, hended, hW⟩ := X.leaveW hS hk (v := some (.int (nar t z))) (fun h => by rw [hret] at h; cases h) hlk
  exact ⟨_, _, retN X hx hret ht hd hr, hrun, hended, _, _, rfl, hQ, hR, own_mono hW hc hs⟩
theorem own_cat {v : Value} (h : v.isRef = true) : v.category = 1 := by cases v <;> simp_all [Value.isRef, Value.category]
end Own
theorem ow {Z : State} {a0 : Array Value} (hw : ∀ d ∈ tables_1, d.before a0 Z = true) (i : Nat) {d : Jvm.Cond} (h : tables_1[i]? = some d) : d.before a0 Z = true := hw d (List.mem_of_getElem? h)
abbrev TW (Z : State) (a0 : Array Value) : Prop := ∀ d ∈ tables_1, d.before a0 Z = true
abbrev MF (l : Launch) (Z : State) (y : MethodName) (b : ByteArray) (k : Nat) (r : Option FieldType) (ws : List Jvm.Cond) (R : Room) (as' : Array Value) (h0 : Heap) (Q : Option Value → Heap → List Loc → Prop) : Prop := MetFree l y (head1 (Jvm.Cond.code y b k r :: ws) R) (fun a U => a = as' ∧ Z.Warmed39 U.vm ∧ U.heap = h0) (fun _ _ _ _ _ => True) (fun _ U o U' => ∃ v L, o = .returned v ∧ Q v U'.heap L ∧ FrameEnd U o U' L R.cells R.slots)
abbrev rmm (f c s k : Nat) : Room := { frames := f, cells := c, slots := s, locals := k }
theorem d17_0 : decode prog_5_method_4_code 0 = .ok (.iload_n 0, 1) := by decide +kernel
theorem d17_1 : decode prog_5_method_4_code 1 = .ok (.bipush 97, 2) := by decide +kernel
theorem d17_3 : decode prog_5_method_4_code 3 = .ok (.if_icmp .lt 13, 3) := by decide +kernel
theorem d17_16 : decode prog_5_method_4_code 16 = .ok (.iconst 0, 1) := by decide +kernel
theorem d17_17 : decode prog_5_method_4_code 17 = .ok (.ireturn, 1) := by decide +kernel
theorem d17_6 : decode prog_5_method_4_code 6 = .ok (.iload_n 0, 1) := by decide +kernel
theorem d17_7 : decode prog_5_method_4_code 7 = .ok (.bipush 122, 2) := by decide +kernel
theorem d17_9 : decode prog_5_method_4_code 9 = .ok (.if_icmp .gt 7, 3) := by decide +kernel
theorem d17_12 : decode prog_5_method_4_code 12 = .ok (.iconst 1, 1) := by decide +kernel
theorem d17_13 : decode prog_5_method_4_code 13 = .ok (.goto 4, 3) := by decide +kernel
theorem pn_com_example_timed_cap_timedcap_model_Names : plainName "com/example/timed_cap/timedcap/model/Names" = true := by first | (simp [plainName, overriddenIn]; done) | decide +kernel
theorem d18_0 : decode prog_5_method_5_code 0 = .ok (.iload_n 0, 1) := by decide +kernel
theorem d18_1 : decode prog_5_method_5_code 1 = .ok (.bipush 48, 2) := by decide +kernel
theorem d18_3 : decode prog_5_method_5_code 3 = .ok (.if_icmp .lt 13, 3) := by decide +kernel
theorem d18_16 : decode prog_5_method_5_code 16 = .ok (.iconst 0, 1) := by decide +kernel
theorem d18_17 : decode prog_5_method_5_code 17 = .ok (.ireturn, 1) := by decide +kernel
theorem d18_6 : decode prog_5_method_5_code 6 = .ok (.iload_n 0, 1) := by decide +kernel
theorem d18_7 : decode prog_5_method_5_code 7 = .ok (.bipush 57, 2) := by decide +kernel
theorem d18_9 : decode prog_5_method_5_code 9 = .ok (.if_icmp .gt 7, 3) := by decide +kernel
theorem d18_12 : decode prog_5_method_5_code 12 = .ok (.iconst 1, 1) := by decide +kernel
theorem d18_13 : decode prog_5_method_5_code 13 = .ok (.goto 4, 3) := by decide +kernel
theorem d9_0 : decode method_2_code 0 = .ok (.iload_n 0, 1) := by decide +kernel
theorem d9_1 : decode method_2_code 1 = .ok (.bipush 65, 2) := by decide +kernel
theorem d9_3 : decode method_2_code 3 = .ok (.if_icmp .lt 11, 3) := by decide +kernel
theorem d9_14 : decode method_2_code 14 = .ok (.iload_n 0, 1) := by decide +kernel
theorem d9_15 : decode method_2_code 15 = .ok (.bipush 97, 2) := by decide +kernel
theorem d9_17 : decode method_2_code 17 = .ok (.if_icmp .lt 11, 3) := by decide +kernel
theorem d9_28 : decode method_2_code 28 = .ok (.iload_n 0, 1) := by decide +kernel
theorem d9_29 : decode method_2_code 29 = .ok (.bipush 48, 2) := by decide +kernel
theorem d9_31 : decode method_2_code 31 = .ok (.if_icmp .lt 11, 3) := by decide +kernel
theorem d9_42 : decode method_2_code 42 = .ok (.iload_n 0, 1) := by decide +kernel
theorem d9_43 : decode method_2_code 43 = .ok (.bipush 46, 2) := by decide +kernel
theorem d9_45 : decode method_2_code 45 = .ok (.if_icmp .eq 15, 3) := by decide +kernel
theorem d9_60 : decode method_2_code 60 = .ok (.iconst 1, 1) := by decide +kernel
theorem d9_61 : decode method_2_code 61 = .ok (.goto 4, 3) := by decide +kernel
theorem d9_65 : decode method_2_code 65 = .ok (.ireturn, 1) := by decide +kernel
theorem d9_48 : decode method_2_code 48 = .ok (.iload_n 0, 1) := by decide +kernel
theorem d9_49 : decode method_2_code 49 = .ok (.bipush 95, 2) := by decide +kernel
theorem d9_51 : decode method_2_code 51 = .ok (.if_icmp .eq 9, 3) := by decide +kernel
theorem d9_54 : decode method_2_code 54 = .ok (.iload_n 0, 1) := by decide +kernel
theorem d9_55 : decode method_2_code 55 = .ok (.bipush 45, 2) := by decide +kernel
theorem d9_57 : decode method_2_code 57 = .ok (.if_icmp .ne 7, 3) := by decide +kernel
theorem d9_64 : decode method_2_code 64 = .ok (.iconst 0, 1) := by decide +kernel
theorem d9_34 : decode method_2_code 34 = .ok (.iload_n 0, 1) := by decide +kernel
theorem d9_35 : decode method_2_code 35 = .ok (.bipush 57, 2) := by decide +kernel
theorem d9_37 : decode method_2_code 37 = .ok (.if_icmp .gt 5, 3) := by decide +kernel
theorem d9_40 : decode method_2_code 40 = .ok (.iconst 1, 1) := by decide +kernel
theorem d9_41 : decode method_2_code 41 = .ok (.ireturn, 1) := by decide +kernel
theorem d9_20 : decode method_2_code 20 = .ok (.iload_n 0, 1) := by decide +kernel
theorem d9_21 : decode method_2_code 21 = .ok (.bipush 122, 2) := by decide +kernel
theorem d9_23 : decode method_2_code 23 = .ok (.if_icmp .gt 5, 3) := by decide +kernel
theorem d9_26 : decode method_2_code 26 = .ok (.iconst 1, 1) := by decide +kernel
theorem d9_27 : decode method_2_code 27 = .ok (.ireturn, 1) := by decide +kernel
theorem d9_6 : decode method_2_code 6 = .ok (.iload_n 0, 1) := by decide +kernel
theorem d9_7 : decode method_2_code 7 = .ok (.bipush 90, 2) := by decide +kernel
theorem d9_9 : decode method_2_code 9 = .ok (.if_icmp .gt 5, 3) := by decide +kernel
theorem d9_12 : decode method_2_code 12 = .ok (.iconst 1, 1) := by decide +kernel
theorem d9_13 : decode method_2_code 13 = .ok (.ireturn, 1) := by decide +kernel
theorem pn_com_example_timed_cap_timedcap_model_NamesIsNamePinLaw : plainName "com/example/timed_cap/timedcap/model/NamesIsNamePinLaw" = true := by first | (simp [plainName, overriddenIn]; done) | decide +kernel
theorem d5_0 : decode jdk_42_method_55_code 0 = .ok (.aload_n 0, 1) := by decide +kernel
theorem d5_1 : decode jdk_42_method_55_code 1 = .ok (.getfield 9, 3) := by decide +kernel
theorem d5_4 : decode jdk_42_method_55_code 4 = .ok (.arraylength, 1) := by decide +kernel
theorem d5_5 : decode jdk_42_method_55_code 5 = .ok (.ifCond .ne 7, 3) := by decide +kernel
theorem d5_8 : decode jdk_42_method_55_code 8 = .ok (.iconst 1, 1) := by decide +kernel
theorem d5_9 : decode jdk_42_method_55_code 9 = .ok (.goto 4, 3) := by decide +kernel
theorem d5_13 : decode jdk_42_method_55_code 13 = .ok (.ireturn, 1) := by decide +kernel
theorem pn_java_lang_String : plainName "java/lang/String" = true := by first | (simp [plainName, overriddenIn]; done) | decide +kernel
theorem d4_0 : decode prog_5_method_2_code 0 = .ok (.aload_n 0, 1) := by decide +kernel
theorem d4_1 : decode prog_5_method_2_code 1 = .ok (.invokevirtual 7, 3) := by decide +kernel
theorem pd_0 : parseMethodDescriptor "()Z" = some ⟨[], some .boolean⟩ := by decide +kernel
theorem d4_4 : decode prog_5_method_2_code 4 = .ok (.ifCond .ne 11, 3) := by decide +kernel
theorem d4_15 : decode prog_5_method_2_code 15 = .ok (.iconst 0, 1) := by decide +kernel
theorem d4_16 : decode prog_5_method_2_code 16 = .ok (.ireturn, 1) := by decide +kernel
theorem d5_12 : decode jdk_42_method_55_code 12 = .ok (.iconst 0, 1) := by decide +kernel
theorem d16_0 : decode jdk_41_method_11_code 0 = .ok (.iload_n 0, 1) := by decide +kernel
theorem d16_1 : decode jdk_41_method_11_code 1 = .ok (.ifCond .lt 8, 3) := by decide +kernel
theorem d16_4 : decode jdk_41_method_11_code 4 = .ok (.iload_n 0, 1) := by decide +kernel
theorem d16_5 : decode jdk_41_method_11_code 5 = .ok (.iload_n 1, 1) := by decide +kernel
theorem d16_6 : decode jdk_41_method_11_code 6 = .ok (.if_icmp .lt 10, 3) := by decide +kernel
theorem d16_16 : decode jdk_41_method_11_code 16 = .ok (.iload_n 0, 1) := by decide +kernel
theorem d16_17 : decode jdk_41_method_11_code 17 = .ok (.ireturn, 1) := by decide +kernel
theorem pn_jdk_internal_util_Preconditions : plainName "jdk/internal/util/Preconditions" = true := by first | (simp [plainName, overriddenIn]; done) | decide +kernel
theorem d15_0 : decode jdk_42_method_155_code 0 = .ok (.iload_n 0, 1) := by decide +kernel
theorem d15_1 : decode jdk_42_method_155_code 1 = .ok (.iload_n 1, 1) := by decide +kernel
theorem d15_2 : decode jdk_42_method_155_code 2 = .ok (.getstatic 1053, 3) := by decide +kernel
theorem d15_5 : decode jdk_42_method_155_code 5 = .ok (.invokestatic 1059, 3) := by decide +kernel
theorem pd_1 : parseMethodDescriptor "(IILjava/util/function/BiFunction;)I" = some ⟨[.int, .int, (.object "java/util/function/BiFunction")], some .int⟩ := by decide +kernel
theorem d15_8 : decode jdk_42_method_155_code 8 = .ok (.pop, 1) := by decide +kernel
theorem d15_9 : decode jdk_42_method_155_code 9 = .ok (.return_, 1) := by decide +kernel
theorem d14_0 : decode jdk_43_method_2_code 0 = .ok (.iload_n 1, 1) := by decide +kernel
theorem d14_1 : decode jdk_43_method_2_code 1 = .ok (.aload_n 0, 1) := by decide +kernel
theorem d14_2 : decode jdk_43_method_2_code 2 = .ok (.arraylength, 1) := by decide +kernel
theorem d14_3 : decode jdk_43_method_2_code 3 = .ok (.invokestatic 9, 3) := by decide +kernel
theorem pd_2 : parseMethodDescriptor "(II)V" = some ⟨[.int, .int], none⟩ := by decide +kernel
theorem d14_6 : decode jdk_43_method_2_code 6 = .ok (.aload_n 0, 1) := by decide +kernel
theorem d14_7 : decode jdk_43_method_2_code 7 = .ok (.iload_n 1, 1) := by decide +kernel
theorem d14_8 : decode jdk_43_method_2_code 8 = .ok (.baload, 1) := by decide +kernel
theorem d14_9 : decode jdk_43_method_2_code 9 = .ok (.sipush 255, 3) := by decide +kernel
theorem d14_12 : decode jdk_43_method_2_code 12 = .ok (.iand, 1) := by decide +kernel
theorem d14_13 : decode jdk_43_method_2_code 13 = .ok (.i2c, 1) := by decide +kernel
theorem d14_14 : decode jdk_43_method_2_code 14 = .ok (.ireturn, 1) := by decide +kernel
theorem pn_java_lang_StringLatin1 : plainName "java/lang/StringLatin1" = true := by first | (simp [plainName, overriddenIn]; done) | decide +kernel
theorem d13_0 : decode jdk_42_method_154_code 0 = .ok (.getstatic 38, 3) := by decide +kernel
theorem d13_3 : decode jdk_42_method_154_code 3 = .ok (.ifCond .eq 14, 3) := by decide +kernel
theorem d13_6 : decode jdk_42_method_154_code 6 = .ok (.aload_n 0, 1) := by decide +kernel
theorem d13_7 : decode jdk_42_method_154_code 7 = .ok (.getfield 15, 3) := by decide +kernel
theorem d13_10 : decode jdk_42_method_154_code 10 = .ok (.ifCond .ne 7, 3) := by decide +kernel
theorem d13_13 : decode jdk_42_method_154_code 13 = .ok (.iconst 1, 1) := by decide +kernel
theorem d13_14 : decode jdk_42_method_154_code 14 = .ok (.goto 4, 3) := by decide +kernel
theorem d13_18 : decode jdk_42_method_154_code 18 = .ok (.ireturn, 1) := by decide +kernel
theorem d12_0 : decode jdk_42_method_56_code 0 = .ok (.aload_n 0, 1) := by decide +kernel
theorem d12_1 : decode jdk_42_method_56_code 1 = .ok (.invokevirtual 492, 3) := by decide +kernel
theorem d12_4 : decode jdk_42_method_56_code 4 = .ok (.ifCond .eq 12, 3) := by decide +kernel
theorem d12_7 : decode jdk_42_method_56_code 7 = .ok (.aload_n 0, 1) := by decide +kernel
theorem d12_8 : decode jdk_42_method_56_code 8 = .ok (.getfield 9, 3) := by decide +kernel
theorem d12_11 : decode jdk_42_method_56_code 11 = .ok (.iload_n 1, 1) := by decide +kernel
theorem d12_12 : decode jdk_42_method_56_code 12 = .ok (.invokestatic 495, 3) := by decide +kernel
theorem pd_3 : parseMethodDescriptor "([BI)C" = some ⟨[(.array .byte), .int], some .char⟩ := by decide +kernel
theorem d12_15 : decode jdk_42_method_56_code 15 = .ok (.ireturn, 1) := by decide +kernel
theorem d11_0 : decode jdk_42_method_152_code 0 = .ok (.getstatic 38, 3) := by decide +kernel
theorem d11_3 : decode jdk_42_method_152_code 3 = .ok (.ifCond .eq 10, 3) := by decide +kernel
theorem d11_6 : decode jdk_42_method_152_code 6 = .ok (.aload_n 0, 1) := by decide +kernel
theorem d11_7 : decode jdk_42_method_152_code 7 = .ok (.getfield 15, 3) := by decide +kernel
theorem d11_10 : decode jdk_42_method_152_code 10 = .ok (.goto 4, 3) := by decide +kernel
theorem d11_14 : decode jdk_42_method_152_code 14 = .ok (.ireturn, 1) := by decide +kernel
theorem d10_0 : decode jdk_42_method_54_code 0 = .ok (.aload_n 0, 1) := by decide +kernel
theorem d10_1 : decode jdk_42_method_54_code 1 = .ok (.getfield 9, 3) := by decide +kernel
theorem d10_4 : decode jdk_42_method_54_code 4 = .ok (.arraylength, 1) := by decide +kernel
theorem d10_5 : decode jdk_42_method_54_code 5 = .ok (.aload_n 0, 1) := by decide +kernel
theorem d10_6 : decode jdk_42_method_54_code 6 = .ok (.invokevirtual 335, 3) := by decide +kernel
theorem pd_4 : parseMethodDescriptor "()B" = some ⟨[], some .byte⟩ := by decide +kernel
theorem d10_9 : decode jdk_42_method_54_code 9 = .ok (.ishr, 1) := by decide +kernel
theorem d10_10 : decode jdk_42_method_54_code 10 = .ok (.ireturn, 1) := by decide +kernel
theorem d4_7 : decode prog_5_method_2_code 7 = .ok (.aload_n 0, 1) := by decide +kernel
theorem d4_8 : decode prog_5_method_2_code 8 = .ok (.invokevirtual 13, 3) := by decide +kernel
theorem pd_5 : parseMethodDescriptor "()I" = some ⟨[], some .int⟩ := by decide +kernel
theorem d4_11 : decode prog_5_method_2_code 11 = .ok (.iload_n 1, 1) := by decide +kernel
theorem d4_12 : decode prog_5_method_2_code 12 = .ok (.if_icmp .le 5, 3) := by decide +kernel
theorem d4_17 : decode prog_5_method_2_code 17 = .ok (.iconst 0, 1) := by decide +kernel
theorem d4_18 : decode prog_5_method_2_code 18 = .ok (.istore_n 2, 1) := by decide +kernel
theorem d4_19 : decode prog_5_method_2_code 19 = .ok (.iload_n 2, 1) := by decide +kernel
theorem d4_20 : decode prog_5_method_2_code 20 = .ok (.aload_n 0, 1) := by decide +kernel
theorem d4_21 : decode prog_5_method_2_code 21 = .ok (.invokevirtual 13, 3) := by decide +kernel
theorem d4_24 : decode prog_5_method_2_code 24 = .ok (.if_icmp .ge 61, 3) := by decide +kernel
theorem d4_27 : decode prog_5_method_2_code 27 = .ok (.aload_n 0, 1) := by decide +kernel
theorem d4_28 : decode prog_5_method_2_code 28 = .ok (.iload_n 2, 1) := by decide +kernel
theorem d4_29 : decode prog_5_method_2_code 29 = .ok (.invokevirtual 17, 3) := by decide +kernel
theorem pd_6 : parseMethodDescriptor "(I)C" = some ⟨[.int], some .char⟩ := by decide +kernel
theorem d4_32 : decode prog_5_method_2_code 32 = .ok (.istore_n 3, 1) := by decide +kernel
theorem d4_79 : decode prog_5_method_2_code 79 = .ok (.iinc 2 1, 3) := by decide +kernel
theorem d4_82 : decode prog_5_method_2_code 82 = .ok (.goto (-63), 3) := by decide +kernel
theorem d4_85 : decode prog_5_method_2_code 85 = .ok (.iconst 1, 1) := by decide +kernel
theorem d4_86 : decode prog_5_method_2_code 86 = .ok (.ireturn, 1) := by decide +kernel
theorem d4_33 : decode prog_5_method_2_code 33 = .ok (.iload_n 3, 1) := by decide +kernel
theorem d4_34 : decode prog_5_method_2_code 34 = .ok (.invokestatic 21, 3) := by decide +kernel
theorem pd_7 : parseMethodDescriptor "(C)Z" = some ⟨[.char], some .boolean⟩ := by decide +kernel
theorem d4_37 : decode prog_5_method_2_code 37 = .ok (.ifCond .ne 42, 3) := by decide +kernel
theorem d4_40 : decode prog_5_method_2_code 40 = .ok (.iload_n 3, 1) := by decide +kernel
theorem d4_41 : decode prog_5_method_2_code 41 = .ok (.bipush 65, 2) := by decide +kernel
theorem d4_43 : decode prog_5_method_2_code 43 = .ok (.if_icmp .lt 9, 3) := by decide +kernel
theorem d4_52 : decode prog_5_method_2_code 52 = .ok (.iload_n 3, 1) := by decide +kernel
theorem d4_53 : decode prog_5_method_2_code 53 = .ok (.invokestatic 27, 3) := by decide +kernel
theorem d4_56 : decode prog_5_method_2_code 56 = .ok (.ifCond .ne 23, 3) := by decide +kernel
theorem d4_59 : decode prog_5_method_2_code 59 = .ok (.iload_n 3, 1) := by decide +kernel
theorem d4_60 : decode prog_5_method_2_code 60 = .ok (.bipush 46, 2) := by decide +kernel
theorem d4_62 : decode prog_5_method_2_code 62 = .ok (.if_icmp .eq 17, 3) := by decide +kernel
theorem d4_65 : decode prog_5_method_2_code 65 = .ok (.iload_n 3, 1) := by decide +kernel
theorem d4_66 : decode prog_5_method_2_code 66 = .ok (.bipush 95, 2) := by decide +kernel
theorem d4_68 : decode prog_5_method_2_code 68 = .ok (.if_icmp .eq 11, 3) := by decide +kernel
theorem d4_71 : decode prog_5_method_2_code 71 = .ok (.iload_n 3, 1) := by decide +kernel
theorem d4_72 : decode prog_5_method_2_code 72 = .ok (.bipush 45, 2) := by decide +kernel
theorem d4_74 : decode prog_5_method_2_code 74 = .ok (.if_icmp .eq 5, 3) := by decide +kernel
theorem d4_77 : decode prog_5_method_2_code 77 = .ok (.iconst 0, 1) := by decide +kernel
theorem d4_78 : decode prog_5_method_2_code 78 = .ok (.ireturn, 1) := by decide +kernel
theorem d4_46 : decode prog_5_method_2_code 46 = .ok (.iload_n 3, 1) := by decide +kernel
theorem d4_47 : decode prog_5_method_2_code 47 = .ok (.bipush 90, 2) := by decide +kernel
theorem d4_49 : decode prog_5_method_2_code 49 = .ok (.if_icmp .le 30, 3) := by decide +kernel
theorem d26_0 : decode jdk_52_method_6_code 0 = .ok (.aload_n 0, 1) := by decide +kernel
theorem d26_1 : decode jdk_52_method_6_code 1 = .ok (.arraylength, 1) := by decide +kernel
theorem d26_2 : decode jdk_52_method_6_code 2 = .ok (.iconst 1, 1) := by decide +kernel
theorem d26_3 : decode jdk_52_method_6_code 3 = .ok (.ishr, 1) := by decide +kernel
theorem d26_4 : decode jdk_52_method_6_code 4 = .ok (.ireturn, 1) := by decide +kernel
theorem pn_java_lang_StringUTF16 : plainName "java/lang/StringUTF16" = true := by first | (simp [plainName, overriddenIn]; done) | decide +kernel
theorem d23_0 : decode jdk_52_method_5_code 0 = .ok (.getstatic 44, 3) := by decide +kernel
theorem d23_3 : decode jdk_52_method_5_code 3 = .ok (.ifCond .ne 25, 3) := by decide +kernel
theorem d23_28 : decode jdk_52_method_5_code 28 = .ok (.iload_n 1, 1) := by decide +kernel
theorem d23_29 : decode jdk_52_method_5_code 29 = .ok (.iconst 1, 1) := by decide +kernel
theorem d23_30 : decode jdk_52_method_5_code 30 = .ok (.ishl, 1) := by decide +kernel
theorem d23_31 : decode jdk_52_method_5_code 31 = .ok (.istore_n 1, 1) := by decide +kernel
theorem d23_32 : decode jdk_52_method_5_code 32 = .ok (.aload_n 0, 1) := by decide +kernel
theorem d23_33 : decode jdk_52_method_5_code 33 = .ok (.iload_n 1, 1) := by decide +kernel
theorem d23_34 : decode jdk_52_method_5_code 34 = .ok (.iinc 1 1, 3) := by decide +kernel
theorem d23_37 : decode jdk_52_method_5_code 37 = .ok (.baload, 1) := by decide +kernel
theorem d23_38 : decode jdk_52_method_5_code 38 = .ok (.sipush 255, 3) := by decide +kernel
theorem d23_41 : decode jdk_52_method_5_code 41 = .ok (.iand, 1) := by decide +kernel
theorem d23_42 : decode jdk_52_method_5_code 42 = .ok (.getstatic 59, 3) := by decide +kernel
theorem d23_45 : decode jdk_52_method_5_code 45 = .ok (.ishl, 1) := by decide +kernel
theorem d23_46 : decode jdk_52_method_5_code 46 = .ok (.aload_n 0, 1) := by decide +kernel
theorem d23_47 : decode jdk_52_method_5_code 47 = .ok (.iload_n 1, 1) := by decide +kernel
theorem d23_48 : decode jdk_52_method_5_code 48 = .ok (.baload, 1) := by decide +kernel
theorem d23_49 : decode jdk_52_method_5_code 49 = .ok (.sipush 255, 3) := by decide +kernel
theorem d23_52 : decode jdk_52_method_5_code 52 = .ok (.iand, 1) := by decide +kernel
theorem d23_53 : decode jdk_52_method_5_code 53 = .ok (.getstatic 63, 3) := by decide +kernel
theorem d23_56 : decode jdk_52_method_5_code 56 = .ok (.ishl, 1) := by decide +kernel
theorem d23_57 : decode jdk_52_method_5_code 57 = .ok (.ior, 1) := by decide +kernel
theorem d23_58 : decode jdk_52_method_5_code 58 = .ok (.i2c, 1) := by decide +kernel
theorem d23_59 : decode jdk_52_method_5_code 59 = .ok (.ireturn, 1) := by decide +kernel
theorem d25_0 : decode jdk_52_method_91_code 0 = .ok (.iload_n 0, 1) := by decide +kernel
theorem d25_1 : decode jdk_52_method_91_code 1 = .ok (.aload_n 1, 1) := by decide +kernel
theorem d25_2 : decode jdk_52_method_91_code 2 = .ok (.invokestatic 48, 3) := by decide +kernel
theorem pd_8 : parseMethodDescriptor "([B)I" = some ⟨[(.array .byte)], some .int⟩ := by decide +kernel
theorem d25_5 : decode jdk_52_method_91_code 5 = .ok (.invokestatic 414, 3) := by decide +kernel
theorem d25_8 : decode jdk_52_method_91_code 8 = .ok (.return_, 1) := by decide +kernel
theorem d24_0 : decode jdk_52_method_83_code 0 = .ok (.iload_n 1, 1) := by decide +kernel
theorem d24_1 : decode jdk_52_method_83_code 1 = .ok (.aload_n 0, 1) := by decide +kernel
theorem d24_2 : decode jdk_52_method_83_code 2 = .ok (.invokestatic 67, 3) := by decide +kernel
theorem pd_9 : parseMethodDescriptor "(I[B)V" = some ⟨[.int, (.array .byte)], none⟩ := by decide +kernel
theorem d24_5 : decode jdk_52_method_83_code 5 = .ok (.aload_n 0, 1) := by decide +kernel
theorem d24_6 : decode jdk_52_method_83_code 6 = .ok (.iload_n 1, 1) := by decide +kernel
theorem d24_7 : decode jdk_52_method_83_code 7 = .ok (.invokestatic 71, 3) := by decide +kernel
theorem d24_10 : decode jdk_52_method_83_code 10 = .ok (.ireturn, 1) := by decide +kernel
theorem d13_17 : decode jdk_42_method_154_code 17 = .ok (.iconst 0, 1) := by decide +kernel
theorem d12_16 : decode jdk_42_method_56_code 16 = .ok (.aload_n 0, 1) := by decide +kernel
theorem d12_17 : decode jdk_42_method_56_code 17 = .ok (.getfield 9, 3) := by decide +kernel
theorem d12_20 : decode jdk_42_method_56_code 20 = .ok (.iload_n 1, 1) := by decide +kernel
theorem d12_21 : decode jdk_42_method_56_code 21 = .ok (.invokestatic 498, 3) := by decide +kernel
theorem d12_24 : decode jdk_42_method_56_code 24 = .ok (.ireturn, 1) := by decide +kernel
theorem d2_0 : decode jdk_42_method_149_code 0 = .ok (.aload_n 0, 1) := by decide +kernel
theorem d2_1 : decode jdk_42_method_149_code 1 = .ok (.invokespecial 1, 3) := by decide +kernel
theorem d2_4 : decode jdk_42_method_149_code 4 = .ok (.iload_n 3, 1) := by decide +kernel
theorem d2_5 : decode jdk_42_method_149_code 5 = .ok (.ifCond .ne 22, 3) := by decide +kernel
theorem d2_8 : decode jdk_42_method_149_code 8 = .ok (.aload_n 0, 1) := by decide +kernel
theorem d2_9 : decode jdk_42_method_149_code 9 = .ok (.ldc 7, 2) := by decide +kernel
theorem d2_11 : decode jdk_42_method_149_code 11 = .ok (.getfield 9, 3) := by decide +kernel
theorem d2_14 : decode jdk_42_method_149_code 14 = .ok (.putfield 9, 3) := by decide +kernel
theorem d2_17 : decode jdk_42_method_149_code 17 = .ok (.aload_n 0, 1) := by decide +kernel
theorem d2_18 : decode jdk_42_method_149_code 18 = .ok (.ldc 7, 2) := by decide +kernel
theorem d2_20 : decode jdk_42_method_149_code 20 = .ok (.getfield 15, 3) := by decide +kernel
theorem d2_23 : decode jdk_42_method_149_code 23 = .ok (.putfield 15, 3) := by decide +kernel
theorem d2_26 : decode jdk_42_method_149_code 26 = .ok (.return_, 1) := by decide +kernel
theorem d1_0 : decode jdk_42_method_3_code 0 = .ok (.aload_n 0, 1) := by decide +kernel
theorem d1_1 : decode jdk_42_method_3_code 1 = .ok (.aload_n 1, 1) := by decide +kernel
theorem d1_2 : decode jdk_42_method_3_code 2 = .ok (.iconst 0, 1) := by decide +kernel
theorem d1_3 : decode jdk_42_method_3_code 3 = .ok (.aload_n 1, 1) := by decide +kernel
theorem d1_4 : decode jdk_42_method_3_code 4 = .ok (.arraylength, 1) := by decide +kernel
theorem d1_5 : decode jdk_42_method_3_code 5 = .ok (.aconst_null, 1) := by decide +kernel
theorem d1_6 : decode jdk_42_method_3_code 6 = .ok (.invokespecial 27, 3) := by decide +kernel
theorem pd_10 : parseMethodDescriptor "([CIILjava/lang/Void;)V" = some ⟨[(.array .char), .int, .int, (.object "java/lang/Void")], none⟩ := by decide +kernel
theorem d1_9 : decode jdk_42_method_3_code 9 = .ok (.return_, 1) := by decide +kernel
theorem d7_0 : decode jdk_52_method_21_code 0 = .ok (.iconst 0, 1) := by decide +kernel
theorem d7_1 : decode jdk_52_method_21_code 1 = .ok (.istore 5, 2) := by decide +kernel
theorem d7_3 : decode jdk_52_method_21_code 3 = .ok (.iload 5, 2) := by decide +kernel
theorem d7_5 : decode jdk_52_method_21_code 5 = .ok (.iload 4, 2) := by decide +kernel
theorem d7_7 : decode jdk_52_method_21_code 7 = .ok (.if_icmp .ge 37, 3) := by decide +kernel
theorem d7_10 : decode jdk_52_method_21_code 10 = .ok (.aload_n 0, 1) := by decide +kernel
theorem d7_11 : decode jdk_52_method_21_code 11 = .ok (.iload_n 1, 1) := by decide +kernel
theorem d7_12 : decode jdk_52_method_21_code 12 = .ok (.caload, 1) := by decide +kernel
theorem d7_13 : decode jdk_52_method_21_code 13 = .ok (.istore 6, 2) := by decide +kernel
theorem d7_15 : decode jdk_52_method_21_code 15 = .ok (.iload 6, 2) := by decide +kernel
theorem d7_17 : decode jdk_52_method_21_code 17 = .ok (.sipush 255, 3) := by decide +kernel
theorem d7_20 : decode jdk_52_method_21_code 20 = .ok (.if_icmp .le 6, 3) := by decide +kernel
theorem d7_23 : decode jdk_52_method_21_code 23 = .ok (.iload 5, 2) := by decide +kernel
theorem d7_25 : decode jdk_52_method_21_code 25 = .ok (.ireturn, 1) := by decide +kernel
theorem d7_26 : decode jdk_52_method_21_code 26 = .ok (.aload_n 2, 1) := by decide +kernel
theorem d7_27 : decode jdk_52_method_21_code 27 = .ok (.iload_n 3, 1) := by decide +kernel
theorem d7_28 : decode jdk_52_method_21_code 28 = .ok (.iload 6, 2) := by decide +kernel
theorem d7_30 : decode jdk_52_method_21_code 30 = .ok (.i2b, 1) := by decide +kernel
theorem d7_31 : decode jdk_52_method_21_code 31 = .ok (.bastore, 1) := by decide +kernel
theorem d7_32 : decode jdk_52_method_21_code 32 = .ok (.iinc 1 1, 3) := by decide +kernel
theorem d7_35 : decode jdk_52_method_21_code 35 = .ok (.iinc 3 1, 3) := by decide +kernel
theorem d7_38 : decode jdk_52_method_21_code 38 = .ok (.iinc 5 1, 3) := by decide +kernel
theorem d7_41 : decode jdk_52_method_21_code 41 = .ok (.goto (-38), 3) := by decide +kernel
theorem d7_44 : decode jdk_52_method_21_code 44 = .ok (.iload 4, 2) := by decide +kernel
theorem d7_46 : decode jdk_52_method_21_code 46 = .ok (.ireturn, 1) := by decide +kernel
theorem d21_0 : decode jdk_52_method_3_code 0 = .ok (.iload_n 0, 1) := by decide +kernel
theorem d21_1 : decode jdk_52_method_3_code 1 = .ok (.ifCond .ge 11, 3) := by decide +kernel
theorem d21_12 : decode jdk_52_method_3_code 12 = .ok (.iload_n 0, 1) := by decide +kernel
theorem d21_13 : decode jdk_52_method_3_code 13 = .ok (.ldc 20, 2) := by decide +kernel
theorem d21_15 : decode jdk_52_method_3_code 15 = .ok (.if_icmp .lt 40, 3) := by decide +kernel
theorem d21_55 : decode jdk_52_method_3_code 55 = .ok (.iload_n 0, 1) := by decide +kernel
theorem d21_56 : decode jdk_52_method_3_code 56 = .ok (.iconst 1, 1) := by decide +kernel
theorem d21_57 : decode jdk_52_method_3_code 57 = .ok (.ishl, 1) := by decide +kernel
theorem d21_58 : decode jdk_52_method_3_code 58 = .ok (.ireturn, 1) := by decide +kernel
theorem d20_0 : decode jdk_52_method_2_code 0 = .ok (.iload_n 0, 1) := by decide +kernel
theorem d20_1 : decode jdk_52_method_2_code 1 = .ok (.invokestatic 11, 3) := by decide +kernel
theorem pd_11 : parseMethodDescriptor "(I)I" = some ⟨[.int], some .int⟩ := by decide +kernel
theorem d20_4 : decode jdk_52_method_2_code 4 = .ok (.newarray .byte, 2) := by decide +kernel
theorem d20_6 : decode jdk_52_method_2_code 6 = .ok (.areturn, 1) := by decide +kernel
theorem d22_0 : decode jdk_52_method_4_code 0 = .ok (.getstatic 44, 3) := by decide +kernel
theorem d22_3 : decode jdk_52_method_4_code 3 = .ok (.ifCond .ne 25, 3) := by decide +kernel
theorem d22_28 : decode jdk_52_method_4_code 28 = .ok (.iload_n 1, 1) := by decide +kernel
theorem d22_29 : decode jdk_52_method_4_code 29 = .ok (.iconst 1, 1) := by decide +kernel
theorem d22_30 : decode jdk_52_method_4_code 30 = .ok (.ishl, 1) := by decide +kernel
theorem d22_31 : decode jdk_52_method_4_code 31 = .ok (.istore_n 1, 1) := by decide +kernel
theorem d22_32 : decode jdk_52_method_4_code 32 = .ok (.aload_n 0, 1) := by decide +kernel
theorem d22_33 : decode jdk_52_method_4_code 33 = .ok (.iload_n 1, 1) := by decide +kernel
theorem d22_34 : decode jdk_52_method_4_code 34 = .ok (.iinc 1 1, 3) := by decide +kernel
theorem d22_37 : decode jdk_52_method_4_code 37 = .ok (.iload_n 2, 1) := by decide +kernel
theorem d22_38 : decode jdk_52_method_4_code 38 = .ok (.getstatic 59, 3) := by decide +kernel
theorem d22_41 : decode jdk_52_method_4_code 41 = .ok (.ishr, 1) := by decide +kernel
theorem d22_42 : decode jdk_52_method_4_code 42 = .ok (.i2b, 1) := by decide +kernel
theorem d22_43 : decode jdk_52_method_4_code 43 = .ok (.bastore, 1) := by decide +kernel
theorem d22_44 : decode jdk_52_method_4_code 44 = .ok (.aload_n 0, 1) := by decide +kernel
theorem d22_45 : decode jdk_52_method_4_code 45 = .ok (.iload_n 1, 1) := by decide +kernel
theorem d22_46 : decode jdk_52_method_4_code 46 = .ok (.iload_n 2, 1) := by decide +kernel
theorem d22_47 : decode jdk_52_method_4_code 47 = .ok (.getstatic 63, 3) := by decide +kernel
theorem d22_50 : decode jdk_52_method_4_code 50 = .ok (.ishr, 1) := by decide +kernel
theorem d22_51 : decode jdk_52_method_4_code 51 = .ok (.i2b, 1) := by decide +kernel
theorem d22_52 : decode jdk_52_method_4_code 52 = .ok (.bastore, 1) := by decide +kernel
theorem d22_53 : decode jdk_52_method_4_code 53 = .ok (.return_, 1) := by decide +kernel
theorem d19_0 : decode jdk_52_method_14_code 0 = .ok (.iload_n 2, 1) := by decide +kernel
theorem d19_1 : decode jdk_52_method_14_code 1 = .ok (.invokestatic 107, 3) := by decide +kernel
theorem pd_12 : parseMethodDescriptor "(I)[B" = some ⟨[.int], some (.array .byte)⟩ := by decide +kernel
theorem d19_4 : decode jdk_52_method_14_code 4 = .ok (.astore_n 3, 1) := by decide +kernel
theorem d19_5 : decode jdk_52_method_14_code 5 = .ok (.iconst 0, 1) := by decide +kernel
theorem d19_6 : decode jdk_52_method_14_code 6 = .ok (.istore 4, 2) := by decide +kernel
theorem d19_8 : decode jdk_52_method_14_code 8 = .ok (.iload 4, 2) := by decide +kernel
theorem d19_10 : decode jdk_52_method_14_code 10 = .ok (.iload_n 2, 1) := by decide +kernel
theorem d19_11 : decode jdk_52_method_14_code 11 = .ok (.if_icmp .ge 21, 3) := by decide +kernel
theorem d19_14 : decode jdk_52_method_14_code 14 = .ok (.aload_n 3, 1) := by decide +kernel
theorem d19_15 : decode jdk_52_method_14_code 15 = .ok (.iload 4, 2) := by decide +kernel
theorem d19_17 : decode jdk_52_method_14_code 17 = .ok (.aload_n 0, 1) := by decide +kernel
theorem d19_18 : decode jdk_52_method_14_code 18 = .ok (.iload_n 1, 1) := by decide +kernel
theorem d19_19 : decode jdk_52_method_14_code 19 = .ok (.caload, 1) := by decide +kernel
theorem d19_20 : decode jdk_52_method_14_code 20 = .ok (.invokestatic 111, 3) := by decide +kernel
theorem pd_13 : parseMethodDescriptor "([BII)V" = some ⟨[(.array .byte), .int, .int], none⟩ := by decide +kernel
theorem d19_23 : decode jdk_52_method_14_code 23 = .ok (.iinc 1 1, 3) := by decide +kernel
theorem d19_26 : decode jdk_52_method_14_code 26 = .ok (.iinc 4 1, 3) := by decide +kernel
theorem d19_29 : decode jdk_52_method_14_code 29 = .ok (.goto (-21), 3) := by decide +kernel
theorem d19_32 : decode jdk_52_method_14_code 32 = .ok (.aload_n 3, 1) := by decide +kernel
theorem d19_33 : decode jdk_52_method_14_code 33 = .ok (.areturn, 1) := by decide +kernel
theorem d6_0 : decode jdk_52_method_16_code 0 = .ok (.iload_n 2, 1) := by decide +kernel
theorem d6_1 : decode jdk_52_method_16_code 1 = .ok (.newarray .byte, 2) := by decide +kernel
theorem d6_3 : decode jdk_52_method_16_code 3 = .ok (.astore_n 3, 1) := by decide +kernel
theorem d6_4 : decode jdk_52_method_16_code 4 = .ok (.aload_n 0, 1) := by decide +kernel
theorem d6_5 : decode jdk_52_method_16_code 5 = .ok (.iload_n 1, 1) := by decide +kernel
theorem d6_6 : decode jdk_52_method_16_code 6 = .ok (.aload_n 3, 1) := by decide +kernel
theorem d6_7 : decode jdk_52_method_16_code 7 = .ok (.iconst 0, 1) := by decide +kernel
theorem d6_8 : decode jdk_52_method_16_code 8 = .ok (.iload_n 2, 1) := by decide +kernel
theorem d6_9 : decode jdk_52_method_16_code 9 = .ok (.invokestatic 115, 3) := by decide +kernel
theorem pd_14 : parseMethodDescriptor "([CI[BII)I" = some ⟨[(.array .char), .int, (.array .byte), .int, .int], some .int⟩ := by decide +kernel
theorem d6_12 : decode jdk_52_method_16_code 12 = .ok (.istore 4, 2) := by decide +kernel
theorem d6_14 : decode jdk_52_method_16_code 14 = .ok (.iload 4, 2) := by decide +kernel
theorem d6_16 : decode jdk_52_method_16_code 16 = .ok (.iload_n 2, 1) := by decide +kernel
theorem d6_17 : decode jdk_52_method_16_code 17 = .ok (.if_icmp .eq 40, 3) := by decide +kernel
theorem d6_57 : decode jdk_52_method_16_code 57 = .ok (.aload_n 3, 1) := by decide +kernel
theorem d6_58 : decode jdk_52_method_16_code 58 = .ok (.areturn, 1) := by decide +kernel
theorem d6_20 : decode jdk_52_method_16_code 20 = .ok (.aload_n 0, 1) := by decide +kernel
theorem d6_21 : decode jdk_52_method_16_code 21 = .ok (.iload_n 1, 1) := by decide +kernel
theorem d6_22 : decode jdk_52_method_16_code 22 = .ok (.iload_n 2, 1) := by decide +kernel
theorem d6_23 : decode jdk_52_method_16_code 23 = .ok (.invokestatic 119, 3) := by decide +kernel
theorem pd_15 : parseMethodDescriptor "([CII)[B" = some ⟨[(.array .char), .int, .int], some (.array .byte)⟩ := by decide +kernel
theorem d6_26 : decode jdk_52_method_16_code 26 = .ok (.astore 5, 2) := by decide +kernel
theorem d6_28 : decode jdk_52_method_16_code 28 = .ok (.aload 5, 2) := by decide +kernel
theorem d6_30 : decode jdk_52_method_16_code 30 = .ok (.iload 4, 2) := by decide +kernel
theorem d6_32 : decode jdk_52_method_16_code 32 = .ok (.invokestatic 71, 3) := by decide +kernel
theorem d6_35 : decode jdk_52_method_16_code 35 = .ok (.sipush 255, 3) := by decide +kernel
theorem d6_38 : decode jdk_52_method_16_code 38 = .ok (.if_icmp .gt 16, 3) := by decide +kernel
theorem d6_54 : decode jdk_52_method_16_code 54 = .ok (.aload 5, 2) := by decide +kernel
theorem d6_56 : decode jdk_52_method_16_code 56 = .ok (.areturn, 1) := by decide +kernel
theorem d8_0 : decode jdk_52_method_15_code 0 = .ok (.iload_n 1, 1) := by decide +kernel
theorem d8_1 : decode jdk_52_method_15_code 1 = .ok (.aload_n 0, 1) := by decide +kernel
theorem d8_2 : decode jdk_52_method_15_code 2 = .ok (.arraylength, 1) := by decide +kernel
theorem d8_3 : decode jdk_52_method_15_code 3 = .ok (.isub, 1) := by decide +kernel
theorem d8_4 : decode jdk_52_method_15_code 4 = .ok (.bipush 31, 2) := by decide +kernel
theorem d8_6 : decode jdk_52_method_15_code 6 = .ok (.iushr, 1) := by decide +kernel
theorem d8_7 : decode jdk_52_method_15_code 7 = .ok (.i2b, 1) := by decide +kernel
theorem d8_8 : decode jdk_52_method_15_code 8 = .ok (.ireturn, 1) := by decide +kernel
theorem d2_27 : decode jdk_42_method_149_code 27 = .ok (.getstatic 38, 3) := by decide +kernel
theorem d2_30 : decode jdk_42_method_149_code 30 = .ok (.ifCond .eq 28, 3) := by decide +kernel
theorem d2_33 : decode jdk_42_method_149_code 33 = .ok (.aload_n 1, 1) := by decide +kernel
theorem d2_34 : decode jdk_42_method_149_code 34 = .ok (.iload_n 2, 1) := by decide +kernel
theorem d2_35 : decode jdk_42_method_149_code 35 = .ok (.iload_n 3, 1) := by decide +kernel
theorem d2_36 : decode jdk_42_method_149_code 36 = .ok (.invokestatic 177, 3) := by decide +kernel
theorem d2_39 : decode jdk_42_method_149_code 39 = .ok (.astore 5, 2) := by decide +kernel
theorem d2_41 : decode jdk_42_method_149_code 41 = .ok (.aload_n 0, 1) := by decide +kernel
theorem d2_42 : decode jdk_42_method_149_code 42 = .ok (.aload 5, 2) := by decide +kernel
theorem d2_44 : decode jdk_42_method_149_code 44 = .ok (.iload_n 3, 1) := by decide +kernel
theorem d2_45 : decode jdk_42_method_149_code 45 = .ok (.invokestatic 47, 3) := by decide +kernel
theorem pd_16 : parseMethodDescriptor "([BI)B" = some ⟨[(.array .byte), .int], some .byte⟩ := by decide +kernel
theorem d2_48 : decode jdk_42_method_149_code 48 = .ok (.putfield 15, 3) := by decide +kernel
theorem d2_51 : decode jdk_42_method_149_code 51 = .ok (.aload_n 0, 1) := by decide +kernel
theorem d2_52 : decode jdk_42_method_149_code 52 = .ok (.aload 5, 2) := by decide +kernel
theorem d2_54 : decode jdk_42_method_149_code 54 = .ok (.putfield 9, 3) := by decide +kernel
theorem d2_57 : decode jdk_42_method_149_code 57 = .ok (.return_, 1) := by decide +kernel
theorem pd_17 : parseMethodDescriptor "([C)V" = some ⟨[(.array .char)], none⟩ := by decide +kernel
theorem pd_18 : parseMethodDescriptor "(Ljava/lang/String;I)Z" = some ⟨[(.object "java/lang/String"), .int], some .boolean⟩ := by decide +kernel
def SG (Z : State) (ccs : Int32) (vF : Value) : Prop := Sta Z Z.heap "java/lang/String" "COMPACT_STRINGS" "Z" (.int ccs) ∧ ¬ (ccs = (0 : Int32)) ∧ Sta Z Z.heap "java/lang/StringUTF16" "$assertionsDisabled" "Z" (.int (1 : Int32)) ∧ Sta Z Z.heap "java/lang/StringUTF16" "HI_BYTE_SHIFT" "I" (.int (0 : Int32)) ∧ Sta Z Z.heap "java/lang/StringUTF16" "LO_BYTE_SHIFT" "I" (.int (8 : Int32)) ∧ Sta Z Z.heap "jdk/internal/util/Preconditions" "SIOOBE_FORMATTER" "Ljava/util/function/BiFunction;" vF ∧ vF.isRef = true
theorem own_byteAnd (y : BitVec 32) : (BitVec.signExtend 32 (BitVec.signExtend 8 (BitVec.signExtend 32 (BitVec.signExtend 8 y))) &&& 255#32) = y &&& 255#32 := by
  apply BitVec.eq_of_getLsbD_eq
  intro i hi
  rw [BitVec.getLsbD_and, BitVec.getLsbD_and]
  have e : ∀ j, (255#32).getLsbD j = decide (j < 8) := by
    intro j
    rw [BitVec.getLsbD_ofNat]
    have : (255 : Nat) = 2 ^ 8 - 1 := by decide
    rw [this, Nat.testBit_two_pow_sub_one]
    by_cases q : j < 8
    · have : j < 32 := by omega
      simp [q, this]
    · simp [q]
  rw [e]
  by_cases q : i < 8
  · have q' : i < 32 := hi
    simp only [BitVec.getLsbD_signExtend, q, q', if_true, decide_true, Bool.true_and, Bool.and_true]
  · simp [q]
theorem own_u16bv (x : BitVec 32) (h : x.toNat < 65536) : ((((x.sshiftRight 0 &&& 255#32) <<< 0 ||| (x.sshiftRight 8 &&& 255#32) <<< 8)).setWidth 16).setWidth 32 = x := by
  have m : x.msb = false := by rw [BitVec.msb_eq_false_iff_two_mul_lt]; omega
  apply BitVec.eq_of_toNat_eq
  rw [BitVec.sshiftRight_eq_of_msb_false m, BitVec.sshiftRight_eq_of_msb_false m]
  simp only [BitVec.toNat_setWidth, BitVec.toNat_or, BitVec.toNat_and, BitVec.toNat_shiftLeft, BitVec.toNat_ushiftRight, BitVec.toNat_ofNat]
  have e1 : ∀ n : Nat, n &&& 255 % 2 ^ 32 = n % 256 := by
    intro n
    have : (255 % 2 ^ 32 : Nat) = 2 ^ 8 - 1 := by decide
    rw [this, Nat.and_two_pow_sub_one_eq_mod]
  simp only [e1, Nat.shiftLeft_zero, Nat.shiftRight_zero, Nat.shiftRight_eq_div_pow, Nat.shiftLeft_eq]
  generalize x.toNat = n at h
  have a1 : n / 2 ^ 0 % 256 * 2 ^ 0 % 2 ^ 32 = n % 256 := by omega
  have a2 : n / 2 ^ 8 % 256 * 2 ^ 8 % 2 ^ 32 = 2 ^ 8 * (n / 256) := by omega
  rw [a1, a2, Nat.or_comm, ← Nat.two_pow_add_eq_or_of_lt (by omega)]
  omega
theorem own_u16 (c : Int32) (h0 : ¬ c < 0) (h1 : ¬ (65535 : Int32) < c) : nar .char ((((((nar .byte (((c >>> ((0 : Int32) &&& 31)).toInt8.toInt32))) &&& (255 : Int32)) <<< ((0 : Int32) &&& 31)) ||| (((nar .byte (((c >>> ((8 : Int32) &&& 31)).toInt8.toInt32))) &&& (255 : Int32)) <<< ((8 : Int32) &&& 31))).toUInt32.toUInt16.toUInt32.toInt32)) = c := by
  have e0 : ((0 : Int32) &&& 31) = 0 := by decide
  have e8 : ((8 : Int32) &&& 31) = 8 := by decide
  have s0 : BitVec.smod (0 : Int32).toBitVec 32 = 0#32 := by decide
  have s8 : BitVec.smod (8 : Int32).toBitVec 32 = 8#32 := by decide
  have hn : c.toBitVec.toNat < 65536 := by
    rw [Int32.lt_iff_toInt_lt] at h0 h1
    have q0 : (0 : Int32).toInt = 0 := rfl
    have q1 : (65535 : Int32).toInt = 65535 := rfl
    have q2 : c.toInt = c.toBitVec.toInt := rfl
    have q3 := BitVec.toInt_eq_toNat_cond c.toBitVec
    have q4 := c.toBitVec.isLt
    split at q3 <;> omega
  apply Int32.toBitVec_inj.mp
  have k : (255 : Int32).toBitVec = 255#32 := rfl
  have r0 : (0#32).toNat = 0 := rfl
  have r8 : (8#32).toNat = 8 := rfl
  simp only [nar, e0, e8, UInt32.toBitVec_toInt32, Int32.toBitVec_toUInt32, UInt32.toBitVec_toUInt16, UInt16.toBitVec_toUInt32, Int32.toBitVec_or, Int32.toBitVec_and, Int32.toBitVec_shiftLeft, Int32.toBitVec_shiftRight, Int32.toBitVec_toInt8, Int8.toBitVec_toInt32, k]
  rw [s0, s8]
  simp only [BitVec.sshiftRight', BitVec.shiftLeft_eq', r0, r8]
  rw [own_byteAnd, own_byteAnd]
  have := own_u16bv c.toBitVec hn
  rw [this]
  apply BitVec.eq_of_toNat_eq
  simp only [BitVec.toNat_setWidth]
  omega
theorem own_small {c : Int32} (hn : c.toBitVec.toNat < 65536) : ¬ c < 0 ∧ ¬ (65535 : Int32) < c := by
  rw [Int32.lt_iff_toInt_lt, Int32.lt_iff_toInt_lt]
  have q0 : (0 : Int32).toInt = 0 := rfl
  have q1 : (65535 : Int32).toInt = 65535 := rfl
  have q2 : c.toInt = c.toBitVec.toInt := rfl
  have q3 := BitVec.toInt_eq_toNat_cond c.toBitVec
  split at q3 <;> omega
theorem own_i2c (z : Int32) : ¬ z.toUInt32.toUInt16.toUInt32.toInt32 < 0 ∧ ¬ (65535 : Int32) < z.toUInt32.toUInt16.toUInt32.toInt32 ∧ nar .char z.toUInt32.toUInt16.toUInt32.toInt32 = z.toUInt32.toUInt16.toUInt32.toInt32 := by
  have h : (z.toUInt32.toUInt16.toUInt32.toInt32).toBitVec.toNat < 65536 := by
    simp only [UInt32.toBitVec_toInt32, Int32.toBitVec_toUInt32, UInt32.toBitVec_toUInt16, UInt16.toBitVec_toUInt32, BitVec.toNat_setWidth]
    omega
  refine ⟨(own_small h).1, (own_small h).2, ?_⟩
  simp only [nar, UInt32.toUInt32_toInt32, UInt16.toUInt16_toUInt32]
theorem own_nch {z : Int32} (h0 : ¬ z < 0) (h1 : ¬ (65535 : Int32) < z) : nar .char z = z := by
  apply Int32.toBitVec_inj.mp
  have hn : z.toBitVec.toNat < 65536 := by
    rw [Int32.lt_iff_toInt_lt] at h0 h1
    have q0 : (0 : Int32).toInt = 0 := rfl
    have q1 : (65535 : Int32).toInt = 65535 := rfl
    have q2 : z.toInt = z.toBitVec.toInt := rfl
    have q3 := BitVec.toInt_eq_toNat_cond z.toBitVec
    have q4 := z.toBitVec.isLt
    split at q3 <;> omega
  simp only [nar, UInt32.toBitVec_toInt32, Int32.toBitVec_toUInt32, UInt32.toBitVec_toUInt16, UInt16.toBitVec_toUInt32]
  apply BitVec.eq_of_toNat_eq
  simp only [BitVec.toNat_setWidth]
  omega

theorem own_l8 {x : Int32} (h0 : ¬ x < 0) (h1 : ¬ (255 : Int32) < x) : nar .char (((nar .byte (x.toInt8.toInt32)) &&& (255 : Int32)).toUInt32.toUInt16.toUInt32.toInt32) = x := by
  have t : ∀ a : Fin 256, nar .char (((nar .byte ((Int32.ofNat a.val).toInt8.toInt32)) &&& (255 : Int32)).toUInt32.toUInt16.toUInt32.toInt32) = Int32.ofNat a.val := by decide +kernel
  rw [Int32.lt_iff_toInt_lt] at h0 h1
  have e0 : (0 : Int32).toInt = 0 := rfl
  have e1 : (255 : Int32).toInt = 255 := rfl
  have e : x = Int32.ofNat x.toInt.toNat := by
    apply Int32.toInt_inj.mp
    rw [Int32.toInt_ofNat_of_lt (by omega)]
    omega
  rw [e]
  exact t ⟨x.toInt.toNat, by omega⟩
def loF (c : Int32) : Int32 := if ¬ (c < (97 : Int32)) ∧ ¬ ((122 : Int32) < c) then 1 else 0
def dgF (c : Int32) : Int32 := if ¬ (c < (48 : Int32)) ∧ ¬ ((57 : Int32) < c) then 1 else 0
def okF (c : Int32) : Int32 := if ¬ (loF c = (0 : Int32)) ∨ (¬ (c < (65 : Int32)) ∧ ¬ ((90 : Int32) < c)) ∨ ¬ (dgF c = (0 : Int32)) ∨ c = (46 : Int32) ∨ c = (95 : Int32) ∨ c = (45 : Int32) then 1 else 0
theorem own_4 (p : Int32) : (p &&& (3 : Int32)) = (0 : Int32) ∨ (p &&& (3 : Int32)) = (1 : Int32) ∨ (p &&& (3 : Int32)) = (2 : Int32) ∨ (p &&& (3 : Int32)) = (3 : Int32) := by
  have h := Jvm.Kit.i32_mask p (3 : Int32) (k := 2) (by decide) (by decide)
  have e : (0 : Int32).toInt = 0 ∧ (1 : Int32).toInt = 1 ∧ (2 : Int32).toInt = 2 ∧ (3 : Int32).toInt = 3 := by decide
  simp only [← Int32.toInt_inj]
  omega
def nm1 (lg c0 : Int32) : Int32 := if lg < (1 : Int32) then 0 else if okF c0 = (0 : Int32) then 0 else 1
def nm2 (lg c0 c1 : Int32) : Int32 := if lg < (2 : Int32) then 0 else if okF c0 = (0 : Int32) then 0 else if okF c1 = (0 : Int32) then 0 else 1
def nm3 (lg c0 c1 c2 : Int32) : Int32 := if lg < (3 : Int32) then 0 else if okF c0 = (0 : Int32) then 0 else if okF c1 = (0 : Int32) then 0 else if okF c2 = (0 : Int32) then 0 else 1
theorem ef_rm_isLowerCase (m : MethodId) (x0 : Int32) : entryFrame m #[(.int x0)] 1 = mkF m 0 #[iv x0] [] := by first | (simp [entryFrame, mkF, argsToLocals, Value.category]; done) | rfl
def Q_isLowerCase (Z : State) (ch : Int32) (h0 : Heap) (n0 : Nat) (v : Option Value) (h : Heap) (L : List Loc) : Prop := v = some (.int (loF ch)) ∧ Fr n0 L ∧ h = h0
set_option maxRecDepth 65536 in
set_option maxHeartbeats 40000000 in
theorem rm_isLowerCase (l : Launch) (Z : State) (a0 : Array Value) (hw : TW Z a0) (ws : List Jvm.Cond) (ch : Int32) (h0 : Heap) (n0 : Nat) (Z0 : n0 ≤ h0.size) :
    MF l Z (⟨"com/example/timed_cap/timedcap/model/Names", "isLowerCase", "(C)Z"⟩ : MethodName) prog_5_method_4_code 1 (some .boolean) ws (rmm 0 0 0 0) #[(.int ch)] h0 (Q_isLowerCase Z ch h0 n0) := by
  refine MetFree.of_bodySF (plainFor_of_name pn_com_example_timed_cap_timedcap_model_Names) hisR ?_
  intro p e s m args below meth c s₁ Bd hml0 hP hK
  obtain ⟨rfl, hZ, hh⟩ := hP
  have hx := Bd.exec
  have hby := Bd.bytes
  have hlk : meth.locks = false := Bd.notSynchronized
  have hml : c.maxLocals = 1 := hml0
  have hown : s.vm.findClass "com/example/timed_cap/timedcap/model/Names" = some m.cls := findClass_of_methodNamed Bd.named
  have hnm := (name_of_methodNamed Bd.named Bd.method).1
  have X0 : Stand p l e (rmm 0 0 0 0) s m #[(.int ch)] below meth c s₁ [] 0 0 := Stand.of_body Bd
  have e0 : s₁.heap = h0 := by rw [← hh, Bd.state]; rfl
  have N0 := Fr.nil n0
  show Go p e below (FinE s below (Q_isLowerCase Z ch h0 n0) (rmm 0 0 0 0).cells (rmm 0 0 0 0).slots) (s₁.setTop (entryFrame m #[(.int ch)] 1))
  refine Go.via (fun t k => castTop (ef_rm_isLowerCase m ch) k) ?_
  refine Go.via (fun _ => XS.iloadN X0.here hx rfl (hb hby d17_0) rfl) ?_
  refine Go.via (fun _ => XS.bipush X0.here hx rfl (hb hby d17_1)) ?_
  by_cases hc101 : ch < (97 : Int32)
  · -- yes
    refine Go.via (fun _ => XS.icmpYes X0.here hx rfl (pc0 := 3) (pc' := 16) rfl (hb hby d17_3) rfl (tlt hc101).1 (by decide) (by decide)) ?_
    show Go p e below _ (s₁.setTop (mkF m 16 #[iv ch] []))
    refine Go.via (fun _ => XS.iconst X0.here hx rfl (hb hby d17_16)) ?_
    exact own_retN X0 hx hlk (t := .boolean) Bd.returns (by simp) (hb hby d17_17) (by show Q_isLowerCase Z ch h0 n0 _ s₁.heap _; rw [e0]; exact ⟨by simp [loF, nar, hc101], N0, rfl⟩) (by decide) (by decide)
  · -- no
    refine Go.via (fun _ => XS.icmpNo X0.here hx rfl (hb hby d17_3) rfl (flt hc101).1) ?_
    show Go p e below _ (s₁.setTop (mkF m 6 #[iv ch] []))
    refine Go.via (fun _ => XS.iloadN X0.here hx rfl (hb hby d17_6) rfl) ?_
    refine Go.via (fun _ => XS.bipush X0.here hx rfl (hb hby d17_7)) ?_
    by_cases hc102 : (122 : Int32) < ch
    · -- yes
      refine Go.via (fun _ => XS.icmpYes X0.here hx rfl (pc0 := 9) (pc' := 16) rfl (hb hby d17_9) rfl (tlt hc102).2.2.1 (by decide) (by decide)) ?_
      refine Go.via (fun _ => XS.iconst X0.here hx rfl (hb hby d17_16)) ?_
      show Go p e below _ (s₁.setTop (mkF m 17 #[iv ch] [(.int (0 : Int32))]))
      exact own_retN X0 hx hlk (t := .boolean) Bd.returns (by simp) (hb hby d17_17) (by show Q_isLowerCase Z ch h0 n0 _ s₁.heap _; rw [e0]; exact ⟨by simp [loF, nar, hc101, hc102], N0, rfl⟩) (by decide) (by decide)
    · -- no
      refine Go.via (fun _ => XS.icmpNo X0.here hx rfl (hb hby d17_9) rfl (flt hc102).2.2.1) ?_
      refine Go.via (fun _ => XS.iconst X0.here hx rfl (hb hby d17_12)) ?_
      show Go p e below _ (s₁.setTop (mkF m 13 #[iv ch] [(.int (1 : Int32))]))
      refine Go.via (fun _ => XS.goto X0.here hx rfl (pc0 := 13) (pc' := 17) rfl (hb hby d17_13) (by decide) (by decide)) ?_
      exact own_retN X0 hx hlk (t := .boolean) Bd.returns (by simp) (hb hby d17_17) (by show Q_isLowerCase Z ch h0 n0 _ s₁.heap _; rw [e0]; exact ⟨by simp [loF, nar, hc101, hc102], N0, rfl⟩) (by decide) (by decide)
theorem ef_rm_isDigit (m : MethodId) (x0 : Int32) : entryFrame m #[(.int x0)] 1 = mkF m 0 #[iv x0] [] := by first | (simp [entryFrame, mkF, argsToLocals, Value.category]; done) | rfl
def Q_isDigit (Z : State) (ch : Int32) (h0 : Heap) (n0 : Nat) (v : Option Value) (h : Heap) (L : List Loc) : Prop := v = some (.int (dgF ch)) ∧ Fr n0 L ∧ h = h0
set_option maxRecDepth 65536 in
set_option maxHeartbeats 40000000 in
theorem rm_isDigit (l : Launch) (Z : State) (a0 : Array Value) (hw : TW Z a0) (ws : List Jvm.Cond) (ch : Int32) (h0 : Heap) (n0 : Nat) (Z0 : n0 ≤ h0.size) :
    MF l Z (⟨"com/example/timed_cap/timedcap/model/Names", "isDigit", "(C)Z"⟩ : MethodName) prog_5_method_5_code 1 (some .boolean) ws (rmm 0 0 0 0) #[(.int ch)] h0 (Q_isDigit Z ch h0 n0) := by
  refine MetFree.of_bodySF (plainFor_of_name pn_com_example_timed_cap_timedcap_model_Names) hisR ?_
  intro p e s m args below meth c s₁ Bd hml0 hP hK
  obtain ⟨rfl, hZ, hh⟩ := hP
  have hx := Bd.exec
  have hby := Bd.bytes
  have hlk : meth.locks = false := Bd.notSynchronized
  have hml : c.maxLocals = 1 := hml0
  have hown : s.vm.findClass "com/example/timed_cap/timedcap/model/Names" = some m.cls := findClass_of_methodNamed Bd.named
  have hnm := (name_of_methodNamed Bd.named Bd.method).1
  have X0 : Stand p l e (rmm 0 0 0 0) s m #[(.int ch)] below meth c s₁ [] 0 0 := Stand.of_body Bd
  have e0 : s₁.heap = h0 := by rw [← hh, Bd.state]; rfl
  have N0 := Fr.nil n0
  show Go p e below (FinE s below (Q_isDigit Z ch h0 n0) (rmm 0 0 0 0).cells (rmm 0 0 0 0).slots) (s₁.setTop (entryFrame m #[(.int ch)] 1))
  refine Go.via (fun t k => castTop (ef_rm_isDigit m ch) k) ?_
  refine Go.via (fun _ => XS.iloadN X0.here hx rfl (hb hby d18_0) rfl) ?_
  refine Go.via (fun _ => XS.bipush X0.here hx rfl (hb hby d18_1)) ?_
  by_cases hc101 : ch < (48 : Int32)
  · -- yes
    refine Go.via (fun _ => XS.icmpYes X0.here hx rfl (pc0 := 3) (pc' := 16) rfl (hb hby d18_3) rfl (tlt hc101).1 (by decide) (by decide)) ?_
    show Go p e below _ (s₁.setTop (mkF m 16 #[iv ch] []))
    refine Go.via (fun _ => XS.iconst X0.here hx rfl (hb hby d18_16)) ?_
    exact own_retN X0 hx hlk (t := .boolean) Bd.returns (by simp) (hb hby d18_17) (by show Q_isDigit Z ch h0 n0 _ s₁.heap _; rw [e0]; exact ⟨by simp [dgF, nar, hc101], N0, rfl⟩) (by decide) (by decide)
  · -- no
    refine Go.via (fun _ => XS.icmpNo X0.here hx rfl (hb hby d18_3) rfl (flt hc101).1) ?_
    show Go p e below _ (s₁.setTop (mkF m 6 #[iv ch] []))
    refine Go.via (fun _ => XS.iloadN X0.here hx rfl (hb hby d18_6) rfl) ?_
    refine Go.via (fun _ => XS.bipush X0.here hx rfl (hb hby d18_7)) ?_
    by_cases hc102 : (57 : Int32) < ch
    · -- yes
      refine Go.via (fun _ => XS.icmpYes X0.here hx rfl (pc0 := 9) (pc' := 16) rfl (hb hby d18_9) rfl (tlt hc102).2.2.1 (by decide) (by decide)) ?_
      refine Go.via (fun _ => XS.iconst X0.here hx rfl (hb hby d18_16)) ?_
      show Go p e below _ (s₁.setTop (mkF m 17 #[iv ch] [(.int (0 : Int32))]))
      exact own_retN X0 hx hlk (t := .boolean) Bd.returns (by simp) (hb hby d18_17) (by show Q_isDigit Z ch h0 n0 _ s₁.heap _; rw [e0]; exact ⟨by simp [dgF, nar, hc101, hc102], N0, rfl⟩) (by decide) (by decide)
    · -- no
      refine Go.via (fun _ => XS.icmpNo X0.here hx rfl (hb hby d18_9) rfl (flt hc102).2.2.1) ?_
      refine Go.via (fun _ => XS.iconst X0.here hx rfl (hb hby d18_12)) ?_
      show Go p e below _ (s₁.setTop (mkF m 13 #[iv ch] [(.int (1 : Int32))]))
      refine Go.via (fun _ => XS.goto X0.here hx rfl (pc0 := 13) (pc' := 17) rfl (hb hby d18_13) (by decide) (by decide)) ?_
      exact own_retN X0 hx hlk (t := .boolean) Bd.returns (by simp) (hb hby d18_17) (by show Q_isDigit Z ch h0 n0 _ s₁.heap _; rw [e0]; exact ⟨by simp [dgF, nar, hc101, hc102], N0, rfl⟩) (by decide) (by decide)
theorem ef_rm_allowed (m : MethodId) (x0 : Int32) : entryFrame m #[(.int x0)] 1 = mkF m 0 #[iv x0] [] := by first | (simp [entryFrame, mkF, argsToLocals, Value.category]; done) | rfl
def Q_allowed (Z : State) (ch : Int32) (h0 : Heap) (n0 : Nat) (v : Option Value) (h : Heap) (L : List Loc) : Prop := v = some (.int (okF ch)) ∧ Fr n0 L ∧ h = h0
set_option maxRecDepth 65536 in
set_option maxHeartbeats 40000000 in
theorem rm_allowed (l : Launch) (Z : State) (a0 : Array Value) (hw : TW Z a0) (ws : List Jvm.Cond) (ch : Int32) (h0 : Heap) (n0 : Nat) (Z0 : n0 ≤ h0.size) :
    MF l Z (⟨"com/example/timed_cap/timedcap/model/NamesIsNamePinLaw", "allowed", "(C)Z"⟩ : MethodName) method_2_code 1 (some .boolean) ws (rmm 0 0 0 0) #[(.int ch)] h0 (Q_allowed Z ch h0 n0) := by
  refine MetFree.of_bodySF (plainFor_of_name pn_com_example_timed_cap_timedcap_model_NamesIsNamePinLaw) hisR ?_
  intro p e s m args below meth c s₁ Bd hml0 hP hK
  obtain ⟨rfl, hZ, hh⟩ := hP
  have hx := Bd.exec
  have hby := Bd.bytes
  have hlk : meth.locks = false := Bd.notSynchronized
  have hml : c.maxLocals = 1 := hml0
  have hown : s.vm.findClass "com/example/timed_cap/timedcap/model/NamesIsNamePinLaw" = some m.cls := findClass_of_methodNamed Bd.named
  have hnm := (name_of_methodNamed Bd.named Bd.method).1
  have X0 : Stand p l e (rmm 0 0 0 0) s m #[(.int ch)] below meth c s₁ [] 0 0 := Stand.of_body Bd
  have e0 : s₁.heap = h0 := by rw [← hh, Bd.state]; rfl
  have N0 := Fr.nil n0
  show Go p e below (FinE s below (Q_allowed Z ch h0 n0) (rmm 0 0 0 0).cells (rmm 0 0 0 0).slots) (s₁.setTop (entryFrame m #[(.int ch)] 1))
  refine Go.via (fun t k => castTop (ef_rm_allowed m ch) k) ?_
  refine Go.via (fun _ => XS.iloadN X0.here hx rfl (hb hby d9_0) rfl) ?_
  refine Go.via (fun _ => XS.bipush X0.here hx rfl (hb hby d9_1)) ?_
  by_cases hc101 : ch < (65 : Int32)
  · -- yes
    refine Go.via (fun _ => XS.icmpYes X0.here hx rfl (pc0 := 3) (pc' := 14) rfl (hb hby d9_3) rfl (tlt hc101).1 (by decide) (by decide)) ?_
    show Go p e below _ (s₁.setTop (mkF m 14 #[iv ch] []))
    refine Go.via (fun _ => XS.iloadN X0.here hx rfl (hb hby d9_14) rfl) ?_
    refine Go.via (fun _ => XS.bipush X0.here hx rfl (hb hby d9_15)) ?_
    by_cases hc102 : ch < (97 : Int32)
    · -- yes
      refine Go.via (fun _ => XS.icmpYes X0.here hx rfl (pc0 := 17) (pc' := 28) rfl (hb hby d9_17) rfl (tlt hc102).1 (by decide) (by decide)) ?_
      refine Go.via (fun _ => XS.iloadN X0.here hx rfl (hb hby d9_28) rfl) ?_
      show Go p e below _ (s₁.setTop (mkF m 29 #[iv ch] [(.int ch)]))
      refine Go.via (fun _ => XS.bipush X0.here hx rfl (hb hby d9_29)) ?_
      by_cases hc103 : ch < (48 : Int32)
      · -- yes
        refine Go.via (fun _ => XS.icmpYes X0.here hx rfl (pc0 := 31) (pc' := 42) rfl (hb hby d9_31) rfl (tlt hc103).1 (by decide) (by decide)) ?_
        refine Go.via (fun _ => XS.iloadN X0.here hx rfl (hb hby d9_42) rfl) ?_
        refine Go.via (fun _ => XS.bipush X0.here hx rfl (hb hby d9_43)) ?_
        show Go p e below _ (s₁.setTop (mkF m 45 #[iv ch] [(.int (46 : Int32)), (.int ch)]))
        by_cases hc104 : ch = (46 : Int32)
        · -- yes
          refine Go.via (fun _ => XS.icmpYes X0.here hx rfl (pc0 := 45) (pc' := 60) rfl (hb hby d9_45) rfl (teq hc104).1 (by decide) (by decide)) ?_
          refine Go.via (fun _ => XS.iconst X0.here hx rfl (hb hby d9_60)) ?_
          refine Go.via (fun _ => XS.goto X0.here hx rfl (pc0 := 61) (pc' := 65) rfl (hb hby d9_61) (by decide) (by decide)) ?_
          exact own_retN X0 hx hlk (t := .boolean) Bd.returns (by simp) (hb hby d9_65) (by show Q_allowed Z ch h0 n0 _ s₁.heap _; rw [e0]; exact ⟨by simp [okF, loF, dgF, nar, hc101, hc102, hc103, hc104], N0, rfl⟩) (by decide) (by decide)
        · -- no
          refine Go.via (fun _ => XS.icmpNo X0.here hx rfl (hb hby d9_45) rfl (feq hc104).1) ?_
          refine Go.via (fun _ => XS.iloadN X0.here hx rfl (hb hby d9_48) rfl) ?_
          refine Go.via (fun _ => XS.bipush X0.here hx rfl (hb hby d9_49)) ?_
          by_cases hc105 : ch = (95 : Int32)
          · -- yes
            show Go p e below _ (s₁.setTop (mkF m 51 #[iv ch] [(.int (95 : Int32)), (.int ch)]))
            refine Go.via (fun _ => XS.icmpYes X0.here hx rfl (pc0 := 51) (pc' := 60) rfl (hb hby d9_51) rfl (teq hc105).1 (by decide) (by decide)) ?_
            refine Go.via (fun _ => XS.iconst X0.here hx rfl (hb hby d9_60)) ?_
            refine Go.via (fun _ => XS.goto X0.here hx rfl (pc0 := 61) (pc' := 65) rfl (hb hby d9_61) (by decide) (by decide)) ?_
            exact own_retN X0 hx hlk (t := .boolean) Bd.returns (by simp) (hb hby d9_65) (by show Q_allowed Z ch h0 n0 _ s₁.heap _; rw [e0]; exact ⟨by simp [okF, loF, dgF, nar, hc101, hc102, hc103, hc104, hc105], N0, rfl⟩) (by decide) (by decide)
          · -- no
            show Go p e below _ (s₁.setTop (mkF m 51 #[iv ch] [(.int (95 : Int32)), (.int ch)]))
            refine Go.via (fun _ => XS.icmpNo X0.here hx rfl (hb hby d9_51) rfl (feq hc105).1) ?_
            refine Go.via (fun _ => XS.iloadN X0.here hx rfl (hb hby d9_54) rfl) ?_
            refine Go.via (fun _ => XS.bipush X0.here hx rfl (hb hby d9_55)) ?_
            by_cases hc106 : ch = (45 : Int32)
            · -- yes
              show Go p e below _ (s₁.setTop (mkF m 57 #[iv ch] [(.int (45 : Int32)), (.int ch)]))
              refine Go.via (fun _ => XS.icmpNo X0.here hx rfl (hb hby d9_57) rfl (teq hc106).2) ?_
              refine Go.via (fun _ => XS.iconst X0.here hx rfl (hb hby d9_60)) ?_
              refine Go.via (fun _ => XS.goto X0.here hx rfl (pc0 := 61) (pc' := 65) rfl (hb hby d9_61) (by decide) (by decide)) ?_
              exact own_retN X0 hx hlk (t := .boolean) Bd.returns (by simp) (hb hby d9_65) (by show Q_allowed Z ch h0 n0 _ s₁.heap _; rw [e0]; exact ⟨by simp [okF, loF, dgF, nar, hc101, hc102, hc103, hc104, hc105, hc106], N0, rfl⟩) (by decide) (by decide)
            · -- no
              show Go p e below _ (s₁.setTop (mkF m 57 #[iv ch] [(.int (45 : Int32)), (.int ch)]))
              refine Go.via (fun _ => XS.icmpYes X0.here hx rfl (pc0 := 57) (pc' := 64) rfl (hb hby d9_57) rfl (feq hc106).2 (by decide) (by decide)) ?_
              refine Go.via (fun _ => XS.iconst X0.here hx rfl (hb hby d9_64)) ?_
              exact own_retN X0 hx hlk (t := .boolean) Bd.returns (by simp) (hb hby d9_65) (by show Q_allowed Z ch h0 n0 _ s₁.heap _; rw [e0]; exact ⟨by simp [okF, loF, dgF, nar, hc101, hc102, hc103, hc104, hc105, hc106], N0, rfl⟩) (by decide) (by decide)
      · -- no
        refine Go.via (fun _ => XS.icmpNo X0.here hx rfl (hb hby d9_31) rfl (flt hc103).1) ?_
        refine Go.via (fun _ => XS.iloadN X0.here hx rfl (hb hby d9_34) rfl) ?_
        refine Go.via (fun _ => XS.bipush X0.here hx rfl (hb hby d9_35)) ?_
        show Go p e below _ (s₁.setTop (mkF m 37 #[iv ch] [(.int (57 : Int32)), (.int ch)]))
        by_cases hc107 : (57 : Int32) < ch
        · -- yes
          refine Go.via (fun _ => XS.icmpYes X0.here hx rfl (pc0 := 37) (pc' := 42) rfl (hb hby d9_37) rfl (tlt hc107).2.2.1 (by decide) (by decide)) ?_
          refine Go.via (fun _ => XS.iloadN X0.here hx rfl (hb hby d9_42) rfl) ?_
          refine Go.via (fun _ => XS.bipush X0.here hx rfl (hb hby d9_43)) ?_
          by_cases hc108 : ch = (46 : Int32)
          · -- yes
            show Go p e below _ (s₁.setTop (mkF m 45 #[iv ch] [(.int (46 : Int32)), (.int ch)]))
            refine Go.via (fun _ => XS.icmpYes X0.here hx rfl (pc0 := 45) (pc' := 60) rfl (hb hby d9_45) rfl (teq hc108).1 (by decide) (by decide)) ?_
            refine Go.via (fun _ => XS.iconst X0.here hx rfl (hb hby d9_60)) ?_
            refine Go.via (fun _ => XS.goto X0.here hx rfl (pc0 := 61) (pc' := 65) rfl (hb hby d9_61) (by decide) (by decide)) ?_
            exact own_retN X0 hx hlk (t := .boolean) Bd.returns (by simp) (hb hby d9_65) (by show Q_allowed Z ch h0 n0 _ s₁.heap _; rw [e0]; exact ⟨by simp [okF, loF, dgF, nar, hc101, hc102, hc103, hc107, hc108], N0, rfl⟩) (by decide) (by decide)
          · -- no
            show Go p e below _ (s₁.setTop (mkF m 45 #[iv ch] [(.int (46 : Int32)), (.int ch)]))
            refine Go.via (fun _ => XS.icmpNo X0.here hx rfl (hb hby d9_45) rfl (feq hc108).1) ?_
            refine Go.via (fun _ => XS.iloadN X0.here hx rfl (hb hby d9_48) rfl) ?_
            refine Go.via (fun _ => XS.bipush X0.here hx rfl (hb hby d9_49)) ?_
            by_cases hc109 : ch = (95 : Int32)
            · -- yes
              show Go p e below _ (s₁.setTop (mkF m 51 #[iv ch] [(.int (95 : Int32)), (.int ch)]))
              refine Go.via (fun _ => XS.icmpYes X0.here hx rfl (pc0 := 51) (pc' := 60) rfl (hb hby d9_51) rfl (teq hc109).1 (by decide) (by decide)) ?_
              refine Go.via (fun _ => XS.iconst X0.here hx rfl (hb hby d9_60)) ?_
              refine Go.via (fun _ => XS.goto X0.here hx rfl (pc0 := 61) (pc' := 65) rfl (hb hby d9_61) (by decide) (by decide)) ?_
              exact own_retN X0 hx hlk (t := .boolean) Bd.returns (by simp) (hb hby d9_65) (by show Q_allowed Z ch h0 n0 _ s₁.heap _; rw [e0]; exact ⟨by simp [okF, loF, dgF, nar, hc101, hc102, hc103, hc107, hc108, hc109], N0, rfl⟩) (by decide) (by decide)
            · -- no
              show Go p e below _ (s₁.setTop (mkF m 51 #[iv ch] [(.int (95 : Int32)), (.int ch)]))
              refine Go.via (fun _ => XS.icmpNo X0.here hx rfl (hb hby d9_51) rfl (feq hc109).1) ?_
              refine Go.via (fun _ => XS.iloadN X0.here hx rfl (hb hby d9_54) rfl) ?_
              refine Go.via (fun _ => XS.bipush X0.here hx rfl (hb hby d9_55)) ?_
              by_cases hc110 : ch = (45 : Int32)
              · -- yes
                refine Go.via (fun _ => XS.icmpNo X0.here hx rfl (hb hby d9_57) rfl (teq hc110).2) ?_
                show Go p e below _ (s₁.setTop (mkF m 60 #[iv ch] []))
                refine Go.via (fun _ => XS.iconst X0.here hx rfl (hb hby d9_60)) ?_
                refine Go.via (fun _ => XS.goto X0.here hx rfl (pc0 := 61) (pc' := 65) rfl (hb hby d9_61) (by decide) (by decide)) ?_
                exact own_retN X0 hx hlk (t := .boolean) Bd.returns (by simp) (hb hby d9_65) (by show Q_allowed Z ch h0 n0 _ s₁.heap _; rw [e0]; exact ⟨by simp [okF, loF, dgF, nar, hc101, hc102, hc103, hc107, hc108, hc109, hc110], N0, rfl⟩) (by decide) (by decide)
              · -- no
                refine Go.via (fun _ => XS.icmpYes X0.here hx rfl (pc0 := 57) (pc' := 64) rfl (hb hby d9_57) rfl (feq hc110).2 (by decide) (by decide)) ?_
                show Go p e below _ (s₁.setTop (mkF m 64 #[iv ch] []))
                refine Go.via (fun _ => XS.iconst X0.here hx rfl (hb hby d9_64)) ?_
                exact own_retN X0 hx hlk (t := .boolean) Bd.returns (by simp) (hb hby d9_65) (by show Q_allowed Z ch h0 n0 _ s₁.heap _; rw [e0]; exact ⟨by simp [okF, loF, dgF, nar, hc101, hc102, hc103, hc107, hc108, hc109, hc110], N0, rfl⟩) (by decide) (by decide)
        · -- no
          refine Go.via (fun _ => XS.icmpNo X0.here hx rfl (hb hby d9_37) rfl (flt hc107).2.2.1) ?_
          refine Go.via (fun _ => XS.iconst X0.here hx rfl (hb hby d9_40)) ?_
          exact own_retN X0 hx hlk (t := .boolean) Bd.returns (by simp) (hb hby d9_41) (by show Q_allowed Z ch h0 n0 _ s₁.heap _; rw [e0]; exact ⟨by simp [okF, loF, dgF, nar, hc101, hc102, hc103, hc107], N0, rfl⟩) (by decide) (by decide)
    · -- no
      refine Go.via (fun _ => XS.icmpNo X0.here hx rfl (hb hby d9_17) rfl (flt hc102).1) ?_
      refine Go.via (fun _ => XS.iloadN X0.here hx rfl (hb hby d9_20) rfl) ?_
      show Go p e below _ (s₁.setTop (mkF m 21 #[iv ch] [(.int ch)]))
      refine Go.via (fun _ => XS.bipush X0.here hx rfl (hb hby d9_21)) ?_
      by_cases hc111 : (122 : Int32) < ch
      · -- yes
        refine Go.via (fun _ => XS.icmpYes X0.here hx rfl (pc0 := 23) (pc' := 28) rfl (hb hby d9_23) rfl (tlt hc111).2.2.1 (by decide) (by decide)) ?_
        refine Go.via (fun _ => XS.iloadN X0.here hx rfl (hb hby d9_28) rfl) ?_
        refine Go.via (fun _ => XS.bipush X0.here hx rfl (hb hby d9_29)) ?_
        show Go p e below _ (s₁.setTop (mkF m 31 #[iv ch] [(.int (48 : Int32)), (.int ch)]))
        by_cases hc112 : ch < (48 : Int32)
        · -- yes
          refine Go.via (fun _ => XS.icmpYes X0.here hx rfl (pc0 := 31) (pc' := 42) rfl (hb hby d9_31) rfl (tlt hc112).1 (by decide) (by decide)) ?_
          refine Go.via (fun _ => XS.iloadN X0.here hx rfl (hb hby d9_42) rfl) ?_
          refine Go.via (fun _ => XS.bipush X0.here hx rfl (hb hby d9_43)) ?_
          by_cases hc113 : ch = (46 : Int32)
          · -- yes
            show Go p e below _ (s₁.setTop (mkF m 45 #[iv ch] [(.int (46 : Int32)), (.int ch)]))
            refine Go.via (fun _ => XS.icmpYes X0.here hx rfl (pc0 := 45) (pc' := 60) rfl (hb hby d9_45) rfl (teq hc113).1 (by decide) (by decide)) ?_
            refine Go.via (fun _ => XS.iconst X0.here hx rfl (hb hby d9_60)) ?_
            refine Go.via (fun _ => XS.goto X0.here hx rfl (pc0 := 61) (pc' := 65) rfl (hb hby d9_61) (by decide) (by decide)) ?_
            exact own_retN X0 hx hlk (t := .boolean) Bd.returns (by simp) (hb hby d9_65) (by show Q_allowed Z ch h0 n0 _ s₁.heap _; rw [e0]; exact ⟨by simp [okF, loF, dgF, nar, hc101, hc102, hc111, hc112, hc113], N0, rfl⟩) (by decide) (by decide)
          · -- no
            show Go p e below _ (s₁.setTop (mkF m 45 #[iv ch] [(.int (46 : Int32)), (.int ch)]))
            refine Go.via (fun _ => XS.icmpNo X0.here hx rfl (hb hby d9_45) rfl (feq hc113).1) ?_
            refine Go.via (fun _ => XS.iloadN X0.here hx rfl (hb hby d9_48) rfl) ?_
            refine Go.via (fun _ => XS.bipush X0.here hx rfl (hb hby d9_49)) ?_
            by_cases hc114 : ch = (95 : Int32)
            · -- yes
              show Go p e below _ (s₁.setTop (mkF m 51 #[iv ch] [(.int (95 : Int32)), (.int ch)]))
              refine Go.via (fun _ => XS.icmpYes X0.here hx rfl (pc0 := 51) (pc' := 60) rfl (hb hby d9_51) rfl (teq hc114).1 (by decide) (by decide)) ?_
              refine Go.via (fun _ => XS.iconst X0.here hx rfl (hb hby d9_60)) ?_
              refine Go.via (fun _ => XS.goto X0.here hx rfl (pc0 := 61) (pc' := 65) rfl (hb hby d9_61) (by decide) (by decide)) ?_
              exact own_retN X0 hx hlk (t := .boolean) Bd.returns (by simp) (hb hby d9_65) (by show Q_allowed Z ch h0 n0 _ s₁.heap _; rw [e0]; exact ⟨by simp [okF, loF, dgF, nar, hc101, hc102, hc111, hc112, hc113, hc114], N0, rfl⟩) (by decide) (by decide)
            · -- no
              show Go p e below _ (s₁.setTop (mkF m 51 #[iv ch] [(.int (95 : Int32)), (.int ch)]))
              refine Go.via (fun _ => XS.icmpNo X0.here hx rfl (hb hby d9_51) rfl (feq hc114).1) ?_
              refine Go.via (fun _ => XS.iloadN X0.here hx rfl (hb hby d9_54) rfl) ?_
              refine Go.via (fun _ => XS.bipush X0.here hx rfl (hb hby d9_55)) ?_
              by_cases hc115 : ch = (45 : Int32)
              · -- yes
                refine Go.via (fun _ => XS.icmpNo X0.here hx rfl (hb hby d9_57) rfl (teq hc115).2) ?_
                show Go p e below _ (s₁.setTop (mkF m 60 #[iv ch] []))
                refine Go.via (fun _ => XS.iconst X0.here hx rfl (hb hby d9_60)) ?_
                refine Go.via (fun _ => XS.goto X0.here hx rfl (pc0 := 61) (pc' := 65) rfl (hb hby d9_61) (by decide) (by decide)) ?_
                exact own_retN X0 hx hlk (t := .boolean) Bd.returns (by simp) (hb hby d9_65) (by show Q_allowed Z ch h0 n0 _ s₁.heap _; rw [e0]; exact ⟨by simp [okF, loF, dgF, nar, hc101, hc102, hc111, hc112, hc113, hc114, hc115], N0, rfl⟩) (by decide) (by decide)
              · -- no
                refine Go.via (fun _ => XS.icmpYes X0.here hx rfl (pc0 := 57) (pc' := 64) rfl (hb hby d9_57) rfl (feq hc115).2 (by decide) (by decide)) ?_
                show Go p e below _ (s₁.setTop (mkF m 64 #[iv ch] []))
                refine Go.via (fun _ => XS.iconst X0.here hx rfl (hb hby d9_64)) ?_
                exact own_retN X0 hx hlk (t := .boolean) Bd.returns (by simp) (hb hby d9_65) (by show Q_allowed Z ch h0 n0 _ s₁.heap _; rw [e0]; exact ⟨by simp [okF, loF, dgF, nar, hc101, hc102, hc111, hc112, hc113, hc114, hc115], N0, rfl⟩) (by decide) (by decide)
        · -- no
          refine Go.via (fun _ => XS.icmpNo X0.here hx rfl (hb hby d9_31) rfl (flt hc112).1) ?_
          refine Go.via (fun _ => XS.iloadN X0.here hx rfl (hb hby d9_34) rfl) ?_
          refine Go.via (fun _ => XS.bipush X0.here hx rfl (hb hby d9_35)) ?_
          by_cases hc116 : (57 : Int32) < ch
          · -- yes
            show Go p e below _ (s₁.setTop (mkF m 37 #[iv ch] [(.int (57 : Int32)), (.int ch)]))
            refine Go.via (fun _ => XS.icmpYes X0.here hx rfl (pc0 := 37) (pc' := 42) rfl (hb hby d9_37) rfl (tlt hc116).2.2.1 (by decide) (by decide)) ?_
            refine Go.via (fun _ => XS.iloadN X0.here hx rfl (hb hby d9_42) rfl) ?_
            refine Go.via (fun _ => XS.bipush X0.here hx rfl (hb hby d9_43)) ?_
            by_cases hc117 : ch = (46 : Int32)
            · -- yes
              show Go p e below _ (s₁.setTop (mkF m 45 #[iv ch] [(.int (46 : Int32)), (.int ch)]))
              refine Go.via (fun _ => XS.icmpYes X0.here hx rfl (pc0 := 45) (pc' := 60) rfl (hb hby d9_45) rfl (teq hc117).1 (by decide) (by decide)) ?_
              refine Go.via (fun _ => XS.iconst X0.here hx rfl (hb hby d9_60)) ?_
              refine Go.via (fun _ => XS.goto X0.here hx rfl (pc0 := 61) (pc' := 65) rfl (hb hby d9_61) (by decide) (by decide)) ?_
              exact own_retN X0 hx hlk (t := .boolean) Bd.returns (by simp) (hb hby d9_65) (by show Q_allowed Z ch h0 n0 _ s₁.heap _; rw [e0]; exact ⟨by simp [okF, loF, dgF, nar, hc101, hc102, hc111, hc112, hc116, hc117], N0, rfl⟩) (by decide) (by decide)
            · -- no
              show Go p e below _ (s₁.setTop (mkF m 45 #[iv ch] [(.int (46 : Int32)), (.int ch)]))
              refine Go.via (fun _ => XS.icmpNo X0.here hx rfl (hb hby d9_45) rfl (feq hc117).1) ?_
              refine Go.via (fun _ => XS.iloadN X0.here hx rfl (hb hby d9_48) rfl) ?_
              refine Go.via (fun _ => XS.bipush X0.here hx rfl (hb hby d9_49)) ?_
              by_cases hc118 : ch = (95 : Int32)
              · -- yes
                refine Go.via (fun _ => XS.icmpYes X0.here hx rfl (pc0 := 51) (pc' := 60) rfl (hb hby d9_51) rfl (teq hc118).1 (by decide) (by decide)) ?_
                show Go p e below _ (s₁.setTop (mkF m 60 #[iv ch] []))
                refine Go.via (fun _ => XS.iconst X0.here hx rfl (hb hby d9_60)) ?_
                refine Go.via (fun _ => XS.goto X0.here hx rfl (pc0 := 61) (pc' := 65) rfl (hb hby d9_61) (by decide) (by decide)) ?_
                exact own_retN X0 hx hlk (t := .boolean) Bd.returns (by simp) (hb hby d9_65) (by show Q_allowed Z ch h0 n0 _ s₁.heap _; rw [e0]; exact ⟨by simp [okF, loF, dgF, nar, hc101, hc102, hc111, hc112, hc116, hc117, hc118], N0, rfl⟩) (by decide) (by decide)
              · -- no
                refine Go.via (fun _ => XS.icmpNo X0.here hx rfl (hb hby d9_51) rfl (feq hc118).1) ?_
                show Go p e below _ (s₁.setTop (mkF m 54 #[iv ch] []))
                refine Go.via (fun _ => XS.iloadN X0.here hx rfl (hb hby d9_54) rfl) ?_
                refine Go.via (fun _ => XS.bipush X0.here hx rfl (hb hby d9_55)) ?_
                by_cases hc119 : ch = (45 : Int32)
                · -- yes
                  refine Go.via (fun _ => XS.icmpNo X0.here hx rfl (hb hby d9_57) rfl (teq hc119).2) ?_
                  refine Go.via (fun _ => XS.iconst X0.here hx rfl (hb hby d9_60)) ?_
                  show Go p e below _ (s₁.setTop (mkF m 61 #[iv ch] [(.int (1 : Int32))]))
                  refine Go.via (fun _ => XS.goto X0.here hx rfl (pc0 := 61) (pc' := 65) rfl (hb hby d9_61) (by decide) (by decide)) ?_
                  exact own_retN X0 hx hlk (t := .boolean) Bd.returns (by simp) (hb hby d9_65) (by show Q_allowed Z ch h0 n0 _ s₁.heap _; rw [e0]; exact ⟨by simp [okF, loF, dgF, nar, hc101, hc102, hc111, hc112, hc116, hc117, hc118, hc119], N0, rfl⟩) (by decide) (by decide)
                · -- no
                  refine Go.via (fun _ => XS.icmpYes X0.here hx rfl (pc0 := 57) (pc' := 64) rfl (hb hby d9_57) rfl (feq hc119).2 (by decide) (by decide)) ?_
                  refine Go.via (fun _ => XS.iconst X0.here hx rfl (hb hby d9_64)) ?_
                  show Go p e below _ (s₁.setTop (mkF m 65 #[iv ch] [(.int (0 : Int32))]))
                  exact own_retN X0 hx hlk (t := .boolean) Bd.returns (by simp) (hb hby d9_65) (by show Q_allowed Z ch h0 n0 _ s₁.heap _; rw [e0]; exact ⟨by simp [okF, loF, dgF, nar, hc101, hc102, hc111, hc112, hc116, hc117, hc118, hc119], N0, rfl⟩) (by decide) (by decide)
          · -- no
            show Go p e below _ (s₁.setTop (mkF m 37 #[iv ch] [(.int (57 : Int32)), (.int ch)]))
            refine Go.via (fun _ => XS.icmpNo X0.here hx rfl (hb hby d9_37) rfl (flt hc116).2.2.1) ?_
            refine Go.via (fun _ => XS.iconst X0.here hx rfl (hb hby d9_40)) ?_
            exact own_retN X0 hx hlk (t := .boolean) Bd.returns (by simp) (hb hby d9_41) (by show Q_allowed Z ch h0 n0 _ s₁.heap _; rw [e0]; exact ⟨by simp [okF, loF, dgF, nar, hc101, hc102, hc111, hc112, hc116], N0, rfl⟩) (by decide) (by decide)
      · -- no
        refine Go.via (fun _ => XS.icmpNo X0.here hx rfl (hb hby d9_23) rfl (flt hc111).2.2.1) ?_
        refine Go.via (fun _ => XS.iconst X0.here hx rfl (hb hby d9_26)) ?_
        exact own_retN X0 hx hlk (t := .boolean) Bd.returns (by simp) (hb hby d9_27) (by show Q_allowed Z ch h0 n0 _ s₁.heap _; rw [e0]; exact ⟨by simp [okF, loF, dgF, nar, hc101, hc102, hc111], N0, rfl⟩) (by decide) (by decide)
  · -- no
    refine Go.via (fun _ => XS.icmpNo X0.here hx rfl (hb hby d9_3) rfl (flt hc101).1) ?_
    show Go p e below _ (s₁.setTop (mkF m 6 #[iv ch] []))
    refine Go.via (fun _ => XS.iloadN X0.here hx rfl (hb hby d9_6) rfl) ?_
    refine Go.via (fun _ => XS.bipush X0.here hx rfl (hb hby d9_7)) ?_
    by_cases hc120 : (90 : Int32) < ch
    · -- yes
      refine Go.via (fun _ => XS.icmpYes X0.here hx rfl (pc0 := 9) (pc' := 14) rfl (hb hby d9_9) rfl (tlt hc120).2.2.1 (by decide) (by decide)) ?_
      refine Go.via (fun _ => XS.iloadN X0.here hx rfl (hb hby d9_14) rfl) ?_
      show Go p e below _ (s₁.setTop (mkF m 15 #[iv ch] [(.int ch)]))
      refine Go.via (fun _ => XS.bipush X0.here hx rfl (hb hby d9_15)) ?_
      by_cases hc121 : ch < (97 : Int32)
      · -- yes
        refine Go.via (fun _ => XS.icmpYes X0.here hx rfl (pc0 := 17) (pc' := 28) rfl (hb hby d9_17) rfl (tlt hc121).1 (by decide) (by decide)) ?_
        refine Go.via (fun _ => XS.iloadN X0.here hx rfl (hb hby d9_28) rfl) ?_
        refine Go.via (fun _ => XS.bipush X0.here hx rfl (hb hby d9_29)) ?_
        show Go p e below _ (s₁.setTop (mkF m 31 #[iv ch] [(.int (48 : Int32)), (.int ch)]))
        by_cases hc122 : ch < (48 : Int32)
        · -- yes
          refine Go.via (fun _ => XS.icmpYes X0.here hx rfl (pc0 := 31) (pc' := 42) rfl (hb hby d9_31) rfl (tlt hc122).1 (by decide) (by decide)) ?_
          refine Go.via (fun _ => XS.iloadN X0.here hx rfl (hb hby d9_42) rfl) ?_
          refine Go.via (fun _ => XS.bipush X0.here hx rfl (hb hby d9_43)) ?_
          by_cases hc123 : ch = (46 : Int32)
          · -- yes
            show Go p e below _ (s₁.setTop (mkF m 45 #[iv ch] [(.int (46 : Int32)), (.int ch)]))
            refine Go.via (fun _ => XS.icmpYes X0.here hx rfl (pc0 := 45) (pc' := 60) rfl (hb hby d9_45) rfl (teq hc123).1 (by decide) (by decide)) ?_
            refine Go.via (fun _ => XS.iconst X0.here hx rfl (hb hby d9_60)) ?_
            refine Go.via (fun _ => XS.goto X0.here hx rfl (pc0 := 61) (pc' := 65) rfl (hb hby d9_61) (by decide) (by decide)) ?_
            exact own_retN X0 hx hlk (t := .boolean) Bd.returns (by simp) (hb hby d9_65) (by show Q_allowed Z ch h0 n0 _ s₁.heap _; rw [e0]; exact ⟨by simp [okF, loF, dgF, nar, hc101, hc120, hc121, hc122, hc123], N0, rfl⟩) (by decide) (by decide)
          · -- no
            show Go p e below _ (s₁.setTop (mkF m 45 #[iv ch] [(.int (46 : Int32)), (.int ch)]))
            refine Go.via (fun _ => XS.icmpNo X0.here hx rfl (hb hby d9_45) rfl (feq hc123).1) ?_
            refine Go.via (fun _ => XS.iloadN X0.here hx rfl (hb hby d9_48) rfl) ?_
            refine Go.via (fun _ => XS.bipush X0.here hx rfl (hb hby d9_49)) ?_
            by_cases hc124 : ch = (95 : Int32)
            · -- yes
              show Go p e below _ (s₁.setTop (mkF m 51 #[iv ch] [(.int (95 : Int32)), (.int ch)]))
              refine Go.via (fun _ => XS.icmpYes X0.here hx rfl (pc0 := 51) (pc' := 60) rfl (hb hby d9_51) rfl (teq hc124).1 (by decide) (by decide)) ?_
              refine Go.via (fun _ => XS.iconst X0.here hx rfl (hb hby d9_60)) ?_
              refine Go.via (fun _ => XS.goto X0.here hx rfl (pc0 := 61) (pc' := 65) rfl (hb hby d9_61) (by decide) (by decide)) ?_
              exact own_retN X0 hx hlk (t := .boolean) Bd.returns (by simp) (hb hby d9_65) (by show Q_allowed Z ch h0 n0 _ s₁.heap _; rw [e0]; exact ⟨by simp [okF, loF, dgF, nar, hc101, hc120, hc121, hc122, hc123, hc124], N0, rfl⟩) (by decide) (by decide)
            · -- no
              show Go p e below _ (s₁.setTop (mkF m 51 #[iv ch] [(.int (95 : Int32)), (.int ch)]))
              refine Go.via (fun _ => XS.icmpNo X0.here hx rfl (hb hby d9_51) rfl (feq hc124).1) ?_
              refine Go.via (fun _ => XS.iloadN X0.here hx rfl (hb hby d9_54) rfl) ?_
              refine Go.via (fun _ => XS.bipush X0.here hx rfl (hb hby d9_55)) ?_
              by_cases hc125 : ch = (45 : Int32)
              · -- yes
                refine Go.via (fun _ => XS.icmpNo X0.here hx rfl (hb hby d9_57) rfl (teq hc125).2) ?_
                show Go p e below _ (s₁.setTop (mkF m 60 #[iv ch] []))
                refine Go.via (fun _ => XS.iconst X0.here hx rfl (hb hby d9_60)) ?_
                refine Go.via (fun _ => XS.goto X0.here hx rfl (pc0 := 61) (pc' := 65) rfl (hb hby d9_61) (by decide) (by decide)) ?_
                exact own_retN X0 hx hlk (t := .boolean) Bd.returns (by simp) (hb hby d9_65) (by show Q_allowed Z ch h0 n0 _ s₁.heap _; rw [e0]; exact ⟨by simp [okF, loF, dgF, nar, hc101, hc120, hc121, hc122, hc123, hc124, hc125], N0, rfl⟩) (by decide) (by decide)
              · -- no
                refine Go.via (fun _ => XS.icmpYes X0.here hx rfl (pc0 := 57) (pc' := 64) rfl (hb hby d9_57) rfl (feq hc125).2 (by decide) (by decide)) ?_
                show Go p e below _ (s₁.setTop (mkF m 64 #[iv ch] []))
                refine Go.via (fun _ => XS.iconst X0.here hx rfl (hb hby d9_64)) ?_
                exact own_retN X0 hx hlk (t := .boolean) Bd.returns (by simp) (hb hby d9_65) (by show Q_allowed Z ch h0 n0 _ s₁.heap _; rw [e0]; exact ⟨by simp [okF, loF, dgF, nar, hc101, hc120, hc121, hc122, hc123, hc124, hc125], N0, rfl⟩) (by decide) (by decide)
        · -- no
          refine Go.via (fun _ => XS.icmpNo X0.here hx rfl (hb hby d9_31) rfl (flt hc122).1) ?_
          refine Go.via (fun _ => XS.iloadN X0.here hx rfl (hb hby d9_34) rfl) ?_
          refine Go.via (fun _ => XS.bipush X0.here hx rfl (hb hby d9_35)) ?_
          by_cases hc126 : (57 : Int32) < ch
          · -- yes
            show Go p e below _ (s₁.setTop (mkF m 37 #[iv ch] [(.int (57 : Int32)), (.int ch)]))
            refine Go.via (fun _ => XS.icmpYes X0.here hx rfl (pc0 := 37) (pc' := 42) rfl (hb hby d9_37) rfl (tlt hc126).2.2.1 (by decide) (by decide)) ?_
            refine Go.via (fun _ => XS.iloadN X0.here hx rfl (hb hby d9_42) rfl) ?_
            refine Go.via (fun _ => XS.bipush X0.here hx rfl (hb hby d9_43)) ?_
            by_cases hc127 : ch = (46 : Int32)
            · -- yes
              show Go p e below _ (s₁.setTop (mkF m 45 #[iv ch] [(.int (46 : Int32)), (.int ch)]))
              refine Go.via (fun _ => XS.icmpYes X0.here hx rfl (pc0 := 45) (pc' := 60) rfl (hb hby d9_45) rfl (teq hc127).1 (by decide) (by decide)) ?_
              refine Go.via (fun _ => XS.iconst X0.here hx rfl (hb hby d9_60)) ?_
              refine Go.via (fun _ => XS.goto X0.here hx rfl (pc0 := 61) (pc' := 65) rfl (hb hby d9_61) (by decide) (by decide)) ?_
              exact own_retN X0 hx hlk (t := .boolean) Bd.returns (by simp) (hb hby d9_65) (by show Q_allowed Z ch h0 n0 _ s₁.heap _; rw [e0]; exact ⟨by simp [okF, loF, dgF, nar, hc101, hc120, hc121, hc122, hc126, hc127], N0, rfl⟩) (by decide) (by decide)
            · -- no
              show Go p e below _ (s₁.setTop (mkF m 45 #[iv ch] [(.int (46 : Int32)), (.int ch)]))
              refine Go.via (fun _ => XS.icmpNo X0.here hx rfl (hb hby d9_45) rfl (feq hc127).1) ?_
              refine Go.via (fun _ => XS.iloadN X0.here hx rfl (hb hby d9_48) rfl) ?_
              refine Go.via (fun _ => XS.bipush X0.here hx rfl (hb hby d9_49)) ?_
              by_cases hc128 : ch = (95 : Int32)
              · -- yes
                refine Go.via (fun _ => XS.icmpYes X0.here hx rfl (pc0 := 51) (pc' := 60) rfl (hb hby d9_51) rfl (teq hc128).1 (by decide) (by decide)) ?_
                show Go p e below _ (s₁.setTop (mkF m 60 #[iv ch] []))
                refine Go.via (fun _ => XS.iconst X0.here hx rfl (hb hby d9_60)) ?_
                refine Go.via (fun _ => XS.goto X0.here hx rfl (pc0 := 61) (pc' := 65) rfl (hb hby d9_61) (by decide) (by decide)) ?_
                exact own_retN X0 hx hlk (t := .boolean) Bd.returns (by simp) (hb hby d9_65) (by show Q_allowed Z ch h0 n0 _ s₁.heap _; rw [e0]; exact ⟨by simp [okF, loF, dgF, nar, hc101, hc120, hc121, hc122, hc126, hc127, hc128], N0, rfl⟩) (by decide) (by decide)
              · -- no
                refine Go.via (fun _ => XS.icmpNo X0.here hx rfl (hb hby d9_51) rfl (feq hc128).1) ?_
                show Go p e below _ (s₁.setTop (mkF m 54 #[iv ch] []))
                refine Go.via (fun _ => XS.iloadN X0.here hx rfl (hb hby d9_54) rfl) ?_
                refine Go.via (fun _ => XS.bipush X0.here hx rfl (hb hby d9_55)) ?_
                by_cases hc129 : ch = (45 : Int32)
                · -- yes
                  refine Go.via (fun _ => XS.icmpNo X0.here hx rfl (hb hby d9_57) rfl (teq hc129).2) ?_
                  refine Go.via (fun _ => XS.iconst X0.here hx rfl (hb hby d9_60)) ?_
                  show Go p e below _ (s₁.setTop (mkF m 61 #[iv ch] [(.int (1 : Int32))]))
                  refine Go.via (fun _ => XS.goto X0.here hx rfl (pc0 := 61) (pc' := 65) rfl (hb hby d9_61) (by decide) (by decide)) ?_
                  exact own_retN X0 hx hlk (t := .boolean) Bd.returns (by simp) (hb hby d9_65) (by show Q_allowed Z ch h0 n0 _ s₁.heap _; rw [e0]; exact ⟨by simp [okF, loF, dgF, nar, hc101, hc120, hc121, hc122, hc126, hc127, hc128, hc129], N0, rfl⟩) (by decide) (by decide)
                · -- no
                  refine Go.via (fun _ => XS.icmpYes X0.here hx rfl (pc0 := 57) (pc' := 64) rfl (hb hby d9_57) rfl (feq hc129).2 (by decide) (by decide)) ?_
                  refine Go.via (fun _ => XS.iconst X0.here hx rfl (hb hby d9_64)) ?_
                  show Go p e below _ (s₁.setTop (mkF m 65 #[iv ch] [(.int (0 : Int32))]))
                  exact own_retN X0 hx hlk (t := .boolean) Bd.returns (by simp) (hb hby d9_65) (by show Q_allowed Z ch h0 n0 _ s₁.heap _; rw [e0]; exact ⟨by simp [okF, loF, dgF, nar, hc101, hc120, hc121, hc122, hc126, hc127, hc128, hc129], N0, rfl⟩) (by decide) (by decide)
          · -- no
            show Go p e below _ (s₁.setTop (mkF m 37 #[iv ch] [(.int (57 : Int32)), (.int ch)]))
            refine Go.via (fun _ => XS.icmpNo X0.here hx rfl (hb hby d9_37) rfl (flt hc126).2.2.1) ?_
            refine Go.via (fun _ => XS.iconst X0.here hx rfl (hb hby d9_40)) ?_
            exact own_retN X0 hx hlk (t := .boolean) Bd.returns (by simp) (hb hby d9_41) (by show Q_allowed Z ch h0 n0 _ s₁.heap _; rw [e0]; exact ⟨by simp [okF, loF, dgF, nar, hc101, hc120, hc121, hc122, hc126], N0, rfl⟩) (by decide) (by decide)
      · -- no
        refine Go.via (fun _ => XS.icmpNo X0.here hx rfl (hb hby d9_17) rfl (flt hc121).1) ?_
        refine Go.via (fun _ => XS.iloadN X0.here hx rfl (hb hby d9_20) rfl) ?_
        refine Go.via (fun _ => XS.bipush X0.here hx rfl (hb hby d9_21)) ?_
        show Go p e below _ (s₁.setTop (mkF m 23 #[iv ch] [(.int (122 : Int32)), (.int ch)]))
        by_cases hc130 : (122 : Int32) < ch
        · -- yes
          refine Go.via (fun _ => XS.icmpYes X0.here hx rfl (pc0 := 23) (pc' := 28) rfl (hb hby d9_23) rfl (tlt hc130).2.2.1 (by decide) (by decide)) ?_
          refine Go.via (fun _ => XS.iloadN X0.here hx rfl (hb hby d9_28) rfl) ?_
          refine Go.via (fun _ => XS.bipush X0.here hx rfl (hb hby d9_29)) ?_
          by_cases hc131 : ch < (48 : Int32)
          · -- yes
            show Go p e below _ (s₁.setTop (mkF m 31 #[iv ch] [(.int (48 : Int32)), (.int ch)]))
            refine Go.via (fun _ => XS.icmpYes X0.here hx rfl (pc0 := 31) (pc' := 42) rfl (hb hby d9_31) rfl (tlt hc131).1 (by decide) (by decide)) ?_
            refine Go.via (fun _ => XS.iloadN X0.here hx rfl (hb hby d9_42) rfl) ?_
            refine Go.via (fun _ => XS.bipush X0.here hx rfl (hb hby d9_43)) ?_
            by_cases hc132 : ch = (46 : Int32)
            · -- yes
              show Go p e below _ (s₁.setTop (mkF m 45 #[iv ch] [(.int (46 : Int32)), (.int ch)]))
              refine Go.via (fun _ => XS.icmpYes X0.here hx rfl (pc0 := 45) (pc' := 60) rfl (hb hby d9_45) rfl (teq hc132).1 (by decide) (by decide)) ?_
              refine Go.via (fun _ => XS.iconst X0.here hx rfl (hb hby d9_60)) ?_
              refine Go.via (fun _ => XS.goto X0.here hx rfl (pc0 := 61) (pc' := 65) rfl (hb hby d9_61) (by decide) (by decide)) ?_
              exact own_retN X0 hx hlk (t := .boolean) Bd.returns (by simp) (hb hby d9_65) (by show Q_allowed Z ch h0 n0 _ s₁.heap _; rw [e0]; exact ⟨by simp [okF, loF, dgF, nar, hc101, hc120, hc121, hc130, hc131, hc132], N0, rfl⟩) (by decide) (by decide)
            · -- no
              show Go p e below _ (s₁.setTop (mkF m 45 #[iv ch] [(.int (46 : Int32)), (.int ch)]))
              refine Go.via (fun _ => XS.icmpNo X0.here hx rfl (hb hby d9_45) rfl (feq hc132).1) ?_
              refine Go.via (fun _ => XS.iloadN X0.here hx rfl (hb hby d9_48) rfl) ?_
              refine Go.via (fun _ => XS.bipush X0.here hx rfl (hb hby d9_49)) ?_
              by_cases hc133 : ch = (95 : Int32)
              · -- yes
                refine Go.via (fun _ => XS.icmpYes X0.here hx rfl (pc0 := 51) (pc' := 60) rfl (hb hby d9_51) rfl (teq hc133).1 (by decide) (by decide)) ?_
                show Go p e below _ (s₁.setTop (mkF m 60 #[iv ch] []))
                refine Go.via (fun _ => XS.iconst X0.here hx rfl (hb hby d9_60)) ?_
                refine Go.via (fun _ => XS.goto X0.here hx rfl (pc0 := 61) (pc' := 65) rfl (hb hby d9_61) (by decide) (by decide)) ?_
                exact own_retN X0 hx hlk (t := .boolean) Bd.returns (by simp) (hb hby d9_65) (by show Q_allowed Z ch h0 n0 _ s₁.heap _; rw [e0]; exact ⟨by simp [okF, loF, dgF, nar, hc101, hc120, hc121, hc130, hc131, hc132, hc133], N0, rfl⟩) (by decide) (by decide)
              · -- no
                refine Go.via (fun _ => XS.icmpNo X0.here hx rfl (hb hby d9_51) rfl (feq hc133).1) ?_
                show Go p e below _ (s₁.setTop (mkF m 54 #[iv ch] []))
                refine Go.via (fun _ => XS.iloadN X0.here hx rfl (hb hby d9_54) rfl) ?_
                refine Go.via (fun _ => XS.bipush X0.here hx rfl (hb hby d9_55)) ?_
                by_cases hc134 : ch = (45 : Int32)
                · -- yes
                  refine Go.via (fun _ => XS.icmpNo X0.here hx rfl (hb hby d9_57) rfl (teq hc134).2) ?_
                  refine Go.via (fun _ => XS.iconst X0.here hx rfl (hb hby d9_60)) ?_
                  show Go p e below _ (s₁.setTop (mkF m 61 #[iv ch] [(.int (1 : Int32))]))
                  refine Go.via (fun _ => XS.goto X0.here hx rfl (pc0 := 61) (pc' := 65) rfl (hb hby d9_61) (by decide) (by decide)) ?_
                  exact own_retN X0 hx hlk (t := .boolean) Bd.returns (by simp) (hb hby d9_65) (by show Q_allowed Z ch h0 n0 _ s₁.heap _; rw [e0]; exact ⟨by simp [okF, loF, dgF, nar, hc101, hc120, hc121, hc130, hc131, hc132, hc133, hc134], N0, rfl⟩) (by decide) (by decide)
                · -- no
                  refine Go.via (fun _ => XS.icmpYes X0.here hx rfl (pc0 := 57) (pc' := 64) rfl (hb hby d9_57) rfl (feq hc134).2 (by decide) (by decide)) ?_
                  refine Go.via (fun _ => XS.iconst X0.here hx rfl (hb hby d9_64)) ?_
                  show Go p e below _ (s₁.setTop (mkF m 65 #[iv ch] [(.int (0 : Int32))]))
                  exact own_retN X0 hx hlk (t := .boolean) Bd.returns (by simp) (hb hby d9_65) (by show Q_allowed Z ch h0 n0 _ s₁.heap _; rw [e0]; exact ⟨by simp [okF, loF, dgF, nar, hc101, hc120, hc121, hc130, hc131, hc132, hc133, hc134], N0, rfl⟩) (by decide) (by decide)
          · -- no
            show Go p e below _ (s₁.setTop (mkF m 31 #[iv ch] [(.int (48 : Int32)), (.int ch)]))
            refine Go.via (fun _ => XS.icmpNo X0.here hx rfl (hb hby d9_31) rfl (flt hc131).1) ?_
            refine Go.via (fun _ => XS.iloadN X0.here hx rfl (hb hby d9_34) rfl) ?_
            refine Go.via (fun _ => XS.bipush X0.here hx rfl (hb hby d9_35)) ?_
            by_cases hc135 : (57 : Int32) < ch
            · -- yes
              show Go p e below _ (s₁.setTop (mkF m 37 #[iv ch] [(.int (57 : Int32)), (.int ch)]))
              refine Go.via (fun _ => XS.icmpYes X0.here hx rfl (pc0 := 37) (pc' := 42) rfl (hb hby d9_37) rfl (tlt hc135).2.2.1 (by decide) (by decide)) ?_
              refine Go.via (fun _ => XS.iloadN X0.here hx rfl (hb hby d9_42) rfl) ?_
              refine Go.via (fun _ => XS.bipush X0.here hx rfl (hb hby d9_43)) ?_
              by_cases hc136 : ch = (46 : Int32)
              · -- yes
                refine Go.via (fun _ => XS.icmpYes X0.here hx rfl (pc0 := 45) (pc' := 60) rfl (hb hby d9_45) rfl (teq hc136).1 (by decide) (by decide)) ?_
                show Go p e below _ (s₁.setTop (mkF m 60 #[iv ch] []))
                refine Go.via (fun _ => XS.iconst X0.here hx rfl (hb hby d9_60)) ?_
                refine Go.via (fun _ => XS.goto X0.here hx rfl (pc0 := 61) (pc' := 65) rfl (hb hby d9_61) (by decide) (by decide)) ?_
                exact own_retN X0 hx hlk (t := .boolean) Bd.returns (by simp) (hb hby d9_65) (by show Q_allowed Z ch h0 n0 _ s₁.heap _; rw [e0]; exact ⟨by simp [okF, loF, dgF, nar, hc101, hc120, hc121, hc130, hc131, hc135, hc136], N0, rfl⟩) (by decide) (by decide)
              · -- no
                refine Go.via (fun _ => XS.icmpNo X0.here hx rfl (hb hby d9_45) rfl (feq hc136).1) ?_
                show Go p e below _ (s₁.setTop (mkF m 48 #[iv ch] []))
                refine Go.via (fun _ => XS.iloadN X0.here hx rfl (hb hby d9_48) rfl) ?_
                refine Go.via (fun _ => XS.bipush X0.here hx rfl (hb hby d9_49)) ?_
                by_cases hc137 : ch = (95 : Int32)
                · -- yes
                  refine Go.via (fun _ => XS.icmpYes X0.here hx rfl (pc0 := 51) (pc' := 60) rfl (hb hby d9_51) rfl (teq hc137).1 (by decide) (by decide)) ?_
                  refine Go.via (fun _ => XS.iconst X0.here hx rfl (hb hby d9_60)) ?_
                  show Go p e below _ (s₁.setTop (mkF m 61 #[iv ch] [(.int (1 : Int32))]))
                  refine Go.via (fun _ => XS.goto X0.here hx rfl (pc0 := 61) (pc' := 65) rfl (hb hby d9_61) (by decide) (by decide)) ?_
                  exact own_retN X0 hx hlk (t := .boolean) Bd.returns (by simp) (hb hby d9_65) (by show Q_allowed Z ch h0 n0 _ s₁.heap _; rw [e0]; exact ⟨by simp [okF, loF, dgF, nar, hc101, hc120, hc121, hc130, hc131, hc135, hc136, hc137], N0, rfl⟩) (by decide) (by decide)
                · -- no
                  refine Go.via (fun _ => XS.icmpNo X0.here hx rfl (hb hby d9_51) rfl (feq hc137).1) ?_
                  refine Go.via (fun _ => XS.iloadN X0.here hx rfl (hb hby d9_54) rfl) ?_
                  show Go p e below _ (s₁.setTop (mkF m 55 #[iv ch] [(.int ch)]))
                  refine Go.via (fun _ => XS.bipush X0.here hx rfl (hb hby d9_55)) ?_
                  by_cases hc138 : ch = (45 : Int32)
                  · -- yes
                    refine Go.via (fun _ => XS.icmpNo X0.here hx rfl (hb hby d9_57) rfl (teq hc138).2) ?_
                    refine Go.via (fun _ => XS.iconst X0.here hx rfl (hb hby d9_60)) ?_
                    refine Go.via (fun _ => XS.goto X0.here hx rfl (pc0 := 61) (pc' := 65) rfl (hb hby d9_61) (by decide) (by decide)) ?_
                    show Go p e below _ (s₁.setTop (mkF m 65 #[iv ch] [(.int (1 : Int32))]))
                    exact own_retN X0 hx hlk (t := .boolean) Bd.returns (by simp) (hb hby d9_65) (by show Q_allowed Z ch h0 n0 _ s₁.heap _; rw [e0]; exact ⟨by simp [okF, loF, dgF, nar, hc101, hc120, hc121, hc130, hc131, hc135, hc136, hc137, hc138], N0, rfl⟩) (by decide) (by decide)
                  · -- no
                    refine Go.via (fun _ => XS.icmpYes X0.here hx rfl (pc0 := 57) (pc' := 64) rfl (hb hby d9_57) rfl (feq hc138).2 (by decide) (by decide)) ?_
                    refine Go.via (fun _ => XS.iconst X0.here hx rfl (hb hby d9_64)) ?_
                    exact own_retN X0 hx hlk (t := .boolean) Bd.returns (by simp) (hb hby d9_65) (by show Q_allowed Z ch h0 n0 _ s₁.heap _; rw [e0]; exact ⟨by simp [okF, loF, dgF, nar, hc101, hc120, hc121, hc130, hc131, hc135, hc136, hc137, hc138], N0, rfl⟩) (by decide) (by decide)
            · -- no
              show Go p e below _ (s₁.setTop (mkF m 37 #[iv ch] [(.int (57 : Int32)), (.int ch)]))
              refine Go.via (fun _ => XS.icmpNo X0.here hx rfl (hb hby d9_37) rfl (flt hc135).2.2.1) ?_
              refine Go.via (fun _ => XS.iconst X0.here hx rfl (hb hby d9_40)) ?_
              exact own_retN X0 hx hlk (t := .boolean) Bd.returns (by simp) (hb hby d9_41) (by show Q_allowed Z ch h0 n0 _ s₁.heap _; rw [e0]; exact ⟨by simp [okF, loF, dgF, nar, hc101, hc120, hc121, hc130, hc131, hc135], N0, rfl⟩) (by decide) (by decide)
        · -- no
          refine Go.via (fun _ => XS.icmpNo X0.here hx rfl (hb hby d9_23) rfl (flt hc130).2.2.1) ?_
          refine Go.via (fun _ => XS.iconst X0.here hx rfl (hb hby d9_26)) ?_
          exact own_retN X0 hx hlk (t := .boolean) Bd.returns (by simp) (hb hby d9_27) (by show Q_allowed Z ch h0 n0 _ s₁.heap _; rw [e0]; exact ⟨by simp [okF, loF, dgF, nar, hc101, hc120, hc121, hc130], N0, rfl⟩) (by decide) (by decide)
    · -- no
      refine Go.via (fun _ => XS.icmpNo X0.here hx rfl (hb hby d9_9) rfl (flt hc120).2.2.1) ?_
      refine Go.via (fun _ => XS.iconst X0.here hx rfl (hb hby d9_12)) ?_
      show Go p e below _ (s₁.setTop (mkF m 13 #[iv ch] [(.int (1 : Int32))]))
      exact own_retN X0 hx hlk (t := .boolean) Bd.returns (by simp) (hb hby d9_13) (by show Q_allowed Z ch h0 n0 _ s₁.heap _; rw [e0]; exact ⟨by simp [okF, loF, dgF, nar, hc101, hc120], N0, rfl⟩) (by decide) (by decide)
def QN0 (Z : State) (lg : Int32) (h0 : Heap) (n0 : Nat) (v : Option Value) (h : Heap) (L : List Loc) : Prop := v = some (.int (0 : Int32)) ∧ Fr n0 L ∧ h = h0
theorem ef_rmEmp_0 (m : MethodId) (x0 : Addr) : entryFrame m #[(.ref x0)] 1 = mkF m 0 #[rv x0] [] := by first | (simp [entryFrame, mkF, argsToLocals, Value.category]; done) | rfl
def QEmp_0 (Z : State) (a1 : Addr) (t1 : Addr) (kb : ClassId) (zz : Int32) (vs : List Value) (h0 : Heap) (n0 : Nat) (v : Option Value) (h : Heap) (L : List Loc) : Prop := v = some (.int (1 : Int32)) ∧ Fr n0 L ∧ h = h0
set_option maxRecDepth 65536 in
set_option maxHeartbeats 40000000 in
theorem rmEmp_0 (l : Launch) (Z : State) (a0 : Array Value) (hw : TW Z a0) (ws : List Jvm.Cond) (a1 : Addr) (t1 : Addr) (kb : ClassId) (zz : Int32) (vs : List Value) (h0 : Heap) (n0 : Nat) (Z0 : n0 ≤ h0.size) (F1 : Fld Z h0 a1 "java/lang/String" "value" "[B" (.ref t1)) (V2 : Arv Z h0 t1 kb .byte zz vs (.int (0 : Int32))) (hz : zz = (0 : Int32)) :
    MF l Z (⟨"java/lang/String", "isEmpty", "()Z"⟩ : MethodName) jdk_42_method_55_code 1 (some .boolean) ws (rmm 0 0 0 0) #[(.ref a1)] h0 (QEmp_0 Z a1 t1 kb zz vs h0 n0) := by
  refine MetFree.of_bodySF (plainFor_of_name pn_java_lang_String) hisR ?_
  intro p e s m args below meth c s₁ Bd hml0 hP hK
  obtain ⟨rfl, hZ, hh⟩ := hP
  have hx := Bd.exec
  have hby := Bd.bytes
  have hlk : meth.locks = false := Bd.notSynchronized
  have hml : c.maxLocals = 1 := hml0
  have hown : s.vm.findClass "java/lang/String" = some m.cls := findClass_of_methodNamed Bd.named
  have hnm := (name_of_methodNamed Bd.named Bd.method).1
  have X0 : Stand p l e (rmm 0 0 0 0) s m #[(.ref a1)] below meth c s₁ [] 0 0 := Stand.of_body Bd
  have e0 : s₁.heap = h0 := by rw [← hh, Bd.state]; rfl
  have N0 := Fr.nil n0
  show Go p e below (FinE s below (QEmp_0 Z a1 t1 kb zz vs h0 n0) (rmm 0 0 0 0).cells (rmm 0 0 0 0).slots) (s₁.setTop (entryFrame m #[(.ref a1)] 1))
  refine Go.via (fun t k => castTop (ef_rmEmp_0 m a1) k) ?_
  refine Go.via (fun _ => XS.aloadN X0.here hx rfl (hb hby d5_0) rfl rfl) ?_
  obtain ⟨T101, X101, e101, st101⟩ := getF X0 hx hZ hown (host := "") (Or.inl (ow hw 21 rfl)) Via.refl e0 F1 (g := (mkF m 1 #[rv a1] [(.ref a1)])) rfl rfl (hb hby d5_1)
  refine Go.via st101 ?_
  obtain ⟨cl102, Ar102, -, S102, N102n, -, -⟩ := id V2
  have al102 := X101.arraylength hx (by rw [e101]; exact Ar102.1) (State.isArrayOf_alike hZ.alike Ar102.2.1) (g := (mkF m 4 #[rv a1] [(.ref t1)])) rfl rfl (hb hby d5_4)
  rw [len_of S102 N102n] at al102
  refine Go.via al102 ?_
  refine Go.via (fun _ => XS.ifNo X101.here hx rfl (hb hby d5_5) rfl ((if0 _ _).trans (teq hz).2)) ?_
  refine Go.via (fun _ => XS.iconst X101.here hx rfl (hb hby d5_8)) ?_
  show Go p e below _ (T101.setTop (mkF m 9 #[rv a1] [(.int (1 : Int32))]))
  refine Go.via (fun _ => XS.goto X101.here hx rfl (pc0 := 9) (pc' := 13) rfl (hb hby d5_9) (by decide) (by decide)) ?_
  exact own_retN X101 hx hlk (t := .boolean) Bd.returns (by simp) (hb hby d5_13) (by show QEmp_0 Z a1 t1 kb zz vs h0 n0 _ T101.heap _; rw [e101]; exact ⟨rfl, N0, rfl⟩) (by decide) (by decide)
theorem ef_rmN_0_0 (m : MethodId) (x0 : Addr) (x1 : Int32) : entryFrame m #[(.ref x0), (.int x1)] 4 = mkF m 0 #[rv x0, iv x1, .unset, .unset] [] := by first | (simp [entryFrame, mkF, argsToLocals, Value.category]; done) | rfl
set_option maxRecDepth 65536 in
set_option maxHeartbeats 40000000 in
theorem rmN_0_0 (l : Launch) (Z : State) (a0 : Array Value) (hw : TW Z a0) (ws : List Jvm.Cond) (a1 : Addr) (t1 : Addr) (kb : ClassId) (lg : Int32) (ccs : Int32) (vF : Value) (h0 : Heap) (n0 : Nat) (Z0 : n0 ≤ h0.size) (E1 : Exa Z h0 a1 "java/lang/String") (F1 : Fld Z h0 a1 "java/lang/String" "value" "[B" (.ref t1)) (F2 : Fld Z h0 a1 "java/lang/String" "coder" "B" (.int (0 : Int32))) (V2 : Arv Z h0 t1 kb .byte (0 : Int32) [] (.int (0 : Int32))) (O0 : Old Z n0 h0) (G : SG Z ccs vF) :
    MF l Z (⟨"com/example/timed_cap/timedcap/model/Names", "isName", "(Ljava/lang/String;I)Z"⟩ : MethodName) prog_5_method_2_code 4 (some .boolean) ws (rmm 5 0 0 130) #[(.ref a1), (.int lg)] h0 (QN0 Z lg  h0 n0) := by
  refine MetFree.of_bodySF (plainFor_of_name pn_com_example_timed_cap_timedcap_model_Names) hisR ?_
  intro p e s m args below meth c s₁ Bd hml0 hP hK
  obtain ⟨rfl, hZ, hh⟩ := hP
  have hx := Bd.exec
  have hby := Bd.bytes
  have hlk : meth.locks = false := Bd.notSynchronized
  have hml : c.maxLocals = 4 := hml0
  have hown : s.vm.findClass "com/example/timed_cap/timedcap/model/Names" = some m.cls := findClass_of_methodNamed Bd.named
  have hnm := (name_of_methodNamed Bd.named Bd.method).1
  have rF := G.2.2.2.2.2.2
  have hcs := G.2.1
  have X0 : Stand p l e (rmm 5 0 0 130) s m #[(.ref a1), (.int lg)] below meth c s₁ [] 0 0 := Stand.of_body Bd
  have e0 : s₁.heap = h0 := by rw [← hh, Bd.state]; rfl
  have N0 := Fr.nil n0
  show Go p e below (FinE s below (QN0 Z lg  h0 n0) (rmm 5 0 0 130).cells (rmm 5 0 0 130).slots) (s₁.setTop (entryFrame m #[(.ref a1), (.int lg)] 4))
  refine Go.via (fun t k => castTop (ef_rmN_0_0 m a1 lg) k) ?_
  refine Go.via (fun _ => XS.aloadN X0.here hx rfl (hb hby d4_0) rfl rfl) ?_
  obtain ⟨cq101, kq101, q101a, q101b, q101c⟩ := isOf hZ e0 E1
  obtain ⟨_, _, ⟨T101, L101, k101, n101⟩, -, X101, ⟨Lc101, hQ101, l101, y101, z101⟩, st101⟩ := X0.virtualBack hx (y := (⟨"java/lang/String", "isEmpty", "()Z"⟩ : MethodName)) (z := (⟨"java/lang/String", "isEmpty", "()Z"⟩ : MethodName)) hown (mvT hZ (ow hw 27 rfl)) (mvT hZ (ow hw 28 rfl)) (notFace_of_selects (args := #[]) (mvT hZ (ow hw 30 rfl))) (mvT hZ (ow hw 30 rfl)) (mvT hZ (ow hw 29 rfl)) (by decide) (backOf (W := 0) (rmEmp_0 l Z a0 hw [] a1 t1 kb (0 : Int32) _ h0 n0 Z0 F1 V2 rfl) hZ (ow hw 31 rfl) (ow hw 4 rfl) (by decide) (by decide)) q101a q101c (g := (mkF m 1 #[rv a1, iv lg, .unset, .unset] [(.ref a1)])) rfl (by rw [hml]; rfl) (Steps.refl _) (argsL := []) (rest := []) (lenOf pd_0 rfl) rfl (by show 2 * 0 + _ ≤ _; exact Nat.le_of_eq rfl) (hb hby d4_1) (fun _ _ => ⟨rfl, e0, (by decide : 0 + 0 ≤ _), (by decide : 0 + 0 ≤ _)⟩)
  dsimp only [Pt.U, Pt.locs, Pt.cells, Pt.slots] at X101 l101 y101 z101 st101 hQ101
  rw [l101, y101, z101] at X101
  replace X101 : Stand p l e _ _ m _ below meth c T101 _ 0 0 := X101
  obtain ⟨rfl, N101q, e101q⟩ := hQ101
  have N101 := Fr.app N0 N101q
  refine Go.tr st101 ?_
  refine Go.via (fun _ => XS.ifYes X101.here hx rfl (pc0 := 4) (pc' := 15) rfl (hb hby d4_4) rfl (by decide) (by decide) (by decide)) ?_
  refine Go.via (fun _ => XS.iconst X101.here hx rfl (hb hby d4_15)) ?_
  exact own_retN X101 hx hlk (t := .boolean) Bd.returns (by simp) (hb hby d4_16) (by show QN0 Z lg  h0 n0 _ T101.heap _; rw [e101q]; exact ⟨rfl, N101, rfl⟩) (by decide) (by decide)
def Tx0 (Z : State) (h : Heap) (a1 : Addr) : Prop := ∃ (t : Addr) (kb : ClassId), Fld Z h a1 "java/lang/String" "value" "[B" (.ref t) ∧ Fld Z h a1 "java/lang/String" "coder" "B" (.int (0 : Int32)) ∧ Arv Z h t kb .byte (0 : Int32) [] (.int (0 : Int32))
def QTx0 (Z : State) (a1 : Addr) (h0 : Heap) (n0 : Nat) (v : Option Value) (h : Heap) (L : List Loc) : Prop := v = none ∧ Fr n0 L ∧ Keep h0 h [a1] ∧ Tx0 Z h a1 
theorem rmN_0 (l : Launch) (Z : State) (a0 : Array Value) (hw : TW Z a0) (ws : List Jvm.Cond) (a1 : Addr) (lg : Int32) (ccs : Int32) (vF : Value) (h0 : Heap) (n0 : Nat) (Z0 : n0 ≤ h0.size) (E1 : Exa Z h0 a1 "java/lang/String") (tx : Tx0 Z h0 a1 ) (O0 : Old Z n0 h0) (G : SG Z ccs vF) :
    MF l Z (⟨"com/example/timed_cap/timedcap/model/Names", "isName", "(Ljava/lang/String;I)Z"⟩ : MethodName) prog_5_method_2_code 4 (some .boolean) ws (rmm 5 0 0 130) #[(.ref a1), (.int lg)] h0 (QN0 Z lg  h0 n0) := by
  obtain ⟨t, kb, f1, f2, v2⟩ := tx
  exact rmN_0_0 l Z a0 hw ws a1 t kb  lg ccs vF h0 n0 Z0 E1 f1 f2 v2   O0 G
def QN1 (Z : State) (lg : Int32) (c0 : Int32) (h0 : Heap) (n0 : Nat) (v : Option Value) (h : Heap) (L : List Loc) : Prop := v = some (.int (nm1 lg c0)) ∧ Fr n0 L ∧ h = h0
theorem ef_rmEmp_1 (m : MethodId) (x0 : Addr) : entryFrame m #[(.ref x0)] 1 = mkF m 0 #[rv x0] [] := by first | (simp [entryFrame, mkF, argsToLocals, Value.category]; done) | rfl
def QEmp_1 (Z : State) (a1 : Addr) (t1 : Addr) (kb : ClassId) (zz : Int32) (vs : List Value) (h0 : Heap) (n0 : Nat) (v : Option Value) (h : Heap) (L : List Loc) : Prop := v = some (.int (0 : Int32)) ∧ Fr n0 L ∧ h = h0
set_option maxRecDepth 65536 in
set_option maxHeartbeats 40000000 in
theorem rmEmp_1 (l : Launch) (Z : State) (a0 : Array Value) (hw : TW Z a0) (ws : List Jvm.Cond) (a1 : Addr) (t1 : Addr) (kb : ClassId) (zz : Int32) (vs : List Value) (h0 : Heap) (n0 : Nat) (Z0 : n0 ≤ h0.size) (F1 : Fld Z h0 a1 "java/lang/String" "value" "[B" (.ref t1)) (V2 : Arv Z h0 t1 kb .byte zz vs (.int (0 : Int32))) (hz : ¬ (zz = (0 : Int32))) :
    MF l Z (⟨"java/lang/String", "isEmpty", "()Z"⟩ : MethodName) jdk_42_method_55_code 1 (some .boolean) ws (rmm 0 0 0 0) #[(.ref a1)] h0 (QEmp_1 Z a1 t1 kb zz vs h0 n0) := by
  refine MetFree.of_bodySF (plainFor_of_name pn_java_lang_String) hisR ?_
  intro p e s m args below meth c s₁ Bd hml0 hP hK
  obtain ⟨rfl, hZ, hh⟩ := hP
  have hx := Bd.exec
  have hby := Bd.bytes
  have hlk : meth.locks = false := Bd.notSynchronized
  have hml : c.maxLocals = 1 := hml0
  have hown : s.vm.findClass "java/lang/String" = some m.cls := findClass_of_methodNamed Bd.named
  have hnm := (name_of_methodNamed Bd.named Bd.method).1
  have X0 : Stand p l e (rmm 0 0 0 0) s m #[(.ref a1)] below meth c s₁ [] 0 0 := Stand.of_body Bd
  have e0 : s₁.heap = h0 := by rw [← hh, Bd.state]; rfl
  have N0 := Fr.nil n0
  show Go p e below (FinE s below (QEmp_1 Z a1 t1 kb zz vs h0 n0) (rmm 0 0 0 0).cells (rmm 0 0 0 0).slots) (s₁.setTop (entryFrame m #[(.ref a1)] 1))
  refine Go.via (fun t k => castTop (ef_rmEmp_1 m a1) k) ?_
  refine Go.via (fun _ => XS.aloadN X0.here hx rfl (hb hby d5_0) rfl rfl) ?_
  obtain ⟨T101, X101, e101, st101⟩ := getF X0 hx hZ hown (host := "") (Or.inl (ow hw 21 rfl)) Via.refl e0 F1 (g := (mkF m 1 #[rv a1] [(.ref a1)])) rfl rfl (hb hby d5_1)
  refine Go.via st101 ?_
  obtain ⟨cl102, Ar102, -, S102, N102n, -, -⟩ := id V2
  have al102 := X101.arraylength hx (by rw [e101]; exact Ar102.1) (State.isArrayOf_alike hZ.alike Ar102.2.1) (g := (mkF m 4 #[rv a1] [(.ref t1)])) rfl rfl (hb hby d5_4)
  rw [len_of S102 N102n] at al102
  refine Go.via al102 ?_
  refine Go.via (fun _ => XS.ifYes X101.here hx rfl (pc0 := 5) (pc' := 12) rfl (hb hby d5_5) rfl ((if0 _ _).trans (feq hz).2) (by decide) (by decide)) ?_
  refine Go.via (fun _ => XS.iconst X101.here hx rfl (hb hby d5_12)) ?_
  show Go p e below _ (T101.setTop (mkF m 13 #[rv a1] [(.int (0 : Int32))]))
  exact own_retN X101 hx hlk (t := .boolean) Bd.returns (by simp) (hb hby d5_13) (by show QEmp_1 Z a1 t1 kb zz vs h0 n0 _ T101.heap _; rw [e101]; exact ⟨rfl, N0, rfl⟩) (by decide) (by decide)
theorem ef_rmPC (m : MethodId) (x0 : Int32) (x1 : Int32) (x2 : Value) (hx2 : x2.isRef = true) : entryFrame m #[(.int x0), (.int x1), x2] 3 = mkF m 0 #[iv x0, iv x1, .val x2] [] := by cases x2 <;> first | rfl | cases hx2
def QPC (Z : State) (ii : Int32) (nn : Int32) (vF : Value) (h0 : Heap) (n0 : Nat) (v : Option Value) (h : Heap) (L : List Loc) : Prop := v = some (.int ii) ∧ Fr n0 L ∧ h = h0
set_option maxRecDepth 65536 in
set_option maxHeartbeats 40000000 in
theorem rmPC (l : Launch) (Z : State) (a0 : Array Value) (hw : TW Z a0) (ws : List Jvm.Cond) (ii : Int32) (nn : Int32) (vF : Value) (h0 : Heap) (n0 : Nat) (Z0 : n0 ≤ h0.size) (rF : vF.isRef = true) (hi0 : ¬ (ii < (0 : Int32))) (hi1 : ii < nn) :
    MF l Z (⟨"jdk/internal/util/Preconditions", "checkIndex", "(IILjava/util/function/BiFunction;)I"⟩ : MethodName) jdk_41_method_11_code 3 (some .int) ws (rmm 0 0 0 0) #[(.int ii), (.int nn), vF] h0 (QPC Z ii nn vF h0 n0) := by
  refine MetFree.of_bodySF (plainFor_of_name pn_jdk_internal_util_Preconditions) hisR ?_
  intro p e s m args below meth c s₁ Bd hml0 hP hK
  obtain ⟨rfl, hZ, hh⟩ := hP
  have hx := Bd.exec
  have hby := Bd.bytes
  have hlk : meth.locks = false := Bd.notSynchronized
  have hml : c.maxLocals = 3 := hml0
  have hown : s.vm.findClass "jdk/internal/util/Preconditions" = some m.cls := findClass_of_methodNamed Bd.named
  have hnm := (name_of_methodNamed Bd.named Bd.method).1
  have X0 : Stand p l e (rmm 0 0 0 0) s m #[(.int ii), (.int nn), vF] below meth c s₁ [] 0 0 := Stand.of_body Bd
  have e0 : s₁.heap = h0 := by rw [← hh, Bd.state]; rfl
  have N0 := Fr.nil n0
  show Go p e below (FinE s below (QPC Z ii nn vF h0 n0) (rmm 0 0 0 0).cells (rmm 0 0 0 0).slots) (s₁.setTop (entryFrame m #[(.int ii), (.int nn), vF] 3))
  refine Go.via (fun t k => castTop (ef_rmPC m ii nn vF rF) k) ?_
  refine Go.via (fun _ => XS.iloadN X0.here hx rfl (hb hby d16_0) rfl) ?_
  refine Go.via (fun _ => XS.ifNo X0.here hx rfl (hb hby d16_1) rfl ((if0 _ _).trans (flt hi0).1)) ?_
  refine Go.via (fun _ => XS.iloadN X0.here hx rfl (hb hby d16_4) rfl) ?_
  refine Go.via (fun _ => XS.iloadN X0.here hx rfl (hb hby d16_5) rfl) ?_
  refine Go.via (fun _ => XS.icmpYes X0.here hx rfl (pc0 := 6) (pc' := 16) rfl (hb hby d16_6) rfl (tlt hi1).1 (by decide) (by decide)) ?_
  show Go p e below _ (s₁.setTop (mkF m 16 #[iv ii, iv nn, .val vF] []))
  refine Go.via (fun _ => XS.iloadN X0.here hx rfl (hb hby d16_16) rfl) ?_
  exact own_retI X0 hx hlk Bd.returns (hb hby d16_17) (by show QPC Z ii nn vF h0 n0 _ s₁.heap _; rw [e0]; exact ⟨rfl, N0, rfl⟩) (by decide) (by decide)
theorem ef_rmSC (m : MethodId) (x0 : Int32) (x1 : Int32) : entryFrame m #[(.int x0), (.int x1)] 2 = mkF m 0 #[iv x0, iv x1] [] := by first | (simp [entryFrame, mkF, argsToLocals, Value.category]; done) | rfl
def QSC (Z : State) (ii : Int32) (nn : Int32) (ccs : Int32) (vF : Value) (h0 : Heap) (n0 : Nat) (v : Option Value) (h : Heap) (L : List Loc) : Prop := v = none ∧ Fr n0 L ∧ h = h0
set_option maxRecDepth 65536 in
set_option maxHeartbeats 40000000 in
theorem rmSC (l : Launch) (Z : State) (a0 : Array Value) (hw : TW Z a0) (ws : List Jvm.Cond) (ii : Int32) (nn : Int32) (ccs : Int32) (vF : Value) (h0 : Heap) (n0 : Nat) (Z0 : n0 ≤ h0.size) (hi0 : ¬ (ii < (0 : Int32))) (hi1 : ii < nn) (O0 : Old Z n0 h0) (G : SG Z ccs vF) :
    MF l Z (⟨"java/lang/String", "checkIndex", "(II)V"⟩ : MethodName) jdk_42_method_155_code 2 none ws (rmm 1 0 0 14) #[(.int ii), (.int nn)] h0 (QSC Z ii nn ccs vF h0 n0) := by
  refine MetFree.of_bodySF (plainFor_of_name pn_java_lang_String) hisR ?_
  intro p e s m args below meth c s₁ Bd hml0 hP hK
  obtain ⟨rfl, hZ, hh⟩ := hP
  have hx := Bd.exec
  have hby := Bd.bytes
  have hlk : meth.locks = false := Bd.notSynchronized
  have hml : c.maxLocals = 2 := hml0
  have hown : s.vm.findClass "java/lang/String" = some m.cls := findClass_of_methodNamed Bd.named
  have hnm := (name_of_methodNamed Bd.named Bd.method).1
  have rF := G.2.2.2.2.2.2
  have hcs := G.2.1
  have X0 : Stand p l e (rmm 1 0 0 14) s m #[(.int ii), (.int nn)] below meth c s₁ [] 0 0 := Stand.of_body Bd
  have e0 : s₁.heap = h0 := by rw [← hh, Bd.state]; rfl
  have N0 := Fr.nil n0
  show Go p e below (FinE s below (QSC Z ii nn ccs vF h0 n0) (rmm 1 0 0 14).cells (rmm 1 0 0 14).slots) (s₁.setTop (entryFrame m #[(.int ii), (.int nn)] 2))
  refine Go.via (fun t k => castTop (ef_rmSC m ii nn) k) ?_
  refine Go.via (fun _ => XS.iloadN X0.here hx rfl (hb hby d15_0) rfl) ?_
  refine Go.via (fun _ => XS.iloadN X0.here hx rfl (hb hby d15_1) rfl) ?_
  obtain ⟨T101, X101, e101, st101⟩ := getS2 X0 hx hZ hown (host := "") (Or.inl (ow hw 74 rfl)) Via.refl e0 (G.2.2.2.2.2.1.ext O0.2) (g := (mkF m 2 #[iv ii, iv nn] [(.int nn), (.int ii)])) rfl (hb hby d15_2)
  refine Go.via st101 ?_
  obtain ⟨_, _, ⟨T102, L102, k102, n102⟩, -, X102, ⟨Lc102, hQ102, l102, y102, z102⟩, st102⟩ := Jvm.LawKit.callS X101 hx (y := (⟨"jdk/internal/util/Preconditions", "checkIndex", "(IILjava/util/function/BiFunction;)I"⟩ : MethodName)) hown (mvT hZ (ow hw 76 rfl)) (mvT hZ (ow hw 77 rfl)) (mvT hZ (ow hw 75 rfl)) (mvT hZ (ow hw 78 rfl)) (by decide) (backOf (W := 0) (rmPC l Z a0 hw [] ii nn vF h0 n0 Z0 rF hi0 hi1) hZ (ow hw 78 rfl) (ow hw 75 rfl) (by decide) (by decide)) (g := (mkF m 5 #[iv ii, iv nn] [vF, (.int nn), (.int ii)])) rfl (by rw [hml]; rfl) (argsL := [(.int ii), (.int nn), vF]) (rest := []) (lenOf pd_1 rfl) rfl (by show 2 * 0 + _ ≤ _; exact Nat.le_of_eq rfl) (hb hby d15_5) (fun _ _ => ⟨rfl, e101, (by decide : 0 + 0 ≤ _), (by decide : 0 + 0 ≤ _)⟩)
  dsimp only [Pt.U, Pt.locs, Pt.cells, Pt.slots] at X102 l102 y102 z102 st102 hQ102
  rw [l102, y102, z102] at X102
  replace X102 : Stand p l e _ _ m _ below meth c T102 _ 0 0 := X102
  obtain ⟨rfl, N102q, e102q⟩ := hQ102
  have N102 := Fr.app N0 N102q
  refine Go.via st102 ?_
  refine Go.via (fun _ => XS.pop X102.here hx rfl (hb hby d15_8) rfl rfl) ?_
  show Go p e below _ (T102.setTop (mkF m 9 #[iv ii, iv nn] []))
  exact own_retV X102 hx hlk Bd.returns (hb hby d15_9) (by show QSC Z ii nn ccs vF h0 n0 _ T102.heap _; rw [e102q]; exact ⟨rfl, N102, rfl⟩) (by decide) (by decide)
theorem ef_rmLA (m : MethodId) (x0 : Addr) (x1 : Int32) : entryFrame m #[(.ref x0), (.int x1)] 2 = mkF m 0 #[rv x0, iv x1] [] := by first | (simp [entryFrame, mkF, argsToLocals, Value.category]; done) | rfl
def QLA (Z : State) (t1 : Addr) (kb : ClassId) (zz : Int32) (vs : List Value) (ii : Int32) (ch : Int32) (ccs : Int32) (vF : Value) (h0 : Heap) (n0 : Nat) (v : Option Value) (h : Heap) (L : List Loc) : Prop := v = some (.int ch) ∧ Fr n0 L ∧ h = h0
set_option maxRecDepth 65536 in
set_option maxHeartbeats 40000000 in
theorem rmLA (l : Launch) (Z : State) (a0 : Array Value) (hw : TW Z a0) (ws : List Jvm.Cond) (t1 : Addr) (kb : ClassId) (zz : Int32) (vs : List Value) (ii : Int32) (ch : Int32) (ccs : Int32) (vF : Value) (h0 : Heap) (n0 : Nat) (Z0 : n0 ≤ h0.size) (V2 : Arv Z h0 t1 kb .byte zz vs (.int (0 : Int32))) (hi0 : ¬ (ii < (0 : Int32))) (hi1 : ii < zz) (hat : vs.getD ii.toNatClampNeg (.int (0 : Int32)) = .int (nar .byte (ch.toInt8.toInt32))) (hu : nar .char (((nar .byte (ch.toInt8.toInt32)) &&& (255 : Int32)).toUInt32.toUInt16.toUInt32.toInt32) = ch) (hn : nar .char ch = ch) (O0 : Old Z n0 h0) (G : SG Z ccs vF) :
    MF l Z (⟨"java/lang/StringLatin1", "charAt", "([BI)C"⟩ : MethodName) jdk_43_method_2_code 2 (some .char) ws (rmm 2 0 0 27) #[(.ref t1), (.int ii)] h0 (QLA Z t1 kb zz vs ii ch ccs vF h0 n0) := by
  refine MetFree.of_bodySF (plainFor_of_name pn_java_lang_StringLatin1) hisR ?_
  intro p e s m args below meth c s₁ Bd hml0 hP hK
  obtain ⟨rfl, hZ, hh⟩ := hP
  have hx := Bd.exec
  have hby := Bd.bytes
  have hlk : meth.locks = false := Bd.notSynchronized
  have hml : c.maxLocals = 2 := hml0
  have hown : s.vm.findClass "java/lang/StringLatin1" = some m.cls := findClass_of_methodNamed Bd.named
  have hnm := (name_of_methodNamed Bd.named Bd.method).1
  have rF := G.2.2.2.2.2.2
  have hcs := G.2.1
  have X0 : Stand p l e (rmm 2 0 0 27) s m #[(.ref t1), (.int ii)] below meth c s₁ [] 0 0 := Stand.of_body Bd
  have e0 : s₁.heap = h0 := by rw [← hh, Bd.state]; rfl
  have N0 := Fr.nil n0
  show Go p e below (FinE s below (QLA Z t1 kb zz vs ii ch ccs vF h0 n0) (rmm 2 0 0 27).cells (rmm 2 0 0 27).slots) (s₁.setTop (entryFrame m #[(.ref t1), (.int ii)] 2))
  refine Go.via (fun t k => castTop (ef_rmLA m t1 ii) k) ?_
  refine Go.via (fun _ => XS.iloadN X0.here hx rfl (hb hby d14_0) rfl) ?_
  refine Go.via (fun _ => XS.aloadN X0.here hx rfl (hb hby d14_1) rfl rfl) ?_
  obtain ⟨cl101, Ar101, -, S101, N101n, -, -⟩ := id V2
  have al101 := X0.arraylength hx (by rw [e0]; exact Ar101.1) (State.isArrayOf_alike hZ.alike Ar101.2.1) (g := (mkF m 2 #[rv t1, iv ii] [(.ref t1), (.int ii)])) rfl rfl (hb hby d14_2)
  rw [len_of S101 N101n] at al101
  refine Go.via al101 ?_
  obtain ⟨_, _, ⟨T102, L102, k102, n102⟩, -, X102, ⟨Lc102, hQ102, l102, y102, z102⟩, st102⟩ := Jvm.LawKit.callS X0 hx (y := (⟨"java/lang/String", "checkIndex", "(II)V"⟩ : MethodName)) hown (mvT hZ (ow hw 71 rfl)) (mvT hZ (ow hw 72 rfl)) (mvT hZ (ow hw 4 rfl)) (mvT hZ (ow hw 73 rfl)) (by decide) (backOf (W := 0) (rmSC l Z a0 hw [] ii zz ccs vF h0 n0 Z0 hi0 hi1 O0 G) hZ (ow hw 73 rfl) (ow hw 4 rfl) (by decide) (by decide)) (g := (mkF m 3 #[rv t1, iv ii] [(.int zz), (.int ii)])) rfl (by rw [hml]; rfl) (argsL := [(.int ii), (.int zz)]) (rest := []) (lenOf pd_2 rfl) rfl (by show 2 * 0 + _ ≤ _; exact Nat.le_of_eq rfl) (hb hby d14_3) (fun _ _ => ⟨rfl, e0, (by decide : 0 + 0 ≤ _), (by decide : 0 + 0 ≤ _)⟩)
  dsimp only [Pt.U, Pt.locs, Pt.cells, Pt.slots] at X102 l102 y102 z102 st102 hQ102
  rw [l102, y102, z102] at X102
  replace X102 : Stand p l e _ _ m _ below meth c T102 _ 0 0 := X102
  obtain ⟨rfl, N102q, e102q⟩ := hQ102
  have N102 := Fr.app N0 N102q
  refine Go.via st102 ?_
  refine Go.via (fun _ => XS.aloadN X102.here hx rfl (hb hby d14_6) rfl rfl) ?_
  show Go p e below _ (T102.setTop (mkF m 7 #[rv t1, iv ii] [(.ref t1)]))
  refine Go.via (fun _ => XS.iloadN X102.here hx rfl (hb hby d14_7) rfl) ?_
  obtain ⟨cl103, Ar103, q103, S103, N103n, H103, G103⟩ := id V2
  have hin103 := inb_of (j := ii) S103 ⟨hi0, hi1⟩
  have hat103 : cl103.slots[(ii : Int32).toNatClampNeg]? = some (.int (nar .byte (ch.toInt8.toInt32))) := H103.at hin103 hat
  refine Go.via (X102.baloadBytes hx (j := ii) (v := (.int (nar .byte (ch.toInt8.toInt32)))) (by rw [e102q]; exact Ar103.1) (State.isArrayOf_alike hZ.alike Ar103.2.1) Ar103.2.2 hin103 hat103 (g := (mkF m 8 #[rv t1, iv ii] [(.int ii), (.ref t1)])) rfl rfl (hb hby d14_8)) ?_
  refine Go.via (fun _ => XS.sipush X102.here hx rfl (hb hby d14_9)) ?_
  refine Go.via (fun _ => XS.iand X102.here hx rfl (hb hby d14_12) rfl) ?_
  refine Go.via (fun _ => XS.i2c X102.here hx rfl (hb hby d14_13) rfl) ?_
  exact own_retN X102 hx hlk (t := .char) Bd.returns (by simp) (hb hby d14_14) (by show QLA Z t1 kb zz vs ii ch ccs vF h0 n0 _ T102.heap _; rw [e102q]; exact ⟨congrArg (fun z => some (Value.int z)) hu, N102, rfl⟩) (by decide) (by decide)
theorem ef_rmIsLat (m : MethodId) (x0 : Addr) : entryFrame m #[(.ref x0)] 1 = mkF m 0 #[rv x0] [] := by first | (simp [entryFrame, mkF, argsToLocals, Value.category]; done) | rfl
def QIsLat (Z : State) (a1 : Addr) (ccs : Int32) (vF : Value) (h0 : Heap) (n0 : Nat) (v : Option Value) (h : Heap) (L : List Loc) : Prop := v = some (.int (1 : Int32)) ∧ Fr n0 L ∧ h = h0
set_option maxRecDepth 65536 in
set_option maxHeartbeats 40000000 in
theorem rmIsLat (l : Launch) (Z : State) (a0 : Array Value) (hw : TW Z a0) (ws : List Jvm.Cond) (a1 : Addr) (ccs : Int32) (vF : Value) (h0 : Heap) (n0 : Nat) (Z0 : n0 ≤ h0.size) (F2 : Fld Z h0 a1 "java/lang/String" "coder" "B" (.int (0 : Int32))) (O0 : Old Z n0 h0) (G : SG Z ccs vF) :
    MF l Z (⟨"java/lang/String", "isLatin1", "()Z"⟩ : MethodName) jdk_42_method_154_code 1 (some .boolean) ws (rmm 0 0 0 0) #[(.ref a1)] h0 (QIsLat Z a1 ccs vF h0 n0) := by
  refine MetFree.of_bodySF (plainFor_of_name pn_java_lang_String) hisR ?_
  intro p e s m args below meth c s₁ Bd hml0 hP hK
  obtain ⟨rfl, hZ, hh⟩ := hP
  have hx := Bd.exec
  have hby := Bd.bytes
  have hlk : meth.locks = false := Bd.notSynchronized
  have hml : c.maxLocals = 1 := hml0
  have hown : s.vm.findClass "java/lang/String" = some m.cls := findClass_of_methodNamed Bd.named
  have hnm := (name_of_methodNamed Bd.named Bd.method).1
  have rF := G.2.2.2.2.2.2
  have hcs := G.2.1
  have X0 : Stand p l e (rmm 0 0 0 0) s m #[(.ref a1)] below meth c s₁ [] 0 0 := Stand.of_body Bd
  have e0 : s₁.heap = h0 := by rw [← hh, Bd.state]; rfl
  have N0 := Fr.nil n0
  show Go p e below (FinE s below (QIsLat Z a1 ccs vF h0 n0) (rmm 0 0 0 0).cells (rmm 0 0 0 0).slots) (s₁.setTop (entryFrame m #[(.ref a1)] 1))
  refine Go.via (fun t k => castTop (ef_rmIsLat m a1) k) ?_
  obtain ⟨T101, X101, e101, st101⟩ := getS2 X0 hx hZ hown (host := "") (Or.inl (ow hw 32 rfl)) Via.refl e0 (G.1.ext O0.2) (g := (mkF m 0 #[rv a1] [])) rfl (hb hby d13_0)
  refine Go.via st101 ?_
  refine Go.via (fun _ => XS.ifNo X101.here hx rfl (hb hby d13_3) rfl ((if0 _ _).trans (feq hcs).1)) ?_
  refine Go.via (fun _ => XS.aloadN X101.here hx rfl (hb hby d13_6) rfl rfl) ?_
  obtain ⟨T102, X102, e102, st102⟩ := getF X101 hx hZ hown (host := "") (Or.inl (ow hw 22 rfl)) Via.refl e101 F2 (g := (mkF m 7 #[rv a1] [(.ref a1)])) rfl rfl (hb hby d13_7)
  refine Go.via st102 ?_
  refine Go.via (fun _ => XS.ifNo X102.here hx rfl (hb hby d13_10) rfl (by decide)) ?_
  show Go p e below _ (T102.setTop (mkF m 13 #[rv a1] []))
  refine Go.via (fun _ => XS.iconst X102.here hx rfl (hb hby d13_13)) ?_
  refine Go.via (fun _ => XS.goto X102.here hx rfl (pc0 := 14) (pc' := 18) rfl (hb hby d13_14) (by decide) (by decide)) ?_
  exact own_retN X102 hx hlk (t := .boolean) Bd.returns (by simp) (hb hby d13_18) (by show QIsLat Z a1 ccs vF h0 n0 _ T102.heap _; rw [e102]; exact ⟨rfl, N0, rfl⟩) (by decide) (by decide)
theorem ef_rmCA_0 (m : MethodId) (x0 : Addr) (x1 : Int32) : entryFrame m #[(.ref x0), (.int x1)] 2 = mkF m 0 #[rv x0, iv x1] [] := by first | (simp [entryFrame, mkF, argsToLocals, Value.category]; done) | rfl
def QCA_0 (Z : State) (a1 : Addr) (t1 : Addr) (kb : ClassId) (zz : Int32) (vs : List Value) (ii : Int32) (ch : Int32) (ccs : Int32) (vF : Value) (h0 : Heap) (n0 : Nat) (v : Option Value) (h : Heap) (L : List Loc) : Prop := v = some (.int ch) ∧ Fr n0 L ∧ h = h0
set_option maxRecDepth 65536 in
set_option maxHeartbeats 40000000 in
theorem rmCA_0 (l : Launch) (Z : State) (a0 : Array Value) (hw : TW Z a0) (ws : List Jvm.Cond) (a1 : Addr) (t1 : Addr) (kb : ClassId) (zz : Int32) (vs : List Value) (ii : Int32) (ch : Int32) (ccs : Int32) (vF : Value) (h0 : Heap) (n0 : Nat) (Z0 : n0 ≤ h0.size) (E1 : Exa Z h0 a1 "java/lang/String") (F1 : Fld Z h0 a1 "java/lang/String" "value" "[B" (.ref t1)) (F2 : Fld Z h0 a1 "java/lang/String" "coder" "B" (.int (0 : Int32))) (V2 : Arv Z h0 t1 kb .byte zz vs (.int (0 : Int32))) (hi0 : ¬ (ii < (0 : Int32))) (hi1 : ii < zz) (hat : vs.getD ii.toNatClampNeg (.int (0 : Int32)) = .int (nar .byte (ch.toInt8.toInt32))) (hu : nar .char (((nar .byte (ch.toInt8.toInt32)) &&& (255 : Int32)).toUInt32.toUInt16.toUInt32.toInt32) = ch) (hn : nar .char ch = ch) (O0 : Old Z n0 h0) (G : SG Z ccs vF) :
    MF l Z (⟨"java/lang/String", "charAt", "(I)C"⟩ : MethodName) jdk_42_method_56_code 2 (some .char) ws (rmm 3 0 0 40) #[(.ref a1), (.int ii)] h0 (QCA_0 Z a1 t1 kb zz vs ii ch ccs vF h0 n0) := by
  refine MetFree.of_bodySF (plainFor_of_name pn_java_lang_String) hisR ?_
  intro p e s m args below meth c s₁ Bd hml0 hP hK
  obtain ⟨rfl, hZ, hh⟩ := hP
  have hx := Bd.exec
  have hby := Bd.bytes
  have hlk : meth.locks = false := Bd.notSynchronized
  have hml : c.maxLocals = 2 := hml0
  have hown : s.vm.findClass "java/lang/String" = some m.cls := findClass_of_methodNamed Bd.named
  have hnm := (name_of_methodNamed Bd.named Bd.method).1
  have rF := G.2.2.2.2.2.2
  have hcs := G.2.1
  have X0 : Stand p l e (rmm 3 0 0 40) s m #[(.ref a1), (.int ii)] below meth c s₁ [] 0 0 := Stand.of_body Bd
  have e0 : s₁.heap = h0 := by rw [← hh, Bd.state]; rfl
  have N0 := Fr.nil n0
  show Go p e below (FinE s below (QCA_0 Z a1 t1 kb zz vs ii ch ccs vF h0 n0) (rmm 3 0 0 40).cells (rmm 3 0 0 40).slots) (s₁.setTop (entryFrame m #[(.ref a1), (.int ii)] 2))
  refine Go.via (fun t k => castTop (ef_rmCA_0 m a1 ii) k) ?_
  refine Go.via (fun _ => XS.aloadN X0.here hx rfl (hb hby d12_0) rfl rfl) ?_
  obtain ⟨cq101, kq101, q101a, q101b, q101c⟩ := isOf hZ e0 E1
  obtain ⟨_, _, ⟨T101, L101, k101, n101⟩, -, X101, ⟨Lc101, hQ101, l101, y101, z101⟩, st101⟩ := X0.virtualBack hx (y := (⟨"java/lang/String", "isLatin1", "()Z"⟩ : MethodName)) (z := (⟨"java/lang/String", "isLatin1", "()Z"⟩ : MethodName)) hown (mvT hZ (ow hw 62 rfl)) (mvT hZ (ow hw 63 rfl)) (notFace_of_selects (args := #[]) (mvT hZ (ow hw 65 rfl))) (mvT hZ (ow hw 65 rfl)) (mvT hZ (ow hw 64 rfl)) (by decide) (backOf (W := 0) (rmIsLat l Z a0 hw [] a1 ccs vF h0 n0 Z0 F2 O0 G) hZ (ow hw 66 rfl) (ow hw 4 rfl) (by decide) (by decide)) q101a q101c (g := (mkF m 1 #[rv a1, iv ii] [(.ref a1)])) rfl (by rw [hml]; rfl) (Steps.refl _) (argsL := []) (rest := []) (lenOf pd_0 rfl) rfl (by show 2 * 0 + _ ≤ _; exact Nat.le_of_eq rfl) (hb hby d12_1) (fun _ _ => ⟨rfl, e0, (by decide : 0 + 0 ≤ _), (by decide : 0 + 0 ≤ _)⟩)
  dsimp only [Pt.U, Pt.locs, Pt.cells, Pt.slots] at X101 l101 y101 z101 st101 hQ101
  rw [l101, y101, z101] at X101
  replace X101 : Stand p l e _ _ m _ below meth c T101 _ 0 0 := X101
  obtain ⟨rfl, N101q, e101q⟩ := hQ101
  have N101 := Fr.app N0 N101q
  refine Go.tr st101 ?_
  refine Go.via (fun _ => XS.ifNo X101.here hx rfl (hb hby d12_4) rfl (by decide)) ?_
  refine Go.via (fun _ => XS.aloadN X101.here hx rfl (hb hby d12_7) rfl rfl) ?_
  obtain ⟨T102, X102, e102, st102⟩ := getF X101 hx hZ hown (host := "") (Or.inl (ow hw 21 rfl)) Via.refl e101q F1 (g := (mkF m 8 #[rv a1, iv ii] [(.ref a1)])) rfl rfl (hb hby d12_8)
  refine Go.via st102 ?_
  show Go p e below _ (T102.setTop (mkF m 11 #[rv a1, iv ii] [(.ref t1)]))
  refine Go.via (fun _ => XS.iloadN X102.here hx rfl (hb hby d12_11) rfl) ?_
  obtain ⟨_, _, ⟨T103, L103, k103, n103⟩, -, X103, ⟨Lc103, hQ103, l103, y103, z103⟩, st103⟩ := Jvm.LawKit.callS X102 hx (y := (⟨"java/lang/StringLatin1", "charAt", "([BI)C"⟩ : MethodName)) hown (mvT hZ (ow hw 67 rfl)) (mvT hZ (ow hw 68 rfl)) (mvT hZ (ow hw 69 rfl)) (mvT hZ (ow hw 70 rfl)) (by decide) (backOf (W := 0) (rmLA l Z a0 hw [] t1 kb zz vs ii ch ccs vF h0 n0 Z0 V2 hi0 hi1 hat hu hn O0 G) hZ (ow hw 70 rfl) (ow hw 69 rfl) (by decide) (by decide)) (g := (mkF m 12 #[rv a1, iv ii] [(.int ii), (.ref t1)])) rfl (by rw [hml]; rfl) (argsL := [(.ref t1), (.int ii)]) (rest := []) (lenOf pd_3 rfl) rfl (by show 2 * 0 + _ ≤ _; exact Nat.le_of_eq rfl) (hb hby d12_12) (fun _ _ => ⟨rfl, e102, (by decide : 0 + 0 ≤ _), (by decide : 0 + 0 ≤ _)⟩)
  dsimp only [Pt.U, Pt.locs, Pt.cells, Pt.slots] at X103 l103 y103 z103 st103 hQ103
  rw [l103, y103, z103] at X103
  replace X103 : Stand p l e _ _ m _ below meth c T103 _ 0 0 := X103
  obtain ⟨rfl, N103q, e103q⟩ := hQ103
  have N103 := Fr.app N101 N103q
  refine Go.via st103 ?_
  exact own_retN X103 hx hlk (t := .char) Bd.returns (by simp) (hb hby d12_15) (by show QCA_0 Z a1 t1 kb zz vs ii ch ccs vF h0 n0 _ T103.heap _; rw [e103q]; exact ⟨congrArg (fun z => some (Value.int z)) hn, N103, rfl⟩) (by decide) (by decide)
theorem ef_rmCoder (m : MethodId) (x0 : Addr) : entryFrame m #[(.ref x0)] 1 = mkF m 0 #[rv x0] [] := by first | (simp [entryFrame, mkF, argsToLocals, Value.category]; done) | rfl
def QCoder (Z : State) (a1 : Addr) (ccs : Int32) (vF : Value) (h0 : Heap) (n0 : Nat) (v : Option Value) (h : Heap) (L : List Loc) : Prop := v = some (.int (0 : Int32)) ∧ Fr n0 L ∧ h = h0
set_option maxRecDepth 65536 in
set_option maxHeartbeats 40000000 in
theorem rmCoder (l : Launch) (Z : State) (a0 : Array Value) (hw : TW Z a0) (ws : List Jvm.Cond) (a1 : Addr) (ccs : Int32) (vF : Value) (h0 : Heap) (n0 : Nat) (Z0 : n0 ≤ h0.size) (F2 : Fld Z h0 a1 "java/lang/String" "coder" "B" (.int (0 : Int32))) (O0 : Old Z n0 h0) (G : SG Z ccs vF) :
    MF l Z (⟨"java/lang/String", "coder", "()B"⟩ : MethodName) jdk_42_method_152_code 1 (some .byte) ws (rmm 0 0 0 0) #[(.ref a1)] h0 (QCoder Z a1 ccs vF h0 n0) := by
  refine MetFree.of_bodySF (plainFor_of_name pn_java_lang_String) hisR ?_
  intro p e s m args below meth c s₁ Bd hml0 hP hK
  obtain ⟨rfl, hZ, hh⟩ := hP
  have hx := Bd.exec
  have hby := Bd.bytes
  have hlk : meth.locks = false := Bd.notSynchronized
  have hml : c.maxLocals = 1 := hml0
  have hown : s.vm.findClass "java/lang/String" = some m.cls := findClass_of_methodNamed Bd.named
  have hnm := (name_of_methodNamed Bd.named Bd.method).1
  have rF := G.2.2.2.2.2.2
  have hcs := G.2.1
  have X0 : Stand p l e (rmm 0 0 0 0) s m #[(.ref a1)] below meth c s₁ [] 0 0 := Stand.of_body Bd
  have e0 : s₁.heap = h0 := by rw [← hh, Bd.state]; rfl
  have N0 := Fr.nil n0
  show Go p e below (FinE s below (QCoder Z a1 ccs vF h0 n0) (rmm 0 0 0 0).cells (rmm 0 0 0 0).slots) (s₁.setTop (entryFrame m #[(.ref a1)] 1))
  refine Go.via (fun t k => castTop (ef_rmCoder m a1) k) ?_
  obtain ⟨T101, X101, e101, st101⟩ := getS2 X0 hx hZ hown (host := "") (Or.inl (ow hw 32 rfl)) Via.refl e0 (G.1.ext O0.2) (g := (mkF m 0 #[rv a1] [])) rfl (hb hby d11_0)
  refine Go.via st101 ?_
  refine Go.via (fun _ => XS.ifNo X101.here hx rfl (hb hby d11_3) rfl ((if0 _ _).trans (feq hcs).1)) ?_
  refine Go.via (fun _ => XS.aloadN X101.here hx rfl (hb hby d11_6) rfl rfl) ?_
  obtain ⟨T102, X102, e102, st102⟩ := getF X101 hx hZ hown (host := "") (Or.inl (ow hw 22 rfl)) Via.refl e101 F2 (g := (mkF m 7 #[rv a1] [(.ref a1)])) rfl rfl (hb hby d11_7)
  refine Go.via st102 ?_
  refine Go.via (fun _ => XS.goto X102.here hx rfl (pc0 := 10) (pc' := 14) rfl (hb hby d11_10) (by decide) (by decide)) ?_
  show Go p e below _ (T102.setTop (mkF m 14 #[rv a1] [(.int (0 : Int32))]))
  exact own_retN X102 hx hlk (t := .byte) Bd.returns (by simp) (hb hby d11_14) (by show QCoder Z a1 ccs vF h0 n0 _ T102.heap _; rw [e102]; exact ⟨rfl, N0, rfl⟩) (by decide) (by decide)
theorem ef_rmLen_1 (m : MethodId) (x0 : Addr) : entryFrame m #[(.ref x0)] 1 = mkF m 0 #[rv x0] [] := by first | (simp [entryFrame, mkF, argsToLocals, Value.category]; done) | rfl
def QLen_1 (Z : State) (a1 : Addr) (t1 : Addr) (kb : ClassId) (vs : List Value) (ccs : Int32) (vF : Value) (h0 : Heap) (n0 : Nat) (v : Option Value) (h : Heap) (L : List Loc) : Prop := v = some (.int (1 : Int32)) ∧ Fr n0 L ∧ h = h0
set_option maxRecDepth 65536 in
set_option maxHeartbeats 40000000 in
theorem rmLen_1 (l : Launch) (Z : State) (a0 : Array Value) (hw : TW Z a0) (ws : List Jvm.Cond) (a1 : Addr) (t1 : Addr) (kb : ClassId) (vs : List Value) (ccs : Int32) (vF : Value) (h0 : Heap) (n0 : Nat) (Z0 : n0 ≤ h0.size) (E1 : Exa Z h0 a1 "java/lang/String") (F1 : Fld Z h0 a1 "java/lang/String" "value" "[B" (.ref t1)) (F2 : Fld Z h0 a1 "java/lang/String" "coder" "B" (.int (0 : Int32))) (V2 : Arv Z h0 t1 kb .byte (1 : Int32) vs (.int (0 : Int32))) (O0 : Old Z n0 h0) (G : SG Z ccs vF) :
    MF l Z (⟨"java/lang/String", "length", "()I"⟩ : MethodName) jdk_42_method_54_code 1 (some .int) ws (rmm 1 0 0 13) #[(.ref a1)] h0 (QLen_1 Z a1 t1 kb vs ccs vF h0 n0) := by
  refine MetFree.of_bodySF (plainFor_of_name pn_java_lang_String) hisR ?_
  intro p e s m args below meth c s₁ Bd hml0 hP hK
  obtain ⟨rfl, hZ, hh⟩ := hP
  have hx := Bd.exec
  have hby := Bd.bytes
  have hlk : meth.locks = false := Bd.notSynchronized
  have hml : c.maxLocals = 1 := hml0
  have hown : s.vm.findClass "java/lang/String" = some m.cls := findClass_of_methodNamed Bd.named
  have hnm := (name_of_methodNamed Bd.named Bd.method).1
  have rF := G.2.2.2.2.2.2
  have hcs := G.2.1
  have X0 : Stand p l e (rmm 1 0 0 13) s m #[(.ref a1)] below meth c s₁ [] 0 0 := Stand.of_body Bd
  have e0 : s₁.heap = h0 := by rw [← hh, Bd.state]; rfl
  have N0 := Fr.nil n0
  show Go p e below (FinE s below (QLen_1 Z a1 t1 kb vs ccs vF h0 n0) (rmm 1 0 0 13).cells (rmm 1 0 0 13).slots) (s₁.setTop (entryFrame m #[(.ref a1)] 1))
  refine Go.via (fun t k => castTop (ef_rmLen_1 m a1) k) ?_
  refine Go.via (fun _ => XS.aloadN X0.here hx rfl (hb hby d10_0) rfl rfl) ?_
  obtain ⟨T101, X101, e101, st101⟩ := getF X0 hx hZ hown (host := "") (Or.inl (ow hw 21 rfl)) Via.refl e0 F1 (g := (mkF m 1 #[rv a1] [(.ref a1)])) rfl rfl (hb hby d10_1)
  refine Go.via st101 ?_
  obtain ⟨cl102, Ar102, -, S102, N102n, -, -⟩ := id V2
  have al102 := X101.arraylength hx (by rw [e101]; exact Ar102.1) (State.isArrayOf_alike hZ.alike Ar102.2.1) (g := (mkF m 4 #[rv a1] [(.ref t1)])) rfl rfl (hb hby d10_4)
  rw [len_of S102 N102n] at al102
  refine Go.via al102 ?_
  refine Go.via (fun _ => XS.aloadN X101.here hx rfl (hb hby d10_5) rfl rfl) ?_
  obtain ⟨cq103, kq103, q103a, q103b, q103c⟩ := isOf hZ e101 E1
  obtain ⟨_, _, ⟨T103, L103, k103, n103⟩, -, X103, ⟨Lc103, hQ103, l103, y103, z103⟩, st103⟩ := X101.virtualBack hx (y := (⟨"java/lang/String", "coder", "()B"⟩ : MethodName)) (z := (⟨"java/lang/String", "coder", "()B"⟩ : MethodName)) hown (mvT hZ (ow hw 52 rfl)) (mvT hZ (ow hw 53 rfl)) (notFace_of_selects (args := #[]) (mvT hZ (ow hw 55 rfl))) (mvT hZ (ow hw 55 rfl)) (mvT hZ (ow hw 54 rfl)) (by decide) (backOf (W := 1) (rmCoder l Z a0 hw [] a1 ccs vF h0 n0 Z0 F2 O0 G) hZ (ow hw 56 rfl) (ow hw 4 rfl) (by decide) (by decide)) q103a q103c (g := (mkF m 6 #[rv a1] [(.ref a1), (.int (1 : Int32))])) rfl (by rw [hml]; rfl) (Steps.refl _) (argsL := []) (rest := [(.int (1 : Int32))]) (lenOf pd_4 rfl) rfl (by show 2 * 0 + _ ≤ _; exact Nat.le_of_eq rfl) (hb hby d10_6) (fun _ _ => ⟨rfl, e101, (by decide : 0 + 0 ≤ _), (by decide : 0 + 0 ≤ _)⟩)
  dsimp only [Pt.U, Pt.locs, Pt.cells, Pt.slots] at X103 l103 y103 z103 st103 hQ103
  rw [l103, y103, z103] at X103
  replace X103 : Stand p l e _ _ m _ below meth c T103 _ 0 0 := X103
  obtain ⟨rfl, N103q, e103q⟩ := hQ103
  have N103 := Fr.app N0 N103q
  refine Go.tr st103 ?_
  show Go p e below _ (T103.setTop (mkF m 9 #[rv a1] [(.int (0 : Int32)), (.int (1 : Int32))]))
  refine Go.via (fun _ => XS.ishr X103.here hx rfl (hb hby d10_9) rfl) ?_
  exact own_retI X103 hx hlk Bd.returns (hb hby d10_10) (by show QLen_1 Z a1 t1 kb vs ccs vF h0 n0 _ T103.heap _; rw [e103q]; exact ⟨rfl, N103, rfl⟩) (by decide) (by decide)
theorem ef_rmN_1_0 (m : MethodId) (x0 : Addr) (x1 : Int32) : entryFrame m #[(.ref x0), (.int x1)] 4 = mkF m 0 #[rv x0, iv x1, .unset, .unset] [] := by first | (simp [entryFrame, mkF, argsToLocals, Value.category]; done) | rfl
set_option maxRecDepth 65536 in
set_option maxHeartbeats 40000000 in
theorem rmN_1_0 (l : Launch) (Z : State) (a0 : Array Value) (hw : TW Z a0) (ws : List Jvm.Cond) (a1 : Addr) (t1 : Addr) (kb : ClassId) (c0 : Int32) (lg : Int32) (ccs : Int32) (vF : Value) (h0 : Heap) (n0 : Nat) (Z0 : n0 ≤ h0.size) (E1 : Exa Z h0 a1 "java/lang/String") (F1 : Fld Z h0 a1 "java/lang/String" "value" "[B" (.ref t1)) (F2 : Fld Z h0 a1 "java/lang/String" "coder" "B" (.int (0 : Int32))) (V2 : Arv Z h0 t1 kb .byte (1 : Int32) [(.int (nar .byte (c0.toInt8.toInt32)))] (.int (0 : Int32))) (hu0 : nar .char (((nar .byte (c0.toInt8.toInt32)) &&& (255 : Int32)).toUInt32.toUInt16.toUInt32.toInt32) = c0) (hn0 : nar .char c0 = c0) (O0 : Old Z n0 h0) (G : SG Z ccs vF) :
    MF l Z (⟨"com/example/timed_cap/timedcap/model/Names", "isName", "(Ljava/lang/String;I)Z"⟩ : MethodName) prog_5_method_2_code 4 (some .boolean) ws (rmm 5 0 0 130) #[(.ref a1), (.int lg)] h0 (QN1 Z lg c0 h0 n0) := by
  refine MetFree.of_bodySF (plainFor_of_name pn_com_example_timed_cap_timedcap_model_Names) hisR ?_
  intro p e s m args below meth c s₁ Bd hml0 hP hK
  obtain ⟨rfl, hZ, hh⟩ := hP
  have hx := Bd.exec
  have hby := Bd.bytes
  have hlk : meth.locks = false := Bd.notSynchronized
  have hml : c.maxLocals = 4 := hml0
  have hown : s.vm.findClass "com/example/timed_cap/timedcap/model/Names" = some m.cls := findClass_of_methodNamed Bd.named
  have hnm := (name_of_methodNamed Bd.named Bd.method).1
  have rF := G.2.2.2.2.2.2
  have hcs := G.2.1
  have X0 : Stand p l e (rmm 5 0 0 130) s m #[(.ref a1), (.int lg)] below meth c s₁ [] 0 0 := Stand.of_body Bd
  have e0 : s₁.heap = h0 := by rw [← hh, Bd.state]; rfl
  have N0 := Fr.nil n0
  show Go p e below (FinE s below (QN1 Z lg c0 h0 n0) (rmm 5 0 0 130).cells (rmm 5 0 0 130).slots) (s₁.setTop (entryFrame m #[(.ref a1), (.int lg)] 4))
  refine Go.via (fun t k => castTop (ef_rmN_1_0 m a1 lg) k) ?_
  refine Go.via (fun _ => XS.aloadN X0.here hx rfl (hb hby d4_0) rfl rfl) ?_
  obtain ⟨cq101, kq101, q101a, q101b, q101c⟩ := isOf hZ e0 E1
  obtain ⟨_, _, ⟨T101, L101, k101, n101⟩, -, X101, ⟨Lc101, hQ101, l101, y101, z101⟩, st101⟩ := X0.virtualBack hx (y := (⟨"java/lang/String", "isEmpty", "()Z"⟩ : MethodName)) (z := (⟨"java/lang/String", "isEmpty", "()Z"⟩ : MethodName)) hown (mvT hZ (ow hw 27 rfl)) (mvT hZ (ow hw 28 rfl)) (notFace_of_selects (args := #[]) (mvT hZ (ow hw 30 rfl))) (mvT hZ (ow hw 30 rfl)) (mvT hZ (ow hw 29 rfl)) (by decide) (backOf (W := 0) (rmEmp_1 l Z a0 hw [] a1 t1 kb (1 : Int32) _ h0 n0 Z0 F1 V2 (by decide)) hZ (ow hw 31 rfl) (ow hw 4 rfl) (by decide) (by decide)) q101a q101c (g := (mkF m 1 #[rv a1, iv lg, .unset, .unset] [(.ref a1)])) rfl (by rw [hml]; rfl) (Steps.refl _) (argsL := []) (rest := []) (lenOf pd_0 rfl) rfl (by show 2 * 0 + _ ≤ _; exact Nat.le_of_eq rfl) (hb hby d4_1) (fun _ _ => ⟨rfl, e0, (by decide : 0 + 0 ≤ _), (by decide : 0 + 0 ≤ _)⟩)
  dsimp only [Pt.U, Pt.locs, Pt.cells, Pt.slots] at X101 l101 y101 z101 st101 hQ101
  rw [l101, y101, z101] at X101
  replace X101 : Stand p l e _ _ m _ below meth c T101 _ 0 0 := X101
  obtain ⟨rfl, N101q, e101q⟩ := hQ101
  have N101 := Fr.app N0 N101q
  refine Go.tr st101 ?_
  refine Go.via (fun _ => XS.ifNo X101.here hx rfl (hb hby d4_4) rfl (by decide)) ?_
  refine Go.via (fun _ => XS.aloadN X101.here hx rfl (hb hby d4_7) rfl rfl) ?_
  obtain ⟨cq102, kq102, q102a, q102b, q102c⟩ := isOf hZ e101q E1
  obtain ⟨_, _, ⟨T102, L102, k102, n102⟩, -, X102, ⟨Lc102, hQ102, l102, y102, z102⟩, st102⟩ := X101.virtualBack hx (y := (⟨"java/lang/String", "length", "()I"⟩ : MethodName)) (z := (⟨"java/lang/String", "length", "()I"⟩ : MethodName)) hown (mvT hZ (ow hw 47 rfl)) (mvT hZ (ow hw 48 rfl)) (notFace_of_selects (args := #[]) (mvT hZ (ow hw 50 rfl))) (mvT hZ (ow hw 50 rfl)) (mvT hZ (ow hw 49 rfl)) (by decide) (backOf (W := 0) (rmLen_1 l Z a0 hw [] a1 t1 kb _ ccs vF h0 n0 Z0 E1 F1 F2 V2 O0 G) hZ (ow hw 51 rfl) (ow hw 4 rfl) (by decide) (by decide)) q102a q102c (g := (mkF m 8 #[rv a1, iv lg, .unset, .unset] [(.ref a1)])) rfl (by rw [hml]; rfl) (Steps.refl _) (argsL := []) (rest := []) (lenOf pd_5 rfl) rfl (by show 2 * 0 + _ ≤ _; exact Nat.le_of_eq rfl) (hb hby d4_8) (fun _ _ => ⟨rfl, e101q, (by decide : 0 + 0 ≤ _), (by decide : 0 + 0 ≤ _)⟩)
  dsimp only [Pt.U, Pt.locs, Pt.cells, Pt.slots] at X102 l102 y102 z102 st102 hQ102
  rw [l102, y102, z102] at X102
  replace X102 : Stand p l e _ _ m _ below meth c T102 _ 0 0 := X102
  obtain ⟨rfl, N102q, e102q⟩ := hQ102
  have N102 := Fr.app N101 N102q
  refine Go.tr st102 ?_
  show Go p e below _ (T102.setTop (mkF m 11 #[rv a1, iv lg, .unset, .unset] [(.int (1 : Int32))]))
  refine Go.via (fun _ => XS.iloadN X102.here hx rfl (hb hby d4_11) rfl) ?_
  by_cases hc103 : lg < (1 : Int32)
  · -- yes
    refine Go.via (fun _ => XS.icmpNo X102.here hx rfl (hb hby d4_12) rfl (tlt hc103).2.2.2) ?_
    refine Go.via (fun _ => XS.iconst X102.here hx rfl (hb hby d4_15)) ?_
    exact own_retN X102 hx hlk (t := .boolean) Bd.returns (by simp) (hb hby d4_16) (by show QN1 Z lg c0 h0 n0 _ T102.heap _; rw [e102q]; exact ⟨by simp [nm1, nar, hc103], N102, rfl⟩) (by decide) (by decide)
  · -- no
    refine Go.via (fun _ => XS.icmpYes X102.here hx rfl (pc0 := 12) (pc' := 17) rfl (hb hby d4_12) rfl (flt hc103).2.2.2 (by decide) (by decide)) ?_
    refine Go.via (fun _ => XS.iconst X102.here hx rfl (hb hby d4_17)) ?_
    refine Go.via (fun _ => XS.istoreN X102.here hx rfl (hb hby d4_18) rfl (l' := #[rv a1, iv lg, iv (0 : Int32), .unset]) rfl) ?_
    show Go p e below _ (T102.setTop (mkF m 19 #[rv a1, iv lg, iv (0 : Int32), .unset] []))
    refine Go.via (fun _ => XS.iloadN X102.here hx rfl (hb hby d4_19) rfl) ?_
    refine Go.via (fun _ => XS.aloadN X102.here hx rfl (hb hby d4_20) rfl rfl) ?_
    obtain ⟨cq104, kq104, q104a, q104b, q104c⟩ := isOf hZ e102q E1
    obtain ⟨_, _, ⟨T104, L104, k104, n104⟩, -, X104, ⟨Lc104, hQ104, l104, y104, z104⟩, st104⟩ := X102.virtualBack hx (y := (⟨"java/lang/String", "length", "()I"⟩ : MethodName)) (z := (⟨"java/lang/String", "length", "()I"⟩ : MethodName)) hown (mvT hZ (ow hw 47 rfl)) (mvT hZ (ow hw 48 rfl)) (notFace_of_selects (args := #[]) (mvT hZ (ow hw 50 rfl))) (mvT hZ (ow hw 50 rfl)) (mvT hZ (ow hw 49 rfl)) (by decide) (backOf (W := 1) (rmLen_1 l Z a0 hw [] a1 t1 kb _ ccs vF h0 n0 Z0 E1 F1 F2 V2 O0 G) hZ (ow hw 51 rfl) (ow hw 4 rfl) (by decide) (by decide)) q104a q104c (g := (mkF m 21 #[rv a1, iv lg, iv (0 : Int32), .unset] [(.ref a1), (.int (0 : Int32))])) rfl (by rw [hml]; rfl) (Steps.refl _) (argsL := []) (rest := [(.int (0 : Int32))]) (lenOf pd_5 rfl) rfl (by show 2 * 0 + _ ≤ _; exact Nat.le_of_eq rfl) (hb hby d4_21) (fun _ _ => ⟨rfl, e102q, (by decide : 0 + 0 ≤ _), (by decide : 0 + 0 ≤ _)⟩)
    dsimp only [Pt.U, Pt.locs, Pt.cells, Pt.slots] at X104 l104 y104 z104 st104 hQ104
    rw [l104, y104, z104] at X104
    replace X104 : Stand p l e _ _ m _ below meth c T104 _ 0 0 := X104
    obtain ⟨rfl, N104q, e104q⟩ := hQ104
    have N104 := Fr.app N102 N104q
    refine Go.tr st104 ?_
    refine Go.via (fun _ => XS.icmpNo X104.here hx rfl (hb hby d4_24) rfl (by decide)) ?_
    refine Go.via (fun _ => XS.aloadN X104.here hx rfl (hb hby d4_27) rfl rfl) ?_
    refine Go.via (fun _ => XS.iloadN X104.here hx rfl (hb hby d4_28) rfl) ?_
    show Go p e below _ (T104.setTop (mkF m 29 #[rv a1, iv lg, iv (0 : Int32), .unset] [(.int (0 : Int32)), (.ref a1)]))
    obtain ⟨cq105, kq105, q105a, q105b, q105c⟩ := isOf hZ e104q E1
    obtain ⟨_, _, ⟨T105, L105, k105, n105⟩, -, X105, ⟨Lc105, hQ105, l105, y105, z105⟩, st105⟩ := X104.virtualBack hx (y := (⟨"java/lang/String", "charAt", "(I)C"⟩ : MethodName)) (z := (⟨"java/lang/String", "charAt", "(I)C"⟩ : MethodName)) hown (mvT hZ (ow hw 57 rfl)) (mvT hZ (ow hw 58 rfl)) (notFace_of_selects (args := #[]) (mvT hZ (ow hw 60 rfl))) (mvT hZ (ow hw 60 rfl)) (mvT hZ (ow hw 59 rfl)) (by decide) (backOf (W := 0) (rmCA_0 l Z a0 hw [] a1 t1 kb (1 : Int32) _ (0 : Int32) c0 ccs vF h0 n0 Z0 E1 F1 F2 V2 (by decide) (by decide) rfl hu0 hn0 O0 G) hZ (ow hw 61 rfl) (ow hw 4 rfl) (by decide) (by decide)) q105a q105c (g := (mkF m 29 #[rv a1, iv lg, iv (0 : Int32), .unset] [(.int (0 : Int32)), (.ref a1)])) rfl (by rw [hml]; rfl) (Steps.refl _) (argsL := [(.int (0 : Int32))]) (rest := []) (lenOf pd_6 rfl) rfl (by show 2 * 0 + _ ≤ _; exact Nat.le_of_eq rfl) (hb hby d4_29) (fun _ _ => ⟨rfl, e104q, (by decide : 0 + 0 ≤ _), (by decide : 0 + 0 ≤ _)⟩)
    dsimp only [Pt.U, Pt.locs, Pt.cells, Pt.slots] at X105 l105 y105 z105 st105 hQ105
    rw [l105, y105, z105] at X105
    replace X105 : Stand p l e _ _ m _ below meth c T105 _ 0 0 := X105
    obtain ⟨rfl, N105q, e105q⟩ := hQ105
    have N105 := Fr.app N104 N105q
    refine Go.tr st105 ?_
    refine Go.via (fun _ => XS.istoreN X105.here hx rfl (hb hby d4_32) rfl (l' := #[rv a1, iv lg, iv (0 : Int32), iv c0]) rfl) ?_
    have nx0 : ∀ (T' : State) (L' : List Loc), Stand p l e (rmm 5 0 0 130) s m #[(.ref a1), (.int lg)] below meth c T' L' 0 0 → T'.heap = h0 → Fr n0 L' → ¬ (okF c0 = (0 : Int32)) → Go p e below (FinE s below (QN1 Z lg c0 h0 n0) (rmm 5 0 0 130).cells (rmm 5 0 0 130).slots) (T'.setTop (mkF m 79 #[rv a1, iv lg, iv (0 : Int32), iv c0] [])) := by
      intro Tn0 Ln0 Xn0 en0 Nn0 hok0
      refine Go.via (fun _ => XS.iinc Xn0.here hx rfl (hb hby d4_79) rfl (l' := #[rv a1, iv lg, iv (1 : Int32), iv c0]) rfl) ?_
      refine Go.via (fun _ => XS.goto Xn0.here hx rfl (pc0 := 82) (pc' := 19) rfl (hb hby d4_82) (by decide) (by decide)) ?_
      refine Go.via (fun _ => XS.iloadN Xn0.here hx rfl (hb hby d4_19) rfl) ?_
      show Go p e below _ (Tn0.setTop (mkF m 20 #[rv a1, iv lg, iv (1 : Int32), iv c0] [(.int (1 : Int32))]))
      refine Go.via (fun _ => XS.aloadN Xn0.here hx rfl (hb hby d4_20) rfl rfl) ?_
      obtain ⟨cq106, kq106, q106a, q106b, q106c⟩ := isOf hZ en0 E1
      obtain ⟨_, _, ⟨T106, L106, k106, n106⟩, -, X106, ⟨Lc106, hQ106, l106, y106, z106⟩, st106⟩ := Xn0.virtualBack hx (y := (⟨"java/lang/String", "length", "()I"⟩ : MethodName)) (z := (⟨"java/lang/String", "length", "()I"⟩ : MethodName)) hown (mvT hZ (ow hw 47 rfl)) (mvT hZ (ow hw 48 rfl)) (notFace_of_selects (args := #[]) (mvT hZ (ow hw 50 rfl))) (mvT hZ (ow hw 50 rfl)) (mvT hZ (ow hw 49 rfl)) (by decide) (backOf (W := 1) (rmLen_1 l Z a0 hw [] a1 t1 kb _ ccs vF h0 n0 Z0 E1 F1 F2 V2 O0 G) hZ (ow hw 51 rfl) (ow hw 4 rfl) (by decide) (by decide)) q106a q106c (g := (mkF m 21 #[rv a1, iv lg, iv (1 : Int32), iv c0] [(.ref a1), (.int (1 : Int32))])) rfl (by rw [hml]; rfl) (Steps.refl _) (argsL := []) (rest := [(.int (1 : Int32))]) (lenOf pd_5 rfl) rfl (by show 2 * 0 + _ ≤ _; exact Nat.le_of_eq rfl) (hb hby d4_21) (fun _ _ => ⟨rfl, en0, (by decide : 0 + 0 ≤ _), (by decide : 0 + 0 ≤ _)⟩)
      dsimp only [Pt.U, Pt.locs, Pt.cells, Pt.slots] at X106 l106 y106 z106 st106 hQ106
      rw [l106, y106, z106] at X106
      replace X106 : Stand p l e _ _ m _ below meth c T106 _ 0 0 := X106
      obtain ⟨rfl, N106q, e106q⟩ := hQ106
      have N106 := Fr.app Nn0 N106q
      refine Go.tr st106 ?_
      refine Go.via (fun _ => XS.icmpYes X106.here hx rfl (pc0 := 24) (pc' := 85) rfl (hb hby d4_24) rfl (by decide) (by decide) (by decide)) ?_
      refine Go.via (fun _ => XS.iconst X106.here hx rfl (hb hby d4_85)) ?_
      exact own_retN X106 hx hlk (t := .boolean) Bd.returns (by simp) (hb hby d4_86) (by show QN1 Z lg c0 h0 n0 _ T106.heap _; rw [e106q]; exact ⟨by simp [nm1, nar, hc103, hok0], N106, rfl⟩) (by decide) (by decide)
    refine Go.via (fun _ => XS.iloadN X105.here hx rfl (hb hby d4_33) rfl) ?_
    obtain ⟨_, _, ⟨T107, L107, k107, n107⟩, -, X107, ⟨Lc107, hQ107, l107, y107, z107⟩, st107⟩ := Jvm.LawKit.callS X105 hx (y := (⟨"com/example/timed_cap/timedcap/model/Names", "isLowerCase", "(C)Z"⟩ : MethodName)) hown (mvT hZ (ow hw 79 rfl)) (mvT hZ (ow hw 80 rfl)) (mvT hZ (ow hw 25 rfl)) (mvT hZ (ow hw 81 rfl)) (by decide) (backOf (W := 0) (rm_isLowerCase l Z a0 hw [] c0 h0 n0 Z0) hZ (ow hw 81 rfl) (ow hw 25 rfl) (by decide) (by decide)) (g := (mkF m 34 #[rv a1, iv lg, iv (0 : Int32), iv c0] [(.int c0)])) rfl (by rw [hml]; rfl) (argsL := [(.int c0)]) (rest := []) (lenOf pd_7 rfl) rfl (by show 2 * 0 + _ ≤ _; exact Nat.le_of_eq rfl) (hb hby d4_34) (fun _ _ => ⟨rfl, e105q, (by decide : 0 + 0 ≤ _), (by decide : 0 + 0 ≤ _)⟩)
    dsimp only [Pt.U, Pt.locs, Pt.cells, Pt.slots] at X107 l107 y107 z107 st107 hQ107
    rw [l107, y107, z107] at X107
    replace X107 : Stand p l e _ _ m _ below meth c T107 _ 0 0 := X107
    obtain ⟨rfl, N107q, e107q⟩ := hQ107
    have N107 := Fr.app N105 N107q
    refine Go.via st107 ?_
    by_cases hc108 : (loF c0) = (0 : Int32)
    · -- yes
      show Go p e below _ (T107.setTop (mkF m 37 #[rv a1, iv lg, iv (0 : Int32), iv c0] [(.int (loF c0))]))
      refine Go.via (fun _ => XS.ifNo X107.here hx rfl (hb hby d4_37) rfl ((if0 _ _).trans (teq hc108).2)) ?_
      refine Go.via (fun _ => XS.iloadN X107.here hx rfl (hb hby d4_40) rfl) ?_
      refine Go.via (fun _ => XS.bipush X107.here hx rfl (hb hby d4_41)) ?_
      by_cases hc109 : c0 < (65 : Int32)
      · -- yes
        refine Go.via (fun _ => XS.icmpYes X107.here hx rfl (pc0 := 43) (pc' := 52) rfl (hb hby d4_43) rfl (tlt hc109).1 (by decide) (by decide)) ?_
        show Go p e below _ (T107.setTop (mkF m 52 #[rv a1, iv lg, iv (0 : Int32), iv c0] []))
        refine Go.via (fun _ => XS.iloadN X107.here hx rfl (hb hby d4_52) rfl) ?_
        obtain ⟨_, _, ⟨T110, L110, k110, n110⟩, -, X110, ⟨Lc110, hQ110, l110, y110, z110⟩, st110⟩ := Jvm.LawKit.callS X107 hx (y := (⟨"com/example/timed_cap/timedcap/model/Names", "isDigit", "(C)Z"⟩ : MethodName)) hown (mvT hZ (ow hw 82 rfl)) (mvT hZ (ow hw 83 rfl)) (mvT hZ (ow hw 25 rfl)) (mvT hZ (ow hw 84 rfl)) (by decide) (backOf (W := 0) (rm_isDigit l Z a0 hw [] c0 h0 n0 Z0) hZ (ow hw 84 rfl) (ow hw 25 rfl) (by decide) (by decide)) (g := (mkF m 53 #[rv a1, iv lg, iv (0 : Int32), iv c0] [(.int c0)])) rfl (by rw [hml]; rfl) (argsL := [(.int c0)]) (rest := []) (lenOf pd_7 rfl) rfl (by show 2 * 0 + _ ≤ _; exact Nat.le_of_eq rfl) (hb hby d4_53) (fun _ _ => ⟨rfl, e107q, (by decide : 0 + 0 ≤ _), (by decide : 0 + 0 ≤ _)⟩)
        dsimp only [Pt.U, Pt.locs, Pt.cells, Pt.slots] at X110 l110 y110 z110 st110 hQ110
        rw [l110, y110, z110] at X110
        replace X110 : Stand p l e _ _ m _ below meth c T110 _ 0 0 := X110
        obtain ⟨rfl, N110q, e110q⟩ := hQ110
        have N110 := Fr.app N107 N110q
        refine Go.via st110 ?_
        by_cases hc111 : (dgF c0) = (0 : Int32)
        · -- yes
          refine Go.via (fun _ => XS.ifNo X110.here hx rfl (hb hby d4_56) rfl ((if0 _ _).trans (teq hc111).2)) ?_
          refine Go.via (fun _ => XS.iloadN X110.here hx rfl (hb hby d4_59) rfl) ?_
          show Go p e below _ (T110.setTop (mkF m 60 #[rv a1, iv lg, iv (0 : Int32), iv c0] [(.int c0)]))
          refine Go.via (fun _ => XS.bipush X110.here hx rfl (hb hby d4_60)) ?_
          by_cases hc112 : c0 = (46 : Int32)
          · -- yes
            refine Go.via (fun _ => XS.icmpYes X110.here hx rfl (pc0 := 62) (pc' := 79) rfl (hb hby d4_62) rfl (teq hc112).1 (by decide) (by decide)) ?_
            exact nx0 _ _ X110 e110q N110 (by simp [okF, hc108, hc109, hc111, hc112])
          · -- no
            refine Go.via (fun _ => XS.icmpNo X110.here hx rfl (hb hby d4_62) rfl (feq hc112).1) ?_
            refine Go.via (fun _ => XS.iloadN X110.here hx rfl (hb hby d4_65) rfl) ?_
            refine Go.via (fun _ => XS.bipush X110.here hx rfl (hb hby d4_66)) ?_
            show Go p e below _ (T110.setTop (mkF m 68 #[rv a1, iv lg, iv (0 : Int32), iv c0] [(.int (95 : Int32)), (.int c0)]))
            by_cases hc113 : c0 = (95 : Int32)
            · -- yes
              refine Go.via (fun _ => XS.icmpYes X110.here hx rfl (pc0 := 68) (pc' := 79) rfl (hb hby d4_68) rfl (teq hc113).1 (by decide) (by decide)) ?_
              exact nx0 _ _ X110 e110q N110 (by simp [okF, hc108, hc109, hc111, hc112, hc113])
            · -- no
              refine Go.via (fun _ => XS.icmpNo X110.here hx rfl (hb hby d4_68) rfl (feq hc113).1) ?_
              refine Go.via (fun _ => XS.iloadN X110.here hx rfl (hb hby d4_71) rfl) ?_
              refine Go.via (fun _ => XS.bipush X110.here hx rfl (hb hby d4_72)) ?_
              by_cases hc114 : c0 = (45 : Int32)
              · -- yes
                show Go p e below _ (T110.setTop (mkF m 74 #[rv a1, iv lg, iv (0 : Int32), iv c0] [(.int (45 : Int32)), (.int c0)]))
                refine Go.via (fun _ => XS.icmpYes X110.here hx rfl (pc0 := 74) (pc' := 79) rfl (hb hby d4_74) rfl (teq hc114).1 (by decide) (by decide)) ?_
                exact nx0 _ _ X110 e110q N110 (by simp [okF, hc108, hc109, hc111, hc112, hc113, hc114])
              · -- no
                show Go p e below _ (T110.setTop (mkF m 74 #[rv a1, iv lg, iv (0 : Int32), iv c0] [(.int (45 : Int32)), (.int c0)]))
                refine Go.via (fun _ => XS.icmpNo X110.here hx rfl (hb hby d4_74) rfl (feq hc114).1) ?_
                refine Go.via (fun _ => XS.iconst X110.here hx rfl (hb hby d4_77)) ?_
                have hz : okF c0 = (0 : Int32) := by simp [okF, hc108, hc109, hc111, hc112, hc113, hc114]
                exact own_retN X110 hx hlk (t := .boolean) Bd.returns (by simp) (hb hby d4_78) (by show QN1 Z lg c0 h0 n0 _ T110.heap _; rw [e110q]; exact ⟨by simp [nm1, nar, hz, hc103], N110, rfl⟩) (by decide) (by decide)
        · -- no
          refine Go.via (fun _ => XS.ifYes X110.here hx rfl (pc0 := 56) (pc' := 79) rfl (hb hby d4_56) rfl ((if0 _ _).trans (feq hc111).2) (by decide) (by decide)) ?_
          exact nx0 _ _ X110 e110q N110 (by simp [okF, hc108, hc109, hc111])
      · -- no
        refine Go.via (fun _ => XS.icmpNo X107.here hx rfl (hb hby d4_43) rfl (flt hc109).1) ?_
        show Go p e below _ (T107.setTop (mkF m 46 #[rv a1, iv lg, iv (0 : Int32), iv c0] []))
        refine Go.via (fun _ => XS.iloadN X107.here hx rfl (hb hby d4_46) rfl) ?_
        refine Go.via (fun _ => XS.bipush X107.here hx rfl (hb hby d4_47)) ?_
        by_cases hc115 : (90 : Int32) < c0
        · -- yes
          refine Go.via (fun _ => XS.icmpNo X107.here hx rfl (hb hby d4_49) rfl (tlt hc115).2.2.2) ?_
          refine Go.via (fun _ => XS.iloadN X107.here hx rfl (hb hby d4_52) rfl) ?_
          show Go p e below _ (T107.setTop (mkF m 53 #[rv a1, iv lg, iv (0 : Int32), iv c0] [(.int c0)]))
          obtain ⟨_, _, ⟨T116, L116, k116, n116⟩, -, X116, ⟨Lc116, hQ116, l116, y116, z116⟩, st116⟩ := Jvm.LawKit.callS X107 hx (y := (⟨"com/example/timed_cap/timedcap/model/Names", "isDigit", "(C)Z"⟩ : MethodName)) hown (mvT hZ (ow hw 82 rfl)) (mvT hZ (ow hw 83 rfl)) (mvT hZ (ow hw 25 rfl)) (mvT hZ (ow hw 84 rfl)) (by decide) (backOf (W := 0) (rm_isDigit l Z a0 hw [] c0 h0 n0 Z0) hZ (ow hw 84 rfl) (ow hw 25 rfl) (by decide) (by decide)) (g := (mkF m 53 #[rv a1, iv lg, iv (0 : Int32), iv c0] [(.int c0)])) rfl (by rw [hml]; rfl) (argsL := [(.int c0)]) (rest := []) (lenOf pd_7 rfl) rfl (by show 2 * 0 + _ ≤ _; exact Nat.le_of_eq rfl) (hb hby d4_53) (fun _ _ => ⟨rfl, e107q, (by decide : 0 + 0 ≤ _), (by decide : 0 + 0 ≤ _)⟩)
          dsimp only [Pt.U, Pt.locs, Pt.cells, Pt.slots] at X116 l116 y116 z116 st116 hQ116
          rw [l116, y116, z116] at X116
          replace X116 : Stand p l e _ _ m _ below meth c T116 _ 0 0 := X116
          obtain ⟨rfl, N116q, e116q⟩ := hQ116
          have N116 := Fr.app N107 N116q
          refine Go.via st116 ?_
          by_cases hc117 : (dgF c0) = (0 : Int32)
          · -- yes
            refine Go.via (fun _ => XS.ifNo X116.here hx rfl (hb hby d4_56) rfl ((if0 _ _).trans (teq hc117).2)) ?_
            refine Go.via (fun _ => XS.iloadN X116.here hx rfl (hb hby d4_59) rfl) ?_
            refine Go.via (fun _ => XS.bipush X116.here hx rfl (hb hby d4_60)) ?_
            show Go p e below _ (T116.setTop (mkF m 62 #[rv a1, iv lg, iv (0 : Int32), iv c0] [(.int (46 : Int32)), (.int c0)]))
            by_cases hc118 : c0 = (46 : Int32)
            · -- yes
              refine Go.via (fun _ => XS.icmpYes X116.here hx rfl (pc0 := 62) (pc' := 79) rfl (hb hby d4_62) rfl (teq hc118).1 (by decide) (by decide)) ?_
              exact nx0 _ _ X116 e116q N116 (by simp [okF, hc108, hc109, hc115, hc117, hc118])
            · -- no
              refine Go.via (fun _ => XS.icmpNo X116.here hx rfl (hb hby d4_62) rfl (feq hc118).1) ?_
              refine Go.via (fun _ => XS.iloadN X116.here hx rfl (hb hby d4_65) rfl) ?_
              refine Go.via (fun _ => XS.bipush X116.here hx rfl (hb hby d4_66)) ?_
              by_cases hc119 : c0 = (95 : Int32)
              · -- yes
                show Go p e below _ (T116.setTop (mkF m 68 #[rv a1, iv lg, iv (0 : Int32), iv c0] [(.int (95 : Int32)), (.int c0)]))
                refine Go.via (fun _ => XS.icmpYes X116.here hx rfl (pc0 := 68) (pc' := 79) rfl (hb hby d4_68) rfl (teq hc119).1 (by decide) (by decide)) ?_
                exact nx0 _ _ X116 e116q N116 (by simp [okF, hc108, hc109, hc115, hc117, hc118, hc119])
              · -- no
                show Go p e below _ (T116.setTop (mkF m 68 #[rv a1, iv lg, iv (0 : Int32), iv c0] [(.int (95 : Int32)), (.int c0)]))
                refine Go.via (fun _ => XS.icmpNo X116.here hx rfl (hb hby d4_68) rfl (feq hc119).1) ?_
                refine Go.via (fun _ => XS.iloadN X116.here hx rfl (hb hby d4_71) rfl) ?_
                refine Go.via (fun _ => XS.bipush X116.here hx rfl (hb hby d4_72)) ?_
                by_cases hc120 : c0 = (45 : Int32)
                · -- yes
                  show Go p e below _ (T116.setTop (mkF m 74 #[rv a1, iv lg, iv (0 : Int32), iv c0] [(.int (45 : Int32)), (.int c0)]))
                  refine Go.via (fun _ => XS.icmpYes X116.here hx rfl (pc0 := 74) (pc' := 79) rfl (hb hby d4_74) rfl (teq hc120).1 (by decide) (by decide)) ?_
                  exact nx0 _ _ X116 e116q N116 (by simp [okF, hc108, hc109, hc115, hc117, hc118, hc119, hc120])
                · -- no
                  show Go p e below _ (T116.setTop (mkF m 74 #[rv a1, iv lg, iv (0 : Int32), iv c0] [(.int (45 : Int32)), (.int c0)]))
                  refine Go.via (fun _ => XS.icmpNo X116.here hx rfl (hb hby d4_74) rfl (feq hc120).1) ?_
                  refine Go.via (fun _ => XS.iconst X116.here hx rfl (hb hby d4_77)) ?_
                  have hz : okF c0 = (0 : Int32) := by simp [okF, hc108, hc109, hc115, hc117, hc118, hc119, hc120]
                  exact own_retN X116 hx hlk (t := .boolean) Bd.returns (by simp) (hb hby d4_78) (by show QN1 Z lg c0 h0 n0 _ T116.heap _; rw [e116q]; exact ⟨by simp [nm1, nar, hz, hc103], N116, rfl⟩) (by decide) (by decide)
          · -- no
            refine Go.via (fun _ => XS.ifYes X116.here hx rfl (pc0 := 56) (pc' := 79) rfl (hb hby d4_56) rfl ((if0 _ _).trans (feq hc117).2) (by decide) (by decide)) ?_
            exact nx0 _ _ X116 e116q N116 (by simp [okF, hc108, hc109, hc115, hc117])
        · -- no
          refine Go.via (fun _ => XS.icmpYes X107.here hx rfl (pc0 := 49) (pc' := 79) rfl (hb hby d4_49) rfl (flt hc115).2.2.2 (by decide) (by decide)) ?_
          exact nx0 _ _ X107 e107q N107 (by simp [okF, hc108, hc109, hc115])
    · -- no
      show Go p e below _ (T107.setTop (mkF m 37 #[rv a1, iv lg, iv (0 : Int32), iv c0] [(.int (loF c0))]))
      refine Go.via (fun _ => XS.ifYes X107.here hx rfl (pc0 := 37) (pc' := 79) rfl (hb hby d4_37) rfl ((if0 _ _).trans (feq hc108).2) (by decide) (by decide)) ?_
      exact nx0 _ _ X107 e107q N107 (by simp [okF, hc108])
theorem ef_rmL16 (m : MethodId) (x0 : Addr) : entryFrame m #[(.ref x0)] 1 = mkF m 0 #[rv x0] [] := by first | (simp [entryFrame, mkF, argsToLocals, Value.category]; done) | rfl
def QL16 (Z : State) (t1 : Addr) (kb : ClassId) (zz : Int32) (vs : List Value) (nn : Int32) (h0 : Heap) (n0 : Nat) (v : Option Value) (h : Heap) (L : List Loc) : Prop := v = some (.int nn) ∧ Fr n0 L ∧ h = h0
set_option maxRecDepth 65536 in
set_option maxHeartbeats 40000000 in
theorem rmL16 (l : Launch) (Z : State) (a0 : Array Value) (hw : TW Z a0) (ws : List Jvm.Cond) (t1 : Addr) (kb : ClassId) (zz : Int32) (vs : List Value) (nn : Int32) (h0 : Heap) (n0 : Nat) (Z0 : n0 ≤ h0.size) (V2 : Arv Z h0 t1 kb .byte zz vs (.int (0 : Int32))) (hzn : (zz >>> ((1 : Int32) &&& 31)) = nn) :
    MF l Z (⟨"java/lang/StringUTF16", "length", "([B)I"⟩ : MethodName) jdk_52_method_6_code 1 (some .int) ws (rmm 0 0 0 0) #[(.ref t1)] h0 (QL16 Z t1 kb zz vs nn h0 n0) := by
  refine MetFree.of_bodySF (plainFor_of_name pn_java_lang_StringUTF16) hisR ?_
  intro p e s m args below meth c s₁ Bd hml0 hP hK
  obtain ⟨rfl, hZ, hh⟩ := hP
  have hx := Bd.exec
  have hby := Bd.bytes
  have hlk : meth.locks = false := Bd.notSynchronized
  have hml : c.maxLocals = 1 := hml0
  have hown : s.vm.findClass "java/lang/StringUTF16" = some m.cls := findClass_of_methodNamed Bd.named
  have hnm := (name_of_methodNamed Bd.named Bd.method).1
  have X0 : Stand p l e (rmm 0 0 0 0) s m #[(.ref t1)] below meth c s₁ [] 0 0 := Stand.of_body Bd
  have e0 : s₁.heap = h0 := by rw [← hh, Bd.state]; rfl
  have N0 := Fr.nil n0
  show Go p e below (FinE s below (QL16 Z t1 kb zz vs nn h0 n0) (rmm 0 0 0 0).cells (rmm 0 0 0 0).slots) (s₁.setTop (entryFrame m #[(.ref t1)] 1))
  refine Go.via (fun t k => castTop (ef_rmL16 m t1) k) ?_
  refine Go.via (fun _ => XS.aloadN X0.here hx rfl (hb hby d26_0) rfl rfl) ?_
  obtain ⟨cl101, Ar101, -, S101, N101n, -, -⟩ := id V2
  have al101 := X0.arraylength hx (by rw [e0]; exact Ar101.1) (State.isArrayOf_alike hZ.alike Ar101.2.1) (g := (mkF m 1 #[rv t1] [(.ref t1)])) rfl rfl (hb hby d26_1)
  rw [len_of S101 N101n] at al101
  refine Go.via al101 ?_
  refine Go.via (fun _ => XS.iconst X0.here hx rfl (hb hby d26_2)) ?_
  refine Go.via (fun _ => XS.ishr X0.here hx rfl (hb hby d26_3) rfl) ?_
  exact own_retI X0 hx hlk Bd.returns (hb hby d26_4) (by show QL16 Z t1 kb zz vs nn h0 n0 _ s₁.heap _; rw [e0]; exact ⟨congrArg (fun z => some (Value.int z)) hzn, N0, rfl⟩) (by decide) (by decide)
theorem ef_rmGetC (m : MethodId) (x0 : Addr) (x1 : Int32) : entryFrame m #[(.ref x0), (.int x1)] 2 = mkF m 0 #[rv x0, iv x1] [] := by first | (simp [entryFrame, mkF, argsToLocals, Value.category]; done) | rfl
def QGetC (Z : State) (t1 : Addr) (kb : ClassId) (zz : Int32) (vs : List Value) (ii : Int32) (ch : Int32) (ccs : Int32) (vF : Value) (h0 : Heap) (n0 : Nat) (v : Option Value) (h : Heap) (L : List Loc) : Prop := v = some (.int ch) ∧ Fr n0 L ∧ h = h0
set_option maxRecDepth 65536 in
set_option maxHeartbeats 40000000 in
theorem rmGetC (l : Launch) (Z : State) (a0 : Array Value) (hw : TW Z a0) (ws : List Jvm.Cond) (t1 : Addr) (kb : ClassId) (zz : Int32) (vs : List Value) (ii : Int32) (ch : Int32) (ccs : Int32) (vF : Value) (h0 : Heap) (n0 : Nat) (Z0 : n0 ≤ h0.size) (V2 : Arv Z h0 t1 kb .byte zz vs (.int (0 : Int32))) (hj0 : ¬ ((ii <<< ((1 : Int32) &&& 31)) < 0) ∧ (ii <<< ((1 : Int32) &&& 31)) < zz) (hj1 : ¬ (((ii <<< ((1 : Int32) &&& 31)) + (1 : Int32)) < 0) ∧ ((ii <<< ((1 : Int32) &&& 31)) + (1 : Int32)) < zz) (hat0 : vs.getD ((ii <<< ((1 : Int32) &&& 31))).toNatClampNeg (.int (0 : Int32)) = (.int (nar .byte ((ch >>> ((0 : Int32) &&& 31)).toInt8.toInt32)))) (hat1 : vs.getD (((ii <<< ((1 : Int32) &&& 31)) + (1 : Int32))).toNatClampNeg (.int (0 : Int32)) = (.int (nar .byte ((ch >>> ((8 : Int32) &&& 31)).toInt8.toInt32)))) (hu : nar .char ((((((nar .byte ((ch >>> ((0 : Int32) &&& 31)).toInt8.toInt32))) &&& (255 : Int32)) <<< ((0 : Int32) &&& 31)) ||| ((((nar .byte ((ch >>> ((8 : Int32) &&& 31)).toInt8.toInt32))) &&& (255 : Int32)) <<< ((8 : Int32) &&& 31))).toUInt32.toUInt16.toUInt32.toInt32) = ch) (O0 : Old Z n0 h0) (G : SG Z ccs vF) :
    MF l Z (⟨"java/lang/StringUTF16", "getChar", "([BI)C"⟩ : MethodName) jdk_52_method_5_code 2 (some .char) ws (rmm 0 0 0 0) #[(.ref t1), (.int ii)] h0 (QGetC Z t1 kb zz vs ii ch ccs vF h0 n0) := by
  refine MetFree.of_bodySF (plainFor_of_name pn_java_lang_StringUTF16) hisR ?_
  intro p e s m args below meth c s₁ Bd hml0 hP hK
  obtain ⟨rfl, hZ, hh⟩ := hP
  have hx := Bd.exec
  have hby := Bd.bytes
  have hlk : meth.locks = false := Bd.notSynchronized
  have hml : c.maxLocals = 2 := hml0
  have hown : s.vm.findClass "java/lang/StringUTF16" = some m.cls := findClass_of_methodNamed Bd.named
  have hnm := (name_of_methodNamed Bd.named Bd.method).1
  have rF := G.2.2.2.2.2.2
  have hcs := G.2.1
  have X0 : Stand p l e (rmm 0 0 0 0) s m #[(.ref t1), (.int ii)] below meth c s₁ [] 0 0 := Stand.of_body Bd
  have e0 : s₁.heap = h0 := by rw [← hh, Bd.state]; rfl
  have N0 := Fr.nil n0
  show Go p e below (FinE s below (QGetC Z t1 kb zz vs ii ch ccs vF h0 n0) (rmm 0 0 0 0).cells (rmm 0 0 0 0).slots) (s₁.setTop (entryFrame m #[(.ref t1), (.int ii)] 2))
  refine Go.via (fun t k => castTop (ef_rmGetC m t1 ii) k) ?_
  obtain ⟨T101, X101, e101, st101⟩ := getS2 X0 hx hZ hown (host := "") (Or.inl (ow hw 98 rfl)) Via.refl e0 (G.2.2.1.ext O0.2) (g := (mkF m 0 #[rv t1, iv ii] [])) rfl (hb hby d23_0)
  refine Go.via st101 ?_
  refine Go.via (fun _ => XS.ifYes X101.here hx rfl (pc0 := 3) (pc' := 28) rfl (hb hby d23_3) rfl (by decide) (by decide) (by decide)) ?_
  refine Go.via (fun _ => XS.iloadN X101.here hx rfl (hb hby d23_28) rfl) ?_
  refine Go.via (fun _ => XS.iconst X101.here hx rfl (hb hby d23_29)) ?_
  refine Go.via (fun _ => XS.ishl X101.here hx rfl (hb hby d23_30) rfl) ?_
  show Go p e below _ (T101.setTop (mkF m 31 #[rv t1, iv ii] [(.int (ii <<< ((1 : Int32) &&& 31)))]))
  refine Go.via (fun _ => XS.istoreN X101.here hx rfl (hb hby d23_31) rfl (l' := #[rv t1, iv (ii <<< ((1 : Int32) &&& 31))]) rfl) ?_
  refine Go.via (fun _ => XS.aloadN X101.here hx rfl (hb hby d23_32) rfl rfl) ?_
  refine Go.via (fun _ => XS.iloadN X101.here hx rfl (hb hby d23_33) rfl) ?_
  refine Go.via (fun _ => XS.iinc X101.here hx rfl (hb hby d23_34) rfl (l' := #[rv t1, iv ((ii <<< ((1 : Int32) &&& 31)) + (1 : Int32))]) rfl) ?_
  obtain ⟨cl102, Ar102, q102, S102, N102n, H102, G102⟩ := id V2
  have hin102 := inb_of (j := (ii <<< ((1 : Int32) &&& 31))) S102 hj0
  have hat102 : cl102.slots[((ii <<< ((1 : Int32) &&& 31)) : Int32).toNatClampNeg]? = some (.int (nar .byte ((ch >>> ((0 : Int32) &&& 31)).toInt8.toInt32))) := H102.at hin102 hat0
  refine Go.via (X101.baloadBytes hx (j := (ii <<< ((1 : Int32) &&& 31))) (v := (.int (nar .byte ((ch >>> ((0 : Int32) &&& 31)).toInt8.toInt32)))) (by rw [e101]; exact Ar102.1) (State.isArrayOf_alike hZ.alike Ar102.2.1) Ar102.2.2 hin102 hat102 (g := (mkF m 37 #[rv t1, iv ((ii <<< ((1 : Int32) &&& 31)) + (1 : Int32))] [(.int (ii <<< ((1 : Int32) &&& 31))), (.ref t1)])) rfl rfl (hb hby d23_37)) ?_
  refine Go.via (fun _ => XS.sipush X101.here hx rfl (hb hby d23_38)) ?_
  show Go p e below _ (T101.setTop (mkF m 41 #[rv t1, iv ((ii <<< ((1 : Int32) &&& 31)) + (1 : Int32))] [(.int (255 : Int32)), (.int (nar .byte ((ch >>> ((0 : Int32) &&& 31)).toInt8.toInt32)))]))
  refine Go.via (fun _ => XS.iand X101.here hx rfl (hb hby d23_41) rfl) ?_
  obtain ⟨T103, X103, e103, st103⟩ := getS2 X101 hx hZ hown (host := "") (Or.inl (ow hw 99 rfl)) Via.refl e101 (G.2.2.2.1.ext O0.2) (g := (mkF m 42 #[rv t1, iv ((ii <<< ((1 : Int32) &&& 31)) + (1 : Int32))] [(.int ((nar .byte ((ch >>> ((0 : Int32) &&& 31)).toInt8.toInt32)) &&& (255 : Int32)))])) rfl (hb hby d23_42)
  refine Go.via st103 ?_
  refine Go.via (fun _ => XS.ishl X103.here hx rfl (hb hby d23_45) rfl) ?_
  refine Go.via (fun _ => XS.aloadN X103.here hx rfl (hb hby d23_46) rfl rfl) ?_
  refine Go.via (fun _ => XS.iloadN X103.here hx rfl (hb hby d23_47) rfl) ?_
  obtain ⟨cl104, Ar104, q104, S104, N104n, H104, G104⟩ := id V2
  have hin104 := inb_of (j := ((ii <<< ((1 : Int32) &&& 31)) + (1 : Int32))) S104 hj1
  have hat104 : cl104.slots[(((ii <<< ((1 : Int32) &&& 31)) + (1 : Int32)) : Int32).toNatClampNeg]? = some (.int (nar .byte ((ch >>> ((8 : Int32) &&& 31)).toInt8.toInt32))) := H104.at hin104 hat1
  refine Go.via (X103.baloadBytes hx (j := ((ii <<< ((1 : Int32) &&& 31)) + (1 : Int32))) (v := (.int (nar .byte ((ch >>> ((8 : Int32) &&& 31)).toInt8.toInt32)))) (by rw [e103]; exact Ar104.1) (State.isArrayOf_alike hZ.alike Ar104.2.1) Ar104.2.2 hin104 hat104 (g := (mkF m 48 #[rv t1, iv ((ii <<< ((1 : Int32) &&& 31)) + (1 : Int32))] [(.int ((ii <<< ((1 : Int32) &&& 31)) + (1 : Int32))), (.ref t1), (.int (((nar .byte ((ch >>> ((0 : Int32) &&& 31)).toInt8.toInt32)) &&& (255 : Int32)) <<< ((0 : Int32) &&& 31)))])) rfl rfl (hb hby d23_48)) ?_
  show Go p e below _ (T103.setTop (mkF m 49 #[rv t1, iv ((ii <<< ((1 : Int32) &&& 31)) + (1 : Int32))] [(.int (nar .byte ((ch >>> ((8 : Int32) &&& 31)).toInt8.toInt32))), (.int (((nar .byte ((ch >>> ((0 : Int32) &&& 31)).toInt8.toInt32)) &&& (255 : Int32)) <<< ((0 : Int32) &&& 31)))]))
  refine Go.via (fun _ => XS.sipush X103.here hx rfl (hb hby d23_49)) ?_
  refine Go.via (fun _ => XS.iand X103.here hx rfl (hb hby d23_52) rfl) ?_
  obtain ⟨T105, X105, e105, st105⟩ := getS2 X103 hx hZ hown (host := "") (Or.inl (ow hw 100 rfl)) Via.refl e103 (G.2.2.2.2.1.ext O0.2) (g := (mkF m 53 #[rv t1, iv ((ii <<< ((1 : Int32) &&& 31)) + (1 : Int32))] [(.int ((nar .byte ((ch >>> ((8 : Int32) &&& 31)).toInt8.toInt32)) &&& (255 : Int32))), (.int (((nar .byte ((ch >>> ((0 : Int32) &&& 31)).toInt8.toInt32)) &&& (255 : Int32)) <<< ((0 : Int32) &&& 31)))])) rfl (hb hby d23_53)
  refine Go.via st105 ?_
  refine Go.via (fun _ => XS.ishl X105.here hx rfl (hb hby d23_56) rfl) ?_
  refine Go.via (fun _ => XS.ior X105.here hx rfl (hb hby d23_57) rfl) ?_
  refine Go.via (fun _ => XS.i2c X105.here hx rfl (hb hby d23_58) rfl) ?_
  show Go p e below _ (T105.setTop (mkF m 59 #[rv t1, iv ((ii <<< ((1 : Int32) &&& 31)) + (1 : Int32))] [(.int (((((nar .byte ((ch >>> ((0 : Int32) &&& 31)).toInt8.toInt32)) &&& (255 : Int32)) <<< ((0 : Int32) &&& 31)) ||| (((nar .byte ((ch >>> ((8 : Int32) &&& 31)).toInt8.toInt32)) &&& (255 : Int32)) <<< ((8 : Int32) &&& 31))).toUInt32.toUInt16.toUInt32.toInt32))]))
  exact own_retN X105 hx hlk (t := .char) Bd.returns (by simp) (hb hby d23_59) (by show QGetC Z t1 kb zz vs ii ch ccs vF h0 n0 _ T105.heap _; rw [e105]; exact ⟨congrArg (fun z => some (Value.int z)) hu, N0, rfl⟩) (by decide) (by decide)
theorem ef_rmUC (m : MethodId) (x0 : Int32) (x1 : Addr) : entryFrame m #[(.int x0), (.ref x1)] 2 = mkF m 0 #[iv x0, rv x1] [] := by first | (simp [entryFrame, mkF, argsToLocals, Value.category]; done) | rfl
def QUC (Z : State) (t1 : Addr) (kb : ClassId) (zz : Int32) (vs : List Value) (ii : Int32) (nn : Int32) (ccs : Int32) (vF : Value) (h0 : Heap) (n0 : Nat) (v : Option Value) (h : Heap) (L : List Loc) : Prop := v = none ∧ Fr n0 L ∧ h = h0
set_option maxRecDepth 65536 in
set_option maxHeartbeats 40000000 in
theorem rmUC (l : Launch) (Z : State) (a0 : Array Value) (hw : TW Z a0) (ws : List Jvm.Cond) (t1 : Addr) (kb : ClassId) (zz : Int32) (vs : List Value) (ii : Int32) (nn : Int32) (ccs : Int32) (vF : Value) (h0 : Heap) (n0 : Nat) (Z0 : n0 ≤ h0.size) (V2 : Arv Z h0 t1 kb .byte zz vs (.int (0 : Int32))) (hzn : (zz >>> ((1 : Int32) &&& 31)) = nn) (hi0 : ¬ (ii < (0 : Int32))) (hi1 : ii < nn) (O0 : Old Z n0 h0) (G : SG Z ccs vF) :
    MF l Z (⟨"java/lang/StringUTF16", "checkIndex", "(I[B)V"⟩ : MethodName) jdk_52_method_91_code 2 none ws (rmm 2 0 0 27) #[(.int ii), (.ref t1)] h0 (QUC Z t1 kb zz vs ii nn ccs vF h0 n0) := by
  refine MetFree.of_bodySF (plainFor_of_name pn_java_lang_StringUTF16) hisR ?_
  intro p e s m args below meth c s₁ Bd hml0 hP hK
  obtain ⟨rfl, hZ, hh⟩ := hP
  have hx := Bd.exec
  have hby := Bd.bytes
  have hlk : meth.locks = false := Bd.notSynchronized
  have hml : c.maxLocals = 2 := hml0
  have hown : s.vm.findClass "java/lang/StringUTF16" = some m.cls := findClass_of_methodNamed Bd.named
  have hnm := (name_of_methodNamed Bd.named Bd.method).1
  have rF := G.2.2.2.2.2.2
  have hcs := G.2.1
  have X0 : Stand p l e (rmm 2 0 0 27) s m #[(.int ii), (.ref t1)] below meth c s₁ [] 0 0 := Stand.of_body Bd
  have e0 : s₁.heap = h0 := by rw [← hh, Bd.state]; rfl
  have N0 := Fr.nil n0
  show Go p e below (FinE s below (QUC Z t1 kb zz vs ii nn ccs vF h0 n0) (rmm 2 0 0 27).cells (rmm 2 0 0 27).slots) (s₁.setTop (entryFrame m #[(.int ii), (.ref t1)] 2))
  refine Go.via (fun t k => castTop (ef_rmUC m ii t1) k) ?_
  refine Go.via (fun _ => XS.iloadN X0.here hx rfl (hb hby d25_0) rfl) ?_
  refine Go.via (fun _ => XS.aloadN X0.here hx rfl (hb hby d25_1) rfl rfl) ?_
  obtain ⟨_, _, ⟨T101, L101, k101, n101⟩, -, X101, ⟨Lc101, hQ101, l101, y101, z101⟩, st101⟩ := Jvm.LawKit.callS X0 hx (y := (⟨"java/lang/StringUTF16", "length", "([B)I"⟩ : MethodName)) hown (mvT hZ (ow hw 110 rfl)) (mvT hZ (ow hw 111 rfl)) (mvT hZ (ow hw 35 rfl)) (mvT hZ (ow hw 112 rfl)) (by decide) (backOf (W := 1) (rmL16 l Z a0 hw [] t1 kb zz vs nn h0 n0 Z0 V2 hzn) hZ (ow hw 112 rfl) (ow hw 35 rfl) (by decide) (by decide)) (g := (mkF m 2 #[iv ii, rv t1] [(.ref t1), (.int ii)])) rfl (by rw [hml]; rfl) (argsL := [(.ref t1)]) (rest := [(.int ii)]) (lenOf pd_8 rfl) rfl (by show 2 * 0 + _ ≤ _; exact Nat.le_of_eq rfl) (hb hby d25_2) (fun _ _ => ⟨rfl, e0, (by decide : 0 + 0 ≤ _), (by decide : 0 + 0 ≤ _)⟩)
  dsimp only [Pt.U, Pt.locs, Pt.cells, Pt.slots] at X101 l101 y101 z101 st101 hQ101
  rw [l101, y101, z101] at X101
  replace X101 : Stand p l e _ _ m _ below meth c T101 _ 0 0 := X101
  obtain ⟨rfl, N101q, e101q⟩ := hQ101
  have N101 := Fr.app N0 N101q
  refine Go.via st101 ?_
  obtain ⟨_, _, ⟨T102, L102, k102, n102⟩, -, X102, ⟨Lc102, hQ102, l102, y102, z102⟩, st102⟩ := Jvm.LawKit.callS X101 hx (y := (⟨"java/lang/String", "checkIndex", "(II)V"⟩ : MethodName)) hown (mvT hZ (ow hw 113 rfl)) (mvT hZ (ow hw 72 rfl)) (mvT hZ (ow hw 4 rfl)) (mvT hZ (ow hw 73 rfl)) (by decide) (backOf (W := 0) (rmSC l Z a0 hw [] ii nn ccs vF h0 n0 Z0 hi0 hi1 O0 G) hZ (ow hw 73 rfl) (ow hw 4 rfl) (by decide) (by decide)) (g := (mkF m 5 #[iv ii, rv t1] [(.int nn), (.int ii)])) rfl (by rw [hml]; rfl) (argsL := [(.int ii), (.int nn)]) (rest := []) (lenOf pd_2 rfl) rfl (by show 2 * 0 + _ ≤ _; exact Nat.le_of_eq rfl) (hb hby d25_5) (fun _ _ => ⟨rfl, e101q, (by decide : 0 + 0 ≤ _), (by decide : 0 + 0 ≤ _)⟩)
  dsimp only [Pt.U, Pt.locs, Pt.cells, Pt.slots] at X102 l102 y102 z102 st102 hQ102
  rw [l102, y102, z102] at X102
  replace X102 : Stand p l e _ _ m _ below meth c T102 _ 0 0 := X102
  obtain ⟨rfl, N102q, e102q⟩ := hQ102
  have N102 := Fr.app N101 N102q
  refine Go.via st102 ?_
  exact own_retV X102 hx hlk Bd.returns (hb hby d25_8) (by show QUC Z t1 kb zz vs ii nn ccs vF h0 n0 _ T102.heap _; rw [e102q]; exact ⟨rfl, N102, rfl⟩) (by decide) (by decide)
theorem ef_rmUA (m : MethodId) (x0 : Addr) (x1 : Int32) : entryFrame m #[(.ref x0), (.int x1)] 2 = mkF m 0 #[rv x0, iv x1] [] := by first | (simp [entryFrame, mkF, argsToLocals, Value.category]; done) | rfl
def QUA (Z : State) (t1 : Addr) (kb : ClassId) (zz : Int32) (vs : List Value) (ii : Int32) (ch : Int32) (nn : Int32) (ccs : Int32) (vF : Value) (h0 : Heap) (n0 : Nat) (v : Option Value) (h : Heap) (L : List Loc) : Prop := v = some (.int ch) ∧ Fr n0 L ∧ h = h0
set_option maxRecDepth 65536 in
set_option maxHeartbeats 40000000 in
theorem rmUA (l : Launch) (Z : State) (a0 : Array Value) (hw : TW Z a0) (ws : List Jvm.Cond) (t1 : Addr) (kb : ClassId) (zz : Int32) (vs : List Value) (ii : Int32) (ch : Int32) (nn : Int32) (ccs : Int32) (vF : Value) (h0 : Heap) (n0 : Nat) (Z0 : n0 ≤ h0.size) (V2 : Arv Z h0 t1 kb .byte zz vs (.int (0 : Int32))) (hzn : (zz >>> ((1 : Int32) &&& 31)) = nn) (hi0 : ¬ (ii < (0 : Int32))) (hi1 : ii < nn) (hj0 : ¬ ((ii <<< ((1 : Int32) &&& 31)) < 0) ∧ (ii <<< ((1 : Int32) &&& 31)) < zz) (hj1 : ¬ (((ii <<< ((1 : Int32) &&& 31)) + (1 : Int32)) < 0) ∧ ((ii <<< ((1 : Int32) &&& 31)) + (1 : Int32)) < zz) (hat0 : vs.getD ((ii <<< ((1 : Int32) &&& 31))).toNatClampNeg (.int (0 : Int32)) = (.int (nar .byte ((ch >>> ((0 : Int32) &&& 31)).toInt8.toInt32)))) (hat1 : vs.getD (((ii <<< ((1 : Int32) &&& 31)) + (1 : Int32))).toNatClampNeg (.int (0 : Int32)) = (.int (nar .byte ((ch >>> ((8 : Int32) &&& 31)).toInt8.toInt32)))) (hu : nar .char ((((((nar .byte ((ch >>> ((0 : Int32) &&& 31)).toInt8.toInt32))) &&& (255 : Int32)) <<< ((0 : Int32) &&& 31)) ||| ((((nar .byte ((ch >>> ((8 : Int32) &&& 31)).toInt8.toInt32))) &&& (255 : Int32)) <<< ((8 : Int32) &&& 31))).toUInt32.toUInt16.toUInt32.toInt32) = ch) (hn : nar .char ch = ch) (O0 : Old Z n0 h0) (G : SG Z ccs vF) :
    MF l Z (⟨"java/lang/StringUTF16", "charAt", "([BI)C"⟩ : MethodName) jdk_52_method_83_code 2 (some .char) ws (rmm 3 0 0 40) #[(.ref t1), (.int ii)] h0 (QUA Z t1 kb zz vs ii ch nn ccs vF h0 n0) := by
  refine MetFree.of_bodySF (plainFor_of_name pn_java_lang_StringUTF16) hisR ?_
  intro p e s m args below meth c s₁ Bd hml0 hP hK
  obtain ⟨rfl, hZ, hh⟩ := hP
  have hx := Bd.exec
  have hby := Bd.bytes
  have hlk : meth.locks = false := Bd.notSynchronized
  have hml : c.maxLocals = 2 := hml0
  have hown : s.vm.findClass "java/lang/StringUTF16" = some m.cls := findClass_of_methodNamed Bd.named
  have hnm := (name_of_methodNamed Bd.named Bd.method).1
  have rF := G.2.2.2.2.2.2
  have hcs := G.2.1
  have X0 : Stand p l e (rmm 3 0 0 40) s m #[(.ref t1), (.int ii)] below meth c s₁ [] 0 0 := Stand.of_body Bd
  have e0 : s₁.heap = h0 := by rw [← hh, Bd.state]; rfl
  have N0 := Fr.nil n0
  show Go p e below (FinE s below (QUA Z t1 kb zz vs ii ch nn ccs vF h0 n0) (rmm 3 0 0 40).cells (rmm 3 0 0 40).slots) (s₁.setTop (entryFrame m #[(.ref t1), (.int ii)] 2))
  refine Go.via (fun t k => castTop (ef_rmUA m t1 ii) k) ?_
  refine Go.via (fun _ => XS.iloadN X0.here hx rfl (hb hby d24_0) rfl) ?_
  refine Go.via (fun _ => XS.aloadN X0.here hx rfl (hb hby d24_1) rfl rfl) ?_
  obtain ⟨_, _, ⟨T101, L101, k101, n101⟩, -, X101, ⟨Lc101, hQ101, l101, y101, z101⟩, st101⟩ := Jvm.LawKit.callS X0 hx (y := (⟨"java/lang/StringUTF16", "checkIndex", "(I[B)V"⟩ : MethodName)) hown (mvT hZ (ow hw 107 rfl)) (mvT hZ (ow hw 108 rfl)) (mvT hZ (ow hw 35 rfl)) (mvT hZ (ow hw 109 rfl)) (by decide) (backOf (W := 0) (rmUC l Z a0 hw [] t1 kb zz vs ii nn ccs vF h0 n0 Z0 V2 hzn hi0 hi1 O0 G) hZ (ow hw 109 rfl) (ow hw 35 rfl) (by decide) (by decide)) (g := (mkF m 2 #[rv t1, iv ii] [(.ref t1), (.int ii)])) rfl (by rw [hml]; rfl) (argsL := [(.int ii), (.ref t1)]) (rest := []) (lenOf pd_9 rfl) rfl (by show 2 * 0 + _ ≤ _; exact Nat.le_of_eq rfl) (hb hby d24_2) (fun _ _ => ⟨rfl, e0, (by decide : 0 + 0 ≤ _), (by decide : 0 + 0 ≤ _)⟩)
  dsimp only [Pt.U, Pt.locs, Pt.cells, Pt.slots] at X101 l101 y101 z101 st101 hQ101
  rw [l101, y101, z101] at X101
  replace X101 : Stand p l e _ _ m _ below meth c T101 _ 0 0 := X101
  obtain ⟨rfl, N101q, e101q⟩ := hQ101
  have N101 := Fr.app N0 N101q
  refine Go.via st101 ?_
  refine Go.via (fun _ => XS.aloadN X101.here hx rfl (hb hby d24_5) rfl rfl) ?_
  refine Go.via (fun _ => XS.iloadN X101.here hx rfl (hb hby d24_6) rfl) ?_
  show Go p e below _ (T101.setTop (mkF m 7 #[rv t1, iv ii] [(.int ii), (.ref t1)]))
  obtain ⟨_, _, ⟨T102, L102, k102, n102⟩, -, X102, ⟨Lc102, hQ102, l102, y102, z102⟩, st102⟩ := Jvm.LawKit.callS X101 hx (y := (⟨"java/lang/StringUTF16", "getChar", "([BI)C"⟩ : MethodName)) hown (mvT hZ (ow hw 101 rfl)) (mvT hZ (ow hw 102 rfl)) (mvT hZ (ow hw 35 rfl)) (mvT hZ (ow hw 103 rfl)) (by decide) (backOf (W := 0) (rmGetC l Z a0 hw [] t1 kb zz vs ii ch ccs vF h0 n0 Z0 V2 hj0 hj1 hat0 hat1 hu O0 G) hZ (ow hw 103 rfl) (ow hw 35 rfl) (by decide) (by decide)) (g := (mkF m 7 #[rv t1, iv ii] [(.int ii), (.ref t1)])) rfl (by rw [hml]; rfl) (argsL := [(.ref t1), (.int ii)]) (rest := []) (lenOf pd_3 rfl) rfl (by show 2 * 0 + _ ≤ _; exact Nat.le_of_eq rfl) (hb hby d24_7) (fun _ _ => ⟨rfl, e101q, (by decide : 0 + 0 ≤ _), (by decide : 0 + 0 ≤ _)⟩)
  dsimp only [Pt.U, Pt.locs, Pt.cells, Pt.slots] at X102 l102 y102 z102 st102 hQ102
  rw [l102, y102, z102] at X102
  replace X102 : Stand p l e _ _ m _ below meth c T102 _ 0 0 := X102
  obtain ⟨rfl, N102q, e102q⟩ := hQ102
  have N102 := Fr.app N101 N102q
  refine Go.via st102 ?_
  exact own_retN X102 hx hlk (t := .char) Bd.returns (by simp) (hb hby d24_10) (by show QUA Z t1 kb zz vs ii ch nn ccs vF h0 n0 _ T102.heap _; rw [e102q]; exact ⟨congrArg (fun z => some (Value.int z)) hn, N102, rfl⟩) (by decide) (by decide)
theorem ef_rmIsLat16 (m : MethodId) (x0 : Addr) : entryFrame m #[(.ref x0)] 1 = mkF m 0 #[rv x0] [] := by first | (simp [entryFrame, mkF, argsToLocals, Value.category]; done) | rfl
def QIsLat16 (Z : State) (a1 : Addr) (ccs : Int32) (vF : Value) (h0 : Heap) (n0 : Nat) (v : Option Value) (h : Heap) (L : List Loc) : Prop := v = some (.int (0 : Int32)) ∧ Fr n0 L ∧ h = h0
set_option maxRecDepth 65536 in
set_option maxHeartbeats 40000000 in
theorem rmIsLat16 (l : Launch) (Z : State) (a0 : Array Value) (hw : TW Z a0) (ws : List Jvm.Cond) (a1 : Addr) (ccs : Int32) (vF : Value) (h0 : Heap) (n0 : Nat) (Z0 : n0 ≤ h0.size) (F2 : Fld Z h0 a1 "java/lang/String" "coder" "B" (.int (1 : Int32))) (O0 : Old Z n0 h0) (G : SG Z ccs vF) :
    MF l Z (⟨"java/lang/String", "isLatin1", "()Z"⟩ : MethodName) jdk_42_method_154_code 1 (some .boolean) ws (rmm 0 0 0 0) #[(.ref a1)] h0 (QIsLat16 Z a1 ccs vF h0 n0) := by
  refine MetFree.of_bodySF (plainFor_of_name pn_java_lang_String) hisR ?_
  intro p e s m args below meth c s₁ Bd hml0 hP hK
  obtain ⟨rfl, hZ, hh⟩ := hP
  have hx := Bd.exec
  have hby := Bd.bytes
  have hlk : meth.locks = false := Bd.notSynchronized
  have hml : c.maxLocals = 1 := hml0
  have hown : s.vm.findClass "java/lang/String" = some m.cls := findClass_of_methodNamed Bd.named
  have hnm := (name_of_methodNamed Bd.named Bd.method).1
  have rF := G.2.2.2.2.2.2
  have hcs := G.2.1
  have X0 : Stand p l e (rmm 0 0 0 0) s m #[(.ref a1)] below meth c s₁ [] 0 0 := Stand.of_body Bd
  have e0 : s₁.heap = h0 := by rw [← hh, Bd.state]; rfl
  have N0 := Fr.nil n0
  show Go p e below (FinE s below (QIsLat16 Z a1 ccs vF h0 n0) (rmm 0 0 0 0).cells (rmm 0 0 0 0).slots) (s₁.setTop (entryFrame m #[(.ref a1)] 1))
  refine Go.via (fun t k => castTop (ef_rmIsLat16 m a1) k) ?_
  obtain ⟨T101, X101, e101, st101⟩ := getS2 X0 hx hZ hown (host := "") (Or.inl (ow hw 32 rfl)) Via.refl e0 (G.1.ext O0.2) (g := (mkF m 0 #[rv a1] [])) rfl (hb hby d13_0)
  refine Go.via st101 ?_
  refine Go.via (fun _ => XS.ifNo X101.here hx rfl (hb hby d13_3) rfl ((if0 _ _).trans (feq hcs).1)) ?_
  refine Go.via (fun _ => XS.aloadN X101.here hx rfl (hb hby d13_6) rfl rfl) ?_
  obtain ⟨T102, X102, e102, st102⟩ := getF X101 hx hZ hown (host := "") (Or.inl (ow hw 22 rfl)) Via.refl e101 F2 (g := (mkF m 7 #[rv a1] [(.ref a1)])) rfl rfl (hb hby d13_7)
  refine Go.via st102 ?_
  refine Go.via (fun _ => XS.ifYes X102.here hx rfl (pc0 := 10) (pc' := 17) rfl (hb hby d13_10) rfl (by decide) (by decide) (by decide)) ?_
  show Go p e below _ (T102.setTop (mkF m 17 #[rv a1] []))
  refine Go.via (fun _ => XS.iconst X102.here hx rfl (hb hby d13_17)) ?_
  exact own_retN X102 hx hlk (t := .boolean) Bd.returns (by simp) (hb hby d13_18) (by show QIsLat16 Z a1 ccs vF h0 n0 _ T102.heap _; rw [e102]; exact ⟨rfl, N0, rfl⟩) (by decide) (by decide)
theorem ef_rmCA_1 (m : MethodId) (x0 : Addr) (x1 : Int32) : entryFrame m #[(.ref x0), (.int x1)] 2 = mkF m 0 #[rv x0, iv x1] [] := by first | (simp [entryFrame, mkF, argsToLocals, Value.category]; done) | rfl
def QCA_1 (Z : State) (a1 : Addr) (t1 : Addr) (kb : ClassId) (zz : Int32) (vs : List Value) (ii : Int32) (ch : Int32) (nn : Int32) (ccs : Int32) (vF : Value) (h0 : Heap) (n0 : Nat) (v : Option Value) (h : Heap) (L : List Loc) : Prop := v = some (.int ch) ∧ Fr n0 L ∧ h = h0
set_option maxRecDepth 65536 in
set_option maxHeartbeats 40000000 in
theorem rmCA_1 (l : Launch) (Z : State) (a0 : Array Value) (hw : TW Z a0) (ws : List Jvm.Cond) (a1 : Addr) (t1 : Addr) (kb : ClassId) (zz : Int32) (vs : List Value) (ii : Int32) (ch : Int32) (nn : Int32) (ccs : Int32) (vF : Value) (h0 : Heap) (n0 : Nat) (Z0 : n0 ≤ h0.size) (E1 : Exa Z h0 a1 "java/lang/String") (F1 : Fld Z h0 a1 "java/lang/String" "value" "[B" (.ref t1)) (F2 : Fld Z h0 a1 "java/lang/String" "coder" "B" (.int (1 : Int32))) (V2 : Arv Z h0 t1 kb .byte zz vs (.int (0 : Int32))) (hzn : (zz >>> ((1 : Int32) &&& 31)) = nn) (hi0 : ¬ (ii < (0 : Int32))) (hi1 : ii < nn) (hj0 : ¬ ((ii <<< ((1 : Int32) &&& 31)) < 0) ∧ (ii <<< ((1 : Int32) &&& 31)) < zz) (hj1 : ¬ (((ii <<< ((1 : Int32) &&& 31)) + (1 : Int32)) < 0) ∧ ((ii <<< ((1 : Int32) &&& 31)) + (1 : Int32)) < zz) (hat0 : vs.getD ((ii <<< ((1 : Int32) &&& 31))).toNatClampNeg (.int (0 : Int32)) = (.int (nar .byte ((ch >>> ((0 : Int32) &&& 31)).toInt8.toInt32)))) (hat1 : vs.getD (((ii <<< ((1 : Int32) &&& 31)) + (1 : Int32))).toNatClampNeg (.int (0 : Int32)) = (.int (nar .byte ((ch >>> ((8 : Int32) &&& 31)).toInt8.toInt32)))) (hu : nar .char ((((((nar .byte ((ch >>> ((0 : Int32) &&& 31)).toInt8.toInt32))) &&& (255 : Int32)) <<< ((0 : Int32) &&& 31)) ||| ((((nar .byte ((ch >>> ((8 : Int32) &&& 31)).toInt8.toInt32))) &&& (255 : Int32)) <<< ((8 : Int32) &&& 31))).toUInt32.toUInt16.toUInt32.toInt32) = ch) (hn : nar .char ch = ch) (O0 : Old Z n0 h0) (G : SG Z ccs vF) :
    MF l Z (⟨"java/lang/String", "charAt", "(I)C"⟩ : MethodName) jdk_42_method_56_code 2 (some .char) ws (rmm 4 0 0 53) #[(.ref a1), (.int ii)] h0 (QCA_1 Z a1 t1 kb zz vs ii ch nn ccs vF h0 n0) := by
  refine MetFree.of_bodySF (plainFor_of_name pn_java_lang_String) hisR ?_
  intro p e s m args below meth c s₁ Bd hml0 hP hK
  obtain ⟨rfl, hZ, hh⟩ := hP
  have hx := Bd.exec
  have hby := Bd.bytes
  have hlk : meth.locks = false := Bd.notSynchronized
  have hml : c.maxLocals = 2 := hml0
  have hown : s.vm.findClass "java/lang/String" = some m.cls := findClass_of_methodNamed Bd.named
  have hnm := (name_of_methodNamed Bd.named Bd.method).1
  have rF := G.2.2.2.2.2.2
  have hcs := G.2.1
  have X0 : Stand p l e (rmm 4 0 0 53) s m #[(.ref a1), (.int ii)] below meth c s₁ [] 0 0 := Stand.of_body Bd
  have e0 : s₁.heap = h0 := by rw [← hh, Bd.state]; rfl
  have N0 := Fr.nil n0
  show Go p e below (FinE s below (QCA_1 Z a1 t1 kb zz vs ii ch nn ccs vF h0 n0) (rmm 4 0 0 53).cells (rmm 4 0 0 53).slots) (s₁.setTop (entryFrame m #[(.ref a1), (.int ii)] 2))
  refine Go.via (fun t k => castTop (ef_rmCA_1 m a1 ii) k) ?_
  refine Go.via (fun _ => XS.aloadN X0.here hx rfl (hb hby d12_0) rfl rfl) ?_
  obtain ⟨cq101, kq101, q101a, q101b, q101c⟩ := isOf hZ e0 E1
  obtain ⟨_, _, ⟨T101, L101, k101, n101⟩, -, X101, ⟨Lc101, hQ101, l101, y101, z101⟩, st101⟩ := X0.virtualBack hx (y := (⟨"java/lang/String", "isLatin1", "()Z"⟩ : MethodName)) (z := (⟨"java/lang/String", "isLatin1", "()Z"⟩ : MethodName)) hown (mvT hZ (ow hw 62 rfl)) (mvT hZ (ow hw 63 rfl)) (notFace_of_selects (args := #[]) (mvT hZ (ow hw 65 rfl))) (mvT hZ (ow hw 65 rfl)) (mvT hZ (ow hw 64 rfl)) (by decide) (backOf (W := 0) (rmIsLat16 l Z a0 hw [] a1 ccs vF h0 n0 Z0 F2 O0 G) hZ (ow hw 66 rfl) (ow hw 4 rfl) (by decide) (by decide)) q101a q101c (g := (mkF m 1 #[rv a1, iv ii] [(.ref a1)])) rfl (by rw [hml]; rfl) (Steps.refl _) (argsL := []) (rest := []) (lenOf pd_0 rfl) rfl (by show 2 * 0 + _ ≤ _; exact Nat.le_of_eq rfl) (hb hby d12_1) (fun _ _ => ⟨rfl, e0, (by decide : 0 + 0 ≤ _), (by decide : 0 + 0 ≤ _)⟩)
  dsimp only [Pt.U, Pt.locs, Pt.cells, Pt.slots] at X101 l101 y101 z101 st101 hQ101
  rw [l101, y101, z101] at X101
  replace X101 : Stand p l e _ _ m _ below meth c T101 _ 0 0 := X101
  obtain ⟨rfl, N101q, e101q⟩ := hQ101
  have N101 := Fr.app N0 N101q
  refine Go.tr st101 ?_
  refine Go.via (fun _ => XS.ifYes X101.here hx rfl (pc0 := 4) (pc' := 16) rfl (hb hby d12_4) rfl (by decide) (by decide) (by decide)) ?_
  refine Go.via (fun _ => XS.aloadN X101.here hx rfl (hb hby d12_16) rfl rfl) ?_
  obtain ⟨T102, X102, e102, st102⟩ := getF X101 hx hZ hown (host := "") (Or.inl (ow hw 21 rfl)) Via.refl e101q F1 (g := (mkF m 17 #[rv a1, iv ii] [(.ref a1)])) rfl rfl (hb hby d12_17)
  refine Go.via st102 ?_
  show Go p e below _ (T102.setTop (mkF m 20 #[rv a1, iv ii] [(.ref t1)]))
  refine Go.via (fun _ => XS.iloadN X102.here hx rfl (hb hby d12_20) rfl) ?_
  obtain ⟨_, _, ⟨T103, L103, k103, n103⟩, -, X103, ⟨Lc103, hQ103, l103, y103, z103⟩, st103⟩ := Jvm.LawKit.callS X102 hx (y := (⟨"java/lang/StringUTF16", "charAt", "([BI)C"⟩ : MethodName)) hown (mvT hZ (ow hw 104 rfl)) (mvT hZ (ow hw 105 rfl)) (mvT hZ (ow hw 35 rfl)) (mvT hZ (ow hw 106 rfl)) (by decide) (backOf (W := 0) (rmUA l Z a0 hw [] t1 kb zz vs ii ch nn ccs vF h0 n0 Z0 V2 hzn hi0 hi1 hj0 hj1 hat0 hat1 hu hn O0 G) hZ (ow hw 106 rfl) (ow hw 35 rfl) (by decide) (by decide)) (g := (mkF m 21 #[rv a1, iv ii] [(.int ii), (.ref t1)])) rfl (by rw [hml]; rfl) (argsL := [(.ref t1), (.int ii)]) (rest := []) (lenOf pd_3 rfl) rfl (by show 2 * 0 + _ ≤ _; exact Nat.le_of_eq rfl) (hb hby d12_21) (fun _ _ => ⟨rfl, e102, (by decide : 0 + 0 ≤ _), (by decide : 0 + 0 ≤ _)⟩)
  dsimp only [Pt.U, Pt.locs, Pt.cells, Pt.slots] at X103 l103 y103 z103 st103 hQ103
  rw [l103, y103, z103] at X103
  replace X103 : Stand p l e _ _ m _ below meth c T103 _ 0 0 := X103
  obtain ⟨rfl, N103q, e103q⟩ := hQ103
  have N103 := Fr.app N101 N103q
  refine Go.via st103 ?_
  exact own_retN X103 hx hlk (t := .char) Bd.returns (by simp) (hb hby d12_24) (by show QCA_1 Z a1 t1 kb zz vs ii ch nn ccs vF h0 n0 _ T103.heap _; rw [e103q]; exact ⟨congrArg (fun z => some (Value.int z)) hn, N103, rfl⟩) (by decide) (by decide)
theorem ef_rmCoder16 (m : MethodId) (x0 : Addr) : entryFrame m #[(.ref x0)] 1 = mkF m 0 #[rv x0] [] := by first | (simp [entryFrame, mkF, argsToLocals, Value.category]; done) | rfl
def QCoder16 (Z : State) (a1 : Addr) (ccs : Int32) (vF : Value) (h0 : Heap) (n0 : Nat) (v : Option Value) (h : Heap) (L : List Loc) : Prop := v = some (.int (1 : Int32)) ∧ Fr n0 L ∧ h = h0
set_option maxRecDepth 65536 in
set_option maxHeartbeats 40000000 in
theorem rmCoder16 (l : Launch) (Z : State) (a0 : Array Value) (hw : TW Z a0) (ws : List Jvm.Cond) (a1 : Addr) (ccs : Int32) (vF : Value) (h0 : Heap) (n0 : Nat) (Z0 : n0 ≤ h0.size) (F2 : Fld Z h0 a1 "java/lang/String" "coder" "B" (.int (1 : Int32))) (O0 : Old Z n0 h0) (G : SG Z ccs vF) :
    MF l Z (⟨"java/lang/String", "coder", "()B"⟩ : MethodName) jdk_42_method_152_code 1 (some .byte) ws (rmm 0 0 0 0) #[(.ref a1)] h0 (QCoder16 Z a1 ccs vF h0 n0) := by
  refine MetFree.of_bodySF (plainFor_of_name pn_java_lang_String) hisR ?_
  intro p e s m args below meth c s₁ Bd hml0 hP hK
  obtain ⟨rfl, hZ, hh⟩ := hP
  have hx := Bd.exec
  have hby := Bd.bytes
  have hlk : meth.locks = false := Bd.notSynchronized
  have hml : c.maxLocals = 1 := hml0
  have hown : s.vm.findClass "java/lang/String" = some m.cls := findClass_of_methodNamed Bd.named
  have hnm := (name_of_methodNamed Bd.named Bd.method).1
  have rF := G.2.2.2.2.2.2
  have hcs := G.2.1
  have X0 : Stand p l e (rmm 0 0 0 0) s m #[(.ref a1)] below meth c s₁ [] 0 0 := Stand.of_body Bd
  have e0 : s₁.heap = h0 := by rw [← hh, Bd.state]; rfl
  have N0 := Fr.nil n0
  show Go p e below (FinE s below (QCoder16 Z a1 ccs vF h0 n0) (rmm 0 0 0 0).cells (rmm 0 0 0 0).slots) (s₁.setTop (entryFrame m #[(.ref a1)] 1))
  refine Go.via (fun t k => castTop (ef_rmCoder16 m a1) k) ?_
  obtain ⟨T101, X101, e101, st101⟩ := getS2 X0 hx hZ hown (host := "") (Or.inl (ow hw 32 rfl)) Via.refl e0 (G.1.ext O0.2) (g := (mkF m 0 #[rv a1] [])) rfl (hb hby d11_0)
  refine Go.via st101 ?_
  refine Go.via (fun _ => XS.ifNo X101.here hx rfl (hb hby d11_3) rfl ((if0 _ _).trans (feq hcs).1)) ?_
  refine Go.via (fun _ => XS.aloadN X101.here hx rfl (hb hby d11_6) rfl rfl) ?_
  obtain ⟨T102, X102, e102, st102⟩ := getF X101 hx hZ hown (host := "") (Or.inl (ow hw 22 rfl)) Via.refl e101 F2 (g := (mkF m 7 #[rv a1] [(.ref a1)])) rfl rfl (hb hby d11_7)
  refine Go.via st102 ?_
  refine Go.via (fun _ => XS.goto X102.here hx rfl (pc0 := 10) (pc' := 14) rfl (hb hby d11_10) (by decide) (by decide)) ?_
  show Go p e below _ (T102.setTop (mkF m 14 #[rv a1] [(.int (1 : Int32))]))
  exact own_retN X102 hx hlk (t := .byte) Bd.returns (by simp) (hb hby d11_14) (by show QCoder16 Z a1 ccs vF h0 n0 _ T102.heap _; rw [e102]; exact ⟨rfl, N0, rfl⟩) (by decide) (by decide)
theorem ef_rmLen16_1 (m : MethodId) (x0 : Addr) : entryFrame m #[(.ref x0)] 1 = mkF m 0 #[rv x0] [] := by first | (simp [entryFrame, mkF, argsToLocals, Value.category]; done) | rfl
def QLen16_1 (Z : State) (a1 : Addr) (t1 : Addr) (kb : ClassId) (vs : List Value) (ccs : Int32) (vF : Value) (h0 : Heap) (n0 : Nat) (v : Option Value) (h : Heap) (L : List Loc) : Prop := v = some (.int (1 : Int32)) ∧ Fr n0 L ∧ h = h0
set_option maxRecDepth 65536 in
set_option maxHeartbeats 40000000 in
theorem rmLen16_1 (l : Launch) (Z : State) (a0 : Array Value) (hw : TW Z a0) (ws : List Jvm.Cond) (a1 : Addr) (t1 : Addr) (kb : ClassId) (vs : List Value) (ccs : Int32) (vF : Value) (h0 : Heap) (n0 : Nat) (Z0 : n0 ≤ h0.size) (E1 : Exa Z h0 a1 "java/lang/String") (F1 : Fld Z h0 a1 "java/lang/String" "value" "[B" (.ref t1)) (F2 : Fld Z h0 a1 "java/lang/String" "coder" "B" (.int (1 : Int32))) (V2 : Arv Z h0 t1 kb .byte (2 : Int32) vs (.int (0 : Int32))) (O0 : Old Z n0 h0) (G : SG Z ccs vF) :
    MF l Z (⟨"java/lang/String", "length", "()I"⟩ : MethodName) jdk_42_method_54_code 1 (some .int) ws (rmm 1 0 0 13) #[(.ref a1)] h0 (QLen16_1 Z a1 t1 kb vs ccs vF h0 n0) := by
  refine MetFree.of_bodySF (plainFor_of_name pn_java_lang_String) hisR ?_
  intro p e s m args below meth c s₁ Bd hml0 hP hK
  obtain ⟨rfl, hZ, hh⟩ := hP
  have hx := Bd.exec
  have hby := Bd.bytes
  have hlk : meth.locks = false := Bd.notSynchronized
  have hml : c.maxLocals = 1 := hml0
  have hown : s.vm.findClass "java/lang/String" = some m.cls := findClass_of_methodNamed Bd.named
  have hnm := (name_of_methodNamed Bd.named Bd.method).1
  have rF := G.2.2.2.2.2.2
  have hcs := G.2.1
  have X0 : Stand p l e (rmm 1 0 0 13) s m #[(.ref a1)] below meth c s₁ [] 0 0 := Stand.of_body Bd
  have e0 : s₁.heap = h0 := by rw [← hh, Bd.state]; rfl
  have N0 := Fr.nil n0
  show Go p e below (FinE s below (QLen16_1 Z a1 t1 kb vs ccs vF h0 n0) (rmm 1 0 0 13).cells (rmm 1 0 0 13).slots) (s₁.setTop (entryFrame m #[(.ref a1)] 1))
  refine Go.via (fun t k => castTop (ef_rmLen16_1 m a1) k) ?_
  refine Go.via (fun _ => XS.aloadN X0.here hx rfl (hb hby d10_0) rfl rfl) ?_
  obtain ⟨T101, X101, e101, st101⟩ := getF X0 hx hZ hown (host := "") (Or.inl (ow hw 21 rfl)) Via.refl e0 F1 (g := (mkF m 1 #[rv a1] [(.ref a1)])) rfl rfl (hb hby d10_1)
  refine Go.via st101 ?_
  obtain ⟨cl102, Ar102, -, S102, N102n, -, -⟩ := id V2
  have al102 := X101.arraylength hx (by rw [e101]; exact Ar102.1) (State.isArrayOf_alike hZ.alike Ar102.2.1) (g := (mkF m 4 #[rv a1] [(.ref t1)])) rfl rfl (hb hby d10_4)
  rw [len_of S102 N102n] at al102
  refine Go.via al102 ?_
  refine Go.via (fun _ => XS.aloadN X101.here hx rfl (hb hby d10_5) rfl rfl) ?_
  obtain ⟨cq103, kq103, q103a, q103b, q103c⟩ := isOf hZ e101 E1
  obtain ⟨_, _, ⟨T103, L103, k103, n103⟩, -, X103, ⟨Lc103, hQ103, l103, y103, z103⟩, st103⟩ := X101.virtualBack hx (y := (⟨"java/lang/String", "coder", "()B"⟩ : MethodName)) (z := (⟨"java/lang/String", "coder", "()B"⟩ : MethodName)) hown (mvT hZ (ow hw 52 rfl)) (mvT hZ (ow hw 53 rfl)) (notFace_of_selects (args := #[]) (mvT hZ (ow hw 55 rfl))) (mvT hZ (ow hw 55 rfl)) (mvT hZ (ow hw 54 rfl)) (by decide) (backOf (W := 1) (rmCoder16 l Z a0 hw [] a1 ccs vF h0 n0 Z0 F2 O0 G) hZ (ow hw 56 rfl) (ow hw 4 rfl) (by decide) (by decide)) q103a q103c (g := (mkF m 6 #[rv a1] [(.ref a1), (.int (2 : Int32))])) rfl (by rw [hml]; rfl) (Steps.refl _) (argsL := []) (rest := [(.int (2 : Int32))]) (lenOf pd_4 rfl) rfl (by show 2 * 0 + _ ≤ _; exact Nat.le_of_eq rfl) (hb hby d10_6) (fun _ _ => ⟨rfl, e101, (by decide : 0 + 0 ≤ _), (by decide : 0 + 0 ≤ _)⟩)
  dsimp only [Pt.U, Pt.locs, Pt.cells, Pt.slots] at X103 l103 y103 z103 st103 hQ103
  rw [l103, y103, z103] at X103
  replace X103 : Stand p l e _ _ m _ below meth c T103 _ 0 0 := X103
  obtain ⟨rfl, N103q, e103q⟩ := hQ103
  have N103 := Fr.app N0 N103q
  refine Go.tr st103 ?_
  show Go p e below _ (T103.setTop (mkF m 9 #[rv a1] [(.int (1 : Int32)), (.int (2 : Int32))]))
  refine Go.via (fun _ => XS.ishr X103.here hx rfl (hb hby d10_9) rfl) ?_
  exact own_retI X103 hx hlk Bd.returns (hb hby d10_10) (by show QLen16_1 Z a1 t1 kb vs ccs vF h0 n0 _ T103.heap _; rw [e103q]; exact ⟨rfl, N103, rfl⟩) (by decide) (by decide)
theorem ef_rmN_1_1 (m : MethodId) (x0 : Addr) (x1 : Int32) : entryFrame m #[(.ref x0), (.int x1)] 4 = mkF m 0 #[rv x0, iv x1, .unset, .unset] [] := by first | (simp [entryFrame, mkF, argsToLocals, Value.category]; done) | rfl
set_option maxRecDepth 65536 in
set_option maxHeartbeats 40000000 in
theorem rmN_1_1 (l : Launch) (Z : State) (a0 : Array Value) (hw : TW Z a0) (ws : List Jvm.Cond) (a1 : Addr) (t1 : Addr) (kb : ClassId) (c0 : Int32) (lg : Int32) (ccs : Int32) (vF : Value) (h0 : Heap) (n0 : Nat) (Z0 : n0 ≤ h0.size) (E1 : Exa Z h0 a1 "java/lang/String") (F1 : Fld Z h0 a1 "java/lang/String" "value" "[B" (.ref t1)) (F2 : Fld Z h0 a1 "java/lang/String" "coder" "B" (.int (1 : Int32))) (V2 : Arv Z h0 t1 kb .byte (2 : Int32) [(.int (nar .byte ((c0 >>> ((0 : Int32) &&& 31)).toInt8.toInt32))), (.int (nar .byte ((c0 >>> ((8 : Int32) &&& 31)).toInt8.toInt32)))] (.int (0 : Int32))) (hu0 : nar .char ((((((nar .byte ((c0 >>> ((0 : Int32) &&& 31)).toInt8.toInt32))) &&& (255 : Int32)) <<< ((0 : Int32) &&& 31)) ||| ((((nar .byte ((c0 >>> ((8 : Int32) &&& 31)).toInt8.toInt32))) &&& (255 : Int32)) <<< ((8 : Int32) &&& 31))).toUInt32.toUInt16.toUInt32.toInt32) = c0) (hn0 : nar .char c0 = c0) (O0 : Old Z n0 h0) (G : SG Z ccs vF) :
    MF l Z (⟨"com/example/timed_cap/timedcap/model/Names", "isName", "(Ljava/lang/String;I)Z"⟩ : MethodName) prog_5_method_2_code 4 (some .boolean) ws (rmm 5 0 0 130) #[(.ref a1), (.int lg)] h0 (QN1 Z lg c0 h0 n0) := by
  refine MetFree.of_bodySF (plainFor_of_name pn_com_example_timed_cap_timedcap_model_Names) hisR ?_
  intro p e s m args below meth c s₁ Bd hml0 hP hK
  obtain ⟨rfl, hZ, hh⟩ := hP
  have hx := Bd.exec
  have hby := Bd.bytes
  have hlk : meth.locks = false := Bd.notSynchronized
  have hml : c.maxLocals = 4 := hml0
  have hown : s.vm.findClass "com/example/timed_cap/timedcap/model/Names" = some m.cls := findClass_of_methodNamed Bd.named
  have hnm := (name_of_methodNamed Bd.named Bd.method).1
  have rF := G.2.2.2.2.2.2
  have hcs := G.2.1
  have X0 : Stand p l e (rmm 5 0 0 130) s m #[(.ref a1), (.int lg)] below meth c s₁ [] 0 0 := Stand.of_body Bd
  have e0 : s₁.heap = h0 := by rw [← hh, Bd.state]; rfl
  have N0 := Fr.nil n0
  show Go p e below (FinE s below (QN1 Z lg c0 h0 n0) (rmm 5 0 0 130).cells (rmm 5 0 0 130).slots) (s₁.setTop (entryFrame m #[(.ref a1), (.int lg)] 4))
  refine Go.via (fun t k => castTop (ef_rmN_1_1 m a1 lg) k) ?_
  refine Go.via (fun _ => XS.aloadN X0.here hx rfl (hb hby d4_0) rfl rfl) ?_
  obtain ⟨cq101, kq101, q101a, q101b, q101c⟩ := isOf hZ e0 E1
  obtain ⟨_, _, ⟨T101, L101, k101, n101⟩, -, X101, ⟨Lc101, hQ101, l101, y101, z101⟩, st101⟩ := X0.virtualBack hx (y := (⟨"java/lang/String", "isEmpty", "()Z"⟩ : MethodName)) (z := (⟨"java/lang/String", "isEmpty", "()Z"⟩ : MethodName)) hown (mvT hZ (ow hw 27 rfl)) (mvT hZ (ow hw 28 rfl)) (notFace_of_selects (args := #[]) (mvT hZ (ow hw 30 rfl))) (mvT hZ (ow hw 30 rfl)) (mvT hZ (ow hw 29 rfl)) (by decide) (backOf (W := 0) (rmEmp_1 l Z a0 hw [] a1 t1 kb (2 : Int32) _ h0 n0 Z0 F1 V2 (by decide)) hZ (ow hw 31 rfl) (ow hw 4 rfl) (by decide) (by decide)) q101a q101c (g := (mkF m 1 #[rv a1, iv lg, .unset, .unset] [(.ref a1)])) rfl (by rw [hml]; rfl) (Steps.refl _) (argsL := []) (rest := []) (lenOf pd_0 rfl) rfl (by show 2 * 0 + _ ≤ _; exact Nat.le_of_eq rfl) (hb hby d4_1) (fun _ _ => ⟨rfl, e0, (by decide : 0 + 0 ≤ _), (by decide : 0 + 0 ≤ _)⟩)
  dsimp only [Pt.U, Pt.locs, Pt.cells, Pt.slots] at X101 l101 y101 z101 st101 hQ101
  rw [l101, y101, z101] at X101
  replace X101 : Stand p l e _ _ m _ below meth c T101 _ 0 0 := X101
  obtain ⟨rfl, N101q, e101q⟩ := hQ101
  have N101 := Fr.app N0 N101q
  refine Go.tr st101 ?_
  refine Go.via (fun _ => XS.ifNo X101.here hx rfl (hb hby d4_4) rfl (by decide)) ?_
  refine Go.via (fun _ => XS.aloadN X101.here hx rfl (hb hby d4_7) rfl rfl) ?_
  obtain ⟨cq102, kq102, q102a, q102b, q102c⟩ := isOf hZ e101q E1
  obtain ⟨_, _, ⟨T102, L102, k102, n102⟩, -, X102, ⟨Lc102, hQ102, l102, y102, z102⟩, st102⟩ := X101.virtualBack hx (y := (⟨"java/lang/String", "length", "()I"⟩ : MethodName)) (z := (⟨"java/lang/String", "length", "()I"⟩ : MethodName)) hown (mvT hZ (ow hw 47 rfl)) (mvT hZ (ow hw 48 rfl)) (notFace_of_selects (args := #[]) (mvT hZ (ow hw 50 rfl))) (mvT hZ (ow hw 50 rfl)) (mvT hZ (ow hw 49 rfl)) (by decide) (backOf (W := 0) (rmLen16_1 l Z a0 hw [] a1 t1 kb _ ccs vF h0 n0 Z0 E1 F1 F2 V2 O0 G) hZ (ow hw 51 rfl) (ow hw 4 rfl) (by decide) (by decide)) q102a q102c (g := (mkF m 8 #[rv a1, iv lg, .unset, .unset] [(.ref a1)])) rfl (by rw [hml]; rfl) (Steps.refl _) (argsL := []) (rest := []) (lenOf pd_5 rfl) rfl (by show 2 * 0 + _ ≤ _; exact Nat.le_of_eq rfl) (hb hby d4_8) (fun _ _ => ⟨rfl, e101q, (by decide : 0 + 0 ≤ _), (by decide : 0 + 0 ≤ _)⟩)
  dsimp only [Pt.U, Pt.locs, Pt.cells, Pt.slots] at X102 l102 y102 z102 st102 hQ102
  rw [l102, y102, z102] at X102
  replace X102 : Stand p l e _ _ m _ below meth c T102 _ 0 0 := X102
  obtain ⟨rfl, N102q, e102q⟩ := hQ102
  have N102 := Fr.app N101 N102q
  refine Go.tr st102 ?_
  show Go p e below _ (T102.setTop (mkF m 11 #[rv a1, iv lg, .unset, .unset] [(.int (1 : Int32))]))
  refine Go.via (fun _ => XS.iloadN X102.here hx rfl (hb hby d4_11) rfl) ?_
  by_cases hc103 : lg < (1 : Int32)
  · -- yes
    refine Go.via (fun _ => XS.icmpNo X102.here hx rfl (hb hby d4_12) rfl (tlt hc103).2.2.2) ?_
    refine Go.via (fun _ => XS.iconst X102.here hx rfl (hb hby d4_15)) ?_
    exact own_retN X102 hx hlk (t := .boolean) Bd.returns (by simp) (hb hby d4_16) (by show QN1 Z lg c0 h0 n0 _ T102.heap _; rw [e102q]; exact ⟨by simp [nm1, nar, hc103], N102, rfl⟩) (by decide) (by decide)
  · -- no
    refine Go.via (fun _ => XS.icmpYes X102.here hx rfl (pc0 := 12) (pc' := 17) rfl (hb hby d4_12) rfl (flt hc103).2.2.2 (by decide) (by decide)) ?_
    refine Go.via (fun _ => XS.iconst X102.here hx rfl (hb hby d4_17)) ?_
    refine Go.via (fun _ => XS.istoreN X102.here hx rfl (hb hby d4_18) rfl (l' := #[rv a1, iv lg, iv (0 : Int32), .unset]) rfl) ?_
    show Go p e below _ (T102.setTop (mkF m 19 #[rv a1, iv lg, iv (0 : Int32), .unset] []))
    refine Go.via (fun _ => XS.iloadN X102.here hx rfl (hb hby d4_19) rfl) ?_
    refine Go.via (fun _ => XS.aloadN X102.here hx rfl (hb hby d4_20) rfl rfl) ?_
    obtain ⟨cq104, kq104, q104a, q104b, q104c⟩ := isOf hZ e102q E1
    obtain ⟨_, _, ⟨T104, L104, k104, n104⟩, -, X104, ⟨Lc104, hQ104, l104, y104, z104⟩, st104⟩ := X102.virtualBack hx (y := (⟨"java/lang/String", "length", "()I"⟩ : MethodName)) (z := (⟨"java/lang/String", "length", "()I"⟩ : MethodName)) hown (mvT hZ (ow hw 47 rfl)) (mvT hZ (ow hw 48 rfl)) (notFace_of_selects (args := #[]) (mvT hZ (ow hw 50 rfl))) (mvT hZ (ow hw 50 rfl)) (mvT hZ (ow hw 49 rfl)) (by decide) (backOf (W := 1) (rmLen16_1 l Z a0 hw [] a1 t1 kb _ ccs vF h0 n0 Z0 E1 F1 F2 V2 O0 G) hZ (ow hw 51 rfl) (ow hw 4 rfl) (by decide) (by decide)) q104a q104c (g := (mkF m 21 #[rv a1, iv lg, iv (0 : Int32), .unset] [(.ref a1), (.int (0 : Int32))])) rfl (by rw [hml]; rfl) (Steps.refl _) (argsL := []) (rest := [(.int (0 : Int32))]) (lenOf pd_5 rfl) rfl (by show 2 * 0 + _ ≤ _; exact Nat.le_of_eq rfl) (hb hby d4_21) (fun _ _ => ⟨rfl, e102q, (by decide : 0 + 0 ≤ _), (by decide : 0 + 0 ≤ _)⟩)
    dsimp only [Pt.U, Pt.locs, Pt.cells, Pt.slots] at X104 l104 y104 z104 st104 hQ104
    rw [l104, y104, z104] at X104
    replace X104 : Stand p l e _ _ m _ below meth c T104 _ 0 0 := X104
    obtain ⟨rfl, N104q, e104q⟩ := hQ104
    have N104 := Fr.app N102 N104q
    refine Go.tr st104 ?_
    refine Go.via (fun _ => XS.icmpNo X104.here hx rfl (hb hby d4_24) rfl (by decide)) ?_
    refine Go.via (fun _ => XS.aloadN X104.here hx rfl (hb hby d4_27) rfl rfl) ?_
    refine Go.via (fun _ => XS.iloadN X104.here hx rfl (hb hby d4_28) rfl) ?_
    show Go p e below _ (T104.setTop (mkF m 29 #[rv a1, iv lg, iv (0 : Int32), .unset] [(.int (0 : Int32)), (.ref a1)]))
    obtain ⟨cq105, kq105, q105a, q105b, q105c⟩ := isOf hZ e104q E1
    obtain ⟨_, _, ⟨T105, L105, k105, n105⟩, -, X105, ⟨Lc105, hQ105, l105, y105, z105⟩, st105⟩ := X104.virtualBack hx (y := (⟨"java/lang/String", "charAt", "(I)C"⟩ : MethodName)) (z := (⟨"java/lang/String", "charAt", "(I)C"⟩ : MethodName)) hown (mvT hZ (ow hw 57 rfl)) (mvT hZ (ow hw 58 rfl)) (notFace_of_selects (args := #[]) (mvT hZ (ow hw 60 rfl))) (mvT hZ (ow hw 60 rfl)) (mvT hZ (ow hw 59 rfl)) (by decide) (backOf (W := 0) (rmCA_1 l Z a0 hw [] a1 t1 kb (2 : Int32) _ (0 : Int32) c0 (1 : Int32) ccs vF h0 n0 Z0 E1 F1 F2 V2 (by decide) (by decide) (by decide) ⟨by decide, by decide⟩ ⟨by decide, by decide⟩ rfl rfl hu0 hn0 O0 G) hZ (ow hw 61 rfl) (ow hw 4 rfl) (by decide) (by decide)) q105a q105c (g := (mkF m 29 #[rv a1, iv lg, iv (0 : Int32), .unset] [(.int (0 : Int32)), (.ref a1)])) rfl (by rw [hml]; rfl) (Steps.refl _) (argsL := [(.int (0 : Int32))]) (rest := []) (lenOf pd_6 rfl) rfl (by show 2 * 0 + _ ≤ _; exact Nat.le_of_eq rfl) (hb hby d4_29) (fun _ _ => ⟨rfl, e104q, (by decide : 0 + 0 ≤ _), (by decide : 0 + 0 ≤ _)⟩)
    dsimp only [Pt.U, Pt.locs, Pt.cells, Pt.slots] at X105 l105 y105 z105 st105 hQ105
    rw [l105, y105, z105] at X105
    replace X105 : Stand p l e _ _ m _ below meth c T105 _ 0 0 := X105
    obtain ⟨rfl, N105q, e105q⟩ := hQ105
    have N105 := Fr.app N104 N105q
    refine Go.tr st105 ?_
    refine Go.via (fun _ => XS.istoreN X105.here hx rfl (hb hby d4_32) rfl (l' := #[rv a1, iv lg, iv (0 : Int32), iv c0]) rfl) ?_
    have nx0 : ∀ (T' : State) (L' : List Loc), Stand p l e (rmm 5 0 0 130) s m #[(.ref a1), (.int lg)] below meth c T' L' 0 0 → T'.heap = h0 → Fr n0 L' → ¬ (okF c0 = (0 : Int32)) → Go p e below (FinE s below (QN1 Z lg c0 h0 n0) (rmm 5 0 0 130).cells (rmm 5 0 0 130).slots) (T'.setTop (mkF m 79 #[rv a1, iv lg, iv (0 : Int32), iv c0] [])) := by
      intro Tn0 Ln0 Xn0 en0 Nn0 hok0
      refine Go.via (fun _ => XS.iinc Xn0.here hx rfl (hb hby d4_79) rfl (l' := #[rv a1, iv lg, iv (1 : Int32), iv c0]) rfl) ?_
      refine Go.via (fun _ => XS.goto Xn0.here hx rfl (pc0 := 82) (pc' := 19) rfl (hb hby d4_82) (by decide) (by decide)) ?_
      refine Go.via (fun _ => XS.iloadN Xn0.here hx rfl (hb hby d4_19) rfl) ?_
      show Go p e below _ (Tn0.setTop (mkF m 20 #[rv a1, iv lg, iv (1 : Int32), iv c0] [(.int (1 : Int32))]))
      refine Go.via (fun _ => XS.aloadN Xn0.here hx rfl (hb hby d4_20) rfl rfl) ?_
      obtain ⟨cq106, kq106, q106a, q106b, q106c⟩ := isOf hZ en0 E1
      obtain ⟨_, _, ⟨T106, L106, k106, n106⟩, -, X106, ⟨Lc106, hQ106, l106, y106, z106⟩, st106⟩ := Xn0.virtualBack hx (y := (⟨"java/lang/String", "length", "()I"⟩ : MethodName)) (z := (⟨"java/lang/String", "length", "()I"⟩ : MethodName)) hown (mvT hZ (ow hw 47 rfl)) (mvT hZ (ow hw 48 rfl)) (notFace_of_selects (args := #[]) (mvT hZ (ow hw 50 rfl))) (mvT hZ (ow hw 50 rfl)) (mvT hZ (ow hw 49 rfl)) (by decide) (backOf (W := 1) (rmLen16_1 l Z a0 hw [] a1 t1 kb _ ccs vF h0 n0 Z0 E1 F1 F2 V2 O0 G) hZ (ow hw 51 rfl) (ow hw 4 rfl) (by decide) (by decide)) q106a q106c (g := (mkF m 21 #[rv a1, iv lg, iv (1 : Int32), iv c0] [(.ref a1), (.int (1 : Int32))])) rfl (by rw [hml]; rfl) (Steps.refl _) (argsL := []) (rest := [(.int (1 : Int32))]) (lenOf pd_5 rfl) rfl (by show 2 * 0 + _ ≤ _; exact Nat.le_of_eq rfl) (hb hby d4_21) (fun _ _ => ⟨rfl, en0, (by decide : 0 + 0 ≤ _), (by decide : 0 + 0 ≤ _)⟩)
      dsimp only [Pt.U, Pt.locs, Pt.cells, Pt.slots] at X106 l106 y106 z106 st106 hQ106
      rw [l106, y106, z106] at X106
      replace X106 : Stand p l e _ _ m _ below meth c T106 _ 0 0 := X106
      obtain ⟨rfl, N106q, e106q⟩ := hQ106
      have N106 := Fr.app Nn0 N106q
      refine Go.tr st106 ?_
      refine Go.via (fun _ => XS.icmpYes X106.here hx rfl (pc0 := 24) (pc' := 85) rfl (hb hby d4_24) rfl (by decide) (by decide) (by decide)) ?_
      refine Go.via (fun _ => XS.iconst X106.here hx rfl (hb hby d4_85)) ?_
      exact own_retN X106 hx hlk (t := .boolean) Bd.returns (by simp) (hb hby d4_86) (by show QN1 Z lg c0 h0 n0 _ T106.heap _; rw [e106q]; exact ⟨by simp [nm1, nar, hc103, hok0], N106, rfl⟩) (by decide) (by decide)
    refine Go.via (fun _ => XS.iloadN X105.here hx rfl (hb hby d4_33) rfl) ?_
    obtain ⟨_, _, ⟨T107, L107, k107, n107⟩, -, X107, ⟨Lc107, hQ107, l107, y107, z107⟩, st107⟩ := Jvm.LawKit.callS X105 hx (y := (⟨"com/example/timed_cap/timedcap/model/Names", "isLowerCase", "(C)Z"⟩ : MethodName)) hown (mvT hZ (ow hw 79 rfl)) (mvT hZ (ow hw 80 rfl)) (mvT hZ (ow hw 25 rfl)) (mvT hZ (ow hw 81 rfl)) (by decide) (backOf (W := 0) (rm_isLowerCase l Z a0 hw [] c0 h0 n0 Z0) hZ (ow hw 81 rfl) (ow hw 25 rfl) (by decide) (by decide)) (g := (mkF m 34 #[rv a1, iv lg, iv (0 : Int32), iv c0] [(.int c0)])) rfl (by rw [hml]; rfl) (argsL := [(.int c0)]) (rest := []) (lenOf pd_7 rfl) rfl (by show 2 * 0 + _ ≤ _; exact Nat.le_of_eq rfl) (hb hby d4_34) (fun _ _ => ⟨rfl, e105q, (by decide : 0 + 0 ≤ _), (by decide : 0 + 0 ≤ _)⟩)
    dsimp only [Pt.U, Pt.locs, Pt.cells, Pt.slots] at X107 l107 y107 z107 st107 hQ107
    rw [l107, y107, z107] at X107
    replace X107 : Stand p l e _ _ m _ below meth c T107 _ 0 0 := X107
    obtain ⟨rfl, N107q, e107q⟩ := hQ107
    have N107 := Fr.app N105 N107q
    refine Go.via st107 ?_
    by_cases hc108 : (loF c0) = (0 : Int32)
    · -- yes
      show Go p e below _ (T107.setTop (mkF m 37 #[rv a1, iv lg, iv (0 : Int32), iv c0] [(.int (loF c0))]))
      refine Go.via (fun _ => XS.ifNo X107.here hx rfl (hb hby d4_37) rfl ((if0 _ _).trans (teq hc108).2)) ?_
      refine Go.via (fun _ => XS.iloadN X107.here hx rfl (hb hby d4_40) rfl) ?_
      refine Go.via (fun _ => XS.bipush X107.here hx rfl (hb hby d4_41)) ?_
      by_cases hc109 : c0 < (65 : Int32)
      · -- yes
        refine Go.via (fun _ => XS.icmpYes X107.here hx rfl (pc0 := 43) (pc' := 52) rfl (hb hby d4_43) rfl (tlt hc109).1 (by decide) (by decide)) ?_
        show Go p e below _ (T107.setTop (mkF m 52 #[rv a1, iv lg, iv (0 : Int32), iv c0] []))
        refine Go.via (fun _ => XS.iloadN X107.here hx rfl (hb hby d4_52) rfl) ?_
        obtain ⟨_, _, ⟨T110, L110, k110, n110⟩, -, X110, ⟨Lc110, hQ110, l110, y110, z110⟩, st110⟩ := Jvm.LawKit.callS X107 hx (y := (⟨"com/example/timed_cap/timedcap/model/Names", "isDigit", "(C)Z"⟩ : MethodName)) hown (mvT hZ (ow hw 82 rfl)) (mvT hZ (ow hw 83 rfl)) (mvT hZ (ow hw 25 rfl)) (mvT hZ (ow hw 84 rfl)) (by decide) (backOf (W := 0) (rm_isDigit l Z a0 hw [] c0 h0 n0 Z0) hZ (ow hw 84 rfl) (ow hw 25 rfl) (by decide) (by decide)) (g := (mkF m 53 #[rv a1, iv lg, iv (0 : Int32), iv c0] [(.int c0)])) rfl (by rw [hml]; rfl) (argsL := [(.int c0)]) (rest := []) (lenOf pd_7 rfl) rfl (by show 2 * 0 + _ ≤ _; exact Nat.le_of_eq rfl) (hb hby d4_53) (fun _ _ => ⟨rfl, e107q, (by decide : 0 + 0 ≤ _), (by decide : 0 + 0 ≤ _)⟩)
        dsimp only [Pt.U, Pt.locs, Pt.cells, Pt.slots] at X110 l110 y110 z110 st110 hQ110
        rw [l110, y110, z110] at X110
        replace X110 : Stand p l e _ _ m _ below meth c T110 _ 0 0 := X110
        obtain ⟨rfl, N110q, e110q⟩ := hQ110
        have N110 := Fr.app N107 N110q
        refine Go.via st110 ?_
        by_cases hc111 : (dgF c0) = (0 : Int32)
        · -- yes
          refine Go.via (fun _ => XS.ifNo X110.here hx rfl (hb hby d4_56) rfl ((if0 _ _).trans (teq hc111).2)) ?_
          refine Go.via (fun _ => XS.iloadN X110.here hx rfl (hb hby d4_59) rfl) ?_
          show Go p e below _ (T110.setTop (mkF m 60 #[rv a1, iv lg, iv (0 : Int32), iv c0] [(.int c0)]))
          refine Go.via (fun _ => XS.bipush X110.here hx rfl (hb hby d4_60)) ?_
          by_cases hc112 : c0 = (46 : Int32)
          · -- yes
            refine Go.via (fun _ => XS.icmpYes X110.here hx rfl (pc0 := 62) (pc' := 79) rfl (hb hby d4_62) rfl (teq hc112).1 (by decide) (by decide)) ?_
            exact nx0 _ _ X110 e110q N110 (by simp [okF, hc108, hc109, hc111, hc112])
          · -- no
            refine Go.via (fun _ => XS.icmpNo X110.here hx rfl (hb hby d4_62) rfl (feq hc112).1) ?_
            refine Go.via (fun _ => XS.iloadN X110.here hx rfl (hb hby d4_65) rfl) ?_
            refine Go.via (fun _ => XS.bipush X110.here hx rfl (hb hby d4_66)) ?_
            show Go p e below _ (T110.setTop (mkF m 68 #[rv a1, iv lg, iv (0 : Int32), iv c0] [(.int (95 : Int32)), (.int c0)]))
            by_cases hc113 : c0 = (95 : Int32)
            · -- yes
              refine Go.via (fun _ => XS.icmpYes X110.here hx rfl (pc0 := 68) (pc' := 79) rfl (hb hby d4_68) rfl (teq hc113).1 (by decide) (by decide)) ?_
              exact nx0 _ _ X110 e110q N110 (by simp [okF, hc108, hc109, hc111, hc112, hc113])
            · -- no
              refine Go.via (fun _ => XS.icmpNo X110.here hx rfl (hb hby d4_68) rfl (feq hc113).1) ?_
              refine Go.via (fun _ => XS.iloadN X110.here hx rfl (hb hby d4_71) rfl) ?_
              refine Go.via (fun _ => XS.bipush X110.here hx rfl (hb hby d4_72)) ?_
              by_cases hc114 : c0 = (45 : Int32)
              · -- yes
                show Go p e below _ (T110.setTop (mkF m 74 #[rv a1, iv lg, iv (0 : Int32), iv c0] [(.int (45 : Int32)), (.int c0)]))
                refine Go.via (fun _ => XS.icmpYes X110.here hx rfl (pc0 := 74) (pc' := 79) rfl (hb hby d4_74) rfl (teq hc114).1 (by decide) (by decide)) ?_
                exact nx0 _ _ X110 e110q N110 (by simp [okF, hc108, hc109, hc111, hc112, hc113, hc114])
              · -- no
                show Go p e below _ (T110.setTop (mkF m 74 #[rv a1, iv lg, iv (0 : Int32), iv c0] [(.int (45 : Int32)), (.int c0)]))
                refine Go.via (fun _ => XS.icmpNo X110.here hx rfl (hb hby d4_74) rfl (feq hc114).1) ?_
                refine Go.via (fun _ => XS.iconst X110.here hx rfl (hb hby d4_77)) ?_
                have hz : okF c0 = (0 : Int32) := by simp [okF, hc108, hc109, hc111, hc112, hc113, hc114]
                exact own_retN X110 hx hlk (t := .boolean) Bd.returns (by simp) (hb hby d4_78) (by show QN1 Z lg c0 h0 n0 _ T110.heap _; rw [e110q]; exact ⟨by simp [nm1, nar, hz, hc103], N110, rfl⟩) (by decide) (by decide)
        · -- no
          refine Go.via (fun _ => XS.ifYes X110.here hx rfl (pc0 := 56) (pc' := 79) rfl (hb hby d4_56) rfl ((if0 _ _).trans (feq hc111).2) (by decide) (by decide)) ?_
          exact nx0 _ _ X110 e110q N110 (by simp [okF, hc108, hc109, hc111])
      · -- no
        refine Go.via (fun _ => XS.icmpNo X107.here hx rfl (hb hby d4_43) rfl (flt hc109).1) ?_
        show Go p e below _ (T107.setTop (mkF m 46 #[rv a1, iv lg, iv (0 : Int32), iv c0] []))
        refine Go.via (fun _ => XS.iloadN X107.here hx rfl (hb hby d4_46) rfl) ?_
        refine Go.via (fun _ => XS.bipush X107.here hx rfl (hb hby d4_47)) ?_
        by_cases hc115 : (90 : Int32) < c0
        · -- yes
          refine Go.via (fun _ => XS.icmpNo X107.here hx rfl (hb hby d4_49) rfl (tlt hc115).2.2.2) ?_
          refine Go.via (fun _ => XS.iloadN X107.here hx rfl (hb hby d4_52) rfl) ?_
          show Go p e below _ (T107.setTop (mkF m 53 #[rv a1, iv lg, iv (0 : Int32), iv c0] [(.int c0)]))
          obtain ⟨_, _, ⟨T116, L116, k116, n116⟩, -, X116, ⟨Lc116, hQ116, l116, y116, z116⟩, st116⟩ := Jvm.LawKit.callS X107 hx (y := (⟨"com/example/timed_cap/timedcap/model/Names", "isDigit", "(C)Z"⟩ : MethodName)) hown (mvT hZ (ow hw 82 rfl)) (mvT hZ (ow hw 83 rfl)) (mvT hZ (ow hw 25 rfl)) (mvT hZ (ow hw 84 rfl)) (by decide) (backOf (W := 0) (rm_isDigit l Z a0 hw [] c0 h0 n0 Z0) hZ (ow hw 84 rfl) (ow hw 25 rfl) (by decide) (by decide)) (g := (mkF m 53 #[rv a1, iv lg, iv (0 : Int32), iv c0] [(.int c0)])) rfl (by rw [hml]; rfl) (argsL := [(.int c0)]) (rest := []) (lenOf pd_7 rfl) rfl (by show 2 * 0 + _ ≤ _; exact Nat.le_of_eq rfl) (hb hby d4_53) (fun _ _ => ⟨rfl, e107q, (by decide : 0 + 0 ≤ _), (by decide : 0 + 0 ≤ _)⟩)
          dsimp only [Pt.U, Pt.locs, Pt.cells, Pt.slots] at X116 l116 y116 z116 st116 hQ116
          rw [l116, y116, z116] at X116
          replace X116 : Stand p l e _ _ m _ below meth c T116 _ 0 0 := X116
          obtain ⟨rfl, N116q, e116q⟩ := hQ116
          have N116 := Fr.app N107 N116q
          refine Go.via st116 ?_
          by_cases hc117 : (dgF c0) = (0 : Int32)
          · -- yes
            refine Go.via (fun _ => XS.ifNo X116.here hx rfl (hb hby d4_56) rfl ((if0 _ _).trans (teq hc117).2)) ?_
            refine Go.via (fun _ => XS.iloadN X116.here hx rfl (hb hby d4_59) rfl) ?_
            refine Go.via (fun _ => XS.bipush X116.here hx rfl (hb hby d4_60)) ?_
            show Go p e below _ (T116.setTop (mkF m 62 #[rv a1, iv lg, iv (0 : Int32), iv c0] [(.int (46 : Int32)), (.int c0)]))
            by_cases hc118 : c0 = (46 : Int32)
            · -- yes
              refine Go.via (fun _ => XS.icmpYes X116.here hx rfl (pc0 := 62) (pc' := 79) rfl (hb hby d4_62) rfl (teq hc118).1 (by decide) (by decide)) ?_
              exact nx0 _ _ X116 e116q N116 (by simp [okF, hc108, hc109, hc115, hc117, hc118])
            · -- no
              refine Go.via (fun _ => XS.icmpNo X116.here hx rfl (hb hby d4_62) rfl (feq hc118).1) ?_
              refine Go.via (fun _ => XS.iloadN X116.here hx rfl (hb hby d4_65) rfl) ?_
              refine Go.via (fun _ => XS.bipush X116.here hx rfl (hb hby d4_66)) ?_
              by_cases hc119 : c0 = (95 : Int32)
              · -- yes
                show Go p e below _ (T116.setTop (mkF m 68 #[rv a1, iv lg, iv (0 : Int32), iv c0] [(.int (95 : Int32)), (.int c0)]))
                refine Go.via (fun _ => XS.icmpYes X116.here hx rfl (pc0 := 68) (pc' := 79) rfl (hb hby d4_68) rfl (teq hc119).1 (by decide) (by decide)) ?_
                exact nx0 _ _ X116 e116q N116 (by simp [okF, hc108, hc109, hc115, hc117, hc118, hc119])
              · -- no
                show Go p e below _ (T116.setTop (mkF m 68 #[rv a1, iv lg, iv (0 : Int32), iv c0] [(.int (95 : Int32)), (.int c0)]))
                refine Go.via (fun _ => XS.icmpNo X116.here hx rfl (hb hby d4_68) rfl (feq hc119).1) ?_
                refine Go.via (fun _ => XS.iloadN X116.here hx rfl (hb hby d4_71) rfl) ?_
                refine Go.via (fun _ => XS.bipush X116.here hx rfl (hb hby d4_72)) ?_
                by_cases hc120 : c0 = (45 : Int32)
                · -- yes
                  show Go p e below _ (T116.setTop (mkF m 74 #[rv a1, iv lg, iv (0 : Int32), iv c0] [(.int (45 : Int32)), (.int c0)]))
                  refine Go.via (fun _ => XS.icmpYes X116.here hx rfl (pc0 := 74) (pc' := 79) rfl (hb hby d4_74) rfl (teq hc120).1 (by decide) (by decide)) ?_
                  exact nx0 _ _ X116 e116q N116 (by simp [okF, hc108, hc109, hc115, hc117, hc118, hc119, hc120])
                · -- no
                  show Go p e below _ (T116.setTop (mkF m 74 #[rv a1, iv lg, iv (0 : Int32), iv c0] [(.int (45 : Int32)), (.int c0)]))
                  refine Go.via (fun _ => XS.icmpNo X116.here hx rfl (hb hby d4_74) rfl (feq hc120).1) ?_
                  refine Go.via (fun _ => XS.iconst X116.here hx rfl (hb hby d4_77)) ?_
                  have hz : okF c0 = (0 : Int32) := by simp [okF, hc108, hc109, hc115, hc117, hc118, hc119, hc120]
                  exact own_retN X116 hx hlk (t := .boolean) Bd.returns (by simp) (hb hby d4_78) (by show QN1 Z lg c0 h0 n0 _ T116.heap _; rw [e116q]; exact ⟨by simp [nm1, nar, hz, hc103], N116, rfl⟩) (by decide) (by decide)
          · -- no
            refine Go.via (fun _ => XS.ifYes X116.here hx rfl (pc0 := 56) (pc' := 79) rfl (hb hby d4_56) rfl ((if0 _ _).trans (feq hc117).2) (by decide) (by decide)) ?_
            exact nx0 _ _ X116 e116q N116 (by simp [okF, hc108, hc109, hc115, hc117])
        · -- no
          refine Go.via (fun _ => XS.icmpYes X107.here hx rfl (pc0 := 49) (pc' := 79) rfl (hb hby d4_49) rfl (flt hc115).2.2.2 (by decide) (by decide)) ?_
          exact nx0 _ _ X107 e107q N107 (by simp [okF, hc108, hc109, hc115])
    · -- no
      show Go p e below _ (T107.setTop (mkF m 37 #[rv a1, iv lg, iv (0 : Int32), iv c0] [(.int (loF c0))]))
      refine Go.via (fun _ => XS.ifYes X107.here hx rfl (pc0 := 37) (pc' := 79) rfl (hb hby d4_37) rfl ((if0 _ _).trans (feq hc108).2) (by decide) (by decide)) ?_
      exact nx0 _ _ X107 e107q N107 (by simp [okF, hc108])
def Tx1 (Z : State) (h : Heap) (a1 : Addr) (c0 : Int32) : Prop := (∃ (t : Addr) (kb : ClassId), Fld Z h a1 "java/lang/String" "value" "[B" (.ref t) ∧ Fld Z h a1 "java/lang/String" "coder" "B" (.int (0 : Int32)) ∧ Arv Z h t kb .byte (1 : Int32) [(.int (nar .byte (c0.toInt8.toInt32)))] (.int (0 : Int32)) ∧ ¬ ((255 : Int32) < c0)) ∨ (∃ (t : Addr) (kb : ClassId), Fld Z h a1 "java/lang/String" "value" "[B" (.ref t) ∧ Fld Z h a1 "java/lang/String" "coder" "B" (.int (1 : Int32)) ∧ Arv Z h t kb .byte (2 : Int32) [(.int (nar .byte ((c0 >>> ((0 : Int32) &&& 31)).toInt8.toInt32))), (.int (nar .byte ((c0 >>> ((8 : Int32) &&& 31)).toInt8.toInt32)))] (.int (0 : Int32)))
def QTx1 (Z : State) (a1 : Addr) (c0 : Int32) (h0 : Heap) (n0 : Nat) (v : Option Value) (h : Heap) (L : List Loc) : Prop := v = none ∧ Fr n0 L ∧ Keep h0 h [a1] ∧ Tx1 Z h a1 c0
theorem rmN_1 (l : Launch) (Z : State) (a0 : Array Value) (hw : TW Z a0) (ws : List Jvm.Cond) (a1 : Addr) (c0 : Int32) (lg : Int32) (ccs : Int32) (vF : Value) (h0 : Heap) (n0 : Nat) (Z0 : n0 ≤ h0.size) (E1 : Exa Z h0 a1 "java/lang/String") (tx : Tx1 Z h0 a1 c0) (hr0 : ¬ (c0 < (0 : Int32)) ∧ ¬ ((65535 : Int32) < c0)) (O0 : Old Z n0 h0) (G : SG Z ccs vF) :
    MF l Z (⟨"com/example/timed_cap/timedcap/model/Names", "isName", "(Ljava/lang/String;I)Z"⟩ : MethodName) prog_5_method_2_code 4 (some .boolean) ws (rmm 5 0 0 130) #[(.ref a1), (.int lg)] h0 (QN1 Z lg c0 h0 n0) := by
  rcases tx with ⟨t, kb, f1, f2, v2, hl0⟩ | ⟨t, kb, f1, f2, v2⟩
  · exact rmN_1_0 l Z a0 hw ws a1 t kb c0 lg ccs vF h0 n0 Z0 E1 f1 f2 v2 (own_l8 hr0.1 hl0) (own_nch hr0.1 hr0.2) O0 G
  · exact rmN_1_1 l Z a0 hw ws a1 t kb c0 lg ccs vF h0 n0 Z0 E1 f1 f2 v2 (own_u16 c0 hr0.1 hr0.2) (own_nch hr0.1 hr0.2) O0 G
def QN2 (Z : State) (lg : Int32) (c0 : Int32) (c1 : Int32) (h0 : Heap) (n0 : Nat) (v : Option Value) (h : Heap) (L : List Loc) : Prop := v = some (.int (nm2 lg c0 c1)) ∧ Fr n0 L ∧ h = h0
theorem ef_rmLen_2 (m : MethodId) (x0 : Addr) : entryFrame m #[(.ref x0)] 1 = mkF m 0 #[rv x0] [] := by first | (simp [entryFrame, mkF, argsToLocals, Value.category]; done) | rfl
def QLen_2 (Z : State) (a1 : Addr) (t1 : Addr) (kb : ClassId) (vs : List Value) (ccs : Int32) (vF : Value) (h0 : Heap) (n0 : Nat) (v : Option Value) (h : Heap) (L : List Loc) : Prop := v = some (.int (2 : Int32)) ∧ Fr n0 L ∧ h = h0
set_option maxRecDepth 65536 in
set_option maxHeartbeats 40000000 in
theorem rmLen_2 (l : Launch) (Z : State) (a0 : Array Value) (hw : TW Z a0) (ws : List Jvm.Cond) (a1 : Addr) (t1 : Addr) (kb : ClassId) (vs : List Value) (ccs : Int32) (vF : Value) (h0 : Heap) (n0 : Nat) (Z0 : n0 ≤ h0.size) (E1 : Exa Z h0 a1 "java/lang/String") (F1 : Fld Z h0 a1 "java/lang/String" "value" "[B" (.ref t1)) (F2 : Fld Z h0 a1 "java/lang/String" "coder" "B" (.int (0 : Int32))) (V2 : Arv Z h0 t1 kb .byte (2 : Int32) vs (.int (0 : Int32))) (O0 : Old Z n0 h0) (G : SG Z ccs vF) :
    MF l Z (⟨"java/lang/String", "length", "()I"⟩ : MethodName) jdk_42_method_54_code 1 (some .int) ws (rmm 1 0 0 13) #[(.ref a1)] h0 (QLen_2 Z a1 t1 kb vs ccs vF h0 n0) := by
  refine MetFree.of_bodySF (plainFor_of_name pn_java_lang_String) hisR ?_
  intro p e s m args below meth c s₁ Bd hml0 hP hK
  obtain ⟨rfl, hZ, hh⟩ := hP
  have hx := Bd.exec
  have hby := Bd.bytes
  have hlk : meth.locks = false := Bd.notSynchronized
  have hml : c.maxLocals = 1 := hml0
  have hown : s.vm.findClass "java/lang/String" = some m.cls := findClass_of_methodNamed Bd.named
  have hnm := (name_of_methodNamed Bd.named Bd.method).1
  have rF := G.2.2.2.2.2.2
  have hcs := G.2.1
  have X0 : Stand p l e (rmm 1 0 0 13) s m #[(.ref a1)] below meth c s₁ [] 0 0 := Stand.of_body Bd
  have e0 : s₁.heap = h0 := by rw [← hh, Bd.state]; rfl
  have N0 := Fr.nil n0
  show Go p e below (FinE s below (QLen_2 Z a1 t1 kb vs ccs vF h0 n0) (rmm 1 0 0 13).cells (rmm 1 0 0 13).slots) (s₁.setTop (entryFrame m #[(.ref a1)] 1))
  refine Go.via (fun t k => castTop (ef_rmLen_2 m a1) k) ?_
  refine Go.via (fun _ => XS.aloadN X0.here hx rfl (hb hby d10_0) rfl rfl) ?_
  obtain ⟨T101, X101, e101, st101⟩ := getF X0 hx hZ hown (host := "") (Or.inl (ow hw 21 rfl)) Via.refl e0 F1 (g := (mkF m 1 #[rv a1] [(.ref a1)])) rfl rfl (hb hby d10_1)
  refine Go.via st101 ?_
  obtain ⟨cl102, Ar102, -, S102, N102n, -, -⟩ := id V2
  have al102 := X101.arraylength hx (by rw [e101]; exact Ar102.1) (State.isArrayOf_alike hZ.alike Ar102.2.1) (g := (mkF m 4 #[rv a1] [(.ref t1)])) rfl rfl (hb hby d10_4)
  rw [len_of S102 N102n] at al102
  refine Go.via al102 ?_
  refine Go.via (fun _ => XS.aloadN X101.here hx rfl (hb hby d10_5) rfl rfl) ?_
  obtain ⟨cq103, kq103, q103a, q103b, q103c⟩ := isOf hZ e101 E1
  obtain ⟨_, _, ⟨T103, L103, k103, n103⟩, -, X103, ⟨Lc103, hQ103, l103, y103, z103⟩, st103⟩ := X101.virtualBack hx (y := (⟨"java/lang/String", "coder", "()B"⟩ : MethodName)) (z := (⟨"java/lang/String", "coder", "()B"⟩ : MethodName)) hown (mvT hZ (ow hw 52 rfl)) (mvT hZ (ow hw 53 rfl)) (notFace_of_selects (args := #[]) (mvT hZ (ow hw 55 rfl))) (mvT hZ (ow hw 55 rfl)) (mvT hZ (ow hw 54 rfl)) (by decide) (backOf (W := 1) (rmCoder l Z a0 hw [] a1 ccs vF h0 n0 Z0 F2 O0 G) hZ (ow hw 56 rfl) (ow hw 4 rfl) (by decide) (by decide)) q103a q103c (g := (mkF m 6 #[rv a1] [(.ref a1), (.int (2 : Int32))])) rfl (by rw [hml]; rfl) (Steps.refl _) (argsL := []) (rest := [(.int (2 : Int32))]) (lenOf pd_4 rfl) rfl (by show 2 * 0 + _ ≤ _; exact Nat.le_of_eq rfl) (hb hby d10_6) (fun _ _ => ⟨rfl, e101, (by decide : 0 + 0 ≤ _), (by decide : 0 + 0 ≤ _)⟩)
  dsimp only [Pt.U, Pt.locs, Pt.cells, Pt.slots] at X103 l103 y103 z103 st103 hQ103
  rw [l103, y103, z103] at X103
  replace X103 : Stand p l e _ _ m _ below meth c T103 _ 0 0 := X103
  obtain ⟨rfl, N103q, e103q⟩ := hQ103
  have N103 := Fr.app N0 N103q
  refine Go.tr st103 ?_
  show Go p e below _ (T103.setTop (mkF m 9 #[rv a1] [(.int (0 : Int32)), (.int (2 : Int32))]))
  refine Go.via (fun _ => XS.ishr X103.here hx rfl (hb hby d10_9) rfl) ?_
  exact own_retI X103 hx hlk Bd.returns (hb hby d10_10) (by show QLen_2 Z a1 t1 kb vs ccs vF h0 n0 _ T103.heap _; rw [e103q]; exact ⟨rfl, N103, rfl⟩) (by decide) (by decide)
theorem ef_rmN_2_0 (m : MethodId) (x0 : Addr) (x1 : Int32) : entryFrame m #[(.ref x0), (.int x1)] 4 = mkF m 0 #[rv x0, iv x1, .unset, .unset] [] := by first | (simp [entryFrame, mkF, argsToLocals, Value.category]; done) | rfl
set_option maxRecDepth 65536 in
set_option maxHeartbeats 40000000 in
theorem rmN_2_0 (l : Launch) (Z : State) (a0 : Array Value) (hw : TW Z a0) (ws : List Jvm.Cond) (a1 : Addr) (t1 : Addr) (kb : ClassId) (c0 : Int32) (c1 : Int32) (lg : Int32) (ccs : Int32) (vF : Value) (h0 : Heap) (n0 : Nat) (Z0 : n0 ≤ h0.size) (E1 : Exa Z h0 a1 "java/lang/String") (F1 : Fld Z h0 a1 "java/lang/String" "value" "[B" (.ref t1)) (F2 : Fld Z h0 a1 "java/lang/String" "coder" "B" (.int (0 : Int32))) (V2 : Arv Z h0 t1 kb .byte (2 : Int32) [(.int (nar .byte (c0.toInt8.toInt32))), (.int (nar .byte (c1.toInt8.toInt32)))] (.int (0 : Int32))) (hu0 : nar .char (((nar .byte (c0.toInt8.toInt32)) &&& (255 : Int32)).toUInt32.toUInt16.toUInt32.toInt32) = c0) (hu1 : nar .char (((nar .byte (c1.toInt8.toInt32)) &&& (255 : Int32)).toUInt32.toUInt16.toUInt32.toInt32) = c1) (hn0 : nar .char c0 = c0) (hn1 : nar .char c1 = c1) (O0 : Old Z n0 h0) (G : SG Z ccs vF) :
    MF l Z (⟨"com/example/timed_cap/timedcap/model/Names", "isName", "(Ljava/lang/String;I)Z"⟩ : MethodName) prog_5_method_2_code 4 (some .boolean) ws (rmm 5 0 0 130) #[(.ref a1), (.int lg)] h0 (QN2 Z lg c0 c1 h0 n0) := by
  refine MetFree.of_bodySF (plainFor_of_name pn_com_example_timed_cap_timedcap_model_Names) hisR ?_
  intro p e s m args below meth c s₁ Bd hml0 hP hK
  obtain ⟨rfl, hZ, hh⟩ := hP
  have hx := Bd.exec
  have hby := Bd.bytes
  have hlk : meth.locks = false := Bd.notSynchronized
  have hml : c.maxLocals = 4 := hml0
  have hown : s.vm.findClass "com/example/timed_cap/timedcap/model/Names" = some m.cls := findClass_of_methodNamed Bd.named
  have hnm := (name_of_methodNamed Bd.named Bd.method).1
  have rF := G.2.2.2.2.2.2
  have hcs := G.2.1
  have X0 : Stand p l e (rmm 5 0 0 130) s m #[(.ref a1), (.int lg)] below meth c s₁ [] 0 0 := Stand.of_body Bd
  have e0 : s₁.heap = h0 := by rw [← hh, Bd.state]; rfl
  have N0 := Fr.nil n0
  show Go p e below (FinE s below (QN2 Z lg c0 c1 h0 n0) (rmm 5 0 0 130).cells (rmm 5 0 0 130).slots) (s₁.setTop (entryFrame m #[(.ref a1), (.int lg)] 4))
  refine Go.via (fun t k => castTop (ef_rmN_2_0 m a1 lg) k) ?_
  refine Go.via (fun _ => XS.aloadN X0.here hx rfl (hb hby d4_0) rfl rfl) ?_
  obtain ⟨cq101, kq101, q101a, q101b, q101c⟩ := isOf hZ e0 E1
  obtain ⟨_, _, ⟨T101, L101, k101, n101⟩, -, X101, ⟨Lc101, hQ101, l101, y101, z101⟩, st101⟩ := X0.virtualBack hx (y := (⟨"java/lang/String", "isEmpty", "()Z"⟩ : MethodName)) (z := (⟨"java/lang/String", "isEmpty", "()Z"⟩ : MethodName)) hown (mvT hZ (ow hw 27 rfl)) (mvT hZ (ow hw 28 rfl)) (notFace_of_selects (args := #[]) (mvT hZ (ow hw 30 rfl))) (mvT hZ (ow hw 30 rfl)) (mvT hZ (ow hw 29 rfl)) (by decide) (backOf (W := 0) (rmEmp_1 l Z a0 hw [] a1 t1 kb (2 : Int32) _ h0 n0 Z0 F1 V2 (by decide)) hZ (ow hw 31 rfl) (ow hw 4 rfl) (by decide) (by decide)) q101a q101c (g := (mkF m 1 #[rv a1, iv lg, .unset, .unset] [(.ref a1)])) rfl (by rw [hml]; rfl) (Steps.refl _) (argsL := []) (rest := []) (lenOf pd_0 rfl) rfl (by show 2 * 0 + _ ≤ _; exact Nat.le_of_eq rfl) (hb hby d4_1) (fun _ _ => ⟨rfl, e0, (by decide : 0 + 0 ≤ _), (by decide : 0 + 0 ≤ _)⟩)
  dsimp only [Pt.U, Pt.locs, Pt.cells, Pt.slots] at X101 l101 y101 z101 st101 hQ101
  rw [l101, y101, z101] at X101
  replace X101 : Stand p l e _ _ m _ below meth c T101 _ 0 0 := X101
  obtain ⟨rfl, N101q, e101q⟩ := hQ101
  have N101 := Fr.app N0 N101q
  refine Go.tr st101 ?_
  refine Go.via (fun _ => XS.ifNo X101.here hx rfl (hb hby d4_4) rfl (by decide)) ?_
  refine Go.via (fun _ => XS.aloadN X101.here hx rfl (hb hby d4_7) rfl rfl) ?_
  obtain ⟨cq102, kq102, q102a, q102b, q102c⟩ := isOf hZ e101q E1
  obtain ⟨_, _, ⟨T102, L102, k102, n102⟩, -, X102, ⟨Lc102, hQ102, l102, y102, z102⟩, st102⟩ := X101.virtualBack hx (y := (⟨"java/lang/String", "length", "()I"⟩ : MethodName)) (z := (⟨"java/lang/String", "length", "()I"⟩ : MethodName)) hown (mvT hZ (ow hw 47 rfl)) (mvT hZ (ow hw 48 rfl)) (notFace_of_selects (args := #[]) (mvT hZ (ow hw 50 rfl))) (mvT hZ (ow hw 50 rfl)) (mvT hZ (ow hw 49 rfl)) (by decide) (backOf (W := 0) (rmLen_2 l Z a0 hw [] a1 t1 kb _ ccs vF h0 n0 Z0 E1 F1 F2 V2 O0 G) hZ (ow hw 51 rfl) (ow hw 4 rfl) (by decide) (by decide)) q102a q102c (g := (mkF m 8 #[rv a1, iv lg, .unset, .unset] [(.ref a1)])) rfl (by rw [hml]; rfl) (Steps.refl _) (argsL := []) (rest := []) (lenOf pd_5 rfl) rfl (by show 2 * 0 + _ ≤ _; exact Nat.le_of_eq rfl) (hb hby d4_8) (fun _ _ => ⟨rfl, e101q, (by decide : 0 + 0 ≤ _), (by decide : 0 + 0 ≤ _)⟩)
  dsimp only [Pt.U, Pt.locs, Pt.cells, Pt.slots] at X102 l102 y102 z102 st102 hQ102
  rw [l102, y102, z102] at X102
  replace X102 : Stand p l e _ _ m _ below meth c T102 _ 0 0 := X102
  obtain ⟨rfl, N102q, e102q⟩ := hQ102
  have N102 := Fr.app N101 N102q
  refine Go.tr st102 ?_
  show Go p e below _ (T102.setTop (mkF m 11 #[rv a1, iv lg, .unset, .unset] [(.int (2 : Int32))]))
  refine Go.via (fun _ => XS.iloadN X102.here hx rfl (hb hby d4_11) rfl) ?_
  by_cases hc103 : lg < (2 : Int32)
  · -- yes
    refine Go.via (fun _ => XS.icmpNo X102.here hx rfl (hb hby d4_12) rfl (tlt hc103).2.2.2) ?_
    refine Go.via (fun _ => XS.iconst X102.here hx rfl (hb hby d4_15)) ?_
    exact own_retN X102 hx hlk (t := .boolean) Bd.returns (by simp) (hb hby d4_16) (by show QN2 Z lg c0 c1 h0 n0 _ T102.heap _; rw [e102q]; exact ⟨by simp [nm2, nar, hc103], N102, rfl⟩) (by decide) (by decide)
  · -- no
    refine Go.via (fun _ => XS.icmpYes X102.here hx rfl (pc0 := 12) (pc' := 17) rfl (hb hby d4_12) rfl (flt hc103).2.2.2 (by decide) (by decide)) ?_
    refine Go.via (fun _ => XS.iconst X102.here hx rfl (hb hby d4_17)) ?_
    refine Go.via (fun _ => XS.istoreN X102.here hx rfl (hb hby d4_18) rfl (l' := #[rv a1, iv lg, iv (0 : Int32), .unset]) rfl) ?_
    show Go p e below _ (T102.setTop (mkF m 19 #[rv a1, iv lg, iv (0 : Int32), .unset] []))
    refine Go.via (fun _ => XS.iloadN X102.here hx rfl (hb hby d4_19) rfl) ?_
    refine Go.via (fun _ => XS.aloadN X102.here hx rfl (hb hby d4_20) rfl rfl) ?_
    obtain ⟨cq104, kq104, q104a, q104b, q104c⟩ := isOf hZ e102q E1
    obtain ⟨_, _, ⟨T104, L104, k104, n104⟩, -, X104, ⟨Lc104, hQ104, l104, y104, z104⟩, st104⟩ := X102.virtualBack hx (y := (⟨"java/lang/String", "length", "()I"⟩ : MethodName)) (z := (⟨"java/lang/String", "length", "()I"⟩ : MethodName)) hown (mvT hZ (ow hw 47 rfl)) (mvT hZ (ow hw 48 rfl)) (notFace_of_selects (args := #[]) (mvT hZ (ow hw 50 rfl))) (mvT hZ (ow hw 50 rfl)) (mvT hZ (ow hw 49 rfl)) (by decide) (backOf (W := 1) (rmLen_2 l Z a0 hw [] a1 t1 kb _ ccs vF h0 n0 Z0 E1 F1 F2 V2 O0 G) hZ (ow hw 51 rfl) (ow hw 4 rfl) (by decide) (by decide)) q104a q104c (g := (mkF m 21 #[rv a1, iv lg, iv (0 : Int32), .unset] [(.ref a1), (.int (0 : Int32))])) rfl (by rw [hml]; rfl) (Steps.refl _) (argsL := []) (rest := [(.int (0 : Int32))]) (lenOf pd_5 rfl) rfl (by show 2 * 0 + _ ≤ _; exact Nat.le_of_eq rfl) (hb hby d4_21) (fun _ _ => ⟨rfl, e102q, (by decide : 0 + 0 ≤ _), (by decide : 0 + 0 ≤ _)⟩)
    dsimp only [Pt.U, Pt.locs, Pt.cells, Pt.slots] at X104 l104 y104 z104 st104 hQ104
    rw [l104, y104, z104] at X104
    replace X104 : Stand p l e _ _ m _ below meth c T104 _ 0 0 := X104
    obtain ⟨rfl, N104q, e104q⟩ := hQ104
    have N104 := Fr.app N102 N104q
    refine Go.tr st104 ?_
    refine Go.via (fun _ => XS.icmpNo X104.here hx rfl (hb hby d4_24) rfl (by decide)) ?_
    refine Go.via (fun _ => XS.aloadN X104.here hx rfl (hb hby d4_27) rfl rfl) ?_
    refine Go.via (fun _ => XS.iloadN X104.here hx rfl (hb hby d4_28) rfl) ?_
    show Go p e below _ (T104.setTop (mkF m 29 #[rv a1, iv lg, iv (0 : Int32), .unset] [(.int (0 : Int32)), (.ref a1)]))
    obtain ⟨cq105, kq105, q105a, q105b, q105c⟩ := isOf hZ e104q E1
    obtain ⟨_, _, ⟨T105, L105, k105, n105⟩, -, X105, ⟨Lc105, hQ105, l105, y105, z105⟩, st105⟩ := X104.virtualBack hx (y := (⟨"java/lang/String", "charAt", "(I)C"⟩ : MethodName)) (z := (⟨"java/lang/String", "charAt", "(I)C"⟩ : MethodName)) hown (mvT hZ (ow hw 57 rfl)) (mvT hZ (ow hw 58 rfl)) (notFace_of_selects (args := #[]) (mvT hZ (ow hw 60 rfl))) (mvT hZ (ow hw 60 rfl)) (mvT hZ (ow hw 59 rfl)) (by decide) (backOf (W := 0) (rmCA_0 l Z a0 hw [] a1 t1 kb (2 : Int32) _ (0 : Int32) c0 ccs vF h0 n0 Z0 E1 F1 F2 V2 (by decide) (by decide) rfl hu0 hn0 O0 G) hZ (ow hw 61 rfl) (ow hw 4 rfl) (by decide) (by decide)) q105a q105c (g := (mkF m 29 #[rv a1, iv lg, iv (0 : Int32), .unset] [(.int (0 : Int32)), (.ref a1)])) rfl (by rw [hml]; rfl) (Steps.refl _) (argsL := [(.int (0 : Int32))]) (rest := []) (lenOf pd_6 rfl) rfl (by show 2 * 0 + _ ≤ _; exact Nat.le_of_eq rfl) (hb hby d4_29) (fun _ _ => ⟨rfl, e104q, (by decide : 0 + 0 ≤ _), (by decide : 0 + 0 ≤ _)⟩)
    dsimp only [Pt.U, Pt.locs, Pt.cells, Pt.slots] at X105 l105 y105 z105 st105 hQ105
    rw [l105, y105, z105] at X105
    replace X105 : Stand p l e _ _ m _ below meth c T105 _ 0 0 := X105
    obtain ⟨rfl, N105q, e105q⟩ := hQ105
    have N105 := Fr.app N104 N105q
    refine Go.tr st105 ?_
    refine Go.via (fun _ => XS.istoreN X105.here hx rfl (hb hby d4_32) rfl (l' := #[rv a1, iv lg, iv (0 : Int32), iv c0]) rfl) ?_
    have nx0 : ∀ (T' : State) (L' : List Loc), Stand p l e (rmm 5 0 0 130) s m #[(.ref a1), (.int lg)] below meth c T' L' 0 0 → T'.heap = h0 → Fr n0 L' → ¬ (okF c0 = (0 : Int32)) → Go p e below (FinE s below (QN2 Z lg c0 c1 h0 n0) (rmm 5 0 0 130).cells (rmm 5 0 0 130).slots) (T'.setTop (mkF m 79 #[rv a1, iv lg, iv (0 : Int32), iv c0] [])) := by
      intro Tn0 Ln0 Xn0 en0 Nn0 hok0
      refine Go.via (fun _ => XS.iinc Xn0.here hx rfl (hb hby d4_79) rfl (l' := #[rv a1, iv lg, iv (1 : Int32), iv c0]) rfl) ?_
      refine Go.via (fun _ => XS.goto Xn0.here hx rfl (pc0 := 82) (pc' := 19) rfl (hb hby d4_82) (by decide) (by decide)) ?_
      refine Go.via (fun _ => XS.iloadN Xn0.here hx rfl (hb hby d4_19) rfl) ?_
      show Go p e below _ (Tn0.setTop (mkF m 20 #[rv a1, iv lg, iv (1 : Int32), iv c0] [(.int (1 : Int32))]))
      refine Go.via (fun _ => XS.aloadN Xn0.here hx rfl (hb hby d4_20) rfl rfl) ?_
      obtain ⟨cq106, kq106, q106a, q106b, q106c⟩ := isOf hZ en0 E1
      obtain ⟨_, _, ⟨T106, L106, k106, n106⟩, -, X106, ⟨Lc106, hQ106, l106, y106, z106⟩, st106⟩ := Xn0.virtualBack hx (y := (⟨"java/lang/String", "length", "()I"⟩ : MethodName)) (z := (⟨"java/lang/String", "length", "()I"⟩ : MethodName)) hown (mvT hZ (ow hw 47 rfl)) (mvT hZ (ow hw 48 rfl)) (notFace_of_selects (args := #[]) (mvT hZ (ow hw 50 rfl))) (mvT hZ (ow hw 50 rfl)) (mvT hZ (ow hw 49 rfl)) (by decide) (backOf (W := 1) (rmLen_2 l Z a0 hw [] a1 t1 kb _ ccs vF h0 n0 Z0 E1 F1 F2 V2 O0 G) hZ (ow hw 51 rfl) (ow hw 4 rfl) (by decide) (by decide)) q106a q106c (g := (mkF m 21 #[rv a1, iv lg, iv (1 : Int32), iv c0] [(.ref a1), (.int (1 : Int32))])) rfl (by rw [hml]; rfl) (Steps.refl _) (argsL := []) (rest := [(.int (1 : Int32))]) (lenOf pd_5 rfl) rfl (by show 2 * 0 + _ ≤ _; exact Nat.le_of_eq rfl) (hb hby d4_21) (fun _ _ => ⟨rfl, en0, (by decide : 0 + 0 ≤ _), (by decide : 0 + 0 ≤ _)⟩)
      dsimp only [Pt.U, Pt.locs, Pt.cells, Pt.slots] at X106 l106 y106 z106 st106 hQ106
      rw [l106, y106, z106] at X106
      replace X106 : Stand p l e _ _ m _ below meth c T106 _ 0 0 := X106
      obtain ⟨rfl, N106q, e106q⟩ := hQ106
      have N106 := Fr.app Nn0 N106q
      refine Go.tr st106 ?_
      refine Go.via (fun _ => XS.icmpNo X106.here hx rfl (hb hby d4_24) rfl (by decide)) ?_
      refine Go.via (fun _ => XS.aloadN X106.here hx rfl (hb hby d4_27) rfl rfl) ?_
      refine Go.via (fun _ => XS.iloadN X106.here hx rfl (hb hby d4_28) rfl) ?_
      obtain ⟨cq107, kq107, q107a, q107b, q107c⟩ := isOf hZ e106q E1
      obtain ⟨_, _, ⟨T107, L107, k107, n107⟩, -, X107, ⟨Lc107, hQ107, l107, y107, z107⟩, st107⟩ := X106.virtualBack hx (y := (⟨"java/lang/String", "charAt", "(I)C"⟩ : MethodName)) (z := (⟨"java/lang/String", "charAt", "(I)C"⟩ : MethodName)) hown (mvT hZ (ow hw 57 rfl)) (mvT hZ (ow hw 58 rfl)) (notFace_of_selects (args := #[]) (mvT hZ (ow hw 60 rfl))) (mvT hZ (ow hw 60 rfl)) (mvT hZ (ow hw 59 rfl)) (by decide) (backOf (W := 0) (rmCA_0 l Z a0 hw [] a1 t1 kb (2 : Int32) _ (1 : Int32) c1 ccs vF h0 n0 Z0 E1 F1 F2 V2 (by decide) (by decide) rfl hu1 hn1 O0 G) hZ (ow hw 61 rfl) (ow hw 4 rfl) (by decide) (by decide)) q107a q107c (g := (mkF m 29 #[rv a1, iv lg, iv (1 : Int32), iv c0] [(.int (1 : Int32)), (.ref a1)])) rfl (by rw [hml]; rfl) (Steps.refl _) (argsL := [(.int (1 : Int32))]) (rest := []) (lenOf pd_6 rfl) rfl (by show 2 * 0 + _ ≤ _; exact Nat.le_of_eq rfl) (hb hby d4_29) (fun _ _ => ⟨rfl, e106q, (by decide : 0 + 0 ≤ _), (by decide : 0 + 0 ≤ _)⟩)
      dsimp only [Pt.U, Pt.locs, Pt.cells, Pt.slots] at X107 l107 y107 z107 st107 hQ107
      rw [l107, y107, z107] at X107
      replace X107 : Stand p l e _ _ m _ below meth c T107 _ 0 0 := X107
      obtain ⟨rfl, N107q, e107q⟩ := hQ107
      have N107 := Fr.app N106 N107q
      refine Go.tr st107 ?_
      show Go p e below _ (T107.setTop (mkF m 32 #[rv a1, iv lg, iv (1 : Int32), iv c0] [(.int c1)]))
      refine Go.via (fun _ => XS.istoreN X107.here hx rfl (hb hby d4_32) rfl (l' := #[rv a1, iv lg, iv (1 : Int32), iv c1]) rfl) ?_
      have nx1 : ∀ (T' : State) (L' : List Loc), Stand p l e (rmm 5 0 0 130) s m #[(.ref a1), (.int lg)] below meth c T' L' 0 0 → T'.heap = h0 → Fr n0 L' → ¬ (okF c1 = (0 : Int32)) → Go p e below (FinE s below (QN2 Z lg c0 c1 h0 n0) (rmm 5 0 0 130).cells (rmm 5 0 0 130).slots) (T'.setTop (mkF m 79 #[rv a1, iv lg, iv (1 : Int32), iv c1] [])) := by
        intro Tn1 Ln1 Xn1 en1 Nn1 hok1
        refine Go.via (fun _ => XS.iinc Xn1.here hx rfl (hb hby d4_79) rfl (l' := #[rv a1, iv lg, iv (2 : Int32), iv c1]) rfl) ?_
        refine Go.via (fun _ => XS.goto Xn1.here hx rfl (pc0 := 82) (pc' := 19) rfl (hb hby d4_82) (by decide) (by decide)) ?_
        refine Go.via (fun _ => XS.iloadN Xn1.here hx rfl (hb hby d4_19) rfl) ?_
        refine Go.via (fun _ => XS.aloadN Xn1.here hx rfl (hb hby d4_20) rfl rfl) ?_
        show Go p e below _ (Tn1.setTop (mkF m 21 #[rv a1, iv lg, iv (2 : Int32), iv c1] [(.ref a1), (.int (2 : Int32))]))
        obtain ⟨cq108, kq108, q108a, q108b, q108c⟩ := isOf hZ en1 E1
        obtain ⟨_, _, ⟨T108, L108, k108, n108⟩, -, X108, ⟨Lc108, hQ108, l108, y108, z108⟩, st108⟩ := Xn1.virtualBack hx (y := (⟨"java/lang/String", "length", "()I"⟩ : MethodName)) (z := (⟨"java/lang/String", "length", "()I"⟩ : MethodName)) hown (mvT hZ (ow hw 47 rfl)) (mvT hZ (ow hw 48 rfl)) (notFace_of_selects (args := #[]) (mvT hZ (ow hw 50 rfl))) (mvT hZ (ow hw 50 rfl)) (mvT hZ (ow hw 49 rfl)) (by decide) (backOf (W := 1) (rmLen_2 l Z a0 hw [] a1 t1 kb _ ccs vF h0 n0 Z0 E1 F1 F2 V2 O0 G) hZ (ow hw 51 rfl) (ow hw 4 rfl) (by decide) (by decide)) q108a q108c (g := (mkF m 21 #[rv a1, iv lg, iv (2 : Int32), iv c1] [(.ref a1), (.int (2 : Int32))])) rfl (by rw [hml]; rfl) (Steps.refl _) (argsL := []) (rest := [(.int (2 : Int32))]) (lenOf pd_5 rfl) rfl (by show 2 * 0 + _ ≤ _; exact Nat.le_of_eq rfl) (hb hby d4_21) (fun _ _ => ⟨rfl, en1, (by decide : 0 + 0 ≤ _), (by decide : 0 + 0 ≤ _)⟩)
        dsimp only [Pt.U, Pt.locs, Pt.cells, Pt.slots] at X108 l108 y108 z108 st108 hQ108
        rw [l108, y108, z108] at X108
        replace X108 : Stand p l e _ _ m _ below meth c T108 _ 0 0 := X108
        obtain ⟨rfl, N108q, e108q⟩ := hQ108
        have N108 := Fr.app Nn1 N108q
        refine Go.tr st108 ?_
        refine Go.via (fun _ => XS.icmpYes X108.here hx rfl (pc0 := 24) (pc' := 85) rfl (hb hby d4_24) rfl (by decide) (by decide) (by decide)) ?_
        refine Go.via (fun _ => XS.iconst X108.here hx rfl (hb hby d4_85)) ?_
        exact own_retN X108 hx hlk (t := .boolean) Bd.returns (by simp) (hb hby d4_86) (by show QN2 Z lg c0 c1 h0 n0 _ T108.heap _; rw [e108q]; exact ⟨by simp [nm2, nar, hc103, hok0, hok1], N108, rfl⟩) (by decide) (by decide)
      refine Go.via (fun _ => XS.iloadN X107.here hx rfl (hb hby d4_33) rfl) ?_
      obtain ⟨_, _, ⟨T109, L109, k109, n109⟩, -, X109, ⟨Lc109, hQ109, l109, y109, z109⟩, st109⟩ := Jvm.LawKit.callS X107 hx (y := (⟨"com/example/timed_cap/timedcap/model/Names", "isLowerCase", "(C)Z"⟩ : MethodName)) hown (mvT hZ (ow hw 79 rfl)) (mvT hZ (ow hw 80 rfl)) (mvT hZ (ow hw 25 rfl)) (mvT hZ (ow hw 81 rfl)) (by decide) (backOf (W := 0) (rm_isLowerCase l Z a0 hw [] c1 h0 n0 Z0) hZ (ow hw 81 rfl) (ow hw 25 rfl) (by decide) (by decide)) (g := (mkF m 34 #[rv a1, iv lg, iv (1 : Int32), iv c1] [(.int c1)])) rfl (by rw [hml]; rfl) (argsL := [(.int c1)]) (rest := []) (lenOf pd_7 rfl) rfl (by show 2 * 0 + _ ≤ _; exact Nat.le_of_eq rfl) (hb hby d4_34) (fun _ _ => ⟨rfl, e107q, (by decide : 0 + 0 ≤ _), (by decide : 0 + 0 ≤ _)⟩)
      dsimp only [Pt.U, Pt.locs, Pt.cells, Pt.slots] at X109 l109 y109 z109 st109 hQ109
      rw [l109, y109, z109] at X109
      replace X109 : Stand p l e _ _ m _ below meth c T109 _ 0 0 := X109
      obtain ⟨rfl, N109q, e109q⟩ := hQ109
      have N109 := Fr.app N107 N109q
      refine Go.via st109 ?_
      by_cases hc110 : (loF c1) = (0 : Int32)
      · -- yes
        refine Go.via (fun _ => XS.ifNo X109.here hx rfl (hb hby d4_37) rfl ((if0 _ _).trans (teq hc110).2)) ?_
        show Go p e below _ (T109.setTop (mkF m 40 #[rv a1, iv lg, iv (1 : Int32), iv c1] []))
        refine Go.via (fun _ => XS.iloadN X109.here hx rfl (hb hby d4_40) rfl) ?_
        refine Go.via (fun _ => XS.bipush X109.here hx rfl (hb hby d4_41)) ?_
        by_cases hc111 : c1 < (65 : Int32)
        · -- yes
          refine Go.via (fun _ => XS.icmpYes X109.here hx rfl (pc0 := 43) (pc' := 52) rfl (hb hby d4_43) rfl (tlt hc111).1 (by decide) (by decide)) ?_
          refine Go.via (fun _ => XS.iloadN X109.here hx rfl (hb hby d4_52) rfl) ?_
          show Go p e below _ (T109.setTop (mkF m 53 #[rv a1, iv lg, iv (1 : Int32), iv c1] [(.int c1)]))
          obtain ⟨_, _, ⟨T112, L112, k112, n112⟩, -, X112, ⟨Lc112, hQ112, l112, y112, z112⟩, st112⟩ := Jvm.LawKit.callS X109 hx (y := (⟨"com/example/timed_cap/timedcap/model/Names", "isDigit", "(C)Z"⟩ : MethodName)) hown (mvT hZ (ow hw 82 rfl)) (mvT hZ (ow hw 83 rfl)) (mvT hZ (ow hw 25 rfl)) (mvT hZ (ow hw 84 rfl)) (by decide) (backOf (W := 0) (rm_isDigit l Z a0 hw [] c1 h0 n0 Z0) hZ (ow hw 84 rfl) (ow hw 25 rfl) (by decide) (by decide)) (g := (mkF m 53 #[rv a1, iv lg, iv (1 : Int32), iv c1] [(.int c1)])) rfl (by rw [hml]; rfl) (argsL := [(.int c1)]) (rest := []) (lenOf pd_7 rfl) rfl (by show 2 * 0 + _ ≤ _; exact Nat.le_of_eq rfl) (hb hby d4_53) (fun _ _ => ⟨rfl, e109q, (by decide : 0 + 0 ≤ _), (by decide : 0 + 0 ≤ _)⟩)
          dsimp only [Pt.U, Pt.locs, Pt.cells, Pt.slots] at X112 l112 y112 z112 st112 hQ112
          rw [l112, y112, z112] at X112
          replace X112 : Stand p l e _ _ m _ below meth c T112 _ 0 0 := X112
          obtain ⟨rfl, N112q, e112q⟩ := hQ112
          have N112 := Fr.app N109 N112q
          refine Go.via st112 ?_
          by_cases hc113 : (dgF c1) = (0 : Int32)
          · -- yes
            refine Go.via (fun _ => XS.ifNo X112.here hx rfl (hb hby d4_56) rfl ((if0 _ _).trans (teq hc113).2)) ?_
            refine Go.via (fun _ => XS.iloadN X112.here hx rfl (hb hby d4_59) rfl) ?_
            refine Go.via (fun _ => XS.bipush X112.here hx rfl (hb hby d4_60)) ?_
            show Go p e below _ (T112.setTop (mkF m 62 #[rv a1, iv lg, iv (1 : Int32), iv c1] [(.int (46 : Int32)), (.int c1)]))
            by_cases hc114 : c1 = (46 : Int32)
            · -- yes
              refine Go.via (fun _ => XS.icmpYes X112.here hx rfl (pc0 := 62) (pc' := 79) rfl (hb hby d4_62) rfl (teq hc114).1 (by decide) (by decide)) ?_
              exact nx1 _ _ X112 e112q N112 (by simp [okF, hc110, hc111, hc113, hc114])
            · -- no
              refine Go.via (fun _ => XS.icmpNo X112.here hx rfl (hb hby d4_62) rfl (feq hc114).1) ?_
              refine Go.via (fun _ => XS.iloadN X112.here hx rfl (hb hby d4_65) rfl) ?_
              refine Go.via (fun _ => XS.bipush X112.here hx rfl (hb hby d4_66)) ?_
              by_cases hc115 : c1 = (95 : Int32)
              · -- yes
                show Go p e below _ (T112.setTop (mkF m 68 #[rv a1, iv lg, iv (1 : Int32), iv c1] [(.int (95 : Int32)), (.int c1)]))
                refine Go.via (fun _ => XS.icmpYes X112.here hx rfl (pc0 := 68) (pc' := 79) rfl (hb hby d4_68) rfl (teq hc115).1 (by decide) (by decide)) ?_
                exact nx1 _ _ X112 e112q N112 (by simp [okF, hc110, hc111, hc113, hc114, hc115])
              · -- no
                show Go p e below _ (T112.setTop (mkF m 68 #[rv a1, iv lg, iv (1 : Int32), iv c1] [(.int (95 : Int32)), (.int c1)]))
                refine Go.via (fun _ => XS.icmpNo X112.here hx rfl (hb hby d4_68) rfl (feq hc115).1) ?_
                refine Go.via (fun _ => XS.iloadN X112.here hx rfl (hb hby d4_71) rfl) ?_
                refine Go.via (fun _ => XS.bipush X112.here hx rfl (hb hby d4_72)) ?_
                by_cases hc116 : c1 = (45 : Int32)
                · -- yes
                  show Go p e below _ (T112.setTop (mkF m 74 #[rv a1, iv lg, iv (1 : Int32), iv c1] [(.int (45 : Int32)), (.int c1)]))
                  refine Go.via (fun _ => XS.icmpYes X112.here hx rfl (pc0 := 74) (pc' := 79) rfl (hb hby d4_74) rfl (teq hc116).1 (by decide) (by decide)) ?_
                  exact nx1 _ _ X112 e112q N112 (by simp [okF, hc110, hc111, hc113, hc114, hc115, hc116])
                · -- no
                  show Go p e below _ (T112.setTop (mkF m 74 #[rv a1, iv lg, iv (1 : Int32), iv c1] [(.int (45 : Int32)), (.int c1)]))
                  refine Go.via (fun _ => XS.icmpNo X112.here hx rfl (hb hby d4_74) rfl (feq hc116).1) ?_
                  refine Go.via (fun _ => XS.iconst X112.here hx rfl (hb hby d4_77)) ?_
                  have hz : okF c1 = (0 : Int32) := by simp [okF, hc110, hc111, hc113, hc114, hc115, hc116]
                  exact own_retN X112 hx hlk (t := .boolean) Bd.returns (by simp) (hb hby d4_78) (by show QN2 Z lg c0 c1 h0 n0 _ T112.heap _; rw [e112q]; exact ⟨by simp [nm2, nar, hz, hc103, hok0], N112, rfl⟩) (by decide) (by decide)
          · -- no
            refine Go.via (fun _ => XS.ifYes X112.here hx rfl (pc0 := 56) (pc' := 79) rfl (hb hby d4_56) rfl ((if0 _ _).trans (feq hc113).2) (by decide) (by decide)) ?_
            exact nx1 _ _ X112 e112q N112 (by simp [okF, hc110, hc111, hc113])
        · -- no
          refine Go.via (fun _ => XS.icmpNo X109.here hx rfl (hb hby d4_43) rfl (flt hc111).1) ?_
          refine Go.via (fun _ => XS.iloadN X109.here hx rfl (hb hby d4_46) rfl) ?_
          show Go p e below _ (T109.setTop (mkF m 47 #[rv a1, iv lg, iv (1 : Int32), iv c1] [(.int c1)]))
          refine Go.via (fun _ => XS.bipush X109.here hx rfl (hb hby d4_47)) ?_
          by_cases hc117 : (90 : Int32) < c1
          · -- yes
            refine Go.via (fun _ => XS.icmpNo X109.here hx rfl (hb hby d4_49) rfl (tlt hc117).2.2.2) ?_
            refine Go.via (fun _ => XS.iloadN X109.here hx rfl (hb hby d4_52) rfl) ?_
            obtain ⟨_, _, ⟨T118, L118, k118, n118⟩, -, X118, ⟨Lc118, hQ118, l118, y118, z118⟩, st118⟩ := Jvm.LawKit.callS X109 hx (y := (⟨"com/example/timed_cap/timedcap/model/Names", "isDigit", "(C)Z"⟩ : MethodName)) hown (mvT hZ (ow hw 82 rfl)) (mvT hZ (ow hw 83 rfl)) (mvT hZ (ow hw 25 rfl)) (mvT hZ (ow hw 84 rfl)) (by decide) (backOf (W := 0) (rm_isDigit l Z a0 hw [] c1 h0 n0 Z0) hZ (ow hw 84 rfl) (ow hw 25 rfl) (by decide) (by decide)) (g := (mkF m 53 #[rv a1, iv lg, iv (1 : Int32), iv c1] [(.int c1)])) rfl (by rw [hml]; rfl) (argsL := [(.int c1)]) (rest := []) (lenOf pd_7 rfl) rfl (by show 2 * 0 + _ ≤ _; exact Nat.le_of_eq rfl) (hb hby d4_53) (fun _ _ => ⟨rfl, e109q, (by decide : 0 + 0 ≤ _), (by decide : 0 + 0 ≤ _)⟩)
            dsimp only [Pt.U, Pt.locs, Pt.cells, Pt.slots] at X118 l118 y118 z118 st118 hQ118
            rw [l118, y118, z118] at X118
            replace X118 : Stand p l e _ _ m _ below meth c T118 _ 0 0 := X118
            obtain ⟨rfl, N118q, e118q⟩ := hQ118
            have N118 := Fr.app N109 N118q
            refine Go.via st118 ?_
            show Go p e below _ (T118.setTop (mkF m 56 #[rv a1, iv lg, iv (1 : Int32), iv c1] [(.int (dgF c1))]))
            by_cases hc119 : (dgF c1) = (0 : Int32)
            · -- yes
              refine Go.via (fun _ => XS.ifNo X118.here hx rfl (hb hby d4_56) rfl ((if0 _ _).trans (teq hc119).2)) ?_
              refine Go.via (fun _ => XS.iloadN X118.here hx rfl (hb hby d4_59) rfl) ?_
              refine Go.via (fun _ => XS.bipush X118.here hx rfl (hb hby d4_60)) ?_
              by_cases hc120 : c1 = (46 : Int32)
              · -- yes
                show Go p e below _ (T118.setTop (mkF m 62 #[rv a1, iv lg, iv (1 : Int32), iv c1] [(.int (46 : Int32)), (.int c1)]))
                refine Go.via (fun _ => XS.icmpYes X118.here hx rfl (pc0 := 62) (pc' := 79) rfl (hb hby d4_62) rfl (teq hc120).1 (by decide) (by decide)) ?_
                exact nx1 _ _ X118 e118q N118 (by simp [okF, hc110, hc111, hc117, hc119, hc120])
              · -- no
                show Go p e below _ (T118.setTop (mkF m 62 #[rv a1, iv lg, iv (1 : Int32), iv c1] [(.int (46 : Int32)), (.int c1)]))
                refine Go.via (fun _ => XS.icmpNo X118.here hx rfl (hb hby d4_62) rfl (feq hc120).1) ?_
                refine Go.via (fun _ => XS.iloadN X118.here hx rfl (hb hby d4_65) rfl) ?_
                refine Go.via (fun _ => XS.bipush X118.here hx rfl (hb hby d4_66)) ?_
                by_cases hc121 : c1 = (95 : Int32)
                · -- yes
                  show Go p e below _ (T118.setTop (mkF m 68 #[rv a1, iv lg, iv (1 : Int32), iv c1] [(.int (95 : Int32)), (.int c1)]))
                  refine Go.via (fun _ => XS.icmpYes X118.here hx rfl (pc0 := 68) (pc' := 79) rfl (hb hby d4_68) rfl (teq hc121).1 (by decide) (by decide)) ?_
                  exact nx1 _ _ X118 e118q N118 (by simp [okF, hc110, hc111, hc117, hc119, hc120, hc121])
                · -- no
                  show Go p e below _ (T118.setTop (mkF m 68 #[rv a1, iv lg, iv (1 : Int32), iv c1] [(.int (95 : Int32)), (.int c1)]))
                  refine Go.via (fun _ => XS.icmpNo X118.here hx rfl (hb hby d4_68) rfl (feq hc121).1) ?_
                  refine Go.via (fun _ => XS.iloadN X118.here hx rfl (hb hby d4_71) rfl) ?_
                  refine Go.via (fun _ => XS.bipush X118.here hx rfl (hb hby d4_72)) ?_
                  by_cases hc122 : c1 = (45 : Int32)
                  · -- yes
                    refine Go.via (fun _ => XS.icmpYes X118.here hx rfl (pc0 := 74) (pc' := 79) rfl (hb hby d4_74) rfl (teq hc122).1 (by decide) (by decide)) ?_
                    show Go p e below _ (T118.setTop (mkF m 79 #[rv a1, iv lg, iv (1 : Int32), iv c1] []))
                    exact nx1 _ _ X118 e118q N118 (by simp [okF, hc110, hc111, hc117, hc119, hc120, hc121, hc122])
                  · -- no
                    refine Go.via (fun _ => XS.icmpNo X118.here hx rfl (hb hby d4_74) rfl (feq hc122).1) ?_
                    show Go p e below _ (T118.setTop (mkF m 77 #[rv a1, iv lg, iv (1 : Int32), iv c1] []))
                    refine Go.via (fun _ => XS.iconst X118.here hx rfl (hb hby d4_77)) ?_
                    have hz : okF c1 = (0 : Int32) := by simp [okF, hc110, hc111, hc117, hc119, hc120, hc121, hc122]
                    exact own_retN X118 hx hlk (t := .boolean) Bd.returns (by simp) (hb hby d4_78) (by show QN2 Z lg c0 c1 h0 n0 _ T118.heap _; rw [e118q]; exact ⟨by simp [nm2, nar, hz, hc103, hok0], N118, rfl⟩) (by decide) (by decide)
            · -- no
              refine Go.via (fun _ => XS.ifYes X118.here hx rfl (pc0 := 56) (pc' := 79) rfl (hb hby d4_56) rfl ((if0 _ _).trans (feq hc119).2) (by decide) (by decide)) ?_
              exact nx1 _ _ X118 e118q N118 (by simp [okF, hc110, hc111, hc117, hc119])
          · -- no
            refine Go.via (fun _ => XS.icmpYes X109.here hx rfl (pc0 := 49) (pc' := 79) rfl (hb hby d4_49) rfl (flt hc117).2.2.2 (by decide) (by decide)) ?_
            exact nx1 _ _ X109 e109q N109 (by simp [okF, hc110, hc111, hc117])
      · -- no
        refine Go.via (fun _ => XS.ifYes X109.here hx rfl (pc0 := 37) (pc' := 79) rfl (hb hby d4_37) rfl ((if0 _ _).trans (feq hc110).2) (by decide) (by decide)) ?_
        show Go p e below _ (T109.setTop (mkF m 79 #[rv a1, iv lg, iv (1 : Int32), iv c1] []))
        exact nx1 _ _ X109 e109q N109 (by simp [okF, hc110])
    refine Go.via (fun _ => XS.iloadN X105.here hx rfl (hb hby d4_33) rfl) ?_
    obtain ⟨_, _, ⟨T123, L123, k123, n123⟩, -, X123, ⟨Lc123, hQ123, l123, y123, z123⟩, st123⟩ := Jvm.LawKit.callS X105 hx (y := (⟨"com/example/timed_cap/timedcap/model/Names", "isLowerCase", "(C)Z"⟩ : MethodName)) hown (mvT hZ (ow hw 79 rfl)) (mvT hZ (ow hw 80 rfl)) (mvT hZ (ow hw 25 rfl)) (mvT hZ (ow hw 81 rfl)) (by decide) (backOf (W := 0) (rm_isLowerCase l Z a0 hw [] c0 h0 n0 Z0) hZ (ow hw 81 rfl) (ow hw 25 rfl) (by decide) (by decide)) (g := (mkF m 34 #[rv a1, iv lg, iv (0 : Int32), iv c0] [(.int c0)])) rfl (by rw [hml]; rfl) (argsL := [(.int c0)]) (rest := []) (lenOf pd_7 rfl) rfl (by show 2 * 0 + _ ≤ _; exact Nat.le_of_eq rfl) (hb hby d4_34) (fun _ _ => ⟨rfl, e105q, (by decide : 0 + 0 ≤ _), (by decide : 0 + 0 ≤ _)⟩)
    dsimp only [Pt.U, Pt.locs, Pt.cells, Pt.slots] at X123 l123 y123 z123 st123 hQ123
    rw [l123, y123, z123] at X123
    replace X123 : Stand p l e _ _ m _ below meth c T123 _ 0 0 := X123
    obtain ⟨rfl, N123q, e123q⟩ := hQ123
    have N123 := Fr.app N105 N123q
    refine Go.via st123 ?_
    by_cases hc124 : (loF c0) = (0 : Int32)
    · -- yes
      show Go p e below _ (T123.setTop (mkF m 37 #[rv a1, iv lg, iv (0 : Int32), iv c0] [(.int (loF c0))]))
      refine Go.via (fun _ => XS.ifNo X123.here hx rfl (hb hby d4_37) rfl ((if0 _ _).trans (teq hc124).2)) ?_
      refine Go.via (fun _ => XS.iloadN X123.here hx rfl (hb hby d4_40) rfl) ?_
      refine Go.via (fun _ => XS.bipush X123.here hx rfl (hb hby d4_41)) ?_
      by_cases hc125 : c0 < (65 : Int32)
      · -- yes
        refine Go.via (fun _ => XS.icmpYes X123.here hx rfl (pc0 := 43) (pc' := 52) rfl (hb hby d4_43) rfl (tlt hc125).1 (by decide) (by decide)) ?_
        show Go p e below _ (T123.setTop (mkF m 52 #[rv a1, iv lg, iv (0 : Int32), iv c0] []))
        refine Go.via (fun _ => XS.iloadN X123.here hx rfl (hb hby d4_52) rfl) ?_
        obtain ⟨_, _, ⟨T126, L126, k126, n126⟩, -, X126, ⟨Lc126, hQ126, l126, y126, z126⟩, st126⟩ := Jvm.LawKit.callS X123 hx (y := (⟨"com/example/timed_cap/timedcap/model/Names", "isDigit", "(C)Z"⟩ : MethodName)) hown (mvT hZ (ow hw 82 rfl)) (mvT hZ (ow hw 83 rfl)) (mvT hZ (ow hw 25 rfl)) (mvT hZ (ow hw 84 rfl)) (by decide) (backOf (W := 0) (rm_isDigit l Z a0 hw [] c0 h0 n0 Z0) hZ (ow hw 84 rfl) (ow hw 25 rfl) (by decide) (by decide)) (g := (mkF m 53 #[rv a1, iv lg, iv (0 : Int32), iv c0] [(.int c0)])) rfl (by rw [hml]; rfl) (argsL := [(.int c0)]) (rest := []) (lenOf pd_7 rfl) rfl (by show 2 * 0 + _ ≤ _; exact Nat.le_of_eq rfl) (hb hby d4_53) (fun _ _ => ⟨rfl, e123q, (by decide : 0 + 0 ≤ _), (by decide : 0 + 0 ≤ _)⟩)
        dsimp only [Pt.U, Pt.locs, Pt.cells, Pt.slots] at X126 l126 y126 z126 st126 hQ126
        rw [l126, y126, z126] at X126
        replace X126 : Stand p l e _ _ m _ below meth c T126 _ 0 0 := X126
        obtain ⟨rfl, N126q, e126q⟩ := hQ126
        have N126 := Fr.app N123 N126q
        refine Go.via st126 ?_
        by_cases hc127 : (dgF c0) = (0 : Int32)
        · -- yes
          refine Go.via (fun _ => XS.ifNo X126.here hx rfl (hb hby d4_56) rfl ((if0 _ _).trans (teq hc127).2)) ?_
          refine Go.via (fun _ => XS.iloadN X126.here hx rfl (hb hby d4_59) rfl) ?_
          show Go p e below _ (T126.setTop (mkF m 60 #[rv a1, iv lg, iv (0 : Int32), iv c0] [(.int c0)]))
          refine Go.via (fun _ => XS.bipush X126.here hx rfl (hb hby d4_60)) ?_
          by_cases hc128 : c0 = (46 : Int32)
          · -- yes
            refine Go.via (fun _ => XS.icmpYes X126.here hx rfl (pc0 := 62) (pc' := 79) rfl (hb hby d4_62) rfl (teq hc128).1 (by decide) (by decide)) ?_
            exact nx0 _ _ X126 e126q N126 (by simp [okF, hc124, hc125, hc127, hc128])
          · -- no
            refine Go.via (fun _ => XS.icmpNo X126.here hx rfl (hb hby d4_62) rfl (feq hc128).1) ?_
            refine Go.via (fun _ => XS.iloadN X126.here hx rfl (hb hby d4_65) rfl) ?_
            refine Go.via (fun _ => XS.bipush X126.here hx rfl (hb hby d4_66)) ?_
            show Go p e below _ (T126.setTop (mkF m 68 #[rv a1, iv lg, iv (0 : Int32), iv c0] [(.int (95 : Int32)), (.int c0)]))
            by_cases hc129 : c0 = (95 : Int32)
            · -- yes
              refine Go.via (fun _ => XS.icmpYes X126.here hx rfl (pc0 := 68) (pc' := 79) rfl (hb hby d4_68) rfl (teq hc129).1 (by decide) (by decide)) ?_
              exact nx0 _ _ X126 e126q N126 (by simp [okF, hc124, hc125, hc127, hc128, hc129])
            · -- no
              refine Go.via (fun _ => XS.icmpNo X126.here hx rfl (hb hby d4_68) rfl (feq hc129).1) ?_
              refine Go.via (fun _ => XS.iloadN X126.here hx rfl (hb hby d4_71) rfl) ?_
              refine Go.via (fun _ => XS.bipush X126.here hx rfl (hb hby d4_72)) ?_
              by_cases hc130 : c0 = (45 : Int32)
              · -- yes
                show Go p e below _ (T126.setTop (mkF m 74 #[rv a1, iv lg, iv (0 : Int32), iv c0] [(.int (45 : Int32)), (.int c0)]))
                refine Go.via (fun _ => XS.icmpYes X126.here hx rfl (pc0 := 74) (pc' := 79) rfl (hb hby d4_74) rfl (teq hc130).1 (by decide) (by decide)) ?_
                exact nx0 _ _ X126 e126q N126 (by simp [okF, hc124, hc125, hc127, hc128, hc129, hc130])
              · -- no
                show Go p e below _ (T126.setTop (mkF m 74 #[rv a1, iv lg, iv (0 : Int32), iv c0] [(.int (45 : Int32)), (.int c0)]))
                refine Go.via (fun _ => XS.icmpNo X126.here hx rfl (hb hby d4_74) rfl (feq hc130).1) ?_
                refine Go.via (fun _ => XS.iconst X126.here hx rfl (hb hby d4_77)) ?_
                have hz : okF c0 = (0 : Int32) := by simp [okF, hc124, hc125, hc127, hc128, hc129, hc130]
                exact own_retN X126 hx hlk (t := .boolean) Bd.returns (by simp) (hb hby d4_78) (by show QN2 Z lg c0 c1 h0 n0 _ T126.heap _; rw [e126q]; exact ⟨by simp [nm2, nar, hz, hc103], N126, rfl⟩) (by decide) (by decide)
        · -- no
          refine Go.via (fun _ => XS.ifYes X126.here hx rfl (pc0 := 56) (pc' := 79) rfl (hb hby d4_56) rfl ((if0 _ _).trans (feq hc127).2) (by decide) (by decide)) ?_
          exact nx0 _ _ X126 e126q N126 (by simp [okF, hc124, hc125, hc127])
      · -- no
        refine Go.via (fun _ => XS.icmpNo X123.here hx rfl (hb hby d4_43) rfl (flt hc125).1) ?_
        show Go p e below _ (T123.setTop (mkF m 46 #[rv a1, iv lg, iv (0 : Int32), iv c0] []))
        refine Go.via (fun _ => XS.iloadN X123.here hx rfl (hb hby d4_46) rfl) ?_
        refine Go.via (fun _ => XS.bipush X123.here hx rfl (hb hby d4_47)) ?_
        by_cases hc131 : (90 : Int32) < c0
        · -- yes
          refine Go.via (fun _ => XS.icmpNo X123.here hx rfl (hb hby d4_49) rfl (tlt hc131).2.2.2) ?_
          refine Go.via (fun _ => XS.iloadN X123.here hx rfl (hb hby d4_52) rfl) ?_
          show Go p e below _ (T123.setTop (mkF m 53 #[rv a1, iv lg, iv (0 : Int32), iv c0] [(.int c0)]))
          obtain ⟨_, _, ⟨T132, L132, k132, n132⟩, -, X132, ⟨Lc132, hQ132, l132, y132, z132⟩, st132⟩ := Jvm.LawKit.callS X123 hx (y := (⟨"com/example/timed_cap/timedcap/model/Names", "isDigit", "(C)Z"⟩ : MethodName)) hown (mvT hZ (ow hw 82 rfl)) (mvT hZ (ow hw 83 rfl)) (mvT hZ (ow hw 25 rfl)) (mvT hZ (ow hw 84 rfl)) (by decide) (backOf (W := 0) (rm_isDigit l Z a0 hw [] c0 h0 n0 Z0) hZ (ow hw 84 rfl) (ow hw 25 rfl) (by decide) (by decide)) (g := (mkF m 53 #[rv a1, iv lg, iv (0 : Int32), iv c0] [(.int c0)])) rfl (by rw [hml]; rfl) (argsL := [(.int c0)]) (rest := []) (lenOf pd_7 rfl) rfl (by show 2 * 0 + _ ≤ _; exact Nat.le_of_eq rfl) (hb hby d4_53) (fun _ _ => ⟨rfl, e123q, (by decide : 0 + 0 ≤ _), (by decide : 0 + 0 ≤ _)⟩)
          dsimp only [Pt.U, Pt.locs, Pt.cells, Pt.slots] at X132 l132 y132 z132 st132 hQ132
          rw [l132, y132, z132] at X132
          replace X132 : Stand p l e _ _ m _ below meth c T132 _ 0 0 := X132
          obtain ⟨rfl, N132q, e132q⟩ := hQ132
          have N132 := Fr.app N123 N132q
          refine Go.via st132 ?_
          by_cases hc133 : (dgF c0) = (0 : Int32)
          · -- yes
            refine Go.via (fun _ => XS.ifNo X132.here hx rfl (hb hby d4_56) rfl ((if0 _ _).trans (teq hc133).2)) ?_
            refine Go.via (fun _ => XS.iloadN X132.here hx rfl (hb hby d4_59) rfl) ?_
            refine Go.via (fun _ => XS.bipush X132.here hx rfl (hb hby d4_60)) ?_
            show Go p e below _ (T132.setTop (mkF m 62 #[rv a1, iv lg, iv (0 : Int32), iv c0] [(.int (46 : Int32)), (.int c0)]))
            by_cases hc134 : c0 = (46 : Int32)
            · -- yes
              refine Go.via (fun _ => XS.icmpYes X132.here hx rfl (pc0 := 62) (pc' := 79) rfl (hb hby d4_62) rfl (teq hc134).1 (by decide) (by decide)) ?_
              exact nx0 _ _ X132 e132q N132 (by simp [okF, hc124, hc125, hc131, hc133, hc134])
            · -- no
              refine Go.via (fun _ => XS.icmpNo X132.here hx rfl (hb hby d4_62) rfl (feq hc134).1) ?_
              refine Go.via (fun _ => XS.iloadN X132.here hx rfl (hb hby d4_65) rfl) ?_
              refine Go.via (fun _ => XS.bipush X132.here hx rfl (hb hby d4_66)) ?_
              by_cases hc135 : c0 = (95 : Int32)
              · -- yes
                show Go p e below _ (T132.setTop (mkF m 68 #[rv a1, iv lg, iv (0 : Int32), iv c0] [(.int (95 : Int32)), (.int c0)]))
                refine Go.via (fun _ => XS.icmpYes X132.here hx rfl (pc0 := 68) (pc' := 79) rfl (hb hby d4_68) rfl (teq hc135).1 (by decide) (by decide)) ?_
                exact nx0 _ _ X132 e132q N132 (by simp [okF, hc124, hc125, hc131, hc133, hc134, hc135])
              · -- no
                show Go p e below _ (T132.setTop (mkF m 68 #[rv a1, iv lg, iv (0 : Int32), iv c0] [(.int (95 : Int32)), (.int c0)]))
                refine Go.via (fun _ => XS.icmpNo X132.here hx rfl (hb hby d4_68) rfl (feq hc135).1) ?_
                refine Go.via (fun _ => XS.iloadN X132.here hx rfl (hb hby d4_71) rfl) ?_
                refine Go.via (fun _ => XS.bipush X132.here hx rfl (hb hby d4_72)) ?_
                by_cases hc136 : c0 = (45 : Int32)
                · -- yes
                  show Go p e below _ (T132.setTop (mkF m 74 #[rv a1, iv lg, iv (0 : Int32), iv c0] [(.int (45 : Int32)), (.int c0)]))
                  refine Go.via (fun _ => XS.icmpYes X132.here hx rfl (pc0 := 74) (pc' := 79) rfl (hb hby d4_74) rfl (teq hc136).1 (by decide) (by decide)) ?_
                  exact nx0 _ _ X132 e132q N132 (by simp [okF, hc124, hc125, hc131, hc133, hc134, hc135, hc136])
                · -- no
                  show Go p e below _ (T132.setTop (mkF m 74 #[rv a1, iv lg, iv (0 : Int32), iv c0] [(.int (45 : Int32)), (.int c0)]))
                  refine Go.via (fun _ => XS.icmpNo X132.here hx rfl (hb hby d4_74) rfl (feq hc136).1) ?_
                  refine Go.via (fun _ => XS.iconst X132.here hx rfl (hb hby d4_77)) ?_
                  have hz : okF c0 = (0 : Int32) := by simp [okF, hc124, hc125, hc131, hc133, hc134, hc135, hc136]
                  exact own_retN X132 hx hlk (t := .boolean) Bd.returns (by simp) (hb hby d4_78) (by show QN2 Z lg c0 c1 h0 n0 _ T132.heap _; rw [e132q]; exact ⟨by simp [nm2, nar, hz, hc103], N132, rfl⟩) (by decide) (by decide)
          · -- no
            refine Go.via (fun _ => XS.ifYes X132.here hx rfl (pc0 := 56) (pc' := 79) rfl (hb hby d4_56) rfl ((if0 _ _).trans (feq hc133).2) (by decide) (by decide)) ?_
            exact nx0 _ _ X132 e132q N132 (by simp [okF, hc124, hc125, hc131, hc133])
        · -- no
          refine Go.via (fun _ => XS.icmpYes X123.here hx rfl (pc0 := 49) (pc' := 79) rfl (hb hby d4_49) rfl (flt hc131).2.2.2 (by decide) (by decide)) ?_
          exact nx0 _ _ X123 e123q N123 (by simp [okF, hc124, hc125, hc131])
    · -- no
      show Go p e below _ (T123.setTop (mkF m 37 #[rv a1, iv lg, iv (0 : Int32), iv c0] [(.int (loF c0))]))
      refine Go.via (fun _ => XS.ifYes X123.here hx rfl (pc0 := 37) (pc' := 79) rfl (hb hby d4_37) rfl ((if0 _ _).trans (feq hc124).2) (by decide) (by decide)) ?_
      exact nx0 _ _ X123 e123q N123 (by simp [okF, hc124])
theorem ef_rmLen16_2 (m : MethodId) (x0 : Addr) : entryFrame m #[(.ref x0)] 1 = mkF m 0 #[rv x0] [] := by first | (simp [entryFrame, mkF, argsToLocals, Value.category]; done) | rfl
def QLen16_2 (Z : State) (a1 : Addr) (t1 : Addr) (kb : ClassId) (vs : List Value) (ccs : Int32) (vF : Value) (h0 : Heap) (n0 : Nat) (v : Option Value) (h : Heap) (L : List Loc) : Prop := v = some (.int (2 : Int32)) ∧ Fr n0 L ∧ h = h0
set_option maxRecDepth 65536 in
set_option maxHeartbeats 40000000 in
theorem rmLen16_2 (l : Launch) (Z : State) (a0 : Array Value) (hw : TW Z a0) (ws : List Jvm.Cond) (a1 : Addr) (t1 : Addr) (kb : ClassId) (vs : List Value) (ccs : Int32) (vF : Value) (h0 : Heap) (n0 : Nat) (Z0 : n0 ≤ h0.size) (E1 : Exa Z h0 a1 "java/lang/String") (F1 : Fld Z h0 a1 "java/lang/String" "value" "[B" (.ref t1)) (F2 : Fld Z h0 a1 "java/lang/String" "coder" "B" (.int (1 : Int32))) (V2 : Arv Z h0 t1 kb .byte (4 : Int32) vs (.int (0 : Int32))) (O0 : Old Z n0 h0) (G : SG Z ccs vF) :
    MF l Z (⟨"java/lang/String", "length", "()I"⟩ : MethodName) jdk_42_method_54_code 1 (some .int) ws (rmm 1 0 0 13) #[(.ref a1)] h0 (QLen16_2 Z a1 t1 kb vs ccs vF h0 n0) := by
  refine MetFree.of_bodySF (plainFor_of_name pn_java_lang_String) hisR ?_
  intro p e s m args below meth c s₁ Bd hml0 hP hK
  obtain ⟨rfl, hZ, hh⟩ := hP
  have hx := Bd.exec
  have hby := Bd.bytes
  have hlk : meth.locks = false := Bd.notSynchronized
  have hml : c.maxLocals = 1 := hml0
  have hown : s.vm.findClass "java/lang/String" = some m.cls := findClass_of_methodNamed Bd.named
  have hnm := (name_of_methodNamed Bd.named Bd.method).1
  have rF := G.2.2.2.2.2.2
  have hcs := G.2.1
  have X0 : Stand p l e (rmm 1 0 0 13) s m #[(.ref a1)] below meth c s₁ [] 0 0 := Stand.of_body Bd
  have e0 : s₁.heap = h0 := by rw [← hh, Bd.state]; rfl
  have N0 := Fr.nil n0
  show Go p e below (FinE s below (QLen16_2 Z a1 t1 kb vs ccs vF h0 n0) (rmm 1 0 0 13).cells (rmm 1 0 0 13).slots) (s₁.setTop (entryFrame m #[(.ref a1)] 1))
  refine Go.via (fun t k => castTop (ef_rmLen16_2 m a1) k) ?_
  refine Go.via (fun _ => XS.aloadN X0.here hx rfl (hb hby d10_0) rfl rfl) ?_
  obtain ⟨T101, X101, e101, st101⟩ := getF X0 hx hZ hown (host := "") (Or.inl (ow hw 21 rfl)) Via.refl e0 F1 (g := (mkF m 1 #[rv a1] [(.ref a1)])) rfl rfl (hb hby d10_1)
  refine Go.via st101 ?_
  obtain ⟨cl102, Ar102, -, S102, N102n, -, -⟩ := id V2
  have al102 := X101.arraylength hx (by rw [e101]; exact Ar102.1) (State.isArrayOf_alike hZ.alike Ar102.2.1) (g := (mkF m 4 #[rv a1] [(.ref t1)])) rfl rfl (hb hby d10_4)
  rw [len_of S102 N102n] at al102
  refine Go.via al102 ?_
  refine Go.via (fun _ => XS.aloadN X101.here hx rfl (hb hby d10_5) rfl rfl) ?_
  obtain ⟨cq103, kq103, q103a, q103b, q103c⟩ := isOf hZ e101 E1
  obtain ⟨_, _, ⟨T103, L103, k103, n103⟩, -, X103, ⟨Lc103, hQ103, l103, y103, z103⟩, st103⟩ := X101.virtualBack hx (y := (⟨"java/lang/String", "coder", "()B"⟩ : MethodName)) (z := (⟨"java/lang/String", "coder", "()B"⟩ : MethodName)) hown (mvT hZ (ow hw 52 rfl)) (mvT hZ (ow hw 53 rfl)) (notFace_of_selects (args := #[]) (mvT hZ (ow hw 55 rfl))) (mvT hZ (ow hw 55 rfl)) (mvT hZ (ow hw 54 rfl)) (by decide) (backOf (W := 1) (rmCoder16 l Z a0 hw [] a1 ccs vF h0 n0 Z0 F2 O0 G) hZ (ow hw 56 rfl) (ow hw 4 rfl) (by decide) (by decide)) q103a q103c (g := (mkF m 6 #[rv a1] [(.ref a1), (.int (4 : Int32))])) rfl (by rw [hml]; rfl) (Steps.refl _) (argsL := []) (rest := [(.int (4 : Int32))]) (lenOf pd_4 rfl) rfl (by show 2 * 0 + _ ≤ _; exact Nat.le_of_eq rfl) (hb hby d10_6) (fun _ _ => ⟨rfl, e101, (by decide : 0 + 0 ≤ _), (by decide : 0 + 0 ≤ _)⟩)
  dsimp only [Pt.U, Pt.locs, Pt.cells, Pt.slots] at X103 l103 y103 z103 st103 hQ103
  rw [l103, y103, z103] at X103
  replace X103 : Stand p l e _ _ m _ below meth c T103 _ 0 0 := X103
  obtain ⟨rfl, N103q, e103q⟩ := hQ103
  have N103 := Fr.app N0 N103q
  refine Go.tr st103 ?_
  show Go p e below _ (T103.setTop (mkF m 9 #[rv a1] [(.int (1 : Int32)), (.int (4 : Int32))]))
  refine Go.via (fun _ => XS.ishr X103.here hx rfl (hb hby d10_9) rfl) ?_
  exact own_retI X103 hx hlk Bd.returns (hb hby d10_10) (by show QLen16_2 Z a1 t1 kb vs ccs vF h0 n0 _ T103.heap _; rw [e103q]; exact ⟨rfl, N103, rfl⟩) (by decide) (by decide)
theorem ef_rmN_2_1 (m : MethodId) (x0 : Addr) (x1 : Int32) : entryFrame m #[(.ref x0), (.int x1)] 4 = mkF m 0 #[rv x0, iv x1, .unset, .unset] [] := by first | (simp [entryFrame, mkF, argsToLocals, Value.category]; done) | rfl
set_option maxRecDepth 65536 in
set_option maxHeartbeats 40000000 in
theorem rmN_2_1 (l : Launch) (Z : State) (a0 : Array Value) (hw : TW Z a0) (ws : List Jvm.Cond) (a1 : Addr) (t1 : Addr) (kb : ClassId) (c0 : Int32) (c1 : Int32) (lg : Int32) (ccs : Int32) (vF : Value) (h0 : Heap) (n0 : Nat) (Z0 : n0 ≤ h0.size) (E1 : Exa Z h0 a1 "java/lang/String") (F1 : Fld Z h0 a1 "java/lang/String" "value" "[B" (.ref t1)) (F2 : Fld Z h0 a1 "java/lang/String" "coder" "B" (.int (1 : Int32))) (V2 : Arv Z h0 t1 kb .byte (4 : Int32) [(.int (nar .byte ((c0 >>> ((0 : Int32) &&& 31)).toInt8.toInt32))), (.int (nar .byte ((c0 >>> ((8 : Int32) &&& 31)).toInt8.toInt32))), (.int (nar .byte ((c1 >>> ((0 : Int32) &&& 31)).toInt8.toInt32))), (.int (nar .byte ((c1 >>> ((8 : Int32) &&& 31)).toInt8.toInt32)))] (.int (0 : Int32))) (hu0 : nar .char ((((((nar .byte ((c0 >>> ((0 : Int32) &&& 31)).toInt8.toInt32))) &&& (255 : Int32)) <<< ((0 : Int32) &&& 31)) ||| ((((nar .byte ((c0 >>> ((8 : Int32) &&& 31)).toInt8.toInt32))) &&& (255 : Int32)) <<< ((8 : Int32) &&& 31))).toUInt32.toUInt16.toUInt32.toInt32) = c0) (hu1 : nar .char ((((((nar .byte ((c1 >>> ((0 : Int32) &&& 31)).toInt8.toInt32))) &&& (255 : Int32)) <<< ((0 : Int32) &&& 31)) ||| ((((nar .byte ((c1 >>> ((8 : Int32) &&& 31)).toInt8.toInt32))) &&& (255 : Int32)) <<< ((8 : Int32) &&& 31))).toUInt32.toUInt16.toUInt32.toInt32) = c1) (hn0 : nar .char c0 = c0) (hn1 : nar .char c1 = c1) (O0 : Old Z n0 h0) (G : SG Z ccs vF) :
    MF l Z (⟨"com/example/timed_cap/timedcap/model/Names", "isName", "(Ljava/lang/String;I)Z"⟩ : MethodName) prog_5_method_2_code 4 (some .boolean) ws (rmm 5 0 0 130) #[(.ref a1), (.int lg)] h0 (QN2 Z lg c0 c1 h0 n0) := by
  refine MetFree.of_bodySF (plainFor_of_name pn_com_example_timed_cap_timedcap_model_Names) hisR ?_
  intro p e s m args below meth c s₁ Bd hml0 hP hK
  obtain ⟨rfl, hZ, hh⟩ := hP
  have hx := Bd.exec
  have hby := Bd.bytes
  have hlk : meth.locks = false := Bd.notSynchronized
  have hml : c.maxLocals = 4 := hml0
  have hown : s.vm.findClass "com/example/timed_cap/timedcap/model/Names" = some m.cls := findClass_of_methodNamed Bd.named
  have hnm := (name_of_methodNamed Bd.named Bd.method).1
  have rF := G.2.2.2.2.2.2
  have hcs := G.2.1
  have X0 : Stand p l e (rmm 5 0 0 130) s m #[(.ref a1), (.int lg)] below meth c s₁ [] 0 0 := Stand.of_body Bd
  have e0 : s₁.heap = h0 := by rw [← hh, Bd.state]; rfl
  have N0 := Fr.nil n0
  show Go p e below (FinE s below (QN2 Z lg c0 c1 h0 n0) (rmm 5 0 0 130).cells (rmm 5 0 0 130).slots) (s₁.setTop (entryFrame m #[(.ref a1), (.int lg)] 4))
  refine Go.via (fun t k => castTop (ef_rmN_2_1 m a1 lg) k) ?_
  refine Go.via (fun _ => XS.aloadN X0.here hx rfl (hb hby d4_0) rfl rfl) ?_
  obtain ⟨cq101, kq101, q101a, q101b, q101c⟩ := isOf hZ e0 E1
  obtain ⟨_, _, ⟨T101, L101, k101, n101⟩, -, X101, ⟨Lc101, hQ101, l101, y101, z101⟩, st101⟩ := X0.virtualBack hx (y := (⟨"java/lang/String", "isEmpty", "()Z"⟩ : MethodName)) (z := (⟨"java/lang/String", "isEmpty", "()Z"⟩ : MethodName)) hown (mvT hZ (ow hw 27 rfl)) (mvT hZ (ow hw 28 rfl)) (notFace_of_selects (args := #[]) (mvT hZ (ow hw 30 rfl))) (mvT hZ (ow hw 30 rfl)) (mvT hZ (ow hw 29 rfl)) (by decide) (backOf (W := 0) (rmEmp_1 l Z a0 hw [] a1 t1 kb (4 : Int32) _ h0 n0 Z0 F1 V2 (by decide)) hZ (ow hw 31 rfl) (ow hw 4 rfl) (by decide) (by decide)) q101a q101c (g := (mkF m 1 #[rv a1, iv lg, .unset, .unset] [(.ref a1)])) rfl (by rw [hml]; rfl) (Steps.refl _) (argsL := []) (rest := []) (lenOf pd_0 rfl) rfl (by show 2 * 0 + _ ≤ _; exact Nat.le_of_eq rfl) (hb hby d4_1) (fun _ _ => ⟨rfl, e0, (by decide : 0 + 0 ≤ _), (by decide : 0 + 0 ≤ _)⟩)
  dsimp only [Pt.U, Pt.locs, Pt.cells, Pt.slots] at X101 l101 y101 z101 st101 hQ101
  rw [l101, y101, z101] at X101
  replace X101 : Stand p l e _ _ m _ below meth c T101 _ 0 0 := X101
  obtain ⟨rfl, N101q, e101q⟩ := hQ101
  have N101 := Fr.app N0 N101q
  refine Go.tr st101 ?_
  refine Go.via (fun _ => XS.ifNo X101.here hx rfl (hb hby d4_4) rfl (by decide)) ?_
  refine Go.via (fun _ => XS.aloadN X101.here hx rfl (hb hby d4_7) rfl rfl) ?_
  obtain ⟨cq102, kq102, q102a, q102b, q102c⟩ := isOf hZ e101q E1
  obtain ⟨_, _, ⟨T102, L102, k102, n102⟩, -, X102, ⟨Lc102, hQ102, l102, y102, z102⟩, st102⟩ := X101.virtualBack hx (y := (⟨"java/lang/String", "length", "()I"⟩ : MethodName)) (z := (⟨"java/lang/String", "length", "()I"⟩ : MethodName)) hown (mvT hZ (ow hw 47 rfl)) (mvT hZ (ow hw 48 rfl)) (notFace_of_selects (args := #[]) (mvT hZ (ow hw 50 rfl))) (mvT hZ (ow hw 50 rfl)) (mvT hZ (ow hw 49 rfl)) (by decide) (backOf (W := 0) (rmLen16_2 l Z a0 hw [] a1 t1 kb _ ccs vF h0 n0 Z0 E1 F1 F2 V2 O0 G) hZ (ow hw 51 rfl) (ow hw 4 rfl) (by decide) (by decide)) q102a q102c (g := (mkF m 8 #[rv a1, iv lg, .unset, .unset] [(.ref a1)])) rfl (by rw [hml]; rfl) (Steps.refl _) (argsL := []) (rest := []) (lenOf pd_5 rfl) rfl (by show 2 * 0 + _ ≤ _; exact Nat.le_of_eq rfl) (hb hby d4_8) (fun _ _ => ⟨rfl, e101q, (by decide : 0 + 0 ≤ _), (by decide : 0 + 0 ≤ _)⟩)
  dsimp only [Pt.U, Pt.locs, Pt.cells, Pt.slots] at X102 l102 y102 z102 st102 hQ102
  rw [l102, y102, z102] at X102
  replace X102 : Stand p l e _ _ m _ below meth c T102 _ 0 0 := X102
  obtain ⟨rfl, N102q, e102q⟩ := hQ102
  have N102 := Fr.app N101 N102q
  refine Go.tr st102 ?_
  show Go p e below _ (T102.setTop (mkF m 11 #[rv a1, iv lg, .unset, .unset] [(.int (2 : Int32))]))
  refine Go.via (fun _ => XS.iloadN X102.here hx rfl (hb hby d4_11) rfl) ?_
  by_cases hc103 : lg < (2 : Int32)
  · -- yes
    refine Go.via (fun _ => XS.icmpNo X102.here hx rfl (hb hby d4_12) rfl (tlt hc103).2.2.2) ?_
    refine Go.via (fun _ => XS.iconst X102.here hx rfl (hb hby d4_15)) ?_
    exact own_retN X102 hx hlk (t := .boolean) Bd.returns (by simp) (hb hby d4_16) (by show QN2 Z lg c0 c1 h0 n0 _ T102.heap _; rw [e102q]; exact ⟨by simp [nm2, nar, hc103], N102, rfl⟩) (by decide) (by decide)
  · -- no
    refine Go.via (fun _ => XS.icmpYes X102.here hx rfl (pc0 := 12) (pc' := 17) rfl (hb hby d4_12) rfl (flt hc103).2.2.2 (by decide) (by decide)) ?_
    refine Go.via (fun _ => XS.iconst X102.here hx rfl (hb hby d4_17)) ?_
    refine Go.via (fun _ => XS.istoreN X102.here hx rfl (hb hby d4_18) rfl (l' := #[rv a1, iv lg, iv (0 : Int32), .unset]) rfl) ?_
    show Go p e below _ (T102.setTop (mkF m 19 #[rv a1, iv lg, iv (0 : Int32), .unset] []))
    refine Go.via (fun _ => XS.iloadN X102.here hx rfl (hb hby d4_19) rfl) ?_
    refine Go.via (fun _ => XS.aloadN X102.here hx rfl (hb hby d4_20) rfl rfl) ?_
    obtain ⟨cq104, kq104, q104a, q104b, q104c⟩ := isOf hZ e102q E1
    obtain ⟨_, _, ⟨T104, L104, k104, n104⟩, -, X104, ⟨Lc104, hQ104, l104, y104, z104⟩, st104⟩ := X102.virtualBack hx (y := (⟨"java/lang/String", "length", "()I"⟩ : MethodName)) (z := (⟨"java/lang/String", "length", "()I"⟩ : MethodName)) hown (mvT hZ (ow hw 47 rfl)) (mvT hZ (ow hw 48 rfl)) (notFace_of_selects (args := #[]) (mvT hZ (ow hw 50 rfl))) (mvT hZ (ow hw 50 rfl)) (mvT hZ (ow hw 49 rfl)) (by decide) (backOf (W := 1) (rmLen16_2 l Z a0 hw [] a1 t1 kb _ ccs vF h0 n0 Z0 E1 F1 F2 V2 O0 G) hZ (ow hw 51 rfl) (ow hw 4 rfl) (by decide) (by decide)) q104a q104c (g := (mkF m 21 #[rv a1, iv lg, iv (0 : Int32), .unset] [(.ref a1), (.int (0 : Int32))])) rfl (by rw [hml]; rfl) (Steps.refl _) (argsL := []) (rest := [(.int (0 : Int32))]) (lenOf pd_5 rfl) rfl (by show 2 * 0 + _ ≤ _; exact Nat.le_of_eq rfl) (hb hby d4_21) (fun _ _ => ⟨rfl, e102q, (by decide : 0 + 0 ≤ _), (by decide : 0 + 0 ≤ _)⟩)
    dsimp only [Pt.U, Pt.locs, Pt.cells, Pt.slots] at X104 l104 y104 z104 st104 hQ104
    rw [l104, y104, z104] at X104
    replace X104 : Stand p l e _ _ m _ below meth c T104 _ 0 0 := X104
    obtain ⟨rfl, N104q, e104q⟩ := hQ104
    have N104 := Fr.app N102 N104q
    refine Go.tr st104 ?_
    refine Go.via (fun _ => XS.icmpNo X104.here hx rfl (hb hby d4_24) rfl (by decide)) ?_
    refine Go.via (fun _ => XS.aloadN X104.here hx rfl (hb hby d4_27) rfl rfl) ?_
    refine Go.via (fun _ => XS.iloadN X104.here hx rfl (hb hby d4_28) rfl) ?_
    show Go p e below _ (T104.setTop (mkF m 29 #[rv a1, iv lg, iv (0 : Int32), .unset] [(.int (0 : Int32)), (.ref a1)]))
    obtain ⟨cq105, kq105, q105a, q105b, q105c⟩ := isOf hZ e104q E1
    obtain ⟨_, _, ⟨T105, L105, k105, n105⟩, -, X105, ⟨Lc105, hQ105, l105, y105, z105⟩, st105⟩ := X104.virtualBack hx (y := (⟨"java/lang/String", "charAt", "(I)C"⟩ : MethodName)) (z := (⟨"java/lang/String", "charAt", "(I)C"⟩ : MethodName)) hown (mvT hZ (ow hw 57 rfl)) (mvT hZ (ow hw 58 rfl)) (notFace_of_selects (args := #[]) (mvT hZ (ow hw 60 rfl))) (mvT hZ (ow hw 60 rfl)) (mvT hZ (ow hw 59 rfl)) (by decide) (backOf (W := 0) (rmCA_1 l Z a0 hw [] a1 t1 kb (4 : Int32) _ (0 : Int32) c0 (2 : Int32) ccs vF h0 n0 Z0 E1 F1 F2 V2 (by decide) (by decide) (by decide) ⟨by decide, by decide⟩ ⟨by decide, by decide⟩ rfl rfl hu0 hn0 O0 G) hZ (ow hw 61 rfl) (ow hw 4 rfl) (by decide) (by decide)) q105a q105c (g := (mkF m 29 #[rv a1, iv lg, iv (0 : Int32), .unset] [(.int (0 : Int32)), (.ref a1)])) rfl (by rw [hml]; rfl) (Steps.refl _) (argsL := [(.int (0 : Int32))]) (rest := []) (lenOf pd_6 rfl) rfl (by show 2 * 0 + _ ≤ _; exact Nat.le_of_eq rfl) (hb hby d4_29) (fun _ _ => ⟨rfl, e104q, (by decide : 0 + 0 ≤ _), (by decide : 0 + 0 ≤ _)⟩)
    dsimp only [Pt.U, Pt.locs, Pt.cells, Pt.slots] at X105 l105 y105 z105 st105 hQ105
    rw [l105, y105, z105] at X105
    replace X105 : Stand p l e _ _ m _ below meth c T105 _ 0 0 := X105
    obtain ⟨rfl, N105q, e105q⟩ := hQ105
    have N105 := Fr.app N104 N105q
    refine Go.tr st105 ?_
    refine Go.via (fun _ => XS.istoreN X105.here hx rfl (hb hby d4_32) rfl (l' := #[rv a1, iv lg, iv (0 : Int32), iv c0]) rfl) ?_
    have nx0 : ∀ (T' : State) (L' : List Loc), Stand p l e (rmm 5 0 0 130) s m #[(.ref a1), (.int lg)] below meth c T' L' 0 0 → T'.heap = h0 → Fr n0 L' → ¬ (okF c0 = (0 : Int32)) → Go p e below (FinE s below (QN2 Z lg c0 c1 h0 n0) (rmm 5 0 0 130).cells (rmm 5 0 0 130).slots) (T'.setTop (mkF m 79 #[rv a1, iv lg, iv (0 : Int32), iv c0] [])) := by
      intro Tn0 Ln0 Xn0 en0 Nn0 hok0
      refine Go.via (fun _ => XS.iinc Xn0.here hx rfl (hb hby d4_79) rfl (l' := #[rv a1, iv lg, iv (1 : Int32), iv c0]) rfl) ?_
      refine Go.via (fun _ => XS.goto Xn0.here hx rfl (pc0 := 82) (pc' := 19) rfl (hb hby d4_82) (by decide) (by decide)) ?_
      refine Go.via (fun _ => XS.iloadN Xn0.here hx rfl (hb hby d4_19) rfl) ?_
      show Go p e below _ (Tn0.setTop (mkF m 20 #[rv a1, iv lg, iv (1 : Int32), iv c0] [(.int (1 : Int32))]))
      refine Go.via (fun _ => XS.aloadN Xn0.here hx rfl (hb hby d4_20) rfl rfl) ?_
      obtain ⟨cq106, kq106, q106a, q106b, q106c⟩ := isOf hZ en0 E1
      obtain ⟨_, _, ⟨T106, L106, k106, n106⟩, -, X106, ⟨Lc106, hQ106, l106, y106, z106⟩, st106⟩ := Xn0.virtualBack hx (y := (⟨"java/lang/String", "length", "()I"⟩ : MethodName)) (z := (⟨"java/lang/String", "length", "()I"⟩ : MethodName)) hown (mvT hZ (ow hw 47 rfl)) (mvT hZ (ow hw 48 rfl)) (notFace_of_selects (args := #[]) (mvT hZ (ow hw 50 rfl))) (mvT hZ (ow hw 50 rfl)) (mvT hZ (ow hw 49 rfl)) (by decide) (backOf (W := 1) (rmLen16_2 l Z a0 hw [] a1 t1 kb _ ccs vF h0 n0 Z0 E1 F1 F2 V2 O0 G) hZ (ow hw 51 rfl) (ow hw 4 rfl) (by decide) (by decide)) q106a q106c (g := (mkF m 21 #[rv a1, iv lg, iv (1 : Int32), iv c0] [(.ref a1), (.int (1 : Int32))])) rfl (by rw [hml]; rfl) (Steps.refl _) (argsL := []) (rest := [(.int (1 : Int32))]) (lenOf pd_5 rfl) rfl (by show 2 * 0 + _ ≤ _; exact Nat.le_of_eq rfl) (hb hby d4_21) (fun _ _ => ⟨rfl, en0, (by decide : 0 + 0 ≤ _), (by decide : 0 + 0 ≤ _)⟩)
      dsimp only [Pt.U, Pt.locs, Pt.cells, Pt.slots] at X106 l106 y106 z106 st106 hQ106
      rw [l106, y106, z106] at X106
      replace X106 : Stand p l e _ _ m _ below meth c T106 _ 0 0 := X106
      obtain ⟨rfl, N106q, e106q⟩ := hQ106
      have N106 := Fr.app Nn0 N106q
      refine Go.tr st106 ?_
      refine Go.via (fun _ => XS.icmpNo X106.here hx rfl (hb hby d4_24) rfl (by decide)) ?_
      refine Go.via (fun _ => XS.aloadN X106.here hx rfl (hb hby d4_27) rfl rfl) ?_
      refine Go.via (fun _ => XS.iloadN X106.here hx rfl (hb hby d4_28) rfl) ?_
      obtain ⟨cq107, kq107, q107a, q107b, q107c⟩ := isOf hZ e106q E1
      obtain ⟨_, _, ⟨T107, L107, k107, n107⟩, -, X107, ⟨Lc107, hQ107, l107, y107, z107⟩, st107⟩ := X106.virtualBack hx (y := (⟨"java/lang/String", "charAt", "(I)C"⟩ : MethodName)) (z := (⟨"java/lang/String", "charAt", "(I)C"⟩ : MethodName)) hown (mvT hZ (ow hw 57 rfl)) (mvT hZ (ow hw 58 rfl)) (notFace_of_selects (args := #[]) (mvT hZ (ow hw 60 rfl))) (mvT hZ (ow hw 60 rfl)) (mvT hZ (ow hw 59 rfl)) (by decide) (backOf (W := 0) (rmCA_1 l Z a0 hw [] a1 t1 kb (4 : Int32) _ (1 : Int32) c1 (2 : Int32) ccs vF h0 n0 Z0 E1 F1 F2 V2 (by decide) (by decide) (by decide) ⟨by decide, by decide⟩ ⟨by decide, by decide⟩ rfl rfl hu1 hn1 O0 G) hZ (ow hw 61 rfl) (ow hw 4 rfl) (by decide) (by decide)) q107a q107c (g := (mkF m 29 #[rv a1, iv lg, iv (1 : Int32), iv c0] [(.int (1 : Int32)), (.ref a1)])) rfl (by rw [hml]; rfl) (Steps.refl _) (argsL := [(.int (1 : Int32))]) (rest := []) (lenOf pd_6 rfl) rfl (by show 2 * 0 + _ ≤ _; exact Nat.le_of_eq rfl) (hb hby d4_29) (fun _ _ => ⟨rfl, e106q, (by decide : 0 + 0 ≤ _), (by decide : 0 + 0 ≤ _)⟩)
      dsimp only [Pt.U, Pt.locs, Pt.cells, Pt.slots] at X107 l107 y107 z107 st107 hQ107
      rw [l107, y107, z107] at X107
      replace X107 : Stand p l e _ _ m _ below meth c T107 _ 0 0 := X107
      obtain ⟨rfl, N107q, e107q⟩ := hQ107
      have N107 := Fr.app N106 N107q
      refine Go.tr st107 ?_
      show Go p e below _ (T107.setTop (mkF m 32 #[rv a1, iv lg, iv (1 : Int32), iv c0] [(.int c1)]))
      refine Go.via (fun _ => XS.istoreN X107.here hx rfl (hb hby d4_32) rfl (l' := #[rv a1, iv lg, iv (1 : Int32), iv c1]) rfl) ?_
      have nx1 : ∀ (T' : State) (L' : List Loc), Stand p l e (rmm 5 0 0 130) s m #[(.ref a1), (.int lg)] below meth c T' L' 0 0 → T'.heap = h0 → Fr n0 L' → ¬ (okF c1 = (0 : Int32)) → Go p e below (FinE s below (QN2 Z lg c0 c1 h0 n0) (rmm 5 0 0 130).cells (rmm 5 0 0 130).slots) (T'.setTop (mkF m 79 #[rv a1, iv lg, iv (1 : Int32), iv c1] [])) := by
        intro Tn1 Ln1 Xn1 en1 Nn1 hok1
        refine Go.via (fun _ => XS.iinc Xn1.here hx rfl (hb hby d4_79) rfl (l' := #[rv a1, iv lg, iv (2 : Int32), iv c1]) rfl) ?_
        refine Go.via (fun _ => XS.goto Xn1.here hx rfl (pc0 := 82) (pc' := 19) rfl (hb hby d4_82) (by decide) (by decide)) ?_
        refine Go.via (fun _ => XS.iloadN Xn1.here hx rfl (hb hby d4_19) rfl) ?_
        refine Go.via (fun _ => XS.aloadN Xn1.here hx rfl (hb hby d4_20) rfl rfl) ?_
        show Go p e below _ (Tn1.setTop (mkF m 21 #[rv a1, iv lg, iv (2 : Int32), iv c1] [(.ref a1), (.int (2 : Int32))]))
        obtain ⟨cq108, kq108, q108a, q108b, q108c⟩ := isOf hZ en1 E1
        obtain ⟨_, _, ⟨T108, L108, k108, n108⟩, -, X108, ⟨Lc108, hQ108, l108, y108, z108⟩, st108⟩ := Xn1.virtualBack hx (y := (⟨"java/lang/String", "length", "()I"⟩ : MethodName)) (z := (⟨"java/lang/String", "length", "()I"⟩ : MethodName)) hown (mvT hZ (ow hw 47 rfl)) (mvT hZ (ow hw 48 rfl)) (notFace_of_selects (args := #[]) (mvT hZ (ow hw 50 rfl))) (mvT hZ (ow hw 50 rfl)) (mvT hZ (ow hw 49 rfl)) (by decide) (backOf (W := 1) (rmLen16_2 l Z a0 hw [] a1 t1 kb _ ccs vF h0 n0 Z0 E1 F1 F2 V2 O0 G) hZ (ow hw 51 rfl) (ow hw 4 rfl) (by decide) (by decide)) q108a q108c (g := (mkF m 21 #[rv a1, iv lg, iv (2 : Int32), iv c1] [(.ref a1), (.int (2 : Int32))])) rfl (by rw [hml]; rfl) (Steps.refl _) (argsL := []) (rest := [(.int (2 : Int32))]) (lenOf pd_5 rfl) rfl (by show 2 * 0 + _ ≤ _; exact Nat.le_of_eq rfl) (hb hby d4_21) (fun _ _ => ⟨rfl, en1, (by decide : 0 + 0 ≤ _), (by decide : 0 + 0 ≤ _)⟩)
        dsimp only [Pt.U, Pt.locs, Pt.cells, Pt.slots] at X108 l108 y108 z108 st108 hQ108
        rw [l108, y108, z108] at X108
        replace X108 : Stand p l e _ _ m _ below meth c T108 _ 0 0 := X108
        obtain ⟨rfl, N108q, e108q⟩ := hQ108
        have N108 := Fr.app Nn1 N108q
        refine Go.tr st108 ?_
        refine Go.via (fun _ => XS.icmpYes X108.here hx rfl (pc0 := 24) (pc' := 85) rfl (hb hby d4_24) rfl (by decide) (by decide) (by decide)) ?_
        refine Go.via (fun _ => XS.iconst X108.here hx rfl (hb hby d4_85)) ?_
        exact own_retN X108 hx hlk (t := .boolean) Bd.returns (by simp) (hb hby d4_86) (by show QN2 Z lg c0 c1 h0 n0 _ T108.heap _; rw [e108q]; exact ⟨by simp [nm2, nar, hc103, hok0, hok1], N108, rfl⟩) (by decide) (by decide)
      refine Go.via (fun _ => XS.iloadN X107.here hx rfl (hb hby d4_33) rfl) ?_
      obtain ⟨_, _, ⟨T109, L109, k109, n109⟩, -, X109, ⟨Lc109, hQ109, l109, y109, z109⟩, st109⟩ := Jvm.LawKit.callS X107 hx (y := (⟨"com/example/timed_cap/timedcap/model/Names", "isLowerCase", "(C)Z"⟩ : MethodName)) hown (mvT hZ (ow hw 79 rfl)) (mvT hZ (ow hw 80 rfl)) (mvT hZ (ow hw 25 rfl)) (mvT hZ (ow hw 81 rfl)) (by decide) (backOf (W := 0) (rm_isLowerCase l Z a0 hw [] c1 h0 n0 Z0) hZ (ow hw 81 rfl) (ow hw 25 rfl) (by decide) (by decide)) (g := (mkF m 34 #[rv a1, iv lg, iv (1 : Int32), iv c1] [(.int c1)])) rfl (by rw [hml]; rfl) (argsL := [(.int c1)]) (rest := []) (lenOf pd_7 rfl) rfl (by show 2 * 0 + _ ≤ _; exact Nat.le_of_eq rfl) (hb hby d4_34) (fun _ _ => ⟨rfl, e107q, (by decide : 0 + 0 ≤ _), (by decide : 0 + 0 ≤ _)⟩)
      dsimp only [Pt.U, Pt.locs, Pt.cells, Pt.slots] at X109 l109 y109 z109 st109 hQ109
      rw [l109, y109, z109] at X109
      replace X109 : Stand p l e _ _ m _ below meth c T109 _ 0 0 := X109
      obtain ⟨rfl, N109q, e109q⟩ := hQ109
      have N109 := Fr.app N107 N109q
      refine Go.via st109 ?_
      by_cases hc110 : (loF c1) = (0 : Int32)
      · -- yes
        refine Go.via (fun _ => XS.ifNo X109.here hx rfl (hb hby d4_37) rfl ((if0 _ _).trans (teq hc110).2)) ?_
        show Go p e below _ (T109.setTop (mkF m 40 #[rv a1, iv lg, iv (1 : Int32), iv c1] []))
        refine Go.via (fun _ => XS.iloadN X109.here hx rfl (hb hby d4_40) rfl) ?_
        refine Go.via (fun _ => XS.bipush X109.here hx rfl (hb hby d4_41)) ?_
        by_cases hc111 : c1 < (65 : Int32)
        · -- yes
          refine Go.via (fun _ => XS.icmpYes X109.here hx rfl (pc0 := 43) (pc' := 52) rfl (hb hby d4_43) rfl (tlt hc111).1 (by decide) (by decide)) ?_
          refine Go.via (fun _ => XS.iloadN X109.here hx rfl (hb hby d4_52) rfl) ?_
          show Go p e below _ (T109.setTop (mkF m 53 #[rv a1, iv lg, iv (1 : Int32), iv c1] [(.int c1)]))
          obtain ⟨_, _, ⟨T112, L112, k112, n112⟩, -, X112, ⟨Lc112, hQ112, l112, y112, z112⟩, st112⟩ := Jvm.LawKit.callS X109 hx (y := (⟨"com/example/timed_cap/timedcap/model/Names", "isDigit", "(C)Z"⟩ : MethodName)) hown (mvT hZ (ow hw 82 rfl)) (mvT hZ (ow hw 83 rfl)) (mvT hZ (ow hw 25 rfl)) (mvT hZ (ow hw 84 rfl)) (by decide) (backOf (W := 0) (rm_isDigit l Z a0 hw [] c1 h0 n0 Z0) hZ (ow hw 84 rfl) (ow hw 25 rfl) (by decide) (by decide)) (g := (mkF m 53 #[rv a1, iv lg, iv (1 : Int32), iv c1] [(.int c1)])) rfl (by rw [hml]; rfl) (argsL := [(.int c1)]) (rest := []) (lenOf pd_7 rfl) rfl (by show 2 * 0 + _ ≤ _; exact Nat.le_of_eq rfl) (hb hby d4_53) (fun _ _ => ⟨rfl, e109q, (by decide : 0 + 0 ≤ _), (by decide : 0 + 0 ≤ _)⟩)
          dsimp only [Pt.U, Pt.locs, Pt.cells, Pt.slots] at X112 l112 y112 z112 st112 hQ112
          rw [l112, y112, z112] at X112
          replace X112 : Stand p l e _ _ m _ below meth c T112 _ 0 0 := X112
          obtain ⟨rfl, N112q, e112q⟩ := hQ112
          have N112 := Fr.app N109 N112q
          refine Go.via st112 ?_
          by_cases hc113 : (dgF c1) = (0 : Int32)
          · -- yes
            refine Go.via (fun _ => XS.ifNo X112.here hx rfl (hb hby d4_56) rfl ((if0 _ _).trans (teq hc113).2)) ?_
            refine Go.via (fun _ => XS.iloadN X112.here hx rfl (hb hby d4_59) rfl) ?_
            refine Go.via (fun _ => XS.bipush X112.here hx rfl (hb hby d4_60)) ?_
            show Go p e below _ (T112.setTop (mkF m 62 #[rv a1, iv lg, iv (1 : Int32), iv c1] [(.int (46 : Int32)), (.int c1)]))
            by_cases hc114 : c1 = (46 : Int32)
            · -- yes
              refine Go.via (fun _ => XS.icmpYes X112.here hx rfl (pc0 := 62) (pc' := 79) rfl (hb hby d4_62) rfl (teq hc114).1 (by decide) (by decide)) ?_
              exact nx1 _ _ X112 e112q N112 (by simp [okF, hc110, hc111, hc113, hc114])
            · -- no
              refine Go.via (fun _ => XS.icmpNo X112.here hx rfl (hb hby d4_62) rfl (feq hc114).1) ?_
              refine Go.via (fun _ => XS.iloadN X112.here hx rfl (hb hby d4_65) rfl) ?_
              refine Go.via (fun _ => XS.bipush X112.here hx rfl (hb hby d4_66)) ?_
              by_cases hc115 : c1 = (95 : Int32)
              · -- yes
                show Go p e below _ (T112.setTop (mkF m 68 #[rv a1, iv lg, iv (1 : Int32), iv c1] [(.int (95 : Int32)), (.int c1)]))
                refine Go.via (fun _ => XS.icmpYes X112.here hx rfl (pc0 := 68) (pc' := 79) rfl (hb hby d4_68) rfl (teq hc115).1 (by decide) (by decide)) ?_
                exact nx1 _ _ X112 e112q N112 (by simp [okF, hc110, hc111, hc113, hc114, hc115])
              · -- no
                show Go p e below _ (T112.setTop (mkF m 68 #[rv a1, iv lg, iv (1 : Int32), iv c1] [(.int (95 : Int32)), (.int c1)]))
                refine Go.via (fun _ => XS.icmpNo X112.here hx rfl (hb hby d4_68) rfl (feq hc115).1) ?_
                refine Go.via (fun _ => XS.iloadN X112.here hx rfl (hb hby d4_71) rfl) ?_
                refine Go.via (fun _ => XS.bipush X112.here hx rfl (hb hby d4_72)) ?_
                by_cases hc116 : c1 = (45 : Int32)
                · -- yes
                  show Go p e below _ (T112.setTop (mkF m 74 #[rv a1, iv lg, iv (1 : Int32), iv c1] [(.int (45 : Int32)), (.int c1)]))
                  refine Go.via (fun _ => XS.icmpYes X112.here hx rfl (pc0 := 74) (pc' := 79) rfl (hb hby d4_74) rfl (teq hc116).1 (by decide) (by decide)) ?_
                  exact nx1 _ _ X112 e112q N112 (by simp [okF, hc110, hc111, hc113, hc114, hc115, hc116])
                · -- no
                  show Go p e below _ (T112.setTop (mkF m 74 #[rv a1, iv lg, iv (1 : Int32), iv c1] [(.int (45 : Int32)), (.int c1)]))
                  refine Go.via (fun _ => XS.icmpNo X112.here hx rfl (hb hby d4_74) rfl (feq hc116).1) ?_
                  refine Go.via (fun _ => XS.iconst X112.here hx rfl (hb hby d4_77)) ?_
                  have hz : okF c1 = (0 : Int32) := by simp [okF, hc110, hc111, hc113, hc114, hc115, hc116]
                  exact own_retN X112 hx hlk (t := .boolean) Bd.returns (by simp) (hb hby d4_78) (by show QN2 Z lg c0 c1 h0 n0 _ T112.heap _; rw [e112q]; exact ⟨by simp [nm2, nar, hz, hc103, hok0], N112, rfl⟩) (by decide) (by decide)
          · -- no
            refine Go.via (fun _ => XS.ifYes X112.here hx rfl (pc0 := 56) (pc' := 79) rfl (hb hby d4_56) rfl ((if0 _ _).trans (feq hc113).2) (by decide) (by decide)) ?_
            exact nx1 _ _ X112 e112q N112 (by simp [okF, hc110, hc111, hc113])
        · -- no
          refine Go.via (fun _ => XS.icmpNo X109.here hx rfl (hb hby d4_43) rfl (flt hc111).1) ?_
          refine Go.via (fun _ => XS.iloadN X109.here hx rfl (hb hby d4_46) rfl) ?_
          show Go p e below _ (T109.setTop (mkF m 47 #[rv a1, iv lg, iv (1 : Int32), iv c1] [(.int c1)]))
          refine Go.via (fun _ => XS.bipush X109.here hx rfl (hb hby d4_47)) ?_
          by_cases hc117 : (90 : Int32) < c1
          · -- yes
            refine Go.via (fun _ => XS.icmpNo X109.here hx rfl (hb hby d4_49) rfl (tlt hc117).2.2.2) ?_
            refine Go.via (fun _ => XS.iloadN X109.here hx rfl (hb hby d4_52) rfl) ?_
            obtain ⟨_, _, ⟨T118, L118, k118, n118⟩, -, X118, ⟨Lc118, hQ118, l118, y118, z118⟩, st118⟩ := Jvm.LawKit.callS X109 hx (y := (⟨"com/example/timed_cap/timedcap/model/Names", "isDigit", "(C)Z"⟩ : MethodName)) hown (mvT hZ (ow hw 82 rfl)) (mvT hZ (ow hw 83 rfl)) (mvT hZ (ow hw 25 rfl)) (mvT hZ (ow hw 84 rfl)) (by decide) (backOf (W := 0) (rm_isDigit l Z a0 hw [] c1 h0 n0 Z0) hZ (ow hw 84 rfl) (ow hw 25 rfl) (by decide) (by decide)) (g := (mkF m 53 #[rv a1, iv lg, iv (1 : Int32), iv c1] [(.int c1)])) rfl (by rw [hml]; rfl) (argsL := [(.int c1)]) (rest := []) (lenOf pd_7 rfl) rfl (by show 2 * 0 + _ ≤ _; exact Nat.le_of_eq rfl) (hb hby d4_53) (fun _ _ => ⟨rfl, e109q, (by decide : 0 + 0 ≤ _), (by decide : 0 + 0 ≤ _)⟩)
            dsimp only [Pt.U, Pt.locs, Pt.cells, Pt.slots] at X118 l118 y118 z118 st118 hQ118
            rw [l118, y118, z118] at X118
            replace X118 : Stand p l e _ _ m _ below meth c T118 _ 0 0 := X118
            obtain ⟨rfl, N118q, e118q⟩ := hQ118
            have N118 := Fr.app N109 N118q
            refine Go.via st118 ?_
            show Go p e below _ (T118.setTop (mkF m 56 #[rv a1, iv lg, iv (1 : Int32), iv c1] [(.int (dgF c1))]))
            by_cases hc119 : (dgF c1) = (0 : Int32)
            · -- yes
              refine Go.via (fun _ => XS.ifNo X118.here hx rfl (hb hby d4_56) rfl ((if0 _ _).trans (teq hc119).2)) ?_
              refine Go.via (fun _ => XS.iloadN X118.here hx rfl (hb hby d4_59) rfl) ?_
              refine Go.via (fun _ => XS.bipush X118.here hx rfl (hb hby d4_60)) ?_
              by_cases hc120 : c1 = (46 : Int32)
              · -- yes
                show Go p e below _ (T118.setTop (mkF m 62 #[rv a1, iv lg, iv (1 : Int32), iv c1] [(.int (46 : Int32)), (.int c1)]))
                refine Go.via (fun _ => XS.icmpYes X118.here hx rfl (pc0 := 62) (pc' := 79) rfl (hb hby d4_62) rfl (teq hc120).1 (by decide) (by decide)) ?_
                exact nx1 _ _ X118 e118q N118 (by simp [okF, hc110, hc111, hc117, hc119, hc120])
              · -- no
                show Go p e below _ (T118.setTop (mkF m 62 #[rv a1, iv lg, iv (1 : Int32), iv c1] [(.int (46 : Int32)), (.int c1)]))
                refine Go.via (fun _ => XS.icmpNo X118.here hx rfl (hb hby d4_62) rfl (feq hc120).1) ?_
                refine Go.via (fun _ => XS.iloadN X118.here hx rfl (hb hby d4_65) rfl) ?_
                refine Go.via (fun _ => XS.bipush X118.here hx rfl (hb hby d4_66)) ?_
                by_cases hc121 : c1 = (95 : Int32)
                · -- yes
                  show Go p e below _ (T118.setTop (mkF m 68 #[rv a1, iv lg, iv (1 : Int32), iv c1] [(.int (95 : Int32)), (.int c1)]))
                  refine Go.via (fun _ => XS.icmpYes X118.here hx rfl (pc0 := 68) (pc' := 79) rfl (hb hby d4_68) rfl (teq hc121).1 (by decide) (by decide)) ?_
                  exact nx1 _ _ X118 e118q N118 (by simp [okF, hc110, hc111, hc117, hc119, hc120, hc121])
                · -- no
                  show Go p e below _ (T118.setTop (mkF m 68 #[rv a1, iv lg, iv (1 : Int32), iv c1] [(.int (95 : Int32)), (.int c1)]))
                  refine Go.via (fun _ => XS.icmpNo X118.here hx rfl (hb hby d4_68) rfl (feq hc121).1) ?_
                  refine Go.via (fun _ => XS.iloadN X118.here hx rfl (hb hby d4_71) rfl) ?_
                  refine Go.via (fun _ => XS.bipush X118.here hx rfl (hb hby d4_72)) ?_
                  by_cases hc122 : c1 = (45 : Int32)
                  · -- yes
                    refine Go.via (fun _ => XS.icmpYes X118.here hx rfl (pc0 := 74) (pc' := 79) rfl (hb hby d4_74) rfl (teq hc122).1 (by decide) (by decide)) ?_
                    show Go p e below _ (T118.setTop (mkF m 79 #[rv a1, iv lg, iv (1 : Int32), iv c1] []))
                    exact nx1 _ _ X118 e118q N118 (by simp [okF, hc110, hc111, hc117, hc119, hc120, hc121, hc122])
                  · -- no
                    refine Go.via (fun _ => XS.icmpNo X118.here hx rfl (hb hby d4_74) rfl (feq hc122).1) ?_
                    show Go p e below _ (T118.setTop (mkF m 77 #[rv a1, iv lg, iv (1 : Int32), iv c1] []))
                    refine Go.via (fun _ => XS.iconst X118.here hx rfl (hb hby d4_77)) ?_
                    have hz : okF c1 = (0 : Int32) := by simp [okF, hc110, hc111, hc117, hc119, hc120, hc121, hc122]
                    exact own_retN X118 hx hlk (t := .boolean) Bd.returns (by simp) (hb hby d4_78) (by show QN2 Z lg c0 c1 h0 n0 _ T118.heap _; rw [e118q]; exact ⟨by simp [nm2, nar, hz, hc103, hok0], N118, rfl⟩) (by decide) (by decide)
            · -- no
              refine Go.via (fun _ => XS.ifYes X118.here hx rfl (pc0 := 56) (pc' := 79) rfl (hb hby d4_56) rfl ((if0 _ _).trans (feq hc119).2) (by decide) (by decide)) ?_
              exact nx1 _ _ X118 e118q N118 (by simp [okF, hc110, hc111, hc117, hc119])
          · -- no
            refine Go.via (fun _ => XS.icmpYes X109.here hx rfl (pc0 := 49) (pc' := 79) rfl (hb hby d4_49) rfl (flt hc117).2.2.2 (by decide) (by decide)) ?_
            exact nx1 _ _ X109 e109q N109 (by simp [okF, hc110, hc111, hc117])
      · -- no
        refine Go.via (fun _ => XS.ifYes X109.here hx rfl (pc0 := 37) (pc' := 79) rfl (hb hby d4_37) rfl ((if0 _ _).trans (feq hc110).2) (by decide) (by decide)) ?_
        show Go p e below _ (T109.setTop (mkF m 79 #[rv a1, iv lg, iv (1 : Int32), iv c1] []))
        exact nx1 _ _ X109 e109q N109 (by simp [okF, hc110])
    refine Go.via (fun _ => XS.iloadN X105.here hx rfl (hb hby d4_33) rfl) ?_
    obtain ⟨_, _, ⟨T123, L123, k123, n123⟩, -, X123, ⟨Lc123, hQ123, l123, y123, z123⟩, st123⟩ := Jvm.LawKit.callS X105 hx (y := (⟨"com/example/timed_cap/timedcap/model/Names", "isLowerCase", "(C)Z"⟩ : MethodName)) hown (mvT hZ (ow hw 79 rfl)) (mvT hZ (ow hw 80 rfl)) (mvT hZ (ow hw 25 rfl)) (mvT hZ (ow hw 81 rfl)) (by decide) (backOf (W := 0) (rm_isLowerCase l Z a0 hw [] c0 h0 n0 Z0) hZ (ow hw 81 rfl) (ow hw 25 rfl) (by decide) (by decide)) (g := (mkF m 34 #[rv a1, iv lg, iv (0 : Int32), iv c0] [(.int c0)])) rfl (by rw [hml]; rfl) (argsL := [(.int c0)]) (rest := []) (lenOf pd_7 rfl) rfl (by show 2 * 0 + _ ≤ _; exact Nat.le_of_eq rfl) (hb hby d4_34) (fun _ _ => ⟨rfl, e105q, (by decide : 0 + 0 ≤ _), (by decide : 0 + 0 ≤ _)⟩)
    dsimp only [Pt.U, Pt.locs, Pt.cells, Pt.slots] at X123 l123 y123 z123 st123 hQ123
    rw [l123, y123, z123] at X123
    replace X123 : Stand p l e _ _ m _ below meth c T123 _ 0 0 := X123
    obtain ⟨rfl, N123q, e123q⟩ := hQ123
    have N123 := Fr.app N105 N123q
    refine Go.via st123 ?_
    by_cases hc124 : (loF c0) = (0 : Int32)
    · -- yes
      show Go p e below _ (T123.setTop (mkF m 37 #[rv a1, iv lg, iv (0 : Int32), iv c0] [(.int (loF c0))]))
      refine Go.via (fun _ => XS.ifNo X123.here hx rfl (hb hby d4_37) rfl ((if0 _ _).trans (teq hc124).2)) ?_
      refine Go.via (fun _ => XS.iloadN X123.here hx rfl (hb hby d4_40) rfl) ?_
      refine Go.via (fun _ => XS.bipush X123.here hx rfl (hb hby d4_41)) ?_
      by_cases hc125 : c0 < (65 : Int32)
      · -- yes
        refine Go.via (fun _ => XS.icmpYes X123.here hx rfl (pc0 := 43) (pc' := 52) rfl (hb hby d4_43) rfl (tlt hc125).1 (by decide) (by decide)) ?_
        show Go p e below _ (T123.setTop (mkF m 52 #[rv a1, iv lg, iv (0 : Int32), iv c0] []))
        refine Go.via (fun _ => XS.iloadN X123.here hx rfl (hb hby d4_52) rfl) ?_
        obtain ⟨_, _, ⟨T126, L126, k126, n126⟩, -, X126, ⟨Lc126, hQ126, l126, y126, z126⟩, st126⟩ := Jvm.LawKit.callS X123 hx (y := (⟨"com/example/timed_cap/timedcap/model/Names", "isDigit", "(C)Z"⟩ : MethodName)) hown (mvT hZ (ow hw 82 rfl)) (mvT hZ (ow hw 83 rfl)) (mvT hZ (ow hw 25 rfl)) (mvT hZ (ow hw 84 rfl)) (by decide) (backOf (W := 0) (rm_isDigit l Z a0 hw [] c0 h0 n0 Z0) hZ (ow hw 84 rfl) (ow hw 25 rfl) (by decide) (by decide)) (g := (mkF m 53 #[rv a1, iv lg, iv (0 : Int32), iv c0] [(.int c0)])) rfl (by rw [hml]; rfl) (argsL := [(.int c0)]) (rest := []) (lenOf pd_7 rfl) rfl (by show 2 * 0 + _ ≤ _; exact Nat.le_of_eq rfl) (hb hby d4_53) (fun _ _ => ⟨rfl, e123q, (by decide : 0 + 0 ≤ _), (by decide : 0 + 0 ≤ _)⟩)
        dsimp only [Pt.U, Pt.locs, Pt.cells, Pt.slots] at X126 l126 y126 z126 st126 hQ126
        rw [l126, y126, z126] at X126
        replace X126 : Stand p l e _ _ m _ below meth c T126 _ 0 0 := X126
        obtain ⟨rfl, N126q, e126q⟩ := hQ126
        have N126 := Fr.app N123 N126q
        refine Go.via st126 ?_
        by_cases hc127 : (dgF c0) = (0 : Int32)
        · -- yes
          refine Go.via (fun _ => XS.ifNo X126.here hx rfl (hb hby d4_56) rfl ((if0 _ _).trans (teq hc127).2)) ?_
          refine Go.via (fun _ => XS.iloadN X126.here hx rfl (hb hby d4_59) rfl) ?_
          show Go p e below _ (T126.setTop (mkF m 60 #[rv a1, iv lg, iv (0 : Int32), iv c0] [(.int c0)]))
          refine Go.via (fun _ => XS.bipush X126.here hx rfl (hb hby d4_60)) ?_
          by_cases hc128 : c0 = (46 : Int32)
          · -- yes
            refine Go.via (fun _ => XS.icmpYes X126.here hx rfl (pc0 := 62) (pc' := 79) rfl (hb hby d4_62) rfl (teq hc128).1 (by decide) (by decide)) ?_
            exact nx0 _ _ X126 e126q N126 (by simp [okF, hc124, hc125, hc127, hc128])
          · -- no
            refine Go.via (fun _ => XS.icmpNo X126.here hx rfl (hb hby d4_62) rfl (feq hc128).1) ?_
            refine Go.via (fun _ => XS.iloadN X126.here hx rfl (hb hby d4_65) rfl) ?_
            refine Go.via (fun _ => XS.bipush X126.here hx rfl (hb hby d4_66)) ?_
            show Go p e below _ (T126.setTop (mkF m 68 #[rv a1, iv lg, iv (0 : Int32), iv c0] [(.int (95 : Int32)), (.int c0)]))
            by_cases hc129 : c0 = (95 : Int32)
            · -- yes
              refine Go.via (fun _ => XS.icmpYes X126.here hx rfl (pc0 := 68) (pc' := 79) rfl (hb hby d4_68) rfl (teq hc129).1 (by decide) (by decide)) ?_
              exact nx0 _ _ X126 e126q N126 (by simp [okF, hc124, hc125, hc127, hc128, hc129])
            · -- no
              refine Go.via (fun _ => XS.icmpNo X126.here hx rfl (hb hby d4_68) rfl (feq hc129).1) ?_
              refine Go.via (fun _ => XS.iloadN X126.here hx rfl (hb hby d4_71) rfl) ?_
              refine Go.via (fun _ => XS.bipush X126.here hx rfl (hb hby d4_72)) ?_
              by_cases hc130 : c0 = (45 : Int32)
              · -- yes
                show Go p e below _ (T126.setTop (mkF m 74 #[rv a1, iv lg, iv (0 : Int32), iv c0] [(.int (45 : Int32)), (.int c0)]))
                refine Go.via (fun _ => XS.icmpYes X126.here hx rfl (pc0 := 74) (pc' := 79) rfl (hb hby d4_74) rfl (teq hc130).1 (by decide) (by decide)) ?_
                exact nx0 _ _ X126 e126q N126 (by simp [okF, hc124, hc125, hc127, hc128, hc129, hc130])
              · -- no
                show Go p e below _ (T126.setTop (mkF m 74 #[rv a1, iv lg, iv (0 : Int32), iv c0] [(.int (45 : Int32)), (.int c0)]))
                refine Go.via (fun _ => XS.icmpNo X126.here hx rfl (hb hby d4_74) rfl (feq hc130).1) ?_
                refine Go.via (fun _ => XS.iconst X126.here hx rfl (hb hby d4_77)) ?_
                have hz : okF c0 = (0 : Int32) := by simp [okF, hc124, hc125, hc127, hc128, hc129, hc130]
                exact own_retN X126 hx hlk (t := .boolean) Bd.returns (by simp) (hb hby d4_78) (by show QN2 Z lg c0 c1 h0 n0 _ T126.heap _; rw [e126q]; exact ⟨by simp [nm2, nar, hz, hc103], N126, rfl⟩) (by decide) (by decide)
        · -- no
          refine Go.via (fun _ => XS.ifYes X126.here hx rfl (pc0 := 56) (pc' := 79) rfl (hb hby d4_56) rfl ((if0 _ _).trans (feq hc127).2) (by decide) (by decide)) ?_
          exact nx0 _ _ X126 e126q N126 (by simp [okF, hc124, hc125, hc127])
      · -- no
        refine Go.via (fun _ => XS.icmpNo X123.here hx rfl (hb hby d4_43) rfl (flt hc125).1) ?_
        show Go p e below _ (T123.setTop (mkF m 46 #[rv a1, iv lg, iv (0 : Int32), iv c0] []))
        refine Go.via (fun _ => XS.iloadN X123.here hx rfl (hb hby d4_46) rfl) ?_
        refine Go.via (fun _ => XS.bipush X123.here hx rfl (hb hby d4_47)) ?_
        by_cases hc131 : (90 : Int32) < c0
        · -- yes
          refine Go.via (fun _ => XS.icmpNo X123.here hx rfl (hb hby d4_49) rfl (tlt hc131).2.2.2) ?_
          refine Go.via (fun _ => XS.iloadN X123.here hx rfl (hb hby d4_52) rfl) ?_
          show Go p e below _ (T123.setTop (mkF m 53 #[rv a1, iv lg, iv (0 : Int32), iv c0] [(.int c0)]))
          obtain ⟨_, _, ⟨T132, L132, k132, n132⟩, -, X132, ⟨Lc132, hQ132, l132, y132, z132⟩, st132⟩ := Jvm.LawKit.callS X123 hx (y := (⟨"com/example/timed_cap/timedcap/model/Names", "isDigit", "(C)Z"⟩ : MethodName)) hown (mvT hZ (ow hw 82 rfl)) (mvT hZ (ow hw 83 rfl)) (mvT hZ (ow hw 25 rfl)) (mvT hZ (ow hw 84 rfl)) (by decide) (backOf (W := 0) (rm_isDigit l Z a0 hw [] c0 h0 n0 Z0) hZ (ow hw 84 rfl) (ow hw 25 rfl) (by decide) (by decide)) (g := (mkF m 53 #[rv a1, iv lg, iv (0 : Int32), iv c0] [(.int c0)])) rfl (by rw [hml]; rfl) (argsL := [(.int c0)]) (rest := []) (lenOf pd_7 rfl) rfl (by show 2 * 0 + _ ≤ _; exact Nat.le_of_eq rfl) (hb hby d4_53) (fun _ _ => ⟨rfl, e123q, (by decide : 0 + 0 ≤ _), (by decide : 0 + 0 ≤ _)⟩)
          dsimp only [Pt.U, Pt.locs, Pt.cells, Pt.slots] at X132 l132 y132 z132 st132 hQ132
          rw [l132, y132, z132] at X132
          replace X132 : Stand p l e _ _ m _ below meth c T132 _ 0 0 := X132
          obtain ⟨rfl, N132q, e132q⟩ := hQ132
          have N132 := Fr.app N123 N132q
          refine Go.via st132 ?_
          by_cases hc133 : (dgF c0) = (0 : Int32)
          · -- yes
            refine Go.via (fun _ => XS.ifNo X132.here hx rfl (hb hby d4_56) rfl ((if0 _ _).trans (teq hc133).2)) ?_
            refine Go.via (fun _ => XS.iloadN X132.here hx rfl (hb hby d4_59) rfl) ?_
            refine Go.via (fun _ => XS.bipush X132.here hx rfl (hb hby d4_60)) ?_
            show Go p e below _ (T132.setTop (mkF m 62 #[rv a1, iv lg, iv (0 : Int32), iv c0] [(.int (46 : Int32)), (.int c0)]))
            by_cases hc134 : c0 = (46 : Int32)
            · -- yes
              refine Go.via (fun _ => XS.icmpYes X132.here hx rfl (pc0 := 62) (pc' := 79) rfl (hb hby d4_62) rfl (teq hc134).1 (by decide) (by decide)) ?_
              exact nx0 _ _ X132 e132q N132 (by simp [okF, hc124, hc125, hc131, hc133, hc134])
            · -- no
              refine Go.via (fun _ => XS.icmpNo X132.here hx rfl (hb hby d4_62) rfl (feq hc134).1) ?_
              refine Go.via (fun _ => XS.iloadN X132.here hx rfl (hb hby d4_65) rfl) ?_
              refine Go.via (fun _ => XS.bipush X132.here hx rfl (hb hby d4_66)) ?_
              by_cases hc135 : c0 = (95 : Int32)
              · -- yes
                show Go p e below _ (T132.setTop (mkF m 68 #[rv a1, iv lg, iv (0 : Int32), iv c0] [(.int (95 : Int32)), (.int c0)]))
                refine Go.via (fun _ => XS.icmpYes X132.here hx rfl (pc0 := 68) (pc' := 79) rfl (hb hby d4_68) rfl (teq hc135).1 (by decide) (by decide)) ?_
                exact nx0 _ _ X132 e132q N132 (by simp [okF, hc124, hc125, hc131, hc133, hc134, hc135])
              · -- no
                show Go p e below _ (T132.setTop (mkF m 68 #[rv a1, iv lg, iv (0 : Int32), iv c0] [(.int (95 : Int32)), (.int c0)]))
                refine Go.via (fun _ => XS.icmpNo X132.here hx rfl (hb hby d4_68) rfl (feq hc135).1) ?_
                refine Go.via (fun _ => XS.iloadN X132.here hx rfl (hb hby d4_71) rfl) ?_
                refine Go.via (fun _ => XS.bipush X132.here hx rfl (hb hby d4_72)) ?_
                by_cases hc136 : c0 = (45 : Int32)
                · -- yes
                  show Go p e below _ (T132.setTop (mkF m 74 #[rv a1, iv lg, iv (0 : Int32), iv c0] [(.int (45 : Int32)), (.int c0)]))
                  refine Go.via (fun _ => XS.icmpYes X132.here hx rfl (pc0 := 74) (pc' := 79) rfl (hb hby d4_74) rfl (teq hc136).1 (by decide) (by decide)) ?_
                  exact nx0 _ _ X132 e132q N132 (by simp [okF, hc124, hc125, hc131, hc133, hc134, hc135, hc136])
                · -- no
                  show Go p e below _ (T132.setTop (mkF m 74 #[rv a1, iv lg, iv (0 : Int32), iv c0] [(.int (45 : Int32)), (.int c0)]))
                  refine Go.via (fun _ => XS.icmpNo X132.here hx rfl (hb hby d4_74) rfl (feq hc136).1) ?_
                  refine Go.via (fun _ => XS.iconst X132.here hx rfl (hb hby d4_77)) ?_
                  have hz : okF c0 = (0 : Int32) := by simp [okF, hc124, hc125, hc131, hc133, hc134, hc135, hc136]
                  exact own_retN X132 hx hlk (t := .boolean) Bd.returns (by simp) (hb hby d4_78) (by show QN2 Z lg c0 c1 h0 n0 _ T132.heap _; rw [e132q]; exact ⟨by simp [nm2, nar, hz, hc103], N132, rfl⟩) (by decide) (by decide)
          · -- no
            refine Go.via (fun _ => XS.ifYes X132.here hx rfl (pc0 := 56) (pc' := 79) rfl (hb hby d4_56) rfl ((if0 _ _).trans (feq hc133).2) (by decide) (by decide)) ?_
            exact nx0 _ _ X132 e132q N132 (by simp [okF, hc124, hc125, hc131, hc133])
        · -- no
          refine Go.via (fun _ => XS.icmpYes X123.here hx rfl (pc0 := 49) (pc' := 79) rfl (hb hby d4_49) rfl (flt hc131).2.2.2 (by decide) (by decide)) ?_
          exact nx0 _ _ X123 e123q N123 (by simp [okF, hc124, hc125, hc131])
    · -- no
      show Go p e below _ (T123.setTop (mkF m 37 #[rv a1, iv lg, iv (0 : Int32), iv c0] [(.int (loF c0))]))
      refine Go.via (fun _ => XS.ifYes X123.here hx rfl (pc0 := 37) (pc' := 79) rfl (hb hby d4_37) rfl ((if0 _ _).trans (feq hc124).2) (by decide) (by decide)) ?_
      exact nx0 _ _ X123 e123q N123 (by simp [okF, hc124])
def Tx2 (Z : State) (h : Heap) (a1 : Addr) (c0 : Int32) (c1 : Int32) : Prop := (∃ (t : Addr) (kb : ClassId), Fld Z h a1 "java/lang/String" "value" "[B" (.ref t) ∧ Fld Z h a1 "java/lang/String" "coder" "B" (.int (0 : Int32)) ∧ Arv Z h t kb .byte (2 : Int32) [(.int (nar .byte (c0.toInt8.toInt32))), (.int (nar .byte (c1.toInt8.toInt32)))] (.int (0 : Int32)) ∧ ¬ ((255 : Int32) < c0) ∧ ¬ ((255 : Int32) < c1)) ∨ (∃ (t : Addr) (kb : ClassId), Fld Z h a1 "java/lang/String" "value" "[B" (.ref t) ∧ Fld Z h a1 "java/lang/String" "coder" "B" (.int (1 : Int32)) ∧ Arv Z h t kb .byte (4 : Int32) [(.int (nar .byte ((c0 >>> ((0 : Int32) &&& 31)).toInt8.toInt32))), (.int (nar .byte ((c0 >>> ((8 : Int32) &&& 31)).toInt8.toInt32))), (.int (nar .byte ((c1 >>> ((0 : Int32) &&& 31)).toInt8.toInt32))), (.int (nar .byte ((c1 >>> ((8 : Int32) &&& 31)).toInt8.toInt32)))] (.int (0 : Int32)))
def QTx2 (Z : State) (a1 : Addr) (c0 : Int32) (c1 : Int32) (h0 : Heap) (n0 : Nat) (v : Option Value) (h : Heap) (L : List Loc) : Prop := v = none ∧ Fr n0 L ∧ Keep h0 h [a1] ∧ Tx2 Z h a1 c0 c1
theorem rmN_2 (l : Launch) (Z : State) (a0 : Array Value) (hw : TW Z a0) (ws : List Jvm.Cond) (a1 : Addr) (c0 : Int32) (c1 : Int32) (lg : Int32) (ccs : Int32) (vF : Value) (h0 : Heap) (n0 : Nat) (Z0 : n0 ≤ h0.size) (E1 : Exa Z h0 a1 "java/lang/String") (tx : Tx2 Z h0 a1 c0 c1) (hr0 : ¬ (c0 < (0 : Int32)) ∧ ¬ ((65535 : Int32) < c0)) (hr1 : ¬ (c1 < (0 : Int32)) ∧ ¬ ((65535 : Int32) < c1)) (O0 : Old Z n0 h0) (G : SG Z ccs vF) :
    MF l Z (⟨"com/example/timed_cap/timedcap/model/Names", "isName", "(Ljava/lang/String;I)Z"⟩ : MethodName) prog_5_method_2_code 4 (some .boolean) ws (rmm 5 0 0 130) #[(.ref a1), (.int lg)] h0 (QN2 Z lg c0 c1 h0 n0) := by
  rcases tx with ⟨t, kb, f1, f2, v2, hl0, hl1⟩ | ⟨t, kb, f1, f2, v2⟩
  · exact rmN_2_0 l Z a0 hw ws a1 t kb c0 c1 lg ccs vF h0 n0 Z0 E1 f1 f2 v2 (own_l8 hr0.1 hl0) (own_l8 hr1.1 hl1) (own_nch hr0.1 hr0.2) (own_nch hr1.1 hr1.2) O0 G
  · exact rmN_2_1 l Z a0 hw ws a1 t kb c0 c1 lg ccs vF h0 n0 Z0 E1 f1 f2 v2 (own_u16 c0 hr0.1 hr0.2) (own_u16 c1 hr1.1 hr1.2) (own_nch hr0.1 hr0.2) (own_nch hr1.1 hr1.2) O0 G
def QN3 (Z : State) (lg : Int32) (c0 : Int32) (c1 : Int32) (c2 : Int32) (h0 : Heap) (n0 : Nat) (v : Option Value) (h : Heap) (L : List Loc) : Prop := v = some (.int (nm3 lg c0 c1 c2)) ∧ Fr n0 L ∧ h = h0
theorem ef_rmLen_3 (m : MethodId) (x0 : Addr) : entryFrame m #[(.ref x0)] 1 = mkF m 0 #[rv x0] [] := by first | (simp [entryFrame, mkF, argsToLocals, Value.category]; done) | rfl
def QLen_3 (Z : State) (a1 : Addr) (t1 : Addr) (kb : ClassId) (vs : List Value) (ccs : Int32) (vF : Value) (h0 : Heap) (n0 : Nat) (v : Option Value) (h : Heap) (L : List Loc) : Prop := v = some (.int (3 : Int32)) ∧ Fr n0 L ∧ h = h0
set_option maxRecDepth 65536 in
set_option maxHeartbeats 40000000 in
theorem rmLen_3 (l : Launch) (Z : State) (a0 : Array Value) (hw : TW Z a0) (ws : List Jvm.Cond) (a1 : Addr) (t1 : Addr) (kb : ClassId) (vs : List Value) (ccs : Int32) (vF : Value) (h0 : Heap) (n0 : Nat) (Z0 : n0 ≤ h0.size) (E1 : Exa Z h0 a1 "java/lang/String") (F1 : Fld Z h0 a1 "java/lang/String" "value" "[B" (.ref t1)) (F2 : Fld Z h0 a1 "java/lang/String" "coder" "B" (.int (0 : Int32))) (V2 : Arv Z h0 t1 kb .byte (3 : Int32) vs (.int (0 : Int32))) (O0 : Old Z n0 h0) (G : SG Z ccs vF) :
    MF l Z (⟨"java/lang/String", "length", "()I"⟩ : MethodName) jdk_42_method_54_code 1 (some .int) ws (rmm 1 0 0 13) #[(.ref a1)] h0 (QLen_3 Z a1 t1 kb vs ccs vF h0 n0) := by
  refine MetFree.of_bodySF (plainFor_of_name pn_java_lang_String) hisR ?_
  intro p e s m args below meth c s₁ Bd hml0 hP hK
  obtain ⟨rfl, hZ, hh⟩ := hP
  have hx := Bd.exec
  have hby := Bd.bytes
  have hlk : meth.locks = false := Bd.notSynchronized
  have hml : c.maxLocals = 1 := hml0
  have hown : s.vm.findClass "java/lang/String" = some m.cls := findClass_of_methodNamed Bd.named
  have hnm := (name_of_methodNamed Bd.named Bd.method).1
  have rF := G.2.2.2.2.2.2
  have hcs := G.2.1
  have X0 : Stand p l e (rmm 1 0 0 13) s m #[(.ref a1)] below meth c s₁ [] 0 0 := Stand.of_body Bd
  have e0 : s₁.heap = h0 := by rw [← hh, Bd.state]; rfl
  have N0 := Fr.nil n0
  show Go p e below (FinE s below (QLen_3 Z a1 t1 kb vs ccs vF h0 n0) (rmm 1 0 0 13).cells (rmm 1 0 0 13).slots) (s₁.setTop (entryFrame m #[(.ref a1)] 1))
  refine Go.via (fun t k => castTop (ef_rmLen_3 m a1) k) ?_
  refine Go.via (fun _ => XS.aloadN X0.here hx rfl (hb hby d10_0) rfl rfl) ?_
  obtain ⟨T101, X101, e101, st101⟩ := getF X0 hx hZ hown (host := "") (Or.inl (ow hw 21 rfl)) Via.refl e0 F1 (g := (mkF m 1 #[rv a1] [(.ref a1)])) rfl rfl (hb hby d10_1)
  refine Go.via st101 ?_
  obtain ⟨cl102, Ar102, -, S102, N102n, -, -⟩ := id V2
  have al102 := X101.arraylength hx (by rw [e101]; exact Ar102.1) (State.isArrayOf_alike hZ.alike Ar102.2.1) (g := (mkF m 4 #[rv a1] [(.ref t1)])) rfl rfl (hb hby d10_4)
  rw [len_of S102 N102n] at al102
  refine Go.via al102 ?_
  refine Go.via (fun _ => XS.aloadN X101.here hx rfl (hb hby d10_5) rfl rfl) ?_
  obtain ⟨cq103, kq103, q103a, q103b, q103c⟩ := isOf hZ e101 E1
  obtain ⟨_, _, ⟨T103, L103, k103, n103⟩, -, X103, ⟨Lc103, hQ103, l103, y103, z103⟩, st103⟩ := X101.virtualBack hx (y := (⟨"java/lang/String", "coder", "()B"⟩ : MethodName)) (z := (⟨"java/lang/String", "coder", "()B"⟩ : MethodName)) hown (mvT hZ (ow hw 52 rfl)) (mvT hZ (ow hw 53 rfl)) (notFace_of_selects (args := #[]) (mvT hZ (ow hw 55 rfl))) (mvT hZ (ow hw 55 rfl)) (mvT hZ (ow hw 54 rfl)) (by decide) (backOf (W := 1) (rmCoder l Z a0 hw [] a1 ccs vF h0 n0 Z0 F2 O0 G) hZ (ow hw 56 rfl) (ow hw 4 rfl) (by decide) (by decide)) q103a q103c (g := (mkF m 6 #[rv a1] [(.ref a1), (.int (3 : Int32))])) rfl (by rw [hml]; rfl) (Steps.refl _) (argsL := []) (rest := [(.int (3 : Int32))]) (lenOf pd_4 rfl) rfl (by show 2 * 0 + _ ≤ _; exact Nat.le_of_eq rfl) (hb hby d10_6) (fun _ _ => ⟨rfl, e101, (by decide : 0 + 0 ≤ _), (by decide : 0 + 0 ≤ _)⟩)
  dsimp only [Pt.U, Pt.locs, Pt.cells, Pt.slots] at X103 l103 y103 z103 st103 hQ103
  rw [l103, y103, z103] at X103
  replace X103 : Stand p l e _ _ m _ below meth c T103 _ 0 0 := X103
  obtain ⟨rfl, N103q, e103q⟩ := hQ103
  have N103 := Fr.app N0 N103q
  refine Go.tr st103 ?_
  show Go p e below _ (T103.setTop (mkF m 9 #[rv a1] [(.int (0 : Int32)), (.int (3 : Int32))]))
  refine Go.via (fun _ => XS.ishr X103.here hx rfl (hb hby d10_9) rfl) ?_
  exact own_retI X103 hx hlk Bd.returns (hb hby d10_10) (by show QLen_3 Z a1 t1 kb vs ccs vF h0 n0 _ T103.heap _; rw [e103q]; exact ⟨rfl, N103, rfl⟩) (by decide) (by decide)
theorem ef_rmN_3_0 (m : MethodId) (x0 : Addr) (x1 : Int32) : entryFrame m #[(.ref x0), (.int x1)] 4 = mkF m 0 #[rv x0, iv x1, .unset, .unset] [] := by first | (simp [entryFrame, mkF, argsToLocals, Value.category]; done) | rfl
set_option maxRecDepth 65536 in
set_option maxHeartbeats 40000000 in
theorem rmN_3_0 (l : Launch) (Z : State) (a0 : Array Value) (hw : TW Z a0) (ws : List Jvm.Cond) (a1 : Addr) (t1 : Addr) (kb : ClassId) (c0 : Int32) (c1 : Int32) (c2 : Int32) (lg : Int32) (ccs : Int32) (vF : Value) (h0 : Heap) (n0 : Nat) (Z0 : n0 ≤ h0.size) (E1 : Exa Z h0 a1 "java/lang/String") (F1 : Fld Z h0 a1 "java/lang/String" "value" "[B" (.ref t1)) (F2 : Fld Z h0 a1 "java/lang/String" "coder" "B" (.int (0 : Int32))) (V2 : Arv Z h0 t1 kb .byte (3 : Int32) [(.int (nar .byte (c0.toInt8.toInt32))), (.int (nar .byte (c1.toInt8.toInt32))), (.int (nar .byte (c2.toInt8.toInt32)))] (.int (0 : Int32))) (hu0 : nar .char (((nar .byte (c0.toInt8.toInt32)) &&& (255 : Int32)).toUInt32.toUInt16.toUInt32.toInt32) = c0) (hu1 : nar .char (((nar .byte (c1.toInt8.toInt32)) &&& (255 : Int32)).toUInt32.toUInt16.toUInt32.toInt32) = c1) (hu2 : nar .char (((nar .byte (c2.toInt8.toInt32)) &&& (255 : Int32)).toUInt32.toUInt16.toUInt32.toInt32) = c2) (hn0 : nar .char c0 = c0) (hn1 : nar .char c1 = c1) (hn2 : nar .char c2 = c2) (O0 : Old Z n0 h0) (G : SG Z ccs vF) :
    MF l Z (⟨"com/example/timed_cap/timedcap/model/Names", "isName", "(Ljava/lang/String;I)Z"⟩ : MethodName) prog_5_method_2_code 4 (some .boolean) ws (rmm 5 0 0 130) #[(.ref a1), (.int lg)] h0 (QN3 Z lg c0 c1 c2 h0 n0) := by
  refine MetFree.of_bodySF (plainFor_of_name pn_com_example_timed_cap_timedcap_model_Names) hisR ?_
  intro p e s m args below meth c s₁ Bd hml0 hP hK
  obtain ⟨rfl, hZ, hh⟩ := hP
  have hx := Bd.exec
  have hby := Bd.bytes
  have hlk : meth.locks = false := Bd.notSynchronized
  have hml : c.maxLocals = 4 := hml0
  have hown : s.vm.findClass "com/example/timed_cap/timedcap/model/Names" = some m.cls := findClass_of_methodNamed Bd.named
  have hnm := (name_of_methodNamed Bd.named Bd.method).1
  have rF := G.2.2.2.2.2.2
  have hcs := G.2.1
  have X0 : Stand p l e (rmm 5 0 0 130) s m #[(.ref a1), (.int lg)] below meth c s₁ [] 0 0 := Stand.of_body Bd
  have e0 : s₁.heap = h0 := by rw [← hh, Bd.state]; rfl
  have N0 := Fr.nil n0
  show Go p e below (FinE s below (QN3 Z lg c0 c1 c2 h0 n0) (rmm 5 0 0 130).cells (rmm 5 0 0 130).slots) (s₁.setTop (entryFrame m #[(.ref a1), (.int lg)] 4))
  refine Go.via (fun t k => castTop (ef_rmN_3_0 m a1 lg) k) ?_
  refine Go.via (fun _ => XS.aloadN X0.here hx rfl (hb hby d4_0) rfl rfl) ?_
  obtain ⟨cq101, kq101, q101a, q101b, q101c⟩ := isOf hZ e0 E1
  obtain ⟨_, _, ⟨T101, L101, k101, n101⟩, -, X101, ⟨Lc101, hQ101, l101, y101, z101⟩, st101⟩ := X0.virtualBack hx (y := (⟨"java/lang/String", "isEmpty", "()Z"⟩ : MethodName)) (z := (⟨"java/lang/String", "isEmpty", "()Z"⟩ : MethodName)) hown (mvT hZ (ow hw 27 rfl)) (mvT hZ (ow hw 28 rfl)) (notFace_of_selects (args := #[]) (mvT hZ (ow hw 30 rfl))) (mvT hZ (ow hw 30 rfl)) (mvT hZ (ow hw 29 rfl)) (by decide) (backOf (W := 0) (rmEmp_1 l Z a0 hw [] a1 t1 kb (3 : Int32) _ h0 n0 Z0 F1 V2 (by decide)) hZ (ow hw 31 rfl) (ow hw 4 rfl) (by decide) (by decide)) q101a q101c (g := (mkF m 1 #[rv a1, iv lg, .unset, .unset] [(.ref a1)])) rfl (by rw [hml]; rfl) (Steps.refl _) (argsL := []) (rest := []) (lenOf pd_0 rfl) rfl (by show 2 * 0 + _ ≤ _; exact Nat.le_of_eq rfl) (hb hby d4_1) (fun _ _ => ⟨rfl, e0, (by decide : 0 + 0 ≤ _), (by decide : 0 + 0 ≤ _)⟩)
  dsimp only [Pt.U, Pt.locs, Pt.cells, Pt.slots] at X101 l101 y101 z101 st101 hQ101
  rw [l101, y101, z101] at X101
  replace X101 : Stand p l e _ _ m _ below meth c T101 _ 0 0 := X101
  obtain ⟨rfl, N101q, e101q⟩ := hQ101
  have N101 := Fr.app N0 N101q
  refine Go.tr st101 ?_
  refine Go.via (fun _ => XS.ifNo X101.here hx rfl (hb hby d4_4) rfl (by decide)) ?_
  refine Go.via (fun _ => XS.aloadN X101.here hx rfl (hb hby d4_7) rfl rfl) ?_
  obtain ⟨cq102, kq102, q102a, q102b, q102c⟩ := isOf hZ e101q E1
  obtain ⟨_, _, ⟨T102, L102, k102, n102⟩, -, X102, ⟨Lc102, hQ102, l102, y102, z102⟩, st102⟩ := X101.virtualBack hx (y := (⟨"java/lang/String", "length", "()I"⟩ : MethodName)) (z := (⟨"java/lang/String", "length", "()I"⟩ : MethodName)) hown (mvT hZ (ow hw 47 rfl)) (mvT hZ (ow hw 48 rfl)) (notFace_of_selects (args := #[]) (mvT hZ (ow hw 50 rfl))) (mvT hZ (ow hw 50 rfl)) (mvT hZ (ow hw 49 rfl)) (by decide) (backOf (W := 0) (rmLen_3 l Z a0 hw [] a1 t1 kb _ ccs vF h0 n0 Z0 E1 F1 F2 V2 O0 G) hZ (ow hw 51 rfl) (ow hw 4 rfl) (by decide) (by decide)) q102a q102c (g := (mkF m 8 #[rv a1, iv lg, .unset, .unset] [(.ref a1)])) rfl (by rw [hml]; rfl) (Steps.refl _) (argsL := []) (rest := []) (lenOf pd_5 rfl) rfl (by show 2 * 0 + _ ≤ _; exact Nat.le_of_eq rfl) (hb hby d4_8) (fun _ _ => ⟨rfl, e101q, (by decide : 0 + 0 ≤ _), (by decide : 0 + 0 ≤ _)⟩)
  dsimp only [Pt.U, Pt.locs, Pt.cells, Pt.slots] at X102 l102 y102 z102 st102 hQ102
  rw [l102, y102, z102] at X102
  replace X102 : Stand p l e _ _ m _ below meth c T102 _ 0 0 := X102
  obtain ⟨rfl, N102q, e102q⟩ := hQ102
  have N102 := Fr.app N101 N102q
  refine Go.tr st102 ?_
  show Go p e below _ (T102.setTop (mkF m 11 #[rv a1, iv lg, .unset, .unset] [(.int (3 : Int32))]))
  refine Go.via (fun _ => XS.iloadN X102.here hx rfl (hb hby d4_11) rfl) ?_
  by_cases hc103 : lg < (3 : Int32)
  · -- yes
    refine Go.via (fun _ => XS.icmpNo X102.here hx rfl (hb hby d4_12) rfl (tlt hc103).2.2.2) ?_
    refine Go.via (fun _ => XS.iconst X102.here hx rfl (hb hby d4_15)) ?_
    exact own_retN X102 hx hlk (t := .boolean) Bd.returns (by simp) (hb hby d4_16) (by show QN3 Z lg c0 c1 c2 h0 n0 _ T102.heap _; rw [e102q]; exact ⟨by simp [nm3, nar, hc103], N102, rfl⟩) (by decide) (by decide)
  · -- no
    refine Go.via (fun _ => XS.icmpYes X102.here hx rfl (pc0 := 12) (pc' := 17) rfl (hb hby d4_12) rfl (flt hc103).2.2.2 (by decide) (by decide)) ?_
    refine Go.via (fun _ => XS.iconst X102.here hx rfl (hb hby d4_17)) ?_
    refine Go.via (fun _ => XS.istoreN X102.here hx rfl (hb hby d4_18) rfl (l' := #[rv a1, iv lg, iv (0 : Int32), .unset]) rfl) ?_
    show Go p e below _ (T102.setTop (mkF m 19 #[rv a1, iv lg, iv (0 : Int32), .unset] []))
    refine Go.via (fun _ => XS.iloadN X102.here hx rfl (hb hby d4_19) rfl) ?_
    refine Go.via (fun _ => XS.aloadN X102.here hx rfl (hb hby d4_20) rfl rfl) ?_
    obtain ⟨cq104, kq104, q104a, q104b, q104c⟩ := isOf hZ e102q E1
    obtain ⟨_, _, ⟨T104, L104, k104, n104⟩, -, X104, ⟨Lc104, hQ104, l104, y104, z104⟩, st104⟩ := X102.virtualBack hx (y := (⟨"java/lang/String", "length", "()I"⟩ : MethodName)) (z := (⟨"java/lang/String", "length", "()I"⟩ : MethodName)) hown (mvT hZ (ow hw 47 rfl)) (mvT hZ (ow hw 48 rfl)) (notFace_of_selects (args := #[]) (mvT hZ (ow hw 50 rfl))) (mvT hZ (ow hw 50 rfl)) (mvT hZ (ow hw 49 rfl)) (by decide) (backOf (W := 1) (rmLen_3 l Z a0 hw [] a1 t1 kb _ ccs vF h0 n0 Z0 E1 F1 F2 V2 O0 G) hZ (ow hw 51 rfl) (ow hw 4 rfl) (by decide) (by decide)) q104a q104c (g := (mkF m 21 #[rv a1, iv lg, iv (0 : Int32), .unset] [(.ref a1), (.int (0 : Int32))])) rfl (by rw [hml]; rfl) (Steps.refl _) (argsL := []) (rest := [(.int (0 : Int32))]) (lenOf pd_5 rfl) rfl (by show 2 * 0 + _ ≤ _; exact Nat.le_of_eq rfl) (hb hby d4_21) (fun _ _ => ⟨rfl, e102q, (by decide : 0 + 0 ≤ _), (by decide : 0 + 0 ≤ _)⟩)
    dsimp only [Pt.U, Pt.locs, Pt.cells, Pt.slots] at X104 l104 y104 z104 st104 hQ104
    rw [l104, y104, z104] at X104
    replace X104 : Stand p l e _ _ m _ below meth c T104 _ 0 0 := X104
    obtain ⟨rfl, N104q, e104q⟩ := hQ104
    have N104 := Fr.app N102 N104q
    refine Go.tr st104 ?_
    refine Go.via (fun _ => XS.icmpNo X104.here hx rfl (hb hby d4_24) rfl (by decide)) ?_
    refine Go.via (fun _ => XS.aloadN X104.here hx rfl (hb hby d4_27) rfl rfl) ?_
    refine Go.via (fun _ => XS.iloadN X104.here hx rfl (hb hby d4_28) rfl) ?_
    show Go p e below _ (T104.setTop (mkF m 29 #[rv a1, iv lg, iv (0 : Int32), .unset] [(.int (0 : Int32)), (.ref a1)]))
    obtain ⟨cq105, kq105, q105a, q105b, q105c⟩ := isOf hZ e104q E1
    obtain ⟨_, _, ⟨T105, L105, k105, n105⟩, -, X105, ⟨Lc105, hQ105, l105, y105, z105⟩, st105⟩ := X104.virtualBack hx (y := (⟨"java/lang/String", "charAt", "(I)C"⟩ : MethodName)) (z := (⟨"java/lang/String", "charAt", "(I)C"⟩ : MethodName)) hown (mvT hZ (ow hw 57 rfl)) (mvT hZ (ow hw 58 rfl)) (notFace_of_selects (args := #[]) (mvT hZ (ow hw 60 rfl))) (mvT hZ (ow hw 60 rfl)) (mvT hZ (ow hw 59 rfl)) (by decide) (backOf (W := 0) (rmCA_0 l Z a0 hw [] a1 t1 kb (3 : Int32) _ (0 : Int32) c0 ccs vF h0 n0 Z0 E1 F1 F2 V2 (by decide) (by decide) rfl hu0 hn0 O0 G) hZ (ow hw 61 rfl) (ow hw 4 rfl) (by decide) (by decide)) q105a q105c (g := (mkF m 29 #[rv a1, iv lg, iv (0 : Int32), .unset] [(.int (0 : Int32)), (.ref a1)])) rfl (by rw [hml]; rfl) (Steps.refl _) (argsL := [(.int (0 : Int32))]) (rest := []) (lenOf pd_6 rfl) rfl (by show 2 * 0 + _ ≤ _; exact Nat.le_of_eq rfl) (hb hby d4_29) (fun _ _ => ⟨rfl, e104q, (by decide : 0 + 0 ≤ _), (by decide : 0 + 0 ≤ _)⟩)
    dsimp only [Pt.U, Pt.locs, Pt.cells, Pt.slots] at X105 l105 y105 z105 st105 hQ105
    rw [l105, y105, z105] at X105
    replace X105 : Stand p l e _ _ m _ below meth c T105 _ 0 0 := X105
    obtain ⟨rfl, N105q, e105q⟩ := hQ105
    have N105 := Fr.app N104 N105q
    refine Go.tr st105 ?_
    refine Go.via (fun _ => XS.istoreN X105.here hx rfl (hb hby d4_32) rfl (l' := #[rv a1, iv lg, iv (0 : Int32), iv c0]) rfl) ?_
    have nx0 : ∀ (T' : State) (L' : List Loc), Stand p l e (rmm 5 0 0 130) s m #[(.ref a1), (.int lg)] below meth c T' L' 0 0 → T'.heap = h0 → Fr n0 L' → ¬ (okF c0 = (0 : Int32)) → Go p e below (FinE s below (QN3 Z lg c0 c1 c2 h0 n0) (rmm 5 0 0 130).cells (rmm 5 0 0 130).slots) (T'.setTop (mkF m 79 #[rv a1, iv lg, iv (0 : Int32), iv c0] [])) := by
      intro Tn0 Ln0 Xn0 en0 Nn0 hok0
      refine Go.via (fun _ => XS.iinc Xn0.here hx rfl (hb hby d4_79) rfl (l' := #[rv a1, iv lg, iv (1 : Int32), iv c0]) rfl) ?_
      refine Go.via (fun _ => XS.goto Xn0.here hx rfl (pc0 := 82) (pc' := 19) rfl (hb hby d4_82) (by decide) (by decide)) ?_
      refine Go.via (fun _ => XS.iloadN Xn0.here hx rfl (hb hby d4_19) rfl) ?_
      show Go p e below _ (Tn0.setTop (mkF m 20 #[rv a1, iv lg, iv (1 : Int32), iv c0] [(.int (1 : Int32))]))
      refine Go.via (fun _ => XS.aloadN Xn0.here hx rfl (hb hby d4_20) rfl rfl) ?_
      obtain ⟨cq106, kq106, q106a, q106b, q106c⟩ := isOf hZ en0 E1
      obtain ⟨_, _, ⟨T106, L106, k106, n106⟩, -, X106, ⟨Lc106, hQ106, l106, y106, z106⟩, st106⟩ := Xn0.virtualBack hx (y := (⟨"java/lang/String", "length", "()I"⟩ : MethodName)) (z := (⟨"java/lang/String", "length", "()I"⟩ : MethodName)) hown (mvT hZ (ow hw 47 rfl)) (mvT hZ (ow hw 48 rfl)) (notFace_of_selects (args := #[]) (mvT hZ (ow hw 50 rfl))) (mvT hZ (ow hw 50 rfl)) (mvT hZ (ow hw 49 rfl)) (by decide) (backOf (W := 1) (rmLen_3 l Z a0 hw [] a1 t1 kb _ ccs vF h0 n0 Z0 E1 F1 F2 V2 O0 G) hZ (ow hw 51 rfl) (ow hw 4 rfl) (by decide) (by decide)) q106a q106c (g := (mkF m 21 #[rv a1, iv lg, iv (1 : Int32), iv c0] [(.ref a1), (.int (1 : Int32))])) rfl (by rw [hml]; rfl) (Steps.refl _) (argsL := []) (rest := [(.int (1 : Int32))]) (lenOf pd_5 rfl) rfl (by show 2 * 0 + _ ≤ _; exact Nat.le_of_eq rfl) (hb hby d4_21) (fun _ _ => ⟨rfl, en0, (by decide : 0 + 0 ≤ _), (by decide : 0 + 0 ≤ _)⟩)
      dsimp only [Pt.U, Pt.locs, Pt.cells, Pt.slots] at X106 l106 y106 z106 st106 hQ106
      rw [l106, y106, z106] at X106
      replace X106 : Stand p l e _ _ m _ below meth c T106 _ 0 0 := X106
      obtain ⟨rfl, N106q, e106q⟩ := hQ106
      have N106 := Fr.app Nn0 N106q
      refine Go.tr st106 ?_
      refine Go.via (fun _ => XS.icmpNo X106.here hx rfl (hb hby d4_24) rfl (by decide)) ?_
      refine Go.via (fun _ => XS.aloadN X106.here hx rfl (hb hby d4_27) rfl rfl) ?_
      refine Go.via (fun _ => XS.iloadN X106.here hx rfl (hb hby d4_28) rfl) ?_
      obtain ⟨cq107, kq107, q107a, q107b, q107c⟩ := isOf hZ e106q E1
      obtain ⟨_, _, ⟨T107, L107, k107, n107⟩, -, X107, ⟨Lc107, hQ107, l107, y107, z107⟩, st107⟩ := X106.virtualBack hx (y := (⟨"java/lang/String", "charAt", "(I)C"⟩ : MethodName)) (z := (⟨"java/lang/String", "charAt", "(I)C"⟩ : MethodName)) hown (mvT hZ (ow hw 57 rfl)) (mvT hZ (ow hw 58 rfl)) (notFace_of_selects (args := #[]) (mvT hZ (ow hw 60 rfl))) (mvT hZ (ow hw 60 rfl)) (mvT hZ (ow hw 59 rfl)) (by decide) (backOf (W := 0) (rmCA_0 l Z a0 hw [] a1 t1 kb (3 : Int32) _ (1 : Int32) c1 ccs vF h0 n0 Z0 E1 F1 F2 V2 (by decide) (by decide) rfl hu1 hn1 O0 G) hZ (ow hw 61 rfl) (ow hw 4 rfl) (by decide) (by decide)) q107a q107c (g := (mkF m 29 #[rv a1, iv lg, iv (1 : Int32), iv c0] [(.int (1 : Int32)), (.ref a1)])) rfl (by rw [hml]; rfl) (Steps.refl _) (argsL := [(.int (1 : Int32))]) (rest := []) (lenOf pd_6 rfl) rfl (by show 2 * 0 + _ ≤ _; exact Nat.le_of_eq rfl) (hb hby d4_29) (fun _ _ => ⟨rfl, e106q, (by decide : 0 + 0 ≤ _), (by decide : 0 + 0 ≤ _)⟩)
      dsimp only [Pt.U, Pt.locs, Pt.cells, Pt.slots] at X107 l107 y107 z107 st107 hQ107
      rw [l107, y107, z107] at X107
      replace X107 : Stand p l e _ _ m _ below meth c T107 _ 0 0 := X107
      obtain ⟨rfl, N107q, e107q⟩ := hQ107
      have N107 := Fr.app N106 N107q
      refine Go.tr st107 ?_
      show Go p e below _ (T107.setTop (mkF m 32 #[rv a1, iv lg, iv (1 : Int32), iv c0] [(.int c1)]))
      refine Go.via (fun _ => XS.istoreN X107.here hx rfl (hb hby d4_32) rfl (l' := #[rv a1, iv lg, iv (1 : Int32), iv c1]) rfl) ?_
      have nx1 : ∀ (T' : State) (L' : List Loc), Stand p l e (rmm 5 0 0 130) s m #[(.ref a1), (.int lg)] below meth c T' L' 0 0 → T'.heap = h0 → Fr n0 L' → ¬ (okF c1 = (0 : Int32)) → Go p e below (FinE s below (QN3 Z lg c0 c1 c2 h0 n0) (rmm 5 0 0 130).cells (rmm 5 0 0 130).slots) (T'.setTop (mkF m 79 #[rv a1, iv lg, iv (1 : Int32), iv c1] [])) := by
        intro Tn1 Ln1 Xn1 en1 Nn1 hok1
        refine Go.via (fun _ => XS.iinc Xn1.here hx rfl (hb hby d4_79) rfl (l' := #[rv a1, iv lg, iv (2 : Int32), iv c1]) rfl) ?_
        refine Go.via (fun _ => XS.goto Xn1.here hx rfl (pc0 := 82) (pc' := 19) rfl (hb hby d4_82) (by decide) (by decide)) ?_
        refine Go.via (fun _ => XS.iloadN Xn1.here hx rfl (hb hby d4_19) rfl) ?_
        refine Go.via (fun _ => XS.aloadN Xn1.here hx rfl (hb hby d4_20) rfl rfl) ?_
        show Go p e below _ (Tn1.setTop (mkF m 21 #[rv a1, iv lg, iv (2 : Int32), iv c1] [(.ref a1), (.int (2 : Int32))]))
        obtain ⟨cq108, kq108, q108a, q108b, q108c⟩ := isOf hZ en1 E1
        obtain ⟨_, _, ⟨T108, L108, k108, n108⟩, -, X108, ⟨Lc108, hQ108, l108, y108, z108⟩, st108⟩ := Xn1.virtualBack hx (y := (⟨"java/lang/String", "length", "()I"⟩ : MethodName)) (z := (⟨"java/lang/String", "length", "()I"⟩ : MethodName)) hown (mvT hZ (ow hw 47 rfl)) (mvT hZ (ow hw 48 rfl)) (notFace_of_selects (args := #[]) (mvT hZ (ow hw 50 rfl))) (mvT hZ (ow hw 50 rfl)) (mvT hZ (ow hw 49 rfl)) (by decide) (backOf (W := 1) (rmLen_3 l Z a0 hw [] a1 t1 kb _ ccs vF h0 n0 Z0 E1 F1 F2 V2 O0 G) hZ (ow hw 51 rfl) (ow hw 4 rfl) (by decide) (by decide)) q108a q108c (g := (mkF m 21 #[rv a1, iv lg, iv (2 : Int32), iv c1] [(.ref a1), (.int (2 : Int32))])) rfl (by rw [hml]; rfl) (Steps.refl _) (argsL := []) (rest := [(.int (2 : Int32))]) (lenOf pd_5 rfl) rfl (by show 2 * 0 + _ ≤ _; exact Nat.le_of_eq rfl) (hb hby d4_21) (fun _ _ => ⟨rfl, en1, (by decide : 0 + 0 ≤ _), (by decide : 0 + 0 ≤ _)⟩)
        dsimp only [Pt.U, Pt.locs, Pt.cells, Pt.slots] at X108 l108 y108 z108 st108 hQ108
        rw [l108, y108, z108] at X108
        replace X108 : Stand p l e _ _ m _ below meth c T108 _ 0 0 := X108
        obtain ⟨rfl, N108q, e108q⟩ := hQ108
        have N108 := Fr.app Nn1 N108q
        refine Go.tr st108 ?_
        refine Go.via (fun _ => XS.icmpNo X108.here hx rfl (hb hby d4_24) rfl (by decide)) ?_
        refine Go.via (fun _ => XS.aloadN X108.here hx rfl (hb hby d4_27) rfl rfl) ?_
        refine Go.via (fun _ => XS.iloadN X108.here hx rfl (hb hby d4_28) rfl) ?_
        obtain ⟨cq109, kq109, q109a, q109b, q109c⟩ := isOf hZ e108q E1
        obtain ⟨_, _, ⟨T109, L109, k109, n109⟩, -, X109, ⟨Lc109, hQ109, l109, y109, z109⟩, st109⟩ := X108.virtualBack hx (y := (⟨"java/lang/String", "charAt", "(I)C"⟩ : MethodName)) (z := (⟨"java/lang/String", "charAt", "(I)C"⟩ : MethodName)) hown (mvT hZ (ow hw 57 rfl)) (mvT hZ (ow hw 58 rfl)) (notFace_of_selects (args := #[]) (mvT hZ (ow hw 60 rfl))) (mvT hZ (ow hw 60 rfl)) (mvT hZ (ow hw 59 rfl)) (by decide) (backOf (W := 0) (rmCA_0 l Z a0 hw [] a1 t1 kb (3 : Int32) _ (2 : Int32) c2 ccs vF h0 n0 Z0 E1 F1 F2 V2 (by decide) (by decide) rfl hu2 hn2 O0 G) hZ (ow hw 61 rfl) (ow hw 4 rfl) (by decide) (by decide)) q109a q109c (g := (mkF m 29 #[rv a1, iv lg, iv (2 : Int32), iv c1] [(.int (2 : Int32)), (.ref a1)])) rfl (by rw [hml]; rfl) (Steps.refl _) (argsL := [(.int (2 : Int32))]) (rest := []) (lenOf pd_6 rfl) rfl (by show 2 * 0 + _ ≤ _; exact Nat.le_of_eq rfl) (hb hby d4_29) (fun _ _ => ⟨rfl, e108q, (by decide : 0 + 0 ≤ _), (by decide : 0 + 0 ≤ _)⟩)
        dsimp only [Pt.U, Pt.locs, Pt.cells, Pt.slots] at X109 l109 y109 z109 st109 hQ109
        rw [l109, y109, z109] at X109
        replace X109 : Stand p l e _ _ m _ below meth c T109 _ 0 0 := X109
        obtain ⟨rfl, N109q, e109q⟩ := hQ109
        have N109 := Fr.app N108 N109q
        refine Go.tr st109 ?_
        refine Go.via (fun _ => XS.istoreN X109.here hx rfl (hb hby d4_32) rfl (l' := #[rv a1, iv lg, iv (2 : Int32), iv c2]) rfl) ?_
        show Go p e below _ (T109.setTop (mkF m 33 #[rv a1, iv lg, iv (2 : Int32), iv c2] []))
        have nx2 : ∀ (T' : State) (L' : List Loc), Stand p l e (rmm 5 0 0 130) s m #[(.ref a1), (.int lg)] below meth c T' L' 0 0 → T'.heap = h0 → Fr n0 L' → ¬ (okF c2 = (0 : Int32)) → Go p e below (FinE s below (QN3 Z lg c0 c1 c2 h0 n0) (rmm 5 0 0 130).cells (rmm 5 0 0 130).slots) (T'.setTop (mkF m 79 #[rv a1, iv lg, iv (2 : Int32), iv c2] [])) := by
          intro Tn2 Ln2 Xn2 en2 Nn2 hok2
          refine Go.via (fun _ => XS.iinc Xn2.here hx rfl (hb hby d4_79) rfl (l' := #[rv a1, iv lg, iv (3 : Int32), iv c2]) rfl) ?_
          refine Go.via (fun _ => XS.goto Xn2.here hx rfl (pc0 := 82) (pc' := 19) rfl (hb hby d4_82) (by decide) (by decide)) ?_
          refine Go.via (fun _ => XS.iloadN Xn2.here hx rfl (hb hby d4_19) rfl) ?_
          refine Go.via (fun _ => XS.aloadN Xn2.here hx rfl (hb hby d4_20) rfl rfl) ?_
          obtain ⟨cq110, kq110, q110a, q110b, q110c⟩ := isOf hZ en2 E1
          obtain ⟨_, _, ⟨T110, L110, k110, n110⟩, -, X110, ⟨Lc110, hQ110, l110, y110, z110⟩, st110⟩ := Xn2.virtualBack hx (y := (⟨"java/lang/String", "length", "()I"⟩ : MethodName)) (z := (⟨"java/lang/String", "length", "()I"⟩ : MethodName)) hown (mvT hZ (ow hw 47 rfl)) (mvT hZ (ow hw 48 rfl)) (notFace_of_selects (args := #[]) (mvT hZ (ow hw 50 rfl))) (mvT hZ (ow hw 50 rfl)) (mvT hZ (ow hw 49 rfl)) (by decide) (backOf (W := 1) (rmLen_3 l Z a0 hw [] a1 t1 kb _ ccs vF h0 n0 Z0 E1 F1 F2 V2 O0 G) hZ (ow hw 51 rfl) (ow hw 4 rfl) (by decide) (by decide)) q110a q110c (g := (mkF m 21 #[rv a1, iv lg, iv (3 : Int32), iv c2] [(.ref a1), (.int (3 : Int32))])) rfl (by rw [hml]; rfl) (Steps.refl _) (argsL := []) (rest := [(.int (3 : Int32))]) (lenOf pd_5 rfl) rfl (by show 2 * 0 + _ ≤ _; exact Nat.le_of_eq rfl) (hb hby d4_21) (fun _ _ => ⟨rfl, en2, (by decide : 0 + 0 ≤ _), (by decide : 0 + 0 ≤ _)⟩)
          dsimp only [Pt.U, Pt.locs, Pt.cells, Pt.slots] at X110 l110 y110 z110 st110 hQ110
          rw [l110, y110, z110] at X110
          replace X110 : Stand p l e _ _ m _ below meth c T110 _ 0 0 := X110
          obtain ⟨rfl, N110q, e110q⟩ := hQ110
          have N110 := Fr.app Nn2 N110q
          refine Go.tr st110 ?_
          show Go p e below _ (T110.setTop (mkF m 24 #[rv a1, iv lg, iv (3 : Int32), iv c2] [(.int (3 : Int32)), (.int (3 : Int32))]))
          refine Go.via (fun _ => XS.icmpYes X110.here hx rfl (pc0 := 24) (pc' := 85) rfl (hb hby d4_24) rfl (by decide) (by decide) (by decide)) ?_
          refine Go.via (fun _ => XS.iconst X110.here hx rfl (hb hby d4_85)) ?_
          exact own_retN X110 hx hlk (t := .boolean) Bd.returns (by simp) (hb hby d4_86) (by show QN3 Z lg c0 c1 c2 h0 n0 _ T110.heap _; rw [e110q]; exact ⟨by simp [nm3, nar, hc103, hok0, hok1, hok2], N110, rfl⟩) (by decide) (by decide)
        refine Go.via (fun _ => XS.iloadN X109.here hx rfl (hb hby d4_33) rfl) ?_
        obtain ⟨_, _, ⟨T111, L111, k111, n111⟩, -, X111, ⟨Lc111, hQ111, l111, y111, z111⟩, st111⟩ := Jvm.LawKit.callS X109 hx (y := (⟨"com/example/timed_cap/timedcap/model/Names", "isLowerCase", "(C)Z"⟩ : MethodName)) hown (mvT hZ (ow hw 79 rfl)) (mvT hZ (ow hw 80 rfl)) (mvT hZ (ow hw 25 rfl)) (mvT hZ (ow hw 81 rfl)) (by decide) (backOf (W := 0) (rm_isLowerCase l Z a0 hw [] c2 h0 n0 Z0) hZ (ow hw 81 rfl) (ow hw 25 rfl) (by decide) (by decide)) (g := (mkF m 34 #[rv a1, iv lg, iv (2 : Int32), iv c2] [(.int c2)])) rfl (by rw [hml]; rfl) (argsL := [(.int c2)]) (rest := []) (lenOf pd_7 rfl) rfl (by show 2 * 0 + _ ≤ _; exact Nat.le_of_eq rfl) (hb hby d4_34) (fun _ _ => ⟨rfl, e109q, (by decide : 0 + 0 ≤ _), (by decide : 0 + 0 ≤ _)⟩)
        dsimp only [Pt.U, Pt.locs, Pt.cells, Pt.slots] at X111 l111 y111 z111 st111 hQ111
        rw [l111, y111, z111] at X111
        replace X111 : Stand p l e _ _ m _ below meth c T111 _ 0 0 := X111
        obtain ⟨rfl, N111q, e111q⟩ := hQ111
        have N111 := Fr.app N109 N111q
        refine Go.via st111 ?_
        by_cases hc112 : (loF c2) = (0 : Int32)
        · -- yes
          refine Go.via (fun _ => XS.ifNo X111.here hx rfl (hb hby d4_37) rfl ((if0 _ _).trans (teq hc112).2)) ?_
          refine Go.via (fun _ => XS.iloadN X111.here hx rfl (hb hby d4_40) rfl) ?_
          show Go p e below _ (T111.setTop (mkF m 41 #[rv a1, iv lg, iv (2 : Int32), iv c2] [(.int c2)]))
          refine Go.via (fun _ => XS.bipush X111.here hx rfl (hb hby d4_41)) ?_
          by_cases hc113 : c2 < (65 : Int32)
          · -- yes
            refine Go.via (fun _ => XS.icmpYes X111.here hx rfl (pc0 := 43) (pc' := 52) rfl (hb hby d4_43) rfl (tlt hc113).1 (by decide) (by decide)) ?_
            refine Go.via (fun _ => XS.iloadN X111.here hx rfl (hb hby d4_52) rfl) ?_
            obtain ⟨_, _, ⟨T114, L114, k114, n114⟩, -, X114, ⟨Lc114, hQ114, l114, y114, z114⟩, st114⟩ := Jvm.LawKit.callS X111 hx (y := (⟨"com/example/timed_cap/timedcap/model/Names", "isDigit", "(C)Z"⟩ : MethodName)) hown (mvT hZ (ow hw 82 rfl)) (mvT hZ (ow hw 83 rfl)) (mvT hZ (ow hw 25 rfl)) (mvT hZ (ow hw 84 rfl)) (by decide) (backOf (W := 0) (rm_isDigit l Z a0 hw [] c2 h0 n0 Z0) hZ (ow hw 84 rfl) (ow hw 25 rfl) (by decide) (by decide)) (g := (mkF m 53 #[rv a1, iv lg, iv (2 : Int32), iv c2] [(.int c2)])) rfl (by rw [hml]; rfl) (argsL := [(.int c2)]) (rest := []) (lenOf pd_7 rfl) rfl (by show 2 * 0 + _ ≤ _; exact Nat.le_of_eq rfl) (hb hby d4_53) (fun _ _ => ⟨rfl, e111q, (by decide : 0 + 0 ≤ _), (by decide : 0 + 0 ≤ _)⟩)
            dsimp only [Pt.U, Pt.locs, Pt.cells, Pt.slots] at X114 l114 y114 z114 st114 hQ114
            rw [l114, y114, z114] at X114
            replace X114 : Stand p l e _ _ m _ below meth c T114 _ 0 0 := X114
            obtain ⟨rfl, N114q, e114q⟩ := hQ114
            have N114 := Fr.app N111 N114q
            refine Go.via st114 ?_
            show Go p e below _ (T114.setTop (mkF m 56 #[rv a1, iv lg, iv (2 : Int32), iv c2] [(.int (dgF c2))]))
            by_cases hc115 : (dgF c2) = (0 : Int32)
            · -- yes
              refine Go.via (fun _ => XS.ifNo X114.here hx rfl (hb hby d4_56) rfl ((if0 _ _).trans (teq hc115).2)) ?_
              refine Go.via (fun _ => XS.iloadN X114.here hx rfl (hb hby d4_59) rfl) ?_
              refine Go.via (fun _ => XS.bipush X114.here hx rfl (hb hby d4_60)) ?_
              by_cases hc116 : c2 = (46 : Int32)
              · -- yes
                show Go p e below _ (T114.setTop (mkF m 62 #[rv a1, iv lg, iv (2 : Int32), iv c2] [(.int (46 : Int32)), (.int c2)]))
                refine Go.via (fun _ => XS.icmpYes X114.here hx rfl (pc0 := 62) (pc' := 79) rfl (hb hby d4_62) rfl (teq hc116).1 (by decide) (by decide)) ?_
                exact nx2 _ _ X114 e114q N114 (by simp [okF, hc112, hc113, hc115, hc116])
              · -- no
                show Go p e below _ (T114.setTop (mkF m 62 #[rv a1, iv lg, iv (2 : Int32), iv c2] [(.int (46 : Int32)), (.int c2)]))
                refine Go.via (fun _ => XS.icmpNo X114.here hx rfl (hb hby d4_62) rfl (feq hc116).1) ?_
                refine Go.via (fun _ => XS.iloadN X114.here hx rfl (hb hby d4_65) rfl) ?_
                refine Go.via (fun _ => XS.bipush X114.here hx rfl (hb hby d4_66)) ?_
                by_cases hc117 : c2 = (95 : Int32)
                · -- yes
                  show Go p e below _ (T114.setTop (mkF m 68 #[rv a1, iv lg, iv (2 : Int32), iv c2] [(.int (95 : Int32)), (.int c2)]))
                  refine Go.via (fun _ => XS.icmpYes X114.here hx rfl (pc0 := 68) (pc' := 79) rfl (hb hby d4_68) rfl (teq hc117).1 (by decide) (by decide)) ?_
                  exact nx2 _ _ X114 e114q N114 (by simp [okF, hc112, hc113, hc115, hc116, hc117])
                · -- no
                  show Go p e below _ (T114.setTop (mkF m 68 #[rv a1, iv lg, iv (2 : Int32), iv c2] [(.int (95 : Int32)), (.int c2)]))
                  refine Go.via (fun _ => XS.icmpNo X114.here hx rfl (hb hby d4_68) rfl (feq hc117).1) ?_
                  refine Go.via (fun _ => XS.iloadN X114.here hx rfl (hb hby d4_71) rfl) ?_
                  refine Go.via (fun _ => XS.bipush X114.here hx rfl (hb hby d4_72)) ?_
                  by_cases hc118 : c2 = (45 : Int32)
                  · -- yes
                    refine Go.via (fun _ => XS.icmpYes X114.here hx rfl (pc0 := 74) (pc' := 79) rfl (hb hby d4_74) rfl (teq hc118).1 (by decide) (by decide)) ?_
                    show Go p e below _ (T114.setTop (mkF m 79 #[rv a1, iv lg, iv (2 : Int32), iv c2] []))
                    exact nx2 _ _ X114 e114q N114 (by simp [okF, hc112, hc113, hc115, hc116, hc117, hc118])
                  · -- no
                    refine Go.via (fun _ => XS.icmpNo X114.here hx rfl (hb hby d4_74) rfl (feq hc118).1) ?_
                    show Go p e below _ (T114.setTop (mkF m 77 #[rv a1, iv lg, iv (2 : Int32), iv c2] []))
                    refine Go.via (fun _ => XS.iconst X114.here hx rfl (hb hby d4_77)) ?_
                    have hz : okF c2 = (0 : Int32) := by simp [okF, hc112, hc113, hc115, hc116, hc117, hc118]
                    exact own_retN X114 hx hlk (t := .boolean) Bd.returns (by simp) (hb hby d4_78) (by show QN3 Z lg c0 c1 c2 h0 n0 _ T114.heap _; rw [e114q]; exact ⟨by simp [nm3, nar, hz, hc103, hok0, hok1], N114, rfl⟩) (by decide) (by decide)
            · -- no
              refine Go.via (fun _ => XS.ifYes X114.here hx rfl (pc0 := 56) (pc' := 79) rfl (hb hby d4_56) rfl ((if0 _ _).trans (feq hc115).2) (by decide) (by decide)) ?_
              exact nx2 _ _ X114 e114q N114 (by simp [okF, hc112, hc113, hc115])
          · -- no
            refine Go.via (fun _ => XS.icmpNo X111.here hx rfl (hb hby d4_43) rfl (flt hc113).1) ?_
            refine Go.via (fun _ => XS.iloadN X111.here hx rfl (hb hby d4_46) rfl) ?_
            refine Go.via (fun _ => XS.bipush X111.here hx rfl (hb hby d4_47)) ?_
            show Go p e below _ (T111.setTop (mkF m 49 #[rv a1, iv lg, iv (2 : Int32), iv c2] [(.int (90 : Int32)), (.int c2)]))
            by_cases hc119 : (90 : Int32) < c2
            · -- yes
              refine Go.via (fun _ => XS.icmpNo X111.here hx rfl (hb hby d4_49) rfl (tlt hc119).2.2.2) ?_
              refine Go.via (fun _ => XS.iloadN X111.here hx rfl (hb hby d4_52) rfl) ?_
              obtain ⟨_, _, ⟨T120, L120, k120, n120⟩, -, X120, ⟨Lc120, hQ120, l120, y120, z120⟩, st120⟩ := Jvm.LawKit.callS X111 hx (y := (⟨"com/example/timed_cap/timedcap/model/Names", "isDigit", "(C)Z"⟩ : MethodName)) hown (mvT hZ (ow hw 82 rfl)) (mvT hZ (ow hw 83 rfl)) (mvT hZ (ow hw 25 rfl)) (mvT hZ (ow hw 84 rfl)) (by decide) (backOf (W := 0) (rm_isDigit l Z a0 hw [] c2 h0 n0 Z0) hZ (ow hw 84 rfl) (ow hw 25 rfl) (by decide) (by decide)) (g := (mkF m 53 #[rv a1, iv lg, iv (2 : Int32), iv c2] [(.int c2)])) rfl (by rw [hml]; rfl) (argsL := [(.int c2)]) (rest := []) (lenOf pd_7 rfl) rfl (by show 2 * 0 + _ ≤ _; exact Nat.le_of_eq rfl) (hb hby d4_53) (fun _ _ => ⟨rfl, e111q, (by decide : 0 + 0 ≤ _), (by decide : 0 + 0 ≤ _)⟩)
              dsimp only [Pt.U, Pt.locs, Pt.cells, Pt.slots] at X120 l120 y120 z120 st120 hQ120
              rw [l120, y120, z120] at X120
              replace X120 : Stand p l e _ _ m _ below meth c T120 _ 0 0 := X120
              obtain ⟨rfl, N120q, e120q⟩ := hQ120
              have N120 := Fr.app N111 N120q
              refine Go.via st120 ?_
              by_cases hc121 : (dgF c2) = (0 : Int32)
              · -- yes
                show Go p e below _ (T120.setTop (mkF m 56 #[rv a1, iv lg, iv (2 : Int32), iv c2] [(.int (dgF c2))]))
                refine Go.via (fun _ => XS.ifNo X120.here hx rfl (hb hby d4_56) rfl ((if0 _ _).trans (teq hc121).2)) ?_
                refine Go.via (fun _ => XS.iloadN X120.here hx rfl (hb hby d4_59) rfl) ?_
                refine Go.via (fun _ => XS.bipush X120.here hx rfl (hb hby d4_60)) ?_
                by_cases hc122 : c2 = (46 : Int32)
                · -- yes
                  show Go p e below _ (T120.setTop (mkF m 62 #[rv a1, iv lg, iv (2 : Int32), iv c2] [(.int (46 : Int32)), (.int c2)]))
                  refine Go.via (fun _ => XS.icmpYes X120.here hx rfl (pc0 := 62) (pc' := 79) rfl (hb hby d4_62) rfl (teq hc122).1 (by decide) (by decide)) ?_
                  exact nx2 _ _ X120 e120q N120 (by simp [okF, hc112, hc113, hc119, hc121, hc122])
                · -- no
                  show Go p e below _ (T120.setTop (mkF m 62 #[rv a1, iv lg, iv (2 : Int32), iv c2] [(.int (46 : Int32)), (.int c2)]))
                  refine Go.via (fun _ => XS.icmpNo X120.here hx rfl (hb hby d4_62) rfl (feq hc122).1) ?_
                  refine Go.via (fun _ => XS.iloadN X120.here hx rfl (hb hby d4_65) rfl) ?_
                  refine Go.via (fun _ => XS.bipush X120.here hx rfl (hb hby d4_66)) ?_
                  by_cases hc123 : c2 = (95 : Int32)
                  · -- yes
                    refine Go.via (fun _ => XS.icmpYes X120.here hx rfl (pc0 := 68) (pc' := 79) rfl (hb hby d4_68) rfl (teq hc123).1 (by decide) (by decide)) ?_
                    show Go p e below _ (T120.setTop (mkF m 79 #[rv a1, iv lg, iv (2 : Int32), iv c2] []))
                    exact nx2 _ _ X120 e120q N120 (by simp [okF, hc112, hc113, hc119, hc121, hc122, hc123])
                  · -- no
                    refine Go.via (fun _ => XS.icmpNo X120.here hx rfl (hb hby d4_68) rfl (feq hc123).1) ?_
                    show Go p e below _ (T120.setTop (mkF m 71 #[rv a1, iv lg, iv (2 : Int32), iv c2] []))
                    refine Go.via (fun _ => XS.iloadN X120.here hx rfl (hb hby d4_71) rfl) ?_
                    refine Go.via (fun _ => XS.bipush X120.here hx rfl (hb hby d4_72)) ?_
                    by_cases hc124 : c2 = (45 : Int32)
                    · -- yes
                      refine Go.via (fun _ => XS.icmpYes X120.here hx rfl (pc0 := 74) (pc' := 79) rfl (hb hby d4_74) rfl (teq hc124).1 (by decide) (by decide)) ?_
                      exact nx2 _ _ X120 e120q N120 (by simp [okF, hc112, hc113, hc119, hc121, hc122, hc123, hc124])
                    · -- no
                      refine Go.via (fun _ => XS.icmpNo X120.here hx rfl (hb hby d4_74) rfl (feq hc124).1) ?_
                      refine Go.via (fun _ => XS.iconst X120.here hx rfl (hb hby d4_77)) ?_
                      show Go p e below _ (T120.setTop (mkF m 78 #[rv a1, iv lg, iv (2 : Int32), iv c2] [(.int (0 : Int32))]))
                      have hz : okF c2 = (0 : Int32) := by simp [okF, hc112, hc113, hc119, hc121, hc122, hc123, hc124]
                      exact own_retN X120 hx hlk (t := .boolean) Bd.returns (by simp) (hb hby d4_78) (by show QN3 Z lg c0 c1 c2 h0 n0 _ T120.heap _; rw [e120q]; exact ⟨by simp [nm3, nar, hz, hc103, hok0, hok1], N120, rfl⟩) (by decide) (by decide)
              · -- no
                show Go p e below _ (T120.setTop (mkF m 56 #[rv a1, iv lg, iv (2 : Int32), iv c2] [(.int (dgF c2))]))
                refine Go.via (fun _ => XS.ifYes X120.here hx rfl (pc0 := 56) (pc' := 79) rfl (hb hby d4_56) rfl ((if0 _ _).trans (feq hc121).2) (by decide) (by decide)) ?_
                exact nx2 _ _ X120 e120q N120 (by simp [okF, hc112, hc113, hc119, hc121])
            · -- no
              refine Go.via (fun _ => XS.icmpYes X111.here hx rfl (pc0 := 49) (pc' := 79) rfl (hb hby d4_49) rfl (flt hc119).2.2.2 (by decide) (by decide)) ?_
              exact nx2 _ _ X111 e111q N111 (by simp [okF, hc112, hc113, hc119])
        · -- no
          refine Go.via (fun _ => XS.ifYes X111.here hx rfl (pc0 := 37) (pc' := 79) rfl (hb hby d4_37) rfl ((if0 _ _).trans (feq hc112).2) (by decide) (by decide)) ?_
          exact nx2 _ _ X111 e111q N111 (by simp [okF, hc112])
      refine Go.via (fun _ => XS.iloadN X107.here hx rfl (hb hby d4_33) rfl) ?_
      obtain ⟨_, _, ⟨T125, L125, k125, n125⟩, -, X125, ⟨Lc125, hQ125, l125, y125, z125⟩, st125⟩ := Jvm.LawKit.callS X107 hx (y := (⟨"com/example/timed_cap/timedcap/model/Names", "isLowerCase", "(C)Z"⟩ : MethodName)) hown (mvT hZ (ow hw 79 rfl)) (mvT hZ (ow hw 80 rfl)) (mvT hZ (ow hw 25 rfl)) (mvT hZ (ow hw 81 rfl)) (by decide) (backOf (W := 0) (rm_isLowerCase l Z a0 hw [] c1 h0 n0 Z0) hZ (ow hw 81 rfl) (ow hw 25 rfl) (by decide) (by decide)) (g := (mkF m 34 #[rv a1, iv lg, iv (1 : Int32), iv c1] [(.int c1)])) rfl (by rw [hml]; rfl) (argsL := [(.int c1)]) (rest := []) (lenOf pd_7 rfl) rfl (by show 2 * 0 + _ ≤ _; exact Nat.le_of_eq rfl) (hb hby d4_34) (fun _ _ => ⟨rfl, e107q, (by decide : 0 + 0 ≤ _), (by decide : 0 + 0 ≤ _)⟩)
      dsimp only [Pt.U, Pt.locs, Pt.cells, Pt.slots] at X125 l125 y125 z125 st125 hQ125
      rw [l125, y125, z125] at X125
      replace X125 : Stand p l e _ _ m _ below meth c T125 _ 0 0 := X125
      obtain ⟨rfl, N125q, e125q⟩ := hQ125
      have N125 := Fr.app N107 N125q
      refine Go.via st125 ?_
      by_cases hc126 : (loF c1) = (0 : Int32)
      · -- yes
        refine Go.via (fun _ => XS.ifNo X125.here hx rfl (hb hby d4_37) rfl ((if0 _ _).trans (teq hc126).2)) ?_
        show Go p e below _ (T125.setTop (mkF m 40 #[rv a1, iv lg, iv (1 : Int32), iv c1] []))
        refine Go.via (fun _ => XS.iloadN X125.here hx rfl (hb hby d4_40) rfl) ?_
        refine Go.via (fun _ => XS.bipush X125.here hx rfl (hb hby d4_41)) ?_
        by_cases hc127 : c1 < (65 : Int32)
        · -- yes
          refine Go.via (fun _ => XS.icmpYes X125.here hx rfl (pc0 := 43) (pc' := 52) rfl (hb hby d4_43) rfl (tlt hc127).1 (by decide) (by decide)) ?_
          refine Go.via (fun _ => XS.iloadN X125.here hx rfl (hb hby d4_52) rfl) ?_
          show Go p e below _ (T125.setTop (mkF m 53 #[rv a1, iv lg, iv (1 : Int32), iv c1] [(.int c1)]))
          obtain ⟨_, _, ⟨T128, L128, k128, n128⟩, -, X128, ⟨Lc128, hQ128, l128, y128, z128⟩, st128⟩ := Jvm.LawKit.callS X125 hx (y := (⟨"com/example/timed_cap/timedcap/model/Names", "isDigit", "(C)Z"⟩ : MethodName)) hown (mvT hZ (ow hw 82 rfl)) (mvT hZ (ow hw 83 rfl)) (mvT hZ (ow hw 25 rfl)) (mvT hZ (ow hw 84 rfl)) (by decide) (backOf (W := 0) (rm_isDigit l Z a0 hw [] c1 h0 n0 Z0) hZ (ow hw 84 rfl) (ow hw 25 rfl) (by decide) (by decide)) (g := (mkF m 53 #[rv a1, iv lg, iv (1 : Int32), iv c1] [(.int c1)])) rfl (by rw [hml]; rfl) (argsL := [(.int c1)]) (rest := []) (lenOf pd_7 rfl) rfl (by show 2 * 0 + _ ≤ _; exact Nat.le_of_eq rfl) (hb hby d4_53) (fun _ _ => ⟨rfl, e125q, (by decide : 0 + 0 ≤ _), (by decide : 0 + 0 ≤ _)⟩)
          dsimp only [Pt.U, Pt.locs, Pt.cells, Pt.slots] at X128 l128 y128 z128 st128 hQ128
          rw [l128, y128, z128] at X128
          replace X128 : Stand p l e _ _ m _ below meth c T128 _ 0 0 := X128
          obtain ⟨rfl, N128q, e128q⟩ := hQ128
          have N128 := Fr.app N125 N128q
          refine Go.via st128 ?_
          by_cases hc129 : (dgF c1) = (0 : Int32)
          · -- yes
            refine Go.via (fun _ => XS.ifNo X128.here hx rfl (hb hby d4_56) rfl ((if0 _ _).trans (teq hc129).2)) ?_
            refine Go.via (fun _ => XS.iloadN X128.here hx rfl (hb hby d4_59) rfl) ?_
            refine Go.via (fun _ => XS.bipush X128.here hx rfl (hb hby d4_60)) ?_
            show Go p e below _ (T128.setTop (mkF m 62 #[rv a1, iv lg, iv (1 : Int32), iv c1] [(.int (46 : Int32)), (.int c1)]))
            by_cases hc130 : c1 = (46 : Int32)
            · -- yes
              refine Go.via (fun _ => XS.icmpYes X128.here hx rfl (pc0 := 62) (pc' := 79) rfl (hb hby d4_62) rfl (teq hc130).1 (by decide) (by decide)) ?_
              exact nx1 _ _ X128 e128q N128 (by simp [okF, hc126, hc127, hc129, hc130])
            · -- no
              refine Go.via (fun _ => XS.icmpNo X128.here hx rfl (hb hby d4_62) rfl (feq hc130).1) ?_
              refine Go.via (fun _ => XS.iloadN X128.here hx rfl (hb hby d4_65) rfl) ?_
              refine Go.via (fun _ => XS.bipush X128.here hx rfl (hb hby d4_66)) ?_
              by_cases hc131 : c1 = (95 : Int32)
              · -- yes
                show Go p e below _ (T128.setTop (mkF m 68 #[rv a1, iv lg, iv (1 : Int32), iv c1] [(.int (95 : Int32)), (.int c1)]))
                refine Go.via (fun _ => XS.icmpYes X128.here hx rfl (pc0 := 68) (pc' := 79) rfl (hb hby d4_68) rfl (teq hc131).1 (by decide) (by decide)) ?_
                exact nx1 _ _ X128 e128q N128 (by simp [okF, hc126, hc127, hc129, hc130, hc131])
              · -- no
                show Go p e below _ (T128.setTop (mkF m 68 #[rv a1, iv lg, iv (1 : Int32), iv c1] [(.int (95 : Int32)), (.int c1)]))
                refine Go.via (fun _ => XS.icmpNo X128.here hx rfl (hb hby d4_68) rfl (feq hc131).1) ?_
                refine Go.via (fun _ => XS.iloadN X128.here hx rfl (hb hby d4_71) rfl) ?_
                refine Go.via (fun _ => XS.bipush X128.here hx rfl (hb hby d4_72)) ?_
                by_cases hc132 : c1 = (45 : Int32)
                · -- yes
                  show Go p e below _ (T128.setTop (mkF m 74 #[rv a1, iv lg, iv (1 : Int32), iv c1] [(.int (45 : Int32)), (.int c1)]))
                  refine Go.via (fun _ => XS.icmpYes X128.here hx rfl (pc0 := 74) (pc' := 79) rfl (hb hby d4_74) rfl (teq hc132).1 (by decide) (by decide)) ?_
                  exact nx1 _ _ X128 e128q N128 (by simp [okF, hc126, hc127, hc129, hc130, hc131, hc132])
                · -- no
                  show Go p e below _ (T128.setTop (mkF m 74 #[rv a1, iv lg, iv (1 : Int32), iv c1] [(.int (45 : Int32)), (.int c1)]))
                  refine Go.via (fun _ => XS.icmpNo X128.here hx rfl (hb hby d4_74) rfl (feq hc132).1) ?_
                  refine Go.via (fun _ => XS.iconst X128.here hx rfl (hb hby d4_77)) ?_
                  have hz : okF c1 = (0 : Int32) := by simp [okF, hc126, hc127, hc129, hc130, hc131, hc132]
                  exact own_retN X128 hx hlk (t := .boolean) Bd.returns (by simp) (hb hby d4_78) (by show QN3 Z lg c0 c1 c2 h0 n0 _ T128.heap _; rw [e128q]; exact ⟨by simp [nm3, nar, hz, hc103, hok0], N128, rfl⟩) (by decide) (by decide)
          · -- no
            refine Go.via (fun _ => XS.ifYes X128.here hx rfl (pc0 := 56) (pc' := 79) rfl (hb hby d4_56) rfl ((if0 _ _).trans (feq hc129).2) (by decide) (by decide)) ?_
            exact nx1 _ _ X128 e128q N128 (by simp [okF, hc126, hc127, hc129])
        · -- no
          refine Go.via (fun _ => XS.icmpNo X125.here hx rfl (hb hby d4_43) rfl (flt hc127).1) ?_
          refine Go.via (fun _ => XS.iloadN X125.here hx rfl (hb hby d4_46) rfl) ?_
          show Go p e below _ (T125.setTop (mkF m 47 #[rv a1, iv lg, iv (1 : Int32), iv c1] [(.int c1)]))
          refine Go.via (fun _ => XS.bipush X125.here hx rfl (hb hby d4_47)) ?_
          by_cases hc133 : (90 : Int32) < c1
          · -- yes
            refine Go.via (fun _ => XS.icmpNo X125.here hx rfl (hb hby d4_49) rfl (tlt hc133).2.2.2) ?_
            refine Go.via (fun _ => XS.iloadN X125.here hx rfl (hb hby d4_52) rfl) ?_
            obtain ⟨_, _, ⟨T134, L134, k134, n134⟩, -, X134, ⟨Lc134, hQ134, l134, y134, z134⟩, st134⟩ := Jvm.LawKit.callS X125 hx (y := (⟨"com/example/timed_cap/timedcap/model/Names", "isDigit", "(C)Z"⟩ : MethodName)) hown (mvT hZ (ow hw 82 rfl)) (mvT hZ (ow hw 83 rfl)) (mvT hZ (ow hw 25 rfl)) (mvT hZ (ow hw 84 rfl)) (by decide) (backOf (W := 0) (rm_isDigit l Z a0 hw [] c1 h0 n0 Z0) hZ (ow hw 84 rfl) (ow hw 25 rfl) (by decide) (by decide)) (g := (mkF m 53 #[rv a1, iv lg, iv (1 : Int32), iv c1] [(.int c1)])) rfl (by rw [hml]; rfl) (argsL := [(.int c1)]) (rest := []) (lenOf pd_7 rfl) rfl (by show 2 * 0 + _ ≤ _; exact Nat.le_of_eq rfl) (hb hby d4_53) (fun _ _ => ⟨rfl, e125q, (by decide : 0 + 0 ≤ _), (by decide : 0 + 0 ≤ _)⟩)
            dsimp only [Pt.U, Pt.locs, Pt.cells, Pt.slots] at X134 l134 y134 z134 st134 hQ134
            rw [l134, y134, z134] at X134
            replace X134 : Stand p l e _ _ m _ below meth c T134 _ 0 0 := X134
            obtain ⟨rfl, N134q, e134q⟩ := hQ134
            have N134 := Fr.app N125 N134q
            refine Go.via st134 ?_
            show Go p e below _ (T134.setTop (mkF m 56 #[rv a1, iv lg, iv (1 : Int32), iv c1] [(.int (dgF c1))]))
            by_cases hc135 : (dgF c1) = (0 : Int32)
            · -- yes
              refine Go.via (fun _ => XS.ifNo X134.here hx rfl (hb hby d4_56) rfl ((if0 _ _).trans (teq hc135).2)) ?_
              refine Go.via (fun _ => XS.iloadN X134.here hx rfl (hb hby d4_59) rfl) ?_
              refine Go.via (fun _ => XS.bipush X134.here hx rfl (hb hby d4_60)) ?_
              by_cases hc136 : c1 = (46 : Int32)
              · -- yes
                show Go p e below _ (T134.setTop (mkF m 62 #[rv a1, iv lg, iv (1 : Int32), iv c1] [(.int (46 : Int32)), (.int c1)]))
                refine Go.via (fun _ => XS.icmpYes X134.here hx rfl (pc0 := 62) (pc' := 79) rfl (hb hby d4_62) rfl (teq hc136).1 (by decide) (by decide)) ?_
                exact nx1 _ _ X134 e134q N134 (by simp [okF, hc126, hc127, hc133, hc135, hc136])
              · -- no
                show Go p e below _ (T134.setTop (mkF m 62 #[rv a1, iv lg, iv (1 : Int32), iv c1] [(.int (46 : Int32)), (.int c1)]))
                refine Go.via (fun _ => XS.icmpNo X134.here hx rfl (hb hby d4_62) rfl (feq hc136).1) ?_
                refine Go.via (fun _ => XS.iloadN X134.here hx rfl (hb hby d4_65) rfl) ?_
                refine Go.via (fun _ => XS.bipush X134.here hx rfl (hb hby d4_66)) ?_
                by_cases hc137 : c1 = (95 : Int32)
                · -- yes
                  show Go p e below _ (T134.setTop (mkF m 68 #[rv a1, iv lg, iv (1 : Int32), iv c1] [(.int (95 : Int32)), (.int c1)]))
                  refine Go.via (fun _ => XS.icmpYes X134.here hx rfl (pc0 := 68) (pc' := 79) rfl (hb hby d4_68) rfl (teq hc137).1 (by decide) (by decide)) ?_
                  exact nx1 _ _ X134 e134q N134 (by simp [okF, hc126, hc127, hc133, hc135, hc136, hc137])
                · -- no
                  show Go p e below _ (T134.setTop (mkF m 68 #[rv a1, iv lg, iv (1 : Int32), iv c1] [(.int (95 : Int32)), (.int c1)]))
                  refine Go.via (fun _ => XS.icmpNo X134.here hx rfl (hb hby d4_68) rfl (feq hc137).1) ?_
                  refine Go.via (fun _ => XS.iloadN X134.here hx rfl (hb hby d4_71) rfl) ?_
                  refine Go.via (fun _ => XS.bipush X134.here hx rfl (hb hby d4_72)) ?_
                  by_cases hc138 : c1 = (45 : Int32)
                  · -- yes
                    refine Go.via (fun _ => XS.icmpYes X134.here hx rfl (pc0 := 74) (pc' := 79) rfl (hb hby d4_74) rfl (teq hc138).1 (by decide) (by decide)) ?_
                    show Go p e below _ (T134.setTop (mkF m 79 #[rv a1, iv lg, iv (1 : Int32), iv c1] []))
                    exact nx1 _ _ X134 e134q N134 (by simp [okF, hc126, hc127, hc133, hc135, hc136, hc137, hc138])
                  · -- no
                    refine Go.via (fun _ => XS.icmpNo X134.here hx rfl (hb hby d4_74) rfl (feq hc138).1) ?_
                    show Go p e below _ (T134.setTop (mkF m 77 #[rv a1, iv lg, iv (1 : Int32), iv c1] []))
                    refine Go.via (fun _ => XS.iconst X134.here hx rfl (hb hby d4_77)) ?_
                    have hz : okF c1 = (0 : Int32) := by simp [okF, hc126, hc127, hc133, hc135, hc136, hc137, hc138]
                    exact own_retN X134 hx hlk (t := .boolean) Bd.returns (by simp) (hb hby d4_78) (by show QN3 Z lg c0 c1 c2 h0 n0 _ T134.heap _; rw [e134q]; exact ⟨by simp [nm3, nar, hz, hc103, hok0], N134, rfl⟩) (by decide) (by decide)
            · -- no
              refine Go.via (fun _ => XS.ifYes X134.here hx rfl (pc0 := 56) (pc' := 79) rfl (hb hby d4_56) rfl ((if0 _ _).trans (feq hc135).2) (by decide) (by decide)) ?_
              exact nx1 _ _ X134 e134q N134 (by simp [okF, hc126, hc127, hc133, hc135])
          · -- no
            refine Go.via (fun _ => XS.icmpYes X125.here hx rfl (pc0 := 49) (pc' := 79) rfl (hb hby d4_49) rfl (flt hc133).2.2.2 (by decide) (by decide)) ?_
            exact nx1 _ _ X125 e125q N125 (by simp [okF, hc126, hc127, hc133])
      · -- no
        refine Go.via (fun _ => XS.ifYes X125.here hx rfl (pc0 := 37) (pc' := 79) rfl (hb hby d4_37) rfl ((if0 _ _).trans (feq hc126).2) (by decide) (by decide)) ?_
        show Go p e below _ (T125.setTop (mkF m 79 #[rv a1, iv lg, iv (1 : Int32), iv c1] []))
        exact nx1 _ _ X125 e125q N125 (by simp [okF, hc126])
    refine Go.via (fun _ => XS.iloadN X105.here hx rfl (hb hby d4_33) rfl) ?_
    obtain ⟨_, _, ⟨T139, L139, k139, n139⟩, -, X139, ⟨Lc139, hQ139, l139, y139, z139⟩, st139⟩ := Jvm.LawKit.callS X105 hx (y := (⟨"com/example/timed_cap/timedcap/model/Names", "isLowerCase", "(C)Z"⟩ : MethodName)) hown (mvT hZ (ow hw 79 rfl)) (mvT hZ (ow hw 80 rfl)) (mvT hZ (ow hw 25 rfl)) (mvT hZ (ow hw 81 rfl)) (by decide) (backOf (W := 0) (rm_isLowerCase l Z a0 hw [] c0 h0 n0 Z0) hZ (ow hw 81 rfl) (ow hw 25 rfl) (by decide) (by decide)) (g := (mkF m 34 #[rv a1, iv lg, iv (0 : Int32), iv c0] [(.int c0)])) rfl (by rw [hml]; rfl) (argsL := [(.int c0)]) (rest := []) (lenOf pd_7 rfl) rfl (by show 2 * 0 + _ ≤ _; exact Nat.le_of_eq rfl) (hb hby d4_34) (fun _ _ => ⟨rfl, e105q, (by decide : 0 + 0 ≤ _), (by decide : 0 + 0 ≤ _)⟩)
    dsimp only [Pt.U, Pt.locs, Pt.cells, Pt.slots] at X139 l139 y139 z139 st139 hQ139
    rw [l139, y139, z139] at X139
    replace X139 : Stand p l e _ _ m _ below meth c T139 _ 0 0 := X139
    obtain ⟨rfl, N139q, e139q⟩ := hQ139
    have N139 := Fr.app N105 N139q
    refine Go.via st139 ?_
    by_cases hc140 : (loF c0) = (0 : Int32)
    · -- yes
      show Go p e below _ (T139.setTop (mkF m 37 #[rv a1, iv lg, iv (0 : Int32), iv c0] [(.int (loF c0))]))
      refine Go.via (fun _ => XS.ifNo X139.here hx rfl (hb hby d4_37) rfl ((if0 _ _).trans (teq hc140).2)) ?_
      refine Go.via (fun _ => XS.iloadN X139.here hx rfl (hb hby d4_40) rfl) ?_
      refine Go.via (fun _ => XS.bipush X139.here hx rfl (hb hby d4_41)) ?_
      by_cases hc141 : c0 < (65 : Int32)
      · -- yes
        refine Go.via (fun _ => XS.icmpYes X139.here hx rfl (pc0 := 43) (pc' := 52) rfl (hb hby d4_43) rfl (tlt hc141).1 (by decide) (by decide)) ?_
        show Go p e below _ (T139.setTop (mkF m 52 #[rv a1, iv lg, iv (0 : Int32), iv c0] []))
        refine Go.via (fun _ => XS.iloadN X139.here hx rfl (hb hby d4_52) rfl) ?_
        obtain ⟨_, _, ⟨T142, L142, k142, n142⟩, -, X142, ⟨Lc142, hQ142, l142, y142, z142⟩, st142⟩ := Jvm.LawKit.callS X139 hx (y := (⟨"com/example/timed_cap/timedcap/model/Names", "isDigit", "(C)Z"⟩ : MethodName)) hown (mvT hZ (ow hw 82 rfl)) (mvT hZ (ow hw 83 rfl)) (mvT hZ (ow hw 25 rfl)) (mvT hZ (ow hw 84 rfl)) (by decide) (backOf (W := 0) (rm_isDigit l Z a0 hw [] c0 h0 n0 Z0) hZ (ow hw 84 rfl) (ow hw 25 rfl) (by decide) (by decide)) (g := (mkF m 53 #[rv a1, iv lg, iv (0 : Int32), iv c0] [(.int c0)])) rfl (by rw [hml]; rfl) (argsL := [(.int c0)]) (rest := []) (lenOf pd_7 rfl) rfl (by show 2 * 0 + _ ≤ _; exact Nat.le_of_eq rfl) (hb hby d4_53) (fun _ _ => ⟨rfl, e139q, (by decide : 0 + 0 ≤ _), (by decide : 0 + 0 ≤ _)⟩)
        dsimp only [Pt.U, Pt.locs, Pt.cells, Pt.slots] at X142 l142 y142 z142 st142 hQ142
        rw [l142, y142, z142] at X142
        replace X142 : Stand p l e _ _ m _ below meth c T142 _ 0 0 := X142
        obtain ⟨rfl, N142q, e142q⟩ := hQ142
        have N142 := Fr.app N139 N142q
        refine Go.via st142 ?_
        by_cases hc143 : (dgF c0) = (0 : Int32)
        · -- yes
          refine Go.via (fun _ => XS.ifNo X142.here hx rfl (hb hby d4_56) rfl ((if0 _ _).trans (teq hc143).2)) ?_
          refine Go.via (fun _ => XS.iloadN X142.here hx rfl (hb hby d4_59) rfl) ?_
          show Go p e below _ (T142.setTop (mkF m 60 #[rv a1, iv lg, iv (0 : Int32), iv c0] [(.int c0)]))
          refine Go.via (fun _ => XS.bipush X142.here hx rfl (hb hby d4_60)) ?_
          by_cases hc144 : c0 = (46 : Int32)
          · -- yes
            refine Go.via (fun _ => XS.icmpYes X142.here hx rfl (pc0 := 62) (pc' := 79) rfl (hb hby d4_62) rfl (teq hc144).1 (by decide) (by decide)) ?_
            exact nx0 _ _ X142 e142q N142 (by simp [okF, hc140, hc141, hc143, hc144])
          · -- no
            refine Go.via (fun _ => XS.icmpNo X142.here hx rfl (hb hby d4_62) rfl (feq hc144).1) ?_
            refine Go.via (fun _ => XS.iloadN X142.here hx rfl (hb hby d4_65) rfl) ?_
            refine Go.via (fun _ => XS.bipush X142.here hx rfl (hb hby d4_66)) ?_
            show Go p e below _ (T142.setTop (mkF m 68 #[rv a1, iv lg, iv (0 : Int32), iv c0] [(.int (95 : Int32)), (.int c0)]))
            by_cases hc145 : c0 = (95 : Int32)
            · -- yes
              refine Go.via (fun _ => XS.icmpYes X142.here hx rfl (pc0 := 68) (pc' := 79) rfl (hb hby d4_68) rfl (teq hc145).1 (by decide) (by decide)) ?_
              exact nx0 _ _ X142 e142q N142 (by simp [okF, hc140, hc141, hc143, hc144, hc145])
            · -- no
              refine Go.via (fun _ => XS.icmpNo X142.here hx rfl (hb hby d4_68) rfl (feq hc145).1) ?_
              refine Go.via (fun _ => XS.iloadN X142.here hx rfl (hb hby d4_71) rfl) ?_
              refine Go.via (fun _ => XS.bipush X142.here hx rfl (hb hby d4_72)) ?_
              by_cases hc146 : c0 = (45 : Int32)
              · -- yes
                show Go p e below _ (T142.setTop (mkF m 74 #[rv a1, iv lg, iv (0 : Int32), iv c0] [(.int (45 : Int32)), (.int c0)]))
                refine Go.via (fun _ => XS.icmpYes X142.here hx rfl (pc0 := 74) (pc' := 79) rfl (hb hby d4_74) rfl (teq hc146).1 (by decide) (by decide)) ?_
                exact nx0 _ _ X142 e142q N142 (by simp [okF, hc140, hc141, hc143, hc144, hc145, hc146])
              · -- no
                show Go p e below _ (T142.setTop (mkF m 74 #[rv a1, iv lg, iv (0 : Int32), iv c0] [(.int (45 : Int32)), (.int c0)]))
                refine Go.via (fun _ => XS.icmpNo X142.here hx rfl (hb hby d4_74) rfl (feq hc146).1) ?_
                refine Go.via (fun _ => XS.iconst X142.here hx rfl (hb hby d4_77)) ?_
                have hz : okF c0 = (0 : Int32) := by simp [okF, hc140, hc141, hc143, hc144, hc145, hc146]
                exact own_retN X142 hx hlk (t := .boolean) Bd.returns (by simp) (hb hby d4_78) (by show QN3 Z lg c0 c1 c2 h0 n0 _ T142.heap _; rw [e142q]; exact ⟨by simp [nm3, nar, hz, hc103], N142, rfl⟩) (by decide) (by decide)
        · -- no
          refine Go.via (fun _ => XS.ifYes X142.here hx rfl (pc0 := 56) (pc' := 79) rfl (hb hby d4_56) rfl ((if0 _ _).trans (feq hc143).2) (by decide) (by decide)) ?_
          exact nx0 _ _ X142 e142q N142 (by simp [okF, hc140, hc141, hc143])
      · -- no
        refine Go.via (fun _ => XS.icmpNo X139.here hx rfl (hb hby d4_43) rfl (flt hc141).1) ?_
        show Go p e below _ (T139.setTop (mkF m 46 #[rv a1, iv lg, iv (0 : Int32), iv c0] []))
        refine Go.via (fun _ => XS.iloadN X139.here hx rfl (hb hby d4_46) rfl) ?_
        refine Go.via (fun _ => XS.bipush X139.here hx rfl (hb hby d4_47)) ?_
        by_cases hc147 : (90 : Int32) < c0
        · -- yes
          refine Go.via (fun _ => XS.icmpNo X139.here hx rfl (hb hby d4_49) rfl (tlt hc147).2.2.2) ?_
          refine Go.via (fun _ => XS.iloadN X139.here hx rfl (hb hby d4_52) rfl) ?_
          show Go p e below _ (T139.setTop (mkF m 53 #[rv a1, iv lg, iv (0 : Int32), iv c0] [(.int c0)]))
          obtain ⟨_, _, ⟨T148, L148, k148, n148⟩, -, X148, ⟨Lc148, hQ148, l148, y148, z148⟩, st148⟩ := Jvm.LawKit.callS X139 hx (y := (⟨"com/example/timed_cap/timedcap/model/Names", "isDigit", "(C)Z"⟩ : MethodName)) hown (mvT hZ (ow hw 82 rfl)) (mvT hZ (ow hw 83 rfl)) (mvT hZ (ow hw 25 rfl)) (mvT hZ (ow hw 84 rfl)) (by decide) (backOf (W := 0) (rm_isDigit l Z a0 hw [] c0 h0 n0 Z0) hZ (ow hw 84 rfl) (ow hw 25 rfl) (by decide) (by decide)) (g := (mkF m 53 #[rv a1, iv lg, iv (0 : Int32), iv c0] [(.int c0)])) rfl (by rw [hml]; rfl) (argsL := [(.int c0)]) (rest := []) (lenOf pd_7 rfl) rfl (by show 2 * 0 + _ ≤ _; exact Nat.le_of_eq rfl) (hb hby d4_53) (fun _ _ => ⟨rfl, e139q, (by decide : 0 + 0 ≤ _), (by decide : 0 + 0 ≤ _)⟩)
          dsimp only [Pt.U, Pt.locs, Pt.cells, Pt.slots] at X148 l148 y148 z148 st148 hQ148
          rw [l148, y148, z148] at X148
          replace X148 : Stand p l e _ _ m _ below meth c T148 _ 0 0 := X148
          obtain ⟨rfl, N148q, e148q⟩ := hQ148
          have N148 := Fr.app N139 N148q
          refine Go.via st148 ?_
          by_cases hc149 : (dgF c0) = (0 : Int32)
          · -- yes
            refine Go.via (fun _ => XS.ifNo X148.here hx rfl (hb hby d4_56) rfl ((if0 _ _).trans (teq hc149).2)) ?_
            refine Go.via (fun _ => XS.iloadN X148.here hx rfl (hb hby d4_59) rfl) ?_
            refine Go.via (fun _ => XS.bipush X148.here hx rfl (hb hby d4_60)) ?_
            show Go p e below _ (T148.setTop (mkF m 62 #[rv a1, iv lg, iv (0 : Int32), iv c0] [(.int (46 : Int32)), (.int c0)]))
            by_cases hc150 : c0 = (46 : Int32)
            · -- yes
              refine Go.via (fun _ => XS.icmpYes X148.here hx rfl (pc0 := 62) (pc' := 79) rfl (hb hby d4_62) rfl (teq hc150).1 (by decide) (by decide)) ?_
              exact nx0 _ _ X148 e148q N148 (by simp [okF, hc140, hc141, hc147, hc149, hc150])
            · -- no
              refine Go.via (fun _ => XS.icmpNo X148.here hx rfl (hb hby d4_62) rfl (feq hc150).1) ?_
              refine Go.via (fun _ => XS.iloadN X148.here hx rfl (hb hby d4_65) rfl) ?_
              refine Go.via (fun _ => XS.bipush X148.here hx rfl (hb hby d4_66)) ?_
              by_cases hc151 : c0 = (95 : Int32)
              · -- yes
                show Go p e below _ (T148.setTop (mkF m 68 #[rv a1, iv lg, iv (0 : Int32), iv c0] [(.int (95 : Int32)), (.int c0)]))
                refine Go.via (fun _ => XS.icmpYes X148.here hx rfl (pc0 := 68) (pc' := 79) rfl (hb hby d4_68) rfl (teq hc151).1 (by decide) (by decide)) ?_
                exact nx0 _ _ X148 e148q N148 (by simp [okF, hc140, hc141, hc147, hc149, hc150, hc151])
              · -- no
                show Go p e below _ (T148.setTop (mkF m 68 #[rv a1, iv lg, iv (0 : Int32), iv c0] [(.int (95 : Int32)), (.int c0)]))
                refine Go.via (fun _ => XS.icmpNo X148.here hx rfl (hb hby d4_68) rfl (feq hc151).1) ?_
                refine Go.via (fun _ => XS.iloadN X148.here hx rfl (hb hby d4_71) rfl) ?_
                refine Go.via (fun _ => XS.bipush X148.here hx rfl (hb hby d4_72)) ?_
                by_cases hc152 : c0 = (45 : Int32)
                · -- yes
                  show Go p e below _ (T148.setTop (mkF m 74 #[rv a1, iv lg, iv (0 : Int32), iv c0] [(.int (45 : Int32)), (.int c0)]))
                  refine Go.via (fun _ => XS.icmpYes X148.here hx rfl (pc0 := 74) (pc' := 79) rfl (hb hby d4_74) rfl (teq hc152).1 (by decide) (by decide)) ?_
                  exact nx0 _ _ X148 e148q N148 (by simp [okF, hc140, hc141, hc147, hc149, hc150, hc151, hc152])
                · -- no
                  show Go p e below _ (T148.setTop (mkF m 74 #[rv a1, iv lg, iv (0 : Int32), iv c0] [(.int (45 : Int32)), (.int c0)]))
                  refine Go.via (fun _ => XS.icmpNo X148.here hx rfl (hb hby d4_74) rfl (feq hc152).1) ?_
                  refine Go.via (fun _ => XS.iconst X148.here hx rfl (hb hby d4_77)) ?_
                  have hz : okF c0 = (0 : Int32) := by simp [okF, hc140, hc141, hc147, hc149, hc150, hc151, hc152]
                  exact own_retN X148 hx hlk (t := .boolean) Bd.returns (by simp) (hb hby d4_78) (by show QN3 Z lg c0 c1 c2 h0 n0 _ T148.heap _; rw [e148q]; exact ⟨by simp [nm3, nar, hz, hc103], N148, rfl⟩) (by decide) (by decide)
          · -- no
            refine Go.via (fun _ => XS.ifYes X148.here hx rfl (pc0 := 56) (pc' := 79) rfl (hb hby d4_56) rfl ((if0 _ _).trans (feq hc149).2) (by decide) (by decide)) ?_
            exact nx0 _ _ X148 e148q N148 (by simp [okF, hc140, hc141, hc147, hc149])
        · -- no
          refine Go.via (fun _ => XS.icmpYes X139.here hx rfl (pc0 := 49) (pc' := 79) rfl (hb hby d4_49) rfl (flt hc147).2.2.2 (by decide) (by decide)) ?_
          exact nx0 _ _ X139 e139q N139 (by simp [okF, hc140, hc141, hc147])
    · -- no
      show Go p e below _ (T139.setTop (mkF m 37 #[rv a1, iv lg, iv (0 : Int32), iv c0] [(.int (loF c0))]))
      refine Go.via (fun _ => XS.ifYes X139.here hx rfl (pc0 := 37) (pc' := 79) rfl (hb hby d4_37) rfl ((if0 _ _).trans (feq hc140).2) (by decide) (by decide)) ?_
      exact nx0 _ _ X139 e139q N139 (by simp [okF, hc140])
theorem ef_rmLen16_3 (m : MethodId) (x0 : Addr) : entryFrame m #[(.ref x0)] 1 = mkF m 0 #[rv x0] [] := by first | (simp [entryFrame, mkF, argsToLocals, Value.category]; done) | rfl
def QLen16_3 (Z : State) (a1 : Addr) (t1 : Addr) (kb : ClassId) (vs : List Value) (ccs : Int32) (vF : Value) (h0 : Heap) (n0 : Nat) (v : Option Value) (h : Heap) (L : List Loc) : Prop := v = some (.int (3 : Int32)) ∧ Fr n0 L ∧ h = h0
set_option maxRecDepth 65536 in
set_option maxHeartbeats 40000000 in
theorem rmLen16_3 (l : Launch) (Z : State) (a0 : Array Value) (hw : TW Z a0) (ws : List Jvm.Cond) (a1 : Addr) (t1 : Addr) (kb : ClassId) (vs : List Value) (ccs : Int32) (vF : Value) (h0 : Heap) (n0 : Nat) (Z0 : n0 ≤ h0.size) (E1 : Exa Z h0 a1 "java/lang/String") (F1 : Fld Z h0 a1 "java/lang/String" "value" "[B" (.ref t1)) (F2 : Fld Z h0 a1 "java/lang/String" "coder" "B" (.int (1 : Int32))) (V2 : Arv Z h0 t1 kb .byte (6 : Int32) vs (.int (0 : Int32))) (O0 : Old Z n0 h0) (G : SG Z ccs vF) :
    MF l Z (⟨"java/lang/String", "length", "()I"⟩ : MethodName) jdk_42_method_54_code 1 (some .int) ws (rmm 1 0 0 13) #[(.ref a1)] h0 (QLen16_3 Z a1 t1 kb vs ccs vF h0 n0) := by
  refine MetFree.of_bodySF (plainFor_of_name pn_java_lang_String) hisR ?_
  intro p e s m args below meth c s₁ Bd hml0 hP hK
  obtain ⟨rfl, hZ, hh⟩ := hP
  have hx := Bd.exec
  have hby := Bd.bytes
  have hlk : meth.locks = false := Bd.notSynchronized
  have hml : c.maxLocals = 1 := hml0
  have hown : s.vm.findClass "java/lang/String" = some m.cls := findClass_of_methodNamed Bd.named
  have hnm := (name_of_methodNamed Bd.named Bd.method).1
  have rF := G.2.2.2.2.2.2
  have hcs := G.2.1
  have X0 : Stand p l e (rmm 1 0 0 13) s m #[(.ref a1)] below meth c s₁ [] 0 0 := Stand.of_body Bd
  have e0 : s₁.heap = h0 := by rw [← hh, Bd.state]; rfl
  have N0 := Fr.nil n0
  show Go p e below (FinE s below (QLen16_3 Z a1 t1 kb vs ccs vF h0 n0) (rmm 1 0 0 13).cells (rmm 1 0 0 13).slots) (s₁.setTop (entryFrame m #[(.ref a1)] 1))
  refine Go.via (fun t k => castTop (ef_rmLen16_3 m a1) k) ?_
  refine Go.via (fun _ => XS.aloadN X0.here hx rfl (hb hby d10_0) rfl rfl) ?_
  obtain ⟨T101, X101, e101, st101⟩ := getF X0 hx hZ hown (host := "") (Or.inl (ow hw 21 rfl)) Via.refl e0 F1 (g := (mkF m 1 #[rv a1] [(.ref a1)])) rfl rfl (hb hby d10_1)
  refine Go.via st101 ?_
  obtain ⟨cl102, Ar102, -, S102, N102n, -, -⟩ := id V2
  have al102 := X101.arraylength hx (by rw [e101]; exact Ar102.1) (State.isArrayOf_alike hZ.alike Ar102.2.1) (g := (mkF m 4 #[rv a1] [(.ref t1)])) rfl rfl (hb hby d10_4)
  rw [len_of S102 N102n] at al102
  refine Go.via al102 ?_
  refine Go.via (fun _ => XS.aloadN X101.here hx rfl (hb hby d10_5) rfl rfl) ?_
  obtain ⟨cq103, kq103, q103a, q103b, q103c⟩ := isOf hZ e101 E1
  obtain ⟨_, _, ⟨T103, L103, k103, n103⟩, -, X103, ⟨Lc103, hQ103, l103, y103, z103⟩, st103⟩ := X101.virtualBack hx (y := (⟨"java/lang/String", "coder", "()B"⟩ : MethodName)) (z := (⟨"java/lang/String", "coder", "()B"⟩ : MethodName)) hown (mvT hZ (ow hw 52 rfl)) (mvT hZ (ow hw 53 rfl)) (notFace_of_selects (args := #[]) (mvT hZ (ow hw 55 rfl))) (mvT hZ (ow hw 55 rfl)) (mvT hZ (ow hw 54 rfl)) (by decide) (backOf (W := 1) (rmCoder16 l Z a0 hw [] a1 ccs vF h0 n0 Z0 F2 O0 G) hZ (ow hw 56 rfl) (ow hw 4 rfl) (by decide) (by decide)) q103a q103c (g := (mkF m 6 #[rv a1] [(.ref a1), (.int (6 : Int32))])) rfl (by rw [hml]; rfl) (Steps.refl _) (argsL := []) (rest := [(.int (6 : Int32))]) (lenOf pd_4 rfl) rfl (by show 2 * 0 + _ ≤ _; exact Nat.le_of_eq rfl) (hb hby d10_6) (fun _ _ => ⟨rfl, e101, (by decide : 0 + 0 ≤ _), (by decide : 0 + 0 ≤ _)⟩)
  dsimp only [Pt.U, Pt.locs, Pt.cells, Pt.slots] at X103 l103 y103 z103 st103 hQ103
  rw [l103, y103, z103] at X103
  replace X103 : Stand p l e _ _ m _ below meth c T103 _ 0 0 := X103
  obtain ⟨rfl, N103q, e103q⟩ := hQ103
  have N103 := Fr.app N0 N103q
  refine Go.tr st103 ?_
  show Go p e below _ (T103.setTop (mkF m 9 #[rv a1] [(.int (1 : Int32)), (.int (6 : Int32))]))
  refine Go.via (fun _ => XS.ishr X103.here hx rfl (hb hby d10_9) rfl) ?_
  exact own_retI X103 hx hlk Bd.returns (hb hby d10_10) (by show QLen16_3 Z a1 t1 kb vs ccs vF h0 n0 _ T103.heap _; rw [e103q]; exact ⟨rfl, N103, rfl⟩) (by decide) (by decide)
theorem ef_rmN_3_1 (m : MethodId) (x0 : Addr) (x1 : Int32) : entryFrame m #[(.ref x0), (.int x1)] 4 = mkF m 0 #[rv x0, iv x1, .unset, .unset] [] := by first | (simp [entryFrame, mkF, argsToLocals, Value.category]; done) | rfl
set_option maxRecDepth 65536 in
set_option maxHeartbeats 40000000 in
theorem rmN_3_1 (l : Launch) (Z : State) (a0 : Array Value) (hw : TW Z a0) (ws : List Jvm.Cond) (a1 : Addr) (t1 : Addr) (kb : ClassId) (c0 : Int32) (c1 : Int32) (c2 : Int32) (lg : Int32) (ccs : Int32) (vF : Value) (h0 : Heap) (n0 : Nat) (Z0 : n0 ≤ h0.size) (E1 : Exa Z h0 a1 "java/lang/String") (F1 : Fld Z h0 a1 "java/lang/String" "value" "[B" (.ref t1)) (F2 : Fld Z h0 a1 "java/lang/String" "coder" "B" (.int (1 : Int32))) (V2 : Arv Z h0 t1 kb .byte (6 : Int32) [(.int (nar .byte ((c0 >>> ((0 : Int32) &&& 31)).toInt8.toInt32))), (.int (nar .byte ((c0 >>> ((8 : Int32) &&& 31)).toInt8.toInt32))), (.int (nar .byte ((c1 >>> ((0 : Int32) &&& 31)).toInt8.toInt32))), (.int (nar .byte ((c1 >>> ((8 : Int32) &&& 31)).toInt8.toInt32))), (.int (nar .byte ((c2 >>> ((0 : Int32) &&& 31)).toInt8.toInt32))), (.int (nar .byte ((c2 >>> ((8 : Int32) &&& 31)).toInt8.toInt32)))] (.int (0 : Int32))) (hu0 : nar .char ((((((nar .byte ((c0 >>> ((0 : Int32) &&& 31)).toInt8.toInt32))) &&& (255 : Int32)) <<< ((0 : Int32) &&& 31)) ||| ((((nar .byte ((c0 >>> ((8 : Int32) &&& 31)).toInt8.toInt32))) &&& (255 : Int32)) <<< ((8 : Int32) &&& 31))).toUInt32.toUInt16.toUInt32.toInt32) = c0) (hu1 : nar .char ((((((nar .byte ((c1 >>> ((0 : Int32) &&& 31)).toInt8.toInt32))) &&& (255 : Int32)) <<< ((0 : Int32) &&& 31)) ||| ((((nar .byte ((c1 >>> ((8 : Int32) &&& 31)).toInt8.toInt32))) &&& (255 : Int32)) <<< ((8 : Int32) &&& 31))).toUInt32.toUInt16.toUInt32.toInt32) = c1) (hu2 : nar .char ((((((nar .byte ((c2 >>> ((0 : Int32) &&& 31)).toInt8.toInt32))) &&& (255 : Int32)) <<< ((0 : Int32) &&& 31)) ||| ((((nar .byte ((c2 >>> ((8 : Int32) &&& 31)).toInt8.toInt32))) &&& (255 : Int32)) <<< ((8 : Int32) &&& 31))).toUInt32.toUInt16.toUInt32.toInt32) = c2) (hn0 : nar .char c0 = c0) (hn1 : nar .char c1 = c1) (hn2 : nar .char c2 = c2) (O0 : Old Z n0 h0) (G : SG Z ccs vF) :
    MF l Z (⟨"com/example/timed_cap/timedcap/model/Names", "isName", "(Ljava/lang/String;I)Z"⟩ : MethodName) prog_5_method_2_code 4 (some .boolean) ws (rmm 5 0 0 130) #[(.ref a1), (.int lg)] h0 (QN3 Z lg c0 c1 c2 h0 n0) := by
  refine MetFree.of_bodySF (plainFor_of_name pn_com_example_timed_cap_timedcap_model_Names) hisR ?_
  intro p e s m args below meth c s₁ Bd hml0 hP hK
  obtain ⟨rfl, hZ, hh⟩ := hP
  have hx := Bd.exec
  have hby := Bd.bytes
  have hlk : meth.locks = false := Bd.notSynchronized
  have hml : c.maxLocals = 4 := hml0
  have hown : s.vm.findClass "com/example/timed_cap/timedcap/model/Names" = some m.cls := findClass_of_methodNamed Bd.named
  have hnm := (name_of_methodNamed Bd.named Bd.method).1
  have rF := G.2.2.2.2.2.2
  have hcs := G.2.1
  have X0 : Stand p l e (rmm 5 0 0 130) s m #[(.ref a1), (.int lg)] below meth c s₁ [] 0 0 := Stand.of_body Bd
  have e0 : s₁.heap = h0 := by rw [← hh, Bd.state]; rfl
  have N0 := Fr.nil n0
  show Go p e below (FinE s below (QN3 Z lg c0 c1 c2 h0 n0) (rmm 5 0 0 130).cells (rmm 5 0 0 130).slots) (s₁.setTop (entryFrame m #[(.ref a1), (.int lg)] 4))
  refine Go.via (fun t k => castTop (ef_rmN_3_1 m a1 lg) k) ?_
  refine Go.via (fun _ => XS.aloadN X0.here hx rfl (hb hby d4_0) rfl rfl) ?_
  obtain ⟨cq101, kq101, q101a, q101b, q101c⟩ := isOf hZ e0 E1
  obtain ⟨_, _, ⟨T101, L101, k101, n101⟩, -, X101, ⟨Lc101, hQ101, l101, y101, z101⟩, st101⟩ := X0.virtualBack hx (y := (⟨"java/lang/String", "isEmpty", "()Z"⟩ : MethodName)) (z := (⟨"java/lang/String", "isEmpty", "()Z"⟩ : MethodName)) hown (mvT hZ (ow hw 27 rfl)) (mvT hZ (ow hw 28 rfl)) (notFace_of_selects (args := #[]) (mvT hZ (ow hw 30 rfl))) (mvT hZ (ow hw 30 rfl)) (mvT hZ (ow hw 29 rfl)) (by decide) (backOf (W := 0) (rmEmp_1 l Z a0 hw [] a1 t1 kb (6 : Int32) _ h0 n0 Z0 F1 V2 (by decide)) hZ (ow hw 31 rfl) (ow hw 4 rfl) (by decide) (by decide)) q101a q101c (g := (mkF m 1 #[rv a1, iv lg, .unset, .unset] [(.ref a1)])) rfl (by rw [hml]; rfl) (Steps.refl _) (argsL := []) (rest := []) (lenOf pd_0 rfl) rfl (by show 2 * 0 + _ ≤ _; exact Nat.le_of_eq rfl) (hb hby d4_1) (fun _ _ => ⟨rfl, e0, (by decide : 0 + 0 ≤ _), (by decide : 0 + 0 ≤ _)⟩)
  dsimp only [Pt.U, Pt.locs, Pt.cells, Pt.slots] at X101 l101 y101 z101 st101 hQ101
  rw [l101, y101, z101] at X101
  replace X101 : Stand p l e _ _ m _ below meth c T101 _ 0 0 := X101
  obtain ⟨rfl, N101q, e101q⟩ := hQ101
  have N101 := Fr.app N0 N101q
  refine Go.tr st101 ?_
  refine Go.via (fun _ => XS.ifNo X101.here hx rfl (hb hby d4_4) rfl (by decide)) ?_
  refine Go.via (fun _ => XS.aloadN X101.here hx rfl (hb hby d4_7) rfl rfl) ?_
  obtain ⟨cq102, kq102, q102a, q102b, q102c⟩ := isOf hZ e101q E1
  obtain ⟨_, _, ⟨T102, L102, k102, n102⟩, -, X102, ⟨Lc102, hQ102, l102, y102, z102⟩, st102⟩ := X101.virtualBack hx (y := (⟨"java/lang/String", "length", "()I"⟩ : MethodName)) (z := (⟨"java/lang/String", "length", "()I"⟩ : MethodName)) hown (mvT hZ (ow hw 47 rfl)) (mvT hZ (ow hw 48 rfl)) (notFace_of_selects (args := #[]) (mvT hZ (ow hw 50 rfl))) (mvT hZ (ow hw 50 rfl)) (mvT hZ (ow hw 49 rfl)) (by decide) (backOf (W := 0) (rmLen16_3 l Z a0 hw [] a1 t1 kb _ ccs vF h0 n0 Z0 E1 F1 F2 V2 O0 G) hZ (ow hw 51 rfl) (ow hw 4 rfl) (by decide) (by decide)) q102a q102c (g := (mkF m 8 #[rv a1, iv lg, .unset, .unset] [(.ref a1)])) rfl (by rw [hml]; rfl) (Steps.refl _) (argsL := []) (rest := []) (lenOf pd_5 rfl) rfl (by show 2 * 0 + _ ≤ _; exact Nat.le_of_eq rfl) (hb hby d4_8) (fun _ _ => ⟨rfl, e101q, (by decide : 0 + 0 ≤ _), (by decide : 0 + 0 ≤ _)⟩)
  dsimp only [Pt.U, Pt.locs, Pt.cells, Pt.slots] at X102 l102 y102 z102 st102 hQ102
  rw [l102, y102, z102] at X102
  replace X102 : Stand p l e _ _ m _ below meth c T102 _ 0 0 := X102
  obtain ⟨rfl, N102q, e102q⟩ := hQ102
  have N102 := Fr.app N101 N102q
  refine Go.tr st102 ?_
  show Go p e below _ (T102.setTop (mkF m 11 #[rv a1, iv lg, .unset, .unset] [(.int (3 : Int32))]))
  refine Go.via (fun _ => XS.iloadN X102.here hx rfl (hb hby d4_11) rfl) ?_
  by_cases hc103 : lg < (3 : Int32)
  · -- yes
    refine Go.via (fun _ => XS.icmpNo X102.here hx rfl (hb hby d4_12) rfl (tlt hc103).2.2.2) ?_
    refine Go.via (fun _ => XS.iconst X102.here hx rfl (hb hby d4_15)) ?_
    exact own_retN X102 hx hlk (t := .boolean) Bd.returns (by simp) (hb hby d4_16) (by show QN3 Z lg c0 c1 c2 h0 n0 _ T102.heap _; rw [e102q]; exact ⟨by simp [nm3, nar, hc103], N102, rfl⟩) (by decide) (by decide)
  · -- no
    refine Go.via (fun _ => XS.icmpYes X102.here hx rfl (pc0 := 12) (pc' := 17) rfl (hb hby d4_12) rfl (flt hc103).2.2.2 (by decide) (by decide)) ?_
    refine Go.via (fun _ => XS.iconst X102.here hx rfl (hb hby d4_17)) ?_
    refine Go.via (fun _ => XS.istoreN X102.here hx rfl (hb hby d4_18) rfl (l' := #[rv a1, iv lg, iv (0 : Int32), .unset]) rfl) ?_
    show Go p e below _ (T102.setTop (mkF m 19 #[rv a1, iv lg, iv (0 : Int32), .unset] []))
    refine Go.via (fun _ => XS.iloadN X102.here hx rfl (hb hby d4_19) rfl) ?_
    refine Go.via (fun _ => XS.aloadN X102.here hx rfl (hb hby d4_20) rfl rfl) ?_
    obtain ⟨cq104, kq104, q104a, q104b, q104c⟩ := isOf hZ e102q E1
    obtain ⟨_, _, ⟨T104, L104, k104, n104⟩, -, X104, ⟨Lc104, hQ104, l104, y104, z104⟩, st104⟩ := X102.virtualBack hx (y := (⟨"java/lang/String", "length", "()I"⟩ : MethodName)) (z := (⟨"java/lang/String", "length", "()I"⟩ : MethodName)) hown (mvT hZ (ow hw 47 rfl)) (mvT hZ (ow hw 48 rfl)) (notFace_of_selects (args := #[]) (mvT hZ (ow hw 50 rfl))) (mvT hZ (ow hw 50 rfl)) (mvT hZ (ow hw 49 rfl)) (by decide) (backOf (W := 1) (rmLen16_3 l Z a0 hw [] a1 t1 kb _ ccs vF h0 n0 Z0 E1 F1 F2 V2 O0 G) hZ (ow hw 51 rfl) (ow hw 4 rfl) (by decide) (by decide)) q104a q104c (g := (mkF m 21 #[rv a1, iv lg, iv (0 : Int32), .unset] [(.ref a1), (.int (0 : Int32))])) rfl (by rw [hml]; rfl) (Steps.refl _) (argsL := []) (rest := [(.int (0 : Int32))]) (lenOf pd_5 rfl) rfl (by show 2 * 0 + _ ≤ _; exact Nat.le_of_eq rfl) (hb hby d4_21) (fun _ _ => ⟨rfl, e102q, (by decide : 0 + 0 ≤ _), (by decide : 0 + 0 ≤ _)⟩)
    dsimp only [Pt.U, Pt.locs, Pt.cells, Pt.slots] at X104 l104 y104 z104 st104 hQ104
    rw [l104, y104, z104] at X104
    replace X104 : Stand p l e _ _ m _ below meth c T104 _ 0 0 := X104
    obtain ⟨rfl, N104q, e104q⟩ := hQ104
    have N104 := Fr.app N102 N104q
    refine Go.tr st104 ?_
    refine Go.via (fun _ => XS.icmpNo X104.here hx rfl (hb hby d4_24) rfl (by decide)) ?_
    refine Go.via (fun _ => XS.aloadN X104.here hx rfl (hb hby d4_27) rfl rfl) ?_
    refine Go.via (fun _ => XS.iloadN X104.here hx rfl (hb hby d4_28) rfl) ?_
    show Go p e below _ (T104.setTop (mkF m 29 #[rv a1, iv lg, iv (0 : Int32), .unset] [(.int (0 : Int32)), (.ref a1)]))
    obtain ⟨cq105, kq105, q105a, q105b, q105c⟩ := isOf hZ e104q E1
    obtain ⟨_, _, ⟨T105, L105, k105, n105⟩, -, X105, ⟨Lc105, hQ105, l105, y105, z105⟩, st105⟩ := X104.virtualBack hx (y := (⟨"java/lang/String", "charAt", "(I)C"⟩ : MethodName)) (z := (⟨"java/lang/String", "charAt", "(I)C"⟩ : MethodName)) hown (mvT hZ (ow hw 57 rfl)) (mvT hZ (ow hw 58 rfl)) (notFace_of_selects (args := #[]) (mvT hZ (ow hw 60 rfl))) (mvT hZ (ow hw 60 rfl)) (mvT hZ (ow hw 59 rfl)) (by decide) (backOf (W := 0) (rmCA_1 l Z a0 hw [] a1 t1 kb (6 : Int32) _ (0 : Int32) c0 (3 : Int32) ccs vF h0 n0 Z0 E1 F1 F2 V2 (by decide) (by decide) (by decide) ⟨by decide, by decide⟩ ⟨by decide, by decide⟩ rfl rfl hu0 hn0 O0 G) hZ (ow hw 61 rfl) (ow hw 4 rfl) (by decide) (by decide)) q105a q105c (g := (mkF m 29 #[rv a1, iv lg, iv (0 : Int32), .unset] [(.int (0 : Int32)), (.ref a1)])) rfl (by rw [hml]; rfl) (Steps.refl _) (argsL := [(.int (0 : Int32))]) (rest := []) (lenOf pd_6 rfl) rfl (by show 2 * 0 + _ ≤ _; exact Nat.le_of_eq rfl) (hb hby d4_29) (fun _ _ => ⟨rfl, e104q, (by decide : 0 + 0 ≤ _), (by decide : 0 + 0 ≤ _)⟩)
    dsimp only [Pt.U, Pt.locs, Pt.cells, Pt.slots] at X105 l105 y105 z105 st105 hQ105
    rw [l105, y105, z105] at X105
    replace X105 : Stand p l e _ _ m _ below meth c T105 _ 0 0 := X105
    obtain ⟨rfl, N105q, e105q⟩ := hQ105
    have N105 := Fr.app N104 N105q
    refine Go.tr st105 ?_
    refine Go.via (fun _ => XS.istoreN X105.here hx rfl (hb hby d4_32) rfl (l' := #[rv a1, iv lg, iv (0 : Int32), iv c0]) rfl) ?_
    have nx0 : ∀ (T' : State) (L' : List Loc), Stand p l e (rmm 5 0 0 130) s m #[(.ref a1), (.int lg)] below meth c T' L' 0 0 → T'.heap = h0 → Fr n0 L' → ¬ (okF c0 = (0 : Int32)) → Go p e below (FinE s below (QN3 Z lg c0 c1 c2 h0 n0) (rmm 5 0 0 130).cells (rmm 5 0 0 130).slots) (T'.setTop (mkF m 79 #[rv a1, iv lg, iv (0 : Int32), iv c0] [])) := by
      intro Tn0 Ln0 Xn0 en0 Nn0 hok0
      refine Go.via (fun _ => XS.iinc Xn0.here hx rfl (hb hby d4_79) rfl (l' := #[rv a1, iv lg, iv (1 : Int32), iv c0]) rfl) ?_
      refine Go.via (fun _ => XS.goto Xn0.here hx rfl (pc0 := 82) (pc' := 19) rfl (hb hby d4_82) (by decide) (by decide)) ?_
      refine Go.via (fun _ => XS.iloadN Xn0.here hx rfl (hb hby d4_19) rfl) ?_
      show Go p e below _ (Tn0.setTop (mkF m 20 #[rv a1, iv lg, iv (1 : Int32), iv c0] [(.int (1 : Int32))]))
      refine Go.via (fun _ => XS.aloadN Xn0.here hx rfl (hb hby d4_20) rfl rfl) ?_
      obtain ⟨cq106, kq106, q106a, q106b, q106c⟩ := isOf hZ en0 E1
      obtain ⟨_, _, ⟨T106, L106, k106, n106⟩, -, X106, ⟨Lc106, hQ106, l106, y106, z106⟩, st106⟩ := Xn0.virtualBack hx (y := (⟨"java/lang/String", "length", "()I"⟩ : MethodName)) (z := (⟨"java/lang/String", "length", "()I"⟩ : MethodName)) hown (mvT hZ (ow hw 47 rfl)) (mvT hZ (ow hw 48 rfl)) (notFace_of_selects (args := #[]) (mvT hZ (ow hw 50 rfl))) (mvT hZ (ow hw 50 rfl)) (mvT hZ (ow hw 49 rfl)) (by decide) (backOf (W := 1) (rmLen16_3 l Z a0 hw [] a1 t1 kb _ ccs vF h0 n0 Z0 E1 F1 F2 V2 O0 G) hZ (ow hw 51 rfl) (ow hw 4 rfl) (by decide) (by decide)) q106a q106c (g := (mkF m 21 #[rv a1, iv lg, iv (1 : Int32), iv c0] [(.ref a1), (.int (1 : Int32))])) rfl (by rw [hml]; rfl) (Steps.refl _) (argsL := []) (rest := [(.int (1 : Int32))]) (lenOf pd_5 rfl) rfl (by show 2 * 0 + _ ≤ _; exact Nat.le_of_eq rfl) (hb hby d4_21) (fun _ _ => ⟨rfl, en0, (by decide : 0 + 0 ≤ _), (by decide : 0 + 0 ≤ _)⟩)
      dsimp only [Pt.U, Pt.locs, Pt.cells, Pt.slots] at X106 l106 y106 z106 st106 hQ106
      rw [l106, y106, z106] at X106
      replace X106 : Stand p l e _ _ m _ below meth c T106 _ 0 0 := X106
      obtain ⟨rfl, N106q, e106q⟩ := hQ106
      have N106 := Fr.app Nn0 N106q
      refine Go.tr st106 ?_
      refine Go.via (fun _ => XS.icmpNo X106.here hx rfl (hb hby d4_24) rfl (by decide)) ?_
      refine Go.via (fun _ => XS.aloadN X106.here hx rfl (hb hby d4_27) rfl rfl) ?_
      refine Go.via (fun _ => XS.iloadN X106.here hx rfl (hb hby d4_28) rfl) ?_
      obtain ⟨cq107, kq107, q107a, q107b, q107c⟩ := isOf hZ e106q E1
      obtain ⟨_, _, ⟨T107, L107, k107, n107⟩, -, X107, ⟨Lc107, hQ107, l107, y107, z107⟩, st107⟩ := X106.virtualBack hx (y := (⟨"java/lang/String", "charAt", "(I)C"⟩ : MethodName)) (z := (⟨"java/lang/String", "charAt", "(I)C"⟩ : MethodName)) hown (mvT hZ (ow hw 57 rfl)) (mvT hZ (ow hw 58 rfl)) (notFace_of_selects (args := #[]) (mvT hZ (ow hw 60 rfl))) (mvT hZ (ow hw 60 rfl)) (mvT hZ (ow hw 59 rfl)) (by decide) (backOf (W := 0) (rmCA_1 l Z a0 hw [] a1 t1 kb (6 : Int32) _ (1 : Int32) c1 (3 : Int32) ccs vF h0 n0 Z0 E1 F1 F2 V2 (by decide) (by decide) (by decide) ⟨by decide, by decide⟩ ⟨by decide, by decide⟩ rfl rfl hu1 hn1 O0 G) hZ (ow hw 61 rfl) (ow hw 4 rfl) (by decide) (by decide)) q107a q107c (g := (mkF m 29 #[rv a1, iv lg, iv (1 : Int32), iv c0] [(.int (1 : Int32)), (.ref a1)])) rfl (by rw [hml]; rfl) (Steps.refl _) (argsL := [(.int (1 : Int32))]) (rest := []) (lenOf pd_6 rfl) rfl (by show 2 * 0 + _ ≤ _; exact Nat.le_of_eq rfl) (hb hby d4_29) (fun _ _ => ⟨rfl, e106q, (by decide : 0 + 0 ≤ _), (by decide : 0 + 0 ≤ _)⟩)
      dsimp only [Pt.U, Pt.locs, Pt.cells, Pt.slots] at X107 l107 y107 z107 st107 hQ107
      rw [l107, y107, z107] at X107
      replace X107 : Stand p l e _ _ m _ below meth c T107 _ 0 0 := X107
      obtain ⟨rfl, N107q, e107q⟩ := hQ107
      have N107 := Fr.app N106 N107q
      refine Go.tr st107 ?_
      show Go p e below _ (T107.setTop (mkF m 32 #[rv a1, iv lg, iv (1 : Int32), iv c0] [(.int c1)]))
      refine Go.via (fun _ => XS.istoreN X107.here hx rfl (hb hby d4_32) rfl (l' := #[rv a1, iv lg, iv (1 : Int32), iv c1]) rfl) ?_
      have nx1 : ∀ (T' : State) (L' : List Loc), Stand p l e (rmm 5 0 0 130) s m #[(.ref a1), (.int lg)] below meth c T' L' 0 0 → T'.heap = h0 → Fr n0 L' → ¬ (okF c1 = (0 : Int32)) → Go p e below (FinE s below (QN3 Z lg c0 c1 c2 h0 n0) (rmm 5 0 0 130).cells (rmm 5 0 0 130).slots) (T'.setTop (mkF m 79 #[rv a1, iv lg, iv (1 : Int32), iv c1] [])) := by
        intro Tn1 Ln1 Xn1 en1 Nn1 hok1
        refine Go.via (fun _ => XS.iinc Xn1.here hx rfl (hb hby d4_79) rfl (l' := #[rv a1, iv lg, iv (2 : Int32), iv c1]) rfl) ?_
        refine Go.via (fun _ => XS.goto Xn1.here hx rfl (pc0 := 82) (pc' := 19) rfl (hb hby d4_82) (by decide) (by decide)) ?_
        refine Go.via (fun _ => XS.iloadN Xn1.here hx rfl (hb hby d4_19) rfl) ?_
        refine Go.via (fun _ => XS.aloadN Xn1.here hx rfl (hb hby d4_20) rfl rfl) ?_
        show Go p e below _ (Tn1.setTop (mkF m 21 #[rv a1, iv lg, iv (2 : Int32), iv c1] [(.ref a1), (.int (2 : Int32))]))
        obtain ⟨cq108, kq108, q108a, q108b, q108c⟩ := isOf hZ en1 E1
        obtain ⟨_, _, ⟨T108, L108, k108, n108⟩, -, X108, ⟨Lc108, hQ108, l108, y108, z108⟩, st108⟩ := Xn1.virtualBack hx (y := (⟨"java/lang/String", "length", "()I"⟩ : MethodName)) (z := (⟨"java/lang/String", "length", "()I"⟩ : MethodName)) hown (mvT hZ (ow hw 47 rfl)) (mvT hZ (ow hw 48 rfl)) (notFace_of_selects (args := #[]) (mvT hZ (ow hw 50 rfl))) (mvT hZ (ow hw 50 rfl)) (mvT hZ (ow hw 49 rfl)) (by decide) (backOf (W := 1) (rmLen16_3 l Z a0 hw [] a1 t1 kb _ ccs vF h0 n0 Z0 E1 F1 F2 V2 O0 G) hZ (ow hw 51 rfl) (ow hw 4 rfl) (by decide) (by decide)) q108a q108c (g := (mkF m 21 #[rv a1, iv lg, iv (2 : Int32), iv c1] [(.ref a1), (.int (2 : Int32))])) rfl (by rw [hml]; rfl) (Steps.refl _) (argsL := []) (rest := [(.int (2 : Int32))]) (lenOf pd_5 rfl) rfl (by show 2 * 0 + _ ≤ _; exact Nat.le_of_eq rfl) (hb hby d4_21) (fun _ _ => ⟨rfl, en1, (by decide : 0 + 0 ≤ _), (by decide : 0 + 0 ≤ _)⟩)
        dsimp only [Pt.U, Pt.locs, Pt.cells, Pt.slots] at X108 l108 y108 z108 st108 hQ108
        rw [l108, y108, z108] at X108
        replace X108 : Stand p l e _ _ m _ below meth c T108 _ 0 0 := X108
        obtain ⟨rfl, N108q, e108q⟩ := hQ108
        have N108 := Fr.app Nn1 N108q
        refine Go.tr st108 ?_
        refine Go.via (fun _ => XS.icmpNo X108.here hx rfl (hb hby d4_24) rfl (by decide)) ?_
        refine Go.via (fun _ => XS.aloadN X108.here hx rfl (hb hby d4_27) rfl rfl) ?_
        refine Go.via (fun _ => XS.iloadN X108.here hx rfl (hb hby d4_28) rfl) ?_
        obtain ⟨cq109, kq109, q109a, q109b, q109c⟩ := isOf hZ e108q E1
        obtain ⟨_, _, ⟨T109, L109, k109, n109⟩, -, X109, ⟨Lc109, hQ109, l109, y109, z109⟩, st109⟩ := X108.virtualBack hx (y := (⟨"java/lang/String", "charAt", "(I)C"⟩ : MethodName)) (z := (⟨"java/lang/String", "charAt", "(I)C"⟩ : MethodName)) hown (mvT hZ (ow hw 57 rfl)) (mvT hZ (ow hw 58 rfl)) (notFace_of_selects (args := #[]) (mvT hZ (ow hw 60 rfl))) (mvT hZ (ow hw 60 rfl)) (mvT hZ (ow hw 59 rfl)) (by decide) (backOf (W := 0) (rmCA_1 l Z a0 hw [] a1 t1 kb (6 : Int32) _ (2 : Int32) c2 (3 : Int32) ccs vF h0 n0 Z0 E1 F1 F2 V2 (by decide) (by decide) (by decide) ⟨by decide, by decide⟩ ⟨by decide, by decide⟩ rfl rfl hu2 hn2 O0 G) hZ (ow hw 61 rfl) (ow hw 4 rfl) (by decide) (by decide)) q109a q109c (g := (mkF m 29 #[rv a1, iv lg, iv (2 : Int32), iv c1] [(.int (2 : Int32)), (.ref a1)])) rfl (by rw [hml]; rfl) (Steps.refl _) (argsL := [(.int (2 : Int32))]) (rest := []) (lenOf pd_6 rfl) rfl (by show 2 * 0 + _ ≤ _; exact Nat.le_of_eq rfl) (hb hby d4_29) (fun _ _ => ⟨rfl, e108q, (by decide : 0 + 0 ≤ _), (by decide : 0 + 0 ≤ _)⟩)
        dsimp only [Pt.U, Pt.locs, Pt.cells, Pt.slots] at X109 l109 y109 z109 st109 hQ109
        rw [l109, y109, z109] at X109
        replace X109 : Stand p l e _ _ m _ below meth c T109 _ 0 0 := X109
        obtain ⟨rfl, N109q, e109q⟩ := hQ109
        have N109 := Fr.app N108 N109q
        refine Go.tr st109 ?_
        refine Go.via (fun _ => XS.istoreN X109.here hx rfl (hb hby d4_32) rfl (l' := #[rv a1, iv lg, iv (2 : Int32), iv c2]) rfl) ?_
        show Go p e below _ (T109.setTop (mkF m 33 #[rv a1, iv lg, iv (2 : Int32), iv c2] []))
        have nx2 : ∀ (T' : State) (L' : List Loc), Stand p l e (rmm 5 0 0 130) s m #[(.ref a1), (.int lg)] below meth c T' L' 0 0 → T'.heap = h0 → Fr n0 L' → ¬ (okF c2 = (0 : Int32)) → Go p e below (FinE s below (QN3 Z lg c0 c1 c2 h0 n0) (rmm 5 0 0 130).cells (rmm 5 0 0 130).slots) (T'.setTop (mkF m 79 #[rv a1, iv lg, iv (2 : Int32), iv c2] [])) := by
          intro Tn2 Ln2 Xn2 en2 Nn2 hok2
          refine Go.via (fun _ => XS.iinc Xn2.here hx rfl (hb hby d4_79) rfl (l' := #[rv a1, iv lg, iv (3 : Int32), iv c2]) rfl) ?_
          refine Go.via (fun _ => XS.goto Xn2.here hx rfl (pc0 := 82) (pc' := 19) rfl (hb hby d4_82) (by decide) (by decide)) ?_
          refine Go.via (fun _ => XS.iloadN Xn2.here hx rfl (hb hby d4_19) rfl) ?_
          refine Go.via (fun _ => XS.aloadN Xn2.here hx rfl (hb hby d4_20) rfl rfl) ?_
          obtain ⟨cq110, kq110, q110a, q110b, q110c⟩ := isOf hZ en2 E1
          obtain ⟨_, _, ⟨T110, L110, k110, n110⟩, -, X110, ⟨Lc110, hQ110, l110, y110, z110⟩, st110⟩ := Xn2.virtualBack hx (y := (⟨"java/lang/String", "length", "()I"⟩ : MethodName)) (z := (⟨"java/lang/String", "length", "()I"⟩ : MethodName)) hown (mvT hZ (ow hw 47 rfl)) (mvT hZ (ow hw 48 rfl)) (notFace_of_selects (args := #[]) (mvT hZ (ow hw 50 rfl))) (mvT hZ (ow hw 50 rfl)) (mvT hZ (ow hw 49 rfl)) (by decide) (backOf (W := 1) (rmLen16_3 l Z a0 hw [] a1 t1 kb _ ccs vF h0 n0 Z0 E1 F1 F2 V2 O0 G) hZ (ow hw 51 rfl) (ow hw 4 rfl) (by decide) (by decide)) q110a q110c (g := (mkF m 21 #[rv a1, iv lg, iv (3 : Int32), iv c2] [(.ref a1), (.int (3 : Int32))])) rfl (by rw [hml]; rfl) (Steps.refl _) (argsL := []) (rest := [(.int (3 : Int32))]) (lenOf pd_5 rfl) rfl (by show 2 * 0 + _ ≤ _; exact Nat.le_of_eq rfl) (hb hby d4_21) (fun _ _ => ⟨rfl, en2, (by decide : 0 + 0 ≤ _), (by decide : 0 + 0 ≤ _)⟩)
          dsimp only [Pt.U, Pt.locs, Pt.cells, Pt.slots] at X110 l110 y110 z110 st110 hQ110
          rw [l110, y110, z110] at X110
          replace X110 : Stand p l e _ _ m _ below meth c T110 _ 0 0 := X110
          obtain ⟨rfl, N110q, e110q⟩ := hQ110
          have N110 := Fr.app Nn2 N110q
          refine Go.tr st110 ?_
          show Go p e below _ (T110.setTop (mkF m 24 #[rv a1, iv lg, iv (3 : Int32), iv c2] [(.int (3 : Int32)), (.int (3 : Int32))]))
          refine Go.via (fun _ => XS.icmpYes X110.here hx rfl (pc0 := 24) (pc' := 85) rfl (hb hby d4_24) rfl (by decide) (by decide) (by decide)) ?_
          refine Go.via (fun _ => XS.iconst X110.here hx rfl (hb hby d4_85)) ?_
          exact own_retN X110 hx hlk (t := .boolean) Bd.returns (by simp) (hb hby d4_86) (by show QN3 Z lg c0 c1 c2 h0 n0 _ T110.heap _; rw [e110q]; exact ⟨by simp [nm3, nar, hc103, hok0, hok1, hok2], N110, rfl⟩) (by decide) (by decide)
        refine Go.via (fun _ => XS.iloadN X109.here hx rfl (hb hby d4_33) rfl) ?_
        obtain ⟨_, _, ⟨T111, L111, k111, n111⟩, -, X111, ⟨Lc111, hQ111, l111, y111, z111⟩, st111⟩ := Jvm.LawKit.callS X109 hx (y := (⟨"com/example/timed_cap/timedcap/model/Names", "isLowerCase", "(C)Z"⟩ : MethodName)) hown (mvT hZ (ow hw 79 rfl)) (mvT hZ (ow hw 80 rfl)) (mvT hZ (ow hw 25 rfl)) (mvT hZ (ow hw 81 rfl)) (by decide) (backOf (W := 0) (rm_isLowerCase l Z a0 hw [] c2 h0 n0 Z0) hZ (ow hw 81 rfl) (ow hw 25 rfl) (by decide) (by decide)) (g := (mkF m 34 #[rv a1, iv lg, iv (2 : Int32), iv c2] [(.int c2)])) rfl (by rw [hml]; rfl) (argsL := [(.int c2)]) (rest := []) (lenOf pd_7 rfl) rfl (by show 2 * 0 + _ ≤ _; exact Nat.le_of_eq rfl) (hb hby d4_34) (fun _ _ => ⟨rfl, e109q, (by decide : 0 + 0 ≤ _), (by decide : 0 + 0 ≤ _)⟩)
        dsimp only [Pt.U, Pt.locs, Pt.cells, Pt.slots] at X111 l111 y111 z111 st111 hQ111
        rw [l111, y111, z111] at X111
        replace X111 : Stand p l e _ _ m _ below meth c T111 _ 0 0 := X111
        obtain ⟨rfl, N111q, e111q⟩ := hQ111
        have N111 := Fr.app N109 N111q
        refine Go.via st111 ?_
        by_cases hc112 : (loF c2) = (0 : Int32)
        · -- yes
          refine Go.via (fun _ => XS.ifNo X111.here hx rfl (hb hby d4_37) rfl ((if0 _ _).trans (teq hc112).2)) ?_
          refine Go.via (fun _ => XS.iloadN X111.here hx rfl (hb hby d4_40) rfl) ?_
          show Go p e below _ (T111.setTop (mkF m 41 #[rv a1, iv lg, iv (2 : Int32), iv c2] [(.int c2)]))
          refine Go.via (fun _ => XS.bipush X111.here hx rfl (hb hby d4_41)) ?_
          by_cases hc113 : c2 < (65 : Int32)
          · -- yes
            refine Go.via (fun _ => XS.icmpYes X111.here hx rfl (pc0 := 43) (pc' := 52) rfl (hb hby d4_43) rfl (tlt hc113).1 (by decide) (by decide)) ?_
            refine Go.via (fun _ => XS.iloadN X111.here hx rfl (hb hby d4_52) rfl) ?_
            obtain ⟨_, _, ⟨T114, L114, k114, n114⟩, -, X114, ⟨Lc114, hQ114, l114, y114, z114⟩, st114⟩ := Jvm.LawKit.callS X111 hx (y := (⟨"com/example/timed_cap/timedcap/model/Names", "isDigit", "(C)Z"⟩ : MethodName)) hown (mvT hZ (ow hw 82 rfl)) (mvT hZ (ow hw 83 rfl)) (mvT hZ (ow hw 25 rfl)) (mvT hZ (ow hw 84 rfl)) (by decide) (backOf (W := 0) (rm_isDigit l Z a0 hw [] c2 h0 n0 Z0) hZ (ow hw 84 rfl) (ow hw 25 rfl) (by decide) (by decide)) (g := (mkF m 53 #[rv a1, iv lg, iv (2 : Int32), iv c2] [(.int c2)])) rfl (by rw [hml]; rfl) (argsL := [(.int c2)]) (rest := []) (lenOf pd_7 rfl) rfl (by show 2 * 0 + _ ≤ _; exact Nat.le_of_eq rfl) (hb hby d4_53) (fun _ _ => ⟨rfl, e111q, (by decide : 0 + 0 ≤ _), (by decide : 0 + 0 ≤ _)⟩)
            dsimp only [Pt.U, Pt.locs, Pt.cells, Pt.slots] at X114 l114 y114 z114 st114 hQ114
            rw [l114, y114, z114] at X114
            replace X114 : Stand p l e _ _ m _ below meth c T114 _ 0 0 := X114
            obtain ⟨rfl, N114q, e114q⟩ := hQ114
            have N114 := Fr.app N111 N114q
            refine Go.via st114 ?_
            show Go p e below _ (T114.setTop (mkF m 56 #[rv a1, iv lg, iv (2 : Int32), iv c2] [(.int (dgF c2))]))
            by_cases hc115 : (dgF c2) = (0 : Int32)
            · -- yes
              refine Go.via (fun _ => XS.ifNo X114.here hx rfl (hb hby d4_56) rfl ((if0 _ _).trans (teq hc115).2)) ?_
              refine Go.via (fun _ => XS.iloadN X114.here hx rfl (hb hby d4_59) rfl) ?_
              refine Go.via (fun _ => XS.bipush X114.here hx rfl (hb hby d4_60)) ?_
              by_cases hc116 : c2 = (46 : Int32)
              · -- yes
                show Go p e below _ (T114.setTop (mkF m 62 #[rv a1, iv lg, iv (2 : Int32), iv c2] [(.int (46 : Int32)), (.int c2)]))
                refine Go.via (fun _ => XS.icmpYes X114.here hx rfl (pc0 := 62) (pc' := 79) rfl (hb hby d4_62) rfl (teq hc116).1 (by decide) (by decide)) ?_
                exact nx2 _ _ X114 e114q N114 (by simp [okF, hc112, hc113, hc115, hc116])
              · -- no
                show Go p e below _ (T114.setTop (mkF m 62 #[rv a1, iv lg, iv (2 : Int32), iv c2] [(.int (46 : Int32)), (.int c2)]))
                refine Go.via (fun _ => XS.icmpNo X114.here hx rfl (hb hby d4_62) rfl (feq hc116).1) ?_
                refine Go.via (fun _ => XS.iloadN X114.here hx rfl (hb hby d4_65) rfl) ?_
                refine Go.via (fun _ => XS.bipush X114.here hx rfl (hb hby d4_66)) ?_
                by_cases hc117 : c2 = (95 : Int32)
                · -- yes
                  show Go p e below _ (T114.setTop (mkF m 68 #[rv a1, iv lg, iv (2 : Int32), iv c2] [(.int (95 : Int32)), (.int c2)]))
                  refine Go.via (fun _ => XS.icmpYes X114.here hx rfl (pc0 := 68) (pc' := 79) rfl (hb hby d4_68) rfl (teq hc117).1 (by decide) (by decide)) ?_
                  exact nx2 _ _ X114 e114q N114 (by simp [okF, hc112, hc113, hc115, hc116, hc117])
                · -- no
                  show Go p e below _ (T114.setTop (mkF m 68 #[rv a1, iv lg, iv (2 : Int32), iv c2] [(.int (95 : Int32)), (.int c2)]))
                  refine Go.via (fun _ => XS.icmpNo X114.here hx rfl (hb hby d4_68) rfl (feq hc117).1) ?_
                  refine Go.via (fun _ => XS.iloadN X114.here hx rfl (hb hby d4_71) rfl) ?_
                  refine Go.via (fun _ => XS.bipush X114.here hx rfl (hb hby d4_72)) ?_
                  by_cases hc118 : c2 = (45 : Int32)
                  · -- yes
                    refine Go.via (fun _ => XS.icmpYes X114.here hx rfl (pc0 := 74) (pc' := 79) rfl (hb hby d4_74) rfl (teq hc118).1 (by decide) (by decide)) ?_
                    show Go p e below _ (T114.setTop (mkF m 79 #[rv a1, iv lg, iv (2 : Int32), iv c2] []))
                    exact nx2 _ _ X114 e114q N114 (by simp [okF, hc112, hc113, hc115, hc116, hc117, hc118])
                  · -- no
                    refine Go.via (fun _ => XS.icmpNo X114.here hx rfl (hb hby d4_74) rfl (feq hc118).1) ?_
                    show Go p e below _ (T114.setTop (mkF m 77 #[rv a1, iv lg, iv (2 : Int32), iv c2] []))
                    refine Go.via (fun _ => XS.iconst X114.here hx rfl (hb hby d4_77)) ?_
                    have hz : okF c2 = (0 : Int32) := by simp [okF, hc112, hc113, hc115, hc116, hc117, hc118]
                    exact own_retN X114 hx hlk (t := .boolean) Bd.returns (by simp) (hb hby d4_78) (by show QN3 Z lg c0 c1 c2 h0 n0 _ T114.heap _; rw [e114q]; exact ⟨by simp [nm3, nar, hz, hc103, hok0, hok1], N114, rfl⟩) (by decide) (by decide)
            · -- no
              refine Go.via (fun _ => XS.ifYes X114.here hx rfl (pc0 := 56) (pc' := 79) rfl (hb hby d4_56) rfl ((if0 _ _).trans (feq hc115).2) (by decide) (by decide)) ?_
              exact nx2 _ _ X114 e114q N114 (by simp [okF, hc112, hc113, hc115])
          · -- no
            refine Go.via (fun _ => XS.icmpNo X111.here hx rfl (hb hby d4_43) rfl (flt hc113).1) ?_
            refine Go.via (fun _ => XS.iloadN X111.here hx rfl (hb hby d4_46) rfl) ?_
            refine Go.via (fun _ => XS.bipush X111.here hx rfl (hb hby d4_47)) ?_
            show Go p e below _ (T111.setTop (mkF m 49 #[rv a1, iv lg, iv (2 : Int32), iv c2] [(.int (90 : Int32)), (.int c2)]))
            by_cases hc119 : (90 : Int32) < c2
            · -- yes
              refine Go.via (fun _ => XS.icmpNo X111.here hx rfl (hb hby d4_49) rfl (tlt hc119).2.2.2) ?_
              refine Go.via (fun _ => XS.iloadN X111.here hx rfl (hb hby d4_52) rfl) ?_
              obtain ⟨_, _, ⟨T120, L120, k120, n120⟩, -, X120, ⟨Lc120, hQ120, l120, y120, z120⟩, st120⟩ := Jvm.LawKit.callS X111 hx (y := (⟨"com/example/timed_cap/timedcap/model/Names", "isDigit", "(C)Z"⟩ : MethodName)) hown (mvT hZ (ow hw 82 rfl)) (mvT hZ (ow hw 83 rfl)) (mvT hZ (ow hw 25 rfl)) (mvT hZ (ow hw 84 rfl)) (by decide) (backOf (W := 0) (rm_isDigit l Z a0 hw [] c2 h0 n0 Z0) hZ (ow hw 84 rfl) (ow hw 25 rfl) (by decide) (by decide)) (g := (mkF m 53 #[rv a1, iv lg, iv (2 : Int32), iv c2] [(.int c2)])) rfl (by rw [hml]; rfl) (argsL := [(.int c2)]) (rest := []) (lenOf pd_7 rfl) rfl (by show 2 * 0 + _ ≤ _; exact Nat.le_of_eq rfl) (hb hby d4_53) (fun _ _ => ⟨rfl, e111q, (by decide : 0 + 0 ≤ _), (by decide : 0 + 0 ≤ _)⟩)
              dsimp only [Pt.U, Pt.locs, Pt.cells, Pt.slots] at X120 l120 y120 z120 st120 hQ120
              rw [l120, y120, z120] at X120
              replace X120 : Stand p l e _ _ m _ below meth c T120 _ 0 0 := X120
              obtain ⟨rfl, N120q, e120q⟩ := hQ120
              have N120 := Fr.app N111 N120q
              refine Go.via st120 ?_
              by_cases hc121 : (dgF c2) = (0 : Int32)
              · -- yes
                show Go p e below _ (T120.setTop (mkF m 56 #[rv a1, iv lg, iv (2 : Int32), iv c2] [(.int (dgF c2))]))
                refine Go.via (fun _ => XS.ifNo X120.here hx rfl (hb hby d4_56) rfl ((if0 _ _).trans (teq hc121).2)) ?_
                refine Go.via (fun _ => XS.iloadN X120.here hx rfl (hb hby d4_59) rfl) ?_
                refine Go.via (fun _ => XS.bipush X120.here hx rfl (hb hby d4_60)) ?_
                by_cases hc122 : c2 = (46 : Int32)
                · -- yes
                  show Go p e below _ (T120.setTop (mkF m 62 #[rv a1, iv lg, iv (2 : Int32), iv c2] [(.int (46 : Int32)), (.int c2)]))
                  refine Go.via (fun _ => XS.icmpYes X120.here hx rfl (pc0 := 62) (pc' := 79) rfl (hb hby d4_62) rfl (teq hc122).1 (by decide) (by decide)) ?_
                  exact nx2 _ _ X120 e120q N120 (by simp [okF, hc112, hc113, hc119, hc121, hc122])
                · -- no
                  show Go p e below _ (T120.setTop (mkF m 62 #[rv a1, iv lg, iv (2 : Int32), iv c2] [(.int (46 : Int32)), (.int c2)]))
                  refine Go.via (fun _ => XS.icmpNo X120.here hx rfl (hb hby d4_62) rfl (feq hc122).1) ?_
                  refine Go.via (fun _ => XS.iloadN X120.here hx rfl (hb hby d4_65) rfl) ?_
                  refine Go.via (fun _ => XS.bipush X120.here hx rfl (hb hby d4_66)) ?_
                  by_cases hc123 : c2 = (95 : Int32)
                  · -- yes
                    refine Go.via (fun _ => XS.icmpYes X120.here hx rfl (pc0 := 68) (pc' := 79) rfl (hb hby d4_68) rfl (teq hc123).1 (by decide) (by decide)) ?_
                    show Go p e below _ (T120.setTop (mkF m 79 #[rv a1, iv lg, iv (2 : Int32), iv c2] []))
                    exact nx2 _ _ X120 e120q N120 (by simp [okF, hc112, hc113, hc119, hc121, hc122, hc123])
                  · -- no
                    refine Go.via (fun _ => XS.icmpNo X120.here hx rfl (hb hby d4_68) rfl (feq hc123).1) ?_
                    show Go p e below _ (T120.setTop (mkF m 71 #[rv a1, iv lg, iv (2 : Int32), iv c2] []))
                    refine Go.via (fun _ => XS.iloadN X120.here hx rfl (hb hby d4_71) rfl) ?_
                    refine Go.via (fun _ => XS.bipush X120.here hx rfl (hb hby d4_72)) ?_
                    by_cases hc124 : c2 = (45 : Int32)
                    · -- yes
                      refine Go.via (fun _ => XS.icmpYes X120.here hx rfl (pc0 := 74) (pc' := 79) rfl (hb hby d4_74) rfl (teq hc124).1 (by decide) (by decide)) ?_
                      exact nx2 _ _ X120 e120q N120 (by simp [okF, hc112, hc113, hc119, hc121, hc122, hc123, hc124])
                    · -- no
                      refine Go.via (fun _ => XS.icmpNo X120.here hx rfl (hb hby d4_74) rfl (feq hc124).1) ?_
                      refine Go.via (fun _ => XS.iconst X120.here hx rfl (hb hby d4_77)) ?_
                      show Go p e below _ (T120.setTop (mkF m 78 #[rv a1, iv lg, iv (2 : Int32), iv c2] [(.int (0 : Int32))]))
                      have hz : okF c2 = (0 : Int32) := by simp [okF, hc112, hc113, hc119, hc121, hc122, hc123, hc124]
                      exact own_retN X120 hx hlk (t := .boolean) Bd.returns (by simp) (hb hby d4_78) (by show QN3 Z lg c0 c1 c2 h0 n0 _ T120.heap _; rw [e120q]; exact ⟨by simp [nm3, nar, hz, hc103, hok0, hok1], N120, rfl⟩) (by decide) (by decide)
              · -- no
                show Go p e below _ (T120.setTop (mkF m 56 #[rv a1, iv lg, iv (2 : Int32), iv c2] [(.int (dgF c2))]))
                refine Go.via (fun _ => XS.ifYes X120.here hx rfl (pc0 := 56) (pc' := 79) rfl (hb hby d4_56) rfl ((if0 _ _).trans (feq hc121).2) (by decide) (by decide)) ?_
                exact nx2 _ _ X120 e120q N120 (by simp [okF, hc112, hc113, hc119, hc121])
            · -- no
              refine Go.via (fun _ => XS.icmpYes X111.here hx rfl (pc0 := 49) (pc' := 79) rfl (hb hby d4_49) rfl (flt hc119).2.2.2 (by decide) (by decide)) ?_
              exact nx2 _ _ X111 e111q N111 (by simp [okF, hc112, hc113, hc119])
        · -- no
          refine Go.via (fun _ => XS.ifYes X111.here hx rfl (pc0 := 37) (pc' := 79) rfl (hb hby d4_37) rfl ((if0 _ _).trans (feq hc112).2) (by decide) (by decide)) ?_
          exact nx2 _ _ X111 e111q N111 (by simp [okF, hc112])
      refine Go.via (fun _ => XS.iloadN X107.here hx rfl (hb hby d4_33) rfl) ?_
      obtain ⟨_, _, ⟨T125, L125, k125, n125⟩, -, X125, ⟨Lc125, hQ125, l125, y125, z125⟩, st125⟩ := Jvm.LawKit.callS X107 hx (y := (⟨"com/example/timed_cap/timedcap/model/Names", "isLowerCase", "(C)Z"⟩ : MethodName)) hown (mvT hZ (ow hw 79 rfl)) (mvT hZ (ow hw 80 rfl)) (mvT hZ (ow hw 25 rfl)) (mvT hZ (ow hw 81 rfl)) (by decide) (backOf (W := 0) (rm_isLowerCase l Z a0 hw [] c1 h0 n0 Z0) hZ (ow hw 81 rfl) (ow hw 25 rfl) (by decide) (by decide)) (g := (mkF m 34 #[rv a1, iv lg, iv (1 : Int32), iv c1] [(.int c1)])) rfl (by rw [hml]; rfl) (argsL := [(.int c1)]) (rest := []) (lenOf pd_7 rfl) rfl (by show 2 * 0 + _ ≤ _; exact Nat.le_of_eq rfl) (hb hby d4_34) (fun _ _ => ⟨rfl, e107q, (by decide : 0 + 0 ≤ _), (by decide : 0 + 0 ≤ _)⟩)
      dsimp only [Pt.U, Pt.locs, Pt.cells, Pt.slots] at X125 l125 y125 z125 st125 hQ125
      rw [l125, y125, z125] at X125
      replace X125 : Stand p l e _ _ m _ below meth c T125 _ 0 0 := X125
      obtain ⟨rfl, N125q, e125q⟩ := hQ125
      have N125 := Fr.app N107 N125q
      refine Go.via st125 ?_
      by_cases hc126 : (loF c1) = (0 : Int32)
      · -- yes
        refine Go.via (fun _ => XS.ifNo X125.here hx rfl (hb hby d4_37) rfl ((if0 _ _).trans (teq hc126).2)) ?_
        show Go p e below _ (T125.setTop (mkF m 40 #[rv a1, iv lg, iv (1 : Int32), iv c1] []))
        refine Go.via (fun _ => XS.iloadN X125.here hx rfl (hb hby d4_40) rfl) ?_
        refine Go.via (fun _ => XS.bipush X125.here hx rfl (hb hby d4_41)) ?_
        by_cases hc127 : c1 < (65 : Int32)
        · -- yes
          refine Go.via (fun _ => XS.icmpYes X125.here hx rfl (pc0 := 43) (pc' := 52) rfl (hb hby d4_43) rfl (tlt hc127).1 (by decide) (by decide)) ?_
          refine Go.via (fun _ => XS.iloadN X125.here hx rfl (hb hby d4_52) rfl) ?_
          show Go p e below _ (T125.setTop (mkF m 53 #[rv a1, iv lg, iv (1 : Int32), iv c1] [(.int c1)]))
          obtain ⟨_, _, ⟨T128, L128, k128, n128⟩, -, X128, ⟨Lc128, hQ128, l128, y128, z128⟩, st128⟩ := Jvm.LawKit.callS X125 hx (y := (⟨"com/example/timed_cap/timedcap/model/Names", "isDigit", "(C)Z"⟩ : MethodName)) hown (mvT hZ (ow hw 82 rfl)) (mvT hZ (ow hw 83 rfl)) (mvT hZ (ow hw 25 rfl)) (mvT hZ (ow hw 84 rfl)) (by decide) (backOf (W := 0) (rm_isDigit l Z a0 hw [] c1 h0 n0 Z0) hZ (ow hw 84 rfl) (ow hw 25 rfl) (by decide) (by decide)) (g := (mkF m 53 #[rv a1, iv lg, iv (1 : Int32), iv c1] [(.int c1)])) rfl (by rw [hml]; rfl) (argsL := [(.int c1)]) (rest := []) (lenOf pd_7 rfl) rfl (by show 2 * 0 + _ ≤ _; exact Nat.le_of_eq rfl) (hb hby d4_53) (fun _ _ => ⟨rfl, e125q, (by decide : 0 + 0 ≤ _), (by decide : 0 + 0 ≤ _)⟩)
          dsimp only [Pt.U, Pt.locs, Pt.cells, Pt.slots] at X128 l128 y128 z128 st128 hQ128
          rw [l128, y128, z128] at X128
          replace X128 : Stand p l e _ _ m _ below meth c T128 _ 0 0 := X128
          obtain ⟨rfl, N128q, e128q⟩ := hQ128
          have N128 := Fr.app N125 N128q
          refine Go.via st128 ?_
          by_cases hc129 : (dgF c1) = (0 : Int32)
          · -- yes
            refine Go.via (fun _ => XS.ifNo X128.here hx rfl (hb hby d4_56) rfl ((if0 _ _).trans (teq hc129).2)) ?_
            refine Go.via (fun _ => XS.iloadN X128.here hx rfl (hb hby d4_59) rfl) ?_
            refine Go.via (fun _ => XS.bipush X128.here hx rfl (hb hby d4_60)) ?_
            show Go p e below _ (T128.setTop (mkF m 62 #[rv a1, iv lg, iv (1 : Int32), iv c1] [(.int (46 : Int32)), (.int c1)]))
            by_cases hc130 : c1 = (46 : Int32)
            · -- yes
              refine Go.via (fun _ => XS.icmpYes X128.here hx rfl (pc0 := 62) (pc' := 79) rfl (hb hby d4_62) rfl (teq hc130).1 (by decide) (by decide)) ?_
              exact nx1 _ _ X128 e128q N128 (by simp [okF, hc126, hc127, hc129, hc130])
            · -- no
              refine Go.via (fun _ => XS.icmpNo X128.here hx rfl (hb hby d4_62) rfl (feq hc130).1) ?_
              refine Go.via (fun _ => XS.iloadN X128.here hx rfl (hb hby d4_65) rfl) ?_
              refine Go.via (fun _ => XS.bipush X128.here hx rfl (hb hby d4_66)) ?_
              by_cases hc131 : c1 = (95 : Int32)
              · -- yes
                show Go p e below _ (T128.setTop (mkF m 68 #[rv a1, iv lg, iv (1 : Int32), iv c1] [(.int (95 : Int32)), (.int c1)]))
                refine Go.via (fun _ => XS.icmpYes X128.here hx rfl (pc0 := 68) (pc' := 79) rfl (hb hby d4_68) rfl (teq hc131).1 (by decide) (by decide)) ?_
                exact nx1 _ _ X128 e128q N128 (by simp [okF, hc126, hc127, hc129, hc130, hc131])
              · -- no
                show Go p e below _ (T128.setTop (mkF m 68 #[rv a1, iv lg, iv (1 : Int32), iv c1] [(.int (95 : Int32)), (.int c1)]))
                refine Go.via (fun _ => XS.icmpNo X128.here hx rfl (hb hby d4_68) rfl (feq hc131).1) ?_
                refine Go.via (fun _ => XS.iloadN X128.here hx rfl (hb hby d4_71) rfl) ?_
                refine Go.via (fun _ => XS.bipush X128.here hx rfl (hb hby d4_72)) ?_
                by_cases hc132 : c1 = (45 : Int32)
                · -- yes
                  show Go p e below _ (T128.setTop (mkF m 74 #[rv a1, iv lg, iv (1 : Int32), iv c1] [(.int (45 : Int32)), (.int c1)]))
                  refine Go.via (fun _ => XS.icmpYes X128.here hx rfl (pc0 := 74) (pc' := 79) rfl (hb hby d4_74) rfl (teq hc132).1 (by decide) (by decide)) ?_
                  exact nx1 _ _ X128 e128q N128 (by simp [okF, hc126, hc127, hc129, hc130, hc131, hc132])
                · -- no
                  show Go p e below _ (T128.setTop (mkF m 74 #[rv a1, iv lg, iv (1 : Int32), iv c1] [(.int (45 : Int32)), (.int c1)]))
                  refine Go.via (fun _ => XS.icmpNo X128.here hx rfl (hb hby d4_74) rfl (feq hc132).1) ?_
                  refine Go.via (fun _ => XS.iconst X128.here hx rfl (hb hby d4_77)) ?_
                  have hz : okF c1 = (0 : Int32) := by simp [okF, hc126, hc127, hc129, hc130, hc131, hc132]
                  exact own_retN X128 hx hlk (t := .boolean) Bd.returns (by simp) (hb hby d4_78) (by show QN3 Z lg c0 c1 c2 h0 n0 _ T128.heap _; rw [e128q]; exact ⟨by simp [nm3, nar, hz, hc103, hok0], N128, rfl⟩) (by decide) (by decide)
          · -- no
            refine Go.via (fun _ => XS.ifYes X128.here hx rfl (pc0 := 56) (pc' := 79) rfl (hb hby d4_56) rfl ((if0 _ _).trans (feq hc129).2) (by decide) (by decide)) ?_
            exact nx1 _ _ X128 e128q N128 (by simp [okF, hc126, hc127, hc129])
        · -- no
          refine Go.via (fun _ => XS.icmpNo X125.here hx rfl (hb hby d4_43) rfl (flt hc127).1) ?_
          refine Go.via (fun _ => XS.iloadN X125.here hx rfl (hb hby d4_46) rfl) ?_
          show Go p e below _ (T125.setTop (mkF m 47 #[rv a1, iv lg, iv (1 : Int32), iv c1] [(.int c1)]))
          refine Go.via (fun _ => XS.bipush X125.here hx rfl (hb hby d4_47)) ?_
          by_cases hc133 : (90 : Int32) < c1
          · -- yes
            refine Go.via (fun _ => XS.icmpNo X125.here hx rfl (hb hby d4_49) rfl (tlt hc133).2.2.2) ?_
            refine Go.via (fun _ => XS.iloadN X125.here hx rfl (hb hby d4_52) rfl) ?_
            obtain ⟨_, _, ⟨T134, L134, k134, n134⟩, -, X134, ⟨Lc134, hQ134, l134, y134, z134⟩, st134⟩ := Jvm.LawKit.callS X125 hx (y := (⟨"com/example/timed_cap/timedcap/model/Names", "isDigit", "(C)Z"⟩ : MethodName)) hown (mvT hZ (ow hw 82 rfl)) (mvT hZ (ow hw 83 rfl)) (mvT hZ (ow hw 25 rfl)) (mvT hZ (ow hw 84 rfl)) (by decide) (backOf (W := 0) (rm_isDigit l Z a0 hw [] c1 h0 n0 Z0) hZ (ow hw 84 rfl) (ow hw 25 rfl) (by decide) (by decide)) (g := (mkF m 53 #[rv a1, iv lg, iv (1 : Int32), iv c1] [(.int c1)])) rfl (by rw [hml]; rfl) (argsL := [(.int c1)]) (rest := []) (lenOf pd_7 rfl) rfl (by show 2 * 0 + _ ≤ _; exact Nat.le_of_eq rfl) (hb hby d4_53) (fun _ _ => ⟨rfl, e125q, (by decide : 0 + 0 ≤ _), (by decide : 0 + 0 ≤ _)⟩)
            dsimp only [Pt.U, Pt.locs, Pt.cells, Pt.slots] at X134 l134 y134 z134 st134 hQ134
            rw [l134, y134, z134] at X134
            replace X134 : Stand p l e _ _ m _ below meth c T134 _ 0 0 := X134
            obtain ⟨rfl, N134q, e134q⟩ := hQ134
            have N134 := Fr.app N125 N134q
            refine Go.via st134 ?_
            show Go p e below _ (T134.setTop (mkF m 56 #[rv a1, iv lg, iv (1 : Int32), iv c1] [(.int (dgF c1))]))
            by_cases hc135 : (dgF c1) = (0 : Int32)
            · -- yes
              refine Go.via (fun _ => XS.ifNo X134.here hx rfl (hb hby d4_56) rfl ((if0 _ _).trans (teq hc135).2)) ?_
              refine Go.via (fun _ => XS.iloadN X134.here hx rfl (hb hby d4_59) rfl) ?_
              refine Go.via (fun _ => XS.bipush X134.here hx rfl (hb hby d4_60)) ?_
              by_cases hc136 : c1 = (46 : Int32)
              · -- yes
                show Go p e below _ (T134.setTop (mkF m 62 #[rv a1, iv lg, iv (1 : Int32), iv c1] [(.int (46 : Int32)), (.int c1)]))
                refine Go.via (fun _ => XS.icmpYes X134.here hx rfl (pc0 := 62) (pc' := 79) rfl (hb hby d4_62) rfl (teq hc136).1 (by decide) (by decide)) ?_
                exact nx1 _ _ X134 e134q N134 (by simp [okF, hc126, hc127, hc133, hc135, hc136])
              · -- no
                show Go p e below _ (T134.setTop (mkF m 62 #[rv a1, iv lg, iv (1 : Int32), iv c1] [(.int (46 : Int32)), (.int c1)]))
                refine Go.via (fun _ => XS.icmpNo X134.here hx rfl (hb hby d4_62) rfl (feq hc136).1) ?_
                refine Go.via (fun _ => XS.iloadN X134.here hx rfl (hb hby d4_65) rfl) ?_
                refine Go.via (fun _ => XS.bipush X134.here hx rfl (hb hby d4_66)) ?_
                by_cases hc137 : c1 = (95 : Int32)
                · -- yes
                  show Go p e below _ (T134.setTop (mkF m 68 #[rv a1, iv lg, iv (1 : Int32), iv c1] [(.int (95 : Int32)), (.int c1)]))
                  refine Go.via (fun _ => XS.icmpYes X134.here hx rfl (pc0 := 68) (pc' := 79) rfl (hb hby d4_68) rfl (teq hc137).1 (by decide) (by decide)) ?_
                  exact nx1 _ _ X134 e134q N134 (by simp [okF, hc126, hc127, hc133, hc135, hc136, hc137])
                · -- no
                  show Go p e below _ (T134.setTop (mkF m 68 #[rv a1, iv lg, iv (1 : Int32), iv c1] [(.int (95 : Int32)), (.int c1)]))
                  refine Go.via (fun _ => XS.icmpNo X134.here hx rfl (hb hby d4_68) rfl (feq hc137).1) ?_
                  refine Go.via (fun _ => XS.iloadN X134.here hx rfl (hb hby d4_71) rfl) ?_
                  refine Go.via (fun _ => XS.bipush X134.here hx rfl (hb hby d4_72)) ?_
                  by_cases hc138 : c1 = (45 : Int32)
                  · -- yes
                    refine Go.via (fun _ => XS.icmpYes X134.here hx rfl (pc0 := 74) (pc' := 79) rfl (hb hby d4_74) rfl (teq hc138).1 (by decide) (by decide)) ?_
                    show Go p e below _ (T134.setTop (mkF m 79 #[rv a1, iv lg, iv (1 : Int32), iv c1] []))
                    exact nx1 _ _ X134 e134q N134 (by simp [okF, hc126, hc127, hc133, hc135, hc136, hc137, hc138])
                  · -- no
                    refine Go.via (fun _ => XS.icmpNo X134.here hx rfl (hb hby d4_74) rfl (feq hc138).1) ?_
                    show Go p e below _ (T134.setTop (mkF m 77 #[rv a1, iv lg, iv (1 : Int32), iv c1] []))
                    refine Go.via (fun _ => XS.iconst X134.here hx rfl (hb hby d4_77)) ?_
                    have hz : okF c1 = (0 : Int32) := by simp [okF, hc126, hc127, hc133, hc135, hc136, hc137, hc138]
                    exact own_retN X134 hx hlk (t := .boolean) Bd.returns (by simp) (hb hby d4_78) (by show QN3 Z lg c0 c1 c2 h0 n0 _ T134.heap _; rw [e134q]; exact ⟨by simp [nm3, nar, hz, hc103, hok0], N134, rfl⟩) (by decide) (by decide)
            · -- no
              refine Go.via (fun _ => XS.ifYes X134.here hx rfl (pc0 := 56) (pc' := 79) rfl (hb hby d4_56) rfl ((if0 _ _).trans (feq hc135).2) (by decide) (by decide)) ?_
              exact nx1 _ _ X134 e134q N134 (by simp [okF, hc126, hc127, hc133, hc135])
          · -- no
            refine Go.via (fun _ => XS.icmpYes X125.here hx rfl (pc0 := 49) (pc' := 79) rfl (hb hby d4_49) rfl (flt hc133).2.2.2 (by decide) (by decide)) ?_
            exact nx1 _ _ X125 e125q N125 (by simp [okF, hc126, hc127, hc133])
      · -- no
        refine Go.via (fun _ => XS.ifYes X125.here hx rfl (pc0 := 37) (pc' := 79) rfl (hb hby d4_37) rfl ((if0 _ _).trans (feq hc126).2) (by decide) (by decide)) ?_
        show Go p e below _ (T125.setTop (mkF m 79 #[rv a1, iv lg, iv (1 : Int32), iv c1] []))
        exact nx1 _ _ X125 e125q N125 (by simp [okF, hc126])
    refine Go.via (fun _ => XS.iloadN X105.here hx rfl (hb hby d4_33) rfl) ?_
    obtain ⟨_, _, ⟨T139, L139, k139, n139⟩, -, X139, ⟨Lc139, hQ139, l139, y139, z139⟩, st139⟩ := Jvm.LawKit.callS X105 hx (y := (⟨"com/example/timed_cap/timedcap/model/Names", "isLowerCase", "(C)Z"⟩ : MethodName)) hown (mvT hZ (ow hw 79 rfl)) (mvT hZ (ow hw 80 rfl)) (mvT hZ (ow hw 25 rfl)) (mvT hZ (ow hw 81 rfl)) (by decide) (backOf (W := 0) (rm_isLowerCase l Z a0 hw [] c0 h0 n0 Z0) hZ (ow hw 81 rfl) (ow hw 25 rfl) (by decide) (by decide)) (g := (mkF m 34 #[rv a1, iv lg, iv (0 : Int32), iv c0] [(.int c0)])) rfl (by rw [hml]; rfl) (argsL := [(.int c0)]) (rest := []) (lenOf pd_7 rfl) rfl (by show 2 * 0 + _ ≤ _; exact Nat.le_of_eq rfl) (hb hby d4_34) (fun _ _ => ⟨rfl, e105q, (by decide : 0 + 0 ≤ _), (by decide : 0 + 0 ≤ _)⟩)
    dsimp only [Pt.U, Pt.locs, Pt.cells, Pt.slots] at X139 l139 y139 z139 st139 hQ139
    rw [l139, y139, z139] at X139
    replace X139 : Stand p l e _ _ m _ below meth c T139 _ 0 0 := X139
    obtain ⟨rfl, N139q, e139q⟩ := hQ139
    have N139 := Fr.app N105 N139q
    refine Go.via st139 ?_
    by_cases hc140 : (loF c0) = (0 : Int32)
    · -- yes
      show Go p e below _ (T139.setTop (mkF m 37 #[rv a1, iv lg, iv (0 : Int32), iv c0] [(.int (loF c0))]))
      refine Go.via (fun _ => XS.ifNo X139.here hx rfl (hb hby d4_37) rfl ((if0 _ _).trans (teq hc140).2)) ?_
      refine Go.via (fun _ => XS.iloadN X139.here hx rfl (hb hby d4_40) rfl) ?_
      refine Go.via (fun _ => XS.bipush X139.here hx rfl (hb hby d4_41)) ?_
      by_cases hc141 : c0 < (65 : Int32)
      · -- yes
        refine Go.via (fun _ => XS.icmpYes X139.here hx rfl (pc0 := 43) (pc' := 52) rfl (hb hby d4_43) rfl (tlt hc141).1 (by decide) (by decide)) ?_
        show Go p e below _ (T139.setTop (mkF m 52 #[rv a1, iv lg, iv (0 : Int32), iv c0] []))
        refine Go.via (fun _ => XS.iloadN X139.here hx rfl (hb hby d4_52) rfl) ?_
        obtain ⟨_, _, ⟨T142, L142, k142, n142⟩, -, X142, ⟨Lc142, hQ142, l142, y142, z142⟩, st142⟩ := Jvm.LawKit.callS X139 hx (y := (⟨"com/example/timed_cap/timedcap/model/Names", "isDigit", "(C)Z"⟩ : MethodName)) hown (mvT hZ (ow hw 82 rfl)) (mvT hZ (ow hw 83 rfl)) (mvT hZ (ow hw 25 rfl)) (mvT hZ (ow hw 84 rfl)) (by decide) (backOf (W := 0) (rm_isDigit l Z a0 hw [] c0 h0 n0 Z0) hZ (ow hw 84 rfl) (ow hw 25 rfl) (by decide) (by decide)) (g := (mkF m 53 #[rv a1, iv lg, iv (0 : Int32), iv c0] [(.int c0)])) rfl (by rw [hml]; rfl) (argsL := [(.int c0)]) (rest := []) (lenOf pd_7 rfl) rfl (by show 2 * 0 + _ ≤ _; exact Nat.le_of_eq rfl) (hb hby d4_53) (fun _ _ => ⟨rfl, e139q, (by decide : 0 + 0 ≤ _), (by decide : 0 + 0 ≤ _)⟩)
        dsimp only [Pt.U, Pt.locs, Pt.cells, Pt.slots] at X142 l142 y142 z142 st142 hQ142
        rw [l142, y142, z142] at X142
        replace X142 : Stand p l e _ _ m _ below meth c T142 _ 0 0 := X142
        obtain ⟨rfl, N142q, e142q⟩ := hQ142
        have N142 := Fr.app N139 N142q
        refine Go.via st142 ?_
        by_cases hc143 : (dgF c0) = (0 : Int32)
        · -- yes
          refine Go.via (fun _ => XS.ifNo X142.here hx rfl (hb hby d4_56) rfl ((if0 _ _).trans (teq hc143).2)) ?_
          refine Go.via (fun _ => XS.iloadN X142.here hx rfl (hb hby d4_59) rfl) ?_
          show Go p e below _ (T142.setTop (mkF m 60 #[rv a1, iv lg, iv (0 : Int32), iv c0] [(.int c0)]))
          refine Go.via (fun _ => XS.bipush X142.here hx rfl (hb hby d4_60)) ?_
          by_cases hc144 : c0 = (46 : Int32)
          · -- yes
            refine Go.via (fun _ => XS.icmpYes X142.here hx rfl (pc0 := 62) (pc' := 79) rfl (hb hby d4_62) rfl (teq hc144).1 (by decide) (by decide)) ?_
            exact nx0 _ _ X142 e142q N142 (by simp [okF, hc140, hc141, hc143, hc144])
          · -- no
            refine Go.via (fun _ => XS.icmpNo X142.here hx rfl (hb hby d4_62) rfl (feq hc144).1) ?_
            refine Go.via (fun _ => XS.iloadN X142.here hx rfl (hb hby d4_65) rfl) ?_
            refine Go.via (fun _ => XS.bipush X142.here hx rfl (hb hby d4_66)) ?_
            show Go p e below _ (T142.setTop (mkF m 68 #[rv a1, iv lg, iv (0 : Int32), iv c0] [(.int (95 : Int32)), (.int c0)]))
            by_cases hc145 : c0 = (95 : Int32)
            · -- yes
              refine Go.via (fun _ => XS.icmpYes X142.here hx rfl (pc0 := 68) (pc' := 79) rfl (hb hby d4_68) rfl (teq hc145).1 (by decide) (by decide)) ?_
              exact nx0 _ _ X142 e142q N142 (by simp [okF, hc140, hc141, hc143, hc144, hc145])
            · -- no
              refine Go.via (fun _ => XS.icmpNo X142.here hx rfl (hb hby d4_68) rfl (feq hc145).1) ?_
              refine Go.via (fun _ => XS.iloadN X142.here hx rfl (hb hby d4_71) rfl) ?_
              refine Go.via (fun _ => XS.bipush X142.here hx rfl (hb hby d4_72)) ?_
              by_cases hc146 : c0 = (45 : Int32)
              · -- yes
                show Go p e below _ (T142.setTop (mkF m 74 #[rv a1, iv lg, iv (0 : Int32), iv c0] [(.int (45 : Int32)), (.int c0)]))
                refine Go.via (fun _ => XS.icmpYes X142.here hx rfl (pc0 := 74) (pc' := 79) rfl (hb hby d4_74) rfl (teq hc146).1 (by decide) (by decide)) ?_
                exact nx0 _ _ X142 e142q N142 (by simp [okF, hc140, hc141, hc143, hc144, hc145, hc146])
              · -- no
                show Go p e below _ (T142.setTop (mkF m 74 #[rv a1, iv lg, iv (0 : Int32), iv c0] [(.int (45 : Int32)), (.int c0)]))
                refine Go.via (fun _ => XS.icmpNo X142.here hx rfl (hb hby d4_74) rfl (feq hc146).1) ?_
                refine Go.via (fun _ => XS.iconst X142.here hx rfl (hb hby d4_77)) ?_
                have hz : okF c0 = (0 : Int32) := by simp [okF, hc140, hc141, hc143, hc144, hc145, hc146]
                exact own_retN X142 hx hlk (t := .boolean) Bd.returns (by simp) (hb hby d4_78) (by show QN3 Z lg c0 c1 c2 h0 n0 _ T142.heap _; rw [e142q]; exact ⟨by simp [nm3, nar, hz, hc103], N142, rfl⟩) (by decide) (by decide)
        · -- no
          refine Go.via (fun _ => XS.ifYes X142.here hx rfl (pc0 := 56) (pc' := 79) rfl (hb hby d4_56) rfl ((if0 _ _).trans (feq hc143).2) (by decide) (by decide)) ?_
          exact nx0 _ _ X142 e142q N142 (by simp [okF, hc140, hc141, hc143])
      · -- no
        refine Go.via (fun _ => XS.icmpNo X139.here hx rfl (hb hby d4_43) rfl (flt hc141).1) ?_
        show Go p e below _ (T139.setTop (mkF m 46 #[rv a1, iv lg, iv (0 : Int32), iv c0] []))
        refine Go.via (fun _ => XS.iloadN X139.here hx rfl (hb hby d4_46) rfl) ?_
        refine Go.via (fun _ => XS.bipush X139.here hx rfl (hb hby d4_47)) ?_
        by_cases hc147 : (90 : Int32) < c0
        · -- yes
          refine Go.via (fun _ => XS.icmpNo X139.here hx rfl (hb hby d4_49) rfl (tlt hc147).2.2.2) ?_
          refine Go.via (fun _ => XS.iloadN X139.here hx rfl (hb hby d4_52) rfl) ?_
          show Go p e below _ (T139.setTop (mkF m 53 #[rv a1, iv lg, iv (0 : Int32), iv c0] [(.int c0)]))
          obtain ⟨_, _, ⟨T148, L148, k148, n148⟩, -, X148, ⟨Lc148, hQ148, l148, y148, z148⟩, st148⟩ := Jvm.LawKit.callS X139 hx (y := (⟨"com/example/timed_cap/timedcap/model/Names", "isDigit", "(C)Z"⟩ : MethodName)) hown (mvT hZ (ow hw 82 rfl)) (mvT hZ (ow hw 83 rfl)) (mvT hZ (ow hw 25 rfl)) (mvT hZ (ow hw 84 rfl)) (by decide) (backOf (W := 0) (rm_isDigit l Z a0 hw [] c0 h0 n0 Z0) hZ (ow hw 84 rfl) (ow hw 25 rfl) (by decide) (by decide)) (g := (mkF m 53 #[rv a1, iv lg, iv (0 : Int32), iv c0] [(.int c0)])) rfl (by rw [hml]; rfl) (argsL := [(.int c0)]) (rest := []) (lenOf pd_7 rfl) rfl (by show 2 * 0 + _ ≤ _; exact Nat.le_of_eq rfl) (hb hby d4_53) (fun _ _ => ⟨rfl, e139q, (by decide : 0 + 0 ≤ _), (by decide : 0 + 0 ≤ _)⟩)
          dsimp only [Pt.U, Pt.locs, Pt.cells, Pt.slots] at X148 l148 y148 z148 st148 hQ148
          rw [l148, y148, z148] at X148
          replace X148 : Stand p l e _ _ m _ below meth c T148 _ 0 0 := X148
          obtain ⟨rfl, N148q, e148q⟩ := hQ148
          have N148 := Fr.app N139 N148q
          refine Go.via st148 ?_
          by_cases hc149 : (dgF c0) = (0 : Int32)
          · -- yes
            refine Go.via (fun _ => XS.ifNo X148.here hx rfl (hb hby d4_56) rfl ((if0 _ _).trans (teq hc149).2)) ?_
            refine Go.via (fun _ => XS.iloadN X148.here hx rfl (hb hby d4_59) rfl) ?_
            refine Go.via (fun _ => XS.bipush X148.here hx rfl (hb hby d4_60)) ?_
            show Go p e below _ (T148.setTop (mkF m 62 #[rv a1, iv lg, iv (0 : Int32), iv c0] [(.int (46 : Int32)), (.int c0)]))
            by_cases hc150 : c0 = (46 : Int32)
            · -- yes
              refine Go.via (fun _ => XS.icmpYes X148.here hx rfl (pc0 := 62) (pc' := 79) rfl (hb hby d4_62) rfl (teq hc150).1 (by decide) (by decide)) ?_
              exact nx0 _ _ X148 e148q N148 (by simp [okF, hc140, hc141, hc147, hc149, hc150])
            · -- no
              refine Go.via (fun _ => XS.icmpNo X148.here hx rfl (hb hby d4_62) rfl (feq hc150).1) ?_
              refine Go.via (fun _ => XS.iloadN X148.here hx rfl (hb hby d4_65) rfl) ?_
              refine Go.via (fun _ => XS.bipush X148.here hx rfl (hb hby d4_66)) ?_
              by_cases hc151 : c0 = (95 : Int32)
              · -- yes
                show Go p e below _ (T148.setTop (mkF m 68 #[rv a1, iv lg, iv (0 : Int32), iv c0] [(.int (95 : Int32)), (.int c0)]))
                refine Go.via (fun _ => XS.icmpYes X148.here hx rfl (pc0 := 68) (pc' := 79) rfl (hb hby d4_68) rfl (teq hc151).1 (by decide) (by decide)) ?_
                exact nx0 _ _ X148 e148q N148 (by simp [okF, hc140, hc141, hc147, hc149, hc150, hc151])
              · -- no
                show Go p e below _ (T148.setTop (mkF m 68 #[rv a1, iv lg, iv (0 : Int32), iv c0] [(.int (95 : Int32)), (.int c0)]))
                refine Go.via (fun _ => XS.icmpNo X148.here hx rfl (hb hby d4_68) rfl (feq hc151).1) ?_
                refine Go.via (fun _ => XS.iloadN X148.here hx rfl (hb hby d4_71) rfl) ?_
                refine Go.via (fun _ => XS.bipush X148.here hx rfl (hb hby d4_72)) ?_
                by_cases hc152 : c0 = (45 : Int32)
                · -- yes
                  show Go p e below _ (T148.setTop (mkF m 74 #[rv a1, iv lg, iv (0 : Int32), iv c0] [(.int (45 : Int32)), (.int c0)]))
                  refine Go.via (fun _ => XS.icmpYes X148.here hx rfl (pc0 := 74) (pc' := 79) rfl (hb hby d4_74) rfl (teq hc152).1 (by decide) (by decide)) ?_
                  exact nx0 _ _ X148 e148q N148 (by simp [okF, hc140, hc141, hc147, hc149, hc150, hc151, hc152])
                · -- no
                  show Go p e below _ (T148.setTop (mkF m 74 #[rv a1, iv lg, iv (0 : Int32), iv c0] [(.int (45 : Int32)), (.int c0)]))
                  refine Go.via (fun _ => XS.icmpNo X148.here hx rfl (hb hby d4_74) rfl (feq hc152).1) ?_
                  refine Go.via (fun _ => XS.iconst X148.here hx rfl (hb hby d4_77)) ?_
                  have hz : okF c0 = (0 : Int32) := by simp [okF, hc140, hc141, hc147, hc149, hc150, hc151, hc152]
                  exact own_retN X148 hx hlk (t := .boolean) Bd.returns (by simp) (hb hby d4_78) (by show QN3 Z lg c0 c1 c2 h0 n0 _ T148.heap _; rw [e148q]; exact ⟨by simp [nm3, nar, hz, hc103], N148, rfl⟩) (by decide) (by decide)
          · -- no
            refine Go.via (fun _ => XS.ifYes X148.here hx rfl (pc0 := 56) (pc' := 79) rfl (hb hby d4_56) rfl ((if0 _ _).trans (feq hc149).2) (by decide) (by decide)) ?_
            exact nx0 _ _ X148 e148q N148 (by simp [okF, hc140, hc141, hc147, hc149])
        · -- no
          refine Go.via (fun _ => XS.icmpYes X139.here hx rfl (pc0 := 49) (pc' := 79) rfl (hb hby d4_49) rfl (flt hc147).2.2.2 (by decide) (by decide)) ?_
          exact nx0 _ _ X139 e139q N139 (by simp [okF, hc140, hc141, hc147])
    · -- no
      show Go p e below _ (T139.setTop (mkF m 37 #[rv a1, iv lg, iv (0 : Int32), iv c0] [(.int (loF c0))]))
      refine Go.via (fun _ => XS.ifYes X139.here hx rfl (pc0 := 37) (pc' := 79) rfl (hb hby d4_37) rfl ((if0 _ _).trans (feq hc140).2) (by decide) (by decide)) ?_
      exact nx0 _ _ X139 e139q N139 (by simp [okF, hc140])
def Tx3 (Z : State) (h : Heap) (a1 : Addr) (c0 : Int32) (c1 : Int32) (c2 : Int32) : Prop := (∃ (t : Addr) (kb : ClassId), Fld Z h a1 "java/lang/String" "value" "[B" (.ref t) ∧ Fld Z h a1 "java/lang/String" "coder" "B" (.int (0 : Int32)) ∧ Arv Z h t kb .byte (3 : Int32) [(.int (nar .byte (c0.toInt8.toInt32))), (.int (nar .byte (c1.toInt8.toInt32))), (.int (nar .byte (c2.toInt8.toInt32)))] (.int (0 : Int32)) ∧ ¬ ((255 : Int32) < c0) ∧ ¬ ((255 : Int32) < c1) ∧ ¬ ((255 : Int32) < c2)) ∨ (∃ (t : Addr) (kb : ClassId), Fld Z h a1 "java/lang/String" "value" "[B" (.ref t) ∧ Fld Z h a1 "java/lang/String" "coder" "B" (.int (1 : Int32)) ∧ Arv Z h t kb .byte (6 : Int32) [(.int (nar .byte ((c0 >>> ((0 : Int32) &&& 31)).toInt8.toInt32))), (.int (nar .byte ((c0 >>> ((8 : Int32) &&& 31)).toInt8.toInt32))), (.int (nar .byte ((c1 >>> ((0 : Int32) &&& 31)).toInt8.toInt32))), (.int (nar .byte ((c1 >>> ((8 : Int32) &&& 31)).toInt8.toInt32))), (.int (nar .byte ((c2 >>> ((0 : Int32) &&& 31)).toInt8.toInt32))), (.int (nar .byte ((c2 >>> ((8 : Int32) &&& 31)).toInt8.toInt32)))] (.int (0 : Int32)))
def QTx3 (Z : State) (a1 : Addr) (c0 : Int32) (c1 : Int32) (c2 : Int32) (h0 : Heap) (n0 : Nat) (v : Option Value) (h : Heap) (L : List Loc) : Prop := v = none ∧ Fr n0 L ∧ Keep h0 h [a1] ∧ Tx3 Z h a1 c0 c1 c2
theorem rmN_3 (l : Launch) (Z : State) (a0 : Array Value) (hw : TW Z a0) (ws : List Jvm.Cond) (a1 : Addr) (c0 : Int32) (c1 : Int32) (c2 : Int32) (lg : Int32) (ccs : Int32) (vF : Value) (h0 : Heap) (n0 : Nat) (Z0 : n0 ≤ h0.size) (E1 : Exa Z h0 a1 "java/lang/String") (tx : Tx3 Z h0 a1 c0 c1 c2) (hr0 : ¬ (c0 < (0 : Int32)) ∧ ¬ ((65535 : Int32) < c0)) (hr1 : ¬ (c1 < (0 : Int32)) ∧ ¬ ((65535 : Int32) < c1)) (hr2 : ¬ (c2 < (0 : Int32)) ∧ ¬ ((65535 : Int32) < c2)) (O0 : Old Z n0 h0) (G : SG Z ccs vF) :
    MF l Z (⟨"com/example/timed_cap/timedcap/model/Names", "isName", "(Ljava/lang/String;I)Z"⟩ : MethodName) prog_5_method_2_code 4 (some .boolean) ws (rmm 5 0 0 130) #[(.ref a1), (.int lg)] h0 (QN3 Z lg c0 c1 c2 h0 n0) := by
  rcases tx with ⟨t, kb, f1, f2, v2, hl0, hl1, hl2⟩ | ⟨t, kb, f1, f2, v2⟩
  · exact rmN_3_0 l Z a0 hw ws a1 t kb c0 c1 c2 lg ccs vF h0 n0 Z0 E1 f1 f2 v2 (own_l8 hr0.1 hl0) (own_l8 hr1.1 hl1) (own_l8 hr2.1 hl2) (own_nch hr0.1 hr0.2) (own_nch hr1.1 hr1.2) (own_nch hr2.1 hr2.2) O0 G
  · exact rmN_3_1 l Z a0 hw ws a1 t kb c0 c1 c2 lg ccs vF h0 n0 Z0 E1 f1 f2 v2 (own_u16 c0 hr0.1 hr0.2) (own_u16 c1 hr1.1 hr1.2) (own_u16 c2 hr2.1 hr2.2) (own_nch hr0.1 hr0.2) (own_nch hr1.1 hr1.2) (own_nch hr2.1 hr2.2) O0 G
open Jvm.Free.SB Jvm.Free.SBG in
theorem own_safe {Z : State} {EL : List (String × Nat)} {vm : Vm} {h : Heap} {x : Addr} (hal : Z.vm.Alike vm) (E : Exa Z h x "java/lang/String") (F : Fld Z h x "java/lang/String" "value" "[B" .null) : Safe Z EL vm h x := fun B => by
  obtain ⟨p, -, u, a, -, q, -, G, rfl | rfl⟩ := B
  · obtain ⟨cell, cf, k, i, f, f1, f2, f3, f4, f5, f6, f7⟩ := F
    cases (show h[q.sa]? = some q.sC from G.ha).symm.trans f1
    obtain ⟨cS, ⟨⟨s1, s2, s3, ⟨cv, kv, iv, s4, s4'⟩, ⟨cc, kc, ic, s5, s5'⟩, s6, s7, s8, s9, -⟩, -⟩, -⟩ := G
    obtain ⟨kv', z4⟩ := ff_back (U := Wst Z vm h) hal s4
    cases f2.symm.trans z4
    cases f7.symm.trans s8
  · obtain ⟨cell, k, e1, e2, e3, -, -⟩ := E
    cases (show h[q.sd]? = some q.SA from G.hd).symm.trans e1
    obtain ⟨cS, -, -, f, -⟩ := G
    have f' : vm.findClass "[B" = some q.SA.cls := f
    rw [hal.findClass] at f'
    obtain ⟨k1, q1, q2⟩ := Vm.findClass_spec f'
    obtain ⟨k2, q3, q4⟩ := Vm.findClass_spec e2
    cases q1.symm.trans q3
    exact absurd (q2.symm.trans q4) (by decide)
theorem ef_rmK4 (m : MethodId) (x0 : Addr) (x1 : Addr) : entryFrame m #[(.ref x0), (.ref x1), (.int (0 : Int32)), (.int (0 : Int32)), .null] 6 = mkF m 0 #[rv x0, rv x1, iv (0 : Int32), iv (0 : Int32), .val .null, .unset] [] := by first | (simp [entryFrame, mkF, argsToLocals, Value.category]; done) | rfl
set_option maxRecDepth 65536 in
set_option maxHeartbeats 40000000 in
theorem rmK4 (l : Launch) (Z : State) (a0 : Array Value) (hw : TW Z a0) (ws : List Jvm.Cond) (a1 : Addr) (a2 : Addr) (kc1 : ClassId) (ccs : Int32) (vF : Value) (h0 : Heap) (n0 : Nat) (Z0 : n0 ≤ h0.size) (E1 : Exa Z h0 a1 "java/lang/String") (F1 : Fld Z h0 a1 "java/lang/String" "value" "[B" .null) (F2 : Fld Z h0 a1 "java/lang/String" "coder" "B" (.int (0 : Int32))) (g1 : n0 ≤ a1) (ne1 : a1 ≠ a2) (V1 : Arv Z h0 a2 kc1 .char (0 : Int32) [] (.int (0 : Int32))) (hEW : EW Z a0 consts_1) (O0 : Old Z n0 h0) (G : SG Z ccs vF) :
    MetFree l (⟨"java/lang/String", "<init>", "([CIILjava/lang/Void;)V"⟩ : MethodName) (head1 (Jvm.Cond.code (⟨"java/lang/String", "<init>", "([CIILjava/lang/Void;)V"⟩ : MethodName) jdk_42_method_149_code 6 none :: ws) (rmm 1 4 8 12)) (fun a U => a = #[(.ref a1), (.ref a2), (.int (0 : Int32)), (.int (0 : Int32)), .null] ∧ Z.Warmed39 U.vm ∧ U.heap = h0 ∧ CHv Z consts_1 U.vm h0) (fun _ _ _ _ _ => True) (fun _ U o U' => ∃ v L, o = .returned v ∧ QTx0 Z a1 h0 n0 v U'.heap L ∧ CHr Z consts_1 U.vm U.heap U'.vm U'.heap ∧ ReturnedEndW U o U' L (rmm 1 4 8 12).cells (rmm 1 4 8 12).slots) := by
  refine MetFree.of_bodySF (plainFor_of_name pn_java_lang_String) hisR ?_
  intro p e s m args below meth c s₁ Bd hml0 hP hK
  obtain ⟨rfl, hZ, hh, hCH⟩ := hP
  have hx := Bd.exec
  have hby := Bd.bytes
  have hlk : meth.locks = false := Bd.notSynchronized
  have hml : c.maxLocals = 6 := hml0
  have hown : s.vm.findClass "java/lang/String" = some m.cls := findClass_of_methodNamed Bd.named
  have hnm := (name_of_methodNamed Bd.named Bd.method).1
  have rF := G.2.2.2.2.2.2
  have hcs := G.2.1
  have X0 : Stand p l e (rmm 1 4 8 12) (s.setVm s.vm) m #[(.ref a1), (.ref a2), (.int (0 : Int32)), (.int (0 : Int32)), .null] below meth c s₁ [] 0 0 := Stand.of_body Bd
  replace hZ : Z.Warmed39 (s.setVm s.vm).vm := hZ
  replace hown : (s.setVm s.vm).vm.findClass "java/lang/String" = some m.cls := hown
  have hS0 : s.Since s.vm 0 := (State.WarmedH.refl s).since 0
  have hk0 : 0 ≤ h0.size := Nat.zero_le _
  have R0 : CHr Z consts_1 s.vm h0 s.vm h0 := CHr.refl hCH
  have e0 : s₁.heap = h0 := by rw [← hh, Bd.state]; rfl
  have N0 := Fr.nil n0
  show Go p e below (FinH Z consts_1 s below (QTx0 Z a1 h0 n0) (rmm 1 4 8 12).cells (rmm 1 4 8 12).slots) (s₁.setTop (entryFrame m #[(.ref a1), (.ref a2), (.int (0 : Int32)), (.int (0 : Int32)), .null] 6))
  refine Go.via (fun t k => castTop (ef_rmK4 m a1 a2) k) ?_
  have sfa : Safe Z consts_1 s.vm h0 a1 := own_safe (hZ.alike) E1 F1
  refine Go.via (fun _ => XS.aloadN X0.here hx rfl (hb hby d2_0) rfl rfl) ?_
  obtain ⟨T101, X101, e101, st101⟩ := initO X0 hx hZ hown (ow hw 12 rfl) (ow hw 13 rfl) (ow hw 14 rfl) e0 (g := (mkF m 1 #[rv a1, rv a2, iv (0 : Int32), iv (0 : Int32), .val .null, .unset] [(.ref a1)])) rfl (by rw [hml]; rfl) rfl (hb hby d2_1) (by decide) (W := 0) (by show 2 * 0 + _ ≤ _; exact Nat.le_of_eq rfl) (by decide)
  refine Go.via st101 ?_
  refine Go.via (fun _ => XS.iloadN X101.here hx rfl (hb hby d2_4) rfl) ?_
  refine Go.via (fun _ => XS.ifNo X101.here hx rfl (hb hby d2_5) rfl (by decide)) ?_
  refine Go.via (fun _ => XS.aloadN X101.here hx rfl (hb hby d2_8) rfl rfl) ?_
  show Go p e below _ (T101.setTop (mkF m 9 #[rv a1, rv a2, iv (0 : Int32), iv (0 : Int32), .val .null, .unset] [(.ref a1)]))
  have wS102 : ∀ d ∈ Bundle.stringAtoms, d.before a0 Z = true := fun d hd => hw d (by simpa using (List.all_eq_true.mp (by decide +kernel : (Bundle.stringAtoms.all fun d => tables_1.contains d) = true)) d hd)
  obtain ⟨s102, T102, h102, kk102, sb102, kb102, X102, e102, E102, hS102, hk102, hZ102, hown102, ex102, fc102, fv102, va102, lta102, ltb102, cr102, -, sne102, st102⟩ := ldcCH X101 hx hZ hown (ow hw 15 rfl) wS102 e101 hS0 hk0 hEW (by simp [consts_1]) R0.1 (vs := []) (z := (0 : Int32)) (by decide +kernel) (by decide) (by decide) (g := (mkF m 9 #[rv a1, rv a2, iv (0 : Int32), iv (0 : Int32), .val .null, .unset] [(.ref a1)])) rfl (hb hby d2_9) (n := 0) (by decide +kernel) (by decide) (by decide) (by decide)
  refine Go.via st102 ?_
  have sf_a1_102 := cr102.safe E1.lt sfa
  have ne_a1_s102 := (sne102 a1 sf_a1_102).1
  have ne_a1_sb102 := (sne102 a1 sf_a1_102).2
  have Zs102 : n0 ≤ h102.size := Nat.le_trans Z0 E102.1
  have O102 : Old Z n0 h102 := O0.ext E102
  have K102 : Keep h0 h102 [a1] := (Keep.refl h0 [a1]).ext E102
  have fE_a1_102 := E1.ext E102
  have fF_a1_value_102 := F1.ext E102
  have fF_a1_coder_102 := F2.ext E102
  have fV_a2_102 := V1.ext E102
  have R102 : CHr Z consts_1 s.vm h0 T102.vm h102 := R0.trans cr102
  obtain ⟨T103, X103, e103, st103⟩ := getF X102 hx hZ102 hown102 (host := "") (Or.inl (ow hw 21 rfl)) Via.refl e102 fv102 (g := (mkF m 11 #[rv a1, rv a2, iv (0 : Int32), iv (0 : Int32), .val .null, .unset] [(.ref s102), (.ref a1)])) rfl rfl (hb hby d2_11)
  refine Go.via st103 ?_
  obtain ⟨T104, h104, X104, e104, W104, st104⟩ := putF X103 hx hZ102 hown102 (host := "") (Or.inl (ow hw 21 rfl)) Via.refl e103 fF_a1_value_102 fE_a1_102 (Or.inr ⟨(ow hw 17 rfl), rfl, hnm⟩) (ow hw 3 rfl) (ty := (.array .byte)) (by decide) rfl rfl (g := (mkF m 14 #[rv a1, rv a2, iv (0 : Int32), iv (0 : Int32), .val .null, .unset] [(.ref sb102), (.ref a1)])) rfl rfl (hb hby d2_14)
  refine Go.via st104 ?_
  have fF_a1_value_104 : Fld Z h104 a1 "java/lang/String" "value" "[B" (.ref sb102) := fF_a1_value_102.same W104
  have Zs104 : n0 ≤ h104.size := Nat.le_trans Zs102 (Keep.of_wr W104).1
  have hk104 : kk102 ≤ h104.size := Nat.le_trans hk102 (Keep.of_wr W104).1
  have sf_a1_104 := Safe.wr W104 sf_a1_102 R102.1 sf_a1_102
  have R104 : CHr Z consts_1 s.vm h0 T102.vm h104 := R102.trans (CHr.wr W104 sf_a1_102 R102.1)
  have O104 : Old Z n0 h104 := O102.wr W104 g1
  have K104 : Keep h0 h104 [a1] := K102.wr W104 (Or.inl (List.mem_of_getElem? (i := 0) rfl))
  have N104 := Fr.snoc X104 N0 g1
  have fE_a1_104 := fE_a1_102.wr W104
  have fF_a1_coder_104 := fF_a1_coder_102.other W104 (Or.inr (slot_ne (Or.inr (ow hw 18 rfl)) (Or.inr (ow hw 17 rfl)) (by decide) (t := .byte) (t' := (.array .byte)) (by decide) (by decide)))
  have fV_a2_104 := fV_a2_102.other W104 (Ne.symm ne1)
  have fE_s102_104 := ex102.wr W104
  have fF_s102_coder_104 := fc102.other W104 (Or.inl (Ne.symm ne_a1_s102))
  have fF_s102_value_104 := fv102.other W104 (Or.inl (Ne.symm ne_a1_s102))
  have fV_sb102_104 := va102.other W104 (Ne.symm ne_a1_sb102)
  refine Go.via (fun _ => XS.aloadN X104.here hx rfl (hb hby d2_17) rfl rfl) ?_
  have wS105 : ∀ d ∈ Bundle.stringAtoms, d.before a0 Z = true := fun d hd => hw d (by simpa using (List.all_eq_true.mp (by decide +kernel : (Bundle.stringAtoms.all fun d => tables_1.contains d) = true)) d hd)
  obtain ⟨s105, T105, h105, kk105, sb105, kb105, X105, e105, E105, hS105, hk105, hZ105, hown105, ex105, fc105, fv105, va105, lta105, ltb105, cr105, -, sne105, st105⟩ := ldcCH X104 hx hZ102 hown102 (ow hw 15 rfl) wS105 e104 hS102 hk104 hEW (by simp [consts_1]) R104.1 (vs := []) (z := (0 : Int32)) (by decide +kernel) (by decide) (by decide) (g := (mkF m 18 #[rv a1, rv a2, iv (0 : Int32), iv (0 : Int32), .val .null, .unset] [(.ref a1)])) rfl (hb hby d2_18) (n := 0) (by decide +kernel) (by decide) (by decide) (by decide)
  refine Go.via st105 ?_
  have sf_a1_105 := cr105.safe fE_a1_104.lt sf_a1_104
  have ne_a1_s105 := (sne105 a1 sf_a1_105).1
  have ne_a1_sb105 := (sne105 a1 sf_a1_105).2
  have Zs105 : n0 ≤ h105.size := Nat.le_trans Zs104 E105.1
  have O105 : Old Z n0 h105 := O104.ext E105
  have K105 : Keep h0 h105 [a1] := K104.ext E105
  have fE_a1_105 := fE_a1_104.ext E105
  have fF_a1_value_105 := fF_a1_value_104.ext E105
  have fF_a1_coder_105 := fF_a1_coder_104.ext E105
  have fV_a2_105 := fV_a2_104.ext E105
  have fE_s102_105 := fE_s102_104.ext E105
  have fF_s102_coder_105 := fF_s102_coder_104.ext E105
  have fF_s102_value_105 := fF_s102_value_104.ext E105
  have fV_sb102_105 := fV_sb102_104.ext E105
  have R105 : CHr Z consts_1 s.vm h0 T105.vm h105 := R104.trans cr105
  obtain ⟨T106, X106, e106, st106⟩ := getF X105 hx hZ105 hown105 (host := "") (Or.inl (ow hw 22 rfl)) Via.refl e105 fc105 (g := (mkF m 20 #[rv a1, rv a2, iv (0 : Int32), iv (0 : Int32), .val .null, .unset] [(.ref s105), (.ref a1)])) rfl rfl (hb hby d2_20)
  refine Go.via st106 ?_
  show Go p e below _ (T106.setTop (mkF m 23 #[rv a1, rv a2, iv (0 : Int32), iv (0 : Int32), .val .null, .unset] [(.int (0 : Int32)), (.ref a1)]))
  obtain ⟨T107, h107, X107, e107, W107, st107⟩ := putFN X106 hx hZ105 hown105 (ow hw 22 rfl) Via.refl e106 fF_a1_coder_105 fE_a1_105 (Or.inr ⟨(ow hw 18 rfl), rfl, hnm⟩) (ow hw 3 rfl) (ty := .byte) (v' := .int (nar .byte (0 : Int32))) (by decide) rfl (fits_nar_byte _) (g := (mkF m 23 #[rv a1, rv a2, iv (0 : Int32), iv (0 : Int32), .val .null, .unset] [(.int (0 : Int32)), (.ref a1)])) rfl rfl (hb hby d2_23)
  refine Go.via st107 ?_
  have fF_a1_coder_107 : Fld Z h107 a1 "java/lang/String" "coder" "B" (.int (0 : Int32)) := fF_a1_coder_105.same W107
  have Zs107 : n0 ≤ h107.size := Nat.le_trans Zs105 (Keep.of_wr W107).1
  have hk107 : kk105 ≤ h107.size := Nat.le_trans hk105 (Keep.of_wr W107).1
  have sf_a1_107 := Safe.wr W107 sf_a1_105 R105.1 sf_a1_105
  have R107 : CHr Z consts_1 s.vm h0 T105.vm h107 := R105.trans (CHr.wr W107 sf_a1_105 R105.1)
  have O107 : Old Z n0 h107 := O105.wr W107 g1
  have K107 : Keep h0 h107 [a1] := K105.wr W107 (Or.inl (List.mem_of_getElem? (i := 0) rfl))
  have N107 := Fr.snoc X107 N104 g1
  have fE_a1_107 := fE_a1_105.wr W107
  have fF_a1_value_107 := fF_a1_value_105.other W107 (Or.inr (slot_ne (Or.inr (ow hw 17 rfl)) (Or.inr (ow hw 18 rfl)) (by decide) (t := (.array .byte)) (t' := .byte) (by decide) (by decide)))
  have fV_a2_107 := fV_a2_105.other W107 (Ne.symm ne1)
  have fE_s102_107 := fE_s102_105.wr W107
  have fF_s102_coder_107 := fF_s102_coder_105.other W107 (Or.inl (Ne.symm ne_a1_s102))
  have fF_s102_value_107 := fF_s102_value_105.other W107 (Or.inl (Ne.symm ne_a1_s102))
  have fV_sb102_107 := fV_sb102_105.other W107 (Ne.symm ne_a1_sb102)
  have fE_s105_107 := ex105.wr W107
  have fF_s105_coder_107 := fc105.other W107 (Or.inl (Ne.symm ne_a1_s105))
  have fF_s105_value_107 := fv105.other W107 (Or.inl (Ne.symm ne_a1_s105))
  have fV_sb105_107 := va105.other W107 (Ne.symm ne_a1_sb105)
  have hR : CHr Z consts_1 s.vm s.heap T107.vm T107.heap := by rw [hh, e107]; exact R107.trans (CHv.at X107 hZ105 hEW R107.1)
  exact own_retVH X107 hS105 (by rw [e107]; exact hk107) hR hx hlk Bd.returns (hb hby d2_26) (by show QTx0 Z a1 h0 n0 _ T107.heap _; rw [e107]; exact ⟨rfl, N107, K107, sb102, kb102, fF_a1_value_107, fF_a1_coder_107, fV_sb102_107⟩) (by decide) (by decide)
theorem ef_rmK1 (m : MethodId) (x0 : Addr) (x1 : Addr) : entryFrame m #[(.ref x0), (.ref x1)] 2 = mkF m 0 #[rv x0, rv x1] [] := by first | (simp [entryFrame, mkF, argsToLocals, Value.category]; done) | rfl
set_option maxRecDepth 65536 in
set_option maxHeartbeats 40000000 in
theorem rmK1 (l : Launch) (Z : State) (a0 : Array Value) (hw : TW Z a0) (ws : List Jvm.Cond) (a1 : Addr) (a2 : Addr) (kc1 : ClassId) (ccs : Int32) (vF : Value) (h0 : Heap) (n0 : Nat) (Z0 : n0 ≤ h0.size) (E1 : Exa Z h0 a1 "java/lang/String") (F1 : Fld Z h0 a1 "java/lang/String" "value" "[B" .null) (F2 : Fld Z h0 a1 "java/lang/String" "coder" "B" (.int (0 : Int32))) (g1 : n0 ≤ a1) (ne1 : a1 ≠ a2) (V1 : Arv Z h0 a2 kc1 .char (0 : Int32) [] (.int (0 : Int32))) (hEW : EW Z a0 consts_1) (O0 : Old Z n0 h0) (G : SG Z ccs vF) :
    MetFree l (⟨"java/lang/String", "<init>", "([C)V"⟩ : MethodName) (head1 (Jvm.Cond.code (⟨"java/lang/String", "<init>", "([C)V"⟩ : MethodName) jdk_42_method_3_code 2 none :: ws) (rmm 2 4 8 29)) (fun a U => a = #[(.ref a1), (.ref a2)] ∧ Z.Warmed39 U.vm ∧ U.heap = h0 ∧ CHv Z consts_1 U.vm h0) (fun _ _ _ _ _ => True) (fun _ U o U' => ∃ v L, o = .returned v ∧ QTx0 Z a1 h0 n0 v U'.heap L ∧ CHr Z consts_1 U.vm U.heap U'.vm U'.heap ∧ ReturnedEndW U o U' L (rmm 2 4 8 29).cells (rmm 2 4 8 29).slots) := by
  refine MetFree.of_bodySF (plainFor_of_name pn_java_lang_String) hisR ?_
  intro p e s m args below meth c s₁ Bd hml0 hP hK
  obtain ⟨rfl, hZ, hh, hCH⟩ := hP
  have hx := Bd.exec
  have hby := Bd.bytes
  have hlk : meth.locks = false := Bd.notSynchronized
  have hml : c.maxLocals = 2 := hml0
  have hown : s.vm.findClass "java/lang/String" = some m.cls := findClass_of_methodNamed Bd.named
  have hnm := (name_of_methodNamed Bd.named Bd.method).1
  have rF := G.2.2.2.2.2.2
  have hcs := G.2.1
  have X0 : Stand p l e (rmm 2 4 8 29) (s.setVm s.vm) m #[(.ref a1), (.ref a2)] below meth c s₁ [] 0 0 := Stand.of_body Bd
  replace hZ : Z.Warmed39 (s.setVm s.vm).vm := hZ
  replace hown : (s.setVm s.vm).vm.findClass "java/lang/String" = some m.cls := hown
  have hS0 : s.Since s.vm 0 := (State.WarmedH.refl s).since 0
  have hk0 : 0 ≤ h0.size := Nat.zero_le _
  have R0 : CHr Z consts_1 s.vm h0 s.vm h0 := CHr.refl hCH
  have e0 : s₁.heap = h0 := by rw [← hh, Bd.state]; rfl
  have N0 := Fr.nil n0
  show Go p e below (FinH Z consts_1 s below (QTx0 Z a1 h0 n0) (rmm 2 4 8 29).cells (rmm 2 4 8 29).slots) (s₁.setTop (entryFrame m #[(.ref a1), (.ref a2)] 2))
  refine Go.via (fun t k => castTop (ef_rmK1 m a1 a2) k) ?_
  have sfa : Safe Z consts_1 s.vm h0 a1 := own_safe (hZ.alike) E1 F1
  refine Go.via (fun _ => XS.aloadN X0.here hx rfl (hb hby d1_0) rfl rfl) ?_
  refine Go.via (fun _ => XS.aloadN X0.here hx rfl (hb hby d1_1) rfl rfl) ?_
  refine Go.via (fun _ => XS.iconst X0.here hx rfl (hb hby d1_2)) ?_
  refine Go.via (fun _ => XS.aloadN X0.here hx rfl (hb hby d1_3) rfl rfl) ?_
  obtain ⟨cl101, Ar101, -, S101, N101n, -, -⟩ := id V1
  have al101 := X0.arraylength hx (by rw [e0]; exact Ar101.1) (State.isArrayOf_alike hZ.alike Ar101.2.1) (g := (mkF m 4 #[rv a1, rv a2] [(.ref a2), (.int (0 : Int32)), (.ref a2), (.ref a1)])) rfl rfl (hb hby d1_4)
  rw [len_of S101 N101n] at al101
  refine Go.via al101 ?_
  show Go p e below _ (s₁.setTop (mkF m 5 #[rv a1, rv a2] [(.int (0 : Int32)), (.int (0 : Int32)), (.ref a2), (.ref a1)]))
  refine Go.via (fun _ => XS.aconstNull X0.here hx rfl (hb hby d1_5)) ?_
  obtain ⟨_, _, ⟨T102, L102, k102, n102⟩, -, X102, S102w, gr102, ⟨Lc102, hQ102, l102, y102, z102, cr102⟩, st102⟩ := X0.specialBackS hx (y := (⟨"java/lang/String", "<init>", "([CIILjava/lang/Void;)V"⟩ : MethodName)) rfl hown (mvT hZ (ow hw 8 rfl)) (mvT hZ (ow hw 9 rfl)) (mvT hZ (ow hw 11 rfl)) (by decide) (backOfSH (W := 0) (rmK4 l Z a0 hw [] a1 a2 kc1 ccs vF h0 n0 Z0 E1 F1 F2 g1 ne1 V1 hEW O0 G) hZ (ow hw 11 rfl) (ow hw 4 rfl) (by decide) (by decide) hEW R0.1) (g := (mkF m 6 #[rv a1, rv a2] [.null, (.int (0 : Int32)), (.int (0 : Int32)), (.ref a2), (.ref a1)])) rfl (by rw [hml]; rfl) (Steps.refl _) (a := a1) (argsL := [(.ref a2), (.int (0 : Int32)), (.int (0 : Int32)), .null]) (rest := []) (lenOf pd_10 rfl) rfl (by show 2 * 0 + _ ≤ _; exact Nat.le_of_eq rfl) (hb hby d1_6) (fun _ _ => ⟨rfl, e0, (by decide : 0 + 4 ≤ _), (by decide : 0 + 8 ≤ _)⟩)
  dsimp only [Pt.U, Pt.locs, Pt.cells, Pt.slots] at X102 l102 y102 z102 st102 hQ102 S102w gr102 cr102
  rw [l102, y102, z102] at X102
  replace X102 : Stand p l e _ _ m _ below meth c T102 _ 4 8 := X102
  obtain ⟨rfl, N102q, K102q, tx102⟩ := hQ102
  have N102 := Fr.app N0 N102q
  refine Go.tr st102 ?_
  obtain ⟨X102r, hS102, hZ102, hown102⟩ := rebS hS0 (by rw [e0]; exact hk0) X102 S102w gr102 hZ hown
  have sf_a1_102 := cr102.safe E1.lt sfa
  have R102 : CHr Z consts_1 s.vm h0 T102.vm T102.heap := R0.trans cr102
  have Zs102 : n0 ≤ T102.heap.size := Nat.le_trans Z0 K102q.1
  have O102 : Old Z n0 T102.heap := O0.keep K102q (allS g1 all0)
  have K102 : Keep h0 T102.heap [a1] := (Keep.refl h0 [a1]).trans K102q (allS (Or.inl (List.mem_of_getElem? (i := 0) rfl)) all0)
  have fE_a1_102 := E1.keep K102q
  have fV_a2_102 := V1.keep K102q (ninS (Ne.symm ne1) nin0)
  have hR : CHr Z consts_1 s.vm s.heap T102.vm T102.heap := by rw [hh]; exact R102.trans (CHv.at X102r hZ102 hEW R102.1)
  exact own_retVH X102r hS102 (Nat.le_refl _) hR hx hlk Bd.returns (hb hby d1_9) (by show QTx0 Z a1 h0 n0 _ T102.heap _; exact ⟨rfl, N102, K102q, tx102⟩) (by decide) (by decide)
theorem ef_rmD2_1 (m : MethodId) (x0 : Addr) (x2 : Addr) : entryFrame m #[(.ref x0), (.int (0 : Int32)), (.ref x2), (.int (0 : Int32)), (.int (1 : Int32))] 7 = mkF m 0 #[rv x0, iv (0 : Int32), rv x2, iv (0 : Int32), iv (1 : Int32), .unset, .unset] [] := by first | (simp [entryFrame, mkF, argsToLocals, Value.category]; done) | rfl
def QD2_1 (Z : State) (a1 : Addr) (kc1 : ClassId) (b1 : Addr) (kc2 : ClassId) (c0 : Int32) (h0 : Heap) (n0 : Nat) (v : Option Value) (h : Heap) (L : List Loc) : Prop := Fr n0 L ∧ Keep h0 h [b1] ∧ ((v = some (.int (1 : Int32)) ∧ Arv Z h b1 kc2 .byte (1 : Int32) [(.int (nar .byte (c0.toInt8.toInt32)))] (.int (0 : Int32)) ∧ ¬ ((255 : Int32) < c0)) ∨ (v = some (.int (0 : Int32)) ∧ (255 : Int32) < c0))
set_option maxRecDepth 65536 in
set_option maxHeartbeats 40000000 in
theorem rmD2_1 (l : Launch) (Z : State) (a0 : Array Value) (hw : TW Z a0) (ws : List Jvm.Cond) (a1 : Addr) (kc1 : ClassId) (b1 : Addr) (kc2 : ClassId) (c0 : Int32) (h0 : Heap) (n0 : Nat) (Z0 : n0 ≤ h0.size) (V1 : Arv Z h0 a1 kc1 .char (1 : Int32) [(.int c0)] (.int (0 : Int32))) (V2 : Arv Z h0 b1 kc2 .byte (1 : Int32) [(.int (0 : Int32))] (.int (0 : Int32))) (g1 : n0 ≤ b1) (ne1 : a1 ≠ b1) :
    MF l Z (⟨"java/lang/StringUTF16", "compress", "([CI[BII)I"⟩ : MethodName) jdk_52_method_21_code 7 (some .int) ws (rmm 0 0 0 0) #[(.ref a1), (.int (0 : Int32)), (.ref b1), (.int (0 : Int32)), (.int (1 : Int32))] h0 (QD2_1 Z a1 kc1 b1 kc2 c0 h0 n0) := by
  refine MetFree.of_bodySF (plainFor_of_name pn_java_lang_StringUTF16) hisR ?_
  intro p e s m args below meth c s₁ Bd hml0 hP hK
  obtain ⟨rfl, hZ, hh⟩ := hP
  have hx := Bd.exec
  have hby := Bd.bytes
  have hlk : meth.locks = false := Bd.notSynchronized
  have hml : c.maxLocals = 7 := hml0
  have hown : s.vm.findClass "java/lang/StringUTF16" = some m.cls := findClass_of_methodNamed Bd.named
  have hnm := (name_of_methodNamed Bd.named Bd.method).1
  have X0 : Stand p l e (rmm 0 0 0 0) s m #[(.ref a1), (.int (0 : Int32)), (.ref b1), (.int (0 : Int32)), (.int (1 : Int32))] below meth c s₁ [] 0 0 := Stand.of_body Bd
  have e0 : s₁.heap = h0 := by rw [← hh, Bd.state]; rfl
  have N0 := Fr.nil n0
  show Go p e below (FinE s below (QD2_1 Z a1 kc1 b1 kc2 c0 h0 n0) (rmm 0 0 0 0).cells (rmm 0 0 0 0).slots) (s₁.setTop (entryFrame m #[(.ref a1), (.int (0 : Int32)), (.ref b1), (.int (0 : Int32)), (.int (1 : Int32))] 7))
  refine Go.via (fun t k => castTop (ef_rmD2_1 m a1 b1) k) ?_
  refine Go.via (fun _ => XS.iconst X0.here hx rfl (hb hby d7_0)) ?_
  refine Go.via (fun _ => XS.istore X0.here hx rfl (hb hby d7_1) rfl (l' := #[rv a1, iv (0 : Int32), rv b1, iv (0 : Int32), iv (1 : Int32), iv (0 : Int32), .unset]) rfl) ?_
  refine Go.via (fun _ => XS.iload X0.here hx rfl (hb hby d7_3) rfl) ?_
  refine Go.via (fun _ => XS.iload X0.here hx rfl (hb hby d7_5) rfl) ?_
  refine Go.via (fun _ => XS.icmpNo X0.here hx rfl (hb hby d7_7) rfl (by decide)) ?_
  show Go p e below _ (s₁.setTop (mkF m 10 #[rv a1, iv (0 : Int32), rv b1, iv (0 : Int32), iv (1 : Int32), iv (0 : Int32), .unset] []))
  refine Go.via (fun _ => XS.aloadN X0.here hx rfl (hb hby d7_10) rfl rfl) ?_
  refine Go.via (fun _ => XS.iloadN X0.here hx rfl (hb hby d7_11) rfl) ?_
  obtain ⟨cl101, Ar101, q101, S101, N101n, H101, G101⟩ := id V1
  have hin101 := inb_of (j := (0 : Int32)) S101 (by decide)
  have hat101 : cl101.slots[((0 : Int32) : Int32).toNatClampNeg]? = some (.int c0) := H101.at hin101 rfl
  refine Go.via (X0.caload hx (j := (0 : Int32)) (v := (.int c0)) (by rw [e0]; exact Ar101.1) (State.isArrayOf_alike hZ.alike Ar101.2.1) Ar101.2.2 hin101 hat101 (g := (mkF m 12 #[rv a1, iv (0 : Int32), rv b1, iv (0 : Int32), iv (1 : Int32), iv (0 : Int32), .unset] [(.int (0 : Int32)), (.ref a1)])) rfl rfl (hb hby d7_12)) ?_
  refine Go.via (fun _ => XS.istore X0.here hx rfl (hb hby d7_13) rfl (l' := #[rv a1, iv (0 : Int32), rv b1, iv (0 : Int32), iv (1 : Int32), iv (0 : Int32), iv c0]) rfl) ?_
  refine Go.via (fun _ => XS.iload X0.here hx rfl (hb hby d7_15) rfl) ?_
  refine Go.via (fun _ => XS.sipush X0.here hx rfl (hb hby d7_17)) ?_
  show Go p e below _ (s₁.setTop (mkF m 20 #[rv a1, iv (0 : Int32), rv b1, iv (0 : Int32), iv (1 : Int32), iv (0 : Int32), iv c0] [(.int (255 : Int32)), (.int c0)]))
  by_cases hc102 : (255 : Int32) < c0
  · -- yes
    refine Go.via (fun _ => XS.icmpNo X0.here hx rfl (hb hby d7_20) rfl (tlt hc102).2.2.2) ?_
    refine Go.via (fun _ => XS.iload X0.here hx rfl (hb hby d7_23) rfl) ?_
    exact own_retI X0 hx hlk Bd.returns (hb hby d7_25) (by show QD2_1 Z a1 kc1 b1 kc2 c0 h0 n0 _ s₁.heap _; rw [e0]; exact ⟨N0, (Keep.refl h0 [b1]), Or.inr (⟨rfl, hc102⟩)⟩) (by decide) (by decide)
  · -- no
    refine Go.via (fun _ => XS.icmpYes X0.here hx rfl (pc0 := 20) (pc' := 26) rfl (hb hby d7_20) rfl (flt hc102).2.2.2 (by decide) (by decide)) ?_
    refine Go.via (fun _ => XS.aloadN X0.here hx rfl (hb hby d7_26) rfl rfl) ?_
    refine Go.via (fun _ => XS.iloadN X0.here hx rfl (hb hby d7_27) rfl) ?_
    refine Go.via (fun _ => XS.iload X0.here hx rfl (hb hby d7_28) rfl) ?_
    show Go p e below _ (s₁.setTop (mkF m 30 #[rv a1, iv (0 : Int32), rv b1, iv (0 : Int32), iv (1 : Int32), iv (0 : Int32), iv c0] [(.int c0), (.int (0 : Int32)), (.ref b1)]))
    refine Go.via (fun _ => XS.i2b X0.here hx rfl (hb hby d7_30) rfl) ?_
    obtain ⟨cl103, Ar103, q103, S103, N103n, H103, G103⟩ := id V2
    have hin103 := inb_of (j := (0 : Int32)) S103 (by decide)
    obtain ⟨T103, h103, X103, e103, W103, st103⟩ := stB X0 hx hZ e0 Ar103 (j := (0 : Int32)) hin103 (g := (mkF m 31 #[rv a1, iv (0 : Int32), rv b1, iv (0 : Int32), iv (1 : Int32), iv (0 : Int32), iv c0] [(.int (c0.toInt8.toInt32)), (.int (0 : Int32)), (.ref b1)])) rfl rfl (hb hby d7_31)
    refine Go.via st103 ?_
    have V103 : Arv Z h103 b1 kc2 .byte (1 : Int32) [(.int (nar .byte (c0.toInt8.toInt32)))] (.int (0 : Int32)) := Arv.set Ar103 q103 S103 N103n H103 G103 (fits_nar_byte _) W103 0 rfl (Nat.le_of_ble_eq_true rfl)
    have Zs103 : n0 ≤ h103.size := Nat.le_trans Z0 (Keep.of_wr W103).1
    have K103 : Keep h0 h103 [b1] := (Keep.refl h0 [b1]).wr W103 (Or.inl (List.mem_of_getElem? (i := 0) rfl))
    have N103 := Fr.snoc X103 N0 g1
    have fV_a1_103 := V1.other W103 ne1
    refine Go.via (fun _ => XS.iinc X103.here hx rfl (hb hby d7_32) rfl (l' := #[rv a1, iv (1 : Int32), rv b1, iv (0 : Int32), iv (1 : Int32), iv (0 : Int32), iv c0]) rfl) ?_
    refine Go.via (fun _ => XS.iinc X103.here hx rfl (hb hby d7_35) rfl (l' := #[rv a1, iv (1 : Int32), rv b1, iv (1 : Int32), iv (1 : Int32), iv (0 : Int32), iv c0]) rfl) ?_
    refine Go.via (fun _ => XS.iinc X103.here hx rfl (hb hby d7_38) rfl (l' := #[rv a1, iv (1 : Int32), rv b1, iv (1 : Int32), iv (1 : Int32), iv (1 : Int32), iv c0]) rfl) ?_
    refine Go.via (fun _ => XS.goto X103.here hx rfl (pc0 := 41) (pc' := 3) rfl (hb hby d7_41) (by decide) (by decide)) ?_
    show Go p e below _ (T103.setTop (mkF m 3 #[rv a1, iv (1 : Int32), rv b1, iv (1 : Int32), iv (1 : Int32), iv (1 : Int32), iv c0] []))
    refine Go.via (fun _ => XS.iload X103.here hx rfl (hb hby d7_3) rfl) ?_
    refine Go.via (fun _ => XS.iload X103.here hx rfl (hb hby d7_5) rfl) ?_
    refine Go.via (fun _ => XS.icmpYes X103.here hx rfl (pc0 := 7) (pc' := 44) rfl (hb hby d7_7) rfl (by decide) (by decide) (by decide)) ?_
    refine Go.via (fun _ => XS.iload X103.here hx rfl (hb hby d7_44) rfl) ?_
    exact own_retI X103 hx hlk Bd.returns (hb hby d7_46) (by show QD2_1 Z a1 kc1 b1 kc2 c0 h0 n0 _ T103.heap _; rw [e103]; exact ⟨N103, K103, Or.inl ⟨rfl, V103, hc102⟩⟩) (by decide) (by decide)
theorem ef_rmNBL_1 (m : MethodId)  : entryFrame m #[(.int (1 : Int32))] 1 = mkF m 0 #[iv (1 : Int32)] [] := by first | (simp [entryFrame, mkF, argsToLocals, Value.category]; done) | rfl
def QNBL_1 (Z : State)  (h0 : Heap) (n0 : Nat) (v : Option Value) (h : Heap) (L : List Loc) : Prop := v = some (.int (2 : Int32)) ∧ Fr n0 L ∧ h = h0
set_option maxRecDepth 65536 in
set_option maxHeartbeats 40000000 in
theorem rmNBL_1 (l : Launch) (Z : State) (a0 : Array Value) (hw : TW Z a0) (ws : List Jvm.Cond)  (h0 : Heap) (n0 : Nat) (Z0 : n0 ≤ h0.size) :
    MF l Z (⟨"java/lang/StringUTF16", "newBytesLength", "(I)I"⟩ : MethodName) jdk_52_method_3_code 1 (some .int) ws (rmm 0 0 0 0) #[(.int (1 : Int32))] h0 (QNBL_1 Z  h0 n0) := by
  refine MetFree.of_bodySF (plainFor_of_name pn_java_lang_StringUTF16) hisR ?_
  intro p e s m args below meth c s₁ Bd hml0 hP hK
  obtain ⟨rfl, hZ, hh⟩ := hP
  have hx := Bd.exec
  have hby := Bd.bytes
  have hlk : meth.locks = false := Bd.notSynchronized
  have hml : c.maxLocals = 1 := hml0
  have hown : s.vm.findClass "java/lang/StringUTF16" = some m.cls := findClass_of_methodNamed Bd.named
  have hnm := (name_of_methodNamed Bd.named Bd.method).1
  have X0 : Stand p l e (rmm 0 0 0 0) s m #[(.int (1 : Int32))] below meth c s₁ [] 0 0 := Stand.of_body Bd
  have e0 : s₁.heap = h0 := by rw [← hh, Bd.state]; rfl
  have N0 := Fr.nil n0
  show Go p e below (FinE s below (QNBL_1 Z  h0 n0) (rmm 0 0 0 0).cells (rmm 0 0 0 0).slots) (s₁.setTop (entryFrame m #[(.int (1 : Int32))] 1))
  refine Go.via (fun t k => castTop (ef_rmNBL_1 m ) k) ?_
  refine Go.via (fun _ => XS.iloadN X0.here hx rfl (hb hby d21_0) rfl) ?_
  refine Go.via (fun _ => XS.ifYes X0.here hx rfl (pc0 := 1) (pc' := 12) rfl (hb hby d21_1) rfl (by decide) (by decide) (by decide)) ?_
  refine Go.via (fun _ => XS.iloadN X0.here hx rfl (hb hby d21_12) rfl) ?_
  refine Go.via (X0.ldcInt hx hown (mvT hZ (ow hw 94 rfl)) (g := (mkF m 13 #[iv (1 : Int32)] [(.int (1 : Int32))])) rfl (hb hby d21_13)) ?_
  refine Go.via (fun _ => XS.icmpYes X0.here hx rfl (pc0 := 15) (pc' := 55) rfl (hb hby d21_15) rfl (by decide) (by decide) (by decide)) ?_
  show Go p e below _ (s₁.setTop (mkF m 55 #[iv (1 : Int32)] []))
  refine Go.via (fun _ => XS.iloadN X0.here hx rfl (hb hby d21_55) rfl) ?_
  refine Go.via (fun _ => XS.iconst X0.here hx rfl (hb hby d21_56)) ?_
  refine Go.via (fun _ => XS.ishl X0.here hx rfl (hb hby d21_57) rfl) ?_
  exact own_retI X0 hx hlk Bd.returns (hb hby d21_58) (by show QNBL_1 Z  h0 n0 _ s₁.heap _; rw [e0]; exact ⟨rfl, N0, rfl⟩) (by decide) (by decide)
theorem ef_rmNBF_1 (m : MethodId)  : entryFrame m #[(.int (1 : Int32))] 1 = mkF m 0 #[iv (1 : Int32)] [] := by first | (simp [entryFrame, mkF, argsToLocals, Value.category]; done) | rfl
def QNBF_1 (Z : State)  (h0 : Heap) (n0 : Nat) (v : Option Value) (h : Heap) (L : List Loc) : Prop := ∃ (t : Addr) (kb : ClassId), v = some (.ref t) ∧ Fr n0 L ∧ Keep h0 h [] ∧ h0.size ≤ t ∧ Arv Z h t kb .byte (2 : Int32) [(.int (0 : Int32)), (.int (0 : Int32))] (.int (0 : Int32))
set_option maxRecDepth 65536 in
set_option maxHeartbeats 40000000 in
theorem rmNBF_1 (l : Launch) (Z : State) (a0 : Array Value) (hw : TW Z a0) (ws : List Jvm.Cond)  (h0 : Heap) (n0 : Nat) (Z0 : n0 ≤ h0.size) :
    MF l Z (⟨"java/lang/StringUTF16", "newBytesFor", "(I)[B"⟩ : MethodName) jdk_52_method_2_code 1 (some (.array .byte)) ws (rmm 1 1 2 12) #[(.int (1 : Int32))] h0 (QNBF_1 Z  h0 n0) := by
  refine MetFree.of_bodySF (plainFor_of_name pn_java_lang_StringUTF16) hisR ?_
  intro p e s m args below meth c s₁ Bd hml0 hP hK
  obtain ⟨rfl, hZ, hh⟩ := hP
  have hx := Bd.exec
  have hby := Bd.bytes
  have hlk : meth.locks = false := Bd.notSynchronized
  have hml : c.maxLocals = 1 := hml0
  have hown : s.vm.findClass "java/lang/StringUTF16" = some m.cls := findClass_of_methodNamed Bd.named
  have hnm := (name_of_methodNamed Bd.named Bd.method).1
  have X0 : Stand p l e (rmm 1 1 2 12) s m #[(.int (1 : Int32))] below meth c s₁ [] 0 0 := Stand.of_body Bd
  have e0 : s₁.heap = h0 := by rw [← hh, Bd.state]; rfl
  have N0 := Fr.nil n0
  show Go p e below (FinE s below (QNBF_1 Z  h0 n0) (rmm 1 1 2 12).cells (rmm 1 1 2 12).slots) (s₁.setTop (entryFrame m #[(.int (1 : Int32))] 1))
  refine Go.via (fun t k => castTop (ef_rmNBF_1 m ) k) ?_
  refine Go.via (fun _ => XS.iloadN X0.here hx rfl (hb hby d20_0) rfl) ?_
  obtain ⟨_, _, ⟨T101, L101, k101, n101⟩, -, X101, ⟨Lc101, hQ101, l101, y101, z101⟩, st101⟩ := Jvm.LawKit.callS X0 hx (y := (⟨"java/lang/StringUTF16", "newBytesLength", "(I)I"⟩ : MethodName)) hown (mvT hZ (ow hw 91 rfl)) (mvT hZ (ow hw 92 rfl)) (mvT hZ (ow hw 35 rfl)) (mvT hZ (ow hw 93 rfl)) (by decide) (backOf (W := 0) (rmNBL_1 l Z a0 hw [] h0 n0 Z0) hZ (ow hw 93 rfl) (ow hw 35 rfl) (by decide) (by decide)) (g := (mkF m 1 #[iv (1 : Int32)] [(.int (1 : Int32))])) rfl (by rw [hml]; rfl) (argsL := [(.int (1 : Int32))]) (rest := []) (lenOf pd_11 rfl) rfl (by show 2 * 0 + _ ≤ _; exact Nat.le_of_eq rfl) (hb hby d20_1) (fun _ _ => ⟨rfl, e0, (by decide : 0 + 0 ≤ _), (by decide : 0 + 0 ≤ _)⟩)
  dsimp only [Pt.U, Pt.locs, Pt.cells, Pt.slots] at X101 l101 y101 z101 st101 hQ101
  rw [l101, y101, z101] at X101
  replace X101 : Stand p l e _ _ m _ below meth c T101 _ 0 0 := X101
  obtain ⟨rfl, N101q, e101q⟩ := hQ101
  have N101 := Fr.app N0 N101q
  refine Go.via st101 ?_
  obtain ⟨T102, h102, k102, X102, e102, E102, A102, st102⟩ := newP X101 hx hZ (ow hw 16 rfl) e101q (g := (mkF m 4 #[iv (1 : Int32)] [(.int (2 : Int32))])) rfl (hb hby d20_4) rfl (by decide) (cap := 2) (by decide) (by decide) (by decide) (by decide)
  obtain ⟨b102, g102⟩ : ∃ z, z = h0.size := ⟨_, rfl⟩
  rw [← g102] at A102 st102
  have g_b102 : n0 ≤ b102 := Nat.le_trans Z0 (Nat.le_of_eq g102.symm)
  have sz_b102 : h0.size ≤ b102 := Nat.le_trans (Keep.refl h0 []).1 (Nat.le_of_eq g102.symm)
  refine Go.via st102 ?_
  have Zs102 : n0 ≤ h102.size := Nat.le_trans Z0 E102.1
  have K102 : Keep h0 h102 [] := (Keep.refl h0 []).ext E102
  have V_b102 : Arv Z h102 b102 k102 .byte (2 : Int32) [(.int (0 : Int32)), (.int (0 : Int32))] (.int (0 : Int32)) := (Arv.new A102 (by decide)).pad (pad_rep [] (.int (0 : Int32)) 2)
  exact own_retA X102 hx hlk Bd.returns rfl rfl (hb hby d20_6) (by show QNBF_1 Z  h0 n0 _ T102.heap _; rw [e102]; exact ⟨b102, k102, rfl, N101, K102, sz_b102, V_b102⟩) (by decide) (by decide)
theorem ef_rmPut_1_0 (m : MethodId) (x0 : Addr) (x2 : Int32) : entryFrame m #[(.ref x0), (.int (0 : Int32)), (.int x2)] 3 = mkF m 0 #[rv x0, iv (0 : Int32), iv x2] [] := by first | (simp [entryFrame, mkF, argsToLocals, Value.category]; done) | rfl
def QPut_1_0 (Z : State) (b1 : Addr) (kc2 : ClassId) (ch : Int32) (x0 : Value) (x1 : Value) (ccs : Int32) (vF : Value) (h0 : Heap) (n0 : Nat) (v : Option Value) (h : Heap) (L : List Loc) : Prop := v = none ∧ Fr n0 L ∧ Keep h0 h [b1] ∧ Arv Z h b1 kc2 .byte (2 : Int32) [(.int (nar .byte ((ch >>> ((0 : Int32) &&& 31)).toInt8.toInt32))), (.int (nar .byte ((ch >>> ((8 : Int32) &&& 31)).toInt8.toInt32)))] (.int (0 : Int32))
set_option maxRecDepth 65536 in
set_option maxHeartbeats 40000000 in
theorem rmPut_1_0 (l : Launch) (Z : State) (a0 : Array Value) (hw : TW Z a0) (ws : List Jvm.Cond) (b1 : Addr) (kc2 : ClassId) (ch : Int32) (x0 : Value) (x1 : Value) (ccs : Int32) (vF : Value) (h0 : Heap) (n0 : Nat) (Z0 : n0 ≤ h0.size) (V2 : Arv Z h0 b1 kc2 .byte (2 : Int32) [x0, x1] (.int (0 : Int32))) (g1 : n0 ≤ b1) (O0 : Old Z n0 h0) (G : SG Z ccs vF) :
    MF l Z (⟨"java/lang/StringUTF16", "putChar", "([BII)V"⟩ : MethodName) jdk_52_method_4_code 3 none ws (rmm 0 0 0 0) #[(.ref b1), (.int (0 : Int32)), (.int ch)] h0 (QPut_1_0 Z b1 kc2 ch x0 x1 ccs vF h0 n0) := by
  refine MetFree.of_bodySF (plainFor_of_name pn_java_lang_StringUTF16) hisR ?_
  intro p e s m args below meth c s₁ Bd hml0 hP hK
  obtain ⟨rfl, hZ, hh⟩ := hP
  have hx := Bd.exec
  have hby := Bd.bytes
  have hlk : meth.locks = false := Bd.notSynchronized
  have hml : c.maxLocals = 3 := hml0
  have hown : s.vm.findClass "java/lang/StringUTF16" = some m.cls := findClass_of_methodNamed Bd.named
  have hnm := (name_of_methodNamed Bd.named Bd.method).1
  have rF := G.2.2.2.2.2.2
  have hcs := G.2.1
  have X0 : Stand p l e (rmm 0 0 0 0) s m #[(.ref b1), (.int (0 : Int32)), (.int ch)] below meth c s₁ [] 0 0 := Stand.of_body Bd
  have e0 : s₁.heap = h0 := by rw [← hh, Bd.state]; rfl
  have N0 := Fr.nil n0
  show Go p e below (FinE s below (QPut_1_0 Z b1 kc2 ch x0 x1 ccs vF h0 n0) (rmm 0 0 0 0).cells (rmm 0 0 0 0).slots) (s₁.setTop (entryFrame m #[(.ref b1), (.int (0 : Int32)), (.int ch)] 3))
  refine Go.via (fun t k => castTop (ef_rmPut_1_0 m b1 ch) k) ?_
  obtain ⟨T101, X101, e101, st101⟩ := getS2 X0 hx hZ hown (host := "") (Or.inl (ow hw 98 rfl)) Via.refl e0 (G.2.2.1.ext O0.2) (g := (mkF m 0 #[rv b1, iv (0 : Int32), iv ch] [])) rfl (hb hby d22_0)
  refine Go.via st101 ?_
  refine Go.via (fun _ => XS.ifYes X101.here hx rfl (pc0 := 3) (pc' := 28) rfl (hb hby d22_3) rfl (by decide) (by decide) (by decide)) ?_
  refine Go.via (fun _ => XS.iloadN X101.here hx rfl (hb hby d22_28) rfl) ?_
  refine Go.via (fun _ => XS.iconst X101.here hx rfl (hb hby d22_29)) ?_
  refine Go.via (fun _ => XS.ishl X101.here hx rfl (hb hby d22_30) rfl) ?_
  show Go p e below _ (T101.setTop (mkF m 31 #[rv b1, iv (0 : Int32), iv ch] [(.int (0 : Int32))]))
  refine Go.via (fun _ => XS.istoreN X101.here hx rfl (hb hby d22_31) rfl (l' := #[rv b1, iv (0 : Int32), iv ch]) rfl) ?_
  refine Go.via (fun _ => XS.aloadN X101.here hx rfl (hb hby d22_32) rfl rfl) ?_
  refine Go.via (fun _ => XS.iloadN X101.here hx rfl (hb hby d22_33) rfl) ?_
  refine Go.via (fun _ => XS.iinc X101.here hx rfl (hb hby d22_34) rfl (l' := #[rv b1, iv (1 : Int32), iv ch]) rfl) ?_
  refine Go.via (fun _ => XS.iloadN X101.here hx rfl (hb hby d22_37) rfl) ?_
  obtain ⟨T102, X102, e102, st102⟩ := getS2 X101 hx hZ hown (host := "") (Or.inl (ow hw 99 rfl)) Via.refl e101 (G.2.2.2.1.ext O0.2) (g := (mkF m 38 #[rv b1, iv (1 : Int32), iv ch] [(.int ch), (.int (0 : Int32)), (.ref b1)])) rfl (hb hby d22_38)
  refine Go.via st102 ?_
  show Go p e below _ (T102.setTop (mkF m 41 #[rv b1, iv (1 : Int32), iv ch] [(.int (0 : Int32)), (.int ch), (.int (0 : Int32)), (.ref b1)]))
  refine Go.via (fun _ => XS.ishr X102.here hx rfl (hb hby d22_41) rfl) ?_
  refine Go.via (fun _ => XS.i2b X102.here hx rfl (hb hby d22_42) rfl) ?_
  obtain ⟨cl103, Ar103, q103, S103, N103n, H103, G103⟩ := id V2
  have hin103 := inb_of (j := (0 : Int32)) S103 (by decide)
  obtain ⟨T103, h103, X103, e103, W103, st103⟩ := stB X102 hx hZ e102 Ar103 (j := (0 : Int32)) hin103 (g := (mkF m 43 #[rv b1, iv (1 : Int32), iv ch] [(.int ((ch >>> ((0 : Int32) &&& 31)).toInt8.toInt32)), (.int (0 : Int32)), (.ref b1)])) rfl rfl (hb hby d22_43)
  refine Go.via st103 ?_
  have V103 : Arv Z h103 b1 kc2 .byte (2 : Int32) [(.int (nar .byte ((ch >>> ((0 : Int32) &&& 31)).toInt8.toInt32))), x1] (.int (0 : Int32)) := Arv.set Ar103 q103 S103 N103n H103 G103 (fits_nar_byte _) W103 0 rfl (Nat.le_of_ble_eq_true rfl)
  have Zs103 : n0 ≤ h103.size := Nat.le_trans Z0 (Keep.of_wr W103).1
  have O103 : Old Z n0 h103 := O0.wr W103 g1
  have K103 : Keep h0 h103 [b1] := (Keep.refl h0 [b1]).wr W103 (Or.inl (List.mem_of_getElem? (i := 0) rfl))
  have N103 := Fr.snoc X103 N0 g1
  refine Go.via (fun _ => XS.aloadN X103.here hx rfl (hb hby d22_44) rfl rfl) ?_
  refine Go.via (fun _ => XS.iloadN X103.here hx rfl (hb hby d22_45) rfl) ?_
  refine Go.via (fun _ => XS.iloadN X103.here hx rfl (hb hby d22_46) rfl) ?_
  show Go p e below _ (T103.setTop (mkF m 47 #[rv b1, iv (1 : Int32), iv ch] [(.int ch), (.int (1 : Int32)), (.ref b1)]))
  obtain ⟨T104, X104, e104, st104⟩ := getS2 X103 hx hZ hown (host := "") (Or.inl (ow hw 100 rfl)) Via.refl e103 (G.2.2.2.2.1.ext O103.2) (g := (mkF m 47 #[rv b1, iv (1 : Int32), iv ch] [(.int ch), (.int (1 : Int32)), (.ref b1)])) rfl (hb hby d22_47)
  refine Go.via st104 ?_
  refine Go.via (fun _ => XS.ishr X104.here hx rfl (hb hby d22_50) rfl) ?_
  refine Go.via (fun _ => XS.i2b X104.here hx rfl (hb hby d22_51) rfl) ?_
  obtain ⟨cl105, Ar105, q105, S105, N105n, H105, G105⟩ := id V103
  have hin105 := inb_of (j := (1 : Int32)) S105 (by decide)
  obtain ⟨T105, h105, X105, e105, W105, st105⟩ := stB X104 hx hZ e104 Ar105 (j := (1 : Int32)) hin105 (g := (mkF m 52 #[rv b1, iv (1 : Int32), iv ch] [(.int ((ch >>> ((8 : Int32) &&& 31)).toInt8.toInt32)), (.int (1 : Int32)), (.ref b1)])) rfl rfl (hb hby d22_52)
  refine Go.via st105 ?_
  have V105 : Arv Z h105 b1 kc2 .byte (2 : Int32) [(.int (nar .byte ((ch >>> ((0 : Int32) &&& 31)).toInt8.toInt32))), (.int (nar .byte ((ch >>> ((8 : Int32) &&& 31)).toInt8.toInt32)))] (.int (0 : Int32)) := Arv.set Ar105 q105 S105 N105n H105 G105 (fits_nar_byte _) W105 1 rfl (Nat.le_of_ble_eq_true rfl)
  have Zs105 : n0 ≤ h105.size := Nat.le_trans Zs103 (Keep.of_wr W105).1
  have O105 : Old Z n0 h105 := O103.wr W105 g1
  have K105 : Keep h0 h105 [b1] := K103.wr W105 (Or.inl (List.mem_of_getElem? (i := 0) rfl))
  have N105 := Fr.snoc X105 N103 g1
  exact own_retV X105 hx hlk Bd.returns (hb hby d22_53) (by show QPut_1_0 Z b1 kc2 ch x0 x1 ccs vF h0 n0 _ T105.heap _; rw [e105]; exact ⟨rfl, N105, K105, V105⟩) (by decide) (by decide)
theorem ef_rmTo_1 (m : MethodId) (x0 : Addr) : entryFrame m #[(.ref x0), (.int (0 : Int32)), (.int (1 : Int32))] 5 = mkF m 0 #[rv x0, iv (0 : Int32), iv (1 : Int32), .unset, .unset] [] := by first | (simp [entryFrame, mkF, argsToLocals, Value.category]; done) | rfl
def QTo_1 (Z : State) (a1 : Addr) (kc1 : ClassId) (c0 : Int32) (ccs : Int32) (vF : Value) (h0 : Heap) (n0 : Nat) (v : Option Value) (h : Heap) (L : List Loc) : Prop := ∃ (t : Addr) (kb : ClassId), v = some (.ref t) ∧ Fr n0 L ∧ Keep h0 h [] ∧ h0.size ≤ t ∧ Arv Z h t kb .byte (2 : Int32) [(.int (nar .byte ((c0 >>> ((0 : Int32) &&& 31)).toInt8.toInt32))), (.int (nar .byte ((c0 >>> ((8 : Int32) &&& 31)).toInt8.toInt32)))] (.int (0 : Int32))
set_option maxRecDepth 65536 in
set_option maxHeartbeats 40000000 in
theorem rmTo_1 (l : Launch) (Z : State) (a0 : Array Value) (hw : TW Z a0) (ws : List Jvm.Cond) (a1 : Addr) (kc1 : ClassId) (c0 : Int32) (ccs : Int32) (vF : Value) (h0 : Heap) (n0 : Nat) (Z0 : n0 ≤ h0.size) (V1 : Arv Z h0 a1 kc1 .char (1 : Int32) [(.int c0)] (.int (0 : Int32))) (O0 : Old Z n0 h0) (G : SG Z ccs vF) :
    MF l Z (⟨"java/lang/StringUTF16", "toBytes", "([CII)[B"⟩ : MethodName) jdk_52_method_14_code 5 (some (.array .byte)) ws (rmm 2 1 2 24) #[(.ref a1), (.int (0 : Int32)), (.int (1 : Int32))] h0 (QTo_1 Z a1 kc1 c0 ccs vF h0 n0) := by
  refine MetFree.of_bodySF (plainFor_of_name pn_java_lang_StringUTF16) hisR ?_
  intro p e s m args below meth c s₁ Bd hml0 hP hK
  obtain ⟨rfl, hZ, hh⟩ := hP
  have hx := Bd.exec
  have hby := Bd.bytes
  have hlk : meth.locks = false := Bd.notSynchronized
  have hml : c.maxLocals = 5 := hml0
  have hown : s.vm.findClass "java/lang/StringUTF16" = some m.cls := findClass_of_methodNamed Bd.named
  have hnm := (name_of_methodNamed Bd.named Bd.method).1
  have rF := G.2.2.2.2.2.2
  have hcs := G.2.1
  have X0 : Stand p l e (rmm 2 1 2 24) s m #[(.ref a1), (.int (0 : Int32)), (.int (1 : Int32))] below meth c s₁ [] 0 0 := Stand.of_body Bd
  have e0 : s₁.heap = h0 := by rw [← hh, Bd.state]; rfl
  have N0 := Fr.nil n0
  show Go p e below (FinE s below (QTo_1 Z a1 kc1 c0 ccs vF h0 n0) (rmm 2 1 2 24).cells (rmm 2 1 2 24).slots) (s₁.setTop (entryFrame m #[(.ref a1), (.int (0 : Int32)), (.int (1 : Int32))] 5))
  refine Go.via (fun t k => castTop (ef_rmTo_1 m a1) k) ?_
  refine Go.via (fun _ => XS.iloadN X0.here hx rfl (hb hby d19_0) rfl) ?_
  obtain ⟨_, _, ⟨T101, L101, k101, n101⟩, -, X101, ⟨Lc101, hQ101, l101, y101, z101⟩, st101⟩ := Jvm.LawKit.callS X0 hx (y := (⟨"java/lang/StringUTF16", "newBytesFor", "(I)[B"⟩ : MethodName)) hown (mvT hZ (ow hw 88 rfl)) (mvT hZ (ow hw 89 rfl)) (mvT hZ (ow hw 35 rfl)) (mvT hZ (ow hw 90 rfl)) (by decide) (backOf (W := 0) (rmNBF_1 l Z a0 hw [] h0 n0 Z0) hZ (ow hw 90 rfl) (ow hw 35 rfl) (by decide) (by decide)) (g := (mkF m 1 #[rv a1, iv (0 : Int32), iv (1 : Int32), .unset, .unset] [(.int (1 : Int32))])) rfl (by rw [hml]; rfl) (argsL := [(.int (1 : Int32))]) (rest := []) (lenOf pd_12 rfl) rfl (by show 2 * 0 + _ ≤ _; exact Nat.le_of_eq rfl) (hb hby d19_1) (fun _ _ => ⟨rfl, e0, (by decide : 0 + 1 ≤ _), (by decide : 0 + 2 ≤ _)⟩)
  dsimp only [Pt.U, Pt.locs, Pt.cells, Pt.slots] at X101 l101 y101 z101 st101 hQ101
  rw [l101, y101, z101] at X101
  replace X101 : Stand p l e _ _ m _ below meth c T101 _ 1 2 := X101
  obtain ⟨t101, kb101, rfl, N101q, K101q, gt101, va101⟩ := hQ101
  have N101 := Fr.app N0 N101q
  refine Go.via st101 ?_
  have Zs101 : n0 ≤ T101.heap.size := Nat.le_trans Z0 K101q.1
  have O101 : Old Z n0 T101.heap := O0.keep K101q all0
  have K101 : Keep h0 T101.heap [] := (Keep.refl h0 []).trans K101q all0
  have fV_a1_101 := V1.keep K101q nin0
  have g_t101 : n0 ≤ t101 := Nat.le_trans Z0 gt101
  have ne_a1_t101 : a1 ≠ t101 := Nat.ne_of_lt (Nat.lt_of_lt_of_le V1.lt gt101)
  have sz_t101 : h0.size ≤ t101 := Nat.le_trans (Keep.refl h0 []).1 gt101
  refine Go.via (fun _ => XS.astoreN X101.here hx rfl (hb hby d19_4) rfl rfl (l' := #[rv a1, iv (0 : Int32), iv (1 : Int32), rv t101, .unset]) rfl) ?_
  refine Go.via (fun _ => XS.iconst X101.here hx rfl (hb hby d19_5)) ?_
  refine Go.via (fun _ => XS.istore X101.here hx rfl (hb hby d19_6) rfl (l' := #[rv a1, iv (0 : Int32), iv (1 : Int32), rv t101, iv (0 : Int32)]) rfl) ?_
  show Go p e below _ (T101.setTop (mkF m 8 #[rv a1, iv (0 : Int32), iv (1 : Int32), rv t101, iv (0 : Int32)] []))
  refine Go.via (fun _ => XS.iload X101.here hx rfl (hb hby d19_8) rfl) ?_
  refine Go.via (fun _ => XS.iloadN X101.here hx rfl (hb hby d19_10) rfl) ?_
  refine Go.via (fun _ => XS.icmpNo X101.here hx rfl (hb hby d19_11) rfl (by decide)) ?_
  refine Go.via (fun _ => XS.aloadN X101.here hx rfl (hb hby d19_14) rfl rfl) ?_
  refine Go.via (fun _ => XS.iload X101.here hx rfl (hb hby d19_15) rfl) ?_
  refine Go.via (fun _ => XS.aloadN X101.here hx rfl (hb hby d19_17) rfl rfl) ?_
  show Go p e below _ (T101.setTop (mkF m 18 #[rv a1, iv (0 : Int32), iv (1 : Int32), rv t101, iv (0 : Int32)] [(.ref a1), (.int (0 : Int32)), (.ref t101)]))
  refine Go.via (fun _ => XS.iloadN X101.here hx rfl (hb hby d19_18) rfl) ?_
  obtain ⟨cl102, Ar102, q102, S102, N102n, H102, G102⟩ := id fV_a1_101
  have hin102 := inb_of (j := (0 : Int32)) S102 (by decide)
  have hat102 : cl102.slots[((0 : Int32) : Int32).toNatClampNeg]? = some (.int c0) := H102.at hin102 rfl
  refine Go.via (X101.caload hx (j := (0 : Int32)) (v := (.int c0)) Ar102.1 (State.isArrayOf_alike hZ.alike Ar102.2.1) Ar102.2.2 hin102 hat102 (g := (mkF m 19 #[rv a1, iv (0 : Int32), iv (1 : Int32), rv t101, iv (0 : Int32)] [(.int (0 : Int32)), (.ref a1), (.int (0 : Int32)), (.ref t101)])) rfl rfl (hb hby d19_19)) ?_
  obtain ⟨_, _, ⟨T103, L103, k103, n103⟩, -, X103, ⟨Lc103, hQ103, l103, y103, z103⟩, st103⟩ := Jvm.LawKit.callS X101 hx (y := (⟨"java/lang/StringUTF16", "putChar", "([BII)V"⟩ : MethodName)) hown (mvT hZ (ow hw 95 rfl)) (mvT hZ (ow hw 96 rfl)) (mvT hZ (ow hw 35 rfl)) (mvT hZ (ow hw 97 rfl)) (by decide) (backOf (W := 0) (rmPut_1_0 l Z a0 hw [] t101 kb101 c0 (.int (0 : Int32)) (.int (0 : Int32)) ccs vF T101.heap n0 Zs101 va101 g_t101 O101 G) hZ (ow hw 97 rfl) (ow hw 35 rfl) (by decide) (by decide)) (g := (mkF m 20 #[rv a1, iv (0 : Int32), iv (1 : Int32), rv t101, iv (0 : Int32)] [(.int c0), (.int (0 : Int32)), (.ref t101)])) rfl (by rw [hml]; rfl) (argsL := [(.ref t101), (.int (0 : Int32)), (.int c0)]) (rest := []) (lenOf pd_13 rfl) rfl (by show 2 * 0 + _ ≤ _; exact Nat.le_of_eq rfl) (hb hby d19_20) (fun _ _ => ⟨rfl, rfl, (by decide : 1 + 0 ≤ _), (by decide : 2 + 0 ≤ _)⟩)
  dsimp only [Pt.U, Pt.locs, Pt.cells, Pt.slots] at X103 l103 y103 z103 st103 hQ103
  rw [l103, y103, z103] at X103
  replace X103 : Stand p l e _ _ m _ below meth c T103 _ 1 2 := X103
  obtain ⟨rfl, N103q, K103q, va103⟩ := hQ103
  have N103 := Fr.app N101 N103q
  refine Go.via st103 ?_
  have Zs103 : n0 ≤ T103.heap.size := Nat.le_trans Zs101 K103q.1
  have O103 : Old Z n0 T103.heap := O101.keep K103q (allS g_t101 all0)
  have K103 : Keep h0 T103.heap [] := K101.trans K103q (allS (Or.inr sz_t101) all0)
  have fV_a1_103 := fV_a1_101.keep K103q (ninS ne_a1_t101 nin0)
  refine Go.via (fun _ => XS.iinc X103.here hx rfl (hb hby d19_23) rfl (l' := #[rv a1, iv (1 : Int32), iv (1 : Int32), rv t101, iv (0 : Int32)]) rfl) ?_
  refine Go.via (fun _ => XS.iinc X103.here hx rfl (hb hby d19_26) rfl (l' := #[rv a1, iv (1 : Int32), iv (1 : Int32), rv t101, iv (1 : Int32)]) rfl) ?_
  refine Go.via (fun _ => XS.goto X103.here hx rfl (pc0 := 29) (pc' := 8) rfl (hb hby d19_29) (by decide) (by decide)) ?_
  show Go p e below _ (T103.setTop (mkF m 8 #[rv a1, iv (1 : Int32), iv (1 : Int32), rv t101, iv (1 : Int32)] []))
  refine Go.via (fun _ => XS.iload X103.here hx rfl (hb hby d19_8) rfl) ?_
  refine Go.via (fun _ => XS.iloadN X103.here hx rfl (hb hby d19_10) rfl) ?_
  refine Go.via (fun _ => XS.icmpYes X103.here hx rfl (pc0 := 11) (pc' := 32) rfl (hb hby d19_11) rfl (by decide) (by decide) (by decide)) ?_
  refine Go.via (fun _ => XS.aloadN X103.here hx rfl (hb hby d19_32) rfl rfl) ?_
  exact own_retA X103 hx hlk Bd.returns rfl rfl (hb hby d19_33) (by show QTo_1 Z a1 kc1 c0 ccs vF h0 n0 _ T103.heap _; exact ⟨t101, kb101, rfl, N103, K103, sz_t101, va103⟩) (by decide) (by decide)
theorem ef_rmD1_1 (m : MethodId) (x0 : Addr) : entryFrame m #[(.ref x0), (.int (0 : Int32)), (.int (1 : Int32))] 6 = mkF m 0 #[rv x0, iv (0 : Int32), iv (1 : Int32), .unset, .unset, .unset] [] := by first | (simp [entryFrame, mkF, argsToLocals, Value.category]; done) | rfl
def QD1_1 (Z : State) (a1 : Addr) (kc1 : ClassId) (c0 : Int32) (ccs : Int32) (vF : Value) (h0 : Heap) (n0 : Nat) (v : Option Value) (h : Heap) (L : List Loc) : Prop := ∃ (t : Addr) (kb : ClassId), v = some (.ref t) ∧ Fr n0 L ∧ Keep h0 h [] ∧ h0.size ≤ t ∧ ((Arv Z h t kb .byte (1 : Int32) [(.int (nar .byte (c0.toInt8.toInt32)))] (.int (0 : Int32)) ∧ ¬ ((255 : Int32) < c0)) ∨ Arv Z h t kb .byte (2 : Int32) [(.int (nar .byte ((c0 >>> ((0 : Int32) &&& 31)).toInt8.toInt32))), (.int (nar .byte ((c0 >>> ((8 : Int32) &&& 31)).toInt8.toInt32)))] (.int (0 : Int32)))
set_option maxRecDepth 65536 in
set_option maxHeartbeats 40000000 in
theorem rmD1_1 (l : Launch) (Z : State) (a0 : Array Value) (hw : TW Z a0) (ws : List Jvm.Cond) (a1 : Addr) (kc1 : ClassId) (c0 : Int32) (ccs : Int32) (vF : Value) (h0 : Heap) (n0 : Nat) (Z0 : n0 ≤ h0.size) (V1 : Arv Z h0 a1 kc1 .char (1 : Int32) [(.int c0)] (.int (0 : Int32))) (hr0 : ¬ (c0 < (0 : Int32)) ∧ ¬ ((65535 : Int32) < c0)) (O0 : Old Z n0 h0) (G : SG Z ccs vF) :
    MF l Z (⟨"java/lang/StringUTF16", "compress", "([CII)[B"⟩ : MethodName) jdk_52_method_16_code 6 (some (.array .byte)) ws (rmm 3 2 3 40) #[(.ref a1), (.int (0 : Int32)), (.int (1 : Int32))] h0 (QD1_1 Z a1 kc1 c0 ccs vF h0 n0) := by
  refine MetFree.of_bodySF (plainFor_of_name pn_java_lang_StringUTF16) hisR ?_
  intro p e s m args below meth c s₁ Bd hml0 hP hK
  obtain ⟨rfl, hZ, hh⟩ := hP
  have hx := Bd.exec
  have hby := Bd.bytes
  have hlk : meth.locks = false := Bd.notSynchronized
  have hml : c.maxLocals = 6 := hml0
  have hown : s.vm.findClass "java/lang/StringUTF16" = some m.cls := findClass_of_methodNamed Bd.named
  have hnm := (name_of_methodNamed Bd.named Bd.method).1
  have rF := G.2.2.2.2.2.2
  have hcs := G.2.1
  have X0 : Stand p l e (rmm 3 2 3 40) s m #[(.ref a1), (.int (0 : Int32)), (.int (1 : Int32))] below meth c s₁ [] 0 0 := Stand.of_body Bd
  have e0 : s₁.heap = h0 := by rw [← hh, Bd.state]; rfl
  have N0 := Fr.nil n0
  show Go p e below (FinE s below (QD1_1 Z a1 kc1 c0 ccs vF h0 n0) (rmm 3 2 3 40).cells (rmm 3 2 3 40).slots) (s₁.setTop (entryFrame m #[(.ref a1), (.int (0 : Int32)), (.int (1 : Int32))] 6))
  refine Go.via (fun t k => castTop (ef_rmD1_1 m a1) k) ?_
  refine Go.via (fun _ => XS.iloadN X0.here hx rfl (hb hby d6_0) rfl) ?_
  obtain ⟨T101, h101, k101, X101, e101, E101, A101, st101⟩ := newP X0 hx hZ (ow hw 16 rfl) e0 (g := (mkF m 1 #[rv a1, iv (0 : Int32), iv (1 : Int32), .unset, .unset, .unset] [(.int (1 : Int32))])) rfl (hb hby d6_1) rfl (by decide) (cap := 1) (by decide) (by decide) (by decide) (by decide)
  obtain ⟨b101, g101⟩ : ∃ z, z = h0.size := ⟨_, rfl⟩
  rw [← g101] at A101 st101
  have g_b101 : n0 ≤ b101 := Nat.le_trans Z0 (Nat.le_of_eq g101.symm)
  have ne_a1_b101 : a1 ≠ b101 := Nat.ne_of_lt (Nat.lt_of_lt_of_le V1.lt (Nat.le_of_eq g101.symm))
  have sz_b101 : h0.size ≤ b101 := Nat.le_trans (Keep.refl h0 []).1 (Nat.le_of_eq g101.symm)
  refine Go.via st101 ?_
  have Zs101 : n0 ≤ h101.size := Nat.le_trans Z0 E101.1
  have O101 : Old Z n0 h101 := O0.ext E101
  have K101 : Keep h0 h101 [] := (Keep.refl h0 []).ext E101
  have fV_a1_101 := V1.ext E101
  have V_b101 : Arv Z h101 b101 k101 .byte (1 : Int32) [(.int (0 : Int32))] (.int (0 : Int32)) := (Arv.new A101 (by decide)).pad (pad_rep [] (.int (0 : Int32)) 1)
  refine Go.via (fun _ => XS.astoreN X101.here hx rfl (hb hby d6_3) rfl rfl (l' := #[rv a1, iv (0 : Int32), iv (1 : Int32), rv b101, .unset, .unset]) rfl) ?_
  refine Go.via (fun _ => XS.aloadN X101.here hx rfl (hb hby d6_4) rfl rfl) ?_
  refine Go.via (fun _ => XS.iloadN X101.here hx rfl (hb hby d6_5) rfl) ?_
  show Go p e below _ (T101.setTop (mkF m 6 #[rv a1, iv (0 : Int32), iv (1 : Int32), rv b101, .unset, .unset] [(.int (0 : Int32)), (.ref a1)]))
  refine Go.via (fun _ => XS.aloadN X101.here hx rfl (hb hby d6_6) rfl rfl) ?_
  refine Go.via (fun _ => XS.iconst X101.here hx rfl (hb hby d6_7)) ?_
  refine Go.via (fun _ => XS.iloadN X101.here hx rfl (hb hby d6_8) rfl) ?_
  obtain ⟨_, _, ⟨T102, L102, k102, n102⟩, -, X102, ⟨Lc102, hQ102, l102, y102, z102⟩, st102⟩ := Jvm.LawKit.callS X101 hx (y := (⟨"java/lang/StringUTF16", "compress", "([CI[BII)I"⟩ : MethodName)) hown (mvT hZ (ow hw 37 rfl)) (mvT hZ (ow hw 38 rfl)) (mvT hZ (ow hw 35 rfl)) (mvT hZ (ow hw 39 rfl)) (by decide) (backOf (W := 0) (rmD2_1 l Z a0 hw [] a1 kc1 b101 k101 c0 h101 n0 Zs101 fV_a1_101 V_b101 g_b101 ne_a1_b101) hZ (ow hw 39 rfl) (ow hw 35 rfl) (by decide) (by decide)) (g := (mkF m 9 #[rv a1, iv (0 : Int32), iv (1 : Int32), rv b101, .unset, .unset] [(.int (1 : Int32)), (.int (0 : Int32)), (.ref b101), (.int (0 : Int32)), (.ref a1)])) rfl (by rw [hml]; rfl) (argsL := [(.ref a1), (.int (0 : Int32)), (.ref b101), (.int (0 : Int32)), (.int (1 : Int32))]) (rest := []) (lenOf pd_14 rfl) rfl (by show 2 * 0 + _ ≤ _; exact Nat.le_of_eq rfl) (hb hby d6_9) (fun _ _ => ⟨rfl, e101, (by decide : 1 + 0 ≤ _), (by decide : 1 + 0 ≤ _)⟩)
  dsimp only [Pt.U, Pt.locs, Pt.cells, Pt.slots] at X102 l102 y102 z102 st102 hQ102
  rw [l102, y102, z102] at X102
  replace X102 : Stand p l e _ _ m _ below meth c T102 _ 1 1 := X102
  obtain ⟨N102q, K102q, alt102⟩ := hQ102
  have N102 := Fr.app N0 N102q
  have Zs102 : n0 ≤ T102.heap.size := Nat.le_trans Zs101 K102q.1
  have O102 : Old Z n0 T102.heap := O101.keep K102q (allS g_b101 all0)
  have K102 : Keep h0 T102.heap [] := K101.trans K102q (allS (Or.inr sz_b101) all0)
  have fV_a1_102 := fV_a1_101.keep K102q (ninS ne_a1_b101 nin0)
  rcases alt102 with ⟨rfl, va102, hl0⟩ | ⟨rfl, hbig⟩
  ·
    refine Go.via st102 ?_
    refine Go.via (fun _ => XS.istore X102.here hx rfl (hb hby d6_12) rfl (l' := #[rv a1, iv (0 : Int32), iv (1 : Int32), rv b101, iv (1 : Int32), .unset]) rfl) ?_
    refine Go.via (fun _ => XS.iload X102.here hx rfl (hb hby d6_14) rfl) ?_
    show Go p e below _ (T102.setTop (mkF m 16 #[rv a1, iv (0 : Int32), iv (1 : Int32), rv b101, iv (1 : Int32), .unset] [(.int (1 : Int32))]))
    refine Go.via (fun _ => XS.iloadN X102.here hx rfl (hb hby d6_16) rfl) ?_
    refine Go.via (fun _ => XS.icmpYes X102.here hx rfl (pc0 := 17) (pc' := 57) rfl (hb hby d6_17) rfl (by decide) (by decide) (by decide)) ?_
    refine Go.via (fun _ => XS.aloadN X102.here hx rfl (hb hby d6_57) rfl rfl) ?_
    exact own_retA X102 hx hlk Bd.returns rfl rfl (hb hby d6_58) (by show QD1_1 Z a1 kc1 c0 ccs vF h0 n0 _ T102.heap _; exact ⟨b101, k101, rfl, N102, K102, sz_b101, Or.inl ⟨va102, hl0⟩⟩) (by decide) (by decide)
  ·
    refine Go.via st102 ?_
    refine Go.via (fun _ => XS.istore X102.here hx rfl (hb hby d6_12) rfl (l' := #[rv a1, iv (0 : Int32), iv (1 : Int32), rv b101, iv (0 : Int32), .unset]) rfl) ?_
    refine Go.via (fun _ => XS.iload X102.here hx rfl (hb hby d6_14) rfl) ?_
    show Go p e below _ (T102.setTop (mkF m 16 #[rv a1, iv (0 : Int32), iv (1 : Int32), rv b101, iv (0 : Int32), .unset] [(.int (0 : Int32))]))
    refine Go.via (fun _ => XS.iloadN X102.here hx rfl (hb hby d6_16) rfl) ?_
    refine Go.via (fun _ => XS.icmpNo X102.here hx rfl (hb hby d6_17) rfl (by decide)) ?_
    refine Go.via (fun _ => XS.aloadN X102.here hx rfl (hb hby d6_20) rfl rfl) ?_
    refine Go.via (fun _ => XS.iloadN X102.here hx rfl (hb hby d6_21) rfl) ?_
    refine Go.via (fun _ => XS.iloadN X102.here hx rfl (hb hby d6_22) rfl) ?_
    obtain ⟨_, _, ⟨T103, L103, k103, n103⟩, -, X103, ⟨Lc103, hQ103, l103, y103, z103⟩, st103⟩ := Jvm.LawKit.callS X102 hx (y := (⟨"java/lang/StringUTF16", "toBytes", "([CII)[B"⟩ : MethodName)) hown (mvT hZ (ow hw 85 rfl)) (mvT hZ (ow hw 86 rfl)) (mvT hZ (ow hw 35 rfl)) (mvT hZ (ow hw 87 rfl)) (by decide) (backOf (W := 0) (rmTo_1 l Z a0 hw [] a1 kc1 c0 ccs vF T102.heap n0 Zs102 fV_a1_102 O102 G) hZ (ow hw 87 rfl) (ow hw 35 rfl) (by decide) (by decide)) (g := (mkF m 23 #[rv a1, iv (0 : Int32), iv (1 : Int32), rv b101, iv (0 : Int32), .unset] [(.int (1 : Int32)), (.int (0 : Int32)), (.ref a1)])) rfl (by rw [hml]; rfl) (argsL := [(.ref a1), (.int (0 : Int32)), (.int (1 : Int32))]) (rest := []) (lenOf pd_15 rfl) rfl (by show 2 * 0 + _ ≤ _; exact Nat.le_of_eq rfl) (hb hby d6_23) (fun _ _ => ⟨rfl, rfl, (by decide : 1 + 1 ≤ _), (by decide : 1 + 2 ≤ _)⟩)
    dsimp only [Pt.U, Pt.locs, Pt.cells, Pt.slots] at X103 l103 y103 z103 st103 hQ103
    rw [l103, y103, z103] at X103
    replace X103 : Stand p l e _ _ m _ below meth c T103 _ 2 3 := X103
    obtain ⟨t103, kb103, rfl, N103q, K103q, gt103, va103⟩ := hQ103
    have N103 := Fr.app N102 N103q
    refine Go.via st103 ?_
    have Zs103 : n0 ≤ T103.heap.size := Nat.le_trans Zs102 K103q.1
    have O103 : Old Z n0 T103.heap := O102.keep K103q all0
    have K103 : Keep h0 T103.heap [] := K102.trans K103q all0
    have fV_a1_103 := fV_a1_102.keep K103q nin0
    have g_t103 : n0 ≤ t103 := Nat.le_trans Zs102 gt103
    have ne_a1_t103 : a1 ≠ t103 := Nat.ne_of_lt (Nat.lt_of_lt_of_le fV_a1_102.lt gt103)
    have sz_t103 : h0.size ≤ t103 := Nat.le_trans K102.1 gt103
    show Go p e below _ (T103.setTop (mkF m 26 #[rv a1, iv (0 : Int32), iv (1 : Int32), rv b101, iv (0 : Int32), .unset] [(.ref t103)]))
    refine Go.via (fun _ => XS.astore X103.here hx rfl (hb hby d6_26) rfl rfl (l' := #[rv a1, iv (0 : Int32), iv (1 : Int32), rv b101, iv (0 : Int32), rv t103]) rfl) ?_
    refine Go.via (fun _ => XS.aload X103.here hx rfl (hb hby d6_28) rfl rfl) ?_
    refine Go.via (fun _ => XS.iload X103.here hx rfl (hb hby d6_30) rfl) ?_
    obtain ⟨_, _, ⟨T104, L104, k104, n104⟩, -, X104, ⟨Lc104, hQ104, l104, y104, z104⟩, st104⟩ := Jvm.LawKit.callS X103 hx (y := (⟨"java/lang/StringUTF16", "getChar", "([BI)C"⟩ : MethodName)) hown (mvT hZ (ow hw 101 rfl)) (mvT hZ (ow hw 102 rfl)) (mvT hZ (ow hw 35 rfl)) (mvT hZ (ow hw 103 rfl)) (by decide) (backOf (W := 0) (rmGetC l Z a0 hw [] t103 kb103 (2 : Int32) _ (0 : Int32) c0 ccs vF T103.heap n0 Zs103 va103 ⟨by decide, by decide⟩ ⟨by decide, by decide⟩ rfl rfl (own_u16 c0 hr0.1 hr0.2) O103 G) hZ (ow hw 103 rfl) (ow hw 35 rfl) (by decide) (by decide)) (g := (mkF m 32 #[rv a1, iv (0 : Int32), iv (1 : Int32), rv b101, iv (0 : Int32), rv t103] [(.int (0 : Int32)), (.ref t103)])) rfl (by rw [hml]; rfl) (argsL := [(.ref t103), (.int (0 : Int32))]) (rest := []) (lenOf pd_3 rfl) rfl (by show 2 * 0 + _ ≤ _; exact Nat.le_of_eq rfl) (hb hby d6_32) (fun _ _ => ⟨rfl, rfl, (by decide : 2 + 0 ≤ _), (by decide : 3 + 0 ≤ _)⟩)
    dsimp only [Pt.U, Pt.locs, Pt.cells, Pt.slots] at X104 l104 y104 z104 st104 hQ104
    rw [l104, y104, z104] at X104
    replace X104 : Stand p l e _ _ m _ below meth c T104 _ 2 3 := X104
    obtain ⟨rfl, N104q, e104q⟩ := hQ104
    have N104 := Fr.app N103 N104q
    refine Go.via st104 ?_
    refine Go.via (fun _ => XS.sipush X104.here hx rfl (hb hby d6_35)) ?_
    refine Go.via (fun _ => XS.icmpYes X104.here hx rfl (pc0 := 38) (pc' := 54) rfl (hb hby d6_38) rfl (tlt hbig).2.2.1 (by decide) (by decide)) ?_
    show Go p e below _ (T104.setTop (mkF m 54 #[rv a1, iv (0 : Int32), iv (1 : Int32), rv b101, iv (0 : Int32), rv t103] []))
    refine Go.via (fun _ => XS.aload X104.here hx rfl (hb hby d6_54) rfl rfl) ?_
    exact own_retA X104 hx hlk Bd.returns rfl rfl (hb hby d6_56) (by show QD1_1 Z a1 kc1 c0 ccs vF h0 n0 _ T104.heap _; rw [e104q]; exact ⟨t103, kb103, rfl, N104, K103, sz_t103, Or.inr va103⟩) (by decide) (by decide)
theorem ef_rmCL_1_1 (m : MethodId) (x0 : Addr) : entryFrame m #[(.ref x0), (.int (1 : Int32))] 2 = mkF m 0 #[rv x0, iv (1 : Int32)] [] := by first | (simp [entryFrame, mkF, argsToLocals, Value.category]; done) | rfl
def QCL_1_1 (Z : State) (b1 : Addr) (kc2 : ClassId) (vs : List Value) (h0 : Heap) (n0 : Nat) (v : Option Value) (h : Heap) (L : List Loc) : Prop := v = some (.int (0 : Int32)) ∧ Fr n0 L ∧ h = h0
set_option maxRecDepth 65536 in
set_option maxHeartbeats 40000000 in
theorem rmCL_1_1 (l : Launch) (Z : State) (a0 : Array Value) (hw : TW Z a0) (ws : List Jvm.Cond) (b1 : Addr) (kc2 : ClassId) (vs : List Value) (h0 : Heap) (n0 : Nat) (Z0 : n0 ≤ h0.size) (V2 : Arv Z h0 b1 kc2 .byte (1 : Int32) vs (.int (0 : Int32))) :
    MF l Z (⟨"java/lang/StringUTF16", "coderFromArrayLen", "([BI)B"⟩ : MethodName) jdk_52_method_15_code 2 (some .byte) ws (rmm 0 0 0 0) #[(.ref b1), (.int (1 : Int32))] h0 (QCL_1_1 Z b1 kc2 vs h0 n0) := by
  refine MetFree.of_bodySF (plainFor_of_name pn_java_lang_StringUTF16) hisR ?_
  intro p e s m args below meth c s₁ Bd hml0 hP hK
  obtain ⟨rfl, hZ, hh⟩ := hP
  have hx := Bd.exec
  have hby := Bd.bytes
  have hlk : meth.locks = false := Bd.notSynchronized
  have hml : c.maxLocals = 2 := hml0
  have hown : s.vm.findClass "java/lang/StringUTF16" = some m.cls := findClass_of_methodNamed Bd.named
  have hnm := (name_of_methodNamed Bd.named Bd.method).1
  have X0 : Stand p l e (rmm 0 0 0 0) s m #[(.ref b1), (.int (1 : Int32))] below meth c s₁ [] 0 0 := Stand.of_body Bd
  have e0 : s₁.heap = h0 := by rw [← hh, Bd.state]; rfl
  have N0 := Fr.nil n0
  show Go p e below (FinE s below (QCL_1_1 Z b1 kc2 vs h0 n0) (rmm 0 0 0 0).cells (rmm 0 0 0 0).slots) (s₁.setTop (entryFrame m #[(.ref b1), (.int (1 : Int32))] 2))
  refine Go.via (fun t k => castTop (ef_rmCL_1_1 m b1) k) ?_
  refine Go.via (fun _ => XS.iloadN X0.here hx rfl (hb hby d8_0) rfl) ?_
  refine Go.via (fun _ => XS.aloadN X0.here hx rfl (hb hby d8_1) rfl rfl) ?_
  obtain ⟨cl101, Ar101, -, S101, N101n, -, -⟩ := id V2
  have al101 := X0.arraylength hx (by rw [e0]; exact Ar101.1) (State.isArrayOf_alike hZ.alike Ar101.2.1) (g := (mkF m 2 #[rv b1, iv (1 : Int32)] [(.ref b1), (.int (1 : Int32))])) rfl rfl (hb hby d8_2)
  rw [len_of S101 N101n] at al101
  refine Go.via al101 ?_
  refine Go.via (fun _ => XS.isub X0.here hx rfl (hb hby d8_3) rfl) ?_
  refine Go.via (fun _ => XS.bipush X0.here hx rfl (hb hby d8_4)) ?_
  show Go p e below _ (s₁.setTop (mkF m 6 #[rv b1, iv (1 : Int32)] [(.int (31 : Int32)), (.int (0 : Int32))]))
  refine Go.via (fun _ => XS.iushr X0.here hx rfl (hb hby d8_6) rfl) ?_
  refine Go.via (fun _ => XS.i2b X0.here hx rfl (hb hby d8_7) rfl) ?_
  exact own_retN X0 hx hlk (t := .byte) Bd.returns (by simp) (hb hby d8_8) (by show QCL_1_1 Z b1 kc2 vs h0 n0 _ s₁.heap _; rw [e0]; exact ⟨rfl, N0, rfl⟩) (by decide) (by decide)
theorem ef_rmCL_2_1 (m : MethodId) (x0 : Addr) : entryFrame m #[(.ref x0), (.int (1 : Int32))] 2 = mkF m 0 #[rv x0, iv (1 : Int32)] [] := by first | (simp [entryFrame, mkF, argsToLocals, Value.category]; done) | rfl
def QCL_2_1 (Z : State) (b1 : Addr) (kc2 : ClassId) (vs : List Value) (h0 : Heap) (n0 : Nat) (v : Option Value) (h : Heap) (L : List Loc) : Prop := v = some (.int (1 : Int32)) ∧ Fr n0 L ∧ h = h0
set_option maxRecDepth 65536 in
set_option maxHeartbeats 40000000 in
theorem rmCL_2_1 (l : Launch) (Z : State) (a0 : Array Value) (hw : TW Z a0) (ws : List Jvm.Cond) (b1 : Addr) (kc2 : ClassId) (vs : List Value) (h0 : Heap) (n0 : Nat) (Z0 : n0 ≤ h0.size) (V2 : Arv Z h0 b1 kc2 .byte (2 : Int32) vs (.int (0 : Int32))) :
    MF l Z (⟨"java/lang/StringUTF16", "coderFromArrayLen", "([BI)B"⟩ : MethodName) jdk_52_method_15_code 2 (some .byte) ws (rmm 0 0 0 0) #[(.ref b1), (.int (1 : Int32))] h0 (QCL_2_1 Z b1 kc2 vs h0 n0) := by
  refine MetFree.of_bodySF (plainFor_of_name pn_java_lang_StringUTF16) hisR ?_
  intro p e s m args below meth c s₁ Bd hml0 hP hK
  obtain ⟨rfl, hZ, hh⟩ := hP
  have hx := Bd.exec
  have hby := Bd.bytes
  have hlk : meth.locks = false := Bd.notSynchronized
  have hml : c.maxLocals = 2 := hml0
  have hown : s.vm.findClass "java/lang/StringUTF16" = some m.cls := findClass_of_methodNamed Bd.named
  have hnm := (name_of_methodNamed Bd.named Bd.method).1
  have X0 : Stand p l e (rmm 0 0 0 0) s m #[(.ref b1), (.int (1 : Int32))] below meth c s₁ [] 0 0 := Stand.of_body Bd
  have e0 : s₁.heap = h0 := by rw [← hh, Bd.state]; rfl
  have N0 := Fr.nil n0
  show Go p e below (FinE s below (QCL_2_1 Z b1 kc2 vs h0 n0) (rmm 0 0 0 0).cells (rmm 0 0 0 0).slots) (s₁.setTop (entryFrame m #[(.ref b1), (.int (1 : Int32))] 2))
  refine Go.via (fun t k => castTop (ef_rmCL_2_1 m b1) k) ?_
  refine Go.via (fun _ => XS.iloadN X0.here hx rfl (hb hby d8_0) rfl) ?_
  refine Go.via (fun _ => XS.aloadN X0.here hx rfl (hb hby d8_1) rfl rfl) ?_
  obtain ⟨cl101, Ar101, -, S101, N101n, -, -⟩ := id V2
  have al101 := X0.arraylength hx (by rw [e0]; exact Ar101.1) (State.isArrayOf_alike hZ.alike Ar101.2.1) (g := (mkF m 2 #[rv b1, iv (1 : Int32)] [(.ref b1), (.int (1 : Int32))])) rfl rfl (hb hby d8_2)
  rw [len_of S101 N101n] at al101
  refine Go.via al101 ?_
  refine Go.via (fun _ => XS.isub X0.here hx rfl (hb hby d8_3) rfl) ?_
  refine Go.via (fun _ => XS.bipush X0.here hx rfl (hb hby d8_4)) ?_
  show Go p e below _ (s₁.setTop (mkF m 6 #[rv b1, iv (1 : Int32)] [(.int (31 : Int32)), (.int (-1 : Int32))]))
  refine Go.via (fun _ => XS.iushr X0.here hx rfl (hb hby d8_6) rfl) ?_
  refine Go.via (fun _ => XS.i2b X0.here hx rfl (hb hby d8_7) rfl) ?_
  exact own_retN X0 hx hlk (t := .byte) Bd.returns (by simp) (hb hby d8_8) (by show QCL_2_1 Z b1 kc2 vs h0 n0 _ s₁.heap _; rw [e0]; exact ⟨rfl, N0, rfl⟩) (by decide) (by decide)
theorem ef_rmJ4_1 (m : MethodId) (x0 : Addr) (x1 : Addr) : entryFrame m #[(.ref x0), (.ref x1), (.int (0 : Int32)), (.int (1 : Int32)), .null] 6 = mkF m 0 #[rv x0, rv x1, iv (0 : Int32), iv (1 : Int32), .val .null, .unset] [] := by first | (simp [entryFrame, mkF, argsToLocals, Value.category]; done) | rfl
set_option maxRecDepth 65536 in
set_option maxHeartbeats 40000000 in
theorem rmJ4_1 (l : Launch) (Z : State) (a0 : Array Value) (hw : TW Z a0) (ws : List Jvm.Cond) (a1 : Addr) (a2 : Addr) (kc1 : ClassId) (c0 : Int32) (ccs : Int32) (vF : Value) (h0 : Heap) (n0 : Nat) (Z0 : n0 ≤ h0.size) (E1 : Exa Z h0 a1 "java/lang/String") (F1 : Fld Z h0 a1 "java/lang/String" "value" "[B" .null) (F2 : Fld Z h0 a1 "java/lang/String" "coder" "B" (.int (0 : Int32))) (g1 : n0 ≤ a1) (ne1 : a1 ≠ a2) (V1 : Arv Z h0 a2 kc1 .char (1 : Int32) [(.int c0)] (.int (0 : Int32))) (hr0 : ¬ (c0 < (0 : Int32)) ∧ ¬ ((65535 : Int32) < c0)) (O0 : Old Z n0 h0) (G : SG Z ccs vF) :
    MF l Z (⟨"java/lang/String", "<init>", "([CIILjava/lang/Void;)V"⟩ : MethodName) jdk_42_method_149_code 6 none ws (rmm 4 2 3 57) #[(.ref a1), (.ref a2), (.int (0 : Int32)), (.int (1 : Int32)), .null] h0 (QTx1 Z a1 c0 h0 n0) := by
  refine MetFree.of_bodySF (plainFor_of_name pn_java_lang_String) hisR ?_
  intro p e s m args below meth c s₁ Bd hml0 hP hK
  obtain ⟨rfl, hZ, hh⟩ := hP
  have hx := Bd.exec
  have hby := Bd.bytes
  have hlk : meth.locks = false := Bd.notSynchronized
  have hml : c.maxLocals = 6 := hml0
  have hown : s.vm.findClass "java/lang/String" = some m.cls := findClass_of_methodNamed Bd.named
  have hnm := (name_of_methodNamed Bd.named Bd.method).1
  have rF := G.2.2.2.2.2.2
  have hcs := G.2.1
  have X0 : Stand p l e (rmm 4 2 3 57) s m #[(.ref a1), (.ref a2), (.int (0 : Int32)), (.int (1 : Int32)), .null] below meth c s₁ [] 0 0 := Stand.of_body Bd
  have e0 : s₁.heap = h0 := by rw [← hh, Bd.state]; rfl
  have N0 := Fr.nil n0
  show Go p e below (FinE s below (QTx1 Z a1 c0 h0 n0) (rmm 4 2 3 57).cells (rmm 4 2 3 57).slots) (s₁.setTop (entryFrame m #[(.ref a1), (.ref a2), (.int (0 : Int32)), (.int (1 : Int32)), .null] 6))
  refine Go.via (fun t k => castTop (ef_rmJ4_1 m a1 a2) k) ?_
  refine Go.via (fun _ => XS.aloadN X0.here hx rfl (hb hby d2_0) rfl rfl) ?_
  obtain ⟨T101, X101, e101, st101⟩ := initO X0 hx hZ hown (ow hw 12 rfl) (ow hw 13 rfl) (ow hw 14 rfl) e0 (g := (mkF m 1 #[rv a1, rv a2, iv (0 : Int32), iv (1 : Int32), .val .null, .unset] [(.ref a1)])) rfl (by rw [hml]; rfl) rfl (hb hby d2_1) (by decide) (W := 0) (by show 2 * 0 + _ ≤ _; exact Nat.le_of_eq rfl) (by decide)
  refine Go.via st101 ?_
  refine Go.via (fun _ => XS.iloadN X101.here hx rfl (hb hby d2_4) rfl) ?_
  refine Go.via (fun _ => XS.ifYes X101.here hx rfl (pc0 := 5) (pc' := 27) rfl (hb hby d2_5) rfl (by decide) (by decide) (by decide)) ?_
  obtain ⟨T102, X102, e102, st102⟩ := getS2 X101 hx hZ hown (host := "") (Or.inl (ow hw 32 rfl)) Via.refl e101 (G.1.ext O0.2) (g := (mkF m 27 #[rv a1, rv a2, iv (0 : Int32), iv (1 : Int32), .val .null, .unset] [])) rfl (hb hby d2_27)
  refine Go.via st102 ?_
  show Go p e below _ (T102.setTop (mkF m 30 #[rv a1, rv a2, iv (0 : Int32), iv (1 : Int32), .val .null, .unset] [(.int ccs)]))
  refine Go.via (fun _ => XS.ifNo X102.here hx rfl (hb hby d2_30) rfl ((if0 _ _).trans (feq hcs).1)) ?_
  refine Go.via (fun _ => XS.aloadN X102.here hx rfl (hb hby d2_33) rfl rfl) ?_
  refine Go.via (fun _ => XS.iloadN X102.here hx rfl (hb hby d2_34) rfl) ?_
  refine Go.via (fun _ => XS.iloadN X102.here hx rfl (hb hby d2_35) rfl) ?_
  obtain ⟨_, _, ⟨T103, L103, k103, n103⟩, -, X103, ⟨Lc103, hQ103, l103, y103, z103⟩, st103⟩ := Jvm.LawKit.callS X102 hx (y := (⟨"java/lang/StringUTF16", "compress", "([CII)[B"⟩ : MethodName)) hown (mvT hZ (ow hw 33 rfl)) (mvT hZ (ow hw 34 rfl)) (mvT hZ (ow hw 35 rfl)) (mvT hZ (ow hw 36 rfl)) (by decide) (backOf (W := 0) (rmD1_1 l Z a0 hw [] a2 kc1 c0 ccs vF h0 n0 Z0 V1 hr0 O0 G) hZ (ow hw 36 rfl) (ow hw 35 rfl) (by decide) (by decide)) (g := (mkF m 36 #[rv a1, rv a2, iv (0 : Int32), iv (1 : Int32), .val .null, .unset] [(.int (1 : Int32)), (.int (0 : Int32)), (.ref a2)])) rfl (by rw [hml]; rfl) (argsL := [(.ref a2), (.int (0 : Int32)), (.int (1 : Int32))]) (rest := []) (lenOf pd_15 rfl) rfl (by show 2 * 0 + _ ≤ _; exact Nat.le_of_eq rfl) (hb hby d2_36) (fun _ _ => ⟨rfl, e102, (by decide : 0 + 2 ≤ _), (by decide : 0 + 3 ≤ _)⟩)
  dsimp only [Pt.U, Pt.locs, Pt.cells, Pt.slots] at X103 l103 y103 z103 st103 hQ103
  rw [l103, y103, z103] at X103
  replace X103 : Stand p l e _ _ m _ below meth c T103 _ 2 3 := X103
  obtain ⟨t103, kb103, rfl, N103q, K103q, gt103, alt103⟩ := hQ103
  have N103 := Fr.app N0 N103q
  have Zs103 : n0 ≤ T103.heap.size := Nat.le_trans Z0 K103q.1
  have O103 : Old Z n0 T103.heap := O0.keep K103q all0
  have K103 : Keep h0 T103.heap [a1] := (Keep.refl h0 [a1]).trans K103q all0
  have fE_a1_103 := E1.keep K103q
  have fF_a1_value_103 := F1.keep K103q nin0
  have fF_a1_coder_103 := F2.keep K103q nin0
  have fV_a2_103 := V1.keep K103q nin0
  rcases alt103 with ⟨va103, hl0⟩ | va103
  ·
    refine Go.via st103 ?_
    have g_t103 : n0 ≤ t103 := Nat.le_trans Z0 gt103
    have ne_a1_t103 : a1 ≠ t103 := Nat.ne_of_lt (Nat.lt_of_lt_of_le E1.lt gt103)
    have ne_a2_t103 : a2 ≠ t103 := Nat.ne_of_lt (Nat.lt_of_lt_of_le V1.lt gt103)
    have sz_t103 : h0.size ≤ t103 := Nat.le_trans (Keep.refl h0 [a1]).1 gt103
    refine Go.via (fun _ => XS.astore X103.here hx rfl (hb hby d2_39) rfl rfl (l' := #[rv a1, rv a2, iv (0 : Int32), iv (1 : Int32), .val .null, rv t103]) rfl) ?_
    show Go p e below _ (T103.setTop (mkF m 41 #[rv a1, rv a2, iv (0 : Int32), iv (1 : Int32), .val .null, rv t103] []))
    refine Go.via (fun _ => XS.aloadN X103.here hx rfl (hb hby d2_41) rfl rfl) ?_
    refine Go.via (fun _ => XS.aload X103.here hx rfl (hb hby d2_42) rfl rfl) ?_
    refine Go.via (fun _ => XS.iloadN X103.here hx rfl (hb hby d2_44) rfl) ?_
    obtain ⟨_, _, ⟨T104, L104, k104, n104⟩, -, X104, ⟨Lc104, hQ104, l104, y104, z104⟩, st104⟩ := Jvm.LawKit.callS X103 hx (y := (⟨"java/lang/StringUTF16", "coderFromArrayLen", "([BI)B"⟩ : MethodName)) hown (mvT hZ (ow hw 40 rfl)) (mvT hZ (ow hw 41 rfl)) (mvT hZ (ow hw 35 rfl)) (mvT hZ (ow hw 42 rfl)) (by decide) (backOf (W := 1) (rmCL_1_1 l Z a0 hw [] t103 kb103 _ T103.heap n0 Zs103 va103) hZ (ow hw 42 rfl) (ow hw 35 rfl) (by decide) (by decide)) (g := (mkF m 45 #[rv a1, rv a2, iv (0 : Int32), iv (1 : Int32), .val .null, rv t103] [(.int (1 : Int32)), (.ref t103), (.ref a1)])) rfl (by rw [hml]; rfl) (argsL := [(.ref t103), (.int (1 : Int32))]) (rest := [(.ref a1)]) (lenOf pd_16 rfl) rfl (by show 2 * 0 + _ ≤ _; exact Nat.le_of_eq rfl) (hb hby d2_45) (fun _ _ => ⟨rfl, rfl, (by decide : 2 + 0 ≤ _), (by decide : 3 + 0 ≤ _)⟩)
    dsimp only [Pt.U, Pt.locs, Pt.cells, Pt.slots] at X104 l104 y104 z104 st104 hQ104
    rw [l104, y104, z104] at X104
    replace X104 : Stand p l e _ _ m _ below meth c T104 _ 2 3 := X104
    obtain ⟨rfl, N104q, e104q⟩ := hQ104
    have N104 := Fr.app N103 N104q
    refine Go.via st104 ?_
    obtain ⟨T105, h105, X105, e105, W105, st105⟩ := putFN X104 hx hZ hown (ow hw 22 rfl) Via.refl e104q fF_a1_coder_103 fE_a1_103 (Or.inr ⟨(ow hw 18 rfl), rfl, hnm⟩) (ow hw 3 rfl) (ty := .byte) (v' := .int (nar .byte (0 : Int32))) (by decide) rfl (fits_nar_byte _) (g := (mkF m 48 #[rv a1, rv a2, iv (0 : Int32), iv (1 : Int32), .val .null, rv t103] [(.int (0 : Int32)), (.ref a1)])) rfl rfl (hb hby d2_48)
    refine Go.via st105 ?_
    have fF_a1_coder_105 : Fld Z h105 a1 "java/lang/String" "coder" "B" (.int (0 : Int32)) := fF_a1_coder_103.same W105
    have Zs105 : n0 ≤ h105.size := Nat.le_trans Zs103 (Keep.of_wr W105).1
    have O105 : Old Z n0 h105 := O103.wr W105 g1
    have K105 : Keep h0 h105 [a1] := K103.wr W105 (Or.inl (List.mem_of_getElem? (i := 0) rfl))
    have N105 := Fr.snoc X105 N104 g1
    have fE_a1_105 := fE_a1_103.wr W105
    have fF_a1_value_105 := fF_a1_value_103.other W105 (Or.inr (slot_ne (Or.inr (ow hw 17 rfl)) (Or.inr (ow hw 18 rfl)) (by decide) (t := (.array .byte)) (t' := .byte) (by decide) (by decide)))
    have fV_a2_105 := fV_a2_103.other W105 (Ne.symm ne1)
    have fV_t103_105 := va103.other W105 (Ne.symm ne_a1_t103)
    refine Go.via (fun _ => XS.aloadN X105.here hx rfl (hb hby d2_51) rfl rfl) ?_
    show Go p e below _ (T105.setTop (mkF m 52 #[rv a1, rv a2, iv (0 : Int32), iv (1 : Int32), .val .null, rv t103] [(.ref a1)]))
    refine Go.via (fun _ => XS.aload X105.here hx rfl (hb hby d2_52) rfl rfl) ?_
    obtain ⟨T106, h106, X106, e106, W106, st106⟩ := putF X105 hx hZ hown (host := "") (Or.inl (ow hw 21 rfl)) Via.refl e105 fF_a1_value_105 fE_a1_105 (Or.inr ⟨(ow hw 17 rfl), rfl, hnm⟩) (ow hw 3 rfl) (ty := (.array .byte)) (by decide) rfl rfl (g := (mkF m 54 #[rv a1, rv a2, iv (0 : Int32), iv (1 : Int32), .val .null, rv t103] [(.ref t103), (.ref a1)])) rfl rfl (hb hby d2_54)
    refine Go.via st106 ?_
    have fF_a1_value_106 : Fld Z h106 a1 "java/lang/String" "value" "[B" (.ref t103) := fF_a1_value_105.same W106
    have Zs106 : n0 ≤ h106.size := Nat.le_trans Zs105 (Keep.of_wr W106).1
    have O106 : Old Z n0 h106 := O105.wr W106 g1
    have K106 : Keep h0 h106 [a1] := K105.wr W106 (Or.inl (List.mem_of_getElem? (i := 0) rfl))
    have N106 := Fr.snoc X106 N105 g1
    have fE_a1_106 := fE_a1_105.wr W106
    have fF_a1_coder_106 := fF_a1_coder_105.other W106 (Or.inr (slot_ne (Or.inr (ow hw 18 rfl)) (Or.inr (ow hw 17 rfl)) (by decide) (t := .byte) (t' := (.array .byte)) (by decide) (by decide)))
    have fV_a2_106 := fV_a2_105.other W106 (Ne.symm ne1)
    have fV_t103_106 := fV_t103_105.other W106 (Ne.symm ne_a1_t103)
    exact own_retV X106 hx hlk Bd.returns (hb hby d2_57) (by show QTx1 Z a1 c0 h0 n0 _ T106.heap _; rw [e106]; exact ⟨rfl, N106, K106, Or.inl ⟨t103, kb103, fF_a1_value_106, fF_a1_coder_106, fV_t103_106, hl0⟩⟩) (by decide) (by decide)
  ·
    refine Go.via st103 ?_
    have g_t103 : n0 ≤ t103 := Nat.le_trans Z0 gt103
    have ne_a1_t103 : a1 ≠ t103 := Nat.ne_of_lt (Nat.lt_of_lt_of_le E1.lt gt103)
    have ne_a2_t103 : a2 ≠ t103 := Nat.ne_of_lt (Nat.lt_of_lt_of_le V1.lt gt103)
    have sz_t103 : h0.size ≤ t103 := Nat.le_trans (Keep.refl h0 [a1]).1 gt103
    refine Go.via (fun _ => XS.astore X103.here hx rfl (hb hby d2_39) rfl rfl (l' := #[rv a1, rv a2, iv (0 : Int32), iv (1 : Int32), .val .null, rv t103]) rfl) ?_
    show Go p e below _ (T103.setTop (mkF m 41 #[rv a1, rv a2, iv (0 : Int32), iv (1 : Int32), .val .null, rv t103] []))
    refine Go.via (fun _ => XS.aloadN X103.here hx rfl (hb hby d2_41) rfl rfl) ?_
    refine Go.via (fun _ => XS.aload X103.here hx rfl (hb hby d2_42) rfl rfl) ?_
    refine Go.via (fun _ => XS.iloadN X103.here hx rfl (hb hby d2_44) rfl) ?_
    obtain ⟨_, _, ⟨T107, L107, k107, n107⟩, -, X107, ⟨Lc107, hQ107, l107, y107, z107⟩, st107⟩ := Jvm.LawKit.callS X103 hx (y := (⟨"java/lang/StringUTF16", "coderFromArrayLen", "([BI)B"⟩ : MethodName)) hown (mvT hZ (ow hw 40 rfl)) (mvT hZ (ow hw 41 rfl)) (mvT hZ (ow hw 35 rfl)) (mvT hZ (ow hw 42 rfl)) (by decide) (backOf (W := 1) (rmCL_2_1 l Z a0 hw [] t103 kb103 _ T103.heap n0 Zs103 va103) hZ (ow hw 42 rfl) (ow hw 35 rfl) (by decide) (by decide)) (g := (mkF m 45 #[rv a1, rv a2, iv (0 : Int32), iv (1 : Int32), .val .null, rv t103] [(.int (1 : Int32)), (.ref t103), (.ref a1)])) rfl (by rw [hml]; rfl) (argsL := [(.ref t103), (.int (1 : Int32))]) (rest := [(.ref a1)]) (lenOf pd_16 rfl) rfl (by show 2 * 0 + _ ≤ _; exact Nat.le_of_eq rfl) (hb hby d2_45) (fun _ _ => ⟨rfl, rfl, (by decide : 2 + 0 ≤ _), (by decide : 3 + 0 ≤ _)⟩)
    dsimp only [Pt.U, Pt.locs, Pt.cells, Pt.slots] at X107 l107 y107 z107 st107 hQ107
    rw [l107, y107, z107] at X107
    replace X107 : Stand p l e _ _ m _ below meth c T107 _ 2 3 := X107
    obtain ⟨rfl, N107q, e107q⟩ := hQ107
    have N107 := Fr.app N103 N107q
    refine Go.via st107 ?_
    obtain ⟨T108, h108, X108, e108, W108, st108⟩ := putFN X107 hx hZ hown (ow hw 22 rfl) Via.refl e107q fF_a1_coder_103 fE_a1_103 (Or.inr ⟨(ow hw 18 rfl), rfl, hnm⟩) (ow hw 3 rfl) (ty := .byte) (v' := .int (nar .byte (1 : Int32))) (by decide) rfl (fits_nar_byte _) (g := (mkF m 48 #[rv a1, rv a2, iv (0 : Int32), iv (1 : Int32), .val .null, rv t103] [(.int (1 : Int32)), (.ref a1)])) rfl rfl (hb hby d2_48)
    refine Go.via st108 ?_
    have fF_a1_coder_108 : Fld Z h108 a1 "java/lang/String" "coder" "B" (.int (1 : Int32)) := fF_a1_coder_103.same W108
    have Zs108 : n0 ≤ h108.size := Nat.le_trans Zs103 (Keep.of_wr W108).1
    have O108 : Old Z n0 h108 := O103.wr W108 g1
    have K108 : Keep h0 h108 [a1] := K103.wr W108 (Or.inl (List.mem_of_getElem? (i := 0) rfl))
    have N108 := Fr.snoc X108 N107 g1
    have fE_a1_108 := fE_a1_103.wr W108
    have fF_a1_value_108 := fF_a1_value_103.other W108 (Or.inr (slot_ne (Or.inr (ow hw 17 rfl)) (Or.inr (ow hw 18 rfl)) (by decide) (t := (.array .byte)) (t' := .byte) (by decide) (by decide)))
    have fV_a2_108 := fV_a2_103.other W108 (Ne.symm ne1)
    have fV_t103_108 := va103.other W108 (Ne.symm ne_a1_t103)
    refine Go.via (fun _ => XS.aloadN X108.here hx rfl (hb hby d2_51) rfl rfl) ?_
    show Go p e below _ (T108.setTop (mkF m 52 #[rv a1, rv a2, iv (0 : Int32), iv (1 : Int32), .val .null, rv t103] [(.ref a1)]))
    refine Go.via (fun _ => XS.aload X108.here hx rfl (hb hby d2_52) rfl rfl) ?_
    obtain ⟨T109, h109, X109, e109, W109, st109⟩ := putF X108 hx hZ hown (host := "") (Or.inl (ow hw 21 rfl)) Via.refl e108 fF_a1_value_108 fE_a1_108 (Or.inr ⟨(ow hw 17 rfl), rfl, hnm⟩) (ow hw 3 rfl) (ty := (.array .byte)) (by decide) rfl rfl (g := (mkF m 54 #[rv a1, rv a2, iv (0 : Int32), iv (1 : Int32), .val .null, rv t103] [(.ref t103), (.ref a1)])) rfl rfl (hb hby d2_54)
    refine Go.via st109 ?_
    have fF_a1_value_109 : Fld Z h109 a1 "java/lang/String" "value" "[B" (.ref t103) := fF_a1_value_108.same W109
    have Zs109 : n0 ≤ h109.size := Nat.le_trans Zs108 (Keep.of_wr W109).1
    have O109 : Old Z n0 h109 := O108.wr W109 g1
    have K109 : Keep h0 h109 [a1] := K108.wr W109 (Or.inl (List.mem_of_getElem? (i := 0) rfl))
    have N109 := Fr.snoc X109 N108 g1
    have fE_a1_109 := fE_a1_108.wr W109
    have fF_a1_coder_109 := fF_a1_coder_108.other W109 (Or.inr (slot_ne (Or.inr (ow hw 18 rfl)) (Or.inr (ow hw 17 rfl)) (by decide) (t := .byte) (t' := (.array .byte)) (by decide) (by decide)))
    have fV_a2_109 := fV_a2_108.other W109 (Ne.symm ne1)
    have fV_t103_109 := fV_t103_108.other W109 (Ne.symm ne_a1_t103)
    exact own_retV X109 hx hlk Bd.returns (hb hby d2_57) (by show QTx1 Z a1 c0 h0 n0 _ T109.heap _; rw [e109]; exact ⟨rfl, N109, K109, Or.inr ⟨t103, kb103, fF_a1_value_109, fF_a1_coder_109, fV_t103_109⟩⟩) (by decide) (by decide)
theorem ef_rmJ1_1 (m : MethodId) (x0 : Addr) (x1 : Addr) : entryFrame m #[(.ref x0), (.ref x1)] 2 = mkF m 0 #[rv x0, rv x1] [] := by first | (simp [entryFrame, mkF, argsToLocals, Value.category]; done) | rfl
set_option maxRecDepth 65536 in
set_option maxHeartbeats 40000000 in
theorem rmJ1_1 (l : Launch) (Z : State) (a0 : Array Value) (hw : TW Z a0) (ws : List Jvm.Cond) (a1 : Addr) (a2 : Addr) (kc1 : ClassId) (c0 : Int32) (ccs : Int32) (vF : Value) (h0 : Heap) (n0 : Nat) (Z0 : n0 ≤ h0.size) (E1 : Exa Z h0 a1 "java/lang/String") (F1 : Fld Z h0 a1 "java/lang/String" "value" "[B" .null) (F2 : Fld Z h0 a1 "java/lang/String" "coder" "B" (.int (0 : Int32))) (g1 : n0 ≤ a1) (ne1 : a1 ≠ a2) (V1 : Arv Z h0 a2 kc1 .char (1 : Int32) [(.int c0)] (.int (0 : Int32))) (hr0 : ¬ (c0 < (0 : Int32)) ∧ ¬ ((65535 : Int32) < c0)) (O0 : Old Z n0 h0) (G : SG Z ccs vF) :
    MF l Z (⟨"java/lang/String", "<init>", "([C)V"⟩ : MethodName) jdk_42_method_3_code 2 none ws (rmm 5 2 3 74) #[(.ref a1), (.ref a2)] h0 (QTx1 Z a1 c0 h0 n0) := by
  refine MetFree.of_bodySF (plainFor_of_name pn_java_lang_String) hisR ?_
  intro p e s m args below meth c s₁ Bd hml0 hP hK
  obtain ⟨rfl, hZ, hh⟩ := hP
  have hx := Bd.exec
  have hby := Bd.bytes
  have hlk : meth.locks = false := Bd.notSynchronized
  have hml : c.maxLocals = 2 := hml0
  have hown : s.vm.findClass "java/lang/String" = some m.cls := findClass_of_methodNamed Bd.named
  have hnm := (name_of_methodNamed Bd.named Bd.method).1
  have rF := G.2.2.2.2.2.2
  have hcs := G.2.1
  have X0 : Stand p l e (rmm 5 2 3 74) s m #[(.ref a1), (.ref a2)] below meth c s₁ [] 0 0 := Stand.of_body Bd
  have e0 : s₁.heap = h0 := by rw [← hh, Bd.state]; rfl
  have N0 := Fr.nil n0
  show Go p e below (FinE s below (QTx1 Z a1 c0 h0 n0) (rmm 5 2 3 74).cells (rmm 5 2 3 74).slots) (s₁.setTop (entryFrame m #[(.ref a1), (.ref a2)] 2))
  refine Go.via (fun t k => castTop (ef_rmJ1_1 m a1 a2) k) ?_
  refine Go.via (fun _ => XS.aloadN X0.here hx rfl (hb hby d1_0) rfl rfl) ?_
  refine Go.via (fun _ => XS.aloadN X0.here hx rfl (hb hby d1_1) rfl rfl) ?_
  refine Go.via (fun _ => XS.iconst X0.here hx rfl (hb hby d1_2)) ?_
  refine Go.via (fun _ => XS.aloadN X0.here hx rfl (hb hby d1_3) rfl rfl) ?_
  obtain ⟨cl101, Ar101, -, S101, N101n, -, -⟩ := id V1
  have al101 := X0.arraylength hx (by rw [e0]; exact Ar101.1) (State.isArrayOf_alike hZ.alike Ar101.2.1) (g := (mkF m 4 #[rv a1, rv a2] [(.ref a2), (.int (0 : Int32)), (.ref a2), (.ref a1)])) rfl rfl (hb hby d1_4)
  rw [len_of S101 N101n] at al101
  refine Go.via al101 ?_
  show Go p e below _ (s₁.setTop (mkF m 5 #[rv a1, rv a2] [(.int (1 : Int32)), (.int (0 : Int32)), (.ref a2), (.ref a1)]))
  refine Go.via (fun _ => XS.aconstNull X0.here hx rfl (hb hby d1_5)) ?_
  obtain ⟨_, _, ⟨T102, L102, k102, n102⟩, -, X102, ⟨Lc102, hQ102, l102, y102, z102⟩, st102⟩ := X0.specialBack hx (y := (⟨"java/lang/String", "<init>", "([CIILjava/lang/Void;)V"⟩ : MethodName)) rfl hown (mvT hZ (ow hw 8 rfl)) (mvT hZ (ow hw 9 rfl)) (mvT hZ (ow hw 11 rfl)) (by decide) (backOf (W := 0) (rmJ4_1 l Z a0 hw [] a1 a2 kc1 c0 ccs vF h0 n0 Z0 E1 F1 F2 g1 ne1 V1 hr0 O0 G) hZ (ow hw 11 rfl) (ow hw 4 rfl) (by decide) (by decide)) (g := (mkF m 6 #[rv a1, rv a2] [.null, (.int (1 : Int32)), (.int (0 : Int32)), (.ref a2), (.ref a1)])) rfl (by rw [hml]; rfl) (Steps.refl _) (a := a1) (argsL := [(.ref a2), (.int (0 : Int32)), (.int (1 : Int32)), .null]) (rest := []) (lenOf pd_10 rfl) rfl (by show 2 * 0 + _ ≤ _; exact Nat.le_of_eq rfl) (hb hby d1_6) (fun _ _ => ⟨rfl, e0, (by decide : 0 + 2 ≤ _), (by decide : 0 + 3 ≤ _)⟩)
  dsimp only [Pt.U, Pt.locs, Pt.cells, Pt.slots] at X102 l102 y102 z102 st102 hQ102
  rw [l102, y102, z102] at X102
  replace X102 : Stand p l e _ _ m _ below meth c T102 _ 2 3 := X102
  obtain ⟨rfl, N102q, K102q, tx102⟩ := hQ102
  have N102 := Fr.app N0 N102q
  refine Go.tr st102 ?_
  have Zs102 : n0 ≤ T102.heap.size := Nat.le_trans Z0 K102q.1
  have O102 : Old Z n0 T102.heap := O0.keep K102q (allS g1 all0)
  have fE_a1_102 := E1.keep K102q
  have fV_a2_102 := V1.keep K102q (ninS (Ne.symm ne1) nin0)
  exact own_retV X102 hx hlk Bd.returns (hb hby d1_9) (by show QTx1 Z a1 c0 h0 n0 _ T102.heap _; exact ⟨rfl, N102, K102q, tx102⟩) (by decide) (by decide)
theorem ef_rmD2_2 (m : MethodId) (x0 : Addr) (x2 : Addr) : entryFrame m #[(.ref x0), (.int (0 : Int32)), (.ref x2), (.int (0 : Int32)), (.int (2 : Int32))] 7 = mkF m 0 #[rv x0, iv (0 : Int32), rv x2, iv (0 : Int32), iv (2 : Int32), .unset, .unset] [] := by first | (simp [entryFrame, mkF, argsToLocals, Value.category]; done) | rfl
def QD2_2 (Z : State) (a1 : Addr) (kc1 : ClassId) (b1 : Addr) (kc2 : ClassId) (c0 : Int32) (c1 : Int32) (h0 : Heap) (n0 : Nat) (v : Option Value) (h : Heap) (L : List Loc) : Prop := Fr n0 L ∧ Keep h0 h [b1] ∧ ((v = some (.int (2 : Int32)) ∧ Arv Z h b1 kc2 .byte (2 : Int32) [(.int (nar .byte (c0.toInt8.toInt32))), (.int (nar .byte (c1.toInt8.toInt32)))] (.int (0 : Int32)) ∧ ¬ ((255 : Int32) < c0) ∧ ¬ ((255 : Int32) < c1)) ∨ (v = some (.int (0 : Int32)) ∧ (255 : Int32) < c0) ∨ (v = some (.int (1 : Int32)) ∧ (255 : Int32) < c1))
set_option maxRecDepth 65536 in
set_option maxHeartbeats 40000000 in
theorem rmD2_2 (l : Launch) (Z : State) (a0 : Array Value) (hw : TW Z a0) (ws : List Jvm.Cond) (a1 : Addr) (kc1 : ClassId) (b1 : Addr) (kc2 : ClassId) (c0 : Int32) (c1 : Int32) (h0 : Heap) (n0 : Nat) (Z0 : n0 ≤ h0.size) (V1 : Arv Z h0 a1 kc1 .char (2 : Int32) [(.int c0), (.int c1)] (.int (0 : Int32))) (V2 : Arv Z h0 b1 kc2 .byte (2 : Int32) [(.int (0 : Int32)), (.int (0 : Int32))] (.int (0 : Int32))) (g1 : n0 ≤ b1) (ne1 : a1 ≠ b1) :
    MF l Z (⟨"java/lang/StringUTF16", "compress", "([CI[BII)I"⟩ : MethodName) jdk_52_method_21_code 7 (some .int) ws (rmm 0 0 0 0) #[(.ref a1), (.int (0 : Int32)), (.ref b1), (.int (0 : Int32)), (.int (2 : Int32))] h0 (QD2_2 Z a1 kc1 b1 kc2 c0 c1 h0 n0) := by
  refine MetFree.of_bodySF (plainFor_of_name pn_java_lang_StringUTF16) hisR ?_
  intro p e s m args below meth c s₁ Bd hml0 hP hK
  obtain ⟨rfl, hZ, hh⟩ := hP
  have hx := Bd.exec
  have hby := Bd.bytes
  have hlk : meth.locks = false := Bd.notSynchronized
  have hml : c.maxLocals = 7 := hml0
  have hown : s.vm.findClass "java/lang/StringUTF16" = some m.cls := findClass_of_methodNamed Bd.named
  have hnm := (name_of_methodNamed Bd.named Bd.method).1
  have X0 : Stand p l e (rmm 0 0 0 0) s m #[(.ref a1), (.int (0 : Int32)), (.ref b1), (.int (0 : Int32)), (.int (2 : Int32))] below meth c s₁ [] 0 0 := Stand.of_body Bd
  have e0 : s₁.heap = h0 := by rw [← hh, Bd.state]; rfl
  have N0 := Fr.nil n0
  show Go p e below (FinE s below (QD2_2 Z a1 kc1 b1 kc2 c0 c1 h0 n0) (rmm 0 0 0 0).cells (rmm 0 0 0 0).slots) (s₁.setTop (entryFrame m #[(.ref a1), (.int (0 : Int32)), (.ref b1), (.int (0 : Int32)), (.int (2 : Int32))] 7))
  refine Go.via (fun t k => castTop (ef_rmD2_2 m a1 b1) k) ?_
  refine Go.via (fun _ => XS.iconst X0.here hx rfl (hb hby d7_0)) ?_
  refine Go.via (fun _ => XS.istore X0.here hx rfl (hb hby d7_1) rfl (l' := #[rv a1, iv (0 : Int32), rv b1, iv (0 : Int32), iv (2 : Int32), iv (0 : Int32), .unset]) rfl) ?_
  refine Go.via (fun _ => XS.iload X0.here hx rfl (hb hby d7_3) rfl) ?_
  refine Go.via (fun _ => XS.iload X0.here hx rfl (hb hby d7_5) rfl) ?_
  refine Go.via (fun _ => XS.icmpNo X0.here hx rfl (hb hby d7_7) rfl (by decide)) ?_
  show Go p e below _ (s₁.setTop (mkF m 10 #[rv a1, iv (0 : Int32), rv b1, iv (0 : Int32), iv (2 : Int32), iv (0 : Int32), .unset] []))
  refine Go.via (fun _ => XS.aloadN X0.here hx rfl (hb hby d7_10) rfl rfl) ?_
  refine Go.via (fun _ => XS.iloadN X0.here hx rfl (hb hby d7_11) rfl) ?_
  obtain ⟨cl101, Ar101, q101, S101, N101n, H101, G101⟩ := id V1
  have hin101 := inb_of (j := (0 : Int32)) S101 (by decide)
  have hat101 : cl101.slots[((0 : Int32) : Int32).toNatClampNeg]? = some (.int c0) := H101.at hin101 rfl
  refine Go.via (X0.caload hx (j := (0 : Int32)) (v := (.int c0)) (by rw [e0]; exact Ar101.1) (State.isArrayOf_alike hZ.alike Ar101.2.1) Ar101.2.2 hin101 hat101 (g := (mkF m 12 #[rv a1, iv (0 : Int32), rv b1, iv (0 : Int32), iv (2 : Int32), iv (0 : Int32), .unset] [(.int (0 : Int32)), (.ref a1)])) rfl rfl (hb hby d7_12)) ?_
  refine Go.via (fun _ => XS.istore X0.here hx rfl (hb hby d7_13) rfl (l' := #[rv a1, iv (0 : Int32), rv b1, iv (0 : Int32), iv (2 : Int32), iv (0 : Int32), iv c0]) rfl) ?_
  refine Go.via (fun _ => XS.iload X0.here hx rfl (hb hby d7_15) rfl) ?_
  refine Go.via (fun _ => XS.sipush X0.here hx rfl (hb hby d7_17)) ?_
  show Go p e below _ (s₁.setTop (mkF m 20 #[rv a1, iv (0 : Int32), rv b1, iv (0 : Int32), iv (2 : Int32), iv (0 : Int32), iv c0] [(.int (255 : Int32)), (.int c0)]))
  by_cases hc102 : (255 : Int32) < c0
  · -- yes
    refine Go.via (fun _ => XS.icmpNo X0.here hx rfl (hb hby d7_20) rfl (tlt hc102).2.2.2) ?_
    refine Go.via (fun _ => XS.iload X0.here hx rfl (hb hby d7_23) rfl) ?_
    exact own_retI X0 hx hlk Bd.returns (hb hby d7_25) (by show QD2_2 Z a1 kc1 b1 kc2 c0 c1 h0 n0 _ s₁.heap _; rw [e0]; exact ⟨N0, (Keep.refl h0 [b1]), Or.inr (Or.inl ⟨rfl, hc102⟩)⟩) (by decide) (by decide)
  · -- no
    refine Go.via (fun _ => XS.icmpYes X0.here hx rfl (pc0 := 20) (pc' := 26) rfl (hb hby d7_20) rfl (flt hc102).2.2.2 (by decide) (by decide)) ?_
    refine Go.via (fun _ => XS.aloadN X0.here hx rfl (hb hby d7_26) rfl rfl) ?_
    refine Go.via (fun _ => XS.iloadN X0.here hx rfl (hb hby d7_27) rfl) ?_
    refine Go.via (fun _ => XS.iload X0.here hx rfl (hb hby d7_28) rfl) ?_
    show Go p e below _ (s₁.setTop (mkF m 30 #[rv a1, iv (0 : Int32), rv b1, iv (0 : Int32), iv (2 : Int32), iv (0 : Int32), iv c0] [(.int c0), (.int (0 : Int32)), (.ref b1)]))
    refine Go.via (fun _ => XS.i2b X0.here hx rfl (hb hby d7_30) rfl) ?_
    obtain ⟨cl103, Ar103, q103, S103, N103n, H103, G103⟩ := id V2
    have hin103 := inb_of (j := (0 : Int32)) S103 (by decide)
    obtain ⟨T103, h103, X103, e103, W103, st103⟩ := stB X0 hx hZ e0 Ar103 (j := (0 : Int32)) hin103 (g := (mkF m 31 #[rv a1, iv (0 : Int32), rv b1, iv (0 : Int32), iv (2 : Int32), iv (0 : Int32), iv c0] [(.int (c0.toInt8.toInt32)), (.int (0 : Int32)), (.ref b1)])) rfl rfl (hb hby d7_31)
    refine Go.via st103 ?_
    have V103 : Arv Z h103 b1 kc2 .byte (2 : Int32) [(.int (nar .byte (c0.toInt8.toInt32))), (.int (0 : Int32))] (.int (0 : Int32)) := Arv.set Ar103 q103 S103 N103n H103 G103 (fits_nar_byte _) W103 0 rfl (Nat.le_of_ble_eq_true rfl)
    have Zs103 : n0 ≤ h103.size := Nat.le_trans Z0 (Keep.of_wr W103).1
    have K103 : Keep h0 h103 [b1] := (Keep.refl h0 [b1]).wr W103 (Or.inl (List.mem_of_getElem? (i := 0) rfl))
    have N103 := Fr.snoc X103 N0 g1
    have fV_a1_103 := V1.other W103 ne1
    refine Go.via (fun _ => XS.iinc X103.here hx rfl (hb hby d7_32) rfl (l' := #[rv a1, iv (1 : Int32), rv b1, iv (0 : Int32), iv (2 : Int32), iv (0 : Int32), iv c0]) rfl) ?_
    refine Go.via (fun _ => XS.iinc X103.here hx rfl (hb hby d7_35) rfl (l' := #[rv a1, iv (1 : Int32), rv b1, iv (1 : Int32), iv (2 : Int32), iv (0 : Int32), iv c0]) rfl) ?_
    refine Go.via (fun _ => XS.iinc X103.here hx rfl (hb hby d7_38) rfl (l' := #[rv a1, iv (1 : Int32), rv b1, iv (1 : Int32), iv (2 : Int32), iv (1 : Int32), iv c0]) rfl) ?_
    refine Go.via (fun _ => XS.goto X103.here hx rfl (pc0 := 41) (pc' := 3) rfl (hb hby d7_41) (by decide) (by decide)) ?_
    show Go p e below _ (T103.setTop (mkF m 3 #[rv a1, iv (1 : Int32), rv b1, iv (1 : Int32), iv (2 : Int32), iv (1 : Int32), iv c0] []))
    refine Go.via (fun _ => XS.iload X103.here hx rfl (hb hby d7_3) rfl) ?_
    refine Go.via (fun _ => XS.iload X103.here hx rfl (hb hby d7_5) rfl) ?_
    refine Go.via (fun _ => XS.icmpNo X103.here hx rfl (hb hby d7_7) rfl (by decide)) ?_
    refine Go.via (fun _ => XS.aloadN X103.here hx rfl (hb hby d7_10) rfl rfl) ?_
    refine Go.via (fun _ => XS.iloadN X103.here hx rfl (hb hby d7_11) rfl) ?_
    obtain ⟨cl104, Ar104, q104, S104, N104n, H104, G104⟩ := id fV_a1_103
    have hin104 := inb_of (j := (1 : Int32)) S104 (by decide)
    have hat104 : cl104.slots[((1 : Int32) : Int32).toNatClampNeg]? = some (.int c1) := H104.at hin104 rfl
    refine Go.via (X103.caload hx (j := (1 : Int32)) (v := (.int c1)) (by rw [e103]; exact Ar104.1) (State.isArrayOf_alike hZ.alike Ar104.2.1) Ar104.2.2 hin104 hat104 (g := (mkF m 12 #[rv a1, iv (1 : Int32), rv b1, iv (1 : Int32), iv (2 : Int32), iv (1 : Int32), iv c0] [(.int (1 : Int32)), (.ref a1)])) rfl rfl (hb hby d7_12)) ?_
    show Go p e below _ (T103.setTop (mkF m 13 #[rv a1, iv (1 : Int32), rv b1, iv (1 : Int32), iv (2 : Int32), iv (1 : Int32), iv c0] [(.int c1)]))
    refine Go.via (fun _ => XS.istore X103.here hx rfl (hb hby d7_13) rfl (l' := #[rv a1, iv (1 : Int32), rv b1, iv (1 : Int32), iv (2 : Int32), iv (1 : Int32), iv c1]) rfl) ?_
    refine Go.via (fun _ => XS.iload X103.here hx rfl (hb hby d7_15) rfl) ?_
    refine Go.via (fun _ => XS.sipush X103.here hx rfl (hb hby d7_17)) ?_
    by_cases hc105 : (255 : Int32) < c1
    · -- yes
      refine Go.via (fun _ => XS.icmpNo X103.here hx rfl (hb hby d7_20) rfl (tlt hc105).2.2.2) ?_
      show Go p e below _ (T103.setTop (mkF m 23 #[rv a1, iv (1 : Int32), rv b1, iv (1 : Int32), iv (2 : Int32), iv (1 : Int32), iv c1] []))
      refine Go.via (fun _ => XS.iload X103.here hx rfl (hb hby d7_23) rfl) ?_
      exact own_retI X103 hx hlk Bd.returns (hb hby d7_25) (by show QD2_2 Z a1 kc1 b1 kc2 c0 c1 h0 n0 _ T103.heap _; rw [e103]; exact ⟨N103, K103, Or.inr (Or.inr (⟨rfl, hc105⟩))⟩) (by decide) (by decide)
    · -- no
      refine Go.via (fun _ => XS.icmpYes X103.here hx rfl (pc0 := 20) (pc' := 26) rfl (hb hby d7_20) rfl (flt hc105).2.2.2 (by decide) (by decide)) ?_
      show Go p e below _ (T103.setTop (mkF m 26 #[rv a1, iv (1 : Int32), rv b1, iv (1 : Int32), iv (2 : Int32), iv (1 : Int32), iv c1] []))
      refine Go.via (fun _ => XS.aloadN X103.here hx rfl (hb hby d7_26) rfl rfl) ?_
      refine Go.via (fun _ => XS.iloadN X103.here hx rfl (hb hby d7_27) rfl) ?_
      refine Go.via (fun _ => XS.iload X103.here hx rfl (hb hby d7_28) rfl) ?_
      refine Go.via (fun _ => XS.i2b X103.here hx rfl (hb hby d7_30) rfl) ?_
      obtain ⟨cl106, Ar106, q106, S106, N106n, H106, G106⟩ := id V103
      have hin106 := inb_of (j := (1 : Int32)) S106 (by decide)
      obtain ⟨T106, h106, X106, e106, W106, st106⟩ := stB X103 hx hZ e103 Ar106 (j := (1 : Int32)) hin106 (g := (mkF m 31 #[rv a1, iv (1 : Int32), rv b1, iv (1 : Int32), iv (2 : Int32), iv (1 : Int32), iv c1] [(.int (c1.toInt8.toInt32)), (.int (1 : Int32)), (.ref b1)])) rfl rfl (hb hby d7_31)
      refine Go.via st106 ?_
      have V106 : Arv Z h106 b1 kc2 .byte (2 : Int32) [(.int (nar .byte (c0.toInt8.toInt32))), (.int (nar .byte (c1.toInt8.toInt32)))] (.int (0 : Int32)) := Arv.set Ar106 q106 S106 N106n H106 G106 (fits_nar_byte _) W106 1 rfl (Nat.le_of_ble_eq_true rfl)
      have Zs106 : n0 ≤ h106.size := Nat.le_trans Zs103 (Keep.of_wr W106).1
      have K106 : Keep h0 h106 [b1] := K103.wr W106 (Or.inl (List.mem_of_getElem? (i := 0) rfl))
      have N106 := Fr.snoc X106 N103 g1
      have fV_a1_106 := fV_a1_103.other W106 ne1
      refine Go.via (fun _ => XS.iinc X106.here hx rfl (hb hby d7_32) rfl (l' := #[rv a1, iv (2 : Int32), rv b1, iv (1 : Int32), iv (2 : Int32), iv (1 : Int32), iv c1]) rfl) ?_
      show Go p e below _ (T106.setTop (mkF m 35 #[rv a1, iv (2 : Int32), rv b1, iv (1 : Int32), iv (2 : Int32), iv (1 : Int32), iv c1] []))
      refine Go.via (fun _ => XS.iinc X106.here hx rfl (hb hby d7_35) rfl (l' := #[rv a1, iv (2 : Int32), rv b1, iv (2 : Int32), iv (2 : Int32), iv (1 : Int32), iv c1]) rfl) ?_
      refine Go.via (fun _ => XS.iinc X106.here hx rfl (hb hby d7_38) rfl (l' := #[rv a1, iv (2 : Int32), rv b1, iv (2 : Int32), iv (2 : Int32), iv (2 : Int32), iv c1]) rfl) ?_
      refine Go.via (fun _ => XS.goto X106.here hx rfl (pc0 := 41) (pc' := 3) rfl (hb hby d7_41) (by decide) (by decide)) ?_
      refine Go.via (fun _ => XS.iload X106.here hx rfl (hb hby d7_3) rfl) ?_
      refine Go.via (fun _ => XS.iload X106.here hx rfl (hb hby d7_5) rfl) ?_
      refine Go.via (fun _ => XS.icmpYes X106.here hx rfl (pc0 := 7) (pc' := 44) rfl (hb hby d7_7) rfl (by decide) (by decide) (by decide)) ?_
      show Go p e below _ (T106.setTop (mkF m 44 #[rv a1, iv (2 : Int32), rv b1, iv (2 : Int32), iv (2 : Int32), iv (2 : Int32), iv c1] []))
      refine Go.via (fun _ => XS.iload X106.here hx rfl (hb hby d7_44) rfl) ?_
      exact own_retI X106 hx hlk Bd.returns (hb hby d7_46) (by show QD2_2 Z a1 kc1 b1 kc2 c0 c1 h0 n0 _ T106.heap _; rw [e106]; exact ⟨N106, K106, Or.inl ⟨rfl, V106, hc102, hc105⟩⟩) (by decide) (by decide)
theorem ef_rmNBL_2 (m : MethodId)  : entryFrame m #[(.int (2 : Int32))] 1 = mkF m 0 #[iv (2 : Int32)] [] := by first | (simp [entryFrame, mkF, argsToLocals, Value.category]; done) | rfl
def QNBL_2 (Z : State)  (h0 : Heap) (n0 : Nat) (v : Option Value) (h : Heap) (L : List Loc) : Prop := v = some (.int (4 : Int32)) ∧ Fr n0 L ∧ h = h0
set_option maxRecDepth 65536 in
set_option maxHeartbeats 40000000 in
theorem rmNBL_2 (l : Launch) (Z : State) (a0 : Array Value) (hw : TW Z a0) (ws : List Jvm.Cond)  (h0 : Heap) (n0 : Nat) (Z0 : n0 ≤ h0.size) :
    MF l Z (⟨"java/lang/StringUTF16", "newBytesLength", "(I)I"⟩ : MethodName) jdk_52_method_3_code 1 (some .int) ws (rmm 0 0 0 0) #[(.int (2 : Int32))] h0 (QNBL_2 Z  h0 n0) := by
  refine MetFree.of_bodySF (plainFor_of_name pn_java_lang_StringUTF16) hisR ?_
  intro p e s m args below meth c s₁ Bd hml0 hP hK
  obtain ⟨rfl, hZ, hh⟩ := hP
  have hx := Bd.exec
  have hby := Bd.bytes
  have hlk : meth.locks = false := Bd.notSynchronized
  have hml : c.maxLocals = 1 := hml0
  have hown : s.vm.findClass "java/lang/StringUTF16" = some m.cls := findClass_of_methodNamed Bd.named
  have hnm := (name_of_methodNamed Bd.named Bd.method).1
  have X0 : Stand p l e (rmm 0 0 0 0) s m #[(.int (2 : Int32))] below meth c s₁ [] 0 0 := Stand.of_body Bd
  have e0 : s₁.heap = h0 := by rw [← hh, Bd.state]; rfl
  have N0 := Fr.nil n0
  show Go p e below (FinE s below (QNBL_2 Z  h0 n0) (rmm 0 0 0 0).cells (rmm 0 0 0 0).slots) (s₁.setTop (entryFrame m #[(.int (2 : Int32))] 1))
  refine Go.via (fun t k => castTop (ef_rmNBL_2 m ) k) ?_
  refine Go.via (fun _ => XS.iloadN X0.here hx rfl (hb hby d21_0) rfl) ?_
  refine Go.via (fun _ => XS.ifYes X0.here hx rfl (pc0 := 1) (pc' := 12) rfl (hb hby d21_1) rfl (by decide) (by decide) (by decide)) ?_
  refine Go.via (fun _ => XS.iloadN X0.here hx rfl (hb hby d21_12) rfl) ?_
  refine Go.via (X0.ldcInt hx hown (mvT hZ (ow hw 94 rfl)) (g := (mkF m 13 #[iv (2 : Int32)] [(.int (2 : Int32))])) rfl (hb hby d21_13)) ?_
  refine Go.via (fun _ => XS.icmpYes X0.here hx rfl (pc0 := 15) (pc' := 55) rfl (hb hby d21_15) rfl (by decide) (by decide) (by decide)) ?_
  show Go p e below _ (s₁.setTop (mkF m 55 #[iv (2 : Int32)] []))
  refine Go.via (fun _ => XS.iloadN X0.here hx rfl (hb hby d21_55) rfl) ?_
  refine Go.via (fun _ => XS.iconst X0.here hx rfl (hb hby d21_56)) ?_
  refine Go.via (fun _ => XS.ishl X0.here hx rfl (hb hby d21_57) rfl) ?_
  exact own_retI X0 hx hlk Bd.returns (hb hby d21_58) (by show QNBL_2 Z  h0 n0 _ s₁.heap _; rw [e0]; exact ⟨rfl, N0, rfl⟩) (by decide) (by decide)
theorem ef_rmNBF_2 (m : MethodId)  : entryFrame m #[(.int (2 : Int32))] 1 = mkF m 0 #[iv (2 : Int32)] [] := by first | (simp [entryFrame, mkF, argsToLocals, Value.category]; done) | rfl
def QNBF_2 (Z : State)  (h0 : Heap) (n0 : Nat) (v : Option Value) (h : Heap) (L : List Loc) : Prop := ∃ (t : Addr) (kb : ClassId), v = some (.ref t) ∧ Fr n0 L ∧ Keep h0 h [] ∧ h0.size ≤ t ∧ Arv Z h t kb .byte (4 : Int32) [(.int (0 : Int32)), (.int (0 : Int32)), (.int (0 : Int32)), (.int (0 : Int32))] (.int (0 : Int32))
set_option maxRecDepth 65536 in
set_option maxHeartbeats 40000000 in
theorem rmNBF_2 (l : Launch) (Z : State) (a0 : Array Value) (hw : TW Z a0) (ws : List Jvm.Cond)  (h0 : Heap) (n0 : Nat) (Z0 : n0 ≤ h0.size) :
    MF l Z (⟨"java/lang/StringUTF16", "newBytesFor", "(I)[B"⟩ : MethodName) jdk_52_method_2_code 1 (some (.array .byte)) ws (rmm 1 1 4 12) #[(.int (2 : Int32))] h0 (QNBF_2 Z  h0 n0) := by
  refine MetFree.of_bodySF (plainFor_of_name pn_java_lang_StringUTF16) hisR ?_
  intro p e s m args below meth c s₁ Bd hml0 hP hK
  obtain ⟨rfl, hZ, hh⟩ := hP
  have hx := Bd.exec
  have hby := Bd.bytes
  have hlk : meth.locks = false := Bd.notSynchronized
  have hml : c.maxLocals = 1 := hml0
  have hown : s.vm.findClass "java/lang/StringUTF16" = some m.cls := findClass_of_methodNamed Bd.named
  have hnm := (name_of_methodNamed Bd.named Bd.method).1
  have X0 : Stand p l e (rmm 1 1 4 12) s m #[(.int (2 : Int32))] below meth c s₁ [] 0 0 := Stand.of_body Bd
  have e0 : s₁.heap = h0 := by rw [← hh, Bd.state]; rfl
  have N0 := Fr.nil n0
  show Go p e below (FinE s below (QNBF_2 Z  h0 n0) (rmm 1 1 4 12).cells (rmm 1 1 4 12).slots) (s₁.setTop (entryFrame m #[(.int (2 : Int32))] 1))
  refine Go.via (fun t k => castTop (ef_rmNBF_2 m ) k) ?_
  refine Go.via (fun _ => XS.iloadN X0.here hx rfl (hb hby d20_0) rfl) ?_
  obtain ⟨_, _, ⟨T101, L101, k101, n101⟩, -, X101, ⟨Lc101, hQ101, l101, y101, z101⟩, st101⟩ := Jvm.LawKit.callS X0 hx (y := (⟨"java/lang/StringUTF16", "newBytesLength", "(I)I"⟩ : MethodName)) hown (mvT hZ (ow hw 91 rfl)) (mvT hZ (ow hw 92 rfl)) (mvT hZ (ow hw 35 rfl)) (mvT hZ (ow hw 93 rfl)) (by decide) (backOf (W := 0) (rmNBL_2 l Z a0 hw [] h0 n0 Z0) hZ (ow hw 93 rfl) (ow hw 35 rfl) (by decide) (by decide)) (g := (mkF m 1 #[iv (2 : Int32)] [(.int (2 : Int32))])) rfl (by rw [hml]; rfl) (argsL := [(.int (2 : Int32))]) (rest := []) (lenOf pd_11 rfl) rfl (by show 2 * 0 + _ ≤ _; exact Nat.le_of_eq rfl) (hb hby d20_1) (fun _ _ => ⟨rfl, e0, (by decide : 0 + 0 ≤ _), (by decide : 0 + 0 ≤ _)⟩)
  dsimp only [Pt.U, Pt.locs, Pt.cells, Pt.slots] at X101 l101 y101 z101 st101 hQ101
  rw [l101, y101, z101] at X101
  replace X101 : Stand p l e _ _ m _ below meth c T101 _ 0 0 := X101
  obtain ⟨rfl, N101q, e101q⟩ := hQ101
  have N101 := Fr.app N0 N101q
  refine Go.via st101 ?_
  obtain ⟨T102, h102, k102, X102, e102, E102, A102, st102⟩ := newP X101 hx hZ (ow hw 16 rfl) e101q (g := (mkF m 4 #[iv (2 : Int32)] [(.int (4 : Int32))])) rfl (hb hby d20_4) rfl (by decide) (cap := 4) (by decide) (by decide) (by decide) (by decide)
  obtain ⟨b102, g102⟩ : ∃ z, z = h0.size := ⟨_, rfl⟩
  rw [← g102] at A102 st102
  have g_b102 : n0 ≤ b102 := Nat.le_trans Z0 (Nat.le_of_eq g102.symm)
  have sz_b102 : h0.size ≤ b102 := Nat.le_trans (Keep.refl h0 []).1 (Nat.le_of_eq g102.symm)
  refine Go.via st102 ?_
  have Zs102 : n0 ≤ h102.size := Nat.le_trans Z0 E102.1
  have K102 : Keep h0 h102 [] := (Keep.refl h0 []).ext E102
  have V_b102 : Arv Z h102 b102 k102 .byte (4 : Int32) [(.int (0 : Int32)), (.int (0 : Int32)), (.int (0 : Int32)), (.int (0 : Int32))] (.int (0 : Int32)) := (Arv.new A102 (by decide)).pad (pad_rep [] (.int (0 : Int32)) 4)
  exact own_retA X102 hx hlk Bd.returns rfl rfl (hb hby d20_6) (by show QNBF_2 Z  h0 n0 _ T102.heap _; rw [e102]; exact ⟨b102, k102, rfl, N101, K102, sz_b102, V_b102⟩) (by decide) (by decide)
theorem ef_rmPut_2_0 (m : MethodId) (x0 : Addr) (x2 : Int32) : entryFrame m #[(.ref x0), (.int (0 : Int32)), (.int x2)] 3 = mkF m 0 #[rv x0, iv (0 : Int32), iv x2] [] := by first | (simp [entryFrame, mkF, argsToLocals, Value.category]; done) | rfl
def QPut_2_0 (Z : State) (b1 : Addr) (kc2 : ClassId) (ch : Int32) (x0 : Value) (x1 : Value) (x2 : Value) (x3 : Value) (ccs : Int32) (vF : Value) (h0 : Heap) (n0 : Nat) (v : Option Value) (h : Heap) (L : List Loc) : Prop := v = none ∧ Fr n0 L ∧ Keep h0 h [b1] ∧ Arv Z h b1 kc2 .byte (4 : Int32) [(.int (nar .byte ((ch >>> ((0 : Int32) &&& 31)).toInt8.toInt32))), (.int (nar .byte ((ch >>> ((8 : Int32) &&& 31)).toInt8.toInt32))), x2, x3] (.int (0 : Int32))
set_option maxRecDepth 65536 in
set_option maxHeartbeats 40000000 in
theorem rmPut_2_0 (l : Launch) (Z : State) (a0 : Array Value) (hw : TW Z a0) (ws : List Jvm.Cond) (b1 : Addr) (kc2 : ClassId) (ch : Int32) (x0 : Value) (x1 : Value) (x2 : Value) (x3 : Value) (ccs : Int32) (vF : Value) (h0 : Heap) (n0 : Nat) (Z0 : n0 ≤ h0.size) (V2 : Arv Z h0 b1 kc2 .byte (4 : Int32) [x0, x1, x2, x3] (.int (0 : Int32))) (g1 : n0 ≤ b1) (O0 : Old Z n0 h0) (G : SG Z ccs vF) :
    MF l Z (⟨"java/lang/StringUTF16", "putChar", "([BII)V"⟩ : MethodName) jdk_52_method_4_code 3 none ws (rmm 0 0 0 0) #[(.ref b1), (.int (0 : Int32)), (.int ch)] h0 (QPut_2_0 Z b1 kc2 ch x0 x1 x2 x3 ccs vF h0 n0) := by
  refine MetFree.of_bodySF (plainFor_of_name pn_java_lang_StringUTF16) hisR ?_
  intro p e s m args below meth c s₁ Bd hml0 hP hK
  obtain ⟨rfl, hZ, hh⟩ := hP
  have hx := Bd.exec
  have hby := Bd.bytes
  have hlk : meth.locks = false := Bd.notSynchronized
  have hml : c.maxLocals = 3 := hml0
  have hown : s.vm.findClass "java/lang/StringUTF16" = some m.cls := findClass_of_methodNamed Bd.named
  have hnm := (name_of_methodNamed Bd.named Bd.method).1
  have rF := G.2.2.2.2.2.2
  have hcs := G.2.1
  have X0 : Stand p l e (rmm 0 0 0 0) s m #[(.ref b1), (.int (0 : Int32)), (.int ch)] below meth c s₁ [] 0 0 := Stand.of_body Bd
  have e0 : s₁.heap = h0 := by rw [← hh, Bd.state]; rfl
  have N0 := Fr.nil n0
  show Go p e below (FinE s below (QPut_2_0 Z b1 kc2 ch x0 x1 x2 x3 ccs vF h0 n0) (rmm 0 0 0 0).cells (rmm 0 0 0 0).slots) (s₁.setTop (entryFrame m #[(.ref b1), (.int (0 : Int32)), (.int ch)] 3))
  refine Go.via (fun t k => castTop (ef_rmPut_2_0 m b1 ch) k) ?_
  obtain ⟨T101, X101, e101, st101⟩ := getS2 X0 hx hZ hown (host := "") (Or.inl (ow hw 98 rfl)) Via.refl e0 (G.2.2.1.ext O0.2) (g := (mkF m 0 #[rv b1, iv (0 : Int32), iv ch] [])) rfl (hb hby d22_0)
  refine Go.via st101 ?_
  refine Go.via (fun _ => XS.ifYes X101.here hx rfl (pc0 := 3) (pc' := 28) rfl (hb hby d22_3) rfl (by decide) (by decide) (by decide)) ?_
  refine Go.via (fun _ => XS.iloadN X101.here hx rfl (hb hby d22_28) rfl) ?_
  refine Go.via (fun _ => XS.iconst X101.here hx rfl (hb hby d22_29)) ?_
  refine Go.via (fun _ => XS.ishl X101.here hx rfl (hb hby d22_30) rfl) ?_
  show Go p e below _ (T101.setTop (mkF m 31 #[rv b1, iv (0 : Int32), iv ch] [(.int (0 : Int32))]))
  refine Go.via (fun _ => XS.istoreN X101.here hx rfl (hb hby d22_31) rfl (l' := #[rv b1, iv (0 : Int32), iv ch]) rfl) ?_
  refine Go.via (fun _ => XS.aloadN X101.here hx rfl (hb hby d22_32) rfl rfl) ?_
  refine Go.via (fun _ => XS.iloadN X101.here hx rfl (hb hby d22_33) rfl) ?_
  refine Go.via (fun _ => XS.iinc X101.here hx rfl (hb hby d22_34) rfl (l' := #[rv b1, iv (1 : Int32), iv ch]) rfl) ?_
  refine Go.via (fun _ => XS.iloadN X101.here hx rfl (hb hby d22_37) rfl) ?_
  obtain ⟨T102, X102, e102, st102⟩ := getS2 X101 hx hZ hown (host := "") (Or.inl (ow hw 99 rfl)) Via.refl e101 (G.2.2.2.1.ext O0.2) (g := (mkF m 38 #[rv b1, iv (1 : Int32), iv ch] [(.int ch), (.int (0 : Int32)), (.ref b1)])) rfl (hb hby d22_38)
  refine Go.via st102 ?_
  show Go p e below _ (T102.setTop (mkF m 41 #[rv b1, iv (1 : Int32), iv ch] [(.int (0 : Int32)), (.int ch), (.int (0 : Int32)), (.ref b1)]))
  refine Go.via (fun _ => XS.ishr X102.here hx rfl (hb hby d22_41) rfl) ?_
  refine Go.via (fun _ => XS.i2b X102.here hx rfl (hb hby d22_42) rfl) ?_
  obtain ⟨cl103, Ar103, q103, S103, N103n, H103, G103⟩ := id V2
  have hin103 := inb_of (j := (0 : Int32)) S103 (by decide)
  obtain ⟨T103, h103, X103, e103, W103, st103⟩ := stB X102 hx hZ e102 Ar103 (j := (0 : Int32)) hin103 (g := (mkF m 43 #[rv b1, iv (1 : Int32), iv ch] [(.int ((ch >>> ((0 : Int32) &&& 31)).toInt8.toInt32)), (.int (0 : Int32)), (.ref b1)])) rfl rfl (hb hby d22_43)
  refine Go.via st103 ?_
  have V103 : Arv Z h103 b1 kc2 .byte (4 : Int32) [(.int (nar .byte ((ch >>> ((0 : Int32) &&& 31)).toInt8.toInt32))), x1, x2, x3] (.int (0 : Int32)) := Arv.set Ar103 q103 S103 N103n H103 G103 (fits_nar_byte _) W103 0 rfl (Nat.le_of_ble_eq_true rfl)
  have Zs103 : n0 ≤ h103.size := Nat.le_trans Z0 (Keep.of_wr W103).1
  have O103 : Old Z n0 h103 := O0.wr W103 g1
  have K103 : Keep h0 h103 [b1] := (Keep.refl h0 [b1]).wr W103 (Or.inl (List.mem_of_getElem? (i := 0) rfl))
  have N103 := Fr.snoc X103 N0 g1
  refine Go.via (fun _ => XS.aloadN X103.here hx rfl (hb hby d22_44) rfl rfl) ?_
  refine Go.via (fun _ => XS.iloadN X103.here hx rfl (hb hby d22_45) rfl) ?_
  refine Go.via (fun _ => XS.iloadN X103.here hx rfl (hb hby d22_46) rfl) ?_
  show Go p e below _ (T103.setTop (mkF m 47 #[rv b1, iv (1 : Int32), iv ch] [(.int ch), (.int (1 : Int32)), (.ref b1)]))
  obtain ⟨T104, X104, e104, st104⟩ := getS2 X103 hx hZ hown (host := "") (Or.inl (ow hw 100 rfl)) Via.refl e103 (G.2.2.2.2.1.ext O103.2) (g := (mkF m 47 #[rv b1, iv (1 : Int32), iv ch] [(.int ch), (.int (1 : Int32)), (.ref b1)])) rfl (hb hby d22_47)
  refine Go.via st104 ?_
  refine Go.via (fun _ => XS.ishr X104.here hx rfl (hb hby d22_50) rfl) ?_
  refine Go.via (fun _ => XS.i2b X104.here hx rfl (hb hby d22_51) rfl) ?_
  obtain ⟨cl105, Ar105, q105, S105, N105n, H105, G105⟩ := id V103
  have hin105 := inb_of (j := (1 : Int32)) S105 (by decide)
  obtain ⟨T105, h105, X105, e105, W105, st105⟩ := stB X104 hx hZ e104 Ar105 (j := (1 : Int32)) hin105 (g := (mkF m 52 #[rv b1, iv (1 : Int32), iv ch] [(.int ((ch >>> ((8 : Int32) &&& 31)).toInt8.toInt32)), (.int (1 : Int32)), (.ref b1)])) rfl rfl (hb hby d22_52)
  refine Go.via st105 ?_
  have V105 : Arv Z h105 b1 kc2 .byte (4 : Int32) [(.int (nar .byte ((ch >>> ((0 : Int32) &&& 31)).toInt8.toInt32))), (.int (nar .byte ((ch >>> ((8 : Int32) &&& 31)).toInt8.toInt32))), x2, x3] (.int (0 : Int32)) := Arv.set Ar105 q105 S105 N105n H105 G105 (fits_nar_byte _) W105 1 rfl (Nat.le_of_ble_eq_true rfl)
  have Zs105 : n0 ≤ h105.size := Nat.le_trans Zs103 (Keep.of_wr W105).1
  have O105 : Old Z n0 h105 := O103.wr W105 g1
  have K105 : Keep h0 h105 [b1] := K103.wr W105 (Or.inl (List.mem_of_getElem? (i := 0) rfl))
  have N105 := Fr.snoc X105 N103 g1
  exact own_retV X105 hx hlk Bd.returns (hb hby d22_53) (by show QPut_2_0 Z b1 kc2 ch x0 x1 x2 x3 ccs vF h0 n0 _ T105.heap _; rw [e105]; exact ⟨rfl, N105, K105, V105⟩) (by decide) (by decide)
theorem ef_rmPut_2_1 (m : MethodId) (x0 : Addr) (x2 : Int32) : entryFrame m #[(.ref x0), (.int (1 : Int32)), (.int x2)] 3 = mkF m 0 #[rv x0, iv (1 : Int32), iv x2] [] := by first | (simp [entryFrame, mkF, argsToLocals, Value.category]; done) | rfl
def QPut_2_1 (Z : State) (b1 : Addr) (kc2 : ClassId) (ch : Int32) (x0 : Value) (x1 : Value) (x2 : Value) (x3 : Value) (ccs : Int32) (vF : Value) (h0 : Heap) (n0 : Nat) (v : Option Value) (h : Heap) (L : List Loc) : Prop := v = none ∧ Fr n0 L ∧ Keep h0 h [b1] ∧ Arv Z h b1 kc2 .byte (4 : Int32) [x0, x1, (.int (nar .byte ((ch >>> ((0 : Int32) &&& 31)).toInt8.toInt32))), (.int (nar .byte ((ch >>> ((8 : Int32) &&& 31)).toInt8.toInt32)))] (.int (0 : Int32))
set_option maxRecDepth 65536 in
set_option maxHeartbeats 40000000 in
theorem rmPut_2_1 (l : Launch) (Z : State) (a0 : Array Value) (hw : TW Z a0) (ws : List Jvm.Cond) (b1 : Addr) (kc2 : ClassId) (ch : Int32) (x0 : Value) (x1 : Value) (x2 : Value) (x3 : Value) (ccs : Int32) (vF : Value) (h0 : Heap) (n0 : Nat) (Z0 : n0 ≤ h0.size) (V2 : Arv Z h0 b1 kc2 .byte (4 : Int32) [x0, x1, x2, x3] (.int (0 : Int32))) (g1 : n0 ≤ b1) (O0 : Old Z n0 h0) (G : SG Z ccs vF) :
    MF l Z (⟨"java/lang/StringUTF16", "putChar", "([BII)V"⟩ : MethodName) jdk_52_method_4_code 3 none ws (rmm 0 0 0 0) #[(.ref b1), (.int (1 : Int32)), (.int ch)] h0 (QPut_2_1 Z b1 kc2 ch x0 x1 x2 x3 ccs vF h0 n0) := by
  refine MetFree.of_bodySF (plainFor_of_name pn_java_lang_StringUTF16) hisR ?_
  intro p e s m args below meth c s₁ Bd hml0 hP hK
  obtain ⟨rfl, hZ, hh⟩ := hP
  have hx := Bd.exec
  have hby := Bd.bytes
  have hlk : meth.locks = false := Bd.notSynchronized
  have hml : c.maxLocals = 3 := hml0
  have hown : s.vm.findClass "java/lang/StringUTF16" = some m.cls := findClass_of_methodNamed Bd.named
  have hnm := (name_of_methodNamed Bd.named Bd.method).1
  have rF := G.2.2.2.2.2.2
  have hcs := G.2.1
  have X0 : Stand p l e (rmm 0 0 0 0) s m #[(.ref b1), (.int (1 : Int32)), (.int ch)] below meth c s₁ [] 0 0 := Stand.of_body Bd
  have e0 : s₁.heap = h0 := by rw [← hh, Bd.state]; rfl
  have N0 := Fr.nil n0
  show Go p e below (FinE s below (QPut_2_1 Z b1 kc2 ch x0 x1 x2 x3 ccs vF h0 n0) (rmm 0 0 0 0).cells (rmm 0 0 0 0).slots) (s₁.setTop (entryFrame m #[(.ref b1), (.int (1 : Int32)), (.int ch)] 3))
  refine Go.via (fun t k => castTop (ef_rmPut_2_1 m b1 ch) k) ?_
  obtain ⟨T101, X101, e101, st101⟩ := getS2 X0 hx hZ hown (host := "") (Or.inl (ow hw 98 rfl)) Via.refl e0 (G.2.2.1.ext O0.2) (g := (mkF m 0 #[rv b1, iv (1 : Int32), iv ch] [])) rfl (hb hby d22_0)
  refine Go.via st101 ?_
  refine Go.via (fun _ => XS.ifYes X101.here hx rfl (pc0 := 3) (pc' := 28) rfl (hb hby d22_3) rfl (by decide) (by decide) (by decide)) ?_
  refine Go.via (fun _ => XS.iloadN X101.here hx rfl (hb hby d22_28) rfl) ?_
  refine Go.via (fun _ => XS.iconst X101.here hx rfl (hb hby d22_29)) ?_
  refine Go.via (fun _ => XS.ishl X101.here hx rfl (hb hby d22_30) rfl) ?_
  show Go p e below _ (T101.setTop (mkF m 31 #[rv b1, iv (1 : Int32), iv ch] [(.int (2 : Int32))]))
  refine Go.via (fun _ => XS.istoreN X101.here hx rfl (hb hby d22_31) rfl (l' := #[rv b1, iv (2 : Int32), iv ch]) rfl) ?_
  refine Go.via (fun _ => XS.aloadN X101.here hx rfl (hb hby d22_32) rfl rfl) ?_
  refine Go.via (fun _ => XS.iloadN X101.here hx rfl (hb hby d22_33) rfl) ?_
  refine Go.via (fun _ => XS.iinc X101.here hx rfl (hb hby d22_34) rfl (l' := #[rv b1, iv (3 : Int32), iv ch]) rfl) ?_
  refine Go.via (fun _ => XS.iloadN X101.here hx rfl (hb hby d22_37) rfl) ?_
  obtain ⟨T102, X102, e102, st102⟩ := getS2 X101 hx hZ hown (host := "") (Or.inl (ow hw 99 rfl)) Via.refl e101 (G.2.2.2.1.ext O0.2) (g := (mkF m 38 #[rv b1, iv (3 : Int32), iv ch] [(.int ch), (.int (2 : Int32)), (.ref b1)])) rfl (hb hby d22_38)
  refine Go.via st102 ?_
  show Go p e below _ (T102.setTop (mkF m 41 #[rv b1, iv (3 : Int32), iv ch] [(.int (0 : Int32)), (.int ch), (.int (2 : Int32)), (.ref b1)]))
  refine Go.via (fun _ => XS.ishr X102.here hx rfl (hb hby d22_41) rfl) ?_
  refine Go.via (fun _ => XS.i2b X102.here hx rfl (hb hby d22_42) rfl) ?_
  obtain ⟨cl103, Ar103, q103, S103, N103n, H103, G103⟩ := id V2
  have hin103 := inb_of (j := (2 : Int32)) S103 (by decide)
  obtain ⟨T103, h103, X103, e103, W103, st103⟩ := stB X102 hx hZ e102 Ar103 (j := (2 : Int32)) hin103 (g := (mkF m 43 #[rv b1, iv (3 : Int32), iv ch] [(.int ((ch >>> ((0 : Int32) &&& 31)).toInt8.toInt32)), (.int (2 : Int32)), (.ref b1)])) rfl rfl (hb hby d22_43)
  refine Go.via st103 ?_
  have V103 : Arv Z h103 b1 kc2 .byte (4 : Int32) [x0, x1, (.int (nar .byte ((ch >>> ((0 : Int32) &&& 31)).toInt8.toInt32))), x3] (.int (0 : Int32)) := Arv.set Ar103 q103 S103 N103n H103 G103 (fits_nar_byte _) W103 2 rfl (Nat.le_of_ble_eq_true rfl)
  have Zs103 : n0 ≤ h103.size := Nat.le_trans Z0 (Keep.of_wr W103).1
  have O103 : Old Z n0 h103 := O0.wr W103 g1
  have K103 : Keep h0 h103 [b1] := (Keep.refl h0 [b1]).wr W103 (Or.inl (List.mem_of_getElem? (i := 0) rfl))
  have N103 := Fr.snoc X103 N0 g1
  refine Go.via (fun _ => XS.aloadN X103.here hx rfl (hb hby d22_44) rfl rfl) ?_
  refine Go.via (fun _ => XS.iloadN X103.here hx rfl (hb hby d22_45) rfl) ?_
  refine Go.via (fun _ => XS.iloadN X103.here hx rfl (hb hby d22_46) rfl) ?_
  show Go p e below _ (T103.setTop (mkF m 47 #[rv b1, iv (3 : Int32), iv ch] [(.int ch), (.int (3 : Int32)), (.ref b1)]))
  obtain ⟨T104, X104, e104, st104⟩ := getS2 X103 hx hZ hown (host := "") (Or.inl (ow hw 100 rfl)) Via.refl e103 (G.2.2.2.2.1.ext O103.2) (g := (mkF m 47 #[rv b1, iv (3 : Int32), iv ch] [(.int ch), (.int (3 : Int32)), (.ref b1)])) rfl (hb hby d22_47)
  refine Go.via st104 ?_
  refine Go.via (fun _ => XS.ishr X104.here hx rfl (hb hby d22_50) rfl) ?_
  refine Go.via (fun _ => XS.i2b X104.here hx rfl (hb hby d22_51) rfl) ?_
  obtain ⟨cl105, Ar105, q105, S105, N105n, H105, G105⟩ := id V103
  have hin105 := inb_of (j := (3 : Int32)) S105 (by decide)
  obtain ⟨T105, h105, X105, e105, W105, st105⟩ := stB X104 hx hZ e104 Ar105 (j := (3 : Int32)) hin105 (g := (mkF m 52 #[rv b1, iv (3 : Int32), iv ch] [(.int ((ch >>> ((8 : Int32) &&& 31)).toInt8.toInt32)), (.int (3 : Int32)), (.ref b1)])) rfl rfl (hb hby d22_52)
  refine Go.via st105 ?_
  have V105 : Arv Z h105 b1 kc2 .byte (4 : Int32) [x0, x1, (.int (nar .byte ((ch >>> ((0 : Int32) &&& 31)).toInt8.toInt32))), (.int (nar .byte ((ch >>> ((8 : Int32) &&& 31)).toInt8.toInt32)))] (.int (0 : Int32)) := Arv.set Ar105 q105 S105 N105n H105 G105 (fits_nar_byte _) W105 3 rfl (Nat.le_of_ble_eq_true rfl)
  have Zs105 : n0 ≤ h105.size := Nat.le_trans Zs103 (Keep.of_wr W105).1
  have O105 : Old Z n0 h105 := O103.wr W105 g1
  have K105 : Keep h0 h105 [b1] := K103.wr W105 (Or.inl (List.mem_of_getElem? (i := 0) rfl))
  have N105 := Fr.snoc X105 N103 g1
  exact own_retV X105 hx hlk Bd.returns (hb hby d22_53) (by show QPut_2_1 Z b1 kc2 ch x0 x1 x2 x3 ccs vF h0 n0 _ T105.heap _; rw [e105]; exact ⟨rfl, N105, K105, V105⟩) (by decide) (by decide)
theorem ef_rmTo_2 (m : MethodId) (x0 : Addr) : entryFrame m #[(.ref x0), (.int (0 : Int32)), (.int (2 : Int32))] 5 = mkF m 0 #[rv x0, iv (0 : Int32), iv (2 : Int32), .unset, .unset] [] := by first | (simp [entryFrame, mkF, argsToLocals, Value.category]; done) | rfl
def QTo_2 (Z : State) (a1 : Addr) (kc1 : ClassId) (c0 : Int32) (c1 : Int32) (ccs : Int32) (vF : Value) (h0 : Heap) (n0 : Nat) (v : Option Value) (h : Heap) (L : List Loc) : Prop := ∃ (t : Addr) (kb : ClassId), v = some (.ref t) ∧ Fr n0 L ∧ Keep h0 h [] ∧ h0.size ≤ t ∧ Arv Z h t kb .byte (4 : Int32) [(.int (nar .byte ((c0 >>> ((0 : Int32) &&& 31)).toInt8.toInt32))), (.int (nar .byte ((c0 >>> ((8 : Int32) &&& 31)).toInt8.toInt32))), (.int (nar .byte ((c1 >>> ((0 : Int32) &&& 31)).toInt8.toInt32))), (.int (nar .byte ((c1 >>> ((8 : Int32) &&& 31)).toInt8.toInt32)))] (.int (0 : Int32))
set_option maxRecDepth 65536 in
set_option maxHeartbeats 40000000 in
theorem rmTo_2 (l : Launch) (Z : State) (a0 : Array Value) (hw : TW Z a0) (ws : List Jvm.Cond) (a1 : Addr) (kc1 : ClassId) (c0 : Int32) (c1 : Int32) (ccs : Int32) (vF : Value) (h0 : Heap) (n0 : Nat) (Z0 : n0 ≤ h0.size) (V1 : Arv Z h0 a1 kc1 .char (2 : Int32) [(.int c0), (.int c1)] (.int (0 : Int32))) (O0 : Old Z n0 h0) (G : SG Z ccs vF) :
    MF l Z (⟨"java/lang/StringUTF16", "toBytes", "([CII)[B"⟩ : MethodName) jdk_52_method_14_code 5 (some (.array .byte)) ws (rmm 2 1 4 24) #[(.ref a1), (.int (0 : Int32)), (.int (2 : Int32))] h0 (QTo_2 Z a1 kc1 c0 c1 ccs vF h0 n0) := by
  refine MetFree.of_bodySF (plainFor_of_name pn_java_lang_StringUTF16) hisR ?_
  intro p e s m args below meth c s₁ Bd hml0 hP hK
  obtain ⟨rfl, hZ, hh⟩ := hP
  have hx := Bd.exec
  have hby := Bd.bytes
  have hlk : meth.locks = false := Bd.notSynchronized
  have hml : c.maxLocals = 5 := hml0
  have hown : s.vm.findClass "java/lang/StringUTF16" = some m.cls := findClass_of_methodNamed Bd.named
  have hnm := (name_of_methodNamed Bd.named Bd.method).1
  have rF := G.2.2.2.2.2.2
  have hcs := G.2.1
  have X0 : Stand p l e (rmm 2 1 4 24) s m #[(.ref a1), (.int (0 : Int32)), (.int (2 : Int32))] below meth c s₁ [] 0 0 := Stand.of_body Bd
  have e0 : s₁.heap = h0 := by rw [← hh, Bd.state]; rfl
  have N0 := Fr.nil n0
  show Go p e below (FinE s below (QTo_2 Z a1 kc1 c0 c1 ccs vF h0 n0) (rmm 2 1 4 24).cells (rmm 2 1 4 24).slots) (s₁.setTop (entryFrame m #[(.ref a1), (.int (0 : Int32)), (.int (2 : Int32))] 5))
  refine Go.via (fun t k => castTop (ef_rmTo_2 m a1) k) ?_
  refine Go.via (fun _ => XS.iloadN X0.here hx rfl (hb hby d19_0) rfl) ?_
  obtain ⟨_, _, ⟨T101, L101, k101, n101⟩, -, X101, ⟨Lc101, hQ101, l101, y101, z101⟩, st101⟩ := Jvm.LawKit.callS X0 hx (y := (⟨"java/lang/StringUTF16", "newBytesFor", "(I)[B"⟩ : MethodName)) hown (mvT hZ (ow hw 88 rfl)) (mvT hZ (ow hw 89 rfl)) (mvT hZ (ow hw 35 rfl)) (mvT hZ (ow hw 90 rfl)) (by decide) (backOf (W := 0) (rmNBF_2 l Z a0 hw [] h0 n0 Z0) hZ (ow hw 90 rfl) (ow hw 35 rfl) (by decide) (by decide)) (g := (mkF m 1 #[rv a1, iv (0 : Int32), iv (2 : Int32), .unset, .unset] [(.int (2 : Int32))])) rfl (by rw [hml]; rfl) (argsL := [(.int (2 : Int32))]) (rest := []) (lenOf pd_12 rfl) rfl (by show 2 * 0 + _ ≤ _; exact Nat.le_of_eq rfl) (hb hby d19_1) (fun _ _ => ⟨rfl, e0, (by decide : 0 + 1 ≤ _), (by decide : 0 + 4 ≤ _)⟩)
  dsimp only [Pt.U, Pt.locs, Pt.cells, Pt.slots] at X101 l101 y101 z101 st101 hQ101
  rw [l101, y101, z101] at X101
  replace X101 : Stand p l e _ _ m _ below meth c T101 _ 1 4 := X101
  obtain ⟨t101, kb101, rfl, N101q, K101q, gt101, va101⟩ := hQ101
  have N101 := Fr.app N0 N101q
  refine Go.via st101 ?_
  have Zs101 : n0 ≤ T101.heap.size := Nat.le_trans Z0 K101q.1
  have O101 : Old Z n0 T101.heap := O0.keep K101q all0
  have K101 : Keep h0 T101.heap [] := (Keep.refl h0 []).trans K101q all0
  have fV_a1_101 := V1.keep K101q nin0
  have g_t101 : n0 ≤ t101 := Nat.le_trans Z0 gt101
  have ne_a1_t101 : a1 ≠ t101 := Nat.ne_of_lt (Nat.lt_of_lt_of_le V1.lt gt101)
  have sz_t101 : h0.size ≤ t101 := Nat.le_trans (Keep.refl h0 []).1 gt101
  refine Go.via (fun _ => XS.astoreN X101.here hx rfl (hb hby d19_4) rfl rfl (l' := #[rv a1, iv (0 : Int32), iv (2 : Int32), rv t101, .unset]) rfl) ?_
  refine Go.via (fun _ => XS.iconst X101.here hx rfl (hb hby d19_5)) ?_
  refine Go.via (fun _ => XS.istore X101.here hx rfl (hb hby d19_6) rfl (l' := #[rv a1, iv (0 : Int32), iv (2 : Int32), rv t101, iv (0 : Int32)]) rfl) ?_
  show Go p e below _ (T101.setTop (mkF m 8 #[rv a1, iv (0 : Int32), iv (2 : Int32), rv t101, iv (0 : Int32)] []))
  refine Go.via (fun _ => XS.iload X101.here hx rfl (hb hby d19_8) rfl) ?_
  refine Go.via (fun _ => XS.iloadN X101.here hx rfl (hb hby d19_10) rfl) ?_
  refine Go.via (fun _ => XS.icmpNo X101.here hx rfl (hb hby d19_11) rfl (by decide)) ?_
  refine Go.via (fun _ => XS.aloadN X101.here hx rfl (hb hby d19_14) rfl rfl) ?_
  refine Go.via (fun _ => XS.iload X101.here hx rfl (hb hby d19_15) rfl) ?_
  refine Go.via (fun _ => XS.aloadN X101.here hx rfl (hb hby d19_17) rfl rfl) ?_
  show Go p e below _ (T101.setTop (mkF m 18 #[rv a1, iv (0 : Int32), iv (2 : Int32), rv t101, iv (0 : Int32)] [(.ref a1), (.int (0 : Int32)), (.ref t101)]))
  refine Go.via (fun _ => XS.iloadN X101.here hx rfl (hb hby d19_18) rfl) ?_
  obtain ⟨cl102, Ar102, q102, S102, N102n, H102, G102⟩ := id fV_a1_101
  have hin102 := inb_of (j := (0 : Int32)) S102 (by decide)
  have hat102 : cl102.slots[((0 : Int32) : Int32).toNatClampNeg]? = some (.int c0) := H102.at hin102 rfl
  refine Go.via (X101.caload hx (j := (0 : Int32)) (v := (.int c0)) Ar102.1 (State.isArrayOf_alike hZ.alike Ar102.2.1) Ar102.2.2 hin102 hat102 (g := (mkF m 19 #[rv a1, iv (0 : Int32), iv (2 : Int32), rv t101, iv (0 : Int32)] [(.int (0 : Int32)), (.ref a1), (.int (0 : Int32)), (.ref t101)])) rfl rfl (hb hby d19_19)) ?_
  obtain ⟨_, _, ⟨T103, L103, k103, n103⟩, -, X103, ⟨Lc103, hQ103, l103, y103, z103⟩, st103⟩ := Jvm.LawKit.callS X101 hx (y := (⟨"java/lang/StringUTF16", "putChar", "([BII)V"⟩ : MethodName)) hown (mvT hZ (ow hw 95 rfl)) (mvT hZ (ow hw 96 rfl)) (mvT hZ (ow hw 35 rfl)) (mvT hZ (ow hw 97 rfl)) (by decide) (backOf (W := 0) (rmPut_2_0 l Z a0 hw [] t101 kb101 c0 (.int (0 : Int32)) (.int (0 : Int32)) (.int (0 : Int32)) (.int (0 : Int32)) ccs vF T101.heap n0 Zs101 va101 g_t101 O101 G) hZ (ow hw 97 rfl) (ow hw 35 rfl) (by decide) (by decide)) (g := (mkF m 20 #[rv a1, iv (0 : Int32), iv (2 : Int32), rv t101, iv (0 : Int32)] [(.int c0), (.int (0 : Int32)), (.ref t101)])) rfl (by rw [hml]; rfl) (argsL := [(.ref t101), (.int (0 : Int32)), (.int c0)]) (rest := []) (lenOf pd_13 rfl) rfl (by show 2 * 0 + _ ≤ _; exact Nat.le_of_eq rfl) (hb hby d19_20) (fun _ _ => ⟨rfl, rfl, (by decide : 1 + 0 ≤ _), (by decide : 4 + 0 ≤ _)⟩)
  dsimp only [Pt.U, Pt.locs, Pt.cells, Pt.slots] at X103 l103 y103 z103 st103 hQ103
  rw [l103, y103, z103] at X103
  replace X103 : Stand p l e _ _ m _ below meth c T103 _ 1 4 := X103
  obtain ⟨rfl, N103q, K103q, va103⟩ := hQ103
  have N103 := Fr.app N101 N103q
  refine Go.via st103 ?_
  have Zs103 : n0 ≤ T103.heap.size := Nat.le_trans Zs101 K103q.1
  have O103 : Old Z n0 T103.heap := O101.keep K103q (allS g_t101 all0)
  have K103 : Keep h0 T103.heap [] := K101.trans K103q (allS (Or.inr sz_t101) all0)
  have fV_a1_103 := fV_a1_101.keep K103q (ninS ne_a1_t101 nin0)
  refine Go.via (fun _ => XS.iinc X103.here hx rfl (hb hby d19_23) rfl (l' := #[rv a1, iv (1 : Int32), iv (2 : Int32), rv t101, iv (0 : Int32)]) rfl) ?_
  refine Go.via (fun _ => XS.iinc X103.here hx rfl (hb hby d19_26) rfl (l' := #[rv a1, iv (1 : Int32), iv (2 : Int32), rv t101, iv (1 : Int32)]) rfl) ?_
  refine Go.via (fun _ => XS.goto X103.here hx rfl (pc0 := 29) (pc' := 8) rfl (hb hby d19_29) (by decide) (by decide)) ?_
  show Go p e below _ (T103.setTop (mkF m 8 #[rv a1, iv (1 : Int32), iv (2 : Int32), rv t101, iv (1 : Int32)] []))
  refine Go.via (fun _ => XS.iload X103.here hx rfl (hb hby d19_8) rfl) ?_
  refine Go.via (fun _ => XS.iloadN X103.here hx rfl (hb hby d19_10) rfl) ?_
  refine Go.via (fun _ => XS.icmpNo X103.here hx rfl (hb hby d19_11) rfl (by decide)) ?_
  refine Go.via (fun _ => XS.aloadN X103.here hx rfl (hb hby d19_14) rfl rfl) ?_
  refine Go.via (fun _ => XS.iload X103.here hx rfl (hb hby d19_15) rfl) ?_
  refine Go.via (fun _ => XS.aloadN X103.here hx rfl (hb hby d19_17) rfl rfl) ?_
  show Go p e below _ (T103.setTop (mkF m 18 #[rv a1, iv (1 : Int32), iv (2 : Int32), rv t101, iv (1 : Int32)] [(.ref a1), (.int (1 : Int32)), (.ref t101)]))
  refine Go.via (fun _ => XS.iloadN X103.here hx rfl (hb hby d19_18) rfl) ?_
  obtain ⟨cl104, Ar104, q104, S104, N104n, H104, G104⟩ := id fV_a1_103
  have hin104 := inb_of (j := (1 : Int32)) S104 (by decide)
  have hat104 : cl104.slots[((1 : Int32) : Int32).toNatClampNeg]? = some (.int c1) := H104.at hin104 rfl
  refine Go.via (X103.caload hx (j := (1 : Int32)) (v := (.int c1)) Ar104.1 (State.isArrayOf_alike hZ.alike Ar104.2.1) Ar104.2.2 hin104 hat104 (g := (mkF m 19 #[rv a1, iv (1 : Int32), iv (2 : Int32), rv t101, iv (1 : Int32)] [(.int (1 : Int32)), (.ref a1), (.int (1 : Int32)), (.ref t101)])) rfl rfl (hb hby d19_19)) ?_
  obtain ⟨_, _, ⟨T105, L105, k105, n105⟩, -, X105, ⟨Lc105, hQ105, l105, y105, z105⟩, st105⟩ := Jvm.LawKit.callS X103 hx (y := (⟨"java/lang/StringUTF16", "putChar", "([BII)V"⟩ : MethodName)) hown (mvT hZ (ow hw 95 rfl)) (mvT hZ (ow hw 96 rfl)) (mvT hZ (ow hw 35 rfl)) (mvT hZ (ow hw 97 rfl)) (by decide) (backOf (W := 0) (rmPut_2_1 l Z a0 hw [] t101 kb101 c1 (.int (nar .byte ((c0 >>> ((0 : Int32) &&& 31)).toInt8.toInt32))) (.int (nar .byte ((c0 >>> ((8 : Int32) &&& 31)).toInt8.toInt32))) (.int (0 : Int32)) (.int (0 : Int32)) ccs vF T103.heap n0 Zs103 va103 g_t101 O103 G) hZ (ow hw 97 rfl) (ow hw 35 rfl) (by decide) (by decide)) (g := (mkF m 20 #[rv a1, iv (1 : Int32), iv (2 : Int32), rv t101, iv (1 : Int32)] [(.int c1), (.int (1 : Int32)), (.ref t101)])) rfl (by rw [hml]; rfl) (argsL := [(.ref t101), (.int (1 : Int32)), (.int c1)]) (rest := []) (lenOf pd_13 rfl) rfl (by show 2 * 0 + _ ≤ _; exact Nat.le_of_eq rfl) (hb hby d19_20) (fun _ _ => ⟨rfl, rfl, (by decide : 1 + 0 ≤ _), (by decide : 4 + 0 ≤ _)⟩)
  dsimp only [Pt.U, Pt.locs, Pt.cells, Pt.slots] at X105 l105 y105 z105 st105 hQ105
  rw [l105, y105, z105] at X105
  replace X105 : Stand p l e _ _ m _ below meth c T105 _ 1 4 := X105
  obtain ⟨rfl, N105q, K105q, va105⟩ := hQ105
  have N105 := Fr.app N103 N105q
  refine Go.via st105 ?_
  have Zs105 : n0 ≤ T105.heap.size := Nat.le_trans Zs103 K105q.1
  have O105 : Old Z n0 T105.heap := O103.keep K105q (allS g_t101 all0)
  have K105 : Keep h0 T105.heap [] := K103.trans K105q (allS (Or.inr sz_t101) all0)
  have fV_a1_105 := fV_a1_103.keep K105q (ninS ne_a1_t101 nin0)
  refine Go.via (fun _ => XS.iinc X105.here hx rfl (hb hby d19_23) rfl (l' := #[rv a1, iv (2 : Int32), iv (2 : Int32), rv t101, iv (1 : Int32)]) rfl) ?_
  refine Go.via (fun _ => XS.iinc X105.here hx rfl (hb hby d19_26) rfl (l' := #[rv a1, iv (2 : Int32), iv (2 : Int32), rv t101, iv (2 : Int32)]) rfl) ?_
  refine Go.via (fun _ => XS.goto X105.here hx rfl (pc0 := 29) (pc' := 8) rfl (hb hby d19_29) (by decide) (by decide)) ?_
  show Go p e below _ (T105.setTop (mkF m 8 #[rv a1, iv (2 : Int32), iv (2 : Int32), rv t101, iv (2 : Int32)] []))
  refine Go.via (fun _ => XS.iload X105.here hx rfl (hb hby d19_8) rfl) ?_
  refine Go.via (fun _ => XS.iloadN X105.here hx rfl (hb hby d19_10) rfl) ?_
  refine Go.via (fun _ => XS.icmpYes X105.here hx rfl (pc0 := 11) (pc' := 32) rfl (hb hby d19_11) rfl (by decide) (by decide) (by decide)) ?_
  refine Go.via (fun _ => XS.aloadN X105.here hx rfl (hb hby d19_32) rfl rfl) ?_
  exact own_retA X105 hx hlk Bd.returns rfl rfl (hb hby d19_33) (by show QTo_2 Z a1 kc1 c0 c1 ccs vF h0 n0 _ T105.heap _; exact ⟨t101, kb101, rfl, N105, K105, sz_t101, va105⟩) (by decide) (by decide)
theorem ef_rmD1_2 (m : MethodId) (x0 : Addr) : entryFrame m #[(.ref x0), (.int (0 : Int32)), (.int (2 : Int32))] 6 = mkF m 0 #[rv x0, iv (0 : Int32), iv (2 : Int32), .unset, .unset, .unset] [] := by first | (simp [entryFrame, mkF, argsToLocals, Value.category]; done) | rfl
def QD1_2 (Z : State) (a1 : Addr) (kc1 : ClassId) (c0 : Int32) (c1 : Int32) (ccs : Int32) (vF : Value) (h0 : Heap) (n0 : Nat) (v : Option Value) (h : Heap) (L : List Loc) : Prop := ∃ (t : Addr) (kb : ClassId), v = some (.ref t) ∧ Fr n0 L ∧ Keep h0 h [] ∧ h0.size ≤ t ∧ ((Arv Z h t kb .byte (2 : Int32) [(.int (nar .byte (c0.toInt8.toInt32))), (.int (nar .byte (c1.toInt8.toInt32)))] (.int (0 : Int32)) ∧ ¬ ((255 : Int32) < c0) ∧ ¬ ((255 : Int32) < c1)) ∨ Arv Z h t kb .byte (4 : Int32) [(.int (nar .byte ((c0 >>> ((0 : Int32) &&& 31)).toInt8.toInt32))), (.int (nar .byte ((c0 >>> ((8 : Int32) &&& 31)).toInt8.toInt32))), (.int (nar .byte ((c1 >>> ((0 : Int32) &&& 31)).toInt8.toInt32))), (.int (nar .byte ((c1 >>> ((8 : Int32) &&& 31)).toInt8.toInt32)))] (.int (0 : Int32)))
set_option maxRecDepth 65536 in
set_option maxHeartbeats 40000000 in
theorem rmD1_2 (l : Launch) (Z : State) (a0 : Array Value) (hw : TW Z a0) (ws : List Jvm.Cond) (a1 : Addr) (kc1 : ClassId) (c0 : Int32) (c1 : Int32) (ccs : Int32) (vF : Value) (h0 : Heap) (n0 : Nat) (Z0 : n0 ≤ h0.size) (V1 : Arv Z h0 a1 kc1 .char (2 : Int32) [(.int c0), (.int c1)] (.int (0 : Int32))) (hr0 : ¬ (c0 < (0 : Int32)) ∧ ¬ ((65535 : Int32) < c0)) (hr1 : ¬ (c1 < (0 : Int32)) ∧ ¬ ((65535 : Int32) < c1)) (O0 : Old Z n0 h0) (G : SG Z ccs vF) :
    MF l Z (⟨"java/lang/StringUTF16", "compress", "([CII)[B"⟩ : MethodName) jdk_52_method_16_code 6 (some (.array .byte)) ws (rmm 3 2 6 40) #[(.ref a1), (.int (0 : Int32)), (.int (2 : Int32))] h0 (QD1_2 Z a1 kc1 c0 c1 ccs vF h0 n0) := by
  refine MetFree.of_bodySF (plainFor_of_name pn_java_lang_StringUTF16) hisR ?_
  intro p e s m args below meth c s₁ Bd hml0 hP hK
  obtain ⟨rfl, hZ, hh⟩ := hP
  have hx := Bd.exec
  have hby := Bd.bytes
  have hlk : meth.locks = false := Bd.notSynchronized
  have hml : c.maxLocals = 6 := hml0
  have hown : s.vm.findClass "java/lang/StringUTF16" = some m.cls := findClass_of_methodNamed Bd.named
  have hnm := (name_of_methodNamed Bd.named Bd.method).1
  have rF := G.2.2.2.2.2.2
  have hcs := G.2.1
  have X0 : Stand p l e (rmm 3 2 6 40) s m #[(.ref a1), (.int (0 : Int32)), (.int (2 : Int32))] below meth c s₁ [] 0 0 := Stand.of_body Bd
  have e0 : s₁.heap = h0 := by rw [← hh, Bd.state]; rfl
  have N0 := Fr.nil n0
  show Go p e below (FinE s below (QD1_2 Z a1 kc1 c0 c1 ccs vF h0 n0) (rmm 3 2 6 40).cells (rmm 3 2 6 40).slots) (s₁.setTop (entryFrame m #[(.ref a1), (.int (0 : Int32)), (.int (2 : Int32))] 6))
  refine Go.via (fun t k => castTop (ef_rmD1_2 m a1) k) ?_
  refine Go.via (fun _ => XS.iloadN X0.here hx rfl (hb hby d6_0) rfl) ?_
  obtain ⟨T101, h101, k101, X101, e101, E101, A101, st101⟩ := newP X0 hx hZ (ow hw 16 rfl) e0 (g := (mkF m 1 #[rv a1, iv (0 : Int32), iv (2 : Int32), .unset, .unset, .unset] [(.int (2 : Int32))])) rfl (hb hby d6_1) rfl (by decide) (cap := 2) (by decide) (by decide) (by decide) (by decide)
  obtain ⟨b101, g101⟩ : ∃ z, z = h0.size := ⟨_, rfl⟩
  rw [← g101] at A101 st101
  have g_b101 : n0 ≤ b101 := Nat.le_trans Z0 (Nat.le_of_eq g101.symm)
  have ne_a1_b101 : a1 ≠ b101 := Nat.ne_of_lt (Nat.lt_of_lt_of_le V1.lt (Nat.le_of_eq g101.symm))
  have sz_b101 : h0.size ≤ b101 := Nat.le_trans (Keep.refl h0 []).1 (Nat.le_of_eq g101.symm)
  refine Go.via st101 ?_
  have Zs101 : n0 ≤ h101.size := Nat.le_trans Z0 E101.1
  have O101 : Old Z n0 h101 := O0.ext E101
  have K101 : Keep h0 h101 [] := (Keep.refl h0 []).ext E101
  have fV_a1_101 := V1.ext E101
  have V_b101 : Arv Z h101 b101 k101 .byte (2 : Int32) [(.int (0 : Int32)), (.int (0 : Int32))] (.int (0 : Int32)) := (Arv.new A101 (by decide)).pad (pad_rep [] (.int (0 : Int32)) 2)
  refine Go.via (fun _ => XS.astoreN X101.here hx rfl (hb hby d6_3) rfl rfl (l' := #[rv a1, iv (0 : Int32), iv (2 : Int32), rv b101, .unset, .unset]) rfl) ?_
  refine Go.via (fun _ => XS.aloadN X101.here hx rfl (hb hby d6_4) rfl rfl) ?_
  refine Go.via (fun _ => XS.iloadN X101.here hx rfl (hb hby d6_5) rfl) ?_
  show Go p e below _ (T101.setTop (mkF m 6 #[rv a1, iv (0 : Int32), iv (2 : Int32), rv b101, .unset, .unset] [(.int (0 : Int32)), (.ref a1)]))
  refine Go.via (fun _ => XS.aloadN X101.here hx rfl (hb hby d6_6) rfl rfl) ?_
  refine Go.via (fun _ => XS.iconst X101.here hx rfl (hb hby d6_7)) ?_
  refine Go.via (fun _ => XS.iloadN X101.here hx rfl (hb hby d6_8) rfl) ?_
  obtain ⟨_, _, ⟨T102, L102, k102, n102⟩, -, X102, ⟨Lc102, hQ102, l102, y102, z102⟩, st102⟩ := Jvm.LawKit.callS X101 hx (y := (⟨"java/lang/StringUTF16", "compress", "([CI[BII)I"⟩ : MethodName)) hown (mvT hZ (ow hw 37 rfl)) (mvT hZ (ow hw 38 rfl)) (mvT hZ (ow hw 35 rfl)) (mvT hZ (ow hw 39 rfl)) (by decide) (backOf (W := 0) (rmD2_2 l Z a0 hw [] a1 kc1 b101 k101 c0 c1 h101 n0 Zs101 fV_a1_101 V_b101 g_b101 ne_a1_b101) hZ (ow hw 39 rfl) (ow hw 35 rfl) (by decide) (by decide)) (g := (mkF m 9 #[rv a1, iv (0 : Int32), iv (2 : Int32), rv b101, .unset, .unset] [(.int (2 : Int32)), (.int (0 : Int32)), (.ref b101), (.int (0 : Int32)), (.ref a1)])) rfl (by rw [hml]; rfl) (argsL := [(.ref a1), (.int (0 : Int32)), (.ref b101), (.int (0 : Int32)), (.int (2 : Int32))]) (rest := []) (lenOf pd_14 rfl) rfl (by show 2 * 0 + _ ≤ _; exact Nat.le_of_eq rfl) (hb hby d6_9) (fun _ _ => ⟨rfl, e101, (by decide : 1 + 0 ≤ _), (by decide : 2 + 0 ≤ _)⟩)
  dsimp only [Pt.U, Pt.locs, Pt.cells, Pt.slots] at X102 l102 y102 z102 st102 hQ102
  rw [l102, y102, z102] at X102
  replace X102 : Stand p l e _ _ m _ below meth c T102 _ 1 2 := X102
  obtain ⟨N102q, K102q, alt102⟩ := hQ102
  have N102 := Fr.app N0 N102q
  have Zs102 : n0 ≤ T102.heap.size := Nat.le_trans Zs101 K102q.1
  have O102 : Old Z n0 T102.heap := O101.keep K102q (allS g_b101 all0)
  have K102 : Keep h0 T102.heap [] := K101.trans K102q (allS (Or.inr sz_b101) all0)
  have fV_a1_102 := fV_a1_101.keep K102q (ninS ne_a1_b101 nin0)
  rcases alt102 with ⟨rfl, va102, hl0, hl1⟩ | ⟨rfl, hbig⟩ | ⟨rfl, hbig⟩
  ·
    refine Go.via st102 ?_
    refine Go.via (fun _ => XS.istore X102.here hx rfl (hb hby d6_12) rfl (l' := #[rv a1, iv (0 : Int32), iv (2 : Int32), rv b101, iv (2 : Int32), .unset]) rfl) ?_
    refine Go.via (fun _ => XS.iload X102.here hx rfl (hb hby d6_14) rfl) ?_
    show Go p e below _ (T102.setTop (mkF m 16 #[rv a1, iv (0 : Int32), iv (2 : Int32), rv b101, iv (2 : Int32), .unset] [(.int (2 : Int32))]))
    refine Go.via (fun _ => XS.iloadN X102.here hx rfl (hb hby d6_16) rfl) ?_
    refine Go.via (fun _ => XS.icmpYes X102.here hx rfl (pc0 := 17) (pc' := 57) rfl (hb hby d6_17) rfl (by decide) (by decide) (by decide)) ?_
    refine Go.via (fun _ => XS.aloadN X102.here hx rfl (hb hby d6_57) rfl rfl) ?_
    exact own_retA X102 hx hlk Bd.returns rfl rfl (hb hby d6_58) (by show QD1_2 Z a1 kc1 c0 c1 ccs vF h0 n0 _ T102.heap _; exact ⟨b101, k101, rfl, N102, K102, sz_b101, Or.inl ⟨va102, hl0, hl1⟩⟩) (by decide) (by decide)
  ·
    refine Go.via st102 ?_
    refine Go.via (fun _ => XS.istore X102.here hx rfl (hb hby d6_12) rfl (l' := #[rv a1, iv (0 : Int32), iv (2 : Int32), rv b101, iv (0 : Int32), .unset]) rfl) ?_
    refine Go.via (fun _ => XS.iload X102.here hx rfl (hb hby d6_14) rfl) ?_
    show Go p e below _ (T102.setTop (mkF m 16 #[rv a1, iv (0 : Int32), iv (2 : Int32), rv b101, iv (0 : Int32), .unset] [(.int (0 : Int32))]))
    refine Go.via (fun _ => XS.iloadN X102.here hx rfl (hb hby d6_16) rfl) ?_
    refine Go.via (fun _ => XS.icmpNo X102.here hx rfl (hb hby d6_17) rfl (by decide)) ?_
    refine Go.via (fun _ => XS.aloadN X102.here hx rfl (hb hby d6_20) rfl rfl) ?_
    refine Go.via (fun _ => XS.iloadN X102.here hx rfl (hb hby d6_21) rfl) ?_
    refine Go.via (fun _ => XS.iloadN X102.here hx rfl (hb hby d6_22) rfl) ?_
    obtain ⟨_, _, ⟨T103, L103, k103, n103⟩, -, X103, ⟨Lc103, hQ103, l103, y103, z103⟩, st103⟩ := Jvm.LawKit.callS X102 hx (y := (⟨"java/lang/StringUTF16", "toBytes", "([CII)[B"⟩ : MethodName)) hown (mvT hZ (ow hw 85 rfl)) (mvT hZ (ow hw 86 rfl)) (mvT hZ (ow hw 35 rfl)) (mvT hZ (ow hw 87 rfl)) (by decide) (backOf (W := 0) (rmTo_2 l Z a0 hw [] a1 kc1 c0 c1 ccs vF T102.heap n0 Zs102 fV_a1_102 O102 G) hZ (ow hw 87 rfl) (ow hw 35 rfl) (by decide) (by decide)) (g := (mkF m 23 #[rv a1, iv (0 : Int32), iv (2 : Int32), rv b101, iv (0 : Int32), .unset] [(.int (2 : Int32)), (.int (0 : Int32)), (.ref a1)])) rfl (by rw [hml]; rfl) (argsL := [(.ref a1), (.int (0 : Int32)), (.int (2 : Int32))]) (rest := []) (lenOf pd_15 rfl) rfl (by show 2 * 0 + _ ≤ _; exact Nat.le_of_eq rfl) (hb hby d6_23) (fun _ _ => ⟨rfl, rfl, (by decide : 1 + 1 ≤ _), (by decide : 2 + 4 ≤ _)⟩)
    dsimp only [Pt.U, Pt.locs, Pt.cells, Pt.slots] at X103 l103 y103 z103 st103 hQ103
    rw [l103, y103, z103] at X103
    replace X103 : Stand p l e _ _ m _ below meth c T103 _ 2 6 := X103
    obtain ⟨t103, kb103, rfl, N103q, K103q, gt103, va103⟩ := hQ103
    have N103 := Fr.app N102 N103q
    refine Go.via st103 ?_
    have Zs103 : n0 ≤ T103.heap.size := Nat.le_trans Zs102 K103q.1
    have O103 : Old Z n0 T103.heap := O102.keep K103q all0
    have K103 : Keep h0 T103.heap [] := K102.trans K103q all0
    have fV_a1_103 := fV_a1_102.keep K103q nin0
    have g_t103 : n0 ≤ t103 := Nat.le_trans Zs102 gt103
    have ne_a1_t103 : a1 ≠ t103 := Nat.ne_of_lt (Nat.lt_of_lt_of_le fV_a1_102.lt gt103)
    have sz_t103 : h0.size ≤ t103 := Nat.le_trans K102.1 gt103
    show Go p e below _ (T103.setTop (mkF m 26 #[rv a1, iv (0 : Int32), iv (2 : Int32), rv b101, iv (0 : Int32), .unset] [(.ref t103)]))
    refine Go.via (fun _ => XS.astore X103.here hx rfl (hb hby d6_26) rfl rfl (l' := #[rv a1, iv (0 : Int32), iv (2 : Int32), rv b101, iv (0 : Int32), rv t103]) rfl) ?_
    refine Go.via (fun _ => XS.aload X103.here hx rfl (hb hby d6_28) rfl rfl) ?_
    refine Go.via (fun _ => XS.iload X103.here hx rfl (hb hby d6_30) rfl) ?_
    obtain ⟨_, _, ⟨T104, L104, k104, n104⟩, -, X104, ⟨Lc104, hQ104, l104, y104, z104⟩, st104⟩ := Jvm.LawKit.callS X103 hx (y := (⟨"java/lang/StringUTF16", "getChar", "([BI)C"⟩ : MethodName)) hown (mvT hZ (ow hw 101 rfl)) (mvT hZ (ow hw 102 rfl)) (mvT hZ (ow hw 35 rfl)) (mvT hZ (ow hw 103 rfl)) (by decide) (backOf (W := 0) (rmGetC l Z a0 hw [] t103 kb103 (4 : Int32) _ (0 : Int32) c0 ccs vF T103.heap n0 Zs103 va103 ⟨by decide, by decide⟩ ⟨by decide, by decide⟩ rfl rfl (own_u16 c0 hr0.1 hr0.2) O103 G) hZ (ow hw 103 rfl) (ow hw 35 rfl) (by decide) (by decide)) (g := (mkF m 32 #[rv a1, iv (0 : Int32), iv (2 : Int32), rv b101, iv (0 : Int32), rv t103] [(.int (0 : Int32)), (.ref t103)])) rfl (by rw [hml]; rfl) (argsL := [(.ref t103), (.int (0 : Int32))]) (rest := []) (lenOf pd_3 rfl) rfl (by show 2 * 0 + _ ≤ _; exact Nat.le_of_eq rfl) (hb hby d6_32) (fun _ _ => ⟨rfl, rfl, (by decide : 2 + 0 ≤ _), (by decide : 6 + 0 ≤ _)⟩)
    dsimp only [Pt.U, Pt.locs, Pt.cells, Pt.slots] at X104 l104 y104 z104 st104 hQ104
    rw [l104, y104, z104] at X104
    replace X104 : Stand p l e _ _ m _ below meth c T104 _ 2 6 := X104
    obtain ⟨rfl, N104q, e104q⟩ := hQ104
    have N104 := Fr.app N103 N104q
    refine Go.via st104 ?_
    refine Go.via (fun _ => XS.sipush X104.here hx rfl (hb hby d6_35)) ?_
    refine Go.via (fun _ => XS.icmpYes X104.here hx rfl (pc0 := 38) (pc' := 54) rfl (hb hby d6_38) rfl (tlt hbig).2.2.1 (by decide) (by decide)) ?_
    show Go p e below _ (T104.setTop (mkF m 54 #[rv a1, iv (0 : Int32), iv (2 : Int32), rv b101, iv (0 : Int32), rv t103] []))
    refine Go.via (fun _ => XS.aload X104.here hx rfl (hb hby d6_54) rfl rfl) ?_
    exact own_retA X104 hx hlk Bd.returns rfl rfl (hb hby d6_56) (by show QD1_2 Z a1 kc1 c0 c1 ccs vF h0 n0 _ T104.heap _; rw [e104q]; exact ⟨t103, kb103, rfl, N104, K103, sz_t103, Or.inr va103⟩) (by decide) (by decide)
  ·
    refine Go.via st102 ?_
    refine Go.via (fun _ => XS.istore X102.here hx rfl (hb hby d6_12) rfl (l' := #[rv a1, iv (0 : Int32), iv (2 : Int32), rv b101, iv (1 : Int32), .unset]) rfl) ?_
    refine Go.via (fun _ => XS.iload X102.here hx rfl (hb hby d6_14) rfl) ?_
    show Go p e below _ (T102.setTop (mkF m 16 #[rv a1, iv (0 : Int32), iv (2 : Int32), rv b101, iv (1 : Int32), .unset] [(.int (1 : Int32))]))
    refine Go.via (fun _ => XS.iloadN X102.here hx rfl (hb hby d6_16) rfl) ?_
    refine Go.via (fun _ => XS.icmpNo X102.here hx rfl (hb hby d6_17) rfl (by decide)) ?_
    refine Go.via (fun _ => XS.aloadN X102.here hx rfl (hb hby d6_20) rfl rfl) ?_
    refine Go.via (fun _ => XS.iloadN X102.here hx rfl (hb hby d6_21) rfl) ?_
    refine Go.via (fun _ => XS.iloadN X102.here hx rfl (hb hby d6_22) rfl) ?_
    obtain ⟨_, _, ⟨T105, L105, k105, n105⟩, -, X105, ⟨Lc105, hQ105, l105, y105, z105⟩, st105⟩ := Jvm.LawKit.callS X102 hx (y := (⟨"java/lang/StringUTF16", "toBytes", "([CII)[B"⟩ : MethodName)) hown (mvT hZ (ow hw 85 rfl)) (mvT hZ (ow hw 86 rfl)) (mvT hZ (ow hw 35 rfl)) (mvT hZ (ow hw 87 rfl)) (by decide) (backOf (W := 0) (rmTo_2 l Z a0 hw [] a1 kc1 c0 c1 ccs vF T102.heap n0 Zs102 fV_a1_102 O102 G) hZ (ow hw 87 rfl) (ow hw 35 rfl) (by decide) (by decide)) (g := (mkF m 23 #[rv a1, iv (0 : Int32), iv (2 : Int32), rv b101, iv (1 : Int32), .unset] [(.int (2 : Int32)), (.int (0 : Int32)), (.ref a1)])) rfl (by rw [hml]; rfl) (argsL := [(.ref a1), (.int (0 : Int32)), (.int (2 : Int32))]) (rest := []) (lenOf pd_15 rfl) rfl (by show 2 * 0 + _ ≤ _; exact Nat.le_of_eq rfl) (hb hby d6_23) (fun _ _ => ⟨rfl, rfl, (by decide : 1 + 1 ≤ _), (by decide : 2 + 4 ≤ _)⟩)
    dsimp only [Pt.U, Pt.locs, Pt.cells, Pt.slots] at X105 l105 y105 z105 st105 hQ105
    rw [l105, y105, z105] at X105
    replace X105 : Stand p l e _ _ m _ below meth c T105 _ 2 6 := X105
    obtain ⟨t105, kb105, rfl, N105q, K105q, gt105, va105⟩ := hQ105
    have N105 := Fr.app N102 N105q
    refine Go.via st105 ?_
    have Zs105 : n0 ≤ T105.heap.size := Nat.le_trans Zs102 K105q.1
    have O105 : Old Z n0 T105.heap := O102.keep K105q all0
    have K105 : Keep h0 T105.heap [] := K102.trans K105q all0
    have fV_a1_105 := fV_a1_102.keep K105q nin0
    have g_t105 : n0 ≤ t105 := Nat.le_trans Zs102 gt105
    have ne_a1_t105 : a1 ≠ t105 := Nat.ne_of_lt (Nat.lt_of_lt_of_le fV_a1_102.lt gt105)
    have sz_t105 : h0.size ≤ t105 := Nat.le_trans K102.1 gt105
    show Go p e below _ (T105.setTop (mkF m 26 #[rv a1, iv (0 : Int32), iv (2 : Int32), rv b101, iv (1 : Int32), .unset] [(.ref t105)]))
    refine Go.via (fun _ => XS.astore X105.here hx rfl (hb hby d6_26) rfl rfl (l' := #[rv a1, iv (0 : Int32), iv (2 : Int32), rv b101, iv (1 : Int32), rv t105]) rfl) ?_
    refine Go.via (fun _ => XS.aload X105.here hx rfl (hb hby d6_28) rfl rfl) ?_
    refine Go.via (fun _ => XS.iload X105.here hx rfl (hb hby d6_30) rfl) ?_
    obtain ⟨_, _, ⟨T106, L106, k106, n106⟩, -, X106, ⟨Lc106, hQ106, l106, y106, z106⟩, st106⟩ := Jvm.LawKit.callS X105 hx (y := (⟨"java/lang/StringUTF16", "getChar", "([BI)C"⟩ : MethodName)) hown (mvT hZ (ow hw 101 rfl)) (mvT hZ (ow hw 102 rfl)) (mvT hZ (ow hw 35 rfl)) (mvT hZ (ow hw 103 rfl)) (by decide) (backOf (W := 0) (rmGetC l Z a0 hw [] t105 kb105 (4 : Int32) _ (1 : Int32) c1 ccs vF T105.heap n0 Zs105 va105 ⟨by decide, by decide⟩ ⟨by decide, by decide⟩ rfl rfl (own_u16 c1 hr1.1 hr1.2) O105 G) hZ (ow hw 103 rfl) (ow hw 35 rfl) (by decide) (by decide)) (g := (mkF m 32 #[rv a1, iv (0 : Int32), iv (2 : Int32), rv b101, iv (1 : Int32), rv t105] [(.int (1 : Int32)), (.ref t105)])) rfl (by rw [hml]; rfl) (argsL := [(.ref t105), (.int (1 : Int32))]) (rest := []) (lenOf pd_3 rfl) rfl (by show 2 * 0 + _ ≤ _; exact Nat.le_of_eq rfl) (hb hby d6_32) (fun _ _ => ⟨rfl, rfl, (by decide : 2 + 0 ≤ _), (by decide : 6 + 0 ≤ _)⟩)
    dsimp only [Pt.U, Pt.locs, Pt.cells, Pt.slots] at X106 l106 y106 z106 st106 hQ106
    rw [l106, y106, z106] at X106
    replace X106 : Stand p l e _ _ m _ below meth c T106 _ 2 6 := X106
    obtain ⟨rfl, N106q, e106q⟩ := hQ106
    have N106 := Fr.app N105 N106q
    refine Go.via st106 ?_
    refine Go.via (fun _ => XS.sipush X106.here hx rfl (hb hby d6_35)) ?_
    refine Go.via (fun _ => XS.icmpYes X106.here hx rfl (pc0 := 38) (pc' := 54) rfl (hb hby d6_38) rfl (tlt hbig).2.2.1 (by decide) (by decide)) ?_
    show Go p e below _ (T106.setTop (mkF m 54 #[rv a1, iv (0 : Int32), iv (2 : Int32), rv b101, iv (1 : Int32), rv t105] []))
    refine Go.via (fun _ => XS.aload X106.here hx rfl (hb hby d6_54) rfl rfl) ?_
    exact own_retA X106 hx hlk Bd.returns rfl rfl (hb hby d6_56) (by show QD1_2 Z a1 kc1 c0 c1 ccs vF h0 n0 _ T106.heap _; rw [e106q]; exact ⟨t105, kb105, rfl, N106, K105, sz_t105, Or.inr va105⟩) (by decide) (by decide)
theorem ef_rmCL_2_2 (m : MethodId) (x0 : Addr) : entryFrame m #[(.ref x0), (.int (2 : Int32))] 2 = mkF m 0 #[rv x0, iv (2 : Int32)] [] := by first | (simp [entryFrame, mkF, argsToLocals, Value.category]; done) | rfl
def QCL_2_2 (Z : State) (b1 : Addr) (kc2 : ClassId) (vs : List Value) (h0 : Heap) (n0 : Nat) (v : Option Value) (h : Heap) (L : List Loc) : Prop := v = some (.int (0 : Int32)) ∧ Fr n0 L ∧ h = h0
set_option maxRecDepth 65536 in
set_option maxHeartbeats 40000000 in
theorem rmCL_2_2 (l : Launch) (Z : State) (a0 : Array Value) (hw : TW Z a0) (ws : List Jvm.Cond) (b1 : Addr) (kc2 : ClassId) (vs : List Value) (h0 : Heap) (n0 : Nat) (Z0 : n0 ≤ h0.size) (V2 : Arv Z h0 b1 kc2 .byte (2 : Int32) vs (.int (0 : Int32))) :
    MF l Z (⟨"java/lang/StringUTF16", "coderFromArrayLen", "([BI)B"⟩ : MethodName) jdk_52_method_15_code 2 (some .byte) ws (rmm 0 0 0 0) #[(.ref b1), (.int (2 : Int32))] h0 (QCL_2_2 Z b1 kc2 vs h0 n0) := by
  refine MetFree.of_bodySF (plainFor_of_name pn_java_lang_StringUTF16) hisR ?_
  intro p e s m args below meth c s₁ Bd hml0 hP hK
  obtain ⟨rfl, hZ, hh⟩ := hP
  have hx := Bd.exec
  have hby := Bd.bytes
  have hlk : meth.locks = false := Bd.notSynchronized
  have hml : c.maxLocals = 2 := hml0
  have hown : s.vm.findClass "java/lang/StringUTF16" = some m.cls := findClass_of_methodNamed Bd.named
  have hnm := (name_of_methodNamed Bd.named Bd.method).1
  have X0 : Stand p l e (rmm 0 0 0 0) s m #[(.ref b1), (.int (2 : Int32))] below meth c s₁ [] 0 0 := Stand.of_body Bd
  have e0 : s₁.heap = h0 := by rw [← hh, Bd.state]; rfl
  have N0 := Fr.nil n0
  show Go p e below (FinE s below (QCL_2_2 Z b1 kc2 vs h0 n0) (rmm 0 0 0 0).cells (rmm 0 0 0 0).slots) (s₁.setTop (entryFrame m #[(.ref b1), (.int (2 : Int32))] 2))
  refine Go.via (fun t k => castTop (ef_rmCL_2_2 m b1) k) ?_
  refine Go.via (fun _ => XS.iloadN X0.here hx rfl (hb hby d8_0) rfl) ?_
  refine Go.via (fun _ => XS.aloadN X0.here hx rfl (hb hby d8_1) rfl rfl) ?_
  obtain ⟨cl101, Ar101, -, S101, N101n, -, -⟩ := id V2
  have al101 := X0.arraylength hx (by rw [e0]; exact Ar101.1) (State.isArrayOf_alike hZ.alike Ar101.2.1) (g := (mkF m 2 #[rv b1, iv (2 : Int32)] [(.ref b1), (.int (2 : Int32))])) rfl rfl (hb hby d8_2)
  rw [len_of S101 N101n] at al101
  refine Go.via al101 ?_
  refine Go.via (fun _ => XS.isub X0.here hx rfl (hb hby d8_3) rfl) ?_
  refine Go.via (fun _ => XS.bipush X0.here hx rfl (hb hby d8_4)) ?_
  show Go p e below _ (s₁.setTop (mkF m 6 #[rv b1, iv (2 : Int32)] [(.int (31 : Int32)), (.int (0 : Int32))]))
  refine Go.via (fun _ => XS.iushr X0.here hx rfl (hb hby d8_6) rfl) ?_
  refine Go.via (fun _ => XS.i2b X0.here hx rfl (hb hby d8_7) rfl) ?_
  exact own_retN X0 hx hlk (t := .byte) Bd.returns (by simp) (hb hby d8_8) (by show QCL_2_2 Z b1 kc2 vs h0 n0 _ s₁.heap _; rw [e0]; exact ⟨rfl, N0, rfl⟩) (by decide) (by decide)
theorem ef_rmCL_4_2 (m : MethodId) (x0 : Addr) : entryFrame m #[(.ref x0), (.int (2 : Int32))] 2 = mkF m 0 #[rv x0, iv (2 : Int32)] [] := by first | (simp [entryFrame, mkF, argsToLocals, Value.category]; done) | rfl
def QCL_4_2 (Z : State) (b1 : Addr) (kc2 : ClassId) (vs : List Value) (h0 : Heap) (n0 : Nat) (v : Option Value) (h : Heap) (L : List Loc) : Prop := v = some (.int (1 : Int32)) ∧ Fr n0 L ∧ h = h0
set_option maxRecDepth 65536 in
set_option maxHeartbeats 40000000 in
theorem rmCL_4_2 (l : Launch) (Z : State) (a0 : Array Value) (hw : TW Z a0) (ws : List Jvm.Cond) (b1 : Addr) (kc2 : ClassId) (vs : List Value) (h0 : Heap) (n0 : Nat) (Z0 : n0 ≤ h0.size) (V2 : Arv Z h0 b1 kc2 .byte (4 : Int32) vs (.int (0 : Int32))) :
    MF l Z (⟨"java/lang/StringUTF16", "coderFromArrayLen", "([BI)B"⟩ : MethodName) jdk_52_method_15_code 2 (some .byte) ws (rmm 0 0 0 0) #[(.ref b1), (.int (2 : Int32))] h0 (QCL_4_2 Z b1 kc2 vs h0 n0) := by
  refine MetFree.of_bodySF (plainFor_of_name pn_java_lang_StringUTF16) hisR ?_
  intro p e s m args below meth c s₁ Bd hml0 hP hK
  obtain ⟨rfl, hZ, hh⟩ := hP
  have hx := Bd.exec
  have hby := Bd.bytes
  have hlk : meth.locks = false := Bd.notSynchronized
  have hml : c.maxLocals = 2 := hml0
  have hown : s.vm.findClass "java/lang/StringUTF16" = some m.cls := findClass_of_methodNamed Bd.named
  have hnm := (name_of_methodNamed Bd.named Bd.method).1
  have X0 : Stand p l e (rmm 0 0 0 0) s m #[(.ref b1), (.int (2 : Int32))] below meth c s₁ [] 0 0 := Stand.of_body Bd
  have e0 : s₁.heap = h0 := by rw [← hh, Bd.state]; rfl
  have N0 := Fr.nil n0
  show Go p e below (FinE s below (QCL_4_2 Z b1 kc2 vs h0 n0) (rmm 0 0 0 0).cells (rmm 0 0 0 0).slots) (s₁.setTop (entryFrame m #[(.ref b1), (.int (2 : Int32))] 2))
  refine Go.via (fun t k => castTop (ef_rmCL_4_2 m b1) k) ?_
  refine Go.via (fun _ => XS.iloadN X0.here hx rfl (hb hby d8_0) rfl) ?_
  refine Go.via (fun _ => XS.aloadN X0.here hx rfl (hb hby d8_1) rfl rfl) ?_
  obtain ⟨cl101, Ar101, -, S101, N101n, -, -⟩ := id V2
  have al101 := X0.arraylength hx (by rw [e0]; exact Ar101.1) (State.isArrayOf_alike hZ.alike Ar101.2.1) (g := (mkF m 2 #[rv b1, iv (2 : Int32)] [(.ref b1), (.int (2 : Int32))])) rfl rfl (hb hby d8_2)
  rw [len_of S101 N101n] at al101
  refine Go.via al101 ?_
  refine Go.via (fun _ => XS.isub X0.here hx rfl (hb hby d8_3) rfl) ?_
  refine Go.via (fun _ => XS.bipush X0.here hx rfl (hb hby d8_4)) ?_
  show Go p e below _ (s₁.setTop (mkF m 6 #[rv b1, iv (2 : Int32)] [(.int (31 : Int32)), (.int (-2 : Int32))]))
  refine Go.via (fun _ => XS.iushr X0.here hx rfl (hb hby d8_6) rfl) ?_
  refine Go.via (fun _ => XS.i2b X0.here hx rfl (hb hby d8_7) rfl) ?_
  exact own_retN X0 hx hlk (t := .byte) Bd.returns (by simp) (hb hby d8_8) (by show QCL_4_2 Z b1 kc2 vs h0 n0 _ s₁.heap _; rw [e0]; exact ⟨rfl, N0, rfl⟩) (by decide) (by decide)
theorem ef_rmJ4_2 (m : MethodId) (x0 : Addr) (x1 : Addr) : entryFrame m #[(.ref x0), (.ref x1), (.int (0 : Int32)), (.int (2 : Int32)), .null] 6 = mkF m 0 #[rv x0, rv x1, iv (0 : Int32), iv (2 : Int32), .val .null, .unset] [] := by first | (simp [entryFrame, mkF, argsToLocals, Value.category]; done) | rfl
set_option maxRecDepth 65536 in
set_option maxHeartbeats 40000000 in
theorem rmJ4_2 (l : Launch) (Z : State) (a0 : Array Value) (hw : TW Z a0) (ws : List Jvm.Cond) (a1 : Addr) (a2 : Addr) (kc1 : ClassId) (c0 : Int32) (c1 : Int32) (ccs : Int32) (vF : Value) (h0 : Heap) (n0 : Nat) (Z0 : n0 ≤ h0.size) (E1 : Exa Z h0 a1 "java/lang/String") (F1 : Fld Z h0 a1 "java/lang/String" "value" "[B" .null) (F2 : Fld Z h0 a1 "java/lang/String" "coder" "B" (.int (0 : Int32))) (g1 : n0 ≤ a1) (ne1 : a1 ≠ a2) (V1 : Arv Z h0 a2 kc1 .char (2 : Int32) [(.int c0), (.int c1)] (.int (0 : Int32))) (hr0 : ¬ (c0 < (0 : Int32)) ∧ ¬ ((65535 : Int32) < c0)) (hr1 : ¬ (c1 < (0 : Int32)) ∧ ¬ ((65535 : Int32) < c1)) (O0 : Old Z n0 h0) (G : SG Z ccs vF) :
    MF l Z (⟨"java/lang/String", "<init>", "([CIILjava/lang/Void;)V"⟩ : MethodName) jdk_42_method_149_code 6 none ws (rmm 4 2 6 57) #[(.ref a1), (.ref a2), (.int (0 : Int32)), (.int (2 : Int32)), .null] h0 (QTx2 Z a1 c0 c1 h0 n0) := by
  refine MetFree.of_bodySF (plainFor_of_name pn_java_lang_String) hisR ?_
  intro p e s m args below meth c s₁ Bd hml0 hP hK
  obtain ⟨rfl, hZ, hh⟩ := hP
  have hx := Bd.exec
  have hby := Bd.bytes
  have hlk : meth.locks = false := Bd.notSynchronized
  have hml : c.maxLocals = 6 := hml0
  have hown : s.vm.findClass "java/lang/String" = some m.cls := findClass_of_methodNamed Bd.named
  have hnm := (name_of_methodNamed Bd.named Bd.method).1
  have rF := G.2.2.2.2.2.2
  have hcs := G.2.1
  have X0 : Stand p l e (rmm 4 2 6 57) s m #[(.ref a1), (.ref a2), (.int (0 : Int32)), (.int (2 : Int32)), .null] below meth c s₁ [] 0 0 := Stand.of_body Bd
  have e0 : s₁.heap = h0 := by rw [← hh, Bd.state]; rfl
  have N0 := Fr.nil n0
  show Go p e below (FinE s below (QTx2 Z a1 c0 c1 h0 n0) (rmm 4 2 6 57).cells (rmm 4 2 6 57).slots) (s₁.setTop (entryFrame m #[(.ref a1), (.ref a2), (.int (0 : Int32)), (.int (2 : Int32)), .null] 6))
  refine Go.via (fun t k => castTop (ef_rmJ4_2 m a1 a2) k) ?_
  refine Go.via (fun _ => XS.aloadN X0.here hx rfl (hb hby d2_0) rfl rfl) ?_
  obtain ⟨T101, X101, e101, st101⟩ := initO X0 hx hZ hown (ow hw 12 rfl) (ow hw 13 rfl) (ow hw 14 rfl) e0 (g := (mkF m 1 #[rv a1, rv a2, iv (0 : Int32), iv (2 : Int32), .val .null, .unset] [(.ref a1)])) rfl (by rw [hml]; rfl) rfl (hb hby d2_1) (by decide) (W := 0) (by show 2 * 0 + _ ≤ _; exact Nat.le_of_eq rfl) (by decide)
  refine Go.via st101 ?_
  refine Go.via (fun _ => XS.iloadN X101.here hx rfl (hb hby d2_4) rfl) ?_
  refine Go.via (fun _ => XS.ifYes X101.here hx rfl (pc0 := 5) (pc' := 27) rfl (hb hby d2_5) rfl (by decide) (by decide) (by decide)) ?_
  obtain ⟨T102, X102, e102, st102⟩ := getS2 X101 hx hZ hown (host := "") (Or.inl (ow hw 32 rfl)) Via.refl e101 (G.1.ext O0.2) (g := (mkF m 27 #[rv a1, rv a2, iv (0 : Int32), iv (2 : Int32), .val .null, .unset] [])) rfl (hb hby d2_27)
  refine Go.via st102 ?_
  show Go p e below _ (T102.setTop (mkF m 30 #[rv a1, rv a2, iv (0 : Int32), iv (2 : Int32), .val .null, .unset] [(.int ccs)]))
  refine Go.via (fun _ => XS.ifNo X102.here hx rfl (hb hby d2_30) rfl ((if0 _ _).trans (feq hcs).1)) ?_
  refine Go.via (fun _ => XS.aloadN X102.here hx rfl (hb hby d2_33) rfl rfl) ?_
  refine Go.via (fun _ => XS.iloadN X102.here hx rfl (hb hby d2_34) rfl) ?_
  refine Go.via (fun _ => XS.iloadN X102.here hx rfl (hb hby d2_35) rfl) ?_
  obtain ⟨_, _, ⟨T103, L103, k103, n103⟩, -, X103, ⟨Lc103, hQ103, l103, y103, z103⟩, st103⟩ := Jvm.LawKit.callS X102 hx (y := (⟨"java/lang/StringUTF16", "compress", "([CII)[B"⟩ : MethodName)) hown (mvT hZ (ow hw 33 rfl)) (mvT hZ (ow hw 34 rfl)) (mvT hZ (ow hw 35 rfl)) (mvT hZ (ow hw 36 rfl)) (by decide) (backOf (W := 0) (rmD1_2 l Z a0 hw [] a2 kc1 c0 c1 ccs vF h0 n0 Z0 V1 hr0 hr1 O0 G) hZ (ow hw 36 rfl) (ow hw 35 rfl) (by decide) (by decide)) (g := (mkF m 36 #[rv a1, rv a2, iv (0 : Int32), iv (2 : Int32), .val .null, .unset] [(.int (2 : Int32)), (.int (0 : Int32)), (.ref a2)])) rfl (by rw [hml]; rfl) (argsL := [(.ref a2), (.int (0 : Int32)), (.int (2 : Int32))]) (rest := []) (lenOf pd_15 rfl) rfl (by show 2 * 0 + _ ≤ _; exact Nat.le_of_eq rfl) (hb hby d2_36) (fun _ _ => ⟨rfl, e102, (by decide : 0 + 2 ≤ _), (by decide : 0 + 6 ≤ _)⟩)
  dsimp only [Pt.U, Pt.locs, Pt.cells, Pt.slots] at X103 l103 y103 z103 st103 hQ103
  rw [l103, y103, z103] at X103
  replace X103 : Stand p l e _ _ m _ below meth c T103 _ 2 6 := X103
  obtain ⟨t103, kb103, rfl, N103q, K103q, gt103, alt103⟩ := hQ103
  have N103 := Fr.app N0 N103q
  have Zs103 : n0 ≤ T103.heap.size := Nat.le_trans Z0 K103q.1
  have O103 : Old Z n0 T103.heap := O0.keep K103q all0
  have K103 : Keep h0 T103.heap [a1] := (Keep.refl h0 [a1]).trans K103q all0
  have fE_a1_103 := E1.keep K103q
  have fF_a1_value_103 := F1.keep K103q nin0
  have fF_a1_coder_103 := F2.keep K103q nin0
  have fV_a2_103 := V1.keep K103q nin0
  rcases alt103 with ⟨va103, hl0, hl1⟩ | va103
  ·
    refine Go.via st103 ?_
    have g_t103 : n0 ≤ t103 := Nat.le_trans Z0 gt103
    have ne_a1_t103 : a1 ≠ t103 := Nat.ne_of_lt (Nat.lt_of_lt_of_le E1.lt gt103)
    have ne_a2_t103 : a2 ≠ t103 := Nat.ne_of_lt (Nat.lt_of_lt_of_le V1.lt gt103)
    have sz_t103 : h0.size ≤ t103 := Nat.le_trans (Keep.refl h0 [a1]).1 gt103
    refine Go.via (fun _ => XS.astore X103.here hx rfl (hb hby d2_39) rfl rfl (l' := #[rv a1, rv a2, iv (0 : Int32), iv (2 : Int32), .val .null, rv t103]) rfl) ?_
    show Go p e below _ (T103.setTop (mkF m 41 #[rv a1, rv a2, iv (0 : Int32), iv (2 : Int32), .val .null, rv t103] []))
    refine Go.via (fun _ => XS.aloadN X103.here hx rfl (hb hby d2_41) rfl rfl) ?_
    refine Go.via (fun _ => XS.aload X103.here hx rfl (hb hby d2_42) rfl rfl) ?_
    refine Go.via (fun _ => XS.iloadN X103.here hx rfl (hb hby d2_44) rfl) ?_
    obtain ⟨_, _, ⟨T104, L104, k104, n104⟩, -, X104, ⟨Lc104, hQ104, l104, y104, z104⟩, st104⟩ := Jvm.LawKit.callS X103 hx (y := (⟨"java/lang/StringUTF16", "coderFromArrayLen", "([BI)B"⟩ : MethodName)) hown (mvT hZ (ow hw 40 rfl)) (mvT hZ (ow hw 41 rfl)) (mvT hZ (ow hw 35 rfl)) (mvT hZ (ow hw 42 rfl)) (by decide) (backOf (W := 1) (rmCL_2_2 l Z a0 hw [] t103 kb103 _ T103.heap n0 Zs103 va103) hZ (ow hw 42 rfl) (ow hw 35 rfl) (by decide) (by decide)) (g := (mkF m 45 #[rv a1, rv a2, iv (0 : Int32), iv (2 : Int32), .val .null, rv t103] [(.int (2 : Int32)), (.ref t103), (.ref a1)])) rfl (by rw [hml]; rfl) (argsL := [(.ref t103), (.int (2 : Int32))]) (rest := [(.ref a1)]) (lenOf pd_16 rfl) rfl (by show 2 * 0 + _ ≤ _; exact Nat.le_of_eq rfl) (hb hby d2_45) (fun _ _ => ⟨rfl, rfl, (by decide : 2 + 0 ≤ _), (by decide : 6 + 0 ≤ _)⟩)
    dsimp only [Pt.U, Pt.locs, Pt.cells, Pt.slots] at X104 l104 y104 z104 st104 hQ104
    rw [l104, y104, z104] at X104
    replace X104 : Stand p l e _ _ m _ below meth c T104 _ 2 6 := X104
    obtain ⟨rfl, N104q, e104q⟩ := hQ104
    have N104 := Fr.app N103 N104q
    refine Go.via st104 ?_
    obtain ⟨T105, h105, X105, e105, W105, st105⟩ := putFN X104 hx hZ hown (ow hw 22 rfl) Via.refl e104q fF_a1_coder_103 fE_a1_103 (Or.inr ⟨(ow hw 18 rfl), rfl, hnm⟩) (ow hw 3 rfl) (ty := .byte) (v' := .int (nar .byte (0 : Int32))) (by decide) rfl (fits_nar_byte _) (g := (mkF m 48 #[rv a1, rv a2, iv (0 : Int32), iv (2 : Int32), .val .null, rv t103] [(.int (0 : Int32)), (.ref a1)])) rfl rfl (hb hby d2_48)
    refine Go.via st105 ?_
    have fF_a1_coder_105 : Fld Z h105 a1 "java/lang/String" "coder" "B" (.int (0 : Int32)) := fF_a1_coder_103.same W105
    have Zs105 : n0 ≤ h105.size := Nat.le_trans Zs103 (Keep.of_wr W105).1
    have O105 : Old Z n0 h105 := O103.wr W105 g1
    have K105 : Keep h0 h105 [a1] := K103.wr W105 (Or.inl (List.mem_of_getElem? (i := 0) rfl))
    have N105 := Fr.snoc X105 N104 g1
    have fE_a1_105 := fE_a1_103.wr W105
    have fF_a1_value_105 := fF_a1_value_103.other W105 (Or.inr (slot_ne (Or.inr (ow hw 17 rfl)) (Or.inr (ow hw 18 rfl)) (by decide) (t := (.array .byte)) (t' := .byte) (by decide) (by decide)))
    have fV_a2_105 := fV_a2_103.other W105 (Ne.symm ne1)
    have fV_t103_105 := va103.other W105 (Ne.symm ne_a1_t103)
    refine Go.via (fun _ => XS.aloadN X105.here hx rfl (hb hby d2_51) rfl rfl) ?_
    show Go p e below _ (T105.setTop (mkF m 52 #[rv a1, rv a2, iv (0 : Int32), iv (2 : Int32), .val .null, rv t103] [(.ref a1)]))
    refine Go.via (fun _ => XS.aload X105.here hx rfl (hb hby d2_52) rfl rfl) ?_
    obtain ⟨T106, h106, X106, e106, W106, st106⟩ := putF X105 hx hZ hown (host := "") (Or.inl (ow hw 21 rfl)) Via.refl e105 fF_a1_value_105 fE_a1_105 (Or.inr ⟨(ow hw 17 rfl), rfl, hnm⟩) (ow hw 3 rfl) (ty := (.array .byte)) (by decide) rfl rfl (g := (mkF m 54 #[rv a1, rv a2, iv (0 : Int32), iv (2 : Int32), .val .null, rv t103] [(.ref t103), (.ref a1)])) rfl rfl (hb hby d2_54)
    refine Go.via st106 ?_
    have fF_a1_value_106 : Fld Z h106 a1 "java/lang/String" "value" "[B" (.ref t103) := fF_a1_value_105.same W106
    have Zs106 : n0 ≤ h106.size := Nat.le_trans Zs105 (Keep.of_wr W106).1
    have O106 : Old Z n0 h106 := O105.wr W106 g1
    have K106 : Keep h0 h106 [a1] := K105.wr W106 (Or.inl (List.mem_of_getElem? (i := 0) rfl))
    have N106 := Fr.snoc X106 N105 g1
    have fE_a1_106 := fE_a1_105.wr W106
    have fF_a1_coder_106 := fF_a1_coder_105.other W106 (Or.inr (slot_ne (Or.inr (ow hw 18 rfl)) (Or.inr (ow hw 17 rfl)) (by decide) (t := .byte) (t' := (.array .byte)) (by decide) (by decide)))
    have fV_a2_106 := fV_a2_105.other W106 (Ne.symm ne1)
    have fV_t103_106 := fV_t103_105.other W106 (Ne.symm ne_a1_t103)
    exact own_retV X106 hx hlk Bd.returns (hb hby d2_57) (by show QTx2 Z a1 c0 c1 h0 n0 _ T106.heap _; rw [e106]; exact ⟨rfl, N106, K106, Or.inl ⟨t103, kb103, fF_a1_value_106, fF_a1_coder_106, fV_t103_106, hl0, hl1⟩⟩) (by decide) (by decide)
  ·
    refine Go.via st103 ?_
    have g_t103 : n0 ≤ t103 := Nat.le_trans Z0 gt103
    have ne_a1_t103 : a1 ≠ t103 := Nat.ne_of_lt (Nat.lt_of_lt_of_le E1.lt gt103)
    have ne_a2_t103 : a2 ≠ t103 := Nat.ne_of_lt (Nat.lt_of_lt_of_le V1.lt gt103)
    have sz_t103 : h0.size ≤ t103 := Nat.le_trans (Keep.refl h0 [a1]).1 gt103
    refine Go.via (fun _ => XS.astore X103.here hx rfl (hb hby d2_39) rfl rfl (l' := #[rv a1, rv a2, iv (0 : Int32), iv (2 : Int32), .val .null, rv t103]) rfl) ?_
    show Go p e below _ (T103.setTop (mkF m 41 #[rv a1, rv a2, iv (0 : Int32), iv (2 : Int32), .val .null, rv t103] []))
    refine Go.via (fun _ => XS.aloadN X103.here hx rfl (hb hby d2_41) rfl rfl) ?_
    refine Go.via (fun _ => XS.aload X103.here hx rfl (hb hby d2_42) rfl rfl) ?_
    refine Go.via (fun _ => XS.iloadN X103.here hx rfl (hb hby d2_44) rfl) ?_
    obtain ⟨_, _, ⟨T107, L107, k107, n107⟩, -, X107, ⟨Lc107, hQ107, l107, y107, z107⟩, st107⟩ := Jvm.LawKit.callS X103 hx (y := (⟨"java/lang/StringUTF16", "coderFromArrayLen", "([BI)B"⟩ : MethodName)) hown (mvT hZ (ow hw 40 rfl)) (mvT hZ (ow hw 41 rfl)) (mvT hZ (ow hw 35 rfl)) (mvT hZ (ow hw 42 rfl)) (by decide) (backOf (W := 1) (rmCL_4_2 l Z a0 hw [] t103 kb103 _ T103.heap n0 Zs103 va103) hZ (ow hw 42 rfl) (ow hw 35 rfl) (by decide) (by decide)) (g := (mkF m 45 #[rv a1, rv a2, iv (0 : Int32), iv (2 : Int32), .val .null, rv t103] [(.int (2 : Int32)), (.ref t103), (.ref a1)])) rfl (by rw [hml]; rfl) (argsL := [(.ref t103), (.int (2 : Int32))]) (rest := [(.ref a1)]) (lenOf pd_16 rfl) rfl (by show 2 * 0 + _ ≤ _; exact Nat.le_of_eq rfl) (hb hby d2_45) (fun _ _ => ⟨rfl, rfl, (by decide : 2 + 0 ≤ _), (by decide : 6 + 0 ≤ _)⟩)
    dsimp only [Pt.U, Pt.locs, Pt.cells, Pt.slots] at X107 l107 y107 z107 st107 hQ107
    rw [l107, y107, z107] at X107
    replace X107 : Stand p l e _ _ m _ below meth c T107 _ 2 6 := X107
    obtain ⟨rfl, N107q, e107q⟩ := hQ107
    have N107 := Fr.app N103 N107q
    refine Go.via st107 ?_
    obtain ⟨T108, h108, X108, e108, W108, st108⟩ := putFN X107 hx hZ hown (ow hw 22 rfl) Via.refl e107q fF_a1_coder_103 fE_a1_103 (Or.inr ⟨(ow hw 18 rfl), rfl, hnm⟩) (ow hw 3 rfl) (ty := .byte) (v' := .int (nar .byte (1 : Int32))) (by decide) rfl (fits_nar_byte _) (g := (mkF m 48 #[rv a1, rv a2, iv (0 : Int32), iv (2 : Int32), .val .null, rv t103] [(.int (1 : Int32)), (.ref a1)])) rfl rfl (hb hby d2_48)
    refine Go.via st108 ?_
    have fF_a1_coder_108 : Fld Z h108 a1 "java/lang/String" "coder" "B" (.int (1 : Int32)) := fF_a1_coder_103.same W108
    have Zs108 : n0 ≤ h108.size := Nat.le_trans Zs103 (Keep.of_wr W108).1
    have O108 : Old Z n0 h108 := O103.wr W108 g1
    have K108 : Keep h0 h108 [a1] := K103.wr W108 (Or.inl (List.mem_of_getElem? (i := 0) rfl))
    have N108 := Fr.snoc X108 N107 g1
    have fE_a1_108 := fE_a1_103.wr W108
    have fF_a1_value_108 := fF_a1_value_103.other W108 (Or.inr (slot_ne (Or.inr (ow hw 17 rfl)) (Or.inr (ow hw 18 rfl)) (by decide) (t := (.array .byte)) (t' := .byte) (by decide) (by decide)))
    have fV_a2_108 := fV_a2_103.other W108 (Ne.symm ne1)
    have fV_t103_108 := va103.other W108 (Ne.symm ne_a1_t103)
    refine Go.via (fun _ => XS.aloadN X108.here hx rfl (hb hby d2_51) rfl rfl) ?_
    show Go p e below _ (T108.setTop (mkF m 52 #[rv a1, rv a2, iv (0 : Int32), iv (2 : Int32), .val .null, rv t103] [(.ref a1)]))
    refine Go.via (fun _ => XS.aload X108.here hx rfl (hb hby d2_52) rfl rfl) ?_
    obtain ⟨T109, h109, X109, e109, W109, st109⟩ := putF X108 hx hZ hown (host := "") (Or.inl (ow hw 21 rfl)) Via.refl e108 fF_a1_value_108 fE_a1_108 (Or.inr ⟨(ow hw 17 rfl), rfl, hnm⟩) (ow hw 3 rfl) (ty := (.array .byte)) (by decide) rfl rfl (g := (mkF m 54 #[rv a1, rv a2, iv (0 : Int32), iv (2 : Int32), .val .null, rv t103] [(.ref t103), (.ref a1)])) rfl rfl (hb hby d2_54)
    refine Go.via st109 ?_
    have fF_a1_value_109 : Fld Z h109 a1 "java/lang/String" "value" "[B" (.ref t103) := fF_a1_value_108.same W109
    have Zs109 : n0 ≤ h109.size := Nat.le_trans Zs108 (Keep.of_wr W109).1
    have O109 : Old Z n0 h109 := O108.wr W109 g1
    have K109 : Keep h0 h109 [a1] := K108.wr W109 (Or.inl (List.mem_of_getElem? (i := 0) rfl))
    have N109 := Fr.snoc X109 N108 g1
    have fE_a1_109 := fE_a1_108.wr W109
    have fF_a1_coder_109 := fF_a1_coder_108.other W109 (Or.inr (slot_ne (Or.inr (ow hw 18 rfl)) (Or.inr (ow hw 17 rfl)) (by decide) (t := .byte) (t' := (.array .byte)) (by decide) (by decide)))
    have fV_a2_109 := fV_a2_108.other W109 (Ne.symm ne1)
    have fV_t103_109 := fV_t103_108.other W109 (Ne.symm ne_a1_t103)
    exact own_retV X109 hx hlk Bd.returns (hb hby d2_57) (by show QTx2 Z a1 c0 c1 h0 n0 _ T109.heap _; rw [e109]; exact ⟨rfl, N109, K109, Or.inr ⟨t103, kb103, fF_a1_value_109, fF_a1_coder_109, fV_t103_109⟩⟩) (by decide) (by decide)
theorem ef_rmJ1_2 (m : MethodId) (x0 : Addr) (x1 : Addr) : entryFrame m #[(.ref x0), (.ref x1)] 2 = mkF m 0 #[rv x0, rv x1] [] := by first | (simp [entryFrame, mkF, argsToLocals, Value.category]; done) | rfl
set_option maxRecDepth 65536 in
set_option maxHeartbeats 40000000 in
theorem rmJ1_2 (l : Launch) (Z : State) (a0 : Array Value) (hw : TW Z a0) (ws : List Jvm.Cond) (a1 : Addr) (a2 : Addr) (kc1 : ClassId) (c0 : Int32) (c1 : Int32) (ccs : Int32) (vF : Value) (h0 : Heap) (n0 : Nat) (Z0 : n0 ≤ h0.size) (E1 : Exa Z h0 a1 "java/lang/String") (F1 : Fld Z h0 a1 "java/lang/String" "value" "[B" .null) (F2 : Fld Z h0 a1 "java/lang/String" "coder" "B" (.int (0 : Int32))) (g1 : n0 ≤ a1) (ne1 : a1 ≠ a2) (V1 : Arv Z h0 a2 kc1 .char (2 : Int32) [(.int c0), (.int c1)] (.int (0 : Int32))) (hr0 : ¬ (c0 < (0 : Int32)) ∧ ¬ ((65535 : Int32) < c0)) (hr1 : ¬ (c1 < (0 : Int32)) ∧ ¬ ((65535 : Int32) < c1)) (O0 : Old Z n0 h0) (G : SG Z ccs vF) :
    MF l Z (⟨"java/lang/String", "<init>", "([C)V"⟩ : MethodName) jdk_42_method_3_code 2 none ws (rmm 5 2 6 74) #[(.ref a1), (.ref a2)] h0 (QTx2 Z a1 c0 c1 h0 n0) := by
  refine MetFree.of_bodySF (plainFor_of_name pn_java_lang_String) hisR ?_
  intro p e s m args below meth c s₁ Bd hml0 hP hK
  obtain ⟨rfl, hZ, hh⟩ := hP
  have hx := Bd.exec
  have hby := Bd.bytes
  have hlk : meth.locks = false := Bd.notSynchronized
  have hml : c.maxLocals = 2 := hml0
  have hown : s.vm.findClass "java/lang/String" = some m.cls := findClass_of_methodNamed Bd.named
  have hnm := (name_of_methodNamed Bd.named Bd.method).1
  have rF := G.2.2.2.2.2.2
  have hcs := G.2.1
  have X0 : Stand p l e (rmm 5 2 6 74) s m #[(.ref a1), (.ref a2)] below meth c s₁ [] 0 0 := Stand.of_body Bd
  have e0 : s₁.heap = h0 := by rw [← hh, Bd.state]; rfl
  have N0 := Fr.nil n0
  show Go p e below (FinE s below (QTx2 Z a1 c0 c1 h0 n0) (rmm 5 2 6 74).cells (rmm 5 2 6 74).slots) (s₁.setTop (entryFrame m #[(.ref a1), (.ref a2)] 2))
  refine Go.via (fun t k => castTop (ef_rmJ1_2 m a1 a2) k) ?_
  refine Go.via (fun _ => XS.aloadN X0.here hx rfl (hb hby d1_0) rfl rfl) ?_
  refine Go.via (fun _ => XS.aloadN X0.here hx rfl (hb hby d1_1) rfl rfl) ?_
  refine Go.via (fun _ => XS.iconst X0.here hx rfl (hb hby d1_2)) ?_
  refine Go.via (fun _ => XS.aloadN X0.here hx rfl (hb hby d1_3) rfl rfl) ?_
  obtain ⟨cl101, Ar101, -, S101, N101n, -, -⟩ := id V1
  have al101 := X0.arraylength hx (by rw [e0]; exact Ar101.1) (State.isArrayOf_alike hZ.alike Ar101.2.1) (g := (mkF m 4 #[rv a1, rv a2] [(.ref a2), (.int (0 : Int32)), (.ref a2), (.ref a1)])) rfl rfl (hb hby d1_4)
  rw [len_of S101 N101n] at al101
  refine Go.via al101 ?_
  show Go p e below _ (s₁.setTop (mkF m 5 #[rv a1, rv a2] [(.int (2 : Int32)), (.int (0 : Int32)), (.ref a2), (.ref a1)]))
  refine Go.via (fun _ => XS.aconstNull X0.here hx rfl (hb hby d1_5)) ?_
  obtain ⟨_, _, ⟨T102, L102, k102, n102⟩, -, X102, ⟨Lc102, hQ102, l102, y102, z102⟩, st102⟩ := X0.specialBack hx (y := (⟨"java/lang/String", "<init>", "([CIILjava/lang/Void;)V"⟩ : MethodName)) rfl hown (mvT hZ (ow hw 8 rfl)) (mvT hZ (ow hw 9 rfl)) (mvT hZ (ow hw 11 rfl)) (by decide) (backOf (W := 0) (rmJ4_2 l Z a0 hw [] a1 a2 kc1 c0 c1 ccs vF h0 n0 Z0 E1 F1 F2 g1 ne1 V1 hr0 hr1 O0 G) hZ (ow hw 11 rfl) (ow hw 4 rfl) (by decide) (by decide)) (g := (mkF m 6 #[rv a1, rv a2] [.null, (.int (2 : Int32)), (.int (0 : Int32)), (.ref a2), (.ref a1)])) rfl (by rw [hml]; rfl) (Steps.refl _) (a := a1) (argsL := [(.ref a2), (.int (0 : Int32)), (.int (2 : Int32)), .null]) (rest := []) (lenOf pd_10 rfl) rfl (by show 2 * 0 + _ ≤ _; exact Nat.le_of_eq rfl) (hb hby d1_6) (fun _ _ => ⟨rfl, e0, (by decide : 0 + 2 ≤ _), (by decide : 0 + 6 ≤ _)⟩)
  dsimp only [Pt.U, Pt.locs, Pt.cells, Pt.slots] at X102 l102 y102 z102 st102 hQ102
  rw [l102, y102, z102] at X102
  replace X102 : Stand p l e _ _ m _ below meth c T102 _ 2 6 := X102
  obtain ⟨rfl, N102q, K102q, tx102⟩ := hQ102
  have N102 := Fr.app N0 N102q
  refine Go.tr st102 ?_
  have Zs102 : n0 ≤ T102.heap.size := Nat.le_trans Z0 K102q.1
  have O102 : Old Z n0 T102.heap := O0.keep K102q (allS g1 all0)
  have fE_a1_102 := E1.keep K102q
  have fV_a2_102 := V1.keep K102q (ninS (Ne.symm ne1) nin0)
  exact own_retV X102 hx hlk Bd.returns (hb hby d1_9) (by show QTx2 Z a1 c0 c1 h0 n0 _ T102.heap _; exact ⟨rfl, N102, K102q, tx102⟩) (by decide) (by decide)
theorem ef_rmD2_3 (m : MethodId) (x0 : Addr) (x2 : Addr) : entryFrame m #[(.ref x0), (.int (0 : Int32)), (.ref x2), (.int (0 : Int32)), (.int (3 : Int32))] 7 = mkF m 0 #[rv x0, iv (0 : Int32), rv x2, iv (0 : Int32), iv (3 : Int32), .unset, .unset] [] := by first | (simp [entryFrame, mkF, argsToLocals, Value.category]; done) | rfl
def QD2_3 (Z : State) (a1 : Addr) (kc1 : ClassId) (b1 : Addr) (kc2 : ClassId) (c0 : Int32) (c1 : Int32) (c2 : Int32) (h0 : Heap) (n0 : Nat) (v : Option Value) (h : Heap) (L : List Loc) : Prop := Fr n0 L ∧ Keep h0 h [b1] ∧ ((v = some (.int (3 : Int32)) ∧ Arv Z h b1 kc2 .byte (3 : Int32) [(.int (nar .byte (c0.toInt8.toInt32))), (.int (nar .byte (c1.toInt8.toInt32))), (.int (nar .byte (c2.toInt8.toInt32)))] (.int (0 : Int32)) ∧ ¬ ((255 : Int32) < c0) ∧ ¬ ((255 : Int32) < c1) ∧ ¬ ((255 : Int32) < c2)) ∨ (v = some (.int (0 : Int32)) ∧ (255 : Int32) < c0) ∨ (v = some (.int (1 : Int32)) ∧ (255 : Int32) < c1) ∨ (v = some (.int (2 : Int32)) ∧ (255 : Int32) < c2))
set_option maxRecDepth 65536 in
set_option maxHeartbeats 40000000 in
theorem rmD2_3 (l : Launch) (Z : State) (a0 : Array Value) (hw : TW Z a0) (ws : List Jvm.Cond) (a1 : Addr) (kc1 : ClassId) (b1 : Addr) (kc2 : ClassId) (c0 : Int32) (c1 : Int32) (c2 : Int32) (h0 : Heap) (n0 : Nat) (Z0 : n0 ≤ h0.size) (V1 : Arv Z h0 a1 kc1 .char (3 : Int32) [(.int c0), (.int c1), (.int c2)] (.int (0 : Int32))) (V2 : Arv Z h0 b1 kc2 .byte (3 : Int32) [(.int (0 : Int32)), (.int (0 : Int32)), (.int (0 : Int32))] (.int (0 : Int32))) (g1 : n0 ≤ b1) (ne1 : a1 ≠ b1) :
    MF l Z (⟨"java/lang/StringUTF16", "compress", "([CI[BII)I"⟩ : MethodName) jdk_52_method_21_code 7 (some .int) ws (rmm 0 0 0 0) #[(.ref a1), (.int (0 : Int32)), (.ref b1), (.int (0 : Int32)), (.int (3 : Int32))] h0 (QD2_3 Z a1 kc1 b1 kc2 c0 c1 c2 h0 n0) := by
  refine MetFree.of_bodySF (plainFor_of_name pn_java_lang_StringUTF16) hisR ?_
  intro p e s m args below meth c s₁ Bd hml0 hP hK
  obtain ⟨rfl, hZ, hh⟩ := hP
  have hx := Bd.exec
  have hby := Bd.bytes
  have hlk : meth.locks = false := Bd.notSynchronized
  have hml : c.maxLocals = 7 := hml0
  have hown : s.vm.findClass "java/lang/StringUTF16" = some m.cls := findClass_of_methodNamed Bd.named
  have hnm := (name_of_methodNamed Bd.named Bd.method).1
  have X0 : Stand p l e (rmm 0 0 0 0) s m #[(.ref a1), (.int (0 : Int32)), (.ref b1), (.int (0 : Int32)), (.int (3 : Int32))] below meth c s₁ [] 0 0 := Stand.of_body Bd
  have e0 : s₁.heap = h0 := by rw [← hh, Bd.state]; rfl
  have N0 := Fr.nil n0
  show Go p e below (FinE s below (QD2_3 Z a1 kc1 b1 kc2 c0 c1 c2 h0 n0) (rmm 0 0 0 0).cells (rmm 0 0 0 0).slots) (s₁.setTop (entryFrame m #[(.ref a1), (.int (0 : Int32)), (.ref b1), (.int (0 : Int32)), (.int (3 : Int32))] 7))
  refine Go.via (fun t k => castTop (ef_rmD2_3 m a1 b1) k) ?_
  refine Go.via (fun _ => XS.iconst X0.here hx rfl (hb hby d7_0)) ?_
  refine Go.via (fun _ => XS.istore X0.here hx rfl (hb hby d7_1) rfl (l' := #[rv a1, iv (0 : Int32), rv b1, iv (0 : Int32), iv (3 : Int32), iv (0 : Int32), .unset]) rfl) ?_
  refine Go.via (fun _ => XS.iload X0.here hx rfl (hb hby d7_3) rfl) ?_
  refine Go.via (fun _ => XS.iload X0.here hx rfl (hb hby d7_5) rfl) ?_
  refine Go.via (fun _ => XS.icmpNo X0.here hx rfl (hb hby d7_7) rfl (by decide)) ?_
  show Go p e below _ (s₁.setTop (mkF m 10 #[rv a1, iv (0 : Int32), rv b1, iv (0 : Int32), iv (3 : Int32), iv (0 : Int32), .unset] []))
  refine Go.via (fun _ => XS.aloadN X0.here hx rfl (hb hby d7_10) rfl rfl) ?_
  refine Go.via (fun _ => XS.iloadN X0.here hx rfl (hb hby d7_11) rfl) ?_
  obtain ⟨cl101, Ar101, q101, S101, N101n, H101, G101⟩ := id V1
  have hin101 := inb_of (j := (0 : Int32)) S101 (by decide)
  have hat101 : cl101.slots[((0 : Int32) : Int32).toNatClampNeg]? = some (.int c0) := H101.at hin101 rfl
  refine Go.via (X0.caload hx (j := (0 : Int32)) (v := (.int c0)) (by rw [e0]; exact Ar101.1) (State.isArrayOf_alike hZ.alike Ar101.2.1) Ar101.2.2 hin101 hat101 (g := (mkF m 12 #[rv a1, iv (0 : Int32), rv b1, iv (0 : Int32), iv (3 : Int32), iv (0 : Int32), .unset] [(.int (0 : Int32)), (.ref a1)])) rfl rfl (hb hby d7_12)) ?_
  refine Go.via (fun _ => XS.istore X0.here hx rfl (hb hby d7_13) rfl (l' := #[rv a1, iv (0 : Int32), rv b1, iv (0 : Int32), iv (3 : Int32), iv (0 : Int32), iv c0]) rfl) ?_
  refine Go.via (fun _ => XS.iload X0.here hx rfl (hb hby d7_15) rfl) ?_
  refine Go.via (fun _ => XS.sipush X0.here hx rfl (hb hby d7_17)) ?_
  show Go p e below _ (s₁.setTop (mkF m 20 #[rv a1, iv (0 : Int32), rv b1, iv (0 : Int32), iv (3 : Int32), iv (0 : Int32), iv c0] [(.int (255 : Int32)), (.int c0)]))
  by_cases hc102 : (255 : Int32) < c0
  · -- yes
    refine Go.via (fun _ => XS.icmpNo X0.here hx rfl (hb hby d7_20) rfl (tlt hc102).2.2.2) ?_
    refine Go.via (fun _ => XS.iload X0.here hx rfl (hb hby d7_23) rfl) ?_
    exact own_retI X0 hx hlk Bd.returns (hb hby d7_25) (by show QD2_3 Z a1 kc1 b1 kc2 c0 c1 c2 h0 n0 _ s₁.heap _; rw [e0]; exact ⟨N0, (Keep.refl h0 [b1]), Or.inr (Or.inl ⟨rfl, hc102⟩)⟩) (by decide) (by decide)
  · -- no
    refine Go.via (fun _ => XS.icmpYes X0.here hx rfl (pc0 := 20) (pc' := 26) rfl (hb hby d7_20) rfl (flt hc102).2.2.2 (by decide) (by decide)) ?_
    refine Go.via (fun _ => XS.aloadN X0.here hx rfl (hb hby d7_26) rfl rfl) ?_
    refine Go.via (fun _ => XS.iloadN X0.here hx rfl (hb hby d7_27) rfl) ?_
    refine Go.via (fun _ => XS.iload X0.here hx rfl (hb hby d7_28) rfl) ?_
    show Go p e below _ (s₁.setTop (mkF m 30 #[rv a1, iv (0 : Int32), rv b1, iv (0 : Int32), iv (3 : Int32), iv (0 : Int32), iv c0] [(.int c0), (.int (0 : Int32)), (.ref b1)]))
    refine Go.via (fun _ => XS.i2b X0.here hx rfl (hb hby d7_30) rfl) ?_
    obtain ⟨cl103, Ar103, q103, S103, N103n, H103, G103⟩ := id V2
    have hin103 := inb_of (j := (0 : Int32)) S103 (by decide)
    obtain ⟨T103, h103, X103, e103, W103, st103⟩ := stB X0 hx hZ e0 Ar103 (j := (0 : Int32)) hin103 (g := (mkF m 31 #[rv a1, iv (0 : Int32), rv b1, iv (0 : Int32), iv (3 : Int32), iv (0 : Int32), iv c0] [(.int (c0.toInt8.toInt32)), (.int (0 : Int32)), (.ref b1)])) rfl rfl (hb hby d7_31)
    refine Go.via st103 ?_
    have V103 : Arv Z h103 b1 kc2 .byte (3 : Int32) [(.int (nar .byte (c0.toInt8.toInt32))), (.int (0 : Int32)), (.int (0 : Int32))] (.int (0 : Int32)) := Arv.set Ar103 q103 S103 N103n H103 G103 (fits_nar_byte _) W103 0 rfl (Nat.le_of_ble_eq_true rfl)
    have Zs103 : n0 ≤ h103.size := Nat.le_trans Z0 (Keep.of_wr W103).1
    have K103 : Keep h0 h103 [b1] := (Keep.refl h0 [b1]).wr W103 (Or.inl (List.mem_of_getElem? (i := 0) rfl))
    have N103 := Fr.snoc X103 N0 g1
    have fV_a1_103 := V1.other W103 ne1
    refine Go.via (fun _ => XS.iinc X103.here hx rfl (hb hby d7_32) rfl (l' := #[rv a1, iv (1 : Int32), rv b1, iv (0 : Int32), iv (3 : Int32), iv (0 : Int32), iv c0]) rfl) ?_
    refine Go.via (fun _ => XS.iinc X103.here hx rfl (hb hby d7_35) rfl (l' := #[rv a1, iv (1 : Int32), rv b1, iv (1 : Int32), iv (3 : Int32), iv (0 : Int32), iv c0]) rfl) ?_
    refine Go.via (fun _ => XS.iinc X103.here hx rfl (hb hby d7_38) rfl (l' := #[rv a1, iv (1 : Int32), rv b1, iv (1 : Int32), iv (3 : Int32), iv (1 : Int32), iv c0]) rfl) ?_
    refine Go.via (fun _ => XS.goto X103.here hx rfl (pc0 := 41) (pc' := 3) rfl (hb hby d7_41) (by decide) (by decide)) ?_
    show Go p e below _ (T103.setTop (mkF m 3 #[rv a1, iv (1 : Int32), rv b1, iv (1 : Int32), iv (3 : Int32), iv (1 : Int32), iv c0] []))
    refine Go.via (fun _ => XS.iload X103.here hx rfl (hb hby d7_3) rfl) ?_
    refine Go.via (fun _ => XS.iload X103.here hx rfl (hb hby d7_5) rfl) ?_
    refine Go.via (fun _ => XS.icmpNo X103.here hx rfl (hb hby d7_7) rfl (by decide)) ?_
    refine Go.via (fun _ => XS.aloadN X103.here hx rfl (hb hby d7_10) rfl rfl) ?_
    refine Go.via (fun _ => XS.iloadN X103.here hx rfl (hb hby d7_11) rfl) ?_
    obtain ⟨cl104, Ar104, q104, S104, N104n, H104, G104⟩ := id fV_a1_103
    have hin104 := inb_of (j := (1 : Int32)) S104 (by decide)
    have hat104 : cl104.slots[((1 : Int32) : Int32).toNatClampNeg]? = some (.int c1) := H104.at hin104 rfl
    refine Go.via (X103.caload hx (j := (1 : Int32)) (v := (.int c1)) (by rw [e103]; exact Ar104.1) (State.isArrayOf_alike hZ.alike Ar104.2.1) Ar104.2.2 hin104 hat104 (g := (mkF m 12 #[rv a1, iv (1 : Int32), rv b1, iv (1 : Int32), iv (3 : Int32), iv (1 : Int32), iv c0] [(.int (1 : Int32)), (.ref a1)])) rfl rfl (hb hby d7_12)) ?_
    show Go p e below _ (T103.setTop (mkF m 13 #[rv a1, iv (1 : Int32), rv b1, iv (1 : Int32), iv (3 : Int32), iv (1 : Int32), iv c0] [(.int c1)]))
    refine Go.via (fun _ => XS.istore X103.here hx rfl (hb hby d7_13) rfl (l' := #[rv a1, iv (1 : Int32), rv b1, iv (1 : Int32), iv (3 : Int32), iv (1 : Int32), iv c1]) rfl) ?_
    refine Go.via (fun _ => XS.iload X103.here hx rfl (hb hby d7_15) rfl) ?_
    refine Go.via (fun _ => XS.sipush X103.here hx rfl (hb hby d7_17)) ?_
    by_cases hc105 : (255 : Int32) < c1
    · -- yes
      refine Go.via (fun _ => XS.icmpNo X103.here hx rfl (hb hby d7_20) rfl (tlt hc105).2.2.2) ?_
      show Go p e below _ (T103.setTop (mkF m 23 #[rv a1, iv (1 : Int32), rv b1, iv (1 : Int32), iv (3 : Int32), iv (1 : Int32), iv c1] []))
      refine Go.via (fun _ => XS.iload X103.here hx rfl (hb hby d7_23) rfl) ?_
      exact own_retI X103 hx hlk Bd.returns (hb hby d7_25) (by show QD2_3 Z a1 kc1 b1 kc2 c0 c1 c2 h0 n0 _ T103.heap _; rw [e103]; exact ⟨N103, K103, Or.inr (Or.inr (Or.inl ⟨rfl, hc105⟩))⟩) (by decide) (by decide)
    · -- no
      refine Go.via (fun _ => XS.icmpYes X103.here hx rfl (pc0 := 20) (pc' := 26) rfl (hb hby d7_20) rfl (flt hc105).2.2.2 (by decide) (by decide)) ?_
      show Go p e below _ (T103.setTop (mkF m 26 #[rv a1, iv (1 : Int32), rv b1, iv (1 : Int32), iv (3 : Int32), iv (1 : Int32), iv c1] []))
      refine Go.via (fun _ => XS.aloadN X103.here hx rfl (hb hby d7_26) rfl rfl) ?_
      refine Go.via (fun _ => XS.iloadN X103.here hx rfl (hb hby d7_27) rfl) ?_
      refine Go.via (fun _ => XS.iload X103.here hx rfl (hb hby d7_28) rfl) ?_
      refine Go.via (fun _ => XS.i2b X103.here hx rfl (hb hby d7_30) rfl) ?_
      obtain ⟨cl106, Ar106, q106, S106, N106n, H106, G106⟩ := id V103
      have hin106 := inb_of (j := (1 : Int32)) S106 (by decide)
      obtain ⟨T106, h106, X106, e106, W106, st106⟩ := stB X103 hx hZ e103 Ar106 (j := (1 : Int32)) hin106 (g := (mkF m 31 #[rv a1, iv (1 : Int32), rv b1, iv (1 : Int32), iv (3 : Int32), iv (1 : Int32), iv c1] [(.int (c1.toInt8.toInt32)), (.int (1 : Int32)), (.ref b1)])) rfl rfl (hb hby d7_31)
      refine Go.via st106 ?_
      have V106 : Arv Z h106 b1 kc2 .byte (3 : Int32) [(.int (nar .byte (c0.toInt8.toInt32))), (.int (nar .byte (c1.toInt8.toInt32))), (.int (0 : Int32))] (.int (0 : Int32)) := Arv.set Ar106 q106 S106 N106n H106 G106 (fits_nar_byte _) W106 1 rfl (Nat.le_of_ble_eq_true rfl)
      have Zs106 : n0 ≤ h106.size := Nat.le_trans Zs103 (Keep.of_wr W106).1
      have K106 : Keep h0 h106 [b1] := K103.wr W106 (Or.inl (List.mem_of_getElem? (i := 0) rfl))
      have N106 := Fr.snoc X106 N103 g1
      have fV_a1_106 := fV_a1_103.other W106 ne1
      refine Go.via (fun _ => XS.iinc X106.here hx rfl (hb hby d7_32) rfl (l' := #[rv a1, iv (2 : Int32), rv b1, iv (1 : Int32), iv (3 : Int32), iv (1 : Int32), iv c1]) rfl) ?_
      show Go p e below _ (T106.setTop (mkF m 35 #[rv a1, iv (2 : Int32), rv b1, iv (1 : Int32), iv (3 : Int32), iv (1 : Int32), iv c1] []))
      refine Go.via (fun _ => XS.iinc X106.here hx rfl (hb hby d7_35) rfl (l' := #[rv a1, iv (2 : Int32), rv b1, iv (2 : Int32), iv (3 : Int32), iv (1 : Int32), iv c1]) rfl) ?_
      refine Go.via (fun _ => XS.iinc X106.here hx rfl (hb hby d7_38) rfl (l' := #[rv a1, iv (2 : Int32), rv b1, iv (2 : Int32), iv (3 : Int32), iv (2 : Int32), iv c1]) rfl) ?_
      refine Go.via (fun _ => XS.goto X106.here hx rfl (pc0 := 41) (pc' := 3) rfl (hb hby d7_41) (by decide) (by decide)) ?_
      refine Go.via (fun _ => XS.iload X106.here hx rfl (hb hby d7_3) rfl) ?_
      refine Go.via (fun _ => XS.iload X106.here hx rfl (hb hby d7_5) rfl) ?_
      refine Go.via (fun _ => XS.icmpNo X106.here hx rfl (hb hby d7_7) rfl (by decide)) ?_
      show Go p e below _ (T106.setTop (mkF m 10 #[rv a1, iv (2 : Int32), rv b1, iv (2 : Int32), iv (3 : Int32), iv (2 : Int32), iv c1] []))
      refine Go.via (fun _ => XS.aloadN X106.here hx rfl (hb hby d7_10) rfl rfl) ?_
      refine Go.via (fun _ => XS.iloadN X106.here hx rfl (hb hby d7_11) rfl) ?_
      obtain ⟨cl107, Ar107, q107, S107, N107n, H107, G107⟩ := id fV_a1_106
      have hin107 := inb_of (j := (2 : Int32)) S107 (by decide)
      have hat107 : cl107.slots[((2 : Int32) : Int32).toNatClampNeg]? = some (.int c2) := H107.at hin107 rfl
      refine Go.via (X106.caload hx (j := (2 : Int32)) (v := (.int c2)) (by rw [e106]; exact Ar107.1) (State.isArrayOf_alike hZ.alike Ar107.2.1) Ar107.2.2 hin107 hat107 (g := (mkF m 12 #[rv a1, iv (2 : Int32), rv b1, iv (2 : Int32), iv (3 : Int32), iv (2 : Int32), iv c1] [(.int (2 : Int32)), (.ref a1)])) rfl rfl (hb hby d7_12)) ?_
      refine Go.via (fun _ => XS.istore X106.here hx rfl (hb hby d7_13) rfl (l' := #[rv a1, iv (2 : Int32), rv b1, iv (2 : Int32), iv (3 : Int32), iv (2 : Int32), iv c2]) rfl) ?_
      refine Go.via (fun _ => XS.iload X106.here hx rfl (hb hby d7_15) rfl) ?_
      refine Go.via (fun _ => XS.sipush X106.here hx rfl (hb hby d7_17)) ?_
      show Go p e below _ (T106.setTop (mkF m 20 #[rv a1, iv (2 : Int32), rv b1, iv (2 : Int32), iv (3 : Int32), iv (2 : Int32), iv c2] [(.int (255 : Int32)), (.int c2)]))
      by_cases hc108 : (255 : Int32) < c2
      · -- yes
        refine Go.via (fun _ => XS.icmpNo X106.here hx rfl (hb hby d7_20) rfl (tlt hc108).2.2.2) ?_
        refine Go.via (fun _ => XS.iload X106.here hx rfl (hb hby d7_23) rfl) ?_
        exact own_retI X106 hx hlk Bd.returns (hb hby d7_25) (by show QD2_3 Z a1 kc1 b1 kc2 c0 c1 c2 h0 n0 _ T106.heap _; rw [e106]; exact ⟨N106, K106, Or.inr (Or.inr (Or.inr (⟨rfl, hc108⟩)))⟩) (by decide) (by decide)
      · -- no
        refine Go.via (fun _ => XS.icmpYes X106.here hx rfl (pc0 := 20) (pc' := 26) rfl (hb hby d7_20) rfl (flt hc108).2.2.2 (by decide) (by decide)) ?_
        refine Go.via (fun _ => XS.aloadN X106.here hx rfl (hb hby d7_26) rfl rfl) ?_
        refine Go.via (fun _ => XS.iloadN X106.here hx rfl (hb hby d7_27) rfl) ?_
        refine Go.via (fun _ => XS.iload X106.here hx rfl (hb hby d7_28) rfl) ?_
        show Go p e below _ (T106.setTop (mkF m 30 #[rv a1, iv (2 : Int32), rv b1, iv (2 : Int32), iv (3 : Int32), iv (2 : Int32), iv c2] [(.int c2), (.int (2 : Int32)), (.ref b1)]))
        refine Go.via (fun _ => XS.i2b X106.here hx rfl (hb hby d7_30) rfl) ?_
        obtain ⟨cl109, Ar109, q109, S109, N109n, H109, G109⟩ := id V106
        have hin109 := inb_of (j := (2 : Int32)) S109 (by decide)
        obtain ⟨T109, h109, X109, e109, W109, st109⟩ := stB X106 hx hZ e106 Ar109 (j := (2 : Int32)) hin109 (g := (mkF m 31 #[rv a1, iv (2 : Int32), rv b1, iv (2 : Int32), iv (3 : Int32), iv (2 : Int32), iv c2] [(.int (c2.toInt8.toInt32)), (.int (2 : Int32)), (.ref b1)])) rfl rfl (hb hby d7_31)
        refine Go.via st109 ?_
        have V109 : Arv Z h109 b1 kc2 .byte (3 : Int32) [(.int (nar .byte (c0.toInt8.toInt32))), (.int (nar .byte (c1.toInt8.toInt32))), (.int (nar .byte (c2.toInt8.toInt32)))] (.int (0 : Int32)) := Arv.set Ar109 q109 S109 N109n H109 G109 (fits_nar_byte _) W109 2 rfl (Nat.le_of_ble_eq_true rfl)
        have Zs109 : n0 ≤ h109.size := Nat.le_trans Zs106 (Keep.of_wr W109).1
        have K109 : Keep h0 h109 [b1] := K106.wr W109 (Or.inl (List.mem_of_getElem? (i := 0) rfl))
        have N109 := Fr.snoc X109 N106 g1
        have fV_a1_109 := fV_a1_106.other W109 ne1
        refine Go.via (fun _ => XS.iinc X109.here hx rfl (hb hby d7_32) rfl (l' := #[rv a1, iv (3 : Int32), rv b1, iv (2 : Int32), iv (3 : Int32), iv (2 : Int32), iv c2]) rfl) ?_
        refine Go.via (fun _ => XS.iinc X109.here hx rfl (hb hby d7_35) rfl (l' := #[rv a1, iv (3 : Int32), rv b1, iv (3 : Int32), iv (3 : Int32), iv (2 : Int32), iv c2]) rfl) ?_
        refine Go.via (fun _ => XS.iinc X109.here hx rfl (hb hby d7_38) rfl (l' := #[rv a1, iv (3 : Int32), rv b1, iv (3 : Int32), iv (3 : Int32), iv (3 : Int32), iv c2]) rfl) ?_
        refine Go.via (fun _ => XS.goto X109.here hx rfl (pc0 := 41) (pc' := 3) rfl (hb hby d7_41) (by decide) (by decide)) ?_
        show Go p e below _ (T109.setTop (mkF m 3 #[rv a1, iv (3 : Int32), rv b1, iv (3 : Int32), iv (3 : Int32), iv (3 : Int32), iv c2] []))
        refine Go.via (fun _ => XS.iload X109.here hx rfl (hb hby d7_3) rfl) ?_
        refine Go.via (fun _ => XS.iload X109.here hx rfl (hb hby d7_5) rfl) ?_
        refine Go.via (fun _ => XS.icmpYes X109.here hx rfl (pc0 := 7) (pc' := 44) rfl (hb hby d7_7) rfl (by decide) (by decide) (by decide)) ?_
        refine Go.via (fun _ => XS.iload X109.here hx rfl (hb hby d7_44) rfl) ?_
        exact own_retI X109 hx hlk Bd.returns (hb hby d7_46) (by show QD2_3 Z a1 kc1 b1 kc2 c0 c1 c2 h0 n0 _ T109.heap _; rw [e109]; exact ⟨N109, K109, Or.inl ⟨rfl, V109, hc102, hc105, hc108⟩⟩) (by decide) (by decide)
theorem ef_rmNBL_3 (m : MethodId)  : entryFrame m #[(.int (3 : Int32))] 1 = mkF m 0 #[iv (3 : Int32)] [] := by first | (simp [entryFrame, mkF, argsToLocals, Value.category]; done) | rfl
def QNBL_3 (Z : State)  (h0 : Heap) (n0 : Nat) (v : Option Value) (h : Heap) (L : List Loc) : Prop := v = some (.int (6 : Int32)) ∧ Fr n0 L ∧ h = h0
set_option maxRecDepth 65536 in
set_option maxHeartbeats 40000000 in
theorem rmNBL_3 (l : Launch) (Z : State) (a0 : Array Value) (hw : TW Z a0) (ws : List Jvm.Cond)  (h0 : Heap) (n0 : Nat) (Z0 : n0 ≤ h0.size) :
    MF l Z (⟨"java/lang/StringUTF16", "newBytesLength", "(I)I"⟩ : MethodName) jdk_52_method_3_code 1 (some .int) ws (rmm 0 0 0 0) #[(.int (3 : Int32))] h0 (QNBL_3 Z  h0 n0) := by
  refine MetFree.of_bodySF (plainFor_of_name pn_java_lang_StringUTF16) hisR ?_
  intro p e s m args below meth c s₁ Bd hml0 hP hK
  obtain ⟨rfl, hZ, hh⟩ := hP
  have hx := Bd.exec
  have hby := Bd.bytes
  have hlk : meth.locks = false := Bd.notSynchronized
  have hml : c.maxLocals = 1 := hml0
  have hown : s.vm.findClass "java/lang/StringUTF16" = some m.cls := findClass_of_methodNamed Bd.named
  have hnm := (name_of_methodNamed Bd.named Bd.method).1
  have X0 : Stand p l e (rmm 0 0 0 0) s m #[(.int (3 : Int32))] below meth c s₁ [] 0 0 := Stand.of_body Bd
  have e0 : s₁.heap = h0 := by rw [← hh, Bd.state]; rfl
  have N0 := Fr.nil n0
  show Go p e below (FinE s below (QNBL_3 Z  h0 n0) (rmm 0 0 0 0).cells (rmm 0 0 0 0).slots) (s₁.setTop (entryFrame m #[(.int (3 : Int32))] 1))
  refine Go.via (fun t k => castTop (ef_rmNBL_3 m ) k) ?_
  refine Go.via (fun _ => XS.iloadN X0.here hx rfl (hb hby d21_0) rfl) ?_
  refine Go.via (fun _ => XS.ifYes X0.here hx rfl (pc0 := 1) (pc' := 12) rfl (hb hby d21_1) rfl (by decide) (by decide) (by decide)) ?_
  refine Go.via (fun _ => XS.iloadN X0.here hx rfl (hb hby d21_12) rfl) ?_
  refine Go.via (X0.ldcInt hx hown (mvT hZ (ow hw 94 rfl)) (g := (mkF m 13 #[iv (3 : Int32)] [(.int (3 : Int32))])) rfl (hb hby d21_13)) ?_
  refine Go.via (fun _ => XS.icmpYes X0.here hx rfl (pc0 := 15) (pc' := 55) rfl (hb hby d21_15) rfl (by decide) (by decide) (by decide)) ?_
  show Go p e below _ (s₁.setTop (mkF m 55 #[iv (3 : Int32)] []))
  refine Go.via (fun _ => XS.iloadN X0.here hx rfl (hb hby d21_55) rfl) ?_
  refine Go.via (fun _ => XS.iconst X0.here hx rfl (hb hby d21_56)) ?_
  refine Go.via (fun _ => XS.ishl X0.here hx rfl (hb hby d21_57) rfl) ?_
  exact own_retI X0 hx hlk Bd.returns (hb hby d21_58) (by show QNBL_3 Z  h0 n0 _ s₁.heap _; rw [e0]; exact ⟨rfl, N0, rfl⟩) (by decide) (by decide)
theorem ef_rmNBF_3 (m : MethodId)  : entryFrame m #[(.int (3 : Int32))] 1 = mkF m 0 #[iv (3 : Int32)] [] := by first | (simp [entryFrame, mkF, argsToLocals, Value.category]; done) | rfl
def QNBF_3 (Z : State)  (h0 : Heap) (n0 : Nat) (v : Option Value) (h : Heap) (L : List Loc) : Prop := ∃ (t : Addr) (kb : ClassId), v = some (.ref t) ∧ Fr n0 L ∧ Keep h0 h [] ∧ h0.size ≤ t ∧ Arv Z h t kb .byte (6 : Int32) [(.int (0 : Int32)), (.int (0 : Int32)), (.int (0 : Int32)), (.int (0 : Int32)), (.int (0 : Int32)), (.int (0 : Int32))] (.int (0 : Int32))
set_option maxRecDepth 65536 in
set_option maxHeartbeats 40000000 in
theorem rmNBF_3 (l : Launch) (Z : State) (a0 : Array Value) (hw : TW Z a0) (ws : List Jvm.Cond)  (h0 : Heap) (n0 : Nat) (Z0 : n0 ≤ h0.size) :
    MF l Z (⟨"java/lang/StringUTF16", "newBytesFor", "(I)[B"⟩ : MethodName) jdk_52_method_2_code 1 (some (.array .byte)) ws (rmm 1 1 6 12) #[(.int (3 : Int32))] h0 (QNBF_3 Z  h0 n0) := by
  refine MetFree.of_bodySF (plainFor_of_name pn_java_lang_StringUTF16) hisR ?_
  intro p e s m args below meth c s₁ Bd hml0 hP hK
  obtain ⟨rfl, hZ, hh⟩ := hP
  have hx := Bd.exec
  have hby := Bd.bytes
  have hlk : meth.locks = false := Bd.notSynchronized
  have hml : c.maxLocals = 1 := hml0
  have hown : s.vm.findClass "java/lang/StringUTF16" = some m.cls := findClass_of_methodNamed Bd.named
  have hnm := (name_of_methodNamed Bd.named Bd.method).1
  have X0 : Stand p l e (rmm 1 1 6 12) s m #[(.int (3 : Int32))] below meth c s₁ [] 0 0 := Stand.of_body Bd
  have e0 : s₁.heap = h0 := by rw [← hh, Bd.state]; rfl
  have N0 := Fr.nil n0
  show Go p e below (FinE s below (QNBF_3 Z  h0 n0) (rmm 1 1 6 12).cells (rmm 1 1 6 12).slots) (s₁.setTop (entryFrame m #[(.int (3 : Int32))] 1))
  refine Go.via (fun t k => castTop (ef_rmNBF_3 m ) k) ?_
  refine Go.via (fun _ => XS.iloadN X0.here hx rfl (hb hby d20_0) rfl) ?_
  obtain ⟨_, _, ⟨T101, L101, k101, n101⟩, -, X101, ⟨Lc101, hQ101, l101, y101, z101⟩, st101⟩ := Jvm.LawKit.callS X0 hx (y := (⟨"java/lang/StringUTF16", "newBytesLength", "(I)I"⟩ : MethodName)) hown (mvT hZ (ow hw 91 rfl)) (mvT hZ (ow hw 92 rfl)) (mvT hZ (ow hw 35 rfl)) (mvT hZ (ow hw 93 rfl)) (by decide) (backOf (W := 0) (rmNBL_3 l Z a0 hw [] h0 n0 Z0) hZ (ow hw 93 rfl) (ow hw 35 rfl) (by decide) (by decide)) (g := (mkF m 1 #[iv (3 : Int32)] [(.int (3 : Int32))])) rfl (by rw [hml]; rfl) (argsL := [(.int (3 : Int32))]) (rest := []) (lenOf pd_11 rfl) rfl (by show 2 * 0 + _ ≤ _; exact Nat.le_of_eq rfl) (hb hby d20_1) (fun _ _ => ⟨rfl, e0, (by decide : 0 + 0 ≤ _), (by decide : 0 + 0 ≤ _)⟩)
  dsimp only [Pt.U, Pt.locs, Pt.cells, Pt.slots] at X101 l101 y101 z101 st101 hQ101
  rw [l101, y101, z101] at X101
  replace X101 : Stand p l e _ _ m _ below meth c T101 _ 0 0 := X101
  obtain ⟨rfl, N101q, e101q⟩ := hQ101
  have N101 := Fr.app N0 N101q
  refine Go.via st101 ?_
  obtain ⟨T102, h102, k102, X102, e102, E102, A102, st102⟩ := newP X101 hx hZ (ow hw 16 rfl) e101q (g := (mkF m 4 #[iv (3 : Int32)] [(.int (6 : Int32))])) rfl (hb hby d20_4) rfl (by decide) (cap := 6) (by decide) (by decide) (by decide) (by decide)
  obtain ⟨b102, g102⟩ : ∃ z, z = h0.size := ⟨_, rfl⟩
  rw [← g102] at A102 st102
  have g_b102 : n0 ≤ b102 := Nat.le_trans Z0 (Nat.le_of_eq g102.symm)
  have sz_b102 : h0.size ≤ b102 := Nat.le_trans (Keep.refl h0 []).1 (Nat.le_of_eq g102.symm)
  refine Go.via st102 ?_
  have Zs102 : n0 ≤ h102.size := Nat.le_trans Z0 E102.1
  have K102 : Keep h0 h102 [] := (Keep.refl h0 []).ext E102
  have V_b102 : Arv Z h102 b102 k102 .byte (6 : Int32) [(.int (0 : Int32)), (.int (0 : Int32)), (.int (0 : Int32)), (.int (0 : Int32)), (.int (0 : Int32)), (.int (0 : Int32))] (.int (0 : Int32)) := (Arv.new A102 (by decide)).pad (pad_rep [] (.int (0 : Int32)) 6)
  exact own_retA X102 hx hlk Bd.returns rfl rfl (hb hby d20_6) (by show QNBF_3 Z  h0 n0 _ T102.heap _; rw [e102]; exact ⟨b102, k102, rfl, N101, K102, sz_b102, V_b102⟩) (by decide) (by decide)
theorem ef_rmPut_3_0 (m : MethodId) (x0 : Addr) (x2 : Int32) : entryFrame m #[(.ref x0), (.int (0 : Int32)), (.int x2)] 3 = mkF m 0 #[rv x0, iv (0 : Int32), iv x2] [] := by first | (simp [entryFrame, mkF, argsToLocals, Value.category]; done) | rfl
def QPut_3_0 (Z : State) (b1 : Addr) (kc2 : ClassId) (ch : Int32) (x0 : Value) (x1 : Value) (x2 : Value) (x3 : Value) (x4 : Value) (x5 : Value) (ccs : Int32) (vF : Value) (h0 : Heap) (n0 : Nat) (v : Option Value) (h : Heap) (L : List Loc) : Prop := v = none ∧ Fr n0 L ∧ Keep h0 h [b1] ∧ Arv Z h b1 kc2 .byte (6 : Int32) [(.int (nar .byte ((ch >>> ((0 : Int32) &&& 31)).toInt8.toInt32))), (.int (nar .byte ((ch >>> ((8 : Int32) &&& 31)).toInt8.toInt32))), x2, x3, x4, x5] (.int (0 : Int32))
set_option maxRecDepth 65536 in
set_option maxHeartbeats 40000000 in
theorem rmPut_3_0 (l : Launch) (Z : State) (a0 : Array Value) (hw : TW Z a0) (ws : List Jvm.Cond) (b1 : Addr) (kc2 : ClassId) (ch : Int32) (x0 : Value) (x1 : Value) (x2 : Value) (x3 : Value) (x4 : Value) (x5 : Value) (ccs : Int32) (vF : Value) (h0 : Heap) (n0 : Nat) (Z0 : n0 ≤ h0.size) (V2 : Arv Z h0 b1 kc2 .byte (6 : Int32) [x0, x1, x2, x3, x4, x5] (.int (0 : Int32))) (g1 : n0 ≤ b1) (O0 : Old Z n0 h0) (G : SG Z ccs vF) :
    MF l Z (⟨"java/lang/StringUTF16", "putChar", "([BII)V"⟩ : MethodName) jdk_52_method_4_code 3 none ws (rmm 0 0 0 0) #[(.ref b1), (.int (0 : Int32)), (.int ch)] h0 (QPut_3_0 Z b1 kc2 ch x0 x1 x2 x3 x4 x5 ccs vF h0 n0) := by
  refine MetFree.of_bodySF (plainFor_of_name pn_java_lang_StringUTF16) hisR ?_
  intro p e s m args below meth c s₁ Bd hml0 hP hK
  obtain ⟨rfl, hZ, hh⟩ := hP
  have hx := Bd.exec
  have hby := Bd.bytes
  have hlk : meth.locks = false := Bd.notSynchronized
  have hml : c.maxLocals = 3 := hml0
  have hown : s.vm.findClass "java/lang/StringUTF16" = some m.cls := findClass_of_methodNamed Bd.named
  have hnm := (name_of_methodNamed Bd.named Bd.method).1
  have rF := G.2.2.2.2.2.2
  have hcs := G.2.1
  have X0 : Stand p l e (rmm 0 0 0 0) s m #[(.ref b1), (.int (0 : Int32)), (.int ch)] below meth c s₁ [] 0 0 := Stand.of_body Bd
  have e0 : s₁.heap = h0 := by rw [← hh, Bd.state]; rfl
  have N0 := Fr.nil n0
  show Go p e below (FinE s below (QPut_3_0 Z b1 kc2 ch x0 x1 x2 x3 x4 x5 ccs vF h0 n0) (rmm 0 0 0 0).cells (rmm 0 0 0 0).slots) (s₁.setTop (entryFrame m #[(.ref b1), (.int (0 : Int32)), (.int ch)] 3))
  refine Go.via (fun t k => castTop (ef_rmPut_3_0 m b1 ch) k) ?_
  obtain ⟨T101, X101, e101, st101⟩ := getS2 X0 hx hZ hown (host := "") (Or.inl (ow hw 98 rfl)) Via.refl e0 (G.2.2.1.ext O0.2) (g := (mkF m 0 #[rv b1, iv (0 : Int32), iv ch] [])) rfl (hb hby d22_0)
  refine Go.via st101 ?_
  refine Go.via (fun _ => XS.ifYes X101.here hx rfl (pc0 := 3) (pc' := 28) rfl (hb hby d22_3) rfl (by decide) (by decide) (by decide)) ?_
  refine Go.via (fun _ => XS.iloadN X101.here hx rfl (hb hby d22_28) rfl) ?_
  refine Go.via (fun _ => XS.iconst X101.here hx rfl (hb hby d22_29)) ?_
  refine Go.via (fun _ => XS.ishl X101.here hx rfl (hb hby d22_30) rfl) ?_
  show Go p e below _ (T101.setTop (mkF m 31 #[rv b1, iv (0 : Int32), iv ch] [(.int (0 : Int32))]))
  refine Go.via (fun _ => XS.istoreN X101.here hx rfl (hb hby d22_31) rfl (l' := #[rv b1, iv (0 : Int32), iv ch]) rfl) ?_
  refine Go.via (fun _ => XS.aloadN X101.here hx rfl (hb hby d22_32) rfl rfl) ?_
  refine Go.via (fun _ => XS.iloadN X101.here hx rfl (hb hby d22_33) rfl) ?_
  refine Go.via (fun _ => XS.iinc X101.here hx rfl (hb hby d22_34) rfl (l' := #[rv b1, iv (1 : Int32), iv ch]) rfl) ?_
  refine Go.via (fun _ => XS.iloadN X101.here hx rfl (hb hby d22_37) rfl) ?_
  obtain ⟨T102, X102, e102, st102⟩ := getS2 X101 hx hZ hown (host := "") (Or.inl (ow hw 99 rfl)) Via.refl e101 (G.2.2.2.1.ext O0.2) (g := (mkF m 38 #[rv b1, iv (1 : Int32), iv ch] [(.int ch), (.int (0 : Int32)), (.ref b1)])) rfl (hb hby d22_38)
  refine Go.via st102 ?_
  show Go p e below _ (T102.setTop (mkF m 41 #[rv b1, iv (1 : Int32), iv ch] [(.int (0 : Int32)), (.int ch), (.int (0 : Int32)), (.ref b1)]))
  refine Go.via (fun _ => XS.ishr X102.here hx rfl (hb hby d22_41) rfl) ?_
  refine Go.via (fun _ => XS.i2b X102.here hx rfl (hb hby d22_42) rfl) ?_
  obtain ⟨cl103, Ar103, q103, S103, N103n, H103, G103⟩ := id V2
  have hin103 := inb_of (j := (0 : Int32)) S103 (by decide)
  obtain ⟨T103, h103, X103, e103, W103, st103⟩ := stB X102 hx hZ e102 Ar103 (j := (0 : Int32)) hin103 (g := (mkF m 43 #[rv b1, iv (1 : Int32), iv ch] [(.int ((ch >>> ((0 : Int32) &&& 31)).toInt8.toInt32)), (.int (0 : Int32)), (.ref b1)])) rfl rfl (hb hby d22_43)
  refine Go.via st103 ?_
  have V103 : Arv Z h103 b1 kc2 .byte (6 : Int32) [(.int (nar .byte ((ch >>> ((0 : Int32) &&& 31)).toInt8.toInt32))), x1, x2, x3, x4, x5] (.int (0 : Int32)) := Arv.set Ar103 q103 S103 N103n H103 G103 (fits_nar_byte _) W103 0 rfl (Nat.le_of_ble_eq_true rfl)
  have Zs103 : n0 ≤ h103.size := Nat.le_trans Z0 (Keep.of_wr W103).1
  have O103 : Old Z n0 h103 := O0.wr W103 g1
  have K103 : Keep h0 h103 [b1] := (Keep.refl h0 [b1]).wr W103 (Or.inl (List.mem_of_getElem? (i := 0) rfl))
  have N103 := Fr.snoc X103 N0 g1
  refine Go.via (fun _ => XS.aloadN X103.here hx rfl (hb hby d22_44) rfl rfl) ?_
  refine Go.via (fun _ => XS.iloadN X103.here hx rfl (hb hby d22_45) rfl) ?_
  refine Go.via (fun _ => XS.iloadN X103.here hx rfl (hb hby d22_46) rfl) ?_
  show Go p e below _ (T103.setTop (mkF m 47 #[rv b1, iv (1 : Int32), iv ch] [(.int ch), (.int (1 : Int32)), (.ref b1)]))
  obtain ⟨T104, X104, e104, st104⟩ := getS2 X103 hx hZ hown (host := "") (Or.inl (ow hw 100 rfl)) Via.refl e103 (G.2.2.2.2.1.ext O103.2) (g := (mkF m 47 #[rv b1, iv (1 : Int32), iv ch] [(.int ch), (.int (1 : Int32)), (.ref b1)])) rfl (hb hby d22_47)
  refine Go.via st104 ?_
  refine Go.via (fun _ => XS.ishr X104.here hx rfl (hb hby d22_50) rfl) ?_
  refine Go.via (fun _ => XS.i2b X104.here hx rfl (hb hby d22_51) rfl) ?_
  obtain ⟨cl105, Ar105, q105, S105, N105n, H105, G105⟩ := id V103
  have hin105 := inb_of (j := (1 : Int32)) S105 (by decide)
  obtain ⟨T105, h105, X105, e105, W105, st105⟩ := stB X104 hx hZ e104 Ar105 (j := (1 : Int32)) hin105 (g := (mkF m 52 #[rv b1, iv (1 : Int32), iv ch] [(.int ((ch >>> ((8 : Int32) &&& 31)).toInt8.toInt32)), (.int (1 : Int32)), (.ref b1)])) rfl rfl (hb hby d22_52)
  refine Go.via st105 ?_
  have V105 : Arv Z h105 b1 kc2 .byte (6 : Int32) [(.int (nar .byte ((ch >>> ((0 : Int32) &&& 31)).toInt8.toInt32))), (.int (nar .byte ((ch >>> ((8 : Int32) &&& 31)).toInt8.toInt32))), x2, x3, x4, x5] (.int (0 : Int32)) := Arv.set Ar105 q105 S105 N105n H105 G105 (fits_nar_byte _) W105 1 rfl (Nat.le_of_ble_eq_true rfl)
  have Zs105 : n0 ≤ h105.size := Nat.le_trans Zs103 (Keep.of_wr W105).1
  have O105 : Old Z n0 h105 := O103.wr W105 g1
  have K105 : Keep h0 h105 [b1] := K103.wr W105 (Or.inl (List.mem_of_getElem? (i := 0) rfl))
  have N105 := Fr.snoc X105 N103 g1
  exact own_retV X105 hx hlk Bd.returns (hb hby d22_53) (by show QPut_3_0 Z b1 kc2 ch x0 x1 x2 x3 x4 x5 ccs vF h0 n0 _ T105.heap _; rw [e105]; exact ⟨rfl, N105, K105, V105⟩) (by decide) (by decide)
theorem ef_rmPut_3_1 (m : MethodId) (x0 : Addr) (x2 : Int32) : entryFrame m #[(.ref x0), (.int (1 : Int32)), (.int x2)] 3 = mkF m 0 #[rv x0, iv (1 : Int32), iv x2] [] := by first | (simp [entryFrame, mkF, argsToLocals, Value.category]; done) | rfl
def QPut_3_1 (Z : State) (b1 : Addr) (kc2 : ClassId) (ch : Int32) (x0 : Value) (x1 : Value) (x2 : Value) (x3 : Value) (x4 : Value) (x5 : Value) (ccs : Int32) (vF : Value) (h0 : Heap) (n0 : Nat) (v : Option Value) (h : Heap) (L : List Loc) : Prop := v = none ∧ Fr n0 L ∧ Keep h0 h [b1] ∧ Arv Z h b1 kc2 .byte (6 : Int32) [x0, x1, (.int (nar .byte ((ch >>> ((0 : Int32) &&& 31)).toInt8.toInt32))), (.int (nar .byte ((ch >>> ((8 : Int32) &&& 31)).toInt8.toInt32))), x4, x5] (.int (0 : Int32))
set_option maxRecDepth 65536 in
set_option maxHeartbeats 40000000 in
theorem rmPut_3_1 (l : Launch) (Z : State) (a0 : Array Value) (hw : TW Z a0) (ws : List Jvm.Cond) (b1 : Addr) (kc2 : ClassId) (ch : Int32) (x0 : Value) (x1 : Value) (x2 : Value) (x3 : Value) (x4 : Value) (x5 : Value) (ccs : Int32) (vF : Value) (h0 : Heap) (n0 : Nat) (Z0 : n0 ≤ h0.size) (V2 : Arv Z h0 b1 kc2 .byte (6 : Int32) [x0, x1, x2, x3, x4, x5] (.int (0 : Int32))) (g1 : n0 ≤ b1) (O0 : Old Z n0 h0) (G : SG Z ccs vF) :
    MF l Z (⟨"java/lang/StringUTF16", "putChar", "([BII)V"⟩ : MethodName) jdk_52_method_4_code 3 none ws (rmm 0 0 0 0) #[(.ref b1), (.int (1 : Int32)), (.int ch)] h0 (QPut_3_1 Z b1 kc2 ch x0 x1 x2 x3 x4 x5 ccs vF h0 n0) := by
  refine MetFree.of_bodySF (plainFor_of_name pn_java_lang_StringUTF16) hisR ?_
  intro p e s m args below meth c s₁ Bd hml0 hP hK
  obtain ⟨rfl, hZ, hh⟩ := hP
  have hx := Bd.exec
  have hby := Bd.bytes
  have hlk : meth.locks = false := Bd.notSynchronized
  have hml : c.maxLocals = 3 := hml0
  have hown : s.vm.findClass "java/lang/StringUTF16" = some m.cls := findClass_of_methodNamed Bd.named
  have hnm := (name_of_methodNamed Bd.named Bd.method).1
  have rF := G.2.2.2.2.2.2
  have hcs := G.2.1
  have X0 : Stand p l e (rmm 0 0 0 0) s m #[(.ref b1), (.int (1 : Int32)), (.int ch)] below meth c s₁ [] 0 0 := Stand.of_body Bd
  have e0 : s₁.heap = h0 := by rw [← hh, Bd.state]; rfl
  have N0 := Fr.nil n0
  show Go p e below (FinE s below (QPut_3_1 Z b1 kc2 ch x0 x1 x2 x3 x4 x5 ccs vF h0 n0) (rmm 0 0 0 0).cells (rmm 0 0 0 0).slots) (s₁.setTop (entryFrame m #[(.ref b1), (.int (1 : Int32)), (.int ch)] 3))
  refine Go.via (fun t k => castTop (ef_rmPut_3_1 m b1 ch) k) ?_
  obtain ⟨T101, X101, e101, st101⟩ := getS2 X0 hx hZ hown (host := "") (Or.inl (ow hw 98 rfl)) Via.refl e0 (G.2.2.1.ext O0.2) (g := (mkF m 0 #[rv b1, iv (1 : Int32), iv ch] [])) rfl (hb hby d22_0)
  refine Go.via st101 ?_
  refine Go.via (fun _ => XS.ifYes X101.here hx rfl (pc0 := 3) (pc' := 28) rfl (hb hby d22_3) rfl (by decide) (by decide) (by decide)) ?_
  refine Go.via (fun _ => XS.iloadN X101.here hx rfl (hb hby d22_28) rfl) ?_
  refine Go.via (fun _ => XS.iconst X101.here hx rfl (hb hby d22_29)) ?_
  refine Go.via (fun _ => XS.ishl X101.here hx rfl (hb hby d22_30) rfl) ?_
  show Go p e below _ (T101.setTop (mkF m 31 #[rv b1, iv (1 : Int32), iv ch] [(.int (2 : Int32))]))
  refine Go.via (fun _ => XS.istoreN X101.here hx rfl (hb hby d22_31) rfl (l' := #[rv b1, iv (2 : Int32), iv ch]) rfl) ?_
  refine Go.via (fun _ => XS.aloadN X101.here hx rfl (hb hby d22_32) rfl rfl) ?_
  refine Go.via (fun _ => XS.iloadN X101.here hx rfl (hb hby d22_33) rfl) ?_
  refine Go.via (fun _ => XS.iinc X101.here hx rfl (hb hby d22_34) rfl (l' := #[rv b1, iv (3 : Int32), iv ch]) rfl) ?_
  refine Go.via (fun _ => XS.iloadN X101.here hx rfl (hb hby d22_37) rfl) ?_
  obtain ⟨T102, X102, e102, st102⟩ := getS2 X101 hx hZ hown (host := "") (Or.inl (ow hw 99 rfl)) Via.refl e101 (G.2.2.2.1.ext O0.2) (g := (mkF m 38 #[rv b1, iv (3 : Int32), iv ch] [(.int ch), (.int (2 : Int32)), (.ref b1)])) rfl (hb hby d22_38)
  refine Go.via st102 ?_
  show Go p e below _ (T102.setTop (mkF m 41 #[rv b1, iv (3 : Int32), iv ch] [(.int (0 : Int32)), (.int ch), (.int (2 : Int32)), (.ref b1)]))
  refine Go.via (fun _ => XS.ishr X102.here hx rfl (hb hby d22_41) rfl) ?_
  refine Go.via (fun _ => XS.i2b X102.here hx rfl (hb hby d22_42) rfl) ?_
  obtain ⟨cl103, Ar103, q103, S103, N103n, H103, G103⟩ := id V2
  have hin103 := inb_of (j := (2 : Int32)) S103 (by decide)
  obtain ⟨T103, h103, X103, e103, W103, st103⟩ := stB X102 hx hZ e102 Ar103 (j := (2 : Int32)) hin103 (g := (mkF m 43 #[rv b1, iv (3 : Int32), iv ch] [(.int ((ch >>> ((0 : Int32) &&& 31)).toInt8.toInt32)), (.int (2 : Int32)), (.ref b1)])) rfl rfl (hb hby d22_43)
  refine Go.via st103 ?_
  have V103 : Arv Z h103 b1 kc2 .byte (6 : Int32) [x0, x1, (.int (nar .byte ((ch >>> ((0 : Int32) &&& 31)).toInt8.toInt32))), x3, x4, x5] (.int (0 : Int32)) := Arv.set Ar103 q103 S103 N103n H103 G103 (fits_nar_byte _) W103 2 rfl (Nat.le_of_ble_eq_true rfl)
  have Zs103 : n0 ≤ h103.size := Nat.le_trans Z0 (Keep.of_wr W103).1
  have O103 : Old Z n0 h103 := O0.wr W103 g1
  have K103 : Keep h0 h103 [b1] := (Keep.refl h0 [b1]).wr W103 (Or.inl (List.mem_of_getElem? (i := 0) rfl))
  have N103 := Fr.snoc X103 N0 g1
  refine Go.via (fun _ => XS.aloadN X103.here hx rfl (hb hby d22_44) rfl rfl) ?_
  refine Go.via (fun _ => XS.iloadN X103.here hx rfl (hb hby d22_45) rfl) ?_
  refine Go.via (fun _ => XS.iloadN X103.here hx rfl (hb hby d22_46) rfl) ?_
  show Go p e below _ (T103.setTop (mkF m 47 #[rv b1, iv (3 : Int32), iv ch] [(.int ch), (.int (3 : Int32)), (.ref b1)]))
  obtain ⟨T104, X104, e104, st104⟩ := getS2 X103 hx hZ hown (host := "") (Or.inl (ow hw 100 rfl)) Via.refl e103 (G.2.2.2.2.1.ext O103.2) (g := (mkF m 47 #[rv b1, iv (3 : Int32), iv ch] [(.int ch), (.int (3 : Int32)), (.ref b1)])) rfl (hb hby d22_47)
  refine Go.via st104 ?_
  refine Go.via (fun _ => XS.ishr X104.here hx rfl (hb hby d22_50) rfl) ?_
  refine Go.via (fun _ => XS.i2b X104.here hx rfl (hb hby d22_51) rfl) ?_
  obtain ⟨cl105, Ar105, q105, S105, N105n, H105, G105⟩ := id V103
  have hin105 := inb_of (j := (3 : Int32)) S105 (by decide)
  obtain ⟨T105, h105, X105, e105, W105, st105⟩ := stB X104 hx hZ e104 Ar105 (j := (3 : Int32)) hin105 (g := (mkF m 52 #[rv b1, iv (3 : Int32), iv ch] [(.int ((ch >>> ((8 : Int32) &&& 31)).toInt8.toInt32)), (.int (3 : Int32)), (.ref b1)])) rfl rfl (hb hby d22_52)
  refine Go.via st105 ?_
  have V105 : Arv Z h105 b1 kc2 .byte (6 : Int32) [x0, x1, (.int (nar .byte ((ch >>> ((0 : Int32) &&& 31)).toInt8.toInt32))), (.int (nar .byte ((ch >>> ((8 : Int32) &&& 31)).toInt8.toInt32))), x4, x5] (.int (0 : Int32)) := Arv.set Ar105 q105 S105 N105n H105 G105 (fits_nar_byte _) W105 3 rfl (Nat.le_of_ble_eq_true rfl)
  have Zs105 : n0 ≤ h105.size := Nat.le_trans Zs103 (Keep.of_wr W105).1
  have O105 : Old Z n0 h105 := O103.wr W105 g1
  have K105 : Keep h0 h105 [b1] := K103.wr W105 (Or.inl (List.mem_of_getElem? (i := 0) rfl))
  have N105 := Fr.snoc X105 N103 g1
  exact own_retV X105 hx hlk Bd.returns (hb hby d22_53) (by show QPut_3_1 Z b1 kc2 ch x0 x1 x2 x3 x4 x5 ccs vF h0 n0 _ T105.heap _; rw [e105]; exact ⟨rfl, N105, K105, V105⟩) (by decide) (by decide)
theorem ef_rmPut_3_2 (m : MethodId) (x0 : Addr) (x2 : Int32) : entryFrame m #[(.ref x0), (.int (2 : Int32)), (.int x2)] 3 = mkF m 0 #[rv x0, iv (2 : Int32), iv x2] [] := by first | (simp [entryFrame, mkF, argsToLocals, Value.category]; done) | rfl
def QPut_3_2 (Z : State) (b1 : Addr) (kc2 : ClassId) (ch : Int32) (x0 : Value) (x1 : Value) (x2 : Value) (x3 : Value) (x4 : Value) (x5 : Value) (ccs : Int32) (vF : Value) (h0 : Heap) (n0 : Nat) (v : Option Value) (h : Heap) (L : List Loc) : Prop := v = none ∧ Fr n0 L ∧ Keep h0 h [b1] ∧ Arv Z h b1 kc2 .byte (6 : Int32) [x0, x1, x2, x3, (.int (nar .byte ((ch >>> ((0 : Int32) &&& 31)).toInt8.toInt32))), (.int (nar .byte ((ch >>> ((8 : Int32) &&& 31)).toInt8.toInt32)))] (.int (0 : Int32))
set_option maxRecDepth 65536 in
set_option maxHeartbeats 40000000 in
theorem rmPut_3_2 (l : Launch) (Z : State) (a0 : Array Value) (hw : TW Z a0) (ws : List Jvm.Cond) (b1 : Addr) (kc2 : ClassId) (ch : Int32) (x0 : Value) (x1 : Value) (x2 : Value) (x3 : Value) (x4 : Value) (x5 : Value) (ccs : Int32) (vF : Value) (h0 : Heap) (n0 : Nat) (Z0 : n0 ≤ h0.size) (V2 : Arv Z h0 b1 kc2 .byte (6 : Int32) [x0, x1, x2, x3, x4, x5] (.int (0 : Int32))) (g1 : n0 ≤ b1) (O0 : Old Z n0 h0) (G : SG Z ccs vF) :
    MF l Z (⟨"java/lang/StringUTF16", "putChar", "([BII)V"⟩ : MethodName) jdk_52_method_4_code 3 none ws (rmm 0 0 0 0) #[(.ref b1), (.int (2 : Int32)), (.int ch)] h0 (QPut_3_2 Z b1 kc2 ch x0 x1 x2 x3 x4 x5 ccs vF h0 n0) := by
  refine MetFree.of_bodySF (plainFor_of_name pn_java_lang_StringUTF16) hisR ?_
  intro p e s m args below meth c s₁ Bd hml0 hP hK
  obtain ⟨rfl, hZ, hh⟩ := hP
  have hx := Bd.exec
  have hby := Bd.bytes
  have hlk : meth.locks = false := Bd.notSynchronized
  have hml : c.maxLocals = 3 := hml0
  have hown : s.vm.findClass "java/lang/StringUTF16" = some m.cls := findClass_of_methodNamed Bd.named
  have hnm := (name_of_methodNamed Bd.named Bd.method).1
  have rF := G.2.2.2.2.2.2
  have hcs := G.2.1
  have X0 : Stand p l e (rmm 0 0 0 0) s m #[(.ref b1), (.int (2 : Int32)), (.int ch)] below meth c s₁ [] 0 0 := Stand.of_body Bd
  have e0 : s₁.heap = h0 := by rw [← hh, Bd.state]; rfl
  have N0 := Fr.nil n0
  show Go p e below (FinE s below (QPut_3_2 Z b1 kc2 ch x0 x1 x2 x3 x4 x5 ccs vF h0 n0) (rmm 0 0 0 0).cells (rmm 0 0 0 0).slots) (s₁.setTop (entryFrame m #[(.ref b1), (.int (2 : Int32)), (.int ch)] 3))
  refine Go.via (fun t k => castTop (ef_rmPut_3_2 m b1 ch) k) ?_
  obtain ⟨T101, X101, e101, st101⟩ := getS2 X0 hx hZ hown (host := "") (Or.inl (ow hw 98 rfl)) Via.refl e0 (G.2.2.1.ext O0.2) (g := (mkF m 0 #[rv b1, iv (2 : Int32), iv ch] [])) rfl (hb hby d22_0)
  refine Go.via st101 ?_
  refine Go.via (fun _ => XS.ifYes X101.here hx rfl (pc0 := 3) (pc' := 28) rfl (hb hby d22_3) rfl (by decide) (by decide) (by decide)) ?_
  refine Go.via (fun _ => XS.iloadN X101.here hx rfl (hb hby d22_28) rfl) ?_
  refine Go.via (fun _ => XS.iconst X101.here hx rfl (hb hby d22_29)) ?_
  refine Go.via (fun _ => XS.ishl X101.here hx rfl (hb hby d22_30) rfl) ?_
  show Go p e below _ (T101.setTop (mkF m 31 #[rv b1, iv (2 : Int32), iv ch] [(.int (4 : Int32))]))
  refine Go.via (fun _ => XS.istoreN X101.here hx rfl (hb hby d22_31) rfl (l' := #[rv b1, iv (4 : Int32), iv ch]) rfl) ?_
  refine Go.via (fun _ => XS.aloadN X101.here hx rfl (hb hby d22_32) rfl rfl) ?_
  refine Go.via (fun _ => XS.iloadN X101.here hx rfl (hb hby d22_33) rfl) ?_
  refine Go.via (fun _ => XS.iinc X101.here hx rfl (hb hby d22_34) rfl (l' := #[rv b1, iv (5 : Int32), iv ch]) rfl) ?_
  refine Go.via (fun _ => XS.iloadN X101.here hx rfl (hb hby d22_37) rfl) ?_
  obtain ⟨T102, X102, e102, st102⟩ := getS2 X101 hx hZ hown (host := "") (Or.inl (ow hw 99 rfl)) Via.refl e101 (G.2.2.2.1.ext O0.2) (g := (mkF m 38 #[rv b1, iv (5 : Int32), iv ch] [(.int ch), (.int (4 : Int32)), (.ref b1)])) rfl (hb hby d22_38)
  refine Go.via st102 ?_
  show Go p e below _ (T102.setTop (mkF m 41 #[rv b1, iv (5 : Int32), iv ch] [(.int (0 : Int32)), (.int ch), (.int (4 : Int32)), (.ref b1)]))
  refine Go.via (fun _ => XS.ishr X102.here hx rfl (hb hby d22_41) rfl) ?_
  refine Go.via (fun _ => XS.i2b X102.here hx rfl (hb hby d22_42) rfl) ?_
  obtain ⟨cl103, Ar103, q103, S103, N103n, H103, G103⟩ := id V2
  have hin103 := inb_of (j := (4 : Int32)) S103 (by decide)
  obtain ⟨T103, h103, X103, e103, W103, st103⟩ := stB X102 hx hZ e102 Ar103 (j := (4 : Int32)) hin103 (g := (mkF m 43 #[rv b1, iv (5 : Int32), iv ch] [(.int ((ch >>> ((0 : Int32) &&& 31)).toInt8.toInt32)), (.int (4 : Int32)), (.ref b1)])) rfl rfl (hb hby d22_43)
  refine Go.via st103 ?_
  have V103 : Arv Z h103 b1 kc2 .byte (6 : Int32) [x0, x1, x2, x3, (.int (nar .byte ((ch >>> ((0 : Int32) &&& 31)).toInt8.toInt32))), x5] (.int (0 : Int32)) := Arv.set Ar103 q103 S103 N103n H103 G103 (fits_nar_byte _) W103 4 rfl (Nat.le_of_ble_eq_true rfl)
  have Zs103 : n0 ≤ h103.size := Nat.le_trans Z0 (Keep.of_wr W103).1
  have O103 : Old Z n0 h103 := O0.wr W103 g1
  have K103 : Keep h0 h103 [b1] := (Keep.refl h0 [b1]).wr W103 (Or.inl (List.mem_of_getElem? (i := 0) rfl))
  have N103 := Fr.snoc X103 N0 g1
  refine Go.via (fun _ => XS.aloadN X103.here hx rfl (hb hby d22_44) rfl rfl) ?_
  refine Go.via (fun _ => XS.iloadN X103.here hx rfl (hb hby d22_45) rfl) ?_
  refine Go.via (fun _ => XS.iloadN X103.here hx rfl (hb hby d22_46) rfl) ?_
  show Go p e below _ (T103.setTop (mkF m 47 #[rv b1, iv (5 : Int32), iv ch] [(.int ch), (.int (5 : Int32)), (.ref b1)]))
  obtain ⟨T104, X104, e104, st104⟩ := getS2 X103 hx hZ hown (host := "") (Or.inl (ow hw 100 rfl)) Via.refl e103 (G.2.2.2.2.1.ext O103.2) (g := (mkF m 47 #[rv b1, iv (5 : Int32), iv ch] [(.int ch), (.int (5 : Int32)), (.ref b1)])) rfl (hb hby d22_47)
  refine Go.via st104 ?_
  refine Go.via (fun _ => XS.ishr X104.here hx rfl (hb hby d22_50) rfl) ?_
  refine Go.via (fun _ => XS.i2b X104.here hx rfl (hb hby d22_51) rfl) ?_
  obtain ⟨cl105, Ar105, q105, S105, N105n, H105, G105⟩ := id V103
  have hin105 := inb_of (j := (5 : Int32)) S105 (by decide)
  obtain ⟨T105, h105, X105, e105, W105, st105⟩ := stB X104 hx hZ e104 Ar105 (j := (5 : Int32)) hin105 (g := (mkF m 52 #[rv b1, iv (5 : Int32), iv ch] [(.int ((ch >>> ((8 : Int32) &&& 31)).toInt8.toInt32)), (.int (5 : Int32)), (.ref b1)])) rfl rfl (hb hby d22_52)
  refine Go.via st105 ?_
  have V105 : Arv Z h105 b1 kc2 .byte (6 : Int32) [x0, x1, x2, x3, (.int (nar .byte ((ch >>> ((0 : Int32) &&& 31)).toInt8.toInt32))), (.int (nar .byte ((ch >>> ((8 : Int32) &&& 31)).toInt8.toInt32)))] (.int (0 : Int32)) := Arv.set Ar105 q105 S105 N105n H105 G105 (fits_nar_byte _) W105 5 rfl (Nat.le_of_ble_eq_true rfl)
  have Zs105 : n0 ≤ h105.size := Nat.le_trans Zs103 (Keep.of_wr W105).1
  have O105 : Old Z n0 h105 := O103.wr W105 g1
  have K105 : Keep h0 h105 [b1] := K103.wr W105 (Or.inl (List.mem_of_getElem? (i := 0) rfl))
  have N105 := Fr.snoc X105 N103 g1
  exact own_retV X105 hx hlk Bd.returns (hb hby d22_53) (by show QPut_3_2 Z b1 kc2 ch x0 x1 x2 x3 x4 x5 ccs vF h0 n0 _ T105.heap _; rw [e105]; exact ⟨rfl, N105, K105, V105⟩) (by decide) (by decide)
theorem ef_rmTo_3 (m : MethodId) (x0 : Addr) : entryFrame m #[(.ref x0), (.int (0 : Int32)), (.int (3 : Int32))] 5 = mkF m 0 #[rv x0, iv (0 : Int32), iv (3 : Int32), .unset, .unset] [] := by first | (simp [entryFrame, mkF, argsToLocals, Value.category]; done) | rfl
def QTo_3 (Z : State) (a1 : Addr) (kc1 : ClassId) (c0 : Int32) (c1 : Int32) (c2 : Int32) (ccs : Int32) (vF : Value) (h0 : Heap) (n0 : Nat) (v : Option Value) (h : Heap) (L : List Loc) : Prop := ∃ (t : Addr) (kb : ClassId), v = some (.ref t) ∧ Fr n0 L ∧ Keep h0 h [] ∧ h0.size ≤ t ∧ Arv Z h t kb .byte (6 : Int32) [(.int (nar .byte ((c0 >>> ((0 : Int32) &&& 31)).toInt8.toInt32))), (.int (nar .byte ((c0 >>> ((8 : Int32) &&& 31)).toInt8.toInt32))), (.int (nar .byte ((c1 >>> ((0 : Int32) &&& 31)).toInt8.toInt32))), (.int (nar .byte ((c1 >>> ((8 : Int32) &&& 31)).toInt8.toInt32))), (.int (nar .byte ((c2 >>> ((0 : Int32) &&& 31)).toInt8.toInt32))), (.int (nar .byte ((c2 >>> ((8 : Int32) &&& 31)).toInt8.toInt32)))] (.int (0 : Int32))
set_option maxRecDepth 65536 in
set_option maxHeartbeats 40000000 in
theorem rmTo_3 (l : Launch) (Z : State) (a0 : Array Value) (hw : TW Z a0) (ws : List Jvm.Cond) (a1 : Addr) (kc1 : ClassId) (c0 : Int32) (c1 : Int32) (c2 : Int32) (ccs : Int32) (vF : Value) (h0 : Heap) (n0 : Nat) (Z0 : n0 ≤ h0.size) (V1 : Arv Z h0 a1 kc1 .char (3 : Int32) [(.int c0), (.int c1), (.int c2)] (.int (0 : Int32))) (O0 : Old Z n0 h0) (G : SG Z ccs vF) :
    MF l Z (⟨"java/lang/StringUTF16", "toBytes", "([CII)[B"⟩ : MethodName) jdk_52_method_14_code 5 (some (.array .byte)) ws (rmm 2 1 6 24) #[(.ref a1), (.int (0 : Int32)), (.int (3 : Int32))] h0 (QTo_3 Z a1 kc1 c0 c1 c2 ccs vF h0 n0) := by
  refine MetFree.of_bodySF (plainFor_of_name pn_java_lang_StringUTF16) hisR ?_
  intro p e s m args below meth c s₁ Bd hml0 hP hK
  obtain ⟨rfl, hZ, hh⟩ := hP
  have hx := Bd.exec
  have hby := Bd.bytes
  have hlk : meth.locks = false := Bd.notSynchronized
  have hml : c.maxLocals = 5 := hml0
  have hown : s.vm.findClass "java/lang/StringUTF16" = some m.cls := findClass_of_methodNamed Bd.named
  have hnm := (name_of_methodNamed Bd.named Bd.method).1
  have rF := G.2.2.2.2.2.2
  have hcs := G.2.1
  have X0 : Stand p l e (rmm 2 1 6 24) s m #[(.ref a1), (.int (0 : Int32)), (.int (3 : Int32))] below meth c s₁ [] 0 0 := Stand.of_body Bd
  have e0 : s₁.heap = h0 := by rw [← hh, Bd.state]; rfl
  have N0 := Fr.nil n0
  show Go p e below (FinE s below (QTo_3 Z a1 kc1 c0 c1 c2 ccs vF h0 n0) (rmm 2 1 6 24).cells (rmm 2 1 6 24).slots) (s₁.setTop (entryFrame m #[(.ref a1), (.int (0 : Int32)), (.int (3 : Int32))] 5))
  refine Go.via (fun t k => castTop (ef_rmTo_3 m a1) k) ?_
  refine Go.via (fun _ => XS.iloadN X0.here hx rfl (hb hby d19_0) rfl) ?_
  obtain ⟨_, _, ⟨T101, L101, k101, n101⟩, -, X101, ⟨Lc101, hQ101, l101, y101, z101⟩, st101⟩ := Jvm.LawKit.callS X0 hx (y := (⟨"java/lang/StringUTF16", "newBytesFor", "(I)[B"⟩ : MethodName)) hown (mvT hZ (ow hw 88 rfl)) (mvT hZ (ow hw 89 rfl)) (mvT hZ (ow hw 35 rfl)) (mvT hZ (ow hw 90 rfl)) (by decide) (backOf (W := 0) (rmNBF_3 l Z a0 hw [] h0 n0 Z0) hZ (ow hw 90 rfl) (ow hw 35 rfl) (by decide) (by decide)) (g := (mkF m 1 #[rv a1, iv (0 : Int32), iv (3 : Int32), .unset, .unset] [(.int (3 : Int32))])) rfl (by rw [hml]; rfl) (argsL := [(.int (3 : Int32))]) (rest := []) (lenOf pd_12 rfl) rfl (by show 2 * 0 + _ ≤ _; exact Nat.le_of_eq rfl) (hb hby d19_1) (fun _ _ => ⟨rfl, e0, (by decide : 0 + 1 ≤ _), (by decide : 0 + 6 ≤ _)⟩)
  dsimp only [Pt.U, Pt.locs, Pt.cells, Pt.slots] at X101 l101 y101 z101 st101 hQ101
  rw [l101, y101, z101] at X101
  replace X101 : Stand p l e _ _ m _ below meth c T101 _ 1 6 := X101
  obtain ⟨t101, kb101, rfl, N101q, K101q, gt101, va101⟩ := hQ101
  have N101 := Fr.app N0 N101q
  refine Go.via st101 ?_
  have Zs101 : n0 ≤ T101.heap.size := Nat.le_trans Z0 K101q.1
  have O101 : Old Z n0 T101.heap := O0.keep K101q all0
  have K101 : Keep h0 T101.heap [] := (Keep.refl h0 []).trans K101q all0
  have fV_a1_101 := V1.keep K101q nin0
  have g_t101 : n0 ≤ t101 := Nat.le_trans Z0 gt101
  have ne_a1_t101 : a1 ≠ t101 := Nat.ne_of_lt (Nat.lt_of_lt_of_le V1.lt gt101)
  have sz_t101 : h0.size ≤ t101 := Nat.le_trans (Keep.refl h0 []).1 gt101
  refine Go.via (fun _ => XS.astoreN X101.here hx rfl (hb hby d19_4) rfl rfl (l' := #[rv a1, iv (0 : Int32), iv (3 : Int32), rv t101, .unset]) rfl) ?_
  refine Go.via (fun _ => XS.iconst X101.here hx rfl (hb hby d19_5)) ?_
  refine Go.via (fun _ => XS.istore X101.here hx rfl (hb hby d19_6) rfl (l' := #[rv a1, iv (0 : Int32), iv (3 : Int32), rv t101, iv (0 : Int32)]) rfl) ?_
  show Go p e below _ (T101.setTop (mkF m 8 #[rv a1, iv (0 : Int32), iv (3 : Int32), rv t101, iv (0 : Int32)] []))
  refine Go.via (fun _ => XS.iload X101.here hx rfl (hb hby d19_8) rfl) ?_
  refine Go.via (fun _ => XS.iloadN X101.here hx rfl (hb hby d19_10) rfl) ?_
  refine Go.via (fun _ => XS.icmpNo X101.here hx rfl (hb hby d19_11) rfl (by decide)) ?_
  refine Go.via (fun _ => XS.aloadN X101.here hx rfl (hb hby d19_14) rfl rfl) ?_
  refine Go.via (fun _ => XS.iload X101.here hx rfl (hb hby d19_15) rfl) ?_
  refine Go.via (fun _ => XS.aloadN X101.here hx rfl (hb hby d19_17) rfl rfl) ?_
  show Go p e below _ (T101.setTop (mkF m 18 #[rv a1, iv (0 : Int32), iv (3 : Int32), rv t101, iv (0 : Int32)] [(.ref a1), (.int (0 : Int32)), (.ref t101)]))
  refine Go.via (fun _ => XS.iloadN X101.here hx rfl (hb hby d19_18) rfl) ?_
  obtain ⟨cl102, Ar102, q102, S102, N102n, H102, G102⟩ := id fV_a1_101
  have hin102 := inb_of (j := (0 : Int32)) S102 (by decide)
  have hat102 : cl102.slots[((0 : Int32) : Int32).toNatClampNeg]? = some (.int c0) := H102.at hin102 rfl
  refine Go.via (X101.caload hx (j := (0 : Int32)) (v := (.int c0)) Ar102.1 (State.isArrayOf_alike hZ.alike Ar102.2.1) Ar102.2.2 hin102 hat102 (g := (mkF m 19 #[rv a1, iv (0 : Int32), iv (3 : Int32), rv t101, iv (0 : Int32)] [(.int (0 : Int32)), (.ref a1), (.int (0 : Int32)), (.ref t101)])) rfl rfl (hb hby d19_19)) ?_
  obtain ⟨_, _, ⟨T103, L103, k103, n103⟩, -, X103, ⟨Lc103, hQ103, l103, y103, z103⟩, st103⟩ := Jvm.LawKit.callS X101 hx (y := (⟨"java/lang/StringUTF16", "putChar", "([BII)V"⟩ : MethodName)) hown (mvT hZ (ow hw 95 rfl)) (mvT hZ (ow hw 96 rfl)) (mvT hZ (ow hw 35 rfl)) (mvT hZ (ow hw 97 rfl)) (by decide) (backOf (W := 0) (rmPut_3_0 l Z a0 hw [] t101 kb101 c0 (.int (0 : Int32)) (.int (0 : Int32)) (.int (0 : Int32)) (.int (0 : Int32)) (.int (0 : Int32)) (.int (0 : Int32)) ccs vF T101.heap n0 Zs101 va101 g_t101 O101 G) hZ (ow hw 97 rfl) (ow hw 35 rfl) (by decide) (by decide)) (g := (mkF m 20 #[rv a1, iv (0 : Int32), iv (3 : Int32), rv t101, iv (0 : Int32)] [(.int c0), (.int (0 : Int32)), (.ref t101)])) rfl (by rw [hml]; rfl) (argsL := [(.ref t101), (.int (0 : Int32)), (.int c0)]) (rest := []) (lenOf pd_13 rfl) rfl (by show 2 * 0 + _ ≤ _; exact Nat.le_of_eq rfl) (hb hby d19_20) (fun _ _ => ⟨rfl, rfl, (by decide : 1 + 0 ≤ _), (by decide : 6 + 0 ≤ _)⟩)
  dsimp only [Pt.U, Pt.locs, Pt.cells, Pt.slots] at X103 l103 y103 z103 st103 hQ103
  rw [l103, y103, z103] at X103
  replace X103 : Stand p l e _ _ m _ below meth c T103 _ 1 6 := X103
  obtain ⟨rfl, N103q, K103q, va103⟩ := hQ103
  have N103 := Fr.app N101 N103q
  refine Go.via st103 ?_
  have Zs103 : n0 ≤ T103.heap.size := Nat.le_trans Zs101 K103q.1
  have O103 : Old Z n0 T103.heap := O101.keep K103q (allS g_t101 all0)
  have K103 : Keep h0 T103.heap [] := K101.trans K103q (allS (Or.inr sz_t101) all0)
  have fV_a1_103 := fV_a1_101.keep K103q (ninS ne_a1_t101 nin0)
  refine Go.via (fun _ => XS.iinc X103.here hx rfl (hb hby d19_23) rfl (l' := #[rv a1, iv (1 : Int32), iv (3 : Int32), rv t101, iv (0 : Int32)]) rfl) ?_
  refine Go.via (fun _ => XS.iinc X103.here hx rfl (hb hby d19_26) rfl (l' := #[rv a1, iv (1 : Int32), iv (3 : Int32), rv t101, iv (1 : Int32)]) rfl) ?_
  refine Go.via (fun _ => XS.goto X103.here hx rfl (pc0 := 29) (pc' := 8) rfl (hb hby d19_29) (by decide) (by decide)) ?_
  show Go p e below _ (T103.setTop (mkF m 8 #[rv a1, iv (1 : Int32), iv (3 : Int32), rv t101, iv (1 : Int32)] []))
  refine Go.via (fun _ => XS.iload X103.here hx rfl (hb hby d19_8) rfl) ?_
  refine Go.via (fun _ => XS.iloadN X103.here hx rfl (hb hby d19_10) rfl) ?_
  refine Go.via (fun _ => XS.icmpNo X103.here hx rfl (hb hby d19_11) rfl (by decide)) ?_
  refine Go.via (fun _ => XS.aloadN X103.here hx rfl (hb hby d19_14) rfl rfl) ?_
  refine Go.via (fun _ => XS.iload X103.here hx rfl (hb hby d19_15) rfl) ?_
  refine Go.via (fun _ => XS.aloadN X103.here hx rfl (hb hby d19_17) rfl rfl) ?_
  show Go p e below _ (T103.setTop (mkF m 18 #[rv a1, iv (1 : Int32), iv (3 : Int32), rv t101, iv (1 : Int32)] [(.ref a1), (.int (1 : Int32)), (.ref t101)]))
  refine Go.via (fun _ => XS.iloadN X103.here hx rfl (hb hby d19_18) rfl) ?_
  obtain ⟨cl104, Ar104, q104, S104, N104n, H104, G104⟩ := id fV_a1_103
  have hin104 := inb_of (j := (1 : Int32)) S104 (by decide)
  have hat104 : cl104.slots[((1 : Int32) : Int32).toNatClampNeg]? = some (.int c1) := H104.at hin104 rfl
  refine Go.via (X103.caload hx (j := (1 : Int32)) (v := (.int c1)) Ar104.1 (State.isArrayOf_alike hZ.alike Ar104.2.1) Ar104.2.2 hin104 hat104 (g := (mkF m 19 #[rv a1, iv (1 : Int32), iv (3 : Int32), rv t101, iv (1 : Int32)] [(.int (1 : Int32)), (.ref a1), (.int (1 : Int32)), (.ref t101)])) rfl rfl (hb hby d19_19)) ?_
  obtain ⟨_, _, ⟨T105, L105, k105, n105⟩, -, X105, ⟨Lc105, hQ105, l105, y105, z105⟩, st105⟩ := Jvm.LawKit.callS X103 hx (y := (⟨"java/lang/StringUTF16", "putChar", "([BII)V"⟩ : MethodName)) hown (mvT hZ (ow hw 95 rfl)) (mvT hZ (ow hw 96 rfl)) (mvT hZ (ow hw 35 rfl)) (mvT hZ (ow hw 97 rfl)) (by decide) (backOf (W := 0) (rmPut_3_1 l Z a0 hw [] t101 kb101 c1 (.int (nar .byte ((c0 >>> ((0 : Int32) &&& 31)).toInt8.toInt32))) (.int (nar .byte ((c0 >>> ((8 : Int32) &&& 31)).toInt8.toInt32))) (.int (0 : Int32)) (.int (0 : Int32)) (.int (0 : Int32)) (.int (0 : Int32)) ccs vF T103.heap n0 Zs103 va103 g_t101 O103 G) hZ (ow hw 97 rfl) (ow hw 35 rfl) (by decide) (by decide)) (g := (mkF m 20 #[rv a1, iv (1 : Int32), iv (3 : Int32), rv t101, iv (1 : Int32)] [(.int c1), (.int (1 : Int32)), (.ref t101)])) rfl (by rw [hml]; rfl) (argsL := [(.ref t101), (.int (1 : Int32)), (.int c1)]) (rest := []) (lenOf pd_13 rfl) rfl (by show 2 * 0 + _ ≤ _; exact Nat.le_of_eq rfl) (hb hby d19_20) (fun _ _ => ⟨rfl, rfl, (by decide : 1 + 0 ≤ _), (by decide : 6 + 0 ≤ _)⟩)
  dsimp only [Pt.U, Pt.locs, Pt.cells, Pt.slots] at X105 l105 y105 z105 st105 hQ105
  rw [l105, y105, z105] at X105
  replace X105 : Stand p l e _ _ m _ below meth c T105 _ 1 6 := X105
  obtain ⟨rfl, N105q, K105q, va105⟩ := hQ105
  have N105 := Fr.app N103 N105q
  refine Go.via st105 ?_
  have Zs105 : n0 ≤ T105.heap.size := Nat.le_trans Zs103 K105q.1
  have O105 : Old Z n0 T105.heap := O103.keep K105q (allS g_t101 all0)
  have K105 : Keep h0 T105.heap [] := K103.trans K105q (allS (Or.inr sz_t101) all0)
  have fV_a1_105 := fV_a1_103.keep K105q (ninS ne_a1_t101 nin0)
  refine Go.via (fun _ => XS.iinc X105.here hx rfl (hb hby d19_23) rfl (l' := #[rv a1, iv (2 : Int32), iv (3 : Int32), rv t101, iv (1 : Int32)]) rfl) ?_
  refine Go.via (fun _ => XS.iinc X105.here hx rfl (hb hby d19_26) rfl (l' := #[rv a1, iv (2 : Int32), iv (3 : Int32), rv t101, iv (2 : Int32)]) rfl) ?_
  refine Go.via (fun _ => XS.goto X105.here hx rfl (pc0 := 29) (pc' := 8) rfl (hb hby d19_29) (by decide) (by decide)) ?_
  show Go p e below _ (T105.setTop (mkF m 8 #[rv a1, iv (2 : Int32), iv (3 : Int32), rv t101, iv (2 : Int32)] []))
  refine Go.via (fun _ => XS.iload X105.here hx rfl (hb hby d19_8) rfl) ?_
  refine Go.via (fun _ => XS.iloadN X105.here hx rfl (hb hby d19_10) rfl) ?_
  refine Go.via (fun _ => XS.icmpNo X105.here hx rfl (hb hby d19_11) rfl (by decide)) ?_
  refine Go.via (fun _ => XS.aloadN X105.here hx rfl (hb hby d19_14) rfl rfl) ?_
  refine Go.via (fun _ => XS.iload X105.here hx rfl (hb hby d19_15) rfl) ?_
  refine Go.via (fun _ => XS.aloadN X105.here hx rfl (hb hby d19_17) rfl rfl) ?_
  show Go p e below _ (T105.setTop (mkF m 18 #[rv a1, iv (2 : Int32), iv (3 : Int32), rv t101, iv (2 : Int32)] [(.ref a1), (.int (2 : Int32)), (.ref t101)]))
  refine Go.via (fun _ => XS.iloadN X105.here hx rfl (hb hby d19_18) rfl) ?_
  obtain ⟨cl106, Ar106, q106, S106, N106n, H106, G106⟩ := id fV_a1_105
  have hin106 := inb_of (j := (2 : Int32)) S106 (by decide)
  have hat106 : cl106.slots[((2 : Int32) : Int32).toNatClampNeg]? = some (.int c2) := H106.at hin106 rfl
  refine Go.via (X105.caload hx (j := (2 : Int32)) (v := (.int c2)) Ar106.1 (State.isArrayOf_alike hZ.alike Ar106.2.1) Ar106.2.2 hin106 hat106 (g := (mkF m 19 #[rv a1, iv (2 : Int32), iv (3 : Int32), rv t101, iv (2 : Int32)] [(.int (2 : Int32)), (.ref a1), (.int (2 : Int32)), (.ref t101)])) rfl rfl (hb hby d19_19)) ?_
  obtain ⟨_, _, ⟨T107, L107, k107, n107⟩, -, X107, ⟨Lc107, hQ107, l107, y107, z107⟩, st107⟩ := Jvm.LawKit.callS X105 hx (y := (⟨"java/lang/StringUTF16", "putChar", "([BII)V"⟩ : MethodName)) hown (mvT hZ (ow hw 95 rfl)) (mvT hZ (ow hw 96 rfl)) (mvT hZ (ow hw 35 rfl)) (mvT hZ (ow hw 97 rfl)) (by decide) (backOf (W := 0) (rmPut_3_2 l Z a0 hw [] t101 kb101 c2 (.int (nar .byte ((c0 >>> ((0 : Int32) &&& 31)).toInt8.toInt32))) (.int (nar .byte ((c0 >>> ((8 : Int32) &&& 31)).toInt8.toInt32))) (.int (nar .byte ((c1 >>> ((0 : Int32) &&& 31)).toInt8.toInt32))) (.int (nar .byte ((c1 >>> ((8 : Int32) &&& 31)).toInt8.toInt32))) (.int (0 : Int32)) (.int (0 : Int32)) ccs vF T105.heap n0 Zs105 va105 g_t101 O105 G) hZ (ow hw 97 rfl) (ow hw 35 rfl) (by decide) (by decide)) (g := (mkF m 20 #[rv a1, iv (2 : Int32), iv (3 : Int32), rv t101, iv (2 : Int32)] [(.int c2), (.int (2 : Int32)), (.ref t101)])) rfl (by rw [hml]; rfl) (argsL := [(.ref t101), (.int (2 : Int32)), (.int c2)]) (rest := []) (lenOf pd_13 rfl) rfl (by show 2 * 0 + _ ≤ _; exact Nat.le_of_eq rfl) (hb hby d19_20) (fun _ _ => ⟨rfl, rfl, (by decide : 1 + 0 ≤ _), (by decide : 6 + 0 ≤ _)⟩)
  dsimp only [Pt.U, Pt.locs, Pt.cells, Pt.slots] at X107 l107 y107 z107 st107 hQ107
  rw [l107, y107, z107] at X107
  replace X107 : Stand p l e _ _ m _ below meth c T107 _ 1 6 := X107
  obtain ⟨rfl, N107q, K107q, va107⟩ := hQ107
  have N107 := Fr.app N105 N107q
  refine Go.via st107 ?_
  have Zs107 : n0 ≤ T107.heap.size := Nat.le_trans Zs105 K107q.1
  have O107 : Old Z n0 T107.heap := O105.keep K107q (allS g_t101 all0)
  have K107 : Keep h0 T107.heap [] := K105.trans K107q (allS (Or.inr sz_t101) all0)
  have fV_a1_107 := fV_a1_105.keep K107q (ninS ne_a1_t101 nin0)
  refine Go.via (fun _ => XS.iinc X107.here hx rfl (hb hby d19_23) rfl (l' := #[rv a1, iv (3 : Int32), iv (3 : Int32), rv t101, iv (2 : Int32)]) rfl) ?_
  refine Go.via (fun _ => XS.iinc X107.here hx rfl (hb hby d19_26) rfl (l' := #[rv a1, iv (3 : Int32), iv (3 : Int32), rv t101, iv (3 : Int32)]) rfl) ?_
  refine Go.via (fun _ => XS.goto X107.here hx rfl (pc0 := 29) (pc' := 8) rfl (hb hby d19_29) (by decide) (by decide)) ?_
  show Go p e below _ (T107.setTop (mkF m 8 #[rv a1, iv (3 : Int32), iv (3 : Int32), rv t101, iv (3 : Int32)] []))
  refine Go.via (fun _ => XS.iload X107.here hx rfl (hb hby d19_8) rfl) ?_
  refine Go.via (fun _ => XS.iloadN X107.here hx rfl (hb hby d19_10) rfl) ?_
  refine Go.via (fun _ => XS.icmpYes X107.here hx rfl (pc0 := 11) (pc' := 32) rfl (hb hby d19_11) rfl (by decide) (by decide) (by decide)) ?_
  refine Go.via (fun _ => XS.aloadN X107.here hx rfl (hb hby d19_32) rfl rfl) ?_
  exact own_retA X107 hx hlk Bd.returns rfl rfl (hb hby d19_33) (by show QTo_3 Z a1 kc1 c0 c1 c2 ccs vF h0 n0 _ T107.heap _; exact ⟨t101, kb101, rfl, N107, K107, sz_t101, va107⟩) (by decide) (by decide)
theorem ef_rmD1_3 (m : MethodId) (x0 : Addr) : entryFrame m #[(.ref x0), (.int (0 : Int32)), (.int (3 : Int32))] 6 = mkF m 0 #[rv x0, iv (0 : Int32), iv (3 : Int32), .unset, .unset, .unset] [] := by first | (simp [entryFrame, mkF, argsToLocals, Value.category]; done) | rfl
def QD1_3 (Z : State) (a1 : Addr) (kc1 : ClassId) (c0 : Int32) (c1 : Int32) (c2 : Int32) (ccs : Int32) (vF : Value) (h0 : Heap) (n0 : Nat) (v : Option Value) (h : Heap) (L : List Loc) : Prop := ∃ (t : Addr) (kb : ClassId), v = some (.ref t) ∧ Fr n0 L ∧ Keep h0 h [] ∧ h0.size ≤ t ∧ ((Arv Z h t kb .byte (3 : Int32) [(.int (nar .byte (c0.toInt8.toInt32))), (.int (nar .byte (c1.toInt8.toInt32))), (.int (nar .byte (c2.toInt8.toInt32)))] (.int (0 : Int32)) ∧ ¬ ((255 : Int32) < c0) ∧ ¬ ((255 : Int32) < c1) ∧ ¬ ((255 : Int32) < c2)) ∨ Arv Z h t kb .byte (6 : Int32) [(.int (nar .byte ((c0 >>> ((0 : Int32) &&& 31)).toInt8.toInt32))), (.int (nar .byte ((c0 >>> ((8 : Int32) &&& 31)).toInt8.toInt32))), (.int (nar .byte ((c1 >>> ((0 : Int32) &&& 31)).toInt8.toInt32))), (.int (nar .byte ((c1 >>> ((8 : Int32) &&& 31)).toInt8.toInt32))), (.int (nar .byte ((c2 >>> ((0 : Int32) &&& 31)).toInt8.toInt32))), (.int (nar .byte ((c2 >>> ((8 : Int32) &&& 31)).toInt8.toInt32)))] (.int (0 : Int32)))
set_option maxRecDepth 65536 in
set_option maxHeartbeats 40000000 in
theorem rmD1_3 (l : Launch) (Z : State) (a0 : Array Value) (hw : TW Z a0) (ws : List Jvm.Cond) (a1 : Addr) (kc1 : ClassId) (c0 : Int32) (c1 : Int32) (c2 : Int32) (ccs : Int32) (vF : Value) (h0 : Heap) (n0 : Nat) (Z0 : n0 ≤ h0.size) (V1 : Arv Z h0 a1 kc1 .char (3 : Int32) [(.int c0), (.int c1), (.int c2)] (.int (0 : Int32))) (hr0 : ¬ (c0 < (0 : Int32)) ∧ ¬ ((65535 : Int32) < c0)) (hr1 : ¬ (c1 < (0 : Int32)) ∧ ¬ ((65535 : Int32) < c1)) (hr2 : ¬ (c2 < (0 : Int32)) ∧ ¬ ((65535 : Int32) < c2)) (O0 : Old Z n0 h0) (G : SG Z ccs vF) :
    MF l Z (⟨"java/lang/StringUTF16", "compress", "([CII)[B"⟩ : MethodName) jdk_52_method_16_code 6 (some (.array .byte)) ws (rmm 3 2 9 40) #[(.ref a1), (.int (0 : Int32)), (.int (3 : Int32))] h0 (QD1_3 Z a1 kc1 c0 c1 c2 ccs vF h0 n0) := by
  refine MetFree.of_bodySF (plainFor_of_name pn_java_lang_StringUTF16) hisR ?_
  intro p e s m args below meth c s₁ Bd hml0 hP hK
  obtain ⟨rfl, hZ, hh⟩ := hP
  have hx := Bd.exec
  have hby := Bd.bytes
  have hlk : meth.locks = false := Bd.notSynchronized
  have hml : c.maxLocals = 6 := hml0
  have hown : s.vm.findClass "java/lang/StringUTF16" = some m.cls := findClass_of_methodNamed Bd.named
  have hnm := (name_of_methodNamed Bd.named Bd.method).1
  have rF := G.2.2.2.2.2.2
  have hcs := G.2.1
  have X0 : Stand p l e (rmm 3 2 9 40) s m #[(.ref a1), (.int (0 : Int32)), (.int (3 : Int32))] below meth c s₁ [] 0 0 := Stand.of_body Bd
  have e0 : s₁.heap = h0 := by rw [← hh, Bd.state]; rfl
  have N0 := Fr.nil n0
  show Go p e below (FinE s below (QD1_3 Z a1 kc1 c0 c1 c2 ccs vF h0 n0) (rmm 3 2 9 40).cells (rmm 3 2 9 40).slots) (s₁.setTop (entryFrame m #[(.ref a1), (.int (0 : Int32)), (.int (3 : Int32))] 6))
  refine Go.via (fun t k => castTop (ef_rmD1_3 m a1) k) ?_
  refine Go.via (fun _ => XS.iloadN X0.here hx rfl (hb hby d6_0) rfl) ?_
  obtain ⟨T101, h101, k101, X101, e101, E101, A101, st101⟩ := newP X0 hx hZ (ow hw 16 rfl) e0 (g := (mkF m 1 #[rv a1, iv (0 : Int32), iv (3 : Int32), .unset, .unset, .unset] [(.int (3 : Int32))])) rfl (hb hby d6_1) rfl (by decide) (cap := 3) (by decide) (by decide) (by decide) (by decide)
  obtain ⟨b101, g101⟩ : ∃ z, z = h0.size := ⟨_, rfl⟩
  rw [← g101] at A101 st101
  have g_b101 : n0 ≤ b101 := Nat.le_trans Z0 (Nat.le_of_eq g101.symm)
  have ne_a1_b101 : a1 ≠ b101 := Nat.ne_of_lt (Nat.lt_of_lt_of_le V1.lt (Nat.le_of_eq g101.symm))
  have sz_b101 : h0.size ≤ b101 := Nat.le_trans (Keep.refl h0 []).1 (Nat.le_of_eq g101.symm)
  refine Go.via st101 ?_
  have Zs101 : n0 ≤ h101.size := Nat.le_trans Z0 E101.1
  have O101 : Old Z n0 h101 := O0.ext E101
  have K101 : Keep h0 h101 [] := (Keep.refl h0 []).ext E101
  have fV_a1_101 := V1.ext E101
  have V_b101 : Arv Z h101 b101 k101 .byte (3 : Int32) [(.int (0 : Int32)), (.int (0 : Int32)), (.int (0 : Int32))] (.int (0 : Int32)) := (Arv.new A101 (by decide)).pad (pad_rep [] (.int (0 : Int32)) 3)
  refine Go.via (fun _ => XS.astoreN X101.here hx rfl (hb hby d6_3) rfl rfl (l' := #[rv a1, iv (0 : Int32), iv (3 : Int32), rv b101, .unset, .unset]) rfl) ?_
  refine Go.via (fun _ => XS.aloadN X101.here hx rfl (hb hby d6_4) rfl rfl) ?_
  refine Go.via (fun _ => XS.iloadN X101.here hx rfl (hb hby d6_5) rfl) ?_
  show Go p e below _ (T101.setTop (mkF m 6 #[rv a1, iv (0 : Int32), iv (3 : Int32), rv b101, .unset, .unset] [(.int (0 : Int32)), (.ref a1)]))
  refine Go.via (fun _ => XS.aloadN X101.here hx rfl (hb hby d6_6) rfl rfl) ?_
  refine Go.via (fun _ => XS.iconst X101.here hx rfl (hb hby d6_7)) ?_
  refine Go.via (fun _ => XS.iloadN X101.here hx rfl (hb hby d6_8) rfl) ?_
  obtain ⟨_, _, ⟨T102, L102, k102, n102⟩, -, X102, ⟨Lc102, hQ102, l102, y102, z102⟩, st102⟩ := Jvm.LawKit.callS X101 hx (y := (⟨"java/lang/StringUTF16", "compress", "([CI[BII)I"⟩ : MethodName)) hown (mvT hZ (ow hw 37 rfl)) (mvT hZ (ow hw 38 rfl)) (mvT hZ (ow hw 35 rfl)) (mvT hZ (ow hw 39 rfl)) (by decide) (backOf (W := 0) (rmD2_3 l Z a0 hw [] a1 kc1 b101 k101 c0 c1 c2 h101 n0 Zs101 fV_a1_101 V_b101 g_b101 ne_a1_b101) hZ (ow hw 39 rfl) (ow hw 35 rfl) (by decide) (by decide)) (g := (mkF m 9 #[rv a1, iv (0 : Int32), iv (3 : Int32), rv b101, .unset, .unset] [(.int (3 : Int32)), (.int (0 : Int32)), (.ref b101), (.int (0 : Int32)), (.ref a1)])) rfl (by rw [hml]; rfl) (argsL := [(.ref a1), (.int (0 : Int32)), (.ref b101), (.int (0 : Int32)), (.int (3 : Int32))]) (rest := []) (lenOf pd_14 rfl) rfl (by show 2 * 0 + _ ≤ _; exact Nat.le_of_eq rfl) (hb hby d6_9) (fun _ _ => ⟨rfl, e101, (by decide : 1 + 0 ≤ _), (by decide : 3 + 0 ≤ _)⟩)
  dsimp only [Pt.U, Pt.locs, Pt.cells, Pt.slots] at X102 l102 y102 z102 st102 hQ102
  rw [l102, y102, z102] at X102
  replace X102 : Stand p l e _ _ m _ below meth c T102 _ 1 3 := X102
  obtain ⟨N102q, K102q, alt102⟩ := hQ102
  have N102 := Fr.app N0 N102q
  have Zs102 : n0 ≤ T102.heap.size := Nat.le_trans Zs101 K102q.1
  have O102 : Old Z n0 T102.heap := O101.keep K102q (allS g_b101 all0)
  have K102 : Keep h0 T102.heap [] := K101.trans K102q (allS (Or.inr sz_b101) all0)
  have fV_a1_102 := fV_a1_101.keep K102q (ninS ne_a1_b101 nin0)
  rcases alt102 with ⟨rfl, va102, hl0, hl1, hl2⟩ | ⟨rfl, hbig⟩ | ⟨rfl, hbig⟩ | ⟨rfl, hbig⟩
  ·
    refine Go.via st102 ?_
    refine Go.via (fun _ => XS.istore X102.here hx rfl (hb hby d6_12) rfl (l' := #[rv a1, iv (0 : Int32), iv (3 : Int32), rv b101, iv (3 : Int32), .unset]) rfl) ?_
    refine Go.via (fun _ => XS.iload X102.here hx rfl (hb hby d6_14) rfl) ?_
    show Go p e below _ (T102.setTop (mkF m 16 #[rv a1, iv (0 : Int32), iv (3 : Int32), rv b101, iv (3 : Int32), .unset] [(.int (3 : Int32))]))
    refine Go.via (fun _ => XS.iloadN X102.here hx rfl (hb hby d6_16) rfl) ?_
    refine Go.via (fun _ => XS.icmpYes X102.here hx rfl (pc0 := 17) (pc' := 57) rfl (hb hby d6_17) rfl (by decide) (by decide) (by decide)) ?_
    refine Go.via (fun _ => XS.aloadN X102.here hx rfl (hb hby d6_57) rfl rfl) ?_
    exact own_retA X102 hx hlk Bd.returns rfl rfl (hb hby d6_58) (by show QD1_3 Z a1 kc1 c0 c1 c2 ccs vF h0 n0 _ T102.heap _; exact ⟨b101, k101, rfl, N102, K102, sz_b101, Or.inl ⟨va102, hl0, hl1, hl2⟩⟩) (by decide) (by decide)
  ·
    refine Go.via st102 ?_
    refine Go.via (fun _ => XS.istore X102.here hx rfl (hb hby d6_12) rfl (l' := #[rv a1, iv (0 : Int32), iv (3 : Int32), rv b101, iv (0 : Int32), .unset]) rfl) ?_
    refine Go.via (fun _ => XS.iload X102.here hx rfl (hb hby d6_14) rfl) ?_
    show Go p e below _ (T102.setTop (mkF m 16 #[rv a1, iv (0 : Int32), iv (3 : Int32), rv b101, iv (0 : Int32), .unset] [(.int (0 : Int32))]))
    refine Go.via (fun _ => XS.iloadN X102.here hx rfl (hb hby d6_16) rfl) ?_
    refine Go.via (fun _ => XS.icmpNo X102.here hx rfl (hb hby d6_17) rfl (by decide)) ?_
    refine Go.via (fun _ => XS.aloadN X102.here hx rfl (hb hby d6_20) rfl rfl) ?_
    refine Go.via (fun _ => XS.iloadN X102.here hx rfl (hb hby d6_21) rfl) ?_
    refine Go.via (fun _ => XS.iloadN X102.here hx rfl (hb hby d6_22) rfl) ?_
    obtain ⟨_, _, ⟨T103, L103, k103, n103⟩, -, X103, ⟨Lc103, hQ103, l103, y103, z103⟩, st103⟩ := Jvm.LawKit.callS X102 hx (y := (⟨"java/lang/StringUTF16", "toBytes", "([CII)[B"⟩ : MethodName)) hown (mvT hZ (ow hw 85 rfl)) (mvT hZ (ow hw 86 rfl)) (mvT hZ (ow hw 35 rfl)) (mvT hZ (ow hw 87 rfl)) (by decide) (backOf (W := 0) (rmTo_3 l Z a0 hw [] a1 kc1 c0 c1 c2 ccs vF T102.heap n0 Zs102 fV_a1_102 O102 G) hZ (ow hw 87 rfl) (ow hw 35 rfl) (by decide) (by decide)) (g := (mkF m 23 #[rv a1, iv (0 : Int32), iv (3 : Int32), rv b101, iv (0 : Int32), .unset] [(.int (3 : Int32)), (.int (0 : Int32)), (.ref a1)])) rfl (by rw [hml]; rfl) (argsL := [(.ref a1), (.int (0 : Int32)), (.int (3 : Int32))]) (rest := []) (lenOf pd_15 rfl) rfl (by show 2 * 0 + _ ≤ _; exact Nat.le_of_eq rfl) (hb hby d6_23) (fun _ _ => ⟨rfl, rfl, (by decide : 1 + 1 ≤ _), (by decide : 3 + 6 ≤ _)⟩)
    dsimp only [Pt.U, Pt.locs, Pt.cells, Pt.slots] at X103 l103 y103 z103 st103 hQ103
    rw [l103, y103, z103] at X103
    replace X103 : Stand p l e _ _ m _ below meth c T103 _ 2 9 := X103
    obtain ⟨t103, kb103, rfl, N103q, K103q, gt103, va103⟩ := hQ103
    have N103 := Fr.app N102 N103q
    refine Go.via st103 ?_
    have Zs103 : n0 ≤ T103.heap.size := Nat.le_trans Zs102 K103q.1
    have O103 : Old Z n0 T103.heap := O102.keep K103q all0
    have K103 : Keep h0 T103.heap [] := K102.trans K103q all0
    have fV_a1_103 := fV_a1_102.keep K103q nin0
    have g_t103 : n0 ≤ t103 := Nat.le_trans Zs102 gt103
    have ne_a1_t103 : a1 ≠ t103 := Nat.ne_of_lt (Nat.lt_of_lt_of_le fV_a1_102.lt gt103)
    have sz_t103 : h0.size ≤ t103 := Nat.le_trans K102.1 gt103
    show Go p e below _ (T103.setTop (mkF m 26 #[rv a1, iv (0 : Int32), iv (3 : Int32), rv b101, iv (0 : Int32), .unset] [(.ref t103)]))
    refine Go.via (fun _ => XS.astore X103.here hx rfl (hb hby d6_26) rfl rfl (l' := #[rv a1, iv (0 : Int32), iv (3 : Int32), rv b101, iv (0 : Int32), rv t103]) rfl) ?_
    refine Go.via (fun _ => XS.aload X103.here hx rfl (hb hby d6_28) rfl rfl) ?_
    refine Go.via (fun _ => XS.iload X103.here hx rfl (hb hby d6_30) rfl) ?_
    obtain ⟨_, _, ⟨T104, L104, k104, n104⟩, -, X104, ⟨Lc104, hQ104, l104, y104, z104⟩, st104⟩ := Jvm.LawKit.callS X103 hx (y := (⟨"java/lang/StringUTF16", "getChar", "([BI)C"⟩ : MethodName)) hown (mvT hZ (ow hw 101 rfl)) (mvT hZ (ow hw 102 rfl)) (mvT hZ (ow hw 35 rfl)) (mvT hZ (ow hw 103 rfl)) (by decide) (backOf (W := 0) (rmGetC l Z a0 hw [] t103 kb103 (6 : Int32) _ (0 : Int32) c0 ccs vF T103.heap n0 Zs103 va103 ⟨by decide, by decide⟩ ⟨by decide, by decide⟩ rfl rfl (own_u16 c0 hr0.1 hr0.2) O103 G) hZ (ow hw 103 rfl) (ow hw 35 rfl) (by decide) (by decide)) (g := (mkF m 32 #[rv a1, iv (0 : Int32), iv (3 : Int32), rv b101, iv (0 : Int32), rv t103] [(.int (0 : Int32)), (.ref t103)])) rfl (by rw [hml]; rfl) (argsL := [(.ref t103), (.int (0 : Int32))]) (rest := []) (lenOf pd_3 rfl) rfl (by show 2 * 0 + _ ≤ _; exact Nat.le_of_eq rfl) (hb hby d6_32) (fun _ _ => ⟨rfl, rfl, (by decide : 2 + 0 ≤ _), (by decide : 9 + 0 ≤ _)⟩)
    dsimp only [Pt.U, Pt.locs, Pt.cells, Pt.slots] at X104 l104 y104 z104 st104 hQ104
    rw [l104, y104, z104] at X104
    replace X104 : Stand p l e _ _ m _ below meth c T104 _ 2 9 := X104
    obtain ⟨rfl, N104q, e104q⟩ := hQ104
    have N104 := Fr.app N103 N104q
    refine Go.via st104 ?_
    refine Go.via (fun _ => XS.sipush X104.here hx rfl (hb hby d6_35)) ?_
    refine Go.via (fun _ => XS.icmpYes X104.here hx rfl (pc0 := 38) (pc' := 54) rfl (hb hby d6_38) rfl (tlt hbig).2.2.1 (by decide) (by decide)) ?_
    show Go p e below _ (T104.setTop (mkF m 54 #[rv a1, iv (0 : Int32), iv (3 : Int32), rv b101, iv (0 : Int32), rv t103] []))
    refine Go.via (fun _ => XS.aload X104.here hx rfl (hb hby d6_54) rfl rfl) ?_
    exact own_retA X104 hx hlk Bd.returns rfl rfl (hb hby d6_56) (by show QD1_3 Z a1 kc1 c0 c1 c2 ccs vF h0 n0 _ T104.heap _; rw [e104q]; exact ⟨t103, kb103, rfl, N104, K103, sz_t103, Or.inr va103⟩) (by decide) (by decide)
  ·
    refine Go.via st102 ?_
    refine Go.via (fun _ => XS.istore X102.here hx rfl (hb hby d6_12) rfl (l' := #[rv a1, iv (0 : Int32), iv (3 : Int32), rv b101, iv (1 : Int32), .unset]) rfl) ?_
    refine Go.via (fun _ => XS.iload X102.here hx rfl (hb hby d6_14) rfl) ?_
    show Go p e below _ (T102.setTop (mkF m 16 #[rv a1, iv (0 : Int32), iv (3 : Int32), rv b101, iv (1 : Int32), .unset] [(.int (1 : Int32))]))
    refine Go.via (fun _ => XS.iloadN X102.here hx rfl (hb hby d6_16) rfl) ?_
    refine Go.via (fun _ => XS.icmpNo X102.here hx rfl (hb hby d6_17) rfl (by decide)) ?_
    refine Go.via (fun _ => XS.aloadN X102.here hx rfl (hb hby d6_20) rfl rfl) ?_
    refine Go.via (fun _ => XS.iloadN X102.here hx rfl (hb hby d6_21) rfl) ?_
    refine Go.via (fun _ => XS.iloadN X102.here hx rfl (hb hby d6_22) rfl) ?_
    obtain ⟨_, _, ⟨T105, L105, k105, n105⟩, -, X105, ⟨Lc105, hQ105, l105, y105, z105⟩, st105⟩ := Jvm.LawKit.callS X102 hx (y := (⟨"java/lang/StringUTF16", "toBytes", "([CII)[B"⟩ : MethodName)) hown (mvT hZ (ow hw 85 rfl)) (mvT hZ (ow hw 86 rfl)) (mvT hZ (ow hw 35 rfl)) (mvT hZ (ow hw 87 rfl)) (by decide) (backOf (W := 0) (rmTo_3 l Z a0 hw [] a1 kc1 c0 c1 c2 ccs vF T102.heap n0 Zs102 fV_a1_102 O102 G) hZ (ow hw 87 rfl) (ow hw 35 rfl) (by decide) (by decide)) (g := (mkF m 23 #[rv a1, iv (0 : Int32), iv (3 : Int32), rv b101, iv (1 : Int32), .unset] [(.int (3 : Int32)), (.int (0 : Int32)), (.ref a1)])) rfl (by rw [hml]; rfl) (argsL := [(.ref a1), (.int (0 : Int32)), (.int (3 : Int32))]) (rest := []) (lenOf pd_15 rfl) rfl (by show 2 * 0 + _ ≤ _; exact Nat.le_of_eq rfl) (hb hby d6_23) (fun _ _ => ⟨rfl, rfl, (by decide : 1 + 1 ≤ _), (by decide : 3 + 6 ≤ _)⟩)
    dsimp only [Pt.U, Pt.locs, Pt.cells, Pt.slots] at X105 l105 y105 z105 st105 hQ105
    rw [l105, y105, z105] at X105
    replace X105 : Stand p l e _ _ m _ below meth c T105 _ 2 9 := X105
    obtain ⟨t105, kb105, rfl, N105q, K105q, gt105, va105⟩ := hQ105
    have N105 := Fr.app N102 N105q
    refine Go.via st105 ?_
    have Zs105 : n0 ≤ T105.heap.size := Nat.le_trans Zs102 K105q.1
    have O105 : Old Z n0 T105.heap := O102.keep K105q all0
    have K105 : Keep h0 T105.heap [] := K102.trans K105q all0
    have fV_a1_105 := fV_a1_102.keep K105q nin0
    have g_t105 : n0 ≤ t105 := Nat.le_trans Zs102 gt105
    have ne_a1_t105 : a1 ≠ t105 := Nat.ne_of_lt (Nat.lt_of_lt_of_le fV_a1_102.lt gt105)
    have sz_t105 : h0.size ≤ t105 := Nat.le_trans K102.1 gt105
    show Go p e below _ (T105.setTop (mkF m 26 #[rv a1, iv (0 : Int32), iv (3 : Int32), rv b101, iv (1 : Int32), .unset] [(.ref t105)]))
    refine Go.via (fun _ => XS.astore X105.here hx rfl (hb hby d6_26) rfl rfl (l' := #[rv a1, iv (0 : Int32), iv (3 : Int32), rv b101, iv (1 : Int32), rv t105]) rfl) ?_
    refine Go.via (fun _ => XS.aload X105.here hx rfl (hb hby d6_28) rfl rfl) ?_
    refine Go.via (fun _ => XS.iload X105.here hx rfl (hb hby d6_30) rfl) ?_
    obtain ⟨_, _, ⟨T106, L106, k106, n106⟩, -, X106, ⟨Lc106, hQ106, l106, y106, z106⟩, st106⟩ := Jvm.LawKit.callS X105 hx (y := (⟨"java/lang/StringUTF16", "getChar", "([BI)C"⟩ : MethodName)) hown (mvT hZ (ow hw 101 rfl)) (mvT hZ (ow hw 102 rfl)) (mvT hZ (ow hw 35 rfl)) (mvT hZ (ow hw 103 rfl)) (by decide) (backOf (W := 0) (rmGetC l Z a0 hw [] t105 kb105 (6 : Int32) _ (1 : Int32) c1 ccs vF T105.heap n0 Zs105 va105 ⟨by decide, by decide⟩ ⟨by decide, by decide⟩ rfl rfl (own_u16 c1 hr1.1 hr1.2) O105 G) hZ (ow hw 103 rfl) (ow hw 35 rfl) (by decide) (by decide)) (g := (mkF m 32 #[rv a1, iv (0 : Int32), iv (3 : Int32), rv b101, iv (1 : Int32), rv t105] [(.int (1 : Int32)), (.ref t105)])) rfl (by rw [hml]; rfl) (argsL := [(.ref t105), (.int (1 : Int32))]) (rest := []) (lenOf pd_3 rfl) rfl (by show 2 * 0 + _ ≤ _; exact Nat.le_of_eq rfl) (hb hby d6_32) (fun _ _ => ⟨rfl, rfl, (by decide : 2 + 0 ≤ _), (by decide : 9 + 0 ≤ _)⟩)
    dsimp only [Pt.U, Pt.locs, Pt.cells, Pt.slots] at X106 l106 y106 z106 st106 hQ106
    rw [l106, y106, z106] at X106
    replace X106 : Stand p l e _ _ m _ below meth c T106 _ 2 9 := X106
    obtain ⟨rfl, N106q, e106q⟩ := hQ106
    have N106 := Fr.app N105 N106q
    refine Go.via st106 ?_
    refine Go.via (fun _ => XS.sipush X106.here hx rfl (hb hby d6_35)) ?_
    refine Go.via (fun _ => XS.icmpYes X106.here hx rfl (pc0 := 38) (pc' := 54) rfl (hb hby d6_38) rfl (tlt hbig).2.2.1 (by decide) (by decide)) ?_
    show Go p e below _ (T106.setTop (mkF m 54 #[rv a1, iv (0 : Int32), iv (3 : Int32), rv b101, iv (1 : Int32), rv t105] []))
    refine Go.via (fun _ => XS.aload X106.here hx rfl (hb hby d6_54) rfl rfl) ?_
    exact own_retA X106 hx hlk Bd.returns rfl rfl (hb hby d6_56) (by show QD1_3 Z a1 kc1 c0 c1 c2 ccs vF h0 n0 _ T106.heap _; rw [e106q]; exact ⟨t105, kb105, rfl, N106, K105, sz_t105, Or.inr va105⟩) (by decide) (by decide)
  ·
    refine Go.via st102 ?_
    refine Go.via (fun _ => XS.istore X102.here hx rfl (hb hby d6_12) rfl (l' := #[rv a1, iv (0 : Int32), iv (3 : Int32), rv b101, iv (2 : Int32), .unset]) rfl) ?_
    refine Go.via (fun _ => XS.iload X102.here hx rfl (hb hby d6_14) rfl) ?_
    show Go p e below _ (T102.setTop (mkF m 16 #[rv a1, iv (0 : Int32), iv (3 : Int32), rv b101, iv (2 : Int32), .unset] [(.int (2 : Int32))]))
    refine Go.via (fun _ => XS.iloadN X102.here hx rfl (hb hby d6_16) rfl) ?_
    refine Go.via (fun _ => XS.icmpNo X102.here hx rfl (hb hby d6_17) rfl (by decide)) ?_
    refine Go.via (fun _ => XS.aloadN X102.here hx rfl (hb hby d6_20) rfl rfl) ?_
    refine Go.via (fun _ => XS.iloadN X102.here hx rfl (hb hby d6_21) rfl) ?_
    refine Go.via (fun _ => XS.iloadN X102.here hx rfl (hb hby d6_22) rfl) ?_
    obtain ⟨_, _, ⟨T107, L107, k107, n107⟩, -, X107, ⟨Lc107, hQ107, l107, y107, z107⟩, st107⟩ := Jvm.LawKit.callS X102 hx (y := (⟨"java/lang/StringUTF16", "toBytes", "([CII)[B"⟩ : MethodName)) hown (mvT hZ (ow hw 85 rfl)) (mvT hZ (ow hw 86 rfl)) (mvT hZ (ow hw 35 rfl)) (mvT hZ (ow hw 87 rfl)) (by decide) (backOf (W := 0) (rmTo_3 l Z a0 hw [] a1 kc1 c0 c1 c2 ccs vF T102.heap n0 Zs102 fV_a1_102 O102 G) hZ (ow hw 87 rfl) (ow hw 35 rfl) (by decide) (by decide)) (g := (mkF m 23 #[rv a1, iv (0 : Int32), iv (3 : Int32), rv b101, iv (2 : Int32), .unset] [(.int (3 : Int32)), (.int (0 : Int32)), (.ref a1)])) rfl (by rw [hml]; rfl) (argsL := [(.ref a1), (.int (0 : Int32)), (.int (3 : Int32))]) (rest := []) (lenOf pd_15 rfl) rfl (by show 2 * 0 + _ ≤ _; exact Nat.le_of_eq rfl) (hb hby d6_23) (fun _ _ => ⟨rfl, rfl, (by decide : 1 + 1 ≤ _), (by decide : 3 + 6 ≤ _)⟩)
    dsimp only [Pt.U, Pt.locs, Pt.cells, Pt.slots] at X107 l107 y107 z107 st107 hQ107
    rw [l107, y107, z107] at X107
    replace X107 : Stand p l e _ _ m _ below meth c T107 _ 2 9 := X107
    obtain ⟨t107, kb107, rfl, N107q, K107q, gt107, va107⟩ := hQ107
    have N107 := Fr.app N102 N107q
    refine Go.via st107 ?_
    have Zs107 : n0 ≤ T107.heap.size := Nat.le_trans Zs102 K107q.1
    have O107 : Old Z n0 T107.heap := O102.keep K107q all0
    have K107 : Keep h0 T107.heap [] := K102.trans K107q all0
    have fV_a1_107 := fV_a1_102.keep K107q nin0
    have g_t107 : n0 ≤ t107 := Nat.le_trans Zs102 gt107
    have ne_a1_t107 : a1 ≠ t107 := Nat.ne_of_lt (Nat.lt_of_lt_of_le fV_a1_102.lt gt107)
    have sz_t107 : h0.size ≤ t107 := Nat.le_trans K102.1 gt107
    show Go p e below _ (T107.setTop (mkF m 26 #[rv a1, iv (0 : Int32), iv (3 : Int32), rv b101, iv (2 : Int32), .unset] [(.ref t107)]))
    refine Go.via (fun _ => XS.astore X107.here hx rfl (hb hby d6_26) rfl rfl (l' := #[rv a1, iv (0 : Int32), iv (3 : Int32), rv b101, iv (2 : Int32), rv t107]) rfl) ?_
    refine Go.via (fun _ => XS.aload X107.here hx rfl (hb hby d6_28) rfl rfl) ?_
    refine Go.via (fun _ => XS.iload X107.here hx rfl (hb hby d6_30) rfl) ?_
    obtain ⟨_, _, ⟨T108, L108, k108, n108⟩, -, X108, ⟨Lc108, hQ108, l108, y108, z108⟩, st108⟩ := Jvm.LawKit.callS X107 hx (y := (⟨"java/lang/StringUTF16", "getChar", "([BI)C"⟩ : MethodName)) hown (mvT hZ (ow hw 101 rfl)) (mvT hZ (ow hw 102 rfl)) (mvT hZ (ow hw 35 rfl)) (mvT hZ (ow hw 103 rfl)) (by decide) (backOf (W := 0) (rmGetC l Z a0 hw [] t107 kb107 (6 : Int32) _ (2 : Int32) c2 ccs vF T107.heap n0 Zs107 va107 ⟨by decide, by decide⟩ ⟨by decide, by decide⟩ rfl rfl (own_u16 c2 hr2.1 hr2.2) O107 G) hZ (ow hw 103 rfl) (ow hw 35 rfl) (by decide) (by decide)) (g := (mkF m 32 #[rv a1, iv (0 : Int32), iv (3 : Int32), rv b101, iv (2 : Int32), rv t107] [(.int (2 : Int32)), (.ref t107)])) rfl (by rw [hml]; rfl) (argsL := [(.ref t107), (.int (2 : Int32))]) (rest := []) (lenOf pd_3 rfl) rfl (by show 2 * 0 + _ ≤ _; exact Nat.le_of_eq rfl) (hb hby d6_32) (fun _ _ => ⟨rfl, rfl, (by decide : 2 + 0 ≤ _), (by decide : 9 + 0 ≤ _)⟩)
    dsimp only [Pt.U, Pt.locs, Pt.cells, Pt.slots] at X108 l108 y108 z108 st108 hQ108
    rw [l108, y108, z108] at X108
    replace X108 : Stand p l e _ _ m _ below meth c T108 _ 2 9 := X108
    obtain ⟨rfl, N108q, e108q⟩ := hQ108
    have N108 := Fr.app N107 N108q
    refine Go.via st108 ?_
    refine Go.via (fun _ => XS.sipush X108.here hx rfl (hb hby d6_35)) ?_
    refine Go.via (fun _ => XS.icmpYes X108.here hx rfl (pc0 := 38) (pc' := 54) rfl (hb hby d6_38) rfl (tlt hbig).2.2.1 (by decide) (by decide)) ?_
    show Go p e below _ (T108.setTop (mkF m 54 #[rv a1, iv (0 : Int32), iv (3 : Int32), rv b101, iv (2 : Int32), rv t107] []))
    refine Go.via (fun _ => XS.aload X108.here hx rfl (hb hby d6_54) rfl rfl) ?_
    exact own_retA X108 hx hlk Bd.returns rfl rfl (hb hby d6_56) (by show QD1_3 Z a1 kc1 c0 c1 c2 ccs vF h0 n0 _ T108.heap _; rw [e108q]; exact ⟨t107, kb107, rfl, N108, K107, sz_t107, Or.inr va107⟩) (by decide) (by decide)
theorem ef_rmCL_3_3 (m : MethodId) (x0 : Addr) : entryFrame m #[(.ref x0), (.int (3 : Int32))] 2 = mkF m 0 #[rv x0, iv (3 : Int32)] [] := by first | (simp [entryFrame, mkF, argsToLocals, Value.category]; done) | rfl
def QCL_3_3 (Z : State) (b1 : Addr) (kc2 : ClassId) (vs : List Value) (h0 : Heap) (n0 : Nat) (v : Option Value) (h : Heap) (L : List Loc) : Prop := v = some (.int (0 : Int32)) ∧ Fr n0 L ∧ h = h0
set_option maxRecDepth 65536 in
set_option maxHeartbeats 40000000 in
theorem rmCL_3_3 (l : Launch) (Z : State) (a0 : Array Value) (hw : TW Z a0) (ws : List Jvm.Cond) (b1 : Addr) (kc2 : ClassId) (vs : List Value) (h0 : Heap) (n0 : Nat) (Z0 : n0 ≤ h0.size) (V2 : Arv Z h0 b1 kc2 .byte (3 : Int32) vs (.int (0 : Int32))) :
    MF l Z (⟨"java/lang/StringUTF16", "coderFromArrayLen", "([BI)B"⟩ : MethodName) jdk_52_method_15_code 2 (some .byte) ws (rmm 0 0 0 0) #[(.ref b1), (.int (3 : Int32))] h0 (QCL_3_3 Z b1 kc2 vs h0 n0) := by
  refine MetFree.of_bodySF (plainFor_of_name pn_java_lang_StringUTF16) hisR ?_
  intro p e s m args below meth c s₁ Bd hml0 hP hK
  obtain ⟨rfl, hZ, hh⟩ := hP
  have hx := Bd.exec
  have hby := Bd.bytes
  have hlk : meth.locks = false := Bd.notSynchronized
  have hml : c.maxLocals = 2 := hml0
  have hown : s.vm.findClass "java/lang/StringUTF16" = some m.cls := findClass_of_methodNamed Bd.named
  have hnm := (name_of_methodNamed Bd.named Bd.method).1
  have X0 : Stand p l e (rmm 0 0 0 0) s m #[(.ref b1), (.int (3 : Int32))] below meth c s₁ [] 0 0 := Stand.of_body Bd
  have e0 : s₁.heap = h0 := by rw [← hh, Bd.state]; rfl
  have N0 := Fr.nil n0
  show Go p e below (FinE s below (QCL_3_3 Z b1 kc2 vs h0 n0) (rmm 0 0 0 0).cells (rmm 0 0 0 0).slots) (s₁.setTop (entryFrame m #[(.ref b1), (.int (3 : Int32))] 2))
  refine Go.via (fun t k => castTop (ef_rmCL_3_3 m b1) k) ?_
  refine Go.via (fun _ => XS.iloadN X0.here hx rfl (hb hby d8_0) rfl) ?_
  refine Go.via (fun _ => XS.aloadN X0.here hx rfl (hb hby d8_1) rfl rfl) ?_
  obtain ⟨cl101, Ar101, -, S101, N101n, -, -⟩ := id V2
  have al101 := X0.arraylength hx (by rw [e0]; exact Ar101.1) (State.isArrayOf_alike hZ.alike Ar101.2.1) (g := (mkF m 2 #[rv b1, iv (3 : Int32)] [(.ref b1), (.int (3 : Int32))])) rfl rfl (hb hby d8_2)
  rw [len_of S101 N101n] at al101
  refine Go.via al101 ?_
  refine Go.via (fun _ => XS.isub X0.here hx rfl (hb hby d8_3) rfl) ?_
  refine Go.via (fun _ => XS.bipush X0.here hx rfl (hb hby d8_4)) ?_
  show Go p e below _ (s₁.setTop (mkF m 6 #[rv b1, iv (3 : Int32)] [(.int (31 : Int32)), (.int (0 : Int32))]))
  refine Go.via (fun _ => XS.iushr X0.here hx rfl (hb hby d8_6) rfl) ?_
  refine Go.via (fun _ => XS.i2b X0.here hx rfl (hb hby d8_7) rfl) ?_
  exact own_retN X0 hx hlk (t := .byte) Bd.returns (by simp) (hb hby d8_8) (by show QCL_3_3 Z b1 kc2 vs h0 n0 _ s₁.heap _; rw [e0]; exact ⟨rfl, N0, rfl⟩) (by decide) (by decide)
theorem ef_rmCL_6_3 (m : MethodId) (x0 : Addr) : entryFrame m #[(.ref x0), (.int (3 : Int32))] 2 = mkF m 0 #[rv x0, iv (3 : Int32)] [] := by first | (simp [entryFrame, mkF, argsToLocals, Value.category]; done) | rfl
def QCL_6_3 (Z : State) (b1 : Addr) (kc2 : ClassId) (vs : List Value) (h0 : Heap) (n0 : Nat) (v : Option Value) (h : Heap) (L : List Loc) : Prop := v = some (.int (1 : Int32)) ∧ Fr n0 L ∧ h = h0
set_option maxRecDepth 65536 in
set_option maxHeartbeats 40000000 in
theorem rmCL_6_3 (l : Launch) (Z : State) (a0 : Array Value) (hw : TW Z a0) (ws : List Jvm.Cond) (b1 : Addr) (kc2 : ClassId) (vs : List Value) (h0 : Heap) (n0 : Nat) (Z0 : n0 ≤ h0.size) (V2 : Arv Z h0 b1 kc2 .byte (6 : Int32) vs (.int (0 : Int32))) :
    MF l Z (⟨"java/lang/StringUTF16", "coderFromArrayLen", "([BI)B"⟩ : MethodName) jdk_52_method_15_code 2 (some .byte) ws (rmm 0 0 0 0) #[(.ref b1), (.int (3 : Int32))] h0 (QCL_6_3 Z b1 kc2 vs h0 n0) := by
  refine MetFree.of_bodySF (plainFor_of_name pn_java_lang_StringUTF16) hisR ?_
  intro p e s m args below meth c s₁ Bd hml0 hP hK
  obtain ⟨rfl, hZ, hh⟩ := hP
  have hx := Bd.exec
  have hby := Bd.bytes
  have hlk : meth.locks = false := Bd.notSynchronized
  have hml : c.maxLocals = 2 := hml0
  have hown : s.vm.findClass "java/lang/StringUTF16" = some m.cls := findClass_of_methodNamed Bd.named
  have hnm := (name_of_methodNamed Bd.named Bd.method).1
  have X0 : Stand p l e (rmm 0 0 0 0) s m #[(.ref b1), (.int (3 : Int32))] below meth c s₁ [] 0 0 := Stand.of_body Bd
  have e0 : s₁.heap = h0 := by rw [← hh, Bd.state]; rfl
  have N0 := Fr.nil n0
  show Go p e below (FinE s below (QCL_6_3 Z b1 kc2 vs h0 n0) (rmm 0 0 0 0).cells (rmm 0 0 0 0).slots) (s₁.setTop (entryFrame m #[(.ref b1), (.int (3 : Int32))] 2))
  refine Go.via (fun t k => castTop (ef_rmCL_6_3 m b1) k) ?_
  refine Go.via (fun _ => XS.iloadN X0.here hx rfl (hb hby d8_0) rfl) ?_
  refine Go.via (fun _ => XS.aloadN X0.here hx rfl (hb hby d8_1) rfl rfl) ?_
  obtain ⟨cl101, Ar101, -, S101, N101n, -, -⟩ := id V2
  have al101 := X0.arraylength hx (by rw [e0]; exact Ar101.1) (State.isArrayOf_alike hZ.alike Ar101.2.1) (g := (mkF m 2 #[rv b1, iv (3 : Int32)] [(.ref b1), (.int (3 : Int32))])) rfl rfl (hb hby d8_2)
  rw [len_of S101 N101n] at al101
  refine Go.via al101 ?_
  refine Go.via (fun _ => XS.isub X0.here hx rfl (hb hby d8_3) rfl) ?_
  refine Go.via (fun _ => XS.bipush X0.here hx rfl (hb hby d8_4)) ?_
  show Go p e below _ (s₁.setTop (mkF m 6 #[rv b1, iv (3 : Int32)] [(.int (31 : Int32)), (.int (-3 : Int32))]))
  refine Go.via (fun _ => XS.iushr X0.here hx rfl (hb hby d8_6) rfl) ?_
  refine Go.via (fun _ => XS.i2b X0.here hx rfl (hb hby d8_7) rfl) ?_
  exact own_retN X0 hx hlk (t := .byte) Bd.returns (by simp) (hb hby d8_8) (by show QCL_6_3 Z b1 kc2 vs h0 n0 _ s₁.heap _; rw [e0]; exact ⟨rfl, N0, rfl⟩) (by decide) (by decide)
theorem ef_rmJ4_3 (m : MethodId) (x0 : Addr) (x1 : Addr) : entryFrame m #[(.ref x0), (.ref x1), (.int (0 : Int32)), (.int (3 : Int32)), .null] 6 = mkF m 0 #[rv x0, rv x1, iv (0 : Int32), iv (3 : Int32), .val .null, .unset] [] := by first | (simp [entryFrame, mkF, argsToLocals, Value.category]; done) | rfl
set_option maxRecDepth 65536 in
set_option maxHeartbeats 40000000 in
theorem rmJ4_3 (l : Launch) (Z : State) (a0 : Array Value) (hw : TW Z a0) (ws : List Jvm.Cond) (a1 : Addr) (a2 : Addr) (kc1 : ClassId) (c0 : Int32) (c1 : Int32) (c2 : Int32) (ccs : Int32) (vF : Value) (h0 : Heap) (n0 : Nat) (Z0 : n0 ≤ h0.size) (E1 : Exa Z h0 a1 "java/lang/String") (F1 : Fld Z h0 a1 "java/lang/String" "value" "[B" .null) (F2 : Fld Z h0 a1 "java/lang/String" "coder" "B" (.int (0 : Int32))) (g1 : n0 ≤ a1) (ne1 : a1 ≠ a2) (V1 : Arv Z h0 a2 kc1 .char (3 : Int32) [(.int c0), (.int c1), (.int c2)] (.int (0 : Int32))) (hr0 : ¬ (c0 < (0 : Int32)) ∧ ¬ ((65535 : Int32) < c0)) (hr1 : ¬ (c1 < (0 : Int32)) ∧ ¬ ((65535 : Int32) < c1)) (hr2 : ¬ (c2 < (0 : Int32)) ∧ ¬ ((65535 : Int32) < c2)) (O0 : Old Z n0 h0) (G : SG Z ccs vF) :
    MF l Z (⟨"java/lang/String", "<init>", "([CIILjava/lang/Void;)V"⟩ : MethodName) jdk_42_method_149_code 6 none ws (rmm 4 2 9 57) #[(.ref a1), (.ref a2), (.int (0 : Int32)), (.int (3 : Int32)), .null] h0 (QTx3 Z a1 c0 c1 c2 h0 n0) := by
  refine MetFree.of_bodySF (plainFor_of_name pn_java_lang_String) hisR ?_
  intro p e s m args below meth c s₁ Bd hml0 hP hK
  obtain ⟨rfl, hZ, hh⟩ := hP
  have hx := Bd.exec
  have hby := Bd.bytes
  have hlk : meth.locks = false := Bd.notSynchronized
  have hml : c.maxLocals = 6 := hml0
  have hown : s.vm.findClass "java/lang/String" = some m.cls := findClass_of_methodNamed Bd.named
  have hnm := (name_of_methodNamed Bd.named Bd.method).1
  have rF := G.2.2.2.2.2.2
  have hcs := G.2.1
  have X0 : Stand p l e (rmm 4 2 9 57) s m #[(.ref a1), (.ref a2), (.int (0 : Int32)), (.int (3 : Int32)), .null] below meth c s₁ [] 0 0 := Stand.of_body Bd
  have e0 : s₁.heap = h0 := by rw [← hh, Bd.state]; rfl
  have N0 := Fr.nil n0
  show Go p e below (FinE s below (QTx3 Z a1 c0 c1 c2 h0 n0) (rmm 4 2 9 57).cells (rmm 4 2 9 57).slots) (s₁.setTop (entryFrame m #[(.ref a1), (.ref a2), (.int (0 : Int32)), (.int (3 : Int32)), .null] 6))
  refine Go.via (fun t k => castTop (ef_rmJ4_3 m a1 a2) k) ?_
  refine Go.via (fun _ => XS.aloadN X0.here hx rfl (hb hby d2_0) rfl rfl) ?_
  obtain ⟨T101, X101, e101, st101⟩ := initO X0 hx hZ hown (ow hw 12 rfl) (ow hw 13 rfl) (ow hw 14 rfl) e0 (g := (mkF m 1 #[rv a1, rv a2, iv (0 : Int32), iv (3 : Int32), .val .null, .unset] [(.ref a1)])) rfl (by rw [hml]; rfl) rfl (hb hby d2_1) (by decide) (W := 0) (by show 2 * 0 + _ ≤ _; exact Nat.le_of_eq rfl) (by decide)
  refine Go.via st101 ?_
  refine Go.via (fun _ => XS.iloadN X101.here hx rfl (hb hby d2_4) rfl) ?_
  refine Go.via (fun _ => XS.ifYes X101.here hx rfl (pc0 := 5) (pc' := 27) rfl (hb hby d2_5) rfl (by decide) (by decide) (by decide)) ?_
  obtain ⟨T102, X102, e102, st102⟩ := getS2 X101 hx hZ hown (host := "") (Or.inl (ow hw 32 rfl)) Via.refl e101 (G.1.ext O0.2) (g := (mkF m 27 #[rv a1, rv a2, iv (0 : Int32), iv (3 : Int32), .val .null, .unset] [])) rfl (hb hby d2_27)
  refine Go.via st102 ?_
  show Go p e below _ (T102.setTop (mkF m 30 #[rv a1, rv a2, iv (0 : Int32), iv (3 : Int32), .val .null, .unset] [(.int ccs)]))
  refine Go.via (fun _ => XS.ifNo X102.here hx rfl (hb hby d2_30) rfl ((if0 _ _).trans (feq hcs).1)) ?_
  refine Go.via (fun _ => XS.aloadN X102.here hx rfl (hb hby d2_33) rfl rfl) ?_
  refine Go.via (fun _ => XS.iloadN X102.here hx rfl (hb hby d2_34) rfl) ?_
  refine Go.via (fun _ => XS.iloadN X102.here hx rfl (hb hby d2_35) rfl) ?_
  obtain ⟨_, _, ⟨T103, L103, k103, n103⟩, -, X103, ⟨Lc103, hQ103, l103, y103, z103⟩, st103⟩ := Jvm.LawKit.callS X102 hx (y := (⟨"java/lang/StringUTF16", "compress", "([CII)[B"⟩ : MethodName)) hown (mvT hZ (ow hw 33 rfl)) (mvT hZ (ow hw 34 rfl)) (mvT hZ (ow hw 35 rfl)) (mvT hZ (ow hw 36 rfl)) (by decide) (backOf (W := 0) (rmD1_3 l Z a0 hw [] a2 kc1 c0 c1 c2 ccs vF h0 n0 Z0 V1 hr0 hr1 hr2 O0 G) hZ (ow hw 36 rfl) (ow hw 35 rfl) (by decide) (by decide)) (g := (mkF m 36 #[rv a1, rv a2, iv (0 : Int32), iv (3 : Int32), .val .null, .unset] [(.int (3 : Int32)), (.int (0 : Int32)), (.ref a2)])) rfl (by rw [hml]; rfl) (argsL := [(.ref a2), (.int (0 : Int32)), (.int (3 : Int32))]) (rest := []) (lenOf pd_15 rfl) rfl (by show 2 * 0 + _ ≤ _; exact Nat.le_of_eq rfl) (hb hby d2_36) (fun _ _ => ⟨rfl, e102, (by decide : 0 + 2 ≤ _), (by decide : 0 + 9 ≤ _)⟩)
  dsimp only [Pt.U, Pt.locs, Pt.cells, Pt.slots] at X103 l103 y103 z103 st103 hQ103
  rw [l103, y103, z103] at X103
  replace X103 : Stand p l e _ _ m _ below meth c T103 _ 2 9 := X103
  obtain ⟨t103, kb103, rfl, N103q, K103q, gt103, alt103⟩ := hQ103
  have N103 := Fr.app N0 N103q
  have Zs103 : n0 ≤ T103.heap.size := Nat.le_trans Z0 K103q.1
  have O103 : Old Z n0 T103.heap := O0.keep K103q all0
  have K103 : Keep h0 T103.heap [a1] := (Keep.refl h0 [a1]).trans K103q all0
  have fE_a1_103 := E1.keep K103q
  have fF_a1_value_103 := F1.keep K103q nin0
  have fF_a1_coder_103 := F2.keep K103q nin0
  have fV_a2_103 := V1.keep K103q nin0
  rcases alt103 with ⟨va103, hl0, hl1, hl2⟩ | va103
  ·
    refine Go.via st103 ?_
    have g_t103 : n0 ≤ t103 := Nat.le_trans Z0 gt103
    have ne_a1_t103 : a1 ≠ t103 := Nat.ne_of_lt (Nat.lt_of_lt_of_le E1.lt gt103)
    have ne_a2_t103 : a2 ≠ t103 := Nat.ne_of_lt (Nat.lt_of_lt_of_le V1.lt gt103)
    have sz_t103 : h0.size ≤ t103 := Nat.le_trans (Keep.refl h0 [a1]).1 gt103
    refine Go.via (fun _ => XS.astore X103.here hx rfl (hb hby d2_39) rfl rfl (l' := #[rv a1, rv a2, iv (0 : Int32), iv (3 : Int32), .val .null, rv t103]) rfl) ?_
    show Go p e below _ (T103.setTop (mkF m 41 #[rv a1, rv a2, iv (0 : Int32), iv (3 : Int32), .val .null, rv t103] []))
    refine Go.via (fun _ => XS.aloadN X103.here hx rfl (hb hby d2_41) rfl rfl) ?_
    refine Go.via (fun _ => XS.aload X103.here hx rfl (hb hby d2_42) rfl rfl) ?_
    refine Go.via (fun _ => XS.iloadN X103.here hx rfl (hb hby d2_44) rfl) ?_
    obtain ⟨_, _, ⟨T104, L104, k104, n104⟩, -, X104, ⟨Lc104, hQ104, l104, y104, z104⟩, st104⟩ := Jvm.LawKit.callS X103 hx (y := (⟨"java/lang/StringUTF16", "coderFromArrayLen", "([BI)B"⟩ : MethodName)) hown (mvT hZ (ow hw 40 rfl)) (mvT hZ (ow hw 41 rfl)) (mvT hZ (ow hw 35 rfl)) (mvT hZ (ow hw 42 rfl)) (by decide) (backOf (W := 1) (rmCL_3_3 l Z a0 hw [] t103 kb103 _ T103.heap n0 Zs103 va103) hZ (ow hw 42 rfl) (ow hw 35 rfl) (by decide) (by decide)) (g := (mkF m 45 #[rv a1, rv a2, iv (0 : Int32), iv (3 : Int32), .val .null, rv t103] [(.int (3 : Int32)), (.ref t103), (.ref a1)])) rfl (by rw [hml]; rfl) (argsL := [(.ref t103), (.int (3 : Int32))]) (rest := [(.ref a1)]) (lenOf pd_16 rfl) rfl (by show 2 * 0 + _ ≤ _; exact Nat.le_of_eq rfl) (hb hby d2_45) (fun _ _ => ⟨rfl, rfl, (by decide : 2 + 0 ≤ _), (by decide : 9 + 0 ≤ _)⟩)
    dsimp only [Pt.U, Pt.locs, Pt.cells, Pt.slots] at X104 l104 y104 z104 st104 hQ104
    rw [l104, y104, z104] at X104
    replace X104 : Stand p l e _ _ m _ below meth c T104 _ 2 9 := X104
    obtain ⟨rfl, N104q, e104q⟩ := hQ104
    have N104 := Fr.app N103 N104q
    refine Go.via st104 ?_
    obtain ⟨T105, h105, X105, e105, W105, st105⟩ := putFN X104 hx hZ hown (ow hw 22 rfl) Via.refl e104q fF_a1_coder_103 fE_a1_103 (Or.inr ⟨(ow hw 18 rfl), rfl, hnm⟩) (ow hw 3 rfl) (ty := .byte) (v' := .int (nar .byte (0 : Int32))) (by decide) rfl (fits_nar_byte _) (g := (mkF m 48 #[rv a1, rv a2, iv (0 : Int32), iv (3 : Int32), .val .null, rv t103] [(.int (0 : Int32)), (.ref a1)])) rfl rfl (hb hby d2_48)
    refine Go.via st105 ?_
    have fF_a1_coder_105 : Fld Z h105 a1 "java/lang/String" "coder" "B" (.int (0 : Int32)) := fF_a1_coder_103.same W105
    have Zs105 : n0 ≤ h105.size := Nat.le_trans Zs103 (Keep.of_wr W105).1
    have O105 : Old Z n0 h105 := O103.wr W105 g1
    have K105 : Keep h0 h105 [a1] := K103.wr W105 (Or.inl (List.mem_of_getElem? (i := 0) rfl))
    have N105 := Fr.snoc X105 N104 g1
    have fE_a1_105 := fE_a1_103.wr W105
    have fF_a1_value_105 := fF_a1_value_103.other W105 (Or.inr (slot_ne (Or.inr (ow hw 17 rfl)) (Or.inr (ow hw 18 rfl)) (by decide) (t := (.array .byte)) (t' := .byte) (by decide) (by decide)))
    have fV_a2_105 := fV_a2_103.other W105 (Ne.symm ne1)
    have fV_t103_105 := va103.other W105 (Ne.symm ne_a1_t103)
    refine Go.via (fun _ => XS.aloadN X105.here hx rfl (hb hby d2_51) rfl rfl) ?_
    show Go p e below _ (T105.setTop (mkF m 52 #[rv a1, rv a2, iv (0 : Int32), iv (3 : Int32), .val .null, rv t103] [(.ref a1)]))
    refine Go.via (fun _ => XS.aload X105.here hx rfl (hb hby d2_52) rfl rfl) ?_
    obtain ⟨T106, h106, X106, e106, W106, st106⟩ := putF X105 hx hZ hown (host := "") (Or.inl (ow hw 21 rfl)) Via.refl e105 fF_a1_value_105 fE_a1_105 (Or.inr ⟨(ow hw 17 rfl), rfl, hnm⟩) (ow hw 3 rfl) (ty := (.array .byte)) (by decide) rfl rfl (g := (mkF m 54 #[rv a1, rv a2, iv (0 : Int32), iv (3 : Int32), .val .null, rv t103] [(.ref t103), (.ref a1)])) rfl rfl (hb hby d2_54)
    refine Go.via st106 ?_
    have fF_a1_value_106 : Fld Z h106 a1 "java/lang/String" "value" "[B" (.ref t103) := fF_a1_value_105.same W106
    have Zs106 : n0 ≤ h106.size := Nat.le_trans Zs105 (Keep.of_wr W106).1
    have O106 : Old Z n0 h106 := O105.wr W106 g1
    have K106 : Keep h0 h106 [a1] := K105.wr W106 (Or.inl (List.mem_of_getElem? (i := 0) rfl))
    have N106 := Fr.snoc X106 N105 g1
    have fE_a1_106 := fE_a1_105.wr W106
    have fF_a1_coder_106 := fF_a1_coder_105.other W106 (Or.inr (slot_ne (Or.inr (ow hw 18 rfl)) (Or.inr (ow hw 17 rfl)) (by decide) (t := .byte) (t' := (.array .byte)) (by decide) (by decide)))
    have fV_a2_106 := fV_a2_105.other W106 (Ne.symm ne1)
    have fV_t103_106 := fV_t103_105.other W106 (Ne.symm ne_a1_t103)
    exact own_retV X106 hx hlk Bd.returns (hb hby d2_57) (by show QTx3 Z a1 c0 c1 c2 h0 n0 _ T106.heap _; rw [e106]; exact ⟨rfl, N106, K106, Or.inl ⟨t103, kb103, fF_a1_value_106, fF_a1_coder_106, fV_t103_106, hl0, hl1, hl2⟩⟩) (by decide) (by decide)
  ·
    refine Go.via st103 ?_
    have g_t103 : n0 ≤ t103 := Nat.le_trans Z0 gt103
    have ne_a1_t103 : a1 ≠ t103 := Nat.ne_of_lt (Nat.lt_of_lt_of_le E1.lt gt103)
    have ne_a2_t103 : a2 ≠ t103 := Nat.ne_of_lt (Nat.lt_of_lt_of_le V1.lt gt103)
    have sz_t103 : h0.size ≤ t103 := Nat.le_trans (Keep.refl h0 [a1]).1 gt103
    refine Go.via (fun _ => XS.astore X103.here hx rfl (hb hby d2_39) rfl rfl (l' := #[rv a1, rv a2, iv (0 : Int32), iv (3 : Int32), .val .null, rv t103]) rfl) ?_
    show Go p e below _ (T103.setTop (mkF m 41 #[rv a1, rv a2, iv (0 : Int32), iv (3 : Int32), .val .null, rv t103] []))
    refine Go.via (fun _ => XS.aloadN X103.here hx rfl (hb hby d2_41) rfl rfl) ?_
    refine Go.via (fun _ => XS.aload X103.here hx rfl (hb hby d2_42) rfl rfl) ?_
    refine Go.via (fun _ => XS.iloadN X103.here hx rfl (hb hby d2_44) rfl) ?_
    obtain ⟨_, _, ⟨T107, L107, k107, n107⟩, -, X107, ⟨Lc107, hQ107, l107, y107, z107⟩, st107⟩ := Jvm.LawKit.callS X103 hx (y := (⟨"java/lang/StringUTF16", "coderFromArrayLen", "([BI)B"⟩ : MethodName)) hown (mvT hZ (ow hw 40 rfl)) (mvT hZ (ow hw 41 rfl)) (mvT hZ (ow hw 35 rfl)) (mvT hZ (ow hw 42 rfl)) (by decide) (backOf (W := 1) (rmCL_6_3 l Z a0 hw [] t103 kb103 _ T103.heap n0 Zs103 va103) hZ (ow hw 42 rfl) (ow hw 35 rfl) (by decide) (by decide)) (g := (mkF m 45 #[rv a1, rv a2, iv (0 : Int32), iv (3 : Int32), .val .null, rv t103] [(.int (3 : Int32)), (.ref t103), (.ref a1)])) rfl (by rw [hml]; rfl) (argsL := [(.ref t103), (.int (3 : Int32))]) (rest := [(.ref a1)]) (lenOf pd_16 rfl) rfl (by show 2 * 0 + _ ≤ _; exact Nat.le_of_eq rfl) (hb hby d2_45) (fun _ _ => ⟨rfl, rfl, (by decide : 2 + 0 ≤ _), (by decide : 9 + 0 ≤ _)⟩)
    dsimp only [Pt.U, Pt.locs, Pt.cells, Pt.slots] at X107 l107 y107 z107 st107 hQ107
    rw [l107, y107, z107] at X107
    replace X107 : Stand p l e _ _ m _ below meth c T107 _ 2 9 := X107
    obtain ⟨rfl, N107q, e107q⟩ := hQ107
    have N107 := Fr.app N103 N107q
    refine Go.via st107 ?_
    obtain ⟨T108, h108, X108, e108, W108, st108⟩ := putFN X107 hx hZ hown (ow hw 22 rfl) Via.refl e107q fF_a1_coder_103 fE_a1_103 (Or.inr ⟨(ow hw 18 rfl), rfl, hnm⟩) (ow hw 3 rfl) (ty := .byte) (v' := .int (nar .byte (1 : Int32))) (by decide) rfl (fits_nar_byte _) (g := (mkF m 48 #[rv a1, rv a2, iv (0 : Int32), iv (3 : Int32), .val .null, rv t103] [(.int (1 : Int32)), (.ref a1)])) rfl rfl (hb hby d2_48)
    refine Go.via st108 ?_
    have fF_a1_coder_108 : Fld Z h108 a1 "java/lang/String" "coder" "B" (.int (1 : Int32)) := fF_a1_coder_103.same W108
    have Zs108 : n0 ≤ h108.size := Nat.le_trans Zs103 (Keep.of_wr W108).1
    have O108 : Old Z n0 h108 := O103.wr W108 g1
    have K108 : Keep h0 h108 [a1] := K103.wr W108 (Or.inl (List.mem_of_getElem? (i := 0) rfl))
    have N108 := Fr.snoc X108 N107 g1
    have fE_a1_108 := fE_a1_103.wr W108
    have fF_a1_value_108 := fF_a1_value_103.other W108 (Or.inr (slot_ne (Or.inr (ow hw 17 rfl)) (Or.inr (ow hw 18 rfl)) (by decide) (t := (.array .byte)) (t' := .byte) (by decide) (by decide)))
    have fV_a2_108 := fV_a2_103.other W108 (Ne.symm ne1)
    have fV_t103_108 := va103.other W108 (Ne.symm ne_a1_t103)
    refine Go.via (fun _ => XS.aloadN X108.here hx rfl (hb hby d2_51) rfl rfl) ?_
    show Go p e below _ (T108.setTop (mkF m 52 #[rv a1, rv a2, iv (0 : Int32), iv (3 : Int32), .val .null, rv t103] [(.ref a1)]))
    refine Go.via (fun _ => XS.aload X108.here hx rfl (hb hby d2_52) rfl rfl) ?_
    obtain ⟨T109, h109, X109, e109, W109, st109⟩ := putF X108 hx hZ hown (host := "") (Or.inl (ow hw 21 rfl)) Via.refl e108 fF_a1_value_108 fE_a1_108 (Or.inr ⟨(ow hw 17 rfl), rfl, hnm⟩) (ow hw 3 rfl) (ty := (.array .byte)) (by decide) rfl rfl (g := (mkF m 54 #[rv a1, rv a2, iv (0 : Int32), iv (3 : Int32), .val .null, rv t103] [(.ref t103), (.ref a1)])) rfl rfl (hb hby d2_54)
    refine Go.via st109 ?_
    have fF_a1_value_109 : Fld Z h109 a1 "java/lang/String" "value" "[B" (.ref t103) := fF_a1_value_108.same W109
    have Zs109 : n0 ≤ h109.size := Nat.le_trans Zs108 (Keep.of_wr W109).1
    have O109 : Old Z n0 h109 := O108.wr W109 g1
    have K109 : Keep h0 h109 [a1] := K108.wr W109 (Or.inl (List.mem_of_getElem? (i := 0) rfl))
    have N109 := Fr.snoc X109 N108 g1
    have fE_a1_109 := fE_a1_108.wr W109
    have fF_a1_coder_109 := fF_a1_coder_108.other W109 (Or.inr (slot_ne (Or.inr (ow hw 18 rfl)) (Or.inr (ow hw 17 rfl)) (by decide) (t := .byte) (t' := (.array .byte)) (by decide) (by decide)))
    have fV_a2_109 := fV_a2_108.other W109 (Ne.symm ne1)
    have fV_t103_109 := fV_t103_108.other W109 (Ne.symm ne_a1_t103)
    exact own_retV X109 hx hlk Bd.returns (hb hby d2_57) (by show QTx3 Z a1 c0 c1 c2 h0 n0 _ T109.heap _; rw [e109]; exact ⟨rfl, N109, K109, Or.inr ⟨t103, kb103, fF_a1_value_109, fF_a1_coder_109, fV_t103_109⟩⟩) (by decide) (by decide)
theorem ef_rmJ1_3 (m : MethodId) (x0 : Addr) (x1 : Addr) : entryFrame m #[(.ref x0), (.ref x1)] 2 = mkF m 0 #[rv x0, rv x1] [] := by first | (simp [entryFrame, mkF, argsToLocals, Value.category]; done) | rfl
set_option maxRecDepth 65536 in
set_option maxHeartbeats 40000000 in
theorem rmJ1_3 (l : Launch) (Z : State) (a0 : Array Value) (hw : TW Z a0) (ws : List Jvm.Cond) (a1 : Addr) (a2 : Addr) (kc1 : ClassId) (c0 : Int32) (c1 : Int32) (c2 : Int32) (ccs : Int32) (vF : Value) (h0 : Heap) (n0 : Nat) (Z0 : n0 ≤ h0.size) (E1 : Exa Z h0 a1 "java/lang/String") (F1 : Fld Z h0 a1 "java/lang/String" "value" "[B" .null) (F2 : Fld Z h0 a1 "java/lang/String" "coder" "B" (.int (0 : Int32))) (g1 : n0 ≤ a1) (ne1 : a1 ≠ a2) (V1 : Arv Z h0 a2 kc1 .char (3 : Int32) [(.int c0), (.int c1), (.int c2)] (.int (0 : Int32))) (hr0 : ¬ (c0 < (0 : Int32)) ∧ ¬ ((65535 : Int32) < c0)) (hr1 : ¬ (c1 < (0 : Int32)) ∧ ¬ ((65535 : Int32) < c1)) (hr2 : ¬ (c2 < (0 : Int32)) ∧ ¬ ((65535 : Int32) < c2)) (O0 : Old Z n0 h0) (G : SG Z ccs vF) :
    MF l Z (⟨"java/lang/String", "<init>", "([C)V"⟩ : MethodName) jdk_42_method_3_code 2 none ws (rmm 5 2 9 74) #[(.ref a1), (.ref a2)] h0 (QTx3 Z a1 c0 c1 c2 h0 n0) := by
  refine MetFree.of_bodySF (plainFor_of_name pn_java_lang_String) hisR ?_
  intro p e s m args below meth c s₁ Bd hml0 hP hK
  obtain ⟨rfl, hZ, hh⟩ := hP
  have hx := Bd.exec
  have hby := Bd.bytes
  have hlk : meth.locks = false := Bd.notSynchronized
  have hml : c.maxLocals = 2 := hml0
  have hown : s.vm.findClass "java/lang/String" = some m.cls := findClass_of_methodNamed Bd.named
  have hnm := (name_of_methodNamed Bd.named Bd.method).1
  have rF := G.2.2.2.2.2.2
  have hcs := G.2.1
  have X0 : Stand p l e (rmm 5 2 9 74) s m #[(.ref a1), (.ref a2)] below meth c s₁ [] 0 0 := Stand.of_body Bd
  have e0 : s₁.heap = h0 := by rw [← hh, Bd.state]; rfl
  have N0 := Fr.nil n0
  show Go p e below (FinE s below (QTx3 Z a1 c0 c1 c2 h0 n0) (rmm 5 2 9 74).cells (rmm 5 2 9 74).slots) (s₁.setTop (entryFrame m #[(.ref a1), (.ref a2)] 2))
  refine Go.via (fun t k => castTop (ef_rmJ1_3 m a1 a2) k) ?_
  refine Go.via (fun _ => XS.aloadN X0.here hx rfl (hb hby d1_0) rfl rfl) ?_
  refine Go.via (fun _ => XS.aloadN X0.here hx rfl (hb hby d1_1) rfl rfl) ?_
  refine Go.via (fun _ => XS.iconst X0.here hx rfl (hb hby d1_2)) ?_
  refine Go.via (fun _ => XS.aloadN X0.here hx rfl (hb hby d1_3) rfl rfl) ?_
  obtain ⟨cl101, Ar101, -, S101, N101n, -, -⟩ := id V1
  have al101 := X0.arraylength hx (by rw [e0]; exact Ar101.1) (State.isArrayOf_alike hZ.alike Ar101.2.1) (g := (mkF m 4 #[rv a1, rv a2] [(.ref a2), (.int (0 : Int32)), (.ref a2), (.ref a1)])) rfl rfl (hb hby d1_4)
  rw [len_of S101 N101n] at al101
  refine Go.via al101 ?_
  show Go p e below _ (s₁.setTop (mkF m 5 #[rv a1, rv a2] [(.int (3 : Int32)), (.int (0 : Int32)), (.ref a2), (.ref a1)]))
  refine Go.via (fun _ => XS.aconstNull X0.here hx rfl (hb hby d1_5)) ?_
  obtain ⟨_, _, ⟨T102, L102, k102, n102⟩, -, X102, ⟨Lc102, hQ102, l102, y102, z102⟩, st102⟩ := X0.specialBack hx (y := (⟨"java/lang/String", "<init>", "([CIILjava/lang/Void;)V"⟩ : MethodName)) rfl hown (mvT hZ (ow hw 8 rfl)) (mvT hZ (ow hw 9 rfl)) (mvT hZ (ow hw 11 rfl)) (by decide) (backOf (W := 0) (rmJ4_3 l Z a0 hw [] a1 a2 kc1 c0 c1 c2 ccs vF h0 n0 Z0 E1 F1 F2 g1 ne1 V1 hr0 hr1 hr2 O0 G) hZ (ow hw 11 rfl) (ow hw 4 rfl) (by decide) (by decide)) (g := (mkF m 6 #[rv a1, rv a2] [.null, (.int (3 : Int32)), (.int (0 : Int32)), (.ref a2), (.ref a1)])) rfl (by rw [hml]; rfl) (Steps.refl _) (a := a1) (argsL := [(.ref a2), (.int (0 : Int32)), (.int (3 : Int32)), .null]) (rest := []) (lenOf pd_10 rfl) rfl (by show 2 * 0 + _ ≤ _; exact Nat.le_of_eq rfl) (hb hby d1_6) (fun _ _ => ⟨rfl, e0, (by decide : 0 + 2 ≤ _), (by decide : 0 + 9 ≤ _)⟩)
  dsimp only [Pt.U, Pt.locs, Pt.cells, Pt.slots] at X102 l102 y102 z102 st102 hQ102
  rw [l102, y102, z102] at X102
  replace X102 : Stand p l e _ _ m _ below meth c T102 _ 2 9 := X102
  obtain ⟨rfl, N102q, K102q, tx102⟩ := hQ102
  have N102 := Fr.app N0 N102q
  refine Go.tr st102 ?_
  have Zs102 : n0 ≤ T102.heap.size := Nat.le_trans Z0 K102q.1
  have O102 : Old Z n0 T102.heap := O0.keep K102q (allS g1 all0)
  have fE_a1_102 := E1.keep K102q
  have fV_a2_102 := V1.keep K102q (ninS (Ne.symm ne1) nin0)
  exact own_retV X102 hx hlk Bd.returns (hb hby d1_9) (by show QTx3 Z a1 c0 c1 c2 h0 n0 _ T102.heap _; exact ⟨rfl, N102, K102q, tx102⟩) (by decide) (by decide)
theorem ef_rm0 (m : MethodId) (x0 : Int32) (x1 : Int32) (x2 : Int32) (x3 : Int32) (x4 : Int32) : entryFrame m #[(.int x0), (.int x1), (.int x2), (.int x3), (.int x4)] maxLocals = mkF m 0 #[iv x0, iv x1, iv x2, iv x3, iv x4, .unset, .unset, .unset, .unset, .unset, .unset, .unset, .unset, .unset, .unset, .unset, .unset] [] := by first | (simp [entryFrame, mkF, argsToLocals, Value.category, maxLocals]; done) | rfl
def Q0 (Z : State) (p1 : Int32) (p2 : Int32) (p3 : Int32) (p4 : Int32) (p5 : Int32) (ccs : Int32) (vF : Value) (h0 : Heap) (n0 : Nat) (v : Option Value) (h : Heap) (L : List Loc) : Prop := v = some (.int 1) ∧ Fr n0 L
set_option maxRecDepth 65536 in
set_option maxHeartbeats 40000000 in
theorem rm0 (l : Launch) (Z : State) (a0 : Array Value) (hw : TW Z a0) (ws : List Jvm.Cond) (p1 : Int32) (p2 : Int32) (p3 : Int32) (p4 : Int32) (p5 : Int32) (ccs : Int32) (vF : Value) (h0 : Heap) (n0 : Nat) (Z0 : n0 ≤ h0.size) (hEW : EW Z a0 consts_1) (O0 : Old Z n0 h0) (G : SG Z ccs vF) :
    MetFree l x (head1 (Jvm.Cond.code x code maxLocals ret :: ws) room_1) (fun a U => a = #[(.int p1), (.int p2), (.int p3), (.int p4), (.int p5)] ∧ Z.Warmed39 U.vm ∧ U.heap = h0 ∧ CHv Z consts_1 U.vm h0) (fun _ _ _ _ _ => True) (fun _ U o U' => ∃ v L, o = .returned v ∧ Q0 Z p1 p2 p3 p4 p5 ccs vF h0 n0 v U'.heap L ∧ ReturnedEndW U o U' L room_1.cells room_1.slots) := by
  refine MetFree.of_bodySF (plainFor_of_name pn_com_example_timed_cap_timedcap_model_NamesIsNamePinLaw) hisR ?_
  intro p e s m args below meth c s₁ Bd hml0 hP hK
  obtain ⟨rfl, hZ, hh, hCH⟩ := hP
  have hx := Bd.exec
  have hby := Bd.bytes
  have hlk : meth.locks = false := Bd.notSynchronized
  have hml : c.maxLocals = 17 := hml0
  have hown : s.vm.findClass "com/example/timed_cap/timedcap/model/NamesIsNamePinLaw" = some m.cls := findClass_of_methodNamed Bd.named
  have hnm := (name_of_methodNamed Bd.named Bd.method).1
  have rF := G.2.2.2.2.2.2
  have hcs := G.2.1
  have X0 : Stand p l e room_1 (s.setVm s.vm) m #[(.int p1), (.int p2), (.int p3), (.int p4), (.int p5)] below meth c s₁ [] 0 0 := Stand.of_body Bd
  replace hZ : Z.Warmed39 (s.setVm s.vm).vm := hZ
  replace hown : (s.setVm s.vm).vm.findClass "com/example/timed_cap/timedcap/model/NamesIsNamePinLaw" = some m.cls := hown
  have hS0 : s.Since s.vm 0 := (State.WarmedH.refl s).since 0
  have hk0 : 0 ≤ h0.size := Nat.zero_le _
  have R0 : CHr Z consts_1 s.vm h0 s.vm h0 := CHr.refl hCH
  have e0 : s₁.heap = h0 := by rw [← hh, Bd.state]; rfl
  have N0 := Fr.nil n0
  show Go p e below (FinW s below (Q0 Z p1 p2 p3 p4 p5 ccs vF h0 n0) room_1.cells room_1.slots) (s₁.setTop (entryFrame m #[(.int p1), (.int p2), (.int p3), (.int p4), (.int p5)] maxLocals))
  refine Go.via (fun t k => castTop (ef_rm0 m p1 p2 p3 p4 p5) k) ?_
  refine Go.via (fun _ => XS.iloadN X0.here hx rfl (hb hby at_0) rfl) ?_
  refine Go.via (fun _ => XS.iconst X0.here hx rfl (hb hby at_1)) ?_
  refine Go.via (fun _ => XS.iand X0.here hx rfl (hb hby at_2) rfl) ?_
  show Go p e below _ (s₁.setTop (mkF m 3 #[iv p1, iv p2, iv p3, iv p4, iv p5, .unset, .unset, .unset, .unset, .unset, .unset, .unset, .unset, .unset, .unset, .unset, .unset] [(.int (p1 &&& (3 : Int32)))]))
  have hn := own_4 p1
  generalize hnn : (p1 &&& (3 : Int32)) = nx at hn ⊢
  show Go p e below _ (s₁.setTop (mkF m 3 #[iv p1, iv p2, iv p3, iv p4, iv p5, .unset, .unset, .unset, .unset, .unset, .unset, .unset, .unset, .unset, .unset, .unset, .unset] [(.int nx)]))
  refine Go.via (fun _ => XS.istore X0.here hx rfl (hb hby at_3) rfl (l' := #[iv p1, iv p2, iv p3, iv p4, iv p5, iv nx, .unset, .unset, .unset, .unset, .unset, .unset, .unset, .unset, .unset, .unset, .unset]) rfl) ?_
  refine Go.via (fun _ => XS.iloadN X0.here hx rfl (hb hby at_5) rfl) ?_
  refine Go.via (X0.ldcInt hx hown (mvT hZ (ow hw 0 rfl)) (g := (mkF m 6 #[iv p1, iv p2, iv p3, iv p4, iv p5, iv nx, .unset, .unset, .unset, .unset, .unset, .unset, .unset, .unset, .unset, .unset, .unset] [(.int p3)])) rfl (hb hby at_6)) ?_
  refine Go.via (fun _ => XS.iand X0.here hx rfl (hb hby at_8) rfl) ?_
  refine Go.via (fun _ => XS.i2c X0.here hx rfl (hb hby at_9) rfl) ?_
  show Go p e below _ (s₁.setTop (mkF m 10 #[iv p1, iv p2, iv p3, iv p4, iv p5, iv nx, .unset, .unset, .unset, .unset, .unset, .unset, .unset, .unset, .unset, .unset, .unset] [(.int ((p3 &&& (65535 : Int32)).toUInt32.toUInt16.toUInt32.toInt32))]))
  have r_z0 := own_i2c (p3 &&& (65535 : Int32))
  generalize hz0 : ((p3 &&& (65535 : Int32)).toUInt32.toUInt16.toUInt32.toInt32) = z0 at r_z0 ⊢
  show Go p e below _ (s₁.setTop (mkF m 10 #[iv p1, iv p2, iv p3, iv p4, iv p5, iv nx, .unset, .unset, .unset, .unset, .unset, .unset, .unset, .unset, .unset, .unset, .unset] [(.int z0)]))
  refine Go.via (fun _ => XS.istore X0.here hx rfl (hb hby at_10) rfl (l' := #[iv p1, iv p2, iv p3, iv p4, iv p5, iv nx, iv z0, .unset, .unset, .unset, .unset, .unset, .unset, .unset, .unset, .unset, .unset]) rfl) ?_
  refine Go.via (fun _ => XS.iloadN X0.here hx rfl (hb hby at_12) rfl) ?_
  refine Go.via (X0.ldcInt hx hown (mvT hZ (ow hw 0 rfl)) (g := (mkF m 13 #[iv p1, iv p2, iv p3, iv p4, iv p5, iv nx, iv z0, .unset, .unset, .unset, .unset, .unset, .unset, .unset, .unset, .unset, .unset] [(.int p4)])) rfl (hb hby at_13)) ?_
  refine Go.via (fun _ => XS.iand X0.here hx rfl (hb hby at_15) rfl) ?_
  refine Go.via (fun _ => XS.i2c X0.here hx rfl (hb hby at_16) rfl) ?_
  show Go p e below _ (s₁.setTop (mkF m 17 #[iv p1, iv p2, iv p3, iv p4, iv p5, iv nx, iv z0, .unset, .unset, .unset, .unset, .unset, .unset, .unset, .unset, .unset, .unset] [(.int ((p4 &&& (65535 : Int32)).toUInt32.toUInt16.toUInt32.toInt32))]))
  show Go p e below _ (s₁.setTop (mkF m 17 #[iv p1, iv p2, iv p3, iv p4, iv p5, iv nx, iv z0, .unset, .unset, .unset, .unset, .unset, .unset, .unset, .unset, .unset, .unset] [(.int ((p4 &&& (65535 : Int32)).toUInt32.toUInt16.toUInt32.toInt32))]))
  have r_z1 := own_i2c (p4 &&& (65535 : Int32))
  generalize hz1 : ((p4 &&& (65535 : Int32)).toUInt32.toUInt16.toUInt32.toInt32) = z1 at r_z1 ⊢
  show Go p e below _ (s₁.setTop (mkF m 17 #[iv p1, iv p2, iv p3, iv p4, iv p5, iv nx, iv z0, .unset, .unset, .unset, .unset, .unset, .unset, .unset, .unset, .unset, .unset] [(.int z1)]))
  refine Go.via (fun _ => XS.istore X0.here hx rfl (hb hby at_17) rfl (l' := #[iv p1, iv p2, iv p3, iv p4, iv p5, iv nx, iv z0, iv z1, .unset, .unset, .unset, .unset, .unset, .unset, .unset, .unset, .unset]) rfl) ?_
  refine Go.via (fun _ => XS.iload X0.here hx rfl (hb hby at_19) rfl) ?_
  refine Go.via (X0.ldcInt hx hown (mvT hZ (ow hw 0 rfl)) (g := (mkF m 21 #[iv p1, iv p2, iv p3, iv p4, iv p5, iv nx, iv z0, iv z1, .unset, .unset, .unset, .unset, .unset, .unset, .unset, .unset, .unset] [(.int p5)])) rfl (hb hby at_21)) ?_
  refine Go.via (fun _ => XS.iand X0.here hx rfl (hb hby at_23) rfl) ?_
  show Go p e below _ (s₁.setTop (mkF m 24 #[iv p1, iv p2, iv p3, iv p4, iv p5, iv nx, iv z0, iv z1, .unset, .unset, .unset, .unset, .unset, .unset, .unset, .unset, .unset] [(.int (p5 &&& (65535 : Int32)))]))
  refine Go.via (fun _ => XS.i2c X0.here hx rfl (hb hby at_24) rfl) ?_
  show Go p e below _ (s₁.setTop (mkF m 25 #[iv p1, iv p2, iv p3, iv p4, iv p5, iv nx, iv z0, iv z1, .unset, .unset, .unset, .unset, .unset, .unset, .unset, .unset, .unset] [(.int ((p5 &&& (65535 : Int32)).toUInt32.toUInt16.toUInt32.toInt32))]))
  have r_z2 := own_i2c (p5 &&& (65535 : Int32))
  generalize hz2 : ((p5 &&& (65535 : Int32)).toUInt32.toUInt16.toUInt32.toInt32) = z2 at r_z2 ⊢
  show Go p e below _ (s₁.setTop (mkF m 25 #[iv p1, iv p2, iv p3, iv p4, iv p5, iv nx, iv z0, iv z1, .unset, .unset, .unset, .unset, .unset, .unset, .unset, .unset, .unset] [(.int z2)]))
  refine Go.via (fun _ => XS.istore X0.here hx rfl (hb hby at_25) rfl (l' := #[iv p1, iv p2, iv p3, iv p4, iv p5, iv nx, iv z0, iv z1, iv z2, .unset, .unset, .unset, .unset, .unset, .unset, .unset, .unset]) rfl) ?_
  refine Go.via (fun _ => XS.iconst X0.here hx rfl (hb hby at_27)) ?_
  obtain ⟨T101, h101, k101, X101, e101, E101, A101, st101⟩ := newP X0 hx hZ (ow hw 1 rfl) e0 (g := (mkF m 28 #[iv p1, iv p2, iv p3, iv p4, iv p5, iv nx, iv z0, iv z1, iv z2, .unset, .unset, .unset, .unset, .unset, .unset, .unset, .unset] [(.int (0 : Int32))])) rfl (hb hby at_28) rfl (by decide) (cap := 0) (by decide) (by decide) (by decide) (by decide)
  obtain ⟨b101, g101⟩ : ∃ z, z = h0.size := ⟨_, rfl⟩
  rw [← g101] at A101 st101
  have g_b101 : n0 ≤ b101 := Nat.le_trans Z0 (Nat.le_of_eq g101.symm)
  refine Go.via st101 ?_
  have Zs101 : n0 ≤ h101.size := Nat.le_trans Z0 E101.1
  have hk101 : 0 ≤ h101.size := Nat.le_trans hk0 E101.1
  have R101 : CHr Z consts_1 s.vm h0 s.vm h101 := R0.trans (CHr.ext E101 R0.1)
  have O101 : Old Z n0 h101 := O0.ext E101
  have V_b101 : Arv Z h101 b101 k101 .char (0 : Int32) [] (.int (0 : Int32)) := (Arv.new A101 (by decide)).pad (pad_rep [] (.int (0 : Int32)) 0)
  have sf_b101 : Safe Z consts_1 s.vm h101 b101 := Safe.ext E101 R0.1 (Safe.new (Nat.le_of_eq g101.symm))
  show Go p e below _ (T101.setTop (mkF m 30 #[iv p1, iv p2, iv p3, iv p4, iv p5, iv nx, iv z0, iv z1, iv z2, .unset, .unset, .unset, .unset, .unset, .unset, .unset, .unset] [(.ref b101)]))
  refine Go.via (fun _ => XS.astore X101.here hx rfl (hb hby at_30) rfl rfl (l' := #[iv p1, iv p2, iv p3, iv p4, iv p5, iv nx, iv z0, iv z1, iv z2, rv b101, .unset, .unset, .unset, .unset, .unset, .unset, .unset]) rfl) ?_
  refine Go.via (fun _ => XS.iconst X101.here hx rfl (hb hby at_32)) ?_
  obtain ⟨T102, h102, k102, X102, e102, E102, A102, st102⟩ := newP X101 hx hZ (ow hw 1 rfl) e101 (g := (mkF m 33 #[iv p1, iv p2, iv p3, iv p4, iv p5, iv nx, iv z0, iv z1, iv z2, rv b101, .unset, .unset, .unset, .unset, .unset, .unset, .unset] [(.int (1 : Int32))])) rfl (hb hby at_33) rfl (by decide) (cap := 1) (by decide) (by decide) (by decide) (by decide)
  obtain ⟨b102, g102⟩ : ∃ z, z = h101.size := ⟨_, rfl⟩
  rw [← g102] at A102 st102
  have g_b102 : n0 ≤ b102 := Nat.le_trans Zs101 (Nat.le_of_eq g102.symm)
  have ne_b101_b102 : b101 ≠ b102 := Nat.ne_of_lt (Nat.lt_of_lt_of_le V_b101.lt (Nat.le_of_eq g102.symm))
  refine Go.via st102 ?_
  have Zs102 : n0 ≤ h102.size := Nat.le_trans Zs101 E102.1
  have hk102 : 0 ≤ h102.size := Nat.le_trans hk101 E102.1
  have sf_b101_102 := Safe.ext E102 R101.1 sf_b101
  have R102 : CHr Z consts_1 s.vm h0 s.vm h102 := R101.trans (CHr.ext E102 R101.1)
  have O102 : Old Z n0 h102 := O101.ext E102
  have fV_b101_102 := V_b101.ext E102
  have V_b102 : Arv Z h102 b102 k102 .char (1 : Int32) [(.int (0 : Int32))] (.int (0 : Int32)) := (Arv.new A102 (by decide)).pad (pad_rep [] (.int (0 : Int32)) 1)
  have sf_b102 : Safe Z consts_1 s.vm h102 b102 := Safe.ext E102 R101.1 (Safe.new (Nat.le_of_eq g102.symm))
  refine Go.via (fun _ => XS.dup X102.here hx rfl (hb hby at_35) rfl rfl) ?_
  refine Go.via (fun _ => XS.iconst X102.here hx rfl (hb hby at_36)) ?_
  refine Go.via (fun _ => XS.iload X102.here hx rfl (hb hby at_37) rfl) ?_
  show Go p e below _ (T102.setTop (mkF m 39 #[iv p1, iv p2, iv p3, iv p4, iv p5, iv nx, iv z0, iv z1, iv z2, rv b101, .unset, .unset, .unset, .unset, .unset, .unset, .unset] [(.int z0), (.int (0 : Int32)), (.ref b102), (.ref b102)]))
  obtain ⟨cl103, Ar103, q103, S103, N103n, H103, G103⟩ := id V_b102
  have hin103 := inb_of (j := (0 : Int32)) S103 (by decide)
  obtain ⟨T103, h103, X103, e103, W103, st103⟩ := stC X102 hx hZ e102 Ar103 (j := (0 : Int32)) hin103 (g := (mkF m 39 #[iv p1, iv p2, iv p3, iv p4, iv p5, iv nx, iv z0, iv z1, iv z2, rv b101, .unset, .unset, .unset, .unset, .unset, .unset, .unset] [(.int z0), (.int (0 : Int32)), (.ref b102), (.ref b102)])) rfl rfl (hb hby at_39)
  refine Go.via st103 ?_
  have V103 : Arv Z h103 b102 k102 .char (1 : Int32) [(.int (nar .char z0))] (.int (0 : Int32)) := Arv.set Ar103 q103 S103 N103n H103 G103 (fits_nar_char _) W103 0 rfl (Nat.le_of_ble_eq_true rfl)
  have Zs103 : n0 ≤ h103.size := Nat.le_trans Zs102 (Keep.of_wr W103).1
  have hk103 : 0 ≤ h103.size := Nat.le_trans hk102 (Keep.of_wr W103).1
  have sf_b101_103 := Safe.wr W103 sf_b102 R102.1 sf_b101_102
  have sf_b102_103 := Safe.wr W103 sf_b102 R102.1 sf_b102
  have R103 : CHr Z consts_1 s.vm h0 s.vm h103 := R102.trans (CHr.wr W103 sf_b102 R102.1)
  have O103 : Old Z n0 h103 := O102.wr W103 g_b102
  have N103 := Fr.snoc X103 N0 g_b102
  have fV_b101_103 := fV_b101_102.other W103 ne_b101_b102
  refine Go.via (fun _ => XS.astore X103.here hx rfl (hb hby at_40) rfl rfl (l' := #[iv p1, iv p2, iv p3, iv p4, iv p5, iv nx, iv z0, iv z1, iv z2, rv b101, rv b102, .unset, .unset, .unset, .unset, .unset, .unset]) rfl) ?_
  refine Go.via (fun _ => XS.iconst X103.here hx rfl (hb hby at_42)) ?_
  obtain ⟨T104, h104, k104, X104, e104, E104, A104, st104⟩ := newP X103 hx hZ (ow hw 1 rfl) e103 (g := (mkF m 43 #[iv p1, iv p2, iv p3, iv p4, iv p5, iv nx, iv z0, iv z1, iv z2, rv b101, rv b102, .unset, .unset, .unset, .unset, .unset, .unset] [(.int (2 : Int32))])) rfl (hb hby at_43) rfl (by decide) (cap := 2) (by decide) (by decide) (by decide) (by decide)
  obtain ⟨b104, g104⟩ : ∃ z, z = h103.size := ⟨_, rfl⟩
  rw [← g104] at A104 st104
  have g_b104 : n0 ≤ b104 := Nat.le_trans Zs103 (Nat.le_of_eq g104.symm)
  have ne_b101_b104 : b101 ≠ b104 := Nat.ne_of_lt (Nat.lt_of_lt_of_le fV_b101_103.lt (Nat.le_of_eq g104.symm))
  have ne_b102_b104 : b102 ≠ b104 := Nat.ne_of_lt (Nat.lt_of_lt_of_le V103.lt (Nat.le_of_eq g104.symm))
  refine Go.via st104 ?_
  have Zs104 : n0 ≤ h104.size := Nat.le_trans Zs103 E104.1
  have hk104 : 0 ≤ h104.size := Nat.le_trans hk103 E104.1
  have sf_b101_104 := Safe.ext E104 R103.1 sf_b101_103
  have sf_b102_104 := Safe.ext E104 R103.1 sf_b102_103
  have R104 : CHr Z consts_1 s.vm h0 s.vm h104 := R103.trans (CHr.ext E104 R103.1)
  have O104 : Old Z n0 h104 := O103.ext E104
  have fV_b101_104 := fV_b101_103.ext E104
  have fV_b102_104 := V103.ext E104
  have V_b104 : Arv Z h104 b104 k104 .char (2 : Int32) [(.int (0 : Int32)), (.int (0 : Int32))] (.int (0 : Int32)) := (Arv.new A104 (by decide)).pad (pad_rep [] (.int (0 : Int32)) 2)
  have sf_b104 : Safe Z consts_1 s.vm h104 b104 := Safe.ext E104 R103.1 (Safe.new (Nat.le_of_eq g104.symm))
  refine Go.via (fun _ => XS.dup X104.here hx rfl (hb hby at_45) rfl rfl) ?_
  refine Go.via (fun _ => XS.iconst X104.here hx rfl (hb hby at_46)) ?_
  show Go p e below _ (T104.setTop (mkF m 47 #[iv p1, iv p2, iv p3, iv p4, iv p5, iv nx, iv z0, iv z1, iv z2, rv b101, rv b102, .unset, .unset, .unset, .unset, .unset, .unset] [(.int (0 : Int32)), (.ref b104), (.ref b104)]))
  refine Go.via (fun _ => XS.iload X104.here hx rfl (hb hby at_47) rfl) ?_
  obtain ⟨cl105, Ar105, q105, S105, N105n, H105, G105⟩ := id V_b104
  have hin105 := inb_of (j := (0 : Int32)) S105 (by decide)
  obtain ⟨T105, h105, X105, e105, W105, st105⟩ := stC X104 hx hZ e104 Ar105 (j := (0 : Int32)) hin105 (g := (mkF m 49 #[iv p1, iv p2, iv p3, iv p4, iv p5, iv nx, iv z0, iv z1, iv z2, rv b101, rv b102, .unset, .unset, .unset, .unset, .unset, .unset] [(.int z0), (.int (0 : Int32)), (.ref b104), (.ref b104)])) rfl rfl (hb hby at_49)
  refine Go.via st105 ?_
  have V105 : Arv Z h105 b104 k104 .char (2 : Int32) [(.int (nar .char z0)), (.int (0 : Int32))] (.int (0 : Int32)) := Arv.set Ar105 q105 S105 N105n H105 G105 (fits_nar_char _) W105 0 rfl (Nat.le_of_ble_eq_true rfl)
  have Zs105 : n0 ≤ h105.size := Nat.le_trans Zs104 (Keep.of_wr W105).1
  have hk105 : 0 ≤ h105.size := Nat.le_trans hk104 (Keep.of_wr W105).1
  have sf_b101_105 := Safe.wr W105 sf_b104 R104.1 sf_b101_104
  have sf_b102_105 := Safe.wr W105 sf_b104 R104.1 sf_b102_104
  have sf_b104_105 := Safe.wr W105 sf_b104 R104.1 sf_b104
  have R105 : CHr Z consts_1 s.vm h0 s.vm h105 := R104.trans (CHr.wr W105 sf_b104 R104.1)
  have O105 : Old Z n0 h105 := O104.wr W105 g_b104
  have N105 := Fr.snoc X105 N103 g_b104
  have fV_b101_105 := fV_b101_104.other W105 ne_b101_b104
  have fV_b102_105 := fV_b102_104.other W105 ne_b102_b104
  refine Go.via (fun _ => XS.dup X105.here hx rfl (hb hby at_50) rfl rfl) ?_
  refine Go.via (fun _ => XS.iconst X105.here hx rfl (hb hby at_51)) ?_
  refine Go.via (fun _ => XS.iload X105.here hx rfl (hb hby at_52) rfl) ?_
  obtain ⟨cl106, Ar106, q106, S106, N106n, H106, G106⟩ := id V105
  have hin106 := inb_of (j := (1 : Int32)) S106 (by decide)
  obtain ⟨T106, h106, X106, e106, W106, st106⟩ := stC X105 hx hZ e105 Ar106 (j := (1 : Int32)) hin106 (g := (mkF m 54 #[iv p1, iv p2, iv p3, iv p4, iv p5, iv nx, iv z0, iv z1, iv z2, rv b101, rv b102, .unset, .unset, .unset, .unset, .unset, .unset] [(.int z1), (.int (1 : Int32)), (.ref b104), (.ref b104)])) rfl rfl (hb hby at_54)
  refine Go.via st106 ?_
  have V106 : Arv Z h106 b104 k104 .char (2 : Int32) [(.int (nar .char z0)), (.int (nar .char z1))] (.int (0 : Int32)) := Arv.set Ar106 q106 S106 N106n H106 G106 (fits_nar_char _) W106 1 rfl (Nat.le_of_ble_eq_true rfl)
  have Zs106 : n0 ≤ h106.size := Nat.le_trans Zs105 (Keep.of_wr W106).1
  have hk106 : 0 ≤ h106.size := Nat.le_trans hk105 (Keep.of_wr W106).1
  have sf_b101_106 := Safe.wr W106 sf_b104_105 R105.1 sf_b101_105
  have sf_b102_106 := Safe.wr W106 sf_b104_105 R105.1 sf_b102_105
  have sf_b104_106 := Safe.wr W106 sf_b104_105 R105.1 sf_b104_105
  have R106 : CHr Z consts_1 s.vm h0 s.vm h106 := R105.trans (CHr.wr W106 sf_b104_105 R105.1)
  have O106 : Old Z n0 h106 := O105.wr W106 g_b104
  have N106 := Fr.snoc X106 N105 g_b104
  have fV_b101_106 := fV_b101_105.other W106 ne_b101_b104
  have fV_b102_106 := fV_b102_105.other W106 ne_b102_b104
  show Go p e below _ (T106.setTop (mkF m 55 #[iv p1, iv p2, iv p3, iv p4, iv p5, iv nx, iv z0, iv z1, iv z2, rv b101, rv b102, .unset, .unset, .unset, .unset, .unset, .unset] [(.ref b104)]))
  refine Go.via (fun _ => XS.astore X106.here hx rfl (hb hby at_55) rfl rfl (l' := #[iv p1, iv p2, iv p3, iv p4, iv p5, iv nx, iv z0, iv z1, iv z2, rv b101, rv b102, rv b104, .unset, .unset, .unset, .unset, .unset]) rfl) ?_
  refine Go.via (fun _ => XS.iconst X106.here hx rfl (hb hby at_57)) ?_
  obtain ⟨T107, h107, k107, X107, e107, E107, A107, st107⟩ := newP X106 hx hZ (ow hw 1 rfl) e106 (g := (mkF m 58 #[iv p1, iv p2, iv p3, iv p4, iv p5, iv nx, iv z0, iv z1, iv z2, rv b101, rv b102, rv b104, .unset, .unset, .unset, .unset, .unset] [(.int (3 : Int32))])) rfl (hb hby at_58) rfl (by decide) (cap := 3) (by decide) (by decide) (by decide) (by decide)
  obtain ⟨b107, g107⟩ : ∃ z, z = h106.size := ⟨_, rfl⟩
  rw [← g107] at A107 st107
  have g_b107 : n0 ≤ b107 := Nat.le_trans Zs106 (Nat.le_of_eq g107.symm)
  have ne_b101_b107 : b101 ≠ b107 := Nat.ne_of_lt (Nat.lt_of_lt_of_le fV_b101_106.lt (Nat.le_of_eq g107.symm))
  have ne_b102_b107 : b102 ≠ b107 := Nat.ne_of_lt (Nat.lt_of_lt_of_le fV_b102_106.lt (Nat.le_of_eq g107.symm))
  have ne_b104_b107 : b104 ≠ b107 := Nat.ne_of_lt (Nat.lt_of_lt_of_le V106.lt (Nat.le_of_eq g107.symm))
  refine Go.via st107 ?_
  have Zs107 : n0 ≤ h107.size := Nat.le_trans Zs106 E107.1
  have hk107 : 0 ≤ h107.size := Nat.le_trans hk106 E107.1
  have sf_b101_107 := Safe.ext E107 R106.1 sf_b101_106
  have sf_b102_107 := Safe.ext E107 R106.1 sf_b102_106
  have sf_b104_107 := Safe.ext E107 R106.1 sf_b104_106
  have R107 : CHr Z consts_1 s.vm h0 s.vm h107 := R106.trans (CHr.ext E107 R106.1)
  have O107 : Old Z n0 h107 := O106.ext E107
  have fV_b101_107 := fV_b101_106.ext E107
  have fV_b102_107 := fV_b102_106.ext E107
  have fV_b104_107 := V106.ext E107
  have V_b107 : Arv Z h107 b107 k107 .char (3 : Int32) [(.int (0 : Int32)), (.int (0 : Int32)), (.int (0 : Int32))] (.int (0 : Int32)) := (Arv.new A107 (by decide)).pad (pad_rep [] (.int (0 : Int32)) 3)
  have sf_b107 : Safe Z consts_1 s.vm h107 b107 := Safe.ext E107 R106.1 (Safe.new (Nat.le_of_eq g107.symm))
  refine Go.via (fun _ => XS.dup X107.here hx rfl (hb hby at_60) rfl rfl) ?_
  refine Go.via (fun _ => XS.iconst X107.here hx rfl (hb hby at_61)) ?_
  refine Go.via (fun _ => XS.iload X107.here hx rfl (hb hby at_62) rfl) ?_
  show Go p e below _ (T107.setTop (mkF m 64 #[iv p1, iv p2, iv p3, iv p4, iv p5, iv nx, iv z0, iv z1, iv z2, rv b101, rv b102, rv b104, .unset, .unset, .unset, .unset, .unset] [(.int z0), (.int (0 : Int32)), (.ref b107), (.ref b107)]))
  obtain ⟨cl108, Ar108, q108, S108, N108n, H108, G108⟩ := id V_b107
  have hin108 := inb_of (j := (0 : Int32)) S108 (by decide)
  obtain ⟨T108, h108, X108, e108, W108, st108⟩ := stC X107 hx hZ e107 Ar108 (j := (0 : Int32)) hin108 (g := (mkF m 64 #[iv p1, iv p2, iv p3, iv p4, iv p5, iv nx, iv z0, iv z1, iv z2, rv b101, rv b102, rv b104, .unset, .unset, .unset, .unset, .unset] [(.int z0), (.int (0 : Int32)), (.ref b107), (.ref b107)])) rfl rfl (hb hby at_64)
  refine Go.via st108 ?_
  have V108 : Arv Z h108 b107 k107 .char (3 : Int32) [(.int (nar .char z0)), (.int (0 : Int32)), (.int (0 : Int32))] (.int (0 : Int32)) := Arv.set Ar108 q108 S108 N108n H108 G108 (fits_nar_char _) W108 0 rfl (Nat.le_of_ble_eq_true rfl)
  have Zs108 : n0 ≤ h108.size := Nat.le_trans Zs107 (Keep.of_wr W108).1
  have hk108 : 0 ≤ h108.size := Nat.le_trans hk107 (Keep.of_wr W108).1
  have sf_b101_108 := Safe.wr W108 sf_b107 R107.1 sf_b101_107
  have sf_b102_108 := Safe.wr W108 sf_b107 R107.1 sf_b102_107
  have sf_b104_108 := Safe.wr W108 sf_b107 R107.1 sf_b104_107
  have sf_b107_108 := Safe.wr W108 sf_b107 R107.1 sf_b107
  have R108 : CHr Z consts_1 s.vm h0 s.vm h108 := R107.trans (CHr.wr W108 sf_b107 R107.1)
  have O108 : Old Z n0 h108 := O107.wr W108 g_b107
  have N108 := Fr.snoc X108 N106 g_b107
  have fV_b101_108 := fV_b101_107.other W108 ne_b101_b107
  have fV_b102_108 := fV_b102_107.other W108 ne_b102_b107
  have fV_b104_108 := fV_b104_107.other W108 ne_b104_b107
  refine Go.via (fun _ => XS.dup X108.here hx rfl (hb hby at_65) rfl rfl) ?_
  refine Go.via (fun _ => XS.iconst X108.here hx rfl (hb hby at_66)) ?_
  refine Go.via (fun _ => XS.iload X108.here hx rfl (hb hby at_67) rfl) ?_
  obtain ⟨cl109, Ar109, q109, S109, N109n, H109, G109⟩ := id V108
  have hin109 := inb_of (j := (1 : Int32)) S109 (by decide)
  obtain ⟨T109, h109, X109, e109, W109, st109⟩ := stC X108 hx hZ e108 Ar109 (j := (1 : Int32)) hin109 (g := (mkF m 69 #[iv p1, iv p2, iv p3, iv p4, iv p5, iv nx, iv z0, iv z1, iv z2, rv b101, rv b102, rv b104, .unset, .unset, .unset, .unset, .unset] [(.int z1), (.int (1 : Int32)), (.ref b107), (.ref b107)])) rfl rfl (hb hby at_69)
  refine Go.via st109 ?_
  have V109 : Arv Z h109 b107 k107 .char (3 : Int32) [(.int (nar .char z0)), (.int (nar .char z1)), (.int (0 : Int32))] (.int (0 : Int32)) := Arv.set Ar109 q109 S109 N109n H109 G109 (fits_nar_char _) W109 1 rfl (Nat.le_of_ble_eq_true rfl)
  have Zs109 : n0 ≤ h109.size := Nat.le_trans Zs108 (Keep.of_wr W109).1
  have hk109 : 0 ≤ h109.size := Nat.le_trans hk108 (Keep.of_wr W109).1
  have sf_b101_109 := Safe.wr W109 sf_b107_108 R108.1 sf_b101_108
  have sf_b102_109 := Safe.wr W109 sf_b107_108 R108.1 sf_b102_108
  have sf_b104_109 := Safe.wr W109 sf_b107_108 R108.1 sf_b104_108
  have sf_b107_109 := Safe.wr W109 sf_b107_108 R108.1 sf_b107_108
  have R109 : CHr Z consts_1 s.vm h0 s.vm h109 := R108.trans (CHr.wr W109 sf_b107_108 R108.1)
  have O109 : Old Z n0 h109 := O108.wr W109 g_b107
  have N109 := Fr.snoc X109 N108 g_b107
  have fV_b101_109 := fV_b101_108.other W109 ne_b101_b107
  have fV_b102_109 := fV_b102_108.other W109 ne_b102_b107
  have fV_b104_109 := fV_b104_108.other W109 ne_b104_b107
  refine Go.via (fun _ => XS.dup X109.here hx rfl (hb hby at_70) rfl rfl) ?_
  show Go p e below _ (T109.setTop (mkF m 71 #[iv p1, iv p2, iv p3, iv p4, iv p5, iv nx, iv z0, iv z1, iv z2, rv b101, rv b102, rv b104, .unset, .unset, .unset, .unset, .unset] [(.ref b107), (.ref b107)]))
  refine Go.via (fun _ => XS.iconst X109.here hx rfl (hb hby at_71)) ?_
  refine Go.via (fun _ => XS.iload X109.here hx rfl (hb hby at_72) rfl) ?_
  obtain ⟨cl110, Ar110, q110, S110, N110n, H110, G110⟩ := id V109
  have hin110 := inb_of (j := (2 : Int32)) S110 (by decide)
  obtain ⟨T110, h110, X110, e110, W110, st110⟩ := stC X109 hx hZ e109 Ar110 (j := (2 : Int32)) hin110 (g := (mkF m 74 #[iv p1, iv p2, iv p3, iv p4, iv p5, iv nx, iv z0, iv z1, iv z2, rv b101, rv b102, rv b104, .unset, .unset, .unset, .unset, .unset] [(.int z2), (.int (2 : Int32)), (.ref b107), (.ref b107)])) rfl rfl (hb hby at_74)
  refine Go.via st110 ?_
  have V110 : Arv Z h110 b107 k107 .char (3 : Int32) [(.int (nar .char z0)), (.int (nar .char z1)), (.int (nar .char z2))] (.int (0 : Int32)) := Arv.set Ar110 q110 S110 N110n H110 G110 (fits_nar_char _) W110 2 rfl (Nat.le_of_ble_eq_true rfl)
  have Zs110 : n0 ≤ h110.size := Nat.le_trans Zs109 (Keep.of_wr W110).1
  have hk110 : 0 ≤ h110.size := Nat.le_trans hk109 (Keep.of_wr W110).1
  have sf_b101_110 := Safe.wr W110 sf_b107_109 R109.1 sf_b101_109
  have sf_b102_110 := Safe.wr W110 sf_b107_109 R109.1 sf_b102_109
  have sf_b104_110 := Safe.wr W110 sf_b107_109 R109.1 sf_b104_109
  have sf_b107_110 := Safe.wr W110 sf_b107_109 R109.1 sf_b107_109
  have R110 : CHr Z consts_1 s.vm h0 s.vm h110 := R109.trans (CHr.wr W110 sf_b107_109 R109.1)
  have O110 : Old Z n0 h110 := O109.wr W110 g_b107
  have N110 := Fr.snoc X110 N109 g_b107
  have fV_b101_110 := fV_b101_109.other W110 ne_b101_b107
  have fV_b102_110 := fV_b102_109.other W110 ne_b102_b107
  have fV_b104_110 := fV_b104_109.other W110 ne_b104_b107
  refine Go.via (fun _ => XS.astore X110.here hx rfl (hb hby at_75) rfl rfl (l' := #[iv p1, iv p2, iv p3, iv p4, iv p5, iv nx, iv z0, iv z1, iv z2, rv b101, rv b102, rv b104, rv b107, .unset, .unset, .unset, .unset]) rfl) ?_
  rcases hn with rfl | rfl | rfl | rfl
  ·
    refine Go.via (fun _ => XS.iload X110.here hx rfl (hb hby at_77) rfl) ?_
    show Go p e below _ (T110.setTop (mkF m 79 #[iv p1, iv p2, iv p3, iv p4, iv p5, iv (0 : Int32), iv z0, iv z1, iv z2, rv b101, rv b102, rv b104, rv b107, .unset, .unset, .unset, .unset] [(.int (0 : Int32))]))
    refine Go.via (fun _ => XS.ifNo X110.here hx rfl (hb hby at_79) rfl (by decide)) ?_
    refine Go.via (fun _ => XS.aload X110.here hx rfl (hb hby at_82) rfl rfl) ?_
    refine Go.via (fun _ => XS.astore X110.here hx rfl (hb hby at_84) rfl rfl (l' := #[iv p1, iv p2, iv p3, iv p4, iv p5, iv (0 : Int32), iv z0, iv z1, iv z2, rv b101, rv b102, rv b104, rv b107, rv b101, .unset, .unset, .unset]) rfl) ?_
    refine Go.via (fun _ => XS.goto X110.here hx rfl (pc0 := 86) (pc' := 119) rfl (hb hby at_86) (by decide) (by decide)) ?_
    obtain ⟨T111, h111, X111, e111, E111, A111, D111, -, st111⟩ := newO X110 hx hZ hown (ow hw 2 rfl) (ow hw 3 rfl) (ow hw 4 rfl) e110 (g := (mkF m 119 #[iv p1, iv p2, iv p3, iv p4, iv p5, iv (0 : Int32), iv z0, iv z1, iv z2, rv b101, rv b102, rv b104, rv b107, rv b101, .unset, .unset, .unset] [])) rfl (hb hby at_119) (by decide) (by decide)
    obtain ⟨b111, g111⟩ : ∃ z, z = h110.size := ⟨_, rfl⟩
    rw [← g111] at A111 D111 st111
    have g_b111 : n0 ≤ b111 := Nat.le_trans Zs110 (Nat.le_of_eq g111.symm)
    have ne_b101_b111 : b101 ≠ b111 := Nat.ne_of_lt (Nat.lt_of_lt_of_le fV_b101_110.lt (Nat.le_of_eq g111.symm))
    have ne_b102_b111 : b102 ≠ b111 := Nat.ne_of_lt (Nat.lt_of_lt_of_le fV_b102_110.lt (Nat.le_of_eq g111.symm))
    have ne_b104_b111 : b104 ≠ b111 := Nat.ne_of_lt (Nat.lt_of_lt_of_le fV_b104_110.lt (Nat.le_of_eq g111.symm))
    have ne_b107_b111 : b107 ≠ b111 := Nat.ne_of_lt (Nat.lt_of_lt_of_le V110.lt (Nat.le_of_eq g111.symm))
    refine Go.via st111 ?_
    have Zs111 : n0 ≤ h111.size := Nat.le_trans Zs110 E111.1
    have hk111 : 0 ≤ h111.size := Nat.le_trans hk110 E111.1
    have sf_b101_111 := Safe.ext E111 R110.1 sf_b101_110
    have sf_b102_111 := Safe.ext E111 R110.1 sf_b102_110
    have sf_b104_111 := Safe.ext E111 R110.1 sf_b104_110
    have sf_b107_111 := Safe.ext E111 R110.1 sf_b107_110
    have R111 : CHr Z consts_1 s.vm h0 s.vm h111 := R110.trans (CHr.ext E111 R110.1)
    have O111 : Old Z n0 h111 := O110.ext E111
    have fV_b101_111 := fV_b101_110.ext E111
    have fV_b102_111 := fV_b102_110.ext E111
    have fV_b104_111 := fV_b104_110.ext E111
    have fV_b107_111 := V110.ext E111
    have sf_b111 : Safe Z consts_1 s.vm h111 b111 := Safe.ext E111 R110.1 (Safe.new (Nat.le_of_eq g111.symm))
    have F_value_b111 : Fld Z h111 b111 "java/lang/String" "value" "[B" .null := D111 (Or.inr (ow hw 17 rfl)) (ty := (.array .byte)) (by decide)
    have F_coder_b111 : Fld Z h111 b111 "java/lang/String" "coder" "B" (.int (0 : Int32)) := D111 (Or.inr (ow hw 18 rfl)) (ty := .byte) (by decide)
    refine Go.via (fun _ => XS.dup X111.here hx rfl (hb hby at_122) rfl rfl) ?_
    show Go p e below _ (T111.setTop (mkF m 123 #[iv p1, iv p2, iv p3, iv p4, iv p5, iv (0 : Int32), iv z0, iv z1, iv z2, rv b101, rv b102, rv b104, rv b107, rv b101, .unset, .unset, .unset] [(.ref b111), (.ref b111)]))
    refine Go.via (fun _ => XS.aload X111.here hx rfl (hb hby at_123) rfl rfl) ?_
    obtain ⟨_, _, ⟨T112, L112, k112, n112⟩, -, X112, S112w, gr112, ⟨Lc112, hQ112, l112, y112, z112, cr112⟩, st112⟩ := X111.specialBackS hx (y := (⟨"java/lang/String", "<init>", "([C)V"⟩ : MethodName)) rfl hown (mvT hZ (ow hw 5 rfl)) (mvT hZ (ow hw 6 rfl)) (mvT hZ (ow hw 7 rfl)) (by decide) (backOfSH (W := 1) (rmK1 l Z a0 hw [] b111 b101 k101 ccs vF h111 n0 Zs111 A111 F_value_b111 F_coder_b111 g_b111 (Ne.symm ne_b101_b111) fV_b101_111 hEW O111 G) hZ (ow hw 7 rfl) (ow hw 4 rfl) (by decide) (by decide) hEW R111.1) (g := (mkF m 125 #[iv p1, iv p2, iv p3, iv p4, iv p5, iv (0 : Int32), iv z0, iv z1, iv z2, rv b101, rv b102, rv b104, rv b107, rv b101, .unset, .unset, .unset] [(.ref b101), (.ref b111), (.ref b111)])) rfl (by rw [hml]; rfl) (Steps.refl _) (a := b111) (argsL := [(.ref b101)]) (rest := [(.ref b111)]) (lenOf pd_17 rfl) rfl (by show 2 * 0 + _ ≤ _; exact Nat.le_of_eq rfl) (hb hby at_125) (fun _ _ => ⟨rfl, e111, (by decide : 5 + 4 ≤ _), (by decide : 10 + 8 ≤ _)⟩)
    dsimp only [Pt.U, Pt.locs, Pt.cells, Pt.slots] at X112 l112 y112 z112 st112 hQ112 S112w gr112 cr112
    rw [l112, y112, z112] at X112
    replace X112 : Stand p l e _ _ m _ below meth c T112 _ 9 18 := X112
    obtain ⟨rfl, N112q, K112q, tx112⟩ := hQ112
    have N112 := Fr.app N110 N112q
    refine Go.tr st112 ?_
    obtain ⟨X112r, hS112, hZ112, hown112⟩ := rebS hS0 (by rw [e111]; exact hk111) X112 S112w gr112 hZ hown
    have sf_b101_112 := cr112.safe fV_b101_111.lt sf_b101_111
    have sf_b102_112 := cr112.safe fV_b102_111.lt sf_b102_111
    have sf_b104_112 := cr112.safe fV_b104_111.lt sf_b104_111
    have sf_b107_112 := cr112.safe fV_b107_111.lt sf_b107_111
    have sf_b111_112 := cr112.safe A111.lt sf_b111
    have R112 : CHr Z consts_1 s.vm h0 T112.vm T112.heap := R111.trans cr112
    have Zs112 : n0 ≤ T112.heap.size := Nat.le_trans Zs111 K112q.1
    have O112 : Old Z n0 T112.heap := O111.keep K112q (allS g_b111 all0)
    have fV_b101_112 := fV_b101_111.keep K112q (ninS ne_b101_b111 nin0)
    have fV_b102_112 := fV_b102_111.keep K112q (ninS ne_b102_b111 nin0)
    have fV_b104_112 := fV_b104_111.keep K112q (ninS ne_b104_b111 nin0)
    have fV_b107_112 := fV_b107_111.keep K112q (ninS ne_b107_b111 nin0)
    have fE_b111_112 := A111.keep K112q
    refine Go.via (fun _ => XS.astore X112r.here hx rfl (hb hby at_128) rfl rfl (l' := #[iv p1, iv p2, iv p3, iv p4, iv p5, iv (0 : Int32), iv z0, iv z1, iv z2, rv b101, rv b102, rv b104, rv b107, rv b101, rv b111, .unset, .unset]) rfl) ?_
    refine Go.via (fun _ => XS.iload X112r.here hx rfl (hb hby at_130) rfl) ?_
    refine Go.via (fun _ => XS.iconst X112r.here hx rfl (hb hby at_132)) ?_
    refine Go.via (fun _ => XS.icmpYes X112r.here hx rfl (pc0 := 133) (pc' := 182) rfl (hb hby at_133) rfl (by decide) (by decide) (by decide)) ?_
    show Go p e below _ (T112.setTop (mkF m 182 #[iv p1, iv p2, iv p3, iv p4, iv p5, iv (0 : Int32), iv z0, iv z1, iv z2, rv b101, rv b102, rv b104, rv b107, rv b101, rv b111, .unset, .unset] []))
    refine Go.via (fun _ => XS.iconst X112r.here hx rfl (hb hby at_182)) ?_
    refine Go.via (fun _ => XS.istore X112r.here hx rfl (hb hby at_183) rfl (l' := #[iv p1, iv p2, iv p3, iv p4, iv p5, iv (0 : Int32), iv z0, iv z1, iv z2, rv b101, rv b102, rv b104, rv b107, rv b101, rv b111, iv (0 : Int32), .unset]) rfl) ?_
    refine Go.via (fun _ => XS.aload X112r.here hx rfl (hb hby at_185) rfl rfl) ?_
    refine Go.via (fun _ => XS.iloadN X112r.here hx rfl (hb hby at_187) rfl) ?_
    obtain ⟨_, _, ⟨T113, L113, k113, n113⟩, -, X113, ⟨Lc113, hQ113, l113, y113, z113⟩, st113⟩ := Jvm.LawKit.callS X112r hx (y := (⟨"com/example/timed_cap/timedcap/model/Names", "isName", "(Ljava/lang/String;I)Z"⟩ : MethodName)) hown112 (mvT hZ112 (ow hw 23 rfl)) (mvT hZ112 (ow hw 24 rfl)) (mvT hZ112 (ow hw 25 rfl)) (mvT hZ112 (ow hw 26 rfl)) (by decide) (backOf (W := 0) (rmN_0 l Z a0 hw [] b111  p2 ccs vF T112.heap n0 Zs112 fE_b111_112 tx112  O112 G) hZ112 (ow hw 26 rfl) (ow hw 25 rfl) (by decide) (by decide)) (g := (mkF m 188 #[iv p1, iv p2, iv p3, iv p4, iv p5, iv (0 : Int32), iv z0, iv z1, iv z2, rv b101, rv b102, rv b104, rv b107, rv b101, rv b111, iv (0 : Int32), .unset] [(.int p2), (.ref b111)])) rfl (by rw [hml]; rfl) (argsL := [(.ref b111), (.int p2)]) (rest := []) (lenOf pd_18 rfl) rfl (by show 2 * 0 + _ ≤ _; exact Nat.le_of_eq rfl) (hb hby at_188) (fun _ _ => ⟨rfl, rfl, (by decide : 9 + 0 ≤ _), (by decide : 18 + 0 ≤ _)⟩)
    dsimp only [Pt.U, Pt.locs, Pt.cells, Pt.slots] at X113 l113 y113 z113 st113 hQ113
    rw [l113, y113, z113] at X113
    replace X113 : Stand p l e _ _ m _ below meth c T113 _ 9 18 := X113
    obtain ⟨rfl, N113q, e113q⟩ := hQ113
    have N113 := Fr.app N112 N113q
    refine Go.via st113 ?_
    refine Go.via (fun _ => XS.istore X113.here hx rfl (hb hby at_191) rfl (l' := #[iv p1, iv p2, iv p3, iv p4, iv p5, iv (0 : Int32), iv z0, iv z1, iv z2, rv b101, rv b102, rv b104, rv b107, rv b101, rv b111, iv (0 : Int32), iv (0 : Int32)]) rfl) ?_
    show Go p e below _ (T113.setTop (mkF m 193 #[iv p1, iv p2, iv p3, iv p4, iv p5, iv (0 : Int32), iv z0, iv z1, iv z2, rv b101, rv b102, rv b104, rv b107, rv b101, rv b111, iv (0 : Int32), iv (0 : Int32)] []))
    refine Go.via (fun _ => XS.iload X113.here hx rfl (hb hby at_193) rfl) ?_
    refine Go.via (fun _ => XS.iload X113.here hx rfl (hb hby at_195) rfl) ?_
    refine Go.via (fun _ => XS.icmpNo X113.here hx rfl (hb hby at_197) rfl (by decide)) ?_
    refine Go.via (fun _ => XS.iconst X113.here hx rfl (hb hby at_200)) ?_
    refine Go.via (fun _ => XS.goto X113.here hx rfl (pc0 := 201) (pc' := 205) rfl (hb hby at_201) (by decide) (by decide)) ?_
    exact own_retNW X113 hS112 (by rw [e113q]; exact (Nat.le_refl _)) hx hlk (t := .boolean) Bd.returns (by simp) (hb hby at_205) (by show Q0 Z p1 p2 p3 p4 p5 ccs vF h0 n0 _ T113.heap _; rw [e113q]; exact ⟨rfl, N113⟩) (by decide) (by decide)
  ·
    refine Go.via (fun _ => XS.iload X110.here hx rfl (hb hby at_77) rfl) ?_
    show Go p e below _ (T110.setTop (mkF m 79 #[iv p1, iv p2, iv p3, iv p4, iv p5, iv (1 : Int32), iv z0, iv z1, iv z2, rv b101, rv b102, rv b104, rv b107, .unset, .unset, .unset, .unset] [(.int (1 : Int32))]))
    refine Go.via (fun _ => XS.ifYes X110.here hx rfl (pc0 := 79) (pc' := 89) rfl (hb hby at_79) rfl (by decide) (by decide) (by decide)) ?_
    refine Go.via (fun _ => XS.iload X110.here hx rfl (hb hby at_89) rfl) ?_
    refine Go.via (fun _ => XS.iconst X110.here hx rfl (hb hby at_91)) ?_
    refine Go.via (fun _ => XS.icmpNo X110.here hx rfl (hb hby at_92) rfl (by decide)) ?_
    refine Go.via (fun _ => XS.aload X110.here hx rfl (hb hby at_95) rfl rfl) ?_
    refine Go.via (fun _ => XS.astore X110.here hx rfl (hb hby at_97) rfl rfl (l' := #[iv p1, iv p2, iv p3, iv p4, iv p5, iv (1 : Int32), iv z0, iv z1, iv z2, rv b101, rv b102, rv b104, rv b107, rv b102, .unset, .unset, .unset]) rfl) ?_
    show Go p e below _ (T110.setTop (mkF m 99 #[iv p1, iv p2, iv p3, iv p4, iv p5, iv (1 : Int32), iv z0, iv z1, iv z2, rv b101, rv b102, rv b104, rv b107, rv b102, .unset, .unset, .unset] []))
    refine Go.via (fun _ => XS.goto X110.here hx rfl (pc0 := 99) (pc' := 119) rfl (hb hby at_99) (by decide) (by decide)) ?_
    obtain ⟨T114, h114, X114, e114, E114, A114, D114, -, st114⟩ := newO X110 hx hZ hown (ow hw 2 rfl) (ow hw 3 rfl) (ow hw 4 rfl) e110 (g := (mkF m 119 #[iv p1, iv p2, iv p3, iv p4, iv p5, iv (1 : Int32), iv z0, iv z1, iv z2, rv b101, rv b102, rv b104, rv b107, rv b102, .unset, .unset, .unset] [])) rfl (hb hby at_119) (by decide) (by decide)
    obtain ⟨b114, g114⟩ : ∃ z, z = h110.size := ⟨_, rfl⟩
    rw [← g114] at A114 D114 st114
    have g_b114 : n0 ≤ b114 := Nat.le_trans Zs110 (Nat.le_of_eq g114.symm)
    have ne_b101_b114 : b101 ≠ b114 := Nat.ne_of_lt (Nat.lt_of_lt_of_le fV_b101_110.lt (Nat.le_of_eq g114.symm))
    have ne_b102_b114 : b102 ≠ b114 := Nat.ne_of_lt (Nat.lt_of_lt_of_le fV_b102_110.lt (Nat.le_of_eq g114.symm))
    have ne_b104_b114 : b104 ≠ b114 := Nat.ne_of_lt (Nat.lt_of_lt_of_le fV_b104_110.lt (Nat.le_of_eq g114.symm))
    have ne_b107_b114 : b107 ≠ b114 := Nat.ne_of_lt (Nat.lt_of_lt_of_le V110.lt (Nat.le_of_eq g114.symm))
    refine Go.via st114 ?_
    have Zs114 : n0 ≤ h114.size := Nat.le_trans Zs110 E114.1
    have hk114 : 0 ≤ h114.size := Nat.le_trans hk110 E114.1
    have sf_b101_114 := Safe.ext E114 R110.1 sf_b101_110
    have sf_b102_114 := Safe.ext E114 R110.1 sf_b102_110
    have sf_b104_114 := Safe.ext E114 R110.1 sf_b104_110
    have sf_b107_114 := Safe.ext E114 R110.1 sf_b107_110
    have R114 : CHr Z consts_1 s.vm h0 s.vm h114 := R110.trans (CHr.ext E114 R110.1)
    have O114 : Old Z n0 h114 := O110.ext E114
    have fV_b101_114 := fV_b101_110.ext E114
    have fV_b102_114 := fV_b102_110.ext E114
    have fV_b104_114 := fV_b104_110.ext E114
    have fV_b107_114 := V110.ext E114
    have sf_b114 : Safe Z consts_1 s.vm h114 b114 := Safe.ext E114 R110.1 (Safe.new (Nat.le_of_eq g114.symm))
    have F_value_b114 : Fld Z h114 b114 "java/lang/String" "value" "[B" .null := D114 (Or.inr (ow hw 17 rfl)) (ty := (.array .byte)) (by decide)
    have F_coder_b114 : Fld Z h114 b114 "java/lang/String" "coder" "B" (.int (0 : Int32)) := D114 (Or.inr (ow hw 18 rfl)) (ty := .byte) (by decide)
    refine Go.via (fun _ => XS.dup X114.here hx rfl (hb hby at_122) rfl rfl) ?_
    refine Go.via (fun _ => XS.aload X114.here hx rfl (hb hby at_123) rfl rfl) ?_
    rw [r_z0.2.2] at fV_b102_114
    obtain ⟨_, _, ⟨T115, L115, k115, n115⟩, -, X115, ⟨Lc115, hQ115, l115, y115, z115⟩, st115⟩ := X114.specialBack hx (y := (⟨"java/lang/String", "<init>", "([C)V"⟩ : MethodName)) rfl hown (mvT hZ (ow hw 5 rfl)) (mvT hZ (ow hw 6 rfl)) (mvT hZ (ow hw 7 rfl)) (by decide) (backOf (W := 1) (rmJ1_1 l Z a0 hw [] b114 b102 k102 z0 ccs vF h114 n0 Zs114 A114 F_value_b114 F_coder_b114 g_b114 (Ne.symm ne_b102_b114) fV_b102_114 ⟨r_z0.1, r_z0.2.1⟩ O114 G) hZ (ow hw 7 rfl) (ow hw 4 rfl) (by decide) (by decide)) (g := (mkF m 125 #[iv p1, iv p2, iv p3, iv p4, iv p5, iv (1 : Int32), iv z0, iv z1, iv z2, rv b101, rv b102, rv b104, rv b107, rv b102, .unset, .unset, .unset] [(.ref b102), (.ref b114), (.ref b114)])) rfl (by rw [hml]; rfl) (Steps.refl _) (a := b114) (argsL := [(.ref b102)]) (rest := [(.ref b114)]) (lenOf pd_17 rfl) rfl (by show 2 * 0 + _ ≤ _; exact Nat.le_of_eq rfl) (hb hby at_125) (fun _ _ => ⟨rfl, e114, (by decide : 5 + 2 ≤ _), (by decide : 10 + 3 ≤ _)⟩)
    dsimp only [Pt.U, Pt.locs, Pt.cells, Pt.slots] at X115 l115 y115 z115 st115 hQ115
    rw [l115, y115, z115] at X115
    replace X115 : Stand p l e _ _ m _ below meth c T115 _ 7 13 := X115
    obtain ⟨rfl, N115q, K115q, tx115⟩ := hQ115
    have N115 := Fr.app N110 N115q
    refine Go.tr st115 ?_
    have Zs115 : n0 ≤ T115.heap.size := Nat.le_trans Zs114 K115q.1
    have hk115 : 0 ≤ T115.heap.size := Nat.le_trans hk114 K115q.1
    have sf_b101_115 := Safe.keep K115q (allS sf_b114 all0) R114.1 sf_b101_114
    have sf_b102_115 := Safe.keep K115q (allS sf_b114 all0) R114.1 sf_b102_114
    have sf_b104_115 := Safe.keep K115q (allS sf_b114 all0) R114.1 sf_b104_114
    have sf_b107_115 := Safe.keep K115q (allS sf_b114 all0) R114.1 sf_b107_114
    have sf_b114_115 := Safe.keep K115q (allS sf_b114 all0) R114.1 sf_b114
    have R115 : CHr Z consts_1 s.vm h0 s.vm T115.heap := R114.trans (CHr.keep K115q (allS sf_b114 all0) R114.1)
    have O115 : Old Z n0 T115.heap := O114.keep K115q (allS g_b114 all0)
    have fV_b101_115 := fV_b101_114.keep K115q (ninS ne_b101_b114 nin0)
    have fV_b102_115 := fV_b102_114.keep K115q (ninS ne_b102_b114 nin0)
    have fV_b104_115 := fV_b104_114.keep K115q (ninS ne_b104_b114 nin0)
    have fV_b107_115 := fV_b107_114.keep K115q (ninS ne_b107_b114 nin0)
    have fE_b114_115 := A114.keep K115q
    refine Go.via (fun _ => XS.astore X115.here hx rfl (hb hby at_128) rfl rfl (l' := #[iv p1, iv p2, iv p3, iv p4, iv p5, iv (1 : Int32), iv z0, iv z1, iv z2, rv b101, rv b102, rv b104, rv b107, rv b102, rv b114, .unset, .unset]) rfl) ?_
    show Go p e below _ (T115.setTop (mkF m 130 #[iv p1, iv p2, iv p3, iv p4, iv p5, iv (1 : Int32), iv z0, iv z1, iv z2, rv b101, rv b102, rv b104, rv b107, rv b102, rv b114, .unset, .unset] []))
    refine Go.via (fun _ => XS.iload X115.here hx rfl (hb hby at_130) rfl) ?_
    refine Go.via (fun _ => XS.iconst X115.here hx rfl (hb hby at_132)) ?_
    refine Go.via (fun _ => XS.icmpNo X115.here hx rfl (hb hby at_133) rfl (by decide)) ?_
    refine Go.via (fun _ => XS.iload X115.here hx rfl (hb hby at_136) rfl) ?_
    refine Go.via (fun _ => XS.iloadN X115.here hx rfl (hb hby at_138) rfl) ?_
    by_cases hc116 : p2 < (1 : Int32)
    · -- yes
      show Go p e below _ (T115.setTop (mkF m 139 #[iv p1, iv p2, iv p3, iv p4, iv p5, iv (1 : Int32), iv z0, iv z1, iv z2, rv b101, rv b102, rv b104, rv b107, rv b102, rv b114, .unset, .unset] [(.int p2), (.int (1 : Int32))]))
      refine Go.via (fun _ => XS.icmpYes X115.here hx rfl (pc0 := 139) (pc' := 182) rfl (hb hby at_139) rfl (tlt hc116).2.2.1 (by decide) (by decide)) ?_
      refine Go.via (fun _ => XS.iconst X115.here hx rfl (hb hby at_182)) ?_
      refine Go.via (fun _ => XS.istore X115.here hx rfl (hb hby at_183) rfl (l' := #[iv p1, iv p2, iv p3, iv p4, iv p5, iv (1 : Int32), iv z0, iv z1, iv z2, rv b101, rv b102, rv b104, rv b107, rv b102, rv b114, iv (0 : Int32), .unset]) rfl) ?_
      refine Go.via (fun _ => XS.aload X115.here hx rfl (hb hby at_185) rfl rfl) ?_
      refine Go.via (fun _ => XS.iloadN X115.here hx rfl (hb hby at_187) rfl) ?_
      show Go p e below _ (T115.setTop (mkF m 188 #[iv p1, iv p2, iv p3, iv p4, iv p5, iv (1 : Int32), iv z0, iv z1, iv z2, rv b101, rv b102, rv b104, rv b107, rv b102, rv b114, iv (0 : Int32), .unset] [(.int p2), (.ref b114)]))
      obtain ⟨_, _, ⟨T117, L117, k117, n117⟩, -, X117, ⟨Lc117, hQ117, l117, y117, z117⟩, st117⟩ := Jvm.LawKit.callS X115 hx (y := (⟨"com/example/timed_cap/timedcap/model/Names", "isName", "(Ljava/lang/String;I)Z"⟩ : MethodName)) hown (mvT hZ (ow hw 23 rfl)) (mvT hZ (ow hw 24 rfl)) (mvT hZ (ow hw 25 rfl)) (mvT hZ (ow hw 26 rfl)) (by decide) (backOf (W := 0) (rmN_1 l Z a0 hw [] b114 z0 p2 ccs vF T115.heap n0 Zs115 fE_b114_115 tx115 ⟨r_z0.1, r_z0.2.1⟩ O115 G) hZ (ow hw 26 rfl) (ow hw 25 rfl) (by decide) (by decide)) (g := (mkF m 188 #[iv p1, iv p2, iv p3, iv p4, iv p5, iv (1 : Int32), iv z0, iv z1, iv z2, rv b101, rv b102, rv b104, rv b107, rv b102, rv b114, iv (0 : Int32), .unset] [(.int p2), (.ref b114)])) rfl (by rw [hml]; rfl) (argsL := [(.ref b114), (.int p2)]) (rest := []) (lenOf pd_18 rfl) rfl (by show 2 * 0 + _ ≤ _; exact Nat.le_of_eq rfl) (hb hby at_188) (fun _ _ => ⟨rfl, rfl, (by decide : 7 + 0 ≤ _), (by decide : 13 + 0 ≤ _)⟩)
      dsimp only [Pt.U, Pt.locs, Pt.cells, Pt.slots] at X117 l117 y117 z117 st117 hQ117
      rw [l117, y117, z117] at X117
      replace X117 : Stand p l e _ _ m _ below meth c T117 _ 7 13 := X117
      obtain ⟨rfl, N117q, e117q⟩ := hQ117
      have N117 := Fr.app N115 N117q
      refine Go.via st117 ?_
      refine Go.via (fun _ => XS.istore X117.here hx rfl (hb hby at_191) rfl (l' := #[iv p1, iv p2, iv p3, iv p4, iv p5, iv (1 : Int32), iv z0, iv z1, iv z2, rv b101, rv b102, rv b104, rv b107, rv b102, rv b114, iv (0 : Int32), iv (nm1 p2 z0)]) rfl) ?_
      refine Go.via (fun _ => XS.iload X117.here hx rfl (hb hby at_193) rfl) ?_
      refine Go.via (fun _ => XS.iload X117.here hx rfl (hb hby at_195) rfl) ?_
      have hfin : (nm1 p2 z0) = (0 : Int32) := by simp [nm1, hc116]
      refine Go.via (fun _ => XS.icmpNo X117.here hx rfl (hb hby at_197) rfl (teq hfin).2) ?_
      refine Go.via (fun _ => XS.iconst X117.here hx rfl (hb hby at_200)) ?_
      show Go p e below _ (T117.setTop (mkF m 201 #[iv p1, iv p2, iv p3, iv p4, iv p5, iv (1 : Int32), iv z0, iv z1, iv z2, rv b101, rv b102, rv b104, rv b107, rv b102, rv b114, iv (0 : Int32), iv (nm1 p2 z0)] [(.int (1 : Int32))]))
      refine Go.via (fun _ => XS.goto X117.here hx rfl (pc0 := 201) (pc' := 205) rfl (hb hby at_201) (by decide) (by decide)) ?_
      exact own_retNW X117 hS0 (by rw [e117q]; exact hk115) hx hlk (t := .boolean) Bd.returns (by simp) (hb hby at_205) (by show Q0 Z p1 p2 p3 p4 p5 ccs vF h0 n0 _ T117.heap _; rw [e117q]; exact ⟨rfl, N117⟩) (by decide) (by decide)
    · -- no
      show Go p e below _ (T115.setTop (mkF m 139 #[iv p1, iv p2, iv p3, iv p4, iv p5, iv (1 : Int32), iv z0, iv z1, iv z2, rv b101, rv b102, rv b104, rv b107, rv b102, rv b114, .unset, .unset] [(.int p2), (.int (1 : Int32))]))
      refine Go.via (fun _ => XS.icmpNo X115.here hx rfl (hb hby at_139) rfl (flt hc116).2.2.1) ?_
      refine Go.via (fun _ => XS.iload X115.here hx rfl (hb hby at_142) rfl) ?_
      obtain ⟨_, _, ⟨T118, L118, k118, n118⟩, -, X118, ⟨Lc118, hQ118, l118, y118, z118⟩, st118⟩ := Jvm.LawKit.callS X115 hx (y := (⟨"com/example/timed_cap/timedcap/model/NamesIsNamePinLaw", "allowed", "(C)Z"⟩ : MethodName)) hown (mvT hZ (ow hw 43 rfl)) (mvT hZ (ow hw 44 rfl)) (mvT hZ (ow hw 45 rfl)) (mvT hZ (ow hw 46 rfl)) (by decide) (backOf (W := 0) (rm_allowed l Z a0 hw [] z0 T115.heap n0 Zs115) hZ (ow hw 46 rfl) (ow hw 45 rfl) (by decide) (by decide)) (g := (mkF m 144 #[iv p1, iv p2, iv p3, iv p4, iv p5, iv (1 : Int32), iv z0, iv z1, iv z2, rv b101, rv b102, rv b104, rv b107, rv b102, rv b114, .unset, .unset] [(.int z0)])) rfl (by rw [hml]; rfl) (argsL := [(.int z0)]) (rest := []) (lenOf pd_7 rfl) rfl (by show 2 * 0 + _ ≤ _; exact Nat.le_of_eq rfl) (hb hby at_144) (fun _ _ => ⟨rfl, rfl, (by decide : 7 + 0 ≤ _), (by decide : 13 + 0 ≤ _)⟩)
      dsimp only [Pt.U, Pt.locs, Pt.cells, Pt.slots] at X118 l118 y118 z118 st118 hQ118
      rw [l118, y118, z118] at X118
      replace X118 : Stand p l e _ _ m _ below meth c T118 _ 7 13 := X118
      obtain ⟨rfl, N118q, e118q⟩ := hQ118
      have N118 := Fr.app N115 N118q
      refine Go.via st118 ?_
      by_cases hc119 : (okF z0) = (0 : Int32)
      · -- yes
        show Go p e below _ (T118.setTop (mkF m 147 #[iv p1, iv p2, iv p3, iv p4, iv p5, iv (1 : Int32), iv z0, iv z1, iv z2, rv b101, rv b102, rv b104, rv b107, rv b102, rv b114, .unset, .unset] [(.int (okF z0))]))
        refine Go.via (fun _ => XS.ifYes X118.here hx rfl (pc0 := 147) (pc' := 182) rfl (hb hby at_147) rfl ((if0 _ _).trans (teq hc119).1) (by decide) (by decide)) ?_
        refine Go.via (fun _ => XS.iconst X118.here hx rfl (hb hby at_182)) ?_
        refine Go.via (fun _ => XS.istore X118.here hx rfl (hb hby at_183) rfl (l' := #[iv p1, iv p2, iv p3, iv p4, iv p5, iv (1 : Int32), iv z0, iv z1, iv z2, rv b101, rv b102, rv b104, rv b107, rv b102, rv b114, iv (0 : Int32), .unset]) rfl) ?_
        refine Go.via (fun _ => XS.aload X118.here hx rfl (hb hby at_185) rfl rfl) ?_
        refine Go.via (fun _ => XS.iloadN X118.here hx rfl (hb hby at_187) rfl) ?_
        obtain ⟨_, _, ⟨T120, L120, k120, n120⟩, -, X120, ⟨Lc120, hQ120, l120, y120, z120⟩, st120⟩ := Jvm.LawKit.callS X118 hx (y := (⟨"com/example/timed_cap/timedcap/model/Names", "isName", "(Ljava/lang/String;I)Z"⟩ : MethodName)) hown (mvT hZ (ow hw 23 rfl)) (mvT hZ (ow hw 24 rfl)) (mvT hZ (ow hw 25 rfl)) (mvT hZ (ow hw 26 rfl)) (by decide) (backOf (W := 0) (rmN_1 l Z a0 hw [] b114 z0 p2 ccs vF T115.heap n0 Zs115 fE_b114_115 tx115 ⟨r_z0.1, r_z0.2.1⟩ O115 G) hZ (ow hw 26 rfl) (ow hw 25 rfl) (by decide) (by decide)) (g := (mkF m 188 #[iv p1, iv p2, iv p3, iv p4, iv p5, iv (1 : Int32), iv z0, iv z1, iv z2, rv b101, rv b102, rv b104, rv b107, rv b102, rv b114, iv (0 : Int32), .unset] [(.int p2), (.ref b114)])) rfl (by rw [hml]; rfl) (argsL := [(.ref b114), (.int p2)]) (rest := []) (lenOf pd_18 rfl) rfl (by show 2 * 0 + _ ≤ _; exact Nat.le_of_eq rfl) (hb hby at_188) (fun _ _ => ⟨rfl, e118q, (by decide : 7 + 0 ≤ _), (by decide : 13 + 0 ≤ _)⟩)
        dsimp only [Pt.U, Pt.locs, Pt.cells, Pt.slots] at X120 l120 y120 z120 st120 hQ120
        rw [l120, y120, z120] at X120
        replace X120 : Stand p l e _ _ m _ below meth c T120 _ 7 13 := X120
        obtain ⟨rfl, N120q, e120q⟩ := hQ120
        have N120 := Fr.app N118 N120q
        refine Go.via st120 ?_
        show Go p e below _ (T120.setTop (mkF m 191 #[iv p1, iv p2, iv p3, iv p4, iv p5, iv (1 : Int32), iv z0, iv z1, iv z2, rv b101, rv b102, rv b104, rv b107, rv b102, rv b114, iv (0 : Int32), .unset] [(.int (nm1 p2 z0))]))
        refine Go.via (fun _ => XS.istore X120.here hx rfl (hb hby at_191) rfl (l' := #[iv p1, iv p2, iv p3, iv p4, iv p5, iv (1 : Int32), iv z0, iv z1, iv z2, rv b101, rv b102, rv b104, rv b107, rv b102, rv b114, iv (0 : Int32), iv (nm1 p2 z0)]) rfl) ?_
        refine Go.via (fun _ => XS.iload X120.here hx rfl (hb hby at_193) rfl) ?_
        refine Go.via (fun _ => XS.iload X120.here hx rfl (hb hby at_195) rfl) ?_
        have hfin : (nm1 p2 z0) = (0 : Int32) := by simp [nm1, hc116, hc119]
        refine Go.via (fun _ => XS.icmpNo X120.here hx rfl (hb hby at_197) rfl (teq hfin).2) ?_
        refine Go.via (fun _ => XS.iconst X120.here hx rfl (hb hby at_200)) ?_
        refine Go.via (fun _ => XS.goto X120.here hx rfl (pc0 := 201) (pc' := 205) rfl (hb hby at_201) (by decide) (by decide)) ?_
        show Go p e below _ (T120.setTop (mkF m 205 #[iv p1, iv p2, iv p3, iv p4, iv p5, iv (1 : Int32), iv z0, iv z1, iv z2, rv b101, rv b102, rv b104, rv b107, rv b102, rv b114, iv (0 : Int32), iv (nm1 p2 z0)] [(.int (1 : Int32))]))
        exact own_retNW X120 hS0 (by rw [e120q]; exact hk115) hx hlk (t := .boolean) Bd.returns (by simp) (hb hby at_205) (by show Q0 Z p1 p2 p3 p4 p5 ccs vF h0 n0 _ T120.heap _; rw [e120q]; exact ⟨rfl, N120⟩) (by decide) (by decide)
      · -- no
        show Go p e below _ (T118.setTop (mkF m 147 #[iv p1, iv p2, iv p3, iv p4, iv p5, iv (1 : Int32), iv z0, iv z1, iv z2, rv b101, rv b102, rv b104, rv b107, rv b102, rv b114, .unset, .unset] [(.int (okF z0))]))
        refine Go.via (fun _ => XS.ifNo X118.here hx rfl (hb hby at_147) rfl ((if0 _ _).trans (feq hc119).1)) ?_
        refine Go.via (fun _ => XS.iload X118.here hx rfl (hb hby at_150) rfl) ?_
        refine Go.via (fun _ => XS.iconst X118.here hx rfl (hb hby at_152)) ?_
        refine Go.via (fun _ => XS.icmpYes X118.here hx rfl (pc0 := 153) (pc' := 164) rfl (hb hby at_153) rfl (by decide) (by decide) (by decide)) ?_
        refine Go.via (fun _ => XS.iload X118.here hx rfl (hb hby at_164) rfl) ?_
        refine Go.via (fun _ => XS.iconst X118.here hx rfl (hb hby at_166)) ?_
        show Go p e below _ (T118.setTop (mkF m 167 #[iv p1, iv p2, iv p3, iv p4, iv p5, iv (1 : Int32), iv z0, iv z1, iv z2, rv b101, rv b102, rv b104, rv b107, rv b102, rv b114, .unset, .unset] [(.int (3 : Int32)), (.int (1 : Int32))]))
        refine Go.via (fun _ => XS.icmpYes X118.here hx rfl (pc0 := 167) (pc' := 178) rfl (hb hby at_167) rfl (by decide) (by decide) (by decide)) ?_
        refine Go.via (fun _ => XS.iconst X118.here hx rfl (hb hby at_178)) ?_
        refine Go.via (fun _ => XS.goto X118.here hx rfl (pc0 := 179) (pc' := 183) rfl (hb hby at_179) (by decide) (by decide)) ?_
        refine Go.via (fun _ => XS.istore X118.here hx rfl (hb hby at_183) rfl (l' := #[iv p1, iv p2, iv p3, iv p4, iv p5, iv (1 : Int32), iv z0, iv z1, iv z2, rv b101, rv b102, rv b104, rv b107, rv b102, rv b114, iv (1 : Int32), .unset]) rfl) ?_
        refine Go.via (fun _ => XS.aload X118.here hx rfl (hb hby at_185) rfl rfl) ?_
        refine Go.via (fun _ => XS.iloadN X118.here hx rfl (hb hby at_187) rfl) ?_
        show Go p e below _ (T118.setTop (mkF m 188 #[iv p1, iv p2, iv p3, iv p4, iv p5, iv (1 : Int32), iv z0, iv z1, iv z2, rv b101, rv b102, rv b104, rv b107, rv b102, rv b114, iv (1 : Int32), .unset] [(.int p2), (.ref b114)]))
        obtain ⟨_, _, ⟨T121, L121, k121, n121⟩, -, X121, ⟨Lc121, hQ121, l121, y121, z121⟩, st121⟩ := Jvm.LawKit.callS X118 hx (y := (⟨"com/example/timed_cap/timedcap/model/Names", "isName", "(Ljava/lang/String;I)Z"⟩ : MethodName)) hown (mvT hZ (ow hw 23 rfl)) (mvT hZ (ow hw 24 rfl)) (mvT hZ (ow hw 25 rfl)) (mvT hZ (ow hw 26 rfl)) (by decide) (backOf (W := 0) (rmN_1 l Z a0 hw [] b114 z0 p2 ccs vF T115.heap n0 Zs115 fE_b114_115 tx115 ⟨r_z0.1, r_z0.2.1⟩ O115 G) hZ (ow hw 26 rfl) (ow hw 25 rfl) (by decide) (by decide)) (g := (mkF m 188 #[iv p1, iv p2, iv p3, iv p4, iv p5, iv (1 : Int32), iv z0, iv z1, iv z2, rv b101, rv b102, rv b104, rv b107, rv b102, rv b114, iv (1 : Int32), .unset] [(.int p2), (.ref b114)])) rfl (by rw [hml]; rfl) (argsL := [(.ref b114), (.int p2)]) (rest := []) (lenOf pd_18 rfl) rfl (by show 2 * 0 + _ ≤ _; exact Nat.le_of_eq rfl) (hb hby at_188) (fun _ _ => ⟨rfl, e118q, (by decide : 7 + 0 ≤ _), (by decide : 13 + 0 ≤ _)⟩)
        dsimp only [Pt.U, Pt.locs, Pt.cells, Pt.slots] at X121 l121 y121 z121 st121 hQ121
        rw [l121, y121, z121] at X121
        replace X121 : Stand p l e _ _ m _ below meth c T121 _ 7 13 := X121
        obtain ⟨rfl, N121q, e121q⟩ := hQ121
        have N121 := Fr.app N118 N121q
        refine Go.via st121 ?_
        refine Go.via (fun _ => XS.istore X121.here hx rfl (hb hby at_191) rfl (l' := #[iv p1, iv p2, iv p3, iv p4, iv p5, iv (1 : Int32), iv z0, iv z1, iv z2, rv b101, rv b102, rv b104, rv b107, rv b102, rv b114, iv (1 : Int32), iv (nm1 p2 z0)]) rfl) ?_
        refine Go.via (fun _ => XS.iload X121.here hx rfl (hb hby at_193) rfl) ?_
        refine Go.via (fun _ => XS.iload X121.here hx rfl (hb hby at_195) rfl) ?_
        have hfin : (nm1 p2 z0) = (1 : Int32) := by simp [nm1, hc116, hc119]
        refine Go.via (fun _ => XS.icmpNo X121.here hx rfl (hb hby at_197) rfl (teq hfin).2) ?_
        refine Go.via (fun _ => XS.iconst X121.here hx rfl (hb hby at_200)) ?_
        show Go p e below _ (T121.setTop (mkF m 201 #[iv p1, iv p2, iv p3, iv p4, iv p5, iv (1 : Int32), iv z0, iv z1, iv z2, rv b101, rv b102, rv b104, rv b107, rv b102, rv b114, iv (1 : Int32), iv (nm1 p2 z0)] [(.int (1 : Int32))]))
        refine Go.via (fun _ => XS.goto X121.here hx rfl (pc0 := 201) (pc' := 205) rfl (hb hby at_201) (by decide) (by decide)) ?_
        exact own_retNW X121 hS0 (by rw [e121q]; exact hk115) hx hlk (t := .boolean) Bd.returns (by simp) (hb hby at_205) (by show Q0 Z p1 p2 p3 p4 p5 ccs vF h0 n0 _ T121.heap _; rw [e121q]; exact ⟨rfl, N121⟩) (by decide) (by decide)
  ·
    refine Go.via (fun _ => XS.iload X110.here hx rfl (hb hby at_77) rfl) ?_
    show Go p e below _ (T110.setTop (mkF m 79 #[iv p1, iv p2, iv p3, iv p4, iv p5, iv (2 : Int32), iv z0, iv z1, iv z2, rv b101, rv b102, rv b104, rv b107, .unset, .unset, .unset, .unset] [(.int (2 : Int32))]))
    refine Go.via (fun _ => XS.ifYes X110.here hx rfl (pc0 := 79) (pc' := 89) rfl (hb hby at_79) rfl (by decide) (by decide) (by decide)) ?_
    refine Go.via (fun _ => XS.iload X110.here hx rfl (hb hby at_89) rfl) ?_
    refine Go.via (fun _ => XS.iconst X110.here hx rfl (hb hby at_91)) ?_
    refine Go.via (fun _ => XS.icmpYes X110.here hx rfl (pc0 := 92) (pc' := 102) rfl (hb hby at_92) rfl (by decide) (by decide) (by decide)) ?_
    refine Go.via (fun _ => XS.iload X110.here hx rfl (hb hby at_102) rfl) ?_
    refine Go.via (fun _ => XS.iconst X110.here hx rfl (hb hby at_104)) ?_
    show Go p e below _ (T110.setTop (mkF m 105 #[iv p1, iv p2, iv p3, iv p4, iv p5, iv (2 : Int32), iv z0, iv z1, iv z2, rv b101, rv b102, rv b104, rv b107, .unset, .unset, .unset, .unset] [(.int (2 : Int32)), (.int (2 : Int32))]))
    refine Go.via (fun _ => XS.icmpNo X110.here hx rfl (hb hby at_105) rfl (by decide)) ?_
    refine Go.via (fun _ => XS.aload X110.here hx rfl (hb hby at_108) rfl rfl) ?_
    refine Go.via (fun _ => XS.astore X110.here hx rfl (hb hby at_110) rfl rfl (l' := #[iv p1, iv p2, iv p3, iv p4, iv p5, iv (2 : Int32), iv z0, iv z1, iv z2, rv b101, rv b102, rv b104, rv b107, rv b104, .unset, .unset, .unset]) rfl) ?_
    refine Go.via (fun _ => XS.goto X110.here hx rfl (pc0 := 112) (pc' := 119) rfl (hb hby at_112) (by decide) (by decide)) ?_
    obtain ⟨T122, h122, X122, e122, E122, A122, D122, -, st122⟩ := newO X110 hx hZ hown (ow hw 2 rfl) (ow hw 3 rfl) (ow hw 4 rfl) e110 (g := (mkF m 119 #[iv p1, iv p2, iv p3, iv p4, iv p5, iv (2 : Int32), iv z0, iv z1, iv z2, rv b101, rv b102, rv b104, rv b107, rv b104, .unset, .unset, .unset] [])) rfl (hb hby at_119) (by decide) (by decide)
    obtain ⟨b122, g122⟩ : ∃ z, z = h110.size := ⟨_, rfl⟩
    rw [← g122] at A122 D122 st122
    have g_b122 : n0 ≤ b122 := Nat.le_trans Zs110 (Nat.le_of_eq g122.symm)
    have ne_b101_b122 : b101 ≠ b122 := Nat.ne_of_lt (Nat.lt_of_lt_of_le fV_b101_110.lt (Nat.le_of_eq g122.symm))
    have ne_b102_b122 : b102 ≠ b122 := Nat.ne_of_lt (Nat.lt_of_lt_of_le fV_b102_110.lt (Nat.le_of_eq g122.symm))
    have ne_b104_b122 : b104 ≠ b122 := Nat.ne_of_lt (Nat.lt_of_lt_of_le fV_b104_110.lt (Nat.le_of_eq g122.symm))
    have ne_b107_b122 : b107 ≠ b122 := Nat.ne_of_lt (Nat.lt_of_lt_of_le V110.lt (Nat.le_of_eq g122.symm))
    refine Go.via st122 ?_
    have Zs122 : n0 ≤ h122.size := Nat.le_trans Zs110 E122.1
    have hk122 : 0 ≤ h122.size := Nat.le_trans hk110 E122.1
    have sf_b101_122 := Safe.ext E122 R110.1 sf_b101_110
    have sf_b102_122 := Safe.ext E122 R110.1 sf_b102_110
    have sf_b104_122 := Safe.ext E122 R110.1 sf_b104_110
    have sf_b107_122 := Safe.ext E122 R110.1 sf_b107_110
    have R122 : CHr Z consts_1 s.vm h0 s.vm h122 := R110.trans (CHr.ext E122 R110.1)
    have O122 : Old Z n0 h122 := O110.ext E122
    have fV_b101_122 := fV_b101_110.ext E122
    have fV_b102_122 := fV_b102_110.ext E122
    have fV_b104_122 := fV_b104_110.ext E122
    have fV_b107_122 := V110.ext E122
    have sf_b122 : Safe Z consts_1 s.vm h122 b122 := Safe.ext E122 R110.1 (Safe.new (Nat.le_of_eq g122.symm))
    have F_value_b122 : Fld Z h122 b122 "java/lang/String" "value" "[B" .null := D122 (Or.inr (ow hw 17 rfl)) (ty := (.array .byte)) (by decide)
    have F_coder_b122 : Fld Z h122 b122 "java/lang/String" "coder" "B" (.int (0 : Int32)) := D122 (Or.inr (ow hw 18 rfl)) (ty := .byte) (by decide)
    refine Go.via (fun _ => XS.dup X122.here hx rfl (hb hby at_122) rfl rfl) ?_
    show Go p e below _ (T122.setTop (mkF m 123 #[iv p1, iv p2, iv p3, iv p4, iv p5, iv (2 : Int32), iv z0, iv z1, iv z2, rv b101, rv b102, rv b104, rv b107, rv b104, .unset, .unset, .unset] [(.ref b122), (.ref b122)]))
    refine Go.via (fun _ => XS.aload X122.here hx rfl (hb hby at_123) rfl rfl) ?_
    rw [r_z0.2.2, r_z1.2.2] at fV_b104_122
    obtain ⟨_, _, ⟨T123, L123, k123, n123⟩, -, X123, ⟨Lc123, hQ123, l123, y123, z123⟩, st123⟩ := X122.specialBack hx (y := (⟨"java/lang/String", "<init>", "([C)V"⟩ : MethodName)) rfl hown (mvT hZ (ow hw 5 rfl)) (mvT hZ (ow hw 6 rfl)) (mvT hZ (ow hw 7 rfl)) (by decide) (backOf (W := 1) (rmJ1_2 l Z a0 hw [] b122 b104 k104 z0 z1 ccs vF h122 n0 Zs122 A122 F_value_b122 F_coder_b122 g_b122 (Ne.symm ne_b104_b122) fV_b104_122 ⟨r_z0.1, r_z0.2.1⟩ ⟨r_z1.1, r_z1.2.1⟩ O122 G) hZ (ow hw 7 rfl) (ow hw 4 rfl) (by decide) (by decide)) (g := (mkF m 125 #[iv p1, iv p2, iv p3, iv p4, iv p5, iv (2 : Int32), iv z0, iv z1, iv z2, rv b101, rv b102, rv b104, rv b107, rv b104, .unset, .unset, .unset] [(.ref b104), (.ref b122), (.ref b122)])) rfl (by rw [hml]; rfl) (Steps.refl _) (a := b122) (argsL := [(.ref b104)]) (rest := [(.ref b122)]) (lenOf pd_17 rfl) rfl (by show 2 * 0 + _ ≤ _; exact Nat.le_of_eq rfl) (hb hby at_125) (fun _ _ => ⟨rfl, e122, (by decide : 5 + 2 ≤ _), (by decide : 10 + 6 ≤ _)⟩)
    dsimp only [Pt.U, Pt.locs, Pt.cells, Pt.slots] at X123 l123 y123 z123 st123 hQ123
    rw [l123, y123, z123] at X123
    replace X123 : Stand p l e _ _ m _ below meth c T123 _ 7 16 := X123
    obtain ⟨rfl, N123q, K123q, tx123⟩ := hQ123
    have N123 := Fr.app N110 N123q
    refine Go.tr st123 ?_
    have Zs123 : n0 ≤ T123.heap.size := Nat.le_trans Zs122 K123q.1
    have hk123 : 0 ≤ T123.heap.size := Nat.le_trans hk122 K123q.1
    have sf_b101_123 := Safe.keep K123q (allS sf_b122 all0) R122.1 sf_b101_122
    have sf_b102_123 := Safe.keep K123q (allS sf_b122 all0) R122.1 sf_b102_122
    have sf_b104_123 := Safe.keep K123q (allS sf_b122 all0) R122.1 sf_b104_122
    have sf_b107_123 := Safe.keep K123q (allS sf_b122 all0) R122.1 sf_b107_122
    have sf_b122_123 := Safe.keep K123q (allS sf_b122 all0) R122.1 sf_b122
    have R123 : CHr Z consts_1 s.vm h0 s.vm T123.heap := R122.trans (CHr.keep K123q (allS sf_b122 all0) R122.1)
    have O123 : Old Z n0 T123.heap := O122.keep K123q (allS g_b122 all0)
    have fV_b101_123 := fV_b101_122.keep K123q (ninS ne_b101_b122 nin0)
    have fV_b102_123 := fV_b102_122.keep K123q (ninS ne_b102_b122 nin0)
    have fV_b104_123 := fV_b104_122.keep K123q (ninS ne_b104_b122 nin0)
    have fV_b107_123 := fV_b107_122.keep K123q (ninS ne_b107_b122 nin0)
    have fE_b122_123 := A122.keep K123q
    refine Go.via (fun _ => XS.astore X123.here hx rfl (hb hby at_128) rfl rfl (l' := #[iv p1, iv p2, iv p3, iv p4, iv p5, iv (2 : Int32), iv z0, iv z1, iv z2, rv b101, rv b102, rv b104, rv b107, rv b104, rv b122, .unset, .unset]) rfl) ?_
    refine Go.via (fun _ => XS.iload X123.here hx rfl (hb hby at_130) rfl) ?_
    refine Go.via (fun _ => XS.iconst X123.here hx rfl (hb hby at_132)) ?_
    refine Go.via (fun _ => XS.icmpNo X123.here hx rfl (hb hby at_133) rfl (by decide)) ?_
    show Go p e below _ (T123.setTop (mkF m 136 #[iv p1, iv p2, iv p3, iv p4, iv p5, iv (2 : Int32), iv z0, iv z1, iv z2, rv b101, rv b102, rv b104, rv b107, rv b104, rv b122, .unset, .unset] []))
    refine Go.via (fun _ => XS.iload X123.here hx rfl (hb hby at_136) rfl) ?_
    refine Go.via (fun _ => XS.iloadN X123.here hx rfl (hb hby at_138) rfl) ?_
    by_cases hc124 : p2 < (2 : Int32)
    · -- yes
      refine Go.via (fun _ => XS.icmpYes X123.here hx rfl (pc0 := 139) (pc' := 182) rfl (hb hby at_139) rfl (tlt hc124).2.2.1 (by decide) (by decide)) ?_
      refine Go.via (fun _ => XS.iconst X123.here hx rfl (hb hby at_182)) ?_
      show Go p e below _ (T123.setTop (mkF m 183 #[iv p1, iv p2, iv p3, iv p4, iv p5, iv (2 : Int32), iv z0, iv z1, iv z2, rv b101, rv b102, rv b104, rv b107, rv b104, rv b122, .unset, .unset] [(.int (0 : Int32))]))
      refine Go.via (fun _ => XS.istore X123.here hx rfl (hb hby at_183) rfl (l' := #[iv p1, iv p2, iv p3, iv p4, iv p5, iv (2 : Int32), iv z0, iv z1, iv z2, rv b101, rv b102, rv b104, rv b107, rv b104, rv b122, iv (0 : Int32), .unset]) rfl) ?_
      refine Go.via (fun _ => XS.aload X123.here hx rfl (hb hby at_185) rfl rfl) ?_
      refine Go.via (fun _ => XS.iloadN X123.here hx rfl (hb hby at_187) rfl) ?_
      obtain ⟨_, _, ⟨T125, L125, k125, n125⟩, -, X125, ⟨Lc125, hQ125, l125, y125, z125⟩, st125⟩ := Jvm.LawKit.callS X123 hx (y := (⟨"com/example/timed_cap/timedcap/model/Names", "isName", "(Ljava/lang/String;I)Z"⟩ : MethodName)) hown (mvT hZ (ow hw 23 rfl)) (mvT hZ (ow hw 24 rfl)) (mvT hZ (ow hw 25 rfl)) (mvT hZ (ow hw 26 rfl)) (by decide) (backOf (W := 0) (rmN_2 l Z a0 hw [] b122 z0 z1 p2 ccs vF T123.heap n0 Zs123 fE_b122_123 tx123 ⟨r_z0.1, r_z0.2.1⟩ ⟨r_z1.1, r_z1.2.1⟩ O123 G) hZ (ow hw 26 rfl) (ow hw 25 rfl) (by decide) (by decide)) (g := (mkF m 188 #[iv p1, iv p2, iv p3, iv p4, iv p5, iv (2 : Int32), iv z0, iv z1, iv z2, rv b101, rv b102, rv b104, rv b107, rv b104, rv b122, iv (0 : Int32), .unset] [(.int p2), (.ref b122)])) rfl (by rw [hml]; rfl) (argsL := [(.ref b122), (.int p2)]) (rest := []) (lenOf pd_18 rfl) rfl (by show 2 * 0 + _ ≤ _; exact Nat.le_of_eq rfl) (hb hby at_188) (fun _ _ => ⟨rfl, rfl, (by decide : 7 + 0 ≤ _), (by decide : 16 + 0 ≤ _)⟩)
      dsimp only [Pt.U, Pt.locs, Pt.cells, Pt.slots] at X125 l125 y125 z125 st125 hQ125
      rw [l125, y125, z125] at X125
      replace X125 : Stand p l e _ _ m _ below meth c T125 _ 7 16 := X125
      obtain ⟨rfl, N125q, e125q⟩ := hQ125
      have N125 := Fr.app N123 N125q
      refine Go.via st125 ?_
      refine Go.via (fun _ => XS.istore X125.here hx rfl (hb hby at_191) rfl (l' := #[iv p1, iv p2, iv p3, iv p4, iv p5, iv (2 : Int32), iv z0, iv z1, iv z2, rv b101, rv b102, rv b104, rv b107, rv b104, rv b122, iv (0 : Int32), iv (nm2 p2 z0 z1)]) rfl) ?_
      refine Go.via (fun _ => XS.iload X125.here hx rfl (hb hby at_193) rfl) ?_
      show Go p e below _ (T125.setTop (mkF m 195 #[iv p1, iv p2, iv p3, iv p4, iv p5, iv (2 : Int32), iv z0, iv z1, iv z2, rv b101, rv b102, rv b104, rv b107, rv b104, rv b122, iv (0 : Int32), iv (nm2 p2 z0 z1)] [(.int (nm2 p2 z0 z1))]))
      refine Go.via (fun _ => XS.iload X125.here hx rfl (hb hby at_195) rfl) ?_
      have hfin : (nm2 p2 z0 z1) = (0 : Int32) := by simp [nm2, hc124]
      refine Go.via (fun _ => XS.icmpNo X125.here hx rfl (hb hby at_197) rfl (teq hfin).2) ?_
      refine Go.via (fun _ => XS.iconst X125.here hx rfl (hb hby at_200)) ?_
      refine Go.via (fun _ => XS.goto X125.here hx rfl (pc0 := 201) (pc' := 205) rfl (hb hby at_201) (by decide) (by decide)) ?_
      exact own_retNW X125 hS0 (by rw [e125q]; exact hk123) hx hlk (t := .boolean) Bd.returns (by simp) (hb hby at_205) (by show Q0 Z p1 p2 p3 p4 p5 ccs vF h0 n0 _ T125.heap _; rw [e125q]; exact ⟨rfl, N125⟩) (by decide) (by decide)
    · -- no
      refine Go.via (fun _ => XS.icmpNo X123.here hx rfl (hb hby at_139) rfl (flt hc124).2.2.1) ?_
      refine Go.via (fun _ => XS.iload X123.here hx rfl (hb hby at_142) rfl) ?_
      show Go p e below _ (T123.setTop (mkF m 144 #[iv p1, iv p2, iv p3, iv p4, iv p5, iv (2 : Int32), iv z0, iv z1, iv z2, rv b101, rv b102, rv b104, rv b107, rv b104, rv b122, .unset, .unset] [(.int z0)]))
      obtain ⟨_, _, ⟨T126, L126, k126, n126⟩, -, X126, ⟨Lc126, hQ126, l126, y126, z126⟩, st126⟩ := Jvm.LawKit.callS X123 hx (y := (⟨"com/example/timed_cap/timedcap/model/NamesIsNamePinLaw", "allowed", "(C)Z"⟩ : MethodName)) hown (mvT hZ (ow hw 43 rfl)) (mvT hZ (ow hw 44 rfl)) (mvT hZ (ow hw 45 rfl)) (mvT hZ (ow hw 46 rfl)) (by decide) (backOf (W := 0) (rm_allowed l Z a0 hw [] z0 T123.heap n0 Zs123) hZ (ow hw 46 rfl) (ow hw 45 rfl) (by decide) (by decide)) (g := (mkF m 144 #[iv p1, iv p2, iv p3, iv p4, iv p5, iv (2 : Int32), iv z0, iv z1, iv z2, rv b101, rv b102, rv b104, rv b107, rv b104, rv b122, .unset, .unset] [(.int z0)])) rfl (by rw [hml]; rfl) (argsL := [(.int z0)]) (rest := []) (lenOf pd_7 rfl) rfl (by show 2 * 0 + _ ≤ _; exact Nat.le_of_eq rfl) (hb hby at_144) (fun _ _ => ⟨rfl, rfl, (by decide : 7 + 0 ≤ _), (by decide : 16 + 0 ≤ _)⟩)
      dsimp only [Pt.U, Pt.locs, Pt.cells, Pt.slots] at X126 l126 y126 z126 st126 hQ126
      rw [l126, y126, z126] at X126
      replace X126 : Stand p l e _ _ m _ below meth c T126 _ 7 16 := X126
      obtain ⟨rfl, N126q, e126q⟩ := hQ126
      have N126 := Fr.app N123 N126q
      refine Go.via st126 ?_
      by_cases hc127 : (okF z0) = (0 : Int32)
      · -- yes
        refine Go.via (fun _ => XS.ifYes X126.here hx rfl (pc0 := 147) (pc' := 182) rfl (hb hby at_147) rfl ((if0 _ _).trans (teq hc127).1) (by decide) (by decide)) ?_
        refine Go.via (fun _ => XS.iconst X126.here hx rfl (hb hby at_182)) ?_
        refine Go.via (fun _ => XS.istore X126.here hx rfl (hb hby at_183) rfl (l' := #[iv p1, iv p2, iv p3, iv p4, iv p5, iv (2 : Int32), iv z0, iv z1, iv z2, rv b101, rv b102, rv b104, rv b107, rv b104, rv b122, iv (0 : Int32), .unset]) rfl) ?_
        show Go p e below _ (T126.setTop (mkF m 185 #[iv p1, iv p2, iv p3, iv p4, iv p5, iv (2 : Int32), iv z0, iv z1, iv z2, rv b101, rv b102, rv b104, rv b107, rv b104, rv b122, iv (0 : Int32), .unset] []))
        refine Go.via (fun _ => XS.aload X126.here hx rfl (hb hby at_185) rfl rfl) ?_
        refine Go.via (fun _ => XS.iloadN X126.here hx rfl (hb hby at_187) rfl) ?_
        obtain ⟨_, _, ⟨T128, L128, k128, n128⟩, -, X128, ⟨Lc128, hQ128, l128, y128, z128⟩, st128⟩ := Jvm.LawKit.callS X126 hx (y := (⟨"com/example/timed_cap/timedcap/model/Names", "isName", "(Ljava/lang/String;I)Z"⟩ : MethodName)) hown (mvT hZ (ow hw 23 rfl)) (mvT hZ (ow hw 24 rfl)) (mvT hZ (ow hw 25 rfl)) (mvT hZ (ow hw 26 rfl)) (by decide) (backOf (W := 0) (rmN_2 l Z a0 hw [] b122 z0 z1 p2 ccs vF T123.heap n0 Zs123 fE_b122_123 tx123 ⟨r_z0.1, r_z0.2.1⟩ ⟨r_z1.1, r_z1.2.1⟩ O123 G) hZ (ow hw 26 rfl) (ow hw 25 rfl) (by decide) (by decide)) (g := (mkF m 188 #[iv p1, iv p2, iv p3, iv p4, iv p5, iv (2 : Int32), iv z0, iv z1, iv z2, rv b101, rv b102, rv b104, rv b107, rv b104, rv b122, iv (0 : Int32), .unset] [(.int p2), (.ref b122)])) rfl (by rw [hml]; rfl) (argsL := [(.ref b122), (.int p2)]) (rest := []) (lenOf pd_18 rfl) rfl (by show 2 * 0 + _ ≤ _; exact Nat.le_of_eq rfl) (hb hby at_188) (fun _ _ => ⟨rfl, e126q, (by decide : 7 + 0 ≤ _), (by decide : 16 + 0 ≤ _)⟩)
        dsimp only [Pt.U, Pt.locs, Pt.cells, Pt.slots] at X128 l128 y128 z128 st128 hQ128
        rw [l128, y128, z128] at X128
        replace X128 : Stand p l e _ _ m _ below meth c T128 _ 7 16 := X128
        obtain ⟨rfl, N128q, e128q⟩ := hQ128
        have N128 := Fr.app N126 N128q
        refine Go.via st128 ?_
        refine Go.via (fun _ => XS.istore X128.here hx rfl (hb hby at_191) rfl (l' := #[iv p1, iv p2, iv p3, iv p4, iv p5, iv (2 : Int32), iv z0, iv z1, iv z2, rv b101, rv b102, rv b104, rv b107, rv b104, rv b122, iv (0 : Int32), iv (nm2 p2 z0 z1)]) rfl) ?_
        refine Go.via (fun _ => XS.iload X128.here hx rfl (hb hby at_193) rfl) ?_
        refine Go.via (fun _ => XS.iload X128.here hx rfl (hb hby at_195) rfl) ?_
        show Go p e below _ (T128.setTop (mkF m 197 #[iv p1, iv p2, iv p3, iv p4, iv p5, iv (2 : Int32), iv z0, iv z1, iv z2, rv b101, rv b102, rv b104, rv b107, rv b104, rv b122, iv (0 : Int32), iv (nm2 p2 z0 z1)] [(.int (0 : Int32)), (.int (nm2 p2 z0 z1))]))
        have hfin : (nm2 p2 z0 z1) = (0 : Int32) := by simp [nm2, hc124, hc127]
        refine Go.via (fun _ => XS.icmpNo X128.here hx rfl (hb hby at_197) rfl (teq hfin).2) ?_
        refine Go.via (fun _ => XS.iconst X128.here hx rfl (hb hby at_200)) ?_
        refine Go.via (fun _ => XS.goto X128.here hx rfl (pc0 := 201) (pc' := 205) rfl (hb hby at_201) (by decide) (by decide)) ?_
        exact own_retNW X128 hS0 (by rw [e128q]; exact hk123) hx hlk (t := .boolean) Bd.returns (by simp) (hb hby at_205) (by show Q0 Z p1 p2 p3 p4 p5 ccs vF h0 n0 _ T128.heap _; rw [e128q]; exact ⟨rfl, N128⟩) (by decide) (by decide)
      · -- no
        refine Go.via (fun _ => XS.ifNo X126.here hx rfl (hb hby at_147) rfl ((if0 _ _).trans (feq hc127).1)) ?_
        refine Go.via (fun _ => XS.iload X126.here hx rfl (hb hby at_150) rfl) ?_
        refine Go.via (fun _ => XS.iconst X126.here hx rfl (hb hby at_152)) ?_
        show Go p e below _ (T126.setTop (mkF m 153 #[iv p1, iv p2, iv p3, iv p4, iv p5, iv (2 : Int32), iv z0, iv z1, iv z2, rv b101, rv b102, rv b104, rv b107, rv b104, rv b122, .unset, .unset] [(.int (2 : Int32)), (.int (2 : Int32))]))
        refine Go.via (fun _ => XS.icmpNo X126.here hx rfl (hb hby at_153) rfl (by decide)) ?_
        refine Go.via (fun _ => XS.iload X126.here hx rfl (hb hby at_156) rfl) ?_
        obtain ⟨_, _, ⟨T129, L129, k129, n129⟩, -, X129, ⟨Lc129, hQ129, l129, y129, z129⟩, st129⟩ := Jvm.LawKit.callS X126 hx (y := (⟨"com/example/timed_cap/timedcap/model/NamesIsNamePinLaw", "allowed", "(C)Z"⟩ : MethodName)) hown (mvT hZ (ow hw 43 rfl)) (mvT hZ (ow hw 44 rfl)) (mvT hZ (ow hw 45 rfl)) (mvT hZ (ow hw 46 rfl)) (by decide) (backOf (W := 0) (rm_allowed l Z a0 hw [] z1 T123.heap n0 Zs123) hZ (ow hw 46 rfl) (ow hw 45 rfl) (by decide) (by decide)) (g := (mkF m 158 #[iv p1, iv p2, iv p3, iv p4, iv p5, iv (2 : Int32), iv z0, iv z1, iv z2, rv b101, rv b102, rv b104, rv b107, rv b104, rv b122, .unset, .unset] [(.int z1)])) rfl (by rw [hml]; rfl) (argsL := [(.int z1)]) (rest := []) (lenOf pd_7 rfl) rfl (by show 2 * 0 + _ ≤ _; exact Nat.le_of_eq rfl) (hb hby at_158) (fun _ _ => ⟨rfl, e126q, (by decide : 7 + 0 ≤ _), (by decide : 16 + 0 ≤ _)⟩)
        dsimp only [Pt.U, Pt.locs, Pt.cells, Pt.slots] at X129 l129 y129 z129 st129 hQ129
        rw [l129, y129, z129] at X129
        replace X129 : Stand p l e _ _ m _ below meth c T129 _ 7 16 := X129
        obtain ⟨rfl, N129q, e129q⟩ := hQ129
        have N129 := Fr.app N126 N129q
        refine Go.via st129 ?_
        by_cases hc130 : (okF z1) = (0 : Int32)
        · -- yes
          refine Go.via (fun _ => XS.ifYes X129.here hx rfl (pc0 := 161) (pc' := 182) rfl (hb hby at_161) rfl ((if0 _ _).trans (teq hc130).1) (by decide) (by decide)) ?_
          show Go p e below _ (T129.setTop (mkF m 182 #[iv p1, iv p2, iv p3, iv p4, iv p5, iv (2 : Int32), iv z0, iv z1, iv z2, rv b101, rv b102, rv b104, rv b107, rv b104, rv b122, .unset, .unset] []))
          refine Go.via (fun _ => XS.iconst X129.here hx rfl (hb hby at_182)) ?_
          refine Go.via (fun _ => XS.istore X129.here hx rfl (hb hby at_183) rfl (l' := #[iv p1, iv p2, iv p3, iv p4, iv p5, iv (2 : Int32), iv z0, iv z1, iv z2, rv b101, rv b102, rv b104, rv b107, rv b104, rv b122, iv (0 : Int32), .unset]) rfl) ?_
          refine Go.via (fun _ => XS.aload X129.here hx rfl (hb hby at_185) rfl rfl) ?_
          refine Go.via (fun _ => XS.iloadN X129.here hx rfl (hb hby at_187) rfl) ?_
          obtain ⟨_, _, ⟨T131, L131, k131, n131⟩, -, X131, ⟨Lc131, hQ131, l131, y131, z131⟩, st131⟩ := Jvm.LawKit.callS X129 hx (y := (⟨"com/example/timed_cap/timedcap/model/Names", "isName", "(Ljava/lang/String;I)Z"⟩ : MethodName)) hown (mvT hZ (ow hw 23 rfl)) (mvT hZ (ow hw 24 rfl)) (mvT hZ (ow hw 25 rfl)) (mvT hZ (ow hw 26 rfl)) (by decide) (backOf (W := 0) (rmN_2 l Z a0 hw [] b122 z0 z1 p2 ccs vF T123.heap n0 Zs123 fE_b122_123 tx123 ⟨r_z0.1, r_z0.2.1⟩ ⟨r_z1.1, r_z1.2.1⟩ O123 G) hZ (ow hw 26 rfl) (ow hw 25 rfl) (by decide) (by decide)) (g := (mkF m 188 #[iv p1, iv p2, iv p3, iv p4, iv p5, iv (2 : Int32), iv z0, iv z1, iv z2, rv b101, rv b102, rv b104, rv b107, rv b104, rv b122, iv (0 : Int32), .unset] [(.int p2), (.ref b122)])) rfl (by rw [hml]; rfl) (argsL := [(.ref b122), (.int p2)]) (rest := []) (lenOf pd_18 rfl) rfl (by show 2 * 0 + _ ≤ _; exact Nat.le_of_eq rfl) (hb hby at_188) (fun _ _ => ⟨rfl, e129q, (by decide : 7 + 0 ≤ _), (by decide : 16 + 0 ≤ _)⟩)
          dsimp only [Pt.U, Pt.locs, Pt.cells, Pt.slots] at X131 l131 y131 z131 st131 hQ131
          rw [l131, y131, z131] at X131
          replace X131 : Stand p l e _ _ m _ below meth c T131 _ 7 16 := X131
          obtain ⟨rfl, N131q, e131q⟩ := hQ131
          have N131 := Fr.app N129 N131q
          refine Go.via st131 ?_
          refine Go.via (fun _ => XS.istore X131.here hx rfl (hb hby at_191) rfl (l' := #[iv p1, iv p2, iv p3, iv p4, iv p5, iv (2 : Int32), iv z0, iv z1, iv z2, rv b101, rv b102, rv b104, rv b107, rv b104, rv b122, iv (0 : Int32), iv (nm2 p2 z0 z1)]) rfl) ?_
          show Go p e below _ (T131.setTop (mkF m 193 #[iv p1, iv p2, iv p3, iv p4, iv p5, iv (2 : Int32), iv z0, iv z1, iv z2, rv b101, rv b102, rv b104, rv b107, rv b104, rv b122, iv (0 : Int32), iv (nm2 p2 z0 z1)] []))
          refine Go.via (fun _ => XS.iload X131.here hx rfl (hb hby at_193) rfl) ?_
          refine Go.via (fun _ => XS.iload X131.here hx rfl (hb hby at_195) rfl) ?_
          have hfin : (nm2 p2 z0 z1) = (0 : Int32) := by simp [nm2, hc124, hc127, hc130]
          refine Go.via (fun _ => XS.icmpNo X131.here hx rfl (hb hby at_197) rfl (teq hfin).2) ?_
          refine Go.via (fun _ => XS.iconst X131.here hx rfl (hb hby at_200)) ?_
          refine Go.via (fun _ => XS.goto X131.here hx rfl (pc0 := 201) (pc' := 205) rfl (hb hby at_201) (by decide) (by decide)) ?_
          exact own_retNW X131 hS0 (by rw [e131q]; exact hk123) hx hlk (t := .boolean) Bd.returns (by simp) (hb hby at_205) (by show Q0 Z p1 p2 p3 p4 p5 ccs vF h0 n0 _ T131.heap _; rw [e131q]; exact ⟨rfl, N131⟩) (by decide) (by decide)
        · -- no
          refine Go.via (fun _ => XS.ifNo X129.here hx rfl (hb hby at_161) rfl ((if0 _ _).trans (feq hc130).1)) ?_
          show Go p e below _ (T129.setTop (mkF m 164 #[iv p1, iv p2, iv p3, iv p4, iv p5, iv (2 : Int32), iv z0, iv z1, iv z2, rv b101, rv b102, rv b104, rv b107, rv b104, rv b122, .unset, .unset] []))
          refine Go.via (fun _ => XS.iload X129.here hx rfl (hb hby at_164) rfl) ?_
          refine Go.via (fun _ => XS.iconst X129.here hx rfl (hb hby at_166)) ?_
          refine Go.via (fun _ => XS.icmpYes X129.here hx rfl (pc0 := 167) (pc' := 178) rfl (hb hby at_167) rfl (by decide) (by decide) (by decide)) ?_
          refine Go.via (fun _ => XS.iconst X129.here hx rfl (hb hby at_178)) ?_
          refine Go.via (fun _ => XS.goto X129.here hx rfl (pc0 := 179) (pc' := 183) rfl (hb hby at_179) (by decide) (by decide)) ?_
          refine Go.via (fun _ => XS.istore X129.here hx rfl (hb hby at_183) rfl (l' := #[iv p1, iv p2, iv p3, iv p4, iv p5, iv (2 : Int32), iv z0, iv z1, iv z2, rv b101, rv b102, rv b104, rv b107, rv b104, rv b122, iv (1 : Int32), .unset]) rfl) ?_
          show Go p e below _ (T129.setTop (mkF m 185 #[iv p1, iv p2, iv p3, iv p4, iv p5, iv (2 : Int32), iv z0, iv z1, iv z2, rv b101, rv b102, rv b104, rv b107, rv b104, rv b122, iv (1 : Int32), .unset] []))
          refine Go.via (fun _ => XS.aload X129.here hx rfl (hb hby at_185) rfl rfl) ?_
          refine Go.via (fun _ => XS.iloadN X129.here hx rfl (hb hby at_187) rfl) ?_
          obtain ⟨_, _, ⟨T132, L132, k132, n132⟩, -, X132, ⟨Lc132, hQ132, l132, y132, z132⟩, st132⟩ := Jvm.LawKit.callS X129 hx (y := (⟨"com/example/timed_cap/timedcap/model/Names", "isName", "(Ljava/lang/String;I)Z"⟩ : MethodName)) hown (mvT hZ (ow hw 23 rfl)) (mvT hZ (ow hw 24 rfl)) (mvT hZ (ow hw 25 rfl)) (mvT hZ (ow hw 26 rfl)) (by decide) (backOf (W := 0) (rmN_2 l Z a0 hw [] b122 z0 z1 p2 ccs vF T123.heap n0 Zs123 fE_b122_123 tx123 ⟨r_z0.1, r_z0.2.1⟩ ⟨r_z1.1, r_z1.2.1⟩ O123 G) hZ (ow hw 26 rfl) (ow hw 25 rfl) (by decide) (by decide)) (g := (mkF m 188 #[iv p1, iv p2, iv p3, iv p4, iv p5, iv (2 : Int32), iv z0, iv z1, iv z2, rv b101, rv b102, rv b104, rv b107, rv b104, rv b122, iv (1 : Int32), .unset] [(.int p2), (.ref b122)])) rfl (by rw [hml]; rfl) (argsL := [(.ref b122), (.int p2)]) (rest := []) (lenOf pd_18 rfl) rfl (by show 2 * 0 + _ ≤ _; exact Nat.le_of_eq rfl) (hb hby at_188) (fun _ _ => ⟨rfl, e129q, (by decide : 7 + 0 ≤ _), (by decide : 16 + 0 ≤ _)⟩)
          dsimp only [Pt.U, Pt.locs, Pt.cells, Pt.slots] at X132 l132 y132 z132 st132 hQ132
          rw [l132, y132, z132] at X132
          replace X132 : Stand p l e _ _ m _ below meth c T132 _ 7 16 := X132
          obtain ⟨rfl, N132q, e132q⟩ := hQ132
          have N132 := Fr.app N129 N132q
          refine Go.via st132 ?_
          refine Go.via (fun _ => XS.istore X132.here hx rfl (hb hby at_191) rfl (l' := #[iv p1, iv p2, iv p3, iv p4, iv p5, iv (2 : Int32), iv z0, iv z1, iv z2, rv b101, rv b102, rv b104, rv b107, rv b104, rv b122, iv (1 : Int32), iv (nm2 p2 z0 z1)]) rfl) ?_
          refine Go.via (fun _ => XS.iload X132.here hx rfl (hb hby at_193) rfl) ?_
          refine Go.via (fun _ => XS.iload X132.here hx rfl (hb hby at_195) rfl) ?_
          show Go p e below _ (T132.setTop (mkF m 197 #[iv p1, iv p2, iv p3, iv p4, iv p5, iv (2 : Int32), iv z0, iv z1, iv z2, rv b101, rv b102, rv b104, rv b107, rv b104, rv b122, iv (1 : Int32), iv (nm2 p2 z0 z1)] [(.int (1 : Int32)), (.int (nm2 p2 z0 z1))]))
          have hfin : (nm2 p2 z0 z1) = (1 : Int32) := by simp [nm2, hc124, hc127, hc130]
          refine Go.via (fun _ => XS.icmpNo X132.here hx rfl (hb hby at_197) rfl (teq hfin).2) ?_
          refine Go.via (fun _ => XS.iconst X132.here hx rfl (hb hby at_200)) ?_
          refine Go.via (fun _ => XS.goto X132.here hx rfl (pc0 := 201) (pc' := 205) rfl (hb hby at_201) (by decide) (by decide)) ?_
          exact own_retNW X132 hS0 (by rw [e132q]; exact hk123) hx hlk (t := .boolean) Bd.returns (by simp) (hb hby at_205) (by show Q0 Z p1 p2 p3 p4 p5 ccs vF h0 n0 _ T132.heap _; rw [e132q]; exact ⟨rfl, N132⟩) (by decide) (by decide)
  ·
    refine Go.via (fun _ => XS.iload X110.here hx rfl (hb hby at_77) rfl) ?_
    show Go p e below _ (T110.setTop (mkF m 79 #[iv p1, iv p2, iv p3, iv p4, iv p5, iv (3 : Int32), iv z0, iv z1, iv z2, rv b101, rv b102, rv b104, rv b107, .unset, .unset, .unset, .unset] [(.int (3 : Int32))]))
    refine Go.via (fun _ => XS.ifYes X110.here hx rfl (pc0 := 79) (pc' := 89) rfl (hb hby at_79) rfl (by decide) (by decide) (by decide)) ?_
    refine Go.via (fun _ => XS.iload X110.here hx rfl (hb hby at_89) rfl) ?_
    refine Go.via (fun _ => XS.iconst X110.here hx rfl (hb hby at_91)) ?_
    refine Go.via (fun _ => XS.icmpYes X110.here hx rfl (pc0 := 92) (pc' := 102) rfl (hb hby at_92) rfl (by decide) (by decide) (by decide)) ?_
    refine Go.via (fun _ => XS.iload X110.here hx rfl (hb hby at_102) rfl) ?_
    refine Go.via (fun _ => XS.iconst X110.here hx rfl (hb hby at_104)) ?_
    show Go p e below _ (T110.setTop (mkF m 105 #[iv p1, iv p2, iv p3, iv p4, iv p5, iv (3 : Int32), iv z0, iv z1, iv z2, rv b101, rv b102, rv b104, rv b107, .unset, .unset, .unset, .unset] [(.int (2 : Int32)), (.int (3 : Int32))]))
    refine Go.via (fun _ => XS.icmpYes X110.here hx rfl (pc0 := 105) (pc' := 115) rfl (hb hby at_105) rfl (by decide) (by decide) (by decide)) ?_
    refine Go.via (fun _ => XS.aload X110.here hx rfl (hb hby at_115) rfl rfl) ?_
    refine Go.via (fun _ => XS.astore X110.here hx rfl (hb hby at_117) rfl rfl (l' := #[iv p1, iv p2, iv p3, iv p4, iv p5, iv (3 : Int32), iv z0, iv z1, iv z2, rv b101, rv b102, rv b104, rv b107, rv b107, .unset, .unset, .unset]) rfl) ?_
    obtain ⟨T133, h133, X133, e133, E133, A133, D133, -, st133⟩ := newO X110 hx hZ hown (ow hw 2 rfl) (ow hw 3 rfl) (ow hw 4 rfl) e110 (g := (mkF m 119 #[iv p1, iv p2, iv p3, iv p4, iv p5, iv (3 : Int32), iv z0, iv z1, iv z2, rv b101, rv b102, rv b104, rv b107, rv b107, .unset, .unset, .unset] [])) rfl (hb hby at_119) (by decide) (by decide)
    obtain ⟨b133, g133⟩ : ∃ z, z = h110.size := ⟨_, rfl⟩
    rw [← g133] at A133 D133 st133
    have g_b133 : n0 ≤ b133 := Nat.le_trans Zs110 (Nat.le_of_eq g133.symm)
    have ne_b101_b133 : b101 ≠ b133 := Nat.ne_of_lt (Nat.lt_of_lt_of_le fV_b101_110.lt (Nat.le_of_eq g133.symm))
    have ne_b102_b133 : b102 ≠ b133 := Nat.ne_of_lt (Nat.lt_of_lt_of_le fV_b102_110.lt (Nat.le_of_eq g133.symm))
    have ne_b104_b133 : b104 ≠ b133 := Nat.ne_of_lt (Nat.lt_of_lt_of_le fV_b104_110.lt (Nat.le_of_eq g133.symm))
    have ne_b107_b133 : b107 ≠ b133 := Nat.ne_of_lt (Nat.lt_of_lt_of_le V110.lt (Nat.le_of_eq g133.symm))
    refine Go.via st133 ?_
    have Zs133 : n0 ≤ h133.size := Nat.le_trans Zs110 E133.1
    have hk133 : 0 ≤ h133.size := Nat.le_trans hk110 E133.1
    have sf_b101_133 := Safe.ext E133 R110.1 sf_b101_110
    have sf_b102_133 := Safe.ext E133 R110.1 sf_b102_110
    have sf_b104_133 := Safe.ext E133 R110.1 sf_b104_110
    have sf_b107_133 := Safe.ext E133 R110.1 sf_b107_110
    have R133 : CHr Z consts_1 s.vm h0 s.vm h133 := R110.trans (CHr.ext E133 R110.1)
    have O133 : Old Z n0 h133 := O110.ext E133
    have fV_b101_133 := fV_b101_110.ext E133
    have fV_b102_133 := fV_b102_110.ext E133
    have fV_b104_133 := fV_b104_110.ext E133
    have fV_b107_133 := V110.ext E133
    have sf_b133 : Safe Z consts_1 s.vm h133 b133 := Safe.ext E133 R110.1 (Safe.new (Nat.le_of_eq g133.symm))
    have F_value_b133 : Fld Z h133 b133 "java/lang/String" "value" "[B" .null := D133 (Or.inr (ow hw 17 rfl)) (ty := (.array .byte)) (by decide)
    have F_coder_b133 : Fld Z h133 b133 "java/lang/String" "coder" "B" (.int (0 : Int32)) := D133 (Or.inr (ow hw 18 rfl)) (ty := .byte) (by decide)
    refine Go.via (fun _ => XS.dup X133.here hx rfl (hb hby at_122) rfl rfl) ?_
    refine Go.via (fun _ => XS.aload X133.here hx rfl (hb hby at_123) rfl rfl) ?_
    show Go p e below _ (T133.setTop (mkF m 125 #[iv p1, iv p2, iv p3, iv p4, iv p5, iv (3 : Int32), iv z0, iv z1, iv z2, rv b101, rv b102, rv b104, rv b107, rv b107, .unset, .unset, .unset] [(.ref b107), (.ref b133), (.ref b133)]))
    rw [r_z0.2.2, r_z1.2.2, r_z2.2.2] at fV_b107_133
    obtain ⟨_, _, ⟨T134, L134, k134, n134⟩, -, X134, ⟨Lc134, hQ134, l134, y134, z134⟩, st134⟩ := X133.specialBack hx (y := (⟨"java/lang/String", "<init>", "([C)V"⟩ : MethodName)) rfl hown (mvT hZ (ow hw 5 rfl)) (mvT hZ (ow hw 6 rfl)) (mvT hZ (ow hw 7 rfl)) (by decide) (backOf (W := 1) (rmJ1_3 l Z a0 hw [] b133 b107 k107 z0 z1 z2 ccs vF h133 n0 Zs133 A133 F_value_b133 F_coder_b133 g_b133 (Ne.symm ne_b107_b133) fV_b107_133 ⟨r_z0.1, r_z0.2.1⟩ ⟨r_z1.1, r_z1.2.1⟩ ⟨r_z2.1, r_z2.2.1⟩ O133 G) hZ (ow hw 7 rfl) (ow hw 4 rfl) (by decide) (by decide)) (g := (mkF m 125 #[iv p1, iv p2, iv p3, iv p4, iv p5, iv (3 : Int32), iv z0, iv z1, iv z2, rv b101, rv b102, rv b104, rv b107, rv b107, .unset, .unset, .unset] [(.ref b107), (.ref b133), (.ref b133)])) rfl (by rw [hml]; rfl) (Steps.refl _) (a := b133) (argsL := [(.ref b107)]) (rest := [(.ref b133)]) (lenOf pd_17 rfl) rfl (by show 2 * 0 + _ ≤ _; exact Nat.le_of_eq rfl) (hb hby at_125) (fun _ _ => ⟨rfl, e133, (by decide : 5 + 2 ≤ _), (by decide : 10 + 9 ≤ _)⟩)
    dsimp only [Pt.U, Pt.locs, Pt.cells, Pt.slots] at X134 l134 y134 z134 st134 hQ134
    rw [l134, y134, z134] at X134
    replace X134 : Stand p l e _ _ m _ below meth c T134 _ 7 19 := X134
    obtain ⟨rfl, N134q, K134q, tx134⟩ := hQ134
    have N134 := Fr.app N110 N134q
    refine Go.tr st134 ?_
    have Zs134 : n0 ≤ T134.heap.size := Nat.le_trans Zs133 K134q.1
    have hk134 : 0 ≤ T134.heap.size := Nat.le_trans hk133 K134q.1
    have sf_b101_134 := Safe.keep K134q (allS sf_b133 all0) R133.1 sf_b101_133
    have sf_b102_134 := Safe.keep K134q (allS sf_b133 all0) R133.1 sf_b102_133
    have sf_b104_134 := Safe.keep K134q (allS sf_b133 all0) R133.1 sf_b104_133
    have sf_b107_134 := Safe.keep K134q (allS sf_b133 all0) R133.1 sf_b107_133
    have sf_b133_134 := Safe.keep K134q (allS sf_b133 all0) R133.1 sf_b133
    have R134 : CHr Z consts_1 s.vm h0 s.vm T134.heap := R133.trans (CHr.keep K134q (allS sf_b133 all0) R133.1)
    have O134 : Old Z n0 T134.heap := O133.keep K134q (allS g_b133 all0)
    have fV_b101_134 := fV_b101_133.keep K134q (ninS ne_b101_b133 nin0)
    have fV_b102_134 := fV_b102_133.keep K134q (ninS ne_b102_b133 nin0)
    have fV_b104_134 := fV_b104_133.keep K134q (ninS ne_b104_b133 nin0)
    have fV_b107_134 := fV_b107_133.keep K134q (ninS ne_b107_b133 nin0)
    have fE_b133_134 := A133.keep K134q
    refine Go.via (fun _ => XS.astore X134.here hx rfl (hb hby at_128) rfl rfl (l' := #[iv p1, iv p2, iv p3, iv p4, iv p5, iv (3 : Int32), iv z0, iv z1, iv z2, rv b101, rv b102, rv b104, rv b107, rv b107, rv b133, .unset, .unset]) rfl) ?_
    refine Go.via (fun _ => XS.iload X134.here hx rfl (hb hby at_130) rfl) ?_
    refine Go.via (fun _ => XS.iconst X134.here hx rfl (hb hby at_132)) ?_
    refine Go.via (fun _ => XS.icmpNo X134.here hx rfl (hb hby at_133) rfl (by decide)) ?_
    refine Go.via (fun _ => XS.iload X134.here hx rfl (hb hby at_136) rfl) ?_
    show Go p e below _ (T134.setTop (mkF m 138 #[iv p1, iv p2, iv p3, iv p4, iv p5, iv (3 : Int32), iv z0, iv z1, iv z2, rv b101, rv b102, rv b104, rv b107, rv b107, rv b133, .unset, .unset] [(.int (3 : Int32))]))
    refine Go.via (fun _ => XS.iloadN X134.here hx rfl (hb hby at_138) rfl) ?_
    by_cases hc135 : p2 < (3 : Int32)
    · -- yes
      refine Go.via (fun _ => XS.icmpYes X134.here hx rfl (pc0 := 139) (pc' := 182) rfl (hb hby at_139) rfl (tlt hc135).2.2.1 (by decide) (by decide)) ?_
      refine Go.via (fun _ => XS.iconst X134.here hx rfl (hb hby at_182)) ?_
      refine Go.via (fun _ => XS.istore X134.here hx rfl (hb hby at_183) rfl (l' := #[iv p1, iv p2, iv p3, iv p4, iv p5, iv (3 : Int32), iv z0, iv z1, iv z2, rv b101, rv b102, rv b104, rv b107, rv b107, rv b133, iv (0 : Int32), .unset]) rfl) ?_
      show Go p e below _ (T134.setTop (mkF m 185 #[iv p1, iv p2, iv p3, iv p4, iv p5, iv (3 : Int32), iv z0, iv z1, iv z2, rv b101, rv b102, rv b104, rv b107, rv b107, rv b133, iv (0 : Int32), .unset] []))
      refine Go.via (fun _ => XS.aload X134.here hx rfl (hb hby at_185) rfl rfl) ?_
      refine Go.via (fun _ => XS.iloadN X134.here hx rfl (hb hby at_187) rfl) ?_
      obtain ⟨_, _, ⟨T136, L136, k136, n136⟩, -, X136, ⟨Lc136, hQ136, l136, y136, z136⟩, st136⟩ := Jvm.LawKit.callS X134 hx (y := (⟨"com/example/timed_cap/timedcap/model/Names", "isName", "(Ljava/lang/String;I)Z"⟩ : MethodName)) hown (mvT hZ (ow hw 23 rfl)) (mvT hZ (ow hw 24 rfl)) (mvT hZ (ow hw 25 rfl)) (mvT hZ (ow hw 26 rfl)) (by decide) (backOf (W := 0) (rmN_3 l Z a0 hw [] b133 z0 z1 z2 p2 ccs vF T134.heap n0 Zs134 fE_b133_134 tx134 ⟨r_z0.1, r_z0.2.1⟩ ⟨r_z1.1, r_z1.2.1⟩ ⟨r_z2.1, r_z2.2.1⟩ O134 G) hZ (ow hw 26 rfl) (ow hw 25 rfl) (by decide) (by decide)) (g := (mkF m 188 #[iv p1, iv p2, iv p3, iv p4, iv p5, iv (3 : Int32), iv z0, iv z1, iv z2, rv b101, rv b102, rv b104, rv b107, rv b107, rv b133, iv (0 : Int32), .unset] [(.int p2), (.ref b133)])) rfl (by rw [hml]; rfl) (argsL := [(.ref b133), (.int p2)]) (rest := []) (lenOf pd_18 rfl) rfl (by show 2 * 0 + _ ≤ _; exact Nat.le_of_eq rfl) (hb hby at_188) (fun _ _ => ⟨rfl, rfl, (by decide : 7 + 0 ≤ _), (by decide : 19 + 0 ≤ _)⟩)
      dsimp only [Pt.U, Pt.locs, Pt.cells, Pt.slots] at X136 l136 y136 z136 st136 hQ136
      rw [l136, y136, z136] at X136
      replace X136 : Stand p l e _ _ m _ below meth c T136 _ 7 19 := X136
      obtain ⟨rfl, N136q, e136q⟩ := hQ136
      have N136 := Fr.app N134 N136q
      refine Go.via st136 ?_
      refine Go.via (fun _ => XS.istore X136.here hx rfl (hb hby at_191) rfl (l' := #[iv p1, iv p2, iv p3, iv p4, iv p5, iv (3 : Int32), iv z0, iv z1, iv z2, rv b101, rv b102, rv b104, rv b107, rv b107, rv b133, iv (0 : Int32), iv (nm3 p2 z0 z1 z2)]) rfl) ?_
      refine Go.via (fun _ => XS.iload X136.here hx rfl (hb hby at_193) rfl) ?_
      refine Go.via (fun _ => XS.iload X136.here hx rfl (hb hby at_195) rfl) ?_
      show Go p e below _ (T136.setTop (mkF m 197 #[iv p1, iv p2, iv p3, iv p4, iv p5, iv (3 : Int32), iv z0, iv z1, iv z2, rv b101, rv b102, rv b104, rv b107, rv b107, rv b133, iv (0 : Int32), iv (nm3 p2 z0 z1 z2)] [(.int (0 : Int32)), (.int (nm3 p2 z0 z1 z2))]))
      have hfin : (nm3 p2 z0 z1 z2) = (0 : Int32) := by simp [nm3, hc135]
      refine Go.via (fun _ => XS.icmpNo X136.here hx rfl (hb hby at_197) rfl (teq hfin).2) ?_
      refine Go.via (fun _ => XS.iconst X136.here hx rfl (hb hby at_200)) ?_
      refine Go.via (fun _ => XS.goto X136.here hx rfl (pc0 := 201) (pc' := 205) rfl (hb hby at_201) (by decide) (by decide)) ?_
      exact own_retNW X136 hS0 (by rw [e136q]; exact hk134) hx hlk (t := .boolean) Bd.returns (by simp) (hb hby at_205) (by show Q0 Z p1 p2 p3 p4 p5 ccs vF h0 n0 _ T136.heap _; rw [e136q]; exact ⟨rfl, N136⟩) (by decide) (by decide)
    · -- no
      refine Go.via (fun _ => XS.icmpNo X134.here hx rfl (hb hby at_139) rfl (flt hc135).2.2.1) ?_
      refine Go.via (fun _ => XS.iload X134.here hx rfl (hb hby at_142) rfl) ?_
      obtain ⟨_, _, ⟨T137, L137, k137, n137⟩, -, X137, ⟨Lc137, hQ137, l137, y137, z137⟩, st137⟩ := Jvm.LawKit.callS X134 hx (y := (⟨"com/example/timed_cap/timedcap/model/NamesIsNamePinLaw", "allowed", "(C)Z"⟩ : MethodName)) hown (mvT hZ (ow hw 43 rfl)) (mvT hZ (ow hw 44 rfl)) (mvT hZ (ow hw 45 rfl)) (mvT hZ (ow hw 46 rfl)) (by decide) (backOf (W := 0) (rm_allowed l Z a0 hw [] z0 T134.heap n0 Zs134) hZ (ow hw 46 rfl) (ow hw 45 rfl) (by decide) (by decide)) (g := (mkF m 144 #[iv p1, iv p2, iv p3, iv p4, iv p5, iv (3 : Int32), iv z0, iv z1, iv z2, rv b101, rv b102, rv b104, rv b107, rv b107, rv b133, .unset, .unset] [(.int z0)])) rfl (by rw [hml]; rfl) (argsL := [(.int z0)]) (rest := []) (lenOf pd_7 rfl) rfl (by show 2 * 0 + _ ≤ _; exact Nat.le_of_eq rfl) (hb hby at_144) (fun _ _ => ⟨rfl, rfl, (by decide : 7 + 0 ≤ _), (by decide : 19 + 0 ≤ _)⟩)
      dsimp only [Pt.U, Pt.locs, Pt.cells, Pt.slots] at X137 l137 y137 z137 st137 hQ137
      rw [l137, y137, z137] at X137
      replace X137 : Stand p l e _ _ m _ below meth c T137 _ 7 19 := X137
      obtain ⟨rfl, N137q, e137q⟩ := hQ137
      have N137 := Fr.app N134 N137q
      refine Go.via st137 ?_
      show Go p e below _ (T137.setTop (mkF m 147 #[iv p1, iv p2, iv p3, iv p4, iv p5, iv (3 : Int32), iv z0, iv z1, iv z2, rv b101, rv b102, rv b104, rv b107, rv b107, rv b133, .unset, .unset] [(.int (okF z0))]))
      by_cases hc138 : (okF z0) = (0 : Int32)
      · -- yes
        refine Go.via (fun _ => XS.ifYes X137.here hx rfl (pc0 := 147) (pc' := 182) rfl (hb hby at_147) rfl ((if0 _ _).trans (teq hc138).1) (by decide) (by decide)) ?_
        refine Go.via (fun _ => XS.iconst X137.here hx rfl (hb hby at_182)) ?_
        refine Go.via (fun _ => XS.istore X137.here hx rfl (hb hby at_183) rfl (l' := #[iv p1, iv p2, iv p3, iv p4, iv p5, iv (3 : Int32), iv z0, iv z1, iv z2, rv b101, rv b102, rv b104, rv b107, rv b107, rv b133, iv (0 : Int32), .unset]) rfl) ?_
        refine Go.via (fun _ => XS.aload X137.here hx rfl (hb hby at_185) rfl rfl) ?_
        show Go p e below _ (T137.setTop (mkF m 187 #[iv p1, iv p2, iv p3, iv p4, iv p5, iv (3 : Int32), iv z0, iv z1, iv z2, rv b101, rv b102, rv b104, rv b107, rv b107, rv b133, iv (0 : Int32), .unset] [(.ref b133)]))
        refine Go.via (fun _ => XS.iloadN X137.here hx rfl (hb hby at_187) rfl) ?_
        obtain ⟨_, _, ⟨T139, L139, k139, n139⟩, -, X139, ⟨Lc139, hQ139, l139, y139, z139⟩, st139⟩ := Jvm.LawKit.callS X137 hx (y := (⟨"com/example/timed_cap/timedcap/model/Names", "isName", "(Ljava/lang/String;I)Z"⟩ : MethodName)) hown (mvT hZ (ow hw 23 rfl)) (mvT hZ (ow hw 24 rfl)) (mvT hZ (ow hw 25 rfl)) (mvT hZ (ow hw 26 rfl)) (by decide) (backOf (W := 0) (rmN_3 l Z a0 hw [] b133 z0 z1 z2 p2 ccs vF T134.heap n0 Zs134 fE_b133_134 tx134 ⟨r_z0.1, r_z0.2.1⟩ ⟨r_z1.1, r_z1.2.1⟩ ⟨r_z2.1, r_z2.2.1⟩ O134 G) hZ (ow hw 26 rfl) (ow hw 25 rfl) (by decide) (by decide)) (g := (mkF m 188 #[iv p1, iv p2, iv p3, iv p4, iv p5, iv (3 : Int32), iv z0, iv z1, iv z2, rv b101, rv b102, rv b104, rv b107, rv b107, rv b133, iv (0 : Int32), .unset] [(.int p2), (.ref b133)])) rfl (by rw [hml]; rfl) (argsL := [(.ref b133), (.int p2)]) (rest := []) (lenOf pd_18 rfl) rfl (by show 2 * 0 + _ ≤ _; exact Nat.le_of_eq rfl) (hb hby at_188) (fun _ _ => ⟨rfl, e137q, (by decide : 7 + 0 ≤ _), (by decide : 19 + 0 ≤ _)⟩)
        dsimp only [Pt.U, Pt.locs, Pt.cells, Pt.slots] at X139 l139 y139 z139 st139 hQ139
        rw [l139, y139, z139] at X139
        replace X139 : Stand p l e _ _ m _ below meth c T139 _ 7 19 := X139
        obtain ⟨rfl, N139q, e139q⟩ := hQ139
        have N139 := Fr.app N137 N139q
        refine Go.via st139 ?_
        refine Go.via (fun _ => XS.istore X139.here hx rfl (hb hby at_191) rfl (l' := #[iv p1, iv p2, iv p3, iv p4, iv p5, iv (3 : Int32), iv z0, iv z1, iv z2, rv b101, rv b102, rv b104, rv b107, rv b107, rv b133, iv (0 : Int32), iv (nm3 p2 z0 z1 z2)]) rfl) ?_
        refine Go.via (fun _ => XS.iload X139.here hx rfl (hb hby at_193) rfl) ?_
        refine Go.via (fun _ => XS.iload X139.here hx rfl (hb hby at_195) rfl) ?_
        have hfin : (nm3 p2 z0 z1 z2) = (0 : Int32) := by simp [nm3, hc135, hc138]
        refine Go.via (fun _ => XS.icmpNo X139.here hx rfl (hb hby at_197) rfl (teq hfin).2) ?_
        show Go p e below _ (T139.setTop (mkF m 200 #[iv p1, iv p2, iv p3, iv p4, iv p5, iv (3 : Int32), iv z0, iv z1, iv z2, rv b101, rv b102, rv b104, rv b107, rv b107, rv b133, iv (0 : Int32), iv (nm3 p2 z0 z1 z2)] []))
        refine Go.via (fun _ => XS.iconst X139.here hx rfl (hb hby at_200)) ?_
        refine Go.via (fun _ => XS.goto X139.here hx rfl (pc0 := 201) (pc' := 205) rfl (hb hby at_201) (by decide) (by decide)) ?_
        exact own_retNW X139 hS0 (by rw [e139q]; exact hk134) hx hlk (t := .boolean) Bd.returns (by simp) (hb hby at_205) (by show Q0 Z p1 p2 p3 p4 p5 ccs vF h0 n0 _ T139.heap _; rw [e139q]; exact ⟨rfl, N139⟩) (by decide) (by decide)
      · -- no
        refine Go.via (fun _ => XS.ifNo X137.here hx rfl (hb hby at_147) rfl ((if0 _ _).trans (feq hc138).1)) ?_
        refine Go.via (fun _ => XS.iload X137.here hx rfl (hb hby at_150) rfl) ?_
        refine Go.via (fun _ => XS.iconst X137.here hx rfl (hb hby at_152)) ?_
        refine Go.via (fun _ => XS.icmpNo X137.here hx rfl (hb hby at_153) rfl (by decide)) ?_
        show Go p e below _ (T137.setTop (mkF m 156 #[iv p1, iv p2, iv p3, iv p4, iv p5, iv (3 : Int32), iv z0, iv z1, iv z2, rv b101, rv b102, rv b104, rv b107, rv b107, rv b133, .unset, .unset] []))
        refine Go.via (fun _ => XS.iload X137.here hx rfl (hb hby at_156) rfl) ?_
        obtain ⟨_, _, ⟨T140, L140, k140, n140⟩, -, X140, ⟨Lc140, hQ140, l140, y140, z140⟩, st140⟩ := Jvm.LawKit.callS X137 hx (y := (⟨"com/example/timed_cap/timedcap/model/NamesIsNamePinLaw", "allowed", "(C)Z"⟩ : MethodName)) hown (mvT hZ (ow hw 43 rfl)) (mvT hZ (ow hw 44 rfl)) (mvT hZ (ow hw 45 rfl)) (mvT hZ (ow hw 46 rfl)) (by decide) (backOf (W := 0) (rm_allowed l Z a0 hw [] z1 T134.heap n0 Zs134) hZ (ow hw 46 rfl) (ow hw 45 rfl) (by decide) (by decide)) (g := (mkF m 158 #[iv p1, iv p2, iv p3, iv p4, iv p5, iv (3 : Int32), iv z0, iv z1, iv z2, rv b101, rv b102, rv b104, rv b107, rv b107, rv b133, .unset, .unset] [(.int z1)])) rfl (by rw [hml]; rfl) (argsL := [(.int z1)]) (rest := []) (lenOf pd_7 rfl) rfl (by show 2 * 0 + _ ≤ _; exact Nat.le_of_eq rfl) (hb hby at_158) (fun _ _ => ⟨rfl, e137q, (by decide : 7 + 0 ≤ _), (by decide : 19 + 0 ≤ _)⟩)
        dsimp only [Pt.U, Pt.locs, Pt.cells, Pt.slots] at X140 l140 y140 z140 st140 hQ140
        rw [l140, y140, z140] at X140
        replace X140 : Stand p l e _ _ m _ below meth c T140 _ 7 19 := X140
        obtain ⟨rfl, N140q, e140q⟩ := hQ140
        have N140 := Fr.app N137 N140q
        refine Go.via st140 ?_
        by_cases hc141 : (okF z1) = (0 : Int32)
        · -- yes
          refine Go.via (fun _ => XS.ifYes X140.here hx rfl (pc0 := 161) (pc' := 182) rfl (hb hby at_161) rfl ((if0 _ _).trans (teq hc141).1) (by decide) (by decide)) ?_
          refine Go.via (fun _ => XS.iconst X140.here hx rfl (hb hby at_182)) ?_
          show Go p e below _ (T140.setTop (mkF m 183 #[iv p1, iv p2, iv p3, iv p4, iv p5, iv (3 : Int32), iv z0, iv z1, iv z2, rv b101, rv b102, rv b104, rv b107, rv b107, rv b133, .unset, .unset] [(.int (0 : Int32))]))
          refine Go.via (fun _ => XS.istore X140.here hx rfl (hb hby at_183) rfl (l' := #[iv p1, iv p2, iv p3, iv p4, iv p5, iv (3 : Int32), iv z0, iv z1, iv z2, rv b101, rv b102, rv b104, rv b107, rv b107, rv b133, iv (0 : Int32), .unset]) rfl) ?_
          refine Go.via (fun _ => XS.aload X140.here hx rfl (hb hby at_185) rfl rfl) ?_
          refine Go.via (fun _ => XS.iloadN X140.here hx rfl (hb hby at_187) rfl) ?_
          obtain ⟨_, _, ⟨T142, L142, k142, n142⟩, -, X142, ⟨Lc142, hQ142, l142, y142, z142⟩, st142⟩ := Jvm.LawKit.callS X140 hx (y := (⟨"com/example/timed_cap/timedcap/model/Names", "isName", "(Ljava/lang/String;I)Z"⟩ : MethodName)) hown (mvT hZ (ow hw 23 rfl)) (mvT hZ (ow hw 24 rfl)) (mvT hZ (ow hw 25 rfl)) (mvT hZ (ow hw 26 rfl)) (by decide) (backOf (W := 0) (rmN_3 l Z a0 hw [] b133 z0 z1 z2 p2 ccs vF T134.heap n0 Zs134 fE_b133_134 tx134 ⟨r_z0.1, r_z0.2.1⟩ ⟨r_z1.1, r_z1.2.1⟩ ⟨r_z2.1, r_z2.2.1⟩ O134 G) hZ (ow hw 26 rfl) (ow hw 25 rfl) (by decide) (by decide)) (g := (mkF m 188 #[iv p1, iv p2, iv p3, iv p4, iv p5, iv (3 : Int32), iv z0, iv z1, iv z2, rv b101, rv b102, rv b104, rv b107, rv b107, rv b133, iv (0 : Int32), .unset] [(.int p2), (.ref b133)])) rfl (by rw [hml]; rfl) (argsL := [(.ref b133), (.int p2)]) (rest := []) (lenOf pd_18 rfl) rfl (by show 2 * 0 + _ ≤ _; exact Nat.le_of_eq rfl) (hb hby at_188) (fun _ _ => ⟨rfl, e140q, (by decide : 7 + 0 ≤ _), (by decide : 19 + 0 ≤ _)⟩)
          dsimp only [Pt.U, Pt.locs, Pt.cells, Pt.slots] at X142 l142 y142 z142 st142 hQ142
          rw [l142, y142, z142] at X142
          replace X142 : Stand p l e _ _ m _ below meth c T142 _ 7 19 := X142
          obtain ⟨rfl, N142q, e142q⟩ := hQ142
          have N142 := Fr.app N140 N142q
          refine Go.via st142 ?_
          refine Go.via (fun _ => XS.istore X142.here hx rfl (hb hby at_191) rfl (l' := #[iv p1, iv p2, iv p3, iv p4, iv p5, iv (3 : Int32), iv z0, iv z1, iv z2, rv b101, rv b102, rv b104, rv b107, rv b107, rv b133, iv (0 : Int32), iv (nm3 p2 z0 z1 z2)]) rfl) ?_
          refine Go.via (fun _ => XS.iload X142.here hx rfl (hb hby at_193) rfl) ?_
          show Go p e below _ (T142.setTop (mkF m 195 #[iv p1, iv p2, iv p3, iv p4, iv p5, iv (3 : Int32), iv z0, iv z1, iv z2, rv b101, rv b102, rv b104, rv b107, rv b107, rv b133, iv (0 : Int32), iv (nm3 p2 z0 z1 z2)] [(.int (nm3 p2 z0 z1 z2))]))
          refine Go.via (fun _ => XS.iload X142.here hx rfl (hb hby at_195) rfl) ?_
          have hfin : (nm3 p2 z0 z1 z2) = (0 : Int32) := by simp [nm3, hc135, hc138, hc141]
          refine Go.via (fun _ => XS.icmpNo X142.here hx rfl (hb hby at_197) rfl (teq hfin).2) ?_
          refine Go.via (fun _ => XS.iconst X142.here hx rfl (hb hby at_200)) ?_
          refine Go.via (fun _ => XS.goto X142.here hx rfl (pc0 := 201) (pc' := 205) rfl (hb hby at_201) (by decide) (by decide)) ?_
          exact own_retNW X142 hS0 (by rw [e142q]; exact hk134) hx hlk (t := .boolean) Bd.returns (by simp) (hb hby at_205) (by show Q0 Z p1 p2 p3 p4 p5 ccs vF h0 n0 _ T142.heap _; rw [e142q]; exact ⟨rfl, N142⟩) (by decide) (by decide)
        · -- no
          refine Go.via (fun _ => XS.ifNo X140.here hx rfl (hb hby at_161) rfl ((if0 _ _).trans (feq hc141).1)) ?_
          refine Go.via (fun _ => XS.iload X140.here hx rfl (hb hby at_164) rfl) ?_
          show Go p e below _ (T140.setTop (mkF m 166 #[iv p1, iv p2, iv p3, iv p4, iv p5, iv (3 : Int32), iv z0, iv z1, iv z2, rv b101, rv b102, rv b104, rv b107, rv b107, rv b133, .unset, .unset] [(.int (3 : Int32))]))
          refine Go.via (fun _ => XS.iconst X140.here hx rfl (hb hby at_166)) ?_
          refine Go.via (fun _ => XS.icmpNo X140.here hx rfl (hb hby at_167) rfl (by decide)) ?_
          refine Go.via (fun _ => XS.iload X140.here hx rfl (hb hby at_170) rfl) ?_
          obtain ⟨_, _, ⟨T143, L143, k143, n143⟩, -, X143, ⟨Lc143, hQ143, l143, y143, z143⟩, st143⟩ := Jvm.LawKit.callS X140 hx (y := (⟨"com/example/timed_cap/timedcap/model/NamesIsNamePinLaw", "allowed", "(C)Z"⟩ : MethodName)) hown (mvT hZ (ow hw 43 rfl)) (mvT hZ (ow hw 44 rfl)) (mvT hZ (ow hw 45 rfl)) (mvT hZ (ow hw 46 rfl)) (by decide) (backOf (W := 0) (rm_allowed l Z a0 hw [] z2 T134.heap n0 Zs134) hZ (ow hw 46 rfl) (ow hw 45 rfl) (by decide) (by decide)) (g := (mkF m 172 #[iv p1, iv p2, iv p3, iv p4, iv p5, iv (3 : Int32), iv z0, iv z1, iv z2, rv b101, rv b102, rv b104, rv b107, rv b107, rv b133, .unset, .unset] [(.int z2)])) rfl (by rw [hml]; rfl) (argsL := [(.int z2)]) (rest := []) (lenOf pd_7 rfl) rfl (by show 2 * 0 + _ ≤ _; exact Nat.le_of_eq rfl) (hb hby at_172) (fun _ _ => ⟨rfl, e140q, (by decide : 7 + 0 ≤ _), (by decide : 19 + 0 ≤ _)⟩)
          dsimp only [Pt.U, Pt.locs, Pt.cells, Pt.slots] at X143 l143 y143 z143 st143 hQ143
          rw [l143, y143, z143] at X143
          replace X143 : Stand p l e _ _ m _ below meth c T143 _ 7 19 := X143
          obtain ⟨rfl, N143q, e143q⟩ := hQ143
          have N143 := Fr.app N140 N143q
          refine Go.via st143 ?_
          by_cases hc144 : (okF z2) = (0 : Int32)
          · -- yes
            show Go p e below _ (T143.setTop (mkF m 175 #[iv p1, iv p2, iv p3, iv p4, iv p5, iv (3 : Int32), iv z0, iv z1, iv z2, rv b101, rv b102, rv b104, rv b107, rv b107, rv b133, .unset, .unset] [(.int (okF z2))]))
            refine Go.via (fun _ => XS.ifYes X143.here hx rfl (pc0 := 175) (pc' := 182) rfl (hb hby at_175) rfl ((if0 _ _).trans (teq hc144).1) (by decide) (by decide)) ?_
            refine Go.via (fun _ => XS.iconst X143.here hx rfl (hb hby at_182)) ?_
            refine Go.via (fun _ => XS.istore X143.here hx rfl (hb hby at_183) rfl (l' := #[iv p1, iv p2, iv p3, iv p4, iv p5, iv (3 : Int32), iv z0, iv z1, iv z2, rv b101, rv b102, rv b104, rv b107, rv b107, rv b133, iv (0 : Int32), .unset]) rfl) ?_
            refine Go.via (fun _ => XS.aload X143.here hx rfl (hb hby at_185) rfl rfl) ?_
            refine Go.via (fun _ => XS.iloadN X143.here hx rfl (hb hby at_187) rfl) ?_
            obtain ⟨_, _, ⟨T145, L145, k145, n145⟩, -, X145, ⟨Lc145, hQ145, l145, y145, z145⟩, st145⟩ := Jvm.LawKit.callS X143 hx (y := (⟨"com/example/timed_cap/timedcap/model/Names", "isName", "(Ljava/lang/String;I)Z"⟩ : MethodName)) hown (mvT hZ (ow hw 23 rfl)) (mvT hZ (ow hw 24 rfl)) (mvT hZ (ow hw 25 rfl)) (mvT hZ (ow hw 26 rfl)) (by decide) (backOf (W := 0) (rmN_3 l Z a0 hw [] b133 z0 z1 z2 p2 ccs vF T134.heap n0 Zs134 fE_b133_134 tx134 ⟨r_z0.1, r_z0.2.1⟩ ⟨r_z1.1, r_z1.2.1⟩ ⟨r_z2.1, r_z2.2.1⟩ O134 G) hZ (ow hw 26 rfl) (ow hw 25 rfl) (by decide) (by decide)) (g := (mkF m 188 #[iv p1, iv p2, iv p3, iv p4, iv p5, iv (3 : Int32), iv z0, iv z1, iv z2, rv b101, rv b102, rv b104, rv b107, rv b107, rv b133, iv (0 : Int32), .unset] [(.int p2), (.ref b133)])) rfl (by rw [hml]; rfl) (argsL := [(.ref b133), (.int p2)]) (rest := []) (lenOf pd_18 rfl) rfl (by show 2 * 0 + _ ≤ _; exact Nat.le_of_eq rfl) (hb hby at_188) (fun _ _ => ⟨rfl, e143q, (by decide : 7 + 0 ≤ _), (by decide : 19 + 0 ≤ _)⟩)
            dsimp only [Pt.U, Pt.locs, Pt.cells, Pt.slots] at X145 l145 y145 z145 st145 hQ145
            rw [l145, y145, z145] at X145
            replace X145 : Stand p l e _ _ m _ below meth c T145 _ 7 19 := X145
            obtain ⟨rfl, N145q, e145q⟩ := hQ145
            have N145 := Fr.app N143 N145q
            refine Go.via st145 ?_
            show Go p e below _ (T145.setTop (mkF m 191 #[iv p1, iv p2, iv p3, iv p4, iv p5, iv (3 : Int32), iv z0, iv z1, iv z2, rv b101, rv b102, rv b104, rv b107, rv b107, rv b133, iv (0 : Int32), .unset] [(.int (nm3 p2 z0 z1 z2))]))
            refine Go.via (fun _ => XS.istore X145.here hx rfl (hb hby at_191) rfl (l' := #[iv p1, iv p2, iv p3, iv p4, iv p5, iv (3 : Int32), iv z0, iv z1, iv z2, rv b101, rv b102, rv b104, rv b107, rv b107, rv b133, iv (0 : Int32), iv (nm3 p2 z0 z1 z2)]) rfl) ?_
            refine Go.via (fun _ => XS.iload X145.here hx rfl (hb hby at_193) rfl) ?_
            refine Go.via (fun _ => XS.iload X145.here hx rfl (hb hby at_195) rfl) ?_
            have hfin : (nm3 p2 z0 z1 z2) = (0 : Int32) := by simp [nm3, hc135, hc138, hc141, hc144]
            refine Go.via (fun _ => XS.icmpNo X145.here hx rfl (hb hby at_197) rfl (teq hfin).2) ?_
            refine Go.via (fun _ => XS.iconst X145.here hx rfl (hb hby at_200)) ?_
            refine Go.via (fun _ => XS.goto X145.here hx rfl (pc0 := 201) (pc' := 205) rfl (hb hby at_201) (by decide) (by decide)) ?_
            show Go p e below _ (T145.setTop (mkF m 205 #[iv p1, iv p2, iv p3, iv p4, iv p5, iv (3 : Int32), iv z0, iv z1, iv z2, rv b101, rv b102, rv b104, rv b107, rv b107, rv b133, iv (0 : Int32), iv (nm3 p2 z0 z1 z2)] [(.int (1 : Int32))]))
            exact own_retNW X145 hS0 (by rw [e145q]; exact hk134) hx hlk (t := .boolean) Bd.returns (by simp) (hb hby at_205) (by show Q0 Z p1 p2 p3 p4 p5 ccs vF h0 n0 _ T145.heap _; rw [e145q]; exact ⟨rfl, N145⟩) (by decide) (by decide)
          · -- no
            show Go p e below _ (T143.setTop (mkF m 175 #[iv p1, iv p2, iv p3, iv p4, iv p5, iv (3 : Int32), iv z0, iv z1, iv z2, rv b101, rv b102, rv b104, rv b107, rv b107, rv b133, .unset, .unset] [(.int (okF z2))]))
            refine Go.via (fun _ => XS.ifNo X143.here hx rfl (hb hby at_175) rfl ((if0 _ _).trans (feq hc144).1)) ?_
            refine Go.via (fun _ => XS.iconst X143.here hx rfl (hb hby at_178)) ?_
            refine Go.via (fun _ => XS.goto X143.here hx rfl (pc0 := 179) (pc' := 183) rfl (hb hby at_179) (by decide) (by decide)) ?_
            refine Go.via (fun _ => XS.istore X143.here hx rfl (hb hby at_183) rfl (l' := #[iv p1, iv p2, iv p3, iv p4, iv p5, iv (3 : Int32), iv z0, iv z1, iv z2, rv b101, rv b102, rv b104, rv b107, rv b107, rv b133, iv (1 : Int32), .unset]) rfl) ?_
            refine Go.via (fun _ => XS.aload X143.here hx rfl (hb hby at_185) rfl rfl) ?_
            refine Go.via (fun _ => XS.iloadN X143.here hx rfl (hb hby at_187) rfl) ?_
            show Go p e below _ (T143.setTop (mkF m 188 #[iv p1, iv p2, iv p3, iv p4, iv p5, iv (3 : Int32), iv z0, iv z1, iv z2, rv b101, rv b102, rv b104, rv b107, rv b107, rv b133, iv (1 : Int32), .unset] [(.int p2), (.ref b133)]))
            obtain ⟨_, _, ⟨T146, L146, k146, n146⟩, -, X146, ⟨Lc146, hQ146, l146, y146, z146⟩, st146⟩ := Jvm.LawKit.callS X143 hx (y := (⟨"com/example/timed_cap/timedcap/model/Names", "isName", "(Ljava/lang/String;I)Z"⟩ : MethodName)) hown (mvT hZ (ow hw 23 rfl)) (mvT hZ (ow hw 24 rfl)) (mvT hZ (ow hw 25 rfl)) (mvT hZ (ow hw 26 rfl)) (by decide) (backOf (W := 0) (rmN_3 l Z a0 hw [] b133 z0 z1 z2 p2 ccs vF T134.heap n0 Zs134 fE_b133_134 tx134 ⟨r_z0.1, r_z0.2.1⟩ ⟨r_z1.1, r_z1.2.1⟩ ⟨r_z2.1, r_z2.2.1⟩ O134 G) hZ (ow hw 26 rfl) (ow hw 25 rfl) (by decide) (by decide)) (g := (mkF m 188 #[iv p1, iv p2, iv p3, iv p4, iv p5, iv (3 : Int32), iv z0, iv z1, iv z2, rv b101, rv b102, rv b104, rv b107, rv b107, rv b133, iv (1 : Int32), .unset] [(.int p2), (.ref b133)])) rfl (by rw [hml]; rfl) (argsL := [(.ref b133), (.int p2)]) (rest := []) (lenOf pd_18 rfl) rfl (by show 2 * 0 + _ ≤ _; exact Nat.le_of_eq rfl) (hb hby at_188) (fun _ _ => ⟨rfl, e143q, (by decide : 7 + 0 ≤ _), (by decide : 19 + 0 ≤ _)⟩)
            dsimp only [Pt.U, Pt.locs, Pt.cells, Pt.slots] at X146 l146 y146 z146 st146 hQ146
            rw [l146, y146, z146] at X146
            replace X146 : Stand p l e _ _ m _ below meth c T146 _ 7 19 := X146
            obtain ⟨rfl, N146q, e146q⟩ := hQ146
            have N146 := Fr.app N143 N146q
            refine Go.via st146 ?_
            refine Go.via (fun _ => XS.istore X146.here hx rfl (hb hby at_191) rfl (l' := #[iv p1, iv p2, iv p3, iv p4, iv p5, iv (3 : Int32), iv z0, iv z1, iv z2, rv b101, rv b102, rv b104, rv b107, rv b107, rv b133, iv (1 : Int32), iv (nm3 p2 z0 z1 z2)]) rfl) ?_
            refine Go.via (fun _ => XS.iload X146.here hx rfl (hb hby at_193) rfl) ?_
            refine Go.via (fun _ => XS.iload X146.here hx rfl (hb hby at_195) rfl) ?_
            have hfin : (nm3 p2 z0 z1 z2) = (1 : Int32) := by simp [nm3, hc135, hc138, hc141, hc144]
            refine Go.via (fun _ => XS.icmpNo X146.here hx rfl (hb hby at_197) rfl (teq hfin).2) ?_
            refine Go.via (fun _ => XS.iconst X146.here hx rfl (hb hby at_200)) ?_
            show Go p e below _ (T146.setTop (mkF m 201 #[iv p1, iv p2, iv p3, iv p4, iv p5, iv (3 : Int32), iv z0, iv z1, iv z2, rv b101, rv b102, rv b104, rv b107, rv b107, rv b133, iv (1 : Int32), iv (nm3 p2 z0 z1 z2)] [(.int (1 : Int32))]))
            refine Go.via (fun _ => XS.goto X146.here hx rfl (pc0 := 201) (pc' := 205) rfl (hb hby at_201) (by decide) (by decide)) ?_
            exact own_retNW X146 hS0 (by rw [e146q]; exact hk134) hx hlk (t := .boolean) Bd.returns (by simp) (hb hby at_205) (by show Q0 Z p1 p2 p3 p4 p5 ccs vF h0 n0 _ T146.heap _; rw [e146q]; exact ⟨rfl, N146⟩) (by decide) (by decide)
theorem own_eq_int {t : Term} {n : Int32} {args : Array Value} {s : State} (h : (Cond.eq t (.int n)).value args s none s [] = some true) : t.eval args s none [] s = some (.int n) := by
  simp only [Cond.value, Term.eval] at h
  split at h <;> simp_all
set_option maxRecDepth 65536 in
set_option maxHeartbeats 40000000 in
theorem comes_1 {Post : Tables → Env → Array Value → State → Outcome → State → Prop} (hpost : ∀ tb e args s v u, (limb_1_1.after args s (.returned v) u = true ∧ limb_1_2.after args s (.returned v) u = true ∧ True) → ReturnedEndW s (.returned v) u (Jvm.fieldLocs frame_1_writes args s ++ Jvm.arrayLocs frame_1_arrays args s ++ Jvm.staticLocs frame_1_statics s) 24 1152 → Post tb e args s (.returned v) u) :
    ArmFor flags0 classFile x code maxLocals ret World_1 tables_1 room_1 Calls_1 rest_1 Pre_1 Post := by
  intro l hfl _ _ p e ha hc hk s m args below hf hA hF happ hP
  obtain ⟨hcalls, hrest, hpre⟩ := hP
  obtain ⟨-, -, -, hnamed, -, -, -, hat⟩ := (Spec.applies_iff hf).mp happ
  obtain ⟨hg, hn⟩ := and_e (Cond.before_iff.mp (show (Jvm.Cond.and given_1 narrow_1).before args s = true from hpre))
  obtain ⟨g1, g2⟩ := and_e hg
  obtain ⟨g3, g4⟩ := and_e g2
  obtain ⟨g5, g6⟩ := and_e g4
  obtain ⟨g7, g8⟩ := and_e g6
  obtain ⟨g9, g10⟩ := and_e g8
  obtain ⟨w0, w1, w2, w3, w4, rfl⟩ : ∃ w0 w1 w2 w3 w4 : Value, args = #[w0, w1, w2, w3, w4] := by
    have hs : args.size = 5 := by simpa [Cond.value, given_1] using g1
    obtain ⟨L⟩ := args
    match L, hs with
    | [w0, w1, w2, w3, w4], _ => exact ⟨w0, w1, w2, w3, w4, rfl⟩
  have hw := fun d (hd : d ∈ tables_1) => atoms_spec (ws := Jvm.Cond.code x code maxLocals ret :: tables_1) hat d (List.mem_cons_of_mem _ hd)
  obtain ⟨hsets, hown0⟩ := atoms_of _ (rest_1_c_eq ▸ (show rest_1_c.before _ s = true from hrest))
  have hr0 := Cond.before_iff.mp hown0
  have hfit : Fit s := fun {y c} hc i hi => by
    obtain ⟨ha, rfl⟩ := Array.getElem?_eq_some_iff.mp hc
    have q := List.all_eq_true.mp ((Array.all_eq_true_iff_forall_mem.mp hF) _ (Array.getElem_mem ha)) i (List.mem_range.mpr hi)
    simpa [Array.getElem?_eq_getElem hi] using q
  obtain ⟨i0, ei0⟩ := is_v g3
  obtain rfl : w0 = (.int i0) := Option.some.inj ei0
  obtain ⟨i1, ei1⟩ := is_v g5
  obtain rfl : w1 = (.int i1) := Option.some.inj ei1
  obtain ⟨i2, ei2⟩ := is_v g7
  obtain rfl : w2 = (.int i2) := Option.some.inj ei2
  obtain ⟨i3, ei3⟩ := is_v g9
  obtain rfl : w3 = (.int i3) := Option.some.inj ei3
  obtain ⟨i4, ei4⟩ := is_v g10
  obtain rfl : w4 = (.int i4) := Option.some.inj ei4
  obtain ⟨ccs, ecs⟩ := is_v (Cond.before_iff.mp (hsets _ (List.mem_of_getElem? (i := 1) rfl)))
  have S_CS : Sta s s.heap "java/lang/String" "COMPACT_STRINGS" "Z" (.int ccs) := Sta.start ecs (Or.inl (hsets _ (List.mem_of_getElem? (i := 0) rfl)))
  have ncs := not_v (Cond.before_iff.mp (hsets _ (List.mem_of_getElem? (i := 2) rfl)))
  have hcs : ¬ (ccs = (0 : Int32)) := gotF (Cond.eq_ints ecs (Term.int_eval (0))) ncs
  have S_AD := Sta.start (own_eq_int (Cond.before_iff.mp (hsets _ (List.mem_of_getElem? (i := 12) rfl)))) (Or.inl (hsets _ (List.mem_of_getElem? (i := 11) rfl)))
  have S_HI := Sta.start (own_eq_int (Cond.before_iff.mp (hsets _ (List.mem_of_getElem? (i := 15) rfl)))) (Or.inl (hsets _ (List.mem_of_getElem? (i := 14) rfl)))
  have S_LO := Sta.start (own_eq_int (Cond.before_iff.mp (hsets _ (List.mem_of_getElem? (i := 18) rfl)))) (Or.inl (hsets _ (List.mem_of_getElem? (i := 17) rfl)))
  obtain ⟨vF, eF, rF⟩ := isR_v (Cond.before_iff.mp (hsets _ (List.mem_of_getElem? (i := 8) rfl)))
  have S_SF := Sta.start eF (Or.inl (hsets _ (List.mem_of_getElem? (i := 7) rfl)))
  have hEW : EW s #[.int i0, .int i1, .int i2, .int i3, .int i4] consts_1 := EW.cons (ow hw 15 rfl) (by decide +kernel) EW.nil
  have hCH : CHv s consts_1 s.vm s.heap := CHv.start hEW (fun p hp => hcalls.1 p hp) (hsets _ (List.mem_of_getElem? (i := 2) rfl)) (ow hw 16 rfl) (ow hw 3 rfl)
  obtain ⟨n, o, h1, h2, h3, _, L, rfl, ⟨rfl, N⟩, hq⟩ := rm0 l s _ hw tables_1 i0 i1 i2 i3 i4 ccs vF s.heap s.heap.size (Nat.le_refl _) hEW (Old.start s) ⟨S_CS, hcs, S_AD, S_HI, S_LO, S_SF, rF⟩ p e ha hc hk s m _ below hf ((Spec.applies_iff_loose hf).mp happ).1 ⟨rfl, State.Warmed39.refl s, rfl, hCH⟩ trivial
  refine ⟨n, _, h1, h2, h3, hpost _ _ _ _ _ _ ⟨Cond.after_iff.mpr rfl, Cond.after_iff.mpr (eq_i res_at (Term.int_eval (1)) rfl), trivial⟩ ⟨hq.1, hq.2.1, hq.2.2.1, (hq.2.2.2.sift fun y hy => Or.inr (N y hy)).mono (by decide) (by decide)⟩⟩
theorem main_1_1 : Claimed_1_1 := comes_1 fun _ _ _ _ _ _ h hF => ⟨h.1, hF⟩
theorem main_1_2 : Claimed_1_2 := comes_1 fun _ _ _ _ _ _ h hF => ⟨h.2.1, hF⟩
end Jvm.Pilot.@@N@@
namespace Jvm.Pilot.@@N@@
open Jvm Jvm.ClassFile Sem Op Lib Jvm.Free Jvm.Stand Jvm.Pilot.@@N@@.Jvm.D
/-! MADE BY PROGRAM (witnessworld.py) out of the Statement's table words and the real class files: 20 classes; the members and pool entries that the words name. The judged class is class 1, her method 2. -/
namespace start1
open Jvm.ClassFile
def u (s : String) : CpInfo := .utf8 (stringToUtf16 s)
/-- a pool by its gaps: so many unusable entries, then the entry; so many at the end -/
def gap : Nat → List CpInfo → List CpInfo
  | 0, r => r
  | n + 1, r => .unusable :: gap n r
def poolList (es : List (Nat × CpInfo)) (last : Nat) : List CpInfo := es.foldr (fun e r => gap e.1 (e.2 :: r)) (gap last [])
def pool (es : List (Nat × CpInfo)) (last : Nat) : Array CpInfo := ⟨poolList es last⟩
def fileOf (pool : Array CpInfo) (this : Nat) (attrs : Array Attribute := #[]) (ms : Array MethodInfo := #[]) (fl : Nat := 33) (sup : Nat := 0) (ifs : Array Nat := #[]) (fds : Array FieldInfo := #[]) : ClassFile where
  minorVersion := 0
  majorVersion := 65
  constantPool := pool
  accessFlags := fl
  thisClass := this
  superClass := sup
  interfaces := ifs
  fields := fds
  methods := ms
  attributes := attrs
def plain (name : String) (sup : Option ClassId) : Class where
  name := name
  kind := .ordinary
  loader := none
  accessFlags := 33
  super := sup
  interfaces := #[]
  cf := none
  fields := #[]
  methods := #[]
  instanceTypes := #[]
  staticTypes := #[]
  resolved := #[]
  callSites := []
  init := .initialized
  statics := none
  mirror := none

def pool0 : Array CpInfo := pool [(5, u "<init>"), (0, u "()V"), (1, .class_ 10), (1, u "java/lang/Object")] 113

def k0c0 : Code := { maxStack := 0, maxLocals := 1, code := object_method_1_code, exceptionTable := #[], attributes := #[] }
def k0m0 : Method := { name := "<init>", desc := "()V", sig := { parameters := [], returnType := none }, accessFlags := 1, code := some k0c0 }
/-- java/lang/Object -/
def k0 : Class := { plain "java/lang/Object" none with
  accessFlags := 33
  interfaces := #[]
  cf := some (fileOf pool0 8 #[] #[{ accessFlags := 1, nameIndex := 5, descriptorIndex := 6, attributes := #[] }] 33 0 #[] #[])
  fields := #[]
  methods := #[k0m0]
  instanceTypes := #[]
  staticTypes := #[]
  resolved := Array.replicate 124 none
  statics := none }

def pool1 : Array CpInfo := pool [(2, .class_ 4), (1, u "java/lang/Object"), (0, u "<init>"), (0, u "()V"), (0, .integer 65535), (0, .class_ 9), (0, u "java/lang/String"), (0, .methodref 8 11), (0, .nameAndType 5 12), (0, u "([C)V"), (0, .methodref 14 15), (0, .class_ 16), (0, .nameAndType 17 18), (0, u "com/example/timed_cap/timedcap/model/NamesIsNamePinLaw"), (0, u "allowed"), (0, u "(C)Z"), (0, .methodref 20 21), (0, .class_ 22), (0, .nameAndType 23 24), (0, u "com/example/timed_cap/timedcap/model/Names"), (0, u "isName"), (0, u "(Ljava/lang/String;I)Z"), (3, u "law"), (0, u "(IIIII)Z")] 4

def k1m0 : Method := { name := "<init>", desc := "()V", sig := { parameters := [], returnType := none }, accessFlags := 2, code := none }
def k1c1 : Code := { maxStack := 2, maxLocals := 1, code := method_2_code, exceptionTable := #[], attributes := #[] }
def k1m1 : Method := { name := "allowed", desc := "(C)Z", sig := { parameters := [.char], returnType := some .boolean }, accessFlags := 10, code := some k1c1 }
def k1c2 : Code := { maxStack := 4, maxLocals := 17, code := code, exceptionTable := #[], attributes := #[] }
def k1m2 : Method := { name := "law", desc := "(IIIII)Z", sig := { parameters := [.int, .int, .int, .int, .int], returnType := some .boolean }, accessFlags := 9, code := some k1c2 }
/-- com/example/timed_cap/timedcap/model/NamesIsNamePinLaw -/
def k1 : Class := { plain "com/example/timed_cap/timedcap/model/NamesIsNamePinLaw" (some 0) with
  accessFlags := 49
  interfaces := #[]
  cf := some (fileOf pool1 14 #[] #[{ accessFlags := 2, nameIndex := 5, descriptorIndex := 6, attributes := #[] }, { accessFlags := 10, nameIndex := 17, descriptorIndex := 18, attributes := #[] }, { accessFlags := 9, nameIndex := 28, descriptorIndex := 29, attributes := #[] }] 49 2 #[] #[])
  fields := #[]
  methods := #[k1m0, k1m1, k1m2]
  instanceTypes := #[]
  staticTypes := #[]
  resolved := Array.replicate 34 none
  statics := none }

def pool2 : Array CpInfo := pool [(1, .class_ 2), (0, u "java/io/Serializable"), (0, .class_ 4), (0, u "java/lang/Object")] 2

/-- java/io/Serializable -/
def k2 : Class := { plain "java/io/Serializable" (some 0) with
  accessFlags := 1537
  interfaces := #[]
  cf := some (fileOf pool2 1 #[] #[] 1537 3 #[] #[])
  fields := #[]
  methods := #[]
  instanceTypes := #[]
  staticTypes := #[]
  resolved := Array.replicate 7 none
  statics := none }

def pool3 : Array CpInfo := pool [(1, .class_ 2), (0, u "java/lang/Comparable"), (0, .class_ 4), (0, u "java/lang/Object")] 7

/-- java/lang/Comparable -/
def k3 : Class := { plain "java/lang/Comparable" (some 0) with
  accessFlags := 1537
  interfaces := #[]
  cf := some (fileOf pool3 1 #[] #[] 1537 3 #[] #[])
  fields := #[]
  methods := #[]
  instanceTypes := #[]
  staticTypes := #[]
  resolved := Array.replicate 12 none
  statics := none }

def pool4 : Array CpInfo := pool [(2, .class_ 4), (1, u "java/lang/CharSequence"), (42, .class_ 48), (0, u "java/lang/CharSequence$1CodePointIterator"), (10, .class_ 60), (0, u "java/lang/CharSequence$1CharIterator"), (5, .class_ 67), (0, u "java/lang/Object")] 63

/-- java/lang/CharSequence -/
def k4 : Class := { plain "java/lang/CharSequence" (some 0) with
  accessFlags := 1537
  interfaces := #[]
  cf := some (fileOf pool4 2 #[.nestMembers #[47, 59]] #[] 1537 66 #[] #[])
  fields := #[]
  methods := #[]
  instanceTypes := #[]
  staticTypes := #[]
  resolved := Array.replicate 131 none
  statics := none }

def pool5 : Array CpInfo := pool [(1, .class_ 2), (0, u "java/lang/constant/Constable"), (0, .class_ 4), (0, u "java/lang/Object")] 6

/-- java/lang/constant/Constable -/
def k5 : Class := { plain "java/lang/constant/Constable" (some 0) with
  accessFlags := 1537
  interfaces := #[]
  cf := some (fileOf pool5 1 #[] #[] 1537 3 #[] #[])
  fields := #[]
  methods := #[]
  instanceTypes := #[]
  staticTypes := #[]
  resolved := Array.replicate 11 none
  statics := none }

def pool6 : Array CpInfo := pool [(1, .class_ 2), (0, u "java/lang/constant/ConstantDesc"), (0, .class_ 4), (0, u "java/lang/Object")] 32

/-- java/lang/constant/ConstantDesc -/
def k6 : Class := { plain "java/lang/constant/ConstantDesc" (some 0) with
  accessFlags := 1537
  interfaces := #[]
  cf := some (fileOf pool6 1 #[] #[] 1537 3 #[] #[])
  fields := #[]
  methods := #[]
  instanceTypes := #[]
  staticTypes := #[]
  resolved := Array.replicate 37 none
  statics := none }

def pool7 : Array CpInfo := pool [(1, .methodref 2 3), (0, .class_ 4), (0, .nameAndType 5 6), (0, u "java/lang/Object"), (0, u "<init>"), (0, u "()V"), (0, .string 8), (0, u ""), (0, .fieldref 10 11), (0, .class_ 12), (0, .nameAndType 13 14), (0, u "java/lang/String"), (0, u "value"), (0, u "[B"), (0, .fieldref 10 16), (0, .nameAndType 17 18), (0, u "coder"), (0, u "B"), (2, u "hash"), (0, u "I"), (2, u "hashIsZero"), (0, u "Z"), (0, .methodref 10 28), (0, .nameAndType 5 29), (0, u "([CIILjava/lang/Void;)V"), (8, .fieldref 10 39), (0, .nameAndType 40 26), (0, u "COMPACT_STRINGS"), (1, .class_ 44), (1, u "java/lang/StringUTF16"), (0, u "compress"), (1, .methodref 42 48), (0, .nameAndType 49 50), (0, u "coderFromArrayLen"), (0, u "([BI)B"), (56, .class_ 109), (1, u "java/lang/StringLatin1"), (32, u "()Z"), (34, .methodref 42 178), (0, .nameAndType 45 179), (0, u "([CII)[B"), (154, u "()I"), (0, .methodref 10 336), (0, .nameAndType 17 337), (0, u "()B"), (25, u "([BI)C"), (27, u "(II)V"), (35, u "(I)C"), (64, .methodref 10 493), (0, .nameAndType 494 142), (0, u "isLatin1"), (0, .methodref 107 496), (0, .nameAndType 497 363), (0, u "charAt"), (0, .methodref 42 496), (2, u "checkIndex"), (5, u "length"), (67, .class_ 576), (0, u "java/lang/CharSequence"), (22, u "CASE_INSENSITIVE_ORDER"), (0, u "Ljava/util/Comparator;"), (91, u "isEmpty"), (317, u "([C)V"), (42, .fieldref 1054 1055), (0, .class_ 1056), (0, .nameAndType 1057 1058), (0, u "jdk/internal/util/Preconditions"), (0, u "SIOOBE_FORMATTER"), (0, u "Ljava/util/function/BiFunction;"), (0, .methodref 1054 1060), (0, .nameAndType 501 1061), (0, u "(IILjava/util/function/BiFunction;)I"), (39, u "serialPersistentFields"), (0, u "[Ljava/io/ObjectStreamField;"), (0, .class_ 1104), (0, u "java/lang/String$CaseInsensitiveComparator"), (1, .class_ 1107), (0, u "java/io/Serializable"), (0, .class_ 1109), (0, u "java/lang/Comparable"), (0, .class_ 1111), (0, u "java/lang/constant/Constable"), (0, .class_ 1113), (0, u "java/lang/constant/ConstantDesc"), (2, u "serialVersionUID"), (0, u "J"), (3, u "REPL"), (0, u "C"), (2, u "LATIN1"), (1, u "UTF16")] 323

def k7m0 : Method := { name := "<init>", desc := "()V", sig := { parameters := [], returnType := none }, accessFlags := 1, code := none }
def k7c1 : Code := { maxStack := 5, maxLocals := 2, code := jdk_42_method_3_code, exceptionTable := #[], attributes := #[] }
def k7m1 : Method := { name := "<init>", desc := "([C)V", sig := { parameters := [(.array .char)], returnType := none }, accessFlags := 1, code := some k7c1 }
def k7c2 : Code := { maxStack := 2, maxLocals := 1, code := jdk_42_method_54_code, exceptionTable := #[], attributes := #[] }
def k7m2 : Method := { name := "length", desc := "()I", sig := { parameters := [], returnType := some .int }, accessFlags := 1, code := some k7c2 }
def k7c3 : Code := { maxStack := 1, maxLocals := 1, code := jdk_42_method_55_code, exceptionTable := #[], attributes := #[] }
def k7m3 : Method := { name := "isEmpty", desc := "()Z", sig := { parameters := [], returnType := some .boolean }, accessFlags := 1, code := some k7c3 }
def k7c4 : Code := { maxStack := 2, maxLocals := 2, code := jdk_42_method_56_code, exceptionTable := #[], attributes := #[] }
def k7m4 : Method := { name := "charAt", desc := "(I)C", sig := { parameters := [.int], returnType := some .char }, accessFlags := 1, code := some k7c4 }
def k7c5 : Code := { maxStack := 4, maxLocals := 6, code := jdk_42_method_149_code, exceptionTable := #[], attributes := #[] }
def k7m5 : Method := { name := "<init>", desc := "([CIILjava/lang/Void;)V", sig := { parameters := [(.array .char), .int, .int, (.object "java/lang/Void")], returnType := none }, accessFlags := 2, code := some k7c5 }
def k7c6 : Code := { maxStack := 1, maxLocals := 1, code := jdk_42_method_152_code, exceptionTable := #[], attributes := #[] }
def k7m6 : Method := { name := "coder", desc := "()B", sig := { parameters := [], returnType := some .byte }, accessFlags := 0, code := some k7c6 }
def k7c7 : Code := { maxStack := 1, maxLocals := 1, code := jdk_42_method_154_code, exceptionTable := #[], attributes := #[] }
def k7m7 : Method := { name := "isLatin1", desc := "()Z", sig := { parameters := [], returnType := some .boolean }, accessFlags := 0, code := some k7c7 }
def k7c8 : Code := { maxStack := 3, maxLocals := 2, code := jdk_42_method_155_code, exceptionTable := #[], attributes := #[] }
def k7m8 : Method := { name := "checkIndex", desc := "(II)V", sig := { parameters := [.int, .int], returnType := none }, accessFlags := 8, code := some k7c8 }
/-- java/lang/String -/
def k7 : Class := { plain "java/lang/String" (some 0) with
  accessFlags := 49
  interfaces := #[2, 3, 4, 5, 6]
  cf := some (fileOf pool7 10 #[.nestMembers #[1103]] #[{ accessFlags := 1, nameIndex := 5, descriptorIndex := 6, attributes := #[] }, { accessFlags := 1, nameIndex := 5, descriptorIndex := 1010, attributes := #[] }, { accessFlags := 1, nameIndex := 507, descriptorIndex := 334, attributes := #[] }, { accessFlags := 1, nameIndex := 692, descriptorIndex := 142, attributes := #[] }, { accessFlags := 1, nameIndex := 497, descriptorIndex := 427, attributes := #[] }, { accessFlags := 2, nameIndex := 5, descriptorIndex := 29, attributes := #[] }, { accessFlags := 0, nameIndex := 17, descriptorIndex := 337, attributes := #[] }, { accessFlags := 0, nameIndex := 494, descriptorIndex := 142, attributes := #[] }, { accessFlags := 8, nameIndex := 501, descriptorIndex := 391, attributes := #[] }] 49 2 #[1106, 1108, 575, 1110, 1112] #[{ accessFlags := 18, nameIndex := 13, descriptorIndex := 14, attributes := #[] }, { accessFlags := 18, nameIndex := 17, descriptorIndex := 18, attributes := #[] }, { accessFlags := 2, nameIndex := 21, descriptorIndex := 22, attributes := #[] }, { accessFlags := 2, nameIndex := 25, descriptorIndex := 26, attributes := #[] }, { accessFlags := 26, nameIndex := 1116, descriptorIndex := 1117, attributes := #[] }, { accessFlags := 24, nameIndex := 40, descriptorIndex := 26, attributes := #[] }, { accessFlags := 26, nameIndex := 1101, descriptorIndex := 1102, attributes := #[] }, { accessFlags := 26, nameIndex := 1121, descriptorIndex := 1122, attributes := #[] }, { accessFlags := 25, nameIndex := 599, descriptorIndex := 600, attributes := #[] }, { accessFlags := 24, nameIndex := 1125, descriptorIndex := 18, attributes := #[] }, { accessFlags := 24, nameIndex := 1127, descriptorIndex := 18, attributes := #[] }])
  fields := #[{ name := "value", type := (.array .byte), accessFlags := 18, slot := 0, constantValue := 0 }, { name := "coder", type := .byte, accessFlags := 18, slot := 1, constantValue := 0 }, { name := "hash", type := .int, accessFlags := 2, slot := 2, constantValue := 0 }, { name := "hashIsZero", type := .boolean, accessFlags := 2, slot := 3, constantValue := 0 }, { name := "serialVersionUID", type := .long, accessFlags := 26, slot := 0, constantValue := 0 }, { name := "COMPACT_STRINGS", type := .boolean, accessFlags := 24, slot := 1, constantValue := 0 }, { name := "serialPersistentFields", type := (.array (.object "java/io/ObjectStreamField")), accessFlags := 26, slot := 2, constantValue := 0 }, { name := "REPL", type := .char, accessFlags := 26, slot := 3, constantValue := 0 }, { name := "CASE_INSENSITIVE_ORDER", type := (.object "java/util/Comparator"), accessFlags := 25, slot := 4, constantValue := 0 }, { name := "LATIN1", type := .byte, accessFlags := 24, slot := 5, constantValue := 0 }, { name := "UTF16", type := .byte, accessFlags := 24, slot := 6, constantValue := 0 }]
  methods := #[k7m0, k7m1, k7m2, k7m3, k7m4, k7m5, k7m6, k7m7, k7m8]
  instanceTypes := #[(.array .byte), .byte, .int, .boolean]
  staticTypes := #[.long, .boolean, (.array (.object "java/io/ObjectStreamField")), .char, (.object "java/util/Comparator"), .byte, .byte]
  resolved := Array.replicate 1451 none
  statics := some 0 }

def pool8 : Array CpInfo := pool [(2, .class_ 4), (1, u "java/lang/Object"), (0, u "<init>"), (0, u "()V"), (0, .methodref 8 9), (0, .class_ 10), (0, .nameAndType 11 12), (0, u "java/lang/String"), (0, u "isEmpty"), (0, u "()Z"), (0, .methodref 8 14), (0, .nameAndType 15 16), (0, u "length"), (0, u "()I"), (0, .methodref 8 18), (0, .nameAndType 19 20), (0, u "charAt"), (0, u "(I)C"), (0, .methodref 22 23), (0, .class_ 24), (0, .nameAndType 25 26), (0, u "com/example/timed_cap/timedcap/model/Names"), (0, u "isLowerCase"), (0, u "(C)Z"), (0, .methodref 22 28), (0, .nameAndType 29 26), (0, u "isDigit"), (2, u "isName"), (0, u "(Ljava/lang/String;I)Z")] 4

def k8m0 : Method := { name := "<init>", desc := "()V", sig := { parameters := [], returnType := none }, accessFlags := 2, code := none }
def k8c1 : Code := { maxStack := 2, maxLocals := 4, code := prog_5_method_2_code, exceptionTable := #[], attributes := #[] }
def k8m1 : Method := { name := "isName", desc := "(Ljava/lang/String;I)Z", sig := { parameters := [(.object "java/lang/String"), .int], returnType := some .boolean }, accessFlags := 8, code := some k8c1 }
def k8c2 : Code := { maxStack := 2, maxLocals := 1, code := prog_5_method_4_code, exceptionTable := #[], attributes := #[] }
def k8m2 : Method := { name := "isLowerCase", desc := "(C)Z", sig := { parameters := [.char], returnType := some .boolean }, accessFlags := 10, code := some k8c2 }
def k8c3 : Code := { maxStack := 2, maxLocals := 1, code := prog_5_method_5_code, exceptionTable := #[], attributes := #[] }
def k8m3 : Method := { name := "isDigit", desc := "(C)Z", sig := { parameters := [.char], returnType := some .boolean }, accessFlags := 10, code := some k8c3 }
/-- com/example/timed_cap/timedcap/model/Names -/
def k8 : Class := { plain "com/example/timed_cap/timedcap/model/Names" (some 0) with
  accessFlags := 48
  interfaces := #[]
  cf := some (fileOf pool8 22 #[] #[{ accessFlags := 2, nameIndex := 5, descriptorIndex := 6, attributes := #[] }, { accessFlags := 8, nameIndex := 32, descriptorIndex := 33, attributes := #[] }, { accessFlags := 10, nameIndex := 25, descriptorIndex := 26, attributes := #[] }, { accessFlags := 10, nameIndex := 29, descriptorIndex := 26, attributes := #[] }] 48 2 #[] #[])
  fields := #[]
  methods := #[k8m0, k8m1, k8m2, k8m3]
  instanceTypes := #[]
  staticTypes := #[]
  resolved := Array.replicate 38 none
  statics := none }

def pool9 : Array CpInfo := pool [(3, .class_ 4), (0, u "java/lang/String"), (1, .class_ 8), (1, u "java/lang/Object"), (0, u "<init>"), (0, u "()V"), (0, .methodref 12 13), (0, .class_ 14), (0, .nameAndType 15 16), (0, u "java/lang/StringUTF16"), (0, u "newBytesLength"), (0, u "(I)I"), (3, .integer 1073741823), (23, .fieldref 12 45), (0, .nameAndType 46 47), (0, u "$assertionsDisabled"), (0, u "Z"), (0, .methodref 12 49), (0, .nameAndType 50 51), (0, u "length"), (0, u "([B)I"), (7, .fieldref 12 60), (0, .nameAndType 61 62), (0, u "HI_BYTE_SHIFT"), (0, u "I"), (0, .fieldref 12 64), (0, .nameAndType 65 62), (0, u "LO_BYTE_SHIFT"), (1, .methodref 12 68), (0, .nameAndType 69 70), (0, u "checkIndex"), (0, u "(I[B)V"), (0, .methodref 12 72), (0, .nameAndType 73 74), (0, u "getChar"), (0, u "([BI)C"), (32, .methodref 12 108), (0, .nameAndType 109 110), (0, u "newBytesFor"), (0, u "(I)[B"), (0, .methodref 12 112), (0, .nameAndType 113 114), (0, u "putChar"), (0, u "([BII)V"), (0, .methodref 12 116), (0, .nameAndType 117 118), (0, u "compress"), (0, u "([CI[BII)I"), (0, .methodref 12 120), (0, .nameAndType 121 122), (0, u "toBytes"), (0, u "([CII)[B"), (138, u "coderFromArrayLen"), (0, u "([BI)B"), (106, .class_ 371), (1, u "java/lang/StringUTF16$LinesSpliterator"), (20, u "charAt"), (21, .methodref 3 415), (0, .nameAndType 69 416), (0, u "(II)V"), (13, u "MAX_LENGTH"), (196, .class_ 628), (0, u "java/lang/StringUTF16$CodePointsSpliterator"), (0, .class_ 630), (0, u "java/lang/StringUTF16$CharsSpliterator")] 4

def k9m0 : Method := { name := "<init>", desc := "()V", sig := { parameters := [], returnType := none }, accessFlags := 0, code := none }
def k9c1 : Code := { maxStack := 1, maxLocals := 1, code := jdk_52_method_2_code, exceptionTable := #[], attributes := #[] }
def k9m1 : Method := { name := "newBytesFor", desc := "(I)[B", sig := { parameters := [.int], returnType := some (.array .byte) }, accessFlags := 9, code := some k9c1 }
def k9c2 : Code := { maxStack := 4, maxLocals := 1, code := jdk_52_method_3_code, exceptionTable := #[], attributes := #[] }
def k9m2 : Method := { name := "newBytesLength", desc := "(I)I", sig := { parameters := [.int], returnType := some .int }, accessFlags := 9, code := some k9c2 }
def k9c3 : Code := { maxStack := 4, maxLocals := 3, code := jdk_52_method_4_code, exceptionTable := #[], attributes := #[] }
def k9m3 : Method := { name := "putChar", desc := "([BII)V", sig := { parameters := [(.array .byte), .int, .int], returnType := none }, accessFlags := 8, code := some k9c3 }
def k9c4 : Code := { maxStack := 3, maxLocals := 2, code := jdk_52_method_5_code, exceptionTable := #[], attributes := #[] }
def k9m4 : Method := { name := "getChar", desc := "([BI)C", sig := { parameters := [(.array .byte), .int], returnType := some .char }, accessFlags := 8, code := some k9c4 }
def k9c5 : Code := { maxStack := 2, maxLocals := 1, code := jdk_52_method_6_code, exceptionTable := #[], attributes := #[] }
def k9m5 : Method := { name := "length", desc := "([B)I", sig := { parameters := [(.array .byte)], returnType := some .int }, accessFlags := 9, code := some k9c5 }
def k9c6 : Code := { maxStack := 4, maxLocals := 5, code := jdk_52_method_14_code, exceptionTable := #[], attributes := #[] }
def k9m6 : Method := { name := "toBytes", desc := "([CII)[B", sig := { parameters := [(.array .char), .int, .int], returnType := some (.array .byte) }, accessFlags := 9, code := some k9c6 }
def k9c7 : Code := { maxStack := 2, maxLocals := 2, code := jdk_52_method_15_code, exceptionTable := #[], attributes := #[] }
def k9m7 : Method := { name := "coderFromArrayLen", desc := "([BI)B", sig := { parameters := [(.array .byte), .int], returnType := some .byte }, accessFlags := 8, code := some k9c7 }
def k9c8 : Code := { maxStack := 5, maxLocals := 6, code := jdk_52_method_16_code, exceptionTable := #[], attributes := #[] }
def k9m8 : Method := { name := "compress", desc := "([CII)[B", sig := { parameters := [(.array .char), .int, .int], returnType := some (.array .byte) }, accessFlags := 9, code := some k9c8 }
def k9c9 : Code := { maxStack := 3, maxLocals := 7, code := jdk_52_method_21_code, exceptionTable := #[], attributes := #[] }
def k9m9 : Method := { name := "compress", desc := "([CI[BII)I", sig := { parameters := [(.array .char), .int, (.array .byte), .int, .int], returnType := some .int }, accessFlags := 9, code := some k9c9 }
def k9c10 : Code := { maxStack := 2, maxLocals := 2, code := jdk_52_method_83_code, exceptionTable := #[], attributes := #[] }
def k9m10 : Method := { name := "charAt", desc := "([BI)C", sig := { parameters := [(.array .byte), .int], returnType := some .char }, accessFlags := 9, code := some k9c10 }
def k9c11 : Code := { maxStack := 2, maxLocals := 2, code := jdk_52_method_91_code, exceptionTable := #[], attributes := #[] }
def k9m11 : Method := { name := "checkIndex", desc := "(I[B)V", sig := { parameters := [.int, (.array .byte)], returnType := none }, accessFlags := 9, code := some k9c11 }
/-- java/lang/StringUTF16 -/
def k9 : Class := { plain "java/lang/StringUTF16" (some 0) with
  accessFlags := 48
  interfaces := #[]
  cf := some (fileOf pool9 12 #[.nestMembers #[627, 629, 369]] #[{ accessFlags := 0, nameIndex := 9, descriptorIndex := 10, attributes := #[] }, { accessFlags := 9, nameIndex := 109, descriptorIndex := 110, attributes := #[] }, { accessFlags := 9, nameIndex := 15, descriptorIndex := 16, attributes := #[] }, { accessFlags := 8, nameIndex := 113, descriptorIndex := 114, attributes := #[] }, { accessFlags := 8, nameIndex := 73, descriptorIndex := 74, attributes := #[] }, { accessFlags := 9, nameIndex := 50, descriptorIndex := 51, attributes := #[] }, { accessFlags := 9, nameIndex := 121, descriptorIndex := 122, attributes := #[] }, { accessFlags := 8, nameIndex := 261, descriptorIndex := 262, attributes := #[] }, { accessFlags := 9, nameIndex := 117, descriptorIndex := 122, attributes := #[] }, { accessFlags := 9, nameIndex := 117, descriptorIndex := 118, attributes := #[] }, { accessFlags := 9, nameIndex := 392, descriptorIndex := 74, attributes := #[] }, { accessFlags := 9, nameIndex := 69, descriptorIndex := 70, attributes := #[] }] 48 6 #[] #[{ accessFlags := 26, nameIndex := 61, descriptorIndex := 62, attributes := #[] }, { accessFlags := 26, nameIndex := 65, descriptorIndex := 62, attributes := #[] }, { accessFlags := 24, nameIndex := 430, descriptorIndex := 62, attributes := #[] }, { accessFlags := 4120, nameIndex := 46, descriptorIndex := 47, attributes := #[] }])
  fields := #[{ name := "HI_BYTE_SHIFT", type := .int, accessFlags := 26, slot := 0, constantValue := 0 }, { name := "LO_BYTE_SHIFT", type := .int, accessFlags := 26, slot := 1, constantValue := 0 }, { name := "MAX_LENGTH", type := .int, accessFlags := 24, slot := 2, constantValue := 0 }, { name := "$assertionsDisabled", type := .boolean, accessFlags := 4120, slot := 3, constantValue := 0 }]
  methods := #[k9m0, k9m1, k9m2, k9m3, k9m4, k9m5, k9m6, k9m7, k9m8, k9m9, k9m10, k9m11]
  instanceTypes := #[]
  staticTypes := #[.int, .int, .int, .boolean]
  resolved := Array.replicate 635 none
  statics := some 1 }

def pool10 : Array CpInfo := pool [(1, .class_ 2), (0, u "java/lang/String"), (1, .class_ 6), (1, u "java/lang/Object"), (0, u "<init>"), (0, u "()V"), (0, .methodref 1 10), (0, .nameAndType 11 12), (0, u "checkIndex"), (0, u "(II)V"), (1, .class_ 16), (1, u "java/lang/StringLatin1"), (36, u "([BI)C"), (67, u "$assertionsDisabled"), (0, u "Z"), (98, .class_ 223), (1, u "java/lang/StringLatin1$LinesSpliterator"), (28, u "charAt"), (137, .class_ 391), (0, u "java/lang/StringLatin1$CharsSpliterator")] 3

def k10m0 : Method := { name := "<init>", desc := "()V", sig := { parameters := [], returnType := none }, accessFlags := 0, code := none }
def k10c1 : Code := { maxStack := 2, maxLocals := 2, code := jdk_43_method_2_code, exceptionTable := #[], attributes := #[] }
def k10m1 : Method := { name := "charAt", desc := "([BI)C", sig := { parameters := [(.array .byte), .int], returnType := some .char }, accessFlags := 9, code := some k10c1 }
/-- java/lang/StringLatin1 -/
def k10 : Class := { plain "java/lang/StringLatin1" (some 0) with
  accessFlags := 48
  interfaces := #[]
  cf := some (fileOf pool10 14 #[.nestMembers #[390, 221]] #[{ accessFlags := 0, nameIndex := 7, descriptorIndex := 8, attributes := #[] }, { accessFlags := 9, nameIndex := 252, descriptorIndex := 53, attributes := #[] }] 48 4 #[] #[{ accessFlags := 4120, nameIndex := 121, descriptorIndex := 122, attributes := #[] }])
  fields := #[{ name := "$assertionsDisabled", type := .boolean, accessFlags := 4120, slot := 0, constantValue := 0 }]
  methods := #[k10m0, k10m1]
  instanceTypes := #[]
  staticTypes := #[.boolean]
  resolved := Array.replicate 395 none
  statics := none }

def pool11 : Array CpInfo := pool [(2, .class_ 4), (1, u "java/lang/Object"), (0, u "<init>"), (0, u "()V"), (17, .class_ 26), (1, u "jdk/internal/util/Preconditions"), (6, u "checkIndex"), (21, .class_ 56), (0, u "jdk/internal/util/Preconditions$4"), (57, .class_ 115), (0, u "jdk/internal/util/Preconditions$1"), (7, u "SIOOBE_FORMATTER"), (0, u "Ljava/util/function/BiFunction;"), (0, .class_ 126), (0, u "jdk/internal/util/Preconditions$2"), (3, u "AIOOBE_FORMATTER"), (0, .class_ 132), (0, u "jdk/internal/util/Preconditions$3"), (3, u "IOOBE_FORMATTER"), (41, u "(IILjava/util/function/BiFunction;)I")] 15

def k11m0 : Method := { name := "<init>", desc := "()V", sig := { parameters := [], returnType := none }, accessFlags := 1, code := none }
def k11c1 : Code := { maxStack := 3, maxLocals := 3, code := jdk_41_method_11_code, exceptionTable := #[], attributes := #[] }
def k11m1 : Method := { name := "checkIndex", desc := "(IILjava/util/function/BiFunction;)I", sig := { parameters := [.int, .int, (.object "java/util/function/BiFunction")], returnType := some .int }, accessFlags := 9, code := some k11c1 }
/-- jdk/internal/util/Preconditions -/
def k11 : Class := { plain "jdk/internal/util/Preconditions" (some 0) with
  accessFlags := 33
  interfaces := #[]
  cf := some (fileOf pool11 24 #[.nestMembers #[55, 131, 125, 114]] #[{ accessFlags := 1, nameIndex := 5, descriptorIndex := 6, attributes := #[] }, { accessFlags := 9, nameIndex := 33, descriptorIndex := 178, attributes := #[] }] 33 2 #[] #[{ accessFlags := 25, nameIndex := 123, descriptorIndex := 124, attributes := #[] }, { accessFlags := 25, nameIndex := 130, descriptorIndex := 124, attributes := #[] }, { accessFlags := 25, nameIndex := 136, descriptorIndex := 124, attributes := #[] }])
  fields := #[{ name := "SIOOBE_FORMATTER", type := (.object "java/util/function/BiFunction"), accessFlags := 25, slot := 0, constantValue := 0 }, { name := "AIOOBE_FORMATTER", type := (.object "java/util/function/BiFunction"), accessFlags := 25, slot := 1, constantValue := 0 }, { name := "IOOBE_FORMATTER", type := (.object "java/util/function/BiFunction"), accessFlags := 25, slot := 2, constantValue := 0 }]
  methods := #[k11m0, k11m1]
  instanceTypes := #[]
  staticTypes := #[(.object "java/util/function/BiFunction"), (.object "java/util/function/BiFunction"), (.object "java/util/function/BiFunction")]
  resolved := Array.replicate 194 none
  statics := some 2 }

def pool12 : Array CpInfo := pool [(9, u "<init>"), (6, .class_ 18), (1, u "java/lang/Object"), (0, u "()V"), (1, .class_ 23), (1, u "jdk/internal/util/ArraysSupport"), (0, u "LOG2_ARRAY_LONG_INDEX_SCALE"), (0, u "I"), (2, u "U"), (0, u "Ljdk/internal/misc/Unsafe;"), (8, u "BIG_ENDIAN"), (0, u "Z"), (8, u "LOG2_BYTE_BIT_SIZE"), (4, u "LOG2_ARRAY_INT_INDEX_SCALE"), (54, u "JLA"), (0, u "Ljdk/internal/access/JavaLangAccess;"), (11, u "LOG2_ARRAY_BOOLEAN_INDEX_SCALE"), (9, u "LOG2_ARRAY_BYTE_INDEX_SCALE"), (5, u "LOG2_ARRAY_CHAR_INDEX_SCALE"), (5, u "LOG2_ARRAY_SHORT_INDEX_SCALE"), (18, u "LOG2_ARRAY_FLOAT_INDEX_SCALE"), (24, u "LOG2_ARRAY_DOUBLE_INDEX_SCALE"), (89, u "T_BOOLEAN"), (2, u "T_CHAR"), (1, u "T_FLOAT"), (1, u "T_DOUBLE"), (1, u "T_BYTE"), (1, u "T_SHORT"), (1, u "T_INT"), (1, u "T_LONG"), (1, u "SOFT_MAX_ARRAY_LENGTH")] 83

def k12m0 : Method := { name := "<init>", desc := "()V", sig := { parameters := [], returnType := none }, accessFlags := 2, code := none }
/-- jdk/internal/util/ArraysSupport -/
def k12 : Class := { plain "jdk/internal/util/ArraysSupport" (some 0) with
  accessFlags := 33
  interfaces := #[]
  cf := some (fileOf pool12 21 #[] #[{ accessFlags := 2, nameIndex := 9, descriptorIndex := 19, attributes := #[] }] 33 16 #[] #[{ accessFlags := 24, nameIndex := 28, descriptorIndex := 29, attributes := #[] }, { accessFlags := 26, nameIndex := 38, descriptorIndex := 39, attributes := #[] }, { accessFlags := 25, nameIndex := 121, descriptorIndex := 25, attributes := #[] }, { accessFlags := 25, nameIndex := 131, descriptorIndex := 25, attributes := #[] }, { accessFlags := 25, nameIndex := 137, descriptorIndex := 25, attributes := #[] }, { accessFlags := 25, nameIndex := 143, descriptorIndex := 25, attributes := #[] }, { accessFlags := 25, nameIndex := 53, descriptorIndex := 25, attributes := #[] }, { accessFlags := 25, nameIndex := 24, descriptorIndex := 25, attributes := #[] }, { accessFlags := 25, nameIndex := 162, descriptorIndex := 25, attributes := #[] }, { accessFlags := 25, nameIndex := 187, descriptorIndex := 25, attributes := #[] }, { accessFlags := 26, nameIndex := 48, descriptorIndex := 25, attributes := #[] }, { accessFlags := 25, nameIndex := 277, descriptorIndex := 25, attributes := #[] }, { accessFlags := 25, nameIndex := 280, descriptorIndex := 25, attributes := #[] }, { accessFlags := 25, nameIndex := 282, descriptorIndex := 25, attributes := #[] }, { accessFlags := 25, nameIndex := 284, descriptorIndex := 25, attributes := #[] }, { accessFlags := 25, nameIndex := 286, descriptorIndex := 25, attributes := #[] }, { accessFlags := 25, nameIndex := 288, descriptorIndex := 25, attributes := #[] }, { accessFlags := 25, nameIndex := 290, descriptorIndex := 25, attributes := #[] }, { accessFlags := 25, nameIndex := 292, descriptorIndex := 25, attributes := #[] }, { accessFlags := 26, nameIndex := 108, descriptorIndex := 109, attributes := #[] }, { accessFlags := 25, nameIndex := 294, descriptorIndex := 25, attributes := #[] }])
  fields := #[{ name := "U", type := (.object "jdk/internal/misc/Unsafe"), accessFlags := 24, slot := 0, constantValue := 0 }, { name := "BIG_ENDIAN", type := .boolean, accessFlags := 26, slot := 1, constantValue := 0 }, { name := "LOG2_ARRAY_BOOLEAN_INDEX_SCALE", type := .int, accessFlags := 25, slot := 2, constantValue := 0 }, { name := "LOG2_ARRAY_BYTE_INDEX_SCALE", type := .int, accessFlags := 25, slot := 3, constantValue := 0 }, { name := "LOG2_ARRAY_CHAR_INDEX_SCALE", type := .int, accessFlags := 25, slot := 4, constantValue := 0 }, { name := "LOG2_ARRAY_SHORT_INDEX_SCALE", type := .int, accessFlags := 25, slot := 5, constantValue := 0 }, { name := "LOG2_ARRAY_INT_INDEX_SCALE", type := .int, accessFlags := 25, slot := 6, constantValue := 0 }, { name := "LOG2_ARRAY_LONG_INDEX_SCALE", type := .int, accessFlags := 25, slot := 7, constantValue := 0 }, { name := "LOG2_ARRAY_FLOAT_INDEX_SCALE", type := .int, accessFlags := 25, slot := 8, constantValue := 0 }, { name := "LOG2_ARRAY_DOUBLE_INDEX_SCALE", type := .int, accessFlags := 25, slot := 9, constantValue := 0 }, { name := "LOG2_BYTE_BIT_SIZE", type := .int, accessFlags := 26, slot := 10, constantValue := 0 }, { name := "T_BOOLEAN", type := .int, accessFlags := 25, slot := 11, constantValue := 0 }, { name := "T_CHAR", type := .int, accessFlags := 25, slot := 12, constantValue := 0 }, { name := "T_FLOAT", type := .int, accessFlags := 25, slot := 13, constantValue := 0 }, { name := "T_DOUBLE", type := .int, accessFlags := 25, slot := 14, constantValue := 0 }, { name := "T_BYTE", type := .int, accessFlags := 25, slot := 15, constantValue := 0 }, { name := "T_SHORT", type := .int, accessFlags := 25, slot := 16, constantValue := 0 }, { name := "T_INT", type := .int, accessFlags := 25, slot := 17, constantValue := 0 }, { name := "T_LONG", type := .int, accessFlags := 25, slot := 18, constantValue := 0 }, { name := "JLA", type := (.object "jdk/internal/access/JavaLangAccess"), accessFlags := 26, slot := 19, constantValue := 0 }, { name := "SOFT_MAX_ARRAY_LENGTH", type := .int, accessFlags := 25, slot := 20, constantValue := 0 }]
  methods := #[k12m0]
  instanceTypes := #[]
  staticTypes := #[(.object "jdk/internal/misc/Unsafe"), .boolean, .int, .int, .int, .int, .int, .int, .int, .int, .int, .int, .int, .int, .int, .int, .int, .int, .int, (.object "jdk/internal/access/JavaLangAccess"), .int]
  resolved := Array.replicate 378 none
  statics := none }

def pool13 : Array CpInfo := pool [(1, u "java/lang/Cloneable"), (0, .class_ 1), (0, u "java/lang/Object"), (0, .class_ 3)] 3

/-- java/lang/Cloneable -/
def k13 : Class := { plain "java/lang/Cloneable" (some 0) with
  accessFlags := 1537
  interfaces := #[]
  cf := some (fileOf pool13 2 #[] #[] 1537 4 #[] #[])
  fields := #[]
  methods := #[]
  instanceTypes := #[]
  staticTypes := #[]
  resolved := Array.replicate 8 none
  statics := none }

/-- the primitive byte -/
def k14 : Class := { plain "byte" none with kind := .primitive 'B', accessFlags := 0x411 }
/-- [B -/
def k15 : Class := { plain "[B" (some 0) with kind := .array 14 .byte, interfaces := #[13, 2], accessFlags := 1041 }

/-- the primitive char -/
def k16 : Class := { plain "char" none with kind := .primitive 'C', accessFlags := 0x411 }
/-- [C -/
def k17 : Class := { plain "[C" (some 0) with kind := .array 16 .char, interfaces := #[13, 2], accessFlags := 1041 }

/-- the primitive int -/
def k18 : Class := { plain "int" none with kind := .primitive 'I', accessFlags := 0x411 }
/-- [I -/
def k19 : Class := { plain "[I" (some 0) with kind := .array 18 .int, interfaces := #[13, 2], accessFlags := 1041 }

def heap : Heap := #[{ cls := 7, slots := #[.long 0, .int 1, .null, .int 0, .null, .int 0, .int 0], vm := .statics 7 },
  { cls := 9, slots := #[.int 0, .int 8, .int 0, .int 1], vm := .statics 9 },
  { cls := 11, slots := #[.null, .null, .null], vm := .statics 11 }]
def classes : Array Class := #[k0, k1, k2, k3, k4, k5, k6, k7, k8, k9, k10, k11, k12, k13, k14, k15, k16, k17, k18, k19]
def interned : List (Array UInt16 × Addr) := []
def slotsUsed : Nat := 14
def theMethod : MethodId := ⟨1, 2⟩
def args0 : Array Value := #[.int 5, .int 6, .int 7, .int 8, .int 9]
def aboutOver (below : List Frame) : State where
  vm := { classes := classes, interned := interned.toArray }
  heap := heap
  slotsUsed := slotsUsed
  threads := #[{ frames := .invoking theMethod args0 :: below }]
def below0 : List Frame := [.native { method := ⟨0, 0⟩, args := #[] }]
def about1 : State := aboutOver below0
def p0 : Program := .bare "" "" ""
def e0 : Env := launch0.env 0 0 0
theorem w_frames : about1.frames = Frame.invoking theMethod args0 :: below0 := rfl
set_option maxRecDepth 65536 in
theorem w_args : argsFit about1.vm theMethod args0 = true := by decide +kernel
set_option maxRecDepth 65536 in
theorem w_heap : heapFits about1 = true := by decide +kernel
set_option maxRecDepth 65536 in
theorem w_runnable : about1.curStatus? = some .runnable := by decide +kernel
set_option maxRecDepth 65536 in
theorem w_alone : about1.alone = true := by decide +kernel
set_option maxRecDepth 65536 in
theorem w_named : about1.methodNamed? x = some theMethod := by decide +kernel
set_option maxRecDepth 65536 in
theorem w_hears : about1.hears theMethod below0 = true := by decide +kernel
set_option maxRecDepth 65536 in
theorem w_ripe : about1.ripe theMethod args0 below0 = true := by decide +kernel
theorem w_running : about1.status = .running := rfl
set_option maxRecDepth 65536 in
theorem w_room : about1.hasRoom e0.platform room_1 = true :=
  launch0.hasRoom_least _ room_1 (by decide +kernel) (by decide +kernel) (by decide +kernel) (by decide +kernel) (by decide +kernel) (by decide +kernel)
theorem allAtoms_all (ts : List Jvm.Cond) (a : Array Jvm.Value) (st : Jvm.State) : (allAtoms ts).before a st = ts.all (fun c => c.before a st) := by
  induction ts with
  | nil => rfl
  | cons c t ih =>
    show (Jvm.Cond.and c (allAtoms t)).before a st = _
    rw [Jvm.Cond.before_and, ih, List.all_cons]
def words1 : List Jvm.Cond := Jvm.Cond.code x code maxLocals ret :: tables_1
/-- a 'code' word, met by the world's own term for the bytes: nothing is compared byte by byte -/
theorem code_word {y : MethodName} {bytes : ByteArray} {mx : Nat} {rt : Option FieldType} {a : Array Value} {s : State} {m : MethodId} {meth : Method} {c : Code} (h1 : s.methodNamed? y = some m) (h2 : s.vm.method? m = some meth) (h3 : meth.code = some c) (h4 : c.code = bytes)
    (h5 : (c.maxLocals == mx && c.exceptionTable.isEmpty && decide (c.maxStack ≤ mostOperands) && decide (meth.sig.returnType = rt) && !meth.locks && decide (parseMethodDescriptor y.desc = some meth.sig)) = true) : (Jvm.Cond.code y bytes mx rt).before a s = true := by
  simp only [Bool.and_eq_true, beq_iff_eq, Bool.not_eq_true', decide_eq_true_eq] at h5
  obtain ⟨⟨⟨⟨⟨g1, g2⟩, g3⟩, g4⟩, g5⟩, g6⟩ := h5
  simp [Cond.before, Cond.holds, Cond.value, h1, h2, h3, h4, g1, g2, g3, g4, g5, g6]
def isCode : Jvm.Cond → Bool
  | .code _ _ _ _ => true
  | _ => false
theorem all_split {L : List Jvm.Cond} {P : Jvm.Cond → Bool} (h1 : L.all (fun c => isCode c || P c) = true) (h2 : ∀ c ∈ L.filter isCode, P c = true) : L.all P = true := by
  refine List.all_eq_true.mpr fun c hc => ?_
  have h := List.all_eq_true.mp h1 c hc
  rcases Bool.eq_false_or_eq_true (isCode c) with hi | hi
  · exact h2 c (List.mem_filter.mpr ⟨hc, hi⟩)
  · simpa [hi] using h
set_option maxRecDepth 65536 in
theorem w_c0 : (Jvm.Cond.code x code maxLocals ret).before args0 about1 = true := code_word (m := ⟨1, 2⟩) (meth := k1m2) (c := k1c2) (by decide +kernel) rfl rfl rfl (by decide +kernel)
set_option maxRecDepth 65536 in
theorem w_c1 : (Jvm.Cond.code ({ cls := "java/lang/String", name := "<init>", desc := "([C)V" } : Jvm.MethodName) jdk_42_method_3_code (2 : Nat) (Option.none : Option Jvm.ClassFile.FieldType)).before args0 about1 = true := code_word (m := ⟨7, 1⟩) (meth := k7m1) (c := k7c1) (by decide +kernel) rfl rfl rfl (by decide +kernel)
set_option maxRecDepth 65536 in
theorem w_c2 : (Jvm.Cond.code ({ cls := "java/lang/String", name := "<init>", desc := "([CIILjava/lang/Void;)V" } : Jvm.MethodName) jdk_42_method_149_code (6 : Nat) (Option.none : Option Jvm.ClassFile.FieldType)).before args0 about1 = true := code_word (m := ⟨7, 5⟩) (meth := k7m5) (c := k7c5) (by decide +kernel) rfl rfl rfl (by decide +kernel)
set_option maxRecDepth 65536 in
theorem w_c3 : (Jvm.Cond.code ({ cls := "java/lang/Object", name := "<init>", desc := "()V" } : Jvm.MethodName) object_method_1_code (1 : Nat) (Option.none : Option Jvm.ClassFile.FieldType)).before args0 about1 = true := code_word (m := ⟨0, 0⟩) (meth := k0m0) (c := k0c0) (by decide +kernel) rfl rfl rfl (by decide +kernel)
set_option maxRecDepth 65536 in
theorem w_c4 : (Jvm.Cond.code ({ cls := "com/example/timed_cap/timedcap/model/Names", name := "isName", desc := "(Ljava/lang/String;I)Z" } : Jvm.MethodName) prog_5_method_2_code (4 : Nat) (Option.some Jvm.ClassFile.FieldType.boolean)).before args0 about1 = true := code_word (m := ⟨8, 1⟩) (meth := k8m1) (c := k8c1) (by decide +kernel) rfl rfl rfl (by decide +kernel)
set_option maxRecDepth 65536 in
theorem w_c5 : (Jvm.Cond.code ({ cls := "java/lang/String", name := "isEmpty", desc := "()Z" } : Jvm.MethodName) jdk_42_method_55_code (1 : Nat) (Option.some Jvm.ClassFile.FieldType.boolean)).before args0 about1 = true := code_word (m := ⟨7, 3⟩) (meth := k7m3) (c := k7c3) (by decide +kernel) rfl rfl rfl (by decide +kernel)
set_option maxRecDepth 65536 in
theorem w_c6 : (Jvm.Cond.code ({ cls := "java/lang/StringUTF16", name := "compress", desc := "([CII)[B" } : Jvm.MethodName) jdk_52_method_16_code (6 : Nat) (Option.some (Jvm.ClassFile.FieldType.array Jvm.ClassFile.FieldType.byte))).before args0 about1 = true := code_word (m := ⟨9, 8⟩) (meth := k9m8) (c := k9c8) (by decide +kernel) rfl rfl rfl (by decide +kernel)
set_option maxRecDepth 65536 in
theorem w_c7 : (Jvm.Cond.code ({ cls := "java/lang/StringUTF16", name := "compress", desc := "([CI[BII)I" } : Jvm.MethodName) jdk_52_method_21_code (7 : Nat) (Option.some Jvm.ClassFile.FieldType.int)).before args0 about1 = true := code_word (m := ⟨9, 9⟩) (meth := k9m9) (c := k9c9) (by decide +kernel) rfl rfl rfl (by decide +kernel)
set_option maxRecDepth 65536 in
theorem w_c8 : (Jvm.Cond.code ({ cls := "java/lang/StringUTF16", name := "coderFromArrayLen", desc := "([BI)B" } : Jvm.MethodName) jdk_52_method_15_code (2 : Nat) (Option.some Jvm.ClassFile.FieldType.byte)).before args0 about1 = true := code_word (m := ⟨9, 7⟩) (meth := k9m7) (c := k9c7) (by decide +kernel) rfl rfl rfl (by decide +kernel)
set_option maxRecDepth 65536 in
theorem w_c9 : (Jvm.Cond.code ({ cls := "com/example/timed_cap/timedcap/model/NamesIsNamePinLaw", name := "allowed", desc := "(C)Z" } : Jvm.MethodName) method_2_code (1 : Nat) (Option.some Jvm.ClassFile.FieldType.boolean)).before args0 about1 = true := code_word (m := ⟨1, 1⟩) (meth := k1m1) (c := k1c1) (by decide +kernel) rfl rfl rfl (by decide +kernel)
set_option maxRecDepth 65536 in
theorem w_c10 : (Jvm.Cond.code ({ cls := "java/lang/String", name := "length", desc := "()I" } : Jvm.MethodName) jdk_42_method_54_code (1 : Nat) (Option.some Jvm.ClassFile.FieldType.int)).before args0 about1 = true := code_word (m := ⟨7, 2⟩) (meth := k7m2) (c := k7c2) (by decide +kernel) rfl rfl rfl (by decide +kernel)
set_option maxRecDepth 65536 in
theorem w_c11 : (Jvm.Cond.code ({ cls := "java/lang/String", name := "coder", desc := "()B" } : Jvm.MethodName) jdk_42_method_152_code (1 : Nat) (Option.some Jvm.ClassFile.FieldType.byte)).before args0 about1 = true := code_word (m := ⟨7, 6⟩) (meth := k7m6) (c := k7c6) (by decide +kernel) rfl rfl rfl (by decide +kernel)
set_option maxRecDepth 65536 in
theorem w_c12 : (Jvm.Cond.code ({ cls := "java/lang/String", name := "charAt", desc := "(I)C" } : Jvm.MethodName) jdk_42_method_56_code (2 : Nat) (Option.some Jvm.ClassFile.FieldType.char)).before args0 about1 = true := code_word (m := ⟨7, 4⟩) (meth := k7m4) (c := k7c4) (by decide +kernel) rfl rfl rfl (by decide +kernel)
set_option maxRecDepth 65536 in
theorem w_c13 : (Jvm.Cond.code ({ cls := "java/lang/String", name := "isLatin1", desc := "()Z" } : Jvm.MethodName) jdk_42_method_154_code (1 : Nat) (Option.some Jvm.ClassFile.FieldType.boolean)).before args0 about1 = true := code_word (m := ⟨7, 7⟩) (meth := k7m7) (c := k7c7) (by decide +kernel) rfl rfl rfl (by decide +kernel)
set_option maxRecDepth 65536 in
theorem w_c14 : (Jvm.Cond.code ({ cls := "java/lang/StringLatin1", name := "charAt", desc := "([BI)C" } : Jvm.MethodName) jdk_43_method_2_code (2 : Nat) (Option.some Jvm.ClassFile.FieldType.char)).before args0 about1 = true := code_word (m := ⟨10, 1⟩) (meth := k10m1) (c := k10c1) (by decide +kernel) rfl rfl rfl (by decide +kernel)
set_option maxRecDepth 65536 in
theorem w_c15 : (Jvm.Cond.code ({ cls := "java/lang/String", name := "checkIndex", desc := "(II)V" } : Jvm.MethodName) jdk_42_method_155_code (2 : Nat) (Option.none : Option Jvm.ClassFile.FieldType)).before args0 about1 = true := code_word (m := ⟨7, 8⟩) (meth := k7m8) (c := k7c8) (by decide +kernel) rfl rfl rfl (by decide +kernel)
set_option maxRecDepth 65536 in
theorem w_c16 : (Jvm.Cond.code ({ cls := "jdk/internal/util/Preconditions", name := "checkIndex", desc := "(IILjava/util/function/BiFunction;)I" } : Jvm.MethodName) jdk_41_method_11_code (3 : Nat) (Option.some Jvm.ClassFile.FieldType.int)).before args0 about1 = true := code_word (m := ⟨11, 1⟩) (meth := k11m1) (c := k11c1) (by decide +kernel) rfl rfl rfl (by decide +kernel)
set_option maxRecDepth 65536 in
theorem w_c17 : (Jvm.Cond.code ({ cls := "com/example/timed_cap/timedcap/model/Names", name := "isLowerCase", desc := "(C)Z" } : Jvm.MethodName) prog_5_method_4_code (1 : Nat) (Option.some Jvm.ClassFile.FieldType.boolean)).before args0 about1 = true := code_word (m := ⟨8, 2⟩) (meth := k8m2) (c := k8c2) (by decide +kernel) rfl rfl rfl (by decide +kernel)
set_option maxRecDepth 65536 in
theorem w_c18 : (Jvm.Cond.code ({ cls := "com/example/timed_cap/timedcap/model/Names", name := "isDigit", desc := "(C)Z" } : Jvm.MethodName) prog_5_method_5_code (1 : Nat) (Option.some Jvm.ClassFile.FieldType.boolean)).before args0 about1 = true := code_word (m := ⟨8, 3⟩) (meth := k8m3) (c := k8c3) (by decide +kernel) rfl rfl rfl (by decide +kernel)
set_option maxRecDepth 65536 in
theorem w_c19 : (Jvm.Cond.code ({ cls := "java/lang/StringUTF16", name := "toBytes", desc := "([CII)[B" } : Jvm.MethodName) jdk_52_method_14_code (5 : Nat) (Option.some (Jvm.ClassFile.FieldType.array Jvm.ClassFile.FieldType.byte))).before args0 about1 = true := code_word (m := ⟨9, 6⟩) (meth := k9m6) (c := k9c6) (by decide +kernel) rfl rfl rfl (by decide +kernel)
set_option maxRecDepth 65536 in
theorem w_c20 : (Jvm.Cond.code ({ cls := "java/lang/StringUTF16", name := "newBytesFor", desc := "(I)[B" } : Jvm.MethodName) jdk_52_method_2_code (1 : Nat) (Option.some (Jvm.ClassFile.FieldType.array Jvm.ClassFile.FieldType.byte))).before args0 about1 = true := code_word (m := ⟨9, 1⟩) (meth := k9m1) (c := k9c1) (by decide +kernel) rfl rfl rfl (by decide +kernel)
set_option maxRecDepth 65536 in
theorem w_c21 : (Jvm.Cond.code ({ cls := "java/lang/StringUTF16", name := "newBytesLength", desc := "(I)I" } : Jvm.MethodName) jdk_52_method_3_code (1 : Nat) (Option.some Jvm.ClassFile.FieldType.int)).before args0 about1 = true := code_word (m := ⟨9, 2⟩) (meth := k9m2) (c := k9c2) (by decide +kernel) rfl rfl rfl (by decide +kernel)
set_option maxRecDepth 65536 in
theorem w_c22 : (Jvm.Cond.code ({ cls := "java/lang/StringUTF16", name := "putChar", desc := "([BII)V" } : Jvm.MethodName) jdk_52_method_4_code (3 : Nat) (Option.none : Option Jvm.ClassFile.FieldType)).before args0 about1 = true := code_word (m := ⟨9, 3⟩) (meth := k9m3) (c := k9c3) (by decide +kernel) rfl rfl rfl (by decide +kernel)
set_option maxRecDepth 65536 in
theorem w_c23 : (Jvm.Cond.code ({ cls := "java/lang/StringUTF16", name := "getChar", desc := "([BI)C" } : Jvm.MethodName) jdk_52_method_5_code (2 : Nat) (Option.some Jvm.ClassFile.FieldType.char)).before args0 about1 = true := code_word (m := ⟨9, 4⟩) (meth := k9m4) (c := k9c4) (by decide +kernel) rfl rfl rfl (by decide +kernel)
set_option maxRecDepth 65536 in
theorem w_c24 : (Jvm.Cond.code ({ cls := "java/lang/StringUTF16", name := "charAt", desc := "([BI)C" } : Jvm.MethodName) jdk_52_method_83_code (2 : Nat) (Option.some Jvm.ClassFile.FieldType.char)).before args0 about1 = true := code_word (m := ⟨9, 10⟩) (meth := k9m10) (c := k9c10) (by decide +kernel) rfl rfl rfl (by decide +kernel)
set_option maxRecDepth 65536 in
theorem w_c25 : (Jvm.Cond.code ({ cls := "java/lang/StringUTF16", name := "checkIndex", desc := "(I[B)V" } : Jvm.MethodName) jdk_52_method_91_code (2 : Nat) (Option.none : Option Jvm.ClassFile.FieldType)).before args0 about1 = true := code_word (m := ⟨9, 11⟩) (meth := k9m11) (c := k9c11) (by decide +kernel) rfl rfl rfl (by decide +kernel)
set_option maxRecDepth 65536 in
theorem w_c26 : (Jvm.Cond.code ({ cls := "java/lang/StringUTF16", name := "length", desc := "([B)I" } : Jvm.MethodName) jdk_52_method_6_code (1 : Nat) (Option.some Jvm.ClassFile.FieldType.int)).before args0 about1 = true := code_word (m := ⟨9, 5⟩) (meth := k9m5) (c := k9c5) (by decide +kernel) rfl rfl rfl (by decide +kernel)
def codes1 : List Jvm.Cond := [Jvm.Cond.code x code maxLocals ret, Jvm.Cond.code ({ cls := "java/lang/String", name := "<init>", desc := "([C)V" } : Jvm.MethodName) jdk_42_method_3_code (2 : Nat) (Option.none : Option Jvm.ClassFile.FieldType), Jvm.Cond.code ({ cls := "java/lang/String", name := "<init>", desc := "([CIILjava/lang/Void;)V" } : Jvm.MethodName) jdk_42_method_149_code (6 : Nat) (Option.none : Option Jvm.ClassFile.FieldType), Jvm.Cond.code ({ cls := "java/lang/Object", name := "<init>", desc := "()V" } : Jvm.MethodName) object_method_1_code (1 : Nat) (Option.none : Option Jvm.ClassFile.FieldType), Jvm.Cond.code ({ cls := "com/example/timed_cap/timedcap/model/Names", name := "isName", desc := "(Ljava/lang/String;I)Z" } : Jvm.MethodName) prog_5_method_2_code (4 : Nat) (Option.some Jvm.ClassFile.FieldType.boolean), Jvm.Cond.code ({ cls := "java/lang/String", name := "isEmpty", desc := "()Z" } : Jvm.MethodName) jdk_42_method_55_code (1 : Nat) (Option.some Jvm.ClassFile.FieldType.boolean), Jvm.Cond.code ({ cls := "java/lang/StringUTF16", name := "compress", desc := "([CII)[B" } : Jvm.MethodName) jdk_52_method_16_code (6 : Nat) (Option.some (Jvm.ClassFile.FieldType.array Jvm.ClassFile.FieldType.byte)), Jvm.Cond.code ({ cls := "java/lang/StringUTF16", name := "compress", desc := "([CI[BII)I" } : Jvm.MethodName) jdk_52_method_21_code (7 : Nat) (Option.some Jvm.ClassFile.FieldType.int), Jvm.Cond.code ({ cls := "java/lang/StringUTF16", name := "coderFromArrayLen", desc := "([BI)B" } : Jvm.MethodName) jdk_52_method_15_code (2 : Nat) (Option.some Jvm.ClassFile.FieldType.byte), Jvm.Cond.code ({ cls := "com/example/timed_cap/timedcap/model/NamesIsNamePinLaw", name := "allowed", desc := "(C)Z" } : Jvm.MethodName) method_2_code (1 : Nat) (Option.some Jvm.ClassFile.FieldType.boolean), Jvm.Cond.code ({ cls := "java/lang/String", name := "length", desc := "()I" } : Jvm.MethodName) jdk_42_method_54_code (1 : Nat) (Option.some Jvm.ClassFile.FieldType.int), Jvm.Cond.code ({ cls := "java/lang/String", name := "coder", desc := "()B" } : Jvm.MethodName) jdk_42_method_152_code (1 : Nat) (Option.some Jvm.ClassFile.FieldType.byte), Jvm.Cond.code ({ cls := "java/lang/String", name := "charAt", desc := "(I)C" } : Jvm.MethodName) jdk_42_method_56_code (2 : Nat) (Option.some Jvm.ClassFile.FieldType.char), Jvm.Cond.code ({ cls := "java/lang/String", name := "isLatin1", desc := "()Z" } : Jvm.MethodName) jdk_42_method_154_code (1 : Nat) (Option.some Jvm.ClassFile.FieldType.boolean), Jvm.Cond.code ({ cls := "java/lang/StringLatin1", name := "charAt", desc := "([BI)C" } : Jvm.MethodName) jdk_43_method_2_code (2 : Nat) (Option.some Jvm.ClassFile.FieldType.char), Jvm.Cond.code ({ cls := "java/lang/String", name := "checkIndex", desc := "(II)V" } : Jvm.MethodName) jdk_42_method_155_code (2 : Nat) (Option.none : Option Jvm.ClassFile.FieldType), Jvm.Cond.code ({ cls := "jdk/internal/util/Preconditions", name := "checkIndex", desc := "(IILjava/util/function/BiFunction;)I" } : Jvm.MethodName) jdk_41_method_11_code (3 : Nat) (Option.some Jvm.ClassFile.FieldType.int), Jvm.Cond.code ({ cls := "com/example/timed_cap/timedcap/model/Names", name := "isLowerCase", desc := "(C)Z" } : Jvm.MethodName) prog_5_method_4_code (1 : Nat) (Option.some Jvm.ClassFile.FieldType.boolean), Jvm.Cond.code ({ cls := "com/example/timed_cap/timedcap/model/Names", name := "isDigit", desc := "(C)Z" } : Jvm.MethodName) prog_5_method_5_code (1 : Nat) (Option.some Jvm.ClassFile.FieldType.boolean), Jvm.Cond.code ({ cls := "java/lang/StringUTF16", name := "toBytes", desc := "([CII)[B" } : Jvm.MethodName) jdk_52_method_14_code (5 : Nat) (Option.some (Jvm.ClassFile.FieldType.array Jvm.ClassFile.FieldType.byte)), Jvm.Cond.code ({ cls := "java/lang/StringUTF16", name := "newBytesFor", desc := "(I)[B" } : Jvm.MethodName) jdk_52_method_2_code (1 : Nat) (Option.some (Jvm.ClassFile.FieldType.array Jvm.ClassFile.FieldType.byte)), Jvm.Cond.code ({ cls := "java/lang/StringUTF16", name := "newBytesLength", desc := "(I)I" } : Jvm.MethodName) jdk_52_method_3_code (1 : Nat) (Option.some Jvm.ClassFile.FieldType.int), Jvm.Cond.code ({ cls := "java/lang/StringUTF16", name := "putChar", desc := "([BII)V" } : Jvm.MethodName) jdk_52_method_4_code (3 : Nat) (Option.none : Option Jvm.ClassFile.FieldType), Jvm.Cond.code ({ cls := "java/lang/StringUTF16", name := "getChar", desc := "([BI)C" } : Jvm.MethodName) jdk_52_method_5_code (2 : Nat) (Option.some Jvm.ClassFile.FieldType.char), Jvm.Cond.code ({ cls := "java/lang/StringUTF16", name := "charAt", desc := "([BI)C" } : Jvm.MethodName) jdk_52_method_83_code (2 : Nat) (Option.some Jvm.ClassFile.FieldType.char), Jvm.Cond.code ({ cls := "java/lang/StringUTF16", name := "checkIndex", desc := "(I[B)V" } : Jvm.MethodName) jdk_52_method_91_code (2 : Nat) (Option.none : Option Jvm.ClassFile.FieldType), Jvm.Cond.code ({ cls := "java/lang/StringUTF16", name := "length", desc := "([B)I" } : Jvm.MethodName) jdk_52_method_6_code (1 : Nat) (Option.some Jvm.ClassFile.FieldType.int)]
set_option maxRecDepth 65536 in
theorem codes_eq : words1.filter isCode = codes1 := rfl
theorem w_codes : ∀ c ∈ words1.filter isCode, c.before args0 about1 = true := by
  rw [codes_eq]
  intro c hc
  simp only [codes1, List.mem_cons, List.not_mem_nil, or_false] at hc
  rcases hc with rfl | rfl | rfl | rfl | rfl | rfl | rfl | rfl | rfl | rfl | rfl | rfl | rfl | rfl | rfl | rfl | rfl | rfl | rfl | rfl | rfl | rfl | rfl | rfl | rfl | rfl | rfl
  · exact w_c0
  · exact w_c1
  · exact w_c2
  · exact w_c3
  · exact w_c4
  · exact w_c5
  · exact w_c6
  · exact w_c7
  · exact w_c8
  · exact w_c9
  · exact w_c10
  · exact w_c11
  · exact w_c12
  · exact w_c13
  · exact w_c14
  · exact w_c15
  · exact w_c16
  · exact w_c17
  · exact w_c18
  · exact w_c19
  · exact w_c20
  · exact w_c21
  · exact w_c22
  · exact w_c23
  · exact w_c24
  · exact w_c25
  · exact w_c26
set_option maxRecDepth 65536 in
theorem w_t1 : (words1.take 24).all (fun c => isCode c || c.before args0 about1) = true := by decide +kernel
set_option maxRecDepth 65536 in
theorem w_t2 : ((words1.drop 24).take 24).all (fun c => isCode c || c.before args0 about1) = true := by decide +kernel
set_option maxRecDepth 65536 in
theorem w_t3 : (((words1.drop 24).drop 24).take 24).all (fun c => isCode c || c.before args0 about1) = true := by decide +kernel
set_option maxRecDepth 65536 in
theorem w_t4 : ((((words1.drop 24).drop 24).drop 24).take 24).all (fun c => isCode c || c.before args0 about1) = true := by decide +kernel
set_option maxRecDepth 65536 in
theorem w_t5 : ((((words1.drop 24).drop 24).drop 24).drop 24).all (fun c => isCode c || c.before args0 about1) = true := by decide +kernel
theorem w_tables : (allAtoms (Jvm.Cond.code x code maxLocals ret :: tables_1)).before args0 about1 = true := by
  rw [allAtoms_all]
  show words1.all (fun c => c.before args0 about1) = true
  refine all_split ?_ w_codes
  rw [← List.take_append_drop 24 words1, List.all_append, w_t1, ← List.take_append_drop 24 (words1.drop 24), List.all_append, w_t2, ← List.take_append_drop 24 ((words1.drop 24).drop 24), List.all_append, w_t3, ← List.take_append_drop 24 (((words1.drop 24).drop 24).drop 24), List.all_append, w_t4, w_t5]
  rfl
set_option maxRecDepth 65536 in
theorem w_rest : rest_1_c.before args0 about1 = true := by decide +kernel
set_option maxRecDepth 65536 in
theorem w_case : (Jvm.Cond.and given_1 narrow_1).before args0 about1 = true := by decide +kernel
set_option maxRecDepth 65536 in
theorem w_consts : constsHeld consts_1 about1 := Jvm.Lit.constsHeldB_iff.mp (by decide +kernel)
theorem w_applies : (headSpec (Jvm.Cond.code x code maxLocals ret :: tables_1) room_1).applies x e0.platform about1 = true :=
  (Spec.applies_iff w_frames).mpr ⟨w_running, w_runnable, w_alone, w_named, w_hears, w_ripe, w_room, w_tables⟩
theorem atStart : AtStart classFile x code maxLocals ret World_1 tables_1 room_1 Calls_1 rest_1 Pre_1 launch0 p0 e0 about1 theMethod args0 below0 :=
  ⟨lists_1, trivial, launch0.admits_env _ _ _, launch0.least_env, fairChoices_fair.cas, fairChoices_fair.clock, w_frames, w_args, w_heap, w_applies, ⟨w_consts, trivial⟩, w_rest, w_case⟩
end start1
theorem witness_1 : WitnessClaimed_1 := ⟨start1.p0, start1.e0, start1.about1, start1.theMethod, start1.args0, start1.below0, start1.atStart⟩
end Jvm.Pilot.@@N@@
