import JvmDerived
import JvmDerived.Pilot.@@N@@Statement
import JvmDerived.Pilot.@@N@@Code
set_option linter.unusedVariables false
set_option linter.unusedSimpArgs false
namespace Jvm.Pilot.@@N@@
open Jvm Jvm.ClassFile Sem Op Lib Jvm.Free Jvm.Stand Jvm.LawKit Jvm.RoadKit Bundle Jvm.Pilot.@@N@@.Jvm.D
section Own
variable {p : Program} {l : Launch} {e : Env} {R : Room} {s : State} {m : MethodId} {args : Array Value} {below : List Frame} {meth : Method} {c : Code} {T : State} {locs : List Loc} {cells slots : Nat}
def Go (p : Program) (e : Env) (below : List Frame) (F : State → Outcome → Prop) (t : State) : Prop := ∃ s₂ o, Steps p.tables e below t s₂ ∧ F s₂ o
theorem Go.via {F : State → Outcome → Prop} {a b : State} (h : ∀ t, Steps p.tables e below b t → Steps p.tables e below a t) (g : Go p e below F b) : Go p e below F a := by
  obtain ⟨s₂, o, k, f⟩ := g
  exact ⟨s₂, o, h _ k, f⟩
theorem Go.tr {F : State → Outcome → Prop} {a b : State} (h : Steps p.tables e below a b) (g : Go p e below F b) : Go p e below F a := by
  obtain ⟨s₂, o, k, f⟩ := g
  exact ⟨s₂, o, h.trans k, f⟩
def FinE (s : State) (below : List Frame) (Q : Option Value → Heap → List Loc → Prop) (C S : Nat) (s₂ : State) (o : Outcome) : Prop := s₂.status = .running ∧ Ended s₂ below o ∧ ∃ v L, o = .returned v ∧ Q v s₂.heap L ∧ FrameEnd s o s₂ L C S
variable {Q : Option Value → Heap → List Loc → Prop} {C S : Nat}
theorem own_retN (X : Stand p l e R s m args below meth c T locs cells slots) (hx : p.tables.exec = Jvm.exec) (hlk : meth.locks = false) {pc : Nat} {Ls : Array Slot} {z : Int32} {t : FieldType} {rest : List Value} (hret : meth.sig.returnType = some t) (ht : t = .boolean ∨ t = .byte ∨ t = .char ∨ t = .short)
    (hd : decode c.code pc = .ok (.ireturn, 1)) (hQ : Q (some (.int (nar t z))) T.heap locs) (hc : cells ≤ C) (hs : slots ≤ S) : Go p e below (FinE s below Q C S) (T.setTop (mkF m pc Ls (.int z :: rest))) := by
  obtain ⟨fs, hr, hrun, hended, hW, hsame⟩ := X.leave (v := some (.int (nar t z))) (fun h => by rw [hret] at h; cases h) hlk
  exact ⟨_, _, retN X hx hret ht hd hr, hrun, hended, _, _, rfl, hQ, ⟨_, rfl⟩, hW, hsame.mono hc hs⟩
theorem own_retI (X : Stand p l e R s m args below meth c T locs cells slots) (hx : p.tables.exec = Jvm.exec) (hlk : meth.locks = false) {pc : Nat} {Ls : Array Slot} {z : Int32} {rest : List Value} (hret : meth.sig.returnType = some .int)
    (hd : decode c.code pc = .ok (.ireturn, 1)) (hQ : Q (some (.int z)) T.heap locs) (hc : cells ≤ C) (hs : slots ≤ S) : Go p e below (FinE s below Q C S) (T.setTop (mkF m pc Ls (.int z :: rest))) := by
  obtain ⟨fs, hr, hrun, hended, hW, hsame⟩ := X.leave (v := some (.int z)) (fun h => by rw [hret] at h; cases h) hlk
  refine ⟨T.setFrames fs, _, ?_, hrun, hended, _, _, rfl, hQ, ⟨_, rfl⟩, hW, hsame.mono hc hs⟩
  have hm' : T.vm.method? m = some meth := X.method'
  have hn : narrow .int (.int z) = .int z := rfl
  show Steps p.tables e below (T.setTop { method := m, pc := pc, locals := Ls, stack := _ :: rest, locked := none }) _
  jvm_step X.here [X.here.top, hx, hd, hm', hret, hn]
  first | (intro acts; rw [hr _ acts rfl rfl rfl]) | rw [hr _ _ rfl rfl rfl]
  exact Steps.refl _
theorem own_retA (X : Stand p l e R s m args below meth c T locs cells slots) (hx : p.tables.exec = Jvm.exec) (hlk : meth.locks = false) {pc : Nat} {Ls : Array Slot} {v : Value} {rest : List Value} {t : FieldType} (hret : meth.sig.returnType = some t) (ht : t.isReference = true) (hv : v.isRef = true)
    (hd : decode c.code pc = .ok (.areturn, 1)) (hQ : Q (some v) T.heap locs) (hc : cells ≤ C) (hs : slots ≤ S) : Go p e below (FinE s below Q C S) (T.setTop (mkF m pc Ls (v :: rest))) := by
  obtain ⟨fs, hr, hrun, hended, hW, hsame⟩ := X.leave (v := some v) (fun h => by rw [hret] at h; cases h) hlk
  refine ⟨T.setFrames fs, _, ?_, hrun, hended, _, _, rfl, hQ, ⟨_, rfl⟩, hW, hsame.mono hc hs⟩
  have hm' : T.vm.method? m = some meth := X.method'
  show Steps p.tables e below (T.setTop { method := m, pc := pc, locals := Ls, stack := _ :: rest, locked := none }) _
  jvm_step X.here [X.here.top, hx, hd, hm', hret, hv, ht]
  first | (intro acts; rw [hr _ acts rfl rfl rfl]) | rw [hr _ _ rfl rfl rfl]
  exact Steps.refl _
theorem own_retV (X : Stand p l e R s m args below meth c T locs cells slots) (hx : p.tables.exec = Jvm.exec) (hlk : meth.locks = false) {pc : Nat} {Ls : Array Slot} (hret : meth.sig.returnType = none)
    (hd : decode c.code pc = .ok (.return_, 1)) (hQ : Q none T.heap locs) (hc : cells ≤ C) (hs : slots ≤ S) : Go p e below (FinE s below Q C S) (T.setTop (mkF m pc Ls [])) := by
  obtain ⟨fs, hr, hrun, hended, hW, hsame⟩ := X.leave (v := none) (fun _ => rfl) hlk
  exact ⟨T.setFrames fs, _, X.returnOut hx hret hd hr, hrun, hended, _, _, rfl, hQ, ⟨_, rfl⟩, hW, hsame.mono hc hs⟩
end Own
theorem d2_0 : decode jdk_37_method_2_code 0 = .ok (.aload_n 0, 1) := by decide +kernel
theorem d2_1 : decode jdk_37_method_2_code 1 = .ok (.getfield 7, 3) := by decide +kernel
theorem d2_4 : decode jdk_37_method_2_code 4 = .ok (.ireturn, 1) := by decide +kernel
theorem pn_java_lang_Enum : plainName "java/lang/Enum" = true := by first | (simp [plainName, overriddenIn]; done) | decide +kernel
theorem d1_0 : decode prog_68_method_4_code 0 = .ok (.aload_n 0, 1) := by decide +kernel
theorem d1_1 : decode prog_68_method_4_code 1 = .ok (.invokevirtual 42, 3) := by decide +kernel
theorem pd_0 : parseMethodDescriptor "()I" = some ⟨[], some .int⟩ := by decide +kernel
theorem d1_4 : decode prog_68_method_4_code 4 = .ok (.tableswitch 36 0 4 #[46, 58, 70, 82, 94], 36) := by decide +kernel
theorem d1_50 : decode prog_68_method_4_code 50 = .ok (.iload_n 1, 1) := by decide +kernel
theorem d1_51 : decode prog_68_method_4_code 51 = .ok (.ifCond .ge 7, 3) := by decide +kernel
theorem d1_54 : decode prog_68_method_4_code 54 = .ok (.iconst 1, 1) := by decide +kernel
theorem d1_55 : decode prog_68_method_4_code 55 = .ok (.goto 52, 3) := by decide +kernel
theorem d1_107 : decode prog_68_method_4_code 107 = .ok (.ireturn, 1) := by decide +kernel
theorem pn_com_example_permits_from_duties_permitsfromduties_PolicyDocument_Operator : plainName "com/example/permits_from_duties/permitsfromduties/PolicyDocument$Operator" = true := by first | (simp [plainName, overriddenIn]; done) | decide +kernel
theorem d1_58 : decode prog_68_method_4_code 58 = .ok (.iconst 0, 1) := by decide +kernel
theorem d1_59 : decode prog_68_method_4_code 59 = .ok (.goto 48, 3) := by decide +kernel
theorem d1_62 : decode prog_68_method_4_code 62 = .ok (.iload_n 1, 1) := by decide +kernel
theorem d1_63 : decode prog_68_method_4_code 63 = .ok (.ifCond .gt 7, 3) := by decide +kernel
theorem d1_66 : decode prog_68_method_4_code 66 = .ok (.iconst 1, 1) := by decide +kernel
theorem d1_67 : decode prog_68_method_4_code 67 = .ok (.goto 40, 3) := by decide +kernel
theorem d1_70 : decode prog_68_method_4_code 70 = .ok (.iconst 0, 1) := by decide +kernel
theorem d1_71 : decode prog_68_method_4_code 71 = .ok (.goto 36, 3) := by decide +kernel
theorem d1_74 : decode prog_68_method_4_code 74 = .ok (.iload_n 1, 1) := by decide +kernel
theorem d1_75 : decode prog_68_method_4_code 75 = .ok (.ifCond .ne 7, 3) := by decide +kernel
theorem d1_82 : decode prog_68_method_4_code 82 = .ok (.iconst 0, 1) := by decide +kernel
theorem d1_83 : decode prog_68_method_4_code 83 = .ok (.goto 24, 3) := by decide +kernel
theorem d1_78 : decode prog_68_method_4_code 78 = .ok (.iconst 1, 1) := by decide +kernel
theorem d1_79 : decode prog_68_method_4_code 79 = .ok (.goto 28, 3) := by decide +kernel
theorem d1_86 : decode prog_68_method_4_code 86 = .ok (.iload_n 1, 1) := by decide +kernel
theorem d1_87 : decode prog_68_method_4_code 87 = .ok (.ifCond .lt 7, 3) := by decide +kernel
theorem d1_94 : decode prog_68_method_4_code 94 = .ok (.iconst 0, 1) := by decide +kernel
theorem d1_95 : decode prog_68_method_4_code 95 = .ok (.goto 12, 3) := by decide +kernel
theorem d1_90 : decode prog_68_method_4_code 90 = .ok (.iconst 1, 1) := by decide +kernel
theorem d1_91 : decode prog_68_method_4_code 91 = .ok (.goto 16, 3) := by decide +kernel
theorem d1_98 : decode prog_68_method_4_code 98 = .ok (.iload_n 1, 1) := by decide +kernel
theorem d1_99 : decode prog_68_method_4_code 99 = .ok (.ifCond .le 7, 3) := by decide +kernel
theorem d1_106 : decode prog_68_method_4_code 106 = .ok (.iconst 0, 1) := by decide +kernel
theorem d1_102 : decode prog_68_method_4_code 102 = .ok (.iconst 1, 1) := by decide +kernel
theorem d1_103 : decode prog_68_method_4_code 103 = .ok (.goto 4, 3) := by decide +kernel
theorem pd_1 : parseMethodDescriptor "(I)Z" = some ⟨[.int], some .boolean⟩ := by decide +kernel
theorem pn_com_example_permits_from_duties_permitsfromduties_OperatorTestPinLaw : plainName "com/example/permits_from_duties/permitsfromduties/OperatorTestPinLaw" = true := by first | (simp [plainName, overriddenIn]; done) | decide +kernel
theorem own_sg0 {x : Int32} (h : x < (0 : Int32)) : ¬ (x = (0 : Int32)) ∧ ¬ ((0 : Int32) < x) := by
  rw [Int32.lt_iff_toInt_lt] at h
  rw [Int32.lt_iff_toInt_lt, ← Int32.toInt_inj]
  have e : (0 : Int32).toInt = 0 := rfl
  omega
theorem own_sg1 {x : Int32} (h : x = (0 : Int32)) : ¬ (x < (0 : Int32)) ∧ ¬ ((0 : Int32) < x) := by
  subst h; decide
theorem own_sg2 {x : Int32} (h : ¬ (x < (0 : Int32))) (h' : ¬ (x = (0 : Int32))) : (0 : Int32) < x := by
  rw [Int32.lt_iff_toInt_lt] at h
  rw [← Int32.toInt_inj] at h'
  rw [Int32.lt_iff_toInt_lt]
  have e : (0 : Int32).toInt = 0 := rfl
  omega
theorem ef_rm2 (m : MethodId) (x0 : Addr) : entryFrame m #[(.ref x0)] 1 = mkF m 0 #[.val (.ref x0)] [] := by first | (simp [entryFrame, mkF, argsToLocals, Value.category]; done) | rfl
def Q2 (Z : State) (a1 : Addr) (k1 : Int32) (h0 : Heap) (n0 : Nat) (v : Option Value) (h : Heap) (L : List Loc) : Prop := v = some (.int k1) ∧ Fr n0 L ∧ h = h0
set_option maxRecDepth 65536 in
set_option maxHeartbeats 40000000 in
theorem rm2 (l : Launch) (Z : State) (a0 : Array Value) (hw : ∀ d ∈ tables_1, d.before a0 Z = true) (ws : List Jvm.Cond) (a1 : Addr) (k1 : Int32) (h0 : Heap) (n0 : Nat) (Z0 : n0 ≤ h0.size) (F1 : Fld Z h0 a1 "java/lang/Enum" "ordinal" "I" (.int k1)) :
    MetFree l (⟨"java/lang/Enum", "ordinal", "()I"⟩ : MethodName) (head1 (Jvm.Cond.code (⟨"java/lang/Enum", "ordinal", "()I"⟩ : MethodName) jdk_37_method_2_code 1 (some .int) :: ws) ({ frames := 0, cells := 0, slots := 0, locals := 0 } : Room)) (fun a U => a = #[(.ref a1)] ∧ Z.Warmed39 U.vm ∧ U.heap = h0) (fun _ _ _ _ _ => True) (fun _ U o U' => ∃ v L, o = .returned v ∧ Q2 Z a1 k1 h0 n0 v U'.heap L ∧ FrameEnd U o U' L ({ frames := 0, cells := 0, slots := 0, locals := 0 } : Room).cells ({ frames := 0, cells := 0, slots := 0, locals := 0 } : Room).slots) := by
  refine MetFree.of_bodySF (plainFor_of_name pn_java_lang_Enum) hisR ?_
  intro p e s m args below meth c s₁ Bd hml0 hP hK
  obtain ⟨rfl, hZ, hh⟩ := hP
  have hx := Bd.exec
  have hby := Bd.bytes
  have hlk : meth.locks = false := Bd.notSynchronized
  have hml : c.maxLocals = 1 := hml0
  have hown : s.vm.findClass "java/lang/Enum" = some m.cls := findClass_of_methodNamed Bd.named
  have hnm := (name_of_methodNamed Bd.named Bd.method).1
  have X0 : Stand p l e ({ frames := 0, cells := 0, slots := 0, locals := 0 } : Room) s m #[(.ref a1)] below meth c s₁ [] 0 0 := Stand.of_body Bd
  have e0 : s₁.heap = h0 := by rw [← hh, Bd.state]; rfl
  have N0 := Fr.nil n0
  show Go p e below (FinE s below (Q2 Z a1 k1 h0 n0) ({ frames := 0, cells := 0, slots := 0, locals := 0 } : Room).cells ({ frames := 0, cells := 0, slots := 0, locals := 0 } : Room).slots) (s₁.setTop (entryFrame m #[(.ref a1)] 1))
  refine Go.via (fun t k => castTop (ef_rm2 m a1) k) ?_
  show Go p e below _ (s₁.setTop (mkF m 0 #[.val (.ref a1)] []))
  refine Go.via (fun _ => XS.aloadN X0.here hx rfl (hb hby d2_0) rfl rfl) ?_
  show Go p e below _ (s₁.setTop (mkF m 1 #[.val (.ref a1)] [(.ref a1)]))
  obtain ⟨T1, X1, e1, st1⟩ := getF X0 hx hZ hown (host := "") (Or.inl (hw _ (List.mem_of_getElem? (i := 16) rfl))) Via.refl e0 F1 (g := (mkF m 1 #[.val (.ref a1)] [(.ref a1)])) rfl rfl (hb hby d2_1)
  refine Go.via st1 ?_
  show Go p e below _ (T1.setTop (mkF m 4 #[.val (.ref a1)] [(.int k1)]))
  exact own_retI X1 hx hlk Bd.returns (hb hby d2_4) (by show Q2 Z a1 k1 h0 n0 _ T1.heap _; rw [e1]; exact ⟨rfl, N0, rfl⟩) (by decide) (by decide)
theorem ef_rm1_00 (m : MethodId) (x0 : Addr) (x1 : Int32) : entryFrame m #[(.ref x0), (.int x1)] 2 = mkF m 0 #[.val (.ref x0), .val (.int x1)] [] := by first | (simp [entryFrame, mkF, argsToLocals, Value.category]; done) | rfl
def Q1_00 (Z : State) (a1 : Addr) (p2 : Int32) (h0 : Heap) (n0 : Nat) (v : Option Value) (h : Heap) (L : List Loc) : Prop := v = some (.int (1 : Int32)) ∧ Fr n0 L ∧ h = h0
set_option maxRecDepth 65536 in
set_option maxHeartbeats 40000000 in
theorem rm1_00 (l : Launch) (Z : State) (a0 : Array Value) (hw : ∀ d ∈ tables_1, d.before a0 Z = true) (ws : List Jvm.Cond) (a1 : Addr) (p2 : Int32) (h0 : Heap) (n0 : Nat) (Z0 : n0 ≤ h0.size) (E1 : Exa Z h0 a1 "com/example/permits_from_duties/permitsfromduties/PolicyDocument$Operator") (F1 : Fld Z h0 a1 "java/lang/Enum" "ordinal" "I" (.int (0 : Int32))) (hs0 : p2 < (0 : Int32)) (hs1 : ¬ (p2 = (0 : Int32))) (hs2 : ¬ ((0 : Int32) < p2)) :
    MetFree l (⟨"com/example/permits_from_duties/permitsfromduties/PolicyDocument$Operator", "test", "(I)Z"⟩ : MethodName) (head1 (Jvm.Cond.code (⟨"com/example/permits_from_duties/permitsfromduties/PolicyDocument$Operator", "test", "(I)Z"⟩ : MethodName) prog_68_method_4_code 2 (some .boolean) :: ws) ({ frames := 1, cells := 0, slots := 0, locals := 12 } : Room)) (fun a U => a = #[(.ref a1), (.int p2)] ∧ Z.Warmed39 U.vm ∧ U.heap = h0) (fun _ _ _ _ _ => True) (fun _ U o U' => ∃ v L, o = .returned v ∧ Q1_00 Z a1 p2 h0 n0 v U'.heap L ∧ FrameEnd U o U' L ({ frames := 1, cells := 0, slots := 0, locals := 12 } : Room).cells ({ frames := 1, cells := 0, slots := 0, locals := 12 } : Room).slots) := by
  refine MetFree.of_bodySF (plainFor_of_name pn_com_example_permits_from_duties_permitsfromduties_PolicyDocument_Operator) hisR ?_
  intro p e s m args below meth c s₁ Bd hml0 hP hK
  obtain ⟨rfl, hZ, hh⟩ := hP
  have hx := Bd.exec
  have hby := Bd.bytes
  have hlk : meth.locks = false := Bd.notSynchronized
  have hml : c.maxLocals = 2 := hml0
  have hown : s.vm.findClass "com/example/permits_from_duties/permitsfromduties/PolicyDocument$Operator" = some m.cls := findClass_of_methodNamed Bd.named
  have hnm := (name_of_methodNamed Bd.named Bd.method).1
  have X0 : Stand p l e ({ frames := 1, cells := 0, slots := 0, locals := 12 } : Room) s m #[(.ref a1), (.int p2)] below meth c s₁ [] 0 0 := Stand.of_body Bd
  have e0 : s₁.heap = h0 := by rw [← hh, Bd.state]; rfl
  have N0 := Fr.nil n0
  show Go p e below (FinE s below (Q1_00 Z a1 p2 h0 n0) ({ frames := 1, cells := 0, slots := 0, locals := 12 } : Room).cells ({ frames := 1, cells := 0, slots := 0, locals := 12 } : Room).slots) (s₁.setTop (entryFrame m #[(.ref a1), (.int p2)] 2))
  refine Go.via (fun t k => castTop (ef_rm1_00 m a1 p2) k) ?_
  show Go p e below _ (s₁.setTop (mkF m 0 #[.val (.ref a1), .val (.int p2)] []))
  refine Go.via (fun _ => XS.aloadN X0.here hx rfl (hb hby d1_0) rfl rfl) ?_
  show Go p e below _ (s₁.setTop (mkF m 1 #[.val (.ref a1), .val (.int p2)] [(.ref a1)]))
  obtain ⟨cq1, kq1, q1a, q1b, q1c⟩ := isOf hZ e0 E1
  obtain ⟨_, _, ⟨T1, L1, k1, n1⟩, -, X1, ⟨Lc1, hQ1, l1, y1, z1⟩, st1⟩ := X0.virtualBackUp hx (x := (⟨"com/example/permits_from_duties/permitsfromduties/PolicyDocument$Operator", "ordinal", "()I"⟩ : MethodName)) (y := (⟨"java/lang/Enum", "ordinal", "()I"⟩ : MethodName)) (owner := "java/lang/Enum") hown (mvT hZ (hw _ (List.mem_of_getElem? (i := 9) rfl))) (mvT hZ (hw _ (List.mem_of_getElem? (i := 10) rfl))) (mvT hZ (hw _ (List.mem_of_getElem? (i := 11) rfl))) (by decide) (mvT hZ (hw _ (List.mem_of_getElem? (i := 13) rfl))) (mvT hZ (hw _ (List.mem_of_getElem? (i := 12) rfl))) (backOf (W := 0) (rm2 l Z a0 hw [] a1 (0 : Int32) h0 n0 Z0 F1) hZ (hw _ (List.mem_of_getElem? (i := 15) rfl)) (hw _ (List.mem_of_getElem? (i := 14) rfl)) (by decide) (by decide)) q1a q1c (g := (mkF m 1 #[.val (.ref a1), .val (.int p2)] [(.ref a1)])) rfl (by rw [hml]; rfl) (Steps.refl _) (argsL := []) (rest := []) (lenOf pd_0 rfl) rfl (by show 2 * 0 + _ ≤ _; exact Nat.le_of_eq rfl) (hb hby d1_1) (fun _ _ => ⟨rfl, e0, (by decide : 0 + 0 ≤ _), (by decide : 0 + 0 ≤ _)⟩)
  dsimp only [Pt.U, Pt.locs, Pt.cells, Pt.slots] at X1 l1 y1 z1 st1 hQ1
  subst l1 y1 z1
  obtain ⟨rfl, N1q, e1q⟩ := hQ1
  have N1 := Fr.app N0 N1q
  refine Go.tr st1 ?_
  show Go p e below _ (T1.setTop (mkF m 4 #[.val (.ref a1), .val (.int p2)] [(.int (0 : Int32))]))
  have hin2 : ¬ ((0 : Int32).toInt < 0 ∨ (0 : Int32).toInt > 4) := by decide
  have hoff2 : (#[46, 58, 70, 82, 94] : Array Int)[((0 : Int32).toInt - 0).toNat]? = some 46 := by decide
  have hd2 : decode c.code 4 = .ok (.tableswitch 36 0 4 #[46, 58, 70, 82, 94], 36) := (hb hby d1_4)
  have st2 := fun t => XS.tswIn (tb := p.tables) (e := e) (below := below) (target := t) X1.here hx (g := (mkF m 4 #[.val (.ref a1), .val (.int p2)] [(.int (0 : Int32))])) rfl (pc0 := 4) (pc' := 50) (o := 46) rfl hd2 (i := (0 : Int32)) (rest := []) rfl hin2 hoff2 (by decide) (by decide)
  refine Go.via st2 ?_
  show Go p e below _ (T1.setTop (mkF m 50 #[.val (.ref a1), .val (.int p2)] []))
  refine Go.via (fun _ => XS.iloadN X1.here hx rfl (hb hby d1_50) rfl) ?_
  show Go p e below _ (T1.setTop (mkF m 51 #[.val (.ref a1), .val (.int p2)] [(.int p2)]))
  refine Go.via (fun _ => XS.ifNo X1.here hx rfl (hb hby d1_51) rfl ((if0 _ _).trans (tlt hs0).2.1)) ?_
  show Go p e below _ (T1.setTop (mkF m 54 #[.val (.ref a1), .val (.int p2)] []))
  refine Go.via (fun _ => XS.iconst X1.here hx rfl (hb hby d1_54)) ?_
  show Go p e below _ (T1.setTop (mkF m 55 #[.val (.ref a1), .val (.int p2)] [(.int (1 : Int32))]))
  refine Go.via (fun _ => XS.goto X1.here hx rfl (pc0 := 55) (pc' := 107) rfl (hb hby d1_55) (by decide) (by decide)) ?_
  show Go p e below _ (T1.setTop (mkF m 107 #[.val (.ref a1), .val (.int p2)] [(.int (1 : Int32))]))
  exact own_retN X1 hx hlk (t := .boolean) Bd.returns (by simp) (hb hby d1_107) (by show Q1_00 Z a1 p2 h0 n0 _ T1.heap _; rw [e1q]; exact ⟨rfl, N1, rfl⟩) (by decide) (by decide)
theorem ef_rm1_01 (m : MethodId) (x0 : Addr) (x1 : Int32) : entryFrame m #[(.ref x0), (.int x1)] 2 = mkF m 0 #[.val (.ref x0), .val (.int x1)] [] := by first | (simp [entryFrame, mkF, argsToLocals, Value.category]; done) | rfl
def Q1_01 (Z : State) (a1 : Addr) (p2 : Int32) (h0 : Heap) (n0 : Nat) (v : Option Value) (h : Heap) (L : List Loc) : Prop := v = some (.int (0 : Int32)) ∧ Fr n0 L ∧ h = h0
set_option maxRecDepth 65536 in
set_option maxHeartbeats 40000000 in
theorem rm1_01 (l : Launch) (Z : State) (a0 : Array Value) (hw : ∀ d ∈ tables_1, d.before a0 Z = true) (ws : List Jvm.Cond) (a1 : Addr) (p2 : Int32) (h0 : Heap) (n0 : Nat) (Z0 : n0 ≤ h0.size) (E1 : Exa Z h0 a1 "com/example/permits_from_duties/permitsfromduties/PolicyDocument$Operator") (F1 : Fld Z h0 a1 "java/lang/Enum" "ordinal" "I" (.int (0 : Int32))) (hs0 : ¬ (p2 < (0 : Int32))) (hs1 : p2 = (0 : Int32)) (hs2 : ¬ ((0 : Int32) < p2)) :
    MetFree l (⟨"com/example/permits_from_duties/permitsfromduties/PolicyDocument$Operator", "test", "(I)Z"⟩ : MethodName) (head1 (Jvm.Cond.code (⟨"com/example/permits_from_duties/permitsfromduties/PolicyDocument$Operator", "test", "(I)Z"⟩ : MethodName) prog_68_method_4_code 2 (some .boolean) :: ws) ({ frames := 1, cells := 0, slots := 0, locals := 12 } : Room)) (fun a U => a = #[(.ref a1), (.int p2)] ∧ Z.Warmed39 U.vm ∧ U.heap = h0) (fun _ _ _ _ _ => True) (fun _ U o U' => ∃ v L, o = .returned v ∧ Q1_01 Z a1 p2 h0 n0 v U'.heap L ∧ FrameEnd U o U' L ({ frames := 1, cells := 0, slots := 0, locals := 12 } : Room).cells ({ frames := 1, cells := 0, slots := 0, locals := 12 } : Room).slots) := by
  refine MetFree.of_bodySF (plainFor_of_name pn_com_example_permits_from_duties_permitsfromduties_PolicyDocument_Operator) hisR ?_
  intro p e s m args below meth c s₁ Bd hml0 hP hK
  obtain ⟨rfl, hZ, hh⟩ := hP
  have hx := Bd.exec
  have hby := Bd.bytes
  have hlk : meth.locks = false := Bd.notSynchronized
  have hml : c.maxLocals = 2 := hml0
  have hown : s.vm.findClass "com/example/permits_from_duties/permitsfromduties/PolicyDocument$Operator" = some m.cls := findClass_of_methodNamed Bd.named
  have hnm := (name_of_methodNamed Bd.named Bd.method).1
  have X0 : Stand p l e ({ frames := 1, cells := 0, slots := 0, locals := 12 } : Room) s m #[(.ref a1), (.int p2)] below meth c s₁ [] 0 0 := Stand.of_body Bd
  have e0 : s₁.heap = h0 := by rw [← hh, Bd.state]; rfl
  have N0 := Fr.nil n0
  show Go p e below (FinE s below (Q1_01 Z a1 p2 h0 n0) ({ frames := 1, cells := 0, slots := 0, locals := 12 } : Room).cells ({ frames := 1, cells := 0, slots := 0, locals := 12 } : Room).slots) (s₁.setTop (entryFrame m #[(.ref a1), (.int p2)] 2))
  refine Go.via (fun t k => castTop (ef_rm1_01 m a1 p2) k) ?_
  show Go p e below _ (s₁.setTop (mkF m 0 #[.val (.ref a1), .val (.int p2)] []))
  refine Go.via (fun _ => XS.aloadN X0.here hx rfl (hb hby d1_0) rfl rfl) ?_
  show Go p e below _ (s₁.setTop (mkF m 1 #[.val (.ref a1), .val (.int p2)] [(.ref a1)]))
  obtain ⟨cq1, kq1, q1a, q1b, q1c⟩ := isOf hZ e0 E1
  obtain ⟨_, _, ⟨T1, L1, k1, n1⟩, -, X1, ⟨Lc1, hQ1, l1, y1, z1⟩, st1⟩ := X0.virtualBackUp hx (x := (⟨"com/example/permits_from_duties/permitsfromduties/PolicyDocument$Operator", "ordinal", "()I"⟩ : MethodName)) (y := (⟨"java/lang/Enum", "ordinal", "()I"⟩ : MethodName)) (owner := "java/lang/Enum") hown (mvT hZ (hw _ (List.mem_of_getElem? (i := 9) rfl))) (mvT hZ (hw _ (List.mem_of_getElem? (i := 10) rfl))) (mvT hZ (hw _ (List.mem_of_getElem? (i := 11) rfl))) (by decide) (mvT hZ (hw _ (List.mem_of_getElem? (i := 13) rfl))) (mvT hZ (hw _ (List.mem_of_getElem? (i := 12) rfl))) (backOf (W := 0) (rm2 l Z a0 hw [] a1 (0 : Int32) h0 n0 Z0 F1) hZ (hw _ (List.mem_of_getElem? (i := 15) rfl)) (hw _ (List.mem_of_getElem? (i := 14) rfl)) (by decide) (by decide)) q1a q1c (g := (mkF m 1 #[.val (.ref a1), .val (.int p2)] [(.ref a1)])) rfl (by rw [hml]; rfl) (Steps.refl _) (argsL := []) (rest := []) (lenOf pd_0 rfl) rfl (by show 2 * 0 + _ ≤ _; exact Nat.le_of_eq rfl) (hb hby d1_1) (fun _ _ => ⟨rfl, e0, (by decide : 0 + 0 ≤ _), (by decide : 0 + 0 ≤ _)⟩)
  dsimp only [Pt.U, Pt.locs, Pt.cells, Pt.slots] at X1 l1 y1 z1 st1 hQ1
  subst l1 y1 z1
  obtain ⟨rfl, N1q, e1q⟩ := hQ1
  have N1 := Fr.app N0 N1q
  refine Go.tr st1 ?_
  show Go p e below _ (T1.setTop (mkF m 4 #[.val (.ref a1), .val (.int p2)] [(.int (0 : Int32))]))
  have hin2 : ¬ ((0 : Int32).toInt < 0 ∨ (0 : Int32).toInt > 4) := by decide
  have hoff2 : (#[46, 58, 70, 82, 94] : Array Int)[((0 : Int32).toInt - 0).toNat]? = some 46 := by decide
  have hd2 : decode c.code 4 = .ok (.tableswitch 36 0 4 #[46, 58, 70, 82, 94], 36) := (hb hby d1_4)
  have st2 := fun t => XS.tswIn (tb := p.tables) (e := e) (below := below) (target := t) X1.here hx (g := (mkF m 4 #[.val (.ref a1), .val (.int p2)] [(.int (0 : Int32))])) rfl (pc0 := 4) (pc' := 50) (o := 46) rfl hd2 (i := (0 : Int32)) (rest := []) rfl hin2 hoff2 (by decide) (by decide)
  refine Go.via st2 ?_
  show Go p e below _ (T1.setTop (mkF m 50 #[.val (.ref a1), .val (.int p2)] []))
  refine Go.via (fun _ => XS.iloadN X1.here hx rfl (hb hby d1_50) rfl) ?_
  show Go p e below _ (T1.setTop (mkF m 51 #[.val (.ref a1), .val (.int p2)] [(.int p2)]))
  refine Go.via (fun _ => XS.ifYes X1.here hx rfl (pc0 := 51) (pc' := 58) rfl (hb hby d1_51) rfl ((if0 _ _).trans (flt hs0).2.1) (by decide) (by decide)) ?_
  show Go p e below _ (T1.setTop (mkF m 58 #[.val (.ref a1), .val (.int p2)] []))
  refine Go.via (fun _ => XS.iconst X1.here hx rfl (hb hby d1_58)) ?_
  show Go p e below _ (T1.setTop (mkF m 59 #[.val (.ref a1), .val (.int p2)] [(.int (0 : Int32))]))
  refine Go.via (fun _ => XS.goto X1.here hx rfl (pc0 := 59) (pc' := 107) rfl (hb hby d1_59) (by decide) (by decide)) ?_
  show Go p e below _ (T1.setTop (mkF m 107 #[.val (.ref a1), .val (.int p2)] [(.int (0 : Int32))]))
  exact own_retN X1 hx hlk (t := .boolean) Bd.returns (by simp) (hb hby d1_107) (by show Q1_01 Z a1 p2 h0 n0 _ T1.heap _; rw [e1q]; exact ⟨rfl, N1, rfl⟩) (by decide) (by decide)
theorem ef_rm1_02 (m : MethodId) (x0 : Addr) (x1 : Int32) : entryFrame m #[(.ref x0), (.int x1)] 2 = mkF m 0 #[.val (.ref x0), .val (.int x1)] [] := by first | (simp [entryFrame, mkF, argsToLocals, Value.category]; done) | rfl
def Q1_02 (Z : State) (a1 : Addr) (p2 : Int32) (h0 : Heap) (n0 : Nat) (v : Option Value) (h : Heap) (L : List Loc) : Prop := v = some (.int (0 : Int32)) ∧ Fr n0 L ∧ h = h0
set_option maxRecDepth 65536 in
set_option maxHeartbeats 40000000 in
theorem rm1_02 (l : Launch) (Z : State) (a0 : Array Value) (hw : ∀ d ∈ tables_1, d.before a0 Z = true) (ws : List Jvm.Cond) (a1 : Addr) (p2 : Int32) (h0 : Heap) (n0 : Nat) (Z0 : n0 ≤ h0.size) (E1 : Exa Z h0 a1 "com/example/permits_from_duties/permitsfromduties/PolicyDocument$Operator") (F1 : Fld Z h0 a1 "java/lang/Enum" "ordinal" "I" (.int (0 : Int32))) (hs0 : ¬ (p2 < (0 : Int32))) (hs1 : ¬ (p2 = (0 : Int32))) (hs2 : (0 : Int32) < p2) :
    MetFree l (⟨"com/example/permits_from_duties/permitsfromduties/PolicyDocument$Operator", "test", "(I)Z"⟩ : MethodName) (head1 (Jvm.Cond.code (⟨"com/example/permits_from_duties/permitsfromduties/PolicyDocument$Operator", "test", "(I)Z"⟩ : MethodName) prog_68_method_4_code 2 (some .boolean) :: ws) ({ frames := 1, cells := 0, slots := 0, locals := 12 } : Room)) (fun a U => a = #[(.ref a1), (.int p2)] ∧ Z.Warmed39 U.vm ∧ U.heap = h0) (fun _ _ _ _ _ => True) (fun _ U o U' => ∃ v L, o = .returned v ∧ Q1_02 Z a1 p2 h0 n0 v U'.heap L ∧ FrameEnd U o U' L ({ frames := 1, cells := 0, slots := 0, locals := 12 } : Room).cells ({ frames := 1, cells := 0, slots := 0, locals := 12 } : Room).slots) := by
  refine MetFree.of_bodySF (plainFor_of_name pn_com_example_permits_from_duties_permitsfromduties_PolicyDocument_Operator) hisR ?_
  intro p e s m args below meth c s₁ Bd hml0 hP hK
  obtain ⟨rfl, hZ, hh⟩ := hP
  have hx := Bd.exec
  have hby := Bd.bytes
  have hlk : meth.locks = false := Bd.notSynchronized
  have hml : c.maxLocals = 2 := hml0
  have hown : s.vm.findClass "com/example/permits_from_duties/permitsfromduties/PolicyDocument$Operator" = some m.cls := findClass_of_methodNamed Bd.named
  have hnm := (name_of_methodNamed Bd.named Bd.method).1
  have X0 : Stand p l e ({ frames := 1, cells := 0, slots := 0, locals := 12 } : Room) s m #[(.ref a1), (.int p2)] below meth c s₁ [] 0 0 := Stand.of_body Bd
  have e0 : s₁.heap = h0 := by rw [← hh, Bd.state]; rfl
  have N0 := Fr.nil n0
  show Go p e below (FinE s below (Q1_02 Z a1 p2 h0 n0) ({ frames := 1, cells := 0, slots := 0, locals := 12 } : Room).cells ({ frames := 1, cells := 0, slots := 0, locals := 12 } : Room).slots) (s₁.setTop (entryFrame m #[(.ref a1), (.int p2)] 2))
  refine Go.via (fun t k => castTop (ef_rm1_02 m a1 p2) k) ?_
  show Go p e below _ (s₁.setTop (mkF m 0 #[.val (.ref a1), .val (.int p2)] []))
  refine Go.via (fun _ => XS.aloadN X0.here hx rfl (hb hby d1_0) rfl rfl) ?_
  show Go p e below _ (s₁.setTop (mkF m 1 #[.val (.ref a1), .val (.int p2)] [(.ref a1)]))
  obtain ⟨cq1, kq1, q1a, q1b, q1c⟩ := isOf hZ e0 E1
  obtain ⟨_, _, ⟨T1, L1, k1, n1⟩, -, X1, ⟨Lc1, hQ1, l1, y1, z1⟩, st1⟩ := X0.virtualBackUp hx (x := (⟨"com/example/permits_from_duties/permitsfromduties/PolicyDocument$Operator", "ordinal", "()I"⟩ : MethodName)) (y := (⟨"java/lang/Enum", "ordinal", "()I"⟩ : MethodName)) (owner := "java/lang/Enum") hown (mvT hZ (hw _ (List.mem_of_getElem? (i := 9) rfl))) (mvT hZ (hw _ (List.mem_of_getElem? (i := 10) rfl))) (mvT hZ (hw _ (List.mem_of_getElem? (i := 11) rfl))) (by decide) (mvT hZ (hw _ (List.mem_of_getElem? (i := 13) rfl))) (mvT hZ (hw _ (List.mem_of_getElem? (i := 12) rfl))) (backOf (W := 0) (rm2 l Z a0 hw [] a1 (0 : Int32) h0 n0 Z0 F1) hZ (hw _ (List.mem_of_getElem? (i := 15) rfl)) (hw _ (List.mem_of_getElem? (i := 14) rfl)) (by decide) (by decide)) q1a q1c (g := (mkF m 1 #[.val (.ref a1), .val (.int p2)] [(.ref a1)])) rfl (by rw [hml]; rfl) (Steps.refl _) (argsL := []) (rest := []) (lenOf pd_0 rfl) rfl (by show 2 * 0 + _ ≤ _; exact Nat.le_of_eq rfl) (hb hby d1_1) (fun _ _ => ⟨rfl, e0, (by decide : 0 + 0 ≤ _), (by decide : 0 + 0 ≤ _)⟩)
  dsimp only [Pt.U, Pt.locs, Pt.cells, Pt.slots] at X1 l1 y1 z1 st1 hQ1
  subst l1 y1 z1
  obtain ⟨rfl, N1q, e1q⟩ := hQ1
  have N1 := Fr.app N0 N1q
  refine Go.tr st1 ?_
  show Go p e below _ (T1.setTop (mkF m 4 #[.val (.ref a1), .val (.int p2)] [(.int (0 : Int32))]))
  have hin2 : ¬ ((0 : Int32).toInt < 0 ∨ (0 : Int32).toInt > 4) := by decide
  have hoff2 : (#[46, 58, 70, 82, 94] : Array Int)[((0 : Int32).toInt - 0).toNat]? = some 46 := by decide
  have hd2 : decode c.code 4 = .ok (.tableswitch 36 0 4 #[46, 58, 70, 82, 94], 36) := (hb hby d1_4)
  have st2 := fun t => XS.tswIn (tb := p.tables) (e := e) (below := below) (target := t) X1.here hx (g := (mkF m 4 #[.val (.ref a1), .val (.int p2)] [(.int (0 : Int32))])) rfl (pc0 := 4) (pc' := 50) (o := 46) rfl hd2 (i := (0 : Int32)) (rest := []) rfl hin2 hoff2 (by decide) (by decide)
  refine Go.via st2 ?_
  show Go p e below _ (T1.setTop (mkF m 50 #[.val (.ref a1), .val (.int p2)] []))
  refine Go.via (fun _ => XS.iloadN X1.here hx rfl (hb hby d1_50) rfl) ?_
  show Go p e below _ (T1.setTop (mkF m 51 #[.val (.ref a1), .val (.int p2)] [(.int p2)]))
  refine Go.via (fun _ => XS.ifYes X1.here hx rfl (pc0 := 51) (pc' := 58) rfl (hb hby d1_51) rfl ((if0 _ _).trans (flt hs0).2.1) (by decide) (by decide)) ?_
  show Go p e below _ (T1.setTop (mkF m 58 #[.val (.ref a1), .val (.int p2)] []))
  refine Go.via (fun _ => XS.iconst X1.here hx rfl (hb hby d1_58)) ?_
  show Go p e below _ (T1.setTop (mkF m 59 #[.val (.ref a1), .val (.int p2)] [(.int (0 : Int32))]))
  refine Go.via (fun _ => XS.goto X1.here hx rfl (pc0 := 59) (pc' := 107) rfl (hb hby d1_59) (by decide) (by decide)) ?_
  show Go p e below _ (T1.setTop (mkF m 107 #[.val (.ref a1), .val (.int p2)] [(.int (0 : Int32))]))
  exact own_retN X1 hx hlk (t := .boolean) Bd.returns (by simp) (hb hby d1_107) (by show Q1_02 Z a1 p2 h0 n0 _ T1.heap _; rw [e1q]; exact ⟨rfl, N1, rfl⟩) (by decide) (by decide)
theorem ef_rm1_10 (m : MethodId) (x0 : Addr) (x1 : Int32) : entryFrame m #[(.ref x0), (.int x1)] 2 = mkF m 0 #[.val (.ref x0), .val (.int x1)] [] := by first | (simp [entryFrame, mkF, argsToLocals, Value.category]; done) | rfl
def Q1_10 (Z : State) (a1 : Addr) (p2 : Int32) (h0 : Heap) (n0 : Nat) (v : Option Value) (h : Heap) (L : List Loc) : Prop := v = some (.int (1 : Int32)) ∧ Fr n0 L ∧ h = h0
set_option maxRecDepth 65536 in
set_option maxHeartbeats 40000000 in
theorem rm1_10 (l : Launch) (Z : State) (a0 : Array Value) (hw : ∀ d ∈ tables_1, d.before a0 Z = true) (ws : List Jvm.Cond) (a1 : Addr) (p2 : Int32) (h0 : Heap) (n0 : Nat) (Z0 : n0 ≤ h0.size) (E1 : Exa Z h0 a1 "com/example/permits_from_duties/permitsfromduties/PolicyDocument$Operator") (F1 : Fld Z h0 a1 "java/lang/Enum" "ordinal" "I" (.int (1 : Int32))) (hs0 : p2 < (0 : Int32)) (hs1 : ¬ (p2 = (0 : Int32))) (hs2 : ¬ ((0 : Int32) < p2)) :
    MetFree l (⟨"com/example/permits_from_duties/permitsfromduties/PolicyDocument$Operator", "test", "(I)Z"⟩ : MethodName) (head1 (Jvm.Cond.code (⟨"com/example/permits_from_duties/permitsfromduties/PolicyDocument$Operator", "test", "(I)Z"⟩ : MethodName) prog_68_method_4_code 2 (some .boolean) :: ws) ({ frames := 1, cells := 0, slots := 0, locals := 12 } : Room)) (fun a U => a = #[(.ref a1), (.int p2)] ∧ Z.Warmed39 U.vm ∧ U.heap = h0) (fun _ _ _ _ _ => True) (fun _ U o U' => ∃ v L, o = .returned v ∧ Q1_10 Z a1 p2 h0 n0 v U'.heap L ∧ FrameEnd U o U' L ({ frames := 1, cells := 0, slots := 0, locals := 12 } : Room).cells ({ frames := 1, cells := 0, slots := 0, locals := 12 } : Room).slots) := by
  refine MetFree.of_bodySF (plainFor_of_name pn_com_example_permits_from_duties_permitsfromduties_PolicyDocument_Operator) hisR ?_
  intro p e s m args below meth c s₁ Bd hml0 hP hK
  obtain ⟨rfl, hZ, hh⟩ := hP
  have hx := Bd.exec
  have hby := Bd.bytes
  have hlk : meth.locks = false := Bd.notSynchronized
  have hml : c.maxLocals = 2 := hml0
  have hown : s.vm.findClass "com/example/permits_from_duties/permitsfromduties/PolicyDocument$Operator" = some m.cls := findClass_of_methodNamed Bd.named
  have hnm := (name_of_methodNamed Bd.named Bd.method).1
  have X0 : Stand p l e ({ frames := 1, cells := 0, slots := 0, locals := 12 } : Room) s m #[(.ref a1), (.int p2)] below meth c s₁ [] 0 0 := Stand.of_body Bd
  have e0 : s₁.heap = h0 := by rw [← hh, Bd.state]; rfl
  have N0 := Fr.nil n0
  show Go p e below (FinE s below (Q1_10 Z a1 p2 h0 n0) ({ frames := 1, cells := 0, slots := 0, locals := 12 } : Room).cells ({ frames := 1, cells := 0, slots := 0, locals := 12 } : Room).slots) (s₁.setTop (entryFrame m #[(.ref a1), (.int p2)] 2))
  refine Go.via (fun t k => castTop (ef_rm1_10 m a1 p2) k) ?_
  show Go p e below _ (s₁.setTop (mkF m 0 #[.val (.ref a1), .val (.int p2)] []))
  refine Go.via (fun _ => XS.aloadN X0.here hx rfl (hb hby d1_0) rfl rfl) ?_
  show Go p e below _ (s₁.setTop (mkF m 1 #[.val (.ref a1), .val (.int p2)] [(.ref a1)]))
  obtain ⟨cq1, kq1, q1a, q1b, q1c⟩ := isOf hZ e0 E1
  obtain ⟨_, _, ⟨T1, L1, k1, n1⟩, -, X1, ⟨Lc1, hQ1, l1, y1, z1⟩, st1⟩ := X0.virtualBackUp hx (x := (⟨"com/example/permits_from_duties/permitsfromduties/PolicyDocument$Operator", "ordinal", "()I"⟩ : MethodName)) (y := (⟨"java/lang/Enum", "ordinal", "()I"⟩ : MethodName)) (owner := "java/lang/Enum") hown (mvT hZ (hw _ (List.mem_of_getElem? (i := 9) rfl))) (mvT hZ (hw _ (List.mem_of_getElem? (i := 10) rfl))) (mvT hZ (hw _ (List.mem_of_getElem? (i := 11) rfl))) (by decide) (mvT hZ (hw _ (List.mem_of_getElem? (i := 13) rfl))) (mvT hZ (hw _ (List.mem_of_getElem? (i := 12) rfl))) (backOf (W := 0) (rm2 l Z a0 hw [] a1 (1 : Int32) h0 n0 Z0 F1) hZ (hw _ (List.mem_of_getElem? (i := 15) rfl)) (hw _ (List.mem_of_getElem? (i := 14) rfl)) (by decide) (by decide)) q1a q1c (g := (mkF m 1 #[.val (.ref a1), .val (.int p2)] [(.ref a1)])) rfl (by rw [hml]; rfl) (Steps.refl _) (argsL := []) (rest := []) (lenOf pd_0 rfl) rfl (by show 2 * 0 + _ ≤ _; exact Nat.le_of_eq rfl) (hb hby d1_1) (fun _ _ => ⟨rfl, e0, (by decide : 0 + 0 ≤ _), (by decide : 0 + 0 ≤ _)⟩)
  dsimp only [Pt.U, Pt.locs, Pt.cells, Pt.slots] at X1 l1 y1 z1 st1 hQ1
  subst l1 y1 z1
  obtain ⟨rfl, N1q, e1q⟩ := hQ1
  have N1 := Fr.app N0 N1q
  refine Go.tr st1 ?_
  show Go p e below _ (T1.setTop (mkF m 4 #[.val (.ref a1), .val (.int p2)] [(.int (1 : Int32))]))
  have hin2 : ¬ ((1 : Int32).toInt < 0 ∨ (1 : Int32).toInt > 4) := by decide
  have hoff2 : (#[46, 58, 70, 82, 94] : Array Int)[((1 : Int32).toInt - 0).toNat]? = some 58 := by decide
  have hd2 : decode c.code 4 = .ok (.tableswitch 36 0 4 #[46, 58, 70, 82, 94], 36) := (hb hby d1_4)
  have st2 := fun t => XS.tswIn (tb := p.tables) (e := e) (below := below) (target := t) X1.here hx (g := (mkF m 4 #[.val (.ref a1), .val (.int p2)] [(.int (1 : Int32))])) rfl (pc0 := 4) (pc' := 62) (o := 58) rfl hd2 (i := (1 : Int32)) (rest := []) rfl hin2 hoff2 (by decide) (by decide)
  refine Go.via st2 ?_
  show Go p e below _ (T1.setTop (mkF m 62 #[.val (.ref a1), .val (.int p2)] []))
  refine Go.via (fun _ => XS.iloadN X1.here hx rfl (hb hby d1_62) rfl) ?_
  show Go p e below _ (T1.setTop (mkF m 63 #[.val (.ref a1), .val (.int p2)] [(.int p2)]))
  refine Go.via (fun _ => XS.ifNo X1.here hx rfl (hb hby d1_63) rfl ((if0 _ _).trans (flt hs2).2.2.1)) ?_
  show Go p e below _ (T1.setTop (mkF m 66 #[.val (.ref a1), .val (.int p2)] []))
  refine Go.via (fun _ => XS.iconst X1.here hx rfl (hb hby d1_66)) ?_
  show Go p e below _ (T1.setTop (mkF m 67 #[.val (.ref a1), .val (.int p2)] [(.int (1 : Int32))]))
  refine Go.via (fun _ => XS.goto X1.here hx rfl (pc0 := 67) (pc' := 107) rfl (hb hby d1_67) (by decide) (by decide)) ?_
  show Go p e below _ (T1.setTop (mkF m 107 #[.val (.ref a1), .val (.int p2)] [(.int (1 : Int32))]))
  exact own_retN X1 hx hlk (t := .boolean) Bd.returns (by simp) (hb hby d1_107) (by show Q1_10 Z a1 p2 h0 n0 _ T1.heap _; rw [e1q]; exact ⟨rfl, N1, rfl⟩) (by decide) (by decide)
theorem ef_rm1_11 (m : MethodId) (x0 : Addr) (x1 : Int32) : entryFrame m #[(.ref x0), (.int x1)] 2 = mkF m 0 #[.val (.ref x0), .val (.int x1)] [] := by first | (simp [entryFrame, mkF, argsToLocals, Value.category]; done) | rfl
def Q1_11 (Z : State) (a1 : Addr) (p2 : Int32) (h0 : Heap) (n0 : Nat) (v : Option Value) (h : Heap) (L : List Loc) : Prop := v = some (.int (1 : Int32)) ∧ Fr n0 L ∧ h = h0
set_option maxRecDepth 65536 in
set_option maxHeartbeats 40000000 in
theorem rm1_11 (l : Launch) (Z : State) (a0 : Array Value) (hw : ∀ d ∈ tables_1, d.before a0 Z = true) (ws : List Jvm.Cond) (a1 : Addr) (p2 : Int32) (h0 : Heap) (n0 : Nat) (Z0 : n0 ≤ h0.size) (E1 : Exa Z h0 a1 "com/example/permits_from_duties/permitsfromduties/PolicyDocument$Operator") (F1 : Fld Z h0 a1 "java/lang/Enum" "ordinal" "I" (.int (1 : Int32))) (hs0 : ¬ (p2 < (0 : Int32))) (hs1 : p2 = (0 : Int32)) (hs2 : ¬ ((0 : Int32) < p2)) :
    MetFree l (⟨"com/example/permits_from_duties/permitsfromduties/PolicyDocument$Operator", "test", "(I)Z"⟩ : MethodName) (head1 (Jvm.Cond.code (⟨"com/example/permits_from_duties/permitsfromduties/PolicyDocument$Operator", "test", "(I)Z"⟩ : MethodName) prog_68_method_4_code 2 (some .boolean) :: ws) ({ frames := 1, cells := 0, slots := 0, locals := 12 } : Room)) (fun a U => a = #[(.ref a1), (.int p2)] ∧ Z.Warmed39 U.vm ∧ U.heap = h0) (fun _ _ _ _ _ => True) (fun _ U o U' => ∃ v L, o = .returned v ∧ Q1_11 Z a1 p2 h0 n0 v U'.heap L ∧ FrameEnd U o U' L ({ frames := 1, cells := 0, slots := 0, locals := 12 } : Room).cells ({ frames := 1, cells := 0, slots := 0, locals := 12 } : Room).slots) := by
  refine MetFree.of_bodySF (plainFor_of_name pn_com_example_permits_from_duties_permitsfromduties_PolicyDocument_Operator) hisR ?_
  intro p e s m args below meth c s₁ Bd hml0 hP hK
  obtain ⟨rfl, hZ, hh⟩ := hP
  have hx := Bd.exec
  have hby := Bd.bytes
  have hlk : meth.locks = false := Bd.notSynchronized
  have hml : c.maxLocals = 2 := hml0
  have hown : s.vm.findClass "com/example/permits_from_duties/permitsfromduties/PolicyDocument$Operator" = some m.cls := findClass_of_methodNamed Bd.named
  have hnm := (name_of_methodNamed Bd.named Bd.method).1
  have X0 : Stand p l e ({ frames := 1, cells := 0, slots := 0, locals := 12 } : Room) s m #[(.ref a1), (.int p2)] below meth c s₁ [] 0 0 := Stand.of_body Bd
  have e0 : s₁.heap = h0 := by rw [← hh, Bd.state]; rfl
  have N0 := Fr.nil n0
  show Go p e below (FinE s below (Q1_11 Z a1 p2 h0 n0) ({ frames := 1, cells := 0, slots := 0, locals := 12 } : Room).cells ({ frames := 1, cells := 0, slots := 0, locals := 12 } : Room).slots) (s₁.setTop (entryFrame m #[(.ref a1), (.int p2)] 2))
  refine Go.via (fun t k => castTop (ef_rm1_11 m a1 p2) k) ?_
  show Go p e below _ (s₁.setTop (mkF m 0 #[.val (.ref a1), .val (.int p2)] []))
  refine Go.via (fun _ => XS.aloadN X0.here hx rfl (hb hby d1_0) rfl rfl) ?_
  show Go p e below _ (s₁.setTop (mkF m 1 #[.val (.ref a1), .val (.int p2)] [(.ref a1)]))
  obtain ⟨cq1, kq1, q1a, q1b, q1c⟩ := isOf hZ e0 E1
  obtain ⟨_, _, ⟨T1, L1, k1, n1⟩, -, X1, ⟨Lc1, hQ1, l1, y1, z1⟩, st1⟩ := X0.virtualBackUp hx (x := (⟨"com/example/permits_from_duties/permitsfromduties/PolicyDocument$Operator", "ordinal", "()I"⟩ : MethodName)) (y := (⟨"java/lang/Enum", "ordinal", "()I"⟩ : MethodName)) (owner := "java/lang/Enum") hown (mvT hZ (hw _ (List.mem_of_getElem? (i := 9) rfl))) (mvT hZ (hw _ (List.mem_of_getElem? (i := 10) rfl))) (mvT hZ (hw _ (List.mem_of_getElem? (i := 11) rfl))) (by decide) (mvT hZ (hw _ (List.mem_of_getElem? (i := 13) rfl))) (mvT hZ (hw _ (List.mem_of_getElem? (i := 12) rfl))) (backOf (W := 0) (rm2 l Z a0 hw [] a1 (1 : Int32) h0 n0 Z0 F1) hZ (hw _ (List.mem_of_getElem? (i := 15) rfl)) (hw _ (List.mem_of_getElem? (i := 14) rfl)) (by decide) (by decide)) q1a q1c (g := (mkF m 1 #[.val (.ref a1), .val (.int p2)] [(.ref a1)])) rfl (by rw [hml]; rfl) (Steps.refl _) (argsL := []) (rest := []) (lenOf pd_0 rfl) rfl (by show 2 * 0 + _ ≤ _; exact Nat.le_of_eq rfl) (hb hby d1_1) (fun _ _ => ⟨rfl, e0, (by decide : 0 + 0 ≤ _), (by decide : 0 + 0 ≤ _)⟩)
  dsimp only [Pt.U, Pt.locs, Pt.cells, Pt.slots] at X1 l1 y1 z1 st1 hQ1
  subst l1 y1 z1
  obtain ⟨rfl, N1q, e1q⟩ := hQ1
  have N1 := Fr.app N0 N1q
  refine Go.tr st1 ?_
  show Go p e below _ (T1.setTop (mkF m 4 #[.val (.ref a1), .val (.int p2)] [(.int (1 : Int32))]))
  have hin2 : ¬ ((1 : Int32).toInt < 0 ∨ (1 : Int32).toInt > 4) := by decide
  have hoff2 : (#[46, 58, 70, 82, 94] : Array Int)[((1 : Int32).toInt - 0).toNat]? = some 58 := by decide
  have hd2 : decode c.code 4 = .ok (.tableswitch 36 0 4 #[46, 58, 70, 82, 94], 36) := (hb hby d1_4)
  have st2 := fun t => XS.tswIn (tb := p.tables) (e := e) (below := below) (target := t) X1.here hx (g := (mkF m 4 #[.val (.ref a1), .val (.int p2)] [(.int (1 : Int32))])) rfl (pc0 := 4) (pc' := 62) (o := 58) rfl hd2 (i := (1 : Int32)) (rest := []) rfl hin2 hoff2 (by decide) (by decide)
  refine Go.via st2 ?_
  show Go p e below _ (T1.setTop (mkF m 62 #[.val (.ref a1), .val (.int p2)] []))
  refine Go.via (fun _ => XS.iloadN X1.here hx rfl (hb hby d1_62) rfl) ?_
  show Go p e below _ (T1.setTop (mkF m 63 #[.val (.ref a1), .val (.int p2)] [(.int p2)]))
  refine Go.via (fun _ => XS.ifNo X1.here hx rfl (hb hby d1_63) rfl ((if0 _ _).trans (flt hs2).2.2.1)) ?_
  show Go p e below _ (T1.setTop (mkF m 66 #[.val (.ref a1), .val (.int p2)] []))
  refine Go.via (fun _ => XS.iconst X1.here hx rfl (hb hby d1_66)) ?_
  show Go p e below _ (T1.setTop (mkF m 67 #[.val (.ref a1), .val (.int p2)] [(.int (1 : Int32))]))
  refine Go.via (fun _ => XS.goto X1.here hx rfl (pc0 := 67) (pc' := 107) rfl (hb hby d1_67) (by decide) (by decide)) ?_
  show Go p e below _ (T1.setTop (mkF m 107 #[.val (.ref a1), .val (.int p2)] [(.int (1 : Int32))]))
  exact own_retN X1 hx hlk (t := .boolean) Bd.returns (by simp) (hb hby d1_107) (by show Q1_11 Z a1 p2 h0 n0 _ T1.heap _; rw [e1q]; exact ⟨rfl, N1, rfl⟩) (by decide) (by decide)
theorem ef_rm1_12 (m : MethodId) (x0 : Addr) (x1 : Int32) : entryFrame m #[(.ref x0), (.int x1)] 2 = mkF m 0 #[.val (.ref x0), .val (.int x1)] [] := by first | (simp [entryFrame, mkF, argsToLocals, Value.category]; done) | rfl
def Q1_12 (Z : State) (a1 : Addr) (p2 : Int32) (h0 : Heap) (n0 : Nat) (v : Option Value) (h : Heap) (L : List Loc) : Prop := v = some (.int (0 : Int32)) ∧ Fr n0 L ∧ h = h0
set_option maxRecDepth 65536 in
set_option maxHeartbeats 40000000 in
theorem rm1_12 (l : Launch) (Z : State) (a0 : Array Value) (hw : ∀ d ∈ tables_1, d.before a0 Z = true) (ws : List Jvm.Cond) (a1 : Addr) (p2 : Int32) (h0 : Heap) (n0 : Nat) (Z0 : n0 ≤ h0.size) (E1 : Exa Z h0 a1 "com/example/permits_from_duties/permitsfromduties/PolicyDocument$Operator") (F1 : Fld Z h0 a1 "java/lang/Enum" "ordinal" "I" (.int (1 : Int32))) (hs0 : ¬ (p2 < (0 : Int32))) (hs1 : ¬ (p2 = (0 : Int32))) (hs2 : (0 : Int32) < p2) :
    MetFree l (⟨"com/example/permits_from_duties/permitsfromduties/PolicyDocument$Operator", "test", "(I)Z"⟩ : MethodName) (head1 (Jvm.Cond.code (⟨"com/example/permits_from_duties/permitsfromduties/PolicyDocument$Operator", "test", "(I)Z"⟩ : MethodName) prog_68_method_4_code 2 (some .boolean) :: ws) ({ frames := 1, cells := 0, slots := 0, locals := 12 } : Room)) (fun a U => a = #[(.ref a1), (.int p2)] ∧ Z.Warmed39 U.vm ∧ U.heap = h0) (fun _ _ _ _ _ => True) (fun _ U o U' => ∃ v L, o = .returned v ∧ Q1_12 Z a1 p2 h0 n0 v U'.heap L ∧ FrameEnd U o U' L ({ frames := 1, cells := 0, slots := 0, locals := 12 } : Room).cells ({ frames := 1, cells := 0, slots := 0, locals := 12 } : Room).slots) := by
  refine MetFree.of_bodySF (plainFor_of_name pn_com_example_permits_from_duties_permitsfromduties_PolicyDocument_Operator) hisR ?_
  intro p e s m args below meth c s₁ Bd hml0 hP hK
  obtain ⟨rfl, hZ, hh⟩ := hP
  have hx := Bd.exec
  have hby := Bd.bytes
  have hlk : meth.locks = false := Bd.notSynchronized
  have hml : c.maxLocals = 2 := hml0
  have hown : s.vm.findClass "com/example/permits_from_duties/permitsfromduties/PolicyDocument$Operator" = some m.cls := findClass_of_methodNamed Bd.named
  have hnm := (name_of_methodNamed Bd.named Bd.method).1
  have X0 : Stand p l e ({ frames := 1, cells := 0, slots := 0, locals := 12 } : Room) s m #[(.ref a1), (.int p2)] below meth c s₁ [] 0 0 := Stand.of_body Bd
  have e0 : s₁.heap = h0 := by rw [← hh, Bd.state]; rfl
  have N0 := Fr.nil n0
  show Go p e below (FinE s below (Q1_12 Z a1 p2 h0 n0) ({ frames := 1, cells := 0, slots := 0, locals := 12 } : Room).cells ({ frames := 1, cells := 0, slots := 0, locals := 12 } : Room).slots) (s₁.setTop (entryFrame m #[(.ref a1), (.int p2)] 2))
  refine Go.via (fun t k => castTop (ef_rm1_12 m a1 p2) k) ?_
  show Go p e below _ (s₁.setTop (mkF m 0 #[.val (.ref a1), .val (.int p2)] []))
  refine Go.via (fun _ => XS.aloadN X0.here hx rfl (hb hby d1_0) rfl rfl) ?_
  show Go p e below _ (s₁.setTop (mkF m 1 #[.val (.ref a1), .val (.int p2)] [(.ref a1)]))
  obtain ⟨cq1, kq1, q1a, q1b, q1c⟩ := isOf hZ e0 E1
  obtain ⟨_, _, ⟨T1, L1, k1, n1⟩, -, X1, ⟨Lc1, hQ1, l1, y1, z1⟩, st1⟩ := X0.virtualBackUp hx (x := (⟨"com/example/permits_from_duties/permitsfromduties/PolicyDocument$Operator", "ordinal", "()I"⟩ : MethodName)) (y := (⟨"java/lang/Enum", "ordinal", "()I"⟩ : MethodName)) (owner := "java/lang/Enum") hown (mvT hZ (hw _ (List.mem_of_getElem? (i := 9) rfl))) (mvT hZ (hw _ (List.mem_of_getElem? (i := 10) rfl))) (mvT hZ (hw _ (List.mem_of_getElem? (i := 11) rfl))) (by decide) (mvT hZ (hw _ (List.mem_of_getElem? (i := 13) rfl))) (mvT hZ (hw _ (List.mem_of_getElem? (i := 12) rfl))) (backOf (W := 0) (rm2 l Z a0 hw [] a1 (1 : Int32) h0 n0 Z0 F1) hZ (hw _ (List.mem_of_getElem? (i := 15) rfl)) (hw _ (List.mem_of_getElem? (i := 14) rfl)) (by decide) (by decide)) q1a q1c (g := (mkF m 1 #[.val (.ref a1), .val (.int p2)] [(.ref a1)])) rfl (by rw [hml]; rfl) (Steps.refl _) (argsL := []) (rest := []) (lenOf pd_0 rfl) rfl (by show 2 * 0 + _ ≤ _; exact Nat.le_of_eq rfl) (hb hby d1_1) (fun _ _ => ⟨rfl, e0, (by decide : 0 + 0 ≤ _), (by decide : 0 + 0 ≤ _)⟩)
  dsimp only [Pt.U, Pt.locs, Pt.cells, Pt.slots] at X1 l1 y1 z1 st1 hQ1
  subst l1 y1 z1
  obtain ⟨rfl, N1q, e1q⟩ := hQ1
  have N1 := Fr.app N0 N1q
  refine Go.tr st1 ?_
  show Go p e below _ (T1.setTop (mkF m 4 #[.val (.ref a1), .val (.int p2)] [(.int (1 : Int32))]))
  have hin2 : ¬ ((1 : Int32).toInt < 0 ∨ (1 : Int32).toInt > 4) := by decide
  have hoff2 : (#[46, 58, 70, 82, 94] : Array Int)[((1 : Int32).toInt - 0).toNat]? = some 58 := by decide
  have hd2 : decode c.code 4 = .ok (.tableswitch 36 0 4 #[46, 58, 70, 82, 94], 36) := (hb hby d1_4)
  have st2 := fun t => XS.tswIn (tb := p.tables) (e := e) (below := below) (target := t) X1.here hx (g := (mkF m 4 #[.val (.ref a1), .val (.int p2)] [(.int (1 : Int32))])) rfl (pc0 := 4) (pc' := 62) (o := 58) rfl hd2 (i := (1 : Int32)) (rest := []) rfl hin2 hoff2 (by decide) (by decide)
  refine Go.via st2 ?_
  show Go p e below _ (T1.setTop (mkF m 62 #[.val (.ref a1), .val (.int p2)] []))
  refine Go.via (fun _ => XS.iloadN X1.here hx rfl (hb hby d1_62) rfl) ?_
  show Go p e below _ (T1.setTop (mkF m 63 #[.val (.ref a1), .val (.int p2)] [(.int p2)]))
  refine Go.via (fun _ => XS.ifYes X1.here hx rfl (pc0 := 63) (pc' := 70) rfl (hb hby d1_63) rfl ((if0 _ _).trans (tlt hs2).2.2.1) (by decide) (by decide)) ?_
  show Go p e below _ (T1.setTop (mkF m 70 #[.val (.ref a1), .val (.int p2)] []))
  refine Go.via (fun _ => XS.iconst X1.here hx rfl (hb hby d1_70)) ?_
  show Go p e below _ (T1.setTop (mkF m 71 #[.val (.ref a1), .val (.int p2)] [(.int (0 : Int32))]))
  refine Go.via (fun _ => XS.goto X1.here hx rfl (pc0 := 71) (pc' := 107) rfl (hb hby d1_71) (by decide) (by decide)) ?_
  show Go p e below _ (T1.setTop (mkF m 107 #[.val (.ref a1), .val (.int p2)] [(.int (0 : Int32))]))
  exact own_retN X1 hx hlk (t := .boolean) Bd.returns (by simp) (hb hby d1_107) (by show Q1_12 Z a1 p2 h0 n0 _ T1.heap _; rw [e1q]; exact ⟨rfl, N1, rfl⟩) (by decide) (by decide)
theorem ef_rm1_20 (m : MethodId) (x0 : Addr) (x1 : Int32) : entryFrame m #[(.ref x0), (.int x1)] 2 = mkF m 0 #[.val (.ref x0), .val (.int x1)] [] := by first | (simp [entryFrame, mkF, argsToLocals, Value.category]; done) | rfl
def Q1_20 (Z : State) (a1 : Addr) (p2 : Int32) (h0 : Heap) (n0 : Nat) (v : Option Value) (h : Heap) (L : List Loc) : Prop := v = some (.int (0 : Int32)) ∧ Fr n0 L ∧ h = h0
set_option maxRecDepth 65536 in
set_option maxHeartbeats 40000000 in
theorem rm1_20 (l : Launch) (Z : State) (a0 : Array Value) (hw : ∀ d ∈ tables_1, d.before a0 Z = true) (ws : List Jvm.Cond) (a1 : Addr) (p2 : Int32) (h0 : Heap) (n0 : Nat) (Z0 : n0 ≤ h0.size) (E1 : Exa Z h0 a1 "com/example/permits_from_duties/permitsfromduties/PolicyDocument$Operator") (F1 : Fld Z h0 a1 "java/lang/Enum" "ordinal" "I" (.int (2 : Int32))) (hs0 : p2 < (0 : Int32)) (hs1 : ¬ (p2 = (0 : Int32))) (hs2 : ¬ ((0 : Int32) < p2)) :
    MetFree l (⟨"com/example/permits_from_duties/permitsfromduties/PolicyDocument$Operator", "test", "(I)Z"⟩ : MethodName) (head1 (Jvm.Cond.code (⟨"com/example/permits_from_duties/permitsfromduties/PolicyDocument$Operator", "test", "(I)Z"⟩ : MethodName) prog_68_method_4_code 2 (some .boolean) :: ws) ({ frames := 1, cells := 0, slots := 0, locals := 12 } : Room)) (fun a U => a = #[(.ref a1), (.int p2)] ∧ Z.Warmed39 U.vm ∧ U.heap = h0) (fun _ _ _ _ _ => True) (fun _ U o U' => ∃ v L, o = .returned v ∧ Q1_20 Z a1 p2 h0 n0 v U'.heap L ∧ FrameEnd U o U' L ({ frames := 1, cells := 0, slots := 0, locals := 12 } : Room).cells ({ frames := 1, cells := 0, slots := 0, locals := 12 } : Room).slots) := by
  refine MetFree.of_bodySF (plainFor_of_name pn_com_example_permits_from_duties_permitsfromduties_PolicyDocument_Operator) hisR ?_
  intro p e s m args below meth c s₁ Bd hml0 hP hK
  obtain ⟨rfl, hZ, hh⟩ := hP
  have hx := Bd.exec
  have hby := Bd.bytes
  have hlk : meth.locks = false := Bd.notSynchronized
  have hml : c.maxLocals = 2 := hml0
  have hown : s.vm.findClass "com/example/permits_from_duties/permitsfromduties/PolicyDocument$Operator" = some m.cls := findClass_of_methodNamed Bd.named
  have hnm := (name_of_methodNamed Bd.named Bd.method).1
  have X0 : Stand p l e ({ frames := 1, cells := 0, slots := 0, locals := 12 } : Room) s m #[(.ref a1), (.int p2)] below meth c s₁ [] 0 0 := Stand.of_body Bd
  have e0 : s₁.heap = h0 := by rw [← hh, Bd.state]; rfl
  have N0 := Fr.nil n0
  show Go p e below (FinE s below (Q1_20 Z a1 p2 h0 n0) ({ frames := 1, cells := 0, slots := 0, locals := 12 } : Room).cells ({ frames := 1, cells := 0, slots := 0, locals := 12 } : Room).slots) (s₁.setTop (entryFrame m #[(.ref a1), (.int p2)] 2))
  refine Go.via (fun t k => castTop (ef_rm1_20 m a1 p2) k) ?_
  show Go p e below _ (s₁.setTop (mkF m 0 #[.val (.ref a1), .val (.int p2)] []))
  refine Go.via (fun _ => XS.aloadN X0.here hx rfl (hb hby d1_0) rfl rfl) ?_
  show Go p e below _ (s₁.setTop (mkF m 1 #[.val (.ref a1), .val (.int p2)] [(.ref a1)]))
  obtain ⟨cq1, kq1, q1a, q1b, q1c⟩ := isOf hZ e0 E1
  obtain ⟨_, _, ⟨T1, L1, k1, n1⟩, -, X1, ⟨Lc1, hQ1, l1, y1, z1⟩, st1⟩ := X0.virtualBackUp hx (x := (⟨"com/example/permits_from_duties/permitsfromduties/PolicyDocument$Operator", "ordinal", "()I"⟩ : MethodName)) (y := (⟨"java/lang/Enum", "ordinal", "()I"⟩ : MethodName)) (owner := "java/lang/Enum") hown (mvT hZ (hw _ (List.mem_of_getElem? (i := 9) rfl))) (mvT hZ (hw _ (List.mem_of_getElem? (i := 10) rfl))) (mvT hZ (hw _ (List.mem_of_getElem? (i := 11) rfl))) (by decide) (mvT hZ (hw _ (List.mem_of_getElem? (i := 13) rfl))) (mvT hZ (hw _ (List.mem_of_getElem? (i := 12) rfl))) (backOf (W := 0) (rm2 l Z a0 hw [] a1 (2 : Int32) h0 n0 Z0 F1) hZ (hw _ (List.mem_of_getElem? (i := 15) rfl)) (hw _ (List.mem_of_getElem? (i := 14) rfl)) (by decide) (by decide)) q1a q1c (g := (mkF m 1 #[.val (.ref a1), .val (.int p2)] [(.ref a1)])) rfl (by rw [hml]; rfl) (Steps.refl _) (argsL := []) (rest := []) (lenOf pd_0 rfl) rfl (by show 2 * 0 + _ ≤ _; exact Nat.le_of_eq rfl) (hb hby d1_1) (fun _ _ => ⟨rfl, e0, (by decide : 0 + 0 ≤ _), (by decide : 0 + 0 ≤ _)⟩)
  dsimp only [Pt.U, Pt.locs, Pt.cells, Pt.slots] at X1 l1 y1 z1 st1 hQ1
  subst l1 y1 z1
  obtain ⟨rfl, N1q, e1q⟩ := hQ1
  have N1 := Fr.app N0 N1q
  refine Go.tr st1 ?_
  show Go p e below _ (T1.setTop (mkF m 4 #[.val (.ref a1), .val (.int p2)] [(.int (2 : Int32))]))
  have hin2 : ¬ ((2 : Int32).toInt < 0 ∨ (2 : Int32).toInt > 4) := by decide
  have hoff2 : (#[46, 58, 70, 82, 94] : Array Int)[((2 : Int32).toInt - 0).toNat]? = some 70 := by decide
  have hd2 : decode c.code 4 = .ok (.tableswitch 36 0 4 #[46, 58, 70, 82, 94], 36) := (hb hby d1_4)
  have st2 := fun t => XS.tswIn (tb := p.tables) (e := e) (below := below) (target := t) X1.here hx (g := (mkF m 4 #[.val (.ref a1), .val (.int p2)] [(.int (2 : Int32))])) rfl (pc0 := 4) (pc' := 74) (o := 70) rfl hd2 (i := (2 : Int32)) (rest := []) rfl hin2 hoff2 (by decide) (by decide)
  refine Go.via st2 ?_
  show Go p e below _ (T1.setTop (mkF m 74 #[.val (.ref a1), .val (.int p2)] []))
  refine Go.via (fun _ => XS.iloadN X1.here hx rfl (hb hby d1_74) rfl) ?_
  show Go p e below _ (T1.setTop (mkF m 75 #[.val (.ref a1), .val (.int p2)] [(.int p2)]))
  refine Go.via (fun _ => XS.ifYes X1.here hx rfl (pc0 := 75) (pc' := 82) rfl (hb hby d1_75) rfl ((if0 _ _).trans (feq hs1).2) (by decide) (by decide)) ?_
  show Go p e below _ (T1.setTop (mkF m 82 #[.val (.ref a1), .val (.int p2)] []))
  refine Go.via (fun _ => XS.iconst X1.here hx rfl (hb hby d1_82)) ?_
  show Go p e below _ (T1.setTop (mkF m 83 #[.val (.ref a1), .val (.int p2)] [(.int (0 : Int32))]))
  refine Go.via (fun _ => XS.goto X1.here hx rfl (pc0 := 83) (pc' := 107) rfl (hb hby d1_83) (by decide) (by decide)) ?_
  show Go p e below _ (T1.setTop (mkF m 107 #[.val (.ref a1), .val (.int p2)] [(.int (0 : Int32))]))
  exact own_retN X1 hx hlk (t := .boolean) Bd.returns (by simp) (hb hby d1_107) (by show Q1_20 Z a1 p2 h0 n0 _ T1.heap _; rw [e1q]; exact ⟨rfl, N1, rfl⟩) (by decide) (by decide)
theorem ef_rm1_21 (m : MethodId) (x0 : Addr) (x1 : Int32) : entryFrame m #[(.ref x0), (.int x1)] 2 = mkF m 0 #[.val (.ref x0), .val (.int x1)] [] := by first | (simp [entryFrame, mkF, argsToLocals, Value.category]; done) | rfl
def Q1_21 (Z : State) (a1 : Addr) (p2 : Int32) (h0 : Heap) (n0 : Nat) (v : Option Value) (h : Heap) (L : List Loc) : Prop := v = some (.int (1 : Int32)) ∧ Fr n0 L ∧ h = h0
set_option maxRecDepth 65536 in
set_option maxHeartbeats 40000000 in
theorem rm1_21 (l : Launch) (Z : State) (a0 : Array Value) (hw : ∀ d ∈ tables_1, d.before a0 Z = true) (ws : List Jvm.Cond) (a1 : Addr) (p2 : Int32) (h0 : Heap) (n0 : Nat) (Z0 : n0 ≤ h0.size) (E1 : Exa Z h0 a1 "com/example/permits_from_duties/permitsfromduties/PolicyDocument$Operator") (F1 : Fld Z h0 a1 "java/lang/Enum" "ordinal" "I" (.int (2 : Int32))) (hs0 : ¬ (p2 < (0 : Int32))) (hs1 : p2 = (0 : Int32)) (hs2 : ¬ ((0 : Int32) < p2)) :
    MetFree l (⟨"com/example/permits_from_duties/permitsfromduties/PolicyDocument$Operator", "test", "(I)Z"⟩ : MethodName) (head1 (Jvm.Cond.code (⟨"com/example/permits_from_duties/permitsfromduties/PolicyDocument$Operator", "test", "(I)Z"⟩ : MethodName) prog_68_method_4_code 2 (some .boolean) :: ws) ({ frames := 1, cells := 0, slots := 0, locals := 12 } : Room)) (fun a U => a = #[(.ref a1), (.int p2)] ∧ Z.Warmed39 U.vm ∧ U.heap = h0) (fun _ _ _ _ _ => True) (fun _ U o U' => ∃ v L, o = .returned v ∧ Q1_21 Z a1 p2 h0 n0 v U'.heap L ∧ FrameEnd U o U' L ({ frames := 1, cells := 0, slots := 0, locals := 12 } : Room).cells ({ frames := 1, cells := 0, slots := 0, locals := 12 } : Room).slots) := by
  refine MetFree.of_bodySF (plainFor_of_name pn_com_example_permits_from_duties_permitsfromduties_PolicyDocument_Operator) hisR ?_
  intro p e s m args below meth c s₁ Bd hml0 hP hK
  obtain ⟨rfl, hZ, hh⟩ := hP
  have hx := Bd.exec
  have hby := Bd.bytes
  have hlk : meth.locks = false := Bd.notSynchronized
  have hml : c.maxLocals = 2 := hml0
  have hown : s.vm.findClass "com/example/permits_from_duties/permitsfromduties/PolicyDocument$Operator" = some m.cls := findClass_of_methodNamed Bd.named
  have hnm := (name_of_methodNamed Bd.named Bd.method).1
  have X0 : Stand p l e ({ frames := 1, cells := 0, slots := 0, locals := 12 } : Room) s m #[(.ref a1), (.int p2)] below meth c s₁ [] 0 0 := Stand.of_body Bd
  have e0 : s₁.heap = h0 := by rw [← hh, Bd.state]; rfl
  have N0 := Fr.nil n0
  show Go p e below (FinE s below (Q1_21 Z a1 p2 h0 n0) ({ frames := 1, cells := 0, slots := 0, locals := 12 } : Room).cells ({ frames := 1, cells := 0, slots := 0, locals := 12 } : Room).slots) (s₁.setTop (entryFrame m #[(.ref a1), (.int p2)] 2))
  refine Go.via (fun t k => castTop (ef_rm1_21 m a1 p2) k) ?_
  show Go p e below _ (s₁.setTop (mkF m 0 #[.val (.ref a1), .val (.int p2)] []))
  refine Go.via (fun _ => XS.aloadN X0.here hx rfl (hb hby d1_0) rfl rfl) ?_
  show Go p e below _ (s₁.setTop (mkF m 1 #[.val (.ref a1), .val (.int p2)] [(.ref a1)]))
  obtain ⟨cq1, kq1, q1a, q1b, q1c⟩ := isOf hZ e0 E1
  obtain ⟨_, _, ⟨T1, L1, k1, n1⟩, -, X1, ⟨Lc1, hQ1, l1, y1, z1⟩, st1⟩ := X0.virtualBackUp hx (x := (⟨"com/example/permits_from_duties/permitsfromduties/PolicyDocument$Operator", "ordinal", "()I"⟩ : MethodName)) (y := (⟨"java/lang/Enum", "ordinal", "()I"⟩ : MethodName)) (owner := "java/lang/Enum") hown (mvT hZ (hw _ (List.mem_of_getElem? (i := 9) rfl))) (mvT hZ (hw _ (List.mem_of_getElem? (i := 10) rfl))) (mvT hZ (hw _ (List.mem_of_getElem? (i := 11) rfl))) (by decide) (mvT hZ (hw _ (List.mem_of_getElem? (i := 13) rfl))) (mvT hZ (hw _ (List.mem_of_getElem? (i := 12) rfl))) (backOf (W := 0) (rm2 l Z a0 hw [] a1 (2 : Int32) h0 n0 Z0 F1) hZ (hw _ (List.mem_of_getElem? (i := 15) rfl)) (hw _ (List.mem_of_getElem? (i := 14) rfl)) (by decide) (by decide)) q1a q1c (g := (mkF m 1 #[.val (.ref a1), .val (.int p2)] [(.ref a1)])) rfl (by rw [hml]; rfl) (Steps.refl _) (argsL := []) (rest := []) (lenOf pd_0 rfl) rfl (by show 2 * 0 + _ ≤ _; exact Nat.le_of_eq rfl) (hb hby d1_1) (fun _ _ => ⟨rfl, e0, (by decide : 0 + 0 ≤ _), (by decide : 0 + 0 ≤ _)⟩)
  dsimp only [Pt.U, Pt.locs, Pt.cells, Pt.slots] at X1 l1 y1 z1 st1 hQ1
  subst l1 y1 z1
  obtain ⟨rfl, N1q, e1q⟩ := hQ1
  have N1 := Fr.app N0 N1q
  refine Go.tr st1 ?_
  show Go p e below _ (T1.setTop (mkF m 4 #[.val (.ref a1), .val (.int p2)] [(.int (2 : Int32))]))
  have hin2 : ¬ ((2 : Int32).toInt < 0 ∨ (2 : Int32).toInt > 4) := by decide
  have hoff2 : (#[46, 58, 70, 82, 94] : Array Int)[((2 : Int32).toInt - 0).toNat]? = some 70 := by decide
  have hd2 : decode c.code 4 = .ok (.tableswitch 36 0 4 #[46, 58, 70, 82, 94], 36) := (hb hby d1_4)
  have st2 := fun t => XS.tswIn (tb := p.tables) (e := e) (below := below) (target := t) X1.here hx (g := (mkF m 4 #[.val (.ref a1), .val (.int p2)] [(.int (2 : Int32))])) rfl (pc0 := 4) (pc' := 74) (o := 70) rfl hd2 (i := (2 : Int32)) (rest := []) rfl hin2 hoff2 (by decide) (by decide)
  refine Go.via st2 ?_
  show Go p e below _ (T1.setTop (mkF m 74 #[.val (.ref a1), .val (.int p2)] []))
  refine Go.via (fun _ => XS.iloadN X1.here hx rfl (hb hby d1_74) rfl) ?_
  show Go p e below _ (T1.setTop (mkF m 75 #[.val (.ref a1), .val (.int p2)] [(.int p2)]))
  refine Go.via (fun _ => XS.ifNo X1.here hx rfl (hb hby d1_75) rfl ((if0 _ _).trans (teq hs1).2)) ?_
  show Go p e below _ (T1.setTop (mkF m 78 #[.val (.ref a1), .val (.int p2)] []))
  refine Go.via (fun _ => XS.iconst X1.here hx rfl (hb hby d1_78)) ?_
  show Go p e below _ (T1.setTop (mkF m 79 #[.val (.ref a1), .val (.int p2)] [(.int (1 : Int32))]))
  refine Go.via (fun _ => XS.goto X1.here hx rfl (pc0 := 79) (pc' := 107) rfl (hb hby d1_79) (by decide) (by decide)) ?_
  show Go p e below _ (T1.setTop (mkF m 107 #[.val (.ref a1), .val (.int p2)] [(.int (1 : Int32))]))
  exact own_retN X1 hx hlk (t := .boolean) Bd.returns (by simp) (hb hby d1_107) (by show Q1_21 Z a1 p2 h0 n0 _ T1.heap _; rw [e1q]; exact ⟨rfl, N1, rfl⟩) (by decide) (by decide)
theorem ef_rm1_22 (m : MethodId) (x0 : Addr) (x1 : Int32) : entryFrame m #[(.ref x0), (.int x1)] 2 = mkF m 0 #[.val (.ref x0), .val (.int x1)] [] := by first | (simp [entryFrame, mkF, argsToLocals, Value.category]; done) | rfl
def Q1_22 (Z : State) (a1 : Addr) (p2 : Int32) (h0 : Heap) (n0 : Nat) (v : Option Value) (h : Heap) (L : List Loc) : Prop := v = some (.int (0 : Int32)) ∧ Fr n0 L ∧ h = h0
set_option maxRecDepth 65536 in
set_option maxHeartbeats 40000000 in
theorem rm1_22 (l : Launch) (Z : State) (a0 : Array Value) (hw : ∀ d ∈ tables_1, d.before a0 Z = true) (ws : List Jvm.Cond) (a1 : Addr) (p2 : Int32) (h0 : Heap) (n0 : Nat) (Z0 : n0 ≤ h0.size) (E1 : Exa Z h0 a1 "com/example/permits_from_duties/permitsfromduties/PolicyDocument$Operator") (F1 : Fld Z h0 a1 "java/lang/Enum" "ordinal" "I" (.int (2 : Int32))) (hs0 : ¬ (p2 < (0 : Int32))) (hs1 : ¬ (p2 = (0 : Int32))) (hs2 : (0 : Int32) < p2) :
    MetFree l (⟨"com/example/permits_from_duties/permitsfromduties/PolicyDocument$Operator", "test", "(I)Z"⟩ : MethodName) (head1 (Jvm.Cond.code (⟨"com/example/permits_from_duties/permitsfromduties/PolicyDocument$Operator", "test", "(I)Z"⟩ : MethodName) prog_68_method_4_code 2 (some .boolean) :: ws) ({ frames := 1, cells := 0, slots := 0, locals := 12 } : Room)) (fun a U => a = #[(.ref a1), (.int p2)] ∧ Z.Warmed39 U.vm ∧ U.heap = h0) (fun _ _ _ _ _ => True) (fun _ U o U' => ∃ v L, o = .returned v ∧ Q1_22 Z a1 p2 h0 n0 v U'.heap L ∧ FrameEnd U o U' L ({ frames := 1, cells := 0, slots := 0, locals := 12 } : Room).cells ({ frames := 1, cells := 0, slots := 0, locals := 12 } : Room).slots) := by
  refine MetFree.of_bodySF (plainFor_of_name pn_com_example_permits_from_duties_permitsfromduties_PolicyDocument_Operator) hisR ?_
  intro p e s m args below meth c s₁ Bd hml0 hP hK
  obtain ⟨rfl, hZ, hh⟩ := hP
  have hx := Bd.exec
  have hby := Bd.bytes
  have hlk : meth.locks = false := Bd.notSynchronized
  have hml : c.maxLocals = 2 := hml0
  have hown : s.vm.findClass "com/example/permits_from_duties/permitsfromduties/PolicyDocument$Operator" = some m.cls := findClass_of_methodNamed Bd.named
  have hnm := (name_of_methodNamed Bd.named Bd.method).1
  have X0 : Stand p l e ({ frames := 1, cells := 0, slots := 0, locals := 12 } : Room) s m #[(.ref a1), (.int p2)] below meth c s₁ [] 0 0 := Stand.of_body Bd
  have e0 : s₁.heap = h0 := by rw [← hh, Bd.state]; rfl
  have N0 := Fr.nil n0
  show Go p e below (FinE s below (Q1_22 Z a1 p2 h0 n0) ({ frames := 1, cells := 0, slots := 0, locals := 12 } : Room).cells ({ frames := 1, cells := 0, slots := 0, locals := 12 } : Room).slots) (s₁.setTop (entryFrame m #[(.ref a1), (.int p2)] 2))
  refine Go.via (fun t k => castTop (ef_rm1_22 m a1 p2) k) ?_
  show Go p e below _ (s₁.setTop (mkF m 0 #[.val (.ref a1), .val (.int p2)] []))
  refine Go.via (fun _ => XS.aloadN X0.here hx rfl (hb hby d1_0) rfl rfl) ?_
  show Go p e below _ (s₁.setTop (mkF m 1 #[.val (.ref a1), .val (.int p2)] [(.ref a1)]))
  obtain ⟨cq1, kq1, q1a, q1b, q1c⟩ := isOf hZ e0 E1
  obtain ⟨_, _, ⟨T1, L1, k1, n1⟩, -, X1, ⟨Lc1, hQ1, l1, y1, z1⟩, st1⟩ := X0.virtualBackUp hx (x := (⟨"com/example/permits_from_duties/permitsfromduties/PolicyDocument$Operator", "ordinal", "()I"⟩ : MethodName)) (y := (⟨"java/lang/Enum", "ordinal", "()I"⟩ : MethodName)) (owner := "java/lang/Enum") hown (mvT hZ (hw _ (List.mem_of_getElem? (i := 9) rfl))) (mvT hZ (hw _ (List.mem_of_getElem? (i := 10) rfl))) (mvT hZ (hw _ (List.mem_of_getElem? (i := 11) rfl))) (by decide) (mvT hZ (hw _ (List.mem_of_getElem? (i := 13) rfl))) (mvT hZ (hw _ (List.mem_of_getElem? (i := 12) rfl))) (backOf (W := 0) (rm2 l Z a0 hw [] a1 (2 : Int32) h0 n0 Z0 F1) hZ (hw _ (List.mem_of_getElem? (i := 15) rfl)) (hw _ (List.mem_of_getElem? (i := 14) rfl)) (by decide) (by decide)) q1a q1c (g := (mkF m 1 #[.val (.ref a1), .val (.int p2)] [(.ref a1)])) rfl (by rw [hml]; rfl) (Steps.refl _) (argsL := []) (rest := []) (lenOf pd_0 rfl) rfl (by show 2 * 0 + _ ≤ _; exact Nat.le_of_eq rfl) (hb hby d1_1) (fun _ _ => ⟨rfl, e0, (by decide : 0 + 0 ≤ _), (by decide : 0 + 0 ≤ _)⟩)
  dsimp only [Pt.U, Pt.locs, Pt.cells, Pt.slots] at X1 l1 y1 z1 st1 hQ1
  subst l1 y1 z1
  obtain ⟨rfl, N1q, e1q⟩ := hQ1
  have N1 := Fr.app N0 N1q
  refine Go.tr st1 ?_
  show Go p e below _ (T1.setTop (mkF m 4 #[.val (.ref a1), .val (.int p2)] [(.int (2 : Int32))]))
  have hin2 : ¬ ((2 : Int32).toInt < 0 ∨ (2 : Int32).toInt > 4) := by decide
  have hoff2 : (#[46, 58, 70, 82, 94] : Array Int)[((2 : Int32).toInt - 0).toNat]? = some 70 := by decide
  have hd2 : decode c.code 4 = .ok (.tableswitch 36 0 4 #[46, 58, 70, 82, 94], 36) := (hb hby d1_4)
  have st2 := fun t => XS.tswIn (tb := p.tables) (e := e) (below := below) (target := t) X1.here hx (g := (mkF m 4 #[.val (.ref a1), .val (.int p2)] [(.int (2 : Int32))])) rfl (pc0 := 4) (pc' := 74) (o := 70) rfl hd2 (i := (2 : Int32)) (rest := []) rfl hin2 hoff2 (by decide) (by decide)
  refine Go.via st2 ?_
  show Go p e below _ (T1.setTop (mkF m 74 #[.val (.ref a1), .val (.int p2)] []))
  refine Go.via (fun _ => XS.iloadN X1.here hx rfl (hb hby d1_74) rfl) ?_
  show Go p e below _ (T1.setTop (mkF m 75 #[.val (.ref a1), .val (.int p2)] [(.int p2)]))
  refine Go.via (fun _ => XS.ifYes X1.here hx rfl (pc0 := 75) (pc' := 82) rfl (hb hby d1_75) rfl ((if0 _ _).trans (feq hs1).2) (by decide) (by decide)) ?_
  show Go p e below _ (T1.setTop (mkF m 82 #[.val (.ref a1), .val (.int p2)] []))
  refine Go.via (fun _ => XS.iconst X1.here hx rfl (hb hby d1_82)) ?_
  show Go p e below _ (T1.setTop (mkF m 83 #[.val (.ref a1), .val (.int p2)] [(.int (0 : Int32))]))
  refine Go.via (fun _ => XS.goto X1.here hx rfl (pc0 := 83) (pc' := 107) rfl (hb hby d1_83) (by decide) (by decide)) ?_
  show Go p e below _ (T1.setTop (mkF m 107 #[.val (.ref a1), .val (.int p2)] [(.int (0 : Int32))]))
  exact own_retN X1 hx hlk (t := .boolean) Bd.returns (by simp) (hb hby d1_107) (by show Q1_22 Z a1 p2 h0 n0 _ T1.heap _; rw [e1q]; exact ⟨rfl, N1, rfl⟩) (by decide) (by decide)
theorem ef_rm1_30 (m : MethodId) (x0 : Addr) (x1 : Int32) : entryFrame m #[(.ref x0), (.int x1)] 2 = mkF m 0 #[.val (.ref x0), .val (.int x1)] [] := by first | (simp [entryFrame, mkF, argsToLocals, Value.category]; done) | rfl
def Q1_30 (Z : State) (a1 : Addr) (p2 : Int32) (h0 : Heap) (n0 : Nat) (v : Option Value) (h : Heap) (L : List Loc) : Prop := v = some (.int (0 : Int32)) ∧ Fr n0 L ∧ h = h0
set_option maxRecDepth 65536 in
set_option maxHeartbeats 40000000 in
theorem rm1_30 (l : Launch) (Z : State) (a0 : Array Value) (hw : ∀ d ∈ tables_1, d.before a0 Z = true) (ws : List Jvm.Cond) (a1 : Addr) (p2 : Int32) (h0 : Heap) (n0 : Nat) (Z0 : n0 ≤ h0.size) (E1 : Exa Z h0 a1 "com/example/permits_from_duties/permitsfromduties/PolicyDocument$Operator") (F1 : Fld Z h0 a1 "java/lang/Enum" "ordinal" "I" (.int (3 : Int32))) (hs0 : p2 < (0 : Int32)) (hs1 : ¬ (p2 = (0 : Int32))) (hs2 : ¬ ((0 : Int32) < p2)) :
    MetFree l (⟨"com/example/permits_from_duties/permitsfromduties/PolicyDocument$Operator", "test", "(I)Z"⟩ : MethodName) (head1 (Jvm.Cond.code (⟨"com/example/permits_from_duties/permitsfromduties/PolicyDocument$Operator", "test", "(I)Z"⟩ : MethodName) prog_68_method_4_code 2 (some .boolean) :: ws) ({ frames := 1, cells := 0, slots := 0, locals := 12 } : Room)) (fun a U => a = #[(.ref a1), (.int p2)] ∧ Z.Warmed39 U.vm ∧ U.heap = h0) (fun _ _ _ _ _ => True) (fun _ U o U' => ∃ v L, o = .returned v ∧ Q1_30 Z a1 p2 h0 n0 v U'.heap L ∧ FrameEnd U o U' L ({ frames := 1, cells := 0, slots := 0, locals := 12 } : Room).cells ({ frames := 1, cells := 0, slots := 0, locals := 12 } : Room).slots) := by
  refine MetFree.of_bodySF (plainFor_of_name pn_com_example_permits_from_duties_permitsfromduties_PolicyDocument_Operator) hisR ?_
  intro p e s m args below meth c s₁ Bd hml0 hP hK
  obtain ⟨rfl, hZ, hh⟩ := hP
  have hx := Bd.exec
  have hby := Bd.bytes
  have hlk : meth.locks = false := Bd.notSynchronized
  have hml : c.maxLocals = 2 := hml0
  have hown : s.vm.findClass "com/example/permits_from_duties/permitsfromduties/PolicyDocument$Operator" = some m.cls := findClass_of_methodNamed Bd.named
  have hnm := (name_of_methodNamed Bd.named Bd.method).1
  have X0 : Stand p l e ({ frames := 1, cells := 0, slots := 0, locals := 12 } : Room) s m #[(.ref a1), (.int p2)] below meth c s₁ [] 0 0 := Stand.of_body Bd
  have e0 : s₁.heap = h0 := by rw [← hh, Bd.state]; rfl
  have N0 := Fr.nil n0
  show Go p e below (FinE s below (Q1_30 Z a1 p2 h0 n0) ({ frames := 1, cells := 0, slots := 0, locals := 12 } : Room).cells ({ frames := 1, cells := 0, slots := 0, locals := 12 } : Room).slots) (s₁.setTop (entryFrame m #[(.ref a1), (.int p2)] 2))
  refine Go.via (fun t k => castTop (ef_rm1_30 m a1 p2) k) ?_
  show Go p e below _ (s₁.setTop (mkF m 0 #[.val (.ref a1), .val (.int p2)] []))
  refine Go.via (fun _ => XS.aloadN X0.here hx rfl (hb hby d1_0) rfl rfl) ?_
  show Go p e below _ (s₁.setTop (mkF m 1 #[.val (.ref a1), .val (.int p2)] [(.ref a1)]))
  obtain ⟨cq1, kq1, q1a, q1b, q1c⟩ := isOf hZ e0 E1
  obtain ⟨_, _, ⟨T1, L1, k1, n1⟩, -, X1, ⟨Lc1, hQ1, l1, y1, z1⟩, st1⟩ := X0.virtualBackUp hx (x := (⟨"com/example/permits_from_duties/permitsfromduties/PolicyDocument$Operator", "ordinal", "()I"⟩ : MethodName)) (y := (⟨"java/lang/Enum", "ordinal", "()I"⟩ : MethodName)) (owner := "java/lang/Enum") hown (mvT hZ (hw _ (List.mem_of_getElem? (i := 9) rfl))) (mvT hZ (hw _ (List.mem_of_getElem? (i := 10) rfl))) (mvT hZ (hw _ (List.mem_of_getElem? (i := 11) rfl))) (by decide) (mvT hZ (hw _ (List.mem_of_getElem? (i := 13) rfl))) (mvT hZ (hw _ (List.mem_of_getElem? (i := 12) rfl))) (backOf (W := 0) (rm2 l Z a0 hw [] a1 (3 : Int32) h0 n0 Z0 F1) hZ (hw _ (List.mem_of_getElem? (i := 15) rfl)) (hw _ (List.mem_of_getElem? (i := 14) rfl)) (by decide) (by decide)) q1a q1c (g := (mkF m 1 #[.val (.ref a1), .val (.int p2)] [(.ref a1)])) rfl (by rw [hml]; rfl) (Steps.refl _) (argsL := []) (rest := []) (lenOf pd_0 rfl) rfl (by show 2 * 0 + _ ≤ _; exact Nat.le_of_eq rfl) (hb hby d1_1) (fun _ _ => ⟨rfl, e0, (by decide : 0 + 0 ≤ _), (by decide : 0 + 0 ≤ _)⟩)
  dsimp only [Pt.U, Pt.locs, Pt.cells, Pt.slots] at X1 l1 y1 z1 st1 hQ1
  subst l1 y1 z1
  obtain ⟨rfl, N1q, e1q⟩ := hQ1
  have N1 := Fr.app N0 N1q
  refine Go.tr st1 ?_
  show Go p e below _ (T1.setTop (mkF m 4 #[.val (.ref a1), .val (.int p2)] [(.int (3 : Int32))]))
  have hin2 : ¬ ((3 : Int32).toInt < 0 ∨ (3 : Int32).toInt > 4) := by decide
  have hoff2 : (#[46, 58, 70, 82, 94] : Array Int)[((3 : Int32).toInt - 0).toNat]? = some 82 := by decide
  have hd2 : decode c.code 4 = .ok (.tableswitch 36 0 4 #[46, 58, 70, 82, 94], 36) := (hb hby d1_4)
  have st2 := fun t => XS.tswIn (tb := p.tables) (e := e) (below := below) (target := t) X1.here hx (g := (mkF m 4 #[.val (.ref a1), .val (.int p2)] [(.int (3 : Int32))])) rfl (pc0 := 4) (pc' := 86) (o := 82) rfl hd2 (i := (3 : Int32)) (rest := []) rfl hin2 hoff2 (by decide) (by decide)
  refine Go.via st2 ?_
  show Go p e below _ (T1.setTop (mkF m 86 #[.val (.ref a1), .val (.int p2)] []))
  refine Go.via (fun _ => XS.iloadN X1.here hx rfl (hb hby d1_86) rfl) ?_
  show Go p e below _ (T1.setTop (mkF m 87 #[.val (.ref a1), .val (.int p2)] [(.int p2)]))
  refine Go.via (fun _ => XS.ifYes X1.here hx rfl (pc0 := 87) (pc' := 94) rfl (hb hby d1_87) rfl ((if0 _ _).trans (tlt hs0).1) (by decide) (by decide)) ?_
  show Go p e below _ (T1.setTop (mkF m 94 #[.val (.ref a1), .val (.int p2)] []))
  refine Go.via (fun _ => XS.iconst X1.here hx rfl (hb hby d1_94)) ?_
  show Go p e below _ (T1.setTop (mkF m 95 #[.val (.ref a1), .val (.int p2)] [(.int (0 : Int32))]))
  refine Go.via (fun _ => XS.goto X1.here hx rfl (pc0 := 95) (pc' := 107) rfl (hb hby d1_95) (by decide) (by decide)) ?_
  show Go p e below _ (T1.setTop (mkF m 107 #[.val (.ref a1), .val (.int p2)] [(.int (0 : Int32))]))
  exact own_retN X1 hx hlk (t := .boolean) Bd.returns (by simp) (hb hby d1_107) (by show Q1_30 Z a1 p2 h0 n0 _ T1.heap _; rw [e1q]; exact ⟨rfl, N1, rfl⟩) (by decide) (by decide)
theorem ef_rm1_31 (m : MethodId) (x0 : Addr) (x1 : Int32) : entryFrame m #[(.ref x0), (.int x1)] 2 = mkF m 0 #[.val (.ref x0), .val (.int x1)] [] := by first | (simp [entryFrame, mkF, argsToLocals, Value.category]; done) | rfl
def Q1_31 (Z : State) (a1 : Addr) (p2 : Int32) (h0 : Heap) (n0 : Nat) (v : Option Value) (h : Heap) (L : List Loc) : Prop := v = some (.int (1 : Int32)) ∧ Fr n0 L ∧ h = h0
set_option maxRecDepth 65536 in
set_option maxHeartbeats 40000000 in
theorem rm1_31 (l : Launch) (Z : State) (a0 : Array Value) (hw : ∀ d ∈ tables_1, d.before a0 Z = true) (ws : List Jvm.Cond) (a1 : Addr) (p2 : Int32) (h0 : Heap) (n0 : Nat) (Z0 : n0 ≤ h0.size) (E1 : Exa Z h0 a1 "com/example/permits_from_duties/permitsfromduties/PolicyDocument$Operator") (F1 : Fld Z h0 a1 "java/lang/Enum" "ordinal" "I" (.int (3 : Int32))) (hs0 : ¬ (p2 < (0 : Int32))) (hs1 : p2 = (0 : Int32)) (hs2 : ¬ ((0 : Int32) < p2)) :
    MetFree l (⟨"com/example/permits_from_duties/permitsfromduties/PolicyDocument$Operator", "test", "(I)Z"⟩ : MethodName) (head1 (Jvm.Cond.code (⟨"com/example/permits_from_duties/permitsfromduties/PolicyDocument$Operator", "test", "(I)Z"⟩ : MethodName) prog_68_method_4_code 2 (some .boolean) :: ws) ({ frames := 1, cells := 0, slots := 0, locals := 12 } : Room)) (fun a U => a = #[(.ref a1), (.int p2)] ∧ Z.Warmed39 U.vm ∧ U.heap = h0) (fun _ _ _ _ _ => True) (fun _ U o U' => ∃ v L, o = .returned v ∧ Q1_31 Z a1 p2 h0 n0 v U'.heap L ∧ FrameEnd U o U' L ({ frames := 1, cells := 0, slots := 0, locals := 12 } : Room).cells ({ frames := 1, cells := 0, slots := 0, locals := 12 } : Room).slots) := by
  refine MetFree.of_bodySF (plainFor_of_name pn_com_example_permits_from_duties_permitsfromduties_PolicyDocument_Operator) hisR ?_
  intro p e s m args below meth c s₁ Bd hml0 hP hK
  obtain ⟨rfl, hZ, hh⟩ := hP
  have hx := Bd.exec
  have hby := Bd.bytes
  have hlk : meth.locks = false := Bd.notSynchronized
  have hml : c.maxLocals = 2 := hml0
  have hown : s.vm.findClass "com/example/permits_from_duties/permitsfromduties/PolicyDocument$Operator" = some m.cls := findClass_of_methodNamed Bd.named
  have hnm := (name_of_methodNamed Bd.named Bd.method).1
  have X0 : Stand p l e ({ frames := 1, cells := 0, slots := 0, locals := 12 } : Room) s m #[(.ref a1), (.int p2)] below meth c s₁ [] 0 0 := Stand.of_body Bd
  have e0 : s₁.heap = h0 := by rw [← hh, Bd.state]; rfl
  have N0 := Fr.nil n0
  show Go p e below (FinE s below (Q1_31 Z a1 p2 h0 n0) ({ frames := 1, cells := 0, slots := 0, locals := 12 } : Room).cells ({ frames := 1, cells := 0, slots := 0, locals := 12 } : Room).slots) (s₁.setTop (entryFrame m #[(.ref a1), (.int p2)] 2))
  refine Go.via (fun t k => castTop (ef_rm1_31 m a1 p2) k) ?_
  show Go p e below _ (s₁.setTop (mkF m 0 #[.val (.ref a1), .val (.int p2)] []))
  refine Go.via (fun _ => XS.aloadN X0.here hx rfl (hb hby d1_0) rfl rfl) ?_
  show Go p e below _ (s₁.setTop (mkF m 1 #[.val (.ref a1), .val (.int p2)] [(.ref a1)]))
  obtain ⟨cq1, kq1, q1a, q1b, q1c⟩ := isOf hZ e0 E1
  obtain ⟨_, _, ⟨T1, L1, k1, n1⟩, -, X1, ⟨Lc1, hQ1, l1, y1, z1⟩, st1⟩ := X0.virtualBackUp hx (x := (⟨"com/example/permits_from_duties/permitsfromduties/PolicyDocument$Operator", "ordinal", "()I"⟩ : MethodName)) (y := (⟨"java/lang/Enum", "ordinal", "()I"⟩ : MethodName)) (owner := "java/lang/Enum") hown (mvT hZ (hw _ (List.mem_of_getElem? (i := 9) rfl))) (mvT hZ (hw _ (List.mem_of_getElem? (i := 10) rfl))) (mvT hZ (hw _ (List.mem_of_getElem? (i := 11) rfl))) (by decide) (mvT hZ (hw _ (List.mem_of_getElem? (i := 13) rfl))) (mvT hZ (hw _ (List.mem_of_getElem? (i := 12) rfl))) (backOf (W := 0) (rm2 l Z a0 hw [] a1 (3 : Int32) h0 n0 Z0 F1) hZ (hw _ (List.mem_of_getElem? (i := 15) rfl)) (hw _ (List.mem_of_getElem? (i := 14) rfl)) (by decide) (by decide)) q1a q1c (g := (mkF m 1 #[.val (.ref a1), .val (.int p2)] [(.ref a1)])) rfl (by rw [hml]; rfl) (Steps.refl _) (argsL := []) (rest := []) (lenOf pd_0 rfl) rfl (by show 2 * 0 + _ ≤ _; exact Nat.le_of_eq rfl) (hb hby d1_1) (fun _ _ => ⟨rfl, e0, (by decide : 0 + 0 ≤ _), (by decide : 0 + 0 ≤ _)⟩)
  dsimp only [Pt.U, Pt.locs, Pt.cells, Pt.slots] at X1 l1 y1 z1 st1 hQ1
  subst l1 y1 z1
  obtain ⟨rfl, N1q, e1q⟩ := hQ1
  have N1 := Fr.app N0 N1q
  refine Go.tr st1 ?_
  show Go p e below _ (T1.setTop (mkF m 4 #[.val (.ref a1), .val (.int p2)] [(.int (3 : Int32))]))
  have hin2 : ¬ ((3 : Int32).toInt < 0 ∨ (3 : Int32).toInt > 4) := by decide
  have hoff2 : (#[46, 58, 70, 82, 94] : Array Int)[((3 : Int32).toInt - 0).toNat]? = some 82 := by decide
  have hd2 : decode c.code 4 = .ok (.tableswitch 36 0 4 #[46, 58, 70, 82, 94], 36) := (hb hby d1_4)
  have st2 := fun t => XS.tswIn (tb := p.tables) (e := e) (below := below) (target := t) X1.here hx (g := (mkF m 4 #[.val (.ref a1), .val (.int p2)] [(.int (3 : Int32))])) rfl (pc0 := 4) (pc' := 86) (o := 82) rfl hd2 (i := (3 : Int32)) (rest := []) rfl hin2 hoff2 (by decide) (by decide)
  refine Go.via st2 ?_
  show Go p e below _ (T1.setTop (mkF m 86 #[.val (.ref a1), .val (.int p2)] []))
  refine Go.via (fun _ => XS.iloadN X1.here hx rfl (hb hby d1_86) rfl) ?_
  show Go p e below _ (T1.setTop (mkF m 87 #[.val (.ref a1), .val (.int p2)] [(.int p2)]))
  refine Go.via (fun _ => XS.ifNo X1.here hx rfl (hb hby d1_87) rfl ((if0 _ _).trans (flt hs0).1)) ?_
  show Go p e below _ (T1.setTop (mkF m 90 #[.val (.ref a1), .val (.int p2)] []))
  refine Go.via (fun _ => XS.iconst X1.here hx rfl (hb hby d1_90)) ?_
  show Go p e below _ (T1.setTop (mkF m 91 #[.val (.ref a1), .val (.int p2)] [(.int (1 : Int32))]))
  refine Go.via (fun _ => XS.goto X1.here hx rfl (pc0 := 91) (pc' := 107) rfl (hb hby d1_91) (by decide) (by decide)) ?_
  show Go p e below _ (T1.setTop (mkF m 107 #[.val (.ref a1), .val (.int p2)] [(.int (1 : Int32))]))
  exact own_retN X1 hx hlk (t := .boolean) Bd.returns (by simp) (hb hby d1_107) (by show Q1_31 Z a1 p2 h0 n0 _ T1.heap _; rw [e1q]; exact ⟨rfl, N1, rfl⟩) (by decide) (by decide)
theorem ef_rm1_32 (m : MethodId) (x0 : Addr) (x1 : Int32) : entryFrame m #[(.ref x0), (.int x1)] 2 = mkF m 0 #[.val (.ref x0), .val (.int x1)] [] := by first | (simp [entryFrame, mkF, argsToLocals, Value.category]; done) | rfl
def Q1_32 (Z : State) (a1 : Addr) (p2 : Int32) (h0 : Heap) (n0 : Nat) (v : Option Value) (h : Heap) (L : List Loc) : Prop := v = some (.int (1 : Int32)) ∧ Fr n0 L ∧ h = h0
set_option maxRecDepth 65536 in
set_option maxHeartbeats 40000000 in
theorem rm1_32 (l : Launch) (Z : State) (a0 : Array Value) (hw : ∀ d ∈ tables_1, d.before a0 Z = true) (ws : List Jvm.Cond) (a1 : Addr) (p2 : Int32) (h0 : Heap) (n0 : Nat) (Z0 : n0 ≤ h0.size) (E1 : Exa Z h0 a1 "com/example/permits_from_duties/permitsfromduties/PolicyDocument$Operator") (F1 : Fld Z h0 a1 "java/lang/Enum" "ordinal" "I" (.int (3 : Int32))) (hs0 : ¬ (p2 < (0 : Int32))) (hs1 : ¬ (p2 = (0 : Int32))) (hs2 : (0 : Int32) < p2) :
    MetFree l (⟨"com/example/permits_from_duties/permitsfromduties/PolicyDocument$Operator", "test", "(I)Z"⟩ : MethodName) (head1 (Jvm.Cond.code (⟨"com/example/permits_from_duties/permitsfromduties/PolicyDocument$Operator", "test", "(I)Z"⟩ : MethodName) prog_68_method_4_code 2 (some .boolean) :: ws) ({ frames := 1, cells := 0, slots := 0, locals := 12 } : Room)) (fun a U => a = #[(.ref a1), (.int p2)] ∧ Z.Warmed39 U.vm ∧ U.heap = h0) (fun _ _ _ _ _ => True) (fun _ U o U' => ∃ v L, o = .returned v ∧ Q1_32 Z a1 p2 h0 n0 v U'.heap L ∧ FrameEnd U o U' L ({ frames := 1, cells := 0, slots := 0, locals := 12 } : Room).cells ({ frames := 1, cells := 0, slots := 0, locals := 12 } : Room).slots) := by
  refine MetFree.of_bodySF (plainFor_of_name pn_com_example_permits_from_duties_permitsfromduties_PolicyDocument_Operator) hisR ?_
  intro p e s m args below meth c s₁ Bd hml0 hP hK
  obtain ⟨rfl, hZ, hh⟩ := hP
  have hx := Bd.exec
  have hby := Bd.bytes
  have hlk : meth.locks = false := Bd.notSynchronized
  have hml : c.maxLocals = 2 := hml0
  have hown : s.vm.findClass "com/example/permits_from_duties/permitsfromduties/PolicyDocument$Operator" = some m.cls := findClass_of_methodNamed Bd.named
  have hnm := (name_of_methodNamed Bd.named Bd.method).1
  have X0 : Stand p l e ({ frames := 1, cells := 0, slots := 0, locals := 12 } : Room) s m #[(.ref a1), (.int p2)] below meth c s₁ [] 0 0 := Stand.of_body Bd
  have e0 : s₁.heap = h0 := by rw [← hh, Bd.state]; rfl
  have N0 := Fr.nil n0
  show Go p e below (FinE s below (Q1_32 Z a1 p2 h0 n0) ({ frames := 1, cells := 0, slots := 0, locals := 12 } : Room).cells ({ frames := 1, cells := 0, slots := 0, locals := 12 } : Room).slots) (s₁.setTop (entryFrame m #[(.ref a1), (.int p2)] 2))
  refine Go.via (fun t k => castTop (ef_rm1_32 m a1 p2) k) ?_
  show Go p e below _ (s₁.setTop (mkF m 0 #[.val (.ref a1), .val (.int p2)] []))
  refine Go.via (fun _ => XS.aloadN X0.here hx rfl (hb hby d1_0) rfl rfl) ?_
  show Go p e below _ (s₁.setTop (mkF m 1 #[.val (.ref a1), .val (.int p2)] [(.ref a1)]))
  obtain ⟨cq1, kq1, q1a, q1b, q1c⟩ := isOf hZ e0 E1
  obtain ⟨_, _, ⟨T1, L1, k1, n1⟩, -, X1, ⟨Lc1, hQ1, l1, y1, z1⟩, st1⟩ := X0.virtualBackUp hx (x := (⟨"com/example/permits_from_duties/permitsfromduties/PolicyDocument$Operator", "ordinal", "()I"⟩ : MethodName)) (y := (⟨"java/lang/Enum", "ordinal", "()I"⟩ : MethodName)) (owner := "java/lang/Enum") hown (mvT hZ (hw _ (List.mem_of_getElem? (i := 9) rfl))) (mvT hZ (hw _ (List.mem_of_getElem? (i := 10) rfl))) (mvT hZ (hw _ (List.mem_of_getElem? (i := 11) rfl))) (by decide) (mvT hZ (hw _ (List.mem_of_getElem? (i := 13) rfl))) (mvT hZ (hw _ (List.mem_of_getElem? (i := 12) rfl))) (backOf (W := 0) (rm2 l Z a0 hw [] a1 (3 : Int32) h0 n0 Z0 F1) hZ (hw _ (List.mem_of_getElem? (i := 15) rfl)) (hw _ (List.mem_of_getElem? (i := 14) rfl)) (by decide) (by decide)) q1a q1c (g := (mkF m 1 #[.val (.ref a1), .val (.int p2)] [(.ref a1)])) rfl (by rw [hml]; rfl) (Steps.refl _) (argsL := []) (rest := []) (lenOf pd_0 rfl) rfl (by show 2 * 0 + _ ≤ _; exact Nat.le_of_eq rfl) (hb hby d1_1) (fun _ _ => ⟨rfl, e0, (by decide : 0 + 0 ≤ _), (by decide : 0 + 0 ≤ _)⟩)
  dsimp only [Pt.U, Pt.locs, Pt.cells, Pt.slots] at X1 l1 y1 z1 st1 hQ1
  subst l1 y1 z1
  obtain ⟨rfl, N1q, e1q⟩ := hQ1
  have N1 := Fr.app N0 N1q
  refine Go.tr st1 ?_
  show Go p e below _ (T1.setTop (mkF m 4 #[.val (.ref a1), .val (.int p2)] [(.int (3 : Int32))]))
  have hin2 : ¬ ((3 : Int32).toInt < 0 ∨ (3 : Int32).toInt > 4) := by decide
  have hoff2 : (#[46, 58, 70, 82, 94] : Array Int)[((3 : Int32).toInt - 0).toNat]? = some 82 := by decide
  have hd2 : decode c.code 4 = .ok (.tableswitch 36 0 4 #[46, 58, 70, 82, 94], 36) := (hb hby d1_4)
  have st2 := fun t => XS.tswIn (tb := p.tables) (e := e) (below := below) (target := t) X1.here hx (g := (mkF m 4 #[.val (.ref a1), .val (.int p2)] [(.int (3 : Int32))])) rfl (pc0 := 4) (pc' := 86) (o := 82) rfl hd2 (i := (3 : Int32)) (rest := []) rfl hin2 hoff2 (by decide) (by decide)
  refine Go.via st2 ?_
  show Go p e below _ (T1.setTop (mkF m 86 #[.val (.ref a1), .val (.int p2)] []))
  refine Go.via (fun _ => XS.iloadN X1.here hx rfl (hb hby d1_86) rfl) ?_
  show Go p e below _ (T1.setTop (mkF m 87 #[.val (.ref a1), .val (.int p2)] [(.int p2)]))
  refine Go.via (fun _ => XS.ifNo X1.here hx rfl (hb hby d1_87) rfl ((if0 _ _).trans (flt hs0).1)) ?_
  show Go p e below _ (T1.setTop (mkF m 90 #[.val (.ref a1), .val (.int p2)] []))
  refine Go.via (fun _ => XS.iconst X1.here hx rfl (hb hby d1_90)) ?_
  show Go p e below _ (T1.setTop (mkF m 91 #[.val (.ref a1), .val (.int p2)] [(.int (1 : Int32))]))
  refine Go.via (fun _ => XS.goto X1.here hx rfl (pc0 := 91) (pc' := 107) rfl (hb hby d1_91) (by decide) (by decide)) ?_
  show Go p e below _ (T1.setTop (mkF m 107 #[.val (.ref a1), .val (.int p2)] [(.int (1 : Int32))]))
  exact own_retN X1 hx hlk (t := .boolean) Bd.returns (by simp) (hb hby d1_107) (by show Q1_32 Z a1 p2 h0 n0 _ T1.heap _; rw [e1q]; exact ⟨rfl, N1, rfl⟩) (by decide) (by decide)
theorem ef_rm1_40 (m : MethodId) (x0 : Addr) (x1 : Int32) : entryFrame m #[(.ref x0), (.int x1)] 2 = mkF m 0 #[.val (.ref x0), .val (.int x1)] [] := by first | (simp [entryFrame, mkF, argsToLocals, Value.category]; done) | rfl
def Q1_40 (Z : State) (a1 : Addr) (p2 : Int32) (h0 : Heap) (n0 : Nat) (v : Option Value) (h : Heap) (L : List Loc) : Prop := v = some (.int (0 : Int32)) ∧ Fr n0 L ∧ h = h0
set_option maxRecDepth 65536 in
set_option maxHeartbeats 40000000 in
theorem rm1_40 (l : Launch) (Z : State) (a0 : Array Value) (hw : ∀ d ∈ tables_1, d.before a0 Z = true) (ws : List Jvm.Cond) (a1 : Addr) (p2 : Int32) (h0 : Heap) (n0 : Nat) (Z0 : n0 ≤ h0.size) (E1 : Exa Z h0 a1 "com/example/permits_from_duties/permitsfromduties/PolicyDocument$Operator") (F1 : Fld Z h0 a1 "java/lang/Enum" "ordinal" "I" (.int (4 : Int32))) (hs0 : p2 < (0 : Int32)) (hs1 : ¬ (p2 = (0 : Int32))) (hs2 : ¬ ((0 : Int32) < p2)) :
    MetFree l (⟨"com/example/permits_from_duties/permitsfromduties/PolicyDocument$Operator", "test", "(I)Z"⟩ : MethodName) (head1 (Jvm.Cond.code (⟨"com/example/permits_from_duties/permitsfromduties/PolicyDocument$Operator", "test", "(I)Z"⟩ : MethodName) prog_68_method_4_code 2 (some .boolean) :: ws) ({ frames := 1, cells := 0, slots := 0, locals := 12 } : Room)) (fun a U => a = #[(.ref a1), (.int p2)] ∧ Z.Warmed39 U.vm ∧ U.heap = h0) (fun _ _ _ _ _ => True) (fun _ U o U' => ∃ v L, o = .returned v ∧ Q1_40 Z a1 p2 h0 n0 v U'.heap L ∧ FrameEnd U o U' L ({ frames := 1, cells := 0, slots := 0, locals := 12 } : Room).cells ({ frames := 1, cells := 0, slots := 0, locals := 12 } : Room).slots) := by
  refine MetFree.of_bodySF (plainFor_of_name pn_com_example_permits_from_duties_permitsfromduties_PolicyDocument_Operator) hisR ?_
  intro p e s m args below meth c s₁ Bd hml0 hP hK
  obtain ⟨rfl, hZ, hh⟩ := hP
  have hx := Bd.exec
  have hby := Bd.bytes
  have hlk : meth.locks = false := Bd.notSynchronized
  have hml : c.maxLocals = 2 := hml0
  have hown : s.vm.findClass "com/example/permits_from_duties/permitsfromduties/PolicyDocument$Operator" = some m.cls := findClass_of_methodNamed Bd.named
  have hnm := (name_of_methodNamed Bd.named Bd.method).1
  have X0 : Stand p l e ({ frames := 1, cells := 0, slots := 0, locals := 12 } : Room) s m #[(.ref a1), (.int p2)] below meth c s₁ [] 0 0 := Stand.of_body Bd
  have e0 : s₁.heap = h0 := by rw [← hh, Bd.state]; rfl
  have N0 := Fr.nil n0
  show Go p e below (FinE s below (Q1_40 Z a1 p2 h0 n0) ({ frames := 1, cells := 0, slots := 0, locals := 12 } : Room).cells ({ frames := 1, cells := 0, slots := 0, locals := 12 } : Room).slots) (s₁.setTop (entryFrame m #[(.ref a1), (.int p2)] 2))
  refine Go.via (fun t k => castTop (ef_rm1_40 m a1 p2) k) ?_
  show Go p e below _ (s₁.setTop (mkF m 0 #[.val (.ref a1), .val (.int p2)] []))
  refine Go.via (fun _ => XS.aloadN X0.here hx rfl (hb hby d1_0) rfl rfl) ?_
  show Go p e below _ (s₁.setTop (mkF m 1 #[.val (.ref a1), .val (.int p2)] [(.ref a1)]))
  obtain ⟨cq1, kq1, q1a, q1b, q1c⟩ := isOf hZ e0 E1
  obtain ⟨_, _, ⟨T1, L1, k1, n1⟩, -, X1, ⟨Lc1, hQ1, l1, y1, z1⟩, st1⟩ := X0.virtualBackUp hx (x := (⟨"com/example/permits_from_duties/permitsfromduties/PolicyDocument$Operator", "ordinal", "()I"⟩ : MethodName)) (y := (⟨"java/lang/Enum", "ordinal", "()I"⟩ : MethodName)) (owner := "java/lang/Enum") hown (mvT hZ (hw _ (List.mem_of_getElem? (i := 9) rfl))) (mvT hZ (hw _ (List.mem_of_getElem? (i := 10) rfl))) (mvT hZ (hw _ (List.mem_of_getElem? (i := 11) rfl))) (by decide) (mvT hZ (hw _ (List.mem_of_getElem? (i := 13) rfl))) (mvT hZ (hw _ (List.mem_of_getElem? (i := 12) rfl))) (backOf (W := 0) (rm2 l Z a0 hw [] a1 (4 : Int32) h0 n0 Z0 F1) hZ (hw _ (List.mem_of_getElem? (i := 15) rfl)) (hw _ (List.mem_of_getElem? (i := 14) rfl)) (by decide) (by decide)) q1a q1c (g := (mkF m 1 #[.val (.ref a1), .val (.int p2)] [(.ref a1)])) rfl (by rw [hml]; rfl) (Steps.refl _) (argsL := []) (rest := []) (lenOf pd_0 rfl) rfl (by show 2 * 0 + _ ≤ _; exact Nat.le_of_eq rfl) (hb hby d1_1) (fun _ _ => ⟨rfl, e0, (by decide : 0 + 0 ≤ _), (by decide : 0 + 0 ≤ _)⟩)
  dsimp only [Pt.U, Pt.locs, Pt.cells, Pt.slots] at X1 l1 y1 z1 st1 hQ1
  subst l1 y1 z1
  obtain ⟨rfl, N1q, e1q⟩ := hQ1
  have N1 := Fr.app N0 N1q
  refine Go.tr st1 ?_
  show Go p e below _ (T1.setTop (mkF m 4 #[.val (.ref a1), .val (.int p2)] [(.int (4 : Int32))]))
  have hin2 : ¬ ((4 : Int32).toInt < 0 ∨ (4 : Int32).toInt > 4) := by decide
  have hoff2 : (#[46, 58, 70, 82, 94] : Array Int)[((4 : Int32).toInt - 0).toNat]? = some 94 := by decide
  have hd2 : decode c.code 4 = .ok (.tableswitch 36 0 4 #[46, 58, 70, 82, 94], 36) := (hb hby d1_4)
  have st2 := fun t => XS.tswIn (tb := p.tables) (e := e) (below := below) (target := t) X1.here hx (g := (mkF m 4 #[.val (.ref a1), .val (.int p2)] [(.int (4 : Int32))])) rfl (pc0 := 4) (pc' := 98) (o := 94) rfl hd2 (i := (4 : Int32)) (rest := []) rfl hin2 hoff2 (by decide) (by decide)
  refine Go.via st2 ?_
  show Go p e below _ (T1.setTop (mkF m 98 #[.val (.ref a1), .val (.int p2)] []))
  refine Go.via (fun _ => XS.iloadN X1.here hx rfl (hb hby d1_98) rfl) ?_
  show Go p e below _ (T1.setTop (mkF m 99 #[.val (.ref a1), .val (.int p2)] [(.int p2)]))
  refine Go.via (fun _ => XS.ifYes X1.here hx rfl (pc0 := 99) (pc' := 106) rfl (hb hby d1_99) rfl ((if0 _ _).trans (flt hs2).2.2.2) (by decide) (by decide)) ?_
  show Go p e below _ (T1.setTop (mkF m 106 #[.val (.ref a1), .val (.int p2)] []))
  refine Go.via (fun _ => XS.iconst X1.here hx rfl (hb hby d1_106)) ?_
  show Go p e below _ (T1.setTop (mkF m 107 #[.val (.ref a1), .val (.int p2)] [(.int (0 : Int32))]))
  exact own_retN X1 hx hlk (t := .boolean) Bd.returns (by simp) (hb hby d1_107) (by show Q1_40 Z a1 p2 h0 n0 _ T1.heap _; rw [e1q]; exact ⟨rfl, N1, rfl⟩) (by decide) (by decide)
theorem ef_rm1_41 (m : MethodId) (x0 : Addr) (x1 : Int32) : entryFrame m #[(.ref x0), (.int x1)] 2 = mkF m 0 #[.val (.ref x0), .val (.int x1)] [] := by first | (simp [entryFrame, mkF, argsToLocals, Value.category]; done) | rfl
def Q1_41 (Z : State) (a1 : Addr) (p2 : Int32) (h0 : Heap) (n0 : Nat) (v : Option Value) (h : Heap) (L : List Loc) : Prop := v = some (.int (0 : Int32)) ∧ Fr n0 L ∧ h = h0
set_option maxRecDepth 65536 in
set_option maxHeartbeats 40000000 in
theorem rm1_41 (l : Launch) (Z : State) (a0 : Array Value) (hw : ∀ d ∈ tables_1, d.before a0 Z = true) (ws : List Jvm.Cond) (a1 : Addr) (p2 : Int32) (h0 : Heap) (n0 : Nat) (Z0 : n0 ≤ h0.size) (E1 : Exa Z h0 a1 "com/example/permits_from_duties/permitsfromduties/PolicyDocument$Operator") (F1 : Fld Z h0 a1 "java/lang/Enum" "ordinal" "I" (.int (4 : Int32))) (hs0 : ¬ (p2 < (0 : Int32))) (hs1 : p2 = (0 : Int32)) (hs2 : ¬ ((0 : Int32) < p2)) :
    MetFree l (⟨"com/example/permits_from_duties/permitsfromduties/PolicyDocument$Operator", "test", "(I)Z"⟩ : MethodName) (head1 (Jvm.Cond.code (⟨"com/example/permits_from_duties/permitsfromduties/PolicyDocument$Operator", "test", "(I)Z"⟩ : MethodName) prog_68_method_4_code 2 (some .boolean) :: ws) ({ frames := 1, cells := 0, slots := 0, locals := 12 } : Room)) (fun a U => a = #[(.ref a1), (.int p2)] ∧ Z.Warmed39 U.vm ∧ U.heap = h0) (fun _ _ _ _ _ => True) (fun _ U o U' => ∃ v L, o = .returned v ∧ Q1_41 Z a1 p2 h0 n0 v U'.heap L ∧ FrameEnd U o U' L ({ frames := 1, cells := 0, slots := 0, locals := 12 } : Room).cells ({ frames := 1, cells := 0, slots := 0, locals := 12 } : Room).slots) := by
  refine MetFree.of_bodySF (plainFor_of_name pn_com_example_permits_from_duties_permitsfromduties_PolicyDocument_Operator) hisR ?_
  intro p e s m args below meth c s₁ Bd hml0 hP hK
  obtain ⟨rfl, hZ, hh⟩ := hP
  have hx := Bd.exec
  have hby := Bd.bytes
  have hlk : meth.locks = false := Bd.notSynchronized
  have hml : c.maxLocals = 2 := hml0
  have hown : s.vm.findClass "com/example/permits_from_duties/permitsfromduties/PolicyDocument$Operator" = some m.cls := findClass_of_methodNamed Bd.named
  have hnm := (name_of_methodNamed Bd.named Bd.method).1
  have X0 : Stand p l e ({ frames := 1, cells := 0, slots := 0, locals := 12 } : Room) s m #[(.ref a1), (.int p2)] below meth c s₁ [] 0 0 := Stand.of_body Bd
  have e0 : s₁.heap = h0 := by rw [← hh, Bd.state]; rfl
  have N0 := Fr.nil n0
  show Go p e below (FinE s below (Q1_41 Z a1 p2 h0 n0) ({ frames := 1, cells := 0, slots := 0, locals := 12 } : Room).cells ({ frames := 1, cells := 0, slots := 0, locals := 12 } : Room).slots) (s₁.setTop (entryFrame m #[(.ref a1), (.int p2)] 2))
  refine Go.via (fun t k => castTop (ef_rm1_41 m a1 p2) k) ?_
  show Go p e below _ (s₁.setTop (mkF m 0 #[.val (.ref a1), .val (.int p2)] []))
  refine Go.via (fun _ => XS.aloadN X0.here hx rfl (hb hby d1_0) rfl rfl) ?_
  show Go p e below _ (s₁.setTop (mkF m 1 #[.val (.ref a1), .val (.int p2)] [(.ref a1)]))
  obtain ⟨cq1, kq1, q1a, q1b, q1c⟩ := isOf hZ e0 E1
  obtain ⟨_, _, ⟨T1, L1, k1, n1⟩, -, X1, ⟨Lc1, hQ1, l1, y1, z1⟩, st1⟩ := X0.virtualBackUp hx (x := (⟨"com/example/permits_from_duties/permitsfromduties/PolicyDocument$Operator", "ordinal", "()I"⟩ : MethodName)) (y := (⟨"java/lang/Enum", "ordinal", "()I"⟩ : MethodName)) (owner := "java/lang/Enum") hown (mvT hZ (hw _ (List.mem_of_getElem? (i := 9) rfl))) (mvT hZ (hw _ (List.mem_of_getElem? (i := 10) rfl))) (mvT hZ (hw _ (List.mem_of_getElem? (i := 11) rfl))) (by decide) (mvT hZ (hw _ (List.mem_of_getElem? (i := 13) rfl))) (mvT hZ (hw _ (List.mem_of_getElem? (i := 12) rfl))) (backOf (W := 0) (rm2 l Z a0 hw [] a1 (4 : Int32) h0 n0 Z0 F1) hZ (hw _ (List.mem_of_getElem? (i := 15) rfl)) (hw _ (List.mem_of_getElem? (i := 14) rfl)) (by decide) (by decide)) q1a q1c (g := (mkF m 1 #[.val (.ref a1), .val (.int p2)] [(.ref a1)])) rfl (by rw [hml]; rfl) (Steps.refl _) (argsL := []) (rest := []) (lenOf pd_0 rfl) rfl (by show 2 * 0 + _ ≤ _; exact Nat.le_of_eq rfl) (hb hby d1_1) (fun _ _ => ⟨rfl, e0, (by decide : 0 + 0 ≤ _), (by decide : 0 + 0 ≤ _)⟩)
  dsimp only [Pt.U, Pt.locs, Pt.cells, Pt.slots] at X1 l1 y1 z1 st1 hQ1
  subst l1 y1 z1
  obtain ⟨rfl, N1q, e1q⟩ := hQ1
  have N1 := Fr.app N0 N1q
  refine Go.tr st1 ?_
  show Go p e below _ (T1.setTop (mkF m 4 #[.val (.ref a1), .val (.int p2)] [(.int (4 : Int32))]))
  have hin2 : ¬ ((4 : Int32).toInt < 0 ∨ (4 : Int32).toInt > 4) := by decide
  have hoff2 : (#[46, 58, 70, 82, 94] : Array Int)[((4 : Int32).toInt - 0).toNat]? = some 94 := by decide
  have hd2 : decode c.code 4 = .ok (.tableswitch 36 0 4 #[46, 58, 70, 82, 94], 36) := (hb hby d1_4)
  have st2 := fun t => XS.tswIn (tb := p.tables) (e := e) (below := below) (target := t) X1.here hx (g := (mkF m 4 #[.val (.ref a1), .val (.int p2)] [(.int (4 : Int32))])) rfl (pc0 := 4) (pc' := 98) (o := 94) rfl hd2 (i := (4 : Int32)) (rest := []) rfl hin2 hoff2 (by decide) (by decide)
  refine Go.via st2 ?_
  show Go p e below _ (T1.setTop (mkF m 98 #[.val (.ref a1), .val (.int p2)] []))
  refine Go.via (fun _ => XS.iloadN X1.here hx rfl (hb hby d1_98) rfl) ?_
  show Go p e below _ (T1.setTop (mkF m 99 #[.val (.ref a1), .val (.int p2)] [(.int p2)]))
  refine Go.via (fun _ => XS.ifYes X1.here hx rfl (pc0 := 99) (pc' := 106) rfl (hb hby d1_99) rfl ((if0 _ _).trans (flt hs2).2.2.2) (by decide) (by decide)) ?_
  show Go p e below _ (T1.setTop (mkF m 106 #[.val (.ref a1), .val (.int p2)] []))
  refine Go.via (fun _ => XS.iconst X1.here hx rfl (hb hby d1_106)) ?_
  show Go p e below _ (T1.setTop (mkF m 107 #[.val (.ref a1), .val (.int p2)] [(.int (0 : Int32))]))
  exact own_retN X1 hx hlk (t := .boolean) Bd.returns (by simp) (hb hby d1_107) (by show Q1_41 Z a1 p2 h0 n0 _ T1.heap _; rw [e1q]; exact ⟨rfl, N1, rfl⟩) (by decide) (by decide)
theorem ef_rm1_42 (m : MethodId) (x0 : Addr) (x1 : Int32) : entryFrame m #[(.ref x0), (.int x1)] 2 = mkF m 0 #[.val (.ref x0), .val (.int x1)] [] := by first | (simp [entryFrame, mkF, argsToLocals, Value.category]; done) | rfl
def Q1_42 (Z : State) (a1 : Addr) (p2 : Int32) (h0 : Heap) (n0 : Nat) (v : Option Value) (h : Heap) (L : List Loc) : Prop := v = some (.int (1 : Int32)) ∧ Fr n0 L ∧ h = h0
set_option maxRecDepth 65536 in
set_option maxHeartbeats 40000000 in
theorem rm1_42 (l : Launch) (Z : State) (a0 : Array Value) (hw : ∀ d ∈ tables_1, d.before a0 Z = true) (ws : List Jvm.Cond) (a1 : Addr) (p2 : Int32) (h0 : Heap) (n0 : Nat) (Z0 : n0 ≤ h0.size) (E1 : Exa Z h0 a1 "com/example/permits_from_duties/permitsfromduties/PolicyDocument$Operator") (F1 : Fld Z h0 a1 "java/lang/Enum" "ordinal" "I" (.int (4 : Int32))) (hs0 : ¬ (p2 < (0 : Int32))) (hs1 : ¬ (p2 = (0 : Int32))) (hs2 : (0 : Int32) < p2) :
    MetFree l (⟨"com/example/permits_from_duties/permitsfromduties/PolicyDocument$Operator", "test", "(I)Z"⟩ : MethodName) (head1 (Jvm.Cond.code (⟨"com/example/permits_from_duties/permitsfromduties/PolicyDocument$Operator", "test", "(I)Z"⟩ : MethodName) prog_68_method_4_code 2 (some .boolean) :: ws) ({ frames := 1, cells := 0, slots := 0, locals := 12 } : Room)) (fun a U => a = #[(.ref a1), (.int p2)] ∧ Z.Warmed39 U.vm ∧ U.heap = h0) (fun _ _ _ _ _ => True) (fun _ U o U' => ∃ v L, o = .returned v ∧ Q1_42 Z a1 p2 h0 n0 v U'.heap L ∧ FrameEnd U o U' L ({ frames := 1, cells := 0, slots := 0, locals := 12 } : Room).cells ({ frames := 1, cells := 0, slots := 0, locals := 12 } : Room).slots) := by
  refine MetFree.of_bodySF (plainFor_of_name pn_com_example_permits_from_duties_permitsfromduties_PolicyDocument_Operator) hisR ?_
  intro p e s m args below meth c s₁ Bd hml0 hP hK
  obtain ⟨rfl, hZ, hh⟩ := hP
  have hx := Bd.exec
  have hby := Bd.bytes
  have hlk : meth.locks = false := Bd.notSynchronized
  have hml : c.maxLocals = 2 := hml0
  have hown : s.vm.findClass "com/example/permits_from_duties/permitsfromduties/PolicyDocument$Operator" = some m.cls := findClass_of_methodNamed Bd.named
  have hnm := (name_of_methodNamed Bd.named Bd.method).1
  have X0 : Stand p l e ({ frames := 1, cells := 0, slots := 0, locals := 12 } : Room) s m #[(.ref a1), (.int p2)] below meth c s₁ [] 0 0 := Stand.of_body Bd
  have e0 : s₁.heap = h0 := by rw [← hh, Bd.state]; rfl
  have N0 := Fr.nil n0
  show Go p e below (FinE s below (Q1_42 Z a1 p2 h0 n0) ({ frames := 1, cells := 0, slots := 0, locals := 12 } : Room).cells ({ frames := 1, cells := 0, slots := 0, locals := 12 } : Room).slots) (s₁.setTop (entryFrame m #[(.ref a1), (.int p2)] 2))
  refine Go.via (fun t k => castTop (ef_rm1_42 m a1 p2) k) ?_
  show Go p e below _ (s₁.setTop (mkF m 0 #[.val (.ref a1), .val (.int p2)] []))
  refine Go.via (fun _ => XS.aloadN X0.here hx rfl (hb hby d1_0) rfl rfl) ?_
  show Go p e below _ (s₁.setTop (mkF m 1 #[.val (.ref a1), .val (.int p2)] [(.ref a1)]))
  obtain ⟨cq1, kq1, q1a, q1b, q1c⟩ := isOf hZ e0 E1
  obtain ⟨_, _, ⟨T1, L1, k1, n1⟩, -, X1, ⟨Lc1, hQ1, l1, y1, z1⟩, st1⟩ := X0.virtualBackUp hx (x := (⟨"com/example/permits_from_duties/permitsfromduties/PolicyDocument$Operator", "ordinal", "()I"⟩ : MethodName)) (y := (⟨"java/lang/Enum", "ordinal", "()I"⟩ : MethodName)) (owner := "java/lang/Enum") hown (mvT hZ (hw _ (List.mem_of_getElem? (i := 9) rfl))) (mvT hZ (hw _ (List.mem_of_getElem? (i := 10) rfl))) (mvT hZ (hw _ (List.mem_of_getElem? (i := 11) rfl))) (by decide) (mvT hZ (hw _ (List.mem_of_getElem? (i := 13) rfl))) (mvT hZ (hw _ (List.mem_of_getElem? (i := 12) rfl))) (backOf (W := 0) (rm2 l Z a0 hw [] a1 (4 : Int32) h0 n0 Z0 F1) hZ (hw _ (List.mem_of_getElem? (i := 15) rfl)) (hw _ (List.mem_of_getElem? (i := 14) rfl)) (by decide) (by decide)) q1a q1c (g := (mkF m 1 #[.val (.ref a1), .val (.int p2)] [(.ref a1)])) rfl (by rw [hml]; rfl) (Steps.refl _) (argsL := []) (rest := []) (lenOf pd_0 rfl) rfl (by show 2 * 0 + _ ≤ _; exact Nat.le_of_eq rfl) (hb hby d1_1) (fun _ _ => ⟨rfl, e0, (by decide : 0 + 0 ≤ _), (by decide : 0 + 0 ≤ _)⟩)
  dsimp only [Pt.U, Pt.locs, Pt.cells, Pt.slots] at X1 l1 y1 z1 st1 hQ1
  subst l1 y1 z1
  obtain ⟨rfl, N1q, e1q⟩ := hQ1
  have N1 := Fr.app N0 N1q
  refine Go.tr st1 ?_
  show Go p e below _ (T1.setTop (mkF m 4 #[.val (.ref a1), .val (.int p2)] [(.int (4 : Int32))]))
  have hin2 : ¬ ((4 : Int32).toInt < 0 ∨ (4 : Int32).toInt > 4) := by decide
  have hoff2 : (#[46, 58, 70, 82, 94] : Array Int)[((4 : Int32).toInt - 0).toNat]? = some 94 := by decide
  have hd2 : decode c.code 4 = .ok (.tableswitch 36 0 4 #[46, 58, 70, 82, 94], 36) := (hb hby d1_4)
  have st2 := fun t => XS.tswIn (tb := p.tables) (e := e) (below := below) (target := t) X1.here hx (g := (mkF m 4 #[.val (.ref a1), .val (.int p2)] [(.int (4 : Int32))])) rfl (pc0 := 4) (pc' := 98) (o := 94) rfl hd2 (i := (4 : Int32)) (rest := []) rfl hin2 hoff2 (by decide) (by decide)
  refine Go.via st2 ?_
  show Go p e below _ (T1.setTop (mkF m 98 #[.val (.ref a1), .val (.int p2)] []))
  refine Go.via (fun _ => XS.iloadN X1.here hx rfl (hb hby d1_98) rfl) ?_
  show Go p e below _ (T1.setTop (mkF m 99 #[.val (.ref a1), .val (.int p2)] [(.int p2)]))
  refine Go.via (fun _ => XS.ifNo X1.here hx rfl (hb hby d1_99) rfl ((if0 _ _).trans (tlt hs2).2.2.2)) ?_
  show Go p e below _ (T1.setTop (mkF m 102 #[.val (.ref a1), .val (.int p2)] []))
  refine Go.via (fun _ => XS.iconst X1.here hx rfl (hb hby d1_102)) ?_
  show Go p e below _ (T1.setTop (mkF m 103 #[.val (.ref a1), .val (.int p2)] [(.int (1 : Int32))]))
  refine Go.via (fun _ => XS.goto X1.here hx rfl (pc0 := 103) (pc' := 107) rfl (hb hby d1_103) (by decide) (by decide)) ?_
  show Go p e below _ (T1.setTop (mkF m 107 #[.val (.ref a1), .val (.int p2)] [(.int (1 : Int32))]))
  exact own_retN X1 hx hlk (t := .boolean) Bd.returns (by simp) (hb hby d1_107) (by show Q1_42 Z a1 p2 h0 n0 _ T1.heap _; rw [e1q]; exact ⟨rfl, N1, rfl⟩) (by decide) (by decide)
theorem ef_rm0 (m : MethodId) (x0 : Int32) (x1 : Int32) : entryFrame m #[(.int x0), (.int x1)] maxLocals = mkF m 0 #[.val (.int x0), .val (.int x1), .unset, .unset, .unset, .unset, .unset] [] := by first | (simp [entryFrame, mkF, argsToLocals, Value.category, maxLocals]; done) | rfl
def Q0 (Z : State) (p1 : Int32) (p2 : Int32) (w_LESS : Addr) (w_AT_MOST : Addr) (w_EQUAL : Addr) (w_AT_LEAST : Addr) (w_MORE : Addr) (h0 : Heap) (n0 : Nat) (v : Option Value) (h : Heap) (L : List Loc) : Prop := v = some (.int 1) ∧ Fr n0 L
set_option maxRecDepth 65536 in
set_option maxHeartbeats 40000000 in
theorem rm0 (l : Launch) (Z : State) (a0 : Array Value) (hw : ∀ d ∈ tables_1, d.before a0 Z = true) (ws : List Jvm.Cond) (p1 : Int32) (p2 : Int32) (w_LESS : Addr) (w_AT_MOST : Addr) (w_EQUAL : Addr) (w_AT_LEAST : Addr) (w_MORE : Addr) (h0 : Heap) (n0 : Nat) (Z0 : n0 ≤ h0.size) (O0 : Old Z n0 h0) (S_LESS : Sta Z Z.heap "com/example/permits_from_duties/permitsfromduties/PolicyDocument$Operator" "LESS" "Lcom/example/permits_from_duties/permitsfromduties/PolicyDocument$Operator;" (.ref w_LESS)) (S_AT_MOST : Sta Z Z.heap "com/example/permits_from_duties/permitsfromduties/PolicyDocument$Operator" "AT_MOST" "Lcom/example/permits_from_duties/permitsfromduties/PolicyDocument$Operator;" (.ref w_AT_MOST)) (S_EQUAL : Sta Z Z.heap "com/example/permits_from_duties/permitsfromduties/PolicyDocument$Operator" "EQUAL" "Lcom/example/permits_from_duties/permitsfromduties/PolicyDocument$Operator;" (.ref w_EQUAL)) (S_AT_LEAST : Sta Z Z.heap "com/example/permits_from_duties/permitsfromduties/PolicyDocument$Operator" "AT_LEAST" "Lcom/example/permits_from_duties/permitsfromduties/PolicyDocument$Operator;" (.ref w_AT_LEAST)) (S_MORE : Sta Z Z.heap "com/example/permits_from_duties/permitsfromduties/PolicyDocument$Operator" "MORE" "Lcom/example/permits_from_duties/permitsfromduties/PolicyDocument$Operator;" (.ref w_MORE)) (E_LESS : Exa Z Z.heap w_LESS "com/example/permits_from_duties/permitsfromduties/PolicyDocument$Operator") (E_AT_MOST : Exa Z Z.heap w_AT_MOST "com/example/permits_from_duties/permitsfromduties/PolicyDocument$Operator") (E_EQUAL : Exa Z Z.heap w_EQUAL "com/example/permits_from_duties/permitsfromduties/PolicyDocument$Operator") (E_AT_LEAST : Exa Z Z.heap w_AT_LEAST "com/example/permits_from_duties/permitsfromduties/PolicyDocument$Operator") (E_MORE : Exa Z Z.heap w_MORE "com/example/permits_from_duties/permitsfromduties/PolicyDocument$Operator") (F_LESS : Fld Z Z.heap w_LESS "java/lang/Enum" "ordinal" "I" (.int (0 : Int32))) (F_AT_MOST : Fld Z Z.heap w_AT_MOST "java/lang/Enum" "ordinal" "I" (.int (1 : Int32))) (F_EQUAL : Fld Z Z.heap w_EQUAL "java/lang/Enum" "ordinal" "I" (.int (2 : Int32))) (F_AT_LEAST : Fld Z Z.heap w_AT_LEAST "java/lang/Enum" "ordinal" "I" (.int (3 : Int32))) (F_MORE : Fld Z Z.heap w_MORE "java/lang/Enum" "ordinal" "I" (.int (4 : Int32))) :
    MetFree l x (head1 (Jvm.Cond.code x code maxLocals ret :: ws) room_1) (fun a U => a = #[(.int p1), (.int p2)] ∧ Z.Warmed39 U.vm ∧ U.heap = h0) (fun _ _ _ _ _ => True) (fun _ U o U' => ∃ v L, o = .returned v ∧ Q0 Z p1 p2 w_LESS w_AT_MOST w_EQUAL w_AT_LEAST w_MORE h0 n0 v U'.heap L ∧ FrameEnd U o U' L room_1.cells room_1.slots) := by
  refine MetFree.of_bodySF (plainFor_of_name pn_com_example_permits_from_duties_permitsfromduties_OperatorTestPinLaw) hisR ?_
  intro p e s m args below meth c s₁ Bd hml0 hP hK
  obtain ⟨rfl, hZ, hh⟩ := hP
  have hx := Bd.exec
  have hby := Bd.bytes
  have hlk : meth.locks = false := Bd.notSynchronized
  have hml : c.maxLocals = 7 := hml0
  have hown : s.vm.findClass "com/example/permits_from_duties/permitsfromduties/OperatorTestPinLaw" = some m.cls := findClass_of_methodNamed Bd.named
  have hnm := (name_of_methodNamed Bd.named Bd.method).1
  have X0 : Stand p l e room_1 s m #[(.int p1), (.int p2)] below meth c s₁ [] 0 0 := Stand.of_body Bd
  have e0 : s₁.heap = h0 := by rw [← hh, Bd.state]; rfl
  have N0 := Fr.nil n0
  show Go p e below (FinE s below (Q0 Z p1 p2 w_LESS w_AT_MOST w_EQUAL w_AT_LEAST w_MORE h0 n0) room_1.cells room_1.slots) (s₁.setTop (entryFrame m #[(.int p1), (.int p2)] maxLocals))
  refine Go.via (fun t k => castTop (ef_rm0 m p1 p2) k) ?_
  show Go p e below _ (s₁.setTop (mkF m 0 #[.val (.int p1), .val (.int p2), .unset, .unset, .unset, .unset, .unset] []))
  refine Go.via (fun _ => XS.iloadN X0.here hx rfl (hb hby at_0) rfl) ?_
  show Go p e below _ (s₁.setTop (mkF m 1 #[.val (.int p1), .val (.int p2), .unset, .unset, .unset, .unset, .unset] [(.int p1)]))
  refine Go.via (X0.ldcInt hx hown (mvT hZ (hw _ (List.mem_of_getElem? (i := 0) rfl))) (g := (mkF m 1 #[.val (.int p1), .val (.int p2), .unset, .unset, .unset, .unset, .unset] [(.int p1)])) rfl (hb hby at_1)) ?_
  show Go p e below _ (s₁.setTop (mkF m 3 #[.val (.int p1), .val (.int p2), .unset, .unset, .unset, .unset, .unset] [(.int (2147483647 : Int32)), (.int p1)]))
  refine Go.via (fun _ => XS.iand X0.here hx rfl (hb hby at_3) rfl) ?_
  show Go p e below _ (s₁.setTop (mkF m 4 #[.val (.int p1), .val (.int p2), .unset, .unset, .unset, .unset, .unset] [(.int (p1 &&& (2147483647 : Int32)))]))
  refine Go.via (fun _ => XS.iconst X0.here hx rfl (hb hby at_4)) ?_
  show Go p e below _ (s₁.setTop (mkF m 5 #[.val (.int p1), .val (.int p2), .unset, .unset, .unset, .unset, .unset] [(.int (5 : Int32)), (.int (p1 &&& (2147483647 : Int32)))]))
  refine Go.via (fun _ => iremM X0 hx rfl (hb hby at_5) rfl (by decide)) ?_
  show Go p e below _ (s₁.setTop (mkF m 6 #[.val (.int p1), .val (.int p2), .unset, .unset, .unset, .unset, .unset] [(.int ((p1 &&& (2147483647 : Int32)) % (5 : Int32)))]))
  generalize hk : ((p1 &&& (2147483647 : Int32)) % (5 : Int32)) = k
  show Go p e below _ (s₁.setTop (mkF m 6 #[.val (.int p1), .val (.int p2), .unset, .unset, .unset, .unset, .unset] [(.int k)]))
  refine Go.via (fun _ => XS.istoreN X0.here hx rfl (hb hby at_6) rfl (l' := #[.val (.int p1), .val (.int p2), .val (.int k), .unset, .unset, .unset, .unset]) rfl) ?_
  show Go p e below _ (s₁.setTop (mkF m 7 #[.val (.int p1), .val (.int p2), .val (.int k), .unset, .unset, .unset, .unset] []))
  refine Go.via (fun _ => XS.iloadN X0.here hx rfl (hb hby at_7) rfl) ?_
  show Go p e below _ (s₁.setTop (mkF m 8 #[.val (.int p1), .val (.int p2), .val (.int k), .unset, .unset, .unset, .unset] [(.int k)]))
  by_cases hc1 : k = (0 : Int32)
  · -- yes
    subst hc1
    show Go p e below _ (s₁.setTop (mkF m 8 #[.val (.int p1), .val (.int p2), .val (.int (0 : Int32)), .unset, .unset, .unset, .unset] [(.int (0 : Int32))]))
    show Go p e below _ (s₁.setTop (mkF m 8 #[.val (.int p1), .val (.int p2), .val (.int (0 : Int32)), .unset, .unset, .unset, .unset] [(.int (0 : Int32))]))
    refine Go.via (fun _ => XS.ifNo X0.here hx rfl (hb hby at_8) rfl (by decide)) ?_
    show Go p e below _ (s₁.setTop (mkF m 11 #[.val (.int p1), .val (.int p2), .val (.int (0 : Int32)), .unset, .unset, .unset, .unset] []))
    obtain ⟨T2, X2, e2, st2⟩ := getS2 X0 hx hZ hown (host := "") (Or.inl (hw _ (List.mem_of_getElem? (i := 1) rfl))) Via.refl e0 (S_LESS.ext O0.2) (g := (mkF m 11 #[.val (.int p1), .val (.int p2), .val (.int (0 : Int32)), .unset, .unset, .unset, .unset] [])) rfl (hb hby at_11)
    refine Go.via st2 ?_
    show Go p e below _ (T2.setTop (mkF m 14 #[.val (.int p1), .val (.int p2), .val (.int (0 : Int32)), .unset, .unset, .unset, .unset] [(.ref w_LESS)]))
    refine Go.via (fun _ => XS.astoreN X2.here hx rfl (hb hby at_14) rfl rfl (l' := #[.val (.int p1), .val (.int p2), .val (.int (0 : Int32)), .val (.ref w_LESS), .unset, .unset, .unset]) rfl) ?_
    show Go p e below _ (T2.setTop (mkF m 15 #[.val (.int p1), .val (.int p2), .val (.int (0 : Int32)), .val (.ref w_LESS), .unset, .unset, .unset] []))
    refine Go.via (fun _ => XS.iconst X2.here hx rfl (hb hby at_15)) ?_
    show Go p e below _ (T2.setTop (mkF m 16 #[.val (.int p1), .val (.int p2), .val (.int (0 : Int32)), .val (.ref w_LESS), .unset, .unset, .unset] [(.int (1 : Int32))]))
    refine Go.via (fun _ => XS.istore X2.here hx rfl (hb hby at_16) rfl (l' := #[.val (.int p1), .val (.int p2), .val (.int (0 : Int32)), .val (.ref w_LESS), .val (.int (1 : Int32)), .unset, .unset]) rfl) ?_
    show Go p e below _ (T2.setTop (mkF m 18 #[.val (.int p1), .val (.int p2), .val (.int (0 : Int32)), .val (.ref w_LESS), .val (.int (1 : Int32)), .unset, .unset] []))
    refine Go.via (fun _ => XS.goto X2.here hx rfl (pc0 := 18) (pc' := 74) rfl (hb hby at_18) (by decide) (by decide)) ?_
    show Go p e below _ (T2.setTop (mkF m 74 #[.val (.int p1), .val (.int p2), .val (.int (0 : Int32)), .val (.ref w_LESS), .val (.int (1 : Int32)), .unset, .unset] []))
    refine Go.via (fun _ => XS.iloadN X2.here hx rfl (hb hby at_74) rfl) ?_
    show Go p e below _ (T2.setTop (mkF m 75 #[.val (.int p1), .val (.int p2), .val (.int (0 : Int32)), .val (.ref w_LESS), .val (.int (1 : Int32)), .unset, .unset] [(.int p2)]))
    by_cases hc3 : p2 < (0 : Int32)
    · -- yes
      show Go p e below _ (T2.setTop (mkF m 75 #[.val (.int p1), .val (.int p2), .val (.int (0 : Int32)), .val (.ref w_LESS), .val (.int (1 : Int32)), .unset, .unset] [(.int p2)]))
      show Go p e below _ (T2.setTop (mkF m 75 #[.val (.int p1), .val (.int p2), .val (.int (0 : Int32)), .val (.ref w_LESS), .val (.int (1 : Int32)), .unset, .unset] [(.int p2)]))
      refine Go.via (fun _ => XS.ifNo X2.here hx rfl (hb hby at_75) rfl ((if0 _ _).trans (tlt hc3).2.1)) ?_
      show Go p e below _ (T2.setTop (mkF m 78 #[.val (.int p1), .val (.int p2), .val (.int (0 : Int32)), .val (.ref w_LESS), .val (.int (1 : Int32)), .unset, .unset] []))
      refine Go.via (fun _ => XS.iconst X2.here hx rfl (hb hby at_78)) ?_
      show Go p e below _ (T2.setTop (mkF m 79 #[.val (.int p1), .val (.int p2), .val (.int (0 : Int32)), .val (.ref w_LESS), .val (.int (1 : Int32)), .unset, .unset] [(.int (0 : Int32))]))
      refine Go.via (fun _ => XS.goto X2.here hx rfl (pc0 := 79) (pc' := 91) rfl (hb hby at_79) (by decide) (by decide)) ?_
      show Go p e below _ (T2.setTop (mkF m 91 #[.val (.int p1), .val (.int p2), .val (.int (0 : Int32)), .val (.ref w_LESS), .val (.int (1 : Int32)), .unset, .unset] [(.int (0 : Int32))]))
      refine Go.via (fun _ => XS.istore X2.here hx rfl (hb hby at_91) rfl (l' := #[.val (.int p1), .val (.int p2), .val (.int (0 : Int32)), .val (.ref w_LESS), .val (.int (1 : Int32)), .val (.int (0 : Int32)), .unset]) rfl) ?_
      show Go p e below _ (T2.setTop (mkF m 93 #[.val (.int p1), .val (.int p2), .val (.int (0 : Int32)), .val (.ref w_LESS), .val (.int (1 : Int32)), .val (.int (0 : Int32)), .unset] []))
      refine Go.via (fun _ => XS.iload X2.here hx rfl (hb hby at_93) rfl) ?_
      show Go p e below _ (T2.setTop (mkF m 95 #[.val (.int p1), .val (.int p2), .val (.int (0 : Int32)), .val (.ref w_LESS), .val (.int (1 : Int32)), .val (.int (0 : Int32)), .unset] [(.int (1 : Int32))]))
      refine Go.via (fun _ => XS.iload X2.here hx rfl (hb hby at_95) rfl) ?_
      show Go p e below _ (T2.setTop (mkF m 97 #[.val (.int p1), .val (.int p2), .val (.int (0 : Int32)), .val (.ref w_LESS), .val (.int (1 : Int32)), .val (.int (0 : Int32)), .unset] [(.int (0 : Int32)), (.int (1 : Int32))]))
      refine Go.via (fun _ => XS.ishr X2.here hx rfl (hb hby at_97) rfl) ?_
      show Go p e below _ (T2.setTop (mkF m 98 #[.val (.int p1), .val (.int p2), .val (.int (0 : Int32)), .val (.ref w_LESS), .val (.int (1 : Int32)), .val (.int (0 : Int32)), .unset] [(.int (1 : Int32))]))
      refine Go.via (fun _ => XS.iconst X2.here hx rfl (hb hby at_98)) ?_
      show Go p e below _ (T2.setTop (mkF m 99 #[.val (.int p1), .val (.int p2), .val (.int (0 : Int32)), .val (.ref w_LESS), .val (.int (1 : Int32)), .val (.int (0 : Int32)), .unset] [(.int (1 : Int32)), (.int (1 : Int32))]))
      refine Go.via (fun _ => XS.iand X2.here hx rfl (hb hby at_99) rfl) ?_
      show Go p e below _ (T2.setTop (mkF m 100 #[.val (.int p1), .val (.int p2), .val (.int (0 : Int32)), .val (.ref w_LESS), .val (.int (1 : Int32)), .val (.int (0 : Int32)), .unset] [(.int (1 : Int32))]))
      refine Go.via (fun _ => XS.ifNo X2.here hx rfl (hb hby at_100) rfl (by decide)) ?_
      show Go p e below _ (T2.setTop (mkF m 103 #[.val (.int p1), .val (.int p2), .val (.int (0 : Int32)), .val (.ref w_LESS), .val (.int (1 : Int32)), .val (.int (0 : Int32)), .unset] []))
      refine Go.via (fun _ => XS.iconst X2.here hx rfl (hb hby at_103)) ?_
      show Go p e below _ (T2.setTop (mkF m 104 #[.val (.int p1), .val (.int p2), .val (.int (0 : Int32)), .val (.ref w_LESS), .val (.int (1 : Int32)), .val (.int (0 : Int32)), .unset] [(.int (1 : Int32))]))
      refine Go.via (fun _ => XS.goto X2.here hx rfl (pc0 := 104) (pc' := 108) rfl (hb hby at_104) (by decide) (by decide)) ?_
      show Go p e below _ (T2.setTop (mkF m 108 #[.val (.int p1), .val (.int p2), .val (.int (0 : Int32)), .val (.ref w_LESS), .val (.int (1 : Int32)), .val (.int (0 : Int32)), .unset] [(.int (1 : Int32))]))
      refine Go.via (fun _ => XS.istore X2.here hx rfl (hb hby at_108) rfl (l' := #[.val (.int p1), .val (.int p2), .val (.int (0 : Int32)), .val (.ref w_LESS), .val (.int (1 : Int32)), .val (.int (0 : Int32)), .val (.int (1 : Int32))]) rfl) ?_
      show Go p e below _ (T2.setTop (mkF m 110 #[.val (.int p1), .val (.int p2), .val (.int (0 : Int32)), .val (.ref w_LESS), .val (.int (1 : Int32)), .val (.int (0 : Int32)), .val (.int (1 : Int32))] []))
      refine Go.via (fun _ => XS.aloadN X2.here hx rfl (hb hby at_110) rfl rfl) ?_
      show Go p e below _ (T2.setTop (mkF m 111 #[.val (.int p1), .val (.int p2), .val (.int (0 : Int32)), .val (.ref w_LESS), .val (.int (1 : Int32)), .val (.int (0 : Int32)), .val (.int (1 : Int32))] [(.ref w_LESS)]))
      refine Go.via (fun _ => XS.iloadN X2.here hx rfl (hb hby at_111) rfl) ?_
      show Go p e below _ (T2.setTop (mkF m 112 #[.val (.int p1), .val (.int p2), .val (.int (0 : Int32)), .val (.ref w_LESS), .val (.int (1 : Int32)), .val (.int (0 : Int32)), .val (.int (1 : Int32))] [(.int p2), (.ref w_LESS)]))
      obtain ⟨cq4, kq4, q4a, q4b, q4c⟩ := isOf hZ e2 (E_LESS.ext O0.2)
      obtain ⟨_, _, ⟨T4, L4, k4, n4⟩, -, X4, ⟨Lc4, hQ4, l4, y4, z4⟩, st4⟩ := X2.virtualBack hx (y := (⟨"com/example/permits_from_duties/permitsfromduties/PolicyDocument$Operator", "test", "(I)Z"⟩ : MethodName)) (z := (⟨"com/example/permits_from_duties/permitsfromduties/PolicyDocument$Operator", "test", "(I)Z"⟩ : MethodName)) hown (mvT hZ (hw _ (List.mem_of_getElem? (i := 4) rfl))) (mvT hZ (hw _ (List.mem_of_getElem? (i := 5) rfl))) (notFace_of_selects (args := #[]) (mvT hZ (hw _ (List.mem_of_getElem? (i := 7) rfl)))) (mvT hZ (hw _ (List.mem_of_getElem? (i := 7) rfl))) (mvT hZ (hw _ (List.mem_of_getElem? (i := 6) rfl))) (by decide) (backOf (W := 0) (rm1_00 l Z a0 hw [] w_LESS p2 h0 n0 Z0 (E_LESS.ext O0.2) (F_LESS.ext O0.2) hc3 (own_sg0 hc3).1 (own_sg0 hc3).2) hZ (hw _ (List.mem_of_getElem? (i := 8) rfl)) (hw _ (List.mem_of_getElem? (i := 2) rfl)) (by decide) (by decide)) q4a q4c (g := (mkF m 112 #[.val (.int p1), .val (.int p2), .val (.int (0 : Int32)), .val (.ref w_LESS), .val (.int (1 : Int32)), .val (.int (0 : Int32)), .val (.int (1 : Int32))] [(.int p2), (.ref w_LESS)])) rfl (by rw [hml]; rfl) (Steps.refl _) (argsL := [(.int p2)]) (rest := []) (lenOf pd_1 rfl) rfl (by show 2 * 0 + _ ≤ _; exact Nat.le_of_eq rfl) (hb hby at_112) (fun _ _ => ⟨rfl, e2, (by decide : 0 + 0 ≤ _), (by decide : 0 + 0 ≤ _)⟩)
      dsimp only [Pt.U, Pt.locs, Pt.cells, Pt.slots] at X4 l4 y4 z4 st4 hQ4
      subst l4 y4 z4
      obtain ⟨rfl, N4q, e4q⟩ := hQ4
      have N4 := Fr.app N0 N4q
      refine Go.tr st4 ?_
      show Go p e below _ (T4.setTop (mkF m 115 #[.val (.int p1), .val (.int p2), .val (.int (0 : Int32)), .val (.ref w_LESS), .val (.int (1 : Int32)), .val (.int (0 : Int32)), .val (.int (1 : Int32))] [(.int (1 : Int32))]))
      refine Go.via (fun _ => XS.iload X4.here hx rfl (hb hby at_115) rfl) ?_
      show Go p e below _ (T4.setTop (mkF m 117 #[.val (.int p1), .val (.int p2), .val (.int (0 : Int32)), .val (.ref w_LESS), .val (.int (1 : Int32)), .val (.int (0 : Int32)), .val (.int (1 : Int32))] [(.int (1 : Int32)), (.int (1 : Int32))]))
      refine Go.via (fun _ => XS.icmpNo X4.here hx rfl (hb hby at_117) rfl (by decide)) ?_
      show Go p e below _ (T4.setTop (mkF m 120 #[.val (.int p1), .val (.int p2), .val (.int (0 : Int32)), .val (.ref w_LESS), .val (.int (1 : Int32)), .val (.int (0 : Int32)), .val (.int (1 : Int32))] []))
      refine Go.via (fun _ => XS.iconst X4.here hx rfl (hb hby at_120)) ?_
      show Go p e below _ (T4.setTop (mkF m 121 #[.val (.int p1), .val (.int p2), .val (.int (0 : Int32)), .val (.ref w_LESS), .val (.int (1 : Int32)), .val (.int (0 : Int32)), .val (.int (1 : Int32))] [(.int (1 : Int32))]))
      refine Go.via (fun _ => XS.goto X4.here hx rfl (pc0 := 121) (pc' := 125) rfl (hb hby at_121) (by decide) (by decide)) ?_
      show Go p e below _ (T4.setTop (mkF m 125 #[.val (.int p1), .val (.int p2), .val (.int (0 : Int32)), .val (.ref w_LESS), .val (.int (1 : Int32)), .val (.int (0 : Int32)), .val (.int (1 : Int32))] [(.int (1 : Int32))]))
      exact own_retN X4 hx hlk (t := .boolean) Bd.returns (by simp) (hb hby at_125) (by show Q0 Z p1 p2 w_LESS w_AT_MOST w_EQUAL w_AT_LEAST w_MORE h0 n0 _ T4.heap _; rw [e4q]; exact ⟨rfl, N4⟩) (by decide) (by decide)
    · -- no
      show Go p e below _ (T2.setTop (mkF m 75 #[.val (.int p1), .val (.int p2), .val (.int (0 : Int32)), .val (.ref w_LESS), .val (.int (1 : Int32)), .unset, .unset] [(.int p2)]))
      show Go p e below _ (T2.setTop (mkF m 75 #[.val (.int p1), .val (.int p2), .val (.int (0 : Int32)), .val (.ref w_LESS), .val (.int (1 : Int32)), .unset, .unset] [(.int p2)]))
      refine Go.via (fun _ => XS.ifYes X2.here hx rfl (pc0 := 75) (pc' := 82) rfl (hb hby at_75) rfl ((if0 _ _).trans (flt hc3).2.1) (by decide) (by decide)) ?_
      show Go p e below _ (T2.setTop (mkF m 82 #[.val (.int p1), .val (.int p2), .val (.int (0 : Int32)), .val (.ref w_LESS), .val (.int (1 : Int32)), .unset, .unset] []))
      refine Go.via (fun _ => XS.iloadN X2.here hx rfl (hb hby at_82) rfl) ?_
      show Go p e below _ (T2.setTop (mkF m 83 #[.val (.int p1), .val (.int p2), .val (.int (0 : Int32)), .val (.ref w_LESS), .val (.int (1 : Int32)), .unset, .unset] [(.int p2)]))
      by_cases hc5 : p2 = (0 : Int32)
      · -- yes
        show Go p e below _ (T2.setTop (mkF m 83 #[.val (.int p1), .val (.int p2), .val (.int (0 : Int32)), .val (.ref w_LESS), .val (.int (1 : Int32)), .unset, .unset] [(.int p2)]))
        show Go p e below _ (T2.setTop (mkF m 83 #[.val (.int p1), .val (.int p2), .val (.int (0 : Int32)), .val (.ref w_LESS), .val (.int (1 : Int32)), .unset, .unset] [(.int p2)]))
        refine Go.via (fun _ => XS.ifNo X2.here hx rfl (hb hby at_83) rfl ((if0 _ _).trans (teq hc5).2)) ?_
        show Go p e below _ (T2.setTop (mkF m 86 #[.val (.int p1), .val (.int p2), .val (.int (0 : Int32)), .val (.ref w_LESS), .val (.int (1 : Int32)), .unset, .unset] []))
        refine Go.via (fun _ => XS.iconst X2.here hx rfl (hb hby at_86)) ?_
        show Go p e below _ (T2.setTop (mkF m 87 #[.val (.int p1), .val (.int p2), .val (.int (0 : Int32)), .val (.ref w_LESS), .val (.int (1 : Int32)), .unset, .unset] [(.int (1 : Int32))]))
        refine Go.via (fun _ => XS.goto X2.here hx rfl (pc0 := 87) (pc' := 91) rfl (hb hby at_87) (by decide) (by decide)) ?_
        show Go p e below _ (T2.setTop (mkF m 91 #[.val (.int p1), .val (.int p2), .val (.int (0 : Int32)), .val (.ref w_LESS), .val (.int (1 : Int32)), .unset, .unset] [(.int (1 : Int32))]))
        refine Go.via (fun _ => XS.istore X2.here hx rfl (hb hby at_91) rfl (l' := #[.val (.int p1), .val (.int p2), .val (.int (0 : Int32)), .val (.ref w_LESS), .val (.int (1 : Int32)), .val (.int (1 : Int32)), .unset]) rfl) ?_
        show Go p e below _ (T2.setTop (mkF m 93 #[.val (.int p1), .val (.int p2), .val (.int (0 : Int32)), .val (.ref w_LESS), .val (.int (1 : Int32)), .val (.int (1 : Int32)), .unset] []))
        refine Go.via (fun _ => XS.iload X2.here hx rfl (hb hby at_93) rfl) ?_
        show Go p e below _ (T2.setTop (mkF m 95 #[.val (.int p1), .val (.int p2), .val (.int (0 : Int32)), .val (.ref w_LESS), .val (.int (1 : Int32)), .val (.int (1 : Int32)), .unset] [(.int (1 : Int32))]))
        refine Go.via (fun _ => XS.iload X2.here hx rfl (hb hby at_95) rfl) ?_
        show Go p e below _ (T2.setTop (mkF m 97 #[.val (.int p1), .val (.int p2), .val (.int (0 : Int32)), .val (.ref w_LESS), .val (.int (1 : Int32)), .val (.int (1 : Int32)), .unset] [(.int (1 : Int32)), (.int (1 : Int32))]))
        refine Go.via (fun _ => XS.ishr X2.here hx rfl (hb hby at_97) rfl) ?_
        show Go p e below _ (T2.setTop (mkF m 98 #[.val (.int p1), .val (.int p2), .val (.int (0 : Int32)), .val (.ref w_LESS), .val (.int (1 : Int32)), .val (.int (1 : Int32)), .unset] [(.int (0 : Int32))]))
        refine Go.via (fun _ => XS.iconst X2.here hx rfl (hb hby at_98)) ?_
        show Go p e below _ (T2.setTop (mkF m 99 #[.val (.int p1), .val (.int p2), .val (.int (0 : Int32)), .val (.ref w_LESS), .val (.int (1 : Int32)), .val (.int (1 : Int32)), .unset] [(.int (1 : Int32)), (.int (0 : Int32))]))
        refine Go.via (fun _ => XS.iand X2.here hx rfl (hb hby at_99) rfl) ?_
        show Go p e below _ (T2.setTop (mkF m 100 #[.val (.int p1), .val (.int p2), .val (.int (0 : Int32)), .val (.ref w_LESS), .val (.int (1 : Int32)), .val (.int (1 : Int32)), .unset] [(.int (0 : Int32))]))
        refine Go.via (fun _ => XS.ifYes X2.here hx rfl (pc0 := 100) (pc' := 107) rfl (hb hby at_100) rfl (by decide) (by decide) (by decide)) ?_
        show Go p e below _ (T2.setTop (mkF m 107 #[.val (.int p1), .val (.int p2), .val (.int (0 : Int32)), .val (.ref w_LESS), .val (.int (1 : Int32)), .val (.int (1 : Int32)), .unset] []))
        refine Go.via (fun _ => XS.iconst X2.here hx rfl (hb hby at_107)) ?_
        show Go p e below _ (T2.setTop (mkF m 108 #[.val (.int p1), .val (.int p2), .val (.int (0 : Int32)), .val (.ref w_LESS), .val (.int (1 : Int32)), .val (.int (1 : Int32)), .unset] [(.int (0 : Int32))]))
        refine Go.via (fun _ => XS.istore X2.here hx rfl (hb hby at_108) rfl (l' := #[.val (.int p1), .val (.int p2), .val (.int (0 : Int32)), .val (.ref w_LESS), .val (.int (1 : Int32)), .val (.int (1 : Int32)), .val (.int (0 : Int32))]) rfl) ?_
        show Go p e below _ (T2.setTop (mkF m 110 #[.val (.int p1), .val (.int p2), .val (.int (0 : Int32)), .val (.ref w_LESS), .val (.int (1 : Int32)), .val (.int (1 : Int32)), .val (.int (0 : Int32))] []))
        refine Go.via (fun _ => XS.aloadN X2.here hx rfl (hb hby at_110) rfl rfl) ?_
        show Go p e below _ (T2.setTop (mkF m 111 #[.val (.int p1), .val (.int p2), .val (.int (0 : Int32)), .val (.ref w_LESS), .val (.int (1 : Int32)), .val (.int (1 : Int32)), .val (.int (0 : Int32))] [(.ref w_LESS)]))
        refine Go.via (fun _ => XS.iloadN X2.here hx rfl (hb hby at_111) rfl) ?_
        show Go p e below _ (T2.setTop (mkF m 112 #[.val (.int p1), .val (.int p2), .val (.int (0 : Int32)), .val (.ref w_LESS), .val (.int (1 : Int32)), .val (.int (1 : Int32)), .val (.int (0 : Int32))] [(.int p2), (.ref w_LESS)]))
        obtain ⟨cq6, kq6, q6a, q6b, q6c⟩ := isOf hZ e2 (E_LESS.ext O0.2)
        obtain ⟨_, _, ⟨T6, L6, k6, n6⟩, -, X6, ⟨Lc6, hQ6, l6, y6, z6⟩, st6⟩ := X2.virtualBack hx (y := (⟨"com/example/permits_from_duties/permitsfromduties/PolicyDocument$Operator", "test", "(I)Z"⟩ : MethodName)) (z := (⟨"com/example/permits_from_duties/permitsfromduties/PolicyDocument$Operator", "test", "(I)Z"⟩ : MethodName)) hown (mvT hZ (hw _ (List.mem_of_getElem? (i := 4) rfl))) (mvT hZ (hw _ (List.mem_of_getElem? (i := 5) rfl))) (notFace_of_selects (args := #[]) (mvT hZ (hw _ (List.mem_of_getElem? (i := 7) rfl)))) (mvT hZ (hw _ (List.mem_of_getElem? (i := 7) rfl))) (mvT hZ (hw _ (List.mem_of_getElem? (i := 6) rfl))) (by decide) (backOf (W := 0) (rm1_01 l Z a0 hw [] w_LESS p2 h0 n0 Z0 (E_LESS.ext O0.2) (F_LESS.ext O0.2) (own_sg1 hc5).1 hc5 (own_sg1 hc5).2) hZ (hw _ (List.mem_of_getElem? (i := 8) rfl)) (hw _ (List.mem_of_getElem? (i := 2) rfl)) (by decide) (by decide)) q6a q6c (g := (mkF m 112 #[.val (.int p1), .val (.int p2), .val (.int (0 : Int32)), .val (.ref w_LESS), .val (.int (1 : Int32)), .val (.int (1 : Int32)), .val (.int (0 : Int32))] [(.int p2), (.ref w_LESS)])) rfl (by rw [hml]; rfl) (Steps.refl _) (argsL := [(.int p2)]) (rest := []) (lenOf pd_1 rfl) rfl (by show 2 * 0 + _ ≤ _; exact Nat.le_of_eq rfl) (hb hby at_112) (fun _ _ => ⟨rfl, e2, (by decide : 0 + 0 ≤ _), (by decide : 0 + 0 ≤ _)⟩)
        dsimp only [Pt.U, Pt.locs, Pt.cells, Pt.slots] at X6 l6 y6 z6 st6 hQ6
        subst l6 y6 z6
        obtain ⟨rfl, N6q, e6q⟩ := hQ6
        have N6 := Fr.app N0 N6q
        refine Go.tr st6 ?_
        show Go p e below _ (T6.setTop (mkF m 115 #[.val (.int p1), .val (.int p2), .val (.int (0 : Int32)), .val (.ref w_LESS), .val (.int (1 : Int32)), .val (.int (1 : Int32)), .val (.int (0 : Int32))] [(.int (0 : Int32))]))
        refine Go.via (fun _ => XS.iload X6.here hx rfl (hb hby at_115) rfl) ?_
        show Go p e below _ (T6.setTop (mkF m 117 #[.val (.int p1), .val (.int p2), .val (.int (0 : Int32)), .val (.ref w_LESS), .val (.int (1 : Int32)), .val (.int (1 : Int32)), .val (.int (0 : Int32))] [(.int (0 : Int32)), (.int (0 : Int32))]))
        refine Go.via (fun _ => XS.icmpNo X6.here hx rfl (hb hby at_117) rfl (by decide)) ?_
        show Go p e below _ (T6.setTop (mkF m 120 #[.val (.int p1), .val (.int p2), .val (.int (0 : Int32)), .val (.ref w_LESS), .val (.int (1 : Int32)), .val (.int (1 : Int32)), .val (.int (0 : Int32))] []))
        refine Go.via (fun _ => XS.iconst X6.here hx rfl (hb hby at_120)) ?_
        show Go p e below _ (T6.setTop (mkF m 121 #[.val (.int p1), .val (.int p2), .val (.int (0 : Int32)), .val (.ref w_LESS), .val (.int (1 : Int32)), .val (.int (1 : Int32)), .val (.int (0 : Int32))] [(.int (1 : Int32))]))
        refine Go.via (fun _ => XS.goto X6.here hx rfl (pc0 := 121) (pc' := 125) rfl (hb hby at_121) (by decide) (by decide)) ?_
        show Go p e below _ (T6.setTop (mkF m 125 #[.val (.int p1), .val (.int p2), .val (.int (0 : Int32)), .val (.ref w_LESS), .val (.int (1 : Int32)), .val (.int (1 : Int32)), .val (.int (0 : Int32))] [(.int (1 : Int32))]))
        exact own_retN X6 hx hlk (t := .boolean) Bd.returns (by simp) (hb hby at_125) (by show Q0 Z p1 p2 w_LESS w_AT_MOST w_EQUAL w_AT_LEAST w_MORE h0 n0 _ T6.heap _; rw [e6q]; exact ⟨rfl, N6⟩) (by decide) (by decide)
      · -- no
        show Go p e below _ (T2.setTop (mkF m 83 #[.val (.int p1), .val (.int p2), .val (.int (0 : Int32)), .val (.ref w_LESS), .val (.int (1 : Int32)), .unset, .unset] [(.int p2)]))
        show Go p e below _ (T2.setTop (mkF m 83 #[.val (.int p1), .val (.int p2), .val (.int (0 : Int32)), .val (.ref w_LESS), .val (.int (1 : Int32)), .unset, .unset] [(.int p2)]))
        refine Go.via (fun _ => XS.ifYes X2.here hx rfl (pc0 := 83) (pc' := 90) rfl (hb hby at_83) rfl ((if0 _ _).trans (feq hc5).2) (by decide) (by decide)) ?_
        show Go p e below _ (T2.setTop (mkF m 90 #[.val (.int p1), .val (.int p2), .val (.int (0 : Int32)), .val (.ref w_LESS), .val (.int (1 : Int32)), .unset, .unset] []))
        refine Go.via (fun _ => XS.iconst X2.here hx rfl (hb hby at_90)) ?_
        show Go p e below _ (T2.setTop (mkF m 91 #[.val (.int p1), .val (.int p2), .val (.int (0 : Int32)), .val (.ref w_LESS), .val (.int (1 : Int32)), .unset, .unset] [(.int (2 : Int32))]))
        refine Go.via (fun _ => XS.istore X2.here hx rfl (hb hby at_91) rfl (l' := #[.val (.int p1), .val (.int p2), .val (.int (0 : Int32)), .val (.ref w_LESS), .val (.int (1 : Int32)), .val (.int (2 : Int32)), .unset]) rfl) ?_
        show Go p e below _ (T2.setTop (mkF m 93 #[.val (.int p1), .val (.int p2), .val (.int (0 : Int32)), .val (.ref w_LESS), .val (.int (1 : Int32)), .val (.int (2 : Int32)), .unset] []))
        refine Go.via (fun _ => XS.iload X2.here hx rfl (hb hby at_93) rfl) ?_
        show Go p e below _ (T2.setTop (mkF m 95 #[.val (.int p1), .val (.int p2), .val (.int (0 : Int32)), .val (.ref w_LESS), .val (.int (1 : Int32)), .val (.int (2 : Int32)), .unset] [(.int (1 : Int32))]))
        refine Go.via (fun _ => XS.iload X2.here hx rfl (hb hby at_95) rfl) ?_
        show Go p e below _ (T2.setTop (mkF m 97 #[.val (.int p1), .val (.int p2), .val (.int (0 : Int32)), .val (.ref w_LESS), .val (.int (1 : Int32)), .val (.int (2 : Int32)), .unset] [(.int (2 : Int32)), (.int (1 : Int32))]))
        refine Go.via (fun _ => XS.ishr X2.here hx rfl (hb hby at_97) rfl) ?_
        show Go p e below _ (T2.setTop (mkF m 98 #[.val (.int p1), .val (.int p2), .val (.int (0 : Int32)), .val (.ref w_LESS), .val (.int (1 : Int32)), .val (.int (2 : Int32)), .unset] [(.int (0 : Int32))]))
        refine Go.via (fun _ => XS.iconst X2.here hx rfl (hb hby at_98)) ?_
        show Go p e below _ (T2.setTop (mkF m 99 #[.val (.int p1), .val (.int p2), .val (.int (0 : Int32)), .val (.ref w_LESS), .val (.int (1 : Int32)), .val (.int (2 : Int32)), .unset] [(.int (1 : Int32)), (.int (0 : Int32))]))
        refine Go.via (fun _ => XS.iand X2.here hx rfl (hb hby at_99) rfl) ?_
        show Go p e below _ (T2.setTop (mkF m 100 #[.val (.int p1), .val (.int p2), .val (.int (0 : Int32)), .val (.ref w_LESS), .val (.int (1 : Int32)), .val (.int (2 : Int32)), .unset] [(.int (0 : Int32))]))
        refine Go.via (fun _ => XS.ifYes X2.here hx rfl (pc0 := 100) (pc' := 107) rfl (hb hby at_100) rfl (by decide) (by decide) (by decide)) ?_
        show Go p e below _ (T2.setTop (mkF m 107 #[.val (.int p1), .val (.int p2), .val (.int (0 : Int32)), .val (.ref w_LESS), .val (.int (1 : Int32)), .val (.int (2 : Int32)), .unset] []))
        refine Go.via (fun _ => XS.iconst X2.here hx rfl (hb hby at_107)) ?_
        show Go p e below _ (T2.setTop (mkF m 108 #[.val (.int p1), .val (.int p2), .val (.int (0 : Int32)), .val (.ref w_LESS), .val (.int (1 : Int32)), .val (.int (2 : Int32)), .unset] [(.int (0 : Int32))]))
        refine Go.via (fun _ => XS.istore X2.here hx rfl (hb hby at_108) rfl (l' := #[.val (.int p1), .val (.int p2), .val (.int (0 : Int32)), .val (.ref w_LESS), .val (.int (1 : Int32)), .val (.int (2 : Int32)), .val (.int (0 : Int32))]) rfl) ?_
        show Go p e below _ (T2.setTop (mkF m 110 #[.val (.int p1), .val (.int p2), .val (.int (0 : Int32)), .val (.ref w_LESS), .val (.int (1 : Int32)), .val (.int (2 : Int32)), .val (.int (0 : Int32))] []))
        refine Go.via (fun _ => XS.aloadN X2.here hx rfl (hb hby at_110) rfl rfl) ?_
        show Go p e below _ (T2.setTop (mkF m 111 #[.val (.int p1), .val (.int p2), .val (.int (0 : Int32)), .val (.ref w_LESS), .val (.int (1 : Int32)), .val (.int (2 : Int32)), .val (.int (0 : Int32))] [(.ref w_LESS)]))
        refine Go.via (fun _ => XS.iloadN X2.here hx rfl (hb hby at_111) rfl) ?_
        show Go p e below _ (T2.setTop (mkF m 112 #[.val (.int p1), .val (.int p2), .val (.int (0 : Int32)), .val (.ref w_LESS), .val (.int (1 : Int32)), .val (.int (2 : Int32)), .val (.int (0 : Int32))] [(.int p2), (.ref w_LESS)]))
        obtain ⟨cq7, kq7, q7a, q7b, q7c⟩ := isOf hZ e2 (E_LESS.ext O0.2)
        obtain ⟨_, _, ⟨T7, L7, k7, n7⟩, -, X7, ⟨Lc7, hQ7, l7, y7, z7⟩, st7⟩ := X2.virtualBack hx (y := (⟨"com/example/permits_from_duties/permitsfromduties/PolicyDocument$Operator", "test", "(I)Z"⟩ : MethodName)) (z := (⟨"com/example/permits_from_duties/permitsfromduties/PolicyDocument$Operator", "test", "(I)Z"⟩ : MethodName)) hown (mvT hZ (hw _ (List.mem_of_getElem? (i := 4) rfl))) (mvT hZ (hw _ (List.mem_of_getElem? (i := 5) rfl))) (notFace_of_selects (args := #[]) (mvT hZ (hw _ (List.mem_of_getElem? (i := 7) rfl)))) (mvT hZ (hw _ (List.mem_of_getElem? (i := 7) rfl))) (mvT hZ (hw _ (List.mem_of_getElem? (i := 6) rfl))) (by decide) (backOf (W := 0) (rm1_02 l Z a0 hw [] w_LESS p2 h0 n0 Z0 (E_LESS.ext O0.2) (F_LESS.ext O0.2) hc3 hc5 (own_sg2 hc3 hc5)) hZ (hw _ (List.mem_of_getElem? (i := 8) rfl)) (hw _ (List.mem_of_getElem? (i := 2) rfl)) (by decide) (by decide)) q7a q7c (g := (mkF m 112 #[.val (.int p1), .val (.int p2), .val (.int (0 : Int32)), .val (.ref w_LESS), .val (.int (1 : Int32)), .val (.int (2 : Int32)), .val (.int (0 : Int32))] [(.int p2), (.ref w_LESS)])) rfl (by rw [hml]; rfl) (Steps.refl _) (argsL := [(.int p2)]) (rest := []) (lenOf pd_1 rfl) rfl (by show 2 * 0 + _ ≤ _; exact Nat.le_of_eq rfl) (hb hby at_112) (fun _ _ => ⟨rfl, e2, (by decide : 0 + 0 ≤ _), (by decide : 0 + 0 ≤ _)⟩)
        dsimp only [Pt.U, Pt.locs, Pt.cells, Pt.slots] at X7 l7 y7 z7 st7 hQ7
        subst l7 y7 z7
        obtain ⟨rfl, N7q, e7q⟩ := hQ7
        have N7 := Fr.app N0 N7q
        refine Go.tr st7 ?_
        show Go p e below _ (T7.setTop (mkF m 115 #[.val (.int p1), .val (.int p2), .val (.int (0 : Int32)), .val (.ref w_LESS), .val (.int (1 : Int32)), .val (.int (2 : Int32)), .val (.int (0 : Int32))] [(.int (0 : Int32))]))
        refine Go.via (fun _ => XS.iload X7.here hx rfl (hb hby at_115) rfl) ?_
        show Go p e below _ (T7.setTop (mkF m 117 #[.val (.int p1), .val (.int p2), .val (.int (0 : Int32)), .val (.ref w_LESS), .val (.int (1 : Int32)), .val (.int (2 : Int32)), .val (.int (0 : Int32))] [(.int (0 : Int32)), (.int (0 : Int32))]))
        refine Go.via (fun _ => XS.icmpNo X7.here hx rfl (hb hby at_117) rfl (by decide)) ?_
        show Go p e below _ (T7.setTop (mkF m 120 #[.val (.int p1), .val (.int p2), .val (.int (0 : Int32)), .val (.ref w_LESS), .val (.int (1 : Int32)), .val (.int (2 : Int32)), .val (.int (0 : Int32))] []))
        refine Go.via (fun _ => XS.iconst X7.here hx rfl (hb hby at_120)) ?_
        show Go p e below _ (T7.setTop (mkF m 121 #[.val (.int p1), .val (.int p2), .val (.int (0 : Int32)), .val (.ref w_LESS), .val (.int (1 : Int32)), .val (.int (2 : Int32)), .val (.int (0 : Int32))] [(.int (1 : Int32))]))
        refine Go.via (fun _ => XS.goto X7.here hx rfl (pc0 := 121) (pc' := 125) rfl (hb hby at_121) (by decide) (by decide)) ?_
        show Go p e below _ (T7.setTop (mkF m 125 #[.val (.int p1), .val (.int p2), .val (.int (0 : Int32)), .val (.ref w_LESS), .val (.int (1 : Int32)), .val (.int (2 : Int32)), .val (.int (0 : Int32))] [(.int (1 : Int32))]))
        exact own_retN X7 hx hlk (t := .boolean) Bd.returns (by simp) (hb hby at_125) (by show Q0 Z p1 p2 w_LESS w_AT_MOST w_EQUAL w_AT_LEAST w_MORE h0 n0 _ T7.heap _; rw [e7q]; exact ⟨rfl, N7⟩) (by decide) (by decide)
  · -- no
    show Go p e below _ (s₁.setTop (mkF m 8 #[.val (.int p1), .val (.int p2), .val (.int k), .unset, .unset, .unset, .unset] [(.int k)]))
    show Go p e below _ (s₁.setTop (mkF m 8 #[.val (.int p1), .val (.int p2), .val (.int k), .unset, .unset, .unset, .unset] [(.int k)]))
    refine Go.via (fun _ => XS.ifYes X0.here hx rfl (pc0 := 8) (pc' := 21) rfl (hb hby at_8) rfl ((if0 _ _).trans (feq hc1).2) (by decide) (by decide)) ?_
    show Go p e below _ (s₁.setTop (mkF m 21 #[.val (.int p1), .val (.int p2), .val (.int k), .unset, .unset, .unset, .unset] []))
    refine Go.via (fun _ => XS.iloadN X0.here hx rfl (hb hby at_21) rfl) ?_
    show Go p e below _ (s₁.setTop (mkF m 22 #[.val (.int p1), .val (.int p2), .val (.int k), .unset, .unset, .unset, .unset] [(.int k)]))
    refine Go.via (fun _ => XS.iconst X0.here hx rfl (hb hby at_22)) ?_
    show Go p e below _ (s₁.setTop (mkF m 23 #[.val (.int p1), .val (.int p2), .val (.int k), .unset, .unset, .unset, .unset] [(.int (1 : Int32)), (.int k)]))
    by_cases hc8 : k = (1 : Int32)
    · -- yes
      subst hc8
      show Go p e below _ (s₁.setTop (mkF m 23 #[.val (.int p1), .val (.int p2), .val (.int (1 : Int32)), .unset, .unset, .unset, .unset] [(.int (1 : Int32)), (.int (1 : Int32))]))
      show Go p e below _ (s₁.setTop (mkF m 23 #[.val (.int p1), .val (.int p2), .val (.int (1 : Int32)), .unset, .unset, .unset, .unset] [(.int (1 : Int32)), (.int (1 : Int32))]))
      refine Go.via (fun _ => XS.icmpNo X0.here hx rfl (hb hby at_23) rfl (by decide)) ?_
      show Go p e below _ (s₁.setTop (mkF m 26 #[.val (.int p1), .val (.int p2), .val (.int (1 : Int32)), .unset, .unset, .unset, .unset] []))
      obtain ⟨T9, X9, e9, st9⟩ := getS2 X0 hx hZ hown (host := "") (Or.inl (hw _ (List.mem_of_getElem? (i := 22) rfl))) Via.refl e0 (S_AT_MOST.ext O0.2) (g := (mkF m 26 #[.val (.int p1), .val (.int p2), .val (.int (1 : Int32)), .unset, .unset, .unset, .unset] [])) rfl (hb hby at_26)
      refine Go.via st9 ?_
      show Go p e below _ (T9.setTop (mkF m 29 #[.val (.int p1), .val (.int p2), .val (.int (1 : Int32)), .unset, .unset, .unset, .unset] [(.ref w_AT_MOST)]))
      refine Go.via (fun _ => XS.astoreN X9.here hx rfl (hb hby at_29) rfl rfl (l' := #[.val (.int p1), .val (.int p2), .val (.int (1 : Int32)), .val (.ref w_AT_MOST), .unset, .unset, .unset]) rfl) ?_
      show Go p e below _ (T9.setTop (mkF m 30 #[.val (.int p1), .val (.int p2), .val (.int (1 : Int32)), .val (.ref w_AT_MOST), .unset, .unset, .unset] []))
      refine Go.via (fun _ => XS.iconst X9.here hx rfl (hb hby at_30)) ?_
      show Go p e below _ (T9.setTop (mkF m 31 #[.val (.int p1), .val (.int p2), .val (.int (1 : Int32)), .val (.ref w_AT_MOST), .unset, .unset, .unset] [(.int (3 : Int32))]))
      refine Go.via (fun _ => XS.istore X9.here hx rfl (hb hby at_31) rfl (l' := #[.val (.int p1), .val (.int p2), .val (.int (1 : Int32)), .val (.ref w_AT_MOST), .val (.int (3 : Int32)), .unset, .unset]) rfl) ?_
      show Go p e below _ (T9.setTop (mkF m 33 #[.val (.int p1), .val (.int p2), .val (.int (1 : Int32)), .val (.ref w_AT_MOST), .val (.int (3 : Int32)), .unset, .unset] []))
      refine Go.via (fun _ => XS.goto X9.here hx rfl (pc0 := 33) (pc' := 74) rfl (hb hby at_33) (by decide) (by decide)) ?_
      show Go p e below _ (T9.setTop (mkF m 74 #[.val (.int p1), .val (.int p2), .val (.int (1 : Int32)), .val (.ref w_AT_MOST), .val (.int (3 : Int32)), .unset, .unset] []))
      refine Go.via (fun _ => XS.iloadN X9.here hx rfl (hb hby at_74) rfl) ?_
      show Go p e below _ (T9.setTop (mkF m 75 #[.val (.int p1), .val (.int p2), .val (.int (1 : Int32)), .val (.ref w_AT_MOST), .val (.int (3 : Int32)), .unset, .unset] [(.int p2)]))
      by_cases hc10 : p2 < (0 : Int32)
      · -- yes
        show Go p e below _ (T9.setTop (mkF m 75 #[.val (.int p1), .val (.int p2), .val (.int (1 : Int32)), .val (.ref w_AT_MOST), .val (.int (3 : Int32)), .unset, .unset] [(.int p2)]))
        show Go p e below _ (T9.setTop (mkF m 75 #[.val (.int p1), .val (.int p2), .val (.int (1 : Int32)), .val (.ref w_AT_MOST), .val (.int (3 : Int32)), .unset, .unset] [(.int p2)]))
        refine Go.via (fun _ => XS.ifNo X9.here hx rfl (hb hby at_75) rfl ((if0 _ _).trans (tlt hc10).2.1)) ?_
        show Go p e below _ (T9.setTop (mkF m 78 #[.val (.int p1), .val (.int p2), .val (.int (1 : Int32)), .val (.ref w_AT_MOST), .val (.int (3 : Int32)), .unset, .unset] []))
        refine Go.via (fun _ => XS.iconst X9.here hx rfl (hb hby at_78)) ?_
        show Go p e below _ (T9.setTop (mkF m 79 #[.val (.int p1), .val (.int p2), .val (.int (1 : Int32)), .val (.ref w_AT_MOST), .val (.int (3 : Int32)), .unset, .unset] [(.int (0 : Int32))]))
        refine Go.via (fun _ => XS.goto X9.here hx rfl (pc0 := 79) (pc' := 91) rfl (hb hby at_79) (by decide) (by decide)) ?_
        show Go p e below _ (T9.setTop (mkF m 91 #[.val (.int p1), .val (.int p2), .val (.int (1 : Int32)), .val (.ref w_AT_MOST), .val (.int (3 : Int32)), .unset, .unset] [(.int (0 : Int32))]))
        refine Go.via (fun _ => XS.istore X9.here hx rfl (hb hby at_91) rfl (l' := #[.val (.int p1), .val (.int p2), .val (.int (1 : Int32)), .val (.ref w_AT_MOST), .val (.int (3 : Int32)), .val (.int (0 : Int32)), .unset]) rfl) ?_
        show Go p e below _ (T9.setTop (mkF m 93 #[.val (.int p1), .val (.int p2), .val (.int (1 : Int32)), .val (.ref w_AT_MOST), .val (.int (3 : Int32)), .val (.int (0 : Int32)), .unset] []))
        refine Go.via (fun _ => XS.iload X9.here hx rfl (hb hby at_93) rfl) ?_
        show Go p e below _ (T9.setTop (mkF m 95 #[.val (.int p1), .val (.int p2), .val (.int (1 : Int32)), .val (.ref w_AT_MOST), .val (.int (3 : Int32)), .val (.int (0 : Int32)), .unset] [(.int (3 : Int32))]))
        refine Go.via (fun _ => XS.iload X9.here hx rfl (hb hby at_95) rfl) ?_
        show Go p e below _ (T9.setTop (mkF m 97 #[.val (.int p1), .val (.int p2), .val (.int (1 : Int32)), .val (.ref w_AT_MOST), .val (.int (3 : Int32)), .val (.int (0 : Int32)), .unset] [(.int (0 : Int32)), (.int (3 : Int32))]))
        refine Go.via (fun _ => XS.ishr X9.here hx rfl (hb hby at_97) rfl) ?_
        show Go p e below _ (T9.setTop (mkF m 98 #[.val (.int p1), .val (.int p2), .val (.int (1 : Int32)), .val (.ref w_AT_MOST), .val (.int (3 : Int32)), .val (.int (0 : Int32)), .unset] [(.int (3 : Int32))]))
        refine Go.via (fun _ => XS.iconst X9.here hx rfl (hb hby at_98)) ?_
        show Go p e below _ (T9.setTop (mkF m 99 #[.val (.int p1), .val (.int p2), .val (.int (1 : Int32)), .val (.ref w_AT_MOST), .val (.int (3 : Int32)), .val (.int (0 : Int32)), .unset] [(.int (1 : Int32)), (.int (3 : Int32))]))
        refine Go.via (fun _ => XS.iand X9.here hx rfl (hb hby at_99) rfl) ?_
        show Go p e below _ (T9.setTop (mkF m 100 #[.val (.int p1), .val (.int p2), .val (.int (1 : Int32)), .val (.ref w_AT_MOST), .val (.int (3 : Int32)), .val (.int (0 : Int32)), .unset] [(.int (1 : Int32))]))
        refine Go.via (fun _ => XS.ifNo X9.here hx rfl (hb hby at_100) rfl (by decide)) ?_
        show Go p e below _ (T9.setTop (mkF m 103 #[.val (.int p1), .val (.int p2), .val (.int (1 : Int32)), .val (.ref w_AT_MOST), .val (.int (3 : Int32)), .val (.int (0 : Int32)), .unset] []))
        refine Go.via (fun _ => XS.iconst X9.here hx rfl (hb hby at_103)) ?_
        show Go p e below _ (T9.setTop (mkF m 104 #[.val (.int p1), .val (.int p2), .val (.int (1 : Int32)), .val (.ref w_AT_MOST), .val (.int (3 : Int32)), .val (.int (0 : Int32)), .unset] [(.int (1 : Int32))]))
        refine Go.via (fun _ => XS.goto X9.here hx rfl (pc0 := 104) (pc' := 108) rfl (hb hby at_104) (by decide) (by decide)) ?_
        show Go p e below _ (T9.setTop (mkF m 108 #[.val (.int p1), .val (.int p2), .val (.int (1 : Int32)), .val (.ref w_AT_MOST), .val (.int (3 : Int32)), .val (.int (0 : Int32)), .unset] [(.int (1 : Int32))]))
        refine Go.via (fun _ => XS.istore X9.here hx rfl (hb hby at_108) rfl (l' := #[.val (.int p1), .val (.int p2), .val (.int (1 : Int32)), .val (.ref w_AT_MOST), .val (.int (3 : Int32)), .val (.int (0 : Int32)), .val (.int (1 : Int32))]) rfl) ?_
        show Go p e below _ (T9.setTop (mkF m 110 #[.val (.int p1), .val (.int p2), .val (.int (1 : Int32)), .val (.ref w_AT_MOST), .val (.int (3 : Int32)), .val (.int (0 : Int32)), .val (.int (1 : Int32))] []))
        refine Go.via (fun _ => XS.aloadN X9.here hx rfl (hb hby at_110) rfl rfl) ?_
        show Go p e below _ (T9.setTop (mkF m 111 #[.val (.int p1), .val (.int p2), .val (.int (1 : Int32)), .val (.ref w_AT_MOST), .val (.int (3 : Int32)), .val (.int (0 : Int32)), .val (.int (1 : Int32))] [(.ref w_AT_MOST)]))
        refine Go.via (fun _ => XS.iloadN X9.here hx rfl (hb hby at_111) rfl) ?_
        show Go p e below _ (T9.setTop (mkF m 112 #[.val (.int p1), .val (.int p2), .val (.int (1 : Int32)), .val (.ref w_AT_MOST), .val (.int (3 : Int32)), .val (.int (0 : Int32)), .val (.int (1 : Int32))] [(.int p2), (.ref w_AT_MOST)]))
        obtain ⟨cq11, kq11, q11a, q11b, q11c⟩ := isOf hZ e9 (E_AT_MOST.ext O0.2)
        obtain ⟨_, _, ⟨T11, L11, k11, n11⟩, -, X11, ⟨Lc11, hQ11, l11, y11, z11⟩, st11⟩ := X9.virtualBack hx (y := (⟨"com/example/permits_from_duties/permitsfromduties/PolicyDocument$Operator", "test", "(I)Z"⟩ : MethodName)) (z := (⟨"com/example/permits_from_duties/permitsfromduties/PolicyDocument$Operator", "test", "(I)Z"⟩ : MethodName)) hown (mvT hZ (hw _ (List.mem_of_getElem? (i := 4) rfl))) (mvT hZ (hw _ (List.mem_of_getElem? (i := 5) rfl))) (notFace_of_selects (args := #[]) (mvT hZ (hw _ (List.mem_of_getElem? (i := 7) rfl)))) (mvT hZ (hw _ (List.mem_of_getElem? (i := 7) rfl))) (mvT hZ (hw _ (List.mem_of_getElem? (i := 6) rfl))) (by decide) (backOf (W := 0) (rm1_10 l Z a0 hw [] w_AT_MOST p2 h0 n0 Z0 (E_AT_MOST.ext O0.2) (F_AT_MOST.ext O0.2) hc10 (own_sg0 hc10).1 (own_sg0 hc10).2) hZ (hw _ (List.mem_of_getElem? (i := 8) rfl)) (hw _ (List.mem_of_getElem? (i := 2) rfl)) (by decide) (by decide)) q11a q11c (g := (mkF m 112 #[.val (.int p1), .val (.int p2), .val (.int (1 : Int32)), .val (.ref w_AT_MOST), .val (.int (3 : Int32)), .val (.int (0 : Int32)), .val (.int (1 : Int32))] [(.int p2), (.ref w_AT_MOST)])) rfl (by rw [hml]; rfl) (Steps.refl _) (argsL := [(.int p2)]) (rest := []) (lenOf pd_1 rfl) rfl (by show 2 * 0 + _ ≤ _; exact Nat.le_of_eq rfl) (hb hby at_112) (fun _ _ => ⟨rfl, e9, (by decide : 0 + 0 ≤ _), (by decide : 0 + 0 ≤ _)⟩)
        dsimp only [Pt.U, Pt.locs, Pt.cells, Pt.slots] at X11 l11 y11 z11 st11 hQ11
        subst l11 y11 z11
        obtain ⟨rfl, N11q, e11q⟩ := hQ11
        have N11 := Fr.app N0 N11q
        refine Go.tr st11 ?_
        show Go p e below _ (T11.setTop (mkF m 115 #[.val (.int p1), .val (.int p2), .val (.int (1 : Int32)), .val (.ref w_AT_MOST), .val (.int (3 : Int32)), .val (.int (0 : Int32)), .val (.int (1 : Int32))] [(.int (1 : Int32))]))
        refine Go.via (fun _ => XS.iload X11.here hx rfl (hb hby at_115) rfl) ?_
        show Go p e below _ (T11.setTop (mkF m 117 #[.val (.int p1), .val (.int p2), .val (.int (1 : Int32)), .val (.ref w_AT_MOST), .val (.int (3 : Int32)), .val (.int (0 : Int32)), .val (.int (1 : Int32))] [(.int (1 : Int32)), (.int (1 : Int32))]))
        refine Go.via (fun _ => XS.icmpNo X11.here hx rfl (hb hby at_117) rfl (by decide)) ?_
        show Go p e below _ (T11.setTop (mkF m 120 #[.val (.int p1), .val (.int p2), .val (.int (1 : Int32)), .val (.ref w_AT_MOST), .val (.int (3 : Int32)), .val (.int (0 : Int32)), .val (.int (1 : Int32))] []))
        refine Go.via (fun _ => XS.iconst X11.here hx rfl (hb hby at_120)) ?_
        show Go p e below _ (T11.setTop (mkF m 121 #[.val (.int p1), .val (.int p2), .val (.int (1 : Int32)), .val (.ref w_AT_MOST), .val (.int (3 : Int32)), .val (.int (0 : Int32)), .val (.int (1 : Int32))] [(.int (1 : Int32))]))
        refine Go.via (fun _ => XS.goto X11.here hx rfl (pc0 := 121) (pc' := 125) rfl (hb hby at_121) (by decide) (by decide)) ?_
        show Go p e below _ (T11.setTop (mkF m 125 #[.val (.int p1), .val (.int p2), .val (.int (1 : Int32)), .val (.ref w_AT_MOST), .val (.int (3 : Int32)), .val (.int (0 : Int32)), .val (.int (1 : Int32))] [(.int (1 : Int32))]))
        exact own_retN X11 hx hlk (t := .boolean) Bd.returns (by simp) (hb hby at_125) (by show Q0 Z p1 p2 w_LESS w_AT_MOST w_EQUAL w_AT_LEAST w_MORE h0 n0 _ T11.heap _; rw [e11q]; exact ⟨rfl, N11⟩) (by decide) (by decide)
      · -- no
        show Go p e below _ (T9.setTop (mkF m 75 #[.val (.int p1), .val (.int p2), .val (.int (1 : Int32)), .val (.ref w_AT_MOST), .val (.int (3 : Int32)), .unset, .unset] [(.int p2)]))
        show Go p e below _ (T9.setTop (mkF m 75 #[.val (.int p1), .val (.int p2), .val (.int (1 : Int32)), .val (.ref w_AT_MOST), .val (.int (3 : Int32)), .unset, .unset] [(.int p2)]))
        refine Go.via (fun _ => XS.ifYes X9.here hx rfl (pc0 := 75) (pc' := 82) rfl (hb hby at_75) rfl ((if0 _ _).trans (flt hc10).2.1) (by decide) (by decide)) ?_
        show Go p e below _ (T9.setTop (mkF m 82 #[.val (.int p1), .val (.int p2), .val (.int (1 : Int32)), .val (.ref w_AT_MOST), .val (.int (3 : Int32)), .unset, .unset] []))
        refine Go.via (fun _ => XS.iloadN X9.here hx rfl (hb hby at_82) rfl) ?_
        show Go p e below _ (T9.setTop (mkF m 83 #[.val (.int p1), .val (.int p2), .val (.int (1 : Int32)), .val (.ref w_AT_MOST), .val (.int (3 : Int32)), .unset, .unset] [(.int p2)]))
        by_cases hc12 : p2 = (0 : Int32)
        · -- yes
          show Go p e below _ (T9.setTop (mkF m 83 #[.val (.int p1), .val (.int p2), .val (.int (1 : Int32)), .val (.ref w_AT_MOST), .val (.int (3 : Int32)), .unset, .unset] [(.int p2)]))
          show Go p e below _ (T9.setTop (mkF m 83 #[.val (.int p1), .val (.int p2), .val (.int (1 : Int32)), .val (.ref w_AT_MOST), .val (.int (3 : Int32)), .unset, .unset] [(.int p2)]))
          refine Go.via (fun _ => XS.ifNo X9.here hx rfl (hb hby at_83) rfl ((if0 _ _).trans (teq hc12).2)) ?_
          show Go p e below _ (T9.setTop (mkF m 86 #[.val (.int p1), .val (.int p2), .val (.int (1 : Int32)), .val (.ref w_AT_MOST), .val (.int (3 : Int32)), .unset, .unset] []))
          refine Go.via (fun _ => XS.iconst X9.here hx rfl (hb hby at_86)) ?_
          show Go p e below _ (T9.setTop (mkF m 87 #[.val (.int p1), .val (.int p2), .val (.int (1 : Int32)), .val (.ref w_AT_MOST), .val (.int (3 : Int32)), .unset, .unset] [(.int (1 : Int32))]))
          refine Go.via (fun _ => XS.goto X9.here hx rfl (pc0 := 87) (pc' := 91) rfl (hb hby at_87) (by decide) (by decide)) ?_
          show Go p e below _ (T9.setTop (mkF m 91 #[.val (.int p1), .val (.int p2), .val (.int (1 : Int32)), .val (.ref w_AT_MOST), .val (.int (3 : Int32)), .unset, .unset] [(.int (1 : Int32))]))
          refine Go.via (fun _ => XS.istore X9.here hx rfl (hb hby at_91) rfl (l' := #[.val (.int p1), .val (.int p2), .val (.int (1 : Int32)), .val (.ref w_AT_MOST), .val (.int (3 : Int32)), .val (.int (1 : Int32)), .unset]) rfl) ?_
          show Go p e below _ (T9.setTop (mkF m 93 #[.val (.int p1), .val (.int p2), .val (.int (1 : Int32)), .val (.ref w_AT_MOST), .val (.int (3 : Int32)), .val (.int (1 : Int32)), .unset] []))
          refine Go.via (fun _ => XS.iload X9.here hx rfl (hb hby at_93) rfl) ?_
          show Go p e below _ (T9.setTop (mkF m 95 #[.val (.int p1), .val (.int p2), .val (.int (1 : Int32)), .val (.ref w_AT_MOST), .val (.int (3 : Int32)), .val (.int (1 : Int32)), .unset] [(.int (3 : Int32))]))
          refine Go.via (fun _ => XS.iload X9.here hx rfl (hb hby at_95) rfl) ?_
          show Go p e below _ (T9.setTop (mkF m 97 #[.val (.int p1), .val (.int p2), .val (.int (1 : Int32)), .val (.ref w_AT_MOST), .val (.int (3 : Int32)), .val (.int (1 : Int32)), .unset] [(.int (1 : Int32)), (.int (3 : Int32))]))
          refine Go.via (fun _ => XS.ishr X9.here hx rfl (hb hby at_97) rfl) ?_
          show Go p e below _ (T9.setTop (mkF m 98 #[.val (.int p1), .val (.int p2), .val (.int (1 : Int32)), .val (.ref w_AT_MOST), .val (.int (3 : Int32)), .val (.int (1 : Int32)), .unset] [(.int (1 : Int32))]))
          refine Go.via (fun _ => XS.iconst X9.here hx rfl (hb hby at_98)) ?_
          show Go p e below _ (T9.setTop (mkF m 99 #[.val (.int p1), .val (.int p2), .val (.int (1 : Int32)), .val (.ref w_AT_MOST), .val (.int (3 : Int32)), .val (.int (1 : Int32)), .unset] [(.int (1 : Int32)), (.int (1 : Int32))]))
          refine Go.via (fun _ => XS.iand X9.here hx rfl (hb hby at_99) rfl) ?_
          show Go p e below _ (T9.setTop (mkF m 100 #[.val (.int p1), .val (.int p2), .val (.int (1 : Int32)), .val (.ref w_AT_MOST), .val (.int (3 : Int32)), .val (.int (1 : Int32)), .unset] [(.int (1 : Int32))]))
          refine Go.via (fun _ => XS.ifNo X9.here hx rfl (hb hby at_100) rfl (by decide)) ?_
          show Go p e below _ (T9.setTop (mkF m 103 #[.val (.int p1), .val (.int p2), .val (.int (1 : Int32)), .val (.ref w_AT_MOST), .val (.int (3 : Int32)), .val (.int (1 : Int32)), .unset] []))
          refine Go.via (fun _ => XS.iconst X9.here hx rfl (hb hby at_103)) ?_
          show Go p e below _ (T9.setTop (mkF m 104 #[.val (.int p1), .val (.int p2), .val (.int (1 : Int32)), .val (.ref w_AT_MOST), .val (.int (3 : Int32)), .val (.int (1 : Int32)), .unset] [(.int (1 : Int32))]))
          refine Go.via (fun _ => XS.goto X9.here hx rfl (pc0 := 104) (pc' := 108) rfl (hb hby at_104) (by decide) (by decide)) ?_
          show Go p e below _ (T9.setTop (mkF m 108 #[.val (.int p1), .val (.int p2), .val (.int (1 : Int32)), .val (.ref w_AT_MOST), .val (.int (3 : Int32)), .val (.int (1 : Int32)), .unset] [(.int (1 : Int32))]))
          refine Go.via (fun _ => XS.istore X9.here hx rfl (hb hby at_108) rfl (l' := #[.val (.int p1), .val (.int p2), .val (.int (1 : Int32)), .val (.ref w_AT_MOST), .val (.int (3 : Int32)), .val (.int (1 : Int32)), .val (.int (1 : Int32))]) rfl) ?_
          show Go p e below _ (T9.setTop (mkF m 110 #[.val (.int p1), .val (.int p2), .val (.int (1 : Int32)), .val (.ref w_AT_MOST), .val (.int (3 : Int32)), .val (.int (1 : Int32)), .val (.int (1 : Int32))] []))
          refine Go.via (fun _ => XS.aloadN X9.here hx rfl (hb hby at_110) rfl rfl) ?_
          show Go p e below _ (T9.setTop (mkF m 111 #[.val (.int p1), .val (.int p2), .val (.int (1 : Int32)), .val (.ref w_AT_MOST), .val (.int (3 : Int32)), .val (.int (1 : Int32)), .val (.int (1 : Int32))] [(.ref w_AT_MOST)]))
          refine Go.via (fun _ => XS.iloadN X9.here hx rfl (hb hby at_111) rfl) ?_
          show Go p e below _ (T9.setTop (mkF m 112 #[.val (.int p1), .val (.int p2), .val (.int (1 : Int32)), .val (.ref w_AT_MOST), .val (.int (3 : Int32)), .val (.int (1 : Int32)), .val (.int (1 : Int32))] [(.int p2), (.ref w_AT_MOST)]))
          obtain ⟨cq13, kq13, q13a, q13b, q13c⟩ := isOf hZ e9 (E_AT_MOST.ext O0.2)
          obtain ⟨_, _, ⟨T13, L13, k13, n13⟩, -, X13, ⟨Lc13, hQ13, l13, y13, z13⟩, st13⟩ := X9.virtualBack hx (y := (⟨"com/example/permits_from_duties/permitsfromduties/PolicyDocument$Operator", "test", "(I)Z"⟩ : MethodName)) (z := (⟨"com/example/permits_from_duties/permitsfromduties/PolicyDocument$Operator", "test", "(I)Z"⟩ : MethodName)) hown (mvT hZ (hw _ (List.mem_of_getElem? (i := 4) rfl))) (mvT hZ (hw _ (List.mem_of_getElem? (i := 5) rfl))) (notFace_of_selects (args := #[]) (mvT hZ (hw _ (List.mem_of_getElem? (i := 7) rfl)))) (mvT hZ (hw _ (List.mem_of_getElem? (i := 7) rfl))) (mvT hZ (hw _ (List.mem_of_getElem? (i := 6) rfl))) (by decide) (backOf (W := 0) (rm1_11 l Z a0 hw [] w_AT_MOST p2 h0 n0 Z0 (E_AT_MOST.ext O0.2) (F_AT_MOST.ext O0.2) (own_sg1 hc12).1 hc12 (own_sg1 hc12).2) hZ (hw _ (List.mem_of_getElem? (i := 8) rfl)) (hw _ (List.mem_of_getElem? (i := 2) rfl)) (by decide) (by decide)) q13a q13c (g := (mkF m 112 #[.val (.int p1), .val (.int p2), .val (.int (1 : Int32)), .val (.ref w_AT_MOST), .val (.int (3 : Int32)), .val (.int (1 : Int32)), .val (.int (1 : Int32))] [(.int p2), (.ref w_AT_MOST)])) rfl (by rw [hml]; rfl) (Steps.refl _) (argsL := [(.int p2)]) (rest := []) (lenOf pd_1 rfl) rfl (by show 2 * 0 + _ ≤ _; exact Nat.le_of_eq rfl) (hb hby at_112) (fun _ _ => ⟨rfl, e9, (by decide : 0 + 0 ≤ _), (by decide : 0 + 0 ≤ _)⟩)
          dsimp only [Pt.U, Pt.locs, Pt.cells, Pt.slots] at X13 l13 y13 z13 st13 hQ13
          subst l13 y13 z13
          obtain ⟨rfl, N13q, e13q⟩ := hQ13
          have N13 := Fr.app N0 N13q
          refine Go.tr st13 ?_
          show Go p e below _ (T13.setTop (mkF m 115 #[.val (.int p1), .val (.int p2), .val (.int (1 : Int32)), .val (.ref w_AT_MOST), .val (.int (3 : Int32)), .val (.int (1 : Int32)), .val (.int (1 : Int32))] [(.int (1 : Int32))]))
          refine Go.via (fun _ => XS.iload X13.here hx rfl (hb hby at_115) rfl) ?_
          show Go p e below _ (T13.setTop (mkF m 117 #[.val (.int p1), .val (.int p2), .val (.int (1 : Int32)), .val (.ref w_AT_MOST), .val (.int (3 : Int32)), .val (.int (1 : Int32)), .val (.int (1 : Int32))] [(.int (1 : Int32)), (.int (1 : Int32))]))
          refine Go.via (fun _ => XS.icmpNo X13.here hx rfl (hb hby at_117) rfl (by decide)) ?_
          show Go p e below _ (T13.setTop (mkF m 120 #[.val (.int p1), .val (.int p2), .val (.int (1 : Int32)), .val (.ref w_AT_MOST), .val (.int (3 : Int32)), .val (.int (1 : Int32)), .val (.int (1 : Int32))] []))
          refine Go.via (fun _ => XS.iconst X13.here hx rfl (hb hby at_120)) ?_
          show Go p e below _ (T13.setTop (mkF m 121 #[.val (.int p1), .val (.int p2), .val (.int (1 : Int32)), .val (.ref w_AT_MOST), .val (.int (3 : Int32)), .val (.int (1 : Int32)), .val (.int (1 : Int32))] [(.int (1 : Int32))]))
          refine Go.via (fun _ => XS.goto X13.here hx rfl (pc0 := 121) (pc' := 125) rfl (hb hby at_121) (by decide) (by decide)) ?_
          show Go p e below _ (T13.setTop (mkF m 125 #[.val (.int p1), .val (.int p2), .val (.int (1 : Int32)), .val (.ref w_AT_MOST), .val (.int (3 : Int32)), .val (.int (1 : Int32)), .val (.int (1 : Int32))] [(.int (1 : Int32))]))
          exact own_retN X13 hx hlk (t := .boolean) Bd.returns (by simp) (hb hby at_125) (by show Q0 Z p1 p2 w_LESS w_AT_MOST w_EQUAL w_AT_LEAST w_MORE h0 n0 _ T13.heap _; rw [e13q]; exact ⟨rfl, N13⟩) (by decide) (by decide)
        · -- no
          show Go p e below _ (T9.setTop (mkF m 83 #[.val (.int p1), .val (.int p2), .val (.int (1 : Int32)), .val (.ref w_AT_MOST), .val (.int (3 : Int32)), .unset, .unset] [(.int p2)]))
          show Go p e below _ (T9.setTop (mkF m 83 #[.val (.int p1), .val (.int p2), .val (.int (1 : Int32)), .val (.ref w_AT_MOST), .val (.int (3 : Int32)), .unset, .unset] [(.int p2)]))
          refine Go.via (fun _ => XS.ifYes X9.here hx rfl (pc0 := 83) (pc' := 90) rfl (hb hby at_83) rfl ((if0 _ _).trans (feq hc12).2) (by decide) (by decide)) ?_
          show Go p e below _ (T9.setTop (mkF m 90 #[.val (.int p1), .val (.int p2), .val (.int (1 : Int32)), .val (.ref w_AT_MOST), .val (.int (3 : Int32)), .unset, .unset] []))
          refine Go.via (fun _ => XS.iconst X9.here hx rfl (hb hby at_90)) ?_
          show Go p e below _ (T9.setTop (mkF m 91 #[.val (.int p1), .val (.int p2), .val (.int (1 : Int32)), .val (.ref w_AT_MOST), .val (.int (3 : Int32)), .unset, .unset] [(.int (2 : Int32))]))
          refine Go.via (fun _ => XS.istore X9.here hx rfl (hb hby at_91) rfl (l' := #[.val (.int p1), .val (.int p2), .val (.int (1 : Int32)), .val (.ref w_AT_MOST), .val (.int (3 : Int32)), .val (.int (2 : Int32)), .unset]) rfl) ?_
          show Go p e below _ (T9.setTop (mkF m 93 #[.val (.int p1), .val (.int p2), .val (.int (1 : Int32)), .val (.ref w_AT_MOST), .val (.int (3 : Int32)), .val (.int (2 : Int32)), .unset] []))
          refine Go.via (fun _ => XS.iload X9.here hx rfl (hb hby at_93) rfl) ?_
          show Go p e below _ (T9.setTop (mkF m 95 #[.val (.int p1), .val (.int p2), .val (.int (1 : Int32)), .val (.ref w_AT_MOST), .val (.int (3 : Int32)), .val (.int (2 : Int32)), .unset] [(.int (3 : Int32))]))
          refine Go.via (fun _ => XS.iload X9.here hx rfl (hb hby at_95) rfl) ?_
          show Go p e below _ (T9.setTop (mkF m 97 #[.val (.int p1), .val (.int p2), .val (.int (1 : Int32)), .val (.ref w_AT_MOST), .val (.int (3 : Int32)), .val (.int (2 : Int32)), .unset] [(.int (2 : Int32)), (.int (3 : Int32))]))
          refine Go.via (fun _ => XS.ishr X9.here hx rfl (hb hby at_97) rfl) ?_
          show Go p e below _ (T9.setTop (mkF m 98 #[.val (.int p1), .val (.int p2), .val (.int (1 : Int32)), .val (.ref w_AT_MOST), .val (.int (3 : Int32)), .val (.int (2 : Int32)), .unset] [(.int (0 : Int32))]))
          refine Go.via (fun _ => XS.iconst X9.here hx rfl (hb hby at_98)) ?_
          show Go p e below _ (T9.setTop (mkF m 99 #[.val (.int p1), .val (.int p2), .val (.int (1 : Int32)), .val (.ref w_AT_MOST), .val (.int (3 : Int32)), .val (.int (2 : Int32)), .unset] [(.int (1 : Int32)), (.int (0 : Int32))]))
          refine Go.via (fun _ => XS.iand X9.here hx rfl (hb hby at_99) rfl) ?_
          show Go p e below _ (T9.setTop (mkF m 100 #[.val (.int p1), .val (.int p2), .val (.int (1 : Int32)), .val (.ref w_AT_MOST), .val (.int (3 : Int32)), .val (.int (2 : Int32)), .unset] [(.int (0 : Int32))]))
          refine Go.via (fun _ => XS.ifYes X9.here hx rfl (pc0 := 100) (pc' := 107) rfl (hb hby at_100) rfl (by decide) (by decide) (by decide)) ?_
          show Go p e below _ (T9.setTop (mkF m 107 #[.val (.int p1), .val (.int p2), .val (.int (1 : Int32)), .val (.ref w_AT_MOST), .val (.int (3 : Int32)), .val (.int (2 : Int32)), .unset] []))
          refine Go.via (fun _ => XS.iconst X9.here hx rfl (hb hby at_107)) ?_
          show Go p e below _ (T9.setTop (mkF m 108 #[.val (.int p1), .val (.int p2), .val (.int (1 : Int32)), .val (.ref w_AT_MOST), .val (.int (3 : Int32)), .val (.int (2 : Int32)), .unset] [(.int (0 : Int32))]))
          refine Go.via (fun _ => XS.istore X9.here hx rfl (hb hby at_108) rfl (l' := #[.val (.int p1), .val (.int p2), .val (.int (1 : Int32)), .val (.ref w_AT_MOST), .val (.int (3 : Int32)), .val (.int (2 : Int32)), .val (.int (0 : Int32))]) rfl) ?_
          show Go p e below _ (T9.setTop (mkF m 110 #[.val (.int p1), .val (.int p2), .val (.int (1 : Int32)), .val (.ref w_AT_MOST), .val (.int (3 : Int32)), .val (.int (2 : Int32)), .val (.int (0 : Int32))] []))
          refine Go.via (fun _ => XS.aloadN X9.here hx rfl (hb hby at_110) rfl rfl) ?_
          show Go p e below _ (T9.setTop (mkF m 111 #[.val (.int p1), .val (.int p2), .val (.int (1 : Int32)), .val (.ref w_AT_MOST), .val (.int (3 : Int32)), .val (.int (2 : Int32)), .val (.int (0 : Int32))] [(.ref w_AT_MOST)]))
          refine Go.via (fun _ => XS.iloadN X9.here hx rfl (hb hby at_111) rfl) ?_
          show Go p e below _ (T9.setTop (mkF m 112 #[.val (.int p1), .val (.int p2), .val (.int (1 : Int32)), .val (.ref w_AT_MOST), .val (.int (3 : Int32)), .val (.int (2 : Int32)), .val (.int (0 : Int32))] [(.int p2), (.ref w_AT_MOST)]))
          obtain ⟨cq14, kq14, q14a, q14b, q14c⟩ := isOf hZ e9 (E_AT_MOST.ext O0.2)
          obtain ⟨_, _, ⟨T14, L14, k14, n14⟩, -, X14, ⟨Lc14, hQ14, l14, y14, z14⟩, st14⟩ := X9.virtualBack hx (y := (⟨"com/example/permits_from_duties/permitsfromduties/PolicyDocument$Operator", "test", "(I)Z"⟩ : MethodName)) (z := (⟨"com/example/permits_from_duties/permitsfromduties/PolicyDocument$Operator", "test", "(I)Z"⟩ : MethodName)) hown (mvT hZ (hw _ (List.mem_of_getElem? (i := 4) rfl))) (mvT hZ (hw _ (List.mem_of_getElem? (i := 5) rfl))) (notFace_of_selects (args := #[]) (mvT hZ (hw _ (List.mem_of_getElem? (i := 7) rfl)))) (mvT hZ (hw _ (List.mem_of_getElem? (i := 7) rfl))) (mvT hZ (hw _ (List.mem_of_getElem? (i := 6) rfl))) (by decide) (backOf (W := 0) (rm1_12 l Z a0 hw [] w_AT_MOST p2 h0 n0 Z0 (E_AT_MOST.ext O0.2) (F_AT_MOST.ext O0.2) hc10 hc12 (own_sg2 hc10 hc12)) hZ (hw _ (List.mem_of_getElem? (i := 8) rfl)) (hw _ (List.mem_of_getElem? (i := 2) rfl)) (by decide) (by decide)) q14a q14c (g := (mkF m 112 #[.val (.int p1), .val (.int p2), .val (.int (1 : Int32)), .val (.ref w_AT_MOST), .val (.int (3 : Int32)), .val (.int (2 : Int32)), .val (.int (0 : Int32))] [(.int p2), (.ref w_AT_MOST)])) rfl (by rw [hml]; rfl) (Steps.refl _) (argsL := [(.int p2)]) (rest := []) (lenOf pd_1 rfl) rfl (by show 2 * 0 + _ ≤ _; exact Nat.le_of_eq rfl) (hb hby at_112) (fun _ _ => ⟨rfl, e9, (by decide : 0 + 0 ≤ _), (by decide : 0 + 0 ≤ _)⟩)
          dsimp only [Pt.U, Pt.locs, Pt.cells, Pt.slots] at X14 l14 y14 z14 st14 hQ14
          subst l14 y14 z14
          obtain ⟨rfl, N14q, e14q⟩ := hQ14
          have N14 := Fr.app N0 N14q
          refine Go.tr st14 ?_
          show Go p e below _ (T14.setTop (mkF m 115 #[.val (.int p1), .val (.int p2), .val (.int (1 : Int32)), .val (.ref w_AT_MOST), .val (.int (3 : Int32)), .val (.int (2 : Int32)), .val (.int (0 : Int32))] [(.int (0 : Int32))]))
          refine Go.via (fun _ => XS.iload X14.here hx rfl (hb hby at_115) rfl) ?_
          show Go p e below _ (T14.setTop (mkF m 117 #[.val (.int p1), .val (.int p2), .val (.int (1 : Int32)), .val (.ref w_AT_MOST), .val (.int (3 : Int32)), .val (.int (2 : Int32)), .val (.int (0 : Int32))] [(.int (0 : Int32)), (.int (0 : Int32))]))
          refine Go.via (fun _ => XS.icmpNo X14.here hx rfl (hb hby at_117) rfl (by decide)) ?_
          show Go p e below _ (T14.setTop (mkF m 120 #[.val (.int p1), .val (.int p2), .val (.int (1 : Int32)), .val (.ref w_AT_MOST), .val (.int (3 : Int32)), .val (.int (2 : Int32)), .val (.int (0 : Int32))] []))
          refine Go.via (fun _ => XS.iconst X14.here hx rfl (hb hby at_120)) ?_
          show Go p e below _ (T14.setTop (mkF m 121 #[.val (.int p1), .val (.int p2), .val (.int (1 : Int32)), .val (.ref w_AT_MOST), .val (.int (3 : Int32)), .val (.int (2 : Int32)), .val (.int (0 : Int32))] [(.int (1 : Int32))]))
          refine Go.via (fun _ => XS.goto X14.here hx rfl (pc0 := 121) (pc' := 125) rfl (hb hby at_121) (by decide) (by decide)) ?_
          show Go p e below _ (T14.setTop (mkF m 125 #[.val (.int p1), .val (.int p2), .val (.int (1 : Int32)), .val (.ref w_AT_MOST), .val (.int (3 : Int32)), .val (.int (2 : Int32)), .val (.int (0 : Int32))] [(.int (1 : Int32))]))
          exact own_retN X14 hx hlk (t := .boolean) Bd.returns (by simp) (hb hby at_125) (by show Q0 Z p1 p2 w_LESS w_AT_MOST w_EQUAL w_AT_LEAST w_MORE h0 n0 _ T14.heap _; rw [e14q]; exact ⟨rfl, N14⟩) (by decide) (by decide)
    · -- no
      show Go p e below _ (s₁.setTop (mkF m 23 #[.val (.int p1), .val (.int p2), .val (.int k), .unset, .unset, .unset, .unset] [(.int (1 : Int32)), (.int k)]))
      show Go p e below _ (s₁.setTop (mkF m 23 #[.val (.int p1), .val (.int p2), .val (.int k), .unset, .unset, .unset, .unset] [(.int (1 : Int32)), (.int k)]))
      refine Go.via (fun _ => XS.icmpYes X0.here hx rfl (pc0 := 23) (pc' := 36) rfl (hb hby at_23) rfl (feq hc8).2 (by decide) (by decide)) ?_
      show Go p e below _ (s₁.setTop (mkF m 36 #[.val (.int p1), .val (.int p2), .val (.int k), .unset, .unset, .unset, .unset] []))
      refine Go.via (fun _ => XS.iloadN X0.here hx rfl (hb hby at_36) rfl) ?_
      show Go p e below _ (s₁.setTop (mkF m 37 #[.val (.int p1), .val (.int p2), .val (.int k), .unset, .unset, .unset, .unset] [(.int k)]))
      refine Go.via (fun _ => XS.iconst X0.here hx rfl (hb hby at_37)) ?_
      show Go p e below _ (s₁.setTop (mkF m 38 #[.val (.int p1), .val (.int p2), .val (.int k), .unset, .unset, .unset, .unset] [(.int (2 : Int32)), (.int k)]))
      by_cases hc15 : k = (2 : Int32)
      · -- yes
        subst hc15
        show Go p e below _ (s₁.setTop (mkF m 38 #[.val (.int p1), .val (.int p2), .val (.int (2 : Int32)), .unset, .unset, .unset, .unset] [(.int (2 : Int32)), (.int (2 : Int32))]))
        show Go p e below _ (s₁.setTop (mkF m 38 #[.val (.int p1), .val (.int p2), .val (.int (2 : Int32)), .unset, .unset, .unset, .unset] [(.int (2 : Int32)), (.int (2 : Int32))]))
        refine Go.via (fun _ => XS.icmpNo X0.here hx rfl (hb hby at_38) rfl (by decide)) ?_
        show Go p e below _ (s₁.setTop (mkF m 41 #[.val (.int p1), .val (.int p2), .val (.int (2 : Int32)), .unset, .unset, .unset, .unset] []))
        obtain ⟨T16, X16, e16, st16⟩ := getS2 X0 hx hZ hown (host := "") (Or.inl (hw _ (List.mem_of_getElem? (i := 24) rfl))) Via.refl e0 (S_EQUAL.ext O0.2) (g := (mkF m 41 #[.val (.int p1), .val (.int p2), .val (.int (2 : Int32)), .unset, .unset, .unset, .unset] [])) rfl (hb hby at_41)
        refine Go.via st16 ?_
        show Go p e below _ (T16.setTop (mkF m 44 #[.val (.int p1), .val (.int p2), .val (.int (2 : Int32)), .unset, .unset, .unset, .unset] [(.ref w_EQUAL)]))
        refine Go.via (fun _ => XS.astoreN X16.here hx rfl (hb hby at_44) rfl rfl (l' := #[.val (.int p1), .val (.int p2), .val (.int (2 : Int32)), .val (.ref w_EQUAL), .unset, .unset, .unset]) rfl) ?_
        show Go p e below _ (T16.setTop (mkF m 45 #[.val (.int p1), .val (.int p2), .val (.int (2 : Int32)), .val (.ref w_EQUAL), .unset, .unset, .unset] []))
        refine Go.via (fun _ => XS.iconst X16.here hx rfl (hb hby at_45)) ?_
        show Go p e below _ (T16.setTop (mkF m 46 #[.val (.int p1), .val (.int p2), .val (.int (2 : Int32)), .val (.ref w_EQUAL), .unset, .unset, .unset] [(.int (2 : Int32))]))
        refine Go.via (fun _ => XS.istore X16.here hx rfl (hb hby at_46) rfl (l' := #[.val (.int p1), .val (.int p2), .val (.int (2 : Int32)), .val (.ref w_EQUAL), .val (.int (2 : Int32)), .unset, .unset]) rfl) ?_
        show Go p e below _ (T16.setTop (mkF m 48 #[.val (.int p1), .val (.int p2), .val (.int (2 : Int32)), .val (.ref w_EQUAL), .val (.int (2 : Int32)), .unset, .unset] []))
        refine Go.via (fun _ => XS.goto X16.here hx rfl (pc0 := 48) (pc' := 74) rfl (hb hby at_48) (by decide) (by decide)) ?_
        show Go p e below _ (T16.setTop (mkF m 74 #[.val (.int p1), .val (.int p2), .val (.int (2 : Int32)), .val (.ref w_EQUAL), .val (.int (2 : Int32)), .unset, .unset] []))
        refine Go.via (fun _ => XS.iloadN X16.here hx rfl (hb hby at_74) rfl) ?_
        show Go p e below _ (T16.setTop (mkF m 75 #[.val (.int p1), .val (.int p2), .val (.int (2 : Int32)), .val (.ref w_EQUAL), .val (.int (2 : Int32)), .unset, .unset] [(.int p2)]))
        by_cases hc17 : p2 < (0 : Int32)
        · -- yes
          show Go p e below _ (T16.setTop (mkF m 75 #[.val (.int p1), .val (.int p2), .val (.int (2 : Int32)), .val (.ref w_EQUAL), .val (.int (2 : Int32)), .unset, .unset] [(.int p2)]))
          show Go p e below _ (T16.setTop (mkF m 75 #[.val (.int p1), .val (.int p2), .val (.int (2 : Int32)), .val (.ref w_EQUAL), .val (.int (2 : Int32)), .unset, .unset] [(.int p2)]))
          refine Go.via (fun _ => XS.ifNo X16.here hx rfl (hb hby at_75) rfl ((if0 _ _).trans (tlt hc17).2.1)) ?_
          show Go p e below _ (T16.setTop (mkF m 78 #[.val (.int p1), .val (.int p2), .val (.int (2 : Int32)), .val (.ref w_EQUAL), .val (.int (2 : Int32)), .unset, .unset] []))
          refine Go.via (fun _ => XS.iconst X16.here hx rfl (hb hby at_78)) ?_
          show Go p e below _ (T16.setTop (mkF m 79 #[.val (.int p1), .val (.int p2), .val (.int (2 : Int32)), .val (.ref w_EQUAL), .val (.int (2 : Int32)), .unset, .unset] [(.int (0 : Int32))]))
          refine Go.via (fun _ => XS.goto X16.here hx rfl (pc0 := 79) (pc' := 91) rfl (hb hby at_79) (by decide) (by decide)) ?_
          show Go p e below _ (T16.setTop (mkF m 91 #[.val (.int p1), .val (.int p2), .val (.int (2 : Int32)), .val (.ref w_EQUAL), .val (.int (2 : Int32)), .unset, .unset] [(.int (0 : Int32))]))
          refine Go.via (fun _ => XS.istore X16.here hx rfl (hb hby at_91) rfl (l' := #[.val (.int p1), .val (.int p2), .val (.int (2 : Int32)), .val (.ref w_EQUAL), .val (.int (2 : Int32)), .val (.int (0 : Int32)), .unset]) rfl) ?_
          show Go p e below _ (T16.setTop (mkF m 93 #[.val (.int p1), .val (.int p2), .val (.int (2 : Int32)), .val (.ref w_EQUAL), .val (.int (2 : Int32)), .val (.int (0 : Int32)), .unset] []))
          refine Go.via (fun _ => XS.iload X16.here hx rfl (hb hby at_93) rfl) ?_
          show Go p e below _ (T16.setTop (mkF m 95 #[.val (.int p1), .val (.int p2), .val (.int (2 : Int32)), .val (.ref w_EQUAL), .val (.int (2 : Int32)), .val (.int (0 : Int32)), .unset] [(.int (2 : Int32))]))
          refine Go.via (fun _ => XS.iload X16.here hx rfl (hb hby at_95) rfl) ?_
          show Go p e below _ (T16.setTop (mkF m 97 #[.val (.int p1), .val (.int p2), .val (.int (2 : Int32)), .val (.ref w_EQUAL), .val (.int (2 : Int32)), .val (.int (0 : Int32)), .unset] [(.int (0 : Int32)), (.int (2 : Int32))]))
          refine Go.via (fun _ => XS.ishr X16.here hx rfl (hb hby at_97) rfl) ?_
          show Go p e below _ (T16.setTop (mkF m 98 #[.val (.int p1), .val (.int p2), .val (.int (2 : Int32)), .val (.ref w_EQUAL), .val (.int (2 : Int32)), .val (.int (0 : Int32)), .unset] [(.int (2 : Int32))]))
          refine Go.via (fun _ => XS.iconst X16.here hx rfl (hb hby at_98)) ?_
          show Go p e below _ (T16.setTop (mkF m 99 #[.val (.int p1), .val (.int p2), .val (.int (2 : Int32)), .val (.ref w_EQUAL), .val (.int (2 : Int32)), .val (.int (0 : Int32)), .unset] [(.int (1 : Int32)), (.int (2 : Int32))]))
          refine Go.via (fun _ => XS.iand X16.here hx rfl (hb hby at_99) rfl) ?_
          show Go p e below _ (T16.setTop (mkF m 100 #[.val (.int p1), .val (.int p2), .val (.int (2 : Int32)), .val (.ref w_EQUAL), .val (.int (2 : Int32)), .val (.int (0 : Int32)), .unset] [(.int (0 : Int32))]))
          refine Go.via (fun _ => XS.ifYes X16.here hx rfl (pc0 := 100) (pc' := 107) rfl (hb hby at_100) rfl (by decide) (by decide) (by decide)) ?_
          show Go p e below _ (T16.setTop (mkF m 107 #[.val (.int p1), .val (.int p2), .val (.int (2 : Int32)), .val (.ref w_EQUAL), .val (.int (2 : Int32)), .val (.int (0 : Int32)), .unset] []))
          refine Go.via (fun _ => XS.iconst X16.here hx rfl (hb hby at_107)) ?_
          show Go p e below _ (T16.setTop (mkF m 108 #[.val (.int p1), .val (.int p2), .val (.int (2 : Int32)), .val (.ref w_EQUAL), .val (.int (2 : Int32)), .val (.int (0 : Int32)), .unset] [(.int (0 : Int32))]))
          refine Go.via (fun _ => XS.istore X16.here hx rfl (hb hby at_108) rfl (l' := #[.val (.int p1), .val (.int p2), .val (.int (2 : Int32)), .val (.ref w_EQUAL), .val (.int (2 : Int32)), .val (.int (0 : Int32)), .val (.int (0 : Int32))]) rfl) ?_
          show Go p e below _ (T16.setTop (mkF m 110 #[.val (.int p1), .val (.int p2), .val (.int (2 : Int32)), .val (.ref w_EQUAL), .val (.int (2 : Int32)), .val (.int (0 : Int32)), .val (.int (0 : Int32))] []))
          refine Go.via (fun _ => XS.aloadN X16.here hx rfl (hb hby at_110) rfl rfl) ?_
          show Go p e below _ (T16.setTop (mkF m 111 #[.val (.int p1), .val (.int p2), .val (.int (2 : Int32)), .val (.ref w_EQUAL), .val (.int (2 : Int32)), .val (.int (0 : Int32)), .val (.int (0 : Int32))] [(.ref w_EQUAL)]))
          refine Go.via (fun _ => XS.iloadN X16.here hx rfl (hb hby at_111) rfl) ?_
          show Go p e below _ (T16.setTop (mkF m 112 #[.val (.int p1), .val (.int p2), .val (.int (2 : Int32)), .val (.ref w_EQUAL), .val (.int (2 : Int32)), .val (.int (0 : Int32)), .val (.int (0 : Int32))] [(.int p2), (.ref w_EQUAL)]))
          obtain ⟨cq18, kq18, q18a, q18b, q18c⟩ := isOf hZ e16 (E_EQUAL.ext O0.2)
          obtain ⟨_, _, ⟨T18, L18, k18, n18⟩, -, X18, ⟨Lc18, hQ18, l18, y18, z18⟩, st18⟩ := X16.virtualBack hx (y := (⟨"com/example/permits_from_duties/permitsfromduties/PolicyDocument$Operator", "test", "(I)Z"⟩ : MethodName)) (z := (⟨"com/example/permits_from_duties/permitsfromduties/PolicyDocument$Operator", "test", "(I)Z"⟩ : MethodName)) hown (mvT hZ (hw _ (List.mem_of_getElem? (i := 4) rfl))) (mvT hZ (hw _ (List.mem_of_getElem? (i := 5) rfl))) (notFace_of_selects (args := #[]) (mvT hZ (hw _ (List.mem_of_getElem? (i := 7) rfl)))) (mvT hZ (hw _ (List.mem_of_getElem? (i := 7) rfl))) (mvT hZ (hw _ (List.mem_of_getElem? (i := 6) rfl))) (by decide) (backOf (W := 0) (rm1_20 l Z a0 hw [] w_EQUAL p2 h0 n0 Z0 (E_EQUAL.ext O0.2) (F_EQUAL.ext O0.2) hc17 (own_sg0 hc17).1 (own_sg0 hc17).2) hZ (hw _ (List.mem_of_getElem? (i := 8) rfl)) (hw _ (List.mem_of_getElem? (i := 2) rfl)) (by decide) (by decide)) q18a q18c (g := (mkF m 112 #[.val (.int p1), .val (.int p2), .val (.int (2 : Int32)), .val (.ref w_EQUAL), .val (.int (2 : Int32)), .val (.int (0 : Int32)), .val (.int (0 : Int32))] [(.int p2), (.ref w_EQUAL)])) rfl (by rw [hml]; rfl) (Steps.refl _) (argsL := [(.int p2)]) (rest := []) (lenOf pd_1 rfl) rfl (by show 2 * 0 + _ ≤ _; exact Nat.le_of_eq rfl) (hb hby at_112) (fun _ _ => ⟨rfl, e16, (by decide : 0 + 0 ≤ _), (by decide : 0 + 0 ≤ _)⟩)
          dsimp only [Pt.U, Pt.locs, Pt.cells, Pt.slots] at X18 l18 y18 z18 st18 hQ18
          subst l18 y18 z18
          obtain ⟨rfl, N18q, e18q⟩ := hQ18
          have N18 := Fr.app N0 N18q
          refine Go.tr st18 ?_
          show Go p e below _ (T18.setTop (mkF m 115 #[.val (.int p1), .val (.int p2), .val (.int (2 : Int32)), .val (.ref w_EQUAL), .val (.int (2 : Int32)), .val (.int (0 : Int32)), .val (.int (0 : Int32))] [(.int (0 : Int32))]))
          refine Go.via (fun _ => XS.iload X18.here hx rfl (hb hby at_115) rfl) ?_
          show Go p e below _ (T18.setTop (mkF m 117 #[.val (.int p1), .val (.int p2), .val (.int (2 : Int32)), .val (.ref w_EQUAL), .val (.int (2 : Int32)), .val (.int (0 : Int32)), .val (.int (0 : Int32))] [(.int (0 : Int32)), (.int (0 : Int32))]))
          refine Go.via (fun _ => XS.icmpNo X18.here hx rfl (hb hby at_117) rfl (by decide)) ?_
          show Go p e below _ (T18.setTop (mkF m 120 #[.val (.int p1), .val (.int p2), .val (.int (2 : Int32)), .val (.ref w_EQUAL), .val (.int (2 : Int32)), .val (.int (0 : Int32)), .val (.int (0 : Int32))] []))
          refine Go.via (fun _ => XS.iconst X18.here hx rfl (hb hby at_120)) ?_
          show Go p e below _ (T18.setTop (mkF m 121 #[.val (.int p1), .val (.int p2), .val (.int (2 : Int32)), .val (.ref w_EQUAL), .val (.int (2 : Int32)), .val (.int (0 : Int32)), .val (.int (0 : Int32))] [(.int (1 : Int32))]))
          refine Go.via (fun _ => XS.goto X18.here hx rfl (pc0 := 121) (pc' := 125) rfl (hb hby at_121) (by decide) (by decide)) ?_
          show Go p e below _ (T18.setTop (mkF m 125 #[.val (.int p1), .val (.int p2), .val (.int (2 : Int32)), .val (.ref w_EQUAL), .val (.int (2 : Int32)), .val (.int (0 : Int32)), .val (.int (0 : Int32))] [(.int (1 : Int32))]))
          exact own_retN X18 hx hlk (t := .boolean) Bd.returns (by simp) (hb hby at_125) (by show Q0 Z p1 p2 w_LESS w_AT_MOST w_EQUAL w_AT_LEAST w_MORE h0 n0 _ T18.heap _; rw [e18q]; exact ⟨rfl, N18⟩) (by decide) (by decide)
        · -- no
          show Go p e below _ (T16.setTop (mkF m 75 #[.val (.int p1), .val (.int p2), .val (.int (2 : Int32)), .val (.ref w_EQUAL), .val (.int (2 : Int32)), .unset, .unset] [(.int p2)]))
          show Go p e below _ (T16.setTop (mkF m 75 #[.val (.int p1), .val (.int p2), .val (.int (2 : Int32)), .val (.ref w_EQUAL), .val (.int (2 : Int32)), .unset, .unset] [(.int p2)]))
          refine Go.via (fun _ => XS.ifYes X16.here hx rfl (pc0 := 75) (pc' := 82) rfl (hb hby at_75) rfl ((if0 _ _).trans (flt hc17).2.1) (by decide) (by decide)) ?_
          show Go p e below _ (T16.setTop (mkF m 82 #[.val (.int p1), .val (.int p2), .val (.int (2 : Int32)), .val (.ref w_EQUAL), .val (.int (2 : Int32)), .unset, .unset] []))
          refine Go.via (fun _ => XS.iloadN X16.here hx rfl (hb hby at_82) rfl) ?_
          show Go p e below _ (T16.setTop (mkF m 83 #[.val (.int p1), .val (.int p2), .val (.int (2 : Int32)), .val (.ref w_EQUAL), .val (.int (2 : Int32)), .unset, .unset] [(.int p2)]))
          by_cases hc19 : p2 = (0 : Int32)
          · -- yes
            show Go p e below _ (T16.setTop (mkF m 83 #[.val (.int p1), .val (.int p2), .val (.int (2 : Int32)), .val (.ref w_EQUAL), .val (.int (2 : Int32)), .unset, .unset] [(.int p2)]))
            show Go p e below _ (T16.setTop (mkF m 83 #[.val (.int p1), .val (.int p2), .val (.int (2 : Int32)), .val (.ref w_EQUAL), .val (.int (2 : Int32)), .unset, .unset] [(.int p2)]))
            refine Go.via (fun _ => XS.ifNo X16.here hx rfl (hb hby at_83) rfl ((if0 _ _).trans (teq hc19).2)) ?_
            show Go p e below _ (T16.setTop (mkF m 86 #[.val (.int p1), .val (.int p2), .val (.int (2 : Int32)), .val (.ref w_EQUAL), .val (.int (2 : Int32)), .unset, .unset] []))
            refine Go.via (fun _ => XS.iconst X16.here hx rfl (hb hby at_86)) ?_
            show Go p e below _ (T16.setTop (mkF m 87 #[.val (.int p1), .val (.int p2), .val (.int (2 : Int32)), .val (.ref w_EQUAL), .val (.int (2 : Int32)), .unset, .unset] [(.int (1 : Int32))]))
            refine Go.via (fun _ => XS.goto X16.here hx rfl (pc0 := 87) (pc' := 91) rfl (hb hby at_87) (by decide) (by decide)) ?_
            show Go p e below _ (T16.setTop (mkF m 91 #[.val (.int p1), .val (.int p2), .val (.int (2 : Int32)), .val (.ref w_EQUAL), .val (.int (2 : Int32)), .unset, .unset] [(.int (1 : Int32))]))
            refine Go.via (fun _ => XS.istore X16.here hx rfl (hb hby at_91) rfl (l' := #[.val (.int p1), .val (.int p2), .val (.int (2 : Int32)), .val (.ref w_EQUAL), .val (.int (2 : Int32)), .val (.int (1 : Int32)), .unset]) rfl) ?_
            show Go p e below _ (T16.setTop (mkF m 93 #[.val (.int p1), .val (.int p2), .val (.int (2 : Int32)), .val (.ref w_EQUAL), .val (.int (2 : Int32)), .val (.int (1 : Int32)), .unset] []))
            refine Go.via (fun _ => XS.iload X16.here hx rfl (hb hby at_93) rfl) ?_
            show Go p e below _ (T16.setTop (mkF m 95 #[.val (.int p1), .val (.int p2), .val (.int (2 : Int32)), .val (.ref w_EQUAL), .val (.int (2 : Int32)), .val (.int (1 : Int32)), .unset] [(.int (2 : Int32))]))
            refine Go.via (fun _ => XS.iload X16.here hx rfl (hb hby at_95) rfl) ?_
            show Go p e below _ (T16.setTop (mkF m 97 #[.val (.int p1), .val (.int p2), .val (.int (2 : Int32)), .val (.ref w_EQUAL), .val (.int (2 : Int32)), .val (.int (1 : Int32)), .unset] [(.int (1 : Int32)), (.int (2 : Int32))]))
            refine Go.via (fun _ => XS.ishr X16.here hx rfl (hb hby at_97) rfl) ?_
            show Go p e below _ (T16.setTop (mkF m 98 #[.val (.int p1), .val (.int p2), .val (.int (2 : Int32)), .val (.ref w_EQUAL), .val (.int (2 : Int32)), .val (.int (1 : Int32)), .unset] [(.int (1 : Int32))]))
            refine Go.via (fun _ => XS.iconst X16.here hx rfl (hb hby at_98)) ?_
            show Go p e below _ (T16.setTop (mkF m 99 #[.val (.int p1), .val (.int p2), .val (.int (2 : Int32)), .val (.ref w_EQUAL), .val (.int (2 : Int32)), .val (.int (1 : Int32)), .unset] [(.int (1 : Int32)), (.int (1 : Int32))]))
            refine Go.via (fun _ => XS.iand X16.here hx rfl (hb hby at_99) rfl) ?_
            show Go p e below _ (T16.setTop (mkF m 100 #[.val (.int p1), .val (.int p2), .val (.int (2 : Int32)), .val (.ref w_EQUAL), .val (.int (2 : Int32)), .val (.int (1 : Int32)), .unset] [(.int (1 : Int32))]))
            refine Go.via (fun _ => XS.ifNo X16.here hx rfl (hb hby at_100) rfl (by decide)) ?_
            show Go p e below _ (T16.setTop (mkF m 103 #[.val (.int p1), .val (.int p2), .val (.int (2 : Int32)), .val (.ref w_EQUAL), .val (.int (2 : Int32)), .val (.int (1 : Int32)), .unset] []))
            refine Go.via (fun _ => XS.iconst X16.here hx rfl (hb hby at_103)) ?_
            show Go p e below _ (T16.setTop (mkF m 104 #[.val (.int p1), .val (.int p2), .val (.int (2 : Int32)), .val (.ref w_EQUAL), .val (.int (2 : Int32)), .val (.int (1 : Int32)), .unset] [(.int (1 : Int32))]))
            refine Go.via (fun _ => XS.goto X16.here hx rfl (pc0 := 104) (pc' := 108) rfl (hb hby at_104) (by decide) (by decide)) ?_
            show Go p e below _ (T16.setTop (mkF m 108 #[.val (.int p1), .val (.int p2), .val (.int (2 : Int32)), .val (.ref w_EQUAL), .val (.int (2 : Int32)), .val (.int (1 : Int32)), .unset] [(.int (1 : Int32))]))
            refine Go.via (fun _ => XS.istore X16.here hx rfl (hb hby at_108) rfl (l' := #[.val (.int p1), .val (.int p2), .val (.int (2 : Int32)), .val (.ref w_EQUAL), .val (.int (2 : Int32)), .val (.int (1 : Int32)), .val (.int (1 : Int32))]) rfl) ?_
            show Go p e below _ (T16.setTop (mkF m 110 #[.val (.int p1), .val (.int p2), .val (.int (2 : Int32)), .val (.ref w_EQUAL), .val (.int (2 : Int32)), .val (.int (1 : Int32)), .val (.int (1 : Int32))] []))
            refine Go.via (fun _ => XS.aloadN X16.here hx rfl (hb hby at_110) rfl rfl) ?_
            show Go p e below _ (T16.setTop (mkF m 111 #[.val (.int p1), .val (.int p2), .val (.int (2 : Int32)), .val (.ref w_EQUAL), .val (.int (2 : Int32)), .val (.int (1 : Int32)), .val (.int (1 : Int32))] [(.ref w_EQUAL)]))
            refine Go.via (fun _ => XS.iloadN X16.here hx rfl (hb hby at_111) rfl) ?_
            show Go p e below _ (T16.setTop (mkF m 112 #[.val (.int p1), .val (.int p2), .val (.int (2 : Int32)), .val (.ref w_EQUAL), .val (.int (2 : Int32)), .val (.int (1 : Int32)), .val (.int (1 : Int32))] [(.int p2), (.ref w_EQUAL)]))
            obtain ⟨cq20, kq20, q20a, q20b, q20c⟩ := isOf hZ e16 (E_EQUAL.ext O0.2)
            obtain ⟨_, _, ⟨T20, L20, k20, n20⟩, -, X20, ⟨Lc20, hQ20, l20, y20, z20⟩, st20⟩ := X16.virtualBack hx (y := (⟨"com/example/permits_from_duties/permitsfromduties/PolicyDocument$Operator", "test", "(I)Z"⟩ : MethodName)) (z := (⟨"com/example/permits_from_duties/permitsfromduties/PolicyDocument$Operator", "test", "(I)Z"⟩ : MethodName)) hown (mvT hZ (hw _ (List.mem_of_getElem? (i := 4) rfl))) (mvT hZ (hw _ (List.mem_of_getElem? (i := 5) rfl))) (notFace_of_selects (args := #[]) (mvT hZ (hw _ (List.mem_of_getElem? (i := 7) rfl)))) (mvT hZ (hw _ (List.mem_of_getElem? (i := 7) rfl))) (mvT hZ (hw _ (List.mem_of_getElem? (i := 6) rfl))) (by decide) (backOf (W := 0) (rm1_21 l Z a0 hw [] w_EQUAL p2 h0 n0 Z0 (E_EQUAL.ext O0.2) (F_EQUAL.ext O0.2) (own_sg1 hc19).1 hc19 (own_sg1 hc19).2) hZ (hw _ (List.mem_of_getElem? (i := 8) rfl)) (hw _ (List.mem_of_getElem? (i := 2) rfl)) (by decide) (by decide)) q20a q20c (g := (mkF m 112 #[.val (.int p1), .val (.int p2), .val (.int (2 : Int32)), .val (.ref w_EQUAL), .val (.int (2 : Int32)), .val (.int (1 : Int32)), .val (.int (1 : Int32))] [(.int p2), (.ref w_EQUAL)])) rfl (by rw [hml]; rfl) (Steps.refl _) (argsL := [(.int p2)]) (rest := []) (lenOf pd_1 rfl) rfl (by show 2 * 0 + _ ≤ _; exact Nat.le_of_eq rfl) (hb hby at_112) (fun _ _ => ⟨rfl, e16, (by decide : 0 + 0 ≤ _), (by decide : 0 + 0 ≤ _)⟩)
            dsimp only [Pt.U, Pt.locs, Pt.cells, Pt.slots] at X20 l20 y20 z20 st20 hQ20
            subst l20 y20 z20
            obtain ⟨rfl, N20q, e20q⟩ := hQ20
            have N20 := Fr.app N0 N20q
            refine Go.tr st20 ?_
            show Go p e below _ (T20.setTop (mkF m 115 #[.val (.int p1), .val (.int p2), .val (.int (2 : Int32)), .val (.ref w_EQUAL), .val (.int (2 : Int32)), .val (.int (1 : Int32)), .val (.int (1 : Int32))] [(.int (1 : Int32))]))
            refine Go.via (fun _ => XS.iload X20.here hx rfl (hb hby at_115) rfl) ?_
            show Go p e below _ (T20.setTop (mkF m 117 #[.val (.int p1), .val (.int p2), .val (.int (2 : Int32)), .val (.ref w_EQUAL), .val (.int (2 : Int32)), .val (.int (1 : Int32)), .val (.int (1 : Int32))] [(.int (1 : Int32)), (.int (1 : Int32))]))
            refine Go.via (fun _ => XS.icmpNo X20.here hx rfl (hb hby at_117) rfl (by decide)) ?_
            show Go p e below _ (T20.setTop (mkF m 120 #[.val (.int p1), .val (.int p2), .val (.int (2 : Int32)), .val (.ref w_EQUAL), .val (.int (2 : Int32)), .val (.int (1 : Int32)), .val (.int (1 : Int32))] []))
            refine Go.via (fun _ => XS.iconst X20.here hx rfl (hb hby at_120)) ?_
            show Go p e below _ (T20.setTop (mkF m 121 #[.val (.int p1), .val (.int p2), .val (.int (2 : Int32)), .val (.ref w_EQUAL), .val (.int (2 : Int32)), .val (.int (1 : Int32)), .val (.int (1 : Int32))] [(.int (1 : Int32))]))
            refine Go.via (fun _ => XS.goto X20.here hx rfl (pc0 := 121) (pc' := 125) rfl (hb hby at_121) (by decide) (by decide)) ?_
            show Go p e below _ (T20.setTop (mkF m 125 #[.val (.int p1), .val (.int p2), .val (.int (2 : Int32)), .val (.ref w_EQUAL), .val (.int (2 : Int32)), .val (.int (1 : Int32)), .val (.int (1 : Int32))] [(.int (1 : Int32))]))
            exact own_retN X20 hx hlk (t := .boolean) Bd.returns (by simp) (hb hby at_125) (by show Q0 Z p1 p2 w_LESS w_AT_MOST w_EQUAL w_AT_LEAST w_MORE h0 n0 _ T20.heap _; rw [e20q]; exact ⟨rfl, N20⟩) (by decide) (by decide)
          · -- no
            show Go p e below _ (T16.setTop (mkF m 83 #[.val (.int p1), .val (.int p2), .val (.int (2 : Int32)), .val (.ref w_EQUAL), .val (.int (2 : Int32)), .unset, .unset] [(.int p2)]))
            show Go p e below _ (T16.setTop (mkF m 83 #[.val (.int p1), .val (.int p2), .val (.int (2 : Int32)), .val (.ref w_EQUAL), .val (.int (2 : Int32)), .unset, .unset] [(.int p2)]))
            refine Go.via (fun _ => XS.ifYes X16.here hx rfl (pc0 := 83) (pc' := 90) rfl (hb hby at_83) rfl ((if0 _ _).trans (feq hc19).2) (by decide) (by decide)) ?_
            show Go p e below _ (T16.setTop (mkF m 90 #[.val (.int p1), .val (.int p2), .val (.int (2 : Int32)), .val (.ref w_EQUAL), .val (.int (2 : Int32)), .unset, .unset] []))
            refine Go.via (fun _ => XS.iconst X16.here hx rfl (hb hby at_90)) ?_
            show Go p e below _ (T16.setTop (mkF m 91 #[.val (.int p1), .val (.int p2), .val (.int (2 : Int32)), .val (.ref w_EQUAL), .val (.int (2 : Int32)), .unset, .unset] [(.int (2 : Int32))]))
            refine Go.via (fun _ => XS.istore X16.here hx rfl (hb hby at_91) rfl (l' := #[.val (.int p1), .val (.int p2), .val (.int (2 : Int32)), .val (.ref w_EQUAL), .val (.int (2 : Int32)), .val (.int (2 : Int32)), .unset]) rfl) ?_
            show Go p e below _ (T16.setTop (mkF m 93 #[.val (.int p1), .val (.int p2), .val (.int (2 : Int32)), .val (.ref w_EQUAL), .val (.int (2 : Int32)), .val (.int (2 : Int32)), .unset] []))
            refine Go.via (fun _ => XS.iload X16.here hx rfl (hb hby at_93) rfl) ?_
            show Go p e below _ (T16.setTop (mkF m 95 #[.val (.int p1), .val (.int p2), .val (.int (2 : Int32)), .val (.ref w_EQUAL), .val (.int (2 : Int32)), .val (.int (2 : Int32)), .unset] [(.int (2 : Int32))]))
            refine Go.via (fun _ => XS.iload X16.here hx rfl (hb hby at_95) rfl) ?_
            show Go p e below _ (T16.setTop (mkF m 97 #[.val (.int p1), .val (.int p2), .val (.int (2 : Int32)), .val (.ref w_EQUAL), .val (.int (2 : Int32)), .val (.int (2 : Int32)), .unset] [(.int (2 : Int32)), (.int (2 : Int32))]))
            refine Go.via (fun _ => XS.ishr X16.here hx rfl (hb hby at_97) rfl) ?_
            show Go p e below _ (T16.setTop (mkF m 98 #[.val (.int p1), .val (.int p2), .val (.int (2 : Int32)), .val (.ref w_EQUAL), .val (.int (2 : Int32)), .val (.int (2 : Int32)), .unset] [(.int (0 : Int32))]))
            refine Go.via (fun _ => XS.iconst X16.here hx rfl (hb hby at_98)) ?_
            show Go p e below _ (T16.setTop (mkF m 99 #[.val (.int p1), .val (.int p2), .val (.int (2 : Int32)), .val (.ref w_EQUAL), .val (.int (2 : Int32)), .val (.int (2 : Int32)), .unset] [(.int (1 : Int32)), (.int (0 : Int32))]))
            refine Go.via (fun _ => XS.iand X16.here hx rfl (hb hby at_99) rfl) ?_
            show Go p e below _ (T16.setTop (mkF m 100 #[.val (.int p1), .val (.int p2), .val (.int (2 : Int32)), .val (.ref w_EQUAL), .val (.int (2 : Int32)), .val (.int (2 : Int32)), .unset] [(.int (0 : Int32))]))
            refine Go.via (fun _ => XS.ifYes X16.here hx rfl (pc0 := 100) (pc' := 107) rfl (hb hby at_100) rfl (by decide) (by decide) (by decide)) ?_
            show Go p e below _ (T16.setTop (mkF m 107 #[.val (.int p1), .val (.int p2), .val (.int (2 : Int32)), .val (.ref w_EQUAL), .val (.int (2 : Int32)), .val (.int (2 : Int32)), .unset] []))
            refine Go.via (fun _ => XS.iconst X16.here hx rfl (hb hby at_107)) ?_
            show Go p e below _ (T16.setTop (mkF m 108 #[.val (.int p1), .val (.int p2), .val (.int (2 : Int32)), .val (.ref w_EQUAL), .val (.int (2 : Int32)), .val (.int (2 : Int32)), .unset] [(.int (0 : Int32))]))
            refine Go.via (fun _ => XS.istore X16.here hx rfl (hb hby at_108) rfl (l' := #[.val (.int p1), .val (.int p2), .val (.int (2 : Int32)), .val (.ref w_EQUAL), .val (.int (2 : Int32)), .val (.int (2 : Int32)), .val (.int (0 : Int32))]) rfl) ?_
            show Go p e below _ (T16.setTop (mkF m 110 #[.val (.int p1), .val (.int p2), .val (.int (2 : Int32)), .val (.ref w_EQUAL), .val (.int (2 : Int32)), .val (.int (2 : Int32)), .val (.int (0 : Int32))] []))
            refine Go.via (fun _ => XS.aloadN X16.here hx rfl (hb hby at_110) rfl rfl) ?_
            show Go p e below _ (T16.setTop (mkF m 111 #[.val (.int p1), .val (.int p2), .val (.int (2 : Int32)), .val (.ref w_EQUAL), .val (.int (2 : Int32)), .val (.int (2 : Int32)), .val (.int (0 : Int32))] [(.ref w_EQUAL)]))
            refine Go.via (fun _ => XS.iloadN X16.here hx rfl (hb hby at_111) rfl) ?_
            show Go p e below _ (T16.setTop (mkF m 112 #[.val (.int p1), .val (.int p2), .val (.int (2 : Int32)), .val (.ref w_EQUAL), .val (.int (2 : Int32)), .val (.int (2 : Int32)), .val (.int (0 : Int32))] [(.int p2), (.ref w_EQUAL)]))
            obtain ⟨cq21, kq21, q21a, q21b, q21c⟩ := isOf hZ e16 (E_EQUAL.ext O0.2)
            obtain ⟨_, _, ⟨T21, L21, k21, n21⟩, -, X21, ⟨Lc21, hQ21, l21, y21, z21⟩, st21⟩ := X16.virtualBack hx (y := (⟨"com/example/permits_from_duties/permitsfromduties/PolicyDocument$Operator", "test", "(I)Z"⟩ : MethodName)) (z := (⟨"com/example/permits_from_duties/permitsfromduties/PolicyDocument$Operator", "test", "(I)Z"⟩ : MethodName)) hown (mvT hZ (hw _ (List.mem_of_getElem? (i := 4) rfl))) (mvT hZ (hw _ (List.mem_of_getElem? (i := 5) rfl))) (notFace_of_selects (args := #[]) (mvT hZ (hw _ (List.mem_of_getElem? (i := 7) rfl)))) (mvT hZ (hw _ (List.mem_of_getElem? (i := 7) rfl))) (mvT hZ (hw _ (List.mem_of_getElem? (i := 6) rfl))) (by decide) (backOf (W := 0) (rm1_22 l Z a0 hw [] w_EQUAL p2 h0 n0 Z0 (E_EQUAL.ext O0.2) (F_EQUAL.ext O0.2) hc17 hc19 (own_sg2 hc17 hc19)) hZ (hw _ (List.mem_of_getElem? (i := 8) rfl)) (hw _ (List.mem_of_getElem? (i := 2) rfl)) (by decide) (by decide)) q21a q21c (g := (mkF m 112 #[.val (.int p1), .val (.int p2), .val (.int (2 : Int32)), .val (.ref w_EQUAL), .val (.int (2 : Int32)), .val (.int (2 : Int32)), .val (.int (0 : Int32))] [(.int p2), (.ref w_EQUAL)])) rfl (by rw [hml]; rfl) (Steps.refl _) (argsL := [(.int p2)]) (rest := []) (lenOf pd_1 rfl) rfl (by show 2 * 0 + _ ≤ _; exact Nat.le_of_eq rfl) (hb hby at_112) (fun _ _ => ⟨rfl, e16, (by decide : 0 + 0 ≤ _), (by decide : 0 + 0 ≤ _)⟩)
            dsimp only [Pt.U, Pt.locs, Pt.cells, Pt.slots] at X21 l21 y21 z21 st21 hQ21
            subst l21 y21 z21
            obtain ⟨rfl, N21q, e21q⟩ := hQ21
            have N21 := Fr.app N0 N21q
            refine Go.tr st21 ?_
            show Go p e below _ (T21.setTop (mkF m 115 #[.val (.int p1), .val (.int p2), .val (.int (2 : Int32)), .val (.ref w_EQUAL), .val (.int (2 : Int32)), .val (.int (2 : Int32)), .val (.int (0 : Int32))] [(.int (0 : Int32))]))
            refine Go.via (fun _ => XS.iload X21.here hx rfl (hb hby at_115) rfl) ?_
            show Go p e below _ (T21.setTop (mkF m 117 #[.val (.int p1), .val (.int p2), .val (.int (2 : Int32)), .val (.ref w_EQUAL), .val (.int (2 : Int32)), .val (.int (2 : Int32)), .val (.int (0 : Int32))] [(.int (0 : Int32)), (.int (0 : Int32))]))
            refine Go.via (fun _ => XS.icmpNo X21.here hx rfl (hb hby at_117) rfl (by decide)) ?_
            show Go p e below _ (T21.setTop (mkF m 120 #[.val (.int p1), .val (.int p2), .val (.int (2 : Int32)), .val (.ref w_EQUAL), .val (.int (2 : Int32)), .val (.int (2 : Int32)), .val (.int (0 : Int32))] []))
            refine Go.via (fun _ => XS.iconst X21.here hx rfl (hb hby at_120)) ?_
            show Go p e below _ (T21.setTop (mkF m 121 #[.val (.int p1), .val (.int p2), .val (.int (2 : Int32)), .val (.ref w_EQUAL), .val (.int (2 : Int32)), .val (.int (2 : Int32)), .val (.int (0 : Int32))] [(.int (1 : Int32))]))
            refine Go.via (fun _ => XS.goto X21.here hx rfl (pc0 := 121) (pc' := 125) rfl (hb hby at_121) (by decide) (by decide)) ?_
            show Go p e below _ (T21.setTop (mkF m 125 #[.val (.int p1), .val (.int p2), .val (.int (2 : Int32)), .val (.ref w_EQUAL), .val (.int (2 : Int32)), .val (.int (2 : Int32)), .val (.int (0 : Int32))] [(.int (1 : Int32))]))
            exact own_retN X21 hx hlk (t := .boolean) Bd.returns (by simp) (hb hby at_125) (by show Q0 Z p1 p2 w_LESS w_AT_MOST w_EQUAL w_AT_LEAST w_MORE h0 n0 _ T21.heap _; rw [e21q]; exact ⟨rfl, N21⟩) (by decide) (by decide)
      · -- no
        show Go p e below _ (s₁.setTop (mkF m 38 #[.val (.int p1), .val (.int p2), .val (.int k), .unset, .unset, .unset, .unset] [(.int (2 : Int32)), (.int k)]))
        show Go p e below _ (s₁.setTop (mkF m 38 #[.val (.int p1), .val (.int p2), .val (.int k), .unset, .unset, .unset, .unset] [(.int (2 : Int32)), (.int k)]))
        refine Go.via (fun _ => XS.icmpYes X0.here hx rfl (pc0 := 38) (pc' := 51) rfl (hb hby at_38) rfl (feq hc15).2 (by decide) (by decide)) ?_
        show Go p e below _ (s₁.setTop (mkF m 51 #[.val (.int p1), .val (.int p2), .val (.int k), .unset, .unset, .unset, .unset] []))
        refine Go.via (fun _ => XS.iloadN X0.here hx rfl (hb hby at_51) rfl) ?_
        show Go p e below _ (s₁.setTop (mkF m 52 #[.val (.int p1), .val (.int p2), .val (.int k), .unset, .unset, .unset, .unset] [(.int k)]))
        refine Go.via (fun _ => XS.iconst X0.here hx rfl (hb hby at_52)) ?_
        show Go p e below _ (s₁.setTop (mkF m 53 #[.val (.int p1), .val (.int p2), .val (.int k), .unset, .unset, .unset, .unset] [(.int (3 : Int32)), (.int k)]))
        by_cases hc22 : k = (3 : Int32)
        · -- yes
          subst hc22
          show Go p e below _ (s₁.setTop (mkF m 53 #[.val (.int p1), .val (.int p2), .val (.int (3 : Int32)), .unset, .unset, .unset, .unset] [(.int (3 : Int32)), (.int (3 : Int32))]))
          show Go p e below _ (s₁.setTop (mkF m 53 #[.val (.int p1), .val (.int p2), .val (.int (3 : Int32)), .unset, .unset, .unset, .unset] [(.int (3 : Int32)), (.int (3 : Int32))]))
          refine Go.via (fun _ => XS.icmpNo X0.here hx rfl (hb hby at_53) rfl (by decide)) ?_
          show Go p e below _ (s₁.setTop (mkF m 56 #[.val (.int p1), .val (.int p2), .val (.int (3 : Int32)), .unset, .unset, .unset, .unset] []))
          obtain ⟨T23, X23, e23, st23⟩ := getS2 X0 hx hZ hown (host := "") (Or.inl (hw _ (List.mem_of_getElem? (i := 20) rfl))) Via.refl e0 (S_AT_LEAST.ext O0.2) (g := (mkF m 56 #[.val (.int p1), .val (.int p2), .val (.int (3 : Int32)), .unset, .unset, .unset, .unset] [])) rfl (hb hby at_56)
          refine Go.via st23 ?_
          show Go p e below _ (T23.setTop (mkF m 59 #[.val (.int p1), .val (.int p2), .val (.int (3 : Int32)), .unset, .unset, .unset, .unset] [(.ref w_AT_LEAST)]))
          refine Go.via (fun _ => XS.astoreN X23.here hx rfl (hb hby at_59) rfl rfl (l' := #[.val (.int p1), .val (.int p2), .val (.int (3 : Int32)), .val (.ref w_AT_LEAST), .unset, .unset, .unset]) rfl) ?_
          show Go p e below _ (T23.setTop (mkF m 60 #[.val (.int p1), .val (.int p2), .val (.int (3 : Int32)), .val (.ref w_AT_LEAST), .unset, .unset, .unset] []))
          refine Go.via (fun _ => XS.bipush X23.here hx rfl (hb hby at_60)) ?_
          show Go p e below _ (T23.setTop (mkF m 62 #[.val (.int p1), .val (.int p2), .val (.int (3 : Int32)), .val (.ref w_AT_LEAST), .unset, .unset, .unset] [(.int (6 : Int32))]))
          refine Go.via (fun _ => XS.istore X23.here hx rfl (hb hby at_62) rfl (l' := #[.val (.int p1), .val (.int p2), .val (.int (3 : Int32)), .val (.ref w_AT_LEAST), .val (.int (6 : Int32)), .unset, .unset]) rfl) ?_
          show Go p e below _ (T23.setTop (mkF m 64 #[.val (.int p1), .val (.int p2), .val (.int (3 : Int32)), .val (.ref w_AT_LEAST), .val (.int (6 : Int32)), .unset, .unset] []))
          refine Go.via (fun _ => XS.goto X23.here hx rfl (pc0 := 64) (pc' := 74) rfl (hb hby at_64) (by decide) (by decide)) ?_
          show Go p e below _ (T23.setTop (mkF m 74 #[.val (.int p1), .val (.int p2), .val (.int (3 : Int32)), .val (.ref w_AT_LEAST), .val (.int (6 : Int32)), .unset, .unset] []))
          refine Go.via (fun _ => XS.iloadN X23.here hx rfl (hb hby at_74) rfl) ?_
          show Go p e below _ (T23.setTop (mkF m 75 #[.val (.int p1), .val (.int p2), .val (.int (3 : Int32)), .val (.ref w_AT_LEAST), .val (.int (6 : Int32)), .unset, .unset] [(.int p2)]))
          by_cases hc24 : p2 < (0 : Int32)
          · -- yes
            show Go p e below _ (T23.setTop (mkF m 75 #[.val (.int p1), .val (.int p2), .val (.int (3 : Int32)), .val (.ref w_AT_LEAST), .val (.int (6 : Int32)), .unset, .unset] [(.int p2)]))
            show Go p e below _ (T23.setTop (mkF m 75 #[.val (.int p1), .val (.int p2), .val (.int (3 : Int32)), .val (.ref w_AT_LEAST), .val (.int (6 : Int32)), .unset, .unset] [(.int p2)]))
            refine Go.via (fun _ => XS.ifNo X23.here hx rfl (hb hby at_75) rfl ((if0 _ _).trans (tlt hc24).2.1)) ?_
            show Go p e below _ (T23.setTop (mkF m 78 #[.val (.int p1), .val (.int p2), .val (.int (3 : Int32)), .val (.ref w_AT_LEAST), .val (.int (6 : Int32)), .unset, .unset] []))
            refine Go.via (fun _ => XS.iconst X23.here hx rfl (hb hby at_78)) ?_
            show Go p e below _ (T23.setTop (mkF m 79 #[.val (.int p1), .val (.int p2), .val (.int (3 : Int32)), .val (.ref w_AT_LEAST), .val (.int (6 : Int32)), .unset, .unset] [(.int (0 : Int32))]))
            refine Go.via (fun _ => XS.goto X23.here hx rfl (pc0 := 79) (pc' := 91) rfl (hb hby at_79) (by decide) (by decide)) ?_
            show Go p e below _ (T23.setTop (mkF m 91 #[.val (.int p1), .val (.int p2), .val (.int (3 : Int32)), .val (.ref w_AT_LEAST), .val (.int (6 : Int32)), .unset, .unset] [(.int (0 : Int32))]))
            refine Go.via (fun _ => XS.istore X23.here hx rfl (hb hby at_91) rfl (l' := #[.val (.int p1), .val (.int p2), .val (.int (3 : Int32)), .val (.ref w_AT_LEAST), .val (.int (6 : Int32)), .val (.int (0 : Int32)), .unset]) rfl) ?_
            show Go p e below _ (T23.setTop (mkF m 93 #[.val (.int p1), .val (.int p2), .val (.int (3 : Int32)), .val (.ref w_AT_LEAST), .val (.int (6 : Int32)), .val (.int (0 : Int32)), .unset] []))
            refine Go.via (fun _ => XS.iload X23.here hx rfl (hb hby at_93) rfl) ?_
            show Go p e below _ (T23.setTop (mkF m 95 #[.val (.int p1), .val (.int p2), .val (.int (3 : Int32)), .val (.ref w_AT_LEAST), .val (.int (6 : Int32)), .val (.int (0 : Int32)), .unset] [(.int (6 : Int32))]))
            refine Go.via (fun _ => XS.iload X23.here hx rfl (hb hby at_95) rfl) ?_
            show Go p e below _ (T23.setTop (mkF m 97 #[.val (.int p1), .val (.int p2), .val (.int (3 : Int32)), .val (.ref w_AT_LEAST), .val (.int (6 : Int32)), .val (.int (0 : Int32)), .unset] [(.int (0 : Int32)), (.int (6 : Int32))]))
            refine Go.via (fun _ => XS.ishr X23.here hx rfl (hb hby at_97) rfl) ?_
            show Go p e below _ (T23.setTop (mkF m 98 #[.val (.int p1), .val (.int p2), .val (.int (3 : Int32)), .val (.ref w_AT_LEAST), .val (.int (6 : Int32)), .val (.int (0 : Int32)), .unset] [(.int (6 : Int32))]))
            refine Go.via (fun _ => XS.iconst X23.here hx rfl (hb hby at_98)) ?_
            show Go p e below _ (T23.setTop (mkF m 99 #[.val (.int p1), .val (.int p2), .val (.int (3 : Int32)), .val (.ref w_AT_LEAST), .val (.int (6 : Int32)), .val (.int (0 : Int32)), .unset] [(.int (1 : Int32)), (.int (6 : Int32))]))
            refine Go.via (fun _ => XS.iand X23.here hx rfl (hb hby at_99) rfl) ?_
            show Go p e below _ (T23.setTop (mkF m 100 #[.val (.int p1), .val (.int p2), .val (.int (3 : Int32)), .val (.ref w_AT_LEAST), .val (.int (6 : Int32)), .val (.int (0 : Int32)), .unset] [(.int (0 : Int32))]))
            refine Go.via (fun _ => XS.ifYes X23.here hx rfl (pc0 := 100) (pc' := 107) rfl (hb hby at_100) rfl (by decide) (by decide) (by decide)) ?_
            show Go p e below _ (T23.setTop (mkF m 107 #[.val (.int p1), .val (.int p2), .val (.int (3 : Int32)), .val (.ref w_AT_LEAST), .val (.int (6 : Int32)), .val (.int (0 : Int32)), .unset] []))
            refine Go.via (fun _ => XS.iconst X23.here hx rfl (hb hby at_107)) ?_
            show Go p e below _ (T23.setTop (mkF m 108 #[.val (.int p1), .val (.int p2), .val (.int (3 : Int32)), .val (.ref w_AT_LEAST), .val (.int (6 : Int32)), .val (.int (0 : Int32)), .unset] [(.int (0 : Int32))]))
            refine Go.via (fun _ => XS.istore X23.here hx rfl (hb hby at_108) rfl (l' := #[.val (.int p1), .val (.int p2), .val (.int (3 : Int32)), .val (.ref w_AT_LEAST), .val (.int (6 : Int32)), .val (.int (0 : Int32)), .val (.int (0 : Int32))]) rfl) ?_
            show Go p e below _ (T23.setTop (mkF m 110 #[.val (.int p1), .val (.int p2), .val (.int (3 : Int32)), .val (.ref w_AT_LEAST), .val (.int (6 : Int32)), .val (.int (0 : Int32)), .val (.int (0 : Int32))] []))
            refine Go.via (fun _ => XS.aloadN X23.here hx rfl (hb hby at_110) rfl rfl) ?_
            show Go p e below _ (T23.setTop (mkF m 111 #[.val (.int p1), .val (.int p2), .val (.int (3 : Int32)), .val (.ref w_AT_LEAST), .val (.int (6 : Int32)), .val (.int (0 : Int32)), .val (.int (0 : Int32))] [(.ref w_AT_LEAST)]))
            refine Go.via (fun _ => XS.iloadN X23.here hx rfl (hb hby at_111) rfl) ?_
            show Go p e below _ (T23.setTop (mkF m 112 #[.val (.int p1), .val (.int p2), .val (.int (3 : Int32)), .val (.ref w_AT_LEAST), .val (.int (6 : Int32)), .val (.int (0 : Int32)), .val (.int (0 : Int32))] [(.int p2), (.ref w_AT_LEAST)]))
            obtain ⟨cq25, kq25, q25a, q25b, q25c⟩ := isOf hZ e23 (E_AT_LEAST.ext O0.2)
            obtain ⟨_, _, ⟨T25, L25, k25, n25⟩, -, X25, ⟨Lc25, hQ25, l25, y25, z25⟩, st25⟩ := X23.virtualBack hx (y := (⟨"com/example/permits_from_duties/permitsfromduties/PolicyDocument$Operator", "test", "(I)Z"⟩ : MethodName)) (z := (⟨"com/example/permits_from_duties/permitsfromduties/PolicyDocument$Operator", "test", "(I)Z"⟩ : MethodName)) hown (mvT hZ (hw _ (List.mem_of_getElem? (i := 4) rfl))) (mvT hZ (hw _ (List.mem_of_getElem? (i := 5) rfl))) (notFace_of_selects (args := #[]) (mvT hZ (hw _ (List.mem_of_getElem? (i := 7) rfl)))) (mvT hZ (hw _ (List.mem_of_getElem? (i := 7) rfl))) (mvT hZ (hw _ (List.mem_of_getElem? (i := 6) rfl))) (by decide) (backOf (W := 0) (rm1_30 l Z a0 hw [] w_AT_LEAST p2 h0 n0 Z0 (E_AT_LEAST.ext O0.2) (F_AT_LEAST.ext O0.2) hc24 (own_sg0 hc24).1 (own_sg0 hc24).2) hZ (hw _ (List.mem_of_getElem? (i := 8) rfl)) (hw _ (List.mem_of_getElem? (i := 2) rfl)) (by decide) (by decide)) q25a q25c (g := (mkF m 112 #[.val (.int p1), .val (.int p2), .val (.int (3 : Int32)), .val (.ref w_AT_LEAST), .val (.int (6 : Int32)), .val (.int (0 : Int32)), .val (.int (0 : Int32))] [(.int p2), (.ref w_AT_LEAST)])) rfl (by rw [hml]; rfl) (Steps.refl _) (argsL := [(.int p2)]) (rest := []) (lenOf pd_1 rfl) rfl (by show 2 * 0 + _ ≤ _; exact Nat.le_of_eq rfl) (hb hby at_112) (fun _ _ => ⟨rfl, e23, (by decide : 0 + 0 ≤ _), (by decide : 0 + 0 ≤ _)⟩)
            dsimp only [Pt.U, Pt.locs, Pt.cells, Pt.slots] at X25 l25 y25 z25 st25 hQ25
            subst l25 y25 z25
            obtain ⟨rfl, N25q, e25q⟩ := hQ25
            have N25 := Fr.app N0 N25q
            refine Go.tr st25 ?_
            show Go p e below _ (T25.setTop (mkF m 115 #[.val (.int p1), .val (.int p2), .val (.int (3 : Int32)), .val (.ref w_AT_LEAST), .val (.int (6 : Int32)), .val (.int (0 : Int32)), .val (.int (0 : Int32))] [(.int (0 : Int32))]))
            refine Go.via (fun _ => XS.iload X25.here hx rfl (hb hby at_115) rfl) ?_
            show Go p e below _ (T25.setTop (mkF m 117 #[.val (.int p1), .val (.int p2), .val (.int (3 : Int32)), .val (.ref w_AT_LEAST), .val (.int (6 : Int32)), .val (.int (0 : Int32)), .val (.int (0 : Int32))] [(.int (0 : Int32)), (.int (0 : Int32))]))
            refine Go.via (fun _ => XS.icmpNo X25.here hx rfl (hb hby at_117) rfl (by decide)) ?_
            show Go p e below _ (T25.setTop (mkF m 120 #[.val (.int p1), .val (.int p2), .val (.int (3 : Int32)), .val (.ref w_AT_LEAST), .val (.int (6 : Int32)), .val (.int (0 : Int32)), .val (.int (0 : Int32))] []))
            refine Go.via (fun _ => XS.iconst X25.here hx rfl (hb hby at_120)) ?_
            show Go p e below _ (T25.setTop (mkF m 121 #[.val (.int p1), .val (.int p2), .val (.int (3 : Int32)), .val (.ref w_AT_LEAST), .val (.int (6 : Int32)), .val (.int (0 : Int32)), .val (.int (0 : Int32))] [(.int (1 : Int32))]))
            refine Go.via (fun _ => XS.goto X25.here hx rfl (pc0 := 121) (pc' := 125) rfl (hb hby at_121) (by decide) (by decide)) ?_
            show Go p e below _ (T25.setTop (mkF m 125 #[.val (.int p1), .val (.int p2), .val (.int (3 : Int32)), .val (.ref w_AT_LEAST), .val (.int (6 : Int32)), .val (.int (0 : Int32)), .val (.int (0 : Int32))] [(.int (1 : Int32))]))
            exact own_retN X25 hx hlk (t := .boolean) Bd.returns (by simp) (hb hby at_125) (by show Q0 Z p1 p2 w_LESS w_AT_MOST w_EQUAL w_AT_LEAST w_MORE h0 n0 _ T25.heap _; rw [e25q]; exact ⟨rfl, N25⟩) (by decide) (by decide)
          · -- no
            show Go p e below _ (T23.setTop (mkF m 75 #[.val (.int p1), .val (.int p2), .val (.int (3 : Int32)), .val (.ref w_AT_LEAST), .val (.int (6 : Int32)), .unset, .unset] [(.int p2)]))
            show Go p e below _ (T23.setTop (mkF m 75 #[.val (.int p1), .val (.int p2), .val (.int (3 : Int32)), .val (.ref w_AT_LEAST), .val (.int (6 : Int32)), .unset, .unset] [(.int p2)]))
            refine Go.via (fun _ => XS.ifYes X23.here hx rfl (pc0 := 75) (pc' := 82) rfl (hb hby at_75) rfl ((if0 _ _).trans (flt hc24).2.1) (by decide) (by decide)) ?_
            show Go p e below _ (T23.setTop (mkF m 82 #[.val (.int p1), .val (.int p2), .val (.int (3 : Int32)), .val (.ref w_AT_LEAST), .val (.int (6 : Int32)), .unset, .unset] []))
            refine Go.via (fun _ => XS.iloadN X23.here hx rfl (hb hby at_82) rfl) ?_
            show Go p e below _ (T23.setTop (mkF m 83 #[.val (.int p1), .val (.int p2), .val (.int (3 : Int32)), .val (.ref w_AT_LEAST), .val (.int (6 : Int32)), .unset, .unset] [(.int p2)]))
            by_cases hc26 : p2 = (0 : Int32)
            · -- yes
              show Go p e below _ (T23.setTop (mkF m 83 #[.val (.int p1), .val (.int p2), .val (.int (3 : Int32)), .val (.ref w_AT_LEAST), .val (.int (6 : Int32)), .unset, .unset] [(.int p2)]))
              show Go p e below _ (T23.setTop (mkF m 83 #[.val (.int p1), .val (.int p2), .val (.int (3 : Int32)), .val (.ref w_AT_LEAST), .val (.int (6 : Int32)), .unset, .unset] [(.int p2)]))
              refine Go.via (fun _ => XS.ifNo X23.here hx rfl (hb hby at_83) rfl ((if0 _ _).trans (teq hc26).2)) ?_
              show Go p e below _ (T23.setTop (mkF m 86 #[.val (.int p1), .val (.int p2), .val (.int (3 : Int32)), .val (.ref w_AT_LEAST), .val (.int (6 : Int32)), .unset, .unset] []))
              refine Go.via (fun _ => XS.iconst X23.here hx rfl (hb hby at_86)) ?_
              show Go p e below _ (T23.setTop (mkF m 87 #[.val (.int p1), .val (.int p2), .val (.int (3 : Int32)), .val (.ref w_AT_LEAST), .val (.int (6 : Int32)), .unset, .unset] [(.int (1 : Int32))]))
              refine Go.via (fun _ => XS.goto X23.here hx rfl (pc0 := 87) (pc' := 91) rfl (hb hby at_87) (by decide) (by decide)) ?_
              show Go p e below _ (T23.setTop (mkF m 91 #[.val (.int p1), .val (.int p2), .val (.int (3 : Int32)), .val (.ref w_AT_LEAST), .val (.int (6 : Int32)), .unset, .unset] [(.int (1 : Int32))]))
              refine Go.via (fun _ => XS.istore X23.here hx rfl (hb hby at_91) rfl (l' := #[.val (.int p1), .val (.int p2), .val (.int (3 : Int32)), .val (.ref w_AT_LEAST), .val (.int (6 : Int32)), .val (.int (1 : Int32)), .unset]) rfl) ?_
              show Go p e below _ (T23.setTop (mkF m 93 #[.val (.int p1), .val (.int p2), .val (.int (3 : Int32)), .val (.ref w_AT_LEAST), .val (.int (6 : Int32)), .val (.int (1 : Int32)), .unset] []))
              refine Go.via (fun _ => XS.iload X23.here hx rfl (hb hby at_93) rfl) ?_
              show Go p e below _ (T23.setTop (mkF m 95 #[.val (.int p1), .val (.int p2), .val (.int (3 : Int32)), .val (.ref w_AT_LEAST), .val (.int (6 : Int32)), .val (.int (1 : Int32)), .unset] [(.int (6 : Int32))]))
              refine Go.via (fun _ => XS.iload X23.here hx rfl (hb hby at_95) rfl) ?_
              show Go p e below _ (T23.setTop (mkF m 97 #[.val (.int p1), .val (.int p2), .val (.int (3 : Int32)), .val (.ref w_AT_LEAST), .val (.int (6 : Int32)), .val (.int (1 : Int32)), .unset] [(.int (1 : Int32)), (.int (6 : Int32))]))
              refine Go.via (fun _ => XS.ishr X23.here hx rfl (hb hby at_97) rfl) ?_
              show Go p e below _ (T23.setTop (mkF m 98 #[.val (.int p1), .val (.int p2), .val (.int (3 : Int32)), .val (.ref w_AT_LEAST), .val (.int (6 : Int32)), .val (.int (1 : Int32)), .unset] [(.int (3 : Int32))]))
              refine Go.via (fun _ => XS.iconst X23.here hx rfl (hb hby at_98)) ?_
              show Go p e below _ (T23.setTop (mkF m 99 #[.val (.int p1), .val (.int p2), .val (.int (3 : Int32)), .val (.ref w_AT_LEAST), .val (.int (6 : Int32)), .val (.int (1 : Int32)), .unset] [(.int (1 : Int32)), (.int (3 : Int32))]))
              refine Go.via (fun _ => XS.iand X23.here hx rfl (hb hby at_99) rfl) ?_
              show Go p e below _ (T23.setTop (mkF m 100 #[.val (.int p1), .val (.int p2), .val (.int (3 : Int32)), .val (.ref w_AT_LEAST), .val (.int (6 : Int32)), .val (.int (1 : Int32)), .unset] [(.int (1 : Int32))]))
              refine Go.via (fun _ => XS.ifNo X23.here hx rfl (hb hby at_100) rfl (by decide)) ?_
              show Go p e below _ (T23.setTop (mkF m 103 #[.val (.int p1), .val (.int p2), .val (.int (3 : Int32)), .val (.ref w_AT_LEAST), .val (.int (6 : Int32)), .val (.int (1 : Int32)), .unset] []))
              refine Go.via (fun _ => XS.iconst X23.here hx rfl (hb hby at_103)) ?_
              show Go p e below _ (T23.setTop (mkF m 104 #[.val (.int p1), .val (.int p2), .val (.int (3 : Int32)), .val (.ref w_AT_LEAST), .val (.int (6 : Int32)), .val (.int (1 : Int32)), .unset] [(.int (1 : Int32))]))
              refine Go.via (fun _ => XS.goto X23.here hx rfl (pc0 := 104) (pc' := 108) rfl (hb hby at_104) (by decide) (by decide)) ?_
              show Go p e below _ (T23.setTop (mkF m 108 #[.val (.int p1), .val (.int p2), .val (.int (3 : Int32)), .val (.ref w_AT_LEAST), .val (.int (6 : Int32)), .val (.int (1 : Int32)), .unset] [(.int (1 : Int32))]))
              refine Go.via (fun _ => XS.istore X23.here hx rfl (hb hby at_108) rfl (l' := #[.val (.int p1), .val (.int p2), .val (.int (3 : Int32)), .val (.ref w_AT_LEAST), .val (.int (6 : Int32)), .val (.int (1 : Int32)), .val (.int (1 : Int32))]) rfl) ?_
              show Go p e below _ (T23.setTop (mkF m 110 #[.val (.int p1), .val (.int p2), .val (.int (3 : Int32)), .val (.ref w_AT_LEAST), .val (.int (6 : Int32)), .val (.int (1 : Int32)), .val (.int (1 : Int32))] []))
              refine Go.via (fun _ => XS.aloadN X23.here hx rfl (hb hby at_110) rfl rfl) ?_
              show Go p e below _ (T23.setTop (mkF m 111 #[.val (.int p1), .val (.int p2), .val (.int (3 : Int32)), .val (.ref w_AT_LEAST), .val (.int (6 : Int32)), .val (.int (1 : Int32)), .val (.int (1 : Int32))] [(.ref w_AT_LEAST)]))
              refine Go.via (fun _ => XS.iloadN X23.here hx rfl (hb hby at_111) rfl) ?_
              show Go p e below _ (T23.setTop (mkF m 112 #[.val (.int p1), .val (.int p2), .val (.int (3 : Int32)), .val (.ref w_AT_LEAST), .val (.int (6 : Int32)), .val (.int (1 : Int32)), .val (.int (1 : Int32))] [(.int p2), (.ref w_AT_LEAST)]))
              obtain ⟨cq27, kq27, q27a, q27b, q27c⟩ := isOf hZ e23 (E_AT_LEAST.ext O0.2)
              obtain ⟨_, _, ⟨T27, L27, k27, n27⟩, -, X27, ⟨Lc27, hQ27, l27, y27, z27⟩, st27⟩ := X23.virtualBack hx (y := (⟨"com/example/permits_from_duties/permitsfromduties/PolicyDocument$Operator", "test", "(I)Z"⟩ : MethodName)) (z := (⟨"com/example/permits_from_duties/permitsfromduties/PolicyDocument$Operator", "test", "(I)Z"⟩ : MethodName)) hown (mvT hZ (hw _ (List.mem_of_getElem? (i := 4) rfl))) (mvT hZ (hw _ (List.mem_of_getElem? (i := 5) rfl))) (notFace_of_selects (args := #[]) (mvT hZ (hw _ (List.mem_of_getElem? (i := 7) rfl)))) (mvT hZ (hw _ (List.mem_of_getElem? (i := 7) rfl))) (mvT hZ (hw _ (List.mem_of_getElem? (i := 6) rfl))) (by decide) (backOf (W := 0) (rm1_31 l Z a0 hw [] w_AT_LEAST p2 h0 n0 Z0 (E_AT_LEAST.ext O0.2) (F_AT_LEAST.ext O0.2) (own_sg1 hc26).1 hc26 (own_sg1 hc26).2) hZ (hw _ (List.mem_of_getElem? (i := 8) rfl)) (hw _ (List.mem_of_getElem? (i := 2) rfl)) (by decide) (by decide)) q27a q27c (g := (mkF m 112 #[.val (.int p1), .val (.int p2), .val (.int (3 : Int32)), .val (.ref w_AT_LEAST), .val (.int (6 : Int32)), .val (.int (1 : Int32)), .val (.int (1 : Int32))] [(.int p2), (.ref w_AT_LEAST)])) rfl (by rw [hml]; rfl) (Steps.refl _) (argsL := [(.int p2)]) (rest := []) (lenOf pd_1 rfl) rfl (by show 2 * 0 + _ ≤ _; exact Nat.le_of_eq rfl) (hb hby at_112) (fun _ _ => ⟨rfl, e23, (by decide : 0 + 0 ≤ _), (by decide : 0 + 0 ≤ _)⟩)
              dsimp only [Pt.U, Pt.locs, Pt.cells, Pt.slots] at X27 l27 y27 z27 st27 hQ27
              subst l27 y27 z27
              obtain ⟨rfl, N27q, e27q⟩ := hQ27
              have N27 := Fr.app N0 N27q
              refine Go.tr st27 ?_
              show Go p e below _ (T27.setTop (mkF m 115 #[.val (.int p1), .val (.int p2), .val (.int (3 : Int32)), .val (.ref w_AT_LEAST), .val (.int (6 : Int32)), .val (.int (1 : Int32)), .val (.int (1 : Int32))] [(.int (1 : Int32))]))
              refine Go.via (fun _ => XS.iload X27.here hx rfl (hb hby at_115) rfl) ?_
              show Go p e below _ (T27.setTop (mkF m 117 #[.val (.int p1), .val (.int p2), .val (.int (3 : Int32)), .val (.ref w_AT_LEAST), .val (.int (6 : Int32)), .val (.int (1 : Int32)), .val (.int (1 : Int32))] [(.int (1 : Int32)), (.int (1 : Int32))]))
              refine Go.via (fun _ => XS.icmpNo X27.here hx rfl (hb hby at_117) rfl (by decide)) ?_
              show Go p e below _ (T27.setTop (mkF m 120 #[.val (.int p1), .val (.int p2), .val (.int (3 : Int32)), .val (.ref w_AT_LEAST), .val (.int (6 : Int32)), .val (.int (1 : Int32)), .val (.int (1 : Int32))] []))
              refine Go.via (fun _ => XS.iconst X27.here hx rfl (hb hby at_120)) ?_
              show Go p e below _ (T27.setTop (mkF m 121 #[.val (.int p1), .val (.int p2), .val (.int (3 : Int32)), .val (.ref w_AT_LEAST), .val (.int (6 : Int32)), .val (.int (1 : Int32)), .val (.int (1 : Int32))] [(.int (1 : Int32))]))
              refine Go.via (fun _ => XS.goto X27.here hx rfl (pc0 := 121) (pc' := 125) rfl (hb hby at_121) (by decide) (by decide)) ?_
              show Go p e below _ (T27.setTop (mkF m 125 #[.val (.int p1), .val (.int p2), .val (.int (3 : Int32)), .val (.ref w_AT_LEAST), .val (.int (6 : Int32)), .val (.int (1 : Int32)), .val (.int (1 : Int32))] [(.int (1 : Int32))]))
              exact own_retN X27 hx hlk (t := .boolean) Bd.returns (by simp) (hb hby at_125) (by show Q0 Z p1 p2 w_LESS w_AT_MOST w_EQUAL w_AT_LEAST w_MORE h0 n0 _ T27.heap _; rw [e27q]; exact ⟨rfl, N27⟩) (by decide) (by decide)
            · -- no
              show Go p e below _ (T23.setTop (mkF m 83 #[.val (.int p1), .val (.int p2), .val (.int (3 : Int32)), .val (.ref w_AT_LEAST), .val (.int (6 : Int32)), .unset, .unset] [(.int p2)]))
              show Go p e below _ (T23.setTop (mkF m 83 #[.val (.int p1), .val (.int p2), .val (.int (3 : Int32)), .val (.ref w_AT_LEAST), .val (.int (6 : Int32)), .unset, .unset] [(.int p2)]))
              refine Go.via (fun _ => XS.ifYes X23.here hx rfl (pc0 := 83) (pc' := 90) rfl (hb hby at_83) rfl ((if0 _ _).trans (feq hc26).2) (by decide) (by decide)) ?_
              show Go p e below _ (T23.setTop (mkF m 90 #[.val (.int p1), .val (.int p2), .val (.int (3 : Int32)), .val (.ref w_AT_LEAST), .val (.int (6 : Int32)), .unset, .unset] []))
              refine Go.via (fun _ => XS.iconst X23.here hx rfl (hb hby at_90)) ?_
              show Go p e below _ (T23.setTop (mkF m 91 #[.val (.int p1), .val (.int p2), .val (.int (3 : Int32)), .val (.ref w_AT_LEAST), .val (.int (6 : Int32)), .unset, .unset] [(.int (2 : Int32))]))
              refine Go.via (fun _ => XS.istore X23.here hx rfl (hb hby at_91) rfl (l' := #[.val (.int p1), .val (.int p2), .val (.int (3 : Int32)), .val (.ref w_AT_LEAST), .val (.int (6 : Int32)), .val (.int (2 : Int32)), .unset]) rfl) ?_
              show Go p e below _ (T23.setTop (mkF m 93 #[.val (.int p1), .val (.int p2), .val (.int (3 : Int32)), .val (.ref w_AT_LEAST), .val (.int (6 : Int32)), .val (.int (2 : Int32)), .unset] []))
              refine Go.via (fun _ => XS.iload X23.here hx rfl (hb hby at_93) rfl) ?_
              show Go p e below _ (T23.setTop (mkF m 95 #[.val (.int p1), .val (.int p2), .val (.int (3 : Int32)), .val (.ref w_AT_LEAST), .val (.int (6 : Int32)), .val (.int (2 : Int32)), .unset] [(.int (6 : Int32))]))
              refine Go.via (fun _ => XS.iload X23.here hx rfl (hb hby at_95) rfl) ?_
              show Go p e below _ (T23.setTop (mkF m 97 #[.val (.int p1), .val (.int p2), .val (.int (3 : Int32)), .val (.ref w_AT_LEAST), .val (.int (6 : Int32)), .val (.int (2 : Int32)), .unset] [(.int (2 : Int32)), (.int (6 : Int32))]))
              refine Go.via (fun _ => XS.ishr X23.here hx rfl (hb hby at_97) rfl) ?_
              show Go p e below _ (T23.setTop (mkF m 98 #[.val (.int p1), .val (.int p2), .val (.int (3 : Int32)), .val (.ref w_AT_LEAST), .val (.int (6 : Int32)), .val (.int (2 : Int32)), .unset] [(.int (1 : Int32))]))
              refine Go.via (fun _ => XS.iconst X23.here hx rfl (hb hby at_98)) ?_
              show Go p e below _ (T23.setTop (mkF m 99 #[.val (.int p1), .val (.int p2), .val (.int (3 : Int32)), .val (.ref w_AT_LEAST), .val (.int (6 : Int32)), .val (.int (2 : Int32)), .unset] [(.int (1 : Int32)), (.int (1 : Int32))]))
              refine Go.via (fun _ => XS.iand X23.here hx rfl (hb hby at_99) rfl) ?_
              show Go p e below _ (T23.setTop (mkF m 100 #[.val (.int p1), .val (.int p2), .val (.int (3 : Int32)), .val (.ref w_AT_LEAST), .val (.int (6 : Int32)), .val (.int (2 : Int32)), .unset] [(.int (1 : Int32))]))
              refine Go.via (fun _ => XS.ifNo X23.here hx rfl (hb hby at_100) rfl (by decide)) ?_
              show Go p e below _ (T23.setTop (mkF m 103 #[.val (.int p1), .val (.int p2), .val (.int (3 : Int32)), .val (.ref w_AT_LEAST), .val (.int (6 : Int32)), .val (.int (2 : Int32)), .unset] []))
              refine Go.via (fun _ => XS.iconst X23.here hx rfl (hb hby at_103)) ?_
              show Go p e below _ (T23.setTop (mkF m 104 #[.val (.int p1), .val (.int p2), .val (.int (3 : Int32)), .val (.ref w_AT_LEAST), .val (.int (6 : Int32)), .val (.int (2 : Int32)), .unset] [(.int (1 : Int32))]))
              refine Go.via (fun _ => XS.goto X23.here hx rfl (pc0 := 104) (pc' := 108) rfl (hb hby at_104) (by decide) (by decide)) ?_
              show Go p e below _ (T23.setTop (mkF m 108 #[.val (.int p1), .val (.int p2), .val (.int (3 : Int32)), .val (.ref w_AT_LEAST), .val (.int (6 : Int32)), .val (.int (2 : Int32)), .unset] [(.int (1 : Int32))]))
              refine Go.via (fun _ => XS.istore X23.here hx rfl (hb hby at_108) rfl (l' := #[.val (.int p1), .val (.int p2), .val (.int (3 : Int32)), .val (.ref w_AT_LEAST), .val (.int (6 : Int32)), .val (.int (2 : Int32)), .val (.int (1 : Int32))]) rfl) ?_
              show Go p e below _ (T23.setTop (mkF m 110 #[.val (.int p1), .val (.int p2), .val (.int (3 : Int32)), .val (.ref w_AT_LEAST), .val (.int (6 : Int32)), .val (.int (2 : Int32)), .val (.int (1 : Int32))] []))
              refine Go.via (fun _ => XS.aloadN X23.here hx rfl (hb hby at_110) rfl rfl) ?_
              show Go p e below _ (T23.setTop (mkF m 111 #[.val (.int p1), .val (.int p2), .val (.int (3 : Int32)), .val (.ref w_AT_LEAST), .val (.int (6 : Int32)), .val (.int (2 : Int32)), .val (.int (1 : Int32))] [(.ref w_AT_LEAST)]))
              refine Go.via (fun _ => XS.iloadN X23.here hx rfl (hb hby at_111) rfl) ?_
              show Go p e below _ (T23.setTop (mkF m 112 #[.val (.int p1), .val (.int p2), .val (.int (3 : Int32)), .val (.ref w_AT_LEAST), .val (.int (6 : Int32)), .val (.int (2 : Int32)), .val (.int (1 : Int32))] [(.int p2), (.ref w_AT_LEAST)]))
              obtain ⟨cq28, kq28, q28a, q28b, q28c⟩ := isOf hZ e23 (E_AT_LEAST.ext O0.2)
              obtain ⟨_, _, ⟨T28, L28, k28, n28⟩, -, X28, ⟨Lc28, hQ28, l28, y28, z28⟩, st28⟩ := X23.virtualBack hx (y := (⟨"com/example/permits_from_duties/permitsfromduties/PolicyDocument$Operator", "test", "(I)Z"⟩ : MethodName)) (z := (⟨"com/example/permits_from_duties/permitsfromduties/PolicyDocument$Operator", "test", "(I)Z"⟩ : MethodName)) hown (mvT hZ (hw _ (List.mem_of_getElem? (i := 4) rfl))) (mvT hZ (hw _ (List.mem_of_getElem? (i := 5) rfl))) (notFace_of_selects (args := #[]) (mvT hZ (hw _ (List.mem_of_getElem? (i := 7) rfl)))) (mvT hZ (hw _ (List.mem_of_getElem? (i := 7) rfl))) (mvT hZ (hw _ (List.mem_of_getElem? (i := 6) rfl))) (by decide) (backOf (W := 0) (rm1_32 l Z a0 hw [] w_AT_LEAST p2 h0 n0 Z0 (E_AT_LEAST.ext O0.2) (F_AT_LEAST.ext O0.2) hc24 hc26 (own_sg2 hc24 hc26)) hZ (hw _ (List.mem_of_getElem? (i := 8) rfl)) (hw _ (List.mem_of_getElem? (i := 2) rfl)) (by decide) (by decide)) q28a q28c (g := (mkF m 112 #[.val (.int p1), .val (.int p2), .val (.int (3 : Int32)), .val (.ref w_AT_LEAST), .val (.int (6 : Int32)), .val (.int (2 : Int32)), .val (.int (1 : Int32))] [(.int p2), (.ref w_AT_LEAST)])) rfl (by rw [hml]; rfl) (Steps.refl _) (argsL := [(.int p2)]) (rest := []) (lenOf pd_1 rfl) rfl (by show 2 * 0 + _ ≤ _; exact Nat.le_of_eq rfl) (hb hby at_112) (fun _ _ => ⟨rfl, e23, (by decide : 0 + 0 ≤ _), (by decide : 0 + 0 ≤ _)⟩)
              dsimp only [Pt.U, Pt.locs, Pt.cells, Pt.slots] at X28 l28 y28 z28 st28 hQ28
              subst l28 y28 z28
              obtain ⟨rfl, N28q, e28q⟩ := hQ28
              have N28 := Fr.app N0 N28q
              refine Go.tr st28 ?_
              show Go p e below _ (T28.setTop (mkF m 115 #[.val (.int p1), .val (.int p2), .val (.int (3 : Int32)), .val (.ref w_AT_LEAST), .val (.int (6 : Int32)), .val (.int (2 : Int32)), .val (.int (1 : Int32))] [(.int (1 : Int32))]))
              refine Go.via (fun _ => XS.iload X28.here hx rfl (hb hby at_115) rfl) ?_
              show Go p e below _ (T28.setTop (mkF m 117 #[.val (.int p1), .val (.int p2), .val (.int (3 : Int32)), .val (.ref w_AT_LEAST), .val (.int (6 : Int32)), .val (.int (2 : Int32)), .val (.int (1 : Int32))] [(.int (1 : Int32)), (.int (1 : Int32))]))
              refine Go.via (fun _ => XS.icmpNo X28.here hx rfl (hb hby at_117) rfl (by decide)) ?_
              show Go p e below _ (T28.setTop (mkF m 120 #[.val (.int p1), .val (.int p2), .val (.int (3 : Int32)), .val (.ref w_AT_LEAST), .val (.int (6 : Int32)), .val (.int (2 : Int32)), .val (.int (1 : Int32))] []))
              refine Go.via (fun _ => XS.iconst X28.here hx rfl (hb hby at_120)) ?_
              show Go p e below _ (T28.setTop (mkF m 121 #[.val (.int p1), .val (.int p2), .val (.int (3 : Int32)), .val (.ref w_AT_LEAST), .val (.int (6 : Int32)), .val (.int (2 : Int32)), .val (.int (1 : Int32))] [(.int (1 : Int32))]))
              refine Go.via (fun _ => XS.goto X28.here hx rfl (pc0 := 121) (pc' := 125) rfl (hb hby at_121) (by decide) (by decide)) ?_
              show Go p e below _ (T28.setTop (mkF m 125 #[.val (.int p1), .val (.int p2), .val (.int (3 : Int32)), .val (.ref w_AT_LEAST), .val (.int (6 : Int32)), .val (.int (2 : Int32)), .val (.int (1 : Int32))] [(.int (1 : Int32))]))
              exact own_retN X28 hx hlk (t := .boolean) Bd.returns (by simp) (hb hby at_125) (by show Q0 Z p1 p2 w_LESS w_AT_MOST w_EQUAL w_AT_LEAST w_MORE h0 n0 _ T28.heap _; rw [e28q]; exact ⟨rfl, N28⟩) (by decide) (by decide)
        · -- no
          show Go p e below _ (s₁.setTop (mkF m 53 #[.val (.int p1), .val (.int p2), .val (.int k), .unset, .unset, .unset, .unset] [(.int (3 : Int32)), (.int k)]))
          show Go p e below _ (s₁.setTop (mkF m 53 #[.val (.int p1), .val (.int p2), .val (.int k), .unset, .unset, .unset, .unset] [(.int (3 : Int32)), (.int k)]))
          refine Go.via (fun _ => XS.icmpYes X0.here hx rfl (pc0 := 53) (pc' := 67) rfl (hb hby at_53) rfl (feq hc22).2 (by decide) (by decide)) ?_
          show Go p e below _ (s₁.setTop (mkF m 67 #[.val (.int p1), .val (.int p2), .val (.int k), .unset, .unset, .unset, .unset] []))
          obtain ⟨T29, X29, e29, st29⟩ := getS2 X0 hx hZ hown (host := "") (Or.inl (hw _ (List.mem_of_getElem? (i := 18) rfl))) Via.refl e0 (S_MORE.ext O0.2) (g := (mkF m 67 #[.val (.int p1), .val (.int p2), .val (.int k), .unset, .unset, .unset, .unset] [])) rfl (hb hby at_67)
          refine Go.via st29 ?_
          show Go p e below _ (T29.setTop (mkF m 70 #[.val (.int p1), .val (.int p2), .val (.int k), .unset, .unset, .unset, .unset] [(.ref w_MORE)]))
          refine Go.via (fun _ => XS.astoreN X29.here hx rfl (hb hby at_70) rfl rfl (l' := #[.val (.int p1), .val (.int p2), .val (.int k), .val (.ref w_MORE), .unset, .unset, .unset]) rfl) ?_
          show Go p e below _ (T29.setTop (mkF m 71 #[.val (.int p1), .val (.int p2), .val (.int k), .val (.ref w_MORE), .unset, .unset, .unset] []))
          refine Go.via (fun _ => XS.iconst X29.here hx rfl (hb hby at_71)) ?_
          show Go p e below _ (T29.setTop (mkF m 72 #[.val (.int p1), .val (.int p2), .val (.int k), .val (.ref w_MORE), .unset, .unset, .unset] [(.int (4 : Int32))]))
          refine Go.via (fun _ => XS.istore X29.here hx rfl (hb hby at_72) rfl (l' := #[.val (.int p1), .val (.int p2), .val (.int k), .val (.ref w_MORE), .val (.int (4 : Int32)), .unset, .unset]) rfl) ?_
          show Go p e below _ (T29.setTop (mkF m 74 #[.val (.int p1), .val (.int p2), .val (.int k), .val (.ref w_MORE), .val (.int (4 : Int32)), .unset, .unset] []))
          refine Go.via (fun _ => XS.iloadN X29.here hx rfl (hb hby at_74) rfl) ?_
          show Go p e below _ (T29.setTop (mkF m 75 #[.val (.int p1), .val (.int p2), .val (.int k), .val (.ref w_MORE), .val (.int (4 : Int32)), .unset, .unset] [(.int p2)]))
          by_cases hc30 : p2 < (0 : Int32)
          · -- yes
            show Go p e below _ (T29.setTop (mkF m 75 #[.val (.int p1), .val (.int p2), .val (.int k), .val (.ref w_MORE), .val (.int (4 : Int32)), .unset, .unset] [(.int p2)]))
            show Go p e below _ (T29.setTop (mkF m 75 #[.val (.int p1), .val (.int p2), .val (.int k), .val (.ref w_MORE), .val (.int (4 : Int32)), .unset, .unset] [(.int p2)]))
            refine Go.via (fun _ => XS.ifNo X29.here hx rfl (hb hby at_75) rfl ((if0 _ _).trans (tlt hc30).2.1)) ?_
            show Go p e below _ (T29.setTop (mkF m 78 #[.val (.int p1), .val (.int p2), .val (.int k), .val (.ref w_MORE), .val (.int (4 : Int32)), .unset, .unset] []))
            refine Go.via (fun _ => XS.iconst X29.here hx rfl (hb hby at_78)) ?_
            show Go p e below _ (T29.setTop (mkF m 79 #[.val (.int p1), .val (.int p2), .val (.int k), .val (.ref w_MORE), .val (.int (4 : Int32)), .unset, .unset] [(.int (0 : Int32))]))
            refine Go.via (fun _ => XS.goto X29.here hx rfl (pc0 := 79) (pc' := 91) rfl (hb hby at_79) (by decide) (by decide)) ?_
            show Go p e below _ (T29.setTop (mkF m 91 #[.val (.int p1), .val (.int p2), .val (.int k), .val (.ref w_MORE), .val (.int (4 : Int32)), .unset, .unset] [(.int (0 : Int32))]))
            refine Go.via (fun _ => XS.istore X29.here hx rfl (hb hby at_91) rfl (l' := #[.val (.int p1), .val (.int p2), .val (.int k), .val (.ref w_MORE), .val (.int (4 : Int32)), .val (.int (0 : Int32)), .unset]) rfl) ?_
            show Go p e below _ (T29.setTop (mkF m 93 #[.val (.int p1), .val (.int p2), .val (.int k), .val (.ref w_MORE), .val (.int (4 : Int32)), .val (.int (0 : Int32)), .unset] []))
            refine Go.via (fun _ => XS.iload X29.here hx rfl (hb hby at_93) rfl) ?_
            show Go p e below _ (T29.setTop (mkF m 95 #[.val (.int p1), .val (.int p2), .val (.int k), .val (.ref w_MORE), .val (.int (4 : Int32)), .val (.int (0 : Int32)), .unset] [(.int (4 : Int32))]))
            refine Go.via (fun _ => XS.iload X29.here hx rfl (hb hby at_95) rfl) ?_
            show Go p e below _ (T29.setTop (mkF m 97 #[.val (.int p1), .val (.int p2), .val (.int k), .val (.ref w_MORE), .val (.int (4 : Int32)), .val (.int (0 : Int32)), .unset] [(.int (0 : Int32)), (.int (4 : Int32))]))
            refine Go.via (fun _ => XS.ishr X29.here hx rfl (hb hby at_97) rfl) ?_
            show Go p e below _ (T29.setTop (mkF m 98 #[.val (.int p1), .val (.int p2), .val (.int k), .val (.ref w_MORE), .val (.int (4 : Int32)), .val (.int (0 : Int32)), .unset] [(.int (4 : Int32))]))
            refine Go.via (fun _ => XS.iconst X29.here hx rfl (hb hby at_98)) ?_
            show Go p e below _ (T29.setTop (mkF m 99 #[.val (.int p1), .val (.int p2), .val (.int k), .val (.ref w_MORE), .val (.int (4 : Int32)), .val (.int (0 : Int32)), .unset] [(.int (1 : Int32)), (.int (4 : Int32))]))
            refine Go.via (fun _ => XS.iand X29.here hx rfl (hb hby at_99) rfl) ?_
            show Go p e below _ (T29.setTop (mkF m 100 #[.val (.int p1), .val (.int p2), .val (.int k), .val (.ref w_MORE), .val (.int (4 : Int32)), .val (.int (0 : Int32)), .unset] [(.int (0 : Int32))]))
            refine Go.via (fun _ => XS.ifYes X29.here hx rfl (pc0 := 100) (pc' := 107) rfl (hb hby at_100) rfl (by decide) (by decide) (by decide)) ?_
            show Go p e below _ (T29.setTop (mkF m 107 #[.val (.int p1), .val (.int p2), .val (.int k), .val (.ref w_MORE), .val (.int (4 : Int32)), .val (.int (0 : Int32)), .unset] []))
            refine Go.via (fun _ => XS.iconst X29.here hx rfl (hb hby at_107)) ?_
            show Go p e below _ (T29.setTop (mkF m 108 #[.val (.int p1), .val (.int p2), .val (.int k), .val (.ref w_MORE), .val (.int (4 : Int32)), .val (.int (0 : Int32)), .unset] [(.int (0 : Int32))]))
            refine Go.via (fun _ => XS.istore X29.here hx rfl (hb hby at_108) rfl (l' := #[.val (.int p1), .val (.int p2), .val (.int k), .val (.ref w_MORE), .val (.int (4 : Int32)), .val (.int (0 : Int32)), .val (.int (0 : Int32))]) rfl) ?_
            show Go p e below _ (T29.setTop (mkF m 110 #[.val (.int p1), .val (.int p2), .val (.int k), .val (.ref w_MORE), .val (.int (4 : Int32)), .val (.int (0 : Int32)), .val (.int (0 : Int32))] []))
            refine Go.via (fun _ => XS.aloadN X29.here hx rfl (hb hby at_110) rfl rfl) ?_
            show Go p e below _ (T29.setTop (mkF m 111 #[.val (.int p1), .val (.int p2), .val (.int k), .val (.ref w_MORE), .val (.int (4 : Int32)), .val (.int (0 : Int32)), .val (.int (0 : Int32))] [(.ref w_MORE)]))
            refine Go.via (fun _ => XS.iloadN X29.here hx rfl (hb hby at_111) rfl) ?_
            show Go p e below _ (T29.setTop (mkF m 112 #[.val (.int p1), .val (.int p2), .val (.int k), .val (.ref w_MORE), .val (.int (4 : Int32)), .val (.int (0 : Int32)), .val (.int (0 : Int32))] [(.int p2), (.ref w_MORE)]))
            obtain ⟨cq31, kq31, q31a, q31b, q31c⟩ := isOf hZ e29 (E_MORE.ext O0.2)
            obtain ⟨_, _, ⟨T31, L31, k31, n31⟩, -, X31, ⟨Lc31, hQ31, l31, y31, z31⟩, st31⟩ := X29.virtualBack hx (y := (⟨"com/example/permits_from_duties/permitsfromduties/PolicyDocument$Operator", "test", "(I)Z"⟩ : MethodName)) (z := (⟨"com/example/permits_from_duties/permitsfromduties/PolicyDocument$Operator", "test", "(I)Z"⟩ : MethodName)) hown (mvT hZ (hw _ (List.mem_of_getElem? (i := 4) rfl))) (mvT hZ (hw _ (List.mem_of_getElem? (i := 5) rfl))) (notFace_of_selects (args := #[]) (mvT hZ (hw _ (List.mem_of_getElem? (i := 7) rfl)))) (mvT hZ (hw _ (List.mem_of_getElem? (i := 7) rfl))) (mvT hZ (hw _ (List.mem_of_getElem? (i := 6) rfl))) (by decide) (backOf (W := 0) (rm1_40 l Z a0 hw [] w_MORE p2 h0 n0 Z0 (E_MORE.ext O0.2) (F_MORE.ext O0.2) hc30 (own_sg0 hc30).1 (own_sg0 hc30).2) hZ (hw _ (List.mem_of_getElem? (i := 8) rfl)) (hw _ (List.mem_of_getElem? (i := 2) rfl)) (by decide) (by decide)) q31a q31c (g := (mkF m 112 #[.val (.int p1), .val (.int p2), .val (.int k), .val (.ref w_MORE), .val (.int (4 : Int32)), .val (.int (0 : Int32)), .val (.int (0 : Int32))] [(.int p2), (.ref w_MORE)])) rfl (by rw [hml]; rfl) (Steps.refl _) (argsL := [(.int p2)]) (rest := []) (lenOf pd_1 rfl) rfl (by show 2 * 0 + _ ≤ _; exact Nat.le_of_eq rfl) (hb hby at_112) (fun _ _ => ⟨rfl, e29, (by decide : 0 + 0 ≤ _), (by decide : 0 + 0 ≤ _)⟩)
            dsimp only [Pt.U, Pt.locs, Pt.cells, Pt.slots] at X31 l31 y31 z31 st31 hQ31
            subst l31 y31 z31
            obtain ⟨rfl, N31q, e31q⟩ := hQ31
            have N31 := Fr.app N0 N31q
            refine Go.tr st31 ?_
            show Go p e below _ (T31.setTop (mkF m 115 #[.val (.int p1), .val (.int p2), .val (.int k), .val (.ref w_MORE), .val (.int (4 : Int32)), .val (.int (0 : Int32)), .val (.int (0 : Int32))] [(.int (0 : Int32))]))
            refine Go.via (fun _ => XS.iload X31.here hx rfl (hb hby at_115) rfl) ?_
            show Go p e below _ (T31.setTop (mkF m 117 #[.val (.int p1), .val (.int p2), .val (.int k), .val (.ref w_MORE), .val (.int (4 : Int32)), .val (.int (0 : Int32)), .val (.int (0 : Int32))] [(.int (0 : Int32)), (.int (0 : Int32))]))
            refine Go.via (fun _ => XS.icmpNo X31.here hx rfl (hb hby at_117) rfl (by decide)) ?_
            show Go p e below _ (T31.setTop (mkF m 120 #[.val (.int p1), .val (.int p2), .val (.int k), .val (.ref w_MORE), .val (.int (4 : Int32)), .val (.int (0 : Int32)), .val (.int (0 : Int32))] []))
            refine Go.via (fun _ => XS.iconst X31.here hx rfl (hb hby at_120)) ?_
            show Go p e below _ (T31.setTop (mkF m 121 #[.val (.int p1), .val (.int p2), .val (.int k), .val (.ref w_MORE), .val (.int (4 : Int32)), .val (.int (0 : Int32)), .val (.int (0 : Int32))] [(.int (1 : Int32))]))
            refine Go.via (fun _ => XS.goto X31.here hx rfl (pc0 := 121) (pc' := 125) rfl (hb hby at_121) (by decide) (by decide)) ?_
            show Go p e below _ (T31.setTop (mkF m 125 #[.val (.int p1), .val (.int p2), .val (.int k), .val (.ref w_MORE), .val (.int (4 : Int32)), .val (.int (0 : Int32)), .val (.int (0 : Int32))] [(.int (1 : Int32))]))
            exact own_retN X31 hx hlk (t := .boolean) Bd.returns (by simp) (hb hby at_125) (by show Q0 Z p1 p2 w_LESS w_AT_MOST w_EQUAL w_AT_LEAST w_MORE h0 n0 _ T31.heap _; rw [e31q]; exact ⟨rfl, N31⟩) (by decide) (by decide)
          · -- no
            show Go p e below _ (T29.setTop (mkF m 75 #[.val (.int p1), .val (.int p2), .val (.int k), .val (.ref w_MORE), .val (.int (4 : Int32)), .unset, .unset] [(.int p2)]))
            show Go p e below _ (T29.setTop (mkF m 75 #[.val (.int p1), .val (.int p2), .val (.int k), .val (.ref w_MORE), .val (.int (4 : Int32)), .unset, .unset] [(.int p2)]))
            refine Go.via (fun _ => XS.ifYes X29.here hx rfl (pc0 := 75) (pc' := 82) rfl (hb hby at_75) rfl ((if0 _ _).trans (flt hc30).2.1) (by decide) (by decide)) ?_
            show Go p e below _ (T29.setTop (mkF m 82 #[.val (.int p1), .val (.int p2), .val (.int k), .val (.ref w_MORE), .val (.int (4 : Int32)), .unset, .unset] []))
            refine Go.via (fun _ => XS.iloadN X29.here hx rfl (hb hby at_82) rfl) ?_
            show Go p e below _ (T29.setTop (mkF m 83 #[.val (.int p1), .val (.int p2), .val (.int k), .val (.ref w_MORE), .val (.int (4 : Int32)), .unset, .unset] [(.int p2)]))
            by_cases hc32 : p2 = (0 : Int32)
            · -- yes
              show Go p e below _ (T29.setTop (mkF m 83 #[.val (.int p1), .val (.int p2), .val (.int k), .val (.ref w_MORE), .val (.int (4 : Int32)), .unset, .unset] [(.int p2)]))
              show Go p e below _ (T29.setTop (mkF m 83 #[.val (.int p1), .val (.int p2), .val (.int k), .val (.ref w_MORE), .val (.int (4 : Int32)), .unset, .unset] [(.int p2)]))
              refine Go.via (fun _ => XS.ifNo X29.here hx rfl (hb hby at_83) rfl ((if0 _ _).trans (teq hc32).2)) ?_
              show Go p e below _ (T29.setTop (mkF m 86 #[.val (.int p1), .val (.int p2), .val (.int k), .val (.ref w_MORE), .val (.int (4 : Int32)), .unset, .unset] []))
              refine Go.via (fun _ => XS.iconst X29.here hx rfl (hb hby at_86)) ?_
              show Go p e below _ (T29.setTop (mkF m 87 #[.val (.int p1), .val (.int p2), .val (.int k), .val (.ref w_MORE), .val (.int (4 : Int32)), .unset, .unset] [(.int (1 : Int32))]))
              refine Go.via (fun _ => XS.goto X29.here hx rfl (pc0 := 87) (pc' := 91) rfl (hb hby at_87) (by decide) (by decide)) ?_
              show Go p e below _ (T29.setTop (mkF m 91 #[.val (.int p1), .val (.int p2), .val (.int k), .val (.ref w_MORE), .val (.int (4 : Int32)), .unset, .unset] [(.int (1 : Int32))]))
              refine Go.via (fun _ => XS.istore X29.here hx rfl (hb hby at_91) rfl (l' := #[.val (.int p1), .val (.int p2), .val (.int k), .val (.ref w_MORE), .val (.int (4 : Int32)), .val (.int (1 : Int32)), .unset]) rfl) ?_
              show Go p e below _ (T29.setTop (mkF m 93 #[.val (.int p1), .val (.int p2), .val (.int k), .val (.ref w_MORE), .val (.int (4 : Int32)), .val (.int (1 : Int32)), .unset] []))
              refine Go.via (fun _ => XS.iload X29.here hx rfl (hb hby at_93) rfl) ?_
              show Go p e below _ (T29.setTop (mkF m 95 #[.val (.int p1), .val (.int p2), .val (.int k), .val (.ref w_MORE), .val (.int (4 : Int32)), .val (.int (1 : Int32)), .unset] [(.int (4 : Int32))]))
              refine Go.via (fun _ => XS.iload X29.here hx rfl (hb hby at_95) rfl) ?_
              show Go p e below _ (T29.setTop (mkF m 97 #[.val (.int p1), .val (.int p2), .val (.int k), .val (.ref w_MORE), .val (.int (4 : Int32)), .val (.int (1 : Int32)), .unset] [(.int (1 : Int32)), (.int (4 : Int32))]))
              refine Go.via (fun _ => XS.ishr X29.here hx rfl (hb hby at_97) rfl) ?_
              show Go p e below _ (T29.setTop (mkF m 98 #[.val (.int p1), .val (.int p2), .val (.int k), .val (.ref w_MORE), .val (.int (4 : Int32)), .val (.int (1 : Int32)), .unset] [(.int (2 : Int32))]))
              refine Go.via (fun _ => XS.iconst X29.here hx rfl (hb hby at_98)) ?_
              show Go p e below _ (T29.setTop (mkF m 99 #[.val (.int p1), .val (.int p2), .val (.int k), .val (.ref w_MORE), .val (.int (4 : Int32)), .val (.int (1 : Int32)), .unset] [(.int (1 : Int32)), (.int (2 : Int32))]))
              refine Go.via (fun _ => XS.iand X29.here hx rfl (hb hby at_99) rfl) ?_
              show Go p e below _ (T29.setTop (mkF m 100 #[.val (.int p1), .val (.int p2), .val (.int k), .val (.ref w_MORE), .val (.int (4 : Int32)), .val (.int (1 : Int32)), .unset] [(.int (0 : Int32))]))
              refine Go.via (fun _ => XS.ifYes X29.here hx rfl (pc0 := 100) (pc' := 107) rfl (hb hby at_100) rfl (by decide) (by decide) (by decide)) ?_
              show Go p e below _ (T29.setTop (mkF m 107 #[.val (.int p1), .val (.int p2), .val (.int k), .val (.ref w_MORE), .val (.int (4 : Int32)), .val (.int (1 : Int32)), .unset] []))
              refine Go.via (fun _ => XS.iconst X29.here hx rfl (hb hby at_107)) ?_
              show Go p e below _ (T29.setTop (mkF m 108 #[.val (.int p1), .val (.int p2), .val (.int k), .val (.ref w_MORE), .val (.int (4 : Int32)), .val (.int (1 : Int32)), .unset] [(.int (0 : Int32))]))
              refine Go.via (fun _ => XS.istore X29.here hx rfl (hb hby at_108) rfl (l' := #[.val (.int p1), .val (.int p2), .val (.int k), .val (.ref w_MORE), .val (.int (4 : Int32)), .val (.int (1 : Int32)), .val (.int (0 : Int32))]) rfl) ?_
              show Go p e below _ (T29.setTop (mkF m 110 #[.val (.int p1), .val (.int p2), .val (.int k), .val (.ref w_MORE), .val (.int (4 : Int32)), .val (.int (1 : Int32)), .val (.int (0 : Int32))] []))
              refine Go.via (fun _ => XS.aloadN X29.here hx rfl (hb hby at_110) rfl rfl) ?_
              show Go p e below _ (T29.setTop (mkF m 111 #[.val (.int p1), .val (.int p2), .val (.int k), .val (.ref w_MORE), .val (.int (4 : Int32)), .val (.int (1 : Int32)), .val (.int (0 : Int32))] [(.ref w_MORE)]))
              refine Go.via (fun _ => XS.iloadN X29.here hx rfl (hb hby at_111) rfl) ?_
              show Go p e below _ (T29.setTop (mkF m 112 #[.val (.int p1), .val (.int p2), .val (.int k), .val (.ref w_MORE), .val (.int (4 : Int32)), .val (.int (1 : Int32)), .val (.int (0 : Int32))] [(.int p2), (.ref w_MORE)]))
              obtain ⟨cq33, kq33, q33a, q33b, q33c⟩ := isOf hZ e29 (E_MORE.ext O0.2)
              obtain ⟨_, _, ⟨T33, L33, k33, n33⟩, -, X33, ⟨Lc33, hQ33, l33, y33, z33⟩, st33⟩ := X29.virtualBack hx (y := (⟨"com/example/permits_from_duties/permitsfromduties/PolicyDocument$Operator", "test", "(I)Z"⟩ : MethodName)) (z := (⟨"com/example/permits_from_duties/permitsfromduties/PolicyDocument$Operator", "test", "(I)Z"⟩ : MethodName)) hown (mvT hZ (hw _ (List.mem_of_getElem? (i := 4) rfl))) (mvT hZ (hw _ (List.mem_of_getElem? (i := 5) rfl))) (notFace_of_selects (args := #[]) (mvT hZ (hw _ (List.mem_of_getElem? (i := 7) rfl)))) (mvT hZ (hw _ (List.mem_of_getElem? (i := 7) rfl))) (mvT hZ (hw _ (List.mem_of_getElem? (i := 6) rfl))) (by decide) (backOf (W := 0) (rm1_41 l Z a0 hw [] w_MORE p2 h0 n0 Z0 (E_MORE.ext O0.2) (F_MORE.ext O0.2) (own_sg1 hc32).1 hc32 (own_sg1 hc32).2) hZ (hw _ (List.mem_of_getElem? (i := 8) rfl)) (hw _ (List.mem_of_getElem? (i := 2) rfl)) (by decide) (by decide)) q33a q33c (g := (mkF m 112 #[.val (.int p1), .val (.int p2), .val (.int k), .val (.ref w_MORE), .val (.int (4 : Int32)), .val (.int (1 : Int32)), .val (.int (0 : Int32))] [(.int p2), (.ref w_MORE)])) rfl (by rw [hml]; rfl) (Steps.refl _) (argsL := [(.int p2)]) (rest := []) (lenOf pd_1 rfl) rfl (by show 2 * 0 + _ ≤ _; exact Nat.le_of_eq rfl) (hb hby at_112) (fun _ _ => ⟨rfl, e29, (by decide : 0 + 0 ≤ _), (by decide : 0 + 0 ≤ _)⟩)
              dsimp only [Pt.U, Pt.locs, Pt.cells, Pt.slots] at X33 l33 y33 z33 st33 hQ33
              subst l33 y33 z33
              obtain ⟨rfl, N33q, e33q⟩ := hQ33
              have N33 := Fr.app N0 N33q
              refine Go.tr st33 ?_
              show Go p e below _ (T33.setTop (mkF m 115 #[.val (.int p1), .val (.int p2), .val (.int k), .val (.ref w_MORE), .val (.int (4 : Int32)), .val (.int (1 : Int32)), .val (.int (0 : Int32))] [(.int (0 : Int32))]))
              refine Go.via (fun _ => XS.iload X33.here hx rfl (hb hby at_115) rfl) ?_
              show Go p e below _ (T33.setTop (mkF m 117 #[.val (.int p1), .val (.int p2), .val (.int k), .val (.ref w_MORE), .val (.int (4 : Int32)), .val (.int (1 : Int32)), .val (.int (0 : Int32))] [(.int (0 : Int32)), (.int (0 : Int32))]))
              refine Go.via (fun _ => XS.icmpNo X33.here hx rfl (hb hby at_117) rfl (by decide)) ?_
              show Go p e below _ (T33.setTop (mkF m 120 #[.val (.int p1), .val (.int p2), .val (.int k), .val (.ref w_MORE), .val (.int (4 : Int32)), .val (.int (1 : Int32)), .val (.int (0 : Int32))] []))
              refine Go.via (fun _ => XS.iconst X33.here hx rfl (hb hby at_120)) ?_
              show Go p e below _ (T33.setTop (mkF m 121 #[.val (.int p1), .val (.int p2), .val (.int k), .val (.ref w_MORE), .val (.int (4 : Int32)), .val (.int (1 : Int32)), .val (.int (0 : Int32))] [(.int (1 : Int32))]))
              refine Go.via (fun _ => XS.goto X33.here hx rfl (pc0 := 121) (pc' := 125) rfl (hb hby at_121) (by decide) (by decide)) ?_
              show Go p e below _ (T33.setTop (mkF m 125 #[.val (.int p1), .val (.int p2), .val (.int k), .val (.ref w_MORE), .val (.int (4 : Int32)), .val (.int (1 : Int32)), .val (.int (0 : Int32))] [(.int (1 : Int32))]))
              exact own_retN X33 hx hlk (t := .boolean) Bd.returns (by simp) (hb hby at_125) (by show Q0 Z p1 p2 w_LESS w_AT_MOST w_EQUAL w_AT_LEAST w_MORE h0 n0 _ T33.heap _; rw [e33q]; exact ⟨rfl, N33⟩) (by decide) (by decide)
            · -- no
              show Go p e below _ (T29.setTop (mkF m 83 #[.val (.int p1), .val (.int p2), .val (.int k), .val (.ref w_MORE), .val (.int (4 : Int32)), .unset, .unset] [(.int p2)]))
              show Go p e below _ (T29.setTop (mkF m 83 #[.val (.int p1), .val (.int p2), .val (.int k), .val (.ref w_MORE), .val (.int (4 : Int32)), .unset, .unset] [(.int p2)]))
              refine Go.via (fun _ => XS.ifYes X29.here hx rfl (pc0 := 83) (pc' := 90) rfl (hb hby at_83) rfl ((if0 _ _).trans (feq hc32).2) (by decide) (by decide)) ?_
              show Go p e below _ (T29.setTop (mkF m 90 #[.val (.int p1), .val (.int p2), .val (.int k), .val (.ref w_MORE), .val (.int (4 : Int32)), .unset, .unset] []))
              refine Go.via (fun _ => XS.iconst X29.here hx rfl (hb hby at_90)) ?_
              show Go p e below _ (T29.setTop (mkF m 91 #[.val (.int p1), .val (.int p2), .val (.int k), .val (.ref w_MORE), .val (.int (4 : Int32)), .unset, .unset] [(.int (2 : Int32))]))
              refine Go.via (fun _ => XS.istore X29.here hx rfl (hb hby at_91) rfl (l' := #[.val (.int p1), .val (.int p2), .val (.int k), .val (.ref w_MORE), .val (.int (4 : Int32)), .val (.int (2 : Int32)), .unset]) rfl) ?_
              show Go p e below _ (T29.setTop (mkF m 93 #[.val (.int p1), .val (.int p2), .val (.int k), .val (.ref w_MORE), .val (.int (4 : Int32)), .val (.int (2 : Int32)), .unset] []))
              refine Go.via (fun _ => XS.iload X29.here hx rfl (hb hby at_93) rfl) ?_
              show Go p e below _ (T29.setTop (mkF m 95 #[.val (.int p1), .val (.int p2), .val (.int k), .val (.ref w_MORE), .val (.int (4 : Int32)), .val (.int (2 : Int32)), .unset] [(.int (4 : Int32))]))
              refine Go.via (fun _ => XS.iload X29.here hx rfl (hb hby at_95) rfl) ?_
              show Go p e below _ (T29.setTop (mkF m 97 #[.val (.int p1), .val (.int p2), .val (.int k), .val (.ref w_MORE), .val (.int (4 : Int32)), .val (.int (2 : Int32)), .unset] [(.int (2 : Int32)), (.int (4 : Int32))]))
              refine Go.via (fun _ => XS.ishr X29.here hx rfl (hb hby at_97) rfl) ?_
              show Go p e below _ (T29.setTop (mkF m 98 #[.val (.int p1), .val (.int p2), .val (.int k), .val (.ref w_MORE), .val (.int (4 : Int32)), .val (.int (2 : Int32)), .unset] [(.int (1 : Int32))]))
              refine Go.via (fun _ => XS.iconst X29.here hx rfl (hb hby at_98)) ?_
              show Go p e below _ (T29.setTop (mkF m 99 #[.val (.int p1), .val (.int p2), .val (.int k), .val (.ref w_MORE), .val (.int (4 : Int32)), .val (.int (2 : Int32)), .unset] [(.int (1 : Int32)), (.int (1 : Int32))]))
              refine Go.via (fun _ => XS.iand X29.here hx rfl (hb hby at_99) rfl) ?_
              show Go p e below _ (T29.setTop (mkF m 100 #[.val (.int p1), .val (.int p2), .val (.int k), .val (.ref w_MORE), .val (.int (4 : Int32)), .val (.int (2 : Int32)), .unset] [(.int (1 : Int32))]))
              refine Go.via (fun _ => XS.ifNo X29.here hx rfl (hb hby at_100) rfl (by decide)) ?_
              show Go p e below _ (T29.setTop (mkF m 103 #[.val (.int p1), .val (.int p2), .val (.int k), .val (.ref w_MORE), .val (.int (4 : Int32)), .val (.int (2 : Int32)), .unset] []))
              refine Go.via (fun _ => XS.iconst X29.here hx rfl (hb hby at_103)) ?_
              show Go p e below _ (T29.setTop (mkF m 104 #[.val (.int p1), .val (.int p2), .val (.int k), .val (.ref w_MORE), .val (.int (4 : Int32)), .val (.int (2 : Int32)), .unset] [(.int (1 : Int32))]))
              refine Go.via (fun _ => XS.goto X29.here hx rfl (pc0 := 104) (pc' := 108) rfl (hb hby at_104) (by decide) (by decide)) ?_
              show Go p e below _ (T29.setTop (mkF m 108 #[.val (.int p1), .val (.int p2), .val (.int k), .val (.ref w_MORE), .val (.int (4 : Int32)), .val (.int (2 : Int32)), .unset] [(.int (1 : Int32))]))
              refine Go.via (fun _ => XS.istore X29.here hx rfl (hb hby at_108) rfl (l' := #[.val (.int p1), .val (.int p2), .val (.int k), .val (.ref w_MORE), .val (.int (4 : Int32)), .val (.int (2 : Int32)), .val (.int (1 : Int32))]) rfl) ?_
              show Go p e below _ (T29.setTop (mkF m 110 #[.val (.int p1), .val (.int p2), .val (.int k), .val (.ref w_MORE), .val (.int (4 : Int32)), .val (.int (2 : Int32)), .val (.int (1 : Int32))] []))
              refine Go.via (fun _ => XS.aloadN X29.here hx rfl (hb hby at_110) rfl rfl) ?_
              show Go p e below _ (T29.setTop (mkF m 111 #[.val (.int p1), .val (.int p2), .val (.int k), .val (.ref w_MORE), .val (.int (4 : Int32)), .val (.int (2 : Int32)), .val (.int (1 : Int32))] [(.ref w_MORE)]))
              refine Go.via (fun _ => XS.iloadN X29.here hx rfl (hb hby at_111) rfl) ?_
              show Go p e below _ (T29.setTop (mkF m 112 #[.val (.int p1), .val (.int p2), .val (.int k), .val (.ref w_MORE), .val (.int (4 : Int32)), .val (.int (2 : Int32)), .val (.int (1 : Int32))] [(.int p2), (.ref w_MORE)]))
              obtain ⟨cq34, kq34, q34a, q34b, q34c⟩ := isOf hZ e29 (E_MORE.ext O0.2)
              obtain ⟨_, _, ⟨T34, L34, k34, n34⟩, -, X34, ⟨Lc34, hQ34, l34, y34, z34⟩, st34⟩ := X29.virtualBack hx (y := (⟨"com/example/permits_from_duties/permitsfromduties/PolicyDocument$Operator", "test", "(I)Z"⟩ : MethodName)) (z := (⟨"com/example/permits_from_duties/permitsfromduties/PolicyDocument$Operator", "test", "(I)Z"⟩ : MethodName)) hown (mvT hZ (hw _ (List.mem_of_getElem? (i := 4) rfl))) (mvT hZ (hw _ (List.mem_of_getElem? (i := 5) rfl))) (notFace_of_selects (args := #[]) (mvT hZ (hw _ (List.mem_of_getElem? (i := 7) rfl)))) (mvT hZ (hw _ (List.mem_of_getElem? (i := 7) rfl))) (mvT hZ (hw _ (List.mem_of_getElem? (i := 6) rfl))) (by decide) (backOf (W := 0) (rm1_42 l Z a0 hw [] w_MORE p2 h0 n0 Z0 (E_MORE.ext O0.2) (F_MORE.ext O0.2) hc30 hc32 (own_sg2 hc30 hc32)) hZ (hw _ (List.mem_of_getElem? (i := 8) rfl)) (hw _ (List.mem_of_getElem? (i := 2) rfl)) (by decide) (by decide)) q34a q34c (g := (mkF m 112 #[.val (.int p1), .val (.int p2), .val (.int k), .val (.ref w_MORE), .val (.int (4 : Int32)), .val (.int (2 : Int32)), .val (.int (1 : Int32))] [(.int p2), (.ref w_MORE)])) rfl (by rw [hml]; rfl) (Steps.refl _) (argsL := [(.int p2)]) (rest := []) (lenOf pd_1 rfl) rfl (by show 2 * 0 + _ ≤ _; exact Nat.le_of_eq rfl) (hb hby at_112) (fun _ _ => ⟨rfl, e29, (by decide : 0 + 0 ≤ _), (by decide : 0 + 0 ≤ _)⟩)
              dsimp only [Pt.U, Pt.locs, Pt.cells, Pt.slots] at X34 l34 y34 z34 st34 hQ34
              subst l34 y34 z34
              obtain ⟨rfl, N34q, e34q⟩ := hQ34
              have N34 := Fr.app N0 N34q
              refine Go.tr st34 ?_
              show Go p e below _ (T34.setTop (mkF m 115 #[.val (.int p1), .val (.int p2), .val (.int k), .val (.ref w_MORE), .val (.int (4 : Int32)), .val (.int (2 : Int32)), .val (.int (1 : Int32))] [(.int (1 : Int32))]))
              refine Go.via (fun _ => XS.iload X34.here hx rfl (hb hby at_115) rfl) ?_
              show Go p e below _ (T34.setTop (mkF m 117 #[.val (.int p1), .val (.int p2), .val (.int k), .val (.ref w_MORE), .val (.int (4 : Int32)), .val (.int (2 : Int32)), .val (.int (1 : Int32))] [(.int (1 : Int32)), (.int (1 : Int32))]))
              refine Go.via (fun _ => XS.icmpNo X34.here hx rfl (hb hby at_117) rfl (by decide)) ?_
              show Go p e below _ (T34.setTop (mkF m 120 #[.val (.int p1), .val (.int p2), .val (.int k), .val (.ref w_MORE), .val (.int (4 : Int32)), .val (.int (2 : Int32)), .val (.int (1 : Int32))] []))
              refine Go.via (fun _ => XS.iconst X34.here hx rfl (hb hby at_120)) ?_
              show Go p e below _ (T34.setTop (mkF m 121 #[.val (.int p1), .val (.int p2), .val (.int k), .val (.ref w_MORE), .val (.int (4 : Int32)), .val (.int (2 : Int32)), .val (.int (1 : Int32))] [(.int (1 : Int32))]))
              refine Go.via (fun _ => XS.goto X34.here hx rfl (pc0 := 121) (pc' := 125) rfl (hb hby at_121) (by decide) (by decide)) ?_
              show Go p e below _ (T34.setTop (mkF m 125 #[.val (.int p1), .val (.int p2), .val (.int k), .val (.ref w_MORE), .val (.int (4 : Int32)), .val (.int (2 : Int32)), .val (.int (1 : Int32))] [(.int (1 : Int32))]))
              exact own_retN X34 hx hlk (t := .boolean) Bd.returns (by simp) (hb hby at_125) (by show Q0 Z p1 p2 w_LESS w_AT_MOST w_EQUAL w_AT_LEAST w_MORE h0 n0 _ T34.heap _; rw [e34q]; exact ⟨rfl, N34⟩) (by decide) (by decide)
theorem own_eq_int {t : Term} {n : Int32} {args : Array Value} {s : State} (h : (Cond.eq t (.int n)).value args s none s [] = some true) : t.eval args s none [] s = some (.int n) := by
  simp only [Cond.value, Term.eval] at h
  split at h <;> simp_all
set_option maxRecDepth 65536 in
set_option maxHeartbeats 40000000 in
theorem comes_1 {Post : Tables → Env → Array Value → State → Outcome → State → Prop} (hpost : ∀ tb e args s v u, (limb_1_1.after args s (.returned v) u = true ∧ limb_1_2.after args s (.returned v) u = true ∧ True) → FrameEnd s (.returned v) u (Jvm.fieldLocs frame_1_writes args s ++ Jvm.arrayLocs frame_1_arrays args s ++ Jvm.staticLocs frame_1_statics s) 0 0 → Post tb e args s (.returned v) u) :
    ArmFor flags0 classFile x code maxLocals ret World_1 tables_1 room_1 Calls_1 rest_1 Pre_1 Post := by
  intro l hfl _ _ p e ha hc hk s m args below hf hA hF happ hP
  obtain ⟨hcalls, hrest, hpre⟩ := hP
  obtain ⟨-, -, -, hnamed, -, -, -, hat⟩ := (Spec.applies_iff hf).mp happ
  obtain ⟨hg, hn⟩ := and_e (Cond.before_iff.mp (show (Jvm.Cond.and given_1 narrow_1).before args s = true from hpre))
  obtain ⟨g1, g2⟩ := and_e hg
  obtain ⟨g3, g4⟩ := and_e g2
  obtain ⟨g5, g6⟩ := and_e hn
  obtain ⟨g7, g8⟩ := and_e g6
  obtain ⟨g9, g10⟩ := and_e g8
  obtain ⟨g11, g12⟩ := and_e g10
  obtain ⟨g13, g14⟩ := and_e g12
  obtain ⟨g15, g16⟩ := and_e g14
  obtain ⟨g17, g18⟩ := and_e g16
  obtain ⟨g19, g20⟩ := and_e g18
  obtain ⟨g21, g22⟩ := and_e g20
  obtain ⟨w0, w1, rfl⟩ : ∃ w0 w1 : Value, args = #[w0, w1] := by
    have hs : args.size = 2 := by simpa [Cond.value, given_1] using g1
    obtain ⟨L⟩ := args
    match L, hs with
    | [w0, w1], _ => exact ⟨w0, w1, rfl⟩
  have hw := fun d (hd : d ∈ tables_1) => atoms_spec (ws := Jvm.Cond.code x code maxLocals ret :: tables_1) hat d (List.mem_cons_of_mem _ hd)
  have hfit : Fit s := fun {y c} hc i hi => by
    obtain ⟨ha, rfl⟩ := Array.getElem?_eq_some_iff.mp hc
    have q := List.all_eq_true.mp ((Array.all_eq_true_iff_forall_mem.mp hF) _ (Array.getElem_mem ha)) i (List.mem_range.mpr hi)
    simpa [Array.getElem?_eq_getElem hi] using q
  obtain ⟨i0, ei0⟩ := is_v g3
  obtain rfl : w0 = (.int i0) := Option.some.inj ei0
  obtain ⟨i1, ei1⟩ := is_v g4
  obtain rfl : w1 = (.int i1) := Option.some.inj ei1
  obtain ⟨w_LESS, ev_LESS⟩ := exa_v g5
  have E_LESS := Exa.start ev_LESS g5
  have S_LESS := Sta.start ev_LESS (Or.inr ⟨(hw _ (List.mem_of_getElem? (i := 2) rfl)), (hw _ (List.mem_of_getElem? (i := 3) rfl))⟩)
  obtain ⟨w_MORE, ev_MORE⟩ := exa_v g9
  have E_MORE := Exa.start ev_MORE g9
  have S_MORE := Sta.start ev_MORE (Or.inr ⟨(hw _ (List.mem_of_getElem? (i := 2) rfl)), (hw _ (List.mem_of_getElem? (i := 19) rfl))⟩)
  obtain ⟨w_AT_LEAST, ev_AT_LEAST⟩ := exa_v g13
  have E_AT_LEAST := Exa.start ev_AT_LEAST g13
  have S_AT_LEAST := Sta.start ev_AT_LEAST (Or.inr ⟨(hw _ (List.mem_of_getElem? (i := 2) rfl)), (hw _ (List.mem_of_getElem? (i := 21) rfl))⟩)
  obtain ⟨w_AT_MOST, ev_AT_MOST⟩ := exa_v g17
  have E_AT_MOST := Exa.start ev_AT_MOST g17
  have S_AT_MOST := Sta.start ev_AT_MOST (Or.inr ⟨(hw _ (List.mem_of_getElem? (i := 2) rfl)), (hw _ (List.mem_of_getElem? (i := 23) rfl))⟩)
  obtain ⟨w_EQUAL, ev_EQUAL⟩ := exa_v g21
  have E_EQUAL := Exa.start ev_EQUAL g21
  have S_EQUAL := Sta.start ev_EQUAL (Or.inr ⟨(hw _ (List.mem_of_getElem? (i := 2) rfl)), (hw _ (List.mem_of_getElem? (i := 25) rfl))⟩)
  have F_LESS : Fld s s.heap w_LESS "java/lang/Enum" "ordinal" "I" (.int (0 : Int32)) := Fld.start ((fld_at ev_LESS).symm.trans (own_eq_int g7))
  have F_MORE : Fld s s.heap w_MORE "java/lang/Enum" "ordinal" "I" (.int (4 : Int32)) := Fld.start ((fld_at ev_MORE).symm.trans (own_eq_int g11))
  have F_AT_LEAST : Fld s s.heap w_AT_LEAST "java/lang/Enum" "ordinal" "I" (.int (3 : Int32)) := Fld.start ((fld_at ev_AT_LEAST).symm.trans (own_eq_int g15))
  have F_AT_MOST : Fld s s.heap w_AT_MOST "java/lang/Enum" "ordinal" "I" (.int (1 : Int32)) := Fld.start ((fld_at ev_AT_MOST).symm.trans (own_eq_int g19))
  have F_EQUAL : Fld s s.heap w_EQUAL "java/lang/Enum" "ordinal" "I" (.int (2 : Int32)) := Fld.start ((fld_at ev_EQUAL).symm.trans (own_eq_int g22))
  obtain ⟨n, o, h1, h2, h3, _, L, rfl, ⟨rfl, N⟩, hq⟩ := rm0 l s _ hw tables_1 i0 i1 w_LESS w_AT_MOST w_EQUAL w_AT_LEAST w_MORE s.heap s.heap.size (Nat.le_refl _) (Old.start s) S_LESS S_AT_MOST S_EQUAL S_AT_LEAST S_MORE E_LESS E_AT_MOST E_EQUAL E_AT_LEAST E_MORE F_LESS F_AT_MOST F_EQUAL F_AT_LEAST F_MORE p e ha hc hk s m _ below hf ((Spec.applies_iff_loose hf).mp happ).1 ⟨rfl, State.Warmed39.refl s, rfl⟩ trivial
  refine ⟨n, _, h1, h2, h3, hpost _ _ _ _ _ _ ⟨Cond.after_iff.mpr rfl, Cond.after_iff.mpr (eq_i res_at (Term.int_eval (1)) rfl), trivial⟩ ⟨hq.1, hq.2.1, (hq.2.2.sift fun y hy => Or.inr (N y hy)).mono (by decide) (by decide)⟩⟩
theorem main_1_1 : Claimed_1_1 := comes_1 fun _ _ _ _ _ _ h hF => ⟨h.1, hF⟩
theorem main_1_2 : Claimed_1_2 := comes_1 fun _ _ _ _ _ _ h hF => ⟨h.2.1, hF⟩
end Jvm.Pilot.@@N@@
namespace Jvm.Pilot.@@N@@
open Jvm Jvm.ClassFile Sem Op Lib Jvm.Free Jvm.Stand Jvm.Pilot.@@N@@.Jvm.D
/-! MADE BY PROGRAM (witnessworld.py) out of the Statement's table words and the real class files: 12 classes; the members and pool entries that the words name. The judged class is class 1, her method 1. -/
namespace start1
open Jvm.ClassFile
def u (s : String) : CpInfo := .utf8 (stringToUtf16 s)
/-- a pool by its gaps: so many unusable entries, then the entry; so many at the end -/
def gap : Nat → List CpInfo → List CpInfo
  | 0, r => r
  | n + 1, r => .unusable :: gap n r
def poolList (es : List (Nat × CpInfo)) (last : Nat) : List CpInfo := es.foldr (fun e r => gap e.1 (e.2 :: r)) (gap last [])
def pool (es : List (Nat × CpInfo)) (last : Nat) : Array CpInfo := ⟨poolList es last⟩
def fileOf (pool : Array CpInfo) (this : Nat) (attrs : Array Attribute := #[]) (ms : Array MethodInfo := #[]) (fl : Nat := 33) (sup : Nat := 0) (ifs : Array Nat := #[]) (fds : Array FieldInfo := #[]) : ClassFile where
  minorVersion := 0
  majorVersion := 65
  constantPool := pool
  accessFlags := fl
  thisClass := this
  superClass := sup
  interfaces := ifs
  fields := fds
  methods := ms
  attributes := attrs
def plain (name : String) (sup : Option ClassId) : Class where
  name := name
  kind := .ordinary
  loader := none
  accessFlags := 33
  super := sup
  interfaces := #[]
  cf := none
  fields := #[]
  methods := #[]
  instanceTypes := #[]
  staticTypes := #[]
  resolved := #[]
  callSites := []
  init := .initialized
  statics := none
  mirror := none

def pool0 : Array CpInfo := pool [(5, u "<init>"), (0, u "()V"), (1, .class_ 10), (1, u "java/lang/Object")] 113

def k0m0 : Method := { name := "<init>", desc := "()V", sig := { parameters := [], returnType := none }, accessFlags := 1, code := none }
/-- java/lang/Object -/
def k0 : Class := { plain "java/lang/Object" none with
  accessFlags := 33
  interfaces := #[]
  cf := some (fileOf pool0 8 #[] #[{ accessFlags := 1, nameIndex := 5, descriptorIndex := 6, attributes := #[] }] 33 0 #[] #[])
  fields := #[]
  methods := #[k0m0]
  instanceTypes := #[]
  staticTypes := #[]
  resolved := Array.replicate 124 none
  statics := none }

def pool1 : Array CpInfo := pool [(2, .class_ 4), (1, u "java/lang/Object"), (0, u "<init>"), (0, u "()V"), (0, .integer 2147483647), (0, .fieldref 9 10), (0, .class_ 11), (0, .nameAndType 12 13), (0, u "com/example/permits_from_duties/permitsfromduties/PolicyDocument$Operator"), (0, u "LESS"), (0, u "Lcom/example/permits_from_duties/permitsfromduties/PolicyDocument$Operator;"), (0, .fieldref 9 15), (0, .nameAndType 16 13), (0, u "AT_MOST"), (0, .fieldref 9 18), (0, .nameAndType 19 13), (0, u "EQUAL"), (0, .fieldref 9 21), (0, .nameAndType 22 13), (0, u "AT_LEAST"), (0, .fieldref 9 24), (0, .nameAndType 25 13), (0, u "MORE"), (0, .methodref 9 27), (0, .nameAndType 28 29), (0, u "test"), (0, u "(I)Z"), (0, .class_ 31), (0, u "com/example/permits_from_duties/permitsfromduties/OperatorTestPinLaw"), (2, u "law"), (0, u "(II)Z")] 7

def k1m0 : Method := { name := "<init>", desc := "()V", sig := { parameters := [], returnType := none }, accessFlags := 1, code := none }
def k1c1 : Code := { maxStack := 2, maxLocals := 7, code := code, exceptionTable := #[], attributes := #[] }
def k1m1 : Method := { name := "law", desc := "(II)Z", sig := { parameters := [.int, .int], returnType := some .boolean }, accessFlags := 9, code := some k1c1 }
/-- com/example/permits_from_duties/permitsfromduties/OperatorTestPinLaw -/
def k1 : Class := { plain "com/example/permits_from_duties/permitsfromduties/OperatorTestPinLaw" (some 0) with
  accessFlags := 49
  interfaces := #[]
  cf := some (fileOf pool1 30 #[] #[{ accessFlags := 1, nameIndex := 5, descriptorIndex := 6, attributes := #[] }, { accessFlags := 9, nameIndex := 34, descriptorIndex := 35, attributes := #[] }] 49 2 #[] #[])
  fields := #[]
  methods := #[k1m0, k1m1]
  instanceTypes := #[]
  staticTypes := #[]
  resolved := Array.replicate 43 none
  statics := none }

def pool2 : Array CpInfo := pool [(1, .class_ 2), (0, u "java/lang/constant/Constable"), (0, .class_ 4), (0, u "java/lang/Object")] 6

/-- java/lang/constant/Constable -/
def k2 : Class := { plain "java/lang/constant/Constable" (some 0) with
  accessFlags := 1537
  interfaces := #[]
  cf := some (fileOf pool2 1 #[] #[] 1537 3 #[] #[])
  fields := #[]
  methods := #[]
  instanceTypes := #[]
  staticTypes := #[]
  resolved := Array.replicate 11 none
  statics := none }

def pool3 : Array CpInfo := pool [(1, .class_ 2), (0, u "java/lang/Comparable"), (0, .class_ 4), (0, u "java/lang/Object")] 7

/-- java/lang/Comparable -/
def k3 : Class := { plain "java/lang/Comparable" (some 0) with
  accessFlags := 1537
  interfaces := #[]
  cf := some (fileOf pool3 1 #[] #[] 1537 3 #[] #[])
  fields := #[]
  methods := #[]
  instanceTypes := #[]
  staticTypes := #[]
  resolved := Array.replicate 12 none
  statics := none }

def pool4 : Array CpInfo := pool [(1, .class_ 2), (0, u "java/io/Serializable"), (0, .class_ 4), (0, u "java/lang/Object")] 2

/-- java/io/Serializable -/
def k4 : Class := { plain "java/io/Serializable" (some 0) with
  accessFlags := 1537
  interfaces := #[]
  cf := some (fileOf pool4 1 #[] #[] 1537 3 #[] #[])
  fields := #[]
  methods := #[]
  instanceTypes := #[]
  staticTypes := #[]
  resolved := Array.replicate 7 none
  statics := none }

def pool5 : Array CpInfo := pool [(2, .class_ 4), (1, u "java/lang/Enum"), (0, u "name"), (0, u "Ljava/lang/String;"), (0, .fieldref 2 8), (0, .nameAndType 9 10), (0, u "ordinal"), (0, u "I"), (1, .class_ 14), (1, u "java/lang/Object"), (4, u "hash"), (86, .class_ 108), (1, u "java/lang/Enum$EnumDesc"), (2, .class_ 112), (0, u "java/lang/constant/Constable"), (0, .class_ 114), (0, u "java/lang/Comparable"), (0, .class_ 116), (0, u "java/io/Serializable"), (9, u "()I")] 77

def k5c0 : Code := { maxStack := 1, maxLocals := 1, code := jdk_37_method_2_code, exceptionTable := #[], attributes := #[] }
def k5m0 : Method := { name := "ordinal", desc := "()I", sig := { parameters := [], returnType := some .int }, accessFlags := 17, code := some k5c0 }
/-- java/lang/Enum -/
def k5 : Class := { plain "java/lang/Enum" (some 0) with
  accessFlags := 1057
  interfaces := #[2, 3, 4]
  cf := some (fileOf pool5 2 #[.nestMembers #[106]] #[{ accessFlags := 17, nameIndex := 9, descriptorIndex := 126, attributes := #[] }] 1057 12 #[111, 113, 115] #[{ accessFlags := 18, nameIndex := 5, descriptorIndex := 6, attributes := #[] }, { accessFlags := 18, nameIndex := 9, descriptorIndex := 10, attributes := #[] }, { accessFlags := 2, nameIndex := 19, descriptorIndex := 10, attributes := #[] }])
  fields := #[{ name := "name", type := (.object "java/lang/String"), accessFlags := 18, slot := 0, constantValue := 0 }, { name := "ordinal", type := .int, accessFlags := 18, slot := 1, constantValue := 0 }, { name := "hash", type := .int, accessFlags := 2, slot := 2, constantValue := 0 }]
  methods := #[k5m0]
  instanceTypes := #[(.object "java/lang/String"), .int, .int]
  staticTypes := #[]
  resolved := Array.replicate 204 none
  statics := none }

def pool6 : Array CpInfo := pool [(1, .class_ 2), (0, u "com/example/permits_from_duties/permitsfromduties/PolicyDocument$Operator"), (2, u "LESS"), (0, u "Lcom/example/permits_from_duties/permitsfromduties/PolicyDocument$Operator;"), (2, u "AT_MOST"), (2, u "EQUAL"), (2, u "AT_LEAST"), (2, u "MORE"), (2, u "$VALUES"), (0, u "[Lcom/example/permits_from_duties/permitsfromduties/PolicyDocument$Operator;"), (6, .class_ 31), (1, u "java/lang/Enum"), (8, u "written"), (0, u "Ljava/lang/String;"), (0, .methodref 1 43), (0, .nameAndType 44 45), (0, u "ordinal"), (0, u "()I"), (34, u "test"), (0, u "(I)Z"), (9, .class_ 92), (0, u "com/example/permits_from_duties/permitsfromduties/PolicyDocument")] 2

def k6c0 : Code := { maxStack := 4, maxLocals := 2, code := prog_68_method_4_code, exceptionTable := #[], attributes := #[] }
def k6m0 : Method := { name := "test", desc := "(I)Z", sig := { parameters := [.int], returnType := some .boolean }, accessFlags := 0, code := some k6c0 }
/-- com/example/permits_from_duties/permitsfromduties/PolicyDocument$Operator -/
def k6 : Class := { plain "com/example/permits_from_duties/permitsfromduties/PolicyDocument$Operator" (some 5) with
  accessFlags := 16433
  interfaces := #[]
  cf := some (fileOf pool6 1 #[.nestHost 91] #[{ accessFlags := 0, nameIndex := 80, descriptorIndex := 81, attributes := #[] }] 16433 29 #[] #[{ accessFlags := 16409, nameIndex := 5, descriptorIndex := 6, attributes := #[] }, { accessFlags := 16409, nameIndex := 9, descriptorIndex := 6, attributes := #[] }, { accessFlags := 16409, nameIndex := 12, descriptorIndex := 6, attributes := #[] }, { accessFlags := 16409, nameIndex := 15, descriptorIndex := 6, attributes := #[] }, { accessFlags := 16409, nameIndex := 18, descriptorIndex := 6, attributes := #[] }, { accessFlags := 18, nameIndex := 40, descriptorIndex := 41, attributes := #[] }, { accessFlags := 4122, nameIndex := 21, descriptorIndex := 22, attributes := #[] }])
  fields := #[{ name := "LESS", type := (.object "com/example/permits_from_duties/permitsfromduties/PolicyDocument$Operator"), accessFlags := 16409, slot := 0, constantValue := 0 }, { name := "AT_MOST", type := (.object "com/example/permits_from_duties/permitsfromduties/PolicyDocument$Operator"), accessFlags := 16409, slot := 1, constantValue := 0 }, { name := "EQUAL", type := (.object "com/example/permits_from_duties/permitsfromduties/PolicyDocument$Operator"), accessFlags := 16409, slot := 2, constantValue := 0 }, { name := "AT_LEAST", type := (.object "com/example/permits_from_duties/permitsfromduties/PolicyDocument$Operator"), accessFlags := 16409, slot := 3, constantValue := 0 }, { name := "MORE", type := (.object "com/example/permits_from_duties/permitsfromduties/PolicyDocument$Operator"), accessFlags := 16409, slot := 4, constantValue := 0 }, { name := "written", type := (.object "java/lang/String"), accessFlags := 18, slot := 3, constantValue := 0 }, { name := "$VALUES", type := (.array (.object "com/example/permits_from_duties/permitsfromduties/PolicyDocument$Operator")), accessFlags := 4122, slot := 5, constantValue := 0 }]
  methods := #[k6m0]
  instanceTypes := #[(.object "java/lang/String"), .int, .int, (.object "java/lang/String")]
  staticTypes := #[(.object "com/example/permits_from_duties/permitsfromduties/PolicyDocument$Operator"), (.object "com/example/permits_from_duties/permitsfromduties/PolicyDocument$Operator"), (.object "com/example/permits_from_duties/permitsfromduties/PolicyDocument$Operator"), (.object "com/example/permits_from_duties/permitsfromduties/PolicyDocument$Operator"), (.object "com/example/permits_from_duties/permitsfromduties/PolicyDocument$Operator"), (.array (.object "com/example/permits_from_duties/permitsfromduties/PolicyDocument$Operator"))]
  resolved := Array.replicate 95 none
  statics := some 0 }

def pool7 : Array CpInfo := pool [(1, u "java/lang/Cloneable"), (0, .class_ 1), (0, u "java/lang/Object"), (0, .class_ 3)] 3

/-- java/lang/Cloneable -/
def k7 : Class := { plain "java/lang/Cloneable" (some 0) with
  accessFlags := 1537
  interfaces := #[]
  cf := some (fileOf pool7 2 #[] #[] 1537 4 #[] #[])
  fields := #[]
  methods := #[]
  instanceTypes := #[]
  staticTypes := #[]
  resolved := Array.replicate 8 none
  statics := none }

/-- the primitive byte -/
def k8 : Class := { plain "byte" none with kind := .primitive 'B', accessFlags := 0x411 }
/-- [B -/
def k9 : Class := { plain "[B" (some 0) with kind := .array 8 .byte, interfaces := #[7, 4], accessFlags := 1041 }

/-- the primitive int -/
def k10 : Class := { plain "int" none with kind := .primitive 'I', accessFlags := 0x411 }
/-- [I -/
def k11 : Class := { plain "[I" (some 0) with kind := .array 10 .int, interfaces := #[7, 4], accessFlags := 1041 }

def heap : Heap := #[{ cls := 6, slots := #[.ref 1, .ref 2, .ref 3, .ref 4, .ref 5, .null], vm := .statics 6 },
  { cls := 6, slots := #[.null, .int 0, .int 0, .null], vm := .none },
  { cls := 6, slots := #[.null, .int 1, .int 0, .null], vm := .none },
  { cls := 6, slots := #[.null, .int 2, .int 0, .null], vm := .none },
  { cls := 6, slots := #[.null, .int 3, .int 0, .null], vm := .none },
  { cls := 6, slots := #[.null, .int 4, .int 0, .null], vm := .none }]
def classes : Array Class := #[k0, k1, k2, k3, k4, k5, k6, k7, k8, k9, k10, k11]
def interned : List (Array UInt16 × Addr) := []
def slotsUsed : Nat := 26
def theMethod : MethodId := ⟨1, 1⟩
def args0 : Array Value := #[.int 5, .int 6]
def aboutOver (below : List Frame) : State where
  vm := { classes := classes, interned := interned.toArray }
  heap := heap
  slotsUsed := slotsUsed
  threads := #[{ frames := .invoking theMethod args0 :: below }]
def below0 : List Frame := [.native { method := ⟨0, 0⟩, args := #[] }]
def about1 : State := aboutOver below0
def p0 : Program := .bare "" "" ""
def e0 : Env := launch0.env 0 0 0
theorem w_frames : about1.frames = Frame.invoking theMethod args0 :: below0 := rfl
set_option maxRecDepth 65536 in
theorem w_args : argsFit about1.vm theMethod args0 = true := by decide +kernel
set_option maxRecDepth 65536 in
theorem w_heap : heapFits about1 = true := by decide +kernel
set_option maxRecDepth 65536 in
theorem w_runnable : about1.curStatus? = some .runnable := by decide +kernel
set_option maxRecDepth 65536 in
theorem w_alone : about1.alone = true := by decide +kernel
set_option maxRecDepth 65536 in
theorem w_named : about1.methodNamed? x = some theMethod := by decide +kernel
set_option maxRecDepth 65536 in
theorem w_hears : about1.hears theMethod below0 = true := by decide +kernel
set_option maxRecDepth 65536 in
theorem w_ripe : about1.ripe theMethod args0 below0 = true := by decide +kernel
theorem w_running : about1.status = .running := rfl
set_option maxRecDepth 65536 in
theorem w_room : about1.hasRoom e0.platform room_1 = true :=
  launch0.hasRoom_least _ room_1 (by decide +kernel) (by decide +kernel) (by decide +kernel) (by decide +kernel) (by decide +kernel) (by decide +kernel)
theorem allAtoms_all (ts : List Jvm.Cond) (a : Array Jvm.Value) (st : Jvm.State) : (allAtoms ts).before a st = ts.all (fun c => c.before a st) := by
  induction ts with
  | nil => rfl
  | cons c t ih =>
    show (Jvm.Cond.and c (allAtoms t)).before a st = _
    rw [Jvm.Cond.before_and, ih, List.all_cons]
def words1 : List Jvm.Cond := Jvm.Cond.code x code maxLocals ret :: tables_1
/-- a 'code' word, met by the world's own term for the bytes: nothing is compared byte by byte -/
theorem code_word {y : MethodName} {bytes : ByteArray} {mx : Nat} {rt : Option FieldType} {a : Array Value} {s : State} {m : MethodId} {meth : Method} {c : Code} (h1 : s.methodNamed? y = some m) (h2 : s.vm.method? m = some meth) (h3 : meth.code = some c) (h4 : c.code = bytes)
    (h5 : (c.maxLocals == mx && c.exceptionTable.isEmpty && decide (c.maxStack ≤ mostOperands) && decide (meth.sig.returnType = rt) && !meth.locks && decide (parseMethodDescriptor y.desc = some meth.sig)) = true) : (Jvm.Cond.code y bytes mx rt).before a s = true := by
  simp only [Bool.and_eq_true, beq_iff_eq, Bool.not_eq_true', decide_eq_true_eq] at h5
  obtain ⟨⟨⟨⟨⟨g1, g2⟩, g3⟩, g4⟩, g5⟩, g6⟩ := h5
  simp [Cond.before, Cond.holds, Cond.value, h1, h2, h3, h4, g1, g2, g3, g4, g5, g6]
def isCode : Jvm.Cond → Bool
  | .code _ _ _ _ => true
  | _ => false
theorem all_split {L : List Jvm.Cond} {P : Jvm.Cond → Bool} (h1 : L.all (fun c => isCode c || P c) = true) (h2 : ∀ c ∈ L.filter isCode, P c = true) : L.all P = true := by
  refine List.all_eq_true.mpr fun c hc => ?_
  have h := List.all_eq_true.mp h1 c hc
  rcases Bool.eq_false_or_eq_true (isCode c) with hi | hi
  · exact h2 c (List.mem_filter.mpr ⟨hc, hi⟩)
  · simpa [hi] using h
set_option maxRecDepth 65536 in
theorem w_c0 : (Jvm.Cond.code x code maxLocals ret).before args0 about1 = true := code_word (m := ⟨1, 1⟩) (meth := k1m1) (c := k1c1) (by decide +kernel) rfl rfl rfl (by decide +kernel)
set_option maxRecDepth 65536 in
theorem w_c1 : (Jvm.Cond.code ({ cls := "com/example/permits_from_duties/permitsfromduties/PolicyDocument$Operator", name := "test", desc := "(I)Z" } : Jvm.MethodName) prog_68_method_4_code (2 : Nat) (Option.some Jvm.ClassFile.FieldType.boolean)).before args0 about1 = true := code_word (m := ⟨6, 0⟩) (meth := k6m0) (c := k6c0) (by decide +kernel) rfl rfl rfl (by decide +kernel)
set_option maxRecDepth 65536 in
theorem w_c2 : (Jvm.Cond.code ({ cls := "java/lang/Enum", name := "ordinal", desc := "()I" } : Jvm.MethodName) jdk_37_method_2_code (1 : Nat) (Option.some Jvm.ClassFile.FieldType.int)).before args0 about1 = true := code_word (m := ⟨5, 0⟩) (meth := k5m0) (c := k5c0) (by decide +kernel) rfl rfl rfl (by decide +kernel)
def codes1 : List Jvm.Cond := [Jvm.Cond.code x code maxLocals ret, Jvm.Cond.code ({ cls := "com/example/permits_from_duties/permitsfromduties/PolicyDocument$Operator", name := "test", desc := "(I)Z" } : Jvm.MethodName) prog_68_method_4_code (2 : Nat) (Option.some Jvm.ClassFile.FieldType.boolean), Jvm.Cond.code ({ cls := "java/lang/Enum", name := "ordinal", desc := "()I" } : Jvm.MethodName) jdk_37_method_2_code (1 : Nat) (Option.some Jvm.ClassFile.FieldType.int)]
set_option maxRecDepth 65536 in
theorem codes_eq : words1.filter isCode = codes1 := rfl
theorem w_codes : ∀ c ∈ words1.filter isCode, c.before args0 about1 = true := by
  rw [codes_eq]
  intro c hc
  simp only [codes1, List.mem_cons, List.not_mem_nil, or_false] at hc
  rcases hc with rfl | rfl | rfl
  · exact w_c0
  · exact w_c1
  · exact w_c2
set_option maxRecDepth 65536 in
theorem w_t1 : (words1.take 24).all (fun c => isCode c || c.before args0 about1) = true := by decide +kernel
set_option maxRecDepth 65536 in
theorem w_t2 : (words1.drop 24).all (fun c => isCode c || c.before args0 about1) = true := by decide +kernel
theorem w_tables : (allAtoms (Jvm.Cond.code x code maxLocals ret :: tables_1)).before args0 about1 = true := by
  rw [allAtoms_all]
  show words1.all (fun c => c.before args0 about1) = true
  refine all_split ?_ w_codes
  rw [← List.take_append_drop 24 words1, List.all_append, w_t1, w_t2]
  rfl
set_option maxRecDepth 65536 in
theorem w_case : (Jvm.Cond.and given_1 narrow_1).before args0 about1 = true := by decide +kernel
theorem w_applies : (headSpec (Jvm.Cond.code x code maxLocals ret :: tables_1) room_1).applies x e0.platform about1 = true :=
  (Spec.applies_iff w_frames).mpr ⟨w_running, w_runnable, w_alone, w_named, w_hears, w_ripe, w_room, w_tables⟩
theorem atStart : AtStart classFile x code maxLocals ret World_1 tables_1 room_1 Calls_1 rest_1 Pre_1 launch0 p0 e0 about1 theMethod args0 below0 :=
  ⟨lists_1, trivial, launch0.admits_env _ _ _, launch0.least_env, fairChoices_fair.cas, fairChoices_fair.clock, w_frames, w_args, w_heap, w_applies, trivial, trivial, w_case⟩
end start1
theorem witness_1 : WitnessClaimed_1 := ⟨start1.p0, start1.e0, start1.about1, start1.theMethod, start1.args0, start1.below0, start1.atStart⟩
end Jvm.Pilot.@@N@@
