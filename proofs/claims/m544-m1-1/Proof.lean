import JvmDerived
import JvmDerived.Pilot.@@N@@Statement
import JvmDerived.Pilot.@@N@@Code
set_option linter.unusedVariables false
set_option linter.unusedSimpArgs false
namespace Jvm.Pilot.@@N@@
open Jvm Jvm.ClassFile Sem Op Lib Jvm.Free Jvm.Stand Jvm.LawKit Jvm.RoadKit Bundle Jvm.Pilot.@@N@@.Jvm.D
section Own
variable {p : Program} {l : Launch} {e : Env} {R : Room} {s : State} {m : MethodId} {args : Array Value} {below : List Frame} {meth : Method} {c : Code} {T : State} {locs : List Loc} {cells slots : Nat}
def Go (p : Program) (e : Env) (below : List Frame) (F : State → Outcome → Prop) (t : State) : Prop := ∃ s₂ o, Steps p.tables e below t s₂ ∧ F s₂ o
theorem Go.via {F : State → Outcome → Prop} {a b : State} (h : ∀ t, Steps p.tables e below b t → Steps p.tables e below a t) (g : Go p e below F b) : Go p e below F a := by
  obtain ⟨s₂, o, k, f⟩ := g
  exact ⟨s₂, o, h _ k, f⟩
theorem Go.tr {F : State → Outcome → Prop} {a b : State} (h : Steps p.tables e below a b) (g : Go p e below F b) : Go p e below F a := by
  obtain ⟨s₂, o, k, f⟩ := g
  exact ⟨s₂, o, h.trans k, f⟩
def FinE (s : State) (below : List Frame) (Q : Option Value → Heap → List Loc → Prop) (C S : Nat) (s₂ : State) (o : Outcome) : Prop := s₂.status = .running ∧ Ended s₂ below o ∧ ∃ v L, o = .returned v ∧ Q v s₂.heap L ∧ FrameEnd s o s₂ L C S
variable {Q : Option Value → Heap → List Loc → Prop} {C S : Nat}
theorem own_retN (X : Stand p l e R s m args below meth c T locs cells slots) (hx : p.tables.exec = Jvm.exec) (hlk : meth.locks = false) {pc : Nat} {Ls : Array Slot} {z : Int32} {t : FieldType} {rest : List Value} (hret : meth.sig.returnType = some t) (ht : t = .boolean ∨ t = .byte ∨ t = .char ∨ t = .short)
    (hd : decode c.code pc = .ok (.ireturn, 1)) (hQ : Q (some (.int (nar t z))) T.heap locs) (hc : cells ≤ C) (hs : slots ≤ S) : Go p e below (FinE s below Q C S) (T.setTop (mkF m pc Ls (.int z :: rest))) := by
  obtain ⟨fs, hr, hrun, hended, hW, hsame⟩ := X.leave (v := some (.int (nar t z))) (fun h => by rw [hret] at h; cases h) hlk
  exact ⟨_, _, retN X hx hret ht hd hr, hrun, hended, _, _, rfl, hQ, ⟨_, rfl⟩, hW, hsame.mono hc hs⟩
theorem own_retI (X : Stand p l e R s m args below meth c T locs cells slots) (hx : p.tables.exec = Jvm.exec) (hlk : meth.locks = false) {pc : Nat} {Ls : Array Slot} {z : Int32} {rest : List Value} (hret : meth.sig.returnType = some .int)
    (hd : decode c.code pc = .ok (.ireturn, 1)) (hQ : Q (some (.int z)) T.heap locs) (hc : cells ≤ C) (hs : slots ≤ S) : Go p e below (FinE s below Q C S) (T.setTop (mkF m pc Ls (.int z :: rest))) := by
  obtain ⟨fs, hr, hrun, hended, hW, hsame⟩ := X.leave (v := some (.int z)) (fun h => by rw [hret] at h; cases h) hlk
  refine ⟨T.setFrames fs, _, ?_, hrun, hended, _, _, rfl, hQ, ⟨_, rfl⟩, hW, hsame.mono hc hs⟩
  have hm' : T.vm.method? m = some meth := X.method'
  have hn : narrow .int (.int z) = .int z := rfl
  show Steps p.tables e below (T.setTop { method := m, pc := pc, locals := Ls, stack := _ :: rest, locked := none }) _
  jvm_step X.here [X.here.top, hx, hd, hm', hret, hn]
  first | (intro acts; rw [hr _ acts rfl rfl rfl]) | rw [hr _ _ rfl rfl rfl]
  exact Steps.refl _
theorem own_retA (X : Stand p l e R s m args below meth c T locs cells slots) (hx : p.tables.exec = Jvm.exec) (hlk : meth.locks = false) {pc : Nat} {Ls : Array Slot} {v : Value} {rest : List Value} {t : FieldType} (hret : meth.sig.returnType = some t) (ht : t.isReference = true) (hv : v.isRef = true)
    (hd : decode c.code pc = .ok (.areturn, 1)) (hQ : Q (some v) T.heap locs) (hc : cells ≤ C) (hs : slots ≤ S) : Go p e below (FinE s below Q C S) (T.setTop (mkF m pc Ls (v :: rest))) := by
  obtain ⟨fs, hr, hrun, hended, hW, hsame⟩ := X.leave (v := some v) (fun h => by rw [hret] at h; cases h) hlk
  refine ⟨T.setFrames fs, _, ?_, hrun, hended, _, _, rfl, hQ, ⟨_, rfl⟩, hW, hsame.mono hc hs⟩
  have hm' : T.vm.method? m = some meth := X.method'
  show Steps p.tables e below (T.setTop { method := m, pc := pc, locals := Ls, stack := _ :: rest, locked := none }) _
  jvm_step X.here [X.here.top, hx, hd, hm', hret, hv, ht]
  first | (intro acts; rw [hr _ acts rfl rfl rfl]) | rw [hr _ _ rfl rfl rfl]
  exact Steps.refl _
theorem own_retV (X : Stand p l e R s m args below meth c T locs cells slots) (hx : p.tables.exec = Jvm.exec) (hlk : meth.locks = false) {pc : Nat} {Ls : Array Slot} (hret : meth.sig.returnType = none)
    (hd : decode c.code pc = .ok (.return_, 1)) (hQ : Q none T.heap locs) (hc : cells ≤ C) (hs : slots ≤ S) : Go p e below (FinE s below Q C S) (T.setTop (mkF m pc Ls [])) := by
  obtain ⟨fs, hr, hrun, hended, hW, hsame⟩ := X.leave (v := none) (fun _ => rfl) hlk
  exact ⟨T.setFrames fs, _, X.returnOut hx hret hd hr, hrun, hended, _, _, rfl, hQ, ⟨_, rfl⟩, hW, hsame.mono hc hs⟩
end Own
theorem d1_0 : decode prog_6_method_4_code 0 = .ok (.iload_n 1, 1) := by decide +kernel
theorem d1_1 : decode prog_6_method_4_code 1 = .ok (.bipush 39, 2) := by decide +kernel
theorem d1_3 : decode prog_6_method_4_code 3 = .ok (.if_icmp .ne 10, 3) := by decide +kernel
theorem d1_6 : decode prog_6_method_4_code 6 = .ok (.aload_n 0, 1) := by decide +kernel
theorem d1_7 : decode prog_6_method_4_code 7 = .ok (.getstatic 3, 3) := by decide +kernel
theorem d1_10 : decode prog_6_method_4_code 10 = .ok (.if_acmp .ne 16, 3) := by decide +kernel
theorem d1_13 : decode prog_6_method_4_code 13 = .ok (.iload_n 1, 1) := by decide +kernel
theorem d1_14 : decode prog_6_method_4_code 14 = .ok (.bipush 34, 2) := by decide +kernel
theorem d1_16 : decode prog_6_method_4_code 16 = .ok (.if_icmp .ne 14, 3) := by decide +kernel
theorem d1_30 : decode prog_6_method_4_code 30 = .ok (.iconst 0, 1) := by decide +kernel
theorem d1_31 : decode prog_6_method_4_code 31 = .ok (.ireturn, 1) := by decide +kernel
theorem pn_com_example_waymark_waymark_BackslashEscapes : plainName "com/example/waymark/waymark/BackslashEscapes" = true := by first | (simp [plainName, overriddenIn]; done) | decide +kernel
theorem d1_19 : decode prog_6_method_4_code 19 = .ok (.aload_n 0, 1) := by decide +kernel
theorem d1_20 : decode prog_6_method_4_code 20 = .ok (.getstatic 10, 3) := by decide +kernel
theorem d1_23 : decode prog_6_method_4_code 23 = .ok (.if_acmp .ne 7, 3) := by decide +kernel
theorem d1_26 : decode prog_6_method_4_code 26 = .ok (.iconst 1, 1) := by decide +kernel
theorem d1_27 : decode prog_6_method_4_code 27 = .ok (.goto 4, 3) := by decide +kernel
theorem pd_0 : parseMethodDescriptor "(C)Z" = some ⟨[.char], some .boolean⟩ := by decide +kernel
theorem pn_com_example_waymark_waymark_BackslashEscapesInPinLaw : plainName "com/example/waymark/waymark/BackslashEscapesInPinLaw" = true := by first | (simp [plainName, overriddenIn]; done) | decide +kernel
theorem ef_rm1_0_39 (m : MethodId) (x0 : Addr) : entryFrame m #[(.ref x0), (.int (39 : Int32))] 2 = mkF m 0 #[.val (.ref x0), .val (.int (39 : Int32))] [] := by first | (simp [entryFrame, mkF, argsToLocals, Value.category]; done) | rfl
def Q1_0_39 (Z : State) (w_NONE : Addr) (w_SINGLE_QUOTES : Addr) (w_SINGLE_AND_DOUBLE_QUOTES : Addr) (h0 : Heap) (n0 : Nat) (v : Option Value) (h : Heap) (L : List Loc) : Prop := v = some (.int (0 : Int32)) ∧ Fr n0 L ∧ h = h0
set_option maxRecDepth 65536 in
set_option maxHeartbeats 40000000 in
theorem rm1_0_39 (l : Launch) (Z : State) (a0 : Array Value) (hw : ∀ d ∈ tables_1, d.before a0 Z = true) (ws : List Jvm.Cond) (w_NONE : Addr) (w_SINGLE_QUOTES : Addr) (w_SINGLE_AND_DOUBLE_QUOTES : Addr) (h0 : Heap) (n0 : Nat) (Z0 : n0 ≤ h0.size) (O0 : Old Z n0 h0) (S_NONE : Sta Z Z.heap "com/example/waymark/waymark/BackslashEscapes" "NONE" "Lcom/example/waymark/waymark/BackslashEscapes;" (.ref w_NONE)) (S_SINGLE_QUOTES : Sta Z Z.heap "com/example/waymark/waymark/BackslashEscapes" "SINGLE_QUOTES" "Lcom/example/waymark/waymark/BackslashEscapes;" (.ref w_SINGLE_QUOTES)) (S_SINGLE_AND_DOUBLE_QUOTES : Sta Z Z.heap "com/example/waymark/waymark/BackslashEscapes" "SINGLE_AND_DOUBLE_QUOTES" "Lcom/example/waymark/waymark/BackslashEscapes;" (.ref w_SINGLE_AND_DOUBLE_QUOTES)) (ne_NONE_SINGLE_QUOTES : w_NONE ≠ w_SINGLE_QUOTES) (ne_NONE_SINGLE_AND_DOUBLE_QUOTES : w_NONE ≠ w_SINGLE_AND_DOUBLE_QUOTES) (ne_SINGLE_QUOTES_SINGLE_AND_DOUBLE_QUOTES : w_SINGLE_QUOTES ≠ w_SINGLE_AND_DOUBLE_QUOTES) :
    MetFree l (⟨"com/example/waymark/waymark/BackslashEscapes", "in", "(C)Z"⟩ : MethodName) (head1 (Jvm.Cond.code (⟨"com/example/waymark/waymark/BackslashEscapes", "in", "(C)Z"⟩ : MethodName) prog_6_method_4_code 2 (some .boolean) :: ws) ({ frames := 0, cells := 0, slots := 0, locals := 0 } : Room)) (fun a U => a = #[(.ref w_NONE), (.int (39 : Int32))] ∧ Z.Warmed39 U.vm ∧ U.heap = h0) (fun _ _ _ _ _ => True) (fun _ U o U' => ∃ v L, o = .returned v ∧ Q1_0_39 Z w_NONE w_SINGLE_QUOTES w_SINGLE_AND_DOUBLE_QUOTES h0 n0 v U'.heap L ∧ FrameEnd U o U' L ({ frames := 0, cells := 0, slots := 0, locals := 0 } : Room).cells ({ frames := 0, cells := 0, slots := 0, locals := 0 } : Room).slots) := by
  refine MetFree.of_bodySF (plainFor_of_name pn_com_example_waymark_waymark_BackslashEscapes) hisR ?_
  intro p e s m args below meth c s₁ Bd hml0 hP hK
  obtain ⟨rfl, hZ, hh⟩ := hP
  have hx := Bd.exec
  have hby := Bd.bytes
  have hlk : meth.locks = false := Bd.notSynchronized
  have hml : c.maxLocals = 2 := hml0
  have hown : s.vm.findClass "com/example/waymark/waymark/BackslashEscapes" = some m.cls := findClass_of_methodNamed Bd.named
  have hnm := (name_of_methodNamed Bd.named Bd.method).1
  have X0 : Stand p l e ({ frames := 0, cells := 0, slots := 0, locals := 0 } : Room) s m #[(.ref w_NONE), (.int (39 : Int32))] below meth c s₁ [] 0 0 := Stand.of_body Bd
  have e0 : s₁.heap = h0 := by rw [← hh, Bd.state]; rfl
  have N0 := Fr.nil n0
  show Go p e below (FinE s below (Q1_0_39 Z w_NONE w_SINGLE_QUOTES w_SINGLE_AND_DOUBLE_QUOTES h0 n0) ({ frames := 0, cells := 0, slots := 0, locals := 0 } : Room).cells ({ frames := 0, cells := 0, slots := 0, locals := 0 } : Room).slots) (s₁.setTop (entryFrame m #[(.ref w_NONE), (.int (39 : Int32))] 2))
  refine Go.via (fun t k => castTop (ef_rm1_0_39 m w_NONE) k) ?_
  show Go p e below _ (s₁.setTop (mkF m 0 #[.val (.ref w_NONE), .val (.int (39 : Int32))] []))
  refine Go.via (fun _ => XS.iloadN X0.here hx rfl (hb hby d1_0) rfl) ?_
  show Go p e below _ (s₁.setTop (mkF m 1 #[.val (.ref w_NONE), .val (.int (39 : Int32))] [(.int (39 : Int32))]))
  refine Go.via (fun _ => XS.bipush X0.here hx rfl (hb hby d1_1)) ?_
  show Go p e below _ (s₁.setTop (mkF m 3 #[.val (.ref w_NONE), .val (.int (39 : Int32))] [(.int (39 : Int32)), (.int (39 : Int32))]))
  refine Go.via (fun _ => XS.icmpNo X0.here hx rfl (hb hby d1_3) rfl (by decide)) ?_
  show Go p e below _ (s₁.setTop (mkF m 6 #[.val (.ref w_NONE), .val (.int (39 : Int32))] []))
  refine Go.via (fun _ => XS.aloadN X0.here hx rfl (hb hby d1_6) rfl rfl) ?_
  show Go p e below _ (s₁.setTop (mkF m 7 #[.val (.ref w_NONE), .val (.int (39 : Int32))] [(.ref w_NONE)]))
  obtain ⟨T1, X1, e1, st1⟩ := getS2 X0 hx hZ hown (host := "") (Or.inl (hw _ (List.mem_of_getElem? (i := 15) rfl))) Via.refl e0 (S_NONE.ext O0.2) (g := (mkF m 7 #[.val (.ref w_NONE), .val (.int (39 : Int32))] [(.ref w_NONE)])) rfl (hb hby d1_7)
  refine Go.via st1 ?_
  show Go p e below _ (T1.setTop (mkF m 10 #[.val (.ref w_NONE), .val (.int (39 : Int32))] [(.ref w_NONE), (.ref w_NONE)]))
  refine Go.via (fun _ => Jvm.RoadKit.acmp (g := (mkF m 10 #[.val (.ref w_NONE), .val (.int (39 : Int32))] [(.ref w_NONE), (.ref w_NONE)])) X1 hx rfl rfl rfl (pc0 := 10) (pc' := 13) (same := true) rfl (hb hby d1_10) rfl (decide_eq_true rfl) (by decide) (by decide)) ?_
  show Go p e below _ (T1.setTop (mkF m 13 #[.val (.ref w_NONE), .val (.int (39 : Int32))] []))
  refine Go.via (fun _ => XS.iloadN X1.here hx rfl (hb hby d1_13) rfl) ?_
  show Go p e below _ (T1.setTop (mkF m 14 #[.val (.ref w_NONE), .val (.int (39 : Int32))] [(.int (39 : Int32))]))
  refine Go.via (fun _ => XS.bipush X1.here hx rfl (hb hby d1_14)) ?_
  show Go p e below _ (T1.setTop (mkF m 16 #[.val (.ref w_NONE), .val (.int (39 : Int32))] [(.int (34 : Int32)), (.int (39 : Int32))]))
  refine Go.via (fun _ => XS.icmpYes X1.here hx rfl (pc0 := 16) (pc' := 30) rfl (hb hby d1_16) rfl (by decide) (by decide) (by decide)) ?_
  show Go p e below _ (T1.setTop (mkF m 30 #[.val (.ref w_NONE), .val (.int (39 : Int32))] []))
  refine Go.via (fun _ => XS.iconst X1.here hx rfl (hb hby d1_30)) ?_
  show Go p e below _ (T1.setTop (mkF m 31 #[.val (.ref w_NONE), .val (.int (39 : Int32))] [(.int (0 : Int32))]))
  exact own_retN X1 hx hlk (t := .boolean) Bd.returns (by simp) (hb hby d1_31) (by show Q1_0_39 Z w_NONE w_SINGLE_QUOTES w_SINGLE_AND_DOUBLE_QUOTES h0 n0 _ T1.heap _; rw [e1]; exact ⟨rfl, N0, rfl⟩) (by decide) (by decide)
theorem ef_rm1_0_34 (m : MethodId) (x0 : Addr) : entryFrame m #[(.ref x0), (.int (34 : Int32))] 2 = mkF m 0 #[.val (.ref x0), .val (.int (34 : Int32))] [] := by first | (simp [entryFrame, mkF, argsToLocals, Value.category]; done) | rfl
def Q1_0_34 (Z : State) (w_NONE : Addr) (w_SINGLE_QUOTES : Addr) (w_SINGLE_AND_DOUBLE_QUOTES : Addr) (h0 : Heap) (n0 : Nat) (v : Option Value) (h : Heap) (L : List Loc) : Prop := v = some (.int (0 : Int32)) ∧ Fr n0 L ∧ h = h0
set_option maxRecDepth 65536 in
set_option maxHeartbeats 40000000 in
theorem rm1_0_34 (l : Launch) (Z : State) (a0 : Array Value) (hw : ∀ d ∈ tables_1, d.before a0 Z = true) (ws : List Jvm.Cond) (w_NONE : Addr) (w_SINGLE_QUOTES : Addr) (w_SINGLE_AND_DOUBLE_QUOTES : Addr) (h0 : Heap) (n0 : Nat) (Z0 : n0 ≤ h0.size) (O0 : Old Z n0 h0) (S_NONE : Sta Z Z.heap "com/example/waymark/waymark/BackslashEscapes" "NONE" "Lcom/example/waymark/waymark/BackslashEscapes;" (.ref w_NONE)) (S_SINGLE_QUOTES : Sta Z Z.heap "com/example/waymark/waymark/BackslashEscapes" "SINGLE_QUOTES" "Lcom/example/waymark/waymark/BackslashEscapes;" (.ref w_SINGLE_QUOTES)) (S_SINGLE_AND_DOUBLE_QUOTES : Sta Z Z.heap "com/example/waymark/waymark/BackslashEscapes" "SINGLE_AND_DOUBLE_QUOTES" "Lcom/example/waymark/waymark/BackslashEscapes;" (.ref w_SINGLE_AND_DOUBLE_QUOTES)) (ne_NONE_SINGLE_QUOTES : w_NONE ≠ w_SINGLE_QUOTES) (ne_NONE_SINGLE_AND_DOUBLE_QUOTES : w_NONE ≠ w_SINGLE_AND_DOUBLE_QUOTES) (ne_SINGLE_QUOTES_SINGLE_AND_DOUBLE_QUOTES : w_SINGLE_QUOTES ≠ w_SINGLE_AND_DOUBLE_QUOTES) :
    MetFree l (⟨"com/example/waymark/waymark/BackslashEscapes", "in", "(C)Z"⟩ : MethodName) (head1 (Jvm.Cond.code (⟨"com/example/waymark/waymark/BackslashEscapes", "in", "(C)Z"⟩ : MethodName) prog_6_method_4_code 2 (some .boolean) :: ws) ({ frames := 0, cells := 0, slots := 0, locals := 0 } : Room)) (fun a U => a = #[(.ref w_NONE), (.int (34 : Int32))] ∧ Z.Warmed39 U.vm ∧ U.heap = h0) (fun _ _ _ _ _ => True) (fun _ U o U' => ∃ v L, o = .returned v ∧ Q1_0_34 Z w_NONE w_SINGLE_QUOTES w_SINGLE_AND_DOUBLE_QUOTES h0 n0 v U'.heap L ∧ FrameEnd U o U' L ({ frames := 0, cells := 0, slots := 0, locals := 0 } : Room).cells ({ frames := 0, cells := 0, slots := 0, locals := 0 } : Room).slots) := by
  refine MetFree.of_bodySF (plainFor_of_name pn_com_example_waymark_waymark_BackslashEscapes) hisR ?_
  intro p e s m args below meth c s₁ Bd hml0 hP hK
  obtain ⟨rfl, hZ, hh⟩ := hP
  have hx := Bd.exec
  have hby := Bd.bytes
  have hlk : meth.locks = false := Bd.notSynchronized
  have hml : c.maxLocals = 2 := hml0
  have hown : s.vm.findClass "com/example/waymark/waymark/BackslashEscapes" = some m.cls := findClass_of_methodNamed Bd.named
  have hnm := (name_of_methodNamed Bd.named Bd.method).1
  have X0 : Stand p l e ({ frames := 0, cells := 0, slots := 0, locals := 0 } : Room) s m #[(.ref w_NONE), (.int (34 : Int32))] below meth c s₁ [] 0 0 := Stand.of_body Bd
  have e0 : s₁.heap = h0 := by rw [← hh, Bd.state]; rfl
  have N0 := Fr.nil n0
  show Go p e below (FinE s below (Q1_0_34 Z w_NONE w_SINGLE_QUOTES w_SINGLE_AND_DOUBLE_QUOTES h0 n0) ({ frames := 0, cells := 0, slots := 0, locals := 0 } : Room).cells ({ frames := 0, cells := 0, slots := 0, locals := 0 } : Room).slots) (s₁.setTop (entryFrame m #[(.ref w_NONE), (.int (34 : Int32))] 2))
  refine Go.via (fun t k => castTop (ef_rm1_0_34 m w_NONE) k) ?_
  show Go p e below _ (s₁.setTop (mkF m 0 #[.val (.ref w_NONE), .val (.int (34 : Int32))] []))
  refine Go.via (fun _ => XS.iloadN X0.here hx rfl (hb hby d1_0) rfl) ?_
  show Go p e below _ (s₁.setTop (mkF m 1 #[.val (.ref w_NONE), .val (.int (34 : Int32))] [(.int (34 : Int32))]))
  refine Go.via (fun _ => XS.bipush X0.here hx rfl (hb hby d1_1)) ?_
  show Go p e below _ (s₁.setTop (mkF m 3 #[.val (.ref w_NONE), .val (.int (34 : Int32))] [(.int (39 : Int32)), (.int (34 : Int32))]))
  refine Go.via (fun _ => XS.icmpYes X0.here hx rfl (pc0 := 3) (pc' := 13) rfl (hb hby d1_3) rfl (by decide) (by decide) (by decide)) ?_
  show Go p e below _ (s₁.setTop (mkF m 13 #[.val (.ref w_NONE), .val (.int (34 : Int32))] []))
  refine Go.via (fun _ => XS.iloadN X0.here hx rfl (hb hby d1_13) rfl) ?_
  show Go p e below _ (s₁.setTop (mkF m 14 #[.val (.ref w_NONE), .val (.int (34 : Int32))] [(.int (34 : Int32))]))
  refine Go.via (fun _ => XS.bipush X0.here hx rfl (hb hby d1_14)) ?_
  show Go p e below _ (s₁.setTop (mkF m 16 #[.val (.ref w_NONE), .val (.int (34 : Int32))] [(.int (34 : Int32)), (.int (34 : Int32))]))
  refine Go.via (fun _ => XS.icmpNo X0.here hx rfl (hb hby d1_16) rfl (by decide)) ?_
  show Go p e below _ (s₁.setTop (mkF m 19 #[.val (.ref w_NONE), .val (.int (34 : Int32))] []))
  refine Go.via (fun _ => XS.aloadN X0.here hx rfl (hb hby d1_19) rfl rfl) ?_
  show Go p e below _ (s₁.setTop (mkF m 20 #[.val (.ref w_NONE), .val (.int (34 : Int32))] [(.ref w_NONE)]))
  obtain ⟨T1, X1, e1, st1⟩ := getS2 X0 hx hZ hown (host := "") (Or.inl (hw _ (List.mem_of_getElem? (i := 14) rfl))) Via.refl e0 (S_SINGLE_AND_DOUBLE_QUOTES.ext O0.2) (g := (mkF m 20 #[.val (.ref w_NONE), .val (.int (34 : Int32))] [(.ref w_NONE)])) rfl (hb hby d1_20)
  refine Go.via st1 ?_
  show Go p e below _ (T1.setTop (mkF m 23 #[.val (.ref w_NONE), .val (.int (34 : Int32))] [(.ref w_SINGLE_AND_DOUBLE_QUOTES), (.ref w_NONE)]))
  refine Go.via (fun _ => Jvm.RoadKit.acmp (g := (mkF m 23 #[.val (.ref w_NONE), .val (.int (34 : Int32))] [(.ref w_SINGLE_AND_DOUBLE_QUOTES), (.ref w_NONE)])) X1 hx rfl rfl rfl (pc0 := 23) (pc' := 30) (same := false) rfl (hb hby d1_23) rfl (decide_eq_false fun q => (ne_NONE_SINGLE_AND_DOUBLE_QUOTES) (Value.ref.inj q)) (by decide) (by decide)) ?_
  show Go p e below _ (T1.setTop (mkF m 30 #[.val (.ref w_NONE), .val (.int (34 : Int32))] []))
  refine Go.via (fun _ => XS.iconst X1.here hx rfl (hb hby d1_30)) ?_
  show Go p e below _ (T1.setTop (mkF m 31 #[.val (.ref w_NONE), .val (.int (34 : Int32))] [(.int (0 : Int32))]))
  exact own_retN X1 hx hlk (t := .boolean) Bd.returns (by simp) (hb hby d1_31) (by show Q1_0_34 Z w_NONE w_SINGLE_QUOTES w_SINGLE_AND_DOUBLE_QUOTES h0 n0 _ T1.heap _; rw [e1]; exact ⟨rfl, N0, rfl⟩) (by decide) (by decide)
theorem ef_rm1_0_o (m : MethodId) (x0 : Addr) (x1 : Int32) : entryFrame m #[(.ref x0), (.int x1)] 2 = mkF m 0 #[.val (.ref x0), .val (.int x1)] [] := by first | (simp [entryFrame, mkF, argsToLocals, Value.category]; done) | rfl
def Q1_0_o (Z : State) (q : Int32) (w_NONE : Addr) (w_SINGLE_QUOTES : Addr) (w_SINGLE_AND_DOUBLE_QUOTES : Addr) (h0 : Heap) (n0 : Nat) (v : Option Value) (h : Heap) (L : List Loc) : Prop := v = some (.int (0 : Int32)) ∧ Fr n0 L ∧ h = h0
set_option maxRecDepth 65536 in
set_option maxHeartbeats 40000000 in
theorem rm1_0_o (l : Launch) (Z : State) (a0 : Array Value) (hw : ∀ d ∈ tables_1, d.before a0 Z = true) (ws : List Jvm.Cond) (q : Int32) (w_NONE : Addr) (w_SINGLE_QUOTES : Addr) (w_SINGLE_AND_DOUBLE_QUOTES : Addr) (h0 : Heap) (n0 : Nat) (Z0 : n0 ≤ h0.size) (O0 : Old Z n0 h0) (S_NONE : Sta Z Z.heap "com/example/waymark/waymark/BackslashEscapes" "NONE" "Lcom/example/waymark/waymark/BackslashEscapes;" (.ref w_NONE)) (S_SINGLE_QUOTES : Sta Z Z.heap "com/example/waymark/waymark/BackslashEscapes" "SINGLE_QUOTES" "Lcom/example/waymark/waymark/BackslashEscapes;" (.ref w_SINGLE_QUOTES)) (S_SINGLE_AND_DOUBLE_QUOTES : Sta Z Z.heap "com/example/waymark/waymark/BackslashEscapes" "SINGLE_AND_DOUBLE_QUOTES" "Lcom/example/waymark/waymark/BackslashEscapes;" (.ref w_SINGLE_AND_DOUBLE_QUOTES)) (ne_NONE_SINGLE_QUOTES : w_NONE ≠ w_SINGLE_QUOTES) (ne_NONE_SINGLE_AND_DOUBLE_QUOTES : w_NONE ≠ w_SINGLE_AND_DOUBLE_QUOTES) (ne_SINGLE_QUOTES_SINGLE_AND_DOUBLE_QUOTES : w_SINGLE_QUOTES ≠ w_SINGLE_AND_DOUBLE_QUOTES) (hq39 : ¬ (q = (39 : Int32))) (hq34 : ¬ (q = (34 : Int32))) :
    MetFree l (⟨"com/example/waymark/waymark/BackslashEscapes", "in", "(C)Z"⟩ : MethodName) (head1 (Jvm.Cond.code (⟨"com/example/waymark/waymark/BackslashEscapes", "in", "(C)Z"⟩ : MethodName) prog_6_method_4_code 2 (some .boolean) :: ws) ({ frames := 0, cells := 0, slots := 0, locals := 0 } : Room)) (fun a U => a = #[(.ref w_NONE), (.int q)] ∧ Z.Warmed39 U.vm ∧ U.heap = h0) (fun _ _ _ _ _ => True) (fun _ U o U' => ∃ v L, o = .returned v ∧ Q1_0_o Z q w_NONE w_SINGLE_QUOTES w_SINGLE_AND_DOUBLE_QUOTES h0 n0 v U'.heap L ∧ FrameEnd U o U' L ({ frames := 0, cells := 0, slots := 0, locals := 0 } : Room).cells ({ frames := 0, cells := 0, slots := 0, locals := 0 } : Room).slots) := by
  refine MetFree.of_bodySF (plainFor_of_name pn_com_example_waymark_waymark_BackslashEscapes) hisR ?_
  intro p e s m args below meth c s₁ Bd hml0 hP hK
  obtain ⟨rfl, hZ, hh⟩ := hP
  have hx := Bd.exec
  have hby := Bd.bytes
  have hlk : meth.locks = false := Bd.notSynchronized
  have hml : c.maxLocals = 2 := hml0
  have hown : s.vm.findClass "com/example/waymark/waymark/BackslashEscapes" = some m.cls := findClass_of_methodNamed Bd.named
  have hnm := (name_of_methodNamed Bd.named Bd.method).1
  have X0 : Stand p l e ({ frames := 0, cells := 0, slots := 0, locals := 0 } : Room) s m #[(.ref w_NONE), (.int q)] below meth c s₁ [] 0 0 := Stand.of_body Bd
  have e0 : s₁.heap = h0 := by rw [← hh, Bd.state]; rfl
  have N0 := Fr.nil n0
  show Go p e below (FinE s below (Q1_0_o Z q w_NONE w_SINGLE_QUOTES w_SINGLE_AND_DOUBLE_QUOTES h0 n0) ({ frames := 0, cells := 0, slots := 0, locals := 0 } : Room).cells ({ frames := 0, cells := 0, slots := 0, locals := 0 } : Room).slots) (s₁.setTop (entryFrame m #[(.ref w_NONE), (.int q)] 2))
  refine Go.via (fun t k => castTop (ef_rm1_0_o m w_NONE q) k) ?_
  show Go p e below _ (s₁.setTop (mkF m 0 #[.val (.ref w_NONE), .val (.int q)] []))
  refine Go.via (fun _ => XS.iloadN X0.here hx rfl (hb hby d1_0) rfl) ?_
  show Go p e below _ (s₁.setTop (mkF m 1 #[.val (.ref w_NONE), .val (.int q)] [(.int q)]))
  refine Go.via (fun _ => XS.bipush X0.here hx rfl (hb hby d1_1)) ?_
  show Go p e below _ (s₁.setTop (mkF m 3 #[.val (.ref w_NONE), .val (.int q)] [(.int (39 : Int32)), (.int q)]))
  refine Go.via (fun _ => XS.icmpYes X0.here hx rfl (pc0 := 3) (pc' := 13) rfl (hb hby d1_3) rfl (feq hq39).2 (by decide) (by decide)) ?_
  show Go p e below _ (s₁.setTop (mkF m 13 #[.val (.ref w_NONE), .val (.int q)] []))
  refine Go.via (fun _ => XS.iloadN X0.here hx rfl (hb hby d1_13) rfl) ?_
  show Go p e below _ (s₁.setTop (mkF m 14 #[.val (.ref w_NONE), .val (.int q)] [(.int q)]))
  refine Go.via (fun _ => XS.bipush X0.here hx rfl (hb hby d1_14)) ?_
  show Go p e below _ (s₁.setTop (mkF m 16 #[.val (.ref w_NONE), .val (.int q)] [(.int (34 : Int32)), (.int q)]))
  refine Go.via (fun _ => XS.icmpYes X0.here hx rfl (pc0 := 16) (pc' := 30) rfl (hb hby d1_16) rfl (feq hq34).2 (by decide) (by decide)) ?_
  show Go p e below _ (s₁.setTop (mkF m 30 #[.val (.ref w_NONE), .val (.int q)] []))
  refine Go.via (fun _ => XS.iconst X0.here hx rfl (hb hby d1_30)) ?_
  show Go p e below _ (s₁.setTop (mkF m 31 #[.val (.ref w_NONE), .val (.int q)] [(.int (0 : Int32))]))
  exact own_retN X0 hx hlk (t := .boolean) Bd.returns (by simp) (hb hby d1_31) (by show Q1_0_o Z q w_NONE w_SINGLE_QUOTES w_SINGLE_AND_DOUBLE_QUOTES h0 n0 _ s₁.heap _; rw [e0]; exact ⟨rfl, N0, rfl⟩) (by decide) (by decide)
theorem ef_rm1_1_39 (m : MethodId) (x0 : Addr) : entryFrame m #[(.ref x0), (.int (39 : Int32))] 2 = mkF m 0 #[.val (.ref x0), .val (.int (39 : Int32))] [] := by first | (simp [entryFrame, mkF, argsToLocals, Value.category]; done) | rfl
def Q1_1_39 (Z : State) (w_NONE : Addr) (w_SINGLE_QUOTES : Addr) (w_SINGLE_AND_DOUBLE_QUOTES : Addr) (h0 : Heap) (n0 : Nat) (v : Option Value) (h : Heap) (L : List Loc) : Prop := v = some (.int (1 : Int32)) ∧ Fr n0 L ∧ h = h0
set_option maxRecDepth 65536 in
set_option maxHeartbeats 40000000 in
theorem rm1_1_39 (l : Launch) (Z : State) (a0 : Array Value) (hw : ∀ d ∈ tables_1, d.before a0 Z = true) (ws : List Jvm.Cond) (w_NONE : Addr) (w_SINGLE_QUOTES : Addr) (w_SINGLE_AND_DOUBLE_QUOTES : Addr) (h0 : Heap) (n0 : Nat) (Z0 : n0 ≤ h0.size) (O0 : Old Z n0 h0) (S_NONE : Sta Z Z.heap "com/example/waymark/waymark/BackslashEscapes" "NONE" "Lcom/example/waymark/waymark/BackslashEscapes;" (.ref w_NONE)) (S_SINGLE_QUOTES : Sta Z Z.heap "com/example/waymark/waymark/BackslashEscapes" "SINGLE_QUOTES" "Lcom/example/waymark/waymark/BackslashEscapes;" (.ref w_SINGLE_QUOTES)) (S_SINGLE_AND_DOUBLE_QUOTES : Sta Z Z.heap "com/example/waymark/waymark/BackslashEscapes" "SINGLE_AND_DOUBLE_QUOTES" "Lcom/example/waymark/waymark/BackslashEscapes;" (.ref w_SINGLE_AND_DOUBLE_QUOTES)) (ne_NONE_SINGLE_QUOTES : w_NONE ≠ w_SINGLE_QUOTES) (ne_NONE_SINGLE_AND_DOUBLE_QUOTES : w_NONE ≠ w_SINGLE_AND_DOUBLE_QUOTES) (ne_SINGLE_QUOTES_SINGLE_AND_DOUBLE_QUOTES : w_SINGLE_QUOTES ≠ w_SINGLE_AND_DOUBLE_QUOTES) :
    MetFree l (⟨"com/example/waymark/waymark/BackslashEscapes", "in", "(C)Z"⟩ : MethodName) (head1 (Jvm.Cond.code (⟨"com/example/waymark/waymark/BackslashEscapes", "in", "(C)Z"⟩ : MethodName) prog_6_method_4_code 2 (some .boolean) :: ws) ({ frames := 0, cells := 0, slots := 0, locals := 0 } : Room)) (fun a U => a = #[(.ref w_SINGLE_QUOTES), (.int (39 : Int32))] ∧ Z.Warmed39 U.vm ∧ U.heap = h0) (fun _ _ _ _ _ => True) (fun _ U o U' => ∃ v L, o = .returned v ∧ Q1_1_39 Z w_NONE w_SINGLE_QUOTES w_SINGLE_AND_DOUBLE_QUOTES h0 n0 v U'.heap L ∧ FrameEnd U o U' L ({ frames := 0, cells := 0, slots := 0, locals := 0 } : Room).cells ({ frames := 0, cells := 0, slots := 0, locals := 0 } : Room).slots) := by
  refine MetFree.of_bodySF (plainFor_of_name pn_com_example_waymark_waymark_BackslashEscapes) hisR ?_
  intro p e s m args below meth c s₁ Bd hml0 hP hK
  obtain ⟨rfl, hZ, hh⟩ := hP
  have hx := Bd.exec
  have hby := Bd.bytes
  have hlk : meth.locks = false := Bd.notSynchronized
  have hml : c.maxLocals = 2 := hml0
  have hown : s.vm.findClass "com/example/waymark/waymark/BackslashEscapes" = some m.cls := findClass_of_methodNamed Bd.named
  have hnm := (name_of_methodNamed Bd.named Bd.method).1
  have X0 : Stand p l e ({ frames := 0, cells := 0, slots := 0, locals := 0 } : Room) s m #[(.ref w_SINGLE_QUOTES), (.int (39 : Int32))] below meth c s₁ [] 0 0 := Stand.of_body Bd
  have e0 : s₁.heap = h0 := by rw [← hh, Bd.state]; rfl
  have N0 := Fr.nil n0
  show Go p e below (FinE s below (Q1_1_39 Z w_NONE w_SINGLE_QUOTES w_SINGLE_AND_DOUBLE_QUOTES h0 n0) ({ frames := 0, cells := 0, slots := 0, locals := 0 } : Room).cells ({ frames := 0, cells := 0, slots := 0, locals := 0 } : Room).slots) (s₁.setTop (entryFrame m #[(.ref w_SINGLE_QUOTES), (.int (39 : Int32))] 2))
  refine Go.via (fun t k => castTop (ef_rm1_1_39 m w_SINGLE_QUOTES) k) ?_
  show Go p e below _ (s₁.setTop (mkF m 0 #[.val (.ref w_SINGLE_QUOTES), .val (.int (39 : Int32))] []))
  refine Go.via (fun _ => XS.iloadN X0.here hx rfl (hb hby d1_0) rfl) ?_
  show Go p e below _ (s₁.setTop (mkF m 1 #[.val (.ref w_SINGLE_QUOTES), .val (.int (39 : Int32))] [(.int (39 : Int32))]))
  refine Go.via (fun _ => XS.bipush X0.here hx rfl (hb hby d1_1)) ?_
  show Go p e below _ (s₁.setTop (mkF m 3 #[.val (.ref w_SINGLE_QUOTES), .val (.int (39 : Int32))] [(.int (39 : Int32)), (.int (39 : Int32))]))
  refine Go.via (fun _ => XS.icmpNo X0.here hx rfl (hb hby d1_3) rfl (by decide)) ?_
  show Go p e below _ (s₁.setTop (mkF m 6 #[.val (.ref w_SINGLE_QUOTES), .val (.int (39 : Int32))] []))
  refine Go.via (fun _ => XS.aloadN X0.here hx rfl (hb hby d1_6) rfl rfl) ?_
  show Go p e below _ (s₁.setTop (mkF m 7 #[.val (.ref w_SINGLE_QUOTES), .val (.int (39 : Int32))] [(.ref w_SINGLE_QUOTES)]))
  obtain ⟨T1, X1, e1, st1⟩ := getS2 X0 hx hZ hown (host := "") (Or.inl (hw _ (List.mem_of_getElem? (i := 15) rfl))) Via.refl e0 (S_NONE.ext O0.2) (g := (mkF m 7 #[.val (.ref w_SINGLE_QUOTES), .val (.int (39 : Int32))] [(.ref w_SINGLE_QUOTES)])) rfl (hb hby d1_7)
  refine Go.via st1 ?_
  show Go p e below _ (T1.setTop (mkF m 10 #[.val (.ref w_SINGLE_QUOTES), .val (.int (39 : Int32))] [(.ref w_NONE), (.ref w_SINGLE_QUOTES)]))
  refine Go.via (fun _ => Jvm.RoadKit.acmp (g := (mkF m 10 #[.val (.ref w_SINGLE_QUOTES), .val (.int (39 : Int32))] [(.ref w_NONE), (.ref w_SINGLE_QUOTES)])) X1 hx rfl rfl rfl (pc0 := 10) (pc' := 26) (same := false) rfl (hb hby d1_10) rfl (decide_eq_false fun q => (Ne.symm ne_NONE_SINGLE_QUOTES) (Value.ref.inj q)) (by decide) (by decide)) ?_
  show Go p e below _ (T1.setTop (mkF m 26 #[.val (.ref w_SINGLE_QUOTES), .val (.int (39 : Int32))] []))
  refine Go.via (fun _ => XS.iconst X1.here hx rfl (hb hby d1_26)) ?_
  show Go p e below _ (T1.setTop (mkF m 27 #[.val (.ref w_SINGLE_QUOTES), .val (.int (39 : Int32))] [(.int (1 : Int32))]))
  refine Go.via (fun _ => XS.goto X1.here hx rfl (pc0 := 27) (pc' := 31) rfl (hb hby d1_27) (by decide) (by decide)) ?_
  show Go p e below _ (T1.setTop (mkF m 31 #[.val (.ref w_SINGLE_QUOTES), .val (.int (39 : Int32))] [(.int (1 : Int32))]))
  exact own_retN X1 hx hlk (t := .boolean) Bd.returns (by simp) (hb hby d1_31) (by show Q1_1_39 Z w_NONE w_SINGLE_QUOTES w_SINGLE_AND_DOUBLE_QUOTES h0 n0 _ T1.heap _; rw [e1]; exact ⟨rfl, N0, rfl⟩) (by decide) (by decide)
theorem ef_rm1_1_34 (m : MethodId) (x0 : Addr) : entryFrame m #[(.ref x0), (.int (34 : Int32))] 2 = mkF m 0 #[.val (.ref x0), .val (.int (34 : Int32))] [] := by first | (simp [entryFrame, mkF, argsToLocals, Value.category]; done) | rfl
def Q1_1_34 (Z : State) (w_NONE : Addr) (w_SINGLE_QUOTES : Addr) (w_SINGLE_AND_DOUBLE_QUOTES : Addr) (h0 : Heap) (n0 : Nat) (v : Option Value) (h : Heap) (L : List Loc) : Prop := v = some (.int (0 : Int32)) ∧ Fr n0 L ∧ h = h0
set_option maxRecDepth 65536 in
set_option maxHeartbeats 40000000 in
theorem rm1_1_34 (l : Launch) (Z : State) (a0 : Array Value) (hw : ∀ d ∈ tables_1, d.before a0 Z = true) (ws : List Jvm.Cond) (w_NONE : Addr) (w_SINGLE_QUOTES : Addr) (w_SINGLE_AND_DOUBLE_QUOTES : Addr) (h0 : Heap) (n0 : Nat) (Z0 : n0 ≤ h0.size) (O0 : Old Z n0 h0) (S_NONE : Sta Z Z.heap "com/example/waymark/waymark/BackslashEscapes" "NONE" "Lcom/example/waymark/waymark/BackslashEscapes;" (.ref w_NONE)) (S_SINGLE_QUOTES : Sta Z Z.heap "com/example/waymark/waymark/BackslashEscapes" "SINGLE_QUOTES" "Lcom/example/waymark/waymark/BackslashEscapes;" (.ref w_SINGLE_QUOTES)) (S_SINGLE_AND_DOUBLE_QUOTES : Sta Z Z.heap "com/example/waymark/waymark/BackslashEscapes" "SINGLE_AND_DOUBLE_QUOTES" "Lcom/example/waymark/waymark/BackslashEscapes;" (.ref w_SINGLE_AND_DOUBLE_QUOTES)) (ne_NONE_SINGLE_QUOTES : w_NONE ≠ w_SINGLE_QUOTES) (ne_NONE_SINGLE_AND_DOUBLE_QUOTES : w_NONE ≠ w_SINGLE_AND_DOUBLE_QUOTES) (ne_SINGLE_QUOTES_SINGLE_AND_DOUBLE_QUOTES : w_SINGLE_QUOTES ≠ w_SINGLE_AND_DOUBLE_QUOTES) :
    MetFree l (⟨"com/example/waymark/waymark/BackslashEscapes", "in", "(C)Z"⟩ : MethodName) (head1 (Jvm.Cond.code (⟨"com/example/waymark/waymark/BackslashEscapes", "in", "(C)Z"⟩ : MethodName) prog_6_method_4_code 2 (some .boolean) :: ws) ({ frames := 0, cells := 0, slots := 0, locals := 0 } : Room)) (fun a U => a = #[(.ref w_SINGLE_QUOTES), (.int (34 : Int32))] ∧ Z.Warmed39 U.vm ∧ U.heap = h0) (fun _ _ _ _ _ => True) (fun _ U o U' => ∃ v L, o = .returned v ∧ Q1_1_34 Z w_NONE w_SINGLE_QUOTES w_SINGLE_AND_DOUBLE_QUOTES h0 n0 v U'.heap L ∧ FrameEnd U o U' L ({ frames := 0, cells := 0, slots := 0, locals := 0 } : Room).cells ({ frames := 0, cells := 0, slots := 0, locals := 0 } : Room).slots) := by
  refine MetFree.of_bodySF (plainFor_of_name pn_com_example_waymark_waymark_BackslashEscapes) hisR ?_
  intro p e s m args below meth c s₁ Bd hml0 hP hK
  obtain ⟨rfl, hZ, hh⟩ := hP
  have hx := Bd.exec
  have hby := Bd.bytes
  have hlk : meth.locks = false := Bd.notSynchronized
  have hml : c.maxLocals = 2 := hml0
  have hown : s.vm.findClass "com/example/waymark/waymark/BackslashEscapes" = some m.cls := findClass_of_methodNamed Bd.named
  have hnm := (name_of_methodNamed Bd.named Bd.method).1
  have X0 : Stand p l e ({ frames := 0, cells := 0, slots := 0, locals := 0 } : Room) s m #[(.ref w_SINGLE_QUOTES), (.int (34 : Int32))] below meth c s₁ [] 0 0 := Stand.of_body Bd
  have e0 : s₁.heap = h0 := by rw [← hh, Bd.state]; rfl
  have N0 := Fr.nil n0
  show Go p e below (FinE s below (Q1_1_34 Z w_NONE w_SINGLE_QUOTES w_SINGLE_AND_DOUBLE_QUOTES h0 n0) ({ frames := 0, cells := 0, slots := 0, locals := 0 } : Room).cells ({ frames := 0, cells := 0, slots := 0, locals := 0 } : Room).slots) (s₁.setTop (entryFrame m #[(.ref w_SINGLE_QUOTES), (.int (34 : Int32))] 2))
  refine Go.via (fun t k => castTop (ef_rm1_1_34 m w_SINGLE_QUOTES) k) ?_
  show Go p e below _ (s₁.setTop (mkF m 0 #[.val (.ref w_SINGLE_QUOTES), .val (.int (34 : Int32))] []))
  refine Go.via (fun _ => XS.iloadN X0.here hx rfl (hb hby d1_0) rfl) ?_
  show Go p e below _ (s₁.setTop (mkF m 1 #[.val (.ref w_SINGLE_QUOTES), .val (.int (34 : Int32))] [(.int (34 : Int32))]))
  refine Go.via (fun _ => XS.bipush X0.here hx rfl (hb hby d1_1)) ?_
  show Go p e below _ (s₁.setTop (mkF m 3 #[.val (.ref w_SINGLE_QUOTES), .val (.int (34 : Int32))] [(.int (39 : Int32)), (.int (34 : Int32))]))
  refine Go.via (fun _ => XS.icmpYes X0.here hx rfl (pc0 := 3) (pc' := 13) rfl (hb hby d1_3) rfl (by decide) (by decide) (by decide)) ?_
  show Go p e below _ (s₁.setTop (mkF m 13 #[.val (.ref w_SINGLE_QUOTES), .val (.int (34 : Int32))] []))
  refine Go.via (fun _ => XS.iloadN X0.here hx rfl (hb hby d1_13) rfl) ?_
  show Go p e below _ (s₁.setTop (mkF m 14 #[.val (.ref w_SINGLE_QUOTES), .val (.int (34 : Int32))] [(.int (34 : Int32))]))
  refine Go.via (fun _ => XS.bipush X0.here hx rfl (hb hby d1_14)) ?_
  show Go p e below _ (s₁.setTop (mkF m 16 #[.val (.ref w_SINGLE_QUOTES), .val (.int (34 : Int32))] [(.int (34 : Int32)), (.int (34 : Int32))]))
  refine Go.via (fun _ => XS.icmpNo X0.here hx rfl (hb hby d1_16) rfl (by decide)) ?_
  show Go p e below _ (s₁.setTop (mkF m 19 #[.val (.ref w_SINGLE_QUOTES), .val (.int (34 : Int32))] []))
  refine Go.via (fun _ => XS.aloadN X0.here hx rfl (hb hby d1_19) rfl rfl) ?_
  show Go p e below _ (s₁.setTop (mkF m 20 #[.val (.ref w_SINGLE_QUOTES), .val (.int (34 : Int32))] [(.ref w_SINGLE_QUOTES)]))
  obtain ⟨T1, X1, e1, st1⟩ := getS2 X0 hx hZ hown (host := "") (Or.inl (hw _ (List.mem_of_getElem? (i := 14) rfl))) Via.refl e0 (S_SINGLE_AND_DOUBLE_QUOTES.ext O0.2) (g := (mkF m 20 #[.val (.ref w_SINGLE_QUOTES), .val (.int (34 : Int32))] [(.ref w_SINGLE_QUOTES)])) rfl (hb hby d1_20)
  refine Go.via st1 ?_
  show Go p e below _ (T1.setTop (mkF m 23 #[.val (.ref w_SINGLE_QUOTES), .val (.int (34 : Int32))] [(.ref w_SINGLE_AND_DOUBLE_QUOTES), (.ref w_SINGLE_QUOTES)]))
  refine Go.via (fun _ => Jvm.RoadKit.acmp (g := (mkF m 23 #[.val (.ref w_SINGLE_QUOTES), .val (.int (34 : Int32))] [(.ref w_SINGLE_AND_DOUBLE_QUOTES), (.ref w_SINGLE_QUOTES)])) X1 hx rfl rfl rfl (pc0 := 23) (pc' := 30) (same := false) rfl (hb hby d1_23) rfl (decide_eq_false fun q => (ne_SINGLE_QUOTES_SINGLE_AND_DOUBLE_QUOTES) (Value.ref.inj q)) (by decide) (by decide)) ?_
  show Go p e below _ (T1.setTop (mkF m 30 #[.val (.ref w_SINGLE_QUOTES), .val (.int (34 : Int32))] []))
  refine Go.via (fun _ => XS.iconst X1.here hx rfl (hb hby d1_30)) ?_
  show Go p e below _ (T1.setTop (mkF m 31 #[.val (.ref w_SINGLE_QUOTES), .val (.int (34 : Int32))] [(.int (0 : Int32))]))
  exact own_retN X1 hx hlk (t := .boolean) Bd.returns (by simp) (hb hby d1_31) (by show Q1_1_34 Z w_NONE w_SINGLE_QUOTES w_SINGLE_AND_DOUBLE_QUOTES h0 n0 _ T1.heap _; rw [e1]; exact ⟨rfl, N0, rfl⟩) (by decide) (by decide)
theorem ef_rm1_1_o (m : MethodId) (x0 : Addr) (x1 : Int32) : entryFrame m #[(.ref x0), (.int x1)] 2 = mkF m 0 #[.val (.ref x0), .val (.int x1)] [] := by first | (simp [entryFrame, mkF, argsToLocals, Value.category]; done) | rfl
def Q1_1_o (Z : State) (q : Int32) (w_NONE : Addr) (w_SINGLE_QUOTES : Addr) (w_SINGLE_AND_DOUBLE_QUOTES : Addr) (h0 : Heap) (n0 : Nat) (v : Option Value) (h : Heap) (L : List Loc) : Prop := v = some (.int (0 : Int32)) ∧ Fr n0 L ∧ h = h0
set_option maxRecDepth 65536 in
set_option maxHeartbeats 40000000 in
theorem rm1_1_o (l : Launch) (Z : State) (a0 : Array Value) (hw : ∀ d ∈ tables_1, d.before a0 Z = true) (ws : List Jvm.Cond) (q : Int32) (w_NONE : Addr) (w_SINGLE_QUOTES : Addr) (w_SINGLE_AND_DOUBLE_QUOTES : Addr) (h0 : Heap) (n0 : Nat) (Z0 : n0 ≤ h0.size) (O0 : Old Z n0 h0) (S_NONE : Sta Z Z.heap "com/example/waymark/waymark/BackslashEscapes" "NONE" "Lcom/example/waymark/waymark/BackslashEscapes;" (.ref w_NONE)) (S_SINGLE_QUOTES : Sta Z Z.heap "com/example/waymark/waymark/BackslashEscapes" "SINGLE_QUOTES" "Lcom/example/waymark/waymark/BackslashEscapes;" (.ref w_SINGLE_QUOTES)) (S_SINGLE_AND_DOUBLE_QUOTES : Sta Z Z.heap "com/example/waymark/waymark/BackslashEscapes" "SINGLE_AND_DOUBLE_QUOTES" "Lcom/example/waymark/waymark/BackslashEscapes;" (.ref w_SINGLE_AND_DOUBLE_QUOTES)) (ne_NONE_SINGLE_QUOTES : w_NONE ≠ w_SINGLE_QUOTES) (ne_NONE_SINGLE_AND_DOUBLE_QUOTES : w_NONE ≠ w_SINGLE_AND_DOUBLE_QUOTES) (ne_SINGLE_QUOTES_SINGLE_AND_DOUBLE_QUOTES : w_SINGLE_QUOTES ≠ w_SINGLE_AND_DOUBLE_QUOTES) (hq39 : ¬ (q = (39 : Int32))) (hq34 : ¬ (q = (34 : Int32))) :
    MetFree l (⟨"com/example/waymark/waymark/BackslashEscapes", "in", "(C)Z"⟩ : MethodName) (head1 (Jvm.Cond.code (⟨"com/example/waymark/waymark/BackslashEscapes", "in", "(C)Z"⟩ : MethodName) prog_6_method_4_code 2 (some .boolean) :: ws) ({ frames := 0, cells := 0, slots := 0, locals := 0 } : Room)) (fun a U => a = #[(.ref w_SINGLE_QUOTES), (.int q)] ∧ Z.Warmed39 U.vm ∧ U.heap = h0) (fun _ _ _ _ _ => True) (fun _ U o U' => ∃ v L, o = .returned v ∧ Q1_1_o Z q w_NONE w_SINGLE_QUOTES w_SINGLE_AND_DOUBLE_QUOTES h0 n0 v U'.heap L ∧ FrameEnd U o U' L ({ frames := 0, cells := 0, slots := 0, locals := 0 } : Room).cells ({ frames := 0, cells := 0, slots := 0, locals := 0 } : Room).slots) := by
  refine MetFree.of_bodySF (plainFor_of_name pn_com_example_waymark_waymark_BackslashEscapes) hisR ?_
  intro p e s m args below meth c s₁ Bd hml0 hP hK
  obtain ⟨rfl, hZ, hh⟩ := hP
  have hx := Bd.exec
  have hby := Bd.bytes
  have hlk : meth.locks = false := Bd.notSynchronized
  have hml : c.maxLocals = 2 := hml0
  have hown : s.vm.findClass "com/example/waymark/waymark/BackslashEscapes" = some m.cls := findClass_of_methodNamed Bd.named
  have hnm := (name_of_methodNamed Bd.named Bd.method).1
  have X0 : Stand p l e ({ frames := 0, cells := 0, slots := 0, locals := 0 } : Room) s m #[(.ref w_SINGLE_QUOTES), (.int q)] below meth c s₁ [] 0 0 := Stand.of_body Bd
  have e0 : s₁.heap = h0 := by rw [← hh, Bd.state]; rfl
  have N0 := Fr.nil n0
  show Go p e below (FinE s below (Q1_1_o Z q w_NONE w_SINGLE_QUOTES w_SINGLE_AND_DOUBLE_QUOTES h0 n0) ({ frames := 0, cells := 0, slots := 0, locals := 0 } : Room).cells ({ frames := 0, cells := 0, slots := 0, locals := 0 } : Room).slots) (s₁.setTop (entryFrame m #[(.ref w_SINGLE_QUOTES), (.int q)] 2))
  refine Go.via (fun t k => castTop (ef_rm1_1_o m w_SINGLE_QUOTES q) k) ?_
  show Go p e below _ (s₁.setTop (mkF m 0 #[.val (.ref w_SINGLE_QUOTES), .val (.int q)] []))
  refine Go.via (fun _ => XS.iloadN X0.here hx rfl (hb hby d1_0) rfl) ?_
  show Go p e below _ (s₁.setTop (mkF m 1 #[.val (.ref w_SINGLE_QUOTES), .val (.int q)] [(.int q)]))
  refine Go.via (fun _ => XS.bipush X0.here hx rfl (hb hby d1_1)) ?_
  show Go p e below _ (s₁.setTop (mkF m 3 #[.val (.ref w_SINGLE_QUOTES), .val (.int q)] [(.int (39 : Int32)), (.int q)]))
  refine Go.via (fun _ => XS.icmpYes X0.here hx rfl (pc0 := 3) (pc' := 13) rfl (hb hby d1_3) rfl (feq hq39).2 (by decide) (by decide)) ?_
  show Go p e below _ (s₁.setTop (mkF m 13 #[.val (.ref w_SINGLE_QUOTES), .val (.int q)] []))
  refine Go.via (fun _ => XS.iloadN X0.here hx rfl (hb hby d1_13) rfl) ?_
  show Go p e below _ (s₁.setTop (mkF m 14 #[.val (.ref w_SINGLE_QUOTES), .val (.int q)] [(.int q)]))
  refine Go.via (fun _ => XS.bipush X0.here hx rfl (hb hby d1_14)) ?_
  show Go p e below _ (s₁.setTop (mkF m 16 #[.val (.ref w_SINGLE_QUOTES), .val (.int q)] [(.int (34 : Int32)), (.int q)]))
  refine Go.via (fun _ => XS.icmpYes X0.here hx rfl (pc0 := 16) (pc' := 30) rfl (hb hby d1_16) rfl (feq hq34).2 (by decide) (by decide)) ?_
  show Go p e below _ (s₁.setTop (mkF m 30 #[.val (.ref w_SINGLE_QUOTES), .val (.int q)] []))
  refine Go.via (fun _ => XS.iconst X0.here hx rfl (hb hby d1_30)) ?_
  show Go p e below _ (s₁.setTop (mkF m 31 #[.val (.ref w_SINGLE_QUOTES), .val (.int q)] [(.int (0 : Int32))]))
  exact own_retN X0 hx hlk (t := .boolean) Bd.returns (by simp) (hb hby d1_31) (by show Q1_1_o Z q w_NONE w_SINGLE_QUOTES w_SINGLE_AND_DOUBLE_QUOTES h0 n0 _ s₁.heap _; rw [e0]; exact ⟨rfl, N0, rfl⟩) (by decide) (by decide)
theorem ef_rm1_2_39 (m : MethodId) (x0 : Addr) : entryFrame m #[(.ref x0), (.int (39 : Int32))] 2 = mkF m 0 #[.val (.ref x0), .val (.int (39 : Int32))] [] := by first | (simp [entryFrame, mkF, argsToLocals, Value.category]; done) | rfl
def Q1_2_39 (Z : State) (w_NONE : Addr) (w_SINGLE_QUOTES : Addr) (w_SINGLE_AND_DOUBLE_QUOTES : Addr) (h0 : Heap) (n0 : Nat) (v : Option Value) (h : Heap) (L : List Loc) : Prop := v = some (.int (1 : Int32)) ∧ Fr n0 L ∧ h = h0
set_option maxRecDepth 65536 in
set_option maxHeartbeats 40000000 in
theorem rm1_2_39 (l : Launch) (Z : State) (a0 : Array Value) (hw : ∀ d ∈ tables_1, d.before a0 Z = true) (ws : List Jvm.Cond) (w_NONE : Addr) (w_SINGLE_QUOTES : Addr) (w_SINGLE_AND_DOUBLE_QUOTES : Addr) (h0 : Heap) (n0 : Nat) (Z0 : n0 ≤ h0.size) (O0 : Old Z n0 h0) (S_NONE : Sta Z Z.heap "com/example/waymark/waymark/BackslashEscapes" "NONE" "Lcom/example/waymark/waymark/BackslashEscapes;" (.ref w_NONE)) (S_SINGLE_QUOTES : Sta Z Z.heap "com/example/waymark/waymark/BackslashEscapes" "SINGLE_QUOTES" "Lcom/example/waymark/waymark/BackslashEscapes;" (.ref w_SINGLE_QUOTES)) (S_SINGLE_AND_DOUBLE_QUOTES : Sta Z Z.heap "com/example/waymark/waymark/BackslashEscapes" "SINGLE_AND_DOUBLE_QUOTES" "Lcom/example/waymark/waymark/BackslashEscapes;" (.ref w_SINGLE_AND_DOUBLE_QUOTES)) (ne_NONE_SINGLE_QUOTES : w_NONE ≠ w_SINGLE_QUOTES) (ne_NONE_SINGLE_AND_DOUBLE_QUOTES : w_NONE ≠ w_SINGLE_AND_DOUBLE_QUOTES) (ne_SINGLE_QUOTES_SINGLE_AND_DOUBLE_QUOTES : w_SINGLE_QUOTES ≠ w_SINGLE_AND_DOUBLE_QUOTES) :
    MetFree l (⟨"com/example/waymark/waymark/BackslashEscapes", "in", "(C)Z"⟩ : MethodName) (head1 (Jvm.Cond.code (⟨"com/example/waymark/waymark/BackslashEscapes", "in", "(C)Z"⟩ : MethodName) prog_6_method_4_code 2 (some .boolean) :: ws) ({ frames := 0, cells := 0, slots := 0, locals := 0 } : Room)) (fun a U => a = #[(.ref w_SINGLE_AND_DOUBLE_QUOTES), (.int (39 : Int32))] ∧ Z.Warmed39 U.vm ∧ U.heap = h0) (fun _ _ _ _ _ => True) (fun _ U o U' => ∃ v L, o = .returned v ∧ Q1_2_39 Z w_NONE w_SINGLE_QUOTES w_SINGLE_AND_DOUBLE_QUOTES h0 n0 v U'.heap L ∧ FrameEnd U o U' L ({ frames := 0, cells := 0, slots := 0, locals := 0 } : Room).cells ({ frames := 0, cells := 0, slots := 0, locals := 0 } : Room).slots) := by
  refine MetFree.of_bodySF (plainFor_of_name pn_com_example_waymark_waymark_BackslashEscapes) hisR ?_
  intro p e s m args below meth c s₁ Bd hml0 hP hK
  obtain ⟨rfl, hZ, hh⟩ := hP
  have hx := Bd.exec
  have hby := Bd.bytes
  have hlk : meth.locks = false := Bd.notSynchronized
  have hml : c.maxLocals = 2 := hml0
  have hown : s.vm.findClass "com/example/waymark/waymark/BackslashEscapes" = some m.cls := findClass_of_methodNamed Bd.named
  have hnm := (name_of_methodNamed Bd.named Bd.method).1
  have X0 : Stand p l e ({ frames := 0, cells := 0, slots := 0, locals := 0 } : Room) s m #[(.ref w_SINGLE_AND_DOUBLE_QUOTES), (.int (39 : Int32))] below meth c s₁ [] 0 0 := Stand.of_body Bd
  have e0 : s₁.heap = h0 := by rw [← hh, Bd.state]; rfl
  have N0 := Fr.nil n0
  show Go p e below (FinE s below (Q1_2_39 Z w_NONE w_SINGLE_QUOTES w_SINGLE_AND_DOUBLE_QUOTES h0 n0) ({ frames := 0, cells := 0, slots := 0, locals := 0 } : Room).cells ({ frames := 0, cells := 0, slots := 0, locals := 0 } : Room).slots) (s₁.setTop (entryFrame m #[(.ref w_SINGLE_AND_DOUBLE_QUOTES), (.int (39 : Int32))] 2))
  refine Go.via (fun t k => castTop (ef_rm1_2_39 m w_SINGLE_AND_DOUBLE_QUOTES) k) ?_
  show Go p e below _ (s₁.setTop (mkF m 0 #[.val (.ref w_SINGLE_AND_DOUBLE_QUOTES), .val (.int (39 : Int32))] []))
  refine Go.via (fun _ => XS.iloadN X0.here hx rfl (hb hby d1_0) rfl) ?_
  show Go p e below _ (s₁.setTop (mkF m 1 #[.val (.ref w_SINGLE_AND_DOUBLE_QUOTES), .val (.int (39 : Int32))] [(.int (39 : Int32))]))
  refine Go.via (fun _ => XS.bipush X0.here hx rfl (hb hby d1_1)) ?_
  show Go p e below _ (s₁.setTop (mkF m 3 #[.val (.ref w_SINGLE_AND_DOUBLE_QUOTES), .val (.int (39 : Int32))] [(.int (39 : Int32)), (.int (39 : Int32))]))
  refine Go.via (fun _ => XS.icmpNo X0.here hx rfl (hb hby d1_3) rfl (by decide)) ?_
  show Go p e below _ (s₁.setTop (mkF m 6 #[.val (.ref w_SINGLE_AND_DOUBLE_QUOTES), .val (.int (39 : Int32))] []))
  refine Go.via (fun _ => XS.aloadN X0.here hx rfl (hb hby d1_6) rfl rfl) ?_
  show Go p e below _ (s₁.setTop (mkF m 7 #[.val (.ref w_SINGLE_AND_DOUBLE_QUOTES), .val (.int (39 : Int32))] [(.ref w_SINGLE_AND_DOUBLE_QUOTES)]))
  obtain ⟨T1, X1, e1, st1⟩ := getS2 X0 hx hZ hown (host := "") (Or.inl (hw _ (List.mem_of_getElem? (i := 15) rfl))) Via.refl e0 (S_NONE.ext O0.2) (g := (mkF m 7 #[.val (.ref w_SINGLE_AND_DOUBLE_QUOTES), .val (.int (39 : Int32))] [(.ref w_SINGLE_AND_DOUBLE_QUOTES)])) rfl (hb hby d1_7)
  refine Go.via st1 ?_
  show Go p e below _ (T1.setTop (mkF m 10 #[.val (.ref w_SINGLE_AND_DOUBLE_QUOTES), .val (.int (39 : Int32))] [(.ref w_NONE), (.ref w_SINGLE_AND_DOUBLE_QUOTES)]))
  refine Go.via (fun _ => Jvm.RoadKit.acmp (g := (mkF m 10 #[.val (.ref w_SINGLE_AND_DOUBLE_QUOTES), .val (.int (39 : Int32))] [(.ref w_NONE), (.ref w_SINGLE_AND_DOUBLE_QUOTES)])) X1 hx rfl rfl rfl (pc0 := 10) (pc' := 26) (same := false) rfl (hb hby d1_10) rfl (decide_eq_false fun q => (Ne.symm ne_NONE_SINGLE_AND_DOUBLE_QUOTES) (Value.ref.inj q)) (by decide) (by decide)) ?_
  show Go p e below _ (T1.setTop (mkF m 26 #[.val (.ref w_SINGLE_AND_DOUBLE_QUOTES), .val (.int (39 : Int32))] []))
  refine Go.via (fun _ => XS.iconst X1.here hx rfl (hb hby d1_26)) ?_
  show Go p e below _ (T1.setTop (mkF m 27 #[.val (.ref w_SINGLE_AND_DOUBLE_QUOTES), .val (.int (39 : Int32))] [(.int (1 : Int32))]))
  refine Go.via (fun _ => XS.goto X1.here hx rfl (pc0 := 27) (pc' := 31) rfl (hb hby d1_27) (by decide) (by decide)) ?_
  show Go p e below _ (T1.setTop (mkF m 31 #[.val (.ref w_SINGLE_AND_DOUBLE_QUOTES), .val (.int (39 : Int32))] [(.int (1 : Int32))]))
  exact own_retN X1 hx hlk (t := .boolean) Bd.returns (by simp) (hb hby d1_31) (by show Q1_2_39 Z w_NONE w_SINGLE_QUOTES w_SINGLE_AND_DOUBLE_QUOTES h0 n0 _ T1.heap _; rw [e1]; exact ⟨rfl, N0, rfl⟩) (by decide) (by decide)
theorem ef_rm1_2_34 (m : MethodId) (x0 : Addr) : entryFrame m #[(.ref x0), (.int (34 : Int32))] 2 = mkF m 0 #[.val (.ref x0), .val (.int (34 : Int32))] [] := by first | (simp [entryFrame, mkF, argsToLocals, Value.category]; done) | rfl
def Q1_2_34 (Z : State) (w_NONE : Addr) (w_SINGLE_QUOTES : Addr) (w_SINGLE_AND_DOUBLE_QUOTES : Addr) (h0 : Heap) (n0 : Nat) (v : Option Value) (h : Heap) (L : List Loc) : Prop := v = some (.int (1 : Int32)) ∧ Fr n0 L ∧ h = h0
set_option maxRecDepth 65536 in
set_option maxHeartbeats 40000000 in
theorem rm1_2_34 (l : Launch) (Z : State) (a0 : Array Value) (hw : ∀ d ∈ tables_1, d.before a0 Z = true) (ws : List Jvm.Cond) (w_NONE : Addr) (w_SINGLE_QUOTES : Addr) (w_SINGLE_AND_DOUBLE_QUOTES : Addr) (h0 : Heap) (n0 : Nat) (Z0 : n0 ≤ h0.size) (O0 : Old Z n0 h0) (S_NONE : Sta Z Z.heap "com/example/waymark/waymark/BackslashEscapes" "NONE" "Lcom/example/waymark/waymark/BackslashEscapes;" (.ref w_NONE)) (S_SINGLE_QUOTES : Sta Z Z.heap "com/example/waymark/waymark/BackslashEscapes" "SINGLE_QUOTES" "Lcom/example/waymark/waymark/BackslashEscapes;" (.ref w_SINGLE_QUOTES)) (S_SINGLE_AND_DOUBLE_QUOTES : Sta Z Z.heap "com/example/waymark/waymark/BackslashEscapes" "SINGLE_AND_DOUBLE_QUOTES" "Lcom/example/waymark/waymark/BackslashEscapes;" (.ref w_SINGLE_AND_DOUBLE_QUOTES)) (ne_NONE_SINGLE_QUOTES : w_NONE ≠ w_SINGLE_QUOTES) (ne_NONE_SINGLE_AND_DOUBLE_QUOTES : w_NONE ≠ w_SINGLE_AND_DOUBLE_QUOTES) (ne_SINGLE_QUOTES_SINGLE_AND_DOUBLE_QUOTES : w_SINGLE_QUOTES ≠ w_SINGLE_AND_DOUBLE_QUOTES) :
    MetFree l (⟨"com/example/waymark/waymark/BackslashEscapes", "in", "(C)Z"⟩ : MethodName) (head1 (Jvm.Cond.code (⟨"com/example/waymark/waymark/BackslashEscapes", "in", "(C)Z"⟩ : MethodName) prog_6_method_4_code 2 (some .boolean) :: ws) ({ frames := 0, cells := 0, slots := 0, locals := 0 } : Room)) (fun a U => a = #[(.ref w_SINGLE_AND_DOUBLE_QUOTES), (.int (34 : Int32))] ∧ Z.Warmed39 U.vm ∧ U.heap = h0) (fun _ _ _ _ _ => True) (fun _ U o U' => ∃ v L, o = .returned v ∧ Q1_2_34 Z w_NONE w_SINGLE_QUOTES w_SINGLE_AND_DOUBLE_QUOTES h0 n0 v U'.heap L ∧ FrameEnd U o U' L ({ frames := 0, cells := 0, slots := 0, locals := 0 } : Room).cells ({ frames := 0, cells := 0, slots := 0, locals := 0 } : Room).slots) := by
  refine MetFree.of_bodySF (plainFor_of_name pn_com_example_waymark_waymark_BackslashEscapes) hisR ?_
  intro p e s m args below meth c s₁ Bd hml0 hP hK
  obtain ⟨rfl, hZ, hh⟩ := hP
  have hx := Bd.exec
  have hby := Bd.bytes
  have hlk : meth.locks = false := Bd.notSynchronized
  have hml : c.maxLocals = 2 := hml0
  have hown : s.vm.findClass "com/example/waymark/waymark/BackslashEscapes" = some m.cls := findClass_of_methodNamed Bd.named
  have hnm := (name_of_methodNamed Bd.named Bd.method).1
  have X0 : Stand p l e ({ frames := 0, cells := 0, slots := 0, locals := 0 } : Room) s m #[(.ref w_SINGLE_AND_DOUBLE_QUOTES), (.int (34 : Int32))] below meth c s₁ [] 0 0 := Stand.of_body Bd
  have e0 : s₁.heap = h0 := by rw [← hh, Bd.state]; rfl
  have N0 := Fr.nil n0
  show Go p e below (FinE s below (Q1_2_34 Z w_NONE w_SINGLE_QUOTES w_SINGLE_AND_DOUBLE_QUOTES h0 n0) ({ frames := 0, cells := 0, slots := 0, locals := 0 } : Room).cells ({ frames := 0, cells := 0, slots := 0, locals := 0 } : Room).slots) (s₁.setTop (entryFrame m #[(.ref w_SINGLE_AND_DOUBLE_QUOTES), (.int (34 : Int32))] 2))
  refine Go.via (fun t k => castTop (ef_rm1_2_34 m w_SINGLE_AND_DOUBLE_QUOTES) k) ?_
  show Go p e below _ (s₁.setTop (mkF m 0 #[.val (.ref w_SINGLE_AND_DOUBLE_QUOTES), .val (.int (34 : Int32))] []))
  refine Go.via (fun _ => XS.iloadN X0.here hx rfl (hb hby d1_0) rfl) ?_
  show Go p e below _ (s₁.setTop (mkF m 1 #[.val (.ref w_SINGLE_AND_DOUBLE_QUOTES), .val (.int (34 : Int32))] [(.int (34 : Int32))]))
  refine Go.via (fun _ => XS.bipush X0.here hx rfl (hb hby d1_1)) ?_
  show Go p e below _ (s₁.setTop (mkF m 3 #[.val (.ref w_SINGLE_AND_DOUBLE_QUOTES), .val (.int (34 : Int32))] [(.int (39 : Int32)), (.int (34 : Int32))]))
  refine Go.via (fun _ => XS.icmpYes X0.here hx rfl (pc0 := 3) (pc' := 13) rfl (hb hby d1_3) rfl (by decide) (by decide) (by decide)) ?_
  show Go p e below _ (s₁.setTop (mkF m 13 #[.val (.ref w_SINGLE_AND_DOUBLE_QUOTES), .val (.int (34 : Int32))] []))
  refine Go.via (fun _ => XS.iloadN X0.here hx rfl (hb hby d1_13) rfl) ?_
  show Go p e below _ (s₁.setTop (mkF m 14 #[.val (.ref w_SINGLE_AND_DOUBLE_QUOTES), .val (.int (34 : Int32))] [(.int (34 : Int32))]))
  refine Go.via (fun _ => XS.bipush X0.here hx rfl (hb hby d1_14)) ?_
  show Go p e below _ (s₁.setTop (mkF m 16 #[.val (.ref w_SINGLE_AND_DOUBLE_QUOTES), .val (.int (34 : Int32))] [(.int (34 : Int32)), (.int (34 : Int32))]))
  refine Go.via (fun _ => XS.icmpNo X0.here hx rfl (hb hby d1_16) rfl (by decide)) ?_
  show Go p e below _ (s₁.setTop (mkF m 19 #[.val (.ref w_SINGLE_AND_DOUBLE_QUOTES), .val (.int (34 : Int32))] []))
  refine Go.via (fun _ => XS.aloadN X0.here hx rfl (hb hby d1_19) rfl rfl) ?_
  show Go p e below _ (s₁.setTop (mkF m 20 #[.val (.ref w_SINGLE_AND_DOUBLE_QUOTES), .val (.int (34 : Int32))] [(.ref w_SINGLE_AND_DOUBLE_QUOTES)]))
  obtain ⟨T1, X1, e1, st1⟩ := getS2 X0 hx hZ hown (host := "") (Or.inl (hw _ (List.mem_of_getElem? (i := 14) rfl))) Via.refl e0 (S_SINGLE_AND_DOUBLE_QUOTES.ext O0.2) (g := (mkF m 20 #[.val (.ref w_SINGLE_AND_DOUBLE_QUOTES), .val (.int (34 : Int32))] [(.ref w_SINGLE_AND_DOUBLE_QUOTES)])) rfl (hb hby d1_20)
  refine Go.via st1 ?_
  show Go p e below _ (T1.setTop (mkF m 23 #[.val (.ref w_SINGLE_AND_DOUBLE_QUOTES), .val (.int (34 : Int32))] [(.ref w_SINGLE_AND_DOUBLE_QUOTES), (.ref w_SINGLE_AND_DOUBLE_QUOTES)]))
  refine Go.via (fun _ => Jvm.RoadKit.acmp (g := (mkF m 23 #[.val (.ref w_SINGLE_AND_DOUBLE_QUOTES), .val (.int (34 : Int32))] [(.ref w_SINGLE_AND_DOUBLE_QUOTES), (.ref w_SINGLE_AND_DOUBLE_QUOTES)])) X1 hx rfl rfl rfl (pc0 := 23) (pc' := 26) (same := true) rfl (hb hby d1_23) rfl (decide_eq_true rfl) (by decide) (by decide)) ?_
  show Go p e below _ (T1.setTop (mkF m 26 #[.val (.ref w_SINGLE_AND_DOUBLE_QUOTES), .val (.int (34 : Int32))] []))
  refine Go.via (fun _ => XS.iconst X1.here hx rfl (hb hby d1_26)) ?_
  show Go p e below _ (T1.setTop (mkF m 27 #[.val (.ref w_SINGLE_AND_DOUBLE_QUOTES), .val (.int (34 : Int32))] [(.int (1 : Int32))]))
  refine Go.via (fun _ => XS.goto X1.here hx rfl (pc0 := 27) (pc' := 31) rfl (hb hby d1_27) (by decide) (by decide)) ?_
  show Go p e below _ (T1.setTop (mkF m 31 #[.val (.ref w_SINGLE_AND_DOUBLE_QUOTES), .val (.int (34 : Int32))] [(.int (1 : Int32))]))
  exact own_retN X1 hx hlk (t := .boolean) Bd.returns (by simp) (hb hby d1_31) (by show Q1_2_34 Z w_NONE w_SINGLE_QUOTES w_SINGLE_AND_DOUBLE_QUOTES h0 n0 _ T1.heap _; rw [e1]; exact ⟨rfl, N0, rfl⟩) (by decide) (by decide)
theorem ef_rm1_2_o (m : MethodId) (x0 : Addr) (x1 : Int32) : entryFrame m #[(.ref x0), (.int x1)] 2 = mkF m 0 #[.val (.ref x0), .val (.int x1)] [] := by first | (simp [entryFrame, mkF, argsToLocals, Value.category]; done) | rfl
def Q1_2_o (Z : State) (q : Int32) (w_NONE : Addr) (w_SINGLE_QUOTES : Addr) (w_SINGLE_AND_DOUBLE_QUOTES : Addr) (h0 : Heap) (n0 : Nat) (v : Option Value) (h : Heap) (L : List Loc) : Prop := v = some (.int (0 : Int32)) ∧ Fr n0 L ∧ h = h0
set_option maxRecDepth 65536 in
set_option maxHeartbeats 40000000 in
theorem rm1_2_o (l : Launch) (Z : State) (a0 : Array Value) (hw : ∀ d ∈ tables_1, d.before a0 Z = true) (ws : List Jvm.Cond) (q : Int32) (w_NONE : Addr) (w_SINGLE_QUOTES : Addr) (w_SINGLE_AND_DOUBLE_QUOTES : Addr) (h0 : Heap) (n0 : Nat) (Z0 : n0 ≤ h0.size) (O0 : Old Z n0 h0) (S_NONE : Sta Z Z.heap "com/example/waymark/waymark/BackslashEscapes" "NONE" "Lcom/example/waymark/waymark/BackslashEscapes;" (.ref w_NONE)) (S_SINGLE_QUOTES : Sta Z Z.heap "com/example/waymark/waymark/BackslashEscapes" "SINGLE_QUOTES" "Lcom/example/waymark/waymark/BackslashEscapes;" (.ref w_SINGLE_QUOTES)) (S_SINGLE_AND_DOUBLE_QUOTES : Sta Z Z.heap "com/example/waymark/waymark/BackslashEscapes" "SINGLE_AND_DOUBLE_QUOTES" "Lcom/example/waymark/waymark/BackslashEscapes;" (.ref w_SINGLE_AND_DOUBLE_QUOTES)) (ne_NONE_SINGLE_QUOTES : w_NONE ≠ w_SINGLE_QUOTES) (ne_NONE_SINGLE_AND_DOUBLE_QUOTES : w_NONE ≠ w_SINGLE_AND_DOUBLE_QUOTES) (ne_SINGLE_QUOTES_SINGLE_AND_DOUBLE_QUOTES : w_SINGLE_QUOTES ≠ w_SINGLE_AND_DOUBLE_QUOTES) (hq39 : ¬ (q = (39 : Int32))) (hq34 : ¬ (q = (34 : Int32))) :
    MetFree l (⟨"com/example/waymark/waymark/BackslashEscapes", "in", "(C)Z"⟩ : MethodName) (head1 (Jvm.Cond.code (⟨"com/example/waymark/waymark/BackslashEscapes", "in", "(C)Z"⟩ : MethodName) prog_6_method_4_code 2 (some .boolean) :: ws) ({ frames := 0, cells := 0, slots := 0, locals := 0 } : Room)) (fun a U => a = #[(.ref w_SINGLE_AND_DOUBLE_QUOTES), (.int q)] ∧ Z.Warmed39 U.vm ∧ U.heap = h0) (fun _ _ _ _ _ => True) (fun _ U o U' => ∃ v L, o = .returned v ∧ Q1_2_o Z q w_NONE w_SINGLE_QUOTES w_SINGLE_AND_DOUBLE_QUOTES h0 n0 v U'.heap L ∧ FrameEnd U o U' L ({ frames := 0, cells := 0, slots := 0, locals := 0 } : Room).cells ({ frames := 0, cells := 0, slots := 0, locals := 0 } : Room).slots) := by
  refine MetFree.of_bodySF (plainFor_of_name pn_com_example_waymark_waymark_BackslashEscapes) hisR ?_
  intro p e s m args below meth c s₁ Bd hml0 hP hK
  obtain ⟨rfl, hZ, hh⟩ := hP
  have hx := Bd.exec
  have hby := Bd.bytes
  have hlk : meth.locks = false := Bd.notSynchronized
  have hml : c.maxLocals = 2 := hml0
  have hown : s.vm.findClass "com/example/waymark/waymark/BackslashEscapes" = some m.cls := findClass_of_methodNamed Bd.named
  have hnm := (name_of_methodNamed Bd.named Bd.method).1
  have X0 : Stand p l e ({ frames := 0, cells := 0, slots := 0, locals := 0 } : Room) s m #[(.ref w_SINGLE_AND_DOUBLE_QUOTES), (.int q)] below meth c s₁ [] 0 0 := Stand.of_body Bd
  have e0 : s₁.heap = h0 := by rw [← hh, Bd.state]; rfl
  have N0 := Fr.nil n0
  show Go p e below (FinE s below (Q1_2_o Z q w_NONE w_SINGLE_QUOTES w_SINGLE_AND_DOUBLE_QUOTES h0 n0) ({ frames := 0, cells := 0, slots := 0, locals := 0 } : Room).cells ({ frames := 0, cells := 0, slots := 0, locals := 0 } : Room).slots) (s₁.setTop (entryFrame m #[(.ref w_SINGLE_AND_DOUBLE_QUOTES), (.int q)] 2))
  refine Go.via (fun t k => castTop (ef_rm1_2_o m w_SINGLE_AND_DOUBLE_QUOTES q) k) ?_
  show Go p e below _ (s₁.setTop (mkF m 0 #[.val (.ref w_SINGLE_AND_DOUBLE_QUOTES), .val (.int q)] []))
  refine Go.via (fun _ => XS.iloadN X0.here hx rfl (hb hby d1_0) rfl) ?_
  show Go p e below _ (s₁.setTop (mkF m 1 #[.val (.ref w_SINGLE_AND_DOUBLE_QUOTES), .val (.int q)] [(.int q)]))
  refine Go.via (fun _ => XS.bipush X0.here hx rfl (hb hby d1_1)) ?_
  show Go p e below _ (s₁.setTop (mkF m 3 #[.val (.ref w_SINGLE_AND_DOUBLE_QUOTES), .val (.int q)] [(.int (39 : Int32)), (.int q)]))
  refine Go.via (fun _ => XS.icmpYes X0.here hx rfl (pc0 := 3) (pc' := 13) rfl (hb hby d1_3) rfl (feq hq39).2 (by decide) (by decide)) ?_
  show Go p e below _ (s₁.setTop (mkF m 13 #[.val (.ref w_SINGLE_AND_DOUBLE_QUOTES), .val (.int q)] []))
  refine Go.via (fun _ => XS.iloadN X0.here hx rfl (hb hby d1_13) rfl) ?_
  show Go p e below _ (s₁.setTop (mkF m 14 #[.val (.ref w_SINGLE_AND_DOUBLE_QUOTES), .val (.int q)] [(.int q)]))
  refine Go.via (fun _ => XS.bipush X0.here hx rfl (hb hby d1_14)) ?_
  show Go p e below _ (s₁.setTop (mkF m 16 #[.val (.ref w_SINGLE_AND_DOUBLE_QUOTES), .val (.int q)] [(.int (34 : Int32)), (.int q)]))
  refine Go.via (fun _ => XS.icmpYes X0.here hx rfl (pc0 := 16) (pc' := 30) rfl (hb hby d1_16) rfl (feq hq34).2 (by decide) (by decide)) ?_
  show Go p e below _ (s₁.setTop (mkF m 30 #[.val (.ref w_SINGLE_AND_DOUBLE_QUOTES), .val (.int q)] []))
  refine Go.via (fun _ => XS.iconst X0.here hx rfl (hb hby d1_30)) ?_
  show Go p e below _ (s₁.setTop (mkF m 31 #[.val (.ref w_SINGLE_AND_DOUBLE_QUOTES), .val (.int q)] [(.int (0 : Int32))]))
  exact own_retN X0 hx hlk (t := .boolean) Bd.returns (by simp) (hb hby d1_31) (by show Q1_2_o Z q w_NONE w_SINGLE_QUOTES w_SINGLE_AND_DOUBLE_QUOTES h0 n0 _ s₁.heap _; rw [e0]; exact ⟨rfl, N0, rfl⟩) (by decide) (by decide)
theorem ef_rm0 (m : MethodId) (x0 : Int32) (x1 : Int32) (x2 : Int32) : entryFrame m #[(.int x0), (.int x1), (.int x2)] maxLocals = mkF m 0 #[.val (.int x0), .val (.int x1), .val (.int x2), .unset, .unset, .unset, .unset, .unset, .unset, .unset] [] := by first | (simp [entryFrame, mkF, argsToLocals, Value.category, maxLocals]; done) | rfl
def Q0 (Z : State) (p1 : Int32) (p2 : Int32) (p3 : Int32) (w_NONE : Addr) (w_SINGLE_QUOTES : Addr) (w_SINGLE_AND_DOUBLE_QUOTES : Addr) (h0 : Heap) (n0 : Nat) (v : Option Value) (h : Heap) (L : List Loc) : Prop := v = some (.int 1) ∧ Fr n0 L
set_option maxRecDepth 65536 in
set_option maxHeartbeats 40000000 in
theorem rm0 (l : Launch) (Z : State) (a0 : Array Value) (hw : ∀ d ∈ tables_1, d.before a0 Z = true) (ws : List Jvm.Cond) (p1 : Int32) (p2 : Int32) (p3 : Int32) (w_NONE : Addr) (w_SINGLE_QUOTES : Addr) (w_SINGLE_AND_DOUBLE_QUOTES : Addr) (h0 : Heap) (n0 : Nat) (Z0 : n0 ≤ h0.size) (O0 : Old Z n0 h0) (S_NONE : Sta Z Z.heap "com/example/waymark/waymark/BackslashEscapes" "NONE" "Lcom/example/waymark/waymark/BackslashEscapes;" (.ref w_NONE)) (S_SINGLE_QUOTES : Sta Z Z.heap "com/example/waymark/waymark/BackslashEscapes" "SINGLE_QUOTES" "Lcom/example/waymark/waymark/BackslashEscapes;" (.ref w_SINGLE_QUOTES)) (S_SINGLE_AND_DOUBLE_QUOTES : Sta Z Z.heap "com/example/waymark/waymark/BackslashEscapes" "SINGLE_AND_DOUBLE_QUOTES" "Lcom/example/waymark/waymark/BackslashEscapes;" (.ref w_SINGLE_AND_DOUBLE_QUOTES)) (ne_NONE_SINGLE_QUOTES : w_NONE ≠ w_SINGLE_QUOTES) (ne_NONE_SINGLE_AND_DOUBLE_QUOTES : w_NONE ≠ w_SINGLE_AND_DOUBLE_QUOTES) (ne_SINGLE_QUOTES_SINGLE_AND_DOUBLE_QUOTES : w_SINGLE_QUOTES ≠ w_SINGLE_AND_DOUBLE_QUOTES) (E_NONE : Exa Z Z.heap w_NONE "com/example/waymark/waymark/BackslashEscapes") (E_SINGLE_QUOTES : Exa Z Z.heap w_SINGLE_QUOTES "com/example/waymark/waymark/BackslashEscapes") (E_SINGLE_AND_DOUBLE_QUOTES : Exa Z Z.heap w_SINGLE_AND_DOUBLE_QUOTES "com/example/waymark/waymark/BackslashEscapes") :
    MetFree l x (head1 (Jvm.Cond.code x code maxLocals ret :: ws) room_1) (fun a U => a = #[(.int p1), (.int p2), (.int p3)] ∧ Z.Warmed39 U.vm ∧ U.heap = h0) (fun _ _ _ _ _ => True) (fun _ U o U' => ∃ v L, o = .returned v ∧ Q0 Z p1 p2 p3 w_NONE w_SINGLE_QUOTES w_SINGLE_AND_DOUBLE_QUOTES h0 n0 v U'.heap L ∧ FrameEnd U o U' L room_1.cells room_1.slots) := by
  refine MetFree.of_bodySF (plainFor_of_name pn_com_example_waymark_waymark_BackslashEscapesInPinLaw) hisR ?_
  intro p e s m args below meth c s₁ Bd hml0 hP hK
  obtain ⟨rfl, hZ, hh⟩ := hP
  have hx := Bd.exec
  have hby := Bd.bytes
  have hlk : meth.locks = false := Bd.notSynchronized
  have hml : c.maxLocals = 10 := hml0
  have hown : s.vm.findClass "com/example/waymark/waymark/BackslashEscapesInPinLaw" = some m.cls := findClass_of_methodNamed Bd.named
  have hnm := (name_of_methodNamed Bd.named Bd.method).1
  have X0 : Stand p l e room_1 s m #[(.int p1), (.int p2), (.int p3)] below meth c s₁ [] 0 0 := Stand.of_body Bd
  have e0 : s₁.heap = h0 := by rw [← hh, Bd.state]; rfl
  have N0 := Fr.nil n0
  show Go p e below (FinE s below (Q0 Z p1 p2 p3 w_NONE w_SINGLE_QUOTES w_SINGLE_AND_DOUBLE_QUOTES h0 n0) room_1.cells room_1.slots) (s₁.setTop (entryFrame m #[(.int p1), (.int p2), (.int p3)] maxLocals))
  refine Go.via (fun t k => castTop (ef_rm0 m p1 p2 p3) k) ?_
  show Go p e below _ (s₁.setTop (mkF m 0 #[.val (.int p1), .val (.int p2), .val (.int p3), .unset, .unset, .unset, .unset, .unset, .unset, .unset] []))
  refine Go.via (fun _ => XS.iloadN X0.here hx rfl (hb hby at_0) rfl) ?_
  show Go p e below _ (s₁.setTop (mkF m 1 #[.val (.int p1), .val (.int p2), .val (.int p3), .unset, .unset, .unset, .unset, .unset, .unset, .unset] [(.int p1)]))
  refine Go.via (X0.ldcInt hx hown (mvT hZ (hw _ (List.mem_of_getElem? (i := 0) rfl))) (g := (mkF m 1 #[.val (.int p1), .val (.int p2), .val (.int p3), .unset, .unset, .unset, .unset, .unset, .unset, .unset] [(.int p1)])) rfl (hb hby at_1)) ?_
  show Go p e below _ (s₁.setTop (mkF m 3 #[.val (.int p1), .val (.int p2), .val (.int p3), .unset, .unset, .unset, .unset, .unset, .unset, .unset] [(.int (2147483647 : Int32)), (.int p1)]))
  refine Go.via (fun _ => XS.iand X0.here hx rfl (hb hby at_3) rfl) ?_
  show Go p e below _ (s₁.setTop (mkF m 4 #[.val (.int p1), .val (.int p2), .val (.int p3), .unset, .unset, .unset, .unset, .unset, .unset, .unset] [(.int (p1 &&& (2147483647 : Int32)))]))
  refine Go.via (fun _ => XS.iconst X0.here hx rfl (hb hby at_4)) ?_
  show Go p e below _ (s₁.setTop (mkF m 5 #[.val (.int p1), .val (.int p2), .val (.int p3), .unset, .unset, .unset, .unset, .unset, .unset, .unset] [(.int (3 : Int32)), (.int (p1 &&& (2147483647 : Int32)))]))
  refine Go.via (fun _ => iremM X0 hx rfl (hb hby at_5) rfl (by decide)) ?_
  show Go p e below _ (s₁.setTop (mkF m 6 #[.val (.int p1), .val (.int p2), .val (.int p3), .unset, .unset, .unset, .unset, .unset, .unset, .unset] [(.int ((p1 &&& (2147483647 : Int32)) % (3 : Int32)))]))
  generalize hk : ((p1 &&& (2147483647 : Int32)) % (3 : Int32)) = k
  show Go p e below _ (s₁.setTop (mkF m 6 #[.val (.int p1), .val (.int p2), .val (.int p3), .unset, .unset, .unset, .unset, .unset, .unset, .unset] [(.int k)]))
  refine Go.via (fun _ => XS.istoreN X0.here hx rfl (hb hby at_6) rfl (l' := #[.val (.int p1), .val (.int p2), .val (.int p3), .val (.int k), .unset, .unset, .unset, .unset, .unset, .unset]) rfl) ?_
  show Go p e below _ (s₁.setTop (mkF m 7 #[.val (.int p1), .val (.int p2), .val (.int p3), .val (.int k), .unset, .unset, .unset, .unset, .unset, .unset] []))
  refine Go.via (fun _ => XS.iloadN X0.here hx rfl (hb hby at_7) rfl) ?_
  show Go p e below _ (s₁.setTop (mkF m 8 #[.val (.int p1), .val (.int p2), .val (.int p3), .val (.int k), .unset, .unset, .unset, .unset, .unset, .unset] [(.int k)]))
  by_cases hc1 : k = (0 : Int32)
  · -- yes
    subst hc1
    show Go p e below _ (s₁.setTop (mkF m 8 #[.val (.int p1), .val (.int p2), .val (.int p3), .val (.int (0 : Int32)), .unset, .unset, .unset, .unset, .unset, .unset] [(.int (0 : Int32))]))
    show Go p e below _ (s₁.setTop (mkF m 8 #[.val (.int p1), .val (.int p2), .val (.int p3), .val (.int (0 : Int32)), .unset, .unset, .unset, .unset, .unset, .unset] [(.int (0 : Int32))]))
    refine Go.via (fun _ => XS.ifNo X0.here hx rfl (hb hby at_8) rfl (by decide)) ?_
    show Go p e below _ (s₁.setTop (mkF m 11 #[.val (.int p1), .val (.int p2), .val (.int p3), .val (.int (0 : Int32)), .unset, .unset, .unset, .unset, .unset, .unset] []))
    obtain ⟨T2, X2, e2, st2⟩ := getS2 X0 hx hZ hown (host := "") (Or.inl (hw _ (List.mem_of_getElem? (i := 1) rfl))) Via.refl e0 (S_NONE.ext O0.2) (g := (mkF m 11 #[.val (.int p1), .val (.int p2), .val (.int p3), .val (.int (0 : Int32)), .unset, .unset, .unset, .unset, .unset, .unset] [])) rfl (hb hby at_11)
    refine Go.via st2 ?_
    show Go p e below _ (T2.setTop (mkF m 14 #[.val (.int p1), .val (.int p2), .val (.int p3), .val (.int (0 : Int32)), .unset, .unset, .unset, .unset, .unset, .unset] [(.ref w_NONE)]))
    refine Go.via (fun _ => XS.astore X2.here hx rfl (hb hby at_14) rfl rfl (l' := #[.val (.int p1), .val (.int p2), .val (.int p3), .val (.int (0 : Int32)), .val (.ref w_NONE), .unset, .unset, .unset, .unset, .unset]) rfl) ?_
    show Go p e below _ (T2.setTop (mkF m 16 #[.val (.int p1), .val (.int p2), .val (.int p3), .val (.int (0 : Int32)), .val (.ref w_NONE), .unset, .unset, .unset, .unset, .unset] []))
    refine Go.via (fun _ => XS.goto X2.here hx rfl (pc0 := 16) (pc' := 37) rfl (hb hby at_16) (by decide) (by decide)) ?_
    show Go p e below _ (T2.setTop (mkF m 37 #[.val (.int p1), .val (.int p2), .val (.int p3), .val (.int (0 : Int32)), .val (.ref w_NONE), .unset, .unset, .unset, .unset, .unset] []))
    refine Go.via (fun _ => XS.iloadN X2.here hx rfl (hb hby at_37) rfl) ?_
    show Go p e below _ (T2.setTop (mkF m 38 #[.val (.int p1), .val (.int p2), .val (.int p3), .val (.int (0 : Int32)), .val (.ref w_NONE), .unset, .unset, .unset, .unset, .unset] [(.int p3)]))
    refine Go.via (fun _ => XS.iconst X2.here hx rfl (hb hby at_38)) ?_
    show Go p e below _ (T2.setTop (mkF m 39 #[.val (.int p1), .val (.int p2), .val (.int p3), .val (.int (0 : Int32)), .val (.ref w_NONE), .unset, .unset, .unset, .unset, .unset] [(.int (3 : Int32)), (.int p3)]))
    refine Go.via (fun _ => XS.iand X2.here hx rfl (hb hby at_39) rfl) ?_
    show Go p e below _ (T2.setTop (mkF m 40 #[.val (.int p1), .val (.int p2), .val (.int p3), .val (.int (0 : Int32)), .val (.ref w_NONE), .unset, .unset, .unset, .unset, .unset] [(.int (p3 &&& (3 : Int32)))]))
    generalize hss : (p3 &&& (3 : Int32)) = ss
    show Go p e below _ (T2.setTop (mkF m 40 #[.val (.int p1), .val (.int p2), .val (.int p3), .val (.int (0 : Int32)), .val (.ref w_NONE), .unset, .unset, .unset, .unset, .unset] [(.int ss)]))
    refine Go.via (fun _ => XS.istore X2.here hx rfl (hb hby at_40) rfl (l' := #[.val (.int p1), .val (.int p2), .val (.int p3), .val (.int (0 : Int32)), .val (.ref w_NONE), .val (.int ss), .unset, .unset, .unset, .unset]) rfl) ?_
    show Go p e below _ (T2.setTop (mkF m 42 #[.val (.int p1), .val (.int p2), .val (.int p3), .val (.int (0 : Int32)), .val (.ref w_NONE), .val (.int ss), .unset, .unset, .unset, .unset] []))
    refine Go.via (fun _ => XS.iload X2.here hx rfl (hb hby at_42) rfl) ?_
    show Go p e below _ (T2.setTop (mkF m 44 #[.val (.int p1), .val (.int p2), .val (.int p3), .val (.int (0 : Int32)), .val (.ref w_NONE), .val (.int ss), .unset, .unset, .unset, .unset] [(.int ss)]))
    by_cases hc3 : ss = (0 : Int32)
    · -- yes
      subst hc3
      show Go p e below _ (T2.setTop (mkF m 44 #[.val (.int p1), .val (.int p2), .val (.int p3), .val (.int (0 : Int32)), .val (.ref w_NONE), .val (.int (0 : Int32)), .unset, .unset, .unset, .unset] [(.int (0 : Int32))]))
      show Go p e below _ (T2.setTop (mkF m 44 #[.val (.int p1), .val (.int p2), .val (.int p3), .val (.int (0 : Int32)), .val (.ref w_NONE), .val (.int (0 : Int32)), .unset, .unset, .unset, .unset] [(.int (0 : Int32))]))
      refine Go.via (fun _ => XS.ifNo X2.here hx rfl (hb hby at_44) rfl (by decide)) ?_
      show Go p e below _ (T2.setTop (mkF m 47 #[.val (.int p1), .val (.int p2), .val (.int p3), .val (.int (0 : Int32)), .val (.ref w_NONE), .val (.int (0 : Int32)), .unset, .unset, .unset, .unset] []))
      refine Go.via (fun _ => XS.bipush X2.here hx rfl (hb hby at_47)) ?_
      show Go p e below _ (T2.setTop (mkF m 49 #[.val (.int p1), .val (.int p2), .val (.int p3), .val (.int (0 : Int32)), .val (.ref w_NONE), .val (.int (0 : Int32)), .unset, .unset, .unset, .unset] [(.int (39 : Int32))]))
      refine Go.via (fun _ => XS.istore X2.here hx rfl (hb hby at_49) rfl (l' := #[.val (.int p1), .val (.int p2), .val (.int p3), .val (.int (0 : Int32)), .val (.ref w_NONE), .val (.int (0 : Int32)), .val (.int (39 : Int32)), .unset, .unset, .unset]) rfl) ?_
      show Go p e below _ (T2.setTop (mkF m 51 #[.val (.int p1), .val (.int p2), .val (.int p3), .val (.int (0 : Int32)), .val (.ref w_NONE), .val (.int (0 : Int32)), .val (.int (39 : Int32)), .unset, .unset, .unset] []))
      refine Go.via (fun _ => XS.goto X2.here hx rfl (pc0 := 51) (pc' := 74) rfl (hb hby at_51) (by decide) (by decide)) ?_
      show Go p e below _ (T2.setTop (mkF m 74 #[.val (.int p1), .val (.int p2), .val (.int p3), .val (.int (0 : Int32)), .val (.ref w_NONE), .val (.int (0 : Int32)), .val (.int (39 : Int32)), .unset, .unset, .unset] []))
      refine Go.via (fun _ => XS.iload X2.here hx rfl (hb hby at_74) rfl) ?_
      show Go p e below _ (T2.setTop (mkF m 76 #[.val (.int p1), .val (.int p2), .val (.int p3), .val (.int (0 : Int32)), .val (.ref w_NONE), .val (.int (0 : Int32)), .val (.int (39 : Int32)), .unset, .unset, .unset] [(.int (39 : Int32))]))
      refine Go.via (fun _ => XS.bipush X2.here hx rfl (hb hby at_76)) ?_
      show Go p e below _ (T2.setTop (mkF m 78 #[.val (.int p1), .val (.int p2), .val (.int p3), .val (.int (0 : Int32)), .val (.ref w_NONE), .val (.int (0 : Int32)), .val (.int (39 : Int32)), .unset, .unset, .unset] [(.int (39 : Int32)), (.int (39 : Int32))]))
      refine Go.via (fun _ => XS.icmpNo X2.here hx rfl (hb hby at_78) rfl (by decide)) ?_
      show Go p e below _ (T2.setTop (mkF m 81 #[.val (.int p1), .val (.int p2), .val (.int p3), .val (.int (0 : Int32)), .val (.ref w_NONE), .val (.int (0 : Int32)), .val (.int (39 : Int32)), .unset, .unset, .unset] []))
      refine Go.via (fun _ => XS.iconst X2.here hx rfl (hb hby at_81)) ?_
      show Go p e below _ (T2.setTop (mkF m 82 #[.val (.int p1), .val (.int p2), .val (.int p3), .val (.int (0 : Int32)), .val (.ref w_NONE), .val (.int (0 : Int32)), .val (.int (39 : Int32)), .unset, .unset, .unset] [(.int (1 : Int32))]))
      refine Go.via (fun _ => XS.goto X2.here hx rfl (pc0 := 82) (pc' := 86) rfl (hb hby at_82) (by decide) (by decide)) ?_
      show Go p e below _ (T2.setTop (mkF m 86 #[.val (.int p1), .val (.int p2), .val (.int p3), .val (.int (0 : Int32)), .val (.ref w_NONE), .val (.int (0 : Int32)), .val (.int (39 : Int32)), .unset, .unset, .unset] [(.int (1 : Int32))]))
      refine Go.via (fun _ => XS.istore X2.here hx rfl (hb hby at_86) rfl (l' := #[.val (.int p1), .val (.int p2), .val (.int p3), .val (.int (0 : Int32)), .val (.ref w_NONE), .val (.int (0 : Int32)), .val (.int (39 : Int32)), .val (.int (1 : Int32)), .unset, .unset]) rfl) ?_
      show Go p e below _ (T2.setTop (mkF m 88 #[.val (.int p1), .val (.int p2), .val (.int p3), .val (.int (0 : Int32)), .val (.ref w_NONE), .val (.int (0 : Int32)), .val (.int (39 : Int32)), .val (.int (1 : Int32)), .unset, .unset] []))
      refine Go.via (fun _ => XS.iload X2.here hx rfl (hb hby at_88) rfl) ?_
      show Go p e below _ (T2.setTop (mkF m 90 #[.val (.int p1), .val (.int p2), .val (.int p3), .val (.int (0 : Int32)), .val (.ref w_NONE), .val (.int (0 : Int32)), .val (.int (39 : Int32)), .val (.int (1 : Int32)), .unset, .unset] [(.int (39 : Int32))]))
      refine Go.via (fun _ => XS.bipush X2.here hx rfl (hb hby at_90)) ?_
      show Go p e below _ (T2.setTop (mkF m 92 #[.val (.int p1), .val (.int p2), .val (.int p3), .val (.int (0 : Int32)), .val (.ref w_NONE), .val (.int (0 : Int32)), .val (.int (39 : Int32)), .val (.int (1 : Int32)), .unset, .unset] [(.int (34 : Int32)), (.int (39 : Int32))]))
      refine Go.via (fun _ => XS.icmpYes X2.here hx rfl (pc0 := 92) (pc' := 99) rfl (hb hby at_92) rfl (by decide) (by decide) (by decide)) ?_
      show Go p e below _ (T2.setTop (mkF m 99 #[.val (.int p1), .val (.int p2), .val (.int p3), .val (.int (0 : Int32)), .val (.ref w_NONE), .val (.int (0 : Int32)), .val (.int (39 : Int32)), .val (.int (1 : Int32)), .unset, .unset] []))
      refine Go.via (fun _ => XS.iconst X2.here hx rfl (hb hby at_99)) ?_
      show Go p e below _ (T2.setTop (mkF m 100 #[.val (.int p1), .val (.int p2), .val (.int p3), .val (.int (0 : Int32)), .val (.ref w_NONE), .val (.int (0 : Int32)), .val (.int (39 : Int32)), .val (.int (1 : Int32)), .unset, .unset] [(.int (0 : Int32))]))
      refine Go.via (fun _ => XS.istore X2.here hx rfl (hb hby at_100) rfl (l' := #[.val (.int p1), .val (.int p2), .val (.int p3), .val (.int (0 : Int32)), .val (.ref w_NONE), .val (.int (0 : Int32)), .val (.int (39 : Int32)), .val (.int (1 : Int32)), .val (.int (0 : Int32)), .unset]) rfl) ?_
      show Go p e below _ (T2.setTop (mkF m 102 #[.val (.int p1), .val (.int p2), .val (.int p3), .val (.int (0 : Int32)), .val (.ref w_NONE), .val (.int (0 : Int32)), .val (.int (39 : Int32)), .val (.int (1 : Int32)), .val (.int (0 : Int32)), .unset] []))
      refine Go.via (fun _ => XS.iloadN X2.here hx rfl (hb hby at_102) rfl) ?_
      show Go p e below _ (T2.setTop (mkF m 103 #[.val (.int p1), .val (.int p2), .val (.int p3), .val (.int (0 : Int32)), .val (.ref w_NONE), .val (.int (0 : Int32)), .val (.int (39 : Int32)), .val (.int (1 : Int32)), .val (.int (0 : Int32)), .unset] [(.int (0 : Int32))]))
      refine Go.via (fun _ => XS.ifNo X2.here hx rfl (hb hby at_103) rfl (by decide)) ?_
      show Go p e below _ (T2.setTop (mkF m 106 #[.val (.int p1), .val (.int p2), .val (.int p3), .val (.int (0 : Int32)), .val (.ref w_NONE), .val (.int (0 : Int32)), .val (.int (39 : Int32)), .val (.int (1 : Int32)), .val (.int (0 : Int32)), .unset] []))
      refine Go.via (fun _ => XS.iconst X2.here hx rfl (hb hby at_106)) ?_
      show Go p e below _ (T2.setTop (mkF m 107 #[.val (.int p1), .val (.int p2), .val (.int p3), .val (.int (0 : Int32)), .val (.ref w_NONE), .val (.int (0 : Int32)), .val (.int (39 : Int32)), .val (.int (1 : Int32)), .val (.int (0 : Int32)), .unset] [(.int (0 : Int32))]))
      refine Go.via (fun _ => XS.istore X2.here hx rfl (hb hby at_107) rfl (l' := #[.val (.int p1), .val (.int p2), .val (.int p3), .val (.int (0 : Int32)), .val (.ref w_NONE), .val (.int (0 : Int32)), .val (.int (39 : Int32)), .val (.int (1 : Int32)), .val (.int (0 : Int32)), .val (.int (0 : Int32))]) rfl) ?_
      show Go p e below _ (T2.setTop (mkF m 109 #[.val (.int p1), .val (.int p2), .val (.int p3), .val (.int (0 : Int32)), .val (.ref w_NONE), .val (.int (0 : Int32)), .val (.int (39 : Int32)), .val (.int (1 : Int32)), .val (.int (0 : Int32)), .val (.int (0 : Int32))] []))
      refine Go.via (fun _ => XS.goto X2.here hx rfl (pc0 := 109) (pc' := 141) rfl (hb hby at_109) (by decide) (by decide)) ?_
      show Go p e below _ (T2.setTop (mkF m 141 #[.val (.int p1), .val (.int p2), .val (.int p3), .val (.int (0 : Int32)), .val (.ref w_NONE), .val (.int (0 : Int32)), .val (.int (39 : Int32)), .val (.int (1 : Int32)), .val (.int (0 : Int32)), .val (.int (0 : Int32))] []))
      refine Go.via (fun _ => XS.aload X2.here hx rfl (hb hby at_141) rfl rfl) ?_
      show Go p e below _ (T2.setTop (mkF m 143 #[.val (.int p1), .val (.int p2), .val (.int p3), .val (.int (0 : Int32)), .val (.ref w_NONE), .val (.int (0 : Int32)), .val (.int (39 : Int32)), .val (.int (1 : Int32)), .val (.int (0 : Int32)), .val (.int (0 : Int32))] [(.ref w_NONE)]))
      refine Go.via (fun _ => XS.iload X2.here hx rfl (hb hby at_143) rfl) ?_
      show Go p e below _ (T2.setTop (mkF m 145 #[.val (.int p1), .val (.int p2), .val (.int p3), .val (.int (0 : Int32)), .val (.ref w_NONE), .val (.int (0 : Int32)), .val (.int (39 : Int32)), .val (.int (1 : Int32)), .val (.int (0 : Int32)), .val (.int (0 : Int32))] [(.int (39 : Int32)), (.ref w_NONE)]))
      obtain ⟨cq4, kq4, q4a, q4b, q4c⟩ := isOf hZ e2 (E_NONE.ext O0.2)
      obtain ⟨_, _, ⟨T4, L4, k4, n4⟩, -, X4, ⟨Lc4, hQ4, l4, y4, z4⟩, st4⟩ := X2.virtualBack hx (y := (⟨"com/example/waymark/waymark/BackslashEscapes", "in", "(C)Z"⟩ : MethodName)) (z := (⟨"com/example/waymark/waymark/BackslashEscapes", "in", "(C)Z"⟩ : MethodName)) hown (mvT hZ (hw _ (List.mem_of_getElem? (i := 5) rfl))) (mvT hZ (hw _ (List.mem_of_getElem? (i := 6) rfl))) (notFace_of_selects (args := #[]) (mvT hZ (hw _ (List.mem_of_getElem? (i := 8) rfl)))) (mvT hZ (hw _ (List.mem_of_getElem? (i := 8) rfl))) (mvT hZ (hw _ (List.mem_of_getElem? (i := 7) rfl))) (by decide) (backOf (W := 0) (rm1_0_39 l Z a0 hw []  w_NONE w_SINGLE_QUOTES w_SINGLE_AND_DOUBLE_QUOTES h0 n0 Z0 O0 S_NONE S_SINGLE_QUOTES S_SINGLE_AND_DOUBLE_QUOTES ne_NONE_SINGLE_QUOTES ne_NONE_SINGLE_AND_DOUBLE_QUOTES ne_SINGLE_QUOTES_SINGLE_AND_DOUBLE_QUOTES ) hZ (hw _ (List.mem_of_getElem? (i := 9) rfl)) (hw _ (List.mem_of_getElem? (i := 2) rfl)) (by decide) (by decide)) q4a q4c (g := (mkF m 145 #[.val (.int p1), .val (.int p2), .val (.int p3), .val (.int (0 : Int32)), .val (.ref w_NONE), .val (.int (0 : Int32)), .val (.int (39 : Int32)), .val (.int (1 : Int32)), .val (.int (0 : Int32)), .val (.int (0 : Int32))] [(.int (39 : Int32)), (.ref w_NONE)])) rfl (by rw [hml]; rfl) (Steps.refl _) (argsL := [(.int (39 : Int32))]) (rest := []) (lenOf pd_0 rfl) rfl (by show 2 * 0 + _ ≤ _; exact Nat.le_of_eq rfl) (hb hby at_145) (fun _ _ => ⟨rfl, e2, (by decide : 0 + 0 ≤ _), (by decide : 0 + 0 ≤ _)⟩)
      dsimp only [Pt.U, Pt.locs, Pt.cells, Pt.slots] at X4 l4 y4 z4 st4 hQ4
      subst l4 y4 z4
      obtain ⟨rfl, N4q, e4q⟩ := hQ4
      have N4 := Fr.app N0 N4q
      refine Go.tr st4 ?_
      show Go p e below _ (T4.setTop (mkF m 148 #[.val (.int p1), .val (.int p2), .val (.int p3), .val (.int (0 : Int32)), .val (.ref w_NONE), .val (.int (0 : Int32)), .val (.int (39 : Int32)), .val (.int (1 : Int32)), .val (.int (0 : Int32)), .val (.int (0 : Int32))] [(.int (0 : Int32))]))
      refine Go.via (fun _ => XS.iload X4.here hx rfl (hb hby at_148) rfl) ?_
      show Go p e below _ (T4.setTop (mkF m 150 #[.val (.int p1), .val (.int p2), .val (.int p3), .val (.int (0 : Int32)), .val (.ref w_NONE), .val (.int (0 : Int32)), .val (.int (39 : Int32)), .val (.int (1 : Int32)), .val (.int (0 : Int32)), .val (.int (0 : Int32))] [(.int (0 : Int32)), (.int (0 : Int32))]))
      refine Go.via (fun _ => XS.icmpNo X4.here hx rfl (hb hby at_150) rfl (by decide)) ?_
      show Go p e below _ (T4.setTop (mkF m 153 #[.val (.int p1), .val (.int p2), .val (.int p3), .val (.int (0 : Int32)), .val (.ref w_NONE), .val (.int (0 : Int32)), .val (.int (39 : Int32)), .val (.int (1 : Int32)), .val (.int (0 : Int32)), .val (.int (0 : Int32))] []))
      refine Go.via (fun _ => XS.iconst X4.here hx rfl (hb hby at_153)) ?_
      show Go p e below _ (T4.setTop (mkF m 154 #[.val (.int p1), .val (.int p2), .val (.int p3), .val (.int (0 : Int32)), .val (.ref w_NONE), .val (.int (0 : Int32)), .val (.int (39 : Int32)), .val (.int (1 : Int32)), .val (.int (0 : Int32)), .val (.int (0 : Int32))] [(.int (1 : Int32))]))
      refine Go.via (fun _ => XS.goto X4.here hx rfl (pc0 := 154) (pc' := 158) rfl (hb hby at_154) (by decide) (by decide)) ?_
      show Go p e below _ (T4.setTop (mkF m 158 #[.val (.int p1), .val (.int p2), .val (.int p3), .val (.int (0 : Int32)), .val (.ref w_NONE), .val (.int (0 : Int32)), .val (.int (39 : Int32)), .val (.int (1 : Int32)), .val (.int (0 : Int32)), .val (.int (0 : Int32))] [(.int (1 : Int32))]))
      exact own_retN X4 hx hlk (t := .boolean) Bd.returns (by simp) (hb hby at_158) (by show Q0 Z p1 p2 p3 w_NONE w_SINGLE_QUOTES w_SINGLE_AND_DOUBLE_QUOTES h0 n0 _ T4.heap _; rw [e4q]; exact ⟨rfl, N4⟩) (by decide) (by decide)
    · -- no
      show Go p e below _ (T2.setTop (mkF m 44 #[.val (.int p1), .val (.int p2), .val (.int p3), .val (.int (0 : Int32)), .val (.ref w_NONE), .val (.int ss), .unset, .unset, .unset, .unset] [(.int ss)]))
      show Go p e below _ (T2.setTop (mkF m 44 #[.val (.int p1), .val (.int p2), .val (.int p3), .val (.int (0 : Int32)), .val (.ref w_NONE), .val (.int ss), .unset, .unset, .unset, .unset] [(.int ss)]))
      refine Go.via (fun _ => XS.ifYes X2.here hx rfl (pc0 := 44) (pc' := 54) rfl (hb hby at_44) rfl ((if0 _ _).trans (feq hc3).2) (by decide) (by decide)) ?_
      show Go p e below _ (T2.setTop (mkF m 54 #[.val (.int p1), .val (.int p2), .val (.int p3), .val (.int (0 : Int32)), .val (.ref w_NONE), .val (.int ss), .unset, .unset, .unset, .unset] []))
      refine Go.via (fun _ => XS.iload X2.here hx rfl (hb hby at_54) rfl) ?_
      show Go p e below _ (T2.setTop (mkF m 56 #[.val (.int p1), .val (.int p2), .val (.int p3), .val (.int (0 : Int32)), .val (.ref w_NONE), .val (.int ss), .unset, .unset, .unset, .unset] [(.int ss)]))
      refine Go.via (fun _ => XS.iconst X2.here hx rfl (hb hby at_56)) ?_
      show Go p e below _ (T2.setTop (mkF m 57 #[.val (.int p1), .val (.int p2), .val (.int p3), .val (.int (0 : Int32)), .val (.ref w_NONE), .val (.int ss), .unset, .unset, .unset, .unset] [(.int (1 : Int32)), (.int ss)]))
      by_cases hc5 : ss = (1 : Int32)
      · -- yes
        subst hc5
        show Go p e below _ (T2.setTop (mkF m 57 #[.val (.int p1), .val (.int p2), .val (.int p3), .val (.int (0 : Int32)), .val (.ref w_NONE), .val (.int (1 : Int32)), .unset, .unset, .unset, .unset] [(.int (1 : Int32)), (.int (1 : Int32))]))
        show Go p e below _ (T2.setTop (mkF m 57 #[.val (.int p1), .val (.int p2), .val (.int p3), .val (.int (0 : Int32)), .val (.ref w_NONE), .val (.int (1 : Int32)), .unset, .unset, .unset, .unset] [(.int (1 : Int32)), (.int (1 : Int32))]))
        refine Go.via (fun _ => XS.icmpNo X2.here hx rfl (hb hby at_57) rfl (by decide)) ?_
        show Go p e below _ (T2.setTop (mkF m 60 #[.val (.int p1), .val (.int p2), .val (.int p3), .val (.int (0 : Int32)), .val (.ref w_NONE), .val (.int (1 : Int32)), .unset, .unset, .unset, .unset] []))
        refine Go.via (fun _ => XS.bipush X2.here hx rfl (hb hby at_60)) ?_
        show Go p e below _ (T2.setTop (mkF m 62 #[.val (.int p1), .val (.int p2), .val (.int p3), .val (.int (0 : Int32)), .val (.ref w_NONE), .val (.int (1 : Int32)), .unset, .unset, .unset, .unset] [(.int (34 : Int32))]))
        refine Go.via (fun _ => XS.istore X2.here hx rfl (hb hby at_62) rfl (l' := #[.val (.int p1), .val (.int p2), .val (.int p3), .val (.int (0 : Int32)), .val (.ref w_NONE), .val (.int (1 : Int32)), .val (.int (34 : Int32)), .unset, .unset, .unset]) rfl) ?_
        show Go p e below _ (T2.setTop (mkF m 64 #[.val (.int p1), .val (.int p2), .val (.int p3), .val (.int (0 : Int32)), .val (.ref w_NONE), .val (.int (1 : Int32)), .val (.int (34 : Int32)), .unset, .unset, .unset] []))
        refine Go.via (fun _ => XS.goto X2.here hx rfl (pc0 := 64) (pc' := 74) rfl (hb hby at_64) (by decide) (by decide)) ?_
        show Go p e below _ (T2.setTop (mkF m 74 #[.val (.int p1), .val (.int p2), .val (.int p3), .val (.int (0 : Int32)), .val (.ref w_NONE), .val (.int (1 : Int32)), .val (.int (34 : Int32)), .unset, .unset, .unset] []))
        refine Go.via (fun _ => XS.iload X2.here hx rfl (hb hby at_74) rfl) ?_
        show Go p e below _ (T2.setTop (mkF m 76 #[.val (.int p1), .val (.int p2), .val (.int p3), .val (.int (0 : Int32)), .val (.ref w_NONE), .val (.int (1 : Int32)), .val (.int (34 : Int32)), .unset, .unset, .unset] [(.int (34 : Int32))]))
        refine Go.via (fun _ => XS.bipush X2.here hx rfl (hb hby at_76)) ?_
        show Go p e below _ (T2.setTop (mkF m 78 #[.val (.int p1), .val (.int p2), .val (.int p3), .val (.int (0 : Int32)), .val (.ref w_NONE), .val (.int (1 : Int32)), .val (.int (34 : Int32)), .unset, .unset, .unset] [(.int (39 : Int32)), (.int (34 : Int32))]))
        refine Go.via (fun _ => XS.icmpYes X2.here hx rfl (pc0 := 78) (pc' := 85) rfl (hb hby at_78) rfl (by decide) (by decide) (by decide)) ?_
        show Go p e below _ (T2.setTop (mkF m 85 #[.val (.int p1), .val (.int p2), .val (.int p3), .val (.int (0 : Int32)), .val (.ref w_NONE), .val (.int (1 : Int32)), .val (.int (34 : Int32)), .unset, .unset, .unset] []))
        refine Go.via (fun _ => XS.iconst X2.here hx rfl (hb hby at_85)) ?_
        show Go p e below _ (T2.setTop (mkF m 86 #[.val (.int p1), .val (.int p2), .val (.int p3), .val (.int (0 : Int32)), .val (.ref w_NONE), .val (.int (1 : Int32)), .val (.int (34 : Int32)), .unset, .unset, .unset] [(.int (0 : Int32))]))
        refine Go.via (fun _ => XS.istore X2.here hx rfl (hb hby at_86) rfl (l' := #[.val (.int p1), .val (.int p2), .val (.int p3), .val (.int (0 : Int32)), .val (.ref w_NONE), .val (.int (1 : Int32)), .val (.int (34 : Int32)), .val (.int (0 : Int32)), .unset, .unset]) rfl) ?_
        show Go p e below _ (T2.setTop (mkF m 88 #[.val (.int p1), .val (.int p2), .val (.int p3), .val (.int (0 : Int32)), .val (.ref w_NONE), .val (.int (1 : Int32)), .val (.int (34 : Int32)), .val (.int (0 : Int32)), .unset, .unset] []))
        refine Go.via (fun _ => XS.iload X2.here hx rfl (hb hby at_88) rfl) ?_
        show Go p e below _ (T2.setTop (mkF m 90 #[.val (.int p1), .val (.int p2), .val (.int p3), .val (.int (0 : Int32)), .val (.ref w_NONE), .val (.int (1 : Int32)), .val (.int (34 : Int32)), .val (.int (0 : Int32)), .unset, .unset] [(.int (34 : Int32))]))
        refine Go.via (fun _ => XS.bipush X2.here hx rfl (hb hby at_90)) ?_
        show Go p e below _ (T2.setTop (mkF m 92 #[.val (.int p1), .val (.int p2), .val (.int p3), .val (.int (0 : Int32)), .val (.ref w_NONE), .val (.int (1 : Int32)), .val (.int (34 : Int32)), .val (.int (0 : Int32)), .unset, .unset] [(.int (34 : Int32)), (.int (34 : Int32))]))
        refine Go.via (fun _ => XS.icmpNo X2.here hx rfl (hb hby at_92) rfl (by decide)) ?_
        show Go p e below _ (T2.setTop (mkF m 95 #[.val (.int p1), .val (.int p2), .val (.int p3), .val (.int (0 : Int32)), .val (.ref w_NONE), .val (.int (1 : Int32)), .val (.int (34 : Int32)), .val (.int (0 : Int32)), .unset, .unset] []))
        refine Go.via (fun _ => XS.iconst X2.here hx rfl (hb hby at_95)) ?_
        show Go p e below _ (T2.setTop (mkF m 96 #[.val (.int p1), .val (.int p2), .val (.int p3), .val (.int (0 : Int32)), .val (.ref w_NONE), .val (.int (1 : Int32)), .val (.int (34 : Int32)), .val (.int (0 : Int32)), .unset, .unset] [(.int (1 : Int32))]))
        refine Go.via (fun _ => XS.goto X2.here hx rfl (pc0 := 96) (pc' := 100) rfl (hb hby at_96) (by decide) (by decide)) ?_
        show Go p e below _ (T2.setTop (mkF m 100 #[.val (.int p1), .val (.int p2), .val (.int p3), .val (.int (0 : Int32)), .val (.ref w_NONE), .val (.int (1 : Int32)), .val (.int (34 : Int32)), .val (.int (0 : Int32)), .unset, .unset] [(.int (1 : Int32))]))
        refine Go.via (fun _ => XS.istore X2.here hx rfl (hb hby at_100) rfl (l' := #[.val (.int p1), .val (.int p2), .val (.int p3), .val (.int (0 : Int32)), .val (.ref w_NONE), .val (.int (1 : Int32)), .val (.int (34 : Int32)), .val (.int (0 : Int32)), .val (.int (1 : Int32)), .unset]) rfl) ?_
        show Go p e below _ (T2.setTop (mkF m 102 #[.val (.int p1), .val (.int p2), .val (.int p3), .val (.int (0 : Int32)), .val (.ref w_NONE), .val (.int (1 : Int32)), .val (.int (34 : Int32)), .val (.int (0 : Int32)), .val (.int (1 : Int32)), .unset] []))
        refine Go.via (fun _ => XS.iloadN X2.here hx rfl (hb hby at_102) rfl) ?_
        show Go p e below _ (T2.setTop (mkF m 103 #[.val (.int p1), .val (.int p2), .val (.int p3), .val (.int (0 : Int32)), .val (.ref w_NONE), .val (.int (1 : Int32)), .val (.int (34 : Int32)), .val (.int (0 : Int32)), .val (.int (1 : Int32)), .unset] [(.int (0 : Int32))]))
        refine Go.via (fun _ => XS.ifNo X2.here hx rfl (hb hby at_103) rfl (by decide)) ?_
        show Go p e below _ (T2.setTop (mkF m 106 #[.val (.int p1), .val (.int p2), .val (.int p3), .val (.int (0 : Int32)), .val (.ref w_NONE), .val (.int (1 : Int32)), .val (.int (34 : Int32)), .val (.int (0 : Int32)), .val (.int (1 : Int32)), .unset] []))
        refine Go.via (fun _ => XS.iconst X2.here hx rfl (hb hby at_106)) ?_
        show Go p e below _ (T2.setTop (mkF m 107 #[.val (.int p1), .val (.int p2), .val (.int p3), .val (.int (0 : Int32)), .val (.ref w_NONE), .val (.int (1 : Int32)), .val (.int (34 : Int32)), .val (.int (0 : Int32)), .val (.int (1 : Int32)), .unset] [(.int (0 : Int32))]))
        refine Go.via (fun _ => XS.istore X2.here hx rfl (hb hby at_107) rfl (l' := #[.val (.int p1), .val (.int p2), .val (.int p3), .val (.int (0 : Int32)), .val (.ref w_NONE), .val (.int (1 : Int32)), .val (.int (34 : Int32)), .val (.int (0 : Int32)), .val (.int (1 : Int32)), .val (.int (0 : Int32))]) rfl) ?_
        show Go p e below _ (T2.setTop (mkF m 109 #[.val (.int p1), .val (.int p2), .val (.int p3), .val (.int (0 : Int32)), .val (.ref w_NONE), .val (.int (1 : Int32)), .val (.int (34 : Int32)), .val (.int (0 : Int32)), .val (.int (1 : Int32)), .val (.int (0 : Int32))] []))
        refine Go.via (fun _ => XS.goto X2.here hx rfl (pc0 := 109) (pc' := 141) rfl (hb hby at_109) (by decide) (by decide)) ?_
        show Go p e below _ (T2.setTop (mkF m 141 #[.val (.int p1), .val (.int p2), .val (.int p3), .val (.int (0 : Int32)), .val (.ref w_NONE), .val (.int (1 : Int32)), .val (.int (34 : Int32)), .val (.int (0 : Int32)), .val (.int (1 : Int32)), .val (.int (0 : Int32))] []))
        refine Go.via (fun _ => XS.aload X2.here hx rfl (hb hby at_141) rfl rfl) ?_
        show Go p e below _ (T2.setTop (mkF m 143 #[.val (.int p1), .val (.int p2), .val (.int p3), .val (.int (0 : Int32)), .val (.ref w_NONE), .val (.int (1 : Int32)), .val (.int (34 : Int32)), .val (.int (0 : Int32)), .val (.int (1 : Int32)), .val (.int (0 : Int32))] [(.ref w_NONE)]))
        refine Go.via (fun _ => XS.iload X2.here hx rfl (hb hby at_143) rfl) ?_
        show Go p e below _ (T2.setTop (mkF m 145 #[.val (.int p1), .val (.int p2), .val (.int p3), .val (.int (0 : Int32)), .val (.ref w_NONE), .val (.int (1 : Int32)), .val (.int (34 : Int32)), .val (.int (0 : Int32)), .val (.int (1 : Int32)), .val (.int (0 : Int32))] [(.int (34 : Int32)), (.ref w_NONE)]))
        obtain ⟨cq6, kq6, q6a, q6b, q6c⟩ := isOf hZ e2 (E_NONE.ext O0.2)
        obtain ⟨_, _, ⟨T6, L6, k6, n6⟩, -, X6, ⟨Lc6, hQ6, l6, y6, z6⟩, st6⟩ := X2.virtualBack hx (y := (⟨"com/example/waymark/waymark/BackslashEscapes", "in", "(C)Z"⟩ : MethodName)) (z := (⟨"com/example/waymark/waymark/BackslashEscapes", "in", "(C)Z"⟩ : MethodName)) hown (mvT hZ (hw _ (List.mem_of_getElem? (i := 5) rfl))) (mvT hZ (hw _ (List.mem_of_getElem? (i := 6) rfl))) (notFace_of_selects (args := #[]) (mvT hZ (hw _ (List.mem_of_getElem? (i := 8) rfl)))) (mvT hZ (hw _ (List.mem_of_getElem? (i := 8) rfl))) (mvT hZ (hw _ (List.mem_of_getElem? (i := 7) rfl))) (by decide) (backOf (W := 0) (rm1_0_34 l Z a0 hw []  w_NONE w_SINGLE_QUOTES w_SINGLE_AND_DOUBLE_QUOTES h0 n0 Z0 O0 S_NONE S_SINGLE_QUOTES S_SINGLE_AND_DOUBLE_QUOTES ne_NONE_SINGLE_QUOTES ne_NONE_SINGLE_AND_DOUBLE_QUOTES ne_SINGLE_QUOTES_SINGLE_AND_DOUBLE_QUOTES ) hZ (hw _ (List.mem_of_getElem? (i := 9) rfl)) (hw _ (List.mem_of_getElem? (i := 2) rfl)) (by decide) (by decide)) q6a q6c (g := (mkF m 145 #[.val (.int p1), .val (.int p2), .val (.int p3), .val (.int (0 : Int32)), .val (.ref w_NONE), .val (.int (1 : Int32)), .val (.int (34 : Int32)), .val (.int (0 : Int32)), .val (.int (1 : Int32)), .val (.int (0 : Int32))] [(.int (34 : Int32)), (.ref w_NONE)])) rfl (by rw [hml]; rfl) (Steps.refl _) (argsL := [(.int (34 : Int32))]) (rest := []) (lenOf pd_0 rfl) rfl (by show 2 * 0 + _ ≤ _; exact Nat.le_of_eq rfl) (hb hby at_145) (fun _ _ => ⟨rfl, e2, (by decide : 0 + 0 ≤ _), (by decide : 0 + 0 ≤ _)⟩)
        dsimp only [Pt.U, Pt.locs, Pt.cells, Pt.slots] at X6 l6 y6 z6 st6 hQ6
        subst l6 y6 z6
        obtain ⟨rfl, N6q, e6q⟩ := hQ6
        have N6 := Fr.app N0 N6q
        refine Go.tr st6 ?_
        show Go p e below _ (T6.setTop (mkF m 148 #[.val (.int p1), .val (.int p2), .val (.int p3), .val (.int (0 : Int32)), .val (.ref w_NONE), .val (.int (1 : Int32)), .val (.int (34 : Int32)), .val (.int (0 : Int32)), .val (.int (1 : Int32)), .val (.int (0 : Int32))] [(.int (0 : Int32))]))
        refine Go.via (fun _ => XS.iload X6.here hx rfl (hb hby at_148) rfl) ?_
        show Go p e below _ (T6.setTop (mkF m 150 #[.val (.int p1), .val (.int p2), .val (.int p3), .val (.int (0 : Int32)), .val (.ref w_NONE), .val (.int (1 : Int32)), .val (.int (34 : Int32)), .val (.int (0 : Int32)), .val (.int (1 : Int32)), .val (.int (0 : Int32))] [(.int (0 : Int32)), (.int (0 : Int32))]))
        refine Go.via (fun _ => XS.icmpNo X6.here hx rfl (hb hby at_150) rfl (by decide)) ?_
        show Go p e below _ (T6.setTop (mkF m 153 #[.val (.int p1), .val (.int p2), .val (.int p3), .val (.int (0 : Int32)), .val (.ref w_NONE), .val (.int (1 : Int32)), .val (.int (34 : Int32)), .val (.int (0 : Int32)), .val (.int (1 : Int32)), .val (.int (0 : Int32))] []))
        refine Go.via (fun _ => XS.iconst X6.here hx rfl (hb hby at_153)) ?_
        show Go p e below _ (T6.setTop (mkF m 154 #[.val (.int p1), .val (.int p2), .val (.int p3), .val (.int (0 : Int32)), .val (.ref w_NONE), .val (.int (1 : Int32)), .val (.int (34 : Int32)), .val (.int (0 : Int32)), .val (.int (1 : Int32)), .val (.int (0 : Int32))] [(.int (1 : Int32))]))
        refine Go.via (fun _ => XS.goto X6.here hx rfl (pc0 := 154) (pc' := 158) rfl (hb hby at_154) (by decide) (by decide)) ?_
        show Go p e below _ (T6.setTop (mkF m 158 #[.val (.int p1), .val (.int p2), .val (.int p3), .val (.int (0 : Int32)), .val (.ref w_NONE), .val (.int (1 : Int32)), .val (.int (34 : Int32)), .val (.int (0 : Int32)), .val (.int (1 : Int32)), .val (.int (0 : Int32))] [(.int (1 : Int32))]))
        exact own_retN X6 hx hlk (t := .boolean) Bd.returns (by simp) (hb hby at_158) (by show Q0 Z p1 p2 p3 w_NONE w_SINGLE_QUOTES w_SINGLE_AND_DOUBLE_QUOTES h0 n0 _ T6.heap _; rw [e6q]; exact ⟨rfl, N6⟩) (by decide) (by decide)
      · -- no
        show Go p e below _ (T2.setTop (mkF m 57 #[.val (.int p1), .val (.int p2), .val (.int p3), .val (.int (0 : Int32)), .val (.ref w_NONE), .val (.int ss), .unset, .unset, .unset, .unset] [(.int (1 : Int32)), (.int ss)]))
        show Go p e below _ (T2.setTop (mkF m 57 #[.val (.int p1), .val (.int p2), .val (.int p3), .val (.int (0 : Int32)), .val (.ref w_NONE), .val (.int ss), .unset, .unset, .unset, .unset] [(.int (1 : Int32)), (.int ss)]))
        refine Go.via (fun _ => XS.icmpYes X2.here hx rfl (pc0 := 57) (pc' := 67) rfl (hb hby at_57) rfl (feq hc5).2 (by decide) (by decide)) ?_
        show Go p e below _ (T2.setTop (mkF m 67 #[.val (.int p1), .val (.int p2), .val (.int p3), .val (.int (0 : Int32)), .val (.ref w_NONE), .val (.int ss), .unset, .unset, .unset, .unset] []))
        refine Go.via (fun _ => XS.iloadN X2.here hx rfl (hb hby at_67) rfl) ?_
        show Go p e below _ (T2.setTop (mkF m 68 #[.val (.int p1), .val (.int p2), .val (.int p3), .val (.int (0 : Int32)), .val (.ref w_NONE), .val (.int ss), .unset, .unset, .unset, .unset] [(.int p2)]))
        refine Go.via (X2.ldcInt hx hown (mvT hZ (hw _ (List.mem_of_getElem? (i := 4) rfl))) (g := (mkF m 68 #[.val (.int p1), .val (.int p2), .val (.int p3), .val (.int (0 : Int32)), .val (.ref w_NONE), .val (.int ss), .unset, .unset, .unset, .unset] [(.int p2)])) rfl (hb hby at_68)) ?_
        show Go p e below _ (T2.setTop (mkF m 70 #[.val (.int p1), .val (.int p2), .val (.int p3), .val (.int (0 : Int32)), .val (.ref w_NONE), .val (.int ss), .unset, .unset, .unset, .unset] [(.int (65535 : Int32)), (.int p2)]))
        refine Go.via (fun _ => XS.iand X2.here hx rfl (hb hby at_70) rfl) ?_
        show Go p e below _ (T2.setTop (mkF m 71 #[.val (.int p1), .val (.int p2), .val (.int p3), .val (.int (0 : Int32)), .val (.ref w_NONE), .val (.int ss), .unset, .unset, .unset, .unset] [(.int (p2 &&& (65535 : Int32)))]))
        refine Go.via (fun _ => XS.i2c X2.here hx rfl (hb hby at_71) rfl) ?_
        show Go p e below _ (T2.setTop (mkF m 72 #[.val (.int p1), .val (.int p2), .val (.int p3), .val (.int (0 : Int32)), .val (.ref w_NONE), .val (.int ss), .unset, .unset, .unset, .unset] [(.int ((p2 &&& (65535 : Int32)).toUInt32.toUInt16.toUInt32.toInt32))]))
        generalize hq : ((p2 &&& (65535 : Int32)).toUInt32.toUInt16.toUInt32.toInt32) = q
        show Go p e below _ (T2.setTop (mkF m 72 #[.val (.int p1), .val (.int p2), .val (.int p3), .val (.int (0 : Int32)), .val (.ref w_NONE), .val (.int ss), .unset, .unset, .unset, .unset] [(.int q)]))
        refine Go.via (fun _ => XS.istore X2.here hx rfl (hb hby at_72) rfl (l' := #[.val (.int p1), .val (.int p2), .val (.int p3), .val (.int (0 : Int32)), .val (.ref w_NONE), .val (.int ss), .val (.int q), .unset, .unset, .unset]) rfl) ?_
        show Go p e below _ (T2.setTop (mkF m 74 #[.val (.int p1), .val (.int p2), .val (.int p3), .val (.int (0 : Int32)), .val (.ref w_NONE), .val (.int ss), .val (.int q), .unset, .unset, .unset] []))
        refine Go.via (fun _ => XS.iload X2.here hx rfl (hb hby at_74) rfl) ?_
        show Go p e below _ (T2.setTop (mkF m 76 #[.val (.int p1), .val (.int p2), .val (.int p3), .val (.int (0 : Int32)), .val (.ref w_NONE), .val (.int ss), .val (.int q), .unset, .unset, .unset] [(.int q)]))
        refine Go.via (fun _ => XS.bipush X2.here hx rfl (hb hby at_76)) ?_
        show Go p e below _ (T2.setTop (mkF m 78 #[.val (.int p1), .val (.int p2), .val (.int p3), .val (.int (0 : Int32)), .val (.ref w_NONE), .val (.int ss), .val (.int q), .unset, .unset, .unset] [(.int (39 : Int32)), (.int q)]))
        by_cases hc7 : q = (39 : Int32)
        · -- yes
          subst hc7
          show Go p e below _ (T2.setTop (mkF m 78 #[.val (.int p1), .val (.int p2), .val (.int p3), .val (.int (0 : Int32)), .val (.ref w_NONE), .val (.int ss), .val (.int (39 : Int32)), .unset, .unset, .unset] [(.int (39 : Int32)), (.int (39 : Int32))]))
          show Go p e below _ (T2.setTop (mkF m 78 #[.val (.int p1), .val (.int p2), .val (.int p3), .val (.int (0 : Int32)), .val (.ref w_NONE), .val (.int ss), .val (.int (39 : Int32)), .unset, .unset, .unset] [(.int (39 : Int32)), (.int (39 : Int32))]))
          refine Go.via (fun _ => XS.icmpNo X2.here hx rfl (hb hby at_78) rfl (by decide)) ?_
          show Go p e below _ (T2.setTop (mkF m 81 #[.val (.int p1), .val (.int p2), .val (.int p3), .val (.int (0 : Int32)), .val (.ref w_NONE), .val (.int ss), .val (.int (39 : Int32)), .unset, .unset, .unset] []))
          refine Go.via (fun _ => XS.iconst X2.here hx rfl (hb hby at_81)) ?_
          show Go p e below _ (T2.setTop (mkF m 82 #[.val (.int p1), .val (.int p2), .val (.int p3), .val (.int (0 : Int32)), .val (.ref w_NONE), .val (.int ss), .val (.int (39 : Int32)), .unset, .unset, .unset] [(.int (1 : Int32))]))
          refine Go.via (fun _ => XS.goto X2.here hx rfl (pc0 := 82) (pc' := 86) rfl (hb hby at_82) (by decide) (by decide)) ?_
          show Go p e below _ (T2.setTop (mkF m 86 #[.val (.int p1), .val (.int p2), .val (.int p3), .val (.int (0 : Int32)), .val (.ref w_NONE), .val (.int ss), .val (.int (39 : Int32)), .unset, .unset, .unset] [(.int (1 : Int32))]))
          refine Go.via (fun _ => XS.istore X2.here hx rfl (hb hby at_86) rfl (l' := #[.val (.int p1), .val (.int p2), .val (.int p3), .val (.int (0 : Int32)), .val (.ref w_NONE), .val (.int ss), .val (.int (39 : Int32)), .val (.int (1 : Int32)), .unset, .unset]) rfl) ?_
          show Go p e below _ (T2.setTop (mkF m 88 #[.val (.int p1), .val (.int p2), .val (.int p3), .val (.int (0 : Int32)), .val (.ref w_NONE), .val (.int ss), .val (.int (39 : Int32)), .val (.int (1 : Int32)), .unset, .unset] []))
          refine Go.via (fun _ => XS.iload X2.here hx rfl (hb hby at_88) rfl) ?_
          show Go p e below _ (T2.setTop (mkF m 90 #[.val (.int p1), .val (.int p2), .val (.int p3), .val (.int (0 : Int32)), .val (.ref w_NONE), .val (.int ss), .val (.int (39 : Int32)), .val (.int (1 : Int32)), .unset, .unset] [(.int (39 : Int32))]))
          refine Go.via (fun _ => XS.bipush X2.here hx rfl (hb hby at_90)) ?_
          show Go p e below _ (T2.setTop (mkF m 92 #[.val (.int p1), .val (.int p2), .val (.int p3), .val (.int (0 : Int32)), .val (.ref w_NONE), .val (.int ss), .val (.int (39 : Int32)), .val (.int (1 : Int32)), .unset, .unset] [(.int (34 : Int32)), (.int (39 : Int32))]))
          refine Go.via (fun _ => XS.icmpYes X2.here hx rfl (pc0 := 92) (pc' := 99) rfl (hb hby at_92) rfl (by decide) (by decide) (by decide)) ?_
          show Go p e below _ (T2.setTop (mkF m 99 #[.val (.int p1), .val (.int p2), .val (.int p3), .val (.int (0 : Int32)), .val (.ref w_NONE), .val (.int ss), .val (.int (39 : Int32)), .val (.int (1 : Int32)), .unset, .unset] []))
          refine Go.via (fun _ => XS.iconst X2.here hx rfl (hb hby at_99)) ?_
          show Go p e below _ (T2.setTop (mkF m 100 #[.val (.int p1), .val (.int p2), .val (.int p3), .val (.int (0 : Int32)), .val (.ref w_NONE), .val (.int ss), .val (.int (39 : Int32)), .val (.int (1 : Int32)), .unset, .unset] [(.int (0 : Int32))]))
          refine Go.via (fun _ => XS.istore X2.here hx rfl (hb hby at_100) rfl (l' := #[.val (.int p1), .val (.int p2), .val (.int p3), .val (.int (0 : Int32)), .val (.ref w_NONE), .val (.int ss), .val (.int (39 : Int32)), .val (.int (1 : Int32)), .val (.int (0 : Int32)), .unset]) rfl) ?_
          show Go p e below _ (T2.setTop (mkF m 102 #[.val (.int p1), .val (.int p2), .val (.int p3), .val (.int (0 : Int32)), .val (.ref w_NONE), .val (.int ss), .val (.int (39 : Int32)), .val (.int (1 : Int32)), .val (.int (0 : Int32)), .unset] []))
          refine Go.via (fun _ => XS.iloadN X2.here hx rfl (hb hby at_102) rfl) ?_
          show Go p e below _ (T2.setTop (mkF m 103 #[.val (.int p1), .val (.int p2), .val (.int p3), .val (.int (0 : Int32)), .val (.ref w_NONE), .val (.int ss), .val (.int (39 : Int32)), .val (.int (1 : Int32)), .val (.int (0 : Int32)), .unset] [(.int (0 : Int32))]))
          refine Go.via (fun _ => XS.ifNo X2.here hx rfl (hb hby at_103) rfl (by decide)) ?_
          show Go p e below _ (T2.setTop (mkF m 106 #[.val (.int p1), .val (.int p2), .val (.int p3), .val (.int (0 : Int32)), .val (.ref w_NONE), .val (.int ss), .val (.int (39 : Int32)), .val (.int (1 : Int32)), .val (.int (0 : Int32)), .unset] []))
          refine Go.via (fun _ => XS.iconst X2.here hx rfl (hb hby at_106)) ?_
          show Go p e below _ (T2.setTop (mkF m 107 #[.val (.int p1), .val (.int p2), .val (.int p3), .val (.int (0 : Int32)), .val (.ref w_NONE), .val (.int ss), .val (.int (39 : Int32)), .val (.int (1 : Int32)), .val (.int (0 : Int32)), .unset] [(.int (0 : Int32))]))
          refine Go.via (fun _ => XS.istore X2.here hx rfl (hb hby at_107) rfl (l' := #[.val (.int p1), .val (.int p2), .val (.int p3), .val (.int (0 : Int32)), .val (.ref w_NONE), .val (.int ss), .val (.int (39 : Int32)), .val (.int (1 : Int32)), .val (.int (0 : Int32)), .val (.int (0 : Int32))]) rfl) ?_
          show Go p e below _ (T2.setTop (mkF m 109 #[.val (.int p1), .val (.int p2), .val (.int p3), .val (.int (0 : Int32)), .val (.ref w_NONE), .val (.int ss), .val (.int (39 : Int32)), .val (.int (1 : Int32)), .val (.int (0 : Int32)), .val (.int (0 : Int32))] []))
          refine Go.via (fun _ => XS.goto X2.here hx rfl (pc0 := 109) (pc' := 141) rfl (hb hby at_109) (by decide) (by decide)) ?_
          show Go p e below _ (T2.setTop (mkF m 141 #[.val (.int p1), .val (.int p2), .val (.int p3), .val (.int (0 : Int32)), .val (.ref w_NONE), .val (.int ss), .val (.int (39 : Int32)), .val (.int (1 : Int32)), .val (.int (0 : Int32)), .val (.int (0 : Int32))] []))
          refine Go.via (fun _ => XS.aload X2.here hx rfl (hb hby at_141) rfl rfl) ?_
          show Go p e below _ (T2.setTop (mkF m 143 #[.val (.int p1), .val (.int p2), .val (.int p3), .val (.int (0 : Int32)), .val (.ref w_NONE), .val (.int ss), .val (.int (39 : Int32)), .val (.int (1 : Int32)), .val (.int (0 : Int32)), .val (.int (0 : Int32))] [(.ref w_NONE)]))
          refine Go.via (fun _ => XS.iload X2.here hx rfl (hb hby at_143) rfl) ?_
          show Go p e below _ (T2.setTop (mkF m 145 #[.val (.int p1), .val (.int p2), .val (.int p3), .val (.int (0 : Int32)), .val (.ref w_NONE), .val (.int ss), .val (.int (39 : Int32)), .val (.int (1 : Int32)), .val (.int (0 : Int32)), .val (.int (0 : Int32))] [(.int (39 : Int32)), (.ref w_NONE)]))
          obtain ⟨cq8, kq8, q8a, q8b, q8c⟩ := isOf hZ e2 (E_NONE.ext O0.2)
          obtain ⟨_, _, ⟨T8, L8, k8, n8⟩, -, X8, ⟨Lc8, hQ8, l8, y8, z8⟩, st8⟩ := X2.virtualBack hx (y := (⟨"com/example/waymark/waymark/BackslashEscapes", "in", "(C)Z"⟩ : MethodName)) (z := (⟨"com/example/waymark/waymark/BackslashEscapes", "in", "(C)Z"⟩ : MethodName)) hown (mvT hZ (hw _ (List.mem_of_getElem? (i := 5) rfl))) (mvT hZ (hw _ (List.mem_of_getElem? (i := 6) rfl))) (notFace_of_selects (args := #[]) (mvT hZ (hw _ (List.mem_of_getElem? (i := 8) rfl)))) (mvT hZ (hw _ (List.mem_of_getElem? (i := 8) rfl))) (mvT hZ (hw _ (List.mem_of_getElem? (i := 7) rfl))) (by decide) (backOf (W := 0) (rm1_0_39 l Z a0 hw []  w_NONE w_SINGLE_QUOTES w_SINGLE_AND_DOUBLE_QUOTES h0 n0 Z0 O0 S_NONE S_SINGLE_QUOTES S_SINGLE_AND_DOUBLE_QUOTES ne_NONE_SINGLE_QUOTES ne_NONE_SINGLE_AND_DOUBLE_QUOTES ne_SINGLE_QUOTES_SINGLE_AND_DOUBLE_QUOTES ) hZ (hw _ (List.mem_of_getElem? (i := 9) rfl)) (hw _ (List.mem_of_getElem? (i := 2) rfl)) (by decide) (by decide)) q8a q8c (g := (mkF m 145 #[.val (.int p1), .val (.int p2), .val (.int p3), .val (.int (0 : Int32)), .val (.ref w_NONE), .val (.int ss), .val (.int (39 : Int32)), .val (.int (1 : Int32)), .val (.int (0 : Int32)), .val (.int (0 : Int32))] [(.int (39 : Int32)), (.ref w_NONE)])) rfl (by rw [hml]; rfl) (Steps.refl _) (argsL := [(.int (39 : Int32))]) (rest := []) (lenOf pd_0 rfl) rfl (by show 2 * 0 + _ ≤ _; exact Nat.le_of_eq rfl) (hb hby at_145) (fun _ _ => ⟨rfl, e2, (by decide : 0 + 0 ≤ _), (by decide : 0 + 0 ≤ _)⟩)
          dsimp only [Pt.U, Pt.locs, Pt.cells, Pt.slots] at X8 l8 y8 z8 st8 hQ8
          subst l8 y8 z8
          obtain ⟨rfl, N8q, e8q⟩ := hQ8
          have N8 := Fr.app N0 N8q
          refine Go.tr st8 ?_
          show Go p e below _ (T8.setTop (mkF m 148 #[.val (.int p1), .val (.int p2), .val (.int p3), .val (.int (0 : Int32)), .val (.ref w_NONE), .val (.int ss), .val (.int (39 : Int32)), .val (.int (1 : Int32)), .val (.int (0 : Int32)), .val (.int (0 : Int32))] [(.int (0 : Int32))]))
          refine Go.via (fun _ => XS.iload X8.here hx rfl (hb hby at_148) rfl) ?_
          show Go p e below _ (T8.setTop (mkF m 150 #[.val (.int p1), .val (.int p2), .val (.int p3), .val (.int (0 : Int32)), .val (.ref w_NONE), .val (.int ss), .val (.int (39 : Int32)), .val (.int (1 : Int32)), .val (.int (0 : Int32)), .val (.int (0 : Int32))] [(.int (0 : Int32)), (.int (0 : Int32))]))
          refine Go.via (fun _ => XS.icmpNo X8.here hx rfl (hb hby at_150) rfl (by decide)) ?_
          show Go p e below _ (T8.setTop (mkF m 153 #[.val (.int p1), .val (.int p2), .val (.int p3), .val (.int (0 : Int32)), .val (.ref w_NONE), .val (.int ss), .val (.int (39 : Int32)), .val (.int (1 : Int32)), .val (.int (0 : Int32)), .val (.int (0 : Int32))] []))
          refine Go.via (fun _ => XS.iconst X8.here hx rfl (hb hby at_153)) ?_
          show Go p e below _ (T8.setTop (mkF m 154 #[.val (.int p1), .val (.int p2), .val (.int p3), .val (.int (0 : Int32)), .val (.ref w_NONE), .val (.int ss), .val (.int (39 : Int32)), .val (.int (1 : Int32)), .val (.int (0 : Int32)), .val (.int (0 : Int32))] [(.int (1 : Int32))]))
          refine Go.via (fun _ => XS.goto X8.here hx rfl (pc0 := 154) (pc' := 158) rfl (hb hby at_154) (by decide) (by decide)) ?_
          show Go p e below _ (T8.setTop (mkF m 158 #[.val (.int p1), .val (.int p2), .val (.int p3), .val (.int (0 : Int32)), .val (.ref w_NONE), .val (.int ss), .val (.int (39 : Int32)), .val (.int (1 : Int32)), .val (.int (0 : Int32)), .val (.int (0 : Int32))] [(.int (1 : Int32))]))
          exact own_retN X8 hx hlk (t := .boolean) Bd.returns (by simp) (hb hby at_158) (by show Q0 Z p1 p2 p3 w_NONE w_SINGLE_QUOTES w_SINGLE_AND_DOUBLE_QUOTES h0 n0 _ T8.heap _; rw [e8q]; exact ⟨rfl, N8⟩) (by decide) (by decide)
        · -- no
          show Go p e below _ (T2.setTop (mkF m 78 #[.val (.int p1), .val (.int p2), .val (.int p3), .val (.int (0 : Int32)), .val (.ref w_NONE), .val (.int ss), .val (.int q), .unset, .unset, .unset] [(.int (39 : Int32)), (.int q)]))
          show Go p e below _ (T2.setTop (mkF m 78 #[.val (.int p1), .val (.int p2), .val (.int p3), .val (.int (0 : Int32)), .val (.ref w_NONE), .val (.int ss), .val (.int q), .unset, .unset, .unset] [(.int (39 : Int32)), (.int q)]))
          refine Go.via (fun _ => XS.icmpYes X2.here hx rfl (pc0 := 78) (pc' := 85) rfl (hb hby at_78) rfl (feq hc7).2 (by decide) (by decide)) ?_
          show Go p e below _ (T2.setTop (mkF m 85 #[.val (.int p1), .val (.int p2), .val (.int p3), .val (.int (0 : Int32)), .val (.ref w_NONE), .val (.int ss), .val (.int q), .unset, .unset, .unset] []))
          refine Go.via (fun _ => XS.iconst X2.here hx rfl (hb hby at_85)) ?_
          show Go p e below _ (T2.setTop (mkF m 86 #[.val (.int p1), .val (.int p2), .val (.int p3), .val (.int (0 : Int32)), .val (.ref w_NONE), .val (.int ss), .val (.int q), .unset, .unset, .unset] [(.int (0 : Int32))]))
          refine Go.via (fun _ => XS.istore X2.here hx rfl (hb hby at_86) rfl (l' := #[.val (.int p1), .val (.int p2), .val (.int p3), .val (.int (0 : Int32)), .val (.ref w_NONE), .val (.int ss), .val (.int q), .val (.int (0 : Int32)), .unset, .unset]) rfl) ?_
          show Go p e below _ (T2.setTop (mkF m 88 #[.val (.int p1), .val (.int p2), .val (.int p3), .val (.int (0 : Int32)), .val (.ref w_NONE), .val (.int ss), .val (.int q), .val (.int (0 : Int32)), .unset, .unset] []))
          refine Go.via (fun _ => XS.iload X2.here hx rfl (hb hby at_88) rfl) ?_
          show Go p e below _ (T2.setTop (mkF m 90 #[.val (.int p1), .val (.int p2), .val (.int p3), .val (.int (0 : Int32)), .val (.ref w_NONE), .val (.int ss), .val (.int q), .val (.int (0 : Int32)), .unset, .unset] [(.int q)]))
          refine Go.via (fun _ => XS.bipush X2.here hx rfl (hb hby at_90)) ?_
          show Go p e below _ (T2.setTop (mkF m 92 #[.val (.int p1), .val (.int p2), .val (.int p3), .val (.int (0 : Int32)), .val (.ref w_NONE), .val (.int ss), .val (.int q), .val (.int (0 : Int32)), .unset, .unset] [(.int (34 : Int32)), (.int q)]))
          by_cases hc9 : q = (34 : Int32)
          · -- yes
            subst hc9
            show Go p e below _ (T2.setTop (mkF m 92 #[.val (.int p1), .val (.int p2), .val (.int p3), .val (.int (0 : Int32)), .val (.ref w_NONE), .val (.int ss), .val (.int (34 : Int32)), .val (.int (0 : Int32)), .unset, .unset] [(.int (34 : Int32)), (.int (34 : Int32))]))
            show Go p e below _ (T2.setTop (mkF m 92 #[.val (.int p1), .val (.int p2), .val (.int p3), .val (.int (0 : Int32)), .val (.ref w_NONE), .val (.int ss), .val (.int (34 : Int32)), .val (.int (0 : Int32)), .unset, .unset] [(.int (34 : Int32)), (.int (34 : Int32))]))
            refine Go.via (fun _ => XS.icmpNo X2.here hx rfl (hb hby at_92) rfl (by decide)) ?_
            show Go p e below _ (T2.setTop (mkF m 95 #[.val (.int p1), .val (.int p2), .val (.int p3), .val (.int (0 : Int32)), .val (.ref w_NONE), .val (.int ss), .val (.int (34 : Int32)), .val (.int (0 : Int32)), .unset, .unset] []))
            refine Go.via (fun _ => XS.iconst X2.here hx rfl (hb hby at_95)) ?_
            show Go p e below _ (T2.setTop (mkF m 96 #[.val (.int p1), .val (.int p2), .val (.int p3), .val (.int (0 : Int32)), .val (.ref w_NONE), .val (.int ss), .val (.int (34 : Int32)), .val (.int (0 : Int32)), .unset, .unset] [(.int (1 : Int32))]))
            refine Go.via (fun _ => XS.goto X2.here hx rfl (pc0 := 96) (pc' := 100) rfl (hb hby at_96) (by decide) (by decide)) ?_
            show Go p e below _ (T2.setTop (mkF m 100 #[.val (.int p1), .val (.int p2), .val (.int p3), .val (.int (0 : Int32)), .val (.ref w_NONE), .val (.int ss), .val (.int (34 : Int32)), .val (.int (0 : Int32)), .unset, .unset] [(.int (1 : Int32))]))
            refine Go.via (fun _ => XS.istore X2.here hx rfl (hb hby at_100) rfl (l' := #[.val (.int p1), .val (.int p2), .val (.int p3), .val (.int (0 : Int32)), .val (.ref w_NONE), .val (.int ss), .val (.int (34 : Int32)), .val (.int (0 : Int32)), .val (.int (1 : Int32)), .unset]) rfl) ?_
            show Go p e below _ (T2.setTop (mkF m 102 #[.val (.int p1), .val (.int p2), .val (.int p3), .val (.int (0 : Int32)), .val (.ref w_NONE), .val (.int ss), .val (.int (34 : Int32)), .val (.int (0 : Int32)), .val (.int (1 : Int32)), .unset] []))
            refine Go.via (fun _ => XS.iloadN X2.here hx rfl (hb hby at_102) rfl) ?_
            show Go p e below _ (T2.setTop (mkF m 103 #[.val (.int p1), .val (.int p2), .val (.int p3), .val (.int (0 : Int32)), .val (.ref w_NONE), .val (.int ss), .val (.int (34 : Int32)), .val (.int (0 : Int32)), .val (.int (1 : Int32)), .unset] [(.int (0 : Int32))]))
            refine Go.via (fun _ => XS.ifNo X2.here hx rfl (hb hby at_103) rfl (by decide)) ?_
            show Go p e below _ (T2.setTop (mkF m 106 #[.val (.int p1), .val (.int p2), .val (.int p3), .val (.int (0 : Int32)), .val (.ref w_NONE), .val (.int ss), .val (.int (34 : Int32)), .val (.int (0 : Int32)), .val (.int (1 : Int32)), .unset] []))
            refine Go.via (fun _ => XS.iconst X2.here hx rfl (hb hby at_106)) ?_
            show Go p e below _ (T2.setTop (mkF m 107 #[.val (.int p1), .val (.int p2), .val (.int p3), .val (.int (0 : Int32)), .val (.ref w_NONE), .val (.int ss), .val (.int (34 : Int32)), .val (.int (0 : Int32)), .val (.int (1 : Int32)), .unset] [(.int (0 : Int32))]))
            refine Go.via (fun _ => XS.istore X2.here hx rfl (hb hby at_107) rfl (l' := #[.val (.int p1), .val (.int p2), .val (.int p3), .val (.int (0 : Int32)), .val (.ref w_NONE), .val (.int ss), .val (.int (34 : Int32)), .val (.int (0 : Int32)), .val (.int (1 : Int32)), .val (.int (0 : Int32))]) rfl) ?_
            show Go p e below _ (T2.setTop (mkF m 109 #[.val (.int p1), .val (.int p2), .val (.int p3), .val (.int (0 : Int32)), .val (.ref w_NONE), .val (.int ss), .val (.int (34 : Int32)), .val (.int (0 : Int32)), .val (.int (1 : Int32)), .val (.int (0 : Int32))] []))
            refine Go.via (fun _ => XS.goto X2.here hx rfl (pc0 := 109) (pc' := 141) rfl (hb hby at_109) (by decide) (by decide)) ?_
            show Go p e below _ (T2.setTop (mkF m 141 #[.val (.int p1), .val (.int p2), .val (.int p3), .val (.int (0 : Int32)), .val (.ref w_NONE), .val (.int ss), .val (.int (34 : Int32)), .val (.int (0 : Int32)), .val (.int (1 : Int32)), .val (.int (0 : Int32))] []))
            refine Go.via (fun _ => XS.aload X2.here hx rfl (hb hby at_141) rfl rfl) ?_
            show Go p e below _ (T2.setTop (mkF m 143 #[.val (.int p1), .val (.int p2), .val (.int p3), .val (.int (0 : Int32)), .val (.ref w_NONE), .val (.int ss), .val (.int (34 : Int32)), .val (.int (0 : Int32)), .val (.int (1 : Int32)), .val (.int (0 : Int32))] [(.ref w_NONE)]))
            refine Go.via (fun _ => XS.iload X2.here hx rfl (hb hby at_143) rfl) ?_
            show Go p e below _ (T2.setTop (mkF m 145 #[.val (.int p1), .val (.int p2), .val (.int p3), .val (.int (0 : Int32)), .val (.ref w_NONE), .val (.int ss), .val (.int (34 : Int32)), .val (.int (0 : Int32)), .val (.int (1 : Int32)), .val (.int (0 : Int32))] [(.int (34 : Int32)), (.ref w_NONE)]))
            obtain ⟨cq10, kq10, q10a, q10b, q10c⟩ := isOf hZ e2 (E_NONE.ext O0.2)
            obtain ⟨_, _, ⟨T10, L10, k10, n10⟩, -, X10, ⟨Lc10, hQ10, l10, y10, z10⟩, st10⟩ := X2.virtualBack hx (y := (⟨"com/example/waymark/waymark/BackslashEscapes", "in", "(C)Z"⟩ : MethodName)) (z := (⟨"com/example/waymark/waymark/BackslashEscapes", "in", "(C)Z"⟩ : MethodName)) hown (mvT hZ (hw _ (List.mem_of_getElem? (i := 5) rfl))) (mvT hZ (hw _ (List.mem_of_getElem? (i := 6) rfl))) (notFace_of_selects (args := #[]) (mvT hZ (hw _ (List.mem_of_getElem? (i := 8) rfl)))) (mvT hZ (hw _ (List.mem_of_getElem? (i := 8) rfl))) (mvT hZ (hw _ (List.mem_of_getElem? (i := 7) rfl))) (by decide) (backOf (W := 0) (rm1_0_34 l Z a0 hw []  w_NONE w_SINGLE_QUOTES w_SINGLE_AND_DOUBLE_QUOTES h0 n0 Z0 O0 S_NONE S_SINGLE_QUOTES S_SINGLE_AND_DOUBLE_QUOTES ne_NONE_SINGLE_QUOTES ne_NONE_SINGLE_AND_DOUBLE_QUOTES ne_SINGLE_QUOTES_SINGLE_AND_DOUBLE_QUOTES ) hZ (hw _ (List.mem_of_getElem? (i := 9) rfl)) (hw _ (List.mem_of_getElem? (i := 2) rfl)) (by decide) (by decide)) q10a q10c (g := (mkF m 145 #[.val (.int p1), .val (.int p2), .val (.int p3), .val (.int (0 : Int32)), .val (.ref w_NONE), .val (.int ss), .val (.int (34 : Int32)), .val (.int (0 : Int32)), .val (.int (1 : Int32)), .val (.int (0 : Int32))] [(.int (34 : Int32)), (.ref w_NONE)])) rfl (by rw [hml]; rfl) (Steps.refl _) (argsL := [(.int (34 : Int32))]) (rest := []) (lenOf pd_0 rfl) rfl (by show 2 * 0 + _ ≤ _; exact Nat.le_of_eq rfl) (hb hby at_145) (fun _ _ => ⟨rfl, e2, (by decide : 0 + 0 ≤ _), (by decide : 0 + 0 ≤ _)⟩)
            dsimp only [Pt.U, Pt.locs, Pt.cells, Pt.slots] at X10 l10 y10 z10 st10 hQ10
            subst l10 y10 z10
            obtain ⟨rfl, N10q, e10q⟩ := hQ10
            have N10 := Fr.app N0 N10q
            refine Go.tr st10 ?_
            show Go p e below _ (T10.setTop (mkF m 148 #[.val (.int p1), .val (.int p2), .val (.int p3), .val (.int (0 : Int32)), .val (.ref w_NONE), .val (.int ss), .val (.int (34 : Int32)), .val (.int (0 : Int32)), .val (.int (1 : Int32)), .val (.int (0 : Int32))] [(.int (0 : Int32))]))
            refine Go.via (fun _ => XS.iload X10.here hx rfl (hb hby at_148) rfl) ?_
            show Go p e below _ (T10.setTop (mkF m 150 #[.val (.int p1), .val (.int p2), .val (.int p3), .val (.int (0 : Int32)), .val (.ref w_NONE), .val (.int ss), .val (.int (34 : Int32)), .val (.int (0 : Int32)), .val (.int (1 : Int32)), .val (.int (0 : Int32))] [(.int (0 : Int32)), (.int (0 : Int32))]))
            refine Go.via (fun _ => XS.icmpNo X10.here hx rfl (hb hby at_150) rfl (by decide)) ?_
            show Go p e below _ (T10.setTop (mkF m 153 #[.val (.int p1), .val (.int p2), .val (.int p3), .val (.int (0 : Int32)), .val (.ref w_NONE), .val (.int ss), .val (.int (34 : Int32)), .val (.int (0 : Int32)), .val (.int (1 : Int32)), .val (.int (0 : Int32))] []))
            refine Go.via (fun _ => XS.iconst X10.here hx rfl (hb hby at_153)) ?_
            show Go p e below _ (T10.setTop (mkF m 154 #[.val (.int p1), .val (.int p2), .val (.int p3), .val (.int (0 : Int32)), .val (.ref w_NONE), .val (.int ss), .val (.int (34 : Int32)), .val (.int (0 : Int32)), .val (.int (1 : Int32)), .val (.int (0 : Int32))] [(.int (1 : Int32))]))
            refine Go.via (fun _ => XS.goto X10.here hx rfl (pc0 := 154) (pc' := 158) rfl (hb hby at_154) (by decide) (by decide)) ?_
            show Go p e below _ (T10.setTop (mkF m 158 #[.val (.int p1), .val (.int p2), .val (.int p3), .val (.int (0 : Int32)), .val (.ref w_NONE), .val (.int ss), .val (.int (34 : Int32)), .val (.int (0 : Int32)), .val (.int (1 : Int32)), .val (.int (0 : Int32))] [(.int (1 : Int32))]))
            exact own_retN X10 hx hlk (t := .boolean) Bd.returns (by simp) (hb hby at_158) (by show Q0 Z p1 p2 p3 w_NONE w_SINGLE_QUOTES w_SINGLE_AND_DOUBLE_QUOTES h0 n0 _ T10.heap _; rw [e10q]; exact ⟨rfl, N10⟩) (by decide) (by decide)
          · -- no
            show Go p e below _ (T2.setTop (mkF m 92 #[.val (.int p1), .val (.int p2), .val (.int p3), .val (.int (0 : Int32)), .val (.ref w_NONE), .val (.int ss), .val (.int q), .val (.int (0 : Int32)), .unset, .unset] [(.int (34 : Int32)), (.int q)]))
            show Go p e below _ (T2.setTop (mkF m 92 #[.val (.int p1), .val (.int p2), .val (.int p3), .val (.int (0 : Int32)), .val (.ref w_NONE), .val (.int ss), .val (.int q), .val (.int (0 : Int32)), .unset, .unset] [(.int (34 : Int32)), (.int q)]))
            refine Go.via (fun _ => XS.icmpYes X2.here hx rfl (pc0 := 92) (pc' := 99) rfl (hb hby at_92) rfl (feq hc9).2 (by decide) (by decide)) ?_
            show Go p e below _ (T2.setTop (mkF m 99 #[.val (.int p1), .val (.int p2), .val (.int p3), .val (.int (0 : Int32)), .val (.ref w_NONE), .val (.int ss), .val (.int q), .val (.int (0 : Int32)), .unset, .unset] []))
            refine Go.via (fun _ => XS.iconst X2.here hx rfl (hb hby at_99)) ?_
            show Go p e below _ (T2.setTop (mkF m 100 #[.val (.int p1), .val (.int p2), .val (.int p3), .val (.int (0 : Int32)), .val (.ref w_NONE), .val (.int ss), .val (.int q), .val (.int (0 : Int32)), .unset, .unset] [(.int (0 : Int32))]))
            refine Go.via (fun _ => XS.istore X2.here hx rfl (hb hby at_100) rfl (l' := #[.val (.int p1), .val (.int p2), .val (.int p3), .val (.int (0 : Int32)), .val (.ref w_NONE), .val (.int ss), .val (.int q), .val (.int (0 : Int32)), .val (.int (0 : Int32)), .unset]) rfl) ?_
            show Go p e below _ (T2.setTop (mkF m 102 #[.val (.int p1), .val (.int p2), .val (.int p3), .val (.int (0 : Int32)), .val (.ref w_NONE), .val (.int ss), .val (.int q), .val (.int (0 : Int32)), .val (.int (0 : Int32)), .unset] []))
            refine Go.via (fun _ => XS.iloadN X2.here hx rfl (hb hby at_102) rfl) ?_
            show Go p e below _ (T2.setTop (mkF m 103 #[.val (.int p1), .val (.int p2), .val (.int p3), .val (.int (0 : Int32)), .val (.ref w_NONE), .val (.int ss), .val (.int q), .val (.int (0 : Int32)), .val (.int (0 : Int32)), .unset] [(.int (0 : Int32))]))
            refine Go.via (fun _ => XS.ifNo X2.here hx rfl (hb hby at_103) rfl (by decide)) ?_
            show Go p e below _ (T2.setTop (mkF m 106 #[.val (.int p1), .val (.int p2), .val (.int p3), .val (.int (0 : Int32)), .val (.ref w_NONE), .val (.int ss), .val (.int q), .val (.int (0 : Int32)), .val (.int (0 : Int32)), .unset] []))
            refine Go.via (fun _ => XS.iconst X2.here hx rfl (hb hby at_106)) ?_
            show Go p e below _ (T2.setTop (mkF m 107 #[.val (.int p1), .val (.int p2), .val (.int p3), .val (.int (0 : Int32)), .val (.ref w_NONE), .val (.int ss), .val (.int q), .val (.int (0 : Int32)), .val (.int (0 : Int32)), .unset] [(.int (0 : Int32))]))
            refine Go.via (fun _ => XS.istore X2.here hx rfl (hb hby at_107) rfl (l' := #[.val (.int p1), .val (.int p2), .val (.int p3), .val (.int (0 : Int32)), .val (.ref w_NONE), .val (.int ss), .val (.int q), .val (.int (0 : Int32)), .val (.int (0 : Int32)), .val (.int (0 : Int32))]) rfl) ?_
            show Go p e below _ (T2.setTop (mkF m 109 #[.val (.int p1), .val (.int p2), .val (.int p3), .val (.int (0 : Int32)), .val (.ref w_NONE), .val (.int ss), .val (.int q), .val (.int (0 : Int32)), .val (.int (0 : Int32)), .val (.int (0 : Int32))] []))
            refine Go.via (fun _ => XS.goto X2.here hx rfl (pc0 := 109) (pc' := 141) rfl (hb hby at_109) (by decide) (by decide)) ?_
            show Go p e below _ (T2.setTop (mkF m 141 #[.val (.int p1), .val (.int p2), .val (.int p3), .val (.int (0 : Int32)), .val (.ref w_NONE), .val (.int ss), .val (.int q), .val (.int (0 : Int32)), .val (.int (0 : Int32)), .val (.int (0 : Int32))] []))
            refine Go.via (fun _ => XS.aload X2.here hx rfl (hb hby at_141) rfl rfl) ?_
            show Go p e below _ (T2.setTop (mkF m 143 #[.val (.int p1), .val (.int p2), .val (.int p3), .val (.int (0 : Int32)), .val (.ref w_NONE), .val (.int ss), .val (.int q), .val (.int (0 : Int32)), .val (.int (0 : Int32)), .val (.int (0 : Int32))] [(.ref w_NONE)]))
            refine Go.via (fun _ => XS.iload X2.here hx rfl (hb hby at_143) rfl) ?_
            show Go p e below _ (T2.setTop (mkF m 145 #[.val (.int p1), .val (.int p2), .val (.int p3), .val (.int (0 : Int32)), .val (.ref w_NONE), .val (.int ss), .val (.int q), .val (.int (0 : Int32)), .val (.int (0 : Int32)), .val (.int (0 : Int32))] [(.int q), (.ref w_NONE)]))
            obtain ⟨cq11, kq11, q11a, q11b, q11c⟩ := isOf hZ e2 (E_NONE.ext O0.2)
            obtain ⟨_, _, ⟨T11, L11, k11, n11⟩, -, X11, ⟨Lc11, hQ11, l11, y11, z11⟩, st11⟩ := X2.virtualBack hx (y := (⟨"com/example/waymark/waymark/BackslashEscapes", "in", "(C)Z"⟩ : MethodName)) (z := (⟨"com/example/waymark/waymark/BackslashEscapes", "in", "(C)Z"⟩ : MethodName)) hown (mvT hZ (hw _ (List.mem_of_getElem? (i := 5) rfl))) (mvT hZ (hw _ (List.mem_of_getElem? (i := 6) rfl))) (notFace_of_selects (args := #[]) (mvT hZ (hw _ (List.mem_of_getElem? (i := 8) rfl)))) (mvT hZ (hw _ (List.mem_of_getElem? (i := 8) rfl))) (mvT hZ (hw _ (List.mem_of_getElem? (i := 7) rfl))) (by decide) (backOf (W := 0) (rm1_0_o l Z a0 hw [] q w_NONE w_SINGLE_QUOTES w_SINGLE_AND_DOUBLE_QUOTES h0 n0 Z0 O0 S_NONE S_SINGLE_QUOTES S_SINGLE_AND_DOUBLE_QUOTES ne_NONE_SINGLE_QUOTES ne_NONE_SINGLE_AND_DOUBLE_QUOTES ne_SINGLE_QUOTES_SINGLE_AND_DOUBLE_QUOTES hc7 hc9) hZ (hw _ (List.mem_of_getElem? (i := 9) rfl)) (hw _ (List.mem_of_getElem? (i := 2) rfl)) (by decide) (by decide)) q11a q11c (g := (mkF m 145 #[.val (.int p1), .val (.int p2), .val (.int p3), .val (.int (0 : Int32)), .val (.ref w_NONE), .val (.int ss), .val (.int q), .val (.int (0 : Int32)), .val (.int (0 : Int32)), .val (.int (0 : Int32))] [(.int q), (.ref w_NONE)])) rfl (by rw [hml]; rfl) (Steps.refl _) (argsL := [(.int q)]) (rest := []) (lenOf pd_0 rfl) rfl (by show 2 * 0 + _ ≤ _; exact Nat.le_of_eq rfl) (hb hby at_145) (fun _ _ => ⟨rfl, e2, (by decide : 0 + 0 ≤ _), (by decide : 0 + 0 ≤ _)⟩)
            dsimp only [Pt.U, Pt.locs, Pt.cells, Pt.slots] at X11 l11 y11 z11 st11 hQ11
            subst l11 y11 z11
            obtain ⟨rfl, N11q, e11q⟩ := hQ11
            have N11 := Fr.app N0 N11q
            refine Go.tr st11 ?_
            show Go p e below _ (T11.setTop (mkF m 148 #[.val (.int p1), .val (.int p2), .val (.int p3), .val (.int (0 : Int32)), .val (.ref w_NONE), .val (.int ss), .val (.int q), .val (.int (0 : Int32)), .val (.int (0 : Int32)), .val (.int (0 : Int32))] [(.int (0 : Int32))]))
            refine Go.via (fun _ => XS.iload X11.here hx rfl (hb hby at_148) rfl) ?_
            show Go p e below _ (T11.setTop (mkF m 150 #[.val (.int p1), .val (.int p2), .val (.int p3), .val (.int (0 : Int32)), .val (.ref w_NONE), .val (.int ss), .val (.int q), .val (.int (0 : Int32)), .val (.int (0 : Int32)), .val (.int (0 : Int32))] [(.int (0 : Int32)), (.int (0 : Int32))]))
            refine Go.via (fun _ => XS.icmpNo X11.here hx rfl (hb hby at_150) rfl (by decide)) ?_
            show Go p e below _ (T11.setTop (mkF m 153 #[.val (.int p1), .val (.int p2), .val (.int p3), .val (.int (0 : Int32)), .val (.ref w_NONE), .val (.int ss), .val (.int q), .val (.int (0 : Int32)), .val (.int (0 : Int32)), .val (.int (0 : Int32))] []))
            refine Go.via (fun _ => XS.iconst X11.here hx rfl (hb hby at_153)) ?_
            show Go p e below _ (T11.setTop (mkF m 154 #[.val (.int p1), .val (.int p2), .val (.int p3), .val (.int (0 : Int32)), .val (.ref w_NONE), .val (.int ss), .val (.int q), .val (.int (0 : Int32)), .val (.int (0 : Int32)), .val (.int (0 : Int32))] [(.int (1 : Int32))]))
            refine Go.via (fun _ => XS.goto X11.here hx rfl (pc0 := 154) (pc' := 158) rfl (hb hby at_154) (by decide) (by decide)) ?_
            show Go p e below _ (T11.setTop (mkF m 158 #[.val (.int p1), .val (.int p2), .val (.int p3), .val (.int (0 : Int32)), .val (.ref w_NONE), .val (.int ss), .val (.int q), .val (.int (0 : Int32)), .val (.int (0 : Int32)), .val (.int (0 : Int32))] [(.int (1 : Int32))]))
            exact own_retN X11 hx hlk (t := .boolean) Bd.returns (by simp) (hb hby at_158) (by show Q0 Z p1 p2 p3 w_NONE w_SINGLE_QUOTES w_SINGLE_AND_DOUBLE_QUOTES h0 n0 _ T11.heap _; rw [e11q]; exact ⟨rfl, N11⟩) (by decide) (by decide)
  · -- no
    show Go p e below _ (s₁.setTop (mkF m 8 #[.val (.int p1), .val (.int p2), .val (.int p3), .val (.int k), .unset, .unset, .unset, .unset, .unset, .unset] [(.int k)]))
    show Go p e below _ (s₁.setTop (mkF m 8 #[.val (.int p1), .val (.int p2), .val (.int p3), .val (.int k), .unset, .unset, .unset, .unset, .unset, .unset] [(.int k)]))
    refine Go.via (fun _ => XS.ifYes X0.here hx rfl (pc0 := 8) (pc' := 19) rfl (hb hby at_8) rfl ((if0 _ _).trans (feq hc1).2) (by decide) (by decide)) ?_
    show Go p e below _ (s₁.setTop (mkF m 19 #[.val (.int p1), .val (.int p2), .val (.int p3), .val (.int k), .unset, .unset, .unset, .unset, .unset, .unset] []))
    refine Go.via (fun _ => XS.iloadN X0.here hx rfl (hb hby at_19) rfl) ?_
    show Go p e below _ (s₁.setTop (mkF m 20 #[.val (.int p1), .val (.int p2), .val (.int p3), .val (.int k), .unset, .unset, .unset, .unset, .unset, .unset] [(.int k)]))
    refine Go.via (fun _ => XS.iconst X0.here hx rfl (hb hby at_20)) ?_
    show Go p e below _ (s₁.setTop (mkF m 21 #[.val (.int p1), .val (.int p2), .val (.int p3), .val (.int k), .unset, .unset, .unset, .unset, .unset, .unset] [(.int (1 : Int32)), (.int k)]))
    by_cases hc12 : k = (1 : Int32)
    · -- yes
      subst hc12
      show Go p e below _ (s₁.setTop (mkF m 21 #[.val (.int p1), .val (.int p2), .val (.int p3), .val (.int (1 : Int32)), .unset, .unset, .unset, .unset, .unset, .unset] [(.int (1 : Int32)), (.int (1 : Int32))]))
      show Go p e below _ (s₁.setTop (mkF m 21 #[.val (.int p1), .val (.int p2), .val (.int p3), .val (.int (1 : Int32)), .unset, .unset, .unset, .unset, .unset, .unset] [(.int (1 : Int32)), (.int (1 : Int32))]))
      refine Go.via (fun _ => XS.icmpNo X0.here hx rfl (hb hby at_21) rfl (by decide)) ?_
      show Go p e below _ (s₁.setTop (mkF m 24 #[.val (.int p1), .val (.int p2), .val (.int p3), .val (.int (1 : Int32)), .unset, .unset, .unset, .unset, .unset, .unset] []))
      obtain ⟨T13, X13, e13, st13⟩ := getS2 X0 hx hZ hown (host := "") (Or.inl (hw _ (List.mem_of_getElem? (i := 10) rfl))) Via.refl e0 (S_SINGLE_QUOTES.ext O0.2) (g := (mkF m 24 #[.val (.int p1), .val (.int p2), .val (.int p3), .val (.int (1 : Int32)), .unset, .unset, .unset, .unset, .unset, .unset] [])) rfl (hb hby at_24)
      refine Go.via st13 ?_
      show Go p e below _ (T13.setTop (mkF m 27 #[.val (.int p1), .val (.int p2), .val (.int p3), .val (.int (1 : Int32)), .unset, .unset, .unset, .unset, .unset, .unset] [(.ref w_SINGLE_QUOTES)]))
      refine Go.via (fun _ => XS.astore X13.here hx rfl (hb hby at_27) rfl rfl (l' := #[.val (.int p1), .val (.int p2), .val (.int p3), .val (.int (1 : Int32)), .val (.ref w_SINGLE_QUOTES), .unset, .unset, .unset, .unset, .unset]) rfl) ?_
      show Go p e below _ (T13.setTop (mkF m 29 #[.val (.int p1), .val (.int p2), .val (.int p3), .val (.int (1 : Int32)), .val (.ref w_SINGLE_QUOTES), .unset, .unset, .unset, .unset, .unset] []))
      refine Go.via (fun _ => XS.goto X13.here hx rfl (pc0 := 29) (pc' := 37) rfl (hb hby at_29) (by decide) (by decide)) ?_
      show Go p e below _ (T13.setTop (mkF m 37 #[.val (.int p1), .val (.int p2), .val (.int p3), .val (.int (1 : Int32)), .val (.ref w_SINGLE_QUOTES), .unset, .unset, .unset, .unset, .unset] []))
      refine Go.via (fun _ => XS.iloadN X13.here hx rfl (hb hby at_37) rfl) ?_
      show Go p e below _ (T13.setTop (mkF m 38 #[.val (.int p1), .val (.int p2), .val (.int p3), .val (.int (1 : Int32)), .val (.ref w_SINGLE_QUOTES), .unset, .unset, .unset, .unset, .unset] [(.int p3)]))
      refine Go.via (fun _ => XS.iconst X13.here hx rfl (hb hby at_38)) ?_
      show Go p e below _ (T13.setTop (mkF m 39 #[.val (.int p1), .val (.int p2), .val (.int p3), .val (.int (1 : Int32)), .val (.ref w_SINGLE_QUOTES), .unset, .unset, .unset, .unset, .unset] [(.int (3 : Int32)), (.int p3)]))
      refine Go.via (fun _ => XS.iand X13.here hx rfl (hb hby at_39) rfl) ?_
      show Go p e below _ (T13.setTop (mkF m 40 #[.val (.int p1), .val (.int p2), .val (.int p3), .val (.int (1 : Int32)), .val (.ref w_SINGLE_QUOTES), .unset, .unset, .unset, .unset, .unset] [(.int (p3 &&& (3 : Int32)))]))
      generalize hss : (p3 &&& (3 : Int32)) = ss
      show Go p e below _ (T13.setTop (mkF m 40 #[.val (.int p1), .val (.int p2), .val (.int p3), .val (.int (1 : Int32)), .val (.ref w_SINGLE_QUOTES), .unset, .unset, .unset, .unset, .unset] [(.int ss)]))
      refine Go.via (fun _ => XS.istore X13.here hx rfl (hb hby at_40) rfl (l' := #[.val (.int p1), .val (.int p2), .val (.int p3), .val (.int (1 : Int32)), .val (.ref w_SINGLE_QUOTES), .val (.int ss), .unset, .unset, .unset, .unset]) rfl) ?_
      show Go p e below _ (T13.setTop (mkF m 42 #[.val (.int p1), .val (.int p2), .val (.int p3), .val (.int (1 : Int32)), .val (.ref w_SINGLE_QUOTES), .val (.int ss), .unset, .unset, .unset, .unset] []))
      refine Go.via (fun _ => XS.iload X13.here hx rfl (hb hby at_42) rfl) ?_
      show Go p e below _ (T13.setTop (mkF m 44 #[.val (.int p1), .val (.int p2), .val (.int p3), .val (.int (1 : Int32)), .val (.ref w_SINGLE_QUOTES), .val (.int ss), .unset, .unset, .unset, .unset] [(.int ss)]))
      by_cases hc14 : ss = (0 : Int32)
      · -- yes
        subst hc14
        show Go p e below _ (T13.setTop (mkF m 44 #[.val (.int p1), .val (.int p2), .val (.int p3), .val (.int (1 : Int32)), .val (.ref w_SINGLE_QUOTES), .val (.int (0 : Int32)), .unset, .unset, .unset, .unset] [(.int (0 : Int32))]))
        show Go p e below _ (T13.setTop (mkF m 44 #[.val (.int p1), .val (.int p2), .val (.int p3), .val (.int (1 : Int32)), .val (.ref w_SINGLE_QUOTES), .val (.int (0 : Int32)), .unset, .unset, .unset, .unset] [(.int (0 : Int32))]))
        refine Go.via (fun _ => XS.ifNo X13.here hx rfl (hb hby at_44) rfl (by decide)) ?_
        show Go p e below _ (T13.setTop (mkF m 47 #[.val (.int p1), .val (.int p2), .val (.int p3), .val (.int (1 : Int32)), .val (.ref w_SINGLE_QUOTES), .val (.int (0 : Int32)), .unset, .unset, .unset, .unset] []))
        refine Go.via (fun _ => XS.bipush X13.here hx rfl (hb hby at_47)) ?_
        show Go p e below _ (T13.setTop (mkF m 49 #[.val (.int p1), .val (.int p2), .val (.int p3), .val (.int (1 : Int32)), .val (.ref w_SINGLE_QUOTES), .val (.int (0 : Int32)), .unset, .unset, .unset, .unset] [(.int (39 : Int32))]))
        refine Go.via (fun _ => XS.istore X13.here hx rfl (hb hby at_49) rfl (l' := #[.val (.int p1), .val (.int p2), .val (.int p3), .val (.int (1 : Int32)), .val (.ref w_SINGLE_QUOTES), .val (.int (0 : Int32)), .val (.int (39 : Int32)), .unset, .unset, .unset]) rfl) ?_
        show Go p e below _ (T13.setTop (mkF m 51 #[.val (.int p1), .val (.int p2), .val (.int p3), .val (.int (1 : Int32)), .val (.ref w_SINGLE_QUOTES), .val (.int (0 : Int32)), .val (.int (39 : Int32)), .unset, .unset, .unset] []))
        refine Go.via (fun _ => XS.goto X13.here hx rfl (pc0 := 51) (pc' := 74) rfl (hb hby at_51) (by decide) (by decide)) ?_
        show Go p e below _ (T13.setTop (mkF m 74 #[.val (.int p1), .val (.int p2), .val (.int p3), .val (.int (1 : Int32)), .val (.ref w_SINGLE_QUOTES), .val (.int (0 : Int32)), .val (.int (39 : Int32)), .unset, .unset, .unset] []))
        refine Go.via (fun _ => XS.iload X13.here hx rfl (hb hby at_74) rfl) ?_
        show Go p e below _ (T13.setTop (mkF m 76 #[.val (.int p1), .val (.int p2), .val (.int p3), .val (.int (1 : Int32)), .val (.ref w_SINGLE_QUOTES), .val (.int (0 : Int32)), .val (.int (39 : Int32)), .unset, .unset, .unset] [(.int (39 : Int32))]))
        refine Go.via (fun _ => XS.bipush X13.here hx rfl (hb hby at_76)) ?_
        show Go p e below _ (T13.setTop (mkF m 78 #[.val (.int p1), .val (.int p2), .val (.int p3), .val (.int (1 : Int32)), .val (.ref w_SINGLE_QUOTES), .val (.int (0 : Int32)), .val (.int (39 : Int32)), .unset, .unset, .unset] [(.int (39 : Int32)), (.int (39 : Int32))]))
        refine Go.via (fun _ => XS.icmpNo X13.here hx rfl (hb hby at_78) rfl (by decide)) ?_
        show Go p e below _ (T13.setTop (mkF m 81 #[.val (.int p1), .val (.int p2), .val (.int p3), .val (.int (1 : Int32)), .val (.ref w_SINGLE_QUOTES), .val (.int (0 : Int32)), .val (.int (39 : Int32)), .unset, .unset, .unset] []))
        refine Go.via (fun _ => XS.iconst X13.here hx rfl (hb hby at_81)) ?_
        show Go p e below _ (T13.setTop (mkF m 82 #[.val (.int p1), .val (.int p2), .val (.int p3), .val (.int (1 : Int32)), .val (.ref w_SINGLE_QUOTES), .val (.int (0 : Int32)), .val (.int (39 : Int32)), .unset, .unset, .unset] [(.int (1 : Int32))]))
        refine Go.via (fun _ => XS.goto X13.here hx rfl (pc0 := 82) (pc' := 86) rfl (hb hby at_82) (by decide) (by decide)) ?_
        show Go p e below _ (T13.setTop (mkF m 86 #[.val (.int p1), .val (.int p2), .val (.int p3), .val (.int (1 : Int32)), .val (.ref w_SINGLE_QUOTES), .val (.int (0 : Int32)), .val (.int (39 : Int32)), .unset, .unset, .unset] [(.int (1 : Int32))]))
        refine Go.via (fun _ => XS.istore X13.here hx rfl (hb hby at_86) rfl (l' := #[.val (.int p1), .val (.int p2), .val (.int p3), .val (.int (1 : Int32)), .val (.ref w_SINGLE_QUOTES), .val (.int (0 : Int32)), .val (.int (39 : Int32)), .val (.int (1 : Int32)), .unset, .unset]) rfl) ?_
        show Go p e below _ (T13.setTop (mkF m 88 #[.val (.int p1), .val (.int p2), .val (.int p3), .val (.int (1 : Int32)), .val (.ref w_SINGLE_QUOTES), .val (.int (0 : Int32)), .val (.int (39 : Int32)), .val (.int (1 : Int32)), .unset, .unset] []))
        refine Go.via (fun _ => XS.iload X13.here hx rfl (hb hby at_88) rfl) ?_
        show Go p e below _ (T13.setTop (mkF m 90 #[.val (.int p1), .val (.int p2), .val (.int p3), .val (.int (1 : Int32)), .val (.ref w_SINGLE_QUOTES), .val (.int (0 : Int32)), .val (.int (39 : Int32)), .val (.int (1 : Int32)), .unset, .unset] [(.int (39 : Int32))]))
        refine Go.via (fun _ => XS.bipush X13.here hx rfl (hb hby at_90)) ?_
        show Go p e below _ (T13.setTop (mkF m 92 #[.val (.int p1), .val (.int p2), .val (.int p3), .val (.int (1 : Int32)), .val (.ref w_SINGLE_QUOTES), .val (.int (0 : Int32)), .val (.int (39 : Int32)), .val (.int (1 : Int32)), .unset, .unset] [(.int (34 : Int32)), (.int (39 : Int32))]))
        refine Go.via (fun _ => XS.icmpYes X13.here hx rfl (pc0 := 92) (pc' := 99) rfl (hb hby at_92) rfl (by decide) (by decide) (by decide)) ?_
        show Go p e below _ (T13.setTop (mkF m 99 #[.val (.int p1), .val (.int p2), .val (.int p3), .val (.int (1 : Int32)), .val (.ref w_SINGLE_QUOTES), .val (.int (0 : Int32)), .val (.int (39 : Int32)), .val (.int (1 : Int32)), .unset, .unset] []))
        refine Go.via (fun _ => XS.iconst X13.here hx rfl (hb hby at_99)) ?_
        show Go p e below _ (T13.setTop (mkF m 100 #[.val (.int p1), .val (.int p2), .val (.int p3), .val (.int (1 : Int32)), .val (.ref w_SINGLE_QUOTES), .val (.int (0 : Int32)), .val (.int (39 : Int32)), .val (.int (1 : Int32)), .unset, .unset] [(.int (0 : Int32))]))
        refine Go.via (fun _ => XS.istore X13.here hx rfl (hb hby at_100) rfl (l' := #[.val (.int p1), .val (.int p2), .val (.int p3), .val (.int (1 : Int32)), .val (.ref w_SINGLE_QUOTES), .val (.int (0 : Int32)), .val (.int (39 : Int32)), .val (.int (1 : Int32)), .val (.int (0 : Int32)), .unset]) rfl) ?_
        show Go p e below _ (T13.setTop (mkF m 102 #[.val (.int p1), .val (.int p2), .val (.int p3), .val (.int (1 : Int32)), .val (.ref w_SINGLE_QUOTES), .val (.int (0 : Int32)), .val (.int (39 : Int32)), .val (.int (1 : Int32)), .val (.int (0 : Int32)), .unset] []))
        refine Go.via (fun _ => XS.iloadN X13.here hx rfl (hb hby at_102) rfl) ?_
        show Go p e below _ (T13.setTop (mkF m 103 #[.val (.int p1), .val (.int p2), .val (.int p3), .val (.int (1 : Int32)), .val (.ref w_SINGLE_QUOTES), .val (.int (0 : Int32)), .val (.int (39 : Int32)), .val (.int (1 : Int32)), .val (.int (0 : Int32)), .unset] [(.int (1 : Int32))]))
        refine Go.via (fun _ => XS.ifYes X13.here hx rfl (pc0 := 103) (pc' := 112) rfl (hb hby at_103) rfl (by decide) (by decide) (by decide)) ?_
        show Go p e below _ (T13.setTop (mkF m 112 #[.val (.int p1), .val (.int p2), .val (.int p3), .val (.int (1 : Int32)), .val (.ref w_SINGLE_QUOTES), .val (.int (0 : Int32)), .val (.int (39 : Int32)), .val (.int (1 : Int32)), .val (.int (0 : Int32)), .unset] []))
        refine Go.via (fun _ => XS.iloadN X13.here hx rfl (hb hby at_112) rfl) ?_
        show Go p e below _ (T13.setTop (mkF m 113 #[.val (.int p1), .val (.int p2), .val (.int p3), .val (.int (1 : Int32)), .val (.ref w_SINGLE_QUOTES), .val (.int (0 : Int32)), .val (.int (39 : Int32)), .val (.int (1 : Int32)), .val (.int (0 : Int32)), .unset] [(.int (1 : Int32))]))
        refine Go.via (fun _ => XS.iconst X13.here hx rfl (hb hby at_113)) ?_
        show Go p e below _ (T13.setTop (mkF m 114 #[.val (.int p1), .val (.int p2), .val (.int p3), .val (.int (1 : Int32)), .val (.ref w_SINGLE_QUOTES), .val (.int (0 : Int32)), .val (.int (39 : Int32)), .val (.int (1 : Int32)), .val (.int (0 : Int32)), .unset] [(.int (1 : Int32)), (.int (1 : Int32))]))
        refine Go.via (fun _ => XS.icmpNo X13.here hx rfl (hb hby at_114) rfl (by decide)) ?_
        show Go p e below _ (T13.setTop (mkF m 117 #[.val (.int p1), .val (.int p2), .val (.int p3), .val (.int (1 : Int32)), .val (.ref w_SINGLE_QUOTES), .val (.int (0 : Int32)), .val (.int (39 : Int32)), .val (.int (1 : Int32)), .val (.int (0 : Int32)), .unset] []))
        refine Go.via (fun _ => XS.iload X13.here hx rfl (hb hby at_117) rfl) ?_
        show Go p e below _ (T13.setTop (mkF m 119 #[.val (.int p1), .val (.int p2), .val (.int p3), .val (.int (1 : Int32)), .val (.ref w_SINGLE_QUOTES), .val (.int (0 : Int32)), .val (.int (39 : Int32)), .val (.int (1 : Int32)), .val (.int (0 : Int32)), .unset] [(.int (1 : Int32))]))
        refine Go.via (fun _ => XS.istore X13.here hx rfl (hb hby at_119) rfl (l' := #[.val (.int p1), .val (.int p2), .val (.int p3), .val (.int (1 : Int32)), .val (.ref w_SINGLE_QUOTES), .val (.int (0 : Int32)), .val (.int (39 : Int32)), .val (.int (1 : Int32)), .val (.int (0 : Int32)), .val (.int (1 : Int32))]) rfl) ?_
        show Go p e below _ (T13.setTop (mkF m 121 #[.val (.int p1), .val (.int p2), .val (.int p3), .val (.int (1 : Int32)), .val (.ref w_SINGLE_QUOTES), .val (.int (0 : Int32)), .val (.int (39 : Int32)), .val (.int (1 : Int32)), .val (.int (0 : Int32)), .val (.int (1 : Int32))] []))
        refine Go.via (fun _ => XS.goto X13.here hx rfl (pc0 := 121) (pc' := 141) rfl (hb hby at_121) (by decide) (by decide)) ?_
        show Go p e below _ (T13.setTop (mkF m 141 #[.val (.int p1), .val (.int p2), .val (.int p3), .val (.int (1 : Int32)), .val (.ref w_SINGLE_QUOTES), .val (.int (0 : Int32)), .val (.int (39 : Int32)), .val (.int (1 : Int32)), .val (.int (0 : Int32)), .val (.int (1 : Int32))] []))
        refine Go.via (fun _ => XS.aload X13.here hx rfl (hb hby at_141) rfl rfl) ?_
        show Go p e below _ (T13.setTop (mkF m 143 #[.val (.int p1), .val (.int p2), .val (.int p3), .val (.int (1 : Int32)), .val (.ref w_SINGLE_QUOTES), .val (.int (0 : Int32)), .val (.int (39 : Int32)), .val (.int (1 : Int32)), .val (.int (0 : Int32)), .val (.int (1 : Int32))] [(.ref w_SINGLE_QUOTES)]))
        refine Go.via (fun _ => XS.iload X13.here hx rfl (hb hby at_143) rfl) ?_
        show Go p e below _ (T13.setTop (mkF m 145 #[.val (.int p1), .val (.int p2), .val (.int p3), .val (.int (1 : Int32)), .val (.ref w_SINGLE_QUOTES), .val (.int (0 : Int32)), .val (.int (39 : Int32)), .val (.int (1 : Int32)), .val (.int (0 : Int32)), .val (.int (1 : Int32))] [(.int (39 : Int32)), (.ref w_SINGLE_QUOTES)]))
        obtain ⟨cq15, kq15, q15a, q15b, q15c⟩ := isOf hZ e13 (E_SINGLE_QUOTES.ext O0.2)
        obtain ⟨_, _, ⟨T15, L15, k15, n15⟩, -, X15, ⟨Lc15, hQ15, l15, y15, z15⟩, st15⟩ := X13.virtualBack hx (y := (⟨"com/example/waymark/waymark/BackslashEscapes", "in", "(C)Z"⟩ : MethodName)) (z := (⟨"com/example/waymark/waymark/BackslashEscapes", "in", "(C)Z"⟩ : MethodName)) hown (mvT hZ (hw _ (List.mem_of_getElem? (i := 5) rfl))) (mvT hZ (hw _ (List.mem_of_getElem? (i := 6) rfl))) (notFace_of_selects (args := #[]) (mvT hZ (hw _ (List.mem_of_getElem? (i := 8) rfl)))) (mvT hZ (hw _ (List.mem_of_getElem? (i := 8) rfl))) (mvT hZ (hw _ (List.mem_of_getElem? (i := 7) rfl))) (by decide) (backOf (W := 0) (rm1_1_39 l Z a0 hw []  w_NONE w_SINGLE_QUOTES w_SINGLE_AND_DOUBLE_QUOTES h0 n0 Z0 O0 S_NONE S_SINGLE_QUOTES S_SINGLE_AND_DOUBLE_QUOTES ne_NONE_SINGLE_QUOTES ne_NONE_SINGLE_AND_DOUBLE_QUOTES ne_SINGLE_QUOTES_SINGLE_AND_DOUBLE_QUOTES ) hZ (hw _ (List.mem_of_getElem? (i := 9) rfl)) (hw _ (List.mem_of_getElem? (i := 2) rfl)) (by decide) (by decide)) q15a q15c (g := (mkF m 145 #[.val (.int p1), .val (.int p2), .val (.int p3), .val (.int (1 : Int32)), .val (.ref w_SINGLE_QUOTES), .val (.int (0 : Int32)), .val (.int (39 : Int32)), .val (.int (1 : Int32)), .val (.int (0 : Int32)), .val (.int (1 : Int32))] [(.int (39 : Int32)), (.ref w_SINGLE_QUOTES)])) rfl (by rw [hml]; rfl) (Steps.refl _) (argsL := [(.int (39 : Int32))]) (rest := []) (lenOf pd_0 rfl) rfl (by show 2 * 0 + _ ≤ _; exact Nat.le_of_eq rfl) (hb hby at_145) (fun _ _ => ⟨rfl, e13, (by decide : 0 + 0 ≤ _), (by decide : 0 + 0 ≤ _)⟩)
        dsimp only [Pt.U, Pt.locs, Pt.cells, Pt.slots] at X15 l15 y15 z15 st15 hQ15
        subst l15 y15 z15
        obtain ⟨rfl, N15q, e15q⟩ := hQ15
        have N15 := Fr.app N0 N15q
        refine Go.tr st15 ?_
        show Go p e below _ (T15.setTop (mkF m 148 #[.val (.int p1), .val (.int p2), .val (.int p3), .val (.int (1 : Int32)), .val (.ref w_SINGLE_QUOTES), .val (.int (0 : Int32)), .val (.int (39 : Int32)), .val (.int (1 : Int32)), .val (.int (0 : Int32)), .val (.int (1 : Int32))] [(.int (1 : Int32))]))
        refine Go.via (fun _ => XS.iload X15.here hx rfl (hb hby at_148) rfl) ?_
        show Go p e below _ (T15.setTop (mkF m 150 #[.val (.int p1), .val (.int p2), .val (.int p3), .val (.int (1 : Int32)), .val (.ref w_SINGLE_QUOTES), .val (.int (0 : Int32)), .val (.int (39 : Int32)), .val (.int (1 : Int32)), .val (.int (0 : Int32)), .val (.int (1 : Int32))] [(.int (1 : Int32)), (.int (1 : Int32))]))
        refine Go.via (fun _ => XS.icmpNo X15.here hx rfl (hb hby at_150) rfl (by decide)) ?_
        show Go p e below _ (T15.setTop (mkF m 153 #[.val (.int p1), .val (.int p2), .val (.int p3), .val (.int (1 : Int32)), .val (.ref w_SINGLE_QUOTES), .val (.int (0 : Int32)), .val (.int (39 : Int32)), .val (.int (1 : Int32)), .val (.int (0 : Int32)), .val (.int (1 : Int32))] []))
        refine Go.via (fun _ => XS.iconst X15.here hx rfl (hb hby at_153)) ?_
        show Go p e below _ (T15.setTop (mkF m 154 #[.val (.int p1), .val (.int p2), .val (.int p3), .val (.int (1 : Int32)), .val (.ref w_SINGLE_QUOTES), .val (.int (0 : Int32)), .val (.int (39 : Int32)), .val (.int (1 : Int32)), .val (.int (0 : Int32)), .val (.int (1 : Int32))] [(.int (1 : Int32))]))
        refine Go.via (fun _ => XS.goto X15.here hx rfl (pc0 := 154) (pc' := 158) rfl (hb hby at_154) (by decide) (by decide)) ?_
        show Go p e below _ (T15.setTop (mkF m 158 #[.val (.int p1), .val (.int p2), .val (.int p3), .val (.int (1 : Int32)), .val (.ref w_SINGLE_QUOTES), .val (.int (0 : Int32)), .val (.int (39 : Int32)), .val (.int (1 : Int32)), .val (.int (0 : Int32)), .val (.int (1 : Int32))] [(.int (1 : Int32))]))
        exact own_retN X15 hx hlk (t := .boolean) Bd.returns (by simp) (hb hby at_158) (by show Q0 Z p1 p2 p3 w_NONE w_SINGLE_QUOTES w_SINGLE_AND_DOUBLE_QUOTES h0 n0 _ T15.heap _; rw [e15q]; exact ⟨rfl, N15⟩) (by decide) (by decide)
      · -- no
        show Go p e below _ (T13.setTop (mkF m 44 #[.val (.int p1), .val (.int p2), .val (.int p3), .val (.int (1 : Int32)), .val (.ref w_SINGLE_QUOTES), .val (.int ss), .unset, .unset, .unset, .unset] [(.int ss)]))
        show Go p e below _ (T13.setTop (mkF m 44 #[.val (.int p1), .val (.int p2), .val (.int p3), .val (.int (1 : Int32)), .val (.ref w_SINGLE_QUOTES), .val (.int ss), .unset, .unset, .unset, .unset] [(.int ss)]))
        refine Go.via (fun _ => XS.ifYes X13.here hx rfl (pc0 := 44) (pc' := 54) rfl (hb hby at_44) rfl ((if0 _ _).trans (feq hc14).2) (by decide) (by decide)) ?_
        show Go p e below _ (T13.setTop (mkF m 54 #[.val (.int p1), .val (.int p2), .val (.int p3), .val (.int (1 : Int32)), .val (.ref w_SINGLE_QUOTES), .val (.int ss), .unset, .unset, .unset, .unset] []))
        refine Go.via (fun _ => XS.iload X13.here hx rfl (hb hby at_54) rfl) ?_
        show Go p e below _ (T13.setTop (mkF m 56 #[.val (.int p1), .val (.int p2), .val (.int p3), .val (.int (1 : Int32)), .val (.ref w_SINGLE_QUOTES), .val (.int ss), .unset, .unset, .unset, .unset] [(.int ss)]))
        refine Go.via (fun _ => XS.iconst X13.here hx rfl (hb hby at_56)) ?_
        show Go p e below _ (T13.setTop (mkF m 57 #[.val (.int p1), .val (.int p2), .val (.int p3), .val (.int (1 : Int32)), .val (.ref w_SINGLE_QUOTES), .val (.int ss), .unset, .unset, .unset, .unset] [(.int (1 : Int32)), (.int ss)]))
        by_cases hc16 : ss = (1 : Int32)
        · -- yes
          subst hc16
          show Go p e below _ (T13.setTop (mkF m 57 #[.val (.int p1), .val (.int p2), .val (.int p3), .val (.int (1 : Int32)), .val (.ref w_SINGLE_QUOTES), .val (.int (1 : Int32)), .unset, .unset, .unset, .unset] [(.int (1 : Int32)), (.int (1 : Int32))]))
          show Go p e below _ (T13.setTop (mkF m 57 #[.val (.int p1), .val (.int p2), .val (.int p3), .val (.int (1 : Int32)), .val (.ref w_SINGLE_QUOTES), .val (.int (1 : Int32)), .unset, .unset, .unset, .unset] [(.int (1 : Int32)), (.int (1 : Int32))]))
          refine Go.via (fun _ => XS.icmpNo X13.here hx rfl (hb hby at_57) rfl (by decide)) ?_
          show Go p e below _ (T13.setTop (mkF m 60 #[.val (.int p1), .val (.int p2), .val (.int p3), .val (.int (1 : Int32)), .val (.ref w_SINGLE_QUOTES), .val (.int (1 : Int32)), .unset, .unset, .unset, .unset] []))
          refine Go.via (fun _ => XS.bipush X13.here hx rfl (hb hby at_60)) ?_
          show Go p e below _ (T13.setTop (mkF m 62 #[.val (.int p1), .val (.int p2), .val (.int p3), .val (.int (1 : Int32)), .val (.ref w_SINGLE_QUOTES), .val (.int (1 : Int32)), .unset, .unset, .unset, .unset] [(.int (34 : Int32))]))
          refine Go.via (fun _ => XS.istore X13.here hx rfl (hb hby at_62) rfl (l' := #[.val (.int p1), .val (.int p2), .val (.int p3), .val (.int (1 : Int32)), .val (.ref w_SINGLE_QUOTES), .val (.int (1 : Int32)), .val (.int (34 : Int32)), .unset, .unset, .unset]) rfl) ?_
          show Go p e below _ (T13.setTop (mkF m 64 #[.val (.int p1), .val (.int p2), .val (.int p3), .val (.int (1 : Int32)), .val (.ref w_SINGLE_QUOTES), .val (.int (1 : Int32)), .val (.int (34 : Int32)), .unset, .unset, .unset] []))
          refine Go.via (fun _ => XS.goto X13.here hx rfl (pc0 := 64) (pc' := 74) rfl (hb hby at_64) (by decide) (by decide)) ?_
          show Go p e below _ (T13.setTop (mkF m 74 #[.val (.int p1), .val (.int p2), .val (.int p3), .val (.int (1 : Int32)), .val (.ref w_SINGLE_QUOTES), .val (.int (1 : Int32)), .val (.int (34 : Int32)), .unset, .unset, .unset] []))
          refine Go.via (fun _ => XS.iload X13.here hx rfl (hb hby at_74) rfl) ?_
          show Go p e below _ (T13.setTop (mkF m 76 #[.val (.int p1), .val (.int p2), .val (.int p3), .val (.int (1 : Int32)), .val (.ref w_SINGLE_QUOTES), .val (.int (1 : Int32)), .val (.int (34 : Int32)), .unset, .unset, .unset] [(.int (34 : Int32))]))
          refine Go.via (fun _ => XS.bipush X13.here hx rfl (hb hby at_76)) ?_
          show Go p e below _ (T13.setTop (mkF m 78 #[.val (.int p1), .val (.int p2), .val (.int p3), .val (.int (1 : Int32)), .val (.ref w_SINGLE_QUOTES), .val (.int (1 : Int32)), .val (.int (34 : Int32)), .unset, .unset, .unset] [(.int (39 : Int32)), (.int (34 : Int32))]))
          refine Go.via (fun _ => XS.icmpYes X13.here hx rfl (pc0 := 78) (pc' := 85) rfl (hb hby at_78) rfl (by decide) (by decide) (by decide)) ?_
          show Go p e below _ (T13.setTop (mkF m 85 #[.val (.int p1), .val (.int p2), .val (.int p3), .val (.int (1 : Int32)), .val (.ref w_SINGLE_QUOTES), .val (.int (1 : Int32)), .val (.int (34 : Int32)), .unset, .unset, .unset] []))
          refine Go.via (fun _ => XS.iconst X13.here hx rfl (hb hby at_85)) ?_
          show Go p e below _ (T13.setTop (mkF m 86 #[.val (.int p1), .val (.int p2), .val (.int p3), .val (.int (1 : Int32)), .val (.ref w_SINGLE_QUOTES), .val (.int (1 : Int32)), .val (.int (34 : Int32)), .unset, .unset, .unset] [(.int (0 : Int32))]))
          refine Go.via (fun _ => XS.istore X13.here hx rfl (hb hby at_86) rfl (l' := #[.val (.int p1), .val (.int p2), .val (.int p3), .val (.int (1 : Int32)), .val (.ref w_SINGLE_QUOTES), .val (.int (1 : Int32)), .val (.int (34 : Int32)), .val (.int (0 : Int32)), .unset, .unset]) rfl) ?_
          show Go p e below _ (T13.setTop (mkF m 88 #[.val (.int p1), .val (.int p2), .val (.int p3), .val (.int (1 : Int32)), .val (.ref w_SINGLE_QUOTES), .val (.int (1 : Int32)), .val (.int (34 : Int32)), .val (.int (0 : Int32)), .unset, .unset] []))
          refine Go.via (fun _ => XS.iload X13.here hx rfl (hb hby at_88) rfl) ?_
          show Go p e below _ (T13.setTop (mkF m 90 #[.val (.int p1), .val (.int p2), .val (.int p3), .val (.int (1 : Int32)), .val (.ref w_SINGLE_QUOTES), .val (.int (1 : Int32)), .val (.int (34 : Int32)), .val (.int (0 : Int32)), .unset, .unset] [(.int (34 : Int32))]))
          refine Go.via (fun _ => XS.bipush X13.here hx rfl (hb hby at_90)) ?_
          show Go p e below _ (T13.setTop (mkF m 92 #[.val (.int p1), .val (.int p2), .val (.int p3), .val (.int (1 : Int32)), .val (.ref w_SINGLE_QUOTES), .val (.int (1 : Int32)), .val (.int (34 : Int32)), .val (.int (0 : Int32)), .unset, .unset] [(.int (34 : Int32)), (.int (34 : Int32))]))
          refine Go.via (fun _ => XS.icmpNo X13.here hx rfl (hb hby at_92) rfl (by decide)) ?_
          show Go p e below _ (T13.setTop (mkF m 95 #[.val (.int p1), .val (.int p2), .val (.int p3), .val (.int (1 : Int32)), .val (.ref w_SINGLE_QUOTES), .val (.int (1 : Int32)), .val (.int (34 : Int32)), .val (.int (0 : Int32)), .unset, .unset] []))
          refine Go.via (fun _ => XS.iconst X13.here hx rfl (hb hby at_95)) ?_
          show Go p e below _ (T13.setTop (mkF m 96 #[.val (.int p1), .val (.int p2), .val (.int p3), .val (.int (1 : Int32)), .val (.ref w_SINGLE_QUOTES), .val (.int (1 : Int32)), .val (.int (34 : Int32)), .val (.int (0 : Int32)), .unset, .unset] [(.int (1 : Int32))]))
          refine Go.via (fun _ => XS.goto X13.here hx rfl (pc0 := 96) (pc' := 100) rfl (hb hby at_96) (by decide) (by decide)) ?_
          show Go p e below _ (T13.setTop (mkF m 100 #[.val (.int p1), .val (.int p2), .val (.int p3), .val (.int (1 : Int32)), .val (.ref w_SINGLE_QUOTES), .val (.int (1 : Int32)), .val (.int (34 : Int32)), .val (.int (0 : Int32)), .unset, .unset] [(.int (1 : Int32))]))
          refine Go.via (fun _ => XS.istore X13.here hx rfl (hb hby at_100) rfl (l' := #[.val (.int p1), .val (.int p2), .val (.int p3), .val (.int (1 : Int32)), .val (.ref w_SINGLE_QUOTES), .val (.int (1 : Int32)), .val (.int (34 : Int32)), .val (.int (0 : Int32)), .val (.int (1 : Int32)), .unset]) rfl) ?_
          show Go p e below _ (T13.setTop (mkF m 102 #[.val (.int p1), .val (.int p2), .val (.int p3), .val (.int (1 : Int32)), .val (.ref w_SINGLE_QUOTES), .val (.int (1 : Int32)), .val (.int (34 : Int32)), .val (.int (0 : Int32)), .val (.int (1 : Int32)), .unset] []))
          refine Go.via (fun _ => XS.iloadN X13.here hx rfl (hb hby at_102) rfl) ?_
          show Go p e below _ (T13.setTop (mkF m 103 #[.val (.int p1), .val (.int p2), .val (.int p3), .val (.int (1 : Int32)), .val (.ref w_SINGLE_QUOTES), .val (.int (1 : Int32)), .val (.int (34 : Int32)), .val (.int (0 : Int32)), .val (.int (1 : Int32)), .unset] [(.int (1 : Int32))]))
          refine Go.via (fun _ => XS.ifYes X13.here hx rfl (pc0 := 103) (pc' := 112) rfl (hb hby at_103) rfl (by decide) (by decide) (by decide)) ?_
          show Go p e below _ (T13.setTop (mkF m 112 #[.val (.int p1), .val (.int p2), .val (.int p3), .val (.int (1 : Int32)), .val (.ref w_SINGLE_QUOTES), .val (.int (1 : Int32)), .val (.int (34 : Int32)), .val (.int (0 : Int32)), .val (.int (1 : Int32)), .unset] []))
          refine Go.via (fun _ => XS.iloadN X13.here hx rfl (hb hby at_112) rfl) ?_
          show Go p e below _ (T13.setTop (mkF m 113 #[.val (.int p1), .val (.int p2), .val (.int p3), .val (.int (1 : Int32)), .val (.ref w_SINGLE_QUOTES), .val (.int (1 : Int32)), .val (.int (34 : Int32)), .val (.int (0 : Int32)), .val (.int (1 : Int32)), .unset] [(.int (1 : Int32))]))
          refine Go.via (fun _ => XS.iconst X13.here hx rfl (hb hby at_113)) ?_
          show Go p e below _ (T13.setTop (mkF m 114 #[.val (.int p1), .val (.int p2), .val (.int p3), .val (.int (1 : Int32)), .val (.ref w_SINGLE_QUOTES), .val (.int (1 : Int32)), .val (.int (34 : Int32)), .val (.int (0 : Int32)), .val (.int (1 : Int32)), .unset] [(.int (1 : Int32)), (.int (1 : Int32))]))
          refine Go.via (fun _ => XS.icmpNo X13.here hx rfl (hb hby at_114) rfl (by decide)) ?_
          show Go p e below _ (T13.setTop (mkF m 117 #[.val (.int p1), .val (.int p2), .val (.int p3), .val (.int (1 : Int32)), .val (.ref w_SINGLE_QUOTES), .val (.int (1 : Int32)), .val (.int (34 : Int32)), .val (.int (0 : Int32)), .val (.int (1 : Int32)), .unset] []))
          refine Go.via (fun _ => XS.iload X13.here hx rfl (hb hby at_117) rfl) ?_
          show Go p e below _ (T13.setTop (mkF m 119 #[.val (.int p1), .val (.int p2), .val (.int p3), .val (.int (1 : Int32)), .val (.ref w_SINGLE_QUOTES), .val (.int (1 : Int32)), .val (.int (34 : Int32)), .val (.int (0 : Int32)), .val (.int (1 : Int32)), .unset] [(.int (0 : Int32))]))
          refine Go.via (fun _ => XS.istore X13.here hx rfl (hb hby at_119) rfl (l' := #[.val (.int p1), .val (.int p2), .val (.int p3), .val (.int (1 : Int32)), .val (.ref w_SINGLE_QUOTES), .val (.int (1 : Int32)), .val (.int (34 : Int32)), .val (.int (0 : Int32)), .val (.int (1 : Int32)), .val (.int (0 : Int32))]) rfl) ?_
          show Go p e below _ (T13.setTop (mkF m 121 #[.val (.int p1), .val (.int p2), .val (.int p3), .val (.int (1 : Int32)), .val (.ref w_SINGLE_QUOTES), .val (.int (1 : Int32)), .val (.int (34 : Int32)), .val (.int (0 : Int32)), .val (.int (1 : Int32)), .val (.int (0 : Int32))] []))
          refine Go.via (fun _ => XS.goto X13.here hx rfl (pc0 := 121) (pc' := 141) rfl (hb hby at_121) (by decide) (by decide)) ?_
          show Go p e below _ (T13.setTop (mkF m 141 #[.val (.int p1), .val (.int p2), .val (.int p3), .val (.int (1 : Int32)), .val (.ref w_SINGLE_QUOTES), .val (.int (1 : Int32)), .val (.int (34 : Int32)), .val (.int (0 : Int32)), .val (.int (1 : Int32)), .val (.int (0 : Int32))] []))
          refine Go.via (fun _ => XS.aload X13.here hx rfl (hb hby at_141) rfl rfl) ?_
          show Go p e below _ (T13.setTop (mkF m 143 #[.val (.int p1), .val (.int p2), .val (.int p3), .val (.int (1 : Int32)), .val (.ref w_SINGLE_QUOTES), .val (.int (1 : Int32)), .val (.int (34 : Int32)), .val (.int (0 : Int32)), .val (.int (1 : Int32)), .val (.int (0 : Int32))] [(.ref w_SINGLE_QUOTES)]))
          refine Go.via (fun _ => XS.iload X13.here hx rfl (hb hby at_143) rfl) ?_
          show Go p e below _ (T13.setTop (mkF m 145 #[.val (.int p1), .val (.int p2), .val (.int p3), .val (.int (1 : Int32)), .val (.ref w_SINGLE_QUOTES), .val (.int (1 : Int32)), .val (.int (34 : Int32)), .val (.int (0 : Int32)), .val (.int (1 : Int32)), .val (.int (0 : Int32))] [(.int (34 : Int32)), (.ref w_SINGLE_QUOTES)]))
          obtain ⟨cq17, kq17, q17a, q17b, q17c⟩ := isOf hZ e13 (E_SINGLE_QUOTES.ext O0.2)
          obtain ⟨_, _, ⟨T17, L17, k17, n17⟩, -, X17, ⟨Lc17, hQ17, l17, y17, z17⟩, st17⟩ := X13.virtualBack hx (y := (⟨"com/example/waymark/waymark/BackslashEscapes", "in", "(C)Z"⟩ : MethodName)) (z := (⟨"com/example/waymark/waymark/BackslashEscapes", "in", "(C)Z"⟩ : MethodName)) hown (mvT hZ (hw _ (List.mem_of_getElem? (i := 5) rfl))) (mvT hZ (hw _ (List.mem_of_getElem? (i := 6) rfl))) (notFace_of_selects (args := #[]) (mvT hZ (hw _ (List.mem_of_getElem? (i := 8) rfl)))) (mvT hZ (hw _ (List.mem_of_getElem? (i := 8) rfl))) (mvT hZ (hw _ (List.mem_of_getElem? (i := 7) rfl))) (by decide) (backOf (W := 0) (rm1_1_34 l Z a0 hw []  w_NONE w_SINGLE_QUOTES w_SINGLE_AND_DOUBLE_QUOTES h0 n0 Z0 O0 S_NONE S_SINGLE_QUOTES S_SINGLE_AND_DOUBLE_QUOTES ne_NONE_SINGLE_QUOTES ne_NONE_SINGLE_AND_DOUBLE_QUOTES ne_SINGLE_QUOTES_SINGLE_AND_DOUBLE_QUOTES ) hZ (hw _ (List.mem_of_getElem? (i := 9) rfl)) (hw _ (List.mem_of_getElem? (i := 2) rfl)) (by decide) (by decide)) q17a q17c (g := (mkF m 145 #[.val (.int p1), .val (.int p2), .val (.int p3), .val (.int (1 : Int32)), .val (.ref w_SINGLE_QUOTES), .val (.int (1 : Int32)), .val (.int (34 : Int32)), .val (.int (0 : Int32)), .val (.int (1 : Int32)), .val (.int (0 : Int32))] [(.int (34 : Int32)), (.ref w_SINGLE_QUOTES)])) rfl (by rw [hml]; rfl) (Steps.refl _) (argsL := [(.int (34 : Int32))]) (rest := []) (lenOf pd_0 rfl) rfl (by show 2 * 0 + _ ≤ _; exact Nat.le_of_eq rfl) (hb hby at_145) (fun _ _ => ⟨rfl, e13, (by decide : 0 + 0 ≤ _), (by decide : 0 + 0 ≤ _)⟩)
          dsimp only [Pt.U, Pt.locs, Pt.cells, Pt.slots] at X17 l17 y17 z17 st17 hQ17
          subst l17 y17 z17
          obtain ⟨rfl, N17q, e17q⟩ := hQ17
          have N17 := Fr.app N0 N17q
          refine Go.tr st17 ?_
          show Go p e below _ (T17.setTop (mkF m 148 #[.val (.int p1), .val (.int p2), .val (.int p3), .val (.int (1 : Int32)), .val (.ref w_SINGLE_QUOTES), .val (.int (1 : Int32)), .val (.int (34 : Int32)), .val (.int (0 : Int32)), .val (.int (1 : Int32)), .val (.int (0 : Int32))] [(.int (0 : Int32))]))
          refine Go.via (fun _ => XS.iload X17.here hx rfl (hb hby at_148) rfl) ?_
          show Go p e below _ (T17.setTop (mkF m 150 #[.val (.int p1), .val (.int p2), .val (.int p3), .val (.int (1 : Int32)), .val (.ref w_SINGLE_QUOTES), .val (.int (1 : Int32)), .val (.int (34 : Int32)), .val (.int (0 : Int32)), .val (.int (1 : Int32)), .val (.int (0 : Int32))] [(.int (0 : Int32)), (.int (0 : Int32))]))
          refine Go.via (fun _ => XS.icmpNo X17.here hx rfl (hb hby at_150) rfl (by decide)) ?_
          show Go p e below _ (T17.setTop (mkF m 153 #[.val (.int p1), .val (.int p2), .val (.int p3), .val (.int (1 : Int32)), .val (.ref w_SINGLE_QUOTES), .val (.int (1 : Int32)), .val (.int (34 : Int32)), .val (.int (0 : Int32)), .val (.int (1 : Int32)), .val (.int (0 : Int32))] []))
          refine Go.via (fun _ => XS.iconst X17.here hx rfl (hb hby at_153)) ?_
          show Go p e below _ (T17.setTop (mkF m 154 #[.val (.int p1), .val (.int p2), .val (.int p3), .val (.int (1 : Int32)), .val (.ref w_SINGLE_QUOTES), .val (.int (1 : Int32)), .val (.int (34 : Int32)), .val (.int (0 : Int32)), .val (.int (1 : Int32)), .val (.int (0 : Int32))] [(.int (1 : Int32))]))
          refine Go.via (fun _ => XS.goto X17.here hx rfl (pc0 := 154) (pc' := 158) rfl (hb hby at_154) (by decide) (by decide)) ?_
          show Go p e below _ (T17.setTop (mkF m 158 #[.val (.int p1), .val (.int p2), .val (.int p3), .val (.int (1 : Int32)), .val (.ref w_SINGLE_QUOTES), .val (.int (1 : Int32)), .val (.int (34 : Int32)), .val (.int (0 : Int32)), .val (.int (1 : Int32)), .val (.int (0 : Int32))] [(.int (1 : Int32))]))
          exact own_retN X17 hx hlk (t := .boolean) Bd.returns (by simp) (hb hby at_158) (by show Q0 Z p1 p2 p3 w_NONE w_SINGLE_QUOTES w_SINGLE_AND_DOUBLE_QUOTES h0 n0 _ T17.heap _; rw [e17q]; exact ⟨rfl, N17⟩) (by decide) (by decide)
        · -- no
          show Go p e below _ (T13.setTop (mkF m 57 #[.val (.int p1), .val (.int p2), .val (.int p3), .val (.int (1 : Int32)), .val (.ref w_SINGLE_QUOTES), .val (.int ss), .unset, .unset, .unset, .unset] [(.int (1 : Int32)), (.int ss)]))
          show Go p e below _ (T13.setTop (mkF m 57 #[.val (.int p1), .val (.int p2), .val (.int p3), .val (.int (1 : Int32)), .val (.ref w_SINGLE_QUOTES), .val (.int ss), .unset, .unset, .unset, .unset] [(.int (1 : Int32)), (.int ss)]))
          refine Go.via (fun _ => XS.icmpYes X13.here hx rfl (pc0 := 57) (pc' := 67) rfl (hb hby at_57) rfl (feq hc16).2 (by decide) (by decide)) ?_
          show Go p e below _ (T13.setTop (mkF m 67 #[.val (.int p1), .val (.int p2), .val (.int p3), .val (.int (1 : Int32)), .val (.ref w_SINGLE_QUOTES), .val (.int ss), .unset, .unset, .unset, .unset] []))
          refine Go.via (fun _ => XS.iloadN X13.here hx rfl (hb hby at_67) rfl) ?_
          show Go p e below _ (T13.setTop (mkF m 68 #[.val (.int p1), .val (.int p2), .val (.int p3), .val (.int (1 : Int32)), .val (.ref w_SINGLE_QUOTES), .val (.int ss), .unset, .unset, .unset, .unset] [(.int p2)]))
          refine Go.via (X13.ldcInt hx hown (mvT hZ (hw _ (List.mem_of_getElem? (i := 4) rfl))) (g := (mkF m 68 #[.val (.int p1), .val (.int p2), .val (.int p3), .val (.int (1 : Int32)), .val (.ref w_SINGLE_QUOTES), .val (.int ss), .unset, .unset, .unset, .unset] [(.int p2)])) rfl (hb hby at_68)) ?_
          show Go p e below _ (T13.setTop (mkF m 70 #[.val (.int p1), .val (.int p2), .val (.int p3), .val (.int (1 : Int32)), .val (.ref w_SINGLE_QUOTES), .val (.int ss), .unset, .unset, .unset, .unset] [(.int (65535 : Int32)), (.int p2)]))
          refine Go.via (fun _ => XS.iand X13.here hx rfl (hb hby at_70) rfl) ?_
          show Go p e below _ (T13.setTop (mkF m 71 #[.val (.int p1), .val (.int p2), .val (.int p3), .val (.int (1 : Int32)), .val (.ref w_SINGLE_QUOTES), .val (.int ss), .unset, .unset, .unset, .unset] [(.int (p2 &&& (65535 : Int32)))]))
          refine Go.via (fun _ => XS.i2c X13.here hx rfl (hb hby at_71) rfl) ?_
          show Go p e below _ (T13.setTop (mkF m 72 #[.val (.int p1), .val (.int p2), .val (.int p3), .val (.int (1 : Int32)), .val (.ref w_SINGLE_QUOTES), .val (.int ss), .unset, .unset, .unset, .unset] [(.int ((p2 &&& (65535 : Int32)).toUInt32.toUInt16.toUInt32.toInt32))]))
          generalize hq : ((p2 &&& (65535 : Int32)).toUInt32.toUInt16.toUInt32.toInt32) = q
          show Go p e below _ (T13.setTop (mkF m 72 #[.val (.int p1), .val (.int p2), .val (.int p3), .val (.int (1 : Int32)), .val (.ref w_SINGLE_QUOTES), .val (.int ss), .unset, .unset, .unset, .unset] [(.int q)]))
          refine Go.via (fun _ => XS.istore X13.here hx rfl (hb hby at_72) rfl (l' := #[.val (.int p1), .val (.int p2), .val (.int p3), .val (.int (1 : Int32)), .val (.ref w_SINGLE_QUOTES), .val (.int ss), .val (.int q), .unset, .unset, .unset]) rfl) ?_
          show Go p e below _ (T13.setTop (mkF m 74 #[.val (.int p1), .val (.int p2), .val (.int p3), .val (.int (1 : Int32)), .val (.ref w_SINGLE_QUOTES), .val (.int ss), .val (.int q), .unset, .unset, .unset] []))
          refine Go.via (fun _ => XS.iload X13.here hx rfl (hb hby at_74) rfl) ?_
          show Go p e below _ (T13.setTop (mkF m 76 #[.val (.int p1), .val (.int p2), .val (.int p3), .val (.int (1 : Int32)), .val (.ref w_SINGLE_QUOTES), .val (.int ss), .val (.int q), .unset, .unset, .unset] [(.int q)]))
          refine Go.via (fun _ => XS.bipush X13.here hx rfl (hb hby at_76)) ?_
          show Go p e below _ (T13.setTop (mkF m 78 #[.val (.int p1), .val (.int p2), .val (.int p3), .val (.int (1 : Int32)), .val (.ref w_SINGLE_QUOTES), .val (.int ss), .val (.int q), .unset, .unset, .unset] [(.int (39 : Int32)), (.int q)]))
          by_cases hc18 : q = (39 : Int32)
          · -- yes
            subst hc18
            show Go p e below _ (T13.setTop (mkF m 78 #[.val (.int p1), .val (.int p2), .val (.int p3), .val (.int (1 : Int32)), .val (.ref w_SINGLE_QUOTES), .val (.int ss), .val (.int (39 : Int32)), .unset, .unset, .unset] [(.int (39 : Int32)), (.int (39 : Int32))]))
            show Go p e below _ (T13.setTop (mkF m 78 #[.val (.int p1), .val (.int p2), .val (.int p3), .val (.int (1 : Int32)), .val (.ref w_SINGLE_QUOTES), .val (.int ss), .val (.int (39 : Int32)), .unset, .unset, .unset] [(.int (39 : Int32)), (.int (39 : Int32))]))
            refine Go.via (fun _ => XS.icmpNo X13.here hx rfl (hb hby at_78) rfl (by decide)) ?_
            show Go p e below _ (T13.setTop (mkF m 81 #[.val (.int p1), .val (.int p2), .val (.int p3), .val (.int (1 : Int32)), .val (.ref w_SINGLE_QUOTES), .val (.int ss), .val (.int (39 : Int32)), .unset, .unset, .unset] []))
            refine Go.via (fun _ => XS.iconst X13.here hx rfl (hb hby at_81)) ?_
            show Go p e below _ (T13.setTop (mkF m 82 #[.val (.int p1), .val (.int p2), .val (.int p3), .val (.int (1 : Int32)), .val (.ref w_SINGLE_QUOTES), .val (.int ss), .val (.int (39 : Int32)), .unset, .unset, .unset] [(.int (1 : Int32))]))
            refine Go.via (fun _ => XS.goto X13.here hx rfl (pc0 := 82) (pc' := 86) rfl (hb hby at_82) (by decide) (by decide)) ?_
            show Go p e below _ (T13.setTop (mkF m 86 #[.val (.int p1), .val (.int p2), .val (.int p3), .val (.int (1 : Int32)), .val (.ref w_SINGLE_QUOTES), .val (.int ss), .val (.int (39 : Int32)), .unset, .unset, .unset] [(.int (1 : Int32))]))
            refine Go.via (fun _ => XS.istore X13.here hx rfl (hb hby at_86) rfl (l' := #[.val (.int p1), .val (.int p2), .val (.int p3), .val (.int (1 : Int32)), .val (.ref w_SINGLE_QUOTES), .val (.int ss), .val (.int (39 : Int32)), .val (.int (1 : Int32)), .unset, .unset]) rfl) ?_
            show Go p e below _ (T13.setTop (mkF m 88 #[.val (.int p1), .val (.int p2), .val (.int p3), .val (.int (1 : Int32)), .val (.ref w_SINGLE_QUOTES), .val (.int ss), .val (.int (39 : Int32)), .val (.int (1 : Int32)), .unset, .unset] []))
            refine Go.via (fun _ => XS.iload X13.here hx rfl (hb hby at_88) rfl) ?_
            show Go p e below _ (T13.setTop (mkF m 90 #[.val (.int p1), .val (.int p2), .val (.int p3), .val (.int (1 : Int32)), .val (.ref w_SINGLE_QUOTES), .val (.int ss), .val (.int (39 : Int32)), .val (.int (1 : Int32)), .unset, .unset] [(.int (39 : Int32))]))
            refine Go.via (fun _ => XS.bipush X13.here hx rfl (hb hby at_90)) ?_
            show Go p e below _ (T13.setTop (mkF m 92 #[.val (.int p1), .val (.int p2), .val (.int p3), .val (.int (1 : Int32)), .val (.ref w_SINGLE_QUOTES), .val (.int ss), .val (.int (39 : Int32)), .val (.int (1 : Int32)), .unset, .unset] [(.int (34 : Int32)), (.int (39 : Int32))]))
            refine Go.via (fun _ => XS.icmpYes X13.here hx rfl (pc0 := 92) (pc' := 99) rfl (hb hby at_92) rfl (by decide) (by decide) (by decide)) ?_
            show Go p e below _ (T13.setTop (mkF m 99 #[.val (.int p1), .val (.int p2), .val (.int p3), .val (.int (1 : Int32)), .val (.ref w_SINGLE_QUOTES), .val (.int ss), .val (.int (39 : Int32)), .val (.int (1 : Int32)), .unset, .unset] []))
            refine Go.via (fun _ => XS.iconst X13.here hx rfl (hb hby at_99)) ?_
            show Go p e below _ (T13.setTop (mkF m 100 #[.val (.int p1), .val (.int p2), .val (.int p3), .val (.int (1 : Int32)), .val (.ref w_SINGLE_QUOTES), .val (.int ss), .val (.int (39 : Int32)), .val (.int (1 : Int32)), .unset, .unset] [(.int (0 : Int32))]))
            refine Go.via (fun _ => XS.istore X13.here hx rfl (hb hby at_100) rfl (l' := #[.val (.int p1), .val (.int p2), .val (.int p3), .val (.int (1 : Int32)), .val (.ref w_SINGLE_QUOTES), .val (.int ss), .val (.int (39 : Int32)), .val (.int (1 : Int32)), .val (.int (0 : Int32)), .unset]) rfl) ?_
            show Go p e below _ (T13.setTop (mkF m 102 #[.val (.int p1), .val (.int p2), .val (.int p3), .val (.int (1 : Int32)), .val (.ref w_SINGLE_QUOTES), .val (.int ss), .val (.int (39 : Int32)), .val (.int (1 : Int32)), .val (.int (0 : Int32)), .unset] []))
            refine Go.via (fun _ => XS.iloadN X13.here hx rfl (hb hby at_102) rfl) ?_
            show Go p e below _ (T13.setTop (mkF m 103 #[.val (.int p1), .val (.int p2), .val (.int p3), .val (.int (1 : Int32)), .val (.ref w_SINGLE_QUOTES), .val (.int ss), .val (.int (39 : Int32)), .val (.int (1 : Int32)), .val (.int (0 : Int32)), .unset] [(.int (1 : Int32))]))
            refine Go.via (fun _ => XS.ifYes X13.here hx rfl (pc0 := 103) (pc' := 112) rfl (hb hby at_103) rfl (by decide) (by decide) (by decide)) ?_
            show Go p e below _ (T13.setTop (mkF m 112 #[.val (.int p1), .val (.int p2), .val (.int p3), .val (.int (1 : Int32)), .val (.ref w_SINGLE_QUOTES), .val (.int ss), .val (.int (39 : Int32)), .val (.int (1 : Int32)), .val (.int (0 : Int32)), .unset] []))
            refine Go.via (fun _ => XS.iloadN X13.here hx rfl (hb hby at_112) rfl) ?_
            show Go p e below _ (T13.setTop (mkF m 113 #[.val (.int p1), .val (.int p2), .val (.int p3), .val (.int (1 : Int32)), .val (.ref w_SINGLE_QUOTES), .val (.int ss), .val (.int (39 : Int32)), .val (.int (1 : Int32)), .val (.int (0 : Int32)), .unset] [(.int (1 : Int32))]))
            refine Go.via (fun _ => XS.iconst X13.here hx rfl (hb hby at_113)) ?_
            show Go p e below _ (T13.setTop (mkF m 114 #[.val (.int p1), .val (.int p2), .val (.int p3), .val (.int (1 : Int32)), .val (.ref w_SINGLE_QUOTES), .val (.int ss), .val (.int (39 : Int32)), .val (.int (1 : Int32)), .val (.int (0 : Int32)), .unset] [(.int (1 : Int32)), (.int (1 : Int32))]))
            refine Go.via (fun _ => XS.icmpNo X13.here hx rfl (hb hby at_114) rfl (by decide)) ?_
            show Go p e below _ (T13.setTop (mkF m 117 #[.val (.int p1), .val (.int p2), .val (.int p3), .val (.int (1 : Int32)), .val (.ref w_SINGLE_QUOTES), .val (.int ss), .val (.int (39 : Int32)), .val (.int (1 : Int32)), .val (.int (0 : Int32)), .unset] []))
            refine Go.via (fun _ => XS.iload X13.here hx rfl (hb hby at_117) rfl) ?_
            show Go p e below _ (T13.setTop (mkF m 119 #[.val (.int p1), .val (.int p2), .val (.int p3), .val (.int (1 : Int32)), .val (.ref w_SINGLE_QUOTES), .val (.int ss), .val (.int (39 : Int32)), .val (.int (1 : Int32)), .val (.int (0 : Int32)), .unset] [(.int (1 : Int32))]))
            refine Go.via (fun _ => XS.istore X13.here hx rfl (hb hby at_119) rfl (l' := #[.val (.int p1), .val (.int p2), .val (.int p3), .val (.int (1 : Int32)), .val (.ref w_SINGLE_QUOTES), .val (.int ss), .val (.int (39 : Int32)), .val (.int (1 : Int32)), .val (.int (0 : Int32)), .val (.int (1 : Int32))]) rfl) ?_
            show Go p e below _ (T13.setTop (mkF m 121 #[.val (.int p1), .val (.int p2), .val (.int p3), .val (.int (1 : Int32)), .val (.ref w_SINGLE_QUOTES), .val (.int ss), .val (.int (39 : Int32)), .val (.int (1 : Int32)), .val (.int (0 : Int32)), .val (.int (1 : Int32))] []))
            refine Go.via (fun _ => XS.goto X13.here hx rfl (pc0 := 121) (pc' := 141) rfl (hb hby at_121) (by decide) (by decide)) ?_
            show Go p e below _ (T13.setTop (mkF m 141 #[.val (.int p1), .val (.int p2), .val (.int p3), .val (.int (1 : Int32)), .val (.ref w_SINGLE_QUOTES), .val (.int ss), .val (.int (39 : Int32)), .val (.int (1 : Int32)), .val (.int (0 : Int32)), .val (.int (1 : Int32))] []))
            refine Go.via (fun _ => XS.aload X13.here hx rfl (hb hby at_141) rfl rfl) ?_
            show Go p e below _ (T13.setTop (mkF m 143 #[.val (.int p1), .val (.int p2), .val (.int p3), .val (.int (1 : Int32)), .val (.ref w_SINGLE_QUOTES), .val (.int ss), .val (.int (39 : Int32)), .val (.int (1 : Int32)), .val (.int (0 : Int32)), .val (.int (1 : Int32))] [(.ref w_SINGLE_QUOTES)]))
            refine Go.via (fun _ => XS.iload X13.here hx rfl (hb hby at_143) rfl) ?_
            show Go p e below _ (T13.setTop (mkF m 145 #[.val (.int p1), .val (.int p2), .val (.int p3), .val (.int (1 : Int32)), .val (.ref w_SINGLE_QUOTES), .val (.int ss), .val (.int (39 : Int32)), .val (.int (1 : Int32)), .val (.int (0 : Int32)), .val (.int (1 : Int32))] [(.int (39 : Int32)), (.ref w_SINGLE_QUOTES)]))
            obtain ⟨cq19, kq19, q19a, q19b, q19c⟩ := isOf hZ e13 (E_SINGLE_QUOTES.ext O0.2)
            obtain ⟨_, _, ⟨T19, L19, k19, n19⟩, -, X19, ⟨Lc19, hQ19, l19, y19, z19⟩, st19⟩ := X13.virtualBack hx (y := (⟨"com/example/waymark/waymark/BackslashEscapes", "in", "(C)Z"⟩ : MethodName)) (z := (⟨"com/example/waymark/waymark/BackslashEscapes", "in", "(C)Z"⟩ : MethodName)) hown (mvT hZ (hw _ (List.mem_of_getElem? (i := 5) rfl))) (mvT hZ (hw _ (List.mem_of_getElem? (i := 6) rfl))) (notFace_of_selects (args := #[]) (mvT hZ (hw _ (List.mem_of_getElem? (i := 8) rfl)))) (mvT hZ (hw _ (List.mem_of_getElem? (i := 8) rfl))) (mvT hZ (hw _ (List.mem_of_getElem? (i := 7) rfl))) (by decide) (backOf (W := 0) (rm1_1_39 l Z a0 hw []  w_NONE w_SINGLE_QUOTES w_SINGLE_AND_DOUBLE_QUOTES h0 n0 Z0 O0 S_NONE S_SINGLE_QUOTES S_SINGLE_AND_DOUBLE_QUOTES ne_NONE_SINGLE_QUOTES ne_NONE_SINGLE_AND_DOUBLE_QUOTES ne_SINGLE_QUOTES_SINGLE_AND_DOUBLE_QUOTES ) hZ (hw _ (List.mem_of_getElem? (i := 9) rfl)) (hw _ (List.mem_of_getElem? (i := 2) rfl)) (by decide) (by decide)) q19a q19c (g := (mkF m 145 #[.val (.int p1), .val (.int p2), .val (.int p3), .val (.int (1 : Int32)), .val (.ref w_SINGLE_QUOTES), .val (.int ss), .val (.int (39 : Int32)), .val (.int (1 : Int32)), .val (.int (0 : Int32)), .val (.int (1 : Int32))] [(.int (39 : Int32)), (.ref w_SINGLE_QUOTES)])) rfl (by rw [hml]; rfl) (Steps.refl _) (argsL := [(.int (39 : Int32))]) (rest := []) (lenOf pd_0 rfl) rfl (by show 2 * 0 + _ ≤ _; exact Nat.le_of_eq rfl) (hb hby at_145) (fun _ _ => ⟨rfl, e13, (by decide : 0 + 0 ≤ _), (by decide : 0 + 0 ≤ _)⟩)
            dsimp only [Pt.U, Pt.locs, Pt.cells, Pt.slots] at X19 l19 y19 z19 st19 hQ19
            subst l19 y19 z19
            obtain ⟨rfl, N19q, e19q⟩ := hQ19
            have N19 := Fr.app N0 N19q
            refine Go.tr st19 ?_
            show Go p e below _ (T19.setTop (mkF m 148 #[.val (.int p1), .val (.int p2), .val (.int p3), .val (.int (1 : Int32)), .val (.ref w_SINGLE_QUOTES), .val (.int ss), .val (.int (39 : Int32)), .val (.int (1 : Int32)), .val (.int (0 : Int32)), .val (.int (1 : Int32))] [(.int (1 : Int32))]))
            refine Go.via (fun _ => XS.iload X19.here hx rfl (hb hby at_148) rfl) ?_
            show Go p e below _ (T19.setTop (mkF m 150 #[.val (.int p1), .val (.int p2), .val (.int p3), .val (.int (1 : Int32)), .val (.ref w_SINGLE_QUOTES), .val (.int ss), .val (.int (39 : Int32)), .val (.int (1 : Int32)), .val (.int (0 : Int32)), .val (.int (1 : Int32))] [(.int (1 : Int32)), (.int (1 : Int32))]))
            refine Go.via (fun _ => XS.icmpNo X19.here hx rfl (hb hby at_150) rfl (by decide)) ?_
            show Go p e below _ (T19.setTop (mkF m 153 #[.val (.int p1), .val (.int p2), .val (.int p3), .val (.int (1 : Int32)), .val (.ref w_SINGLE_QUOTES), .val (.int ss), .val (.int (39 : Int32)), .val (.int (1 : Int32)), .val (.int (0 : Int32)), .val (.int (1 : Int32))] []))
            refine Go.via (fun _ => XS.iconst X19.here hx rfl (hb hby at_153)) ?_
            show Go p e below _ (T19.setTop (mkF m 154 #[.val (.int p1), .val (.int p2), .val (.int p3), .val (.int (1 : Int32)), .val (.ref w_SINGLE_QUOTES), .val (.int ss), .val (.int (39 : Int32)), .val (.int (1 : Int32)), .val (.int (0 : Int32)), .val (.int (1 : Int32))] [(.int (1 : Int32))]))
            refine Go.via (fun _ => XS.goto X19.here hx rfl (pc0 := 154) (pc' := 158) rfl (hb hby at_154) (by decide) (by decide)) ?_
            show Go p e below _ (T19.setTop (mkF m 158 #[.val (.int p1), .val (.int p2), .val (.int p3), .val (.int (1 : Int32)), .val (.ref w_SINGLE_QUOTES), .val (.int ss), .val (.int (39 : Int32)), .val (.int (1 : Int32)), .val (.int (0 : Int32)), .val (.int (1 : Int32))] [(.int (1 : Int32))]))
            exact own_retN X19 hx hlk (t := .boolean) Bd.returns (by simp) (hb hby at_158) (by show Q0 Z p1 p2 p3 w_NONE w_SINGLE_QUOTES w_SINGLE_AND_DOUBLE_QUOTES h0 n0 _ T19.heap _; rw [e19q]; exact ⟨rfl, N19⟩) (by decide) (by decide)
          · -- no
            show Go p e below _ (T13.setTop (mkF m 78 #[.val (.int p1), .val (.int p2), .val (.int p3), .val (.int (1 : Int32)), .val (.ref w_SINGLE_QUOTES), .val (.int ss), .val (.int q), .unset, .unset, .unset] [(.int (39 : Int32)), (.int q)]))
            show Go p e below _ (T13.setTop (mkF m 78 #[.val (.int p1), .val (.int p2), .val (.int p3), .val (.int (1 : Int32)), .val (.ref w_SINGLE_QUOTES), .val (.int ss), .val (.int q), .unset, .unset, .unset] [(.int (39 : Int32)), (.int q)]))
            refine Go.via (fun _ => XS.icmpYes X13.here hx rfl (pc0 := 78) (pc' := 85) rfl (hb hby at_78) rfl (feq hc18).2 (by decide) (by decide)) ?_
            show Go p e below _ (T13.setTop (mkF m 85 #[.val (.int p1), .val (.int p2), .val (.int p3), .val (.int (1 : Int32)), .val (.ref w_SINGLE_QUOTES), .val (.int ss), .val (.int q), .unset, .unset, .unset] []))
            refine Go.via (fun _ => XS.iconst X13.here hx rfl (hb hby at_85)) ?_
            show Go p e below _ (T13.setTop (mkF m 86 #[.val (.int p1), .val (.int p2), .val (.int p3), .val (.int (1 : Int32)), .val (.ref w_SINGLE_QUOTES), .val (.int ss), .val (.int q), .unset, .unset, .unset] [(.int (0 : Int32))]))
            refine Go.via (fun _ => XS.istore X13.here hx rfl (hb hby at_86) rfl (l' := #[.val (.int p1), .val (.int p2), .val (.int p3), .val (.int (1 : Int32)), .val (.ref w_SINGLE_QUOTES), .val (.int ss), .val (.int q), .val (.int (0 : Int32)), .unset, .unset]) rfl) ?_
            show Go p e below _ (T13.setTop (mkF m 88 #[.val (.int p1), .val (.int p2), .val (.int p3), .val (.int (1 : Int32)), .val (.ref w_SINGLE_QUOTES), .val (.int ss), .val (.int q), .val (.int (0 : Int32)), .unset, .unset] []))
            refine Go.via (fun _ => XS.iload X13.here hx rfl (hb hby at_88) rfl) ?_
            show Go p e below _ (T13.setTop (mkF m 90 #[.val (.int p1), .val (.int p2), .val (.int p3), .val (.int (1 : Int32)), .val (.ref w_SINGLE_QUOTES), .val (.int ss), .val (.int q), .val (.int (0 : Int32)), .unset, .unset] [(.int q)]))
            refine Go.via (fun _ => XS.bipush X13.here hx rfl (hb hby at_90)) ?_
            show Go p e below _ (T13.setTop (mkF m 92 #[.val (.int p1), .val (.int p2), .val (.int p3), .val (.int (1 : Int32)), .val (.ref w_SINGLE_QUOTES), .val (.int ss), .val (.int q), .val (.int (0 : Int32)), .unset, .unset] [(.int (34 : Int32)), (.int q)]))
            by_cases hc20 : q = (34 : Int32)
            · -- yes
              subst hc20
              show Go p e below _ (T13.setTop (mkF m 92 #[.val (.int p1), .val (.int p2), .val (.int p3), .val (.int (1 : Int32)), .val (.ref w_SINGLE_QUOTES), .val (.int ss), .val (.int (34 : Int32)), .val (.int (0 : Int32)), .unset, .unset] [(.int (34 : Int32)), (.int (34 : Int32))]))
              show Go p e below _ (T13.setTop (mkF m 92 #[.val (.int p1), .val (.int p2), .val (.int p3), .val (.int (1 : Int32)), .val (.ref w_SINGLE_QUOTES), .val (.int ss), .val (.int (34 : Int32)), .val (.int (0 : Int32)), .unset, .unset] [(.int (34 : Int32)), (.int (34 : Int32))]))
              refine Go.via (fun _ => XS.icmpNo X13.here hx rfl (hb hby at_92) rfl (by decide)) ?_
              show Go p e below _ (T13.setTop (mkF m 95 #[.val (.int p1), .val (.int p2), .val (.int p3), .val (.int (1 : Int32)), .val (.ref w_SINGLE_QUOTES), .val (.int ss), .val (.int (34 : Int32)), .val (.int (0 : Int32)), .unset, .unset] []))
              refine Go.via (fun _ => XS.iconst X13.here hx rfl (hb hby at_95)) ?_
              show Go p e below _ (T13.setTop (mkF m 96 #[.val (.int p1), .val (.int p2), .val (.int p3), .val (.int (1 : Int32)), .val (.ref w_SINGLE_QUOTES), .val (.int ss), .val (.int (34 : Int32)), .val (.int (0 : Int32)), .unset, .unset] [(.int (1 : Int32))]))
              refine Go.via (fun _ => XS.goto X13.here hx rfl (pc0 := 96) (pc' := 100) rfl (hb hby at_96) (by decide) (by decide)) ?_
              show Go p e below _ (T13.setTop (mkF m 100 #[.val (.int p1), .val (.int p2), .val (.int p3), .val (.int (1 : Int32)), .val (.ref w_SINGLE_QUOTES), .val (.int ss), .val (.int (34 : Int32)), .val (.int (0 : Int32)), .unset, .unset] [(.int (1 : Int32))]))
              refine Go.via (fun _ => XS.istore X13.here hx rfl (hb hby at_100) rfl (l' := #[.val (.int p1), .val (.int p2), .val (.int p3), .val (.int (1 : Int32)), .val (.ref w_SINGLE_QUOTES), .val (.int ss), .val (.int (34 : Int32)), .val (.int (0 : Int32)), .val (.int (1 : Int32)), .unset]) rfl) ?_
              show Go p e below _ (T13.setTop (mkF m 102 #[.val (.int p1), .val (.int p2), .val (.int p3), .val (.int (1 : Int32)), .val (.ref w_SINGLE_QUOTES), .val (.int ss), .val (.int (34 : Int32)), .val (.int (0 : Int32)), .val (.int (1 : Int32)), .unset] []))
              refine Go.via (fun _ => XS.iloadN X13.here hx rfl (hb hby at_102) rfl) ?_
              show Go p e below _ (T13.setTop (mkF m 103 #[.val (.int p1), .val (.int p2), .val (.int p3), .val (.int (1 : Int32)), .val (.ref w_SINGLE_QUOTES), .val (.int ss), .val (.int (34 : Int32)), .val (.int (0 : Int32)), .val (.int (1 : Int32)), .unset] [(.int (1 : Int32))]))
              refine Go.via (fun _ => XS.ifYes X13.here hx rfl (pc0 := 103) (pc' := 112) rfl (hb hby at_103) rfl (by decide) (by decide) (by decide)) ?_
              show Go p e below _ (T13.setTop (mkF m 112 #[.val (.int p1), .val (.int p2), .val (.int p3), .val (.int (1 : Int32)), .val (.ref w_SINGLE_QUOTES), .val (.int ss), .val (.int (34 : Int32)), .val (.int (0 : Int32)), .val (.int (1 : Int32)), .unset] []))
              refine Go.via (fun _ => XS.iloadN X13.here hx rfl (hb hby at_112) rfl) ?_
              show Go p e below _ (T13.setTop (mkF m 113 #[.val (.int p1), .val (.int p2), .val (.int p3), .val (.int (1 : Int32)), .val (.ref w_SINGLE_QUOTES), .val (.int ss), .val (.int (34 : Int32)), .val (.int (0 : Int32)), .val (.int (1 : Int32)), .unset] [(.int (1 : Int32))]))
              refine Go.via (fun _ => XS.iconst X13.here hx rfl (hb hby at_113)) ?_
              show Go p e below _ (T13.setTop (mkF m 114 #[.val (.int p1), .val (.int p2), .val (.int p3), .val (.int (1 : Int32)), .val (.ref w_SINGLE_QUOTES), .val (.int ss), .val (.int (34 : Int32)), .val (.int (0 : Int32)), .val (.int (1 : Int32)), .unset] [(.int (1 : Int32)), (.int (1 : Int32))]))
              refine Go.via (fun _ => XS.icmpNo X13.here hx rfl (hb hby at_114) rfl (by decide)) ?_
              show Go p e below _ (T13.setTop (mkF m 117 #[.val (.int p1), .val (.int p2), .val (.int p3), .val (.int (1 : Int32)), .val (.ref w_SINGLE_QUOTES), .val (.int ss), .val (.int (34 : Int32)), .val (.int (0 : Int32)), .val (.int (1 : Int32)), .unset] []))
              refine Go.via (fun _ => XS.iload X13.here hx rfl (hb hby at_117) rfl) ?_
              show Go p e below _ (T13.setTop (mkF m 119 #[.val (.int p1), .val (.int p2), .val (.int p3), .val (.int (1 : Int32)), .val (.ref w_SINGLE_QUOTES), .val (.int ss), .val (.int (34 : Int32)), .val (.int (0 : Int32)), .val (.int (1 : Int32)), .unset] [(.int (0 : Int32))]))
              refine Go.via (fun _ => XS.istore X13.here hx rfl (hb hby at_119) rfl (l' := #[.val (.int p1), .val (.int p2), .val (.int p3), .val (.int (1 : Int32)), .val (.ref w_SINGLE_QUOTES), .val (.int ss), .val (.int (34 : Int32)), .val (.int (0 : Int32)), .val (.int (1 : Int32)), .val (.int (0 : Int32))]) rfl) ?_
              show Go p e below _ (T13.setTop (mkF m 121 #[.val (.int p1), .val (.int p2), .val (.int p3), .val (.int (1 : Int32)), .val (.ref w_SINGLE_QUOTES), .val (.int ss), .val (.int (34 : Int32)), .val (.int (0 : Int32)), .val (.int (1 : Int32)), .val (.int (0 : Int32))] []))
              refine Go.via (fun _ => XS.goto X13.here hx rfl (pc0 := 121) (pc' := 141) rfl (hb hby at_121) (by decide) (by decide)) ?_
              show Go p e below _ (T13.setTop (mkF m 141 #[.val (.int p1), .val (.int p2), .val (.int p3), .val (.int (1 : Int32)), .val (.ref w_SINGLE_QUOTES), .val (.int ss), .val (.int (34 : Int32)), .val (.int (0 : Int32)), .val (.int (1 : Int32)), .val (.int (0 : Int32))] []))
              refine Go.via (fun _ => XS.aload X13.here hx rfl (hb hby at_141) rfl rfl) ?_
              show Go p e below _ (T13.setTop (mkF m 143 #[.val (.int p1), .val (.int p2), .val (.int p3), .val (.int (1 : Int32)), .val (.ref w_SINGLE_QUOTES), .val (.int ss), .val (.int (34 : Int32)), .val (.int (0 : Int32)), .val (.int (1 : Int32)), .val (.int (0 : Int32))] [(.ref w_SINGLE_QUOTES)]))
              refine Go.via (fun _ => XS.iload X13.here hx rfl (hb hby at_143) rfl) ?_
              show Go p e below _ (T13.setTop (mkF m 145 #[.val (.int p1), .val (.int p2), .val (.int p3), .val (.int (1 : Int32)), .val (.ref w_SINGLE_QUOTES), .val (.int ss), .val (.int (34 : Int32)), .val (.int (0 : Int32)), .val (.int (1 : Int32)), .val (.int (0 : Int32))] [(.int (34 : Int32)), (.ref w_SINGLE_QUOTES)]))
              obtain ⟨cq21, kq21, q21a, q21b, q21c⟩ := isOf hZ e13 (E_SINGLE_QUOTES.ext O0.2)
              obtain ⟨_, _, ⟨T21, L21, k21, n21⟩, -, X21, ⟨Lc21, hQ21, l21, y21, z21⟩, st21⟩ := X13.virtualBack hx (y := (⟨"com/example/waymark/waymark/BackslashEscapes", "in", "(C)Z"⟩ : MethodName)) (z := (⟨"com/example/waymark/waymark/BackslashEscapes", "in", "(C)Z"⟩ : MethodName)) hown (mvT hZ (hw _ (List.mem_of_getElem? (i := 5) rfl))) (mvT hZ (hw _ (List.mem_of_getElem? (i := 6) rfl))) (notFace_of_selects (args := #[]) (mvT hZ (hw _ (List.mem_of_getElem? (i := 8) rfl)))) (mvT hZ (hw _ (List.mem_of_getElem? (i := 8) rfl))) (mvT hZ (hw _ (List.mem_of_getElem? (i := 7) rfl))) (by decide) (backOf (W := 0) (rm1_1_34 l Z a0 hw []  w_NONE w_SINGLE_QUOTES w_SINGLE_AND_DOUBLE_QUOTES h0 n0 Z0 O0 S_NONE S_SINGLE_QUOTES S_SINGLE_AND_DOUBLE_QUOTES ne_NONE_SINGLE_QUOTES ne_NONE_SINGLE_AND_DOUBLE_QUOTES ne_SINGLE_QUOTES_SINGLE_AND_DOUBLE_QUOTES ) hZ (hw _ (List.mem_of_getElem? (i := 9) rfl)) (hw _ (List.mem_of_getElem? (i := 2) rfl)) (by decide) (by decide)) q21a q21c (g := (mkF m 145 #[.val (.int p1), .val (.int p2), .val (.int p3), .val (.int (1 : Int32)), .val (.ref w_SINGLE_QUOTES), .val (.int ss), .val (.int (34 : Int32)), .val (.int (0 : Int32)), .val (.int (1 : Int32)), .val (.int (0 : Int32))] [(.int (34 : Int32)), (.ref w_SINGLE_QUOTES)])) rfl (by rw [hml]; rfl) (Steps.refl _) (argsL := [(.int (34 : Int32))]) (rest := []) (lenOf pd_0 rfl) rfl (by show 2 * 0 + _ ≤ _; exact Nat.le_of_eq rfl) (hb hby at_145) (fun _ _ => ⟨rfl, e13, (by decide : 0 + 0 ≤ _), (by decide : 0 + 0 ≤ _)⟩)
              dsimp only [Pt.U, Pt.locs, Pt.cells, Pt.slots] at X21 l21 y21 z21 st21 hQ21
              subst l21 y21 z21
              obtain ⟨rfl, N21q, e21q⟩ := hQ21
              have N21 := Fr.app N0 N21q
              refine Go.tr st21 ?_
              show Go p e below _ (T21.setTop (mkF m 148 #[.val (.int p1), .val (.int p2), .val (.int p3), .val (.int (1 : Int32)), .val (.ref w_SINGLE_QUOTES), .val (.int ss), .val (.int (34 : Int32)), .val (.int (0 : Int32)), .val (.int (1 : Int32)), .val (.int (0 : Int32))] [(.int (0 : Int32))]))
              refine Go.via (fun _ => XS.iload X21.here hx rfl (hb hby at_148) rfl) ?_
              show Go p e below _ (T21.setTop (mkF m 150 #[.val (.int p1), .val (.int p2), .val (.int p3), .val (.int (1 : Int32)), .val (.ref w_SINGLE_QUOTES), .val (.int ss), .val (.int (34 : Int32)), .val (.int (0 : Int32)), .val (.int (1 : Int32)), .val (.int (0 : Int32))] [(.int (0 : Int32)), (.int (0 : Int32))]))
              refine Go.via (fun _ => XS.icmpNo X21.here hx rfl (hb hby at_150) rfl (by decide)) ?_
              show Go p e below _ (T21.setTop (mkF m 153 #[.val (.int p1), .val (.int p2), .val (.int p3), .val (.int (1 : Int32)), .val (.ref w_SINGLE_QUOTES), .val (.int ss), .val (.int (34 : Int32)), .val (.int (0 : Int32)), .val (.int (1 : Int32)), .val (.int (0 : Int32))] []))
              refine Go.via (fun _ => XS.iconst X21.here hx rfl (hb hby at_153)) ?_
              show Go p e below _ (T21.setTop (mkF m 154 #[.val (.int p1), .val (.int p2), .val (.int p3), .val (.int (1 : Int32)), .val (.ref w_SINGLE_QUOTES), .val (.int ss), .val (.int (34 : Int32)), .val (.int (0 : Int32)), .val (.int (1 : Int32)), .val (.int (0 : Int32))] [(.int (1 : Int32))]))
              refine Go.via (fun _ => XS.goto X21.here hx rfl (pc0 := 154) (pc' := 158) rfl (hb hby at_154) (by decide) (by decide)) ?_
              show Go p e below _ (T21.setTop (mkF m 158 #[.val (.int p1), .val (.int p2), .val (.int p3), .val (.int (1 : Int32)), .val (.ref w_SINGLE_QUOTES), .val (.int ss), .val (.int (34 : Int32)), .val (.int (0 : Int32)), .val (.int (1 : Int32)), .val (.int (0 : Int32))] [(.int (1 : Int32))]))
              exact own_retN X21 hx hlk (t := .boolean) Bd.returns (by simp) (hb hby at_158) (by show Q0 Z p1 p2 p3 w_NONE w_SINGLE_QUOTES w_SINGLE_AND_DOUBLE_QUOTES h0 n0 _ T21.heap _; rw [e21q]; exact ⟨rfl, N21⟩) (by decide) (by decide)
            · -- no
              show Go p e below _ (T13.setTop (mkF m 92 #[.val (.int p1), .val (.int p2), .val (.int p3), .val (.int (1 : Int32)), .val (.ref w_SINGLE_QUOTES), .val (.int ss), .val (.int q), .val (.int (0 : Int32)), .unset, .unset] [(.int (34 : Int32)), (.int q)]))
              show Go p e below _ (T13.setTop (mkF m 92 #[.val (.int p1), .val (.int p2), .val (.int p3), .val (.int (1 : Int32)), .val (.ref w_SINGLE_QUOTES), .val (.int ss), .val (.int q), .val (.int (0 : Int32)), .unset, .unset] [(.int (34 : Int32)), (.int q)]))
              refine Go.via (fun _ => XS.icmpYes X13.here hx rfl (pc0 := 92) (pc' := 99) rfl (hb hby at_92) rfl (feq hc20).2 (by decide) (by decide)) ?_
              show Go p e below _ (T13.setTop (mkF m 99 #[.val (.int p1), .val (.int p2), .val (.int p3), .val (.int (1 : Int32)), .val (.ref w_SINGLE_QUOTES), .val (.int ss), .val (.int q), .val (.int (0 : Int32)), .unset, .unset] []))
              refine Go.via (fun _ => XS.iconst X13.here hx rfl (hb hby at_99)) ?_
              show Go p e below _ (T13.setTop (mkF m 100 #[.val (.int p1), .val (.int p2), .val (.int p3), .val (.int (1 : Int32)), .val (.ref w_SINGLE_QUOTES), .val (.int ss), .val (.int q), .val (.int (0 : Int32)), .unset, .unset] [(.int (0 : Int32))]))
              refine Go.via (fun _ => XS.istore X13.here hx rfl (hb hby at_100) rfl (l' := #[.val (.int p1), .val (.int p2), .val (.int p3), .val (.int (1 : Int32)), .val (.ref w_SINGLE_QUOTES), .val (.int ss), .val (.int q), .val (.int (0 : Int32)), .val (.int (0 : Int32)), .unset]) rfl) ?_
              show Go p e below _ (T13.setTop (mkF m 102 #[.val (.int p1), .val (.int p2), .val (.int p3), .val (.int (1 : Int32)), .val (.ref w_SINGLE_QUOTES), .val (.int ss), .val (.int q), .val (.int (0 : Int32)), .val (.int (0 : Int32)), .unset] []))
              refine Go.via (fun _ => XS.iloadN X13.here hx rfl (hb hby at_102) rfl) ?_
              show Go p e below _ (T13.setTop (mkF m 103 #[.val (.int p1), .val (.int p2), .val (.int p3), .val (.int (1 : Int32)), .val (.ref w_SINGLE_QUOTES), .val (.int ss), .val (.int q), .val (.int (0 : Int32)), .val (.int (0 : Int32)), .unset] [(.int (1 : Int32))]))
              refine Go.via (fun _ => XS.ifYes X13.here hx rfl (pc0 := 103) (pc' := 112) rfl (hb hby at_103) rfl (by decide) (by decide) (by decide)) ?_
              show Go p e below _ (T13.setTop (mkF m 112 #[.val (.int p1), .val (.int p2), .val (.int p3), .val (.int (1 : Int32)), .val (.ref w_SINGLE_QUOTES), .val (.int ss), .val (.int q), .val (.int (0 : Int32)), .val (.int (0 : Int32)), .unset] []))
              refine Go.via (fun _ => XS.iloadN X13.here hx rfl (hb hby at_112) rfl) ?_
              show Go p e below _ (T13.setTop (mkF m 113 #[.val (.int p1), .val (.int p2), .val (.int p3), .val (.int (1 : Int32)), .val (.ref w_SINGLE_QUOTES), .val (.int ss), .val (.int q), .val (.int (0 : Int32)), .val (.int (0 : Int32)), .unset] [(.int (1 : Int32))]))
              refine Go.via (fun _ => XS.iconst X13.here hx rfl (hb hby at_113)) ?_
              show Go p e below _ (T13.setTop (mkF m 114 #[.val (.int p1), .val (.int p2), .val (.int p3), .val (.int (1 : Int32)), .val (.ref w_SINGLE_QUOTES), .val (.int ss), .val (.int q), .val (.int (0 : Int32)), .val (.int (0 : Int32)), .unset] [(.int (1 : Int32)), (.int (1 : Int32))]))
              refine Go.via (fun _ => XS.icmpNo X13.here hx rfl (hb hby at_114) rfl (by decide)) ?_
              show Go p e below _ (T13.setTop (mkF m 117 #[.val (.int p1), .val (.int p2), .val (.int p3), .val (.int (1 : Int32)), .val (.ref w_SINGLE_QUOTES), .val (.int ss), .val (.int q), .val (.int (0 : Int32)), .val (.int (0 : Int32)), .unset] []))
              refine Go.via (fun _ => XS.iload X13.here hx rfl (hb hby at_117) rfl) ?_
              show Go p e below _ (T13.setTop (mkF m 119 #[.val (.int p1), .val (.int p2), .val (.int p3), .val (.int (1 : Int32)), .val (.ref w_SINGLE_QUOTES), .val (.int ss), .val (.int q), .val (.int (0 : Int32)), .val (.int (0 : Int32)), .unset] [(.int (0 : Int32))]))
              refine Go.via (fun _ => XS.istore X13.here hx rfl (hb hby at_119) rfl (l' := #[.val (.int p1), .val (.int p2), .val (.int p3), .val (.int (1 : Int32)), .val (.ref w_SINGLE_QUOTES), .val (.int ss), .val (.int q), .val (.int (0 : Int32)), .val (.int (0 : Int32)), .val (.int (0 : Int32))]) rfl) ?_
              show Go p e below _ (T13.setTop (mkF m 121 #[.val (.int p1), .val (.int p2), .val (.int p3), .val (.int (1 : Int32)), .val (.ref w_SINGLE_QUOTES), .val (.int ss), .val (.int q), .val (.int (0 : Int32)), .val (.int (0 : Int32)), .val (.int (0 : Int32))] []))
              refine Go.via (fun _ => XS.goto X13.here hx rfl (pc0 := 121) (pc' := 141) rfl (hb hby at_121) (by decide) (by decide)) ?_
              show Go p e below _ (T13.setTop (mkF m 141 #[.val (.int p1), .val (.int p2), .val (.int p3), .val (.int (1 : Int32)), .val (.ref w_SINGLE_QUOTES), .val (.int ss), .val (.int q), .val (.int (0 : Int32)), .val (.int (0 : Int32)), .val (.int (0 : Int32))] []))
              refine Go.via (fun _ => XS.aload X13.here hx rfl (hb hby at_141) rfl rfl) ?_
              show Go p e below _ (T13.setTop (mkF m 143 #[.val (.int p1), .val (.int p2), .val (.int p3), .val (.int (1 : Int32)), .val (.ref w_SINGLE_QUOTES), .val (.int ss), .val (.int q), .val (.int (0 : Int32)), .val (.int (0 : Int32)), .val (.int (0 : Int32))] [(.ref w_SINGLE_QUOTES)]))
              refine Go.via (fun _ => XS.iload X13.here hx rfl (hb hby at_143) rfl) ?_
              show Go p e below _ (T13.setTop (mkF m 145 #[.val (.int p1), .val (.int p2), .val (.int p3), .val (.int (1 : Int32)), .val (.ref w_SINGLE_QUOTES), .val (.int ss), .val (.int q), .val (.int (0 : Int32)), .val (.int (0 : Int32)), .val (.int (0 : Int32))] [(.int q), (.ref w_SINGLE_QUOTES)]))
              obtain ⟨cq22, kq22, q22a, q22b, q22c⟩ := isOf hZ e13 (E_SINGLE_QUOTES.ext O0.2)
              obtain ⟨_, _, ⟨T22, L22, k22, n22⟩, -, X22, ⟨Lc22, hQ22, l22, y22, z22⟩, st22⟩ := X13.virtualBack hx (y := (⟨"com/example/waymark/waymark/BackslashEscapes", "in", "(C)Z"⟩ : MethodName)) (z := (⟨"com/example/waymark/waymark/BackslashEscapes", "in", "(C)Z"⟩ : MethodName)) hown (mvT hZ (hw _ (List.mem_of_getElem? (i := 5) rfl))) (mvT hZ (hw _ (List.mem_of_getElem? (i := 6) rfl))) (notFace_of_selects (args := #[]) (mvT hZ (hw _ (List.mem_of_getElem? (i := 8) rfl)))) (mvT hZ (hw _ (List.mem_of_getElem? (i := 8) rfl))) (mvT hZ (hw _ (List.mem_of_getElem? (i := 7) rfl))) (by decide) (backOf (W := 0) (rm1_1_o l Z a0 hw [] q w_NONE w_SINGLE_QUOTES w_SINGLE_AND_DOUBLE_QUOTES h0 n0 Z0 O0 S_NONE S_SINGLE_QUOTES S_SINGLE_AND_DOUBLE_QUOTES ne_NONE_SINGLE_QUOTES ne_NONE_SINGLE_AND_DOUBLE_QUOTES ne_SINGLE_QUOTES_SINGLE_AND_DOUBLE_QUOTES hc18 hc20) hZ (hw _ (List.mem_of_getElem? (i := 9) rfl)) (hw _ (List.mem_of_getElem? (i := 2) rfl)) (by decide) (by decide)) q22a q22c (g := (mkF m 145 #[.val (.int p1), .val (.int p2), .val (.int p3), .val (.int (1 : Int32)), .val (.ref w_SINGLE_QUOTES), .val (.int ss), .val (.int q), .val (.int (0 : Int32)), .val (.int (0 : Int32)), .val (.int (0 : Int32))] [(.int q), (.ref w_SINGLE_QUOTES)])) rfl (by rw [hml]; rfl) (Steps.refl _) (argsL := [(.int q)]) (rest := []) (lenOf pd_0 rfl) rfl (by show 2 * 0 + _ ≤ _; exact Nat.le_of_eq rfl) (hb hby at_145) (fun _ _ => ⟨rfl, e13, (by decide : 0 + 0 ≤ _), (by decide : 0 + 0 ≤ _)⟩)
              dsimp only [Pt.U, Pt.locs, Pt.cells, Pt.slots] at X22 l22 y22 z22 st22 hQ22
              subst l22 y22 z22
              obtain ⟨rfl, N22q, e22q⟩ := hQ22
              have N22 := Fr.app N0 N22q
              refine Go.tr st22 ?_
              show Go p e below _ (T22.setTop (mkF m 148 #[.val (.int p1), .val (.int p2), .val (.int p3), .val (.int (1 : Int32)), .val (.ref w_SINGLE_QUOTES), .val (.int ss), .val (.int q), .val (.int (0 : Int32)), .val (.int (0 : Int32)), .val (.int (0 : Int32))] [(.int (0 : Int32))]))
              refine Go.via (fun _ => XS.iload X22.here hx rfl (hb hby at_148) rfl) ?_
              show Go p e below _ (T22.setTop (mkF m 150 #[.val (.int p1), .val (.int p2), .val (.int p3), .val (.int (1 : Int32)), .val (.ref w_SINGLE_QUOTES), .val (.int ss), .val (.int q), .val (.int (0 : Int32)), .val (.int (0 : Int32)), .val (.int (0 : Int32))] [(.int (0 : Int32)), (.int (0 : Int32))]))
              refine Go.via (fun _ => XS.icmpNo X22.here hx rfl (hb hby at_150) rfl (by decide)) ?_
              show Go p e below _ (T22.setTop (mkF m 153 #[.val (.int p1), .val (.int p2), .val (.int p3), .val (.int (1 : Int32)), .val (.ref w_SINGLE_QUOTES), .val (.int ss), .val (.int q), .val (.int (0 : Int32)), .val (.int (0 : Int32)), .val (.int (0 : Int32))] []))
              refine Go.via (fun _ => XS.iconst X22.here hx rfl (hb hby at_153)) ?_
              show Go p e below _ (T22.setTop (mkF m 154 #[.val (.int p1), .val (.int p2), .val (.int p3), .val (.int (1 : Int32)), .val (.ref w_SINGLE_QUOTES), .val (.int ss), .val (.int q), .val (.int (0 : Int32)), .val (.int (0 : Int32)), .val (.int (0 : Int32))] [(.int (1 : Int32))]))
              refine Go.via (fun _ => XS.goto X22.here hx rfl (pc0 := 154) (pc' := 158) rfl (hb hby at_154) (by decide) (by decide)) ?_
              show Go p e below _ (T22.setTop (mkF m 158 #[.val (.int p1), .val (.int p2), .val (.int p3), .val (.int (1 : Int32)), .val (.ref w_SINGLE_QUOTES), .val (.int ss), .val (.int q), .val (.int (0 : Int32)), .val (.int (0 : Int32)), .val (.int (0 : Int32))] [(.int (1 : Int32))]))
              exact own_retN X22 hx hlk (t := .boolean) Bd.returns (by simp) (hb hby at_158) (by show Q0 Z p1 p2 p3 w_NONE w_SINGLE_QUOTES w_SINGLE_AND_DOUBLE_QUOTES h0 n0 _ T22.heap _; rw [e22q]; exact ⟨rfl, N22⟩) (by decide) (by decide)
    · -- no
      show Go p e below _ (s₁.setTop (mkF m 21 #[.val (.int p1), .val (.int p2), .val (.int p3), .val (.int k), .unset, .unset, .unset, .unset, .unset, .unset] [(.int (1 : Int32)), (.int k)]))
      show Go p e below _ (s₁.setTop (mkF m 21 #[.val (.int p1), .val (.int p2), .val (.int p3), .val (.int k), .unset, .unset, .unset, .unset, .unset, .unset] [(.int (1 : Int32)), (.int k)]))
      refine Go.via (fun _ => XS.icmpYes X0.here hx rfl (pc0 := 21) (pc' := 32) rfl (hb hby at_21) rfl (feq hc12).2 (by decide) (by decide)) ?_
      show Go p e below _ (s₁.setTop (mkF m 32 #[.val (.int p1), .val (.int p2), .val (.int p3), .val (.int k), .unset, .unset, .unset, .unset, .unset, .unset] []))
      obtain ⟨T23, X23, e23, st23⟩ := getS2 X0 hx hZ hown (host := "") (Or.inl (hw _ (List.mem_of_getElem? (i := 12) rfl))) Via.refl e0 (S_SINGLE_AND_DOUBLE_QUOTES.ext O0.2) (g := (mkF m 32 #[.val (.int p1), .val (.int p2), .val (.int p3), .val (.int k), .unset, .unset, .unset, .unset, .unset, .unset] [])) rfl (hb hby at_32)
      refine Go.via st23 ?_
      show Go p e below _ (T23.setTop (mkF m 35 #[.val (.int p1), .val (.int p2), .val (.int p3), .val (.int k), .unset, .unset, .unset, .unset, .unset, .unset] [(.ref w_SINGLE_AND_DOUBLE_QUOTES)]))
      refine Go.via (fun _ => XS.astore X23.here hx rfl (hb hby at_35) rfl rfl (l' := #[.val (.int p1), .val (.int p2), .val (.int p3), .val (.int k), .val (.ref w_SINGLE_AND_DOUBLE_QUOTES), .unset, .unset, .unset, .unset, .unset]) rfl) ?_
      show Go p e below _ (T23.setTop (mkF m 37 #[.val (.int p1), .val (.int p2), .val (.int p3), .val (.int k), .val (.ref w_SINGLE_AND_DOUBLE_QUOTES), .unset, .unset, .unset, .unset, .unset] []))
      refine Go.via (fun _ => XS.iloadN X23.here hx rfl (hb hby at_37) rfl) ?_
      show Go p e below _ (T23.setTop (mkF m 38 #[.val (.int p1), .val (.int p2), .val (.int p3), .val (.int k), .val (.ref w_SINGLE_AND_DOUBLE_QUOTES), .unset, .unset, .unset, .unset, .unset] [(.int p3)]))
      refine Go.via (fun _ => XS.iconst X23.here hx rfl (hb hby at_38)) ?_
      show Go p e below _ (T23.setTop (mkF m 39 #[.val (.int p1), .val (.int p2), .val (.int p3), .val (.int k), .val (.ref w_SINGLE_AND_DOUBLE_QUOTES), .unset, .unset, .unset, .unset, .unset] [(.int (3 : Int32)), (.int p3)]))
      refine Go.via (fun _ => XS.iand X23.here hx rfl (hb hby at_39) rfl) ?_
      show Go p e below _ (T23.setTop (mkF m 40 #[.val (.int p1), .val (.int p2), .val (.int p3), .val (.int k), .val (.ref w_SINGLE_AND_DOUBLE_QUOTES), .unset, .unset, .unset, .unset, .unset] [(.int (p3 &&& (3 : Int32)))]))
      generalize hss : (p3 &&& (3 : Int32)) = ss
      show Go p e below _ (T23.setTop (mkF m 40 #[.val (.int p1), .val (.int p2), .val (.int p3), .val (.int k), .val (.ref w_SINGLE_AND_DOUBLE_QUOTES), .unset, .unset, .unset, .unset, .unset] [(.int ss)]))
      refine Go.via (fun _ => XS.istore X23.here hx rfl (hb hby at_40) rfl (l' := #[.val (.int p1), .val (.int p2), .val (.int p3), .val (.int k), .val (.ref w_SINGLE_AND_DOUBLE_QUOTES), .val (.int ss), .unset, .unset, .unset, .unset]) rfl) ?_
      show Go p e below _ (T23.setTop (mkF m 42 #[.val (.int p1), .val (.int p2), .val (.int p3), .val (.int k), .val (.ref w_SINGLE_AND_DOUBLE_QUOTES), .val (.int ss), .unset, .unset, .unset, .unset] []))
      refine Go.via (fun _ => XS.iload X23.here hx rfl (hb hby at_42) rfl) ?_
      show Go p e below _ (T23.setTop (mkF m 44 #[.val (.int p1), .val (.int p2), .val (.int p3), .val (.int k), .val (.ref w_SINGLE_AND_DOUBLE_QUOTES), .val (.int ss), .unset, .unset, .unset, .unset] [(.int ss)]))
      by_cases hc24 : ss = (0 : Int32)
      · -- yes
        subst hc24
        show Go p e below _ (T23.setTop (mkF m 44 #[.val (.int p1), .val (.int p2), .val (.int p3), .val (.int k), .val (.ref w_SINGLE_AND_DOUBLE_QUOTES), .val (.int (0 : Int32)), .unset, .unset, .unset, .unset] [(.int (0 : Int32))]))
        show Go p e below _ (T23.setTop (mkF m 44 #[.val (.int p1), .val (.int p2), .val (.int p3), .val (.int k), .val (.ref w_SINGLE_AND_DOUBLE_QUOTES), .val (.int (0 : Int32)), .unset, .unset, .unset, .unset] [(.int (0 : Int32))]))
        refine Go.via (fun _ => XS.ifNo X23.here hx rfl (hb hby at_44) rfl (by decide)) ?_
        show Go p e below _ (T23.setTop (mkF m 47 #[.val (.int p1), .val (.int p2), .val (.int p3), .val (.int k), .val (.ref w_SINGLE_AND_DOUBLE_QUOTES), .val (.int (0 : Int32)), .unset, .unset, .unset, .unset] []))
        refine Go.via (fun _ => XS.bipush X23.here hx rfl (hb hby at_47)) ?_
        show Go p e below _ (T23.setTop (mkF m 49 #[.val (.int p1), .val (.int p2), .val (.int p3), .val (.int k), .val (.ref w_SINGLE_AND_DOUBLE_QUOTES), .val (.int (0 : Int32)), .unset, .unset, .unset, .unset] [(.int (39 : Int32))]))
        refine Go.via (fun _ => XS.istore X23.here hx rfl (hb hby at_49) rfl (l' := #[.val (.int p1), .val (.int p2), .val (.int p3), .val (.int k), .val (.ref w_SINGLE_AND_DOUBLE_QUOTES), .val (.int (0 : Int32)), .val (.int (39 : Int32)), .unset, .unset, .unset]) rfl) ?_
        show Go p e below _ (T23.setTop (mkF m 51 #[.val (.int p1), .val (.int p2), .val (.int p3), .val (.int k), .val (.ref w_SINGLE_AND_DOUBLE_QUOTES), .val (.int (0 : Int32)), .val (.int (39 : Int32)), .unset, .unset, .unset] []))
        refine Go.via (fun _ => XS.goto X23.here hx rfl (pc0 := 51) (pc' := 74) rfl (hb hby at_51) (by decide) (by decide)) ?_
        show Go p e below _ (T23.setTop (mkF m 74 #[.val (.int p1), .val (.int p2), .val (.int p3), .val (.int k), .val (.ref w_SINGLE_AND_DOUBLE_QUOTES), .val (.int (0 : Int32)), .val (.int (39 : Int32)), .unset, .unset, .unset] []))
        refine Go.via (fun _ => XS.iload X23.here hx rfl (hb hby at_74) rfl) ?_
        show Go p e below _ (T23.setTop (mkF m 76 #[.val (.int p1), .val (.int p2), .val (.int p3), .val (.int k), .val (.ref w_SINGLE_AND_DOUBLE_QUOTES), .val (.int (0 : Int32)), .val (.int (39 : Int32)), .unset, .unset, .unset] [(.int (39 : Int32))]))
        refine Go.via (fun _ => XS.bipush X23.here hx rfl (hb hby at_76)) ?_
        show Go p e below _ (T23.setTop (mkF m 78 #[.val (.int p1), .val (.int p2), .val (.int p3), .val (.int k), .val (.ref w_SINGLE_AND_DOUBLE_QUOTES), .val (.int (0 : Int32)), .val (.int (39 : Int32)), .unset, .unset, .unset] [(.int (39 : Int32)), (.int (39 : Int32))]))
        refine Go.via (fun _ => XS.icmpNo X23.here hx rfl (hb hby at_78) rfl (by decide)) ?_
        show Go p e below _ (T23.setTop (mkF m 81 #[.val (.int p1), .val (.int p2), .val (.int p3), .val (.int k), .val (.ref w_SINGLE_AND_DOUBLE_QUOTES), .val (.int (0 : Int32)), .val (.int (39 : Int32)), .unset, .unset, .unset] []))
        refine Go.via (fun _ => XS.iconst X23.here hx rfl (hb hby at_81)) ?_
        show Go p e below _ (T23.setTop (mkF m 82 #[.val (.int p1), .val (.int p2), .val (.int p3), .val (.int k), .val (.ref w_SINGLE_AND_DOUBLE_QUOTES), .val (.int (0 : Int32)), .val (.int (39 : Int32)), .unset, .unset, .unset] [(.int (1 : Int32))]))
        refine Go.via (fun _ => XS.goto X23.here hx rfl (pc0 := 82) (pc' := 86) rfl (hb hby at_82) (by decide) (by decide)) ?_
        show Go p e below _ (T23.setTop (mkF m 86 #[.val (.int p1), .val (.int p2), .val (.int p3), .val (.int k), .val (.ref w_SINGLE_AND_DOUBLE_QUOTES), .val (.int (0 : Int32)), .val (.int (39 : Int32)), .unset, .unset, .unset] [(.int (1 : Int32))]))
        refine Go.via (fun _ => XS.istore X23.here hx rfl (hb hby at_86) rfl (l' := #[.val (.int p1), .val (.int p2), .val (.int p3), .val (.int k), .val (.ref w_SINGLE_AND_DOUBLE_QUOTES), .val (.int (0 : Int32)), .val (.int (39 : Int32)), .val (.int (1 : Int32)), .unset, .unset]) rfl) ?_
        show Go p e below _ (T23.setTop (mkF m 88 #[.val (.int p1), .val (.int p2), .val (.int p3), .val (.int k), .val (.ref w_SINGLE_AND_DOUBLE_QUOTES), .val (.int (0 : Int32)), .val (.int (39 : Int32)), .val (.int (1 : Int32)), .unset, .unset] []))
        refine Go.via (fun _ => XS.iload X23.here hx rfl (hb hby at_88) rfl) ?_
        show Go p e below _ (T23.setTop (mkF m 90 #[.val (.int p1), .val (.int p2), .val (.int p3), .val (.int k), .val (.ref w_SINGLE_AND_DOUBLE_QUOTES), .val (.int (0 : Int32)), .val (.int (39 : Int32)), .val (.int (1 : Int32)), .unset, .unset] [(.int (39 : Int32))]))
        refine Go.via (fun _ => XS.bipush X23.here hx rfl (hb hby at_90)) ?_
        show Go p e below _ (T23.setTop (mkF m 92 #[.val (.int p1), .val (.int p2), .val (.int p3), .val (.int k), .val (.ref w_SINGLE_AND_DOUBLE_QUOTES), .val (.int (0 : Int32)), .val (.int (39 : Int32)), .val (.int (1 : Int32)), .unset, .unset] [(.int (34 : Int32)), (.int (39 : Int32))]))
        refine Go.via (fun _ => XS.icmpYes X23.here hx rfl (pc0 := 92) (pc' := 99) rfl (hb hby at_92) rfl (by decide) (by decide) (by decide)) ?_
        show Go p e below _ (T23.setTop (mkF m 99 #[.val (.int p1), .val (.int p2), .val (.int p3), .val (.int k), .val (.ref w_SINGLE_AND_DOUBLE_QUOTES), .val (.int (0 : Int32)), .val (.int (39 : Int32)), .val (.int (1 : Int32)), .unset, .unset] []))
        refine Go.via (fun _ => XS.iconst X23.here hx rfl (hb hby at_99)) ?_
        show Go p e below _ (T23.setTop (mkF m 100 #[.val (.int p1), .val (.int p2), .val (.int p3), .val (.int k), .val (.ref w_SINGLE_AND_DOUBLE_QUOTES), .val (.int (0 : Int32)), .val (.int (39 : Int32)), .val (.int (1 : Int32)), .unset, .unset] [(.int (0 : Int32))]))
        refine Go.via (fun _ => XS.istore X23.here hx rfl (hb hby at_100) rfl (l' := #[.val (.int p1), .val (.int p2), .val (.int p3), .val (.int k), .val (.ref w_SINGLE_AND_DOUBLE_QUOTES), .val (.int (0 : Int32)), .val (.int (39 : Int32)), .val (.int (1 : Int32)), .val (.int (0 : Int32)), .unset]) rfl) ?_
        show Go p e below _ (T23.setTop (mkF m 102 #[.val (.int p1), .val (.int p2), .val (.int p3), .val (.int k), .val (.ref w_SINGLE_AND_DOUBLE_QUOTES), .val (.int (0 : Int32)), .val (.int (39 : Int32)), .val (.int (1 : Int32)), .val (.int (0 : Int32)), .unset] []))
        refine Go.via (fun _ => XS.iloadN X23.here hx rfl (hb hby at_102) rfl) ?_
        show Go p e below _ (T23.setTop (mkF m 103 #[.val (.int p1), .val (.int p2), .val (.int p3), .val (.int k), .val (.ref w_SINGLE_AND_DOUBLE_QUOTES), .val (.int (0 : Int32)), .val (.int (39 : Int32)), .val (.int (1 : Int32)), .val (.int (0 : Int32)), .unset] [(.int k)]))
        refine Go.via (fun _ => XS.ifYes X23.here hx rfl (pc0 := 103) (pc' := 112) rfl (hb hby at_103) rfl ((if0 _ _).trans (feq hc1).2) (by decide) (by decide)) ?_
        show Go p e below _ (T23.setTop (mkF m 112 #[.val (.int p1), .val (.int p2), .val (.int p3), .val (.int k), .val (.ref w_SINGLE_AND_DOUBLE_QUOTES), .val (.int (0 : Int32)), .val (.int (39 : Int32)), .val (.int (1 : Int32)), .val (.int (0 : Int32)), .unset] []))
        refine Go.via (fun _ => XS.iloadN X23.here hx rfl (hb hby at_112) rfl) ?_
        show Go p e below _ (T23.setTop (mkF m 113 #[.val (.int p1), .val (.int p2), .val (.int p3), .val (.int k), .val (.ref w_SINGLE_AND_DOUBLE_QUOTES), .val (.int (0 : Int32)), .val (.int (39 : Int32)), .val (.int (1 : Int32)), .val (.int (0 : Int32)), .unset] [(.int k)]))
        refine Go.via (fun _ => XS.iconst X23.here hx rfl (hb hby at_113)) ?_
        show Go p e below _ (T23.setTop (mkF m 114 #[.val (.int p1), .val (.int p2), .val (.int p3), .val (.int k), .val (.ref w_SINGLE_AND_DOUBLE_QUOTES), .val (.int (0 : Int32)), .val (.int (39 : Int32)), .val (.int (1 : Int32)), .val (.int (0 : Int32)), .unset] [(.int (1 : Int32)), (.int k)]))
        refine Go.via (fun _ => XS.icmpYes X23.here hx rfl (pc0 := 114) (pc' := 124) rfl (hb hby at_114) rfl (feq hc12).2 (by decide) (by decide)) ?_
        show Go p e below _ (T23.setTop (mkF m 124 #[.val (.int p1), .val (.int p2), .val (.int p3), .val (.int k), .val (.ref w_SINGLE_AND_DOUBLE_QUOTES), .val (.int (0 : Int32)), .val (.int (39 : Int32)), .val (.int (1 : Int32)), .val (.int (0 : Int32)), .unset] []))
        refine Go.via (fun _ => XS.iload X23.here hx rfl (hb hby at_124) rfl) ?_
        show Go p e below _ (T23.setTop (mkF m 126 #[.val (.int p1), .val (.int p2), .val (.int p3), .val (.int k), .val (.ref w_SINGLE_AND_DOUBLE_QUOTES), .val (.int (0 : Int32)), .val (.int (39 : Int32)), .val (.int (1 : Int32)), .val (.int (0 : Int32)), .unset] [(.int (1 : Int32))]))
        refine Go.via (fun _ => XS.ifYes X23.here hx rfl (pc0 := 126) (pc' := 134) rfl (hb hby at_126) rfl (by decide) (by decide) (by decide)) ?_
        show Go p e below _ (T23.setTop (mkF m 134 #[.val (.int p1), .val (.int p2), .val (.int p3), .val (.int k), .val (.ref w_SINGLE_AND_DOUBLE_QUOTES), .val (.int (0 : Int32)), .val (.int (39 : Int32)), .val (.int (1 : Int32)), .val (.int (0 : Int32)), .unset] []))
        refine Go.via (fun _ => XS.iconst X23.here hx rfl (hb hby at_134)) ?_
        show Go p e below _ (T23.setTop (mkF m 135 #[.val (.int p1), .val (.int p2), .val (.int p3), .val (.int k), .val (.ref w_SINGLE_AND_DOUBLE_QUOTES), .val (.int (0 : Int32)), .val (.int (39 : Int32)), .val (.int (1 : Int32)), .val (.int (0 : Int32)), .unset] [(.int (1 : Int32))]))
        refine Go.via (fun _ => XS.goto X23.here hx rfl (pc0 := 135) (pc' := 139) rfl (hb hby at_135) (by decide) (by decide)) ?_
        show Go p e below _ (T23.setTop (mkF m 139 #[.val (.int p1), .val (.int p2), .val (.int p3), .val (.int k), .val (.ref w_SINGLE_AND_DOUBLE_QUOTES), .val (.int (0 : Int32)), .val (.int (39 : Int32)), .val (.int (1 : Int32)), .val (.int (0 : Int32)), .unset] [(.int (1 : Int32))]))
        refine Go.via (fun _ => XS.istore X23.here hx rfl (hb hby at_139) rfl (l' := #[.val (.int p1), .val (.int p2), .val (.int p3), .val (.int k), .val (.ref w_SINGLE_AND_DOUBLE_QUOTES), .val (.int (0 : Int32)), .val (.int (39 : Int32)), .val (.int (1 : Int32)), .val (.int (0 : Int32)), .val (.int (1 : Int32))]) rfl) ?_
        show Go p e below _ (T23.setTop (mkF m 141 #[.val (.int p1), .val (.int p2), .val (.int p3), .val (.int k), .val (.ref w_SINGLE_AND_DOUBLE_QUOTES), .val (.int (0 : Int32)), .val (.int (39 : Int32)), .val (.int (1 : Int32)), .val (.int (0 : Int32)), .val (.int (1 : Int32))] []))
        refine Go.via (fun _ => XS.aload X23.here hx rfl (hb hby at_141) rfl rfl) ?_
        show Go p e below _ (T23.setTop (mkF m 143 #[.val (.int p1), .val (.int p2), .val (.int p3), .val (.int k), .val (.ref w_SINGLE_AND_DOUBLE_QUOTES), .val (.int (0 : Int32)), .val (.int (39 : Int32)), .val (.int (1 : Int32)), .val (.int (0 : Int32)), .val (.int (1 : Int32))] [(.ref w_SINGLE_AND_DOUBLE_QUOTES)]))
        refine Go.via (fun _ => XS.iload X23.here hx rfl (hb hby at_143) rfl) ?_
        show Go p e below _ (T23.setTop (mkF m 145 #[.val (.int p1), .val (.int p2), .val (.int p3), .val (.int k), .val (.ref w_SINGLE_AND_DOUBLE_QUOTES), .val (.int (0 : Int32)), .val (.int (39 : Int32)), .val (.int (1 : Int32)), .val (.int (0 : Int32)), .val (.int (1 : Int32))] [(.int (39 : Int32)), (.ref w_SINGLE_AND_DOUBLE_QUOTES)]))
        obtain ⟨cq25, kq25, q25a, q25b, q25c⟩ := isOf hZ e23 (E_SINGLE_AND_DOUBLE_QUOTES.ext O0.2)
        obtain ⟨_, _, ⟨T25, L25, k25, n25⟩, -, X25, ⟨Lc25, hQ25, l25, y25, z25⟩, st25⟩ := X23.virtualBack hx (y := (⟨"com/example/waymark/waymark/BackslashEscapes", "in", "(C)Z"⟩ : MethodName)) (z := (⟨"com/example/waymark/waymark/BackslashEscapes", "in", "(C)Z"⟩ : MethodName)) hown (mvT hZ (hw _ (List.mem_of_getElem? (i := 5) rfl))) (mvT hZ (hw _ (List.mem_of_getElem? (i := 6) rfl))) (notFace_of_selects (args := #[]) (mvT hZ (hw _ (List.mem_of_getElem? (i := 8) rfl)))) (mvT hZ (hw _ (List.mem_of_getElem? (i := 8) rfl))) (mvT hZ (hw _ (List.mem_of_getElem? (i := 7) rfl))) (by decide) (backOf (W := 0) (rm1_2_39 l Z a0 hw []  w_NONE w_SINGLE_QUOTES w_SINGLE_AND_DOUBLE_QUOTES h0 n0 Z0 O0 S_NONE S_SINGLE_QUOTES S_SINGLE_AND_DOUBLE_QUOTES ne_NONE_SINGLE_QUOTES ne_NONE_SINGLE_AND_DOUBLE_QUOTES ne_SINGLE_QUOTES_SINGLE_AND_DOUBLE_QUOTES ) hZ (hw _ (List.mem_of_getElem? (i := 9) rfl)) (hw _ (List.mem_of_getElem? (i := 2) rfl)) (by decide) (by decide)) q25a q25c (g := (mkF m 145 #[.val (.int p1), .val (.int p2), .val (.int p3), .val (.int k), .val (.ref w_SINGLE_AND_DOUBLE_QUOTES), .val (.int (0 : Int32)), .val (.int (39 : Int32)), .val (.int (1 : Int32)), .val (.int (0 : Int32)), .val (.int (1 : Int32))] [(.int (39 : Int32)), (.ref w_SINGLE_AND_DOUBLE_QUOTES)])) rfl (by rw [hml]; rfl) (Steps.refl _) (argsL := [(.int (39 : Int32))]) (rest := []) (lenOf pd_0 rfl) rfl (by show 2 * 0 + _ ≤ _; exact Nat.le_of_eq rfl) (hb hby at_145) (fun _ _ => ⟨rfl, e23, (by decide : 0 + 0 ≤ _), (by decide : 0 + 0 ≤ _)⟩)
        dsimp only [Pt.U, Pt.locs, Pt.cells, Pt.slots] at X25 l25 y25 z25 st25 hQ25
        subst l25 y25 z25
        obtain ⟨rfl, N25q, e25q⟩ := hQ25
        have N25 := Fr.app N0 N25q
        refine Go.tr st25 ?_
        show Go p e below _ (T25.setTop (mkF m 148 #[.val (.int p1), .val (.int p2), .val (.int p3), .val (.int k), .val (.ref w_SINGLE_AND_DOUBLE_QUOTES), .val (.int (0 : Int32)), .val (.int (39 : Int32)), .val (.int (1 : Int32)), .val (.int (0 : Int32)), .val (.int (1 : Int32))] [(.int (1 : Int32))]))
        refine Go.via (fun _ => XS.iload X25.here hx rfl (hb hby at_148) rfl) ?_
        show Go p e below _ (T25.setTop (mkF m 150 #[.val (.int p1), .val (.int p2), .val (.int p3), .val (.int k), .val (.ref w_SINGLE_AND_DOUBLE_QUOTES), .val (.int (0 : Int32)), .val (.int (39 : Int32)), .val (.int (1 : Int32)), .val (.int (0 : Int32)), .val (.int (1 : Int32))] [(.int (1 : Int32)), (.int (1 : Int32))]))
        refine Go.via (fun _ => XS.icmpNo X25.here hx rfl (hb hby at_150) rfl (by decide)) ?_
        show Go p e below _ (T25.setTop (mkF m 153 #[.val (.int p1), .val (.int p2), .val (.int p3), .val (.int k), .val (.ref w_SINGLE_AND_DOUBLE_QUOTES), .val (.int (0 : Int32)), .val (.int (39 : Int32)), .val (.int (1 : Int32)), .val (.int (0 : Int32)), .val (.int (1 : Int32))] []))
        refine Go.via (fun _ => XS.iconst X25.here hx rfl (hb hby at_153)) ?_
        show Go p e below _ (T25.setTop (mkF m 154 #[.val (.int p1), .val (.int p2), .val (.int p3), .val (.int k), .val (.ref w_SINGLE_AND_DOUBLE_QUOTES), .val (.int (0 : Int32)), .val (.int (39 : Int32)), .val (.int (1 : Int32)), .val (.int (0 : Int32)), .val (.int (1 : Int32))] [(.int (1 : Int32))]))
        refine Go.via (fun _ => XS.goto X25.here hx rfl (pc0 := 154) (pc' := 158) rfl (hb hby at_154) (by decide) (by decide)) ?_
        show Go p e below _ (T25.setTop (mkF m 158 #[.val (.int p1), .val (.int p2), .val (.int p3), .val (.int k), .val (.ref w_SINGLE_AND_DOUBLE_QUOTES), .val (.int (0 : Int32)), .val (.int (39 : Int32)), .val (.int (1 : Int32)), .val (.int (0 : Int32)), .val (.int (1 : Int32))] [(.int (1 : Int32))]))
        exact own_retN X25 hx hlk (t := .boolean) Bd.returns (by simp) (hb hby at_158) (by show Q0 Z p1 p2 p3 w_NONE w_SINGLE_QUOTES w_SINGLE_AND_DOUBLE_QUOTES h0 n0 _ T25.heap _; rw [e25q]; exact ⟨rfl, N25⟩) (by decide) (by decide)
      · -- no
        show Go p e below _ (T23.setTop (mkF m 44 #[.val (.int p1), .val (.int p2), .val (.int p3), .val (.int k), .val (.ref w_SINGLE_AND_DOUBLE_QUOTES), .val (.int ss), .unset, .unset, .unset, .unset] [(.int ss)]))
        show Go p e below _ (T23.setTop (mkF m 44 #[.val (.int p1), .val (.int p2), .val (.int p3), .val (.int k), .val (.ref w_SINGLE_AND_DOUBLE_QUOTES), .val (.int ss), .unset, .unset, .unset, .unset] [(.int ss)]))
        refine Go.via (fun _ => XS.ifYes X23.here hx rfl (pc0 := 44) (pc' := 54) rfl (hb hby at_44) rfl ((if0 _ _).trans (feq hc24).2) (by decide) (by decide)) ?_
        show Go p e below _ (T23.setTop (mkF m 54 #[.val (.int p1), .val (.int p2), .val (.int p3), .val (.int k), .val (.ref w_SINGLE_AND_DOUBLE_QUOTES), .val (.int ss), .unset, .unset, .unset, .unset] []))
        refine Go.via (fun _ => XS.iload X23.here hx rfl (hb hby at_54) rfl) ?_
        show Go p e below _ (T23.setTop (mkF m 56 #[.val (.int p1), .val (.int p2), .val (.int p3), .val (.int k), .val (.ref w_SINGLE_AND_DOUBLE_QUOTES), .val (.int ss), .unset, .unset, .unset, .unset] [(.int ss)]))
        refine Go.via (fun _ => XS.iconst X23.here hx rfl (hb hby at_56)) ?_
        show Go p e below _ (T23.setTop (mkF m 57 #[.val (.int p1), .val (.int p2), .val (.int p3), .val (.int k), .val (.ref w_SINGLE_AND_DOUBLE_QUOTES), .val (.int ss), .unset, .unset, .unset, .unset] [(.int (1 : Int32)), (.int ss)]))
        by_cases hc26 : ss = (1 : Int32)
        · -- yes
          subst hc26
          show Go p e below _ (T23.setTop (mkF m 57 #[.val (.int p1), .val (.int p2), .val (.int p3), .val (.int k), .val (.ref w_SINGLE_AND_DOUBLE_QUOTES), .val (.int (1 : Int32)), .unset, .unset, .unset, .unset] [(.int (1 : Int32)), (.int (1 : Int32))]))
          show Go p e below _ (T23.setTop (mkF m 57 #[.val (.int p1), .val (.int p2), .val (.int p3), .val (.int k), .val (.ref w_SINGLE_AND_DOUBLE_QUOTES), .val (.int (1 : Int32)), .unset, .unset, .unset, .unset] [(.int (1 : Int32)), (.int (1 : Int32))]))
          refine Go.via (fun _ => XS.icmpNo X23.here hx rfl (hb hby at_57) rfl (by decide)) ?_
          show Go p e below _ (T23.setTop (mkF m 60 #[.val (.int p1), .val (.int p2), .val (.int p3), .val (.int k), .val (.ref w_SINGLE_AND_DOUBLE_QUOTES), .val (.int (1 : Int32)), .unset, .unset, .unset, .unset] []))
          refine Go.via (fun _ => XS.bipush X23.here hx rfl (hb hby at_60)) ?_
          show Go p e below _ (T23.setTop (mkF m 62 #[.val (.int p1), .val (.int p2), .val (.int p3), .val (.int k), .val (.ref w_SINGLE_AND_DOUBLE_QUOTES), .val (.int (1 : Int32)), .unset, .unset, .unset, .unset] [(.int (34 : Int32))]))
          refine Go.via (fun _ => XS.istore X23.here hx rfl (hb hby at_62) rfl (l' := #[.val (.int p1), .val (.int p2), .val (.int p3), .val (.int k), .val (.ref w_SINGLE_AND_DOUBLE_QUOTES), .val (.int (1 : Int32)), .val (.int (34 : Int32)), .unset, .unset, .unset]) rfl) ?_
          show Go p e below _ (T23.setTop (mkF m 64 #[.val (.int p1), .val (.int p2), .val (.int p3), .val (.int k), .val (.ref w_SINGLE_AND_DOUBLE_QUOTES), .val (.int (1 : Int32)), .val (.int (34 : Int32)), .unset, .unset, .unset] []))
          refine Go.via (fun _ => XS.goto X23.here hx rfl (pc0 := 64) (pc' := 74) rfl (hb hby at_64) (by decide) (by decide)) ?_
          show Go p e below _ (T23.setTop (mkF m 74 #[.val (.int p1), .val (.int p2), .val (.int p3), .val (.int k), .val (.ref w_SINGLE_AND_DOUBLE_QUOTES), .val (.int (1 : Int32)), .val (.int (34 : Int32)), .unset, .unset, .unset] []))
          refine Go.via (fun _ => XS.iload X23.here hx rfl (hb hby at_74) rfl) ?_
          show Go p e below _ (T23.setTop (mkF m 76 #[.val (.int p1), .val (.int p2), .val (.int p3), .val (.int k), .val (.ref w_SINGLE_AND_DOUBLE_QUOTES), .val (.int (1 : Int32)), .val (.int (34 : Int32)), .unset, .unset, .unset] [(.int (34 : Int32))]))
          refine Go.via (fun _ => XS.bipush X23.here hx rfl (hb hby at_76)) ?_
          show Go p e below _ (T23.setTop (mkF m 78 #[.val (.int p1), .val (.int p2), .val (.int p3), .val (.int k), .val (.ref w_SINGLE_AND_DOUBLE_QUOTES), .val (.int (1 : Int32)), .val (.int (34 : Int32)), .unset, .unset, .unset] [(.int (39 : Int32)), (.int (34 : Int32))]))
          refine Go.via (fun _ => XS.icmpYes X23.here hx rfl (pc0 := 78) (pc' := 85) rfl (hb hby at_78) rfl (by decide) (by decide) (by decide)) ?_
          show Go p e below _ (T23.setTop (mkF m 85 #[.val (.int p1), .val (.int p2), .val (.int p3), .val (.int k), .val (.ref w_SINGLE_AND_DOUBLE_QUOTES), .val (.int (1 : Int32)), .val (.int (34 : Int32)), .unset, .unset, .unset] []))
          refine Go.via (fun _ => XS.iconst X23.here hx rfl (hb hby at_85)) ?_
          show Go p e below _ (T23.setTop (mkF m 86 #[.val (.int p1), .val (.int p2), .val (.int p3), .val (.int k), .val (.ref w_SINGLE_AND_DOUBLE_QUOTES), .val (.int (1 : Int32)), .val (.int (34 : Int32)), .unset, .unset, .unset] [(.int (0 : Int32))]))
          refine Go.via (fun _ => XS.istore X23.here hx rfl (hb hby at_86) rfl (l' := #[.val (.int p1), .val (.int p2), .val (.int p3), .val (.int k), .val (.ref w_SINGLE_AND_DOUBLE_QUOTES), .val (.int (1 : Int32)), .val (.int (34 : Int32)), .val (.int (0 : Int32)), .unset, .unset]) rfl) ?_
          show Go p e below _ (T23.setTop (mkF m 88 #[.val (.int p1), .val (.int p2), .val (.int p3), .val (.int k), .val (.ref w_SINGLE_AND_DOUBLE_QUOTES), .val (.int (1 : Int32)), .val (.int (34 : Int32)), .val (.int (0 : Int32)), .unset, .unset] []))
          refine Go.via (fun _ => XS.iload X23.here hx rfl (hb hby at_88) rfl) ?_
          show Go p e below _ (T23.setTop (mkF m 90 #[.val (.int p1), .val (.int p2), .val (.int p3), .val (.int k), .val (.ref w_SINGLE_AND_DOUBLE_QUOTES), .val (.int (1 : Int32)), .val (.int (34 : Int32)), .val (.int (0 : Int32)), .unset, .unset] [(.int (34 : Int32))]))
          refine Go.via (fun _ => XS.bipush X23.here hx rfl (hb hby at_90)) ?_
          show Go p e below _ (T23.setTop (mkF m 92 #[.val (.int p1), .val (.int p2), .val (.int p3), .val (.int k), .val (.ref w_SINGLE_AND_DOUBLE_QUOTES), .val (.int (1 : Int32)), .val (.int (34 : Int32)), .val (.int (0 : Int32)), .unset, .unset] [(.int (34 : Int32)), (.int (34 : Int32))]))
          refine Go.via (fun _ => XS.icmpNo X23.here hx rfl (hb hby at_92) rfl (by decide)) ?_
          show Go p e below _ (T23.setTop (mkF m 95 #[.val (.int p1), .val (.int p2), .val (.int p3), .val (.int k), .val (.ref w_SINGLE_AND_DOUBLE_QUOTES), .val (.int (1 : Int32)), .val (.int (34 : Int32)), .val (.int (0 : Int32)), .unset, .unset] []))
          refine Go.via (fun _ => XS.iconst X23.here hx rfl (hb hby at_95)) ?_
          show Go p e below _ (T23.setTop (mkF m 96 #[.val (.int p1), .val (.int p2), .val (.int p3), .val (.int k), .val (.ref w_SINGLE_AND_DOUBLE_QUOTES), .val (.int (1 : Int32)), .val (.int (34 : Int32)), .val (.int (0 : Int32)), .unset, .unset] [(.int (1 : Int32))]))
          refine Go.via (fun _ => XS.goto X23.here hx rfl (pc0 := 96) (pc' := 100) rfl (hb hby at_96) (by decide) (by decide)) ?_
          show Go p e below _ (T23.setTop (mkF m 100 #[.val (.int p1), .val (.int p2), .val (.int p3), .val (.int k), .val (.ref w_SINGLE_AND_DOUBLE_QUOTES), .val (.int (1 : Int32)), .val (.int (34 : Int32)), .val (.int (0 : Int32)), .unset, .unset] [(.int (1 : Int32))]))
          refine Go.via (fun _ => XS.istore X23.here hx rfl (hb hby at_100) rfl (l' := #[.val (.int p1), .val (.int p2), .val (.int p3), .val (.int k), .val (.ref w_SINGLE_AND_DOUBLE_QUOTES), .val (.int (1 : Int32)), .val (.int (34 : Int32)), .val (.int (0 : Int32)), .val (.int (1 : Int32)), .unset]) rfl) ?_
          show Go p e below _ (T23.setTop (mkF m 102 #[.val (.int p1), .val (.int p2), .val (.int p3), .val (.int k), .val (.ref w_SINGLE_AND_DOUBLE_QUOTES), .val (.int (1 : Int32)), .val (.int (34 : Int32)), .val (.int (0 : Int32)), .val (.int (1 : Int32)), .unset] []))
          refine Go.via (fun _ => XS.iloadN X23.here hx rfl (hb hby at_102) rfl) ?_
          show Go p e below _ (T23.setTop (mkF m 103 #[.val (.int p1), .val (.int p2), .val (.int p3), .val (.int k), .val (.ref w_SINGLE_AND_DOUBLE_QUOTES), .val (.int (1 : Int32)), .val (.int (34 : Int32)), .val (.int (0 : Int32)), .val (.int (1 : Int32)), .unset] [(.int k)]))
          refine Go.via (fun _ => XS.ifYes X23.here hx rfl (pc0 := 103) (pc' := 112) rfl (hb hby at_103) rfl ((if0 _ _).trans (feq hc1).2) (by decide) (by decide)) ?_
          show Go p e below _ (T23.setTop (mkF m 112 #[.val (.int p1), .val (.int p2), .val (.int p3), .val (.int k), .val (.ref w_SINGLE_AND_DOUBLE_QUOTES), .val (.int (1 : Int32)), .val (.int (34 : Int32)), .val (.int (0 : Int32)), .val (.int (1 : Int32)), .unset] []))
          refine Go.via (fun _ => XS.iloadN X23.here hx rfl (hb hby at_112) rfl) ?_
          show Go p e below _ (T23.setTop (mkF m 113 #[.val (.int p1), .val (.int p2), .val (.int p3), .val (.int k), .val (.ref w_SINGLE_AND_DOUBLE_QUOTES), .val (.int (1 : Int32)), .val (.int (34 : Int32)), .val (.int (0 : Int32)), .val (.int (1 : Int32)), .unset] [(.int k)]))
          refine Go.via (fun _ => XS.iconst X23.here hx rfl (hb hby at_113)) ?_
          show Go p e below _ (T23.setTop (mkF m 114 #[.val (.int p1), .val (.int p2), .val (.int p3), .val (.int k), .val (.ref w_SINGLE_AND_DOUBLE_QUOTES), .val (.int (1 : Int32)), .val (.int (34 : Int32)), .val (.int (0 : Int32)), .val (.int (1 : Int32)), .unset] [(.int (1 : Int32)), (.int k)]))
          refine Go.via (fun _ => XS.icmpYes X23.here hx rfl (pc0 := 114) (pc' := 124) rfl (hb hby at_114) rfl (feq hc12).2 (by decide) (by decide)) ?_
          show Go p e below _ (T23.setTop (mkF m 124 #[.val (.int p1), .val (.int p2), .val (.int p3), .val (.int k), .val (.ref w_SINGLE_AND_DOUBLE_QUOTES), .val (.int (1 : Int32)), .val (.int (34 : Int32)), .val (.int (0 : Int32)), .val (.int (1 : Int32)), .unset] []))
          refine Go.via (fun _ => XS.iload X23.here hx rfl (hb hby at_124) rfl) ?_
          show Go p e below _ (T23.setTop (mkF m 126 #[.val (.int p1), .val (.int p2), .val (.int p3), .val (.int k), .val (.ref w_SINGLE_AND_DOUBLE_QUOTES), .val (.int (1 : Int32)), .val (.int (34 : Int32)), .val (.int (0 : Int32)), .val (.int (1 : Int32)), .unset] [(.int (0 : Int32))]))
          refine Go.via (fun _ => XS.ifNo X23.here hx rfl (hb hby at_126) rfl (by decide)) ?_
          show Go p e below _ (T23.setTop (mkF m 129 #[.val (.int p1), .val (.int p2), .val (.int p3), .val (.int k), .val (.ref w_SINGLE_AND_DOUBLE_QUOTES), .val (.int (1 : Int32)), .val (.int (34 : Int32)), .val (.int (0 : Int32)), .val (.int (1 : Int32)), .unset] []))
          refine Go.via (fun _ => XS.iload X23.here hx rfl (hb hby at_129) rfl) ?_
          show Go p e below _ (T23.setTop (mkF m 131 #[.val (.int p1), .val (.int p2), .val (.int p3), .val (.int k), .val (.ref w_SINGLE_AND_DOUBLE_QUOTES), .val (.int (1 : Int32)), .val (.int (34 : Int32)), .val (.int (0 : Int32)), .val (.int (1 : Int32)), .unset] [(.int (1 : Int32))]))
          refine Go.via (fun _ => XS.ifNo X23.here hx rfl (hb hby at_131) rfl (by decide)) ?_
          show Go p e below _ (T23.setTop (mkF m 134 #[.val (.int p1), .val (.int p2), .val (.int p3), .val (.int k), .val (.ref w_SINGLE_AND_DOUBLE_QUOTES), .val (.int (1 : Int32)), .val (.int (34 : Int32)), .val (.int (0 : Int32)), .val (.int (1 : Int32)), .unset] []))
          refine Go.via (fun _ => XS.iconst X23.here hx rfl (hb hby at_134)) ?_
          show Go p e below _ (T23.setTop (mkF m 135 #[.val (.int p1), .val (.int p2), .val (.int p3), .val (.int k), .val (.ref w_SINGLE_AND_DOUBLE_QUOTES), .val (.int (1 : Int32)), .val (.int (34 : Int32)), .val (.int (0 : Int32)), .val (.int (1 : Int32)), .unset] [(.int (1 : Int32))]))
          refine Go.via (fun _ => XS.goto X23.here hx rfl (pc0 := 135) (pc' := 139) rfl (hb hby at_135) (by decide) (by decide)) ?_
          show Go p e below _ (T23.setTop (mkF m 139 #[.val (.int p1), .val (.int p2), .val (.int p3), .val (.int k), .val (.ref w_SINGLE_AND_DOUBLE_QUOTES), .val (.int (1 : Int32)), .val (.int (34 : Int32)), .val (.int (0 : Int32)), .val (.int (1 : Int32)), .unset] [(.int (1 : Int32))]))
          refine Go.via (fun _ => XS.istore X23.here hx rfl (hb hby at_139) rfl (l' := #[.val (.int p1), .val (.int p2), .val (.int p3), .val (.int k), .val (.ref w_SINGLE_AND_DOUBLE_QUOTES), .val (.int (1 : Int32)), .val (.int (34 : Int32)), .val (.int (0 : Int32)), .val (.int (1 : Int32)), .val (.int (1 : Int32))]) rfl) ?_
          show Go p e below _ (T23.setTop (mkF m 141 #[.val (.int p1), .val (.int p2), .val (.int p3), .val (.int k), .val (.ref w_SINGLE_AND_DOUBLE_QUOTES), .val (.int (1 : Int32)), .val (.int (34 : Int32)), .val (.int (0 : Int32)), .val (.int (1 : Int32)), .val (.int (1 : Int32))] []))
          refine Go.via (fun _ => XS.aload X23.here hx rfl (hb hby at_141) rfl rfl) ?_
          show Go p e below _ (T23.setTop (mkF m 143 #[.val (.int p1), .val (.int p2), .val (.int p3), .val (.int k), .val (.ref w_SINGLE_AND_DOUBLE_QUOTES), .val (.int (1 : Int32)), .val (.int (34 : Int32)), .val (.int (0 : Int32)), .val (.int (1 : Int32)), .val (.int (1 : Int32))] [(.ref w_SINGLE_AND_DOUBLE_QUOTES)]))
          refine Go.via (fun _ => XS.iload X23.here hx rfl (hb hby at_143) rfl) ?_
          show Go p e below _ (T23.setTop (mkF m 145 #[.val (.int p1), .val (.int p2), .val (.int p3), .val (.int k), .val (.ref w_SINGLE_AND_DOUBLE_QUOTES), .val (.int (1 : Int32)), .val (.int (34 : Int32)), .val (.int (0 : Int32)), .val (.int (1 : Int32)), .val (.int (1 : Int32))] [(.int (34 : Int32)), (.ref w_SINGLE_AND_DOUBLE_QUOTES)]))
          obtain ⟨cq27, kq27, q27a, q27b, q27c⟩ := isOf hZ e23 (E_SINGLE_AND_DOUBLE_QUOTES.ext O0.2)
          obtain ⟨_, _, ⟨T27, L27, k27, n27⟩, -, X27, ⟨Lc27, hQ27, l27, y27, z27⟩, st27⟩ := X23.virtualBack hx (y := (⟨"com/example/waymark/waymark/BackslashEscapes", "in", "(C)Z"⟩ : MethodName)) (z := (⟨"com/example/waymark/waymark/BackslashEscapes", "in", "(C)Z"⟩ : MethodName)) hown (mvT hZ (hw _ (List.mem_of_getElem? (i := 5) rfl))) (mvT hZ (hw _ (List.mem_of_getElem? (i := 6) rfl))) (notFace_of_selects (args := #[]) (mvT hZ (hw _ (List.mem_of_getElem? (i := 8) rfl)))) (mvT hZ (hw _ (List.mem_of_getElem? (i := 8) rfl))) (mvT hZ (hw _ (List.mem_of_getElem? (i := 7) rfl))) (by decide) (backOf (W := 0) (rm1_2_34 l Z a0 hw []  w_NONE w_SINGLE_QUOTES w_SINGLE_AND_DOUBLE_QUOTES h0 n0 Z0 O0 S_NONE S_SINGLE_QUOTES S_SINGLE_AND_DOUBLE_QUOTES ne_NONE_SINGLE_QUOTES ne_NONE_SINGLE_AND_DOUBLE_QUOTES ne_SINGLE_QUOTES_SINGLE_AND_DOUBLE_QUOTES ) hZ (hw _ (List.mem_of_getElem? (i := 9) rfl)) (hw _ (List.mem_of_getElem? (i := 2) rfl)) (by decide) (by decide)) q27a q27c (g := (mkF m 145 #[.val (.int p1), .val (.int p2), .val (.int p3), .val (.int k), .val (.ref w_SINGLE_AND_DOUBLE_QUOTES), .val (.int (1 : Int32)), .val (.int (34 : Int32)), .val (.int (0 : Int32)), .val (.int (1 : Int32)), .val (.int (1 : Int32))] [(.int (34 : Int32)), (.ref w_SINGLE_AND_DOUBLE_QUOTES)])) rfl (by rw [hml]; rfl) (Steps.refl _) (argsL := [(.int (34 : Int32))]) (rest := []) (lenOf pd_0 rfl) rfl (by show 2 * 0 + _ ≤ _; exact Nat.le_of_eq rfl) (hb hby at_145) (fun _ _ => ⟨rfl, e23, (by decide : 0 + 0 ≤ _), (by decide : 0 + 0 ≤ _)⟩)
          dsimp only [Pt.U, Pt.locs, Pt.cells, Pt.slots] at X27 l27 y27 z27 st27 hQ27
          subst l27 y27 z27
          obtain ⟨rfl, N27q, e27q⟩ := hQ27
          have N27 := Fr.app N0 N27q
          refine Go.tr st27 ?_
          show Go p e below _ (T27.setTop (mkF m 148 #[.val (.int p1), .val (.int p2), .val (.int p3), .val (.int k), .val (.ref w_SINGLE_AND_DOUBLE_QUOTES), .val (.int (1 : Int32)), .val (.int (34 : Int32)), .val (.int (0 : Int32)), .val (.int (1 : Int32)), .val (.int (1 : Int32))] [(.int (1 : Int32))]))
          refine Go.via (fun _ => XS.iload X27.here hx rfl (hb hby at_148) rfl) ?_
          show Go p e below _ (T27.setTop (mkF m 150 #[.val (.int p1), .val (.int p2), .val (.int p3), .val (.int k), .val (.ref w_SINGLE_AND_DOUBLE_QUOTES), .val (.int (1 : Int32)), .val (.int (34 : Int32)), .val (.int (0 : Int32)), .val (.int (1 : Int32)), .val (.int (1 : Int32))] [(.int (1 : Int32)), (.int (1 : Int32))]))
          refine Go.via (fun _ => XS.icmpNo X27.here hx rfl (hb hby at_150) rfl (by decide)) ?_
          show Go p e below _ (T27.setTop (mkF m 153 #[.val (.int p1), .val (.int p2), .val (.int p3), .val (.int k), .val (.ref w_SINGLE_AND_DOUBLE_QUOTES), .val (.int (1 : Int32)), .val (.int (34 : Int32)), .val (.int (0 : Int32)), .val (.int (1 : Int32)), .val (.int (1 : Int32))] []))
          refine Go.via (fun _ => XS.iconst X27.here hx rfl (hb hby at_153)) ?_
          show Go p e below _ (T27.setTop (mkF m 154 #[.val (.int p1), .val (.int p2), .val (.int p3), .val (.int k), .val (.ref w_SINGLE_AND_DOUBLE_QUOTES), .val (.int (1 : Int32)), .val (.int (34 : Int32)), .val (.int (0 : Int32)), .val (.int (1 : Int32)), .val (.int (1 : Int32))] [(.int (1 : Int32))]))
          refine Go.via (fun _ => XS.goto X27.here hx rfl (pc0 := 154) (pc' := 158) rfl (hb hby at_154) (by decide) (by decide)) ?_
          show Go p e below _ (T27.setTop (mkF m 158 #[.val (.int p1), .val (.int p2), .val (.int p3), .val (.int k), .val (.ref w_SINGLE_AND_DOUBLE_QUOTES), .val (.int (1 : Int32)), .val (.int (34 : Int32)), .val (.int (0 : Int32)), .val (.int (1 : Int32)), .val (.int (1 : Int32))] [(.int (1 : Int32))]))
          exact own_retN X27 hx hlk (t := .boolean) Bd.returns (by simp) (hb hby at_158) (by show Q0 Z p1 p2 p3 w_NONE w_SINGLE_QUOTES w_SINGLE_AND_DOUBLE_QUOTES h0 n0 _ T27.heap _; rw [e27q]; exact ⟨rfl, N27⟩) (by decide) (by decide)
        · -- no
          show Go p e below _ (T23.setTop (mkF m 57 #[.val (.int p1), .val (.int p2), .val (.int p3), .val (.int k), .val (.ref w_SINGLE_AND_DOUBLE_QUOTES), .val (.int ss), .unset, .unset, .unset, .unset] [(.int (1 : Int32)), (.int ss)]))
          show Go p e below _ (T23.setTop (mkF m 57 #[.val (.int p1), .val (.int p2), .val (.int p3), .val (.int k), .val (.ref w_SINGLE_AND_DOUBLE_QUOTES), .val (.int ss), .unset, .unset, .unset, .unset] [(.int (1 : Int32)), (.int ss)]))
          refine Go.via (fun _ => XS.icmpYes X23.here hx rfl (pc0 := 57) (pc' := 67) rfl (hb hby at_57) rfl (feq hc26).2 (by decide) (by decide)) ?_
          show Go p e below _ (T23.setTop (mkF m 67 #[.val (.int p1), .val (.int p2), .val (.int p3), .val (.int k), .val (.ref w_SINGLE_AND_DOUBLE_QUOTES), .val (.int ss), .unset, .unset, .unset, .unset] []))
          refine Go.via (fun _ => XS.iloadN X23.here hx rfl (hb hby at_67) rfl) ?_
          show Go p e below _ (T23.setTop (mkF m 68 #[.val (.int p1), .val (.int p2), .val (.int p3), .val (.int k), .val (.ref w_SINGLE_AND_DOUBLE_QUOTES), .val (.int ss), .unset, .unset, .unset, .unset] [(.int p2)]))
          refine Go.via (X23.ldcInt hx hown (mvT hZ (hw _ (List.mem_of_getElem? (i := 4) rfl))) (g := (mkF m 68 #[.val (.int p1), .val (.int p2), .val (.int p3), .val (.int k), .val (.ref w_SINGLE_AND_DOUBLE_QUOTES), .val (.int ss), .unset, .unset, .unset, .unset] [(.int p2)])) rfl (hb hby at_68)) ?_
          show Go p e below _ (T23.setTop (mkF m 70 #[.val (.int p1), .val (.int p2), .val (.int p3), .val (.int k), .val (.ref w_SINGLE_AND_DOUBLE_QUOTES), .val (.int ss), .unset, .unset, .unset, .unset] [(.int (65535 : Int32)), (.int p2)]))
          refine Go.via (fun _ => XS.iand X23.here hx rfl (hb hby at_70) rfl) ?_
          show Go p e below _ (T23.setTop (mkF m 71 #[.val (.int p1), .val (.int p2), .val (.int p3), .val (.int k), .val (.ref w_SINGLE_AND_DOUBLE_QUOTES), .val (.int ss), .unset, .unset, .unset, .unset] [(.int (p2 &&& (65535 : Int32)))]))
          refine Go.via (fun _ => XS.i2c X23.here hx rfl (hb hby at_71) rfl) ?_
          show Go p e below _ (T23.setTop (mkF m 72 #[.val (.int p1), .val (.int p2), .val (.int p3), .val (.int k), .val (.ref w_SINGLE_AND_DOUBLE_QUOTES), .val (.int ss), .unset, .unset, .unset, .unset] [(.int ((p2 &&& (65535 : Int32)).toUInt32.toUInt16.toUInt32.toInt32))]))
          generalize hq : ((p2 &&& (65535 : Int32)).toUInt32.toUInt16.toUInt32.toInt32) = q
          show Go p e below _ (T23.setTop (mkF m 72 #[.val (.int p1), .val (.int p2), .val (.int p3), .val (.int k), .val (.ref w_SINGLE_AND_DOUBLE_QUOTES), .val (.int ss), .unset, .unset, .unset, .unset] [(.int q)]))
          refine Go.via (fun _ => XS.istore X23.here hx rfl (hb hby at_72) rfl (l' := #[.val (.int p1), .val (.int p2), .val (.int p3), .val (.int k), .val (.ref w_SINGLE_AND_DOUBLE_QUOTES), .val (.int ss), .val (.int q), .unset, .unset, .unset]) rfl) ?_
          show Go p e below _ (T23.setTop (mkF m 74 #[.val (.int p1), .val (.int p2), .val (.int p3), .val (.int k), .val (.ref w_SINGLE_AND_DOUBLE_QUOTES), .val (.int ss), .val (.int q), .unset, .unset, .unset] []))
          refine Go.via (fun _ => XS.iload X23.here hx rfl (hb hby at_74) rfl) ?_
          show Go p e below _ (T23.setTop (mkF m 76 #[.val (.int p1), .val (.int p2), .val (.int p3), .val (.int k), .val (.ref w_SINGLE_AND_DOUBLE_QUOTES), .val (.int ss), .val (.int q), .unset, .unset, .unset] [(.int q)]))
          refine Go.via (fun _ => XS.bipush X23.here hx rfl (hb hby at_76)) ?_
          show Go p e below _ (T23.setTop (mkF m 78 #[.val (.int p1), .val (.int p2), .val (.int p3), .val (.int k), .val (.ref w_SINGLE_AND_DOUBLE_QUOTES), .val (.int ss), .val (.int q), .unset, .unset, .unset] [(.int (39 : Int32)), (.int q)]))
          by_cases hc28 : q = (39 : Int32)
          · -- yes
            subst hc28
            show Go p e below _ (T23.setTop (mkF m 78 #[.val (.int p1), .val (.int p2), .val (.int p3), .val (.int k), .val (.ref w_SINGLE_AND_DOUBLE_QUOTES), .val (.int ss), .val (.int (39 : Int32)), .unset, .unset, .unset] [(.int (39 : Int32)), (.int (39 : Int32))]))
            show Go p e below _ (T23.setTop (mkF m 78 #[.val (.int p1), .val (.int p2), .val (.int p3), .val (.int k), .val (.ref w_SINGLE_AND_DOUBLE_QUOTES), .val (.int ss), .val (.int (39 : Int32)), .unset, .unset, .unset] [(.int (39 : Int32)), (.int (39 : Int32))]))
            refine Go.via (fun _ => XS.icmpNo X23.here hx rfl (hb hby at_78) rfl (by decide)) ?_
            show Go p e below _ (T23.setTop (mkF m 81 #[.val (.int p1), .val (.int p2), .val (.int p3), .val (.int k), .val (.ref w_SINGLE_AND_DOUBLE_QUOTES), .val (.int ss), .val (.int (39 : Int32)), .unset, .unset, .unset] []))
            refine Go.via (fun _ => XS.iconst X23.here hx rfl (hb hby at_81)) ?_
            show Go p e below _ (T23.setTop (mkF m 82 #[.val (.int p1), .val (.int p2), .val (.int p3), .val (.int k), .val (.ref w_SINGLE_AND_DOUBLE_QUOTES), .val (.int ss), .val (.int (39 : Int32)), .unset, .unset, .unset] [(.int (1 : Int32))]))
            refine Go.via (fun _ => XS.goto X23.here hx rfl (pc0 := 82) (pc' := 86) rfl (hb hby at_82) (by decide) (by decide)) ?_
            show Go p e below _ (T23.setTop (mkF m 86 #[.val (.int p1), .val (.int p2), .val (.int p3), .val (.int k), .val (.ref w_SINGLE_AND_DOUBLE_QUOTES), .val (.int ss), .val (.int (39 : Int32)), .unset, .unset, .unset] [(.int (1 : Int32))]))
            refine Go.via (fun _ => XS.istore X23.here hx rfl (hb hby at_86) rfl (l' := #[.val (.int p1), .val (.int p2), .val (.int p3), .val (.int k), .val (.ref w_SINGLE_AND_DOUBLE_QUOTES), .val (.int ss), .val (.int (39 : Int32)), .val (.int (1 : Int32)), .unset, .unset]) rfl) ?_
            show Go p e below _ (T23.setTop (mkF m 88 #[.val (.int p1), .val (.int p2), .val (.int p3), .val (.int k), .val (.ref w_SINGLE_AND_DOUBLE_QUOTES), .val (.int ss), .val (.int (39 : Int32)), .val (.int (1 : Int32)), .unset, .unset] []))
            refine Go.via (fun _ => XS.iload X23.here hx rfl (hb hby at_88) rfl) ?_
            show Go p e below _ (T23.setTop (mkF m 90 #[.val (.int p1), .val (.int p2), .val (.int p3), .val (.int k), .val (.ref w_SINGLE_AND_DOUBLE_QUOTES), .val (.int ss), .val (.int (39 : Int32)), .val (.int (1 : Int32)), .unset, .unset] [(.int (39 : Int32))]))
            refine Go.via (fun _ => XS.bipush X23.here hx rfl (hb hby at_90)) ?_
            show Go p e below _ (T23.setTop (mkF m 92 #[.val (.int p1), .val (.int p2), .val (.int p3), .val (.int k), .val (.ref w_SINGLE_AND_DOUBLE_QUOTES), .val (.int ss), .val (.int (39 : Int32)), .val (.int (1 : Int32)), .unset, .unset] [(.int (34 : Int32)), (.int (39 : Int32))]))
            refine Go.via (fun _ => XS.icmpYes X23.here hx rfl (pc0 := 92) (pc' := 99) rfl (hb hby at_92) rfl (by decide) (by decide) (by decide)) ?_
            show Go p e below _ (T23.setTop (mkF m 99 #[.val (.int p1), .val (.int p2), .val (.int p3), .val (.int k), .val (.ref w_SINGLE_AND_DOUBLE_QUOTES), .val (.int ss), .val (.int (39 : Int32)), .val (.int (1 : Int32)), .unset, .unset] []))
            refine Go.via (fun _ => XS.iconst X23.here hx rfl (hb hby at_99)) ?_
            show Go p e below _ (T23.setTop (mkF m 100 #[.val (.int p1), .val (.int p2), .val (.int p3), .val (.int k), .val (.ref w_SINGLE_AND_DOUBLE_QUOTES), .val (.int ss), .val (.int (39 : Int32)), .val (.int (1 : Int32)), .unset, .unset] [(.int (0 : Int32))]))
            refine Go.via (fun _ => XS.istore X23.here hx rfl (hb hby at_100) rfl (l' := #[.val (.int p1), .val (.int p2), .val (.int p3), .val (.int k), .val (.ref w_SINGLE_AND_DOUBLE_QUOTES), .val (.int ss), .val (.int (39 : Int32)), .val (.int (1 : Int32)), .val (.int (0 : Int32)), .unset]) rfl) ?_
            show Go p e below _ (T23.setTop (mkF m 102 #[.val (.int p1), .val (.int p2), .val (.int p3), .val (.int k), .val (.ref w_SINGLE_AND_DOUBLE_QUOTES), .val (.int ss), .val (.int (39 : Int32)), .val (.int (1 : Int32)), .val (.int (0 : Int32)), .unset] []))
            refine Go.via (fun _ => XS.iloadN X23.here hx rfl (hb hby at_102) rfl) ?_
            show Go p e below _ (T23.setTop (mkF m 103 #[.val (.int p1), .val (.int p2), .val (.int p3), .val (.int k), .val (.ref w_SINGLE_AND_DOUBLE_QUOTES), .val (.int ss), .val (.int (39 : Int32)), .val (.int (1 : Int32)), .val (.int (0 : Int32)), .unset] [(.int k)]))
            refine Go.via (fun _ => XS.ifYes X23.here hx rfl (pc0 := 103) (pc' := 112) rfl (hb hby at_103) rfl ((if0 _ _).trans (feq hc1).2) (by decide) (by decide)) ?_
            show Go p e below _ (T23.setTop (mkF m 112 #[.val (.int p1), .val (.int p2), .val (.int p3), .val (.int k), .val (.ref w_SINGLE_AND_DOUBLE_QUOTES), .val (.int ss), .val (.int (39 : Int32)), .val (.int (1 : Int32)), .val (.int (0 : Int32)), .unset] []))
            refine Go.via (fun _ => XS.iloadN X23.here hx rfl (hb hby at_112) rfl) ?_
            show Go p e below _ (T23.setTop (mkF m 113 #[.val (.int p1), .val (.int p2), .val (.int p3), .val (.int k), .val (.ref w_SINGLE_AND_DOUBLE_QUOTES), .val (.int ss), .val (.int (39 : Int32)), .val (.int (1 : Int32)), .val (.int (0 : Int32)), .unset] [(.int k)]))
            refine Go.via (fun _ => XS.iconst X23.here hx rfl (hb hby at_113)) ?_
            show Go p e below _ (T23.setTop (mkF m 114 #[.val (.int p1), .val (.int p2), .val (.int p3), .val (.int k), .val (.ref w_SINGLE_AND_DOUBLE_QUOTES), .val (.int ss), .val (.int (39 : Int32)), .val (.int (1 : Int32)), .val (.int (0 : Int32)), .unset] [(.int (1 : Int32)), (.int k)]))
            refine Go.via (fun _ => XS.icmpYes X23.here hx rfl (pc0 := 114) (pc' := 124) rfl (hb hby at_114) rfl (feq hc12).2 (by decide) (by decide)) ?_
            show Go p e below _ (T23.setTop (mkF m 124 #[.val (.int p1), .val (.int p2), .val (.int p3), .val (.int k), .val (.ref w_SINGLE_AND_DOUBLE_QUOTES), .val (.int ss), .val (.int (39 : Int32)), .val (.int (1 : Int32)), .val (.int (0 : Int32)), .unset] []))
            refine Go.via (fun _ => XS.iload X23.here hx rfl (hb hby at_124) rfl) ?_
            show Go p e below _ (T23.setTop (mkF m 126 #[.val (.int p1), .val (.int p2), .val (.int p3), .val (.int k), .val (.ref w_SINGLE_AND_DOUBLE_QUOTES), .val (.int ss), .val (.int (39 : Int32)), .val (.int (1 : Int32)), .val (.int (0 : Int32)), .unset] [(.int (1 : Int32))]))
            refine Go.via (fun _ => XS.ifYes X23.here hx rfl (pc0 := 126) (pc' := 134) rfl (hb hby at_126) rfl (by decide) (by decide) (by decide)) ?_
            show Go p e below _ (T23.setTop (mkF m 134 #[.val (.int p1), .val (.int p2), .val (.int p3), .val (.int k), .val (.ref w_SINGLE_AND_DOUBLE_QUOTES), .val (.int ss), .val (.int (39 : Int32)), .val (.int (1 : Int32)), .val (.int (0 : Int32)), .unset] []))
            refine Go.via (fun _ => XS.iconst X23.here hx rfl (hb hby at_134)) ?_
            show Go p e below _ (T23.setTop (mkF m 135 #[.val (.int p1), .val (.int p2), .val (.int p3), .val (.int k), .val (.ref w_SINGLE_AND_DOUBLE_QUOTES), .val (.int ss), .val (.int (39 : Int32)), .val (.int (1 : Int32)), .val (.int (0 : Int32)), .unset] [(.int (1 : Int32))]))
            refine Go.via (fun _ => XS.goto X23.here hx rfl (pc0 := 135) (pc' := 139) rfl (hb hby at_135) (by decide) (by decide)) ?_
            show Go p e below _ (T23.setTop (mkF m 139 #[.val (.int p1), .val (.int p2), .val (.int p3), .val (.int k), .val (.ref w_SINGLE_AND_DOUBLE_QUOTES), .val (.int ss), .val (.int (39 : Int32)), .val (.int (1 : Int32)), .val (.int (0 : Int32)), .unset] [(.int (1 : Int32))]))
            refine Go.via (fun _ => XS.istore X23.here hx rfl (hb hby at_139) rfl (l' := #[.val (.int p1), .val (.int p2), .val (.int p3), .val (.int k), .val (.ref w_SINGLE_AND_DOUBLE_QUOTES), .val (.int ss), .val (.int (39 : Int32)), .val (.int (1 : Int32)), .val (.int (0 : Int32)), .val (.int (1 : Int32))]) rfl) ?_
            show Go p e below _ (T23.setTop (mkF m 141 #[.val (.int p1), .val (.int p2), .val (.int p3), .val (.int k), .val (.ref w_SINGLE_AND_DOUBLE_QUOTES), .val (.int ss), .val (.int (39 : Int32)), .val (.int (1 : Int32)), .val (.int (0 : Int32)), .val (.int (1 : Int32))] []))
            refine Go.via (fun _ => XS.aload X23.here hx rfl (hb hby at_141) rfl rfl) ?_
            show Go p e below _ (T23.setTop (mkF m 143 #[.val (.int p1), .val (.int p2), .val (.int p3), .val (.int k), .val (.ref w_SINGLE_AND_DOUBLE_QUOTES), .val (.int ss), .val (.int (39 : Int32)), .val (.int (1 : Int32)), .val (.int (0 : Int32)), .val (.int (1 : Int32))] [(.ref w_SINGLE_AND_DOUBLE_QUOTES)]))
            refine Go.via (fun _ => XS.iload X23.here hx rfl (hb hby at_143) rfl) ?_
            show Go p e below _ (T23.setTop (mkF m 145 #[.val (.int p1), .val (.int p2), .val (.int p3), .val (.int k), .val (.ref w_SINGLE_AND_DOUBLE_QUOTES), .val (.int ss), .val (.int (39 : Int32)), .val (.int (1 : Int32)), .val (.int (0 : Int32)), .val (.int (1 : Int32))] [(.int (39 : Int32)), (.ref w_SINGLE_AND_DOUBLE_QUOTES)]))
            obtain ⟨cq29, kq29, q29a, q29b, q29c⟩ := isOf hZ e23 (E_SINGLE_AND_DOUBLE_QUOTES.ext O0.2)
            obtain ⟨_, _, ⟨T29, L29, k29, n29⟩, -, X29, ⟨Lc29, hQ29, l29, y29, z29⟩, st29⟩ := X23.virtualBack hx (y := (⟨"com/example/waymark/waymark/BackslashEscapes", "in", "(C)Z"⟩ : MethodName)) (z := (⟨"com/example/waymark/waymark/BackslashEscapes", "in", "(C)Z"⟩ : MethodName)) hown (mvT hZ (hw _ (List.mem_of_getElem? (i := 5) rfl))) (mvT hZ (hw _ (List.mem_of_getElem? (i := 6) rfl))) (notFace_of_selects (args := #[]) (mvT hZ (hw _ (List.mem_of_getElem? (i := 8) rfl)))) (mvT hZ (hw _ (List.mem_of_getElem? (i := 8) rfl))) (mvT hZ (hw _ (List.mem_of_getElem? (i := 7) rfl))) (by decide) (backOf (W := 0) (rm1_2_39 l Z a0 hw []  w_NONE w_SINGLE_QUOTES w_SINGLE_AND_DOUBLE_QUOTES h0 n0 Z0 O0 S_NONE S_SINGLE_QUOTES S_SINGLE_AND_DOUBLE_QUOTES ne_NONE_SINGLE_QUOTES ne_NONE_SINGLE_AND_DOUBLE_QUOTES ne_SINGLE_QUOTES_SINGLE_AND_DOUBLE_QUOTES ) hZ (hw _ (List.mem_of_getElem? (i := 9) rfl)) (hw _ (List.mem_of_getElem? (i := 2) rfl)) (by decide) (by decide)) q29a q29c (g := (mkF m 145 #[.val (.int p1), .val (.int p2), .val (.int p3), .val (.int k), .val (.ref w_SINGLE_AND_DOUBLE_QUOTES), .val (.int ss), .val (.int (39 : Int32)), .val (.int (1 : Int32)), .val (.int (0 : Int32)), .val (.int (1 : Int32))] [(.int (39 : Int32)), (.ref w_SINGLE_AND_DOUBLE_QUOTES)])) rfl (by rw [hml]; rfl) (Steps.refl _) (argsL := [(.int (39 : Int32))]) (rest := []) (lenOf pd_0 rfl) rfl (by show 2 * 0 + _ ≤ _; exact Nat.le_of_eq rfl) (hb hby at_145) (fun _ _ => ⟨rfl, e23, (by decide : 0 + 0 ≤ _), (by decide : 0 + 0 ≤ _)⟩)
            dsimp only [Pt.U, Pt.locs, Pt.cells, Pt.slots] at X29 l29 y29 z29 st29 hQ29
            subst l29 y29 z29
            obtain ⟨rfl, N29q, e29q⟩ := hQ29
            have N29 := Fr.app N0 N29q
            refine Go.tr st29 ?_
            show Go p e below _ (T29.setTop (mkF m 148 #[.val (.int p1), .val (.int p2), .val (.int p3), .val (.int k), .val (.ref w_SINGLE_AND_DOUBLE_QUOTES), .val (.int ss), .val (.int (39 : Int32)), .val (.int (1 : Int32)), .val (.int (0 : Int32)), .val (.int (1 : Int32))] [(.int (1 : Int32))]))
            refine Go.via (fun _ => XS.iload X29.here hx rfl (hb hby at_148) rfl) ?_
            show Go p e below _ (T29.setTop (mkF m 150 #[.val (.int p1), .val (.int p2), .val (.int p3), .val (.int k), .val (.ref w_SINGLE_AND_DOUBLE_QUOTES), .val (.int ss), .val (.int (39 : Int32)), .val (.int (1 : Int32)), .val (.int (0 : Int32)), .val (.int (1 : Int32))] [(.int (1 : Int32)), (.int (1 : Int32))]))
            refine Go.via (fun _ => XS.icmpNo X29.here hx rfl (hb hby at_150) rfl (by decide)) ?_
            show Go p e below _ (T29.setTop (mkF m 153 #[.val (.int p1), .val (.int p2), .val (.int p3), .val (.int k), .val (.ref w_SINGLE_AND_DOUBLE_QUOTES), .val (.int ss), .val (.int (39 : Int32)), .val (.int (1 : Int32)), .val (.int (0 : Int32)), .val (.int (1 : Int32))] []))
            refine Go.via (fun _ => XS.iconst X29.here hx rfl (hb hby at_153)) ?_
            show Go p e below _ (T29.setTop (mkF m 154 #[.val (.int p1), .val (.int p2), .val (.int p3), .val (.int k), .val (.ref w_SINGLE_AND_DOUBLE_QUOTES), .val (.int ss), .val (.int (39 : Int32)), .val (.int (1 : Int32)), .val (.int (0 : Int32)), .val (.int (1 : Int32))] [(.int (1 : Int32))]))
            refine Go.via (fun _ => XS.goto X29.here hx rfl (pc0 := 154) (pc' := 158) rfl (hb hby at_154) (by decide) (by decide)) ?_
            show Go p e below _ (T29.setTop (mkF m 158 #[.val (.int p1), .val (.int p2), .val (.int p3), .val (.int k), .val (.ref w_SINGLE_AND_DOUBLE_QUOTES), .val (.int ss), .val (.int (39 : Int32)), .val (.int (1 : Int32)), .val (.int (0 : Int32)), .val (.int (1 : Int32))] [(.int (1 : Int32))]))
            exact own_retN X29 hx hlk (t := .boolean) Bd.returns (by simp) (hb hby at_158) (by show Q0 Z p1 p2 p3 w_NONE w_SINGLE_QUOTES w_SINGLE_AND_DOUBLE_QUOTES h0 n0 _ T29.heap _; rw [e29q]; exact ⟨rfl, N29⟩) (by decide) (by decide)
          · -- no
            show Go p e below _ (T23.setTop (mkF m 78 #[.val (.int p1), .val (.int p2), .val (.int p3), .val (.int k), .val (.ref w_SINGLE_AND_DOUBLE_QUOTES), .val (.int ss), .val (.int q), .unset, .unset, .unset] [(.int (39 : Int32)), (.int q)]))
            show Go p e below _ (T23.setTop (mkF m 78 #[.val (.int p1), .val (.int p2), .val (.int p3), .val (.int k), .val (.ref w_SINGLE_AND_DOUBLE_QUOTES), .val (.int ss), .val (.int q), .unset, .unset, .unset] [(.int (39 : Int32)), (.int q)]))
            refine Go.via (fun _ => XS.icmpYes X23.here hx rfl (pc0 := 78) (pc' := 85) rfl (hb hby at_78) rfl (feq hc28).2 (by decide) (by decide)) ?_
            show Go p e below _ (T23.setTop (mkF m 85 #[.val (.int p1), .val (.int p2), .val (.int p3), .val (.int k), .val (.ref w_SINGLE_AND_DOUBLE_QUOTES), .val (.int ss), .val (.int q), .unset, .unset, .unset] []))
            refine Go.via (fun _ => XS.iconst X23.here hx rfl (hb hby at_85)) ?_
            show Go p e below _ (T23.setTop (mkF m 86 #[.val (.int p1), .val (.int p2), .val (.int p3), .val (.int k), .val (.ref w_SINGLE_AND_DOUBLE_QUOTES), .val (.int ss), .val (.int q), .unset, .unset, .unset] [(.int (0 : Int32))]))
            refine Go.via (fun _ => XS.istore X23.here hx rfl (hb hby at_86) rfl (l' := #[.val (.int p1), .val (.int p2), .val (.int p3), .val (.int k), .val (.ref w_SINGLE_AND_DOUBLE_QUOTES), .val (.int ss), .val (.int q), .val (.int (0 : Int32)), .unset, .unset]) rfl) ?_
            show Go p e below _ (T23.setTop (mkF m 88 #[.val (.int p1), .val (.int p2), .val (.int p3), .val (.int k), .val (.ref w_SINGLE_AND_DOUBLE_QUOTES), .val (.int ss), .val (.int q), .val (.int (0 : Int32)), .unset, .unset] []))
            refine Go.via (fun _ => XS.iload X23.here hx rfl (hb hby at_88) rfl) ?_
            show Go p e below _ (T23.setTop (mkF m 90 #[.val (.int p1), .val (.int p2), .val (.int p3), .val (.int k), .val (.ref w_SINGLE_AND_DOUBLE_QUOTES), .val (.int ss), .val (.int q), .val (.int (0 : Int32)), .unset, .unset] [(.int q)]))
            refine Go.via (fun _ => XS.bipush X23.here hx rfl (hb hby at_90)) ?_
            show Go p e below _ (T23.setTop (mkF m 92 #[.val (.int p1), .val (.int p2), .val (.int p3), .val (.int k), .val (.ref w_SINGLE_AND_DOUBLE_QUOTES), .val (.int ss), .val (.int q), .val (.int (0 : Int32)), .unset, .unset] [(.int (34 : Int32)), (.int q)]))
            by_cases hc30 : q = (34 : Int32)
            · -- yes
              subst hc30
              show Go p e below _ (T23.setTop (mkF m 92 #[.val (.int p1), .val (.int p2), .val (.int p3), .val (.int k), .val (.ref w_SINGLE_AND_DOUBLE_QUOTES), .val (.int ss), .val (.int (34 : Int32)), .val (.int (0 : Int32)), .unset, .unset] [(.int (34 : Int32)), (.int (34 : Int32))]))
              show Go p e below _ (T23.setTop (mkF m 92 #[.val (.int p1), .val (.int p2), .val (.int p3), .val (.int k), .val (.ref w_SINGLE_AND_DOUBLE_QUOTES), .val (.int ss), .val (.int (34 : Int32)), .val (.int (0 : Int32)), .unset, .unset] [(.int (34 : Int32)), (.int (34 : Int32))]))
              refine Go.via (fun _ => XS.icmpNo X23.here hx rfl (hb hby at_92) rfl (by decide)) ?_
              show Go p e below _ (T23.setTop (mkF m 95 #[.val (.int p1), .val (.int p2), .val (.int p3), .val (.int k), .val (.ref w_SINGLE_AND_DOUBLE_QUOTES), .val (.int ss), .val (.int (34 : Int32)), .val (.int (0 : Int32)), .unset, .unset] []))
              refine Go.via (fun _ => XS.iconst X23.here hx rfl (hb hby at_95)) ?_
              show Go p e below _ (T23.setTop (mkF m 96 #[.val (.int p1), .val (.int p2), .val (.int p3), .val (.int k), .val (.ref w_SINGLE_AND_DOUBLE_QUOTES), .val (.int ss), .val (.int (34 : Int32)), .val (.int (0 : Int32)), .unset, .unset] [(.int (1 : Int32))]))
              refine Go.via (fun _ => XS.goto X23.here hx rfl (pc0 := 96) (pc' := 100) rfl (hb hby at_96) (by decide) (by decide)) ?_
              show Go p e below _ (T23.setTop (mkF m 100 #[.val (.int p1), .val (.int p2), .val (.int p3), .val (.int k), .val (.ref w_SINGLE_AND_DOUBLE_QUOTES), .val (.int ss), .val (.int (34 : Int32)), .val (.int (0 : Int32)), .unset, .unset] [(.int (1 : Int32))]))
              refine Go.via (fun _ => XS.istore X23.here hx rfl (hb hby at_100) rfl (l' := #[.val (.int p1), .val (.int p2), .val (.int p3), .val (.int k), .val (.ref w_SINGLE_AND_DOUBLE_QUOTES), .val (.int ss), .val (.int (34 : Int32)), .val (.int (0 : Int32)), .val (.int (1 : Int32)), .unset]) rfl) ?_
              show Go p e below _ (T23.setTop (mkF m 102 #[.val (.int p1), .val (.int p2), .val (.int p3), .val (.int k), .val (.ref w_SINGLE_AND_DOUBLE_QUOTES), .val (.int ss), .val (.int (34 : Int32)), .val (.int (0 : Int32)), .val (.int (1 : Int32)), .unset] []))
              refine Go.via (fun _ => XS.iloadN X23.here hx rfl (hb hby at_102) rfl) ?_
              show Go p e below _ (T23.setTop (mkF m 103 #[.val (.int p1), .val (.int p2), .val (.int p3), .val (.int k), .val (.ref w_SINGLE_AND_DOUBLE_QUOTES), .val (.int ss), .val (.int (34 : Int32)), .val (.int (0 : Int32)), .val (.int (1 : Int32)), .unset] [(.int k)]))
              refine Go.via (fun _ => XS.ifYes X23.here hx rfl (pc0 := 103) (pc' := 112) rfl (hb hby at_103) rfl ((if0 _ _).trans (feq hc1).2) (by decide) (by decide)) ?_
              show Go p e below _ (T23.setTop (mkF m 112 #[.val (.int p1), .val (.int p2), .val (.int p3), .val (.int k), .val (.ref w_SINGLE_AND_DOUBLE_QUOTES), .val (.int ss), .val (.int (34 : Int32)), .val (.int (0 : Int32)), .val (.int (1 : Int32)), .unset] []))
              refine Go.via (fun _ => XS.iloadN X23.here hx rfl (hb hby at_112) rfl) ?_
              show Go p e below _ (T23.setTop (mkF m 113 #[.val (.int p1), .val (.int p2), .val (.int p3), .val (.int k), .val (.ref w_SINGLE_AND_DOUBLE_QUOTES), .val (.int ss), .val (.int (34 : Int32)), .val (.int (0 : Int32)), .val (.int (1 : Int32)), .unset] [(.int k)]))
              refine Go.via (fun _ => XS.iconst X23.here hx rfl (hb hby at_113)) ?_
              show Go p e below _ (T23.setTop (mkF m 114 #[.val (.int p1), .val (.int p2), .val (.int p3), .val (.int k), .val (.ref w_SINGLE_AND_DOUBLE_QUOTES), .val (.int ss), .val (.int (34 : Int32)), .val (.int (0 : Int32)), .val (.int (1 : Int32)), .unset] [(.int (1 : Int32)), (.int k)]))
              refine Go.via (fun _ => XS.icmpYes X23.here hx rfl (pc0 := 114) (pc' := 124) rfl (hb hby at_114) rfl (feq hc12).2 (by decide) (by decide)) ?_
              show Go p e below _ (T23.setTop (mkF m 124 #[.val (.int p1), .val (.int p2), .val (.int p3), .val (.int k), .val (.ref w_SINGLE_AND_DOUBLE_QUOTES), .val (.int ss), .val (.int (34 : Int32)), .val (.int (0 : Int32)), .val (.int (1 : Int32)), .unset] []))
              refine Go.via (fun _ => XS.iload X23.here hx rfl (hb hby at_124) rfl) ?_
              show Go p e below _ (T23.setTop (mkF m 126 #[.val (.int p1), .val (.int p2), .val (.int p3), .val (.int k), .val (.ref w_SINGLE_AND_DOUBLE_QUOTES), .val (.int ss), .val (.int (34 : Int32)), .val (.int (0 : Int32)), .val (.int (1 : Int32)), .unset] [(.int (0 : Int32))]))
              refine Go.via (fun _ => XS.ifNo X23.here hx rfl (hb hby at_126) rfl (by decide)) ?_
              show Go p e below _ (T23.setTop (mkF m 129 #[.val (.int p1), .val (.int p2), .val (.int p3), .val (.int k), .val (.ref w_SINGLE_AND_DOUBLE_QUOTES), .val (.int ss), .val (.int (34 : Int32)), .val (.int (0 : Int32)), .val (.int (1 : Int32)), .unset] []))
              refine Go.via (fun _ => XS.iload X23.here hx rfl (hb hby at_129) rfl) ?_
              show Go p e below _ (T23.setTop (mkF m 131 #[.val (.int p1), .val (.int p2), .val (.int p3), .val (.int k), .val (.ref w_SINGLE_AND_DOUBLE_QUOTES), .val (.int ss), .val (.int (34 : Int32)), .val (.int (0 : Int32)), .val (.int (1 : Int32)), .unset] [(.int (1 : Int32))]))
              refine Go.via (fun _ => XS.ifNo X23.here hx rfl (hb hby at_131) rfl (by decide)) ?_
              show Go p e below _ (T23.setTop (mkF m 134 #[.val (.int p1), .val (.int p2), .val (.int p3), .val (.int k), .val (.ref w_SINGLE_AND_DOUBLE_QUOTES), .val (.int ss), .val (.int (34 : Int32)), .val (.int (0 : Int32)), .val (.int (1 : Int32)), .unset] []))
              refine Go.via (fun _ => XS.iconst X23.here hx rfl (hb hby at_134)) ?_
              show Go p e below _ (T23.setTop (mkF m 135 #[.val (.int p1), .val (.int p2), .val (.int p3), .val (.int k), .val (.ref w_SINGLE_AND_DOUBLE_QUOTES), .val (.int ss), .val (.int (34 : Int32)), .val (.int (0 : Int32)), .val (.int (1 : Int32)), .unset] [(.int (1 : Int32))]))
              refine Go.via (fun _ => XS.goto X23.here hx rfl (pc0 := 135) (pc' := 139) rfl (hb hby at_135) (by decide) (by decide)) ?_
              show Go p e below _ (T23.setTop (mkF m 139 #[.val (.int p1), .val (.int p2), .val (.int p3), .val (.int k), .val (.ref w_SINGLE_AND_DOUBLE_QUOTES), .val (.int ss), .val (.int (34 : Int32)), .val (.int (0 : Int32)), .val (.int (1 : Int32)), .unset] [(.int (1 : Int32))]))
              refine Go.via (fun _ => XS.istore X23.here hx rfl (hb hby at_139) rfl (l' := #[.val (.int p1), .val (.int p2), .val (.int p3), .val (.int k), .val (.ref w_SINGLE_AND_DOUBLE_QUOTES), .val (.int ss), .val (.int (34 : Int32)), .val (.int (0 : Int32)), .val (.int (1 : Int32)), .val (.int (1 : Int32))]) rfl) ?_
              show Go p e below _ (T23.setTop (mkF m 141 #[.val (.int p1), .val (.int p2), .val (.int p3), .val (.int k), .val (.ref w_SINGLE_AND_DOUBLE_QUOTES), .val (.int ss), .val (.int (34 : Int32)), .val (.int (0 : Int32)), .val (.int (1 : Int32)), .val (.int (1 : Int32))] []))
              refine Go.via (fun _ => XS.aload X23.here hx rfl (hb hby at_141) rfl rfl) ?_
              show Go p e below _ (T23.setTop (mkF m 143 #[.val (.int p1), .val (.int p2), .val (.int p3), .val (.int k), .val (.ref w_SINGLE_AND_DOUBLE_QUOTES), .val (.int ss), .val (.int (34 : Int32)), .val (.int (0 : Int32)), .val (.int (1 : Int32)), .val (.int (1 : Int32))] [(.ref w_SINGLE_AND_DOUBLE_QUOTES)]))
              refine Go.via (fun _ => XS.iload X23.here hx rfl (hb hby at_143) rfl) ?_
              show Go p e below _ (T23.setTop (mkF m 145 #[.val (.int p1), .val (.int p2), .val (.int p3), .val (.int k), .val (.ref w_SINGLE_AND_DOUBLE_QUOTES), .val (.int ss), .val (.int (34 : Int32)), .val (.int (0 : Int32)), .val (.int (1 : Int32)), .val (.int (1 : Int32))] [(.int (34 : Int32)), (.ref w_SINGLE_AND_DOUBLE_QUOTES)]))
              obtain ⟨cq31, kq31, q31a, q31b, q31c⟩ := isOf hZ e23 (E_SINGLE_AND_DOUBLE_QUOTES.ext O0.2)
              obtain ⟨_, _, ⟨T31, L31, k31, n31⟩, -, X31, ⟨Lc31, hQ31, l31, y31, z31⟩, st31⟩ := X23.virtualBack hx (y := (⟨"com/example/waymark/waymark/BackslashEscapes", "in", "(C)Z"⟩ : MethodName)) (z := (⟨"com/example/waymark/waymark/BackslashEscapes", "in", "(C)Z"⟩ : MethodName)) hown (mvT hZ (hw _ (List.mem_of_getElem? (i := 5) rfl))) (mvT hZ (hw _ (List.mem_of_getElem? (i := 6) rfl))) (notFace_of_selects (args := #[]) (mvT hZ (hw _ (List.mem_of_getElem? (i := 8) rfl)))) (mvT hZ (hw _ (List.mem_of_getElem? (i := 8) rfl))) (mvT hZ (hw _ (List.mem_of_getElem? (i := 7) rfl))) (by decide) (backOf (W := 0) (rm1_2_34 l Z a0 hw []  w_NONE w_SINGLE_QUOTES w_SINGLE_AND_DOUBLE_QUOTES h0 n0 Z0 O0 S_NONE S_SINGLE_QUOTES S_SINGLE_AND_DOUBLE_QUOTES ne_NONE_SINGLE_QUOTES ne_NONE_SINGLE_AND_DOUBLE_QUOTES ne_SINGLE_QUOTES_SINGLE_AND_DOUBLE_QUOTES ) hZ (hw _ (List.mem_of_getElem? (i := 9) rfl)) (hw _ (List.mem_of_getElem? (i := 2) rfl)) (by decide) (by decide)) q31a q31c (g := (mkF m 145 #[.val (.int p1), .val (.int p2), .val (.int p3), .val (.int k), .val (.ref w_SINGLE_AND_DOUBLE_QUOTES), .val (.int ss), .val (.int (34 : Int32)), .val (.int (0 : Int32)), .val (.int (1 : Int32)), .val (.int (1 : Int32))] [(.int (34 : Int32)), (.ref w_SINGLE_AND_DOUBLE_QUOTES)])) rfl (by rw [hml]; rfl) (Steps.refl _) (argsL := [(.int (34 : Int32))]) (rest := []) (lenOf pd_0 rfl) rfl (by show 2 * 0 + _ ≤ _; exact Nat.le_of_eq rfl) (hb hby at_145) (fun _ _ => ⟨rfl, e23, (by decide : 0 + 0 ≤ _), (by decide : 0 + 0 ≤ _)⟩)
              dsimp only [Pt.U, Pt.locs, Pt.cells, Pt.slots] at X31 l31 y31 z31 st31 hQ31
              subst l31 y31 z31
              obtain ⟨rfl, N31q, e31q⟩ := hQ31
              have N31 := Fr.app N0 N31q
              refine Go.tr st31 ?_
              show Go p e below _ (T31.setTop (mkF m 148 #[.val (.int p1), .val (.int p2), .val (.int p3), .val (.int k), .val (.ref w_SINGLE_AND_DOUBLE_QUOTES), .val (.int ss), .val (.int (34 : Int32)), .val (.int (0 : Int32)), .val (.int (1 : Int32)), .val (.int (1 : Int32))] [(.int (1 : Int32))]))
              refine Go.via (fun _ => XS.iload X31.here hx rfl (hb hby at_148) rfl) ?_
              show Go p e below _ (T31.setTop (mkF m 150 #[.val (.int p1), .val (.int p2), .val (.int p3), .val (.int k), .val (.ref w_SINGLE_AND_DOUBLE_QUOTES), .val (.int ss), .val (.int (34 : Int32)), .val (.int (0 : Int32)), .val (.int (1 : Int32)), .val (.int (1 : Int32))] [(.int (1 : Int32)), (.int (1 : Int32))]))
              refine Go.via (fun _ => XS.icmpNo X31.here hx rfl (hb hby at_150) rfl (by decide)) ?_
              show Go p e below _ (T31.setTop (mkF m 153 #[.val (.int p1), .val (.int p2), .val (.int p3), .val (.int k), .val (.ref w_SINGLE_AND_DOUBLE_QUOTES), .val (.int ss), .val (.int (34 : Int32)), .val (.int (0 : Int32)), .val (.int (1 : Int32)), .val (.int (1 : Int32))] []))
              refine Go.via (fun _ => XS.iconst X31.here hx rfl (hb hby at_153)) ?_
              show Go p e below _ (T31.setTop (mkF m 154 #[.val (.int p1), .val (.int p2), .val (.int p3), .val (.int k), .val (.ref w_SINGLE_AND_DOUBLE_QUOTES), .val (.int ss), .val (.int (34 : Int32)), .val (.int (0 : Int32)), .val (.int (1 : Int32)), .val (.int (1 : Int32))] [(.int (1 : Int32))]))
              refine Go.via (fun _ => XS.goto X31.here hx rfl (pc0 := 154) (pc' := 158) rfl (hb hby at_154) (by decide) (by decide)) ?_
              show Go p e below _ (T31.setTop (mkF m 158 #[.val (.int p1), .val (.int p2), .val (.int p3), .val (.int k), .val (.ref w_SINGLE_AND_DOUBLE_QUOTES), .val (.int ss), .val (.int (34 : Int32)), .val (.int (0 : Int32)), .val (.int (1 : Int32)), .val (.int (1 : Int32))] [(.int (1 : Int32))]))
              exact own_retN X31 hx hlk (t := .boolean) Bd.returns (by simp) (hb hby at_158) (by show Q0 Z p1 p2 p3 w_NONE w_SINGLE_QUOTES w_SINGLE_AND_DOUBLE_QUOTES h0 n0 _ T31.heap _; rw [e31q]; exact ⟨rfl, N31⟩) (by decide) (by decide)
            · -- no
              show Go p e below _ (T23.setTop (mkF m 92 #[.val (.int p1), .val (.int p2), .val (.int p3), .val (.int k), .val (.ref w_SINGLE_AND_DOUBLE_QUOTES), .val (.int ss), .val (.int q), .val (.int (0 : Int32)), .unset, .unset] [(.int (34 : Int32)), (.int q)]))
              show Go p e below _ (T23.setTop (mkF m 92 #[.val (.int p1), .val (.int p2), .val (.int p3), .val (.int k), .val (.ref w_SINGLE_AND_DOUBLE_QUOTES), .val (.int ss), .val (.int q), .val (.int (0 : Int32)), .unset, .unset] [(.int (34 : Int32)), (.int q)]))
              refine Go.via (fun _ => XS.icmpYes X23.here hx rfl (pc0 := 92) (pc' := 99) rfl (hb hby at_92) rfl (feq hc30).2 (by decide) (by decide)) ?_
              show Go p e below _ (T23.setTop (mkF m 99 #[.val (.int p1), .val (.int p2), .val (.int p3), .val (.int k), .val (.ref w_SINGLE_AND_DOUBLE_QUOTES), .val (.int ss), .val (.int q), .val (.int (0 : Int32)), .unset, .unset] []))
              refine Go.via (fun _ => XS.iconst X23.here hx rfl (hb hby at_99)) ?_
              show Go p e below _ (T23.setTop (mkF m 100 #[.val (.int p1), .val (.int p2), .val (.int p3), .val (.int k), .val (.ref w_SINGLE_AND_DOUBLE_QUOTES), .val (.int ss), .val (.int q), .val (.int (0 : Int32)), .unset, .unset] [(.int (0 : Int32))]))
              refine Go.via (fun _ => XS.istore X23.here hx rfl (hb hby at_100) rfl (l' := #[.val (.int p1), .val (.int p2), .val (.int p3), .val (.int k), .val (.ref w_SINGLE_AND_DOUBLE_QUOTES), .val (.int ss), .val (.int q), .val (.int (0 : Int32)), .val (.int (0 : Int32)), .unset]) rfl) ?_
              show Go p e below _ (T23.setTop (mkF m 102 #[.val (.int p1), .val (.int p2), .val (.int p3), .val (.int k), .val (.ref w_SINGLE_AND_DOUBLE_QUOTES), .val (.int ss), .val (.int q), .val (.int (0 : Int32)), .val (.int (0 : Int32)), .unset] []))
              refine Go.via (fun _ => XS.iloadN X23.here hx rfl (hb hby at_102) rfl) ?_
              show Go p e below _ (T23.setTop (mkF m 103 #[.val (.int p1), .val (.int p2), .val (.int p3), .val (.int k), .val (.ref w_SINGLE_AND_DOUBLE_QUOTES), .val (.int ss), .val (.int q), .val (.int (0 : Int32)), .val (.int (0 : Int32)), .unset] [(.int k)]))
              refine Go.via (fun _ => XS.ifYes X23.here hx rfl (pc0 := 103) (pc' := 112) rfl (hb hby at_103) rfl ((if0 _ _).trans (feq hc1).2) (by decide) (by decide)) ?_
              show Go p e below _ (T23.setTop (mkF m 112 #[.val (.int p1), .val (.int p2), .val (.int p3), .val (.int k), .val (.ref w_SINGLE_AND_DOUBLE_QUOTES), .val (.int ss), .val (.int q), .val (.int (0 : Int32)), .val (.int (0 : Int32)), .unset] []))
              refine Go.via (fun _ => XS.iloadN X23.here hx rfl (hb hby at_112) rfl) ?_
              show Go p e below _ (T23.setTop (mkF m 113 #[.val (.int p1), .val (.int p2), .val (.int p3), .val (.int k), .val (.ref w_SINGLE_AND_DOUBLE_QUOTES), .val (.int ss), .val (.int q), .val (.int (0 : Int32)), .val (.int (0 : Int32)), .unset] [(.int k)]))
              refine Go.via (fun _ => XS.iconst X23.here hx rfl (hb hby at_113)) ?_
              show Go p e below _ (T23.setTop (mkF m 114 #[.val (.int p1), .val (.int p2), .val (.int p3), .val (.int k), .val (.ref w_SINGLE_AND_DOUBLE_QUOTES), .val (.int ss), .val (.int q), .val (.int (0 : Int32)), .val (.int (0 : Int32)), .unset] [(.int (1 : Int32)), (.int k)]))
              refine Go.via (fun _ => XS.icmpYes X23.here hx rfl (pc0 := 114) (pc' := 124) rfl (hb hby at_114) rfl (feq hc12).2 (by decide) (by decide)) ?_
              show Go p e below _ (T23.setTop (mkF m 124 #[.val (.int p1), .val (.int p2), .val (.int p3), .val (.int k), .val (.ref w_SINGLE_AND_DOUBLE_QUOTES), .val (.int ss), .val (.int q), .val (.int (0 : Int32)), .val (.int (0 : Int32)), .unset] []))
              refine Go.via (fun _ => XS.iload X23.here hx rfl (hb hby at_124) rfl) ?_
              show Go p e below _ (T23.setTop (mkF m 126 #[.val (.int p1), .val (.int p2), .val (.int p3), .val (.int k), .val (.ref w_SINGLE_AND_DOUBLE_QUOTES), .val (.int ss), .val (.int q), .val (.int (0 : Int32)), .val (.int (0 : Int32)), .unset] [(.int (0 : Int32))]))
              refine Go.via (fun _ => XS.ifNo X23.here hx rfl (hb hby at_126) rfl (by decide)) ?_
              show Go p e below _ (T23.setTop (mkF m 129 #[.val (.int p1), .val (.int p2), .val (.int p3), .val (.int k), .val (.ref w_SINGLE_AND_DOUBLE_QUOTES), .val (.int ss), .val (.int q), .val (.int (0 : Int32)), .val (.int (0 : Int32)), .unset] []))
              refine Go.via (fun _ => XS.iload X23.here hx rfl (hb hby at_129) rfl) ?_
              show Go p e below _ (T23.setTop (mkF m 131 #[.val (.int p1), .val (.int p2), .val (.int p3), .val (.int k), .val (.ref w_SINGLE_AND_DOUBLE_QUOTES), .val (.int ss), .val (.int q), .val (.int (0 : Int32)), .val (.int (0 : Int32)), .unset] [(.int (0 : Int32))]))
              refine Go.via (fun _ => XS.ifYes X23.here hx rfl (pc0 := 131) (pc' := 138) rfl (hb hby at_131) rfl (by decide) (by decide) (by decide)) ?_
              show Go p e below _ (T23.setTop (mkF m 138 #[.val (.int p1), .val (.int p2), .val (.int p3), .val (.int k), .val (.ref w_SINGLE_AND_DOUBLE_QUOTES), .val (.int ss), .val (.int q), .val (.int (0 : Int32)), .val (.int (0 : Int32)), .unset] []))
              refine Go.via (fun _ => XS.iconst X23.here hx rfl (hb hby at_138)) ?_
              show Go p e below _ (T23.setTop (mkF m 139 #[.val (.int p1), .val (.int p2), .val (.int p3), .val (.int k), .val (.ref w_SINGLE_AND_DOUBLE_QUOTES), .val (.int ss), .val (.int q), .val (.int (0 : Int32)), .val (.int (0 : Int32)), .unset] [(.int (0 : Int32))]))
              refine Go.via (fun _ => XS.istore X23.here hx rfl (hb hby at_139) rfl (l' := #[.val (.int p1), .val (.int p2), .val (.int p3), .val (.int k), .val (.ref w_SINGLE_AND_DOUBLE_QUOTES), .val (.int ss), .val (.int q), .val (.int (0 : Int32)), .val (.int (0 : Int32)), .val (.int (0 : Int32))]) rfl) ?_
              show Go p e below _ (T23.setTop (mkF m 141 #[.val (.int p1), .val (.int p2), .val (.int p3), .val (.int k), .val (.ref w_SINGLE_AND_DOUBLE_QUOTES), .val (.int ss), .val (.int q), .val (.int (0 : Int32)), .val (.int (0 : Int32)), .val (.int (0 : Int32))] []))
              refine Go.via (fun _ => XS.aload X23.here hx rfl (hb hby at_141) rfl rfl) ?_
              show Go p e below _ (T23.setTop (mkF m 143 #[.val (.int p1), .val (.int p2), .val (.int p3), .val (.int k), .val (.ref w_SINGLE_AND_DOUBLE_QUOTES), .val (.int ss), .val (.int q), .val (.int (0 : Int32)), .val (.int (0 : Int32)), .val (.int (0 : Int32))] [(.ref w_SINGLE_AND_DOUBLE_QUOTES)]))
              refine Go.via (fun _ => XS.iload X23.here hx rfl (hb hby at_143) rfl) ?_
              show Go p e below _ (T23.setTop (mkF m 145 #[.val (.int p1), .val (.int p2), .val (.int p3), .val (.int k), .val (.ref w_SINGLE_AND_DOUBLE_QUOTES), .val (.int ss), .val (.int q), .val (.int (0 : Int32)), .val (.int (0 : Int32)), .val (.int (0 : Int32))] [(.int q), (.ref w_SINGLE_AND_DOUBLE_QUOTES)]))
              obtain ⟨cq32, kq32, q32a, q32b, q32c⟩ := isOf hZ e23 (E_SINGLE_AND_DOUBLE_QUOTES.ext O0.2)
              obtain ⟨_, _, ⟨T32, L32, k32, n32⟩, -, X32, ⟨Lc32, hQ32, l32, y32, z32⟩, st32⟩ := X23.virtualBack hx (y := (⟨"com/example/waymark/waymark/BackslashEscapes", "in", "(C)Z"⟩ : MethodName)) (z := (⟨"com/example/waymark/waymark/BackslashEscapes", "in", "(C)Z"⟩ : MethodName)) hown (mvT hZ (hw _ (List.mem_of_getElem? (i := 5) rfl))) (mvT hZ (hw _ (List.mem_of_getElem? (i := 6) rfl))) (notFace_of_selects (args := #[]) (mvT hZ (hw _ (List.mem_of_getElem? (i := 8) rfl)))) (mvT hZ (hw _ (List.mem_of_getElem? (i := 8) rfl))) (mvT hZ (hw _ (List.mem_of_getElem? (i := 7) rfl))) (by decide) (backOf (W := 0) (rm1_2_o l Z a0 hw [] q w_NONE w_SINGLE_QUOTES w_SINGLE_AND_DOUBLE_QUOTES h0 n0 Z0 O0 S_NONE S_SINGLE_QUOTES S_SINGLE_AND_DOUBLE_QUOTES ne_NONE_SINGLE_QUOTES ne_NONE_SINGLE_AND_DOUBLE_QUOTES ne_SINGLE_QUOTES_SINGLE_AND_DOUBLE_QUOTES hc28 hc30) hZ (hw _ (List.mem_of_getElem? (i := 9) rfl)) (hw _ (List.mem_of_getElem? (i := 2) rfl)) (by decide) (by decide)) q32a q32c (g := (mkF m 145 #[.val (.int p1), .val (.int p2), .val (.int p3), .val (.int k), .val (.ref w_SINGLE_AND_DOUBLE_QUOTES), .val (.int ss), .val (.int q), .val (.int (0 : Int32)), .val (.int (0 : Int32)), .val (.int (0 : Int32))] [(.int q), (.ref w_SINGLE_AND_DOUBLE_QUOTES)])) rfl (by rw [hml]; rfl) (Steps.refl _) (argsL := [(.int q)]) (rest := []) (lenOf pd_0 rfl) rfl (by show 2 * 0 + _ ≤ _; exact Nat.le_of_eq rfl) (hb hby at_145) (fun _ _ => ⟨rfl, e23, (by decide : 0 + 0 ≤ _), (by decide : 0 + 0 ≤ _)⟩)
              dsimp only [Pt.U, Pt.locs, Pt.cells, Pt.slots] at X32 l32 y32 z32 st32 hQ32
              subst l32 y32 z32
              obtain ⟨rfl, N32q, e32q⟩ := hQ32
              have N32 := Fr.app N0 N32q
              refine Go.tr st32 ?_
              show Go p e below _ (T32.setTop (mkF m 148 #[.val (.int p1), .val (.int p2), .val (.int p3), .val (.int k), .val (.ref w_SINGLE_AND_DOUBLE_QUOTES), .val (.int ss), .val (.int q), .val (.int (0 : Int32)), .val (.int (0 : Int32)), .val (.int (0 : Int32))] [(.int (0 : Int32))]))
              refine Go.via (fun _ => XS.iload X32.here hx rfl (hb hby at_148) rfl) ?_
              show Go p e below _ (T32.setTop (mkF m 150 #[.val (.int p1), .val (.int p2), .val (.int p3), .val (.int k), .val (.ref w_SINGLE_AND_DOUBLE_QUOTES), .val (.int ss), .val (.int q), .val (.int (0 : Int32)), .val (.int (0 : Int32)), .val (.int (0 : Int32))] [(.int (0 : Int32)), (.int (0 : Int32))]))
              refine Go.via (fun _ => XS.icmpNo X32.here hx rfl (hb hby at_150) rfl (by decide)) ?_
              show Go p e below _ (T32.setTop (mkF m 153 #[.val (.int p1), .val (.int p2), .val (.int p3), .val (.int k), .val (.ref w_SINGLE_AND_DOUBLE_QUOTES), .val (.int ss), .val (.int q), .val (.int (0 : Int32)), .val (.int (0 : Int32)), .val (.int (0 : Int32))] []))
              refine Go.via (fun _ => XS.iconst X32.here hx rfl (hb hby at_153)) ?_
              show Go p e below _ (T32.setTop (mkF m 154 #[.val (.int p1), .val (.int p2), .val (.int p3), .val (.int k), .val (.ref w_SINGLE_AND_DOUBLE_QUOTES), .val (.int ss), .val (.int q), .val (.int (0 : Int32)), .val (.int (0 : Int32)), .val (.int (0 : Int32))] [(.int (1 : Int32))]))
              refine Go.via (fun _ => XS.goto X32.here hx rfl (pc0 := 154) (pc' := 158) rfl (hb hby at_154) (by decide) (by decide)) ?_
              show Go p e below _ (T32.setTop (mkF m 158 #[.val (.int p1), .val (.int p2), .val (.int p3), .val (.int k), .val (.ref w_SINGLE_AND_DOUBLE_QUOTES), .val (.int ss), .val (.int q), .val (.int (0 : Int32)), .val (.int (0 : Int32)), .val (.int (0 : Int32))] [(.int (1 : Int32))]))
              exact own_retN X32 hx hlk (t := .boolean) Bd.returns (by simp) (hb hby at_158) (by show Q0 Z p1 p2 p3 w_NONE w_SINGLE_QUOTES w_SINGLE_AND_DOUBLE_QUOTES h0 n0 _ T32.heap _; rw [e32q]; exact ⟨rfl, N32⟩) (by decide) (by decide)
theorem own_eq_int {t : Term} {n : Int32} {args : Array Value} {s : State} (h : (Cond.eq t (.int n)).value args s none s [] = some true) : t.eval args s none [] s = some (.int n) := by
  simp only [Cond.value, Term.eval] at h
  split at h <;> simp_all
set_option maxRecDepth 65536 in
set_option maxHeartbeats 40000000 in
theorem comes_1 {Post : Tables → Env → Array Value → State → Outcome → State → Prop} (hpost : ∀ tb e args s v u, (limb_1_1.after args s (.returned v) u = true ∧ limb_1_2.after args s (.returned v) u = true ∧ True) → FrameEnd s (.returned v) u (Jvm.fieldLocs frame_1_writes args s ++ Jvm.arrayLocs frame_1_arrays args s ++ Jvm.staticLocs frame_1_statics s) 0 0 → Post tb e args s (.returned v) u) :
    ArmFor flags0 classFile x code maxLocals ret World_1 tables_1 room_1 Calls_1 rest_1 Pre_1 Post := by
  intro l hfl _ _ p e ha hc hk s m args below hf hA hF happ hP
  obtain ⟨hcalls, hrest, hpre⟩ := hP
  obtain ⟨-, -, -, hnamed, -, -, -, hat⟩ := (Spec.applies_iff hf).mp happ
  obtain ⟨hg, hn⟩ := and_e (Cond.before_iff.mp (show (Jvm.Cond.and given_1 narrow_1).before args s = true from hpre))
  obtain ⟨g1, g2⟩ := and_e hg
  obtain ⟨g3, g4⟩ := and_e g2
  obtain ⟨g5, g6⟩ := and_e g4
  obtain ⟨g7, g8⟩ := and_e hn
  obtain ⟨g9, g10⟩ := and_e g8
  obtain ⟨g11, g12⟩ := and_e g10
  obtain ⟨g13, g14⟩ := and_e g12
  obtain ⟨g15, g16⟩ := and_e g14
  obtain ⟨w0, w1, w2, rfl⟩ : ∃ w0 w1 w2 : Value, args = #[w0, w1, w2] := by
    have hs : args.size = 3 := by simpa [Cond.value, given_1] using g1
    obtain ⟨L⟩ := args
    match L, hs with
    | [w0, w1, w2], _ => exact ⟨w0, w1, w2, rfl⟩
  have hw := fun d (hd : d ∈ tables_1) => atoms_spec (ws := Jvm.Cond.code x code maxLocals ret :: tables_1) hat d (List.mem_cons_of_mem _ hd)
  have hfit : Fit s := fun {y c} hc i hi => by
    obtain ⟨ha, rfl⟩ := Array.getElem?_eq_some_iff.mp hc
    have q := List.all_eq_true.mp ((Array.all_eq_true_iff_forall_mem.mp hF) _ (Array.getElem_mem ha)) i (List.mem_range.mpr hi)
    simpa [Array.getElem?_eq_getElem hi] using q
  obtain ⟨i0, ei0⟩ := is_v g3
  obtain rfl : w0 = (.int i0) := Option.some.inj ei0
  obtain ⟨i1, ei1⟩ := is_v g5
  obtain rfl : w1 = (.int i1) := Option.some.inj ei1
  obtain ⟨i2, ei2⟩ := is_v g6
  obtain rfl : w2 = (.int i2) := Option.some.inj ei2
  obtain ⟨w_NONE, ev_NONE⟩ := exa_v g7
  have E_NONE := Exa.start ev_NONE g7
  have S_NONE := Sta.start ev_NONE (Or.inr ⟨(hw _ (List.mem_of_getElem? (i := 2) rfl)), (hw _ (List.mem_of_getElem? (i := 3) rfl))⟩)
  obtain ⟨w_SINGLE_QUOTES, ev_SINGLE_QUOTES⟩ := exa_v g9
  have E_SINGLE_QUOTES := Exa.start ev_SINGLE_QUOTES g9
  have S_SINGLE_QUOTES := Sta.start ev_SINGLE_QUOTES (Or.inr ⟨(hw _ (List.mem_of_getElem? (i := 2) rfl)), (hw _ (List.mem_of_getElem? (i := 11) rfl))⟩)
  obtain ⟨w_SINGLE_AND_DOUBLE_QUOTES, ev_SINGLE_AND_DOUBLE_QUOTES⟩ := exa_v g11
  have E_SINGLE_AND_DOUBLE_QUOTES := Exa.start ev_SINGLE_AND_DOUBLE_QUOTES g11
  have S_SINGLE_AND_DOUBLE_QUOTES := Sta.start ev_SINGLE_AND_DOUBLE_QUOTES (Or.inr ⟨(hw _ (List.mem_of_getElem? (i := 2) rfl)), (hw _ (List.mem_of_getElem? (i := 13) rfl))⟩)
  have F_NONE : Fld s s.heap w_NONE "java/lang/Enum" "ordinal" "I" (.int (0 : Int32)) := Fld.start ((fld_at ev_NONE).symm.trans (own_eq_int g13))
  have F_SINGLE_AND_DOUBLE_QUOTES : Fld s s.heap w_SINGLE_AND_DOUBLE_QUOTES "java/lang/Enum" "ordinal" "I" (.int (2 : Int32)) := Fld.start ((fld_at ev_SINGLE_AND_DOUBLE_QUOTES).symm.trans (own_eq_int g15))
  have F_SINGLE_QUOTES : Fld s s.heap w_SINGLE_QUOTES "java/lang/Enum" "ordinal" "I" (.int (1 : Int32)) := Fld.start ((fld_at ev_SINGLE_QUOTES).symm.trans (own_eq_int g16))
  have ne_NONE_SINGLE_QUOTES : w_NONE ≠ w_SINGLE_QUOTES := Fld.ne F_NONE F_SINGLE_QUOTES (fun q => absurd (Value.int.inj q) (by decide))
  have ne_NONE_SINGLE_AND_DOUBLE_QUOTES : w_NONE ≠ w_SINGLE_AND_DOUBLE_QUOTES := Fld.ne F_NONE F_SINGLE_AND_DOUBLE_QUOTES (fun q => absurd (Value.int.inj q) (by decide))
  have ne_SINGLE_QUOTES_SINGLE_AND_DOUBLE_QUOTES : w_SINGLE_QUOTES ≠ w_SINGLE_AND_DOUBLE_QUOTES := Fld.ne F_SINGLE_QUOTES F_SINGLE_AND_DOUBLE_QUOTES (fun q => absurd (Value.int.inj q) (by decide))
  obtain ⟨n, o, h1, h2, h3, _, L, rfl, ⟨rfl, N⟩, hq⟩ := rm0 l s _ hw tables_1 i0 i1 i2 w_NONE w_SINGLE_QUOTES w_SINGLE_AND_DOUBLE_QUOTES s.heap s.heap.size (Nat.le_refl _) (Old.start s) S_NONE S_SINGLE_QUOTES S_SINGLE_AND_DOUBLE_QUOTES ne_NONE_SINGLE_QUOTES ne_NONE_SINGLE_AND_DOUBLE_QUOTES ne_SINGLE_QUOTES_SINGLE_AND_DOUBLE_QUOTES E_NONE E_SINGLE_QUOTES E_SINGLE_AND_DOUBLE_QUOTES p e ha hc hk s m _ below hf ((Spec.applies_iff_loose hf).mp happ).1 ⟨rfl, State.Warmed39.refl s, rfl⟩ trivial
  refine ⟨n, _, h1, h2, h3, hpost _ _ _ _ _ _ ⟨Cond.after_iff.mpr rfl, Cond.after_iff.mpr (eq_i res_at (Term.int_eval (1)) rfl), trivial⟩ ⟨hq.1, hq.2.1, (hq.2.2.sift fun y hy => Or.inr (N y hy)).mono (by decide) (by decide)⟩⟩
theorem main_1_1 : Claimed_1_1 := comes_1 fun _ _ _ _ _ _ h hF => ⟨h.1, hF⟩
theorem main_1_2 : Claimed_1_2 := comes_1 fun _ _ _ _ _ _ h hF => ⟨h.2.1, hF⟩
end Jvm.Pilot.@@N@@
namespace Jvm.Pilot.@@N@@
open Jvm Jvm.ClassFile Sem Op Lib Jvm.Free Jvm.Stand Jvm.Pilot.@@N@@.Jvm.D
/-! MADE BY PROGRAM (witnessworld.py) out of the Statement's table words and the real class files: 12 classes; the members and pool entries that the words name. The judged class is class 1, her method 1. -/
namespace start1
open Jvm.ClassFile
def u (s : String) : CpInfo := .utf8 (stringToUtf16 s)
/-- a pool by its gaps: so many unusable entries, then the entry; so many at the end -/
def gap : Nat → List CpInfo → List CpInfo
  | 0, r => r
  | n + 1, r => .unusable :: gap n r
def poolList (es : List (Nat × CpInfo)) (last : Nat) : List CpInfo := es.foldr (fun e r => gap e.1 (e.2 :: r)) (gap last [])
def pool (es : List (Nat × CpInfo)) (last : Nat) : Array CpInfo := ⟨poolList es last⟩
def fileOf (pool : Array CpInfo) (this : Nat) (attrs : Array Attribute := #[]) (ms : Array MethodInfo := #[]) (fl : Nat := 33) (sup : Nat := 0) (ifs : Array Nat := #[]) (fds : Array FieldInfo := #[]) : ClassFile where
  minorVersion := 0
  majorVersion := 65
  constantPool := pool
  accessFlags := fl
  thisClass := this
  superClass := sup
  interfaces := ifs
  fields := fds
  methods := ms
  attributes := attrs
def plain (name : String) (sup : Option ClassId) : Class where
  name := name
  kind := .ordinary
  loader := none
  accessFlags := 33
  super := sup
  interfaces := #[]
  cf := none
  fields := #[]
  methods := #[]
  instanceTypes := #[]
  staticTypes := #[]
  resolved := #[]
  callSites := []
  init := .initialized
  statics := none
  mirror := none

def pool0 : Array CpInfo := pool [(5, u "<init>"), (0, u "()V"), (1, .class_ 10), (1, u "java/lang/Object")] 113

def k0m0 : Method := { name := "<init>", desc := "()V", sig := { parameters := [], returnType := none }, accessFlags := 1, code := none }
/-- java/lang/Object -/
def k0 : Class := { plain "java/lang/Object" none with
  accessFlags := 33
  interfaces := #[]
  cf := some (fileOf pool0 8 #[] #[{ accessFlags := 1, nameIndex := 5, descriptorIndex := 6, attributes := #[] }] 33 0 #[] #[])
  fields := #[]
  methods := #[k0m0]
  instanceTypes := #[]
  staticTypes := #[]
  resolved := Array.replicate 124 none
  statics := none }

def pool1 : Array CpInfo := pool [(2, .class_ 4), (1, u "java/lang/Object"), (0, u "<init>"), (0, u "()V"), (0, .integer 2147483647), (0, .fieldref 9 10), (0, .class_ 11), (0, .nameAndType 12 13), (0, u "com/example/waymark/waymark/BackslashEscapes"), (0, u "NONE"), (0, u "Lcom/example/waymark/waymark/BackslashEscapes;"), (0, .fieldref 9 15), (0, .nameAndType 16 13), (0, u "SINGLE_QUOTES"), (0, .fieldref 9 18), (0, .nameAndType 19 13), (0, u "SINGLE_AND_DOUBLE_QUOTES"), (0, .integer 65535), (0, .methodref 9 22), (0, .nameAndType 23 24), (0, u "in"), (0, u "(C)Z"), (0, .class_ 26), (0, u "com/example/waymark/waymark/BackslashEscapesInPinLaw"), (2, u "law"), (0, u "(III)Z")] 3

def k1m0 : Method := { name := "<init>", desc := "()V", sig := { parameters := [], returnType := none }, accessFlags := 1, code := none }
def k1c1 : Code := { maxStack := 2, maxLocals := 10, code := code, exceptionTable := #[], attributes := #[] }
def k1m1 : Method := { name := "law", desc := "(III)Z", sig := { parameters := [.int, .int, .int], returnType := some .boolean }, accessFlags := 9, code := some k1c1 }
/-- com/example/waymark/waymark/BackslashEscapesInPinLaw -/
def k1 : Class := { plain "com/example/waymark/waymark/BackslashEscapesInPinLaw" (some 0) with
  accessFlags := 49
  interfaces := #[]
  cf := some (fileOf pool1 25 #[] #[{ accessFlags := 1, nameIndex := 5, descriptorIndex := 6, attributes := #[] }, { accessFlags := 9, nameIndex := 29, descriptorIndex := 30, attributes := #[] }] 49 2 #[] #[])
  fields := #[]
  methods := #[k1m0, k1m1]
  instanceTypes := #[]
  staticTypes := #[]
  resolved := Array.replicate 34 none
  statics := none }

def pool2 : Array CpInfo := pool [(1, .class_ 2), (0, u "java/lang/constant/Constable"), (0, .class_ 4), (0, u "java/lang/Object")] 6

/-- java/lang/constant/Constable -/
def k2 : Class := { plain "java/lang/constant/Constable" (some 0) with
  accessFlags := 1537
  interfaces := #[]
  cf := some (fileOf pool2 1 #[] #[] 1537 3 #[] #[])
  fields := #[]
  methods := #[]
  instanceTypes := #[]
  staticTypes := #[]
  resolved := Array.replicate 11 none
  statics := none }

def pool3 : Array CpInfo := pool [(1, .class_ 2), (0, u "java/lang/Comparable"), (0, .class_ 4), (0, u "java/lang/Object")] 7

/-- java/lang/Comparable -/
def k3 : Class := { plain "java/lang/Comparable" (some 0) with
  accessFlags := 1537
  interfaces := #[]
  cf := some (fileOf pool3 1 #[] #[] 1537 3 #[] #[])
  fields := #[]
  methods := #[]
  instanceTypes := #[]
  staticTypes := #[]
  resolved := Array.replicate 12 none
  statics := none }

def pool4 : Array CpInfo := pool [(1, .class_ 2), (0, u "java/io/Serializable"), (0, .class_ 4), (0, u "java/lang/Object")] 2

/-- java/io/Serializable -/
def k4 : Class := { plain "java/io/Serializable" (some 0) with
  accessFlags := 1537
  interfaces := #[]
  cf := some (fileOf pool4 1 #[] #[] 1537 3 #[] #[])
  fields := #[]
  methods := #[]
  instanceTypes := #[]
  staticTypes := #[]
  resolved := Array.replicate 7 none
  statics := none }

def pool5 : Array CpInfo := pool [(2, .class_ 4), (1, u "java/lang/Enum"), (0, u "name"), (0, u "Ljava/lang/String;"), (2, u "ordinal"), (0, u "I"), (1, .class_ 14), (1, u "java/lang/Object"), (4, u "hash"), (86, .class_ 108), (1, u "java/lang/Enum$EnumDesc"), (2, .class_ 112), (0, u "java/lang/constant/Constable"), (0, .class_ 114), (0, u "java/lang/Comparable"), (0, .class_ 116), (0, u "java/io/Serializable")] 87

/-- java/lang/Enum -/
def k5 : Class := { plain "java/lang/Enum" (some 0) with
  accessFlags := 1057
  interfaces := #[2, 3, 4]
  cf := some (fileOf pool5 2 #[.nestMembers #[106]] #[] 1057 12 #[111, 113, 115] #[{ accessFlags := 18, nameIndex := 5, descriptorIndex := 6, attributes := #[] }, { accessFlags := 18, nameIndex := 9, descriptorIndex := 10, attributes := #[] }, { accessFlags := 2, nameIndex := 19, descriptorIndex := 10, attributes := #[] }])
  fields := #[{ name := "name", type := (.object "java/lang/String"), accessFlags := 18, slot := 0, constantValue := 0 }, { name := "ordinal", type := .int, accessFlags := 18, slot := 1, constantValue := 0 }, { name := "hash", type := .int, accessFlags := 2, slot := 2, constantValue := 0 }]
  methods := #[]
  instanceTypes := #[(.object "java/lang/String"), .int, .int]
  staticTypes := #[]
  resolved := Array.replicate 204 none
  statics := none }

def pool6 : Array CpInfo := pool [(1, .class_ 2), (0, u "com/example/waymark/waymark/BackslashEscapes"), (0, .fieldref 1 4), (0, .nameAndType 5 6), (0, u "NONE"), (0, u "Lcom/example/waymark/waymark/BackslashEscapes;"), (2, u "SINGLE_QUOTES"), (0, .fieldref 1 11), (0, .nameAndType 12 6), (0, u "SINGLE_AND_DOUBLE_QUOTES"), (2, u "$VALUES"), (0, u "[Lcom/example/waymark/waymark/BackslashEscapes;"), (6, .class_ 25), (1, u "java/lang/Enum"), (31, u "in"), (0, u "(C)Z")] 8

def k6c0 : Code := { maxStack := 2, maxLocals := 2, code := prog_6_method_4_code, exceptionTable := #[], attributes := #[] }
def k6m0 : Method := { name := "in", desc := "(C)Z", sig := { parameters := [.char], returnType := some .boolean }, accessFlags := 0, code := some k6c0 }
/-- com/example/waymark/waymark/BackslashEscapes -/
def k6 : Class := { plain "com/example/waymark/waymark/BackslashEscapes" (some 5) with
  accessFlags := 16432
  interfaces := #[]
  cf := some (fileOf pool6 1 #[] #[{ accessFlags := 0, nameIndex := 57, descriptorIndex := 58, attributes := #[] }] 16432 23 #[] #[{ accessFlags := 16409, nameIndex := 5, descriptorIndex := 6, attributes := #[] }, { accessFlags := 16409, nameIndex := 9, descriptorIndex := 6, attributes := #[] }, { accessFlags := 16409, nameIndex := 12, descriptorIndex := 6, attributes := #[] }, { accessFlags := 4122, nameIndex := 15, descriptorIndex := 16, attributes := #[] }])
  fields := #[{ name := "NONE", type := (.object "com/example/waymark/waymark/BackslashEscapes"), accessFlags := 16409, slot := 0, constantValue := 0 }, { name := "SINGLE_QUOTES", type := (.object "com/example/waymark/waymark/BackslashEscapes"), accessFlags := 16409, slot := 1, constantValue := 0 }, { name := "SINGLE_AND_DOUBLE_QUOTES", type := (.object "com/example/waymark/waymark/BackslashEscapes"), accessFlags := 16409, slot := 2, constantValue := 0 }, { name := "$VALUES", type := (.array (.object "com/example/waymark/waymark/BackslashEscapes")), accessFlags := 4122, slot := 3, constantValue := 0 }]
  methods := #[k6m0]
  instanceTypes := #[(.object "java/lang/String"), .int, .int]
  staticTypes := #[(.object "com/example/waymark/waymark/BackslashEscapes"), (.object "com/example/waymark/waymark/BackslashEscapes"), (.object "com/example/waymark/waymark/BackslashEscapes"), (.array (.object "com/example/waymark/waymark/BackslashEscapes"))]
  resolved := Array.replicate 67 none
  statics := some 0 }

def pool7 : Array CpInfo := pool [(1, u "java/lang/Cloneable"), (0, .class_ 1), (0, u "java/lang/Object"), (0, .class_ 3)] 3

/-- java/lang/Cloneable -/
def k7 : Class := { plain "java/lang/Cloneable" (some 0) with
  accessFlags := 1537
  interfaces := #[]
  cf := some (fileOf pool7 2 #[] #[] 1537 4 #[] #[])
  fields := #[]
  methods := #[]
  instanceTypes := #[]
  staticTypes := #[]
  resolved := Array.replicate 8 none
  statics := none }

/-- the primitive byte -/
def k8 : Class := { plain "byte" none with kind := .primitive 'B', accessFlags := 0x411 }
/-- [B -/
def k9 : Class := { plain "[B" (some 0) with kind := .array 8 .byte, interfaces := #[7, 4], accessFlags := 1041 }

/-- the primitive int -/
def k10 : Class := { plain "int" none with kind := .primitive 'I', accessFlags := 0x411 }
/-- [I -/
def k11 : Class := { plain "[I" (some 0) with kind := .array 10 .int, interfaces := #[7, 4], accessFlags := 1041 }

def heap : Heap := #[{ cls := 6, slots := #[.ref 1, .ref 2, .ref 3, .null], vm := .statics 6 },
  { cls := 6, slots := #[.null, .int 0, .int 0], vm := .none },
  { cls := 6, slots := #[.null, .int 1, .int 0], vm := .none },
  { cls := 6, slots := #[.null, .int 2, .int 0], vm := .none }]
def classes : Array Class := #[k0, k1, k2, k3, k4, k5, k6, k7, k8, k9, k10, k11]
def interned : List (Array UInt16 × Addr) := []
def slotsUsed : Nat := 13
def theMethod : MethodId := ⟨1, 1⟩
def args0 : Array Value := #[.int 5, .int 6, .int 7]
def aboutOver (below : List Frame) : State where
  vm := { classes := classes, interned := interned.toArray }
  heap := heap
  slotsUsed := slotsUsed
  threads := #[{ frames := .invoking theMethod args0 :: below }]
def below0 : List Frame := [.native { method := ⟨0, 0⟩, args := #[] }]
def about1 : State := aboutOver below0
def p0 : Program := .bare "" "" ""
def e0 : Env := launch0.env 0 0 0
theorem w_frames : about1.frames = Frame.invoking theMethod args0 :: below0 := rfl
set_option maxRecDepth 65536 in
theorem w_args : argsFit about1.vm theMethod args0 = true := by decide +kernel
set_option maxRecDepth 65536 in
theorem w_heap : heapFits about1 = true := by decide +kernel
set_option maxRecDepth 65536 in
theorem w_runnable : about1.curStatus? = some .runnable := by decide +kernel
set_option maxRecDepth 65536 in
theorem w_alone : about1.alone = true := by decide +kernel
set_option maxRecDepth 65536 in
theorem w_named : about1.methodNamed? x = some theMethod := by decide +kernel
set_option maxRecDepth 65536 in
theorem w_hears : about1.hears theMethod below0 = true := by decide +kernel
set_option maxRecDepth 65536 in
theorem w_ripe : about1.ripe theMethod args0 below0 = true := by decide +kernel
theorem w_running : about1.status = .running := rfl
set_option maxRecDepth 65536 in
theorem w_room : about1.hasRoom e0.platform room_1 = true :=
  launch0.hasRoom_least _ room_1 (by decide +kernel) (by decide +kernel) (by decide +kernel) (by decide +kernel) (by decide +kernel) (by decide +kernel)
theorem allAtoms_all (ts : List Jvm.Cond) (a : Array Jvm.Value) (st : Jvm.State) : (allAtoms ts).before a st = ts.all (fun c => c.before a st) := by
  induction ts with
  | nil => rfl
  | cons c t ih =>
    show (Jvm.Cond.and c (allAtoms t)).before a st = _
    rw [Jvm.Cond.before_and, ih, List.all_cons]
def words1 : List Jvm.Cond := Jvm.Cond.code x code maxLocals ret :: tables_1
/-- a 'code' word, met by the world's own term for the bytes: nothing is compared byte by byte -/
theorem code_word {y : MethodName} {bytes : ByteArray} {mx : Nat} {rt : Option FieldType} {a : Array Value} {s : State} {m : MethodId} {meth : Method} {c : Code} (h1 : s.methodNamed? y = some m) (h2 : s.vm.method? m = some meth) (h3 : meth.code = some c) (h4 : c.code = bytes)
    (h5 : (c.maxLocals == mx && c.exceptionTable.isEmpty && decide (c.maxStack ≤ mostOperands) && decide (meth.sig.returnType = rt) && !meth.locks && decide (parseMethodDescriptor y.desc = some meth.sig)) = true) : (Jvm.Cond.code y bytes mx rt).before a s = true := by
  simp only [Bool.and_eq_true, beq_iff_eq, Bool.not_eq_true', decide_eq_true_eq] at h5
  obtain ⟨⟨⟨⟨⟨g1, g2⟩, g3⟩, g4⟩, g5⟩, g6⟩ := h5
  simp [Cond.before, Cond.holds, Cond.value, h1, h2, h3, h4, g1, g2, g3, g4, g5, g6]
def isCode : Jvm.Cond → Bool
  | .code _ _ _ _ => true
  | _ => false
theorem all_split {L : List Jvm.Cond} {P : Jvm.Cond → Bool} (h1 : L.all (fun c => isCode c || P c) = true) (h2 : ∀ c ∈ L.filter isCode, P c = true) : L.all P = true := by
  refine List.all_eq_true.mpr fun c hc => ?_
  have h := List.all_eq_true.mp h1 c hc
  rcases Bool.eq_false_or_eq_true (isCode c) with hi | hi
  · exact h2 c (List.mem_filter.mpr ⟨hc, hi⟩)
  · simpa [hi] using h
set_option maxRecDepth 65536 in
theorem w_c0 : (Jvm.Cond.code x code maxLocals ret).before args0 about1 = true := code_word (m := ⟨1, 1⟩) (meth := k1m1) (c := k1c1) (by decide +kernel) rfl rfl rfl (by decide +kernel)
set_option maxRecDepth 65536 in
theorem w_c1 : (Jvm.Cond.code ({ cls := "com/example/waymark/waymark/BackslashEscapes", name := "in", desc := "(C)Z" } : Jvm.MethodName) prog_6_method_4_code (2 : Nat) (Option.some Jvm.ClassFile.FieldType.boolean)).before args0 about1 = true := code_word (m := ⟨6, 0⟩) (meth := k6m0) (c := k6c0) (by decide +kernel) rfl rfl rfl (by decide +kernel)
def codes1 : List Jvm.Cond := [Jvm.Cond.code x code maxLocals ret, Jvm.Cond.code ({ cls := "com/example/waymark/waymark/BackslashEscapes", name := "in", desc := "(C)Z" } : Jvm.MethodName) prog_6_method_4_code (2 : Nat) (Option.some Jvm.ClassFile.FieldType.boolean)]
set_option maxRecDepth 65536 in
theorem codes_eq : words1.filter isCode = codes1 := rfl
theorem w_codes : ∀ c ∈ words1.filter isCode, c.before args0 about1 = true := by
  rw [codes_eq]
  intro c hc
  simp only [codes1, List.mem_cons, List.not_mem_nil, or_false] at hc
  rcases hc with rfl | rfl
  · exact w_c0
  · exact w_c1
set_option maxRecDepth 65536 in
theorem w_t1 : words1.all (fun c => isCode c || c.before args0 about1) = true := by decide +kernel
theorem w_tables : (allAtoms (Jvm.Cond.code x code maxLocals ret :: tables_1)).before args0 about1 = true := by
  rw [allAtoms_all]
  show words1.all (fun c => c.before args0 about1) = true
  refine all_split ?_ w_codes
  rw [w_t1]
set_option maxRecDepth 65536 in
theorem w_case : (Jvm.Cond.and given_1 narrow_1).before args0 about1 = true := by decide +kernel
theorem w_applies : (headSpec (Jvm.Cond.code x code maxLocals ret :: tables_1) room_1).applies x e0.platform about1 = true :=
  (Spec.applies_iff w_frames).mpr ⟨w_running, w_runnable, w_alone, w_named, w_hears, w_ripe, w_room, w_tables⟩
theorem atStart : AtStart classFile x code maxLocals ret World_1 tables_1 room_1 Calls_1 rest_1 Pre_1 launch0 p0 e0 about1 theMethod args0 below0 :=
  ⟨lists_1, trivial, launch0.admits_env _ _ _, launch0.least_env, fairChoices_fair.cas, fairChoices_fair.clock, w_frames, w_args, w_heap, w_applies, trivial, trivial, w_case⟩
end start1
theorem witness_1 : WitnessClaimed_1 := ⟨start1.p0, start1.e0, start1.about1, start1.theMethod, start1.args0, start1.below0, start1.atStart⟩
end Jvm.Pilot.@@N@@
