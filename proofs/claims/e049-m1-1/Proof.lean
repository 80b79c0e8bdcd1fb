import JvmDerived
import JvmDerived.Pilot.@@N@@Statement
import JvmDerived.Pilot.@@N@@Code
set_option linter.unusedVariables false
set_option linter.unusedSimpArgs false
@@BLOCK:NumsL.lean.txt@@
namespace Jvm.Pilot.@@N@@
open Jvm Jvm.ClassFile Sem Op Lib Jvm.Free Jvm.Stand Jvm.LawKit Jvm.RoadKit Bundle Jvm.Pilot.@@N@@.Jvm.D
/-! 1. the shape of a walk: from here on some end is reached that answers G -/
def own_Fin (p : Program) (e : Env) (below : List Frame) (G : Outcome → State → Prop) (T : State) (g : JFrame) : Prop :=
  ∃ s₂ o, Steps p.tables e below (T.setTop g) s₂ ∧ s₂.status = .running ∧ Ended s₂ below o ∧ G o s₂
theorem own_step {p : Program} {e : Env} {below : List Frame} {G : Outcome → State → Prop} {T T' : State} {g g' : JFrame}
    (h : ∀ t, Steps p.tables e below (T'.setTop g') t → Steps p.tables e below (T.setTop g) t) (k : own_Fin p e below G T' g') : own_Fin p e below G T g := by
  obtain ⟨s₂, o, h1, h2⟩ := k
  exact ⟨s₂, o, h _ h1, h2⟩
theorem own_cast {p : Program} {e : Env} {below : List Frame} {G : Outcome → State → Prop} {T : State} {g g' : JFrame} (q : g = g') (k : own_Fin p e below G T g') : own_Fin p e below G T g := q ▸ k
/-- what a body that makes nothing answers: the value V, nothing old written, the heap as it was -/
def own_Q (h0 : Heap) (n0 : Nat) (V : Value) (v : Option Value) (h : Heap) (L : List Loc) : Prop := v = some V ∧ Fr n0 L ∧ h = h0
abbrev own_Con (l : Launch) (Z : State) (y : MethodName) (bytes : ByteArray) (ml : Nat) (ret : Option FieldType) (rm : Room) (as : Array Value) (h0 : Heap) (n0 : Nat) (V : Value) (ws : List Jvm.Cond) : Prop :=
  MetFree l y (head1 (Jvm.Cond.code y bytes ml ret :: ws) rm) (fun a U => a = as ∧ Z.Warmed39 U.vm ∧ U.heap = h0) (fun _ _ _ _ _ => True)
    (fun _ U o U' => ∃ v L, o = .returned v ∧ own_Q h0 n0 V v U'.heap L ∧ FrameEnd U o U' L rm.cells rm.slots)
theorem own_fin {p : Program} {l : Launch} {e : Env} {R : Room} {s : State} {m : MethodId} {args : Array Value} {below : List Frame} {meth : Method} {c : Code} {T : State} {locs : List Loc} {cells slots : Nat}
    (X : Stand p l e R s m args below meth c T locs cells slots) (hx : p.tables.exec = Jvm.exec) {pc : Nat} {Ls : Array Slot} {w V : Value} {t : FieldType} {i : Instr} {rest : List Value} (hret : meth.sig.returnType = some t) (hn : narrow t w = w)
    (hi : (i = .ireturn ∧ (t = .int ∨ t = .boolean ∨ t = .byte ∨ t = .char ∨ t = .short) ∧ ∃ z, w = .int z) ∨ (i = .lreturn ∧ t = .long ∧ ∃ z, w = .long z) ∨ (i = .dreturn ∧ t = .double ∧ ∃ z, w = .double z) ∨ (i = .freturn ∧ t = .float ∧ ∃ z, w = .float z) ∨ (i = .areturn ∧ t.isReference = true ∧ w.isRef = true))
    (hd : decode c.code pc = .ok (i, 1)) (hlocks : meth.locks = false) {n0 : Nat} {h0 : Heap} (N : Fr n0 locs) (eT : T.heap = h0) (hV : V = w) {k n : Nat} (hk : cells ≤ k) (hn' : slots ≤ n) :
    own_Fin p e below (fun o U' => ∃ v L, o = .returned v ∧ own_Q h0 n0 V v U'.heap L ∧ FrameEnd s o U' L k n) T (mkF m pc Ls (w :: rest)) := by
  obtain ⟨fs, hr, hrun, hended, hW, hsame⟩ := X.leave (v := some w) (fun h => by rw [hret] at h; cases h) hlocks
  exact ⟨_, _, retOut X hx hret hn hi hd hr, hrun, hended, _, _, rfl, ⟨by rw [hV], N, eT⟩, ⟨_, rfl⟩, hW, hsame.mono hk hn'⟩
/-! 2. the bodies, walked -/
def own_Stas (Z : State) (h0 : Heap) (W : Nat → Addr) : Prop := Sta Z h0 "com/example/intreccio/intreccio/model/Binary$Operator" "ADD" "Lcom/example/intreccio/intreccio/model/Binary$Operator;" (.ref (W 0)) ∧ Sta Z h0 "com/example/intreccio/intreccio/model/Binary$Operator" "BIT_AND" "Lcom/example/intreccio/intreccio/model/Binary$Operator;" (.ref (W 1)) ∧ Sta Z h0 "com/example/intreccio/intreccio/model/Binary$Operator" "BIT_OR" "Lcom/example/intreccio/intreccio/model/Binary$Operator;" (.ref (W 2)) ∧ Sta Z h0 "com/example/intreccio/intreccio/model/Binary$Operator" "BIT_XOR" "Lcom/example/intreccio/intreccio/model/Binary$Operator;" (.ref (W 3)) ∧ Sta Z h0 "com/example/intreccio/intreccio/model/Binary$Operator" "DIVIDE" "Lcom/example/intreccio/intreccio/model/Binary$Operator;" (.ref (W 4)) ∧ Sta Z h0 "com/example/intreccio/intreccio/model/Binary$Operator" "MULTIPLY" "Lcom/example/intreccio/intreccio/model/Binary$Operator;" (.ref (W 5)) ∧ Sta Z h0 "com/example/intreccio/intreccio/model/Binary$Operator" "SUBTRACT" "Lcom/example/intreccio/intreccio/model/Binary$Operator;" (.ref (W 6)) ∧ Sta Z h0 "com/example/intreccio/intreccio/model/Binary$Operator" "LESS_EQUAL" "Lcom/example/intreccio/intreccio/model/Binary$Operator;" (.ref (W 7)) ∧ Sta Z h0 "com/example/intreccio/intreccio/model/Binary$Operator" "REMAINDER" "Lcom/example/intreccio/intreccio/model/Binary$Operator;" (.ref (W 8)) ∧ Sta Z h0 "com/example/intreccio/intreccio/model/Binary$Operator" "GREATER" "Lcom/example/intreccio/intreccio/model/Binary$Operator;" (.ref (W 9)) ∧ Sta Z h0 "com/example/intreccio/intreccio/model/Binary$Operator" "AND" "Lcom/example/intreccio/intreccio/model/Binary$Operator;" (.ref (W 10)) ∧ Sta Z h0 "com/example/intreccio/intreccio/model/Binary$Operator" "NOT_EQUAL" "Lcom/example/intreccio/intreccio/model/Binary$Operator;" (.ref (W 11)) ∧ Sta Z h0 "com/example/intreccio/intreccio/model/Binary$Operator" "LESS" "Lcom/example/intreccio/intreccio/model/Binary$Operator;" (.ref (W 12)) ∧ Sta Z h0 "com/example/intreccio/intreccio/model/Binary$Operator" "GREATER_EQUAL" "Lcom/example/intreccio/intreccio/model/Binary$Operator;" (.ref (W 13)) ∧ Sta Z h0 "com/example/intreccio/intreccio/model/Binary$Operator" "SHIFT_RIGHT" "Lcom/example/intreccio/intreccio/model/Binary$Operator;" (.ref (W 14)) ∧ Sta Z h0 "com/example/intreccio/intreccio/model/Binary$Operator" "OR" "Lcom/example/intreccio/intreccio/model/Binary$Operator;" (.ref (W 15)) ∧ Sta Z h0 "com/example/intreccio/intreccio/model/Binary$Operator" "EQUAL" "Lcom/example/intreccio/intreccio/model/Binary$Operator;" (.ref (W 16)) ∧ Sta Z h0 "com/example/intreccio/intreccio/model/Binary$Operator" "SHIFT_LEFT" "Lcom/example/intreccio/intreccio/model/Binary$Operator;" (.ref (W 17))
theorem own_pn0 : plainName "com/example/intreccio/intreccio/model/BinaryIsBitwisePinLaw" = true := by first | (simp [plainName, overriddenIn]; done) | decide +kernel
theorem d1_0 : decode method_2_code 0 = .ok (.iload_n 0, 1) := by decide +kernel
theorem d1_1 : decode method_2_code 1 = .ok (.ifCond .ne 7, 3) := by decide +kernel
theorem d1_4 : decode method_2_code 4 = .ok (.getstatic 7, 3) := by decide +kernel
theorem d1_7 : decode method_2_code 7 = .ok (.areturn, 1) := by decide +kernel
theorem d1_8 : decode method_2_code 8 = .ok (.iload_n 0, 1) := by decide +kernel
theorem d1_9 : decode method_2_code 9 = .ok (.iconst 1, 1) := by decide +kernel
theorem d1_10 : decode method_2_code 10 = .ok (.if_icmp .ne 7, 3) := by decide +kernel
theorem d1_13 : decode method_2_code 13 = .ok (.getstatic 13, 3) := by decide +kernel
theorem d1_16 : decode method_2_code 16 = .ok (.areturn, 1) := by decide +kernel
theorem d1_17 : decode method_2_code 17 = .ok (.iload_n 0, 1) := by decide +kernel
theorem d1_18 : decode method_2_code 18 = .ok (.iconst 2, 1) := by decide +kernel
theorem d1_19 : decode method_2_code 19 = .ok (.if_icmp .ne 7, 3) := by decide +kernel
theorem d1_22 : decode method_2_code 22 = .ok (.getstatic 16, 3) := by decide +kernel
theorem d1_25 : decode method_2_code 25 = .ok (.areturn, 1) := by decide +kernel
theorem d1_26 : decode method_2_code 26 = .ok (.iload_n 0, 1) := by decide +kernel
theorem d1_27 : decode method_2_code 27 = .ok (.iconst 3, 1) := by decide +kernel
theorem d1_28 : decode method_2_code 28 = .ok (.if_icmp .ne 7, 3) := by decide +kernel
theorem d1_31 : decode method_2_code 31 = .ok (.getstatic 19, 3) := by decide +kernel
theorem d1_34 : decode method_2_code 34 = .ok (.areturn, 1) := by decide +kernel
theorem d1_35 : decode method_2_code 35 = .ok (.iload_n 0, 1) := by decide +kernel
theorem d1_36 : decode method_2_code 36 = .ok (.iconst 4, 1) := by decide +kernel
theorem d1_37 : decode method_2_code 37 = .ok (.if_icmp .ne 7, 3) := by decide +kernel
theorem d1_40 : decode method_2_code 40 = .ok (.getstatic 22, 3) := by decide +kernel
theorem d1_43 : decode method_2_code 43 = .ok (.areturn, 1) := by decide +kernel
theorem d1_44 : decode method_2_code 44 = .ok (.iload_n 0, 1) := by decide +kernel
theorem d1_45 : decode method_2_code 45 = .ok (.iconst 5, 1) := by decide +kernel
theorem d1_46 : decode method_2_code 46 = .ok (.if_icmp .ne 7, 3) := by decide +kernel
theorem d1_49 : decode method_2_code 49 = .ok (.getstatic 25, 3) := by decide +kernel
theorem d1_52 : decode method_2_code 52 = .ok (.areturn, 1) := by decide +kernel
theorem d1_53 : decode method_2_code 53 = .ok (.iload_n 0, 1) := by decide +kernel
theorem d1_54 : decode method_2_code 54 = .ok (.bipush 6, 2) := by decide +kernel
theorem d1_56 : decode method_2_code 56 = .ok (.if_icmp .ne 7, 3) := by decide +kernel
theorem d1_59 : decode method_2_code 59 = .ok (.getstatic 28, 3) := by decide +kernel
theorem d1_62 : decode method_2_code 62 = .ok (.areturn, 1) := by decide +kernel
theorem d1_63 : decode method_2_code 63 = .ok (.iload_n 0, 1) := by decide +kernel
theorem d1_64 : decode method_2_code 64 = .ok (.bipush 7, 2) := by decide +kernel
theorem d1_66 : decode method_2_code 66 = .ok (.if_icmp .ne 7, 3) := by decide +kernel
theorem d1_69 : decode method_2_code 69 = .ok (.getstatic 31, 3) := by decide +kernel
theorem d1_72 : decode method_2_code 72 = .ok (.areturn, 1) := by decide +kernel
theorem d1_73 : decode method_2_code 73 = .ok (.iload_n 0, 1) := by decide +kernel
theorem d1_74 : decode method_2_code 74 = .ok (.bipush 8, 2) := by decide +kernel
theorem d1_76 : decode method_2_code 76 = .ok (.if_icmp .ne 7, 3) := by decide +kernel
theorem d1_79 : decode method_2_code 79 = .ok (.getstatic 34, 3) := by decide +kernel
theorem d1_82 : decode method_2_code 82 = .ok (.areturn, 1) := by decide +kernel
theorem d1_83 : decode method_2_code 83 = .ok (.iload_n 0, 1) := by decide +kernel
theorem d1_84 : decode method_2_code 84 = .ok (.bipush 9, 2) := by decide +kernel
theorem d1_86 : decode method_2_code 86 = .ok (.if_icmp .ne 7, 3) := by decide +kernel
theorem d1_89 : decode method_2_code 89 = .ok (.getstatic 37, 3) := by decide +kernel
theorem d1_92 : decode method_2_code 92 = .ok (.areturn, 1) := by decide +kernel
theorem d1_93 : decode method_2_code 93 = .ok (.iload_n 0, 1) := by decide +kernel
theorem d1_94 : decode method_2_code 94 = .ok (.bipush 10, 2) := by decide +kernel
theorem d1_96 : decode method_2_code 96 = .ok (.if_icmp .ne 7, 3) := by decide +kernel
theorem d1_99 : decode method_2_code 99 = .ok (.getstatic 40, 3) := by decide +kernel
theorem d1_102 : decode method_2_code 102 = .ok (.areturn, 1) := by decide +kernel
theorem d1_103 : decode method_2_code 103 = .ok (.iload_n 0, 1) := by decide +kernel
theorem d1_104 : decode method_2_code 104 = .ok (.bipush 11, 2) := by decide +kernel
theorem d1_106 : decode method_2_code 106 = .ok (.if_icmp .ne 7, 3) := by decide +kernel
theorem d1_109 : decode method_2_code 109 = .ok (.getstatic 43, 3) := by decide +kernel
theorem d1_112 : decode method_2_code 112 = .ok (.areturn, 1) := by decide +kernel
theorem d1_113 : decode method_2_code 113 = .ok (.iload_n 0, 1) := by decide +kernel
theorem d1_114 : decode method_2_code 114 = .ok (.bipush 12, 2) := by decide +kernel
theorem d1_116 : decode method_2_code 116 = .ok (.if_icmp .ne 7, 3) := by decide +kernel
theorem d1_119 : decode method_2_code 119 = .ok (.getstatic 46, 3) := by decide +kernel
theorem d1_122 : decode method_2_code 122 = .ok (.areturn, 1) := by decide +kernel
theorem d1_123 : decode method_2_code 123 = .ok (.iload_n 0, 1) := by decide +kernel
theorem d1_124 : decode method_2_code 124 = .ok (.bipush 13, 2) := by decide +kernel
theorem d1_126 : decode method_2_code 126 = .ok (.if_icmp .ne 7, 3) := by decide +kernel
theorem d1_129 : decode method_2_code 129 = .ok (.getstatic 49, 3) := by decide +kernel
theorem d1_132 : decode method_2_code 132 = .ok (.areturn, 1) := by decide +kernel
theorem d1_133 : decode method_2_code 133 = .ok (.iload_n 0, 1) := by decide +kernel
theorem d1_134 : decode method_2_code 134 = .ok (.bipush 14, 2) := by decide +kernel
theorem d1_136 : decode method_2_code 136 = .ok (.if_icmp .ne 7, 3) := by decide +kernel
theorem d1_139 : decode method_2_code 139 = .ok (.getstatic 52, 3) := by decide +kernel
theorem d1_142 : decode method_2_code 142 = .ok (.areturn, 1) := by decide +kernel
theorem d1_143 : decode method_2_code 143 = .ok (.iload_n 0, 1) := by decide +kernel
theorem d1_144 : decode method_2_code 144 = .ok (.bipush 15, 2) := by decide +kernel
theorem d1_146 : decode method_2_code 146 = .ok (.if_icmp .ne 7, 3) := by decide +kernel
theorem d1_149 : decode method_2_code 149 = .ok (.getstatic 55, 3) := by decide +kernel
theorem d1_152 : decode method_2_code 152 = .ok (.areturn, 1) := by decide +kernel
theorem d1_153 : decode method_2_code 153 = .ok (.iload_n 0, 1) := by decide +kernel
theorem d1_154 : decode method_2_code 154 = .ok (.bipush 16, 2) := by decide +kernel
theorem d1_156 : decode method_2_code 156 = .ok (.if_icmp .ne 7, 3) := by decide +kernel
theorem d1_159 : decode method_2_code 159 = .ok (.getstatic 58, 3) := by decide +kernel
theorem d1_162 : decode method_2_code 162 = .ok (.areturn, 1) := by decide +kernel
theorem d1_163 : decode method_2_code 163 = .ok (.getstatic 61, 3) := by decide +kernel
theorem d1_166 : decode method_2_code 166 = .ok (.areturn, 1) := by decide +kernel
theorem ef1 (m : MethodId) (p1 : Int32) : entryFrame m #[(.int p1)] 1 = mkF m 0 #[.val (.int p1)] [] := by first | (simp [entryFrame, mkF, argsToLocals, Value.category]; done) | rfl
def V1 (W : Nat → Addr) (p1 : Int32) : Addr := (if p1 = (0 : Int32) then (W 0) else (if p1 = (1 : Int32) then (W 6) else (if p1 = (2 : Int32) then (W 5) else (if p1 = (3 : Int32) then (W 4) else (if p1 = (4 : Int32) then (W 8) else (if p1 = (5 : Int32) then (W 17) else (if p1 = (6 : Int32) then (W 14) else (if p1 = (7 : Int32) then (W 1) else (if p1 = (8 : Int32) then (W 2) else (if p1 = (9 : Int32) then (W 3) else (if p1 = (10 : Int32) then (W 12) else (if p1 = (11 : Int32) then (W 7) else (if p1 = (12 : Int32) then (W 9) else (if p1 = (13 : Int32) then (W 13) else (if p1 = (14 : Int32) then (W 16) else (if p1 = (15 : Int32) then (W 11) else (if p1 = (16 : Int32) then (W 10) else (W 15))))))))))))))))))
theorem own_V1 (W : Nat → Addr) (p1 : Int32) : V1 W p1 = (if p1 = (0 : Int32) then (W 0) else (if p1 = (1 : Int32) then (W 6) else (if p1 = (2 : Int32) then (W 5) else (if p1 = (3 : Int32) then (W 4) else (if p1 = (4 : Int32) then (W 8) else (if p1 = (5 : Int32) then (W 17) else (if p1 = (6 : Int32) then (W 14) else (if p1 = (7 : Int32) then (W 1) else (if p1 = (8 : Int32) then (W 2) else (if p1 = (9 : Int32) then (W 3) else (if p1 = (10 : Int32) then (W 12) else (if p1 = (11 : Int32) then (W 7) else (if p1 = (12 : Int32) then (W 9) else (if p1 = (13 : Int32) then (W 13) else (if p1 = (14 : Int32) then (W 16) else (if p1 = (15 : Int32) then (W 11) else (if p1 = (16 : Int32) then (W 10) else (W 15)))))))))))))))))) := rfl
set_option maxRecDepth 65536 in
set_option maxHeartbeats 40000000 in
theorem rm1 (l : Launch) (Z : State) (a0 : Array Value) (hw : ∀ d ∈ tables_1, d.before a0 Z = true) (ws : List Jvm.Cond) (p1 : Int32) (W : Nat → Addr) (h0 : Heap) (n0 : Nat) (Z0 : n0 ≤ h0.size) (hS : own_Stas Z h0 W) :
    own_Con l Z (⟨"com/example/intreccio/intreccio/model/BinaryIsBitwisePinLaw", "pick", "(I)Lcom/example/intreccio/intreccio/model/Binary$Operator;"⟩ : MethodName) method_2_code 1 (some (.object "com/example/intreccio/intreccio/model/Binary$Operator")) ({ frames := 0, cells := 0, slots := 0, locals := 0 } : Room) #[(.int p1)] h0 n0 (.ref (V1 W p1)) ws := by
  refine MetFree.of_bodySF (plainFor_of_name own_pn0) hisR ?_
  intro p e s m args below meth c s₁ Bd hml0 hP hK
  obtain ⟨rfl, hZ, hh⟩ := hP
  have hx := Bd.exec
  have hby := Bd.bytes
  have hml : c.maxLocals = 1 := hml0
  have hown : s.vm.findClass "com/example/intreccio/intreccio/model/BinaryIsBitwisePinLaw" = some m.cls := findClass_of_methodNamed Bd.named
  have X0 : Stand p l e ({ frames := 0, cells := 0, slots := 0, locals := 0 } : Room) s m #[(.int p1)] below meth c s₁ [] 0 0 := Stand.of_body Bd
  have e0 : s₁.heap = h0 := by rw [← hh, Bd.state]; rfl
  have N0 := Fr.nil n0
  refine own_cast (ef1 m p1) ?_
  refine own_step (T' := s₁) (g' := (mkF m 1 #[.val (.int p1)] [(.int p1)])) (fun t k => XS.iloadN X0.here hx rfl (hb hby d1_0) rfl k) ?_
  by_cases hc1 : p1 = (0 : Int32)
  · refine own_step (T' := s₁) (g' := (mkF m 4 #[.val (.int p1)] [])) (fun t k => XS.ifNo X0.here hx rfl (hb hby d1_1) rfl ((if0 _ _).trans (teq hc1).2) k) ?_
    obtain ⟨T2, X2, e2, st2⟩ := getS2 X0 hx hZ hown (host := "") (Or.inl (hw _ (List.mem_of_getElem? (i := 5) rfl))) Via.refl e0 hS.1 (g := (mkF m 4 #[.val (.int p1)] [])) rfl (hb hby d1_4)
    refine own_step (T' := T2) (g' := (mkF m 7 #[.val (.int p1)] [(.ref (W 0))])) (fun t k => st2 t k) ?_
    exact own_fin X2 hx Bd.returns rfl (Or.inr (Or.inr (Or.inr (Or.inr ⟨rfl, rfl, rfl⟩)))) (hb hby d1_7) (BodyLoose.notSynchronized Bd) N0 e2 (congrArg _ (by rw [own_V1, if_pos hc1])) (by decide) (by decide)
  · refine own_step (T' := s₁) (g' := (mkF m 8 #[.val (.int p1)] [])) (fun t k => XS.ifYes X0.here hx rfl (pc0 := 1) (pc' := 8) rfl (hb hby d1_1) rfl ((if0 _ _).trans (feq hc1).2) (by decide) (by decide) k) ?_
    refine own_step (T' := s₁) (g' := (mkF m 9 #[.val (.int p1)] [(.int p1)])) (fun t k => XS.iloadN X0.here hx rfl (hb hby d1_8) rfl k) ?_
    refine own_step (T' := s₁) (g' := (mkF m 10 #[.val (.int p1)] [(.int (1 : Int32)), (.int p1)])) (fun t k => XS.iconst X0.here hx rfl (hb hby d1_9) k) ?_
    by_cases hc3 : p1 = (1 : Int32)
    · refine own_step (T' := s₁) (g' := (mkF m 13 #[.val (.int p1)] [])) (fun t k => XS.icmpNo X0.here hx rfl (hb hby d1_10) rfl (teq hc3).2 k) ?_
      obtain ⟨T4, X4, e4, st4⟩ := getS2 X0 hx hZ hown (host := "") (Or.inl (hw _ (List.mem_of_getElem? (i := 23) rfl))) Via.refl e0 hS.2.2.2.2.2.2.1 (g := (mkF m 13 #[.val (.int p1)] [])) rfl (hb hby d1_13)
      refine own_step (T' := T4) (g' := (mkF m 16 #[.val (.int p1)] [(.ref (W 6))])) (fun t k => st4 t k) ?_
      exact own_fin X4 hx Bd.returns rfl (Or.inr (Or.inr (Or.inr (Or.inr ⟨rfl, rfl, rfl⟩)))) (hb hby d1_16) (BodyLoose.notSynchronized Bd) N0 e4 (congrArg _ (by rw [own_V1, if_neg hc1, if_pos hc3])) (by decide) (by decide)
    · refine own_step (T' := s₁) (g' := (mkF m 17 #[.val (.int p1)] [])) (fun t k => XS.icmpYes X0.here hx rfl (pc0 := 10) (pc' := 17) rfl (hb hby d1_10) rfl (feq hc3).2 (by decide) (by decide) k) ?_
      refine own_step (T' := s₁) (g' := (mkF m 18 #[.val (.int p1)] [(.int p1)])) (fun t k => XS.iloadN X0.here hx rfl (hb hby d1_17) rfl k) ?_
      refine own_step (T' := s₁) (g' := (mkF m 19 #[.val (.int p1)] [(.int (2 : Int32)), (.int p1)])) (fun t k => XS.iconst X0.here hx rfl (hb hby d1_18) k) ?_
      by_cases hc5 : p1 = (2 : Int32)
      · refine own_step (T' := s₁) (g' := (mkF m 22 #[.val (.int p1)] [])) (fun t k => XS.icmpNo X0.here hx rfl (hb hby d1_19) rfl (teq hc5).2 k) ?_
        obtain ⟨T6, X6, e6, st6⟩ := getS2 X0 hx hZ hown (host := "") (Or.inl (hw _ (List.mem_of_getElem? (i := 21) rfl))) Via.refl e0 hS.2.2.2.2.2.1 (g := (mkF m 22 #[.val (.int p1)] [])) rfl (hb hby d1_22)
        refine own_step (T' := T6) (g' := (mkF m 25 #[.val (.int p1)] [(.ref (W 5))])) (fun t k => st6 t k) ?_
        exact own_fin X6 hx Bd.returns rfl (Or.inr (Or.inr (Or.inr (Or.inr ⟨rfl, rfl, rfl⟩)))) (hb hby d1_25) (BodyLoose.notSynchronized Bd) N0 e6 (congrArg _ (by rw [own_V1, if_neg hc1, if_neg hc3, if_pos hc5])) (by decide) (by decide)
      · refine own_step (T' := s₁) (g' := (mkF m 26 #[.val (.int p1)] [])) (fun t k => XS.icmpYes X0.here hx rfl (pc0 := 19) (pc' := 26) rfl (hb hby d1_19) rfl (feq hc5).2 (by decide) (by decide) k) ?_
        refine own_step (T' := s₁) (g' := (mkF m 27 #[.val (.int p1)] [(.int p1)])) (fun t k => XS.iloadN X0.here hx rfl (hb hby d1_26) rfl k) ?_
        refine own_step (T' := s₁) (g' := (mkF m 28 #[.val (.int p1)] [(.int (3 : Int32)), (.int p1)])) (fun t k => XS.iconst X0.here hx rfl (hb hby d1_27) k) ?_
        by_cases hc7 : p1 = (3 : Int32)
        · refine own_step (T' := s₁) (g' := (mkF m 31 #[.val (.int p1)] [])) (fun t k => XS.icmpNo X0.here hx rfl (hb hby d1_28) rfl (teq hc7).2 k) ?_
          obtain ⟨T8, X8, e8, st8⟩ := getS2 X0 hx hZ hown (host := "") (Or.inl (hw _ (List.mem_of_getElem? (i := 19) rfl))) Via.refl e0 hS.2.2.2.2.1 (g := (mkF m 31 #[.val (.int p1)] [])) rfl (hb hby d1_31)
          refine own_step (T' := T8) (g' := (mkF m 34 #[.val (.int p1)] [(.ref (W 4))])) (fun t k => st8 t k) ?_
          exact own_fin X8 hx Bd.returns rfl (Or.inr (Or.inr (Or.inr (Or.inr ⟨rfl, rfl, rfl⟩)))) (hb hby d1_34) (BodyLoose.notSynchronized Bd) N0 e8 (congrArg _ (by rw [own_V1, if_neg hc1, if_neg hc3, if_neg hc5, if_pos hc7])) (by decide) (by decide)
        · refine own_step (T' := s₁) (g' := (mkF m 35 #[.val (.int p1)] [])) (fun t k => XS.icmpYes X0.here hx rfl (pc0 := 28) (pc' := 35) rfl (hb hby d1_28) rfl (feq hc7).2 (by decide) (by decide) k) ?_
          refine own_step (T' := s₁) (g' := (mkF m 36 #[.val (.int p1)] [(.int p1)])) (fun t k => XS.iloadN X0.here hx rfl (hb hby d1_35) rfl k) ?_
          refine own_step (T' := s₁) (g' := (mkF m 37 #[.val (.int p1)] [(.int (4 : Int32)), (.int p1)])) (fun t k => XS.iconst X0.here hx rfl (hb hby d1_36) k) ?_
          by_cases hc9 : p1 = (4 : Int32)
          · refine own_step (T' := s₁) (g' := (mkF m 40 #[.val (.int p1)] [])) (fun t k => XS.icmpNo X0.here hx rfl (hb hby d1_37) rfl (teq hc9).2 k) ?_
            obtain ⟨T10, X10, e10, st10⟩ := getS2 X0 hx hZ hown (host := "") (Or.inl (hw _ (List.mem_of_getElem? (i := 28) rfl))) Via.refl e0 hS.2.2.2.2.2.2.2.2.1 (g := (mkF m 40 #[.val (.int p1)] [])) rfl (hb hby d1_40)
            refine own_step (T' := T10) (g' := (mkF m 43 #[.val (.int p1)] [(.ref (W 8))])) (fun t k => st10 t k) ?_
            exact own_fin X10 hx Bd.returns rfl (Or.inr (Or.inr (Or.inr (Or.inr ⟨rfl, rfl, rfl⟩)))) (hb hby d1_43) (BodyLoose.notSynchronized Bd) N0 e10 (congrArg _ (by rw [own_V1, if_neg hc1, if_neg hc3, if_neg hc5, if_neg hc7, if_pos hc9])) (by decide) (by decide)
          · refine own_step (T' := s₁) (g' := (mkF m 44 #[.val (.int p1)] [])) (fun t k => XS.icmpYes X0.here hx rfl (pc0 := 37) (pc' := 44) rfl (hb hby d1_37) rfl (feq hc9).2 (by decide) (by decide) k) ?_
            refine own_step (T' := s₁) (g' := (mkF m 45 #[.val (.int p1)] [(.int p1)])) (fun t k => XS.iloadN X0.here hx rfl (hb hby d1_44) rfl k) ?_
            refine own_step (T' := s₁) (g' := (mkF m 46 #[.val (.int p1)] [(.int (5 : Int32)), (.int p1)])) (fun t k => XS.iconst X0.here hx rfl (hb hby d1_45) k) ?_
            by_cases hc11 : p1 = (5 : Int32)
            · refine own_step (T' := s₁) (g' := (mkF m 49 #[.val (.int p1)] [])) (fun t k => XS.icmpNo X0.here hx rfl (hb hby d1_46) rfl (teq hc11).2 k) ?_
              obtain ⟨T12, X12, e12, st12⟩ := getS2 X0 hx hZ hown (host := "") (Or.inl (hw _ (List.mem_of_getElem? (i := 47) rfl))) Via.refl e0 hS.2.2.2.2.2.2.2.2.2.2.2.2.2.2.2.2.2 (g := (mkF m 49 #[.val (.int p1)] [])) rfl (hb hby d1_49)
              refine own_step (T' := T12) (g' := (mkF m 52 #[.val (.int p1)] [(.ref (W 17))])) (fun t k => st12 t k) ?_
              exact own_fin X12 hx Bd.returns rfl (Or.inr (Or.inr (Or.inr (Or.inr ⟨rfl, rfl, rfl⟩)))) (hb hby d1_52) (BodyLoose.notSynchronized Bd) N0 e12 (congrArg _ (by rw [own_V1, if_neg hc1, if_neg hc3, if_neg hc5, if_neg hc7, if_neg hc9, if_pos hc11])) (by decide) (by decide)
            · refine own_step (T' := s₁) (g' := (mkF m 53 #[.val (.int p1)] [])) (fun t k => XS.icmpYes X0.here hx rfl (pc0 := 46) (pc' := 53) rfl (hb hby d1_46) rfl (feq hc11).2 (by decide) (by decide) k) ?_
              refine own_step (T' := s₁) (g' := (mkF m 54 #[.val (.int p1)] [(.int p1)])) (fun t k => XS.iloadN X0.here hx rfl (hb hby d1_53) rfl k) ?_
              refine own_step (T' := s₁) (g' := (mkF m 56 #[.val (.int p1)] [(.int (6 : Int32)), (.int p1)])) (fun t k => XS.bipush X0.here hx rfl (hb hby d1_54) k) ?_
              by_cases hc13 : p1 = (6 : Int32)
              · refine own_step (T' := s₁) (g' := (mkF m 59 #[.val (.int p1)] [])) (fun t k => XS.icmpNo X0.here hx rfl (hb hby d1_56) rfl (teq hc13).2 k) ?_
                obtain ⟨T14, X14, e14, st14⟩ := getS2 X0 hx hZ hown (host := "") (Or.inl (hw _ (List.mem_of_getElem? (i := 41) rfl))) Via.refl e0 hS.2.2.2.2.2.2.2.2.2.2.2.2.2.2.1 (g := (mkF m 59 #[.val (.int p1)] [])) rfl (hb hby d1_59)
                refine own_step (T' := T14) (g' := (mkF m 62 #[.val (.int p1)] [(.ref (W 14))])) (fun t k => st14 t k) ?_
                exact own_fin X14 hx Bd.returns rfl (Or.inr (Or.inr (Or.inr (Or.inr ⟨rfl, rfl, rfl⟩)))) (hb hby d1_62) (BodyLoose.notSynchronized Bd) N0 e14 (congrArg _ (by rw [own_V1, if_neg hc1, if_neg hc3, if_neg hc5, if_neg hc7, if_neg hc9, if_neg hc11, if_pos hc13])) (by decide) (by decide)
              · refine own_step (T' := s₁) (g' := (mkF m 63 #[.val (.int p1)] [])) (fun t k => XS.icmpYes X0.here hx rfl (pc0 := 56) (pc' := 63) rfl (hb hby d1_56) rfl (feq hc13).2 (by decide) (by decide) k) ?_
                refine own_step (T' := s₁) (g' := (mkF m 64 #[.val (.int p1)] [(.int p1)])) (fun t k => XS.iloadN X0.here hx rfl (hb hby d1_63) rfl k) ?_
                refine own_step (T' := s₁) (g' := (mkF m 66 #[.val (.int p1)] [(.int (7 : Int32)), (.int p1)])) (fun t k => XS.bipush X0.here hx rfl (hb hby d1_64) k) ?_
                by_cases hc15 : p1 = (7 : Int32)
                · refine own_step (T' := s₁) (g' := (mkF m 69 #[.val (.int p1)] [])) (fun t k => XS.icmpNo X0.here hx rfl (hb hby d1_66) rfl (teq hc15).2 k) ?_
                  obtain ⟨T16, X16, e16, st16⟩ := getS2 X0 hx hZ hown (host := "") (Or.inl (hw _ (List.mem_of_getElem? (i := 25) rfl))) Via.refl e0 hS.2.1 (g := (mkF m 69 #[.val (.int p1)] [])) rfl (hb hby d1_69)
                  refine own_step (T' := T16) (g' := (mkF m 72 #[.val (.int p1)] [(.ref (W 1))])) (fun t k => st16 t k) ?_
                  exact own_fin X16 hx Bd.returns rfl (Or.inr (Or.inr (Or.inr (Or.inr ⟨rfl, rfl, rfl⟩)))) (hb hby d1_72) (BodyLoose.notSynchronized Bd) N0 e16 (congrArg _ (by rw [own_V1, if_neg hc1, if_neg hc3, if_neg hc5, if_neg hc7, if_neg hc9, if_neg hc11, if_neg hc13, if_pos hc15])) (by decide) (by decide)
                · refine own_step (T' := s₁) (g' := (mkF m 73 #[.val (.int p1)] [])) (fun t k => XS.icmpYes X0.here hx rfl (pc0 := 66) (pc' := 73) rfl (hb hby d1_66) rfl (feq hc15).2 (by decide) (by decide) k) ?_
                  refine own_step (T' := s₁) (g' := (mkF m 74 #[.val (.int p1)] [(.int p1)])) (fun t k => XS.iloadN X0.here hx rfl (hb hby d1_73) rfl k) ?_
                  refine own_step (T' := s₁) (g' := (mkF m 76 #[.val (.int p1)] [(.int (8 : Int32)), (.int p1)])) (fun t k => XS.bipush X0.here hx rfl (hb hby d1_74) k) ?_
                  by_cases hc17 : p1 = (8 : Int32)
                  · refine own_step (T' := s₁) (g' := (mkF m 79 #[.val (.int p1)] [])) (fun t k => XS.icmpNo X0.here hx rfl (hb hby d1_76) rfl (teq hc17).2 k) ?_
                    obtain ⟨T18, X18, e18, st18⟩ := getS2 X0 hx hZ hown (host := "") (Or.inl (hw _ (List.mem_of_getElem? (i := 30) rfl))) Via.refl e0 hS.2.2.1 (g := (mkF m 79 #[.val (.int p1)] [])) rfl (hb hby d1_79)
                    refine own_step (T' := T18) (g' := (mkF m 82 #[.val (.int p1)] [(.ref (W 2))])) (fun t k => st18 t k) ?_
                    exact own_fin X18 hx Bd.returns rfl (Or.inr (Or.inr (Or.inr (Or.inr ⟨rfl, rfl, rfl⟩)))) (hb hby d1_82) (BodyLoose.notSynchronized Bd) N0 e18 (congrArg _ (by rw [own_V1, if_neg hc1, if_neg hc3, if_neg hc5, if_neg hc7, if_neg hc9, if_neg hc11, if_neg hc13, if_neg hc15, if_pos hc17])) (by decide) (by decide)
                  · refine own_step (T' := s₁) (g' := (mkF m 83 #[.val (.int p1)] [])) (fun t k => XS.icmpYes X0.here hx rfl (pc0 := 76) (pc' := 83) rfl (hb hby d1_76) rfl (feq hc17).2 (by decide) (by decide) k) ?_
                    refine own_step (T' := s₁) (g' := (mkF m 84 #[.val (.int p1)] [(.int p1)])) (fun t k => XS.iloadN X0.here hx rfl (hb hby d1_83) rfl k) ?_
                    refine own_step (T' := s₁) (g' := (mkF m 86 #[.val (.int p1)] [(.int (9 : Int32)), (.int p1)])) (fun t k => XS.bipush X0.here hx rfl (hb hby d1_84) k) ?_
                    by_cases hc19 : p1 = (9 : Int32)
                    · refine own_step (T' := s₁) (g' := (mkF m 89 #[.val (.int p1)] [])) (fun t k => XS.icmpNo X0.here hx rfl (hb hby d1_86) rfl (teq hc19).2 k) ?_
                      obtain ⟨T20, X20, e20, st20⟩ := getS2 X0 hx hZ hown (host := "") (Or.inl (hw _ (List.mem_of_getElem? (i := 49) rfl))) Via.refl e0 hS.2.2.2.1 (g := (mkF m 89 #[.val (.int p1)] [])) rfl (hb hby d1_89)
                      refine own_step (T' := T20) (g' := (mkF m 92 #[.val (.int p1)] [(.ref (W 3))])) (fun t k => st20 t k) ?_
                      exact own_fin X20 hx Bd.returns rfl (Or.inr (Or.inr (Or.inr (Or.inr ⟨rfl, rfl, rfl⟩)))) (hb hby d1_92) (BodyLoose.notSynchronized Bd) N0 e20 (congrArg _ (by rw [own_V1, if_neg hc1, if_neg hc3, if_neg hc5, if_neg hc7, if_neg hc9, if_neg hc11, if_neg hc13, if_neg hc15, if_neg hc17, if_pos hc19])) (by decide) (by decide)
                    · refine own_step (T' := s₁) (g' := (mkF m 93 #[.val (.int p1)] [])) (fun t k => XS.icmpYes X0.here hx rfl (pc0 := 86) (pc' := 93) rfl (hb hby d1_86) rfl (feq hc19).2 (by decide) (by decide) k) ?_
                      refine own_step (T' := s₁) (g' := (mkF m 94 #[.val (.int p1)] [(.int p1)])) (fun t k => XS.iloadN X0.here hx rfl (hb hby d1_93) rfl k) ?_
                      refine own_step (T' := s₁) (g' := (mkF m 96 #[.val (.int p1)] [(.int (10 : Int32)), (.int p1)])) (fun t k => XS.bipush X0.here hx rfl (hb hby d1_94) k) ?_
                      by_cases hc21 : p1 = (10 : Int32)
                      · refine own_step (T' := s₁) (g' := (mkF m 99 #[.val (.int p1)] [])) (fun t k => XS.icmpNo X0.here hx rfl (hb hby d1_96) rfl (teq hc21).2 k) ?_
                        obtain ⟨T22, X22, e22, st22⟩ := getS2 X0 hx hZ hown (host := "") (Or.inl (hw _ (List.mem_of_getElem? (i := 37) rfl))) Via.refl e0 hS.2.2.2.2.2.2.2.2.2.2.2.2.1 (g := (mkF m 99 #[.val (.int p1)] [])) rfl (hb hby d1_99)
                        refine own_step (T' := T22) (g' := (mkF m 102 #[.val (.int p1)] [(.ref (W 12))])) (fun t k => st22 t k) ?_
                        exact own_fin X22 hx Bd.returns rfl (Or.inr (Or.inr (Or.inr (Or.inr ⟨rfl, rfl, rfl⟩)))) (hb hby d1_102) (BodyLoose.notSynchronized Bd) N0 e22 (congrArg _ (by rw [own_V1, if_neg hc1, if_neg hc3, if_neg hc5, if_neg hc7, if_neg hc9, if_neg hc11, if_neg hc13, if_neg hc15, if_neg hc17, if_neg hc19, if_pos hc21])) (by decide) (by decide)
                      · refine own_step (T' := s₁) (g' := (mkF m 103 #[.val (.int p1)] [])) (fun t k => XS.icmpYes X0.here hx rfl (pc0 := 96) (pc' := 103) rfl (hb hby d1_96) rfl (feq hc21).2 (by decide) (by decide) k) ?_
                        refine own_step (T' := s₁) (g' := (mkF m 104 #[.val (.int p1)] [(.int p1)])) (fun t k => XS.iloadN X0.here hx rfl (hb hby d1_103) rfl k) ?_
                        refine own_step (T' := s₁) (g' := (mkF m 106 #[.val (.int p1)] [(.int (11 : Int32)), (.int p1)])) (fun t k => XS.bipush X0.here hx rfl (hb hby d1_104) k) ?_
                        by_cases hc23 : p1 = (11 : Int32)
                        · refine own_step (T' := s₁) (g' := (mkF m 109 #[.val (.int p1)] [])) (fun t k => XS.icmpNo X0.here hx rfl (hb hby d1_106) rfl (teq hc23).2 k) ?_
                          obtain ⟨T24, X24, e24, st24⟩ := getS2 X0 hx hZ hown (host := "") (Or.inl (hw _ (List.mem_of_getElem? (i := 26) rfl))) Via.refl e0 hS.2.2.2.2.2.2.2.1 (g := (mkF m 109 #[.val (.int p1)] [])) rfl (hb hby d1_109)
                          refine own_step (T' := T24) (g' := (mkF m 112 #[.val (.int p1)] [(.ref (W 7))])) (fun t k => st24 t k) ?_
                          exact own_fin X24 hx Bd.returns rfl (Or.inr (Or.inr (Or.inr (Or.inr ⟨rfl, rfl, rfl⟩)))) (hb hby d1_112) (BodyLoose.notSynchronized Bd) N0 e24 (congrArg _ (by rw [own_V1, if_neg hc1, if_neg hc3, if_neg hc5, if_neg hc7, if_neg hc9, if_neg hc11, if_neg hc13, if_neg hc15, if_neg hc17, if_neg hc19, if_neg hc21, if_pos hc23])) (by decide) (by decide)
                        · refine own_step (T' := s₁) (g' := (mkF m 113 #[.val (.int p1)] [])) (fun t k => XS.icmpYes X0.here hx rfl (pc0 := 106) (pc' := 113) rfl (hb hby d1_106) rfl (feq hc23).2 (by decide) (by decide) k) ?_
                          refine own_step (T' := s₁) (g' := (mkF m 114 #[.val (.int p1)] [(.int p1)])) (fun t k => XS.iloadN X0.here hx rfl (hb hby d1_113) rfl k) ?_
                          refine own_step (T' := s₁) (g' := (mkF m 116 #[.val (.int p1)] [(.int (12 : Int32)), (.int p1)])) (fun t k => XS.bipush X0.here hx rfl (hb hby d1_114) k) ?_
                          by_cases hc25 : p1 = (12 : Int32)
                          · refine own_step (T' := s₁) (g' := (mkF m 119 #[.val (.int p1)] [])) (fun t k => XS.icmpNo X0.here hx rfl (hb hby d1_116) rfl (teq hc25).2 k) ?_
                            obtain ⟨T26, X26, e26, st26⟩ := getS2 X0 hx hZ hown (host := "") (Or.inl (hw _ (List.mem_of_getElem? (i := 31) rfl))) Via.refl e0 hS.2.2.2.2.2.2.2.2.2.1 (g := (mkF m 119 #[.val (.int p1)] [])) rfl (hb hby d1_119)
                            refine own_step (T' := T26) (g' := (mkF m 122 #[.val (.int p1)] [(.ref (W 9))])) (fun t k => st26 t k) ?_
                            exact own_fin X26 hx Bd.returns rfl (Or.inr (Or.inr (Or.inr (Or.inr ⟨rfl, rfl, rfl⟩)))) (hb hby d1_122) (BodyLoose.notSynchronized Bd) N0 e26 (congrArg _ (by rw [own_V1, if_neg hc1, if_neg hc3, if_neg hc5, if_neg hc7, if_neg hc9, if_neg hc11, if_neg hc13, if_neg hc15, if_neg hc17, if_neg hc19, if_neg hc21, if_neg hc23, if_pos hc25])) (by decide) (by decide)
                          · refine own_step (T' := s₁) (g' := (mkF m 123 #[.val (.int p1)] [])) (fun t k => XS.icmpYes X0.here hx rfl (pc0 := 116) (pc' := 123) rfl (hb hby d1_116) rfl (feq hc25).2 (by decide) (by decide) k) ?_
                            refine own_step (T' := s₁) (g' := (mkF m 124 #[.val (.int p1)] [(.int p1)])) (fun t k => XS.iloadN X0.here hx rfl (hb hby d1_123) rfl k) ?_
                            refine own_step (T' := s₁) (g' := (mkF m 126 #[.val (.int p1)] [(.int (13 : Int32)), (.int p1)])) (fun t k => XS.bipush X0.here hx rfl (hb hby d1_124) k) ?_
                            by_cases hc27 : p1 = (13 : Int32)
                            · refine own_step (T' := s₁) (g' := (mkF m 129 #[.val (.int p1)] [])) (fun t k => XS.icmpNo X0.here hx rfl (hb hby d1_126) rfl (teq hc27).2 k) ?_
                              obtain ⟨T28, X28, e28, st28⟩ := getS2 X0 hx hZ hown (host := "") (Or.inl (hw _ (List.mem_of_getElem? (i := 39) rfl))) Via.refl e0 hS.2.2.2.2.2.2.2.2.2.2.2.2.2.1 (g := (mkF m 129 #[.val (.int p1)] [])) rfl (hb hby d1_129)
                              refine own_step (T' := T28) (g' := (mkF m 132 #[.val (.int p1)] [(.ref (W 13))])) (fun t k => st28 t k) ?_
                              exact own_fin X28 hx Bd.returns rfl (Or.inr (Or.inr (Or.inr (Or.inr ⟨rfl, rfl, rfl⟩)))) (hb hby d1_132) (BodyLoose.notSynchronized Bd) N0 e28 (congrArg _ (by rw [own_V1, if_neg hc1, if_neg hc3, if_neg hc5, if_neg hc7, if_neg hc9, if_neg hc11, if_neg hc13, if_neg hc15, if_neg hc17, if_neg hc19, if_neg hc21, if_neg hc23, if_neg hc25, if_pos hc27])) (by decide) (by decide)
                            · refine own_step (T' := s₁) (g' := (mkF m 133 #[.val (.int p1)] [])) (fun t k => XS.icmpYes X0.here hx rfl (pc0 := 126) (pc' := 133) rfl (hb hby d1_126) rfl (feq hc27).2 (by decide) (by decide) k) ?_
                              refine own_step (T' := s₁) (g' := (mkF m 134 #[.val (.int p1)] [(.int p1)])) (fun t k => XS.iloadN X0.here hx rfl (hb hby d1_133) rfl k) ?_
                              refine own_step (T' := s₁) (g' := (mkF m 136 #[.val (.int p1)] [(.int (14 : Int32)), (.int p1)])) (fun t k => XS.bipush X0.here hx rfl (hb hby d1_134) k) ?_
                              by_cases hc29 : p1 = (14 : Int32)
                              · refine own_step (T' := s₁) (g' := (mkF m 139 #[.val (.int p1)] [])) (fun t k => XS.icmpNo X0.here hx rfl (hb hby d1_136) rfl (teq hc29).2 k) ?_
                                obtain ⟨T30, X30, e30, st30⟩ := getS2 X0 hx hZ hown (host := "") (Or.inl (hw _ (List.mem_of_getElem? (i := 45) rfl))) Via.refl e0 hS.2.2.2.2.2.2.2.2.2.2.2.2.2.2.2.2.1 (g := (mkF m 139 #[.val (.int p1)] [])) rfl (hb hby d1_139)
                                refine own_step (T' := T30) (g' := (mkF m 142 #[.val (.int p1)] [(.ref (W 16))])) (fun t k => st30 t k) ?_
                                exact own_fin X30 hx Bd.returns rfl (Or.inr (Or.inr (Or.inr (Or.inr ⟨rfl, rfl, rfl⟩)))) (hb hby d1_142) (BodyLoose.notSynchronized Bd) N0 e30 (congrArg _ (by rw [own_V1, if_neg hc1, if_neg hc3, if_neg hc5, if_neg hc7, if_neg hc9, if_neg hc11, if_neg hc13, if_neg hc15, if_neg hc17, if_neg hc19, if_neg hc21, if_neg hc23, if_neg hc25, if_neg hc27, if_pos hc29])) (by decide) (by decide)
                              · refine own_step (T' := s₁) (g' := (mkF m 143 #[.val (.int p1)] [])) (fun t k => XS.icmpYes X0.here hx rfl (pc0 := 136) (pc' := 143) rfl (hb hby d1_136) rfl (feq hc29).2 (by decide) (by decide) k) ?_
                                refine own_step (T' := s₁) (g' := (mkF m 144 #[.val (.int p1)] [(.int p1)])) (fun t k => XS.iloadN X0.here hx rfl (hb hby d1_143) rfl k) ?_
                                refine own_step (T' := s₁) (g' := (mkF m 146 #[.val (.int p1)] [(.int (15 : Int32)), (.int p1)])) (fun t k => XS.bipush X0.here hx rfl (hb hby d1_144) k) ?_
                                by_cases hc31 : p1 = (15 : Int32)
                                · refine own_step (T' := s₁) (g' := (mkF m 149 #[.val (.int p1)] [])) (fun t k => XS.icmpNo X0.here hx rfl (hb hby d1_146) rfl (teq hc31).2 k) ?_
                                  obtain ⟨T32, X32, e32, st32⟩ := getS2 X0 hx hZ hown (host := "") (Or.inl (hw _ (List.mem_of_getElem? (i := 35) rfl))) Via.refl e0 hS.2.2.2.2.2.2.2.2.2.2.2.1 (g := (mkF m 149 #[.val (.int p1)] [])) rfl (hb hby d1_149)
                                  refine own_step (T' := T32) (g' := (mkF m 152 #[.val (.int p1)] [(.ref (W 11))])) (fun t k => st32 t k) ?_
                                  exact own_fin X32 hx Bd.returns rfl (Or.inr (Or.inr (Or.inr (Or.inr ⟨rfl, rfl, rfl⟩)))) (hb hby d1_152) (BodyLoose.notSynchronized Bd) N0 e32 (congrArg _ (by rw [own_V1, if_neg hc1, if_neg hc3, if_neg hc5, if_neg hc7, if_neg hc9, if_neg hc11, if_neg hc13, if_neg hc15, if_neg hc17, if_neg hc19, if_neg hc21, if_neg hc23, if_neg hc25, if_neg hc27, if_neg hc29, if_pos hc31])) (by decide) (by decide)
                                · refine own_step (T' := s₁) (g' := (mkF m 153 #[.val (.int p1)] [])) (fun t k => XS.icmpYes X0.here hx rfl (pc0 := 146) (pc' := 153) rfl (hb hby d1_146) rfl (feq hc31).2 (by decide) (by decide) k) ?_
                                  refine own_step (T' := s₁) (g' := (mkF m 154 #[.val (.int p1)] [(.int p1)])) (fun t k => XS.iloadN X0.here hx rfl (hb hby d1_153) rfl k) ?_
                                  refine own_step (T' := s₁) (g' := (mkF m 156 #[.val (.int p1)] [(.int (16 : Int32)), (.int p1)])) (fun t k => XS.bipush X0.here hx rfl (hb hby d1_154) k) ?_
                                  by_cases hc33 : p1 = (16 : Int32)
                                  · refine own_step (T' := s₁) (g' := (mkF m 159 #[.val (.int p1)] [])) (fun t k => XS.icmpNo X0.here hx rfl (hb hby d1_156) rfl (teq hc33).2 k) ?_
                                    obtain ⟨T34, X34, e34, st34⟩ := getS2 X0 hx hZ hown (host := "") (Or.inl (hw _ (List.mem_of_getElem? (i := 33) rfl))) Via.refl e0 hS.2.2.2.2.2.2.2.2.2.2.1 (g := (mkF m 159 #[.val (.int p1)] [])) rfl (hb hby d1_159)
                                    refine own_step (T' := T34) (g' := (mkF m 162 #[.val (.int p1)] [(.ref (W 10))])) (fun t k => st34 t k) ?_
                                    exact own_fin X34 hx Bd.returns rfl (Or.inr (Or.inr (Or.inr (Or.inr ⟨rfl, rfl, rfl⟩)))) (hb hby d1_162) (BodyLoose.notSynchronized Bd) N0 e34 (congrArg _ (by rw [own_V1, if_neg hc1, if_neg hc3, if_neg hc5, if_neg hc7, if_neg hc9, if_neg hc11, if_neg hc13, if_neg hc15, if_neg hc17, if_neg hc19, if_neg hc21, if_neg hc23, if_neg hc25, if_neg hc27, if_neg hc29, if_neg hc31, if_pos hc33])) (by decide) (by decide)
                                  · refine own_step (T' := s₁) (g' := (mkF m 163 #[.val (.int p1)] [])) (fun t k => XS.icmpYes X0.here hx rfl (pc0 := 156) (pc' := 163) rfl (hb hby d1_156) rfl (feq hc33).2 (by decide) (by decide) k) ?_
                                    obtain ⟨T35, X35, e35, st35⟩ := getS2 X0 hx hZ hown (host := "") (Or.inl (hw _ (List.mem_of_getElem? (i := 43) rfl))) Via.refl e0 hS.2.2.2.2.2.2.2.2.2.2.2.2.2.2.2.1 (g := (mkF m 163 #[.val (.int p1)] [])) rfl (hb hby d1_163)
                                    refine own_step (T' := T35) (g' := (mkF m 166 #[.val (.int p1)] [(.ref (W 15))])) (fun t k => st35 t k) ?_
                                    exact own_fin X35 hx Bd.returns rfl (Or.inr (Or.inr (Or.inr (Or.inr ⟨rfl, rfl, rfl⟩)))) (hb hby d1_166) (BodyLoose.notSynchronized Bd) N0 e35 (congrArg _ (by rw [own_V1, if_neg hc1, if_neg hc3, if_neg hc5, if_neg hc7, if_neg hc9, if_neg hc11, if_neg hc13, if_neg hc15, if_neg hc17, if_neg hc19, if_neg hc21, if_neg hc23, if_neg hc25, if_neg hc27, if_neg hc29, if_neg hc31, if_neg hc33])) (by decide) (by decide)
theorem own_pn1 : plainName "com/example/intreccio/intreccio/model/Binary$Operator" = true := by first | (simp [plainName, overriddenIn]; done) | decide +kernel
theorem d2_0 : decode prog_106_method_7_code 0 = .ok (.aload_n 0, 1) := by decide +kernel
theorem d2_1 : decode prog_106_method_7_code 1 = .ok (.getstatic 25, 3) := by decide +kernel
theorem d2_4 : decode prog_106_method_7_code 4 = .ok (.if_acmp .eq 17, 3) := by decide +kernel
theorem d2_7 : decode prog_106_method_7_code 7 = .ok (.aload_n 0, 1) := by decide +kernel
theorem d2_8 : decode prog_106_method_7_code 8 = .ok (.getstatic 28, 3) := by decide +kernel
theorem d2_11 : decode prog_106_method_7_code 11 = .ok (.if_acmp .eq 10, 3) := by decide +kernel
theorem d2_14 : decode prog_106_method_7_code 14 = .ok (.aload_n 0, 1) := by decide +kernel
theorem d2_15 : decode prog_106_method_7_code 15 = .ok (.getstatic 31, 3) := by decide +kernel
theorem d2_18 : decode prog_106_method_7_code 18 = .ok (.if_acmp .ne 7, 3) := by decide +kernel
theorem d2_21 : decode prog_106_method_7_code 21 = .ok (.iconst 1, 1) := by decide +kernel
theorem d2_22 : decode prog_106_method_7_code 22 = .ok (.goto 4, 3) := by decide +kernel
theorem d2_25 : decode prog_106_method_7_code 25 = .ok (.iconst 0, 1) := by decide +kernel
theorem d2_26 : decode prog_106_method_7_code 26 = .ok (.ireturn, 1) := by decide +kernel
theorem ef2 (m : MethodId) (a : Addr) : entryFrame m #[(.ref a)] 1 = mkF m 0 #[.val (.ref a)] [] := by first | (simp [entryFrame, mkF, argsToLocals, Value.category]; done) | rfl
def V2 (W : Nat → Addr) (a : Addr) : Int32 := (if a = (W 1) then (1 : Int32) else (if a = (W 2) then (1 : Int32) else (if a = (W 3) then (1 : Int32) else (0 : Int32))))
theorem own_V2 (W : Nat → Addr) (a : Addr) : V2 W a = (if a = (W 1) then (1 : Int32) else (if a = (W 2) then (1 : Int32) else (if a = (W 3) then (1 : Int32) else (0 : Int32)))) := rfl
set_option maxRecDepth 65536 in
set_option maxHeartbeats 40000000 in
theorem rm2 (l : Launch) (Z : State) (a0 : Array Value) (hw : ∀ d ∈ tables_1, d.before a0 Z = true) (ws : List Jvm.Cond) (a : Addr) (W : Nat → Addr) (h0 : Heap) (n0 : Nat) (Z0 : n0 ≤ h0.size) (hS : own_Stas Z h0 W) :
    own_Con l Z (⟨"com/example/intreccio/intreccio/model/Binary$Operator", "isBitwise", "()Z"⟩ : MethodName) prog_106_method_7_code 1 (some .boolean) ({ frames := 0, cells := 0, slots := 0, locals := 0 } : Room) #[(.ref a)] h0 n0 (.int (V2 W a)) ws := by
  refine MetFree.of_bodySF (plainFor_of_name own_pn1) hisR ?_
  intro p e s m args below meth c s₁ Bd hml0 hP hK
  obtain ⟨rfl, hZ, hh⟩ := hP
  have hx := Bd.exec
  have hby := Bd.bytes
  have hml : c.maxLocals = 1 := hml0
  have hown : s.vm.findClass "com/example/intreccio/intreccio/model/Binary$Operator" = some m.cls := findClass_of_methodNamed Bd.named
  have X0 : Stand p l e ({ frames := 0, cells := 0, slots := 0, locals := 0 } : Room) s m #[(.ref a)] below meth c s₁ [] 0 0 := Stand.of_body Bd
  have e0 : s₁.heap = h0 := by rw [← hh, Bd.state]; rfl
  have N0 := Fr.nil n0
  refine own_cast (ef2 m a) ?_
  refine own_step (T' := s₁) (g' := (mkF m 1 #[.val (.ref a)] [(.ref a)])) (fun t k => XS.aloadN X0.here hx rfl (hb hby d2_0) rfl rfl k) ?_
  obtain ⟨T1, X1, e1, st1⟩ := getS2 X0 hx hZ hown (host := "") (Or.inl (hw _ (List.mem_of_getElem? (i := 13) rfl))) Via.refl e0 hS.2.1 (g := (mkF m 1 #[.val (.ref a)] [(.ref a)])) rfl (hb hby d2_1)
  refine own_step (T' := T1) (g' := (mkF m 4 #[.val (.ref a)] [(.ref (W 1)), (.ref a)])) (fun t k => st1 t k) ?_
  by_cases hc2 : a = (W 1)
  · refine own_step (T' := T1) (g' := (mkF m 21 #[.val (.ref a)] [])) (fun t k => Jvm.RoadKit.acmp (g := (mkF m 4 #[.val (.ref a)] [(.ref (W 1)), (.ref a)])) X1 hx rfl rfl rfl (pc0 := 4) (pc' := 21) (same := true) rfl (hb hby d2_4) rfl (decide_eq_true (congrArg Value.ref hc2)) (by decide) (by decide) k) ?_
    refine own_step (T' := T1) (g' := (mkF m 22 #[.val (.ref a)] [(.int (1 : Int32))])) (fun t k => XS.iconst X1.here hx rfl (hb hby d2_21) k) ?_
    refine own_step (T' := T1) (g' := (mkF m 26 #[.val (.ref a)] [(.int (1 : Int32))])) (fun t k => XS.goto X1.here hx rfl (pc0 := 22) (pc' := 26) rfl (hb hby d2_22) (by decide) (by decide) k) ?_
    exact own_fin X1 hx Bd.returns rfl (Or.inl ⟨rfl, Or.inr (Or.inl rfl), _, rfl⟩) (hb hby d2_26) (BodyLoose.notSynchronized Bd) N0 e1 (congrArg _ (by rw [own_V2, if_pos hc2])) (by decide) (by decide)
  · refine own_step (T' := T1) (g' := (mkF m 7 #[.val (.ref a)] [])) (fun t k => Jvm.RoadKit.acmp (g := (mkF m 4 #[.val (.ref a)] [(.ref (W 1)), (.ref a)])) X1 hx rfl rfl rfl (pc0 := 4) (pc' := 7) (same := false) rfl (hb hby d2_4) rfl (decide_eq_false (fun q => hc2 (Value.ref.inj q))) (by decide) (by decide) k) ?_
    refine own_step (T' := T1) (g' := (mkF m 8 #[.val (.ref a)] [(.ref a)])) (fun t k => XS.aloadN X1.here hx rfl (hb hby d2_7) rfl rfl k) ?_
    obtain ⟨T3, X3, e3, st3⟩ := getS2 X1 hx hZ hown (host := "") (Or.inl (hw _ (List.mem_of_getElem? (i := 15) rfl))) Via.refl e1 hS.2.2.1 (g := (mkF m 8 #[.val (.ref a)] [(.ref a)])) rfl (hb hby d2_8)
    refine own_step (T' := T3) (g' := (mkF m 11 #[.val (.ref a)] [(.ref (W 2)), (.ref a)])) (fun t k => st3 t k) ?_
    by_cases hc4 : a = (W 2)
    · refine own_step (T' := T3) (g' := (mkF m 21 #[.val (.ref a)] [])) (fun t k => Jvm.RoadKit.acmp (g := (mkF m 11 #[.val (.ref a)] [(.ref (W 2)), (.ref a)])) X3 hx rfl rfl rfl (pc0 := 11) (pc' := 21) (same := true) rfl (hb hby d2_11) rfl (decide_eq_true (congrArg Value.ref hc4)) (by decide) (by decide) k) ?_
      refine own_step (T' := T3) (g' := (mkF m 22 #[.val (.ref a)] [(.int (1 : Int32))])) (fun t k => XS.iconst X3.here hx rfl (hb hby d2_21) k) ?_
      refine own_step (T' := T3) (g' := (mkF m 26 #[.val (.ref a)] [(.int (1 : Int32))])) (fun t k => XS.goto X3.here hx rfl (pc0 := 22) (pc' := 26) rfl (hb hby d2_22) (by decide) (by decide) k) ?_
      exact own_fin X3 hx Bd.returns rfl (Or.inl ⟨rfl, Or.inr (Or.inl rfl), _, rfl⟩) (hb hby d2_26) (BodyLoose.notSynchronized Bd) N0 e3 (congrArg _ (by rw [own_V2, if_neg hc2, if_pos hc4])) (by decide) (by decide)
    · refine own_step (T' := T3) (g' := (mkF m 14 #[.val (.ref a)] [])) (fun t k => Jvm.RoadKit.acmp (g := (mkF m 11 #[.val (.ref a)] [(.ref (W 2)), (.ref a)])) X3 hx rfl rfl rfl (pc0 := 11) (pc' := 14) (same := false) rfl (hb hby d2_11) rfl (decide_eq_false (fun q => hc4 (Value.ref.inj q))) (by decide) (by decide) k) ?_
      refine own_step (T' := T3) (g' := (mkF m 15 #[.val (.ref a)] [(.ref a)])) (fun t k => XS.aloadN X3.here hx rfl (hb hby d2_14) rfl rfl k) ?_
      obtain ⟨T5, X5, e5, st5⟩ := getS2 X3 hx hZ hown (host := "") (Or.inl (hw _ (List.mem_of_getElem? (i := 17) rfl))) Via.refl e3 hS.2.2.2.1 (g := (mkF m 15 #[.val (.ref a)] [(.ref a)])) rfl (hb hby d2_15)
      refine own_step (T' := T5) (g' := (mkF m 18 #[.val (.ref a)] [(.ref (W 3)), (.ref a)])) (fun t k => st5 t k) ?_
      by_cases hc6 : a = (W 3)
      · refine own_step (T' := T5) (g' := (mkF m 21 #[.val (.ref a)] [])) (fun t k => Jvm.RoadKit.acmp (g := (mkF m 18 #[.val (.ref a)] [(.ref (W 3)), (.ref a)])) X5 hx rfl rfl rfl (pc0 := 18) (pc' := 21) (same := true) rfl (hb hby d2_18) rfl (decide_eq_true (congrArg Value.ref hc6)) (by decide) (by decide) k) ?_
        refine own_step (T' := T5) (g' := (mkF m 22 #[.val (.ref a)] [(.int (1 : Int32))])) (fun t k => XS.iconst X5.here hx rfl (hb hby d2_21) k) ?_
        refine own_step (T' := T5) (g' := (mkF m 26 #[.val (.ref a)] [(.int (1 : Int32))])) (fun t k => XS.goto X5.here hx rfl (pc0 := 22) (pc' := 26) rfl (hb hby d2_22) (by decide) (by decide) k) ?_
        exact own_fin X5 hx Bd.returns rfl (Or.inl ⟨rfl, Or.inr (Or.inl rfl), _, rfl⟩) (hb hby d2_26) (BodyLoose.notSynchronized Bd) N0 e5 (congrArg _ (by rw [own_V2, if_neg hc2, if_neg hc4, if_pos hc6])) (by decide) (by decide)
      · refine own_step (T' := T5) (g' := (mkF m 25 #[.val (.ref a)] [])) (fun t k => Jvm.RoadKit.acmp (g := (mkF m 18 #[.val (.ref a)] [(.ref (W 3)), (.ref a)])) X5 hx rfl rfl rfl (pc0 := 18) (pc' := 25) (same := false) rfl (hb hby d2_18) rfl (decide_eq_false (fun q => hc6 (Value.ref.inj q))) (by decide) (by decide) k) ?_
        refine own_step (T' := T5) (g' := (mkF m 26 #[.val (.ref a)] [(.int (0 : Int32))])) (fun t k => XS.iconst X5.here hx rfl (hb hby d2_25) k) ?_
        exact own_fin X5 hx Bd.returns rfl (Or.inl ⟨rfl, Or.inr (Or.inl rfl), _, rfl⟩) (hb hby d2_26) (BodyLoose.notSynchronized Bd) N0 e5 (congrArg _ (by rw [own_V2, if_neg hc2, if_neg hc4, if_neg hc6])) (by decide) (by decide)
theorem own_pd0 : parseMethodDescriptor "(I)Lcom/example/intreccio/intreccio/model/Binary$Operator;" = some ⟨[.int], some (.object "com/example/intreccio/intreccio/model/Binary$Operator")⟩ := by decide +kernel
theorem own_pd1 : parseMethodDescriptor "()Z" = some ⟨[], some .boolean⟩ := by decide +kernel
theorem ef0 (m : MethodId) (p1 : Int32) : entryFrame m #[(.int p1)] maxLocals = mkF m 0 #[.val (.int p1), .unset, .unset, .unset] [] := by first | (simp [entryFrame, mkF, argsToLocals, Value.category, maxLocals]; done) | rfl
def V0 (W : Nat → Addr) (p1 : Int32) : Int32 := (if ((p1 &&& (2147483647 : Int32)) % (18 : Int32)) < (7 : Int32) then (if (V2 W (V1 W ((p1 &&& (2147483647 : Int32)) % (18 : Int32)))) = (0 : Int32) then (1 : Int32) else (0 : Int32)) else (if (9 : Int32) < ((p1 &&& (2147483647 : Int32)) % (18 : Int32)) then (if (V2 W (V1 W ((p1 &&& (2147483647 : Int32)) % (18 : Int32)))) = (0 : Int32) then (1 : Int32) else (0 : Int32)) else (if (V2 W (V1 W ((p1 &&& (2147483647 : Int32)) % (18 : Int32)))) = (1 : Int32) then (1 : Int32) else (0 : Int32))))
theorem own_V0 (W : Nat → Addr) (p1 : Int32) : V0 W p1 = (if ((p1 &&& (2147483647 : Int32)) % (18 : Int32)) < (7 : Int32) then (if (V2 W (V1 W ((p1 &&& (2147483647 : Int32)) % (18 : Int32)))) = (0 : Int32) then (1 : Int32) else (0 : Int32)) else (if (9 : Int32) < ((p1 &&& (2147483647 : Int32)) % (18 : Int32)) then (if (V2 W (V1 W ((p1 &&& (2147483647 : Int32)) % (18 : Int32)))) = (0 : Int32) then (1 : Int32) else (0 : Int32)) else (if (V2 W (V1 W ((p1 &&& (2147483647 : Int32)) % (18 : Int32)))) = (1 : Int32) then (1 : Int32) else (0 : Int32)))) := rfl
set_option maxRecDepth 65536 in
set_option maxHeartbeats 40000000 in
theorem rm0 (l : Launch) (Z : State) (a0 : Array Value) (hw : ∀ d ∈ tables_1, d.before a0 Z = true) (ws : List Jvm.Cond) (p1 : Int32) (W : Nat → Addr) (h0 : Heap) (n0 : Nat) (Z0 : n0 ≤ h0.size) (hS : own_Stas Z h0 W) (E_32_V1Wp12147483647Int3218Int32 : Exa Z h0 (V1 W ((p1 &&& (2147483647 : Int32)) % (18 : Int32))) "com/example/intreccio/intreccio/model/Binary$Operator") :
    own_Con l Z x code maxLocals ret room_1 #[(.int p1)] h0 n0 (.int (V0 W p1)) ws := by
  refine MetFree.of_bodySF (plainFor_of_name own_pn0) hisR ?_
  intro p e s m args below meth c s₁ Bd hml0 hP hK
  obtain ⟨rfl, hZ, hh⟩ := hP
  have hx := Bd.exec
  have hby := Bd.bytes
  have hml : c.maxLocals = 4 := hml0
  have hown : s.vm.findClass "com/example/intreccio/intreccio/model/BinaryIsBitwisePinLaw" = some m.cls := findClass_of_methodNamed Bd.named
  have X0 : Stand p l e room_1 s m #[(.int p1)] below meth c s₁ [] 0 0 := Stand.of_body Bd
  have e0 : s₁.heap = h0 := by rw [← hh, Bd.state]; rfl
  have N0 := Fr.nil n0
  refine own_cast (ef0 m p1) ?_
  refine own_step (T' := s₁) (g' := (mkF m 1 #[.val (.int p1), .unset, .unset, .unset] [(.int p1)])) (fun t k => XS.iloadN X0.here hx rfl (hb hby at_0) rfl k) ?_
  refine own_step (T' := s₁) (g' := (mkF m 3 #[.val (.int p1), .unset, .unset, .unset] [(.int (2147483647 : Int32)), (.int p1)])) (fun t k => X0.ldcInt hx hown (mvT hZ (hw _ (List.mem_of_getElem? (i := 0) rfl))) (g := (mkF m 1 #[.val (.int p1), .unset, .unset, .unset] [(.int p1)])) rfl (hb hby at_1) t k) ?_
  refine own_step (T' := s₁) (g' := (mkF m 4 #[.val (.int p1), .unset, .unset, .unset] [(.int (p1 &&& (2147483647 : Int32)))])) (fun t k => XS.iand X0.here hx rfl (hb hby at_3) rfl k) ?_
  refine own_step (T' := s₁) (g' := (mkF m 6 #[.val (.int p1), .unset, .unset, .unset] [(.int (18 : Int32)), (.int (p1 &&& (2147483647 : Int32)))])) (fun t k => XS.bipush X0.here hx rfl (hb hby at_4) k) ?_
  refine own_step (T' := s₁) (g' := (mkF m 7 #[.val (.int p1), .unset, .unset, .unset] [(.int ((p1 &&& (2147483647 : Int32)) % (18 : Int32)))])) (fun t k => iremM X0 hx rfl (hb hby at_6) rfl (by decide) k) ?_
  refine own_step (T' := s₁) (g' := (mkF m 8 #[.val (.int p1), .val (.int ((p1 &&& (2147483647 : Int32)) % (18 : Int32))), .unset, .unset] [])) (fun t k => XS.istoreN X0.here hx rfl (hb hby at_7) rfl (l' := #[.val (.int p1), .val (.int ((p1 &&& (2147483647 : Int32)) % (18 : Int32))), .unset, .unset]) rfl k) ?_
  refine own_step (T' := s₁) (g' := (mkF m 9 #[.val (.int p1), .val (.int ((p1 &&& (2147483647 : Int32)) % (18 : Int32))), .unset, .unset] [(.int ((p1 &&& (2147483647 : Int32)) % (18 : Int32)))])) (fun t k => XS.iloadN X0.here hx rfl (hb hby at_8) rfl k) ?_
  obtain ⟨_, _, ⟨T1, L1, k1, n1⟩, -, X1, ⟨Lc1, hQ1, l1, y1, z1⟩, st1⟩ := Jvm.LawKit.callS X0 hx (y := (⟨"com/example/intreccio/intreccio/model/BinaryIsBitwisePinLaw", "pick", "(I)Lcom/example/intreccio/intreccio/model/Binary$Operator;"⟩ : MethodName)) hown (mvT hZ (hw _ (List.mem_of_getElem? (i := 1) rfl))) (mvT hZ (hw _ (List.mem_of_getElem? (i := 2) rfl))) (mvT hZ (hw _ (List.mem_of_getElem? (i := 3) rfl))) (mvT hZ (hw _ (List.mem_of_getElem? (i := 4) rfl))) (by decide) (backOf (W := 0) (rm1 l Z a0 hw [] ((p1 &&& (2147483647 : Int32)) % (18 : Int32)) W h0 n0 Z0 hS) hZ (hw _ (List.mem_of_getElem? (i := 4) rfl)) (hw _ (List.mem_of_getElem? (i := 3) rfl)) (by decide) (by decide)) (g := (mkF m 9 #[.val (.int p1), .val (.int ((p1 &&& (2147483647 : Int32)) % (18 : Int32))), .unset, .unset] [(.int ((p1 &&& (2147483647 : Int32)) % (18 : Int32)))])) rfl (by rw [hml]; rfl) (argsL := [(.int ((p1 &&& (2147483647 : Int32)) % (18 : Int32)))]) (rest := []) (lenOf own_pd0 rfl) rfl (by show 2 * 0 + _ ≤ _; exact Nat.le_of_eq rfl) (hb hby at_9) (fun _ _ => ⟨rfl, e0, (by decide : 0 + 0 ≤ _), (by decide : 0 + 0 ≤ _)⟩)
  dsimp only [Pt.U, Pt.locs, Pt.cells, Pt.slots] at X1 l1 y1 z1 st1 hQ1
  subst l1 y1 z1
  obtain ⟨rfl, N1q, e1⟩ := hQ1
  have N1 := Fr.app N0 N1q
  refine own_step (T' := T1) (g' := (mkF m 12 #[.val (.int p1), .val (.int ((p1 &&& (2147483647 : Int32)) % (18 : Int32))), .unset, .unset] [(.ref (V1 W ((p1 &&& (2147483647 : Int32)) % (18 : Int32))))])) (fun t k => st1 _ k) ?_
  refine own_step (T' := T1) (g' := (mkF m 13 #[.val (.int p1), .val (.int ((p1 &&& (2147483647 : Int32)) % (18 : Int32))), .val (.ref (V1 W ((p1 &&& (2147483647 : Int32)) % (18 : Int32)))), .unset] [])) (fun t k => XS.astoreN X1.here hx rfl (hb hby at_12) rfl rfl (l' := #[.val (.int p1), .val (.int ((p1 &&& (2147483647 : Int32)) % (18 : Int32))), .val (.ref (V1 W ((p1 &&& (2147483647 : Int32)) % (18 : Int32)))), .unset]) rfl k) ?_
  refine own_step (T' := T1) (g' := (mkF m 14 #[.val (.int p1), .val (.int ((p1 &&& (2147483647 : Int32)) % (18 : Int32))), .val (.ref (V1 W ((p1 &&& (2147483647 : Int32)) % (18 : Int32)))), .unset] [(.int ((p1 &&& (2147483647 : Int32)) % (18 : Int32)))])) (fun t k => XS.iloadN X1.here hx rfl (hb hby at_13) rfl k) ?_
  refine own_step (T' := T1) (g' := (mkF m 16 #[.val (.int p1), .val (.int ((p1 &&& (2147483647 : Int32)) % (18 : Int32))), .val (.ref (V1 W ((p1 &&& (2147483647 : Int32)) % (18 : Int32)))), .unset] [(.int (7 : Int32)), (.int ((p1 &&& (2147483647 : Int32)) % (18 : Int32)))])) (fun t k => XS.bipush X1.here hx rfl (hb hby at_14) k) ?_
  by_cases hc2 : ((p1 &&& (2147483647 : Int32)) % (18 : Int32)) < (7 : Int32)
  · refine own_step (T' := T1) (g' := (mkF m 29 #[.val (.int p1), .val (.int ((p1 &&& (2147483647 : Int32)) % (18 : Int32))), .val (.ref (V1 W ((p1 &&& (2147483647 : Int32)) % (18 : Int32)))), .unset] [])) (fun t k => XS.icmpYes X1.here hx rfl (pc0 := 16) (pc' := 29) rfl (hb hby at_16) rfl (tlt hc2).1 (by decide) (by decide) k) ?_
    refine own_step (T' := T1) (g' := (mkF m 30 #[.val (.int p1), .val (.int ((p1 &&& (2147483647 : Int32)) % (18 : Int32))), .val (.ref (V1 W ((p1 &&& (2147483647 : Int32)) % (18 : Int32)))), .unset] [(.int (0 : Int32))])) (fun t k => XS.iconst X1.here hx rfl (hb hby at_29) k) ?_
    refine own_step (T' := T1) (g' := (mkF m 31 #[.val (.int p1), .val (.int ((p1 &&& (2147483647 : Int32)) % (18 : Int32))), .val (.ref (V1 W ((p1 &&& (2147483647 : Int32)) % (18 : Int32)))), .val (.int (0 : Int32))] [])) (fun t k => XS.istoreN X1.here hx rfl (hb hby at_30) rfl (l' := #[.val (.int p1), .val (.int ((p1 &&& (2147483647 : Int32)) % (18 : Int32))), .val (.ref (V1 W ((p1 &&& (2147483647 : Int32)) % (18 : Int32)))), .val (.int (0 : Int32))]) rfl k) ?_
    refine own_step (T' := T1) (g' := (mkF m 32 #[.val (.int p1), .val (.int ((p1 &&& (2147483647 : Int32)) % (18 : Int32))), .val (.ref (V1 W ((p1 &&& (2147483647 : Int32)) % (18 : Int32)))), .val (.int (0 : Int32))] [(.ref (V1 W ((p1 &&& (2147483647 : Int32)) % (18 : Int32))))])) (fun t k => XS.aloadN X1.here hx rfl (hb hby at_31) rfl rfl k) ?_
    obtain ⟨cq3, kq3, q3a, q3b, q3c⟩ := isOf hZ e1 E_32_V1Wp12147483647Int3218Int32
    obtain ⟨_, _, ⟨T3, L3, k3, n3⟩, -, X3, ⟨Lc3, hQ3, l3, y3, z3⟩, st3⟩ := X1.virtualBack hx (y := (⟨"com/example/intreccio/intreccio/model/Binary$Operator", "isBitwise", "()Z"⟩ : MethodName)) (z := (⟨"com/example/intreccio/intreccio/model/Binary$Operator", "isBitwise", "()Z"⟩ : MethodName)) hown (mvT hZ (hw _ (List.mem_of_getElem? (i := 8) rfl))) (mvT hZ (hw _ (List.mem_of_getElem? (i := 9) rfl))) (notFace_of_selects (args := #[]) (mvT hZ (hw _ (List.mem_of_getElem? (i := 11) rfl)))) (mvT hZ (hw _ (List.mem_of_getElem? (i := 11) rfl))) (mvT hZ (hw _ (List.mem_of_getElem? (i := 10) rfl))) (by decide) (backOf (W := 0) (rm2 l Z a0 hw [] (V1 W ((p1 &&& (2147483647 : Int32)) % (18 : Int32))) W h0 n0 Z0 hS) hZ (hw _ (List.mem_of_getElem? (i := 12) rfl)) (hw _ (List.mem_of_getElem? (i := 6) rfl)) (by decide) (by decide)) q3a q3c (g := (mkF m 32 #[.val (.int p1), .val (.int ((p1 &&& (2147483647 : Int32)) % (18 : Int32))), .val (.ref (V1 W ((p1 &&& (2147483647 : Int32)) % (18 : Int32)))), .val (.int (0 : Int32))] [(.ref (V1 W ((p1 &&& (2147483647 : Int32)) % (18 : Int32))))])) rfl (by rw [hml]; rfl) (Steps.refl _) (argsL := []) (rest := []) (lenOf own_pd1 rfl) rfl (by show 2 * 0 + _ ≤ _; exact Nat.le_of_eq rfl) (hb hby at_32) (fun _ _ => ⟨rfl, e1, (by decide : 0 + 0 ≤ _), (by decide : 0 + 0 ≤ _)⟩)
    dsimp only [Pt.U, Pt.locs, Pt.cells, Pt.slots] at X3 l3 y3 z3 st3 hQ3
    subst l3 y3 z3
    obtain ⟨rfl, N3q, e3⟩ := hQ3
    have N3 := Fr.app N1 N3q
    refine own_step (T' := T3) (g' := (mkF m 35 #[.val (.int p1), .val (.int ((p1 &&& (2147483647 : Int32)) % (18 : Int32))), .val (.ref (V1 W ((p1 &&& (2147483647 : Int32)) % (18 : Int32)))), .val (.int (0 : Int32))] [(.int (V2 W (V1 W ((p1 &&& (2147483647 : Int32)) % (18 : Int32)))))])) (fun t k => st3.trans k) ?_
    refine own_step (T' := T3) (g' := (mkF m 36 #[.val (.int p1), .val (.int ((p1 &&& (2147483647 : Int32)) % (18 : Int32))), .val (.ref (V1 W ((p1 &&& (2147483647 : Int32)) % (18 : Int32)))), .val (.int (0 : Int32))] [(.int (0 : Int32)), (.int (V2 W (V1 W ((p1 &&& (2147483647 : Int32)) % (18 : Int32)))))])) (fun t k => XS.iloadN X3.here hx rfl (hb hby at_35) rfl k) ?_
    by_cases hc4 : (V2 W (V1 W ((p1 &&& (2147483647 : Int32)) % (18 : Int32)))) = (0 : Int32)
    · refine own_step (T' := T3) (g' := (mkF m 39 #[.val (.int p1), .val (.int ((p1 &&& (2147483647 : Int32)) % (18 : Int32))), .val (.ref (V1 W ((p1 &&& (2147483647 : Int32)) % (18 : Int32)))), .val (.int (0 : Int32))] [])) (fun t k => XS.icmpNo X3.here hx rfl (hb hby at_36) rfl (teq hc4).2 k) ?_
      refine own_step (T' := T3) (g' := (mkF m 40 #[.val (.int p1), .val (.int ((p1 &&& (2147483647 : Int32)) % (18 : Int32))), .val (.ref (V1 W ((p1 &&& (2147483647 : Int32)) % (18 : Int32)))), .val (.int (0 : Int32))] [(.int (1 : Int32))])) (fun t k => XS.iconst X3.here hx rfl (hb hby at_39) k) ?_
      refine own_step (T' := T3) (g' := (mkF m 44 #[.val (.int p1), .val (.int ((p1 &&& (2147483647 : Int32)) % (18 : Int32))), .val (.ref (V1 W ((p1 &&& (2147483647 : Int32)) % (18 : Int32)))), .val (.int (0 : Int32))] [(.int (1 : Int32))])) (fun t k => XS.goto X3.here hx rfl (pc0 := 40) (pc' := 44) rfl (hb hby at_40) (by decide) (by decide) k) ?_
      exact own_fin X3 hx Bd.returns rfl (Or.inl ⟨rfl, Or.inr (Or.inl rfl), _, rfl⟩) (hb hby at_44) (BodyLoose.notSynchronized Bd) N3 e3 (congrArg _ (by rw [own_V0, if_pos hc2, if_pos hc4])) (by decide) (by decide)
    · refine own_step (T' := T3) (g' := (mkF m 43 #[.val (.int p1), .val (.int ((p1 &&& (2147483647 : Int32)) % (18 : Int32))), .val (.ref (V1 W ((p1 &&& (2147483647 : Int32)) % (18 : Int32)))), .val (.int (0 : Int32))] [])) (fun t k => XS.icmpYes X3.here hx rfl (pc0 := 36) (pc' := 43) rfl (hb hby at_36) rfl (feq hc4).2 (by decide) (by decide) k) ?_
      refine own_step (T' := T3) (g' := (mkF m 44 #[.val (.int p1), .val (.int ((p1 &&& (2147483647 : Int32)) % (18 : Int32))), .val (.ref (V1 W ((p1 &&& (2147483647 : Int32)) % (18 : Int32)))), .val (.int (0 : Int32))] [(.int (0 : Int32))])) (fun t k => XS.iconst X3.here hx rfl (hb hby at_43) k) ?_
      exact own_fin X3 hx Bd.returns rfl (Or.inl ⟨rfl, Or.inr (Or.inl rfl), _, rfl⟩) (hb hby at_44) (BodyLoose.notSynchronized Bd) N3 e3 (congrArg _ (by rw [own_V0, if_pos hc2, if_neg hc4])) (by decide) (by decide)
  · refine own_step (T' := T1) (g' := (mkF m 19 #[.val (.int p1), .val (.int ((p1 &&& (2147483647 : Int32)) % (18 : Int32))), .val (.ref (V1 W ((p1 &&& (2147483647 : Int32)) % (18 : Int32)))), .unset] [])) (fun t k => XS.icmpNo X1.here hx rfl (hb hby at_16) rfl (flt hc2).1 k) ?_
    refine own_step (T' := T1) (g' := (mkF m 20 #[.val (.int p1), .val (.int ((p1 &&& (2147483647 : Int32)) % (18 : Int32))), .val (.ref (V1 W ((p1 &&& (2147483647 : Int32)) % (18 : Int32)))), .unset] [(.int ((p1 &&& (2147483647 : Int32)) % (18 : Int32)))])) (fun t k => XS.iloadN X1.here hx rfl (hb hby at_19) rfl k) ?_
    refine own_step (T' := T1) (g' := (mkF m 22 #[.val (.int p1), .val (.int ((p1 &&& (2147483647 : Int32)) % (18 : Int32))), .val (.ref (V1 W ((p1 &&& (2147483647 : Int32)) % (18 : Int32)))), .unset] [(.int (9 : Int32)), (.int ((p1 &&& (2147483647 : Int32)) % (18 : Int32)))])) (fun t k => XS.bipush X1.here hx rfl (hb hby at_20) k) ?_
    by_cases hc5 : (9 : Int32) < ((p1 &&& (2147483647 : Int32)) % (18 : Int32))
    · refine own_step (T' := T1) (g' := (mkF m 29 #[.val (.int p1), .val (.int ((p1 &&& (2147483647 : Int32)) % (18 : Int32))), .val (.ref (V1 W ((p1 &&& (2147483647 : Int32)) % (18 : Int32)))), .unset] [])) (fun t k => XS.icmpYes X1.here hx rfl (pc0 := 22) (pc' := 29) rfl (hb hby at_22) rfl (tlt hc5).2.2.1 (by decide) (by decide) k) ?_
      refine own_step (T' := T1) (g' := (mkF m 30 #[.val (.int p1), .val (.int ((p1 &&& (2147483647 : Int32)) % (18 : Int32))), .val (.ref (V1 W ((p1 &&& (2147483647 : Int32)) % (18 : Int32)))), .unset] [(.int (0 : Int32))])) (fun t k => XS.iconst X1.here hx rfl (hb hby at_29) k) ?_
      refine own_step (T' := T1) (g' := (mkF m 31 #[.val (.int p1), .val (.int ((p1 &&& (2147483647 : Int32)) % (18 : Int32))), .val (.ref (V1 W ((p1 &&& (2147483647 : Int32)) % (18 : Int32)))), .val (.int (0 : Int32))] [])) (fun t k => XS.istoreN X1.here hx rfl (hb hby at_30) rfl (l' := #[.val (.int p1), .val (.int ((p1 &&& (2147483647 : Int32)) % (18 : Int32))), .val (.ref (V1 W ((p1 &&& (2147483647 : Int32)) % (18 : Int32)))), .val (.int (0 : Int32))]) rfl k) ?_
      refine own_step (T' := T1) (g' := (mkF m 32 #[.val (.int p1), .val (.int ((p1 &&& (2147483647 : Int32)) % (18 : Int32))), .val (.ref (V1 W ((p1 &&& (2147483647 : Int32)) % (18 : Int32)))), .val (.int (0 : Int32))] [(.ref (V1 W ((p1 &&& (2147483647 : Int32)) % (18 : Int32))))])) (fun t k => XS.aloadN X1.here hx rfl (hb hby at_31) rfl rfl k) ?_
      obtain ⟨cq6, kq6, q6a, q6b, q6c⟩ := isOf hZ e1 E_32_V1Wp12147483647Int3218Int32
      obtain ⟨_, _, ⟨T6, L6, k6, n6⟩, -, X6, ⟨Lc6, hQ6, l6, y6, z6⟩, st6⟩ := X1.virtualBack hx (y := (⟨"com/example/intreccio/intreccio/model/Binary$Operator", "isBitwise", "()Z"⟩ : MethodName)) (z := (⟨"com/example/intreccio/intreccio/model/Binary$Operator", "isBitwise", "()Z"⟩ : MethodName)) hown (mvT hZ (hw _ (List.mem_of_getElem? (i := 8) rfl))) (mvT hZ (hw _ (List.mem_of_getElem? (i := 9) rfl))) (notFace_of_selects (args := #[]) (mvT hZ (hw _ (List.mem_of_getElem? (i := 11) rfl)))) (mvT hZ (hw _ (List.mem_of_getElem? (i := 11) rfl))) (mvT hZ (hw _ (List.mem_of_getElem? (i := 10) rfl))) (by decide) (backOf (W := 0) (rm2 l Z a0 hw [] (V1 W ((p1 &&& (2147483647 : Int32)) % (18 : Int32))) W h0 n0 Z0 hS) hZ (hw _ (List.mem_of_getElem? (i := 12) rfl)) (hw _ (List.mem_of_getElem? (i := 6) rfl)) (by decide) (by decide)) q6a q6c (g := (mkF m 32 #[.val (.int p1), .val (.int ((p1 &&& (2147483647 : Int32)) % (18 : Int32))), .val (.ref (V1 W ((p1 &&& (2147483647 : Int32)) % (18 : Int32)))), .val (.int (0 : Int32))] [(.ref (V1 W ((p1 &&& (2147483647 : Int32)) % (18 : Int32))))])) rfl (by rw [hml]; rfl) (Steps.refl _) (argsL := []) (rest := []) (lenOf own_pd1 rfl) rfl (by show 2 * 0 + _ ≤ _; exact Nat.le_of_eq rfl) (hb hby at_32) (fun _ _ => ⟨rfl, e1, (by decide : 0 + 0 ≤ _), (by decide : 0 + 0 ≤ _)⟩)
      dsimp only [Pt.U, Pt.locs, Pt.cells, Pt.slots] at X6 l6 y6 z6 st6 hQ6
      subst l6 y6 z6
      obtain ⟨rfl, N6q, e6⟩ := hQ6
      have N6 := Fr.app N1 N6q
      refine own_step (T' := T6) (g' := (mkF m 35 #[.val (.int p1), .val (.int ((p1 &&& (2147483647 : Int32)) % (18 : Int32))), .val (.ref (V1 W ((p1 &&& (2147483647 : Int32)) % (18 : Int32)))), .val (.int (0 : Int32))] [(.int (V2 W (V1 W ((p1 &&& (2147483647 : Int32)) % (18 : Int32)))))])) (fun t k => st6.trans k) ?_
      refine own_step (T' := T6) (g' := (mkF m 36 #[.val (.int p1), .val (.int ((p1 &&& (2147483647 : Int32)) % (18 : Int32))), .val (.ref (V1 W ((p1 &&& (2147483647 : Int32)) % (18 : Int32)))), .val (.int (0 : Int32))] [(.int (0 : Int32)), (.int (V2 W (V1 W ((p1 &&& (2147483647 : Int32)) % (18 : Int32)))))])) (fun t k => XS.iloadN X6.here hx rfl (hb hby at_35) rfl k) ?_
      by_cases hc7 : (V2 W (V1 W ((p1 &&& (2147483647 : Int32)) % (18 : Int32)))) = (0 : Int32)
      · refine own_step (T' := T6) (g' := (mkF m 39 #[.val (.int p1), .val (.int ((p1 &&& (2147483647 : Int32)) % (18 : Int32))), .val (.ref (V1 W ((p1 &&& (2147483647 : Int32)) % (18 : Int32)))), .val (.int (0 : Int32))] [])) (fun t k => XS.icmpNo X6.here hx rfl (hb hby at_36) rfl (teq hc7).2 k) ?_
        refine own_step (T' := T6) (g' := (mkF m 40 #[.val (.int p1), .val (.int ((p1 &&& (2147483647 : Int32)) % (18 : Int32))), .val (.ref (V1 W ((p1 &&& (2147483647 : Int32)) % (18 : Int32)))), .val (.int (0 : Int32))] [(.int (1 : Int32))])) (fun t k => XS.iconst X6.here hx rfl (hb hby at_39) k) ?_
        refine own_step (T' := T6) (g' := (mkF m 44 #[.val (.int p1), .val (.int ((p1 &&& (2147483647 : Int32)) % (18 : Int32))), .val (.ref (V1 W ((p1 &&& (2147483647 : Int32)) % (18 : Int32)))), .val (.int (0 : Int32))] [(.int (1 : Int32))])) (fun t k => XS.goto X6.here hx rfl (pc0 := 40) (pc' := 44) rfl (hb hby at_40) (by decide) (by decide) k) ?_
        exact own_fin X6 hx Bd.returns rfl (Or.inl ⟨rfl, Or.inr (Or.inl rfl), _, rfl⟩) (hb hby at_44) (BodyLoose.notSynchronized Bd) N6 e6 (congrArg _ (by rw [own_V0, if_neg hc2, if_pos hc5, if_pos hc7])) (by decide) (by decide)
      · refine own_step (T' := T6) (g' := (mkF m 43 #[.val (.int p1), .val (.int ((p1 &&& (2147483647 : Int32)) % (18 : Int32))), .val (.ref (V1 W ((p1 &&& (2147483647 : Int32)) % (18 : Int32)))), .val (.int (0 : Int32))] [])) (fun t k => XS.icmpYes X6.here hx rfl (pc0 := 36) (pc' := 43) rfl (hb hby at_36) rfl (feq hc7).2 (by decide) (by decide) k) ?_
        refine own_step (T' := T6) (g' := (mkF m 44 #[.val (.int p1), .val (.int ((p1 &&& (2147483647 : Int32)) % (18 : Int32))), .val (.ref (V1 W ((p1 &&& (2147483647 : Int32)) % (18 : Int32)))), .val (.int (0 : Int32))] [(.int (0 : Int32))])) (fun t k => XS.iconst X6.here hx rfl (hb hby at_43) k) ?_
        exact own_fin X6 hx Bd.returns rfl (Or.inl ⟨rfl, Or.inr (Or.inl rfl), _, rfl⟩) (hb hby at_44) (BodyLoose.notSynchronized Bd) N6 e6 (congrArg _ (by rw [own_V0, if_neg hc2, if_pos hc5, if_neg hc7])) (by decide) (by decide)
    · refine own_step (T' := T1) (g' := (mkF m 25 #[.val (.int p1), .val (.int ((p1 &&& (2147483647 : Int32)) % (18 : Int32))), .val (.ref (V1 W ((p1 &&& (2147483647 : Int32)) % (18 : Int32)))), .unset] [])) (fun t k => XS.icmpNo X1.here hx rfl (hb hby at_22) rfl (flt hc5).2.2.1 k) ?_
      refine own_step (T' := T1) (g' := (mkF m 26 #[.val (.int p1), .val (.int ((p1 &&& (2147483647 : Int32)) % (18 : Int32))), .val (.ref (V1 W ((p1 &&& (2147483647 : Int32)) % (18 : Int32)))), .unset] [(.int (1 : Int32))])) (fun t k => XS.iconst X1.here hx rfl (hb hby at_25) k) ?_
      refine own_step (T' := T1) (g' := (mkF m 30 #[.val (.int p1), .val (.int ((p1 &&& (2147483647 : Int32)) % (18 : Int32))), .val (.ref (V1 W ((p1 &&& (2147483647 : Int32)) % (18 : Int32)))), .unset] [(.int (1 : Int32))])) (fun t k => XS.goto X1.here hx rfl (pc0 := 26) (pc' := 30) rfl (hb hby at_26) (by decide) (by decide) k) ?_
      refine own_step (T' := T1) (g' := (mkF m 31 #[.val (.int p1), .val (.int ((p1 &&& (2147483647 : Int32)) % (18 : Int32))), .val (.ref (V1 W ((p1 &&& (2147483647 : Int32)) % (18 : Int32)))), .val (.int (1 : Int32))] [])) (fun t k => XS.istoreN X1.here hx rfl (hb hby at_30) rfl (l' := #[.val (.int p1), .val (.int ((p1 &&& (2147483647 : Int32)) % (18 : Int32))), .val (.ref (V1 W ((p1 &&& (2147483647 : Int32)) % (18 : Int32)))), .val (.int (1 : Int32))]) rfl k) ?_
      refine own_step (T' := T1) (g' := (mkF m 32 #[.val (.int p1), .val (.int ((p1 &&& (2147483647 : Int32)) % (18 : Int32))), .val (.ref (V1 W ((p1 &&& (2147483647 : Int32)) % (18 : Int32)))), .val (.int (1 : Int32))] [(.ref (V1 W ((p1 &&& (2147483647 : Int32)) % (18 : Int32))))])) (fun t k => XS.aloadN X1.here hx rfl (hb hby at_31) rfl rfl k) ?_
      obtain ⟨cq8, kq8, q8a, q8b, q8c⟩ := isOf hZ e1 E_32_V1Wp12147483647Int3218Int32
      obtain ⟨_, _, ⟨T8, L8, k8, n8⟩, -, X8, ⟨Lc8, hQ8, l8, y8, z8⟩, st8⟩ := X1.virtualBack hx (y := (⟨"com/example/intreccio/intreccio/model/Binary$Operator", "isBitwise", "()Z"⟩ : MethodName)) (z := (⟨"com/example/intreccio/intreccio/model/Binary$Operator", "isBitwise", "()Z"⟩ : MethodName)) hown (mvT hZ (hw _ (List.mem_of_getElem? (i := 8) rfl))) (mvT hZ (hw _ (List.mem_of_getElem? (i := 9) rfl))) (notFace_of_selects (args := #[]) (mvT hZ (hw _ (List.mem_of_getElem? (i := 11) rfl)))) (mvT hZ (hw _ (List.mem_of_getElem? (i := 11) rfl))) (mvT hZ (hw _ (List.mem_of_getElem? (i := 10) rfl))) (by decide) (backOf (W := 0) (rm2 l Z a0 hw [] (V1 W ((p1 &&& (2147483647 : Int32)) % (18 : Int32))) W h0 n0 Z0 hS) hZ (hw _ (List.mem_of_getElem? (i := 12) rfl)) (hw _ (List.mem_of_getElem? (i := 6) rfl)) (by decide) (by decide)) q8a q8c (g := (mkF m 32 #[.val (.int p1), .val (.int ((p1 &&& (2147483647 : Int32)) % (18 : Int32))), .val (.ref (V1 W ((p1 &&& (2147483647 : Int32)) % (18 : Int32)))), .val (.int (1 : Int32))] [(.ref (V1 W ((p1 &&& (2147483647 : Int32)) % (18 : Int32))))])) rfl (by rw [hml]; rfl) (Steps.refl _) (argsL := []) (rest := []) (lenOf own_pd1 rfl) rfl (by show 2 * 0 + _ ≤ _; exact Nat.le_of_eq rfl) (hb hby at_32) (fun _ _ => ⟨rfl, e1, (by decide : 0 + 0 ≤ _), (by decide : 0 + 0 ≤ _)⟩)
      dsimp only [Pt.U, Pt.locs, Pt.cells, Pt.slots] at X8 l8 y8 z8 st8 hQ8
      subst l8 y8 z8
      obtain ⟨rfl, N8q, e8⟩ := hQ8
      have N8 := Fr.app N1 N8q
      refine own_step (T' := T8) (g' := (mkF m 35 #[.val (.int p1), .val (.int ((p1 &&& (2147483647 : Int32)) % (18 : Int32))), .val (.ref (V1 W ((p1 &&& (2147483647 : Int32)) % (18 : Int32)))), .val (.int (1 : Int32))] [(.int (V2 W (V1 W ((p1 &&& (2147483647 : Int32)) % (18 : Int32)))))])) (fun t k => st8.trans k) ?_
      refine own_step (T' := T8) (g' := (mkF m 36 #[.val (.int p1), .val (.int ((p1 &&& (2147483647 : Int32)) % (18 : Int32))), .val (.ref (V1 W ((p1 &&& (2147483647 : Int32)) % (18 : Int32)))), .val (.int (1 : Int32))] [(.int (1 : Int32)), (.int (V2 W (V1 W ((p1 &&& (2147483647 : Int32)) % (18 : Int32)))))])) (fun t k => XS.iloadN X8.here hx rfl (hb hby at_35) rfl k) ?_
      by_cases hc9 : (V2 W (V1 W ((p1 &&& (2147483647 : Int32)) % (18 : Int32)))) = (1 : Int32)
      · refine own_step (T' := T8) (g' := (mkF m 39 #[.val (.int p1), .val (.int ((p1 &&& (2147483647 : Int32)) % (18 : Int32))), .val (.ref (V1 W ((p1 &&& (2147483647 : Int32)) % (18 : Int32)))), .val (.int (1 : Int32))] [])) (fun t k => XS.icmpNo X8.here hx rfl (hb hby at_36) rfl (teq hc9).2 k) ?_
        refine own_step (T' := T8) (g' := (mkF m 40 #[.val (.int p1), .val (.int ((p1 &&& (2147483647 : Int32)) % (18 : Int32))), .val (.ref (V1 W ((p1 &&& (2147483647 : Int32)) % (18 : Int32)))), .val (.int (1 : Int32))] [(.int (1 : Int32))])) (fun t k => XS.iconst X8.here hx rfl (hb hby at_39) k) ?_
        refine own_step (T' := T8) (g' := (mkF m 44 #[.val (.int p1), .val (.int ((p1 &&& (2147483647 : Int32)) % (18 : Int32))), .val (.ref (V1 W ((p1 &&& (2147483647 : Int32)) % (18 : Int32)))), .val (.int (1 : Int32))] [(.int (1 : Int32))])) (fun t k => XS.goto X8.here hx rfl (pc0 := 40) (pc' := 44) rfl (hb hby at_40) (by decide) (by decide) k) ?_
        exact own_fin X8 hx Bd.returns rfl (Or.inl ⟨rfl, Or.inr (Or.inl rfl), _, rfl⟩) (hb hby at_44) (BodyLoose.notSynchronized Bd) N8 e8 (congrArg _ (by rw [own_V0, if_neg hc2, if_neg hc5, if_pos hc9])) (by decide) (by decide)
      · refine own_step (T' := T8) (g' := (mkF m 43 #[.val (.int p1), .val (.int ((p1 &&& (2147483647 : Int32)) % (18 : Int32))), .val (.ref (V1 W ((p1 &&& (2147483647 : Int32)) % (18 : Int32)))), .val (.int (1 : Int32))] [])) (fun t k => XS.icmpYes X8.here hx rfl (pc0 := 36) (pc' := 43) rfl (hb hby at_36) rfl (feq hc9).2 (by decide) (by decide) k) ?_
        refine own_step (T' := T8) (g' := (mkF m 44 #[.val (.int p1), .val (.int ((p1 &&& (2147483647 : Int32)) % (18 : Int32))), .val (.ref (V1 W ((p1 &&& (2147483647 : Int32)) % (18 : Int32)))), .val (.int (1 : Int32))] [(.int (0 : Int32))])) (fun t k => XS.iconst X8.here hx rfl (hb hby at_43) k) ?_
        exact own_fin X8 hx Bd.returns rfl (Or.inl ⟨rfl, Or.inr (Or.inl rfl), _, rfl⟩) (hb hby at_44) (BodyLoose.notSynchronized Bd) N8 e8 (congrArg _ (by rw [own_V0, if_neg hc2, if_neg hc5, if_neg hc9])) (by decide) (by decide)
/-! 3. the plain law -/
theorem own_mod (p d : Int32) (n : Nat) (hn : d.toInt = n) (h0 : 0 < n) : ∃ k : Nat, k < n ∧ (p &&& (2147483647 : Int32)) % d = Int32.ofNat k := by
  have e1 : (p &&& (2147483647 : Int32)).toInt = p.toInt % 2 ^ 31 := Jvm.Kit.i32_mask p 2147483647 (k := 31) (by decide) (by decide)
  have h1 : 0 ≤ (p &&& (2147483647 : Int32)).toInt := by omega
  have e2 := Jvm.Kit.i32_rem_nonneg (y := d) h1
  rw [hn] at e2
  have b1 := Int.emod_nonneg (p &&& (2147483647 : Int32)).toInt (show (n : Int) ≠ 0 by omega)
  have b2 := Int.emod_lt_of_pos (p &&& (2147483647 : Int32)).toInt (show (0 : Int) < n by omega)
  have b3 := ((p &&& (2147483647 : Int32)) % d).toInt_lt
  refine ⟨((p &&& (2147483647 : Int32)) % d).toInt.toNat, by omega, ?_⟩
  apply Int32.toInt_inj.mp
  rw [Int32.toInt_ofNat_of_lt (by omega)]
  omega
theorem own_ite {P : Addr → Prop} {c : Prop} [Decidable c] {a b : Addr} (h1 : P a) (h2 : P b) : P (if c then a else b) := by
  by_cases h : c
  · rw [if_pos h]; exact h1
  · rw [if_neg h]; exact h2
theorem own_pickP {P : Addr → Prop} {W : Nat → Addr} (hE : ∀ i, i < 18 → P (W i)) (p : Int32) : P (V1 W p) := by
  unfold V1
  iterate 17 refine own_ite (P := P) (hE _ (by decide)) ?_
  exact hE _ (by decide)
theorem own_law (W : Nat → Addr) (hD : ∀ i j, i < 18 → j < 18 → W i = W j → i = j) (p : Int32) : V0 W p = 1 := by
  have hW : ∀ i j, i < 18 → j < 18 → (W i = W j ↔ i = j) := fun i j hi hj => ⟨hD i j hi hj, fun h => h ▸ rfl⟩
  unfold V0
  obtain ⟨k, hk, e⟩ := own_mod p 18 18 (by decide) (by decide)
  rw [e]
  match k, hk with
  | 0, _ => simp +decide [V1, V2, hW]
  | 1, _ => simp +decide [V1, V2, hW]
  | 2, _ => simp +decide [V1, V2, hW]
  | 3, _ => simp +decide [V1, V2, hW]
  | 4, _ => simp +decide [V1, V2, hW]
  | 5, _ => simp +decide [V1, V2, hW]
  | 6, _ => simp +decide [V1, V2, hW]
  | 7, _ => simp +decide [V1, V2, hW]
  | 8, _ => simp +decide [V1, V2, hW]
  | 9, _ => simp +decide [V1, V2, hW]
  | 10, _ => simp +decide [V1, V2, hW]
  | 11, _ => simp +decide [V1, V2, hW]
  | 12, _ => simp +decide [V1, V2, hW]
  | 13, _ => simp +decide [V1, V2, hW]
  | 14, _ => simp +decide [V1, V2, hW]
  | 15, _ => simp +decide [V1, V2, hW]
  | 16, _ => simp +decide [V1, V2, hW]
  | 17, _ => simp +decide [V1, V2, hW]
  | n + 18, h => exact absurd h (by omega)
def own_ord (i : Nat) : Int32 := ([0, 7, 8, 9, 3, 2, 1, 11, 4, 12, 16, 15, 10, 13, 6, 17, 14, 5] : List Int32).getD i 0
theorem own_ord_inj : ∀ i, i < 18 → ∀ j, j < 18 → own_ord i = own_ord j → i = j := by decide
theorem own_eqi {t : Term} {z : Int32} {args : Array Value} {s : State} (h : (Jvm.Cond.eq t (.int z)).value args s none s [] = some true) : t.eval args s none [] s = some (.int z) := by
  cases ht : t.eval args s none [] s with
  | none => simp [Cond.value, ht] at h
  | some v => cases v <;> simp_all [Cond.value, Term.eval]
set_option maxRecDepth 65536 in
set_option maxHeartbeats 40000000 in
theorem own_open {args : Array Value} {s : State} (hw : ∀ d ∈ tables_1, d.before args s = true) (hn : narrow_1.value args s none s [] = some true) :
    ∃ W : Nat → Addr, own_Stas s s.heap W ∧ (∀ i, i < 18 → Exa s s.heap (W i) "com/example/intreccio/intreccio/model/Binary$Operator") ∧ (∀ i j, i < 18 → j < 18 → W i = W j → i = j) := by
  obtain ⟨c0, hn⟩ := and_e hn
  obtain ⟨c1, hn⟩ := and_e hn
  obtain ⟨c2, hn⟩ := and_e hn
  obtain ⟨c3, hn⟩ := and_e hn
  obtain ⟨c4, hn⟩ := and_e hn
  obtain ⟨c5, hn⟩ := and_e hn
  obtain ⟨c6, hn⟩ := and_e hn
  obtain ⟨c7, hn⟩ := and_e hn
  obtain ⟨c8, hn⟩ := and_e hn
  obtain ⟨c9, hn⟩ := and_e hn
  obtain ⟨c10, hn⟩ := and_e hn
  obtain ⟨c11, hn⟩ := and_e hn
  obtain ⟨c12, hn⟩ := and_e hn
  obtain ⟨c13, hn⟩ := and_e hn
  obtain ⟨c14, hn⟩ := and_e hn
  obtain ⟨c15, hn⟩ := and_e hn
  obtain ⟨c16, hn⟩ := and_e hn
  obtain ⟨c17, hn⟩ := and_e hn
  obtain ⟨c18, hn⟩ := and_e hn
  obtain ⟨c19, hn⟩ := and_e hn
  obtain ⟨c20, hn⟩ := and_e hn
  obtain ⟨c21, hn⟩ := and_e hn
  obtain ⟨c22, hn⟩ := and_e hn
  obtain ⟨c23, hn⟩ := and_e hn
  obtain ⟨c24, hn⟩ := and_e hn
  obtain ⟨c25, hn⟩ := and_e hn
  obtain ⟨c26, hn⟩ := and_e hn
  obtain ⟨c27, hn⟩ := and_e hn
  obtain ⟨c28, hn⟩ := and_e hn
  obtain ⟨c29, hn⟩ := and_e hn
  obtain ⟨c30, hn⟩ := and_e hn
  obtain ⟨c31, hn⟩ := and_e hn
  obtain ⟨c32, hn⟩ := and_e hn
  obtain ⟨c33, hn⟩ := and_e hn
  obtain ⟨c34, hn⟩ := and_e hn
  have c35 := hn
  obtain ⟨b0, ev0⟩ := exa_v c0
  obtain ⟨b1, ev1⟩ := exa_v c1
  obtain ⟨b2, ev2⟩ := exa_v c4
  obtain ⟨b3, ev3⟩ := exa_v c6
  obtain ⟨b4, ev4⟩ := exa_v c8
  obtain ⟨b5, ev5⟩ := exa_v c10
  obtain ⟨b6, ev6⟩ := exa_v c12
  obtain ⟨b7, ev7⟩ := exa_v c14
  obtain ⟨b8, ev8⟩ := exa_v c16
  obtain ⟨b9, ev9⟩ := exa_v c18
  obtain ⟨b10, ev10⟩ := exa_v c20
  obtain ⟨b11, ev11⟩ := exa_v c22
  obtain ⟨b12, ev12⟩ := exa_v c24
  obtain ⟨b13, ev13⟩ := exa_v c26
  obtain ⟨b14, ev14⟩ := exa_v c28
  obtain ⟨b15, ev15⟩ := exa_v c30
  obtain ⟨b16, ev16⟩ := exa_v c32
  obtain ⟨b17, ev17⟩ := exa_v c34
  have E0 : Exa s s.heap b0 "com/example/intreccio/intreccio/model/Binary$Operator" := Exa.start ev0 c0
  have S0 : Sta s s.heap "com/example/intreccio/intreccio/model/Binary$Operator" "ADD" "Lcom/example/intreccio/intreccio/model/Binary$Operator;" (.ref b0) := Sta.start ev0 (Or.inr ⟨(hw _ (List.mem_of_getElem? (i := 6) rfl)), (hw _ (List.mem_of_getElem? (i := 7) rfl))⟩)
  have F0 : Fld s s.heap b0 "java/lang/Enum" "ordinal" "I" (.int (0 : Int32)) := Fld.start ((fld_at ev0).symm.trans (own_eqi c2))
  have E1 : Exa s s.heap b1 "com/example/intreccio/intreccio/model/Binary$Operator" := Exa.start ev1 c1
  have S1 : Sta s s.heap "com/example/intreccio/intreccio/model/Binary$Operator" "BIT_AND" "Lcom/example/intreccio/intreccio/model/Binary$Operator;" (.ref b1) := Sta.start ev1 (Or.inr ⟨(hw _ (List.mem_of_getElem? (i := 6) rfl)), (hw _ (List.mem_of_getElem? (i := 14) rfl))⟩)
  have F1 : Fld s s.heap b1 "java/lang/Enum" "ordinal" "I" (.int (7 : Int32)) := Fld.start ((fld_at ev1).symm.trans (own_eqi c3))
  have E2 : Exa s s.heap b2 "com/example/intreccio/intreccio/model/Binary$Operator" := Exa.start ev2 c4
  have S2 : Sta s s.heap "com/example/intreccio/intreccio/model/Binary$Operator" "BIT_OR" "Lcom/example/intreccio/intreccio/model/Binary$Operator;" (.ref b2) := Sta.start ev2 (Or.inr ⟨(hw _ (List.mem_of_getElem? (i := 6) rfl)), (hw _ (List.mem_of_getElem? (i := 16) rfl))⟩)
  have F2 : Fld s s.heap b2 "java/lang/Enum" "ordinal" "I" (.int (8 : Int32)) := Fld.start ((fld_at ev2).symm.trans (own_eqi c5))
  have E3 : Exa s s.heap b3 "com/example/intreccio/intreccio/model/Binary$Operator" := Exa.start ev3 c6
  have S3 : Sta s s.heap "com/example/intreccio/intreccio/model/Binary$Operator" "BIT_XOR" "Lcom/example/intreccio/intreccio/model/Binary$Operator;" (.ref b3) := Sta.start ev3 (Or.inr ⟨(hw _ (List.mem_of_getElem? (i := 6) rfl)), (hw _ (List.mem_of_getElem? (i := 18) rfl))⟩)
  have F3 : Fld s s.heap b3 "java/lang/Enum" "ordinal" "I" (.int (9 : Int32)) := Fld.start ((fld_at ev3).symm.trans (own_eqi c7))
  have E4 : Exa s s.heap b4 "com/example/intreccio/intreccio/model/Binary$Operator" := Exa.start ev4 c8
  have S4 : Sta s s.heap "com/example/intreccio/intreccio/model/Binary$Operator" "DIVIDE" "Lcom/example/intreccio/intreccio/model/Binary$Operator;" (.ref b4) := Sta.start ev4 (Or.inr ⟨(hw _ (List.mem_of_getElem? (i := 6) rfl)), (hw _ (List.mem_of_getElem? (i := 20) rfl))⟩)
  have F4 : Fld s s.heap b4 "java/lang/Enum" "ordinal" "I" (.int (3 : Int32)) := Fld.start ((fld_at ev4).symm.trans (own_eqi c9))
  have E5 : Exa s s.heap b5 "com/example/intreccio/intreccio/model/Binary$Operator" := Exa.start ev5 c10
  have S5 : Sta s s.heap "com/example/intreccio/intreccio/model/Binary$Operator" "MULTIPLY" "Lcom/example/intreccio/intreccio/model/Binary$Operator;" (.ref b5) := Sta.start ev5 (Or.inr ⟨(hw _ (List.mem_of_getElem? (i := 6) rfl)), (hw _ (List.mem_of_getElem? (i := 22) rfl))⟩)
  have F5 : Fld s s.heap b5 "java/lang/Enum" "ordinal" "I" (.int (2 : Int32)) := Fld.start ((fld_at ev5).symm.trans (own_eqi c11))
  have E6 : Exa s s.heap b6 "com/example/intreccio/intreccio/model/Binary$Operator" := Exa.start ev6 c12
  have S6 : Sta s s.heap "com/example/intreccio/intreccio/model/Binary$Operator" "SUBTRACT" "Lcom/example/intreccio/intreccio/model/Binary$Operator;" (.ref b6) := Sta.start ev6 (Or.inr ⟨(hw _ (List.mem_of_getElem? (i := 6) rfl)), (hw _ (List.mem_of_getElem? (i := 24) rfl))⟩)
  have F6 : Fld s s.heap b6 "java/lang/Enum" "ordinal" "I" (.int (1 : Int32)) := Fld.start ((fld_at ev6).symm.trans (own_eqi c13))
  have E7 : Exa s s.heap b7 "com/example/intreccio/intreccio/model/Binary$Operator" := Exa.start ev7 c14
  have S7 : Sta s s.heap "com/example/intreccio/intreccio/model/Binary$Operator" "LESS_EQUAL" "Lcom/example/intreccio/intreccio/model/Binary$Operator;" (.ref b7) := Sta.start ev7 (Or.inr ⟨(hw _ (List.mem_of_getElem? (i := 6) rfl)), (hw _ (List.mem_of_getElem? (i := 27) rfl))⟩)
  have F7 : Fld s s.heap b7 "java/lang/Enum" "ordinal" "I" (.int (11 : Int32)) := Fld.start ((fld_at ev7).symm.trans (own_eqi c15))
  have E8 : Exa s s.heap b8 "com/example/intreccio/intreccio/model/Binary$Operator" := Exa.start ev8 c16
  have S8 : Sta s s.heap "com/example/intreccio/intreccio/model/Binary$Operator" "REMAINDER" "Lcom/example/intreccio/intreccio/model/Binary$Operator;" (.ref b8) := Sta.start ev8 (Or.inr ⟨(hw _ (List.mem_of_getElem? (i := 6) rfl)), (hw _ (List.mem_of_getElem? (i := 29) rfl))⟩)
  have F8 : Fld s s.heap b8 "java/lang/Enum" "ordinal" "I" (.int (4 : Int32)) := Fld.start ((fld_at ev8).symm.trans (own_eqi c17))
  have E9 : Exa s s.heap b9 "com/example/intreccio/intreccio/model/Binary$Operator" := Exa.start ev9 c18
  have S9 : Sta s s.heap "com/example/intreccio/intreccio/model/Binary$Operator" "GREATER" "Lcom/example/intreccio/intreccio/model/Binary$Operator;" (.ref b9) := Sta.start ev9 (Or.inr ⟨(hw _ (List.mem_of_getElem? (i := 6) rfl)), (hw _ (List.mem_of_getElem? (i := 32) rfl))⟩)
  have F9 : Fld s s.heap b9 "java/lang/Enum" "ordinal" "I" (.int (12 : Int32)) := Fld.start ((fld_at ev9).symm.trans (own_eqi c19))
  have E10 : Exa s s.heap b10 "com/example/intreccio/intreccio/model/Binary$Operator" := Exa.start ev10 c20
  have S10 : Sta s s.heap "com/example/intreccio/intreccio/model/Binary$Operator" "AND" "Lcom/example/intreccio/intreccio/model/Binary$Operator;" (.ref b10) := Sta.start ev10 (Or.inr ⟨(hw _ (List.mem_of_getElem? (i := 6) rfl)), (hw _ (List.mem_of_getElem? (i := 34) rfl))⟩)
  have F10 : Fld s s.heap b10 "java/lang/Enum" "ordinal" "I" (.int (16 : Int32)) := Fld.start ((fld_at ev10).symm.trans (own_eqi c21))
  have E11 : Exa s s.heap b11 "com/example/intreccio/intreccio/model/Binary$Operator" := Exa.start ev11 c22
  have S11 : Sta s s.heap "com/example/intreccio/intreccio/model/Binary$Operator" "NOT_EQUAL" "Lcom/example/intreccio/intreccio/model/Binary$Operator;" (.ref b11) := Sta.start ev11 (Or.inr ⟨(hw _ (List.mem_of_getElem? (i := 6) rfl)), (hw _ (List.mem_of_getElem? (i := 36) rfl))⟩)
  have F11 : Fld s s.heap b11 "java/lang/Enum" "ordinal" "I" (.int (15 : Int32)) := Fld.start ((fld_at ev11).symm.trans (own_eqi c23))
  have E12 : Exa s s.heap b12 "com/example/intreccio/intreccio/model/Binary$Operator" := Exa.start ev12 c24
  have S12 : Sta s s.heap "com/example/intreccio/intreccio/model/Binary$Operator" "LESS" "Lcom/example/intreccio/intreccio/model/Binary$Operator;" (.ref b12) := Sta.start ev12 (Or.inr ⟨(hw _ (List.mem_of_getElem? (i := 6) rfl)), (hw _ (List.mem_of_getElem? (i := 38) rfl))⟩)
  have F12 : Fld s s.heap b12 "java/lang/Enum" "ordinal" "I" (.int (10 : Int32)) := Fld.start ((fld_at ev12).symm.trans (own_eqi c25))
  have E13 : Exa s s.heap b13 "com/example/intreccio/intreccio/model/Binary$Operator" := Exa.start ev13 c26
  have S13 : Sta s s.heap "com/example/intreccio/intreccio/model/Binary$Operator" "GREATER_EQUAL" "Lcom/example/intreccio/intreccio/model/Binary$Operator;" (.ref b13) := Sta.start ev13 (Or.inr ⟨(hw _ (List.mem_of_getElem? (i := 6) rfl)), (hw _ (List.mem_of_getElem? (i := 40) rfl))⟩)
  have F13 : Fld s s.heap b13 "java/lang/Enum" "ordinal" "I" (.int (13 : Int32)) := Fld.start ((fld_at ev13).symm.trans (own_eqi c27))
  have E14 : Exa s s.heap b14 "com/example/intreccio/intreccio/model/Binary$Operator" := Exa.start ev14 c28
  have S14 : Sta s s.heap "com/example/intreccio/intreccio/model/Binary$Operator" "SHIFT_RIGHT" "Lcom/example/intreccio/intreccio/model/Binary$Operator;" (.ref b14) := Sta.start ev14 (Or.inr ⟨(hw _ (List.mem_of_getElem? (i := 6) rfl)), (hw _ (List.mem_of_getElem? (i := 42) rfl))⟩)
  have F14 : Fld s s.heap b14 "java/lang/Enum" "ordinal" "I" (.int (6 : Int32)) := Fld.start ((fld_at ev14).symm.trans (own_eqi c29))
  have E15 : Exa s s.heap b15 "com/example/intreccio/intreccio/model/Binary$Operator" := Exa.start ev15 c30
  have S15 : Sta s s.heap "com/example/intreccio/intreccio/model/Binary$Operator" "OR" "Lcom/example/intreccio/intreccio/model/Binary$Operator;" (.ref b15) := Sta.start ev15 (Or.inr ⟨(hw _ (List.mem_of_getElem? (i := 6) rfl)), (hw _ (List.mem_of_getElem? (i := 44) rfl))⟩)
  have F15 : Fld s s.heap b15 "java/lang/Enum" "ordinal" "I" (.int (17 : Int32)) := Fld.start ((fld_at ev15).symm.trans (own_eqi c31))
  have E16 : Exa s s.heap b16 "com/example/intreccio/intreccio/model/Binary$Operator" := Exa.start ev16 c32
  have S16 : Sta s s.heap "com/example/intreccio/intreccio/model/Binary$Operator" "EQUAL" "Lcom/example/intreccio/intreccio/model/Binary$Operator;" (.ref b16) := Sta.start ev16 (Or.inr ⟨(hw _ (List.mem_of_getElem? (i := 6) rfl)), (hw _ (List.mem_of_getElem? (i := 46) rfl))⟩)
  have F16 : Fld s s.heap b16 "java/lang/Enum" "ordinal" "I" (.int (14 : Int32)) := Fld.start ((fld_at ev16).symm.trans (own_eqi c33))
  have E17 : Exa s s.heap b17 "com/example/intreccio/intreccio/model/Binary$Operator" := Exa.start ev17 c34
  have S17 : Sta s s.heap "com/example/intreccio/intreccio/model/Binary$Operator" "SHIFT_LEFT" "Lcom/example/intreccio/intreccio/model/Binary$Operator;" (.ref b17) := Sta.start ev17 (Or.inr ⟨(hw _ (List.mem_of_getElem? (i := 6) rfl)), (hw _ (List.mem_of_getElem? (i := 48) rfl))⟩)
  have F17 : Fld s s.heap b17 "java/lang/Enum" "ordinal" "I" (.int (5 : Int32)) := Fld.start ((fld_at ev17).symm.trans (own_eqi c35))
  have hO : ∀ i, i < 18 → Fld s s.heap ((fun i => ([b0, b1, b2, b3, b4, b5, b6, b7, b8, b9, b10, b11, b12, b13, b14, b15, b16, b17] : List Addr).getD i 0) i) "java/lang/Enum" "ordinal" "I" (.int (own_ord i)) := by
    intro i hi
    match i, hi with
    | 0, _ => exact F0
    | 1, _ => exact F1
    | 2, _ => exact F2
    | 3, _ => exact F3
    | 4, _ => exact F4
    | 5, _ => exact F5
    | 6, _ => exact F6
    | 7, _ => exact F7
    | 8, _ => exact F8
    | 9, _ => exact F9
    | 10, _ => exact F10
    | 11, _ => exact F11
    | 12, _ => exact F12
    | 13, _ => exact F13
    | 14, _ => exact F14
    | 15, _ => exact F15
    | 16, _ => exact F16
    | 17, _ => exact F17
    | n + 18, h => exact absurd h (by omega)
  refine ⟨(fun i => ([b0, b1, b2, b3, b4, b5, b6, b7, b8, b9, b10, b11, b12, b13, b14, b15, b16, b17] : List Addr).getD i 0), ⟨S0, S1, S2, S3, S4, S5, S6, S7, S8, S9, S10, S11, S12, S13, S14, S15, S16, S17⟩, ?_, fun i j hi hj q => own_ord_inj i hi j hj (Decidable.byContradiction fun ne => (hO i hi).ne (hO j hj) (fun z => ne (Value.int.inj z)) q)⟩
  intro i hi
  match i, hi with
  | 0, _ => exact E0
  | 1, _ => exact E1
  | 2, _ => exact E2
  | 3, _ => exact E3
  | 4, _ => exact E4
  | 5, _ => exact E5
  | 6, _ => exact E6
  | 7, _ => exact E7
  | 8, _ => exact E8
  | 9, _ => exact E9
  | 10, _ => exact E10
  | 11, _ => exact E11
  | 12, _ => exact E12
  | 13, _ => exact E13
  | 14, _ => exact E14
  | 15, _ => exact E15
  | 16, _ => exact E16
  | 17, _ => exact E17
  | n + 18, h => exact absurd h (by omega)
set_option maxRecDepth 65536 in
set_option maxHeartbeats 40000000 in
theorem comes_1 {Post : Tables → Env → Array Value → State → Outcome → State → Prop} (hpost : ∀ tb e args s v u, (limb_1_1.after args s (.returned v) u = true ∧ limb_1_2.after args s (.returned v) u = true ∧ True) → FrameEnd s (.returned v) u (Jvm.fieldLocs frame_1_writes args s ++ Jvm.arrayLocs frame_1_arrays args s ++ Jvm.staticLocs frame_1_statics s) 0 0 → Post tb e args s (.returned v) u) :
    ArmFor flags0 classFile x code maxLocals ret World_1 tables_1 room_1 Calls_1 rest_1 Pre_1 Post := by
  intro l hfl _ _ p e ha hc hk s m args below hf hA hF happ hP
  obtain ⟨hcalls, hrest, hpre⟩ := hP
  obtain ⟨-, -, -, hnamed, -, -, -, hat⟩ := (Spec.applies_iff hf).mp happ
  obtain ⟨hg, hn⟩ := and_e (Cond.before_iff.mp (show (Jvm.Cond.and given_1 narrow_1).before args s = true from hpre))
  obtain ⟨g0, hg⟩ := and_e hg
  have g1 := hg
  obtain ⟨w0, rfl⟩ : ∃ w0 : Value, args = #[w0] := by
    have hs : args.size = 1 := by simpa [Cond.value, given_1] using g0
    obtain ⟨L⟩ := args
    match L, hs with
    | [w0], _ => exact ⟨w0, rfl⟩
  have hw := fun d (hd : d ∈ tables_1) => atoms_spec (ws := Jvm.Cond.code x code maxLocals ret :: tables_1) hat d (List.mem_cons_of_mem _ hd)
  obtain ⟨i0, ei0⟩ := is_v g1
  obtain rfl : w0 = (.int i0) := Option.some.inj ei0
  obtain ⟨W, hS, hE, hD⟩ := own_open hw hn
  obtain ⟨n, o, h1, h2, h3, _, L, rfl, ⟨rfl, N, -⟩, hq⟩ := rm0 l s _ hw tables_1 i0 W s.heap s.heap.size (Nat.le_refl _) hS (own_pickP (P := fun b => Exa s s.heap b "com/example/intreccio/intreccio/model/Binary$Operator") hE _) p e ha hc hk s m _ below hf ((Spec.applies_iff_loose hf).mp happ).1 ⟨rfl, State.Warmed39.refl s, rfl⟩ trivial
  refine ⟨n, _, h1, h2, h3, hpost _ _ _ _ _ _ ⟨Cond.after_iff.mpr rfl, Cond.after_iff.mpr (eq_i res_at (Term.int_eval (1)) (congrArg Value.int (own_law W hD  i0))), trivial⟩ ⟨hq.1, hq.2.1, (hq.2.2.sift fun y hy => Or.inr (N y hy)).mono (by decide) (by decide)⟩⟩
theorem main_1_1 : Claimed_1_1 := comes_1 fun _ _ _ _ _ _ h hF => ⟨h.1, hF⟩
theorem main_1_2 : Claimed_1_2 := comes_1 fun _ _ _ _ _ _ h hF => ⟨h.2.1, hF⟩
end Jvm.Pilot.@@N@@
namespace Jvm.Pilot.@@N@@
open Jvm Jvm.ClassFile Sem Op Lib Jvm.Free Jvm.Stand Jvm.Pilot.@@N@@.Jvm.D
/-! MADE BY PROGRAM (witnessworld.py) out of the Statement's table words and the real class files: 12 classes; the members and pool entries that the words name. The judged class is class 1, her method 2. -/
namespace start1
open Jvm.ClassFile
def u (s : String) : CpInfo := .utf8 (stringToUtf16 s)
/-- a pool by its gaps: so many unusable entries, then the entry; so many at the end -/
def gap : Nat → List CpInfo → List CpInfo
  | 0, r => r
  | n + 1, r => .unusable :: gap n r
def poolList (es : List (Nat × CpInfo)) (last : Nat) : List CpInfo := es.foldr (fun e r => gap e.1 (e.2 :: r)) (gap last [])
def pool (es : List (Nat × CpInfo)) (last : Nat) : Array CpInfo := ⟨poolList es last⟩
def fileOf (pool : Array CpInfo) (this : Nat) (attrs : Array Attribute := #[]) (ms : Array MethodInfo := #[]) (fl : Nat := 33) (sup : Nat := 0) (ifs : Array Nat := #[]) (fds : Array FieldInfo := #[]) : ClassFile where
  minorVersion := 0
  majorVersion := 65
  constantPool := pool
  accessFlags := fl
  thisClass := this
  superClass := sup
  interfaces := ifs
  fields := fds
  methods := ms
  attributes := attrs
def plain (name : String) (sup : Option ClassId) : Class where
  name := name
  kind := .ordinary
  loader := none
  accessFlags := 33
  super := sup
  interfaces := #[]
  cf := none
  fields := #[]
  methods := #[]
  instanceTypes := #[]
  staticTypes := #[]
  resolved := #[]
  callSites := []
  init := .initialized
  statics := none
  mirror := none

def pool0 : Array CpInfo := pool [(5, u "<init>"), (0, u "()V"), (1, .class_ 10), (1, u "java/lang/Object")] 113

def k0m0 : Method := { name := "<init>", desc := "()V", sig := { parameters := [], returnType := none }, accessFlags := 1, code := none }
/-- java/lang/Object -/
def k0 : Class := { plain "java/lang/Object" none with
  accessFlags := 33
  interfaces := #[]
  cf := some (fileOf pool0 8 #[] #[{ accessFlags := 1, nameIndex := 5, descriptorIndex := 6, attributes := #[] }] 33 0 #[] #[])
  fields := #[]
  methods := #[k0m0]
  instanceTypes := #[]
  staticTypes := #[]
  resolved := Array.replicate 124 none
  statics := none }

def pool1 : Array CpInfo := pool [(2, .class_ 4), (1, u "java/lang/Object"), (0, u "<init>"), (0, u "()V"), (0, .fieldref 8 9), (0, .class_ 10), (0, .nameAndType 11 12), (0, u "com/example/intreccio/intreccio/model/Binary$Operator"), (0, u "ADD"), (0, u "Lcom/example/intreccio/intreccio/model/Binary$Operator;"), (0, .fieldref 8 14), (0, .nameAndType 15 12), (0, u "SUBTRACT"), (0, .fieldref 8 17), (0, .nameAndType 18 12), (0, u "MULTIPLY"), (0, .fieldref 8 20), (0, .nameAndType 21 12), (0, u "DIVIDE"), (0, .fieldref 8 23), (0, .nameAndType 24 12), (0, u "REMAINDER"), (0, .fieldref 8 26), (0, .nameAndType 27 12), (0, u "SHIFT_LEFT"), (0, .fieldref 8 29), (0, .nameAndType 30 12), (0, u "SHIFT_RIGHT"), (0, .fieldref 8 32), (0, .nameAndType 33 12), (0, u "BIT_AND"), (0, .fieldref 8 35), (0, .nameAndType 36 12), (0, u "BIT_OR"), (0, .fieldref 8 38), (0, .nameAndType 39 12), (0, u "BIT_XOR"), (0, .fieldref 8 41), (0, .nameAndType 42 12), (0, u "LESS"), (0, .fieldref 8 44), (0, .nameAndType 45 12), (0, u "LESS_EQUAL"), (0, .fieldref 8 47), (0, .nameAndType 48 12), (0, u "GREATER"), (0, .fieldref 8 50), (0, .nameAndType 51 12), (0, u "GREATER_EQUAL"), (0, .fieldref 8 53), (0, .nameAndType 54 12), (0, u "EQUAL"), (0, .fieldref 8 56), (0, .nameAndType 57 12), (0, u "NOT_EQUAL"), (0, .fieldref 8 59), (0, .nameAndType 60 12), (0, u "AND"), (0, .fieldref 8 62), (0, .nameAndType 63 12), (0, u "OR"), (0, .integer 2147483647), (0, .methodref 66 67), (0, .class_ 68), (0, .nameAndType 69 70), (0, u "com/example/intreccio/intreccio/model/BinaryIsBitwisePinLaw"), (0, u "pick"), (0, u "(I)Lcom/example/intreccio/intreccio/model/Binary$Operator;"), (0, .methodref 8 72), (0, .nameAndType 73 74), (0, u "isBitwise"), (0, u "()Z"), (3, u "law"), (0, u "(I)Z")] 6

def k1m0 : Method := { name := "<init>", desc := "()V", sig := { parameters := [], returnType := none }, accessFlags := 2, code := none }
def k1c1 : Code := { maxStack := 2, maxLocals := 1, code := method_2_code, exceptionTable := #[], attributes := #[] }
def k1m1 : Method := { name := "pick", desc := "(I)Lcom/example/intreccio/intreccio/model/Binary$Operator;", sig := { parameters := [.int], returnType := some (.object "com/example/intreccio/intreccio/model/Binary$Operator") }, accessFlags := 10, code := some k1c1 }
def k1c2 : Code := { maxStack := 2, maxLocals := 4, code := code, exceptionTable := #[], attributes := #[] }
def k1m2 : Method := { name := "law", desc := "(I)Z", sig := { parameters := [.int], returnType := some .boolean }, accessFlags := 9, code := some k1c2 }
/-- com/example/intreccio/intreccio/model/BinaryIsBitwisePinLaw -/
def k1 : Class := { plain "com/example/intreccio/intreccio/model/BinaryIsBitwisePinLaw" (some 0) with
  accessFlags := 49
  interfaces := #[]
  cf := some (fileOf pool1 66 #[] #[{ accessFlags := 2, nameIndex := 5, descriptorIndex := 6, attributes := #[] }, { accessFlags := 10, nameIndex := 69, descriptorIndex := 70, attributes := #[] }, { accessFlags := 9, nameIndex := 78, descriptorIndex := 79, attributes := #[] }] 49 2 #[] #[])
  fields := #[]
  methods := #[k1m0, k1m1, k1m2]
  instanceTypes := #[]
  staticTypes := #[]
  resolved := Array.replicate 86 none
  statics := none }

def pool2 : Array CpInfo := pool [(1, .class_ 2), (0, u "java/lang/constant/Constable"), (0, .class_ 4), (0, u "java/lang/Object")] 6

/-- java/lang/constant/Constable -/
def k2 : Class := { plain "java/lang/constant/Constable" (some 0) with
  accessFlags := 1537
  interfaces := #[]
  cf := some (fileOf pool2 1 #[] #[] 1537 3 #[] #[])
  fields := #[]
  methods := #[]
  instanceTypes := #[]
  staticTypes := #[]
  resolved := Array.replicate 11 none
  statics := none }

def pool3 : Array CpInfo := pool [(1, .class_ 2), (0, u "java/lang/Comparable"), (0, .class_ 4), (0, u "java/lang/Object")] 7

/-- java/lang/Comparable -/
def k3 : Class := { plain "java/lang/Comparable" (some 0) with
  accessFlags := 1537
  interfaces := #[]
  cf := some (fileOf pool3 1 #[] #[] 1537 3 #[] #[])
  fields := #[]
  methods := #[]
  instanceTypes := #[]
  staticTypes := #[]
  resolved := Array.replicate 12 none
  statics := none }

def pool4 : Array CpInfo := pool [(1, .class_ 2), (0, u "java/io/Serializable"), (0, .class_ 4), (0, u "java/lang/Object")] 2

/-- java/io/Serializable -/
def k4 : Class := { plain "java/io/Serializable" (some 0) with
  accessFlags := 1537
  interfaces := #[]
  cf := some (fileOf pool4 1 #[] #[] 1537 3 #[] #[])
  fields := #[]
  methods := #[]
  instanceTypes := #[]
  staticTypes := #[]
  resolved := Array.replicate 7 none
  statics := none }

def pool5 : Array CpInfo := pool [(2, .class_ 4), (1, u "java/lang/Enum"), (0, u "name"), (0, u "Ljava/lang/String;"), (2, u "ordinal"), (0, u "I"), (1, .class_ 14), (1, u "java/lang/Object"), (4, u "hash"), (86, .class_ 108), (1, u "java/lang/Enum$EnumDesc"), (2, .class_ 112), (0, u "java/lang/constant/Constable"), (0, .class_ 114), (0, u "java/lang/Comparable"), (0, .class_ 116), (0, u "java/io/Serializable")] 87

/-- java/lang/Enum -/
def k5 : Class := { plain "java/lang/Enum" (some 0) with
  accessFlags := 1057
  interfaces := #[2, 3, 4]
  cf := some (fileOf pool5 2 #[.nestMembers #[106]] #[] 1057 12 #[111, 113, 115] #[{ accessFlags := 18, nameIndex := 5, descriptorIndex := 6, attributes := #[] }, { accessFlags := 18, nameIndex := 9, descriptorIndex := 10, attributes := #[] }, { accessFlags := 2, nameIndex := 19, descriptorIndex := 10, attributes := #[] }])
  fields := #[{ name := "name", type := (.object "java/lang/String"), accessFlags := 18, slot := 0, constantValue := 0 }, { name := "ordinal", type := .int, accessFlags := 18, slot := 1, constantValue := 0 }, { name := "hash", type := .int, accessFlags := 2, slot := 2, constantValue := 0 }]
  methods := #[]
  instanceTypes := #[(.object "java/lang/String"), .int, .int]
  staticTypes := #[]
  resolved := Array.replicate 204 none
  statics := none }

def pool6 : Array CpInfo := pool [(1, .class_ 2), (0, u "com/example/intreccio/intreccio/model/Binary$Operator"), (2, u "ADD"), (0, u "Lcom/example/intreccio/intreccio/model/Binary$Operator;"), (2, u "SUBTRACT"), (2, u "MULTIPLY"), (2, u "DIVIDE"), (2, u "REMAINDER"), (2, u "SHIFT_LEFT"), (2, u "SHIFT_RIGHT"), (0, .fieldref 1 26), (0, .nameAndType 27 6), (0, u "BIT_AND"), (0, .fieldref 1 29), (0, .nameAndType 30 6), (0, u "BIT_OR"), (0, .fieldref 1 32), (0, .nameAndType 33 6), (0, u "BIT_XOR"), (2, u "LESS"), (2, u "LESS_EQUAL"), (2, u "GREATER"), (2, u "GREATER_EQUAL"), (2, u "EQUAL"), (2, u "NOT_EQUAL"), (2, u "AND"), (2, u "OR"), (2, u "$VALUES"), (0, u "[Lcom/example/intreccio/intreccio/model/Binary$Operator;"), (6, .class_ 70), (1, u "java/lang/Enum"), (41, u "()Z"), (3, u "isBitwise"), (6, .class_ 124), (0, u "com/example/intreccio/intreccio/model/Binary")] 2

def k6c0 : Code := { maxStack := 2, maxLocals := 1, code := prog_106_method_7_code, exceptionTable := #[], attributes := #[] }
def k6m0 : Method := { name := "isBitwise", desc := "()Z", sig := { parameters := [], returnType := some .boolean }, accessFlags := 1, code := some k6c0 }
/-- com/example/intreccio/intreccio/model/Binary$Operator -/
def k6 : Class := { plain "com/example/intreccio/intreccio/model/Binary$Operator" (some 5) with
  accessFlags := 16433
  interfaces := #[]
  cf := some (fileOf pool6 1 #[.nestHost 123] #[{ accessFlags := 1, nameIndex := 116, descriptorIndex := 112, attributes := #[] }] 16433 68 #[] #[{ accessFlags := 16409, nameIndex := 5, descriptorIndex := 6, attributes := #[] }, { accessFlags := 16409, nameIndex := 9, descriptorIndex := 6, attributes := #[] }, { accessFlags := 16409, nameIndex := 12, descriptorIndex := 6, attributes := #[] }, { accessFlags := 16409, nameIndex := 15, descriptorIndex := 6, attributes := #[] }, { accessFlags := 16409, nameIndex := 18, descriptorIndex := 6, attributes := #[] }, { accessFlags := 16409, nameIndex := 21, descriptorIndex := 6, attributes := #[] }, { accessFlags := 16409, nameIndex := 24, descriptorIndex := 6, attributes := #[] }, { accessFlags := 16409, nameIndex := 27, descriptorIndex := 6, attributes := #[] }, { accessFlags := 16409, nameIndex := 30, descriptorIndex := 6, attributes := #[] }, { accessFlags := 16409, nameIndex := 33, descriptorIndex := 6, attributes := #[] }, { accessFlags := 16409, nameIndex := 36, descriptorIndex := 6, attributes := #[] }, { accessFlags := 16409, nameIndex := 39, descriptorIndex := 6, attributes := #[] }, { accessFlags := 16409, nameIndex := 42, descriptorIndex := 6, attributes := #[] }, { accessFlags := 16409, nameIndex := 45, descriptorIndex := 6, attributes := #[] }, { accessFlags := 16409, nameIndex := 48, descriptorIndex := 6, attributes := #[] }, { accessFlags := 16409, nameIndex := 51, descriptorIndex := 6, attributes := #[] }, { accessFlags := 16409, nameIndex := 54, descriptorIndex := 6, attributes := #[] }, { accessFlags := 16409, nameIndex := 57, descriptorIndex := 6, attributes := #[] }, { accessFlags := 4122, nameIndex := 60, descriptorIndex := 61, attributes := #[] }])
  fields := #[{ name := "ADD", type := (.object "com/example/intreccio/intreccio/model/Binary$Operator"), accessFlags := 16409, slot := 0, constantValue := 0 }, { name := "SUBTRACT", type := (.object "com/example/intreccio/intreccio/model/Binary$Operator"), accessFlags := 16409, slot := 1, constantValue := 0 }, { name := "MULTIPLY", type := (.object "com/example/intreccio/intreccio/model/Binary$Operator"), accessFlags := 16409, slot := 2, constantValue := 0 }, { name := "DIVIDE", type := (.object "com/example/intreccio/intreccio/model/Binary$Operator"), accessFlags := 16409, slot := 3, constantValue := 0 }, { name := "REMAINDER", type := (.object "com/example/intreccio/intreccio/model/Binary$Operator"), accessFlags := 16409, slot := 4, constantValue := 0 }, { name := "SHIFT_LEFT", type := (.object "com/example/intreccio/intreccio/model/Binary$Operator"), accessFlags := 16409, slot := 5, constantValue := 0 }, { name := "SHIFT_RIGHT", type := (.object "com/example/intreccio/intreccio/model/Binary$Operator"), accessFlags := 16409, slot := 6, constantValue := 0 }, { name := "BIT_AND", type := (.object "com/example/intreccio/intreccio/model/Binary$Operator"), accessFlags := 16409, slot := 7, constantValue := 0 }, { name := "BIT_OR", type := (.object "com/example/intreccio/intreccio/model/Binary$Operator"), accessFlags := 16409, slot := 8, constantValue := 0 }, { name := "BIT_XOR", type := (.object "com/example/intreccio/intreccio/model/Binary$Operator"), accessFlags := 16409, slot := 9, constantValue := 0 }, { name := "LESS", type := (.object "com/example/intreccio/intreccio/model/Binary$Operator"), accessFlags := 16409, slot := 10, constantValue := 0 }, { name := "LESS_EQUAL", type := (.object "com/example/intreccio/intreccio/model/Binary$Operator"), accessFlags := 16409, slot := 11, constantValue := 0 }, { name := "GREATER", type := (.object "com/example/intreccio/intreccio/model/Binary$Operator"), accessFlags := 16409, slot := 12, constantValue := 0 }, { name := "GREATER_EQUAL", type := (.object "com/example/intreccio/intreccio/model/Binary$Operator"), accessFlags := 16409, slot := 13, constantValue := 0 }, { name := "EQUAL", type := (.object "com/example/intreccio/intreccio/model/Binary$Operator"), accessFlags := 16409, slot := 14, constantValue := 0 }, { name := "NOT_EQUAL", type := (.object "com/example/intreccio/intreccio/model/Binary$Operator"), accessFlags := 16409, slot := 15, constantValue := 0 }, { name := "AND", type := (.object "com/example/intreccio/intreccio/model/Binary$Operator"), accessFlags := 16409, slot := 16, constantValue := 0 }, { name := "OR", type := (.object "com/example/intreccio/intreccio/model/Binary$Operator"), accessFlags := 16409, slot := 17, constantValue := 0 }, { name := "$VALUES", type := (.array (.object "com/example/intreccio/intreccio/model/Binary$Operator")), accessFlags := 4122, slot := 18, constantValue := 0 }]
  methods := #[k6m0]
  instanceTypes := #[(.object "java/lang/String"), .int, .int]
  staticTypes := #[(.object "com/example/intreccio/intreccio/model/Binary$Operator"), (.object "com/example/intreccio/intreccio/model/Binary$Operator"), (.object "com/example/intreccio/intreccio/model/Binary$Operator"), (.object "com/example/intreccio/intreccio/model/Binary$Operator"), (.object "com/example/intreccio/intreccio/model/Binary$Operator"), (.object "com/example/intreccio/intreccio/model/Binary$Operator"), (.object "com/example/intreccio/intreccio/model/Binary$Operator"), (.object "com/example/intreccio/intreccio/model/Binary$Operator"), (.object "com/example/intreccio/intreccio/model/Binary$Operator"), (.object "com/example/intreccio/intreccio/model/Binary$Operator"), (.object "com/example/intreccio/intreccio/model/Binary$Operator"), (.object "com/example/intreccio/intreccio/model/Binary$Operator"), (.object "com/example/intreccio/intreccio/model/Binary$Operator"), (.object "com/example/intreccio/intreccio/model/Binary$Operator"), (.object "com/example/intreccio/intreccio/model/Binary$Operator"), (.object "com/example/intreccio/intreccio/model/Binary$Operator"), (.object "com/example/intreccio/intreccio/model/Binary$Operator"), (.object "com/example/intreccio/intreccio/model/Binary$Operator"), (.array (.object "com/example/intreccio/intreccio/model/Binary$Operator"))]
  resolved := Array.replicate 127 none
  statics := some 0 }

def pool7 : Array CpInfo := pool [(1, u "java/lang/Cloneable"), (0, .class_ 1), (0, u "java/lang/Object"), (0, .class_ 3)] 3

/-- java/lang/Cloneable -/
def k7 : Class := { plain "java/lang/Cloneable" (some 0) with
  accessFlags := 1537
  interfaces := #[]
  cf := some (fileOf pool7 2 #[] #[] 1537 4 #[] #[])
  fields := #[]
  methods := #[]
  instanceTypes := #[]
  staticTypes := #[]
  resolved := Array.replicate 8 none
  statics := none }

/-- the primitive byte -/
def k8 : Class := { plain "byte" none with kind := .primitive 'B', accessFlags := 0x411 }
/-- [B -/
def k9 : Class := { plain "[B" (some 0) with kind := .array 8 .byte, interfaces := #[7, 4], accessFlags := 1041 }

/-- the primitive int -/
def k10 : Class := { plain "int" none with kind := .primitive 'I', accessFlags := 0x411 }
/-- [I -/
def k11 : Class := { plain "[I" (some 0) with kind := .array 10 .int, interfaces := #[7, 4], accessFlags := 1041 }

def heap : Heap := #[{ cls := 6, slots := #[.ref 1, .ref 7, .ref 6, .ref 5, .ref 9, .ref 18, .ref 15, .ref 2, .ref 3, .ref 4, .ref 13, .ref 8, .ref 10, .ref 14, .ref 17, .ref 12, .ref 11, .ref 16, .null], vm := .statics 6 },
  { cls := 6, slots := #[.null, .int 0, .int 0], vm := .none },
  { cls := 6, slots := #[.null, .int 7, .int 0], vm := .none },
  { cls := 6, slots := #[.null, .int 8, .int 0], vm := .none },
  { cls := 6, slots := #[.null, .int 9, .int 0], vm := .none },
  { cls := 6, slots := #[.null, .int 3, .int 0], vm := .none },
  { cls := 6, slots := #[.null, .int 2, .int 0], vm := .none },
  { cls := 6, slots := #[.null, .int 1, .int 0], vm := .none },
  { cls := 6, slots := #[.null, .int 11, .int 0], vm := .none },
  { cls := 6, slots := #[.null, .int 4, .int 0], vm := .none },
  { cls := 6, slots := #[.null, .int 12, .int 0], vm := .none },
  { cls := 6, slots := #[.null, .int 16, .int 0], vm := .none },
  { cls := 6, slots := #[.null, .int 15, .int 0], vm := .none },
  { cls := 6, slots := #[.null, .int 10, .int 0], vm := .none },
  { cls := 6, slots := #[.null, .int 13, .int 0], vm := .none },
  { cls := 6, slots := #[.null, .int 6, .int 0], vm := .none },
  { cls := 6, slots := #[.null, .int 17, .int 0], vm := .none },
  { cls := 6, slots := #[.null, .int 14, .int 0], vm := .none },
  { cls := 6, slots := #[.null, .int 5, .int 0], vm := .none }]
def classes : Array Class := #[k0, k1, k2, k3, k4, k5, k6, k7, k8, k9, k10, k11]
def interned : List (Array UInt16 × Addr) := []
def slotsUsed : Nat := 73
def theMethod : MethodId := ⟨1, 2⟩
def args0 : Array Value := #[.int 5]
def aboutOver (below : List Frame) : State where
  vm := { classes := classes, interned := interned.toArray }
  heap := heap
  slotsUsed := slotsUsed
  threads := #[{ frames := .invoking theMethod args0 :: below }]
def below0 : List Frame := [.native { method := ⟨0, 0⟩, args := #[] }]
def about1 : State := aboutOver below0
def p0 : Program := .bare "" "" ""
def e0 : Env := launch0.env 0 0 0
theorem w_frames : about1.frames = Frame.invoking theMethod args0 :: below0 := rfl
set_option maxRecDepth 65536 in
theorem w_args : argsFit about1.vm theMethod args0 = true := by decide +kernel
set_option maxRecDepth 65536 in
theorem w_heap : heapFits about1 = true := by decide +kernel
set_option maxRecDepth 65536 in
theorem w_runnable : about1.curStatus? = some .runnable := by decide +kernel
set_option maxRecDepth 65536 in
theorem w_alone : about1.alone = true := by decide +kernel
set_option maxRecDepth 65536 in
theorem w_named : about1.methodNamed? x = some theMethod := by decide +kernel
set_option maxRecDepth 65536 in
theorem w_hears : about1.hears theMethod below0 = true := by decide +kernel
set_option maxRecDepth 65536 in
theorem w_ripe : about1.ripe theMethod args0 below0 = true := by decide +kernel
theorem w_running : about1.status = .running := rfl
set_option maxRecDepth 65536 in
theorem w_room : about1.hasRoom e0.platform room_1 = true :=
  launch0.hasRoom_least _ room_1 (by decide +kernel) (by decide +kernel) (by decide +kernel) (by decide +kernel) (by decide +kernel) (by decide +kernel)
theorem allAtoms_all (ts : List Jvm.Cond) (a : Array Jvm.Value) (st : Jvm.State) : (allAtoms ts).before a st = ts.all (fun c => c.before a st) := by
  induction ts with
  | nil => rfl
  | cons c t ih =>
    show (Jvm.Cond.and c (allAtoms t)).before a st = _
    rw [Jvm.Cond.before_and, ih, List.all_cons]
def words1 : List Jvm.Cond := Jvm.Cond.code x code maxLocals ret :: tables_1
/-- a 'code' word, met by the world's own term for the bytes: nothing is compared byte by byte -/
theorem code_word {y : MethodName} {bytes : ByteArray} {mx : Nat} {rt : Option FieldType} {a : Array Value} {s : State} {m : MethodId} {meth : Method} {c : Code} (h1 : s.methodNamed? y = some m) (h2 : s.vm.method? m = some meth) (h3 : meth.code = some c) (h4 : c.code = bytes)
    (h5 : (c.maxLocals == mx && c.exceptionTable.isEmpty && decide (c.maxStack ≤ mostOperands) && decide (meth.sig.returnType = rt) && !meth.locks && decide (parseMethodDescriptor y.desc = some meth.sig)) = true) : (Jvm.Cond.code y bytes mx rt).before a s = true := by
  simp only [Bool.and_eq_true, beq_iff_eq, Bool.not_eq_true', decide_eq_true_eq] at h5
  obtain ⟨⟨⟨⟨⟨g1, g2⟩, g3⟩, g4⟩, g5⟩, g6⟩ := h5
  simp [Cond.before, Cond.holds, Cond.value, h1, h2, h3, h4, g1, g2, g3, g4, g5, g6]
def isCode : Jvm.Cond → Bool
  | .code _ _ _ _ => true
  | _ => false
theorem all_split {L : List Jvm.Cond} {P : Jvm.Cond → Bool} (h1 : L.all (fun c => isCode c || P c) = true) (h2 : ∀ c ∈ L.filter isCode, P c = true) : L.all P = true := by
  refine List.all_eq_true.mpr fun c hc => ?_
  have h := List.all_eq_true.mp h1 c hc
  rcases Bool.eq_false_or_eq_true (isCode c) with hi | hi
  · exact h2 c (List.mem_filter.mpr ⟨hc, hi⟩)
  · simpa [hi] using h
set_option maxRecDepth 65536 in
theorem w_c0 : (Jvm.Cond.code x code maxLocals ret).before args0 about1 = true := code_word (m := ⟨1, 2⟩) (meth := k1m2) (c := k1c2) (by decide +kernel) rfl rfl rfl (by decide +kernel)
set_option maxRecDepth 65536 in
theorem w_c1 : (Jvm.Cond.code ({ cls := "com/example/intreccio/intreccio/model/BinaryIsBitwisePinLaw", name := "pick", desc := "(I)Lcom/example/intreccio/intreccio/model/Binary$Operator;" } : Jvm.MethodName) method_2_code (1 : Nat) (Option.some (Jvm.ClassFile.FieldType.object "com/example/intreccio/intreccio/model/Binary$Operator"))).before args0 about1 = true := code_word (m := ⟨1, 1⟩) (meth := k1m1) (c := k1c1) (by decide +kernel) rfl rfl rfl (by decide +kernel)
set_option maxRecDepth 65536 in
theorem w_c2 : (Jvm.Cond.code ({ cls := "com/example/intreccio/intreccio/model/Binary$Operator", name := "isBitwise", desc := "()Z" } : Jvm.MethodName) prog_106_method_7_code (1 : Nat) (Option.some Jvm.ClassFile.FieldType.boolean)).before args0 about1 = true := code_word (m := ⟨6, 0⟩) (meth := k6m0) (c := k6c0) (by decide +kernel) rfl rfl rfl (by decide +kernel)
def codes1 : List Jvm.Cond := [Jvm.Cond.code x code maxLocals ret, Jvm.Cond.code ({ cls := "com/example/intreccio/intreccio/model/BinaryIsBitwisePinLaw", name := "pick", desc := "(I)Lcom/example/intreccio/intreccio/model/Binary$Operator;" } : Jvm.MethodName) method_2_code (1 : Nat) (Option.some (Jvm.ClassFile.FieldType.object "com/example/intreccio/intreccio/model/Binary$Operator")), Jvm.Cond.code ({ cls := "com/example/intreccio/intreccio/model/Binary$Operator", name := "isBitwise", desc := "()Z" } : Jvm.MethodName) prog_106_method_7_code (1 : Nat) (Option.some Jvm.ClassFile.FieldType.boolean)]
set_option maxRecDepth 65536 in
theorem codes_eq : words1.filter isCode = codes1 := rfl
theorem w_codes : ∀ c ∈ words1.filter isCode, c.before args0 about1 = true := by
  rw [codes_eq]
  intro c hc
  simp only [codes1, List.mem_cons, List.not_mem_nil, or_false] at hc
  rcases hc with rfl | rfl | rfl
  · exact w_c0
  · exact w_c1
  · exact w_c2
set_option maxRecDepth 65536 in
theorem w_t1 : (words1.take 24).all (fun c => isCode c || c.before args0 about1) = true := by decide +kernel
set_option maxRecDepth 65536 in
theorem w_t2 : ((words1.drop 24).take 24).all (fun c => isCode c || c.before args0 about1) = true := by decide +kernel
set_option maxRecDepth 65536 in
theorem w_t3 : ((words1.drop 24).drop 24).all (fun c => isCode c || c.before args0 about1) = true := by decide +kernel
theorem w_tables : (allAtoms (Jvm.Cond.code x code maxLocals ret :: tables_1)).before args0 about1 = true := by
  rw [allAtoms_all]
  show words1.all (fun c => c.before args0 about1) = true
  refine all_split ?_ w_codes
  rw [← List.take_append_drop 24 words1, List.all_append, w_t1, ← List.take_append_drop 24 (words1.drop 24), List.all_append, w_t2, w_t3]
  rfl
set_option maxRecDepth 65536 in
theorem w_case : (Jvm.Cond.and given_1 narrow_1).before args0 about1 = true := by decide +kernel
theorem w_applies : (headSpec (Jvm.Cond.code x code maxLocals ret :: tables_1) room_1).applies x e0.platform about1 = true :=
  (Spec.applies_iff w_frames).mpr ⟨w_running, w_runnable, w_alone, w_named, w_hears, w_ripe, w_room, w_tables⟩
theorem atStart : AtStart classFile x code maxLocals ret World_1 tables_1 room_1 Calls_1 rest_1 Pre_1 launch0 p0 e0 about1 theMethod args0 below0 :=
  ⟨lists_1, trivial, launch0.admits_env _ _ _, launch0.least_env, fairChoices_fair.cas, fairChoices_fair.clock, w_frames, w_args, w_heap, w_applies, trivial, trivial, w_case⟩
end start1
theorem witness_1 : WitnessClaimed_1 := ⟨start1.p0, start1.e0, start1.about1, start1.theMethod, start1.args0, start1.below0, start1.atStart⟩
end Jvm.Pilot.@@N@@
