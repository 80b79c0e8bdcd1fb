import JvmDerived
import JvmDerived.Pilot.@@N@@Statement
import JvmDerived.Pilot.@@N@@Code
set_option linter.unusedVariables false
set_option linter.unusedSimpArgs false
@@BLOCK:NumsL.lean.txt@@
namespace Jvm.Pilot.@@N@@
open Jvm Jvm.ClassFile Sem Op Lib Jvm.Free Jvm.Stand Jvm.LawKit Jvm.RoadKit Bundle Jvm.Pilot.@@N@@.Jvm.D
/-! 1. the shape of a walk: from here on some end is reached that answers G -/
def own_Fin (p : Program) (e : Env) (below : List Frame) (G : Outcome → State → Prop) (T : State) (g : JFrame) : Prop :=
  ∃ s₂ o, Steps p.tables e below (T.setTop g) s₂ ∧ s₂.status = .running ∧ Ended s₂ below o ∧ G o s₂
theorem own_step {p : Program} {e : Env} {below : List Frame} {G : Outcome → State → Prop} {T T' : State} {g g' : JFrame}
    (h : ∀ t, Steps p.tables e below (T'.setTop g') t → Steps p.tables e below (T.setTop g) t) (k : own_Fin p e below G T' g') : own_Fin p e below G T g := by
  obtain ⟨s₂, o, h1, h2⟩ := k
  exact ⟨s₂, o, h _ h1, h2⟩
theorem own_cast {p : Program} {e : Env} {below : List Frame} {G : Outcome → State → Prop} {T : State} {g g' : JFrame} (q : g = g') (k : own_Fin p e below G T g') : own_Fin p e below G T g := q ▸ k
/-- what a body that makes nothing answers: the value V, nothing old written, the heap as it was -/
def own_Q (h0 : Heap) (n0 : Nat) (V : Value) (v : Option Value) (h : Heap) (L : List Loc) : Prop := v = some V ∧ Fr n0 L ∧ h = h0
abbrev own_Con (l : Launch) (Z : State) (y : MethodName) (bytes : ByteArray) (ml : Nat) (ret : Option FieldType) (rm : Room) (as : Array Value) (h0 : Heap) (n0 : Nat) (V : Value) (ws : List Jvm.Cond) : Prop :=
  MetFree l y (head1 (Jvm.Cond.code y bytes ml ret :: ws) rm) (fun a U => a = as ∧ Z.Warmed39 U.vm ∧ U.heap = h0) (fun _ _ _ _ _ => True)
    (fun _ U o U' => ∃ v L, o = .returned v ∧ own_Q h0 n0 V v U'.heap L ∧ FrameEnd U o U' L rm.cells rm.slots)
theorem own_fin {p : Program} {l : Launch} {e : Env} {R : Room} {s : State} {m : MethodId} {args : Array Value} {below : List Frame} {meth : Method} {c : Code} {T : State} {locs : List Loc} {cells slots : Nat}
    (X : Stand p l e R s m args below meth c T locs cells slots) (hx : p.tables.exec = Jvm.exec) {pc : Nat} {Ls : Array Slot} {w V : Value} {t : FieldType} {i : Instr} {rest : List Value} (hret : meth.sig.returnType = some t) (hn : narrow t w = w)
    (hi : (i = .ireturn ∧ (t = .int ∨ t = .boolean ∨ t = .byte ∨ t = .char ∨ t = .short) ∧ ∃ z, w = .int z) ∨ (i = .lreturn ∧ t = .long ∧ ∃ z, w = .long z) ∨ (i = .dreturn ∧ t = .double ∧ ∃ z, w = .double z) ∨ (i = .freturn ∧ t = .float ∧ ∃ z, w = .float z) ∨ (i = .areturn ∧ t.isReference = true ∧ w.isRef = true))
    (hd : decode c.code pc = .ok (i, 1)) (hlocks : meth.locks = false) {n0 : Nat} {h0 : Heap} (N : Fr n0 locs) (eT : T.heap = h0) (hV : V = w) {k n : Nat} (hk : cells ≤ k) (hn' : slots ≤ n) :
    own_Fin p e below (fun o U' => ∃ v L, o = .returned v ∧ own_Q h0 n0 V v U'.heap L ∧ FrameEnd s o U' L k n) T (mkF m pc Ls (w :: rest)) := by
  obtain ⟨fs, hr, hrun, hended, hW, hsame⟩ := X.leave (v := some w) (fun h => by rw [hret] at h; cases h) hlocks
  exact ⟨_, _, retOut X hx hret hn hi hd hr, hrun, hended, _, _, rfl, ⟨by rw [hV], N, eT⟩, ⟨_, rfl⟩, hW, hsame.mono hk hn'⟩
/-! 2. the bodies, walked -/
def own_Stas (Z : State) (h0 : Heap) (W : Nat → Addr) : Prop := Sta Z h0 "com/example/intreccio/intreccio/model/Binary$Operator" "ADD" "Lcom/example/intreccio/intreccio/model/Binary$Operator;" (.ref (W 0)) ∧ Sta Z h0 "com/example/intreccio/intreccio/model/Binary$Operator" "SUBTRACT" "Lcom/example/intreccio/intreccio/model/Binary$Operator;" (.ref (W 1)) ∧ Sta Z h0 "com/example/intreccio/intreccio/model/Binary$Operator" "MULTIPLY" "Lcom/example/intreccio/intreccio/model/Binary$Operator;" (.ref (W 2)) ∧ Sta Z h0 "com/example/intreccio/intreccio/model/Binary$Operator" "DIVIDE" "Lcom/example/intreccio/intreccio/model/Binary$Operator;" (.ref (W 3)) ∧ Sta Z h0 "com/example/intreccio/intreccio/model/Binary$Operator" "REMAINDER" "Lcom/example/intreccio/intreccio/model/Binary$Operator;" (.ref (W 4)) ∧ Sta Z h0 "com/example/intreccio/intreccio/model/Binary$Operator" "SHIFT_LEFT" "Lcom/example/intreccio/intreccio/model/Binary$Operator;" (.ref (W 5)) ∧ Sta Z h0 "com/example/intreccio/intreccio/model/Binary$Operator" "SHIFT_RIGHT" "Lcom/example/intreccio/intreccio/model/Binary$Operator;" (.ref (W 6)) ∧ Sta Z h0 "com/example/intreccio/intreccio/model/Binary$Operator" "BIT_AND" "Lcom/example/intreccio/intreccio/model/Binary$Operator;" (.ref (W 7)) ∧ Sta Z h0 "com/example/intreccio/intreccio/model/Binary$Operator" "BIT_OR" "Lcom/example/intreccio/intreccio/model/Binary$Operator;" (.ref (W 8)) ∧ Sta Z h0 "com/example/intreccio/intreccio/model/Binary$Operator" "BIT_XOR" "Lcom/example/intreccio/intreccio/model/Binary$Operator;" (.ref (W 9)) ∧ Sta Z h0 "com/example/intreccio/intreccio/model/Binary$Operator" "LESS" "Lcom/example/intreccio/intreccio/model/Binary$Operator;" (.ref (W 10)) ∧ Sta Z h0 "com/example/intreccio/intreccio/model/Binary$Operator" "LESS_EQUAL" "Lcom/example/intreccio/intreccio/model/Binary$Operator;" (.ref (W 11)) ∧ Sta Z h0 "com/example/intreccio/intreccio/model/Binary$Operator" "GREATER" "Lcom/example/intreccio/intreccio/model/Binary$Operator;" (.ref (W 12)) ∧ Sta Z h0 "com/example/intreccio/intreccio/model/Binary$Operator" "GREATER_EQUAL" "Lcom/example/intreccio/intreccio/model/Binary$Operator;" (.ref (W 13)) ∧ Sta Z h0 "com/example/intreccio/intreccio/model/Binary$Operator" "EQUAL" "Lcom/example/intreccio/intreccio/model/Binary$Operator;" (.ref (W 14)) ∧ Sta Z h0 "com/example/intreccio/intreccio/model/Binary$Operator" "NOT_EQUAL" "Lcom/example/intreccio/intreccio/model/Binary$Operator;" (.ref (W 15)) ∧ Sta Z h0 "com/example/intreccio/intreccio/model/Binary$Operator" "AND" "Lcom/example/intreccio/intreccio/model/Binary$Operator;" (.ref (W 16)) ∧ Sta Z h0 "com/example/intreccio/intreccio/model/Binary$Operator" "OR" "Lcom/example/intreccio/intreccio/model/Binary$Operator;" (.ref (W 17))
theorem own_pn0 : plainName "com/example/intreccio/intreccio/model/Binary$Operator" = true := by first | (simp [plainName, overriddenIn]; done) | decide +kernel
theorem d1_0 : decode prog_106_method_5_code 0 = .ok (.aload_n 0, 1) := by decide +kernel
theorem d1_1 : decode prog_106_method_5_code 1 = .ok (.getstatic 13, 3) := by decide +kernel
theorem d1_4 : decode prog_106_method_5_code 4 = .ok (.if_acmp .eq 10, 3) := by decide +kernel
theorem d1_7 : decode prog_106_method_5_code 7 = .ok (.aload_n 0, 1) := by decide +kernel
theorem d1_8 : decode prog_106_method_5_code 8 = .ok (.getstatic 16, 3) := by decide +kernel
theorem d1_11 : decode prog_106_method_5_code 11 = .ok (.if_acmp .ne 7, 3) := by decide +kernel
theorem d1_14 : decode prog_106_method_5_code 14 = .ok (.iconst 1, 1) := by decide +kernel
theorem d1_15 : decode prog_106_method_5_code 15 = .ok (.goto 4, 3) := by decide +kernel
theorem d1_18 : decode prog_106_method_5_code 18 = .ok (.iconst 0, 1) := by decide +kernel
theorem d1_19 : decode prog_106_method_5_code 19 = .ok (.ireturn, 1) := by decide +kernel
theorem ef1 (m : MethodId) (a : Addr) : entryFrame m #[(.ref a)] 1 = mkF m 0 #[.val (.ref a)] [] := by first | (simp [entryFrame, mkF, argsToLocals, Value.category]; done) | rfl
def V1 (W : Nat → Addr) (a : Addr) : Int32 := (if a = (W 3) then (1 : Int32) else (if a = (W 4) then (1 : Int32) else (0 : Int32)))
theorem own_V1 (W : Nat → Addr) (a : Addr) : V1 W a = (if a = (W 3) then (1 : Int32) else (if a = (W 4) then (1 : Int32) else (0 : Int32))) := rfl
set_option maxRecDepth 65536 in
set_option maxHeartbeats 40000000 in
theorem rm1 (l : Launch) (Z : State) (a0 : Array Value) (hw : ∀ d ∈ tables_1, d.before a0 Z = true) (ws : List Jvm.Cond) (a : Addr) (W : Nat → Addr) (h0 : Heap) (n0 : Nat) (Z0 : n0 ≤ h0.size) (hS : own_Stas Z h0 W) :
    own_Con l Z (⟨"com/example/intreccio/intreccio/model/Binary$Operator", "isDivision", "()Z"⟩ : MethodName) prog_106_method_5_code 1 (some .boolean) ({ frames := 0, cells := 0, slots := 0, locals := 0 } : Room) #[(.ref a)] h0 n0 (.int (V1 W a)) ws := by
  refine MetFree.of_bodySF (plainFor_of_name own_pn0) hisR ?_
  intro p e s m args below meth c s₁ Bd hml0 hP hK
  obtain ⟨rfl, hZ, hh⟩ := hP
  have hx := Bd.exec
  have hby := Bd.bytes
  have hml : c.maxLocals = 1 := hml0
  have hown : s.vm.findClass "com/example/intreccio/intreccio/model/Binary$Operator" = some m.cls := findClass_of_methodNamed Bd.named
  have X0 : Stand p l e ({ frames := 0, cells := 0, slots := 0, locals := 0 } : Room) s m #[(.ref a)] below meth c s₁ [] 0 0 := Stand.of_body Bd
  have e0 : s₁.heap = h0 := by rw [← hh, Bd.state]; rfl
  have N0 := Fr.nil n0
  refine own_cast (ef1 m a) ?_
  refine own_step (T' := s₁) (g' := (mkF m 1 #[.val (.ref a)] [(.ref a)])) (fun t k => XS.aloadN X0.here hx rfl (hb hby d1_0) rfl rfl k) ?_
  obtain ⟨T1, X1, e1, st1⟩ := getS2 X0 hx hZ hown (host := "") (Or.inl (hw _ (List.mem_of_getElem? (i := 46) rfl))) Via.refl e0 hS.2.2.2.1 (g := (mkF m 1 #[.val (.ref a)] [(.ref a)])) rfl (hb hby d1_1)
  refine own_step (T' := T1) (g' := (mkF m 4 #[.val (.ref a)] [(.ref (W 3)), (.ref a)])) (fun t k => st1 t k) ?_
  by_cases hc2 : a = (W 3)
  · refine own_step (T' := T1) (g' := (mkF m 14 #[.val (.ref a)] [])) (fun t k => Jvm.RoadKit.acmp (g := (mkF m 4 #[.val (.ref a)] [(.ref (W 3)), (.ref a)])) X1 hx rfl rfl rfl (pc0 := 4) (pc' := 14) (same := true) rfl (hb hby d1_4) rfl (decide_eq_true (congrArg Value.ref hc2)) (by decide) (by decide) k) ?_
    refine own_step (T' := T1) (g' := (mkF m 15 #[.val (.ref a)] [(.int (1 : Int32))])) (fun t k => XS.iconst X1.here hx rfl (hb hby d1_14) k) ?_
    refine own_step (T' := T1) (g' := (mkF m 19 #[.val (.ref a)] [(.int (1 : Int32))])) (fun t k => XS.goto X1.here hx rfl (pc0 := 15) (pc' := 19) rfl (hb hby d1_15) (by decide) (by decide) k) ?_
    exact own_fin X1 hx Bd.returns rfl (Or.inl ⟨rfl, Or.inr (Or.inl rfl), _, rfl⟩) (hb hby d1_19) (BodyLoose.notSynchronized Bd) N0 e1 (congrArg _ (by rw [own_V1, if_pos hc2])) (by decide) (by decide)
  · refine own_step (T' := T1) (g' := (mkF m 7 #[.val (.ref a)] [])) (fun t k => Jvm.RoadKit.acmp (g := (mkF m 4 #[.val (.ref a)] [(.ref (W 3)), (.ref a)])) X1 hx rfl rfl rfl (pc0 := 4) (pc' := 7) (same := false) rfl (hb hby d1_4) rfl (decide_eq_false (fun q => hc2 (Value.ref.inj q))) (by decide) (by decide) k) ?_
    refine own_step (T' := T1) (g' := (mkF m 8 #[.val (.ref a)] [(.ref a)])) (fun t k => XS.aloadN X1.here hx rfl (hb hby d1_7) rfl rfl k) ?_
    obtain ⟨T3, X3, e3, st3⟩ := getS2 X1 hx hZ hown (host := "") (Or.inl (hw _ (List.mem_of_getElem? (i := 47) rfl))) Via.refl e1 hS.2.2.2.2.1 (g := (mkF m 8 #[.val (.ref a)] [(.ref a)])) rfl (hb hby d1_8)
    refine own_step (T' := T3) (g' := (mkF m 11 #[.val (.ref a)] [(.ref (W 4)), (.ref a)])) (fun t k => st3 t k) ?_
    by_cases hc4 : a = (W 4)
    · refine own_step (T' := T3) (g' := (mkF m 14 #[.val (.ref a)] [])) (fun t k => Jvm.RoadKit.acmp (g := (mkF m 11 #[.val (.ref a)] [(.ref (W 4)), (.ref a)])) X3 hx rfl rfl rfl (pc0 := 11) (pc' := 14) (same := true) rfl (hb hby d1_11) rfl (decide_eq_true (congrArg Value.ref hc4)) (by decide) (by decide) k) ?_
      refine own_step (T' := T3) (g' := (mkF m 15 #[.val (.ref a)] [(.int (1 : Int32))])) (fun t k => XS.iconst X3.here hx rfl (hb hby d1_14) k) ?_
      refine own_step (T' := T3) (g' := (mkF m 19 #[.val (.ref a)] [(.int (1 : Int32))])) (fun t k => XS.goto X3.here hx rfl (pc0 := 15) (pc' := 19) rfl (hb hby d1_15) (by decide) (by decide) k) ?_
      exact own_fin X3 hx Bd.returns rfl (Or.inl ⟨rfl, Or.inr (Or.inl rfl), _, rfl⟩) (hb hby d1_19) (BodyLoose.notSynchronized Bd) N0 e3 (congrArg _ (by rw [own_V1, if_neg hc2, if_pos hc4])) (by decide) (by decide)
    · refine own_step (T' := T3) (g' := (mkF m 18 #[.val (.ref a)] [])) (fun t k => Jvm.RoadKit.acmp (g := (mkF m 11 #[.val (.ref a)] [(.ref (W 4)), (.ref a)])) X3 hx rfl rfl rfl (pc0 := 11) (pc' := 18) (same := false) rfl (hb hby d1_11) rfl (decide_eq_false (fun q => hc4 (Value.ref.inj q))) (by decide) (by decide) k) ?_
      refine own_step (T' := T3) (g' := (mkF m 19 #[.val (.ref a)] [(.int (0 : Int32))])) (fun t k => XS.iconst X3.here hx rfl (hb hby d1_18) k) ?_
      exact own_fin X3 hx Bd.returns rfl (Or.inl ⟨rfl, Or.inr (Or.inl rfl), _, rfl⟩) (hb hby d1_19) (BodyLoose.notSynchronized Bd) N0 e3 (congrArg _ (by rw [own_V1, if_neg hc2, if_neg hc4])) (by decide) (by decide)
/-- what a body that makes something answers: the value V, nothing old written -/
def own_QW (n0 : Nat) (V : Value) (v : Option Value) (L : List Loc) : Prop := v = some V ∧ Fr n0 L
abbrev own_ConW (l : Launch) (Z : State) (y : MethodName) (bytes : ByteArray) (ml : Nat) (ret : Option FieldType) (rm : Room) (as : Array Value) (h0 : Heap) (n0 : Nat) (V : Value) (ws : List Jvm.Cond) : Prop :=
  MetFree l y (head1 (Jvm.Cond.code y bytes ml ret :: ws) rm) (fun a U => a = as ∧ Z.Warmed39 U.vm ∧ U.heap = h0) (fun _ _ _ _ _ => True)
    (fun _ U o U' => ∃ v L, o = .returned v ∧ own_QW n0 V v L ∧ FrameEnd U o U' L rm.cells rm.slots)
theorem own_finW {p : Program} {l : Launch} {e : Env} {R : Room} {s : State} {m : MethodId} {args : Array Value} {below : List Frame} {meth : Method} {c : Code} {T : State} {locs : List Loc} {cells slots : Nat}
    (X : Stand p l e R s m args below meth c T locs cells slots) (hx : p.tables.exec = Jvm.exec) {pc : Nat} {Ls : Array Slot} {w V : Value} {t : FieldType} {i : Instr} {rest : List Value} (hret : meth.sig.returnType = some t) (hn : narrow t w = w)
    (hi : (i = .ireturn ∧ (t = .int ∨ t = .boolean ∨ t = .byte ∨ t = .char ∨ t = .short) ∧ ∃ z, w = .int z) ∨ (i = .lreturn ∧ t = .long ∧ ∃ z, w = .long z) ∨ (i = .dreturn ∧ t = .double ∧ ∃ z, w = .double z) ∨ (i = .freturn ∧ t = .float ∧ ∃ z, w = .float z) ∨ (i = .areturn ∧ t.isReference = true ∧ w.isRef = true))
    (hd : decode c.code pc = .ok (i, 1)) (hlocks : meth.locks = false) {n0 : Nat} (N : Fr n0 locs) (hV : V = w) {k n : Nat} (hk : cells ≤ k) (hn' : slots ≤ n) :
    own_Fin p e below (fun o U' => ∃ v L, o = .returned v ∧ own_QW n0 V v L ∧ FrameEnd s o U' L k n) T (mkF m pc Ls (w :: rest)) := by
  obtain ⟨fs, hr, hrun, hended, hW, hsame⟩ := X.leave (v := some w) (fun h => by rw [hret] at h; cases h) hlocks
  exact ⟨_, _, retOut X hx hret hn hi hd hr, hrun, hended, _, _, rfl, ⟨by rw [hV], N⟩, ⟨_, rfl⟩, hW, hsame.mono hk hn'⟩
theorem own_Stas_ext {Z : State} {h h' : Heap} {W : Nat → Addr} (E : Ext h h') (hS : own_Stas Z h W) : own_Stas Z h' W := ⟨hS.1.ext E, hS.2.1.ext E, hS.2.2.1.ext E, hS.2.2.2.1.ext E, hS.2.2.2.2.1.ext E, hS.2.2.2.2.2.1.ext E, hS.2.2.2.2.2.2.1.ext E, hS.2.2.2.2.2.2.2.1.ext E, hS.2.2.2.2.2.2.2.2.1.ext E, hS.2.2.2.2.2.2.2.2.2.1.ext E, hS.2.2.2.2.2.2.2.2.2.2.1.ext E, hS.2.2.2.2.2.2.2.2.2.2.2.1.ext E, hS.2.2.2.2.2.2.2.2.2.2.2.2.1.ext E, hS.2.2.2.2.2.2.2.2.2.2.2.2.2.1.ext E, hS.2.2.2.2.2.2.2.2.2.2.2.2.2.2.1.ext E, hS.2.2.2.2.2.2.2.2.2.2.2.2.2.2.2.1.ext E, hS.2.2.2.2.2.2.2.2.2.2.2.2.2.2.2.2.1.ext E, hS.2.2.2.2.2.2.2.2.2.2.2.2.2.2.2.2.2.ext E⟩
theorem own_Stas_wr {Z : State} {h h' : Heap} {W : Nat → Addr} {a : Addr} {sl : Nat} {v : Value} (E : Wr h h' a sl v) (hS : own_Stas Z h W) : own_Stas Z h' W := ⟨hS.1.wr E, hS.2.1.wr E, hS.2.2.1.wr E, hS.2.2.2.1.wr E, hS.2.2.2.2.1.wr E, hS.2.2.2.2.2.1.wr E, hS.2.2.2.2.2.2.1.wr E, hS.2.2.2.2.2.2.2.1.wr E, hS.2.2.2.2.2.2.2.2.1.wr E, hS.2.2.2.2.2.2.2.2.2.1.wr E, hS.2.2.2.2.2.2.2.2.2.2.1.wr E, hS.2.2.2.2.2.2.2.2.2.2.2.1.wr E, hS.2.2.2.2.2.2.2.2.2.2.2.2.1.wr E, hS.2.2.2.2.2.2.2.2.2.2.2.2.2.1.wr E, hS.2.2.2.2.2.2.2.2.2.2.2.2.2.2.1.wr E, hS.2.2.2.2.2.2.2.2.2.2.2.2.2.2.2.1.wr E, hS.2.2.2.2.2.2.2.2.2.2.2.2.2.2.2.2.1.wr E, hS.2.2.2.2.2.2.2.2.2.2.2.2.2.2.2.2.2.wr E⟩
/-- the array holds the first cnt constants; all else stands -/
def own_Inv (Z : State) (W : Nat → Addr) (h : Heap) (b : Addr) (k : ClassId) (cnt n0 : Nat) : Prop :=
  own_Stas Z h W ∧ (∀ i, i < 18 → Exa Z h (W i) "com/example/intreccio/intreccio/model/Binary$Operator") ∧ (∃ vs : List Value, Arv Z h b k (.object "com/example/intreccio/intreccio/model/Binary$Operator") (18 : Int32) vs .null ∧ vs.length = 18 ∧ ∀ m, m < cnt → vs.getD m .null = .ref (W m)) ∧ Ovr Z k "com/example/intreccio/intreccio/model/Binary$Operator" ∧ n0 ≤ h.size
theorem own_inv0 {Z : State} {W : Nat → Addr} {h h' : Heap} {b : Addr} {k : ClassId} {n0 : Nat} (hS : own_Stas Z h W) (hE : ∀ i, i < 18 → Exa Z h (W i) "com/example/intreccio/intreccio/model/Binary$Operator") (Z0 : n0 ≤ h.size) (Ex : Ext h h')
    (A : Arr Z h' b (newA k (.object "com/example/intreccio/intreccio/model/Binary$Operator") (18 : Int32)) (.object "com/example/intreccio/intreccio/model/Binary$Operator")) (O : Ovr Z k "com/example/intreccio/intreccio/model/Binary$Operator") : own_Inv Z W h' b k 0 n0 := by
  refine ⟨own_Stas_ext Ex hS, fun i hi => (hE i hi).ext Ex, ⟨List.replicate 18 .null, (Arv.new A (by decide)).pad (fun i => ?_), rfl, fun m hm => absurd hm (Nat.not_lt_zero _)⟩, O, Nat.le_trans Z0 Ex.1⟩
  simp only [List.getD_eq_getElem?_getD, List.getElem?_replicate, List.getElem?_nil]
  split <;> rfl
theorem own_put {p : Program} {l : Launch} {e : Env} {R : Room} {s : State} {m : MethodId} {args : Array Value} {below : List Frame} {meth : Method} {c : Code} {T : State} {locs : List Loc} {cells slots : Nat} {Z : State} {W : Nat → Addr} {h : Heap} {b : Addr} {k : ClassId} {n0 : Nat}
    (X : Stand p l e R s m args below meth c T locs cells slots) (hx : p.tables.exec = Jvm.exec) (hZ : Z.Warmed39 s.vm) (eT : T.heap = h) {i : Nat} (I : own_Inv Z W h b k i n0) (hi : i < 18) {j : Int32} (hjn : j.toNatClampNeg = i) (hj0 : ¬ j < 0)
    {g : JFrame} (hg : g.method = m) {rest : List Value} (hs : g.stack = .ref (W i) :: .int j :: .ref b :: rest) (hd : decode c.code g.pc = .ok (.aastore, 1)) :
    ∃ T' h', Stand p l e R s m args below meth c T' (locs ++ [⟨b, j.toNatClampNeg⟩]) cells slots ∧ T'.heap = h' ∧ own_Inv Z W h' b k (i + 1) n0 ∧ ∀ target, Steps p.tables e below (T'.setTop { g with pc := g.pc + 1, stack := rest }) target → Steps p.tables e below (T.setTop g) target := by
  obtain ⟨hS, hE, ⟨vs, ⟨c', A, q1, S, q3, H, G⟩, hl, hv⟩, O, hz⟩ := I
  have S' : c'.slots.size = 18 := S.trans (by decide)
  obtain ⟨T', h', X', e', Wr', st⟩ := stR X hx hZ eT A (j := j) (fun q => q.elim hj0 (fun q => by rw [S', hjn] at q; omega)) rfl (Sto.ofV A q1 O (Ins.self (hE i hi))) hg hs hd
  refine ⟨T', h', X', e', ⟨own_Stas_wr Wr' hS, fun i hi => (hE i hi).wr Wr', ⟨vs.set i (.ref (W i)), Arv.set A q1 S q3 H G rfl Wr' i hjn (by omega), by simp [hl], fun m hm => ?_⟩, O, by rw [Wr'.size]; exact hz⟩, st⟩
  rw [List.getD_eq_getElem?_getD, List.getElem?_set]
  by_cases q : i = m
  · subst q; simp [hl, hi]
  · rw [if_neg q, ← List.getD_eq_getElem?_getD]; exact hv m (by omega)
def own_at (W : Nat → Addr) (j : Int32) : Addr := W j.toNatClampNeg
theorem own_get {Z : State} {W : Nat → Addr} {h : Heap} {b : Addr} {k : ClassId} {j : Int32} (F : ∃ vs : List Value, Arv Z h b k (.object "com/example/intreccio/intreccio/model/Binary$Operator") (18 : Int32) vs .null ∧ vs.length = 18 ∧ ∀ m, m < 18 → vs.getD m .null = .ref (W m)) (hin : ¬ (j < 0 ∨ 18 ≤ j.toNatClampNeg)) :
    ∃ c : Cell, h[b]? = some c ∧ Z.isArrayOf c (.object "com/example/intreccio/intreccio/model/Binary$Operator") ∧ c.vm ≠ .unknown ∧ ¬ (j < 0 ∨ c.slots.size ≤ j.toNatClampNeg) ∧ c.slots[j.toNatClampNeg]? = some (.ref (own_at W j)) := by
  obtain ⟨vs, ⟨c, A, q1, S, q3, H, G⟩, hl, hv⟩ := F
  have S' : c.slots.size = 18 := S.trans (by decide)
  have hin' : ¬ (j < 0 ∨ c.slots.size ≤ j.toNatClampNeg) := by rw [S']; exact hin
  exact ⟨c, A.1, A.2.1, A.2.2, hin', H.at hin' (hv _ (Nat.lt_of_not_le fun q => hin (Or.inr q)))⟩
theorem own_exa {Z : State} {W : Nat → Addr} {h : Heap} {j : Int32} (hE : ∀ i, i < 18 → Exa Z h (W i) "com/example/intreccio/intreccio/model/Binary$Operator") (hin : ¬ (j < 0 ∨ 18 ≤ j.toNatClampNeg)) : Exa Z h (own_at W j) "com/example/intreccio/intreccio/model/Binary$Operator" := hE _ (Nat.lt_of_not_le fun q => hin (Or.inr q))

theorem own_pn1 : plainName "com/example/intreccio/intreccio/model/OperatorIsDivisionPinLaw" = true := by first | (simp [plainName, overriddenIn]; done) | decide +kernel
theorem own_pd0 : parseMethodDescriptor "()Z" = some ⟨[], some .boolean⟩ := by decide +kernel
theorem ef0 (m : MethodId) (p1 : Int32) : entryFrame m #[(.int p1)] maxLocals = mkF m 0 #[.val (.int p1), .unset, .unset, .unset, .unset] [] := by first | (simp [entryFrame, mkF, argsToLocals, Value.category, maxLocals]; done) | rfl
def V0 (W : Nat → Addr) (p1 : Int32) : Int32 := (if ((p1 &&& (2147483647 : Int32)) % (18 : Int32)) = (3 : Int32) then (if (V1 W (own_at W ((p1 &&& (2147483647 : Int32)) % (18 : Int32)))) = (1 : Int32) then (1 : Int32) else (0 : Int32)) else (if ((p1 &&& (2147483647 : Int32)) % (18 : Int32)) = (4 : Int32) then (if (V1 W (own_at W ((p1 &&& (2147483647 : Int32)) % (18 : Int32)))) = (1 : Int32) then (1 : Int32) else (0 : Int32)) else (if (V1 W (own_at W ((p1 &&& (2147483647 : Int32)) % (18 : Int32)))) = (0 : Int32) then (1 : Int32) else (0 : Int32))))
theorem own_V0 (W : Nat → Addr) (p1 : Int32) : V0 W p1 = (if ((p1 &&& (2147483647 : Int32)) % (18 : Int32)) = (3 : Int32) then (if (V1 W (own_at W ((p1 &&& (2147483647 : Int32)) % (18 : Int32)))) = (1 : Int32) then (1 : Int32) else (0 : Int32)) else (if ((p1 &&& (2147483647 : Int32)) % (18 : Int32)) = (4 : Int32) then (if (V1 W (own_at W ((p1 &&& (2147483647 : Int32)) % (18 : Int32)))) = (1 : Int32) then (1 : Int32) else (0 : Int32)) else (if (V1 W (own_at W ((p1 &&& (2147483647 : Int32)) % (18 : Int32)))) = (0 : Int32) then (1 : Int32) else (0 : Int32)))) := rfl
set_option maxRecDepth 65536 in
set_option maxHeartbeats 40000000 in
theorem rm0 (l : Launch) (Z : State) (a0 : Array Value) (hw : ∀ d ∈ tables_1, d.before a0 Z = true) (ws : List Jvm.Cond) (p1 : Int32) (W : Nat → Addr) (h0 : Heap) (n0 : Nat) (Z0 : n0 ≤ h0.size) (hS : own_Stas Z h0 W) (hE : ∀ i, i < 18 → Exa Z h0 (W i) "com/example/intreccio/intreccio/model/Binary$Operator") (hin : ¬ (((p1 &&& (2147483647 : Int32)) % (18 : Int32)) < 0 ∨ 18 ≤ (((p1 &&& (2147483647 : Int32)) % (18 : Int32))).toNatClampNeg)) :
    own_ConW l Z x code maxLocals ret room_1 #[(.int p1)] h0 n0 (.int (V0 W p1)) ws := by
  refine MetFree.of_bodySF (plainFor_of_name own_pn1) hisR ?_
  intro p e s m args below meth c s₁ Bd hml0 hP hK
  obtain ⟨rfl, hZ, hh⟩ := hP
  have hx := Bd.exec
  have hby := Bd.bytes
  have hml : c.maxLocals = 5 := hml0
  have hown : s.vm.findClass "com/example/intreccio/intreccio/model/OperatorIsDivisionPinLaw" = some m.cls := findClass_of_methodNamed Bd.named
  have X0 : Stand p l e room_1 s m #[(.int p1)] below meth c s₁ [] 0 0 := Stand.of_body Bd
  have e0 : s₁.heap = h0 := by rw [← hh, Bd.state]; rfl
  have N0 := Fr.nil n0
  refine own_cast (ef0 m p1) ?_
  refine own_step (T' := s₁) (g' := (mkF m 2 #[.val (.int p1), .unset, .unset, .unset, .unset] [(.int (18 : Int32))])) (fun t k => XS.bipush X0.here hx rfl (hb hby at_0) k) ?_
  obtain ⟨T1, h1, kA, X1, e1, Ex1, A1, O1, st1⟩ := newR X0 hx hZ hown (hw _ (List.mem_of_getElem? (i := 0) rfl)) (hw _ (List.mem_of_getElem? (i := 1) rfl)) e0 (g := (mkF m 2 #[.val (.int p1), .unset, .unset, .unset, .unset] [(.int (18 : Int32))])) rfl (hb hby at_2) rfl (by decide) (cap := 18) (by decide) (by decide) (by decide) (by decide)
  obtain ⟨b, gb⟩ : ∃ z, z = h0.size := ⟨_, rfl⟩
  rw [← gb] at A1 st1
  have I1 := own_inv0 hS hE Z0 Ex1 A1 O1
  have gb2 : n0 ≤ b := Nat.le_trans Z0 (Nat.le_of_eq gb.symm)
  refine own_step (T' := T1) (g' := (mkF m 5 #[.val (.int p1), .unset, .unset, .unset, .unset] [(.ref b)])) (fun t k => st1 t k) ?_
  refine own_step (T' := T1) (g' := (mkF m 6 #[.val (.int p1), .unset, .unset, .unset, .unset] [(.ref b), (.ref b)])) (fun t k => XS.dup X1.here hx rfl (hb hby at_5) rfl rfl k) ?_
  refine own_step (T' := T1) (g' := (mkF m 7 #[.val (.int p1), .unset, .unset, .unset, .unset] [(.int (0 : Int32)), (.ref b), (.ref b)])) (fun t k => XS.iconst X1.here hx rfl (hb hby at_6) k) ?_
  obtain ⟨T2, X2, e2, st2⟩ := getS2 X1 hx hZ hown (host := "") (Or.inl (hw _ (List.mem_of_getElem? (i := 2) rfl))) Via.refl e1 I1.1.1 (g := (mkF m 7 #[.val (.int p1), .unset, .unset, .unset, .unset] [(.int (0 : Int32)), (.ref b), (.ref b)])) rfl (hb hby at_7)
  refine own_step (T' := T2) (g' := (mkF m 10 #[.val (.int p1), .unset, .unset, .unset, .unset] [(.ref (W 0)), (.int (0 : Int32)), (.ref b), (.ref b)])) (fun t k => st2 t k) ?_
  obtain ⟨T3, h3, X3, e3, I3, st3⟩ := own_put X2 hx hZ e2 (i := 0) I1 (by decide) (j := (0 : Int32)) (by decide) (by decide) (g := (mkF m 10 #[.val (.int p1), .unset, .unset, .unset, .unset] [(.ref (W 0)), (.int (0 : Int32)), (.ref b), (.ref b)])) rfl rfl (hb hby at_10)
  have N3 := Fr.snoc X3 N0 gb2
  refine own_step (T' := T3) (g' := (mkF m 11 #[.val (.int p1), .unset, .unset, .unset, .unset] [(.ref b)])) (fun t k => st3 t k) ?_
  refine own_step (T' := T3) (g' := (mkF m 12 #[.val (.int p1), .unset, .unset, .unset, .unset] [(.ref b), (.ref b)])) (fun t k => XS.dup X3.here hx rfl (hb hby at_11) rfl rfl k) ?_
  refine own_step (T' := T3) (g' := (mkF m 13 #[.val (.int p1), .unset, .unset, .unset, .unset] [(.int (1 : Int32)), (.ref b), (.ref b)])) (fun t k => XS.iconst X3.here hx rfl (hb hby at_12) k) ?_
  obtain ⟨T4, X4, e4, st4⟩ := getS2 X3 hx hZ hown (host := "") (Or.inl (hw _ (List.mem_of_getElem? (i := 6) rfl))) Via.refl e3 I3.1.2.1 (g := (mkF m 13 #[.val (.int p1), .unset, .unset, .unset, .unset] [(.int (1 : Int32)), (.ref b), (.ref b)])) rfl (hb hby at_13)
  refine own_step (T' := T4) (g' := (mkF m 16 #[.val (.int p1), .unset, .unset, .unset, .unset] [(.ref (W 1)), (.int (1 : Int32)), (.ref b), (.ref b)])) (fun t k => st4 t k) ?_
  obtain ⟨T5, h5, X5, e5, I5, st5⟩ := own_put X4 hx hZ e4 (i := 1) I3 (by decide) (j := (1 : Int32)) (by decide) (by decide) (g := (mkF m 16 #[.val (.int p1), .unset, .unset, .unset, .unset] [(.ref (W 1)), (.int (1 : Int32)), (.ref b), (.ref b)])) rfl rfl (hb hby at_16)
  have N5 := Fr.snoc X5 N3 gb2
  refine own_step (T' := T5) (g' := (mkF m 17 #[.val (.int p1), .unset, .unset, .unset, .unset] [(.ref b)])) (fun t k => st5 t k) ?_
  refine own_step (T' := T5) (g' := (mkF m 18 #[.val (.int p1), .unset, .unset, .unset, .unset] [(.ref b), (.ref b)])) (fun t k => XS.dup X5.here hx rfl (hb hby at_17) rfl rfl k) ?_
  refine own_step (T' := T5) (g' := (mkF m 19 #[.val (.int p1), .unset, .unset, .unset, .unset] [(.int (2 : Int32)), (.ref b), (.ref b)])) (fun t k => XS.iconst X5.here hx rfl (hb hby at_18) k) ?_
  obtain ⟨T6, X6, e6, st6⟩ := getS2 X5 hx hZ hown (host := "") (Or.inl (hw _ (List.mem_of_getElem? (i := 8) rfl))) Via.refl e5 I5.1.2.2.1 (g := (mkF m 19 #[.val (.int p1), .unset, .unset, .unset, .unset] [(.int (2 : Int32)), (.ref b), (.ref b)])) rfl (hb hby at_19)
  refine own_step (T' := T6) (g' := (mkF m 22 #[.val (.int p1), .unset, .unset, .unset, .unset] [(.ref (W 2)), (.int (2 : Int32)), (.ref b), (.ref b)])) (fun t k => st6 t k) ?_
  obtain ⟨T7, h7, X7, e7, I7, st7⟩ := own_put X6 hx hZ e6 (i := 2) I5 (by decide) (j := (2 : Int32)) (by decide) (by decide) (g := (mkF m 22 #[.val (.int p1), .unset, .unset, .unset, .unset] [(.ref (W 2)), (.int (2 : Int32)), (.ref b), (.ref b)])) rfl rfl (hb hby at_22)
  have N7 := Fr.snoc X7 N5 gb2
  refine own_step (T' := T7) (g' := (mkF m 23 #[.val (.int p1), .unset, .unset, .unset, .unset] [(.ref b)])) (fun t k => st7 t k) ?_
  refine own_step (T' := T7) (g' := (mkF m 24 #[.val (.int p1), .unset, .unset, .unset, .unset] [(.ref b), (.ref b)])) (fun t k => XS.dup X7.here hx rfl (hb hby at_23) rfl rfl k) ?_
  refine own_step (T' := T7) (g' := (mkF m 25 #[.val (.int p1), .unset, .unset, .unset, .unset] [(.int (3 : Int32)), (.ref b), (.ref b)])) (fun t k => XS.iconst X7.here hx rfl (hb hby at_24) k) ?_
  obtain ⟨T8, X8, e8, st8⟩ := getS2 X7 hx hZ hown (host := "") (Or.inl (hw _ (List.mem_of_getElem? (i := 10) rfl))) Via.refl e7 I7.1.2.2.2.1 (g := (mkF m 25 #[.val (.int p1), .unset, .unset, .unset, .unset] [(.int (3 : Int32)), (.ref b), (.ref b)])) rfl (hb hby at_25)
  refine own_step (T' := T8) (g' := (mkF m 28 #[.val (.int p1), .unset, .unset, .unset, .unset] [(.ref (W 3)), (.int (3 : Int32)), (.ref b), (.ref b)])) (fun t k => st8 t k) ?_
  obtain ⟨T9, h9, X9, e9, I9, st9⟩ := own_put X8 hx hZ e8 (i := 3) I7 (by decide) (j := (3 : Int32)) (by decide) (by decide) (g := (mkF m 28 #[.val (.int p1), .unset, .unset, .unset, .unset] [(.ref (W 3)), (.int (3 : Int32)), (.ref b), (.ref b)])) rfl rfl (hb hby at_28)
  have N9 := Fr.snoc X9 N7 gb2
  refine own_step (T' := T9) (g' := (mkF m 29 #[.val (.int p1), .unset, .unset, .unset, .unset] [(.ref b)])) (fun t k => st9 t k) ?_
  refine own_step (T' := T9) (g' := (mkF m 30 #[.val (.int p1), .unset, .unset, .unset, .unset] [(.ref b), (.ref b)])) (fun t k => XS.dup X9.here hx rfl (hb hby at_29) rfl rfl k) ?_
  refine own_step (T' := T9) (g' := (mkF m 31 #[.val (.int p1), .unset, .unset, .unset, .unset] [(.int (4 : Int32)), (.ref b), (.ref b)])) (fun t k => XS.iconst X9.here hx rfl (hb hby at_30) k) ?_
  obtain ⟨T10, X10, e10, st10⟩ := getS2 X9 hx hZ hown (host := "") (Or.inl (hw _ (List.mem_of_getElem? (i := 12) rfl))) Via.refl e9 I9.1.2.2.2.2.1 (g := (mkF m 31 #[.val (.int p1), .unset, .unset, .unset, .unset] [(.int (4 : Int32)), (.ref b), (.ref b)])) rfl (hb hby at_31)
  refine own_step (T' := T10) (g' := (mkF m 34 #[.val (.int p1), .unset, .unset, .unset, .unset] [(.ref (W 4)), (.int (4 : Int32)), (.ref b), (.ref b)])) (fun t k => st10 t k) ?_
  obtain ⟨T11, h11, X11, e11, I11, st11⟩ := own_put X10 hx hZ e10 (i := 4) I9 (by decide) (j := (4 : Int32)) (by decide) (by decide) (g := (mkF m 34 #[.val (.int p1), .unset, .unset, .unset, .unset] [(.ref (W 4)), (.int (4 : Int32)), (.ref b), (.ref b)])) rfl rfl (hb hby at_34)
  have N11 := Fr.snoc X11 N9 gb2
  refine own_step (T' := T11) (g' := (mkF m 35 #[.val (.int p1), .unset, .unset, .unset, .unset] [(.ref b)])) (fun t k => st11 t k) ?_
  refine own_step (T' := T11) (g' := (mkF m 36 #[.val (.int p1), .unset, .unset, .unset, .unset] [(.ref b), (.ref b)])) (fun t k => XS.dup X11.here hx rfl (hb hby at_35) rfl rfl k) ?_
  refine own_step (T' := T11) (g' := (mkF m 37 #[.val (.int p1), .unset, .unset, .unset, .unset] [(.int (5 : Int32)), (.ref b), (.ref b)])) (fun t k => XS.iconst X11.here hx rfl (hb hby at_36) k) ?_
  obtain ⟨T12, X12, e12, st12⟩ := getS2 X11 hx hZ hown (host := "") (Or.inl (hw _ (List.mem_of_getElem? (i := 14) rfl))) Via.refl e11 I11.1.2.2.2.2.2.1 (g := (mkF m 37 #[.val (.int p1), .unset, .unset, .unset, .unset] [(.int (5 : Int32)), (.ref b), (.ref b)])) rfl (hb hby at_37)
  refine own_step (T' := T12) (g' := (mkF m 40 #[.val (.int p1), .unset, .unset, .unset, .unset] [(.ref (W 5)), (.int (5 : Int32)), (.ref b), (.ref b)])) (fun t k => st12 t k) ?_
  obtain ⟨T13, h13, X13, e13, I13, st13⟩ := own_put X12 hx hZ e12 (i := 5) I11 (by decide) (j := (5 : Int32)) (by decide) (by decide) (g := (mkF m 40 #[.val (.int p1), .unset, .unset, .unset, .unset] [(.ref (W 5)), (.int (5 : Int32)), (.ref b), (.ref b)])) rfl rfl (hb hby at_40)
  have N13 := Fr.snoc X13 N11 gb2
  refine own_step (T' := T13) (g' := (mkF m 41 #[.val (.int p1), .unset, .unset, .unset, .unset] [(.ref b)])) (fun t k => st13 t k) ?_
  refine own_step (T' := T13) (g' := (mkF m 42 #[.val (.int p1), .unset, .unset, .unset, .unset] [(.ref b), (.ref b)])) (fun t k => XS.dup X13.here hx rfl (hb hby at_41) rfl rfl k) ?_
  refine own_step (T' := T13) (g' := (mkF m 44 #[.val (.int p1), .unset, .unset, .unset, .unset] [(.int (6 : Int32)), (.ref b), (.ref b)])) (fun t k => XS.bipush X13.here hx rfl (hb hby at_42) k) ?_
  obtain ⟨T14, X14, e14, st14⟩ := getS2 X13 hx hZ hown (host := "") (Or.inl (hw _ (List.mem_of_getElem? (i := 16) rfl))) Via.refl e13 I13.1.2.2.2.2.2.2.1 (g := (mkF m 44 #[.val (.int p1), .unset, .unset, .unset, .unset] [(.int (6 : Int32)), (.ref b), (.ref b)])) rfl (hb hby at_44)
  refine own_step (T' := T14) (g' := (mkF m 47 #[.val (.int p1), .unset, .unset, .unset, .unset] [(.ref (W 6)), (.int (6 : Int32)), (.ref b), (.ref b)])) (fun t k => st14 t k) ?_
  obtain ⟨T15, h15, X15, e15, I15, st15⟩ := own_put X14 hx hZ e14 (i := 6) I13 (by decide) (j := (6 : Int32)) (by decide) (by decide) (g := (mkF m 47 #[.val (.int p1), .unset, .unset, .unset, .unset] [(.ref (W 6)), (.int (6 : Int32)), (.ref b), (.ref b)])) rfl rfl (hb hby at_47)
  have N15 := Fr.snoc X15 N13 gb2
  refine own_step (T' := T15) (g' := (mkF m 48 #[.val (.int p1), .unset, .unset, .unset, .unset] [(.ref b)])) (fun t k => st15 t k) ?_
  refine own_step (T' := T15) (g' := (mkF m 49 #[.val (.int p1), .unset, .unset, .unset, .unset] [(.ref b), (.ref b)])) (fun t k => XS.dup X15.here hx rfl (hb hby at_48) rfl rfl k) ?_
  refine own_step (T' := T15) (g' := (mkF m 51 #[.val (.int p1), .unset, .unset, .unset, .unset] [(.int (7 : Int32)), (.ref b), (.ref b)])) (fun t k => XS.bipush X15.here hx rfl (hb hby at_49) k) ?_
  obtain ⟨T16, X16, e16, st16⟩ := getS2 X15 hx hZ hown (host := "") (Or.inl (hw _ (List.mem_of_getElem? (i := 18) rfl))) Via.refl e15 I15.1.2.2.2.2.2.2.2.1 (g := (mkF m 51 #[.val (.int p1), .unset, .unset, .unset, .unset] [(.int (7 : Int32)), (.ref b), (.ref b)])) rfl (hb hby at_51)
  refine own_step (T' := T16) (g' := (mkF m 54 #[.val (.int p1), .unset, .unset, .unset, .unset] [(.ref (W 7)), (.int (7 : Int32)), (.ref b), (.ref b)])) (fun t k => st16 t k) ?_
  obtain ⟨T17, h17, X17, e17, I17, st17⟩ := own_put X16 hx hZ e16 (i := 7) I15 (by decide) (j := (7 : Int32)) (by decide) (by decide) (g := (mkF m 54 #[.val (.int p1), .unset, .unset, .unset, .unset] [(.ref (W 7)), (.int (7 : Int32)), (.ref b), (.ref b)])) rfl rfl (hb hby at_54)
  have N17 := Fr.snoc X17 N15 gb2
  refine own_step (T' := T17) (g' := (mkF m 55 #[.val (.int p1), .unset, .unset, .unset, .unset] [(.ref b)])) (fun t k => st17 t k) ?_
  refine own_step (T' := T17) (g' := (mkF m 56 #[.val (.int p1), .unset, .unset, .unset, .unset] [(.ref b), (.ref b)])) (fun t k => XS.dup X17.here hx rfl (hb hby at_55) rfl rfl k) ?_
  refine own_step (T' := T17) (g' := (mkF m 58 #[.val (.int p1), .unset, .unset, .unset, .unset] [(.int (8 : Int32)), (.ref b), (.ref b)])) (fun t k => XS.bipush X17.here hx rfl (hb hby at_56) k) ?_
  obtain ⟨T18, X18, e18, st18⟩ := getS2 X17 hx hZ hown (host := "") (Or.inl (hw _ (List.mem_of_getElem? (i := 20) rfl))) Via.refl e17 I17.1.2.2.2.2.2.2.2.2.1 (g := (mkF m 58 #[.val (.int p1), .unset, .unset, .unset, .unset] [(.int (8 : Int32)), (.ref b), (.ref b)])) rfl (hb hby at_58)
  refine own_step (T' := T18) (g' := (mkF m 61 #[.val (.int p1), .unset, .unset, .unset, .unset] [(.ref (W 8)), (.int (8 : Int32)), (.ref b), (.ref b)])) (fun t k => st18 t k) ?_
  obtain ⟨T19, h19, X19, e19, I19, st19⟩ := own_put X18 hx hZ e18 (i := 8) I17 (by decide) (j := (8 : Int32)) (by decide) (by decide) (g := (mkF m 61 #[.val (.int p1), .unset, .unset, .unset, .unset] [(.ref (W 8)), (.int (8 : Int32)), (.ref b), (.ref b)])) rfl rfl (hb hby at_61)
  have N19 := Fr.snoc X19 N17 gb2
  refine own_step (T' := T19) (g' := (mkF m 62 #[.val (.int p1), .unset, .unset, .unset, .unset] [(.ref b)])) (fun t k => st19 t k) ?_
  refine own_step (T' := T19) (g' := (mkF m 63 #[.val (.int p1), .unset, .unset, .unset, .unset] [(.ref b), (.ref b)])) (fun t k => XS.dup X19.here hx rfl (hb hby at_62) rfl rfl k) ?_
  refine own_step (T' := T19) (g' := (mkF m 65 #[.val (.int p1), .unset, .unset, .unset, .unset] [(.int (9 : Int32)), (.ref b), (.ref b)])) (fun t k => XS.bipush X19.here hx rfl (hb hby at_63) k) ?_
  obtain ⟨T20, X20, e20, st20⟩ := getS2 X19 hx hZ hown (host := "") (Or.inl (hw _ (List.mem_of_getElem? (i := 22) rfl))) Via.refl e19 I19.1.2.2.2.2.2.2.2.2.2.1 (g := (mkF m 65 #[.val (.int p1), .unset, .unset, .unset, .unset] [(.int (9 : Int32)), (.ref b), (.ref b)])) rfl (hb hby at_65)
  refine own_step (T' := T20) (g' := (mkF m 68 #[.val (.int p1), .unset, .unset, .unset, .unset] [(.ref (W 9)), (.int (9 : Int32)), (.ref b), (.ref b)])) (fun t k => st20 t k) ?_
  obtain ⟨T21, h21, X21, e21, I21, st21⟩ := own_put X20 hx hZ e20 (i := 9) I19 (by decide) (j := (9 : Int32)) (by decide) (by decide) (g := (mkF m 68 #[.val (.int p1), .unset, .unset, .unset, .unset] [(.ref (W 9)), (.int (9 : Int32)), (.ref b), (.ref b)])) rfl rfl (hb hby at_68)
  have N21 := Fr.snoc X21 N19 gb2
  refine own_step (T' := T21) (g' := (mkF m 69 #[.val (.int p1), .unset, .unset, .unset, .unset] [(.ref b)])) (fun t k => st21 t k) ?_
  refine own_step (T' := T21) (g' := (mkF m 70 #[.val (.int p1), .unset, .unset, .unset, .unset] [(.ref b), (.ref b)])) (fun t k => XS.dup X21.here hx rfl (hb hby at_69) rfl rfl k) ?_
  refine own_step (T' := T21) (g' := (mkF m 72 #[.val (.int p1), .unset, .unset, .unset, .unset] [(.int (10 : Int32)), (.ref b), (.ref b)])) (fun t k => XS.bipush X21.here hx rfl (hb hby at_70) k) ?_
  obtain ⟨T22, X22, e22, st22⟩ := getS2 X21 hx hZ hown (host := "") (Or.inl (hw _ (List.mem_of_getElem? (i := 24) rfl))) Via.refl e21 I21.1.2.2.2.2.2.2.2.2.2.2.1 (g := (mkF m 72 #[.val (.int p1), .unset, .unset, .unset, .unset] [(.int (10 : Int32)), (.ref b), (.ref b)])) rfl (hb hby at_72)
  refine own_step (T' := T22) (g' := (mkF m 75 #[.val (.int p1), .unset, .unset, .unset, .unset] [(.ref (W 10)), (.int (10 : Int32)), (.ref b), (.ref b)])) (fun t k => st22 t k) ?_
  obtain ⟨T23, h23, X23, e23, I23, st23⟩ := own_put X22 hx hZ e22 (i := 10) I21 (by decide) (j := (10 : Int32)) (by decide) (by decide) (g := (mkF m 75 #[.val (.int p1), .unset, .unset, .unset, .unset] [(.ref (W 10)), (.int (10 : Int32)), (.ref b), (.ref b)])) rfl rfl (hb hby at_75)
  have N23 := Fr.snoc X23 N21 gb2
  refine own_step (T' := T23) (g' := (mkF m 76 #[.val (.int p1), .unset, .unset, .unset, .unset] [(.ref b)])) (fun t k => st23 t k) ?_
  refine own_step (T' := T23) (g' := (mkF m 77 #[.val (.int p1), .unset, .unset, .unset, .unset] [(.ref b), (.ref b)])) (fun t k => XS.dup X23.here hx rfl (hb hby at_76) rfl rfl k) ?_
  refine own_step (T' := T23) (g' := (mkF m 79 #[.val (.int p1), .unset, .unset, .unset, .unset] [(.int (11 : Int32)), (.ref b), (.ref b)])) (fun t k => XS.bipush X23.here hx rfl (hb hby at_77) k) ?_
  obtain ⟨T24, X24, e24, st24⟩ := getS2 X23 hx hZ hown (host := "") (Or.inl (hw _ (List.mem_of_getElem? (i := 26) rfl))) Via.refl e23 I23.1.2.2.2.2.2.2.2.2.2.2.2.1 (g := (mkF m 79 #[.val (.int p1), .unset, .unset, .unset, .unset] [(.int (11 : Int32)), (.ref b), (.ref b)])) rfl (hb hby at_79)
  refine own_step (T' := T24) (g' := (mkF m 82 #[.val (.int p1), .unset, .unset, .unset, .unset] [(.ref (W 11)), (.int (11 : Int32)), (.ref b), (.ref b)])) (fun t k => st24 t k) ?_
  obtain ⟨T25, h25, X25, e25, I25, st25⟩ := own_put X24 hx hZ e24 (i := 11) I23 (by decide) (j := (11 : Int32)) (by decide) (by decide) (g := (mkF m 82 #[.val (.int p1), .unset, .unset, .unset, .unset] [(.ref (W 11)), (.int (11 : Int32)), (.ref b), (.ref b)])) rfl rfl (hb hby at_82)
  have N25 := Fr.snoc X25 N23 gb2
  refine own_step (T' := T25) (g' := (mkF m 83 #[.val (.int p1), .unset, .unset, .unset, .unset] [(.ref b)])) (fun t k => st25 t k) ?_
  refine own_step (T' := T25) (g' := (mkF m 84 #[.val (.int p1), .unset, .unset, .unset, .unset] [(.ref b), (.ref b)])) (fun t k => XS.dup X25.here hx rfl (hb hby at_83) rfl rfl k) ?_
  refine own_step (T' := T25) (g' := (mkF m 86 #[.val (.int p1), .unset, .unset, .unset, .unset] [(.int (12 : Int32)), (.ref b), (.ref b)])) (fun t k => XS.bipush X25.here hx rfl (hb hby at_84) k) ?_
  obtain ⟨T26, X26, e26, st26⟩ := getS2 X25 hx hZ hown (host := "") (Or.inl (hw _ (List.mem_of_getElem? (i := 28) rfl))) Via.refl e25 I25.1.2.2.2.2.2.2.2.2.2.2.2.2.1 (g := (mkF m 86 #[.val (.int p1), .unset, .unset, .unset, .unset] [(.int (12 : Int32)), (.ref b), (.ref b)])) rfl (hb hby at_86)
  refine own_step (T' := T26) (g' := (mkF m 89 #[.val (.int p1), .unset, .unset, .unset, .unset] [(.ref (W 12)), (.int (12 : Int32)), (.ref b), (.ref b)])) (fun t k => st26 t k) ?_
  obtain ⟨T27, h27, X27, e27, I27, st27⟩ := own_put X26 hx hZ e26 (i := 12) I25 (by decide) (j := (12 : Int32)) (by decide) (by decide) (g := (mkF m 89 #[.val (.int p1), .unset, .unset, .unset, .unset] [(.ref (W 12)), (.int (12 : Int32)), (.ref b), (.ref b)])) rfl rfl (hb hby at_89)
  have N27 := Fr.snoc X27 N25 gb2
  refine own_step (T' := T27) (g' := (mkF m 90 #[.val (.int p1), .unset, .unset, .unset, .unset] [(.ref b)])) (fun t k => st27 t k) ?_
  refine own_step (T' := T27) (g' := (mkF m 91 #[.val (.int p1), .unset, .unset, .unset, .unset] [(.ref b), (.ref b)])) (fun t k => XS.dup X27.here hx rfl (hb hby at_90) rfl rfl k) ?_
  refine own_step (T' := T27) (g' := (mkF m 93 #[.val (.int p1), .unset, .unset, .unset, .unset] [(.int (13 : Int32)), (.ref b), (.ref b)])) (fun t k => XS.bipush X27.here hx rfl (hb hby at_91) k) ?_
  obtain ⟨T28, X28, e28, st28⟩ := getS2 X27 hx hZ hown (host := "") (Or.inl (hw _ (List.mem_of_getElem? (i := 30) rfl))) Via.refl e27 I27.1.2.2.2.2.2.2.2.2.2.2.2.2.2.1 (g := (mkF m 93 #[.val (.int p1), .unset, .unset, .unset, .unset] [(.int (13 : Int32)), (.ref b), (.ref b)])) rfl (hb hby at_93)
  refine own_step (T' := T28) (g' := (mkF m 96 #[.val (.int p1), .unset, .unset, .unset, .unset] [(.ref (W 13)), (.int (13 : Int32)), (.ref b), (.ref b)])) (fun t k => st28 t k) ?_
  obtain ⟨T29, h29, X29, e29, I29, st29⟩ := own_put X28 hx hZ e28 (i := 13) I27 (by decide) (j := (13 : Int32)) (by decide) (by decide) (g := (mkF m 96 #[.val (.int p1), .unset, .unset, .unset, .unset] [(.ref (W 13)), (.int (13 : Int32)), (.ref b), (.ref b)])) rfl rfl (hb hby at_96)
  have N29 := Fr.snoc X29 N27 gb2
  refine own_step (T' := T29) (g' := (mkF m 97 #[.val (.int p1), .unset, .unset, .unset, .unset] [(.ref b)])) (fun t k => st29 t k) ?_
  refine own_step (T' := T29) (g' := (mkF m 98 #[.val (.int p1), .unset, .unset, .unset, .unset] [(.ref b), (.ref b)])) (fun t k => XS.dup X29.here hx rfl (hb hby at_97) rfl rfl k) ?_
  refine own_step (T' := T29) (g' := (mkF m 100 #[.val (.int p1), .unset, .unset, .unset, .unset] [(.int (14 : Int32)), (.ref b), (.ref b)])) (fun t k => XS.bipush X29.here hx rfl (hb hby at_98) k) ?_
  obtain ⟨T30, X30, e30, st30⟩ := getS2 X29 hx hZ hown (host := "") (Or.inl (hw _ (List.mem_of_getElem? (i := 32) rfl))) Via.refl e29 I29.1.2.2.2.2.2.2.2.2.2.2.2.2.2.2.1 (g := (mkF m 100 #[.val (.int p1), .unset, .unset, .unset, .unset] [(.int (14 : Int32)), (.ref b), (.ref b)])) rfl (hb hby at_100)
  refine own_step (T' := T30) (g' := (mkF m 103 #[.val (.int p1), .unset, .unset, .unset, .unset] [(.ref (W 14)), (.int (14 : Int32)), (.ref b), (.ref b)])) (fun t k => st30 t k) ?_
  obtain ⟨T31, h31, X31, e31, I31, st31⟩ := own_put X30 hx hZ e30 (i := 14) I29 (by decide) (j := (14 : Int32)) (by decide) (by decide) (g := (mkF m 103 #[.val (.int p1), .unset, .unset, .unset, .unset] [(.ref (W 14)), (.int (14 : Int32)), (.ref b), (.ref b)])) rfl rfl (hb hby at_103)
  have N31 := Fr.snoc X31 N29 gb2
  refine own_step (T' := T31) (g' := (mkF m 104 #[.val (.int p1), .unset, .unset, .unset, .unset] [(.ref b)])) (fun t k => st31 t k) ?_
  refine own_step (T' := T31) (g' := (mkF m 105 #[.val (.int p1), .unset, .unset, .unset, .unset] [(.ref b), (.ref b)])) (fun t k => XS.dup X31.here hx rfl (hb hby at_104) rfl rfl k) ?_
  refine own_step (T' := T31) (g' := (mkF m 107 #[.val (.int p1), .unset, .unset, .unset, .unset] [(.int (15 : Int32)), (.ref b), (.ref b)])) (fun t k => XS.bipush X31.here hx rfl (hb hby at_105) k) ?_
  obtain ⟨T32, X32, e32, st32⟩ := getS2 X31 hx hZ hown (host := "") (Or.inl (hw _ (List.mem_of_getElem? (i := 34) rfl))) Via.refl e31 I31.1.2.2.2.2.2.2.2.2.2.2.2.2.2.2.2.1 (g := (mkF m 107 #[.val (.int p1), .unset, .unset, .unset, .unset] [(.int (15 : Int32)), (.ref b), (.ref b)])) rfl (hb hby at_107)
  refine own_step (T' := T32) (g' := (mkF m 110 #[.val (.int p1), .unset, .unset, .unset, .unset] [(.ref (W 15)), (.int (15 : Int32)), (.ref b), (.ref b)])) (fun t k => st32 t k) ?_
  obtain ⟨T33, h33, X33, e33, I33, st33⟩ := own_put X32 hx hZ e32 (i := 15) I31 (by decide) (j := (15 : Int32)) (by decide) (by decide) (g := (mkF m 110 #[.val (.int p1), .unset, .unset, .unset, .unset] [(.ref (W 15)), (.int (15 : Int32)), (.ref b), (.ref b)])) rfl rfl (hb hby at_110)
  have N33 := Fr.snoc X33 N31 gb2
  refine own_step (T' := T33) (g' := (mkF m 111 #[.val (.int p1), .unset, .unset, .unset, .unset] [(.ref b)])) (fun t k => st33 t k) ?_
  refine own_step (T' := T33) (g' := (mkF m 112 #[.val (.int p1), .unset, .unset, .unset, .unset] [(.ref b), (.ref b)])) (fun t k => XS.dup X33.here hx rfl (hb hby at_111) rfl rfl k) ?_
  refine own_step (T' := T33) (g' := (mkF m 114 #[.val (.int p1), .unset, .unset, .unset, .unset] [(.int (16 : Int32)), (.ref b), (.ref b)])) (fun t k => XS.bipush X33.here hx rfl (hb hby at_112) k) ?_
  obtain ⟨T34, X34, e34, st34⟩ := getS2 X33 hx hZ hown (host := "") (Or.inl (hw _ (List.mem_of_getElem? (i := 36) rfl))) Via.refl e33 I33.1.2.2.2.2.2.2.2.2.2.2.2.2.2.2.2.2.1 (g := (mkF m 114 #[.val (.int p1), .unset, .unset, .unset, .unset] [(.int (16 : Int32)), (.ref b), (.ref b)])) rfl (hb hby at_114)
  refine own_step (T' := T34) (g' := (mkF m 117 #[.val (.int p1), .unset, .unset, .unset, .unset] [(.ref (W 16)), (.int (16 : Int32)), (.ref b), (.ref b)])) (fun t k => st34 t k) ?_
  obtain ⟨T35, h35, X35, e35, I35, st35⟩ := own_put X34 hx hZ e34 (i := 16) I33 (by decide) (j := (16 : Int32)) (by decide) (by decide) (g := (mkF m 117 #[.val (.int p1), .unset, .unset, .unset, .unset] [(.ref (W 16)), (.int (16 : Int32)), (.ref b), (.ref b)])) rfl rfl (hb hby at_117)
  have N35 := Fr.snoc X35 N33 gb2
  refine own_step (T' := T35) (g' := (mkF m 118 #[.val (.int p1), .unset, .unset, .unset, .unset] [(.ref b)])) (fun t k => st35 t k) ?_
  refine own_step (T' := T35) (g' := (mkF m 119 #[.val (.int p1), .unset, .unset, .unset, .unset] [(.ref b), (.ref b)])) (fun t k => XS.dup X35.here hx rfl (hb hby at_118) rfl rfl k) ?_
  refine own_step (T' := T35) (g' := (mkF m 121 #[.val (.int p1), .unset, .unset, .unset, .unset] [(.int (17 : Int32)), (.ref b), (.ref b)])) (fun t k => XS.bipush X35.here hx rfl (hb hby at_119) k) ?_
  obtain ⟨T36, X36, e36, st36⟩ := getS2 X35 hx hZ hown (host := "") (Or.inl (hw _ (List.mem_of_getElem? (i := 38) rfl))) Via.refl e35 I35.1.2.2.2.2.2.2.2.2.2.2.2.2.2.2.2.2.2 (g := (mkF m 121 #[.val (.int p1), .unset, .unset, .unset, .unset] [(.int (17 : Int32)), (.ref b), (.ref b)])) rfl (hb hby at_121)
  refine own_step (T' := T36) (g' := (mkF m 124 #[.val (.int p1), .unset, .unset, .unset, .unset] [(.ref (W 17)), (.int (17 : Int32)), (.ref b), (.ref b)])) (fun t k => st36 t k) ?_
  obtain ⟨T37, h37, X37, e37, I37, st37⟩ := own_put X36 hx hZ e36 (i := 17) I35 (by decide) (j := (17 : Int32)) (by decide) (by decide) (g := (mkF m 124 #[.val (.int p1), .unset, .unset, .unset, .unset] [(.ref (W 17)), (.int (17 : Int32)), (.ref b), (.ref b)])) rfl rfl (hb hby at_124)
  have N37 := Fr.snoc X37 N35 gb2
  refine own_step (T' := T37) (g' := (mkF m 125 #[.val (.int p1), .unset, .unset, .unset, .unset] [(.ref b)])) (fun t k => st37 t k) ?_
  refine own_step (T' := T37) (g' := (mkF m 126 #[.val (.int p1), .val (.ref b), .unset, .unset, .unset] [])) (fun t k => XS.astoreN X37.here hx rfl (hb hby at_125) rfl rfl (l' := #[.val (.int p1), .val (.ref b), .unset, .unset, .unset]) rfl k) ?_
  refine own_step (T' := T37) (g' := (mkF m 127 #[.val (.int p1), .val (.ref b), .unset, .unset, .unset] [(.int p1)])) (fun t k => XS.iloadN X37.here hx rfl (hb hby at_126) rfl k) ?_
  refine own_step (T' := T37) (g' := (mkF m 129 #[.val (.int p1), .val (.ref b), .unset, .unset, .unset] [(.int (2147483647 : Int32)), (.int p1)])) (fun t k => X37.ldcInt hx hown (mvT hZ (hw _ (List.mem_of_getElem? (i := 40) rfl))) (g := (mkF m 127 #[.val (.int p1), .val (.ref b), .unset, .unset, .unset] [(.int p1)])) rfl (hb hby at_127) t k) ?_
  refine own_step (T' := T37) (g' := (mkF m 130 #[.val (.int p1), .val (.ref b), .unset, .unset, .unset] [(.int (p1 &&& (2147483647 : Int32)))])) (fun t k => XS.iand X37.here hx rfl (hb hby at_129) rfl k) ?_
  refine own_step (T' := T37) (g' := (mkF m 132 #[.val (.int p1), .val (.ref b), .unset, .unset, .unset] [(.int (18 : Int32)), (.int (p1 &&& (2147483647 : Int32)))])) (fun t k => XS.bipush X37.here hx rfl (hb hby at_130) k) ?_
  refine own_step (T' := T37) (g' := (mkF m 133 #[.val (.int p1), .val (.ref b), .unset, .unset, .unset] [(.int ((p1 &&& (2147483647 : Int32)) % (18 : Int32)))])) (fun t k => iremM X37 hx rfl (hb hby at_132) rfl (by decide) k) ?_
  refine own_step (T' := T37) (g' := (mkF m 134 #[.val (.int p1), .val (.ref b), .val (.int ((p1 &&& (2147483647 : Int32)) % (18 : Int32))), .unset, .unset] [])) (fun t k => XS.istoreN X37.here hx rfl (hb hby at_133) rfl (l' := #[.val (.int p1), .val (.ref b), .val (.int ((p1 &&& (2147483647 : Int32)) % (18 : Int32))), .unset, .unset]) rfl k) ?_
  refine own_step (T' := T37) (g' := (mkF m 135 #[.val (.int p1), .val (.ref b), .val (.int ((p1 &&& (2147483647 : Int32)) % (18 : Int32))), .unset, .unset] [(.ref b)])) (fun t k => XS.aloadN X37.here hx rfl (hb hby at_134) rfl rfl k) ?_
  refine own_step (T' := T37) (g' := (mkF m 136 #[.val (.int p1), .val (.ref b), .val (.int ((p1 &&& (2147483647 : Int32)) % (18 : Int32))), .unset, .unset] [(.int ((p1 &&& (2147483647 : Int32)) % (18 : Int32))), (.ref b)])) (fun t k => XS.iloadN X37.here hx rfl (hb hby at_135) rfl k) ?_
  have hread := own_get I37.2.2.1 hin
  obtain ⟨cc, hc1, hc2, hc3, hc4, hc5⟩ := hread
  refine own_step (T' := T37) (g' := (mkF m 137 #[.val (.int p1), .val (.ref b), .val (.int ((p1 &&& (2147483647 : Int32)) % (18 : Int32))), .unset, .unset] [(.ref (own_at W ((p1 &&& (2147483647 : Int32)) % (18 : Int32))))])) (fun t k => X37.aaload hx (j := ((p1 &&& (2147483647 : Int32)) % (18 : Int32))) (v := .ref (own_at W ((p1 &&& (2147483647 : Int32)) % (18 : Int32)))) (by rw [e37]; exact hc1) (State.isArrayOf_alike hZ.alike hc2) rfl hc3 hc4 hc5 (g := (mkF m 136 #[.val (.int p1), .val (.ref b), .val (.int ((p1 &&& (2147483647 : Int32)) % (18 : Int32))), .unset, .unset] [(.int ((p1 &&& (2147483647 : Int32)) % (18 : Int32))), (.ref b)])) rfl rfl (hb hby at_136) t k) ?_
  refine own_step (T' := T37) (g' := (mkF m 138 #[.val (.int p1), .val (.ref b), .val (.int ((p1 &&& (2147483647 : Int32)) % (18 : Int32))), .val (.ref (own_at W ((p1 &&& (2147483647 : Int32)) % (18 : Int32)))), .unset] [])) (fun t k => XS.astoreN X37.here hx rfl (hb hby at_137) rfl rfl (l' := #[.val (.int p1), .val (.ref b), .val (.int ((p1 &&& (2147483647 : Int32)) % (18 : Int32))), .val (.ref (own_at W ((p1 &&& (2147483647 : Int32)) % (18 : Int32)))), .unset]) rfl k) ?_
  refine own_step (T' := T37) (g' := (mkF m 139 #[.val (.int p1), .val (.ref b), .val (.int ((p1 &&& (2147483647 : Int32)) % (18 : Int32))), .val (.ref (own_at W ((p1 &&& (2147483647 : Int32)) % (18 : Int32)))), .unset] [(.int ((p1 &&& (2147483647 : Int32)) % (18 : Int32)))])) (fun t k => XS.iloadN X37.here hx rfl (hb hby at_138) rfl k) ?_
  refine own_step (T' := T37) (g' := (mkF m 140 #[.val (.int p1), .val (.ref b), .val (.int ((p1 &&& (2147483647 : Int32)) % (18 : Int32))), .val (.ref (own_at W ((p1 &&& (2147483647 : Int32)) % (18 : Int32)))), .unset] [(.int (3 : Int32)), (.int ((p1 &&& (2147483647 : Int32)) % (18 : Int32)))])) (fun t k => XS.iconst X37.here hx rfl (hb hby at_139) k) ?_
  by_cases hc38 : ((p1 &&& (2147483647 : Int32)) % (18 : Int32)) = (3 : Int32)
  · refine own_step (T' := T37) (g' := (mkF m 148 #[.val (.int p1), .val (.ref b), .val (.int ((p1 &&& (2147483647 : Int32)) % (18 : Int32))), .val (.ref (own_at W ((p1 &&& (2147483647 : Int32)) % (18 : Int32)))), .unset] [])) (fun t k => XS.icmpYes X37.here hx rfl (pc0 := 140) (pc' := 148) rfl (hb hby at_140) rfl (teq hc38).1 (by decide) (by decide) k) ?_
    refine own_step (T' := T37) (g' := (mkF m 149 #[.val (.int p1), .val (.ref b), .val (.int ((p1 &&& (2147483647 : Int32)) % (18 : Int32))), .val (.ref (own_at W ((p1 &&& (2147483647 : Int32)) % (18 : Int32)))), .unset] [(.int (1 : Int32))])) (fun t k => XS.iconst X37.here hx rfl (hb hby at_148) k) ?_
    refine own_step (T' := T37) (g' := (mkF m 153 #[.val (.int p1), .val (.ref b), .val (.int ((p1 &&& (2147483647 : Int32)) % (18 : Int32))), .val (.ref (own_at W ((p1 &&& (2147483647 : Int32)) % (18 : Int32)))), .unset] [(.int (1 : Int32))])) (fun t k => XS.goto X37.here hx rfl (pc0 := 149) (pc' := 153) rfl (hb hby at_149) (by decide) (by decide) k) ?_
    refine own_step (T' := T37) (g' := (mkF m 155 #[.val (.int p1), .val (.ref b), .val (.int ((p1 &&& (2147483647 : Int32)) % (18 : Int32))), .val (.ref (own_at W ((p1 &&& (2147483647 : Int32)) % (18 : Int32)))), .val (.int (1 : Int32))] [])) (fun t k => XS.istore X37.here hx rfl (hb hby at_153) rfl (l' := #[.val (.int p1), .val (.ref b), .val (.int ((p1 &&& (2147483647 : Int32)) % (18 : Int32))), .val (.ref (own_at W ((p1 &&& (2147483647 : Int32)) % (18 : Int32)))), .val (.int (1 : Int32))]) rfl k) ?_
    refine own_step (T' := T37) (g' := (mkF m 156 #[.val (.int p1), .val (.ref b), .val (.int ((p1 &&& (2147483647 : Int32)) % (18 : Int32))), .val (.ref (own_at W ((p1 &&& (2147483647 : Int32)) % (18 : Int32)))), .val (.int (1 : Int32))] [(.ref (own_at W ((p1 &&& (2147483647 : Int32)) % (18 : Int32))))])) (fun t k => XS.aloadN X37.here hx rfl (hb hby at_155) rfl rfl k) ?_
    have E_156_own_atWp12147483647Int3218Int32 := own_exa I37.2.1 hin
    obtain ⟨cq39, kq39, q39a, q39b, q39c⟩ := isOf hZ e37 E_156_own_atWp12147483647Int3218Int32
    obtain ⟨_, _, ⟨T39, L39, k39, n39⟩, -, X39, ⟨Lc39, hQ39, l39, y39, z39⟩, st39⟩ := X37.virtualBack hx (y := (⟨"com/example/intreccio/intreccio/model/Binary$Operator", "isDivision", "()Z"⟩ : MethodName)) (z := (⟨"com/example/intreccio/intreccio/model/Binary$Operator", "isDivision", "()Z"⟩ : MethodName)) hown (mvT hZ (hw _ (List.mem_of_getElem? (i := 41) rfl))) (mvT hZ (hw _ (List.mem_of_getElem? (i := 42) rfl))) (notFace_of_selects (args := #[]) (mvT hZ (hw _ (List.mem_of_getElem? (i := 44) rfl)))) (mvT hZ (hw _ (List.mem_of_getElem? (i := 44) rfl))) (mvT hZ (hw _ (List.mem_of_getElem? (i := 43) rfl))) (by decide) (backOf (W := 0) (rm1 l Z a0 hw [] (own_at W ((p1 &&& (2147483647 : Int32)) % (18 : Int32))) W h37 n0 I37.2.2.2.2 I37.1) hZ (hw _ (List.mem_of_getElem? (i := 45) rfl)) (hw _ (List.mem_of_getElem? (i := 3) rfl)) (by decide) (by decide)) q39a q39c (g := (mkF m 156 #[.val (.int p1), .val (.ref b), .val (.int ((p1 &&& (2147483647 : Int32)) % (18 : Int32))), .val (.ref (own_at W ((p1 &&& (2147483647 : Int32)) % (18 : Int32)))), .val (.int (1 : Int32))] [(.ref (own_at W ((p1 &&& (2147483647 : Int32)) % (18 : Int32))))])) rfl (by rw [hml]; rfl) (Steps.refl _) (argsL := []) (rest := []) (lenOf own_pd0 rfl) rfl (by show 2 * 0 + _ ≤ _; exact Nat.le_of_eq rfl) (hb hby at_156) (fun _ _ => ⟨rfl, e37, (by decide : 1 + 0 ≤ _), (by decide : 18 + 0 ≤ _)⟩)
    dsimp only [Pt.U, Pt.locs, Pt.cells, Pt.slots] at X39 l39 y39 z39 st39 hQ39
    subst l39 y39 z39
    obtain ⟨rfl, N39q, e39⟩ := hQ39
    have N39 := Fr.app N37 N39q
    refine own_step (T' := T39) (g' := (mkF m 159 #[.val (.int p1), .val (.ref b), .val (.int ((p1 &&& (2147483647 : Int32)) % (18 : Int32))), .val (.ref (own_at W ((p1 &&& (2147483647 : Int32)) % (18 : Int32)))), .val (.int (1 : Int32))] [(.int (V1 W (own_at W ((p1 &&& (2147483647 : Int32)) % (18 : Int32)))))])) (fun t k => st39.trans k) ?_
    refine own_step (T' := T39) (g' := (mkF m 161 #[.val (.int p1), .val (.ref b), .val (.int ((p1 &&& (2147483647 : Int32)) % (18 : Int32))), .val (.ref (own_at W ((p1 &&& (2147483647 : Int32)) % (18 : Int32)))), .val (.int (1 : Int32))] [(.int (1 : Int32)), (.int (V1 W (own_at W ((p1 &&& (2147483647 : Int32)) % (18 : Int32)))))])) (fun t k => XS.iload X39.here hx rfl (hb hby at_159) rfl k) ?_
    by_cases hc40 : (V1 W (own_at W ((p1 &&& (2147483647 : Int32)) % (18 : Int32)))) = (1 : Int32)
    · refine own_step (T' := T39) (g' := (mkF m 164 #[.val (.int p1), .val (.ref b), .val (.int ((p1 &&& (2147483647 : Int32)) % (18 : Int32))), .val (.ref (own_at W ((p1 &&& (2147483647 : Int32)) % (18 : Int32)))), .val (.int (1 : Int32))] [])) (fun t k => XS.icmpNo X39.here hx rfl (hb hby at_161) rfl (teq hc40).2 k) ?_
      refine own_step (T' := T39) (g' := (mkF m 165 #[.val (.int p1), .val (.ref b), .val (.int ((p1 &&& (2147483647 : Int32)) % (18 : Int32))), .val (.ref (own_at W ((p1 &&& (2147483647 : Int32)) % (18 : Int32)))), .val (.int (1 : Int32))] [(.int (1 : Int32))])) (fun t k => XS.iconst X39.here hx rfl (hb hby at_164) k) ?_
      refine own_step (T' := T39) (g' := (mkF m 169 #[.val (.int p1), .val (.ref b), .val (.int ((p1 &&& (2147483647 : Int32)) % (18 : Int32))), .val (.ref (own_at W ((p1 &&& (2147483647 : Int32)) % (18 : Int32)))), .val (.int (1 : Int32))] [(.int (1 : Int32))])) (fun t k => XS.goto X39.here hx rfl (pc0 := 165) (pc' := 169) rfl (hb hby at_165) (by decide) (by decide) k) ?_
      exact own_finW X39 hx Bd.returns rfl (Or.inl ⟨rfl, Or.inr (Or.inl rfl), _, rfl⟩) (hb hby at_169) (BodyLoose.notSynchronized Bd) N39  (congrArg _ (by rw [own_V0, if_pos hc38, if_pos hc40])) (by decide) (by decide)
    · refine own_step (T' := T39) (g' := (mkF m 168 #[.val (.int p1), .val (.ref b), .val (.int ((p1 &&& (2147483647 : Int32)) % (18 : Int32))), .val (.ref (own_at W ((p1 &&& (2147483647 : Int32)) % (18 : Int32)))), .val (.int (1 : Int32))] [])) (fun t k => XS.icmpYes X39.here hx rfl (pc0 := 161) (pc' := 168) rfl (hb hby at_161) rfl (feq hc40).2 (by decide) (by decide) k) ?_
      refine own_step (T' := T39) (g' := (mkF m 169 #[.val (.int p1), .val (.ref b), .val (.int ((p1 &&& (2147483647 : Int32)) % (18 : Int32))), .val (.ref (own_at W ((p1 &&& (2147483647 : Int32)) % (18 : Int32)))), .val (.int (1 : Int32))] [(.int (0 : Int32))])) (fun t k => XS.iconst X39.here hx rfl (hb hby at_168) k) ?_
      exact own_finW X39 hx Bd.returns rfl (Or.inl ⟨rfl, Or.inr (Or.inl rfl), _, rfl⟩) (hb hby at_169) (BodyLoose.notSynchronized Bd) N39  (congrArg _ (by rw [own_V0, if_pos hc38, if_neg hc40])) (by decide) (by decide)
  · refine own_step (T' := T37) (g' := (mkF m 143 #[.val (.int p1), .val (.ref b), .val (.int ((p1 &&& (2147483647 : Int32)) % (18 : Int32))), .val (.ref (own_at W ((p1 &&& (2147483647 : Int32)) % (18 : Int32)))), .unset] [])) (fun t k => XS.icmpNo X37.here hx rfl (hb hby at_140) rfl (feq hc38).1 k) ?_
    refine own_step (T' := T37) (g' := (mkF m 144 #[.val (.int p1), .val (.ref b), .val (.int ((p1 &&& (2147483647 : Int32)) % (18 : Int32))), .val (.ref (own_at W ((p1 &&& (2147483647 : Int32)) % (18 : Int32)))), .unset] [(.int ((p1 &&& (2147483647 : Int32)) % (18 : Int32)))])) (fun t k => XS.iloadN X37.here hx rfl (hb hby at_143) rfl k) ?_
    refine own_step (T' := T37) (g' := (mkF m 145 #[.val (.int p1), .val (.ref b), .val (.int ((p1 &&& (2147483647 : Int32)) % (18 : Int32))), .val (.ref (own_at W ((p1 &&& (2147483647 : Int32)) % (18 : Int32)))), .unset] [(.int (4 : Int32)), (.int ((p1 &&& (2147483647 : Int32)) % (18 : Int32)))])) (fun t k => XS.iconst X37.here hx rfl (hb hby at_144) k) ?_
    by_cases hc41 : ((p1 &&& (2147483647 : Int32)) % (18 : Int32)) = (4 : Int32)
    · refine own_step (T' := T37) (g' := (mkF m 148 #[.val (.int p1), .val (.ref b), .val (.int ((p1 &&& (2147483647 : Int32)) % (18 : Int32))), .val (.ref (own_at W ((p1 &&& (2147483647 : Int32)) % (18 : Int32)))), .unset] [])) (fun t k => XS.icmpNo X37.here hx rfl (hb hby at_145) rfl (teq hc41).2 k) ?_
      refine own_step (T' := T37) (g' := (mkF m 149 #[.val (.int p1), .val (.ref b), .val (.int ((p1 &&& (2147483647 : Int32)) % (18 : Int32))), .val (.ref (own_at W ((p1 &&& (2147483647 : Int32)) % (18 : Int32)))), .unset] [(.int (1 : Int32))])) (fun t k => XS.iconst X37.here hx rfl (hb hby at_148) k) ?_
      refine own_step (T' := T37) (g' := (mkF m 153 #[.val (.int p1), .val (.ref b), .val (.int ((p1 &&& (2147483647 : Int32)) % (18 : Int32))), .val (.ref (own_at W ((p1 &&& (2147483647 : Int32)) % (18 : Int32)))), .unset] [(.int (1 : Int32))])) (fun t k => XS.goto X37.here hx rfl (pc0 := 149) (pc' := 153) rfl (hb hby at_149) (by decide) (by decide) k) ?_
      refine own_step (T' := T37) (g' := (mkF m 155 #[.val (.int p1), .val (.ref b), .val (.int ((p1 &&& (2147483647 : Int32)) % (18 : Int32))), .val (.ref (own_at W ((p1 &&& (2147483647 : Int32)) % (18 : Int32)))), .val (.int (1 : Int32))] [])) (fun t k => XS.istore X37.here hx rfl (hb hby at_153) rfl (l' := #[.val (.int p1), .val (.ref b), .val (.int ((p1 &&& (2147483647 : Int32)) % (18 : Int32))), .val (.ref (own_at W ((p1 &&& (2147483647 : Int32)) % (18 : Int32)))), .val (.int (1 : Int32))]) rfl k) ?_
      refine own_step (T' := T37) (g' := (mkF m 156 #[.val (.int p1), .val (.ref b), .val (.int ((p1 &&& (2147483647 : Int32)) % (18 : Int32))), .val (.ref (own_at W ((p1 &&& (2147483647 : Int32)) % (18 : Int32)))), .val (.int (1 : Int32))] [(.ref (own_at W ((p1 &&& (2147483647 : Int32)) % (18 : Int32))))])) (fun t k => XS.aloadN X37.here hx rfl (hb hby at_155) rfl rfl k) ?_
      have E_156_own_atWp12147483647Int3218Int32 := own_exa I37.2.1 hin
      obtain ⟨cq42, kq42, q42a, q42b, q42c⟩ := isOf hZ e37 E_156_own_atWp12147483647Int3218Int32
      obtain ⟨_, _, ⟨T42, L42, k42, n42⟩, -, X42, ⟨Lc42, hQ42, l42, y42, z42⟩, st42⟩ := X37.virtualBack hx (y := (⟨"com/example/intreccio/intreccio/model/Binary$Operator", "isDivision", "()Z"⟩ : MethodName)) (z := (⟨"com/example/intreccio/intreccio/model/Binary$Operator", "isDivision", "()Z"⟩ : MethodName)) hown (mvT hZ (hw _ (List.mem_of_getElem? (i := 41) rfl))) (mvT hZ (hw _ (List.mem_of_getElem? (i := 42) rfl))) (notFace_of_selects (args := #[]) (mvT hZ (hw _ (List.mem_of_getElem? (i := 44) rfl)))) (mvT hZ (hw _ (List.mem_of_getElem? (i := 44) rfl))) (mvT hZ (hw _ (List.mem_of_getElem? (i := 43) rfl))) (by decide) (backOf (W := 0) (rm1 l Z a0 hw [] (own_at W ((p1 &&& (2147483647 : Int32)) % (18 : Int32))) W h37 n0 I37.2.2.2.2 I37.1) hZ (hw _ (List.mem_of_getElem? (i := 45) rfl)) (hw _ (List.mem_of_getElem? (i := 3) rfl)) (by decide) (by decide)) q42a q42c (g := (mkF m 156 #[.val (.int p1), .val (.ref b), .val (.int ((p1 &&& (2147483647 : Int32)) % (18 : Int32))), .val (.ref (own_at W ((p1 &&& (2147483647 : Int32)) % (18 : Int32)))), .val (.int (1 : Int32))] [(.ref (own_at W ((p1 &&& (2147483647 : Int32)) % (18 : Int32))))])) rfl (by rw [hml]; rfl) (Steps.refl _) (argsL := []) (rest := []) (lenOf own_pd0 rfl) rfl (by show 2 * 0 + _ ≤ _; exact Nat.le_of_eq rfl) (hb hby at_156) (fun _ _ => ⟨rfl, e37, (by decide : 1 + 0 ≤ _), (by decide : 18 + 0 ≤ _)⟩)
      dsimp only [Pt.U, Pt.locs, Pt.cells, Pt.slots] at X42 l42 y42 z42 st42 hQ42
      subst l42 y42 z42
      obtain ⟨rfl, N42q, e42⟩ := hQ42
      have N42 := Fr.app N37 N42q
      refine own_step (T' := T42) (g' := (mkF m 159 #[.val (.int p1), .val (.ref b), .val (.int ((p1 &&& (2147483647 : Int32)) % (18 : Int32))), .val (.ref (own_at W ((p1 &&& (2147483647 : Int32)) % (18 : Int32)))), .val (.int (1 : Int32))] [(.int (V1 W (own_at W ((p1 &&& (2147483647 : Int32)) % (18 : Int32)))))])) (fun t k => st42.trans k) ?_
      refine own_step (T' := T42) (g' := (mkF m 161 #[.val (.int p1), .val (.ref b), .val (.int ((p1 &&& (2147483647 : Int32)) % (18 : Int32))), .val (.ref (own_at W ((p1 &&& (2147483647 : Int32)) % (18 : Int32)))), .val (.int (1 : Int32))] [(.int (1 : Int32)), (.int (V1 W (own_at W ((p1 &&& (2147483647 : Int32)) % (18 : Int32)))))])) (fun t k => XS.iload X42.here hx rfl (hb hby at_159) rfl k) ?_
      by_cases hc43 : (V1 W (own_at W ((p1 &&& (2147483647 : Int32)) % (18 : Int32)))) = (1 : Int32)
      · refine own_step (T' := T42) (g' := (mkF m 164 #[.val (.int p1), .val (.ref b), .val (.int ((p1 &&& (2147483647 : Int32)) % (18 : Int32))), .val (.ref (own_at W ((p1 &&& (2147483647 : Int32)) % (18 : Int32)))), .val (.int (1 : Int32))] [])) (fun t k => XS.icmpNo X42.here hx rfl (hb hby at_161) rfl (teq hc43).2 k) ?_
        refine own_step (T' := T42) (g' := (mkF m 165 #[.val (.int p1), .val (.ref b), .val (.int ((p1 &&& (2147483647 : Int32)) % (18 : Int32))), .val (.ref (own_at W ((p1 &&& (2147483647 : Int32)) % (18 : Int32)))), .val (.int (1 : Int32))] [(.int (1 : Int32))])) (fun t k => XS.iconst X42.here hx rfl (hb hby at_164) k) ?_
        refine own_step (T' := T42) (g' := (mkF m 169 #[.val (.int p1), .val (.ref b), .val (.int ((p1 &&& (2147483647 : Int32)) % (18 : Int32))), .val (.ref (own_at W ((p1 &&& (2147483647 : Int32)) % (18 : Int32)))), .val (.int (1 : Int32))] [(.int (1 : Int32))])) (fun t k => XS.goto X42.here hx rfl (pc0 := 165) (pc' := 169) rfl (hb hby at_165) (by decide) (by decide) k) ?_
        exact own_finW X42 hx Bd.returns rfl (Or.inl ⟨rfl, Or.inr (Or.inl rfl), _, rfl⟩) (hb hby at_169) (BodyLoose.notSynchronized Bd) N42  (congrArg _ (by rw [own_V0, if_neg hc38, if_pos hc41, if_pos hc43])) (by decide) (by decide)
      · refine own_step (T' := T42) (g' := (mkF m 168 #[.val (.int p1), .val (.ref b), .val (.int ((p1 &&& (2147483647 : Int32)) % (18 : Int32))), .val (.ref (own_at W ((p1 &&& (2147483647 : Int32)) % (18 : Int32)))), .val (.int (1 : Int32))] [])) (fun t k => XS.icmpYes X42.here hx rfl (pc0 := 161) (pc' := 168) rfl (hb hby at_161) rfl (feq hc43).2 (by decide) (by decide) k) ?_
        refine own_step (T' := T42) (g' := (mkF m 169 #[.val (.int p1), .val (.ref b), .val (.int ((p1 &&& (2147483647 : Int32)) % (18 : Int32))), .val (.ref (own_at W ((p1 &&& (2147483647 : Int32)) % (18 : Int32)))), .val (.int (1 : Int32))] [(.int (0 : Int32))])) (fun t k => XS.iconst X42.here hx rfl (hb hby at_168) k) ?_
        exact own_finW X42 hx Bd.returns rfl (Or.inl ⟨rfl, Or.inr (Or.inl rfl), _, rfl⟩) (hb hby at_169) (BodyLoose.notSynchronized Bd) N42  (congrArg _ (by rw [own_V0, if_neg hc38, if_pos hc41, if_neg hc43])) (by decide) (by decide)
    · refine own_step (T' := T37) (g' := (mkF m 152 #[.val (.int p1), .val (.ref b), .val (.int ((p1 &&& (2147483647 : Int32)) % (18 : Int32))), .val (.ref (own_at W ((p1 &&& (2147483647 : Int32)) % (18 : Int32)))), .unset] [])) (fun t k => XS.icmpYes X37.here hx rfl (pc0 := 145) (pc' := 152) rfl (hb hby at_145) rfl (feq hc41).2 (by decide) (by decide) k) ?_
      refine own_step (T' := T37) (g' := (mkF m 153 #[.val (.int p1), .val (.ref b), .val (.int ((p1 &&& (2147483647 : Int32)) % (18 : Int32))), .val (.ref (own_at W ((p1 &&& (2147483647 : Int32)) % (18 : Int32)))), .unset] [(.int (0 : Int32))])) (fun t k => XS.iconst X37.here hx rfl (hb hby at_152) k) ?_
      refine own_step (T' := T37) (g' := (mkF m 155 #[.val (.int p1), .val (.ref b), .val (.int ((p1 &&& (2147483647 : Int32)) % (18 : Int32))), .val (.ref (own_at W ((p1 &&& (2147483647 : Int32)) % (18 : Int32)))), .val (.int (0 : Int32))] [])) (fun t k => XS.istore X37.here hx rfl (hb hby at_153) rfl (l' := #[.val (.int p1), .val (.ref b), .val (.int ((p1 &&& (2147483647 : Int32)) % (18 : Int32))), .val (.ref (own_at W ((p1 &&& (2147483647 : Int32)) % (18 : Int32)))), .val (.int (0 : Int32))]) rfl k) ?_
      refine own_step (T' := T37) (g' := (mkF m 156 #[.val (.int p1), .val (.ref b), .val (.int ((p1 &&& (2147483647 : Int32)) % (18 : Int32))), .val (.ref (own_at W ((p1 &&& (2147483647 : Int32)) % (18 : Int32)))), .val (.int (0 : Int32))] [(.ref (own_at W ((p1 &&& (2147483647 : Int32)) % (18 : Int32))))])) (fun t k => XS.aloadN X37.here hx rfl (hb hby at_155) rfl rfl k) ?_
      have E_156_own_atWp12147483647Int3218Int32 := own_exa I37.2.1 hin
      obtain ⟨cq44, kq44, q44a, q44b, q44c⟩ := isOf hZ e37 E_156_own_atWp12147483647Int3218Int32
      obtain ⟨_, _, ⟨T44, L44, k44, n44⟩, -, X44, ⟨Lc44, hQ44, l44, y44, z44⟩, st44⟩ := X37.virtualBack hx (y := (⟨"com/example/intreccio/intreccio/model/Binary$Operator", "isDivision", "()Z"⟩ : MethodName)) (z := (⟨"com/example/intreccio/intreccio/model/Binary$Operator", "isDivision", "()Z"⟩ : MethodName)) hown (mvT hZ (hw _ (List.mem_of_getElem? (i := 41) rfl))) (mvT hZ (hw _ (List.mem_of_getElem? (i := 42) rfl))) (notFace_of_selects (args := #[]) (mvT hZ (hw _ (List.mem_of_getElem? (i := 44) rfl)))) (mvT hZ (hw _ (List.mem_of_getElem? (i := 44) rfl))) (mvT hZ (hw _ (List.mem_of_getElem? (i := 43) rfl))) (by decide) (backOf (W := 0) (rm1 l Z a0 hw [] (own_at W ((p1 &&& (2147483647 : Int32)) % (18 : Int32))) W h37 n0 I37.2.2.2.2 I37.1) hZ (hw _ (List.mem_of_getElem? (i := 45) rfl)) (hw _ (List.mem_of_getElem? (i := 3) rfl)) (by decide) (by decide)) q44a q44c (g := (mkF m 156 #[.val (.int p1), .val (.ref b), .val (.int ((p1 &&& (2147483647 : Int32)) % (18 : Int32))), .val (.ref (own_at W ((p1 &&& (2147483647 : Int32)) % (18 : Int32)))), .val (.int (0 : Int32))] [(.ref (own_at W ((p1 &&& (2147483647 : Int32)) % (18 : Int32))))])) rfl (by rw [hml]; rfl) (Steps.refl _) (argsL := []) (rest := []) (lenOf own_pd0 rfl) rfl (by show 2 * 0 + _ ≤ _; exact Nat.le_of_eq rfl) (hb hby at_156) (fun _ _ => ⟨rfl, e37, (by decide : 1 + 0 ≤ _), (by decide : 18 + 0 ≤ _)⟩)
      dsimp only [Pt.U, Pt.locs, Pt.cells, Pt.slots] at X44 l44 y44 z44 st44 hQ44
      subst l44 y44 z44
      obtain ⟨rfl, N44q, e44⟩ := hQ44
      have N44 := Fr.app N37 N44q
      refine own_step (T' := T44) (g' := (mkF m 159 #[.val (.int p1), .val (.ref b), .val (.int ((p1 &&& (2147483647 : Int32)) % (18 : Int32))), .val (.ref (own_at W ((p1 &&& (2147483647 : Int32)) % (18 : Int32)))), .val (.int (0 : Int32))] [(.int (V1 W (own_at W ((p1 &&& (2147483647 : Int32)) % (18 : Int32)))))])) (fun t k => st44.trans k) ?_
      refine own_step (T' := T44) (g' := (mkF m 161 #[.val (.int p1), .val (.ref b), .val (.int ((p1 &&& (2147483647 : Int32)) % (18 : Int32))), .val (.ref (own_at W ((p1 &&& (2147483647 : Int32)) % (18 : Int32)))), .val (.int (0 : Int32))] [(.int (0 : Int32)), (.int (V1 W (own_at W ((p1 &&& (2147483647 : Int32)) % (18 : Int32)))))])) (fun t k => XS.iload X44.here hx rfl (hb hby at_159) rfl k) ?_
      by_cases hc45 : (V1 W (own_at W ((p1 &&& (2147483647 : Int32)) % (18 : Int32)))) = (0 : Int32)
      · refine own_step (T' := T44) (g' := (mkF m 164 #[.val (.int p1), .val (.ref b), .val (.int ((p1 &&& (2147483647 : Int32)) % (18 : Int32))), .val (.ref (own_at W ((p1 &&& (2147483647 : Int32)) % (18 : Int32)))), .val (.int (0 : Int32))] [])) (fun t k => XS.icmpNo X44.here hx rfl (hb hby at_161) rfl (teq hc45).2 k) ?_
        refine own_step (T' := T44) (g' := (mkF m 165 #[.val (.int p1), .val (.ref b), .val (.int ((p1 &&& (2147483647 : Int32)) % (18 : Int32))), .val (.ref (own_at W ((p1 &&& (2147483647 : Int32)) % (18 : Int32)))), .val (.int (0 : Int32))] [(.int (1 : Int32))])) (fun t k => XS.iconst X44.here hx rfl (hb hby at_164) k) ?_
        refine own_step (T' := T44) (g' := (mkF m 169 #[.val (.int p1), .val (.ref b), .val (.int ((p1 &&& (2147483647 : Int32)) % (18 : Int32))), .val (.ref (own_at W ((p1 &&& (2147483647 : Int32)) % (18 : Int32)))), .val (.int (0 : Int32))] [(.int (1 : Int32))])) (fun t k => XS.goto X44.here hx rfl (pc0 := 165) (pc' := 169) rfl (hb hby at_165) (by decide) (by decide) k) ?_
        exact own_finW X44 hx Bd.returns rfl (Or.inl ⟨rfl, Or.inr (Or.inl rfl), _, rfl⟩) (hb hby at_169) (BodyLoose.notSynchronized Bd) N44  (congrArg _ (by rw [own_V0, if_neg hc38, if_neg hc41, if_pos hc45])) (by decide) (by decide)
      · refine own_step (T' := T44) (g' := (mkF m 168 #[.val (.int p1), .val (.ref b), .val (.int ((p1 &&& (2147483647 : Int32)) % (18 : Int32))), .val (.ref (own_at W ((p1 &&& (2147483647 : Int32)) % (18 : Int32)))), .val (.int (0 : Int32))] [])) (fun t k => XS.icmpYes X44.here hx rfl (pc0 := 161) (pc' := 168) rfl (hb hby at_161) rfl (feq hc45).2 (by decide) (by decide) k) ?_
        refine own_step (T' := T44) (g' := (mkF m 169 #[.val (.int p1), .val (.ref b), .val (.int ((p1 &&& (2147483647 : Int32)) % (18 : Int32))), .val (.ref (own_at W ((p1 &&& (2147483647 : Int32)) % (18 : Int32)))), .val (.int (0 : Int32))] [(.int (0 : Int32))])) (fun t k => XS.iconst X44.here hx rfl (hb hby at_168) k) ?_
        exact own_finW X44 hx Bd.returns rfl (Or.inl ⟨rfl, Or.inr (Or.inl rfl), _, rfl⟩) (hb hby at_169) (BodyLoose.notSynchronized Bd) N44  (congrArg _ (by rw [own_V0, if_neg hc38, if_neg hc41, if_neg hc45])) (by decide) (by decide)
/-! 3. the plain law -/
theorem own_mod (p d : Int32) (n : Nat) (hn : d.toInt = n) (h0 : 0 < n) : ∃ k : Nat, k < n ∧ (p &&& (2147483647 : Int32)) % d = Int32.ofNat k := by
  have e1 : (p &&& (2147483647 : Int32)).toInt = p.toInt % 2 ^ 31 := Jvm.Kit.i32_mask p 2147483647 (k := 31) (by decide) (by decide)
  have h1 : 0 ≤ (p &&& (2147483647 : Int32)).toInt := by omega
  have e2 := Jvm.Kit.i32_rem_nonneg (y := d) h1
  rw [hn] at e2
  have b1 := Int.emod_nonneg (p &&& (2147483647 : Int32)).toInt (show (n : Int) ≠ 0 by omega)
  have b2 := Int.emod_lt_of_pos (p &&& (2147483647 : Int32)).toInt (show (0 : Int) < n by omega)
  have b3 := ((p &&& (2147483647 : Int32)) % d).toInt_lt
  refine ⟨((p &&& (2147483647 : Int32)) % d).toInt.toNat, by omega, ?_⟩
  apply Int32.toInt_inj.mp
  rw [Int32.toInt_ofNat_of_lt (by omega)]
  omega
theorem own_inK (p : Int32) : ¬ (((p &&& (2147483647 : Int32)) % (18 : Int32)) < 0 ∨ 18 ≤ ((p &&& (2147483647 : Int32)) % (18 : Int32)).toNatClampNeg) := by
  obtain ⟨k, hk, e⟩ := own_mod p 18 18 (by decide) (by decide)
  rw [e]
  have h : (Int32.ofNat k).toInt = k := Int32.toInt_ofNat_of_lt (by omega)
  rintro (q | q)
  · rw [Int32.lt_iff_toInt_lt, h] at q; have z : (0 : Int32).toInt = 0 := by decide
    omega
  · have h2 : (Int32.ofNat k).toNatClampNeg = k := by simp only [Int32.toNatClampNeg, h]; rfl
    omega
theorem own_law (W : Nat → Addr) (hD : ∀ i j, i < 18 → j < 18 → W i = W j → i = j) (p : Int32) : V0 W p = 1 := by
  have hW : ∀ i j, i < 18 → j < 18 → (W i = W j ↔ i = j) := fun i j hi hj => ⟨hD i j hi hj, fun h => h ▸ rfl⟩
  unfold V0
  obtain ⟨k, hk, e⟩ := own_mod p 18 18 (by decide) (by decide)
  rw [e]
  match k, hk with
  | 0, _ => simp +decide [V1, own_at, hW]
  | 1, _ => simp +decide [V1, own_at, hW]
  | 2, _ => simp +decide [V1, own_at, hW]
  | 3, _ => simp +decide [V1, own_at, hW]
  | 4, _ => simp +decide [V1, own_at, hW]
  | 5, _ => simp +decide [V1, own_at, hW]
  | 6, _ => simp +decide [V1, own_at, hW]
  | 7, _ => simp +decide [V1, own_at, hW]
  | 8, _ => simp +decide [V1, own_at, hW]
  | 9, _ => simp +decide [V1, own_at, hW]
  | 10, _ => simp +decide [V1, own_at, hW]
  | 11, _ => simp +decide [V1, own_at, hW]
  | 12, _ => simp +decide [V1, own_at, hW]
  | 13, _ => simp +decide [V1, own_at, hW]
  | 14, _ => simp +decide [V1, own_at, hW]
  | 15, _ => simp +decide [V1, own_at, hW]
  | 16, _ => simp +decide [V1, own_at, hW]
  | 17, _ => simp +decide [V1, own_at, hW]
  | n + 18, h => exact absurd h (by omega)
def own_ord (i : Nat) : Int32 := ([0, 1, 2, 3, 4, 5, 6, 7, 8, 9, 10, 11, 12, 13, 14, 15, 16, 17] : List Int32).getD i 0
theorem own_ord_inj : ∀ i, i < 18 → ∀ j, j < 18 → own_ord i = own_ord j → i = j := by decide
theorem own_eqi {t : Term} {z : Int32} {args : Array Value} {s : State} (h : (Jvm.Cond.eq t (.int z)).value args s none s [] = some true) : t.eval args s none [] s = some (.int z) := by
  cases ht : t.eval args s none [] s with
  | none => simp [Cond.value, ht] at h
  | some v => cases v <;> simp_all [Cond.value, Term.eval]
set_option maxRecDepth 65536 in
set_option maxHeartbeats 40000000 in
theorem own_open {args : Array Value} {s : State} (hw : ∀ d ∈ tables_1, d.before args s = true) (hn : narrow_1.value args s none s [] = some true) :
    ∃ W : Nat → Addr, own_Stas s s.heap W ∧ (∀ i, i < 18 → Exa s s.heap (W i) "com/example/intreccio/intreccio/model/Binary$Operator") ∧ (∀ i j, i < 18 → j < 18 → W i = W j → i = j) := by
  obtain ⟨c0, hn⟩ := and_e hn
  obtain ⟨c1, hn⟩ := and_e hn
  obtain ⟨c2, hn⟩ := and_e hn
  obtain ⟨c3, hn⟩ := and_e hn
  obtain ⟨c4, hn⟩ := and_e hn
  obtain ⟨c5, hn⟩ := and_e hn
  obtain ⟨c6, hn⟩ := and_e hn
  obtain ⟨c7, hn⟩ := and_e hn
  obtain ⟨c8, hn⟩ := and_e hn
  obtain ⟨c9, hn⟩ := and_e hn
  obtain ⟨c10, hn⟩ := and_e hn
  obtain ⟨c11, hn⟩ := and_e hn
  obtain ⟨c12, hn⟩ := and_e hn
  obtain ⟨c13, hn⟩ := and_e hn
  obtain ⟨c14, hn⟩ := and_e hn
  obtain ⟨c15, hn⟩ := and_e hn
  obtain ⟨c16, hn⟩ := and_e hn
  obtain ⟨c17, hn⟩ := and_e hn
  obtain ⟨c18, hn⟩ := and_e hn
  obtain ⟨c19, hn⟩ := and_e hn
  obtain ⟨c20, hn⟩ := and_e hn
  obtain ⟨c21, hn⟩ := and_e hn
  obtain ⟨c22, hn⟩ := and_e hn
  obtain ⟨c23, hn⟩ := and_e hn
  obtain ⟨c24, hn⟩ := and_e hn
  obtain ⟨c25, hn⟩ := and_e hn
  obtain ⟨c26, hn⟩ := and_e hn
  obtain ⟨c27, hn⟩ := and_e hn
  obtain ⟨c28, hn⟩ := and_e hn
  obtain ⟨c29, hn⟩ := and_e hn
  obtain ⟨c30, hn⟩ := and_e hn
  obtain ⟨c31, hn⟩ := and_e hn
  obtain ⟨c32, hn⟩ := and_e hn
  obtain ⟨c33, hn⟩ := and_e hn
  obtain ⟨c34, hn⟩ := and_e hn
  have c35 := hn
  obtain ⟨b0, ev0⟩ := exa_v c0
  obtain ⟨b1, ev1⟩ := exa_v c1
  obtain ⟨b2, ev2⟩ := exa_v c2
  obtain ⟨b3, ev3⟩ := exa_v c3
  obtain ⟨b4, ev4⟩ := exa_v c4
  obtain ⟨b5, ev5⟩ := exa_v c5
  obtain ⟨b6, ev6⟩ := exa_v c6
  obtain ⟨b7, ev7⟩ := exa_v c7
  obtain ⟨b8, ev8⟩ := exa_v c8
  obtain ⟨b9, ev9⟩ := exa_v c9
  obtain ⟨b10, ev10⟩ := exa_v c10
  obtain ⟨b11, ev11⟩ := exa_v c11
  obtain ⟨b12, ev12⟩ := exa_v c12
  obtain ⟨b13, ev13⟩ := exa_v c13
  obtain ⟨b14, ev14⟩ := exa_v c14
  obtain ⟨b15, ev15⟩ := exa_v c15
  obtain ⟨b16, ev16⟩ := exa_v c16
  obtain ⟨b17, ev17⟩ := exa_v c17
  have E0 : Exa s s.heap b0 "com/example/intreccio/intreccio/model/Binary$Operator" := Exa.start ev0 c0
  have S0 : Sta s s.heap "com/example/intreccio/intreccio/model/Binary$Operator" "ADD" "Lcom/example/intreccio/intreccio/model/Binary$Operator;" (.ref b0) := Sta.start ev0 (Or.inr ⟨(hw _ (List.mem_of_getElem? (i := 3) rfl)), (hw _ (List.mem_of_getElem? (i := 4) rfl))⟩)
  have F0 : Fld s s.heap b0 "java/lang/Enum" "ordinal" "I" (.int (0 : Int32)) := Fld.start ((fld_at ev0).symm.trans (own_eqi c18))
  have E1 : Exa s s.heap b1 "com/example/intreccio/intreccio/model/Binary$Operator" := Exa.start ev1 c1
  have S1 : Sta s s.heap "com/example/intreccio/intreccio/model/Binary$Operator" "SUBTRACT" "Lcom/example/intreccio/intreccio/model/Binary$Operator;" (.ref b1) := Sta.start ev1 (Or.inr ⟨(hw _ (List.mem_of_getElem? (i := 3) rfl)), (hw _ (List.mem_of_getElem? (i := 7) rfl))⟩)
  have F1 : Fld s s.heap b1 "java/lang/Enum" "ordinal" "I" (.int (1 : Int32)) := Fld.start ((fld_at ev1).symm.trans (own_eqi c22))
  have E2 : Exa s s.heap b2 "com/example/intreccio/intreccio/model/Binary$Operator" := Exa.start ev2 c2
  have S2 : Sta s s.heap "com/example/intreccio/intreccio/model/Binary$Operator" "MULTIPLY" "Lcom/example/intreccio/intreccio/model/Binary$Operator;" (.ref b2) := Sta.start ev2 (Or.inr ⟨(hw _ (List.mem_of_getElem? (i := 3) rfl)), (hw _ (List.mem_of_getElem? (i := 9) rfl))⟩)
  have F2 : Fld s s.heap b2 "java/lang/Enum" "ordinal" "I" (.int (2 : Int32)) := Fld.start ((fld_at ev2).symm.trans (own_eqi c21))
  have E3 : Exa s s.heap b3 "com/example/intreccio/intreccio/model/Binary$Operator" := Exa.start ev3 c3
  have S3 : Sta s s.heap "com/example/intreccio/intreccio/model/Binary$Operator" "DIVIDE" "Lcom/example/intreccio/intreccio/model/Binary$Operator;" (.ref b3) := Sta.start ev3 (Or.inr ⟨(hw _ (List.mem_of_getElem? (i := 3) rfl)), (hw _ (List.mem_of_getElem? (i := 11) rfl))⟩)
  have F3 : Fld s s.heap b3 "java/lang/Enum" "ordinal" "I" (.int (3 : Int32)) := Fld.start ((fld_at ev3).symm.trans (own_eqi c19))
  have E4 : Exa s s.heap b4 "com/example/intreccio/intreccio/model/Binary$Operator" := Exa.start ev4 c4
  have S4 : Sta s s.heap "com/example/intreccio/intreccio/model/Binary$Operator" "REMAINDER" "Lcom/example/intreccio/intreccio/model/Binary$Operator;" (.ref b4) := Sta.start ev4 (Or.inr ⟨(hw _ (List.mem_of_getElem? (i := 3) rfl)), (hw _ (List.mem_of_getElem? (i := 13) rfl))⟩)
  have F4 : Fld s s.heap b4 "java/lang/Enum" "ordinal" "I" (.int (4 : Int32)) := Fld.start ((fld_at ev4).symm.trans (own_eqi c20))
  have E5 : Exa s s.heap b5 "com/example/intreccio/intreccio/model/Binary$Operator" := Exa.start ev5 c5
  have S5 : Sta s s.heap "com/example/intreccio/intreccio/model/Binary$Operator" "SHIFT_LEFT" "Lcom/example/intreccio/intreccio/model/Binary$Operator;" (.ref b5) := Sta.start ev5 (Or.inr ⟨(hw _ (List.mem_of_getElem? (i := 3) rfl)), (hw _ (List.mem_of_getElem? (i := 15) rfl))⟩)
  have F5 : Fld s s.heap b5 "java/lang/Enum" "ordinal" "I" (.int (5 : Int32)) := Fld.start ((fld_at ev5).symm.trans (own_eqi c34))
  have E6 : Exa s s.heap b6 "com/example/intreccio/intreccio/model/Binary$Operator" := Exa.start ev6 c6
  have S6 : Sta s s.heap "com/example/intreccio/intreccio/model/Binary$Operator" "SHIFT_RIGHT" "Lcom/example/intreccio/intreccio/model/Binary$Operator;" (.ref b6) := Sta.start ev6 (Or.inr ⟨(hw _ (List.mem_of_getElem? (i := 3) rfl)), (hw _ (List.mem_of_getElem? (i := 17) rfl))⟩)
  have F6 : Fld s s.heap b6 "java/lang/Enum" "ordinal" "I" (.int (6 : Int32)) := Fld.start ((fld_at ev6).symm.trans (own_eqi c31))
  have E7 : Exa s s.heap b7 "com/example/intreccio/intreccio/model/Binary$Operator" := Exa.start ev7 c7
  have S7 : Sta s s.heap "com/example/intreccio/intreccio/model/Binary$Operator" "BIT_AND" "Lcom/example/intreccio/intreccio/model/Binary$Operator;" (.ref b7) := Sta.start ev7 (Or.inr ⟨(hw _ (List.mem_of_getElem? (i := 3) rfl)), (hw _ (List.mem_of_getElem? (i := 19) rfl))⟩)
  have F7 : Fld s s.heap b7 "java/lang/Enum" "ordinal" "I" (.int (7 : Int32)) := Fld.start ((fld_at ev7).symm.trans (own_eqi c23))
  have E8 : Exa s s.heap b8 "com/example/intreccio/intreccio/model/Binary$Operator" := Exa.start ev8 c8
  have S8 : Sta s s.heap "com/example/intreccio/intreccio/model/Binary$Operator" "BIT_OR" "Lcom/example/intreccio/intreccio/model/Binary$Operator;" (.ref b8) := Sta.start ev8 (Or.inr ⟨(hw _ (List.mem_of_getElem? (i := 3) rfl)), (hw _ (List.mem_of_getElem? (i := 21) rfl))⟩)
  have F8 : Fld s s.heap b8 "java/lang/Enum" "ordinal" "I" (.int (8 : Int32)) := Fld.start ((fld_at ev8).symm.trans (own_eqi c25))
  have E9 : Exa s s.heap b9 "com/example/intreccio/intreccio/model/Binary$Operator" := Exa.start ev9 c9
  have S9 : Sta s s.heap "com/example/intreccio/intreccio/model/Binary$Operator" "BIT_XOR" "Lcom/example/intreccio/intreccio/model/Binary$Operator;" (.ref b9) := Sta.start ev9 (Or.inr ⟨(hw _ (List.mem_of_getElem? (i := 3) rfl)), (hw _ (List.mem_of_getElem? (i := 23) rfl))⟩)
  have F9 : Fld s s.heap b9 "java/lang/Enum" "ordinal" "I" (.int (9 : Int32)) := Fld.start ((fld_at ev9).symm.trans (own_eqi c35))
  have E10 : Exa s s.heap b10 "com/example/intreccio/intreccio/model/Binary$Operator" := Exa.start ev10 c10
  have S10 : Sta s s.heap "com/example/intreccio/intreccio/model/Binary$Operator" "LESS" "Lcom/example/intreccio/intreccio/model/Binary$Operator;" (.ref b10) := Sta.start ev10 (Or.inr ⟨(hw _ (List.mem_of_getElem? (i := 3) rfl)), (hw _ (List.mem_of_getElem? (i := 25) rfl))⟩)
  have F10 : Fld s s.heap b10 "java/lang/Enum" "ordinal" "I" (.int (10 : Int32)) := Fld.start ((fld_at ev10).symm.trans (own_eqi c29))
  have E11 : Exa s s.heap b11 "com/example/intreccio/intreccio/model/Binary$Operator" := Exa.start ev11 c11
  have S11 : Sta s s.heap "com/example/intreccio/intreccio/model/Binary$Operator" "LESS_EQUAL" "Lcom/example/intreccio/intreccio/model/Binary$Operator;" (.ref b11) := Sta.start ev11 (Or.inr ⟨(hw _ (List.mem_of_getElem? (i := 3) rfl)), (hw _ (List.mem_of_getElem? (i := 27) rfl))⟩)
  have F11 : Fld s s.heap b11 "java/lang/Enum" "ordinal" "I" (.int (11 : Int32)) := Fld.start ((fld_at ev11).symm.trans (own_eqi c24))
  have E12 : Exa s s.heap b12 "com/example/intreccio/intreccio/model/Binary$Operator" := Exa.start ev12 c12
  have S12 : Sta s s.heap "com/example/intreccio/intreccio/model/Binary$Operator" "GREATER" "Lcom/example/intreccio/intreccio/model/Binary$Operator;" (.ref b12) := Sta.start ev12 (Or.inr ⟨(hw _ (List.mem_of_getElem? (i := 3) rfl)), (hw _ (List.mem_of_getElem? (i := 29) rfl))⟩)
  have F12 : Fld s s.heap b12 "java/lang/Enum" "ordinal" "I" (.int (12 : Int32)) := Fld.start ((fld_at ev12).symm.trans (own_eqi c26))
  have E13 : Exa s s.heap b13 "com/example/intreccio/intreccio/model/Binary$Operator" := Exa.start ev13 c13
  have S13 : Sta s s.heap "com/example/intreccio/intreccio/model/Binary$Operator" "GREATER_EQUAL" "Lcom/example/intreccio/intreccio/model/Binary$Operator;" (.ref b13) := Sta.start ev13 (Or.inr ⟨(hw _ (List.mem_of_getElem? (i := 3) rfl)), (hw _ (List.mem_of_getElem? (i := 31) rfl))⟩)
  have F13 : Fld s s.heap b13 "java/lang/Enum" "ordinal" "I" (.int (13 : Int32)) := Fld.start ((fld_at ev13).symm.trans (own_eqi c30))
  have E14 : Exa s s.heap b14 "com/example/intreccio/intreccio/model/Binary$Operator" := Exa.start ev14 c14
  have S14 : Sta s s.heap "com/example/intreccio/intreccio/model/Binary$Operator" "EQUAL" "Lcom/example/intreccio/intreccio/model/Binary$Operator;" (.ref b14) := Sta.start ev14 (Or.inr ⟨(hw _ (List.mem_of_getElem? (i := 3) rfl)), (hw _ (List.mem_of_getElem? (i := 33) rfl))⟩)
  have F14 : Fld s s.heap b14 "java/lang/Enum" "ordinal" "I" (.int (14 : Int32)) := Fld.start ((fld_at ev14).symm.trans (own_eqi c33))
  have E15 : Exa s s.heap b15 "com/example/intreccio/intreccio/model/Binary$Operator" := Exa.start ev15 c15
  have S15 : Sta s s.heap "com/example/intreccio/intreccio/model/Binary$Operator" "NOT_EQUAL" "Lcom/example/intreccio/intreccio/model/Binary$Operator;" (.ref b15) := Sta.start ev15 (Or.inr ⟨(hw _ (List.mem_of_getElem? (i := 3) rfl)), (hw _ (List.mem_of_getElem? (i := 35) rfl))⟩)
  have F15 : Fld s s.heap b15 "java/lang/Enum" "ordinal" "I" (.int (15 : Int32)) := Fld.start ((fld_at ev15).symm.trans (own_eqi c28))
  have E16 : Exa s s.heap b16 "com/example/intreccio/intreccio/model/Binary$Operator" := Exa.start ev16 c16
  have S16 : Sta s s.heap "com/example/intreccio/intreccio/model/Binary$Operator" "AND" "Lcom/example/intreccio/intreccio/model/Binary$Operator;" (.ref b16) := Sta.start ev16 (Or.inr ⟨(hw _ (List.mem_of_getElem? (i := 3) rfl)), (hw _ (List.mem_of_getElem? (i := 37) rfl))⟩)
  have F16 : Fld s s.heap b16 "java/lang/Enum" "ordinal" "I" (.int (16 : Int32)) := Fld.start ((fld_at ev16).symm.trans (own_eqi c27))
  have E17 : Exa s s.heap b17 "com/example/intreccio/intreccio/model/Binary$Operator" := Exa.start ev17 c17
  have S17 : Sta s s.heap "com/example/intreccio/intreccio/model/Binary$Operator" "OR" "Lcom/example/intreccio/intreccio/model/Binary$Operator;" (.ref b17) := Sta.start ev17 (Or.inr ⟨(hw _ (List.mem_of_getElem? (i := 3) rfl)), (hw _ (List.mem_of_getElem? (i := 39) rfl))⟩)
  have F17 : Fld s s.heap b17 "java/lang/Enum" "ordinal" "I" (.int (17 : Int32)) := Fld.start ((fld_at ev17).symm.trans (own_eqi c32))
  have hO : ∀ i, i < 18 → Fld s s.heap ((fun i => ([b0, b1, b2, b3, b4, b5, b6, b7, b8, b9, b10, b11, b12, b13, b14, b15, b16, b17] : List Addr).getD i 0) i) "java/lang/Enum" "ordinal" "I" (.int (own_ord i)) := by
    intro i hi
    match i, hi with
    | 0, _ => exact F0
    | 1, _ => exact F1
    | 2, _ => exact F2
    | 3, _ => exact F3
    | 4, _ => exact F4
    | 5, _ => exact F5
    | 6, _ => exact F6
    | 7, _ => exact F7
    | 8, _ => exact F8
    | 9, _ => exact F9
    | 10, _ => exact F10
    | 11, _ => exact F11
    | 12, _ => exact F12
    | 13, _ => exact F13
    | 14, _ => exact F14
    | 15, _ => exact F15
    | 16, _ => exact F16
    | 17, _ => exact F17
    | n + 18, h => exact absurd h (by omega)
  refine ⟨(fun i => ([b0, b1, b2, b3, b4, b5, b6, b7, b8, b9, b10, b11, b12, b13, b14, b15, b16, b17] : List Addr).getD i 0), ⟨S0, S1, S2, S3, S4, S5, S6, S7, S8, S9, S10, S11, S12, S13, S14, S15, S16, S17⟩, ?_, fun i j hi hj q => own_ord_inj i hi j hj (Decidable.byContradiction fun ne => (hO i hi).ne (hO j hj) (fun z => ne (Value.int.inj z)) q)⟩
  intro i hi
  match i, hi with
  | 0, _ => exact E0
  | 1, _ => exact E1
  | 2, _ => exact E2
  | 3, _ => exact E3
  | 4, _ => exact E4
  | 5, _ => exact E5
  | 6, _ => exact E6
  | 7, _ => exact E7
  | 8, _ => exact E8
  | 9, _ => exact E9
  | 10, _ => exact E10
  | 11, _ => exact E11
  | 12, _ => exact E12
  | 13, _ => exact E13
  | 14, _ => exact E14
  | 15, _ => exact E15
  | 16, _ => exact E16
  | 17, _ => exact E17
  | n + 18, h => exact absurd h (by omega)
set_option maxRecDepth 65536 in
set_option maxHeartbeats 40000000 in
theorem comes_1 {Post : Tables → Env → Array Value → State → Outcome → State → Prop} (hpost : ∀ tb e args s v u, (limb_1_1.after args s (.returned v) u = true ∧ limb_1_2.after args s (.returned v) u = true ∧ True) → FrameEnd s (.returned v) u (Jvm.fieldLocs frame_1_writes args s ++ Jvm.arrayLocs frame_1_arrays args s ++ Jvm.staticLocs frame_1_statics s) 16 128 → Post tb e args s (.returned v) u) :
    ArmFor flags0 classFile x code maxLocals ret World_1 tables_1 room_1 Calls_1 rest_1 Pre_1 Post := by
  intro l hfl _ _ p e ha hc hk s m args below hf hA hF happ hP
  obtain ⟨hcalls, hrest, hpre⟩ := hP
  obtain ⟨-, -, -, hnamed, -, -, -, hat⟩ := (Spec.applies_iff hf).mp happ
  obtain ⟨hg, hn⟩ := and_e (Cond.before_iff.mp (show (Jvm.Cond.and given_1 narrow_1).before args s = true from hpre))
  obtain ⟨g0, hg⟩ := and_e hg
  have g1 := hg
  obtain ⟨w0, rfl⟩ : ∃ w0 : Value, args = #[w0] := by
    have hs : args.size = 1 := by simpa [Cond.value, given_1] using g0
    obtain ⟨L⟩ := args
    match L, hs with
    | [w0], _ => exact ⟨w0, rfl⟩
  have hw := fun d (hd : d ∈ tables_1) => atoms_spec (ws := Jvm.Cond.code x code maxLocals ret :: tables_1) hat d (List.mem_cons_of_mem _ hd)
  obtain ⟨i0, ei0⟩ := is_v g1
  obtain rfl : w0 = (.int i0) := Option.some.inj ei0
  obtain ⟨W, hS, hE, hD⟩ := own_open hw hn
  obtain ⟨n, o, h1, h2, h3, _, L, rfl, ⟨rfl, N⟩, hq⟩ := rm0 l s _ hw tables_1 i0 W s.heap s.heap.size (Nat.le_refl _) hS hE (own_inK i0) p e ha hc hk s m _ below hf ((Spec.applies_iff_loose hf).mp happ).1 ⟨rfl, State.Warmed39.refl s, rfl⟩ trivial
  refine ⟨n, _, h1, h2, h3, hpost _ _ _ _ _ _ ⟨Cond.after_iff.mpr rfl, Cond.after_iff.mpr (eq_i res_at (Term.int_eval (1)) (congrArg Value.int (own_law W hD  i0))), trivial⟩ ⟨hq.1, hq.2.1, (hq.2.2.sift fun y hy => Or.inr (N y hy)).mono (by decide) (by decide)⟩⟩
theorem main_1_1 : Claimed_1_1 := comes_1 fun _ _ _ _ _ _ h hF => ⟨h.1, hF⟩
theorem main_1_2 : Claimed_1_2 := comes_1 fun _ _ _ _ _ _ h hF => ⟨h.2.1, hF⟩
end Jvm.Pilot.@@N@@
namespace Jvm.Pilot.@@N@@
open Jvm Jvm.ClassFile Sem Op Lib Jvm.Free Jvm.Stand Jvm.Pilot.@@N@@.Jvm.D
/-! MADE BY PROGRAM (witnessworld.py) out of the Statement's table words and the real class files: 13 classes; the members and pool entries that the words name. The judged class is class 1, her method 1. -/
namespace start1
open Jvm.ClassFile
def u (s : String) : CpInfo := .utf8 (stringToUtf16 s)
/-- a pool by its gaps: so many unusable entries, then the entry; so many at the end -/
def gap : Nat → List CpInfo → List CpInfo
  | 0, r => r
  | n + 1, r => .unusable :: gap n r
def poolList (es : List (Nat × CpInfo)) (last : Nat) : List CpInfo := es.foldr (fun e r => gap e.1 (e.2 :: r)) (gap last [])
def pool (es : List (Nat × CpInfo)) (last : Nat) : Array CpInfo := ⟨poolList es last⟩
def fileOf (pool : Array CpInfo) (this : Nat) (attrs : Array Attribute := #[]) (ms : Array MethodInfo := #[]) (fl : Nat := 33) (sup : Nat := 0) (ifs : Array Nat := #[]) (fds : Array FieldInfo := #[]) : ClassFile where
  minorVersion := 0
  majorVersion := 65
  constantPool := pool
  accessFlags := fl
  thisClass := this
  superClass := sup
  interfaces := ifs
  fields := fds
  methods := ms
  attributes := attrs
def plain (name : String) (sup : Option ClassId) : Class where
  name := name
  kind := .ordinary
  loader := none
  accessFlags := 33
  super := sup
  interfaces := #[]
  cf := none
  fields := #[]
  methods := #[]
  instanceTypes := #[]
  staticTypes := #[]
  resolved := #[]
  callSites := []
  init := .initialized
  statics := none
  mirror := none

def pool0 : Array CpInfo := pool [(5, u "<init>"), (0, u "()V"), (1, .class_ 10), (1, u "java/lang/Object")] 113

def k0m0 : Method := { name := "<init>", desc := "()V", sig := { parameters := [], returnType := none }, accessFlags := 1, code := none }
/-- java/lang/Object -/
def k0 : Class := { plain "java/lang/Object" none with
  accessFlags := 33
  interfaces := #[]
  cf := some (fileOf pool0 8 #[] #[{ accessFlags := 1, nameIndex := 5, descriptorIndex := 6, attributes := #[] }] 33 0 #[] #[])
  fields := #[]
  methods := #[k0m0]
  instanceTypes := #[]
  staticTypes := #[]
  resolved := Array.replicate 124 none
  statics := none }

def pool1 : Array CpInfo := pool [(2, .class_ 4), (1, u "java/lang/Object"), (0, u "<init>"), (0, u "()V"), (0, .class_ 8), (0, u "com/example/intreccio/intreccio/model/Binary$Operator"), (0, .fieldref 7 10), (0, .nameAndType 11 12), (0, u "ADD"), (0, u "Lcom/example/intreccio/intreccio/model/Binary$Operator;"), (0, .fieldref 7 14), (0, .nameAndType 15 12), (0, u "SUBTRACT"), (0, .fieldref 7 17), (0, .nameAndType 18 12), (0, u "MULTIPLY"), (0, .fieldref 7 20), (0, .nameAndType 21 12), (0, u "DIVIDE"), (0, .fieldref 7 23), (0, .nameAndType 24 12), (0, u "REMAINDER"), (0, .fieldref 7 26), (0, .nameAndType 27 12), (0, u "SHIFT_LEFT"), (0, .fieldref 7 29), (0, .nameAndType 30 12), (0, u "SHIFT_RIGHT"), (0, .fieldref 7 32), (0, .nameAndType 33 12), (0, u "BIT_AND"), (0, .fieldref 7 35), (0, .nameAndType 36 12), (0, u "BIT_OR"), (0, .fieldref 7 38), (0, .nameAndType 39 12), (0, u "BIT_XOR"), (0, .fieldref 7 41), (0, .nameAndType 42 12), (0, u "LESS"), (0, .fieldref 7 44), (0, .nameAndType 45 12), (0, u "LESS_EQUAL"), (0, .fieldref 7 47), (0, .nameAndType 48 12), (0, u "GREATER"), (0, .fieldref 7 50), (0, .nameAndType 51 12), (0, u "GREATER_EQUAL"), (0, .fieldref 7 53), (0, .nameAndType 54 12), (0, u "EQUAL"), (0, .fieldref 7 56), (0, .nameAndType 57 12), (0, u "NOT_EQUAL"), (0, .fieldref 7 59), (0, .nameAndType 60 12), (0, u "AND"), (0, .fieldref 7 62), (0, .nameAndType 63 12), (0, u "OR"), (0, .integer 2147483647), (0, .methodref 7 66), (0, .nameAndType 67 68), (0, u "isDivision"), (0, u "()Z"), (0, .class_ 70), (0, u "com/example/intreccio/intreccio/model/OperatorIsDivisionPinLaw"), (2, u "law"), (0, u "(I)Z")] 9

def k1m0 : Method := { name := "<init>", desc := "()V", sig := { parameters := [], returnType := none }, accessFlags := 1, code := none }
def k1c1 : Code := { maxStack := 4, maxLocals := 5, code := code, exceptionTable := #[], attributes := #[] }
def k1m1 : Method := { name := "law", desc := "(I)Z", sig := { parameters := [.int], returnType := some .boolean }, accessFlags := 9, code := some k1c1 }
/-- com/example/intreccio/intreccio/model/OperatorIsDivisionPinLaw -/
def k1 : Class := { plain "com/example/intreccio/intreccio/model/OperatorIsDivisionPinLaw" (some 0) with
  accessFlags := 49
  interfaces := #[]
  cf := some (fileOf pool1 69 #[] #[{ accessFlags := 1, nameIndex := 5, descriptorIndex := 6, attributes := #[] }, { accessFlags := 9, nameIndex := 73, descriptorIndex := 74, attributes := #[] }] 49 2 #[] #[])
  fields := #[]
  methods := #[k1m0, k1m1]
  instanceTypes := #[]
  staticTypes := #[]
  resolved := Array.replicate 84 none
  statics := none }

def pool2 : Array CpInfo := pool [(1, .class_ 2), (0, u "java/lang/constant/Constable"), (0, .class_ 4), (0, u "java/lang/Object")] 6

/-- java/lang/constant/Constable -/
def k2 : Class := { plain "java/lang/constant/Constable" (some 0) with
  accessFlags := 1537
  interfaces := #[]
  cf := some (fileOf pool2 1 #[] #[] 1537 3 #[] #[])
  fields := #[]
  methods := #[]
  instanceTypes := #[]
  staticTypes := #[]
  resolved := Array.replicate 11 none
  statics := none }

def pool3 : Array CpInfo := pool [(1, .class_ 2), (0, u "java/lang/Comparable"), (0, .class_ 4), (0, u "java/lang/Object")] 7

/-- java/lang/Comparable -/
def k3 : Class := { plain "java/lang/Comparable" (some 0) with
  accessFlags := 1537
  interfaces := #[]
  cf := some (fileOf pool3 1 #[] #[] 1537 3 #[] #[])
  fields := #[]
  methods := #[]
  instanceTypes := #[]
  staticTypes := #[]
  resolved := Array.replicate 12 none
  statics := none }

def pool4 : Array CpInfo := pool [(1, .class_ 2), (0, u "java/io/Serializable"), (0, .class_ 4), (0, u "java/lang/Object")] 2

/-- java/io/Serializable -/
def k4 : Class := { plain "java/io/Serializable" (some 0) with
  accessFlags := 1537
  interfaces := #[]
  cf := some (fileOf pool4 1 #[] #[] 1537 3 #[] #[])
  fields := #[]
  methods := #[]
  instanceTypes := #[]
  staticTypes := #[]
  resolved := Array.replicate 7 none
  statics := none }

def pool5 : Array CpInfo := pool [(2, .class_ 4), (1, u "java/lang/Enum"), (0, u "name"), (0, u "Ljava/lang/String;"), (2, u "ordinal"), (0, u "I"), (1, .class_ 14), (1, u "java/lang/Object"), (4, u "hash"), (86, .class_ 108), (1, u "java/lang/Enum$EnumDesc"), (2, .class_ 112), (0, u "java/lang/constant/Constable"), (0, .class_ 114), (0, u "java/lang/Comparable"), (0, .class_ 116), (0, u "java/io/Serializable")] 87

/-- java/lang/Enum -/
def k5 : Class := { plain "java/lang/Enum" (some 0) with
  accessFlags := 1057
  interfaces := #[2, 3, 4]
  cf := some (fileOf pool5 2 #[.nestMembers #[106]] #[] 1057 12 #[111, 113, 115] #[{ accessFlags := 18, nameIndex := 5, descriptorIndex := 6, attributes := #[] }, { accessFlags := 18, nameIndex := 9, descriptorIndex := 10, attributes := #[] }, { accessFlags := 2, nameIndex := 19, descriptorIndex := 10, attributes := #[] }])
  fields := #[{ name := "name", type := (.object "java/lang/String"), accessFlags := 18, slot := 0, constantValue := 0 }, { name := "ordinal", type := .int, accessFlags := 18, slot := 1, constantValue := 0 }, { name := "hash", type := .int, accessFlags := 2, slot := 2, constantValue := 0 }]
  methods := #[]
  instanceTypes := #[(.object "java/lang/String"), .int, .int]
  staticTypes := #[]
  resolved := Array.replicate 204 none
  statics := none }

def pool6 : Array CpInfo := pool [(1, .class_ 2), (0, u "com/example/intreccio/intreccio/model/Binary$Operator"), (2, u "ADD"), (0, u "Lcom/example/intreccio/intreccio/model/Binary$Operator;"), (2, u "SUBTRACT"), (2, u "MULTIPLY"), (0, .fieldref 1 14), (0, .nameAndType 15 6), (0, u "DIVIDE"), (0, .fieldref 1 17), (0, .nameAndType 18 6), (0, u "REMAINDER"), (2, u "SHIFT_LEFT"), (2, u "SHIFT_RIGHT"), (2, u "BIT_AND"), (2, u "BIT_OR"), (2, u "BIT_XOR"), (2, u "LESS"), (2, u "LESS_EQUAL"), (2, u "GREATER"), (2, u "GREATER_EQUAL"), (2, u "EQUAL"), (2, u "NOT_EQUAL"), (2, u "AND"), (2, u "OR"), (2, u "$VALUES"), (0, u "[Lcom/example/intreccio/intreccio/model/Binary$Operator;"), (6, .class_ 70), (1, u "java/lang/Enum"), (41, u "()Z"), (1, u "isDivision"), (8, .class_ 124), (0, u "com/example/intreccio/intreccio/model/Binary")] 2

def k6c0 : Code := { maxStack := 2, maxLocals := 1, code := prog_106_method_5_code, exceptionTable := #[], attributes := #[] }
def k6m0 : Method := { name := "isDivision", desc := "()Z", sig := { parameters := [], returnType := some .boolean }, accessFlags := 1, code := some k6c0 }
/-- com/example/intreccio/intreccio/model/Binary$Operator -/
def k6 : Class := { plain "com/example/intreccio/intreccio/model/Binary$Operator" (some 5) with
  accessFlags := 16433
  interfaces := #[]
  cf := some (fileOf pool6 1 #[.nestHost 123] #[{ accessFlags := 1, nameIndex := 114, descriptorIndex := 112, attributes := #[] }] 16433 68 #[] #[{ accessFlags := 16409, nameIndex := 5, descriptorIndex := 6, attributes := #[] }, { accessFlags := 16409, nameIndex := 9, descriptorIndex := 6, attributes := #[] }, { accessFlags := 16409, nameIndex := 12, descriptorIndex := 6, attributes := #[] }, { accessFlags := 16409, nameIndex := 15, descriptorIndex := 6, attributes := #[] }, { accessFlags := 16409, nameIndex := 18, descriptorIndex := 6, attributes := #[] }, { accessFlags := 16409, nameIndex := 21, descriptorIndex := 6, attributes := #[] }, { accessFlags := 16409, nameIndex := 24, descriptorIndex := 6, attributes := #[] }, { accessFlags := 16409, nameIndex := 27, descriptorIndex := 6, attributes := #[] }, { accessFlags := 16409, nameIndex := 30, descriptorIndex := 6, attributes := #[] }, { accessFlags := 16409, nameIndex := 33, descriptorIndex := 6, attributes := #[] }, { accessFlags := 16409, nameIndex := 36, descriptorIndex := 6, attributes := #[] }, { accessFlags := 16409, nameIndex := 39, descriptorIndex := 6, attributes := #[] }, { accessFlags := 16409, nameIndex := 42, descriptorIndex := 6, attributes := #[] }, { accessFlags := 16409, nameIndex := 45, descriptorIndex := 6, attributes := #[] }, { accessFlags := 16409, nameIndex := 48, descriptorIndex := 6, attributes := #[] }, { accessFlags := 16409, nameIndex := 51, descriptorIndex := 6, attributes := #[] }, { accessFlags := 16409, nameIndex := 54, descriptorIndex := 6, attributes := #[] }, { accessFlags := 16409, nameIndex := 57, descriptorIndex := 6, attributes := #[] }, { accessFlags := 4122, nameIndex := 60, descriptorIndex := 61, attributes := #[] }])
  fields := #[{ name := "ADD", type := (.object "com/example/intreccio/intreccio/model/Binary$Operator"), accessFlags := 16409, slot := 0, constantValue := 0 }, { name := "SUBTRACT", type := (.object "com/example/intreccio/intreccio/model/Binary$Operator"), accessFlags := 16409, slot := 1, constantValue := 0 }, { name := "MULTIPLY", type := (.object "com/example/intreccio/intreccio/model/Binary$Operator"), accessFlags := 16409, slot := 2, constantValue := 0 }, { name := "DIVIDE", type := (.object "com/example/intreccio/intreccio/model/Binary$Operator"), accessFlags := 16409, slot := 3, constantValue := 0 }, { name := "REMAINDER", type := (.object "com/example/intreccio/intreccio/model/Binary$Operator"), accessFlags := 16409, slot := 4, constantValue := 0 }, { name := "SHIFT_LEFT", type := (.object "com/example/intreccio/intreccio/model/Binary$Operator"), accessFlags := 16409, slot := 5, constantValue := 0 }, { name := "SHIFT_RIGHT", type := (.object "com/example/intreccio/intreccio/model/Binary$Operator"), accessFlags := 16409, slot := 6, constantValue := 0 }, { name := "BIT_AND", type := (.object "com/example/intreccio/intreccio/model/Binary$Operator"), accessFlags := 16409, slot := 7, constantValue := 0 }, { name := "BIT_OR", type := (.object "com/example/intreccio/intreccio/model/Binary$Operator"), accessFlags := 16409, slot := 8, constantValue := 0 }, { name := "BIT_XOR", type := (.object "com/example/intreccio/intreccio/model/Binary$Operator"), accessFlags := 16409, slot := 9, constantValue := 0 }, { name := "LESS", type := (.object "com/example/intreccio/intreccio/model/Binary$Operator"), accessFlags := 16409, slot := 10, constantValue := 0 }, { name := "LESS_EQUAL", type := (.object "com/example/intreccio/intreccio/model/Binary$Operator"), accessFlags := 16409, slot := 11, constantValue := 0 }, { name := "GREATER", type := (.object "com/example/intreccio/intreccio/model/Binary$Operator"), accessFlags := 16409, slot := 12, constantValue := 0 }, { name := "GREATER_EQUAL", type := (.object "com/example/intreccio/intreccio/model/Binary$Operator"), accessFlags := 16409, slot := 13, constantValue := 0 }, { name := "EQUAL", type := (.object "com/example/intreccio/intreccio/model/Binary$Operator"), accessFlags := 16409, slot := 14, constantValue := 0 }, { name := "NOT_EQUAL", type := (.object "com/example/intreccio/intreccio/model/Binary$Operator"), accessFlags := 16409, slot := 15, constantValue := 0 }, { name := "AND", type := (.object "com/example/intreccio/intreccio/model/Binary$Operator"), accessFlags := 16409, slot := 16, constantValue := 0 }, { name := "OR", type := (.object "com/example/intreccio/intreccio/model/Binary$Operator"), accessFlags := 16409, slot := 17, constantValue := 0 }, { name := "$VALUES", type := (.array (.object "com/example/intreccio/intreccio/model/Binary$Operator")), accessFlags := 4122, slot := 18, constantValue := 0 }]
  methods := #[k6m0]
  instanceTypes := #[(.object "java/lang/String"), .int, .int]
  staticTypes := #[(.object "com/example/intreccio/intreccio/model/Binary$Operator"), (.object "com/example/intreccio/intreccio/model/Binary$Operator"), (.object "com/example/intreccio/intreccio/model/Binary$Operator"), (.object "com/example/intreccio/intreccio/model/Binary$Operator"), (.object "com/example/intreccio/intreccio/model/Binary$Operator"), (.object "com/example/intreccio/intreccio/model/Binary$Operator"), (.object "com/example/intreccio/intreccio/model/Binary$Operator"), (.object "com/example/intreccio/intreccio/model/Binary$Operator"), (.object "com/example/intreccio/intreccio/model/Binary$Operator"), (.object "com/example/intreccio/intreccio/model/Binary$Operator"), (.object "com/example/intreccio/intreccio/model/Binary$Operator"), (.object "com/example/intreccio/intreccio/model/Binary$Operator"), (.object "com/example/intreccio/intreccio/model/Binary$Operator"), (.object "com/example/intreccio/intreccio/model/Binary$Operator"), (.object "com/example/intreccio/intreccio/model/Binary$Operator"), (.object "com/example/intreccio/intreccio/model/Binary$Operator"), (.object "com/example/intreccio/intreccio/model/Binary$Operator"), (.object "com/example/intreccio/intreccio/model/Binary$Operator"), (.array (.object "com/example/intreccio/intreccio/model/Binary$Operator"))]
  resolved := Array.replicate 127 none
  statics := some 0 }

def pool7 : Array CpInfo := pool [(1, u "java/lang/Cloneable"), (0, .class_ 1), (0, u "java/lang/Object"), (0, .class_ 3)] 3

/-- java/lang/Cloneable -/
def k7 : Class := { plain "java/lang/Cloneable" (some 0) with
  accessFlags := 1537
  interfaces := #[]
  cf := some (fileOf pool7 2 #[] #[] 1537 4 #[] #[])
  fields := #[]
  methods := #[]
  instanceTypes := #[]
  staticTypes := #[]
  resolved := Array.replicate 8 none
  statics := none }

/-- the primitive byte -/
def k8 : Class := { plain "byte" none with kind := .primitive 'B', accessFlags := 0x411 }
/-- [B -/
def k9 : Class := { plain "[B" (some 0) with kind := .array 8 .byte, interfaces := #[7, 4], accessFlags := 1041 }

/-- the primitive int -/
def k10 : Class := { plain "int" none with kind := .primitive 'I', accessFlags := 0x411 }
/-- [I -/
def k11 : Class := { plain "[I" (some 0) with kind := .array 10 .int, interfaces := #[7, 4], accessFlags := 1041 }

/-- [Lcom/example/intreccio/intreccio/model/Binary$Operator; -/
def k12 : Class := { plain "[Lcom/example/intreccio/intreccio/model/Binary$Operator;" (some 0) with kind := .array 6 (.object "com/example/intreccio/intreccio/model/Binary$Operator"), interfaces := #[7, 4], accessFlags := 1041 }

def heap : Heap := #[{ cls := 6, slots := #[.ref 1, .ref 5, .ref 4, .ref 2, .ref 3, .ref 17, .ref 14, .ref 6, .ref 8, .ref 18, .ref 12, .ref 7, .ref 9, .ref 13, .ref 16, .ref 11, .ref 10, .ref 15, .null], vm := .statics 6 },
  { cls := 6, slots := #[.null, .int 0, .int 0], vm := .none },
  { cls := 6, slots := #[.null, .int 3, .int 0], vm := .none },
  { cls := 6, slots := #[.null, .int 4, .int 0], vm := .none },
  { cls := 6, slots := #[.null, .int 2, .int 0], vm := .none },
  { cls := 6, slots := #[.null, .int 1, .int 0], vm := .none },
  { cls := 6, slots := #[.null, .int 7, .int 0], vm := .none },
  { cls := 6, slots := #[.null, .int 11, .int 0], vm := .none },
  { cls := 6, slots := #[.null, .int 8, .int 0], vm := .none },
  { cls := 6, slots := #[.null, .int 12, .int 0], vm := .none },
  { cls := 6, slots := #[.null, .int 16, .int 0], vm := .none },
  { cls := 6, slots := #[.null, .int 15, .int 0], vm := .none },
  { cls := 6, slots := #[.null, .int 10, .int 0], vm := .none },
  { cls := 6, slots := #[.null, .int 13, .int 0], vm := .none },
  { cls := 6, slots := #[.null, .int 6, .int 0], vm := .none },
  { cls := 6, slots := #[.null, .int 17, .int 0], vm := .none },
  { cls := 6, slots := #[.null, .int 14, .int 0], vm := .none },
  { cls := 6, slots := #[.null, .int 5, .int 0], vm := .none },
  { cls := 6, slots := #[.null, .int 9, .int 0], vm := .none }]
def classes : Array Class := #[k0, k1, k2, k3, k4, k5, k6, k7, k8, k9, k10, k11, k12]
def interned : List (Array UInt16 × Addr) := []
def slotsUsed : Nat := 73
def theMethod : MethodId := ⟨1, 1⟩
def args0 : Array Value := #[.int 5]
def aboutOver (below : List Frame) : State where
  vm := { classes := classes, interned := interned.toArray }
  heap := heap
  slotsUsed := slotsUsed
  threads := #[{ frames := .invoking theMethod args0 :: below }]
def below0 : List Frame := [.native { method := ⟨0, 0⟩, args := #[] }]
def about1 : State := aboutOver below0
def p0 : Program := .bare "" "" ""
def e0 : Env := launch0.env 0 0 0
theorem w_frames : about1.frames = Frame.invoking theMethod args0 :: below0 := rfl
set_option maxRecDepth 65536 in
theorem w_args : argsFit about1.vm theMethod args0 = true := by decide +kernel
set_option maxRecDepth 65536 in
theorem w_heap : heapFits about1 = true := by decide +kernel
set_option maxRecDepth 65536 in
theorem w_runnable : about1.curStatus? = some .runnable := by decide +kernel
set_option maxRecDepth 65536 in
theorem w_alone : about1.alone = true := by decide +kernel
set_option maxRecDepth 65536 in
theorem w_named : about1.methodNamed? x = some theMethod := by decide +kernel
set_option maxRecDepth 65536 in
theorem w_hears : about1.hears theMethod below0 = true := by decide +kernel
set_option maxRecDepth 65536 in
theorem w_ripe : about1.ripe theMethod args0 below0 = true := by decide +kernel
theorem w_running : about1.status = .running := rfl
set_option maxRecDepth 65536 in
theorem w_room : about1.hasRoom e0.platform room_1 = true :=
  launch0.hasRoom_least _ room_1 (by decide +kernel) (by decide +kernel) (by decide +kernel) (by decide +kernel) (by decide +kernel) (by decide +kernel)
theorem allAtoms_all (ts : List Jvm.Cond) (a : Array Jvm.Value) (st : Jvm.State) : (allAtoms ts).before a st = ts.all (fun c => c.before a st) := by
  induction ts with
  | nil => rfl
  | cons c t ih =>
    show (Jvm.Cond.and c (allAtoms t)).before a st = _
    rw [Jvm.Cond.before_and, ih, List.all_cons]
def words1 : List Jvm.Cond := Jvm.Cond.code x code maxLocals ret :: tables_1
/-- a 'code' word, met by the world's own term for the bytes: nothing is compared byte by byte -/
theorem code_word {y : MethodName} {bytes : ByteArray} {mx : Nat} {rt : Option FieldType} {a : Array Value} {s : State} {m : MethodId} {meth : Method} {c : Code} (h1 : s.methodNamed? y = some m) (h2 : s.vm.method? m = some meth) (h3 : meth.code = some c) (h4 : c.code = bytes)
    (h5 : (c.maxLocals == mx && c.exceptionTable.isEmpty && decide (c.maxStack ≤ mostOperands) && decide (meth.sig.returnType = rt) && !meth.locks && decide (parseMethodDescriptor y.desc = some meth.sig)) = true) : (Jvm.Cond.code y bytes mx rt).before a s = true := by
  simp only [Bool.and_eq_true, beq_iff_eq, Bool.not_eq_true', decide_eq_true_eq] at h5
  obtain ⟨⟨⟨⟨⟨g1, g2⟩, g3⟩, g4⟩, g5⟩, g6⟩ := h5
  simp [Cond.before, Cond.holds, Cond.value, h1, h2, h3, h4, g1, g2, g3, g4, g5, g6]
def isCode : Jvm.Cond → Bool
  | .code _ _ _ _ => true
  | _ => false
theorem all_split {L : List Jvm.Cond} {P : Jvm.Cond → Bool} (h1 : L.all (fun c => isCode c || P c) = true) (h2 : ∀ c ∈ L.filter isCode, P c = true) : L.all P = true := by
  refine List.all_eq_true.mpr fun c hc => ?_
  have h := List.all_eq_true.mp h1 c hc
  rcases Bool.eq_false_or_eq_true (isCode c) with hi | hi
  · exact h2 c (List.mem_filter.mpr ⟨hc, hi⟩)
  · simpa [hi] using h
set_option maxRecDepth 65536 in
theorem w_c0 : (Jvm.Cond.code x code maxLocals ret).before args0 about1 = true := code_word (m := ⟨1, 1⟩) (meth := k1m1) (c := k1c1) (by decide +kernel) rfl rfl rfl (by decide +kernel)
set_option maxRecDepth 65536 in
theorem w_c1 : (Jvm.Cond.code ({ cls := "com/example/intreccio/intreccio/model/Binary$Operator", name := "isDivision", desc := "()Z" } : Jvm.MethodName) prog_106_method_5_code (1 : Nat) (Option.some Jvm.ClassFile.FieldType.boolean)).before args0 about1 = true := code_word (m := ⟨6, 0⟩) (meth := k6m0) (c := k6c0) (by decide +kernel) rfl rfl rfl (by decide +kernel)
def codes1 : List Jvm.Cond := [Jvm.Cond.code x code maxLocals ret, Jvm.Cond.code ({ cls := "com/example/intreccio/intreccio/model/Binary$Operator", name := "isDivision", desc := "()Z" } : Jvm.MethodName) prog_106_method_5_code (1 : Nat) (Option.some Jvm.ClassFile.FieldType.boolean)]
set_option maxRecDepth 65536 in
theorem codes_eq : words1.filter isCode = codes1 := rfl
theorem w_codes : ∀ c ∈ words1.filter isCode, c.before args0 about1 = true := by
  rw [codes_eq]
  intro c hc
  simp only [codes1, List.mem_cons, List.not_mem_nil, or_false] at hc
  rcases hc with rfl | rfl
  · exact w_c0
  · exact w_c1
set_option maxRecDepth 65536 in
theorem w_t1 : (words1.take 24).all (fun c => isCode c || c.before args0 about1) = true := by decide +kernel
set_option maxRecDepth 65536 in
theorem w_t2 : ((words1.drop 24).take 24).all (fun c => isCode c || c.before args0 about1) = true := by decide +kernel
set_option maxRecDepth 65536 in
theorem w_t3 : ((words1.drop 24).drop 24).all (fun c => isCode c || c.before args0 about1) = true := by decide +kernel
theorem w_tables : (allAtoms (Jvm.Cond.code x code maxLocals ret :: tables_1)).before args0 about1 = true := by
  rw [allAtoms_all]
  show words1.all (fun c => c.before args0 about1) = true
  refine all_split ?_ w_codes
  rw [← List.take_append_drop 24 words1, List.all_append, w_t1, ← List.take_append_drop 24 (words1.drop 24), List.all_append, w_t2, w_t3]
  rfl
set_option maxRecDepth 65536 in
theorem w_case : (Jvm.Cond.and given_1 narrow_1).before args0 about1 = true := by decide +kernel
theorem w_applies : (headSpec (Jvm.Cond.code x code maxLocals ret :: tables_1) room_1).applies x e0.platform about1 = true :=
  (Spec.applies_iff w_frames).mpr ⟨w_running, w_runnable, w_alone, w_named, w_hears, w_ripe, w_room, w_tables⟩
theorem atStart : AtStart classFile x code maxLocals ret World_1 tables_1 room_1 Calls_1 rest_1 Pre_1 launch0 p0 e0 about1 theMethod args0 below0 :=
  ⟨lists_1, trivial, launch0.admits_env _ _ _, launch0.least_env, fairChoices_fair.cas, fairChoices_fair.clock, w_frames, w_args, w_heap, w_applies, trivial, trivial, w_case⟩
end start1
theorem witness_1 : WitnessClaimed_1 := ⟨start1.p0, start1.e0, start1.about1, start1.theMethod, start1.args0, start1.below0, start1.atStart⟩
end Jvm.Pilot.@@N@@
