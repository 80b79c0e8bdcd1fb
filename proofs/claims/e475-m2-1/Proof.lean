import JvmDerived
import JvmDerived.Pilot.@@N@@Statement
import JvmDerived.Pilot.@@N@@Code
set_option linter.unusedVariables false
set_option linter.unusedSimpArgs false
@@BLOCK:NumsL.lean.txt@@
namespace Jvm.Pilot.@@N@@
open Jvm Jvm.ClassFile Sem Op Lib Jvm.Free Jvm.Stand Jvm.LawKit Jvm.RoadKit Bundle Jvm.Pilot.@@N@@.Jvm.D
/-! 1. the shape of a walk: from here on some end is reached that answers G -/
def own_Fin (p : Program) (e : Env) (below : List Frame) (G : Outcome → State → Prop) (T : State) (g : JFrame) : Prop :=
  ∃ s₂ o, Steps p.tables e below (T.setTop g) s₂ ∧ s₂.status = .running ∧ Ended s₂ below o ∧ G o s₂
theorem own_step {p : Program} {e : Env} {below : List Frame} {G : Outcome → State → Prop} {T T' : State} {g g' : JFrame}
    (h : ∀ t, Steps p.tables e below (T'.setTop g') t → Steps p.tables e below (T.setTop g) t) (k : own_Fin p e below G T' g') : own_Fin p e below G T g := by
  obtain ⟨s₂, o, h1, h2⟩ := k
  exact ⟨s₂, o, h _ h1, h2⟩
theorem own_cast {p : Program} {e : Env} {below : List Frame} {G : Outcome → State → Prop} {T : State} {g g' : JFrame} (q : g = g') (k : own_Fin p e below G T g') : own_Fin p e below G T g := q ▸ k
/-- what a body that makes nothing answers: the value V, nothing old written, the heap as it was -/
def own_Q (h0 : Heap) (n0 : Nat) (V : Value) (v : Option Value) (h : Heap) (L : List Loc) : Prop := v = some V ∧ Fr n0 L ∧ h = h0
abbrev own_Con (l : Launch) (Z : State) (y : MethodName) (bytes : ByteArray) (ml : Nat) (ret : Option FieldType) (rm : Room) (as : Array Value) (h0 : Heap) (n0 : Nat) (V : Value) (ws : List Jvm.Cond) : Prop :=
  MetFree l y (head1 (Jvm.Cond.code y bytes ml ret :: ws) rm) (fun a U => a = as ∧ Z.Warmed39 U.vm ∧ U.heap = h0) (fun _ _ _ _ _ => True)
    (fun _ U o U' => ∃ v L, o = .returned v ∧ own_Q h0 n0 V v U'.heap L ∧ FrameEnd U o U' L rm.cells rm.slots)
theorem own_fin {p : Program} {l : Launch} {e : Env} {R : Room} {s : State} {m : MethodId} {args : Array Value} {below : List Frame} {meth : Method} {c : Code} {T : State} {locs : List Loc} {cells slots : Nat}
    (X : Stand p l e R s m args below meth c T locs cells slots) (hx : p.tables.exec = Jvm.exec) {pc : Nat} {Ls : Array Slot} {w V : Value} {t : FieldType} {i : Instr} {rest : List Value} (hret : meth.sig.returnType = some t) (hn : narrow t w = w)
    (hi : (i = .ireturn ∧ (t = .int ∨ t = .boolean ∨ t = .byte ∨ t = .char ∨ t = .short) ∧ ∃ z, w = .int z) ∨ (i = .lreturn ∧ t = .long ∧ ∃ z, w = .long z) ∨ (i = .dreturn ∧ t = .double ∧ ∃ z, w = .double z) ∨ (i = .freturn ∧ t = .float ∧ ∃ z, w = .float z) ∨ (i = .areturn ∧ t.isReference = true ∧ w.isRef = true))
    (hd : decode c.code pc = .ok (i, 1)) (hlocks : meth.locks = false) {n0 : Nat} {h0 : Heap} (N : Fr n0 locs) (eT : T.heap = h0) (hV : V = w) {k n : Nat} (hk : cells ≤ k) (hn' : slots ≤ n) :
    own_Fin p e below (fun o U' => ∃ v L, o = .returned v ∧ own_Q h0 n0 V v U'.heap L ∧ FrameEnd s o U' L k n) T (mkF m pc Ls (w :: rest)) := by
  obtain ⟨fs, hr, hrun, hended, hW, hsame⟩ := X.leave (v := some w) (fun h => by rw [hret] at h; cases h) hlocks
  exact ⟨_, _, retOut X hx hret hn hi hd hr, hrun, hended, _, _, rfl, ⟨by rw [hV], N, eT⟩, ⟨_, rfl⟩, hW, hsame.mono hk hn'⟩
/-! 2. the bodies, walked -/
theorem own_pn0 : plainName "com/example/locstep/locstep/xpath/Values" = true := by first | (simp [plainName, overriddenIn]; done) | decide +kernel
theorem d1_0 : decode prog_207_method_20_code 0 = .ok (.iload_n 0, 1) := by decide +kernel
theorem d1_1 : decode prog_207_method_20_code 1 = .ok (.bipush 32, 2) := by decide +kernel
theorem d1_3 : decode prog_207_method_20_code 3 = .ok (.if_icmp .eq 21, 3) := by decide +kernel
theorem d1_6 : decode prog_207_method_20_code 6 = .ok (.iload_n 0, 1) := by decide +kernel
theorem d1_7 : decode prog_207_method_20_code 7 = .ok (.bipush 9, 2) := by decide +kernel
theorem d1_9 : decode prog_207_method_20_code 9 = .ok (.if_icmp .eq 15, 3) := by decide +kernel
theorem d1_12 : decode prog_207_method_20_code 12 = .ok (.iload_n 0, 1) := by decide +kernel
theorem d1_13 : decode prog_207_method_20_code 13 = .ok (.bipush 10, 2) := by decide +kernel
theorem d1_15 : decode prog_207_method_20_code 15 = .ok (.if_icmp .eq 9, 3) := by decide +kernel
theorem d1_18 : decode prog_207_method_20_code 18 = .ok (.iload_n 0, 1) := by decide +kernel
theorem d1_19 : decode prog_207_method_20_code 19 = .ok (.bipush 13, 2) := by decide +kernel
theorem d1_21 : decode prog_207_method_20_code 21 = .ok (.if_icmp .ne 7, 3) := by decide +kernel
theorem d1_24 : decode prog_207_method_20_code 24 = .ok (.iconst 1, 1) := by decide +kernel
theorem d1_25 : decode prog_207_method_20_code 25 = .ok (.goto 4, 3) := by decide +kernel
theorem d1_28 : decode prog_207_method_20_code 28 = .ok (.iconst 0, 1) := by decide +kernel
theorem d1_29 : decode prog_207_method_20_code 29 = .ok (.ireturn, 1) := by decide +kernel
theorem ef1 (m : MethodId) (p1 : Int32) : entryFrame m #[(.int p1)] 1 = mkF m 0 #[.val (.int p1)] [] := by first | (simp [entryFrame, mkF, argsToLocals, Value.category]; done) | rfl
def V1 (p1 : Int32) : Int32 := (if p1 = (32 : Int32) then (1 : Int32) else (if p1 = (9 : Int32) then (1 : Int32) else (if p1 = (10 : Int32) then (1 : Int32) else (if p1 = (13 : Int32) then (1 : Int32) else (0 : Int32)))))
theorem own_V1 (p1 : Int32) : V1 p1 = (if p1 = (32 : Int32) then (1 : Int32) else (if p1 = (9 : Int32) then (1 : Int32) else (if p1 = (10 : Int32) then (1 : Int32) else (if p1 = (13 : Int32) then (1 : Int32) else (0 : Int32))))) := rfl
set_option maxRecDepth 65536 in
set_option maxHeartbeats 40000000 in
theorem rm1 (l : Launch) (Z : State) (a0 : Array Value) (hw : ∀ d ∈ tables_1, d.before a0 Z = true) (ws : List Jvm.Cond) (p1 : Int32) (h0 : Heap) (n0 : Nat) (Z0 : n0 ≤ h0.size) :
    own_Con l Z (⟨"com/example/locstep/locstep/xpath/Values", "isWhitespace", "(C)Z"⟩ : MethodName) prog_207_method_20_code 1 (some .boolean) ({ frames := 0, cells := 0, slots := 0, locals := 0 } : Room) #[(.int p1)] h0 n0 (.int (V1 p1)) ws := by
  refine MetFree.of_bodySF (plainFor_of_name own_pn0) hisR ?_
  intro p e s m args below meth c s₁ Bd hml0 hP hK
  obtain ⟨rfl, hZ, hh⟩ := hP
  have hx := Bd.exec
  have hby := Bd.bytes
  have hml : c.maxLocals = 1 := hml0
  have hown : s.vm.findClass "com/example/locstep/locstep/xpath/Values" = some m.cls := findClass_of_methodNamed Bd.named
  have X0 : Stand p l e ({ frames := 0, cells := 0, slots := 0, locals := 0 } : Room) s m #[(.int p1)] below meth c s₁ [] 0 0 := Stand.of_body Bd
  have e0 : s₁.heap = h0 := by rw [← hh, Bd.state]; rfl
  have N0 := Fr.nil n0
  refine own_cast (ef1 m p1) ?_
  refine own_step (T' := s₁) (g' := (mkF m 1 #[.val (.int p1)] [(.int p1)])) (fun t k => XS.iloadN X0.here hx rfl (hb hby d1_0) rfl k) ?_
  refine own_step (T' := s₁) (g' := (mkF m 3 #[.val (.int p1)] [(.int (32 : Int32)), (.int p1)])) (fun t k => XS.bipush X0.here hx rfl (hb hby d1_1) k) ?_
  by_cases hc1 : p1 = (32 : Int32)
  · refine own_step (T' := s₁) (g' := (mkF m 24 #[.val (.int p1)] [])) (fun t k => XS.icmpYes X0.here hx rfl (pc0 := 3) (pc' := 24) rfl (hb hby d1_3) rfl (teq hc1).1 (by decide) (by decide) k) ?_
    refine own_step (T' := s₁) (g' := (mkF m 25 #[.val (.int p1)] [(.int (1 : Int32))])) (fun t k => XS.iconst X0.here hx rfl (hb hby d1_24) k) ?_
    refine own_step (T' := s₁) (g' := (mkF m 29 #[.val (.int p1)] [(.int (1 : Int32))])) (fun t k => XS.goto X0.here hx rfl (pc0 := 25) (pc' := 29) rfl (hb hby d1_25) (by decide) (by decide) k) ?_
    exact own_fin X0 hx Bd.returns rfl (Or.inl ⟨rfl, Or.inr (Or.inl rfl), _, rfl⟩) (hb hby d1_29) (BodyLoose.notSynchronized Bd) N0 e0 (congrArg _ (by rw [own_V1, if_pos hc1])) (by decide) (by decide)
  · refine own_step (T' := s₁) (g' := (mkF m 6 #[.val (.int p1)] [])) (fun t k => XS.icmpNo X0.here hx rfl (hb hby d1_3) rfl (feq hc1).1 k) ?_
    refine own_step (T' := s₁) (g' := (mkF m 7 #[.val (.int p1)] [(.int p1)])) (fun t k => XS.iloadN X0.here hx rfl (hb hby d1_6) rfl k) ?_
    refine own_step (T' := s₁) (g' := (mkF m 9 #[.val (.int p1)] [(.int (9 : Int32)), (.int p1)])) (fun t k => XS.bipush X0.here hx rfl (hb hby d1_7) k) ?_
    by_cases hc2 : p1 = (9 : Int32)
    · refine own_step (T' := s₁) (g' := (mkF m 24 #[.val (.int p1)] [])) (fun t k => XS.icmpYes X0.here hx rfl (pc0 := 9) (pc' := 24) rfl (hb hby d1_9) rfl (teq hc2).1 (by decide) (by decide) k) ?_
      refine own_step (T' := s₁) (g' := (mkF m 25 #[.val (.int p1)] [(.int (1 : Int32))])) (fun t k => XS.iconst X0.here hx rfl (hb hby d1_24) k) ?_
      refine own_step (T' := s₁) (g' := (mkF m 29 #[.val (.int p1)] [(.int (1 : Int32))])) (fun t k => XS.goto X0.here hx rfl (pc0 := 25) (pc' := 29) rfl (hb hby d1_25) (by decide) (by decide) k) ?_
      exact own_fin X0 hx Bd.returns rfl (Or.inl ⟨rfl, Or.inr (Or.inl rfl), _, rfl⟩) (hb hby d1_29) (BodyLoose.notSynchronized Bd) N0 e0 (congrArg _ (by rw [own_V1, if_neg hc1, if_pos hc2])) (by decide) (by decide)
    · refine own_step (T' := s₁) (g' := (mkF m 12 #[.val (.int p1)] [])) (fun t k => XS.icmpNo X0.here hx rfl (hb hby d1_9) rfl (feq hc2).1 k) ?_
      refine own_step (T' := s₁) (g' := (mkF m 13 #[.val (.int p1)] [(.int p1)])) (fun t k => XS.iloadN X0.here hx rfl (hb hby d1_12) rfl k) ?_
      refine own_step (T' := s₁) (g' := (mkF m 15 #[.val (.int p1)] [(.int (10 : Int32)), (.int p1)])) (fun t k => XS.bipush X0.here hx rfl (hb hby d1_13) k) ?_
      by_cases hc3 : p1 = (10 : Int32)
      · refine own_step (T' := s₁) (g' := (mkF m 24 #[.val (.int p1)] [])) (fun t k => XS.icmpYes X0.here hx rfl (pc0 := 15) (pc' := 24) rfl (hb hby d1_15) rfl (teq hc3).1 (by decide) (by decide) k) ?_
        refine own_step (T' := s₁) (g' := (mkF m 25 #[.val (.int p1)] [(.int (1 : Int32))])) (fun t k => XS.iconst X0.here hx rfl (hb hby d1_24) k) ?_
        refine own_step (T' := s₁) (g' := (mkF m 29 #[.val (.int p1)] [(.int (1 : Int32))])) (fun t k => XS.goto X0.here hx rfl (pc0 := 25) (pc' := 29) rfl (hb hby d1_25) (by decide) (by decide) k) ?_
        exact own_fin X0 hx Bd.returns rfl (Or.inl ⟨rfl, Or.inr (Or.inl rfl), _, rfl⟩) (hb hby d1_29) (BodyLoose.notSynchronized Bd) N0 e0 (congrArg _ (by rw [own_V1, if_neg hc1, if_neg hc2, if_pos hc3])) (by decide) (by decide)
      · refine own_step (T' := s₁) (g' := (mkF m 18 #[.val (.int p1)] [])) (fun t k => XS.icmpNo X0.here hx rfl (hb hby d1_15) rfl (feq hc3).1 k) ?_
        refine own_step (T' := s₁) (g' := (mkF m 19 #[.val (.int p1)] [(.int p1)])) (fun t k => XS.iloadN X0.here hx rfl (hb hby d1_18) rfl k) ?_
        refine own_step (T' := s₁) (g' := (mkF m 21 #[.val (.int p1)] [(.int (13 : Int32)), (.int p1)])) (fun t k => XS.bipush X0.here hx rfl (hb hby d1_19) k) ?_
        by_cases hc4 : p1 = (13 : Int32)
        · refine own_step (T' := s₁) (g' := (mkF m 24 #[.val (.int p1)] [])) (fun t k => XS.icmpNo X0.here hx rfl (hb hby d1_21) rfl (teq hc4).2 k) ?_
          refine own_step (T' := s₁) (g' := (mkF m 25 #[.val (.int p1)] [(.int (1 : Int32))])) (fun t k => XS.iconst X0.here hx rfl (hb hby d1_24) k) ?_
          refine own_step (T' := s₁) (g' := (mkF m 29 #[.val (.int p1)] [(.int (1 : Int32))])) (fun t k => XS.goto X0.here hx rfl (pc0 := 25) (pc' := 29) rfl (hb hby d1_25) (by decide) (by decide) k) ?_
          exact own_fin X0 hx Bd.returns rfl (Or.inl ⟨rfl, Or.inr (Or.inl rfl), _, rfl⟩) (hb hby d1_29) (BodyLoose.notSynchronized Bd) N0 e0 (congrArg _ (by rw [own_V1, if_neg hc1, if_neg hc2, if_neg hc3, if_pos hc4])) (by decide) (by decide)
        · refine own_step (T' := s₁) (g' := (mkF m 28 #[.val (.int p1)] [])) (fun t k => XS.icmpYes X0.here hx rfl (pc0 := 21) (pc' := 28) rfl (hb hby d1_21) rfl (feq hc4).2 (by decide) (by decide) k) ?_
          refine own_step (T' := s₁) (g' := (mkF m 29 #[.val (.int p1)] [(.int (0 : Int32))])) (fun t k => XS.iconst X0.here hx rfl (hb hby d1_28) k) ?_
          exact own_fin X0 hx Bd.returns rfl (Or.inl ⟨rfl, Or.inr (Or.inl rfl), _, rfl⟩) (hb hby d1_29) (BodyLoose.notSynchronized Bd) N0 e0 (congrArg _ (by rw [own_V1, if_neg hc1, if_neg hc2, if_neg hc3, if_neg hc4])) (by decide) (by decide)
theorem own_pn1 : plainName "com/example/locstep/locstep/xpath/ValuesIsWhitespacePinLaw" = true := by first | (simp [plainName, overriddenIn]; done) | decide +kernel
theorem own_pd0 : parseMethodDescriptor "(C)Z" = some ⟨[.char], some .boolean⟩ := by decide +kernel
theorem ef0 (m : MethodId) (p1 : Int32) : entryFrame m #[(.int p1)] maxLocals = mkF m 0 #[.val (.int p1), .unset, .unset, .unset, .unset, .unset] [] := by first | (simp [entryFrame, mkF, argsToLocals, Value.category, maxLocals]; done) | rfl
def V0 (p1 : Int32) : Int32 := (if (32 : Int32) < ((p1).toUInt32.toUInt16.toUInt32.toInt32) then (if (V1 ((p1).toUInt32.toUInt16.toUInt32.toInt32)) = (0 : Int32) then (1 : Int32) else (0 : Int32)) else (if (lcmpW (((((4294977024 : Int64)).toUInt64 >>> (((p1).toUInt32.toUInt16.toUInt32.toInt32) &&& 0x3f).toInt64.toUInt64).toInt64) &&& (1 : Int64)) (0 : Int64)) = (0 : Int32) then (if (V1 ((p1).toUInt32.toUInt16.toUInt32.toInt32)) = (0 : Int32) then (1 : Int32) else (0 : Int32)) else (if (V1 ((p1).toUInt32.toUInt16.toUInt32.toInt32)) = (1 : Int32) then (1 : Int32) else (0 : Int32))))
theorem own_V0 (p1 : Int32) : V0 p1 = (if (32 : Int32) < ((p1).toUInt32.toUInt16.toUInt32.toInt32) then (if (V1 ((p1).toUInt32.toUInt16.toUInt32.toInt32)) = (0 : Int32) then (1 : Int32) else (0 : Int32)) else (if (lcmpW (((((4294977024 : Int64)).toUInt64 >>> (((p1).toUInt32.toUInt16.toUInt32.toInt32) &&& 0x3f).toInt64.toUInt64).toInt64) &&& (1 : Int64)) (0 : Int64)) = (0 : Int32) then (if (V1 ((p1).toUInt32.toUInt16.toUInt32.toInt32)) = (0 : Int32) then (1 : Int32) else (0 : Int32)) else (if (V1 ((p1).toUInt32.toUInt16.toUInt32.toInt32)) = (1 : Int32) then (1 : Int32) else (0 : Int32)))) := rfl
set_option maxRecDepth 65536 in
set_option maxHeartbeats 40000000 in
theorem rm0 (l : Launch) (Z : State) (a0 : Array Value) (hw : ∀ d ∈ tables_1, d.before a0 Z = true) (ws : List Jvm.Cond) (p1 : Int32) (h0 : Heap) (n0 : Nat) (Z0 : n0 ≤ h0.size) :
    own_Con l Z x code maxLocals ret room_1 #[(.int p1)] h0 n0 (.int (V0 p1)) ws := by
  refine MetFree.of_bodySF (plainFor_of_name own_pn1) hisR ?_
  intro p e s m args below meth c s₁ Bd hml0 hP hK
  obtain ⟨rfl, hZ, hh⟩ := hP
  have hx := Bd.exec
  have hby := Bd.bytes
  have hml : c.maxLocals = 6 := hml0
  have hown : s.vm.findClass "com/example/locstep/locstep/xpath/ValuesIsWhitespacePinLaw" = some m.cls := findClass_of_methodNamed Bd.named
  have X0 : Stand p l e room_1 s m #[(.int p1)] below meth c s₁ [] 0 0 := Stand.of_body Bd
  have e0 : s₁.heap = h0 := by rw [← hh, Bd.state]; rfl
  have N0 := Fr.nil n0
  refine own_cast (ef0 m p1) ?_
  refine own_step (T' := s₁) (g' := (mkF m 1 #[.val (.int p1), .unset, .unset, .unset, .unset, .unset] [(.int p1)])) (fun t k => XS.iloadN X0.here hx rfl (hb hby at_0) rfl k) ?_
  refine own_step (T' := s₁) (g' := (mkF m 2 #[.val (.int p1), .unset, .unset, .unset, .unset, .unset] [(.int ((p1).toUInt32.toUInt16.toUInt32.toInt32))])) (fun t k => XS.i2c X0.here hx rfl (hb hby at_1) rfl k) ?_
  refine own_step (T' := s₁) (g' := (mkF m 3 #[.val (.int p1), .val (.int ((p1).toUInt32.toUInt16.toUInt32.toInt32)), .unset, .unset, .unset, .unset] [])) (fun t k => XS.istoreN X0.here hx rfl (hb hby at_2) rfl (l' := #[.val (.int p1), .val (.int ((p1).toUInt32.toUInt16.toUInt32.toInt32)), .unset, .unset, .unset, .unset]) rfl k) ?_
  refine own_step (T' := s₁) (g' := (mkF m 6 #[.val (.int p1), .val (.int ((p1).toUInt32.toUInt16.toUInt32.toInt32)), .unset, .unset, .unset, .unset] [(.long (4294977024 : Int64))])) (fun t k => X0.ldc2Long hx hown (mvT hZ (hw _ (List.mem_of_getElem? (i := 0) rfl))) (g := (mkF m 3 #[.val (.int p1), .val (.int ((p1).toUInt32.toUInt16.toUInt32.toInt32)), .unset, .unset, .unset, .unset] [])) rfl (hb hby at_3) t k) ?_
  refine own_step (T' := s₁) (g' := (mkF m 7 #[.val (.int p1), .val (.int ((p1).toUInt32.toUInt16.toUInt32.toInt32)), .val (.long (4294977024 : Int64)), .second, .unset, .unset] [])) (fun t k => XS.lstoreN X0.here hx rfl (hb hby at_6) rfl (l' := #[.val (.int p1), .val (.int ((p1).toUInt32.toUInt16.toUInt32.toInt32)), .val (.long (4294977024 : Int64)), .second, .unset, .unset]) rfl k) ?_
  refine own_step (T' := s₁) (g' := (mkF m 8 #[.val (.int p1), .val (.int ((p1).toUInt32.toUInt16.toUInt32.toInt32)), .val (.long (4294977024 : Int64)), .second, .unset, .unset] [(.int ((p1).toUInt32.toUInt16.toUInt32.toInt32))])) (fun t k => XS.iloadN X0.here hx rfl (hb hby at_7) rfl k) ?_
  refine own_step (T' := s₁) (g' := (mkF m 10 #[.val (.int p1), .val (.int ((p1).toUInt32.toUInt16.toUInt32.toInt32)), .val (.long (4294977024 : Int64)), .second, .val (.int ((p1).toUInt32.toUInt16.toUInt32.toInt32)), .unset] [])) (fun t k => XS.istore X0.here hx rfl (hb hby at_8) rfl (l' := #[.val (.int p1), .val (.int ((p1).toUInt32.toUInt16.toUInt32.toInt32)), .val (.long (4294977024 : Int64)), .second, .val (.int ((p1).toUInt32.toUInt16.toUInt32.toInt32)), .unset]) rfl k) ?_
  refine own_step (T' := s₁) (g' := (mkF m 12 #[.val (.int p1), .val (.int ((p1).toUInt32.toUInt16.toUInt32.toInt32)), .val (.long (4294977024 : Int64)), .second, .val (.int ((p1).toUInt32.toUInt16.toUInt32.toInt32)), .unset] [(.int ((p1).toUInt32.toUInt16.toUInt32.toInt32))])) (fun t k => XS.iload X0.here hx rfl (hb hby at_10) rfl k) ?_
  refine own_step (T' := s₁) (g' := (mkF m 14 #[.val (.int p1), .val (.int ((p1).toUInt32.toUInt16.toUInt32.toInt32)), .val (.long (4294977024 : Int64)), .second, .val (.int ((p1).toUInt32.toUInt16.toUInt32.toInt32)), .unset] [(.int (32 : Int32)), (.int ((p1).toUInt32.toUInt16.toUInt32.toInt32))])) (fun t k => XS.bipush X0.here hx rfl (hb hby at_12) k) ?_
  by_cases hc1 : (32 : Int32) < ((p1).toUInt32.toUInt16.toUInt32.toInt32)
  · refine own_step (T' := s₁) (g' := (mkF m 32 #[.val (.int p1), .val (.int ((p1).toUInt32.toUInt16.toUInt32.toInt32)), .val (.long (4294977024 : Int64)), .second, .val (.int ((p1).toUInt32.toUInt16.toUInt32.toInt32)), .unset] [])) (fun t k => XS.icmpYes X0.here hx rfl (pc0 := 14) (pc' := 32) rfl (hb hby at_14) rfl (tlt hc1).2.2.1 (by decide) (by decide) k) ?_
    refine own_step (T' := s₁) (g' := (mkF m 33 #[.val (.int p1), .val (.int ((p1).toUInt32.toUInt16.toUInt32.toInt32)), .val (.long (4294977024 : Int64)), .second, .val (.int ((p1).toUInt32.toUInt16.toUInt32.toInt32)), .unset] [(.int (0 : Int32))])) (fun t k => XS.iconst X0.here hx rfl (hb hby at_32) k) ?_
    refine own_step (T' := s₁) (g' := (mkF m 35 #[.val (.int p1), .val (.int ((p1).toUInt32.toUInt16.toUInt32.toInt32)), .val (.long (4294977024 : Int64)), .second, .val (.int ((p1).toUInt32.toUInt16.toUInt32.toInt32)), .val (.int (0 : Int32))] [])) (fun t k => XS.istore X0.here hx rfl (hb hby at_33) rfl (l' := #[.val (.int p1), .val (.int ((p1).toUInt32.toUInt16.toUInt32.toInt32)), .val (.long (4294977024 : Int64)), .second, .val (.int ((p1).toUInt32.toUInt16.toUInt32.toInt32)), .val (.int (0 : Int32))]) rfl k) ?_
    refine own_step (T' := s₁) (g' := (mkF m 36 #[.val (.int p1), .val (.int ((p1).toUInt32.toUInt16.toUInt32.toInt32)), .val (.long (4294977024 : Int64)), .second, .val (.int ((p1).toUInt32.toUInt16.toUInt32.toInt32)), .val (.int (0 : Int32))] [(.int ((p1).toUInt32.toUInt16.toUInt32.toInt32))])) (fun t k => XS.iloadN X0.here hx rfl (hb hby at_35) rfl k) ?_
    obtain ⟨_, _, ⟨T2, L2, k2, n2⟩, -, X2, ⟨Lc2, hQ2, l2, y2, z2⟩, st2⟩ := Jvm.LawKit.callS X0 hx (y := (⟨"com/example/locstep/locstep/xpath/Values", "isWhitespace", "(C)Z"⟩ : MethodName)) hown (mvT hZ (hw _ (List.mem_of_getElem? (i := 1) rfl))) (mvT hZ (hw _ (List.mem_of_getElem? (i := 2) rfl))) (mvT hZ (hw _ (List.mem_of_getElem? (i := 3) rfl))) (mvT hZ (hw _ (List.mem_of_getElem? (i := 4) rfl))) (by decide) (backOf (W := 0) (rm1 l Z a0 hw [] ((p1).toUInt32.toUInt16.toUInt32.toInt32) h0 n0 Z0) hZ (hw _ (List.mem_of_getElem? (i := 4) rfl)) (hw _ (List.mem_of_getElem? (i := 3) rfl)) (by decide) (by decide)) (g := (mkF m 36 #[.val (.int p1), .val (.int ((p1).toUInt32.toUInt16.toUInt32.toInt32)), .val (.long (4294977024 : Int64)), .second, .val (.int ((p1).toUInt32.toUInt16.toUInt32.toInt32)), .val (.int (0 : Int32))] [(.int ((p1).toUInt32.toUInt16.toUInt32.toInt32))])) rfl (by rw [hml]; rfl) (argsL := [(.int ((p1).toUInt32.toUInt16.toUInt32.toInt32))]) (rest := []) (lenOf own_pd0 rfl) rfl (by show 2 * 0 + _ ≤ _; exact Nat.le_of_eq rfl) (hb hby at_36) (fun _ _ => ⟨rfl, e0, (by decide : 0 + 0 ≤ _), (by decide : 0 + 0 ≤ _)⟩)
    dsimp only [Pt.U, Pt.locs, Pt.cells, Pt.slots] at X2 l2 y2 z2 st2 hQ2
    subst l2 y2 z2
    obtain ⟨rfl, N2q, e2⟩ := hQ2
    have N2 := Fr.app N0 N2q
    refine own_step (T' := T2) (g' := (mkF m 39 #[.val (.int p1), .val (.int ((p1).toUInt32.toUInt16.toUInt32.toInt32)), .val (.long (4294977024 : Int64)), .second, .val (.int ((p1).toUInt32.toUInt16.toUInt32.toInt32)), .val (.int (0 : Int32))] [(.int (V1 ((p1).toUInt32.toUInt16.toUInt32.toInt32)))])) (fun t k => st2 _ k) ?_
    refine own_step (T' := T2) (g' := (mkF m 41 #[.val (.int p1), .val (.int ((p1).toUInt32.toUInt16.toUInt32.toInt32)), .val (.long (4294977024 : Int64)), .second, .val (.int ((p1).toUInt32.toUInt16.toUInt32.toInt32)), .val (.int (0 : Int32))] [(.int (0 : Int32)), (.int (V1 ((p1).toUInt32.toUInt16.toUInt32.toInt32)))])) (fun t k => XS.iload X2.here hx rfl (hb hby at_39) rfl k) ?_
    by_cases hc3 : (V1 ((p1).toUInt32.toUInt16.toUInt32.toInt32)) = (0 : Int32)
    · refine own_step (T' := T2) (g' := (mkF m 44 #[.val (.int p1), .val (.int ((p1).toUInt32.toUInt16.toUInt32.toInt32)), .val (.long (4294977024 : Int64)), .second, .val (.int ((p1).toUInt32.toUInt16.toUInt32.toInt32)), .val (.int (0 : Int32))] [])) (fun t k => XS.icmpNo X2.here hx rfl (hb hby at_41) rfl (teq hc3).2 k) ?_
      refine own_step (T' := T2) (g' := (mkF m 45 #[.val (.int p1), .val (.int ((p1).toUInt32.toUInt16.toUInt32.toInt32)), .val (.long (4294977024 : Int64)), .second, .val (.int ((p1).toUInt32.toUInt16.toUInt32.toInt32)), .val (.int (0 : Int32))] [(.int (1 : Int32))])) (fun t k => XS.iconst X2.here hx rfl (hb hby at_44) k) ?_
      refine own_step (T' := T2) (g' := (mkF m 49 #[.val (.int p1), .val (.int ((p1).toUInt32.toUInt16.toUInt32.toInt32)), .val (.long (4294977024 : Int64)), .second, .val (.int ((p1).toUInt32.toUInt16.toUInt32.toInt32)), .val (.int (0 : Int32))] [(.int (1 : Int32))])) (fun t k => XS.goto X2.here hx rfl (pc0 := 45) (pc' := 49) rfl (hb hby at_45) (by decide) (by decide) k) ?_
      exact own_fin X2 hx Bd.returns rfl (Or.inl ⟨rfl, Or.inr (Or.inl rfl), _, rfl⟩) (hb hby at_49) (BodyLoose.notSynchronized Bd) N2 e2 (congrArg _ (by rw [own_V0, if_pos hc1, if_pos hc3])) (by decide) (by decide)
    · refine own_step (T' := T2) (g' := (mkF m 48 #[.val (.int p1), .val (.int ((p1).toUInt32.toUInt16.toUInt32.toInt32)), .val (.long (4294977024 : Int64)), .second, .val (.int ((p1).toUInt32.toUInt16.toUInt32.toInt32)), .val (.int (0 : Int32))] [])) (fun t k => XS.icmpYes X2.here hx rfl (pc0 := 41) (pc' := 48) rfl (hb hby at_41) rfl (feq hc3).2 (by decide) (by decide) k) ?_
      refine own_step (T' := T2) (g' := (mkF m 49 #[.val (.int p1), .val (.int ((p1).toUInt32.toUInt16.toUInt32.toInt32)), .val (.long (4294977024 : Int64)), .second, .val (.int ((p1).toUInt32.toUInt16.toUInt32.toInt32)), .val (.int (0 : Int32))] [(.int (0 : Int32))])) (fun t k => XS.iconst X2.here hx rfl (hb hby at_48) k) ?_
      exact own_fin X2 hx Bd.returns rfl (Or.inl ⟨rfl, Or.inr (Or.inl rfl), _, rfl⟩) (hb hby at_49) (BodyLoose.notSynchronized Bd) N2 e2 (congrArg _ (by rw [own_V0, if_pos hc1, if_neg hc3])) (by decide) (by decide)
  · refine own_step (T' := s₁) (g' := (mkF m 17 #[.val (.int p1), .val (.int ((p1).toUInt32.toUInt16.toUInt32.toInt32)), .val (.long (4294977024 : Int64)), .second, .val (.int ((p1).toUInt32.toUInt16.toUInt32.toInt32)), .unset] [])) (fun t k => XS.icmpNo X0.here hx rfl (hb hby at_14) rfl (flt hc1).2.2.1 k) ?_
    refine own_step (T' := s₁) (g' := (mkF m 18 #[.val (.int p1), .val (.int ((p1).toUInt32.toUInt16.toUInt32.toInt32)), .val (.long (4294977024 : Int64)), .second, .val (.int ((p1).toUInt32.toUInt16.toUInt32.toInt32)), .unset] [(.long (4294977024 : Int64))])) (fun t k => XS.lloadN X0.here hx rfl (hb hby at_17) rfl k) ?_
    refine own_step (T' := s₁) (g' := (mkF m 20 #[.val (.int p1), .val (.int ((p1).toUInt32.toUInt16.toUInt32.toInt32)), .val (.long (4294977024 : Int64)), .second, .val (.int ((p1).toUInt32.toUInt16.toUInt32.toInt32)), .unset] [(.int ((p1).toUInt32.toUInt16.toUInt32.toInt32)), (.long (4294977024 : Int64))])) (fun t k => XS.iload X0.here hx rfl (hb hby at_18) rfl k) ?_
    refine own_step (T' := s₁) (g' := (mkF m 21 #[.val (.int p1), .val (.int ((p1).toUInt32.toUInt16.toUInt32.toInt32)), .val (.long (4294977024 : Int64)), .second, .val (.int ((p1).toUInt32.toUInt16.toUInt32.toInt32)), .unset] [(.long ((((4294977024 : Int64)).toUInt64 >>> (((p1).toUInt32.toUInt16.toUInt32.toInt32) &&& 0x3f).toInt64.toUInt64).toInt64))])) (fun t k => XS.lushr X0.here hx rfl (hb hby at_20) rfl k) ?_
    refine own_step (T' := s₁) (g' := (mkF m 22 #[.val (.int p1), .val (.int ((p1).toUInt32.toUInt16.toUInt32.toInt32)), .val (.long (4294977024 : Int64)), .second, .val (.int ((p1).toUInt32.toUInt16.toUInt32.toInt32)), .unset] [(.long (1 : Int64)), (.long ((((4294977024 : Int64)).toUInt64 >>> (((p1).toUInt32.toUInt16.toUInt32.toInt32) &&& 0x3f).toInt64.toUInt64).toInt64))])) (fun t k => XS.lconst X0.here hx rfl (hb hby at_21) k) ?_
    refine own_step (T' := s₁) (g' := (mkF m 23 #[.val (.int p1), .val (.int ((p1).toUInt32.toUInt16.toUInt32.toInt32)), .val (.long (4294977024 : Int64)), .second, .val (.int ((p1).toUInt32.toUInt16.toUInt32.toInt32)), .unset] [(.long (((((4294977024 : Int64)).toUInt64 >>> (((p1).toUInt32.toUInt16.toUInt32.toInt32) &&& 0x3f).toInt64.toUInt64).toInt64) &&& (1 : Int64)))])) (fun t k => XS.land X0.here hx rfl (hb hby at_22) rfl k) ?_
    refine own_step (T' := s₁) (g' := (mkF m 24 #[.val (.int p1), .val (.int ((p1).toUInt32.toUInt16.toUInt32.toInt32)), .val (.long (4294977024 : Int64)), .second, .val (.int ((p1).toUInt32.toUInt16.toUInt32.toInt32)), .unset] [(.long (0 : Int64)), (.long (((((4294977024 : Int64)).toUInt64 >>> (((p1).toUInt32.toUInt16.toUInt32.toInt32) &&& 0x3f).toInt64.toUInt64).toInt64) &&& (1 : Int64)))])) (fun t k => XS.lconst X0.here hx rfl (hb hby at_23) k) ?_
    refine own_step (T' := s₁) (g' := (mkF m 25 #[.val (.int p1), .val (.int ((p1).toUInt32.toUInt16.toUInt32.toInt32)), .val (.long (4294977024 : Int64)), .second, .val (.int ((p1).toUInt32.toUInt16.toUInt32.toInt32)), .unset] [(.int (lcmpW (((((4294977024 : Int64)).toUInt64 >>> (((p1).toUInt32.toUInt16.toUInt32.toInt32) &&& 0x3f).toInt64.toUInt64).toInt64) &&& (1 : Int64)) (0 : Int64)))])) (fun t k => XS.lcmp X0.here hx rfl (hb hby at_24) rfl k) ?_
    by_cases hc4 : (lcmpW (((((4294977024 : Int64)).toUInt64 >>> (((p1).toUInt32.toUInt16.toUInt32.toInt32) &&& 0x3f).toInt64.toUInt64).toInt64) &&& (1 : Int64)) (0 : Int64)) = (0 : Int32)
    · refine own_step (T' := s₁) (g' := (mkF m 32 #[.val (.int p1), .val (.int ((p1).toUInt32.toUInt16.toUInt32.toInt32)), .val (.long (4294977024 : Int64)), .second, .val (.int ((p1).toUInt32.toUInt16.toUInt32.toInt32)), .unset] [])) (fun t k => XS.ifYes X0.here hx rfl (pc0 := 25) (pc' := 32) rfl (hb hby at_25) rfl ((if0 _ _).trans (teq hc4).1) (by decide) (by decide) k) ?_
      refine own_step (T' := s₁) (g' := (mkF m 33 #[.val (.int p1), .val (.int ((p1).toUInt32.toUInt16.toUInt32.toInt32)), .val (.long (4294977024 : Int64)), .second, .val (.int ((p1).toUInt32.toUInt16.toUInt32.toInt32)), .unset] [(.int (0 : Int32))])) (fun t k => XS.iconst X0.here hx rfl (hb hby at_32) k) ?_
      refine own_step (T' := s₁) (g' := (mkF m 35 #[.val (.int p1), .val (.int ((p1).toUInt32.toUInt16.toUInt32.toInt32)), .val (.long (4294977024 : Int64)), .second, .val (.int ((p1).toUInt32.toUInt16.toUInt32.toInt32)), .val (.int (0 : Int32))] [])) (fun t k => XS.istore X0.here hx rfl (hb hby at_33) rfl (l' := #[.val (.int p1), .val (.int ((p1).toUInt32.toUInt16.toUInt32.toInt32)), .val (.long (4294977024 : Int64)), .second, .val (.int ((p1).toUInt32.toUInt16.toUInt32.toInt32)), .val (.int (0 : Int32))]) rfl k) ?_
      refine own_step (T' := s₁) (g' := (mkF m 36 #[.val (.int p1), .val (.int ((p1).toUInt32.toUInt16.toUInt32.toInt32)), .val (.long (4294977024 : Int64)), .second, .val (.int ((p1).toUInt32.toUInt16.toUInt32.toInt32)), .val (.int (0 : Int32))] [(.int ((p1).toUInt32.toUInt16.toUInt32.toInt32))])) (fun t k => XS.iloadN X0.here hx rfl (hb hby at_35) rfl k) ?_
      obtain ⟨_, _, ⟨T5, L5, k5, n5⟩, -, X5, ⟨Lc5, hQ5, l5, y5, z5⟩, st5⟩ := Jvm.LawKit.callS X0 hx (y := (⟨"com/example/locstep/locstep/xpath/Values", "isWhitespace", "(C)Z"⟩ : MethodName)) hown (mvT hZ (hw _ (List.mem_of_getElem? (i := 1) rfl))) (mvT hZ (hw _ (List.mem_of_getElem? (i := 2) rfl))) (mvT hZ (hw _ (List.mem_of_getElem? (i := 3) rfl))) (mvT hZ (hw _ (List.mem_of_getElem? (i := 4) rfl))) (by decide) (backOf (W := 0) (rm1 l Z a0 hw [] ((p1).toUInt32.toUInt16.toUInt32.toInt32) h0 n0 Z0) hZ (hw _ (List.mem_of_getElem? (i := 4) rfl)) (hw _ (List.mem_of_getElem? (i := 3) rfl)) (by decide) (by decide)) (g := (mkF m 36 #[.val (.int p1), .val (.int ((p1).toUInt32.toUInt16.toUInt32.toInt32)), .val (.long (4294977024 : Int64)), .second, .val (.int ((p1).toUInt32.toUInt16.toUInt32.toInt32)), .val (.int (0 : Int32))] [(.int ((p1).toUInt32.toUInt16.toUInt32.toInt32))])) rfl (by rw [hml]; rfl) (argsL := [(.int ((p1).toUInt32.toUInt16.toUInt32.toInt32))]) (rest := []) (lenOf own_pd0 rfl) rfl (by show 2 * 0 + _ ≤ _; exact Nat.le_of_eq rfl) (hb hby at_36) (fun _ _ => ⟨rfl, e0, (by decide : 0 + 0 ≤ _), (by decide : 0 + 0 ≤ _)⟩)
      dsimp only [Pt.U, Pt.locs, Pt.cells, Pt.slots] at X5 l5 y5 z5 st5 hQ5
      subst l5 y5 z5
      obtain ⟨rfl, N5q, e5⟩ := hQ5
      have N5 := Fr.app N0 N5q
      refine own_step (T' := T5) (g' := (mkF m 39 #[.val (.int p1), .val (.int ((p1).toUInt32.toUInt16.toUInt32.toInt32)), .val (.long (4294977024 : Int64)), .second, .val (.int ((p1).toUInt32.toUInt16.toUInt32.toInt32)), .val (.int (0 : Int32))] [(.int (V1 ((p1).toUInt32.toUInt16.toUInt32.toInt32)))])) (fun t k => st5 _ k) ?_
      refine own_step (T' := T5) (g' := (mkF m 41 #[.val (.int p1), .val (.int ((p1).toUInt32.toUInt16.toUInt32.toInt32)), .val (.long (4294977024 : Int64)), .second, .val (.int ((p1).toUInt32.toUInt16.toUInt32.toInt32)), .val (.int (0 : Int32))] [(.int (0 : Int32)), (.int (V1 ((p1).toUInt32.toUInt16.toUInt32.toInt32)))])) (fun t k => XS.iload X5.here hx rfl (hb hby at_39) rfl k) ?_
      by_cases hc6 : (V1 ((p1).toUInt32.toUInt16.toUInt32.toInt32)) = (0 : Int32)
      · refine own_step (T' := T5) (g' := (mkF m 44 #[.val (.int p1), .val (.int ((p1).toUInt32.toUInt16.toUInt32.toInt32)), .val (.long (4294977024 : Int64)), .second, .val (.int ((p1).toUInt32.toUInt16.toUInt32.toInt32)), .val (.int (0 : Int32))] [])) (fun t k => XS.icmpNo X5.here hx rfl (hb hby at_41) rfl (teq hc6).2 k) ?_
        refine own_step (T' := T5) (g' := (mkF m 45 #[.val (.int p1), .val (.int ((p1).toUInt32.toUInt16.toUInt32.toInt32)), .val (.long (4294977024 : Int64)), .second, .val (.int ((p1).toUInt32.toUInt16.toUInt32.toInt32)), .val (.int (0 : Int32))] [(.int (1 : Int32))])) (fun t k => XS.iconst X5.here hx rfl (hb hby at_44) k) ?_
        refine own_step (T' := T5) (g' := (mkF m 49 #[.val (.int p1), .val (.int ((p1).toUInt32.toUInt16.toUInt32.toInt32)), .val (.long (4294977024 : Int64)), .second, .val (.int ((p1).toUInt32.toUInt16.toUInt32.toInt32)), .val (.int (0 : Int32))] [(.int (1 : Int32))])) (fun t k => XS.goto X5.here hx rfl (pc0 := 45) (pc' := 49) rfl (hb hby at_45) (by decide) (by decide) k) ?_
        exact own_fin X5 hx Bd.returns rfl (Or.inl ⟨rfl, Or.inr (Or.inl rfl), _, rfl⟩) (hb hby at_49) (BodyLoose.notSynchronized Bd) N5 e5 (congrArg _ (by rw [own_V0, if_neg hc1, if_pos hc4, if_pos hc6])) (by decide) (by decide)
      · refine own_step (T' := T5) (g' := (mkF m 48 #[.val (.int p1), .val (.int ((p1).toUInt32.toUInt16.toUInt32.toInt32)), .val (.long (4294977024 : Int64)), .second, .val (.int ((p1).toUInt32.toUInt16.toUInt32.toInt32)), .val (.int (0 : Int32))] [])) (fun t k => XS.icmpYes X5.here hx rfl (pc0 := 41) (pc' := 48) rfl (hb hby at_41) rfl (feq hc6).2 (by decide) (by decide) k) ?_
        refine own_step (T' := T5) (g' := (mkF m 49 #[.val (.int p1), .val (.int ((p1).toUInt32.toUInt16.toUInt32.toInt32)), .val (.long (4294977024 : Int64)), .second, .val (.int ((p1).toUInt32.toUInt16.toUInt32.toInt32)), .val (.int (0 : Int32))] [(.int (0 : Int32))])) (fun t k => XS.iconst X5.here hx rfl (hb hby at_48) k) ?_
        exact own_fin X5 hx Bd.returns rfl (Or.inl ⟨rfl, Or.inr (Or.inl rfl), _, rfl⟩) (hb hby at_49) (BodyLoose.notSynchronized Bd) N5 e5 (congrArg _ (by rw [own_V0, if_neg hc1, if_pos hc4, if_neg hc6])) (by decide) (by decide)
    · refine own_step (T' := s₁) (g' := (mkF m 28 #[.val (.int p1), .val (.int ((p1).toUInt32.toUInt16.toUInt32.toInt32)), .val (.long (4294977024 : Int64)), .second, .val (.int ((p1).toUInt32.toUInt16.toUInt32.toInt32)), .unset] [])) (fun t k => XS.ifNo X0.here hx rfl (hb hby at_25) rfl ((if0 _ _).trans (feq hc4).1) k) ?_
      refine own_step (T' := s₁) (g' := (mkF m 29 #[.val (.int p1), .val (.int ((p1).toUInt32.toUInt16.toUInt32.toInt32)), .val (.long (4294977024 : Int64)), .second, .val (.int ((p1).toUInt32.toUInt16.toUInt32.toInt32)), .unset] [(.int (1 : Int32))])) (fun t k => XS.iconst X0.here hx rfl (hb hby at_28) k) ?_
      refine own_step (T' := s₁) (g' := (mkF m 33 #[.val (.int p1), .val (.int ((p1).toUInt32.toUInt16.toUInt32.toInt32)), .val (.long (4294977024 : Int64)), .second, .val (.int ((p1).toUInt32.toUInt16.toUInt32.toInt32)), .unset] [(.int (1 : Int32))])) (fun t k => XS.goto X0.here hx rfl (pc0 := 29) (pc' := 33) rfl (hb hby at_29) (by decide) (by decide) k) ?_
      refine own_step (T' := s₁) (g' := (mkF m 35 #[.val (.int p1), .val (.int ((p1).toUInt32.toUInt16.toUInt32.toInt32)), .val (.long (4294977024 : Int64)), .second, .val (.int ((p1).toUInt32.toUInt16.toUInt32.toInt32)), .val (.int (1 : Int32))] [])) (fun t k => XS.istore X0.here hx rfl (hb hby at_33) rfl (l' := #[.val (.int p1), .val (.int ((p1).toUInt32.toUInt16.toUInt32.toInt32)), .val (.long (4294977024 : Int64)), .second, .val (.int ((p1).toUInt32.toUInt16.toUInt32.toInt32)), .val (.int (1 : Int32))]) rfl k) ?_
      refine own_step (T' := s₁) (g' := (mkF m 36 #[.val (.int p1), .val (.int ((p1).toUInt32.toUInt16.toUInt32.toInt32)), .val (.long (4294977024 : Int64)), .second, .val (.int ((p1).toUInt32.toUInt16.toUInt32.toInt32)), .val (.int (1 : Int32))] [(.int ((p1).toUInt32.toUInt16.toUInt32.toInt32))])) (fun t k => XS.iloadN X0.here hx rfl (hb hby at_35) rfl k) ?_
      obtain ⟨_, _, ⟨T7, L7, k7, n7⟩, -, X7, ⟨Lc7, hQ7, l7, y7, z7⟩, st7⟩ := Jvm.LawKit.callS X0 hx (y := (⟨"com/example/locstep/locstep/xpath/Values", "isWhitespace", "(C)Z"⟩ : MethodName)) hown (mvT hZ (hw _ (List.mem_of_getElem? (i := 1) rfl))) (mvT hZ (hw _ (List.mem_of_getElem? (i := 2) rfl))) (mvT hZ (hw _ (List.mem_of_getElem? (i := 3) rfl))) (mvT hZ (hw _ (List.mem_of_getElem? (i := 4) rfl))) (by decide) (backOf (W := 0) (rm1 l Z a0 hw [] ((p1).toUInt32.toUInt16.toUInt32.toInt32) h0 n0 Z0) hZ (hw _ (List.mem_of_getElem? (i := 4) rfl)) (hw _ (List.mem_of_getElem? (i := 3) rfl)) (by decide) (by decide)) (g := (mkF m 36 #[.val (.int p1), .val (.int ((p1).toUInt32.toUInt16.toUInt32.toInt32)), .val (.long (4294977024 : Int64)), .second, .val (.int ((p1).toUInt32.toUInt16.toUInt32.toInt32)), .val (.int (1 : Int32))] [(.int ((p1).toUInt32.toUInt16.toUInt32.toInt32))])) rfl (by rw [hml]; rfl) (argsL := [(.int ((p1).toUInt32.toUInt16.toUInt32.toInt32))]) (rest := []) (lenOf own_pd0 rfl) rfl (by show 2 * 0 + _ ≤ _; exact Nat.le_of_eq rfl) (hb hby at_36) (fun _ _ => ⟨rfl, e0, (by decide : 0 + 0 ≤ _), (by decide : 0 + 0 ≤ _)⟩)
      dsimp only [Pt.U, Pt.locs, Pt.cells, Pt.slots] at X7 l7 y7 z7 st7 hQ7
      subst l7 y7 z7
      obtain ⟨rfl, N7q, e7⟩ := hQ7
      have N7 := Fr.app N0 N7q
      refine own_step (T' := T7) (g' := (mkF m 39 #[.val (.int p1), .val (.int ((p1).toUInt32.toUInt16.toUInt32.toInt32)), .val (.long (4294977024 : Int64)), .second, .val (.int ((p1).toUInt32.toUInt16.toUInt32.toInt32)), .val (.int (1 : Int32))] [(.int (V1 ((p1).toUInt32.toUInt16.toUInt32.toInt32)))])) (fun t k => st7 _ k) ?_
      refine own_step (T' := T7) (g' := (mkF m 41 #[.val (.int p1), .val (.int ((p1).toUInt32.toUInt16.toUInt32.toInt32)), .val (.long (4294977024 : Int64)), .second, .val (.int ((p1).toUInt32.toUInt16.toUInt32.toInt32)), .val (.int (1 : Int32))] [(.int (1 : Int32)), (.int (V1 ((p1).toUInt32.toUInt16.toUInt32.toInt32)))])) (fun t k => XS.iload X7.here hx rfl (hb hby at_39) rfl k) ?_
      by_cases hc8 : (V1 ((p1).toUInt32.toUInt16.toUInt32.toInt32)) = (1 : Int32)
      · refine own_step (T' := T7) (g' := (mkF m 44 #[.val (.int p1), .val (.int ((p1).toUInt32.toUInt16.toUInt32.toInt32)), .val (.long (4294977024 : Int64)), .second, .val (.int ((p1).toUInt32.toUInt16.toUInt32.toInt32)), .val (.int (1 : Int32))] [])) (fun t k => XS.icmpNo X7.here hx rfl (hb hby at_41) rfl (teq hc8).2 k) ?_
        refine own_step (T' := T7) (g' := (mkF m 45 #[.val (.int p1), .val (.int ((p1).toUInt32.toUInt16.toUInt32.toInt32)), .val (.long (4294977024 : Int64)), .second, .val (.int ((p1).toUInt32.toUInt16.toUInt32.toInt32)), .val (.int (1 : Int32))] [(.int (1 : Int32))])) (fun t k => XS.iconst X7.here hx rfl (hb hby at_44) k) ?_
        refine own_step (T' := T7) (g' := (mkF m 49 #[.val (.int p1), .val (.int ((p1).toUInt32.toUInt16.toUInt32.toInt32)), .val (.long (4294977024 : Int64)), .second, .val (.int ((p1).toUInt32.toUInt16.toUInt32.toInt32)), .val (.int (1 : Int32))] [(.int (1 : Int32))])) (fun t k => XS.goto X7.here hx rfl (pc0 := 45) (pc' := 49) rfl (hb hby at_45) (by decide) (by decide) k) ?_
        exact own_fin X7 hx Bd.returns rfl (Or.inl ⟨rfl, Or.inr (Or.inl rfl), _, rfl⟩) (hb hby at_49) (BodyLoose.notSynchronized Bd) N7 e7 (congrArg _ (by rw [own_V0, if_neg hc1, if_neg hc4, if_pos hc8])) (by decide) (by decide)
      · refine own_step (T' := T7) (g' := (mkF m 48 #[.val (.int p1), .val (.int ((p1).toUInt32.toUInt16.toUInt32.toInt32)), .val (.long (4294977024 : Int64)), .second, .val (.int ((p1).toUInt32.toUInt16.toUInt32.toInt32)), .val (.int (1 : Int32))] [])) (fun t k => XS.icmpYes X7.here hx rfl (pc0 := 41) (pc' := 48) rfl (hb hby at_41) rfl (feq hc8).2 (by decide) (by decide) k) ?_
        refine own_step (T' := T7) (g' := (mkF m 49 #[.val (.int p1), .val (.int ((p1).toUInt32.toUInt16.toUInt32.toInt32)), .val (.long (4294977024 : Int64)), .second, .val (.int ((p1).toUInt32.toUInt16.toUInt32.toInt32)), .val (.int (1 : Int32))] [(.int (0 : Int32))])) (fun t k => XS.iconst X7.here hx rfl (hb hby at_48) k) ?_
        exact own_fin X7 hx Bd.returns rfl (Or.inl ⟨rfl, Or.inr (Or.inl rfl), _, rfl⟩) (hb hby at_49) (BodyLoose.notSynchronized Bd) N7 e7 (congrArg _ (by rw [own_V0, if_neg hc1, if_neg hc4, if_neg hc8])) (by decide) (by decide)
/-! 3. the plain law -/
def own_law1 (c : Int32) : Int32 := (if (32 : Int32) < c then (if (V1 c) = (0 : Int32) then (1 : Int32) else (0 : Int32)) else (if (lcmpW (((((4294977024 : Int64)).toUInt64 >>> (c &&& 0x3f).toInt64.toUInt64).toInt64) &&& (1 : Int64)) (0 : Int64)) = (0 : Int32) then (if (V1 c) = (0 : Int32) then (1 : Int32) else (0 : Int32)) else (if (V1 c) = (1 : Int32) then (1 : Int32) else (0 : Int32))))
theorem own_low : ∀ n, n < 33 → own_law1 (Int32.ofNat n) = 1 := by decide +kernel
theorem own_char (p : Int32) : 0 ≤ (p.toUInt32.toUInt16.toUInt32.toInt32).toInt := by
  have e : (p.toUInt32.toUInt16.toUInt32.toInt32).toInt = (p.toUInt32.toUInt16.toUInt32.toInt32).toBitVec.toInt := rfl
  have h : (p.toUInt32.toUInt16.toUInt32.toInt32).toBitVec.toNat < 65536 := p.toUInt32.toUInt16.toNat_lt
  rw [e, BitVec.toInt_eq_toNat_cond]
  split <;> omega
theorem own_law (p : Int32) : V0 p = 1 := by
  show own_law1 (p.toUInt32.toUInt16.toUInt32.toInt32) = 1
  have h := own_char p
  generalize p.toUInt32.toUInt16.toUInt32.toInt32 = c at h ⊢
  have hb := c.toInt_lt
  by_cases hc : (32 : Int32) < c
  · have hi : (32 : Int) < c.toInt := by rw [Int32.lt_iff_toInt_lt] at hc; exact hc
    have n1 : ¬ c = 32 := fun q => by subst q; revert hi; decide
    have n2 : ¬ c = 9 := fun q => by subst q; revert hi; decide
    have n3 : ¬ c = 10 := fun q => by subst q; revert hi; decide
    have n4 : ¬ c = 13 := fun q => by subst q; revert hi; decide
    have v : V1 c = 0 := by rw [own_V1, if_neg n1, if_neg n2, if_neg n3, if_neg n4]
    unfold own_law1
    rw [if_pos hc, v, if_pos rfl]
  · have hi : c.toInt ≤ 32 := by rw [Int32.lt_iff_toInt_lt] at hc; have e : (32 : Int32).toInt = 32 := by decide
                                 omega
    have e : c = Int32.ofNat c.toInt.toNat := by
      apply Int32.toInt_inj.mp
      rw [Int32.toInt_ofNat_of_lt (by omega)]
      omega
    rw [e]
    exact own_low _ (by omega)
set_option maxRecDepth 65536 in
set_option maxHeartbeats 40000000 in
theorem comes_1 {Post : Tables → Env → Array Value → State → Outcome → State → Prop} (hpost : ∀ tb e args s v u, (limb_1_1.after args s (.returned v) u = true ∧ limb_1_2.after args s (.returned v) u = true ∧ True) → FrameEnd s (.returned v) u (Jvm.fieldLocs frame_1_writes args s ++ Jvm.arrayLocs frame_1_arrays args s ++ Jvm.staticLocs frame_1_statics s) 0 0 → Post tb e args s (.returned v) u) :
    ArmFor flags0 classFile x code maxLocals ret World_1 tables_1 room_1 Calls_1 rest_1 Pre_1 Post := by
  intro l hfl _ _ p e ha hc hk s m args below hf hA hF happ hP
  obtain ⟨hcalls, hrest, hpre⟩ := hP
  obtain ⟨-, -, -, hnamed, -, -, -, hat⟩ := (Spec.applies_iff hf).mp happ
  obtain ⟨hg, hn⟩ := and_e (Cond.before_iff.mp (show (Jvm.Cond.and given_1 narrow_1).before args s = true from hpre))
  obtain ⟨g0, hg⟩ := and_e hg
  have g1 := hg
  obtain ⟨w0, rfl⟩ : ∃ w0 : Value, args = #[w0] := by
    have hs : args.size = 1 := by simpa [Cond.value, given_1] using g0
    obtain ⟨L⟩ := args
    match L, hs with
    | [w0], _ => exact ⟨w0, rfl⟩
  have hw := fun d (hd : d ∈ tables_1) => atoms_spec (ws := Jvm.Cond.code x code maxLocals ret :: tables_1) hat d (List.mem_cons_of_mem _ hd)
  obtain ⟨i0, ei0⟩ := is_v g1
  obtain rfl : w0 = (.int i0) := Option.some.inj ei0
  obtain ⟨n, o, h1, h2, h3, _, L, rfl, ⟨rfl, N, -⟩, hq⟩ := rm0 l s _ hw tables_1 i0 s.heap s.heap.size (Nat.le_refl _) p e ha hc hk s m _ below hf ((Spec.applies_iff_loose hf).mp happ).1 ⟨rfl, State.Warmed39.refl s, rfl⟩ trivial
  refine ⟨n, _, h1, h2, h3, hpost _ _ _ _ _ _ ⟨Cond.after_iff.mpr rfl, Cond.after_iff.mpr (eq_i res_at (Term.int_eval (1)) (congrArg Value.int (own_law  i0))), trivial⟩ ⟨hq.1, hq.2.1, (hq.2.2.sift fun y hy => Or.inr (N y hy)).mono (by decide) (by decide)⟩⟩
theorem main_1_1 : Claimed_1_1 := comes_1 fun _ _ _ _ _ _ h hF => ⟨h.1, hF⟩
theorem main_1_2 : Claimed_1_2 := comes_1 fun _ _ _ _ _ _ h hF => ⟨h.2.1, hF⟩
end Jvm.Pilot.@@N@@
namespace Jvm.Pilot.@@N@@
open Jvm Jvm.ClassFile Sem Op Lib Jvm.Free Jvm.Stand Jvm.Pilot.@@N@@.Jvm.D
/-! MADE BY PROGRAM (witnessworld.py) out of the Statement's table words and the real class files: 9 classes; the members and pool entries that the words name. The judged class is class 1, her method 1. -/
namespace start1
open Jvm.ClassFile
def u (s : String) : CpInfo := .utf8 (stringToUtf16 s)
/-- a pool by its gaps: so many unusable entries, then the entry; so many at the end -/
def gap : Nat → List CpInfo → List CpInfo
  | 0, r => r
  | n + 1, r => .unusable :: gap n r
def poolList (es : List (Nat × CpInfo)) (last : Nat) : List CpInfo := es.foldr (fun e r => gap e.1 (e.2 :: r)) (gap last [])
def pool (es : List (Nat × CpInfo)) (last : Nat) : Array CpInfo := ⟨poolList es last⟩
def fileOf (pool : Array CpInfo) (this : Nat) (attrs : Array Attribute := #[]) (ms : Array MethodInfo := #[]) (fl : Nat := 33) (sup : Nat := 0) (ifs : Array Nat := #[]) (fds : Array FieldInfo := #[]) : ClassFile where
  minorVersion := 0
  majorVersion := 65
  constantPool := pool
  accessFlags := fl
  thisClass := this
  superClass := sup
  interfaces := ifs
  fields := fds
  methods := ms
  attributes := attrs
def plain (name : String) (sup : Option ClassId) : Class where
  name := name
  kind := .ordinary
  loader := none
  accessFlags := 33
  super := sup
  interfaces := #[]
  cf := none
  fields := #[]
  methods := #[]
  instanceTypes := #[]
  staticTypes := #[]
  resolved := #[]
  callSites := []
  init := .initialized
  statics := none
  mirror := none

def pool0 : Array CpInfo := pool [(5, u "<init>"), (0, u "()V"), (1, .class_ 10), (1, u "java/lang/Object")] 113

def k0m0 : Method := { name := "<init>", desc := "()V", sig := { parameters := [], returnType := none }, accessFlags := 1, code := none }
/-- java/lang/Object -/
def k0 : Class := { plain "java/lang/Object" none with
  accessFlags := 33
  interfaces := #[]
  cf := some (fileOf pool0 8 #[] #[{ accessFlags := 1, nameIndex := 5, descriptorIndex := 6, attributes := #[] }] 33 0 #[] #[])
  fields := #[]
  methods := #[k0m0]
  instanceTypes := #[]
  staticTypes := #[]
  resolved := Array.replicate 124 none
  statics := none }

def pool1 : Array CpInfo := pool [(2, .class_ 4), (1, u "java/lang/Object"), (0, u "<init>"), (0, u "()V"), (0, .long 4294977024), (1, .methodref 10 11), (0, .class_ 12), (0, .nameAndType 13 14), (0, u "com/example/locstep/locstep/xpath/Values"), (0, u "isWhitespace"), (0, u "(C)Z"), (0, .class_ 16), (0, u "com/example/locstep/locstep/xpath/ValuesIsWhitespacePinLaw"), (2, u "law"), (0, u "(I)Z")] 3

def k1m0 : Method := { name := "<init>", desc := "()V", sig := { parameters := [], returnType := none }, accessFlags := 2, code := none }
def k1c1 : Code := { maxStack := 4, maxLocals := 6, code := code, exceptionTable := #[], attributes := #[] }
def k1m1 : Method := { name := "law", desc := "(I)Z", sig := { parameters := [.int], returnType := some .boolean }, accessFlags := 9, code := some k1c1 }
/-- com/example/locstep/locstep/xpath/ValuesIsWhitespacePinLaw -/
def k1 : Class := { plain "com/example/locstep/locstep/xpath/ValuesIsWhitespacePinLaw" (some 0) with
  accessFlags := 49
  interfaces := #[]
  cf := some (fileOf pool1 15 #[] #[{ accessFlags := 2, nameIndex := 5, descriptorIndex := 6, attributes := #[] }, { accessFlags := 9, nameIndex := 19, descriptorIndex := 20, attributes := #[] }] 49 2 #[] #[])
  fields := #[]
  methods := #[k1m0, k1m1]
  instanceTypes := #[]
  staticTypes := #[]
  resolved := Array.replicate 24 none
  statics := none }

def pool2 : Array CpInfo := pool [(2, .class_ 4), (1, u "java/lang/Object"), (0, u "<init>"), (0, u "()V"), (1, .class_ 10), (1, u "com/example/locstep/locstep/xpath/Values"), (0, u "ATOMIZATION"), (0, u "Lcom/example/locstep/locstep/xpath/SequenceView$Idempotent;"), (114, u "NAN"), (0, u "Lcom/example/locstep/locstep/xdm/DoubleValue;"), (60, .class_ 190), (0, u "com/example/locstep/locstep/xpath/Values$Span"), (43, u "isWhitespace"), (0, u "(C)Z")] 111

def k2m0 : Method := { name := "<init>", desc := "()V", sig := { parameters := [], returnType := none }, accessFlags := 2, code := none }
def k2c1 : Code := { maxStack := 2, maxLocals := 1, code := prog_207_method_20_code, exceptionTable := #[], attributes := #[] }
def k2m1 : Method := { name := "isWhitespace", desc := "(C)Z", sig := { parameters := [.char], returnType := some .boolean }, accessFlags := 8, code := some k2c1 }
/-- com/example/locstep/locstep/xpath/Values -/
def k2 : Class := { plain "com/example/locstep/locstep/xpath/Values" (some 0) with
  accessFlags := 48
  interfaces := #[]
  cf := some (fileOf pool2 8 #[.nestMembers #[189]] #[{ accessFlags := 2, nameIndex := 5, descriptorIndex := 6, attributes := #[] }, { accessFlags := 8, nameIndex := 234, descriptorIndex := 235, attributes := #[] }] 48 2 #[] #[{ accessFlags := 24, nameIndex := 11, descriptorIndex := 12, attributes := #[] }, { accessFlags := 26, nameIndex := 127, descriptorIndex := 128, attributes := #[] }])
  fields := #[{ name := "ATOMIZATION", type := (.object "com/example/locstep/locstep/xpath/SequenceView$Idempotent"), accessFlags := 24, slot := 0, constantValue := 0 }, { name := "NAN", type := (.object "com/example/locstep/locstep/xdm/DoubleValue"), accessFlags := 26, slot := 1, constantValue := 0 }]
  methods := #[k2m0, k2m1]
  instanceTypes := #[]
  staticTypes := #[(.object "com/example/locstep/locstep/xpath/SequenceView$Idempotent"), (.object "com/example/locstep/locstep/xdm/DoubleValue")]
  resolved := Array.replicate 347 none
  statics := none }

def pool3 : Array CpInfo := pool [(1, u "java/lang/Cloneable"), (0, .class_ 1), (0, u "java/lang/Object"), (0, .class_ 3)] 3

/-- java/lang/Cloneable -/
def k3 : Class := { plain "java/lang/Cloneable" (some 0) with
  accessFlags := 1537
  interfaces := #[]
  cf := some (fileOf pool3 2 #[] #[] 1537 4 #[] #[])
  fields := #[]
  methods := #[]
  instanceTypes := #[]
  staticTypes := #[]
  resolved := Array.replicate 8 none
  statics := none }

def pool4 : Array CpInfo := pool [(1, u "java/io/Serializable"), (0, .class_ 1), (0, u "java/lang/Object"), (0, .class_ 3)] 3

/-- java/io/Serializable -/
def k4 : Class := { plain "java/io/Serializable" (some 0) with
  accessFlags := 1537
  interfaces := #[]
  cf := some (fileOf pool4 2 #[] #[] 1537 4 #[] #[])
  fields := #[]
  methods := #[]
  instanceTypes := #[]
  staticTypes := #[]
  resolved := Array.replicate 8 none
  statics := none }

/-- the primitive byte -/
def k5 : Class := { plain "byte" none with kind := .primitive 'B', accessFlags := 0x411 }
/-- [B -/
def k6 : Class := { plain "[B" (some 0) with kind := .array 5 .byte, interfaces := #[3, 4], accessFlags := 1041 }

/-- the primitive int -/
def k7 : Class := { plain "int" none with kind := .primitive 'I', accessFlags := 0x411 }
/-- [I -/
def k8 : Class := { plain "[I" (some 0) with kind := .array 7 .int, interfaces := #[3, 4], accessFlags := 1041 }

def heap : Heap := #[]
def classes : Array Class := #[k0, k1, k2, k3, k4, k5, k6, k7, k8]
def interned : List (Array UInt16 × Addr) := []
def slotsUsed : Nat := 0
def theMethod : MethodId := ⟨1, 1⟩
def args0 : Array Value := #[.int 5]
def aboutOver (below : List Frame) : State where
  vm := { classes := classes, interned := interned.toArray }
  heap := heap
  slotsUsed := slotsUsed
  threads := #[{ frames := .invoking theMethod args0 :: below }]
def below0 : List Frame := [.native { method := ⟨0, 0⟩, args := #[] }]
def about1 : State := aboutOver below0
def p0 : Program := .bare "" "" ""
def e0 : Env := launch0.env 0 0 0
theorem w_frames : about1.frames = Frame.invoking theMethod args0 :: below0 := rfl
set_option maxRecDepth 65536 in
theorem w_args : argsFit about1.vm theMethod args0 = true := by decide +kernel
set_option maxRecDepth 65536 in
theorem w_heap : heapFits about1 = true := by decide +kernel
set_option maxRecDepth 65536 in
theorem w_runnable : about1.curStatus? = some .runnable := by decide +kernel
set_option maxRecDepth 65536 in
theorem w_alone : about1.alone = true := by decide +kernel
set_option maxRecDepth 65536 in
theorem w_named : about1.methodNamed? x = some theMethod := by decide +kernel
set_option maxRecDepth 65536 in
theorem w_hears : about1.hears theMethod below0 = true := by decide +kernel
set_option maxRecDepth 65536 in
theorem w_ripe : about1.ripe theMethod args0 below0 = true := by decide +kernel
theorem w_running : about1.status = .running := rfl
set_option maxRecDepth 65536 in
theorem w_room : about1.hasRoom e0.platform room_1 = true :=
  launch0.hasRoom_least _ room_1 (by decide +kernel) (by decide +kernel) (by decide +kernel) (by decide +kernel) (by decide +kernel) (by decide +kernel)
theorem allAtoms_all (ts : List Jvm.Cond) (a : Array Jvm.Value) (st : Jvm.State) : (allAtoms ts).before a st = ts.all (fun c => c.before a st) := by
  induction ts with
  | nil => rfl
  | cons c t ih =>
    show (Jvm.Cond.and c (allAtoms t)).before a st = _
    rw [Jvm.Cond.before_and, ih, List.all_cons]
def words1 : List Jvm.Cond := Jvm.Cond.code x code maxLocals ret :: tables_1
/-- a 'code' word, met by the world's own term for the bytes: nothing is compared byte by byte -/
theorem code_word {y : MethodName} {bytes : ByteArray} {mx : Nat} {rt : Option FieldType} {a : Array Value} {s : State} {m : MethodId} {meth : Method} {c : Code} (h1 : s.methodNamed? y = some m) (h2 : s.vm.method? m = some meth) (h3 : meth.code = some c) (h4 : c.code = bytes)
    (h5 : (c.maxLocals == mx && c.exceptionTable.isEmpty && decide (c.maxStack ≤ mostOperands) && decide (meth.sig.returnType = rt) && !meth.locks && decide (parseMethodDescriptor y.desc = some meth.sig)) = true) : (Jvm.Cond.code y bytes mx rt).before a s = true := by
  simp only [Bool.and_eq_true, beq_iff_eq, Bool.not_eq_true', decide_eq_true_eq] at h5
  obtain ⟨⟨⟨⟨⟨g1, g2⟩, g3⟩, g4⟩, g5⟩, g6⟩ := h5
  simp [Cond.before, Cond.holds, Cond.value, h1, h2, h3, h4, g1, g2, g3, g4, g5, g6]
def isCode : Jvm.Cond → Bool
  | .code _ _ _ _ => true
  | _ => false
theorem all_split {L : List Jvm.Cond} {P : Jvm.Cond → Bool} (h1 : L.all (fun c => isCode c || P c) = true) (h2 : ∀ c ∈ L.filter isCode, P c = true) : L.all P = true := by
  refine List.all_eq_true.mpr fun c hc => ?_
  have h := List.all_eq_true.mp h1 c hc
  rcases Bool.eq_false_or_eq_true (isCode c) with hi | hi
  · exact h2 c (List.mem_filter.mpr ⟨hc, hi⟩)
  · simpa [hi] using h
set_option maxRecDepth 65536 in
theorem w_c0 : (Jvm.Cond.code x code maxLocals ret).before args0 about1 = true := code_word (m := ⟨1, 1⟩) (meth := k1m1) (c := k1c1) (by decide +kernel) rfl rfl rfl (by decide +kernel)
set_option maxRecDepth 65536 in
theorem w_c1 : (Jvm.Cond.code ({ cls := "com/example/locstep/locstep/xpath/Values", name := "isWhitespace", desc := "(C)Z" } : Jvm.MethodName) prog_207_method_20_code (1 : Nat) (Option.some Jvm.ClassFile.FieldType.boolean)).before args0 about1 = true := code_word (m := ⟨2, 1⟩) (meth := k2m1) (c := k2c1) (by decide +kernel) rfl rfl rfl (by decide +kernel)
def codes1 : List Jvm.Cond := [Jvm.Cond.code x code maxLocals ret, Jvm.Cond.code ({ cls := "com/example/locstep/locstep/xpath/Values", name := "isWhitespace", desc := "(C)Z" } : Jvm.MethodName) prog_207_method_20_code (1 : Nat) (Option.some Jvm.ClassFile.FieldType.boolean)]
set_option maxRecDepth 65536 in
theorem codes_eq : words1.filter isCode = codes1 := rfl
theorem w_codes : ∀ c ∈ words1.filter isCode, c.before args0 about1 = true := by
  rw [codes_eq]
  intro c hc
  simp only [codes1, List.mem_cons, List.not_mem_nil, or_false] at hc
  rcases hc with rfl | rfl
  · exact w_c0
  · exact w_c1
set_option maxRecDepth 65536 in
theorem w_t1 : words1.all (fun c => isCode c || c.before args0 about1) = true := by decide +kernel
theorem w_tables : (allAtoms (Jvm.Cond.code x code maxLocals ret :: tables_1)).before args0 about1 = true := by
  rw [allAtoms_all]
  show words1.all (fun c => c.before args0 about1) = true
  refine all_split ?_ w_codes
  rw [w_t1]
set_option maxRecDepth 65536 in
theorem w_case : (Jvm.Cond.and given_1 narrow_1).before args0 about1 = true := by decide +kernel
theorem w_applies : (headSpec (Jvm.Cond.code x code maxLocals ret :: tables_1) room_1).applies x e0.platform about1 = true :=
  (Spec.applies_iff w_frames).mpr ⟨w_running, w_runnable, w_alone, w_named, w_hears, w_ripe, w_room, w_tables⟩
theorem atStart : AtStart classFile x code maxLocals ret World_1 tables_1 room_1 Calls_1 rest_1 Pre_1 launch0 p0 e0 about1 theMethod args0 below0 :=
  ⟨lists_1, trivial, launch0.admits_env _ _ _, launch0.least_env, fairChoices_fair.cas, fairChoices_fair.clock, w_frames, w_args, w_heap, w_applies, trivial, trivial, w_case⟩
end start1
theorem witness_1 : WitnessClaimed_1 := ⟨start1.p0, start1.e0, start1.about1, start1.theMethod, start1.args0, start1.below0, start1.atStart⟩
end Jvm.Pilot.@@N@@
