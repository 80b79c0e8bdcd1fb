import JvmDerived
import JvmDerived.Pilot.@@N@@Statement
import JvmDerived.Pilot.@@N@@Code
set_option linter.unusedVariables false
set_option linter.unusedSimpArgs false
@@BLOCK:NumsL.lean.txt@@
namespace Jvm.Pilot.@@N@@
open Jvm Jvm.ClassFile Sem Op Lib Jvm.Free Jvm.Stand Jvm.LawKit Jvm.RoadKit Bundle Jvm.Pilot.@@N@@.Jvm.D
/-! 1. the shape of a walk: from here on some end is reached that answers G -/
def own_Fin (p : Program) (e : Env) (below : List Frame) (G : Outcome → State → Prop) (T : State) (g : JFrame) : Prop :=
  ∃ s₂ o, Steps p.tables e below (T.setTop g) s₂ ∧ s₂.status = .running ∧ Ended s₂ below o ∧ G o s₂
theorem own_step {p : Program} {e : Env} {below : List Frame} {G : Outcome → State → Prop} {T T' : State} {g g' : JFrame}
    (h : ∀ t, Steps p.tables e below (T'.setTop g') t → Steps p.tables e below (T.setTop g) t) (k : own_Fin p e below G T' g') : own_Fin p e below G T g := by
  obtain ⟨s₂, o, h1, h2⟩ := k
  exact ⟨s₂, o, h _ h1, h2⟩
theorem own_cast {p : Program} {e : Env} {below : List Frame} {G : Outcome → State → Prop} {T : State} {g g' : JFrame} (q : g = g') (k : own_Fin p e below G T g') : own_Fin p e below G T g := q ▸ k
/-- what a body that makes nothing answers: the value V, nothing old written, the heap as it was -/
def own_Q (h0 : Heap) (n0 : Nat) (V : Value) (v : Option Value) (h : Heap) (L : List Loc) : Prop := v = some V ∧ Fr n0 L ∧ h = h0
abbrev own_Con (l : Launch) (Z : State) (y : MethodName) (bytes : ByteArray) (ml : Nat) (ret : Option FieldType) (rm : Room) (as : Array Value) (h0 : Heap) (n0 : Nat) (V : Value) (ws : List Jvm.Cond) : Prop :=
  MetFree l y (head1 (Jvm.Cond.code y bytes ml ret :: ws) rm) (fun a U => a = as ∧ Z.Warmed39 U.vm ∧ U.heap = h0) (fun _ _ _ _ _ => True)
    (fun _ U o U' => ∃ v L, o = .returned v ∧ own_Q h0 n0 V v U'.heap L ∧ FrameEnd U o U' L rm.cells rm.slots)
theorem own_fin {p : Program} {l : Launch} {e : Env} {R : Room} {s : State} {m : MethodId} {args : Array Value} {below : List Frame} {meth : Method} {c : Code} {T : State} {locs : List Loc} {cells slots : Nat}
    (X : Stand p l e R s m args below meth c T locs cells slots) (hx : p.tables.exec = Jvm.exec) {pc : Nat} {Ls : Array Slot} {w V : Value} {t : FieldType} {i : Instr} {rest : List Value} (hret : meth.sig.returnType = some t) (hn : narrow t w = w)
    (hi : (i = .ireturn ∧ (t = .int ∨ t = .boolean ∨ t = .byte ∨ t = .char ∨ t = .short) ∧ ∃ z, w = .int z) ∨ (i = .lreturn ∧ t = .long ∧ ∃ z, w = .long z) ∨ (i = .dreturn ∧ t = .double ∧ ∃ z, w = .double z) ∨ (i = .freturn ∧ t = .float ∧ ∃ z, w = .float z) ∨ (i = .areturn ∧ t.isReference = true ∧ w.isRef = true))
    (hd : decode c.code pc = .ok (i, 1)) (hlocks : meth.locks = false) {n0 : Nat} {h0 : Heap} (N : Fr n0 locs) (eT : T.heap = h0) (hV : V = w) {k n : Nat} (hk : cells ≤ k) (hn' : slots ≤ n) :
    own_Fin p e below (fun o U' => ∃ v L, o = .returned v ∧ own_Q h0 n0 V v U'.heap L ∧ FrameEnd s o U' L k n) T (mkF m pc Ls (w :: rest)) := by
  obtain ⟨fs, hr, hrun, hended, hW, hsame⟩ := X.leave (v := some w) (fun h => by rw [hret] at h; cases h) hlocks
  exact ⟨_, _, retOut X hx hret hn hi hd hr, hrun, hended, _, _, rfl, ⟨by rw [hV], N, eT⟩, ⟨_, rfl⟩, hW, hsame.mono hk hn'⟩
/-! 2. the bodies, walked -/
def own_Stas (Z : State) (h0 : Heap) (W : Nat → Addr) : Prop := Sta Z h0 "com/example/nisc/nisc/BuildConfiguration$Truth" "FALSE" "Lcom/example/nisc/nisc/BuildConfiguration$Truth;" (.ref (W 0)) ∧ Sta Z h0 "com/example/nisc/nisc/BuildConfiguration$Truth" "TRUE" "Lcom/example/nisc/nisc/BuildConfiguration$Truth;" (.ref (W 1)) ∧ Sta Z h0 "com/example/nisc/nisc/BuildConfiguration$Truth" "UNDECIDED" "Lcom/example/nisc/nisc/BuildConfiguration$Truth;" (.ref (W 2))
theorem own_pn0 : plainName "com/example/nisc/nisc/TruthAndPinLaw" = true := by first | (simp [plainName, overriddenIn]; done) | decide +kernel
theorem d1_0 : decode method_2_code 0 = .ok (.iload_n 0, 1) := by decide +kernel
theorem d1_1 : decode method_2_code 1 = .ok (.ldc 7, 2) := by decide +kernel
theorem d1_3 : decode method_2_code 3 = .ok (.iand, 1) := by decide +kernel
theorem d1_4 : decode method_2_code 4 = .ok (.iconst 3, 1) := by decide +kernel
theorem d1_5 : decode method_2_code 5 = .ok (.irem, 1) := by decide +kernel
theorem d1_6 : decode method_2_code 6 = .ok (.istore_n 1, 1) := by decide +kernel
theorem d1_7 : decode method_2_code 7 = .ok (.iload_n 1, 1) := by decide +kernel
theorem d1_8 : decode method_2_code 8 = .ok (.ifCond .ne 10, 3) := by decide +kernel
theorem d1_11 : decode method_2_code 11 = .ok (.getstatic 8, 3) := by decide +kernel
theorem d1_14 : decode method_2_code 14 = .ok (.astore_n 2, 1) := by decide +kernel
theorem d1_15 : decode method_2_code 15 = .ok (.goto 19, 3) := by decide +kernel
theorem d1_18 : decode method_2_code 18 = .ok (.iload_n 1, 1) := by decide +kernel
theorem d1_19 : decode method_2_code 19 = .ok (.iconst 1, 1) := by decide +kernel
theorem d1_20 : decode method_2_code 20 = .ok (.if_icmp .ne 10, 3) := by decide +kernel
theorem d1_23 : decode method_2_code 23 = .ok (.getstatic 14, 3) := by decide +kernel
theorem d1_26 : decode method_2_code 26 = .ok (.astore_n 2, 1) := by decide +kernel
theorem d1_27 : decode method_2_code 27 = .ok (.goto 7, 3) := by decide +kernel
theorem d1_30 : decode method_2_code 30 = .ok (.getstatic 17, 3) := by decide +kernel
theorem d1_33 : decode method_2_code 33 = .ok (.astore_n 2, 1) := by decide +kernel
theorem d1_34 : decode method_2_code 34 = .ok (.aload_n 2, 1) := by decide +kernel
theorem d1_35 : decode method_2_code 35 = .ok (.areturn, 1) := by decide +kernel
theorem ef1 (m : MethodId) (p1 : Int32) : entryFrame m #[(.int p1)] 3 = mkF m 0 #[.val (.int p1), .unset, .unset] [] := by first | (simp [entryFrame, mkF, argsToLocals, Value.category]; done) | rfl
def V1 (W : Nat → Addr) (p1 : Int32) : Addr := (if ((p1 &&& (2147483647 : Int32)) % (3 : Int32)) = (0 : Int32) then (W 0) else (if ((p1 &&& (2147483647 : Int32)) % (3 : Int32)) = (1 : Int32) then (W 2) else (W 1)))
theorem own_V1 (W : Nat → Addr) (p1 : Int32) : V1 W p1 = (if ((p1 &&& (2147483647 : Int32)) % (3 : Int32)) = (0 : Int32) then (W 0) else (if ((p1 &&& (2147483647 : Int32)) % (3 : Int32)) = (1 : Int32) then (W 2) else (W 1))) := rfl
set_option maxRecDepth 65536 in
set_option maxHeartbeats 40000000 in
theorem rm1 (l : Launch) (Z : State) (a0 : Array Value) (hw : ∀ d ∈ tables_1, d.before a0 Z = true) (ws : List Jvm.Cond) (p1 : Int32) (W : Nat → Addr) (h0 : Heap) (n0 : Nat) (Z0 : n0 ≤ h0.size) (hS : own_Stas Z h0 W) :
    own_Con l Z (⟨"com/example/nisc/nisc/TruthAndPinLaw", "pick", "(I)Lcom/example/nisc/nisc/BuildConfiguration$Truth;"⟩ : MethodName) method_2_code 3 (some (.object "com/example/nisc/nisc/BuildConfiguration$Truth")) ({ frames := 0, cells := 0, slots := 0, locals := 0 } : Room) #[(.int p1)] h0 n0 (.ref (V1 W p1)) ws := by
  refine MetFree.of_bodySF (plainFor_of_name own_pn0) hisR ?_
  intro p e s m args below meth c s₁ Bd hml0 hP hK
  obtain ⟨rfl, hZ, hh⟩ := hP
  have hx := Bd.exec
  have hby := Bd.bytes
  have hml : c.maxLocals = 3 := hml0
  have hown : s.vm.findClass "com/example/nisc/nisc/TruthAndPinLaw" = some m.cls := findClass_of_methodNamed Bd.named
  have X0 : Stand p l e ({ frames := 0, cells := 0, slots := 0, locals := 0 } : Room) s m #[(.int p1)] below meth c s₁ [] 0 0 := Stand.of_body Bd
  have e0 : s₁.heap = h0 := by rw [← hh, Bd.state]; rfl
  have N0 := Fr.nil n0
  refine own_cast (ef1 m p1) ?_
  refine own_step (T' := s₁) (g' := (mkF m 1 #[.val (.int p1), .unset, .unset] [(.int p1)])) (fun t k => XS.iloadN X0.here hx rfl (hb hby d1_0) rfl k) ?_
  refine own_step (T' := s₁) (g' := (mkF m 3 #[.val (.int p1), .unset, .unset] [(.int (2147483647 : Int32)), (.int p1)])) (fun t k => X0.ldcInt hx hown (mvT hZ (hw _ (List.mem_of_getElem? (i := 4) rfl))) (g := (mkF m 1 #[.val (.int p1), .unset, .unset] [(.int p1)])) rfl (hb hby d1_1) t k) ?_
  refine own_step (T' := s₁) (g' := (mkF m 4 #[.val (.int p1), .unset, .unset] [(.int (p1 &&& (2147483647 : Int32)))])) (fun t k => XS.iand X0.here hx rfl (hb hby d1_3) rfl k) ?_
  refine own_step (T' := s₁) (g' := (mkF m 5 #[.val (.int p1), .unset, .unset] [(.int (3 : Int32)), (.int (p1 &&& (2147483647 : Int32)))])) (fun t k => XS.iconst X0.here hx rfl (hb hby d1_4) k) ?_
  refine own_step (T' := s₁) (g' := (mkF m 6 #[.val (.int p1), .unset, .unset] [(.int ((p1 &&& (2147483647 : Int32)) % (3 : Int32)))])) (fun t k => iremM X0 hx rfl (hb hby d1_5) rfl (by decide) k) ?_
  refine own_step (T' := s₁) (g' := (mkF m 7 #[.val (.int p1), .val (.int ((p1 &&& (2147483647 : Int32)) % (3 : Int32))), .unset] [])) (fun t k => XS.istoreN X0.here hx rfl (hb hby d1_6) rfl (l' := #[.val (.int p1), .val (.int ((p1 &&& (2147483647 : Int32)) % (3 : Int32))), .unset]) rfl k) ?_
  refine own_step (T' := s₁) (g' := (mkF m 8 #[.val (.int p1), .val (.int ((p1 &&& (2147483647 : Int32)) % (3 : Int32))), .unset] [(.int ((p1 &&& (2147483647 : Int32)) % (3 : Int32)))])) (fun t k => XS.iloadN X0.here hx rfl (hb hby d1_7) rfl k) ?_
  by_cases hc1 : ((p1 &&& (2147483647 : Int32)) % (3 : Int32)) = (0 : Int32)
  · refine own_step (T' := s₁) (g' := (mkF m 11 #[.val (.int p1), .val (.int ((p1 &&& (2147483647 : Int32)) % (3 : Int32))), .unset] [])) (fun t k => XS.ifNo X0.here hx rfl (hb hby d1_8) rfl ((if0 _ _).trans (teq hc1).2) k) ?_
    obtain ⟨T2, X2, e2, st2⟩ := getS2 X0 hx hZ hown (host := "") (Or.inl (hw _ (List.mem_of_getElem? (i := 5) rfl))) Via.refl e0 hS.1 (g := (mkF m 11 #[.val (.int p1), .val (.int ((p1 &&& (2147483647 : Int32)) % (3 : Int32))), .unset] [])) rfl (hb hby d1_11)
    refine own_step (T' := T2) (g' := (mkF m 14 #[.val (.int p1), .val (.int ((p1 &&& (2147483647 : Int32)) % (3 : Int32))), .unset] [(.ref (W 0))])) (fun t k => st2 t k) ?_
    refine own_step (T' := T2) (g' := (mkF m 15 #[.val (.int p1), .val (.int ((p1 &&& (2147483647 : Int32)) % (3 : Int32))), .val (.ref (W 0))] [])) (fun t k => XS.astoreN X2.here hx rfl (hb hby d1_14) rfl rfl (l' := #[.val (.int p1), .val (.int ((p1 &&& (2147483647 : Int32)) % (3 : Int32))), .val (.ref (W 0))]) rfl k) ?_
    refine own_step (T' := T2) (g' := (mkF m 34 #[.val (.int p1), .val (.int ((p1 &&& (2147483647 : Int32)) % (3 : Int32))), .val (.ref (W 0))] [])) (fun t k => XS.goto X2.here hx rfl (pc0 := 15) (pc' := 34) rfl (hb hby d1_15) (by decide) (by decide) k) ?_
    refine own_step (T' := T2) (g' := (mkF m 35 #[.val (.int p1), .val (.int ((p1 &&& (2147483647 : Int32)) % (3 : Int32))), .val (.ref (W 0))] [(.ref (W 0))])) (fun t k => XS.aloadN X2.here hx rfl (hb hby d1_34) rfl rfl k) ?_
    exact own_fin X2 hx Bd.returns rfl (Or.inr (Or.inr (Or.inr (Or.inr ⟨rfl, rfl, rfl⟩)))) (hb hby d1_35) (BodyLoose.notSynchronized Bd) N0 e2 (congrArg _ (by rw [own_V1, if_pos hc1])) (by decide) (by decide)
  · refine own_step (T' := s₁) (g' := (mkF m 18 #[.val (.int p1), .val (.int ((p1 &&& (2147483647 : Int32)) % (3 : Int32))), .unset] [])) (fun t k => XS.ifYes X0.here hx rfl (pc0 := 8) (pc' := 18) rfl (hb hby d1_8) rfl ((if0 _ _).trans (feq hc1).2) (by decide) (by decide) k) ?_
    refine own_step (T' := s₁) (g' := (mkF m 19 #[.val (.int p1), .val (.int ((p1 &&& (2147483647 : Int32)) % (3 : Int32))), .unset] [(.int ((p1 &&& (2147483647 : Int32)) % (3 : Int32)))])) (fun t k => XS.iloadN X0.here hx rfl (hb hby d1_18) rfl k) ?_
    refine own_step (T' := s₁) (g' := (mkF m 20 #[.val (.int p1), .val (.int ((p1 &&& (2147483647 : Int32)) % (3 : Int32))), .unset] [(.int (1 : Int32)), (.int ((p1 &&& (2147483647 : Int32)) % (3 : Int32)))])) (fun t k => XS.iconst X0.here hx rfl (hb hby d1_19) k) ?_
    by_cases hc3 : ((p1 &&& (2147483647 : Int32)) % (3 : Int32)) = (1 : Int32)
    · refine own_step (T' := s₁) (g' := (mkF m 23 #[.val (.int p1), .val (.int ((p1 &&& (2147483647 : Int32)) % (3 : Int32))), .unset] [])) (fun t k => XS.icmpNo X0.here hx rfl (hb hby d1_20) rfl (teq hc3).2 k) ?_
      obtain ⟨T4, X4, e4, st4⟩ := getS2 X0 hx hZ hown (host := "") (Or.inl (hw _ (List.mem_of_getElem? (i := 23) rfl))) Via.refl e0 hS.2.2 (g := (mkF m 23 #[.val (.int p1), .val (.int ((p1 &&& (2147483647 : Int32)) % (3 : Int32))), .unset] [])) rfl (hb hby d1_23)
      refine own_step (T' := T4) (g' := (mkF m 26 #[.val (.int p1), .val (.int ((p1 &&& (2147483647 : Int32)) % (3 : Int32))), .unset] [(.ref (W 2))])) (fun t k => st4 t k) ?_
      refine own_step (T' := T4) (g' := (mkF m 27 #[.val (.int p1), .val (.int ((p1 &&& (2147483647 : Int32)) % (3 : Int32))), .val (.ref (W 2))] [])) (fun t k => XS.astoreN X4.here hx rfl (hb hby d1_26) rfl rfl (l' := #[.val (.int p1), .val (.int ((p1 &&& (2147483647 : Int32)) % (3 : Int32))), .val (.ref (W 2))]) rfl k) ?_
      refine own_step (T' := T4) (g' := (mkF m 34 #[.val (.int p1), .val (.int ((p1 &&& (2147483647 : Int32)) % (3 : Int32))), .val (.ref (W 2))] [])) (fun t k => XS.goto X4.here hx rfl (pc0 := 27) (pc' := 34) rfl (hb hby d1_27) (by decide) (by decide) k) ?_
      refine own_step (T' := T4) (g' := (mkF m 35 #[.val (.int p1), .val (.int ((p1 &&& (2147483647 : Int32)) % (3 : Int32))), .val (.ref (W 2))] [(.ref (W 2))])) (fun t k => XS.aloadN X4.here hx rfl (hb hby d1_34) rfl rfl k) ?_
      exact own_fin X4 hx Bd.returns rfl (Or.inr (Or.inr (Or.inr (Or.inr ⟨rfl, rfl, rfl⟩)))) (hb hby d1_35) (BodyLoose.notSynchronized Bd) N0 e4 (congrArg _ (by rw [own_V1, if_neg hc1, if_pos hc3])) (by decide) (by decide)
    · refine own_step (T' := s₁) (g' := (mkF m 30 #[.val (.int p1), .val (.int ((p1 &&& (2147483647 : Int32)) % (3 : Int32))), .unset] [])) (fun t k => XS.icmpYes X0.here hx rfl (pc0 := 20) (pc' := 30) rfl (hb hby d1_20) rfl (feq hc3).2 (by decide) (by decide) k) ?_
      obtain ⟨T5, X5, e5, st5⟩ := getS2 X0 hx hZ hown (host := "") (Or.inl (hw _ (List.mem_of_getElem? (i := 21) rfl))) Via.refl e0 hS.2.1 (g := (mkF m 30 #[.val (.int p1), .val (.int ((p1 &&& (2147483647 : Int32)) % (3 : Int32))), .unset] [])) rfl (hb hby d1_30)
      refine own_step (T' := T5) (g' := (mkF m 33 #[.val (.int p1), .val (.int ((p1 &&& (2147483647 : Int32)) % (3 : Int32))), .unset] [(.ref (W 1))])) (fun t k => st5 t k) ?_
      refine own_step (T' := T5) (g' := (mkF m 34 #[.val (.int p1), .val (.int ((p1 &&& (2147483647 : Int32)) % (3 : Int32))), .val (.ref (W 1))] [])) (fun t k => XS.astoreN X5.here hx rfl (hb hby d1_33) rfl rfl (l' := #[.val (.int p1), .val (.int ((p1 &&& (2147483647 : Int32)) % (3 : Int32))), .val (.ref (W 1))]) rfl k) ?_
      refine own_step (T' := T5) (g' := (mkF m 35 #[.val (.int p1), .val (.int ((p1 &&& (2147483647 : Int32)) % (3 : Int32))), .val (.ref (W 1))] [(.ref (W 1))])) (fun t k => XS.aloadN X5.here hx rfl (hb hby d1_34) rfl rfl k) ?_
      exact own_fin X5 hx Bd.returns rfl (Or.inr (Or.inr (Or.inr (Or.inr ⟨rfl, rfl, rfl⟩)))) (hb hby d1_35) (BodyLoose.notSynchronized Bd) N0 e5 (congrArg _ (by rw [own_V1, if_neg hc1, if_neg hc3])) (by decide) (by decide)
theorem own_pn1 : plainName "com/example/nisc/nisc/BuildConfiguration$Truth" = true := by first | (simp [plainName, overriddenIn]; done) | decide +kernel
theorem d2_0 : decode prog_9_method_5_code 0 = .ok (.aload_n 0, 1) := by decide +kernel
theorem d2_1 : decode prog_9_method_5_code 1 = .ok (.getstatic 7, 3) := by decide +kernel
theorem d2_4 : decode prog_9_method_5_code 4 = .ok (.if_acmp .eq 10, 3) := by decide +kernel
theorem d2_7 : decode prog_9_method_5_code 7 = .ok (.aload_n 1, 1) := by decide +kernel
theorem d2_8 : decode prog_9_method_5_code 8 = .ok (.getstatic 7, 3) := by decide +kernel
theorem d2_11 : decode prog_9_method_5_code 11 = .ok (.if_acmp .ne 10, 3) := by decide +kernel
theorem d2_14 : decode prog_9_method_5_code 14 = .ok (.getstatic 7, 3) := by decide +kernel
theorem d2_17 : decode prog_9_method_5_code 17 = .ok (.astore_n 2, 1) := by decide +kernel
theorem d2_18 : decode prog_9_method_5_code 18 = .ok (.goto 28, 3) := by decide +kernel
theorem d2_21 : decode prog_9_method_5_code 21 = .ok (.aload_n 0, 1) := by decide +kernel
theorem d2_22 : decode prog_9_method_5_code 22 = .ok (.getstatic 10, 3) := by decide +kernel
theorem d2_25 : decode prog_9_method_5_code 25 = .ok (.if_acmp .eq 10, 3) := by decide +kernel
theorem d2_28 : decode prog_9_method_5_code 28 = .ok (.aload_n 1, 1) := by decide +kernel
theorem d2_29 : decode prog_9_method_5_code 29 = .ok (.getstatic 10, 3) := by decide +kernel
theorem d2_32 : decode prog_9_method_5_code 32 = .ok (.if_acmp .ne 10, 3) := by decide +kernel
theorem d2_35 : decode prog_9_method_5_code 35 = .ok (.getstatic 10, 3) := by decide +kernel
theorem d2_38 : decode prog_9_method_5_code 38 = .ok (.astore_n 2, 1) := by decide +kernel
theorem d2_39 : decode prog_9_method_5_code 39 = .ok (.goto 7, 3) := by decide +kernel
theorem d2_42 : decode prog_9_method_5_code 42 = .ok (.getstatic 3, 3) := by decide +kernel
theorem d2_45 : decode prog_9_method_5_code 45 = .ok (.astore_n 2, 1) := by decide +kernel
theorem d2_46 : decode prog_9_method_5_code 46 = .ok (.aload_n 2, 1) := by decide +kernel
theorem d2_47 : decode prog_9_method_5_code 47 = .ok (.areturn, 1) := by decide +kernel
theorem ef2 (m : MethodId) (a : Addr) (p1 : Addr) : entryFrame m #[(.ref a), (.ref p1)] 3 = mkF m 0 #[.val (.ref a), .val (.ref p1), .unset] [] := by first | (simp [entryFrame, mkF, argsToLocals, Value.category]; done) | rfl
def V2 (W : Nat → Addr) (a : Addr) (p1 : Addr) : Addr := (if a = (W 0) then (W 0) else (if p1 = (W 0) then (W 0) else (if a = (W 2) then (W 2) else (if p1 = (W 2) then (W 2) else (W 1)))))
theorem own_V2 (W : Nat → Addr) (a : Addr) (p1 : Addr) : V2 W a p1 = (if a = (W 0) then (W 0) else (if p1 = (W 0) then (W 0) else (if a = (W 2) then (W 2) else (if p1 = (W 2) then (W 2) else (W 1))))) := rfl
set_option maxRecDepth 65536 in
set_option maxHeartbeats 40000000 in
theorem rm2 (l : Launch) (Z : State) (a0 : Array Value) (hw : ∀ d ∈ tables_1, d.before a0 Z = true) (ws : List Jvm.Cond) (a : Addr) (p1 : Addr) (W : Nat → Addr) (h0 : Heap) (n0 : Nat) (Z0 : n0 ≤ h0.size) (hS : own_Stas Z h0 W) :
    own_Con l Z (⟨"com/example/nisc/nisc/BuildConfiguration$Truth", "and", "(Lcom/example/nisc/nisc/BuildConfiguration$Truth;)Lcom/example/nisc/nisc/BuildConfiguration$Truth;"⟩ : MethodName) prog_9_method_5_code 3 (some (.object "com/example/nisc/nisc/BuildConfiguration$Truth")) ({ frames := 0, cells := 0, slots := 0, locals := 0 } : Room) #[(.ref a), (.ref p1)] h0 n0 (.ref (V2 W a p1)) ws := by
  refine MetFree.of_bodySF (plainFor_of_name own_pn1) hisR ?_
  intro p e s m args below meth c s₁ Bd hml0 hP hK
  obtain ⟨rfl, hZ, hh⟩ := hP
  have hx := Bd.exec
  have hby := Bd.bytes
  have hml : c.maxLocals = 3 := hml0
  have hown : s.vm.findClass "com/example/nisc/nisc/BuildConfiguration$Truth" = some m.cls := findClass_of_methodNamed Bd.named
  have X0 : Stand p l e ({ frames := 0, cells := 0, slots := 0, locals := 0 } : Room) s m #[(.ref a), (.ref p1)] below meth c s₁ [] 0 0 := Stand.of_body Bd
  have e0 : s₁.heap = h0 := by rw [← hh, Bd.state]; rfl
  have N0 := Fr.nil n0
  refine own_cast (ef2 m a p1) ?_
  refine own_step (T' := s₁) (g' := (mkF m 1 #[.val (.ref a), .val (.ref p1), .unset] [(.ref a)])) (fun t k => XS.aloadN X0.here hx rfl (hb hby d2_0) rfl rfl k) ?_
  obtain ⟨T1, X1, e1, st1⟩ := getS2 X0 hx hZ hown (host := "") (Or.inl (hw _ (List.mem_of_getElem? (i := 13) rfl))) Via.refl e0 hS.1 (g := (mkF m 1 #[.val (.ref a), .val (.ref p1), .unset] [(.ref a)])) rfl (hb hby d2_1)
  refine own_step (T' := T1) (g' := (mkF m 4 #[.val (.ref a), .val (.ref p1), .unset] [(.ref (W 0)), (.ref a)])) (fun t k => st1 t k) ?_
  by_cases hc2 : a = (W 0)
  · refine own_step (T' := T1) (g' := (mkF m 14 #[.val (.ref a), .val (.ref p1), .unset] [])) (fun t k => Jvm.RoadKit.acmp (g := (mkF m 4 #[.val (.ref a), .val (.ref p1), .unset] [(.ref (W 0)), (.ref a)])) X1 hx rfl rfl rfl (pc0 := 4) (pc' := 14) (same := true) rfl (hb hby d2_4) rfl (decide_eq_true (congrArg Value.ref hc2)) (by decide) (by decide) k) ?_
    obtain ⟨T3, X3, e3, st3⟩ := getS2 X1 hx hZ hown (host := "") (Or.inl (hw _ (List.mem_of_getElem? (i := 13) rfl))) Via.refl e1 hS.1 (g := (mkF m 14 #[.val (.ref a), .val (.ref p1), .unset] [])) rfl (hb hby d2_14)
    refine own_step (T' := T3) (g' := (mkF m 17 #[.val (.ref a), .val (.ref p1), .unset] [(.ref (W 0))])) (fun t k => st3 t k) ?_
    refine own_step (T' := T3) (g' := (mkF m 18 #[.val (.ref a), .val (.ref p1), .val (.ref (W 0))] [])) (fun t k => XS.astoreN X3.here hx rfl (hb hby d2_17) rfl rfl (l' := #[.val (.ref a), .val (.ref p1), .val (.ref (W 0))]) rfl k) ?_
    refine own_step (T' := T3) (g' := (mkF m 46 #[.val (.ref a), .val (.ref p1), .val (.ref (W 0))] [])) (fun t k => XS.goto X3.here hx rfl (pc0 := 18) (pc' := 46) rfl (hb hby d2_18) (by decide) (by decide) k) ?_
    refine own_step (T' := T3) (g' := (mkF m 47 #[.val (.ref a), .val (.ref p1), .val (.ref (W 0))] [(.ref (W 0))])) (fun t k => XS.aloadN X3.here hx rfl (hb hby d2_46) rfl rfl k) ?_
    exact own_fin X3 hx Bd.returns rfl (Or.inr (Or.inr (Or.inr (Or.inr ⟨rfl, rfl, rfl⟩)))) (hb hby d2_47) (BodyLoose.notSynchronized Bd) N0 e3 (congrArg _ (by rw [own_V2, if_pos hc2])) (by decide) (by decide)
  · refine own_step (T' := T1) (g' := (mkF m 7 #[.val (.ref a), .val (.ref p1), .unset] [])) (fun t k => Jvm.RoadKit.acmp (g := (mkF m 4 #[.val (.ref a), .val (.ref p1), .unset] [(.ref (W 0)), (.ref a)])) X1 hx rfl rfl rfl (pc0 := 4) (pc' := 7) (same := false) rfl (hb hby d2_4) rfl (decide_eq_false (fun q => hc2 (Value.ref.inj q))) (by decide) (by decide) k) ?_
    refine own_step (T' := T1) (g' := (mkF m 8 #[.val (.ref a), .val (.ref p1), .unset] [(.ref p1)])) (fun t k => XS.aloadN X1.here hx rfl (hb hby d2_7) rfl rfl k) ?_
    obtain ⟨T4, X4, e4, st4⟩ := getS2 X1 hx hZ hown (host := "") (Or.inl (hw _ (List.mem_of_getElem? (i := 13) rfl))) Via.refl e1 hS.1 (g := (mkF m 8 #[.val (.ref a), .val (.ref p1), .unset] [(.ref p1)])) rfl (hb hby d2_8)
    refine own_step (T' := T4) (g' := (mkF m 11 #[.val (.ref a), .val (.ref p1), .unset] [(.ref (W 0)), (.ref p1)])) (fun t k => st4 t k) ?_
    by_cases hc5 : p1 = (W 0)
    · refine own_step (T' := T4) (g' := (mkF m 14 #[.val (.ref a), .val (.ref p1), .unset] [])) (fun t k => Jvm.RoadKit.acmp (g := (mkF m 11 #[.val (.ref a), .val (.ref p1), .unset] [(.ref (W 0)), (.ref p1)])) X4 hx rfl rfl rfl (pc0 := 11) (pc' := 14) (same := true) rfl (hb hby d2_11) rfl (decide_eq_true (congrArg Value.ref hc5)) (by decide) (by decide) k) ?_
      obtain ⟨T6, X6, e6, st6⟩ := getS2 X4 hx hZ hown (host := "") (Or.inl (hw _ (List.mem_of_getElem? (i := 13) rfl))) Via.refl e4 hS.1 (g := (mkF m 14 #[.val (.ref a), .val (.ref p1), .unset] [])) rfl (hb hby d2_14)
      refine own_step (T' := T6) (g' := (mkF m 17 #[.val (.ref a), .val (.ref p1), .unset] [(.ref (W 0))])) (fun t k => st6 t k) ?_
      refine own_step (T' := T6) (g' := (mkF m 18 #[.val (.ref a), .val (.ref p1), .val (.ref (W 0))] [])) (fun t k => XS.astoreN X6.here hx rfl (hb hby d2_17) rfl rfl (l' := #[.val (.ref a), .val (.ref p1), .val (.ref (W 0))]) rfl k) ?_
      refine own_step (T' := T6) (g' := (mkF m 46 #[.val (.ref a), .val (.ref p1), .val (.ref (W 0))] [])) (fun t k => XS.goto X6.here hx rfl (pc0 := 18) (pc' := 46) rfl (hb hby d2_18) (by decide) (by decide) k) ?_
      refine own_step (T' := T6) (g' := (mkF m 47 #[.val (.ref a), .val (.ref p1), .val (.ref (W 0))] [(.ref (W 0))])) (fun t k => XS.aloadN X6.here hx rfl (hb hby d2_46) rfl rfl k) ?_
      exact own_fin X6 hx Bd.returns rfl (Or.inr (Or.inr (Or.inr (Or.inr ⟨rfl, rfl, rfl⟩)))) (hb hby d2_47) (BodyLoose.notSynchronized Bd) N0 e6 (congrArg _ (by rw [own_V2, if_neg hc2, if_pos hc5])) (by decide) (by decide)
    · refine own_step (T' := T4) (g' := (mkF m 21 #[.val (.ref a), .val (.ref p1), .unset] [])) (fun t k => Jvm.RoadKit.acmp (g := (mkF m 11 #[.val (.ref a), .val (.ref p1), .unset] [(.ref (W 0)), (.ref p1)])) X4 hx rfl rfl rfl (pc0 := 11) (pc' := 21) (same := false) rfl (hb hby d2_11) rfl (decide_eq_false (fun q => hc5 (Value.ref.inj q))) (by decide) (by decide) k) ?_
      refine own_step (T' := T4) (g' := (mkF m 22 #[.val (.ref a), .val (.ref p1), .unset] [(.ref a)])) (fun t k => XS.aloadN X4.here hx rfl (hb hby d2_21) rfl rfl k) ?_
      obtain ⟨T7, X7, e7, st7⟩ := getS2 X4 hx hZ hown (host := "") (Or.inl (hw _ (List.mem_of_getElem? (i := 25) rfl))) Via.refl e4 hS.2.2 (g := (mkF m 22 #[.val (.ref a), .val (.ref p1), .unset] [(.ref a)])) rfl (hb hby d2_22)
      refine own_step (T' := T7) (g' := (mkF m 25 #[.val (.ref a), .val (.ref p1), .unset] [(.ref (W 2)), (.ref a)])) (fun t k => st7 t k) ?_
      by_cases hc8 : a = (W 2)
      · refine own_step (T' := T7) (g' := (mkF m 35 #[.val (.ref a), .val (.ref p1), .unset] [])) (fun t k => Jvm.RoadKit.acmp (g := (mkF m 25 #[.val (.ref a), .val (.ref p1), .unset] [(.ref (W 2)), (.ref a)])) X7 hx rfl rfl rfl (pc0 := 25) (pc' := 35) (same := true) rfl (hb hby d2_25) rfl (decide_eq_true (congrArg Value.ref hc8)) (by decide) (by decide) k) ?_
        obtain ⟨T9, X9, e9, st9⟩ := getS2 X7 hx hZ hown (host := "") (Or.inl (hw _ (List.mem_of_getElem? (i := 25) rfl))) Via.refl e7 hS.2.2 (g := (mkF m 35 #[.val (.ref a), .val (.ref p1), .unset] [])) rfl (hb hby d2_35)
        refine own_step (T' := T9) (g' := (mkF m 38 #[.val (.ref a), .val (.ref p1), .unset] [(.ref (W 2))])) (fun t k => st9 t k) ?_
        refine own_step (T' := T9) (g' := (mkF m 39 #[.val (.ref a), .val (.ref p1), .val (.ref (W 2))] [])) (fun t k => XS.astoreN X9.here hx rfl (hb hby d2_38) rfl rfl (l' := #[.val (.ref a), .val (.ref p1), .val (.ref (W 2))]) rfl k) ?_
        refine own_step (T' := T9) (g' := (mkF m 46 #[.val (.ref a), .val (.ref p1), .val (.ref (W 2))] [])) (fun t k => XS.goto X9.here hx rfl (pc0 := 39) (pc' := 46) rfl (hb hby d2_39) (by decide) (by decide) k) ?_
        refine own_step (T' := T9) (g' := (mkF m 47 #[.val (.ref a), .val (.ref p1), .val (.ref (W 2))] [(.ref (W 2))])) (fun t k => XS.aloadN X9.here hx rfl (hb hby d2_46) rfl rfl k) ?_
        exact own_fin X9 hx Bd.returns rfl (Or.inr (Or.inr (Or.inr (Or.inr ⟨rfl, rfl, rfl⟩)))) (hb hby d2_47) (BodyLoose.notSynchronized Bd) N0 e9 (congrArg _ (by rw [own_V2, if_neg hc2, if_neg hc5, if_pos hc8])) (by decide) (by decide)
      · refine own_step (T' := T7) (g' := (mkF m 28 #[.val (.ref a), .val (.ref p1), .unset] [])) (fun t k => Jvm.RoadKit.acmp (g := (mkF m 25 #[.val (.ref a), .val (.ref p1), .unset] [(.ref (W 2)), (.ref a)])) X7 hx rfl rfl rfl (pc0 := 25) (pc' := 28) (same := false) rfl (hb hby d2_25) rfl (decide_eq_false (fun q => hc8 (Value.ref.inj q))) (by decide) (by decide) k) ?_
        refine own_step (T' := T7) (g' := (mkF m 29 #[.val (.ref a), .val (.ref p1), .unset] [(.ref p1)])) (fun t k => XS.aloadN X7.here hx rfl (hb hby d2_28) rfl rfl k) ?_
        obtain ⟨T10, X10, e10, st10⟩ := getS2 X7 hx hZ hown (host := "") (Or.inl (hw _ (List.mem_of_getElem? (i := 25) rfl))) Via.refl e7 hS.2.2 (g := (mkF m 29 #[.val (.ref a), .val (.ref p1), .unset] [(.ref p1)])) rfl (hb hby d2_29)
        refine own_step (T' := T10) (g' := (mkF m 32 #[.val (.ref a), .val (.ref p1), .unset] [(.ref (W 2)), (.ref p1)])) (fun t k => st10 t k) ?_
        by_cases hc11 : p1 = (W 2)
        · refine own_step (T' := T10) (g' := (mkF m 35 #[.val (.ref a), .val (.ref p1), .unset] [])) (fun t k => Jvm.RoadKit.acmp (g := (mkF m 32 #[.val (.ref a), .val (.ref p1), .unset] [(.ref (W 2)), (.ref p1)])) X10 hx rfl rfl rfl (pc0 := 32) (pc' := 35) (same := true) rfl (hb hby d2_32) rfl (decide_eq_true (congrArg Value.ref hc11)) (by decide) (by decide) k) ?_
          obtain ⟨T12, X12, e12, st12⟩ := getS2 X10 hx hZ hown (host := "") (Or.inl (hw _ (List.mem_of_getElem? (i := 25) rfl))) Via.refl e10 hS.2.2 (g := (mkF m 35 #[.val (.ref a), .val (.ref p1), .unset] [])) rfl (hb hby d2_35)
          refine own_step (T' := T12) (g' := (mkF m 38 #[.val (.ref a), .val (.ref p1), .unset] [(.ref (W 2))])) (fun t k => st12 t k) ?_
          refine own_step (T' := T12) (g' := (mkF m 39 #[.val (.ref a), .val (.ref p1), .val (.ref (W 2))] [])) (fun t k => XS.astoreN X12.here hx rfl (hb hby d2_38) rfl rfl (l' := #[.val (.ref a), .val (.ref p1), .val (.ref (W 2))]) rfl k) ?_
          refine own_step (T' := T12) (g' := (mkF m 46 #[.val (.ref a), .val (.ref p1), .val (.ref (W 2))] [])) (fun t k => XS.goto X12.here hx rfl (pc0 := 39) (pc' := 46) rfl (hb hby d2_39) (by decide) (by decide) k) ?_
          refine own_step (T' := T12) (g' := (mkF m 47 #[.val (.ref a), .val (.ref p1), .val (.ref (W 2))] [(.ref (W 2))])) (fun t k => XS.aloadN X12.here hx rfl (hb hby d2_46) rfl rfl k) ?_
          exact own_fin X12 hx Bd.returns rfl (Or.inr (Or.inr (Or.inr (Or.inr ⟨rfl, rfl, rfl⟩)))) (hb hby d2_47) (BodyLoose.notSynchronized Bd) N0 e12 (congrArg _ (by rw [own_V2, if_neg hc2, if_neg hc5, if_neg hc8, if_pos hc11])) (by decide) (by decide)
        · refine own_step (T' := T10) (g' := (mkF m 42 #[.val (.ref a), .val (.ref p1), .unset] [])) (fun t k => Jvm.RoadKit.acmp (g := (mkF m 32 #[.val (.ref a), .val (.ref p1), .unset] [(.ref (W 2)), (.ref p1)])) X10 hx rfl rfl rfl (pc0 := 32) (pc' := 42) (same := false) rfl (hb hby d2_32) rfl (decide_eq_false (fun q => hc11 (Value.ref.inj q))) (by decide) (by decide) k) ?_
          obtain ⟨T13, X13, e13, st13⟩ := getS2 X10 hx hZ hown (host := "") (Or.inl (hw _ (List.mem_of_getElem? (i := 26) rfl))) Via.refl e10 hS.2.1 (g := (mkF m 42 #[.val (.ref a), .val (.ref p1), .unset] [])) rfl (hb hby d2_42)
          refine own_step (T' := T13) (g' := (mkF m 45 #[.val (.ref a), .val (.ref p1), .unset] [(.ref (W 1))])) (fun t k => st13 t k) ?_
          refine own_step (T' := T13) (g' := (mkF m 46 #[.val (.ref a), .val (.ref p1), .val (.ref (W 1))] [])) (fun t k => XS.astoreN X13.here hx rfl (hb hby d2_45) rfl rfl (l' := #[.val (.ref a), .val (.ref p1), .val (.ref (W 1))]) rfl k) ?_
          refine own_step (T' := T13) (g' := (mkF m 47 #[.val (.ref a), .val (.ref p1), .val (.ref (W 1))] [(.ref (W 1))])) (fun t k => XS.aloadN X13.here hx rfl (hb hby d2_46) rfl rfl k) ?_
          exact own_fin X13 hx Bd.returns rfl (Or.inr (Or.inr (Or.inr (Or.inr ⟨rfl, rfl, rfl⟩)))) (hb hby d2_47) (BodyLoose.notSynchronized Bd) N0 e13 (congrArg _ (by rw [own_V2, if_neg hc2, if_neg hc5, if_neg hc8, if_neg hc11])) (by decide) (by decide)
theorem d3_0 : decode method_3_code 0 = .ok (.aload_n 0, 1) := by decide +kernel
theorem d3_1 : decode method_3_code 1 = .ok (.getstatic 8, 3) := by decide +kernel
theorem d3_4 : decode method_3_code 4 = .ok (.if_acmp .ne 8, 3) := by decide +kernel
theorem d3_7 : decode method_3_code 7 = .ok (.iconst 0, 1) := by decide +kernel
theorem d3_8 : decode method_3_code 8 = .ok (.istore_n 1, 1) := by decide +kernel
theorem d3_9 : decode method_3_code 9 = .ok (.goto 29, 3) := by decide +kernel
theorem d3_12 : decode method_3_code 12 = .ok (.aload_n 0, 1) := by decide +kernel
theorem d3_13 : decode method_3_code 13 = .ok (.getstatic 14, 3) := by decide +kernel
theorem d3_16 : decode method_3_code 16 = .ok (.if_acmp .ne 8, 3) := by decide +kernel
theorem d3_19 : decode method_3_code 19 = .ok (.iconst 1, 1) := by decide +kernel
theorem d3_20 : decode method_3_code 20 = .ok (.istore_n 1, 1) := by decide +kernel
theorem d3_21 : decode method_3_code 21 = .ok (.goto 17, 3) := by decide +kernel
theorem d3_24 : decode method_3_code 24 = .ok (.aload_n 0, 1) := by decide +kernel
theorem d3_25 : decode method_3_code 25 = .ok (.getstatic 17, 3) := by decide +kernel
theorem d3_28 : decode method_3_code 28 = .ok (.if_acmp .ne 8, 3) := by decide +kernel
theorem d3_31 : decode method_3_code 31 = .ok (.iconst 2, 1) := by decide +kernel
theorem d3_32 : decode method_3_code 32 = .ok (.istore_n 1, 1) := by decide +kernel
theorem d3_33 : decode method_3_code 33 = .ok (.goto 5, 3) := by decide +kernel
theorem d3_36 : decode method_3_code 36 = .ok (.iconst (-1), 1) := by decide +kernel
theorem d3_37 : decode method_3_code 37 = .ok (.istore_n 1, 1) := by decide +kernel
theorem d3_38 : decode method_3_code 38 = .ok (.iload_n 1, 1) := by decide +kernel
theorem d3_39 : decode method_3_code 39 = .ok (.ireturn, 1) := by decide +kernel
theorem ef3 (m : MethodId) (p1 : Addr) : entryFrame m #[(.ref p1)] 2 = mkF m 0 #[.val (.ref p1), .unset] [] := by first | (simp [entryFrame, mkF, argsToLocals, Value.category]; done) | rfl
def V3 (W : Nat → Addr) (p1 : Addr) : Int32 := (if p1 = (W 0) then (0 : Int32) else (if p1 = (W 2) then (1 : Int32) else (if p1 = (W 1) then (2 : Int32) else (-1 : Int32))))
theorem own_V3 (W : Nat → Addr) (p1 : Addr) : V3 W p1 = (if p1 = (W 0) then (0 : Int32) else (if p1 = (W 2) then (1 : Int32) else (if p1 = (W 1) then (2 : Int32) else (-1 : Int32)))) := rfl
set_option maxRecDepth 65536 in
set_option maxHeartbeats 40000000 in
theorem rm3 (l : Launch) (Z : State) (a0 : Array Value) (hw : ∀ d ∈ tables_1, d.before a0 Z = true) (ws : List Jvm.Cond) (p1 : Addr) (W : Nat → Addr) (h0 : Heap) (n0 : Nat) (Z0 : n0 ≤ h0.size) (hS : own_Stas Z h0 W) :
    own_Con l Z (⟨"com/example/nisc/nisc/TruthAndPinLaw", "rank", "(Lcom/example/nisc/nisc/BuildConfiguration$Truth;)I"⟩ : MethodName) method_3_code 2 (some .int) ({ frames := 0, cells := 0, slots := 0, locals := 0 } : Room) #[(.ref p1)] h0 n0 (.int (V3 W p1)) ws := by
  refine MetFree.of_bodySF (plainFor_of_name own_pn0) hisR ?_
  intro p e s m args below meth c s₁ Bd hml0 hP hK
  obtain ⟨rfl, hZ, hh⟩ := hP
  have hx := Bd.exec
  have hby := Bd.bytes
  have hml : c.maxLocals = 2 := hml0
  have hown : s.vm.findClass "com/example/nisc/nisc/TruthAndPinLaw" = some m.cls := findClass_of_methodNamed Bd.named
  have X0 : Stand p l e ({ frames := 0, cells := 0, slots := 0, locals := 0 } : Room) s m #[(.ref p1)] below meth c s₁ [] 0 0 := Stand.of_body Bd
  have e0 : s₁.heap = h0 := by rw [← hh, Bd.state]; rfl
  have N0 := Fr.nil n0
  refine own_cast (ef3 m p1) ?_
  refine own_step (T' := s₁) (g' := (mkF m 1 #[.val (.ref p1), .unset] [(.ref p1)])) (fun t k => XS.aloadN X0.here hx rfl (hb hby d3_0) rfl rfl k) ?_
  obtain ⟨T1, X1, e1, st1⟩ := getS2 X0 hx hZ hown (host := "") (Or.inl (hw _ (List.mem_of_getElem? (i := 5) rfl))) Via.refl e0 hS.1 (g := (mkF m 1 #[.val (.ref p1), .unset] [(.ref p1)])) rfl (hb hby d3_1)
  refine own_step (T' := T1) (g' := (mkF m 4 #[.val (.ref p1), .unset] [(.ref (W 0)), (.ref p1)])) (fun t k => st1 t k) ?_
  by_cases hc2 : p1 = (W 0)
  · refine own_step (T' := T1) (g' := (mkF m 7 #[.val (.ref p1), .unset] [])) (fun t k => Jvm.RoadKit.acmp (g := (mkF m 4 #[.val (.ref p1), .unset] [(.ref (W 0)), (.ref p1)])) X1 hx rfl rfl rfl (pc0 := 4) (pc' := 7) (same := true) rfl (hb hby d3_4) rfl (decide_eq_true (congrArg Value.ref hc2)) (by decide) (by decide) k) ?_
    refine own_step (T' := T1) (g' := (mkF m 8 #[.val (.ref p1), .unset] [(.int (0 : Int32))])) (fun t k => XS.iconst X1.here hx rfl (hb hby d3_7) k) ?_
    refine own_step (T' := T1) (g' := (mkF m 9 #[.val (.ref p1), .val (.int (0 : Int32))] [])) (fun t k => XS.istoreN X1.here hx rfl (hb hby d3_8) rfl (l' := #[.val (.ref p1), .val (.int (0 : Int32))]) rfl k) ?_
    refine own_step (T' := T1) (g' := (mkF m 38 #[.val (.ref p1), .val (.int (0 : Int32))] [])) (fun t k => XS.goto X1.here hx rfl (pc0 := 9) (pc' := 38) rfl (hb hby d3_9) (by decide) (by decide) k) ?_
    refine own_step (T' := T1) (g' := (mkF m 39 #[.val (.ref p1), .val (.int (0 : Int32))] [(.int (0 : Int32))])) (fun t k => XS.iloadN X1.here hx rfl (hb hby d3_38) rfl k) ?_
    exact own_fin X1 hx Bd.returns rfl (Or.inl ⟨rfl, Or.inl rfl, _, rfl⟩) (hb hby d3_39) (BodyLoose.notSynchronized Bd) N0 e1 (congrArg _ (by rw [own_V3, if_pos hc2])) (by decide) (by decide)
  · refine own_step (T' := T1) (g' := (mkF m 12 #[.val (.ref p1), .unset] [])) (fun t k => Jvm.RoadKit.acmp (g := (mkF m 4 #[.val (.ref p1), .unset] [(.ref (W 0)), (.ref p1)])) X1 hx rfl rfl rfl (pc0 := 4) (pc' := 12) (same := false) rfl (hb hby d3_4) rfl (decide_eq_false (fun q => hc2 (Value.ref.inj q))) (by decide) (by decide) k) ?_
    refine own_step (T' := T1) (g' := (mkF m 13 #[.val (.ref p1), .unset] [(.ref p1)])) (fun t k => XS.aloadN X1.here hx rfl (hb hby d3_12) rfl rfl k) ?_
    obtain ⟨T3, X3, e3, st3⟩ := getS2 X1 hx hZ hown (host := "") (Or.inl (hw _ (List.mem_of_getElem? (i := 23) rfl))) Via.refl e1 hS.2.2 (g := (mkF m 13 #[.val (.ref p1), .unset] [(.ref p1)])) rfl (hb hby d3_13)
    refine own_step (T' := T3) (g' := (mkF m 16 #[.val (.ref p1), .unset] [(.ref (W 2)), (.ref p1)])) (fun t k => st3 t k) ?_
    by_cases hc4 : p1 = (W 2)
    · refine own_step (T' := T3) (g' := (mkF m 19 #[.val (.ref p1), .unset] [])) (fun t k => Jvm.RoadKit.acmp (g := (mkF m 16 #[.val (.ref p1), .unset] [(.ref (W 2)), (.ref p1)])) X3 hx rfl rfl rfl (pc0 := 16) (pc' := 19) (same := true) rfl (hb hby d3_16) rfl (decide_eq_true (congrArg Value.ref hc4)) (by decide) (by decide) k) ?_
      refine own_step (T' := T3) (g' := (mkF m 20 #[.val (.ref p1), .unset] [(.int (1 : Int32))])) (fun t k => XS.iconst X3.here hx rfl (hb hby d3_19) k) ?_
      refine own_step (T' := T3) (g' := (mkF m 21 #[.val (.ref p1), .val (.int (1 : Int32))] [])) (fun t k => XS.istoreN X3.here hx rfl (hb hby d3_20) rfl (l' := #[.val (.ref p1), .val (.int (1 : Int32))]) rfl k) ?_
      refine own_step (T' := T3) (g' := (mkF m 38 #[.val (.ref p1), .val (.int (1 : Int32))] [])) (fun t k => XS.goto X3.here hx rfl (pc0 := 21) (pc' := 38) rfl (hb hby d3_21) (by decide) (by decide) k) ?_
      refine own_step (T' := T3) (g' := (mkF m 39 #[.val (.ref p1), .val (.int (1 : Int32))] [(.int (1 : Int32))])) (fun t k => XS.iloadN X3.here hx rfl (hb hby d3_38) rfl k) ?_
      exact own_fin X3 hx Bd.returns rfl (Or.inl ⟨rfl, Or.inl rfl, _, rfl⟩) (hb hby d3_39) (BodyLoose.notSynchronized Bd) N0 e3 (congrArg _ (by rw [own_V3, if_neg hc2, if_pos hc4])) (by decide) (by decide)
    · refine own_step (T' := T3) (g' := (mkF m 24 #[.val (.ref p1), .unset] [])) (fun t k => Jvm.RoadKit.acmp (g := (mkF m 16 #[.val (.ref p1), .unset] [(.ref (W 2)), (.ref p1)])) X3 hx rfl rfl rfl (pc0 := 16) (pc' := 24) (same := false) rfl (hb hby d3_16) rfl (decide_eq_false (fun q => hc4 (Value.ref.inj q))) (by decide) (by decide) k) ?_
      refine own_step (T' := T3) (g' := (mkF m 25 #[.val (.ref p1), .unset] [(.ref p1)])) (fun t k => XS.aloadN X3.here hx rfl (hb hby d3_24) rfl rfl k) ?_
      obtain ⟨T5, X5, e5, st5⟩ := getS2 X3 hx hZ hown (host := "") (Or.inl (hw _ (List.mem_of_getElem? (i := 21) rfl))) Via.refl e3 hS.2.1 (g := (mkF m 25 #[.val (.ref p1), .unset] [(.ref p1)])) rfl (hb hby d3_25)
      refine own_step (T' := T5) (g' := (mkF m 28 #[.val (.ref p1), .unset] [(.ref (W 1)), (.ref p1)])) (fun t k => st5 t k) ?_
      by_cases hc6 : p1 = (W 1)
      · refine own_step (T' := T5) (g' := (mkF m 31 #[.val (.ref p1), .unset] [])) (fun t k => Jvm.RoadKit.acmp (g := (mkF m 28 #[.val (.ref p1), .unset] [(.ref (W 1)), (.ref p1)])) X5 hx rfl rfl rfl (pc0 := 28) (pc' := 31) (same := true) rfl (hb hby d3_28) rfl (decide_eq_true (congrArg Value.ref hc6)) (by decide) (by decide) k) ?_
        refine own_step (T' := T5) (g' := (mkF m 32 #[.val (.ref p1), .unset] [(.int (2 : Int32))])) (fun t k => XS.iconst X5.here hx rfl (hb hby d3_31) k) ?_
        refine own_step (T' := T5) (g' := (mkF m 33 #[.val (.ref p1), .val (.int (2 : Int32))] [])) (fun t k => XS.istoreN X5.here hx rfl (hb hby d3_32) rfl (l' := #[.val (.ref p1), .val (.int (2 : Int32))]) rfl k) ?_
        refine own_step (T' := T5) (g' := (mkF m 38 #[.val (.ref p1), .val (.int (2 : Int32))] [])) (fun t k => XS.goto X5.here hx rfl (pc0 := 33) (pc' := 38) rfl (hb hby d3_33) (by decide) (by decide) k) ?_
        refine own_step (T' := T5) (g' := (mkF m 39 #[.val (.ref p1), .val (.int (2 : Int32))] [(.int (2 : Int32))])) (fun t k => XS.iloadN X5.here hx rfl (hb hby d3_38) rfl k) ?_
        exact own_fin X5 hx Bd.returns rfl (Or.inl ⟨rfl, Or.inl rfl, _, rfl⟩) (hb hby d3_39) (BodyLoose.notSynchronized Bd) N0 e5 (congrArg _ (by rw [own_V3, if_neg hc2, if_neg hc4, if_pos hc6])) (by decide) (by decide)
      · refine own_step (T' := T5) (g' := (mkF m 36 #[.val (.ref p1), .unset] [])) (fun t k => Jvm.RoadKit.acmp (g := (mkF m 28 #[.val (.ref p1), .unset] [(.ref (W 1)), (.ref p1)])) X5 hx rfl rfl rfl (pc0 := 28) (pc' := 36) (same := false) rfl (hb hby d3_28) rfl (decide_eq_false (fun q => hc6 (Value.ref.inj q))) (by decide) (by decide) k) ?_
        refine own_step (T' := T5) (g' := (mkF m 37 #[.val (.ref p1), .unset] [(.int (-1 : Int32))])) (fun t k => XS.iconst X5.here hx rfl (hb hby d3_36) k) ?_
        refine own_step (T' := T5) (g' := (mkF m 38 #[.val (.ref p1), .val (.int (-1 : Int32))] [])) (fun t k => XS.istoreN X5.here hx rfl (hb hby d3_37) rfl (l' := #[.val (.ref p1), .val (.int (-1 : Int32))]) rfl k) ?_
        refine own_step (T' := T5) (g' := (mkF m 39 #[.val (.ref p1), .val (.int (-1 : Int32))] [(.int (-1 : Int32))])) (fun t k => XS.iloadN X5.here hx rfl (hb hby d3_38) rfl k) ?_
        exact own_fin X5 hx Bd.returns rfl (Or.inl ⟨rfl, Or.inl rfl, _, rfl⟩) (hb hby d3_39) (BodyLoose.notSynchronized Bd) N0 e5 (congrArg _ (by rw [own_V3, if_neg hc2, if_neg hc4, if_neg hc6])) (by decide) (by decide)
theorem own_pf4 : plainFor (⟨"java/lang/Math", "min", "(II)I"⟩ : MethodName) = true := by decide +kernel
theorem d4_0 : decode jdk_29_method_69_code 0 = .ok (.iload_n 0, 1) := by decide +kernel
theorem d4_1 : decode jdk_29_method_69_code 1 = .ok (.iload_n 1, 1) := by decide +kernel
theorem d4_2 : decode jdk_29_method_69_code 2 = .ok (.if_icmp .gt 7, 3) := by decide +kernel
theorem d4_5 : decode jdk_29_method_69_code 5 = .ok (.iload_n 0, 1) := by decide +kernel
theorem d4_6 : decode jdk_29_method_69_code 6 = .ok (.goto 4, 3) := by decide +kernel
theorem d4_9 : decode jdk_29_method_69_code 9 = .ok (.iload_n 1, 1) := by decide +kernel
theorem d4_10 : decode jdk_29_method_69_code 10 = .ok (.ireturn, 1) := by decide +kernel
theorem ef4 (m : MethodId) (p1 : Int32) (p2 : Int32) : entryFrame m #[(.int p1), (.int p2)] 2 = mkF m 0 #[.val (.int p1), .val (.int p2)] [] := by first | (simp [entryFrame, mkF, argsToLocals, Value.category]; done) | rfl
def V4 (W : Nat → Addr) (p1 : Int32) (p2 : Int32) : Int32 := (if p2 < p1 then p2 else p1)
theorem own_V4 (W : Nat → Addr) (p1 : Int32) (p2 : Int32) : V4 W p1 p2 = (if p2 < p1 then p2 else p1) := rfl
set_option maxRecDepth 65536 in
set_option maxHeartbeats 40000000 in
theorem rm4 (l : Launch) (Z : State) (a0 : Array Value) (hw : ∀ d ∈ tables_1, d.before a0 Z = true) (ws : List Jvm.Cond) (p1 : Int32) (p2 : Int32) (W : Nat → Addr) (h0 : Heap) (n0 : Nat) (Z0 : n0 ≤ h0.size) (hS : own_Stas Z h0 W) :
    own_Con l Z (⟨"java/lang/Math", "min", "(II)I"⟩ : MethodName) jdk_29_method_69_code 2 (some .int) ({ frames := 0, cells := 0, slots := 0, locals := 0 } : Room) #[(.int p1), (.int p2)] h0 n0 (.int (V4 W p1 p2)) ws := by
  refine MetFree.of_bodySF own_pf4 hisR ?_
  intro p e s m args below meth c s₁ Bd hml0 hP hK
  obtain ⟨rfl, hZ, hh⟩ := hP
  have hx := Bd.exec
  have hby := Bd.bytes
  have hml : c.maxLocals = 2 := hml0
  have hown : s.vm.findClass "java/lang/Math" = some m.cls := findClass_of_methodNamed Bd.named
  have X0 : Stand p l e ({ frames := 0, cells := 0, slots := 0, locals := 0 } : Room) s m #[(.int p1), (.int p2)] below meth c s₁ [] 0 0 := Stand.of_body Bd
  have e0 : s₁.heap = h0 := by rw [← hh, Bd.state]; rfl
  have N0 := Fr.nil n0
  refine own_cast (ef4 m p1 p2) ?_
  refine own_step (T' := s₁) (g' := (mkF m 1 #[.val (.int p1), .val (.int p2)] [(.int p1)])) (fun t k => XS.iloadN X0.here hx rfl (hb hby d4_0) rfl k) ?_
  refine own_step (T' := s₁) (g' := (mkF m 2 #[.val (.int p1), .val (.int p2)] [(.int p2), (.int p1)])) (fun t k => XS.iloadN X0.here hx rfl (hb hby d4_1) rfl k) ?_
  by_cases hc1 : p2 < p1
  · refine own_step (T' := s₁) (g' := (mkF m 9 #[.val (.int p1), .val (.int p2)] [])) (fun t k => XS.icmpYes X0.here hx rfl (pc0 := 2) (pc' := 9) rfl (hb hby d4_2) rfl (tlt hc1).2.2.1 (by decide) (by decide) k) ?_
    refine own_step (T' := s₁) (g' := (mkF m 10 #[.val (.int p1), .val (.int p2)] [(.int p2)])) (fun t k => XS.iloadN X0.here hx rfl (hb hby d4_9) rfl k) ?_
    exact own_fin X0 hx Bd.returns rfl (Or.inl ⟨rfl, Or.inl rfl, _, rfl⟩) (hb hby d4_10) (BodyLoose.notSynchronized Bd) N0 e0 (congrArg _ (by rw [own_V4, if_pos hc1])) (by decide) (by decide)
  · refine own_step (T' := s₁) (g' := (mkF m 5 #[.val (.int p1), .val (.int p2)] [])) (fun t k => XS.icmpNo X0.here hx rfl (hb hby d4_2) rfl (flt hc1).2.2.1 k) ?_
    refine own_step (T' := s₁) (g' := (mkF m 6 #[.val (.int p1), .val (.int p2)] [(.int p1)])) (fun t k => XS.iloadN X0.here hx rfl (hb hby d4_5) rfl k) ?_
    refine own_step (T' := s₁) (g' := (mkF m 10 #[.val (.int p1), .val (.int p2)] [(.int p1)])) (fun t k => XS.goto X0.here hx rfl (pc0 := 6) (pc' := 10) rfl (hb hby d4_6) (by decide) (by decide) k) ?_
    exact own_fin X0 hx Bd.returns rfl (Or.inl ⟨rfl, Or.inl rfl, _, rfl⟩) (hb hby d4_10) (BodyLoose.notSynchronized Bd) N0 e0 (congrArg _ (by rw [own_V4, if_neg hc1])) (by decide) (by decide)
theorem own_pd0 : parseMethodDescriptor "(I)Lcom/example/nisc/nisc/BuildConfiguration$Truth;" = some ⟨[.int], some (.object "com/example/nisc/nisc/BuildConfiguration$Truth")⟩ := by decide +kernel
theorem own_pd1 : parseMethodDescriptor "(Lcom/example/nisc/nisc/BuildConfiguration$Truth;)Lcom/example/nisc/nisc/BuildConfiguration$Truth;" = some ⟨[(.object "com/example/nisc/nisc/BuildConfiguration$Truth")], some (.object "com/example/nisc/nisc/BuildConfiguration$Truth")⟩ := by decide +kernel
theorem own_pd2 : parseMethodDescriptor "(Lcom/example/nisc/nisc/BuildConfiguration$Truth;)I" = some ⟨[(.object "com/example/nisc/nisc/BuildConfiguration$Truth")], some .int⟩ := by decide +kernel
theorem own_pd3 : parseMethodDescriptor "(II)I" = some ⟨[.int, .int], some .int⟩ := by decide +kernel
theorem ef0 (m : MethodId) (p1 : Int32) (p2 : Int32) : entryFrame m #[(.int p1), (.int p2)] maxLocals = mkF m 0 #[.val (.int p1), .val (.int p2), .unset, .unset, .unset, .unset] [] := by first | (simp [entryFrame, mkF, argsToLocals, Value.category, maxLocals]; done) | rfl
def V0 (W : Nat → Addr) (p1 : Int32) (p2 : Int32) : Int32 := (if (V3 W (V2 W (V1 W p1) (V1 W p2))) = (V4 W (V3 W (V1 W p1)) (V3 W (V1 W p2))) then (1 : Int32) else (0 : Int32))
theorem own_V0 (W : Nat → Addr) (p1 : Int32) (p2 : Int32) : V0 W p1 p2 = (if (V3 W (V2 W (V1 W p1) (V1 W p2))) = (V4 W (V3 W (V1 W p1)) (V3 W (V1 W p2))) then (1 : Int32) else (0 : Int32)) := rfl
set_option maxRecDepth 65536 in
set_option maxHeartbeats 40000000 in
theorem rm0 (l : Launch) (Z : State) (a0 : Array Value) (hw : ∀ d ∈ tables_1, d.before a0 Z = true) (ws : List Jvm.Cond) (p1 : Int32) (p2 : Int32) (W : Nat → Addr) (h0 : Heap) (n0 : Nat) (Z0 : n0 ≤ h0.size) (hS : own_Stas Z h0 W) (E_12_V1Wp1 : Exa Z h0 (V1 W p1) "com/example/nisc/nisc/BuildConfiguration$Truth") :
    own_Con l Z x code maxLocals ret room_1 #[(.int p1), (.int p2)] h0 n0 (.int (V0 W p1 p2)) ws := by
  refine MetFree.of_bodySF (plainFor_of_name own_pn0) hisR ?_
  intro p e s m args below meth c s₁ Bd hml0 hP hK
  obtain ⟨rfl, hZ, hh⟩ := hP
  have hx := Bd.exec
  have hby := Bd.bytes
  have hml : c.maxLocals = 6 := hml0
  have hown : s.vm.findClass "com/example/nisc/nisc/TruthAndPinLaw" = some m.cls := findClass_of_methodNamed Bd.named
  have X0 : Stand p l e room_1 s m #[(.int p1), (.int p2)] below meth c s₁ [] 0 0 := Stand.of_body Bd
  have e0 : s₁.heap = h0 := by rw [← hh, Bd.state]; rfl
  have N0 := Fr.nil n0
  refine own_cast (ef0 m p1 p2) ?_
  refine own_step (T' := s₁) (g' := (mkF m 1 #[.val (.int p1), .val (.int p2), .unset, .unset, .unset, .unset] [(.int p1)])) (fun t k => XS.iloadN X0.here hx rfl (hb hby at_0) rfl k) ?_
  obtain ⟨_, _, ⟨T1, L1, k1, n1⟩, -, X1, ⟨Lc1, hQ1, l1, y1, z1⟩, st1⟩ := Jvm.LawKit.callS X0 hx (y := (⟨"com/example/nisc/nisc/TruthAndPinLaw", "pick", "(I)Lcom/example/nisc/nisc/BuildConfiguration$Truth;"⟩ : MethodName)) hown (mvT hZ (hw _ (List.mem_of_getElem? (i := 0) rfl))) (mvT hZ (hw _ (List.mem_of_getElem? (i := 1) rfl))) (mvT hZ (hw _ (List.mem_of_getElem? (i := 2) rfl))) (mvT hZ (hw _ (List.mem_of_getElem? (i := 3) rfl))) (by decide) (backOf (W := 0) (rm1 l Z a0 hw [] p1 W h0 n0 Z0 hS) hZ (hw _ (List.mem_of_getElem? (i := 3) rfl)) (hw _ (List.mem_of_getElem? (i := 2) rfl)) (by decide) (by decide)) (g := (mkF m 1 #[.val (.int p1), .val (.int p2), .unset, .unset, .unset, .unset] [(.int p1)])) rfl (by rw [hml]; rfl) (argsL := [(.int p1)]) (rest := []) (lenOf own_pd0 rfl) rfl (by show 2 * 0 + _ ≤ _; exact Nat.le_of_eq rfl) (hb hby at_1) (fun _ _ => ⟨rfl, e0, (by decide : 0 + 0 ≤ _), (by decide : 0 + 0 ≤ _)⟩)
  dsimp only [Pt.U, Pt.locs, Pt.cells, Pt.slots] at X1 l1 y1 z1 st1 hQ1
  subst l1 y1 z1
  obtain ⟨rfl, N1q, e1⟩ := hQ1
  have N1 := Fr.app N0 N1q
  refine own_step (T' := T1) (g' := (mkF m 4 #[.val (.int p1), .val (.int p2), .unset, .unset, .unset, .unset] [(.ref (V1 W p1))])) (fun t k => st1 _ k) ?_
  refine own_step (T' := T1) (g' := (mkF m 5 #[.val (.int p1), .val (.int p2), .val (.ref (V1 W p1)), .unset, .unset, .unset] [])) (fun t k => XS.astoreN X1.here hx rfl (hb hby at_4) rfl rfl (l' := #[.val (.int p1), .val (.int p2), .val (.ref (V1 W p1)), .unset, .unset, .unset]) rfl k) ?_
  refine own_step (T' := T1) (g' := (mkF m 6 #[.val (.int p1), .val (.int p2), .val (.ref (V1 W p1)), .unset, .unset, .unset] [(.int p2)])) (fun t k => XS.iloadN X1.here hx rfl (hb hby at_5) rfl k) ?_
  obtain ⟨_, _, ⟨T2, L2, k2, n2⟩, -, X2, ⟨Lc2, hQ2, l2, y2, z2⟩, st2⟩ := Jvm.LawKit.callS X1 hx (y := (⟨"com/example/nisc/nisc/TruthAndPinLaw", "pick", "(I)Lcom/example/nisc/nisc/BuildConfiguration$Truth;"⟩ : MethodName)) hown (mvT hZ (hw _ (List.mem_of_getElem? (i := 0) rfl))) (mvT hZ (hw _ (List.mem_of_getElem? (i := 1) rfl))) (mvT hZ (hw _ (List.mem_of_getElem? (i := 2) rfl))) (mvT hZ (hw _ (List.mem_of_getElem? (i := 3) rfl))) (by decide) (backOf (W := 0) (rm1 l Z a0 hw [] p2 W h0 n0 Z0 hS) hZ (hw _ (List.mem_of_getElem? (i := 3) rfl)) (hw _ (List.mem_of_getElem? (i := 2) rfl)) (by decide) (by decide)) (g := (mkF m 6 #[.val (.int p1), .val (.int p2), .val (.ref (V1 W p1)), .unset, .unset, .unset] [(.int p2)])) rfl (by rw [hml]; rfl) (argsL := [(.int p2)]) (rest := []) (lenOf own_pd0 rfl) rfl (by show 2 * 0 + _ ≤ _; exact Nat.le_of_eq rfl) (hb hby at_6) (fun _ _ => ⟨rfl, e1, (by decide : 0 + 0 ≤ _), (by decide : 0 + 0 ≤ _)⟩)
  dsimp only [Pt.U, Pt.locs, Pt.cells, Pt.slots] at X2 l2 y2 z2 st2 hQ2
  subst l2 y2 z2
  obtain ⟨rfl, N2q, e2⟩ := hQ2
  have N2 := Fr.app N1 N2q
  refine own_step (T' := T2) (g' := (mkF m 9 #[.val (.int p1), .val (.int p2), .val (.ref (V1 W p1)), .unset, .unset, .unset] [(.ref (V1 W p2))])) (fun t k => st2 _ k) ?_
  refine own_step (T' := T2) (g' := (mkF m 10 #[.val (.int p1), .val (.int p2), .val (.ref (V1 W p1)), .val (.ref (V1 W p2)), .unset, .unset] [])) (fun t k => XS.astoreN X2.here hx rfl (hb hby at_9) rfl rfl (l' := #[.val (.int p1), .val (.int p2), .val (.ref (V1 W p1)), .val (.ref (V1 W p2)), .unset, .unset]) rfl k) ?_
  refine own_step (T' := T2) (g' := (mkF m 11 #[.val (.int p1), .val (.int p2), .val (.ref (V1 W p1)), .val (.ref (V1 W p2)), .unset, .unset] [(.ref (V1 W p1))])) (fun t k => XS.aloadN X2.here hx rfl (hb hby at_10) rfl rfl k) ?_
  refine own_step (T' := T2) (g' := (mkF m 12 #[.val (.int p1), .val (.int p2), .val (.ref (V1 W p1)), .val (.ref (V1 W p2)), .unset, .unset] [(.ref (V1 W p2)), (.ref (V1 W p1))])) (fun t k => XS.aloadN X2.here hx rfl (hb hby at_11) rfl rfl k) ?_
  obtain ⟨cq3, kq3, q3a, q3b, q3c⟩ := isOf hZ e2 E_12_V1Wp1
  obtain ⟨_, _, ⟨T3, L3, k3, n3⟩, -, X3, ⟨Lc3, hQ3, l3, y3, z3⟩, st3⟩ := X2.virtualBack hx (y := (⟨"com/example/nisc/nisc/BuildConfiguration$Truth", "and", "(Lcom/example/nisc/nisc/BuildConfiguration$Truth;)Lcom/example/nisc/nisc/BuildConfiguration$Truth;"⟩ : MethodName)) (z := (⟨"com/example/nisc/nisc/BuildConfiguration$Truth", "and", "(Lcom/example/nisc/nisc/BuildConfiguration$Truth;)Lcom/example/nisc/nisc/BuildConfiguration$Truth;"⟩ : MethodName)) hown (mvT hZ (hw _ (List.mem_of_getElem? (i := 8) rfl))) (mvT hZ (hw _ (List.mem_of_getElem? (i := 9) rfl))) (notFace_of_selects (args := #[]) (mvT hZ (hw _ (List.mem_of_getElem? (i := 11) rfl)))) (mvT hZ (hw _ (List.mem_of_getElem? (i := 11) rfl))) (mvT hZ (hw _ (List.mem_of_getElem? (i := 10) rfl))) (by decide) (backOf (W := 0) (rm2 l Z a0 hw [] (V1 W p1) (V1 W p2) W h0 n0 Z0 hS) hZ (hw _ (List.mem_of_getElem? (i := 12) rfl)) (hw _ (List.mem_of_getElem? (i := 6) rfl)) (by decide) (by decide)) q3a q3c (g := (mkF m 12 #[.val (.int p1), .val (.int p2), .val (.ref (V1 W p1)), .val (.ref (V1 W p2)), .unset, .unset] [(.ref (V1 W p2)), (.ref (V1 W p1))])) rfl (by rw [hml]; rfl) (Steps.refl _) (argsL := [(.ref (V1 W p2))]) (rest := []) (lenOf own_pd1 rfl) rfl (by show 2 * 0 + _ ≤ _; exact Nat.le_of_eq rfl) (hb hby at_12) (fun _ _ => ⟨rfl, e2, (by decide : 0 + 0 ≤ _), (by decide : 0 + 0 ≤ _)⟩)
  dsimp only [Pt.U, Pt.locs, Pt.cells, Pt.slots] at X3 l3 y3 z3 st3 hQ3
  subst l3 y3 z3
  obtain ⟨rfl, N3q, e3⟩ := hQ3
  have N3 := Fr.app N2 N3q
  refine own_step (T' := T3) (g' := (mkF m 15 #[.val (.int p1), .val (.int p2), .val (.ref (V1 W p1)), .val (.ref (V1 W p2)), .unset, .unset] [(.ref (V2 W (V1 W p1) (V1 W p2)))])) (fun t k => st3.trans k) ?_
  refine own_step (T' := T3) (g' := (mkF m 17 #[.val (.int p1), .val (.int p2), .val (.ref (V1 W p1)), .val (.ref (V1 W p2)), .val (.ref (V2 W (V1 W p1) (V1 W p2))), .unset] [])) (fun t k => XS.astore X3.here hx rfl (hb hby at_15) rfl rfl (l' := #[.val (.int p1), .val (.int p2), .val (.ref (V1 W p1)), .val (.ref (V1 W p2)), .val (.ref (V2 W (V1 W p1) (V1 W p2))), .unset]) rfl k) ?_
  refine own_step (T' := T3) (g' := (mkF m 18 #[.val (.int p1), .val (.int p2), .val (.ref (V1 W p1)), .val (.ref (V1 W p2)), .val (.ref (V2 W (V1 W p1) (V1 W p2))), .unset] [(.ref (V1 W p1))])) (fun t k => XS.aloadN X3.here hx rfl (hb hby at_17) rfl rfl k) ?_
  obtain ⟨_, _, ⟨T4, L4, k4, n4⟩, -, X4, ⟨Lc4, hQ4, l4, y4, z4⟩, st4⟩ := Jvm.LawKit.callS X3 hx (y := (⟨"com/example/nisc/nisc/TruthAndPinLaw", "rank", "(Lcom/example/nisc/nisc/BuildConfiguration$Truth;)I"⟩ : MethodName)) hown (mvT hZ (hw _ (List.mem_of_getElem? (i := 14) rfl))) (mvT hZ (hw _ (List.mem_of_getElem? (i := 15) rfl))) (mvT hZ (hw _ (List.mem_of_getElem? (i := 2) rfl))) (mvT hZ (hw _ (List.mem_of_getElem? (i := 16) rfl))) (by decide) (backOf (W := 0) (rm3 l Z a0 hw [] (V1 W p1) W h0 n0 Z0 hS) hZ (hw _ (List.mem_of_getElem? (i := 16) rfl)) (hw _ (List.mem_of_getElem? (i := 2) rfl)) (by decide) (by decide)) (g := (mkF m 18 #[.val (.int p1), .val (.int p2), .val (.ref (V1 W p1)), .val (.ref (V1 W p2)), .val (.ref (V2 W (V1 W p1) (V1 W p2))), .unset] [(.ref (V1 W p1))])) rfl (by rw [hml]; rfl) (argsL := [(.ref (V1 W p1))]) (rest := []) (lenOf own_pd2 rfl) rfl (by show 2 * 0 + _ ≤ _; exact Nat.le_of_eq rfl) (hb hby at_18) (fun _ _ => ⟨rfl, e3, (by decide : 0 + 0 ≤ _), (by decide : 0 + 0 ≤ _)⟩)
  dsimp only [Pt.U, Pt.locs, Pt.cells, Pt.slots] at X4 l4 y4 z4 st4 hQ4
  subst l4 y4 z4
  obtain ⟨rfl, N4q, e4⟩ := hQ4
  have N4 := Fr.app N3 N4q
  refine own_step (T' := T4) (g' := (mkF m 21 #[.val (.int p1), .val (.int p2), .val (.ref (V1 W p1)), .val (.ref (V1 W p2)), .val (.ref (V2 W (V1 W p1) (V1 W p2))), .unset] [(.int (V3 W (V1 W p1)))])) (fun t k => st4 _ k) ?_
  refine own_step (T' := T4) (g' := (mkF m 22 #[.val (.int p1), .val (.int p2), .val (.ref (V1 W p1)), .val (.ref (V1 W p2)), .val (.ref (V2 W (V1 W p1) (V1 W p2))), .unset] [(.ref (V1 W p2)), (.int (V3 W (V1 W p1)))])) (fun t k => XS.aloadN X4.here hx rfl (hb hby at_21) rfl rfl k) ?_
  obtain ⟨_, _, ⟨T5, L5, k5, n5⟩, -, X5, ⟨Lc5, hQ5, l5, y5, z5⟩, st5⟩ := Jvm.LawKit.callS X4 hx (y := (⟨"com/example/nisc/nisc/TruthAndPinLaw", "rank", "(Lcom/example/nisc/nisc/BuildConfiguration$Truth;)I"⟩ : MethodName)) hown (mvT hZ (hw _ (List.mem_of_getElem? (i := 14) rfl))) (mvT hZ (hw _ (List.mem_of_getElem? (i := 15) rfl))) (mvT hZ (hw _ (List.mem_of_getElem? (i := 2) rfl))) (mvT hZ (hw _ (List.mem_of_getElem? (i := 16) rfl))) (by decide) (backOf (W := 1) (rm3 l Z a0 hw [] (V1 W p2) W h0 n0 Z0 hS) hZ (hw _ (List.mem_of_getElem? (i := 16) rfl)) (hw _ (List.mem_of_getElem? (i := 2) rfl)) (by decide) (by decide)) (g := (mkF m 22 #[.val (.int p1), .val (.int p2), .val (.ref (V1 W p1)), .val (.ref (V1 W p2)), .val (.ref (V2 W (V1 W p1) (V1 W p2))), .unset] [(.ref (V1 W p2)), (.int (V3 W (V1 W p1)))])) rfl (by rw [hml]; rfl) (argsL := [(.ref (V1 W p2))]) (rest := [(.int (V3 W (V1 W p1)))]) (lenOf own_pd2 rfl) rfl (by show 2 * 0 + _ ≤ _; exact Nat.le_of_eq rfl) (hb hby at_22) (fun _ _ => ⟨rfl, e4, (by decide : 0 + 0 ≤ _), (by decide : 0 + 0 ≤ _)⟩)
  dsimp only [Pt.U, Pt.locs, Pt.cells, Pt.slots] at X5 l5 y5 z5 st5 hQ5
  subst l5 y5 z5
  obtain ⟨rfl, N5q, e5⟩ := hQ5
  have N5 := Fr.app N4 N5q
  refine own_step (T' := T5) (g' := (mkF m 25 #[.val (.int p1), .val (.int p2), .val (.ref (V1 W p1)), .val (.ref (V1 W p2)), .val (.ref (V2 W (V1 W p1) (V1 W p2))), .unset] [(.int (V3 W (V1 W p2))), (.int (V3 W (V1 W p1)))])) (fun t k => st5 _ k) ?_
  obtain ⟨_, _, ⟨T6, L6, k6, n6⟩, -, X6, ⟨Lc6, hQ6, l6, y6, z6⟩, st6⟩ := Jvm.LawKit.callS X5 hx (y := (⟨"java/lang/Math", "min", "(II)I"⟩ : MethodName)) hown (mvT hZ (hw _ (List.mem_of_getElem? (i := 17) rfl))) (mvT hZ (hw _ (List.mem_of_getElem? (i := 18) rfl))) (mvT hZ (hw _ (List.mem_of_getElem? (i := 19) rfl))) (mvT hZ (hw _ (List.mem_of_getElem? (i := 20) rfl))) (by decide) (backOf (W := 0) (rm4 l Z a0 hw [] (V3 W (V1 W p1)) (V3 W (V1 W p2)) W h0 n0 Z0 hS) hZ (hw _ (List.mem_of_getElem? (i := 20) rfl)) (hw _ (List.mem_of_getElem? (i := 19) rfl)) (by decide) (by decide)) (g := (mkF m 25 #[.val (.int p1), .val (.int p2), .val (.ref (V1 W p1)), .val (.ref (V1 W p2)), .val (.ref (V2 W (V1 W p1) (V1 W p2))), .unset] [(.int (V3 W (V1 W p2))), (.int (V3 W (V1 W p1)))])) rfl (by rw [hml]; rfl) (argsL := [(.int (V3 W (V1 W p1))), (.int (V3 W (V1 W p2)))]) (rest := []) (lenOf own_pd3 rfl) rfl (by show 2 * 0 + _ ≤ _; exact Nat.le_of_eq rfl) (hb hby at_25) (fun _ _ => ⟨rfl, e5, (by decide : 0 + 0 ≤ _), (by decide : 0 + 0 ≤ _)⟩)
  dsimp only [Pt.U, Pt.locs, Pt.cells, Pt.slots] at X6 l6 y6 z6 st6 hQ6
  subst l6 y6 z6
  obtain ⟨rfl, N6q, e6⟩ := hQ6
  have N6 := Fr.app N5 N6q
  refine own_step (T' := T6) (g' := (mkF m 28 #[.val (.int p1), .val (.int p2), .val (.ref (V1 W p1)), .val (.ref (V1 W p2)), .val (.ref (V2 W (V1 W p1) (V1 W p2))), .unset] [(.int (V4 W (V3 W (V1 W p1)) (V3 W (V1 W p2))))])) (fun t k => st6 _ k) ?_
  refine own_step (T' := T6) (g' := (mkF m 30 #[.val (.int p1), .val (.int p2), .val (.ref (V1 W p1)), .val (.ref (V1 W p2)), .val (.ref (V2 W (V1 W p1) (V1 W p2))), .val (.int (V4 W (V3 W (V1 W p1)) (V3 W (V1 W p2))))] [])) (fun t k => XS.istore X6.here hx rfl (hb hby at_28) rfl (l' := #[.val (.int p1), .val (.int p2), .val (.ref (V1 W p1)), .val (.ref (V1 W p2)), .val (.ref (V2 W (V1 W p1) (V1 W p2))), .val (.int (V4 W (V3 W (V1 W p1)) (V3 W (V1 W p2))))]) rfl k) ?_
  refine own_step (T' := T6) (g' := (mkF m 32 #[.val (.int p1), .val (.int p2), .val (.ref (V1 W p1)), .val (.ref (V1 W p2)), .val (.ref (V2 W (V1 W p1) (V1 W p2))), .val (.int (V4 W (V3 W (V1 W p1)) (V3 W (V1 W p2))))] [(.ref (V2 W (V1 W p1) (V1 W p2)))])) (fun t k => XS.aload X6.here hx rfl (hb hby at_30) rfl rfl k) ?_
  obtain ⟨_, _, ⟨T7, L7, k7, n7⟩, -, X7, ⟨Lc7, hQ7, l7, y7, z7⟩, st7⟩ := Jvm.LawKit.callS X6 hx (y := (⟨"com/example/nisc/nisc/TruthAndPinLaw", "rank", "(Lcom/example/nisc/nisc/BuildConfiguration$Truth;)I"⟩ : MethodName)) hown (mvT hZ (hw _ (List.mem_of_getElem? (i := 14) rfl))) (mvT hZ (hw _ (List.mem_of_getElem? (i := 15) rfl))) (mvT hZ (hw _ (List.mem_of_getElem? (i := 2) rfl))) (mvT hZ (hw _ (List.mem_of_getElem? (i := 16) rfl))) (by decide) (backOf (W := 0) (rm3 l Z a0 hw [] (V2 W (V1 W p1) (V1 W p2)) W h0 n0 Z0 hS) hZ (hw _ (List.mem_of_getElem? (i := 16) rfl)) (hw _ (List.mem_of_getElem? (i := 2) rfl)) (by decide) (by decide)) (g := (mkF m 32 #[.val (.int p1), .val (.int p2), .val (.ref (V1 W p1)), .val (.ref (V1 W p2)), .val (.ref (V2 W (V1 W p1) (V1 W p2))), .val (.int (V4 W (V3 W (V1 W p1)) (V3 W (V1 W p2))))] [(.ref (V2 W (V1 W p1) (V1 W p2)))])) rfl (by rw [hml]; rfl) (argsL := [(.ref (V2 W (V1 W p1) (V1 W p2)))]) (rest := []) (lenOf own_pd2 rfl) rfl (by show 2 * 0 + _ ≤ _; exact Nat.le_of_eq rfl) (hb hby at_32) (fun _ _ => ⟨rfl, e6, (by decide : 0 + 0 ≤ _), (by decide : 0 + 0 ≤ _)⟩)
  dsimp only [Pt.U, Pt.locs, Pt.cells, Pt.slots] at X7 l7 y7 z7 st7 hQ7
  subst l7 y7 z7
  obtain ⟨rfl, N7q, e7⟩ := hQ7
  have N7 := Fr.app N6 N7q
  refine own_step (T' := T7) (g' := (mkF m 35 #[.val (.int p1), .val (.int p2), .val (.ref (V1 W p1)), .val (.ref (V1 W p2)), .val (.ref (V2 W (V1 W p1) (V1 W p2))), .val (.int (V4 W (V3 W (V1 W p1)) (V3 W (V1 W p2))))] [(.int (V3 W (V2 W (V1 W p1) (V1 W p2))))])) (fun t k => st7 _ k) ?_
  refine own_step (T' := T7) (g' := (mkF m 37 #[.val (.int p1), .val (.int p2), .val (.ref (V1 W p1)), .val (.ref (V1 W p2)), .val (.ref (V2 W (V1 W p1) (V1 W p2))), .val (.int (V4 W (V3 W (V1 W p1)) (V3 W (V1 W p2))))] [(.int (V4 W (V3 W (V1 W p1)) (V3 W (V1 W p2)))), (.int (V3 W (V2 W (V1 W p1) (V1 W p2))))])) (fun t k => XS.iload X7.here hx rfl (hb hby at_35) rfl k) ?_
  by_cases hc8 : (V3 W (V2 W (V1 W p1) (V1 W p2))) = (V4 W (V3 W (V1 W p1)) (V3 W (V1 W p2)))
  · refine own_step (T' := T7) (g' := (mkF m 40 #[.val (.int p1), .val (.int p2), .val (.ref (V1 W p1)), .val (.ref (V1 W p2)), .val (.ref (V2 W (V1 W p1) (V1 W p2))), .val (.int (V4 W (V3 W (V1 W p1)) (V3 W (V1 W p2))))] [])) (fun t k => XS.icmpNo X7.here hx rfl (hb hby at_37) rfl (teq hc8).2 k) ?_
    refine own_step (T' := T7) (g' := (mkF m 41 #[.val (.int p1), .val (.int p2), .val (.ref (V1 W p1)), .val (.ref (V1 W p2)), .val (.ref (V2 W (V1 W p1) (V1 W p2))), .val (.int (V4 W (V3 W (V1 W p1)) (V3 W (V1 W p2))))] [(.int (1 : Int32))])) (fun t k => XS.iconst X7.here hx rfl (hb hby at_40) k) ?_
    refine own_step (T' := T7) (g' := (mkF m 45 #[.val (.int p1), .val (.int p2), .val (.ref (V1 W p1)), .val (.ref (V1 W p2)), .val (.ref (V2 W (V1 W p1) (V1 W p2))), .val (.int (V4 W (V3 W (V1 W p1)) (V3 W (V1 W p2))))] [(.int (1 : Int32))])) (fun t k => XS.goto X7.here hx rfl (pc0 := 41) (pc' := 45) rfl (hb hby at_41) (by decide) (by decide) k) ?_
    exact own_fin X7 hx Bd.returns rfl (Or.inl ⟨rfl, Or.inr (Or.inl rfl), _, rfl⟩) (hb hby at_45) (BodyLoose.notSynchronized Bd) N7 e7 (congrArg _ (by rw [own_V0, if_pos hc8])) (by decide) (by decide)
  · refine own_step (T' := T7) (g' := (mkF m 44 #[.val (.int p1), .val (.int p2), .val (.ref (V1 W p1)), .val (.ref (V1 W p2)), .val (.ref (V2 W (V1 W p1) (V1 W p2))), .val (.int (V4 W (V3 W (V1 W p1)) (V3 W (V1 W p2))))] [])) (fun t k => XS.icmpYes X7.here hx rfl (pc0 := 37) (pc' := 44) rfl (hb hby at_37) rfl (feq hc8).2 (by decide) (by decide) k) ?_
    refine own_step (T' := T7) (g' := (mkF m 45 #[.val (.int p1), .val (.int p2), .val (.ref (V1 W p1)), .val (.ref (V1 W p2)), .val (.ref (V2 W (V1 W p1) (V1 W p2))), .val (.int (V4 W (V3 W (V1 W p1)) (V3 W (V1 W p2))))] [(.int (0 : Int32))])) (fun t k => XS.iconst X7.here hx rfl (hb hby at_44) k) ?_
    exact own_fin X7 hx Bd.returns rfl (Or.inl ⟨rfl, Or.inr (Or.inl rfl), _, rfl⟩) (hb hby at_45) (BodyLoose.notSynchronized Bd) N7 e7 (congrArg _ (by rw [own_V0, if_neg hc8])) (by decide) (by decide)
/-! 3. the plain law -/
theorem own_mod (p d : Int32) (n : Nat) (hn : d.toInt = n) (h0 : 0 < n) : ∃ k : Nat, k < n ∧ (p &&& (2147483647 : Int32)) % d = Int32.ofNat k := by
  have e1 : (p &&& (2147483647 : Int32)).toInt = p.toInt % 2 ^ 31 := Jvm.Kit.i32_mask p 2147483647 (k := 31) (by decide) (by decide)
  have h1 : 0 ≤ (p &&& (2147483647 : Int32)).toInt := by omega
  have e2 := Jvm.Kit.i32_rem_nonneg (y := d) h1
  rw [hn] at e2
  have b1 := Int.emod_nonneg (p &&& (2147483647 : Int32)).toInt (show (n : Int) ≠ 0 by omega)
  have b2 := Int.emod_lt_of_pos (p &&& (2147483647 : Int32)).toInt (show (0 : Int) < n by omega)
  have b3 := ((p &&& (2147483647 : Int32)) % d).toInt_lt
  refine ⟨((p &&& (2147483647 : Int32)) % d).toInt.toNat, by omega, ?_⟩
  apply Int32.toInt_inj.mp
  rw [Int32.toInt_ofNat_of_lt (by omega)]
  omega
theorem own_pickP {P : Addr → Prop} {W : Nat → Addr} (hE : ∀ i, i < 3 → P (W i)) (p : Int32) : P (V1 W p) := by
  unfold V1
  repeat' split
  all_goals exact hE _ (by decide)
theorem own_law (W : Nat → Addr) (hD : ∀ i j, i < 3 → j < 3 → W i = W j → i = j) (p q : Int32) : V0 W p q = 1 := by
  have hW : ∀ i j, i < 3 → j < 3 → (W i = W j ↔ i = j) := fun i j hi hj => ⟨hD i j hi hj, fun h => h ▸ rfl⟩
  unfold V0 V1
  obtain ⟨k, hk, e⟩ := own_mod p 3 3 (by decide) (by decide)
  obtain ⟨k', hk', e'⟩ := own_mod q 3 3 (by decide) (by decide)
  rw [e, e']
  match k, hk with
  | 0, _ => match k', hk' with
    | 0, _ => simp +decide [V1, V2, V3, V4, hW]
    | 1, _ => simp +decide [V1, V2, V3, V4, hW]
    | 2, _ => simp +decide [V1, V2, V3, V4, hW]
  | 1, _ => match k', hk' with
    | 0, _ => simp +decide [V1, V2, V3, V4, hW]
    | 1, _ => simp +decide [V1, V2, V3, V4, hW]
    | 2, _ => simp +decide [V1, V2, V3, V4, hW]
  | 2, _ => match k', hk' with
    | 0, _ => simp +decide [V1, V2, V3, V4, hW]
    | 1, _ => simp +decide [V1, V2, V3, V4, hW]
    | 2, _ => simp +decide [V1, V2, V3, V4, hW]
def own_ord (i : Nat) : Int32 := ([1, 0, 2] : List Int32).getD i 0
theorem own_ord_inj : ∀ i, i < 3 → ∀ j, j < 3 → own_ord i = own_ord j → i = j := by decide
theorem own_eqi {t : Term} {z : Int32} {args : Array Value} {s : State} (h : (Jvm.Cond.eq t (.int z)).value args s none s [] = some true) : t.eval args s none [] s = some (.int z) := by
  cases ht : t.eval args s none [] s with
  | none => simp [Cond.value, ht] at h
  | some v => cases v <;> simp_all [Cond.value, Term.eval]
set_option maxRecDepth 65536 in
set_option maxHeartbeats 40000000 in
theorem own_open {args : Array Value} {s : State} (hw : ∀ d ∈ tables_1, d.before args s = true) (hn : narrow_1.value args s none s [] = some true) :
    ∃ W : Nat → Addr, own_Stas s s.heap W ∧ (∀ i, i < 3 → Exa s s.heap (W i) "com/example/nisc/nisc/BuildConfiguration$Truth") ∧ (∀ i j, i < 3 → j < 3 → W i = W j → i = j) := by
  obtain ⟨c0, hn⟩ := and_e hn
  obtain ⟨c1, hn⟩ := and_e hn
  obtain ⟨c2, hn⟩ := and_e hn
  obtain ⟨c3, hn⟩ := and_e hn
  obtain ⟨c4, hn⟩ := and_e hn
  have c5 := hn
  obtain ⟨b0, ev0⟩ := exa_v c0
  obtain ⟨b1, ev1⟩ := exa_v c1
  obtain ⟨b2, ev2⟩ := exa_v c2
  have E0 : Exa s s.heap b0 "com/example/nisc/nisc/BuildConfiguration$Truth" := Exa.start ev0 c0
  have S0 : Sta s s.heap "com/example/nisc/nisc/BuildConfiguration$Truth" "FALSE" "Lcom/example/nisc/nisc/BuildConfiguration$Truth;" (.ref b0) := Sta.start ev0 (Or.inr ⟨(hw _ (List.mem_of_getElem? (i := 6) rfl)), (hw _ (List.mem_of_getElem? (i := 7) rfl))⟩)
  have F0 : Fld s s.heap b0 "java/lang/Enum" "ordinal" "I" (.int (1 : Int32)) := Fld.start ((fld_at ev0).symm.trans (own_eqi c4))
  have E1 : Exa s s.heap b1 "com/example/nisc/nisc/BuildConfiguration$Truth" := Exa.start ev1 c1
  have S1 : Sta s s.heap "com/example/nisc/nisc/BuildConfiguration$Truth" "TRUE" "Lcom/example/nisc/nisc/BuildConfiguration$Truth;" (.ref b1) := Sta.start ev1 (Or.inr ⟨(hw _ (List.mem_of_getElem? (i := 6) rfl)), (hw _ (List.mem_of_getElem? (i := 22) rfl))⟩)
  have F1 : Fld s s.heap b1 "java/lang/Enum" "ordinal" "I" (.int (0 : Int32)) := Fld.start ((fld_at ev1).symm.trans (own_eqi c3))
  have E2 : Exa s s.heap b2 "com/example/nisc/nisc/BuildConfiguration$Truth" := Exa.start ev2 c2
  have S2 : Sta s s.heap "com/example/nisc/nisc/BuildConfiguration$Truth" "UNDECIDED" "Lcom/example/nisc/nisc/BuildConfiguration$Truth;" (.ref b2) := Sta.start ev2 (Or.inr ⟨(hw _ (List.mem_of_getElem? (i := 6) rfl)), (hw _ (List.mem_of_getElem? (i := 24) rfl))⟩)
  have F2 : Fld s s.heap b2 "java/lang/Enum" "ordinal" "I" (.int (2 : Int32)) := Fld.start ((fld_at ev2).symm.trans (own_eqi c5))
  have hO : ∀ i, i < 3 → Fld s s.heap ((fun i => ([b0, b1, b2] : List Addr).getD i 0) i) "java/lang/Enum" "ordinal" "I" (.int (own_ord i)) := by
    intro i hi
    match i, hi with
    | 0, _ => exact F0
    | 1, _ => exact F1
    | 2, _ => exact F2
  refine ⟨(fun i => ([b0, b1, b2] : List Addr).getD i 0), ⟨S0, S1, S2⟩, ?_, fun i j hi hj q => own_ord_inj i hi j hj (Decidable.byContradiction fun ne => (hO i hi).ne (hO j hj) (fun z => ne (Value.int.inj z)) q)⟩
  intro i hi
  match i, hi with
  | 0, _ => exact E0
  | 1, _ => exact E1
  | 2, _ => exact E2
set_option maxRecDepth 65536 in
set_option maxHeartbeats 40000000 in
theorem comes_1 {Post : Tables → Env → Array Value → State → Outcome → State → Prop} (hpost : ∀ tb e args s v u, (limb_1_1.after args s (.returned v) u = true ∧ limb_1_2.after args s (.returned v) u = true ∧ True) → FrameEnd s (.returned v) u (Jvm.fieldLocs frame_1_writes args s ++ Jvm.arrayLocs frame_1_arrays args s ++ Jvm.staticLocs frame_1_statics s) 0 0 → Post tb e args s (.returned v) u) :
    ArmFor flags0 classFile x code maxLocals ret World_1 tables_1 room_1 Calls_1 rest_1 Pre_1 Post := by
  intro l hfl _ _ p e ha hc hk s m args below hf hA hF happ hP
  obtain ⟨hcalls, hrest, hpre⟩ := hP
  obtain ⟨-, -, -, hnamed, -, -, -, hat⟩ := (Spec.applies_iff hf).mp happ
  obtain ⟨hg, hn⟩ := and_e (Cond.before_iff.mp (show (Jvm.Cond.and given_1 narrow_1).before args s = true from hpre))
  obtain ⟨g0, hg⟩ := and_e hg
  obtain ⟨g1, hg⟩ := and_e hg
  have g2 := hg
  obtain ⟨w0, w1, rfl⟩ : ∃ w0 w1 : Value, args = #[w0, w1] := by
    have hs : args.size = 2 := by simpa [Cond.value, given_1] using g0
    obtain ⟨L⟩ := args
    match L, hs with
    | [w0, w1], _ => exact ⟨w0, w1, rfl⟩
  have hw := fun d (hd : d ∈ tables_1) => atoms_spec (ws := Jvm.Cond.code x code maxLocals ret :: tables_1) hat d (List.mem_cons_of_mem _ hd)
  obtain ⟨i0, ei0⟩ := is_v g1
  obtain rfl : w0 = (.int i0) := Option.some.inj ei0
  obtain ⟨i1, ei1⟩ := is_v g2
  obtain rfl : w1 = (.int i1) := Option.some.inj ei1
  obtain ⟨W, hS, hE, hD⟩ := own_open hw hn
  obtain ⟨n, o, h1, h2, h3, _, L, rfl, ⟨rfl, N, -⟩, hq⟩ := rm0 l s _ hw tables_1 i0 i1 W s.heap s.heap.size (Nat.le_refl _) hS (own_pickP (P := fun b => Exa s s.heap b "com/example/nisc/nisc/BuildConfiguration$Truth") hE _) p e ha hc hk s m _ below hf ((Spec.applies_iff_loose hf).mp happ).1 ⟨rfl, State.Warmed39.refl s, rfl⟩ trivial
  refine ⟨n, _, h1, h2, h3, hpost _ _ _ _ _ _ ⟨Cond.after_iff.mpr rfl, Cond.after_iff.mpr (eq_i res_at (Term.int_eval (1)) (congrArg Value.int (own_law W hD  i0 i1))), trivial⟩ ⟨hq.1, hq.2.1, (hq.2.2.sift fun y hy => Or.inr (N y hy)).mono (by decide) (by decide)⟩⟩
theorem main_1_1 : Claimed_1_1 := comes_1 fun _ _ _ _ _ _ h hF => ⟨h.1, hF⟩
theorem main_1_2 : Claimed_1_2 := comes_1 fun _ _ _ _ _ _ h hF => ⟨h.2.1, hF⟩
end Jvm.Pilot.@@N@@
namespace Jvm.Pilot.@@N@@
open Jvm Jvm.ClassFile Sem Op Lib Jvm.Free Jvm.Stand Jvm.Pilot.@@N@@.Jvm.D
/-! MADE BY PROGRAM (witnessworld.py) out of the Statement's table words and the real class files: 13 classes; the members and pool entries that the words name. The judged class is class 1, her method 3. -/
namespace start1
open Jvm.ClassFile
def u (s : String) : CpInfo := .utf8 (stringToUtf16 s)
/-- a pool by its gaps: so many unusable entries, then the entry; so many at the end -/
def gap : Nat → List CpInfo → List CpInfo
  | 0, r => r
  | n + 1, r => .unusable :: gap n r
def poolList (es : List (Nat × CpInfo)) (last : Nat) : List CpInfo := es.foldr (fun e r => gap e.1 (e.2 :: r)) (gap last [])
def pool (es : List (Nat × CpInfo)) (last : Nat) : Array CpInfo := ⟨poolList es last⟩
def fileOf (pool : Array CpInfo) (this : Nat) (attrs : Array Attribute := #[]) (ms : Array MethodInfo := #[]) (fl : Nat := 33) (sup : Nat := 0) (ifs : Array Nat := #[]) (fds : Array FieldInfo := #[]) : ClassFile where
  minorVersion := 0
  majorVersion := 65
  constantPool := pool
  accessFlags := fl
  thisClass := this
  superClass := sup
  interfaces := ifs
  fields := fds
  methods := ms
  attributes := attrs
def plain (name : String) (sup : Option ClassId) : Class where
  name := name
  kind := .ordinary
  loader := none
  accessFlags := 33
  super := sup
  interfaces := #[]
  cf := none
  fields := #[]
  methods := #[]
  instanceTypes := #[]
  staticTypes := #[]
  resolved := #[]
  callSites := []
  init := .initialized
  statics := none
  mirror := none

def pool0 : Array CpInfo := pool [(5, u "<init>"), (0, u "()V"), (1, .class_ 10), (1, u "java/lang/Object")] 113

def k0m0 : Method := { name := "<init>", desc := "()V", sig := { parameters := [], returnType := none }, accessFlags := 1, code := none }
/-- java/lang/Object -/
def k0 : Class := { plain "java/lang/Object" none with
  accessFlags := 33
  interfaces := #[]
  cf := some (fileOf pool0 8 #[] #[{ accessFlags := 1, nameIndex := 5, descriptorIndex := 6, attributes := #[] }] 33 0 #[] #[])
  fields := #[]
  methods := #[k0m0]
  instanceTypes := #[]
  staticTypes := #[]
  resolved := Array.replicate 124 none
  statics := none }

def pool1 : Array CpInfo := pool [(2, .class_ 4), (1, u "java/lang/Object"), (0, u "<init>"), (0, u "()V"), (0, .integer 2147483647), (0, .fieldref 9 10), (0, .class_ 11), (0, .nameAndType 12 13), (0, u "com/example/nisc/nisc/BuildConfiguration$Truth"), (0, u "FALSE"), (0, u "Lcom/example/nisc/nisc/BuildConfiguration$Truth;"), (0, .fieldref 9 15), (0, .nameAndType 16 13), (0, u "UNDECIDED"), (0, .fieldref 9 18), (0, .nameAndType 19 13), (0, u "TRUE"), (0, .methodref 21 22), (0, .class_ 23), (0, .nameAndType 24 25), (0, u "com/example/nisc/nisc/TruthAndPinLaw"), (0, u "pick"), (0, u "(I)Lcom/example/nisc/nisc/BuildConfiguration$Truth;"), (0, .methodref 9 27), (0, .nameAndType 28 29), (0, u "and"), (0, u "(Lcom/example/nisc/nisc/BuildConfiguration$Truth;)Lcom/example/nisc/nisc/BuildConfiguration$Truth;"), (0, .methodref 21 31), (0, .nameAndType 32 33), (0, u "rank"), (0, u "(Lcom/example/nisc/nisc/BuildConfiguration$Truth;)I"), (0, .methodref 35 36), (0, .class_ 37), (0, .nameAndType 38 39), (0, u "java/lang/Math"), (0, u "min"), (0, u "(II)I"), (3, u "law"), (0, u "(II)Z")] 6

def k1m0 : Method := { name := "<init>", desc := "()V", sig := { parameters := [], returnType := none }, accessFlags := 2, code := none }
def k1c1 : Code := { maxStack := 2, maxLocals := 3, code := method_2_code, exceptionTable := #[], attributes := #[] }
def k1m1 : Method := { name := "pick", desc := "(I)Lcom/example/nisc/nisc/BuildConfiguration$Truth;", sig := { parameters := [.int], returnType := some (.object "com/example/nisc/nisc/BuildConfiguration$Truth") }, accessFlags := 10, code := some k1c1 }
def k1c2 : Code := { maxStack := 2, maxLocals := 2, code := method_3_code, exceptionTable := #[], attributes := #[] }
def k1m2 : Method := { name := "rank", desc := "(Lcom/example/nisc/nisc/BuildConfiguration$Truth;)I", sig := { parameters := [(.object "com/example/nisc/nisc/BuildConfiguration$Truth")], returnType := some .int }, accessFlags := 10, code := some k1c2 }
def k1c3 : Code := { maxStack := 2, maxLocals := 6, code := code, exceptionTable := #[], attributes := #[] }
def k1m3 : Method := { name := "law", desc := "(II)Z", sig := { parameters := [.int, .int], returnType := some .boolean }, accessFlags := 9, code := some k1c3 }
/-- com/example/nisc/nisc/TruthAndPinLaw -/
def k1 : Class := { plain "com/example/nisc/nisc/TruthAndPinLaw" (some 0) with
  accessFlags := 49
  interfaces := #[]
  cf := some (fileOf pool1 21 #[] #[{ accessFlags := 2, nameIndex := 5, descriptorIndex := 6, attributes := #[] }, { accessFlags := 10, nameIndex := 24, descriptorIndex := 25, attributes := #[] }, { accessFlags := 10, nameIndex := 32, descriptorIndex := 33, attributes := #[] }, { accessFlags := 9, nameIndex := 43, descriptorIndex := 44, attributes := #[] }] 49 2 #[] #[])
  fields := #[]
  methods := #[k1m0, k1m1, k1m2, k1m3]
  instanceTypes := #[]
  staticTypes := #[]
  resolved := Array.replicate 51 none
  statics := none }

def pool2 : Array CpInfo := pool [(1, .class_ 2), (0, u "java/lang/constant/Constable"), (0, .class_ 4), (0, u "java/lang/Object")] 6

/-- java/lang/constant/Constable -/
def k2 : Class := { plain "java/lang/constant/Constable" (some 0) with
  accessFlags := 1537
  interfaces := #[]
  cf := some (fileOf pool2 1 #[] #[] 1537 3 #[] #[])
  fields := #[]
  methods := #[]
  instanceTypes := #[]
  staticTypes := #[]
  resolved := Array.replicate 11 none
  statics := none }

def pool3 : Array CpInfo := pool [(1, .class_ 2), (0, u "java/lang/Comparable"), (0, .class_ 4), (0, u "java/lang/Object")] 7

/-- java/lang/Comparable -/
def k3 : Class := { plain "java/lang/Comparable" (some 0) with
  accessFlags := 1537
  interfaces := #[]
  cf := some (fileOf pool3 1 #[] #[] 1537 3 #[] #[])
  fields := #[]
  methods := #[]
  instanceTypes := #[]
  staticTypes := #[]
  resolved := Array.replicate 12 none
  statics := none }

def pool4 : Array CpInfo := pool [(1, .class_ 2), (0, u "java/io/Serializable"), (0, .class_ 4), (0, u "java/lang/Object")] 2

/-- java/io/Serializable -/
def k4 : Class := { plain "java/io/Serializable" (some 0) with
  accessFlags := 1537
  interfaces := #[]
  cf := some (fileOf pool4 1 #[] #[] 1537 3 #[] #[])
  fields := #[]
  methods := #[]
  instanceTypes := #[]
  staticTypes := #[]
  resolved := Array.replicate 7 none
  statics := none }

def pool5 : Array CpInfo := pool [(2, .class_ 4), (1, u "java/lang/Enum"), (0, u "name"), (0, u "Ljava/lang/String;"), (2, u "ordinal"), (0, u "I"), (1, .class_ 14), (1, u "java/lang/Object"), (4, u "hash"), (86, .class_ 108), (1, u "java/lang/Enum$EnumDesc"), (2, .class_ 112), (0, u "java/lang/constant/Constable"), (0, .class_ 114), (0, u "java/lang/Comparable"), (0, .class_ 116), (0, u "java/io/Serializable")] 87

/-- java/lang/Enum -/
def k5 : Class := { plain "java/lang/Enum" (some 0) with
  accessFlags := 1057
  interfaces := #[2, 3, 4]
  cf := some (fileOf pool5 2 #[.nestMembers #[106]] #[] 1057 12 #[111, 113, 115] #[{ accessFlags := 18, nameIndex := 5, descriptorIndex := 6, attributes := #[] }, { accessFlags := 18, nameIndex := 9, descriptorIndex := 10, attributes := #[] }, { accessFlags := 2, nameIndex := 19, descriptorIndex := 10, attributes := #[] }])
  fields := #[{ name := "name", type := (.object "java/lang/String"), accessFlags := 18, slot := 0, constantValue := 0 }, { name := "ordinal", type := .int, accessFlags := 18, slot := 1, constantValue := 0 }, { name := "hash", type := .int, accessFlags := 2, slot := 2, constantValue := 0 }]
  methods := #[]
  instanceTypes := #[(.object "java/lang/String"), .int, .int]
  staticTypes := #[]
  resolved := Array.replicate 204 none
  statics := none }

def pool6 : Array CpInfo := pool [(1, .class_ 2), (0, u "com/example/nisc/nisc/BuildConfiguration$Truth"), (0, .fieldref 1 4), (0, .nameAndType 5 6), (0, u "TRUE"), (0, u "Lcom/example/nisc/nisc/BuildConfiguration$Truth;"), (0, .fieldref 1 8), (0, .nameAndType 9 6), (0, u "FALSE"), (0, .fieldref 1 11), (0, .nameAndType 12 6), (0, u "UNDECIDED"), (2, u "$VALUES"), (0, u "[Lcom/example/nisc/nisc/BuildConfiguration$Truth;"), (6, .class_ 25), (1, u "java/lang/Enum"), (24, u "and"), (0, u "(Lcom/example/nisc/nisc/BuildConfiguration$Truth;)Lcom/example/nisc/nisc/BuildConfiguration$Truth;"), (6, .class_ 59), (0, u "com/example/nisc/nisc/BuildConfiguration")] 2

def k6c0 : Code := { maxStack := 2, maxLocals := 3, code := prog_9_method_5_code, exceptionTable := #[], attributes := #[] }
def k6m0 : Method := { name := "and", desc := "(Lcom/example/nisc/nisc/BuildConfiguration$Truth;)Lcom/example/nisc/nisc/BuildConfiguration$Truth;", sig := { parameters := [(.object "com/example/nisc/nisc/BuildConfiguration$Truth")], returnType := some (.object "com/example/nisc/nisc/BuildConfiguration$Truth") }, accessFlags := 0, code := some k6c0 }
/-- com/example/nisc/nisc/BuildConfiguration$Truth -/
def k6 : Class := { plain "com/example/nisc/nisc/BuildConfiguration$Truth" (some 5) with
  accessFlags := 16432
  interfaces := #[]
  cf := some (fileOf pool6 1 #[.nestHost 58] #[{ accessFlags := 0, nameIndex := 50, descriptorIndex := 51, attributes := #[] }] 16432 23 #[] #[{ accessFlags := 16409, nameIndex := 5, descriptorIndex := 6, attributes := #[] }, { accessFlags := 16409, nameIndex := 9, descriptorIndex := 6, attributes := #[] }, { accessFlags := 16409, nameIndex := 12, descriptorIndex := 6, attributes := #[] }, { accessFlags := 4122, nameIndex := 15, descriptorIndex := 16, attributes := #[] }])
  fields := #[{ name := "TRUE", type := (.object "com/example/nisc/nisc/BuildConfiguration$Truth"), accessFlags := 16409, slot := 0, constantValue := 0 }, { name := "FALSE", type := (.object "com/example/nisc/nisc/BuildConfiguration$Truth"), accessFlags := 16409, slot := 1, constantValue := 0 }, { name := "UNDECIDED", type := (.object "com/example/nisc/nisc/BuildConfiguration$Truth"), accessFlags := 16409, slot := 2, constantValue := 0 }, { name := "$VALUES", type := (.array (.object "com/example/nisc/nisc/BuildConfiguration$Truth")), accessFlags := 4122, slot := 3, constantValue := 0 }]
  methods := #[k6m0]
  instanceTypes := #[(.object "java/lang/String"), .int, .int]
  staticTypes := #[(.object "com/example/nisc/nisc/BuildConfiguration$Truth"), (.object "com/example/nisc/nisc/BuildConfiguration$Truth"), (.object "com/example/nisc/nisc/BuildConfiguration$Truth"), (.array (.object "com/example/nisc/nisc/BuildConfiguration$Truth"))]
  resolved := Array.replicate 62 none
  statics := some 0 }

def pool7 : Array CpInfo := pool [(1, .class_ 2), (0, u "java/lang/Math"), (1, .class_ 6), (1, u "java/lang/Object"), (0, u "<init>"), (0, u "()V"), (89, .class_ 100), (1, u "java/lang/Math$RandomNumberGeneratorHolder"), (71, u "negativeZeroFloatBits"), (0, u "J"), (2, u "negativeZeroDoubleBits"), (24, u "min"), (43, u "$assertionsDisabled"), (0, u "Z"), (88, u "(II)I"), (2, u "twoToTheDoubleScaleDown"), (0, u "D"), (4, u "twoToTheDoubleScaleUp"), (9, u "E"), (3, u "PI"), (2, u "TAU"), (2, u "DEGREES_TO_RADIANS"), (0, u "RADIANS_TO_DEGREES")] 94

def k7m0 : Method := { name := "<init>", desc := "()V", sig := { parameters := [], returnType := none }, accessFlags := 2, code := none }
def k7c1 : Code := { maxStack := 2, maxLocals := 2, code := jdk_29_method_69_code, exceptionTable := #[], attributes := #[] }
def k7m1 : Method := { name := "min", desc := "(II)I", sig := { parameters := [.int, .int], returnType := some .int }, accessFlags := 9, code := some k7c1 }
/-- java/lang/Math -/
def k7 : Class := { plain "java/lang/Math" (some 0) with
  accessFlags := 49
  interfaces := #[]
  cf := some (fileOf pool7 1 #[.nestMembers #[98]] #[{ accessFlags := 2, nameIndex := 7, descriptorIndex := 8, attributes := #[] }, { accessFlags := 9, nameIndex := 201, descriptorIndex := 335, attributes := #[] }] 49 4 #[] #[{ accessFlags := 25, nameIndex := 354, descriptorIndex := 339, attributes := #[] }, { accessFlags := 25, nameIndex := 358, descriptorIndex := 339, attributes := #[] }, { accessFlags := 25, nameIndex := 361, descriptorIndex := 339, attributes := #[] }, { accessFlags := 26, nameIndex := 364, descriptorIndex := 339, attributes := #[] }, { accessFlags := 26, nameIndex := 365, descriptorIndex := 339, attributes := #[] }, { accessFlags := 26, nameIndex := 172, descriptorIndex := 173, attributes := #[] }, { accessFlags := 26, nameIndex := 176, descriptorIndex := 173, attributes := #[] }, { accessFlags := 8, nameIndex := 344, descriptorIndex := 339, attributes := #[] }, { accessFlags := 8, nameIndex := 338, descriptorIndex := 339, attributes := #[] }, { accessFlags := 4120, nameIndex := 245, descriptorIndex := 246, attributes := #[] }])
  fields := #[{ name := "E", type := .double, accessFlags := 25, slot := 0, constantValue := 0 }, { name := "PI", type := .double, accessFlags := 25, slot := 1, constantValue := 0 }, { name := "TAU", type := .double, accessFlags := 25, slot := 2, constantValue := 0 }, { name := "DEGREES_TO_RADIANS", type := .double, accessFlags := 26, slot := 3, constantValue := 0 }, { name := "RADIANS_TO_DEGREES", type := .double, accessFlags := 26, slot := 4, constantValue := 0 }, { name := "negativeZeroFloatBits", type := .long, accessFlags := 26, slot := 5, constantValue := 0 }, { name := "negativeZeroDoubleBits", type := .long, accessFlags := 26, slot := 6, constantValue := 0 }, { name := "twoToTheDoubleScaleUp", type := .double, accessFlags := 8, slot := 7, constantValue := 0 }, { name := "twoToTheDoubleScaleDown", type := .double, accessFlags := 8, slot := 8, constantValue := 0 }, { name := "$assertionsDisabled", type := .boolean, accessFlags := 4120, slot := 9, constantValue := 0 }]
  methods := #[k7m0, k7m1]
  instanceTypes := #[]
  staticTypes := #[.double, .double, .double, .double, .double, .long, .long, .double, .double, .boolean]
  resolved := Array.replicate 460 none
  statics := none }

def pool8 : Array CpInfo := pool [(1, u "java/lang/Cloneable"), (0, .class_ 1), (0, u "java/lang/Object"), (0, .class_ 3)] 3

/-- java/lang/Cloneable -/
def k8 : Class := { plain "java/lang/Cloneable" (some 0) with
  accessFlags := 1537
  interfaces := #[]
  cf := some (fileOf pool8 2 #[] #[] 1537 4 #[] #[])
  fields := #[]
  methods := #[]
  instanceTypes := #[]
  staticTypes := #[]
  resolved := Array.replicate 8 none
  statics := none }

/-- the primitive byte -/
def k9 : Class := { plain "byte" none with kind := .primitive 'B', accessFlags := 0x411 }
/-- [B -/
def k10 : Class := { plain "[B" (some 0) with kind := .array 9 .byte, interfaces := #[8, 4], accessFlags := 1041 }

/-- the primitive int -/
def k11 : Class := { plain "int" none with kind := .primitive 'I', accessFlags := 0x411 }
/-- [I -/
def k12 : Class := { plain "[I" (some 0) with kind := .array 11 .int, interfaces := #[8, 4], accessFlags := 1041 }

def heap : Heap := #[{ cls := 6, slots := #[.ref 1, .ref 2, .ref 3, .null], vm := .statics 6 },
  { cls := 6, slots := #[.null, .int 0, .int 0], vm := .none },
  { cls := 6, slots := #[.null, .int 1, .int 0], vm := .none },
  { cls := 6, slots := #[.null, .int 2, .int 0], vm := .none }]
def classes : Array Class := #[k0, k1, k2, k3, k4, k5, k6, k7, k8, k9, k10, k11, k12]
def interned : List (Array UInt16 × Addr) := []
def slotsUsed : Nat := 13
def theMethod : MethodId := ⟨1, 3⟩
def args0 : Array Value := #[.int 5, .int 6]
def aboutOver (below : List Frame) : State where
  vm := { classes := classes, interned := interned.toArray }
  heap := heap
  slotsUsed := slotsUsed
  threads := #[{ frames := .invoking theMethod args0 :: below }]
def below0 : List Frame := [.native { method := ⟨0, 0⟩, args := #[] }]
def about1 : State := aboutOver below0
def p0 : Program := .bare "" "" ""
def e0 : Env := launch0.env 0 0 0
theorem w_frames : about1.frames = Frame.invoking theMethod args0 :: below0 := rfl
set_option maxRecDepth 65536 in
theorem w_args : argsFit about1.vm theMethod args0 = true := by decide +kernel
set_option maxRecDepth 65536 in
theorem w_heap : heapFits about1 = true := by decide +kernel
set_option maxRecDepth 65536 in
theorem w_runnable : about1.curStatus? = some .runnable := by decide +kernel
set_option maxRecDepth 65536 in
theorem w_alone : about1.alone = true := by decide +kernel
set_option maxRecDepth 65536 in
theorem w_named : about1.methodNamed? x = some theMethod := by decide +kernel
set_option maxRecDepth 65536 in
theorem w_hears : about1.hears theMethod below0 = true := by decide +kernel
set_option maxRecDepth 65536 in
theorem w_ripe : about1.ripe theMethod args0 below0 = true := by decide +kernel
theorem w_running : about1.status = .running := rfl
set_option maxRecDepth 65536 in
theorem w_room : about1.hasRoom e0.platform room_1 = true :=
  launch0.hasRoom_least _ room_1 (by decide +kernel) (by decide +kernel) (by decide +kernel) (by decide +kernel) (by decide +kernel) (by decide +kernel)
theorem allAtoms_all (ts : List Jvm.Cond) (a : Array Jvm.Value) (st : Jvm.State) : (allAtoms ts).before a st = ts.all (fun c => c.before a st) := by
  induction ts with
  | nil => rfl
  | cons c t ih =>
    show (Jvm.Cond.and c (allAtoms t)).before a st = _
    rw [Jvm.Cond.before_and, ih, List.all_cons]
def words1 : List Jvm.Cond := Jvm.Cond.code x code maxLocals ret :: tables_1
/-- a 'code' word, met by the world's own term for the bytes: nothing is compared byte by byte -/
theorem code_word {y : MethodName} {bytes : ByteArray} {mx : Nat} {rt : Option FieldType} {a : Array Value} {s : State} {m : MethodId} {meth : Method} {c : Code} (h1 : s.methodNamed? y = some m) (h2 : s.vm.method? m = some meth) (h3 : meth.code = some c) (h4 : c.code = bytes)
    (h5 : (c.maxLocals == mx && c.exceptionTable.isEmpty && decide (c.maxStack ≤ mostOperands) && decide (meth.sig.returnType = rt) && !meth.locks && decide (parseMethodDescriptor y.desc = some meth.sig)) = true) : (Jvm.Cond.code y bytes mx rt).before a s = true := by
  simp only [Bool.and_eq_true, beq_iff_eq, Bool.not_eq_true', decide_eq_true_eq] at h5
  obtain ⟨⟨⟨⟨⟨g1, g2⟩, g3⟩, g4⟩, g5⟩, g6⟩ := h5
  simp [Cond.before, Cond.holds, Cond.value, h1, h2, h3, h4, g1, g2, g3, g4, g5, g6]
def isCode : Jvm.Cond → Bool
  | .code _ _ _ _ => true
  | _ => false
theorem all_split {L : List Jvm.Cond} {P : Jvm.Cond → Bool} (h1 : L.all (fun c => isCode c || P c) = true) (h2 : ∀ c ∈ L.filter isCode, P c = true) : L.all P = true := by
  refine List.all_eq_true.mpr fun c hc => ?_
  have h := List.all_eq_true.mp h1 c hc
  rcases Bool.eq_false_or_eq_true (isCode c) with hi | hi
  · exact h2 c (List.mem_filter.mpr ⟨hc, hi⟩)
  · simpa [hi] using h
set_option maxRecDepth 65536 in
theorem w_c0 : (Jvm.Cond.code x code maxLocals ret).before args0 about1 = true := code_word (m := ⟨1, 3⟩) (meth := k1m3) (c := k1c3) (by decide +kernel) rfl rfl rfl (by decide +kernel)
set_option maxRecDepth 65536 in
theorem w_c1 : (Jvm.Cond.code ({ cls := "com/example/nisc/nisc/TruthAndPinLaw", name := "pick", desc := "(I)Lcom/example/nisc/nisc/BuildConfiguration$Truth;" } : Jvm.MethodName) method_2_code (3 : Nat) (Option.some (Jvm.ClassFile.FieldType.object "com/example/nisc/nisc/BuildConfiguration$Truth"))).before args0 about1 = true := code_word (m := ⟨1, 1⟩) (meth := k1m1) (c := k1c1) (by decide +kernel) rfl rfl rfl (by decide +kernel)
set_option maxRecDepth 65536 in
theorem w_c2 : (Jvm.Cond.code ({ cls := "com/example/nisc/nisc/BuildConfiguration$Truth", name := "and", desc := "(Lcom/example/nisc/nisc/BuildConfiguration$Truth;)Lcom/example/nisc/nisc/BuildConfiguration$Truth;" } : Jvm.MethodName) prog_9_method_5_code (3 : Nat) (Option.some (Jvm.ClassFile.FieldType.object "com/example/nisc/nisc/BuildConfiguration$Truth"))).before args0 about1 = true := code_word (m := ⟨6, 0⟩) (meth := k6m0) (c := k6c0) (by decide +kernel) rfl rfl rfl (by decide +kernel)
set_option maxRecDepth 65536 in
theorem w_c3 : (Jvm.Cond.code ({ cls := "com/example/nisc/nisc/TruthAndPinLaw", name := "rank", desc := "(Lcom/example/nisc/nisc/BuildConfiguration$Truth;)I" } : Jvm.MethodName) method_3_code (2 : Nat) (Option.some Jvm.ClassFile.FieldType.int)).before args0 about1 = true := code_word (m := ⟨1, 2⟩) (meth := k1m2) (c := k1c2) (by decide +kernel) rfl rfl rfl (by decide +kernel)
set_option maxRecDepth 65536 in
theorem w_c4 : (Jvm.Cond.code ({ cls := "java/lang/Math", name := "min", desc := "(II)I" } : Jvm.MethodName) jdk_29_method_69_code (2 : Nat) (Option.some Jvm.ClassFile.FieldType.int)).before args0 about1 = true := code_word (m := ⟨7, 1⟩) (meth := k7m1) (c := k7c1) (by decide +kernel) rfl rfl rfl (by decide +kernel)
def codes1 : List Jvm.Cond := [Jvm.Cond.code x code maxLocals ret, Jvm.Cond.code ({ cls := "com/example/nisc/nisc/TruthAndPinLaw", name := "pick", desc := "(I)Lcom/example/nisc/nisc/BuildConfiguration$Truth;" } : Jvm.MethodName) method_2_code (3 : Nat) (Option.some (Jvm.ClassFile.FieldType.object "com/example/nisc/nisc/BuildConfiguration$Truth")), Jvm.Cond.code ({ cls := "com/example/nisc/nisc/BuildConfiguration$Truth", name := "and", desc := "(Lcom/example/nisc/nisc/BuildConfiguration$Truth;)Lcom/example/nisc/nisc/BuildConfiguration$Truth;" } : Jvm.MethodName) prog_9_method_5_code (3 : Nat) (Option.some (Jvm.ClassFile.FieldType.object "com/example/nisc/nisc/BuildConfiguration$Truth")), Jvm.Cond.code ({ cls := "com/example/nisc/nisc/TruthAndPinLaw", name := "rank", desc := "(Lcom/example/nisc/nisc/BuildConfiguration$Truth;)I" } : Jvm.MethodName) method_3_code (2 : Nat) (Option.some Jvm.ClassFile.FieldType.int), Jvm.Cond.code ({ cls := "java/lang/Math", name := "min", desc := "(II)I" } : Jvm.MethodName) jdk_29_method_69_code (2 : Nat) (Option.some Jvm.ClassFile.FieldType.int)]
set_option maxRecDepth 65536 in
theorem codes_eq : words1.filter isCode = codes1 := rfl
theorem w_codes : ∀ c ∈ words1.filter isCode, c.before args0 about1 = true := by
  rw [codes_eq]
  intro c hc
  simp only [codes1, List.mem_cons, List.not_mem_nil, or_false] at hc
  rcases hc with rfl | rfl | rfl | rfl | rfl
  · exact w_c0
  · exact w_c1
  · exact w_c2
  · exact w_c3
  · exact w_c4
set_option maxRecDepth 65536 in
theorem w_t1 : (words1.take 24).all (fun c => isCode c || c.before args0 about1) = true := by decide +kernel
set_option maxRecDepth 65536 in
theorem w_t2 : (words1.drop 24).all (fun c => isCode c || c.before args0 about1) = true := by decide +kernel
theorem w_tables : (allAtoms (Jvm.Cond.code x code maxLocals ret :: tables_1)).before args0 about1 = true := by
  rw [allAtoms_all]
  show words1.all (fun c => c.before args0 about1) = true
  refine all_split ?_ w_codes
  rw [← List.take_append_drop 24 words1, List.all_append, w_t1, w_t2]
  rfl
set_option maxRecDepth 65536 in
theorem w_case : (Jvm.Cond.and given_1 narrow_1).before args0 about1 = true := by decide +kernel
theorem w_applies : (headSpec (Jvm.Cond.code x code maxLocals ret :: tables_1) room_1).applies x e0.platform about1 = true :=
  (Spec.applies_iff w_frames).mpr ⟨w_running, w_runnable, w_alone, w_named, w_hears, w_ripe, w_room, w_tables⟩
theorem atStart : AtStart classFile x code maxLocals ret World_1 tables_1 room_1 Calls_1 rest_1 Pre_1 launch0 p0 e0 about1 theMethod args0 below0 :=
  ⟨lists_1, trivial, launch0.admits_env _ _ _, launch0.least_env, fairChoices_fair.cas, fairChoices_fair.clock, w_frames, w_args, w_heap, w_applies, trivial, trivial, w_case⟩
end start1
theorem witness_1 : WitnessClaimed_1 := ⟨start1.p0, start1.e0, start1.about1, start1.theMethod, start1.args0, start1.below0, start1.atStart⟩
end Jvm.Pilot.@@N@@
