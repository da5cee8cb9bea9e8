import JvmDerived
import JvmDerived.Pilot.@@N@@Statement
import JvmDerived.Pilot.@@N@@Code
set_option linter.unusedVariables false
set_option linter.unusedSimpArgs false

namespace Jvm.RoadKit
open Sem ClassFile Op Lib Jvm.Stand Jvm.Free Jvm.LawKit
section New
variable {p : Program} {l : Launch} {e : Env} {R : Room} {s : State} {m : MethodId} {args : Array Value} {below : List Frame} {meth : Method} {c : Code} {T : State} {locs : List Loc} {cells slots : Nat}
theorem retI (X : Stand p l e R s m args below meth c T locs cells slots) (hx : p.tables.exec = Jvm.exec) {pc : Nat} {Ls : Array Slot} {z : Int32} {rest : List Value} (hret : meth.sig.returnType = some .int) (hd : decode c.code pc = .ok (.ireturn, 1)) {fs : List Frame}
    (hl : ∀ (f : JFrame) (acts : List Action), f.method = m → f.locked = none → f.entered = [] → (doReturn e (T.setTop f) acts (some (.int z))).1 = T.setFrames fs) : Steps p.tables e below (T.setTop (mkF m pc Ls (.int z :: rest))) (T.setFrames fs) := by
  have hm' : T.vm.method? m = some meth := X.method'
  have hn : narrow .int (.int z) = .int z := rfl
  show Steps p.tables e below (T.setTop { method := m, pc := pc, locals := Ls, stack := _ :: rest, locked := none }) _
  jvm_step X.here [X.here.top, hx, hd, hm', hret, hn]
  first | (intro acts; rw [hl _ acts rfl rfl rfl]) | rw [hl _ _ rfl rfl rfl]
  exact Steps.refl _
end New
end Jvm.RoadKit
namespace Jvm.Pilot.@@N@@
open Jvm Jvm.ClassFile Sem Op Lib Jvm.Free Jvm.Stand Jvm.LawKit Jvm.RoadKit Bundle Jvm.Pilot.@@N@@.Jvm.D
abbrev own_Goes (tb : Tables) (e : Env) (below : List Frame) (A : State) (R : State → Outcome → Prop) : Prop := ∃ s₂ o, Steps tb e below A s₂ ∧ R s₂ o
theorem own_go {tb : Tables} {e : Env} {below : List Frame} {A B : State} {R : State → Outcome → Prop} (f : ∀ t, Steps tb e below B t → Steps tb e below A t) (h : own_Goes tb e below B R) : own_Goes tb e below A R := by
  obtain ⟨s₂, o, h1, h2⟩ := h
  exact ⟨s₂, o, f _ h1, h2⟩
theorem d1_0 : decode method_2_code 0 = .ok (.iload_n 0, 1) := by decide +kernel
theorem d1_1 : decode method_2_code 1 = .ok (.iconst 3, 1) := by decide +kernel
theorem d1_2 : decode method_2_code 2 = .ok (.iand, 1) := by decide +kernel
theorem d1_3 : decode method_2_code 3 = .ok (.istore_n 1, 1) := by decide +kernel
theorem d1_4 : decode method_2_code 4 = .ok (.iload_n 1, 1) := by decide +kernel
theorem d1_5 : decode method_2_code 5 = .ok (.ifCond .ne 7, 3) := by decide +kernel
theorem d1_8 : decode method_2_code 8 = .ok (.getstatic 7, 3) := by decide +kernel
theorem d1_11 : decode method_2_code 11 = .ok (.areturn, 1) := by decide +kernel
theorem d1_12 : decode method_2_code 12 = .ok (.iload_n 1, 1) := by decide +kernel
theorem d1_13 : decode method_2_code 13 = .ok (.iconst 1, 1) := by decide +kernel
theorem d1_14 : decode method_2_code 14 = .ok (.if_icmp .ne 7, 3) := by decide +kernel
theorem d1_17 : decode method_2_code 17 = .ok (.getstatic 13, 3) := by decide +kernel
theorem d1_20 : decode method_2_code 20 = .ok (.areturn, 1) := by decide +kernel
theorem d1_21 : decode method_2_code 21 = .ok (.iload_n 1, 1) := by decide +kernel
theorem d1_22 : decode method_2_code 22 = .ok (.iconst 2, 1) := by decide +kernel
theorem d1_23 : decode method_2_code 23 = .ok (.if_icmp .ne 7, 3) := by decide +kernel
theorem d1_26 : decode method_2_code 26 = .ok (.getstatic 16, 3) := by decide +kernel
theorem d1_29 : decode method_2_code 29 = .ok (.areturn, 1) := by decide +kernel
theorem d1_30 : decode method_2_code 30 = .ok (.getstatic 19, 3) := by decide +kernel
theorem d1_33 : decode method_2_code 33 = .ok (.areturn, 1) := by decide +kernel
theorem pn_1 : plainName "com/example/loopwise/loopwise/frontend/TypeCommonPinLaw" = true := by first | (simp [plainName, overriddenIn]; done) | decide +kernel
theorem ef_1 (m : MethodId) (x0 : Int32) : entryFrame m #[(.int x0)] 2 = mkF m 0 #[.val (.int x0), .unset] [] := by first | (simp [entryFrame, mkF, argsToLocals, Value.category]; done) | rfl
def F1 (p0 : Int32) (aI : Addr) (aB : Addr) (aD : Addr) (aF : Addr) : Addr := if (p0 &&& (3 : Int32)) = (0 : Int32) then aI else if (p0 &&& (3 : Int32)) = (1 : Int32) then aF else if (p0 &&& (3 : Int32)) = (2 : Int32) then aD else aB
def Q1 (Z : State) (p0 : Int32) (aI : Addr) (aB : Addr) (aD : Addr) (aF : Addr) (h0 : Heap) (n0 : Nat) (v : Option Value) (h : Heap) (L : List Loc) : Prop := v = some (.ref (F1 p0 aI aB aD aF)) ∧ Fr n0 L ∧ h = h0
set_option maxRecDepth 65536 in
set_option maxHeartbeats 40000000 in
theorem rm1 (l : Launch) (Z : State) (a0 : Array Value) (hw : ∀ d ∈ tables_1, d.before a0 Z = true) (ws : List Jvm.Cond) (p0 : Int32) (aI : Addr) (aB : Addr) (aD : Addr) (aF : Addr) (h0 : Heap) (n0 : Nat) (S_INT : Sta Z h0 "com/example/loopwise/loopwise/frontend/Type" "INT" "Lcom/example/loopwise/loopwise/frontend/Type;" (.ref aI)) (S_BOOL : Sta Z h0 "com/example/loopwise/loopwise/frontend/Type" "BOOL" "Lcom/example/loopwise/loopwise/frontend/Type;" (.ref aB)) (S_DOUBLE : Sta Z h0 "com/example/loopwise/loopwise/frontend/Type" "DOUBLE" "Lcom/example/loopwise/loopwise/frontend/Type;" (.ref aD)) (S_FLOAT : Sta Z h0 "com/example/loopwise/loopwise/frontend/Type" "FLOAT" "Lcom/example/loopwise/loopwise/frontend/Type;" (.ref aF)) :
    MetFree l (⟨"com/example/loopwise/loopwise/frontend/TypeCommonPinLaw", "pick", "(I)Lcom/example/loopwise/loopwise/frontend/Type;"⟩ : MethodName) (head1 (Jvm.Cond.code (⟨"com/example/loopwise/loopwise/frontend/TypeCommonPinLaw", "pick", "(I)Lcom/example/loopwise/loopwise/frontend/Type;"⟩ : MethodName) method_2_code 2 (some (.object "com/example/loopwise/loopwise/frontend/Type")) :: ws) ({ frames := 0, cells := 0, slots := 0, locals := 0 } : Room)) (fun a U => a = #[(.int p0)] ∧ Z.Warmed39 U.vm ∧ U.heap = h0) (fun _ _ _ _ _ => True) (fun _ U o U' => ∃ v L, o = .returned v ∧ Q1 Z p0 aI aB aD aF h0 n0 v U'.heap L ∧ FrameEnd U o U' L ({ frames := 0, cells := 0, slots := 0, locals := 0 } : Room).cells ({ frames := 0, cells := 0, slots := 0, locals := 0 } : Room).slots) := by
  refine MetFree.of_bodySF (plainFor_of_name pn_1) hisR ?_
  intro p e s m args below meth c s₁ Bd hml0 hP hK
  obtain ⟨rfl, hZ, hh⟩ := hP
  have hx := Bd.exec
  have hby := Bd.bytes
  have hml : c.maxLocals = 2 := hml0
  have hown : s.vm.findClass "com/example/loopwise/loopwise/frontend/TypeCommonPinLaw" = some m.cls := findClass_of_methodNamed Bd.named
  have hnm := (name_of_methodNamed Bd.named Bd.method).1
  have X0 : Stand p l e ({ frames := 0, cells := 0, slots := 0, locals := 0 } : Room) s m #[(.int p0)] below meth c s₁ [] 0 0 := Stand.of_body Bd
  have e0 : s₁.heap = h0 := by rw [← hh, Bd.state]; rfl
  have N0 := Fr.nil n0
  refine own_go (B := (s₁.setTop (mkF m 0 #[.val (.int p0), .unset] []))) (fun t k => castTop (ef_1 m p0) k) ?_
  refine own_go (B := (s₁.setTop (mkF m 1 #[.val (.int p0), .unset] [(.int p0)]))) (fun t k => XS.iloadN X0.here hx rfl (hb hby d1_0) rfl k) ?_
  refine own_go (B := (s₁.setTop (mkF m 2 #[.val (.int p0), .unset] [(.int (3 : Int32)), (.int p0)]))) (fun t k => XS.iconst X0.here hx rfl (hb hby d1_1) k) ?_
  refine own_go (B := (s₁.setTop (mkF m 3 #[.val (.int p0), .unset] [(.int (p0 &&& (3 : Int32)))]))) (fun t k => XS.iand X0.here hx rfl (hb hby d1_2) rfl k) ?_
  refine own_go (B := (s₁.setTop (mkF m 4 #[.val (.int p0), .val (.int (p0 &&& (3 : Int32)))] []))) (fun t k => XS.istoreN X0.here hx rfl (hb hby d1_3) rfl (l' := #[.val (.int p0), .val (.int (p0 &&& (3 : Int32)))]) rfl k) ?_
  refine own_go (B := (s₁.setTop (mkF m 5 #[.val (.int p0), .val (.int (p0 &&& (3 : Int32)))] [(.int (p0 &&& (3 : Int32)))]))) (fun t k => XS.iloadN X0.here hx rfl (hb hby d1_4) rfl k) ?_
  by_cases hc5 : (p0 &&& (3 : Int32)) = (0 : Int32)
  · refine own_go (B := (s₁.setTop (mkF m 8 #[.val (.int p0), .val (.int (p0 &&& (3 : Int32)))] []))) (fun t k => XS.ifNo X0.here hx rfl (hb hby d1_5) rfl ((if0 _ _).trans (teq hc5).2) k) ?_
    obtain ⟨T1, X1, e1, st1⟩ := getS2 X0 hx hZ hown (host := "") (Or.inl (hw _ (List.mem_of_getElem? (i := 4) rfl))) Via.refl e0 S_INT (g := (mkF m 8 #[.val (.int p0), .val (.int (p0 &&& (3 : Int32)))] [])) rfl (hb hby d1_8)
    refine own_go (B := (T1.setTop (mkF m 11 #[.val (.int p0), .val (.int (p0 &&& (3 : Int32)))] [(.ref aI)]))) (fun t k => st1 _ k) ?_
    obtain ⟨fs, hr, hrun, hended, hW, hsame⟩ := X1.leave (v := some (.ref aI)) (fun h => by rw [Bd.returns] at h; cases h)
    exact ⟨_, _, X1.areturnOut hx rfl Bd.returns rfl (hb hby d1_11) hr, hrun, hended, _, _, rfl, ⟨congrArg (fun z => some (Value.ref z)) (by simp only [F1, if_pos hc5]), N0, e1⟩, ⟨_, rfl⟩, hW, hsame.mono (by decide) (by decide)⟩
  · refine own_go (B := (s₁.setTop (mkF m 12 #[.val (.int p0), .val (.int (p0 &&& (3 : Int32)))] []))) (fun t k => XS.ifYes X0.here hx rfl (pc0 := 5) (pc' := 12) rfl (hb hby d1_5) rfl ((if0 _ _).trans (feq hc5).2) (by decide) (by decide) k) ?_
    refine own_go (B := (s₁.setTop (mkF m 13 #[.val (.int p0), .val (.int (p0 &&& (3 : Int32)))] [(.int (p0 &&& (3 : Int32)))]))) (fun t k => XS.iloadN X0.here hx rfl (hb hby d1_12) rfl k) ?_
    refine own_go (B := (s₁.setTop (mkF m 14 #[.val (.int p0), .val (.int (p0 &&& (3 : Int32)))] [(.int (1 : Int32)), (.int (p0 &&& (3 : Int32)))]))) (fun t k => XS.iconst X0.here hx rfl (hb hby d1_13) k) ?_
    by_cases hc14 : (p0 &&& (3 : Int32)) = (1 : Int32)
    · refine own_go (B := (s₁.setTop (mkF m 17 #[.val (.int p0), .val (.int (p0 &&& (3 : Int32)))] []))) (fun t k => XS.icmpNo X0.here hx rfl (hb hby d1_14) rfl (teq hc14).2 k) ?_
      obtain ⟨T2, X2, e2, st2⟩ := getS2 X0 hx hZ hown (host := "") (Or.inl (hw _ (List.mem_of_getElem? (i := 21) rfl))) Via.refl e0 S_FLOAT (g := (mkF m 17 #[.val (.int p0), .val (.int (p0 &&& (3 : Int32)))] [])) rfl (hb hby d1_17)
      refine own_go (B := (T2.setTop (mkF m 20 #[.val (.int p0), .val (.int (p0 &&& (3 : Int32)))] [(.ref aF)]))) (fun t k => st2 _ k) ?_
      obtain ⟨fs, hr, hrun, hended, hW, hsame⟩ := X2.leave (v := some (.ref aF)) (fun h => by rw [Bd.returns] at h; cases h)
      exact ⟨_, _, X2.areturnOut hx rfl Bd.returns rfl (hb hby d1_20) hr, hrun, hended, _, _, rfl, ⟨congrArg (fun z => some (Value.ref z)) (by simp only [F1, if_neg hc5, if_pos hc14]), N0, e2⟩, ⟨_, rfl⟩, hW, hsame.mono (by decide) (by decide)⟩
    · refine own_go (B := (s₁.setTop (mkF m 21 #[.val (.int p0), .val (.int (p0 &&& (3 : Int32)))] []))) (fun t k => XS.icmpYes X0.here hx rfl (pc0 := 14) (pc' := 21) rfl (hb hby d1_14) rfl (feq hc14).2 (by decide) (by decide) k) ?_
      refine own_go (B := (s₁.setTop (mkF m 22 #[.val (.int p0), .val (.int (p0 &&& (3 : Int32)))] [(.int (p0 &&& (3 : Int32)))]))) (fun t k => XS.iloadN X0.here hx rfl (hb hby d1_21) rfl k) ?_
      refine own_go (B := (s₁.setTop (mkF m 23 #[.val (.int p0), .val (.int (p0 &&& (3 : Int32)))] [(.int (2 : Int32)), (.int (p0 &&& (3 : Int32)))]))) (fun t k => XS.iconst X0.here hx rfl (hb hby d1_22) k) ?_
      by_cases hc23 : (p0 &&& (3 : Int32)) = (2 : Int32)
      · refine own_go (B := (s₁.setTop (mkF m 26 #[.val (.int p0), .val (.int (p0 &&& (3 : Int32)))] []))) (fun t k => XS.icmpNo X0.here hx rfl (hb hby d1_23) rfl (teq hc23).2 k) ?_
        obtain ⟨T3, X3, e3, st3⟩ := getS2 X0 hx hZ hown (host := "") (Or.inl (hw _ (List.mem_of_getElem? (i := 20) rfl))) Via.refl e0 S_DOUBLE (g := (mkF m 26 #[.val (.int p0), .val (.int (p0 &&& (3 : Int32)))] [])) rfl (hb hby d1_26)
        refine own_go (B := (T3.setTop (mkF m 29 #[.val (.int p0), .val (.int (p0 &&& (3 : Int32)))] [(.ref aD)]))) (fun t k => st3 _ k) ?_
        obtain ⟨fs, hr, hrun, hended, hW, hsame⟩ := X3.leave (v := some (.ref aD)) (fun h => by rw [Bd.returns] at h; cases h)
        exact ⟨_, _, X3.areturnOut hx rfl Bd.returns rfl (hb hby d1_29) hr, hrun, hended, _, _, rfl, ⟨congrArg (fun z => some (Value.ref z)) (by simp only [F1, if_neg hc5, if_neg hc14, if_pos hc23]), N0, e3⟩, ⟨_, rfl⟩, hW, hsame.mono (by decide) (by decide)⟩
      · refine own_go (B := (s₁.setTop (mkF m 30 #[.val (.int p0), .val (.int (p0 &&& (3 : Int32)))] []))) (fun t k => XS.icmpYes X0.here hx rfl (pc0 := 23) (pc' := 30) rfl (hb hby d1_23) rfl (feq hc23).2 (by decide) (by decide) k) ?_
        obtain ⟨T4, X4, e4, st4⟩ := getS2 X0 hx hZ hown (host := "") (Or.inl (hw _ (List.mem_of_getElem? (i := 7) rfl))) Via.refl e0 S_BOOL (g := (mkF m 30 #[.val (.int p0), .val (.int (p0 &&& (3 : Int32)))] [])) rfl (hb hby d1_30)
        refine own_go (B := (T4.setTop (mkF m 33 #[.val (.int p0), .val (.int (p0 &&& (3 : Int32)))] [(.ref aB)]))) (fun t k => st4 _ k) ?_
        obtain ⟨fs, hr, hrun, hended, hW, hsame⟩ := X4.leave (v := some (.ref aB)) (fun h => by rw [Bd.returns] at h; cases h)
        exact ⟨_, _, X4.areturnOut hx rfl Bd.returns rfl (hb hby d1_33) hr, hrun, hended, _, _, rfl, ⟨congrArg (fun z => some (Value.ref z)) (by simp only [F1, if_neg hc5, if_neg hc14, if_neg hc23]), N0, e4⟩, ⟨_, rfl⟩, hW, hsame.mono (by decide) (by decide)⟩
theorem d2_0 : decode prog_344_method_10_code 0 = .ok (.aload_n 0, 1) := by decide +kernel
theorem d2_1 : decode prog_344_method_10_code 1 = .ok (.getstatic 10, 3) := by decide +kernel
theorem d2_4 : decode prog_344_method_10_code 4 = .ok (.if_acmp .eq 10, 3) := by decide +kernel
theorem d2_7 : decode prog_344_method_10_code 7 = .ok (.aload_n 1, 1) := by decide +kernel
theorem d2_8 : decode prog_344_method_10_code 8 = .ok (.getstatic 10, 3) := by decide +kernel
theorem d2_11 : decode prog_344_method_10_code 11 = .ok (.if_acmp .ne 7, 3) := by decide +kernel
theorem d2_14 : decode prog_344_method_10_code 14 = .ok (.getstatic 10, 3) := by decide +kernel
theorem d2_17 : decode prog_344_method_10_code 17 = .ok (.areturn, 1) := by decide +kernel
theorem d2_18 : decode prog_344_method_10_code 18 = .ok (.aload_n 0, 1) := by decide +kernel
theorem d2_19 : decode prog_344_method_10_code 19 = .ok (.getstatic 7, 3) := by decide +kernel
theorem d2_22 : decode prog_344_method_10_code 22 = .ok (.if_acmp .eq 10, 3) := by decide +kernel
theorem d2_25 : decode prog_344_method_10_code 25 = .ok (.aload_n 1, 1) := by decide +kernel
theorem d2_26 : decode prog_344_method_10_code 26 = .ok (.getstatic 7, 3) := by decide +kernel
theorem d2_29 : decode prog_344_method_10_code 29 = .ok (.if_acmp .ne 9, 3) := by decide +kernel
theorem d2_32 : decode prog_344_method_10_code 32 = .ok (.getstatic 7, 3) := by decide +kernel
theorem d2_35 : decode prog_344_method_10_code 35 = .ok (.goto 6, 3) := by decide +kernel
theorem d2_38 : decode prog_344_method_10_code 38 = .ok (.getstatic 3, 3) := by decide +kernel
theorem d2_41 : decode prog_344_method_10_code 41 = .ok (.areturn, 1) := by decide +kernel
theorem pn_2 : plainName "com/example/loopwise/loopwise/frontend/Type" = true := by first | (simp [plainName, overriddenIn]; done) | decide +kernel
theorem ef_2 (m : MethodId) (x0 : Addr) (x1 : Addr) : entryFrame m #[(.ref x0), (.ref x1)] 2 = mkF m 0 #[.val (.ref x0), .val (.ref x1)] [] := by first | (simp [entryFrame, mkF, argsToLocals, Value.category]; done) | rfl
def F2 (a0 : Addr) (a1 : Addr) (aI : Addr) (aB : Addr) (aD : Addr) (aF : Addr) : Addr := if a0 = aD then aD else if a1 = aD then aD else if a0 = aF then aF else if a1 = aF then aF else aI
def Q2 (Z : State) (a0 : Addr) (a1 : Addr) (aI : Addr) (aB : Addr) (aD : Addr) (aF : Addr) (h0 : Heap) (n0 : Nat) (v : Option Value) (h : Heap) (L : List Loc) : Prop := v = some (.ref (F2 a0 a1 aI aB aD aF)) ∧ Fr n0 L ∧ h = h0
set_option maxRecDepth 65536 in
set_option maxHeartbeats 40000000 in
theorem rm2 (l : Launch) (Z : State) (a0 : Array Value) (hw : ∀ d ∈ tables_1, d.before a0 Z = true) (ws : List Jvm.Cond) (a0 : Addr) (a1 : Addr) (aI : Addr) (aB : Addr) (aD : Addr) (aF : Addr) (h0 : Heap) (n0 : Nat) (S_INT : Sta Z h0 "com/example/loopwise/loopwise/frontend/Type" "INT" "Lcom/example/loopwise/loopwise/frontend/Type;" (.ref aI)) (S_BOOL : Sta Z h0 "com/example/loopwise/loopwise/frontend/Type" "BOOL" "Lcom/example/loopwise/loopwise/frontend/Type;" (.ref aB)) (S_DOUBLE : Sta Z h0 "com/example/loopwise/loopwise/frontend/Type" "DOUBLE" "Lcom/example/loopwise/loopwise/frontend/Type;" (.ref aD)) (S_FLOAT : Sta Z h0 "com/example/loopwise/loopwise/frontend/Type" "FLOAT" "Lcom/example/loopwise/loopwise/frontend/Type;" (.ref aF)) :
    MetFree l (⟨"com/example/loopwise/loopwise/frontend/Type", "common", "(Lcom/example/loopwise/loopwise/frontend/Type;Lcom/example/loopwise/loopwise/frontend/Type;)Lcom/example/loopwise/loopwise/frontend/Type;"⟩ : MethodName) (head1 (Jvm.Cond.code (⟨"com/example/loopwise/loopwise/frontend/Type", "common", "(Lcom/example/loopwise/loopwise/frontend/Type;Lcom/example/loopwise/loopwise/frontend/Type;)Lcom/example/loopwise/loopwise/frontend/Type;"⟩ : MethodName) prog_344_method_10_code 2 (some (.object "com/example/loopwise/loopwise/frontend/Type")) :: ws) ({ frames := 0, cells := 0, slots := 0, locals := 0 } : Room)) (fun a U => a = #[(.ref a0), (.ref a1)] ∧ Z.Warmed39 U.vm ∧ U.heap = h0) (fun _ _ _ _ _ => True) (fun _ U o U' => ∃ v L, o = .returned v ∧ Q2 Z a0 a1 aI aB aD aF h0 n0 v U'.heap L ∧ FrameEnd U o U' L ({ frames := 0, cells := 0, slots := 0, locals := 0 } : Room).cells ({ frames := 0, cells := 0, slots := 0, locals := 0 } : Room).slots) := by
  refine MetFree.of_bodySF (plainFor_of_name pn_2) hisR ?_
  intro p e s m args below meth c s₁ Bd hml0 hP hK
  obtain ⟨rfl, hZ, hh⟩ := hP
  have hx := Bd.exec
  have hby := Bd.bytes
  have hml : c.maxLocals = 2 := hml0
  have hown : s.vm.findClass "com/example/loopwise/loopwise/frontend/Type" = some m.cls := findClass_of_methodNamed Bd.named
  have hnm := (name_of_methodNamed Bd.named Bd.method).1
  have X0 : Stand p l e ({ frames := 0, cells := 0, slots := 0, locals := 0 } : Room) s m #[(.ref a0), (.ref a1)] below meth c s₁ [] 0 0 := Stand.of_body Bd
  have e0 : s₁.heap = h0 := by rw [← hh, Bd.state]; rfl
  have N0 := Fr.nil n0
  refine own_go (B := (s₁.setTop (mkF m 0 #[.val (.ref a0), .val (.ref a1)] []))) (fun t k => castTop (ef_2 m a0 a1) k) ?_
  refine own_go (B := (s₁.setTop (mkF m 1 #[.val (.ref a0), .val (.ref a1)] [(.ref a0)]))) (fun t k => XS.aloadN X0.here hx rfl (hb hby d2_0) rfl rfl k) ?_
  obtain ⟨T1, X1, e1, st1⟩ := getS2 X0 hx hZ hown (host := "") (Or.inl (hw _ (List.mem_of_getElem? (i := 12) rfl))) Via.refl e0 S_DOUBLE (g := (mkF m 1 #[.val (.ref a0), .val (.ref a1)] [(.ref a0)])) rfl (hb hby d2_1)
  refine own_go (B := (T1.setTop (mkF m 4 #[.val (.ref a0), .val (.ref a1)] [(.ref aD), (.ref a0)]))) (fun t k => st1 _ k) ?_
  by_cases hc4 : a0 = aD
  · refine own_go (B := (T1.setTop (mkF m 14 #[.val (.ref a0), .val (.ref a1)] []))) (fun t k => Jvm.RoadKit.acmp (g := (mkF m 4 #[.val (.ref a0), .val (.ref a1)] [(.ref aD), (.ref a0)])) X1 hx rfl rfl rfl (pc0 := 4) (pc' := 14) (same := true) rfl (hb hby d2_4) rfl (decide_eq_true (congrArg Value.ref hc4)) (by decide) (by decide) k) ?_
    obtain ⟨T2, X2, e2, st2⟩ := getS2 X1 hx hZ hown (host := "") (Or.inl (hw _ (List.mem_of_getElem? (i := 12) rfl))) Via.refl e1 S_DOUBLE (g := (mkF m 14 #[.val (.ref a0), .val (.ref a1)] [])) rfl (hb hby d2_14)
    refine own_go (B := (T2.setTop (mkF m 17 #[.val (.ref a0), .val (.ref a1)] [(.ref aD)]))) (fun t k => st2 _ k) ?_
    obtain ⟨fs, hr, hrun, hended, hW, hsame⟩ := X2.leave (v := some (.ref aD)) (fun h => by rw [Bd.returns] at h; cases h)
    exact ⟨_, _, X2.areturnOut hx rfl Bd.returns rfl (hb hby d2_17) hr, hrun, hended, _, _, rfl, ⟨congrArg (fun z => some (Value.ref z)) (by simp only [F2, if_pos hc4]), N0, e2⟩, ⟨_, rfl⟩, hW, hsame.mono (by decide) (by decide)⟩
  · refine own_go (B := (T1.setTop (mkF m 7 #[.val (.ref a0), .val (.ref a1)] []))) (fun t k => Jvm.RoadKit.acmp (g := (mkF m 4 #[.val (.ref a0), .val (.ref a1)] [(.ref aD), (.ref a0)])) X1 hx rfl rfl rfl (pc0 := 4) (pc' := 7) (same := false) rfl (hb hby d2_4) rfl (decide_eq_false fun q => hc4 (Value.ref.inj q)) (by decide) (by decide) k) ?_
    refine own_go (B := (T1.setTop (mkF m 8 #[.val (.ref a0), .val (.ref a1)] [(.ref a1)]))) (fun t k => XS.aloadN X1.here hx rfl (hb hby d2_7) rfl rfl k) ?_
    obtain ⟨T3, X3, e3, st3⟩ := getS2 X1 hx hZ hown (host := "") (Or.inl (hw _ (List.mem_of_getElem? (i := 12) rfl))) Via.refl e1 S_DOUBLE (g := (mkF m 8 #[.val (.ref a0), .val (.ref a1)] [(.ref a1)])) rfl (hb hby d2_8)
    refine own_go (B := (T3.setTop (mkF m 11 #[.val (.ref a0), .val (.ref a1)] [(.ref aD), (.ref a1)]))) (fun t k => st3 _ k) ?_
    by_cases hc11 : a1 = aD
    · refine own_go (B := (T3.setTop (mkF m 14 #[.val (.ref a0), .val (.ref a1)] []))) (fun t k => Jvm.RoadKit.acmp (g := (mkF m 11 #[.val (.ref a0), .val (.ref a1)] [(.ref aD), (.ref a1)])) X3 hx rfl rfl rfl (pc0 := 11) (pc' := 14) (same := true) rfl (hb hby d2_11) rfl (decide_eq_true (congrArg Value.ref hc11)) (by decide) (by decide) k) ?_
      obtain ⟨T4, X4, e4, st4⟩ := getS2 X3 hx hZ hown (host := "") (Or.inl (hw _ (List.mem_of_getElem? (i := 12) rfl))) Via.refl e3 S_DOUBLE (g := (mkF m 14 #[.val (.ref a0), .val (.ref a1)] [])) rfl (hb hby d2_14)
      refine own_go (B := (T4.setTop (mkF m 17 #[.val (.ref a0), .val (.ref a1)] [(.ref aD)]))) (fun t k => st4 _ k) ?_
      obtain ⟨fs, hr, hrun, hended, hW, hsame⟩ := X4.leave (v := some (.ref aD)) (fun h => by rw [Bd.returns] at h; cases h)
      exact ⟨_, _, X4.areturnOut hx rfl Bd.returns rfl (hb hby d2_17) hr, hrun, hended, _, _, rfl, ⟨congrArg (fun z => some (Value.ref z)) (by simp only [F2, if_neg hc4, if_pos hc11]), N0, e4⟩, ⟨_, rfl⟩, hW, hsame.mono (by decide) (by decide)⟩
    · refine own_go (B := (T3.setTop (mkF m 18 #[.val (.ref a0), .val (.ref a1)] []))) (fun t k => Jvm.RoadKit.acmp (g := (mkF m 11 #[.val (.ref a0), .val (.ref a1)] [(.ref aD), (.ref a1)])) X3 hx rfl rfl rfl (pc0 := 11) (pc' := 18) (same := false) rfl (hb hby d2_11) rfl (decide_eq_false fun q => hc11 (Value.ref.inj q)) (by decide) (by decide) k) ?_
      refine own_go (B := (T3.setTop (mkF m 19 #[.val (.ref a0), .val (.ref a1)] [(.ref a0)]))) (fun t k => XS.aloadN X3.here hx rfl (hb hby d2_18) rfl rfl k) ?_
      obtain ⟨T5, X5, e5, st5⟩ := getS2 X3 hx hZ hown (host := "") (Or.inl (hw _ (List.mem_of_getElem? (i := 14) rfl))) Via.refl e3 S_FLOAT (g := (mkF m 19 #[.val (.ref a0), .val (.ref a1)] [(.ref a0)])) rfl (hb hby d2_19)
      refine own_go (B := (T5.setTop (mkF m 22 #[.val (.ref a0), .val (.ref a1)] [(.ref aF), (.ref a0)]))) (fun t k => st5 _ k) ?_
      by_cases hc22 : a0 = aF
      · refine own_go (B := (T5.setTop (mkF m 32 #[.val (.ref a0), .val (.ref a1)] []))) (fun t k => Jvm.RoadKit.acmp (g := (mkF m 22 #[.val (.ref a0), .val (.ref a1)] [(.ref aF), (.ref a0)])) X5 hx rfl rfl rfl (pc0 := 22) (pc' := 32) (same := true) rfl (hb hby d2_22) rfl (decide_eq_true (congrArg Value.ref hc22)) (by decide) (by decide) k) ?_
        obtain ⟨T6, X6, e6, st6⟩ := getS2 X5 hx hZ hown (host := "") (Or.inl (hw _ (List.mem_of_getElem? (i := 14) rfl))) Via.refl e5 S_FLOAT (g := (mkF m 32 #[.val (.ref a0), .val (.ref a1)] [])) rfl (hb hby d2_32)
        refine own_go (B := (T6.setTop (mkF m 35 #[.val (.ref a0), .val (.ref a1)] [(.ref aF)]))) (fun t k => st6 _ k) ?_
        refine own_go (B := (T6.setTop (mkF m 41 #[.val (.ref a0), .val (.ref a1)] [(.ref aF)]))) (fun t k => XS.goto X6.here hx rfl (pc0 := 35) (pc' := 41) rfl (hb hby d2_35) (by decide) (by decide) k) ?_
        obtain ⟨fs, hr, hrun, hended, hW, hsame⟩ := X6.leave (v := some (.ref aF)) (fun h => by rw [Bd.returns] at h; cases h)
        exact ⟨_, _, X6.areturnOut hx rfl Bd.returns rfl (hb hby d2_41) hr, hrun, hended, _, _, rfl, ⟨congrArg (fun z => some (Value.ref z)) (by simp only [F2, if_neg hc4, if_neg hc11, if_pos hc22]), N0, e6⟩, ⟨_, rfl⟩, hW, hsame.mono (by decide) (by decide)⟩
      · refine own_go (B := (T5.setTop (mkF m 25 #[.val (.ref a0), .val (.ref a1)] []))) (fun t k => Jvm.RoadKit.acmp (g := (mkF m 22 #[.val (.ref a0), .val (.ref a1)] [(.ref aF), (.ref a0)])) X5 hx rfl rfl rfl (pc0 := 22) (pc' := 25) (same := false) rfl (hb hby d2_22) rfl (decide_eq_false fun q => hc22 (Value.ref.inj q)) (by decide) (by decide) k) ?_
        refine own_go (B := (T5.setTop (mkF m 26 #[.val (.ref a0), .val (.ref a1)] [(.ref a1)]))) (fun t k => XS.aloadN X5.here hx rfl (hb hby d2_25) rfl rfl k) ?_
        obtain ⟨T7, X7, e7, st7⟩ := getS2 X5 hx hZ hown (host := "") (Or.inl (hw _ (List.mem_of_getElem? (i := 14) rfl))) Via.refl e5 S_FLOAT (g := (mkF m 26 #[.val (.ref a0), .val (.ref a1)] [(.ref a1)])) rfl (hb hby d2_26)
        refine own_go (B := (T7.setTop (mkF m 29 #[.val (.ref a0), .val (.ref a1)] [(.ref aF), (.ref a1)]))) (fun t k => st7 _ k) ?_
        by_cases hc29 : a1 = aF
        · refine own_go (B := (T7.setTop (mkF m 32 #[.val (.ref a0), .val (.ref a1)] []))) (fun t k => Jvm.RoadKit.acmp (g := (mkF m 29 #[.val (.ref a0), .val (.ref a1)] [(.ref aF), (.ref a1)])) X7 hx rfl rfl rfl (pc0 := 29) (pc' := 32) (same := true) rfl (hb hby d2_29) rfl (decide_eq_true (congrArg Value.ref hc29)) (by decide) (by decide) k) ?_
          obtain ⟨T8, X8, e8, st8⟩ := getS2 X7 hx hZ hown (host := "") (Or.inl (hw _ (List.mem_of_getElem? (i := 14) rfl))) Via.refl e7 S_FLOAT (g := (mkF m 32 #[.val (.ref a0), .val (.ref a1)] [])) rfl (hb hby d2_32)
          refine own_go (B := (T8.setTop (mkF m 35 #[.val (.ref a0), .val (.ref a1)] [(.ref aF)]))) (fun t k => st8 _ k) ?_
          refine own_go (B := (T8.setTop (mkF m 41 #[.val (.ref a0), .val (.ref a1)] [(.ref aF)]))) (fun t k => XS.goto X8.here hx rfl (pc0 := 35) (pc' := 41) rfl (hb hby d2_35) (by decide) (by decide) k) ?_
          obtain ⟨fs, hr, hrun, hended, hW, hsame⟩ := X8.leave (v := some (.ref aF)) (fun h => by rw [Bd.returns] at h; cases h)
          exact ⟨_, _, X8.areturnOut hx rfl Bd.returns rfl (hb hby d2_41) hr, hrun, hended, _, _, rfl, ⟨congrArg (fun z => some (Value.ref z)) (by simp only [F2, if_neg hc4, if_neg hc11, if_neg hc22, if_pos hc29]), N0, e8⟩, ⟨_, rfl⟩, hW, hsame.mono (by decide) (by decide)⟩
        · refine own_go (B := (T7.setTop (mkF m 38 #[.val (.ref a0), .val (.ref a1)] []))) (fun t k => Jvm.RoadKit.acmp (g := (mkF m 29 #[.val (.ref a0), .val (.ref a1)] [(.ref aF), (.ref a1)])) X7 hx rfl rfl rfl (pc0 := 29) (pc' := 38) (same := false) rfl (hb hby d2_29) rfl (decide_eq_false fun q => hc29 (Value.ref.inj q)) (by decide) (by decide) k) ?_
          obtain ⟨T9, X9, e9, st9⟩ := getS2 X7 hx hZ hown (host := "") (Or.inl (hw _ (List.mem_of_getElem? (i := 16) rfl))) Via.refl e7 S_INT (g := (mkF m 38 #[.val (.ref a0), .val (.ref a1)] [])) rfl (hb hby d2_38)
          refine own_go (B := (T9.setTop (mkF m 41 #[.val (.ref a0), .val (.ref a1)] [(.ref aI)]))) (fun t k => st9 _ k) ?_
          obtain ⟨fs, hr, hrun, hended, hW, hsame⟩ := X9.leave (v := some (.ref aI)) (fun h => by rw [Bd.returns] at h; cases h)
          exact ⟨_, _, X9.areturnOut hx rfl Bd.returns rfl (hb hby d2_41) hr, hrun, hended, _, _, rfl, ⟨congrArg (fun z => some (Value.ref z)) (by simp only [F2, if_neg hc4, if_neg hc11, if_neg hc22, if_neg hc29]), N0, e9⟩, ⟨_, rfl⟩, hW, hsame.mono (by decide) (by decide)⟩
theorem d3_0 : decode method_3_code 0 = .ok (.aload_n 0, 1) := by decide +kernel
theorem d3_1 : decode method_3_code 1 = .ok (.getstatic 16, 3) := by decide +kernel
theorem d3_4 : decode method_3_code 4 = .ok (.if_acmp .ne 5, 3) := by decide +kernel
theorem d3_7 : decode method_3_code 7 = .ok (.iconst 2, 1) := by decide +kernel
theorem d3_8 : decode method_3_code 8 = .ok (.ireturn, 1) := by decide +kernel
theorem d3_9 : decode method_3_code 9 = .ok (.aload_n 0, 1) := by decide +kernel
theorem d3_10 : decode method_3_code 10 = .ok (.getstatic 13, 3) := by decide +kernel
theorem d3_13 : decode method_3_code 13 = .ok (.if_acmp .ne 5, 3) := by decide +kernel
theorem d3_16 : decode method_3_code 16 = .ok (.iconst 1, 1) := by decide +kernel
theorem d3_17 : decode method_3_code 17 = .ok (.ireturn, 1) := by decide +kernel
theorem d3_18 : decode method_3_code 18 = .ok (.iconst 0, 1) := by decide +kernel
theorem d3_19 : decode method_3_code 19 = .ok (.ireturn, 1) := by decide +kernel
theorem pn_3 : plainName "com/example/loopwise/loopwise/frontend/TypeCommonPinLaw" = true := by first | (simp [plainName, overriddenIn]; done) | decide +kernel
theorem ef_3 (m : MethodId) (x0 : Addr) : entryFrame m #[(.ref x0)] 1 = mkF m 0 #[.val (.ref x0)] [] := by first | (simp [entryFrame, mkF, argsToLocals, Value.category]; done) | rfl
def F3 (a0 : Addr) (aI : Addr) (aB : Addr) (aD : Addr) (aF : Addr) : Int32 := if a0 = aD then (2 : Int32) else if a0 = aF then (1 : Int32) else (0 : Int32)
def Q3 (Z : State) (a0 : Addr) (aI : Addr) (aB : Addr) (aD : Addr) (aF : Addr) (h0 : Heap) (n0 : Nat) (v : Option Value) (h : Heap) (L : List Loc) : Prop := v = some (.int (F3 a0 aI aB aD aF)) ∧ Fr n0 L ∧ h = h0
set_option maxRecDepth 65536 in
set_option maxHeartbeats 40000000 in
theorem rm3 (l : Launch) (Z : State) (a0 : Array Value) (hw : ∀ d ∈ tables_1, d.before a0 Z = true) (ws : List Jvm.Cond) (a0 : Addr) (aI : Addr) (aB : Addr) (aD : Addr) (aF : Addr) (h0 : Heap) (n0 : Nat) (S_INT : Sta Z h0 "com/example/loopwise/loopwise/frontend/Type" "INT" "Lcom/example/loopwise/loopwise/frontend/Type;" (.ref aI)) (S_BOOL : Sta Z h0 "com/example/loopwise/loopwise/frontend/Type" "BOOL" "Lcom/example/loopwise/loopwise/frontend/Type;" (.ref aB)) (S_DOUBLE : Sta Z h0 "com/example/loopwise/loopwise/frontend/Type" "DOUBLE" "Lcom/example/loopwise/loopwise/frontend/Type;" (.ref aD)) (S_FLOAT : Sta Z h0 "com/example/loopwise/loopwise/frontend/Type" "FLOAT" "Lcom/example/loopwise/loopwise/frontend/Type;" (.ref aF)) :
    MetFree l (⟨"com/example/loopwise/loopwise/frontend/TypeCommonPinLaw", "rank", "(Lcom/example/loopwise/loopwise/frontend/Type;)I"⟩ : MethodName) (head1 (Jvm.Cond.code (⟨"com/example/loopwise/loopwise/frontend/TypeCommonPinLaw", "rank", "(Lcom/example/loopwise/loopwise/frontend/Type;)I"⟩ : MethodName) method_3_code 1 (some .int) :: ws) ({ frames := 0, cells := 0, slots := 0, locals := 0 } : Room)) (fun a U => a = #[(.ref a0)] ∧ Z.Warmed39 U.vm ∧ U.heap = h0) (fun _ _ _ _ _ => True) (fun _ U o U' => ∃ v L, o = .returned v ∧ Q3 Z a0 aI aB aD aF h0 n0 v U'.heap L ∧ FrameEnd U o U' L ({ frames := 0, cells := 0, slots := 0, locals := 0 } : Room).cells ({ frames := 0, cells := 0, slots := 0, locals := 0 } : Room).slots) := by
  refine MetFree.of_bodySF (plainFor_of_name pn_3) hisR ?_
  intro p e s m args below meth c s₁ Bd hml0 hP hK
  obtain ⟨rfl, hZ, hh⟩ := hP
  have hx := Bd.exec
  have hby := Bd.bytes
  have hml : c.maxLocals = 1 := hml0
  have hown : s.vm.findClass "com/example/loopwise/loopwise/frontend/TypeCommonPinLaw" = some m.cls := findClass_of_methodNamed Bd.named
  have hnm := (name_of_methodNamed Bd.named Bd.method).1
  have X0 : Stand p l e ({ frames := 0, cells := 0, slots := 0, locals := 0 } : Room) s m #[(.ref a0)] below meth c s₁ [] 0 0 := Stand.of_body Bd
  have e0 : s₁.heap = h0 := by rw [← hh, Bd.state]; rfl
  have N0 := Fr.nil n0
  refine own_go (B := (s₁.setTop (mkF m 0 #[.val (.ref a0)] []))) (fun t k => castTop (ef_3 m a0) k) ?_
  refine own_go (B := (s₁.setTop (mkF m 1 #[.val (.ref a0)] [(.ref a0)]))) (fun t k => XS.aloadN X0.here hx rfl (hb hby d3_0) rfl rfl k) ?_
  obtain ⟨T1, X1, e1, st1⟩ := getS2 X0 hx hZ hown (host := "") (Or.inl (hw _ (List.mem_of_getElem? (i := 20) rfl))) Via.refl e0 S_DOUBLE (g := (mkF m 1 #[.val (.ref a0)] [(.ref a0)])) rfl (hb hby d3_1)
  refine own_go (B := (T1.setTop (mkF m 4 #[.val (.ref a0)] [(.ref aD), (.ref a0)]))) (fun t k => st1 _ k) ?_
  by_cases hc4 : a0 = aD
  · refine own_go (B := (T1.setTop (mkF m 7 #[.val (.ref a0)] []))) (fun t k => Jvm.RoadKit.acmp (g := (mkF m 4 #[.val (.ref a0)] [(.ref aD), (.ref a0)])) X1 hx rfl rfl rfl (pc0 := 4) (pc' := 7) (same := true) rfl (hb hby d3_4) rfl (decide_eq_true (congrArg Value.ref hc4)) (by decide) (by decide) k) ?_
    refine own_go (B := (T1.setTop (mkF m 8 #[.val (.ref a0)] [(.int (2 : Int32))]))) (fun t k => XS.iconst X1.here hx rfl (hb hby d3_7) k) ?_
    obtain ⟨fs, hr, hrun, hended, hW, hsame⟩ := X1.leave (v := some (.int (2 : Int32))) (fun h => by rw [Bd.returns] at h; cases h)
    exact ⟨_, _, retI X1 hx Bd.returns (hb hby d3_8) hr, hrun, hended, _, _, rfl, ⟨congrArg (fun z => some (Value.int z)) (by simp only [F3, if_pos hc4]), N0, e1⟩, ⟨_, rfl⟩, hW, hsame.mono (by decide) (by decide)⟩
  · refine own_go (B := (T1.setTop (mkF m 9 #[.val (.ref a0)] []))) (fun t k => Jvm.RoadKit.acmp (g := (mkF m 4 #[.val (.ref a0)] [(.ref aD), (.ref a0)])) X1 hx rfl rfl rfl (pc0 := 4) (pc' := 9) (same := false) rfl (hb hby d3_4) rfl (decide_eq_false fun q => hc4 (Value.ref.inj q)) (by decide) (by decide) k) ?_
    refine own_go (B := (T1.setTop (mkF m 10 #[.val (.ref a0)] [(.ref a0)]))) (fun t k => XS.aloadN X1.here hx rfl (hb hby d3_9) rfl rfl k) ?_
    obtain ⟨T2, X2, e2, st2⟩ := getS2 X1 hx hZ hown (host := "") (Or.inl (hw _ (List.mem_of_getElem? (i := 21) rfl))) Via.refl e1 S_FLOAT (g := (mkF m 10 #[.val (.ref a0)] [(.ref a0)])) rfl (hb hby d3_10)
    refine own_go (B := (T2.setTop (mkF m 13 #[.val (.ref a0)] [(.ref aF), (.ref a0)]))) (fun t k => st2 _ k) ?_
    by_cases hc13 : a0 = aF
    · refine own_go (B := (T2.setTop (mkF m 16 #[.val (.ref a0)] []))) (fun t k => Jvm.RoadKit.acmp (g := (mkF m 13 #[.val (.ref a0)] [(.ref aF), (.ref a0)])) X2 hx rfl rfl rfl (pc0 := 13) (pc' := 16) (same := true) rfl (hb hby d3_13) rfl (decide_eq_true (congrArg Value.ref hc13)) (by decide) (by decide) k) ?_
      refine own_go (B := (T2.setTop (mkF m 17 #[.val (.ref a0)] [(.int (1 : Int32))]))) (fun t k => XS.iconst X2.here hx rfl (hb hby d3_16) k) ?_
      obtain ⟨fs, hr, hrun, hended, hW, hsame⟩ := X2.leave (v := some (.int (1 : Int32))) (fun h => by rw [Bd.returns] at h; cases h)
      exact ⟨_, _, retI X2 hx Bd.returns (hb hby d3_17) hr, hrun, hended, _, _, rfl, ⟨congrArg (fun z => some (Value.int z)) (by simp only [F3, if_neg hc4, if_pos hc13]), N0, e2⟩, ⟨_, rfl⟩, hW, hsame.mono (by decide) (by decide)⟩
    · refine own_go (B := (T2.setTop (mkF m 18 #[.val (.ref a0)] []))) (fun t k => Jvm.RoadKit.acmp (g := (mkF m 13 #[.val (.ref a0)] [(.ref aF), (.ref a0)])) X2 hx rfl rfl rfl (pc0 := 13) (pc' := 18) (same := false) rfl (hb hby d3_13) rfl (decide_eq_false fun q => hc13 (Value.ref.inj q)) (by decide) (by decide) k) ?_
      refine own_go (B := (T2.setTop (mkF m 19 #[.val (.ref a0)] [(.int (0 : Int32))]))) (fun t k => XS.iconst X2.here hx rfl (hb hby d3_18) k) ?_
      obtain ⟨fs, hr, hrun, hended, hW, hsame⟩ := X2.leave (v := some (.int (0 : Int32))) (fun h => by rw [Bd.returns] at h; cases h)
      exact ⟨_, _, retI X2 hx Bd.returns (hb hby d3_19) hr, hrun, hended, _, _, rfl, ⟨congrArg (fun z => some (Value.int z)) (by simp only [F3, if_neg hc4, if_neg hc13]), N0, e2⟩, ⟨_, rfl⟩, hW, hsame.mono (by decide) (by decide)⟩
theorem d5_0 : decode method_4_code 0 = .ok (.iload_n 0, 1) := by decide +kernel
theorem d5_1 : decode method_4_code 1 = .ok (.iconst 2, 1) := by decide +kernel
theorem d5_2 : decode method_4_code 2 = .ok (.if_icmp .ne 7, 3) := by decide +kernel
theorem d5_5 : decode method_4_code 5 = .ok (.getstatic 16, 3) := by decide +kernel
theorem d5_8 : decode method_4_code 8 = .ok (.areturn, 1) := by decide +kernel
theorem d5_9 : decode method_4_code 9 = .ok (.iload_n 0, 1) := by decide +kernel
theorem d5_10 : decode method_4_code 10 = .ok (.iconst 1, 1) := by decide +kernel
theorem d5_11 : decode method_4_code 11 = .ok (.if_icmp .ne 7, 3) := by decide +kernel
theorem d5_14 : decode method_4_code 14 = .ok (.getstatic 13, 3) := by decide +kernel
theorem d5_17 : decode method_4_code 17 = .ok (.areturn, 1) := by decide +kernel
theorem d5_18 : decode method_4_code 18 = .ok (.getstatic 7, 3) := by decide +kernel
theorem d5_21 : decode method_4_code 21 = .ok (.areturn, 1) := by decide +kernel
theorem pn_5 : plainName "com/example/loopwise/loopwise/frontend/TypeCommonPinLaw" = true := by first | (simp [plainName, overriddenIn]; done) | decide +kernel
theorem ef_5 (m : MethodId) (x0 : Int32) : entryFrame m #[(.int x0)] 1 = mkF m 0 #[.val (.int x0)] [] := by first | (simp [entryFrame, mkF, argsToLocals, Value.category]; done) | rfl
def F5 (p0 : Int32) (aI : Addr) (aB : Addr) (aD : Addr) (aF : Addr) : Addr := if p0 = (2 : Int32) then aD else if p0 = (1 : Int32) then aF else aI
def Q5 (Z : State) (p0 : Int32) (aI : Addr) (aB : Addr) (aD : Addr) (aF : Addr) (h0 : Heap) (n0 : Nat) (v : Option Value) (h : Heap) (L : List Loc) : Prop := v = some (.ref (F5 p0 aI aB aD aF)) ∧ Fr n0 L ∧ h = h0
set_option maxRecDepth 65536 in
set_option maxHeartbeats 40000000 in
theorem rm5 (l : Launch) (Z : State) (a0 : Array Value) (hw : ∀ d ∈ tables_1, d.before a0 Z = true) (ws : List Jvm.Cond) (p0 : Int32) (aI : Addr) (aB : Addr) (aD : Addr) (aF : Addr) (h0 : Heap) (n0 : Nat) (S_INT : Sta Z h0 "com/example/loopwise/loopwise/frontend/Type" "INT" "Lcom/example/loopwise/loopwise/frontend/Type;" (.ref aI)) (S_BOOL : Sta Z h0 "com/example/loopwise/loopwise/frontend/Type" "BOOL" "Lcom/example/loopwise/loopwise/frontend/Type;" (.ref aB)) (S_DOUBLE : Sta Z h0 "com/example/loopwise/loopwise/frontend/Type" "DOUBLE" "Lcom/example/loopwise/loopwise/frontend/Type;" (.ref aD)) (S_FLOAT : Sta Z h0 "com/example/loopwise/loopwise/frontend/Type" "FLOAT" "Lcom/example/loopwise/loopwise/frontend/Type;" (.ref aF)) :
    MetFree l (⟨"com/example/loopwise/loopwise/frontend/TypeCommonPinLaw", "ofRank", "(I)Lcom/example/loopwise/loopwise/frontend/Type;"⟩ : MethodName) (head1 (Jvm.Cond.code (⟨"com/example/loopwise/loopwise/frontend/TypeCommonPinLaw", "ofRank", "(I)Lcom/example/loopwise/loopwise/frontend/Type;"⟩ : MethodName) method_4_code 1 (some (.object "com/example/loopwise/loopwise/frontend/Type")) :: ws) ({ frames := 0, cells := 0, slots := 0, locals := 0 } : Room)) (fun a U => a = #[(.int p0)] ∧ Z.Warmed39 U.vm ∧ U.heap = h0) (fun _ _ _ _ _ => True) (fun _ U o U' => ∃ v L, o = .returned v ∧ Q5 Z p0 aI aB aD aF h0 n0 v U'.heap L ∧ FrameEnd U o U' L ({ frames := 0, cells := 0, slots := 0, locals := 0 } : Room).cells ({ frames := 0, cells := 0, slots := 0, locals := 0 } : Room).slots) := by
  refine MetFree.of_bodySF (plainFor_of_name pn_5) hisR ?_
  intro p e s m args below meth c s₁ Bd hml0 hP hK
  obtain ⟨rfl, hZ, hh⟩ := hP
  have hx := Bd.exec
  have hby := Bd.bytes
  have hml : c.maxLocals = 1 := hml0
  have hown : s.vm.findClass "com/example/loopwise/loopwise/frontend/TypeCommonPinLaw" = some m.cls := findClass_of_methodNamed Bd.named
  have hnm := (name_of_methodNamed Bd.named Bd.method).1
  have X0 : Stand p l e ({ frames := 0, cells := 0, slots := 0, locals := 0 } : Room) s m #[(.int p0)] below meth c s₁ [] 0 0 := Stand.of_body Bd
  have e0 : s₁.heap = h0 := by rw [← hh, Bd.state]; rfl
  have N0 := Fr.nil n0
  refine own_go (B := (s₁.setTop (mkF m 0 #[.val (.int p0)] []))) (fun t k => castTop (ef_5 m p0) k) ?_
  refine own_go (B := (s₁.setTop (mkF m 1 #[.val (.int p0)] [(.int p0)]))) (fun t k => XS.iloadN X0.here hx rfl (hb hby d5_0) rfl k) ?_
  refine own_go (B := (s₁.setTop (mkF m 2 #[.val (.int p0)] [(.int (2 : Int32)), (.int p0)]))) (fun t k => XS.iconst X0.here hx rfl (hb hby d5_1) k) ?_
  by_cases hc2 : p0 = (2 : Int32)
  · refine own_go (B := (s₁.setTop (mkF m 5 #[.val (.int p0)] []))) (fun t k => XS.icmpNo X0.here hx rfl (hb hby d5_2) rfl (teq hc2).2 k) ?_
    obtain ⟨T1, X1, e1, st1⟩ := getS2 X0 hx hZ hown (host := "") (Or.inl (hw _ (List.mem_of_getElem? (i := 20) rfl))) Via.refl e0 S_DOUBLE (g := (mkF m 5 #[.val (.int p0)] [])) rfl (hb hby d5_5)
    refine own_go (B := (T1.setTop (mkF m 8 #[.val (.int p0)] [(.ref aD)]))) (fun t k => st1 _ k) ?_
    obtain ⟨fs, hr, hrun, hended, hW, hsame⟩ := X1.leave (v := some (.ref aD)) (fun h => by rw [Bd.returns] at h; cases h)
    exact ⟨_, _, X1.areturnOut hx rfl Bd.returns rfl (hb hby d5_8) hr, hrun, hended, _, _, rfl, ⟨congrArg (fun z => some (Value.ref z)) (by simp only [F5, if_pos hc2]), N0, e1⟩, ⟨_, rfl⟩, hW, hsame.mono (by decide) (by decide)⟩
  · refine own_go (B := (s₁.setTop (mkF m 9 #[.val (.int p0)] []))) (fun t k => XS.icmpYes X0.here hx rfl (pc0 := 2) (pc' := 9) rfl (hb hby d5_2) rfl (feq hc2).2 (by decide) (by decide) k) ?_
    refine own_go (B := (s₁.setTop (mkF m 10 #[.val (.int p0)] [(.int p0)]))) (fun t k => XS.iloadN X0.here hx rfl (hb hby d5_9) rfl k) ?_
    refine own_go (B := (s₁.setTop (mkF m 11 #[.val (.int p0)] [(.int (1 : Int32)), (.int p0)]))) (fun t k => XS.iconst X0.here hx rfl (hb hby d5_10) k) ?_
    by_cases hc11 : p0 = (1 : Int32)
    · refine own_go (B := (s₁.setTop (mkF m 14 #[.val (.int p0)] []))) (fun t k => XS.icmpNo X0.here hx rfl (hb hby d5_11) rfl (teq hc11).2 k) ?_
      obtain ⟨T2, X2, e2, st2⟩ := getS2 X0 hx hZ hown (host := "") (Or.inl (hw _ (List.mem_of_getElem? (i := 21) rfl))) Via.refl e0 S_FLOAT (g := (mkF m 14 #[.val (.int p0)] [])) rfl (hb hby d5_14)
      refine own_go (B := (T2.setTop (mkF m 17 #[.val (.int p0)] [(.ref aF)]))) (fun t k => st2 _ k) ?_
      obtain ⟨fs, hr, hrun, hended, hW, hsame⟩ := X2.leave (v := some (.ref aF)) (fun h => by rw [Bd.returns] at h; cases h)
      exact ⟨_, _, X2.areturnOut hx rfl Bd.returns rfl (hb hby d5_17) hr, hrun, hended, _, _, rfl, ⟨congrArg (fun z => some (Value.ref z)) (by simp only [F5, if_neg hc2, if_pos hc11]), N0, e2⟩, ⟨_, rfl⟩, hW, hsame.mono (by decide) (by decide)⟩
    · refine own_go (B := (s₁.setTop (mkF m 18 #[.val (.int p0)] []))) (fun t k => XS.icmpYes X0.here hx rfl (pc0 := 11) (pc' := 18) rfl (hb hby d5_11) rfl (feq hc11).2 (by decide) (by decide) k) ?_
      obtain ⟨T3, X3, e3, st3⟩ := getS2 X0 hx hZ hown (host := "") (Or.inl (hw _ (List.mem_of_getElem? (i := 4) rfl))) Via.refl e0 S_INT (g := (mkF m 18 #[.val (.int p0)] [])) rfl (hb hby d5_18)
      refine own_go (B := (T3.setTop (mkF m 21 #[.val (.int p0)] [(.ref aI)]))) (fun t k => st3 _ k) ?_
      obtain ⟨fs, hr, hrun, hended, hW, hsame⟩ := X3.leave (v := some (.ref aI)) (fun h => by rw [Bd.returns] at h; cases h)
      exact ⟨_, _, X3.areturnOut hx rfl Bd.returns rfl (hb hby d5_21) hr, hrun, hended, _, _, rfl, ⟨congrArg (fun z => some (Value.ref z)) (by simp only [F5, if_neg hc2, if_neg hc11]), N0, e3⟩, ⟨_, rfl⟩, hW, hsame.mono (by decide) (by decide)⟩
theorem d4_0 : decode jdk_29_method_65_code 0 = .ok (.iload_n 0, 1) := by decide +kernel
theorem d4_1 : decode jdk_29_method_65_code 1 = .ok (.iload_n 1, 1) := by decide +kernel
theorem d4_2 : decode jdk_29_method_65_code 2 = .ok (.if_icmp .lt 7, 3) := by decide +kernel
theorem d4_5 : decode jdk_29_method_65_code 5 = .ok (.iload_n 0, 1) := by decide +kernel
theorem d4_6 : decode jdk_29_method_65_code 6 = .ok (.goto 4, 3) := by decide +kernel
theorem d4_9 : decode jdk_29_method_65_code 9 = .ok (.iload_n 1, 1) := by decide +kernel
theorem d4_10 : decode jdk_29_method_65_code 10 = .ok (.ireturn, 1) := by decide +kernel
theorem pn_4 : plainFor (⟨"java/lang/Math", "max", "(II)I"⟩ : MethodName) = true := by decide +kernel
theorem ef_4 (m : MethodId) (x0 : Int32) (x1 : Int32) : entryFrame m #[(.int x0), (.int x1)] 2 = mkF m 0 #[.val (.int x0), .val (.int x1)] [] := by first | (simp [entryFrame, mkF, argsToLocals, Value.category]; done) | rfl
def F4 (p0 : Int32) (p1 : Int32)  : Int32 := if p0 < p1 then p1 else p0
def Q4 (Z : State) (p0 : Int32) (p1 : Int32)  (h0 : Heap) (n0 : Nat) (v : Option Value) (h : Heap) (L : List Loc) : Prop := v = some (.int (F4 p0 p1)) ∧ Fr n0 L ∧ h = h0
set_option maxRecDepth 65536 in
set_option maxHeartbeats 40000000 in
theorem rm4 (l : Launch) (Z : State) (a0 : Array Value) (hw : ∀ d ∈ tables_1, d.before a0 Z = true) (ws : List Jvm.Cond) (p0 : Int32) (p1 : Int32)  (h0 : Heap) (n0 : Nat)  :
    MetFree l (⟨"java/lang/Math", "max", "(II)I"⟩ : MethodName) (head1 (Jvm.Cond.code (⟨"java/lang/Math", "max", "(II)I"⟩ : MethodName) jdk_29_method_65_code 2 (some .int) :: ws) ({ frames := 0, cells := 0, slots := 0, locals := 0 } : Room)) (fun a U => a = #[(.int p0), (.int p1)] ∧ Z.Warmed39 U.vm ∧ U.heap = h0) (fun _ _ _ _ _ => True) (fun _ U o U' => ∃ v L, o = .returned v ∧ Q4 Z p0 p1  h0 n0 v U'.heap L ∧ FrameEnd U o U' L ({ frames := 0, cells := 0, slots := 0, locals := 0 } : Room).cells ({ frames := 0, cells := 0, slots := 0, locals := 0 } : Room).slots) := by
  refine MetFree.of_bodySF pn_4 hisR ?_
  intro p e s m args below meth c s₁ Bd hml0 hP hK
  obtain ⟨rfl, hZ, hh⟩ := hP
  have hx := Bd.exec
  have hby := Bd.bytes
  have hml : c.maxLocals = 2 := hml0
  have hown : s.vm.findClass "java/lang/Math" = some m.cls := findClass_of_methodNamed Bd.named
  have hnm := (name_of_methodNamed Bd.named Bd.method).1
  have X0 : Stand p l e ({ frames := 0, cells := 0, slots := 0, locals := 0 } : Room) s m #[(.int p0), (.int p1)] below meth c s₁ [] 0 0 := Stand.of_body Bd
  have e0 : s₁.heap = h0 := by rw [← hh, Bd.state]; rfl
  have N0 := Fr.nil n0
  refine own_go (B := (s₁.setTop (mkF m 0 #[.val (.int p0), .val (.int p1)] []))) (fun t k => castTop (ef_4 m p0 p1) k) ?_
  refine own_go (B := (s₁.setTop (mkF m 1 #[.val (.int p0), .val (.int p1)] [(.int p0)]))) (fun t k => XS.iloadN X0.here hx rfl (hb hby d4_0) rfl k) ?_
  refine own_go (B := (s₁.setTop (mkF m 2 #[.val (.int p0), .val (.int p1)] [(.int p1), (.int p0)]))) (fun t k => XS.iloadN X0.here hx rfl (hb hby d4_1) rfl k) ?_
  by_cases hc2 : p0 < p1
  · refine own_go (B := (s₁.setTop (mkF m 9 #[.val (.int p0), .val (.int p1)] []))) (fun t k => XS.icmpYes X0.here hx rfl (pc0 := 2) (pc' := 9) rfl (hb hby d4_2) rfl (tlt hc2).1 (by decide) (by decide) k) ?_
    refine own_go (B := (s₁.setTop (mkF m 10 #[.val (.int p0), .val (.int p1)] [(.int p1)]))) (fun t k => XS.iloadN X0.here hx rfl (hb hby d4_9) rfl k) ?_
    obtain ⟨fs, hr, hrun, hended, hW, hsame⟩ := X0.leave (v := some (.int p1)) (fun h => by rw [Bd.returns] at h; cases h)
    exact ⟨_, _, retI X0 hx Bd.returns (hb hby d4_10) hr, hrun, hended, _, _, rfl, ⟨congrArg (fun z => some (Value.int z)) (by simp only [F4, if_pos hc2]), N0, e0⟩, ⟨_, rfl⟩, hW, hsame.mono (by decide) (by decide)⟩
  · refine own_go (B := (s₁.setTop (mkF m 5 #[.val (.int p0), .val (.int p1)] []))) (fun t k => XS.icmpNo X0.here hx rfl (hb hby d4_2) rfl (flt hc2).1 k) ?_
    refine own_go (B := (s₁.setTop (mkF m 6 #[.val (.int p0), .val (.int p1)] [(.int p0)]))) (fun t k => XS.iloadN X0.here hx rfl (hb hby d4_5) rfl k) ?_
    refine own_go (B := (s₁.setTop (mkF m 10 #[.val (.int p0), .val (.int p1)] [(.int p0)]))) (fun t k => XS.goto X0.here hx rfl (pc0 := 6) (pc' := 10) rfl (hb hby d4_6) (by decide) (by decide) k) ?_
    obtain ⟨fs, hr, hrun, hended, hW, hsame⟩ := X0.leave (v := some (.int p0)) (fun h => by rw [Bd.returns] at h; cases h)
    exact ⟨_, _, retI X0 hx Bd.returns (hb hby d4_10) hr, hrun, hended, _, _, rfl, ⟨congrArg (fun z => some (Value.int z)) (by simp only [F4, if_neg hc2]), N0, e0⟩, ⟨_, rfl⟩, hW, hsame.mono (by decide) (by decide)⟩
theorem own_law (x y : Int32) (aI aB aD aF : Addr) (hID : aI ≠ aD) (hIF : aI ≠ aF) (hFD : aF ≠ aD) (hBD : aB ≠ aD) (hBF : aB ≠ aF) :
    F2 (F1 x aI aB aD aF) (F1 y aI aB aD aF) aI aB aD aF = F5 (F4 (F3 (F1 x aI aB aD aF) aI aB aD aF) (F3 (F1 y aI aB aD aF) aI aB aD aF)) aI aB aD aF := by
  have hp : ∀ z : Int32, F1 z aI aB aD aF = aI ∨ F1 z aI aB aD aF = aF ∨ F1 z aI aB aD aF = aD ∨ F1 z aI aB aD aF = aB := by
    intro z
    unfold F1
    split
    · exact Or.inl rfl
    · split
      · exact Or.inr (Or.inl rfl)
      · split
        · exact Or.inr (Or.inr (Or.inl rfl))
        · exact Or.inr (Or.inr (Or.inr rfl))
  rcases hp x with h | h | h | h <;> rcases hp y with g | g | g | g <;> rw [h, g] <;>
    simp [F2, F3, F4, F5, hID, hIF, hFD, hBD, hBF, hFD.symm]
theorem pn_0 : plainName "com/example/loopwise/loopwise/frontend/TypeCommonPinLaw" = true := by first | (simp [plainName, overriddenIn]; done) | decide +kernel
theorem pd_0_0 : parseMethodDescriptor "(I)Lcom/example/loopwise/loopwise/frontend/Type;" = some ⟨[.int], some (.object "com/example/loopwise/loopwise/frontend/Type")⟩ := by decide +kernel
theorem pd_0_1 : parseMethodDescriptor "(Lcom/example/loopwise/loopwise/frontend/Type;Lcom/example/loopwise/loopwise/frontend/Type;)Lcom/example/loopwise/loopwise/frontend/Type;" = some ⟨[(.object "com/example/loopwise/loopwise/frontend/Type"), (.object "com/example/loopwise/loopwise/frontend/Type")], some (.object "com/example/loopwise/loopwise/frontend/Type")⟩ := by decide +kernel
theorem pd_0_2 : parseMethodDescriptor "(Lcom/example/loopwise/loopwise/frontend/Type;)I" = some ⟨[(.object "com/example/loopwise/loopwise/frontend/Type")], some .int⟩ := by decide +kernel
theorem pd_0_3 : parseMethodDescriptor "(II)I" = some ⟨[.int, .int], some .int⟩ := by decide +kernel
theorem ef_0 (m : MethodId) (x0 : Int32) (x1 : Int32) : entryFrame m #[(.int x0), (.int x1)] maxLocals = mkF m 0 #[.val (.int x0), .val (.int x1), .unset, .unset, .unset] [] := by first | (simp [entryFrame, mkF, argsToLocals, Value.category, maxLocals]; done) | rfl
def Q0 (Z : State) (p0 : Int32) (p1 : Int32) (aI : Addr) (aB : Addr) (aD : Addr) (aF : Addr) (h0 : Heap) (n0 : Nat) (v : Option Value) (h : Heap) (L : List Loc) : Prop := v = some (.int (1 : Int32)) ∧ Fr n0 L
set_option maxRecDepth 65536 in
set_option maxHeartbeats 40000000 in
theorem rm0 (l : Launch) (Z : State) (a0 : Array Value) (hw : ∀ d ∈ tables_1, d.before a0 Z = true) (ws : List Jvm.Cond) (p0 : Int32) (p1 : Int32) (aI : Addr) (aB : Addr) (aD : Addr) (aF : Addr) (h0 : Heap) (n0 : Nat) (S_INT : Sta Z h0 "com/example/loopwise/loopwise/frontend/Type" "INT" "Lcom/example/loopwise/loopwise/frontend/Type;" (.ref aI)) (S_BOOL : Sta Z h0 "com/example/loopwise/loopwise/frontend/Type" "BOOL" "Lcom/example/loopwise/loopwise/frontend/Type;" (.ref aB)) (S_DOUBLE : Sta Z h0 "com/example/loopwise/loopwise/frontend/Type" "DOUBLE" "Lcom/example/loopwise/loopwise/frontend/Type;" (.ref aD)) (S_FLOAT : Sta Z h0 "com/example/loopwise/loopwise/frontend/Type" "FLOAT" "Lcom/example/loopwise/loopwise/frontend/Type;" (.ref aF)) (hID : aI ≠ aD) (hIF : aI ≠ aF) (hFD : aF ≠ aD) (hBD : aB ≠ aD) (hBF : aB ≠ aF) :
    MetFree l x (head1 (Jvm.Cond.code x code maxLocals ret :: ws) room_1) (fun a U => a = #[(.int p0), (.int p1)] ∧ Z.Warmed39 U.vm ∧ U.heap = h0) (fun _ _ _ _ _ => True) (fun _ U o U' => ∃ v L, o = .returned v ∧ Q0 Z p0 p1 aI aB aD aF h0 n0 v U'.heap L ∧ FrameEnd U o U' L room_1.cells room_1.slots) := by
  refine MetFree.of_bodySF (plainFor_of_name pn_0) hisR ?_
  intro p e s m args below meth c s₁ Bd hml0 hP hK
  obtain ⟨rfl, hZ, hh⟩ := hP
  have hx := Bd.exec
  have hby := Bd.bytes
  have hml : c.maxLocals = 5 := hml0
  have hown : s.vm.findClass "com/example/loopwise/loopwise/frontend/TypeCommonPinLaw" = some m.cls := findClass_of_methodNamed Bd.named
  have hnm := (name_of_methodNamed Bd.named Bd.method).1
  have X0 : Stand p l e room_1 s m #[(.int p0), (.int p1)] below meth c s₁ [] 0 0 := Stand.of_body Bd
  have e0 : s₁.heap = h0 := by rw [← hh, Bd.state]; rfl
  have N0 := Fr.nil n0
  refine own_go (B := (s₁.setTop (mkF m 0 #[.val (.int p0), .val (.int p1), .unset, .unset, .unset] []))) (fun t k => castTop (ef_0 m p0 p1) k) ?_
  refine own_go (B := (s₁.setTop (mkF m 1 #[.val (.int p0), .val (.int p1), .unset, .unset, .unset] [(.int p0)]))) (fun t k => XS.iloadN X0.here hx rfl (hb hby at_0) rfl k) ?_
  obtain ⟨_, _, ⟨T1, L1, k1, n1⟩, -, X1, ⟨Lc1, hQ1, l1, y1, z1⟩, st1⟩ := Jvm.LawKit.callS X0 hx (y := (⟨"com/example/loopwise/loopwise/frontend/TypeCommonPinLaw", "pick", "(I)Lcom/example/loopwise/loopwise/frontend/Type;"⟩ : MethodName)) hown (mvT hZ (hw _ (List.mem_of_getElem? (i := 0) rfl))) (mvT hZ (hw _ (List.mem_of_getElem? (i := 1) rfl))) (mvT hZ (hw _ (List.mem_of_getElem? (i := 2) rfl))) (mvT hZ (hw _ (List.mem_of_getElem? (i := 3) rfl))) (by decide) (backOf (W := 0) (rm1 l Z a0 hw [] p0 aI aB aD aF h0 n0 S_INT S_BOOL S_DOUBLE S_FLOAT) hZ (hw _ (List.mem_of_getElem? (i := 3) rfl)) (hw _ (List.mem_of_getElem? (i := 2) rfl)) (by decide) (by decide)) (g := (mkF m 1 #[.val (.int p0), .val (.int p1), .unset, .unset, .unset] [(.int p0)])) rfl (by rw [hml]; rfl) (argsL := [(.int p0)]) (rest := []) (lenOf pd_0_0 rfl) rfl (by show 2 * 0 + _ ≤ _; exact Nat.le_of_eq rfl) (hb hby at_1) (fun _ _ => ⟨rfl, e0, (by decide : 0 + 0 ≤ _), (by decide : 0 + 0 ≤ _)⟩)
  dsimp only [Pt.U, Pt.locs, Pt.cells, Pt.slots] at X1 l1 y1 z1 st1 hQ1
  subst l1 y1 z1
  obtain ⟨rfl, N1q, e1⟩ := hQ1
  replace e1 := e1
  have N1 := Fr.app N0 N1q
  refine own_go (B := (T1.setTop (mkF m 4 #[.val (.int p0), .val (.int p1), .unset, .unset, .unset] [(.ref (F1 p0 aI aB aD aF))]))) (fun t k => st1 _ k) ?_
  refine own_go (B := (T1.setTop (mkF m 5 #[.val (.int p0), .val (.int p1), .val (.ref (F1 p0 aI aB aD aF)), .unset, .unset] []))) (fun t k => XS.astoreN X1.here hx rfl (hb hby at_4) rfl rfl (l' := #[.val (.int p0), .val (.int p1), .val (.ref (F1 p0 aI aB aD aF)), .unset, .unset]) rfl k) ?_
  refine own_go (B := (T1.setTop (mkF m 6 #[.val (.int p0), .val (.int p1), .val (.ref (F1 p0 aI aB aD aF)), .unset, .unset] [(.int p1)]))) (fun t k => XS.iloadN X1.here hx rfl (hb hby at_5) rfl k) ?_
  obtain ⟨_, _, ⟨T2, L2, k2, n2⟩, -, X2, ⟨Lc2, hQ2, l2, y2, z2⟩, st2⟩ := Jvm.LawKit.callS X1 hx (y := (⟨"com/example/loopwise/loopwise/frontend/TypeCommonPinLaw", "pick", "(I)Lcom/example/loopwise/loopwise/frontend/Type;"⟩ : MethodName)) hown (mvT hZ (hw _ (List.mem_of_getElem? (i := 0) rfl))) (mvT hZ (hw _ (List.mem_of_getElem? (i := 1) rfl))) (mvT hZ (hw _ (List.mem_of_getElem? (i := 2) rfl))) (mvT hZ (hw _ (List.mem_of_getElem? (i := 3) rfl))) (by decide) (backOf (W := 0) (rm1 l Z a0 hw [] p1 aI aB aD aF h0 n0 S_INT S_BOOL S_DOUBLE S_FLOAT) hZ (hw _ (List.mem_of_getElem? (i := 3) rfl)) (hw _ (List.mem_of_getElem? (i := 2) rfl)) (by decide) (by decide)) (g := (mkF m 6 #[.val (.int p0), .val (.int p1), .val (.ref (F1 p0 aI aB aD aF)), .unset, .unset] [(.int p1)])) rfl (by rw [hml]; rfl) (argsL := [(.int p1)]) (rest := []) (lenOf pd_0_0 rfl) rfl (by show 2 * 0 + _ ≤ _; exact Nat.le_of_eq rfl) (hb hby at_6) (fun _ _ => ⟨rfl, e1, (by decide : (0 + 0) + 0 ≤ _), (by decide : (0 + 0) + 0 ≤ _)⟩)
  dsimp only [Pt.U, Pt.locs, Pt.cells, Pt.slots] at X2 l2 y2 z2 st2 hQ2
  subst l2 y2 z2
  obtain ⟨rfl, N2q, e2⟩ := hQ2
  replace e2 := e2
  have N2 := Fr.app N1 N2q
  refine own_go (B := (T2.setTop (mkF m 9 #[.val (.int p0), .val (.int p1), .val (.ref (F1 p0 aI aB aD aF)), .unset, .unset] [(.ref (F1 p1 aI aB aD aF))]))) (fun t k => st2 _ k) ?_
  refine own_go (B := (T2.setTop (mkF m 10 #[.val (.int p0), .val (.int p1), .val (.ref (F1 p0 aI aB aD aF)), .val (.ref (F1 p1 aI aB aD aF)), .unset] []))) (fun t k => XS.astoreN X2.here hx rfl (hb hby at_9) rfl rfl (l' := #[.val (.int p0), .val (.int p1), .val (.ref (F1 p0 aI aB aD aF)), .val (.ref (F1 p1 aI aB aD aF)), .unset]) rfl k) ?_
  refine own_go (B := (T2.setTop (mkF m 11 #[.val (.int p0), .val (.int p1), .val (.ref (F1 p0 aI aB aD aF)), .val (.ref (F1 p1 aI aB aD aF)), .unset] [(.ref (F1 p0 aI aB aD aF))]))) (fun t k => XS.aloadN X2.here hx rfl (hb hby at_10) rfl rfl k) ?_
  refine own_go (B := (T2.setTop (mkF m 12 #[.val (.int p0), .val (.int p1), .val (.ref (F1 p0 aI aB aD aF)), .val (.ref (F1 p1 aI aB aD aF)), .unset] [(.ref (F1 p1 aI aB aD aF)), (.ref (F1 p0 aI aB aD aF))]))) (fun t k => XS.aloadN X2.here hx rfl (hb hby at_11) rfl rfl k) ?_
  obtain ⟨_, _, ⟨T3, L3, k3, n3⟩, -, X3, ⟨Lc3, hQ3, l3, y3, z3⟩, st3⟩ := Jvm.LawKit.callS X2 hx (y := (⟨"com/example/loopwise/loopwise/frontend/Type", "common", "(Lcom/example/loopwise/loopwise/frontend/Type;Lcom/example/loopwise/loopwise/frontend/Type;)Lcom/example/loopwise/loopwise/frontend/Type;"⟩ : MethodName)) hown (mvT hZ (hw _ (List.mem_of_getElem? (i := 9) rfl))) (mvT hZ (hw _ (List.mem_of_getElem? (i := 10) rfl))) (mvT hZ (hw _ (List.mem_of_getElem? (i := 5) rfl))) (mvT hZ (hw _ (List.mem_of_getElem? (i := 11) rfl))) (by decide) (backOf (W := 0) (rm2 l Z a0 hw [] (F1 p0 aI aB aD aF) (F1 p1 aI aB aD aF) aI aB aD aF h0 n0 S_INT S_BOOL S_DOUBLE S_FLOAT) hZ (hw _ (List.mem_of_getElem? (i := 11) rfl)) (hw _ (List.mem_of_getElem? (i := 5) rfl)) (by decide) (by decide)) (g := (mkF m 12 #[.val (.int p0), .val (.int p1), .val (.ref (F1 p0 aI aB aD aF)), .val (.ref (F1 p1 aI aB aD aF)), .unset] [(.ref (F1 p1 aI aB aD aF)), (.ref (F1 p0 aI aB aD aF))])) rfl (by rw [hml]; rfl) (argsL := [(.ref (F1 p0 aI aB aD aF)), (.ref (F1 p1 aI aB aD aF))]) (rest := []) (lenOf pd_0_1 rfl) rfl (by show 2 * 0 + _ ≤ _; exact Nat.le_of_eq rfl) (hb hby at_12) (fun _ _ => ⟨rfl, e2, (by decide : ((0 + 0) + 0) + 0 ≤ _), (by decide : ((0 + 0) + 0) + 0 ≤ _)⟩)
  dsimp only [Pt.U, Pt.locs, Pt.cells, Pt.slots] at X3 l3 y3 z3 st3 hQ3
  subst l3 y3 z3
  obtain ⟨rfl, N3q, e3⟩ := hQ3
  replace e3 := e3
  have N3 := Fr.app N2 N3q
  refine own_go (B := (T3.setTop (mkF m 15 #[.val (.int p0), .val (.int p1), .val (.ref (F1 p0 aI aB aD aF)), .val (.ref (F1 p1 aI aB aD aF)), .unset] [(.ref (F2 (F1 p0 aI aB aD aF) (F1 p1 aI aB aD aF) aI aB aD aF))]))) (fun t k => st3 _ k) ?_
  refine own_go (B := (T3.setTop (mkF m 17 #[.val (.int p0), .val (.int p1), .val (.ref (F1 p0 aI aB aD aF)), .val (.ref (F1 p1 aI aB aD aF)), .val (.ref (F2 (F1 p0 aI aB aD aF) (F1 p1 aI aB aD aF) aI aB aD aF))] []))) (fun t k => XS.astore X3.here hx rfl (hb hby at_15) rfl rfl (l' := #[.val (.int p0), .val (.int p1), .val (.ref (F1 p0 aI aB aD aF)), .val (.ref (F1 p1 aI aB aD aF)), .val (.ref (F2 (F1 p0 aI aB aD aF) (F1 p1 aI aB aD aF) aI aB aD aF))]) rfl k) ?_
  refine own_go (B := (T3.setTop (mkF m 19 #[.val (.int p0), .val (.int p1), .val (.ref (F1 p0 aI aB aD aF)), .val (.ref (F1 p1 aI aB aD aF)), .val (.ref (F2 (F1 p0 aI aB aD aF) (F1 p1 aI aB aD aF) aI aB aD aF))] [(.ref (F2 (F1 p0 aI aB aD aF) (F1 p1 aI aB aD aF) aI aB aD aF))]))) (fun t k => XS.aload X3.here hx rfl (hb hby at_17) rfl rfl k) ?_
  refine own_go (B := (T3.setTop (mkF m 20 #[.val (.int p0), .val (.int p1), .val (.ref (F1 p0 aI aB aD aF)), .val (.ref (F1 p1 aI aB aD aF)), .val (.ref (F2 (F1 p0 aI aB aD aF) (F1 p1 aI aB aD aF) aI aB aD aF))] [(.ref (F1 p0 aI aB aD aF)), (.ref (F2 (F1 p0 aI aB aD aF) (F1 p1 aI aB aD aF) aI aB aD aF))]))) (fun t k => XS.aloadN X3.here hx rfl (hb hby at_19) rfl rfl k) ?_
  obtain ⟨_, _, ⟨T4, L4, k4, n4⟩, -, X4, ⟨Lc4, hQ4, l4, y4, z4⟩, st4⟩ := Jvm.LawKit.callS X3 hx (y := (⟨"com/example/loopwise/loopwise/frontend/TypeCommonPinLaw", "rank", "(Lcom/example/loopwise/loopwise/frontend/Type;)I"⟩ : MethodName)) hown (mvT hZ (hw _ (List.mem_of_getElem? (i := 17) rfl))) (mvT hZ (hw _ (List.mem_of_getElem? (i := 18) rfl))) (mvT hZ (hw _ (List.mem_of_getElem? (i := 2) rfl))) (mvT hZ (hw _ (List.mem_of_getElem? (i := 19) rfl))) (by decide) (backOf (W := 1) (rm3 l Z a0 hw [] (F1 p0 aI aB aD aF) aI aB aD aF h0 n0 S_INT S_BOOL S_DOUBLE S_FLOAT) hZ (hw _ (List.mem_of_getElem? (i := 19) rfl)) (hw _ (List.mem_of_getElem? (i := 2) rfl)) (by decide) (by decide)) (g := (mkF m 20 #[.val (.int p0), .val (.int p1), .val (.ref (F1 p0 aI aB aD aF)), .val (.ref (F1 p1 aI aB aD aF)), .val (.ref (F2 (F1 p0 aI aB aD aF) (F1 p1 aI aB aD aF) aI aB aD aF))] [(.ref (F1 p0 aI aB aD aF)), (.ref (F2 (F1 p0 aI aB aD aF) (F1 p1 aI aB aD aF) aI aB aD aF))])) rfl (by rw [hml]; rfl) (argsL := [(.ref (F1 p0 aI aB aD aF))]) (rest := [(.ref (F2 (F1 p0 aI aB aD aF) (F1 p1 aI aB aD aF) aI aB aD aF))]) (lenOf pd_0_2 rfl) rfl (by show 2 * 0 + _ ≤ _; exact Nat.le_of_eq rfl) (hb hby at_20) (fun _ _ => ⟨rfl, e3, (by decide : (((0 + 0) + 0) + 0) + 0 ≤ _), (by decide : (((0 + 0) + 0) + 0) + 0 ≤ _)⟩)
  dsimp only [Pt.U, Pt.locs, Pt.cells, Pt.slots] at X4 l4 y4 z4 st4 hQ4
  subst l4 y4 z4
  obtain ⟨rfl, N4q, e4⟩ := hQ4
  replace e4 := e4
  have N4 := Fr.app N3 N4q
  refine own_go (B := (T4.setTop (mkF m 23 #[.val (.int p0), .val (.int p1), .val (.ref (F1 p0 aI aB aD aF)), .val (.ref (F1 p1 aI aB aD aF)), .val (.ref (F2 (F1 p0 aI aB aD aF) (F1 p1 aI aB aD aF) aI aB aD aF))] [(.int (F3 (F1 p0 aI aB aD aF) aI aB aD aF)), (.ref (F2 (F1 p0 aI aB aD aF) (F1 p1 aI aB aD aF) aI aB aD aF))]))) (fun t k => st4 _ k) ?_
  refine own_go (B := (T4.setTop (mkF m 24 #[.val (.int p0), .val (.int p1), .val (.ref (F1 p0 aI aB aD aF)), .val (.ref (F1 p1 aI aB aD aF)), .val (.ref (F2 (F1 p0 aI aB aD aF) (F1 p1 aI aB aD aF) aI aB aD aF))] [(.ref (F1 p1 aI aB aD aF)), (.int (F3 (F1 p0 aI aB aD aF) aI aB aD aF)), (.ref (F2 (F1 p0 aI aB aD aF) (F1 p1 aI aB aD aF) aI aB aD aF))]))) (fun t k => XS.aloadN X4.here hx rfl (hb hby at_23) rfl rfl k) ?_
  obtain ⟨_, _, ⟨T5, L5, k5, n5⟩, -, X5, ⟨Lc5, hQ5, l5, y5, z5⟩, st5⟩ := Jvm.LawKit.callS X4 hx (y := (⟨"com/example/loopwise/loopwise/frontend/TypeCommonPinLaw", "rank", "(Lcom/example/loopwise/loopwise/frontend/Type;)I"⟩ : MethodName)) hown (mvT hZ (hw _ (List.mem_of_getElem? (i := 17) rfl))) (mvT hZ (hw _ (List.mem_of_getElem? (i := 18) rfl))) (mvT hZ (hw _ (List.mem_of_getElem? (i := 2) rfl))) (mvT hZ (hw _ (List.mem_of_getElem? (i := 19) rfl))) (by decide) (backOf (W := 2) (rm3 l Z a0 hw [] (F1 p1 aI aB aD aF) aI aB aD aF h0 n0 S_INT S_BOOL S_DOUBLE S_FLOAT) hZ (hw _ (List.mem_of_getElem? (i := 19) rfl)) (hw _ (List.mem_of_getElem? (i := 2) rfl)) (by decide) (by decide)) (g := (mkF m 24 #[.val (.int p0), .val (.int p1), .val (.ref (F1 p0 aI aB aD aF)), .val (.ref (F1 p1 aI aB aD aF)), .val (.ref (F2 (F1 p0 aI aB aD aF) (F1 p1 aI aB aD aF) aI aB aD aF))] [(.ref (F1 p1 aI aB aD aF)), (.int (F3 (F1 p0 aI aB aD aF) aI aB aD aF)), (.ref (F2 (F1 p0 aI aB aD aF) (F1 p1 aI aB aD aF) aI aB aD aF))])) rfl (by rw [hml]; rfl) (argsL := [(.ref (F1 p1 aI aB aD aF))]) (rest := [(.int (F3 (F1 p0 aI aB aD aF) aI aB aD aF)), (.ref (F2 (F1 p0 aI aB aD aF) (F1 p1 aI aB aD aF) aI aB aD aF))]) (lenOf pd_0_2 rfl) rfl (by show 2 * 0 + _ ≤ _; exact Nat.le_of_eq rfl) (hb hby at_24) (fun _ _ => ⟨rfl, e4, (by decide : ((((0 + 0) + 0) + 0) + 0) + 0 ≤ _), (by decide : ((((0 + 0) + 0) + 0) + 0) + 0 ≤ _)⟩)
  dsimp only [Pt.U, Pt.locs, Pt.cells, Pt.slots] at X5 l5 y5 z5 st5 hQ5
  subst l5 y5 z5
  obtain ⟨rfl, N5q, e5⟩ := hQ5
  replace e5 := e5
  have N5 := Fr.app N4 N5q
  refine own_go (B := (T5.setTop (mkF m 27 #[.val (.int p0), .val (.int p1), .val (.ref (F1 p0 aI aB aD aF)), .val (.ref (F1 p1 aI aB aD aF)), .val (.ref (F2 (F1 p0 aI aB aD aF) (F1 p1 aI aB aD aF) aI aB aD aF))] [(.int (F3 (F1 p1 aI aB aD aF) aI aB aD aF)), (.int (F3 (F1 p0 aI aB aD aF) aI aB aD aF)), (.ref (F2 (F1 p0 aI aB aD aF) (F1 p1 aI aB aD aF) aI aB aD aF))]))) (fun t k => st5 _ k) ?_
  obtain ⟨_, _, ⟨T6, L6, k6, n6⟩, -, X6, ⟨Lc6, hQ6, l6, y6, z6⟩, st6⟩ := Jvm.LawKit.callS X5 hx (y := (⟨"java/lang/Math", "max", "(II)I"⟩ : MethodName)) hown (mvT hZ (hw _ (List.mem_of_getElem? (i := 22) rfl))) (mvT hZ (hw _ (List.mem_of_getElem? (i := 23) rfl))) (mvT hZ (hw _ (List.mem_of_getElem? (i := 24) rfl))) (mvT hZ (hw _ (List.mem_of_getElem? (i := 25) rfl))) (by decide) (backOf (W := 1) (rm4 l Z a0 hw [] (F3 (F1 p0 aI aB aD aF) aI aB aD aF) (F3 (F1 p1 aI aB aD aF) aI aB aD aF)  h0 n0 ) hZ (hw _ (List.mem_of_getElem? (i := 25) rfl)) (hw _ (List.mem_of_getElem? (i := 24) rfl)) (by decide) (by decide)) (g := (mkF m 27 #[.val (.int p0), .val (.int p1), .val (.ref (F1 p0 aI aB aD aF)), .val (.ref (F1 p1 aI aB aD aF)), .val (.ref (F2 (F1 p0 aI aB aD aF) (F1 p1 aI aB aD aF) aI aB aD aF))] [(.int (F3 (F1 p1 aI aB aD aF) aI aB aD aF)), (.int (F3 (F1 p0 aI aB aD aF) aI aB aD aF)), (.ref (F2 (F1 p0 aI aB aD aF) (F1 p1 aI aB aD aF) aI aB aD aF))])) rfl (by rw [hml]; rfl) (argsL := [(.int (F3 (F1 p0 aI aB aD aF) aI aB aD aF)), (.int (F3 (F1 p1 aI aB aD aF) aI aB aD aF))]) (rest := [(.ref (F2 (F1 p0 aI aB aD aF) (F1 p1 aI aB aD aF) aI aB aD aF))]) (lenOf pd_0_3 rfl) rfl (by show 2 * 0 + _ ≤ _; exact Nat.le_of_eq rfl) (hb hby at_27) (fun _ _ => ⟨rfl, e5, (by decide : (((((0 + 0) + 0) + 0) + 0) + 0) + 0 ≤ _), (by decide : (((((0 + 0) + 0) + 0) + 0) + 0) + 0 ≤ _)⟩)
  dsimp only [Pt.U, Pt.locs, Pt.cells, Pt.slots] at X6 l6 y6 z6 st6 hQ6
  subst l6 y6 z6
  obtain ⟨rfl, N6q, e6⟩ := hQ6
  replace e6 := e6
  have N6 := Fr.app N5 N6q
  refine own_go (B := (T6.setTop (mkF m 30 #[.val (.int p0), .val (.int p1), .val (.ref (F1 p0 aI aB aD aF)), .val (.ref (F1 p1 aI aB aD aF)), .val (.ref (F2 (F1 p0 aI aB aD aF) (F1 p1 aI aB aD aF) aI aB aD aF))] [(.int (F4 (F3 (F1 p0 aI aB aD aF) aI aB aD aF) (F3 (F1 p1 aI aB aD aF) aI aB aD aF))), (.ref (F2 (F1 p0 aI aB aD aF) (F1 p1 aI aB aD aF) aI aB aD aF))]))) (fun t k => st6 _ k) ?_
  obtain ⟨_, _, ⟨T7, L7, k7, n7⟩, -, X7, ⟨Lc7, hQ7, l7, y7, z7⟩, st7⟩ := Jvm.LawKit.callS X6 hx (y := (⟨"com/example/loopwise/loopwise/frontend/TypeCommonPinLaw", "ofRank", "(I)Lcom/example/loopwise/loopwise/frontend/Type;"⟩ : MethodName)) hown (mvT hZ (hw _ (List.mem_of_getElem? (i := 26) rfl))) (mvT hZ (hw _ (List.mem_of_getElem? (i := 27) rfl))) (mvT hZ (hw _ (List.mem_of_getElem? (i := 2) rfl))) (mvT hZ (hw _ (List.mem_of_getElem? (i := 28) rfl))) (by decide) (backOf (W := 1) (rm5 l Z a0 hw [] (F4 (F3 (F1 p0 aI aB aD aF) aI aB aD aF) (F3 (F1 p1 aI aB aD aF) aI aB aD aF)) aI aB aD aF h0 n0 S_INT S_BOOL S_DOUBLE S_FLOAT) hZ (hw _ (List.mem_of_getElem? (i := 28) rfl)) (hw _ (List.mem_of_getElem? (i := 2) rfl)) (by decide) (by decide)) (g := (mkF m 30 #[.val (.int p0), .val (.int p1), .val (.ref (F1 p0 aI aB aD aF)), .val (.ref (F1 p1 aI aB aD aF)), .val (.ref (F2 (F1 p0 aI aB aD aF) (F1 p1 aI aB aD aF) aI aB aD aF))] [(.int (F4 (F3 (F1 p0 aI aB aD aF) aI aB aD aF) (F3 (F1 p1 aI aB aD aF) aI aB aD aF))), (.ref (F2 (F1 p0 aI aB aD aF) (F1 p1 aI aB aD aF) aI aB aD aF))])) rfl (by rw [hml]; rfl) (argsL := [(.int (F4 (F3 (F1 p0 aI aB aD aF) aI aB aD aF) (F3 (F1 p1 aI aB aD aF) aI aB aD aF)))]) (rest := [(.ref (F2 (F1 p0 aI aB aD aF) (F1 p1 aI aB aD aF) aI aB aD aF))]) (lenOf pd_0_0 rfl) rfl (by show 2 * 0 + _ ≤ _; exact Nat.le_of_eq rfl) (hb hby at_30) (fun _ _ => ⟨rfl, e6, (by decide : ((((((0 + 0) + 0) + 0) + 0) + 0) + 0) + 0 ≤ _), (by decide : ((((((0 + 0) + 0) + 0) + 0) + 0) + 0) + 0 ≤ _)⟩)
  dsimp only [Pt.U, Pt.locs, Pt.cells, Pt.slots] at X7 l7 y7 z7 st7 hQ7
  subst l7 y7 z7
  obtain ⟨rfl, N7q, e7⟩ := hQ7
  replace e7 := e7
  have N7 := Fr.app N6 N7q
  refine own_go (B := (T7.setTop (mkF m 33 #[.val (.int p0), .val (.int p1), .val (.ref (F1 p0 aI aB aD aF)), .val (.ref (F1 p1 aI aB aD aF)), .val (.ref (F2 (F1 p0 aI aB aD aF) (F1 p1 aI aB aD aF) aI aB aD aF))] [(.ref (F5 (F4 (F3 (F1 p0 aI aB aD aF) aI aB aD aF) (F3 (F1 p1 aI aB aD aF) aI aB aD aF)) aI aB aD aF)), (.ref (F2 (F1 p0 aI aB aD aF) (F1 p1 aI aB aD aF) aI aB aD aF))]))) (fun t k => st7 _ k) ?_
  refine own_go (B := (T7.setTop (mkF m 36 #[.val (.int p0), .val (.int p1), .val (.ref (F1 p0 aI aB aD aF)), .val (.ref (F1 p1 aI aB aD aF)), .val (.ref (F2 (F1 p0 aI aB aD aF) (F1 p1 aI aB aD aF) aI aB aD aF))] []))) (fun t k => Jvm.RoadKit.acmp (g := (mkF m 33 #[.val (.int p0), .val (.int p1), .val (.ref (F1 p0 aI aB aD aF)), .val (.ref (F1 p1 aI aB aD aF)), .val (.ref (F2 (F1 p0 aI aB aD aF) (F1 p1 aI aB aD aF) aI aB aD aF))] [(.ref (F5 (F4 (F3 (F1 p0 aI aB aD aF) aI aB aD aF) (F3 (F1 p1 aI aB aD aF) aI aB aD aF)) aI aB aD aF)), (.ref (F2 (F1 p0 aI aB aD aF) (F1 p1 aI aB aD aF) aI aB aD aF))])) X7 hx rfl rfl rfl (pc0 := 33) (pc' := 36) (same := true) rfl (hb hby at_33) rfl (decide_eq_true (congrArg Value.ref (own_law p0 p1 aI aB aD aF hID hIF hFD hBD hBF))) (by decide) (by decide) k) ?_
  refine own_go (B := (T7.setTop (mkF m 37 #[.val (.int p0), .val (.int p1), .val (.ref (F1 p0 aI aB aD aF)), .val (.ref (F1 p1 aI aB aD aF)), .val (.ref (F2 (F1 p0 aI aB aD aF) (F1 p1 aI aB aD aF) aI aB aD aF))] [(.int (1 : Int32))]))) (fun t k => XS.iconst X7.here hx rfl (hb hby at_36) k) ?_
  refine own_go (B := (T7.setTop (mkF m 41 #[.val (.int p0), .val (.int p1), .val (.ref (F1 p0 aI aB aD aF)), .val (.ref (F1 p1 aI aB aD aF)), .val (.ref (F2 (F1 p0 aI aB aD aF) (F1 p1 aI aB aD aF) aI aB aD aF))] [(.int (1 : Int32))]))) (fun t k => XS.goto X7.here hx rfl (pc0 := 37) (pc' := 41) rfl (hb hby at_37) (by decide) (by decide) k) ?_
  obtain ⟨fs, hr, hrun, hended, hW, hsame⟩ := X7.leave (v := some (.int (1 : Int32))) (fun h => by rw [Bd.returns] at h; cases h)
  exact ⟨_, _, retN X7 hx (t := .boolean) Bd.returns (by simp) (hb hby at_41) hr, hrun, hended, _, _, rfl, ⟨rfl, N7⟩, ⟨_, rfl⟩, hW, hsame.mono (by decide) (by decide)⟩
theorem own_eqi {t : Jvm.Term} {n : Int32} {args : Array Value} {s : State} (h : (Jvm.Cond.eq t (.int n)).value args s none s [] = some true) : t.eval args s none [] s = some (.int n) := by
  obtain ⟨x, y, h1, h2, h3, h4⟩ := cmp_v (Or.inl h)
  obtain rfl : y = .int n := (Option.some.inj (h2.symm.trans (Term.int_eval n)))
  obtain ⟨z, rfl⟩ := h4
  have h5 : z = n := by simpa [Cond.value, h1, h2] using h
  rw [h1, h5]
set_option maxRecDepth 65536 in
set_option maxHeartbeats 40000000 in
theorem comes_1 {Post : Tables → Env → Array Value → State → Outcome → State → Prop} (hpost : ∀ tb e args s v u, (limb_1_1.after args s (.returned v) u = true ∧ limb_1_2.after args s (.returned v) u = true ∧ True) → FrameEnd s (.returned v) u (Jvm.fieldLocs frame_1_writes args s ++ Jvm.arrayLocs frame_1_arrays args s ++ Jvm.staticLocs frame_1_statics s) 0 0 → Post tb e args s (.returned v) u) :
    ArmFor flags0 classFile x code maxLocals ret World_1 tables_1 room_1 Calls_1 rest_1 Pre_1 Post := by
  intro l hfl _ _ p e ha hc hk s m args below hf hA hF happ hP
  obtain ⟨hcalls, hrest, hpre⟩ := hP
  obtain ⟨-, -, -, hnamed, -, -, -, hat⟩ := (Spec.applies_iff hf).mp happ
  obtain ⟨hg, hn⟩ := and_e (Cond.before_iff.mp (show (Jvm.Cond.and given_1 narrow_1).before args s = true from hpre))
  obtain ⟨gc, g0⟩ := and_e hg
  obtain ⟨gg0, g1⟩ := and_e g0
  obtain ⟨w0, w1, rfl⟩ : ∃ w0 w1 : Value, args = #[w0, w1] := by
    have hs : args.size = 2 := by simpa [Cond.value, given_1] using gc
    obtain ⟨L⟩ := args
    match L, hs with
    | [w0, w1], _ => exact ⟨w0, w1, rfl⟩
  have hw := fun d (hd : d ∈ tables_1) => atoms_spec (ws := Jvm.Cond.code x code maxLocals ret :: tables_1) hat d (List.mem_cons_of_mem _ hd)
  have hfit : Fit s := fun {y c} hc i hi => by
    obtain ⟨ha, rfl⟩ := Array.getElem?_eq_some_iff.mp hc
    have q := List.all_eq_true.mp ((Array.all_eq_true_iff_forall_mem.mp hF) _ (Array.getElem_mem ha)) i (List.mem_range.mpr hi)
    simpa [Array.getElem?_eq_getElem hi] using q
  obtain ⟨i0, ei0⟩ := is_v gg0
  obtain rfl : w0 = (.int i0) := Option.some.inj ei0
  obtain ⟨i1, ei1⟩ := is_v g1
  obtain rfl : w1 = (.int i1) := Option.some.inj ei1
  obtain ⟨exI, r_exI⟩ := and_e hn
  obtain ⟨exB, r_exB⟩ := and_e r_exI
  obtain ⟨exD, r_exD⟩ := and_e r_exB
  obtain ⟨orI, r_orI⟩ := and_e r_exD
  obtain ⟨orD, r_orD⟩ := and_e r_orI
  obtain ⟨orB, r_orB⟩ := and_e r_orD
  obtain ⟨exF, r_exF⟩ := and_e r_orB
  have orF := r_exF
  obtain ⟨aI, vI⟩ := exa_v exI
  have SI := Sta.start vI (Or.inr ⟨(hw _ (List.mem_of_getElem? (i := 5) rfl)), (hw _ (List.mem_of_getElem? (i := 6) rfl))⟩)
  have fI := Fld.start ((fld_at vI).symm.trans (own_eqi orI))
  obtain ⟨aB, vB⟩ := exa_v exB
  have SB := Sta.start vB (Or.inr ⟨(hw _ (List.mem_of_getElem? (i := 5) rfl)), (hw _ (List.mem_of_getElem? (i := 8) rfl))⟩)
  have fB := Fld.start ((fld_at vB).symm.trans (own_eqi orB))
  obtain ⟨aD, vD⟩ := exa_v exD
  have SD := Sta.start vD (Or.inr ⟨(hw _ (List.mem_of_getElem? (i := 5) rfl)), (hw _ (List.mem_of_getElem? (i := 13) rfl))⟩)
  have fD := Fld.start ((fld_at vD).symm.trans (own_eqi orD))
  obtain ⟨aF, vF⟩ := exa_v exF
  have SF := Sta.start vF (Or.inr ⟨(hw _ (List.mem_of_getElem? (i := 5) rfl)), (hw _ (List.mem_of_getElem? (i := 15) rfl))⟩)
  have fF := Fld.start ((fld_at vF).symm.trans (own_eqi orF))
  obtain ⟨n, o, h1, h2, h3, _, L, rfl, ⟨rfl, N⟩, hq⟩ := rm0 l s _ hw tables_1 i0 i1 aI aB aD aF s.heap s.heap.size SI SB SD SF (Fld.ne fI fD (by decide)) (Fld.ne fI fF (by decide)) (Fld.ne fF fD (by decide)) (Fld.ne fB fD (by decide)) (Fld.ne fB fF (by decide)) p e ha hc hk s m _ below hf ((Spec.applies_iff_loose hf).mp happ).1 ⟨rfl, State.Warmed39.refl s, rfl⟩ trivial
  refine ⟨n, _, h1, h2, h3, hpost _ _ _ _ _ _ ⟨Cond.after_iff.mpr rfl, Cond.after_iff.mpr (eq_i res_at (Term.int_eval (1)) rfl), trivial⟩ ⟨hq.1, hq.2.1, (hq.2.2.sift fun y hy => Or.inr (N y hy)).mono (by decide) (by decide)⟩⟩
theorem main_1_1 : Claimed_1_1 := comes_1 fun _ _ _ _ _ _ h hF => ⟨h.1, hF⟩
theorem main_1_2 : Claimed_1_2 := comes_1 fun _ _ _ _ _ _ h hF => ⟨h.2.1, hF⟩
end Jvm.Pilot.@@N@@
namespace Jvm.Pilot.@@N@@
open Jvm Jvm.ClassFile Sem Op Lib Jvm.Free Jvm.Stand Jvm.Pilot.@@N@@.Jvm.D
/-! MADE BY PROGRAM (witnessworld.py) out of the Statement's table words and the real class files: 13 classes; the members and pool entries that the words name. The judged class is class 1, her method 4. -/
namespace start1
open Jvm.ClassFile
def u (s : String) : CpInfo := .utf8 (stringToUtf16 s)
/-- a pool by its gaps: so many unusable entries, then the entry; so many at the end -/
def gap : Nat → List CpInfo → List CpInfo
  | 0, r => r
  | n + 1, r => .unusable :: gap n r
def poolList (es : List (Nat × CpInfo)) (last : Nat) : List CpInfo := es.foldr (fun e r => gap e.1 (e.2 :: r)) (gap last [])
def pool (es : List (Nat × CpInfo)) (last : Nat) : Array CpInfo := ⟨poolList es last⟩
def fileOf (pool : Array CpInfo) (this : Nat) (attrs : Array Attribute := #[]) (ms : Array MethodInfo := #[]) (fl : Nat := 33) (sup : Nat := 0) (ifs : Array Nat := #[]) (fds : Array FieldInfo := #[]) : ClassFile where
  minorVersion := 0
  majorVersion := 65
  constantPool := pool
  accessFlags := fl
  thisClass := this
  superClass := sup
  interfaces := ifs
  fields := fds
  methods := ms
  attributes := attrs
def plain (name : String) (sup : Option ClassId) : Class where
  name := name
  kind := .ordinary
  loader := none
  accessFlags := 33
  super := sup
  interfaces := #[]
  cf := none
  fields := #[]
  methods := #[]
  instanceTypes := #[]
  staticTypes := #[]
  resolved := #[]
  callSites := []
  init := .initialized
  statics := none
  mirror := none

def pool0 : Array CpInfo := pool [(5, u "<init>"), (0, u "()V"), (1, .class_ 10), (1, u "java/lang/Object")] 113

def k0m0 : Method := { name := "<init>", desc := "()V", sig := { parameters := [], returnType := none }, accessFlags := 1, code := none }
/-- java/lang/Object -/
def k0 : Class := { plain "java/lang/Object" none with
  accessFlags := 33
  interfaces := #[]
  cf := some (fileOf pool0 8 #[] #[{ accessFlags := 1, nameIndex := 5, descriptorIndex := 6, attributes := #[] }] 33 0 #[] #[])
  fields := #[]
  methods := #[k0m0]
  instanceTypes := #[]
  staticTypes := #[]
  resolved := Array.replicate 124 none
  statics := none }

def pool1 : Array CpInfo := pool [(2, .class_ 4), (1, u "java/lang/Object"), (0, u "<init>"), (0, u "()V"), (0, .fieldref 8 9), (0, .class_ 10), (0, .nameAndType 11 12), (0, u "com/example/loopwise/loopwise/frontend/Type"), (0, u "INT"), (0, u "Lcom/example/loopwise/loopwise/frontend/Type;"), (0, .fieldref 8 14), (0, .nameAndType 15 12), (0, u "FLOAT"), (0, .fieldref 8 17), (0, .nameAndType 18 12), (0, u "DOUBLE"), (0, .fieldref 8 20), (0, .nameAndType 21 12), (0, u "BOOL"), (0, .methodref 23 24), (0, .class_ 25), (0, .nameAndType 26 27), (0, u "com/example/loopwise/loopwise/frontend/TypeCommonPinLaw"), (0, u "pick"), (0, u "(I)Lcom/example/loopwise/loopwise/frontend/Type;"), (0, .methodref 8 29), (0, .nameAndType 30 31), (0, u "common"), (0, u "(Lcom/example/loopwise/loopwise/frontend/Type;Lcom/example/loopwise/loopwise/frontend/Type;)Lcom/example/loopwise/loopwise/frontend/Type;"), (0, .methodref 23 33), (0, .nameAndType 34 35), (0, u "rank"), (0, u "(Lcom/example/loopwise/loopwise/frontend/Type;)I"), (0, .methodref 37 38), (0, .class_ 39), (0, .nameAndType 40 41), (0, u "java/lang/Math"), (0, u "max"), (0, u "(II)I"), (0, .methodref 23 43), (0, .nameAndType 44 27), (0, u "ofRank"), (3, u "law"), (0, u "(II)Z")] 2

def k1m0 : Method := { name := "<init>", desc := "()V", sig := { parameters := [], returnType := none }, accessFlags := 1, code := none }
def k1c1 : Code := { maxStack := 2, maxLocals := 2, code := method_2_code, exceptionTable := #[], attributes := #[] }
def k1m1 : Method := { name := "pick", desc := "(I)Lcom/example/loopwise/loopwise/frontend/Type;", sig := { parameters := [.int], returnType := some (.object "com/example/loopwise/loopwise/frontend/Type") }, accessFlags := 10, code := some k1c1 }
def k1c2 : Code := { maxStack := 2, maxLocals := 1, code := method_3_code, exceptionTable := #[], attributes := #[] }
def k1m2 : Method := { name := "rank", desc := "(Lcom/example/loopwise/loopwise/frontend/Type;)I", sig := { parameters := [(.object "com/example/loopwise/loopwise/frontend/Type")], returnType := some .int }, accessFlags := 10, code := some k1c2 }
def k1c3 : Code := { maxStack := 2, maxLocals := 1, code := method_4_code, exceptionTable := #[], attributes := #[] }
def k1m3 : Method := { name := "ofRank", desc := "(I)Lcom/example/loopwise/loopwise/frontend/Type;", sig := { parameters := [.int], returnType := some (.object "com/example/loopwise/loopwise/frontend/Type") }, accessFlags := 10, code := some k1c3 }
def k1c4 : Code := { maxStack := 3, maxLocals := 5, code := code, exceptionTable := #[], attributes := #[] }
def k1m4 : Method := { name := "law", desc := "(II)Z", sig := { parameters := [.int, .int], returnType := some .boolean }, accessFlags := 9, code := some k1c4 }
/-- com/example/loopwise/loopwise/frontend/TypeCommonPinLaw -/
def k1 : Class := { plain "com/example/loopwise/loopwise/frontend/TypeCommonPinLaw" (some 0) with
  accessFlags := 49
  interfaces := #[]
  cf := some (fileOf pool1 23 #[] #[{ accessFlags := 1, nameIndex := 5, descriptorIndex := 6, attributes := #[] }, { accessFlags := 10, nameIndex := 26, descriptorIndex := 27, attributes := #[] }, { accessFlags := 10, nameIndex := 34, descriptorIndex := 35, attributes := #[] }, { accessFlags := 10, nameIndex := 44, descriptorIndex := 27, attributes := #[] }, { accessFlags := 9, nameIndex := 48, descriptorIndex := 49, attributes := #[] }] 49 2 #[] #[])
  fields := #[]
  methods := #[k1m0, k1m1, k1m2, k1m3, k1m4]
  instanceTypes := #[]
  staticTypes := #[]
  resolved := Array.replicate 52 none
  statics := none }

def pool2 : Array CpInfo := pool [(1, .class_ 2), (0, u "java/lang/constant/Constable"), (0, .class_ 4), (0, u "java/lang/Object")] 6

/-- java/lang/constant/Constable -/
def k2 : Class := { plain "java/lang/constant/Constable" (some 0) with
  accessFlags := 1537
  interfaces := #[]
  cf := some (fileOf pool2 1 #[] #[] 1537 3 #[] #[])
  fields := #[]
  methods := #[]
  instanceTypes := #[]
  staticTypes := #[]
  resolved := Array.replicate 11 none
  statics := none }

def pool3 : Array CpInfo := pool [(1, .class_ 2), (0, u "java/lang/Comparable"), (0, .class_ 4), (0, u "java/lang/Object")] 7

/-- java/lang/Comparable -/
def k3 : Class := { plain "java/lang/Comparable" (some 0) with
  accessFlags := 1537
  interfaces := #[]
  cf := some (fileOf pool3 1 #[] #[] 1537 3 #[] #[])
  fields := #[]
  methods := #[]
  instanceTypes := #[]
  staticTypes := #[]
  resolved := Array.replicate 12 none
  statics := none }

def pool4 : Array CpInfo := pool [(1, .class_ 2), (0, u "java/io/Serializable"), (0, .class_ 4), (0, u "java/lang/Object")] 2

/-- java/io/Serializable -/
def k4 : Class := { plain "java/io/Serializable" (some 0) with
  accessFlags := 1537
  interfaces := #[]
  cf := some (fileOf pool4 1 #[] #[] 1537 3 #[] #[])
  fields := #[]
  methods := #[]
  instanceTypes := #[]
  staticTypes := #[]
  resolved := Array.replicate 7 none
  statics := none }

def pool5 : Array CpInfo := pool [(2, .class_ 4), (1, u "java/lang/Enum"), (0, u "name"), (0, u "Ljava/lang/String;"), (2, u "ordinal"), (0, u "I"), (1, .class_ 14), (1, u "java/lang/Object"), (4, u "hash"), (86, .class_ 108), (1, u "java/lang/Enum$EnumDesc"), (2, .class_ 112), (0, u "java/lang/constant/Constable"), (0, .class_ 114), (0, u "java/lang/Comparable"), (0, .class_ 116), (0, u "java/io/Serializable")] 87

/-- java/lang/Enum -/
def k5 : Class := { plain "java/lang/Enum" (some 0) with
  accessFlags := 1057
  interfaces := #[2, 3, 4]
  cf := some (fileOf pool5 2 #[.nestMembers #[106]] #[] 1057 12 #[111, 113, 115] #[{ accessFlags := 18, nameIndex := 5, descriptorIndex := 6, attributes := #[] }, { accessFlags := 18, nameIndex := 9, descriptorIndex := 10, attributes := #[] }, { accessFlags := 2, nameIndex := 19, descriptorIndex := 10, attributes := #[] }])
  fields := #[{ name := "name", type := (.object "java/lang/String"), accessFlags := 18, slot := 0, constantValue := 0 }, { name := "ordinal", type := .int, accessFlags := 18, slot := 1, constantValue := 0 }, { name := "hash", type := .int, accessFlags := 2, slot := 2, constantValue := 0 }]
  methods := #[]
  instanceTypes := #[(.object "java/lang/String"), .int, .int]
  staticTypes := #[]
  resolved := Array.replicate 204 none
  statics := none }

def pool6 : Array CpInfo := pool [(1, .class_ 2), (0, u "com/example/loopwise/loopwise/frontend/Type"), (0, .fieldref 1 4), (0, .nameAndType 5 6), (0, u "INT"), (0, u "Lcom/example/loopwise/loopwise/frontend/Type;"), (0, .fieldref 1 8), (0, .nameAndType 9 6), (0, u "FLOAT"), (0, .fieldref 1 11), (0, .nameAndType 12 6), (0, u "DOUBLE"), (2, u "BOOL"), (2, u "$VALUES"), (0, u "[Lcom/example/loopwise/loopwise/frontend/Type;"), (6, .class_ 28), (1, u "java/lang/Enum"), (8, u "keyword"), (0, u "Ljava/lang/String;"), (2, u "datatype"), (65, u "common"), (0, u "(Lcom/example/loopwise/loopwise/frontend/Type;Lcom/example/loopwise/loopwise/frontend/Type;)Lcom/example/loopwise/loopwise/frontend/Type;")] 5

def k6c0 : Code := { maxStack := 2, maxLocals := 2, code := prog_344_method_10_code, exceptionTable := #[], attributes := #[] }
def k6m0 : Method := { name := "common", desc := "(Lcom/example/loopwise/loopwise/frontend/Type;Lcom/example/loopwise/loopwise/frontend/Type;)Lcom/example/loopwise/loopwise/frontend/Type;", sig := { parameters := [(.object "com/example/loopwise/loopwise/frontend/Type"), (.object "com/example/loopwise/loopwise/frontend/Type")], returnType := some (.object "com/example/loopwise/loopwise/frontend/Type") }, accessFlags := 9, code := some k6c0 }
/-- com/example/loopwise/loopwise/frontend/Type -/
def k6 : Class := { plain "com/example/loopwise/loopwise/frontend/Type" (some 5) with
  accessFlags := 16433
  interfaces := #[]
  cf := some (fileOf pool6 1 #[] #[{ accessFlags := 9, nameIndex := 107, descriptorIndex := 108, attributes := #[] }] 16433 26 #[] #[{ accessFlags := 16409, nameIndex := 5, descriptorIndex := 6, attributes := #[] }, { accessFlags := 16409, nameIndex := 9, descriptorIndex := 6, attributes := #[] }, { accessFlags := 16409, nameIndex := 12, descriptorIndex := 6, attributes := #[] }, { accessFlags := 16409, nameIndex := 15, descriptorIndex := 6, attributes := #[] }, { accessFlags := 18, nameIndex := 37, descriptorIndex := 38, attributes := #[] }, { accessFlags := 18, nameIndex := 41, descriptorIndex := 38, attributes := #[] }, { accessFlags := 4122, nameIndex := 18, descriptorIndex := 19, attributes := #[] }])
  fields := #[{ name := "INT", type := (.object "com/example/loopwise/loopwise/frontend/Type"), accessFlags := 16409, slot := 0, constantValue := 0 }, { name := "FLOAT", type := (.object "com/example/loopwise/loopwise/frontend/Type"), accessFlags := 16409, slot := 1, constantValue := 0 }, { name := "DOUBLE", type := (.object "com/example/loopwise/loopwise/frontend/Type"), accessFlags := 16409, slot := 2, constantValue := 0 }, { name := "BOOL", type := (.object "com/example/loopwise/loopwise/frontend/Type"), accessFlags := 16409, slot := 3, constantValue := 0 }, { name := "keyword", type := (.object "java/lang/String"), accessFlags := 18, slot := 3, constantValue := 0 }, { name := "datatype", type := (.object "java/lang/String"), accessFlags := 18, slot := 4, constantValue := 0 }, { name := "$VALUES", type := (.array (.object "com/example/loopwise/loopwise/frontend/Type")), accessFlags := 4122, slot := 4, constantValue := 0 }]
  methods := #[k6m0]
  instanceTypes := #[(.object "java/lang/String"), .int, .int, (.object "java/lang/String"), (.object "java/lang/String")]
  staticTypes := #[(.object "com/example/loopwise/loopwise/frontend/Type"), (.object "com/example/loopwise/loopwise/frontend/Type"), (.object "com/example/loopwise/loopwise/frontend/Type"), (.object "com/example/loopwise/loopwise/frontend/Type"), (.array (.object "com/example/loopwise/loopwise/frontend/Type"))]
  resolved := Array.replicate 114 none
  statics := some 0 }

def pool7 : Array CpInfo := pool [(1, .class_ 2), (0, u "java/lang/Math"), (1, .class_ 6), (1, u "java/lang/Object"), (0, u "<init>"), (0, u "()V"), (89, .class_ 100), (1, u "java/lang/Math$RandomNumberGeneratorHolder"), (71, u "negativeZeroFloatBits"), (0, u "J"), (2, u "negativeZeroDoubleBits"), (21, u "max"), (46, u "$assertionsDisabled"), (0, u "Z"), (88, u "(II)I"), (2, u "twoToTheDoubleScaleDown"), (0, u "D"), (4, u "twoToTheDoubleScaleUp"), (9, u "E"), (3, u "PI"), (2, u "TAU"), (2, u "DEGREES_TO_RADIANS"), (0, u "RADIANS_TO_DEGREES")] 94

def k7m0 : Method := { name := "<init>", desc := "()V", sig := { parameters := [], returnType := none }, accessFlags := 2, code := none }
def k7c1 : Code := { maxStack := 2, maxLocals := 2, code := jdk_29_method_65_code, exceptionTable := #[], attributes := #[] }
def k7m1 : Method := { name := "max", desc := "(II)I", sig := { parameters := [.int, .int], returnType := some .int }, accessFlags := 9, code := some k7c1 }
/-- java/lang/Math -/
def k7 : Class := { plain "java/lang/Math" (some 0) with
  accessFlags := 49
  interfaces := #[]
  cf := some (fileOf pool7 1 #[.nestMembers #[98]] #[{ accessFlags := 2, nameIndex := 7, descriptorIndex := 8, attributes := #[] }, { accessFlags := 9, nameIndex := 198, descriptorIndex := 335, attributes := #[] }] 49 4 #[] #[{ accessFlags := 25, nameIndex := 354, descriptorIndex := 339, attributes := #[] }, { accessFlags := 25, nameIndex := 358, descriptorIndex := 339, attributes := #[] }, { accessFlags := 25, nameIndex := 361, descriptorIndex := 339, attributes := #[] }, { accessFlags := 26, nameIndex := 364, descriptorIndex := 339, attributes := #[] }, { accessFlags := 26, nameIndex := 365, descriptorIndex := 339, attributes := #[] }, { accessFlags := 26, nameIndex := 172, descriptorIndex := 173, attributes := #[] }, { accessFlags := 26, nameIndex := 176, descriptorIndex := 173, attributes := #[] }, { accessFlags := 8, nameIndex := 344, descriptorIndex := 339, attributes := #[] }, { accessFlags := 8, nameIndex := 338, descriptorIndex := 339, attributes := #[] }, { accessFlags := 4120, nameIndex := 245, descriptorIndex := 246, attributes := #[] }])
  fields := #[{ name := "E", type := .double, accessFlags := 25, slot := 0, constantValue := 0 }, { name := "PI", type := .double, accessFlags := 25, slot := 1, constantValue := 0 }, { name := "TAU", type := .double, accessFlags := 25, slot := 2, constantValue := 0 }, { name := "DEGREES_TO_RADIANS", type := .double, accessFlags := 26, slot := 3, constantValue := 0 }, { name := "RADIANS_TO_DEGREES", type := .double, accessFlags := 26, slot := 4, constantValue := 0 }, { name := "negativeZeroFloatBits", type := .long, accessFlags := 26, slot := 5, constantValue := 0 }, { name := "negativeZeroDoubleBits", type := .long, accessFlags := 26, slot := 6, constantValue := 0 }, { name := "twoToTheDoubleScaleUp", type := .double, accessFlags := 8, slot := 7, constantValue := 0 }, { name := "twoToTheDoubleScaleDown", type := .double, accessFlags := 8, slot := 8, constantValue := 0 }, { name := "$assertionsDisabled", type := .boolean, accessFlags := 4120, slot := 9, constantValue := 0 }]
  methods := #[k7m0, k7m1]
  instanceTypes := #[]
  staticTypes := #[.double, .double, .double, .double, .double, .long, .long, .double, .double, .boolean]
  resolved := Array.replicate 460 none
  statics := none }

def pool8 : Array CpInfo := pool [(1, u "java/lang/Cloneable"), (0, .class_ 1), (0, u "java/lang/Object"), (0, .class_ 3)] 3

/-- java/lang/Cloneable -/
def k8 : Class := { plain "java/lang/Cloneable" (some 0) with
  accessFlags := 1537
  interfaces := #[]
  cf := some (fileOf pool8 2 #[] #[] 1537 4 #[] #[])
  fields := #[]
  methods := #[]
  instanceTypes := #[]
  staticTypes := #[]
  resolved := Array.replicate 8 none
  statics := none }

/-- the primitive byte -/
def k9 : Class := { plain "byte" none with kind := .primitive 'B', accessFlags := 0x411 }
/-- [B -/
def k10 : Class := { plain "[B" (some 0) with kind := .array 9 .byte, interfaces := #[8, 4], accessFlags := 1041 }

/-- the primitive int -/
def k11 : Class := { plain "int" none with kind := .primitive 'I', accessFlags := 0x411 }
/-- [I -/
def k12 : Class := { plain "[I" (some 0) with kind := .array 11 .int, interfaces := #[8, 4], accessFlags := 1041 }

def heap : Heap := #[{ cls := 6, slots := #[.ref 1, .ref 2, .ref 3, .ref 4, .null], vm := .statics 6 },
  { cls := 6, slots := #[.null, .int 0, .int 0, .null, .null], vm := .none },
  { cls := 6, slots := #[.null, .int 1, .int 0, .null, .null], vm := .none },
  { cls := 6, slots := #[.null, .int 2, .int 0, .null, .null], vm := .none },
  { cls := 6, slots := #[.null, .int 3, .int 0, .null, .null], vm := .none }]
def classes : Array Class := #[k0, k1, k2, k3, k4, k5, k6, k7, k8, k9, k10, k11, k12]
def interned : List (Array UInt16 × Addr) := []
def slotsUsed : Nat := 25
def theMethod : MethodId := ⟨1, 4⟩
def args0 : Array Value := #[.int 5, .int 7]
def aboutOver (below : List Frame) : State where
  vm := { classes := classes, interned := interned.toArray }
  heap := heap
  slotsUsed := slotsUsed
  threads := #[{ frames := .invoking theMethod args0 :: below }]
def below0 : List Frame := [.native { method := ⟨0, 0⟩, args := #[] }]
def about1 : State := aboutOver below0
def p0 : Program := .bare "" "" ""
def e0 : Env := launch0.env 0 0 0
theorem w_frames : about1.frames = Frame.invoking theMethod args0 :: below0 := rfl
set_option maxRecDepth 65536 in
theorem w_args : argsFit about1.vm theMethod args0 = true := by decide +kernel
set_option maxRecDepth 65536 in
theorem w_heap : heapFits about1 = true := by decide +kernel
set_option maxRecDepth 65536 in
theorem w_runnable : about1.curStatus? = some .runnable := by decide +kernel
set_option maxRecDepth 65536 in
theorem w_alone : about1.alone = true := by decide +kernel
set_option maxRecDepth 65536 in
theorem w_named : about1.methodNamed? x = some theMethod := by decide +kernel
set_option maxRecDepth 65536 in
theorem w_hears : about1.hears theMethod below0 = true := by decide +kernel
set_option maxRecDepth 65536 in
theorem w_ripe : about1.ripe theMethod args0 below0 = true := by decide +kernel
theorem w_running : about1.status = .running := rfl
set_option maxRecDepth 65536 in
theorem w_room : about1.hasRoom e0.platform room_1 = true :=
  launch0.hasRoom_least _ room_1 (by decide +kernel) (by decide +kernel) (by decide +kernel) (by decide +kernel) (by decide +kernel) (by decide +kernel)
theorem allAtoms_all (ts : List Jvm.Cond) (a : Array Jvm.Value) (st : Jvm.State) : (allAtoms ts).before a st = ts.all (fun c => c.before a st) := by
  induction ts with
  | nil => rfl
  | cons c t ih =>
    show (Jvm.Cond.and c (allAtoms t)).before a st = _
    rw [Jvm.Cond.before_and, ih, List.all_cons]
def words1 : List Jvm.Cond := Jvm.Cond.code x code maxLocals ret :: tables_1
/-- a 'code' word, met by the world's own term for the bytes: nothing is compared byte by byte -/
theorem code_word {y : MethodName} {bytes : ByteArray} {mx : Nat} {rt : Option FieldType} {a : Array Value} {s : State} {m : MethodId} {meth : Method} {c : Code} (h1 : s.methodNamed? y = some m) (h2 : s.vm.method? m = some meth) (h3 : meth.code = some c) (h4 : c.code = bytes)
    (h5 : (c.maxLocals == mx && c.exceptionTable.isEmpty && decide (c.maxStack ≤ mostOperands) && decide (meth.sig.returnType = rt) && !meth.locks && decide (parseMethodDescriptor y.desc = some meth.sig)) = true) : (Jvm.Cond.code y bytes mx rt).before a s = true := by
  simp only [Bool.and_eq_true, beq_iff_eq, Bool.not_eq_true', decide_eq_true_eq] at h5
  obtain ⟨⟨⟨⟨⟨g1, g2⟩, g3⟩, g4⟩, g5⟩, g6⟩ := h5
  simp [Cond.before, Cond.holds, Cond.value, h1, h2, h3, h4, g1, g2, g3, g4, g5, g6]
def isCode : Jvm.Cond → Bool
  | .code _ _ _ _ => true
  | _ => false
theorem all_split {L : List Jvm.Cond} {P : Jvm.Cond → Bool} (h1 : L.all (fun c => isCode c || P c) = true) (h2 : ∀ c ∈ L.filter isCode, P c = true) : L.all P = true := by
  refine List.all_eq_true.mpr fun c hc => ?_
  have h := List.all_eq_true.mp h1 c hc
  rcases Bool.eq_false_or_eq_true (isCode c) with hi | hi
  · exact h2 c (List.mem_filter.mpr ⟨hc, hi⟩)
  · simpa [hi] using h
set_option maxRecDepth 65536 in
theorem w_c0 : (Jvm.Cond.code x code maxLocals ret).before args0 about1 = true := code_word (m := ⟨1, 4⟩) (meth := k1m4) (c := k1c4) (by decide +kernel) rfl rfl rfl (by decide +kernel)
set_option maxRecDepth 65536 in
theorem w_c1 : (Jvm.Cond.code ({ cls := "com/example/loopwise/loopwise/frontend/TypeCommonPinLaw", name := "pick", desc := "(I)Lcom/example/loopwise/loopwise/frontend/Type;" } : Jvm.MethodName) method_2_code (2 : Nat) (Option.some (Jvm.ClassFile.FieldType.object "com/example/loopwise/loopwise/frontend/Type"))).before args0 about1 = true := code_word (m := ⟨1, 1⟩) (meth := k1m1) (c := k1c1) (by decide +kernel) rfl rfl rfl (by decide +kernel)
set_option maxRecDepth 65536 in
theorem w_c2 : (Jvm.Cond.code ({ cls := "com/example/loopwise/loopwise/frontend/Type", name := "common", desc := "(Lcom/example/loopwise/loopwise/frontend/Type;Lcom/example/loopwise/loopwise/frontend/Type;)Lcom/example/loopwise/loopwise/frontend/Type;" } : Jvm.MethodName) prog_344_method_10_code (2 : Nat) (Option.some (Jvm.ClassFile.FieldType.object "com/example/loopwise/loopwise/frontend/Type"))).before args0 about1 = true := code_word (m := ⟨6, 0⟩) (meth := k6m0) (c := k6c0) (by decide +kernel) rfl rfl rfl (by decide +kernel)
set_option maxRecDepth 65536 in
theorem w_c3 : (Jvm.Cond.code ({ cls := "com/example/loopwise/loopwise/frontend/TypeCommonPinLaw", name := "rank", desc := "(Lcom/example/loopwise/loopwise/frontend/Type;)I" } : Jvm.MethodName) method_3_code (1 : Nat) (Option.some Jvm.ClassFile.FieldType.int)).before args0 about1 = true := code_word (m := ⟨1, 2⟩) (meth := k1m2) (c := k1c2) (by decide +kernel) rfl rfl rfl (by decide +kernel)
set_option maxRecDepth 65536 in
theorem w_c4 : (Jvm.Cond.code ({ cls := "java/lang/Math", name := "max", desc := "(II)I" } : Jvm.MethodName) jdk_29_method_65_code (2 : Nat) (Option.some Jvm.ClassFile.FieldType.int)).before args0 about1 = true := code_word (m := ⟨7, 1⟩) (meth := k7m1) (c := k7c1) (by decide +kernel) rfl rfl rfl (by decide +kernel)
set_option maxRecDepth 65536 in
theorem w_c5 : (Jvm.Cond.code ({ cls := "com/example/loopwise/loopwise/frontend/TypeCommonPinLaw", name := "ofRank", desc := "(I)Lcom/example/loopwise/loopwise/frontend/Type;" } : Jvm.MethodName) method_4_code (1 : Nat) (Option.some (Jvm.ClassFile.FieldType.object "com/example/loopwise/loopwise/frontend/Type"))).before args0 about1 = true := code_word (m := ⟨1, 3⟩) (meth := k1m3) (c := k1c3) (by decide +kernel) rfl rfl rfl (by decide +kernel)
def codes1 : List Jvm.Cond := [Jvm.Cond.code x code maxLocals ret, Jvm.Cond.code ({ cls := "com/example/loopwise/loopwise/frontend/TypeCommonPinLaw", name := "pick", desc := "(I)Lcom/example/loopwise/loopwise/frontend/Type;" } : Jvm.MethodName) method_2_code (2 : Nat) (Option.some (Jvm.ClassFile.FieldType.object "com/example/loopwise/loopwise/frontend/Type")), Jvm.Cond.code ({ cls := "com/example/loopwise/loopwise/frontend/Type", name := "common", desc := "(Lcom/example/loopwise/loopwise/frontend/Type;Lcom/example/loopwise/loopwise/frontend/Type;)Lcom/example/loopwise/loopwise/frontend/Type;" } : Jvm.MethodName) prog_344_method_10_code (2 : Nat) (Option.some (Jvm.ClassFile.FieldType.object "com/example/loopwise/loopwise/frontend/Type")), Jvm.Cond.code ({ cls := "com/example/loopwise/loopwise/frontend/TypeCommonPinLaw", name := "rank", desc := "(Lcom/example/loopwise/loopwise/frontend/Type;)I" } : Jvm.MethodName) method_3_code (1 : Nat) (Option.some Jvm.ClassFile.FieldType.int), Jvm.Cond.code ({ cls := "java/lang/Math", name := "max", desc := "(II)I" } : Jvm.MethodName) jdk_29_method_65_code (2 : Nat) (Option.some Jvm.ClassFile.FieldType.int), Jvm.Cond.code ({ cls := "com/example/loopwise/loopwise/frontend/TypeCommonPinLaw", name := "ofRank", desc := "(I)Lcom/example/loopwise/loopwise/frontend/Type;" } : Jvm.MethodName) method_4_code (1 : Nat) (Option.some (Jvm.ClassFile.FieldType.object "com/example/loopwise/loopwise/frontend/Type"))]
set_option maxRecDepth 65536 in
theorem codes_eq : words1.filter isCode = codes1 := rfl
theorem w_codes : ∀ c ∈ words1.filter isCode, c.before args0 about1 = true := by
  rw [codes_eq]
  intro c hc
  simp only [codes1, List.mem_cons, List.not_mem_nil, or_false] at hc
  rcases hc with rfl | rfl | rfl | rfl | rfl | rfl
  · exact w_c0
  · exact w_c1
  · exact w_c2
  · exact w_c3
  · exact w_c4
  · exact w_c5
set_option maxRecDepth 65536 in
theorem w_t1 : (words1.take 24).all (fun c => isCode c || c.before args0 about1) = true := by decide +kernel
set_option maxRecDepth 65536 in
theorem w_t2 : (words1.drop 24).all (fun c => isCode c || c.before args0 about1) = true := by decide +kernel
theorem w_tables : (allAtoms (Jvm.Cond.code x code maxLocals ret :: tables_1)).before args0 about1 = true := by
  rw [allAtoms_all]
  show words1.all (fun c => c.before args0 about1) = true
  refine all_split ?_ w_codes
  rw [← List.take_append_drop 24 words1, List.all_append, w_t1, w_t2]
  rfl
set_option maxRecDepth 65536 in
theorem w_case : (Jvm.Cond.and given_1 narrow_1).before args0 about1 = true := by decide +kernel
theorem w_applies : (headSpec (Jvm.Cond.code x code maxLocals ret :: tables_1) room_1).applies x e0.platform about1 = true :=
  (Spec.applies_iff w_frames).mpr ⟨w_running, w_runnable, w_alone, w_named, w_hears, w_ripe, w_room, w_tables⟩
theorem atStart : AtStart classFile x code maxLocals ret World_1 tables_1 room_1 Calls_1 rest_1 Pre_1 launch0 p0 e0 about1 theMethod args0 below0 :=
  ⟨lists_1, trivial, launch0.admits_env _ _ _, launch0.least_env, fairChoices_fair.cas, fairChoices_fair.clock, w_frames, w_args, w_heap, w_applies, trivial, trivial, w_case⟩
end start1
theorem witness_1 : WitnessClaimed_1 := ⟨start1.p0, start1.e0, start1.about1, start1.theMethod, start1.args0, start1.below0, start1.atStart⟩
end Jvm.Pilot.@@N@@
