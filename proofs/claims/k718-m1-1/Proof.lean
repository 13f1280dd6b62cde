import JvmDerived
import JvmDerived.Pilot.@@N@@Statement
import JvmDerived.Pilot.@@N@@Code
set_option linter.unusedVariables false
set_option linter.unusedSimpArgs false
namespace Jvm.RoadKit
open Sem ClassFile Op Lib Jvm.Stand Jvm.Free Jvm.LawKit
section New
variable {p : Program} {l : Launch} {e : Env} {R : Room} {s : State} {m : MethodId} {args : Array Value} {below : List Frame} {meth : Method} {c : Code} {T : State} {locs : List Loc} {cells slots : Nat}
theorem retI (X : Stand p l e R s m args below meth c T locs cells slots) (hx : p.tables.exec = Jvm.exec) {pc : Nat} {Ls : Array Slot} {z : Int32} {rest : List Value} (hret : meth.sig.returnType = some .int) (hd : decode c.code pc = .ok (.ireturn, 1)) {fs : List Frame}
    (hl : ∀ (f : JFrame) (acts : List Action), f.method = m → f.locked = none → f.entered = [] → (doReturn e (T.setTop f) acts (some (.int z))).1 = T.setFrames fs) : Steps p.tables e below (T.setTop (mkF m pc Ls (.int z :: rest))) (T.setFrames fs) := by
  have hm' : T.vm.method? m = some meth := X.method'
  have hn : narrow .int (.int z) = .int z := rfl
  show Steps p.tables e below (T.setTop { method := m, pc := pc, locals := Ls, stack := _ :: rest, locked := none }) _
  jvm_step X.here [X.here.top, hx, hd, hm', hret, hn]
  first | (intro acts; rw [hl _ acts rfl rfl rfl]) | rw [hl _ _ rfl rfl rfl]
  exact Steps.refl _
end New
end Jvm.RoadKit
namespace Jvm.Pilot.@@N@@
open Jvm Jvm.ClassFile Sem Op Lib Jvm.Free Jvm.Stand Jvm.LawKit Jvm.RoadKit Bundle Jvm.Pilot.@@N@@.Jvm.D
def QP (w : Option Value) (h0 : Heap) (n0 : Nat) (v : Option Value) (h : Heap) (L : List Loc) : Prop := v = w ∧ Fr n0 L ∧ h = h0
theorem own_eqi {args : Array Value} {first s : State} {o : Option Outcome} {idx : List Nat} {t : Term} {k : Int32} (h : (Jvm.Cond.eq t (.int k)).value args first o s idx = some true) : t.eval args first o idx s = some (.int k) := by
  simp only [Cond.value, Term.eval] at h
  cases ht : t.eval args first o idx s with
  | none => simp [ht] at h
  | some x => cases x <;> simp [ht] at h ⊢ <;> exact h
theorem d1_0 : decode method_2_code 0 = .ok (.iload_n 0, 1) := by decide +kernel
theorem d1_1 : decode method_2_code 1 = .ok (.ifCond .ne 7, 3) := by decide +kernel
theorem d1_4 : decode method_2_code 4 = .ok (.getstatic 7, 3) := by decide +kernel
theorem d1_7 : decode method_2_code 7 = .ok (.areturn, 1) := by decide +kernel
theorem d1_8 : decode method_2_code 8 = .ok (.getstatic 13, 3) := by decide +kernel
theorem d1_11 : decode method_2_code 11 = .ok (.areturn, 1) := by decide +kernel
theorem pn_1 : plainName "com/example/hard_delay_bounds/harddelaybounds/analysis/MultiplexingIsOneWayOfPinLaw" = true := by first | (simp [plainName, overriddenIn]; done) | decide +kernel
theorem ef_1 (m : MethodId) (x0 : Int32) : entryFrame m #[(.int x0)] 1 = mkF m 0 #[.val (.int x0)] [] := by first | (simp [entryFrame, mkF, argsToLocals, Value.category]; done) | rfl
def f1 (p1 : Int32) (w_ARBITRARY : Addr) (w_FIFO : Addr) : Addr := (if p1 = (0 : Int32) then w_ARBITRARY else w_FIFO)
set_option maxRecDepth 65536 in
set_option maxHeartbeats 40000000 in
theorem rm1 (l : Launch) (Z : State) (a0 : Array Value) (hw : ∀ d ∈ tables_1, d.before a0 Z = true) (ws : List Jvm.Cond) (p1 : Int32) (w_ARBITRARY : Addr) (w_FIFO : Addr) (h0 : Heap) (n0 : Nat) (Z0 : n0 ≤ h0.size) (S_ARBITRARY : Sta Z h0 "com/example/hard_delay_bounds/harddelaybounds/analysis/Multiplexing" "ARBITRARY" "Lcom/example/hard_delay_bounds/harddelaybounds/analysis/Multiplexing;" (.ref w_ARBITRARY)) (S_FIFO : Sta Z h0 "com/example/hard_delay_bounds/harddelaybounds/analysis/Multiplexing" "FIFO" "Lcom/example/hard_delay_bounds/harddelaybounds/analysis/Multiplexing;" (.ref w_FIFO)) :
    MetFree l (⟨"com/example/hard_delay_bounds/harddelaybounds/analysis/MultiplexingIsOneWayOfPinLaw", "pick", "(I)Lcom/example/hard_delay_bounds/harddelaybounds/analysis/Multiplexing;"⟩ : MethodName) (head1 (Jvm.Cond.code (⟨"com/example/hard_delay_bounds/harddelaybounds/analysis/MultiplexingIsOneWayOfPinLaw", "pick", "(I)Lcom/example/hard_delay_bounds/harddelaybounds/analysis/Multiplexing;"⟩ : MethodName) method_2_code 1 (some (.object "com/example/hard_delay_bounds/harddelaybounds/analysis/Multiplexing")) :: ws) ({ frames := 0, cells := 0, slots := 0, locals := 0 } : Room)) (fun a U => a = #[(.int p1)] ∧ Z.Warmed39 U.vm ∧ U.heap = h0) (fun _ _ _ _ _ => True) (fun _ U o U' => ∃ v L, o = .returned v ∧ QP (some (.ref (f1 p1 w_ARBITRARY w_FIFO))) h0 n0 v U'.heap L ∧ FrameEnd U o U' L ({ frames := 0, cells := 0, slots := 0, locals := 0 } : Room).cells ({ frames := 0, cells := 0, slots := 0, locals := 0 } : Room).slots) := by
  refine MetFree.of_bodySF (plainFor_of_name pn_1) hisR ?_
  intro p e s m args below meth c s₁ Bd hml0 hP hK
  obtain ⟨rfl, hZ, hh⟩ := hP
  have hx := Bd.exec
  have hby := Bd.bytes
  have hml : c.maxLocals = 1 := hml0
  have hown : s.vm.findClass "com/example/hard_delay_bounds/harddelaybounds/analysis/MultiplexingIsOneWayOfPinLaw" = some m.cls := findClass_of_methodNamed Bd.named
  have hnm := (name_of_methodNamed Bd.named Bd.method).1
  have X0 : Stand p l e ({ frames := 0, cells := 0, slots := 0, locals := 0 } : Room) s m #[(.int p1)] below meth c s₁ [] 0 0 := Stand.of_body Bd
  have e0 : s₁.heap = h0 := by rw [← hh, Bd.state]; rfl
  have N0 := Fr.nil n0
  have pre0 : ∀ t, Steps p.tables e below (s₁.setTop (mkF m 0 #[.val (.int p1)] [])) t → Steps p.tables e below (s₁.setTop (entryFrame m #[(.int p1)] 1)) t := fun t k => castTop (ef_1 m p1) k
  have pre2 : ∀ t, Steps p.tables e below (s₁.setTop (mkF m 1 #[.val (.int p1)] [(.int p1)])) t → Steps p.tables e below (s₁.setTop (entryFrame m #[(.int p1)] 1)) t := fun t k => by
    refine pre0 _ ?_
    show Steps p.tables e below (s₁.setTop (mkF m 0 #[.val (.int p1)] [])) _
    refine XS.iloadN X0.here hx rfl (hb hby d1_0) rfl ?_
    exact k
  by_cases hc1 : p1 = (0 : Int32)
  · obtain ⟨T3, X3, e3, st3⟩ := getS2 X0 hx hZ hown (host := "") (Or.inl (hw _ (List.mem_of_getElem? (i := 4) rfl))) Via.refl e0 S_ARBITRARY (g := (mkF m 4 #[.val (.int p1)] [])) rfl (hb hby d1_4)
    obtain ⟨fs, hr, hrun, hended, hW, hsame⟩ := X3.leave (v := some (.ref w_ARBITRARY)) (fun h => by rw [Bd.returns] at h; cases h)
    refine ⟨_, _, pre2 _ ?_, hrun, hended, _, _, rfl, ?_, ⟨_, rfl⟩, hW, hsame.mono (by decide) (by decide)⟩
    · show Steps p.tables e below (s₁.setTop (mkF m 1 #[.val (.int p1)] [(.int p1)])) _
      refine XS.ifNo X0.here hx rfl (hb hby d1_1) rfl ((if0 _ _).trans (teq hc1).2) ?_
      show Steps p.tables e below (s₁.setTop (mkF m 4 #[.val (.int p1)] [])) _
      refine st3 _ ?_
      show Steps p.tables e below (T3.setTop (mkF m 7 #[.val (.int p1)] [(.ref w_ARBITRARY)])) _
      jvm_step X3.here [X3.here.top, hx, (hb hby d1_7), X3.method', Bd.returns, Value.isRef, FieldType.isReference]
      first | (intro acts; rw [hr _ acts rfl rfl rfl]) | rw [hr _ _ rfl rfl rfl]
      exact Steps.refl _
    · show QP _ h0 n0 _ T3.heap _
      rw [e3, show f1 p1 w_ARBITRARY w_FIFO = w_ARBITRARY from by unfold f1; rw [if_pos hc1]]
      exact ⟨rfl, N0, rfl⟩
  · obtain ⟨T4, X4, e4, st4⟩ := getS2 X0 hx hZ hown (host := "") (Or.inl (hw _ (List.mem_of_getElem? (i := 7) rfl))) Via.refl e0 S_FIFO (g := (mkF m 8 #[.val (.int p1)] [])) rfl (hb hby d1_8)
    obtain ⟨fs, hr, hrun, hended, hW, hsame⟩ := X4.leave (v := some (.ref w_FIFO)) (fun h => by rw [Bd.returns] at h; cases h)
    refine ⟨_, _, pre2 _ ?_, hrun, hended, _, _, rfl, ?_, ⟨_, rfl⟩, hW, hsame.mono (by decide) (by decide)⟩
    · show Steps p.tables e below (s₁.setTop (mkF m 1 #[.val (.int p1)] [(.int p1)])) _
      refine XS.ifYes X0.here hx rfl (pc0 := 1) (pc' := 8) rfl (hb hby d1_1) rfl ((if0 _ _).trans (feq hc1).2) (by decide) (by decide) ?_
      show Steps p.tables e below (s₁.setTop (mkF m 8 #[.val (.int p1)] [])) _
      refine st4 _ ?_
      show Steps p.tables e below (T4.setTop (mkF m 11 #[.val (.int p1)] [(.ref w_FIFO)])) _
      jvm_step X4.here [X4.here.top, hx, (hb hby d1_11), X4.method', Bd.returns, Value.isRef, FieldType.isReference]
      first | (intro acts; rw [hr _ acts rfl rfl rfl]) | rw [hr _ _ rfl rfl rfl]
      exact Steps.refl _
    · show QP _ h0 n0 _ T4.heap _
      rw [e4, show f1 p1 w_ARBITRARY w_FIFO = w_FIFO from by unfold f1; rw [if_neg hc1]]
      exact ⟨rfl, N0, rfl⟩
theorem f1_all {P : Addr → Prop} (p1 : Int32) (w_ARBITRARY : Addr) (w_FIFO : Addr) (H_w_ARBITRARY : P w_ARBITRARY) (H_w_FIFO : P w_FIFO) : P (f1 p1 w_ARBITRARY w_FIFO) := by
  unfold f1
  repeat' split
  all_goals assumption
theorem d2_0 : decode prog_22_method_4_code 0 = .ok (.aload_n 1, 1) := by decide +kernel
theorem d2_1 : decode prog_22_method_4_code 1 = .ok (.getstatic 3, 3) := by decide +kernel
theorem d2_4 : decode prog_22_method_4_code 4 = .ok (.if_acmp .eq 8, 3) := by decide +kernel
theorem d2_12 : decode prog_22_method_4_code 12 = .ok (.iconst 1, 1) := by decide +kernel
theorem d2_13 : decode prog_22_method_4_code 13 = .ok (.goto 4, 3) := by decide +kernel
theorem d2_17 : decode prog_22_method_4_code 17 = .ok (.ireturn, 1) := by decide +kernel
theorem d2_7 : decode prog_22_method_4_code 7 = .ok (.aload_n 1, 1) := by decide +kernel
theorem d2_8 : decode prog_22_method_4_code 8 = .ok (.aload_n 0, 1) := by decide +kernel
theorem d2_9 : decode prog_22_method_4_code 9 = .ok (.if_acmp .ne 7, 3) := by decide +kernel
theorem d2_16 : decode prog_22_method_4_code 16 = .ok (.iconst 0, 1) := by decide +kernel
theorem pn_2 : plainName "com/example/hard_delay_bounds/harddelaybounds/analysis/Multiplexing" = true := by first | (simp [plainName, overriddenIn]; done) | decide +kernel
theorem ef_2 (m : MethodId) (x0 : Addr) (x1 : Addr) : entryFrame m #[(.ref x0), (.ref x1)] 2 = mkF m 0 #[.val (.ref x0), .val (.ref x1)] [] := by first | (simp [entryFrame, mkF, argsToLocals, Value.category]; done) | rfl
def f2 (a1 : Addr) (a2 : Addr) (w_ARBITRARY : Addr) : Int32 := (if a2 = w_ARBITRARY then (1 : Int32) else (if a2 = a1 then (1 : Int32) else (0 : Int32)))
set_option maxRecDepth 65536 in
set_option maxHeartbeats 40000000 in
theorem rm2 (l : Launch) (Z : State) (a0 : Array Value) (hw : ∀ d ∈ tables_1, d.before a0 Z = true) (ws : List Jvm.Cond) (a1 : Addr) (a2 : Addr) (w_ARBITRARY : Addr) (h0 : Heap) (n0 : Nat) (Z0 : n0 ≤ h0.size) (S_ARBITRARY : Sta Z h0 "com/example/hard_delay_bounds/harddelaybounds/analysis/Multiplexing" "ARBITRARY" "Lcom/example/hard_delay_bounds/harddelaybounds/analysis/Multiplexing;" (.ref w_ARBITRARY)) :
    MetFree l (⟨"com/example/hard_delay_bounds/harddelaybounds/analysis/Multiplexing", "isOneWayOf", "(Lcom/example/hard_delay_bounds/harddelaybounds/analysis/Multiplexing;)Z"⟩ : MethodName) (head1 (Jvm.Cond.code (⟨"com/example/hard_delay_bounds/harddelaybounds/analysis/Multiplexing", "isOneWayOf", "(Lcom/example/hard_delay_bounds/harddelaybounds/analysis/Multiplexing;)Z"⟩ : MethodName) prog_22_method_4_code 2 (some .boolean) :: ws) ({ frames := 0, cells := 0, slots := 0, locals := 0 } : Room)) (fun a U => a = #[(.ref a1), (.ref a2)] ∧ Z.Warmed39 U.vm ∧ U.heap = h0) (fun _ _ _ _ _ => True) (fun _ U o U' => ∃ v L, o = .returned v ∧ QP (some (.int (f2 a1 a2 w_ARBITRARY))) h0 n0 v U'.heap L ∧ FrameEnd U o U' L ({ frames := 0, cells := 0, slots := 0, locals := 0 } : Room).cells ({ frames := 0, cells := 0, slots := 0, locals := 0 } : Room).slots) := by
  refine MetFree.of_bodySF (plainFor_of_name pn_2) hisR ?_
  intro p e s m args below meth c s₁ Bd hml0 hP hK
  obtain ⟨rfl, hZ, hh⟩ := hP
  have hx := Bd.exec
  have hby := Bd.bytes
  have hml : c.maxLocals = 2 := hml0
  have hown : s.vm.findClass "com/example/hard_delay_bounds/harddelaybounds/analysis/Multiplexing" = some m.cls := findClass_of_methodNamed Bd.named
  have hnm := (name_of_methodNamed Bd.named Bd.method).1
  have X0 : Stand p l e ({ frames := 0, cells := 0, slots := 0, locals := 0 } : Room) s m #[(.ref a1), (.ref a2)] below meth c s₁ [] 0 0 := Stand.of_body Bd
  have e0 : s₁.heap = h0 := by rw [← hh, Bd.state]; rfl
  have N0 := Fr.nil n0
  have pre0 : ∀ t, Steps p.tables e below (s₁.setTop (mkF m 0 #[.val (.ref a1), .val (.ref a2)] [])) t → Steps p.tables e below (s₁.setTop (entryFrame m #[(.ref a1), (.ref a2)] 2)) t := fun t k => castTop (ef_2 m a1 a2) k
  obtain ⟨T5, X5, e5, st5⟩ := getS2 X0 hx hZ hown (host := "") (Or.inl (hw _ (List.mem_of_getElem? (i := 14) rfl))) Via.refl e0 S_ARBITRARY (g := (mkF m 1 #[.val (.ref a1), .val (.ref a2)] [(.ref a2)])) rfl (hb hby d2_1)
  have pre7 : ∀ t, Steps p.tables e below (T5.setTop (mkF m 4 #[.val (.ref a1), .val (.ref a2)] [(.ref w_ARBITRARY), (.ref a2)])) t → Steps p.tables e below (s₁.setTop (entryFrame m #[(.ref a1), (.ref a2)] 2)) t := fun t k => by
    refine pre0 _ ?_
    show Steps p.tables e below (s₁.setTop (mkF m 0 #[.val (.ref a1), .val (.ref a2)] [])) _
    refine XS.aloadN X0.here hx rfl (hb hby d2_0) rfl rfl ?_
    show Steps p.tables e below (s₁.setTop (mkF m 1 #[.val (.ref a1), .val (.ref a2)] [(.ref a2)])) _
    refine st5 _ ?_
    exact k
  by_cases hc6 : a2 = w_ARBITRARY
  · obtain ⟨fs, hr, hrun, hended, hW, hsame⟩ := X5.leave (v := some (.int (1 : Int32))) (fun h => by rw [Bd.returns] at h; cases h)
    refine ⟨_, _, pre7 _ ?_, hrun, hended, _, _, rfl, ?_, ⟨_, rfl⟩, hW, hsame.mono (by decide) (by decide)⟩
    · show Steps p.tables e below (T5.setTop (mkF m 4 #[.val (.ref a1), .val (.ref a2)] [(.ref w_ARBITRARY), (.ref a2)])) _
      refine Jvm.RoadKit.acmp (g := (mkF m 4 #[.val (.ref a1), .val (.ref a2)] [(.ref w_ARBITRARY), (.ref a2)])) X5 hx rfl rfl rfl (pc0 := 4) (pc' := 12) (same := true) rfl (hb hby d2_4) rfl (decide_eq_true (congrArg Value.ref hc6)) (by decide) (by decide) ?_
      show Steps p.tables e below (T5.setTop (mkF m 12 #[.val (.ref a1), .val (.ref a2)] [])) _
      refine XS.iconst X5.here hx rfl (hb hby d2_12) ?_
      show Steps p.tables e below (T5.setTop (mkF m 13 #[.val (.ref a1), .val (.ref a2)] [(.int (1 : Int32))])) _
      refine XS.goto X5.here hx rfl (pc0 := 13) (pc' := 17) rfl (hb hby d2_13) (by decide) (by decide) ?_
      show Steps p.tables e below (T5.setTop (mkF m 17 #[.val (.ref a1), .val (.ref a2)] [(.int (1 : Int32))])) _
      exact retN X5 hx (t := .boolean) Bd.returns (by simp) (hb hby d2_17) hr
    · show QP _ h0 n0 _ T5.heap _
      rw [e5, show f2 a1 a2 w_ARBITRARY = (1 : Int32) from by unfold f2; rw [if_pos hc6]]
      exact ⟨rfl, N0, rfl⟩
  · have pre9 : ∀ t, Steps p.tables e below (T5.setTop (mkF m 9 #[.val (.ref a1), .val (.ref a2)] [(.ref a1), (.ref a2)])) t → Steps p.tables e below (s₁.setTop (entryFrame m #[(.ref a1), (.ref a2)] 2)) t := fun t k => by
      refine pre7 _ ?_
      show Steps p.tables e below (T5.setTop (mkF m 4 #[.val (.ref a1), .val (.ref a2)] [(.ref w_ARBITRARY), (.ref a2)])) _
      refine Jvm.RoadKit.acmp (g := (mkF m 4 #[.val (.ref a1), .val (.ref a2)] [(.ref w_ARBITRARY), (.ref a2)])) X5 hx rfl rfl rfl (pc0 := 4) (pc' := 7) (same := false) rfl (hb hby d2_4) rfl (decide_eq_false fun q => hc6 (Value.ref.inj q)) (by decide) (by decide) ?_
      show Steps p.tables e below (T5.setTop (mkF m 7 #[.val (.ref a1), .val (.ref a2)] [])) _
      refine XS.aloadN X5.here hx rfl (hb hby d2_7) rfl rfl ?_
      show Steps p.tables e below (T5.setTop (mkF m 8 #[.val (.ref a1), .val (.ref a2)] [(.ref a2)])) _
      refine XS.aloadN X5.here hx rfl (hb hby d2_8) rfl rfl ?_
      exact k
    by_cases hc8 : a2 = a1
    · obtain ⟨fs, hr, hrun, hended, hW, hsame⟩ := X5.leave (v := some (.int (1 : Int32))) (fun h => by rw [Bd.returns] at h; cases h)
      refine ⟨_, _, pre9 _ ?_, hrun, hended, _, _, rfl, ?_, ⟨_, rfl⟩, hW, hsame.mono (by decide) (by decide)⟩
      · show Steps p.tables e below (T5.setTop (mkF m 9 #[.val (.ref a1), .val (.ref a2)] [(.ref a1), (.ref a2)])) _
        refine Jvm.RoadKit.acmp (g := (mkF m 9 #[.val (.ref a1), .val (.ref a2)] [(.ref a1), (.ref a2)])) X5 hx rfl rfl rfl (pc0 := 9) (pc' := 12) (same := true) rfl (hb hby d2_9) rfl (decide_eq_true (congrArg Value.ref hc8)) (by decide) (by decide) ?_
        show Steps p.tables e below (T5.setTop (mkF m 12 #[.val (.ref a1), .val (.ref a2)] [])) _
        refine XS.iconst X5.here hx rfl (hb hby d2_12) ?_
        show Steps p.tables e below (T5.setTop (mkF m 13 #[.val (.ref a1), .val (.ref a2)] [(.int (1 : Int32))])) _
        refine XS.goto X5.here hx rfl (pc0 := 13) (pc' := 17) rfl (hb hby d2_13) (by decide) (by decide) ?_
        show Steps p.tables e below (T5.setTop (mkF m 17 #[.val (.ref a1), .val (.ref a2)] [(.int (1 : Int32))])) _
        exact retN X5 hx (t := .boolean) Bd.returns (by simp) (hb hby d2_17) hr
      · show QP _ h0 n0 _ T5.heap _
        rw [e5, show f2 a1 a2 w_ARBITRARY = (1 : Int32) from by unfold f2; rw [if_neg hc6, if_pos hc8]]
        exact ⟨rfl, N0, rfl⟩
    · obtain ⟨fs, hr, hrun, hended, hW, hsame⟩ := X5.leave (v := some (.int (0 : Int32))) (fun h => by rw [Bd.returns] at h; cases h)
      refine ⟨_, _, pre9 _ ?_, hrun, hended, _, _, rfl, ?_, ⟨_, rfl⟩, hW, hsame.mono (by decide) (by decide)⟩
      · show Steps p.tables e below (T5.setTop (mkF m 9 #[.val (.ref a1), .val (.ref a2)] [(.ref a1), (.ref a2)])) _
        refine Jvm.RoadKit.acmp (g := (mkF m 9 #[.val (.ref a1), .val (.ref a2)] [(.ref a1), (.ref a2)])) X5 hx rfl rfl rfl (pc0 := 9) (pc' := 16) (same := false) rfl (hb hby d2_9) rfl (decide_eq_false fun q => hc8 (Value.ref.inj q)) (by decide) (by decide) ?_
        show Steps p.tables e below (T5.setTop (mkF m 16 #[.val (.ref a1), .val (.ref a2)] [])) _
        refine XS.iconst X5.here hx rfl (hb hby d2_16) ?_
        show Steps p.tables e below (T5.setTop (mkF m 17 #[.val (.ref a1), .val (.ref a2)] [(.int (0 : Int32))])) _
        exact retN X5 hx (t := .boolean) Bd.returns (by simp) (hb hby d2_17) hr
      · show QP _ h0 n0 _ T5.heap _
        rw [e5, show f2 a1 a2 w_ARBITRARY = (0 : Int32) from by unfold f2; rw [if_neg hc6, if_neg hc8]]
        exact ⟨rfl, N0, rfl⟩
theorem pd_0 : parseMethodDescriptor "(I)Lcom/example/hard_delay_bounds/harddelaybounds/analysis/Multiplexing;" = some ⟨[.int], some (.object "com/example/hard_delay_bounds/harddelaybounds/analysis/Multiplexing")⟩ := by decide +kernel
theorem pd_1 : parseMethodDescriptor "(Lcom/example/hard_delay_bounds/harddelaybounds/analysis/Multiplexing;)Z" = some ⟨[(.object "com/example/hard_delay_bounds/harddelaybounds/analysis/Multiplexing")], some .boolean⟩ := by decide +kernel
theorem ef_0 (m : MethodId) (x0 : Int32) (x1 : Int32) : entryFrame m #[(.int x0), (.int x1)] maxLocals = mkF m 0 #[.val (.int x0), .val (.int x1), .unset, .unset, .unset, .unset, .unset] [] := by first | (simp [entryFrame, mkF, argsToLocals, Value.category, maxLocals]; done) | rfl
def f0 (p1 : Int32) (p2 : Int32) (w_ARBITRARY : Addr) (w_FIFO : Addr) : Int32 := (if (p1 &&& (1 : Int32)) = (0 : Int32) then (if (p2 &&& (1 : Int32)) = (1 : Int32) then (if (f2 (f1 (p1 &&& (1 : Int32)) w_ARBITRARY w_FIFO) (f1 (p2 &&& (1 : Int32)) w_ARBITRARY w_FIFO) w_ARBITRARY) = (0 : Int32) then (1 : Int32) else (0 : Int32)) else (if (f2 (f1 (p1 &&& (1 : Int32)) w_ARBITRARY w_FIFO) (f1 (p2 &&& (1 : Int32)) w_ARBITRARY w_FIFO) w_ARBITRARY) = (1 : Int32) then (1 : Int32) else (0 : Int32))) else (if (f2 (f1 (p1 &&& (1 : Int32)) w_ARBITRARY w_FIFO) (f1 (p2 &&& (1 : Int32)) w_ARBITRARY w_FIFO) w_ARBITRARY) = (1 : Int32) then (1 : Int32) else (0 : Int32)))
set_option maxRecDepth 65536 in
set_option maxHeartbeats 40000000 in
theorem rm0 (l : Launch) (Z : State) (a0 : Array Value) (hw : ∀ d ∈ tables_1, d.before a0 Z = true) (ws : List Jvm.Cond) (p1 : Int32) (p2 : Int32) (w_ARBITRARY : Addr) (w_FIFO : Addr) (h0 : Heap) (n0 : Nat) (Z0 : n0 ≤ h0.size) (S_ARBITRARY : Sta Z h0 "com/example/hard_delay_bounds/harddelaybounds/analysis/Multiplexing" "ARBITRARY" "Lcom/example/hard_delay_bounds/harddelaybounds/analysis/Multiplexing;" (.ref w_ARBITRARY)) (E_ARBITRARY : Exa Z h0 w_ARBITRARY "com/example/hard_delay_bounds/harddelaybounds/analysis/Multiplexing") (S_FIFO : Sta Z h0 "com/example/hard_delay_bounds/harddelaybounds/analysis/Multiplexing" "FIFO" "Lcom/example/hard_delay_bounds/harddelaybounds/analysis/Multiplexing;" (.ref w_FIFO)) (E_FIFO : Exa Z h0 w_FIFO "com/example/hard_delay_bounds/harddelaybounds/analysis/Multiplexing") :
    MetFree l x (head1 (Jvm.Cond.code x code maxLocals ret :: ws) room_1) (fun a U => a = #[(.int p1), (.int p2)] ∧ Z.Warmed39 U.vm ∧ U.heap = h0) (fun _ _ _ _ _ => True) (fun _ U o U' => ∃ v L, o = .returned v ∧ QP (some (.int (f0 p1 p2 w_ARBITRARY w_FIFO))) h0 n0 v U'.heap L ∧ FrameEnd U o U' L room_1.cells room_1.slots) := by
  refine MetFree.of_bodySF (plainFor_of_name pn_1) hisR ?_
  intro p e s m args below meth c s₁ Bd hml0 hP hK
  obtain ⟨rfl, hZ, hh⟩ := hP
  have hx := Bd.exec
  have hby := Bd.bytes
  have hml : c.maxLocals = 7 := hml0
  have hown : s.vm.findClass "com/example/hard_delay_bounds/harddelaybounds/analysis/MultiplexingIsOneWayOfPinLaw" = some m.cls := findClass_of_methodNamed Bd.named
  have hnm := (name_of_methodNamed Bd.named Bd.method).1
  have X0 : Stand p l e room_1 s m #[(.int p1), (.int p2)] below meth c s₁ [] 0 0 := Stand.of_body Bd
  have e0 : s₁.heap = h0 := by rw [← hh, Bd.state]; rfl
  have N0 := Fr.nil n0
  have pre0 : ∀ t, Steps p.tables e below (s₁.setTop (mkF m 0 #[.val (.int p1), .val (.int p2), .unset, .unset, .unset, .unset, .unset] [])) t → Steps p.tables e below (s₁.setTop (entryFrame m #[(.int p1), (.int p2)] maxLocals)) t := fun t k => castTop (ef_0 m p1 p2) k
  obtain ⟨_, _, ⟨T10, L10, k10, n10⟩, -, X10, ⟨Lc10, hQ10, l10, y10, z10⟩, st10⟩ := Jvm.LawKit.callS X0 hx (y := (⟨"com/example/hard_delay_bounds/harddelaybounds/analysis/MultiplexingIsOneWayOfPinLaw", "pick", "(I)Lcom/example/hard_delay_bounds/harddelaybounds/analysis/Multiplexing;"⟩ : MethodName)) hown (mvT hZ (hw _ (List.mem_of_getElem? (i := 0) rfl))) (mvT hZ (hw _ (List.mem_of_getElem? (i := 1) rfl))) (mvT hZ (hw _ (List.mem_of_getElem? (i := 2) rfl))) (mvT hZ (hw _ (List.mem_of_getElem? (i := 3) rfl))) (by decide) (backOf (W := 0) (rm1 l Z a0 hw [] (p1 &&& (1 : Int32)) w_ARBITRARY w_FIFO h0 n0 Z0 S_ARBITRARY S_FIFO) hZ (hw _ (List.mem_of_getElem? (i := 3) rfl)) (hw _ (List.mem_of_getElem? (i := 2) rfl)) (by decide) (by decide)) (g := (mkF m 9 #[.val (.int p1), .val (.int p2), .val (.int (p1 &&& (1 : Int32))), .val (.int (p2 &&& (1 : Int32))), .unset, .unset, .unset] [(.int (p1 &&& (1 : Int32)))])) rfl (by rw [hml]; rfl) (argsL := [(.int (p1 &&& (1 : Int32)))]) (rest := []) (lenOf pd_0 rfl) rfl (by show 2 * 0 + _ ≤ _; exact Nat.le_of_eq rfl) (hb hby at_9) (fun _ _ => ⟨rfl, e0, (by decide : 0 + 0 ≤ _), (by decide : 0 + 0 ≤ _)⟩)
  dsimp only [Pt.U, Pt.locs, Pt.cells, Pt.slots] at X10 l10 y10 z10 st10 hQ10
  subst l10 y10 z10
  obtain ⟨rfl, N10q, e10⟩ := hQ10
  have N10 := Fr.app N0 N10q
  obtain ⟨_, _, ⟨T11, L11, k11, n11⟩, -, X11, ⟨Lc11, hQ11, l11, y11, z11⟩, st11⟩ := Jvm.LawKit.callS X10 hx (y := (⟨"com/example/hard_delay_bounds/harddelaybounds/analysis/MultiplexingIsOneWayOfPinLaw", "pick", "(I)Lcom/example/hard_delay_bounds/harddelaybounds/analysis/Multiplexing;"⟩ : MethodName)) hown (mvT hZ (hw _ (List.mem_of_getElem? (i := 0) rfl))) (mvT hZ (hw _ (List.mem_of_getElem? (i := 1) rfl))) (mvT hZ (hw _ (List.mem_of_getElem? (i := 2) rfl))) (mvT hZ (hw _ (List.mem_of_getElem? (i := 3) rfl))) (by decide) (backOf (W := 0) (rm1 l Z a0 hw [] (p2 &&& (1 : Int32)) w_ARBITRARY w_FIFO h0 n0 Z0 S_ARBITRARY S_FIFO) hZ (hw _ (List.mem_of_getElem? (i := 3) rfl)) (hw _ (List.mem_of_getElem? (i := 2) rfl)) (by decide) (by decide)) (g := (mkF m 15 #[.val (.int p1), .val (.int p2), .val (.int (p1 &&& (1 : Int32))), .val (.int (p2 &&& (1 : Int32))), .val (.ref (f1 (p1 &&& (1 : Int32)) w_ARBITRARY w_FIFO)), .unset, .unset] [(.int (p2 &&& (1 : Int32)))])) rfl (by rw [hml]; rfl) (argsL := [(.int (p2 &&& (1 : Int32)))]) (rest := []) (lenOf pd_0 rfl) rfl (by show 2 * 0 + _ ≤ _; exact Nat.le_of_eq rfl) (hb hby at_15) (fun _ _ => ⟨rfl, e10, (by decide : 0 + 0 ≤ _), (by decide : 0 + 0 ≤ _)⟩)
  dsimp only [Pt.U, Pt.locs, Pt.cells, Pt.slots] at X11 l11 y11 z11 st11 hQ11
  subst l11 y11 z11
  obtain ⟨rfl, N11q, e11⟩ := hQ11
  have N11 := Fr.app N10 N11q
  have pre13 : ∀ t, Steps p.tables e below (T11.setTop (mkF m 21 #[.val (.int p1), .val (.int p2), .val (.int (p1 &&& (1 : Int32))), .val (.int (p2 &&& (1 : Int32))), .val (.ref (f1 (p1 &&& (1 : Int32)) w_ARBITRARY w_FIFO)), .val (.ref (f1 (p2 &&& (1 : Int32)) w_ARBITRARY w_FIFO)), .unset] [(.int (p1 &&& (1 : Int32)))])) t → Steps p.tables e below (s₁.setTop (entryFrame m #[(.int p1), (.int p2)] maxLocals)) t := fun t k => by
    refine pre0 _ ?_
    show Steps p.tables e below (s₁.setTop (mkF m 0 #[.val (.int p1), .val (.int p2), .unset, .unset, .unset, .unset, .unset] [])) _
    refine XS.iloadN X0.here hx rfl (hb hby at_0) rfl ?_
    show Steps p.tables e below (s₁.setTop (mkF m 1 #[.val (.int p1), .val (.int p2), .unset, .unset, .unset, .unset, .unset] [(.int p1)])) _
    refine XS.iconst X0.here hx rfl (hb hby at_1) ?_
    show Steps p.tables e below (s₁.setTop (mkF m 2 #[.val (.int p1), .val (.int p2), .unset, .unset, .unset, .unset, .unset] [(.int (1 : Int32)), (.int p1)])) _
    refine XS.iand X0.here hx rfl (hb hby at_2) rfl ?_
    show Steps p.tables e below (s₁.setTop (mkF m 3 #[.val (.int p1), .val (.int p2), .unset, .unset, .unset, .unset, .unset] [(.int (p1 &&& (1 : Int32)))])) _
    refine XS.istoreN X0.here hx rfl (hb hby at_3) rfl (l' := #[.val (.int p1), .val (.int p2), .val (.int (p1 &&& (1 : Int32))), .unset, .unset, .unset, .unset]) rfl ?_
    show Steps p.tables e below (s₁.setTop (mkF m 4 #[.val (.int p1), .val (.int p2), .val (.int (p1 &&& (1 : Int32))), .unset, .unset, .unset, .unset] [])) _
    refine XS.iloadN X0.here hx rfl (hb hby at_4) rfl ?_
    show Steps p.tables e below (s₁.setTop (mkF m 5 #[.val (.int p1), .val (.int p2), .val (.int (p1 &&& (1 : Int32))), .unset, .unset, .unset, .unset] [(.int p2)])) _
    refine XS.iconst X0.here hx rfl (hb hby at_5) ?_
    show Steps p.tables e below (s₁.setTop (mkF m 6 #[.val (.int p1), .val (.int p2), .val (.int (p1 &&& (1 : Int32))), .unset, .unset, .unset, .unset] [(.int (1 : Int32)), (.int p2)])) _
    refine XS.iand X0.here hx rfl (hb hby at_6) rfl ?_
    show Steps p.tables e below (s₁.setTop (mkF m 7 #[.val (.int p1), .val (.int p2), .val (.int (p1 &&& (1 : Int32))), .unset, .unset, .unset, .unset] [(.int (p2 &&& (1 : Int32)))])) _
    refine XS.istoreN X0.here hx rfl (hb hby at_7) rfl (l' := #[.val (.int p1), .val (.int p2), .val (.int (p1 &&& (1 : Int32))), .val (.int (p2 &&& (1 : Int32))), .unset, .unset, .unset]) rfl ?_
    show Steps p.tables e below (s₁.setTop (mkF m 8 #[.val (.int p1), .val (.int p2), .val (.int (p1 &&& (1 : Int32))), .val (.int (p2 &&& (1 : Int32))), .unset, .unset, .unset] [])) _
    refine XS.iloadN X0.here hx rfl (hb hby at_8) rfl ?_
    show Steps p.tables e below (s₁.setTop (mkF m 9 #[.val (.int p1), .val (.int p2), .val (.int (p1 &&& (1 : Int32))), .val (.int (p2 &&& (1 : Int32))), .unset, .unset, .unset] [(.int (p1 &&& (1 : Int32)))])) _
    refine st10 _ ?_
    show Steps p.tables e below (T10.setTop (mkF m 12 #[.val (.int p1), .val (.int p2), .val (.int (p1 &&& (1 : Int32))), .val (.int (p2 &&& (1 : Int32))), .unset, .unset, .unset] [(.ref (f1 (p1 &&& (1 : Int32)) w_ARBITRARY w_FIFO))])) _
    refine XS.astore X10.here hx rfl (hb hby at_12) rfl rfl (l' := #[.val (.int p1), .val (.int p2), .val (.int (p1 &&& (1 : Int32))), .val (.int (p2 &&& (1 : Int32))), .val (.ref (f1 (p1 &&& (1 : Int32)) w_ARBITRARY w_FIFO)), .unset, .unset]) rfl ?_
    show Steps p.tables e below (T10.setTop (mkF m 14 #[.val (.int p1), .val (.int p2), .val (.int (p1 &&& (1 : Int32))), .val (.int (p2 &&& (1 : Int32))), .val (.ref (f1 (p1 &&& (1 : Int32)) w_ARBITRARY w_FIFO)), .unset, .unset] [])) _
    refine XS.iloadN X10.here hx rfl (hb hby at_14) rfl ?_
    show Steps p.tables e below (T10.setTop (mkF m 15 #[.val (.int p1), .val (.int p2), .val (.int (p1 &&& (1 : Int32))), .val (.int (p2 &&& (1 : Int32))), .val (.ref (f1 (p1 &&& (1 : Int32)) w_ARBITRARY w_FIFO)), .unset, .unset] [(.int (p2 &&& (1 : Int32)))])) _
    refine st11 _ ?_
    show Steps p.tables e below (T11.setTop (mkF m 18 #[.val (.int p1), .val (.int p2), .val (.int (p1 &&& (1 : Int32))), .val (.int (p2 &&& (1 : Int32))), .val (.ref (f1 (p1 &&& (1 : Int32)) w_ARBITRARY w_FIFO)), .unset, .unset] [(.ref (f1 (p2 &&& (1 : Int32)) w_ARBITRARY w_FIFO))])) _
    refine XS.astore X11.here hx rfl (hb hby at_18) rfl rfl (l' := #[.val (.int p1), .val (.int p2), .val (.int (p1 &&& (1 : Int32))), .val (.int (p2 &&& (1 : Int32))), .val (.ref (f1 (p1 &&& (1 : Int32)) w_ARBITRARY w_FIFO)), .val (.ref (f1 (p2 &&& (1 : Int32)) w_ARBITRARY w_FIFO)), .unset]) rfl ?_
    show Steps p.tables e below (T11.setTop (mkF m 20 #[.val (.int p1), .val (.int p2), .val (.int (p1 &&& (1 : Int32))), .val (.int (p2 &&& (1 : Int32))), .val (.ref (f1 (p1 &&& (1 : Int32)) w_ARBITRARY w_FIFO)), .val (.ref (f1 (p2 &&& (1 : Int32)) w_ARBITRARY w_FIFO)), .unset] [])) _
    refine XS.iloadN X11.here hx rfl (hb hby at_20) rfl ?_
    exact k
  by_cases hc12 : (p1 &&& (1 : Int32)) = (0 : Int32)
  · have pre15 : ∀ t, Steps p.tables e below (T11.setTop (mkF m 26 #[.val (.int p1), .val (.int p2), .val (.int (p1 &&& (1 : Int32))), .val (.int (p2 &&& (1 : Int32))), .val (.ref (f1 (p1 &&& (1 : Int32)) w_ARBITRARY w_FIFO)), .val (.ref (f1 (p2 &&& (1 : Int32)) w_ARBITRARY w_FIFO)), .unset] [(.int (1 : Int32)), (.int (p2 &&& (1 : Int32)))])) t → Steps p.tables e below (s₁.setTop (entryFrame m #[(.int p1), (.int p2)] maxLocals)) t := fun t k => by
      refine pre13 _ ?_
      show Steps p.tables e below (T11.setTop (mkF m 21 #[.val (.int p1), .val (.int p2), .val (.int (p1 &&& (1 : Int32))), .val (.int (p2 &&& (1 : Int32))), .val (.ref (f1 (p1 &&& (1 : Int32)) w_ARBITRARY w_FIFO)), .val (.ref (f1 (p2 &&& (1 : Int32)) w_ARBITRARY w_FIFO)), .unset] [(.int (p1 &&& (1 : Int32)))])) _
      refine XS.ifNo X11.here hx rfl (hb hby at_21) rfl ((if0 _ _).trans (teq hc12).2) ?_
      show Steps p.tables e below (T11.setTop (mkF m 24 #[.val (.int p1), .val (.int p2), .val (.int (p1 &&& (1 : Int32))), .val (.int (p2 &&& (1 : Int32))), .val (.ref (f1 (p1 &&& (1 : Int32)) w_ARBITRARY w_FIFO)), .val (.ref (f1 (p2 &&& (1 : Int32)) w_ARBITRARY w_FIFO)), .unset] [])) _
      refine XS.iloadN X11.here hx rfl (hb hby at_24) rfl ?_
      show Steps p.tables e below (T11.setTop (mkF m 25 #[.val (.int p1), .val (.int p2), .val (.int (p1 &&& (1 : Int32))), .val (.int (p2 &&& (1 : Int32))), .val (.ref (f1 (p1 &&& (1 : Int32)) w_ARBITRARY w_FIFO)), .val (.ref (f1 (p2 &&& (1 : Int32)) w_ARBITRARY w_FIFO)), .unset] [(.int (p2 &&& (1 : Int32)))])) _
      refine XS.iconst X11.here hx rfl (hb hby at_25) ?_
      exact k
    by_cases hc14 : (p2 &&& (1 : Int32)) = (1 : Int32)
    · obtain ⟨cq16, kq16, q16a, q16b, q16c⟩ := isOf hZ e11 (f1_all (P := fun a => Exa Z h0 a "com/example/hard_delay_bounds/harddelaybounds/analysis/Multiplexing") (p1 &&& (1 : Int32)) w_ARBITRARY w_FIFO E_ARBITRARY E_FIFO)
      obtain ⟨_, _, ⟨T16, L16, k16, n16⟩, -, X16, ⟨Lc16, hQ16, l16, y16, z16⟩, st16⟩ := X11.virtualBack hx (y := (⟨"com/example/hard_delay_bounds/harddelaybounds/analysis/Multiplexing", "isOneWayOf", "(Lcom/example/hard_delay_bounds/harddelaybounds/analysis/Multiplexing;)Z"⟩ : MethodName)) (z := (⟨"com/example/hard_delay_bounds/harddelaybounds/analysis/Multiplexing", "isOneWayOf", "(Lcom/example/hard_delay_bounds/harddelaybounds/analysis/Multiplexing;)Z"⟩ : MethodName)) hown (mvT hZ (hw _ (List.mem_of_getElem? (i := 9) rfl))) (mvT hZ (hw _ (List.mem_of_getElem? (i := 10) rfl))) (notFace_of_selects (args := #[]) (mvT hZ (hw _ (List.mem_of_getElem? (i := 12) rfl)))) (mvT hZ (hw _ (List.mem_of_getElem? (i := 12) rfl))) (mvT hZ (hw _ (List.mem_of_getElem? (i := 11) rfl))) (by decide) (backOf (W := 0) (rm2 l Z a0 hw [] (f1 (p1 &&& (1 : Int32)) w_ARBITRARY w_FIFO) (f1 (p2 &&& (1 : Int32)) w_ARBITRARY w_FIFO) w_ARBITRARY h0 n0 Z0 S_ARBITRARY) hZ (hw _ (List.mem_of_getElem? (i := 13) rfl)) (hw _ (List.mem_of_getElem? (i := 5) rfl)) (by decide) (by decide)) q16a q16c (g := (mkF m 42 #[.val (.int p1), .val (.int p2), .val (.int (p1 &&& (1 : Int32))), .val (.int (p2 &&& (1 : Int32))), .val (.ref (f1 (p1 &&& (1 : Int32)) w_ARBITRARY w_FIFO)), .val (.ref (f1 (p2 &&& (1 : Int32)) w_ARBITRARY w_FIFO)), .val (.int (0 : Int32))] [(.ref (f1 (p2 &&& (1 : Int32)) w_ARBITRARY w_FIFO)), (.ref (f1 (p1 &&& (1 : Int32)) w_ARBITRARY w_FIFO))])) rfl (by rw [hml]; rfl) (Steps.refl _) (argsL := [(.ref (f1 (p2 &&& (1 : Int32)) w_ARBITRARY w_FIFO))]) (rest := []) (lenOf pd_1 rfl) rfl (by show 2 * 0 + _ ≤ _; exact Nat.le_of_eq rfl) (hb hby at_42) (fun _ _ => ⟨rfl, e11, (by decide : 0 + 0 ≤ _), (by decide : 0 + 0 ≤ _)⟩)
      dsimp only [Pt.U, Pt.locs, Pt.cells, Pt.slots] at X16 l16 y16 z16 st16 hQ16
      subst l16 y16 z16
      obtain ⟨rfl, N16q, e16⟩ := hQ16
      have N16 := Fr.app N11 N16q
      have pre18 : ∀ t, Steps p.tables e below (T16.setTop (mkF m 47 #[.val (.int p1), .val (.int p2), .val (.int (p1 &&& (1 : Int32))), .val (.int (p2 &&& (1 : Int32))), .val (.ref (f1 (p1 &&& (1 : Int32)) w_ARBITRARY w_FIFO)), .val (.ref (f1 (p2 &&& (1 : Int32)) w_ARBITRARY w_FIFO)), .val (.int (0 : Int32))] [(.int (0 : Int32)), (.int (f2 (f1 (p1 &&& (1 : Int32)) w_ARBITRARY w_FIFO) (f1 (p2 &&& (1 : Int32)) w_ARBITRARY w_FIFO) w_ARBITRARY))])) t → Steps p.tables e below (s₁.setTop (entryFrame m #[(.int p1), (.int p2)] maxLocals)) t := fun t k => by
        refine pre15 _ ?_
        show Steps p.tables e below (T11.setTop (mkF m 26 #[.val (.int p1), .val (.int p2), .val (.int (p1 &&& (1 : Int32))), .val (.int (p2 &&& (1 : Int32))), .val (.ref (f1 (p1 &&& (1 : Int32)) w_ARBITRARY w_FIFO)), .val (.ref (f1 (p2 &&& (1 : Int32)) w_ARBITRARY w_FIFO)), .unset] [(.int (1 : Int32)), (.int (p2 &&& (1 : Int32)))])) _
        refine XS.icmpNo X11.here hx rfl (hb hby at_26) rfl (teq hc14).2 ?_
        show Steps p.tables e below (T11.setTop (mkF m 29 #[.val (.int p1), .val (.int p2), .val (.int (p1 &&& (1 : Int32))), .val (.int (p2 &&& (1 : Int32))), .val (.ref (f1 (p1 &&& (1 : Int32)) w_ARBITRARY w_FIFO)), .val (.ref (f1 (p2 &&& (1 : Int32)) w_ARBITRARY w_FIFO)), .unset] [])) _
        refine XS.iconst X11.here hx rfl (hb hby at_29) ?_
        show Steps p.tables e below (T11.setTop (mkF m 30 #[.val (.int p1), .val (.int p2), .val (.int (p1 &&& (1 : Int32))), .val (.int (p2 &&& (1 : Int32))), .val (.ref (f1 (p1 &&& (1 : Int32)) w_ARBITRARY w_FIFO)), .val (.ref (f1 (p2 &&& (1 : Int32)) w_ARBITRARY w_FIFO)), .unset] [(.int (0 : Int32))])) _
        refine XS.istore X11.here hx rfl (hb hby at_30) rfl (l' := #[.val (.int p1), .val (.int p2), .val (.int (p1 &&& (1 : Int32))), .val (.int (p2 &&& (1 : Int32))), .val (.ref (f1 (p1 &&& (1 : Int32)) w_ARBITRARY w_FIFO)), .val (.ref (f1 (p2 &&& (1 : Int32)) w_ARBITRARY w_FIFO)), .val (.int (0 : Int32))]) rfl ?_
        show Steps p.tables e below (T11.setTop (mkF m 32 #[.val (.int p1), .val (.int p2), .val (.int (p1 &&& (1 : Int32))), .val (.int (p2 &&& (1 : Int32))), .val (.ref (f1 (p1 &&& (1 : Int32)) w_ARBITRARY w_FIFO)), .val (.ref (f1 (p2 &&& (1 : Int32)) w_ARBITRARY w_FIFO)), .val (.int (0 : Int32))] [])) _
        refine XS.goto X11.here hx rfl (pc0 := 32) (pc' := 38) rfl (hb hby at_32) (by decide) (by decide) ?_
        show Steps p.tables e below (T11.setTop (mkF m 38 #[.val (.int p1), .val (.int p2), .val (.int (p1 &&& (1 : Int32))), .val (.int (p2 &&& (1 : Int32))), .val (.ref (f1 (p1 &&& (1 : Int32)) w_ARBITRARY w_FIFO)), .val (.ref (f1 (p2 &&& (1 : Int32)) w_ARBITRARY w_FIFO)), .val (.int (0 : Int32))] [])) _
        refine XS.aload X11.here hx rfl (hb hby at_38) rfl rfl ?_
        show Steps p.tables e below (T11.setTop (mkF m 40 #[.val (.int p1), .val (.int p2), .val (.int (p1 &&& (1 : Int32))), .val (.int (p2 &&& (1 : Int32))), .val (.ref (f1 (p1 &&& (1 : Int32)) w_ARBITRARY w_FIFO)), .val (.ref (f1 (p2 &&& (1 : Int32)) w_ARBITRARY w_FIFO)), .val (.int (0 : Int32))] [(.ref (f1 (p1 &&& (1 : Int32)) w_ARBITRARY w_FIFO))])) _
        refine XS.aload X11.here hx rfl (hb hby at_40) rfl rfl ?_
        show Steps p.tables e below (T11.setTop (mkF m 42 #[.val (.int p1), .val (.int p2), .val (.int (p1 &&& (1 : Int32))), .val (.int (p2 &&& (1 : Int32))), .val (.ref (f1 (p1 &&& (1 : Int32)) w_ARBITRARY w_FIFO)), .val (.ref (f1 (p2 &&& (1 : Int32)) w_ARBITRARY w_FIFO)), .val (.int (0 : Int32))] [(.ref (f1 (p2 &&& (1 : Int32)) w_ARBITRARY w_FIFO)), (.ref (f1 (p1 &&& (1 : Int32)) w_ARBITRARY w_FIFO))])) _
        refine st16.trans ?_
        show Steps p.tables e below (T16.setTop (mkF m 45 #[.val (.int p1), .val (.int p2), .val (.int (p1 &&& (1 : Int32))), .val (.int (p2 &&& (1 : Int32))), .val (.ref (f1 (p1 &&& (1 : Int32)) w_ARBITRARY w_FIFO)), .val (.ref (f1 (p2 &&& (1 : Int32)) w_ARBITRARY w_FIFO)), .val (.int (0 : Int32))] [(.int (f2 (f1 (p1 &&& (1 : Int32)) w_ARBITRARY w_FIFO) (f1 (p2 &&& (1 : Int32)) w_ARBITRARY w_FIFO) w_ARBITRARY))])) _
        refine XS.iload X16.here hx rfl (hb hby at_45) rfl ?_
        exact k
      by_cases hc17 : (f2 (f1 (p1 &&& (1 : Int32)) w_ARBITRARY w_FIFO) (f1 (p2 &&& (1 : Int32)) w_ARBITRARY w_FIFO) w_ARBITRARY) = (0 : Int32)
      · obtain ⟨fs, hr, hrun, hended, hW, hsame⟩ := X16.leave (v := some (.int (1 : Int32))) (fun h => by rw [Bd.returns] at h; cases h)
        refine ⟨_, _, pre18 _ ?_, hrun, hended, _, _, rfl, ?_, ⟨_, rfl⟩, hW, hsame.mono (by decide) (by decide)⟩
        · show Steps p.tables e below (T16.setTop (mkF m 47 #[.val (.int p1), .val (.int p2), .val (.int (p1 &&& (1 : Int32))), .val (.int (p2 &&& (1 : Int32))), .val (.ref (f1 (p1 &&& (1 : Int32)) w_ARBITRARY w_FIFO)), .val (.ref (f1 (p2 &&& (1 : Int32)) w_ARBITRARY w_FIFO)), .val (.int (0 : Int32))] [(.int (0 : Int32)), (.int (f2 (f1 (p1 &&& (1 : Int32)) w_ARBITRARY w_FIFO) (f1 (p2 &&& (1 : Int32)) w_ARBITRARY w_FIFO) w_ARBITRARY))])) _
          refine XS.icmpNo X16.here hx rfl (hb hby at_47) rfl (teq hc17).2 ?_
          show Steps p.tables e below (T16.setTop (mkF m 50 #[.val (.int p1), .val (.int p2), .val (.int (p1 &&& (1 : Int32))), .val (.int (p2 &&& (1 : Int32))), .val (.ref (f1 (p1 &&& (1 : Int32)) w_ARBITRARY w_FIFO)), .val (.ref (f1 (p2 &&& (1 : Int32)) w_ARBITRARY w_FIFO)), .val (.int (0 : Int32))] [])) _
          refine XS.iconst X16.here hx rfl (hb hby at_50) ?_
          show Steps p.tables e below (T16.setTop (mkF m 51 #[.val (.int p1), .val (.int p2), .val (.int (p1 &&& (1 : Int32))), .val (.int (p2 &&& (1 : Int32))), .val (.ref (f1 (p1 &&& (1 : Int32)) w_ARBITRARY w_FIFO)), .val (.ref (f1 (p2 &&& (1 : Int32)) w_ARBITRARY w_FIFO)), .val (.int (0 : Int32))] [(.int (1 : Int32))])) _
          refine XS.goto X16.here hx rfl (pc0 := 51) (pc' := 55) rfl (hb hby at_51) (by decide) (by decide) ?_
          show Steps p.tables e below (T16.setTop (mkF m 55 #[.val (.int p1), .val (.int p2), .val (.int (p1 &&& (1 : Int32))), .val (.int (p2 &&& (1 : Int32))), .val (.ref (f1 (p1 &&& (1 : Int32)) w_ARBITRARY w_FIFO)), .val (.ref (f1 (p2 &&& (1 : Int32)) w_ARBITRARY w_FIFO)), .val (.int (0 : Int32))] [(.int (1 : Int32))])) _
          exact retN X16 hx (t := .boolean) Bd.returns (by simp) (hb hby at_55) hr
        · show QP _ h0 n0 _ T16.heap _
          rw [e16, show f0 p1 p2 w_ARBITRARY w_FIFO = (1 : Int32) from by unfold f0; rw [if_pos hc12, if_pos hc14, if_pos hc17]]
          exact ⟨rfl, N16, rfl⟩
      · obtain ⟨fs, hr, hrun, hended, hW, hsame⟩ := X16.leave (v := some (.int (0 : Int32))) (fun h => by rw [Bd.returns] at h; cases h)
        refine ⟨_, _, pre18 _ ?_, hrun, hended, _, _, rfl, ?_, ⟨_, rfl⟩, hW, hsame.mono (by decide) (by decide)⟩
        · show Steps p.tables e below (T16.setTop (mkF m 47 #[.val (.int p1), .val (.int p2), .val (.int (p1 &&& (1 : Int32))), .val (.int (p2 &&& (1 : Int32))), .val (.ref (f1 (p1 &&& (1 : Int32)) w_ARBITRARY w_FIFO)), .val (.ref (f1 (p2 &&& (1 : Int32)) w_ARBITRARY w_FIFO)), .val (.int (0 : Int32))] [(.int (0 : Int32)), (.int (f2 (f1 (p1 &&& (1 : Int32)) w_ARBITRARY w_FIFO) (f1 (p2 &&& (1 : Int32)) w_ARBITRARY w_FIFO) w_ARBITRARY))])) _
          refine XS.icmpYes X16.here hx rfl (pc0 := 47) (pc' := 54) rfl (hb hby at_47) rfl (feq hc17).2 (by decide) (by decide) ?_
          show Steps p.tables e below (T16.setTop (mkF m 54 #[.val (.int p1), .val (.int p2), .val (.int (p1 &&& (1 : Int32))), .val (.int (p2 &&& (1 : Int32))), .val (.ref (f1 (p1 &&& (1 : Int32)) w_ARBITRARY w_FIFO)), .val (.ref (f1 (p2 &&& (1 : Int32)) w_ARBITRARY w_FIFO)), .val (.int (0 : Int32))] [])) _
          refine XS.iconst X16.here hx rfl (hb hby at_54) ?_
          show Steps p.tables e below (T16.setTop (mkF m 55 #[.val (.int p1), .val (.int p2), .val (.int (p1 &&& (1 : Int32))), .val (.int (p2 &&& (1 : Int32))), .val (.ref (f1 (p1 &&& (1 : Int32)) w_ARBITRARY w_FIFO)), .val (.ref (f1 (p2 &&& (1 : Int32)) w_ARBITRARY w_FIFO)), .val (.int (0 : Int32))] [(.int (0 : Int32))])) _
          exact retN X16 hx (t := .boolean) Bd.returns (by simp) (hb hby at_55) hr
        · show QP _ h0 n0 _ T16.heap _
          rw [e16, show f0 p1 p2 w_ARBITRARY w_FIFO = (0 : Int32) from by unfold f0; rw [if_pos hc12, if_pos hc14, if_neg hc17]]
          exact ⟨rfl, N16, rfl⟩
    · obtain ⟨cq19, kq19, q19a, q19b, q19c⟩ := isOf hZ e11 (f1_all (P := fun a => Exa Z h0 a "com/example/hard_delay_bounds/harddelaybounds/analysis/Multiplexing") (p1 &&& (1 : Int32)) w_ARBITRARY w_FIFO E_ARBITRARY E_FIFO)
      obtain ⟨_, _, ⟨T19, L19, k19, n19⟩, -, X19, ⟨Lc19, hQ19, l19, y19, z19⟩, st19⟩ := X11.virtualBack hx (y := (⟨"com/example/hard_delay_bounds/harddelaybounds/analysis/Multiplexing", "isOneWayOf", "(Lcom/example/hard_delay_bounds/harddelaybounds/analysis/Multiplexing;)Z"⟩ : MethodName)) (z := (⟨"com/example/hard_delay_bounds/harddelaybounds/analysis/Multiplexing", "isOneWayOf", "(Lcom/example/hard_delay_bounds/harddelaybounds/analysis/Multiplexing;)Z"⟩ : MethodName)) hown (mvT hZ (hw _ (List.mem_of_getElem? (i := 9) rfl))) (mvT hZ (hw _ (List.mem_of_getElem? (i := 10) rfl))) (notFace_of_selects (args := #[]) (mvT hZ (hw _ (List.mem_of_getElem? (i := 12) rfl)))) (mvT hZ (hw _ (List.mem_of_getElem? (i := 12) rfl))) (mvT hZ (hw _ (List.mem_of_getElem? (i := 11) rfl))) (by decide) (backOf (W := 0) (rm2 l Z a0 hw [] (f1 (p1 &&& (1 : Int32)) w_ARBITRARY w_FIFO) (f1 (p2 &&& (1 : Int32)) w_ARBITRARY w_FIFO) w_ARBITRARY h0 n0 Z0 S_ARBITRARY) hZ (hw _ (List.mem_of_getElem? (i := 13) rfl)) (hw _ (List.mem_of_getElem? (i := 5) rfl)) (by decide) (by decide)) q19a q19c (g := (mkF m 42 #[.val (.int p1), .val (.int p2), .val (.int (p1 &&& (1 : Int32))), .val (.int (p2 &&& (1 : Int32))), .val (.ref (f1 (p1 &&& (1 : Int32)) w_ARBITRARY w_FIFO)), .val (.ref (f1 (p2 &&& (1 : Int32)) w_ARBITRARY w_FIFO)), .val (.int (1 : Int32))] [(.ref (f1 (p2 &&& (1 : Int32)) w_ARBITRARY w_FIFO)), (.ref (f1 (p1 &&& (1 : Int32)) w_ARBITRARY w_FIFO))])) rfl (by rw [hml]; rfl) (Steps.refl _) (argsL := [(.ref (f1 (p2 &&& (1 : Int32)) w_ARBITRARY w_FIFO))]) (rest := []) (lenOf pd_1 rfl) rfl (by show 2 * 0 + _ ≤ _; exact Nat.le_of_eq rfl) (hb hby at_42) (fun _ _ => ⟨rfl, e11, (by decide : 0 + 0 ≤ _), (by decide : 0 + 0 ≤ _)⟩)
      dsimp only [Pt.U, Pt.locs, Pt.cells, Pt.slots] at X19 l19 y19 z19 st19 hQ19
      subst l19 y19 z19
      obtain ⟨rfl, N19q, e19⟩ := hQ19
      have N19 := Fr.app N11 N19q
      have pre21 : ∀ t, Steps p.tables e below (T19.setTop (mkF m 47 #[.val (.int p1), .val (.int p2), .val (.int (p1 &&& (1 : Int32))), .val (.int (p2 &&& (1 : Int32))), .val (.ref (f1 (p1 &&& (1 : Int32)) w_ARBITRARY w_FIFO)), .val (.ref (f1 (p2 &&& (1 : Int32)) w_ARBITRARY w_FIFO)), .val (.int (1 : Int32))] [(.int (1 : Int32)), (.int (f2 (f1 (p1 &&& (1 : Int32)) w_ARBITRARY w_FIFO) (f1 (p2 &&& (1 : Int32)) w_ARBITRARY w_FIFO) w_ARBITRARY))])) t → Steps p.tables e below (s₁.setTop (entryFrame m #[(.int p1), (.int p2)] maxLocals)) t := fun t k => by
        refine pre15 _ ?_
        show Steps p.tables e below (T11.setTop (mkF m 26 #[.val (.int p1), .val (.int p2), .val (.int (p1 &&& (1 : Int32))), .val (.int (p2 &&& (1 : Int32))), .val (.ref (f1 (p1 &&& (1 : Int32)) w_ARBITRARY w_FIFO)), .val (.ref (f1 (p2 &&& (1 : Int32)) w_ARBITRARY w_FIFO)), .unset] [(.int (1 : Int32)), (.int (p2 &&& (1 : Int32)))])) _
        refine XS.icmpYes X11.here hx rfl (pc0 := 26) (pc' := 35) rfl (hb hby at_26) rfl (feq hc14).2 (by decide) (by decide) ?_
        show Steps p.tables e below (T11.setTop (mkF m 35 #[.val (.int p1), .val (.int p2), .val (.int (p1 &&& (1 : Int32))), .val (.int (p2 &&& (1 : Int32))), .val (.ref (f1 (p1 &&& (1 : Int32)) w_ARBITRARY w_FIFO)), .val (.ref (f1 (p2 &&& (1 : Int32)) w_ARBITRARY w_FIFO)), .unset] [])) _
        refine XS.iconst X11.here hx rfl (hb hby at_35) ?_
        show Steps p.tables e below (T11.setTop (mkF m 36 #[.val (.int p1), .val (.int p2), .val (.int (p1 &&& (1 : Int32))), .val (.int (p2 &&& (1 : Int32))), .val (.ref (f1 (p1 &&& (1 : Int32)) w_ARBITRARY w_FIFO)), .val (.ref (f1 (p2 &&& (1 : Int32)) w_ARBITRARY w_FIFO)), .unset] [(.int (1 : Int32))])) _
        refine XS.istore X11.here hx rfl (hb hby at_36) rfl (l' := #[.val (.int p1), .val (.int p2), .val (.int (p1 &&& (1 : Int32))), .val (.int (p2 &&& (1 : Int32))), .val (.ref (f1 (p1 &&& (1 : Int32)) w_ARBITRARY w_FIFO)), .val (.ref (f1 (p2 &&& (1 : Int32)) w_ARBITRARY w_FIFO)), .val (.int (1 : Int32))]) rfl ?_
        show Steps p.tables e below (T11.setTop (mkF m 38 #[.val (.int p1), .val (.int p2), .val (.int (p1 &&& (1 : Int32))), .val (.int (p2 &&& (1 : Int32))), .val (.ref (f1 (p1 &&& (1 : Int32)) w_ARBITRARY w_FIFO)), .val (.ref (f1 (p2 &&& (1 : Int32)) w_ARBITRARY w_FIFO)), .val (.int (1 : Int32))] [])) _
        refine XS.aload X11.here hx rfl (hb hby at_38) rfl rfl ?_
        show Steps p.tables e below (T11.setTop (mkF m 40 #[.val (.int p1), .val (.int p2), .val (.int (p1 &&& (1 : Int32))), .val (.int (p2 &&& (1 : Int32))), .val (.ref (f1 (p1 &&& (1 : Int32)) w_ARBITRARY w_FIFO)), .val (.ref (f1 (p2 &&& (1 : Int32)) w_ARBITRARY w_FIFO)), .val (.int (1 : Int32))] [(.ref (f1 (p1 &&& (1 : Int32)) w_ARBITRARY w_FIFO))])) _
        refine XS.aload X11.here hx rfl (hb hby at_40) rfl rfl ?_
        show Steps p.tables e below (T11.setTop (mkF m 42 #[.val (.int p1), .val (.int p2), .val (.int (p1 &&& (1 : Int32))), .val (.int (p2 &&& (1 : Int32))), .val (.ref (f1 (p1 &&& (1 : Int32)) w_ARBITRARY w_FIFO)), .val (.ref (f1 (p2 &&& (1 : Int32)) w_ARBITRARY w_FIFO)), .val (.int (1 : Int32))] [(.ref (f1 (p2 &&& (1 : Int32)) w_ARBITRARY w_FIFO)), (.ref (f1 (p1 &&& (1 : Int32)) w_ARBITRARY w_FIFO))])) _
        refine st19.trans ?_
        show Steps p.tables e below (T19.setTop (mkF m 45 #[.val (.int p1), .val (.int p2), .val (.int (p1 &&& (1 : Int32))), .val (.int (p2 &&& (1 : Int32))), .val (.ref (f1 (p1 &&& (1 : Int32)) w_ARBITRARY w_FIFO)), .val (.ref (f1 (p2 &&& (1 : Int32)) w_ARBITRARY w_FIFO)), .val (.int (1 : Int32))] [(.int (f2 (f1 (p1 &&& (1 : Int32)) w_ARBITRARY w_FIFO) (f1 (p2 &&& (1 : Int32)) w_ARBITRARY w_FIFO) w_ARBITRARY))])) _
        refine XS.iload X19.here hx rfl (hb hby at_45) rfl ?_
        exact k
      by_cases hc20 : (f2 (f1 (p1 &&& (1 : Int32)) w_ARBITRARY w_FIFO) (f1 (p2 &&& (1 : Int32)) w_ARBITRARY w_FIFO) w_ARBITRARY) = (1 : Int32)
      · obtain ⟨fs, hr, hrun, hended, hW, hsame⟩ := X19.leave (v := some (.int (1 : Int32))) (fun h => by rw [Bd.returns] at h; cases h)
        refine ⟨_, _, pre21 _ ?_, hrun, hended, _, _, rfl, ?_, ⟨_, rfl⟩, hW, hsame.mono (by decide) (by decide)⟩
        · show Steps p.tables e below (T19.setTop (mkF m 47 #[.val (.int p1), .val (.int p2), .val (.int (p1 &&& (1 : Int32))), .val (.int (p2 &&& (1 : Int32))), .val (.ref (f1 (p1 &&& (1 : Int32)) w_ARBITRARY w_FIFO)), .val (.ref (f1 (p2 &&& (1 : Int32)) w_ARBITRARY w_FIFO)), .val (.int (1 : Int32))] [(.int (1 : Int32)), (.int (f2 (f1 (p1 &&& (1 : Int32)) w_ARBITRARY w_FIFO) (f1 (p2 &&& (1 : Int32)) w_ARBITRARY w_FIFO) w_ARBITRARY))])) _
          refine XS.icmpNo X19.here hx rfl (hb hby at_47) rfl (teq hc20).2 ?_
          show Steps p.tables e below (T19.setTop (mkF m 50 #[.val (.int p1), .val (.int p2), .val (.int (p1 &&& (1 : Int32))), .val (.int (p2 &&& (1 : Int32))), .val (.ref (f1 (p1 &&& (1 : Int32)) w_ARBITRARY w_FIFO)), .val (.ref (f1 (p2 &&& (1 : Int32)) w_ARBITRARY w_FIFO)), .val (.int (1 : Int32))] [])) _
          refine XS.iconst X19.here hx rfl (hb hby at_50) ?_
          show Steps p.tables e below (T19.setTop (mkF m 51 #[.val (.int p1), .val (.int p2), .val (.int (p1 &&& (1 : Int32))), .val (.int (p2 &&& (1 : Int32))), .val (.ref (f1 (p1 &&& (1 : Int32)) w_ARBITRARY w_FIFO)), .val (.ref (f1 (p2 &&& (1 : Int32)) w_ARBITRARY w_FIFO)), .val (.int (1 : Int32))] [(.int (1 : Int32))])) _
          refine XS.goto X19.here hx rfl (pc0 := 51) (pc' := 55) rfl (hb hby at_51) (by decide) (by decide) ?_
          show Steps p.tables e below (T19.setTop (mkF m 55 #[.val (.int p1), .val (.int p2), .val (.int (p1 &&& (1 : Int32))), .val (.int (p2 &&& (1 : Int32))), .val (.ref (f1 (p1 &&& (1 : Int32)) w_ARBITRARY w_FIFO)), .val (.ref (f1 (p2 &&& (1 : Int32)) w_ARBITRARY w_FIFO)), .val (.int (1 : Int32))] [(.int (1 : Int32))])) _
          exact retN X19 hx (t := .boolean) Bd.returns (by simp) (hb hby at_55) hr
        · show QP _ h0 n0 _ T19.heap _
          rw [e19, show f0 p1 p2 w_ARBITRARY w_FIFO = (1 : Int32) from by unfold f0; rw [if_pos hc12, if_neg hc14, if_pos hc20]]
          exact ⟨rfl, N19, rfl⟩
      · obtain ⟨fs, hr, hrun, hended, hW, hsame⟩ := X19.leave (v := some (.int (0 : Int32))) (fun h => by rw [Bd.returns] at h; cases h)
        refine ⟨_, _, pre21 _ ?_, hrun, hended, _, _, rfl, ?_, ⟨_, rfl⟩, hW, hsame.mono (by decide) (by decide)⟩
        · show Steps p.tables e below (T19.setTop (mkF m 47 #[.val (.int p1), .val (.int p2), .val (.int (p1 &&& (1 : Int32))), .val (.int (p2 &&& (1 : Int32))), .val (.ref (f1 (p1 &&& (1 : Int32)) w_ARBITRARY w_FIFO)), .val (.ref (f1 (p2 &&& (1 : Int32)) w_ARBITRARY w_FIFO)), .val (.int (1 : Int32))] [(.int (1 : Int32)), (.int (f2 (f1 (p1 &&& (1 : Int32)) w_ARBITRARY w_FIFO) (f1 (p2 &&& (1 : Int32)) w_ARBITRARY w_FIFO) w_ARBITRARY))])) _
          refine XS.icmpYes X19.here hx rfl (pc0 := 47) (pc' := 54) rfl (hb hby at_47) rfl (feq hc20).2 (by decide) (by decide) ?_
          show Steps p.tables e below (T19.setTop (mkF m 54 #[.val (.int p1), .val (.int p2), .val (.int (p1 &&& (1 : Int32))), .val (.int (p2 &&& (1 : Int32))), .val (.ref (f1 (p1 &&& (1 : Int32)) w_ARBITRARY w_FIFO)), .val (.ref (f1 (p2 &&& (1 : Int32)) w_ARBITRARY w_FIFO)), .val (.int (1 : Int32))] [])) _
          refine XS.iconst X19.here hx rfl (hb hby at_54) ?_
          show Steps p.tables e below (T19.setTop (mkF m 55 #[.val (.int p1), .val (.int p2), .val (.int (p1 &&& (1 : Int32))), .val (.int (p2 &&& (1 : Int32))), .val (.ref (f1 (p1 &&& (1 : Int32)) w_ARBITRARY w_FIFO)), .val (.ref (f1 (p2 &&& (1 : Int32)) w_ARBITRARY w_FIFO)), .val (.int (1 : Int32))] [(.int (0 : Int32))])) _
          exact retN X19 hx (t := .boolean) Bd.returns (by simp) (hb hby at_55) hr
        · show QP _ h0 n0 _ T19.heap _
          rw [e19, show f0 p1 p2 w_ARBITRARY w_FIFO = (0 : Int32) from by unfold f0; rw [if_pos hc12, if_neg hc14, if_neg hc20]]
          exact ⟨rfl, N19, rfl⟩
  · obtain ⟨cq22, kq22, q22a, q22b, q22c⟩ := isOf hZ e11 (f1_all (P := fun a => Exa Z h0 a "com/example/hard_delay_bounds/harddelaybounds/analysis/Multiplexing") (p1 &&& (1 : Int32)) w_ARBITRARY w_FIFO E_ARBITRARY E_FIFO)
    obtain ⟨_, _, ⟨T22, L22, k22, n22⟩, -, X22, ⟨Lc22, hQ22, l22, y22, z22⟩, st22⟩ := X11.virtualBack hx (y := (⟨"com/example/hard_delay_bounds/harddelaybounds/analysis/Multiplexing", "isOneWayOf", "(Lcom/example/hard_delay_bounds/harddelaybounds/analysis/Multiplexing;)Z"⟩ : MethodName)) (z := (⟨"com/example/hard_delay_bounds/harddelaybounds/analysis/Multiplexing", "isOneWayOf", "(Lcom/example/hard_delay_bounds/harddelaybounds/analysis/Multiplexing;)Z"⟩ : MethodName)) hown (mvT hZ (hw _ (List.mem_of_getElem? (i := 9) rfl))) (mvT hZ (hw _ (List.mem_of_getElem? (i := 10) rfl))) (notFace_of_selects (args := #[]) (mvT hZ (hw _ (List.mem_of_getElem? (i := 12) rfl)))) (mvT hZ (hw _ (List.mem_of_getElem? (i := 12) rfl))) (mvT hZ (hw _ (List.mem_of_getElem? (i := 11) rfl))) (by decide) (backOf (W := 0) (rm2 l Z a0 hw [] (f1 (p1 &&& (1 : Int32)) w_ARBITRARY w_FIFO) (f1 (p2 &&& (1 : Int32)) w_ARBITRARY w_FIFO) w_ARBITRARY h0 n0 Z0 S_ARBITRARY) hZ (hw _ (List.mem_of_getElem? (i := 13) rfl)) (hw _ (List.mem_of_getElem? (i := 5) rfl)) (by decide) (by decide)) q22a q22c (g := (mkF m 42 #[.val (.int p1), .val (.int p2), .val (.int (p1 &&& (1 : Int32))), .val (.int (p2 &&& (1 : Int32))), .val (.ref (f1 (p1 &&& (1 : Int32)) w_ARBITRARY w_FIFO)), .val (.ref (f1 (p2 &&& (1 : Int32)) w_ARBITRARY w_FIFO)), .val (.int (1 : Int32))] [(.ref (f1 (p2 &&& (1 : Int32)) w_ARBITRARY w_FIFO)), (.ref (f1 (p1 &&& (1 : Int32)) w_ARBITRARY w_FIFO))])) rfl (by rw [hml]; rfl) (Steps.refl _) (argsL := [(.ref (f1 (p2 &&& (1 : Int32)) w_ARBITRARY w_FIFO))]) (rest := []) (lenOf pd_1 rfl) rfl (by show 2 * 0 + _ ≤ _; exact Nat.le_of_eq rfl) (hb hby at_42) (fun _ _ => ⟨rfl, e11, (by decide : 0 + 0 ≤ _), (by decide : 0 + 0 ≤ _)⟩)
    dsimp only [Pt.U, Pt.locs, Pt.cells, Pt.slots] at X22 l22 y22 z22 st22 hQ22
    subst l22 y22 z22
    obtain ⟨rfl, N22q, e22⟩ := hQ22
    have N22 := Fr.app N11 N22q
    have pre24 : ∀ t, Steps p.tables e below (T22.setTop (mkF m 47 #[.val (.int p1), .val (.int p2), .val (.int (p1 &&& (1 : Int32))), .val (.int (p2 &&& (1 : Int32))), .val (.ref (f1 (p1 &&& (1 : Int32)) w_ARBITRARY w_FIFO)), .val (.ref (f1 (p2 &&& (1 : Int32)) w_ARBITRARY w_FIFO)), .val (.int (1 : Int32))] [(.int (1 : Int32)), (.int (f2 (f1 (p1 &&& (1 : Int32)) w_ARBITRARY w_FIFO) (f1 (p2 &&& (1 : Int32)) w_ARBITRARY w_FIFO) w_ARBITRARY))])) t → Steps p.tables e below (s₁.setTop (entryFrame m #[(.int p1), (.int p2)] maxLocals)) t := fun t k => by
      refine pre13 _ ?_
      show Steps p.tables e below (T11.setTop (mkF m 21 #[.val (.int p1), .val (.int p2), .val (.int (p1 &&& (1 : Int32))), .val (.int (p2 &&& (1 : Int32))), .val (.ref (f1 (p1 &&& (1 : Int32)) w_ARBITRARY w_FIFO)), .val (.ref (f1 (p2 &&& (1 : Int32)) w_ARBITRARY w_FIFO)), .unset] [(.int (p1 &&& (1 : Int32)))])) _
      refine XS.ifYes X11.here hx rfl (pc0 := 21) (pc' := 35) rfl (hb hby at_21) rfl ((if0 _ _).trans (feq hc12).2) (by decide) (by decide) ?_
      show Steps p.tables e below (T11.setTop (mkF m 35 #[.val (.int p1), .val (.int p2), .val (.int (p1 &&& (1 : Int32))), .val (.int (p2 &&& (1 : Int32))), .val (.ref (f1 (p1 &&& (1 : Int32)) w_ARBITRARY w_FIFO)), .val (.ref (f1 (p2 &&& (1 : Int32)) w_ARBITRARY w_FIFO)), .unset] [])) _
      refine XS.iconst X11.here hx rfl (hb hby at_35) ?_
      show Steps p.tables e below (T11.setTop (mkF m 36 #[.val (.int p1), .val (.int p2), .val (.int (p1 &&& (1 : Int32))), .val (.int (p2 &&& (1 : Int32))), .val (.ref (f1 (p1 &&& (1 : Int32)) w_ARBITRARY w_FIFO)), .val (.ref (f1 (p2 &&& (1 : Int32)) w_ARBITRARY w_FIFO)), .unset] [(.int (1 : Int32))])) _
      refine XS.istore X11.here hx rfl (hb hby at_36) rfl (l' := #[.val (.int p1), .val (.int p2), .val (.int (p1 &&& (1 : Int32))), .val (.int (p2 &&& (1 : Int32))), .val (.ref (f1 (p1 &&& (1 : Int32)) w_ARBITRARY w_FIFO)), .val (.ref (f1 (p2 &&& (1 : Int32)) w_ARBITRARY w_FIFO)), .val (.int (1 : Int32))]) rfl ?_
      show Steps p.tables e below (T11.setTop (mkF m 38 #[.val (.int p1), .val (.int p2), .val (.int (p1 &&& (1 : Int32))), .val (.int (p2 &&& (1 : Int32))), .val (.ref (f1 (p1 &&& (1 : Int32)) w_ARBITRARY w_FIFO)), .val (.ref (f1 (p2 &&& (1 : Int32)) w_ARBITRARY w_FIFO)), .val (.int (1 : Int32))] [])) _
      refine XS.aload X11.here hx rfl (hb hby at_38) rfl rfl ?_
      show Steps p.tables e below (T11.setTop (mkF m 40 #[.val (.int p1), .val (.int p2), .val (.int (p1 &&& (1 : Int32))), .val (.int (p2 &&& (1 : Int32))), .val (.ref (f1 (p1 &&& (1 : Int32)) w_ARBITRARY w_FIFO)), .val (.ref (f1 (p2 &&& (1 : Int32)) w_ARBITRARY w_FIFO)), .val (.int (1 : Int32))] [(.ref (f1 (p1 &&& (1 : Int32)) w_ARBITRARY w_FIFO))])) _
      refine XS.aload X11.here hx rfl (hb hby at_40) rfl rfl ?_
      show Steps p.tables e below (T11.setTop (mkF m 42 #[.val (.int p1), .val (.int p2), .val (.int (p1 &&& (1 : Int32))), .val (.int (p2 &&& (1 : Int32))), .val (.ref (f1 (p1 &&& (1 : Int32)) w_ARBITRARY w_FIFO)), .val (.ref (f1 (p2 &&& (1 : Int32)) w_ARBITRARY w_FIFO)), .val (.int (1 : Int32))] [(.ref (f1 (p2 &&& (1 : Int32)) w_ARBITRARY w_FIFO)), (.ref (f1 (p1 &&& (1 : Int32)) w_ARBITRARY w_FIFO))])) _
      refine st22.trans ?_
      show Steps p.tables e below (T22.setTop (mkF m 45 #[.val (.int p1), .val (.int p2), .val (.int (p1 &&& (1 : Int32))), .val (.int (p2 &&& (1 : Int32))), .val (.ref (f1 (p1 &&& (1 : Int32)) w_ARBITRARY w_FIFO)), .val (.ref (f1 (p2 &&& (1 : Int32)) w_ARBITRARY w_FIFO)), .val (.int (1 : Int32))] [(.int (f2 (f1 (p1 &&& (1 : Int32)) w_ARBITRARY w_FIFO) (f1 (p2 &&& (1 : Int32)) w_ARBITRARY w_FIFO) w_ARBITRARY))])) _
      refine XS.iload X22.here hx rfl (hb hby at_45) rfl ?_
      exact k
    by_cases hc23 : (f2 (f1 (p1 &&& (1 : Int32)) w_ARBITRARY w_FIFO) (f1 (p2 &&& (1 : Int32)) w_ARBITRARY w_FIFO) w_ARBITRARY) = (1 : Int32)
    · obtain ⟨fs, hr, hrun, hended, hW, hsame⟩ := X22.leave (v := some (.int (1 : Int32))) (fun h => by rw [Bd.returns] at h; cases h)
      refine ⟨_, _, pre24 _ ?_, hrun, hended, _, _, rfl, ?_, ⟨_, rfl⟩, hW, hsame.mono (by decide) (by decide)⟩
      · show Steps p.tables e below (T22.setTop (mkF m 47 #[.val (.int p1), .val (.int p2), .val (.int (p1 &&& (1 : Int32))), .val (.int (p2 &&& (1 : Int32))), .val (.ref (f1 (p1 &&& (1 : Int32)) w_ARBITRARY w_FIFO)), .val (.ref (f1 (p2 &&& (1 : Int32)) w_ARBITRARY w_FIFO)), .val (.int (1 : Int32))] [(.int (1 : Int32)), (.int (f2 (f1 (p1 &&& (1 : Int32)) w_ARBITRARY w_FIFO) (f1 (p2 &&& (1 : Int32)) w_ARBITRARY w_FIFO) w_ARBITRARY))])) _
        refine XS.icmpNo X22.here hx rfl (hb hby at_47) rfl (teq hc23).2 ?_
        show Steps p.tables e below (T22.setTop (mkF m 50 #[.val (.int p1), .val (.int p2), .val (.int (p1 &&& (1 : Int32))), .val (.int (p2 &&& (1 : Int32))), .val (.ref (f1 (p1 &&& (1 : Int32)) w_ARBITRARY w_FIFO)), .val (.ref (f1 (p2 &&& (1 : Int32)) w_ARBITRARY w_FIFO)), .val (.int (1 : Int32))] [])) _
        refine XS.iconst X22.here hx rfl (hb hby at_50) ?_
        show Steps p.tables e below (T22.setTop (mkF m 51 #[.val (.int p1), .val (.int p2), .val (.int (p1 &&& (1 : Int32))), .val (.int (p2 &&& (1 : Int32))), .val (.ref (f1 (p1 &&& (1 : Int32)) w_ARBITRARY w_FIFO)), .val (.ref (f1 (p2 &&& (1 : Int32)) w_ARBITRARY w_FIFO)), .val (.int (1 : Int32))] [(.int (1 : Int32))])) _
        refine XS.goto X22.here hx rfl (pc0 := 51) (pc' := 55) rfl (hb hby at_51) (by decide) (by decide) ?_
        show Steps p.tables e below (T22.setTop (mkF m 55 #[.val (.int p1), .val (.int p2), .val (.int (p1 &&& (1 : Int32))), .val (.int (p2 &&& (1 : Int32))), .val (.ref (f1 (p1 &&& (1 : Int32)) w_ARBITRARY w_FIFO)), .val (.ref (f1 (p2 &&& (1 : Int32)) w_ARBITRARY w_FIFO)), .val (.int (1 : Int32))] [(.int (1 : Int32))])) _
        exact retN X22 hx (t := .boolean) Bd.returns (by simp) (hb hby at_55) hr
      · show QP _ h0 n0 _ T22.heap _
        rw [e22, show f0 p1 p2 w_ARBITRARY w_FIFO = (1 : Int32) from by unfold f0; rw [if_neg hc12, if_pos hc23]]
        exact ⟨rfl, N22, rfl⟩
    · obtain ⟨fs, hr, hrun, hended, hW, hsame⟩ := X22.leave (v := some (.int (0 : Int32))) (fun h => by rw [Bd.returns] at h; cases h)
      refine ⟨_, _, pre24 _ ?_, hrun, hended, _, _, rfl, ?_, ⟨_, rfl⟩, hW, hsame.mono (by decide) (by decide)⟩
      · show Steps p.tables e below (T22.setTop (mkF m 47 #[.val (.int p1), .val (.int p2), .val (.int (p1 &&& (1 : Int32))), .val (.int (p2 &&& (1 : Int32))), .val (.ref (f1 (p1 &&& (1 : Int32)) w_ARBITRARY w_FIFO)), .val (.ref (f1 (p2 &&& (1 : Int32)) w_ARBITRARY w_FIFO)), .val (.int (1 : Int32))] [(.int (1 : Int32)), (.int (f2 (f1 (p1 &&& (1 : Int32)) w_ARBITRARY w_FIFO) (f1 (p2 &&& (1 : Int32)) w_ARBITRARY w_FIFO) w_ARBITRARY))])) _
        refine XS.icmpYes X22.here hx rfl (pc0 := 47) (pc' := 54) rfl (hb hby at_47) rfl (feq hc23).2 (by decide) (by decide) ?_
        show Steps p.tables e below (T22.setTop (mkF m 54 #[.val (.int p1), .val (.int p2), .val (.int (p1 &&& (1 : Int32))), .val (.int (p2 &&& (1 : Int32))), .val (.ref (f1 (p1 &&& (1 : Int32)) w_ARBITRARY w_FIFO)), .val (.ref (f1 (p2 &&& (1 : Int32)) w_ARBITRARY w_FIFO)), .val (.int (1 : Int32))] [])) _
        refine XS.iconst X22.here hx rfl (hb hby at_54) ?_
        show Steps p.tables e below (T22.setTop (mkF m 55 #[.val (.int p1), .val (.int p2), .val (.int (p1 &&& (1 : Int32))), .val (.int (p2 &&& (1 : Int32))), .val (.ref (f1 (p1 &&& (1 : Int32)) w_ARBITRARY w_FIFO)), .val (.ref (f1 (p2 &&& (1 : Int32)) w_ARBITRARY w_FIFO)), .val (.int (1 : Int32))] [(.int (0 : Int32))])) _
        exact retN X22 hx (t := .boolean) Bd.returns (by simp) (hb hby at_55) hr
      · show QP _ h0 n0 _ T22.heap _
        rw [e22, show f0 p1 p2 w_ARBITRARY w_FIFO = (0 : Int32) from by unfold f0; rw [if_neg hc12, if_neg hc23]]
        exact ⟨rfl, N22, rfl⟩
theorem own_law (a b : Int32) (w_ARBITRARY w_FIFO : Addr) (n : w_ARBITRARY ≠ w_FIFO) : f0 a b w_ARBITRARY w_FIFO = 1 := by
  have n' : w_FIFO ≠ w_ARBITRARY := Ne.symm n
  rcases and_one a with h | h <;> rcases and_one b with k | k <;> simp [f0, f1, f2, h, k, n, n']
set_option maxRecDepth 65536 in
set_option maxHeartbeats 40000000 in
theorem comes_1 {Post : Tables → Env → Array Value → State → Outcome → State → Prop} (hpost : ∀ tb e args s v u, (limb_1_1.after args s (.returned v) u = true ∧ limb_1_2.after args s (.returned v) u = true ∧ True) → FrameEnd s (.returned v) u (Jvm.fieldLocs frame_1_writes args s ++ Jvm.arrayLocs frame_1_arrays args s ++ Jvm.staticLocs frame_1_statics s) 0 0 → Post tb e args s (.returned v) u) :
    ArmFor flags0 classFile x code maxLocals ret World_1 tables_1 room_1 Calls_1 rest_1 Pre_1 Post := by
  intro l hfl _ _ p e ha hc hk s m args below hf hA hF happ hP
  obtain ⟨hcalls, hrest, hpre⟩ := hP
  obtain ⟨-, -, -, hnamed, -, -, -, hat⟩ := (Spec.applies_iff hf).mp happ
  obtain ⟨hg, hn⟩ := and_e (Cond.before_iff.mp (show (Jvm.Cond.and given_1 narrow_1).before args s = true from hpre))
  obtain ⟨gc, gr0⟩ := and_e hg
  obtain ⟨g0, gr1⟩ := and_e gr0
  obtain ⟨w0, w1, rfl⟩ : ∃ w0 w1 : Value, args = #[w0, w1] := by
    have hs : args.size = 2 := by simpa [Cond.value, given_1] using gc
    obtain ⟨L⟩ := args
    match L, hs with
    | [w0, w1], _ => exact ⟨w0, w1, rfl⟩
  have hw := fun d (hd : d ∈ tables_1) => atoms_spec (ws := Jvm.Cond.code x code maxLocals ret :: tables_1) hat d (List.mem_cons_of_mem _ hd)
  have hfit : Fit s := fun {y c} hc i hi => by
    obtain ⟨ha, rfl⟩ := Array.getElem?_eq_some_iff.mp hc
    have q := List.all_eq_true.mp ((Array.all_eq_true_iff_forall_mem.mp hF) _ (Array.getElem_mem ha)) i (List.mem_range.mpr hi)
    simpa [Array.getElem?_eq_getElem hi] using q
  obtain ⟨i0, ei0⟩ := is_v g0
  obtain rfl : w0 = (.int i0) := Option.some.inj ei0
  obtain ⟨i1, ei1⟩ := is_v gr1
  obtain rfl : w1 = (.int i1) := Option.some.inj ei1
  obtain ⟨nn0, nr0⟩ := and_e hn
  obtain ⟨nn1, nr1⟩ := and_e nr0
  obtain ⟨nn2, nr2⟩ := and_e nr1
  obtain ⟨w_ARBITRARY, ev_ARBITRARY⟩ := exa_v nn0
  have S_ARBITRARY : Sta s s.heap "com/example/hard_delay_bounds/harddelaybounds/analysis/Multiplexing" "ARBITRARY" "Lcom/example/hard_delay_bounds/harddelaybounds/analysis/Multiplexing;" (.ref w_ARBITRARY) := Sta.start ev_ARBITRARY (Or.inr ⟨(hw _ (List.mem_of_getElem? (i := 5) rfl)), (hw _ (List.mem_of_getElem? (i := 6) rfl))⟩)
  have E_ARBITRARY : Exa s s.heap w_ARBITRARY "com/example/hard_delay_bounds/harddelaybounds/analysis/Multiplexing" := Exa.start ev_ARBITRARY nn0
  obtain ⟨w_FIFO, ev_FIFO⟩ := exa_v nn1
  have S_FIFO : Sta s s.heap "com/example/hard_delay_bounds/harddelaybounds/analysis/Multiplexing" "FIFO" "Lcom/example/hard_delay_bounds/harddelaybounds/analysis/Multiplexing;" (.ref w_FIFO) := Sta.start ev_FIFO (Or.inr ⟨(hw _ (List.mem_of_getElem? (i := 5) rfl)), (hw _ (List.mem_of_getElem? (i := 8) rfl))⟩)
  have E_FIFO : Exa s s.heap w_FIFO "com/example/hard_delay_bounds/harddelaybounds/analysis/Multiplexing" := Exa.start ev_FIFO nn1
  have O_FIFO : Fld s s.heap w_FIFO "java/lang/Enum" "ordinal" "I" (.int (1 : Int32)) := Fld.start ((fld_at ev_FIFO).symm.trans (own_eqi nn2))
  have O_ARBITRARY : Fld s s.heap w_ARBITRARY "java/lang/Enum" "ordinal" "I" (.int (0 : Int32)) := Fld.start ((fld_at ev_ARBITRARY).symm.trans (own_eqi nr2))
  have n_ARBITRARY_FIFO : w_ARBITRARY ≠ w_FIFO := Fld.ne O_ARBITRARY O_FIFO (by decide)
  have hone : f0 i0 i1 w_ARBITRARY w_FIFO = 1 := own_law i0 i1 w_ARBITRARY w_FIFO n_ARBITRARY_FIFO
  obtain ⟨n, o, h1, h2, h3, _, L, rfl, ⟨rfl, N, -⟩, hq⟩ := rm0 l s _ hw tables_1 i0 i1 w_ARBITRARY w_FIFO s.heap s.heap.size (Nat.le_refl _) S_ARBITRARY E_ARBITRARY S_FIFO E_FIFO p e ha hc hk s m _ below hf ((Spec.applies_iff_loose hf).mp happ).1 ⟨rfl, State.Warmed39.refl s, rfl⟩ trivial
  rw [hone] at h3 hq
  refine ⟨n, _, h1, h2, h3, hpost _ _ _ _ _ _ ⟨Cond.after_iff.mpr rfl, Cond.after_iff.mpr (eq_i res_at (Term.int_eval (1)) rfl), trivial⟩ ⟨hq.1, hq.2.1, (hq.2.2.sift fun y hy => Or.inr (N y hy)).mono (by decide) (by decide)⟩⟩
theorem main_1_1 : Claimed_1_1 := comes_1 fun _ _ _ _ _ _ h hF => ⟨h.1, hF⟩
theorem main_1_2 : Claimed_1_2 := comes_1 fun _ _ _ _ _ _ h hF => ⟨h.2.1, hF⟩
end Jvm.Pilot.@@N@@
namespace Jvm.Pilot.@@N@@
open Jvm Jvm.ClassFile Sem Op Lib Jvm.Free Jvm.Stand Jvm.Pilot.@@N@@.Jvm.D
/-! MADE BY PROGRAM (witnessworld.py) out of the Statement's table words and the real class files: 10 classes; the members and pool entries that the words name. The judged class is class 1, her method 2. -/
namespace start1
open Jvm.ClassFile
def u (s : String) : CpInfo := .utf8 (stringToUtf16 s)
/-- a pool by its gaps: so many unusable entries, then the entry; so many at the end -/
def gap : Nat → List CpInfo → List CpInfo
  | 0, r => r
  | n + 1, r => .unusable :: gap n r
def poolList (es : List (Nat × CpInfo)) (last : Nat) : List CpInfo := es.foldr (fun e r => gap e.1 (e.2 :: r)) (gap last [])
def pool (es : List (Nat × CpInfo)) (last : Nat) : Array CpInfo := ⟨poolList es last⟩
def fileOf (pool : Array CpInfo) (this : Nat) (attrs : Array Attribute := #[]) (ms : Array MethodInfo := #[]) (fl : Nat := 33) (sup : Nat := 0) (ifs : Array Nat := #[]) (fds : Array FieldInfo := #[]) : ClassFile where
  minorVersion := 0
  majorVersion := 65
  constantPool := pool
  accessFlags := fl
  thisClass := this
  superClass := sup
  interfaces := ifs
  fields := fds
  methods := ms
  attributes := attrs
def plain (name : String) (sup : Option ClassId) : Class where
  name := name
  kind := .ordinary
  loader := none
  accessFlags := 33
  super := sup
  interfaces := #[]
  cf := none
  fields := #[]
  methods := #[]
  instanceTypes := #[]
  staticTypes := #[]
  resolved := #[]
  callSites := []
  init := .initialized
  statics := none
  mirror := none

def pool0 : Array CpInfo := pool [(5, u "<init>"), (0, u "()V"), (1, .class_ 10), (1, u "java/lang/Object")] 113

def k0m0 : Method := { name := "<init>", desc := "()V", sig := { parameters := [], returnType := none }, accessFlags := 1, code := none }
/-- java/lang/Object -/
def k0 : Class := { plain "java/lang/Object" none with
  accessFlags := 33
  interfaces := #[]
  cf := some (fileOf pool0 8 #[] #[{ accessFlags := 1, nameIndex := 5, descriptorIndex := 6, attributes := #[] }] 33 0 #[] #[])
  fields := #[]
  methods := #[k0m0]
  instanceTypes := #[]
  staticTypes := #[]
  resolved := Array.replicate 124 none
  statics := none }

def pool1 : Array CpInfo := pool [(2, .class_ 4), (1, u "java/lang/Object"), (0, u "<init>"), (0, u "()V"), (0, .fieldref 8 9), (0, .class_ 10), (0, .nameAndType 11 12), (0, u "com/example/hard_delay_bounds/harddelaybounds/analysis/Multiplexing"), (0, u "ARBITRARY"), (0, u "Lcom/example/hard_delay_bounds/harddelaybounds/analysis/Multiplexing;"), (0, .fieldref 8 14), (0, .nameAndType 15 12), (0, u "FIFO"), (0, .methodref 17 18), (0, .class_ 19), (0, .nameAndType 20 21), (0, u "com/example/hard_delay_bounds/harddelaybounds/analysis/MultiplexingIsOneWayOfPinLaw"), (0, u "pick"), (0, u "(I)Lcom/example/hard_delay_bounds/harddelaybounds/analysis/Multiplexing;"), (0, .methodref 8 23), (0, .nameAndType 24 25), (0, u "isOneWayOf"), (0, u "(Lcom/example/hard_delay_bounds/harddelaybounds/analysis/Multiplexing;)Z"), (3, u "law"), (0, u "(II)Z")] 2

def k1m0 : Method := { name := "<init>", desc := "()V", sig := { parameters := [], returnType := none }, accessFlags := 2, code := none }
def k1c1 : Code := { maxStack := 1, maxLocals := 1, code := method_2_code, exceptionTable := #[], attributes := #[] }
def k1m1 : Method := { name := "pick", desc := "(I)Lcom/example/hard_delay_bounds/harddelaybounds/analysis/Multiplexing;", sig := { parameters := [.int], returnType := some (.object "com/example/hard_delay_bounds/harddelaybounds/analysis/Multiplexing") }, accessFlags := 10, code := some k1c1 }
def k1c2 : Code := { maxStack := 2, maxLocals := 7, code := code, exceptionTable := #[], attributes := #[] }
def k1m2 : Method := { name := "law", desc := "(II)Z", sig := { parameters := [.int, .int], returnType := some .boolean }, accessFlags := 9, code := some k1c2 }
/-- com/example/hard_delay_bounds/harddelaybounds/analysis/MultiplexingIsOneWayOfPinLaw -/
def k1 : Class := { plain "com/example/hard_delay_bounds/harddelaybounds/analysis/MultiplexingIsOneWayOfPinLaw" (some 0) with
  accessFlags := 49
  interfaces := #[]
  cf := some (fileOf pool1 17 #[] #[{ accessFlags := 2, nameIndex := 5, descriptorIndex := 6, attributes := #[] }, { accessFlags := 10, nameIndex := 20, descriptorIndex := 21, attributes := #[] }, { accessFlags := 9, nameIndex := 29, descriptorIndex := 30, attributes := #[] }] 49 2 #[] #[])
  fields := #[]
  methods := #[k1m0, k1m1, k1m2]
  instanceTypes := #[]
  staticTypes := #[]
  resolved := Array.replicate 33 none
  statics := none }

def pool2 : Array CpInfo := pool [(1, .class_ 2), (0, u "java/lang/constant/Constable"), (0, .class_ 4), (0, u "java/lang/Object")] 6

/-- java/lang/constant/Constable -/
def k2 : Class := { plain "java/lang/constant/Constable" (some 0) with
  accessFlags := 1537
  interfaces := #[]
  cf := some (fileOf pool2 1 #[] #[] 1537 3 #[] #[])
  fields := #[]
  methods := #[]
  instanceTypes := #[]
  staticTypes := #[]
  resolved := Array.replicate 11 none
  statics := none }

def pool3 : Array CpInfo := pool [(1, .class_ 2), (0, u "java/lang/Comparable"), (0, .class_ 4), (0, u "java/lang/Object")] 7

/-- java/lang/Comparable -/
def k3 : Class := { plain "java/lang/Comparable" (some 0) with
  accessFlags := 1537
  interfaces := #[]
  cf := some (fileOf pool3 1 #[] #[] 1537 3 #[] #[])
  fields := #[]
  methods := #[]
  instanceTypes := #[]
  staticTypes := #[]
  resolved := Array.replicate 12 none
  statics := none }

def pool4 : Array CpInfo := pool [(1, .class_ 2), (0, u "java/io/Serializable"), (0, .class_ 4), (0, u "java/lang/Object")] 2

/-- java/io/Serializable -/
def k4 : Class := { plain "java/io/Serializable" (some 0) with
  accessFlags := 1537
  interfaces := #[]
  cf := some (fileOf pool4 1 #[] #[] 1537 3 #[] #[])
  fields := #[]
  methods := #[]
  instanceTypes := #[]
  staticTypes := #[]
  resolved := Array.replicate 7 none
  statics := none }

def pool5 : Array CpInfo := pool [(2, .class_ 4), (1, u "java/lang/Enum"), (0, u "name"), (0, u "Ljava/lang/String;"), (2, u "ordinal"), (0, u "I"), (1, .class_ 14), (1, u "java/lang/Object"), (4, u "hash"), (86, .class_ 108), (1, u "java/lang/Enum$EnumDesc"), (2, .class_ 112), (0, u "java/lang/constant/Constable"), (0, .class_ 114), (0, u "java/lang/Comparable"), (0, .class_ 116), (0, u "java/io/Serializable")] 87

/-- java/lang/Enum -/
def k5 : Class := { plain "java/lang/Enum" (some 0) with
  accessFlags := 1057
  interfaces := #[2, 3, 4]
  cf := some (fileOf pool5 2 #[.nestMembers #[106]] #[] 1057 12 #[111, 113, 115] #[{ accessFlags := 18, nameIndex := 5, descriptorIndex := 6, attributes := #[] }, { accessFlags := 18, nameIndex := 9, descriptorIndex := 10, attributes := #[] }, { accessFlags := 2, nameIndex := 19, descriptorIndex := 10, attributes := #[] }])
  fields := #[{ name := "name", type := (.object "java/lang/String"), accessFlags := 18, slot := 0, constantValue := 0 }, { name := "ordinal", type := .int, accessFlags := 18, slot := 1, constantValue := 0 }, { name := "hash", type := .int, accessFlags := 2, slot := 2, constantValue := 0 }]
  methods := #[]
  instanceTypes := #[(.object "java/lang/String"), .int, .int]
  staticTypes := #[]
  resolved := Array.replicate 204 none
  statics := none }

def pool6 : Array CpInfo := pool [(1, .class_ 2), (0, u "com/example/hard_delay_bounds/harddelaybounds/analysis/Multiplexing"), (0, .fieldref 1 4), (0, .nameAndType 5 6), (0, u "ARBITRARY"), (0, u "Lcom/example/hard_delay_bounds/harddelaybounds/analysis/Multiplexing;"), (2, u "FIFO"), (2, u "$VALUES"), (0, u "[Lcom/example/hard_delay_bounds/harddelaybounds/analysis/Multiplexing;"), (6, .class_ 22), (1, u "java/lang/Enum"), (20, u "isOneWayOf"), (0, u "(Lcom/example/hard_delay_bounds/harddelaybounds/analysis/Multiplexing;)Z")] 5

def k6c0 : Code := { maxStack := 2, maxLocals := 2, code := prog_22_method_4_code, exceptionTable := #[], attributes := #[] }
def k6m0 : Method := { name := "isOneWayOf", desc := "(Lcom/example/hard_delay_bounds/harddelaybounds/analysis/Multiplexing;)Z", sig := { parameters := [(.object "com/example/hard_delay_bounds/harddelaybounds/analysis/Multiplexing")], returnType := some .boolean }, accessFlags := 0, code := some k6c0 }
/-- com/example/hard_delay_bounds/harddelaybounds/analysis/Multiplexing -/
def k6 : Class := { plain "com/example/hard_delay_bounds/harddelaybounds/analysis/Multiplexing" (some 5) with
  accessFlags := 16433
  interfaces := #[]
  cf := some (fileOf pool6 1 #[] #[{ accessFlags := 0, nameIndex := 43, descriptorIndex := 44, attributes := #[] }] 16433 20 #[] #[{ accessFlags := 16409, nameIndex := 5, descriptorIndex := 6, attributes := #[] }, { accessFlags := 16409, nameIndex := 9, descriptorIndex := 6, attributes := #[] }, { accessFlags := 4122, nameIndex := 12, descriptorIndex := 13, attributes := #[] }])
  fields := #[{ name := "ARBITRARY", type := (.object "com/example/hard_delay_bounds/harddelaybounds/analysis/Multiplexing"), accessFlags := 16409, slot := 0, constantValue := 0 }, { name := "FIFO", type := (.object "com/example/hard_delay_bounds/harddelaybounds/analysis/Multiplexing"), accessFlags := 16409, slot := 1, constantValue := 0 }, { name := "$VALUES", type := (.array (.object "com/example/hard_delay_bounds/harddelaybounds/analysis/Multiplexing")), accessFlags := 4122, slot := 2, constantValue := 0 }]
  methods := #[k6m0]
  instanceTypes := #[(.object "java/lang/String"), .int, .int]
  staticTypes := #[(.object "com/example/hard_delay_bounds/harddelaybounds/analysis/Multiplexing"), (.object "com/example/hard_delay_bounds/harddelaybounds/analysis/Multiplexing"), (.array (.object "com/example/hard_delay_bounds/harddelaybounds/analysis/Multiplexing"))]
  resolved := Array.replicate 50 none
  statics := some 0 }

def pool7 : Array CpInfo := pool [(1, u "java/lang/Cloneable"), (0, .class_ 1), (0, u "java/lang/Object"), (0, .class_ 3)] 3

/-- java/lang/Cloneable -/
def k7 : Class := { plain "java/lang/Cloneable" (some 0) with
  accessFlags := 1537
  interfaces := #[]
  cf := some (fileOf pool7 2 #[] #[] 1537 4 #[] #[])
  fields := #[]
  methods := #[]
  instanceTypes := #[]
  staticTypes := #[]
  resolved := Array.replicate 8 none
  statics := none }

/-- the primitive byte -/
def k8 : Class := { plain "byte" none with kind := .primitive 'B', accessFlags := 0x411 }
/-- [B -/
def k9 : Class := { plain "[B" (some 0) with kind := .array 8 .byte, interfaces := #[7, 4], accessFlags := 1041 }

def heap : Heap := #[{ cls := 6, slots := #[.ref 2, .ref 1, .null], vm := .statics 6 },
  { cls := 6, slots := #[.null, .int 1, .int 0], vm := .none },
  { cls := 6, slots := #[.null, .int 0, .int 0], vm := .none }]
def classes : Array Class := #[k0, k1, k2, k3, k4, k5, k6, k7, k8, k9]
def interned : List (Array UInt16 × Addr) := []
def slotsUsed : Nat := 9
def theMethod : MethodId := ⟨1, 2⟩
def args0 : Array Value := #[.int 5, .int 7]
def aboutOver (below : List Frame) : State where
  vm := { classes := classes, interned := interned.toArray }
  heap := heap
  slotsUsed := slotsUsed
  threads := #[{ frames := .invoking theMethod args0 :: below }]
def below0 : List Frame := [.native { method := ⟨0, 0⟩, args := #[] }]
def about1 : State := aboutOver below0
def p0 : Program := .bare "" "" ""
def e0 : Env := launch0.env 0 0 0
theorem w_frames : about1.frames = Frame.invoking theMethod args0 :: below0 := rfl
set_option maxRecDepth 65536 in
theorem w_args : argsFit about1.vm theMethod args0 = true := by decide +kernel
set_option maxRecDepth 65536 in
theorem w_heap : heapFits about1 = true := by decide +kernel
set_option maxRecDepth 65536 in
theorem w_runnable : about1.curStatus? = some .runnable := by decide +kernel
set_option maxRecDepth 65536 in
theorem w_alone : about1.alone = true := by decide +kernel
set_option maxRecDepth 65536 in
theorem w_named : about1.methodNamed? x = some theMethod := by decide +kernel
set_option maxRecDepth 65536 in
theorem w_hears : about1.hears theMethod below0 = true := by decide +kernel
set_option maxRecDepth 65536 in
theorem w_ripe : about1.ripe theMethod args0 below0 = true := by decide +kernel
theorem w_running : about1.status = .running := rfl
set_option maxRecDepth 65536 in
theorem w_room : about1.hasRoom e0.platform room_1 = true :=
  launch0.hasRoom_least _ room_1 (by decide +kernel) (by decide +kernel) (by decide +kernel) (by decide +kernel) (by decide +kernel) (by decide +kernel)
theorem allAtoms_all (ts : List Jvm.Cond) (a : Array Jvm.Value) (st : Jvm.State) : (allAtoms ts).before a st = ts.all (fun c => c.before a st) := by
  induction ts with
  | nil => rfl
  | cons c t ih =>
    show (Jvm.Cond.and c (allAtoms t)).before a st = _
    rw [Jvm.Cond.before_and, ih, List.all_cons]
def words1 : List Jvm.Cond := Jvm.Cond.code x code maxLocals ret :: tables_1
/-- a 'code' word, met by the world's own term for the bytes: nothing is compared byte by byte -/
theorem code_word {y : MethodName} {bytes : ByteArray} {mx : Nat} {rt : Option FieldType} {a : Array Value} {s : State} {m : MethodId} {meth : Method} {c : Code} (h1 : s.methodNamed? y = some m) (h2 : s.vm.method? m = some meth) (h3 : meth.code = some c) (h4 : c.code = bytes)
    (h5 : (c.maxLocals == mx && c.exceptionTable.isEmpty && decide (c.maxStack ≤ mostOperands) && decide (meth.sig.returnType = rt) && !meth.locks && decide (parseMethodDescriptor y.desc = some meth.sig)) = true) : (Jvm.Cond.code y bytes mx rt).before a s = true := by
  simp only [Bool.and_eq_true, beq_iff_eq, Bool.not_eq_true', decide_eq_true_eq] at h5
  obtain ⟨⟨⟨⟨⟨g1, g2⟩, g3⟩, g4⟩, g5⟩, g6⟩ := h5
  simp [Cond.before, Cond.holds, Cond.value, h1, h2, h3, h4, g1, g2, g3, g4, g5, g6]
def isCode : Jvm.Cond → Bool
  | .code _ _ _ _ => true
  | _ => false
theorem all_split {L : List Jvm.Cond} {P : Jvm.Cond → Bool} (h1 : L.all (fun c => isCode c || P c) = true) (h2 : ∀ c ∈ L.filter isCode, P c = true) : L.all P = true := by
  refine List.all_eq_true.mpr fun c hc => ?_
  have h := List.all_eq_true.mp h1 c hc
  rcases Bool.eq_false_or_eq_true (isCode c) with hi | hi
  · exact h2 c (List.mem_filter.mpr ⟨hc, hi⟩)
  · simpa [hi] using h
set_option maxRecDepth 65536 in
theorem w_c0 : (Jvm.Cond.code x code maxLocals ret).before args0 about1 = true := code_word (m := ⟨1, 2⟩) (meth := k1m2) (c := k1c2) (by decide +kernel) rfl rfl rfl (by decide +kernel)
set_option maxRecDepth 65536 in
theorem w_c1 : (Jvm.Cond.code ({ cls := "com/example/hard_delay_bounds/harddelaybounds/analysis/MultiplexingIsOneWayOfPinLaw", name := "pick", desc := "(I)Lcom/example/hard_delay_bounds/harddelaybounds/analysis/Multiplexing;" } : Jvm.MethodName) method_2_code (1 : Nat) (Option.some (Jvm.ClassFile.FieldType.object "com/example/hard_delay_bounds/harddelaybounds/analysis/Multiplexing"))).before args0 about1 = true := code_word (m := ⟨1, 1⟩) (meth := k1m1) (c := k1c1) (by decide +kernel) rfl rfl rfl (by decide +kernel)
set_option maxRecDepth 65536 in
theorem w_c2 : (Jvm.Cond.code ({ cls := "com/example/hard_delay_bounds/harddelaybounds/analysis/Multiplexing", name := "isOneWayOf", desc := "(Lcom/example/hard_delay_bounds/harddelaybounds/analysis/Multiplexing;)Z" } : Jvm.MethodName) prog_22_method_4_code (2 : Nat) (Option.some Jvm.ClassFile.FieldType.boolean)).before args0 about1 = true := code_word (m := ⟨6, 0⟩) (meth := k6m0) (c := k6c0) (by decide +kernel) rfl rfl rfl (by decide +kernel)
def codes1 : List Jvm.Cond := [Jvm.Cond.code x code maxLocals ret, Jvm.Cond.code ({ cls := "com/example/hard_delay_bounds/harddelaybounds/analysis/MultiplexingIsOneWayOfPinLaw", name := "pick", desc := "(I)Lcom/example/hard_delay_bounds/harddelaybounds/analysis/Multiplexing;" } : Jvm.MethodName) method_2_code (1 : Nat) (Option.some (Jvm.ClassFile.FieldType.object "com/example/hard_delay_bounds/harddelaybounds/analysis/Multiplexing")), Jvm.Cond.code ({ cls := "com/example/hard_delay_bounds/harddelaybounds/analysis/Multiplexing", name := "isOneWayOf", desc := "(Lcom/example/hard_delay_bounds/harddelaybounds/analysis/Multiplexing;)Z" } : Jvm.MethodName) prog_22_method_4_code (2 : Nat) (Option.some Jvm.ClassFile.FieldType.boolean)]
set_option maxRecDepth 65536 in
theorem codes_eq : words1.filter isCode = codes1 := rfl
theorem w_codes : ∀ c ∈ words1.filter isCode, c.before args0 about1 = true := by
  rw [codes_eq]
  intro c hc
  simp only [codes1, List.mem_cons, List.not_mem_nil, or_false] at hc
  rcases hc with rfl | rfl | rfl
  · exact w_c0
  · exact w_c1
  · exact w_c2
set_option maxRecDepth 65536 in
theorem w_t1 : words1.all (fun c => isCode c || c.before args0 about1) = true := by decide +kernel
theorem w_tables : (allAtoms (Jvm.Cond.code x code maxLocals ret :: tables_1)).before args0 about1 = true := by
  rw [allAtoms_all]
  show words1.all (fun c => c.before args0 about1) = true
  refine all_split ?_ w_codes
  rw [w_t1]
set_option maxRecDepth 65536 in
theorem w_case : (Jvm.Cond.and given_1 narrow_1).before args0 about1 = true := by decide +kernel
theorem w_applies : (headSpec (Jvm.Cond.code x code maxLocals ret :: tables_1) room_1).applies x e0.platform about1 = true :=
  (Spec.applies_iff w_frames).mpr ⟨w_running, w_runnable, w_alone, w_named, w_hears, w_ripe, w_room, w_tables⟩
theorem atStart : AtStart classFile x code maxLocals ret World_1 tables_1 room_1 Calls_1 rest_1 Pre_1 launch0 p0 e0 about1 theMethod args0 below0 :=
  ⟨lists_1, trivial, launch0.admits_env _ _ _, launch0.least_env, fairChoices_fair.cas, fairChoices_fair.clock, w_frames, w_args, w_heap, w_applies, trivial, trivial, w_case⟩
end start1
theorem witness_1 : WitnessClaimed_1 := ⟨start1.p0, start1.e0, start1.about1, start1.theMethod, start1.args0, start1.below0, start1.atStart⟩
end Jvm.Pilot.@@N@@
