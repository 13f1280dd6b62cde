import JvmDerived
import JvmDerived.Pilot.@@N@@Statement
import JvmDerived.Pilot.@@N@@Code
set_option linter.unusedVariables false
set_option linter.unusedSimpArgs false
namespace Jvm.RoadKit
open Sem ClassFile Op Lib Jvm.Stand Jvm.Free Jvm.LawKit
section New
variable {p : Program} {l : Launch} {e : Env} {R : Room} {s : State} {m : MethodId} {args : Array Value} {below : List Frame} {meth : Method} {c : Code} {T : State} {locs : List Loc} {cells slots : Nat}
theorem retI (X : Stand p l e R s m args below meth c T locs cells slots) (hx : p.tables.exec = Jvm.exec) {pc : Nat} {Ls : Array Slot} {z : Int32} {rest : List Value} (hret : meth.sig.returnType = some .int) (hd : decode c.code pc = .ok (.ireturn, 1)) {fs : List Frame}
    (hl : ∀ (f : JFrame) (acts : List Action), f.method = m → f.locked = none → f.entered = [] → (doReturn e (T.setTop f) acts (some (.int z))).1 = T.setFrames fs) : Steps p.tables e below (T.setTop (mkF m pc Ls (.int z :: rest))) (T.setFrames fs) := by
  have hm' : T.vm.method? m = some meth := X.method'
  have hn : narrow .int (.int z) = .int z := rfl
  show Steps p.tables e below (T.setTop { method := m, pc := pc, locals := Ls, stack := _ :: rest, locked := none }) _
  jvm_step X.here [X.here.top, hx, hd, hm', hret, hn]
  first | (intro acts; rw [hl _ acts rfl rfl rfl]) | rw [hl _ _ rfl rfl rfl]
  exact Steps.refl _
end New
end Jvm.RoadKit
namespace Jvm.Pilot.@@N@@
open Jvm Jvm.ClassFile Sem Op Lib Jvm.Free Jvm.Stand Jvm.LawKit Jvm.RoadKit Bundle Jvm.Pilot.@@N@@.Jvm.D
def QP (w : Option Value) (h0 : Heap) (n0 : Nat) (v : Option Value) (h : Heap) (L : List Loc) : Prop := v = w ∧ Fr n0 L ∧ h = h0
theorem d1_0 : decode prog_163_method_17_code 0 = .ok (.lload_n 0, 1) := by decide +kernel
theorem d1_1 : decode prog_163_method_17_code 1 = .ok (.ldc2_w 113, 3) := by decide +kernel
theorem d1_4 : decode prog_163_method_17_code 4 = .ok (.lcmp, 1) := by decide +kernel
theorem d1_5 : decode prog_163_method_17_code 5 = .ok (.ifCond .gt 15, 3) := by decide +kernel
theorem d1_20 : decode prog_163_method_17_code 20 = .ok (.iconst 0, 1) := by decide +kernel
theorem d1_21 : decode prog_163_method_17_code 21 = .ok (.ireturn, 1) := by decide +kernel
theorem d1_8 : decode prog_163_method_17_code 8 = .ok (.lload_n 2, 1) := by decide +kernel
theorem d1_9 : decode prog_163_method_17_code 9 = .ok (.ldc2_w 141, 3) := by decide +kernel
theorem d1_12 : decode prog_163_method_17_code 12 = .ok (.lcmp, 1) := by decide +kernel
theorem d1_13 : decode prog_163_method_17_code 13 = .ok (.ifCond .gt 7, 3) := by decide +kernel
theorem d1_16 : decode prog_163_method_17_code 16 = .ok (.iconst 1, 1) := by decide +kernel
theorem d1_17 : decode prog_163_method_17_code 17 = .ok (.goto 4, 3) := by decide +kernel
theorem pn_1 : plainName "com/example/lendscribe/lendscribe/values/Fields" = true := by first | (simp [plainName, overriddenIn]; done) | decide +kernel
theorem ef_1 (m : MethodId) (x0 : Int64) (x1 : Int64) : entryFrame m #[(.long x0), (.long x1)] 4 = mkF m 0 #[.val (.long x0), .second, .val (.long x1), .second] [] := by first | (simp [entryFrame, mkF, argsToLocals, Value.category]; done) | rfl
def f1 (q1 : Int64) (q2 : Int64) : Int32 := (if (15 : Int64) < q1 then (0 : Int32) else (if (6 : Int64) < q2 then (0 : Int32) else (1 : Int32)))
set_option maxRecDepth 65536 in
set_option maxHeartbeats 40000000 in
theorem rm1 (l : Launch) (Z : State) (a0 : Array Value) (hw : ∀ d ∈ tables_1, d.before a0 Z = true) (ws : List Jvm.Cond) (q1 : Int64) (q2 : Int64) (h0 : Heap) (n0 : Nat) (Z0 : n0 ≤ h0.size) :
    MetFree l (⟨"com/example/lendscribe/lendscribe/values/Fields", "fitsRatioDigits", "(JJ)Z"⟩ : MethodName) (head1 (Jvm.Cond.code (⟨"com/example/lendscribe/lendscribe/values/Fields", "fitsRatioDigits", "(JJ)Z"⟩ : MethodName) prog_163_method_17_code 4 (some .boolean) :: ws) ({ frames := 0, cells := 0, slots := 0, locals := 0 } : Room)) (fun a U => a = #[(.long q1), (.long q2)] ∧ Z.Warmed39 U.vm ∧ U.heap = h0) (fun _ _ _ _ _ => True) (fun _ U o U' => ∃ v L, o = .returned v ∧ QP (some (.int (f1 q1 q2))) h0 n0 v U'.heap L ∧ FrameEnd U o U' L ({ frames := 0, cells := 0, slots := 0, locals := 0 } : Room).cells ({ frames := 0, cells := 0, slots := 0, locals := 0 } : Room).slots) := by
  refine MetFree.of_bodySF (plainFor_of_name pn_1) hisR ?_
  intro p e s m args below meth c s₁ Bd hml0 hP hK
  obtain ⟨rfl, hZ, hh⟩ := hP
  have hx := Bd.exec
  have hby := Bd.bytes
  have hml : c.maxLocals = 4 := hml0
  have hown : s.vm.findClass "com/example/lendscribe/lendscribe/values/Fields" = some m.cls := findClass_of_methodNamed Bd.named
  have hnm := (name_of_methodNamed Bd.named Bd.method).1
  have X0 : Stand p l e ({ frames := 0, cells := 0, slots := 0, locals := 0 } : Room) s m #[(.long q1), (.long q2)] below meth c s₁ [] 0 0 := Stand.of_body Bd
  have e0 : s₁.heap = h0 := by rw [← hh, Bd.state]; rfl
  have N0 := Fr.nil n0
  have pre0 : ∀ t, Steps p.tables e below (s₁.setTop (mkF m 0 #[.val (.long q1), .second, .val (.long q2), .second] [])) t → Steps p.tables e below (s₁.setTop (entryFrame m #[(.long q1), (.long q2)] 4)) t := fun t k => castTop (ef_1 m q1 q2) k
  have pre2 : ∀ t, Steps p.tables e below (s₁.setTop (mkF m 5 #[.val (.long q1), .second, .val (.long q2), .second] [(.int (lcmpW q1 (15 : Int64)))])) t → Steps p.tables e below (s₁.setTop (entryFrame m #[(.long q1), (.long q2)] 4)) t := fun t k => by
    refine pre0 _ ?_
    show Steps p.tables e below (s₁.setTop (mkF m 0 #[.val (.long q1), .second, .val (.long q2), .second] [])) _
    refine XS.lloadN X0.here hx rfl (hb hby d1_0) rfl ?_
    show Steps p.tables e below (s₁.setTop (mkF m 1 #[.val (.long q1), .second, .val (.long q2), .second] [(.long q1)])) _
    refine X0.ldc2Long hx hown (mvT hZ (hw _ (List.mem_of_getElem? (i := 4) rfl))) (g := (mkF m 1 #[.val (.long q1), .second, .val (.long q2), .second] [(.long q1)])) rfl (hb hby d1_1) _ ?_
    show Steps p.tables e below (s₁.setTop (mkF m 4 #[.val (.long q1), .second, .val (.long q2), .second] [(.long (15 : Int64)), (.long q1)])) _
    refine XS.lcmp X0.here hx rfl (hb hby d1_4) rfl ?_
    exact k
  by_cases hc1 : (15 : Int64) < q1
  · obtain ⟨fs, hr, hrun, hended, hW, hsame⟩ := X0.leave (v := some (.int (0 : Int32))) (fun h => by rw [Bd.returns] at h; cases h)
    refine ⟨_, _, pre2 _ ?_, hrun, hended, _, _, rfl, ?_, ⟨_, rfl⟩, hW, hsame.mono (by decide) (by decide)⟩
    · show Steps p.tables e below (s₁.setTop (mkF m 5 #[.val (.long q1), .second, .val (.long q2), .second] [(.int (lcmpW q1 (15 : Int64)))])) _
      refine XS.ifYes X0.here hx rfl (pc0 := 5) (pc' := 20) rfl (hb hby d1_5) rfl ((if0 _ _).trans (tlt ((lw_gt q1 (15 : Int64)).mpr hc1)).2.2.1) (by decide) (by decide) ?_
      show Steps p.tables e below (s₁.setTop (mkF m 20 #[.val (.long q1), .second, .val (.long q2), .second] [])) _
      refine XS.iconst X0.here hx rfl (hb hby d1_20) ?_
      show Steps p.tables e below (s₁.setTop (mkF m 21 #[.val (.long q1), .second, .val (.long q2), .second] [(.int (0 : Int32))])) _
      exact retN X0 hx (t := .boolean) Bd.returns (by simp) (hb hby d1_21) hr
    · show QP _ h0 n0 _ s₁.heap _
      rw [e0, show f1 q1 q2 = (0 : Int32) from by unfold f1; rw [if_pos hc1]]
      exact ⟨rfl, N0, rfl⟩
  · have pre4 : ∀ t, Steps p.tables e below (s₁.setTop (mkF m 13 #[.val (.long q1), .second, .val (.long q2), .second] [(.int (lcmpW q2 (6 : Int64)))])) t → Steps p.tables e below (s₁.setTop (entryFrame m #[(.long q1), (.long q2)] 4)) t := fun t k => by
      refine pre2 _ ?_
      show Steps p.tables e below (s₁.setTop (mkF m 5 #[.val (.long q1), .second, .val (.long q2), .second] [(.int (lcmpW q1 (15 : Int64)))])) _
      refine XS.ifNo X0.here hx rfl (hb hby d1_5) rfl ((if0 _ _).trans (flt (fun q => hc1 ((lw_gt q1 (15 : Int64)).mp q))).2.2.1) ?_
      show Steps p.tables e below (s₁.setTop (mkF m 8 #[.val (.long q1), .second, .val (.long q2), .second] [])) _
      refine XS.lloadN X0.here hx rfl (hb hby d1_8) rfl ?_
      show Steps p.tables e below (s₁.setTop (mkF m 9 #[.val (.long q1), .second, .val (.long q2), .second] [(.long q2)])) _
      refine X0.ldc2Long hx hown (mvT hZ (hw _ (List.mem_of_getElem? (i := 5) rfl))) (g := (mkF m 9 #[.val (.long q1), .second, .val (.long q2), .second] [(.long q2)])) rfl (hb hby d1_9) _ ?_
      show Steps p.tables e below (s₁.setTop (mkF m 12 #[.val (.long q1), .second, .val (.long q2), .second] [(.long (6 : Int64)), (.long q2)])) _
      refine XS.lcmp X0.here hx rfl (hb hby d1_12) rfl ?_
      exact k
    by_cases hc3 : (6 : Int64) < q2
    · obtain ⟨fs, hr, hrun, hended, hW, hsame⟩ := X0.leave (v := some (.int (0 : Int32))) (fun h => by rw [Bd.returns] at h; cases h)
      refine ⟨_, _, pre4 _ ?_, hrun, hended, _, _, rfl, ?_, ⟨_, rfl⟩, hW, hsame.mono (by decide) (by decide)⟩
      · show Steps p.tables e below (s₁.setTop (mkF m 13 #[.val (.long q1), .second, .val (.long q2), .second] [(.int (lcmpW q2 (6 : Int64)))])) _
        refine XS.ifYes X0.here hx rfl (pc0 := 13) (pc' := 20) rfl (hb hby d1_13) rfl ((if0 _ _).trans (tlt ((lw_gt q2 (6 : Int64)).mpr hc3)).2.2.1) (by decide) (by decide) ?_
        show Steps p.tables e below (s₁.setTop (mkF m 20 #[.val (.long q1), .second, .val (.long q2), .second] [])) _
        refine XS.iconst X0.here hx rfl (hb hby d1_20) ?_
        show Steps p.tables e below (s₁.setTop (mkF m 21 #[.val (.long q1), .second, .val (.long q2), .second] [(.int (0 : Int32))])) _
        exact retN X0 hx (t := .boolean) Bd.returns (by simp) (hb hby d1_21) hr
      · show QP _ h0 n0 _ s₁.heap _
        rw [e0, show f1 q1 q2 = (0 : Int32) from by unfold f1; rw [if_neg hc1, if_pos hc3]]
        exact ⟨rfl, N0, rfl⟩
    · obtain ⟨fs, hr, hrun, hended, hW, hsame⟩ := X0.leave (v := some (.int (1 : Int32))) (fun h => by rw [Bd.returns] at h; cases h)
      refine ⟨_, _, pre4 _ ?_, hrun, hended, _, _, rfl, ?_, ⟨_, rfl⟩, hW, hsame.mono (by decide) (by decide)⟩
      · show Steps p.tables e below (s₁.setTop (mkF m 13 #[.val (.long q1), .second, .val (.long q2), .second] [(.int (lcmpW q2 (6 : Int64)))])) _
        refine XS.ifNo X0.here hx rfl (hb hby d1_13) rfl ((if0 _ _).trans (flt (fun q => hc3 ((lw_gt q2 (6 : Int64)).mp q))).2.2.1) ?_
        show Steps p.tables e below (s₁.setTop (mkF m 16 #[.val (.long q1), .second, .val (.long q2), .second] [])) _
        refine XS.iconst X0.here hx rfl (hb hby d1_16) ?_
        show Steps p.tables e below (s₁.setTop (mkF m 17 #[.val (.long q1), .second, .val (.long q2), .second] [(.int (1 : Int32))])) _
        refine XS.goto X0.here hx rfl (pc0 := 17) (pc' := 21) rfl (hb hby d1_17) (by decide) (by decide) ?_
        show Steps p.tables e below (s₁.setTop (mkF m 21 #[.val (.long q1), .second, .val (.long q2), .second] [(.int (1 : Int32))])) _
        exact retN X0 hx (t := .boolean) Bd.returns (by simp) (hb hby d1_21) hr
      · show QP _ h0 n0 _ s₁.heap _
        rw [e0, show f1 q1 q2 = (1 : Int32) from by unfold f1; rw [if_neg hc1, if_neg hc3]]
        exact ⟨rfl, N0, rfl⟩
theorem d2_0 : decode jdk_29_method_70_code 0 = .ok (.lload_n 0, 1) := by decide +kernel
theorem d2_1 : decode jdk_29_method_70_code 1 = .ok (.lload_n 2, 1) := by decide +kernel
theorem d2_2 : decode jdk_29_method_70_code 2 = .ok (.lcmp, 1) := by decide +kernel
theorem d2_3 : decode jdk_29_method_70_code 3 = .ok (.ifCond .gt 7, 3) := by decide +kernel
theorem d2_10 : decode jdk_29_method_70_code 10 = .ok (.lload_n 2, 1) := by decide +kernel
theorem d2_11 : decode jdk_29_method_70_code 11 = .ok (.lreturn, 1) := by decide +kernel
theorem d2_6 : decode jdk_29_method_70_code 6 = .ok (.lload_n 0, 1) := by decide +kernel
theorem d2_7 : decode jdk_29_method_70_code 7 = .ok (.goto 4, 3) := by decide +kernel
theorem ef_2 (m : MethodId) (x0 : Int64) (x1 : Int64) : entryFrame m #[(.long x0), (.long x1)] 4 = mkF m 0 #[.val (.long x0), .second, .val (.long x1), .second] [] := by first | (simp [entryFrame, mkF, argsToLocals, Value.category]; done) | rfl
def f2 (q1 : Int64) (q2 : Int64) : Int64 := (if q2 < q1 then q2 else q1)
set_option maxRecDepth 65536 in
set_option maxHeartbeats 40000000 in
theorem rm2 (l : Launch) (Z : State) (a0 : Array Value) (hw : ∀ d ∈ tables_1, d.before a0 Z = true) (ws : List Jvm.Cond) (q1 : Int64) (q2 : Int64) (h0 : Heap) (n0 : Nat) (Z0 : n0 ≤ h0.size) :
    MetFree l (⟨"java/lang/Math", "min", "(JJ)J"⟩ : MethodName) (head1 (Jvm.Cond.code (⟨"java/lang/Math", "min", "(JJ)J"⟩ : MethodName) jdk_29_method_70_code 4 (some .long) :: ws) ({ frames := 0, cells := 0, slots := 0, locals := 0 } : Room)) (fun a U => a = #[(.long q1), (.long q2)] ∧ Z.Warmed39 U.vm ∧ U.heap = h0) (fun _ _ _ _ _ => True) (fun _ U o U' => ∃ v L, o = .returned v ∧ QP (some (.long (f2 q1 q2))) h0 n0 v U'.heap L ∧ FrameEnd U o U' L ({ frames := 0, cells := 0, slots := 0, locals := 0 } : Room).cells ({ frames := 0, cells := 0, slots := 0, locals := 0 } : Room).slots) := by
  refine MetFree.of_bodySF (Jvm.Free.JP.mathPlain rfl (by decide +kernel)) hisR ?_
  intro p e s m args below meth c s₁ Bd hml0 hP hK
  obtain ⟨rfl, hZ, hh⟩ := hP
  have hx := Bd.exec
  have hby := Bd.bytes
  have hml : c.maxLocals = 4 := hml0
  have hown : s.vm.findClass "java/lang/Math" = some m.cls := findClass_of_methodNamed Bd.named
  have hnm := (name_of_methodNamed Bd.named Bd.method).1
  have X0 : Stand p l e ({ frames := 0, cells := 0, slots := 0, locals := 0 } : Room) s m #[(.long q1), (.long q2)] below meth c s₁ [] 0 0 := Stand.of_body Bd
  have e0 : s₁.heap = h0 := by rw [← hh, Bd.state]; rfl
  have N0 := Fr.nil n0
  have pre0 : ∀ t, Steps p.tables e below (s₁.setTop (mkF m 0 #[.val (.long q1), .second, .val (.long q2), .second] [])) t → Steps p.tables e below (s₁.setTop (entryFrame m #[(.long q1), (.long q2)] 4)) t := fun t k => castTop (ef_2 m q1 q2) k
  have pre6 : ∀ t, Steps p.tables e below (s₁.setTop (mkF m 3 #[.val (.long q1), .second, .val (.long q2), .second] [(.int (lcmpW q1 q2))])) t → Steps p.tables e below (s₁.setTop (entryFrame m #[(.long q1), (.long q2)] 4)) t := fun t k => by
    refine pre0 _ ?_
    show Steps p.tables e below (s₁.setTop (mkF m 0 #[.val (.long q1), .second, .val (.long q2), .second] [])) _
    refine XS.lloadN X0.here hx rfl (hb hby d2_0) rfl ?_
    show Steps p.tables e below (s₁.setTop (mkF m 1 #[.val (.long q1), .second, .val (.long q2), .second] [(.long q1)])) _
    refine XS.lloadN X0.here hx rfl (hb hby d2_1) rfl ?_
    show Steps p.tables e below (s₁.setTop (mkF m 2 #[.val (.long q1), .second, .val (.long q2), .second] [(.long q2), (.long q1)])) _
    refine XS.lcmp X0.here hx rfl (hb hby d2_2) rfl ?_
    exact k
  by_cases hc5 : q2 < q1
  · obtain ⟨fs, hr, hrun, hended, hW, hsame⟩ := X0.leave (v := some (.long q2)) (fun h => by rw [Bd.returns] at h; cases h)
    refine ⟨_, _, pre6 _ ?_, hrun, hended, _, _, rfl, ?_, ⟨_, rfl⟩, hW, hsame.mono (by decide) (by decide)⟩
    · show Steps p.tables e below (s₁.setTop (mkF m 3 #[.val (.long q1), .second, .val (.long q2), .second] [(.int (lcmpW q1 q2))])) _
      refine XS.ifYes X0.here hx rfl (pc0 := 3) (pc' := 10) rfl (hb hby d2_3) rfl ((if0 _ _).trans (tlt ((lw_gt q1 q2).mpr hc5)).2.2.1) (by decide) (by decide) ?_
      show Steps p.tables e below (s₁.setTop (mkF m 10 #[.val (.long q1), .second, .val (.long q2), .second] [])) _
      refine XS.lloadN X0.here hx rfl (hb hby d2_10) rfl ?_
      show Steps p.tables e below (s₁.setTop (mkF m 11 #[.val (.long q1), .second, .val (.long q2), .second] [(.long q2)])) _
      exact X0.lreturnOut hx Bd.returns (hb hby d2_11) hr
    · show QP _ h0 n0 _ s₁.heap _
      rw [e0, show f2 q1 q2 = q2 from by unfold f2; rw [if_pos hc5]]
      exact ⟨rfl, N0, rfl⟩
  · obtain ⟨fs, hr, hrun, hended, hW, hsame⟩ := X0.leave (v := some (.long q1)) (fun h => by rw [Bd.returns] at h; cases h)
    refine ⟨_, _, pre6 _ ?_, hrun, hended, _, _, rfl, ?_, ⟨_, rfl⟩, hW, hsame.mono (by decide) (by decide)⟩
    · show Steps p.tables e below (s₁.setTop (mkF m 3 #[.val (.long q1), .second, .val (.long q2), .second] [(.int (lcmpW q1 q2))])) _
      refine XS.ifNo X0.here hx rfl (hb hby d2_3) rfl ((if0 _ _).trans (flt (fun q => hc5 ((lw_gt q1 q2).mp q))).2.2.1) ?_
      show Steps p.tables e below (s₁.setTop (mkF m 6 #[.val (.long q1), .second, .val (.long q2), .second] [])) _
      refine XS.lloadN X0.here hx rfl (hb hby d2_6) rfl ?_
      show Steps p.tables e below (s₁.setTop (mkF m 7 #[.val (.long q1), .second, .val (.long q2), .second] [(.long q1)])) _
      refine XS.goto X0.here hx rfl (pc0 := 7) (pc' := 11) rfl (hb hby d2_7) (by decide) (by decide) ?_
      show Steps p.tables e below (s₁.setTop (mkF m 11 #[.val (.long q1), .second, .val (.long q2), .second] [(.long q1)])) _
      exact X0.lreturnOut hx Bd.returns (hb hby d2_11) hr
    · show QP _ h0 n0 _ s₁.heap _
      rw [e0, show f2 q1 q2 = q1 from by unfold f2; rw [if_neg hc5]]
      exact ⟨rfl, N0, rfl⟩
theorem pd_0 : parseMethodDescriptor "(JJ)Z" = some ⟨[.long, .long], some .boolean⟩ := by decide +kernel
theorem pd_1 : parseMethodDescriptor "(JJ)J" = some ⟨[.long, .long], some .long⟩ := by decide +kernel
theorem pn_0 : plainName "com/example/lendscribe/lendscribe/values/FieldsFitsRatioDigitsPinLaw" = true := by first | (simp [plainName, overriddenIn]; done) | decide +kernel
theorem ef_0 (m : MethodId) (x0 : Int64) (x1 : Int64) (x2 : Int64) (x3 : Int64) : entryFrame m #[(.long x0), (.long x1), (.long x2), (.long x3)] maxLocals = mkF m 0 #[.val (.long x0), .second, .val (.long x1), .second, .val (.long x2), .second, .val (.long x3), .second, .unset, .unset, .unset, .unset, .unset, .unset, .unset] [] := by first | (simp [entryFrame, mkF, argsToLocals, Value.category, maxLocals]; done) | rfl
def f0 (q1 : Int64) (q2 : Int64) (q3 : Int64) (q4 : Int64) : Int32 := (if (f1 q1 q2) = (0 : Int32) then (if (f1 (15 : Int64) (6 : Int64)) = (0 : Int32) then (0 : Int32) else (if (f1 (16 : Int64) q2) = (0 : Int32) then (if (f1 q1 (7 : Int64)) = (0 : Int32) then (if (f1 (f2 q1 (15 : Int64)) (f2 q2 (6 : Int64))) = (0 : Int32) then (0 : Int32) else (1 : Int32)) else (0 : Int32)) else (0 : Int32))) else (if (f1 (f2 q1 q3) (f2 q2 q4)) = (0 : Int32) then (if (f1 (15 : Int64) (6 : Int64)) = (0 : Int32) then (0 : Int32) else (if (f1 (16 : Int64) q2) = (0 : Int32) then (if (f1 q1 (7 : Int64)) = (0 : Int32) then (if (f1 (f2 q1 (15 : Int64)) (f2 q2 (6 : Int64))) = (0 : Int32) then (0 : Int32) else (0 : Int32)) else (0 : Int32)) else (0 : Int32))) else (if (f1 (15 : Int64) (6 : Int64)) = (0 : Int32) then (0 : Int32) else (if (f1 (16 : Int64) q2) = (0 : Int32) then (if (f1 q1 (7 : Int64)) = (0 : Int32) then (if (f1 (f2 q1 (15 : Int64)) (f2 q2 (6 : Int64))) = (0 : Int32) then (0 : Int32) else (1 : Int32)) else (0 : Int32)) else (0 : Int32)))))
set_option maxRecDepth 65536 in
set_option maxHeartbeats 40000000 in
theorem rm0 (l : Launch) (Z : State) (a0 : Array Value) (hw : ∀ d ∈ tables_1, d.before a0 Z = true) (ws : List Jvm.Cond) (q1 : Int64) (q2 : Int64) (q3 : Int64) (q4 : Int64) (h0 : Heap) (n0 : Nat) (Z0 : n0 ≤ h0.size) :
    MetFree l x (head1 (Jvm.Cond.code x code maxLocals ret :: ws) room_1) (fun a U => a = #[(.long q1), (.long q2), (.long q3), (.long q4)] ∧ Z.Warmed39 U.vm ∧ U.heap = h0) (fun _ _ _ _ _ => True) (fun _ U o U' => ∃ v L, o = .returned v ∧ QP (some (.int (f0 q1 q2 q3 q4))) h0 n0 v U'.heap L ∧ FrameEnd U o U' L room_1.cells room_1.slots) := by
  refine MetFree.of_bodySF (plainFor_of_name pn_0) hisR ?_
  intro p e s m args below meth c s₁ Bd hml0 hP hK
  obtain ⟨rfl, hZ, hh⟩ := hP
  have hx := Bd.exec
  have hby := Bd.bytes
  have hml : c.maxLocals = 15 := hml0
  have hown : s.vm.findClass "com/example/lendscribe/lendscribe/values/FieldsFitsRatioDigitsPinLaw" = some m.cls := findClass_of_methodNamed Bd.named
  have hnm := (name_of_methodNamed Bd.named Bd.method).1
  have X0 : Stand p l e room_1 s m #[(.long q1), (.long q2), (.long q3), (.long q4)] below meth c s₁ [] 0 0 := Stand.of_body Bd
  have e0 : s₁.heap = h0 := by rw [← hh, Bd.state]; rfl
  have N0 := Fr.nil n0
  have pre0 : ∀ t, Steps p.tables e below (s₁.setTop (mkF m 0 #[.val (.long q1), .second, .val (.long q2), .second, .val (.long q3), .second, .val (.long q4), .second, .unset, .unset, .unset, .unset, .unset, .unset, .unset] [])) t → Steps p.tables e below (s₁.setTop (entryFrame m #[(.long q1), (.long q2), (.long q3), (.long q4)] maxLocals)) t := fun t k => castTop (ef_0 m q1 q2 q3 q4) k
  obtain ⟨_, _, ⟨T7, L7, k7, n7⟩, -, X7, ⟨Lc7, hQ7, l7, y7, z7⟩, st7⟩ := Jvm.LawKit.callS X0 hx (y := (⟨"com/example/lendscribe/lendscribe/values/Fields", "fitsRatioDigits", "(JJ)Z"⟩ : MethodName)) hown (mvT hZ (hw _ (List.mem_of_getElem? (i := 0) rfl))) (mvT hZ (hw _ (List.mem_of_getElem? (i := 1) rfl))) (mvT hZ (hw _ (List.mem_of_getElem? (i := 2) rfl))) (mvT hZ (hw _ (List.mem_of_getElem? (i := 3) rfl))) (by decide) (backOf (W := 0) (rm1 l Z a0 hw [] q1 q2 h0 n0 Z0) hZ (hw _ (List.mem_of_getElem? (i := 3) rfl)) (hw _ (List.mem_of_getElem? (i := 2) rfl)) (by decide) (by decide)) (g := (mkF m 2 #[.val (.long q1), .second, .val (.long q2), .second, .val (.long q3), .second, .val (.long q4), .second, .unset, .unset, .unset, .unset, .unset, .unset, .unset] [(.long q2), (.long q1)])) rfl (by rw [hml]; rfl) (argsL := [(.long q1), (.long q2)]) (rest := []) (lenOf pd_0 rfl) rfl (by show 2 * 0 + _ ≤ _; exact Nat.le_of_eq rfl) (hb hby at_2) (fun _ _ => ⟨rfl, e0, (by decide : 0 + 0 ≤ _), (by decide : 0 + 0 ≤ _)⟩)
  dsimp only [Pt.U, Pt.locs, Pt.cells, Pt.slots] at X7 l7 y7 z7 st7 hQ7
  subst l7 y7 z7
  obtain ⟨rfl, N7q, e7⟩ := hQ7
  have N7 := Fr.app N0 N7q
  obtain ⟨_, _, ⟨T8, L8, k8, n8⟩, -, X8, ⟨Lc8, hQ8, l8, y8, z8⟩, st8⟩ := Jvm.LawKit.callS X7 hx (y := (⟨"com/example/lendscribe/lendscribe/values/Fields", "fitsRatioDigits", "(JJ)Z"⟩ : MethodName)) hown (mvT hZ (hw _ (List.mem_of_getElem? (i := 0) rfl))) (mvT hZ (hw _ (List.mem_of_getElem? (i := 1) rfl))) (mvT hZ (hw _ (List.mem_of_getElem? (i := 2) rfl))) (mvT hZ (hw _ (List.mem_of_getElem? (i := 3) rfl))) (by decide) (backOf (W := 0) (rm1 l Z a0 hw [] (15 : Int64) (6 : Int64) h0 n0 Z0) hZ (hw _ (List.mem_of_getElem? (i := 3) rfl)) (hw _ (List.mem_of_getElem? (i := 2) rfl)) (by decide) (by decide)) (g := (mkF m 13 #[.val (.long q1), .second, .val (.long q2), .second, .val (.long q3), .second, .val (.long q4), .second, .val (.int (f1 q1 q2)), .unset, .unset, .unset, .unset, .unset, .unset] [(.long (6 : Int64)), (.long (15 : Int64))])) rfl (by rw [hml]; rfl) (argsL := [(.long (15 : Int64)), (.long (6 : Int64))]) (rest := []) (lenOf pd_0 rfl) rfl (by show 2 * 0 + _ ≤ _; exact Nat.le_of_eq rfl) (hb hby at_13) (fun _ _ => ⟨rfl, e7, (by decide : 0 + 0 ≤ _), (by decide : 0 + 0 ≤ _)⟩)
  dsimp only [Pt.U, Pt.locs, Pt.cells, Pt.slots] at X8 l8 y8 z8 st8 hQ8
  subst l8 y8 z8
  obtain ⟨rfl, N8q, e8⟩ := hQ8
  have N8 := Fr.app N7 N8q
  obtain ⟨_, _, ⟨T9, L9, k9, n9⟩, -, X9, ⟨Lc9, hQ9, l9, y9, z9⟩, st9⟩ := Jvm.LawKit.callS X8 hx (y := (⟨"com/example/lendscribe/lendscribe/values/Fields", "fitsRatioDigits", "(JJ)Z"⟩ : MethodName)) hown (mvT hZ (hw _ (List.mem_of_getElem? (i := 0) rfl))) (mvT hZ (hw _ (List.mem_of_getElem? (i := 1) rfl))) (mvT hZ (hw _ (List.mem_of_getElem? (i := 2) rfl))) (mvT hZ (hw _ (List.mem_of_getElem? (i := 3) rfl))) (by decide) (backOf (W := 0) (rm1 l Z a0 hw [] (16 : Int64) q2 h0 n0 Z0) hZ (hw _ (List.mem_of_getElem? (i := 3) rfl)) (hw _ (List.mem_of_getElem? (i := 2) rfl)) (by decide) (by decide)) (g := (mkF m 22 #[.val (.long q1), .second, .val (.long q2), .second, .val (.long q3), .second, .val (.long q4), .second, .val (.int (f1 q1 q2)), .val (.int (f1 (15 : Int64) (6 : Int64))), .unset, .unset, .unset, .unset, .unset] [(.long q2), (.long (16 : Int64))])) rfl (by rw [hml]; rfl) (argsL := [(.long (16 : Int64)), (.long q2)]) (rest := []) (lenOf pd_0 rfl) rfl (by show 2 * 0 + _ ≤ _; exact Nat.le_of_eq rfl) (hb hby at_22) (fun _ _ => ⟨rfl, e8, (by decide : 0 + 0 ≤ _), (by decide : 0 + 0 ≤ _)⟩)
  dsimp only [Pt.U, Pt.locs, Pt.cells, Pt.slots] at X9 l9 y9 z9 st9 hQ9
  subst l9 y9 z9
  obtain ⟨rfl, N9q, e9⟩ := hQ9
  have N9 := Fr.app N8 N9q
  obtain ⟨_, _, ⟨T10, L10, k10, n10⟩, -, X10, ⟨Lc10, hQ10, l10, y10, z10⟩, st10⟩ := Jvm.LawKit.callS X9 hx (y := (⟨"com/example/lendscribe/lendscribe/values/Fields", "fitsRatioDigits", "(JJ)Z"⟩ : MethodName)) hown (mvT hZ (hw _ (List.mem_of_getElem? (i := 0) rfl))) (mvT hZ (hw _ (List.mem_of_getElem? (i := 1) rfl))) (mvT hZ (hw _ (List.mem_of_getElem? (i := 2) rfl))) (mvT hZ (hw _ (List.mem_of_getElem? (i := 3) rfl))) (by decide) (backOf (W := 0) (rm1 l Z a0 hw [] q1 (7 : Int64) h0 n0 Z0) hZ (hw _ (List.mem_of_getElem? (i := 3) rfl)) (hw _ (List.mem_of_getElem? (i := 2) rfl)) (by decide) (by decide)) (g := (mkF m 31 #[.val (.long q1), .second, .val (.long q2), .second, .val (.long q3), .second, .val (.long q4), .second, .val (.int (f1 q1 q2)), .val (.int (f1 (15 : Int64) (6 : Int64))), .val (.int (f1 (16 : Int64) q2)), .unset, .unset, .unset, .unset] [(.long (7 : Int64)), (.long q1)])) rfl (by rw [hml]; rfl) (argsL := [(.long q1), (.long (7 : Int64))]) (rest := []) (lenOf pd_0 rfl) rfl (by show 2 * 0 + _ ≤ _; exact Nat.le_of_eq rfl) (hb hby at_31) (fun _ _ => ⟨rfl, e9, (by decide : 0 + 0 ≤ _), (by decide : 0 + 0 ≤ _)⟩)
  dsimp only [Pt.U, Pt.locs, Pt.cells, Pt.slots] at X10 l10 y10 z10 st10 hQ10
  subst l10 y10 z10
  obtain ⟨rfl, N10q, e10⟩ := hQ10
  have N10 := Fr.app N9 N10q
  obtain ⟨_, _, ⟨T11, L11, k11, n11⟩, -, X11, ⟨Lc11, hQ11, l11, y11, z11⟩, st11⟩ := Jvm.LawKit.callS X10 hx (y := (⟨"java/lang/Math", "min", "(JJ)J"⟩ : MethodName)) hown (mvT hZ (hw _ (List.mem_of_getElem? (i := 10) rfl))) (mvT hZ (hw _ (List.mem_of_getElem? (i := 11) rfl))) (mvT hZ (hw _ (List.mem_of_getElem? (i := 12) rfl))) (mvT hZ (hw _ (List.mem_of_getElem? (i := 13) rfl))) (by decide) (backOf (W := 0) (rm2 l Z a0 hw [] q1 (15 : Int64) h0 n0 Z0) hZ (hw _ (List.mem_of_getElem? (i := 13) rfl)) (hw _ (List.mem_of_getElem? (i := 12) rfl)) (by decide) (by decide)) (g := (mkF m 40 #[.val (.long q1), .second, .val (.long q2), .second, .val (.long q3), .second, .val (.long q4), .second, .val (.int (f1 q1 q2)), .val (.int (f1 (15 : Int64) (6 : Int64))), .val (.int (f1 (16 : Int64) q2)), .val (.int (f1 q1 (7 : Int64))), .unset, .unset, .unset] [(.long (15 : Int64)), (.long q1)])) rfl (by rw [hml]; rfl) (argsL := [(.long q1), (.long (15 : Int64))]) (rest := []) (lenOf pd_1 rfl) rfl (by show 2 * 0 + _ ≤ _; exact Nat.le_of_eq rfl) (hb hby at_40) (fun _ _ => ⟨rfl, e10, (by decide : 0 + 0 ≤ _), (by decide : 0 + 0 ≤ _)⟩)
  dsimp only [Pt.U, Pt.locs, Pt.cells, Pt.slots] at X11 l11 y11 z11 st11 hQ11
  subst l11 y11 z11
  obtain ⟨rfl, N11q, e11⟩ := hQ11
  have N11 := Fr.app N10 N11q
  obtain ⟨_, _, ⟨T12, L12, k12, n12⟩, -, X12, ⟨Lc12, hQ12, l12, y12, z12⟩, st12⟩ := Jvm.LawKit.callS X11 hx (y := (⟨"java/lang/Math", "min", "(JJ)J"⟩ : MethodName)) hown (mvT hZ (hw _ (List.mem_of_getElem? (i := 10) rfl))) (mvT hZ (hw _ (List.mem_of_getElem? (i := 11) rfl))) (mvT hZ (hw _ (List.mem_of_getElem? (i := 12) rfl))) (mvT hZ (hw _ (List.mem_of_getElem? (i := 13) rfl))) (by decide) (backOf (W := 2) (rm2 l Z a0 hw [] q2 (6 : Int64) h0 n0 Z0) hZ (hw _ (List.mem_of_getElem? (i := 13) rfl)) (hw _ (List.mem_of_getElem? (i := 12) rfl)) (by decide) (by decide)) (g := (mkF m 47 #[.val (.long q1), .second, .val (.long q2), .second, .val (.long q3), .second, .val (.long q4), .second, .val (.int (f1 q1 q2)), .val (.int (f1 (15 : Int64) (6 : Int64))), .val (.int (f1 (16 : Int64) q2)), .val (.int (f1 q1 (7 : Int64))), .unset, .unset, .unset] [(.long (6 : Int64)), (.long q2), (.long (f2 q1 (15 : Int64)))])) rfl (by rw [hml]; rfl) (argsL := [(.long q2), (.long (6 : Int64))]) (rest := [(.long (f2 q1 (15 : Int64)))]) (lenOf pd_1 rfl) rfl (by show 2 * 0 + _ ≤ _; exact Nat.le_of_eq rfl) (hb hby at_47) (fun _ _ => ⟨rfl, e11, (by decide : 0 + 0 ≤ _), (by decide : 0 + 0 ≤ _)⟩)
  dsimp only [Pt.U, Pt.locs, Pt.cells, Pt.slots] at X12 l12 y12 z12 st12 hQ12
  subst l12 y12 z12
  obtain ⟨rfl, N12q, e12⟩ := hQ12
  have N12 := Fr.app N11 N12q
  obtain ⟨_, _, ⟨T13, L13, k13, n13⟩, -, X13, ⟨Lc13, hQ13, l13, y13, z13⟩, st13⟩ := Jvm.LawKit.callS X12 hx (y := (⟨"com/example/lendscribe/lendscribe/values/Fields", "fitsRatioDigits", "(JJ)Z"⟩ : MethodName)) hown (mvT hZ (hw _ (List.mem_of_getElem? (i := 0) rfl))) (mvT hZ (hw _ (List.mem_of_getElem? (i := 1) rfl))) (mvT hZ (hw _ (List.mem_of_getElem? (i := 2) rfl))) (mvT hZ (hw _ (List.mem_of_getElem? (i := 3) rfl))) (by decide) (backOf (W := 0) (rm1 l Z a0 hw [] (f2 q1 (15 : Int64)) (f2 q2 (6 : Int64)) h0 n0 Z0) hZ (hw _ (List.mem_of_getElem? (i := 3) rfl)) (hw _ (List.mem_of_getElem? (i := 2) rfl)) (by decide) (by decide)) (g := (mkF m 50 #[.val (.long q1), .second, .val (.long q2), .second, .val (.long q3), .second, .val (.long q4), .second, .val (.int (f1 q1 q2)), .val (.int (f1 (15 : Int64) (6 : Int64))), .val (.int (f1 (16 : Int64) q2)), .val (.int (f1 q1 (7 : Int64))), .unset, .unset, .unset] [(.long (f2 q2 (6 : Int64))), (.long (f2 q1 (15 : Int64)))])) rfl (by rw [hml]; rfl) (argsL := [(.long (f2 q1 (15 : Int64))), (.long (f2 q2 (6 : Int64)))]) (rest := []) (lenOf pd_0 rfl) rfl (by show 2 * 0 + _ ≤ _; exact Nat.le_of_eq rfl) (hb hby at_50) (fun _ _ => ⟨rfl, e12, (by decide : 0 + 0 ≤ _), (by decide : 0 + 0 ≤ _)⟩)
  dsimp only [Pt.U, Pt.locs, Pt.cells, Pt.slots] at X13 l13 y13 z13 st13 hQ13
  subst l13 y13 z13
  obtain ⟨rfl, N13q, e13⟩ := hQ13
  have N13 := Fr.app N12 N13q
  obtain ⟨_, _, ⟨T14, L14, k14, n14⟩, -, X14, ⟨Lc14, hQ14, l14, y14, z14⟩, st14⟩ := Jvm.LawKit.callS X13 hx (y := (⟨"java/lang/Math", "min", "(JJ)J"⟩ : MethodName)) hown (mvT hZ (hw _ (List.mem_of_getElem? (i := 10) rfl))) (mvT hZ (hw _ (List.mem_of_getElem? (i := 11) rfl))) (mvT hZ (hw _ (List.mem_of_getElem? (i := 12) rfl))) (mvT hZ (hw _ (List.mem_of_getElem? (i := 13) rfl))) (by decide) (backOf (W := 0) (rm2 l Z a0 hw [] q1 q3 h0 n0 Z0) hZ (hw _ (List.mem_of_getElem? (i := 13) rfl)) (hw _ (List.mem_of_getElem? (i := 12) rfl)) (by decide) (by decide)) (g := (mkF m 58 #[.val (.long q1), .second, .val (.long q2), .second, .val (.long q3), .second, .val (.long q4), .second, .val (.int (f1 q1 q2)), .val (.int (f1 (15 : Int64) (6 : Int64))), .val (.int (f1 (16 : Int64) q2)), .val (.int (f1 q1 (7 : Int64))), .val (.int (f1 (f2 q1 (15 : Int64)) (f2 q2 (6 : Int64)))), .unset, .unset] [(.long q3), (.long q1)])) rfl (by rw [hml]; rfl) (argsL := [(.long q1), (.long q3)]) (rest := []) (lenOf pd_1 rfl) rfl (by show 2 * 0 + _ ≤ _; exact Nat.le_of_eq rfl) (hb hby at_58) (fun _ _ => ⟨rfl, e13, (by decide : 0 + 0 ≤ _), (by decide : 0 + 0 ≤ _)⟩)
  dsimp only [Pt.U, Pt.locs, Pt.cells, Pt.slots] at X14 l14 y14 z14 st14 hQ14
  subst l14 y14 z14
  obtain ⟨rfl, N14q, e14⟩ := hQ14
  have N14 := Fr.app N13 N14q
  obtain ⟨_, _, ⟨T15, L15, k15, n15⟩, -, X15, ⟨Lc15, hQ15, l15, y15, z15⟩, st15⟩ := Jvm.LawKit.callS X14 hx (y := (⟨"java/lang/Math", "min", "(JJ)J"⟩ : MethodName)) hown (mvT hZ (hw _ (List.mem_of_getElem? (i := 10) rfl))) (mvT hZ (hw _ (List.mem_of_getElem? (i := 11) rfl))) (mvT hZ (hw _ (List.mem_of_getElem? (i := 12) rfl))) (mvT hZ (hw _ (List.mem_of_getElem? (i := 13) rfl))) (by decide) (backOf (W := 2) (rm2 l Z a0 hw [] q2 q4 h0 n0 Z0) hZ (hw _ (List.mem_of_getElem? (i := 13) rfl)) (hw _ (List.mem_of_getElem? (i := 12) rfl)) (by decide) (by decide)) (g := (mkF m 64 #[.val (.long q1), .second, .val (.long q2), .second, .val (.long q3), .second, .val (.long q4), .second, .val (.int (f1 q1 q2)), .val (.int (f1 (15 : Int64) (6 : Int64))), .val (.int (f1 (16 : Int64) q2)), .val (.int (f1 q1 (7 : Int64))), .val (.int (f1 (f2 q1 (15 : Int64)) (f2 q2 (6 : Int64)))), .unset, .unset] [(.long q4), (.long q2), (.long (f2 q1 q3))])) rfl (by rw [hml]; rfl) (argsL := [(.long q2), (.long q4)]) (rest := [(.long (f2 q1 q3))]) (lenOf pd_1 rfl) rfl (by show 2 * 0 + _ ≤ _; exact Nat.le_of_eq rfl) (hb hby at_64) (fun _ _ => ⟨rfl, e14, (by decide : 0 + 0 ≤ _), (by decide : 0 + 0 ≤ _)⟩)
  dsimp only [Pt.U, Pt.locs, Pt.cells, Pt.slots] at X15 l15 y15 z15 st15 hQ15
  subst l15 y15 z15
  obtain ⟨rfl, N15q, e15⟩ := hQ15
  have N15 := Fr.app N14 N15q
  obtain ⟨_, _, ⟨T16, L16, k16, n16⟩, -, X16, ⟨Lc16, hQ16, l16, y16, z16⟩, st16⟩ := Jvm.LawKit.callS X15 hx (y := (⟨"com/example/lendscribe/lendscribe/values/Fields", "fitsRatioDigits", "(JJ)Z"⟩ : MethodName)) hown (mvT hZ (hw _ (List.mem_of_getElem? (i := 0) rfl))) (mvT hZ (hw _ (List.mem_of_getElem? (i := 1) rfl))) (mvT hZ (hw _ (List.mem_of_getElem? (i := 2) rfl))) (mvT hZ (hw _ (List.mem_of_getElem? (i := 3) rfl))) (by decide) (backOf (W := 0) (rm1 l Z a0 hw [] (f2 q1 q3) (f2 q2 q4) h0 n0 Z0) hZ (hw _ (List.mem_of_getElem? (i := 3) rfl)) (hw _ (List.mem_of_getElem? (i := 2) rfl)) (by decide) (by decide)) (g := (mkF m 67 #[.val (.long q1), .second, .val (.long q2), .second, .val (.long q3), .second, .val (.long q4), .second, .val (.int (f1 q1 q2)), .val (.int (f1 (15 : Int64) (6 : Int64))), .val (.int (f1 (16 : Int64) q2)), .val (.int (f1 q1 (7 : Int64))), .val (.int (f1 (f2 q1 (15 : Int64)) (f2 q2 (6 : Int64)))), .unset, .unset] [(.long (f2 q2 q4)), (.long (f2 q1 q3))])) rfl (by rw [hml]; rfl) (argsL := [(.long (f2 q1 q3)), (.long (f2 q2 q4))]) (rest := []) (lenOf pd_0 rfl) rfl (by show 2 * 0 + _ ≤ _; exact Nat.le_of_eq rfl) (hb hby at_67) (fun _ _ => ⟨rfl, e15, (by decide : 0 + 0 ≤ _), (by decide : 0 + 0 ≤ _)⟩)
  dsimp only [Pt.U, Pt.locs, Pt.cells, Pt.slots] at X16 l16 y16 z16 st16 hQ16
  subst l16 y16 z16
  obtain ⟨rfl, N16q, e16⟩ := hQ16
  have N16 := Fr.app N15 N16q
  have pre18 : ∀ t, Steps p.tables e below (T16.setTop (mkF m 74 #[.val (.long q1), .second, .val (.long q2), .second, .val (.long q3), .second, .val (.long q4), .second, .val (.int (f1 q1 q2)), .val (.int (f1 (15 : Int64) (6 : Int64))), .val (.int (f1 (16 : Int64) q2)), .val (.int (f1 q1 (7 : Int64))), .val (.int (f1 (f2 q1 (15 : Int64)) (f2 q2 (6 : Int64)))), .val (.int (f1 (f2 q1 q3) (f2 q2 q4))), .unset] [(.int (f1 q1 q2))])) t → Steps p.tables e below (s₁.setTop (entryFrame m #[(.long q1), (.long q2), (.long q3), (.long q4)] maxLocals)) t := fun t k => by
    refine pre0 _ ?_
    show Steps p.tables e below (s₁.setTop (mkF m 0 #[.val (.long q1), .second, .val (.long q2), .second, .val (.long q3), .second, .val (.long q4), .second, .unset, .unset, .unset, .unset, .unset, .unset, .unset] [])) _
    refine XS.lloadN X0.here hx rfl (hb hby at_0) rfl ?_
    show Steps p.tables e below (s₁.setTop (mkF m 1 #[.val (.long q1), .second, .val (.long q2), .second, .val (.long q3), .second, .val (.long q4), .second, .unset, .unset, .unset, .unset, .unset, .unset, .unset] [(.long q1)])) _
    refine XS.lloadN X0.here hx rfl (hb hby at_1) rfl ?_
    show Steps p.tables e below (s₁.setTop (mkF m 2 #[.val (.long q1), .second, .val (.long q2), .second, .val (.long q3), .second, .val (.long q4), .second, .unset, .unset, .unset, .unset, .unset, .unset, .unset] [(.long q2), (.long q1)])) _
    refine st7 _ ?_
    show Steps p.tables e below (T7.setTop (mkF m 5 #[.val (.long q1), .second, .val (.long q2), .second, .val (.long q3), .second, .val (.long q4), .second, .unset, .unset, .unset, .unset, .unset, .unset, .unset] [(.int (f1 q1 q2))])) _
    refine XS.istore X7.here hx rfl (hb hby at_5) rfl (l' := #[.val (.long q1), .second, .val (.long q2), .second, .val (.long q3), .second, .val (.long q4), .second, .val (.int (f1 q1 q2)), .unset, .unset, .unset, .unset, .unset, .unset]) rfl ?_
    show Steps p.tables e below (T7.setTop (mkF m 7 #[.val (.long q1), .second, .val (.long q2), .second, .val (.long q3), .second, .val (.long q4), .second, .val (.int (f1 q1 q2)), .unset, .unset, .unset, .unset, .unset, .unset] [])) _
    refine X7.ldc2Long hx hown (mvT hZ (hw _ (List.mem_of_getElem? (i := 6) rfl))) (g := (mkF m 7 #[.val (.long q1), .second, .val (.long q2), .second, .val (.long q3), .second, .val (.long q4), .second, .val (.int (f1 q1 q2)), .unset, .unset, .unset, .unset, .unset, .unset] [])) rfl (hb hby at_7) _ ?_
    show Steps p.tables e below (T7.setTop (mkF m 10 #[.val (.long q1), .second, .val (.long q2), .second, .val (.long q3), .second, .val (.long q4), .second, .val (.int (f1 q1 q2)), .unset, .unset, .unset, .unset, .unset, .unset] [(.long (15 : Int64))])) _
    refine X7.ldc2Long hx hown (mvT hZ (hw _ (List.mem_of_getElem? (i := 7) rfl))) (g := (mkF m 10 #[.val (.long q1), .second, .val (.long q2), .second, .val (.long q3), .second, .val (.long q4), .second, .val (.int (f1 q1 q2)), .unset, .unset, .unset, .unset, .unset, .unset] [(.long (15 : Int64))])) rfl (hb hby at_10) _ ?_
    show Steps p.tables e below (T7.setTop (mkF m 13 #[.val (.long q1), .second, .val (.long q2), .second, .val (.long q3), .second, .val (.long q4), .second, .val (.int (f1 q1 q2)), .unset, .unset, .unset, .unset, .unset, .unset] [(.long (6 : Int64)), (.long (15 : Int64))])) _
    refine st8 _ ?_
    show Steps p.tables e below (T8.setTop (mkF m 16 #[.val (.long q1), .second, .val (.long q2), .second, .val (.long q3), .second, .val (.long q4), .second, .val (.int (f1 q1 q2)), .unset, .unset, .unset, .unset, .unset, .unset] [(.int (f1 (15 : Int64) (6 : Int64)))])) _
    refine XS.istore X8.here hx rfl (hb hby at_16) rfl (l' := #[.val (.long q1), .second, .val (.long q2), .second, .val (.long q3), .second, .val (.long q4), .second, .val (.int (f1 q1 q2)), .val (.int (f1 (15 : Int64) (6 : Int64))), .unset, .unset, .unset, .unset, .unset]) rfl ?_
    show Steps p.tables e below (T8.setTop (mkF m 18 #[.val (.long q1), .second, .val (.long q2), .second, .val (.long q3), .second, .val (.long q4), .second, .val (.int (f1 q1 q2)), .val (.int (f1 (15 : Int64) (6 : Int64))), .unset, .unset, .unset, .unset, .unset] [])) _
    refine X8.ldc2Long hx hown (mvT hZ (hw _ (List.mem_of_getElem? (i := 8) rfl))) (g := (mkF m 18 #[.val (.long q1), .second, .val (.long q2), .second, .val (.long q3), .second, .val (.long q4), .second, .val (.int (f1 q1 q2)), .val (.int (f1 (15 : Int64) (6 : Int64))), .unset, .unset, .unset, .unset, .unset] [])) rfl (hb hby at_18) _ ?_
    show Steps p.tables e below (T8.setTop (mkF m 21 #[.val (.long q1), .second, .val (.long q2), .second, .val (.long q3), .second, .val (.long q4), .second, .val (.int (f1 q1 q2)), .val (.int (f1 (15 : Int64) (6 : Int64))), .unset, .unset, .unset, .unset, .unset] [(.long (16 : Int64))])) _
    refine XS.lloadN X8.here hx rfl (hb hby at_21) rfl ?_
    show Steps p.tables e below (T8.setTop (mkF m 22 #[.val (.long q1), .second, .val (.long q2), .second, .val (.long q3), .second, .val (.long q4), .second, .val (.int (f1 q1 q2)), .val (.int (f1 (15 : Int64) (6 : Int64))), .unset, .unset, .unset, .unset, .unset] [(.long q2), (.long (16 : Int64))])) _
    refine st9 _ ?_
    show Steps p.tables e below (T9.setTop (mkF m 25 #[.val (.long q1), .second, .val (.long q2), .second, .val (.long q3), .second, .val (.long q4), .second, .val (.int (f1 q1 q2)), .val (.int (f1 (15 : Int64) (6 : Int64))), .unset, .unset, .unset, .unset, .unset] [(.int (f1 (16 : Int64) q2))])) _
    refine XS.istore X9.here hx rfl (hb hby at_25) rfl (l' := #[.val (.long q1), .second, .val (.long q2), .second, .val (.long q3), .second, .val (.long q4), .second, .val (.int (f1 q1 q2)), .val (.int (f1 (15 : Int64) (6 : Int64))), .val (.int (f1 (16 : Int64) q2)), .unset, .unset, .unset, .unset]) rfl ?_
    show Steps p.tables e below (T9.setTop (mkF m 27 #[.val (.long q1), .second, .val (.long q2), .second, .val (.long q3), .second, .val (.long q4), .second, .val (.int (f1 q1 q2)), .val (.int (f1 (15 : Int64) (6 : Int64))), .val (.int (f1 (16 : Int64) q2)), .unset, .unset, .unset, .unset] [])) _
    refine XS.lloadN X9.here hx rfl (hb hby at_27) rfl ?_
    show Steps p.tables e below (T9.setTop (mkF m 28 #[.val (.long q1), .second, .val (.long q2), .second, .val (.long q3), .second, .val (.long q4), .second, .val (.int (f1 q1 q2)), .val (.int (f1 (15 : Int64) (6 : Int64))), .val (.int (f1 (16 : Int64) q2)), .unset, .unset, .unset, .unset] [(.long q1)])) _
    refine X9.ldc2Long hx hown (mvT hZ (hw _ (List.mem_of_getElem? (i := 9) rfl))) (g := (mkF m 28 #[.val (.long q1), .second, .val (.long q2), .second, .val (.long q3), .second, .val (.long q4), .second, .val (.int (f1 q1 q2)), .val (.int (f1 (15 : Int64) (6 : Int64))), .val (.int (f1 (16 : Int64) q2)), .unset, .unset, .unset, .unset] [(.long q1)])) rfl (hb hby at_28) _ ?_
    show Steps p.tables e below (T9.setTop (mkF m 31 #[.val (.long q1), .second, .val (.long q2), .second, .val (.long q3), .second, .val (.long q4), .second, .val (.int (f1 q1 q2)), .val (.int (f1 (15 : Int64) (6 : Int64))), .val (.int (f1 (16 : Int64) q2)), .unset, .unset, .unset, .unset] [(.long (7 : Int64)), (.long q1)])) _
    refine st10 _ ?_
    show Steps p.tables e below (T10.setTop (mkF m 34 #[.val (.long q1), .second, .val (.long q2), .second, .val (.long q3), .second, .val (.long q4), .second, .val (.int (f1 q1 q2)), .val (.int (f1 (15 : Int64) (6 : Int64))), .val (.int (f1 (16 : Int64) q2)), .unset, .unset, .unset, .unset] [(.int (f1 q1 (7 : Int64)))])) _
    refine XS.istore X10.here hx rfl (hb hby at_34) rfl (l' := #[.val (.long q1), .second, .val (.long q2), .second, .val (.long q3), .second, .val (.long q4), .second, .val (.int (f1 q1 q2)), .val (.int (f1 (15 : Int64) (6 : Int64))), .val (.int (f1 (16 : Int64) q2)), .val (.int (f1 q1 (7 : Int64))), .unset, .unset, .unset]) rfl ?_
    show Steps p.tables e below (T10.setTop (mkF m 36 #[.val (.long q1), .second, .val (.long q2), .second, .val (.long q3), .second, .val (.long q4), .second, .val (.int (f1 q1 q2)), .val (.int (f1 (15 : Int64) (6 : Int64))), .val (.int (f1 (16 : Int64) q2)), .val (.int (f1 q1 (7 : Int64))), .unset, .unset, .unset] [])) _
    refine XS.lloadN X10.here hx rfl (hb hby at_36) rfl ?_
    show Steps p.tables e below (T10.setTop (mkF m 37 #[.val (.long q1), .second, .val (.long q2), .second, .val (.long q3), .second, .val (.long q4), .second, .val (.int (f1 q1 q2)), .val (.int (f1 (15 : Int64) (6 : Int64))), .val (.int (f1 (16 : Int64) q2)), .val (.int (f1 q1 (7 : Int64))), .unset, .unset, .unset] [(.long q1)])) _
    refine X10.ldc2Long hx hown (mvT hZ (hw _ (List.mem_of_getElem? (i := 6) rfl))) (g := (mkF m 37 #[.val (.long q1), .second, .val (.long q2), .second, .val (.long q3), .second, .val (.long q4), .second, .val (.int (f1 q1 q2)), .val (.int (f1 (15 : Int64) (6 : Int64))), .val (.int (f1 (16 : Int64) q2)), .val (.int (f1 q1 (7 : Int64))), .unset, .unset, .unset] [(.long q1)])) rfl (hb hby at_37) _ ?_
    show Steps p.tables e below (T10.setTop (mkF m 40 #[.val (.long q1), .second, .val (.long q2), .second, .val (.long q3), .second, .val (.long q4), .second, .val (.int (f1 q1 q2)), .val (.int (f1 (15 : Int64) (6 : Int64))), .val (.int (f1 (16 : Int64) q2)), .val (.int (f1 q1 (7 : Int64))), .unset, .unset, .unset] [(.long (15 : Int64)), (.long q1)])) _
    refine st11 _ ?_
    show Steps p.tables e below (T11.setTop (mkF m 43 #[.val (.long q1), .second, .val (.long q2), .second, .val (.long q3), .second, .val (.long q4), .second, .val (.int (f1 q1 q2)), .val (.int (f1 (15 : Int64) (6 : Int64))), .val (.int (f1 (16 : Int64) q2)), .val (.int (f1 q1 (7 : Int64))), .unset, .unset, .unset] [(.long (f2 q1 (15 : Int64)))])) _
    refine XS.lloadN X11.here hx rfl (hb hby at_43) rfl ?_
    show Steps p.tables e below (T11.setTop (mkF m 44 #[.val (.long q1), .second, .val (.long q2), .second, .val (.long q3), .second, .val (.long q4), .second, .val (.int (f1 q1 q2)), .val (.int (f1 (15 : Int64) (6 : Int64))), .val (.int (f1 (16 : Int64) q2)), .val (.int (f1 q1 (7 : Int64))), .unset, .unset, .unset] [(.long q2), (.long (f2 q1 (15 : Int64)))])) _
    refine X11.ldc2Long hx hown (mvT hZ (hw _ (List.mem_of_getElem? (i := 7) rfl))) (g := (mkF m 44 #[.val (.long q1), .second, .val (.long q2), .second, .val (.long q3), .second, .val (.long q4), .second, .val (.int (f1 q1 q2)), .val (.int (f1 (15 : Int64) (6 : Int64))), .val (.int (f1 (16 : Int64) q2)), .val (.int (f1 q1 (7 : Int64))), .unset, .unset, .unset] [(.long q2), (.long (f2 q1 (15 : Int64)))])) rfl (hb hby at_44) _ ?_
    show Steps p.tables e below (T11.setTop (mkF m 47 #[.val (.long q1), .second, .val (.long q2), .second, .val (.long q3), .second, .val (.long q4), .second, .val (.int (f1 q1 q2)), .val (.int (f1 (15 : Int64) (6 : Int64))), .val (.int (f1 (16 : Int64) q2)), .val (.int (f1 q1 (7 : Int64))), .unset, .unset, .unset] [(.long (6 : Int64)), (.long q2), (.long (f2 q1 (15 : Int64)))])) _
    refine st12 _ ?_
    show Steps p.tables e below (T12.setTop (mkF m 50 #[.val (.long q1), .second, .val (.long q2), .second, .val (.long q3), .second, .val (.long q4), .second, .val (.int (f1 q1 q2)), .val (.int (f1 (15 : Int64) (6 : Int64))), .val (.int (f1 (16 : Int64) q2)), .val (.int (f1 q1 (7 : Int64))), .unset, .unset, .unset] [(.long (f2 q2 (6 : Int64))), (.long (f2 q1 (15 : Int64)))])) _
    refine st13 _ ?_
    show Steps p.tables e below (T13.setTop (mkF m 53 #[.val (.long q1), .second, .val (.long q2), .second, .val (.long q3), .second, .val (.long q4), .second, .val (.int (f1 q1 q2)), .val (.int (f1 (15 : Int64) (6 : Int64))), .val (.int (f1 (16 : Int64) q2)), .val (.int (f1 q1 (7 : Int64))), .unset, .unset, .unset] [(.int (f1 (f2 q1 (15 : Int64)) (f2 q2 (6 : Int64))))])) _
    refine XS.istore X13.here hx rfl (hb hby at_53) rfl (l' := #[.val (.long q1), .second, .val (.long q2), .second, .val (.long q3), .second, .val (.long q4), .second, .val (.int (f1 q1 q2)), .val (.int (f1 (15 : Int64) (6 : Int64))), .val (.int (f1 (16 : Int64) q2)), .val (.int (f1 q1 (7 : Int64))), .val (.int (f1 (f2 q1 (15 : Int64)) (f2 q2 (6 : Int64)))), .unset, .unset]) rfl ?_
    show Steps p.tables e below (T13.setTop (mkF m 55 #[.val (.long q1), .second, .val (.long q2), .second, .val (.long q3), .second, .val (.long q4), .second, .val (.int (f1 q1 q2)), .val (.int (f1 (15 : Int64) (6 : Int64))), .val (.int (f1 (16 : Int64) q2)), .val (.int (f1 q1 (7 : Int64))), .val (.int (f1 (f2 q1 (15 : Int64)) (f2 q2 (6 : Int64)))), .unset, .unset] [])) _
    refine XS.lloadN X13.here hx rfl (hb hby at_55) rfl ?_
    show Steps p.tables e below (T13.setTop (mkF m 56 #[.val (.long q1), .second, .val (.long q2), .second, .val (.long q3), .second, .val (.long q4), .second, .val (.int (f1 q1 q2)), .val (.int (f1 (15 : Int64) (6 : Int64))), .val (.int (f1 (16 : Int64) q2)), .val (.int (f1 q1 (7 : Int64))), .val (.int (f1 (f2 q1 (15 : Int64)) (f2 q2 (6 : Int64)))), .unset, .unset] [(.long q1)])) _
    refine XS.lload X13.here hx rfl (hb hby at_56) rfl ?_
    show Steps p.tables e below (T13.setTop (mkF m 58 #[.val (.long q1), .second, .val (.long q2), .second, .val (.long q3), .second, .val (.long q4), .second, .val (.int (f1 q1 q2)), .val (.int (f1 (15 : Int64) (6 : Int64))), .val (.int (f1 (16 : Int64) q2)), .val (.int (f1 q1 (7 : Int64))), .val (.int (f1 (f2 q1 (15 : Int64)) (f2 q2 (6 : Int64)))), .unset, .unset] [(.long q3), (.long q1)])) _
    refine st14 _ ?_
    show Steps p.tables e below (T14.setTop (mkF m 61 #[.val (.long q1), .second, .val (.long q2), .second, .val (.long q3), .second, .val (.long q4), .second, .val (.int (f1 q1 q2)), .val (.int (f1 (15 : Int64) (6 : Int64))), .val (.int (f1 (16 : Int64) q2)), .val (.int (f1 q1 (7 : Int64))), .val (.int (f1 (f2 q1 (15 : Int64)) (f2 q2 (6 : Int64)))), .unset, .unset] [(.long (f2 q1 q3))])) _
    refine XS.lloadN X14.here hx rfl (hb hby at_61) rfl ?_
    show Steps p.tables e below (T14.setTop (mkF m 62 #[.val (.long q1), .second, .val (.long q2), .second, .val (.long q3), .second, .val (.long q4), .second, .val (.int (f1 q1 q2)), .val (.int (f1 (15 : Int64) (6 : Int64))), .val (.int (f1 (16 : Int64) q2)), .val (.int (f1 q1 (7 : Int64))), .val (.int (f1 (f2 q1 (15 : Int64)) (f2 q2 (6 : Int64)))), .unset, .unset] [(.long q2), (.long (f2 q1 q3))])) _
    refine XS.lload X14.here hx rfl (hb hby at_62) rfl ?_
    show Steps p.tables e below (T14.setTop (mkF m 64 #[.val (.long q1), .second, .val (.long q2), .second, .val (.long q3), .second, .val (.long q4), .second, .val (.int (f1 q1 q2)), .val (.int (f1 (15 : Int64) (6 : Int64))), .val (.int (f1 (16 : Int64) q2)), .val (.int (f1 q1 (7 : Int64))), .val (.int (f1 (f2 q1 (15 : Int64)) (f2 q2 (6 : Int64)))), .unset, .unset] [(.long q4), (.long q2), (.long (f2 q1 q3))])) _
    refine st15 _ ?_
    show Steps p.tables e below (T15.setTop (mkF m 67 #[.val (.long q1), .second, .val (.long q2), .second, .val (.long q3), .second, .val (.long q4), .second, .val (.int (f1 q1 q2)), .val (.int (f1 (15 : Int64) (6 : Int64))), .val (.int (f1 (16 : Int64) q2)), .val (.int (f1 q1 (7 : Int64))), .val (.int (f1 (f2 q1 (15 : Int64)) (f2 q2 (6 : Int64)))), .unset, .unset] [(.long (f2 q2 q4)), (.long (f2 q1 q3))])) _
    refine st16 _ ?_
    show Steps p.tables e below (T16.setTop (mkF m 70 #[.val (.long q1), .second, .val (.long q2), .second, .val (.long q3), .second, .val (.long q4), .second, .val (.int (f1 q1 q2)), .val (.int (f1 (15 : Int64) (6 : Int64))), .val (.int (f1 (16 : Int64) q2)), .val (.int (f1 q1 (7 : Int64))), .val (.int (f1 (f2 q1 (15 : Int64)) (f2 q2 (6 : Int64)))), .unset, .unset] [(.int (f1 (f2 q1 q3) (f2 q2 q4)))])) _
    refine XS.istore X16.here hx rfl (hb hby at_70) rfl (l' := #[.val (.long q1), .second, .val (.long q2), .second, .val (.long q3), .second, .val (.long q4), .second, .val (.int (f1 q1 q2)), .val (.int (f1 (15 : Int64) (6 : Int64))), .val (.int (f1 (16 : Int64) q2)), .val (.int (f1 q1 (7 : Int64))), .val (.int (f1 (f2 q1 (15 : Int64)) (f2 q2 (6 : Int64)))), .val (.int (f1 (f2 q1 q3) (f2 q2 q4))), .unset]) rfl ?_
    show Steps p.tables e below (T16.setTop (mkF m 72 #[.val (.long q1), .second, .val (.long q2), .second, .val (.long q3), .second, .val (.long q4), .second, .val (.int (f1 q1 q2)), .val (.int (f1 (15 : Int64) (6 : Int64))), .val (.int (f1 (16 : Int64) q2)), .val (.int (f1 q1 (7 : Int64))), .val (.int (f1 (f2 q1 (15 : Int64)) (f2 q2 (6 : Int64)))), .val (.int (f1 (f2 q1 q3) (f2 q2 q4))), .unset] [])) _
    refine XS.iload X16.here hx rfl (hb hby at_72) rfl ?_
    exact k
  by_cases hc17 : (f1 q1 q2) = (0 : Int32)
  · have pre20 : ∀ t, Steps p.tables e below (T16.setTop (mkF m 91 #[.val (.long q1), .second, .val (.long q2), .second, .val (.long q3), .second, .val (.long q4), .second, .val (.int (f1 q1 q2)), .val (.int (f1 (15 : Int64) (6 : Int64))), .val (.int (f1 (16 : Int64) q2)), .val (.int (f1 q1 (7 : Int64))), .val (.int (f1 (f2 q1 (15 : Int64)) (f2 q2 (6 : Int64)))), .val (.int (f1 (f2 q1 q3) (f2 q2 q4))), .val (.int (1 : Int32))] [(.int (f1 (15 : Int64) (6 : Int64)))])) t → Steps p.tables e below (s₁.setTop (entryFrame m #[(.long q1), (.long q2), (.long q3), (.long q4)] maxLocals)) t := fun t k => by
      refine pre18 _ ?_
      show Steps p.tables e below (T16.setTop (mkF m 74 #[.val (.long q1), .second, .val (.long q2), .second, .val (.long q3), .second, .val (.long q4), .second, .val (.int (f1 q1 q2)), .val (.int (f1 (15 : Int64) (6 : Int64))), .val (.int (f1 (16 : Int64) q2)), .val (.int (f1 q1 (7 : Int64))), .val (.int (f1 (f2 q1 (15 : Int64)) (f2 q2 (6 : Int64)))), .val (.int (f1 (f2 q1 q3) (f2 q2 q4))), .unset] [(.int (f1 q1 q2))])) _
      refine XS.ifYes X16.here hx rfl (pc0 := 74) (pc' := 82) rfl (hb hby at_74) rfl ((if0 _ _).trans (teq hc17).1) (by decide) (by decide) ?_
      show Steps p.tables e below (T16.setTop (mkF m 82 #[.val (.long q1), .second, .val (.long q2), .second, .val (.long q3), .second, .val (.long q4), .second, .val (.int (f1 q1 q2)), .val (.int (f1 (15 : Int64) (6 : Int64))), .val (.int (f1 (16 : Int64) q2)), .val (.int (f1 q1 (7 : Int64))), .val (.int (f1 (f2 q1 (15 : Int64)) (f2 q2 (6 : Int64)))), .val (.int (f1 (f2 q1 q3) (f2 q2 q4))), .unset] [])) _
      refine XS.iconst X16.here hx rfl (hb hby at_82) ?_
      show Steps p.tables e below (T16.setTop (mkF m 83 #[.val (.long q1), .second, .val (.long q2), .second, .val (.long q3), .second, .val (.long q4), .second, .val (.int (f1 q1 q2)), .val (.int (f1 (15 : Int64) (6 : Int64))), .val (.int (f1 (16 : Int64) q2)), .val (.int (f1 q1 (7 : Int64))), .val (.int (f1 (f2 q1 (15 : Int64)) (f2 q2 (6 : Int64)))), .val (.int (f1 (f2 q1 q3) (f2 q2 q4))), .unset] [(.int (1 : Int32))])) _
      refine XS.goto X16.here hx rfl (pc0 := 83) (pc' := 87) rfl (hb hby at_83) (by decide) (by decide) ?_
      show Steps p.tables e below (T16.setTop (mkF m 87 #[.val (.long q1), .second, .val (.long q2), .second, .val (.long q3), .second, .val (.long q4), .second, .val (.int (f1 q1 q2)), .val (.int (f1 (15 : Int64) (6 : Int64))), .val (.int (f1 (16 : Int64) q2)), .val (.int (f1 q1 (7 : Int64))), .val (.int (f1 (f2 q1 (15 : Int64)) (f2 q2 (6 : Int64)))), .val (.int (f1 (f2 q1 q3) (f2 q2 q4))), .unset] [(.int (1 : Int32))])) _
      refine XS.istore X16.here hx rfl (hb hby at_87) rfl (l' := #[.val (.long q1), .second, .val (.long q2), .second, .val (.long q3), .second, .val (.long q4), .second, .val (.int (f1 q1 q2)), .val (.int (f1 (15 : Int64) (6 : Int64))), .val (.int (f1 (16 : Int64) q2)), .val (.int (f1 q1 (7 : Int64))), .val (.int (f1 (f2 q1 (15 : Int64)) (f2 q2 (6 : Int64)))), .val (.int (f1 (f2 q1 q3) (f2 q2 q4))), .val (.int (1 : Int32))]) rfl ?_
      show Steps p.tables e below (T16.setTop (mkF m 89 #[.val (.long q1), .second, .val (.long q2), .second, .val (.long q3), .second, .val (.long q4), .second, .val (.int (f1 q1 q2)), .val (.int (f1 (15 : Int64) (6 : Int64))), .val (.int (f1 (16 : Int64) q2)), .val (.int (f1 q1 (7 : Int64))), .val (.int (f1 (f2 q1 (15 : Int64)) (f2 q2 (6 : Int64)))), .val (.int (f1 (f2 q1 q3) (f2 q2 q4))), .val (.int (1 : Int32))] [])) _
      refine XS.iload X16.here hx rfl (hb hby at_89) rfl ?_
      exact k
    by_cases hc19 : (f1 (15 : Int64) (6 : Int64)) = (0 : Int32)
    · obtain ⟨fs, hr, hrun, hended, hW, hsame⟩ := X16.leave (v := some (.int (0 : Int32))) (fun h => by rw [Bd.returns] at h; cases h)
      refine ⟨_, _, pre20 _ ?_, hrun, hended, _, _, rfl, ?_, ⟨_, rfl⟩, hW, hsame.mono (by decide) (by decide)⟩
      · show Steps p.tables e below (T16.setTop (mkF m 91 #[.val (.long q1), .second, .val (.long q2), .second, .val (.long q3), .second, .val (.long q4), .second, .val (.int (f1 q1 q2)), .val (.int (f1 (15 : Int64) (6 : Int64))), .val (.int (f1 (16 : Int64) q2)), .val (.int (f1 q1 (7 : Int64))), .val (.int (f1 (f2 q1 (15 : Int64)) (f2 q2 (6 : Int64)))), .val (.int (f1 (f2 q1 q3) (f2 q2 q4))), .val (.int (1 : Int32))] [(.int (f1 (15 : Int64) (6 : Int64)))])) _
        refine XS.ifYes X16.here hx rfl (pc0 := 91) (pc' := 118) rfl (hb hby at_91) rfl ((if0 _ _).trans (teq hc19).1) (by decide) (by decide) ?_
        show Steps p.tables e below (T16.setTop (mkF m 118 #[.val (.long q1), .second, .val (.long q2), .second, .val (.long q3), .second, .val (.long q4), .second, .val (.int (f1 q1 q2)), .val (.int (f1 (15 : Int64) (6 : Int64))), .val (.int (f1 (16 : Int64) q2)), .val (.int (f1 q1 (7 : Int64))), .val (.int (f1 (f2 q1 (15 : Int64)) (f2 q2 (6 : Int64)))), .val (.int (f1 (f2 q1 q3) (f2 q2 q4))), .val (.int (1 : Int32))] [])) _
        refine XS.iconst X16.here hx rfl (hb hby at_118) ?_
        show Steps p.tables e below (T16.setTop (mkF m 119 #[.val (.long q1), .second, .val (.long q2), .second, .val (.long q3), .second, .val (.long q4), .second, .val (.int (f1 q1 q2)), .val (.int (f1 (15 : Int64) (6 : Int64))), .val (.int (f1 (16 : Int64) q2)), .val (.int (f1 q1 (7 : Int64))), .val (.int (f1 (f2 q1 (15 : Int64)) (f2 q2 (6 : Int64)))), .val (.int (f1 (f2 q1 q3) (f2 q2 q4))), .val (.int (1 : Int32))] [(.int (0 : Int32))])) _
        exact retN X16 hx (t := .boolean) Bd.returns (by simp) (hb hby at_119) hr
      · show QP _ h0 n0 _ T16.heap _
        rw [e16, show f0 q1 q2 q3 q4 = (0 : Int32) from by unfold f0; rw [if_pos hc17, if_pos hc19]]
        exact ⟨rfl, N16, rfl⟩
    · have pre22 : ∀ t, Steps p.tables e below (T16.setTop (mkF m 96 #[.val (.long q1), .second, .val (.long q2), .second, .val (.long q3), .second, .val (.long q4), .second, .val (.int (f1 q1 q2)), .val (.int (f1 (15 : Int64) (6 : Int64))), .val (.int (f1 (16 : Int64) q2)), .val (.int (f1 q1 (7 : Int64))), .val (.int (f1 (f2 q1 (15 : Int64)) (f2 q2 (6 : Int64)))), .val (.int (f1 (f2 q1 q3) (f2 q2 q4))), .val (.int (1 : Int32))] [(.int (f1 (16 : Int64) q2))])) t → Steps p.tables e below (s₁.setTop (entryFrame m #[(.long q1), (.long q2), (.long q3), (.long q4)] maxLocals)) t := fun t k => by
        refine pre20 _ ?_
        show Steps p.tables e below (T16.setTop (mkF m 91 #[.val (.long q1), .second, .val (.long q2), .second, .val (.long q3), .second, .val (.long q4), .second, .val (.int (f1 q1 q2)), .val (.int (f1 (15 : Int64) (6 : Int64))), .val (.int (f1 (16 : Int64) q2)), .val (.int (f1 q1 (7 : Int64))), .val (.int (f1 (f2 q1 (15 : Int64)) (f2 q2 (6 : Int64)))), .val (.int (f1 (f2 q1 q3) (f2 q2 q4))), .val (.int (1 : Int32))] [(.int (f1 (15 : Int64) (6 : Int64)))])) _
        refine XS.ifNo X16.here hx rfl (hb hby at_91) rfl ((if0 _ _).trans (feq hc19).1) ?_
        show Steps p.tables e below (T16.setTop (mkF m 94 #[.val (.long q1), .second, .val (.long q2), .second, .val (.long q3), .second, .val (.long q4), .second, .val (.int (f1 q1 q2)), .val (.int (f1 (15 : Int64) (6 : Int64))), .val (.int (f1 (16 : Int64) q2)), .val (.int (f1 q1 (7 : Int64))), .val (.int (f1 (f2 q1 (15 : Int64)) (f2 q2 (6 : Int64)))), .val (.int (f1 (f2 q1 q3) (f2 q2 q4))), .val (.int (1 : Int32))] [])) _
        refine XS.iload X16.here hx rfl (hb hby at_94) rfl ?_
        exact k
      by_cases hc21 : (f1 (16 : Int64) q2) = (0 : Int32)
      · have pre24 : ∀ t, Steps p.tables e below (T16.setTop (mkF m 101 #[.val (.long q1), .second, .val (.long q2), .second, .val (.long q3), .second, .val (.long q4), .second, .val (.int (f1 q1 q2)), .val (.int (f1 (15 : Int64) (6 : Int64))), .val (.int (f1 (16 : Int64) q2)), .val (.int (f1 q1 (7 : Int64))), .val (.int (f1 (f2 q1 (15 : Int64)) (f2 q2 (6 : Int64)))), .val (.int (f1 (f2 q1 q3) (f2 q2 q4))), .val (.int (1 : Int32))] [(.int (f1 q1 (7 : Int64)))])) t → Steps p.tables e below (s₁.setTop (entryFrame m #[(.long q1), (.long q2), (.long q3), (.long q4)] maxLocals)) t := fun t k => by
          refine pre22 _ ?_
          show Steps p.tables e below (T16.setTop (mkF m 96 #[.val (.long q1), .second, .val (.long q2), .second, .val (.long q3), .second, .val (.long q4), .second, .val (.int (f1 q1 q2)), .val (.int (f1 (15 : Int64) (6 : Int64))), .val (.int (f1 (16 : Int64) q2)), .val (.int (f1 q1 (7 : Int64))), .val (.int (f1 (f2 q1 (15 : Int64)) (f2 q2 (6 : Int64)))), .val (.int (f1 (f2 q1 q3) (f2 q2 q4))), .val (.int (1 : Int32))] [(.int (f1 (16 : Int64) q2))])) _
          refine XS.ifNo X16.here hx rfl (hb hby at_96) rfl ((if0 _ _).trans (teq hc21).2) ?_
          show Steps p.tables e below (T16.setTop (mkF m 99 #[.val (.long q1), .second, .val (.long q2), .second, .val (.long q3), .second, .val (.long q4), .second, .val (.int (f1 q1 q2)), .val (.int (f1 (15 : Int64) (6 : Int64))), .val (.int (f1 (16 : Int64) q2)), .val (.int (f1 q1 (7 : Int64))), .val (.int (f1 (f2 q1 (15 : Int64)) (f2 q2 (6 : Int64)))), .val (.int (f1 (f2 q1 q3) (f2 q2 q4))), .val (.int (1 : Int32))] [])) _
          refine XS.iload X16.here hx rfl (hb hby at_99) rfl ?_
          exact k
        by_cases hc23 : (f1 q1 (7 : Int64)) = (0 : Int32)
        · have pre26 : ∀ t, Steps p.tables e below (T16.setTop (mkF m 106 #[.val (.long q1), .second, .val (.long q2), .second, .val (.long q3), .second, .val (.long q4), .second, .val (.int (f1 q1 q2)), .val (.int (f1 (15 : Int64) (6 : Int64))), .val (.int (f1 (16 : Int64) q2)), .val (.int (f1 q1 (7 : Int64))), .val (.int (f1 (f2 q1 (15 : Int64)) (f2 q2 (6 : Int64)))), .val (.int (f1 (f2 q1 q3) (f2 q2 q4))), .val (.int (1 : Int32))] [(.int (f1 (f2 q1 (15 : Int64)) (f2 q2 (6 : Int64))))])) t → Steps p.tables e below (s₁.setTop (entryFrame m #[(.long q1), (.long q2), (.long q3), (.long q4)] maxLocals)) t := fun t k => by
            refine pre24 _ ?_
            show Steps p.tables e below (T16.setTop (mkF m 101 #[.val (.long q1), .second, .val (.long q2), .second, .val (.long q3), .second, .val (.long q4), .second, .val (.int (f1 q1 q2)), .val (.int (f1 (15 : Int64) (6 : Int64))), .val (.int (f1 (16 : Int64) q2)), .val (.int (f1 q1 (7 : Int64))), .val (.int (f1 (f2 q1 (15 : Int64)) (f2 q2 (6 : Int64)))), .val (.int (f1 (f2 q1 q3) (f2 q2 q4))), .val (.int (1 : Int32))] [(.int (f1 q1 (7 : Int64)))])) _
            refine XS.ifNo X16.here hx rfl (hb hby at_101) rfl ((if0 _ _).trans (teq hc23).2) ?_
            show Steps p.tables e below (T16.setTop (mkF m 104 #[.val (.long q1), .second, .val (.long q2), .second, .val (.long q3), .second, .val (.long q4), .second, .val (.int (f1 q1 q2)), .val (.int (f1 (15 : Int64) (6 : Int64))), .val (.int (f1 (16 : Int64) q2)), .val (.int (f1 q1 (7 : Int64))), .val (.int (f1 (f2 q1 (15 : Int64)) (f2 q2 (6 : Int64)))), .val (.int (f1 (f2 q1 q3) (f2 q2 q4))), .val (.int (1 : Int32))] [])) _
            refine XS.iload X16.here hx rfl (hb hby at_104) rfl ?_
            exact k
          by_cases hc25 : (f1 (f2 q1 (15 : Int64)) (f2 q2 (6 : Int64))) = (0 : Int32)
          · obtain ⟨fs, hr, hrun, hended, hW, hsame⟩ := X16.leave (v := some (.int (0 : Int32))) (fun h => by rw [Bd.returns] at h; cases h)
            refine ⟨_, _, pre26 _ ?_, hrun, hended, _, _, rfl, ?_, ⟨_, rfl⟩, hW, hsame.mono (by decide) (by decide)⟩
            · show Steps p.tables e below (T16.setTop (mkF m 106 #[.val (.long q1), .second, .val (.long q2), .second, .val (.long q3), .second, .val (.long q4), .second, .val (.int (f1 q1 q2)), .val (.int (f1 (15 : Int64) (6 : Int64))), .val (.int (f1 (16 : Int64) q2)), .val (.int (f1 q1 (7 : Int64))), .val (.int (f1 (f2 q1 (15 : Int64)) (f2 q2 (6 : Int64)))), .val (.int (f1 (f2 q1 q3) (f2 q2 q4))), .val (.int (1 : Int32))] [(.int (f1 (f2 q1 (15 : Int64)) (f2 q2 (6 : Int64))))])) _
              refine XS.ifYes X16.here hx rfl (pc0 := 106) (pc' := 118) rfl (hb hby at_106) rfl ((if0 _ _).trans (teq hc25).1) (by decide) (by decide) ?_
              show Steps p.tables e below (T16.setTop (mkF m 118 #[.val (.long q1), .second, .val (.long q2), .second, .val (.long q3), .second, .val (.long q4), .second, .val (.int (f1 q1 q2)), .val (.int (f1 (15 : Int64) (6 : Int64))), .val (.int (f1 (16 : Int64) q2)), .val (.int (f1 q1 (7 : Int64))), .val (.int (f1 (f2 q1 (15 : Int64)) (f2 q2 (6 : Int64)))), .val (.int (f1 (f2 q1 q3) (f2 q2 q4))), .val (.int (1 : Int32))] [])) _
              refine XS.iconst X16.here hx rfl (hb hby at_118) ?_
              show Steps p.tables e below (T16.setTop (mkF m 119 #[.val (.long q1), .second, .val (.long q2), .second, .val (.long q3), .second, .val (.long q4), .second, .val (.int (f1 q1 q2)), .val (.int (f1 (15 : Int64) (6 : Int64))), .val (.int (f1 (16 : Int64) q2)), .val (.int (f1 q1 (7 : Int64))), .val (.int (f1 (f2 q1 (15 : Int64)) (f2 q2 (6 : Int64)))), .val (.int (f1 (f2 q1 q3) (f2 q2 q4))), .val (.int (1 : Int32))] [(.int (0 : Int32))])) _
              exact retN X16 hx (t := .boolean) Bd.returns (by simp) (hb hby at_119) hr
            · show QP _ h0 n0 _ T16.heap _
              rw [e16, show f0 q1 q2 q3 q4 = (0 : Int32) from by unfold f0; rw [if_pos hc17, if_neg hc19, if_pos hc21, if_pos hc23, if_pos hc25]]
              exact ⟨rfl, N16, rfl⟩
          · obtain ⟨fs, hr, hrun, hended, hW, hsame⟩ := X16.leave (v := some (.int (1 : Int32))) (fun h => by rw [Bd.returns] at h; cases h)
            refine ⟨_, _, pre26 _ ?_, hrun, hended, _, _, rfl, ?_, ⟨_, rfl⟩, hW, hsame.mono (by decide) (by decide)⟩
            · show Steps p.tables e below (T16.setTop (mkF m 106 #[.val (.long q1), .second, .val (.long q2), .second, .val (.long q3), .second, .val (.long q4), .second, .val (.int (f1 q1 q2)), .val (.int (f1 (15 : Int64) (6 : Int64))), .val (.int (f1 (16 : Int64) q2)), .val (.int (f1 q1 (7 : Int64))), .val (.int (f1 (f2 q1 (15 : Int64)) (f2 q2 (6 : Int64)))), .val (.int (f1 (f2 q1 q3) (f2 q2 q4))), .val (.int (1 : Int32))] [(.int (f1 (f2 q1 (15 : Int64)) (f2 q2 (6 : Int64))))])) _
              refine XS.ifNo X16.here hx rfl (hb hby at_106) rfl ((if0 _ _).trans (feq hc25).1) ?_
              show Steps p.tables e below (T16.setTop (mkF m 109 #[.val (.long q1), .second, .val (.long q2), .second, .val (.long q3), .second, .val (.long q4), .second, .val (.int (f1 q1 q2)), .val (.int (f1 (15 : Int64) (6 : Int64))), .val (.int (f1 (16 : Int64) q2)), .val (.int (f1 q1 (7 : Int64))), .val (.int (f1 (f2 q1 (15 : Int64)) (f2 q2 (6 : Int64)))), .val (.int (f1 (f2 q1 q3) (f2 q2 q4))), .val (.int (1 : Int32))] [])) _
              refine XS.iload X16.here hx rfl (hb hby at_109) rfl ?_
              show Steps p.tables e below (T16.setTop (mkF m 111 #[.val (.long q1), .second, .val (.long q2), .second, .val (.long q3), .second, .val (.long q4), .second, .val (.int (f1 q1 q2)), .val (.int (f1 (15 : Int64) (6 : Int64))), .val (.int (f1 (16 : Int64) q2)), .val (.int (f1 q1 (7 : Int64))), .val (.int (f1 (f2 q1 (15 : Int64)) (f2 q2 (6 : Int64)))), .val (.int (f1 (f2 q1 q3) (f2 q2 q4))), .val (.int (1 : Int32))] [(.int (1 : Int32))])) _
              refine XS.ifNo X16.here hx rfl (hb hby at_111) rfl ((if0 _ _).trans (feq (by decide)).1) ?_
              show Steps p.tables e below (T16.setTop (mkF m 114 #[.val (.long q1), .second, .val (.long q2), .second, .val (.long q3), .second, .val (.long q4), .second, .val (.int (f1 q1 q2)), .val (.int (f1 (15 : Int64) (6 : Int64))), .val (.int (f1 (16 : Int64) q2)), .val (.int (f1 q1 (7 : Int64))), .val (.int (f1 (f2 q1 (15 : Int64)) (f2 q2 (6 : Int64)))), .val (.int (f1 (f2 q1 q3) (f2 q2 q4))), .val (.int (1 : Int32))] [])) _
              refine XS.iconst X16.here hx rfl (hb hby at_114) ?_
              show Steps p.tables e below (T16.setTop (mkF m 115 #[.val (.long q1), .second, .val (.long q2), .second, .val (.long q3), .second, .val (.long q4), .second, .val (.int (f1 q1 q2)), .val (.int (f1 (15 : Int64) (6 : Int64))), .val (.int (f1 (16 : Int64) q2)), .val (.int (f1 q1 (7 : Int64))), .val (.int (f1 (f2 q1 (15 : Int64)) (f2 q2 (6 : Int64)))), .val (.int (f1 (f2 q1 q3) (f2 q2 q4))), .val (.int (1 : Int32))] [(.int (1 : Int32))])) _
              refine XS.goto X16.here hx rfl (pc0 := 115) (pc' := 119) rfl (hb hby at_115) (by decide) (by decide) ?_
              show Steps p.tables e below (T16.setTop (mkF m 119 #[.val (.long q1), .second, .val (.long q2), .second, .val (.long q3), .second, .val (.long q4), .second, .val (.int (f1 q1 q2)), .val (.int (f1 (15 : Int64) (6 : Int64))), .val (.int (f1 (16 : Int64) q2)), .val (.int (f1 q1 (7 : Int64))), .val (.int (f1 (f2 q1 (15 : Int64)) (f2 q2 (6 : Int64)))), .val (.int (f1 (f2 q1 q3) (f2 q2 q4))), .val (.int (1 : Int32))] [(.int (1 : Int32))])) _
              exact retN X16 hx (t := .boolean) Bd.returns (by simp) (hb hby at_119) hr
            · show QP _ h0 n0 _ T16.heap _
              rw [e16, show f0 q1 q2 q3 q4 = (1 : Int32) from by unfold f0; rw [if_pos hc17, if_neg hc19, if_pos hc21, if_pos hc23, if_neg hc25]]
              exact ⟨rfl, N16, rfl⟩
        · obtain ⟨fs, hr, hrun, hended, hW, hsame⟩ := X16.leave (v := some (.int (0 : Int32))) (fun h => by rw [Bd.returns] at h; cases h)
          refine ⟨_, _, pre24 _ ?_, hrun, hended, _, _, rfl, ?_, ⟨_, rfl⟩, hW, hsame.mono (by decide) (by decide)⟩
          · show Steps p.tables e below (T16.setTop (mkF m 101 #[.val (.long q1), .second, .val (.long q2), .second, .val (.long q3), .second, .val (.long q4), .second, .val (.int (f1 q1 q2)), .val (.int (f1 (15 : Int64) (6 : Int64))), .val (.int (f1 (16 : Int64) q2)), .val (.int (f1 q1 (7 : Int64))), .val (.int (f1 (f2 q1 (15 : Int64)) (f2 q2 (6 : Int64)))), .val (.int (f1 (f2 q1 q3) (f2 q2 q4))), .val (.int (1 : Int32))] [(.int (f1 q1 (7 : Int64)))])) _
            refine XS.ifYes X16.here hx rfl (pc0 := 101) (pc' := 118) rfl (hb hby at_101) rfl ((if0 _ _).trans (feq hc23).2) (by decide) (by decide) ?_
            show Steps p.tables e below (T16.setTop (mkF m 118 #[.val (.long q1), .second, .val (.long q2), .second, .val (.long q3), .second, .val (.long q4), .second, .val (.int (f1 q1 q2)), .val (.int (f1 (15 : Int64) (6 : Int64))), .val (.int (f1 (16 : Int64) q2)), .val (.int (f1 q1 (7 : Int64))), .val (.int (f1 (f2 q1 (15 : Int64)) (f2 q2 (6 : Int64)))), .val (.int (f1 (f2 q1 q3) (f2 q2 q4))), .val (.int (1 : Int32))] [])) _
            refine XS.iconst X16.here hx rfl (hb hby at_118) ?_
            show Steps p.tables e below (T16.setTop (mkF m 119 #[.val (.long q1), .second, .val (.long q2), .second, .val (.long q3), .second, .val (.long q4), .second, .val (.int (f1 q1 q2)), .val (.int (f1 (15 : Int64) (6 : Int64))), .val (.int (f1 (16 : Int64) q2)), .val (.int (f1 q1 (7 : Int64))), .val (.int (f1 (f2 q1 (15 : Int64)) (f2 q2 (6 : Int64)))), .val (.int (f1 (f2 q1 q3) (f2 q2 q4))), .val (.int (1 : Int32))] [(.int (0 : Int32))])) _
            exact retN X16 hx (t := .boolean) Bd.returns (by simp) (hb hby at_119) hr
          · show QP _ h0 n0 _ T16.heap _
            rw [e16, show f0 q1 q2 q3 q4 = (0 : Int32) from by unfold f0; rw [if_pos hc17, if_neg hc19, if_pos hc21, if_neg hc23]]
            exact ⟨rfl, N16, rfl⟩
      · obtain ⟨fs, hr, hrun, hended, hW, hsame⟩ := X16.leave (v := some (.int (0 : Int32))) (fun h => by rw [Bd.returns] at h; cases h)
        refine ⟨_, _, pre22 _ ?_, hrun, hended, _, _, rfl, ?_, ⟨_, rfl⟩, hW, hsame.mono (by decide) (by decide)⟩
        · show Steps p.tables e below (T16.setTop (mkF m 96 #[.val (.long q1), .second, .val (.long q2), .second, .val (.long q3), .second, .val (.long q4), .second, .val (.int (f1 q1 q2)), .val (.int (f1 (15 : Int64) (6 : Int64))), .val (.int (f1 (16 : Int64) q2)), .val (.int (f1 q1 (7 : Int64))), .val (.int (f1 (f2 q1 (15 : Int64)) (f2 q2 (6 : Int64)))), .val (.int (f1 (f2 q1 q3) (f2 q2 q4))), .val (.int (1 : Int32))] [(.int (f1 (16 : Int64) q2))])) _
          refine XS.ifYes X16.here hx rfl (pc0 := 96) (pc' := 118) rfl (hb hby at_96) rfl ((if0 _ _).trans (feq hc21).2) (by decide) (by decide) ?_
          show Steps p.tables e below (T16.setTop (mkF m 118 #[.val (.long q1), .second, .val (.long q2), .second, .val (.long q3), .second, .val (.long q4), .second, .val (.int (f1 q1 q2)), .val (.int (f1 (15 : Int64) (6 : Int64))), .val (.int (f1 (16 : Int64) q2)), .val (.int (f1 q1 (7 : Int64))), .val (.int (f1 (f2 q1 (15 : Int64)) (f2 q2 (6 : Int64)))), .val (.int (f1 (f2 q1 q3) (f2 q2 q4))), .val (.int (1 : Int32))] [])) _
          refine XS.iconst X16.here hx rfl (hb hby at_118) ?_
          show Steps p.tables e below (T16.setTop (mkF m 119 #[.val (.long q1), .second, .val (.long q2), .second, .val (.long q3), .second, .val (.long q4), .second, .val (.int (f1 q1 q2)), .val (.int (f1 (15 : Int64) (6 : Int64))), .val (.int (f1 (16 : Int64) q2)), .val (.int (f1 q1 (7 : Int64))), .val (.int (f1 (f2 q1 (15 : Int64)) (f2 q2 (6 : Int64)))), .val (.int (f1 (f2 q1 q3) (f2 q2 q4))), .val (.int (1 : Int32))] [(.int (0 : Int32))])) _
          exact retN X16 hx (t := .boolean) Bd.returns (by simp) (hb hby at_119) hr
        · show QP _ h0 n0 _ T16.heap _
          rw [e16, show f0 q1 q2 q3 q4 = (0 : Int32) from by unfold f0; rw [if_pos hc17, if_neg hc19, if_neg hc21]]
          exact ⟨rfl, N16, rfl⟩
  · have pre28 : ∀ t, Steps p.tables e below (T16.setTop (mkF m 79 #[.val (.long q1), .second, .val (.long q2), .second, .val (.long q3), .second, .val (.long q4), .second, .val (.int (f1 q1 q2)), .val (.int (f1 (15 : Int64) (6 : Int64))), .val (.int (f1 (16 : Int64) q2)), .val (.int (f1 q1 (7 : Int64))), .val (.int (f1 (f2 q1 (15 : Int64)) (f2 q2 (6 : Int64)))), .val (.int (f1 (f2 q1 q3) (f2 q2 q4))), .unset] [(.int (f1 (f2 q1 q3) (f2 q2 q4)))])) t → Steps p.tables e below (s₁.setTop (entryFrame m #[(.long q1), (.long q2), (.long q3), (.long q4)] maxLocals)) t := fun t k => by
      refine pre18 _ ?_
      show Steps p.tables e below (T16.setTop (mkF m 74 #[.val (.long q1), .second, .val (.long q2), .second, .val (.long q3), .second, .val (.long q4), .second, .val (.int (f1 q1 q2)), .val (.int (f1 (15 : Int64) (6 : Int64))), .val (.int (f1 (16 : Int64) q2)), .val (.int (f1 q1 (7 : Int64))), .val (.int (f1 (f2 q1 (15 : Int64)) (f2 q2 (6 : Int64)))), .val (.int (f1 (f2 q1 q3) (f2 q2 q4))), .unset] [(.int (f1 q1 q2))])) _
      refine XS.ifNo X16.here hx rfl (hb hby at_74) rfl ((if0 _ _).trans (feq hc17).1) ?_
      show Steps p.tables e below (T16.setTop (mkF m 77 #[.val (.long q1), .second, .val (.long q2), .second, .val (.long q3), .second, .val (.long q4), .second, .val (.int (f1 q1 q2)), .val (.int (f1 (15 : Int64) (6 : Int64))), .val (.int (f1 (16 : Int64) q2)), .val (.int (f1 q1 (7 : Int64))), .val (.int (f1 (f2 q1 (15 : Int64)) (f2 q2 (6 : Int64)))), .val (.int (f1 (f2 q1 q3) (f2 q2 q4))), .unset] [])) _
      refine XS.iload X16.here hx rfl (hb hby at_77) rfl ?_
      exact k
    by_cases hc27 : (f1 (f2 q1 q3) (f2 q2 q4)) = (0 : Int32)
    · have pre30 : ∀ t, Steps p.tables e below (T16.setTop (mkF m 91 #[.val (.long q1), .second, .val (.long q2), .second, .val (.long q3), .second, .val (.long q4), .second, .val (.int (f1 q1 q2)), .val (.int (f1 (15 : Int64) (6 : Int64))), .val (.int (f1 (16 : Int64) q2)), .val (.int (f1 q1 (7 : Int64))), .val (.int (f1 (f2 q1 (15 : Int64)) (f2 q2 (6 : Int64)))), .val (.int (f1 (f2 q1 q3) (f2 q2 q4))), .val (.int (0 : Int32))] [(.int (f1 (15 : Int64) (6 : Int64)))])) t → Steps p.tables e below (s₁.setTop (entryFrame m #[(.long q1), (.long q2), (.long q3), (.long q4)] maxLocals)) t := fun t k => by
        refine pre28 _ ?_
        show Steps p.tables e below (T16.setTop (mkF m 79 #[.val (.long q1), .second, .val (.long q2), .second, .val (.long q3), .second, .val (.long q4), .second, .val (.int (f1 q1 q2)), .val (.int (f1 (15 : Int64) (6 : Int64))), .val (.int (f1 (16 : Int64) q2)), .val (.int (f1 q1 (7 : Int64))), .val (.int (f1 (f2 q1 (15 : Int64)) (f2 q2 (6 : Int64)))), .val (.int (f1 (f2 q1 q3) (f2 q2 q4))), .unset] [(.int (f1 (f2 q1 q3) (f2 q2 q4)))])) _
        refine XS.ifYes X16.here hx rfl (pc0 := 79) (pc' := 86) rfl (hb hby at_79) rfl ((if0 _ _).trans (teq hc27).1) (by decide) (by decide) ?_
        show Steps p.tables e below (T16.setTop (mkF m 86 #[.val (.long q1), .second, .val (.long q2), .second, .val (.long q3), .second, .val (.long q4), .second, .val (.int (f1 q1 q2)), .val (.int (f1 (15 : Int64) (6 : Int64))), .val (.int (f1 (16 : Int64) q2)), .val (.int (f1 q1 (7 : Int64))), .val (.int (f1 (f2 q1 (15 : Int64)) (f2 q2 (6 : Int64)))), .val (.int (f1 (f2 q1 q3) (f2 q2 q4))), .unset] [])) _
        refine XS.iconst X16.here hx rfl (hb hby at_86) ?_
        show Steps p.tables e below (T16.setTop (mkF m 87 #[.val (.long q1), .second, .val (.long q2), .second, .val (.long q3), .second, .val (.long q4), .second, .val (.int (f1 q1 q2)), .val (.int (f1 (15 : Int64) (6 : Int64))), .val (.int (f1 (16 : Int64) q2)), .val (.int (f1 q1 (7 : Int64))), .val (.int (f1 (f2 q1 (15 : Int64)) (f2 q2 (6 : Int64)))), .val (.int (f1 (f2 q1 q3) (f2 q2 q4))), .unset] [(.int (0 : Int32))])) _
        refine XS.istore X16.here hx rfl (hb hby at_87) rfl (l' := #[.val (.long q1), .second, .val (.long q2), .second, .val (.long q3), .second, .val (.long q4), .second, .val (.int (f1 q1 q2)), .val (.int (f1 (15 : Int64) (6 : Int64))), .val (.int (f1 (16 : Int64) q2)), .val (.int (f1 q1 (7 : Int64))), .val (.int (f1 (f2 q1 (15 : Int64)) (f2 q2 (6 : Int64)))), .val (.int (f1 (f2 q1 q3) (f2 q2 q4))), .val (.int (0 : Int32))]) rfl ?_
        show Steps p.tables e below (T16.setTop (mkF m 89 #[.val (.long q1), .second, .val (.long q2), .second, .val (.long q3), .second, .val (.long q4), .second, .val (.int (f1 q1 q2)), .val (.int (f1 (15 : Int64) (6 : Int64))), .val (.int (f1 (16 : Int64) q2)), .val (.int (f1 q1 (7 : Int64))), .val (.int (f1 (f2 q1 (15 : Int64)) (f2 q2 (6 : Int64)))), .val (.int (f1 (f2 q1 q3) (f2 q2 q4))), .val (.int (0 : Int32))] [])) _
        refine XS.iload X16.here hx rfl (hb hby at_89) rfl ?_
        exact k
      by_cases hc29 : (f1 (15 : Int64) (6 : Int64)) = (0 : Int32)
      · obtain ⟨fs, hr, hrun, hended, hW, hsame⟩ := X16.leave (v := some (.int (0 : Int32))) (fun h => by rw [Bd.returns] at h; cases h)
        refine ⟨_, _, pre30 _ ?_, hrun, hended, _, _, rfl, ?_, ⟨_, rfl⟩, hW, hsame.mono (by decide) (by decide)⟩
        · show Steps p.tables e below (T16.setTop (mkF m 91 #[.val (.long q1), .second, .val (.long q2), .second, .val (.long q3), .second, .val (.long q4), .second, .val (.int (f1 q1 q2)), .val (.int (f1 (15 : Int64) (6 : Int64))), .val (.int (f1 (16 : Int64) q2)), .val (.int (f1 q1 (7 : Int64))), .val (.int (f1 (f2 q1 (15 : Int64)) (f2 q2 (6 : Int64)))), .val (.int (f1 (f2 q1 q3) (f2 q2 q4))), .val (.int (0 : Int32))] [(.int (f1 (15 : Int64) (6 : Int64)))])) _
          refine XS.ifYes X16.here hx rfl (pc0 := 91) (pc' := 118) rfl (hb hby at_91) rfl ((if0 _ _).trans (teq hc29).1) (by decide) (by decide) ?_
          show Steps p.tables e below (T16.setTop (mkF m 118 #[.val (.long q1), .second, .val (.long q2), .second, .val (.long q3), .second, .val (.long q4), .second, .val (.int (f1 q1 q2)), .val (.int (f1 (15 : Int64) (6 : Int64))), .val (.int (f1 (16 : Int64) q2)), .val (.int (f1 q1 (7 : Int64))), .val (.int (f1 (f2 q1 (15 : Int64)) (f2 q2 (6 : Int64)))), .val (.int (f1 (f2 q1 q3) (f2 q2 q4))), .val (.int (0 : Int32))] [])) _
          refine XS.iconst X16.here hx rfl (hb hby at_118) ?_
          show Steps p.tables e below (T16.setTop (mkF m 119 #[.val (.long q1), .second, .val (.long q2), .second, .val (.long q3), .second, .val (.long q4), .second, .val (.int (f1 q1 q2)), .val (.int (f1 (15 : Int64) (6 : Int64))), .val (.int (f1 (16 : Int64) q2)), .val (.int (f1 q1 (7 : Int64))), .val (.int (f1 (f2 q1 (15 : Int64)) (f2 q2 (6 : Int64)))), .val (.int (f1 (f2 q1 q3) (f2 q2 q4))), .val (.int (0 : Int32))] [(.int (0 : Int32))])) _
          exact retN X16 hx (t := .boolean) Bd.returns (by simp) (hb hby at_119) hr
        · show QP _ h0 n0 _ T16.heap _
          rw [e16, show f0 q1 q2 q3 q4 = (0 : Int32) from by unfold f0; rw [if_neg hc17, if_pos hc27, if_pos hc29]]
          exact ⟨rfl, N16, rfl⟩
      · have pre32 : ∀ t, Steps p.tables e below (T16.setTop (mkF m 96 #[.val (.long q1), .second, .val (.long q2), .second, .val (.long q3), .second, .val (.long q4), .second, .val (.int (f1 q1 q2)), .val (.int (f1 (15 : Int64) (6 : Int64))), .val (.int (f1 (16 : Int64) q2)), .val (.int (f1 q1 (7 : Int64))), .val (.int (f1 (f2 q1 (15 : Int64)) (f2 q2 (6 : Int64)))), .val (.int (f1 (f2 q1 q3) (f2 q2 q4))), .val (.int (0 : Int32))] [(.int (f1 (16 : Int64) q2))])) t → Steps p.tables e below (s₁.setTop (entryFrame m #[(.long q1), (.long q2), (.long q3), (.long q4)] maxLocals)) t := fun t k => by
          refine pre30 _ ?_
          show Steps p.tables e below (T16.setTop (mkF m 91 #[.val (.long q1), .second, .val (.long q2), .second, .val (.long q3), .second, .val (.long q4), .second, .val (.int (f1 q1 q2)), .val (.int (f1 (15 : Int64) (6 : Int64))), .val (.int (f1 (16 : Int64) q2)), .val (.int (f1 q1 (7 : Int64))), .val (.int (f1 (f2 q1 (15 : Int64)) (f2 q2 (6 : Int64)))), .val (.int (f1 (f2 q1 q3) (f2 q2 q4))), .val (.int (0 : Int32))] [(.int (f1 (15 : Int64) (6 : Int64)))])) _
          refine XS.ifNo X16.here hx rfl (hb hby at_91) rfl ((if0 _ _).trans (feq hc29).1) ?_
          show Steps p.tables e below (T16.setTop (mkF m 94 #[.val (.long q1), .second, .val (.long q2), .second, .val (.long q3), .second, .val (.long q4), .second, .val (.int (f1 q1 q2)), .val (.int (f1 (15 : Int64) (6 : Int64))), .val (.int (f1 (16 : Int64) q2)), .val (.int (f1 q1 (7 : Int64))), .val (.int (f1 (f2 q1 (15 : Int64)) (f2 q2 (6 : Int64)))), .val (.int (f1 (f2 q1 q3) (f2 q2 q4))), .val (.int (0 : Int32))] [])) _
          refine XS.iload X16.here hx rfl (hb hby at_94) rfl ?_
          exact k
        by_cases hc31 : (f1 (16 : Int64) q2) = (0 : Int32)
        · have pre34 : ∀ t, Steps p.tables e below (T16.setTop (mkF m 101 #[.val (.long q1), .second, .val (.long q2), .second, .val (.long q3), .second, .val (.long q4), .second, .val (.int (f1 q1 q2)), .val (.int (f1 (15 : Int64) (6 : Int64))), .val (.int (f1 (16 : Int64) q2)), .val (.int (f1 q1 (7 : Int64))), .val (.int (f1 (f2 q1 (15 : Int64)) (f2 q2 (6 : Int64)))), .val (.int (f1 (f2 q1 q3) (f2 q2 q4))), .val (.int (0 : Int32))] [(.int (f1 q1 (7 : Int64)))])) t → Steps p.tables e below (s₁.setTop (entryFrame m #[(.long q1), (.long q2), (.long q3), (.long q4)] maxLocals)) t := fun t k => by
            refine pre32 _ ?_
            show Steps p.tables e below (T16.setTop (mkF m 96 #[.val (.long q1), .second, .val (.long q2), .second, .val (.long q3), .second, .val (.long q4), .second, .val (.int (f1 q1 q2)), .val (.int (f1 (15 : Int64) (6 : Int64))), .val (.int (f1 (16 : Int64) q2)), .val (.int (f1 q1 (7 : Int64))), .val (.int (f1 (f2 q1 (15 : Int64)) (f2 q2 (6 : Int64)))), .val (.int (f1 (f2 q1 q3) (f2 q2 q4))), .val (.int (0 : Int32))] [(.int (f1 (16 : Int64) q2))])) _
            refine XS.ifNo X16.here hx rfl (hb hby at_96) rfl ((if0 _ _).trans (teq hc31).2) ?_
            show Steps p.tables e below (T16.setTop (mkF m 99 #[.val (.long q1), .second, .val (.long q2), .second, .val (.long q3), .second, .val (.long q4), .second, .val (.int (f1 q1 q2)), .val (.int (f1 (15 : Int64) (6 : Int64))), .val (.int (f1 (16 : Int64) q2)), .val (.int (f1 q1 (7 : Int64))), .val (.int (f1 (f2 q1 (15 : Int64)) (f2 q2 (6 : Int64)))), .val (.int (f1 (f2 q1 q3) (f2 q2 q4))), .val (.int (0 : Int32))] [])) _
            refine XS.iload X16.here hx rfl (hb hby at_99) rfl ?_
            exact k
          by_cases hc33 : (f1 q1 (7 : Int64)) = (0 : Int32)
          · have pre36 : ∀ t, Steps p.tables e below (T16.setTop (mkF m 106 #[.val (.long q1), .second, .val (.long q2), .second, .val (.long q3), .second, .val (.long q4), .second, .val (.int (f1 q1 q2)), .val (.int (f1 (15 : Int64) (6 : Int64))), .val (.int (f1 (16 : Int64) q2)), .val (.int (f1 q1 (7 : Int64))), .val (.int (f1 (f2 q1 (15 : Int64)) (f2 q2 (6 : Int64)))), .val (.int (f1 (f2 q1 q3) (f2 q2 q4))), .val (.int (0 : Int32))] [(.int (f1 (f2 q1 (15 : Int64)) (f2 q2 (6 : Int64))))])) t → Steps p.tables e below (s₁.setTop (entryFrame m #[(.long q1), (.long q2), (.long q3), (.long q4)] maxLocals)) t := fun t k => by
              refine pre34 _ ?_
              show Steps p.tables e below (T16.setTop (mkF m 101 #[.val (.long q1), .second, .val (.long q2), .second, .val (.long q3), .second, .val (.long q4), .second, .val (.int (f1 q1 q2)), .val (.int (f1 (15 : Int64) (6 : Int64))), .val (.int (f1 (16 : Int64) q2)), .val (.int (f1 q1 (7 : Int64))), .val (.int (f1 (f2 q1 (15 : Int64)) (f2 q2 (6 : Int64)))), .val (.int (f1 (f2 q1 q3) (f2 q2 q4))), .val (.int (0 : Int32))] [(.int (f1 q1 (7 : Int64)))])) _
              refine XS.ifNo X16.here hx rfl (hb hby at_101) rfl ((if0 _ _).trans (teq hc33).2) ?_
              show Steps p.tables e below (T16.setTop (mkF m 104 #[.val (.long q1), .second, .val (.long q2), .second, .val (.long q3), .second, .val (.long q4), .second, .val (.int (f1 q1 q2)), .val (.int (f1 (15 : Int64) (6 : Int64))), .val (.int (f1 (16 : Int64) q2)), .val (.int (f1 q1 (7 : Int64))), .val (.int (f1 (f2 q1 (15 : Int64)) (f2 q2 (6 : Int64)))), .val (.int (f1 (f2 q1 q3) (f2 q2 q4))), .val (.int (0 : Int32))] [])) _
              refine XS.iload X16.here hx rfl (hb hby at_104) rfl ?_
              exact k
            by_cases hc35 : (f1 (f2 q1 (15 : Int64)) (f2 q2 (6 : Int64))) = (0 : Int32)
            · obtain ⟨fs, hr, hrun, hended, hW, hsame⟩ := X16.leave (v := some (.int (0 : Int32))) (fun h => by rw [Bd.returns] at h; cases h)
              refine ⟨_, _, pre36 _ ?_, hrun, hended, _, _, rfl, ?_, ⟨_, rfl⟩, hW, hsame.mono (by decide) (by decide)⟩
              · show Steps p.tables e below (T16.setTop (mkF m 106 #[.val (.long q1), .second, .val (.long q2), .second, .val (.long q3), .second, .val (.long q4), .second, .val (.int (f1 q1 q2)), .val (.int (f1 (15 : Int64) (6 : Int64))), .val (.int (f1 (16 : Int64) q2)), .val (.int (f1 q1 (7 : Int64))), .val (.int (f1 (f2 q1 (15 : Int64)) (f2 q2 (6 : Int64)))), .val (.int (f1 (f2 q1 q3) (f2 q2 q4))), .val (.int (0 : Int32))] [(.int (f1 (f2 q1 (15 : Int64)) (f2 q2 (6 : Int64))))])) _
                refine XS.ifYes X16.here hx rfl (pc0 := 106) (pc' := 118) rfl (hb hby at_106) rfl ((if0 _ _).trans (teq hc35).1) (by decide) (by decide) ?_
                show Steps p.tables e below (T16.setTop (mkF m 118 #[.val (.long q1), .second, .val (.long q2), .second, .val (.long q3), .second, .val (.long q4), .second, .val (.int (f1 q1 q2)), .val (.int (f1 (15 : Int64) (6 : Int64))), .val (.int (f1 (16 : Int64) q2)), .val (.int (f1 q1 (7 : Int64))), .val (.int (f1 (f2 q1 (15 : Int64)) (f2 q2 (6 : Int64)))), .val (.int (f1 (f2 q1 q3) (f2 q2 q4))), .val (.int (0 : Int32))] [])) _
                refine XS.iconst X16.here hx rfl (hb hby at_118) ?_
                show Steps p.tables e below (T16.setTop (mkF m 119 #[.val (.long q1), .second, .val (.long q2), .second, .val (.long q3), .second, .val (.long q4), .second, .val (.int (f1 q1 q2)), .val (.int (f1 (15 : Int64) (6 : Int64))), .val (.int (f1 (16 : Int64) q2)), .val (.int (f1 q1 (7 : Int64))), .val (.int (f1 (f2 q1 (15 : Int64)) (f2 q2 (6 : Int64)))), .val (.int (f1 (f2 q1 q3) (f2 q2 q4))), .val (.int (0 : Int32))] [(.int (0 : Int32))])) _
                exact retN X16 hx (t := .boolean) Bd.returns (by simp) (hb hby at_119) hr
              · show QP _ h0 n0 _ T16.heap _
                rw [e16, show f0 q1 q2 q3 q4 = (0 : Int32) from by unfold f0; rw [if_neg hc17, if_pos hc27, if_neg hc29, if_pos hc31, if_pos hc33, if_pos hc35]]
                exact ⟨rfl, N16, rfl⟩
            · obtain ⟨fs, hr, hrun, hended, hW, hsame⟩ := X16.leave (v := some (.int (0 : Int32))) (fun h => by rw [Bd.returns] at h; cases h)
              refine ⟨_, _, pre36 _ ?_, hrun, hended, _, _, rfl, ?_, ⟨_, rfl⟩, hW, hsame.mono (by decide) (by decide)⟩
              · show Steps p.tables e below (T16.setTop (mkF m 106 #[.val (.long q1), .second, .val (.long q2), .second, .val (.long q3), .second, .val (.long q4), .second, .val (.int (f1 q1 q2)), .val (.int (f1 (15 : Int64) (6 : Int64))), .val (.int (f1 (16 : Int64) q2)), .val (.int (f1 q1 (7 : Int64))), .val (.int (f1 (f2 q1 (15 : Int64)) (f2 q2 (6 : Int64)))), .val (.int (f1 (f2 q1 q3) (f2 q2 q4))), .val (.int (0 : Int32))] [(.int (f1 (f2 q1 (15 : Int64)) (f2 q2 (6 : Int64))))])) _
                refine XS.ifNo X16.here hx rfl (hb hby at_106) rfl ((if0 _ _).trans (feq hc35).1) ?_
                show Steps p.tables e below (T16.setTop (mkF m 109 #[.val (.long q1), .second, .val (.long q2), .second, .val (.long q3), .second, .val (.long q4), .second, .val (.int (f1 q1 q2)), .val (.int (f1 (15 : Int64) (6 : Int64))), .val (.int (f1 (16 : Int64) q2)), .val (.int (f1 q1 (7 : Int64))), .val (.int (f1 (f2 q1 (15 : Int64)) (f2 q2 (6 : Int64)))), .val (.int (f1 (f2 q1 q3) (f2 q2 q4))), .val (.int (0 : Int32))] [])) _
                refine XS.iload X16.here hx rfl (hb hby at_109) rfl ?_
                show Steps p.tables e below (T16.setTop (mkF m 111 #[.val (.long q1), .second, .val (.long q2), .second, .val (.long q3), .second, .val (.long q4), .second, .val (.int (f1 q1 q2)), .val (.int (f1 (15 : Int64) (6 : Int64))), .val (.int (f1 (16 : Int64) q2)), .val (.int (f1 q1 (7 : Int64))), .val (.int (f1 (f2 q1 (15 : Int64)) (f2 q2 (6 : Int64)))), .val (.int (f1 (f2 q1 q3) (f2 q2 q4))), .val (.int (0 : Int32))] [(.int (0 : Int32))])) _
                refine XS.ifYes X16.here hx rfl (pc0 := 111) (pc' := 118) rfl (hb hby at_111) rfl ((if0 _ _).trans (teq rfl).1) (by decide) (by decide) ?_
                show Steps p.tables e below (T16.setTop (mkF m 118 #[.val (.long q1), .second, .val (.long q2), .second, .val (.long q3), .second, .val (.long q4), .second, .val (.int (f1 q1 q2)), .val (.int (f1 (15 : Int64) (6 : Int64))), .val (.int (f1 (16 : Int64) q2)), .val (.int (f1 q1 (7 : Int64))), .val (.int (f1 (f2 q1 (15 : Int64)) (f2 q2 (6 : Int64)))), .val (.int (f1 (f2 q1 q3) (f2 q2 q4))), .val (.int (0 : Int32))] [])) _
                refine XS.iconst X16.here hx rfl (hb hby at_118) ?_
                show Steps p.tables e below (T16.setTop (mkF m 119 #[.val (.long q1), .second, .val (.long q2), .second, .val (.long q3), .second, .val (.long q4), .second, .val (.int (f1 q1 q2)), .val (.int (f1 (15 : Int64) (6 : Int64))), .val (.int (f1 (16 : Int64) q2)), .val (.int (f1 q1 (7 : Int64))), .val (.int (f1 (f2 q1 (15 : Int64)) (f2 q2 (6 : Int64)))), .val (.int (f1 (f2 q1 q3) (f2 q2 q4))), .val (.int (0 : Int32))] [(.int (0 : Int32))])) _
                exact retN X16 hx (t := .boolean) Bd.returns (by simp) (hb hby at_119) hr
              · show QP _ h0 n0 _ T16.heap _
                rw [e16, show f0 q1 q2 q3 q4 = (0 : Int32) from by unfold f0; rw [if_neg hc17, if_pos hc27, if_neg hc29, if_pos hc31, if_pos hc33, if_neg hc35]]
                exact ⟨rfl, N16, rfl⟩
          · obtain ⟨fs, hr, hrun, hended, hW, hsame⟩ := X16.leave (v := some (.int (0 : Int32))) (fun h => by rw [Bd.returns] at h; cases h)
            refine ⟨_, _, pre34 _ ?_, hrun, hended, _, _, rfl, ?_, ⟨_, rfl⟩, hW, hsame.mono (by decide) (by decide)⟩
            · show Steps p.tables e below (T16.setTop (mkF m 101 #[.val (.long q1), .second, .val (.long q2), .second, .val (.long q3), .second, .val (.long q4), .second, .val (.int (f1 q1 q2)), .val (.int (f1 (15 : Int64) (6 : Int64))), .val (.int (f1 (16 : Int64) q2)), .val (.int (f1 q1 (7 : Int64))), .val (.int (f1 (f2 q1 (15 : Int64)) (f2 q2 (6 : Int64)))), .val (.int (f1 (f2 q1 q3) (f2 q2 q4))), .val (.int (0 : Int32))] [(.int (f1 q1 (7 : Int64)))])) _
              refine XS.ifYes X16.here hx rfl (pc0 := 101) (pc' := 118) rfl (hb hby at_101) rfl ((if0 _ _).trans (feq hc33).2) (by decide) (by decide) ?_
              show Steps p.tables e below (T16.setTop (mkF m 118 #[.val (.long q1), .second, .val (.long q2), .second, .val (.long q3), .second, .val (.long q4), .second, .val (.int (f1 q1 q2)), .val (.int (f1 (15 : Int64) (6 : Int64))), .val (.int (f1 (16 : Int64) q2)), .val (.int (f1 q1 (7 : Int64))), .val (.int (f1 (f2 q1 (15 : Int64)) (f2 q2 (6 : Int64)))), .val (.int (f1 (f2 q1 q3) (f2 q2 q4))), .val (.int (0 : Int32))] [])) _
              refine XS.iconst X16.here hx rfl (hb hby at_118) ?_
              show Steps p.tables e below (T16.setTop (mkF m 119 #[.val (.long q1), .second, .val (.long q2), .second, .val (.long q3), .second, .val (.long q4), .second, .val (.int (f1 q1 q2)), .val (.int (f1 (15 : Int64) (6 : Int64))), .val (.int (f1 (16 : Int64) q2)), .val (.int (f1 q1 (7 : Int64))), .val (.int (f1 (f2 q1 (15 : Int64)) (f2 q2 (6 : Int64)))), .val (.int (f1 (f2 q1 q3) (f2 q2 q4))), .val (.int (0 : Int32))] [(.int (0 : Int32))])) _
              exact retN X16 hx (t := .boolean) Bd.returns (by simp) (hb hby at_119) hr
            · show QP _ h0 n0 _ T16.heap _
              rw [e16, show f0 q1 q2 q3 q4 = (0 : Int32) from by unfold f0; rw [if_neg hc17, if_pos hc27, if_neg hc29, if_pos hc31, if_neg hc33]]
              exact ⟨rfl, N16, rfl⟩
        · obtain ⟨fs, hr, hrun, hended, hW, hsame⟩ := X16.leave (v := some (.int (0 : Int32))) (fun h => by rw [Bd.returns] at h; cases h)
          refine ⟨_, _, pre32 _ ?_, hrun, hended, _, _, rfl, ?_, ⟨_, rfl⟩, hW, hsame.mono (by decide) (by decide)⟩
          · show Steps p.tables e below (T16.setTop (mkF m 96 #[.val (.long q1), .second, .val (.long q2), .second, .val (.long q3), .second, .val (.long q4), .second, .val (.int (f1 q1 q2)), .val (.int (f1 (15 : Int64) (6 : Int64))), .val (.int (f1 (16 : Int64) q2)), .val (.int (f1 q1 (7 : Int64))), .val (.int (f1 (f2 q1 (15 : Int64)) (f2 q2 (6 : Int64)))), .val (.int (f1 (f2 q1 q3) (f2 q2 q4))), .val (.int (0 : Int32))] [(.int (f1 (16 : Int64) q2))])) _
            refine XS.ifYes X16.here hx rfl (pc0 := 96) (pc' := 118) rfl (hb hby at_96) rfl ((if0 _ _).trans (feq hc31).2) (by decide) (by decide) ?_
            show Steps p.tables e below (T16.setTop (mkF m 118 #[.val (.long q1), .second, .val (.long q2), .second, .val (.long q3), .second, .val (.long q4), .second, .val (.int (f1 q1 q2)), .val (.int (f1 (15 : Int64) (6 : Int64))), .val (.int (f1 (16 : Int64) q2)), .val (.int (f1 q1 (7 : Int64))), .val (.int (f1 (f2 q1 (15 : Int64)) (f2 q2 (6 : Int64)))), .val (.int (f1 (f2 q1 q3) (f2 q2 q4))), .val (.int (0 : Int32))] [])) _
            refine XS.iconst X16.here hx rfl (hb hby at_118) ?_
            show Steps p.tables e below (T16.setTop (mkF m 119 #[.val (.long q1), .second, .val (.long q2), .second, .val (.long q3), .second, .val (.long q4), .second, .val (.int (f1 q1 q2)), .val (.int (f1 (15 : Int64) (6 : Int64))), .val (.int (f1 (16 : Int64) q2)), .val (.int (f1 q1 (7 : Int64))), .val (.int (f1 (f2 q1 (15 : Int64)) (f2 q2 (6 : Int64)))), .val (.int (f1 (f2 q1 q3) (f2 q2 q4))), .val (.int (0 : Int32))] [(.int (0 : Int32))])) _
            exact retN X16 hx (t := .boolean) Bd.returns (by simp) (hb hby at_119) hr
          · show QP _ h0 n0 _ T16.heap _
            rw [e16, show f0 q1 q2 q3 q4 = (0 : Int32) from by unfold f0; rw [if_neg hc17, if_pos hc27, if_neg hc29, if_neg hc31]]
            exact ⟨rfl, N16, rfl⟩
    · have pre38 : ∀ t, Steps p.tables e below (T16.setTop (mkF m 91 #[.val (.long q1), .second, .val (.long q2), .second, .val (.long q3), .second, .val (.long q4), .second, .val (.int (f1 q1 q2)), .val (.int (f1 (15 : Int64) (6 : Int64))), .val (.int (f1 (16 : Int64) q2)), .val (.int (f1 q1 (7 : Int64))), .val (.int (f1 (f2 q1 (15 : Int64)) (f2 q2 (6 : Int64)))), .val (.int (f1 (f2 q1 q3) (f2 q2 q4))), .val (.int (1 : Int32))] [(.int (f1 (15 : Int64) (6 : Int64)))])) t → Steps p.tables e below (s₁.setTop (entryFrame m #[(.long q1), (.long q2), (.long q3), (.long q4)] maxLocals)) t := fun t k => by
        refine pre28 _ ?_
        show Steps p.tables e below (T16.setTop (mkF m 79 #[.val (.long q1), .second, .val (.long q2), .second, .val (.long q3), .second, .val (.long q4), .second, .val (.int (f1 q1 q2)), .val (.int (f1 (15 : Int64) (6 : Int64))), .val (.int (f1 (16 : Int64) q2)), .val (.int (f1 q1 (7 : Int64))), .val (.int (f1 (f2 q1 (15 : Int64)) (f2 q2 (6 : Int64)))), .val (.int (f1 (f2 q1 q3) (f2 q2 q4))), .unset] [(.int (f1 (f2 q1 q3) (f2 q2 q4)))])) _
        refine XS.ifNo X16.here hx rfl (hb hby at_79) rfl ((if0 _ _).trans (feq hc27).1) ?_
        show Steps p.tables e below (T16.setTop (mkF m 82 #[.val (.long q1), .second, .val (.long q2), .second, .val (.long q3), .second, .val (.long q4), .second, .val (.int (f1 q1 q2)), .val (.int (f1 (15 : Int64) (6 : Int64))), .val (.int (f1 (16 : Int64) q2)), .val (.int (f1 q1 (7 : Int64))), .val (.int (f1 (f2 q1 (15 : Int64)) (f2 q2 (6 : Int64)))), .val (.int (f1 (f2 q1 q3) (f2 q2 q4))), .unset] [])) _
        refine XS.iconst X16.here hx rfl (hb hby at_82) ?_
        show Steps p.tables e below (T16.setTop (mkF m 83 #[.val (.long q1), .second, .val (.long q2), .second, .val (.long q3), .second, .val (.long q4), .second, .val (.int (f1 q1 q2)), .val (.int (f1 (15 : Int64) (6 : Int64))), .val (.int (f1 (16 : Int64) q2)), .val (.int (f1 q1 (7 : Int64))), .val (.int (f1 (f2 q1 (15 : Int64)) (f2 q2 (6 : Int64)))), .val (.int (f1 (f2 q1 q3) (f2 q2 q4))), .unset] [(.int (1 : Int32))])) _
        refine XS.goto X16.here hx rfl (pc0 := 83) (pc' := 87) rfl (hb hby at_83) (by decide) (by decide) ?_
        show Steps p.tables e below (T16.setTop (mkF m 87 #[.val (.long q1), .second, .val (.long q2), .second, .val (.long q3), .second, .val (.long q4), .second, .val (.int (f1 q1 q2)), .val (.int (f1 (15 : Int64) (6 : Int64))), .val (.int (f1 (16 : Int64) q2)), .val (.int (f1 q1 (7 : Int64))), .val (.int (f1 (f2 q1 (15 : Int64)) (f2 q2 (6 : Int64)))), .val (.int (f1 (f2 q1 q3) (f2 q2 q4))), .unset] [(.int (1 : Int32))])) _
        refine XS.istore X16.here hx rfl (hb hby at_87) rfl (l' := #[.val (.long q1), .second, .val (.long q2), .second, .val (.long q3), .second, .val (.long q4), .second, .val (.int (f1 q1 q2)), .val (.int (f1 (15 : Int64) (6 : Int64))), .val (.int (f1 (16 : Int64) q2)), .val (.int (f1 q1 (7 : Int64))), .val (.int (f1 (f2 q1 (15 : Int64)) (f2 q2 (6 : Int64)))), .val (.int (f1 (f2 q1 q3) (f2 q2 q4))), .val (.int (1 : Int32))]) rfl ?_
        show Steps p.tables e below (T16.setTop (mkF m 89 #[.val (.long q1), .second, .val (.long q2), .second, .val (.long q3), .second, .val (.long q4), .second, .val (.int (f1 q1 q2)), .val (.int (f1 (15 : Int64) (6 : Int64))), .val (.int (f1 (16 : Int64) q2)), .val (.int (f1 q1 (7 : Int64))), .val (.int (f1 (f2 q1 (15 : Int64)) (f2 q2 (6 : Int64)))), .val (.int (f1 (f2 q1 q3) (f2 q2 q4))), .val (.int (1 : Int32))] [])) _
        refine XS.iload X16.here hx rfl (hb hby at_89) rfl ?_
        exact k
      by_cases hc37 : (f1 (15 : Int64) (6 : Int64)) = (0 : Int32)
      · obtain ⟨fs, hr, hrun, hended, hW, hsame⟩ := X16.leave (v := some (.int (0 : Int32))) (fun h => by rw [Bd.returns] at h; cases h)
        refine ⟨_, _, pre38 _ ?_, hrun, hended, _, _, rfl, ?_, ⟨_, rfl⟩, hW, hsame.mono (by decide) (by decide)⟩
        · show Steps p.tables e below (T16.setTop (mkF m 91 #[.val (.long q1), .second, .val (.long q2), .second, .val (.long q3), .second, .val (.long q4), .second, .val (.int (f1 q1 q2)), .val (.int (f1 (15 : Int64) (6 : Int64))), .val (.int (f1 (16 : Int64) q2)), .val (.int (f1 q1 (7 : Int64))), .val (.int (f1 (f2 q1 (15 : Int64)) (f2 q2 (6 : Int64)))), .val (.int (f1 (f2 q1 q3) (f2 q2 q4))), .val (.int (1 : Int32))] [(.int (f1 (15 : Int64) (6 : Int64)))])) _
          refine XS.ifYes X16.here hx rfl (pc0 := 91) (pc' := 118) rfl (hb hby at_91) rfl ((if0 _ _).trans (teq hc37).1) (by decide) (by decide) ?_
          show Steps p.tables e below (T16.setTop (mkF m 118 #[.val (.long q1), .second, .val (.long q2), .second, .val (.long q3), .second, .val (.long q4), .second, .val (.int (f1 q1 q2)), .val (.int (f1 (15 : Int64) (6 : Int64))), .val (.int (f1 (16 : Int64) q2)), .val (.int (f1 q1 (7 : Int64))), .val (.int (f1 (f2 q1 (15 : Int64)) (f2 q2 (6 : Int64)))), .val (.int (f1 (f2 q1 q3) (f2 q2 q4))), .val (.int (1 : Int32))] [])) _
          refine XS.iconst X16.here hx rfl (hb hby at_118) ?_
          show Steps p.tables e below (T16.setTop (mkF m 119 #[.val (.long q1), .second, .val (.long q2), .second, .val (.long q3), .second, .val (.long q4), .second, .val (.int (f1 q1 q2)), .val (.int (f1 (15 : Int64) (6 : Int64))), .val (.int (f1 (16 : Int64) q2)), .val (.int (f1 q1 (7 : Int64))), .val (.int (f1 (f2 q1 (15 : Int64)) (f2 q2 (6 : Int64)))), .val (.int (f1 (f2 q1 q3) (f2 q2 q4))), .val (.int (1 : Int32))] [(.int (0 : Int32))])) _
          exact retN X16 hx (t := .boolean) Bd.returns (by simp) (hb hby at_119) hr
        · show QP _ h0 n0 _ T16.heap _
          rw [e16, show f0 q1 q2 q3 q4 = (0 : Int32) from by unfold f0; rw [if_neg hc17, if_neg hc27, if_pos hc37]]
          exact ⟨rfl, N16, rfl⟩
      · have pre40 : ∀ t, Steps p.tables e below (T16.setTop (mkF m 96 #[.val (.long q1), .second, .val (.long q2), .second, .val (.long q3), .second, .val (.long q4), .second, .val (.int (f1 q1 q2)), .val (.int (f1 (15 : Int64) (6 : Int64))), .val (.int (f1 (16 : Int64) q2)), .val (.int (f1 q1 (7 : Int64))), .val (.int (f1 (f2 q1 (15 : Int64)) (f2 q2 (6 : Int64)))), .val (.int (f1 (f2 q1 q3) (f2 q2 q4))), .val (.int (1 : Int32))] [(.int (f1 (16 : Int64) q2))])) t → Steps p.tables e below (s₁.setTop (entryFrame m #[(.long q1), (.long q2), (.long q3), (.long q4)] maxLocals)) t := fun t k => by
          refine pre38 _ ?_
          show Steps p.tables e below (T16.setTop (mkF m 91 #[.val (.long q1), .second, .val (.long q2), .second, .val (.long q3), .second, .val (.long q4), .second, .val (.int (f1 q1 q2)), .val (.int (f1 (15 : Int64) (6 : Int64))), .val (.int (f1 (16 : Int64) q2)), .val (.int (f1 q1 (7 : Int64))), .val (.int (f1 (f2 q1 (15 : Int64)) (f2 q2 (6 : Int64)))), .val (.int (f1 (f2 q1 q3) (f2 q2 q4))), .val (.int (1 : Int32))] [(.int (f1 (15 : Int64) (6 : Int64)))])) _
          refine XS.ifNo X16.here hx rfl (hb hby at_91) rfl ((if0 _ _).trans (feq hc37).1) ?_
          show Steps p.tables e below (T16.setTop (mkF m 94 #[.val (.long q1), .second, .val (.long q2), .second, .val (.long q3), .second, .val (.long q4), .second, .val (.int (f1 q1 q2)), .val (.int (f1 (15 : Int64) (6 : Int64))), .val (.int (f1 (16 : Int64) q2)), .val (.int (f1 q1 (7 : Int64))), .val (.int (f1 (f2 q1 (15 : Int64)) (f2 q2 (6 : Int64)))), .val (.int (f1 (f2 q1 q3) (f2 q2 q4))), .val (.int (1 : Int32))] [])) _
          refine XS.iload X16.here hx rfl (hb hby at_94) rfl ?_
          exact k
        by_cases hc39 : (f1 (16 : Int64) q2) = (0 : Int32)
        · have pre42 : ∀ t, Steps p.tables e below (T16.setTop (mkF m 101 #[.val (.long q1), .second, .val (.long q2), .second, .val (.long q3), .second, .val (.long q4), .second, .val (.int (f1 q1 q2)), .val (.int (f1 (15 : Int64) (6 : Int64))), .val (.int (f1 (16 : Int64) q2)), .val (.int (f1 q1 (7 : Int64))), .val (.int (f1 (f2 q1 (15 : Int64)) (f2 q2 (6 : Int64)))), .val (.int (f1 (f2 q1 q3) (f2 q2 q4))), .val (.int (1 : Int32))] [(.int (f1 q1 (7 : Int64)))])) t → Steps p.tables e below (s₁.setTop (entryFrame m #[(.long q1), (.long q2), (.long q3), (.long q4)] maxLocals)) t := fun t k => by
            refine pre40 _ ?_
            show Steps p.tables e below (T16.setTop (mkF m 96 #[.val (.long q1), .second, .val (.long q2), .second, .val (.long q3), .second, .val (.long q4), .second, .val (.int (f1 q1 q2)), .val (.int (f1 (15 : Int64) (6 : Int64))), .val (.int (f1 (16 : Int64) q2)), .val (.int (f1 q1 (7 : Int64))), .val (.int (f1 (f2 q1 (15 : Int64)) (f2 q2 (6 : Int64)))), .val (.int (f1 (f2 q1 q3) (f2 q2 q4))), .val (.int (1 : Int32))] [(.int (f1 (16 : Int64) q2))])) _
            refine XS.ifNo X16.here hx rfl (hb hby at_96) rfl ((if0 _ _).trans (teq hc39).2) ?_
            show Steps p.tables e below (T16.setTop (mkF m 99 #[.val (.long q1), .second, .val (.long q2), .second, .val (.long q3), .second, .val (.long q4), .second, .val (.int (f1 q1 q2)), .val (.int (f1 (15 : Int64) (6 : Int64))), .val (.int (f1 (16 : Int64) q2)), .val (.int (f1 q1 (7 : Int64))), .val (.int (f1 (f2 q1 (15 : Int64)) (f2 q2 (6 : Int64)))), .val (.int (f1 (f2 q1 q3) (f2 q2 q4))), .val (.int (1 : Int32))] [])) _
            refine XS.iload X16.here hx rfl (hb hby at_99) rfl ?_
            exact k
          by_cases hc41 : (f1 q1 (7 : Int64)) = (0 : Int32)
          · have pre44 : ∀ t, Steps p.tables e below (T16.setTop (mkF m 106 #[.val (.long q1), .second, .val (.long q2), .second, .val (.long q3), .second, .val (.long q4), .second, .val (.int (f1 q1 q2)), .val (.int (f1 (15 : Int64) (6 : Int64))), .val (.int (f1 (16 : Int64) q2)), .val (.int (f1 q1 (7 : Int64))), .val (.int (f1 (f2 q1 (15 : Int64)) (f2 q2 (6 : Int64)))), .val (.int (f1 (f2 q1 q3) (f2 q2 q4))), .val (.int (1 : Int32))] [(.int (f1 (f2 q1 (15 : Int64)) (f2 q2 (6 : Int64))))])) t → Steps p.tables e below (s₁.setTop (entryFrame m #[(.long q1), (.long q2), (.long q3), (.long q4)] maxLocals)) t := fun t k => by
              refine pre42 _ ?_
              show Steps p.tables e below (T16.setTop (mkF m 101 #[.val (.long q1), .second, .val (.long q2), .second, .val (.long q3), .second, .val (.long q4), .second, .val (.int (f1 q1 q2)), .val (.int (f1 (15 : Int64) (6 : Int64))), .val (.int (f1 (16 : Int64) q2)), .val (.int (f1 q1 (7 : Int64))), .val (.int (f1 (f2 q1 (15 : Int64)) (f2 q2 (6 : Int64)))), .val (.int (f1 (f2 q1 q3) (f2 q2 q4))), .val (.int (1 : Int32))] [(.int (f1 q1 (7 : Int64)))])) _
              refine XS.ifNo X16.here hx rfl (hb hby at_101) rfl ((if0 _ _).trans (teq hc41).2) ?_
              show Steps p.tables e below (T16.setTop (mkF m 104 #[.val (.long q1), .second, .val (.long q2), .second, .val (.long q3), .second, .val (.long q4), .second, .val (.int (f1 q1 q2)), .val (.int (f1 (15 : Int64) (6 : Int64))), .val (.int (f1 (16 : Int64) q2)), .val (.int (f1 q1 (7 : Int64))), .val (.int (f1 (f2 q1 (15 : Int64)) (f2 q2 (6 : Int64)))), .val (.int (f1 (f2 q1 q3) (f2 q2 q4))), .val (.int (1 : Int32))] [])) _
              refine XS.iload X16.here hx rfl (hb hby at_104) rfl ?_
              exact k
            by_cases hc43 : (f1 (f2 q1 (15 : Int64)) (f2 q2 (6 : Int64))) = (0 : Int32)
            · obtain ⟨fs, hr, hrun, hended, hW, hsame⟩ := X16.leave (v := some (.int (0 : Int32))) (fun h => by rw [Bd.returns] at h; cases h)
              refine ⟨_, _, pre44 _ ?_, hrun, hended, _, _, rfl, ?_, ⟨_, rfl⟩, hW, hsame.mono (by decide) (by decide)⟩
              · show Steps p.tables e below (T16.setTop (mkF m 106 #[.val (.long q1), .second, .val (.long q2), .second, .val (.long q3), .second, .val (.long q4), .second, .val (.int (f1 q1 q2)), .val (.int (f1 (15 : Int64) (6 : Int64))), .val (.int (f1 (16 : Int64) q2)), .val (.int (f1 q1 (7 : Int64))), .val (.int (f1 (f2 q1 (15 : Int64)) (f2 q2 (6 : Int64)))), .val (.int (f1 (f2 q1 q3) (f2 q2 q4))), .val (.int (1 : Int32))] [(.int (f1 (f2 q1 (15 : Int64)) (f2 q2 (6 : Int64))))])) _
                refine XS.ifYes X16.here hx rfl (pc0 := 106) (pc' := 118) rfl (hb hby at_106) rfl ((if0 _ _).trans (teq hc43).1) (by decide) (by decide) ?_
                show Steps p.tables e below (T16.setTop (mkF m 118 #[.val (.long q1), .second, .val (.long q2), .second, .val (.long q3), .second, .val (.long q4), .second, .val (.int (f1 q1 q2)), .val (.int (f1 (15 : Int64) (6 : Int64))), .val (.int (f1 (16 : Int64) q2)), .val (.int (f1 q1 (7 : Int64))), .val (.int (f1 (f2 q1 (15 : Int64)) (f2 q2 (6 : Int64)))), .val (.int (f1 (f2 q1 q3) (f2 q2 q4))), .val (.int (1 : Int32))] [])) _
                refine XS.iconst X16.here hx rfl (hb hby at_118) ?_
                show Steps p.tables e below (T16.setTop (mkF m 119 #[.val (.long q1), .second, .val (.long q2), .second, .val (.long q3), .second, .val (.long q4), .second, .val (.int (f1 q1 q2)), .val (.int (f1 (15 : Int64) (6 : Int64))), .val (.int (f1 (16 : Int64) q2)), .val (.int (f1 q1 (7 : Int64))), .val (.int (f1 (f2 q1 (15 : Int64)) (f2 q2 (6 : Int64)))), .val (.int (f1 (f2 q1 q3) (f2 q2 q4))), .val (.int (1 : Int32))] [(.int (0 : Int32))])) _
                exact retN X16 hx (t := .boolean) Bd.returns (by simp) (hb hby at_119) hr
              · show QP _ h0 n0 _ T16.heap _
                rw [e16, show f0 q1 q2 q3 q4 = (0 : Int32) from by unfold f0; rw [if_neg hc17, if_neg hc27, if_neg hc37, if_pos hc39, if_pos hc41, if_pos hc43]]
                exact ⟨rfl, N16, rfl⟩
            · obtain ⟨fs, hr, hrun, hended, hW, hsame⟩ := X16.leave (v := some (.int (1 : Int32))) (fun h => by rw [Bd.returns] at h; cases h)
              refine ⟨_, _, pre44 _ ?_, hrun, hended, _, _, rfl, ?_, ⟨_, rfl⟩, hW, hsame.mono (by decide) (by decide)⟩
              · show Steps p.tables e below (T16.setTop (mkF m 106 #[.val (.long q1), .second, .val (.long q2), .second, .val (.long q3), .second, .val (.long q4), .second, .val (.int (f1 q1 q2)), .val (.int (f1 (15 : Int64) (6 : Int64))), .val (.int (f1 (16 : Int64) q2)), .val (.int (f1 q1 (7 : Int64))), .val (.int (f1 (f2 q1 (15 : Int64)) (f2 q2 (6 : Int64)))), .val (.int (f1 (f2 q1 q3) (f2 q2 q4))), .val (.int (1 : Int32))] [(.int (f1 (f2 q1 (15 : Int64)) (f2 q2 (6 : Int64))))])) _
                refine XS.ifNo X16.here hx rfl (hb hby at_106) rfl ((if0 _ _).trans (feq hc43).1) ?_
                show Steps p.tables e below (T16.setTop (mkF m 109 #[.val (.long q1), .second, .val (.long q2), .second, .val (.long q3), .second, .val (.long q4), .second, .val (.int (f1 q1 q2)), .val (.int (f1 (15 : Int64) (6 : Int64))), .val (.int (f1 (16 : Int64) q2)), .val (.int (f1 q1 (7 : Int64))), .val (.int (f1 (f2 q1 (15 : Int64)) (f2 q2 (6 : Int64)))), .val (.int (f1 (f2 q1 q3) (f2 q2 q4))), .val (.int (1 : Int32))] [])) _
                refine XS.iload X16.here hx rfl (hb hby at_109) rfl ?_
                show Steps p.tables e below (T16.setTop (mkF m 111 #[.val (.long q1), .second, .val (.long q2), .second, .val (.long q3), .second, .val (.long q4), .second, .val (.int (f1 q1 q2)), .val (.int (f1 (15 : Int64) (6 : Int64))), .val (.int (f1 (16 : Int64) q2)), .val (.int (f1 q1 (7 : Int64))), .val (.int (f1 (f2 q1 (15 : Int64)) (f2 q2 (6 : Int64)))), .val (.int (f1 (f2 q1 q3) (f2 q2 q4))), .val (.int (1 : Int32))] [(.int (1 : Int32))])) _
                refine XS.ifNo X16.here hx rfl (hb hby at_111) rfl ((if0 _ _).trans (feq (by decide)).1) ?_
                show Steps p.tables e below (T16.setTop (mkF m 114 #[.val (.long q1), .second, .val (.long q2), .second, .val (.long q3), .second, .val (.long q4), .second, .val (.int (f1 q1 q2)), .val (.int (f1 (15 : Int64) (6 : Int64))), .val (.int (f1 (16 : Int64) q2)), .val (.int (f1 q1 (7 : Int64))), .val (.int (f1 (f2 q1 (15 : Int64)) (f2 q2 (6 : Int64)))), .val (.int (f1 (f2 q1 q3) (f2 q2 q4))), .val (.int (1 : Int32))] [])) _
                refine XS.iconst X16.here hx rfl (hb hby at_114) ?_
                show Steps p.tables e below (T16.setTop (mkF m 115 #[.val (.long q1), .second, .val (.long q2), .second, .val (.long q3), .second, .val (.long q4), .second, .val (.int (f1 q1 q2)), .val (.int (f1 (15 : Int64) (6 : Int64))), .val (.int (f1 (16 : Int64) q2)), .val (.int (f1 q1 (7 : Int64))), .val (.int (f1 (f2 q1 (15 : Int64)) (f2 q2 (6 : Int64)))), .val (.int (f1 (f2 q1 q3) (f2 q2 q4))), .val (.int (1 : Int32))] [(.int (1 : Int32))])) _
                refine XS.goto X16.here hx rfl (pc0 := 115) (pc' := 119) rfl (hb hby at_115) (by decide) (by decide) ?_
                show Steps p.tables e below (T16.setTop (mkF m 119 #[.val (.long q1), .second, .val (.long q2), .second, .val (.long q3), .second, .val (.long q4), .second, .val (.int (f1 q1 q2)), .val (.int (f1 (15 : Int64) (6 : Int64))), .val (.int (f1 (16 : Int64) q2)), .val (.int (f1 q1 (7 : Int64))), .val (.int (f1 (f2 q1 (15 : Int64)) (f2 q2 (6 : Int64)))), .val (.int (f1 (f2 q1 q3) (f2 q2 q4))), .val (.int (1 : Int32))] [(.int (1 : Int32))])) _
                exact retN X16 hx (t := .boolean) Bd.returns (by simp) (hb hby at_119) hr
              · show QP _ h0 n0 _ T16.heap _
                rw [e16, show f0 q1 q2 q3 q4 = (1 : Int32) from by unfold f0; rw [if_neg hc17, if_neg hc27, if_neg hc37, if_pos hc39, if_pos hc41, if_neg hc43]]
                exact ⟨rfl, N16, rfl⟩
          · obtain ⟨fs, hr, hrun, hended, hW, hsame⟩ := X16.leave (v := some (.int (0 : Int32))) (fun h => by rw [Bd.returns] at h; cases h)
            refine ⟨_, _, pre42 _ ?_, hrun, hended, _, _, rfl, ?_, ⟨_, rfl⟩, hW, hsame.mono (by decide) (by decide)⟩
            · show Steps p.tables e below (T16.setTop (mkF m 101 #[.val (.long q1), .second, .val (.long q2), .second, .val (.long q3), .second, .val (.long q4), .second, .val (.int (f1 q1 q2)), .val (.int (f1 (15 : Int64) (6 : Int64))), .val (.int (f1 (16 : Int64) q2)), .val (.int (f1 q1 (7 : Int64))), .val (.int (f1 (f2 q1 (15 : Int64)) (f2 q2 (6 : Int64)))), .val (.int (f1 (f2 q1 q3) (f2 q2 q4))), .val (.int (1 : Int32))] [(.int (f1 q1 (7 : Int64)))])) _
              refine XS.ifYes X16.here hx rfl (pc0 := 101) (pc' := 118) rfl (hb hby at_101) rfl ((if0 _ _).trans (feq hc41).2) (by decide) (by decide) ?_
              show Steps p.tables e below (T16.setTop (mkF m 118 #[.val (.long q1), .second, .val (.long q2), .second, .val (.long q3), .second, .val (.long q4), .second, .val (.int (f1 q1 q2)), .val (.int (f1 (15 : Int64) (6 : Int64))), .val (.int (f1 (16 : Int64) q2)), .val (.int (f1 q1 (7 : Int64))), .val (.int (f1 (f2 q1 (15 : Int64)) (f2 q2 (6 : Int64)))), .val (.int (f1 (f2 q1 q3) (f2 q2 q4))), .val (.int (1 : Int32))] [])) _
              refine XS.iconst X16.here hx rfl (hb hby at_118) ?_
              show Steps p.tables e below (T16.setTop (mkF m 119 #[.val (.long q1), .second, .val (.long q2), .second, .val (.long q3), .second, .val (.long q4), .second, .val (.int (f1 q1 q2)), .val (.int (f1 (15 : Int64) (6 : Int64))), .val (.int (f1 (16 : Int64) q2)), .val (.int (f1 q1 (7 : Int64))), .val (.int (f1 (f2 q1 (15 : Int64)) (f2 q2 (6 : Int64)))), .val (.int (f1 (f2 q1 q3) (f2 q2 q4))), .val (.int (1 : Int32))] [(.int (0 : Int32))])) _
              exact retN X16 hx (t := .boolean) Bd.returns (by simp) (hb hby at_119) hr
            · show QP _ h0 n0 _ T16.heap _
              rw [e16, show f0 q1 q2 q3 q4 = (0 : Int32) from by unfold f0; rw [if_neg hc17, if_neg hc27, if_neg hc37, if_pos hc39, if_neg hc41]]
              exact ⟨rfl, N16, rfl⟩
        · obtain ⟨fs, hr, hrun, hended, hW, hsame⟩ := X16.leave (v := some (.int (0 : Int32))) (fun h => by rw [Bd.returns] at h; cases h)
          refine ⟨_, _, pre40 _ ?_, hrun, hended, _, _, rfl, ?_, ⟨_, rfl⟩, hW, hsame.mono (by decide) (by decide)⟩
          · show Steps p.tables e below (T16.setTop (mkF m 96 #[.val (.long q1), .second, .val (.long q2), .second, .val (.long q3), .second, .val (.long q4), .second, .val (.int (f1 q1 q2)), .val (.int (f1 (15 : Int64) (6 : Int64))), .val (.int (f1 (16 : Int64) q2)), .val (.int (f1 q1 (7 : Int64))), .val (.int (f1 (f2 q1 (15 : Int64)) (f2 q2 (6 : Int64)))), .val (.int (f1 (f2 q1 q3) (f2 q2 q4))), .val (.int (1 : Int32))] [(.int (f1 (16 : Int64) q2))])) _
            refine XS.ifYes X16.here hx rfl (pc0 := 96) (pc' := 118) rfl (hb hby at_96) rfl ((if0 _ _).trans (feq hc39).2) (by decide) (by decide) ?_
            show Steps p.tables e below (T16.setTop (mkF m 118 #[.val (.long q1), .second, .val (.long q2), .second, .val (.long q3), .second, .val (.long q4), .second, .val (.int (f1 q1 q2)), .val (.int (f1 (15 : Int64) (6 : Int64))), .val (.int (f1 (16 : Int64) q2)), .val (.int (f1 q1 (7 : Int64))), .val (.int (f1 (f2 q1 (15 : Int64)) (f2 q2 (6 : Int64)))), .val (.int (f1 (f2 q1 q3) (f2 q2 q4))), .val (.int (1 : Int32))] [])) _
            refine XS.iconst X16.here hx rfl (hb hby at_118) ?_
            show Steps p.tables e below (T16.setTop (mkF m 119 #[.val (.long q1), .second, .val (.long q2), .second, .val (.long q3), .second, .val (.long q4), .second, .val (.int (f1 q1 q2)), .val (.int (f1 (15 : Int64) (6 : Int64))), .val (.int (f1 (16 : Int64) q2)), .val (.int (f1 q1 (7 : Int64))), .val (.int (f1 (f2 q1 (15 : Int64)) (f2 q2 (6 : Int64)))), .val (.int (f1 (f2 q1 q3) (f2 q2 q4))), .val (.int (1 : Int32))] [(.int (0 : Int32))])) _
            exact retN X16 hx (t := .boolean) Bd.returns (by simp) (hb hby at_119) hr
          · show QP _ h0 n0 _ T16.heap _
            rw [e16, show f0 q1 q2 q3 q4 = (0 : Int32) from by unfold f0; rw [if_neg hc17, if_neg hc27, if_neg hc37, if_neg hc39]]
            exact ⟨rfl, N16, rfl⟩
theorem own_f1 (a b : Int64) : (f1 a b = 0) = (15 < a ∨ 6 < b) := by
  unfold f1
  by_cases h : (15 : Int64) < a <;> by_cases k : (6 : Int64) < b <;> simp [h, k]
theorem own_f2 (a b c : Int64) : (c < f2 a b) = (c < a ∧ c < b) := by
  unfold f2
  simp only [Int64.lt_iff_toInt_lt, eq_iff_iff]
  split <;> omega
theorem own_law (a b c d : Int64) : f0 a b c d = 1 := by
  simp only [f0, own_f1, own_f2]
  by_cases h1 : (15 : Int64) < a <;> by_cases h2 : (6 : Int64) < b <;> by_cases h3 : (15 : Int64) < c <;> by_cases h4 : (6 : Int64) < d <;> simp [h1, h2, h3, h4]
set_option maxRecDepth 65536 in
set_option maxHeartbeats 40000000 in
theorem comes_1 {Post : Tables → Env → Array Value → State → Outcome → State → Prop} (hpost : ∀ tb e args s v u, (limb_1_1.after args s (.returned v) u = true ∧ limb_1_2.after args s (.returned v) u = true ∧ True) → FrameEnd s (.returned v) u (Jvm.fieldLocs frame_1_writes args s ++ Jvm.arrayLocs frame_1_arrays args s ++ Jvm.staticLocs frame_1_statics s) 0 0 → Post tb e args s (.returned v) u) :
    ArmFor flags0 classFile x code maxLocals ret World_1 tables_1 room_1 Calls_1 rest_1 Pre_1 Post := by
  intro l hfl _ _ p e ha hc hk s m args below hf hA hF happ hP
  obtain ⟨hcalls, hrest, hpre⟩ := hP
  obtain ⟨-, -, -, hnamed, -, -, -, hat⟩ := (Spec.applies_iff hf).mp happ
  obtain ⟨hg, hn⟩ := and_e (Cond.before_iff.mp (show (Jvm.Cond.and given_1 narrow_1).before args s = true from hpre))
  obtain ⟨gc, gr0⟩ := and_e hg
  obtain ⟨g0, gr1⟩ := and_e gr0
  obtain ⟨g1, gr2⟩ := and_e gr1
  obtain ⟨g2, gr3⟩ := and_e gr2
  obtain ⟨w0, w1, w2, w3, rfl⟩ : ∃ w0 w1 w2 w3 : Value, args = #[w0, w1, w2, w3] := by
    have hs : args.size = 4 := by simpa [Cond.value, given_1] using gc
    obtain ⟨L⟩ := args
    match L, hs with
    | [w0, w1, w2, w3], _ => exact ⟨w0, w1, w2, w3, rfl⟩
  have hw := fun d (hd : d ∈ tables_1) => atoms_spec (ws := Jvm.Cond.code x code maxLocals ret :: tables_1) hat d (List.mem_cons_of_mem _ hd)
  have hfit : Fit s := fun {y c} hc i hi => by
    obtain ⟨ha, rfl⟩ := Array.getElem?_eq_some_iff.mp hc
    have q := List.all_eq_true.mp ((Array.all_eq_true_iff_forall_mem.mp hF) _ (Array.getElem_mem ha)) i (List.mem_range.mpr hi)
    simpa [Array.getElem?_eq_getElem hi] using q
  obtain ⟨i0, ei0⟩ := isL_v g0
  obtain rfl : w0 = (.long i0) := Option.some.inj ei0
  obtain ⟨i1, ei1⟩ := isL_v g1
  obtain rfl : w1 = (.long i1) := Option.some.inj ei1
  obtain ⟨i2, ei2⟩ := isL_v g2
  obtain rfl : w2 = (.long i2) := Option.some.inj ei2
  obtain ⟨i3, ei3⟩ := isL_v gr3
  obtain rfl : w3 = (.long i3) := Option.some.inj ei3
  have hone : f0 i0 i1 i2 i3 = 1 := own_law i0 i1 i2 i3
  obtain ⟨n, o, h1, h2, h3, _, L, rfl, ⟨rfl, N, -⟩, hq⟩ := rm0 l s _ hw tables_1 i0 i1 i2 i3 s.heap s.heap.size (Nat.le_refl _)  p e ha hc hk s m _ below hf ((Spec.applies_iff_loose hf).mp happ).1 ⟨rfl, State.Warmed39.refl s, rfl⟩ trivial
  rw [hone] at h3 hq
  refine ⟨n, _, h1, h2, h3, hpost _ _ _ _ _ _ ⟨Cond.after_iff.mpr rfl, Cond.after_iff.mpr (eq_i res_at (Term.int_eval (1)) rfl), trivial⟩ ⟨hq.1, hq.2.1, (hq.2.2.sift fun y hy => Or.inr (N y hy)).mono (by decide) (by decide)⟩⟩
theorem main_1_1 : Claimed_1_1 := comes_1 fun _ _ _ _ _ _ h hF => ⟨h.1, hF⟩
theorem main_1_2 : Claimed_1_2 := comes_1 fun _ _ _ _ _ _ h hF => ⟨h.2.1, hF⟩
end Jvm.Pilot.@@N@@
namespace Jvm.Pilot.@@N@@
open Jvm Jvm.ClassFile Sem Op Lib Jvm.Free Jvm.Stand Jvm.Pilot.@@N@@.Jvm.D
/-! MADE BY PROGRAM (witnessworld.py) out of the Statement's table words and the real class files: 8 classes; the members and pool entries that the words name. The judged class is class 1, her method 1. -/
namespace start1
open Jvm.ClassFile
def u (s : String) : CpInfo := .utf8 (stringToUtf16 s)
/-- a pool by its gaps: so many unusable entries, then the entry; so many at the end -/
def gap : Nat → List CpInfo → List CpInfo
  | 0, r => r
  | n + 1, r => .unusable :: gap n r
def poolList (es : List (Nat × CpInfo)) (last : Nat) : List CpInfo := es.foldr (fun e r => gap e.1 (e.2 :: r)) (gap last [])
def pool (es : List (Nat × CpInfo)) (last : Nat) : Array CpInfo := ⟨poolList es last⟩
def fileOf (pool : Array CpInfo) (this : Nat) (attrs : Array Attribute := #[]) (ms : Array MethodInfo := #[]) (fl : Nat := 33) (sup : Nat := 0) (ifs : Array Nat := #[]) (fds : Array FieldInfo := #[]) : ClassFile where
  minorVersion := 0
  majorVersion := 65
  constantPool := pool
  accessFlags := fl
  thisClass := this
  superClass := sup
  interfaces := ifs
  fields := fds
  methods := ms
  attributes := attrs
def plain (name : String) (sup : Option ClassId) : Class where
  name := name
  kind := .ordinary
  loader := none
  accessFlags := 33
  super := sup
  interfaces := #[]
  cf := none
  fields := #[]
  methods := #[]
  instanceTypes := #[]
  staticTypes := #[]
  resolved := #[]
  callSites := []
  init := .initialized
  statics := none
  mirror := none

def pool0 : Array CpInfo := pool [(5, u "<init>"), (0, u "()V"), (1, .class_ 10), (1, u "java/lang/Object")] 113

def k0m0 : Method := { name := "<init>", desc := "()V", sig := { parameters := [], returnType := none }, accessFlags := 1, code := none }
/-- java/lang/Object -/
def k0 : Class := { plain "java/lang/Object" none with
  accessFlags := 33
  interfaces := #[]
  cf := some (fileOf pool0 8 #[] #[{ accessFlags := 1, nameIndex := 5, descriptorIndex := 6, attributes := #[] }] 33 0 #[] #[])
  fields := #[]
  methods := #[k0m0]
  instanceTypes := #[]
  staticTypes := #[]
  resolved := Array.replicate 124 none
  statics := none }

def pool1 : Array CpInfo := pool [(2, .class_ 4), (1, u "java/lang/Object"), (0, u "<init>"), (0, u "()V"), (0, .methodref 8 9), (0, .class_ 10), (0, .nameAndType 11 12), (0, u "com/example/lendscribe/lendscribe/values/Fields"), (0, u "fitsRatioDigits"), (0, u "(JJ)Z"), (0, .long 15), (1, .long 6), (1, .long 16), (1, .long 7), (1, .methodref 22 23), (0, .class_ 24), (0, .nameAndType 25 26), (0, u "java/lang/Math"), (0, u "min"), (0, u "(JJ)J"), (0, .class_ 28), (0, u "com/example/lendscribe/lendscribe/values/FieldsFitsRatioDigitsPinLaw"), (2, u "law"), (0, u "(JJJJ)Z")] 3

def k1m0 : Method := { name := "<init>", desc := "()V", sig := { parameters := [], returnType := none }, accessFlags := 1, code := none }
def k1c1 : Code := { maxStack := 6, maxLocals := 15, code := code, exceptionTable := #[], attributes := #[] }
def k1m1 : Method := { name := "law", desc := "(JJJJ)Z", sig := { parameters := [.long, .long, .long, .long], returnType := some .boolean }, accessFlags := 9, code := some k1c1 }
/-- com/example/lendscribe/lendscribe/values/FieldsFitsRatioDigitsPinLaw -/
def k1 : Class := { plain "com/example/lendscribe/lendscribe/values/FieldsFitsRatioDigitsPinLaw" (some 0) with
  accessFlags := 49
  interfaces := #[]
  cf := some (fileOf pool1 27 #[] #[{ accessFlags := 1, nameIndex := 5, descriptorIndex := 6, attributes := #[] }, { accessFlags := 9, nameIndex := 31, descriptorIndex := 32, attributes := #[] }] 49 2 #[] #[])
  fields := #[]
  methods := #[k1m0, k1m1]
  instanceTypes := #[]
  staticTypes := #[]
  resolved := Array.replicate 36 none
  statics := none }

def pool2 : Array CpInfo := pool [(1, .class_ 2), (0, u "com/example/lendscribe/lendscribe/values/Fields"), (1, .class_ 6), (1, u "java/lang/Object"), (0, u "<init>"), (0, u "()V"), (104, .long 15), (3, u "RATE_LIMIT"), (0, u "Ljava/math/BigDecimal;"), (9, u "fitsRatioDigits"), (11, u "(JJ)Z"), (0, .long 6), (6, u "WHOLE"), (6, u "MAX_WHOLE_DIGITS"), (0, u "I"), (2, u "AMOUNT"), (0, u "Ljava/lang/String;"), (2, u "RATE_DECIMALS"), (1, u "RATIO_DECIMALS"), (1, u "RATIO_DIGITS"), (2, u "PERCENTAGE_DECIMALS")] 54

def k2m0 : Method := { name := "<init>", desc := "()V", sig := { parameters := [], returnType := none }, accessFlags := 2, code := none }
def k2c1 : Code := { maxStack := 4, maxLocals := 4, code := prog_163_method_17_code, exceptionTable := #[], attributes := #[] }
def k2m1 : Method := { name := "fitsRatioDigits", desc := "(JJ)Z", sig := { parameters := [.long, .long], returnType := some .boolean }, accessFlags := 8, code := some k2c1 }
/-- com/example/lendscribe/lendscribe/values/Fields -/
def k2 : Class := { plain "com/example/lendscribe/lendscribe/values/Fields" (some 0) with
  accessFlags := 33
  interfaces := #[]
  cf := some (fileOf pool2 1 #[] #[{ accessFlags := 2, nameIndex := 7, descriptorIndex := 8, attributes := #[] }, { accessFlags := 8, nameIndex := 128, descriptorIndex := 140, attributes := #[] }] 33 4 #[] #[{ accessFlags := 24, nameIndex := 155, descriptorIndex := 156, attributes := #[] }, { accessFlags := 26, nameIndex := 159, descriptorIndex := 160, attributes := #[] }, { accessFlags := 26, nameIndex := 163, descriptorIndex := 156, attributes := #[] }, { accessFlags := 26, nameIndex := 117, descriptorIndex := 118, attributes := #[] }, { accessFlags := 25, nameIndex := 148, descriptorIndex := 118, attributes := #[] }, { accessFlags := 24, nameIndex := 165, descriptorIndex := 156, attributes := #[] }, { accessFlags := 26, nameIndex := 167, descriptorIndex := 160, attributes := #[] }, { accessFlags := 25, nameIndex := 170, descriptorIndex := 156, attributes := #[] }])
  fields := #[{ name := "MAX_WHOLE_DIGITS", type := .int, accessFlags := 24, slot := 0, constantValue := 0 }, { name := "AMOUNT", type := (.object "java/lang/String"), accessFlags := 26, slot := 1, constantValue := 0 }, { name := "RATE_DECIMALS", type := .int, accessFlags := 26, slot := 2, constantValue := 0 }, { name := "RATE_LIMIT", type := (.object "java/math/BigDecimal"), accessFlags := 26, slot := 3, constantValue := 0 }, { name := "WHOLE", type := (.object "java/math/BigDecimal"), accessFlags := 25, slot := 4, constantValue := 0 }, { name := "RATIO_DECIMALS", type := .int, accessFlags := 24, slot := 5, constantValue := 0 }, { name := "RATIO_DIGITS", type := (.object "java/lang/String"), accessFlags := 26, slot := 6, constantValue := 0 }, { name := "PERCENTAGE_DECIMALS", type := .int, accessFlags := 25, slot := 7, constantValue := 0 }]
  methods := #[k2m0, k2m1]
  instanceTypes := #[]
  staticTypes := #[.int, (.object "java/lang/String"), .int, (.object "java/math/BigDecimal"), (.object "java/math/BigDecimal"), .int, (.object "java/lang/String"), .int]
  resolved := Array.replicate 225 none
  statics := none }

def pool3 : Array CpInfo := pool [(1, .class_ 2), (0, u "java/lang/Math"), (1, .class_ 6), (1, u "java/lang/Object"), (0, u "<init>"), (0, u "()V"), (89, .class_ 100), (1, u "java/lang/Math$RandomNumberGeneratorHolder"), (20, u "(JJ)J"), (50, u "negativeZeroFloatBits"), (0, u "J"), (2, u "negativeZeroDoubleBits"), (24, u "min"), (43, u "$assertionsDisabled"), (0, u "Z"), (91, u "twoToTheDoubleScaleDown"), (0, u "D"), (4, u "twoToTheDoubleScaleUp"), (9, u "E"), (3, u "PI"), (2, u "TAU"), (2, u "DEGREES_TO_RADIANS"), (0, u "RADIANS_TO_DEGREES")] 94

def k3m0 : Method := { name := "<init>", desc := "()V", sig := { parameters := [], returnType := none }, accessFlags := 2, code := none }
def k3c1 : Code := { maxStack := 4, maxLocals := 4, code := jdk_29_method_70_code, exceptionTable := #[], attributes := #[] }
def k3m1 : Method := { name := "min", desc := "(JJ)J", sig := { parameters := [.long, .long], returnType := some .long }, accessFlags := 9, code := some k3c1 }
/-- java/lang/Math -/
def k3 : Class := { plain "java/lang/Math" (some 0) with
  accessFlags := 49
  interfaces := #[]
  cf := some (fileOf pool3 1 #[.nestMembers #[98]] #[{ accessFlags := 2, nameIndex := 7, descriptorIndex := 8, attributes := #[] }, { accessFlags := 9, nameIndex := 201, descriptorIndex := 121, attributes := #[] }] 49 4 #[] #[{ accessFlags := 25, nameIndex := 354, descriptorIndex := 339, attributes := #[] }, { accessFlags := 25, nameIndex := 358, descriptorIndex := 339, attributes := #[] }, { accessFlags := 25, nameIndex := 361, descriptorIndex := 339, attributes := #[] }, { accessFlags := 26, nameIndex := 364, descriptorIndex := 339, attributes := #[] }, { accessFlags := 26, nameIndex := 365, descriptorIndex := 339, attributes := #[] }, { accessFlags := 26, nameIndex := 172, descriptorIndex := 173, attributes := #[] }, { accessFlags := 26, nameIndex := 176, descriptorIndex := 173, attributes := #[] }, { accessFlags := 8, nameIndex := 344, descriptorIndex := 339, attributes := #[] }, { accessFlags := 8, nameIndex := 338, descriptorIndex := 339, attributes := #[] }, { accessFlags := 4120, nameIndex := 245, descriptorIndex := 246, attributes := #[] }])
  fields := #[{ name := "E", type := .double, accessFlags := 25, slot := 0, constantValue := 0 }, { name := "PI", type := .double, accessFlags := 25, slot := 1, constantValue := 0 }, { name := "TAU", type := .double, accessFlags := 25, slot := 2, constantValue := 0 }, { name := "DEGREES_TO_RADIANS", type := .double, accessFlags := 26, slot := 3, constantValue := 0 }, { name := "RADIANS_TO_DEGREES", type := .double, accessFlags := 26, slot := 4, constantValue := 0 }, { name := "negativeZeroFloatBits", type := .long, accessFlags := 26, slot := 5, constantValue := 0 }, { name := "negativeZeroDoubleBits", type := .long, accessFlags := 26, slot := 6, constantValue := 0 }, { name := "twoToTheDoubleScaleUp", type := .double, accessFlags := 8, slot := 7, constantValue := 0 }, { name := "twoToTheDoubleScaleDown", type := .double, accessFlags := 8, slot := 8, constantValue := 0 }, { name := "$assertionsDisabled", type := .boolean, accessFlags := 4120, slot := 9, constantValue := 0 }]
  methods := #[k3m0, k3m1]
  instanceTypes := #[]
  staticTypes := #[.double, .double, .double, .double, .double, .long, .long, .double, .double, .boolean]
  resolved := Array.replicate 460 none
  statics := none }

def pool4 : Array CpInfo := pool [(1, u "java/lang/Cloneable"), (0, .class_ 1), (0, u "java/lang/Object"), (0, .class_ 3)] 3

/-- java/lang/Cloneable -/
def k4 : Class := { plain "java/lang/Cloneable" (some 0) with
  accessFlags := 1537
  interfaces := #[]
  cf := some (fileOf pool4 2 #[] #[] 1537 4 #[] #[])
  fields := #[]
  methods := #[]
  instanceTypes := #[]
  staticTypes := #[]
  resolved := Array.replicate 8 none
  statics := none }

def pool5 : Array CpInfo := pool [(1, u "java/io/Serializable"), (0, .class_ 1), (0, u "java/lang/Object"), (0, .class_ 3)] 3

/-- java/io/Serializable -/
def k5 : Class := { plain "java/io/Serializable" (some 0) with
  accessFlags := 1537
  interfaces := #[]
  cf := some (fileOf pool5 2 #[] #[] 1537 4 #[] #[])
  fields := #[]
  methods := #[]
  instanceTypes := #[]
  staticTypes := #[]
  resolved := Array.replicate 8 none
  statics := none }

/-- the primitive byte -/
def k6 : Class := { plain "byte" none with kind := .primitive 'B', accessFlags := 0x411 }
/-- [B -/
def k7 : Class := { plain "[B" (some 0) with kind := .array 6 .byte, interfaces := #[4, 5], accessFlags := 1041 }

def heap : Heap := #[]
def classes : Array Class := #[k0, k1, k2, k3, k4, k5, k6, k7]
def interned : List (Array UInt16 × Addr) := []
def slotsUsed : Nat := 0
def theMethod : MethodId := ⟨1, 1⟩
def args0 : Array Value := #[.long 5, .long 7, .long 3, .long 9]
def aboutOver (below : List Frame) : State where
  vm := { classes := classes, interned := interned.toArray }
  heap := heap
  slotsUsed := slotsUsed
  threads := #[{ frames := .invoking theMethod args0 :: below }]
def below0 : List Frame := [.native { method := ⟨0, 0⟩, args := #[] }]
def about1 : State := aboutOver below0
def p0 : Program := .bare "" "" ""
def e0 : Env := launch0.env 0 0 0
theorem w_frames : about1.frames = Frame.invoking theMethod args0 :: below0 := rfl
set_option maxRecDepth 65536 in
theorem w_args : argsFit about1.vm theMethod args0 = true := by decide +kernel
set_option maxRecDepth 65536 in
theorem w_heap : heapFits about1 = true := by decide +kernel
set_option maxRecDepth 65536 in
theorem w_runnable : about1.curStatus? = some .runnable := by decide +kernel
set_option maxRecDepth 65536 in
theorem w_alone : about1.alone = true := by decide +kernel
set_option maxRecDepth 65536 in
theorem w_named : about1.methodNamed? x = some theMethod := by decide +kernel
set_option maxRecDepth 65536 in
theorem w_hears : about1.hears theMethod below0 = true := by decide +kernel
set_option maxRecDepth 65536 in
theorem w_ripe : about1.ripe theMethod args0 below0 = true := by decide +kernel
theorem w_running : about1.status = .running := rfl
set_option maxRecDepth 65536 in
theorem w_room : about1.hasRoom e0.platform room_1 = true :=
  launch0.hasRoom_least _ room_1 (by decide +kernel) (by decide +kernel) (by decide +kernel) (by decide +kernel) (by decide +kernel) (by decide +kernel)
theorem allAtoms_all (ts : List Jvm.Cond) (a : Array Jvm.Value) (st : Jvm.State) : (allAtoms ts).before a st = ts.all (fun c => c.before a st) := by
  induction ts with
  | nil => rfl
  | cons c t ih =>
    show (Jvm.Cond.and c (allAtoms t)).before a st = _
    rw [Jvm.Cond.before_and, ih, List.all_cons]
def words1 : List Jvm.Cond := Jvm.Cond.code x code maxLocals ret :: tables_1
/-- a 'code' word, met by the world's own term for the bytes: nothing is compared byte by byte -/
theorem code_word {y : MethodName} {bytes : ByteArray} {mx : Nat} {rt : Option FieldType} {a : Array Value} {s : State} {m : MethodId} {meth : Method} {c : Code} (h1 : s.methodNamed? y = some m) (h2 : s.vm.method? m = some meth) (h3 : meth.code = some c) (h4 : c.code = bytes)
    (h5 : (c.maxLocals == mx && c.exceptionTable.isEmpty && decide (c.maxStack ≤ mostOperands) && decide (meth.sig.returnType = rt) && !meth.locks && decide (parseMethodDescriptor y.desc = some meth.sig)) = true) : (Jvm.Cond.code y bytes mx rt).before a s = true := by
  simp only [Bool.and_eq_true, beq_iff_eq, Bool.not_eq_true', decide_eq_true_eq] at h5
  obtain ⟨⟨⟨⟨⟨g1, g2⟩, g3⟩, g4⟩, g5⟩, g6⟩ := h5
  simp [Cond.before, Cond.holds, Cond.value, h1, h2, h3, h4, g1, g2, g3, g4, g5, g6]
def isCode : Jvm.Cond → Bool
  | .code _ _ _ _ => true
  | _ => false
theorem all_split {L : List Jvm.Cond} {P : Jvm.Cond → Bool} (h1 : L.all (fun c => isCode c || P c) = true) (h2 : ∀ c ∈ L.filter isCode, P c = true) : L.all P = true := by
  refine List.all_eq_true.mpr fun c hc => ?_
  have h := List.all_eq_true.mp h1 c hc
  rcases Bool.eq_false_or_eq_true (isCode c) with hi | hi
  · exact h2 c (List.mem_filter.mpr ⟨hc, hi⟩)
  · simpa [hi] using h
set_option maxRecDepth 65536 in
theorem w_c0 : (Jvm.Cond.code x code maxLocals ret).before args0 about1 = true := code_word (m := ⟨1, 1⟩) (meth := k1m1) (c := k1c1) (by decide +kernel) rfl rfl rfl (by decide +kernel)
set_option maxRecDepth 65536 in
theorem w_c1 : (Jvm.Cond.code ({ cls := "com/example/lendscribe/lendscribe/values/Fields", name := "fitsRatioDigits", desc := "(JJ)Z" } : Jvm.MethodName) prog_163_method_17_code (4 : Nat) (Option.some Jvm.ClassFile.FieldType.boolean)).before args0 about1 = true := code_word (m := ⟨2, 1⟩) (meth := k2m1) (c := k2c1) (by decide +kernel) rfl rfl rfl (by decide +kernel)
set_option maxRecDepth 65536 in
theorem w_c2 : (Jvm.Cond.code ({ cls := "java/lang/Math", name := "min", desc := "(JJ)J" } : Jvm.MethodName) jdk_29_method_70_code (4 : Nat) (Option.some Jvm.ClassFile.FieldType.long)).before args0 about1 = true := code_word (m := ⟨3, 1⟩) (meth := k3m1) (c := k3c1) (by decide +kernel) rfl rfl rfl (by decide +kernel)
def codes1 : List Jvm.Cond := [Jvm.Cond.code x code maxLocals ret, Jvm.Cond.code ({ cls := "com/example/lendscribe/lendscribe/values/Fields", name := "fitsRatioDigits", desc := "(JJ)Z" } : Jvm.MethodName) prog_163_method_17_code (4 : Nat) (Option.some Jvm.ClassFile.FieldType.boolean), Jvm.Cond.code ({ cls := "java/lang/Math", name := "min", desc := "(JJ)J" } : Jvm.MethodName) jdk_29_method_70_code (4 : Nat) (Option.some Jvm.ClassFile.FieldType.long)]
set_option maxRecDepth 65536 in
theorem codes_eq : words1.filter isCode = codes1 := rfl
theorem w_codes : ∀ c ∈ words1.filter isCode, c.before args0 about1 = true := by
  rw [codes_eq]
  intro c hc
  simp only [codes1, List.mem_cons, List.not_mem_nil, or_false] at hc
  rcases hc with rfl | rfl | rfl
  · exact w_c0
  · exact w_c1
  · exact w_c2
set_option maxRecDepth 65536 in
theorem w_t1 : words1.all (fun c => isCode c || c.before args0 about1) = true := by decide +kernel
theorem w_tables : (allAtoms (Jvm.Cond.code x code maxLocals ret :: tables_1)).before args0 about1 = true := by
  rw [allAtoms_all]
  show words1.all (fun c => c.before args0 about1) = true
  refine all_split ?_ w_codes
  rw [w_t1]
set_option maxRecDepth 65536 in
theorem w_case : (Jvm.Cond.and given_1 narrow_1).before args0 about1 = true := by decide +kernel
theorem w_applies : (headSpec (Jvm.Cond.code x code maxLocals ret :: tables_1) room_1).applies x e0.platform about1 = true :=
  (Spec.applies_iff w_frames).mpr ⟨w_running, w_runnable, w_alone, w_named, w_hears, w_ripe, w_room, w_tables⟩
theorem atStart : AtStart classFile x code maxLocals ret World_1 tables_1 room_1 Calls_1 rest_1 Pre_1 launch0 p0 e0 about1 theMethod args0 below0 :=
  ⟨lists_1, trivial, launch0.admits_env _ _ _, launch0.least_env, fairChoices_fair.cas, fairChoices_fair.clock, w_frames, w_args, w_heap, w_applies, trivial, trivial, w_case⟩
end start1
theorem witness_1 : WitnessClaimed_1 := ⟨start1.p0, start1.e0, start1.about1, start1.theMethod, start1.args0, start1.below0, start1.atStart⟩
end Jvm.Pilot.@@N@@
