import JvmDerived
import JvmDerived.Pilot.@@N@@Statement
import JvmDerived.Pilot.@@N@@Code
set_option linter.unusedVariables false
set_option linter.unusedSimpArgs false
namespace Jvm.RoadKit
open Sem ClassFile Op Lib Jvm.Stand Jvm.Free Jvm.LawKit
section New
variable {p : Program} {l : Launch} {e : Env} {R : Room} {s : State} {m : MethodId} {args : Array Value} {below : List Frame} {meth : Method} {c : Code} {T : State} {locs : List Loc} {cells slots : Nat}
theorem retI (X : Stand p l e R s m args below meth c T locs cells slots) (hx : p.tables.exec = Jvm.exec) {pc : Nat} {Ls : Array Slot} {z : Int32} {rest : List Value} (hret : meth.sig.returnType = some .int) (hd : decode c.code pc = .ok (.ireturn, 1)) {fs : List Frame}
    (hl : ∀ (f : JFrame) (acts : List Action), f.method = m → f.locked = none → f.entered = [] → (doReturn e (T.setTop f) acts (some (.int z))).1 = T.setFrames fs) : Steps p.tables e below (T.setTop (mkF m pc Ls (.int z :: rest))) (T.setFrames fs) := by
  have hm' : T.vm.method? m = some meth := X.method'
  have hn : narrow .int (.int z) = .int z := rfl
  show Steps p.tables e below (T.setTop { method := m, pc := pc, locals := Ls, stack := _ :: rest, locked := none }) _
  jvm_step X.here [X.here.top, hx, hd, hm', hret, hn]
  first | (intro acts; rw [hl _ acts rfl rfl rfl]) | rw [hl _ _ rfl rfl rfl]
  exact Steps.refl _
end New
end Jvm.RoadKit
namespace Jvm.Pilot.@@N@@
open Jvm Jvm.ClassFile Sem Op Lib Jvm.Free Jvm.Stand Jvm.LawKit Jvm.RoadKit Bundle Jvm.Pilot.@@N@@.Jvm.D
def QP (w : Option Value) (h0 : Heap) (n0 : Nat) (v : Option Value) (h : Heap) (L : List Loc) : Prop := v = w ∧ Fr n0 L ∧ h = h0
theorem d1_0 : decode jdk_29_method_65_code 0 = .ok (.iload_n 0, 1) := by decide +kernel
theorem d1_1 : decode jdk_29_method_65_code 1 = .ok (.iload_n 1, 1) := by decide +kernel
theorem d1_2 : decode jdk_29_method_65_code 2 = .ok (.if_icmp .lt 7, 3) := by decide +kernel
theorem d1_9 : decode jdk_29_method_65_code 9 = .ok (.iload_n 1, 1) := by decide +kernel
theorem d1_10 : decode jdk_29_method_65_code 10 = .ok (.ireturn, 1) := by decide +kernel
theorem d1_5 : decode jdk_29_method_65_code 5 = .ok (.iload_n 0, 1) := by decide +kernel
theorem d1_6 : decode jdk_29_method_65_code 6 = .ok (.goto 4, 3) := by decide +kernel
theorem ef_1 (m : MethodId) (x0 : Int32) (x1 : Int32) : entryFrame m #[(.int x0), (.int x1)] 2 = mkF m 0 #[.val (.int x0), .val (.int x1)] [] := by first | (simp [entryFrame, mkF, argsToLocals, Value.category]; done) | rfl
def f1 (p1 : Int32) (p2 : Int32) : Int32 := (if p1 < p2 then p2 else p1)
set_option maxRecDepth 65536 in
set_option maxHeartbeats 40000000 in
theorem rm1 (l : Launch) (Z : State) (a0 : Array Value) (hw : ∀ d ∈ tables_1, d.before a0 Z = true) (ws : List Jvm.Cond) (p1 : Int32) (p2 : Int32) (h0 : Heap) (n0 : Nat) (Z0 : n0 ≤ h0.size) :
    MetFree l (⟨"java/lang/Math", "max", "(II)I"⟩ : MethodName) (head1 (Jvm.Cond.code (⟨"java/lang/Math", "max", "(II)I"⟩ : MethodName) jdk_29_method_65_code 2 (some .int) :: ws) ({ frames := 0, cells := 0, slots := 0, locals := 0 } : Room)) (fun a U => a = #[(.int p1), (.int p2)] ∧ Z.Warmed39 U.vm ∧ U.heap = h0) (fun _ _ _ _ _ => True) (fun _ U o U' => ∃ v L, o = .returned v ∧ QP (some (.int (f1 p1 p2))) h0 n0 v U'.heap L ∧ FrameEnd U o U' L ({ frames := 0, cells := 0, slots := 0, locals := 0 } : Room).cells ({ frames := 0, cells := 0, slots := 0, locals := 0 } : Room).slots) := by
  refine MetFree.of_bodySF (Jvm.Free.JP.mathPlain rfl (by decide +kernel)) hisR ?_
  intro p e s m args below meth c s₁ Bd hml0 hP hK
  obtain ⟨rfl, hZ, hh⟩ := hP
  have hx := Bd.exec
  have hby := Bd.bytes
  have hml : c.maxLocals = 2 := hml0
  have hown : s.vm.findClass "java/lang/Math" = some m.cls := findClass_of_methodNamed Bd.named
  have hnm := (name_of_methodNamed Bd.named Bd.method).1
  have X0 : Stand p l e ({ frames := 0, cells := 0, slots := 0, locals := 0 } : Room) s m #[(.int p1), (.int p2)] below meth c s₁ [] 0 0 := Stand.of_body Bd
  have e0 : s₁.heap = h0 := by rw [← hh, Bd.state]; rfl
  have N0 := Fr.nil n0
  have pre0 : ∀ t, Steps p.tables e below (s₁.setTop (mkF m 0 #[.val (.int p1), .val (.int p2)] [])) t → Steps p.tables e below (s₁.setTop (entryFrame m #[(.int p1), (.int p2)] 2)) t := fun t k => castTop (ef_1 m p1 p2) k
  have pre2 : ∀ t, Steps p.tables e below (s₁.setTop (mkF m 2 #[.val (.int p1), .val (.int p2)] [(.int p2), (.int p1)])) t → Steps p.tables e below (s₁.setTop (entryFrame m #[(.int p1), (.int p2)] 2)) t := fun t k => by
    refine pre0 _ ?_
    show Steps p.tables e below (s₁.setTop (mkF m 0 #[.val (.int p1), .val (.int p2)] [])) _
    refine XS.iloadN X0.here hx rfl (hb hby d1_0) rfl ?_
    show Steps p.tables e below (s₁.setTop (mkF m 1 #[.val (.int p1), .val (.int p2)] [(.int p1)])) _
    refine XS.iloadN X0.here hx rfl (hb hby d1_1) rfl ?_
    exact k
  by_cases hc1 : p1 < p2
  · obtain ⟨fs, hr, hrun, hended, hW, hsame⟩ := X0.leave (v := some (.int p2)) (fun h => by rw [Bd.returns] at h; cases h)
    refine ⟨_, _, pre2 _ ?_, hrun, hended, _, _, rfl, ?_, ⟨_, rfl⟩, hW, hsame.mono (by decide) (by decide)⟩
    · show Steps p.tables e below (s₁.setTop (mkF m 2 #[.val (.int p1), .val (.int p2)] [(.int p2), (.int p1)])) _
      refine XS.icmpYes X0.here hx rfl (pc0 := 2) (pc' := 9) rfl (hb hby d1_2) rfl (tlt hc1).1 (by decide) (by decide) ?_
      show Steps p.tables e below (s₁.setTop (mkF m 9 #[.val (.int p1), .val (.int p2)] [])) _
      refine XS.iloadN X0.here hx rfl (hb hby d1_9) rfl ?_
      show Steps p.tables e below (s₁.setTop (mkF m 10 #[.val (.int p1), .val (.int p2)] [(.int p2)])) _
      exact retI X0 hx Bd.returns (hb hby d1_10) hr
    · show QP _ h0 n0 _ s₁.heap _
      rw [e0, show f1 p1 p2 = p2 from by unfold f1; rw [if_pos hc1]]
      exact ⟨rfl, N0, rfl⟩
  · obtain ⟨fs, hr, hrun, hended, hW, hsame⟩ := X0.leave (v := some (.int p1)) (fun h => by rw [Bd.returns] at h; cases h)
    refine ⟨_, _, pre2 _ ?_, hrun, hended, _, _, rfl, ?_, ⟨_, rfl⟩, hW, hsame.mono (by decide) (by decide)⟩
    · show Steps p.tables e below (s₁.setTop (mkF m 2 #[.val (.int p1), .val (.int p2)] [(.int p2), (.int p1)])) _
      refine XS.icmpNo X0.here hx rfl (hb hby d1_2) rfl (flt hc1).1 ?_
      show Steps p.tables e below (s₁.setTop (mkF m 5 #[.val (.int p1), .val (.int p2)] [])) _
      refine XS.iloadN X0.here hx rfl (hb hby d1_5) rfl ?_
      show Steps p.tables e below (s₁.setTop (mkF m 6 #[.val (.int p1), .val (.int p2)] [(.int p1)])) _
      refine XS.goto X0.here hx rfl (pc0 := 6) (pc' := 10) rfl (hb hby d1_6) (by decide) (by decide) ?_
      show Steps p.tables e below (s₁.setTop (mkF m 10 #[.val (.int p1), .val (.int p2)] [(.int p1)])) _
      exact retI X0 hx Bd.returns (hb hby d1_10) hr
    · show QP _ h0 n0 _ s₁.heap _
      rw [e0, show f1 p1 p2 = p1 from by unfold f1; rw [if_neg hc1]]
      exact ⟨rfl, N0, rfl⟩
theorem d3_0 : decode jdk_29_method_66_code 0 = .ok (.lload_n 0, 1) := by decide +kernel
theorem d3_1 : decode jdk_29_method_66_code 1 = .ok (.lload_n 2, 1) := by decide +kernel
theorem d3_2 : decode jdk_29_method_66_code 2 = .ok (.lcmp, 1) := by decide +kernel
theorem d3_3 : decode jdk_29_method_66_code 3 = .ok (.ifCond .lt 7, 3) := by decide +kernel
theorem d3_10 : decode jdk_29_method_66_code 10 = .ok (.lload_n 2, 1) := by decide +kernel
theorem d3_11 : decode jdk_29_method_66_code 11 = .ok (.lreturn, 1) := by decide +kernel
theorem d3_6 : decode jdk_29_method_66_code 6 = .ok (.lload_n 0, 1) := by decide +kernel
theorem d3_7 : decode jdk_29_method_66_code 7 = .ok (.goto 4, 3) := by decide +kernel
theorem ef_3 (m : MethodId) (x0 : Int64) (x1 : Int64) : entryFrame m #[(.long x0), (.long x1)] 4 = mkF m 0 #[.val (.long x0), .second, .val (.long x1), .second] [] := by first | (simp [entryFrame, mkF, argsToLocals, Value.category]; done) | rfl
def f3 (q1 : Int64) (q2 : Int64) : Int64 := (if q1 < q2 then q2 else q1)
set_option maxRecDepth 65536 in
set_option maxHeartbeats 40000000 in
theorem rm3 (l : Launch) (Z : State) (a0 : Array Value) (hw : ∀ d ∈ tables_1, d.before a0 Z = true) (ws : List Jvm.Cond) (q1 : Int64) (q2 : Int64) (h0 : Heap) (n0 : Nat) (Z0 : n0 ≤ h0.size) :
    MetFree l (⟨"java/lang/Math", "max", "(JJ)J"⟩ : MethodName) (head1 (Jvm.Cond.code (⟨"java/lang/Math", "max", "(JJ)J"⟩ : MethodName) jdk_29_method_66_code 4 (some .long) :: ws) ({ frames := 0, cells := 0, slots := 0, locals := 0 } : Room)) (fun a U => a = #[(.long q1), (.long q2)] ∧ Z.Warmed39 U.vm ∧ U.heap = h0) (fun _ _ _ _ _ => True) (fun _ U o U' => ∃ v L, o = .returned v ∧ QP (some (.long (f3 q1 q2))) h0 n0 v U'.heap L ∧ FrameEnd U o U' L ({ frames := 0, cells := 0, slots := 0, locals := 0 } : Room).cells ({ frames := 0, cells := 0, slots := 0, locals := 0 } : Room).slots) := by
  refine MetFree.of_bodySF (Jvm.Free.JP.mathPlain rfl (by decide +kernel)) hisR ?_
  intro p e s m args below meth c s₁ Bd hml0 hP hK
  obtain ⟨rfl, hZ, hh⟩ := hP
  have hx := Bd.exec
  have hby := Bd.bytes
  have hml : c.maxLocals = 4 := hml0
  have hown : s.vm.findClass "java/lang/Math" = some m.cls := findClass_of_methodNamed Bd.named
  have hnm := (name_of_methodNamed Bd.named Bd.method).1
  have X0 : Stand p l e ({ frames := 0, cells := 0, slots := 0, locals := 0 } : Room) s m #[(.long q1), (.long q2)] below meth c s₁ [] 0 0 := Stand.of_body Bd
  have e0 : s₁.heap = h0 := by rw [← hh, Bd.state]; rfl
  have N0 := Fr.nil n0
  have pre0 : ∀ t, Steps p.tables e below (s₁.setTop (mkF m 0 #[.val (.long q1), .second, .val (.long q2), .second] [])) t → Steps p.tables e below (s₁.setTop (entryFrame m #[(.long q1), (.long q2)] 4)) t := fun t k => castTop (ef_3 m q1 q2) k
  have pre4 : ∀ t, Steps p.tables e below (s₁.setTop (mkF m 3 #[.val (.long q1), .second, .val (.long q2), .second] [(.int (lcmpW q1 q2))])) t → Steps p.tables e below (s₁.setTop (entryFrame m #[(.long q1), (.long q2)] 4)) t := fun t k => by
    refine pre0 _ ?_
    show Steps p.tables e below (s₁.setTop (mkF m 0 #[.val (.long q1), .second, .val (.long q2), .second] [])) _
    refine XS.lloadN X0.here hx rfl (hb hby d3_0) rfl ?_
    show Steps p.tables e below (s₁.setTop (mkF m 1 #[.val (.long q1), .second, .val (.long q2), .second] [(.long q1)])) _
    refine XS.lloadN X0.here hx rfl (hb hby d3_1) rfl ?_
    show Steps p.tables e below (s₁.setTop (mkF m 2 #[.val (.long q1), .second, .val (.long q2), .second] [(.long q2), (.long q1)])) _
    refine XS.lcmp X0.here hx rfl (hb hby d3_2) rfl ?_
    exact k
  by_cases hc3 : q1 < q2
  · obtain ⟨fs, hr, hrun, hended, hW, hsame⟩ := X0.leave (v := some (.long q2)) (fun h => by rw [Bd.returns] at h; cases h)
    refine ⟨_, _, pre4 _ ?_, hrun, hended, _, _, rfl, ?_, ⟨_, rfl⟩, hW, hsame.mono (by decide) (by decide)⟩
    · show Steps p.tables e below (s₁.setTop (mkF m 3 #[.val (.long q1), .second, .val (.long q2), .second] [(.int (lcmpW q1 q2))])) _
      refine XS.ifYes X0.here hx rfl (pc0 := 3) (pc' := 10) rfl (hb hby d3_3) rfl ((if0 _ _).trans (tlt ((lw_lt q1 q2).mpr hc3)).1) (by decide) (by decide) ?_
      show Steps p.tables e below (s₁.setTop (mkF m 10 #[.val (.long q1), .second, .val (.long q2), .second] [])) _
      refine XS.lloadN X0.here hx rfl (hb hby d3_10) rfl ?_
      show Steps p.tables e below (s₁.setTop (mkF m 11 #[.val (.long q1), .second, .val (.long q2), .second] [(.long q2)])) _
      exact X0.lreturnOut hx Bd.returns (hb hby d3_11) hr
    · show QP _ h0 n0 _ s₁.heap _
      rw [e0, show f3 q1 q2 = q2 from by unfold f3; rw [if_pos hc3]]
      exact ⟨rfl, N0, rfl⟩
  · obtain ⟨fs, hr, hrun, hended, hW, hsame⟩ := X0.leave (v := some (.long q1)) (fun h => by rw [Bd.returns] at h; cases h)
    refine ⟨_, _, pre4 _ ?_, hrun, hended, _, _, rfl, ?_, ⟨_, rfl⟩, hW, hsame.mono (by decide) (by decide)⟩
    · show Steps p.tables e below (s₁.setTop (mkF m 3 #[.val (.long q1), .second, .val (.long q2), .second] [(.int (lcmpW q1 q2))])) _
      refine XS.ifNo X0.here hx rfl (hb hby d3_3) rfl ((if0 _ _).trans (flt (fun q => hc3 ((lw_lt q1 q2).mp q))).1) ?_
      show Steps p.tables e below (s₁.setTop (mkF m 6 #[.val (.long q1), .second, .val (.long q2), .second] [])) _
      refine XS.lloadN X0.here hx rfl (hb hby d3_6) rfl ?_
      show Steps p.tables e below (s₁.setTop (mkF m 7 #[.val (.long q1), .second, .val (.long q2), .second] [(.long q1)])) _
      refine XS.goto X0.here hx rfl (pc0 := 7) (pc' := 11) rfl (hb hby d3_7) (by decide) (by decide) ?_
      show Steps p.tables e below (s₁.setTop (mkF m 11 #[.val (.long q1), .second, .val (.long q2), .second] [(.long q1)])) _
      exact X0.lreturnOut hx Bd.returns (hb hby d3_11) hr
    · show QP _ h0 n0 _ s₁.heap _
      rw [e0, show f3 q1 q2 = q1 from by unfold f3; rw [if_neg hc3]]
      exact ⟨rfl, N0, rfl⟩
theorem d2_0 : decode prog_43_method_4_code 0 = .ok (.lload_n 3, 1) := by decide +kernel
theorem d2_1 : decode prog_43_method_4_code 1 = .ok (.lconst 0, 1) := by decide +kernel
theorem d2_2 : decode prog_43_method_4_code 2 = .ok (.lcmp, 1) := by decide +kernel
theorem d2_3 : decode prog_43_method_4_code 3 = .ok (.ifCond .le 18, 3) := by decide +kernel
theorem d2_6 : decode prog_43_method_4_code 6 = .ok (.lload_n 0, 1) := by decide +kernel
theorem d2_7 : decode prog_43_method_4_code 7 = .ok (.lload_n 3, 1) := by decide +kernel
theorem d2_8 : decode prog_43_method_4_code 8 = .ok (.lconst 1, 1) := by decide +kernel
theorem d2_9 : decode prog_43_method_4_code 9 = .ok (.lsub, 1) := by decide +kernel
theorem d2_10 : decode prog_43_method_4_code 10 = .ok (.iload_n 2, 1) := by decide +kernel
theorem d2_11 : decode prog_43_method_4_code 11 = .ok (.i2l, 1) := by decide +kernel
theorem d2_12 : decode prog_43_method_4_code 12 = .ok (.ldiv, 1) := by decide +kernel
theorem d2_13 : decode prog_43_method_4_code 13 = .ok (.lcmp, 1) := by decide +kernel
theorem d2_14 : decode prog_43_method_4_code 14 = .ok (.ifCond .gt 7, 3) := by decide +kernel
theorem d2_21 : decode prog_43_method_4_code 21 = .ok (.iconst 0, 1) := by decide +kernel
theorem d2_22 : decode prog_43_method_4_code 22 = .ok (.ireturn, 1) := by decide +kernel
theorem d2_17 : decode prog_43_method_4_code 17 = .ok (.iconst 1, 1) := by decide +kernel
theorem d2_18 : decode prog_43_method_4_code 18 = .ok (.goto 4, 3) := by decide +kernel
theorem pn_2 : plainName "com/example/cowry/cowry/core/Page" = true := by first | (simp [plainName, overriddenIn]; done) | decide +kernel
theorem ef_2 (m : MethodId) (x0 : Int64) (x1 : Int32) (x2 : Int64) : entryFrame m #[(.long x0), (.int x1), (.long x2)] 5 = mkF m 0 #[.val (.long x0), .second, .val (.int x1), .val (.long x2), .second] [] := by first | (simp [entryFrame, mkF, argsToLocals, Value.category]; done) | rfl
def f2 (q1 : Int64) (p2 : Int32) (q3 : Int64) : Int32 := (if (0 : Int64) < q3 then (if ((q3 - (1 : Int64)) / (p2.toInt64)) < q1 then (0 : Int32) else (1 : Int32)) else (0 : Int32))
set_option maxRecDepth 65536 in
set_option maxHeartbeats 40000000 in
theorem rm2 (l : Launch) (Z : State) (a0 : Array Value) (hw : ∀ d ∈ tables_1, d.before a0 Z = true) (ws : List Jvm.Cond) (q1 : Int64) (p2 : Int32) (q3 : Int64) (h0 : Heap) (n0 : Nat) (Z0 : n0 ≤ h0.size) (hnz : p2.toInt64 ≠ 0) :
    MetFree l (⟨"com/example/cowry/cowry/core/Page", "holdsAny", "(JIJ)Z"⟩ : MethodName) (head1 (Jvm.Cond.code (⟨"com/example/cowry/cowry/core/Page", "holdsAny", "(JIJ)Z"⟩ : MethodName) prog_43_method_4_code 5 (some .boolean) :: ws) ({ frames := 0, cells := 0, slots := 0, locals := 0 } : Room)) (fun a U => a = #[(.long q1), (.int p2), (.long q3)] ∧ Z.Warmed39 U.vm ∧ U.heap = h0) (fun _ _ _ _ _ => True) (fun _ U o U' => ∃ v L, o = .returned v ∧ QP (some (.int (f2 q1 p2 q3))) h0 n0 v U'.heap L ∧ FrameEnd U o U' L ({ frames := 0, cells := 0, slots := 0, locals := 0 } : Room).cells ({ frames := 0, cells := 0, slots := 0, locals := 0 } : Room).slots) := by
  refine MetFree.of_bodySF (plainFor_of_name pn_2) hisR ?_
  intro p e s m args below meth c s₁ Bd hml0 hP hK
  obtain ⟨rfl, hZ, hh⟩ := hP
  have hx := Bd.exec
  have hby := Bd.bytes
  have hml : c.maxLocals = 5 := hml0
  have hown : s.vm.findClass "com/example/cowry/cowry/core/Page" = some m.cls := findClass_of_methodNamed Bd.named
  have hnm := (name_of_methodNamed Bd.named Bd.method).1
  have X0 : Stand p l e ({ frames := 0, cells := 0, slots := 0, locals := 0 } : Room) s m #[(.long q1), (.int p2), (.long q3)] below meth c s₁ [] 0 0 := Stand.of_body Bd
  have e0 : s₁.heap = h0 := by rw [← hh, Bd.state]; rfl
  have N0 := Fr.nil n0
  have pre0 : ∀ t, Steps p.tables e below (s₁.setTop (mkF m 0 #[.val (.long q1), .second, .val (.int p2), .val (.long q3), .second] [])) t → Steps p.tables e below (s₁.setTop (entryFrame m #[(.long q1), (.int p2), (.long q3)] 5)) t := fun t k => castTop (ef_2 m q1 p2 q3) k
  have pre6 : ∀ t, Steps p.tables e below (s₁.setTop (mkF m 3 #[.val (.long q1), .second, .val (.int p2), .val (.long q3), .second] [(.int (lcmpW q3 (0 : Int64)))])) t → Steps p.tables e below (s₁.setTop (entryFrame m #[(.long q1), (.int p2), (.long q3)] 5)) t := fun t k => by
    refine pre0 _ ?_
    show Steps p.tables e below (s₁.setTop (mkF m 0 #[.val (.long q1), .second, .val (.int p2), .val (.long q3), .second] [])) _
    refine XS.lloadN X0.here hx rfl (hb hby d2_0) rfl ?_
    show Steps p.tables e below (s₁.setTop (mkF m 1 #[.val (.long q1), .second, .val (.int p2), .val (.long q3), .second] [(.long q3)])) _
    refine XS.lconst X0.here hx rfl (hb hby d2_1) ?_
    show Steps p.tables e below (s₁.setTop (mkF m 2 #[.val (.long q1), .second, .val (.int p2), .val (.long q3), .second] [(.long (0 : Int64)), (.long q3)])) _
    refine XS.lcmp X0.here hx rfl (hb hby d2_2) rfl ?_
    exact k
  by_cases hc5 : (0 : Int64) < q3
  · have pre8 : ∀ t, Steps p.tables e below (s₁.setTop (mkF m 14 #[.val (.long q1), .second, .val (.int p2), .val (.long q3), .second] [(.int (lcmpW q1 ((q3 - (1 : Int64)) / (p2.toInt64))))])) t → Steps p.tables e below (s₁.setTop (entryFrame m #[(.long q1), (.int p2), (.long q3)] 5)) t := fun t k => by
      refine pre6 _ ?_
      show Steps p.tables e below (s₁.setTop (mkF m 3 #[.val (.long q1), .second, .val (.int p2), .val (.long q3), .second] [(.int (lcmpW q3 (0 : Int64)))])) _
      refine XS.ifNo X0.here hx rfl (hb hby d2_3) rfl ((if0 _ _).trans (tlt ((lw_gt q3 (0 : Int64)).mpr hc5)).2.2.2) ?_
      show Steps p.tables e below (s₁.setTop (mkF m 6 #[.val (.long q1), .second, .val (.int p2), .val (.long q3), .second] [])) _
      refine XS.lloadN X0.here hx rfl (hb hby d2_6) rfl ?_
      show Steps p.tables e below (s₁.setTop (mkF m 7 #[.val (.long q1), .second, .val (.int p2), .val (.long q3), .second] [(.long q1)])) _
      refine XS.lloadN X0.here hx rfl (hb hby d2_7) rfl ?_
      show Steps p.tables e below (s₁.setTop (mkF m 8 #[.val (.long q1), .second, .val (.int p2), .val (.long q3), .second] [(.long q3), (.long q1)])) _
      refine XS.lconst X0.here hx rfl (hb hby d2_8) ?_
      show Steps p.tables e below (s₁.setTop (mkF m 9 #[.val (.long q1), .second, .val (.int p2), .val (.long q3), .second] [(.long (1 : Int64)), (.long q3), (.long q1)])) _
      refine XS.lsub X0.here hx rfl (hb hby d2_9) rfl ?_
      show Steps p.tables e below (s₁.setTop (mkF m 10 #[.val (.long q1), .second, .val (.int p2), .val (.long q3), .second] [(.long (q3 - (1 : Int64))), (.long q1)])) _
      refine XS.iloadN X0.here hx rfl (hb hby d2_10) rfl ?_
      show Steps p.tables e below (s₁.setTop (mkF m 11 #[.val (.long q1), .second, .val (.int p2), .val (.long q3), .second] [(.int p2), (.long (q3 - (1 : Int64))), (.long q1)])) _
      refine XS.i2l X0.here hx rfl (hb hby d2_11) rfl ?_
      show Steps p.tables e below (s₁.setTop (mkF m 12 #[.val (.long q1), .second, .val (.int p2), .val (.long q3), .second] [(.long (p2.toInt64)), (.long (q3 - (1 : Int64))), (.long q1)])) _
      refine XS.ldiv X0.here hx rfl (hb hby d2_12) rfl hnz ?_
      show Steps p.tables e below (s₁.setTop (mkF m 13 #[.val (.long q1), .second, .val (.int p2), .val (.long q3), .second] [(.long ((q3 - (1 : Int64)) / (p2.toInt64))), (.long q1)])) _
      refine XS.lcmp X0.here hx rfl (hb hby d2_13) rfl ?_
      exact k
    by_cases hc7 : ((q3 - (1 : Int64)) / (p2.toInt64)) < q1
    · obtain ⟨fs, hr, hrun, hended, hW, hsame⟩ := X0.leave (v := some (.int (0 : Int32))) (fun h => by rw [Bd.returns] at h; cases h)
      refine ⟨_, _, pre8 _ ?_, hrun, hended, _, _, rfl, ?_, ⟨_, rfl⟩, hW, hsame.mono (by decide) (by decide)⟩
      · show Steps p.tables e below (s₁.setTop (mkF m 14 #[.val (.long q1), .second, .val (.int p2), .val (.long q3), .second] [(.int (lcmpW q1 ((q3 - (1 : Int64)) / (p2.toInt64))))])) _
        refine XS.ifYes X0.here hx rfl (pc0 := 14) (pc' := 21) rfl (hb hby d2_14) rfl ((if0 _ _).trans (tlt ((lw_gt q1 ((q3 - (1 : Int64)) / (p2.toInt64))).mpr hc7)).2.2.1) (by decide) (by decide) ?_
        show Steps p.tables e below (s₁.setTop (mkF m 21 #[.val (.long q1), .second, .val (.int p2), .val (.long q3), .second] [])) _
        refine XS.iconst X0.here hx rfl (hb hby d2_21) ?_
        show Steps p.tables e below (s₁.setTop (mkF m 22 #[.val (.long q1), .second, .val (.int p2), .val (.long q3), .second] [(.int (0 : Int32))])) _
        exact retN X0 hx (t := .boolean) Bd.returns (by simp) (hb hby d2_22) hr
      · show QP _ h0 n0 _ s₁.heap _
        rw [e0, show f2 q1 p2 q3 = (0 : Int32) from by unfold f2; rw [if_pos hc5, if_pos hc7]]
        exact ⟨rfl, N0, rfl⟩
    · obtain ⟨fs, hr, hrun, hended, hW, hsame⟩ := X0.leave (v := some (.int (1 : Int32))) (fun h => by rw [Bd.returns] at h; cases h)
      refine ⟨_, _, pre8 _ ?_, hrun, hended, _, _, rfl, ?_, ⟨_, rfl⟩, hW, hsame.mono (by decide) (by decide)⟩
      · show Steps p.tables e below (s₁.setTop (mkF m 14 #[.val (.long q1), .second, .val (.int p2), .val (.long q3), .second] [(.int (lcmpW q1 ((q3 - (1 : Int64)) / (p2.toInt64))))])) _
        refine XS.ifNo X0.here hx rfl (hb hby d2_14) rfl ((if0 _ _).trans (flt (fun q => hc7 ((lw_gt q1 ((q3 - (1 : Int64)) / (p2.toInt64))).mp q))).2.2.1) ?_
        show Steps p.tables e below (s₁.setTop (mkF m 17 #[.val (.long q1), .second, .val (.int p2), .val (.long q3), .second] [])) _
        refine XS.iconst X0.here hx rfl (hb hby d2_17) ?_
        show Steps p.tables e below (s₁.setTop (mkF m 18 #[.val (.long q1), .second, .val (.int p2), .val (.long q3), .second] [(.int (1 : Int32))])) _
        refine XS.goto X0.here hx rfl (pc0 := 18) (pc' := 22) rfl (hb hby d2_18) (by decide) (by decide) ?_
        show Steps p.tables e below (s₁.setTop (mkF m 22 #[.val (.long q1), .second, .val (.int p2), .val (.long q3), .second] [(.int (1 : Int32))])) _
        exact retN X0 hx (t := .boolean) Bd.returns (by simp) (hb hby d2_22) hr
      · show QP _ h0 n0 _ s₁.heap _
        rw [e0, show f2 q1 p2 q3 = (1 : Int32) from by unfold f2; rw [if_pos hc5, if_neg hc7]]
        exact ⟨rfl, N0, rfl⟩
  · obtain ⟨fs, hr, hrun, hended, hW, hsame⟩ := X0.leave (v := some (.int (0 : Int32))) (fun h => by rw [Bd.returns] at h; cases h)
    refine ⟨_, _, pre6 _ ?_, hrun, hended, _, _, rfl, ?_, ⟨_, rfl⟩, hW, hsame.mono (by decide) (by decide)⟩
    · show Steps p.tables e below (s₁.setTop (mkF m 3 #[.val (.long q1), .second, .val (.int p2), .val (.long q3), .second] [(.int (lcmpW q3 (0 : Int64)))])) _
      refine XS.ifYes X0.here hx rfl (pc0 := 3) (pc' := 21) rfl (hb hby d2_3) rfl ((if0 _ _).trans (flt (fun q => hc5 ((lw_gt q3 (0 : Int64)).mp q))).2.2.2) (by decide) (by decide) ?_
      show Steps p.tables e below (s₁.setTop (mkF m 21 #[.val (.long q1), .second, .val (.int p2), .val (.long q3), .second] [])) _
      refine XS.iconst X0.here hx rfl (hb hby d2_21) ?_
      show Steps p.tables e below (s₁.setTop (mkF m 22 #[.val (.long q1), .second, .val (.int p2), .val (.long q3), .second] [(.int (0 : Int32))])) _
      exact retN X0 hx (t := .boolean) Bd.returns (by simp) (hb hby d2_22) hr
    · show QP _ h0 n0 _ s₁.heap _
      rw [e0, show f2 q1 p2 q3 = (0 : Int32) from by unfold f2; rw [if_neg hc5]]
      exact ⟨rfl, N0, rfl⟩
theorem pd_0 : parseMethodDescriptor "(II)I" = some ⟨[.int, .int], some .int⟩ := by decide +kernel
theorem pd_1 : parseMethodDescriptor "(JJ)J" = some ⟨[.long, .long], some .long⟩ := by decide +kernel
theorem pd_2 : parseMethodDescriptor "(JIJ)Z" = some ⟨[.long, .int, .long], some .boolean⟩ := by decide +kernel
theorem pn_0 : plainName "com/example/cowry/cowry/core/PageHoldsAnyPinLaw" = true := by first | (simp [plainName, overriddenIn]; done) | decide +kernel
theorem ef_0 (m : MethodId) (x0 : Int64) (x1 : Int32) (x2 : Int64) (x3 : Int32) (x4 : Int32) : entryFrame m #[(.long x0), (.int x1), (.long x2), (.int x3), (.int x4)] maxLocals = mkF m 0 #[.val (.long x0), .second, .val (.int x1), .val (.long x2), .second, .val (.int x3), .val (.int x4), .unset, .unset, .unset, .unset, .unset, .unset, .unset, .unset, .unset, .unset] [] := by first | (simp [entryFrame, mkF, argsToLocals, Value.category, maxLocals]; done) | rfl
def mg0_4a (q1 : Int64) (p2 : Int32) (q3 : Int64) (p4 : Int32) (p5 : Int32) : Int32 := if (p4 &&& (2 : Int32)) = (0 : Int32) then (f1 (1 : Int32) (p2 &&& (2147483647 : Int32))) else ((p2 &&& (7 : Int32)) + (1 : Int32))
def mg0_30a (q1 : Int64) (p2 : Int32) (q3 : Int64) (p4 : Int32) (p5 : Int32) : Int64 := if (p4 &&& (4 : Int32)) = (0 : Int32) then q3 else ((q3 &&& (31 : Int64)) - (4 : Int64))
def mg0_52a (q1 : Int64) (p2 : Int32) (q3 : Int64) (p4 : Int32) (p5 : Int32) : Int64 := if (0 : Int64) < (mg0_30a q1 p2 q3 p4 p5) then ((mg0_30a q1 p2 q3 p4 p5) / ((mg0_4a q1 p2 q3 p4 p5).toInt64)) else (0 : Int64)
def mg0_71a (q1 : Int64) (p2 : Int32) (q3 : Int64) (p4 : Int32) (p5 : Int32) : Int64 := if (0 : Int64) < (mg0_30a q1 p2 q3 p4 p5) then ((mg0_30a q1 p2 q3 p4 p5) - ((mg0_30a q1 p2 q3 p4 p5) / ((mg0_4a q1 p2 q3 p4 p5).toInt64)) * ((mg0_4a q1 p2 q3 p4 p5).toInt64)) else (0 : Int64)
def mg0_90a (q1 : Int64) (p2 : Int32) (q3 : Int64) (p4 : Int32) (p5 : Int32) : Int64 := if (p4 &&& (1 : Int32)) = (0 : Int32) then (q1 &&& (9223372036854775807 : Int64)) else (f3 (0 : Int64) (((mg0_52a q1 p2 q3 p4 p5) - (2 : Int64)) + ((p5 &&& (3 : Int32)).toInt64)))
def mg0_146a (q1 : Int64) (p2 : Int32) (q3 : Int64) (p4 : Int32) (p5 : Int32) : Int32 := if (mg0_71a q1 p2 q3 p4 p5) = (0 : Int64) then (0 : Int32) else (1 : Int32)
def mg0_139a (q1 : Int64) (p2 : Int32) (q3 : Int64) (p4 : Int32) (p5 : Int32) : Int32 := if (mg0_90a q1 p2 q3 p4 p5) = (mg0_52a q1 p2 q3 p4 p5) then (mg0_146a q1 p2 q3 p4 p5) else (0 : Int32)
def mg0_131a (q1 : Int64) (p2 : Int32) (q3 : Int64) (p4 : Int32) (p5 : Int32) : Int32 := if (mg0_90a q1 p2 q3 p4 p5) < (mg0_52a q1 p2 q3 p4 p5) then (1 : Int32) else (mg0_139a q1 p2 q3 p4 p5)
def mg0_123a (q1 : Int64) (p2 : Int32) (q3 : Int64) (p4 : Int32) (p5 : Int32) : Int32 := if (0 : Int64) < (mg0_30a q1 p2 q3 p4 p5) then (mg0_131a q1 p2 q3 p4 p5) else (0 : Int32)
theorem own_size (q1 : Int64) (p2 : Int32) (q3 : Int64) (p4 p5 : Int32) : 1 ≤ (mg0_4a q1 p2 q3 p4 p5).toInt := by
  have h1 : (p2 &&& 7).toInt = p2.toInt % (2 ^ 3 : Nat) := c_mask p2 _ 3 (by decide) (by decide)
  have h2 := c_iadd (p2 &&& 7) 1
  have h3 := rng32 ((p2 &&& 7) + 1)
  have e1 : (1 : Int32).toInt = 1 := by decide
  unfold mg0_4a f1
  simp only [Int32.lt_iff_toInt_lt]
  repeat' split
  all_goals omega
theorem own_nz {z : Int32} (h : 1 ≤ z.toInt) : z.toInt64 ≠ 0 := fun q => by
  have e := c_i2l z
  rw [q] at e
  have e0 : (0 : Int64).toInt = 0 := by decide
  omega
def f0 (q1 : Int64) (p2 : Int32) (q3 : Int64) (p4 : Int32) (p5 : Int32) : Int32 := (if (f2 (mg0_90a q1 p2 q3 p4 p5) (mg0_4a q1 p2 q3 p4 p5) (mg0_30a q1 p2 q3 p4 p5)) = (mg0_123a q1 p2 q3 p4 p5) then (1 : Int32) else (0 : Int32))
set_option maxRecDepth 65536 in
set_option maxHeartbeats 40000000 in
theorem rm0 (l : Launch) (Z : State) (a0 : Array Value) (hw : ∀ d ∈ tables_1, d.before a0 Z = true) (ws : List Jvm.Cond) (q1 : Int64) (p2 : Int32) (q3 : Int64) (p4 : Int32) (p5 : Int32) (h0 : Heap) (n0 : Nat) (Z0 : n0 ≤ h0.size) :
    MetFree l x (head1 (Jvm.Cond.code x code maxLocals ret :: ws) room_1) (fun a U => a = #[(.long q1), (.int p2), (.long q3), (.int p4), (.int p5)] ∧ Z.Warmed39 U.vm ∧ U.heap = h0) (fun _ _ _ _ _ => True) (fun _ U o U' => ∃ v L, o = .returned v ∧ QP (some (.int (f0 q1 p2 q3 p4 p5))) h0 n0 v U'.heap L ∧ FrameEnd U o U' L room_1.cells room_1.slots) := by
  refine MetFree.of_bodySF (plainFor_of_name pn_0) hisR ?_
  intro p e s m args below meth c s₁ Bd hml0 hP hK
  obtain ⟨rfl, hZ, hh⟩ := hP
  have hx := Bd.exec
  have hby := Bd.bytes
  have hml : c.maxLocals = 17 := hml0
  have hown : s.vm.findClass "com/example/cowry/cowry/core/PageHoldsAnyPinLaw" = some m.cls := findClass_of_methodNamed Bd.named
  have hnm := (name_of_methodNamed Bd.named Bd.method).1
  have X0 : Stand p l e room_1 s m #[(.long q1), (.int p2), (.long q3), (.int p4), (.int p5)] below meth c s₁ [] 0 0 := Stand.of_body Bd
  have e0 : s₁.heap = h0 := by rw [← hh, Bd.state]; rfl
  have N0 := Fr.nil n0
  have pre0 : ∀ t, Steps p.tables e below (s₁.setTop (mkF m 0 #[.val (.long q1), .second, .val (.int p2), .val (.long q3), .second, .val (.int p4), .val (.int p5), .unset, .unset, .unset, .unset, .unset, .unset, .unset, .unset, .unset, .unset] [])) t → Steps p.tables e below (s₁.setTop (entryFrame m #[(.long q1), (.int p2), (.long q3), (.int p4), (.int p5)] maxLocals)) t := fun t k => castTop (ef_0 m q1 p2 q3 p4 p5) k
  have pre10 : ∀ t, Steps p.tables e below (s₁.setTop (mkF m 4 #[.val (.long q1), .second, .val (.int p2), .val (.long q3), .second, .val (.int p4), .val (.int p5), .unset, .unset, .unset, .unset, .unset, .unset, .unset, .unset, .unset, .unset] [(.int (p4 &&& (2 : Int32)))])) t → Steps p.tables e below (s₁.setTop (entryFrame m #[(.long q1), (.int p2), (.long q3), (.int p4), (.int p5)] maxLocals)) t := fun t k => by
    refine pre0 _ ?_
    show Steps p.tables e below (s₁.setTop (mkF m 0 #[.val (.long q1), .second, .val (.int p2), .val (.long q3), .second, .val (.int p4), .val (.int p5), .unset, .unset, .unset, .unset, .unset, .unset, .unset, .unset, .unset, .unset] [])) _
    refine XS.iload X0.here hx rfl (hb hby at_0) rfl ?_
    show Steps p.tables e below (s₁.setTop (mkF m 2 #[.val (.long q1), .second, .val (.int p2), .val (.long q3), .second, .val (.int p4), .val (.int p5), .unset, .unset, .unset, .unset, .unset, .unset, .unset, .unset, .unset, .unset] [(.int p4)])) _
    refine XS.iconst X0.here hx rfl (hb hby at_2) ?_
    show Steps p.tables e below (s₁.setTop (mkF m 3 #[.val (.long q1), .second, .val (.int p2), .val (.long q3), .second, .val (.int p4), .val (.int p5), .unset, .unset, .unset, .unset, .unset, .unset, .unset, .unset, .unset, .unset] [(.int (2 : Int32)), (.int p4)])) _
    refine XS.iand X0.here hx rfl (hb hby at_3) rfl ?_
    exact k
  obtain ⟨T12, L12, X12, N12, e12, pre12⟩ : ∃ T' L', Stand p l e room_1 s m #[(.long q1), (.int p2), (.long q3), (.int p4), (.int p5)] below meth c T' L' 0 0 ∧ Fr n0 L' ∧ T'.heap = h0 ∧ ∀ t, Steps p.tables e below (T'.setTop (mkF m 24 #[.val (.long q1), .second, .val (.int p2), .val (.long q3), .second, .val (.int p4), .val (.int p5), .unset, .unset, .unset, .unset, .unset, .unset, .unset, .unset, .unset, .unset] [(.int (mg0_4a q1 p2 q3 p4 p5))])) t → Steps p.tables e below (s₁.setTop (entryFrame m #[(.long q1), (.int p2), (.long q3), (.int p4), (.int p5)] maxLocals)) t := by
    by_cases hc9 : (p4 &&& (2 : Int32)) = (0 : Int32)
    · rw [show mg0_4a q1 p2 q3 p4 p5 = (f1 (1 : Int32) (p2 &&& (2147483647 : Int32))) from if_pos hc9]
      obtain ⟨_, _, ⟨T11, L11, k11, n11⟩, -, X11, ⟨Lc11, hQ11, l11, y11, z11⟩, st11⟩ := Jvm.LawKit.callS X0 hx (y := (⟨"java/lang/Math", "max", "(II)I"⟩ : MethodName)) hown (mvT hZ (hw _ (List.mem_of_getElem? (i := 1) rfl))) (mvT hZ (hw _ (List.mem_of_getElem? (i := 2) rfl))) (mvT hZ (hw _ (List.mem_of_getElem? (i := 3) rfl))) (mvT hZ (hw _ (List.mem_of_getElem? (i := 4) rfl))) (by decide) (backOf (W := 0) (rm1 l Z a0 hw [] (1 : Int32) (p2 &&& (2147483647 : Int32)) h0 n0 Z0) hZ (hw _ (List.mem_of_getElem? (i := 4) rfl)) (hw _ (List.mem_of_getElem? (i := 3) rfl)) (by decide) (by decide)) (g := (mkF m 21 #[.val (.long q1), .second, .val (.int p2), .val (.long q3), .second, .val (.int p4), .val (.int p5), .unset, .unset, .unset, .unset, .unset, .unset, .unset, .unset, .unset, .unset] [(.int (p2 &&& (2147483647 : Int32))), (.int (1 : Int32))])) rfl (by rw [hml]; rfl) (argsL := [(.int (1 : Int32)), (.int (p2 &&& (2147483647 : Int32)))]) (rest := []) (lenOf pd_0 rfl) rfl (by show 2 * 0 + _ ≤ _; exact Nat.le_of_eq rfl) (hb hby at_21) (fun _ _ => ⟨rfl, e0, (by decide : 0 + 0 ≤ _), (by decide : 0 + 0 ≤ _)⟩)
      dsimp only [Pt.U, Pt.locs, Pt.cells, Pt.slots] at X11 l11 y11 z11 st11 hQ11
      subst l11 y11 z11
      obtain ⟨rfl, N11q, e11⟩ := hQ11
      have N11 := Fr.app N0 N11q
      refine ⟨T11, _, X11, N11, e11, fun t k => ?_⟩
      refine pre10 _ ?_
      show Steps p.tables e below (s₁.setTop (mkF m 4 #[.val (.long q1), .second, .val (.int p2), .val (.long q3), .second, .val (.int p4), .val (.int p5), .unset, .unset, .unset, .unset, .unset, .unset, .unset, .unset, .unset, .unset] [(.int (p4 &&& (2 : Int32)))])) _
      refine XS.ifYes X0.here hx rfl (pc0 := 4) (pc' := 16) rfl (hb hby at_4) rfl ((if0 _ _).trans (teq hc9).1) (by decide) (by decide) ?_
      show Steps p.tables e below (s₁.setTop (mkF m 16 #[.val (.long q1), .second, .val (.int p2), .val (.long q3), .second, .val (.int p4), .val (.int p5), .unset, .unset, .unset, .unset, .unset, .unset, .unset, .unset, .unset, .unset] [])) _
      refine XS.iconst X0.here hx rfl (hb hby at_16) ?_
      show Steps p.tables e below (s₁.setTop (mkF m 17 #[.val (.long q1), .second, .val (.int p2), .val (.long q3), .second, .val (.int p4), .val (.int p5), .unset, .unset, .unset, .unset, .unset, .unset, .unset, .unset, .unset, .unset] [(.int (1 : Int32))])) _
      refine XS.iloadN X0.here hx rfl (hb hby at_17) rfl ?_
      show Steps p.tables e below (s₁.setTop (mkF m 18 #[.val (.long q1), .second, .val (.int p2), .val (.long q3), .second, .val (.int p4), .val (.int p5), .unset, .unset, .unset, .unset, .unset, .unset, .unset, .unset, .unset, .unset] [(.int p2), (.int (1 : Int32))])) _
      refine X0.ldcInt hx hown (mvT hZ (hw _ (List.mem_of_getElem? (i := 0) rfl))) (g := (mkF m 18 #[.val (.long q1), .second, .val (.int p2), .val (.long q3), .second, .val (.int p4), .val (.int p5), .unset, .unset, .unset, .unset, .unset, .unset, .unset, .unset, .unset, .unset] [(.int p2), (.int (1 : Int32))])) rfl (hb hby at_18) _ ?_
      show Steps p.tables e below (s₁.setTop (mkF m 20 #[.val (.long q1), .second, .val (.int p2), .val (.long q3), .second, .val (.int p4), .val (.int p5), .unset, .unset, .unset, .unset, .unset, .unset, .unset, .unset, .unset, .unset] [(.int (2147483647 : Int32)), (.int p2), (.int (1 : Int32))])) _
      refine XS.iand X0.here hx rfl (hb hby at_20) rfl ?_
      show Steps p.tables e below (s₁.setTop (mkF m 21 #[.val (.long q1), .second, .val (.int p2), .val (.long q3), .second, .val (.int p4), .val (.int p5), .unset, .unset, .unset, .unset, .unset, .unset, .unset, .unset, .unset, .unset] [(.int (p2 &&& (2147483647 : Int32))), (.int (1 : Int32))])) _
      refine st11 _ ?_
      exact k
    · rw [show mg0_4a q1 p2 q3 p4 p5 = ((p2 &&& (7 : Int32)) + (1 : Int32)) from if_neg hc9]
      refine ⟨s₁, _, X0, N0, e0, fun t k => ?_⟩
      refine pre10 _ ?_
      show Steps p.tables e below (s₁.setTop (mkF m 4 #[.val (.long q1), .second, .val (.int p2), .val (.long q3), .second, .val (.int p4), .val (.int p5), .unset, .unset, .unset, .unset, .unset, .unset, .unset, .unset, .unset, .unset] [(.int (p4 &&& (2 : Int32)))])) _
      refine XS.ifNo X0.here hx rfl (hb hby at_4) rfl ((if0 _ _).trans (feq hc9).1) ?_
      show Steps p.tables e below (s₁.setTop (mkF m 7 #[.val (.long q1), .second, .val (.int p2), .val (.long q3), .second, .val (.int p4), .val (.int p5), .unset, .unset, .unset, .unset, .unset, .unset, .unset, .unset, .unset, .unset] [])) _
      refine XS.iloadN X0.here hx rfl (hb hby at_7) rfl ?_
      show Steps p.tables e below (s₁.setTop (mkF m 8 #[.val (.long q1), .second, .val (.int p2), .val (.long q3), .second, .val (.int p4), .val (.int p5), .unset, .unset, .unset, .unset, .unset, .unset, .unset, .unset, .unset, .unset] [(.int p2)])) _
      refine XS.bipush X0.here hx rfl (hb hby at_8) ?_
      show Steps p.tables e below (s₁.setTop (mkF m 10 #[.val (.long q1), .second, .val (.int p2), .val (.long q3), .second, .val (.int p4), .val (.int p5), .unset, .unset, .unset, .unset, .unset, .unset, .unset, .unset, .unset, .unset] [(.int (7 : Int32)), (.int p2)])) _
      refine XS.iand X0.here hx rfl (hb hby at_10) rfl ?_
      show Steps p.tables e below (s₁.setTop (mkF m 11 #[.val (.long q1), .second, .val (.int p2), .val (.long q3), .second, .val (.int p4), .val (.int p5), .unset, .unset, .unset, .unset, .unset, .unset, .unset, .unset, .unset, .unset] [(.int (p2 &&& (7 : Int32)))])) _
      refine XS.iconst X0.here hx rfl (hb hby at_11) ?_
      show Steps p.tables e below (s₁.setTop (mkF m 12 #[.val (.long q1), .second, .val (.int p2), .val (.long q3), .second, .val (.int p4), .val (.int p5), .unset, .unset, .unset, .unset, .unset, .unset, .unset, .unset, .unset, .unset] [(.int (1 : Int32)), (.int (p2 &&& (7 : Int32)))])) _
      refine XS.iadd X0.here hx rfl (hb hby at_12) rfl ?_
      show Steps p.tables e below (s₁.setTop (mkF m 13 #[.val (.long q1), .second, .val (.int p2), .val (.long q3), .second, .val (.int p4), .val (.int p5), .unset, .unset, .unset, .unset, .unset, .unset, .unset, .unset, .unset, .unset] [(.int ((p2 &&& (7 : Int32)) + (1 : Int32)))])) _
      refine XS.goto X0.here hx rfl (pc0 := 13) (pc' := 24) rfl (hb hby at_13) (by decide) (by decide) ?_
      exact k
  have pre14 : ∀ t, Steps p.tables e below (T12.setTop (mkF m 30 #[.val (.long q1), .second, .val (.int p2), .val (.long q3), .second, .val (.int p4), .val (.int p5), .val (.int (mg0_4a q1 p2 q3 p4 p5)), .unset, .unset, .unset, .unset, .unset, .unset, .unset, .unset, .unset] [(.int (p4 &&& (4 : Int32)))])) t → Steps p.tables e below (s₁.setTop (entryFrame m #[(.long q1), (.int p2), (.long q3), (.int p4), (.int p5)] maxLocals)) t := fun t k => by
    refine pre12 _ ?_
    show Steps p.tables e below (T12.setTop (mkF m 24 #[.val (.long q1), .second, .val (.int p2), .val (.long q3), .second, .val (.int p4), .val (.int p5), .unset, .unset, .unset, .unset, .unset, .unset, .unset, .unset, .unset, .unset] [(.int (mg0_4a q1 p2 q3 p4 p5))])) _
    refine XS.istore X12.here hx rfl (hb hby at_24) rfl (l' := #[.val (.long q1), .second, .val (.int p2), .val (.long q3), .second, .val (.int p4), .val (.int p5), .val (.int (mg0_4a q1 p2 q3 p4 p5)), .unset, .unset, .unset, .unset, .unset, .unset, .unset, .unset, .unset]) rfl ?_
    show Steps p.tables e below (T12.setTop (mkF m 26 #[.val (.long q1), .second, .val (.int p2), .val (.long q3), .second, .val (.int p4), .val (.int p5), .val (.int (mg0_4a q1 p2 q3 p4 p5)), .unset, .unset, .unset, .unset, .unset, .unset, .unset, .unset, .unset] [])) _
    refine XS.iload X12.here hx rfl (hb hby at_26) rfl ?_
    show Steps p.tables e below (T12.setTop (mkF m 28 #[.val (.long q1), .second, .val (.int p2), .val (.long q3), .second, .val (.int p4), .val (.int p5), .val (.int (mg0_4a q1 p2 q3 p4 p5)), .unset, .unset, .unset, .unset, .unset, .unset, .unset, .unset, .unset] [(.int p4)])) _
    refine XS.iconst X12.here hx rfl (hb hby at_28) ?_
    show Steps p.tables e below (T12.setTop (mkF m 29 #[.val (.long q1), .second, .val (.int p2), .val (.long q3), .second, .val (.int p4), .val (.int p5), .val (.int (mg0_4a q1 p2 q3 p4 p5)), .unset, .unset, .unset, .unset, .unset, .unset, .unset, .unset, .unset] [(.int (4 : Int32)), (.int p4)])) _
    refine XS.iand X12.here hx rfl (hb hby at_29) rfl ?_
    exact k
  obtain ⟨T15, L15, X15, N15, e15, pre15⟩ : ∃ T' L', Stand p l e room_1 s m #[(.long q1), (.int p2), (.long q3), (.int p4), (.int p5)] below meth c T' L' 0 0 ∧ Fr n0 L' ∧ T'.heap = h0 ∧ ∀ t, Steps p.tables e below (T'.setTop (mkF m 46 #[.val (.long q1), .second, .val (.int p2), .val (.long q3), .second, .val (.int p4), .val (.int p5), .val (.int (mg0_4a q1 p2 q3 p4 p5)), .unset, .unset, .unset, .unset, .unset, .unset, .unset, .unset, .unset] [(.long (mg0_30a q1 p2 q3 p4 p5))])) t → Steps p.tables e below (s₁.setTop (entryFrame m #[(.long q1), (.int p2), (.long q3), (.int p4), (.int p5)] maxLocals)) t := by
    by_cases hc13 : (p4 &&& (4 : Int32)) = (0 : Int32)
    · rw [show mg0_30a q1 p2 q3 p4 p5 = q3 from if_pos hc13]
      refine ⟨T12, _, X12, N12, e12, fun t k => ?_⟩
      refine pre14 _ ?_
      show Steps p.tables e below (T12.setTop (mkF m 30 #[.val (.long q1), .second, .val (.int p2), .val (.long q3), .second, .val (.int p4), .val (.int p5), .val (.int (mg0_4a q1 p2 q3 p4 p5)), .unset, .unset, .unset, .unset, .unset, .unset, .unset, .unset, .unset] [(.int (p4 &&& (4 : Int32)))])) _
      refine XS.ifYes X12.here hx rfl (pc0 := 30) (pc' := 45) rfl (hb hby at_30) rfl ((if0 _ _).trans (teq hc13).1) (by decide) (by decide) ?_
      show Steps p.tables e below (T12.setTop (mkF m 45 #[.val (.long q1), .second, .val (.int p2), .val (.long q3), .second, .val (.int p4), .val (.int p5), .val (.int (mg0_4a q1 p2 q3 p4 p5)), .unset, .unset, .unset, .unset, .unset, .unset, .unset, .unset, .unset] [])) _
      refine XS.lloadN X12.here hx rfl (hb hby at_45) rfl ?_
      exact k
    · rw [show mg0_30a q1 p2 q3 p4 p5 = ((q3 &&& (31 : Int64)) - (4 : Int64)) from if_neg hc13]
      refine ⟨T12, _, X12, N12, e12, fun t k => ?_⟩
      refine pre14 _ ?_
      show Steps p.tables e below (T12.setTop (mkF m 30 #[.val (.long q1), .second, .val (.int p2), .val (.long q3), .second, .val (.int p4), .val (.int p5), .val (.int (mg0_4a q1 p2 q3 p4 p5)), .unset, .unset, .unset, .unset, .unset, .unset, .unset, .unset, .unset] [(.int (p4 &&& (4 : Int32)))])) _
      refine XS.ifNo X12.here hx rfl (hb hby at_30) rfl ((if0 _ _).trans (feq hc13).1) ?_
      show Steps p.tables e below (T12.setTop (mkF m 33 #[.val (.long q1), .second, .val (.int p2), .val (.long q3), .second, .val (.int p4), .val (.int p5), .val (.int (mg0_4a q1 p2 q3 p4 p5)), .unset, .unset, .unset, .unset, .unset, .unset, .unset, .unset, .unset] [])) _
      refine XS.lloadN X12.here hx rfl (hb hby at_33) rfl ?_
      show Steps p.tables e below (T12.setTop (mkF m 34 #[.val (.long q1), .second, .val (.int p2), .val (.long q3), .second, .val (.int p4), .val (.int p5), .val (.int (mg0_4a q1 p2 q3 p4 p5)), .unset, .unset, .unset, .unset, .unset, .unset, .unset, .unset, .unset] [(.long q3)])) _
      refine X12.ldc2Long hx hown (mvT hZ (hw _ (List.mem_of_getElem? (i := 14) rfl))) (g := (mkF m 34 #[.val (.long q1), .second, .val (.int p2), .val (.long q3), .second, .val (.int p4), .val (.int p5), .val (.int (mg0_4a q1 p2 q3 p4 p5)), .unset, .unset, .unset, .unset, .unset, .unset, .unset, .unset, .unset] [(.long q3)])) rfl (hb hby at_34) _ ?_
      show Steps p.tables e below (T12.setTop (mkF m 37 #[.val (.long q1), .second, .val (.int p2), .val (.long q3), .second, .val (.int p4), .val (.int p5), .val (.int (mg0_4a q1 p2 q3 p4 p5)), .unset, .unset, .unset, .unset, .unset, .unset, .unset, .unset, .unset] [(.long (31 : Int64)), (.long q3)])) _
      refine XS.land X12.here hx rfl (hb hby at_37) rfl ?_
      show Steps p.tables e below (T12.setTop (mkF m 38 #[.val (.long q1), .second, .val (.int p2), .val (.long q3), .second, .val (.int p4), .val (.int p5), .val (.int (mg0_4a q1 p2 q3 p4 p5)), .unset, .unset, .unset, .unset, .unset, .unset, .unset, .unset, .unset] [(.long (q3 &&& (31 : Int64)))])) _
      refine X12.ldc2Long hx hown (mvT hZ (hw _ (List.mem_of_getElem? (i := 15) rfl))) (g := (mkF m 38 #[.val (.long q1), .second, .val (.int p2), .val (.long q3), .second, .val (.int p4), .val (.int p5), .val (.int (mg0_4a q1 p2 q3 p4 p5)), .unset, .unset, .unset, .unset, .unset, .unset, .unset, .unset, .unset] [(.long (q3 &&& (31 : Int64)))])) rfl (hb hby at_38) _ ?_
      show Steps p.tables e below (T12.setTop (mkF m 41 #[.val (.long q1), .second, .val (.int p2), .val (.long q3), .second, .val (.int p4), .val (.int p5), .val (.int (mg0_4a q1 p2 q3 p4 p5)), .unset, .unset, .unset, .unset, .unset, .unset, .unset, .unset, .unset] [(.long (4 : Int64)), (.long (q3 &&& (31 : Int64)))])) _
      refine XS.lsub X12.here hx rfl (hb hby at_41) rfl ?_
      show Steps p.tables e below (T12.setTop (mkF m 42 #[.val (.long q1), .second, .val (.int p2), .val (.long q3), .second, .val (.int p4), .val (.int p5), .val (.int (mg0_4a q1 p2 q3 p4 p5)), .unset, .unset, .unset, .unset, .unset, .unset, .unset, .unset, .unset] [(.long ((q3 &&& (31 : Int64)) - (4 : Int64)))])) _
      refine XS.goto X12.here hx rfl (pc0 := 42) (pc' := 46) rfl (hb hby at_42) (by decide) (by decide) ?_
      exact k
  have pre17 : ∀ t, Steps p.tables e below (T15.setTop (mkF m 52 #[.val (.long q1), .second, .val (.int p2), .val (.long q3), .second, .val (.int p4), .val (.int p5), .val (.int (mg0_4a q1 p2 q3 p4 p5)), .val (.long (mg0_30a q1 p2 q3 p4 p5)), .second, .unset, .unset, .unset, .unset, .unset, .unset, .unset] [(.int (lcmpW (mg0_30a q1 p2 q3 p4 p5) (0 : Int64)))])) t → Steps p.tables e below (s₁.setTop (entryFrame m #[(.long q1), (.int p2), (.long q3), (.int p4), (.int p5)] maxLocals)) t := fun t k => by
    refine pre15 _ ?_
    show Steps p.tables e below (T15.setTop (mkF m 46 #[.val (.long q1), .second, .val (.int p2), .val (.long q3), .second, .val (.int p4), .val (.int p5), .val (.int (mg0_4a q1 p2 q3 p4 p5)), .unset, .unset, .unset, .unset, .unset, .unset, .unset, .unset, .unset] [(.long (mg0_30a q1 p2 q3 p4 p5))])) _
    refine XS.lstore X15.here hx rfl (hb hby at_46) rfl (l' := #[.val (.long q1), .second, .val (.int p2), .val (.long q3), .second, .val (.int p4), .val (.int p5), .val (.int (mg0_4a q1 p2 q3 p4 p5)), .val (.long (mg0_30a q1 p2 q3 p4 p5)), .second, .unset, .unset, .unset, .unset, .unset, .unset, .unset]) rfl ?_
    show Steps p.tables e below (T15.setTop (mkF m 48 #[.val (.long q1), .second, .val (.int p2), .val (.long q3), .second, .val (.int p4), .val (.int p5), .val (.int (mg0_4a q1 p2 q3 p4 p5)), .val (.long (mg0_30a q1 p2 q3 p4 p5)), .second, .unset, .unset, .unset, .unset, .unset, .unset, .unset] [])) _
    refine XS.lload X15.here hx rfl (hb hby at_48) rfl ?_
    show Steps p.tables e below (T15.setTop (mkF m 50 #[.val (.long q1), .second, .val (.int p2), .val (.long q3), .second, .val (.int p4), .val (.int p5), .val (.int (mg0_4a q1 p2 q3 p4 p5)), .val (.long (mg0_30a q1 p2 q3 p4 p5)), .second, .unset, .unset, .unset, .unset, .unset, .unset, .unset] [(.long (mg0_30a q1 p2 q3 p4 p5))])) _
    refine XS.lconst X15.here hx rfl (hb hby at_50) ?_
    show Steps p.tables e below (T15.setTop (mkF m 51 #[.val (.long q1), .second, .val (.int p2), .val (.long q3), .second, .val (.int p4), .val (.int p5), .val (.int (mg0_4a q1 p2 q3 p4 p5)), .val (.long (mg0_30a q1 p2 q3 p4 p5)), .second, .unset, .unset, .unset, .unset, .unset, .unset, .unset] [(.long (0 : Int64)), (.long (mg0_30a q1 p2 q3 p4 p5))])) _
    refine XS.lcmp X15.here hx rfl (hb hby at_51) rfl ?_
    exact k
  obtain ⟨T18, L18, X18, N18, e18, pre18⟩ : ∃ T' L', Stand p l e room_1 s m #[(.long q1), (.int p2), (.long q3), (.int p4), (.int p5)] below meth c T' L' 0 0 ∧ Fr n0 L' ∧ T'.heap = h0 ∧ ∀ t, Steps p.tables e below (T'.setTop (mkF m 65 #[.val (.long q1), .second, .val (.int p2), .val (.long q3), .second, .val (.int p4), .val (.int p5), .val (.int (mg0_4a q1 p2 q3 p4 p5)), .val (.long (mg0_30a q1 p2 q3 p4 p5)), .second, .unset, .unset, .unset, .unset, .unset, .unset, .unset] [(.long (mg0_52a q1 p2 q3 p4 p5))])) t → Steps p.tables e below (s₁.setTop (entryFrame m #[(.long q1), (.int p2), (.long q3), (.int p4), (.int p5)] maxLocals)) t := by
    by_cases hc16 : (0 : Int64) < (mg0_30a q1 p2 q3 p4 p5)
    · rw [show mg0_52a q1 p2 q3 p4 p5 = ((mg0_30a q1 p2 q3 p4 p5) / ((mg0_4a q1 p2 q3 p4 p5).toInt64)) from if_pos hc16]
      refine ⟨T15, _, X15, N15, e15, fun t k => ?_⟩
      refine pre17 _ ?_
      show Steps p.tables e below (T15.setTop (mkF m 52 #[.val (.long q1), .second, .val (.int p2), .val (.long q3), .second, .val (.int p4), .val (.int p5), .val (.int (mg0_4a q1 p2 q3 p4 p5)), .val (.long (mg0_30a q1 p2 q3 p4 p5)), .second, .unset, .unset, .unset, .unset, .unset, .unset, .unset] [(.int (lcmpW (mg0_30a q1 p2 q3 p4 p5) (0 : Int64)))])) _
      refine XS.ifNo X15.here hx rfl (hb hby at_52) rfl ((if0 _ _).trans (tlt ((lw_gt (mg0_30a q1 p2 q3 p4 p5) (0 : Int64)).mpr hc16)).2.2.2) ?_
      show Steps p.tables e below (T15.setTop (mkF m 55 #[.val (.long q1), .second, .val (.int p2), .val (.long q3), .second, .val (.int p4), .val (.int p5), .val (.int (mg0_4a q1 p2 q3 p4 p5)), .val (.long (mg0_30a q1 p2 q3 p4 p5)), .second, .unset, .unset, .unset, .unset, .unset, .unset, .unset] [])) _
      refine XS.lload X15.here hx rfl (hb hby at_55) rfl ?_
      show Steps p.tables e below (T15.setTop (mkF m 57 #[.val (.long q1), .second, .val (.int p2), .val (.long q3), .second, .val (.int p4), .val (.int p5), .val (.int (mg0_4a q1 p2 q3 p4 p5)), .val (.long (mg0_30a q1 p2 q3 p4 p5)), .second, .unset, .unset, .unset, .unset, .unset, .unset, .unset] [(.long (mg0_30a q1 p2 q3 p4 p5))])) _
      refine XS.iload X15.here hx rfl (hb hby at_57) rfl ?_
      show Steps p.tables e below (T15.setTop (mkF m 59 #[.val (.long q1), .second, .val (.int p2), .val (.long q3), .second, .val (.int p4), .val (.int p5), .val (.int (mg0_4a q1 p2 q3 p4 p5)), .val (.long (mg0_30a q1 p2 q3 p4 p5)), .second, .unset, .unset, .unset, .unset, .unset, .unset, .unset] [(.int (mg0_4a q1 p2 q3 p4 p5)), (.long (mg0_30a q1 p2 q3 p4 p5))])) _
      refine XS.i2l X15.here hx rfl (hb hby at_59) rfl ?_
      show Steps p.tables e below (T15.setTop (mkF m 60 #[.val (.long q1), .second, .val (.int p2), .val (.long q3), .second, .val (.int p4), .val (.int p5), .val (.int (mg0_4a q1 p2 q3 p4 p5)), .val (.long (mg0_30a q1 p2 q3 p4 p5)), .second, .unset, .unset, .unset, .unset, .unset, .unset, .unset] [(.long ((mg0_4a q1 p2 q3 p4 p5).toInt64)), (.long (mg0_30a q1 p2 q3 p4 p5))])) _
      refine XS.ldiv X15.here hx rfl (hb hby at_60) rfl (own_nz (own_size q1 p2 q3 p4 p5)) ?_
      show Steps p.tables e below (T15.setTop (mkF m 61 #[.val (.long q1), .second, .val (.int p2), .val (.long q3), .second, .val (.int p4), .val (.int p5), .val (.int (mg0_4a q1 p2 q3 p4 p5)), .val (.long (mg0_30a q1 p2 q3 p4 p5)), .second, .unset, .unset, .unset, .unset, .unset, .unset, .unset] [(.long ((mg0_30a q1 p2 q3 p4 p5) / ((mg0_4a q1 p2 q3 p4 p5).toInt64)))])) _
      refine XS.goto X15.here hx rfl (pc0 := 61) (pc' := 65) rfl (hb hby at_61) (by decide) (by decide) ?_
      exact k
    · rw [show mg0_52a q1 p2 q3 p4 p5 = (0 : Int64) from if_neg hc16]
      refine ⟨T15, _, X15, N15, e15, fun t k => ?_⟩
      refine pre17 _ ?_
      show Steps p.tables e below (T15.setTop (mkF m 52 #[.val (.long q1), .second, .val (.int p2), .val (.long q3), .second, .val (.int p4), .val (.int p5), .val (.int (mg0_4a q1 p2 q3 p4 p5)), .val (.long (mg0_30a q1 p2 q3 p4 p5)), .second, .unset, .unset, .unset, .unset, .unset, .unset, .unset] [(.int (lcmpW (mg0_30a q1 p2 q3 p4 p5) (0 : Int64)))])) _
      refine XS.ifYes X15.here hx rfl (pc0 := 52) (pc' := 64) rfl (hb hby at_52) rfl ((if0 _ _).trans (flt (fun q => hc16 ((lw_gt (mg0_30a q1 p2 q3 p4 p5) (0 : Int64)).mp q))).2.2.2) (by decide) (by decide) ?_
      show Steps p.tables e below (T15.setTop (mkF m 64 #[.val (.long q1), .second, .val (.int p2), .val (.long q3), .second, .val (.int p4), .val (.int p5), .val (.int (mg0_4a q1 p2 q3 p4 p5)), .val (.long (mg0_30a q1 p2 q3 p4 p5)), .second, .unset, .unset, .unset, .unset, .unset, .unset, .unset] [])) _
      refine XS.lconst X15.here hx rfl (hb hby at_64) ?_
      exact k
  have pre20 : ∀ t, Steps p.tables e below (T18.setTop (mkF m 71 #[.val (.long q1), .second, .val (.int p2), .val (.long q3), .second, .val (.int p4), .val (.int p5), .val (.int (mg0_4a q1 p2 q3 p4 p5)), .val (.long (mg0_30a q1 p2 q3 p4 p5)), .second, .val (.long (mg0_52a q1 p2 q3 p4 p5)), .second, .unset, .unset, .unset, .unset, .unset] [(.int (lcmpW (mg0_30a q1 p2 q3 p4 p5) (0 : Int64)))])) t → Steps p.tables e below (s₁.setTop (entryFrame m #[(.long q1), (.int p2), (.long q3), (.int p4), (.int p5)] maxLocals)) t := fun t k => by
    refine pre18 _ ?_
    show Steps p.tables e below (T18.setTop (mkF m 65 #[.val (.long q1), .second, .val (.int p2), .val (.long q3), .second, .val (.int p4), .val (.int p5), .val (.int (mg0_4a q1 p2 q3 p4 p5)), .val (.long (mg0_30a q1 p2 q3 p4 p5)), .second, .unset, .unset, .unset, .unset, .unset, .unset, .unset] [(.long (mg0_52a q1 p2 q3 p4 p5))])) _
    refine XS.lstore X18.here hx rfl (hb hby at_65) rfl (l' := #[.val (.long q1), .second, .val (.int p2), .val (.long q3), .second, .val (.int p4), .val (.int p5), .val (.int (mg0_4a q1 p2 q3 p4 p5)), .val (.long (mg0_30a q1 p2 q3 p4 p5)), .second, .val (.long (mg0_52a q1 p2 q3 p4 p5)), .second, .unset, .unset, .unset, .unset, .unset]) rfl ?_
    show Steps p.tables e below (T18.setTop (mkF m 67 #[.val (.long q1), .second, .val (.int p2), .val (.long q3), .second, .val (.int p4), .val (.int p5), .val (.int (mg0_4a q1 p2 q3 p4 p5)), .val (.long (mg0_30a q1 p2 q3 p4 p5)), .second, .val (.long (mg0_52a q1 p2 q3 p4 p5)), .second, .unset, .unset, .unset, .unset, .unset] [])) _
    refine XS.lload X18.here hx rfl (hb hby at_67) rfl ?_
    show Steps p.tables e below (T18.setTop (mkF m 69 #[.val (.long q1), .second, .val (.int p2), .val (.long q3), .second, .val (.int p4), .val (.int p5), .val (.int (mg0_4a q1 p2 q3 p4 p5)), .val (.long (mg0_30a q1 p2 q3 p4 p5)), .second, .val (.long (mg0_52a q1 p2 q3 p4 p5)), .second, .unset, .unset, .unset, .unset, .unset] [(.long (mg0_30a q1 p2 q3 p4 p5))])) _
    refine XS.lconst X18.here hx rfl (hb hby at_69) ?_
    show Steps p.tables e below (T18.setTop (mkF m 70 #[.val (.long q1), .second, .val (.int p2), .val (.long q3), .second, .val (.int p4), .val (.int p5), .val (.int (mg0_4a q1 p2 q3 p4 p5)), .val (.long (mg0_30a q1 p2 q3 p4 p5)), .second, .val (.long (mg0_52a q1 p2 q3 p4 p5)), .second, .unset, .unset, .unset, .unset, .unset] [(.long (0 : Int64)), (.long (mg0_30a q1 p2 q3 p4 p5))])) _
    refine XS.lcmp X18.here hx rfl (hb hby at_70) rfl ?_
    exact k
  obtain ⟨T21, L21, X21, N21, e21, pre21⟩ : ∃ T' L', Stand p l e room_1 s m #[(.long q1), (.int p2), (.long q3), (.int p4), (.int p5)] below meth c T' L' 0 0 ∧ Fr n0 L' ∧ T'.heap = h0 ∧ ∀ t, Steps p.tables e below (T'.setTop (mkF m 84 #[.val (.long q1), .second, .val (.int p2), .val (.long q3), .second, .val (.int p4), .val (.int p5), .val (.int (mg0_4a q1 p2 q3 p4 p5)), .val (.long (mg0_30a q1 p2 q3 p4 p5)), .second, .val (.long (mg0_52a q1 p2 q3 p4 p5)), .second, .unset, .unset, .unset, .unset, .unset] [(.long (mg0_71a q1 p2 q3 p4 p5))])) t → Steps p.tables e below (s₁.setTop (entryFrame m #[(.long q1), (.int p2), (.long q3), (.int p4), (.int p5)] maxLocals)) t := by
    by_cases hc19 : (0 : Int64) < (mg0_30a q1 p2 q3 p4 p5)
    · rw [show mg0_71a q1 p2 q3 p4 p5 = ((mg0_30a q1 p2 q3 p4 p5) - ((mg0_30a q1 p2 q3 p4 p5) / ((mg0_4a q1 p2 q3 p4 p5).toInt64)) * ((mg0_4a q1 p2 q3 p4 p5).toInt64)) from if_pos hc19]
      refine ⟨T18, _, X18, N18, e18, fun t k => ?_⟩
      refine pre20 _ ?_
      show Steps p.tables e below (T18.setTop (mkF m 71 #[.val (.long q1), .second, .val (.int p2), .val (.long q3), .second, .val (.int p4), .val (.int p5), .val (.int (mg0_4a q1 p2 q3 p4 p5)), .val (.long (mg0_30a q1 p2 q3 p4 p5)), .second, .val (.long (mg0_52a q1 p2 q3 p4 p5)), .second, .unset, .unset, .unset, .unset, .unset] [(.int (lcmpW (mg0_30a q1 p2 q3 p4 p5) (0 : Int64)))])) _
      refine XS.ifNo X18.here hx rfl (hb hby at_71) rfl ((if0 _ _).trans (tlt ((lw_gt (mg0_30a q1 p2 q3 p4 p5) (0 : Int64)).mpr hc19)).2.2.2) ?_
      show Steps p.tables e below (T18.setTop (mkF m 74 #[.val (.long q1), .second, .val (.int p2), .val (.long q3), .second, .val (.int p4), .val (.int p5), .val (.int (mg0_4a q1 p2 q3 p4 p5)), .val (.long (mg0_30a q1 p2 q3 p4 p5)), .second, .val (.long (mg0_52a q1 p2 q3 p4 p5)), .second, .unset, .unset, .unset, .unset, .unset] [])) _
      refine XS.lload X18.here hx rfl (hb hby at_74) rfl ?_
      show Steps p.tables e below (T18.setTop (mkF m 76 #[.val (.long q1), .second, .val (.int p2), .val (.long q3), .second, .val (.int p4), .val (.int p5), .val (.int (mg0_4a q1 p2 q3 p4 p5)), .val (.long (mg0_30a q1 p2 q3 p4 p5)), .second, .val (.long (mg0_52a q1 p2 q3 p4 p5)), .second, .unset, .unset, .unset, .unset, .unset] [(.long (mg0_30a q1 p2 q3 p4 p5))])) _
      refine XS.iload X18.here hx rfl (hb hby at_76) rfl ?_
      show Steps p.tables e below (T18.setTop (mkF m 78 #[.val (.long q1), .second, .val (.int p2), .val (.long q3), .second, .val (.int p4), .val (.int p5), .val (.int (mg0_4a q1 p2 q3 p4 p5)), .val (.long (mg0_30a q1 p2 q3 p4 p5)), .second, .val (.long (mg0_52a q1 p2 q3 p4 p5)), .second, .unset, .unset, .unset, .unset, .unset] [(.int (mg0_4a q1 p2 q3 p4 p5)), (.long (mg0_30a q1 p2 q3 p4 p5))])) _
      refine XS.i2l X18.here hx rfl (hb hby at_78) rfl ?_
      show Steps p.tables e below (T18.setTop (mkF m 79 #[.val (.long q1), .second, .val (.int p2), .val (.long q3), .second, .val (.int p4), .val (.int p5), .val (.int (mg0_4a q1 p2 q3 p4 p5)), .val (.long (mg0_30a q1 p2 q3 p4 p5)), .second, .val (.long (mg0_52a q1 p2 q3 p4 p5)), .second, .unset, .unset, .unset, .unset, .unset] [(.long ((mg0_4a q1 p2 q3 p4 p5).toInt64)), (.long (mg0_30a q1 p2 q3 p4 p5))])) _
      refine XS.lrem X18.here hx rfl (hb hby at_79) rfl (own_nz (own_size q1 p2 q3 p4 p5)) ?_
      show Steps p.tables e below (T18.setTop (mkF m 80 #[.val (.long q1), .second, .val (.int p2), .val (.long q3), .second, .val (.int p4), .val (.int p5), .val (.int (mg0_4a q1 p2 q3 p4 p5)), .val (.long (mg0_30a q1 p2 q3 p4 p5)), .second, .val (.long (mg0_52a q1 p2 q3 p4 p5)), .second, .unset, .unset, .unset, .unset, .unset] [(.long ((mg0_30a q1 p2 q3 p4 p5) - ((mg0_30a q1 p2 q3 p4 p5) / ((mg0_4a q1 p2 q3 p4 p5).toInt64)) * ((mg0_4a q1 p2 q3 p4 p5).toInt64)))])) _
      refine XS.goto X18.here hx rfl (pc0 := 80) (pc' := 84) rfl (hb hby at_80) (by decide) (by decide) ?_
      exact k
    · rw [show mg0_71a q1 p2 q3 p4 p5 = (0 : Int64) from if_neg hc19]
      refine ⟨T18, _, X18, N18, e18, fun t k => ?_⟩
      refine pre20 _ ?_
      show Steps p.tables e below (T18.setTop (mkF m 71 #[.val (.long q1), .second, .val (.int p2), .val (.long q3), .second, .val (.int p4), .val (.int p5), .val (.int (mg0_4a q1 p2 q3 p4 p5)), .val (.long (mg0_30a q1 p2 q3 p4 p5)), .second, .val (.long (mg0_52a q1 p2 q3 p4 p5)), .second, .unset, .unset, .unset, .unset, .unset] [(.int (lcmpW (mg0_30a q1 p2 q3 p4 p5) (0 : Int64)))])) _
      refine XS.ifYes X18.here hx rfl (pc0 := 71) (pc' := 83) rfl (hb hby at_71) rfl ((if0 _ _).trans (flt (fun q => hc19 ((lw_gt (mg0_30a q1 p2 q3 p4 p5) (0 : Int64)).mp q))).2.2.2) (by decide) (by decide) ?_
      show Steps p.tables e below (T18.setTop (mkF m 83 #[.val (.long q1), .second, .val (.int p2), .val (.long q3), .second, .val (.int p4), .val (.int p5), .val (.int (mg0_4a q1 p2 q3 p4 p5)), .val (.long (mg0_30a q1 p2 q3 p4 p5)), .second, .val (.long (mg0_52a q1 p2 q3 p4 p5)), .second, .unset, .unset, .unset, .unset, .unset] [])) _
      refine XS.lconst X18.here hx rfl (hb hby at_83) ?_
      exact k
  have pre23 : ∀ t, Steps p.tables e below (T21.setTop (mkF m 90 #[.val (.long q1), .second, .val (.int p2), .val (.long q3), .second, .val (.int p4), .val (.int p5), .val (.int (mg0_4a q1 p2 q3 p4 p5)), .val (.long (mg0_30a q1 p2 q3 p4 p5)), .second, .val (.long (mg0_52a q1 p2 q3 p4 p5)), .second, .val (.long (mg0_71a q1 p2 q3 p4 p5)), .second, .unset, .unset, .unset] [(.int (p4 &&& (1 : Int32)))])) t → Steps p.tables e below (s₁.setTop (entryFrame m #[(.long q1), (.int p2), (.long q3), (.int p4), (.int p5)] maxLocals)) t := fun t k => by
    refine pre21 _ ?_
    show Steps p.tables e below (T21.setTop (mkF m 84 #[.val (.long q1), .second, .val (.int p2), .val (.long q3), .second, .val (.int p4), .val (.int p5), .val (.int (mg0_4a q1 p2 q3 p4 p5)), .val (.long (mg0_30a q1 p2 q3 p4 p5)), .second, .val (.long (mg0_52a q1 p2 q3 p4 p5)), .second, .unset, .unset, .unset, .unset, .unset] [(.long (mg0_71a q1 p2 q3 p4 p5))])) _
    refine XS.lstore X21.here hx rfl (hb hby at_84) rfl (l' := #[.val (.long q1), .second, .val (.int p2), .val (.long q3), .second, .val (.int p4), .val (.int p5), .val (.int (mg0_4a q1 p2 q3 p4 p5)), .val (.long (mg0_30a q1 p2 q3 p4 p5)), .second, .val (.long (mg0_52a q1 p2 q3 p4 p5)), .second, .val (.long (mg0_71a q1 p2 q3 p4 p5)), .second, .unset, .unset, .unset]) rfl ?_
    show Steps p.tables e below (T21.setTop (mkF m 86 #[.val (.long q1), .second, .val (.int p2), .val (.long q3), .second, .val (.int p4), .val (.int p5), .val (.int (mg0_4a q1 p2 q3 p4 p5)), .val (.long (mg0_30a q1 p2 q3 p4 p5)), .second, .val (.long (mg0_52a q1 p2 q3 p4 p5)), .second, .val (.long (mg0_71a q1 p2 q3 p4 p5)), .second, .unset, .unset, .unset] [])) _
    refine XS.iload X21.here hx rfl (hb hby at_86) rfl ?_
    show Steps p.tables e below (T21.setTop (mkF m 88 #[.val (.long q1), .second, .val (.int p2), .val (.long q3), .second, .val (.int p4), .val (.int p5), .val (.int (mg0_4a q1 p2 q3 p4 p5)), .val (.long (mg0_30a q1 p2 q3 p4 p5)), .second, .val (.long (mg0_52a q1 p2 q3 p4 p5)), .second, .val (.long (mg0_71a q1 p2 q3 p4 p5)), .second, .unset, .unset, .unset] [(.int p4)])) _
    refine XS.iconst X21.here hx rfl (hb hby at_88) ?_
    show Steps p.tables e below (T21.setTop (mkF m 89 #[.val (.long q1), .second, .val (.int p2), .val (.long q3), .second, .val (.int p4), .val (.int p5), .val (.int (mg0_4a q1 p2 q3 p4 p5)), .val (.long (mg0_30a q1 p2 q3 p4 p5)), .second, .val (.long (mg0_52a q1 p2 q3 p4 p5)), .second, .val (.long (mg0_71a q1 p2 q3 p4 p5)), .second, .unset, .unset, .unset] [(.int (1 : Int32)), (.int p4)])) _
    refine XS.iand X21.here hx rfl (hb hby at_89) rfl ?_
    exact k
  obtain ⟨T25, L25, X25, N25, e25, pre25⟩ : ∃ T' L', Stand p l e room_1 s m #[(.long q1), (.int p2), (.long q3), (.int p4), (.int p5)] below meth c T' L' 0 0 ∧ Fr n0 L' ∧ T'.heap = h0 ∧ ∀ t, Steps p.tables e below (T'.setTop (mkF m 117 #[.val (.long q1), .second, .val (.int p2), .val (.long q3), .second, .val (.int p4), .val (.int p5), .val (.int (mg0_4a q1 p2 q3 p4 p5)), .val (.long (mg0_30a q1 p2 q3 p4 p5)), .second, .val (.long (mg0_52a q1 p2 q3 p4 p5)), .second, .val (.long (mg0_71a q1 p2 q3 p4 p5)), .second, .unset, .unset, .unset] [(.long (mg0_90a q1 p2 q3 p4 p5))])) t → Steps p.tables e below (s₁.setTop (entryFrame m #[(.long q1), (.int p2), (.long q3), (.int p4), (.int p5)] maxLocals)) t := by
    by_cases hc22 : (p4 &&& (1 : Int32)) = (0 : Int32)
    · rw [show mg0_90a q1 p2 q3 p4 p5 = (q1 &&& (9223372036854775807 : Int64)) from if_pos hc22]
      refine ⟨T21, _, X21, N21, e21, fun t k => ?_⟩
      refine pre23 _ ?_
      show Steps p.tables e below (T21.setTop (mkF m 90 #[.val (.long q1), .second, .val (.int p2), .val (.long q3), .second, .val (.int p4), .val (.int p5), .val (.int (mg0_4a q1 p2 q3 p4 p5)), .val (.long (mg0_30a q1 p2 q3 p4 p5)), .second, .val (.long (mg0_52a q1 p2 q3 p4 p5)), .second, .val (.long (mg0_71a q1 p2 q3 p4 p5)), .second, .unset, .unset, .unset] [(.int (p4 &&& (1 : Int32)))])) _
      refine XS.ifYes X21.here hx rfl (pc0 := 90) (pc' := 112) rfl (hb hby at_90) rfl ((if0 _ _).trans (teq hc22).1) (by decide) (by decide) ?_
      show Steps p.tables e below (T21.setTop (mkF m 112 #[.val (.long q1), .second, .val (.int p2), .val (.long q3), .second, .val (.int p4), .val (.int p5), .val (.int (mg0_4a q1 p2 q3 p4 p5)), .val (.long (mg0_30a q1 p2 q3 p4 p5)), .second, .val (.long (mg0_52a q1 p2 q3 p4 p5)), .second, .val (.long (mg0_71a q1 p2 q3 p4 p5)), .second, .unset, .unset, .unset] [])) _
      refine XS.lloadN X21.here hx rfl (hb hby at_112) rfl ?_
      show Steps p.tables e below (T21.setTop (mkF m 113 #[.val (.long q1), .second, .val (.int p2), .val (.long q3), .second, .val (.int p4), .val (.int p5), .val (.int (mg0_4a q1 p2 q3 p4 p5)), .val (.long (mg0_30a q1 p2 q3 p4 p5)), .second, .val (.long (mg0_52a q1 p2 q3 p4 p5)), .second, .val (.long (mg0_71a q1 p2 q3 p4 p5)), .second, .unset, .unset, .unset] [(.long q1)])) _
      refine X21.ldc2Long hx hown (mvT hZ (hw _ (List.mem_of_getElem? (i := 5) rfl))) (g := (mkF m 113 #[.val (.long q1), .second, .val (.int p2), .val (.long q3), .second, .val (.int p4), .val (.int p5), .val (.int (mg0_4a q1 p2 q3 p4 p5)), .val (.long (mg0_30a q1 p2 q3 p4 p5)), .second, .val (.long (mg0_52a q1 p2 q3 p4 p5)), .second, .val (.long (mg0_71a q1 p2 q3 p4 p5)), .second, .unset, .unset, .unset] [(.long q1)])) rfl (hb hby at_113) _ ?_
      show Steps p.tables e below (T21.setTop (mkF m 116 #[.val (.long q1), .second, .val (.int p2), .val (.long q3), .second, .val (.int p4), .val (.int p5), .val (.int (mg0_4a q1 p2 q3 p4 p5)), .val (.long (mg0_30a q1 p2 q3 p4 p5)), .second, .val (.long (mg0_52a q1 p2 q3 p4 p5)), .second, .val (.long (mg0_71a q1 p2 q3 p4 p5)), .second, .unset, .unset, .unset] [(.long (9223372036854775807 : Int64)), (.long q1)])) _
      refine XS.land X21.here hx rfl (hb hby at_116) rfl ?_
      exact k
    · rw [show mg0_90a q1 p2 q3 p4 p5 = (f3 (0 : Int64) (((mg0_52a q1 p2 q3 p4 p5) - (2 : Int64)) + ((p5 &&& (3 : Int32)).toInt64))) from if_neg hc22]
      obtain ⟨_, _, ⟨T24, L24, k24, n24⟩, -, X24, ⟨Lc24, hQ24, l24, y24, z24⟩, st24⟩ := Jvm.LawKit.callS X21 hx (y := (⟨"java/lang/Math", "max", "(JJ)J"⟩ : MethodName)) hown (mvT hZ (hw _ (List.mem_of_getElem? (i := 11) rfl))) (mvT hZ (hw _ (List.mem_of_getElem? (i := 12) rfl))) (mvT hZ (hw _ (List.mem_of_getElem? (i := 3) rfl))) (mvT hZ (hw _ (List.mem_of_getElem? (i := 13) rfl))) (by decide) (backOf (W := 0) (rm3 l Z a0 hw [] (0 : Int64) (((mg0_52a q1 p2 q3 p4 p5) - (2 : Int64)) + ((p5 &&& (3 : Int32)).toInt64)) h0 n0 Z0) hZ (hw _ (List.mem_of_getElem? (i := 13) rfl)) (hw _ (List.mem_of_getElem? (i := 3) rfl)) (by decide) (by decide)) (g := (mkF m 106 #[.val (.long q1), .second, .val (.int p2), .val (.long q3), .second, .val (.int p4), .val (.int p5), .val (.int (mg0_4a q1 p2 q3 p4 p5)), .val (.long (mg0_30a q1 p2 q3 p4 p5)), .second, .val (.long (mg0_52a q1 p2 q3 p4 p5)), .second, .val (.long (mg0_71a q1 p2 q3 p4 p5)), .second, .unset, .unset, .unset] [(.long (((mg0_52a q1 p2 q3 p4 p5) - (2 : Int64)) + ((p5 &&& (3 : Int32)).toInt64))), (.long (0 : Int64))])) rfl (by rw [hml]; rfl) (argsL := [(.long (0 : Int64)), (.long (((mg0_52a q1 p2 q3 p4 p5) - (2 : Int64)) + ((p5 &&& (3 : Int32)).toInt64)))]) (rest := []) (lenOf pd_1 rfl) rfl (by show 2 * 0 + _ ≤ _; exact Nat.le_of_eq rfl) (hb hby at_106) (fun _ _ => ⟨rfl, e21, (by decide : 0 + 0 ≤ _), (by decide : 0 + 0 ≤ _)⟩)
      dsimp only [Pt.U, Pt.locs, Pt.cells, Pt.slots] at X24 l24 y24 z24 st24 hQ24
      subst l24 y24 z24
      obtain ⟨rfl, N24q, e24⟩ := hQ24
      have N24 := Fr.app N21 N24q
      refine ⟨T24, _, X24, N24, e24, fun t k => ?_⟩
      refine pre23 _ ?_
      show Steps p.tables e below (T21.setTop (mkF m 90 #[.val (.long q1), .second, .val (.int p2), .val (.long q3), .second, .val (.int p4), .val (.int p5), .val (.int (mg0_4a q1 p2 q3 p4 p5)), .val (.long (mg0_30a q1 p2 q3 p4 p5)), .second, .val (.long (mg0_52a q1 p2 q3 p4 p5)), .second, .val (.long (mg0_71a q1 p2 q3 p4 p5)), .second, .unset, .unset, .unset] [(.int (p4 &&& (1 : Int32)))])) _
      refine XS.ifNo X21.here hx rfl (hb hby at_90) rfl ((if0 _ _).trans (feq hc22).1) ?_
      show Steps p.tables e below (T21.setTop (mkF m 93 #[.val (.long q1), .second, .val (.int p2), .val (.long q3), .second, .val (.int p4), .val (.int p5), .val (.int (mg0_4a q1 p2 q3 p4 p5)), .val (.long (mg0_30a q1 p2 q3 p4 p5)), .second, .val (.long (mg0_52a q1 p2 q3 p4 p5)), .second, .val (.long (mg0_71a q1 p2 q3 p4 p5)), .second, .unset, .unset, .unset] [])) _
      refine XS.lconst X21.here hx rfl (hb hby at_93) ?_
      show Steps p.tables e below (T21.setTop (mkF m 94 #[.val (.long q1), .second, .val (.int p2), .val (.long q3), .second, .val (.int p4), .val (.int p5), .val (.int (mg0_4a q1 p2 q3 p4 p5)), .val (.long (mg0_30a q1 p2 q3 p4 p5)), .second, .val (.long (mg0_52a q1 p2 q3 p4 p5)), .second, .val (.long (mg0_71a q1 p2 q3 p4 p5)), .second, .unset, .unset, .unset] [(.long (0 : Int64))])) _
      refine XS.lload X21.here hx rfl (hb hby at_94) rfl ?_
      show Steps p.tables e below (T21.setTop (mkF m 96 #[.val (.long q1), .second, .val (.int p2), .val (.long q3), .second, .val (.int p4), .val (.int p5), .val (.int (mg0_4a q1 p2 q3 p4 p5)), .val (.long (mg0_30a q1 p2 q3 p4 p5)), .second, .val (.long (mg0_52a q1 p2 q3 p4 p5)), .second, .val (.long (mg0_71a q1 p2 q3 p4 p5)), .second, .unset, .unset, .unset] [(.long (mg0_52a q1 p2 q3 p4 p5)), (.long (0 : Int64))])) _
      refine X21.ldc2Long hx hown (mvT hZ (hw _ (List.mem_of_getElem? (i := 10) rfl))) (g := (mkF m 96 #[.val (.long q1), .second, .val (.int p2), .val (.long q3), .second, .val (.int p4), .val (.int p5), .val (.int (mg0_4a q1 p2 q3 p4 p5)), .val (.long (mg0_30a q1 p2 q3 p4 p5)), .second, .val (.long (mg0_52a q1 p2 q3 p4 p5)), .second, .val (.long (mg0_71a q1 p2 q3 p4 p5)), .second, .unset, .unset, .unset] [(.long (mg0_52a q1 p2 q3 p4 p5)), (.long (0 : Int64))])) rfl (hb hby at_96) _ ?_
      show Steps p.tables e below (T21.setTop (mkF m 99 #[.val (.long q1), .second, .val (.int p2), .val (.long q3), .second, .val (.int p4), .val (.int p5), .val (.int (mg0_4a q1 p2 q3 p4 p5)), .val (.long (mg0_30a q1 p2 q3 p4 p5)), .second, .val (.long (mg0_52a q1 p2 q3 p4 p5)), .second, .val (.long (mg0_71a q1 p2 q3 p4 p5)), .second, .unset, .unset, .unset] [(.long (2 : Int64)), (.long (mg0_52a q1 p2 q3 p4 p5)), (.long (0 : Int64))])) _
      refine XS.lsub X21.here hx rfl (hb hby at_99) rfl ?_
      show Steps p.tables e below (T21.setTop (mkF m 100 #[.val (.long q1), .second, .val (.int p2), .val (.long q3), .second, .val (.int p4), .val (.int p5), .val (.int (mg0_4a q1 p2 q3 p4 p5)), .val (.long (mg0_30a q1 p2 q3 p4 p5)), .second, .val (.long (mg0_52a q1 p2 q3 p4 p5)), .second, .val (.long (mg0_71a q1 p2 q3 p4 p5)), .second, .unset, .unset, .unset] [(.long ((mg0_52a q1 p2 q3 p4 p5) - (2 : Int64))), (.long (0 : Int64))])) _
      refine XS.iload X21.here hx rfl (hb hby at_100) rfl ?_
      show Steps p.tables e below (T21.setTop (mkF m 102 #[.val (.long q1), .second, .val (.int p2), .val (.long q3), .second, .val (.int p4), .val (.int p5), .val (.int (mg0_4a q1 p2 q3 p4 p5)), .val (.long (mg0_30a q1 p2 q3 p4 p5)), .second, .val (.long (mg0_52a q1 p2 q3 p4 p5)), .second, .val (.long (mg0_71a q1 p2 q3 p4 p5)), .second, .unset, .unset, .unset] [(.int p5), (.long ((mg0_52a q1 p2 q3 p4 p5) - (2 : Int64))), (.long (0 : Int64))])) _
      refine XS.iconst X21.here hx rfl (hb hby at_102) ?_
      show Steps p.tables e below (T21.setTop (mkF m 103 #[.val (.long q1), .second, .val (.int p2), .val (.long q3), .second, .val (.int p4), .val (.int p5), .val (.int (mg0_4a q1 p2 q3 p4 p5)), .val (.long (mg0_30a q1 p2 q3 p4 p5)), .second, .val (.long (mg0_52a q1 p2 q3 p4 p5)), .second, .val (.long (mg0_71a q1 p2 q3 p4 p5)), .second, .unset, .unset, .unset] [(.int (3 : Int32)), (.int p5), (.long ((mg0_52a q1 p2 q3 p4 p5) - (2 : Int64))), (.long (0 : Int64))])) _
      refine XS.iand X21.here hx rfl (hb hby at_103) rfl ?_
      show Steps p.tables e below (T21.setTop (mkF m 104 #[.val (.long q1), .second, .val (.int p2), .val (.long q3), .second, .val (.int p4), .val (.int p5), .val (.int (mg0_4a q1 p2 q3 p4 p5)), .val (.long (mg0_30a q1 p2 q3 p4 p5)), .second, .val (.long (mg0_52a q1 p2 q3 p4 p5)), .second, .val (.long (mg0_71a q1 p2 q3 p4 p5)), .second, .unset, .unset, .unset] [(.int (p5 &&& (3 : Int32))), (.long ((mg0_52a q1 p2 q3 p4 p5) - (2 : Int64))), (.long (0 : Int64))])) _
      refine XS.i2l X21.here hx rfl (hb hby at_104) rfl ?_
      show Steps p.tables e below (T21.setTop (mkF m 105 #[.val (.long q1), .second, .val (.int p2), .val (.long q3), .second, .val (.int p4), .val (.int p5), .val (.int (mg0_4a q1 p2 q3 p4 p5)), .val (.long (mg0_30a q1 p2 q3 p4 p5)), .second, .val (.long (mg0_52a q1 p2 q3 p4 p5)), .second, .val (.long (mg0_71a q1 p2 q3 p4 p5)), .second, .unset, .unset, .unset] [(.long ((p5 &&& (3 : Int32)).toInt64)), (.long ((mg0_52a q1 p2 q3 p4 p5) - (2 : Int64))), (.long (0 : Int64))])) _
      refine XS.ladd X21.here hx rfl (hb hby at_105) rfl ?_
      show Steps p.tables e below (T21.setTop (mkF m 106 #[.val (.long q1), .second, .val (.int p2), .val (.long q3), .second, .val (.int p4), .val (.int p5), .val (.int (mg0_4a q1 p2 q3 p4 p5)), .val (.long (mg0_30a q1 p2 q3 p4 p5)), .second, .val (.long (mg0_52a q1 p2 q3 p4 p5)), .second, .val (.long (mg0_71a q1 p2 q3 p4 p5)), .second, .unset, .unset, .unset] [(.long (((mg0_52a q1 p2 q3 p4 p5) - (2 : Int64)) + ((p5 &&& (3 : Int32)).toInt64))), (.long (0 : Int64))])) _
      refine st24 _ ?_
      show Steps p.tables e below (T24.setTop (mkF m 109 #[.val (.long q1), .second, .val (.int p2), .val (.long q3), .second, .val (.int p4), .val (.int p5), .val (.int (mg0_4a q1 p2 q3 p4 p5)), .val (.long (mg0_30a q1 p2 q3 p4 p5)), .second, .val (.long (mg0_52a q1 p2 q3 p4 p5)), .second, .val (.long (mg0_71a q1 p2 q3 p4 p5)), .second, .unset, .unset, .unset] [(.long (f3 (0 : Int64) (((mg0_52a q1 p2 q3 p4 p5) - (2 : Int64)) + ((p5 &&& (3 : Int32)).toInt64))))])) _
      refine XS.goto X24.here hx rfl (pc0 := 109) (pc' := 117) rfl (hb hby at_109) (by decide) (by decide) ?_
      exact k
  have pre27 : ∀ t, Steps p.tables e below (T25.setTop (mkF m 123 #[.val (.long q1), .second, .val (.int p2), .val (.long q3), .second, .val (.int p4), .val (.int p5), .val (.int (mg0_4a q1 p2 q3 p4 p5)), .val (.long (mg0_30a q1 p2 q3 p4 p5)), .second, .val (.long (mg0_52a q1 p2 q3 p4 p5)), .second, .val (.long (mg0_71a q1 p2 q3 p4 p5)), .second, .val (.long (mg0_90a q1 p2 q3 p4 p5)), .second, .unset] [(.int (lcmpW (mg0_30a q1 p2 q3 p4 p5) (0 : Int64)))])) t → Steps p.tables e below (s₁.setTop (entryFrame m #[(.long q1), (.int p2), (.long q3), (.int p4), (.int p5)] maxLocals)) t := fun t k => by
    refine pre25 _ ?_
    show Steps p.tables e below (T25.setTop (mkF m 117 #[.val (.long q1), .second, .val (.int p2), .val (.long q3), .second, .val (.int p4), .val (.int p5), .val (.int (mg0_4a q1 p2 q3 p4 p5)), .val (.long (mg0_30a q1 p2 q3 p4 p5)), .second, .val (.long (mg0_52a q1 p2 q3 p4 p5)), .second, .val (.long (mg0_71a q1 p2 q3 p4 p5)), .second, .unset, .unset, .unset] [(.long (mg0_90a q1 p2 q3 p4 p5))])) _
    refine XS.lstore X25.here hx rfl (hb hby at_117) rfl (l' := #[.val (.long q1), .second, .val (.int p2), .val (.long q3), .second, .val (.int p4), .val (.int p5), .val (.int (mg0_4a q1 p2 q3 p4 p5)), .val (.long (mg0_30a q1 p2 q3 p4 p5)), .second, .val (.long (mg0_52a q1 p2 q3 p4 p5)), .second, .val (.long (mg0_71a q1 p2 q3 p4 p5)), .second, .val (.long (mg0_90a q1 p2 q3 p4 p5)), .second, .unset]) rfl ?_
    show Steps p.tables e below (T25.setTop (mkF m 119 #[.val (.long q1), .second, .val (.int p2), .val (.long q3), .second, .val (.int p4), .val (.int p5), .val (.int (mg0_4a q1 p2 q3 p4 p5)), .val (.long (mg0_30a q1 p2 q3 p4 p5)), .second, .val (.long (mg0_52a q1 p2 q3 p4 p5)), .second, .val (.long (mg0_71a q1 p2 q3 p4 p5)), .second, .val (.long (mg0_90a q1 p2 q3 p4 p5)), .second, .unset] [])) _
    refine XS.lload X25.here hx rfl (hb hby at_119) rfl ?_
    show Steps p.tables e below (T25.setTop (mkF m 121 #[.val (.long q1), .second, .val (.int p2), .val (.long q3), .second, .val (.int p4), .val (.int p5), .val (.int (mg0_4a q1 p2 q3 p4 p5)), .val (.long (mg0_30a q1 p2 q3 p4 p5)), .second, .val (.long (mg0_52a q1 p2 q3 p4 p5)), .second, .val (.long (mg0_71a q1 p2 q3 p4 p5)), .second, .val (.long (mg0_90a q1 p2 q3 p4 p5)), .second, .unset] [(.long (mg0_30a q1 p2 q3 p4 p5))])) _
    refine XS.lconst X25.here hx rfl (hb hby at_121) ?_
    show Steps p.tables e below (T25.setTop (mkF m 122 #[.val (.long q1), .second, .val (.int p2), .val (.long q3), .second, .val (.int p4), .val (.int p5), .val (.int (mg0_4a q1 p2 q3 p4 p5)), .val (.long (mg0_30a q1 p2 q3 p4 p5)), .second, .val (.long (mg0_52a q1 p2 q3 p4 p5)), .second, .val (.long (mg0_71a q1 p2 q3 p4 p5)), .second, .val (.long (mg0_90a q1 p2 q3 p4 p5)), .second, .unset] [(.long (0 : Int64)), (.long (mg0_30a q1 p2 q3 p4 p5))])) _
    refine XS.lcmp X25.here hx rfl (hb hby at_122) rfl ?_
    exact k
  obtain ⟨T37, L37, X37, N37, e37, pre37⟩ : ∃ T' L', Stand p l e room_1 s m #[(.long q1), (.int p2), (.long q3), (.int p4), (.int p5)] below meth c T' L' 0 0 ∧ Fr n0 L' ∧ T'.heap = h0 ∧ ∀ t, Steps p.tables e below (T'.setTop (mkF m 154 #[.val (.long q1), .second, .val (.int p2), .val (.long q3), .second, .val (.int p4), .val (.int p5), .val (.int (mg0_4a q1 p2 q3 p4 p5)), .val (.long (mg0_30a q1 p2 q3 p4 p5)), .second, .val (.long (mg0_52a q1 p2 q3 p4 p5)), .second, .val (.long (mg0_71a q1 p2 q3 p4 p5)), .second, .val (.long (mg0_90a q1 p2 q3 p4 p5)), .second, .unset] [(.int (mg0_123a q1 p2 q3 p4 p5))])) t → Steps p.tables e below (s₁.setTop (entryFrame m #[(.long q1), (.int p2), (.long q3), (.int p4), (.int p5)] maxLocals)) t := by
    by_cases hc26 : (0 : Int64) < (mg0_30a q1 p2 q3 p4 p5)
    · rw [show mg0_123a q1 p2 q3 p4 p5 = (mg0_131a q1 p2 q3 p4 p5) from if_pos hc26]
      have pre29 : ∀ t, Steps p.tables e below (T25.setTop (mkF m 131 #[.val (.long q1), .second, .val (.int p2), .val (.long q3), .second, .val (.int p4), .val (.int p5), .val (.int (mg0_4a q1 p2 q3 p4 p5)), .val (.long (mg0_30a q1 p2 q3 p4 p5)), .second, .val (.long (mg0_52a q1 p2 q3 p4 p5)), .second, .val (.long (mg0_71a q1 p2 q3 p4 p5)), .second, .val (.long (mg0_90a q1 p2 q3 p4 p5)), .second, .unset] [(.int (lcmpW (mg0_90a q1 p2 q3 p4 p5) (mg0_52a q1 p2 q3 p4 p5)))])) t → Steps p.tables e below (s₁.setTop (entryFrame m #[(.long q1), (.int p2), (.long q3), (.int p4), (.int p5)] maxLocals)) t := fun t k => by
        refine pre27 _ ?_
        show Steps p.tables e below (T25.setTop (mkF m 123 #[.val (.long q1), .second, .val (.int p2), .val (.long q3), .second, .val (.int p4), .val (.int p5), .val (.int (mg0_4a q1 p2 q3 p4 p5)), .val (.long (mg0_30a q1 p2 q3 p4 p5)), .second, .val (.long (mg0_52a q1 p2 q3 p4 p5)), .second, .val (.long (mg0_71a q1 p2 q3 p4 p5)), .second, .val (.long (mg0_90a q1 p2 q3 p4 p5)), .second, .unset] [(.int (lcmpW (mg0_30a q1 p2 q3 p4 p5) (0 : Int64)))])) _
        refine XS.ifNo X25.here hx rfl (hb hby at_123) rfl ((if0 _ _).trans (tlt ((lw_gt (mg0_30a q1 p2 q3 p4 p5) (0 : Int64)).mpr hc26)).2.2.2) ?_
        show Steps p.tables e below (T25.setTop (mkF m 126 #[.val (.long q1), .second, .val (.int p2), .val (.long q3), .second, .val (.int p4), .val (.int p5), .val (.int (mg0_4a q1 p2 q3 p4 p5)), .val (.long (mg0_30a q1 p2 q3 p4 p5)), .second, .val (.long (mg0_52a q1 p2 q3 p4 p5)), .second, .val (.long (mg0_71a q1 p2 q3 p4 p5)), .second, .val (.long (mg0_90a q1 p2 q3 p4 p5)), .second, .unset] [])) _
        refine XS.lload X25.here hx rfl (hb hby at_126) rfl ?_
        show Steps p.tables e below (T25.setTop (mkF m 128 #[.val (.long q1), .second, .val (.int p2), .val (.long q3), .second, .val (.int p4), .val (.int p5), .val (.int (mg0_4a q1 p2 q3 p4 p5)), .val (.long (mg0_30a q1 p2 q3 p4 p5)), .second, .val (.long (mg0_52a q1 p2 q3 p4 p5)), .second, .val (.long (mg0_71a q1 p2 q3 p4 p5)), .second, .val (.long (mg0_90a q1 p2 q3 p4 p5)), .second, .unset] [(.long (mg0_90a q1 p2 q3 p4 p5))])) _
        refine XS.lload X25.here hx rfl (hb hby at_128) rfl ?_
        show Steps p.tables e below (T25.setTop (mkF m 130 #[.val (.long q1), .second, .val (.int p2), .val (.long q3), .second, .val (.int p4), .val (.int p5), .val (.int (mg0_4a q1 p2 q3 p4 p5)), .val (.long (mg0_30a q1 p2 q3 p4 p5)), .second, .val (.long (mg0_52a q1 p2 q3 p4 p5)), .second, .val (.long (mg0_71a q1 p2 q3 p4 p5)), .second, .val (.long (mg0_90a q1 p2 q3 p4 p5)), .second, .unset] [(.long (mg0_52a q1 p2 q3 p4 p5)), (.long (mg0_90a q1 p2 q3 p4 p5))])) _
        refine XS.lcmp X25.here hx rfl (hb hby at_130) rfl ?_
        exact k
      obtain ⟨T36, L36, X36, N36, e36, pre36⟩ : ∃ T' L', Stand p l e room_1 s m #[(.long q1), (.int p2), (.long q3), (.int p4), (.int p5)] below meth c T' L' 0 0 ∧ Fr n0 L' ∧ T'.heap = h0 ∧ ∀ t, Steps p.tables e below (T'.setTop (mkF m 154 #[.val (.long q1), .second, .val (.int p2), .val (.long q3), .second, .val (.int p4), .val (.int p5), .val (.int (mg0_4a q1 p2 q3 p4 p5)), .val (.long (mg0_30a q1 p2 q3 p4 p5)), .second, .val (.long (mg0_52a q1 p2 q3 p4 p5)), .second, .val (.long (mg0_71a q1 p2 q3 p4 p5)), .second, .val (.long (mg0_90a q1 p2 q3 p4 p5)), .second, .unset] [(.int (mg0_131a q1 p2 q3 p4 p5))])) t → Steps p.tables e below (s₁.setTop (entryFrame m #[(.long q1), (.int p2), (.long q3), (.int p4), (.int p5)] maxLocals)) t := by
        by_cases hc28 : (mg0_90a q1 p2 q3 p4 p5) < (mg0_52a q1 p2 q3 p4 p5)
        · rw [show mg0_131a q1 p2 q3 p4 p5 = (1 : Int32) from if_pos hc28]
          refine ⟨T25, _, X25, N25, e25, fun t k => ?_⟩
          refine pre29 _ ?_
          show Steps p.tables e below (T25.setTop (mkF m 131 #[.val (.long q1), .second, .val (.int p2), .val (.long q3), .second, .val (.int p4), .val (.int p5), .val (.int (mg0_4a q1 p2 q3 p4 p5)), .val (.long (mg0_30a q1 p2 q3 p4 p5)), .second, .val (.long (mg0_52a q1 p2 q3 p4 p5)), .second, .val (.long (mg0_71a q1 p2 q3 p4 p5)), .second, .val (.long (mg0_90a q1 p2 q3 p4 p5)), .second, .unset] [(.int (lcmpW (mg0_90a q1 p2 q3 p4 p5) (mg0_52a q1 p2 q3 p4 p5)))])) _
          refine XS.ifYes X25.here hx rfl (pc0 := 131) (pc' := 149) rfl (hb hby at_131) rfl ((if0 _ _).trans (tlt ((lw_lt (mg0_90a q1 p2 q3 p4 p5) (mg0_52a q1 p2 q3 p4 p5)).mpr hc28)).1) (by decide) (by decide) ?_
          show Steps p.tables e below (T25.setTop (mkF m 149 #[.val (.long q1), .second, .val (.int p2), .val (.long q3), .second, .val (.int p4), .val (.int p5), .val (.int (mg0_4a q1 p2 q3 p4 p5)), .val (.long (mg0_30a q1 p2 q3 p4 p5)), .second, .val (.long (mg0_52a q1 p2 q3 p4 p5)), .second, .val (.long (mg0_71a q1 p2 q3 p4 p5)), .second, .val (.long (mg0_90a q1 p2 q3 p4 p5)), .second, .unset] [])) _
          refine XS.iconst X25.here hx rfl (hb hby at_149) ?_
          show Steps p.tables e below (T25.setTop (mkF m 150 #[.val (.long q1), .second, .val (.int p2), .val (.long q3), .second, .val (.int p4), .val (.int p5), .val (.int (mg0_4a q1 p2 q3 p4 p5)), .val (.long (mg0_30a q1 p2 q3 p4 p5)), .second, .val (.long (mg0_52a q1 p2 q3 p4 p5)), .second, .val (.long (mg0_71a q1 p2 q3 p4 p5)), .second, .val (.long (mg0_90a q1 p2 q3 p4 p5)), .second, .unset] [(.int (1 : Int32))])) _
          refine XS.goto X25.here hx rfl (pc0 := 150) (pc' := 154) rfl (hb hby at_150) (by decide) (by decide) ?_
          exact k
        · rw [show mg0_131a q1 p2 q3 p4 p5 = (mg0_139a q1 p2 q3 p4 p5) from if_neg hc28]
          have pre31 : ∀ t, Steps p.tables e below (T25.setTop (mkF m 139 #[.val (.long q1), .second, .val (.int p2), .val (.long q3), .second, .val (.int p4), .val (.int p5), .val (.int (mg0_4a q1 p2 q3 p4 p5)), .val (.long (mg0_30a q1 p2 q3 p4 p5)), .second, .val (.long (mg0_52a q1 p2 q3 p4 p5)), .second, .val (.long (mg0_71a q1 p2 q3 p4 p5)), .second, .val (.long (mg0_90a q1 p2 q3 p4 p5)), .second, .unset] [(.int (lcmpW (mg0_90a q1 p2 q3 p4 p5) (mg0_52a q1 p2 q3 p4 p5)))])) t → Steps p.tables e below (s₁.setTop (entryFrame m #[(.long q1), (.int p2), (.long q3), (.int p4), (.int p5)] maxLocals)) t := fun t k => by
            refine pre29 _ ?_
            show Steps p.tables e below (T25.setTop (mkF m 131 #[.val (.long q1), .second, .val (.int p2), .val (.long q3), .second, .val (.int p4), .val (.int p5), .val (.int (mg0_4a q1 p2 q3 p4 p5)), .val (.long (mg0_30a q1 p2 q3 p4 p5)), .second, .val (.long (mg0_52a q1 p2 q3 p4 p5)), .second, .val (.long (mg0_71a q1 p2 q3 p4 p5)), .second, .val (.long (mg0_90a q1 p2 q3 p4 p5)), .second, .unset] [(.int (lcmpW (mg0_90a q1 p2 q3 p4 p5) (mg0_52a q1 p2 q3 p4 p5)))])) _
            refine XS.ifNo X25.here hx rfl (hb hby at_131) rfl ((if0 _ _).trans (flt (fun q => hc28 ((lw_lt (mg0_90a q1 p2 q3 p4 p5) (mg0_52a q1 p2 q3 p4 p5)).mp q))).1) ?_
            show Steps p.tables e below (T25.setTop (mkF m 134 #[.val (.long q1), .second, .val (.int p2), .val (.long q3), .second, .val (.int p4), .val (.int p5), .val (.int (mg0_4a q1 p2 q3 p4 p5)), .val (.long (mg0_30a q1 p2 q3 p4 p5)), .second, .val (.long (mg0_52a q1 p2 q3 p4 p5)), .second, .val (.long (mg0_71a q1 p2 q3 p4 p5)), .second, .val (.long (mg0_90a q1 p2 q3 p4 p5)), .second, .unset] [])) _
            refine XS.lload X25.here hx rfl (hb hby at_134) rfl ?_
            show Steps p.tables e below (T25.setTop (mkF m 136 #[.val (.long q1), .second, .val (.int p2), .val (.long q3), .second, .val (.int p4), .val (.int p5), .val (.int (mg0_4a q1 p2 q3 p4 p5)), .val (.long (mg0_30a q1 p2 q3 p4 p5)), .second, .val (.long (mg0_52a q1 p2 q3 p4 p5)), .second, .val (.long (mg0_71a q1 p2 q3 p4 p5)), .second, .val (.long (mg0_90a q1 p2 q3 p4 p5)), .second, .unset] [(.long (mg0_90a q1 p2 q3 p4 p5))])) _
            refine XS.lload X25.here hx rfl (hb hby at_136) rfl ?_
            show Steps p.tables e below (T25.setTop (mkF m 138 #[.val (.long q1), .second, .val (.int p2), .val (.long q3), .second, .val (.int p4), .val (.int p5), .val (.int (mg0_4a q1 p2 q3 p4 p5)), .val (.long (mg0_30a q1 p2 q3 p4 p5)), .second, .val (.long (mg0_52a q1 p2 q3 p4 p5)), .second, .val (.long (mg0_71a q1 p2 q3 p4 p5)), .second, .val (.long (mg0_90a q1 p2 q3 p4 p5)), .second, .unset] [(.long (mg0_52a q1 p2 q3 p4 p5)), (.long (mg0_90a q1 p2 q3 p4 p5))])) _
            refine XS.lcmp X25.here hx rfl (hb hby at_138) rfl ?_
            exact k
          obtain ⟨T35, L35, X35, N35, e35, pre35⟩ : ∃ T' L', Stand p l e room_1 s m #[(.long q1), (.int p2), (.long q3), (.int p4), (.int p5)] below meth c T' L' 0 0 ∧ Fr n0 L' ∧ T'.heap = h0 ∧ ∀ t, Steps p.tables e below (T'.setTop (mkF m 154 #[.val (.long q1), .second, .val (.int p2), .val (.long q3), .second, .val (.int p4), .val (.int p5), .val (.int (mg0_4a q1 p2 q3 p4 p5)), .val (.long (mg0_30a q1 p2 q3 p4 p5)), .second, .val (.long (mg0_52a q1 p2 q3 p4 p5)), .second, .val (.long (mg0_71a q1 p2 q3 p4 p5)), .second, .val (.long (mg0_90a q1 p2 q3 p4 p5)), .second, .unset] [(.int (mg0_139a q1 p2 q3 p4 p5))])) t → Steps p.tables e below (s₁.setTop (entryFrame m #[(.long q1), (.int p2), (.long q3), (.int p4), (.int p5)] maxLocals)) t := by
            by_cases hc30 : (mg0_90a q1 p2 q3 p4 p5) = (mg0_52a q1 p2 q3 p4 p5)
            · rw [show mg0_139a q1 p2 q3 p4 p5 = (mg0_146a q1 p2 q3 p4 p5) from if_pos hc30]
              have pre33 : ∀ t, Steps p.tables e below (T25.setTop (mkF m 146 #[.val (.long q1), .second, .val (.int p2), .val (.long q3), .second, .val (.int p4), .val (.int p5), .val (.int (mg0_4a q1 p2 q3 p4 p5)), .val (.long (mg0_30a q1 p2 q3 p4 p5)), .second, .val (.long (mg0_52a q1 p2 q3 p4 p5)), .second, .val (.long (mg0_71a q1 p2 q3 p4 p5)), .second, .val (.long (mg0_90a q1 p2 q3 p4 p5)), .second, .unset] [(.int (lcmpW (mg0_71a q1 p2 q3 p4 p5) (0 : Int64)))])) t → Steps p.tables e below (s₁.setTop (entryFrame m #[(.long q1), (.int p2), (.long q3), (.int p4), (.int p5)] maxLocals)) t := fun t k => by
                refine pre31 _ ?_
                show Steps p.tables e below (T25.setTop (mkF m 139 #[.val (.long q1), .second, .val (.int p2), .val (.long q3), .second, .val (.int p4), .val (.int p5), .val (.int (mg0_4a q1 p2 q3 p4 p5)), .val (.long (mg0_30a q1 p2 q3 p4 p5)), .second, .val (.long (mg0_52a q1 p2 q3 p4 p5)), .second, .val (.long (mg0_71a q1 p2 q3 p4 p5)), .second, .val (.long (mg0_90a q1 p2 q3 p4 p5)), .second, .unset] [(.int (lcmpW (mg0_90a q1 p2 q3 p4 p5) (mg0_52a q1 p2 q3 p4 p5)))])) _
                refine XS.ifNo X25.here hx rfl (hb hby at_139) rfl ((if0 _ _).trans (teq ((lw_eq (mg0_90a q1 p2 q3 p4 p5) (mg0_52a q1 p2 q3 p4 p5)).mpr hc30)).2) ?_
                show Steps p.tables e below (T25.setTop (mkF m 142 #[.val (.long q1), .second, .val (.int p2), .val (.long q3), .second, .val (.int p4), .val (.int p5), .val (.int (mg0_4a q1 p2 q3 p4 p5)), .val (.long (mg0_30a q1 p2 q3 p4 p5)), .second, .val (.long (mg0_52a q1 p2 q3 p4 p5)), .second, .val (.long (mg0_71a q1 p2 q3 p4 p5)), .second, .val (.long (mg0_90a q1 p2 q3 p4 p5)), .second, .unset] [])) _
                refine XS.lload X25.here hx rfl (hb hby at_142) rfl ?_
                show Steps p.tables e below (T25.setTop (mkF m 144 #[.val (.long q1), .second, .val (.int p2), .val (.long q3), .second, .val (.int p4), .val (.int p5), .val (.int (mg0_4a q1 p2 q3 p4 p5)), .val (.long (mg0_30a q1 p2 q3 p4 p5)), .second, .val (.long (mg0_52a q1 p2 q3 p4 p5)), .second, .val (.long (mg0_71a q1 p2 q3 p4 p5)), .second, .val (.long (mg0_90a q1 p2 q3 p4 p5)), .second, .unset] [(.long (mg0_71a q1 p2 q3 p4 p5))])) _
                refine XS.lconst X25.here hx rfl (hb hby at_144) ?_
                show Steps p.tables e below (T25.setTop (mkF m 145 #[.val (.long q1), .second, .val (.int p2), .val (.long q3), .second, .val (.int p4), .val (.int p5), .val (.int (mg0_4a q1 p2 q3 p4 p5)), .val (.long (mg0_30a q1 p2 q3 p4 p5)), .second, .val (.long (mg0_52a q1 p2 q3 p4 p5)), .second, .val (.long (mg0_71a q1 p2 q3 p4 p5)), .second, .val (.long (mg0_90a q1 p2 q3 p4 p5)), .second, .unset] [(.long (0 : Int64)), (.long (mg0_71a q1 p2 q3 p4 p5))])) _
                refine XS.lcmp X25.here hx rfl (hb hby at_145) rfl ?_
                exact k
              obtain ⟨T34, L34, X34, N34, e34, pre34⟩ : ∃ T' L', Stand p l e room_1 s m #[(.long q1), (.int p2), (.long q3), (.int p4), (.int p5)] below meth c T' L' 0 0 ∧ Fr n0 L' ∧ T'.heap = h0 ∧ ∀ t, Steps p.tables e below (T'.setTop (mkF m 154 #[.val (.long q1), .second, .val (.int p2), .val (.long q3), .second, .val (.int p4), .val (.int p5), .val (.int (mg0_4a q1 p2 q3 p4 p5)), .val (.long (mg0_30a q1 p2 q3 p4 p5)), .second, .val (.long (mg0_52a q1 p2 q3 p4 p5)), .second, .val (.long (mg0_71a q1 p2 q3 p4 p5)), .second, .val (.long (mg0_90a q1 p2 q3 p4 p5)), .second, .unset] [(.int (mg0_146a q1 p2 q3 p4 p5))])) t → Steps p.tables e below (s₁.setTop (entryFrame m #[(.long q1), (.int p2), (.long q3), (.int p4), (.int p5)] maxLocals)) t := by
                by_cases hc32 : (mg0_71a q1 p2 q3 p4 p5) = (0 : Int64)
                · rw [show mg0_146a q1 p2 q3 p4 p5 = (0 : Int32) from if_pos hc32]
                  refine ⟨T25, _, X25, N25, e25, fun t k => ?_⟩
                  refine pre33 _ ?_
                  show Steps p.tables e below (T25.setTop (mkF m 146 #[.val (.long q1), .second, .val (.int p2), .val (.long q3), .second, .val (.int p4), .val (.int p5), .val (.int (mg0_4a q1 p2 q3 p4 p5)), .val (.long (mg0_30a q1 p2 q3 p4 p5)), .second, .val (.long (mg0_52a q1 p2 q3 p4 p5)), .second, .val (.long (mg0_71a q1 p2 q3 p4 p5)), .second, .val (.long (mg0_90a q1 p2 q3 p4 p5)), .second, .unset] [(.int (lcmpW (mg0_71a q1 p2 q3 p4 p5) (0 : Int64)))])) _
                  refine XS.ifYes X25.here hx rfl (pc0 := 146) (pc' := 153) rfl (hb hby at_146) rfl ((if0 _ _).trans (teq ((lw_eq (mg0_71a q1 p2 q3 p4 p5) (0 : Int64)).mpr hc32)).1) (by decide) (by decide) ?_
                  show Steps p.tables e below (T25.setTop (mkF m 153 #[.val (.long q1), .second, .val (.int p2), .val (.long q3), .second, .val (.int p4), .val (.int p5), .val (.int (mg0_4a q1 p2 q3 p4 p5)), .val (.long (mg0_30a q1 p2 q3 p4 p5)), .second, .val (.long (mg0_52a q1 p2 q3 p4 p5)), .second, .val (.long (mg0_71a q1 p2 q3 p4 p5)), .second, .val (.long (mg0_90a q1 p2 q3 p4 p5)), .second, .unset] [])) _
                  refine XS.iconst X25.here hx rfl (hb hby at_153) ?_
                  exact k
                · rw [show mg0_146a q1 p2 q3 p4 p5 = (1 : Int32) from if_neg hc32]
                  refine ⟨T25, _, X25, N25, e25, fun t k => ?_⟩
                  refine pre33 _ ?_
                  show Steps p.tables e below (T25.setTop (mkF m 146 #[.val (.long q1), .second, .val (.int p2), .val (.long q3), .second, .val (.int p4), .val (.int p5), .val (.int (mg0_4a q1 p2 q3 p4 p5)), .val (.long (mg0_30a q1 p2 q3 p4 p5)), .second, .val (.long (mg0_52a q1 p2 q3 p4 p5)), .second, .val (.long (mg0_71a q1 p2 q3 p4 p5)), .second, .val (.long (mg0_90a q1 p2 q3 p4 p5)), .second, .unset] [(.int (lcmpW (mg0_71a q1 p2 q3 p4 p5) (0 : Int64)))])) _
                  refine XS.ifNo X25.here hx rfl (hb hby at_146) rfl ((if0 _ _).trans (feq (fun q => hc32 ((lw_eq (mg0_71a q1 p2 q3 p4 p5) (0 : Int64)).mp q))).1) ?_
                  show Steps p.tables e below (T25.setTop (mkF m 149 #[.val (.long q1), .second, .val (.int p2), .val (.long q3), .second, .val (.int p4), .val (.int p5), .val (.int (mg0_4a q1 p2 q3 p4 p5)), .val (.long (mg0_30a q1 p2 q3 p4 p5)), .second, .val (.long (mg0_52a q1 p2 q3 p4 p5)), .second, .val (.long (mg0_71a q1 p2 q3 p4 p5)), .second, .val (.long (mg0_90a q1 p2 q3 p4 p5)), .second, .unset] [])) _
                  refine XS.iconst X25.here hx rfl (hb hby at_149) ?_
                  show Steps p.tables e below (T25.setTop (mkF m 150 #[.val (.long q1), .second, .val (.int p2), .val (.long q3), .second, .val (.int p4), .val (.int p5), .val (.int (mg0_4a q1 p2 q3 p4 p5)), .val (.long (mg0_30a q1 p2 q3 p4 p5)), .second, .val (.long (mg0_52a q1 p2 q3 p4 p5)), .second, .val (.long (mg0_71a q1 p2 q3 p4 p5)), .second, .val (.long (mg0_90a q1 p2 q3 p4 p5)), .second, .unset] [(.int (1 : Int32))])) _
                  refine XS.goto X25.here hx rfl (pc0 := 150) (pc' := 154) rfl (hb hby at_150) (by decide) (by decide) ?_
                  exact k
              refine ⟨T34, _, X34, N34, e34, fun t k => ?_⟩
              refine pre34 _ ?_
              exact k
            · rw [show mg0_139a q1 p2 q3 p4 p5 = (0 : Int32) from if_neg hc30]
              refine ⟨T25, _, X25, N25, e25, fun t k => ?_⟩
              refine pre31 _ ?_
              show Steps p.tables e below (T25.setTop (mkF m 139 #[.val (.long q1), .second, .val (.int p2), .val (.long q3), .second, .val (.int p4), .val (.int p5), .val (.int (mg0_4a q1 p2 q3 p4 p5)), .val (.long (mg0_30a q1 p2 q3 p4 p5)), .second, .val (.long (mg0_52a q1 p2 q3 p4 p5)), .second, .val (.long (mg0_71a q1 p2 q3 p4 p5)), .second, .val (.long (mg0_90a q1 p2 q3 p4 p5)), .second, .unset] [(.int (lcmpW (mg0_90a q1 p2 q3 p4 p5) (mg0_52a q1 p2 q3 p4 p5)))])) _
              refine XS.ifYes X25.here hx rfl (pc0 := 139) (pc' := 153) rfl (hb hby at_139) rfl ((if0 _ _).trans (feq (fun q => hc30 ((lw_eq (mg0_90a q1 p2 q3 p4 p5) (mg0_52a q1 p2 q3 p4 p5)).mp q))).2) (by decide) (by decide) ?_
              show Steps p.tables e below (T25.setTop (mkF m 153 #[.val (.long q1), .second, .val (.int p2), .val (.long q3), .second, .val (.int p4), .val (.int p5), .val (.int (mg0_4a q1 p2 q3 p4 p5)), .val (.long (mg0_30a q1 p2 q3 p4 p5)), .second, .val (.long (mg0_52a q1 p2 q3 p4 p5)), .second, .val (.long (mg0_71a q1 p2 q3 p4 p5)), .second, .val (.long (mg0_90a q1 p2 q3 p4 p5)), .second, .unset] [])) _
              refine XS.iconst X25.here hx rfl (hb hby at_153) ?_
              exact k
          refine ⟨T35, _, X35, N35, e35, fun t k => ?_⟩
          refine pre35 _ ?_
          exact k
      refine ⟨T36, _, X36, N36, e36, fun t k => ?_⟩
      refine pre36 _ ?_
      exact k
    · rw [show mg0_123a q1 p2 q3 p4 p5 = (0 : Int32) from if_neg hc26]
      refine ⟨T25, _, X25, N25, e25, fun t k => ?_⟩
      refine pre27 _ ?_
      show Steps p.tables e below (T25.setTop (mkF m 123 #[.val (.long q1), .second, .val (.int p2), .val (.long q3), .second, .val (.int p4), .val (.int p5), .val (.int (mg0_4a q1 p2 q3 p4 p5)), .val (.long (mg0_30a q1 p2 q3 p4 p5)), .second, .val (.long (mg0_52a q1 p2 q3 p4 p5)), .second, .val (.long (mg0_71a q1 p2 q3 p4 p5)), .second, .val (.long (mg0_90a q1 p2 q3 p4 p5)), .second, .unset] [(.int (lcmpW (mg0_30a q1 p2 q3 p4 p5) (0 : Int64)))])) _
      refine XS.ifYes X25.here hx rfl (pc0 := 123) (pc' := 153) rfl (hb hby at_123) rfl ((if0 _ _).trans (flt (fun q => hc26 ((lw_gt (mg0_30a q1 p2 q3 p4 p5) (0 : Int64)).mp q))).2.2.2) (by decide) (by decide) ?_
      show Steps p.tables e below (T25.setTop (mkF m 153 #[.val (.long q1), .second, .val (.int p2), .val (.long q3), .second, .val (.int p4), .val (.int p5), .val (.int (mg0_4a q1 p2 q3 p4 p5)), .val (.long (mg0_30a q1 p2 q3 p4 p5)), .second, .val (.long (mg0_52a q1 p2 q3 p4 p5)), .second, .val (.long (mg0_71a q1 p2 q3 p4 p5)), .second, .val (.long (mg0_90a q1 p2 q3 p4 p5)), .second, .unset] [])) _
      refine XS.iconst X25.here hx rfl (hb hby at_153) ?_
      exact k
  obtain ⟨_, _, ⟨T38, L38, k38, n38⟩, -, X38, ⟨Lc38, hQ38, l38, y38, z38⟩, st38⟩ := Jvm.LawKit.callS X37 hx (y := (⟨"com/example/cowry/cowry/core/Page", "holdsAny", "(JIJ)Z"⟩ : MethodName)) hown (mvT hZ (hw _ (List.mem_of_getElem? (i := 6) rfl))) (mvT hZ (hw _ (List.mem_of_getElem? (i := 7) rfl))) (mvT hZ (hw _ (List.mem_of_getElem? (i := 8) rfl))) (mvT hZ (hw _ (List.mem_of_getElem? (i := 9) rfl))) (by decide) (backOf (W := 0) (rm2 l Z a0 hw [] (mg0_90a q1 p2 q3 p4 p5) (mg0_4a q1 p2 q3 p4 p5) (mg0_30a q1 p2 q3 p4 p5) h0 n0 Z0 (own_nz (own_size q1 p2 q3 p4 p5))) hZ (hw _ (List.mem_of_getElem? (i := 9) rfl)) (hw _ (List.mem_of_getElem? (i := 8) rfl)) (by decide) (by decide)) (g := (mkF m 162 #[.val (.long q1), .second, .val (.int p2), .val (.long q3), .second, .val (.int p4), .val (.int p5), .val (.int (mg0_4a q1 p2 q3 p4 p5)), .val (.long (mg0_30a q1 p2 q3 p4 p5)), .second, .val (.long (mg0_52a q1 p2 q3 p4 p5)), .second, .val (.long (mg0_71a q1 p2 q3 p4 p5)), .second, .val (.long (mg0_90a q1 p2 q3 p4 p5)), .second, .val (.int (mg0_123a q1 p2 q3 p4 p5))] [(.long (mg0_30a q1 p2 q3 p4 p5)), (.int (mg0_4a q1 p2 q3 p4 p5)), (.long (mg0_90a q1 p2 q3 p4 p5))])) rfl (by rw [hml]; rfl) (argsL := [(.long (mg0_90a q1 p2 q3 p4 p5)), (.int (mg0_4a q1 p2 q3 p4 p5)), (.long (mg0_30a q1 p2 q3 p4 p5))]) (rest := []) (lenOf pd_2 rfl) rfl (by show 2 * 0 + _ ≤ _; exact Nat.le_of_eq rfl) (hb hby at_162) (fun _ _ => ⟨rfl, e37, (by decide : 0 + 0 ≤ _), (by decide : 0 + 0 ≤ _)⟩)
  dsimp only [Pt.U, Pt.locs, Pt.cells, Pt.slots] at X38 l38 y38 z38 st38 hQ38
  subst l38 y38 z38
  obtain ⟨rfl, N38q, e38⟩ := hQ38
  have N38 := Fr.app N37 N38q
  have pre40 : ∀ t, Steps p.tables e below (T38.setTop (mkF m 167 #[.val (.long q1), .second, .val (.int p2), .val (.long q3), .second, .val (.int p4), .val (.int p5), .val (.int (mg0_4a q1 p2 q3 p4 p5)), .val (.long (mg0_30a q1 p2 q3 p4 p5)), .second, .val (.long (mg0_52a q1 p2 q3 p4 p5)), .second, .val (.long (mg0_71a q1 p2 q3 p4 p5)), .second, .val (.long (mg0_90a q1 p2 q3 p4 p5)), .second, .val (.int (mg0_123a q1 p2 q3 p4 p5))] [(.int (mg0_123a q1 p2 q3 p4 p5)), (.int (f2 (mg0_90a q1 p2 q3 p4 p5) (mg0_4a q1 p2 q3 p4 p5) (mg0_30a q1 p2 q3 p4 p5)))])) t → Steps p.tables e below (s₁.setTop (entryFrame m #[(.long q1), (.int p2), (.long q3), (.int p4), (.int p5)] maxLocals)) t := fun t k => by
    refine pre37 _ ?_
    show Steps p.tables e below (T37.setTop (mkF m 154 #[.val (.long q1), .second, .val (.int p2), .val (.long q3), .second, .val (.int p4), .val (.int p5), .val (.int (mg0_4a q1 p2 q3 p4 p5)), .val (.long (mg0_30a q1 p2 q3 p4 p5)), .second, .val (.long (mg0_52a q1 p2 q3 p4 p5)), .second, .val (.long (mg0_71a q1 p2 q3 p4 p5)), .second, .val (.long (mg0_90a q1 p2 q3 p4 p5)), .second, .unset] [(.int (mg0_123a q1 p2 q3 p4 p5))])) _
    refine XS.istore X37.here hx rfl (hb hby at_154) rfl (l' := #[.val (.long q1), .second, .val (.int p2), .val (.long q3), .second, .val (.int p4), .val (.int p5), .val (.int (mg0_4a q1 p2 q3 p4 p5)), .val (.long (mg0_30a q1 p2 q3 p4 p5)), .second, .val (.long (mg0_52a q1 p2 q3 p4 p5)), .second, .val (.long (mg0_71a q1 p2 q3 p4 p5)), .second, .val (.long (mg0_90a q1 p2 q3 p4 p5)), .second, .val (.int (mg0_123a q1 p2 q3 p4 p5))]) rfl ?_
    show Steps p.tables e below (T37.setTop (mkF m 156 #[.val (.long q1), .second, .val (.int p2), .val (.long q3), .second, .val (.int p4), .val (.int p5), .val (.int (mg0_4a q1 p2 q3 p4 p5)), .val (.long (mg0_30a q1 p2 q3 p4 p5)), .second, .val (.long (mg0_52a q1 p2 q3 p4 p5)), .second, .val (.long (mg0_71a q1 p2 q3 p4 p5)), .second, .val (.long (mg0_90a q1 p2 q3 p4 p5)), .second, .val (.int (mg0_123a q1 p2 q3 p4 p5))] [])) _
    refine XS.lload X37.here hx rfl (hb hby at_156) rfl ?_
    show Steps p.tables e below (T37.setTop (mkF m 158 #[.val (.long q1), .second, .val (.int p2), .val (.long q3), .second, .val (.int p4), .val (.int p5), .val (.int (mg0_4a q1 p2 q3 p4 p5)), .val (.long (mg0_30a q1 p2 q3 p4 p5)), .second, .val (.long (mg0_52a q1 p2 q3 p4 p5)), .second, .val (.long (mg0_71a q1 p2 q3 p4 p5)), .second, .val (.long (mg0_90a q1 p2 q3 p4 p5)), .second, .val (.int (mg0_123a q1 p2 q3 p4 p5))] [(.long (mg0_90a q1 p2 q3 p4 p5))])) _
    refine XS.iload X37.here hx rfl (hb hby at_158) rfl ?_
    show Steps p.tables e below (T37.setTop (mkF m 160 #[.val (.long q1), .second, .val (.int p2), .val (.long q3), .second, .val (.int p4), .val (.int p5), .val (.int (mg0_4a q1 p2 q3 p4 p5)), .val (.long (mg0_30a q1 p2 q3 p4 p5)), .second, .val (.long (mg0_52a q1 p2 q3 p4 p5)), .second, .val (.long (mg0_71a q1 p2 q3 p4 p5)), .second, .val (.long (mg0_90a q1 p2 q3 p4 p5)), .second, .val (.int (mg0_123a q1 p2 q3 p4 p5))] [(.int (mg0_4a q1 p2 q3 p4 p5)), (.long (mg0_90a q1 p2 q3 p4 p5))])) _
    refine XS.lload X37.here hx rfl (hb hby at_160) rfl ?_
    show Steps p.tables e below (T37.setTop (mkF m 162 #[.val (.long q1), .second, .val (.int p2), .val (.long q3), .second, .val (.int p4), .val (.int p5), .val (.int (mg0_4a q1 p2 q3 p4 p5)), .val (.long (mg0_30a q1 p2 q3 p4 p5)), .second, .val (.long (mg0_52a q1 p2 q3 p4 p5)), .second, .val (.long (mg0_71a q1 p2 q3 p4 p5)), .second, .val (.long (mg0_90a q1 p2 q3 p4 p5)), .second, .val (.int (mg0_123a q1 p2 q3 p4 p5))] [(.long (mg0_30a q1 p2 q3 p4 p5)), (.int (mg0_4a q1 p2 q3 p4 p5)), (.long (mg0_90a q1 p2 q3 p4 p5))])) _
    refine st38 _ ?_
    show Steps p.tables e below (T38.setTop (mkF m 165 #[.val (.long q1), .second, .val (.int p2), .val (.long q3), .second, .val (.int p4), .val (.int p5), .val (.int (mg0_4a q1 p2 q3 p4 p5)), .val (.long (mg0_30a q1 p2 q3 p4 p5)), .second, .val (.long (mg0_52a q1 p2 q3 p4 p5)), .second, .val (.long (mg0_71a q1 p2 q3 p4 p5)), .second, .val (.long (mg0_90a q1 p2 q3 p4 p5)), .second, .val (.int (mg0_123a q1 p2 q3 p4 p5))] [(.int (f2 (mg0_90a q1 p2 q3 p4 p5) (mg0_4a q1 p2 q3 p4 p5) (mg0_30a q1 p2 q3 p4 p5)))])) _
    refine XS.iload X38.here hx rfl (hb hby at_165) rfl ?_
    exact k
  by_cases hc39 : (f2 (mg0_90a q1 p2 q3 p4 p5) (mg0_4a q1 p2 q3 p4 p5) (mg0_30a q1 p2 q3 p4 p5)) = (mg0_123a q1 p2 q3 p4 p5)
  · obtain ⟨fs, hr, hrun, hended, hW, hsame⟩ := X38.leave (v := some (.int (1 : Int32))) (fun h => by rw [Bd.returns] at h; cases h)
    refine ⟨_, _, pre40 _ ?_, hrun, hended, _, _, rfl, ?_, ⟨_, rfl⟩, hW, hsame.mono (by decide) (by decide)⟩
    · show Steps p.tables e below (T38.setTop (mkF m 167 #[.val (.long q1), .second, .val (.int p2), .val (.long q3), .second, .val (.int p4), .val (.int p5), .val (.int (mg0_4a q1 p2 q3 p4 p5)), .val (.long (mg0_30a q1 p2 q3 p4 p5)), .second, .val (.long (mg0_52a q1 p2 q3 p4 p5)), .second, .val (.long (mg0_71a q1 p2 q3 p4 p5)), .second, .val (.long (mg0_90a q1 p2 q3 p4 p5)), .second, .val (.int (mg0_123a q1 p2 q3 p4 p5))] [(.int (mg0_123a q1 p2 q3 p4 p5)), (.int (f2 (mg0_90a q1 p2 q3 p4 p5) (mg0_4a q1 p2 q3 p4 p5) (mg0_30a q1 p2 q3 p4 p5)))])) _
      refine XS.icmpNo X38.here hx rfl (hb hby at_167) rfl (teq hc39).2 ?_
      show Steps p.tables e below (T38.setTop (mkF m 170 #[.val (.long q1), .second, .val (.int p2), .val (.long q3), .second, .val (.int p4), .val (.int p5), .val (.int (mg0_4a q1 p2 q3 p4 p5)), .val (.long (mg0_30a q1 p2 q3 p4 p5)), .second, .val (.long (mg0_52a q1 p2 q3 p4 p5)), .second, .val (.long (mg0_71a q1 p2 q3 p4 p5)), .second, .val (.long (mg0_90a q1 p2 q3 p4 p5)), .second, .val (.int (mg0_123a q1 p2 q3 p4 p5))] [])) _
      refine XS.iconst X38.here hx rfl (hb hby at_170) ?_
      show Steps p.tables e below (T38.setTop (mkF m 171 #[.val (.long q1), .second, .val (.int p2), .val (.long q3), .second, .val (.int p4), .val (.int p5), .val (.int (mg0_4a q1 p2 q3 p4 p5)), .val (.long (mg0_30a q1 p2 q3 p4 p5)), .second, .val (.long (mg0_52a q1 p2 q3 p4 p5)), .second, .val (.long (mg0_71a q1 p2 q3 p4 p5)), .second, .val (.long (mg0_90a q1 p2 q3 p4 p5)), .second, .val (.int (mg0_123a q1 p2 q3 p4 p5))] [(.int (1 : Int32))])) _
      refine XS.goto X38.here hx rfl (pc0 := 171) (pc' := 175) rfl (hb hby at_171) (by decide) (by decide) ?_
      show Steps p.tables e below (T38.setTop (mkF m 175 #[.val (.long q1), .second, .val (.int p2), .val (.long q3), .second, .val (.int p4), .val (.int p5), .val (.int (mg0_4a q1 p2 q3 p4 p5)), .val (.long (mg0_30a q1 p2 q3 p4 p5)), .second, .val (.long (mg0_52a q1 p2 q3 p4 p5)), .second, .val (.long (mg0_71a q1 p2 q3 p4 p5)), .second, .val (.long (mg0_90a q1 p2 q3 p4 p5)), .second, .val (.int (mg0_123a q1 p2 q3 p4 p5))] [(.int (1 : Int32))])) _
      exact retN X38 hx (t := .boolean) Bd.returns (by simp) (hb hby at_175) hr
    · show QP _ h0 n0 _ T38.heap _
      rw [e38, show f0 q1 p2 q3 p4 p5 = (1 : Int32) from by unfold f0; rw [if_pos hc39]]
      exact ⟨rfl, N38, rfl⟩
  · obtain ⟨fs, hr, hrun, hended, hW, hsame⟩ := X38.leave (v := some (.int (0 : Int32))) (fun h => by rw [Bd.returns] at h; cases h)
    refine ⟨_, _, pre40 _ ?_, hrun, hended, _, _, rfl, ?_, ⟨_, rfl⟩, hW, hsame.mono (by decide) (by decide)⟩
    · show Steps p.tables e below (T38.setTop (mkF m 167 #[.val (.long q1), .second, .val (.int p2), .val (.long q3), .second, .val (.int p4), .val (.int p5), .val (.int (mg0_4a q1 p2 q3 p4 p5)), .val (.long (mg0_30a q1 p2 q3 p4 p5)), .second, .val (.long (mg0_52a q1 p2 q3 p4 p5)), .second, .val (.long (mg0_71a q1 p2 q3 p4 p5)), .second, .val (.long (mg0_90a q1 p2 q3 p4 p5)), .second, .val (.int (mg0_123a q1 p2 q3 p4 p5))] [(.int (mg0_123a q1 p2 q3 p4 p5)), (.int (f2 (mg0_90a q1 p2 q3 p4 p5) (mg0_4a q1 p2 q3 p4 p5) (mg0_30a q1 p2 q3 p4 p5)))])) _
      refine XS.icmpYes X38.here hx rfl (pc0 := 167) (pc' := 174) rfl (hb hby at_167) rfl (feq hc39).2 (by decide) (by decide) ?_
      show Steps p.tables e below (T38.setTop (mkF m 174 #[.val (.long q1), .second, .val (.int p2), .val (.long q3), .second, .val (.int p4), .val (.int p5), .val (.int (mg0_4a q1 p2 q3 p4 p5)), .val (.long (mg0_30a q1 p2 q3 p4 p5)), .second, .val (.long (mg0_52a q1 p2 q3 p4 p5)), .second, .val (.long (mg0_71a q1 p2 q3 p4 p5)), .second, .val (.long (mg0_90a q1 p2 q3 p4 p5)), .second, .val (.int (mg0_123a q1 p2 q3 p4 p5))] [])) _
      refine XS.iconst X38.here hx rfl (hb hby at_174) ?_
      show Steps p.tables e below (T38.setTop (mkF m 175 #[.val (.long q1), .second, .val (.int p2), .val (.long q3), .second, .val (.int p4), .val (.int p5), .val (.int (mg0_4a q1 p2 q3 p4 p5)), .val (.long (mg0_30a q1 p2 q3 p4 p5)), .second, .val (.long (mg0_52a q1 p2 q3 p4 p5)), .second, .val (.long (mg0_71a q1 p2 q3 p4 p5)), .second, .val (.long (mg0_90a q1 p2 q3 p4 p5)), .second, .val (.int (mg0_123a q1 p2 q3 p4 p5))] [(.int (0 : Int32))])) _
      exact retN X38 hx (t := .boolean) Bd.returns (by simp) (hb hby at_175) hr
    · show QP _ h0 n0 _ T38.heap _
      rw [e38, show f0 q1 p2 q3 p4 p5 = (0 : Int32) from by unfold f0; rw [if_neg hc39]]
      exact ⟨rfl, N38, rfl⟩
theorem own_div (i z : Int) (hz : 1 ≤ z) (n : Int) : (n ≤ (i - 1) / z) ↔ (n < i / z ∨ (n = i / z ∧ i % z ≠ 0)) := by
  have hz' : z ≠ 0 := by omega
  have a1 := Int.emod_add_mul_ediv i z
  have a2 := Int.emod_nonneg i hz'
  have a3 := Int.emod_lt_of_pos i (show 0 < z by omega)
  by_cases h : i % z = 0
  · have : (i - 1) / z = i / z - 1 := by
      rw [show i - 1 = (z - 1) + z * (i / z - 1) from by rw [Int.mul_sub]; omega, Int.add_mul_ediv_left _ _ hz', Int.ediv_eq_zero_of_lt (by omega) (by omega)]
      omega
    omega
  · have : (i - 1) / z = i / z := by
      rw [show i - 1 = (i % z - 1) + z * (i / z) from by omega, Int.add_mul_ediv_left _ _ hz', Int.ediv_eq_zero_of_lt (by omega) (by omega)]
      omega
    omega
theorem own_law (q1 : Int64) (p2 : Int32) (q3 : Int64) (p4 p5 : Int32) : f0 q1 p2 q3 p4 p5 = 1 := by
  have hs := own_size q1 p2 q3 p4 p5
  unfold f0 f2
  unfold mg0_123a mg0_131a mg0_139a mg0_146a mg0_52a mg0_71a
  generalize mg0_4a q1 p2 q3 p4 p5 = z at *
  generalize mg0_30a q1 p2 q3 p4 p5 = i at *
  generalize mg0_90a q1 p2 q3 p4 p5 = n at *
  have e0 : (0 : Int64).toInt = 0 := by decide
  have e1 : (1 : Int64).toInt = 1 := by decide
  have ez := c_i2l z
  have ne : z.toInt64 ≠ -1 := fun q => by
    rw [q] at ez
    have : (-1 : Int64).toInt = -1 := by decide
    omega
  have d1 := c_ldiv i z.toInt64 z.toInt ez ne
  have d2 := c_ldiv (i - 1) z.toInt64 z.toInt ez ne
  have d3 := c_lrem i z.toInt64 z.toInt ez
  have d4 := c_lsub i 1
  have r4 := rng64 (i - 1)
  have ri := rng64 i
  by_cases hi : (0 : Int64) < i
  · have hi' := Int64.lt_iff_toInt_lt.mp hi
    have s1 : (i - 1).toInt = i.toInt - 1 := by omega
    have key := own_div i.toInt z.toInt hs n.toInt
    have t1 : (i / z.toInt64).toInt = i.toInt / z.toInt := d1.1 (by omega)
    have t2 : ((i - 1) / z.toInt64).toInt = (i.toInt - 1) / z.toInt := by rw [d2.1 (by omega), s1]
    have t3 : (i - (i / z.toInt64) * z.toInt64).toInt = i.toInt % z.toInt := d3.1 (by omega)
    simp only [if_pos hi]
    generalize i / z.toInt64 = q at *
    generalize (i - 1) / z.toInt64 = q' at *
    generalize i - q * z.toInt64 = r at *
    simp only [Int64.lt_iff_toInt_lt, ← Int64.toInt_inj, e0]
    rw [← t1, ← t2, ← t3] at key
    repeat' split
    all_goals first | rfl | (exfalso; omega) | skip
    all_goals simp_all
  · simp [hi]
set_option maxRecDepth 65536 in
set_option maxHeartbeats 40000000 in
theorem comes_1 {Post : Tables → Env → Array Value → State → Outcome → State → Prop} (hpost : ∀ tb e args s v u, (limb_1_1.after args s (.returned v) u = true ∧ limb_1_2.after args s (.returned v) u = true ∧ True) → FrameEnd s (.returned v) u (Jvm.fieldLocs frame_1_writes args s ++ Jvm.arrayLocs frame_1_arrays args s ++ Jvm.staticLocs frame_1_statics s) 0 0 → Post tb e args s (.returned v) u) :
    ArmFor flags0 classFile x code maxLocals ret World_1 tables_1 room_1 Calls_1 rest_1 Pre_1 Post := by
  intro l hfl _ _ p e ha hc hk s m args below hf hA hF happ hP
  obtain ⟨hcalls, hrest, hpre⟩ := hP
  obtain ⟨-, -, -, hnamed, -, -, -, hat⟩ := (Spec.applies_iff hf).mp happ
  obtain ⟨hg, hn⟩ := and_e (Cond.before_iff.mp (show (Jvm.Cond.and given_1 narrow_1).before args s = true from hpre))
  obtain ⟨gc, gr0⟩ := and_e hg
  obtain ⟨g0, gr1⟩ := and_e gr0
  obtain ⟨g1, gr2⟩ := and_e gr1
  obtain ⟨g2, gr3⟩ := and_e gr2
  obtain ⟨g3, gr4⟩ := and_e gr3
  obtain ⟨w0, w1, w2, w3, w4, rfl⟩ : ∃ w0 w1 w2 w3 w4 : Value, args = #[w0, w1, w2, w3, w4] := by
    have hs : args.size = 5 := by simpa [Cond.value, given_1] using gc
    obtain ⟨L⟩ := args
    match L, hs with
    | [w0, w1, w2, w3, w4], _ => exact ⟨w0, w1, w2, w3, w4, rfl⟩
  have hw := fun d (hd : d ∈ tables_1) => atoms_spec (ws := Jvm.Cond.code x code maxLocals ret :: tables_1) hat d (List.mem_cons_of_mem _ hd)
  have hfit : Fit s := fun {y c} hc i hi => by
    obtain ⟨ha, rfl⟩ := Array.getElem?_eq_some_iff.mp hc
    have q := List.all_eq_true.mp ((Array.all_eq_true_iff_forall_mem.mp hF) _ (Array.getElem_mem ha)) i (List.mem_range.mpr hi)
    simpa [Array.getElem?_eq_getElem hi] using q
  obtain ⟨i0, ei0⟩ := isL_v g0
  obtain rfl : w0 = (.long i0) := Option.some.inj ei0
  obtain ⟨i1, ei1⟩ := is_v g1
  obtain rfl : w1 = (.int i1) := Option.some.inj ei1
  obtain ⟨i2, ei2⟩ := isL_v g2
  obtain rfl : w2 = (.long i2) := Option.some.inj ei2
  obtain ⟨i3, ei3⟩ := is_v g3
  obtain rfl : w3 = (.int i3) := Option.some.inj ei3
  obtain ⟨i4, ei4⟩ := is_v gr4
  obtain rfl : w4 = (.int i4) := Option.some.inj ei4
  have hone : f0 i0 i1 i2 i3 i4 = 1 := own_law i0 i1 i2 i3 i4
  obtain ⟨n, o, h1, h2, h3, _, L, rfl, ⟨rfl, N, -⟩, hq⟩ := rm0 l s _ hw tables_1 i0 i1 i2 i3 i4 s.heap s.heap.size (Nat.le_refl _)  p e ha hc hk s m _ below hf ((Spec.applies_iff_loose hf).mp happ).1 ⟨rfl, State.Warmed39.refl s, rfl⟩ trivial
  rw [hone] at h3 hq
  refine ⟨n, _, h1, h2, h3, hpost _ _ _ _ _ _ ⟨Cond.after_iff.mpr rfl, Cond.after_iff.mpr (eq_i res_at (Term.int_eval (1)) rfl), trivial⟩ ⟨hq.1, hq.2.1, (hq.2.2.sift fun y hy => Or.inr (N y hy)).mono (by decide) (by decide)⟩⟩
theorem main_1_1 : Claimed_1_1 := comes_1 fun _ _ _ _ _ _ h hF => ⟨h.1, hF⟩
theorem main_1_2 : Claimed_1_2 := comes_1 fun _ _ _ _ _ _ h hF => ⟨h.2.1, hF⟩
end Jvm.Pilot.@@N@@
namespace Jvm.Pilot.@@N@@
open Jvm Jvm.ClassFile Sem Op Lib Jvm.Free Jvm.Stand Jvm.Pilot.@@N@@.Jvm.D
/-! MADE BY PROGRAM (witnessworld.py) out of the Statement's table words and the real class files: 9 classes; the members and pool entries that the words name. The judged class is class 1, her method 1. -/
namespace start1
open Jvm.ClassFile
def u (s : String) : CpInfo := .utf8 (stringToUtf16 s)
/-- a pool by its gaps: so many unusable entries, then the entry; so many at the end -/
def gap : Nat → List CpInfo → List CpInfo
  | 0, r => r
  | n + 1, r => .unusable :: gap n r
def poolList (es : List (Nat × CpInfo)) (last : Nat) : List CpInfo := es.foldr (fun e r => gap e.1 (e.2 :: r)) (gap last [])
def pool (es : List (Nat × CpInfo)) (last : Nat) : Array CpInfo := ⟨poolList es last⟩
def fileOf (pool : Array CpInfo) (this : Nat) (attrs : Array Attribute := #[]) (ms : Array MethodInfo := #[]) (fl : Nat := 33) (sup : Nat := 0) (ifs : Array Nat := #[]) (fds : Array FieldInfo := #[]) : ClassFile where
  minorVersion := 0
  majorVersion := 65
  constantPool := pool
  accessFlags := fl
  thisClass := this
  superClass := sup
  interfaces := ifs
  fields := fds
  methods := ms
  attributes := attrs
def plain (name : String) (sup : Option ClassId) : Class where
  name := name
  kind := .ordinary
  loader := none
  accessFlags := 33
  super := sup
  interfaces := #[]
  cf := none
  fields := #[]
  methods := #[]
  instanceTypes := #[]
  staticTypes := #[]
  resolved := #[]
  callSites := []
  init := .initialized
  statics := none
  mirror := none

def pool0 : Array CpInfo := pool [(5, u "<init>"), (0, u "()V"), (1, .class_ 10), (1, u "java/lang/Object")] 113

def k0m0 : Method := { name := "<init>", desc := "()V", sig := { parameters := [], returnType := none }, accessFlags := 1, code := none }
/-- java/lang/Object -/
def k0 : Class := { plain "java/lang/Object" none with
  accessFlags := 33
  interfaces := #[]
  cf := some (fileOf pool0 8 #[] #[{ accessFlags := 1, nameIndex := 5, descriptorIndex := 6, attributes := #[] }] 33 0 #[] #[])
  fields := #[]
  methods := #[k0m0]
  instanceTypes := #[]
  staticTypes := #[]
  resolved := Array.replicate 124 none
  statics := none }

def pool1 : Array CpInfo := pool [(2, .class_ 4), (1, u "java/lang/Object"), (0, u "<init>"), (0, u "()V"), (0, .integer 2147483647), (0, .methodref 9 10), (0, .class_ 11), (0, .nameAndType 12 13), (0, u "java/lang/Math"), (0, u "max"), (0, u "(II)I"), (0, .long 31), (1, .long 4), (1, .long 2), (1, .methodref 9 21), (0, .nameAndType 12 22), (0, u "(JJ)J"), (2, .long 9223372036854775807), (1, .methodref 28 29), (0, .class_ 30), (0, .nameAndType 31 32), (0, u "com/example/cowry/cowry/core/Page"), (0, u "holdsAny"), (0, u "(JIJ)Z"), (0, .class_ 34), (0, u "com/example/cowry/cowry/core/PageHoldsAnyPinLaw"), (2, u "law"), (0, u "(JIJII)Z")] 3

def k1m0 : Method := { name := "<init>", desc := "()V", sig := { parameters := [], returnType := none }, accessFlags := 1, code := none }
def k1c1 : Code := { maxStack := 6, maxLocals := 17, code := code, exceptionTable := #[], attributes := #[] }
def k1m1 : Method := { name := "law", desc := "(JIJII)Z", sig := { parameters := [.long, .int, .long, .int, .int], returnType := some .boolean }, accessFlags := 9, code := some k1c1 }
/-- com/example/cowry/cowry/core/PageHoldsAnyPinLaw -/
def k1 : Class := { plain "com/example/cowry/cowry/core/PageHoldsAnyPinLaw" (some 0) with
  accessFlags := 49
  interfaces := #[]
  cf := some (fileOf pool1 33 #[] #[{ accessFlags := 1, nameIndex := 5, descriptorIndex := 6, attributes := #[] }, { accessFlags := 9, nameIndex := 37, descriptorIndex := 38, attributes := #[] }] 49 2 #[] #[])
  fields := #[]
  methods := #[k1m0, k1m1]
  instanceTypes := #[]
  staticTypes := #[]
  resolved := Array.replicate 42 none
  statics := none }

def pool2 : Array CpInfo := pool [(1, .class_ 2), (0, u "java/lang/Math"), (1, .class_ 6), (1, u "java/lang/Object"), (0, u "<init>"), (0, u "()V"), (89, .class_ 100), (1, u "java/lang/Math$RandomNumberGeneratorHolder"), (20, u "(JJ)J"), (50, u "negativeZeroFloatBits"), (0, u "J"), (2, u "negativeZeroDoubleBits"), (21, u "max"), (46, u "$assertionsDisabled"), (0, u "Z"), (88, u "(II)I"), (2, u "twoToTheDoubleScaleDown"), (0, u "D"), (4, u "twoToTheDoubleScaleUp"), (9, u "E"), (3, u "PI"), (2, u "TAU"), (2, u "DEGREES_TO_RADIANS"), (0, u "RADIANS_TO_DEGREES")] 94

def k2m0 : Method := { name := "<init>", desc := "()V", sig := { parameters := [], returnType := none }, accessFlags := 2, code := none }
def k2c1 : Code := { maxStack := 2, maxLocals := 2, code := jdk_29_method_65_code, exceptionTable := #[], attributes := #[] }
def k2m1 : Method := { name := "max", desc := "(II)I", sig := { parameters := [.int, .int], returnType := some .int }, accessFlags := 9, code := some k2c1 }
def k2c2 : Code := { maxStack := 4, maxLocals := 4, code := jdk_29_method_66_code, exceptionTable := #[], attributes := #[] }
def k2m2 : Method := { name := "max", desc := "(JJ)J", sig := { parameters := [.long, .long], returnType := some .long }, accessFlags := 9, code := some k2c2 }
/-- java/lang/Math -/
def k2 : Class := { plain "java/lang/Math" (some 0) with
  accessFlags := 49
  interfaces := #[]
  cf := some (fileOf pool2 1 #[.nestMembers #[98]] #[{ accessFlags := 2, nameIndex := 7, descriptorIndex := 8, attributes := #[] }, { accessFlags := 9, nameIndex := 198, descriptorIndex := 335, attributes := #[] }, { accessFlags := 9, nameIndex := 198, descriptorIndex := 121, attributes := #[] }] 49 4 #[] #[{ accessFlags := 25, nameIndex := 354, descriptorIndex := 339, attributes := #[] }, { accessFlags := 25, nameIndex := 358, descriptorIndex := 339, attributes := #[] }, { accessFlags := 25, nameIndex := 361, descriptorIndex := 339, attributes := #[] }, { accessFlags := 26, nameIndex := 364, descriptorIndex := 339, attributes := #[] }, { accessFlags := 26, nameIndex := 365, descriptorIndex := 339, attributes := #[] }, { accessFlags := 26, nameIndex := 172, descriptorIndex := 173, attributes := #[] }, { accessFlags := 26, nameIndex := 176, descriptorIndex := 173, attributes := #[] }, { accessFlags := 8, nameIndex := 344, descriptorIndex := 339, attributes := #[] }, { accessFlags := 8, nameIndex := 338, descriptorIndex := 339, attributes := #[] }, { accessFlags := 4120, nameIndex := 245, descriptorIndex := 246, attributes := #[] }])
  fields := #[{ name := "E", type := .double, accessFlags := 25, slot := 0, constantValue := 0 }, { name := "PI", type := .double, accessFlags := 25, slot := 1, constantValue := 0 }, { name := "TAU", type := .double, accessFlags := 25, slot := 2, constantValue := 0 }, { name := "DEGREES_TO_RADIANS", type := .double, accessFlags := 26, slot := 3, constantValue := 0 }, { name := "RADIANS_TO_DEGREES", type := .double, accessFlags := 26, slot := 4, constantValue := 0 }, { name := "negativeZeroFloatBits", type := .long, accessFlags := 26, slot := 5, constantValue := 0 }, { name := "negativeZeroDoubleBits", type := .long, accessFlags := 26, slot := 6, constantValue := 0 }, { name := "twoToTheDoubleScaleUp", type := .double, accessFlags := 8, slot := 7, constantValue := 0 }, { name := "twoToTheDoubleScaleDown", type := .double, accessFlags := 8, slot := 8, constantValue := 0 }, { name := "$assertionsDisabled", type := .boolean, accessFlags := 4120, slot := 9, constantValue := 0 }]
  methods := #[k2m0, k2m1, k2m2]
  instanceTypes := #[]
  staticTypes := #[.double, .double, .double, .double, .double, .long, .long, .double, .double, .boolean]
  resolved := Array.replicate 460 none
  statics := none }

def pool3 : Array CpInfo := pool [(2, .class_ 4), (1, u "java/lang/Object"), (0, u "<init>"), (0, u "()V"), (0, .class_ 8), (0, u "java/lang/Record")] 13

def k3m0 : Method := { name := "<init>", desc := "()V", sig := { parameters := [], returnType := none }, accessFlags := 4, code := none }
/-- java/lang/Record -/
def k3 : Class := { plain "java/lang/Record" (some 0) with
  accessFlags := 1057
  interfaces := #[]
  cf := some (fileOf pool3 7 #[] #[{ accessFlags := 4, nameIndex := 5, descriptorIndex := 6, attributes := #[] }] 1057 2 #[] #[])
  fields := #[]
  methods := #[k3m0]
  instanceTypes := #[]
  staticTypes := #[]
  resolved := Array.replicate 22 none
  statics := none }

def pool4 : Array CpInfo := pool [(2, .class_ 4), (1, u "java/lang/Record"), (9, .class_ 16), (1, u "com/example/cowry/cowry/core/Page"), (0, u "items"), (0, u "Ljava/util/List;"), (2, u "page"), (0, u "Ljava/lang/Long;"), (2, u "size"), (0, u "I"), (2, u "totalItems"), (0, u "J"), (2, u "next"), (0, u "Ljava/lang/String;"), (47, u "MAX_SIZE"), (10, u "holdsAny"), (0, u "(JIJ)Z")] 38

def k4c0 : Code := { maxStack := 6, maxLocals := 5, code := prog_43_method_4_code, exceptionTable := #[], attributes := #[] }
def k4m0 : Method := { name := "holdsAny", desc := "(JIJ)Z", sig := { parameters := [.long, .int, .long], returnType := some .boolean }, accessFlags := 9, code := some k4c0 }
/-- com/example/cowry/cowry/core/Page -/
def k4 : Class := { plain "com/example/cowry/cowry/core/Page" (some 3) with
  accessFlags := 49
  interfaces := #[]
  cf := some (fileOf pool4 14 #[] #[{ accessFlags := 9, nameIndex := 93, descriptorIndex := 94, attributes := #[] }] 49 2 #[] #[{ accessFlags := 18, nameIndex := 17, descriptorIndex := 18, attributes := #[] }, { accessFlags := 18, nameIndex := 21, descriptorIndex := 22, attributes := #[] }, { accessFlags := 18, nameIndex := 25, descriptorIndex := 26, attributes := #[] }, { accessFlags := 18, nameIndex := 29, descriptorIndex := 30, attributes := #[] }, { accessFlags := 18, nameIndex := 33, descriptorIndex := 34, attributes := #[] }, { accessFlags := 25, nameIndex := 82, descriptorIndex := 26, attributes := #[] }])
  fields := #[{ name := "items", type := (.object "java/util/List"), accessFlags := 18, slot := 0, constantValue := 0 }, { name := "page", type := (.object "java/lang/Long"), accessFlags := 18, slot := 1, constantValue := 0 }, { name := "size", type := .int, accessFlags := 18, slot := 2, constantValue := 0 }, { name := "totalItems", type := .long, accessFlags := 18, slot := 3, constantValue := 0 }, { name := "next", type := (.object "java/lang/String"), accessFlags := 18, slot := 4, constantValue := 0 }, { name := "MAX_SIZE", type := .int, accessFlags := 25, slot := 0, constantValue := 0 }]
  methods := #[k4m0]
  instanceTypes := #[(.object "java/util/List"), (.object "java/lang/Long"), .int, .long, (.object "java/lang/String")]
  staticTypes := #[.int]
  resolved := Array.replicate 133 none
  statics := none }

def pool5 : Array CpInfo := pool [(1, u "java/lang/Cloneable"), (0, .class_ 1), (0, u "java/lang/Object"), (0, .class_ 3)] 3

/-- java/lang/Cloneable -/
def k5 : Class := { plain "java/lang/Cloneable" (some 0) with
  accessFlags := 1537
  interfaces := #[]
  cf := some (fileOf pool5 2 #[] #[] 1537 4 #[] #[])
  fields := #[]
  methods := #[]
  instanceTypes := #[]
  staticTypes := #[]
  resolved := Array.replicate 8 none
  statics := none }

def pool6 : Array CpInfo := pool [(1, u "java/io/Serializable"), (0, .class_ 1), (0, u "java/lang/Object"), (0, .class_ 3)] 3

/-- java/io/Serializable -/
def k6 : Class := { plain "java/io/Serializable" (some 0) with
  accessFlags := 1537
  interfaces := #[]
  cf := some (fileOf pool6 2 #[] #[] 1537 4 #[] #[])
  fields := #[]
  methods := #[]
  instanceTypes := #[]
  staticTypes := #[]
  resolved := Array.replicate 8 none
  statics := none }

/-- the primitive byte -/
def k7 : Class := { plain "byte" none with kind := .primitive 'B', accessFlags := 0x411 }
/-- [B -/
def k8 : Class := { plain "[B" (some 0) with kind := .array 7 .byte, interfaces := #[5, 6], accessFlags := 1041 }

def heap : Heap := #[]
def classes : Array Class := #[k0, k1, k2, k3, k4, k5, k6, k7, k8]
def interned : List (Array UInt16 × Addr) := []
def slotsUsed : Nat := 0
def theMethod : MethodId := ⟨1, 1⟩
def args0 : Array Value := #[.long 5, .int 7, .long 100, .int 0, .int 3]
def aboutOver (below : List Frame) : State where
  vm := { classes := classes, interned := interned.toArray }
  heap := heap
  slotsUsed := slotsUsed
  threads := #[{ frames := .invoking theMethod args0 :: below }]
def below0 : List Frame := [.native { method := ⟨0, 0⟩, args := #[] }]
def about1 : State := aboutOver below0
def p0 : Program := .bare "" "" ""
def e0 : Env := launch0.env 0 0 0
theorem w_frames : about1.frames = Frame.invoking theMethod args0 :: below0 := rfl
set_option maxRecDepth 65536 in
theorem w_args : argsFit about1.vm theMethod args0 = true := by decide +kernel
set_option maxRecDepth 65536 in
theorem w_heap : heapFits about1 = true := by decide +kernel
set_option maxRecDepth 65536 in
theorem w_runnable : about1.curStatus? = some .runnable := by decide +kernel
set_option maxRecDepth 65536 in
theorem w_alone : about1.alone = true := by decide +kernel
set_option maxRecDepth 65536 in
theorem w_named : about1.methodNamed? x = some theMethod := by decide +kernel
set_option maxRecDepth 65536 in
theorem w_hears : about1.hears theMethod below0 = true := by decide +kernel
set_option maxRecDepth 65536 in
theorem w_ripe : about1.ripe theMethod args0 below0 = true := by decide +kernel
theorem w_running : about1.status = .running := rfl
set_option maxRecDepth 65536 in
theorem w_room : about1.hasRoom e0.platform room_1 = true :=
  launch0.hasRoom_least _ room_1 (by decide +kernel) (by decide +kernel) (by decide +kernel) (by decide +kernel) (by decide +kernel) (by decide +kernel)
theorem allAtoms_all (ts : List Jvm.Cond) (a : Array Jvm.Value) (st : Jvm.State) : (allAtoms ts).before a st = ts.all (fun c => c.before a st) := by
  induction ts with
  | nil => rfl
  | cons c t ih =>
    show (Jvm.Cond.and c (allAtoms t)).before a st = _
    rw [Jvm.Cond.before_and, ih, List.all_cons]
def words1 : List Jvm.Cond := Jvm.Cond.code x code maxLocals ret :: tables_1
/-- a 'code' word, met by the world's own term for the bytes: nothing is compared byte by byte -/
theorem code_word {y : MethodName} {bytes : ByteArray} {mx : Nat} {rt : Option FieldType} {a : Array Value} {s : State} {m : MethodId} {meth : Method} {c : Code} (h1 : s.methodNamed? y = some m) (h2 : s.vm.method? m = some meth) (h3 : meth.code = some c) (h4 : c.code = bytes)
    (h5 : (c.maxLocals == mx && c.exceptionTable.isEmpty && decide (c.maxStack ≤ mostOperands) && decide (meth.sig.returnType = rt) && !meth.locks && decide (parseMethodDescriptor y.desc = some meth.sig)) = true) : (Jvm.Cond.code y bytes mx rt).before a s = true := by
  simp only [Bool.and_eq_true, beq_iff_eq, Bool.not_eq_true', decide_eq_true_eq] at h5
  obtain ⟨⟨⟨⟨⟨g1, g2⟩, g3⟩, g4⟩, g5⟩, g6⟩ := h5
  simp [Cond.before, Cond.holds, Cond.value, h1, h2, h3, h4, g1, g2, g3, g4, g5, g6]
def isCode : Jvm.Cond → Bool
  | .code _ _ _ _ => true
  | _ => false
theorem all_split {L : List Jvm.Cond} {P : Jvm.Cond → Bool} (h1 : L.all (fun c => isCode c || P c) = true) (h2 : ∀ c ∈ L.filter isCode, P c = true) : L.all P = true := by
  refine List.all_eq_true.mpr fun c hc => ?_
  have h := List.all_eq_true.mp h1 c hc
  rcases Bool.eq_false_or_eq_true (isCode c) with hi | hi
  · exact h2 c (List.mem_filter.mpr ⟨hc, hi⟩)
  · simpa [hi] using h
set_option maxRecDepth 65536 in
theorem w_c0 : (Jvm.Cond.code x code maxLocals ret).before args0 about1 = true := code_word (m := ⟨1, 1⟩) (meth := k1m1) (c := k1c1) (by decide +kernel) rfl rfl rfl (by decide +kernel)
set_option maxRecDepth 65536 in
theorem w_c1 : (Jvm.Cond.code ({ cls := "java/lang/Math", name := "max", desc := "(II)I" } : Jvm.MethodName) jdk_29_method_65_code (2 : Nat) (Option.some Jvm.ClassFile.FieldType.int)).before args0 about1 = true := code_word (m := ⟨2, 1⟩) (meth := k2m1) (c := k2c1) (by decide +kernel) rfl rfl rfl (by decide +kernel)
set_option maxRecDepth 65536 in
theorem w_c2 : (Jvm.Cond.code ({ cls := "com/example/cowry/cowry/core/Page", name := "holdsAny", desc := "(JIJ)Z" } : Jvm.MethodName) prog_43_method_4_code (5 : Nat) (Option.some Jvm.ClassFile.FieldType.boolean)).before args0 about1 = true := code_word (m := ⟨4, 0⟩) (meth := k4m0) (c := k4c0) (by decide +kernel) rfl rfl rfl (by decide +kernel)
set_option maxRecDepth 65536 in
theorem w_c3 : (Jvm.Cond.code ({ cls := "java/lang/Math", name := "max", desc := "(JJ)J" } : Jvm.MethodName) jdk_29_method_66_code (4 : Nat) (Option.some Jvm.ClassFile.FieldType.long)).before args0 about1 = true := code_word (m := ⟨2, 2⟩) (meth := k2m2) (c := k2c2) (by decide +kernel) rfl rfl rfl (by decide +kernel)
def codes1 : List Jvm.Cond := [Jvm.Cond.code x code maxLocals ret, Jvm.Cond.code ({ cls := "java/lang/Math", name := "max", desc := "(II)I" } : Jvm.MethodName) jdk_29_method_65_code (2 : Nat) (Option.some Jvm.ClassFile.FieldType.int), Jvm.Cond.code ({ cls := "com/example/cowry/cowry/core/Page", name := "holdsAny", desc := "(JIJ)Z" } : Jvm.MethodName) prog_43_method_4_code (5 : Nat) (Option.some Jvm.ClassFile.FieldType.boolean), Jvm.Cond.code ({ cls := "java/lang/Math", name := "max", desc := "(JJ)J" } : Jvm.MethodName) jdk_29_method_66_code (4 : Nat) (Option.some Jvm.ClassFile.FieldType.long)]
set_option maxRecDepth 65536 in
theorem codes_eq : words1.filter isCode = codes1 := rfl
theorem w_codes : ∀ c ∈ words1.filter isCode, c.before args0 about1 = true := by
  rw [codes_eq]
  intro c hc
  simp only [codes1, List.mem_cons, List.not_mem_nil, or_false] at hc
  rcases hc with rfl | rfl | rfl | rfl
  · exact w_c0
  · exact w_c1
  · exact w_c2
  · exact w_c3
set_option maxRecDepth 65536 in
theorem w_t1 : words1.all (fun c => isCode c || c.before args0 about1) = true := by decide +kernel
theorem w_tables : (allAtoms (Jvm.Cond.code x code maxLocals ret :: tables_1)).before args0 about1 = true := by
  rw [allAtoms_all]
  show words1.all (fun c => c.before args0 about1) = true
  refine all_split ?_ w_codes
  rw [w_t1]
set_option maxRecDepth 65536 in
theorem w_case : (Jvm.Cond.and given_1 narrow_1).before args0 about1 = true := by decide +kernel
theorem w_applies : (headSpec (Jvm.Cond.code x code maxLocals ret :: tables_1) room_1).applies x e0.platform about1 = true :=
  (Spec.applies_iff w_frames).mpr ⟨w_running, w_runnable, w_alone, w_named, w_hears, w_ripe, w_room, w_tables⟩
theorem atStart : AtStart classFile x code maxLocals ret World_1 tables_1 room_1 Calls_1 rest_1 Pre_1 launch0 p0 e0 about1 theMethod args0 below0 :=
  ⟨lists_1, trivial, launch0.admits_env _ _ _, launch0.least_env, fairChoices_fair.cas, fairChoices_fair.clock, w_frames, w_args, w_heap, w_applies, trivial, trivial, w_case⟩
end start1
theorem witness_1 : WitnessClaimed_1 := ⟨start1.p0, start1.e0, start1.about1, start1.theMethod, start1.args0, start1.below0, start1.atStart⟩
end Jvm.Pilot.@@N@@
