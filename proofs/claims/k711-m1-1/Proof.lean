import JvmDerived
import JvmDerived.Pilot.@@N@@Statement
import JvmDerived.Pilot.@@N@@Code
set_option linter.unusedVariables false
set_option linter.unusedSimpArgs false
namespace Jvm.RoadKit
open Sem ClassFile Op Lib Jvm.Stand Jvm.Free Jvm.LawKit
section New
variable {p : Program} {l : Launch} {e : Env} {R : Room} {s : State} {m : MethodId} {args : Array Value} {below : List Frame} {meth : Method} {c : Code} {T : State} {locs : List Loc} {cells slots : Nat}
theorem retI (X : Stand p l e R s m args below meth c T locs cells slots) (hx : p.tables.exec = Jvm.exec) {pc : Nat} {Ls : Array Slot} {z : Int32} {rest : List Value} (hret : meth.sig.returnType = some .int) (hd : decode c.code pc = .ok (.ireturn, 1)) {fs : List Frame}
    (hl : ∀ (f : JFrame) (acts : List Action), f.method = m → f.locked = none → f.entered = [] → (doReturn e (T.setTop f) acts (some (.int z))).1 = T.setFrames fs) : Steps p.tables e below (T.setTop (mkF m pc Ls (.int z :: rest))) (T.setFrames fs) := by
  have hm' : T.vm.method? m = some meth := X.method'
  have hn : narrow .int (.int z) = .int z := rfl
  show Steps p.tables e below (T.setTop { method := m, pc := pc, locals := Ls, stack := _ :: rest, locked := none }) _
  jvm_step X.here [X.here.top, hx, hd, hm', hret, hn]
  first | (intro acts; rw [hl _ acts rfl rfl rfl]) | rw [hl _ _ rfl rfl rfl]
  exact Steps.refl _
end New
end Jvm.RoadKit
namespace Jvm.Pilot.@@N@@
open Jvm Jvm.ClassFile Sem Op Lib Jvm.Free Jvm.Stand Jvm.LawKit Jvm.RoadKit Bundle Jvm.Pilot.@@N@@.Jvm.D
def QP (w : Option Value) (h0 : Heap) (n0 : Nat) (v : Option Value) (h : Heap) (L : List Loc) : Prop := v = w ∧ Fr n0 L ∧ h = h0
def QL (w : Option Value) (n0 : Nat) (v : Option Value) (h : Heap) (L : List Loc) : Prop := v = w ∧ Fr n0 L
theorem d2_0 : decode method_2_code 0 = .ok (.iload_n 0, 1) := by decide +kernel
theorem d2_1 : decode method_2_code 1 = .ok (.sipush 255, 3) := by decide +kernel
theorem d2_4 : decode method_2_code 4 = .ok (.iand, 1) := by decide +kernel
theorem d2_5 : decode method_2_code 5 = .ok (.bipush 8, 2) := by decide +kernel
theorem d2_7 : decode method_2_code 7 = .ok (.ishl, 1) := by decide +kernel
theorem d2_8 : decode method_2_code 8 = .ok (.iload_n 1, 1) := by decide +kernel
theorem d2_9 : decode method_2_code 9 = .ok (.sipush 255, 3) := by decide +kernel
theorem d2_12 : decode method_2_code 12 = .ok (.iand, 1) := by decide +kernel
theorem d2_13 : decode method_2_code 13 = .ok (.ior, 1) := by decide +kernel
theorem d2_14 : decode method_2_code 14 = .ok (.ireturn, 1) := by decide +kernel
theorem pn_2 : plainName "com/example/assay/assay/dns/AnswerAnswersPinLaw" = true := by first | (simp [plainName, overriddenIn]; done) | decide +kernel
theorem ef_2 (m : MethodId) (x0 : Int32) (x1 : Int32) : entryFrame m #[(.int x0), (.int x1)] 2 = mkF m 0 #[.val (.int x0), .val (.int x1)] [] := by first | (simp [entryFrame, mkF, argsToLocals, Value.category]; done) | rfl
def f2 (p1 : Int32) (p2 : Int32) : Int32 := (((p1 &&& (255 : Int32)) <<< ((8 : Int32) &&& 31)) ||| (p2 &&& (255 : Int32)))
set_option maxRecDepth 65536 in
set_option maxHeartbeats 40000000 in
theorem rm2 (l : Launch) (Z : State) (a0 : Array Value) (hw : ∀ d ∈ tables_1, d.before a0 Z = true) (ws : List Jvm.Cond) (p1 : Int32) (p2 : Int32) (h0 : Heap) (n0 : Nat) (Z0 : n0 ≤ h0.size) :
    MetFree l (⟨"com/example/assay/assay/dns/AnswerAnswersPinLaw", "id", "(BB)I"⟩ : MethodName) (head1 (Jvm.Cond.code (⟨"com/example/assay/assay/dns/AnswerAnswersPinLaw", "id", "(BB)I"⟩ : MethodName) method_2_code 2 (some .int) :: ws) ({ frames := 0, cells := 0, slots := 0, locals := 0 } : Room)) (fun a U => a = #[(.int p1), (.int p2)] ∧ Z.Warmed39 U.vm ∧ U.heap = h0) (fun _ _ _ _ _ => True) (fun _ U o U' => ∃ v L, o = .returned v ∧ QP (some (.int (f2 p1 p2))) h0 n0 v U'.heap L ∧ FrameEnd U o U' L ({ frames := 0, cells := 0, slots := 0, locals := 0 } : Room).cells ({ frames := 0, cells := 0, slots := 0, locals := 0 } : Room).slots) := by
  refine MetFree.of_bodySF (plainFor_of_name pn_2) hisR ?_
  intro p e s m args below meth c s₁ Bd hml0 hP hK
  obtain ⟨rfl, hZ, hh⟩ := hP
  have hx := Bd.exec
  have hby := Bd.bytes
  have hml : c.maxLocals = 2 := hml0
  have hown : s.vm.findClass "com/example/assay/assay/dns/AnswerAnswersPinLaw" = some m.cls := findClass_of_methodNamed Bd.named
  have hnm := (name_of_methodNamed Bd.named Bd.method).1
  have X0 : Stand p l e ({ frames := 0, cells := 0, slots := 0, locals := 0 } : Room) s m #[(.int p1), (.int p2)] below meth c s₁ [] 0 0 := Stand.of_body Bd
  have e0 : s₁.heap = h0 := by rw [← hh, Bd.state]; rfl
  have N0 := Fr.nil n0
  have pre0 : ∀ t, Steps p.tables e below (s₁.setTop (mkF m 0 #[.val (.int p1), .val (.int p2)] [])) t → Steps p.tables e below (s₁.setTop (entryFrame m #[(.int p1), (.int p2)] 2)) t := fun t k => castTop (ef_2 m p1 p2) k
  obtain ⟨fs, hr, hrun, hended, hW, hsame⟩ := X0.leave (v := some (.int (((p1 &&& (255 : Int32)) <<< ((8 : Int32) &&& 31)) ||| (p2 &&& (255 : Int32))))) (fun h => by rw [Bd.returns] at h; cases h)
  refine ⟨_, _, pre0 _ ?_, hrun, hended, _, _, rfl, ?_, ⟨_, rfl⟩, hW, hsame.mono (by decide) (by decide)⟩
  · show Steps p.tables e below (s₁.setTop (mkF m 0 #[.val (.int p1), .val (.int p2)] [])) _
    refine XS.iloadN X0.here hx rfl (hb hby d2_0) rfl ?_
    show Steps p.tables e below (s₁.setTop (mkF m 1 #[.val (.int p1), .val (.int p2)] [(.int p1)])) _
    refine XS.sipush X0.here hx rfl (hb hby d2_1) ?_
    show Steps p.tables e below (s₁.setTop (mkF m 4 #[.val (.int p1), .val (.int p2)] [(.int (255 : Int32)), (.int p1)])) _
    refine XS.iand X0.here hx rfl (hb hby d2_4) rfl ?_
    show Steps p.tables e below (s₁.setTop (mkF m 5 #[.val (.int p1), .val (.int p2)] [(.int (p1 &&& (255 : Int32)))])) _
    refine XS.bipush X0.here hx rfl (hb hby d2_5) ?_
    show Steps p.tables e below (s₁.setTop (mkF m 7 #[.val (.int p1), .val (.int p2)] [(.int (8 : Int32)), (.int (p1 &&& (255 : Int32)))])) _
    refine XS.ishl X0.here hx rfl (hb hby d2_7) rfl ?_
    show Steps p.tables e below (s₁.setTop (mkF m 8 #[.val (.int p1), .val (.int p2)] [(.int ((p1 &&& (255 : Int32)) <<< ((8 : Int32) &&& 31)))])) _
    refine XS.iloadN X0.here hx rfl (hb hby d2_8) rfl ?_
    show Steps p.tables e below (s₁.setTop (mkF m 9 #[.val (.int p1), .val (.int p2)] [(.int p2), (.int ((p1 &&& (255 : Int32)) <<< ((8 : Int32) &&& 31)))])) _
    refine XS.sipush X0.here hx rfl (hb hby d2_9) ?_
    show Steps p.tables e below (s₁.setTop (mkF m 12 #[.val (.int p1), .val (.int p2)] [(.int (255 : Int32)), (.int p2), (.int ((p1 &&& (255 : Int32)) <<< ((8 : Int32) &&& 31)))])) _
    refine XS.iand X0.here hx rfl (hb hby d2_12) rfl ?_
    show Steps p.tables e below (s₁.setTop (mkF m 13 #[.val (.int p1), .val (.int p2)] [(.int (p2 &&& (255 : Int32))), (.int ((p1 &&& (255 : Int32)) <<< ((8 : Int32) &&& 31)))])) _
    refine XS.ior X0.here hx rfl (hb hby d2_13) rfl ?_
    show Steps p.tables e below (s₁.setTop (mkF m 14 #[.val (.int p1), .val (.int p2)] [(.int (((p1 &&& (255 : Int32)) <<< ((8 : Int32) &&& 31)) ||| (p2 &&& (255 : Int32))))])) _
    exact retI X0 hx Bd.returns (hb hby d2_14) hr
  · show QP _ h0 n0 _ s₁.heap _
    rw [e0, show f2 p1 p2 = (((p1 &&& (255 : Int32)) <<< ((8 : Int32) &&& 31)) ||| (p2 &&& (255 : Int32))) from rfl]
    exact ⟨rfl, N0, rfl⟩
theorem d1_0 : decode prog_26_method_2_code 0 = .ok (.iload_n 2, 1) := by decide +kernel
theorem d1_1 : decode prog_26_method_2_code 1 = .ok (.iconst 2, 1) := by decide +kernel
theorem d1_2 : decode prog_26_method_2_code 2 = .ok (.if_icmp .lt 21, 3) := by decide +kernel
theorem d1_23 : decode prog_26_method_2_code 23 = .ok (.iconst 1, 1) := by decide +kernel
theorem d1_24 : decode prog_26_method_2_code 24 = .ok (.goto 4, 3) := by decide +kernel
theorem d1_28 : decode prog_26_method_2_code 28 = .ok (.ireturn, 1) := by decide +kernel
theorem d1_5 : decode prog_26_method_2_code 5 = .ok (.aload_n 1, 1) := by decide +kernel
theorem d1_6 : decode prog_26_method_2_code 6 = .ok (.iconst 0, 1) := by decide +kernel
theorem d1_7 : decode prog_26_method_2_code 7 = .ok (.baload, 1) := by decide +kernel
theorem d1_8 : decode prog_26_method_2_code 8 = .ok (.aload_n 0, 1) := by decide +kernel
theorem d1_9 : decode prog_26_method_2_code 9 = .ok (.iconst 0, 1) := by decide +kernel
theorem d1_10 : decode prog_26_method_2_code 10 = .ok (.baload, 1) := by decide +kernel
theorem d1_11 : decode prog_26_method_2_code 11 = .ok (.if_icmp .ne 16, 3) := by decide +kernel
theorem d1_14 : decode prog_26_method_2_code 14 = .ok (.aload_n 1, 1) := by decide +kernel
theorem d1_15 : decode prog_26_method_2_code 15 = .ok (.iconst 1, 1) := by decide +kernel
theorem d1_16 : decode prog_26_method_2_code 16 = .ok (.baload, 1) := by decide +kernel
theorem d1_17 : decode prog_26_method_2_code 17 = .ok (.aload_n 0, 1) := by decide +kernel
theorem d1_18 : decode prog_26_method_2_code 18 = .ok (.iconst 1, 1) := by decide +kernel
theorem d1_19 : decode prog_26_method_2_code 19 = .ok (.baload, 1) := by decide +kernel
theorem d1_20 : decode prog_26_method_2_code 20 = .ok (.if_icmp .ne 7, 3) := by decide +kernel
theorem d1_27 : decode prog_26_method_2_code 27 = .ok (.iconst 0, 1) := by decide +kernel
theorem pn_1 : plainName "com/example/assay/assay/dns/Answer" = true := by first | (simp [plainName, overriddenIn]; done) | decide +kernel
theorem ef_1 (m : MethodId) (x0 : Addr) (x1 : Addr) (x2 : Int32) : entryFrame m #[(.ref x0), (.ref x1), (.int x2)] 3 = mkF m 0 #[.val (.ref x0), .val (.ref x1), .val (.int x2)] [] := by first | (simp [entryFrame, mkF, argsToLocals, Value.category]; done) | rfl
def f1 (a1 : Addr) (a2 : Addr) (p3 : Int32) (k1 : ClassId) (k2 : ClassId) (x0 : Int32) (x1 : Int32) (x2 : Int32) (y0 : Int32) (y1 : Int32) (y2 : Int32) (y3 : Int32) : Int32 := (if p3 < (2 : Int32) then (1 : Int32) else (if y0 = x0 then (if y1 = x1 then (1 : Int32) else (0 : Int32)) else (0 : Int32)))
set_option maxRecDepth 65536 in
set_option maxHeartbeats 40000000 in
theorem rm1 (l : Launch) (Z : State) (a0 : Array Value) (hw : ∀ d ∈ tables_1, d.before a0 Z = true) (ws : List Jvm.Cond) (a1 : Addr) (a2 : Addr) (p3 : Int32) (k1 : ClassId) (k2 : ClassId) (x0 : Int32) (x1 : Int32) (x2 : Int32) (y0 : Int32) (y1 : Int32) (y2 : Int32) (y3 : Int32) (h0 : Heap) (n0 : Nat) (Z0 : n0 ≤ h0.size) (V_a1 : Arv Z h0 a1 k1 .byte (3 : Int32) [(.int x0), (.int x1), (.int x2)] (.int (0 : Int32))) (V_a2 : Arv Z h0 a2 k2 .byte (4 : Int32) [(.int y0), (.int y1), (.int y2), (.int y3)] (.int (0 : Int32))) :
    MetFree l (⟨"com/example/assay/assay/dns/Answer", "answers", "([B[BI)Z"⟩ : MethodName) (head1 (Jvm.Cond.code (⟨"com/example/assay/assay/dns/Answer", "answers", "([B[BI)Z"⟩ : MethodName) prog_26_method_2_code 3 (some .boolean) :: ws) ({ frames := 0, cells := 0, slots := 0, locals := 0 } : Room)) (fun a U => a = #[(.ref a1), (.ref a2), (.int p3)] ∧ Z.Warmed39 U.vm ∧ U.heap = h0) (fun _ _ _ _ _ => True) (fun _ U o U' => ∃ v L, o = .returned v ∧ QP (some (.int (f1 a1 a2 p3 k1 k2 x0 x1 x2 y0 y1 y2 y3))) h0 n0 v U'.heap L ∧ FrameEnd U o U' L ({ frames := 0, cells := 0, slots := 0, locals := 0 } : Room).cells ({ frames := 0, cells := 0, slots := 0, locals := 0 } : Room).slots) := by
  refine MetFree.of_bodySF (plainFor_of_name pn_1) hisR ?_
  intro p e s m args below meth c s₁ Bd hml0 hP hK
  obtain ⟨rfl, hZ, hh⟩ := hP
  have hx := Bd.exec
  have hby := Bd.bytes
  have hml : c.maxLocals = 3 := hml0
  have hown : s.vm.findClass "com/example/assay/assay/dns/Answer" = some m.cls := findClass_of_methodNamed Bd.named
  have hnm := (name_of_methodNamed Bd.named Bd.method).1
  have X0 : Stand p l e ({ frames := 0, cells := 0, slots := 0, locals := 0 } : Room) s m #[(.ref a1), (.ref a2), (.int p3)] below meth c s₁ [] 0 0 := Stand.of_body Bd
  have e0 : s₁.heap = h0 := by rw [← hh, Bd.state]; rfl
  have N0 := Fr.nil n0
  have pre0 : ∀ t, Steps p.tables e below (s₁.setTop (mkF m 0 #[.val (.ref a1), .val (.ref a2), .val (.int p3)] [])) t → Steps p.tables e below (s₁.setTop (entryFrame m #[(.ref a1), (.ref a2), (.int p3)] 3)) t := fun t k => castTop (ef_1 m a1 a2 p3) k
  have pre2 : ∀ t, Steps p.tables e below (s₁.setTop (mkF m 2 #[.val (.ref a1), .val (.ref a2), .val (.int p3)] [(.int (2 : Int32)), (.int p3)])) t → Steps p.tables e below (s₁.setTop (entryFrame m #[(.ref a1), (.ref a2), (.int p3)] 3)) t := fun t k => by
    refine pre0 _ ?_
    show Steps p.tables e below (s₁.setTop (mkF m 0 #[.val (.ref a1), .val (.ref a2), .val (.int p3)] [])) _
    refine XS.iloadN X0.here hx rfl (hb hby d1_0) rfl ?_
    show Steps p.tables e below (s₁.setTop (mkF m 1 #[.val (.ref a1), .val (.ref a2), .val (.int p3)] [(.int p3)])) _
    refine XS.iconst X0.here hx rfl (hb hby d1_1) ?_
    exact k
  by_cases hc1 : p3 < (2 : Int32)
  · obtain ⟨fs, hr, hrun, hended, hW, hsame⟩ := X0.leave (v := some (.int (1 : Int32))) (fun h => by rw [Bd.returns] at h; cases h)
    refine ⟨_, _, pre2 _ ?_, hrun, hended, _, _, rfl, ?_, ⟨_, rfl⟩, hW, hsame.mono (by decide) (by decide)⟩
    · show Steps p.tables e below (s₁.setTop (mkF m 2 #[.val (.ref a1), .val (.ref a2), .val (.int p3)] [(.int (2 : Int32)), (.int p3)])) _
      refine XS.icmpYes X0.here hx rfl (pc0 := 2) (pc' := 23) rfl (hb hby d1_2) rfl (tlt hc1).1 (by decide) (by decide) ?_
      show Steps p.tables e below (s₁.setTop (mkF m 23 #[.val (.ref a1), .val (.ref a2), .val (.int p3)] [])) _
      refine XS.iconst X0.here hx rfl (hb hby d1_23) ?_
      show Steps p.tables e below (s₁.setTop (mkF m 24 #[.val (.ref a1), .val (.ref a2), .val (.int p3)] [(.int (1 : Int32))])) _
      refine XS.goto X0.here hx rfl (pc0 := 24) (pc' := 28) rfl (hb hby d1_24) (by decide) (by decide) ?_
      show Steps p.tables e below (s₁.setTop (mkF m 28 #[.val (.ref a1), .val (.ref a2), .val (.int p3)] [(.int (1 : Int32))])) _
      exact retN X0 hx (t := .boolean) Bd.returns (by simp) (hb hby d1_28) hr
    · show QP _ h0 n0 _ s₁.heap _
      rw [e0, show f1 a1 a2 p3 k1 k2 x0 x1 x2 y0 y1 y2 y3 = (1 : Int32) from by unfold f1; rw [if_pos hc1]]
      exact ⟨rfl, N0, rfl⟩
  · obtain ⟨cl3, Ar3, q3, Sz3, Nn3, Hh3, Gg3⟩ := id V_a2
    have hin3 : ¬ ((0 : Int32) < 0 ∨ cl3.slots.size ≤ ((0 : Int32)).toNatClampNeg) := inb_of Sz3 ⟨by decide, by decide⟩
    have hat3 : cl3.slots[((0 : Int32)).toNatClampNeg]? = some (.int y0) := Hh3.at hin3 rfl
    obtain ⟨cl4, Ar4, q4, Sz4, Nn4, Hh4, Gg4⟩ := id V_a1
    have hin4 : ¬ ((0 : Int32) < 0 ∨ cl4.slots.size ≤ ((0 : Int32)).toNatClampNeg) := inb_of Sz4 ⟨by decide, by decide⟩
    have hat4 : cl4.slots[((0 : Int32)).toNatClampNeg]? = some (.int x0) := Hh4.at hin4 rfl
    have pre6 : ∀ t, Steps p.tables e below (s₁.setTop (mkF m 11 #[.val (.ref a1), .val (.ref a2), .val (.int p3)] [(.int x0), (.int y0)])) t → Steps p.tables e below (s₁.setTop (entryFrame m #[(.ref a1), (.ref a2), (.int p3)] 3)) t := fun t k => by
      refine pre2 _ ?_
      show Steps p.tables e below (s₁.setTop (mkF m 2 #[.val (.ref a1), .val (.ref a2), .val (.int p3)] [(.int (2 : Int32)), (.int p3)])) _
      refine XS.icmpNo X0.here hx rfl (hb hby d1_2) rfl (flt hc1).1 ?_
      show Steps p.tables e below (s₁.setTop (mkF m 5 #[.val (.ref a1), .val (.ref a2), .val (.int p3)] [])) _
      refine XS.aloadN X0.here hx rfl (hb hby d1_5) rfl rfl ?_
      show Steps p.tables e below (s₁.setTop (mkF m 6 #[.val (.ref a1), .val (.ref a2), .val (.int p3)] [(.ref a2)])) _
      refine XS.iconst X0.here hx rfl (hb hby d1_6) ?_
      show Steps p.tables e below (s₁.setTop (mkF m 7 #[.val (.ref a1), .val (.ref a2), .val (.int p3)] [(.int (0 : Int32)), (.ref a2)])) _
      refine X0.baloadBytes hx (j := (0 : Int32)) (v := (.int y0)) (by rw [e0]; exact Ar3.1) (State.isArrayOf_alike hZ.alike Ar3.2.1) Ar3.2.2 hin3 hat3 (g := (mkF m 7 #[.val (.ref a1), .val (.ref a2), .val (.int p3)] [(.int (0 : Int32)), (.ref a2)])) rfl rfl (hb hby d1_7) _ ?_
      show Steps p.tables e below (s₁.setTop (mkF m 8 #[.val (.ref a1), .val (.ref a2), .val (.int p3)] [(.int y0)])) _
      refine XS.aloadN X0.here hx rfl (hb hby d1_8) rfl rfl ?_
      show Steps p.tables e below (s₁.setTop (mkF m 9 #[.val (.ref a1), .val (.ref a2), .val (.int p3)] [(.ref a1), (.int y0)])) _
      refine XS.iconst X0.here hx rfl (hb hby d1_9) ?_
      show Steps p.tables e below (s₁.setTop (mkF m 10 #[.val (.ref a1), .val (.ref a2), .val (.int p3)] [(.int (0 : Int32)), (.ref a1), (.int y0)])) _
      refine X0.baloadBytes hx (j := (0 : Int32)) (v := (.int x0)) (by rw [e0]; exact Ar4.1) (State.isArrayOf_alike hZ.alike Ar4.2.1) Ar4.2.2 hin4 hat4 (g := (mkF m 10 #[.val (.ref a1), .val (.ref a2), .val (.int p3)] [(.int (0 : Int32)), (.ref a1), (.int y0)])) rfl rfl (hb hby d1_10) _ ?_
      exact k
    by_cases hc5 : y0 = x0
    · obtain ⟨cl7, Ar7, q7, Sz7, Nn7, Hh7, Gg7⟩ := id V_a2
      have hin7 : ¬ ((1 : Int32) < 0 ∨ cl7.slots.size ≤ ((1 : Int32)).toNatClampNeg) := inb_of Sz7 ⟨by decide, by decide⟩
      have hat7 : cl7.slots[((1 : Int32)).toNatClampNeg]? = some (.int y1) := Hh7.at hin7 rfl
      obtain ⟨cl8, Ar8, q8, Sz8, Nn8, Hh8, Gg8⟩ := id V_a1
      have hin8 : ¬ ((1 : Int32) < 0 ∨ cl8.slots.size ≤ ((1 : Int32)).toNatClampNeg) := inb_of Sz8 ⟨by decide, by decide⟩
      have hat8 : cl8.slots[((1 : Int32)).toNatClampNeg]? = some (.int x1) := Hh8.at hin8 rfl
      have pre10 : ∀ t, Steps p.tables e below (s₁.setTop (mkF m 20 #[.val (.ref a1), .val (.ref a2), .val (.int p3)] [(.int x1), (.int y1)])) t → Steps p.tables e below (s₁.setTop (entryFrame m #[(.ref a1), (.ref a2), (.int p3)] 3)) t := fun t k => by
        refine pre6 _ ?_
        show Steps p.tables e below (s₁.setTop (mkF m 11 #[.val (.ref a1), .val (.ref a2), .val (.int p3)] [(.int x0), (.int y0)])) _
        refine XS.icmpNo X0.here hx rfl (hb hby d1_11) rfl (teq hc5).2 ?_
        show Steps p.tables e below (s₁.setTop (mkF m 14 #[.val (.ref a1), .val (.ref a2), .val (.int p3)] [])) _
        refine XS.aloadN X0.here hx rfl (hb hby d1_14) rfl rfl ?_
        show Steps p.tables e below (s₁.setTop (mkF m 15 #[.val (.ref a1), .val (.ref a2), .val (.int p3)] [(.ref a2)])) _
        refine XS.iconst X0.here hx rfl (hb hby d1_15) ?_
        show Steps p.tables e below (s₁.setTop (mkF m 16 #[.val (.ref a1), .val (.ref a2), .val (.int p3)] [(.int (1 : Int32)), (.ref a2)])) _
        refine X0.baloadBytes hx (j := (1 : Int32)) (v := (.int y1)) (by rw [e0]; exact Ar7.1) (State.isArrayOf_alike hZ.alike Ar7.2.1) Ar7.2.2 hin7 hat7 (g := (mkF m 16 #[.val (.ref a1), .val (.ref a2), .val (.int p3)] [(.int (1 : Int32)), (.ref a2)])) rfl rfl (hb hby d1_16) _ ?_
        show Steps p.tables e below (s₁.setTop (mkF m 17 #[.val (.ref a1), .val (.ref a2), .val (.int p3)] [(.int y1)])) _
        refine XS.aloadN X0.here hx rfl (hb hby d1_17) rfl rfl ?_
        show Steps p.tables e below (s₁.setTop (mkF m 18 #[.val (.ref a1), .val (.ref a2), .val (.int p3)] [(.ref a1), (.int y1)])) _
        refine XS.iconst X0.here hx rfl (hb hby d1_18) ?_
        show Steps p.tables e below (s₁.setTop (mkF m 19 #[.val (.ref a1), .val (.ref a2), .val (.int p3)] [(.int (1 : Int32)), (.ref a1), (.int y1)])) _
        refine X0.baloadBytes hx (j := (1 : Int32)) (v := (.int x1)) (by rw [e0]; exact Ar8.1) (State.isArrayOf_alike hZ.alike Ar8.2.1) Ar8.2.2 hin8 hat8 (g := (mkF m 19 #[.val (.ref a1), .val (.ref a2), .val (.int p3)] [(.int (1 : Int32)), (.ref a1), (.int y1)])) rfl rfl (hb hby d1_19) _ ?_
        exact k
      by_cases hc9 : y1 = x1
      · obtain ⟨fs, hr, hrun, hended, hW, hsame⟩ := X0.leave (v := some (.int (1 : Int32))) (fun h => by rw [Bd.returns] at h; cases h)
        refine ⟨_, _, pre10 _ ?_, hrun, hended, _, _, rfl, ?_, ⟨_, rfl⟩, hW, hsame.mono (by decide) (by decide)⟩
        · show Steps p.tables e below (s₁.setTop (mkF m 20 #[.val (.ref a1), .val (.ref a2), .val (.int p3)] [(.int x1), (.int y1)])) _
          refine XS.icmpNo X0.here hx rfl (hb hby d1_20) rfl (teq hc9).2 ?_
          show Steps p.tables e below (s₁.setTop (mkF m 23 #[.val (.ref a1), .val (.ref a2), .val (.int p3)] [])) _
          refine XS.iconst X0.here hx rfl (hb hby d1_23) ?_
          show Steps p.tables e below (s₁.setTop (mkF m 24 #[.val (.ref a1), .val (.ref a2), .val (.int p3)] [(.int (1 : Int32))])) _
          refine XS.goto X0.here hx rfl (pc0 := 24) (pc' := 28) rfl (hb hby d1_24) (by decide) (by decide) ?_
          show Steps p.tables e below (s₁.setTop (mkF m 28 #[.val (.ref a1), .val (.ref a2), .val (.int p3)] [(.int (1 : Int32))])) _
          exact retN X0 hx (t := .boolean) Bd.returns (by simp) (hb hby d1_28) hr
        · show QP _ h0 n0 _ s₁.heap _
          rw [e0, show f1 a1 a2 p3 k1 k2 x0 x1 x2 y0 y1 y2 y3 = (1 : Int32) from by unfold f1; rw [if_neg hc1, if_pos hc5, if_pos hc9]]
          exact ⟨rfl, N0, rfl⟩
      · obtain ⟨fs, hr, hrun, hended, hW, hsame⟩ := X0.leave (v := some (.int (0 : Int32))) (fun h => by rw [Bd.returns] at h; cases h)
        refine ⟨_, _, pre10 _ ?_, hrun, hended, _, _, rfl, ?_, ⟨_, rfl⟩, hW, hsame.mono (by decide) (by decide)⟩
        · show Steps p.tables e below (s₁.setTop (mkF m 20 #[.val (.ref a1), .val (.ref a2), .val (.int p3)] [(.int x1), (.int y1)])) _
          refine XS.icmpYes X0.here hx rfl (pc0 := 20) (pc' := 27) rfl (hb hby d1_20) rfl (feq hc9).2 (by decide) (by decide) ?_
          show Steps p.tables e below (s₁.setTop (mkF m 27 #[.val (.ref a1), .val (.ref a2), .val (.int p3)] [])) _
          refine XS.iconst X0.here hx rfl (hb hby d1_27) ?_
          show Steps p.tables e below (s₁.setTop (mkF m 28 #[.val (.ref a1), .val (.ref a2), .val (.int p3)] [(.int (0 : Int32))])) _
          exact retN X0 hx (t := .boolean) Bd.returns (by simp) (hb hby d1_28) hr
        · show QP _ h0 n0 _ s₁.heap _
          rw [e0, show f1 a1 a2 p3 k1 k2 x0 x1 x2 y0 y1 y2 y3 = (0 : Int32) from by unfold f1; rw [if_neg hc1, if_pos hc5, if_neg hc9]]
          exact ⟨rfl, N0, rfl⟩
    · obtain ⟨fs, hr, hrun, hended, hW, hsame⟩ := X0.leave (v := some (.int (0 : Int32))) (fun h => by rw [Bd.returns] at h; cases h)
      refine ⟨_, _, pre6 _ ?_, hrun, hended, _, _, rfl, ?_, ⟨_, rfl⟩, hW, hsame.mono (by decide) (by decide)⟩
      · show Steps p.tables e below (s₁.setTop (mkF m 11 #[.val (.ref a1), .val (.ref a2), .val (.int p3)] [(.int x0), (.int y0)])) _
        refine XS.icmpYes X0.here hx rfl (pc0 := 11) (pc' := 27) rfl (hb hby d1_11) rfl (feq hc5).2 (by decide) (by decide) ?_
        show Steps p.tables e below (s₁.setTop (mkF m 27 #[.val (.ref a1), .val (.ref a2), .val (.int p3)] [])) _
        refine XS.iconst X0.here hx rfl (hb hby d1_27) ?_
        show Steps p.tables e below (s₁.setTop (mkF m 28 #[.val (.ref a1), .val (.ref a2), .val (.int p3)] [(.int (0 : Int32))])) _
        exact retN X0 hx (t := .boolean) Bd.returns (by simp) (hb hby d1_28) hr
      · show QP _ h0 n0 _ s₁.heap _
        rw [e0, show f1 a1 a2 p3 k1 k2 x0 x1 x2 y0 y1 y2 y3 = (0 : Int32) from by unfold f1; rw [if_neg hc1, if_neg hc5]]
        exact ⟨rfl, N0, rfl⟩
abbrev fans (p3 x0 x1 y0 y1 : Int32) : Int32 := f1 (0 : Addr) (0 : Addr) p3 (0 : ClassId) (0 : ClassId) x0 x1 0 y0 y1 0 0
theorem pd_0 : parseMethodDescriptor "(BB)I" = some ⟨[.byte, .byte], some .int⟩ := by decide +kernel
theorem pd_1 : parseMethodDescriptor "([B[BI)Z" = some ⟨[(.array .byte), (.array .byte), .int], some .boolean⟩ := by decide +kernel
theorem ef_0 (m : MethodId) (x0 : Int32) (x1 : Int32) (x2 : Int32) (x3 : Int32) : entryFrame m #[(.int x0), (.int x1), (.int x2), (.int x3)] maxLocals = mkF m 0 #[.val (.int x0), .val (.int x1), .val (.int x2), .val (.int x3), .unset, .unset, .unset, .unset] [] := by first | (simp [entryFrame, mkF, argsToLocals, Value.category, maxLocals]; done) | rfl
def mg0_37a (p1 : Int32) (p2 : Int32) (p3 : Int32) (p4 : Int32) : Int32 := if (p3 &&& (1 : Int32)) = (0 : Int32) then ((p2.toInt8.toInt32).toInt8.toInt32) else (((((p1.toInt8.toInt32).toInt8.toInt32) ^^^ ((p3 >>> ((8 : Int32) &&& 31)) &&& (255 : Int32))).toInt8.toInt32).toInt8.toInt32)
def mg0_70a (p1 : Int32) (p2 : Int32) (p3 : Int32) (p4 : Int32) : Int32 := if (p3 &&& (2 : Int32)) = (0 : Int32) then (((p2 >>> ((8 : Int32) &&& 31)).toInt8.toInt32).toInt8.toInt32) else ((((((p1 >>> ((8 : Int32) &&& 31)).toInt8.toInt32).toInt8.toInt32) ^^^ ((p3 >>> ((16 : Int32) &&& 31)) &&& (255 : Int32))).toInt8.toInt32).toInt8.toInt32)
def mg0_106a (p1 : Int32) (p2 : Int32) (p3 : Int32) (p4 : Int32) : Int32 := if (p3 &&& (4 : Int32)) = (0 : Int32) then (((p2 >>> ((16 : Int32) &&& 31)).toInt8.toInt32).toInt8.toInt32) else ((((p1 >>> ((16 : Int32) &&& 31)).toInt8.toInt32).toInt8.toInt32).toInt8.toInt32)
def mg0_180a (p1 : Int32) (p2 : Int32) (p3 : Int32) (p4 : Int32) : Int32 := if (f2 (mg0_37a p1 p2 p3 p4) (mg0_70a p1 p2 p3 p4)) = (f2 ((p1.toInt8.toInt32).toInt8.toInt32) (((p1 >>> ((8 : Int32) &&& 31)).toInt8.toInt32).toInt8.toInt32)) then (1 : Int32) else (0 : Int32)
def mg0_149a (p1 : Int32) (p2 : Int32) (p3 : Int32) (p4 : Int32) : Int32 := if ((p4 &&& (2147483647 : Int32)) % (5 : Int32)) < (2 : Int32) then (1 : Int32) else (mg0_180a p1 p2 p3 p4)
def f0 (p1 : Int32) (p2 : Int32) (p3 : Int32) (p4 : Int32) : Int32 := (if (fans ((p4 &&& (2147483647 : Int32)) % (5 : Int32)) ((p1.toInt8.toInt32).toInt8.toInt32) (((p1 >>> ((8 : Int32) &&& 31)).toInt8.toInt32).toInt8.toInt32) (mg0_37a p1 p2 p3 p4) (mg0_70a p1 p2 p3 p4)) = (mg0_149a p1 p2 p3 p4) then (1 : Int32) else (0 : Int32))
set_option maxRecDepth 65536 in
set_option maxHeartbeats 40000000 in
theorem rm0 (l : Launch) (Z : State) (a0 : Array Value) (hw : ∀ d ∈ tables_1, d.before a0 Z = true) (ws : List Jvm.Cond) (p1 : Int32) (p2 : Int32) (p3 : Int32) (p4 : Int32) (h0 : Heap) (n0 : Nat) (Z0 : n0 ≤ h0.size) :
    MetFree l x (head1 (Jvm.Cond.code x code maxLocals ret :: ws) room_1) (fun a U => a = #[(.int p1), (.int p2), (.int p3), (.int p4)] ∧ Z.Warmed39 U.vm ∧ U.heap = h0) (fun _ _ _ _ _ => True) (fun _ U o U' => ∃ v L, o = .returned v ∧ QL (some (.int (f0 p1 p2 p3 p4))) n0 v U'.heap L ∧ FrameEnd U o U' L room_1.cells room_1.slots) := by
  refine MetFree.of_bodySF (plainFor_of_name pn_2) hisR ?_
  intro p e s m args below meth c s₁ Bd hml0 hP hK
  obtain ⟨rfl, hZ, hh⟩ := hP
  have hx := Bd.exec
  have hby := Bd.bytes
  have hml : c.maxLocals = 8 := hml0
  have hown : s.vm.findClass "com/example/assay/assay/dns/AnswerAnswersPinLaw" = some m.cls := findClass_of_methodNamed Bd.named
  have hnm := (name_of_methodNamed Bd.named Bd.method).1
  have X0 : Stand p l e room_1 s m #[(.int p1), (.int p2), (.int p3), (.int p4)] below meth c s₁ [] 0 0 := Stand.of_body Bd
  have e0 : s₁.heap = h0 := by rw [← hh, Bd.state]; rfl
  have N0 := Fr.nil n0
  have pre0 : ∀ t, Steps p.tables e below (s₁.setTop (mkF m 0 #[.val (.int p1), .val (.int p2), .val (.int p3), .val (.int p4), .unset, .unset, .unset, .unset] [])) t → Steps p.tables e below (s₁.setTop (entryFrame m #[(.int p1), (.int p2), (.int p3), (.int p4)] maxLocals)) t := fun t k => castTop (ef_0 m p1 p2 p3 p4) k
  obtain ⟨T11, h11, k11, X11, e11, E11, A11, st11⟩ := newP X0 hx hZ (hw _ (List.mem_of_getElem? (i := 0) rfl)) e0 (g := (mkF m 1 #[.val (.int p1), .val (.int p2), .val (.int p3), .val (.int p4), .unset, .unset, .unset, .unset] [(.int (3 : Int32))])) rfl (hb hby at_1) rfl (by decide) (cap := 3) (by decide) (by decide) (by decide) (by decide)
  obtain ⟨b11, g11⟩ : ∃ z, z = h0.size := ⟨_, rfl⟩
  rw [← g11] at A11 st11
  have g_b11 : n0 ≤ b11 := Nat.le_trans Z0 (Nat.le_of_eq g11.symm)
  replace Z0 := Nat.le_trans Z0 E11.1
  have V_b11 : Arv Z h11 b11 k11 .byte (3 : Int32) [(.int (0 : Int32)), (.int (0 : Int32)), (.int (0 : Int32))] (.int (0 : Int32)) := (Arv.new A11 (by decide)).pad (pad_rep [] (.int (0 : Int32)) 3)
  obtain ⟨cl12, Ar12, q12, Sz12, Nn12, Hh12, Gg12⟩ := V_b11
  have hin12 : ¬ ((0 : Int32) < 0 ∨ cl12.slots.size ≤ ((0 : Int32)).toNatClampNeg) := inb_of Sz12 ⟨by decide, by decide⟩
  obtain ⟨T13, h13, X13, e13, W13, st13⟩ := stB X11 hx hZ e11 Ar12 (j := (0 : Int32)) hin12 (g := (mkF m 10 #[.val (.int p1), .val (.int p2), .val (.int p3), .val (.int p4), .val (.ref b11), .unset, .unset, .unset] [(.int (p1.toInt8.toInt32)), (.int (0 : Int32)), (.ref b11)])) rfl rfl (hb hby at_10)
  replace Z0 := Nat.le_trans Z0 (Keep.of_wr W13).1
  have V_b11 : Arv Z h13 b11 k11 .byte (3 : Int32) [(.int ((p1.toInt8.toInt32).toInt8.toInt32)), (.int (0 : Int32)), (.int (0 : Int32))] (.int (0 : Int32)) := Arv.set Ar12 q12 Sz12 Nn12 Hh12 Gg12 (fits_nar_byte _) W13 0 rfl (Nat.le_of_ble_eq_true rfl)
  have N13 := Fr.snoc X13 N0 g_b11
  obtain ⟨cl14, Ar14, q14, Sz14, Nn14, Hh14, Gg14⟩ := V_b11
  have hin14 : ¬ ((1 : Int32) < 0 ∨ cl14.slots.size ≤ ((1 : Int32)).toNatClampNeg) := inb_of Sz14 ⟨by decide, by decide⟩
  obtain ⟨T15, h15, X15, e15, W15, st15⟩ := stB X13 hx hZ e13 Ar14 (j := (1 : Int32)) hin14 (g := (mkF m 19 #[.val (.int p1), .val (.int p2), .val (.int p3), .val (.int p4), .val (.ref b11), .unset, .unset, .unset] [(.int ((p1 >>> ((8 : Int32) &&& 31)).toInt8.toInt32)), (.int (1 : Int32)), (.ref b11)])) rfl rfl (hb hby at_19)
  replace Z0 := Nat.le_trans Z0 (Keep.of_wr W15).1
  have V_b11 : Arv Z h15 b11 k11 .byte (3 : Int32) [(.int ((p1.toInt8.toInt32).toInt8.toInt32)), (.int (((p1 >>> ((8 : Int32) &&& 31)).toInt8.toInt32).toInt8.toInt32)), (.int (0 : Int32))] (.int (0 : Int32)) := Arv.set Ar14 q14 Sz14 Nn14 Hh14 Gg14 (fits_nar_byte _) W15 1 rfl (Nat.le_of_ble_eq_true rfl)
  have N15 := Fr.snoc X15 N13 g_b11
  obtain ⟨cl16, Ar16, q16, Sz16, Nn16, Hh16, Gg16⟩ := V_b11
  have hin16 : ¬ ((2 : Int32) < 0 ∨ cl16.slots.size ≤ ((2 : Int32)).toNatClampNeg) := inb_of Sz16 ⟨by decide, by decide⟩
  obtain ⟨T17, h17, X17, e17, W17, st17⟩ := stB X15 hx hZ e15 Ar16 (j := (2 : Int32)) hin16 (g := (mkF m 28 #[.val (.int p1), .val (.int p2), .val (.int p3), .val (.int p4), .val (.ref b11), .unset, .unset, .unset] [(.int ((p1 >>> ((16 : Int32) &&& 31)).toInt8.toInt32)), (.int (2 : Int32)), (.ref b11)])) rfl rfl (hb hby at_28)
  replace Z0 := Nat.le_trans Z0 (Keep.of_wr W17).1
  have V_b11 : Arv Z h17 b11 k11 .byte (3 : Int32) [(.int ((p1.toInt8.toInt32).toInt8.toInt32)), (.int (((p1 >>> ((8 : Int32) &&& 31)).toInt8.toInt32).toInt8.toInt32)), (.int (((p1 >>> ((16 : Int32) &&& 31)).toInt8.toInt32).toInt8.toInt32))] (.int (0 : Int32)) := Arv.set Ar16 q16 Sz16 Nn16 Hh16 Gg16 (fits_nar_byte _) W17 2 rfl (Nat.le_of_ble_eq_true rfl)
  have N17 := Fr.snoc X17 N15 g_b11
  obtain ⟨T18, h18, k18, X18, e18, E18, A18, st18⟩ := newP X17 hx hZ (hw _ (List.mem_of_getElem? (i := 0) rfl)) e17 (g := (mkF m 30 #[.val (.int p1), .val (.int p2), .val (.int p3), .val (.int p4), .val (.ref b11), .unset, .unset, .unset] [(.int (4 : Int32))])) rfl (hb hby at_30) rfl (by decide) (cap := 4) (by decide) (by decide) (by decide) (by decide)
  obtain ⟨b18, g18⟩ : ∃ z, z = h17.size := ⟨_, rfl⟩
  rw [← g18] at A18 st18
  have g_b18 : n0 ≤ b18 := Nat.le_trans Z0 (Nat.le_of_eq g18.symm)
  have ne_b11_b18 : b11 ≠ b18 := Nat.ne_of_lt (Nat.lt_of_lt_of_le V_b11.lt (Nat.le_of_eq g18.symm))
  replace V_b11 := V_b11.ext E18
  replace Z0 := Nat.le_trans Z0 E18.1
  have V_b18 : Arv Z h18 b18 k18 .byte (4 : Int32) [(.int (0 : Int32)), (.int (0 : Int32)), (.int (0 : Int32)), (.int (0 : Int32))] (.int (0 : Int32)) := (Arv.new A18 (by decide)).pad (pad_rep [] (.int (0 : Int32)) 4)
  have pre20 : ∀ t, Steps p.tables e below (T18.setTop (mkF m 37 #[.val (.int p1), .val (.int p2), .val (.int p3), .val (.int p4), .val (.ref b11), .val (.ref b18), .unset, .unset] [(.int (p3 &&& (1 : Int32)))])) t → Steps p.tables e below (s₁.setTop (entryFrame m #[(.int p1), (.int p2), (.int p3), (.int p4)] maxLocals)) t := fun t k => by
    refine pre0 _ ?_
    show Steps p.tables e below (s₁.setTop (mkF m 0 #[.val (.int p1), .val (.int p2), .val (.int p3), .val (.int p4), .unset, .unset, .unset, .unset] [])) _
    refine XS.iconst X0.here hx rfl (hb hby at_0) ?_
    show Steps p.tables e below (s₁.setTop (mkF m 1 #[.val (.int p1), .val (.int p2), .val (.int p3), .val (.int p4), .unset, .unset, .unset, .unset] [(.int (3 : Int32))])) _
    refine st11 _ ?_
    show Steps p.tables e below (T11.setTop (mkF m 3 #[.val (.int p1), .val (.int p2), .val (.int p3), .val (.int p4), .unset, .unset, .unset, .unset] [(.ref b11)])) _
    refine XS.astore X11.here hx rfl (hb hby at_3) rfl rfl (l' := #[.val (.int p1), .val (.int p2), .val (.int p3), .val (.int p4), .val (.ref b11), .unset, .unset, .unset]) rfl ?_
    show Steps p.tables e below (T11.setTop (mkF m 5 #[.val (.int p1), .val (.int p2), .val (.int p3), .val (.int p4), .val (.ref b11), .unset, .unset, .unset] [])) _
    refine XS.aload X11.here hx rfl (hb hby at_5) rfl rfl ?_
    show Steps p.tables e below (T11.setTop (mkF m 7 #[.val (.int p1), .val (.int p2), .val (.int p3), .val (.int p4), .val (.ref b11), .unset, .unset, .unset] [(.ref b11)])) _
    refine XS.iconst X11.here hx rfl (hb hby at_7) ?_
    show Steps p.tables e below (T11.setTop (mkF m 8 #[.val (.int p1), .val (.int p2), .val (.int p3), .val (.int p4), .val (.ref b11), .unset, .unset, .unset] [(.int (0 : Int32)), (.ref b11)])) _
    refine XS.iloadN X11.here hx rfl (hb hby at_8) rfl ?_
    show Steps p.tables e below (T11.setTop (mkF m 9 #[.val (.int p1), .val (.int p2), .val (.int p3), .val (.int p4), .val (.ref b11), .unset, .unset, .unset] [(.int p1), (.int (0 : Int32)), (.ref b11)])) _
    refine XS.i2b X11.here hx rfl (hb hby at_9) rfl ?_
    show Steps p.tables e below (T11.setTop (mkF m 10 #[.val (.int p1), .val (.int p2), .val (.int p3), .val (.int p4), .val (.ref b11), .unset, .unset, .unset] [(.int (p1.toInt8.toInt32)), (.int (0 : Int32)), (.ref b11)])) _
    refine st13 _ ?_
    show Steps p.tables e below (T13.setTop (mkF m 11 #[.val (.int p1), .val (.int p2), .val (.int p3), .val (.int p4), .val (.ref b11), .unset, .unset, .unset] [])) _
    refine XS.aload X13.here hx rfl (hb hby at_11) rfl rfl ?_
    show Steps p.tables e below (T13.setTop (mkF m 13 #[.val (.int p1), .val (.int p2), .val (.int p3), .val (.int p4), .val (.ref b11), .unset, .unset, .unset] [(.ref b11)])) _
    refine XS.iconst X13.here hx rfl (hb hby at_13) ?_
    show Steps p.tables e below (T13.setTop (mkF m 14 #[.val (.int p1), .val (.int p2), .val (.int p3), .val (.int p4), .val (.ref b11), .unset, .unset, .unset] [(.int (1 : Int32)), (.ref b11)])) _
    refine XS.iloadN X13.here hx rfl (hb hby at_14) rfl ?_
    show Steps p.tables e below (T13.setTop (mkF m 15 #[.val (.int p1), .val (.int p2), .val (.int p3), .val (.int p4), .val (.ref b11), .unset, .unset, .unset] [(.int p1), (.int (1 : Int32)), (.ref b11)])) _
    refine XS.bipush X13.here hx rfl (hb hby at_15) ?_
    show Steps p.tables e below (T13.setTop (mkF m 17 #[.val (.int p1), .val (.int p2), .val (.int p3), .val (.int p4), .val (.ref b11), .unset, .unset, .unset] [(.int (8 : Int32)), (.int p1), (.int (1 : Int32)), (.ref b11)])) _
    refine XS.ishr X13.here hx rfl (hb hby at_17) rfl ?_
    show Steps p.tables e below (T13.setTop (mkF m 18 #[.val (.int p1), .val (.int p2), .val (.int p3), .val (.int p4), .val (.ref b11), .unset, .unset, .unset] [(.int (p1 >>> ((8 : Int32) &&& 31))), (.int (1 : Int32)), (.ref b11)])) _
    refine XS.i2b X13.here hx rfl (hb hby at_18) rfl ?_
    show Steps p.tables e below (T13.setTop (mkF m 19 #[.val (.int p1), .val (.int p2), .val (.int p3), .val (.int p4), .val (.ref b11), .unset, .unset, .unset] [(.int ((p1 >>> ((8 : Int32) &&& 31)).toInt8.toInt32)), (.int (1 : Int32)), (.ref b11)])) _
    refine st15 _ ?_
    show Steps p.tables e below (T15.setTop (mkF m 20 #[.val (.int p1), .val (.int p2), .val (.int p3), .val (.int p4), .val (.ref b11), .unset, .unset, .unset] [])) _
    refine XS.aload X15.here hx rfl (hb hby at_20) rfl rfl ?_
    show Steps p.tables e below (T15.setTop (mkF m 22 #[.val (.int p1), .val (.int p2), .val (.int p3), .val (.int p4), .val (.ref b11), .unset, .unset, .unset] [(.ref b11)])) _
    refine XS.iconst X15.here hx rfl (hb hby at_22) ?_
    show Steps p.tables e below (T15.setTop (mkF m 23 #[.val (.int p1), .val (.int p2), .val (.int p3), .val (.int p4), .val (.ref b11), .unset, .unset, .unset] [(.int (2 : Int32)), (.ref b11)])) _
    refine XS.iloadN X15.here hx rfl (hb hby at_23) rfl ?_
    show Steps p.tables e below (T15.setTop (mkF m 24 #[.val (.int p1), .val (.int p2), .val (.int p3), .val (.int p4), .val (.ref b11), .unset, .unset, .unset] [(.int p1), (.int (2 : Int32)), (.ref b11)])) _
    refine XS.bipush X15.here hx rfl (hb hby at_24) ?_
    show Steps p.tables e below (T15.setTop (mkF m 26 #[.val (.int p1), .val (.int p2), .val (.int p3), .val (.int p4), .val (.ref b11), .unset, .unset, .unset] [(.int (16 : Int32)), (.int p1), (.int (2 : Int32)), (.ref b11)])) _
    refine XS.ishr X15.here hx rfl (hb hby at_26) rfl ?_
    show Steps p.tables e below (T15.setTop (mkF m 27 #[.val (.int p1), .val (.int p2), .val (.int p3), .val (.int p4), .val (.ref b11), .unset, .unset, .unset] [(.int (p1 >>> ((16 : Int32) &&& 31))), (.int (2 : Int32)), (.ref b11)])) _
    refine XS.i2b X15.here hx rfl (hb hby at_27) rfl ?_
    show Steps p.tables e below (T15.setTop (mkF m 28 #[.val (.int p1), .val (.int p2), .val (.int p3), .val (.int p4), .val (.ref b11), .unset, .unset, .unset] [(.int ((p1 >>> ((16 : Int32) &&& 31)).toInt8.toInt32)), (.int (2 : Int32)), (.ref b11)])) _
    refine st17 _ ?_
    show Steps p.tables e below (T17.setTop (mkF m 29 #[.val (.int p1), .val (.int p2), .val (.int p3), .val (.int p4), .val (.ref b11), .unset, .unset, .unset] [])) _
    refine XS.iconst X17.here hx rfl (hb hby at_29) ?_
    show Steps p.tables e below (T17.setTop (mkF m 30 #[.val (.int p1), .val (.int p2), .val (.int p3), .val (.int p4), .val (.ref b11), .unset, .unset, .unset] [(.int (4 : Int32))])) _
    refine st18 _ ?_
    show Steps p.tables e below (T18.setTop (mkF m 32 #[.val (.int p1), .val (.int p2), .val (.int p3), .val (.int p4), .val (.ref b11), .unset, .unset, .unset] [(.ref b18)])) _
    refine XS.astore X18.here hx rfl (hb hby at_32) rfl rfl (l' := #[.val (.int p1), .val (.int p2), .val (.int p3), .val (.int p4), .val (.ref b11), .val (.ref b18), .unset, .unset]) rfl ?_
    show Steps p.tables e below (T18.setTop (mkF m 34 #[.val (.int p1), .val (.int p2), .val (.int p3), .val (.int p4), .val (.ref b11), .val (.ref b18), .unset, .unset] [])) _
    refine XS.iloadN X18.here hx rfl (hb hby at_34) rfl ?_
    show Steps p.tables e below (T18.setTop (mkF m 35 #[.val (.int p1), .val (.int p2), .val (.int p3), .val (.int p4), .val (.ref b11), .val (.ref b18), .unset, .unset] [(.int p3)])) _
    refine XS.iconst X18.here hx rfl (hb hby at_35) ?_
    show Steps p.tables e below (T18.setTop (mkF m 36 #[.val (.int p1), .val (.int p2), .val (.int p3), .val (.int p4), .val (.ref b11), .val (.ref b18), .unset, .unset] [(.int (1 : Int32)), (.int p3)])) _
    refine XS.iand X18.here hx rfl (hb hby at_36) rfl ?_
    exact k
  obtain ⟨T26, L26, h26, X26, N26, e26, V_b11, V_b18, Z0, pre26⟩ : ∃ T' L' h', Stand p l e room_1 s m #[(.int p1), (.int p2), (.int p3), (.int p4)] below meth c T' L' 2 7 ∧ Fr n0 L' ∧ T'.heap = h' ∧ Arv Z h' b11 k11 .byte (3 : Int32) [(.int ((p1.toInt8.toInt32).toInt8.toInt32)), (.int (((p1 >>> ((8 : Int32) &&& 31)).toInt8.toInt32).toInt8.toInt32)), (.int (((p1 >>> ((16 : Int32) &&& 31)).toInt8.toInt32).toInt8.toInt32))] (.int (0 : Int32)) ∧ Arv Z h' b18 k18 .byte (4 : Int32) [(.int (mg0_37a p1 p2 p3 p4)), (.int (0 : Int32)), (.int (0 : Int32)), (.int (0 : Int32))] (.int (0 : Int32)) ∧ n0 ≤ h'.size ∧ ∀ t, Steps p.tables e below (T'.setTop (mkF m 67 #[.val (.int p1), .val (.int p2), .val (.int p3), .val (.int p4), .val (.ref b11), .val (.ref b18), .unset, .unset] [])) t → Steps p.tables e below (s₁.setTop (entryFrame m #[(.int p1), (.int p2), (.int p3), (.int p4)] maxLocals)) t := by
    by_cases hc19 : (p3 &&& (1 : Int32)) = (0 : Int32)
    · rw [show mg0_37a p1 p2 p3 p4 = ((p2.toInt8.toInt32).toInt8.toInt32) from if_pos hc19]
      obtain ⟨cl21, Ar21, q21, Sz21, Nn21, Hh21, Gg21⟩ := V_b18
      have hin21 : ¬ ((0 : Int32) < 0 ∨ cl21.slots.size ≤ ((0 : Int32)).toNatClampNeg) := inb_of Sz21 ⟨by decide, by decide⟩
      obtain ⟨T22, h22, X22, e22, W22, st22⟩ := stB X18 hx hZ e18 Ar21 (j := (0 : Int32)) hin21 (g := (mkF m 66 #[.val (.int p1), .val (.int p2), .val (.int p3), .val (.int p4), .val (.ref b11), .val (.ref b18), .unset, .unset] [(.int (p2.toInt8.toInt32)), (.int (0 : Int32)), (.ref b18)])) rfl rfl (hb hby at_66)
      replace V_b11 := V_b11.other W22 ne_b11_b18
      replace Z0 := Nat.le_trans Z0 (Keep.of_wr W22).1
      have V_b18 : Arv Z h22 b18 k18 .byte (4 : Int32) [(.int ((p2.toInt8.toInt32).toInt8.toInt32)), (.int (0 : Int32)), (.int (0 : Int32)), (.int (0 : Int32))] (.int (0 : Int32)) := Arv.set Ar21 q21 Sz21 Nn21 Hh21 Gg21 (fits_nar_byte _) W22 0 rfl (Nat.le_of_ble_eq_true rfl)
      have N22 := Fr.snoc X22 N17 g_b18
      refine ⟨T22, _, _, X22, N22, e22, V_b11, V_b18, Z0, fun t k => ?_⟩
      refine pre20 _ ?_
      show Steps p.tables e below (T18.setTop (mkF m 37 #[.val (.int p1), .val (.int p2), .val (.int p3), .val (.int p4), .val (.ref b11), .val (.ref b18), .unset, .unset] [(.int (p3 &&& (1 : Int32)))])) _
      refine XS.ifYes X18.here hx rfl (pc0 := 37) (pc' := 61) rfl (hb hby at_37) rfl ((if0 _ _).trans (teq hc19).1) (by decide) (by decide) ?_
      show Steps p.tables e below (T18.setTop (mkF m 61 #[.val (.int p1), .val (.int p2), .val (.int p3), .val (.int p4), .val (.ref b11), .val (.ref b18), .unset, .unset] [])) _
      refine XS.aload X18.here hx rfl (hb hby at_61) rfl rfl ?_
      show Steps p.tables e below (T18.setTop (mkF m 63 #[.val (.int p1), .val (.int p2), .val (.int p3), .val (.int p4), .val (.ref b11), .val (.ref b18), .unset, .unset] [(.ref b18)])) _
      refine XS.iconst X18.here hx rfl (hb hby at_63) ?_
      show Steps p.tables e below (T18.setTop (mkF m 64 #[.val (.int p1), .val (.int p2), .val (.int p3), .val (.int p4), .val (.ref b11), .val (.ref b18), .unset, .unset] [(.int (0 : Int32)), (.ref b18)])) _
      refine XS.iloadN X18.here hx rfl (hb hby at_64) rfl ?_
      show Steps p.tables e below (T18.setTop (mkF m 65 #[.val (.int p1), .val (.int p2), .val (.int p3), .val (.int p4), .val (.ref b11), .val (.ref b18), .unset, .unset] [(.int p2), (.int (0 : Int32)), (.ref b18)])) _
      refine XS.i2b X18.here hx rfl (hb hby at_65) rfl ?_
      show Steps p.tables e below (T18.setTop (mkF m 66 #[.val (.int p1), .val (.int p2), .val (.int p3), .val (.int p4), .val (.ref b11), .val (.ref b18), .unset, .unset] [(.int (p2.toInt8.toInt32)), (.int (0 : Int32)), (.ref b18)])) _
      refine st22 _ ?_
      exact k
    · rw [show mg0_37a p1 p2 p3 p4 = (((((p1.toInt8.toInt32).toInt8.toInt32) ^^^ ((p3 >>> ((8 : Int32) &&& 31)) &&& (255 : Int32))).toInt8.toInt32).toInt8.toInt32) from if_neg hc19]
      obtain ⟨cl23, Ar23, q23, Sz23, Nn23, Hh23, Gg23⟩ := id V_b11
      have hin23 : ¬ ((0 : Int32) < 0 ∨ cl23.slots.size ≤ ((0 : Int32)).toNatClampNeg) := inb_of Sz23 ⟨by decide, by decide⟩
      have hat23 : cl23.slots[((0 : Int32)).toNatClampNeg]? = some (.int ((p1.toInt8.toInt32).toInt8.toInt32)) := Hh23.at hin23 rfl
      obtain ⟨cl24, Ar24, q24, Sz24, Nn24, Hh24, Gg24⟩ := V_b18
      have hin24 : ¬ ((0 : Int32) < 0 ∨ cl24.slots.size ≤ ((0 : Int32)).toNatClampNeg) := inb_of Sz24 ⟨by decide, by decide⟩
      obtain ⟨T25, h25, X25, e25, W25, st25⟩ := stB X18 hx hZ e18 Ar24 (j := (0 : Int32)) hin24 (g := (mkF m 57 #[.val (.int p1), .val (.int p2), .val (.int p3), .val (.int p4), .val (.ref b11), .val (.ref b18), .unset, .unset] [(.int ((((p1.toInt8.toInt32).toInt8.toInt32) ^^^ ((p3 >>> ((8 : Int32) &&& 31)) &&& (255 : Int32))).toInt8.toInt32)), (.int (0 : Int32)), (.ref b18)])) rfl rfl (hb hby at_57)
      replace V_b11 := V_b11.other W25 ne_b11_b18
      replace Z0 := Nat.le_trans Z0 (Keep.of_wr W25).1
      have V_b18 : Arv Z h25 b18 k18 .byte (4 : Int32) [(.int (((((p1.toInt8.toInt32).toInt8.toInt32) ^^^ ((p3 >>> ((8 : Int32) &&& 31)) &&& (255 : Int32))).toInt8.toInt32).toInt8.toInt32)), (.int (0 : Int32)), (.int (0 : Int32)), (.int (0 : Int32))] (.int (0 : Int32)) := Arv.set Ar24 q24 Sz24 Nn24 Hh24 Gg24 (fits_nar_byte _) W25 0 rfl (Nat.le_of_ble_eq_true rfl)
      have N25 := Fr.snoc X25 N17 g_b18
      refine ⟨T25, _, _, X25, N25, e25, V_b11, V_b18, Z0, fun t k => ?_⟩
      refine pre20 _ ?_
      show Steps p.tables e below (T18.setTop (mkF m 37 #[.val (.int p1), .val (.int p2), .val (.int p3), .val (.int p4), .val (.ref b11), .val (.ref b18), .unset, .unset] [(.int (p3 &&& (1 : Int32)))])) _
      refine XS.ifNo X18.here hx rfl (hb hby at_37) rfl ((if0 _ _).trans (feq hc19).1) ?_
      show Steps p.tables e below (T18.setTop (mkF m 40 #[.val (.int p1), .val (.int p2), .val (.int p3), .val (.int p4), .val (.ref b11), .val (.ref b18), .unset, .unset] [])) _
      refine XS.aload X18.here hx rfl (hb hby at_40) rfl rfl ?_
      show Steps p.tables e below (T18.setTop (mkF m 42 #[.val (.int p1), .val (.int p2), .val (.int p3), .val (.int p4), .val (.ref b11), .val (.ref b18), .unset, .unset] [(.ref b18)])) _
      refine XS.iconst X18.here hx rfl (hb hby at_42) ?_
      show Steps p.tables e below (T18.setTop (mkF m 43 #[.val (.int p1), .val (.int p2), .val (.int p3), .val (.int p4), .val (.ref b11), .val (.ref b18), .unset, .unset] [(.int (0 : Int32)), (.ref b18)])) _
      refine XS.aload X18.here hx rfl (hb hby at_43) rfl rfl ?_
      show Steps p.tables e below (T18.setTop (mkF m 45 #[.val (.int p1), .val (.int p2), .val (.int p3), .val (.int p4), .val (.ref b11), .val (.ref b18), .unset, .unset] [(.ref b11), (.int (0 : Int32)), (.ref b18)])) _
      refine XS.iconst X18.here hx rfl (hb hby at_45) ?_
      show Steps p.tables e below (T18.setTop (mkF m 46 #[.val (.int p1), .val (.int p2), .val (.int p3), .val (.int p4), .val (.ref b11), .val (.ref b18), .unset, .unset] [(.int (0 : Int32)), (.ref b11), (.int (0 : Int32)), (.ref b18)])) _
      refine X18.baloadBytes hx (j := (0 : Int32)) (v := (.int ((p1.toInt8.toInt32).toInt8.toInt32))) (by rw [e18]; exact Ar23.1) (State.isArrayOf_alike hZ.alike Ar23.2.1) Ar23.2.2 hin23 hat23 (g := (mkF m 46 #[.val (.int p1), .val (.int p2), .val (.int p3), .val (.int p4), .val (.ref b11), .val (.ref b18), .unset, .unset] [(.int (0 : Int32)), (.ref b11), (.int (0 : Int32)), (.ref b18)])) rfl rfl (hb hby at_46) _ ?_
      show Steps p.tables e below (T18.setTop (mkF m 47 #[.val (.int p1), .val (.int p2), .val (.int p3), .val (.int p4), .val (.ref b11), .val (.ref b18), .unset, .unset] [(.int ((p1.toInt8.toInt32).toInt8.toInt32)), (.int (0 : Int32)), (.ref b18)])) _
      refine XS.iloadN X18.here hx rfl (hb hby at_47) rfl ?_
      show Steps p.tables e below (T18.setTop (mkF m 48 #[.val (.int p1), .val (.int p2), .val (.int p3), .val (.int p4), .val (.ref b11), .val (.ref b18), .unset, .unset] [(.int p3), (.int ((p1.toInt8.toInt32).toInt8.toInt32)), (.int (0 : Int32)), (.ref b18)])) _
      refine XS.bipush X18.here hx rfl (hb hby at_48) ?_
      show Steps p.tables e below (T18.setTop (mkF m 50 #[.val (.int p1), .val (.int p2), .val (.int p3), .val (.int p4), .val (.ref b11), .val (.ref b18), .unset, .unset] [(.int (8 : Int32)), (.int p3), (.int ((p1.toInt8.toInt32).toInt8.toInt32)), (.int (0 : Int32)), (.ref b18)])) _
      refine XS.ishr X18.here hx rfl (hb hby at_50) rfl ?_
      show Steps p.tables e below (T18.setTop (mkF m 51 #[.val (.int p1), .val (.int p2), .val (.int p3), .val (.int p4), .val (.ref b11), .val (.ref b18), .unset, .unset] [(.int (p3 >>> ((8 : Int32) &&& 31))), (.int ((p1.toInt8.toInt32).toInt8.toInt32)), (.int (0 : Int32)), (.ref b18)])) _
      refine XS.sipush X18.here hx rfl (hb hby at_51) ?_
      show Steps p.tables e below (T18.setTop (mkF m 54 #[.val (.int p1), .val (.int p2), .val (.int p3), .val (.int p4), .val (.ref b11), .val (.ref b18), .unset, .unset] [(.int (255 : Int32)), (.int (p3 >>> ((8 : Int32) &&& 31))), (.int ((p1.toInt8.toInt32).toInt8.toInt32)), (.int (0 : Int32)), (.ref b18)])) _
      refine XS.iand X18.here hx rfl (hb hby at_54) rfl ?_
      show Steps p.tables e below (T18.setTop (mkF m 55 #[.val (.int p1), .val (.int p2), .val (.int p3), .val (.int p4), .val (.ref b11), .val (.ref b18), .unset, .unset] [(.int ((p3 >>> ((8 : Int32) &&& 31)) &&& (255 : Int32))), (.int ((p1.toInt8.toInt32).toInt8.toInt32)), (.int (0 : Int32)), (.ref b18)])) _
      refine XS.ixor X18.here hx rfl (hb hby at_55) rfl ?_
      show Steps p.tables e below (T18.setTop (mkF m 56 #[.val (.int p1), .val (.int p2), .val (.int p3), .val (.int p4), .val (.ref b11), .val (.ref b18), .unset, .unset] [(.int (((p1.toInt8.toInt32).toInt8.toInt32) ^^^ ((p3 >>> ((8 : Int32) &&& 31)) &&& (255 : Int32)))), (.int (0 : Int32)), (.ref b18)])) _
      refine XS.i2b X18.here hx rfl (hb hby at_56) rfl ?_
      show Steps p.tables e below (T18.setTop (mkF m 57 #[.val (.int p1), .val (.int p2), .val (.int p3), .val (.int p4), .val (.ref b11), .val (.ref b18), .unset, .unset] [(.int ((((p1.toInt8.toInt32).toInt8.toInt32) ^^^ ((p3 >>> ((8 : Int32) &&& 31)) &&& (255 : Int32))).toInt8.toInt32)), (.int (0 : Int32)), (.ref b18)])) _
      refine st25 _ ?_
      show Steps p.tables e below (T25.setTop (mkF m 58 #[.val (.int p1), .val (.int p2), .val (.int p3), .val (.int p4), .val (.ref b11), .val (.ref b18), .unset, .unset] [])) _
      refine XS.goto X25.here hx rfl (pc0 := 58) (pc' := 67) rfl (hb hby at_58) (by decide) (by decide) ?_
      exact k
  have pre28 : ∀ t, Steps p.tables e below (T26.setTop (mkF m 70 #[.val (.int p1), .val (.int p2), .val (.int p3), .val (.int p4), .val (.ref b11), .val (.ref b18), .unset, .unset] [(.int (p3 &&& (2 : Int32)))])) t → Steps p.tables e below (s₁.setTop (entryFrame m #[(.int p1), (.int p2), (.int p3), (.int p4)] maxLocals)) t := fun t k => by
    refine pre26 _ ?_
    show Steps p.tables e below (T26.setTop (mkF m 67 #[.val (.int p1), .val (.int p2), .val (.int p3), .val (.int p4), .val (.ref b11), .val (.ref b18), .unset, .unset] [])) _
    refine XS.iloadN X26.here hx rfl (hb hby at_67) rfl ?_
    show Steps p.tables e below (T26.setTop (mkF m 68 #[.val (.int p1), .val (.int p2), .val (.int p3), .val (.int p4), .val (.ref b11), .val (.ref b18), .unset, .unset] [(.int p3)])) _
    refine XS.iconst X26.here hx rfl (hb hby at_68) ?_
    show Steps p.tables e below (T26.setTop (mkF m 69 #[.val (.int p1), .val (.int p2), .val (.int p3), .val (.int p4), .val (.ref b11), .val (.ref b18), .unset, .unset] [(.int (2 : Int32)), (.int p3)])) _
    refine XS.iand X26.here hx rfl (hb hby at_69) rfl ?_
    exact k
  obtain ⟨T34, L34, h34, X34, N34, e34, V_b11, V_b18, Z0, pre34⟩ : ∃ T' L' h', Stand p l e room_1 s m #[(.int p1), (.int p2), (.int p3), (.int p4)] below meth c T' L' 2 7 ∧ Fr n0 L' ∧ T'.heap = h' ∧ Arv Z h' b11 k11 .byte (3 : Int32) [(.int ((p1.toInt8.toInt32).toInt8.toInt32)), (.int (((p1 >>> ((8 : Int32) &&& 31)).toInt8.toInt32).toInt8.toInt32)), (.int (((p1 >>> ((16 : Int32) &&& 31)).toInt8.toInt32).toInt8.toInt32))] (.int (0 : Int32)) ∧ Arv Z h' b18 k18 .byte (4 : Int32) [(.int (mg0_37a p1 p2 p3 p4)), (.int (mg0_70a p1 p2 p3 p4)), (.int (0 : Int32)), (.int (0 : Int32))] (.int (0 : Int32)) ∧ n0 ≤ h'.size ∧ ∀ t, Steps p.tables e below (T'.setTop (mkF m 103 #[.val (.int p1), .val (.int p2), .val (.int p3), .val (.int p4), .val (.ref b11), .val (.ref b18), .unset, .unset] [])) t → Steps p.tables e below (s₁.setTop (entryFrame m #[(.int p1), (.int p2), (.int p3), (.int p4)] maxLocals)) t := by
    by_cases hc27 : (p3 &&& (2 : Int32)) = (0 : Int32)
    · rw [show mg0_70a p1 p2 p3 p4 = (((p2 >>> ((8 : Int32) &&& 31)).toInt8.toInt32).toInt8.toInt32) from if_pos hc27]
      obtain ⟨cl29, Ar29, q29, Sz29, Nn29, Hh29, Gg29⟩ := V_b18
      have hin29 : ¬ ((1 : Int32) < 0 ∨ cl29.slots.size ≤ ((1 : Int32)).toNatClampNeg) := inb_of Sz29 ⟨by decide, by decide⟩
      obtain ⟨T30, h30, X30, e30, W30, st30⟩ := stB X26 hx hZ e26 Ar29 (j := (1 : Int32)) hin29 (g := (mkF m 102 #[.val (.int p1), .val (.int p2), .val (.int p3), .val (.int p4), .val (.ref b11), .val (.ref b18), .unset, .unset] [(.int ((p2 >>> ((8 : Int32) &&& 31)).toInt8.toInt32)), (.int (1 : Int32)), (.ref b18)])) rfl rfl (hb hby at_102)
      replace V_b11 := V_b11.other W30 ne_b11_b18
      replace Z0 := Nat.le_trans Z0 (Keep.of_wr W30).1
      have V_b18 : Arv Z h30 b18 k18 .byte (4 : Int32) [(.int (mg0_37a p1 p2 p3 p4)), (.int (((p2 >>> ((8 : Int32) &&& 31)).toInt8.toInt32).toInt8.toInt32)), (.int (0 : Int32)), (.int (0 : Int32))] (.int (0 : Int32)) := Arv.set Ar29 q29 Sz29 Nn29 Hh29 Gg29 (fits_nar_byte _) W30 1 rfl (Nat.le_of_ble_eq_true rfl)
      have N30 := Fr.snoc X30 N26 g_b18
      refine ⟨T30, _, _, X30, N30, e30, V_b11, V_b18, Z0, fun t k => ?_⟩
      refine pre28 _ ?_
      show Steps p.tables e below (T26.setTop (mkF m 70 #[.val (.int p1), .val (.int p2), .val (.int p3), .val (.int p4), .val (.ref b11), .val (.ref b18), .unset, .unset] [(.int (p3 &&& (2 : Int32)))])) _
      refine XS.ifYes X26.here hx rfl (pc0 := 70) (pc' := 94) rfl (hb hby at_70) rfl ((if0 _ _).trans (teq hc27).1) (by decide) (by decide) ?_
      show Steps p.tables e below (T26.setTop (mkF m 94 #[.val (.int p1), .val (.int p2), .val (.int p3), .val (.int p4), .val (.ref b11), .val (.ref b18), .unset, .unset] [])) _
      refine XS.aload X26.here hx rfl (hb hby at_94) rfl rfl ?_
      show Steps p.tables e below (T26.setTop (mkF m 96 #[.val (.int p1), .val (.int p2), .val (.int p3), .val (.int p4), .val (.ref b11), .val (.ref b18), .unset, .unset] [(.ref b18)])) _
      refine XS.iconst X26.here hx rfl (hb hby at_96) ?_
      show Steps p.tables e below (T26.setTop (mkF m 97 #[.val (.int p1), .val (.int p2), .val (.int p3), .val (.int p4), .val (.ref b11), .val (.ref b18), .unset, .unset] [(.int (1 : Int32)), (.ref b18)])) _
      refine XS.iloadN X26.here hx rfl (hb hby at_97) rfl ?_
      show Steps p.tables e below (T26.setTop (mkF m 98 #[.val (.int p1), .val (.int p2), .val (.int p3), .val (.int p4), .val (.ref b11), .val (.ref b18), .unset, .unset] [(.int p2), (.int (1 : Int32)), (.ref b18)])) _
      refine XS.bipush X26.here hx rfl (hb hby at_98) ?_
      show Steps p.tables e below (T26.setTop (mkF m 100 #[.val (.int p1), .val (.int p2), .val (.int p3), .val (.int p4), .val (.ref b11), .val (.ref b18), .unset, .unset] [(.int (8 : Int32)), (.int p2), (.int (1 : Int32)), (.ref b18)])) _
      refine XS.ishr X26.here hx rfl (hb hby at_100) rfl ?_
      show Steps p.tables e below (T26.setTop (mkF m 101 #[.val (.int p1), .val (.int p2), .val (.int p3), .val (.int p4), .val (.ref b11), .val (.ref b18), .unset, .unset] [(.int (p2 >>> ((8 : Int32) &&& 31))), (.int (1 : Int32)), (.ref b18)])) _
      refine XS.i2b X26.here hx rfl (hb hby at_101) rfl ?_
      show Steps p.tables e below (T26.setTop (mkF m 102 #[.val (.int p1), .val (.int p2), .val (.int p3), .val (.int p4), .val (.ref b11), .val (.ref b18), .unset, .unset] [(.int ((p2 >>> ((8 : Int32) &&& 31)).toInt8.toInt32)), (.int (1 : Int32)), (.ref b18)])) _
      refine st30 _ ?_
      exact k
    · rw [show mg0_70a p1 p2 p3 p4 = ((((((p1 >>> ((8 : Int32) &&& 31)).toInt8.toInt32).toInt8.toInt32) ^^^ ((p3 >>> ((16 : Int32) &&& 31)) &&& (255 : Int32))).toInt8.toInt32).toInt8.toInt32) from if_neg hc27]
      obtain ⟨cl31, Ar31, q31, Sz31, Nn31, Hh31, Gg31⟩ := id V_b11
      have hin31 : ¬ ((1 : Int32) < 0 ∨ cl31.slots.size ≤ ((1 : Int32)).toNatClampNeg) := inb_of Sz31 ⟨by decide, by decide⟩
      have hat31 : cl31.slots[((1 : Int32)).toNatClampNeg]? = some (.int (((p1 >>> ((8 : Int32) &&& 31)).toInt8.toInt32).toInt8.toInt32)) := Hh31.at hin31 rfl
      obtain ⟨cl32, Ar32, q32, Sz32, Nn32, Hh32, Gg32⟩ := V_b18
      have hin32 : ¬ ((1 : Int32) < 0 ∨ cl32.slots.size ≤ ((1 : Int32)).toNatClampNeg) := inb_of Sz32 ⟨by decide, by decide⟩
      obtain ⟨T33, h33, X33, e33, W33, st33⟩ := stB X26 hx hZ e26 Ar32 (j := (1 : Int32)) hin32 (g := (mkF m 90 #[.val (.int p1), .val (.int p2), .val (.int p3), .val (.int p4), .val (.ref b11), .val (.ref b18), .unset, .unset] [(.int (((((p1 >>> ((8 : Int32) &&& 31)).toInt8.toInt32).toInt8.toInt32) ^^^ ((p3 >>> ((16 : Int32) &&& 31)) &&& (255 : Int32))).toInt8.toInt32)), (.int (1 : Int32)), (.ref b18)])) rfl rfl (hb hby at_90)
      replace V_b11 := V_b11.other W33 ne_b11_b18
      replace Z0 := Nat.le_trans Z0 (Keep.of_wr W33).1
      have V_b18 : Arv Z h33 b18 k18 .byte (4 : Int32) [(.int (mg0_37a p1 p2 p3 p4)), (.int ((((((p1 >>> ((8 : Int32) &&& 31)).toInt8.toInt32).toInt8.toInt32) ^^^ ((p3 >>> ((16 : Int32) &&& 31)) &&& (255 : Int32))).toInt8.toInt32).toInt8.toInt32)), (.int (0 : Int32)), (.int (0 : Int32))] (.int (0 : Int32)) := Arv.set Ar32 q32 Sz32 Nn32 Hh32 Gg32 (fits_nar_byte _) W33 1 rfl (Nat.le_of_ble_eq_true rfl)
      have N33 := Fr.snoc X33 N26 g_b18
      refine ⟨T33, _, _, X33, N33, e33, V_b11, V_b18, Z0, fun t k => ?_⟩
      refine pre28 _ ?_
      show Steps p.tables e below (T26.setTop (mkF m 70 #[.val (.int p1), .val (.int p2), .val (.int p3), .val (.int p4), .val (.ref b11), .val (.ref b18), .unset, .unset] [(.int (p3 &&& (2 : Int32)))])) _
      refine XS.ifNo X26.here hx rfl (hb hby at_70) rfl ((if0 _ _).trans (feq hc27).1) ?_
      show Steps p.tables e below (T26.setTop (mkF m 73 #[.val (.int p1), .val (.int p2), .val (.int p3), .val (.int p4), .val (.ref b11), .val (.ref b18), .unset, .unset] [])) _
      refine XS.aload X26.here hx rfl (hb hby at_73) rfl rfl ?_
      show Steps p.tables e below (T26.setTop (mkF m 75 #[.val (.int p1), .val (.int p2), .val (.int p3), .val (.int p4), .val (.ref b11), .val (.ref b18), .unset, .unset] [(.ref b18)])) _
      refine XS.iconst X26.here hx rfl (hb hby at_75) ?_
      show Steps p.tables e below (T26.setTop (mkF m 76 #[.val (.int p1), .val (.int p2), .val (.int p3), .val (.int p4), .val (.ref b11), .val (.ref b18), .unset, .unset] [(.int (1 : Int32)), (.ref b18)])) _
      refine XS.aload X26.here hx rfl (hb hby at_76) rfl rfl ?_
      show Steps p.tables e below (T26.setTop (mkF m 78 #[.val (.int p1), .val (.int p2), .val (.int p3), .val (.int p4), .val (.ref b11), .val (.ref b18), .unset, .unset] [(.ref b11), (.int (1 : Int32)), (.ref b18)])) _
      refine XS.iconst X26.here hx rfl (hb hby at_78) ?_
      show Steps p.tables e below (T26.setTop (mkF m 79 #[.val (.int p1), .val (.int p2), .val (.int p3), .val (.int p4), .val (.ref b11), .val (.ref b18), .unset, .unset] [(.int (1 : Int32)), (.ref b11), (.int (1 : Int32)), (.ref b18)])) _
      refine X26.baloadBytes hx (j := (1 : Int32)) (v := (.int (((p1 >>> ((8 : Int32) &&& 31)).toInt8.toInt32).toInt8.toInt32))) (by rw [e26]; exact Ar31.1) (State.isArrayOf_alike hZ.alike Ar31.2.1) Ar31.2.2 hin31 hat31 (g := (mkF m 79 #[.val (.int p1), .val (.int p2), .val (.int p3), .val (.int p4), .val (.ref b11), .val (.ref b18), .unset, .unset] [(.int (1 : Int32)), (.ref b11), (.int (1 : Int32)), (.ref b18)])) rfl rfl (hb hby at_79) _ ?_
      show Steps p.tables e below (T26.setTop (mkF m 80 #[.val (.int p1), .val (.int p2), .val (.int p3), .val (.int p4), .val (.ref b11), .val (.ref b18), .unset, .unset] [(.int (((p1 >>> ((8 : Int32) &&& 31)).toInt8.toInt32).toInt8.toInt32)), (.int (1 : Int32)), (.ref b18)])) _
      refine XS.iloadN X26.here hx rfl (hb hby at_80) rfl ?_
      show Steps p.tables e below (T26.setTop (mkF m 81 #[.val (.int p1), .val (.int p2), .val (.int p3), .val (.int p4), .val (.ref b11), .val (.ref b18), .unset, .unset] [(.int p3), (.int (((p1 >>> ((8 : Int32) &&& 31)).toInt8.toInt32).toInt8.toInt32)), (.int (1 : Int32)), (.ref b18)])) _
      refine XS.bipush X26.here hx rfl (hb hby at_81) ?_
      show Steps p.tables e below (T26.setTop (mkF m 83 #[.val (.int p1), .val (.int p2), .val (.int p3), .val (.int p4), .val (.ref b11), .val (.ref b18), .unset, .unset] [(.int (16 : Int32)), (.int p3), (.int (((p1 >>> ((8 : Int32) &&& 31)).toInt8.toInt32).toInt8.toInt32)), (.int (1 : Int32)), (.ref b18)])) _
      refine XS.ishr X26.here hx rfl (hb hby at_83) rfl ?_
      show Steps p.tables e below (T26.setTop (mkF m 84 #[.val (.int p1), .val (.int p2), .val (.int p3), .val (.int p4), .val (.ref b11), .val (.ref b18), .unset, .unset] [(.int (p3 >>> ((16 : Int32) &&& 31))), (.int (((p1 >>> ((8 : Int32) &&& 31)).toInt8.toInt32).toInt8.toInt32)), (.int (1 : Int32)), (.ref b18)])) _
      refine XS.sipush X26.here hx rfl (hb hby at_84) ?_
      show Steps p.tables e below (T26.setTop (mkF m 87 #[.val (.int p1), .val (.int p2), .val (.int p3), .val (.int p4), .val (.ref b11), .val (.ref b18), .unset, .unset] [(.int (255 : Int32)), (.int (p3 >>> ((16 : Int32) &&& 31))), (.int (((p1 >>> ((8 : Int32) &&& 31)).toInt8.toInt32).toInt8.toInt32)), (.int (1 : Int32)), (.ref b18)])) _
      refine XS.iand X26.here hx rfl (hb hby at_87) rfl ?_
      show Steps p.tables e below (T26.setTop (mkF m 88 #[.val (.int p1), .val (.int p2), .val (.int p3), .val (.int p4), .val (.ref b11), .val (.ref b18), .unset, .unset] [(.int ((p3 >>> ((16 : Int32) &&& 31)) &&& (255 : Int32))), (.int (((p1 >>> ((8 : Int32) &&& 31)).toInt8.toInt32).toInt8.toInt32)), (.int (1 : Int32)), (.ref b18)])) _
      refine XS.ixor X26.here hx rfl (hb hby at_88) rfl ?_
      show Steps p.tables e below (T26.setTop (mkF m 89 #[.val (.int p1), .val (.int p2), .val (.int p3), .val (.int p4), .val (.ref b11), .val (.ref b18), .unset, .unset] [(.int ((((p1 >>> ((8 : Int32) &&& 31)).toInt8.toInt32).toInt8.toInt32) ^^^ ((p3 >>> ((16 : Int32) &&& 31)) &&& (255 : Int32)))), (.int (1 : Int32)), (.ref b18)])) _
      refine XS.i2b X26.here hx rfl (hb hby at_89) rfl ?_
      show Steps p.tables e below (T26.setTop (mkF m 90 #[.val (.int p1), .val (.int p2), .val (.int p3), .val (.int p4), .val (.ref b11), .val (.ref b18), .unset, .unset] [(.int (((((p1 >>> ((8 : Int32) &&& 31)).toInt8.toInt32).toInt8.toInt32) ^^^ ((p3 >>> ((16 : Int32) &&& 31)) &&& (255 : Int32))).toInt8.toInt32)), (.int (1 : Int32)), (.ref b18)])) _
      refine st33 _ ?_
      show Steps p.tables e below (T33.setTop (mkF m 91 #[.val (.int p1), .val (.int p2), .val (.int p3), .val (.int p4), .val (.ref b11), .val (.ref b18), .unset, .unset] [])) _
      refine XS.goto X33.here hx rfl (pc0 := 91) (pc' := 103) rfl (hb hby at_91) (by decide) (by decide) ?_
      exact k
  have pre36 : ∀ t, Steps p.tables e below (T34.setTop (mkF m 106 #[.val (.int p1), .val (.int p2), .val (.int p3), .val (.int p4), .val (.ref b11), .val (.ref b18), .unset, .unset] [(.int (p3 &&& (4 : Int32)))])) t → Steps p.tables e below (s₁.setTop (entryFrame m #[(.int p1), (.int p2), (.int p3), (.int p4)] maxLocals)) t := fun t k => by
    refine pre34 _ ?_
    show Steps p.tables e below (T34.setTop (mkF m 103 #[.val (.int p1), .val (.int p2), .val (.int p3), .val (.int p4), .val (.ref b11), .val (.ref b18), .unset, .unset] [])) _
    refine XS.iloadN X34.here hx rfl (hb hby at_103) rfl ?_
    show Steps p.tables e below (T34.setTop (mkF m 104 #[.val (.int p1), .val (.int p2), .val (.int p3), .val (.int p4), .val (.ref b11), .val (.ref b18), .unset, .unset] [(.int p3)])) _
    refine XS.iconst X34.here hx rfl (hb hby at_104) ?_
    show Steps p.tables e below (T34.setTop (mkF m 105 #[.val (.int p1), .val (.int p2), .val (.int p3), .val (.int p4), .val (.ref b11), .val (.ref b18), .unset, .unset] [(.int (4 : Int32)), (.int p3)])) _
    refine XS.iand X34.here hx rfl (hb hby at_105) rfl ?_
    exact k
  obtain ⟨T42, L42, h42, X42, N42, e42, V_b11, V_b18, Z0, pre42⟩ : ∃ T' L' h', Stand p l e room_1 s m #[(.int p1), (.int p2), (.int p3), (.int p4)] below meth c T' L' 2 7 ∧ Fr n0 L' ∧ T'.heap = h' ∧ Arv Z h' b11 k11 .byte (3 : Int32) [(.int ((p1.toInt8.toInt32).toInt8.toInt32)), (.int (((p1 >>> ((8 : Int32) &&& 31)).toInt8.toInt32).toInt8.toInt32)), (.int (((p1 >>> ((16 : Int32) &&& 31)).toInt8.toInt32).toInt8.toInt32))] (.int (0 : Int32)) ∧ Arv Z h' b18 k18 .byte (4 : Int32) [(.int (mg0_37a p1 p2 p3 p4)), (.int (mg0_70a p1 p2 p3 p4)), (.int (mg0_106a p1 p2 p3 p4)), (.int (0 : Int32))] (.int (0 : Int32)) ∧ n0 ≤ h'.size ∧ ∀ t, Steps p.tables e below (T'.setTop (mkF m 129 #[.val (.int p1), .val (.int p2), .val (.int p3), .val (.int p4), .val (.ref b11), .val (.ref b18), .unset, .unset] [])) t → Steps p.tables e below (s₁.setTop (entryFrame m #[(.int p1), (.int p2), (.int p3), (.int p4)] maxLocals)) t := by
    by_cases hc35 : (p3 &&& (4 : Int32)) = (0 : Int32)
    · rw [show mg0_106a p1 p2 p3 p4 = (((p2 >>> ((16 : Int32) &&& 31)).toInt8.toInt32).toInt8.toInt32) from if_pos hc35]
      obtain ⟨cl37, Ar37, q37, Sz37, Nn37, Hh37, Gg37⟩ := V_b18
      have hin37 : ¬ ((2 : Int32) < 0 ∨ cl37.slots.size ≤ ((2 : Int32)).toNatClampNeg) := inb_of Sz37 ⟨by decide, by decide⟩
      obtain ⟨T38, h38, X38, e38, W38, st38⟩ := stB X34 hx hZ e34 Ar37 (j := (2 : Int32)) hin37 (g := (mkF m 128 #[.val (.int p1), .val (.int p2), .val (.int p3), .val (.int p4), .val (.ref b11), .val (.ref b18), .unset, .unset] [(.int ((p2 >>> ((16 : Int32) &&& 31)).toInt8.toInt32)), (.int (2 : Int32)), (.ref b18)])) rfl rfl (hb hby at_128)
      replace V_b11 := V_b11.other W38 ne_b11_b18
      replace Z0 := Nat.le_trans Z0 (Keep.of_wr W38).1
      have V_b18 : Arv Z h38 b18 k18 .byte (4 : Int32) [(.int (mg0_37a p1 p2 p3 p4)), (.int (mg0_70a p1 p2 p3 p4)), (.int (((p2 >>> ((16 : Int32) &&& 31)).toInt8.toInt32).toInt8.toInt32)), (.int (0 : Int32))] (.int (0 : Int32)) := Arv.set Ar37 q37 Sz37 Nn37 Hh37 Gg37 (fits_nar_byte _) W38 2 rfl (Nat.le_of_ble_eq_true rfl)
      have N38 := Fr.snoc X38 N34 g_b18
      refine ⟨T38, _, _, X38, N38, e38, V_b11, V_b18, Z0, fun t k => ?_⟩
      refine pre36 _ ?_
      show Steps p.tables e below (T34.setTop (mkF m 106 #[.val (.int p1), .val (.int p2), .val (.int p3), .val (.int p4), .val (.ref b11), .val (.ref b18), .unset, .unset] [(.int (p3 &&& (4 : Int32)))])) _
      refine XS.ifYes X34.here hx rfl (pc0 := 106) (pc' := 120) rfl (hb hby at_106) rfl ((if0 _ _).trans (teq hc35).1) (by decide) (by decide) ?_
      show Steps p.tables e below (T34.setTop (mkF m 120 #[.val (.int p1), .val (.int p2), .val (.int p3), .val (.int p4), .val (.ref b11), .val (.ref b18), .unset, .unset] [])) _
      refine XS.aload X34.here hx rfl (hb hby at_120) rfl rfl ?_
      show Steps p.tables e below (T34.setTop (mkF m 122 #[.val (.int p1), .val (.int p2), .val (.int p3), .val (.int p4), .val (.ref b11), .val (.ref b18), .unset, .unset] [(.ref b18)])) _
      refine XS.iconst X34.here hx rfl (hb hby at_122) ?_
      show Steps p.tables e below (T34.setTop (mkF m 123 #[.val (.int p1), .val (.int p2), .val (.int p3), .val (.int p4), .val (.ref b11), .val (.ref b18), .unset, .unset] [(.int (2 : Int32)), (.ref b18)])) _
      refine XS.iloadN X34.here hx rfl (hb hby at_123) rfl ?_
      show Steps p.tables e below (T34.setTop (mkF m 124 #[.val (.int p1), .val (.int p2), .val (.int p3), .val (.int p4), .val (.ref b11), .val (.ref b18), .unset, .unset] [(.int p2), (.int (2 : Int32)), (.ref b18)])) _
      refine XS.bipush X34.here hx rfl (hb hby at_124) ?_
      show Steps p.tables e below (T34.setTop (mkF m 126 #[.val (.int p1), .val (.int p2), .val (.int p3), .val (.int p4), .val (.ref b11), .val (.ref b18), .unset, .unset] [(.int (16 : Int32)), (.int p2), (.int (2 : Int32)), (.ref b18)])) _
      refine XS.ishr X34.here hx rfl (hb hby at_126) rfl ?_
      show Steps p.tables e below (T34.setTop (mkF m 127 #[.val (.int p1), .val (.int p2), .val (.int p3), .val (.int p4), .val (.ref b11), .val (.ref b18), .unset, .unset] [(.int (p2 >>> ((16 : Int32) &&& 31))), (.int (2 : Int32)), (.ref b18)])) _
      refine XS.i2b X34.here hx rfl (hb hby at_127) rfl ?_
      show Steps p.tables e below (T34.setTop (mkF m 128 #[.val (.int p1), .val (.int p2), .val (.int p3), .val (.int p4), .val (.ref b11), .val (.ref b18), .unset, .unset] [(.int ((p2 >>> ((16 : Int32) &&& 31)).toInt8.toInt32)), (.int (2 : Int32)), (.ref b18)])) _
      refine st38 _ ?_
      exact k
    · rw [show mg0_106a p1 p2 p3 p4 = ((((p1 >>> ((16 : Int32) &&& 31)).toInt8.toInt32).toInt8.toInt32).toInt8.toInt32) from if_neg hc35]
      obtain ⟨cl39, Ar39, q39, Sz39, Nn39, Hh39, Gg39⟩ := id V_b11
      have hin39 : ¬ ((2 : Int32) < 0 ∨ cl39.slots.size ≤ ((2 : Int32)).toNatClampNeg) := inb_of Sz39 ⟨by decide, by decide⟩
      have hat39 : cl39.slots[((2 : Int32)).toNatClampNeg]? = some (.int (((p1 >>> ((16 : Int32) &&& 31)).toInt8.toInt32).toInt8.toInt32)) := Hh39.at hin39 rfl
      obtain ⟨cl40, Ar40, q40, Sz40, Nn40, Hh40, Gg40⟩ := V_b18
      have hin40 : ¬ ((2 : Int32) < 0 ∨ cl40.slots.size ≤ ((2 : Int32)).toNatClampNeg) := inb_of Sz40 ⟨by decide, by decide⟩
      obtain ⟨T41, h41, X41, e41, W41, st41⟩ := stB X34 hx hZ e34 Ar40 (j := (2 : Int32)) hin40 (g := (mkF m 116 #[.val (.int p1), .val (.int p2), .val (.int p3), .val (.int p4), .val (.ref b11), .val (.ref b18), .unset, .unset] [(.int (((p1 >>> ((16 : Int32) &&& 31)).toInt8.toInt32).toInt8.toInt32)), (.int (2 : Int32)), (.ref b18)])) rfl rfl (hb hby at_116)
      replace V_b11 := V_b11.other W41 ne_b11_b18
      replace Z0 := Nat.le_trans Z0 (Keep.of_wr W41).1
      have V_b18 : Arv Z h41 b18 k18 .byte (4 : Int32) [(.int (mg0_37a p1 p2 p3 p4)), (.int (mg0_70a p1 p2 p3 p4)), (.int ((((p1 >>> ((16 : Int32) &&& 31)).toInt8.toInt32).toInt8.toInt32).toInt8.toInt32)), (.int (0 : Int32))] (.int (0 : Int32)) := Arv.set Ar40 q40 Sz40 Nn40 Hh40 Gg40 (fits_nar_byte _) W41 2 rfl (Nat.le_of_ble_eq_true rfl)
      have N41 := Fr.snoc X41 N34 g_b18
      refine ⟨T41, _, _, X41, N41, e41, V_b11, V_b18, Z0, fun t k => ?_⟩
      refine pre36 _ ?_
      show Steps p.tables e below (T34.setTop (mkF m 106 #[.val (.int p1), .val (.int p2), .val (.int p3), .val (.int p4), .val (.ref b11), .val (.ref b18), .unset, .unset] [(.int (p3 &&& (4 : Int32)))])) _
      refine XS.ifNo X34.here hx rfl (hb hby at_106) rfl ((if0 _ _).trans (feq hc35).1) ?_
      show Steps p.tables e below (T34.setTop (mkF m 109 #[.val (.int p1), .val (.int p2), .val (.int p3), .val (.int p4), .val (.ref b11), .val (.ref b18), .unset, .unset] [])) _
      refine XS.aload X34.here hx rfl (hb hby at_109) rfl rfl ?_
      show Steps p.tables e below (T34.setTop (mkF m 111 #[.val (.int p1), .val (.int p2), .val (.int p3), .val (.int p4), .val (.ref b11), .val (.ref b18), .unset, .unset] [(.ref b18)])) _
      refine XS.iconst X34.here hx rfl (hb hby at_111) ?_
      show Steps p.tables e below (T34.setTop (mkF m 112 #[.val (.int p1), .val (.int p2), .val (.int p3), .val (.int p4), .val (.ref b11), .val (.ref b18), .unset, .unset] [(.int (2 : Int32)), (.ref b18)])) _
      refine XS.aload X34.here hx rfl (hb hby at_112) rfl rfl ?_
      show Steps p.tables e below (T34.setTop (mkF m 114 #[.val (.int p1), .val (.int p2), .val (.int p3), .val (.int p4), .val (.ref b11), .val (.ref b18), .unset, .unset] [(.ref b11), (.int (2 : Int32)), (.ref b18)])) _
      refine XS.iconst X34.here hx rfl (hb hby at_114) ?_
      show Steps p.tables e below (T34.setTop (mkF m 115 #[.val (.int p1), .val (.int p2), .val (.int p3), .val (.int p4), .val (.ref b11), .val (.ref b18), .unset, .unset] [(.int (2 : Int32)), (.ref b11), (.int (2 : Int32)), (.ref b18)])) _
      refine X34.baloadBytes hx (j := (2 : Int32)) (v := (.int (((p1 >>> ((16 : Int32) &&& 31)).toInt8.toInt32).toInt8.toInt32))) (by rw [e34]; exact Ar39.1) (State.isArrayOf_alike hZ.alike Ar39.2.1) Ar39.2.2 hin39 hat39 (g := (mkF m 115 #[.val (.int p1), .val (.int p2), .val (.int p3), .val (.int p4), .val (.ref b11), .val (.ref b18), .unset, .unset] [(.int (2 : Int32)), (.ref b11), (.int (2 : Int32)), (.ref b18)])) rfl rfl (hb hby at_115) _ ?_
      show Steps p.tables e below (T34.setTop (mkF m 116 #[.val (.int p1), .val (.int p2), .val (.int p3), .val (.int p4), .val (.ref b11), .val (.ref b18), .unset, .unset] [(.int (((p1 >>> ((16 : Int32) &&& 31)).toInt8.toInt32).toInt8.toInt32)), (.int (2 : Int32)), (.ref b18)])) _
      refine st41 _ ?_
      show Steps p.tables e below (T41.setTop (mkF m 117 #[.val (.int p1), .val (.int p2), .val (.int p3), .val (.int p4), .val (.ref b11), .val (.ref b18), .unset, .unset] [])) _
      refine XS.goto X41.here hx rfl (pc0 := 117) (pc' := 129) rfl (hb hby at_117) (by decide) (by decide) ?_
      exact k
  obtain ⟨cl43, Ar43, q43, Sz43, Nn43, Hh43, Gg43⟩ := V_b18
  have hin43 : ¬ ((3 : Int32) < 0 ∨ cl43.slots.size ≤ ((3 : Int32)).toNatClampNeg) := inb_of Sz43 ⟨by decide, by decide⟩
  obtain ⟨T44, h44, X44, e44, W44, st44⟩ := stB X42 hx hZ e42 Ar43 (j := (3 : Int32)) hin43 (g := (mkF m 137 #[.val (.int p1), .val (.int p2), .val (.int p3), .val (.int p4), .val (.ref b11), .val (.ref b18), .unset, .unset] [(.int ((p2 >>> ((24 : Int32) &&& 31)).toInt8.toInt32)), (.int (3 : Int32)), (.ref b18)])) rfl rfl (hb hby at_137)
  replace V_b11 := V_b11.other W44 ne_b11_b18
  replace Z0 := Nat.le_trans Z0 (Keep.of_wr W44).1
  have V_b18 : Arv Z h44 b18 k18 .byte (4 : Int32) [(.int (mg0_37a p1 p2 p3 p4)), (.int (mg0_70a p1 p2 p3 p4)), (.int (mg0_106a p1 p2 p3 p4)), (.int (((p2 >>> ((24 : Int32) &&& 31)).toInt8.toInt32).toInt8.toInt32))] (.int (0 : Int32)) := Arv.set Ar43 q43 Sz43 Nn43 Hh43 Gg43 (fits_nar_byte _) W44 3 rfl (Nat.le_of_ble_eq_true rfl)
  have N44 := Fr.snoc X44 N42 g_b18
  have pre46 : ∀ t, Steps p.tables e below (T44.setTop (mkF m 149 #[.val (.int p1), .val (.int p2), .val (.int p3), .val (.int p4), .val (.ref b11), .val (.ref b18), .val (.int ((p4 &&& (2147483647 : Int32)) % (5 : Int32))), .unset] [(.int (2 : Int32)), (.int ((p4 &&& (2147483647 : Int32)) % (5 : Int32)))])) t → Steps p.tables e below (s₁.setTop (entryFrame m #[(.int p1), (.int p2), (.int p3), (.int p4)] maxLocals)) t := fun t k => by
    refine pre42 _ ?_
    show Steps p.tables e below (T42.setTop (mkF m 129 #[.val (.int p1), .val (.int p2), .val (.int p3), .val (.int p4), .val (.ref b11), .val (.ref b18), .unset, .unset] [])) _
    refine XS.aload X42.here hx rfl (hb hby at_129) rfl rfl ?_
    show Steps p.tables e below (T42.setTop (mkF m 131 #[.val (.int p1), .val (.int p2), .val (.int p3), .val (.int p4), .val (.ref b11), .val (.ref b18), .unset, .unset] [(.ref b18)])) _
    refine XS.iconst X42.here hx rfl (hb hby at_131) ?_
    show Steps p.tables e below (T42.setTop (mkF m 132 #[.val (.int p1), .val (.int p2), .val (.int p3), .val (.int p4), .val (.ref b11), .val (.ref b18), .unset, .unset] [(.int (3 : Int32)), (.ref b18)])) _
    refine XS.iloadN X42.here hx rfl (hb hby at_132) rfl ?_
    show Steps p.tables e below (T42.setTop (mkF m 133 #[.val (.int p1), .val (.int p2), .val (.int p3), .val (.int p4), .val (.ref b11), .val (.ref b18), .unset, .unset] [(.int p2), (.int (3 : Int32)), (.ref b18)])) _
    refine XS.bipush X42.here hx rfl (hb hby at_133) ?_
    show Steps p.tables e below (T42.setTop (mkF m 135 #[.val (.int p1), .val (.int p2), .val (.int p3), .val (.int p4), .val (.ref b11), .val (.ref b18), .unset, .unset] [(.int (24 : Int32)), (.int p2), (.int (3 : Int32)), (.ref b18)])) _
    refine XS.ishr X42.here hx rfl (hb hby at_135) rfl ?_
    show Steps p.tables e below (T42.setTop (mkF m 136 #[.val (.int p1), .val (.int p2), .val (.int p3), .val (.int p4), .val (.ref b11), .val (.ref b18), .unset, .unset] [(.int (p2 >>> ((24 : Int32) &&& 31))), (.int (3 : Int32)), (.ref b18)])) _
    refine XS.i2b X42.here hx rfl (hb hby at_136) rfl ?_
    show Steps p.tables e below (T42.setTop (mkF m 137 #[.val (.int p1), .val (.int p2), .val (.int p3), .val (.int p4), .val (.ref b11), .val (.ref b18), .unset, .unset] [(.int ((p2 >>> ((24 : Int32) &&& 31)).toInt8.toInt32)), (.int (3 : Int32)), (.ref b18)])) _
    refine st44 _ ?_
    show Steps p.tables e below (T44.setTop (mkF m 138 #[.val (.int p1), .val (.int p2), .val (.int p3), .val (.int p4), .val (.ref b11), .val (.ref b18), .unset, .unset] [])) _
    refine XS.iloadN X44.here hx rfl (hb hby at_138) rfl ?_
    show Steps p.tables e below (T44.setTop (mkF m 139 #[.val (.int p1), .val (.int p2), .val (.int p3), .val (.int p4), .val (.ref b11), .val (.ref b18), .unset, .unset] [(.int p4)])) _
    refine X44.ldcInt hx hown (mvT hZ (hw _ (List.mem_of_getElem? (i := 1) rfl))) (g := (mkF m 139 #[.val (.int p1), .val (.int p2), .val (.int p3), .val (.int p4), .val (.ref b11), .val (.ref b18), .unset, .unset] [(.int p4)])) rfl (hb hby at_139) _ ?_
    show Steps p.tables e below (T44.setTop (mkF m 141 #[.val (.int p1), .val (.int p2), .val (.int p3), .val (.int p4), .val (.ref b11), .val (.ref b18), .unset, .unset] [(.int (2147483647 : Int32)), (.int p4)])) _
    refine XS.iand X44.here hx rfl (hb hby at_141) rfl ?_
    show Steps p.tables e below (T44.setTop (mkF m 142 #[.val (.int p1), .val (.int p2), .val (.int p3), .val (.int p4), .val (.ref b11), .val (.ref b18), .unset, .unset] [(.int (p4 &&& (2147483647 : Int32)))])) _
    refine XS.iconst X44.here hx rfl (hb hby at_142) ?_
    show Steps p.tables e below (T44.setTop (mkF m 143 #[.val (.int p1), .val (.int p2), .val (.int p3), .val (.int p4), .val (.ref b11), .val (.ref b18), .unset, .unset] [(.int (5 : Int32)), (.int (p4 &&& (2147483647 : Int32)))])) _
    refine Jvm.RoadKit.iremM X44 hx rfl (hb hby at_143) rfl (by decide) ?_
    show Steps p.tables e below (T44.setTop (mkF m 144 #[.val (.int p1), .val (.int p2), .val (.int p3), .val (.int p4), .val (.ref b11), .val (.ref b18), .unset, .unset] [(.int ((p4 &&& (2147483647 : Int32)) % (5 : Int32)))])) _
    refine XS.istore X44.here hx rfl (hb hby at_144) rfl (l' := #[.val (.int p1), .val (.int p2), .val (.int p3), .val (.int p4), .val (.ref b11), .val (.ref b18), .val (.int ((p4 &&& (2147483647 : Int32)) % (5 : Int32))), .unset]) rfl ?_
    show Steps p.tables e below (T44.setTop (mkF m 146 #[.val (.int p1), .val (.int p2), .val (.int p3), .val (.int p4), .val (.ref b11), .val (.ref b18), .val (.int ((p4 &&& (2147483647 : Int32)) % (5 : Int32))), .unset] [])) _
    refine XS.iload X44.here hx rfl (hb hby at_146) rfl ?_
    show Steps p.tables e below (T44.setTop (mkF m 148 #[.val (.int p1), .val (.int p2), .val (.int p3), .val (.int p4), .val (.ref b11), .val (.ref b18), .val (.int ((p4 &&& (2147483647 : Int32)) % (5 : Int32))), .unset] [(.int ((p4 &&& (2147483647 : Int32)) % (5 : Int32)))])) _
    refine XS.iconst X44.here hx rfl (hb hby at_148) ?_
    exact k
  obtain ⟨T56, L56, X56, N56, e56, pre56⟩ : ∃ T' L', Stand p l e room_1 s m #[(.int p1), (.int p2), (.int p3), (.int p4)] below meth c T' L' 2 7 ∧ Fr n0 L' ∧ T'.heap = h44 ∧ ∀ t, Steps p.tables e below (T'.setTop (mkF m 190 #[.val (.int p1), .val (.int p2), .val (.int p3), .val (.int p4), .val (.ref b11), .val (.ref b18), .val (.int ((p4 &&& (2147483647 : Int32)) % (5 : Int32))), .val (.int (mg0_149a p1 p2 p3 p4))] [])) t → Steps p.tables e below (s₁.setTop (entryFrame m #[(.int p1), (.int p2), (.int p3), (.int p4)] maxLocals)) t := by
    by_cases hc45 : ((p4 &&& (2147483647 : Int32)) % (5 : Int32)) < (2 : Int32)
    · rw [show mg0_149a p1 p2 p3 p4 = (1 : Int32) from if_pos hc45]
      refine ⟨T44, _, X44, N44, e44, fun t k => ?_⟩
      refine pre46 _ ?_
      show Steps p.tables e below (T44.setTop (mkF m 149 #[.val (.int p1), .val (.int p2), .val (.int p3), .val (.int p4), .val (.ref b11), .val (.ref b18), .val (.int ((p4 &&& (2147483647 : Int32)) % (5 : Int32))), .unset] [(.int (2 : Int32)), (.int ((p4 &&& (2147483647 : Int32)) % (5 : Int32)))])) _
      refine XS.icmpNo X44.here hx rfl (hb hby at_149) rfl (tlt hc45).2.1 ?_
      show Steps p.tables e below (T44.setTop (mkF m 152 #[.val (.int p1), .val (.int p2), .val (.int p3), .val (.int p4), .val (.ref b11), .val (.ref b18), .val (.int ((p4 &&& (2147483647 : Int32)) % (5 : Int32))), .unset] [])) _
      refine XS.iconst X44.here hx rfl (hb hby at_152) ?_
      show Steps p.tables e below (T44.setTop (mkF m 153 #[.val (.int p1), .val (.int p2), .val (.int p3), .val (.int p4), .val (.ref b11), .val (.ref b18), .val (.int ((p4 &&& (2147483647 : Int32)) % (5 : Int32))), .unset] [(.int (1 : Int32))])) _
      refine XS.istore X44.here hx rfl (hb hby at_153) rfl (l' := #[.val (.int p1), .val (.int p2), .val (.int p3), .val (.int p4), .val (.ref b11), .val (.ref b18), .val (.int ((p4 &&& (2147483647 : Int32)) % (5 : Int32))), .val (.int (1 : Int32))]) rfl ?_
      show Steps p.tables e below (T44.setTop (mkF m 155 #[.val (.int p1), .val (.int p2), .val (.int p3), .val (.int p4), .val (.ref b11), .val (.ref b18), .val (.int ((p4 &&& (2147483647 : Int32)) % (5 : Int32))), .val (.int (1 : Int32))] [])) _
      refine XS.goto X44.here hx rfl (pc0 := 155) (pc' := 190) rfl (hb hby at_155) (by decide) (by decide) ?_
      exact k
    · rw [show mg0_149a p1 p2 p3 p4 = (mg0_180a p1 p2 p3 p4) from if_neg hc45]
      obtain ⟨cl47, Ar47, q47, Sz47, Nn47, Hh47, Gg47⟩ := id V_b18
      have hin47 : ¬ ((0 : Int32) < 0 ∨ cl47.slots.size ≤ ((0 : Int32)).toNatClampNeg) := inb_of Sz47 ⟨by decide, by decide⟩
      have hat47 : cl47.slots[((0 : Int32)).toNatClampNeg]? = some (.int (mg0_37a p1 p2 p3 p4)) := Hh47.at hin47 rfl
      obtain ⟨cl48, Ar48, q48, Sz48, Nn48, Hh48, Gg48⟩ := id V_b18
      have hin48 : ¬ ((1 : Int32) < 0 ∨ cl48.slots.size ≤ ((1 : Int32)).toNatClampNeg) := inb_of Sz48 ⟨by decide, by decide⟩
      have hat48 : cl48.slots[((1 : Int32)).toNatClampNeg]? = some (.int (mg0_70a p1 p2 p3 p4)) := Hh48.at hin48 rfl
      obtain ⟨_, _, ⟨T49, L49, k49, n49⟩, -, X49, ⟨Lc49, hQ49, l49, y49, z49⟩, st49⟩ := Jvm.LawKit.callS X44 hx (y := (⟨"com/example/assay/assay/dns/AnswerAnswersPinLaw", "id", "(BB)I"⟩ : MethodName)) hown (mvT hZ (hw _ (List.mem_of_getElem? (i := 6) rfl))) (mvT hZ (hw _ (List.mem_of_getElem? (i := 7) rfl))) (mvT hZ (hw _ (List.mem_of_getElem? (i := 8) rfl))) (mvT hZ (hw _ (List.mem_of_getElem? (i := 9) rfl))) (by decide) (backOf (W := 0) (rm2 l Z a0 hw [] (mg0_37a p1 p2 p3 p4) (mg0_70a p1 p2 p3 p4) h44 n0 Z0) hZ (hw _ (List.mem_of_getElem? (i := 9) rfl)) (hw _ (List.mem_of_getElem? (i := 8) rfl)) (by decide) (by decide)) (g := (mkF m 166 #[.val (.int p1), .val (.int p2), .val (.int p3), .val (.int p4), .val (.ref b11), .val (.ref b18), .val (.int ((p4 &&& (2147483647 : Int32)) % (5 : Int32))), .unset] [(.int (mg0_70a p1 p2 p3 p4)), (.int (mg0_37a p1 p2 p3 p4))])) rfl (by rw [hml]; rfl) (argsL := [(.int (mg0_37a p1 p2 p3 p4)), (.int (mg0_70a p1 p2 p3 p4))]) (rest := []) (lenOf pd_0 rfl) rfl (by show 2 * 0 + _ ≤ _; exact Nat.le_of_eq rfl) (hb hby at_166) (fun _ _ => ⟨rfl, e44, (by decide : 2 + 0 ≤ _), (by decide : 7 + 0 ≤ _)⟩)
      dsimp only [Pt.U, Pt.locs, Pt.cells, Pt.slots] at X49 l49 y49 z49 st49 hQ49
      subst l49 y49 z49
      obtain ⟨rfl, N49q, e49⟩ := hQ49
      have N49 := Fr.app N44 N49q
      obtain ⟨cl50, Ar50, q50, Sz50, Nn50, Hh50, Gg50⟩ := id V_b11
      have hin50 : ¬ ((0 : Int32) < 0 ∨ cl50.slots.size ≤ ((0 : Int32)).toNatClampNeg) := inb_of Sz50 ⟨by decide, by decide⟩
      have hat50 : cl50.slots[((0 : Int32)).toNatClampNeg]? = some (.int ((p1.toInt8.toInt32).toInt8.toInt32)) := Hh50.at hin50 rfl
      obtain ⟨cl51, Ar51, q51, Sz51, Nn51, Hh51, Gg51⟩ := id V_b11
      have hin51 : ¬ ((1 : Int32) < 0 ∨ cl51.slots.size ≤ ((1 : Int32)).toNatClampNeg) := inb_of Sz51 ⟨by decide, by decide⟩
      have hat51 : cl51.slots[((1 : Int32)).toNatClampNeg]? = some (.int (((p1 >>> ((8 : Int32) &&& 31)).toInt8.toInt32).toInt8.toInt32)) := Hh51.at hin51 rfl
      obtain ⟨_, _, ⟨T52, L52, k52, n52⟩, -, X52, ⟨Lc52, hQ52, l52, y52, z52⟩, st52⟩ := Jvm.LawKit.callS X49 hx (y := (⟨"com/example/assay/assay/dns/AnswerAnswersPinLaw", "id", "(BB)I"⟩ : MethodName)) hown (mvT hZ (hw _ (List.mem_of_getElem? (i := 6) rfl))) (mvT hZ (hw _ (List.mem_of_getElem? (i := 7) rfl))) (mvT hZ (hw _ (List.mem_of_getElem? (i := 8) rfl))) (mvT hZ (hw _ (List.mem_of_getElem? (i := 9) rfl))) (by decide) (backOf (W := 1) (rm2 l Z a0 hw [] ((p1.toInt8.toInt32).toInt8.toInt32) (((p1 >>> ((8 : Int32) &&& 31)).toInt8.toInt32).toInt8.toInt32) h44 n0 Z0) hZ (hw _ (List.mem_of_getElem? (i := 9) rfl)) (hw _ (List.mem_of_getElem? (i := 8) rfl)) (by decide) (by decide)) (g := (mkF m 177 #[.val (.int p1), .val (.int p2), .val (.int p3), .val (.int p4), .val (.ref b11), .val (.ref b18), .val (.int ((p4 &&& (2147483647 : Int32)) % (5 : Int32))), .unset] [(.int (((p1 >>> ((8 : Int32) &&& 31)).toInt8.toInt32).toInt8.toInt32)), (.int ((p1.toInt8.toInt32).toInt8.toInt32)), (.int (f2 (mg0_37a p1 p2 p3 p4) (mg0_70a p1 p2 p3 p4)))])) rfl (by rw [hml]; rfl) (argsL := [(.int ((p1.toInt8.toInt32).toInt8.toInt32)), (.int (((p1 >>> ((8 : Int32) &&& 31)).toInt8.toInt32).toInt8.toInt32))]) (rest := [(.int (f2 (mg0_37a p1 p2 p3 p4) (mg0_70a p1 p2 p3 p4)))]) (lenOf pd_0 rfl) rfl (by show 2 * 0 + _ ≤ _; exact Nat.le_of_eq rfl) (hb hby at_177) (fun _ _ => ⟨rfl, e49, (by decide : 2 + 0 ≤ _), (by decide : 7 + 0 ≤ _)⟩)
      dsimp only [Pt.U, Pt.locs, Pt.cells, Pt.slots] at X52 l52 y52 z52 st52 hQ52
      subst l52 y52 z52
      obtain ⟨rfl, N52q, e52⟩ := hQ52
      have N52 := Fr.app N49 N52q
      have pre54 : ∀ t, Steps p.tables e below (T52.setTop (mkF m 180 #[.val (.int p1), .val (.int p2), .val (.int p3), .val (.int p4), .val (.ref b11), .val (.ref b18), .val (.int ((p4 &&& (2147483647 : Int32)) % (5 : Int32))), .unset] [(.int (f2 ((p1.toInt8.toInt32).toInt8.toInt32) (((p1 >>> ((8 : Int32) &&& 31)).toInt8.toInt32).toInt8.toInt32))), (.int (f2 (mg0_37a p1 p2 p3 p4) (mg0_70a p1 p2 p3 p4)))])) t → Steps p.tables e below (s₁.setTop (entryFrame m #[(.int p1), (.int p2), (.int p3), (.int p4)] maxLocals)) t := fun t k => by
        refine pre46 _ ?_
        show Steps p.tables e below (T44.setTop (mkF m 149 #[.val (.int p1), .val (.int p2), .val (.int p3), .val (.int p4), .val (.ref b11), .val (.ref b18), .val (.int ((p4 &&& (2147483647 : Int32)) % (5 : Int32))), .unset] [(.int (2 : Int32)), (.int ((p4 &&& (2147483647 : Int32)) % (5 : Int32)))])) _
        refine XS.icmpYes X44.here hx rfl (pc0 := 149) (pc' := 158) rfl (hb hby at_149) rfl (flt hc45).2.1 (by decide) (by decide) ?_
        show Steps p.tables e below (T44.setTop (mkF m 158 #[.val (.int p1), .val (.int p2), .val (.int p3), .val (.int p4), .val (.ref b11), .val (.ref b18), .val (.int ((p4 &&& (2147483647 : Int32)) % (5 : Int32))), .unset] [])) _
        refine XS.aload X44.here hx rfl (hb hby at_158) rfl rfl ?_
        show Steps p.tables e below (T44.setTop (mkF m 160 #[.val (.int p1), .val (.int p2), .val (.int p3), .val (.int p4), .val (.ref b11), .val (.ref b18), .val (.int ((p4 &&& (2147483647 : Int32)) % (5 : Int32))), .unset] [(.ref b18)])) _
        refine XS.iconst X44.here hx rfl (hb hby at_160) ?_
        show Steps p.tables e below (T44.setTop (mkF m 161 #[.val (.int p1), .val (.int p2), .val (.int p3), .val (.int p4), .val (.ref b11), .val (.ref b18), .val (.int ((p4 &&& (2147483647 : Int32)) % (5 : Int32))), .unset] [(.int (0 : Int32)), (.ref b18)])) _
        refine X44.baloadBytes hx (j := (0 : Int32)) (v := (.int (mg0_37a p1 p2 p3 p4))) (by rw [e44]; exact Ar47.1) (State.isArrayOf_alike hZ.alike Ar47.2.1) Ar47.2.2 hin47 hat47 (g := (mkF m 161 #[.val (.int p1), .val (.int p2), .val (.int p3), .val (.int p4), .val (.ref b11), .val (.ref b18), .val (.int ((p4 &&& (2147483647 : Int32)) % (5 : Int32))), .unset] [(.int (0 : Int32)), (.ref b18)])) rfl rfl (hb hby at_161) _ ?_
        show Steps p.tables e below (T44.setTop (mkF m 162 #[.val (.int p1), .val (.int p2), .val (.int p3), .val (.int p4), .val (.ref b11), .val (.ref b18), .val (.int ((p4 &&& (2147483647 : Int32)) % (5 : Int32))), .unset] [(.int (mg0_37a p1 p2 p3 p4))])) _
        refine XS.aload X44.here hx rfl (hb hby at_162) rfl rfl ?_
        show Steps p.tables e below (T44.setTop (mkF m 164 #[.val (.int p1), .val (.int p2), .val (.int p3), .val (.int p4), .val (.ref b11), .val (.ref b18), .val (.int ((p4 &&& (2147483647 : Int32)) % (5 : Int32))), .unset] [(.ref b18), (.int (mg0_37a p1 p2 p3 p4))])) _
        refine XS.iconst X44.here hx rfl (hb hby at_164) ?_
        show Steps p.tables e below (T44.setTop (mkF m 165 #[.val (.int p1), .val (.int p2), .val (.int p3), .val (.int p4), .val (.ref b11), .val (.ref b18), .val (.int ((p4 &&& (2147483647 : Int32)) % (5 : Int32))), .unset] [(.int (1 : Int32)), (.ref b18), (.int (mg0_37a p1 p2 p3 p4))])) _
        refine X44.baloadBytes hx (j := (1 : Int32)) (v := (.int (mg0_70a p1 p2 p3 p4))) (by rw [e44]; exact Ar48.1) (State.isArrayOf_alike hZ.alike Ar48.2.1) Ar48.2.2 hin48 hat48 (g := (mkF m 165 #[.val (.int p1), .val (.int p2), .val (.int p3), .val (.int p4), .val (.ref b11), .val (.ref b18), .val (.int ((p4 &&& (2147483647 : Int32)) % (5 : Int32))), .unset] [(.int (1 : Int32)), (.ref b18), (.int (mg0_37a p1 p2 p3 p4))])) rfl rfl (hb hby at_165) _ ?_
        show Steps p.tables e below (T44.setTop (mkF m 166 #[.val (.int p1), .val (.int p2), .val (.int p3), .val (.int p4), .val (.ref b11), .val (.ref b18), .val (.int ((p4 &&& (2147483647 : Int32)) % (5 : Int32))), .unset] [(.int (mg0_70a p1 p2 p3 p4)), (.int (mg0_37a p1 p2 p3 p4))])) _
        refine st49 _ ?_
        show Steps p.tables e below (T49.setTop (mkF m 169 #[.val (.int p1), .val (.int p2), .val (.int p3), .val (.int p4), .val (.ref b11), .val (.ref b18), .val (.int ((p4 &&& (2147483647 : Int32)) % (5 : Int32))), .unset] [(.int (f2 (mg0_37a p1 p2 p3 p4) (mg0_70a p1 p2 p3 p4)))])) _
        refine XS.aload X49.here hx rfl (hb hby at_169) rfl rfl ?_
        show Steps p.tables e below (T49.setTop (mkF m 171 #[.val (.int p1), .val (.int p2), .val (.int p3), .val (.int p4), .val (.ref b11), .val (.ref b18), .val (.int ((p4 &&& (2147483647 : Int32)) % (5 : Int32))), .unset] [(.ref b11), (.int (f2 (mg0_37a p1 p2 p3 p4) (mg0_70a p1 p2 p3 p4)))])) _
        refine XS.iconst X49.here hx rfl (hb hby at_171) ?_
        show Steps p.tables e below (T49.setTop (mkF m 172 #[.val (.int p1), .val (.int p2), .val (.int p3), .val (.int p4), .val (.ref b11), .val (.ref b18), .val (.int ((p4 &&& (2147483647 : Int32)) % (5 : Int32))), .unset] [(.int (0 : Int32)), (.ref b11), (.int (f2 (mg0_37a p1 p2 p3 p4) (mg0_70a p1 p2 p3 p4)))])) _
        refine X49.baloadBytes hx (j := (0 : Int32)) (v := (.int ((p1.toInt8.toInt32).toInt8.toInt32))) (by rw [e49]; exact Ar50.1) (State.isArrayOf_alike hZ.alike Ar50.2.1) Ar50.2.2 hin50 hat50 (g := (mkF m 172 #[.val (.int p1), .val (.int p2), .val (.int p3), .val (.int p4), .val (.ref b11), .val (.ref b18), .val (.int ((p4 &&& (2147483647 : Int32)) % (5 : Int32))), .unset] [(.int (0 : Int32)), (.ref b11), (.int (f2 (mg0_37a p1 p2 p3 p4) (mg0_70a p1 p2 p3 p4)))])) rfl rfl (hb hby at_172) _ ?_
        show Steps p.tables e below (T49.setTop (mkF m 173 #[.val (.int p1), .val (.int p2), .val (.int p3), .val (.int p4), .val (.ref b11), .val (.ref b18), .val (.int ((p4 &&& (2147483647 : Int32)) % (5 : Int32))), .unset] [(.int ((p1.toInt8.toInt32).toInt8.toInt32)), (.int (f2 (mg0_37a p1 p2 p3 p4) (mg0_70a p1 p2 p3 p4)))])) _
        refine XS.aload X49.here hx rfl (hb hby at_173) rfl rfl ?_
        show Steps p.tables e below (T49.setTop (mkF m 175 #[.val (.int p1), .val (.int p2), .val (.int p3), .val (.int p4), .val (.ref b11), .val (.ref b18), .val (.int ((p4 &&& (2147483647 : Int32)) % (5 : Int32))), .unset] [(.ref b11), (.int ((p1.toInt8.toInt32).toInt8.toInt32)), (.int (f2 (mg0_37a p1 p2 p3 p4) (mg0_70a p1 p2 p3 p4)))])) _
        refine XS.iconst X49.here hx rfl (hb hby at_175) ?_
        show Steps p.tables e below (T49.setTop (mkF m 176 #[.val (.int p1), .val (.int p2), .val (.int p3), .val (.int p4), .val (.ref b11), .val (.ref b18), .val (.int ((p4 &&& (2147483647 : Int32)) % (5 : Int32))), .unset] [(.int (1 : Int32)), (.ref b11), (.int ((p1.toInt8.toInt32).toInt8.toInt32)), (.int (f2 (mg0_37a p1 p2 p3 p4) (mg0_70a p1 p2 p3 p4)))])) _
        refine X49.baloadBytes hx (j := (1 : Int32)) (v := (.int (((p1 >>> ((8 : Int32) &&& 31)).toInt8.toInt32).toInt8.toInt32))) (by rw [e49]; exact Ar51.1) (State.isArrayOf_alike hZ.alike Ar51.2.1) Ar51.2.2 hin51 hat51 (g := (mkF m 176 #[.val (.int p1), .val (.int p2), .val (.int p3), .val (.int p4), .val (.ref b11), .val (.ref b18), .val (.int ((p4 &&& (2147483647 : Int32)) % (5 : Int32))), .unset] [(.int (1 : Int32)), (.ref b11), (.int ((p1.toInt8.toInt32).toInt8.toInt32)), (.int (f2 (mg0_37a p1 p2 p3 p4) (mg0_70a p1 p2 p3 p4)))])) rfl rfl (hb hby at_176) _ ?_
        show Steps p.tables e below (T49.setTop (mkF m 177 #[.val (.int p1), .val (.int p2), .val (.int p3), .val (.int p4), .val (.ref b11), .val (.ref b18), .val (.int ((p4 &&& (2147483647 : Int32)) % (5 : Int32))), .unset] [(.int (((p1 >>> ((8 : Int32) &&& 31)).toInt8.toInt32).toInt8.toInt32)), (.int ((p1.toInt8.toInt32).toInt8.toInt32)), (.int (f2 (mg0_37a p1 p2 p3 p4) (mg0_70a p1 p2 p3 p4)))])) _
        refine st52 _ ?_
        exact k
      obtain ⟨T55, L55, X55, N55, e55, pre55⟩ : ∃ T' L', Stand p l e room_1 s m #[(.int p1), (.int p2), (.int p3), (.int p4)] below meth c T' L' 2 7 ∧ Fr n0 L' ∧ T'.heap = h44 ∧ ∀ t, Steps p.tables e below (T'.setTop (mkF m 188 #[.val (.int p1), .val (.int p2), .val (.int p3), .val (.int p4), .val (.ref b11), .val (.ref b18), .val (.int ((p4 &&& (2147483647 : Int32)) % (5 : Int32))), .unset] [(.int (mg0_180a p1 p2 p3 p4))])) t → Steps p.tables e below (s₁.setTop (entryFrame m #[(.int p1), (.int p2), (.int p3), (.int p4)] maxLocals)) t := by
        by_cases hc53 : (f2 (mg0_37a p1 p2 p3 p4) (mg0_70a p1 p2 p3 p4)) = (f2 ((p1.toInt8.toInt32).toInt8.toInt32) (((p1 >>> ((8 : Int32) &&& 31)).toInt8.toInt32).toInt8.toInt32))
        · rw [show mg0_180a p1 p2 p3 p4 = (1 : Int32) from if_pos hc53]
          refine ⟨T52, _, X52, N52, e52, fun t k => ?_⟩
          refine pre54 _ ?_
          show Steps p.tables e below (T52.setTop (mkF m 180 #[.val (.int p1), .val (.int p2), .val (.int p3), .val (.int p4), .val (.ref b11), .val (.ref b18), .val (.int ((p4 &&& (2147483647 : Int32)) % (5 : Int32))), .unset] [(.int (f2 ((p1.toInt8.toInt32).toInt8.toInt32) (((p1 >>> ((8 : Int32) &&& 31)).toInt8.toInt32).toInt8.toInt32))), (.int (f2 (mg0_37a p1 p2 p3 p4) (mg0_70a p1 p2 p3 p4)))])) _
          refine XS.icmpNo X52.here hx rfl (hb hby at_180) rfl (teq hc53).2 ?_
          show Steps p.tables e below (T52.setTop (mkF m 183 #[.val (.int p1), .val (.int p2), .val (.int p3), .val (.int p4), .val (.ref b11), .val (.ref b18), .val (.int ((p4 &&& (2147483647 : Int32)) % (5 : Int32))), .unset] [])) _
          refine XS.iconst X52.here hx rfl (hb hby at_183) ?_
          show Steps p.tables e below (T52.setTop (mkF m 184 #[.val (.int p1), .val (.int p2), .val (.int p3), .val (.int p4), .val (.ref b11), .val (.ref b18), .val (.int ((p4 &&& (2147483647 : Int32)) % (5 : Int32))), .unset] [(.int (1 : Int32))])) _
          refine XS.goto X52.here hx rfl (pc0 := 184) (pc' := 188) rfl (hb hby at_184) (by decide) (by decide) ?_
          exact k
        · rw [show mg0_180a p1 p2 p3 p4 = (0 : Int32) from if_neg hc53]
          refine ⟨T52, _, X52, N52, e52, fun t k => ?_⟩
          refine pre54 _ ?_
          show Steps p.tables e below (T52.setTop (mkF m 180 #[.val (.int p1), .val (.int p2), .val (.int p3), .val (.int p4), .val (.ref b11), .val (.ref b18), .val (.int ((p4 &&& (2147483647 : Int32)) % (5 : Int32))), .unset] [(.int (f2 ((p1.toInt8.toInt32).toInt8.toInt32) (((p1 >>> ((8 : Int32) &&& 31)).toInt8.toInt32).toInt8.toInt32))), (.int (f2 (mg0_37a p1 p2 p3 p4) (mg0_70a p1 p2 p3 p4)))])) _
          refine XS.icmpYes X52.here hx rfl (pc0 := 180) (pc' := 187) rfl (hb hby at_180) rfl (feq hc53).2 (by decide) (by decide) ?_
          show Steps p.tables e below (T52.setTop (mkF m 187 #[.val (.int p1), .val (.int p2), .val (.int p3), .val (.int p4), .val (.ref b11), .val (.ref b18), .val (.int ((p4 &&& (2147483647 : Int32)) % (5 : Int32))), .unset] [])) _
          refine XS.iconst X52.here hx rfl (hb hby at_187) ?_
          exact k
      refine ⟨T55, _, X55, N55, e55, fun t k => ?_⟩
      refine pre55 _ ?_
      show Steps p.tables e below (T55.setTop (mkF m 188 #[.val (.int p1), .val (.int p2), .val (.int p3), .val (.int p4), .val (.ref b11), .val (.ref b18), .val (.int ((p4 &&& (2147483647 : Int32)) % (5 : Int32))), .unset] [(.int (mg0_180a p1 p2 p3 p4))])) _
      refine XS.istore X55.here hx rfl (hb hby at_188) rfl (l' := #[.val (.int p1), .val (.int p2), .val (.int p3), .val (.int p4), .val (.ref b11), .val (.ref b18), .val (.int ((p4 &&& (2147483647 : Int32)) % (5 : Int32))), .val (.int (mg0_180a p1 p2 p3 p4))]) rfl ?_
      exact k
  obtain ⟨_, _, ⟨T57, L57, k57, n57⟩, -, X57, ⟨Lc57, hQ57, l57, y57, z57⟩, st57⟩ := Jvm.LawKit.callS X56 hx (y := (⟨"com/example/assay/assay/dns/Answer", "answers", "([B[BI)Z"⟩ : MethodName)) hown (mvT hZ (hw _ (List.mem_of_getElem? (i := 2) rfl))) (mvT hZ (hw _ (List.mem_of_getElem? (i := 3) rfl))) (mvT hZ (hw _ (List.mem_of_getElem? (i := 4) rfl))) (mvT hZ (hw _ (List.mem_of_getElem? (i := 5) rfl))) (by decide) (backOf (W := 0) (rm1 l Z a0 hw [] b11 b18 ((p4 &&& (2147483647 : Int32)) % (5 : Int32)) k11 k18 ((p1.toInt8.toInt32).toInt8.toInt32) (((p1 >>> ((8 : Int32) &&& 31)).toInt8.toInt32).toInt8.toInt32) (((p1 >>> ((16 : Int32) &&& 31)).toInt8.toInt32).toInt8.toInt32) (mg0_37a p1 p2 p3 p4) (mg0_70a p1 p2 p3 p4) (mg0_106a p1 p2 p3 p4) (((p2 >>> ((24 : Int32) &&& 31)).toInt8.toInt32).toInt8.toInt32) h44 n0 Z0 V_b11 V_b18) hZ (hw _ (List.mem_of_getElem? (i := 5) rfl)) (hw _ (List.mem_of_getElem? (i := 4) rfl)) (by decide) (by decide)) (g := (mkF m 196 #[.val (.int p1), .val (.int p2), .val (.int p3), .val (.int p4), .val (.ref b11), .val (.ref b18), .val (.int ((p4 &&& (2147483647 : Int32)) % (5 : Int32))), .val (.int (mg0_149a p1 p2 p3 p4))] [(.int ((p4 &&& (2147483647 : Int32)) % (5 : Int32))), (.ref b18), (.ref b11)])) rfl (by rw [hml]; rfl) (argsL := [(.ref b11), (.ref b18), (.int ((p4 &&& (2147483647 : Int32)) % (5 : Int32)))]) (rest := []) (lenOf pd_1 rfl) rfl (by show 2 * 0 + _ ≤ _; exact Nat.le_of_eq rfl) (hb hby at_196) (fun _ _ => ⟨rfl, e56, (by decide : 2 + 0 ≤ _), (by decide : 7 + 0 ≤ _)⟩)
  dsimp only [Pt.U, Pt.locs, Pt.cells, Pt.slots] at X57 l57 y57 z57 st57 hQ57
  subst l57 y57 z57
  obtain ⟨rfl, N57q, e57⟩ := hQ57
  have N57 := Fr.app N56 N57q
  have pre59 : ∀ t, Steps p.tables e below (T57.setTop (mkF m 201 #[.val (.int p1), .val (.int p2), .val (.int p3), .val (.int p4), .val (.ref b11), .val (.ref b18), .val (.int ((p4 &&& (2147483647 : Int32)) % (5 : Int32))), .val (.int (mg0_149a p1 p2 p3 p4))] [(.int (mg0_149a p1 p2 p3 p4)), (.int (fans ((p4 &&& (2147483647 : Int32)) % (5 : Int32)) ((p1.toInt8.toInt32).toInt8.toInt32) (((p1 >>> ((8 : Int32) &&& 31)).toInt8.toInt32).toInt8.toInt32) (mg0_37a p1 p2 p3 p4) (mg0_70a p1 p2 p3 p4)))])) t → Steps p.tables e below (s₁.setTop (entryFrame m #[(.int p1), (.int p2), (.int p3), (.int p4)] maxLocals)) t := fun t k => by
    refine pre56 _ ?_
    show Steps p.tables e below (T56.setTop (mkF m 190 #[.val (.int p1), .val (.int p2), .val (.int p3), .val (.int p4), .val (.ref b11), .val (.ref b18), .val (.int ((p4 &&& (2147483647 : Int32)) % (5 : Int32))), .val (.int (mg0_149a p1 p2 p3 p4))] [])) _
    refine XS.aload X56.here hx rfl (hb hby at_190) rfl rfl ?_
    show Steps p.tables e below (T56.setTop (mkF m 192 #[.val (.int p1), .val (.int p2), .val (.int p3), .val (.int p4), .val (.ref b11), .val (.ref b18), .val (.int ((p4 &&& (2147483647 : Int32)) % (5 : Int32))), .val (.int (mg0_149a p1 p2 p3 p4))] [(.ref b11)])) _
    refine XS.aload X56.here hx rfl (hb hby at_192) rfl rfl ?_
    show Steps p.tables e below (T56.setTop (mkF m 194 #[.val (.int p1), .val (.int p2), .val (.int p3), .val (.int p4), .val (.ref b11), .val (.ref b18), .val (.int ((p4 &&& (2147483647 : Int32)) % (5 : Int32))), .val (.int (mg0_149a p1 p2 p3 p4))] [(.ref b18), (.ref b11)])) _
    refine XS.iload X56.here hx rfl (hb hby at_194) rfl ?_
    show Steps p.tables e below (T56.setTop (mkF m 196 #[.val (.int p1), .val (.int p2), .val (.int p3), .val (.int p4), .val (.ref b11), .val (.ref b18), .val (.int ((p4 &&& (2147483647 : Int32)) % (5 : Int32))), .val (.int (mg0_149a p1 p2 p3 p4))] [(.int ((p4 &&& (2147483647 : Int32)) % (5 : Int32))), (.ref b18), (.ref b11)])) _
    refine st57 _ ?_
    show Steps p.tables e below (T57.setTop (mkF m 199 #[.val (.int p1), .val (.int p2), .val (.int p3), .val (.int p4), .val (.ref b11), .val (.ref b18), .val (.int ((p4 &&& (2147483647 : Int32)) % (5 : Int32))), .val (.int (mg0_149a p1 p2 p3 p4))] [(.int (fans ((p4 &&& (2147483647 : Int32)) % (5 : Int32)) ((p1.toInt8.toInt32).toInt8.toInt32) (((p1 >>> ((8 : Int32) &&& 31)).toInt8.toInt32).toInt8.toInt32) (mg0_37a p1 p2 p3 p4) (mg0_70a p1 p2 p3 p4)))])) _
    refine XS.iload X57.here hx rfl (hb hby at_199) rfl ?_
    exact k
  by_cases hc58 : (fans ((p4 &&& (2147483647 : Int32)) % (5 : Int32)) ((p1.toInt8.toInt32).toInt8.toInt32) (((p1 >>> ((8 : Int32) &&& 31)).toInt8.toInt32).toInt8.toInt32) (mg0_37a p1 p2 p3 p4) (mg0_70a p1 p2 p3 p4)) = (mg0_149a p1 p2 p3 p4)
  · obtain ⟨fs, hr, hrun, hended, hW, hsame⟩ := X57.leave (v := some (.int (1 : Int32))) (fun h => by rw [Bd.returns] at h; cases h)
    refine ⟨_, _, pre59 _ ?_, hrun, hended, _, _, rfl, ?_, ⟨_, rfl⟩, hW, hsame.mono (by decide) (by decide)⟩
    · show Steps p.tables e below (T57.setTop (mkF m 201 #[.val (.int p1), .val (.int p2), .val (.int p3), .val (.int p4), .val (.ref b11), .val (.ref b18), .val (.int ((p4 &&& (2147483647 : Int32)) % (5 : Int32))), .val (.int (mg0_149a p1 p2 p3 p4))] [(.int (mg0_149a p1 p2 p3 p4)), (.int (fans ((p4 &&& (2147483647 : Int32)) % (5 : Int32)) ((p1.toInt8.toInt32).toInt8.toInt32) (((p1 >>> ((8 : Int32) &&& 31)).toInt8.toInt32).toInt8.toInt32) (mg0_37a p1 p2 p3 p4) (mg0_70a p1 p2 p3 p4)))])) _
      refine XS.icmpNo X57.here hx rfl (hb hby at_201) rfl (teq hc58).2 ?_
      show Steps p.tables e below (T57.setTop (mkF m 204 #[.val (.int p1), .val (.int p2), .val (.int p3), .val (.int p4), .val (.ref b11), .val (.ref b18), .val (.int ((p4 &&& (2147483647 : Int32)) % (5 : Int32))), .val (.int (mg0_149a p1 p2 p3 p4))] [])) _
      refine XS.iconst X57.here hx rfl (hb hby at_204) ?_
      show Steps p.tables e below (T57.setTop (mkF m 205 #[.val (.int p1), .val (.int p2), .val (.int p3), .val (.int p4), .val (.ref b11), .val (.ref b18), .val (.int ((p4 &&& (2147483647 : Int32)) % (5 : Int32))), .val (.int (mg0_149a p1 p2 p3 p4))] [(.int (1 : Int32))])) _
      refine XS.goto X57.here hx rfl (pc0 := 205) (pc' := 209) rfl (hb hby at_205) (by decide) (by decide) ?_
      show Steps p.tables e below (T57.setTop (mkF m 209 #[.val (.int p1), .val (.int p2), .val (.int p3), .val (.int p4), .val (.ref b11), .val (.ref b18), .val (.int ((p4 &&& (2147483647 : Int32)) % (5 : Int32))), .val (.int (mg0_149a p1 p2 p3 p4))] [(.int (1 : Int32))])) _
      exact retN X57 hx (t := .boolean) Bd.returns (by simp) (hb hby at_209) hr
    · show QL _ n0 _ _ _
      rw [show f0 p1 p2 p3 p4 = (1 : Int32) from by unfold f0; rw [if_pos hc58]]
      exact ⟨rfl, N57⟩
  · obtain ⟨fs, hr, hrun, hended, hW, hsame⟩ := X57.leave (v := some (.int (0 : Int32))) (fun h => by rw [Bd.returns] at h; cases h)
    refine ⟨_, _, pre59 _ ?_, hrun, hended, _, _, rfl, ?_, ⟨_, rfl⟩, hW, hsame.mono (by decide) (by decide)⟩
    · show Steps p.tables e below (T57.setTop (mkF m 201 #[.val (.int p1), .val (.int p2), .val (.int p3), .val (.int p4), .val (.ref b11), .val (.ref b18), .val (.int ((p4 &&& (2147483647 : Int32)) % (5 : Int32))), .val (.int (mg0_149a p1 p2 p3 p4))] [(.int (mg0_149a p1 p2 p3 p4)), (.int (fans ((p4 &&& (2147483647 : Int32)) % (5 : Int32)) ((p1.toInt8.toInt32).toInt8.toInt32) (((p1 >>> ((8 : Int32) &&& 31)).toInt8.toInt32).toInt8.toInt32) (mg0_37a p1 p2 p3 p4) (mg0_70a p1 p2 p3 p4)))])) _
      refine XS.icmpYes X57.here hx rfl (pc0 := 201) (pc' := 208) rfl (hb hby at_201) rfl (feq hc58).2 (by decide) (by decide) ?_
      show Steps p.tables e below (T57.setTop (mkF m 208 #[.val (.int p1), .val (.int p2), .val (.int p3), .val (.int p4), .val (.ref b11), .val (.ref b18), .val (.int ((p4 &&& (2147483647 : Int32)) % (5 : Int32))), .val (.int (mg0_149a p1 p2 p3 p4))] [])) _
      refine XS.iconst X57.here hx rfl (hb hby at_208) ?_
      show Steps p.tables e below (T57.setTop (mkF m 209 #[.val (.int p1), .val (.int p2), .val (.int p3), .val (.int p4), .val (.ref b11), .val (.ref b18), .val (.int ((p4 &&& (2147483647 : Int32)) % (5 : Int32))), .val (.int (mg0_149a p1 p2 p3 p4))] [(.int (0 : Int32))])) _
      exact retN X57 hx (t := .boolean) Bd.returns (by simp) (hb hby at_209) hr
    · show QL _ n0 _ _ _
      rw [show f0 p1 p2 p3 p4 = (0 : Int32) from by unfold f0; rw [if_neg hc58]]
      exact ⟨rfl, N57⟩
theorem own_val (a b : Int32) : (f2 a b).toInt = 256 * (a.toInt % 256) + b.toInt % 256 := by
  have a1 : (a &&& 255).toInt = a.toInt % (2 ^ 8 : Nat) := c_mask a _ 8 (by decide) (by decide)
  have b1 : (b &&& 255).toInt = b.toInt % (2 ^ 8 : Nat) := c_mask b _ 8 (by decide) (by decide)
  have a2 := c_ishl (a &&& 255) 8 8 (by decide)
  have r2 := rng32 ((a &&& 255) <<< ((8 : Int32) &&& 31))
  have a3 := c_or ((a &&& 255) <<< ((8 : Int32) &&& 31)) (b &&& 255) 8 (by decide) 256 (by decide)
  have r3 := rng32 (((a &&& 255) <<< ((8 : Int32) &&& 31)) ||| (b &&& 255))
  unfold f2
  omega
theorem own_id (a b c d : Int32) (ha : -128 ≤ a.toInt ∧ a.toInt < 128) (hb : -128 ≤ b.toInt ∧ b.toInt < 128) (hc : -128 ≤ c.toInt ∧ c.toInt < 128) (hd : -128 ≤ d.toInt ∧ d.toInt < 128) : f2 a b = f2 c d ↔ (a = c ∧ b = d) := by
  have h1 := own_val a b
  have h2 := own_val c d
  simp only [← Int32.toInt_inj]
  omega
theorem own_37 (a b c d : Int32) : -128 ≤ (mg0_37a a b c d).toInt ∧ (mg0_37a a b c d).toInt < 128 := by
  unfold mg0_37a
  split
  · exact (c_i2b _).2
  · exact (c_i2b _).2
theorem own_70 (a b c d : Int32) : -128 ≤ (mg0_70a a b c d).toInt ∧ (mg0_70a a b c d).toInt < 128 := by
  unfold mg0_70a
  split
  · exact (c_i2b _).2
  · exact (c_i2b _).2
theorem own_law (a b c d : Int32) : f0 a b c d = 1 := by
  have k := own_id (mg0_37a a b c d) (mg0_70a a b c d) ((a.toInt8.toInt32).toInt8.toInt32) (((a >>> ((8 : Int32) &&& 31)).toInt8.toInt32).toInt8.toInt32) (own_37 a b c d) (own_70 a b c d) (c_i2b _).2 (c_i2b _).2
  unfold f0 mg0_149a mg0_180a fans f1
  by_cases h : ((d &&& (2147483647 : Int32)) % (5 : Int32)) < (2 : Int32)
  · simp only [if_pos h]
    rfl
  · simp only [if_neg h]
    by_cases e1 : (mg0_37a a b c d) = ((a.toInt8.toInt32).toInt8.toInt32)
    · by_cases e2 : (mg0_70a a b c d) = (((a >>> ((8 : Int32) &&& 31)).toInt8.toInt32).toInt8.toInt32)
      · rw [if_pos e1, if_pos e2, if_pos (k.mpr ⟨e1, e2⟩)]
        rfl
      · rw [if_pos e1, if_neg e2, if_neg (fun q => e2 (k.mp q).2)]
        rfl
    · rw [if_neg e1, if_neg (fun q => e1 (k.mp q).1)]
      rfl
set_option maxRecDepth 65536 in
set_option maxHeartbeats 40000000 in
theorem comes_1 {Post : Tables → Env → Array Value → State → Outcome → State → Prop} (hpost : ∀ tb e args s v u, (limb_1_1.after args s (.returned v) u = true ∧ limb_1_2.after args s (.returned v) u = true ∧ True) → FrameEnd s (.returned v) u (Jvm.fieldLocs frame_1_writes args s ++ Jvm.arrayLocs frame_1_arrays args s ++ Jvm.staticLocs frame_1_statics s) 16 128 → Post tb e args s (.returned v) u) :
    ArmFor flags0 classFile x code maxLocals ret World_1 tables_1 room_1 Calls_1 rest_1 Pre_1 Post := by
  intro l hfl _ _ p e ha hc hk s m args below hf hA hF happ hP
  obtain ⟨hcalls, hrest, hpre⟩ := hP
  obtain ⟨-, -, -, hnamed, -, -, -, hat⟩ := (Spec.applies_iff hf).mp happ
  obtain ⟨hg, hn⟩ := and_e (Cond.before_iff.mp (show (Jvm.Cond.and given_1 narrow_1).before args s = true from hpre))
  obtain ⟨gc, gr0⟩ := and_e hg
  obtain ⟨g0, gr1⟩ := and_e gr0
  obtain ⟨g1, gr2⟩ := and_e gr1
  obtain ⟨g2, gr3⟩ := and_e gr2
  obtain ⟨w0, w1, w2, w3, rfl⟩ : ∃ w0 w1 w2 w3 : Value, args = #[w0, w1, w2, w3] := by
    have hs : args.size = 4 := by simpa [Cond.value, given_1] using gc
    obtain ⟨L⟩ := args
    match L, hs with
    | [w0, w1, w2, w3], _ => exact ⟨w0, w1, w2, w3, rfl⟩
  have hw := fun d (hd : d ∈ tables_1) => atoms_spec (ws := Jvm.Cond.code x code maxLocals ret :: tables_1) hat d (List.mem_cons_of_mem _ hd)
  have hfit : Fit s := fun {y c} hc i hi => by
    obtain ⟨ha, rfl⟩ := Array.getElem?_eq_some_iff.mp hc
    have q := List.all_eq_true.mp ((Array.all_eq_true_iff_forall_mem.mp hF) _ (Array.getElem_mem ha)) i (List.mem_range.mpr hi)
    simpa [Array.getElem?_eq_getElem hi] using q
  obtain ⟨i0, ei0⟩ := is_v g0
  obtain rfl : w0 = (.int i0) := Option.some.inj ei0
  obtain ⟨i1, ei1⟩ := is_v g1
  obtain rfl : w1 = (.int i1) := Option.some.inj ei1
  obtain ⟨i2, ei2⟩ := is_v g2
  obtain rfl : w2 = (.int i2) := Option.some.inj ei2
  obtain ⟨i3, ei3⟩ := is_v gr3
  obtain rfl : w3 = (.int i3) := Option.some.inj ei3
  have hone : f0 i0 i1 i2 i3 = 1 := own_law i0 i1 i2 i3
  obtain ⟨n, o, h1, h2, h3, _, L, rfl, ⟨rfl, N⟩, hq⟩ := rm0 l s _ hw tables_1 i0 i1 i2 i3 s.heap s.heap.size (Nat.le_refl _)  p e ha hc hk s m _ below hf ((Spec.applies_iff_loose hf).mp happ).1 ⟨rfl, State.Warmed39.refl s, rfl⟩ trivial
  rw [hone] at h3 hq
  refine ⟨n, _, h1, h2, h3, hpost _ _ _ _ _ _ ⟨Cond.after_iff.mpr rfl, Cond.after_iff.mpr (eq_i res_at (Term.int_eval (1)) rfl), trivial⟩ ⟨hq.1, hq.2.1, (hq.2.2.sift fun y hy => Or.inr (N y hy)).mono (by decide) (by decide)⟩⟩
theorem main_1_1 : Claimed_1_1 := comes_1 fun _ _ _ _ _ _ h hF => ⟨h.1, hF⟩
theorem main_1_2 : Claimed_1_2 := comes_1 fun _ _ _ _ _ _ h hF => ⟨h.2.1, hF⟩
end Jvm.Pilot.@@N@@
namespace Jvm.Pilot.@@N@@
open Jvm Jvm.ClassFile Sem Op Lib Jvm.Free Jvm.Stand Jvm.Pilot.@@N@@.Jvm.D
/-! MADE BY PROGRAM (witnessworld.py) out of the Statement's table words and the real class files: 10 classes; the members and pool entries that the words name. The judged class is class 1, her method 2. -/
namespace start1
open Jvm.ClassFile
def u (s : String) : CpInfo := .utf8 (stringToUtf16 s)
/-- a pool by its gaps: so many unusable entries, then the entry; so many at the end -/
def gap : Nat → List CpInfo → List CpInfo
  | 0, r => r
  | n + 1, r => .unusable :: gap n r
def poolList (es : List (Nat × CpInfo)) (last : Nat) : List CpInfo := es.foldr (fun e r => gap e.1 (e.2 :: r)) (gap last [])
def pool (es : List (Nat × CpInfo)) (last : Nat) : Array CpInfo := ⟨poolList es last⟩
def fileOf (pool : Array CpInfo) (this : Nat) (attrs : Array Attribute := #[]) (ms : Array MethodInfo := #[]) (fl : Nat := 33) (sup : Nat := 0) (ifs : Array Nat := #[]) (fds : Array FieldInfo := #[]) : ClassFile where
  minorVersion := 0
  majorVersion := 65
  constantPool := pool
  accessFlags := fl
  thisClass := this
  superClass := sup
  interfaces := ifs
  fields := fds
  methods := ms
  attributes := attrs
def plain (name : String) (sup : Option ClassId) : Class where
  name := name
  kind := .ordinary
  loader := none
  accessFlags := 33
  super := sup
  interfaces := #[]
  cf := none
  fields := #[]
  methods := #[]
  instanceTypes := #[]
  staticTypes := #[]
  resolved := #[]
  callSites := []
  init := .initialized
  statics := none
  mirror := none

def pool0 : Array CpInfo := pool [(5, u "<init>"), (0, u "()V"), (1, .class_ 10), (1, u "java/lang/Object")] 113

def k0m0 : Method := { name := "<init>", desc := "()V", sig := { parameters := [], returnType := none }, accessFlags := 1, code := none }
/-- java/lang/Object -/
def k0 : Class := { plain "java/lang/Object" none with
  accessFlags := 33
  interfaces := #[]
  cf := some (fileOf pool0 8 #[] #[{ accessFlags := 1, nameIndex := 5, descriptorIndex := 6, attributes := #[] }] 33 0 #[] #[])
  fields := #[]
  methods := #[k0m0]
  instanceTypes := #[]
  staticTypes := #[]
  resolved := Array.replicate 124 none
  statics := none }

def pool1 : Array CpInfo := pool [(2, .class_ 4), (1, u "java/lang/Object"), (0, u "<init>"), (0, u "()V"), (0, .integer 2147483647), (0, .methodref 9 10), (0, .class_ 11), (0, .nameAndType 12 13), (0, u "com/example/assay/assay/dns/AnswerAnswersPinLaw"), (0, u "id"), (0, u "(BB)I"), (0, .methodref 15 16), (0, .class_ 17), (0, .nameAndType 18 19), (0, u "com/example/assay/assay/dns/Answer"), (0, u "answers"), (0, u "([B[BI)Z"), (2, u "law"), (0, u "(IIII)Z")] 5

def k1m0 : Method := { name := "<init>", desc := "()V", sig := { parameters := [], returnType := none }, accessFlags := 2, code := none }
def k1c1 : Code := { maxStack := 3, maxLocals := 2, code := method_2_code, exceptionTable := #[], attributes := #[] }
def k1m1 : Method := { name := "id", desc := "(BB)I", sig := { parameters := [.byte, .byte], returnType := some .int }, accessFlags := 10, code := some k1c1 }
def k1c2 : Code := { maxStack := 5, maxLocals := 8, code := code, exceptionTable := #[], attributes := #[] }
def k1m2 : Method := { name := "law", desc := "(IIII)Z", sig := { parameters := [.int, .int, .int, .int], returnType := some .boolean }, accessFlags := 9, code := some k1c2 }
/-- com/example/assay/assay/dns/AnswerAnswersPinLaw -/
def k1 : Class := { plain "com/example/assay/assay/dns/AnswerAnswersPinLaw" (some 0) with
  accessFlags := 49
  interfaces := #[]
  cf := some (fileOf pool1 9 #[] #[{ accessFlags := 2, nameIndex := 5, descriptorIndex := 6, attributes := #[] }, { accessFlags := 10, nameIndex := 12, descriptorIndex := 13, attributes := #[] }, { accessFlags := 9, nameIndex := 22, descriptorIndex := 23, attributes := #[] }] 49 2 #[] #[])
  fields := #[]
  methods := #[k1m0, k1m1, k1m2]
  instanceTypes := #[]
  staticTypes := #[]
  resolved := Array.replicate 29 none
  statics := none }

def pool2 : Array CpInfo := pool [(2, .class_ 4), (1, u "java/lang/Object"), (0, u "<init>"), (0, u "()V"), (0, .class_ 8), (0, u "java/lang/Record")] 13

def k2m0 : Method := { name := "<init>", desc := "()V", sig := { parameters := [], returnType := none }, accessFlags := 4, code := none }
/-- java/lang/Record -/
def k2 : Class := { plain "java/lang/Record" (some 0) with
  accessFlags := 1057
  interfaces := #[]
  cf := some (fileOf pool2 7 #[] #[{ accessFlags := 4, nameIndex := 5, descriptorIndex := 6, attributes := #[] }] 1057 2 #[] #[])
  fields := #[]
  methods := #[k2m0]
  instanceTypes := #[]
  staticTypes := #[]
  resolved := Array.replicate 22 none
  statics := none }

def pool3 : Array CpInfo := pool [(2, .class_ 4), (1, u "java/lang/Record"), (3, .class_ 10), (1, u "com/example/assay/assay/dns/Answer"), (0, u "message"), (0, u "[B"), (2, u "rtt"), (0, u "Ljava/time/Duration;"), (16, u "answers"), (0, u "([B[BI)Z")] 27

def k3c0 : Code := { maxStack := 3, maxLocals := 3, code := prog_26_method_2_code, exceptionTable := #[], attributes := #[] }
def k3m0 : Method := { name := "answers", desc := "([B[BI)Z", sig := { parameters := [(.array .byte), (.array .byte), .int], returnType := some .boolean }, accessFlags := 8, code := some k3c0 }
/-- com/example/assay/assay/dns/Answer -/
def k3 : Class := { plain "com/example/assay/assay/dns/Answer" (some 2) with
  accessFlags := 49
  interfaces := #[]
  cf := some (fileOf pool3 8 #[] #[{ accessFlags := 8, nameIndex := 33, descriptorIndex := 34, attributes := #[] }] 49 2 #[] #[{ accessFlags := 18, nameIndex := 11, descriptorIndex := 12, attributes := #[] }, { accessFlags := 18, nameIndex := 15, descriptorIndex := 16, attributes := #[] }])
  fields := #[{ name := "message", type := (.array .byte), accessFlags := 18, slot := 0, constantValue := 0 }, { name := "rtt", type := (.object "java/time/Duration"), accessFlags := 18, slot := 1, constantValue := 0 }]
  methods := #[k3m0]
  instanceTypes := #[(.array .byte), (.object "java/time/Duration")]
  staticTypes := #[]
  resolved := Array.replicate 62 none
  statics := none }

def pool4 : Array CpInfo := pool [(1, u "java/lang/Cloneable"), (0, .class_ 1), (0, u "java/lang/Object"), (0, .class_ 3)] 3

/-- java/lang/Cloneable -/
def k4 : Class := { plain "java/lang/Cloneable" (some 0) with
  accessFlags := 1537
  interfaces := #[]
  cf := some (fileOf pool4 2 #[] #[] 1537 4 #[] #[])
  fields := #[]
  methods := #[]
  instanceTypes := #[]
  staticTypes := #[]
  resolved := Array.replicate 8 none
  statics := none }

def pool5 : Array CpInfo := pool [(1, u "java/io/Serializable"), (0, .class_ 1), (0, u "java/lang/Object"), (0, .class_ 3)] 3

/-- java/io/Serializable -/
def k5 : Class := { plain "java/io/Serializable" (some 0) with
  accessFlags := 1537
  interfaces := #[]
  cf := some (fileOf pool5 2 #[] #[] 1537 4 #[] #[])
  fields := #[]
  methods := #[]
  instanceTypes := #[]
  staticTypes := #[]
  resolved := Array.replicate 8 none
  statics := none }

/-- the primitive byte -/
def k6 : Class := { plain "byte" none with kind := .primitive 'B', accessFlags := 0x411 }
/-- [B -/
def k7 : Class := { plain "[B" (some 0) with kind := .array 6 .byte, interfaces := #[4, 5], accessFlags := 1041 }

/-- the primitive int -/
def k8 : Class := { plain "int" none with kind := .primitive 'I', accessFlags := 0x411 }
/-- [I -/
def k9 : Class := { plain "[I" (some 0) with kind := .array 8 .int, interfaces := #[4, 5], accessFlags := 1041 }

def heap : Heap := #[]
def classes : Array Class := #[k0, k1, k2, k3, k4, k5, k6, k7, k8, k9]
def interned : List (Array UInt16 × Addr) := []
def slotsUsed : Nat := 0
def theMethod : MethodId := ⟨1, 2⟩
def args0 : Array Value := #[.int 5, .int 7, .int 3, .int 4]
def aboutOver (below : List Frame) : State where
  vm := { classes := classes, interned := interned.toArray }
  heap := heap
  slotsUsed := slotsUsed
  threads := #[{ frames := .invoking theMethod args0 :: below }]
def below0 : List Frame := [.native { method := ⟨0, 0⟩, args := #[] }]
def about1 : State := aboutOver below0
def p0 : Program := .bare "" "" ""
def e0 : Env := launch0.env 0 0 0
theorem w_frames : about1.frames = Frame.invoking theMethod args0 :: below0 := rfl
set_option maxRecDepth 65536 in
theorem w_args : argsFit about1.vm theMethod args0 = true := by decide +kernel
set_option maxRecDepth 65536 in
theorem w_heap : heapFits about1 = true := by decide +kernel
set_option maxRecDepth 65536 in
theorem w_runnable : about1.curStatus? = some .runnable := by decide +kernel
set_option maxRecDepth 65536 in
theorem w_alone : about1.alone = true := by decide +kernel
set_option maxRecDepth 65536 in
theorem w_named : about1.methodNamed? x = some theMethod := by decide +kernel
set_option maxRecDepth 65536 in
theorem w_hears : about1.hears theMethod below0 = true := by decide +kernel
set_option maxRecDepth 65536 in
theorem w_ripe : about1.ripe theMethod args0 below0 = true := by decide +kernel
theorem w_running : about1.status = .running := rfl
set_option maxRecDepth 65536 in
theorem w_room : about1.hasRoom e0.platform room_1 = true :=
  launch0.hasRoom_least _ room_1 (by decide +kernel) (by decide +kernel) (by decide +kernel) (by decide +kernel) (by decide +kernel) (by decide +kernel)
theorem allAtoms_all (ts : List Jvm.Cond) (a : Array Jvm.Value) (st : Jvm.State) : (allAtoms ts).before a st = ts.all (fun c => c.before a st) := by
  induction ts with
  | nil => rfl
  | cons c t ih =>
    show (Jvm.Cond.and c (allAtoms t)).before a st = _
    rw [Jvm.Cond.before_and, ih, List.all_cons]
def words1 : List Jvm.Cond := Jvm.Cond.code x code maxLocals ret :: tables_1
/-- a 'code' word, met by the world's own term for the bytes: nothing is compared byte by byte -/
theorem code_word {y : MethodName} {bytes : ByteArray} {mx : Nat} {rt : Option FieldType} {a : Array Value} {s : State} {m : MethodId} {meth : Method} {c : Code} (h1 : s.methodNamed? y = some m) (h2 : s.vm.method? m = some meth) (h3 : meth.code = some c) (h4 : c.code = bytes)
    (h5 : (c.maxLocals == mx && c.exceptionTable.isEmpty && decide (c.maxStack ≤ mostOperands) && decide (meth.sig.returnType = rt) && !meth.locks && decide (parseMethodDescriptor y.desc = some meth.sig)) = true) : (Jvm.Cond.code y bytes mx rt).before a s = true := by
  simp only [Bool.and_eq_true, beq_iff_eq, Bool.not_eq_true', decide_eq_true_eq] at h5
  obtain ⟨⟨⟨⟨⟨g1, g2⟩, g3⟩, g4⟩, g5⟩, g6⟩ := h5
  simp [Cond.before, Cond.holds, Cond.value, h1, h2, h3, h4, g1, g2, g3, g4, g5, g6]
def isCode : Jvm.Cond → Bool
  | .code _ _ _ _ => true
  | _ => false
theorem all_split {L : List Jvm.Cond} {P : Jvm.Cond → Bool} (h1 : L.all (fun c => isCode c || P c) = true) (h2 : ∀ c ∈ L.filter isCode, P c = true) : L.all P = true := by
  refine List.all_eq_true.mpr fun c hc => ?_
  have h := List.all_eq_true.mp h1 c hc
  rcases Bool.eq_false_or_eq_true (isCode c) with hi | hi
  · exact h2 c (List.mem_filter.mpr ⟨hc, hi⟩)
  · simpa [hi] using h
set_option maxRecDepth 65536 in
theorem w_c0 : (Jvm.Cond.code x code maxLocals ret).before args0 about1 = true := code_word (m := ⟨1, 2⟩) (meth := k1m2) (c := k1c2) (by decide +kernel) rfl rfl rfl (by decide +kernel)
set_option maxRecDepth 65536 in
theorem w_c1 : (Jvm.Cond.code ({ cls := "com/example/assay/assay/dns/Answer", name := "answers", desc := "([B[BI)Z" } : Jvm.MethodName) prog_26_method_2_code (3 : Nat) (Option.some Jvm.ClassFile.FieldType.boolean)).before args0 about1 = true := code_word (m := ⟨3, 0⟩) (meth := k3m0) (c := k3c0) (by decide +kernel) rfl rfl rfl (by decide +kernel)
set_option maxRecDepth 65536 in
theorem w_c2 : (Jvm.Cond.code ({ cls := "com/example/assay/assay/dns/AnswerAnswersPinLaw", name := "id", desc := "(BB)I" } : Jvm.MethodName) method_2_code (2 : Nat) (Option.some Jvm.ClassFile.FieldType.int)).before args0 about1 = true := code_word (m := ⟨1, 1⟩) (meth := k1m1) (c := k1c1) (by decide +kernel) rfl rfl rfl (by decide +kernel)
def codes1 : List Jvm.Cond := [Jvm.Cond.code x code maxLocals ret, Jvm.Cond.code ({ cls := "com/example/assay/assay/dns/Answer", name := "answers", desc := "([B[BI)Z" } : Jvm.MethodName) prog_26_method_2_code (3 : Nat) (Option.some Jvm.ClassFile.FieldType.boolean), Jvm.Cond.code ({ cls := "com/example/assay/assay/dns/AnswerAnswersPinLaw", name := "id", desc := "(BB)I" } : Jvm.MethodName) method_2_code (2 : Nat) (Option.some Jvm.ClassFile.FieldType.int)]
set_option maxRecDepth 65536 in
theorem codes_eq : words1.filter isCode = codes1 := rfl
theorem w_codes : ∀ c ∈ words1.filter isCode, c.before args0 about1 = true := by
  rw [codes_eq]
  intro c hc
  simp only [codes1, List.mem_cons, List.not_mem_nil, or_false] at hc
  rcases hc with rfl | rfl | rfl
  · exact w_c0
  · exact w_c1
  · exact w_c2
set_option maxRecDepth 65536 in
theorem w_t1 : words1.all (fun c => isCode c || c.before args0 about1) = true := by decide +kernel
theorem w_tables : (allAtoms (Jvm.Cond.code x code maxLocals ret :: tables_1)).before args0 about1 = true := by
  rw [allAtoms_all]
  show words1.all (fun c => c.before args0 about1) = true
  refine all_split ?_ w_codes
  rw [w_t1]
set_option maxRecDepth 65536 in
theorem w_case : (Jvm.Cond.and given_1 narrow_1).before args0 about1 = true := by decide +kernel
theorem w_applies : (headSpec (Jvm.Cond.code x code maxLocals ret :: tables_1) room_1).applies x e0.platform about1 = true :=
  (Spec.applies_iff w_frames).mpr ⟨w_running, w_runnable, w_alone, w_named, w_hears, w_ripe, w_room, w_tables⟩
theorem atStart : AtStart classFile x code maxLocals ret World_1 tables_1 room_1 Calls_1 rest_1 Pre_1 launch0 p0 e0 about1 theMethod args0 below0 :=
  ⟨lists_1, trivial, launch0.admits_env _ _ _, launch0.least_env, fairChoices_fair.cas, fairChoices_fair.clock, w_frames, w_args, w_heap, w_applies, trivial, trivial, w_case⟩
end start1
theorem witness_1 : WitnessClaimed_1 := ⟨start1.p0, start1.e0, start1.about1, start1.theMethod, start1.args0, start1.below0, start1.atStart⟩
end Jvm.Pilot.@@N@@
