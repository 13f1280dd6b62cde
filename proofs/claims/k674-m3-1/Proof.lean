import JvmDerived
import JvmDerived.Pilot.@@N@@Statement
import JvmDerived.Pilot.@@N@@Code
set_option linter.unusedVariables false
set_option linter.unusedSimpArgs false
namespace Jvm.RoadKit
open Sem ClassFile Op Lib Jvm.Stand Jvm.Free Jvm.LawKit
section New
variable {p : Program} {l : Launch} {e : Env} {R : Room} {s : State} {m : MethodId} {args : Array Value} {below : List Frame} {meth : Method} {c : Code} {T : State} {locs : List Loc} {cells slots : Nat}
theorem retI (X : Stand p l e R s m args below meth c T locs cells slots) (hx : p.tables.exec = Jvm.exec) {pc : Nat} {Ls : Array Slot} {z : Int32} {rest : List Value} (hret : meth.sig.returnType = some .int) (hd : decode c.code pc = .ok (.ireturn, 1)) {fs : List Frame}
    (hl : ∀ (f : JFrame) (acts : List Action), f.method = m → f.locked = none → f.entered = [] → (doReturn e (T.setTop f) acts (some (.int z))).1 = T.setFrames fs) : Steps p.tables e below (T.setTop (mkF m pc Ls (.int z :: rest))) (T.setFrames fs) := by
  have hm' : T.vm.method? m = some meth := X.method'
  have hn : narrow .int (.int z) = .int z := rfl
  show Steps p.tables e below (T.setTop { method := m, pc := pc, locals := Ls, stack := _ :: rest, locked := none }) _
  jvm_step X.here [X.here.top, hx, hd, hm', hret, hn]
  first | (intro acts; rw [hl _ acts rfl rfl rfl]) | rw [hl _ _ rfl rfl rfl]
  exact Steps.refl _
end New
end Jvm.RoadKit
namespace Jvm.Pilot.@@N@@
open Jvm Jvm.ClassFile Sem Op Lib Jvm.Free Jvm.Stand Jvm.LawKit Jvm.RoadKit Bundle Jvm.Pilot.@@N@@.Jvm.D
def QP (w : Option Value) (h0 : Heap) (n0 : Nat) (v : Option Value) (h : Heap) (L : List Loc) : Prop := v = w ∧ Fr n0 L ∧ h = h0
theorem own_eqi {args : Array Value} {first s : State} {o : Option Outcome} {idx : List Nat} {t : Term} {k : Int32} (h : (Jvm.Cond.eq t (.int k)).value args first o s idx = some true) : t.eval args first o idx s = some (.int k) := by
  simp only [Cond.value, Term.eval] at h
  cases ht : t.eval args first o idx s with
  | none => simp [ht] at h
  | some x => cases x <;> simp [ht] at h ⊢ <;> exact h
theorem d1_0 : decode method_3_code 0 = .ok (.iload_n 0, 1) := by decide +kernel
theorem d1_1 : decode method_3_code 1 = .ok (.ifCond .ne 7, 3) := by decide +kernel
theorem d1_4 : decode method_3_code 4 = .ok (.getstatic 20, 3) := by decide +kernel
theorem d1_7 : decode method_3_code 7 = .ok (.areturn, 1) := by decide +kernel
theorem d1_8 : decode method_3_code 8 = .ok (.iload_n 0, 1) := by decide +kernel
theorem d1_9 : decode method_3_code 9 = .ok (.iconst 1, 1) := by decide +kernel
theorem d1_10 : decode method_3_code 10 = .ok (.if_icmp .ne 7, 3) := by decide +kernel
theorem d1_13 : decode method_3_code 13 = .ok (.getstatic 24, 3) := by decide +kernel
theorem d1_16 : decode method_3_code 16 = .ok (.areturn, 1) := by decide +kernel
theorem d1_17 : decode method_3_code 17 = .ok (.iload_n 0, 1) := by decide +kernel
theorem d1_18 : decode method_3_code 18 = .ok (.iconst 2, 1) := by decide +kernel
theorem d1_19 : decode method_3_code 19 = .ok (.if_icmp .ne 7, 3) := by decide +kernel
theorem d1_22 : decode method_3_code 22 = .ok (.getstatic 27, 3) := by decide +kernel
theorem d1_25 : decode method_3_code 25 = .ok (.areturn, 1) := by decide +kernel
theorem d1_26 : decode method_3_code 26 = .ok (.iload_n 0, 1) := by decide +kernel
theorem d1_27 : decode method_3_code 27 = .ok (.iconst 3, 1) := by decide +kernel
theorem d1_28 : decode method_3_code 28 = .ok (.if_icmp .ne 7, 3) := by decide +kernel
theorem d1_31 : decode method_3_code 31 = .ok (.getstatic 30, 3) := by decide +kernel
theorem d1_34 : decode method_3_code 34 = .ok (.areturn, 1) := by decide +kernel
theorem d1_35 : decode method_3_code 35 = .ok (.iload_n 0, 1) := by decide +kernel
theorem d1_36 : decode method_3_code 36 = .ok (.iconst 4, 1) := by decide +kernel
theorem d1_37 : decode method_3_code 37 = .ok (.if_icmp .ne 7, 3) := by decide +kernel
theorem d1_40 : decode method_3_code 40 = .ok (.getstatic 33, 3) := by decide +kernel
theorem d1_43 : decode method_3_code 43 = .ok (.areturn, 1) := by decide +kernel
theorem d1_44 : decode method_3_code 44 = .ok (.iload_n 0, 1) := by decide +kernel
theorem d1_45 : decode method_3_code 45 = .ok (.iconst 5, 1) := by decide +kernel
theorem d1_46 : decode method_3_code 46 = .ok (.if_icmp .ne 7, 3) := by decide +kernel
theorem d1_49 : decode method_3_code 49 = .ok (.getstatic 36, 3) := by decide +kernel
theorem d1_52 : decode method_3_code 52 = .ok (.areturn, 1) := by decide +kernel
theorem d1_53 : decode method_3_code 53 = .ok (.iload_n 0, 1) := by decide +kernel
theorem d1_54 : decode method_3_code 54 = .ok (.bipush 6, 2) := by decide +kernel
theorem d1_56 : decode method_3_code 56 = .ok (.if_icmp .ne 7, 3) := by decide +kernel
theorem d1_59 : decode method_3_code 59 = .ok (.getstatic 39, 3) := by decide +kernel
theorem d1_62 : decode method_3_code 62 = .ok (.areturn, 1) := by decide +kernel
theorem d1_63 : decode method_3_code 63 = .ok (.iload_n 0, 1) := by decide +kernel
theorem d1_64 : decode method_3_code 64 = .ok (.bipush 7, 2) := by decide +kernel
theorem d1_66 : decode method_3_code 66 = .ok (.if_icmp .ne 7, 3) := by decide +kernel
theorem d1_69 : decode method_3_code 69 = .ok (.getstatic 42, 3) := by decide +kernel
theorem d1_72 : decode method_3_code 72 = .ok (.areturn, 1) := by decide +kernel
theorem d1_73 : decode method_3_code 73 = .ok (.iload_n 0, 1) := by decide +kernel
theorem d1_74 : decode method_3_code 74 = .ok (.bipush 8, 2) := by decide +kernel
theorem d1_76 : decode method_3_code 76 = .ok (.if_icmp .ne 7, 3) := by decide +kernel
theorem d1_79 : decode method_3_code 79 = .ok (.getstatic 45, 3) := by decide +kernel
theorem d1_82 : decode method_3_code 82 = .ok (.areturn, 1) := by decide +kernel
theorem d1_83 : decode method_3_code 83 = .ok (.iload_n 0, 1) := by decide +kernel
theorem d1_84 : decode method_3_code 84 = .ok (.bipush 9, 2) := by decide +kernel
theorem d1_86 : decode method_3_code 86 = .ok (.if_icmp .ne 7, 3) := by decide +kernel
theorem d1_89 : decode method_3_code 89 = .ok (.getstatic 48, 3) := by decide +kernel
theorem d1_92 : decode method_3_code 92 = .ok (.areturn, 1) := by decide +kernel
theorem d1_93 : decode method_3_code 93 = .ok (.getstatic 51, 3) := by decide +kernel
theorem d1_96 : decode method_3_code 96 = .ok (.areturn, 1) := by decide +kernel
theorem pn_1 : plainName "com/example/lendscribe/lendscribe/read/KindIsEndPinLaw" = true := by first | (simp [plainName, overriddenIn]; done) | decide +kernel
theorem ef_1 (m : MethodId) (x0 : Int32) : entryFrame m #[(.int x0)] 1 = mkF m 0 #[.val (.int x0)] [] := by first | (simp [entryFrame, mkF, argsToLocals, Value.category]; done) | rfl
def f1 (p1 : Int32) (w_START_OBJECT : Addr) (w_END_OBJECT : Addr) (w_START_ARRAY : Addr) (w_END_ARRAY : Addr) (w_FIELD_NAME : Addr) (w_STRING : Addr) (w_INTEGER : Addr) (w_DECIMAL : Addr) (w_TRUE : Addr) (w_FALSE : Addr) (w_NULL : Addr) : Addr := (if p1 = (0 : Int32) then w_START_OBJECT else (if p1 = (1 : Int32) then w_END_OBJECT else (if p1 = (2 : Int32) then w_START_ARRAY else (if p1 = (3 : Int32) then w_END_ARRAY else (if p1 = (4 : Int32) then w_FIELD_NAME else (if p1 = (5 : Int32) then w_STRING else (if p1 = (6 : Int32) then w_INTEGER else (if p1 = (7 : Int32) then w_DECIMAL else (if p1 = (8 : Int32) then w_TRUE else (if p1 = (9 : Int32) then w_FALSE else w_NULL))))))))))
set_option maxRecDepth 65536 in
set_option maxHeartbeats 40000000 in
theorem rm1 (l : Launch) (Z : State) (a0 : Array Value) (hw : ∀ d ∈ tables_1, d.before a0 Z = true) (ws : List Jvm.Cond) (p1 : Int32) (w_START_OBJECT : Addr) (w_END_OBJECT : Addr) (w_START_ARRAY : Addr) (w_END_ARRAY : Addr) (w_FIELD_NAME : Addr) (w_STRING : Addr) (w_INTEGER : Addr) (w_DECIMAL : Addr) (w_TRUE : Addr) (w_FALSE : Addr) (w_NULL : Addr) (h0 : Heap) (n0 : Nat) (Z0 : n0 ≤ h0.size) (S_START_OBJECT : Sta Z h0 "com/example/lendscribe/lendscribe/read/JsonScanner$Kind" "START_OBJECT" "Lcom/example/lendscribe/lendscribe/read/JsonScanner$Kind;" (.ref w_START_OBJECT)) (S_END_OBJECT : Sta Z h0 "com/example/lendscribe/lendscribe/read/JsonScanner$Kind" "END_OBJECT" "Lcom/example/lendscribe/lendscribe/read/JsonScanner$Kind;" (.ref w_END_OBJECT)) (S_START_ARRAY : Sta Z h0 "com/example/lendscribe/lendscribe/read/JsonScanner$Kind" "START_ARRAY" "Lcom/example/lendscribe/lendscribe/read/JsonScanner$Kind;" (.ref w_START_ARRAY)) (S_END_ARRAY : Sta Z h0 "com/example/lendscribe/lendscribe/read/JsonScanner$Kind" "END_ARRAY" "Lcom/example/lendscribe/lendscribe/read/JsonScanner$Kind;" (.ref w_END_ARRAY)) (S_FIELD_NAME : Sta Z h0 "com/example/lendscribe/lendscribe/read/JsonScanner$Kind" "FIELD_NAME" "Lcom/example/lendscribe/lendscribe/read/JsonScanner$Kind;" (.ref w_FIELD_NAME)) (S_STRING : Sta Z h0 "com/example/lendscribe/lendscribe/read/JsonScanner$Kind" "STRING" "Lcom/example/lendscribe/lendscribe/read/JsonScanner$Kind;" (.ref w_STRING)) (S_INTEGER : Sta Z h0 "com/example/lendscribe/lendscribe/read/JsonScanner$Kind" "INTEGER" "Lcom/example/lendscribe/lendscribe/read/JsonScanner$Kind;" (.ref w_INTEGER)) (S_DECIMAL : Sta Z h0 "com/example/lendscribe/lendscribe/read/JsonScanner$Kind" "DECIMAL" "Lcom/example/lendscribe/lendscribe/read/JsonScanner$Kind;" (.ref w_DECIMAL)) (S_TRUE : Sta Z h0 "com/example/lendscribe/lendscribe/read/JsonScanner$Kind" "TRUE" "Lcom/example/lendscribe/lendscribe/read/JsonScanner$Kind;" (.ref w_TRUE)) (S_FALSE : Sta Z h0 "com/example/lendscribe/lendscribe/read/JsonScanner$Kind" "FALSE" "Lcom/example/lendscribe/lendscribe/read/JsonScanner$Kind;" (.ref w_FALSE)) (S_NULL : Sta Z h0 "com/example/lendscribe/lendscribe/read/JsonScanner$Kind" "NULL" "Lcom/example/lendscribe/lendscribe/read/JsonScanner$Kind;" (.ref w_NULL)) :
    MetFree l (⟨"com/example/lendscribe/lendscribe/read/KindIsEndPinLaw", "pick", "(I)Lcom/example/lendscribe/lendscribe/read/JsonScanner$Kind;"⟩ : MethodName) (head1 (Jvm.Cond.code (⟨"com/example/lendscribe/lendscribe/read/KindIsEndPinLaw", "pick", "(I)Lcom/example/lendscribe/lendscribe/read/JsonScanner$Kind;"⟩ : MethodName) method_3_code 1 (some (.object "com/example/lendscribe/lendscribe/read/JsonScanner$Kind")) :: ws) ({ frames := 0, cells := 0, slots := 0, locals := 0 } : Room)) (fun a U => a = #[(.int p1)] ∧ Z.Warmed39 U.vm ∧ U.heap = h0) (fun _ _ _ _ _ => True) (fun _ U o U' => ∃ v L, o = .returned v ∧ QP (some (.ref (f1 p1 w_START_OBJECT w_END_OBJECT w_START_ARRAY w_END_ARRAY w_FIELD_NAME w_STRING w_INTEGER w_DECIMAL w_TRUE w_FALSE w_NULL))) h0 n0 v U'.heap L ∧ FrameEnd U o U' L ({ frames := 0, cells := 0, slots := 0, locals := 0 } : Room).cells ({ frames := 0, cells := 0, slots := 0, locals := 0 } : Room).slots) := by
  refine MetFree.of_bodySF (plainFor_of_name pn_1) hisR ?_
  intro p e s m args below meth c s₁ Bd hml0 hP hK
  obtain ⟨rfl, hZ, hh⟩ := hP
  have hx := Bd.exec
  have hby := Bd.bytes
  have hml : c.maxLocals = 1 := hml0
  have hown : s.vm.findClass "com/example/lendscribe/lendscribe/read/KindIsEndPinLaw" = some m.cls := findClass_of_methodNamed Bd.named
  have hnm := (name_of_methodNamed Bd.named Bd.method).1
  have X0 : Stand p l e ({ frames := 0, cells := 0, slots := 0, locals := 0 } : Room) s m #[(.int p1)] below meth c s₁ [] 0 0 := Stand.of_body Bd
  have e0 : s₁.heap = h0 := by rw [← hh, Bd.state]; rfl
  have N0 := Fr.nil n0
  have pre0 : ∀ t, Steps p.tables e below (s₁.setTop (mkF m 0 #[.val (.int p1)] [])) t → Steps p.tables e below (s₁.setTop (entryFrame m #[(.int p1)] 1)) t := fun t k => castTop (ef_1 m p1) k
  have pre2 : ∀ t, Steps p.tables e below (s₁.setTop (mkF m 1 #[.val (.int p1)] [(.int p1)])) t → Steps p.tables e below (s₁.setTop (entryFrame m #[(.int p1)] 1)) t := fun t k => by
    refine pre0 _ ?_
    show Steps p.tables e below (s₁.setTop (mkF m 0 #[.val (.int p1)] [])) _
    refine XS.iloadN X0.here hx rfl (hb hby d1_0) rfl ?_
    exact k
  by_cases hc1 : p1 = (0 : Int32)
  · obtain ⟨T3, X3, e3, st3⟩ := getS2 X0 hx hZ hown (host := "") (Or.inl (hw _ (List.mem_of_getElem? (i := 5) rfl))) Via.refl e0 S_START_OBJECT (g := (mkF m 4 #[.val (.int p1)] [])) rfl (hb hby d1_4)
    obtain ⟨fs, hr, hrun, hended, hW, hsame⟩ := X3.leave (v := some (.ref w_START_OBJECT)) (fun h => by rw [Bd.returns] at h; cases h)
    refine ⟨_, _, pre2 _ ?_, hrun, hended, _, _, rfl, ?_, ⟨_, rfl⟩, hW, hsame.mono (by decide) (by decide)⟩
    · show Steps p.tables e below (s₁.setTop (mkF m 1 #[.val (.int p1)] [(.int p1)])) _
      refine XS.ifNo X0.here hx rfl (hb hby d1_1) rfl ((if0 _ _).trans (teq hc1).2) ?_
      show Steps p.tables e below (s₁.setTop (mkF m 4 #[.val (.int p1)] [])) _
      refine st3 _ ?_
      show Steps p.tables e below (T3.setTop (mkF m 7 #[.val (.int p1)] [(.ref w_START_OBJECT)])) _
      jvm_step X3.here [X3.here.top, hx, (hb hby d1_7), X3.method', Bd.returns, Value.isRef, FieldType.isReference]
      first | (intro acts; rw [hr _ acts rfl rfl rfl]) | rw [hr _ _ rfl rfl rfl]
      exact Steps.refl _
    · show QP _ h0 n0 _ T3.heap _
      rw [e3, show f1 p1 w_START_OBJECT w_END_OBJECT w_START_ARRAY w_END_ARRAY w_FIELD_NAME w_STRING w_INTEGER w_DECIMAL w_TRUE w_FALSE w_NULL = w_START_OBJECT from by unfold f1; rw [if_pos hc1]]
      exact ⟨rfl, N0, rfl⟩
  · have pre5 : ∀ t, Steps p.tables e below (s₁.setTop (mkF m 10 #[.val (.int p1)] [(.int (1 : Int32)), (.int p1)])) t → Steps p.tables e below (s₁.setTop (entryFrame m #[(.int p1)] 1)) t := fun t k => by
      refine pre2 _ ?_
      show Steps p.tables e below (s₁.setTop (mkF m 1 #[.val (.int p1)] [(.int p1)])) _
      refine XS.ifYes X0.here hx rfl (pc0 := 1) (pc' := 8) rfl (hb hby d1_1) rfl ((if0 _ _).trans (feq hc1).2) (by decide) (by decide) ?_
      show Steps p.tables e below (s₁.setTop (mkF m 8 #[.val (.int p1)] [])) _
      refine XS.iloadN X0.here hx rfl (hb hby d1_8) rfl ?_
      show Steps p.tables e below (s₁.setTop (mkF m 9 #[.val (.int p1)] [(.int p1)])) _
      refine XS.iconst X0.here hx rfl (hb hby d1_9) ?_
      exact k
    by_cases hc4 : p1 = (1 : Int32)
    · obtain ⟨T6, X6, e6, st6⟩ := getS2 X0 hx hZ hown (host := "") (Or.inl (hw _ (List.mem_of_getElem? (i := 26) rfl))) Via.refl e0 S_END_OBJECT (g := (mkF m 13 #[.val (.int p1)] [])) rfl (hb hby d1_13)
      obtain ⟨fs, hr, hrun, hended, hW, hsame⟩ := X6.leave (v := some (.ref w_END_OBJECT)) (fun h => by rw [Bd.returns] at h; cases h)
      refine ⟨_, _, pre5 _ ?_, hrun, hended, _, _, rfl, ?_, ⟨_, rfl⟩, hW, hsame.mono (by decide) (by decide)⟩
      · show Steps p.tables e below (s₁.setTop (mkF m 10 #[.val (.int p1)] [(.int (1 : Int32)), (.int p1)])) _
        refine XS.icmpNo X0.here hx rfl (hb hby d1_10) rfl (teq hc4).2 ?_
        show Steps p.tables e below (s₁.setTop (mkF m 13 #[.val (.int p1)] [])) _
        refine st6 _ ?_
        show Steps p.tables e below (T6.setTop (mkF m 16 #[.val (.int p1)] [(.ref w_END_OBJECT)])) _
        jvm_step X6.here [X6.here.top, hx, (hb hby d1_16), X6.method', Bd.returns, Value.isRef, FieldType.isReference]
        first | (intro acts; rw [hr _ acts rfl rfl rfl]) | rw [hr _ _ rfl rfl rfl]
        exact Steps.refl _
      · show QP _ h0 n0 _ T6.heap _
        rw [e6, show f1 p1 w_START_OBJECT w_END_OBJECT w_START_ARRAY w_END_ARRAY w_FIELD_NAME w_STRING w_INTEGER w_DECIMAL w_TRUE w_FALSE w_NULL = w_END_OBJECT from by unfold f1; rw [if_neg hc1, if_pos hc4]]
        exact ⟨rfl, N0, rfl⟩
    · have pre8 : ∀ t, Steps p.tables e below (s₁.setTop (mkF m 19 #[.val (.int p1)] [(.int (2 : Int32)), (.int p1)])) t → Steps p.tables e below (s₁.setTop (entryFrame m #[(.int p1)] 1)) t := fun t k => by
        refine pre5 _ ?_
        show Steps p.tables e below (s₁.setTop (mkF m 10 #[.val (.int p1)] [(.int (1 : Int32)), (.int p1)])) _
        refine XS.icmpYes X0.here hx rfl (pc0 := 10) (pc' := 17) rfl (hb hby d1_10) rfl (feq hc4).2 (by decide) (by decide) ?_
        show Steps p.tables e below (s₁.setTop (mkF m 17 #[.val (.int p1)] [])) _
        refine XS.iloadN X0.here hx rfl (hb hby d1_17) rfl ?_
        show Steps p.tables e below (s₁.setTop (mkF m 18 #[.val (.int p1)] [(.int p1)])) _
        refine XS.iconst X0.here hx rfl (hb hby d1_18) ?_
        exact k
      by_cases hc7 : p1 = (2 : Int32)
      · obtain ⟨T9, X9, e9, st9⟩ := getS2 X0 hx hZ hown (host := "") (Or.inl (hw _ (List.mem_of_getElem? (i := 22) rfl))) Via.refl e0 S_START_ARRAY (g := (mkF m 22 #[.val (.int p1)] [])) rfl (hb hby d1_22)
        obtain ⟨fs, hr, hrun, hended, hW, hsame⟩ := X9.leave (v := some (.ref w_START_ARRAY)) (fun h => by rw [Bd.returns] at h; cases h)
        refine ⟨_, _, pre8 _ ?_, hrun, hended, _, _, rfl, ?_, ⟨_, rfl⟩, hW, hsame.mono (by decide) (by decide)⟩
        · show Steps p.tables e below (s₁.setTop (mkF m 19 #[.val (.int p1)] [(.int (2 : Int32)), (.int p1)])) _
          refine XS.icmpNo X0.here hx rfl (hb hby d1_19) rfl (teq hc7).2 ?_
          show Steps p.tables e below (s₁.setTop (mkF m 22 #[.val (.int p1)] [])) _
          refine st9 _ ?_
          show Steps p.tables e below (T9.setTop (mkF m 25 #[.val (.int p1)] [(.ref w_START_ARRAY)])) _
          jvm_step X9.here [X9.here.top, hx, (hb hby d1_25), X9.method', Bd.returns, Value.isRef, FieldType.isReference]
          first | (intro acts; rw [hr _ acts rfl rfl rfl]) | rw [hr _ _ rfl rfl rfl]
          exact Steps.refl _
        · show QP _ h0 n0 _ T9.heap _
          rw [e9, show f1 p1 w_START_OBJECT w_END_OBJECT w_START_ARRAY w_END_ARRAY w_FIELD_NAME w_STRING w_INTEGER w_DECIMAL w_TRUE w_FALSE w_NULL = w_START_ARRAY from by unfold f1; rw [if_neg hc1, if_neg hc4, if_pos hc7]]
          exact ⟨rfl, N0, rfl⟩
      · have pre11 : ∀ t, Steps p.tables e below (s₁.setTop (mkF m 28 #[.val (.int p1)] [(.int (3 : Int32)), (.int p1)])) t → Steps p.tables e below (s₁.setTop (entryFrame m #[(.int p1)] 1)) t := fun t k => by
          refine pre8 _ ?_
          show Steps p.tables e below (s₁.setTop (mkF m 19 #[.val (.int p1)] [(.int (2 : Int32)), (.int p1)])) _
          refine XS.icmpYes X0.here hx rfl (pc0 := 19) (pc' := 26) rfl (hb hby d1_19) rfl (feq hc7).2 (by decide) (by decide) ?_
          show Steps p.tables e below (s₁.setTop (mkF m 26 #[.val (.int p1)] [])) _
          refine XS.iloadN X0.here hx rfl (hb hby d1_26) rfl ?_
          show Steps p.tables e below (s₁.setTop (mkF m 27 #[.val (.int p1)] [(.int p1)])) _
          refine XS.iconst X0.here hx rfl (hb hby d1_27) ?_
          exact k
        by_cases hc10 : p1 = (3 : Int32)
        · obtain ⟨T12, X12, e12, st12⟩ := getS2 X0 hx hZ hown (host := "") (Or.inl (hw _ (List.mem_of_getElem? (i := 17) rfl))) Via.refl e0 S_END_ARRAY (g := (mkF m 31 #[.val (.int p1)] [])) rfl (hb hby d1_31)
          obtain ⟨fs, hr, hrun, hended, hW, hsame⟩ := X12.leave (v := some (.ref w_END_ARRAY)) (fun h => by rw [Bd.returns] at h; cases h)
          refine ⟨_, _, pre11 _ ?_, hrun, hended, _, _, rfl, ?_, ⟨_, rfl⟩, hW, hsame.mono (by decide) (by decide)⟩
          · show Steps p.tables e below (s₁.setTop (mkF m 28 #[.val (.int p1)] [(.int (3 : Int32)), (.int p1)])) _
            refine XS.icmpNo X0.here hx rfl (hb hby d1_28) rfl (teq hc10).2 ?_
            show Steps p.tables e below (s₁.setTop (mkF m 31 #[.val (.int p1)] [])) _
            refine st12 _ ?_
            show Steps p.tables e below (T12.setTop (mkF m 34 #[.val (.int p1)] [(.ref w_END_ARRAY)])) _
            jvm_step X12.here [X12.here.top, hx, (hb hby d1_34), X12.method', Bd.returns, Value.isRef, FieldType.isReference]
            first | (intro acts; rw [hr _ acts rfl rfl rfl]) | rw [hr _ _ rfl rfl rfl]
            exact Steps.refl _
          · show QP _ h0 n0 _ T12.heap _
            rw [e12, show f1 p1 w_START_OBJECT w_END_OBJECT w_START_ARRAY w_END_ARRAY w_FIELD_NAME w_STRING w_INTEGER w_DECIMAL w_TRUE w_FALSE w_NULL = w_END_ARRAY from by unfold f1; rw [if_neg hc1, if_neg hc4, if_neg hc7, if_pos hc10]]
            exact ⟨rfl, N0, rfl⟩
        · have pre14 : ∀ t, Steps p.tables e below (s₁.setTop (mkF m 37 #[.val (.int p1)] [(.int (4 : Int32)), (.int p1)])) t → Steps p.tables e below (s₁.setTop (entryFrame m #[(.int p1)] 1)) t := fun t k => by
            refine pre11 _ ?_
            show Steps p.tables e below (s₁.setTop (mkF m 28 #[.val (.int p1)] [(.int (3 : Int32)), (.int p1)])) _
            refine XS.icmpYes X0.here hx rfl (pc0 := 28) (pc' := 35) rfl (hb hby d1_28) rfl (feq hc10).2 (by decide) (by decide) ?_
            show Steps p.tables e below (s₁.setTop (mkF m 35 #[.val (.int p1)] [])) _
            refine XS.iloadN X0.here hx rfl (hb hby d1_35) rfl ?_
            show Steps p.tables e below (s₁.setTop (mkF m 36 #[.val (.int p1)] [(.int p1)])) _
            refine XS.iconst X0.here hx rfl (hb hby d1_36) ?_
            exact k
          by_cases hc13 : p1 = (4 : Int32)
          · obtain ⟨T15, X15, e15, st15⟩ := getS2 X0 hx hZ hown (host := "") (Or.inl (hw _ (List.mem_of_getElem? (i := 33) rfl))) Via.refl e0 S_FIELD_NAME (g := (mkF m 40 #[.val (.int p1)] [])) rfl (hb hby d1_40)
            obtain ⟨fs, hr, hrun, hended, hW, hsame⟩ := X15.leave (v := some (.ref w_FIELD_NAME)) (fun h => by rw [Bd.returns] at h; cases h)
            refine ⟨_, _, pre14 _ ?_, hrun, hended, _, _, rfl, ?_, ⟨_, rfl⟩, hW, hsame.mono (by decide) (by decide)⟩
            · show Steps p.tables e below (s₁.setTop (mkF m 37 #[.val (.int p1)] [(.int (4 : Int32)), (.int p1)])) _
              refine XS.icmpNo X0.here hx rfl (hb hby d1_37) rfl (teq hc13).2 ?_
              show Steps p.tables e below (s₁.setTop (mkF m 40 #[.val (.int p1)] [])) _
              refine st15 _ ?_
              show Steps p.tables e below (T15.setTop (mkF m 43 #[.val (.int p1)] [(.ref w_FIELD_NAME)])) _
              jvm_step X15.here [X15.here.top, hx, (hb hby d1_43), X15.method', Bd.returns, Value.isRef, FieldType.isReference]
              first | (intro acts; rw [hr _ acts rfl rfl rfl]) | rw [hr _ _ rfl rfl rfl]
              exact Steps.refl _
            · show QP _ h0 n0 _ T15.heap _
              rw [e15, show f1 p1 w_START_OBJECT w_END_OBJECT w_START_ARRAY w_END_ARRAY w_FIELD_NAME w_STRING w_INTEGER w_DECIMAL w_TRUE w_FALSE w_NULL = w_FIELD_NAME from by unfold f1; rw [if_neg hc1, if_neg hc4, if_neg hc7, if_neg hc10, if_pos hc13]]
              exact ⟨rfl, N0, rfl⟩
          · have pre17 : ∀ t, Steps p.tables e below (s₁.setTop (mkF m 46 #[.val (.int p1)] [(.int (5 : Int32)), (.int p1)])) t → Steps p.tables e below (s₁.setTop (entryFrame m #[(.int p1)] 1)) t := fun t k => by
              refine pre14 _ ?_
              show Steps p.tables e below (s₁.setTop (mkF m 37 #[.val (.int p1)] [(.int (4 : Int32)), (.int p1)])) _
              refine XS.icmpYes X0.here hx rfl (pc0 := 37) (pc' := 44) rfl (hb hby d1_37) rfl (feq hc13).2 (by decide) (by decide) ?_
              show Steps p.tables e below (s₁.setTop (mkF m 44 #[.val (.int p1)] [])) _
              refine XS.iloadN X0.here hx rfl (hb hby d1_44) rfl ?_
              show Steps p.tables e below (s₁.setTop (mkF m 45 #[.val (.int p1)] [(.int p1)])) _
              refine XS.iconst X0.here hx rfl (hb hby d1_45) ?_
              exact k
            by_cases hc16 : p1 = (5 : Int32)
            · obtain ⟨T18, X18, e18, st18⟩ := getS2 X0 hx hZ hown (host := "") (Or.inl (hw _ (List.mem_of_getElem? (i := 29) rfl))) Via.refl e0 S_STRING (g := (mkF m 49 #[.val (.int p1)] [])) rfl (hb hby d1_49)
              obtain ⟨fs, hr, hrun, hended, hW, hsame⟩ := X18.leave (v := some (.ref w_STRING)) (fun h => by rw [Bd.returns] at h; cases h)
              refine ⟨_, _, pre17 _ ?_, hrun, hended, _, _, rfl, ?_, ⟨_, rfl⟩, hW, hsame.mono (by decide) (by decide)⟩
              · show Steps p.tables e below (s₁.setTop (mkF m 46 #[.val (.int p1)] [(.int (5 : Int32)), (.int p1)])) _
                refine XS.icmpNo X0.here hx rfl (hb hby d1_46) rfl (teq hc16).2 ?_
                show Steps p.tables e below (s₁.setTop (mkF m 49 #[.val (.int p1)] [])) _
                refine st18 _ ?_
                show Steps p.tables e below (T18.setTop (mkF m 52 #[.val (.int p1)] [(.ref w_STRING)])) _
                jvm_step X18.here [X18.here.top, hx, (hb hby d1_52), X18.method', Bd.returns, Value.isRef, FieldType.isReference]
                first | (intro acts; rw [hr _ acts rfl rfl rfl]) | rw [hr _ _ rfl rfl rfl]
                exact Steps.refl _
              · show QP _ h0 n0 _ T18.heap _
                rw [e18, show f1 p1 w_START_OBJECT w_END_OBJECT w_START_ARRAY w_END_ARRAY w_FIELD_NAME w_STRING w_INTEGER w_DECIMAL w_TRUE w_FALSE w_NULL = w_STRING from by unfold f1; rw [if_neg hc1, if_neg hc4, if_neg hc7, if_neg hc10, if_neg hc13, if_pos hc16]]
                exact ⟨rfl, N0, rfl⟩
            · have pre20 : ∀ t, Steps p.tables e below (s₁.setTop (mkF m 56 #[.val (.int p1)] [(.int (6 : Int32)), (.int p1)])) t → Steps p.tables e below (s₁.setTop (entryFrame m #[(.int p1)] 1)) t := fun t k => by
                refine pre17 _ ?_
                show Steps p.tables e below (s₁.setTop (mkF m 46 #[.val (.int p1)] [(.int (5 : Int32)), (.int p1)])) _
                refine XS.icmpYes X0.here hx rfl (pc0 := 46) (pc' := 53) rfl (hb hby d1_46) rfl (feq hc16).2 (by decide) (by decide) ?_
                show Steps p.tables e below (s₁.setTop (mkF m 53 #[.val (.int p1)] [])) _
                refine XS.iloadN X0.here hx rfl (hb hby d1_53) rfl ?_
                show Steps p.tables e below (s₁.setTop (mkF m 54 #[.val (.int p1)] [(.int p1)])) _
                refine XS.bipush X0.here hx rfl (hb hby d1_54) ?_
                exact k
              by_cases hc19 : p1 = (6 : Int32)
              · obtain ⟨T21, X21, e21, st21⟩ := getS2 X0 hx hZ hown (host := "") (Or.inl (hw _ (List.mem_of_getElem? (i := 31) rfl))) Via.refl e0 S_INTEGER (g := (mkF m 59 #[.val (.int p1)] [])) rfl (hb hby d1_59)
                obtain ⟨fs, hr, hrun, hended, hW, hsame⟩ := X21.leave (v := some (.ref w_INTEGER)) (fun h => by rw [Bd.returns] at h; cases h)
                refine ⟨_, _, pre20 _ ?_, hrun, hended, _, _, rfl, ?_, ⟨_, rfl⟩, hW, hsame.mono (by decide) (by decide)⟩
                · show Steps p.tables e below (s₁.setTop (mkF m 56 #[.val (.int p1)] [(.int (6 : Int32)), (.int p1)])) _
                  refine XS.icmpNo X0.here hx rfl (hb hby d1_56) rfl (teq hc19).2 ?_
                  show Steps p.tables e below (s₁.setTop (mkF m 59 #[.val (.int p1)] [])) _
                  refine st21 _ ?_
                  show Steps p.tables e below (T21.setTop (mkF m 62 #[.val (.int p1)] [(.ref w_INTEGER)])) _
                  jvm_step X21.here [X21.here.top, hx, (hb hby d1_62), X21.method', Bd.returns, Value.isRef, FieldType.isReference]
                  first | (intro acts; rw [hr _ acts rfl rfl rfl]) | rw [hr _ _ rfl rfl rfl]
                  exact Steps.refl _
                · show QP _ h0 n0 _ T21.heap _
                  rw [e21, show f1 p1 w_START_OBJECT w_END_OBJECT w_START_ARRAY w_END_ARRAY w_FIELD_NAME w_STRING w_INTEGER w_DECIMAL w_TRUE w_FALSE w_NULL = w_INTEGER from by unfold f1; rw [if_neg hc1, if_neg hc4, if_neg hc7, if_neg hc10, if_neg hc13, if_neg hc16, if_pos hc19]]
                  exact ⟨rfl, N0, rfl⟩
              · have pre23 : ∀ t, Steps p.tables e below (s₁.setTop (mkF m 66 #[.val (.int p1)] [(.int (7 : Int32)), (.int p1)])) t → Steps p.tables e below (s₁.setTop (entryFrame m #[(.int p1)] 1)) t := fun t k => by
                  refine pre20 _ ?_
                  show Steps p.tables e below (s₁.setTop (mkF m 56 #[.val (.int p1)] [(.int (6 : Int32)), (.int p1)])) _
                  refine XS.icmpYes X0.here hx rfl (pc0 := 56) (pc' := 63) rfl (hb hby d1_56) rfl (feq hc19).2 (by decide) (by decide) ?_
                  show Steps p.tables e below (s₁.setTop (mkF m 63 #[.val (.int p1)] [])) _
                  refine XS.iloadN X0.here hx rfl (hb hby d1_63) rfl ?_
                  show Steps p.tables e below (s₁.setTop (mkF m 64 #[.val (.int p1)] [(.int p1)])) _
                  refine XS.bipush X0.here hx rfl (hb hby d1_64) ?_
                  exact k
                by_cases hc22 : p1 = (7 : Int32)
                · obtain ⟨T24, X24, e24, st24⟩ := getS2 X0 hx hZ hown (host := "") (Or.inl (hw _ (List.mem_of_getElem? (i := 18) rfl))) Via.refl e0 S_DECIMAL (g := (mkF m 69 #[.val (.int p1)] [])) rfl (hb hby d1_69)
                  obtain ⟨fs, hr, hrun, hended, hW, hsame⟩ := X24.leave (v := some (.ref w_DECIMAL)) (fun h => by rw [Bd.returns] at h; cases h)
                  refine ⟨_, _, pre23 _ ?_, hrun, hended, _, _, rfl, ?_, ⟨_, rfl⟩, hW, hsame.mono (by decide) (by decide)⟩
                  · show Steps p.tables e below (s₁.setTop (mkF m 66 #[.val (.int p1)] [(.int (7 : Int32)), (.int p1)])) _
                    refine XS.icmpNo X0.here hx rfl (hb hby d1_66) rfl (teq hc22).2 ?_
                    show Steps p.tables e below (s₁.setTop (mkF m 69 #[.val (.int p1)] [])) _
                    refine st24 _ ?_
                    show Steps p.tables e below (T24.setTop (mkF m 72 #[.val (.int p1)] [(.ref w_DECIMAL)])) _
                    jvm_step X24.here [X24.here.top, hx, (hb hby d1_72), X24.method', Bd.returns, Value.isRef, FieldType.isReference]
                    first | (intro acts; rw [hr _ acts rfl rfl rfl]) | rw [hr _ _ rfl rfl rfl]
                    exact Steps.refl _
                  · show QP _ h0 n0 _ T24.heap _
                    rw [e24, show f1 p1 w_START_OBJECT w_END_OBJECT w_START_ARRAY w_END_ARRAY w_FIELD_NAME w_STRING w_INTEGER w_DECIMAL w_TRUE w_FALSE w_NULL = w_DECIMAL from by unfold f1; rw [if_neg hc1, if_neg hc4, if_neg hc7, if_neg hc10, if_neg hc13, if_neg hc16, if_neg hc19, if_pos hc22]]
                    exact ⟨rfl, N0, rfl⟩
                · have pre26 : ∀ t, Steps p.tables e below (s₁.setTop (mkF m 76 #[.val (.int p1)] [(.int (8 : Int32)), (.int p1)])) t → Steps p.tables e below (s₁.setTop (entryFrame m #[(.int p1)] 1)) t := fun t k => by
                    refine pre23 _ ?_
                    show Steps p.tables e below (s₁.setTop (mkF m 66 #[.val (.int p1)] [(.int (7 : Int32)), (.int p1)])) _
                    refine XS.icmpYes X0.here hx rfl (pc0 := 66) (pc' := 73) rfl (hb hby d1_66) rfl (feq hc22).2 (by decide) (by decide) ?_
                    show Steps p.tables e below (s₁.setTop (mkF m 73 #[.val (.int p1)] [])) _
                    refine XS.iloadN X0.here hx rfl (hb hby d1_73) rfl ?_
                    show Steps p.tables e below (s₁.setTop (mkF m 74 #[.val (.int p1)] [(.int p1)])) _
                    refine XS.bipush X0.here hx rfl (hb hby d1_74) ?_
                    exact k
                  by_cases hc25 : p1 = (8 : Int32)
                  · obtain ⟨T27, X27, e27, st27⟩ := getS2 X0 hx hZ hown (host := "") (Or.inl (hw _ (List.mem_of_getElem? (i := 20) rfl))) Via.refl e0 S_TRUE (g := (mkF m 79 #[.val (.int p1)] [])) rfl (hb hby d1_79)
                    obtain ⟨fs, hr, hrun, hended, hW, hsame⟩ := X27.leave (v := some (.ref w_TRUE)) (fun h => by rw [Bd.returns] at h; cases h)
                    refine ⟨_, _, pre26 _ ?_, hrun, hended, _, _, rfl, ?_, ⟨_, rfl⟩, hW, hsame.mono (by decide) (by decide)⟩
                    · show Steps p.tables e below (s₁.setTop (mkF m 76 #[.val (.int p1)] [(.int (8 : Int32)), (.int p1)])) _
                      refine XS.icmpNo X0.here hx rfl (hb hby d1_76) rfl (teq hc25).2 ?_
                      show Steps p.tables e below (s₁.setTop (mkF m 79 #[.val (.int p1)] [])) _
                      refine st27 _ ?_
                      show Steps p.tables e below (T27.setTop (mkF m 82 #[.val (.int p1)] [(.ref w_TRUE)])) _
                      jvm_step X27.here [X27.here.top, hx, (hb hby d1_82), X27.method', Bd.returns, Value.isRef, FieldType.isReference]
                      first | (intro acts; rw [hr _ acts rfl rfl rfl]) | rw [hr _ _ rfl rfl rfl]
                      exact Steps.refl _
                    · show QP _ h0 n0 _ T27.heap _
                      rw [e27, show f1 p1 w_START_OBJECT w_END_OBJECT w_START_ARRAY w_END_ARRAY w_FIELD_NAME w_STRING w_INTEGER w_DECIMAL w_TRUE w_FALSE w_NULL = w_TRUE from by unfold f1; rw [if_neg hc1, if_neg hc4, if_neg hc7, if_neg hc10, if_neg hc13, if_neg hc16, if_neg hc19, if_neg hc22, if_pos hc25]]
                      exact ⟨rfl, N0, rfl⟩
                  · have pre29 : ∀ t, Steps p.tables e below (s₁.setTop (mkF m 86 #[.val (.int p1)] [(.int (9 : Int32)), (.int p1)])) t → Steps p.tables e below (s₁.setTop (entryFrame m #[(.int p1)] 1)) t := fun t k => by
                      refine pre26 _ ?_
                      show Steps p.tables e below (s₁.setTop (mkF m 76 #[.val (.int p1)] [(.int (8 : Int32)), (.int p1)])) _
                      refine XS.icmpYes X0.here hx rfl (pc0 := 76) (pc' := 83) rfl (hb hby d1_76) rfl (feq hc25).2 (by decide) (by decide) ?_
                      show Steps p.tables e below (s₁.setTop (mkF m 83 #[.val (.int p1)] [])) _
                      refine XS.iloadN X0.here hx rfl (hb hby d1_83) rfl ?_
                      show Steps p.tables e below (s₁.setTop (mkF m 84 #[.val (.int p1)] [(.int p1)])) _
                      refine XS.bipush X0.here hx rfl (hb hby d1_84) ?_
                      exact k
                    by_cases hc28 : p1 = (9 : Int32)
                    · obtain ⟨T30, X30, e30, st30⟩ := getS2 X0 hx hZ hown (host := "") (Or.inl (hw _ (List.mem_of_getElem? (i := 27) rfl))) Via.refl e0 S_FALSE (g := (mkF m 89 #[.val (.int p1)] [])) rfl (hb hby d1_89)
                      obtain ⟨fs, hr, hrun, hended, hW, hsame⟩ := X30.leave (v := some (.ref w_FALSE)) (fun h => by rw [Bd.returns] at h; cases h)
                      refine ⟨_, _, pre29 _ ?_, hrun, hended, _, _, rfl, ?_, ⟨_, rfl⟩, hW, hsame.mono (by decide) (by decide)⟩
                      · show Steps p.tables e below (s₁.setTop (mkF m 86 #[.val (.int p1)] [(.int (9 : Int32)), (.int p1)])) _
                        refine XS.icmpNo X0.here hx rfl (hb hby d1_86) rfl (teq hc28).2 ?_
                        show Steps p.tables e below (s₁.setTop (mkF m 89 #[.val (.int p1)] [])) _
                        refine st30 _ ?_
                        show Steps p.tables e below (T30.setTop (mkF m 92 #[.val (.int p1)] [(.ref w_FALSE)])) _
                        jvm_step X30.here [X30.here.top, hx, (hb hby d1_92), X30.method', Bd.returns, Value.isRef, FieldType.isReference]
                        first | (intro acts; rw [hr _ acts rfl rfl rfl]) | rw [hr _ _ rfl rfl rfl]
                        exact Steps.refl _
                      · show QP _ h0 n0 _ T30.heap _
                        rw [e30, show f1 p1 w_START_OBJECT w_END_OBJECT w_START_ARRAY w_END_ARRAY w_FIELD_NAME w_STRING w_INTEGER w_DECIMAL w_TRUE w_FALSE w_NULL = w_FALSE from by unfold f1; rw [if_neg hc1, if_neg hc4, if_neg hc7, if_neg hc10, if_neg hc13, if_neg hc16, if_neg hc19, if_neg hc22, if_neg hc25, if_pos hc28]]
                        exact ⟨rfl, N0, rfl⟩
                    · obtain ⟨T31, X31, e31, st31⟩ := getS2 X0 hx hZ hown (host := "") (Or.inl (hw _ (List.mem_of_getElem? (i := 24) rfl))) Via.refl e0 S_NULL (g := (mkF m 93 #[.val (.int p1)] [])) rfl (hb hby d1_93)
                      obtain ⟨fs, hr, hrun, hended, hW, hsame⟩ := X31.leave (v := some (.ref w_NULL)) (fun h => by rw [Bd.returns] at h; cases h)
                      refine ⟨_, _, pre29 _ ?_, hrun, hended, _, _, rfl, ?_, ⟨_, rfl⟩, hW, hsame.mono (by decide) (by decide)⟩
                      · show Steps p.tables e below (s₁.setTop (mkF m 86 #[.val (.int p1)] [(.int (9 : Int32)), (.int p1)])) _
                        refine XS.icmpYes X0.here hx rfl (pc0 := 86) (pc' := 93) rfl (hb hby d1_86) rfl (feq hc28).2 (by decide) (by decide) ?_
                        show Steps p.tables e below (s₁.setTop (mkF m 93 #[.val (.int p1)] [])) _
                        refine st31 _ ?_
                        show Steps p.tables e below (T31.setTop (mkF m 96 #[.val (.int p1)] [(.ref w_NULL)])) _
                        jvm_step X31.here [X31.here.top, hx, (hb hby d1_96), X31.method', Bd.returns, Value.isRef, FieldType.isReference]
                        first | (intro acts; rw [hr _ acts rfl rfl rfl]) | rw [hr _ _ rfl rfl rfl]
                        exact Steps.refl _
                      · show QP _ h0 n0 _ T31.heap _
                        rw [e31, show f1 p1 w_START_OBJECT w_END_OBJECT w_START_ARRAY w_END_ARRAY w_FIELD_NAME w_STRING w_INTEGER w_DECIMAL w_TRUE w_FALSE w_NULL = w_NULL from by unfold f1; rw [if_neg hc1, if_neg hc4, if_neg hc7, if_neg hc10, if_neg hc13, if_neg hc16, if_neg hc19, if_neg hc22, if_neg hc25, if_neg hc28]]
                        exact ⟨rfl, N0, rfl⟩
theorem f1_all {P : Addr → Prop} (p1 : Int32) (w_START_OBJECT : Addr) (w_END_OBJECT : Addr) (w_START_ARRAY : Addr) (w_END_ARRAY : Addr) (w_FIELD_NAME : Addr) (w_STRING : Addr) (w_INTEGER : Addr) (w_DECIMAL : Addr) (w_TRUE : Addr) (w_FALSE : Addr) (w_NULL : Addr) (H_w_START_OBJECT : P w_START_OBJECT) (H_w_END_OBJECT : P w_END_OBJECT) (H_w_START_ARRAY : P w_START_ARRAY) (H_w_END_ARRAY : P w_END_ARRAY) (H_w_FIELD_NAME : P w_FIELD_NAME) (H_w_STRING : P w_STRING) (H_w_INTEGER : P w_INTEGER) (H_w_DECIMAL : P w_DECIMAL) (H_w_TRUE : P w_TRUE) (H_w_FALSE : P w_FALSE) (H_w_NULL : P w_NULL) : P (f1 p1 w_START_OBJECT w_END_OBJECT w_START_ARRAY w_END_ARRAY w_FIELD_NAME w_STRING w_INTEGER w_DECIMAL w_TRUE w_FALSE w_NULL) := by
  unfold f1
  repeat' split
  all_goals assumption
theorem d2_0 : decode prog_131_method_8_code 0 = .ok (.aload_n 0, 1) := by decide +kernel
theorem d2_1 : decode prog_131_method_8_code 1 = .ok (.getstatic 7, 3) := by decide +kernel
theorem d2_4 : decode prog_131_method_8_code 4 = .ok (.if_acmp .eq 10, 3) := by decide +kernel
theorem d2_14 : decode prog_131_method_8_code 14 = .ok (.iconst 1, 1) := by decide +kernel
theorem d2_15 : decode prog_131_method_8_code 15 = .ok (.goto 4, 3) := by decide +kernel
theorem d2_19 : decode prog_131_method_8_code 19 = .ok (.ireturn, 1) := by decide +kernel
theorem d2_7 : decode prog_131_method_8_code 7 = .ok (.aload_n 0, 1) := by decide +kernel
theorem d2_8 : decode prog_131_method_8_code 8 = .ok (.getstatic 13, 3) := by decide +kernel
theorem d2_11 : decode prog_131_method_8_code 11 = .ok (.if_acmp .ne 7, 3) := by decide +kernel
theorem d2_18 : decode prog_131_method_8_code 18 = .ok (.iconst 0, 1) := by decide +kernel
theorem pn_2 : plainName "com/example/lendscribe/lendscribe/read/JsonScanner$Kind" = true := by first | (simp [plainName, overriddenIn]; done) | decide +kernel
theorem ef_2 (m : MethodId) (x0 : Addr) : entryFrame m #[(.ref x0)] 1 = mkF m 0 #[.val (.ref x0)] [] := by first | (simp [entryFrame, mkF, argsToLocals, Value.category]; done) | rfl
def f2 (a1 : Addr) (w_END_OBJECT : Addr) (w_END_ARRAY : Addr) : Int32 := (if a1 = w_END_OBJECT then (1 : Int32) else (if a1 = w_END_ARRAY then (1 : Int32) else (0 : Int32)))
set_option maxRecDepth 65536 in
set_option maxHeartbeats 40000000 in
theorem rm2 (l : Launch) (Z : State) (a0 : Array Value) (hw : ∀ d ∈ tables_1, d.before a0 Z = true) (ws : List Jvm.Cond) (a1 : Addr) (w_END_OBJECT : Addr) (w_END_ARRAY : Addr) (h0 : Heap) (n0 : Nat) (Z0 : n0 ≤ h0.size) (S_END_OBJECT : Sta Z h0 "com/example/lendscribe/lendscribe/read/JsonScanner$Kind" "END_OBJECT" "Lcom/example/lendscribe/lendscribe/read/JsonScanner$Kind;" (.ref w_END_OBJECT)) (S_END_ARRAY : Sta Z h0 "com/example/lendscribe/lendscribe/read/JsonScanner$Kind" "END_ARRAY" "Lcom/example/lendscribe/lendscribe/read/JsonScanner$Kind;" (.ref w_END_ARRAY)) :
    MetFree l (⟨"com/example/lendscribe/lendscribe/read/JsonScanner$Kind", "isEnd", "()Z"⟩ : MethodName) (head1 (Jvm.Cond.code (⟨"com/example/lendscribe/lendscribe/read/JsonScanner$Kind", "isEnd", "()Z"⟩ : MethodName) prog_131_method_8_code 1 (some .boolean) :: ws) ({ frames := 0, cells := 0, slots := 0, locals := 0 } : Room)) (fun a U => a = #[(.ref a1)] ∧ Z.Warmed39 U.vm ∧ U.heap = h0) (fun _ _ _ _ _ => True) (fun _ U o U' => ∃ v L, o = .returned v ∧ QP (some (.int (f2 a1 w_END_OBJECT w_END_ARRAY))) h0 n0 v U'.heap L ∧ FrameEnd U o U' L ({ frames := 0, cells := 0, slots := 0, locals := 0 } : Room).cells ({ frames := 0, cells := 0, slots := 0, locals := 0 } : Room).slots) := by
  refine MetFree.of_bodySF (plainFor_of_name pn_2) hisR ?_
  intro p e s m args below meth c s₁ Bd hml0 hP hK
  obtain ⟨rfl, hZ, hh⟩ := hP
  have hx := Bd.exec
  have hby := Bd.bytes
  have hml : c.maxLocals = 1 := hml0
  have hown : s.vm.findClass "com/example/lendscribe/lendscribe/read/JsonScanner$Kind" = some m.cls := findClass_of_methodNamed Bd.named
  have hnm := (name_of_methodNamed Bd.named Bd.method).1
  have X0 : Stand p l e ({ frames := 0, cells := 0, slots := 0, locals := 0 } : Room) s m #[(.ref a1)] below meth c s₁ [] 0 0 := Stand.of_body Bd
  have e0 : s₁.heap = h0 := by rw [← hh, Bd.state]; rfl
  have N0 := Fr.nil n0
  have pre0 : ∀ t, Steps p.tables e below (s₁.setTop (mkF m 0 #[.val (.ref a1)] [])) t → Steps p.tables e below (s₁.setTop (entryFrame m #[(.ref a1)] 1)) t := fun t k => castTop (ef_2 m a1) k
  obtain ⟨T32, X32, e32, st32⟩ := getS2 X0 hx hZ hown (host := "") (Or.inl (hw _ (List.mem_of_getElem? (i := 13) rfl))) Via.refl e0 S_END_OBJECT (g := (mkF m 1 #[.val (.ref a1)] [(.ref a1)])) rfl (hb hby d2_1)
  have pre34 : ∀ t, Steps p.tables e below (T32.setTop (mkF m 4 #[.val (.ref a1)] [(.ref w_END_OBJECT), (.ref a1)])) t → Steps p.tables e below (s₁.setTop (entryFrame m #[(.ref a1)] 1)) t := fun t k => by
    refine pre0 _ ?_
    show Steps p.tables e below (s₁.setTop (mkF m 0 #[.val (.ref a1)] [])) _
    refine XS.aloadN X0.here hx rfl (hb hby d2_0) rfl rfl ?_
    show Steps p.tables e below (s₁.setTop (mkF m 1 #[.val (.ref a1)] [(.ref a1)])) _
    refine st32 _ ?_
    exact k
  by_cases hc33 : a1 = w_END_OBJECT
  · obtain ⟨fs, hr, hrun, hended, hW, hsame⟩ := X32.leave (v := some (.int (1 : Int32))) (fun h => by rw [Bd.returns] at h; cases h)
    refine ⟨_, _, pre34 _ ?_, hrun, hended, _, _, rfl, ?_, ⟨_, rfl⟩, hW, hsame.mono (by decide) (by decide)⟩
    · show Steps p.tables e below (T32.setTop (mkF m 4 #[.val (.ref a1)] [(.ref w_END_OBJECT), (.ref a1)])) _
      refine Jvm.RoadKit.acmp (g := (mkF m 4 #[.val (.ref a1)] [(.ref w_END_OBJECT), (.ref a1)])) X32 hx rfl rfl rfl (pc0 := 4) (pc' := 14) (same := true) rfl (hb hby d2_4) rfl (decide_eq_true (congrArg Value.ref hc33)) (by decide) (by decide) ?_
      show Steps p.tables e below (T32.setTop (mkF m 14 #[.val (.ref a1)] [])) _
      refine XS.iconst X32.here hx rfl (hb hby d2_14) ?_
      show Steps p.tables e below (T32.setTop (mkF m 15 #[.val (.ref a1)] [(.int (1 : Int32))])) _
      refine XS.goto X32.here hx rfl (pc0 := 15) (pc' := 19) rfl (hb hby d2_15) (by decide) (by decide) ?_
      show Steps p.tables e below (T32.setTop (mkF m 19 #[.val (.ref a1)] [(.int (1 : Int32))])) _
      exact retN X32 hx (t := .boolean) Bd.returns (by simp) (hb hby d2_19) hr
    · show QP _ h0 n0 _ T32.heap _
      rw [e32, show f2 a1 w_END_OBJECT w_END_ARRAY = (1 : Int32) from by unfold f2; rw [if_pos hc33]]
      exact ⟨rfl, N0, rfl⟩
  · obtain ⟨T35, X35, e35, st35⟩ := getS2 X32 hx hZ hown (host := "") (Or.inl (hw _ (List.mem_of_getElem? (i := 15) rfl))) Via.refl e32 S_END_ARRAY (g := (mkF m 8 #[.val (.ref a1)] [(.ref a1)])) rfl (hb hby d2_8)
    have pre37 : ∀ t, Steps p.tables e below (T35.setTop (mkF m 11 #[.val (.ref a1)] [(.ref w_END_ARRAY), (.ref a1)])) t → Steps p.tables e below (s₁.setTop (entryFrame m #[(.ref a1)] 1)) t := fun t k => by
      refine pre34 _ ?_
      show Steps p.tables e below (T32.setTop (mkF m 4 #[.val (.ref a1)] [(.ref w_END_OBJECT), (.ref a1)])) _
      refine Jvm.RoadKit.acmp (g := (mkF m 4 #[.val (.ref a1)] [(.ref w_END_OBJECT), (.ref a1)])) X32 hx rfl rfl rfl (pc0 := 4) (pc' := 7) (same := false) rfl (hb hby d2_4) rfl (decide_eq_false fun q => hc33 (Value.ref.inj q)) (by decide) (by decide) ?_
      show Steps p.tables e below (T32.setTop (mkF m 7 #[.val (.ref a1)] [])) _
      refine XS.aloadN X32.here hx rfl (hb hby d2_7) rfl rfl ?_
      show Steps p.tables e below (T32.setTop (mkF m 8 #[.val (.ref a1)] [(.ref a1)])) _
      refine st35 _ ?_
      exact k
    by_cases hc36 : a1 = w_END_ARRAY
    · obtain ⟨fs, hr, hrun, hended, hW, hsame⟩ := X35.leave (v := some (.int (1 : Int32))) (fun h => by rw [Bd.returns] at h; cases h)
      refine ⟨_, _, pre37 _ ?_, hrun, hended, _, _, rfl, ?_, ⟨_, rfl⟩, hW, hsame.mono (by decide) (by decide)⟩
      · show Steps p.tables e below (T35.setTop (mkF m 11 #[.val (.ref a1)] [(.ref w_END_ARRAY), (.ref a1)])) _
        refine Jvm.RoadKit.acmp (g := (mkF m 11 #[.val (.ref a1)] [(.ref w_END_ARRAY), (.ref a1)])) X35 hx rfl rfl rfl (pc0 := 11) (pc' := 14) (same := true) rfl (hb hby d2_11) rfl (decide_eq_true (congrArg Value.ref hc36)) (by decide) (by decide) ?_
        show Steps p.tables e below (T35.setTop (mkF m 14 #[.val (.ref a1)] [])) _
        refine XS.iconst X35.here hx rfl (hb hby d2_14) ?_
        show Steps p.tables e below (T35.setTop (mkF m 15 #[.val (.ref a1)] [(.int (1 : Int32))])) _
        refine XS.goto X35.here hx rfl (pc0 := 15) (pc' := 19) rfl (hb hby d2_15) (by decide) (by decide) ?_
        show Steps p.tables e below (T35.setTop (mkF m 19 #[.val (.ref a1)] [(.int (1 : Int32))])) _
        exact retN X35 hx (t := .boolean) Bd.returns (by simp) (hb hby d2_19) hr
      · show QP _ h0 n0 _ T35.heap _
        rw [e35, show f2 a1 w_END_OBJECT w_END_ARRAY = (1 : Int32) from by unfold f2; rw [if_neg hc33, if_pos hc36]]
        exact ⟨rfl, N0, rfl⟩
    · obtain ⟨fs, hr, hrun, hended, hW, hsame⟩ := X35.leave (v := some (.int (0 : Int32))) (fun h => by rw [Bd.returns] at h; cases h)
      refine ⟨_, _, pre37 _ ?_, hrun, hended, _, _, rfl, ?_, ⟨_, rfl⟩, hW, hsame.mono (by decide) (by decide)⟩
      · show Steps p.tables e below (T35.setTop (mkF m 11 #[.val (.ref a1)] [(.ref w_END_ARRAY), (.ref a1)])) _
        refine Jvm.RoadKit.acmp (g := (mkF m 11 #[.val (.ref a1)] [(.ref w_END_ARRAY), (.ref a1)])) X35 hx rfl rfl rfl (pc0 := 11) (pc' := 18) (same := false) rfl (hb hby d2_11) rfl (decide_eq_false fun q => hc36 (Value.ref.inj q)) (by decide) (by decide) ?_
        show Steps p.tables e below (T35.setTop (mkF m 18 #[.val (.ref a1)] [])) _
        refine XS.iconst X35.here hx rfl (hb hby d2_18) ?_
        show Steps p.tables e below (T35.setTop (mkF m 19 #[.val (.ref a1)] [(.int (0 : Int32))])) _
        exact retN X35 hx (t := .boolean) Bd.returns (by simp) (hb hby d2_19) hr
      · show QP _ h0 n0 _ T35.heap _
        rw [e35, show f2 a1 w_END_OBJECT w_END_ARRAY = (0 : Int32) from by unfold f2; rw [if_neg hc33, if_neg hc36]]
        exact ⟨rfl, N0, rfl⟩
theorem pd_0 : parseMethodDescriptor "(I)Lcom/example/lendscribe/lendscribe/read/JsonScanner$Kind;" = some ⟨[.int], some (.object "com/example/lendscribe/lendscribe/read/JsonScanner$Kind")⟩ := by decide +kernel
theorem pd_1 : parseMethodDescriptor "()Z" = some ⟨[], some .boolean⟩ := by decide +kernel
theorem ef_0 (m : MethodId) (x0 : Int32) : entryFrame m #[(.int x0)] maxLocals = mkF m 0 #[.val (.int x0), .unset, .unset, .unset] [] := by first | (simp [entryFrame, mkF, argsToLocals, Value.category, maxLocals]; done) | rfl
def f0 (p1 : Int32) (w_START_OBJECT : Addr) (w_END_OBJECT : Addr) (w_START_ARRAY : Addr) (w_END_ARRAY : Addr) (w_FIELD_NAME : Addr) (w_STRING : Addr) (w_INTEGER : Addr) (w_DECIMAL : Addr) (w_TRUE : Addr) (w_FALSE : Addr) (w_NULL : Addr) : Int32 := (if ((p1 &&& (2147483647 : Int32)) % (11 : Int32)) = (1 : Int32) then (if (f2 (f1 ((p1 &&& (2147483647 : Int32)) % (11 : Int32)) w_START_OBJECT w_END_OBJECT w_START_ARRAY w_END_ARRAY w_FIELD_NAME w_STRING w_INTEGER w_DECIMAL w_TRUE w_FALSE w_NULL) w_END_OBJECT w_END_ARRAY) = (1 : Int32) then (1 : Int32) else (0 : Int32)) else (if ((p1 &&& (2147483647 : Int32)) % (11 : Int32)) = (3 : Int32) then (if (f2 (f1 ((p1 &&& (2147483647 : Int32)) % (11 : Int32)) w_START_OBJECT w_END_OBJECT w_START_ARRAY w_END_ARRAY w_FIELD_NAME w_STRING w_INTEGER w_DECIMAL w_TRUE w_FALSE w_NULL) w_END_OBJECT w_END_ARRAY) = (1 : Int32) then (1 : Int32) else (0 : Int32)) else (if (f2 (f1 ((p1 &&& (2147483647 : Int32)) % (11 : Int32)) w_START_OBJECT w_END_OBJECT w_START_ARRAY w_END_ARRAY w_FIELD_NAME w_STRING w_INTEGER w_DECIMAL w_TRUE w_FALSE w_NULL) w_END_OBJECT w_END_ARRAY) = (0 : Int32) then (1 : Int32) else (0 : Int32))))
set_option maxRecDepth 65536 in
set_option maxHeartbeats 40000000 in
theorem rm0 (l : Launch) (Z : State) (a0 : Array Value) (hw : ∀ d ∈ tables_1, d.before a0 Z = true) (ws : List Jvm.Cond) (p1 : Int32) (w_START_OBJECT : Addr) (w_END_OBJECT : Addr) (w_START_ARRAY : Addr) (w_END_ARRAY : Addr) (w_FIELD_NAME : Addr) (w_STRING : Addr) (w_INTEGER : Addr) (w_DECIMAL : Addr) (w_TRUE : Addr) (w_FALSE : Addr) (w_NULL : Addr) (h0 : Heap) (n0 : Nat) (Z0 : n0 ≤ h0.size) (S_START_OBJECT : Sta Z h0 "com/example/lendscribe/lendscribe/read/JsonScanner$Kind" "START_OBJECT" "Lcom/example/lendscribe/lendscribe/read/JsonScanner$Kind;" (.ref w_START_OBJECT)) (E_START_OBJECT : Exa Z h0 w_START_OBJECT "com/example/lendscribe/lendscribe/read/JsonScanner$Kind") (S_END_OBJECT : Sta Z h0 "com/example/lendscribe/lendscribe/read/JsonScanner$Kind" "END_OBJECT" "Lcom/example/lendscribe/lendscribe/read/JsonScanner$Kind;" (.ref w_END_OBJECT)) (E_END_OBJECT : Exa Z h0 w_END_OBJECT "com/example/lendscribe/lendscribe/read/JsonScanner$Kind") (S_START_ARRAY : Sta Z h0 "com/example/lendscribe/lendscribe/read/JsonScanner$Kind" "START_ARRAY" "Lcom/example/lendscribe/lendscribe/read/JsonScanner$Kind;" (.ref w_START_ARRAY)) (E_START_ARRAY : Exa Z h0 w_START_ARRAY "com/example/lendscribe/lendscribe/read/JsonScanner$Kind") (S_END_ARRAY : Sta Z h0 "com/example/lendscribe/lendscribe/read/JsonScanner$Kind" "END_ARRAY" "Lcom/example/lendscribe/lendscribe/read/JsonScanner$Kind;" (.ref w_END_ARRAY)) (E_END_ARRAY : Exa Z h0 w_END_ARRAY "com/example/lendscribe/lendscribe/read/JsonScanner$Kind") (S_FIELD_NAME : Sta Z h0 "com/example/lendscribe/lendscribe/read/JsonScanner$Kind" "FIELD_NAME" "Lcom/example/lendscribe/lendscribe/read/JsonScanner$Kind;" (.ref w_FIELD_NAME)) (E_FIELD_NAME : Exa Z h0 w_FIELD_NAME "com/example/lendscribe/lendscribe/read/JsonScanner$Kind") (S_STRING : Sta Z h0 "com/example/lendscribe/lendscribe/read/JsonScanner$Kind" "STRING" "Lcom/example/lendscribe/lendscribe/read/JsonScanner$Kind;" (.ref w_STRING)) (E_STRING : Exa Z h0 w_STRING "com/example/lendscribe/lendscribe/read/JsonScanner$Kind") (S_INTEGER : Sta Z h0 "com/example/lendscribe/lendscribe/read/JsonScanner$Kind" "INTEGER" "Lcom/example/lendscribe/lendscribe/read/JsonScanner$Kind;" (.ref w_INTEGER)) (E_INTEGER : Exa Z h0 w_INTEGER "com/example/lendscribe/lendscribe/read/JsonScanner$Kind") (S_DECIMAL : Sta Z h0 "com/example/lendscribe/lendscribe/read/JsonScanner$Kind" "DECIMAL" "Lcom/example/lendscribe/lendscribe/read/JsonScanner$Kind;" (.ref w_DECIMAL)) (E_DECIMAL : Exa Z h0 w_DECIMAL "com/example/lendscribe/lendscribe/read/JsonScanner$Kind") (S_TRUE : Sta Z h0 "com/example/lendscribe/lendscribe/read/JsonScanner$Kind" "TRUE" "Lcom/example/lendscribe/lendscribe/read/JsonScanner$Kind;" (.ref w_TRUE)) (E_TRUE : Exa Z h0 w_TRUE "com/example/lendscribe/lendscribe/read/JsonScanner$Kind") (S_FALSE : Sta Z h0 "com/example/lendscribe/lendscribe/read/JsonScanner$Kind" "FALSE" "Lcom/example/lendscribe/lendscribe/read/JsonScanner$Kind;" (.ref w_FALSE)) (E_FALSE : Exa Z h0 w_FALSE "com/example/lendscribe/lendscribe/read/JsonScanner$Kind") (S_NULL : Sta Z h0 "com/example/lendscribe/lendscribe/read/JsonScanner$Kind" "NULL" "Lcom/example/lendscribe/lendscribe/read/JsonScanner$Kind;" (.ref w_NULL)) (E_NULL : Exa Z h0 w_NULL "com/example/lendscribe/lendscribe/read/JsonScanner$Kind") :
    MetFree l x (head1 (Jvm.Cond.code x code maxLocals ret :: ws) room_1) (fun a U => a = #[(.int p1)] ∧ Z.Warmed39 U.vm ∧ U.heap = h0) (fun _ _ _ _ _ => True) (fun _ U o U' => ∃ v L, o = .returned v ∧ QP (some (.int (f0 p1 w_START_OBJECT w_END_OBJECT w_START_ARRAY w_END_ARRAY w_FIELD_NAME w_STRING w_INTEGER w_DECIMAL w_TRUE w_FALSE w_NULL))) h0 n0 v U'.heap L ∧ FrameEnd U o U' L room_1.cells room_1.slots) := by
  refine MetFree.of_bodySF (plainFor_of_name pn_1) hisR ?_
  intro p e s m args below meth c s₁ Bd hml0 hP hK
  obtain ⟨rfl, hZ, hh⟩ := hP
  have hx := Bd.exec
  have hby := Bd.bytes
  have hml : c.maxLocals = 4 := hml0
  have hown : s.vm.findClass "com/example/lendscribe/lendscribe/read/KindIsEndPinLaw" = some m.cls := findClass_of_methodNamed Bd.named
  have hnm := (name_of_methodNamed Bd.named Bd.method).1
  have X0 : Stand p l e room_1 s m #[(.int p1)] below meth c s₁ [] 0 0 := Stand.of_body Bd
  have e0 : s₁.heap = h0 := by rw [← hh, Bd.state]; rfl
  have N0 := Fr.nil n0
  have pre0 : ∀ t, Steps p.tables e below (s₁.setTop (mkF m 0 #[.val (.int p1), .unset, .unset, .unset] [])) t → Steps p.tables e below (s₁.setTop (entryFrame m #[(.int p1)] maxLocals)) t := fun t k => castTop (ef_0 m p1) k
  obtain ⟨_, _, ⟨T38, L38, k38, n38⟩, -, X38, ⟨Lc38, hQ38, l38, y38, z38⟩, st38⟩ := Jvm.LawKit.callS X0 hx (y := (⟨"com/example/lendscribe/lendscribe/read/KindIsEndPinLaw", "pick", "(I)Lcom/example/lendscribe/lendscribe/read/JsonScanner$Kind;"⟩ : MethodName)) hown (mvT hZ (hw _ (List.mem_of_getElem? (i := 1) rfl))) (mvT hZ (hw _ (List.mem_of_getElem? (i := 2) rfl))) (mvT hZ (hw _ (List.mem_of_getElem? (i := 3) rfl))) (mvT hZ (hw _ (List.mem_of_getElem? (i := 4) rfl))) (by decide) (backOf (W := 0) (rm1 l Z a0 hw [] ((p1 &&& (2147483647 : Int32)) % (11 : Int32)) w_START_OBJECT w_END_OBJECT w_START_ARRAY w_END_ARRAY w_FIELD_NAME w_STRING w_INTEGER w_DECIMAL w_TRUE w_FALSE w_NULL h0 n0 Z0 S_START_OBJECT S_END_OBJECT S_START_ARRAY S_END_ARRAY S_FIELD_NAME S_STRING S_INTEGER S_DECIMAL S_TRUE S_FALSE S_NULL) hZ (hw _ (List.mem_of_getElem? (i := 4) rfl)) (hw _ (List.mem_of_getElem? (i := 3) rfl)) (by decide) (by decide)) (g := (mkF m 9 #[.val (.int p1), .val (.int ((p1 &&& (2147483647 : Int32)) % (11 : Int32))), .unset, .unset] [(.int ((p1 &&& (2147483647 : Int32)) % (11 : Int32)))])) rfl (by rw [hml]; rfl) (argsL := [(.int ((p1 &&& (2147483647 : Int32)) % (11 : Int32)))]) (rest := []) (lenOf pd_0 rfl) rfl (by show 2 * 0 + _ ≤ _; exact Nat.le_of_eq rfl) (hb hby at_9) (fun _ _ => ⟨rfl, e0, (by decide : 0 + 0 ≤ _), (by decide : 0 + 0 ≤ _)⟩)
  dsimp only [Pt.U, Pt.locs, Pt.cells, Pt.slots] at X38 l38 y38 z38 st38 hQ38
  subst l38 y38 z38
  obtain ⟨rfl, N38q, e38⟩ := hQ38
  have N38 := Fr.app N0 N38q
  have pre40 : ∀ t, Steps p.tables e below (T38.setTop (mkF m 15 #[.val (.int p1), .val (.int ((p1 &&& (2147483647 : Int32)) % (11 : Int32))), .val (.ref (f1 ((p1 &&& (2147483647 : Int32)) % (11 : Int32)) w_START_OBJECT w_END_OBJECT w_START_ARRAY w_END_ARRAY w_FIELD_NAME w_STRING w_INTEGER w_DECIMAL w_TRUE w_FALSE w_NULL)), .unset] [(.int (1 : Int32)), (.int ((p1 &&& (2147483647 : Int32)) % (11 : Int32)))])) t → Steps p.tables e below (s₁.setTop (entryFrame m #[(.int p1)] maxLocals)) t := fun t k => by
    refine pre0 _ ?_
    show Steps p.tables e below (s₁.setTop (mkF m 0 #[.val (.int p1), .unset, .unset, .unset] [])) _
    refine XS.iloadN X0.here hx rfl (hb hby at_0) rfl ?_
    show Steps p.tables e below (s₁.setTop (mkF m 1 #[.val (.int p1), .unset, .unset, .unset] [(.int p1)])) _
    refine X0.ldcInt hx hown (mvT hZ (hw _ (List.mem_of_getElem? (i := 0) rfl))) (g := (mkF m 1 #[.val (.int p1), .unset, .unset, .unset] [(.int p1)])) rfl (hb hby at_1) _ ?_
    show Steps p.tables e below (s₁.setTop (mkF m 3 #[.val (.int p1), .unset, .unset, .unset] [(.int (2147483647 : Int32)), (.int p1)])) _
    refine XS.iand X0.here hx rfl (hb hby at_3) rfl ?_
    show Steps p.tables e below (s₁.setTop (mkF m 4 #[.val (.int p1), .unset, .unset, .unset] [(.int (p1 &&& (2147483647 : Int32)))])) _
    refine XS.bipush X0.here hx rfl (hb hby at_4) ?_
    show Steps p.tables e below (s₁.setTop (mkF m 6 #[.val (.int p1), .unset, .unset, .unset] [(.int (11 : Int32)), (.int (p1 &&& (2147483647 : Int32)))])) _
    refine Jvm.RoadKit.iremM X0 hx rfl (hb hby at_6) rfl (by decide) ?_
    show Steps p.tables e below (s₁.setTop (mkF m 7 #[.val (.int p1), .unset, .unset, .unset] [(.int ((p1 &&& (2147483647 : Int32)) % (11 : Int32)))])) _
    refine XS.istoreN X0.here hx rfl (hb hby at_7) rfl (l' := #[.val (.int p1), .val (.int ((p1 &&& (2147483647 : Int32)) % (11 : Int32))), .unset, .unset]) rfl ?_
    show Steps p.tables e below (s₁.setTop (mkF m 8 #[.val (.int p1), .val (.int ((p1 &&& (2147483647 : Int32)) % (11 : Int32))), .unset, .unset] [])) _
    refine XS.iloadN X0.here hx rfl (hb hby at_8) rfl ?_
    show Steps p.tables e below (s₁.setTop (mkF m 9 #[.val (.int p1), .val (.int ((p1 &&& (2147483647 : Int32)) % (11 : Int32))), .unset, .unset] [(.int ((p1 &&& (2147483647 : Int32)) % (11 : Int32)))])) _
    refine st38 _ ?_
    show Steps p.tables e below (T38.setTop (mkF m 12 #[.val (.int p1), .val (.int ((p1 &&& (2147483647 : Int32)) % (11 : Int32))), .unset, .unset] [(.ref (f1 ((p1 &&& (2147483647 : Int32)) % (11 : Int32)) w_START_OBJECT w_END_OBJECT w_START_ARRAY w_END_ARRAY w_FIELD_NAME w_STRING w_INTEGER w_DECIMAL w_TRUE w_FALSE w_NULL))])) _
    refine XS.astoreN X38.here hx rfl (hb hby at_12) rfl rfl (l' := #[.val (.int p1), .val (.int ((p1 &&& (2147483647 : Int32)) % (11 : Int32))), .val (.ref (f1 ((p1 &&& (2147483647 : Int32)) % (11 : Int32)) w_START_OBJECT w_END_OBJECT w_START_ARRAY w_END_ARRAY w_FIELD_NAME w_STRING w_INTEGER w_DECIMAL w_TRUE w_FALSE w_NULL)), .unset]) rfl ?_
    show Steps p.tables e below (T38.setTop (mkF m 13 #[.val (.int p1), .val (.int ((p1 &&& (2147483647 : Int32)) % (11 : Int32))), .val (.ref (f1 ((p1 &&& (2147483647 : Int32)) % (11 : Int32)) w_START_OBJECT w_END_OBJECT w_START_ARRAY w_END_ARRAY w_FIELD_NAME w_STRING w_INTEGER w_DECIMAL w_TRUE w_FALSE w_NULL)), .unset] [])) _
    refine XS.iloadN X38.here hx rfl (hb hby at_13) rfl ?_
    show Steps p.tables e below (T38.setTop (mkF m 14 #[.val (.int p1), .val (.int ((p1 &&& (2147483647 : Int32)) % (11 : Int32))), .val (.ref (f1 ((p1 &&& (2147483647 : Int32)) % (11 : Int32)) w_START_OBJECT w_END_OBJECT w_START_ARRAY w_END_ARRAY w_FIELD_NAME w_STRING w_INTEGER w_DECIMAL w_TRUE w_FALSE w_NULL)), .unset] [(.int ((p1 &&& (2147483647 : Int32)) % (11 : Int32)))])) _
    refine XS.iconst X38.here hx rfl (hb hby at_14) ?_
    exact k
  by_cases hc39 : ((p1 &&& (2147483647 : Int32)) % (11 : Int32)) = (1 : Int32)
  · obtain ⟨cq41, kq41, q41a, q41b, q41c⟩ := isOf hZ e38 (f1_all (P := fun a => Exa Z h0 a "com/example/lendscribe/lendscribe/read/JsonScanner$Kind") ((p1 &&& (2147483647 : Int32)) % (11 : Int32)) w_START_OBJECT w_END_OBJECT w_START_ARRAY w_END_ARRAY w_FIELD_NAME w_STRING w_INTEGER w_DECIMAL w_TRUE w_FALSE w_NULL E_START_OBJECT E_END_OBJECT E_START_ARRAY E_END_ARRAY E_FIELD_NAME E_STRING E_INTEGER E_DECIMAL E_TRUE E_FALSE E_NULL)
    obtain ⟨_, _, ⟨T41, L41, k41, n41⟩, -, X41, ⟨Lc41, hQ41, l41, y41, z41⟩, st41⟩ := X38.virtualBack hx (y := (⟨"com/example/lendscribe/lendscribe/read/JsonScanner$Kind", "isEnd", "()Z"⟩ : MethodName)) (z := (⟨"com/example/lendscribe/lendscribe/read/JsonScanner$Kind", "isEnd", "()Z"⟩ : MethodName)) hown (mvT hZ (hw _ (List.mem_of_getElem? (i := 8) rfl))) (mvT hZ (hw _ (List.mem_of_getElem? (i := 9) rfl))) (notFace_of_selects (args := #[]) (mvT hZ (hw _ (List.mem_of_getElem? (i := 11) rfl)))) (mvT hZ (hw _ (List.mem_of_getElem? (i := 11) rfl))) (mvT hZ (hw _ (List.mem_of_getElem? (i := 10) rfl))) (by decide) (backOf (W := 0) (rm2 l Z a0 hw [] (f1 ((p1 &&& (2147483647 : Int32)) % (11 : Int32)) w_START_OBJECT w_END_OBJECT w_START_ARRAY w_END_ARRAY w_FIELD_NAME w_STRING w_INTEGER w_DECIMAL w_TRUE w_FALSE w_NULL) w_END_OBJECT w_END_ARRAY h0 n0 Z0 S_END_OBJECT S_END_ARRAY) hZ (hw _ (List.mem_of_getElem? (i := 12) rfl)) (hw _ (List.mem_of_getElem? (i := 6) rfl)) (by decide) (by decide)) q41a q41c (g := (mkF m 30 #[.val (.int p1), .val (.int ((p1 &&& (2147483647 : Int32)) % (11 : Int32))), .val (.ref (f1 ((p1 &&& (2147483647 : Int32)) % (11 : Int32)) w_START_OBJECT w_END_OBJECT w_START_ARRAY w_END_ARRAY w_FIELD_NAME w_STRING w_INTEGER w_DECIMAL w_TRUE w_FALSE w_NULL)), .val (.int (1 : Int32))] [(.ref (f1 ((p1 &&& (2147483647 : Int32)) % (11 : Int32)) w_START_OBJECT w_END_OBJECT w_START_ARRAY w_END_ARRAY w_FIELD_NAME w_STRING w_INTEGER w_DECIMAL w_TRUE w_FALSE w_NULL))])) rfl (by rw [hml]; rfl) (Steps.refl _) (argsL := []) (rest := []) (lenOf pd_1 rfl) rfl (by show 2 * 0 + _ ≤ _; exact Nat.le_of_eq rfl) (hb hby at_30) (fun _ _ => ⟨rfl, e38, (by decide : 0 + 0 ≤ _), (by decide : 0 + 0 ≤ _)⟩)
    dsimp only [Pt.U, Pt.locs, Pt.cells, Pt.slots] at X41 l41 y41 z41 st41 hQ41
    subst l41 y41 z41
    obtain ⟨rfl, N41q, e41⟩ := hQ41
    have N41 := Fr.app N38 N41q
    have pre43 : ∀ t, Steps p.tables e below (T41.setTop (mkF m 34 #[.val (.int p1), .val (.int ((p1 &&& (2147483647 : Int32)) % (11 : Int32))), .val (.ref (f1 ((p1 &&& (2147483647 : Int32)) % (11 : Int32)) w_START_OBJECT w_END_OBJECT w_START_ARRAY w_END_ARRAY w_FIELD_NAME w_STRING w_INTEGER w_DECIMAL w_TRUE w_FALSE w_NULL)), .val (.int (1 : Int32))] [(.int (1 : Int32)), (.int (f2 (f1 ((p1 &&& (2147483647 : Int32)) % (11 : Int32)) w_START_OBJECT w_END_OBJECT w_START_ARRAY w_END_ARRAY w_FIELD_NAME w_STRING w_INTEGER w_DECIMAL w_TRUE w_FALSE w_NULL) w_END_OBJECT w_END_ARRAY))])) t → Steps p.tables e below (s₁.setTop (entryFrame m #[(.int p1)] maxLocals)) t := fun t k => by
      refine pre40 _ ?_
      show Steps p.tables e below (T38.setTop (mkF m 15 #[.val (.int p1), .val (.int ((p1 &&& (2147483647 : Int32)) % (11 : Int32))), .val (.ref (f1 ((p1 &&& (2147483647 : Int32)) % (11 : Int32)) w_START_OBJECT w_END_OBJECT w_START_ARRAY w_END_ARRAY w_FIELD_NAME w_STRING w_INTEGER w_DECIMAL w_TRUE w_FALSE w_NULL)), .unset] [(.int (1 : Int32)), (.int ((p1 &&& (2147483647 : Int32)) % (11 : Int32)))])) _
      refine XS.icmpYes X38.here hx rfl (pc0 := 15) (pc' := 23) rfl (hb hby at_15) rfl (teq hc39).1 (by decide) (by decide) ?_
      show Steps p.tables e below (T38.setTop (mkF m 23 #[.val (.int p1), .val (.int ((p1 &&& (2147483647 : Int32)) % (11 : Int32))), .val (.ref (f1 ((p1 &&& (2147483647 : Int32)) % (11 : Int32)) w_START_OBJECT w_END_OBJECT w_START_ARRAY w_END_ARRAY w_FIELD_NAME w_STRING w_INTEGER w_DECIMAL w_TRUE w_FALSE w_NULL)), .unset] [])) _
      refine XS.iconst X38.here hx rfl (hb hby at_23) ?_
      show Steps p.tables e below (T38.setTop (mkF m 24 #[.val (.int p1), .val (.int ((p1 &&& (2147483647 : Int32)) % (11 : Int32))), .val (.ref (f1 ((p1 &&& (2147483647 : Int32)) % (11 : Int32)) w_START_OBJECT w_END_OBJECT w_START_ARRAY w_END_ARRAY w_FIELD_NAME w_STRING w_INTEGER w_DECIMAL w_TRUE w_FALSE w_NULL)), .unset] [(.int (1 : Int32))])) _
      refine XS.goto X38.here hx rfl (pc0 := 24) (pc' := 28) rfl (hb hby at_24) (by decide) (by decide) ?_
      show Steps p.tables e below (T38.setTop (mkF m 28 #[.val (.int p1), .val (.int ((p1 &&& (2147483647 : Int32)) % (11 : Int32))), .val (.ref (f1 ((p1 &&& (2147483647 : Int32)) % (11 : Int32)) w_START_OBJECT w_END_OBJECT w_START_ARRAY w_END_ARRAY w_FIELD_NAME w_STRING w_INTEGER w_DECIMAL w_TRUE w_FALSE w_NULL)), .unset] [(.int (1 : Int32))])) _
      refine XS.istoreN X38.here hx rfl (hb hby at_28) rfl (l' := #[.val (.int p1), .val (.int ((p1 &&& (2147483647 : Int32)) % (11 : Int32))), .val (.ref (f1 ((p1 &&& (2147483647 : Int32)) % (11 : Int32)) w_START_OBJECT w_END_OBJECT w_START_ARRAY w_END_ARRAY w_FIELD_NAME w_STRING w_INTEGER w_DECIMAL w_TRUE w_FALSE w_NULL)), .val (.int (1 : Int32))]) rfl ?_
      show Steps p.tables e below (T38.setTop (mkF m 29 #[.val (.int p1), .val (.int ((p1 &&& (2147483647 : Int32)) % (11 : Int32))), .val (.ref (f1 ((p1 &&& (2147483647 : Int32)) % (11 : Int32)) w_START_OBJECT w_END_OBJECT w_START_ARRAY w_END_ARRAY w_FIELD_NAME w_STRING w_INTEGER w_DECIMAL w_TRUE w_FALSE w_NULL)), .val (.int (1 : Int32))] [])) _
      refine XS.aloadN X38.here hx rfl (hb hby at_29) rfl rfl ?_
      show Steps p.tables e below (T38.setTop (mkF m 30 #[.val (.int p1), .val (.int ((p1 &&& (2147483647 : Int32)) % (11 : Int32))), .val (.ref (f1 ((p1 &&& (2147483647 : Int32)) % (11 : Int32)) w_START_OBJECT w_END_OBJECT w_START_ARRAY w_END_ARRAY w_FIELD_NAME w_STRING w_INTEGER w_DECIMAL w_TRUE w_FALSE w_NULL)), .val (.int (1 : Int32))] [(.ref (f1 ((p1 &&& (2147483647 : Int32)) % (11 : Int32)) w_START_OBJECT w_END_OBJECT w_START_ARRAY w_END_ARRAY w_FIELD_NAME w_STRING w_INTEGER w_DECIMAL w_TRUE w_FALSE w_NULL))])) _
      refine st41.trans ?_
      show Steps p.tables e below (T41.setTop (mkF m 33 #[.val (.int p1), .val (.int ((p1 &&& (2147483647 : Int32)) % (11 : Int32))), .val (.ref (f1 ((p1 &&& (2147483647 : Int32)) % (11 : Int32)) w_START_OBJECT w_END_OBJECT w_START_ARRAY w_END_ARRAY w_FIELD_NAME w_STRING w_INTEGER w_DECIMAL w_TRUE w_FALSE w_NULL)), .val (.int (1 : Int32))] [(.int (f2 (f1 ((p1 &&& (2147483647 : Int32)) % (11 : Int32)) w_START_OBJECT w_END_OBJECT w_START_ARRAY w_END_ARRAY w_FIELD_NAME w_STRING w_INTEGER w_DECIMAL w_TRUE w_FALSE w_NULL) w_END_OBJECT w_END_ARRAY))])) _
      refine XS.iloadN X41.here hx rfl (hb hby at_33) rfl ?_
      exact k
    by_cases hc42 : (f2 (f1 ((p1 &&& (2147483647 : Int32)) % (11 : Int32)) w_START_OBJECT w_END_OBJECT w_START_ARRAY w_END_ARRAY w_FIELD_NAME w_STRING w_INTEGER w_DECIMAL w_TRUE w_FALSE w_NULL) w_END_OBJECT w_END_ARRAY) = (1 : Int32)
    · obtain ⟨fs, hr, hrun, hended, hW, hsame⟩ := X41.leave (v := some (.int (1 : Int32))) (fun h => by rw [Bd.returns] at h; cases h)
      refine ⟨_, _, pre43 _ ?_, hrun, hended, _, _, rfl, ?_, ⟨_, rfl⟩, hW, hsame.mono (by decide) (by decide)⟩
      · show Steps p.tables e below (T41.setTop (mkF m 34 #[.val (.int p1), .val (.int ((p1 &&& (2147483647 : Int32)) % (11 : Int32))), .val (.ref (f1 ((p1 &&& (2147483647 : Int32)) % (11 : Int32)) w_START_OBJECT w_END_OBJECT w_START_ARRAY w_END_ARRAY w_FIELD_NAME w_STRING w_INTEGER w_DECIMAL w_TRUE w_FALSE w_NULL)), .val (.int (1 : Int32))] [(.int (1 : Int32)), (.int (f2 (f1 ((p1 &&& (2147483647 : Int32)) % (11 : Int32)) w_START_OBJECT w_END_OBJECT w_START_ARRAY w_END_ARRAY w_FIELD_NAME w_STRING w_INTEGER w_DECIMAL w_TRUE w_FALSE w_NULL) w_END_OBJECT w_END_ARRAY))])) _
        refine XS.icmpNo X41.here hx rfl (hb hby at_34) rfl (teq hc42).2 ?_
        show Steps p.tables e below (T41.setTop (mkF m 37 #[.val (.int p1), .val (.int ((p1 &&& (2147483647 : Int32)) % (11 : Int32))), .val (.ref (f1 ((p1 &&& (2147483647 : Int32)) % (11 : Int32)) w_START_OBJECT w_END_OBJECT w_START_ARRAY w_END_ARRAY w_FIELD_NAME w_STRING w_INTEGER w_DECIMAL w_TRUE w_FALSE w_NULL)), .val (.int (1 : Int32))] [])) _
        refine XS.iconst X41.here hx rfl (hb hby at_37) ?_
        show Steps p.tables e below (T41.setTop (mkF m 38 #[.val (.int p1), .val (.int ((p1 &&& (2147483647 : Int32)) % (11 : Int32))), .val (.ref (f1 ((p1 &&& (2147483647 : Int32)) % (11 : Int32)) w_START_OBJECT w_END_OBJECT w_START_ARRAY w_END_ARRAY w_FIELD_NAME w_STRING w_INTEGER w_DECIMAL w_TRUE w_FALSE w_NULL)), .val (.int (1 : Int32))] [(.int (1 : Int32))])) _
        refine XS.goto X41.here hx rfl (pc0 := 38) (pc' := 42) rfl (hb hby at_38) (by decide) (by decide) ?_
        show Steps p.tables e below (T41.setTop (mkF m 42 #[.val (.int p1), .val (.int ((p1 &&& (2147483647 : Int32)) % (11 : Int32))), .val (.ref (f1 ((p1 &&& (2147483647 : Int32)) % (11 : Int32)) w_START_OBJECT w_END_OBJECT w_START_ARRAY w_END_ARRAY w_FIELD_NAME w_STRING w_INTEGER w_DECIMAL w_TRUE w_FALSE w_NULL)), .val (.int (1 : Int32))] [(.int (1 : Int32))])) _
        exact retN X41 hx (t := .boolean) Bd.returns (by simp) (hb hby at_42) hr
      · show QP _ h0 n0 _ T41.heap _
        rw [e41, show f0 p1 w_START_OBJECT w_END_OBJECT w_START_ARRAY w_END_ARRAY w_FIELD_NAME w_STRING w_INTEGER w_DECIMAL w_TRUE w_FALSE w_NULL = (1 : Int32) from by unfold f0; rw [if_pos hc39, if_pos hc42]]
        exact ⟨rfl, N41, rfl⟩
    · obtain ⟨fs, hr, hrun, hended, hW, hsame⟩ := X41.leave (v := some (.int (0 : Int32))) (fun h => by rw [Bd.returns] at h; cases h)
      refine ⟨_, _, pre43 _ ?_, hrun, hended, _, _, rfl, ?_, ⟨_, rfl⟩, hW, hsame.mono (by decide) (by decide)⟩
      · show Steps p.tables e below (T41.setTop (mkF m 34 #[.val (.int p1), .val (.int ((p1 &&& (2147483647 : Int32)) % (11 : Int32))), .val (.ref (f1 ((p1 &&& (2147483647 : Int32)) % (11 : Int32)) w_START_OBJECT w_END_OBJECT w_START_ARRAY w_END_ARRAY w_FIELD_NAME w_STRING w_INTEGER w_DECIMAL w_TRUE w_FALSE w_NULL)), .val (.int (1 : Int32))] [(.int (1 : Int32)), (.int (f2 (f1 ((p1 &&& (2147483647 : Int32)) % (11 : Int32)) w_START_OBJECT w_END_OBJECT w_START_ARRAY w_END_ARRAY w_FIELD_NAME w_STRING w_INTEGER w_DECIMAL w_TRUE w_FALSE w_NULL) w_END_OBJECT w_END_ARRAY))])) _
        refine XS.icmpYes X41.here hx rfl (pc0 := 34) (pc' := 41) rfl (hb hby at_34) rfl (feq hc42).2 (by decide) (by decide) ?_
        show Steps p.tables e below (T41.setTop (mkF m 41 #[.val (.int p1), .val (.int ((p1 &&& (2147483647 : Int32)) % (11 : Int32))), .val (.ref (f1 ((p1 &&& (2147483647 : Int32)) % (11 : Int32)) w_START_OBJECT w_END_OBJECT w_START_ARRAY w_END_ARRAY w_FIELD_NAME w_STRING w_INTEGER w_DECIMAL w_TRUE w_FALSE w_NULL)), .val (.int (1 : Int32))] [])) _
        refine XS.iconst X41.here hx rfl (hb hby at_41) ?_
        show Steps p.tables e below (T41.setTop (mkF m 42 #[.val (.int p1), .val (.int ((p1 &&& (2147483647 : Int32)) % (11 : Int32))), .val (.ref (f1 ((p1 &&& (2147483647 : Int32)) % (11 : Int32)) w_START_OBJECT w_END_OBJECT w_START_ARRAY w_END_ARRAY w_FIELD_NAME w_STRING w_INTEGER w_DECIMAL w_TRUE w_FALSE w_NULL)), .val (.int (1 : Int32))] [(.int (0 : Int32))])) _
        exact retN X41 hx (t := .boolean) Bd.returns (by simp) (hb hby at_42) hr
      · show QP _ h0 n0 _ T41.heap _
        rw [e41, show f0 p1 w_START_OBJECT w_END_OBJECT w_START_ARRAY w_END_ARRAY w_FIELD_NAME w_STRING w_INTEGER w_DECIMAL w_TRUE w_FALSE w_NULL = (0 : Int32) from by unfold f0; rw [if_pos hc39, if_neg hc42]]
        exact ⟨rfl, N41, rfl⟩
  · have pre45 : ∀ t, Steps p.tables e below (T38.setTop (mkF m 20 #[.val (.int p1), .val (.int ((p1 &&& (2147483647 : Int32)) % (11 : Int32))), .val (.ref (f1 ((p1 &&& (2147483647 : Int32)) % (11 : Int32)) w_START_OBJECT w_END_OBJECT w_START_ARRAY w_END_ARRAY w_FIELD_NAME w_STRING w_INTEGER w_DECIMAL w_TRUE w_FALSE w_NULL)), .unset] [(.int (3 : Int32)), (.int ((p1 &&& (2147483647 : Int32)) % (11 : Int32)))])) t → Steps p.tables e below (s₁.setTop (entryFrame m #[(.int p1)] maxLocals)) t := fun t k => by
      refine pre40 _ ?_
      show Steps p.tables e below (T38.setTop (mkF m 15 #[.val (.int p1), .val (.int ((p1 &&& (2147483647 : Int32)) % (11 : Int32))), .val (.ref (f1 ((p1 &&& (2147483647 : Int32)) % (11 : Int32)) w_START_OBJECT w_END_OBJECT w_START_ARRAY w_END_ARRAY w_FIELD_NAME w_STRING w_INTEGER w_DECIMAL w_TRUE w_FALSE w_NULL)), .unset] [(.int (1 : Int32)), (.int ((p1 &&& (2147483647 : Int32)) % (11 : Int32)))])) _
      refine XS.icmpNo X38.here hx rfl (hb hby at_15) rfl (feq hc39).1 ?_
      show Steps p.tables e below (T38.setTop (mkF m 18 #[.val (.int p1), .val (.int ((p1 &&& (2147483647 : Int32)) % (11 : Int32))), .val (.ref (f1 ((p1 &&& (2147483647 : Int32)) % (11 : Int32)) w_START_OBJECT w_END_OBJECT w_START_ARRAY w_END_ARRAY w_FIELD_NAME w_STRING w_INTEGER w_DECIMAL w_TRUE w_FALSE w_NULL)), .unset] [])) _
      refine XS.iloadN X38.here hx rfl (hb hby at_18) rfl ?_
      show Steps p.tables e below (T38.setTop (mkF m 19 #[.val (.int p1), .val (.int ((p1 &&& (2147483647 : Int32)) % (11 : Int32))), .val (.ref (f1 ((p1 &&& (2147483647 : Int32)) % (11 : Int32)) w_START_OBJECT w_END_OBJECT w_START_ARRAY w_END_ARRAY w_FIELD_NAME w_STRING w_INTEGER w_DECIMAL w_TRUE w_FALSE w_NULL)), .unset] [(.int ((p1 &&& (2147483647 : Int32)) % (11 : Int32)))])) _
      refine XS.iconst X38.here hx rfl (hb hby at_19) ?_
      exact k
    by_cases hc44 : ((p1 &&& (2147483647 : Int32)) % (11 : Int32)) = (3 : Int32)
    · obtain ⟨cq46, kq46, q46a, q46b, q46c⟩ := isOf hZ e38 (f1_all (P := fun a => Exa Z h0 a "com/example/lendscribe/lendscribe/read/JsonScanner$Kind") ((p1 &&& (2147483647 : Int32)) % (11 : Int32)) w_START_OBJECT w_END_OBJECT w_START_ARRAY w_END_ARRAY w_FIELD_NAME w_STRING w_INTEGER w_DECIMAL w_TRUE w_FALSE w_NULL E_START_OBJECT E_END_OBJECT E_START_ARRAY E_END_ARRAY E_FIELD_NAME E_STRING E_INTEGER E_DECIMAL E_TRUE E_FALSE E_NULL)
      obtain ⟨_, _, ⟨T46, L46, k46, n46⟩, -, X46, ⟨Lc46, hQ46, l46, y46, z46⟩, st46⟩ := X38.virtualBack hx (y := (⟨"com/example/lendscribe/lendscribe/read/JsonScanner$Kind", "isEnd", "()Z"⟩ : MethodName)) (z := (⟨"com/example/lendscribe/lendscribe/read/JsonScanner$Kind", "isEnd", "()Z"⟩ : MethodName)) hown (mvT hZ (hw _ (List.mem_of_getElem? (i := 8) rfl))) (mvT hZ (hw _ (List.mem_of_getElem? (i := 9) rfl))) (notFace_of_selects (args := #[]) (mvT hZ (hw _ (List.mem_of_getElem? (i := 11) rfl)))) (mvT hZ (hw _ (List.mem_of_getElem? (i := 11) rfl))) (mvT hZ (hw _ (List.mem_of_getElem? (i := 10) rfl))) (by decide) (backOf (W := 0) (rm2 l Z a0 hw [] (f1 ((p1 &&& (2147483647 : Int32)) % (11 : Int32)) w_START_OBJECT w_END_OBJECT w_START_ARRAY w_END_ARRAY w_FIELD_NAME w_STRING w_INTEGER w_DECIMAL w_TRUE w_FALSE w_NULL) w_END_OBJECT w_END_ARRAY h0 n0 Z0 S_END_OBJECT S_END_ARRAY) hZ (hw _ (List.mem_of_getElem? (i := 12) rfl)) (hw _ (List.mem_of_getElem? (i := 6) rfl)) (by decide) (by decide)) q46a q46c (g := (mkF m 30 #[.val (.int p1), .val (.int ((p1 &&& (2147483647 : Int32)) % (11 : Int32))), .val (.ref (f1 ((p1 &&& (2147483647 : Int32)) % (11 : Int32)) w_START_OBJECT w_END_OBJECT w_START_ARRAY w_END_ARRAY w_FIELD_NAME w_STRING w_INTEGER w_DECIMAL w_TRUE w_FALSE w_NULL)), .val (.int (1 : Int32))] [(.ref (f1 ((p1 &&& (2147483647 : Int32)) % (11 : Int32)) w_START_OBJECT w_END_OBJECT w_START_ARRAY w_END_ARRAY w_FIELD_NAME w_STRING w_INTEGER w_DECIMAL w_TRUE w_FALSE w_NULL))])) rfl (by rw [hml]; rfl) (Steps.refl _) (argsL := []) (rest := []) (lenOf pd_1 rfl) rfl (by show 2 * 0 + _ ≤ _; exact Nat.le_of_eq rfl) (hb hby at_30) (fun _ _ => ⟨rfl, e38, (by decide : 0 + 0 ≤ _), (by decide : 0 + 0 ≤ _)⟩)
      dsimp only [Pt.U, Pt.locs, Pt.cells, Pt.slots] at X46 l46 y46 z46 st46 hQ46
      subst l46 y46 z46
      obtain ⟨rfl, N46q, e46⟩ := hQ46
      have N46 := Fr.app N38 N46q
      have pre48 : ∀ t, Steps p.tables e below (T46.setTop (mkF m 34 #[.val (.int p1), .val (.int ((p1 &&& (2147483647 : Int32)) % (11 : Int32))), .val (.ref (f1 ((p1 &&& (2147483647 : Int32)) % (11 : Int32)) w_START_OBJECT w_END_OBJECT w_START_ARRAY w_END_ARRAY w_FIELD_NAME w_STRING w_INTEGER w_DECIMAL w_TRUE w_FALSE w_NULL)), .val (.int (1 : Int32))] [(.int (1 : Int32)), (.int (f2 (f1 ((p1 &&& (2147483647 : Int32)) % (11 : Int32)) w_START_OBJECT w_END_OBJECT w_START_ARRAY w_END_ARRAY w_FIELD_NAME w_STRING w_INTEGER w_DECIMAL w_TRUE w_FALSE w_NULL) w_END_OBJECT w_END_ARRAY))])) t → Steps p.tables e below (s₁.setTop (entryFrame m #[(.int p1)] maxLocals)) t := fun t k => by
        refine pre45 _ ?_
        show Steps p.tables e below (T38.setTop (mkF m 20 #[.val (.int p1), .val (.int ((p1 &&& (2147483647 : Int32)) % (11 : Int32))), .val (.ref (f1 ((p1 &&& (2147483647 : Int32)) % (11 : Int32)) w_START_OBJECT w_END_OBJECT w_START_ARRAY w_END_ARRAY w_FIELD_NAME w_STRING w_INTEGER w_DECIMAL w_TRUE w_FALSE w_NULL)), .unset] [(.int (3 : Int32)), (.int ((p1 &&& (2147483647 : Int32)) % (11 : Int32)))])) _
        refine XS.icmpNo X38.here hx rfl (hb hby at_20) rfl (teq hc44).2 ?_
        show Steps p.tables e below (T38.setTop (mkF m 23 #[.val (.int p1), .val (.int ((p1 &&& (2147483647 : Int32)) % (11 : Int32))), .val (.ref (f1 ((p1 &&& (2147483647 : Int32)) % (11 : Int32)) w_START_OBJECT w_END_OBJECT w_START_ARRAY w_END_ARRAY w_FIELD_NAME w_STRING w_INTEGER w_DECIMAL w_TRUE w_FALSE w_NULL)), .unset] [])) _
        refine XS.iconst X38.here hx rfl (hb hby at_23) ?_
        show Steps p.tables e below (T38.setTop (mkF m 24 #[.val (.int p1), .val (.int ((p1 &&& (2147483647 : Int32)) % (11 : Int32))), .val (.ref (f1 ((p1 &&& (2147483647 : Int32)) % (11 : Int32)) w_START_OBJECT w_END_OBJECT w_START_ARRAY w_END_ARRAY w_FIELD_NAME w_STRING w_INTEGER w_DECIMAL w_TRUE w_FALSE w_NULL)), .unset] [(.int (1 : Int32))])) _
        refine XS.goto X38.here hx rfl (pc0 := 24) (pc' := 28) rfl (hb hby at_24) (by decide) (by decide) ?_
        show Steps p.tables e below (T38.setTop (mkF m 28 #[.val (.int p1), .val (.int ((p1 &&& (2147483647 : Int32)) % (11 : Int32))), .val (.ref (f1 ((p1 &&& (2147483647 : Int32)) % (11 : Int32)) w_START_OBJECT w_END_OBJECT w_START_ARRAY w_END_ARRAY w_FIELD_NAME w_STRING w_INTEGER w_DECIMAL w_TRUE w_FALSE w_NULL)), .unset] [(.int (1 : Int32))])) _
        refine XS.istoreN X38.here hx rfl (hb hby at_28) rfl (l' := #[.val (.int p1), .val (.int ((p1 &&& (2147483647 : Int32)) % (11 : Int32))), .val (.ref (f1 ((p1 &&& (2147483647 : Int32)) % (11 : Int32)) w_START_OBJECT w_END_OBJECT w_START_ARRAY w_END_ARRAY w_FIELD_NAME w_STRING w_INTEGER w_DECIMAL w_TRUE w_FALSE w_NULL)), .val (.int (1 : Int32))]) rfl ?_
        show Steps p.tables e below (T38.setTop (mkF m 29 #[.val (.int p1), .val (.int ((p1 &&& (2147483647 : Int32)) % (11 : Int32))), .val (.ref (f1 ((p1 &&& (2147483647 : Int32)) % (11 : Int32)) w_START_OBJECT w_END_OBJECT w_START_ARRAY w_END_ARRAY w_FIELD_NAME w_STRING w_INTEGER w_DECIMAL w_TRUE w_FALSE w_NULL)), .val (.int (1 : Int32))] [])) _
        refine XS.aloadN X38.here hx rfl (hb hby at_29) rfl rfl ?_
        show Steps p.tables e below (T38.setTop (mkF m 30 #[.val (.int p1), .val (.int ((p1 &&& (2147483647 : Int32)) % (11 : Int32))), .val (.ref (f1 ((p1 &&& (2147483647 : Int32)) % (11 : Int32)) w_START_OBJECT w_END_OBJECT w_START_ARRAY w_END_ARRAY w_FIELD_NAME w_STRING w_INTEGER w_DECIMAL w_TRUE w_FALSE w_NULL)), .val (.int (1 : Int32))] [(.ref (f1 ((p1 &&& (2147483647 : Int32)) % (11 : Int32)) w_START_OBJECT w_END_OBJECT w_START_ARRAY w_END_ARRAY w_FIELD_NAME w_STRING w_INTEGER w_DECIMAL w_TRUE w_FALSE w_NULL))])) _
        refine st46.trans ?_
        show Steps p.tables e below (T46.setTop (mkF m 33 #[.val (.int p1), .val (.int ((p1 &&& (2147483647 : Int32)) % (11 : Int32))), .val (.ref (f1 ((p1 &&& (2147483647 : Int32)) % (11 : Int32)) w_START_OBJECT w_END_OBJECT w_START_ARRAY w_END_ARRAY w_FIELD_NAME w_STRING w_INTEGER w_DECIMAL w_TRUE w_FALSE w_NULL)), .val (.int (1 : Int32))] [(.int (f2 (f1 ((p1 &&& (2147483647 : Int32)) % (11 : Int32)) w_START_OBJECT w_END_OBJECT w_START_ARRAY w_END_ARRAY w_FIELD_NAME w_STRING w_INTEGER w_DECIMAL w_TRUE w_FALSE w_NULL) w_END_OBJECT w_END_ARRAY))])) _
        refine XS.iloadN X46.here hx rfl (hb hby at_33) rfl ?_
        exact k
      by_cases hc47 : (f2 (f1 ((p1 &&& (2147483647 : Int32)) % (11 : Int32)) w_START_OBJECT w_END_OBJECT w_START_ARRAY w_END_ARRAY w_FIELD_NAME w_STRING w_INTEGER w_DECIMAL w_TRUE w_FALSE w_NULL) w_END_OBJECT w_END_ARRAY) = (1 : Int32)
      · obtain ⟨fs, hr, hrun, hended, hW, hsame⟩ := X46.leave (v := some (.int (1 : Int32))) (fun h => by rw [Bd.returns] at h; cases h)
        refine ⟨_, _, pre48 _ ?_, hrun, hended, _, _, rfl, ?_, ⟨_, rfl⟩, hW, hsame.mono (by decide) (by decide)⟩
        · show Steps p.tables e below (T46.setTop (mkF m 34 #[.val (.int p1), .val (.int ((p1 &&& (2147483647 : Int32)) % (11 : Int32))), .val (.ref (f1 ((p1 &&& (2147483647 : Int32)) % (11 : Int32)) w_START_OBJECT w_END_OBJECT w_START_ARRAY w_END_ARRAY w_FIELD_NAME w_STRING w_INTEGER w_DECIMAL w_TRUE w_FALSE w_NULL)), .val (.int (1 : Int32))] [(.int (1 : Int32)), (.int (f2 (f1 ((p1 &&& (2147483647 : Int32)) % (11 : Int32)) w_START_OBJECT w_END_OBJECT w_START_ARRAY w_END_ARRAY w_FIELD_NAME w_STRING w_INTEGER w_DECIMAL w_TRUE w_FALSE w_NULL) w_END_OBJECT w_END_ARRAY))])) _
          refine XS.icmpNo X46.here hx rfl (hb hby at_34) rfl (teq hc47).2 ?_
          show Steps p.tables e below (T46.setTop (mkF m 37 #[.val (.int p1), .val (.int ((p1 &&& (2147483647 : Int32)) % (11 : Int32))), .val (.ref (f1 ((p1 &&& (2147483647 : Int32)) % (11 : Int32)) w_START_OBJECT w_END_OBJECT w_START_ARRAY w_END_ARRAY w_FIELD_NAME w_STRING w_INTEGER w_DECIMAL w_TRUE w_FALSE w_NULL)), .val (.int (1 : Int32))] [])) _
          refine XS.iconst X46.here hx rfl (hb hby at_37) ?_
          show Steps p.tables e below (T46.setTop (mkF m 38 #[.val (.int p1), .val (.int ((p1 &&& (2147483647 : Int32)) % (11 : Int32))), .val (.ref (f1 ((p1 &&& (2147483647 : Int32)) % (11 : Int32)) w_START_OBJECT w_END_OBJECT w_START_ARRAY w_END_ARRAY w_FIELD_NAME w_STRING w_INTEGER w_DECIMAL w_TRUE w_FALSE w_NULL)), .val (.int (1 : Int32))] [(.int (1 : Int32))])) _
          refine XS.goto X46.here hx rfl (pc0 := 38) (pc' := 42) rfl (hb hby at_38) (by decide) (by decide) ?_
          show Steps p.tables e below (T46.setTop (mkF m 42 #[.val (.int p1), .val (.int ((p1 &&& (2147483647 : Int32)) % (11 : Int32))), .val (.ref (f1 ((p1 &&& (2147483647 : Int32)) % (11 : Int32)) w_START_OBJECT w_END_OBJECT w_START_ARRAY w_END_ARRAY w_FIELD_NAME w_STRING w_INTEGER w_DECIMAL w_TRUE w_FALSE w_NULL)), .val (.int (1 : Int32))] [(.int (1 : Int32))])) _
          exact retN X46 hx (t := .boolean) Bd.returns (by simp) (hb hby at_42) hr
        · show QP _ h0 n0 _ T46.heap _
          rw [e46, show f0 p1 w_START_OBJECT w_END_OBJECT w_START_ARRAY w_END_ARRAY w_FIELD_NAME w_STRING w_INTEGER w_DECIMAL w_TRUE w_FALSE w_NULL = (1 : Int32) from by unfold f0; rw [if_neg hc39, if_pos hc44, if_pos hc47]]
          exact ⟨rfl, N46, rfl⟩
      · obtain ⟨fs, hr, hrun, hended, hW, hsame⟩ := X46.leave (v := some (.int (0 : Int32))) (fun h => by rw [Bd.returns] at h; cases h)
        refine ⟨_, _, pre48 _ ?_, hrun, hended, _, _, rfl, ?_, ⟨_, rfl⟩, hW, hsame.mono (by decide) (by decide)⟩
        · show Steps p.tables e below (T46.setTop (mkF m 34 #[.val (.int p1), .val (.int ((p1 &&& (2147483647 : Int32)) % (11 : Int32))), .val (.ref (f1 ((p1 &&& (2147483647 : Int32)) % (11 : Int32)) w_START_OBJECT w_END_OBJECT w_START_ARRAY w_END_ARRAY w_FIELD_NAME w_STRING w_INTEGER w_DECIMAL w_TRUE w_FALSE w_NULL)), .val (.int (1 : Int32))] [(.int (1 : Int32)), (.int (f2 (f1 ((p1 &&& (2147483647 : Int32)) % (11 : Int32)) w_START_OBJECT w_END_OBJECT w_START_ARRAY w_END_ARRAY w_FIELD_NAME w_STRING w_INTEGER w_DECIMAL w_TRUE w_FALSE w_NULL) w_END_OBJECT w_END_ARRAY))])) _
          refine XS.icmpYes X46.here hx rfl (pc0 := 34) (pc' := 41) rfl (hb hby at_34) rfl (feq hc47).2 (by decide) (by decide) ?_
          show Steps p.tables e below (T46.setTop (mkF m 41 #[.val (.int p1), .val (.int ((p1 &&& (2147483647 : Int32)) % (11 : Int32))), .val (.ref (f1 ((p1 &&& (2147483647 : Int32)) % (11 : Int32)) w_START_OBJECT w_END_OBJECT w_START_ARRAY w_END_ARRAY w_FIELD_NAME w_STRING w_INTEGER w_DECIMAL w_TRUE w_FALSE w_NULL)), .val (.int (1 : Int32))] [])) _
          refine XS.iconst X46.here hx rfl (hb hby at_41) ?_
          show Steps p.tables e below (T46.setTop (mkF m 42 #[.val (.int p1), .val (.int ((p1 &&& (2147483647 : Int32)) % (11 : Int32))), .val (.ref (f1 ((p1 &&& (2147483647 : Int32)) % (11 : Int32)) w_START_OBJECT w_END_OBJECT w_START_ARRAY w_END_ARRAY w_FIELD_NAME w_STRING w_INTEGER w_DECIMAL w_TRUE w_FALSE w_NULL)), .val (.int (1 : Int32))] [(.int (0 : Int32))])) _
          exact retN X46 hx (t := .boolean) Bd.returns (by simp) (hb hby at_42) hr
        · show QP _ h0 n0 _ T46.heap _
          rw [e46, show f0 p1 w_START_OBJECT w_END_OBJECT w_START_ARRAY w_END_ARRAY w_FIELD_NAME w_STRING w_INTEGER w_DECIMAL w_TRUE w_FALSE w_NULL = (0 : Int32) from by unfold f0; rw [if_neg hc39, if_pos hc44, if_neg hc47]]
          exact ⟨rfl, N46, rfl⟩
    · obtain ⟨cq49, kq49, q49a, q49b, q49c⟩ := isOf hZ e38 (f1_all (P := fun a => Exa Z h0 a "com/example/lendscribe/lendscribe/read/JsonScanner$Kind") ((p1 &&& (2147483647 : Int32)) % (11 : Int32)) w_START_OBJECT w_END_OBJECT w_START_ARRAY w_END_ARRAY w_FIELD_NAME w_STRING w_INTEGER w_DECIMAL w_TRUE w_FALSE w_NULL E_START_OBJECT E_END_OBJECT E_START_ARRAY E_END_ARRAY E_FIELD_NAME E_STRING E_INTEGER E_DECIMAL E_TRUE E_FALSE E_NULL)
      obtain ⟨_, _, ⟨T49, L49, k49, n49⟩, -, X49, ⟨Lc49, hQ49, l49, y49, z49⟩, st49⟩ := X38.virtualBack hx (y := (⟨"com/example/lendscribe/lendscribe/read/JsonScanner$Kind", "isEnd", "()Z"⟩ : MethodName)) (z := (⟨"com/example/lendscribe/lendscribe/read/JsonScanner$Kind", "isEnd", "()Z"⟩ : MethodName)) hown (mvT hZ (hw _ (List.mem_of_getElem? (i := 8) rfl))) (mvT hZ (hw _ (List.mem_of_getElem? (i := 9) rfl))) (notFace_of_selects (args := #[]) (mvT hZ (hw _ (List.mem_of_getElem? (i := 11) rfl)))) (mvT hZ (hw _ (List.mem_of_getElem? (i := 11) rfl))) (mvT hZ (hw _ (List.mem_of_getElem? (i := 10) rfl))) (by decide) (backOf (W := 0) (rm2 l Z a0 hw [] (f1 ((p1 &&& (2147483647 : Int32)) % (11 : Int32)) w_START_OBJECT w_END_OBJECT w_START_ARRAY w_END_ARRAY w_FIELD_NAME w_STRING w_INTEGER w_DECIMAL w_TRUE w_FALSE w_NULL) w_END_OBJECT w_END_ARRAY h0 n0 Z0 S_END_OBJECT S_END_ARRAY) hZ (hw _ (List.mem_of_getElem? (i := 12) rfl)) (hw _ (List.mem_of_getElem? (i := 6) rfl)) (by decide) (by decide)) q49a q49c (g := (mkF m 30 #[.val (.int p1), .val (.int ((p1 &&& (2147483647 : Int32)) % (11 : Int32))), .val (.ref (f1 ((p1 &&& (2147483647 : Int32)) % (11 : Int32)) w_START_OBJECT w_END_OBJECT w_START_ARRAY w_END_ARRAY w_FIELD_NAME w_STRING w_INTEGER w_DECIMAL w_TRUE w_FALSE w_NULL)), .val (.int (0 : Int32))] [(.ref (f1 ((p1 &&& (2147483647 : Int32)) % (11 : Int32)) w_START_OBJECT w_END_OBJECT w_START_ARRAY w_END_ARRAY w_FIELD_NAME w_STRING w_INTEGER w_DECIMAL w_TRUE w_FALSE w_NULL))])) rfl (by rw [hml]; rfl) (Steps.refl _) (argsL := []) (rest := []) (lenOf pd_1 rfl) rfl (by show 2 * 0 + _ ≤ _; exact Nat.le_of_eq rfl) (hb hby at_30) (fun _ _ => ⟨rfl, e38, (by decide : 0 + 0 ≤ _), (by decide : 0 + 0 ≤ _)⟩)
      dsimp only [Pt.U, Pt.locs, Pt.cells, Pt.slots] at X49 l49 y49 z49 st49 hQ49
      subst l49 y49 z49
      obtain ⟨rfl, N49q, e49⟩ := hQ49
      have N49 := Fr.app N38 N49q
      have pre51 : ∀ t, Steps p.tables e below (T49.setTop (mkF m 34 #[.val (.int p1), .val (.int ((p1 &&& (2147483647 : Int32)) % (11 : Int32))), .val (.ref (f1 ((p1 &&& (2147483647 : Int32)) % (11 : Int32)) w_START_OBJECT w_END_OBJECT w_START_ARRAY w_END_ARRAY w_FIELD_NAME w_STRING w_INTEGER w_DECIMAL w_TRUE w_FALSE w_NULL)), .val (.int (0 : Int32))] [(.int (0 : Int32)), (.int (f2 (f1 ((p1 &&& (2147483647 : Int32)) % (11 : Int32)) w_START_OBJECT w_END_OBJECT w_START_ARRAY w_END_ARRAY w_FIELD_NAME w_STRING w_INTEGER w_DECIMAL w_TRUE w_FALSE w_NULL) w_END_OBJECT w_END_ARRAY))])) t → Steps p.tables e below (s₁.setTop (entryFrame m #[(.int p1)] maxLocals)) t := fun t k => by
        refine pre45 _ ?_
        show Steps p.tables e below (T38.setTop (mkF m 20 #[.val (.int p1), .val (.int ((p1 &&& (2147483647 : Int32)) % (11 : Int32))), .val (.ref (f1 ((p1 &&& (2147483647 : Int32)) % (11 : Int32)) w_START_OBJECT w_END_OBJECT w_START_ARRAY w_END_ARRAY w_FIELD_NAME w_STRING w_INTEGER w_DECIMAL w_TRUE w_FALSE w_NULL)), .unset] [(.int (3 : Int32)), (.int ((p1 &&& (2147483647 : Int32)) % (11 : Int32)))])) _
        refine XS.icmpYes X38.here hx rfl (pc0 := 20) (pc' := 27) rfl (hb hby at_20) rfl (feq hc44).2 (by decide) (by decide) ?_
        show Steps p.tables e below (T38.setTop (mkF m 27 #[.val (.int p1), .val (.int ((p1 &&& (2147483647 : Int32)) % (11 : Int32))), .val (.ref (f1 ((p1 &&& (2147483647 : Int32)) % (11 : Int32)) w_START_OBJECT w_END_OBJECT w_START_ARRAY w_END_ARRAY w_FIELD_NAME w_STRING w_INTEGER w_DECIMAL w_TRUE w_FALSE w_NULL)), .unset] [])) _
        refine XS.iconst X38.here hx rfl (hb hby at_27) ?_
        show Steps p.tables e below (T38.setTop (mkF m 28 #[.val (.int p1), .val (.int ((p1 &&& (2147483647 : Int32)) % (11 : Int32))), .val (.ref (f1 ((p1 &&& (2147483647 : Int32)) % (11 : Int32)) w_START_OBJECT w_END_OBJECT w_START_ARRAY w_END_ARRAY w_FIELD_NAME w_STRING w_INTEGER w_DECIMAL w_TRUE w_FALSE w_NULL)), .unset] [(.int (0 : Int32))])) _
        refine XS.istoreN X38.here hx rfl (hb hby at_28) rfl (l' := #[.val (.int p1), .val (.int ((p1 &&& (2147483647 : Int32)) % (11 : Int32))), .val (.ref (f1 ((p1 &&& (2147483647 : Int32)) % (11 : Int32)) w_START_OBJECT w_END_OBJECT w_START_ARRAY w_END_ARRAY w_FIELD_NAME w_STRING w_INTEGER w_DECIMAL w_TRUE w_FALSE w_NULL)), .val (.int (0 : Int32))]) rfl ?_
        show Steps p.tables e below (T38.setTop (mkF m 29 #[.val (.int p1), .val (.int ((p1 &&& (2147483647 : Int32)) % (11 : Int32))), .val (.ref (f1 ((p1 &&& (2147483647 : Int32)) % (11 : Int32)) w_START_OBJECT w_END_OBJECT w_START_ARRAY w_END_ARRAY w_FIELD_NAME w_STRING w_INTEGER w_DECIMAL w_TRUE w_FALSE w_NULL)), .val (.int (0 : Int32))] [])) _
        refine XS.aloadN X38.here hx rfl (hb hby at_29) rfl rfl ?_
        show Steps p.tables e below (T38.setTop (mkF m 30 #[.val (.int p1), .val (.int ((p1 &&& (2147483647 : Int32)) % (11 : Int32))), .val (.ref (f1 ((p1 &&& (2147483647 : Int32)) % (11 : Int32)) w_START_OBJECT w_END_OBJECT w_START_ARRAY w_END_ARRAY w_FIELD_NAME w_STRING w_INTEGER w_DECIMAL w_TRUE w_FALSE w_NULL)), .val (.int (0 : Int32))] [(.ref (f1 ((p1 &&& (2147483647 : Int32)) % (11 : Int32)) w_START_OBJECT w_END_OBJECT w_START_ARRAY w_END_ARRAY w_FIELD_NAME w_STRING w_INTEGER w_DECIMAL w_TRUE w_FALSE w_NULL))])) _
        refine st49.trans ?_
        show Steps p.tables e below (T49.setTop (mkF m 33 #[.val (.int p1), .val (.int ((p1 &&& (2147483647 : Int32)) % (11 : Int32))), .val (.ref (f1 ((p1 &&& (2147483647 : Int32)) % (11 : Int32)) w_START_OBJECT w_END_OBJECT w_START_ARRAY w_END_ARRAY w_FIELD_NAME w_STRING w_INTEGER w_DECIMAL w_TRUE w_FALSE w_NULL)), .val (.int (0 : Int32))] [(.int (f2 (f1 ((p1 &&& (2147483647 : Int32)) % (11 : Int32)) w_START_OBJECT w_END_OBJECT w_START_ARRAY w_END_ARRAY w_FIELD_NAME w_STRING w_INTEGER w_DECIMAL w_TRUE w_FALSE w_NULL) w_END_OBJECT w_END_ARRAY))])) _
        refine XS.iloadN X49.here hx rfl (hb hby at_33) rfl ?_
        exact k
      by_cases hc50 : (f2 (f1 ((p1 &&& (2147483647 : Int32)) % (11 : Int32)) w_START_OBJECT w_END_OBJECT w_START_ARRAY w_END_ARRAY w_FIELD_NAME w_STRING w_INTEGER w_DECIMAL w_TRUE w_FALSE w_NULL) w_END_OBJECT w_END_ARRAY) = (0 : Int32)
      · obtain ⟨fs, hr, hrun, hended, hW, hsame⟩ := X49.leave (v := some (.int (1 : Int32))) (fun h => by rw [Bd.returns] at h; cases h)
        refine ⟨_, _, pre51 _ ?_, hrun, hended, _, _, rfl, ?_, ⟨_, rfl⟩, hW, hsame.mono (by decide) (by decide)⟩
        · show Steps p.tables e below (T49.setTop (mkF m 34 #[.val (.int p1), .val (.int ((p1 &&& (2147483647 : Int32)) % (11 : Int32))), .val (.ref (f1 ((p1 &&& (2147483647 : Int32)) % (11 : Int32)) w_START_OBJECT w_END_OBJECT w_START_ARRAY w_END_ARRAY w_FIELD_NAME w_STRING w_INTEGER w_DECIMAL w_TRUE w_FALSE w_NULL)), .val (.int (0 : Int32))] [(.int (0 : Int32)), (.int (f2 (f1 ((p1 &&& (2147483647 : Int32)) % (11 : Int32)) w_START_OBJECT w_END_OBJECT w_START_ARRAY w_END_ARRAY w_FIELD_NAME w_STRING w_INTEGER w_DECIMAL w_TRUE w_FALSE w_NULL) w_END_OBJECT w_END_ARRAY))])) _
          refine XS.icmpNo X49.here hx rfl (hb hby at_34) rfl (teq hc50).2 ?_
          show Steps p.tables e below (T49.setTop (mkF m 37 #[.val (.int p1), .val (.int ((p1 &&& (2147483647 : Int32)) % (11 : Int32))), .val (.ref (f1 ((p1 &&& (2147483647 : Int32)) % (11 : Int32)) w_START_OBJECT w_END_OBJECT w_START_ARRAY w_END_ARRAY w_FIELD_NAME w_STRING w_INTEGER w_DECIMAL w_TRUE w_FALSE w_NULL)), .val (.int (0 : Int32))] [])) _
          refine XS.iconst X49.here hx rfl (hb hby at_37) ?_
          show Steps p.tables e below (T49.setTop (mkF m 38 #[.val (.int p1), .val (.int ((p1 &&& (2147483647 : Int32)) % (11 : Int32))), .val (.ref (f1 ((p1 &&& (2147483647 : Int32)) % (11 : Int32)) w_START_OBJECT w_END_OBJECT w_START_ARRAY w_END_ARRAY w_FIELD_NAME w_STRING w_INTEGER w_DECIMAL w_TRUE w_FALSE w_NULL)), .val (.int (0 : Int32))] [(.int (1 : Int32))])) _
          refine XS.goto X49.here hx rfl (pc0 := 38) (pc' := 42) rfl (hb hby at_38) (by decide) (by decide) ?_
          show Steps p.tables e below (T49.setTop (mkF m 42 #[.val (.int p1), .val (.int ((p1 &&& (2147483647 : Int32)) % (11 : Int32))), .val (.ref (f1 ((p1 &&& (2147483647 : Int32)) % (11 : Int32)) w_START_OBJECT w_END_OBJECT w_START_ARRAY w_END_ARRAY w_FIELD_NAME w_STRING w_INTEGER w_DECIMAL w_TRUE w_FALSE w_NULL)), .val (.int (0 : Int32))] [(.int (1 : Int32))])) _
          exact retN X49 hx (t := .boolean) Bd.returns (by simp) (hb hby at_42) hr
        · show QP _ h0 n0 _ T49.heap _
          rw [e49, show f0 p1 w_START_OBJECT w_END_OBJECT w_START_ARRAY w_END_ARRAY w_FIELD_NAME w_STRING w_INTEGER w_DECIMAL w_TRUE w_FALSE w_NULL = (1 : Int32) from by unfold f0; rw [if_neg hc39, if_neg hc44, if_pos hc50]]
          exact ⟨rfl, N49, rfl⟩
      · obtain ⟨fs, hr, hrun, hended, hW, hsame⟩ := X49.leave (v := some (.int (0 : Int32))) (fun h => by rw [Bd.returns] at h; cases h)
        refine ⟨_, _, pre51 _ ?_, hrun, hended, _, _, rfl, ?_, ⟨_, rfl⟩, hW, hsame.mono (by decide) (by decide)⟩
        · show Steps p.tables e below (T49.setTop (mkF m 34 #[.val (.int p1), .val (.int ((p1 &&& (2147483647 : Int32)) % (11 : Int32))), .val (.ref (f1 ((p1 &&& (2147483647 : Int32)) % (11 : Int32)) w_START_OBJECT w_END_OBJECT w_START_ARRAY w_END_ARRAY w_FIELD_NAME w_STRING w_INTEGER w_DECIMAL w_TRUE w_FALSE w_NULL)), .val (.int (0 : Int32))] [(.int (0 : Int32)), (.int (f2 (f1 ((p1 &&& (2147483647 : Int32)) % (11 : Int32)) w_START_OBJECT w_END_OBJECT w_START_ARRAY w_END_ARRAY w_FIELD_NAME w_STRING w_INTEGER w_DECIMAL w_TRUE w_FALSE w_NULL) w_END_OBJECT w_END_ARRAY))])) _
          refine XS.icmpYes X49.here hx rfl (pc0 := 34) (pc' := 41) rfl (hb hby at_34) rfl (feq hc50).2 (by decide) (by decide) ?_
          show Steps p.tables e below (T49.setTop (mkF m 41 #[.val (.int p1), .val (.int ((p1 &&& (2147483647 : Int32)) % (11 : Int32))), .val (.ref (f1 ((p1 &&& (2147483647 : Int32)) % (11 : Int32)) w_START_OBJECT w_END_OBJECT w_START_ARRAY w_END_ARRAY w_FIELD_NAME w_STRING w_INTEGER w_DECIMAL w_TRUE w_FALSE w_NULL)), .val (.int (0 : Int32))] [])) _
          refine XS.iconst X49.here hx rfl (hb hby at_41) ?_
          show Steps p.tables e below (T49.setTop (mkF m 42 #[.val (.int p1), .val (.int ((p1 &&& (2147483647 : Int32)) % (11 : Int32))), .val (.ref (f1 ((p1 &&& (2147483647 : Int32)) % (11 : Int32)) w_START_OBJECT w_END_OBJECT w_START_ARRAY w_END_ARRAY w_FIELD_NAME w_STRING w_INTEGER w_DECIMAL w_TRUE w_FALSE w_NULL)), .val (.int (0 : Int32))] [(.int (0 : Int32))])) _
          exact retN X49 hx (t := .boolean) Bd.returns (by simp) (hb hby at_42) hr
        · show QP _ h0 n0 _ T49.heap _
          rw [e49, show f0 p1 w_START_OBJECT w_END_OBJECT w_START_ARRAY w_END_ARRAY w_FIELD_NAME w_STRING w_INTEGER w_DECIMAL w_TRUE w_FALSE w_NULL = (0 : Int32) from by unfold f0; rw [if_neg hc39, if_neg hc44, if_neg hc50]]
          exact ⟨rfl, N49, rfl⟩
theorem own_idx (a : Int32) : ((a &&& (2147483647 : Int32)) % (11 : Int32)) = 0 ∨ ((a &&& (2147483647 : Int32)) % (11 : Int32)) = 1 ∨ ((a &&& (2147483647 : Int32)) % (11 : Int32)) = 2 ∨ ((a &&& (2147483647 : Int32)) % (11 : Int32)) = 3 ∨ ((a &&& (2147483647 : Int32)) % (11 : Int32)) = 4 ∨ ((a &&& (2147483647 : Int32)) % (11 : Int32)) = 5 ∨ ((a &&& (2147483647 : Int32)) % (11 : Int32)) = 6 ∨ ((a &&& (2147483647 : Int32)) % (11 : Int32)) = 7 ∨ ((a &&& (2147483647 : Int32)) % (11 : Int32)) = 8 ∨ ((a &&& (2147483647 : Int32)) % (11 : Int32)) = 9 ∨ ((a &&& (2147483647 : Int32)) % (11 : Int32)) = 10 := by
  have h1 : (a &&& 2147483647).toInt = a.toInt % (2 ^ 31 : Nat) := c_mask a _ 31 (by decide) (by decide)
  have h2 := c_irem (a &&& 2147483647) 11 11 (by decide)
  simp only [← Int32.toInt_inj]
  have e0 : (0 : Int32).toInt = 0 := by decide
  have e1 : (1 : Int32).toInt = 1 := by decide
  have e2 : (2 : Int32).toInt = 2 := by decide
  have e3 : (3 : Int32).toInt = 3 := by decide
  have e4 : (4 : Int32).toInt = 4 := by decide
  have e5 : (5 : Int32).toInt = 5 := by decide
  have e6 : (6 : Int32).toInt = 6 := by decide
  have e7 : (7 : Int32).toInt = 7 := by decide
  have e8 : (8 : Int32).toInt = 8 := by decide
  have e9 : (9 : Int32).toInt = 9 := by decide
  have e10 : (10 : Int32).toInt = 10 := by decide
  omega
theorem own_law (a : Int32) (w_START_OBJECT w_END_OBJECT w_START_ARRAY w_END_ARRAY w_FIELD_NAME w_STRING w_INTEGER w_DECIMAL w_TRUE w_FALSE w_NULL : Addr) (n_START_OBJECT_END_OBJECT : w_START_OBJECT ≠ w_END_OBJECT) (n_START_OBJECT_END_ARRAY : w_START_OBJECT ≠ w_END_ARRAY) (n_END_OBJECT_START_ARRAY : w_END_OBJECT ≠ w_START_ARRAY) (n_END_OBJECT_END_ARRAY : w_END_OBJECT ≠ w_END_ARRAY) (n_END_OBJECT_FIELD_NAME : w_END_OBJECT ≠ w_FIELD_NAME) (n_END_OBJECT_STRING : w_END_OBJECT ≠ w_STRING) (n_END_OBJECT_INTEGER : w_END_OBJECT ≠ w_INTEGER) (n_END_OBJECT_DECIMAL : w_END_OBJECT ≠ w_DECIMAL) (n_END_OBJECT_TRUE : w_END_OBJECT ≠ w_TRUE) (n_END_OBJECT_FALSE : w_END_OBJECT ≠ w_FALSE) (n_END_OBJECT_NULL : w_END_OBJECT ≠ w_NULL) (n_START_ARRAY_END_ARRAY : w_START_ARRAY ≠ w_END_ARRAY) (n_END_ARRAY_FIELD_NAME : w_END_ARRAY ≠ w_FIELD_NAME) (n_END_ARRAY_STRING : w_END_ARRAY ≠ w_STRING) (n_END_ARRAY_INTEGER : w_END_ARRAY ≠ w_INTEGER) (n_END_ARRAY_DECIMAL : w_END_ARRAY ≠ w_DECIMAL) (n_END_ARRAY_TRUE : w_END_ARRAY ≠ w_TRUE) (n_END_ARRAY_FALSE : w_END_ARRAY ≠ w_FALSE) (n_END_ARRAY_NULL : w_END_ARRAY ≠ w_NULL) : f0 a w_START_OBJECT w_END_OBJECT w_START_ARRAY w_END_ARRAY w_FIELD_NAME w_STRING w_INTEGER w_DECIMAL w_TRUE w_FALSE w_NULL = 1 := by
  rcases own_idx a with h | h | h | h | h | h | h | h | h | h | h <;> simp [f0, f1, f2, h, n_START_OBJECT_END_OBJECT, n_START_OBJECT_END_ARRAY, n_END_OBJECT_START_ARRAY, n_END_OBJECT_END_ARRAY, n_END_OBJECT_FIELD_NAME, n_END_OBJECT_STRING, n_END_OBJECT_INTEGER, n_END_OBJECT_DECIMAL, n_END_OBJECT_TRUE, n_END_OBJECT_FALSE, n_END_OBJECT_NULL, n_START_ARRAY_END_ARRAY, n_END_ARRAY_FIELD_NAME, n_END_ARRAY_STRING, n_END_ARRAY_INTEGER, n_END_ARRAY_DECIMAL, n_END_ARRAY_TRUE, n_END_ARRAY_FALSE, n_END_ARRAY_NULL, Ne.symm n_START_OBJECT_END_OBJECT, Ne.symm n_START_OBJECT_END_ARRAY, Ne.symm n_END_OBJECT_START_ARRAY, Ne.symm n_END_OBJECT_END_ARRAY, Ne.symm n_END_OBJECT_FIELD_NAME, Ne.symm n_END_OBJECT_STRING, Ne.symm n_END_OBJECT_INTEGER, Ne.symm n_END_OBJECT_DECIMAL, Ne.symm n_END_OBJECT_TRUE, Ne.symm n_END_OBJECT_FALSE, Ne.symm n_END_OBJECT_NULL, Ne.symm n_START_ARRAY_END_ARRAY, Ne.symm n_END_ARRAY_FIELD_NAME, Ne.symm n_END_ARRAY_STRING, Ne.symm n_END_ARRAY_INTEGER, Ne.symm n_END_ARRAY_DECIMAL, Ne.symm n_END_ARRAY_TRUE, Ne.symm n_END_ARRAY_FALSE, Ne.symm n_END_ARRAY_NULL]
set_option maxRecDepth 65536 in
set_option maxHeartbeats 40000000 in
theorem comes_1 {Post : Tables → Env → Array Value → State → Outcome → State → Prop} (hpost : ∀ tb e args s v u, (limb_1_1.after args s (.returned v) u = true ∧ limb_1_2.after args s (.returned v) u = true ∧ True) → FrameEnd s (.returned v) u (Jvm.fieldLocs frame_1_writes args s ++ Jvm.arrayLocs frame_1_arrays args s ++ Jvm.staticLocs frame_1_statics s) 0 0 → Post tb e args s (.returned v) u) :
    ArmFor flags0 classFile x code maxLocals ret World_1 tables_1 room_1 Calls_1 rest_1 Pre_1 Post := by
  intro l hfl _ _ p e ha hc hk s m args below hf hA hF happ hP
  obtain ⟨hcalls, hrest, hpre⟩ := hP
  obtain ⟨-, -, -, hnamed, -, -, -, hat⟩ := (Spec.applies_iff hf).mp happ
  obtain ⟨hg, hn⟩ := and_e (Cond.before_iff.mp (show (Jvm.Cond.and given_1 narrow_1).before args s = true from hpre))
  obtain ⟨gc, gr0⟩ := and_e hg
  obtain ⟨w0, rfl⟩ : ∃ w0 : Value, args = #[w0] := by
    have hs : args.size = 1 := by simpa [Cond.value, given_1] using gc
    obtain ⟨L⟩ := args
    match L, hs with
    | [w0], _ => exact ⟨w0, rfl⟩
  have hw := fun d (hd : d ∈ tables_1) => atoms_spec (ws := Jvm.Cond.code x code maxLocals ret :: tables_1) hat d (List.mem_cons_of_mem _ hd)
  have hfit : Fit s := fun {y c} hc i hi => by
    obtain ⟨ha, rfl⟩ := Array.getElem?_eq_some_iff.mp hc
    have q := List.all_eq_true.mp ((Array.all_eq_true_iff_forall_mem.mp hF) _ (Array.getElem_mem ha)) i (List.mem_range.mpr hi)
    simpa [Array.getElem?_eq_getElem hi] using q
  obtain ⟨i0, ei0⟩ := is_v gr0
  obtain rfl : w0 = (.int i0) := Option.some.inj ei0
  obtain ⟨nn0, nr0⟩ := and_e hn
  obtain ⟨nn1, nr1⟩ := and_e nr0
  obtain ⟨nn2, nr2⟩ := and_e nr1
  obtain ⟨nn3, nr3⟩ := and_e nr2
  obtain ⟨nn4, nr4⟩ := and_e nr3
  obtain ⟨nn5, nr5⟩ := and_e nr4
  obtain ⟨nn6, nr6⟩ := and_e nr5
  obtain ⟨nn7, nr7⟩ := and_e nr6
  obtain ⟨nn8, nr8⟩ := and_e nr7
  obtain ⟨nn9, nr9⟩ := and_e nr8
  obtain ⟨nn10, nr10⟩ := and_e nr9
  obtain ⟨nn11, nr11⟩ := and_e nr10
  obtain ⟨nn12, nr12⟩ := and_e nr11
  obtain ⟨nn13, nr13⟩ := and_e nr12
  obtain ⟨nn14, nr14⟩ := and_e nr13
  obtain ⟨nn15, nr15⟩ := and_e nr14
  obtain ⟨nn16, nr16⟩ := and_e nr15
  obtain ⟨nn17, nr17⟩ := and_e nr16
  obtain ⟨nn18, nr18⟩ := and_e nr17
  obtain ⟨nn19, nr19⟩ := and_e nr18
  obtain ⟨nn20, nr20⟩ := and_e nr19
  obtain ⟨w_START_OBJECT, ev_START_OBJECT⟩ := exa_v nn0
  have S_START_OBJECT : Sta s s.heap "com/example/lendscribe/lendscribe/read/JsonScanner$Kind" "START_OBJECT" "Lcom/example/lendscribe/lendscribe/read/JsonScanner$Kind;" (.ref w_START_OBJECT) := Sta.start ev_START_OBJECT (Or.inr ⟨(hw _ (List.mem_of_getElem? (i := 6) rfl)), (hw _ (List.mem_of_getElem? (i := 7) rfl))⟩)
  have E_START_OBJECT : Exa s s.heap w_START_OBJECT "com/example/lendscribe/lendscribe/read/JsonScanner$Kind" := Exa.start ev_START_OBJECT nn0
  obtain ⟨w_END_OBJECT, ev_END_OBJECT⟩ := exa_v nn1
  have S_END_OBJECT : Sta s s.heap "com/example/lendscribe/lendscribe/read/JsonScanner$Kind" "END_OBJECT" "Lcom/example/lendscribe/lendscribe/read/JsonScanner$Kind;" (.ref w_END_OBJECT) := Sta.start ev_END_OBJECT (Or.inr ⟨(hw _ (List.mem_of_getElem? (i := 6) rfl)), (hw _ (List.mem_of_getElem? (i := 14) rfl))⟩)
  have E_END_OBJECT : Exa s s.heap w_END_OBJECT "com/example/lendscribe/lendscribe/read/JsonScanner$Kind" := Exa.start ev_END_OBJECT nn1
  obtain ⟨w_END_ARRAY, ev_END_ARRAY⟩ := exa_v nn4
  have S_END_ARRAY : Sta s s.heap "com/example/lendscribe/lendscribe/read/JsonScanner$Kind" "END_ARRAY" "Lcom/example/lendscribe/lendscribe/read/JsonScanner$Kind;" (.ref w_END_ARRAY) := Sta.start ev_END_ARRAY (Or.inr ⟨(hw _ (List.mem_of_getElem? (i := 6) rfl)), (hw _ (List.mem_of_getElem? (i := 16) rfl))⟩)
  have E_END_ARRAY : Exa s s.heap w_END_ARRAY "com/example/lendscribe/lendscribe/read/JsonScanner$Kind" := Exa.start ev_END_ARRAY nn4
  obtain ⟨w_DECIMAL, ev_DECIMAL⟩ := exa_v nn6
  have S_DECIMAL : Sta s s.heap "com/example/lendscribe/lendscribe/read/JsonScanner$Kind" "DECIMAL" "Lcom/example/lendscribe/lendscribe/read/JsonScanner$Kind;" (.ref w_DECIMAL) := Sta.start ev_DECIMAL (Or.inr ⟨(hw _ (List.mem_of_getElem? (i := 6) rfl)), (hw _ (List.mem_of_getElem? (i := 19) rfl))⟩)
  have E_DECIMAL : Exa s s.heap w_DECIMAL "com/example/lendscribe/lendscribe/read/JsonScanner$Kind" := Exa.start ev_DECIMAL nn6
  obtain ⟨w_TRUE, ev_TRUE⟩ := exa_v nn8
  have S_TRUE : Sta s s.heap "com/example/lendscribe/lendscribe/read/JsonScanner$Kind" "TRUE" "Lcom/example/lendscribe/lendscribe/read/JsonScanner$Kind;" (.ref w_TRUE) := Sta.start ev_TRUE (Or.inr ⟨(hw _ (List.mem_of_getElem? (i := 6) rfl)), (hw _ (List.mem_of_getElem? (i := 21) rfl))⟩)
  have E_TRUE : Exa s s.heap w_TRUE "com/example/lendscribe/lendscribe/read/JsonScanner$Kind" := Exa.start ev_TRUE nn8
  obtain ⟨w_START_ARRAY, ev_START_ARRAY⟩ := exa_v nn10
  have S_START_ARRAY : Sta s s.heap "com/example/lendscribe/lendscribe/read/JsonScanner$Kind" "START_ARRAY" "Lcom/example/lendscribe/lendscribe/read/JsonScanner$Kind;" (.ref w_START_ARRAY) := Sta.start ev_START_ARRAY (Or.inr ⟨(hw _ (List.mem_of_getElem? (i := 6) rfl)), (hw _ (List.mem_of_getElem? (i := 23) rfl))⟩)
  have E_START_ARRAY : Exa s s.heap w_START_ARRAY "com/example/lendscribe/lendscribe/read/JsonScanner$Kind" := Exa.start ev_START_ARRAY nn10
  obtain ⟨w_NULL, ev_NULL⟩ := exa_v nn12
  have S_NULL : Sta s s.heap "com/example/lendscribe/lendscribe/read/JsonScanner$Kind" "NULL" "Lcom/example/lendscribe/lendscribe/read/JsonScanner$Kind;" (.ref w_NULL) := Sta.start ev_NULL (Or.inr ⟨(hw _ (List.mem_of_getElem? (i := 6) rfl)), (hw _ (List.mem_of_getElem? (i := 25) rfl))⟩)
  have E_NULL : Exa s s.heap w_NULL "com/example/lendscribe/lendscribe/read/JsonScanner$Kind" := Exa.start ev_NULL nn12
  obtain ⟨w_FALSE, ev_FALSE⟩ := exa_v nn14
  have S_FALSE : Sta s s.heap "com/example/lendscribe/lendscribe/read/JsonScanner$Kind" "FALSE" "Lcom/example/lendscribe/lendscribe/read/JsonScanner$Kind;" (.ref w_FALSE) := Sta.start ev_FALSE (Or.inr ⟨(hw _ (List.mem_of_getElem? (i := 6) rfl)), (hw _ (List.mem_of_getElem? (i := 28) rfl))⟩)
  have E_FALSE : Exa s s.heap w_FALSE "com/example/lendscribe/lendscribe/read/JsonScanner$Kind" := Exa.start ev_FALSE nn14
  obtain ⟨w_STRING, ev_STRING⟩ := exa_v nn16
  have S_STRING : Sta s s.heap "com/example/lendscribe/lendscribe/read/JsonScanner$Kind" "STRING" "Lcom/example/lendscribe/lendscribe/read/JsonScanner$Kind;" (.ref w_STRING) := Sta.start ev_STRING (Or.inr ⟨(hw _ (List.mem_of_getElem? (i := 6) rfl)), (hw _ (List.mem_of_getElem? (i := 30) rfl))⟩)
  have E_STRING : Exa s s.heap w_STRING "com/example/lendscribe/lendscribe/read/JsonScanner$Kind" := Exa.start ev_STRING nn16
  obtain ⟨w_INTEGER, ev_INTEGER⟩ := exa_v nn18
  have S_INTEGER : Sta s s.heap "com/example/lendscribe/lendscribe/read/JsonScanner$Kind" "INTEGER" "Lcom/example/lendscribe/lendscribe/read/JsonScanner$Kind;" (.ref w_INTEGER) := Sta.start ev_INTEGER (Or.inr ⟨(hw _ (List.mem_of_getElem? (i := 6) rfl)), (hw _ (List.mem_of_getElem? (i := 32) rfl))⟩)
  have E_INTEGER : Exa s s.heap w_INTEGER "com/example/lendscribe/lendscribe/read/JsonScanner$Kind" := Exa.start ev_INTEGER nn18
  obtain ⟨w_FIELD_NAME, ev_FIELD_NAME⟩ := exa_v nn20
  have S_FIELD_NAME : Sta s s.heap "com/example/lendscribe/lendscribe/read/JsonScanner$Kind" "FIELD_NAME" "Lcom/example/lendscribe/lendscribe/read/JsonScanner$Kind;" (.ref w_FIELD_NAME) := Sta.start ev_FIELD_NAME (Or.inr ⟨(hw _ (List.mem_of_getElem? (i := 6) rfl)), (hw _ (List.mem_of_getElem? (i := 34) rfl))⟩)
  have E_FIELD_NAME : Exa s s.heap w_FIELD_NAME "com/example/lendscribe/lendscribe/read/JsonScanner$Kind" := Exa.start ev_FIELD_NAME nn20
  have O_START_OBJECT : Fld s s.heap w_START_OBJECT "java/lang/Enum" "ordinal" "I" (.int (0 : Int32)) := Fld.start ((fld_at ev_START_OBJECT).symm.trans (own_eqi nn2))
  have O_END_OBJECT : Fld s s.heap w_END_OBJECT "java/lang/Enum" "ordinal" "I" (.int (1 : Int32)) := Fld.start ((fld_at ev_END_OBJECT).symm.trans (own_eqi nn3))
  have O_END_ARRAY : Fld s s.heap w_END_ARRAY "java/lang/Enum" "ordinal" "I" (.int (3 : Int32)) := Fld.start ((fld_at ev_END_ARRAY).symm.trans (own_eqi nn5))
  have O_DECIMAL : Fld s s.heap w_DECIMAL "java/lang/Enum" "ordinal" "I" (.int (7 : Int32)) := Fld.start ((fld_at ev_DECIMAL).symm.trans (own_eqi nn7))
  have O_TRUE : Fld s s.heap w_TRUE "java/lang/Enum" "ordinal" "I" (.int (8 : Int32)) := Fld.start ((fld_at ev_TRUE).symm.trans (own_eqi nn9))
  have O_START_ARRAY : Fld s s.heap w_START_ARRAY "java/lang/Enum" "ordinal" "I" (.int (2 : Int32)) := Fld.start ((fld_at ev_START_ARRAY).symm.trans (own_eqi nn11))
  have O_NULL : Fld s s.heap w_NULL "java/lang/Enum" "ordinal" "I" (.int (10 : Int32)) := Fld.start ((fld_at ev_NULL).symm.trans (own_eqi nn13))
  have O_FALSE : Fld s s.heap w_FALSE "java/lang/Enum" "ordinal" "I" (.int (9 : Int32)) := Fld.start ((fld_at ev_FALSE).symm.trans (own_eqi nn15))
  have O_STRING : Fld s s.heap w_STRING "java/lang/Enum" "ordinal" "I" (.int (5 : Int32)) := Fld.start ((fld_at ev_STRING).symm.trans (own_eqi nn17))
  have O_INTEGER : Fld s s.heap w_INTEGER "java/lang/Enum" "ordinal" "I" (.int (6 : Int32)) := Fld.start ((fld_at ev_INTEGER).symm.trans (own_eqi nn19))
  have O_FIELD_NAME : Fld s s.heap w_FIELD_NAME "java/lang/Enum" "ordinal" "I" (.int (4 : Int32)) := Fld.start ((fld_at ev_FIELD_NAME).symm.trans (own_eqi nr20))
  have n_START_OBJECT_END_OBJECT : w_START_OBJECT ≠ w_END_OBJECT := Fld.ne O_START_OBJECT O_END_OBJECT (by decide)
  have n_START_OBJECT_END_ARRAY : w_START_OBJECT ≠ w_END_ARRAY := Fld.ne O_START_OBJECT O_END_ARRAY (by decide)
  have n_END_OBJECT_START_ARRAY : w_END_OBJECT ≠ w_START_ARRAY := Fld.ne O_END_OBJECT O_START_ARRAY (by decide)
  have n_END_OBJECT_END_ARRAY : w_END_OBJECT ≠ w_END_ARRAY := Fld.ne O_END_OBJECT O_END_ARRAY (by decide)
  have n_END_OBJECT_FIELD_NAME : w_END_OBJECT ≠ w_FIELD_NAME := Fld.ne O_END_OBJECT O_FIELD_NAME (by decide)
  have n_END_OBJECT_STRING : w_END_OBJECT ≠ w_STRING := Fld.ne O_END_OBJECT O_STRING (by decide)
  have n_END_OBJECT_INTEGER : w_END_OBJECT ≠ w_INTEGER := Fld.ne O_END_OBJECT O_INTEGER (by decide)
  have n_END_OBJECT_DECIMAL : w_END_OBJECT ≠ w_DECIMAL := Fld.ne O_END_OBJECT O_DECIMAL (by decide)
  have n_END_OBJECT_TRUE : w_END_OBJECT ≠ w_TRUE := Fld.ne O_END_OBJECT O_TRUE (by decide)
  have n_END_OBJECT_FALSE : w_END_OBJECT ≠ w_FALSE := Fld.ne O_END_OBJECT O_FALSE (by decide)
  have n_END_OBJECT_NULL : w_END_OBJECT ≠ w_NULL := Fld.ne O_END_OBJECT O_NULL (by decide)
  have n_START_ARRAY_END_ARRAY : w_START_ARRAY ≠ w_END_ARRAY := Fld.ne O_START_ARRAY O_END_ARRAY (by decide)
  have n_END_ARRAY_FIELD_NAME : w_END_ARRAY ≠ w_FIELD_NAME := Fld.ne O_END_ARRAY O_FIELD_NAME (by decide)
  have n_END_ARRAY_STRING : w_END_ARRAY ≠ w_STRING := Fld.ne O_END_ARRAY O_STRING (by decide)
  have n_END_ARRAY_INTEGER : w_END_ARRAY ≠ w_INTEGER := Fld.ne O_END_ARRAY O_INTEGER (by decide)
  have n_END_ARRAY_DECIMAL : w_END_ARRAY ≠ w_DECIMAL := Fld.ne O_END_ARRAY O_DECIMAL (by decide)
  have n_END_ARRAY_TRUE : w_END_ARRAY ≠ w_TRUE := Fld.ne O_END_ARRAY O_TRUE (by decide)
  have n_END_ARRAY_FALSE : w_END_ARRAY ≠ w_FALSE := Fld.ne O_END_ARRAY O_FALSE (by decide)
  have n_END_ARRAY_NULL : w_END_ARRAY ≠ w_NULL := Fld.ne O_END_ARRAY O_NULL (by decide)
  have hone : f0 i0 w_START_OBJECT w_END_OBJECT w_START_ARRAY w_END_ARRAY w_FIELD_NAME w_STRING w_INTEGER w_DECIMAL w_TRUE w_FALSE w_NULL = 1 := own_law i0 w_START_OBJECT w_END_OBJECT w_START_ARRAY w_END_ARRAY w_FIELD_NAME w_STRING w_INTEGER w_DECIMAL w_TRUE w_FALSE w_NULL n_START_OBJECT_END_OBJECT n_START_OBJECT_END_ARRAY n_END_OBJECT_START_ARRAY n_END_OBJECT_END_ARRAY n_END_OBJECT_FIELD_NAME n_END_OBJECT_STRING n_END_OBJECT_INTEGER n_END_OBJECT_DECIMAL n_END_OBJECT_TRUE n_END_OBJECT_FALSE n_END_OBJECT_NULL n_START_ARRAY_END_ARRAY n_END_ARRAY_FIELD_NAME n_END_ARRAY_STRING n_END_ARRAY_INTEGER n_END_ARRAY_DECIMAL n_END_ARRAY_TRUE n_END_ARRAY_FALSE n_END_ARRAY_NULL
  obtain ⟨n, o, h1, h2, h3, _, L, rfl, ⟨rfl, N, -⟩, hq⟩ := rm0 l s _ hw tables_1 i0 w_START_OBJECT w_END_OBJECT w_START_ARRAY w_END_ARRAY w_FIELD_NAME w_STRING w_INTEGER w_DECIMAL w_TRUE w_FALSE w_NULL s.heap s.heap.size (Nat.le_refl _) S_START_OBJECT E_START_OBJECT S_END_OBJECT E_END_OBJECT S_START_ARRAY E_START_ARRAY S_END_ARRAY E_END_ARRAY S_FIELD_NAME E_FIELD_NAME S_STRING E_STRING S_INTEGER E_INTEGER S_DECIMAL E_DECIMAL S_TRUE E_TRUE S_FALSE E_FALSE S_NULL E_NULL p e ha hc hk s m _ below hf ((Spec.applies_iff_loose hf).mp happ).1 ⟨rfl, State.Warmed39.refl s, rfl⟩ trivial
  rw [hone] at h3 hq
  refine ⟨n, _, h1, h2, h3, hpost _ _ _ _ _ _ ⟨Cond.after_iff.mpr rfl, Cond.after_iff.mpr (eq_i res_at (Term.int_eval (1)) rfl), trivial⟩ ⟨hq.1, hq.2.1, (hq.2.2.sift fun y hy => Or.inr (N y hy)).mono (by decide) (by decide)⟩⟩
theorem main_1_1 : Claimed_1_1 := comes_1 fun _ _ _ _ _ _ h hF => ⟨h.1, hF⟩
theorem main_1_2 : Claimed_1_2 := comes_1 fun _ _ _ _ _ _ h hF => ⟨h.2.1, hF⟩
end Jvm.Pilot.@@N@@
namespace Jvm.Pilot.@@N@@
open Jvm Jvm.ClassFile Sem Op Lib Jvm.Free Jvm.Stand Jvm.Pilot.@@N@@.Jvm.D
/-! MADE BY PROGRAM (witnessworld.py) out of the Statement's table words and the real class files: 10 classes; the members and pool entries that the words name. The judged class is class 1, her method 1. -/
namespace start1
open Jvm.ClassFile
def u (s : String) : CpInfo := .utf8 (stringToUtf16 s)
/-- a pool by its gaps: so many unusable entries, then the entry; so many at the end -/
def gap : Nat → List CpInfo → List CpInfo
  | 0, r => r
  | n + 1, r => .unusable :: gap n r
def poolList (es : List (Nat × CpInfo)) (last : Nat) : List CpInfo := es.foldr (fun e r => gap e.1 (e.2 :: r)) (gap last [])
def pool (es : List (Nat × CpInfo)) (last : Nat) : Array CpInfo := ⟨poolList es last⟩
def fileOf (pool : Array CpInfo) (this : Nat) (attrs : Array Attribute := #[]) (ms : Array MethodInfo := #[]) (fl : Nat := 33) (sup : Nat := 0) (ifs : Array Nat := #[]) (fds : Array FieldInfo := #[]) : ClassFile where
  minorVersion := 0
  majorVersion := 65
  constantPool := pool
  accessFlags := fl
  thisClass := this
  superClass := sup
  interfaces := ifs
  fields := fds
  methods := ms
  attributes := attrs
def plain (name : String) (sup : Option ClassId) : Class where
  name := name
  kind := .ordinary
  loader := none
  accessFlags := 33
  super := sup
  interfaces := #[]
  cf := none
  fields := #[]
  methods := #[]
  instanceTypes := #[]
  staticTypes := #[]
  resolved := #[]
  callSites := []
  init := .initialized
  statics := none
  mirror := none

def pool0 : Array CpInfo := pool [(5, u "<init>"), (0, u "()V"), (1, .class_ 10), (1, u "java/lang/Object")] 113

def k0m0 : Method := { name := "<init>", desc := "()V", sig := { parameters := [], returnType := none }, accessFlags := 1, code := none }
/-- java/lang/Object -/
def k0 : Class := { plain "java/lang/Object" none with
  accessFlags := 33
  interfaces := #[]
  cf := some (fileOf pool0 8 #[] #[{ accessFlags := 1, nameIndex := 5, descriptorIndex := 6, attributes := #[] }] 33 0 #[] #[])
  fields := #[]
  methods := #[k0m0]
  instanceTypes := #[]
  staticTypes := #[]
  resolved := Array.replicate 124 none
  statics := none }

def pool1 : Array CpInfo := pool [(2, .class_ 4), (1, u "java/lang/Object"), (0, u "<init>"), (0, u "()V"), (0, .integer 2147483647), (0, .methodref 9 10), (0, .class_ 11), (0, .nameAndType 12 13), (0, u "com/example/lendscribe/lendscribe/read/KindIsEndPinLaw"), (0, u "pick"), (0, u "(I)Lcom/example/lendscribe/lendscribe/read/JsonScanner$Kind;"), (0, .methodref 15 16), (0, .class_ 17), (0, .nameAndType 18 19), (0, u "com/example/lendscribe/lendscribe/read/JsonScanner$Kind"), (0, u "isEnd"), (0, u "()Z"), (0, .fieldref 15 21), (0, .nameAndType 22 23), (0, u "START_OBJECT"), (0, u "Lcom/example/lendscribe/lendscribe/read/JsonScanner$Kind;"), (0, .fieldref 15 25), (0, .nameAndType 26 23), (0, u "END_OBJECT"), (0, .fieldref 15 28), (0, .nameAndType 29 23), (0, u "START_ARRAY"), (0, .fieldref 15 31), (0, .nameAndType 32 23), (0, u "END_ARRAY"), (0, .fieldref 15 34), (0, .nameAndType 35 23), (0, u "FIELD_NAME"), (0, .fieldref 15 37), (0, .nameAndType 38 23), (0, u "STRING"), (0, .fieldref 15 40), (0, .nameAndType 41 23), (0, u "INTEGER"), (0, .fieldref 15 43), (0, .nameAndType 44 23), (0, u "DECIMAL"), (0, .fieldref 15 46), (0, .nameAndType 47 23), (0, u "TRUE"), (0, .fieldref 15 49), (0, .nameAndType 50 23), (0, u "FALSE"), (0, .fieldref 15 52), (0, .nameAndType 53 23), (0, u "NULL"), (2, u "law"), (0, u "(I)Z")] 7

def k1m0 : Method := { name := "<init>", desc := "()V", sig := { parameters := [], returnType := none }, accessFlags := 2, code := none }
def k1c1 : Code := { maxStack := 2, maxLocals := 4, code := code, exceptionTable := #[], attributes := #[] }
def k1m1 : Method := { name := "law", desc := "(I)Z", sig := { parameters := [.int], returnType := some .boolean }, accessFlags := 9, code := some k1c1 }
def k1c2 : Code := { maxStack := 2, maxLocals := 1, code := method_3_code, exceptionTable := #[], attributes := #[] }
def k1m2 : Method := { name := "pick", desc := "(I)Lcom/example/lendscribe/lendscribe/read/JsonScanner$Kind;", sig := { parameters := [.int], returnType := some (.object "com/example/lendscribe/lendscribe/read/JsonScanner$Kind") }, accessFlags := 10, code := some k1c2 }
/-- com/example/lendscribe/lendscribe/read/KindIsEndPinLaw -/
def k1 : Class := { plain "com/example/lendscribe/lendscribe/read/KindIsEndPinLaw" (some 0) with
  accessFlags := 49
  interfaces := #[]
  cf := some (fileOf pool1 9 #[] #[{ accessFlags := 2, nameIndex := 5, descriptorIndex := 6, attributes := #[] }, { accessFlags := 9, nameIndex := 56, descriptorIndex := 57, attributes := #[] }, { accessFlags := 10, nameIndex := 12, descriptorIndex := 13, attributes := #[] }] 49 2 #[] #[])
  fields := #[]
  methods := #[k1m0, k1m1, k1m2]
  instanceTypes := #[]
  staticTypes := #[]
  resolved := Array.replicate 65 none
  statics := none }

def pool2 : Array CpInfo := pool [(1, .class_ 2), (0, u "java/lang/constant/Constable"), (0, .class_ 4), (0, u "java/lang/Object")] 6

/-- java/lang/constant/Constable -/
def k2 : Class := { plain "java/lang/constant/Constable" (some 0) with
  accessFlags := 1537
  interfaces := #[]
  cf := some (fileOf pool2 1 #[] #[] 1537 3 #[] #[])
  fields := #[]
  methods := #[]
  instanceTypes := #[]
  staticTypes := #[]
  resolved := Array.replicate 11 none
  statics := none }

def pool3 : Array CpInfo := pool [(1, .class_ 2), (0, u "java/lang/Comparable"), (0, .class_ 4), (0, u "java/lang/Object")] 7

/-- java/lang/Comparable -/
def k3 : Class := { plain "java/lang/Comparable" (some 0) with
  accessFlags := 1537
  interfaces := #[]
  cf := some (fileOf pool3 1 #[] #[] 1537 3 #[] #[])
  fields := #[]
  methods := #[]
  instanceTypes := #[]
  staticTypes := #[]
  resolved := Array.replicate 12 none
  statics := none }

def pool4 : Array CpInfo := pool [(1, .class_ 2), (0, u "java/io/Serializable"), (0, .class_ 4), (0, u "java/lang/Object")] 2

/-- java/io/Serializable -/
def k4 : Class := { plain "java/io/Serializable" (some 0) with
  accessFlags := 1537
  interfaces := #[]
  cf := some (fileOf pool4 1 #[] #[] 1537 3 #[] #[])
  fields := #[]
  methods := #[]
  instanceTypes := #[]
  staticTypes := #[]
  resolved := Array.replicate 7 none
  statics := none }

def pool5 : Array CpInfo := pool [(2, .class_ 4), (1, u "java/lang/Enum"), (0, u "name"), (0, u "Ljava/lang/String;"), (2, u "ordinal"), (0, u "I"), (1, .class_ 14), (1, u "java/lang/Object"), (4, u "hash"), (86, .class_ 108), (1, u "java/lang/Enum$EnumDesc"), (2, .class_ 112), (0, u "java/lang/constant/Constable"), (0, .class_ 114), (0, u "java/lang/Comparable"), (0, .class_ 116), (0, u "java/io/Serializable")] 87

/-- java/lang/Enum -/
def k5 : Class := { plain "java/lang/Enum" (some 0) with
  accessFlags := 1057
  interfaces := #[2, 3, 4]
  cf := some (fileOf pool5 2 #[.nestMembers #[106]] #[] 1057 12 #[111, 113, 115] #[{ accessFlags := 18, nameIndex := 5, descriptorIndex := 6, attributes := #[] }, { accessFlags := 18, nameIndex := 9, descriptorIndex := 10, attributes := #[] }, { accessFlags := 2, nameIndex := 19, descriptorIndex := 10, attributes := #[] }])
  fields := #[{ name := "name", type := (.object "java/lang/String"), accessFlags := 18, slot := 0, constantValue := 0 }, { name := "ordinal", type := .int, accessFlags := 18, slot := 1, constantValue := 0 }, { name := "hash", type := .int, accessFlags := 2, slot := 2, constantValue := 0 }]
  methods := #[]
  instanceTypes := #[(.object "java/lang/String"), .int, .int]
  staticTypes := #[]
  resolved := Array.replicate 204 none
  statics := none }

def pool6 : Array CpInfo := pool [(1, .class_ 2), (0, u "com/example/lendscribe/lendscribe/read/JsonScanner$Kind"), (2, u "START_OBJECT"), (0, u "Lcom/example/lendscribe/lendscribe/read/JsonScanner$Kind;"), (0, .fieldref 1 8), (0, .nameAndType 9 6), (0, u "END_OBJECT"), (2, u "START_ARRAY"), (0, .fieldref 1 14), (0, .nameAndType 15 6), (0, u "END_ARRAY"), (2, u "FIELD_NAME"), (2, u "STRING"), (2, u "INTEGER"), (2, u "DECIMAL"), (2, u "TRUE"), (2, u "FALSE"), (2, u "NULL"), (2, u "$VALUES"), (0, u "[Lcom/example/lendscribe/lendscribe/read/JsonScanner$Kind;"), (6, .class_ 49), (1, u "java/lang/Enum"), (34, u "()Z"), (4, u "isEnd"), (5, .class_ 96), (0, u "com/example/lendscribe/lendscribe/read/JsonScanner")] 2

def k6c0 : Code := { maxStack := 2, maxLocals := 1, code := prog_131_method_8_code, exceptionTable := #[], attributes := #[] }
def k6m0 : Method := { name := "isEnd", desc := "()Z", sig := { parameters := [], returnType := some .boolean }, accessFlags := 0, code := some k6c0 }
/-- com/example/lendscribe/lendscribe/read/JsonScanner$Kind -/
def k6 : Class := { plain "com/example/lendscribe/lendscribe/read/JsonScanner$Kind" (some 5) with
  accessFlags := 16433
  interfaces := #[]
  cf := some (fileOf pool6 1 #[.nestHost 95] #[{ accessFlags := 0, nameIndex := 89, descriptorIndex := 84, attributes := #[] }] 16433 47 #[] #[{ accessFlags := 16409, nameIndex := 5, descriptorIndex := 6, attributes := #[] }, { accessFlags := 16409, nameIndex := 9, descriptorIndex := 6, attributes := #[] }, { accessFlags := 16409, nameIndex := 12, descriptorIndex := 6, attributes := #[] }, { accessFlags := 16409, nameIndex := 15, descriptorIndex := 6, attributes := #[] }, { accessFlags := 16409, nameIndex := 18, descriptorIndex := 6, attributes := #[] }, { accessFlags := 16409, nameIndex := 21, descriptorIndex := 6, attributes := #[] }, { accessFlags := 16409, nameIndex := 24, descriptorIndex := 6, attributes := #[] }, { accessFlags := 16409, nameIndex := 27, descriptorIndex := 6, attributes := #[] }, { accessFlags := 16409, nameIndex := 30, descriptorIndex := 6, attributes := #[] }, { accessFlags := 16409, nameIndex := 33, descriptorIndex := 6, attributes := #[] }, { accessFlags := 16409, nameIndex := 36, descriptorIndex := 6, attributes := #[] }, { accessFlags := 4122, nameIndex := 39, descriptorIndex := 40, attributes := #[] }])
  fields := #[{ name := "START_OBJECT", type := (.object "com/example/lendscribe/lendscribe/read/JsonScanner$Kind"), accessFlags := 16409, slot := 0, constantValue := 0 }, { name := "END_OBJECT", type := (.object "com/example/lendscribe/lendscribe/read/JsonScanner$Kind"), accessFlags := 16409, slot := 1, constantValue := 0 }, { name := "START_ARRAY", type := (.object "com/example/lendscribe/lendscribe/read/JsonScanner$Kind"), accessFlags := 16409, slot := 2, constantValue := 0 }, { name := "END_ARRAY", type := (.object "com/example/lendscribe/lendscribe/read/JsonScanner$Kind"), accessFlags := 16409, slot := 3, constantValue := 0 }, { name := "FIELD_NAME", type := (.object "com/example/lendscribe/lendscribe/read/JsonScanner$Kind"), accessFlags := 16409, slot := 4, constantValue := 0 }, { name := "STRING", type := (.object "com/example/lendscribe/lendscribe/read/JsonScanner$Kind"), accessFlags := 16409, slot := 5, constantValue := 0 }, { name := "INTEGER", type := (.object "com/example/lendscribe/lendscribe/read/JsonScanner$Kind"), accessFlags := 16409, slot := 6, constantValue := 0 }, { name := "DECIMAL", type := (.object "com/example/lendscribe/lendscribe/read/JsonScanner$Kind"), accessFlags := 16409, slot := 7, constantValue := 0 }, { name := "TRUE", type := (.object "com/example/lendscribe/lendscribe/read/JsonScanner$Kind"), accessFlags := 16409, slot := 8, constantValue := 0 }, { name := "FALSE", type := (.object "com/example/lendscribe/lendscribe/read/JsonScanner$Kind"), accessFlags := 16409, slot := 9, constantValue := 0 }, { name := "NULL", type := (.object "com/example/lendscribe/lendscribe/read/JsonScanner$Kind"), accessFlags := 16409, slot := 10, constantValue := 0 }, { name := "$VALUES", type := (.array (.object "com/example/lendscribe/lendscribe/read/JsonScanner$Kind")), accessFlags := 4122, slot := 11, constantValue := 0 }]
  methods := #[k6m0]
  instanceTypes := #[(.object "java/lang/String"), .int, .int]
  staticTypes := #[(.object "com/example/lendscribe/lendscribe/read/JsonScanner$Kind"), (.object "com/example/lendscribe/lendscribe/read/JsonScanner$Kind"), (.object "com/example/lendscribe/lendscribe/read/JsonScanner$Kind"), (.object "com/example/lendscribe/lendscribe/read/JsonScanner$Kind"), (.object "com/example/lendscribe/lendscribe/read/JsonScanner$Kind"), (.object "com/example/lendscribe/lendscribe/read/JsonScanner$Kind"), (.object "com/example/lendscribe/lendscribe/read/JsonScanner$Kind"), (.object "com/example/lendscribe/lendscribe/read/JsonScanner$Kind"), (.object "com/example/lendscribe/lendscribe/read/JsonScanner$Kind"), (.object "com/example/lendscribe/lendscribe/read/JsonScanner$Kind"), (.object "com/example/lendscribe/lendscribe/read/JsonScanner$Kind"), (.array (.object "com/example/lendscribe/lendscribe/read/JsonScanner$Kind"))]
  resolved := Array.replicate 99 none
  statics := some 0 }

def pool7 : Array CpInfo := pool [(1, u "java/lang/Cloneable"), (0, .class_ 1), (0, u "java/lang/Object"), (0, .class_ 3)] 3

/-- java/lang/Cloneable -/
def k7 : Class := { plain "java/lang/Cloneable" (some 0) with
  accessFlags := 1537
  interfaces := #[]
  cf := some (fileOf pool7 2 #[] #[] 1537 4 #[] #[])
  fields := #[]
  methods := #[]
  instanceTypes := #[]
  staticTypes := #[]
  resolved := Array.replicate 8 none
  statics := none }

/-- the primitive byte -/
def k8 : Class := { plain "byte" none with kind := .primitive 'B', accessFlags := 0x411 }
/-- [B -/
def k9 : Class := { plain "[B" (some 0) with kind := .array 8 .byte, interfaces := #[7, 4], accessFlags := 1041 }

def heap : Heap := #[{ cls := 6, slots := #[.ref 1, .ref 2, .ref 6, .ref 3, .ref 11, .ref 9, .ref 10, .ref 4, .ref 5, .ref 8, .ref 7, .null], vm := .statics 6 },
  { cls := 6, slots := #[.null, .int 0, .int 0], vm := .none },
  { cls := 6, slots := #[.null, .int 1, .int 0], vm := .none },
  { cls := 6, slots := #[.null, .int 3, .int 0], vm := .none },
  { cls := 6, slots := #[.null, .int 7, .int 0], vm := .none },
  { cls := 6, slots := #[.null, .int 8, .int 0], vm := .none },
  { cls := 6, slots := #[.null, .int 2, .int 0], vm := .none },
  { cls := 6, slots := #[.null, .int 10, .int 0], vm := .none },
  { cls := 6, slots := #[.null, .int 9, .int 0], vm := .none },
  { cls := 6, slots := #[.null, .int 5, .int 0], vm := .none },
  { cls := 6, slots := #[.null, .int 6, .int 0], vm := .none },
  { cls := 6, slots := #[.null, .int 4, .int 0], vm := .none }]
def classes : Array Class := #[k0, k1, k2, k3, k4, k5, k6, k7, k8, k9]
def interned : List (Array UInt16 × Addr) := []
def slotsUsed : Nat := 45
def theMethod : MethodId := ⟨1, 1⟩
def args0 : Array Value := #[.int 5]
def aboutOver (below : List Frame) : State where
  vm := { classes := classes, interned := interned.toArray }
  heap := heap
  slotsUsed := slotsUsed
  threads := #[{ frames := .invoking theMethod args0 :: below }]
def below0 : List Frame := [.native { method := ⟨0, 0⟩, args := #[] }]
def about1 : State := aboutOver below0
def p0 : Program := .bare "" "" ""
def e0 : Env := launch0.env 0 0 0
theorem w_frames : about1.frames = Frame.invoking theMethod args0 :: below0 := rfl
set_option maxRecDepth 65536 in
theorem w_args : argsFit about1.vm theMethod args0 = true := by decide +kernel
set_option maxRecDepth 65536 in
theorem w_heap : heapFits about1 = true := by decide +kernel
set_option maxRecDepth 65536 in
theorem w_runnable : about1.curStatus? = some .runnable := by decide +kernel
set_option maxRecDepth 65536 in
theorem w_alone : about1.alone = true := by decide +kernel
set_option maxRecDepth 65536 in
theorem w_named : about1.methodNamed? x = some theMethod := by decide +kernel
set_option maxRecDepth 65536 in
theorem w_hears : about1.hears theMethod below0 = true := by decide +kernel
set_option maxRecDepth 65536 in
theorem w_ripe : about1.ripe theMethod args0 below0 = true := by decide +kernel
theorem w_running : about1.status = .running := rfl
set_option maxRecDepth 65536 in
theorem w_room : about1.hasRoom e0.platform room_1 = true :=
  launch0.hasRoom_least _ room_1 (by decide +kernel) (by decide +kernel) (by decide +kernel) (by decide +kernel) (by decide +kernel) (by decide +kernel)
theorem allAtoms_all (ts : List Jvm.Cond) (a : Array Jvm.Value) (st : Jvm.State) : (allAtoms ts).before a st = ts.all (fun c => c.before a st) := by
  induction ts with
  | nil => rfl
  | cons c t ih =>
    show (Jvm.Cond.and c (allAtoms t)).before a st = _
    rw [Jvm.Cond.before_and, ih, List.all_cons]
def words1 : List Jvm.Cond := Jvm.Cond.code x code maxLocals ret :: tables_1
/-- a 'code' word, met by the world's own term for the bytes: nothing is compared byte by byte -/
theorem code_word {y : MethodName} {bytes : ByteArray} {mx : Nat} {rt : Option FieldType} {a : Array Value} {s : State} {m : MethodId} {meth : Method} {c : Code} (h1 : s.methodNamed? y = some m) (h2 : s.vm.method? m = some meth) (h3 : meth.code = some c) (h4 : c.code = bytes)
    (h5 : (c.maxLocals == mx && c.exceptionTable.isEmpty && decide (c.maxStack ≤ mostOperands) && decide (meth.sig.returnType = rt) && !meth.locks && decide (parseMethodDescriptor y.desc = some meth.sig)) = true) : (Jvm.Cond.code y bytes mx rt).before a s = true := by
  simp only [Bool.and_eq_true, beq_iff_eq, Bool.not_eq_true', decide_eq_true_eq] at h5
  obtain ⟨⟨⟨⟨⟨g1, g2⟩, g3⟩, g4⟩, g5⟩, g6⟩ := h5
  simp [Cond.before, Cond.holds, Cond.value, h1, h2, h3, h4, g1, g2, g3, g4, g5, g6]
def isCode : Jvm.Cond → Bool
  | .code _ _ _ _ => true
  | _ => false
theorem all_split {L : List Jvm.Cond} {P : Jvm.Cond → Bool} (h1 : L.all (fun c => isCode c || P c) = true) (h2 : ∀ c ∈ L.filter isCode, P c = true) : L.all P = true := by
  refine List.all_eq_true.mpr fun c hc => ?_
  have h := List.all_eq_true.mp h1 c hc
  rcases Bool.eq_false_or_eq_true (isCode c) with hi | hi
  · exact h2 c (List.mem_filter.mpr ⟨hc, hi⟩)
  · simpa [hi] using h
set_option maxRecDepth 65536 in
theorem w_c0 : (Jvm.Cond.code x code maxLocals ret).before args0 about1 = true := code_word (m := ⟨1, 1⟩) (meth := k1m1) (c := k1c1) (by decide +kernel) rfl rfl rfl (by decide +kernel)
set_option maxRecDepth 65536 in
theorem w_c1 : (Jvm.Cond.code ({ cls := "com/example/lendscribe/lendscribe/read/KindIsEndPinLaw", name := "pick", desc := "(I)Lcom/example/lendscribe/lendscribe/read/JsonScanner$Kind;" } : Jvm.MethodName) method_3_code (1 : Nat) (Option.some (Jvm.ClassFile.FieldType.object "com/example/lendscribe/lendscribe/read/JsonScanner$Kind"))).before args0 about1 = true := code_word (m := ⟨1, 2⟩) (meth := k1m2) (c := k1c2) (by decide +kernel) rfl rfl rfl (by decide +kernel)
set_option maxRecDepth 65536 in
theorem w_c2 : (Jvm.Cond.code ({ cls := "com/example/lendscribe/lendscribe/read/JsonScanner$Kind", name := "isEnd", desc := "()Z" } : Jvm.MethodName) prog_131_method_8_code (1 : Nat) (Option.some Jvm.ClassFile.FieldType.boolean)).before args0 about1 = true := code_word (m := ⟨6, 0⟩) (meth := k6m0) (c := k6c0) (by decide +kernel) rfl rfl rfl (by decide +kernel)
def codes1 : List Jvm.Cond := [Jvm.Cond.code x code maxLocals ret, Jvm.Cond.code ({ cls := "com/example/lendscribe/lendscribe/read/KindIsEndPinLaw", name := "pick", desc := "(I)Lcom/example/lendscribe/lendscribe/read/JsonScanner$Kind;" } : Jvm.MethodName) method_3_code (1 : Nat) (Option.some (Jvm.ClassFile.FieldType.object "com/example/lendscribe/lendscribe/read/JsonScanner$Kind")), Jvm.Cond.code ({ cls := "com/example/lendscribe/lendscribe/read/JsonScanner$Kind", name := "isEnd", desc := "()Z" } : Jvm.MethodName) prog_131_method_8_code (1 : Nat) (Option.some Jvm.ClassFile.FieldType.boolean)]
set_option maxRecDepth 65536 in
theorem codes_eq : words1.filter isCode = codes1 := rfl
theorem w_codes : ∀ c ∈ words1.filter isCode, c.before args0 about1 = true := by
  rw [codes_eq]
  intro c hc
  simp only [codes1, List.mem_cons, List.not_mem_nil, or_false] at hc
  rcases hc with rfl | rfl | rfl
  · exact w_c0
  · exact w_c1
  · exact w_c2
set_option maxRecDepth 65536 in
theorem w_t1 : (words1.take 24).all (fun c => isCode c || c.before args0 about1) = true := by decide +kernel
set_option maxRecDepth 65536 in
theorem w_t2 : (words1.drop 24).all (fun c => isCode c || c.before args0 about1) = true := by decide +kernel
theorem w_tables : (allAtoms (Jvm.Cond.code x code maxLocals ret :: tables_1)).before args0 about1 = true := by
  rw [allAtoms_all]
  show words1.all (fun c => c.before args0 about1) = true
  refine all_split ?_ w_codes
  rw [← List.take_append_drop 24 words1, List.all_append, w_t1, w_t2]
  rfl
set_option maxRecDepth 65536 in
theorem w_case : (Jvm.Cond.and given_1 narrow_1).before args0 about1 = true := by decide +kernel
theorem w_applies : (headSpec (Jvm.Cond.code x code maxLocals ret :: tables_1) room_1).applies x e0.platform about1 = true :=
  (Spec.applies_iff w_frames).mpr ⟨w_running, w_runnable, w_alone, w_named, w_hears, w_ripe, w_room, w_tables⟩
theorem atStart : AtStart classFile x code maxLocals ret World_1 tables_1 room_1 Calls_1 rest_1 Pre_1 launch0 p0 e0 about1 theMethod args0 below0 :=
  ⟨lists_1, trivial, launch0.admits_env _ _ _, launch0.least_env, fairChoices_fair.cas, fairChoices_fair.clock, w_frames, w_args, w_heap, w_applies, trivial, trivial, w_case⟩
end start1
theorem witness_1 : WitnessClaimed_1 := ⟨start1.p0, start1.e0, start1.about1, start1.theMethod, start1.args0, start1.below0, start1.atStart⟩
end Jvm.Pilot.@@N@@
