import JvmDerived
import JvmDerived.Pilot.@@N@@Statement
import JvmDerived.Pilot.@@N@@Code
set_option linter.unusedVariables false
set_option linter.unusedSimpArgs false
namespace Jvm.RoadKit
open Sem ClassFile Op Lib Jvm.Stand Jvm.Free Jvm.LawKit
section New
variable {p : Program} {l : Launch} {e : Env} {R : Room} {s : State} {m : MethodId} {args : Array Value} {below : List Frame} {meth : Method} {c : Code} {T : State} {locs : List Loc} {cells slots : Nat}
theorem retI (X : Stand p l e R s m args below meth c T locs cells slots) (hx : p.tables.exec = Jvm.exec) {pc : Nat} {Ls : Array Slot} {z : Int32} {rest : List Value} (hret : meth.sig.returnType = some .int) (hd : decode c.code pc = .ok (.ireturn, 1)) {fs : List Frame}
    (hl : ∀ (f : JFrame) (acts : List Action), f.method = m → f.locked = none → f.entered = [] → (doReturn e (T.setTop f) acts (some (.int z))).1 = T.setFrames fs) : Steps p.tables e below (T.setTop (mkF m pc Ls (.int z :: rest))) (T.setFrames fs) := by
  have hm' : T.vm.method? m = some meth := X.method'
  have hn : narrow .int (.int z) = .int z := rfl
  show Steps p.tables e below (T.setTop { method := m, pc := pc, locals := Ls, stack := _ :: rest, locked := none }) _
  jvm_step X.here [X.here.top, hx, hd, hm', hret, hn]
  first | (intro acts; rw [hl _ acts rfl rfl rfl]) | rw [hl _ _ rfl rfl rfl]
  exact Steps.refl _
end New
end Jvm.RoadKit
namespace Jvm.Pilot.@@N@@
open Jvm Jvm.ClassFile Sem Op Lib Jvm.Free Jvm.Stand Jvm.LawKit Jvm.RoadKit Bundle Jvm.Pilot.@@N@@.Jvm.D
def QP (w : Option Value) (h0 : Heap) (n0 : Nat) (v : Option Value) (h : Heap) (L : List Loc) : Prop := v = w ∧ Fr n0 L ∧ h = h0
theorem own_eqi {args : Array Value} {first s : State} {o : Option Outcome} {idx : List Nat} {t : Term} {k : Int32} (h : (Jvm.Cond.eq t (.int k)).value args first o s idx = some true) : t.eval args first o idx s = some (.int k) := by
  simp only [Cond.value, Term.eval] at h
  cases ht : t.eval args first o idx s with
  | none => simp [ht] at h
  | some x => cases x <;> simp [ht] at h ⊢ <;> exact h
theorem d1_0 : decode method_2_code 0 = .ok (.iload_n 0, 1) := by decide +kernel
theorem d1_1 : decode method_2_code 1 = .ok (.ifCond .ne 7, 3) := by decide +kernel
theorem d1_4 : decode method_2_code 4 = .ok (.getstatic 7, 3) := by decide +kernel
theorem d1_7 : decode method_2_code 7 = .ok (.areturn, 1) := by decide +kernel
theorem d1_8 : decode method_2_code 8 = .ok (.iload_n 0, 1) := by decide +kernel
theorem d1_9 : decode method_2_code 9 = .ok (.iconst 1, 1) := by decide +kernel
theorem d1_10 : decode method_2_code 10 = .ok (.if_icmp .ne 7, 3) := by decide +kernel
theorem d1_13 : decode method_2_code 13 = .ok (.getstatic 13, 3) := by decide +kernel
theorem d1_16 : decode method_2_code 16 = .ok (.areturn, 1) := by decide +kernel
theorem d1_17 : decode method_2_code 17 = .ok (.iload_n 0, 1) := by decide +kernel
theorem d1_18 : decode method_2_code 18 = .ok (.iconst 2, 1) := by decide +kernel
theorem d1_19 : decode method_2_code 19 = .ok (.if_icmp .ne 7, 3) := by decide +kernel
theorem d1_22 : decode method_2_code 22 = .ok (.getstatic 16, 3) := by decide +kernel
theorem d1_25 : decode method_2_code 25 = .ok (.areturn, 1) := by decide +kernel
theorem d1_26 : decode method_2_code 26 = .ok (.iload_n 0, 1) := by decide +kernel
theorem d1_27 : decode method_2_code 27 = .ok (.iconst 3, 1) := by decide +kernel
theorem d1_28 : decode method_2_code 28 = .ok (.if_icmp .ne 7, 3) := by decide +kernel
theorem d1_31 : decode method_2_code 31 = .ok (.getstatic 19, 3) := by decide +kernel
theorem d1_34 : decode method_2_code 34 = .ok (.areturn, 1) := by decide +kernel
theorem d1_35 : decode method_2_code 35 = .ok (.iload_n 0, 1) := by decide +kernel
theorem d1_36 : decode method_2_code 36 = .ok (.iconst 4, 1) := by decide +kernel
theorem d1_37 : decode method_2_code 37 = .ok (.if_icmp .ne 7, 3) := by decide +kernel
theorem d1_40 : decode method_2_code 40 = .ok (.getstatic 22, 3) := by decide +kernel
theorem d1_43 : decode method_2_code 43 = .ok (.areturn, 1) := by decide +kernel
theorem d1_44 : decode method_2_code 44 = .ok (.iload_n 0, 1) := by decide +kernel
theorem d1_45 : decode method_2_code 45 = .ok (.iconst 5, 1) := by decide +kernel
theorem d1_46 : decode method_2_code 46 = .ok (.if_icmp .ne 7, 3) := by decide +kernel
theorem d1_49 : decode method_2_code 49 = .ok (.getstatic 25, 3) := by decide +kernel
theorem d1_52 : decode method_2_code 52 = .ok (.areturn, 1) := by decide +kernel
theorem d1_53 : decode method_2_code 53 = .ok (.iload_n 0, 1) := by decide +kernel
theorem d1_54 : decode method_2_code 54 = .ok (.bipush 6, 2) := by decide +kernel
theorem d1_56 : decode method_2_code 56 = .ok (.if_icmp .ne 7, 3) := by decide +kernel
theorem d1_59 : decode method_2_code 59 = .ok (.getstatic 28, 3) := by decide +kernel
theorem d1_62 : decode method_2_code 62 = .ok (.areturn, 1) := by decide +kernel
theorem d1_63 : decode method_2_code 63 = .ok (.iload_n 0, 1) := by decide +kernel
theorem d1_64 : decode method_2_code 64 = .ok (.bipush 7, 2) := by decide +kernel
theorem d1_66 : decode method_2_code 66 = .ok (.if_icmp .ne 7, 3) := by decide +kernel
theorem d1_69 : decode method_2_code 69 = .ok (.getstatic 31, 3) := by decide +kernel
theorem d1_72 : decode method_2_code 72 = .ok (.areturn, 1) := by decide +kernel
theorem d1_73 : decode method_2_code 73 = .ok (.iload_n 0, 1) := by decide +kernel
theorem d1_74 : decode method_2_code 74 = .ok (.bipush 8, 2) := by decide +kernel
theorem d1_76 : decode method_2_code 76 = .ok (.if_icmp .ne 7, 3) := by decide +kernel
theorem d1_79 : decode method_2_code 79 = .ok (.getstatic 34, 3) := by decide +kernel
theorem d1_82 : decode method_2_code 82 = .ok (.areturn, 1) := by decide +kernel
theorem d1_83 : decode method_2_code 83 = .ok (.iload_n 0, 1) := by decide +kernel
theorem d1_84 : decode method_2_code 84 = .ok (.bipush 9, 2) := by decide +kernel
theorem d1_86 : decode method_2_code 86 = .ok (.if_icmp .ne 7, 3) := by decide +kernel
theorem d1_89 : decode method_2_code 89 = .ok (.getstatic 37, 3) := by decide +kernel
theorem d1_92 : decode method_2_code 92 = .ok (.areturn, 1) := by decide +kernel
theorem d1_93 : decode method_2_code 93 = .ok (.iload_n 0, 1) := by decide +kernel
theorem d1_94 : decode method_2_code 94 = .ok (.bipush 10, 2) := by decide +kernel
theorem d1_96 : decode method_2_code 96 = .ok (.if_icmp .ne 7, 3) := by decide +kernel
theorem d1_99 : decode method_2_code 99 = .ok (.getstatic 40, 3) := by decide +kernel
theorem d1_102 : decode method_2_code 102 = .ok (.areturn, 1) := by decide +kernel
theorem d1_103 : decode method_2_code 103 = .ok (.iload_n 0, 1) := by decide +kernel
theorem d1_104 : decode method_2_code 104 = .ok (.bipush 11, 2) := by decide +kernel
theorem d1_106 : decode method_2_code 106 = .ok (.if_icmp .ne 7, 3) := by decide +kernel
theorem d1_109 : decode method_2_code 109 = .ok (.getstatic 43, 3) := by decide +kernel
theorem d1_112 : decode method_2_code 112 = .ok (.areturn, 1) := by decide +kernel
theorem d1_113 : decode method_2_code 113 = .ok (.iload_n 0, 1) := by decide +kernel
theorem d1_114 : decode method_2_code 114 = .ok (.bipush 12, 2) := by decide +kernel
theorem d1_116 : decode method_2_code 116 = .ok (.if_icmp .ne 7, 3) := by decide +kernel
theorem d1_119 : decode method_2_code 119 = .ok (.getstatic 46, 3) := by decide +kernel
theorem d1_122 : decode method_2_code 122 = .ok (.areturn, 1) := by decide +kernel
theorem d1_123 : decode method_2_code 123 = .ok (.iload_n 0, 1) := by decide +kernel
theorem d1_124 : decode method_2_code 124 = .ok (.bipush 13, 2) := by decide +kernel
theorem d1_126 : decode method_2_code 126 = .ok (.if_icmp .ne 7, 3) := by decide +kernel
theorem d1_129 : decode method_2_code 129 = .ok (.getstatic 49, 3) := by decide +kernel
theorem d1_132 : decode method_2_code 132 = .ok (.areturn, 1) := by decide +kernel
theorem d1_133 : decode method_2_code 133 = .ok (.iload_n 0, 1) := by decide +kernel
theorem d1_134 : decode method_2_code 134 = .ok (.bipush 14, 2) := by decide +kernel
theorem d1_136 : decode method_2_code 136 = .ok (.if_icmp .ne 7, 3) := by decide +kernel
theorem d1_139 : decode method_2_code 139 = .ok (.getstatic 52, 3) := by decide +kernel
theorem d1_142 : decode method_2_code 142 = .ok (.areturn, 1) := by decide +kernel
theorem d1_143 : decode method_2_code 143 = .ok (.getstatic 55, 3) := by decide +kernel
theorem d1_146 : decode method_2_code 146 = .ok (.areturn, 1) := by decide +kernel
theorem pn_1 : plainName "com/example/hoconut/hoconut/token/TokenKindIsTextPinLaw" = true := by first | (simp [plainName, overriddenIn]; done) | decide +kernel
theorem ef_1 (m : MethodId) (x0 : Int32) : entryFrame m #[(.int x0)] 1 = mkF m 0 #[.val (.int x0)] [] := by first | (simp [entryFrame, mkF, argsToLocals, Value.category]; done) | rfl
def f1 (p1 : Int32) (w_OPEN_BRACE : Addr) (w_CLOSE_BRACE : Addr) (w_OPEN_BRACKET : Addr) (w_CLOSE_BRACKET : Addr) (w_COMMA : Addr) (w_COLON : Addr) (w_EQUALS : Addr) (w_PLUS_EQUALS : Addr) (w_NEWLINE : Addr) (w_UNQUOTED : Addr) (w_QUOTED : Addr) (w_NUMBER : Addr) (w_SUBSTITUTION : Addr) (w_OPTIONAL_SUBSTITUTION : Addr) (w_COMMENT : Addr) (w_END : Addr) : Addr := (if p1 = (0 : Int32) then w_OPEN_BRACE else (if p1 = (1 : Int32) then w_CLOSE_BRACE else (if p1 = (2 : Int32) then w_OPEN_BRACKET else (if p1 = (3 : Int32) then w_CLOSE_BRACKET else (if p1 = (4 : Int32) then w_COMMA else (if p1 = (5 : Int32) then w_COLON else (if p1 = (6 : Int32) then w_EQUALS else (if p1 = (7 : Int32) then w_PLUS_EQUALS else (if p1 = (8 : Int32) then w_NEWLINE else (if p1 = (9 : Int32) then w_UNQUOTED else (if p1 = (10 : Int32) then w_QUOTED else (if p1 = (11 : Int32) then w_NUMBER else (if p1 = (12 : Int32) then w_SUBSTITUTION else (if p1 = (13 : Int32) then w_OPTIONAL_SUBSTITUTION else (if p1 = (14 : Int32) then w_COMMENT else w_END)))))))))))))))
set_option maxRecDepth 65536 in
set_option maxHeartbeats 40000000 in
theorem rm1 (l : Launch) (Z : State) (a0 : Array Value) (hw : ∀ d ∈ tables_1, d.before a0 Z = true) (ws : List Jvm.Cond) (p1 : Int32) (w_OPEN_BRACE : Addr) (w_CLOSE_BRACE : Addr) (w_OPEN_BRACKET : Addr) (w_CLOSE_BRACKET : Addr) (w_COMMA : Addr) (w_COLON : Addr) (w_EQUALS : Addr) (w_PLUS_EQUALS : Addr) (w_NEWLINE : Addr) (w_UNQUOTED : Addr) (w_QUOTED : Addr) (w_NUMBER : Addr) (w_SUBSTITUTION : Addr) (w_OPTIONAL_SUBSTITUTION : Addr) (w_COMMENT : Addr) (w_END : Addr) (h0 : Heap) (n0 : Nat) (Z0 : n0 ≤ h0.size) (S_OPEN_BRACE : Sta Z h0 "com/example/hoconut/hoconut/token/TokenKind" "OPEN_BRACE" "Lcom/example/hoconut/hoconut/token/TokenKind;" (.ref w_OPEN_BRACE)) (S_CLOSE_BRACE : Sta Z h0 "com/example/hoconut/hoconut/token/TokenKind" "CLOSE_BRACE" "Lcom/example/hoconut/hoconut/token/TokenKind;" (.ref w_CLOSE_BRACE)) (S_OPEN_BRACKET : Sta Z h0 "com/example/hoconut/hoconut/token/TokenKind" "OPEN_BRACKET" "Lcom/example/hoconut/hoconut/token/TokenKind;" (.ref w_OPEN_BRACKET)) (S_CLOSE_BRACKET : Sta Z h0 "com/example/hoconut/hoconut/token/TokenKind" "CLOSE_BRACKET" "Lcom/example/hoconut/hoconut/token/TokenKind;" (.ref w_CLOSE_BRACKET)) (S_COMMA : Sta Z h0 "com/example/hoconut/hoconut/token/TokenKind" "COMMA" "Lcom/example/hoconut/hoconut/token/TokenKind;" (.ref w_COMMA)) (S_COLON : Sta Z h0 "com/example/hoconut/hoconut/token/TokenKind" "COLON" "Lcom/example/hoconut/hoconut/token/TokenKind;" (.ref w_COLON)) (S_EQUALS : Sta Z h0 "com/example/hoconut/hoconut/token/TokenKind" "EQUALS" "Lcom/example/hoconut/hoconut/token/TokenKind;" (.ref w_EQUALS)) (S_PLUS_EQUALS : Sta Z h0 "com/example/hoconut/hoconut/token/TokenKind" "PLUS_EQUALS" "Lcom/example/hoconut/hoconut/token/TokenKind;" (.ref w_PLUS_EQUALS)) (S_NEWLINE : Sta Z h0 "com/example/hoconut/hoconut/token/TokenKind" "NEWLINE" "Lcom/example/hoconut/hoconut/token/TokenKind;" (.ref w_NEWLINE)) (S_UNQUOTED : Sta Z h0 "com/example/hoconut/hoconut/token/TokenKind" "UNQUOTED" "Lcom/example/hoconut/hoconut/token/TokenKind;" (.ref w_UNQUOTED)) (S_QUOTED : Sta Z h0 "com/example/hoconut/hoconut/token/TokenKind" "QUOTED" "Lcom/example/hoconut/hoconut/token/TokenKind;" (.ref w_QUOTED)) (S_NUMBER : Sta Z h0 "com/example/hoconut/hoconut/token/TokenKind" "NUMBER" "Lcom/example/hoconut/hoconut/token/TokenKind;" (.ref w_NUMBER)) (S_SUBSTITUTION : Sta Z h0 "com/example/hoconut/hoconut/token/TokenKind" "SUBSTITUTION" "Lcom/example/hoconut/hoconut/token/TokenKind;" (.ref w_SUBSTITUTION)) (S_OPTIONAL_SUBSTITUTION : Sta Z h0 "com/example/hoconut/hoconut/token/TokenKind" "OPTIONAL_SUBSTITUTION" "Lcom/example/hoconut/hoconut/token/TokenKind;" (.ref w_OPTIONAL_SUBSTITUTION)) (S_COMMENT : Sta Z h0 "com/example/hoconut/hoconut/token/TokenKind" "COMMENT" "Lcom/example/hoconut/hoconut/token/TokenKind;" (.ref w_COMMENT)) (S_END : Sta Z h0 "com/example/hoconut/hoconut/token/TokenKind" "END" "Lcom/example/hoconut/hoconut/token/TokenKind;" (.ref w_END)) :
    MetFree l (⟨"com/example/hoconut/hoconut/token/TokenKindIsTextPinLaw", "kind", "(I)Lcom/example/hoconut/hoconut/token/TokenKind;"⟩ : MethodName) (head1 (Jvm.Cond.code (⟨"com/example/hoconut/hoconut/token/TokenKindIsTextPinLaw", "kind", "(I)Lcom/example/hoconut/hoconut/token/TokenKind;"⟩ : MethodName) method_2_code 1 (some (.object "com/example/hoconut/hoconut/token/TokenKind")) :: ws) ({ frames := 0, cells := 0, slots := 0, locals := 0 } : Room)) (fun a U => a = #[(.int p1)] ∧ Z.Warmed39 U.vm ∧ U.heap = h0) (fun _ _ _ _ _ => True) (fun _ U o U' => ∃ v L, o = .returned v ∧ QP (some (.ref (f1 p1 w_OPEN_BRACE w_CLOSE_BRACE w_OPEN_BRACKET w_CLOSE_BRACKET w_COMMA w_COLON w_EQUALS w_PLUS_EQUALS w_NEWLINE w_UNQUOTED w_QUOTED w_NUMBER w_SUBSTITUTION w_OPTIONAL_SUBSTITUTION w_COMMENT w_END))) h0 n0 v U'.heap L ∧ FrameEnd U o U' L ({ frames := 0, cells := 0, slots := 0, locals := 0 } : Room).cells ({ frames := 0, cells := 0, slots := 0, locals := 0 } : Room).slots) := by
  refine MetFree.of_bodySF (plainFor_of_name pn_1) hisR ?_
  intro p e s m args below meth c s₁ Bd hml0 hP hK
  obtain ⟨rfl, hZ, hh⟩ := hP
  have hx := Bd.exec
  have hby := Bd.bytes
  have hml : c.maxLocals = 1 := hml0
  have hown : s.vm.findClass "com/example/hoconut/hoconut/token/TokenKindIsTextPinLaw" = some m.cls := findClass_of_methodNamed Bd.named
  have hnm := (name_of_methodNamed Bd.named Bd.method).1
  have X0 : Stand p l e ({ frames := 0, cells := 0, slots := 0, locals := 0 } : Room) s m #[(.int p1)] below meth c s₁ [] 0 0 := Stand.of_body Bd
  have e0 : s₁.heap = h0 := by rw [← hh, Bd.state]; rfl
  have N0 := Fr.nil n0
  have pre0 : ∀ t, Steps p.tables e below (s₁.setTop (mkF m 0 #[.val (.int p1)] [])) t → Steps p.tables e below (s₁.setTop (entryFrame m #[(.int p1)] 1)) t := fun t k => castTop (ef_1 m p1) k
  have pre2 : ∀ t, Steps p.tables e below (s₁.setTop (mkF m 1 #[.val (.int p1)] [(.int p1)])) t → Steps p.tables e below (s₁.setTop (entryFrame m #[(.int p1)] 1)) t := fun t k => by
    refine pre0 _ ?_
    show Steps p.tables e below (s₁.setTop (mkF m 0 #[.val (.int p1)] [])) _
    refine XS.iloadN X0.here hx rfl (hb hby d1_0) rfl ?_
    exact k
  by_cases hc1 : p1 = (0 : Int32)
  · obtain ⟨T3, X3, e3, st3⟩ := getS2 X0 hx hZ hown (host := "") (Or.inl (hw _ (List.mem_of_getElem? (i := 4) rfl))) Via.refl e0 S_OPEN_BRACE (g := (mkF m 4 #[.val (.int p1)] [])) rfl (hb hby d1_4)
    obtain ⟨fs, hr, hrun, hended, hW, hsame⟩ := X3.leave (v := some (.ref w_OPEN_BRACE)) (fun h => by rw [Bd.returns] at h; cases h)
    refine ⟨_, _, pre2 _ ?_, hrun, hended, _, _, rfl, ?_, ⟨_, rfl⟩, hW, hsame.mono (by decide) (by decide)⟩
    · show Steps p.tables e below (s₁.setTop (mkF m 1 #[.val (.int p1)] [(.int p1)])) _
      refine XS.ifNo X0.here hx rfl (hb hby d1_1) rfl ((if0 _ _).trans (teq hc1).2) ?_
      show Steps p.tables e below (s₁.setTop (mkF m 4 #[.val (.int p1)] [])) _
      refine st3 _ ?_
      show Steps p.tables e below (T3.setTop (mkF m 7 #[.val (.int p1)] [(.ref w_OPEN_BRACE)])) _
      jvm_step X3.here [X3.here.top, hx, (hb hby d1_7), X3.method', Bd.returns, Value.isRef, FieldType.isReference]
      first | (intro acts; rw [hr _ acts rfl rfl rfl]) | rw [hr _ _ rfl rfl rfl]
      exact Steps.refl _
    · show QP _ h0 n0 _ T3.heap _
      rw [e3, show f1 p1 w_OPEN_BRACE w_CLOSE_BRACE w_OPEN_BRACKET w_CLOSE_BRACKET w_COMMA w_COLON w_EQUALS w_PLUS_EQUALS w_NEWLINE w_UNQUOTED w_QUOTED w_NUMBER w_SUBSTITUTION w_OPTIONAL_SUBSTITUTION w_COMMENT w_END = w_OPEN_BRACE from by unfold f1; rw [if_pos hc1]]
      exact ⟨rfl, N0, rfl⟩
  · have pre5 : ∀ t, Steps p.tables e below (s₁.setTop (mkF m 10 #[.val (.int p1)] [(.int (1 : Int32)), (.int p1)])) t → Steps p.tables e below (s₁.setTop (entryFrame m #[(.int p1)] 1)) t := fun t k => by
      refine pre2 _ ?_
      show Steps p.tables e below (s₁.setTop (mkF m 1 #[.val (.int p1)] [(.int p1)])) _
      refine XS.ifYes X0.here hx rfl (pc0 := 1) (pc' := 8) rfl (hb hby d1_1) rfl ((if0 _ _).trans (feq hc1).2) (by decide) (by decide) ?_
      show Steps p.tables e below (s₁.setTop (mkF m 8 #[.val (.int p1)] [])) _
      refine XS.iloadN X0.here hx rfl (hb hby d1_8) rfl ?_
      show Steps p.tables e below (s₁.setTop (mkF m 9 #[.val (.int p1)] [(.int p1)])) _
      refine XS.iconst X0.here hx rfl (hb hby d1_9) ?_
      exact k
    by_cases hc4 : p1 = (1 : Int32)
    · obtain ⟨T6, X6, e6, st6⟩ := getS2 X0 hx hZ hown (host := "") (Or.inl (hw _ (List.mem_of_getElem? (i := 32) rfl))) Via.refl e0 S_CLOSE_BRACE (g := (mkF m 13 #[.val (.int p1)] [])) rfl (hb hby d1_13)
      obtain ⟨fs, hr, hrun, hended, hW, hsame⟩ := X6.leave (v := some (.ref w_CLOSE_BRACE)) (fun h => by rw [Bd.returns] at h; cases h)
      refine ⟨_, _, pre5 _ ?_, hrun, hended, _, _, rfl, ?_, ⟨_, rfl⟩, hW, hsame.mono (by decide) (by decide)⟩
      · show Steps p.tables e below (s₁.setTop (mkF m 10 #[.val (.int p1)] [(.int (1 : Int32)), (.int p1)])) _
        refine XS.icmpNo X0.here hx rfl (hb hby d1_10) rfl (teq hc4).2 ?_
        show Steps p.tables e below (s₁.setTop (mkF m 13 #[.val (.int p1)] [])) _
        refine st6 _ ?_
        show Steps p.tables e below (T6.setTop (mkF m 16 #[.val (.int p1)] [(.ref w_CLOSE_BRACE)])) _
        jvm_step X6.here [X6.here.top, hx, (hb hby d1_16), X6.method', Bd.returns, Value.isRef, FieldType.isReference]
        first | (intro acts; rw [hr _ acts rfl rfl rfl]) | rw [hr _ _ rfl rfl rfl]
        exact Steps.refl _
      · show QP _ h0 n0 _ T6.heap _
        rw [e6, show f1 p1 w_OPEN_BRACE w_CLOSE_BRACE w_OPEN_BRACKET w_CLOSE_BRACKET w_COMMA w_COLON w_EQUALS w_PLUS_EQUALS w_NEWLINE w_UNQUOTED w_QUOTED w_NUMBER w_SUBSTITUTION w_OPTIONAL_SUBSTITUTION w_COMMENT w_END = w_CLOSE_BRACE from by unfold f1; rw [if_neg hc1, if_pos hc4]]
        exact ⟨rfl, N0, rfl⟩
    · have pre8 : ∀ t, Steps p.tables e below (s₁.setTop (mkF m 19 #[.val (.int p1)] [(.int (2 : Int32)), (.int p1)])) t → Steps p.tables e below (s₁.setTop (entryFrame m #[(.int p1)] 1)) t := fun t k => by
        refine pre5 _ ?_
        show Steps p.tables e below (s₁.setTop (mkF m 10 #[.val (.int p1)] [(.int (1 : Int32)), (.int p1)])) _
        refine XS.icmpYes X0.here hx rfl (pc0 := 10) (pc' := 17) rfl (hb hby d1_10) rfl (feq hc4).2 (by decide) (by decide) ?_
        show Steps p.tables e below (s₁.setTop (mkF m 17 #[.val (.int p1)] [])) _
        refine XS.iloadN X0.here hx rfl (hb hby d1_17) rfl ?_
        show Steps p.tables e below (s₁.setTop (mkF m 18 #[.val (.int p1)] [(.int p1)])) _
        refine XS.iconst X0.here hx rfl (hb hby d1_18) ?_
        exact k
      by_cases hc7 : p1 = (2 : Int32)
      · obtain ⟨T9, X9, e9, st9⟩ := getS2 X0 hx hZ hown (host := "") (Or.inl (hw _ (List.mem_of_getElem? (i := 27) rfl))) Via.refl e0 S_OPEN_BRACKET (g := (mkF m 22 #[.val (.int p1)] [])) rfl (hb hby d1_22)
        obtain ⟨fs, hr, hrun, hended, hW, hsame⟩ := X9.leave (v := some (.ref w_OPEN_BRACKET)) (fun h => by rw [Bd.returns] at h; cases h)
        refine ⟨_, _, pre8 _ ?_, hrun, hended, _, _, rfl, ?_, ⟨_, rfl⟩, hW, hsame.mono (by decide) (by decide)⟩
        · show Steps p.tables e below (s₁.setTop (mkF m 19 #[.val (.int p1)] [(.int (2 : Int32)), (.int p1)])) _
          refine XS.icmpNo X0.here hx rfl (hb hby d1_19) rfl (teq hc7).2 ?_
          show Steps p.tables e below (s₁.setTop (mkF m 22 #[.val (.int p1)] [])) _
          refine st9 _ ?_
          show Steps p.tables e below (T9.setTop (mkF m 25 #[.val (.int p1)] [(.ref w_OPEN_BRACKET)])) _
          jvm_step X9.here [X9.here.top, hx, (hb hby d1_25), X9.method', Bd.returns, Value.isRef, FieldType.isReference]
          first | (intro acts; rw [hr _ acts rfl rfl rfl]) | rw [hr _ _ rfl rfl rfl]
          exact Steps.refl _
        · show QP _ h0 n0 _ T9.heap _
          rw [e9, show f1 p1 w_OPEN_BRACE w_CLOSE_BRACE w_OPEN_BRACKET w_CLOSE_BRACKET w_COMMA w_COLON w_EQUALS w_PLUS_EQUALS w_NEWLINE w_UNQUOTED w_QUOTED w_NUMBER w_SUBSTITUTION w_OPTIONAL_SUBSTITUTION w_COMMENT w_END = w_OPEN_BRACKET from by unfold f1; rw [if_neg hc1, if_neg hc4, if_pos hc7]]
          exact ⟨rfl, N0, rfl⟩
      · have pre11 : ∀ t, Steps p.tables e below (s₁.setTop (mkF m 28 #[.val (.int p1)] [(.int (3 : Int32)), (.int p1)])) t → Steps p.tables e below (s₁.setTop (entryFrame m #[(.int p1)] 1)) t := fun t k => by
          refine pre8 _ ?_
          show Steps p.tables e below (s₁.setTop (mkF m 19 #[.val (.int p1)] [(.int (2 : Int32)), (.int p1)])) _
          refine XS.icmpYes X0.here hx rfl (pc0 := 19) (pc' := 26) rfl (hb hby d1_19) rfl (feq hc7).2 (by decide) (by decide) ?_
          show Steps p.tables e below (s₁.setTop (mkF m 26 #[.val (.int p1)] [])) _
          refine XS.iloadN X0.here hx rfl (hb hby d1_26) rfl ?_
          show Steps p.tables e below (s₁.setTop (mkF m 27 #[.val (.int p1)] [(.int p1)])) _
          refine XS.iconst X0.here hx rfl (hb hby d1_27) ?_
          exact k
        by_cases hc10 : p1 = (3 : Int32)
        · obtain ⟨T12, X12, e12, st12⟩ := getS2 X0 hx hZ hown (host := "") (Or.inl (hw _ (List.mem_of_getElem? (i := 18) rfl))) Via.refl e0 S_CLOSE_BRACKET (g := (mkF m 31 #[.val (.int p1)] [])) rfl (hb hby d1_31)
          obtain ⟨fs, hr, hrun, hended, hW, hsame⟩ := X12.leave (v := some (.ref w_CLOSE_BRACKET)) (fun h => by rw [Bd.returns] at h; cases h)
          refine ⟨_, _, pre11 _ ?_, hrun, hended, _, _, rfl, ?_, ⟨_, rfl⟩, hW, hsame.mono (by decide) (by decide)⟩
          · show Steps p.tables e below (s₁.setTop (mkF m 28 #[.val (.int p1)] [(.int (3 : Int32)), (.int p1)])) _
            refine XS.icmpNo X0.here hx rfl (hb hby d1_28) rfl (teq hc10).2 ?_
            show Steps p.tables e below (s₁.setTop (mkF m 31 #[.val (.int p1)] [])) _
            refine st12 _ ?_
            show Steps p.tables e below (T12.setTop (mkF m 34 #[.val (.int p1)] [(.ref w_CLOSE_BRACKET)])) _
            jvm_step X12.here [X12.here.top, hx, (hb hby d1_34), X12.method', Bd.returns, Value.isRef, FieldType.isReference]
            first | (intro acts; rw [hr _ acts rfl rfl rfl]) | rw [hr _ _ rfl rfl rfl]
            exact Steps.refl _
          · show QP _ h0 n0 _ T12.heap _
            rw [e12, show f1 p1 w_OPEN_BRACE w_CLOSE_BRACE w_OPEN_BRACKET w_CLOSE_BRACKET w_COMMA w_COLON w_EQUALS w_PLUS_EQUALS w_NEWLINE w_UNQUOTED w_QUOTED w_NUMBER w_SUBSTITUTION w_OPTIONAL_SUBSTITUTION w_COMMENT w_END = w_CLOSE_BRACKET from by unfold f1; rw [if_neg hc1, if_neg hc4, if_neg hc7, if_pos hc10]]
            exact ⟨rfl, N0, rfl⟩
        · have pre14 : ∀ t, Steps p.tables e below (s₁.setTop (mkF m 37 #[.val (.int p1)] [(.int (4 : Int32)), (.int p1)])) t → Steps p.tables e below (s₁.setTop (entryFrame m #[(.int p1)] 1)) t := fun t k => by
            refine pre11 _ ?_
            show Steps p.tables e below (s₁.setTop (mkF m 28 #[.val (.int p1)] [(.int (3 : Int32)), (.int p1)])) _
            refine XS.icmpYes X0.here hx rfl (pc0 := 28) (pc' := 35) rfl (hb hby d1_28) rfl (feq hc10).2 (by decide) (by decide) ?_
            show Steps p.tables e below (s₁.setTop (mkF m 35 #[.val (.int p1)] [])) _
            refine XS.iloadN X0.here hx rfl (hb hby d1_35) rfl ?_
            show Steps p.tables e below (s₁.setTop (mkF m 36 #[.val (.int p1)] [(.int p1)])) _
            refine XS.iconst X0.here hx rfl (hb hby d1_36) ?_
            exact k
          by_cases hc13 : p1 = (4 : Int32)
          · obtain ⟨T15, X15, e15, st15⟩ := getS2 X0 hx hZ hown (host := "") (Or.inl (hw _ (List.mem_of_getElem? (i := 34) rfl))) Via.refl e0 S_COMMA (g := (mkF m 40 #[.val (.int p1)] [])) rfl (hb hby d1_40)
            obtain ⟨fs, hr, hrun, hended, hW, hsame⟩ := X15.leave (v := some (.ref w_COMMA)) (fun h => by rw [Bd.returns] at h; cases h)
            refine ⟨_, _, pre14 _ ?_, hrun, hended, _, _, rfl, ?_, ⟨_, rfl⟩, hW, hsame.mono (by decide) (by decide)⟩
            · show Steps p.tables e below (s₁.setTop (mkF m 37 #[.val (.int p1)] [(.int (4 : Int32)), (.int p1)])) _
              refine XS.icmpNo X0.here hx rfl (hb hby d1_37) rfl (teq hc13).2 ?_
              show Steps p.tables e below (s₁.setTop (mkF m 40 #[.val (.int p1)] [])) _
              refine st15 _ ?_
              show Steps p.tables e below (T15.setTop (mkF m 43 #[.val (.int p1)] [(.ref w_COMMA)])) _
              jvm_step X15.here [X15.here.top, hx, (hb hby d1_43), X15.method', Bd.returns, Value.isRef, FieldType.isReference]
              first | (intro acts; rw [hr _ acts rfl rfl rfl]) | rw [hr _ _ rfl rfl rfl]
              exact Steps.refl _
            · show QP _ h0 n0 _ T15.heap _
              rw [e15, show f1 p1 w_OPEN_BRACE w_CLOSE_BRACE w_OPEN_BRACKET w_CLOSE_BRACKET w_COMMA w_COLON w_EQUALS w_PLUS_EQUALS w_NEWLINE w_UNQUOTED w_QUOTED w_NUMBER w_SUBSTITUTION w_OPTIONAL_SUBSTITUTION w_COMMENT w_END = w_COMMA from by unfold f1; rw [if_neg hc1, if_neg hc4, if_neg hc7, if_neg hc10, if_pos hc13]]
              exact ⟨rfl, N0, rfl⟩
          · have pre17 : ∀ t, Steps p.tables e below (s₁.setTop (mkF m 46 #[.val (.int p1)] [(.int (5 : Int32)), (.int p1)])) t → Steps p.tables e below (s₁.setTop (entryFrame m #[(.int p1)] 1)) t := fun t k => by
              refine pre14 _ ?_
              show Steps p.tables e below (s₁.setTop (mkF m 37 #[.val (.int p1)] [(.int (4 : Int32)), (.int p1)])) _
              refine XS.icmpYes X0.here hx rfl (pc0 := 37) (pc' := 44) rfl (hb hby d1_37) rfl (feq hc13).2 (by decide) (by decide) ?_
              show Steps p.tables e below (s₁.setTop (mkF m 44 #[.val (.int p1)] [])) _
              refine XS.iloadN X0.here hx rfl (hb hby d1_44) rfl ?_
              show Steps p.tables e below (s₁.setTop (mkF m 45 #[.val (.int p1)] [(.int p1)])) _
              refine XS.iconst X0.here hx rfl (hb hby d1_45) ?_
              exact k
            by_cases hc16 : p1 = (5 : Int32)
            · obtain ⟨T18, X18, e18, st18⟩ := getS2 X0 hx hZ hown (host := "") (Or.inl (hw _ (List.mem_of_getElem? (i := 43) rfl))) Via.refl e0 S_COLON (g := (mkF m 49 #[.val (.int p1)] [])) rfl (hb hby d1_49)
              obtain ⟨fs, hr, hrun, hended, hW, hsame⟩ := X18.leave (v := some (.ref w_COLON)) (fun h => by rw [Bd.returns] at h; cases h)
              refine ⟨_, _, pre17 _ ?_, hrun, hended, _, _, rfl, ?_, ⟨_, rfl⟩, hW, hsame.mono (by decide) (by decide)⟩
              · show Steps p.tables e below (s₁.setTop (mkF m 46 #[.val (.int p1)] [(.int (5 : Int32)), (.int p1)])) _
                refine XS.icmpNo X0.here hx rfl (hb hby d1_46) rfl (teq hc16).2 ?_
                show Steps p.tables e below (s₁.setTop (mkF m 49 #[.val (.int p1)] [])) _
                refine st18 _ ?_
                show Steps p.tables e below (T18.setTop (mkF m 52 #[.val (.int p1)] [(.ref w_COLON)])) _
                jvm_step X18.here [X18.here.top, hx, (hb hby d1_52), X18.method', Bd.returns, Value.isRef, FieldType.isReference]
                first | (intro acts; rw [hr _ acts rfl rfl rfl]) | rw [hr _ _ rfl rfl rfl]
                exact Steps.refl _
              · show QP _ h0 n0 _ T18.heap _
                rw [e18, show f1 p1 w_OPEN_BRACE w_CLOSE_BRACE w_OPEN_BRACKET w_CLOSE_BRACKET w_COMMA w_COLON w_EQUALS w_PLUS_EQUALS w_NEWLINE w_UNQUOTED w_QUOTED w_NUMBER w_SUBSTITUTION w_OPTIONAL_SUBSTITUTION w_COMMENT w_END = w_COLON from by unfold f1; rw [if_neg hc1, if_neg hc4, if_neg hc7, if_neg hc10, if_neg hc13, if_pos hc16]]
                exact ⟨rfl, N0, rfl⟩
            · have pre20 : ∀ t, Steps p.tables e below (s₁.setTop (mkF m 56 #[.val (.int p1)] [(.int (6 : Int32)), (.int p1)])) t → Steps p.tables e below (s₁.setTop (entryFrame m #[(.int p1)] 1)) t := fun t k => by
                refine pre17 _ ?_
                show Steps p.tables e below (s₁.setTop (mkF m 46 #[.val (.int p1)] [(.int (5 : Int32)), (.int p1)])) _
                refine XS.icmpYes X0.here hx rfl (pc0 := 46) (pc' := 53) rfl (hb hby d1_46) rfl (feq hc16).2 (by decide) (by decide) ?_
                show Steps p.tables e below (s₁.setTop (mkF m 53 #[.val (.int p1)] [])) _
                refine XS.iloadN X0.here hx rfl (hb hby d1_53) rfl ?_
                show Steps p.tables e below (s₁.setTop (mkF m 54 #[.val (.int p1)] [(.int p1)])) _
                refine XS.bipush X0.here hx rfl (hb hby d1_54) ?_
                exact k
              by_cases hc19 : p1 = (6 : Int32)
              · obtain ⟨T21, X21, e21, st21⟩ := getS2 X0 hx hZ hown (host := "") (Or.inl (hw _ (List.mem_of_getElem? (i := 40) rfl))) Via.refl e0 S_EQUALS (g := (mkF m 59 #[.val (.int p1)] [])) rfl (hb hby d1_59)
                obtain ⟨fs, hr, hrun, hended, hW, hsame⟩ := X21.leave (v := some (.ref w_EQUALS)) (fun h => by rw [Bd.returns] at h; cases h)
                refine ⟨_, _, pre20 _ ?_, hrun, hended, _, _, rfl, ?_, ⟨_, rfl⟩, hW, hsame.mono (by decide) (by decide)⟩
                · show Steps p.tables e below (s₁.setTop (mkF m 56 #[.val (.int p1)] [(.int (6 : Int32)), (.int p1)])) _
                  refine XS.icmpNo X0.here hx rfl (hb hby d1_56) rfl (teq hc19).2 ?_
                  show Steps p.tables e below (s₁.setTop (mkF m 59 #[.val (.int p1)] [])) _
                  refine st21 _ ?_
                  show Steps p.tables e below (T21.setTop (mkF m 62 #[.val (.int p1)] [(.ref w_EQUALS)])) _
                  jvm_step X21.here [X21.here.top, hx, (hb hby d1_62), X21.method', Bd.returns, Value.isRef, FieldType.isReference]
                  first | (intro acts; rw [hr _ acts rfl rfl rfl]) | rw [hr _ _ rfl rfl rfl]
                  exact Steps.refl _
                · show QP _ h0 n0 _ T21.heap _
                  rw [e21, show f1 p1 w_OPEN_BRACE w_CLOSE_BRACE w_OPEN_BRACKET w_CLOSE_BRACKET w_COMMA w_COLON w_EQUALS w_PLUS_EQUALS w_NEWLINE w_UNQUOTED w_QUOTED w_NUMBER w_SUBSTITUTION w_OPTIONAL_SUBSTITUTION w_COMMENT w_END = w_EQUALS from by unfold f1; rw [if_neg hc1, if_neg hc4, if_neg hc7, if_neg hc10, if_neg hc13, if_neg hc16, if_pos hc19]]
                  exact ⟨rfl, N0, rfl⟩
              · have pre23 : ∀ t, Steps p.tables e below (s₁.setTop (mkF m 66 #[.val (.int p1)] [(.int (7 : Int32)), (.int p1)])) t → Steps p.tables e below (s₁.setTop (entryFrame m #[(.int p1)] 1)) t := fun t k => by
                  refine pre20 _ ?_
                  show Steps p.tables e below (s₁.setTop (mkF m 56 #[.val (.int p1)] [(.int (6 : Int32)), (.int p1)])) _
                  refine XS.icmpYes X0.here hx rfl (pc0 := 56) (pc' := 63) rfl (hb hby d1_56) rfl (feq hc19).2 (by decide) (by decide) ?_
                  show Steps p.tables e below (s₁.setTop (mkF m 63 #[.val (.int p1)] [])) _
                  refine XS.iloadN X0.here hx rfl (hb hby d1_63) rfl ?_
                  show Steps p.tables e below (s₁.setTop (mkF m 64 #[.val (.int p1)] [(.int p1)])) _
                  refine XS.bipush X0.here hx rfl (hb hby d1_64) ?_
                  exact k
                by_cases hc22 : p1 = (7 : Int32)
                · obtain ⟨T24, X24, e24, st24⟩ := getS2 X0 hx hZ hown (host := "") (Or.inl (hw _ (List.mem_of_getElem? (i := 25) rfl))) Via.refl e0 S_PLUS_EQUALS (g := (mkF m 69 #[.val (.int p1)] [])) rfl (hb hby d1_69)
                  obtain ⟨fs, hr, hrun, hended, hW, hsame⟩ := X24.leave (v := some (.ref w_PLUS_EQUALS)) (fun h => by rw [Bd.returns] at h; cases h)
                  refine ⟨_, _, pre23 _ ?_, hrun, hended, _, _, rfl, ?_, ⟨_, rfl⟩, hW, hsame.mono (by decide) (by decide)⟩
                  · show Steps p.tables e below (s₁.setTop (mkF m 66 #[.val (.int p1)] [(.int (7 : Int32)), (.int p1)])) _
                    refine XS.icmpNo X0.here hx rfl (hb hby d1_66) rfl (teq hc22).2 ?_
                    show Steps p.tables e below (s₁.setTop (mkF m 69 #[.val (.int p1)] [])) _
                    refine st24 _ ?_
                    show Steps p.tables e below (T24.setTop (mkF m 72 #[.val (.int p1)] [(.ref w_PLUS_EQUALS)])) _
                    jvm_step X24.here [X24.here.top, hx, (hb hby d1_72), X24.method', Bd.returns, Value.isRef, FieldType.isReference]
                    first | (intro acts; rw [hr _ acts rfl rfl rfl]) | rw [hr _ _ rfl rfl rfl]
                    exact Steps.refl _
                  · show QP _ h0 n0 _ T24.heap _
                    rw [e24, show f1 p1 w_OPEN_BRACE w_CLOSE_BRACE w_OPEN_BRACKET w_CLOSE_BRACKET w_COMMA w_COLON w_EQUALS w_PLUS_EQUALS w_NEWLINE w_UNQUOTED w_QUOTED w_NUMBER w_SUBSTITUTION w_OPTIONAL_SUBSTITUTION w_COMMENT w_END = w_PLUS_EQUALS from by unfold f1; rw [if_neg hc1, if_neg hc4, if_neg hc7, if_neg hc10, if_neg hc13, if_neg hc16, if_neg hc19, if_pos hc22]]
                    exact ⟨rfl, N0, rfl⟩
                · have pre26 : ∀ t, Steps p.tables e below (s₁.setTop (mkF m 76 #[.val (.int p1)] [(.int (8 : Int32)), (.int p1)])) t → Steps p.tables e below (s₁.setTop (entryFrame m #[(.int p1)] 1)) t := fun t k => by
                    refine pre23 _ ?_
                    show Steps p.tables e below (s₁.setTop (mkF m 66 #[.val (.int p1)] [(.int (7 : Int32)), (.int p1)])) _
                    refine XS.icmpYes X0.here hx rfl (pc0 := 66) (pc' := 73) rfl (hb hby d1_66) rfl (feq hc22).2 (by decide) (by decide) ?_
                    show Steps p.tables e below (s₁.setTop (mkF m 73 #[.val (.int p1)] [])) _
                    refine XS.iloadN X0.here hx rfl (hb hby d1_73) rfl ?_
                    show Steps p.tables e below (s₁.setTop (mkF m 74 #[.val (.int p1)] [(.int p1)])) _
                    refine XS.bipush X0.here hx rfl (hb hby d1_74) ?_
                    exact k
                  by_cases hc25 : p1 = (8 : Int32)
                  · obtain ⟨T27, X27, e27, st27⟩ := getS2 X0 hx hZ hown (host := "") (Or.inl (hw _ (List.mem_of_getElem? (i := 30) rfl))) Via.refl e0 S_NEWLINE (g := (mkF m 79 #[.val (.int p1)] [])) rfl (hb hby d1_79)
                    obtain ⟨fs, hr, hrun, hended, hW, hsame⟩ := X27.leave (v := some (.ref w_NEWLINE)) (fun h => by rw [Bd.returns] at h; cases h)
                    refine ⟨_, _, pre26 _ ?_, hrun, hended, _, _, rfl, ?_, ⟨_, rfl⟩, hW, hsame.mono (by decide) (by decide)⟩
                    · show Steps p.tables e below (s₁.setTop (mkF m 76 #[.val (.int p1)] [(.int (8 : Int32)), (.int p1)])) _
                      refine XS.icmpNo X0.here hx rfl (hb hby d1_76) rfl (teq hc25).2 ?_
                      show Steps p.tables e below (s₁.setTop (mkF m 79 #[.val (.int p1)] [])) _
                      refine st27 _ ?_
                      show Steps p.tables e below (T27.setTop (mkF m 82 #[.val (.int p1)] [(.ref w_NEWLINE)])) _
                      jvm_step X27.here [X27.here.top, hx, (hb hby d1_82), X27.method', Bd.returns, Value.isRef, FieldType.isReference]
                      first | (intro acts; rw [hr _ acts rfl rfl rfl]) | rw [hr _ _ rfl rfl rfl]
                      exact Steps.refl _
                    · show QP _ h0 n0 _ T27.heap _
                      rw [e27, show f1 p1 w_OPEN_BRACE w_CLOSE_BRACE w_OPEN_BRACKET w_CLOSE_BRACKET w_COMMA w_COLON w_EQUALS w_PLUS_EQUALS w_NEWLINE w_UNQUOTED w_QUOTED w_NUMBER w_SUBSTITUTION w_OPTIONAL_SUBSTITUTION w_COMMENT w_END = w_NEWLINE from by unfold f1; rw [if_neg hc1, if_neg hc4, if_neg hc7, if_neg hc10, if_neg hc13, if_neg hc16, if_neg hc19, if_neg hc22, if_pos hc25]]
                      exact ⟨rfl, N0, rfl⟩
                  · have pre29 : ∀ t, Steps p.tables e below (s₁.setTop (mkF m 86 #[.val (.int p1)] [(.int (9 : Int32)), (.int p1)])) t → Steps p.tables e below (s₁.setTop (entryFrame m #[(.int p1)] 1)) t := fun t k => by
                      refine pre26 _ ?_
                      show Steps p.tables e below (s₁.setTop (mkF m 76 #[.val (.int p1)] [(.int (8 : Int32)), (.int p1)])) _
                      refine XS.icmpYes X0.here hx rfl (pc0 := 76) (pc' := 83) rfl (hb hby d1_76) rfl (feq hc25).2 (by decide) (by decide) ?_
                      show Steps p.tables e below (s₁.setTop (mkF m 83 #[.val (.int p1)] [])) _
                      refine XS.iloadN X0.here hx rfl (hb hby d1_83) rfl ?_
                      show Steps p.tables e below (s₁.setTop (mkF m 84 #[.val (.int p1)] [(.int p1)])) _
                      refine XS.bipush X0.here hx rfl (hb hby d1_84) ?_
                      exact k
                    by_cases hc28 : p1 = (9 : Int32)
                    · obtain ⟨T30, X30, e30, st30⟩ := getS2 X0 hx hZ hown (host := "") (Or.inl (hw _ (List.mem_of_getElem? (i := 42) rfl))) Via.refl e0 S_UNQUOTED (g := (mkF m 89 #[.val (.int p1)] [])) rfl (hb hby d1_89)
                      obtain ⟨fs, hr, hrun, hended, hW, hsame⟩ := X30.leave (v := some (.ref w_UNQUOTED)) (fun h => by rw [Bd.returns] at h; cases h)
                      refine ⟨_, _, pre29 _ ?_, hrun, hended, _, _, rfl, ?_, ⟨_, rfl⟩, hW, hsame.mono (by decide) (by decide)⟩
                      · show Steps p.tables e below (s₁.setTop (mkF m 86 #[.val (.int p1)] [(.int (9 : Int32)), (.int p1)])) _
                        refine XS.icmpNo X0.here hx rfl (hb hby d1_86) rfl (teq hc28).2 ?_
                        show Steps p.tables e below (s₁.setTop (mkF m 89 #[.val (.int p1)] [])) _
                        refine st30 _ ?_
                        show Steps p.tables e below (T30.setTop (mkF m 92 #[.val (.int p1)] [(.ref w_UNQUOTED)])) _
                        jvm_step X30.here [X30.here.top, hx, (hb hby d1_92), X30.method', Bd.returns, Value.isRef, FieldType.isReference]
                        first | (intro acts; rw [hr _ acts rfl rfl rfl]) | rw [hr _ _ rfl rfl rfl]
                        exact Steps.refl _
                      · show QP _ h0 n0 _ T30.heap _
                        rw [e30, show f1 p1 w_OPEN_BRACE w_CLOSE_BRACE w_OPEN_BRACKET w_CLOSE_BRACKET w_COMMA w_COLON w_EQUALS w_PLUS_EQUALS w_NEWLINE w_UNQUOTED w_QUOTED w_NUMBER w_SUBSTITUTION w_OPTIONAL_SUBSTITUTION w_COMMENT w_END = w_UNQUOTED from by unfold f1; rw [if_neg hc1, if_neg hc4, if_neg hc7, if_neg hc10, if_neg hc13, if_neg hc16, if_neg hc19, if_neg hc22, if_neg hc25, if_pos hc28]]
                        exact ⟨rfl, N0, rfl⟩
                    · have pre32 : ∀ t, Steps p.tables e below (s₁.setTop (mkF m 96 #[.val (.int p1)] [(.int (10 : Int32)), (.int p1)])) t → Steps p.tables e below (s₁.setTop (entryFrame m #[(.int p1)] 1)) t := fun t k => by
                        refine pre29 _ ?_
                        show Steps p.tables e below (s₁.setTop (mkF m 86 #[.val (.int p1)] [(.int (9 : Int32)), (.int p1)])) _
                        refine XS.icmpYes X0.here hx rfl (pc0 := 86) (pc' := 93) rfl (hb hby d1_86) rfl (feq hc28).2 (by decide) (by decide) ?_
                        show Steps p.tables e below (s₁.setTop (mkF m 93 #[.val (.int p1)] [])) _
                        refine XS.iloadN X0.here hx rfl (hb hby d1_93) rfl ?_
                        show Steps p.tables e below (s₁.setTop (mkF m 94 #[.val (.int p1)] [(.int p1)])) _
                        refine XS.bipush X0.here hx rfl (hb hby d1_94) ?_
                        exact k
                      by_cases hc31 : p1 = (10 : Int32)
                      · obtain ⟨T33, X33, e33, st33⟩ := getS2 X0 hx hZ hown (host := "") (Or.inl (hw _ (List.mem_of_getElem? (i := 24) rfl))) Via.refl e0 S_QUOTED (g := (mkF m 99 #[.val (.int p1)] [])) rfl (hb hby d1_99)
                        obtain ⟨fs, hr, hrun, hended, hW, hsame⟩ := X33.leave (v := some (.ref w_QUOTED)) (fun h => by rw [Bd.returns] at h; cases h)
                        refine ⟨_, _, pre32 _ ?_, hrun, hended, _, _, rfl, ?_, ⟨_, rfl⟩, hW, hsame.mono (by decide) (by decide)⟩
                        · show Steps p.tables e below (s₁.setTop (mkF m 96 #[.val (.int p1)] [(.int (10 : Int32)), (.int p1)])) _
                          refine XS.icmpNo X0.here hx rfl (hb hby d1_96) rfl (teq hc31).2 ?_
                          show Steps p.tables e below (s₁.setTop (mkF m 99 #[.val (.int p1)] [])) _
                          refine st33 _ ?_
                          show Steps p.tables e below (T33.setTop (mkF m 102 #[.val (.int p1)] [(.ref w_QUOTED)])) _
                          jvm_step X33.here [X33.here.top, hx, (hb hby d1_102), X33.method', Bd.returns, Value.isRef, FieldType.isReference]
                          first | (intro acts; rw [hr _ acts rfl rfl rfl]) | rw [hr _ _ rfl rfl rfl]
                          exact Steps.refl _
                        · show QP _ h0 n0 _ T33.heap _
                          rw [e33, show f1 p1 w_OPEN_BRACE w_CLOSE_BRACE w_OPEN_BRACKET w_CLOSE_BRACKET w_COMMA w_COLON w_EQUALS w_PLUS_EQUALS w_NEWLINE w_UNQUOTED w_QUOTED w_NUMBER w_SUBSTITUTION w_OPTIONAL_SUBSTITUTION w_COMMENT w_END = w_QUOTED from by unfold f1; rw [if_neg hc1, if_neg hc4, if_neg hc7, if_neg hc10, if_neg hc13, if_neg hc16, if_neg hc19, if_neg hc22, if_neg hc25, if_neg hc28, if_pos hc31]]
                          exact ⟨rfl, N0, rfl⟩
                      · have pre35 : ∀ t, Steps p.tables e below (s₁.setTop (mkF m 106 #[.val (.int p1)] [(.int (11 : Int32)), (.int p1)])) t → Steps p.tables e below (s₁.setTop (entryFrame m #[(.int p1)] 1)) t := fun t k => by
                          refine pre32 _ ?_
                          show Steps p.tables e below (s₁.setTop (mkF m 96 #[.val (.int p1)] [(.int (10 : Int32)), (.int p1)])) _
                          refine XS.icmpYes X0.here hx rfl (pc0 := 96) (pc' := 103) rfl (hb hby d1_96) rfl (feq hc31).2 (by decide) (by decide) ?_
                          show Steps p.tables e below (s₁.setTop (mkF m 103 #[.val (.int p1)] [])) _
                          refine XS.iloadN X0.here hx rfl (hb hby d1_103) rfl ?_
                          show Steps p.tables e below (s₁.setTop (mkF m 104 #[.val (.int p1)] [(.int p1)])) _
                          refine XS.bipush X0.here hx rfl (hb hby d1_104) ?_
                          exact k
                        by_cases hc34 : p1 = (11 : Int32)
                        · obtain ⟨T36, X36, e36, st36⟩ := getS2 X0 hx hZ hown (host := "") (Or.inl (hw _ (List.mem_of_getElem? (i := 29) rfl))) Via.refl e0 S_NUMBER (g := (mkF m 109 #[.val (.int p1)] [])) rfl (hb hby d1_109)
                          obtain ⟨fs, hr, hrun, hended, hW, hsame⟩ := X36.leave (v := some (.ref w_NUMBER)) (fun h => by rw [Bd.returns] at h; cases h)
                          refine ⟨_, _, pre35 _ ?_, hrun, hended, _, _, rfl, ?_, ⟨_, rfl⟩, hW, hsame.mono (by decide) (by decide)⟩
                          · show Steps p.tables e below (s₁.setTop (mkF m 106 #[.val (.int p1)] [(.int (11 : Int32)), (.int p1)])) _
                            refine XS.icmpNo X0.here hx rfl (hb hby d1_106) rfl (teq hc34).2 ?_
                            show Steps p.tables e below (s₁.setTop (mkF m 109 #[.val (.int p1)] [])) _
                            refine st36 _ ?_
                            show Steps p.tables e below (T36.setTop (mkF m 112 #[.val (.int p1)] [(.ref w_NUMBER)])) _
                            jvm_step X36.here [X36.here.top, hx, (hb hby d1_112), X36.method', Bd.returns, Value.isRef, FieldType.isReference]
                            first | (intro acts; rw [hr _ acts rfl rfl rfl]) | rw [hr _ _ rfl rfl rfl]
                            exact Steps.refl _
                          · show QP _ h0 n0 _ T36.heap _
                            rw [e36, show f1 p1 w_OPEN_BRACE w_CLOSE_BRACE w_OPEN_BRACKET w_CLOSE_BRACKET w_COMMA w_COLON w_EQUALS w_PLUS_EQUALS w_NEWLINE w_UNQUOTED w_QUOTED w_NUMBER w_SUBSTITUTION w_OPTIONAL_SUBSTITUTION w_COMMENT w_END = w_NUMBER from by unfold f1; rw [if_neg hc1, if_neg hc4, if_neg hc7, if_neg hc10, if_neg hc13, if_neg hc16, if_neg hc19, if_neg hc22, if_neg hc25, if_neg hc28, if_neg hc31, if_pos hc34]]
                            exact ⟨rfl, N0, rfl⟩
                        · have pre38 : ∀ t, Steps p.tables e below (s₁.setTop (mkF m 116 #[.val (.int p1)] [(.int (12 : Int32)), (.int p1)])) t → Steps p.tables e below (s₁.setTop (entryFrame m #[(.int p1)] 1)) t := fun t k => by
                            refine pre35 _ ?_
                            show Steps p.tables e below (s₁.setTop (mkF m 106 #[.val (.int p1)] [(.int (11 : Int32)), (.int p1)])) _
                            refine XS.icmpYes X0.here hx rfl (pc0 := 106) (pc' := 113) rfl (hb hby d1_106) rfl (feq hc34).2 (by decide) (by decide) ?_
                            show Steps p.tables e below (s₁.setTop (mkF m 113 #[.val (.int p1)] [])) _
                            refine XS.iloadN X0.here hx rfl (hb hby d1_113) rfl ?_
                            show Steps p.tables e below (s₁.setTop (mkF m 114 #[.val (.int p1)] [(.int p1)])) _
                            refine XS.bipush X0.here hx rfl (hb hby d1_114) ?_
                            exact k
                          by_cases hc37 : p1 = (12 : Int32)
                          · obtain ⟨T39, X39, e39, st39⟩ := getS2 X0 hx hZ hown (host := "") (Or.inl (hw _ (List.mem_of_getElem? (i := 36) rfl))) Via.refl e0 S_SUBSTITUTION (g := (mkF m 119 #[.val (.int p1)] [])) rfl (hb hby d1_119)
                            obtain ⟨fs, hr, hrun, hended, hW, hsame⟩ := X39.leave (v := some (.ref w_SUBSTITUTION)) (fun h => by rw [Bd.returns] at h; cases h)
                            refine ⟨_, _, pre38 _ ?_, hrun, hended, _, _, rfl, ?_, ⟨_, rfl⟩, hW, hsame.mono (by decide) (by decide)⟩
                            · show Steps p.tables e below (s₁.setTop (mkF m 116 #[.val (.int p1)] [(.int (12 : Int32)), (.int p1)])) _
                              refine XS.icmpNo X0.here hx rfl (hb hby d1_116) rfl (teq hc37).2 ?_
                              show Steps p.tables e below (s₁.setTop (mkF m 119 #[.val (.int p1)] [])) _
                              refine st39 _ ?_
                              show Steps p.tables e below (T39.setTop (mkF m 122 #[.val (.int p1)] [(.ref w_SUBSTITUTION)])) _
                              jvm_step X39.here [X39.here.top, hx, (hb hby d1_122), X39.method', Bd.returns, Value.isRef, FieldType.isReference]
                              first | (intro acts; rw [hr _ acts rfl rfl rfl]) | rw [hr _ _ rfl rfl rfl]
                              exact Steps.refl _
                            · show QP _ h0 n0 _ T39.heap _
                              rw [e39, show f1 p1 w_OPEN_BRACE w_CLOSE_BRACE w_OPEN_BRACKET w_CLOSE_BRACKET w_COMMA w_COLON w_EQUALS w_PLUS_EQUALS w_NEWLINE w_UNQUOTED w_QUOTED w_NUMBER w_SUBSTITUTION w_OPTIONAL_SUBSTITUTION w_COMMENT w_END = w_SUBSTITUTION from by unfold f1; rw [if_neg hc1, if_neg hc4, if_neg hc7, if_neg hc10, if_neg hc13, if_neg hc16, if_neg hc19, if_neg hc22, if_neg hc25, if_neg hc28, if_neg hc31, if_neg hc34, if_pos hc37]]
                              exact ⟨rfl, N0, rfl⟩
                          · have pre41 : ∀ t, Steps p.tables e below (s₁.setTop (mkF m 126 #[.val (.int p1)] [(.int (13 : Int32)), (.int p1)])) t → Steps p.tables e below (s₁.setTop (entryFrame m #[(.int p1)] 1)) t := fun t k => by
                              refine pre38 _ ?_
                              show Steps p.tables e below (s₁.setTop (mkF m 116 #[.val (.int p1)] [(.int (12 : Int32)), (.int p1)])) _
                              refine XS.icmpYes X0.here hx rfl (pc0 := 116) (pc' := 123) rfl (hb hby d1_116) rfl (feq hc37).2 (by decide) (by decide) ?_
                              show Steps p.tables e below (s₁.setTop (mkF m 123 #[.val (.int p1)] [])) _
                              refine XS.iloadN X0.here hx rfl (hb hby d1_123) rfl ?_
                              show Steps p.tables e below (s₁.setTop (mkF m 124 #[.val (.int p1)] [(.int p1)])) _
                              refine XS.bipush X0.here hx rfl (hb hby d1_124) ?_
                              exact k
                            by_cases hc40 : p1 = (13 : Int32)
                            · obtain ⟨T42, X42, e42, st42⟩ := getS2 X0 hx hZ hown (host := "") (Or.inl (hw _ (List.mem_of_getElem? (i := 38) rfl))) Via.refl e0 S_OPTIONAL_SUBSTITUTION (g := (mkF m 129 #[.val (.int p1)] [])) rfl (hb hby d1_129)
                              obtain ⟨fs, hr, hrun, hended, hW, hsame⟩ := X42.leave (v := some (.ref w_OPTIONAL_SUBSTITUTION)) (fun h => by rw [Bd.returns] at h; cases h)
                              refine ⟨_, _, pre41 _ ?_, hrun, hended, _, _, rfl, ?_, ⟨_, rfl⟩, hW, hsame.mono (by decide) (by decide)⟩
                              · show Steps p.tables e below (s₁.setTop (mkF m 126 #[.val (.int p1)] [(.int (13 : Int32)), (.int p1)])) _
                                refine XS.icmpNo X0.here hx rfl (hb hby d1_126) rfl (teq hc40).2 ?_
                                show Steps p.tables e below (s₁.setTop (mkF m 129 #[.val (.int p1)] [])) _
                                refine st42 _ ?_
                                show Steps p.tables e below (T42.setTop (mkF m 132 #[.val (.int p1)] [(.ref w_OPTIONAL_SUBSTITUTION)])) _
                                jvm_step X42.here [X42.here.top, hx, (hb hby d1_132), X42.method', Bd.returns, Value.isRef, FieldType.isReference]
                                first | (intro acts; rw [hr _ acts rfl rfl rfl]) | rw [hr _ _ rfl rfl rfl]
                                exact Steps.refl _
                              · show QP _ h0 n0 _ T42.heap _
                                rw [e42, show f1 p1 w_OPEN_BRACE w_CLOSE_BRACE w_OPEN_BRACKET w_CLOSE_BRACKET w_COMMA w_COLON w_EQUALS w_PLUS_EQUALS w_NEWLINE w_UNQUOTED w_QUOTED w_NUMBER w_SUBSTITUTION w_OPTIONAL_SUBSTITUTION w_COMMENT w_END = w_OPTIONAL_SUBSTITUTION from by unfold f1; rw [if_neg hc1, if_neg hc4, if_neg hc7, if_neg hc10, if_neg hc13, if_neg hc16, if_neg hc19, if_neg hc22, if_neg hc25, if_neg hc28, if_neg hc31, if_neg hc34, if_neg hc37, if_pos hc40]]
                                exact ⟨rfl, N0, rfl⟩
                            · have pre44 : ∀ t, Steps p.tables e below (s₁.setTop (mkF m 136 #[.val (.int p1)] [(.int (14 : Int32)), (.int p1)])) t → Steps p.tables e below (s₁.setTop (entryFrame m #[(.int p1)] 1)) t := fun t k => by
                                refine pre41 _ ?_
                                show Steps p.tables e below (s₁.setTop (mkF m 126 #[.val (.int p1)] [(.int (13 : Int32)), (.int p1)])) _
                                refine XS.icmpYes X0.here hx rfl (pc0 := 126) (pc' := 133) rfl (hb hby d1_126) rfl (feq hc40).2 (by decide) (by decide) ?_
                                show Steps p.tables e below (s₁.setTop (mkF m 133 #[.val (.int p1)] [])) _
                                refine XS.iloadN X0.here hx rfl (hb hby d1_133) rfl ?_
                                show Steps p.tables e below (s₁.setTop (mkF m 134 #[.val (.int p1)] [(.int p1)])) _
                                refine XS.bipush X0.here hx rfl (hb hby d1_134) ?_
                                exact k
                              by_cases hc43 : p1 = (14 : Int32)
                              · obtain ⟨T45, X45, e45, st45⟩ := getS2 X0 hx hZ hown (host := "") (Or.inl (hw _ (List.mem_of_getElem? (i := 20) rfl))) Via.refl e0 S_COMMENT (g := (mkF m 139 #[.val (.int p1)] [])) rfl (hb hby d1_139)
                                obtain ⟨fs, hr, hrun, hended, hW, hsame⟩ := X45.leave (v := some (.ref w_COMMENT)) (fun h => by rw [Bd.returns] at h; cases h)
                                refine ⟨_, _, pre44 _ ?_, hrun, hended, _, _, rfl, ?_, ⟨_, rfl⟩, hW, hsame.mono (by decide) (by decide)⟩
                                · show Steps p.tables e below (s₁.setTop (mkF m 136 #[.val (.int p1)] [(.int (14 : Int32)), (.int p1)])) _
                                  refine XS.icmpNo X0.here hx rfl (hb hby d1_136) rfl (teq hc43).2 ?_
                                  show Steps p.tables e below (s₁.setTop (mkF m 139 #[.val (.int p1)] [])) _
                                  refine st45 _ ?_
                                  show Steps p.tables e below (T45.setTop (mkF m 142 #[.val (.int p1)] [(.ref w_COMMENT)])) _
                                  jvm_step X45.here [X45.here.top, hx, (hb hby d1_142), X45.method', Bd.returns, Value.isRef, FieldType.isReference]
                                  first | (intro acts; rw [hr _ acts rfl rfl rfl]) | rw [hr _ _ rfl rfl rfl]
                                  exact Steps.refl _
                                · show QP _ h0 n0 _ T45.heap _
                                  rw [e45, show f1 p1 w_OPEN_BRACE w_CLOSE_BRACE w_OPEN_BRACKET w_CLOSE_BRACKET w_COMMA w_COLON w_EQUALS w_PLUS_EQUALS w_NEWLINE w_UNQUOTED w_QUOTED w_NUMBER w_SUBSTITUTION w_OPTIONAL_SUBSTITUTION w_COMMENT w_END = w_COMMENT from by unfold f1; rw [if_neg hc1, if_neg hc4, if_neg hc7, if_neg hc10, if_neg hc13, if_neg hc16, if_neg hc19, if_neg hc22, if_neg hc25, if_neg hc28, if_neg hc31, if_neg hc34, if_neg hc37, if_neg hc40, if_pos hc43]]
                                  exact ⟨rfl, N0, rfl⟩
                              · obtain ⟨T46, X46, e46, st46⟩ := getS2 X0 hx hZ hown (host := "") (Or.inl (hw _ (List.mem_of_getElem? (i := 22) rfl))) Via.refl e0 S_END (g := (mkF m 143 #[.val (.int p1)] [])) rfl (hb hby d1_143)
                                obtain ⟨fs, hr, hrun, hended, hW, hsame⟩ := X46.leave (v := some (.ref w_END)) (fun h => by rw [Bd.returns] at h; cases h)
                                refine ⟨_, _, pre44 _ ?_, hrun, hended, _, _, rfl, ?_, ⟨_, rfl⟩, hW, hsame.mono (by decide) (by decide)⟩
                                · show Steps p.tables e below (s₁.setTop (mkF m 136 #[.val (.int p1)] [(.int (14 : Int32)), (.int p1)])) _
                                  refine XS.icmpYes X0.here hx rfl (pc0 := 136) (pc' := 143) rfl (hb hby d1_136) rfl (feq hc43).2 (by decide) (by decide) ?_
                                  show Steps p.tables e below (s₁.setTop (mkF m 143 #[.val (.int p1)] [])) _
                                  refine st46 _ ?_
                                  show Steps p.tables e below (T46.setTop (mkF m 146 #[.val (.int p1)] [(.ref w_END)])) _
                                  jvm_step X46.here [X46.here.top, hx, (hb hby d1_146), X46.method', Bd.returns, Value.isRef, FieldType.isReference]
                                  first | (intro acts; rw [hr _ acts rfl rfl rfl]) | rw [hr _ _ rfl rfl rfl]
                                  exact Steps.refl _
                                · show QP _ h0 n0 _ T46.heap _
                                  rw [e46, show f1 p1 w_OPEN_BRACE w_CLOSE_BRACE w_OPEN_BRACKET w_CLOSE_BRACKET w_COMMA w_COLON w_EQUALS w_PLUS_EQUALS w_NEWLINE w_UNQUOTED w_QUOTED w_NUMBER w_SUBSTITUTION w_OPTIONAL_SUBSTITUTION w_COMMENT w_END = w_END from by unfold f1; rw [if_neg hc1, if_neg hc4, if_neg hc7, if_neg hc10, if_neg hc13, if_neg hc16, if_neg hc19, if_neg hc22, if_neg hc25, if_neg hc28, if_neg hc31, if_neg hc34, if_neg hc37, if_neg hc40, if_neg hc43]]
                                  exact ⟨rfl, N0, rfl⟩
theorem own_ite {P : Addr → Prop} {c : Prop} [Decidable c] {a b : Addr} (ha : P a) (hb : P b) : P (if c then a else b) := by split <;> assumption
theorem f1_all {P : Addr → Prop} (p1 : Int32) (w_OPEN_BRACE : Addr) (w_CLOSE_BRACE : Addr) (w_OPEN_BRACKET : Addr) (w_CLOSE_BRACKET : Addr) (w_COMMA : Addr) (w_COLON : Addr) (w_EQUALS : Addr) (w_PLUS_EQUALS : Addr) (w_NEWLINE : Addr) (w_UNQUOTED : Addr) (w_QUOTED : Addr) (w_NUMBER : Addr) (w_SUBSTITUTION : Addr) (w_OPTIONAL_SUBSTITUTION : Addr) (w_COMMENT : Addr) (w_END : Addr) (H_w_OPEN_BRACE : P w_OPEN_BRACE) (H_w_CLOSE_BRACE : P w_CLOSE_BRACE) (H_w_OPEN_BRACKET : P w_OPEN_BRACKET) (H_w_CLOSE_BRACKET : P w_CLOSE_BRACKET) (H_w_COMMA : P w_COMMA) (H_w_COLON : P w_COLON) (H_w_EQUALS : P w_EQUALS) (H_w_PLUS_EQUALS : P w_PLUS_EQUALS) (H_w_NEWLINE : P w_NEWLINE) (H_w_UNQUOTED : P w_UNQUOTED) (H_w_QUOTED : P w_QUOTED) (H_w_NUMBER : P w_NUMBER) (H_w_SUBSTITUTION : P w_SUBSTITUTION) (H_w_OPTIONAL_SUBSTITUTION : P w_OPTIONAL_SUBSTITUTION) (H_w_COMMENT : P w_COMMENT) (H_w_END : P w_END) : P (f1 p1 w_OPEN_BRACE w_CLOSE_BRACE w_OPEN_BRACKET w_CLOSE_BRACKET w_COMMA w_COLON w_EQUALS w_PLUS_EQUALS w_NEWLINE w_UNQUOTED w_QUOTED w_NUMBER w_SUBSTITUTION w_OPTIONAL_SUBSTITUTION w_COMMENT w_END) := (own_ite H_w_OPEN_BRACE (own_ite H_w_CLOSE_BRACE (own_ite H_w_OPEN_BRACKET (own_ite H_w_CLOSE_BRACKET (own_ite H_w_COMMA (own_ite H_w_COLON (own_ite H_w_EQUALS (own_ite H_w_PLUS_EQUALS (own_ite H_w_NEWLINE (own_ite H_w_UNQUOTED (own_ite H_w_QUOTED (own_ite H_w_NUMBER (own_ite H_w_SUBSTITUTION (own_ite H_w_OPTIONAL_SUBSTITUTION (own_ite H_w_COMMENT H_w_END)))))))))))))))
theorem d2_0 : decode prog_58_method_5_code 0 = .ok (.aload_n 0, 1) := by decide +kernel
theorem d2_1 : decode prog_58_method_5_code 1 = .ok (.getstatic 31, 3) := by decide +kernel
theorem d2_4 : decode prog_58_method_5_code 4 = .ok (.if_acmp .eq 17, 3) := by decide +kernel
theorem d2_21 : decode prog_58_method_5_code 21 = .ok (.iconst 1, 1) := by decide +kernel
theorem d2_22 : decode prog_58_method_5_code 22 = .ok (.goto 4, 3) := by decide +kernel
theorem d2_26 : decode prog_58_method_5_code 26 = .ok (.ireturn, 1) := by decide +kernel
theorem d2_7 : decode prog_58_method_5_code 7 = .ok (.aload_n 0, 1) := by decide +kernel
theorem d2_8 : decode prog_58_method_5_code 8 = .ok (.getstatic 34, 3) := by decide +kernel
theorem d2_11 : decode prog_58_method_5_code 11 = .ok (.if_acmp .eq 10, 3) := by decide +kernel
theorem d2_14 : decode prog_58_method_5_code 14 = .ok (.aload_n 0, 1) := by decide +kernel
theorem d2_15 : decode prog_58_method_5_code 15 = .ok (.getstatic 37, 3) := by decide +kernel
theorem d2_18 : decode prog_58_method_5_code 18 = .ok (.if_acmp .ne 7, 3) := by decide +kernel
theorem d2_25 : decode prog_58_method_5_code 25 = .ok (.iconst 0, 1) := by decide +kernel
theorem pn_2 : plainName "com/example/hoconut/hoconut/token/TokenKind" = true := by first | (simp [plainName, overriddenIn]; done) | decide +kernel
theorem ef_2 (m : MethodId) (x0 : Addr) : entryFrame m #[(.ref x0)] 1 = mkF m 0 #[.val (.ref x0)] [] := by first | (simp [entryFrame, mkF, argsToLocals, Value.category]; done) | rfl
def f2 (a1 : Addr) (w_UNQUOTED : Addr) (w_QUOTED : Addr) (w_NUMBER : Addr) : Int32 := (if a1 = w_UNQUOTED then (1 : Int32) else (if a1 = w_QUOTED then (1 : Int32) else (if a1 = w_NUMBER then (1 : Int32) else (0 : Int32))))
set_option maxRecDepth 65536 in
set_option maxHeartbeats 40000000 in
theorem rm2 (l : Launch) (Z : State) (a0 : Array Value) (hw : ∀ d ∈ tables_1, d.before a0 Z = true) (ws : List Jvm.Cond) (a1 : Addr) (w_UNQUOTED : Addr) (w_QUOTED : Addr) (w_NUMBER : Addr) (h0 : Heap) (n0 : Nat) (Z0 : n0 ≤ h0.size) (S_UNQUOTED : Sta Z h0 "com/example/hoconut/hoconut/token/TokenKind" "UNQUOTED" "Lcom/example/hoconut/hoconut/token/TokenKind;" (.ref w_UNQUOTED)) (S_QUOTED : Sta Z h0 "com/example/hoconut/hoconut/token/TokenKind" "QUOTED" "Lcom/example/hoconut/hoconut/token/TokenKind;" (.ref w_QUOTED)) (S_NUMBER : Sta Z h0 "com/example/hoconut/hoconut/token/TokenKind" "NUMBER" "Lcom/example/hoconut/hoconut/token/TokenKind;" (.ref w_NUMBER)) :
    MetFree l (⟨"com/example/hoconut/hoconut/token/TokenKind", "isText", "()Z"⟩ : MethodName) (head1 (Jvm.Cond.code (⟨"com/example/hoconut/hoconut/token/TokenKind", "isText", "()Z"⟩ : MethodName) prog_58_method_5_code 1 (some .boolean) :: ws) ({ frames := 0, cells := 0, slots := 0, locals := 0 } : Room)) (fun a U => a = #[(.ref a1)] ∧ Z.Warmed39 U.vm ∧ U.heap = h0) (fun _ _ _ _ _ => True) (fun _ U o U' => ∃ v L, o = .returned v ∧ QP (some (.int (f2 a1 w_UNQUOTED w_QUOTED w_NUMBER))) h0 n0 v U'.heap L ∧ FrameEnd U o U' L ({ frames := 0, cells := 0, slots := 0, locals := 0 } : Room).cells ({ frames := 0, cells := 0, slots := 0, locals := 0 } : Room).slots) := by
  refine MetFree.of_bodySF (plainFor_of_name pn_2) hisR ?_
  intro p e s m args below meth c s₁ Bd hml0 hP hK
  obtain ⟨rfl, hZ, hh⟩ := hP
  have hx := Bd.exec
  have hby := Bd.bytes
  have hml : c.maxLocals = 1 := hml0
  have hown : s.vm.findClass "com/example/hoconut/hoconut/token/TokenKind" = some m.cls := findClass_of_methodNamed Bd.named
  have hnm := (name_of_methodNamed Bd.named Bd.method).1
  have X0 : Stand p l e ({ frames := 0, cells := 0, slots := 0, locals := 0 } : Room) s m #[(.ref a1)] below meth c s₁ [] 0 0 := Stand.of_body Bd
  have e0 : s₁.heap = h0 := by rw [← hh, Bd.state]; rfl
  have N0 := Fr.nil n0
  have pre0 : ∀ t, Steps p.tables e below (s₁.setTop (mkF m 0 #[.val (.ref a1)] [])) t → Steps p.tables e below (s₁.setTop (entryFrame m #[(.ref a1)] 1)) t := fun t k => castTop (ef_2 m a1) k
  obtain ⟨T47, X47, e47, st47⟩ := getS2 X0 hx hZ hown (host := "") (Or.inl (hw _ (List.mem_of_getElem? (i := 12) rfl))) Via.refl e0 S_UNQUOTED (g := (mkF m 1 #[.val (.ref a1)] [(.ref a1)])) rfl (hb hby d2_1)
  have pre49 : ∀ t, Steps p.tables e below (T47.setTop (mkF m 4 #[.val (.ref a1)] [(.ref w_UNQUOTED), (.ref a1)])) t → Steps p.tables e below (s₁.setTop (entryFrame m #[(.ref a1)] 1)) t := fun t k => by
    refine pre0 _ ?_
    show Steps p.tables e below (s₁.setTop (mkF m 0 #[.val (.ref a1)] [])) _
    refine XS.aloadN X0.here hx rfl (hb hby d2_0) rfl rfl ?_
    show Steps p.tables e below (s₁.setTop (mkF m 1 #[.val (.ref a1)] [(.ref a1)])) _
    refine st47 _ ?_
    exact k
  by_cases hc48 : a1 = w_UNQUOTED
  · obtain ⟨fs, hr, hrun, hended, hW, hsame⟩ := X47.leave (v := some (.int (1 : Int32))) (fun h => by rw [Bd.returns] at h; cases h)
    refine ⟨_, _, pre49 _ ?_, hrun, hended, _, _, rfl, ?_, ⟨_, rfl⟩, hW, hsame.mono (by decide) (by decide)⟩
    · show Steps p.tables e below (T47.setTop (mkF m 4 #[.val (.ref a1)] [(.ref w_UNQUOTED), (.ref a1)])) _
      refine Jvm.RoadKit.acmp (g := (mkF m 4 #[.val (.ref a1)] [(.ref w_UNQUOTED), (.ref a1)])) X47 hx rfl rfl rfl (pc0 := 4) (pc' := 21) (same := true) rfl (hb hby d2_4) rfl (decide_eq_true (congrArg Value.ref hc48)) (by decide) (by decide) ?_
      show Steps p.tables e below (T47.setTop (mkF m 21 #[.val (.ref a1)] [])) _
      refine XS.iconst X47.here hx rfl (hb hby d2_21) ?_
      show Steps p.tables e below (T47.setTop (mkF m 22 #[.val (.ref a1)] [(.int (1 : Int32))])) _
      refine XS.goto X47.here hx rfl (pc0 := 22) (pc' := 26) rfl (hb hby d2_22) (by decide) (by decide) ?_
      show Steps p.tables e below (T47.setTop (mkF m 26 #[.val (.ref a1)] [(.int (1 : Int32))])) _
      exact retN X47 hx (t := .boolean) Bd.returns (by simp) (hb hby d2_26) hr
    · show QP _ h0 n0 _ T47.heap _
      rw [e47, show f2 a1 w_UNQUOTED w_QUOTED w_NUMBER = (1 : Int32) from by unfold f2; rw [if_pos hc48]]
      exact ⟨rfl, N0, rfl⟩
  · obtain ⟨T50, X50, e50, st50⟩ := getS2 X47 hx hZ hown (host := "") (Or.inl (hw _ (List.mem_of_getElem? (i := 14) rfl))) Via.refl e47 S_QUOTED (g := (mkF m 8 #[.val (.ref a1)] [(.ref a1)])) rfl (hb hby d2_8)
    have pre52 : ∀ t, Steps p.tables e below (T50.setTop (mkF m 11 #[.val (.ref a1)] [(.ref w_QUOTED), (.ref a1)])) t → Steps p.tables e below (s₁.setTop (entryFrame m #[(.ref a1)] 1)) t := fun t k => by
      refine pre49 _ ?_
      show Steps p.tables e below (T47.setTop (mkF m 4 #[.val (.ref a1)] [(.ref w_UNQUOTED), (.ref a1)])) _
      refine Jvm.RoadKit.acmp (g := (mkF m 4 #[.val (.ref a1)] [(.ref w_UNQUOTED), (.ref a1)])) X47 hx rfl rfl rfl (pc0 := 4) (pc' := 7) (same := false) rfl (hb hby d2_4) rfl (decide_eq_false fun q => hc48 (Value.ref.inj q)) (by decide) (by decide) ?_
      show Steps p.tables e below (T47.setTop (mkF m 7 #[.val (.ref a1)] [])) _
      refine XS.aloadN X47.here hx rfl (hb hby d2_7) rfl rfl ?_
      show Steps p.tables e below (T47.setTop (mkF m 8 #[.val (.ref a1)] [(.ref a1)])) _
      refine st50 _ ?_
      exact k
    by_cases hc51 : a1 = w_QUOTED
    · obtain ⟨fs, hr, hrun, hended, hW, hsame⟩ := X50.leave (v := some (.int (1 : Int32))) (fun h => by rw [Bd.returns] at h; cases h)
      refine ⟨_, _, pre52 _ ?_, hrun, hended, _, _, rfl, ?_, ⟨_, rfl⟩, hW, hsame.mono (by decide) (by decide)⟩
      · show Steps p.tables e below (T50.setTop (mkF m 11 #[.val (.ref a1)] [(.ref w_QUOTED), (.ref a1)])) _
        refine Jvm.RoadKit.acmp (g := (mkF m 11 #[.val (.ref a1)] [(.ref w_QUOTED), (.ref a1)])) X50 hx rfl rfl rfl (pc0 := 11) (pc' := 21) (same := true) rfl (hb hby d2_11) rfl (decide_eq_true (congrArg Value.ref hc51)) (by decide) (by decide) ?_
        show Steps p.tables e below (T50.setTop (mkF m 21 #[.val (.ref a1)] [])) _
        refine XS.iconst X50.here hx rfl (hb hby d2_21) ?_
        show Steps p.tables e below (T50.setTop (mkF m 22 #[.val (.ref a1)] [(.int (1 : Int32))])) _
        refine XS.goto X50.here hx rfl (pc0 := 22) (pc' := 26) rfl (hb hby d2_22) (by decide) (by decide) ?_
        show Steps p.tables e below (T50.setTop (mkF m 26 #[.val (.ref a1)] [(.int (1 : Int32))])) _
        exact retN X50 hx (t := .boolean) Bd.returns (by simp) (hb hby d2_26) hr
      · show QP _ h0 n0 _ T50.heap _
        rw [e50, show f2 a1 w_UNQUOTED w_QUOTED w_NUMBER = (1 : Int32) from by unfold f2; rw [if_neg hc48, if_pos hc51]]
        exact ⟨rfl, N0, rfl⟩
    · obtain ⟨T53, X53, e53, st53⟩ := getS2 X50 hx hZ hown (host := "") (Or.inl (hw _ (List.mem_of_getElem? (i := 16) rfl))) Via.refl e50 S_NUMBER (g := (mkF m 15 #[.val (.ref a1)] [(.ref a1)])) rfl (hb hby d2_15)
      have pre55 : ∀ t, Steps p.tables e below (T53.setTop (mkF m 18 #[.val (.ref a1)] [(.ref w_NUMBER), (.ref a1)])) t → Steps p.tables e below (s₁.setTop (entryFrame m #[(.ref a1)] 1)) t := fun t k => by
        refine pre52 _ ?_
        show Steps p.tables e below (T50.setTop (mkF m 11 #[.val (.ref a1)] [(.ref w_QUOTED), (.ref a1)])) _
        refine Jvm.RoadKit.acmp (g := (mkF m 11 #[.val (.ref a1)] [(.ref w_QUOTED), (.ref a1)])) X50 hx rfl rfl rfl (pc0 := 11) (pc' := 14) (same := false) rfl (hb hby d2_11) rfl (decide_eq_false fun q => hc51 (Value.ref.inj q)) (by decide) (by decide) ?_
        show Steps p.tables e below (T50.setTop (mkF m 14 #[.val (.ref a1)] [])) _
        refine XS.aloadN X50.here hx rfl (hb hby d2_14) rfl rfl ?_
        show Steps p.tables e below (T50.setTop (mkF m 15 #[.val (.ref a1)] [(.ref a1)])) _
        refine st53 _ ?_
        exact k
      by_cases hc54 : a1 = w_NUMBER
      · obtain ⟨fs, hr, hrun, hended, hW, hsame⟩ := X53.leave (v := some (.int (1 : Int32))) (fun h => by rw [Bd.returns] at h; cases h)
        refine ⟨_, _, pre55 _ ?_, hrun, hended, _, _, rfl, ?_, ⟨_, rfl⟩, hW, hsame.mono (by decide) (by decide)⟩
        · show Steps p.tables e below (T53.setTop (mkF m 18 #[.val (.ref a1)] [(.ref w_NUMBER), (.ref a1)])) _
          refine Jvm.RoadKit.acmp (g := (mkF m 18 #[.val (.ref a1)] [(.ref w_NUMBER), (.ref a1)])) X53 hx rfl rfl rfl (pc0 := 18) (pc' := 21) (same := true) rfl (hb hby d2_18) rfl (decide_eq_true (congrArg Value.ref hc54)) (by decide) (by decide) ?_
          show Steps p.tables e below (T53.setTop (mkF m 21 #[.val (.ref a1)] [])) _
          refine XS.iconst X53.here hx rfl (hb hby d2_21) ?_
          show Steps p.tables e below (T53.setTop (mkF m 22 #[.val (.ref a1)] [(.int (1 : Int32))])) _
          refine XS.goto X53.here hx rfl (pc0 := 22) (pc' := 26) rfl (hb hby d2_22) (by decide) (by decide) ?_
          show Steps p.tables e below (T53.setTop (mkF m 26 #[.val (.ref a1)] [(.int (1 : Int32))])) _
          exact retN X53 hx (t := .boolean) Bd.returns (by simp) (hb hby d2_26) hr
        · show QP _ h0 n0 _ T53.heap _
          rw [e53, show f2 a1 w_UNQUOTED w_QUOTED w_NUMBER = (1 : Int32) from by unfold f2; rw [if_neg hc48, if_neg hc51, if_pos hc54]]
          exact ⟨rfl, N0, rfl⟩
      · obtain ⟨fs, hr, hrun, hended, hW, hsame⟩ := X53.leave (v := some (.int (0 : Int32))) (fun h => by rw [Bd.returns] at h; cases h)
        refine ⟨_, _, pre55 _ ?_, hrun, hended, _, _, rfl, ?_, ⟨_, rfl⟩, hW, hsame.mono (by decide) (by decide)⟩
        · show Steps p.tables e below (T53.setTop (mkF m 18 #[.val (.ref a1)] [(.ref w_NUMBER), (.ref a1)])) _
          refine Jvm.RoadKit.acmp (g := (mkF m 18 #[.val (.ref a1)] [(.ref w_NUMBER), (.ref a1)])) X53 hx rfl rfl rfl (pc0 := 18) (pc' := 25) (same := false) rfl (hb hby d2_18) rfl (decide_eq_false fun q => hc54 (Value.ref.inj q)) (by decide) (by decide) ?_
          show Steps p.tables e below (T53.setTop (mkF m 25 #[.val (.ref a1)] [])) _
          refine XS.iconst X53.here hx rfl (hb hby d2_25) ?_
          show Steps p.tables e below (T53.setTop (mkF m 26 #[.val (.ref a1)] [(.int (0 : Int32))])) _
          exact retN X53 hx (t := .boolean) Bd.returns (by simp) (hb hby d2_26) hr
        · show QP _ h0 n0 _ T53.heap _
          rw [e53, show f2 a1 w_UNQUOTED w_QUOTED w_NUMBER = (0 : Int32) from by unfold f2; rw [if_neg hc48, if_neg hc51, if_neg hc54]]
          exact ⟨rfl, N0, rfl⟩
theorem pd_0 : parseMethodDescriptor "(I)Lcom/example/hoconut/hoconut/token/TokenKind;" = some ⟨[.int], some (.object "com/example/hoconut/hoconut/token/TokenKind")⟩ := by decide +kernel
theorem pd_1 : parseMethodDescriptor "()Z" = some ⟨[], some .boolean⟩ := by decide +kernel
theorem ef_0 (m : MethodId) (x0 : Int32) : entryFrame m #[(.int x0)] maxLocals = mkF m 0 #[.val (.int x0), .unset, .unset, .unset] [] := by first | (simp [entryFrame, mkF, argsToLocals, Value.category, maxLocals]; done) | rfl
def f0 (p1 : Int32) (w_OPEN_BRACE : Addr) (w_CLOSE_BRACE : Addr) (w_OPEN_BRACKET : Addr) (w_CLOSE_BRACKET : Addr) (w_COMMA : Addr) (w_COLON : Addr) (w_EQUALS : Addr) (w_PLUS_EQUALS : Addr) (w_NEWLINE : Addr) (w_UNQUOTED : Addr) (w_QUOTED : Addr) (w_NUMBER : Addr) (w_SUBSTITUTION : Addr) (w_OPTIONAL_SUBSTITUTION : Addr) (w_COMMENT : Addr) (w_END : Addr) : Int32 := (if (p1 &&& (15 : Int32)) < (9 : Int32) then (if (f2 (f1 (p1 &&& (15 : Int32)) w_OPEN_BRACE w_CLOSE_BRACE w_OPEN_BRACKET w_CLOSE_BRACKET w_COMMA w_COLON w_EQUALS w_PLUS_EQUALS w_NEWLINE w_UNQUOTED w_QUOTED w_NUMBER w_SUBSTITUTION w_OPTIONAL_SUBSTITUTION w_COMMENT w_END) w_UNQUOTED w_QUOTED w_NUMBER) = (0 : Int32) then (1 : Int32) else (0 : Int32)) else (if (11 : Int32) < (p1 &&& (15 : Int32)) then (if (f2 (f1 (p1 &&& (15 : Int32)) w_OPEN_BRACE w_CLOSE_BRACE w_OPEN_BRACKET w_CLOSE_BRACKET w_COMMA w_COLON w_EQUALS w_PLUS_EQUALS w_NEWLINE w_UNQUOTED w_QUOTED w_NUMBER w_SUBSTITUTION w_OPTIONAL_SUBSTITUTION w_COMMENT w_END) w_UNQUOTED w_QUOTED w_NUMBER) = (0 : Int32) then (1 : Int32) else (0 : Int32)) else (if (f2 (f1 (p1 &&& (15 : Int32)) w_OPEN_BRACE w_CLOSE_BRACE w_OPEN_BRACKET w_CLOSE_BRACKET w_COMMA w_COLON w_EQUALS w_PLUS_EQUALS w_NEWLINE w_UNQUOTED w_QUOTED w_NUMBER w_SUBSTITUTION w_OPTIONAL_SUBSTITUTION w_COMMENT w_END) w_UNQUOTED w_QUOTED w_NUMBER) = (1 : Int32) then (1 : Int32) else (0 : Int32))))
set_option maxRecDepth 65536 in
set_option maxHeartbeats 40000000 in
theorem rm0 (l : Launch) (Z : State) (a0 : Array Value) (hw : ∀ d ∈ tables_1, d.before a0 Z = true) (ws : List Jvm.Cond) (p1 : Int32) (w_OPEN_BRACE : Addr) (w_CLOSE_BRACE : Addr) (w_OPEN_BRACKET : Addr) (w_CLOSE_BRACKET : Addr) (w_COMMA : Addr) (w_COLON : Addr) (w_EQUALS : Addr) (w_PLUS_EQUALS : Addr) (w_NEWLINE : Addr) (w_UNQUOTED : Addr) (w_QUOTED : Addr) (w_NUMBER : Addr) (w_SUBSTITUTION : Addr) (w_OPTIONAL_SUBSTITUTION : Addr) (w_COMMENT : Addr) (w_END : Addr) (h0 : Heap) (n0 : Nat) (Z0 : n0 ≤ h0.size) (S_OPEN_BRACE : Sta Z h0 "com/example/hoconut/hoconut/token/TokenKind" "OPEN_BRACE" "Lcom/example/hoconut/hoconut/token/TokenKind;" (.ref w_OPEN_BRACE)) (E_OPEN_BRACE : Exa Z h0 w_OPEN_BRACE "com/example/hoconut/hoconut/token/TokenKind") (S_CLOSE_BRACE : Sta Z h0 "com/example/hoconut/hoconut/token/TokenKind" "CLOSE_BRACE" "Lcom/example/hoconut/hoconut/token/TokenKind;" (.ref w_CLOSE_BRACE)) (E_CLOSE_BRACE : Exa Z h0 w_CLOSE_BRACE "com/example/hoconut/hoconut/token/TokenKind") (S_OPEN_BRACKET : Sta Z h0 "com/example/hoconut/hoconut/token/TokenKind" "OPEN_BRACKET" "Lcom/example/hoconut/hoconut/token/TokenKind;" (.ref w_OPEN_BRACKET)) (E_OPEN_BRACKET : Exa Z h0 w_OPEN_BRACKET "com/example/hoconut/hoconut/token/TokenKind") (S_CLOSE_BRACKET : Sta Z h0 "com/example/hoconut/hoconut/token/TokenKind" "CLOSE_BRACKET" "Lcom/example/hoconut/hoconut/token/TokenKind;" (.ref w_CLOSE_BRACKET)) (E_CLOSE_BRACKET : Exa Z h0 w_CLOSE_BRACKET "com/example/hoconut/hoconut/token/TokenKind") (S_COMMA : Sta Z h0 "com/example/hoconut/hoconut/token/TokenKind" "COMMA" "Lcom/example/hoconut/hoconut/token/TokenKind;" (.ref w_COMMA)) (E_COMMA : Exa Z h0 w_COMMA "com/example/hoconut/hoconut/token/TokenKind") (S_COLON : Sta Z h0 "com/example/hoconut/hoconut/token/TokenKind" "COLON" "Lcom/example/hoconut/hoconut/token/TokenKind;" (.ref w_COLON)) (E_COLON : Exa Z h0 w_COLON "com/example/hoconut/hoconut/token/TokenKind") (S_EQUALS : Sta Z h0 "com/example/hoconut/hoconut/token/TokenKind" "EQUALS" "Lcom/example/hoconut/hoconut/token/TokenKind;" (.ref w_EQUALS)) (E_EQUALS : Exa Z h0 w_EQUALS "com/example/hoconut/hoconut/token/TokenKind") (S_PLUS_EQUALS : Sta Z h0 "com/example/hoconut/hoconut/token/TokenKind" "PLUS_EQUALS" "Lcom/example/hoconut/hoconut/token/TokenKind;" (.ref w_PLUS_EQUALS)) (E_PLUS_EQUALS : Exa Z h0 w_PLUS_EQUALS "com/example/hoconut/hoconut/token/TokenKind") (S_NEWLINE : Sta Z h0 "com/example/hoconut/hoconut/token/TokenKind" "NEWLINE" "Lcom/example/hoconut/hoconut/token/TokenKind;" (.ref w_NEWLINE)) (E_NEWLINE : Exa Z h0 w_NEWLINE "com/example/hoconut/hoconut/token/TokenKind") (S_UNQUOTED : Sta Z h0 "com/example/hoconut/hoconut/token/TokenKind" "UNQUOTED" "Lcom/example/hoconut/hoconut/token/TokenKind;" (.ref w_UNQUOTED)) (E_UNQUOTED : Exa Z h0 w_UNQUOTED "com/example/hoconut/hoconut/token/TokenKind") (S_QUOTED : Sta Z h0 "com/example/hoconut/hoconut/token/TokenKind" "QUOTED" "Lcom/example/hoconut/hoconut/token/TokenKind;" (.ref w_QUOTED)) (E_QUOTED : Exa Z h0 w_QUOTED "com/example/hoconut/hoconut/token/TokenKind") (S_NUMBER : Sta Z h0 "com/example/hoconut/hoconut/token/TokenKind" "NUMBER" "Lcom/example/hoconut/hoconut/token/TokenKind;" (.ref w_NUMBER)) (E_NUMBER : Exa Z h0 w_NUMBER "com/example/hoconut/hoconut/token/TokenKind") (S_SUBSTITUTION : Sta Z h0 "com/example/hoconut/hoconut/token/TokenKind" "SUBSTITUTION" "Lcom/example/hoconut/hoconut/token/TokenKind;" (.ref w_SUBSTITUTION)) (E_SUBSTITUTION : Exa Z h0 w_SUBSTITUTION "com/example/hoconut/hoconut/token/TokenKind") (S_OPTIONAL_SUBSTITUTION : Sta Z h0 "com/example/hoconut/hoconut/token/TokenKind" "OPTIONAL_SUBSTITUTION" "Lcom/example/hoconut/hoconut/token/TokenKind;" (.ref w_OPTIONAL_SUBSTITUTION)) (E_OPTIONAL_SUBSTITUTION : Exa Z h0 w_OPTIONAL_SUBSTITUTION "com/example/hoconut/hoconut/token/TokenKind") (S_COMMENT : Sta Z h0 "com/example/hoconut/hoconut/token/TokenKind" "COMMENT" "Lcom/example/hoconut/hoconut/token/TokenKind;" (.ref w_COMMENT)) (E_COMMENT : Exa Z h0 w_COMMENT "com/example/hoconut/hoconut/token/TokenKind") (S_END : Sta Z h0 "com/example/hoconut/hoconut/token/TokenKind" "END" "Lcom/example/hoconut/hoconut/token/TokenKind;" (.ref w_END)) (E_END : Exa Z h0 w_END "com/example/hoconut/hoconut/token/TokenKind") :
    MetFree l x (head1 (Jvm.Cond.code x code maxLocals ret :: ws) room_1) (fun a U => a = #[(.int p1)] ∧ Z.Warmed39 U.vm ∧ U.heap = h0) (fun _ _ _ _ _ => True) (fun _ U o U' => ∃ v L, o = .returned v ∧ QP (some (.int (f0 p1 w_OPEN_BRACE w_CLOSE_BRACE w_OPEN_BRACKET w_CLOSE_BRACKET w_COMMA w_COLON w_EQUALS w_PLUS_EQUALS w_NEWLINE w_UNQUOTED w_QUOTED w_NUMBER w_SUBSTITUTION w_OPTIONAL_SUBSTITUTION w_COMMENT w_END))) h0 n0 v U'.heap L ∧ FrameEnd U o U' L room_1.cells room_1.slots) := by
  refine MetFree.of_bodySF (plainFor_of_name pn_1) hisR ?_
  intro p e s m args below meth c s₁ Bd hml0 hP hK
  obtain ⟨rfl, hZ, hh⟩ := hP
  have hx := Bd.exec
  have hby := Bd.bytes
  have hml : c.maxLocals = 4 := hml0
  have hown : s.vm.findClass "com/example/hoconut/hoconut/token/TokenKindIsTextPinLaw" = some m.cls := findClass_of_methodNamed Bd.named
  have hnm := (name_of_methodNamed Bd.named Bd.method).1
  have X0 : Stand p l e room_1 s m #[(.int p1)] below meth c s₁ [] 0 0 := Stand.of_body Bd
  have e0 : s₁.heap = h0 := by rw [← hh, Bd.state]; rfl
  have N0 := Fr.nil n0
  have pre0 : ∀ t, Steps p.tables e below (s₁.setTop (mkF m 0 #[.val (.int p1), .unset, .unset, .unset] [])) t → Steps p.tables e below (s₁.setTop (entryFrame m #[(.int p1)] maxLocals)) t := fun t k => castTop (ef_0 m p1) k
  obtain ⟨_, _, ⟨T56, L56, k56, n56⟩, -, X56, ⟨Lc56, hQ56, l56, y56, z56⟩, st56⟩ := Jvm.LawKit.callS X0 hx (y := (⟨"com/example/hoconut/hoconut/token/TokenKindIsTextPinLaw", "kind", "(I)Lcom/example/hoconut/hoconut/token/TokenKind;"⟩ : MethodName)) hown (mvT hZ (hw _ (List.mem_of_getElem? (i := 0) rfl))) (mvT hZ (hw _ (List.mem_of_getElem? (i := 1) rfl))) (mvT hZ (hw _ (List.mem_of_getElem? (i := 2) rfl))) (mvT hZ (hw _ (List.mem_of_getElem? (i := 3) rfl))) (by decide) (backOf (W := 0) (rm1 l Z a0 hw [] (p1 &&& (15 : Int32)) w_OPEN_BRACE w_CLOSE_BRACE w_OPEN_BRACKET w_CLOSE_BRACKET w_COMMA w_COLON w_EQUALS w_PLUS_EQUALS w_NEWLINE w_UNQUOTED w_QUOTED w_NUMBER w_SUBSTITUTION w_OPTIONAL_SUBSTITUTION w_COMMENT w_END h0 n0 Z0 S_OPEN_BRACE S_CLOSE_BRACE S_OPEN_BRACKET S_CLOSE_BRACKET S_COMMA S_COLON S_EQUALS S_PLUS_EQUALS S_NEWLINE S_UNQUOTED S_QUOTED S_NUMBER S_SUBSTITUTION S_OPTIONAL_SUBSTITUTION S_COMMENT S_END) hZ (hw _ (List.mem_of_getElem? (i := 3) rfl)) (hw _ (List.mem_of_getElem? (i := 2) rfl)) (by decide) (by decide)) (g := (mkF m 6 #[.val (.int p1), .val (.int (p1 &&& (15 : Int32))), .unset, .unset] [(.int (p1 &&& (15 : Int32)))])) rfl (by rw [hml]; rfl) (argsL := [(.int (p1 &&& (15 : Int32)))]) (rest := []) (lenOf pd_0 rfl) rfl (by show 2 * 0 + _ ≤ _; exact Nat.le_of_eq rfl) (hb hby at_6) (fun _ _ => ⟨rfl, e0, (by decide : 0 + 0 ≤ _), (by decide : 0 + 0 ≤ _)⟩)
  dsimp only [Pt.U, Pt.locs, Pt.cells, Pt.slots] at X56 l56 y56 z56 st56 hQ56
  subst l56 y56 z56
  obtain ⟨rfl, N56q, e56⟩ := hQ56
  have N56 := Fr.app N0 N56q
  have pre58 : ∀ t, Steps p.tables e below (T56.setTop (mkF m 13 #[.val (.int p1), .val (.int (p1 &&& (15 : Int32))), .val (.ref (f1 (p1 &&& (15 : Int32)) w_OPEN_BRACE w_CLOSE_BRACE w_OPEN_BRACKET w_CLOSE_BRACKET w_COMMA w_COLON w_EQUALS w_PLUS_EQUALS w_NEWLINE w_UNQUOTED w_QUOTED w_NUMBER w_SUBSTITUTION w_OPTIONAL_SUBSTITUTION w_COMMENT w_END)), .unset] [(.int (9 : Int32)), (.int (p1 &&& (15 : Int32)))])) t → Steps p.tables e below (s₁.setTop (entryFrame m #[(.int p1)] maxLocals)) t := fun t k => by
    refine pre0 _ ?_
    show Steps p.tables e below (s₁.setTop (mkF m 0 #[.val (.int p1), .unset, .unset, .unset] [])) _
    refine XS.iloadN X0.here hx rfl (hb hby at_0) rfl ?_
    show Steps p.tables e below (s₁.setTop (mkF m 1 #[.val (.int p1), .unset, .unset, .unset] [(.int p1)])) _
    refine XS.bipush X0.here hx rfl (hb hby at_1) ?_
    show Steps p.tables e below (s₁.setTop (mkF m 3 #[.val (.int p1), .unset, .unset, .unset] [(.int (15 : Int32)), (.int p1)])) _
    refine XS.iand X0.here hx rfl (hb hby at_3) rfl ?_
    show Steps p.tables e below (s₁.setTop (mkF m 4 #[.val (.int p1), .unset, .unset, .unset] [(.int (p1 &&& (15 : Int32)))])) _
    refine XS.istoreN X0.here hx rfl (hb hby at_4) rfl (l' := #[.val (.int p1), .val (.int (p1 &&& (15 : Int32))), .unset, .unset]) rfl ?_
    show Steps p.tables e below (s₁.setTop (mkF m 5 #[.val (.int p1), .val (.int (p1 &&& (15 : Int32))), .unset, .unset] [])) _
    refine XS.iloadN X0.here hx rfl (hb hby at_5) rfl ?_
    show Steps p.tables e below (s₁.setTop (mkF m 6 #[.val (.int p1), .val (.int (p1 &&& (15 : Int32))), .unset, .unset] [(.int (p1 &&& (15 : Int32)))])) _
    refine st56 _ ?_
    show Steps p.tables e below (T56.setTop (mkF m 9 #[.val (.int p1), .val (.int (p1 &&& (15 : Int32))), .unset, .unset] [(.ref (f1 (p1 &&& (15 : Int32)) w_OPEN_BRACE w_CLOSE_BRACE w_OPEN_BRACKET w_CLOSE_BRACKET w_COMMA w_COLON w_EQUALS w_PLUS_EQUALS w_NEWLINE w_UNQUOTED w_QUOTED w_NUMBER w_SUBSTITUTION w_OPTIONAL_SUBSTITUTION w_COMMENT w_END))])) _
    refine XS.astoreN X56.here hx rfl (hb hby at_9) rfl rfl (l' := #[.val (.int p1), .val (.int (p1 &&& (15 : Int32))), .val (.ref (f1 (p1 &&& (15 : Int32)) w_OPEN_BRACE w_CLOSE_BRACE w_OPEN_BRACKET w_CLOSE_BRACKET w_COMMA w_COLON w_EQUALS w_PLUS_EQUALS w_NEWLINE w_UNQUOTED w_QUOTED w_NUMBER w_SUBSTITUTION w_OPTIONAL_SUBSTITUTION w_COMMENT w_END)), .unset]) rfl ?_
    show Steps p.tables e below (T56.setTop (mkF m 10 #[.val (.int p1), .val (.int (p1 &&& (15 : Int32))), .val (.ref (f1 (p1 &&& (15 : Int32)) w_OPEN_BRACE w_CLOSE_BRACE w_OPEN_BRACKET w_CLOSE_BRACKET w_COMMA w_COLON w_EQUALS w_PLUS_EQUALS w_NEWLINE w_UNQUOTED w_QUOTED w_NUMBER w_SUBSTITUTION w_OPTIONAL_SUBSTITUTION w_COMMENT w_END)), .unset] [])) _
    refine XS.iloadN X56.here hx rfl (hb hby at_10) rfl ?_
    show Steps p.tables e below (T56.setTop (mkF m 11 #[.val (.int p1), .val (.int (p1 &&& (15 : Int32))), .val (.ref (f1 (p1 &&& (15 : Int32)) w_OPEN_BRACE w_CLOSE_BRACE w_OPEN_BRACKET w_CLOSE_BRACKET w_COMMA w_COLON w_EQUALS w_PLUS_EQUALS w_NEWLINE w_UNQUOTED w_QUOTED w_NUMBER w_SUBSTITUTION w_OPTIONAL_SUBSTITUTION w_COMMENT w_END)), .unset] [(.int (p1 &&& (15 : Int32)))])) _
    refine XS.bipush X56.here hx rfl (hb hby at_11) ?_
    exact k
  by_cases hc57 : (p1 &&& (15 : Int32)) < (9 : Int32)
  · obtain ⟨cq59, kq59, q59a, q59b, q59c⟩ := isOf hZ e56 (f1_all (P := fun a => Exa Z h0 a "com/example/hoconut/hoconut/token/TokenKind") (p1 &&& (15 : Int32)) w_OPEN_BRACE w_CLOSE_BRACE w_OPEN_BRACKET w_CLOSE_BRACKET w_COMMA w_COLON w_EQUALS w_PLUS_EQUALS w_NEWLINE w_UNQUOTED w_QUOTED w_NUMBER w_SUBSTITUTION w_OPTIONAL_SUBSTITUTION w_COMMENT w_END E_OPEN_BRACE E_CLOSE_BRACE E_OPEN_BRACKET E_CLOSE_BRACKET E_COMMA E_COLON E_EQUALS E_PLUS_EQUALS E_NEWLINE E_UNQUOTED E_QUOTED E_NUMBER E_SUBSTITUTION E_OPTIONAL_SUBSTITUTION E_COMMENT E_END)
    obtain ⟨_, _, ⟨T59, L59, k59, n59⟩, -, X59, ⟨Lc59, hQ59, l59, y59, z59⟩, st59⟩ := X56.virtualBack hx (y := (⟨"com/example/hoconut/hoconut/token/TokenKind", "isText", "()Z"⟩ : MethodName)) (z := (⟨"com/example/hoconut/hoconut/token/TokenKind", "isText", "()Z"⟩ : MethodName)) hown (mvT hZ (hw _ (List.mem_of_getElem? (i := 7) rfl))) (mvT hZ (hw _ (List.mem_of_getElem? (i := 8) rfl))) (notFace_of_selects (args := #[]) (mvT hZ (hw _ (List.mem_of_getElem? (i := 10) rfl)))) (mvT hZ (hw _ (List.mem_of_getElem? (i := 10) rfl))) (mvT hZ (hw _ (List.mem_of_getElem? (i := 9) rfl))) (by decide) (backOf (W := 0) (rm2 l Z a0 hw [] (f1 (p1 &&& (15 : Int32)) w_OPEN_BRACE w_CLOSE_BRACE w_OPEN_BRACKET w_CLOSE_BRACKET w_COMMA w_COLON w_EQUALS w_PLUS_EQUALS w_NEWLINE w_UNQUOTED w_QUOTED w_NUMBER w_SUBSTITUTION w_OPTIONAL_SUBSTITUTION w_COMMENT w_END) w_UNQUOTED w_QUOTED w_NUMBER h0 n0 Z0 S_UNQUOTED S_QUOTED S_NUMBER) hZ (hw _ (List.mem_of_getElem? (i := 11) rfl)) (hw _ (List.mem_of_getElem? (i := 5) rfl)) (by decide) (by decide)) q59a q59c (g := (mkF m 29 #[.val (.int p1), .val (.int (p1 &&& (15 : Int32))), .val (.ref (f1 (p1 &&& (15 : Int32)) w_OPEN_BRACE w_CLOSE_BRACE w_OPEN_BRACKET w_CLOSE_BRACKET w_COMMA w_COLON w_EQUALS w_PLUS_EQUALS w_NEWLINE w_UNQUOTED w_QUOTED w_NUMBER w_SUBSTITUTION w_OPTIONAL_SUBSTITUTION w_COMMENT w_END)), .val (.int (0 : Int32))] [(.ref (f1 (p1 &&& (15 : Int32)) w_OPEN_BRACE w_CLOSE_BRACE w_OPEN_BRACKET w_CLOSE_BRACKET w_COMMA w_COLON w_EQUALS w_PLUS_EQUALS w_NEWLINE w_UNQUOTED w_QUOTED w_NUMBER w_SUBSTITUTION w_OPTIONAL_SUBSTITUTION w_COMMENT w_END))])) rfl (by rw [hml]; rfl) (Steps.refl _) (argsL := []) (rest := []) (lenOf pd_1 rfl) rfl (by show 2 * 0 + _ ≤ _; exact Nat.le_of_eq rfl) (hb hby at_29) (fun _ _ => ⟨rfl, e56, (by decide : 0 + 0 ≤ _), (by decide : 0 + 0 ≤ _)⟩)
    dsimp only [Pt.U, Pt.locs, Pt.cells, Pt.slots] at X59 l59 y59 z59 st59 hQ59
    subst l59 y59 z59
    obtain ⟨rfl, N59q, e59⟩ := hQ59
    have N59 := Fr.app N56 N59q
    have pre61 : ∀ t, Steps p.tables e below (T59.setTop (mkF m 33 #[.val (.int p1), .val (.int (p1 &&& (15 : Int32))), .val (.ref (f1 (p1 &&& (15 : Int32)) w_OPEN_BRACE w_CLOSE_BRACE w_OPEN_BRACKET w_CLOSE_BRACKET w_COMMA w_COLON w_EQUALS w_PLUS_EQUALS w_NEWLINE w_UNQUOTED w_QUOTED w_NUMBER w_SUBSTITUTION w_OPTIONAL_SUBSTITUTION w_COMMENT w_END)), .val (.int (0 : Int32))] [(.int (0 : Int32)), (.int (f2 (f1 (p1 &&& (15 : Int32)) w_OPEN_BRACE w_CLOSE_BRACE w_OPEN_BRACKET w_CLOSE_BRACKET w_COMMA w_COLON w_EQUALS w_PLUS_EQUALS w_NEWLINE w_UNQUOTED w_QUOTED w_NUMBER w_SUBSTITUTION w_OPTIONAL_SUBSTITUTION w_COMMENT w_END) w_UNQUOTED w_QUOTED w_NUMBER))])) t → Steps p.tables e below (s₁.setTop (entryFrame m #[(.int p1)] maxLocals)) t := fun t k => by
      refine pre58 _ ?_
      show Steps p.tables e below (T56.setTop (mkF m 13 #[.val (.int p1), .val (.int (p1 &&& (15 : Int32))), .val (.ref (f1 (p1 &&& (15 : Int32)) w_OPEN_BRACE w_CLOSE_BRACE w_OPEN_BRACKET w_CLOSE_BRACKET w_COMMA w_COLON w_EQUALS w_PLUS_EQUALS w_NEWLINE w_UNQUOTED w_QUOTED w_NUMBER w_SUBSTITUTION w_OPTIONAL_SUBSTITUTION w_COMMENT w_END)), .unset] [(.int (9 : Int32)), (.int (p1 &&& (15 : Int32)))])) _
      refine XS.icmpYes X56.here hx rfl (pc0 := 13) (pc' := 26) rfl (hb hby at_13) rfl (tlt hc57).1 (by decide) (by decide) ?_
      show Steps p.tables e below (T56.setTop (mkF m 26 #[.val (.int p1), .val (.int (p1 &&& (15 : Int32))), .val (.ref (f1 (p1 &&& (15 : Int32)) w_OPEN_BRACE w_CLOSE_BRACE w_OPEN_BRACKET w_CLOSE_BRACKET w_COMMA w_COLON w_EQUALS w_PLUS_EQUALS w_NEWLINE w_UNQUOTED w_QUOTED w_NUMBER w_SUBSTITUTION w_OPTIONAL_SUBSTITUTION w_COMMENT w_END)), .unset] [])) _
      refine XS.iconst X56.here hx rfl (hb hby at_26) ?_
      show Steps p.tables e below (T56.setTop (mkF m 27 #[.val (.int p1), .val (.int (p1 &&& (15 : Int32))), .val (.ref (f1 (p1 &&& (15 : Int32)) w_OPEN_BRACE w_CLOSE_BRACE w_OPEN_BRACKET w_CLOSE_BRACKET w_COMMA w_COLON w_EQUALS w_PLUS_EQUALS w_NEWLINE w_UNQUOTED w_QUOTED w_NUMBER w_SUBSTITUTION w_OPTIONAL_SUBSTITUTION w_COMMENT w_END)), .unset] [(.int (0 : Int32))])) _
      refine XS.istoreN X56.here hx rfl (hb hby at_27) rfl (l' := #[.val (.int p1), .val (.int (p1 &&& (15 : Int32))), .val (.ref (f1 (p1 &&& (15 : Int32)) w_OPEN_BRACE w_CLOSE_BRACE w_OPEN_BRACKET w_CLOSE_BRACKET w_COMMA w_COLON w_EQUALS w_PLUS_EQUALS w_NEWLINE w_UNQUOTED w_QUOTED w_NUMBER w_SUBSTITUTION w_OPTIONAL_SUBSTITUTION w_COMMENT w_END)), .val (.int (0 : Int32))]) rfl ?_
      show Steps p.tables e below (T56.setTop (mkF m 28 #[.val (.int p1), .val (.int (p1 &&& (15 : Int32))), .val (.ref (f1 (p1 &&& (15 : Int32)) w_OPEN_BRACE w_CLOSE_BRACE w_OPEN_BRACKET w_CLOSE_BRACKET w_COMMA w_COLON w_EQUALS w_PLUS_EQUALS w_NEWLINE w_UNQUOTED w_QUOTED w_NUMBER w_SUBSTITUTION w_OPTIONAL_SUBSTITUTION w_COMMENT w_END)), .val (.int (0 : Int32))] [])) _
      refine XS.aloadN X56.here hx rfl (hb hby at_28) rfl rfl ?_
      show Steps p.tables e below (T56.setTop (mkF m 29 #[.val (.int p1), .val (.int (p1 &&& (15 : Int32))), .val (.ref (f1 (p1 &&& (15 : Int32)) w_OPEN_BRACE w_CLOSE_BRACE w_OPEN_BRACKET w_CLOSE_BRACKET w_COMMA w_COLON w_EQUALS w_PLUS_EQUALS w_NEWLINE w_UNQUOTED w_QUOTED w_NUMBER w_SUBSTITUTION w_OPTIONAL_SUBSTITUTION w_COMMENT w_END)), .val (.int (0 : Int32))] [(.ref (f1 (p1 &&& (15 : Int32)) w_OPEN_BRACE w_CLOSE_BRACE w_OPEN_BRACKET w_CLOSE_BRACKET w_COMMA w_COLON w_EQUALS w_PLUS_EQUALS w_NEWLINE w_UNQUOTED w_QUOTED w_NUMBER w_SUBSTITUTION w_OPTIONAL_SUBSTITUTION w_COMMENT w_END))])) _
      refine st59.trans ?_
      show Steps p.tables e below (T59.setTop (mkF m 32 #[.val (.int p1), .val (.int (p1 &&& (15 : Int32))), .val (.ref (f1 (p1 &&& (15 : Int32)) w_OPEN_BRACE w_CLOSE_BRACE w_OPEN_BRACKET w_CLOSE_BRACKET w_COMMA w_COLON w_EQUALS w_PLUS_EQUALS w_NEWLINE w_UNQUOTED w_QUOTED w_NUMBER w_SUBSTITUTION w_OPTIONAL_SUBSTITUTION w_COMMENT w_END)), .val (.int (0 : Int32))] [(.int (f2 (f1 (p1 &&& (15 : Int32)) w_OPEN_BRACE w_CLOSE_BRACE w_OPEN_BRACKET w_CLOSE_BRACKET w_COMMA w_COLON w_EQUALS w_PLUS_EQUALS w_NEWLINE w_UNQUOTED w_QUOTED w_NUMBER w_SUBSTITUTION w_OPTIONAL_SUBSTITUTION w_COMMENT w_END) w_UNQUOTED w_QUOTED w_NUMBER))])) _
      refine XS.iloadN X59.here hx rfl (hb hby at_32) rfl ?_
      exact k
    by_cases hc60 : (f2 (f1 (p1 &&& (15 : Int32)) w_OPEN_BRACE w_CLOSE_BRACE w_OPEN_BRACKET w_CLOSE_BRACKET w_COMMA w_COLON w_EQUALS w_PLUS_EQUALS w_NEWLINE w_UNQUOTED w_QUOTED w_NUMBER w_SUBSTITUTION w_OPTIONAL_SUBSTITUTION w_COMMENT w_END) w_UNQUOTED w_QUOTED w_NUMBER) = (0 : Int32)
    · obtain ⟨fs, hr, hrun, hended, hW, hsame⟩ := X59.leave (v := some (.int (1 : Int32))) (fun h => by rw [Bd.returns] at h; cases h)
      refine ⟨_, _, pre61 _ ?_, hrun, hended, _, _, rfl, ?_, ⟨_, rfl⟩, hW, hsame.mono (by decide) (by decide)⟩
      · show Steps p.tables e below (T59.setTop (mkF m 33 #[.val (.int p1), .val (.int (p1 &&& (15 : Int32))), .val (.ref (f1 (p1 &&& (15 : Int32)) w_OPEN_BRACE w_CLOSE_BRACE w_OPEN_BRACKET w_CLOSE_BRACKET w_COMMA w_COLON w_EQUALS w_PLUS_EQUALS w_NEWLINE w_UNQUOTED w_QUOTED w_NUMBER w_SUBSTITUTION w_OPTIONAL_SUBSTITUTION w_COMMENT w_END)), .val (.int (0 : Int32))] [(.int (0 : Int32)), (.int (f2 (f1 (p1 &&& (15 : Int32)) w_OPEN_BRACE w_CLOSE_BRACE w_OPEN_BRACKET w_CLOSE_BRACKET w_COMMA w_COLON w_EQUALS w_PLUS_EQUALS w_NEWLINE w_UNQUOTED w_QUOTED w_NUMBER w_SUBSTITUTION w_OPTIONAL_SUBSTITUTION w_COMMENT w_END) w_UNQUOTED w_QUOTED w_NUMBER))])) _
        refine XS.icmpNo X59.here hx rfl (hb hby at_33) rfl (teq hc60).2 ?_
        show Steps p.tables e below (T59.setTop (mkF m 36 #[.val (.int p1), .val (.int (p1 &&& (15 : Int32))), .val (.ref (f1 (p1 &&& (15 : Int32)) w_OPEN_BRACE w_CLOSE_BRACE w_OPEN_BRACKET w_CLOSE_BRACKET w_COMMA w_COLON w_EQUALS w_PLUS_EQUALS w_NEWLINE w_UNQUOTED w_QUOTED w_NUMBER w_SUBSTITUTION w_OPTIONAL_SUBSTITUTION w_COMMENT w_END)), .val (.int (0 : Int32))] [])) _
        refine XS.iconst X59.here hx rfl (hb hby at_36) ?_
        show Steps p.tables e below (T59.setTop (mkF m 37 #[.val (.int p1), .val (.int (p1 &&& (15 : Int32))), .val (.ref (f1 (p1 &&& (15 : Int32)) w_OPEN_BRACE w_CLOSE_BRACE w_OPEN_BRACKET w_CLOSE_BRACKET w_COMMA w_COLON w_EQUALS w_PLUS_EQUALS w_NEWLINE w_UNQUOTED w_QUOTED w_NUMBER w_SUBSTITUTION w_OPTIONAL_SUBSTITUTION w_COMMENT w_END)), .val (.int (0 : Int32))] [(.int (1 : Int32))])) _
        refine XS.goto X59.here hx rfl (pc0 := 37) (pc' := 41) rfl (hb hby at_37) (by decide) (by decide) ?_
        show Steps p.tables e below (T59.setTop (mkF m 41 #[.val (.int p1), .val (.int (p1 &&& (15 : Int32))), .val (.ref (f1 (p1 &&& (15 : Int32)) w_OPEN_BRACE w_CLOSE_BRACE w_OPEN_BRACKET w_CLOSE_BRACKET w_COMMA w_COLON w_EQUALS w_PLUS_EQUALS w_NEWLINE w_UNQUOTED w_QUOTED w_NUMBER w_SUBSTITUTION w_OPTIONAL_SUBSTITUTION w_COMMENT w_END)), .val (.int (0 : Int32))] [(.int (1 : Int32))])) _
        exact retN X59 hx (t := .boolean) Bd.returns (by simp) (hb hby at_41) hr
      · show QP _ h0 n0 _ T59.heap _
        rw [e59, show f0 p1 w_OPEN_BRACE w_CLOSE_BRACE w_OPEN_BRACKET w_CLOSE_BRACKET w_COMMA w_COLON w_EQUALS w_PLUS_EQUALS w_NEWLINE w_UNQUOTED w_QUOTED w_NUMBER w_SUBSTITUTION w_OPTIONAL_SUBSTITUTION w_COMMENT w_END = (1 : Int32) from by unfold f0; rw [if_pos hc57, if_pos hc60]]
        exact ⟨rfl, N59, rfl⟩
    · obtain ⟨fs, hr, hrun, hended, hW, hsame⟩ := X59.leave (v := some (.int (0 : Int32))) (fun h => by rw [Bd.returns] at h; cases h)
      refine ⟨_, _, pre61 _ ?_, hrun, hended, _, _, rfl, ?_, ⟨_, rfl⟩, hW, hsame.mono (by decide) (by decide)⟩
      · show Steps p.tables e below (T59.setTop (mkF m 33 #[.val (.int p1), .val (.int (p1 &&& (15 : Int32))), .val (.ref (f1 (p1 &&& (15 : Int32)) w_OPEN_BRACE w_CLOSE_BRACE w_OPEN_BRACKET w_CLOSE_BRACKET w_COMMA w_COLON w_EQUALS w_PLUS_EQUALS w_NEWLINE w_UNQUOTED w_QUOTED w_NUMBER w_SUBSTITUTION w_OPTIONAL_SUBSTITUTION w_COMMENT w_END)), .val (.int (0 : Int32))] [(.int (0 : Int32)), (.int (f2 (f1 (p1 &&& (15 : Int32)) w_OPEN_BRACE w_CLOSE_BRACE w_OPEN_BRACKET w_CLOSE_BRACKET w_COMMA w_COLON w_EQUALS w_PLUS_EQUALS w_NEWLINE w_UNQUOTED w_QUOTED w_NUMBER w_SUBSTITUTION w_OPTIONAL_SUBSTITUTION w_COMMENT w_END) w_UNQUOTED w_QUOTED w_NUMBER))])) _
        refine XS.icmpYes X59.here hx rfl (pc0 := 33) (pc' := 40) rfl (hb hby at_33) rfl (feq hc60).2 (by decide) (by decide) ?_
        show Steps p.tables e below (T59.setTop (mkF m 40 #[.val (.int p1), .val (.int (p1 &&& (15 : Int32))), .val (.ref (f1 (p1 &&& (15 : Int32)) w_OPEN_BRACE w_CLOSE_BRACE w_OPEN_BRACKET w_CLOSE_BRACKET w_COMMA w_COLON w_EQUALS w_PLUS_EQUALS w_NEWLINE w_UNQUOTED w_QUOTED w_NUMBER w_SUBSTITUTION w_OPTIONAL_SUBSTITUTION w_COMMENT w_END)), .val (.int (0 : Int32))] [])) _
        refine XS.iconst X59.here hx rfl (hb hby at_40) ?_
        show Steps p.tables e below (T59.setTop (mkF m 41 #[.val (.int p1), .val (.int (p1 &&& (15 : Int32))), .val (.ref (f1 (p1 &&& (15 : Int32)) w_OPEN_BRACE w_CLOSE_BRACE w_OPEN_BRACKET w_CLOSE_BRACKET w_COMMA w_COLON w_EQUALS w_PLUS_EQUALS w_NEWLINE w_UNQUOTED w_QUOTED w_NUMBER w_SUBSTITUTION w_OPTIONAL_SUBSTITUTION w_COMMENT w_END)), .val (.int (0 : Int32))] [(.int (0 : Int32))])) _
        exact retN X59 hx (t := .boolean) Bd.returns (by simp) (hb hby at_41) hr
      · show QP _ h0 n0 _ T59.heap _
        rw [e59, show f0 p1 w_OPEN_BRACE w_CLOSE_BRACE w_OPEN_BRACKET w_CLOSE_BRACKET w_COMMA w_COLON w_EQUALS w_PLUS_EQUALS w_NEWLINE w_UNQUOTED w_QUOTED w_NUMBER w_SUBSTITUTION w_OPTIONAL_SUBSTITUTION w_COMMENT w_END = (0 : Int32) from by unfold f0; rw [if_pos hc57, if_neg hc60]]
        exact ⟨rfl, N59, rfl⟩
  · have pre63 : ∀ t, Steps p.tables e below (T56.setTop (mkF m 19 #[.val (.int p1), .val (.int (p1 &&& (15 : Int32))), .val (.ref (f1 (p1 &&& (15 : Int32)) w_OPEN_BRACE w_CLOSE_BRACE w_OPEN_BRACKET w_CLOSE_BRACKET w_COMMA w_COLON w_EQUALS w_PLUS_EQUALS w_NEWLINE w_UNQUOTED w_QUOTED w_NUMBER w_SUBSTITUTION w_OPTIONAL_SUBSTITUTION w_COMMENT w_END)), .unset] [(.int (11 : Int32)), (.int (p1 &&& (15 : Int32)))])) t → Steps p.tables e below (s₁.setTop (entryFrame m #[(.int p1)] maxLocals)) t := fun t k => by
      refine pre58 _ ?_
      show Steps p.tables e below (T56.setTop (mkF m 13 #[.val (.int p1), .val (.int (p1 &&& (15 : Int32))), .val (.ref (f1 (p1 &&& (15 : Int32)) w_OPEN_BRACE w_CLOSE_BRACE w_OPEN_BRACKET w_CLOSE_BRACKET w_COMMA w_COLON w_EQUALS w_PLUS_EQUALS w_NEWLINE w_UNQUOTED w_QUOTED w_NUMBER w_SUBSTITUTION w_OPTIONAL_SUBSTITUTION w_COMMENT w_END)), .unset] [(.int (9 : Int32)), (.int (p1 &&& (15 : Int32)))])) _
      refine XS.icmpNo X56.here hx rfl (hb hby at_13) rfl (flt hc57).1 ?_
      show Steps p.tables e below (T56.setTop (mkF m 16 #[.val (.int p1), .val (.int (p1 &&& (15 : Int32))), .val (.ref (f1 (p1 &&& (15 : Int32)) w_OPEN_BRACE w_CLOSE_BRACE w_OPEN_BRACKET w_CLOSE_BRACKET w_COMMA w_COLON w_EQUALS w_PLUS_EQUALS w_NEWLINE w_UNQUOTED w_QUOTED w_NUMBER w_SUBSTITUTION w_OPTIONAL_SUBSTITUTION w_COMMENT w_END)), .unset] [])) _
      refine XS.iloadN X56.here hx rfl (hb hby at_16) rfl ?_
      show Steps p.tables e below (T56.setTop (mkF m 17 #[.val (.int p1), .val (.int (p1 &&& (15 : Int32))), .val (.ref (f1 (p1 &&& (15 : Int32)) w_OPEN_BRACE w_CLOSE_BRACE w_OPEN_BRACKET w_CLOSE_BRACKET w_COMMA w_COLON w_EQUALS w_PLUS_EQUALS w_NEWLINE w_UNQUOTED w_QUOTED w_NUMBER w_SUBSTITUTION w_OPTIONAL_SUBSTITUTION w_COMMENT w_END)), .unset] [(.int (p1 &&& (15 : Int32)))])) _
      refine XS.bipush X56.here hx rfl (hb hby at_17) ?_
      exact k
    by_cases hc62 : (11 : Int32) < (p1 &&& (15 : Int32))
    · obtain ⟨cq64, kq64, q64a, q64b, q64c⟩ := isOf hZ e56 (f1_all (P := fun a => Exa Z h0 a "com/example/hoconut/hoconut/token/TokenKind") (p1 &&& (15 : Int32)) w_OPEN_BRACE w_CLOSE_BRACE w_OPEN_BRACKET w_CLOSE_BRACKET w_COMMA w_COLON w_EQUALS w_PLUS_EQUALS w_NEWLINE w_UNQUOTED w_QUOTED w_NUMBER w_SUBSTITUTION w_OPTIONAL_SUBSTITUTION w_COMMENT w_END E_OPEN_BRACE E_CLOSE_BRACE E_OPEN_BRACKET E_CLOSE_BRACKET E_COMMA E_COLON E_EQUALS E_PLUS_EQUALS E_NEWLINE E_UNQUOTED E_QUOTED E_NUMBER E_SUBSTITUTION E_OPTIONAL_SUBSTITUTION E_COMMENT E_END)
      obtain ⟨_, _, ⟨T64, L64, k64, n64⟩, -, X64, ⟨Lc64, hQ64, l64, y64, z64⟩, st64⟩ := X56.virtualBack hx (y := (⟨"com/example/hoconut/hoconut/token/TokenKind", "isText", "()Z"⟩ : MethodName)) (z := (⟨"com/example/hoconut/hoconut/token/TokenKind", "isText", "()Z"⟩ : MethodName)) hown (mvT hZ (hw _ (List.mem_of_getElem? (i := 7) rfl))) (mvT hZ (hw _ (List.mem_of_getElem? (i := 8) rfl))) (notFace_of_selects (args := #[]) (mvT hZ (hw _ (List.mem_of_getElem? (i := 10) rfl)))) (mvT hZ (hw _ (List.mem_of_getElem? (i := 10) rfl))) (mvT hZ (hw _ (List.mem_of_getElem? (i := 9) rfl))) (by decide) (backOf (W := 0) (rm2 l Z a0 hw [] (f1 (p1 &&& (15 : Int32)) w_OPEN_BRACE w_CLOSE_BRACE w_OPEN_BRACKET w_CLOSE_BRACKET w_COMMA w_COLON w_EQUALS w_PLUS_EQUALS w_NEWLINE w_UNQUOTED w_QUOTED w_NUMBER w_SUBSTITUTION w_OPTIONAL_SUBSTITUTION w_COMMENT w_END) w_UNQUOTED w_QUOTED w_NUMBER h0 n0 Z0 S_UNQUOTED S_QUOTED S_NUMBER) hZ (hw _ (List.mem_of_getElem? (i := 11) rfl)) (hw _ (List.mem_of_getElem? (i := 5) rfl)) (by decide) (by decide)) q64a q64c (g := (mkF m 29 #[.val (.int p1), .val (.int (p1 &&& (15 : Int32))), .val (.ref (f1 (p1 &&& (15 : Int32)) w_OPEN_BRACE w_CLOSE_BRACE w_OPEN_BRACKET w_CLOSE_BRACKET w_COMMA w_COLON w_EQUALS w_PLUS_EQUALS w_NEWLINE w_UNQUOTED w_QUOTED w_NUMBER w_SUBSTITUTION w_OPTIONAL_SUBSTITUTION w_COMMENT w_END)), .val (.int (0 : Int32))] [(.ref (f1 (p1 &&& (15 : Int32)) w_OPEN_BRACE w_CLOSE_BRACE w_OPEN_BRACKET w_CLOSE_BRACKET w_COMMA w_COLON w_EQUALS w_PLUS_EQUALS w_NEWLINE w_UNQUOTED w_QUOTED w_NUMBER w_SUBSTITUTION w_OPTIONAL_SUBSTITUTION w_COMMENT w_END))])) rfl (by rw [hml]; rfl) (Steps.refl _) (argsL := []) (rest := []) (lenOf pd_1 rfl) rfl (by show 2 * 0 + _ ≤ _; exact Nat.le_of_eq rfl) (hb hby at_29) (fun _ _ => ⟨rfl, e56, (by decide : 0 + 0 ≤ _), (by decide : 0 + 0 ≤ _)⟩)
      dsimp only [Pt.U, Pt.locs, Pt.cells, Pt.slots] at X64 l64 y64 z64 st64 hQ64
      subst l64 y64 z64
      obtain ⟨rfl, N64q, e64⟩ := hQ64
      have N64 := Fr.app N56 N64q
      have pre66 : ∀ t, Steps p.tables e below (T64.setTop (mkF m 33 #[.val (.int p1), .val (.int (p1 &&& (15 : Int32))), .val (.ref (f1 (p1 &&& (15 : Int32)) w_OPEN_BRACE w_CLOSE_BRACE w_OPEN_BRACKET w_CLOSE_BRACKET w_COMMA w_COLON w_EQUALS w_PLUS_EQUALS w_NEWLINE w_UNQUOTED w_QUOTED w_NUMBER w_SUBSTITUTION w_OPTIONAL_SUBSTITUTION w_COMMENT w_END)), .val (.int (0 : Int32))] [(.int (0 : Int32)), (.int (f2 (f1 (p1 &&& (15 : Int32)) w_OPEN_BRACE w_CLOSE_BRACE w_OPEN_BRACKET w_CLOSE_BRACKET w_COMMA w_COLON w_EQUALS w_PLUS_EQUALS w_NEWLINE w_UNQUOTED w_QUOTED w_NUMBER w_SUBSTITUTION w_OPTIONAL_SUBSTITUTION w_COMMENT w_END) w_UNQUOTED w_QUOTED w_NUMBER))])) t → Steps p.tables e below (s₁.setTop (entryFrame m #[(.int p1)] maxLocals)) t := fun t k => by
        refine pre63 _ ?_
        show Steps p.tables e below (T56.setTop (mkF m 19 #[.val (.int p1), .val (.int (p1 &&& (15 : Int32))), .val (.ref (f1 (p1 &&& (15 : Int32)) w_OPEN_BRACE w_CLOSE_BRACE w_OPEN_BRACKET w_CLOSE_BRACKET w_COMMA w_COLON w_EQUALS w_PLUS_EQUALS w_NEWLINE w_UNQUOTED w_QUOTED w_NUMBER w_SUBSTITUTION w_OPTIONAL_SUBSTITUTION w_COMMENT w_END)), .unset] [(.int (11 : Int32)), (.int (p1 &&& (15 : Int32)))])) _
        refine XS.icmpYes X56.here hx rfl (pc0 := 19) (pc' := 26) rfl (hb hby at_19) rfl (tlt hc62).2.2.1 (by decide) (by decide) ?_
        show Steps p.tables e below (T56.setTop (mkF m 26 #[.val (.int p1), .val (.int (p1 &&& (15 : Int32))), .val (.ref (f1 (p1 &&& (15 : Int32)) w_OPEN_BRACE w_CLOSE_BRACE w_OPEN_BRACKET w_CLOSE_BRACKET w_COMMA w_COLON w_EQUALS w_PLUS_EQUALS w_NEWLINE w_UNQUOTED w_QUOTED w_NUMBER w_SUBSTITUTION w_OPTIONAL_SUBSTITUTION w_COMMENT w_END)), .unset] [])) _
        refine XS.iconst X56.here hx rfl (hb hby at_26) ?_
        show Steps p.tables e below (T56.setTop (mkF m 27 #[.val (.int p1), .val (.int (p1 &&& (15 : Int32))), .val (.ref (f1 (p1 &&& (15 : Int32)) w_OPEN_BRACE w_CLOSE_BRACE w_OPEN_BRACKET w_CLOSE_BRACKET w_COMMA w_COLON w_EQUALS w_PLUS_EQUALS w_NEWLINE w_UNQUOTED w_QUOTED w_NUMBER w_SUBSTITUTION w_OPTIONAL_SUBSTITUTION w_COMMENT w_END)), .unset] [(.int (0 : Int32))])) _
        refine XS.istoreN X56.here hx rfl (hb hby at_27) rfl (l' := #[.val (.int p1), .val (.int (p1 &&& (15 : Int32))), .val (.ref (f1 (p1 &&& (15 : Int32)) w_OPEN_BRACE w_CLOSE_BRACE w_OPEN_BRACKET w_CLOSE_BRACKET w_COMMA w_COLON w_EQUALS w_PLUS_EQUALS w_NEWLINE w_UNQUOTED w_QUOTED w_NUMBER w_SUBSTITUTION w_OPTIONAL_SUBSTITUTION w_COMMENT w_END)), .val (.int (0 : Int32))]) rfl ?_
        show Steps p.tables e below (T56.setTop (mkF m 28 #[.val (.int p1), .val (.int (p1 &&& (15 : Int32))), .val (.ref (f1 (p1 &&& (15 : Int32)) w_OPEN_BRACE w_CLOSE_BRACE w_OPEN_BRACKET w_CLOSE_BRACKET w_COMMA w_COLON w_EQUALS w_PLUS_EQUALS w_NEWLINE w_UNQUOTED w_QUOTED w_NUMBER w_SUBSTITUTION w_OPTIONAL_SUBSTITUTION w_COMMENT w_END)), .val (.int (0 : Int32))] [])) _
        refine XS.aloadN X56.here hx rfl (hb hby at_28) rfl rfl ?_
        show Steps p.tables e below (T56.setTop (mkF m 29 #[.val (.int p1), .val (.int (p1 &&& (15 : Int32))), .val (.ref (f1 (p1 &&& (15 : Int32)) w_OPEN_BRACE w_CLOSE_BRACE w_OPEN_BRACKET w_CLOSE_BRACKET w_COMMA w_COLON w_EQUALS w_PLUS_EQUALS w_NEWLINE w_UNQUOTED w_QUOTED w_NUMBER w_SUBSTITUTION w_OPTIONAL_SUBSTITUTION w_COMMENT w_END)), .val (.int (0 : Int32))] [(.ref (f1 (p1 &&& (15 : Int32)) w_OPEN_BRACE w_CLOSE_BRACE w_OPEN_BRACKET w_CLOSE_BRACKET w_COMMA w_COLON w_EQUALS w_PLUS_EQUALS w_NEWLINE w_UNQUOTED w_QUOTED w_NUMBER w_SUBSTITUTION w_OPTIONAL_SUBSTITUTION w_COMMENT w_END))])) _
        refine st64.trans ?_
        show Steps p.tables e below (T64.setTop (mkF m 32 #[.val (.int p1), .val (.int (p1 &&& (15 : Int32))), .val (.ref (f1 (p1 &&& (15 : Int32)) w_OPEN_BRACE w_CLOSE_BRACE w_OPEN_BRACKET w_CLOSE_BRACKET w_COMMA w_COLON w_EQUALS w_PLUS_EQUALS w_NEWLINE w_UNQUOTED w_QUOTED w_NUMBER w_SUBSTITUTION w_OPTIONAL_SUBSTITUTION w_COMMENT w_END)), .val (.int (0 : Int32))] [(.int (f2 (f1 (p1 &&& (15 : Int32)) w_OPEN_BRACE w_CLOSE_BRACE w_OPEN_BRACKET w_CLOSE_BRACKET w_COMMA w_COLON w_EQUALS w_PLUS_EQUALS w_NEWLINE w_UNQUOTED w_QUOTED w_NUMBER w_SUBSTITUTION w_OPTIONAL_SUBSTITUTION w_COMMENT w_END) w_UNQUOTED w_QUOTED w_NUMBER))])) _
        refine XS.iloadN X64.here hx rfl (hb hby at_32) rfl ?_
        exact k
      by_cases hc65 : (f2 (f1 (p1 &&& (15 : Int32)) w_OPEN_BRACE w_CLOSE_BRACE w_OPEN_BRACKET w_CLOSE_BRACKET w_COMMA w_COLON w_EQUALS w_PLUS_EQUALS w_NEWLINE w_UNQUOTED w_QUOTED w_NUMBER w_SUBSTITUTION w_OPTIONAL_SUBSTITUTION w_COMMENT w_END) w_UNQUOTED w_QUOTED w_NUMBER) = (0 : Int32)
      · obtain ⟨fs, hr, hrun, hended, hW, hsame⟩ := X64.leave (v := some (.int (1 : Int32))) (fun h => by rw [Bd.returns] at h; cases h)
        refine ⟨_, _, pre66 _ ?_, hrun, hended, _, _, rfl, ?_, ⟨_, rfl⟩, hW, hsame.mono (by decide) (by decide)⟩
        · show Steps p.tables e below (T64.setTop (mkF m 33 #[.val (.int p1), .val (.int (p1 &&& (15 : Int32))), .val (.ref (f1 (p1 &&& (15 : Int32)) w_OPEN_BRACE w_CLOSE_BRACE w_OPEN_BRACKET w_CLOSE_BRACKET w_COMMA w_COLON w_EQUALS w_PLUS_EQUALS w_NEWLINE w_UNQUOTED w_QUOTED w_NUMBER w_SUBSTITUTION w_OPTIONAL_SUBSTITUTION w_COMMENT w_END)), .val (.int (0 : Int32))] [(.int (0 : Int32)), (.int (f2 (f1 (p1 &&& (15 : Int32)) w_OPEN_BRACE w_CLOSE_BRACE w_OPEN_BRACKET w_CLOSE_BRACKET w_COMMA w_COLON w_EQUALS w_PLUS_EQUALS w_NEWLINE w_UNQUOTED w_QUOTED w_NUMBER w_SUBSTITUTION w_OPTIONAL_SUBSTITUTION w_COMMENT w_END) w_UNQUOTED w_QUOTED w_NUMBER))])) _
          refine XS.icmpNo X64.here hx rfl (hb hby at_33) rfl (teq hc65).2 ?_
          show Steps p.tables e below (T64.setTop (mkF m 36 #[.val (.int p1), .val (.int (p1 &&& (15 : Int32))), .val (.ref (f1 (p1 &&& (15 : Int32)) w_OPEN_BRACE w_CLOSE_BRACE w_OPEN_BRACKET w_CLOSE_BRACKET w_COMMA w_COLON w_EQUALS w_PLUS_EQUALS w_NEWLINE w_UNQUOTED w_QUOTED w_NUMBER w_SUBSTITUTION w_OPTIONAL_SUBSTITUTION w_COMMENT w_END)), .val (.int (0 : Int32))] [])) _
          refine XS.iconst X64.here hx rfl (hb hby at_36) ?_
          show Steps p.tables e below (T64.setTop (mkF m 37 #[.val (.int p1), .val (.int (p1 &&& (15 : Int32))), .val (.ref (f1 (p1 &&& (15 : Int32)) w_OPEN_BRACE w_CLOSE_BRACE w_OPEN_BRACKET w_CLOSE_BRACKET w_COMMA w_COLON w_EQUALS w_PLUS_EQUALS w_NEWLINE w_UNQUOTED w_QUOTED w_NUMBER w_SUBSTITUTION w_OPTIONAL_SUBSTITUTION w_COMMENT w_END)), .val (.int (0 : Int32))] [(.int (1 : Int32))])) _
          refine XS.goto X64.here hx rfl (pc0 := 37) (pc' := 41) rfl (hb hby at_37) (by decide) (by decide) ?_
          show Steps p.tables e below (T64.setTop (mkF m 41 #[.val (.int p1), .val (.int (p1 &&& (15 : Int32))), .val (.ref (f1 (p1 &&& (15 : Int32)) w_OPEN_BRACE w_CLOSE_BRACE w_OPEN_BRACKET w_CLOSE_BRACKET w_COMMA w_COLON w_EQUALS w_PLUS_EQUALS w_NEWLINE w_UNQUOTED w_QUOTED w_NUMBER w_SUBSTITUTION w_OPTIONAL_SUBSTITUTION w_COMMENT w_END)), .val (.int (0 : Int32))] [(.int (1 : Int32))])) _
          exact retN X64 hx (t := .boolean) Bd.returns (by simp) (hb hby at_41) hr
        · show QP _ h0 n0 _ T64.heap _
          rw [e64, show f0 p1 w_OPEN_BRACE w_CLOSE_BRACE w_OPEN_BRACKET w_CLOSE_BRACKET w_COMMA w_COLON w_EQUALS w_PLUS_EQUALS w_NEWLINE w_UNQUOTED w_QUOTED w_NUMBER w_SUBSTITUTION w_OPTIONAL_SUBSTITUTION w_COMMENT w_END = (1 : Int32) from by unfold f0; rw [if_neg hc57, if_pos hc62, if_pos hc65]]
          exact ⟨rfl, N64, rfl⟩
      · obtain ⟨fs, hr, hrun, hended, hW, hsame⟩ := X64.leave (v := some (.int (0 : Int32))) (fun h => by rw [Bd.returns] at h; cases h)
        refine ⟨_, _, pre66 _ ?_, hrun, hended, _, _, rfl, ?_, ⟨_, rfl⟩, hW, hsame.mono (by decide) (by decide)⟩
        · show Steps p.tables e below (T64.setTop (mkF m 33 #[.val (.int p1), .val (.int (p1 &&& (15 : Int32))), .val (.ref (f1 (p1 &&& (15 : Int32)) w_OPEN_BRACE w_CLOSE_BRACE w_OPEN_BRACKET w_CLOSE_BRACKET w_COMMA w_COLON w_EQUALS w_PLUS_EQUALS w_NEWLINE w_UNQUOTED w_QUOTED w_NUMBER w_SUBSTITUTION w_OPTIONAL_SUBSTITUTION w_COMMENT w_END)), .val (.int (0 : Int32))] [(.int (0 : Int32)), (.int (f2 (f1 (p1 &&& (15 : Int32)) w_OPEN_BRACE w_CLOSE_BRACE w_OPEN_BRACKET w_CLOSE_BRACKET w_COMMA w_COLON w_EQUALS w_PLUS_EQUALS w_NEWLINE w_UNQUOTED w_QUOTED w_NUMBER w_SUBSTITUTION w_OPTIONAL_SUBSTITUTION w_COMMENT w_END) w_UNQUOTED w_QUOTED w_NUMBER))])) _
          refine XS.icmpYes X64.here hx rfl (pc0 := 33) (pc' := 40) rfl (hb hby at_33) rfl (feq hc65).2 (by decide) (by decide) ?_
          show Steps p.tables e below (T64.setTop (mkF m 40 #[.val (.int p1), .val (.int (p1 &&& (15 : Int32))), .val (.ref (f1 (p1 &&& (15 : Int32)) w_OPEN_BRACE w_CLOSE_BRACE w_OPEN_BRACKET w_CLOSE_BRACKET w_COMMA w_COLON w_EQUALS w_PLUS_EQUALS w_NEWLINE w_UNQUOTED w_QUOTED w_NUMBER w_SUBSTITUTION w_OPTIONAL_SUBSTITUTION w_COMMENT w_END)), .val (.int (0 : Int32))] [])) _
          refine XS.iconst X64.here hx rfl (hb hby at_40) ?_
          show Steps p.tables e below (T64.setTop (mkF m 41 #[.val (.int p1), .val (.int (p1 &&& (15 : Int32))), .val (.ref (f1 (p1 &&& (15 : Int32)) w_OPEN_BRACE w_CLOSE_BRACE w_OPEN_BRACKET w_CLOSE_BRACKET w_COMMA w_COLON w_EQUALS w_PLUS_EQUALS w_NEWLINE w_UNQUOTED w_QUOTED w_NUMBER w_SUBSTITUTION w_OPTIONAL_SUBSTITUTION w_COMMENT w_END)), .val (.int (0 : Int32))] [(.int (0 : Int32))])) _
          exact retN X64 hx (t := .boolean) Bd.returns (by simp) (hb hby at_41) hr
        · show QP _ h0 n0 _ T64.heap _
          rw [e64, show f0 p1 w_OPEN_BRACE w_CLOSE_BRACE w_OPEN_BRACKET w_CLOSE_BRACKET w_COMMA w_COLON w_EQUALS w_PLUS_EQUALS w_NEWLINE w_UNQUOTED w_QUOTED w_NUMBER w_SUBSTITUTION w_OPTIONAL_SUBSTITUTION w_COMMENT w_END = (0 : Int32) from by unfold f0; rw [if_neg hc57, if_pos hc62, if_neg hc65]]
          exact ⟨rfl, N64, rfl⟩
    · obtain ⟨cq67, kq67, q67a, q67b, q67c⟩ := isOf hZ e56 (f1_all (P := fun a => Exa Z h0 a "com/example/hoconut/hoconut/token/TokenKind") (p1 &&& (15 : Int32)) w_OPEN_BRACE w_CLOSE_BRACE w_OPEN_BRACKET w_CLOSE_BRACKET w_COMMA w_COLON w_EQUALS w_PLUS_EQUALS w_NEWLINE w_UNQUOTED w_QUOTED w_NUMBER w_SUBSTITUTION w_OPTIONAL_SUBSTITUTION w_COMMENT w_END E_OPEN_BRACE E_CLOSE_BRACE E_OPEN_BRACKET E_CLOSE_BRACKET E_COMMA E_COLON E_EQUALS E_PLUS_EQUALS E_NEWLINE E_UNQUOTED E_QUOTED E_NUMBER E_SUBSTITUTION E_OPTIONAL_SUBSTITUTION E_COMMENT E_END)
      obtain ⟨_, _, ⟨T67, L67, k67, n67⟩, -, X67, ⟨Lc67, hQ67, l67, y67, z67⟩, st67⟩ := X56.virtualBack hx (y := (⟨"com/example/hoconut/hoconut/token/TokenKind", "isText", "()Z"⟩ : MethodName)) (z := (⟨"com/example/hoconut/hoconut/token/TokenKind", "isText", "()Z"⟩ : MethodName)) hown (mvT hZ (hw _ (List.mem_of_getElem? (i := 7) rfl))) (mvT hZ (hw _ (List.mem_of_getElem? (i := 8) rfl))) (notFace_of_selects (args := #[]) (mvT hZ (hw _ (List.mem_of_getElem? (i := 10) rfl)))) (mvT hZ (hw _ (List.mem_of_getElem? (i := 10) rfl))) (mvT hZ (hw _ (List.mem_of_getElem? (i := 9) rfl))) (by decide) (backOf (W := 0) (rm2 l Z a0 hw [] (f1 (p1 &&& (15 : Int32)) w_OPEN_BRACE w_CLOSE_BRACE w_OPEN_BRACKET w_CLOSE_BRACKET w_COMMA w_COLON w_EQUALS w_PLUS_EQUALS w_NEWLINE w_UNQUOTED w_QUOTED w_NUMBER w_SUBSTITUTION w_OPTIONAL_SUBSTITUTION w_COMMENT w_END) w_UNQUOTED w_QUOTED w_NUMBER h0 n0 Z0 S_UNQUOTED S_QUOTED S_NUMBER) hZ (hw _ (List.mem_of_getElem? (i := 11) rfl)) (hw _ (List.mem_of_getElem? (i := 5) rfl)) (by decide) (by decide)) q67a q67c (g := (mkF m 29 #[.val (.int p1), .val (.int (p1 &&& (15 : Int32))), .val (.ref (f1 (p1 &&& (15 : Int32)) w_OPEN_BRACE w_CLOSE_BRACE w_OPEN_BRACKET w_CLOSE_BRACKET w_COMMA w_COLON w_EQUALS w_PLUS_EQUALS w_NEWLINE w_UNQUOTED w_QUOTED w_NUMBER w_SUBSTITUTION w_OPTIONAL_SUBSTITUTION w_COMMENT w_END)), .val (.int (1 : Int32))] [(.ref (f1 (p1 &&& (15 : Int32)) w_OPEN_BRACE w_CLOSE_BRACE w_OPEN_BRACKET w_CLOSE_BRACKET w_COMMA w_COLON w_EQUALS w_PLUS_EQUALS w_NEWLINE w_UNQUOTED w_QUOTED w_NUMBER w_SUBSTITUTION w_OPTIONAL_SUBSTITUTION w_COMMENT w_END))])) rfl (by rw [hml]; rfl) (Steps.refl _) (argsL := []) (rest := []) (lenOf pd_1 rfl) rfl (by show 2 * 0 + _ ≤ _; exact Nat.le_of_eq rfl) (hb hby at_29) (fun _ _ => ⟨rfl, e56, (by decide : 0 + 0 ≤ _), (by decide : 0 + 0 ≤ _)⟩)
      dsimp only [Pt.U, Pt.locs, Pt.cells, Pt.slots] at X67 l67 y67 z67 st67 hQ67
      subst l67 y67 z67
      obtain ⟨rfl, N67q, e67⟩ := hQ67
      have N67 := Fr.app N56 N67q
      have pre69 : ∀ t, Steps p.tables e below (T67.setTop (mkF m 33 #[.val (.int p1), .val (.int (p1 &&& (15 : Int32))), .val (.ref (f1 (p1 &&& (15 : Int32)) w_OPEN_BRACE w_CLOSE_BRACE w_OPEN_BRACKET w_CLOSE_BRACKET w_COMMA w_COLON w_EQUALS w_PLUS_EQUALS w_NEWLINE w_UNQUOTED w_QUOTED w_NUMBER w_SUBSTITUTION w_OPTIONAL_SUBSTITUTION w_COMMENT w_END)), .val (.int (1 : Int32))] [(.int (1 : Int32)), (.int (f2 (f1 (p1 &&& (15 : Int32)) w_OPEN_BRACE w_CLOSE_BRACE w_OPEN_BRACKET w_CLOSE_BRACKET w_COMMA w_COLON w_EQUALS w_PLUS_EQUALS w_NEWLINE w_UNQUOTED w_QUOTED w_NUMBER w_SUBSTITUTION w_OPTIONAL_SUBSTITUTION w_COMMENT w_END) w_UNQUOTED w_QUOTED w_NUMBER))])) t → Steps p.tables e below (s₁.setTop (entryFrame m #[(.int p1)] maxLocals)) t := fun t k => by
        refine pre63 _ ?_
        show Steps p.tables e below (T56.setTop (mkF m 19 #[.val (.int p1), .val (.int (p1 &&& (15 : Int32))), .val (.ref (f1 (p1 &&& (15 : Int32)) w_OPEN_BRACE w_CLOSE_BRACE w_OPEN_BRACKET w_CLOSE_BRACKET w_COMMA w_COLON w_EQUALS w_PLUS_EQUALS w_NEWLINE w_UNQUOTED w_QUOTED w_NUMBER w_SUBSTITUTION w_OPTIONAL_SUBSTITUTION w_COMMENT w_END)), .unset] [(.int (11 : Int32)), (.int (p1 &&& (15 : Int32)))])) _
        refine XS.icmpNo X56.here hx rfl (hb hby at_19) rfl (flt hc62).2.2.1 ?_
        show Steps p.tables e below (T56.setTop (mkF m 22 #[.val (.int p1), .val (.int (p1 &&& (15 : Int32))), .val (.ref (f1 (p1 &&& (15 : Int32)) w_OPEN_BRACE w_CLOSE_BRACE w_OPEN_BRACKET w_CLOSE_BRACKET w_COMMA w_COLON w_EQUALS w_PLUS_EQUALS w_NEWLINE w_UNQUOTED w_QUOTED w_NUMBER w_SUBSTITUTION w_OPTIONAL_SUBSTITUTION w_COMMENT w_END)), .unset] [])) _
        refine XS.iconst X56.here hx rfl (hb hby at_22) ?_
        show Steps p.tables e below (T56.setTop (mkF m 23 #[.val (.int p1), .val (.int (p1 &&& (15 : Int32))), .val (.ref (f1 (p1 &&& (15 : Int32)) w_OPEN_BRACE w_CLOSE_BRACE w_OPEN_BRACKET w_CLOSE_BRACKET w_COMMA w_COLON w_EQUALS w_PLUS_EQUALS w_NEWLINE w_UNQUOTED w_QUOTED w_NUMBER w_SUBSTITUTION w_OPTIONAL_SUBSTITUTION w_COMMENT w_END)), .unset] [(.int (1 : Int32))])) _
        refine XS.goto X56.here hx rfl (pc0 := 23) (pc' := 27) rfl (hb hby at_23) (by decide) (by decide) ?_
        show Steps p.tables e below (T56.setTop (mkF m 27 #[.val (.int p1), .val (.int (p1 &&& (15 : Int32))), .val (.ref (f1 (p1 &&& (15 : Int32)) w_OPEN_BRACE w_CLOSE_BRACE w_OPEN_BRACKET w_CLOSE_BRACKET w_COMMA w_COLON w_EQUALS w_PLUS_EQUALS w_NEWLINE w_UNQUOTED w_QUOTED w_NUMBER w_SUBSTITUTION w_OPTIONAL_SUBSTITUTION w_COMMENT w_END)), .unset] [(.int (1 : Int32))])) _
        refine XS.istoreN X56.here hx rfl (hb hby at_27) rfl (l' := #[.val (.int p1), .val (.int (p1 &&& (15 : Int32))), .val (.ref (f1 (p1 &&& (15 : Int32)) w_OPEN_BRACE w_CLOSE_BRACE w_OPEN_BRACKET w_CLOSE_BRACKET w_COMMA w_COLON w_EQUALS w_PLUS_EQUALS w_NEWLINE w_UNQUOTED w_QUOTED w_NUMBER w_SUBSTITUTION w_OPTIONAL_SUBSTITUTION w_COMMENT w_END)), .val (.int (1 : Int32))]) rfl ?_
        show Steps p.tables e below (T56.setTop (mkF m 28 #[.val (.int p1), .val (.int (p1 &&& (15 : Int32))), .val (.ref (f1 (p1 &&& (15 : Int32)) w_OPEN_BRACE w_CLOSE_BRACE w_OPEN_BRACKET w_CLOSE_BRACKET w_COMMA w_COLON w_EQUALS w_PLUS_EQUALS w_NEWLINE w_UNQUOTED w_QUOTED w_NUMBER w_SUBSTITUTION w_OPTIONAL_SUBSTITUTION w_COMMENT w_END)), .val (.int (1 : Int32))] [])) _
        refine XS.aloadN X56.here hx rfl (hb hby at_28) rfl rfl ?_
        show Steps p.tables e below (T56.setTop (mkF m 29 #[.val (.int p1), .val (.int (p1 &&& (15 : Int32))), .val (.ref (f1 (p1 &&& (15 : Int32)) w_OPEN_BRACE w_CLOSE_BRACE w_OPEN_BRACKET w_CLOSE_BRACKET w_COMMA w_COLON w_EQUALS w_PLUS_EQUALS w_NEWLINE w_UNQUOTED w_QUOTED w_NUMBER w_SUBSTITUTION w_OPTIONAL_SUBSTITUTION w_COMMENT w_END)), .val (.int (1 : Int32))] [(.ref (f1 (p1 &&& (15 : Int32)) w_OPEN_BRACE w_CLOSE_BRACE w_OPEN_BRACKET w_CLOSE_BRACKET w_COMMA w_COLON w_EQUALS w_PLUS_EQUALS w_NEWLINE w_UNQUOTED w_QUOTED w_NUMBER w_SUBSTITUTION w_OPTIONAL_SUBSTITUTION w_COMMENT w_END))])) _
        refine st67.trans ?_
        show Steps p.tables e below (T67.setTop (mkF m 32 #[.val (.int p1), .val (.int (p1 &&& (15 : Int32))), .val (.ref (f1 (p1 &&& (15 : Int32)) w_OPEN_BRACE w_CLOSE_BRACE w_OPEN_BRACKET w_CLOSE_BRACKET w_COMMA w_COLON w_EQUALS w_PLUS_EQUALS w_NEWLINE w_UNQUOTED w_QUOTED w_NUMBER w_SUBSTITUTION w_OPTIONAL_SUBSTITUTION w_COMMENT w_END)), .val (.int (1 : Int32))] [(.int (f2 (f1 (p1 &&& (15 : Int32)) w_OPEN_BRACE w_CLOSE_BRACE w_OPEN_BRACKET w_CLOSE_BRACKET w_COMMA w_COLON w_EQUALS w_PLUS_EQUALS w_NEWLINE w_UNQUOTED w_QUOTED w_NUMBER w_SUBSTITUTION w_OPTIONAL_SUBSTITUTION w_COMMENT w_END) w_UNQUOTED w_QUOTED w_NUMBER))])) _
        refine XS.iloadN X67.here hx rfl (hb hby at_32) rfl ?_
        exact k
      by_cases hc68 : (f2 (f1 (p1 &&& (15 : Int32)) w_OPEN_BRACE w_CLOSE_BRACE w_OPEN_BRACKET w_CLOSE_BRACKET w_COMMA w_COLON w_EQUALS w_PLUS_EQUALS w_NEWLINE w_UNQUOTED w_QUOTED w_NUMBER w_SUBSTITUTION w_OPTIONAL_SUBSTITUTION w_COMMENT w_END) w_UNQUOTED w_QUOTED w_NUMBER) = (1 : Int32)
      · obtain ⟨fs, hr, hrun, hended, hW, hsame⟩ := X67.leave (v := some (.int (1 : Int32))) (fun h => by rw [Bd.returns] at h; cases h)
        refine ⟨_, _, pre69 _ ?_, hrun, hended, _, _, rfl, ?_, ⟨_, rfl⟩, hW, hsame.mono (by decide) (by decide)⟩
        · show Steps p.tables e below (T67.setTop (mkF m 33 #[.val (.int p1), .val (.int (p1 &&& (15 : Int32))), .val (.ref (f1 (p1 &&& (15 : Int32)) w_OPEN_BRACE w_CLOSE_BRACE w_OPEN_BRACKET w_CLOSE_BRACKET w_COMMA w_COLON w_EQUALS w_PLUS_EQUALS w_NEWLINE w_UNQUOTED w_QUOTED w_NUMBER w_SUBSTITUTION w_OPTIONAL_SUBSTITUTION w_COMMENT w_END)), .val (.int (1 : Int32))] [(.int (1 : Int32)), (.int (f2 (f1 (p1 &&& (15 : Int32)) w_OPEN_BRACE w_CLOSE_BRACE w_OPEN_BRACKET w_CLOSE_BRACKET w_COMMA w_COLON w_EQUALS w_PLUS_EQUALS w_NEWLINE w_UNQUOTED w_QUOTED w_NUMBER w_SUBSTITUTION w_OPTIONAL_SUBSTITUTION w_COMMENT w_END) w_UNQUOTED w_QUOTED w_NUMBER))])) _
          refine XS.icmpNo X67.here hx rfl (hb hby at_33) rfl (teq hc68).2 ?_
          show Steps p.tables e below (T67.setTop (mkF m 36 #[.val (.int p1), .val (.int (p1 &&& (15 : Int32))), .val (.ref (f1 (p1 &&& (15 : Int32)) w_OPEN_BRACE w_CLOSE_BRACE w_OPEN_BRACKET w_CLOSE_BRACKET w_COMMA w_COLON w_EQUALS w_PLUS_EQUALS w_NEWLINE w_UNQUOTED w_QUOTED w_NUMBER w_SUBSTITUTION w_OPTIONAL_SUBSTITUTION w_COMMENT w_END)), .val (.int (1 : Int32))] [])) _
          refine XS.iconst X67.here hx rfl (hb hby at_36) ?_
          show Steps p.tables e below (T67.setTop (mkF m 37 #[.val (.int p1), .val (.int (p1 &&& (15 : Int32))), .val (.ref (f1 (p1 &&& (15 : Int32)) w_OPEN_BRACE w_CLOSE_BRACE w_OPEN_BRACKET w_CLOSE_BRACKET w_COMMA w_COLON w_EQUALS w_PLUS_EQUALS w_NEWLINE w_UNQUOTED w_QUOTED w_NUMBER w_SUBSTITUTION w_OPTIONAL_SUBSTITUTION w_COMMENT w_END)), .val (.int (1 : Int32))] [(.int (1 : Int32))])) _
          refine XS.goto X67.here hx rfl (pc0 := 37) (pc' := 41) rfl (hb hby at_37) (by decide) (by decide) ?_
          show Steps p.tables e below (T67.setTop (mkF m 41 #[.val (.int p1), .val (.int (p1 &&& (15 : Int32))), .val (.ref (f1 (p1 &&& (15 : Int32)) w_OPEN_BRACE w_CLOSE_BRACE w_OPEN_BRACKET w_CLOSE_BRACKET w_COMMA w_COLON w_EQUALS w_PLUS_EQUALS w_NEWLINE w_UNQUOTED w_QUOTED w_NUMBER w_SUBSTITUTION w_OPTIONAL_SUBSTITUTION w_COMMENT w_END)), .val (.int (1 : Int32))] [(.int (1 : Int32))])) _
          exact retN X67 hx (t := .boolean) Bd.returns (by simp) (hb hby at_41) hr
        · show QP _ h0 n0 _ T67.heap _
          rw [e67, show f0 p1 w_OPEN_BRACE w_CLOSE_BRACE w_OPEN_BRACKET w_CLOSE_BRACKET w_COMMA w_COLON w_EQUALS w_PLUS_EQUALS w_NEWLINE w_UNQUOTED w_QUOTED w_NUMBER w_SUBSTITUTION w_OPTIONAL_SUBSTITUTION w_COMMENT w_END = (1 : Int32) from by unfold f0; rw [if_neg hc57, if_neg hc62, if_pos hc68]]
          exact ⟨rfl, N67, rfl⟩
      · obtain ⟨fs, hr, hrun, hended, hW, hsame⟩ := X67.leave (v := some (.int (0 : Int32))) (fun h => by rw [Bd.returns] at h; cases h)
        refine ⟨_, _, pre69 _ ?_, hrun, hended, _, _, rfl, ?_, ⟨_, rfl⟩, hW, hsame.mono (by decide) (by decide)⟩
        · show Steps p.tables e below (T67.setTop (mkF m 33 #[.val (.int p1), .val (.int (p1 &&& (15 : Int32))), .val (.ref (f1 (p1 &&& (15 : Int32)) w_OPEN_BRACE w_CLOSE_BRACE w_OPEN_BRACKET w_CLOSE_BRACKET w_COMMA w_COLON w_EQUALS w_PLUS_EQUALS w_NEWLINE w_UNQUOTED w_QUOTED w_NUMBER w_SUBSTITUTION w_OPTIONAL_SUBSTITUTION w_COMMENT w_END)), .val (.int (1 : Int32))] [(.int (1 : Int32)), (.int (f2 (f1 (p1 &&& (15 : Int32)) w_OPEN_BRACE w_CLOSE_BRACE w_OPEN_BRACKET w_CLOSE_BRACKET w_COMMA w_COLON w_EQUALS w_PLUS_EQUALS w_NEWLINE w_UNQUOTED w_QUOTED w_NUMBER w_SUBSTITUTION w_OPTIONAL_SUBSTITUTION w_COMMENT w_END) w_UNQUOTED w_QUOTED w_NUMBER))])) _
          refine XS.icmpYes X67.here hx rfl (pc0 := 33) (pc' := 40) rfl (hb hby at_33) rfl (feq hc68).2 (by decide) (by decide) ?_
          show Steps p.tables e below (T67.setTop (mkF m 40 #[.val (.int p1), .val (.int (p1 &&& (15 : Int32))), .val (.ref (f1 (p1 &&& (15 : Int32)) w_OPEN_BRACE w_CLOSE_BRACE w_OPEN_BRACKET w_CLOSE_BRACKET w_COMMA w_COLON w_EQUALS w_PLUS_EQUALS w_NEWLINE w_UNQUOTED w_QUOTED w_NUMBER w_SUBSTITUTION w_OPTIONAL_SUBSTITUTION w_COMMENT w_END)), .val (.int (1 : Int32))] [])) _
          refine XS.iconst X67.here hx rfl (hb hby at_40) ?_
          show Steps p.tables e below (T67.setTop (mkF m 41 #[.val (.int p1), .val (.int (p1 &&& (15 : Int32))), .val (.ref (f1 (p1 &&& (15 : Int32)) w_OPEN_BRACE w_CLOSE_BRACE w_OPEN_BRACKET w_CLOSE_BRACKET w_COMMA w_COLON w_EQUALS w_PLUS_EQUALS w_NEWLINE w_UNQUOTED w_QUOTED w_NUMBER w_SUBSTITUTION w_OPTIONAL_SUBSTITUTION w_COMMENT w_END)), .val (.int (1 : Int32))] [(.int (0 : Int32))])) _
          exact retN X67 hx (t := .boolean) Bd.returns (by simp) (hb hby at_41) hr
        · show QP _ h0 n0 _ T67.heap _
          rw [e67, show f0 p1 w_OPEN_BRACE w_CLOSE_BRACE w_OPEN_BRACKET w_CLOSE_BRACKET w_COMMA w_COLON w_EQUALS w_PLUS_EQUALS w_NEWLINE w_UNQUOTED w_QUOTED w_NUMBER w_SUBSTITUTION w_OPTIONAL_SUBSTITUTION w_COMMENT w_END = (0 : Int32) from by unfold f0; rw [if_neg hc57, if_neg hc62, if_neg hc68]]
          exact ⟨rfl, N67, rfl⟩
theorem own_idx (a : Int32) : (a &&& (15 : Int32)) = 0 ∨ (a &&& (15 : Int32)) = 1 ∨ (a &&& (15 : Int32)) = 2 ∨ (a &&& (15 : Int32)) = 3 ∨ (a &&& (15 : Int32)) = 4 ∨ (a &&& (15 : Int32)) = 5 ∨ (a &&& (15 : Int32)) = 6 ∨ (a &&& (15 : Int32)) = 7 ∨ (a &&& (15 : Int32)) = 8 ∨ (a &&& (15 : Int32)) = 9 ∨ (a &&& (15 : Int32)) = 10 ∨ (a &&& (15 : Int32)) = 11 ∨ (a &&& (15 : Int32)) = 12 ∨ (a &&& (15 : Int32)) = 13 ∨ (a &&& (15 : Int32)) = 14 ∨ (a &&& (15 : Int32)) = 15 := by
  have h1 : (a &&& 15).toInt = a.toInt % (2 ^ 4 : Nat) := c_mask a _ 4 (by decide) (by decide)
  simp only [← Int32.toInt_inj]
  have e0 : (0 : Int32).toInt = 0 := by decide
  have e1 : (1 : Int32).toInt = 1 := by decide
  have e2 : (2 : Int32).toInt = 2 := by decide
  have e3 : (3 : Int32).toInt = 3 := by decide
  have e4 : (4 : Int32).toInt = 4 := by decide
  have e5 : (5 : Int32).toInt = 5 := by decide
  have e6 : (6 : Int32).toInt = 6 := by decide
  have e7 : (7 : Int32).toInt = 7 := by decide
  have e8 : (8 : Int32).toInt = 8 := by decide
  have e9 : (9 : Int32).toInt = 9 := by decide
  have e10 : (10 : Int32).toInt = 10 := by decide
  have e11 : (11 : Int32).toInt = 11 := by decide
  have e12 : (12 : Int32).toInt = 12 := by decide
  have e13 : (13 : Int32).toInt = 13 := by decide
  have e14 : (14 : Int32).toInt = 14 := by decide
  have e15 : (15 : Int32).toInt = 15 := by decide
  omega
theorem own_law (a : Int32) (w_OPEN_BRACE w_CLOSE_BRACE w_OPEN_BRACKET w_CLOSE_BRACKET w_COMMA w_COLON w_EQUALS w_PLUS_EQUALS w_NEWLINE w_UNQUOTED w_QUOTED w_NUMBER w_SUBSTITUTION w_OPTIONAL_SUBSTITUTION w_COMMENT w_END : Addr) (n_OPEN_BRACE_UNQUOTED : w_OPEN_BRACE ≠ w_UNQUOTED) (n_OPEN_BRACE_QUOTED : w_OPEN_BRACE ≠ w_QUOTED) (n_OPEN_BRACE_NUMBER : w_OPEN_BRACE ≠ w_NUMBER) (n_CLOSE_BRACE_UNQUOTED : w_CLOSE_BRACE ≠ w_UNQUOTED) (n_CLOSE_BRACE_QUOTED : w_CLOSE_BRACE ≠ w_QUOTED) (n_CLOSE_BRACE_NUMBER : w_CLOSE_BRACE ≠ w_NUMBER) (n_OPEN_BRACKET_UNQUOTED : w_OPEN_BRACKET ≠ w_UNQUOTED) (n_OPEN_BRACKET_QUOTED : w_OPEN_BRACKET ≠ w_QUOTED) (n_OPEN_BRACKET_NUMBER : w_OPEN_BRACKET ≠ w_NUMBER) (n_CLOSE_BRACKET_UNQUOTED : w_CLOSE_BRACKET ≠ w_UNQUOTED) (n_CLOSE_BRACKET_QUOTED : w_CLOSE_BRACKET ≠ w_QUOTED) (n_CLOSE_BRACKET_NUMBER : w_CLOSE_BRACKET ≠ w_NUMBER) (n_COMMA_UNQUOTED : w_COMMA ≠ w_UNQUOTED) (n_COMMA_QUOTED : w_COMMA ≠ w_QUOTED) (n_COMMA_NUMBER : w_COMMA ≠ w_NUMBER) (n_COLON_UNQUOTED : w_COLON ≠ w_UNQUOTED) (n_COLON_QUOTED : w_COLON ≠ w_QUOTED) (n_COLON_NUMBER : w_COLON ≠ w_NUMBER) (n_EQUALS_UNQUOTED : w_EQUALS ≠ w_UNQUOTED) (n_EQUALS_QUOTED : w_EQUALS ≠ w_QUOTED) (n_EQUALS_NUMBER : w_EQUALS ≠ w_NUMBER) (n_PLUS_EQUALS_UNQUOTED : w_PLUS_EQUALS ≠ w_UNQUOTED) (n_PLUS_EQUALS_QUOTED : w_PLUS_EQUALS ≠ w_QUOTED) (n_PLUS_EQUALS_NUMBER : w_PLUS_EQUALS ≠ w_NUMBER) (n_NEWLINE_UNQUOTED : w_NEWLINE ≠ w_UNQUOTED) (n_NEWLINE_QUOTED : w_NEWLINE ≠ w_QUOTED) (n_NEWLINE_NUMBER : w_NEWLINE ≠ w_NUMBER) (n_UNQUOTED_QUOTED : w_UNQUOTED ≠ w_QUOTED) (n_UNQUOTED_NUMBER : w_UNQUOTED ≠ w_NUMBER) (n_UNQUOTED_SUBSTITUTION : w_UNQUOTED ≠ w_SUBSTITUTION) (n_UNQUOTED_OPTIONAL_SUBSTITUTION : w_UNQUOTED ≠ w_OPTIONAL_SUBSTITUTION) (n_UNQUOTED_COMMENT : w_UNQUOTED ≠ w_COMMENT) (n_UNQUOTED_END : w_UNQUOTED ≠ w_END) (n_QUOTED_NUMBER : w_QUOTED ≠ w_NUMBER) (n_QUOTED_SUBSTITUTION : w_QUOTED ≠ w_SUBSTITUTION) (n_QUOTED_OPTIONAL_SUBSTITUTION : w_QUOTED ≠ w_OPTIONAL_SUBSTITUTION) (n_QUOTED_COMMENT : w_QUOTED ≠ w_COMMENT) (n_QUOTED_END : w_QUOTED ≠ w_END) (n_NUMBER_SUBSTITUTION : w_NUMBER ≠ w_SUBSTITUTION) (n_NUMBER_OPTIONAL_SUBSTITUTION : w_NUMBER ≠ w_OPTIONAL_SUBSTITUTION) (n_NUMBER_COMMENT : w_NUMBER ≠ w_COMMENT) (n_NUMBER_END : w_NUMBER ≠ w_END) : f0 a w_OPEN_BRACE w_CLOSE_BRACE w_OPEN_BRACKET w_CLOSE_BRACKET w_COMMA w_COLON w_EQUALS w_PLUS_EQUALS w_NEWLINE w_UNQUOTED w_QUOTED w_NUMBER w_SUBSTITUTION w_OPTIONAL_SUBSTITUTION w_COMMENT w_END = 1 := by
  rcases own_idx a with h | h | h | h | h | h | h | h | h | h | h | h | h | h | h | h <;> simp [f0, f1, f2, h, n_OPEN_BRACE_UNQUOTED, n_OPEN_BRACE_QUOTED, n_OPEN_BRACE_NUMBER, n_CLOSE_BRACE_UNQUOTED, n_CLOSE_BRACE_QUOTED, n_CLOSE_BRACE_NUMBER, n_OPEN_BRACKET_UNQUOTED, n_OPEN_BRACKET_QUOTED, n_OPEN_BRACKET_NUMBER, n_CLOSE_BRACKET_UNQUOTED, n_CLOSE_BRACKET_QUOTED, n_CLOSE_BRACKET_NUMBER, n_COMMA_UNQUOTED, n_COMMA_QUOTED, n_COMMA_NUMBER, n_COLON_UNQUOTED, n_COLON_QUOTED, n_COLON_NUMBER, n_EQUALS_UNQUOTED, n_EQUALS_QUOTED, n_EQUALS_NUMBER, n_PLUS_EQUALS_UNQUOTED, n_PLUS_EQUALS_QUOTED, n_PLUS_EQUALS_NUMBER, n_NEWLINE_UNQUOTED, n_NEWLINE_QUOTED, n_NEWLINE_NUMBER, n_UNQUOTED_QUOTED, n_UNQUOTED_NUMBER, n_UNQUOTED_SUBSTITUTION, n_UNQUOTED_OPTIONAL_SUBSTITUTION, n_UNQUOTED_COMMENT, n_UNQUOTED_END, n_QUOTED_NUMBER, n_QUOTED_SUBSTITUTION, n_QUOTED_OPTIONAL_SUBSTITUTION, n_QUOTED_COMMENT, n_QUOTED_END, n_NUMBER_SUBSTITUTION, n_NUMBER_OPTIONAL_SUBSTITUTION, n_NUMBER_COMMENT, n_NUMBER_END, Ne.symm n_OPEN_BRACE_UNQUOTED, Ne.symm n_OPEN_BRACE_QUOTED, Ne.symm n_OPEN_BRACE_NUMBER, Ne.symm n_CLOSE_BRACE_UNQUOTED, Ne.symm n_CLOSE_BRACE_QUOTED, Ne.symm n_CLOSE_BRACE_NUMBER, Ne.symm n_OPEN_BRACKET_UNQUOTED, Ne.symm n_OPEN_BRACKET_QUOTED, Ne.symm n_OPEN_BRACKET_NUMBER, Ne.symm n_CLOSE_BRACKET_UNQUOTED, Ne.symm n_CLOSE_BRACKET_QUOTED, Ne.symm n_CLOSE_BRACKET_NUMBER, Ne.symm n_COMMA_UNQUOTED, Ne.symm n_COMMA_QUOTED, Ne.symm n_COMMA_NUMBER, Ne.symm n_COLON_UNQUOTED, Ne.symm n_COLON_QUOTED, Ne.symm n_COLON_NUMBER, Ne.symm n_EQUALS_UNQUOTED, Ne.symm n_EQUALS_QUOTED, Ne.symm n_EQUALS_NUMBER, Ne.symm n_PLUS_EQUALS_UNQUOTED, Ne.symm n_PLUS_EQUALS_QUOTED, Ne.symm n_PLUS_EQUALS_NUMBER, Ne.symm n_NEWLINE_UNQUOTED, Ne.symm n_NEWLINE_QUOTED, Ne.symm n_NEWLINE_NUMBER, Ne.symm n_UNQUOTED_QUOTED, Ne.symm n_UNQUOTED_NUMBER, Ne.symm n_UNQUOTED_SUBSTITUTION, Ne.symm n_UNQUOTED_OPTIONAL_SUBSTITUTION, Ne.symm n_UNQUOTED_COMMENT, Ne.symm n_UNQUOTED_END, Ne.symm n_QUOTED_NUMBER, Ne.symm n_QUOTED_SUBSTITUTION, Ne.symm n_QUOTED_OPTIONAL_SUBSTITUTION, Ne.symm n_QUOTED_COMMENT, Ne.symm n_QUOTED_END, Ne.symm n_NUMBER_SUBSTITUTION, Ne.symm n_NUMBER_OPTIONAL_SUBSTITUTION, Ne.symm n_NUMBER_COMMENT, Ne.symm n_NUMBER_END]
set_option maxRecDepth 65536 in
set_option maxHeartbeats 40000000 in
theorem comes_1 {Post : Tables → Env → Array Value → State → Outcome → State → Prop} (hpost : ∀ tb e args s v u, (limb_1_1.after args s (.returned v) u = true ∧ limb_1_2.after args s (.returned v) u = true ∧ True) → FrameEnd s (.returned v) u (Jvm.fieldLocs frame_1_writes args s ++ Jvm.arrayLocs frame_1_arrays args s ++ Jvm.staticLocs frame_1_statics s) 0 0 → Post tb e args s (.returned v) u) :
    ArmFor flags0 classFile x code maxLocals ret World_1 tables_1 room_1 Calls_1 rest_1 Pre_1 Post := by
  intro l hfl _ _ p e ha hc hk s m args below hf hA hF happ hP
  obtain ⟨hcalls, hrest, hpre⟩ := hP
  obtain ⟨-, -, -, hnamed, -, -, -, hat⟩ := (Spec.applies_iff hf).mp happ
  obtain ⟨hg, hn⟩ := and_e (Cond.before_iff.mp (show (Jvm.Cond.and given_1 narrow_1).before args s = true from hpre))
  obtain ⟨gc, gr0⟩ := and_e hg
  obtain ⟨w0, rfl⟩ : ∃ w0 : Value, args = #[w0] := by
    have hs : args.size = 1 := by simpa [Cond.value, given_1] using gc
    obtain ⟨L⟩ := args
    match L, hs with
    | [w0], _ => exact ⟨w0, rfl⟩
  have hw := fun d (hd : d ∈ tables_1) => atoms_spec (ws := Jvm.Cond.code x code maxLocals ret :: tables_1) hat d (List.mem_cons_of_mem _ hd)
  have hfit : Fit s := fun {y c} hc i hi => by
    obtain ⟨ha, rfl⟩ := Array.getElem?_eq_some_iff.mp hc
    have q := List.all_eq_true.mp ((Array.all_eq_true_iff_forall_mem.mp hF) _ (Array.getElem_mem ha)) i (List.mem_range.mpr hi)
    simpa [Array.getElem?_eq_getElem hi] using q
  obtain ⟨i0, ei0⟩ := is_v gr0
  obtain rfl : w0 = (.int i0) := Option.some.inj ei0
  obtain ⟨nn0, nr0⟩ := and_e hn
  obtain ⟨nn1, nr1⟩ := and_e nr0
  obtain ⟨nn2, nr2⟩ := and_e nr1
  obtain ⟨nn3, nr3⟩ := and_e nr2
  obtain ⟨nn4, nr4⟩ := and_e nr3
  obtain ⟨nn5, nr5⟩ := and_e nr4
  obtain ⟨nn6, nr6⟩ := and_e nr5
  obtain ⟨nn7, nr7⟩ := and_e nr6
  obtain ⟨nn8, nr8⟩ := and_e nr7
  obtain ⟨nn9, nr9⟩ := and_e nr8
  obtain ⟨nn10, nr10⟩ := and_e nr9
  obtain ⟨nn11, nr11⟩ := and_e nr10
  obtain ⟨nn12, nr12⟩ := and_e nr11
  obtain ⟨nn13, nr13⟩ := and_e nr12
  obtain ⟨nn14, nr14⟩ := and_e nr13
  obtain ⟨nn15, nr15⟩ := and_e nr14
  obtain ⟨nn16, nr16⟩ := and_e nr15
  obtain ⟨nn17, nr17⟩ := and_e nr16
  obtain ⟨nn18, nr18⟩ := and_e nr17
  obtain ⟨nn19, nr19⟩ := and_e nr18
  obtain ⟨nn20, nr20⟩ := and_e nr19
  obtain ⟨nn21, nr21⟩ := and_e nr20
  obtain ⟨nn22, nr22⟩ := and_e nr21
  obtain ⟨nn23, nr23⟩ := and_e nr22
  obtain ⟨nn24, nr24⟩ := and_e nr23
  obtain ⟨nn25, nr25⟩ := and_e nr24
  obtain ⟨nn26, nr26⟩ := and_e nr25
  obtain ⟨nn27, nr27⟩ := and_e nr26
  obtain ⟨nn28, nr28⟩ := and_e nr27
  obtain ⟨nn29, nr29⟩ := and_e nr28
  obtain ⟨nn30, nr30⟩ := and_e nr29
  obtain ⟨w_OPEN_BRACE, ev_OPEN_BRACE⟩ := exa_v nn0
  have S_OPEN_BRACE : Sta s s.heap "com/example/hoconut/hoconut/token/TokenKind" "OPEN_BRACE" "Lcom/example/hoconut/hoconut/token/TokenKind;" (.ref w_OPEN_BRACE) := Sta.start ev_OPEN_BRACE (Or.inr ⟨(hw _ (List.mem_of_getElem? (i := 5) rfl)), (hw _ (List.mem_of_getElem? (i := 6) rfl))⟩)
  have E_OPEN_BRACE : Exa s s.heap w_OPEN_BRACE "com/example/hoconut/hoconut/token/TokenKind" := Exa.start ev_OPEN_BRACE nn0
  obtain ⟨w_UNQUOTED, ev_UNQUOTED⟩ := exa_v nn1
  have S_UNQUOTED : Sta s s.heap "com/example/hoconut/hoconut/token/TokenKind" "UNQUOTED" "Lcom/example/hoconut/hoconut/token/TokenKind;" (.ref w_UNQUOTED) := Sta.start ev_UNQUOTED (Or.inr ⟨(hw _ (List.mem_of_getElem? (i := 5) rfl)), (hw _ (List.mem_of_getElem? (i := 13) rfl))⟩)
  have E_UNQUOTED : Exa s s.heap w_UNQUOTED "com/example/hoconut/hoconut/token/TokenKind" := Exa.start ev_UNQUOTED nn1
  obtain ⟨w_QUOTED, ev_QUOTED⟩ := exa_v nn4
  have S_QUOTED : Sta s s.heap "com/example/hoconut/hoconut/token/TokenKind" "QUOTED" "Lcom/example/hoconut/hoconut/token/TokenKind;" (.ref w_QUOTED) := Sta.start ev_QUOTED (Or.inr ⟨(hw _ (List.mem_of_getElem? (i := 5) rfl)), (hw _ (List.mem_of_getElem? (i := 15) rfl))⟩)
  have E_QUOTED : Exa s s.heap w_QUOTED "com/example/hoconut/hoconut/token/TokenKind" := Exa.start ev_QUOTED nn4
  obtain ⟨w_NUMBER, ev_NUMBER⟩ := exa_v nn6
  have S_NUMBER : Sta s s.heap "com/example/hoconut/hoconut/token/TokenKind" "NUMBER" "Lcom/example/hoconut/hoconut/token/TokenKind;" (.ref w_NUMBER) := Sta.start ev_NUMBER (Or.inr ⟨(hw _ (List.mem_of_getElem? (i := 5) rfl)), (hw _ (List.mem_of_getElem? (i := 17) rfl))⟩)
  have E_NUMBER : Exa s s.heap w_NUMBER "com/example/hoconut/hoconut/token/TokenKind" := Exa.start ev_NUMBER nn6
  obtain ⟨w_CLOSE_BRACKET, ev_CLOSE_BRACKET⟩ := exa_v nn8
  have S_CLOSE_BRACKET : Sta s s.heap "com/example/hoconut/hoconut/token/TokenKind" "CLOSE_BRACKET" "Lcom/example/hoconut/hoconut/token/TokenKind;" (.ref w_CLOSE_BRACKET) := Sta.start ev_CLOSE_BRACKET (Or.inr ⟨(hw _ (List.mem_of_getElem? (i := 5) rfl)), (hw _ (List.mem_of_getElem? (i := 19) rfl))⟩)
  have E_CLOSE_BRACKET : Exa s s.heap w_CLOSE_BRACKET "com/example/hoconut/hoconut/token/TokenKind" := Exa.start ev_CLOSE_BRACKET nn8
  obtain ⟨w_COMMENT, ev_COMMENT⟩ := exa_v nn10
  have S_COMMENT : Sta s s.heap "com/example/hoconut/hoconut/token/TokenKind" "COMMENT" "Lcom/example/hoconut/hoconut/token/TokenKind;" (.ref w_COMMENT) := Sta.start ev_COMMENT (Or.inr ⟨(hw _ (List.mem_of_getElem? (i := 5) rfl)), (hw _ (List.mem_of_getElem? (i := 21) rfl))⟩)
  have E_COMMENT : Exa s s.heap w_COMMENT "com/example/hoconut/hoconut/token/TokenKind" := Exa.start ev_COMMENT nn10
  obtain ⟨w_END, ev_END⟩ := exa_v nn12
  have S_END : Sta s s.heap "com/example/hoconut/hoconut/token/TokenKind" "END" "Lcom/example/hoconut/hoconut/token/TokenKind;" (.ref w_END) := Sta.start ev_END (Or.inr ⟨(hw _ (List.mem_of_getElem? (i := 5) rfl)), (hw _ (List.mem_of_getElem? (i := 23) rfl))⟩)
  have E_END : Exa s s.heap w_END "com/example/hoconut/hoconut/token/TokenKind" := Exa.start ev_END nn12
  obtain ⟨w_PLUS_EQUALS, ev_PLUS_EQUALS⟩ := exa_v nn14
  have S_PLUS_EQUALS : Sta s s.heap "com/example/hoconut/hoconut/token/TokenKind" "PLUS_EQUALS" "Lcom/example/hoconut/hoconut/token/TokenKind;" (.ref w_PLUS_EQUALS) := Sta.start ev_PLUS_EQUALS (Or.inr ⟨(hw _ (List.mem_of_getElem? (i := 5) rfl)), (hw _ (List.mem_of_getElem? (i := 26) rfl))⟩)
  have E_PLUS_EQUALS : Exa s s.heap w_PLUS_EQUALS "com/example/hoconut/hoconut/token/TokenKind" := Exa.start ev_PLUS_EQUALS nn14
  obtain ⟨w_OPEN_BRACKET, ev_OPEN_BRACKET⟩ := exa_v nn16
  have S_OPEN_BRACKET : Sta s s.heap "com/example/hoconut/hoconut/token/TokenKind" "OPEN_BRACKET" "Lcom/example/hoconut/hoconut/token/TokenKind;" (.ref w_OPEN_BRACKET) := Sta.start ev_OPEN_BRACKET (Or.inr ⟨(hw _ (List.mem_of_getElem? (i := 5) rfl)), (hw _ (List.mem_of_getElem? (i := 28) rfl))⟩)
  have E_OPEN_BRACKET : Exa s s.heap w_OPEN_BRACKET "com/example/hoconut/hoconut/token/TokenKind" := Exa.start ev_OPEN_BRACKET nn16
  obtain ⟨w_NEWLINE, ev_NEWLINE⟩ := exa_v nn18
  have S_NEWLINE : Sta s s.heap "com/example/hoconut/hoconut/token/TokenKind" "NEWLINE" "Lcom/example/hoconut/hoconut/token/TokenKind;" (.ref w_NEWLINE) := Sta.start ev_NEWLINE (Or.inr ⟨(hw _ (List.mem_of_getElem? (i := 5) rfl)), (hw _ (List.mem_of_getElem? (i := 31) rfl))⟩)
  have E_NEWLINE : Exa s s.heap w_NEWLINE "com/example/hoconut/hoconut/token/TokenKind" := Exa.start ev_NEWLINE nn18
  obtain ⟨w_CLOSE_BRACE, ev_CLOSE_BRACE⟩ := exa_v nn20
  have S_CLOSE_BRACE : Sta s s.heap "com/example/hoconut/hoconut/token/TokenKind" "CLOSE_BRACE" "Lcom/example/hoconut/hoconut/token/TokenKind;" (.ref w_CLOSE_BRACE) := Sta.start ev_CLOSE_BRACE (Or.inr ⟨(hw _ (List.mem_of_getElem? (i := 5) rfl)), (hw _ (List.mem_of_getElem? (i := 33) rfl))⟩)
  have E_CLOSE_BRACE : Exa s s.heap w_CLOSE_BRACE "com/example/hoconut/hoconut/token/TokenKind" := Exa.start ev_CLOSE_BRACE nn20
  obtain ⟨w_COMMA, ev_COMMA⟩ := exa_v nn22
  have S_COMMA : Sta s s.heap "com/example/hoconut/hoconut/token/TokenKind" "COMMA" "Lcom/example/hoconut/hoconut/token/TokenKind;" (.ref w_COMMA) := Sta.start ev_COMMA (Or.inr ⟨(hw _ (List.mem_of_getElem? (i := 5) rfl)), (hw _ (List.mem_of_getElem? (i := 35) rfl))⟩)
  have E_COMMA : Exa s s.heap w_COMMA "com/example/hoconut/hoconut/token/TokenKind" := Exa.start ev_COMMA nn22
  obtain ⟨w_SUBSTITUTION, ev_SUBSTITUTION⟩ := exa_v nn24
  have S_SUBSTITUTION : Sta s s.heap "com/example/hoconut/hoconut/token/TokenKind" "SUBSTITUTION" "Lcom/example/hoconut/hoconut/token/TokenKind;" (.ref w_SUBSTITUTION) := Sta.start ev_SUBSTITUTION (Or.inr ⟨(hw _ (List.mem_of_getElem? (i := 5) rfl)), (hw _ (List.mem_of_getElem? (i := 37) rfl))⟩)
  have E_SUBSTITUTION : Exa s s.heap w_SUBSTITUTION "com/example/hoconut/hoconut/token/TokenKind" := Exa.start ev_SUBSTITUTION nn24
  obtain ⟨w_OPTIONAL_SUBSTITUTION, ev_OPTIONAL_SUBSTITUTION⟩ := exa_v nn26
  have S_OPTIONAL_SUBSTITUTION : Sta s s.heap "com/example/hoconut/hoconut/token/TokenKind" "OPTIONAL_SUBSTITUTION" "Lcom/example/hoconut/hoconut/token/TokenKind;" (.ref w_OPTIONAL_SUBSTITUTION) := Sta.start ev_OPTIONAL_SUBSTITUTION (Or.inr ⟨(hw _ (List.mem_of_getElem? (i := 5) rfl)), (hw _ (List.mem_of_getElem? (i := 39) rfl))⟩)
  have E_OPTIONAL_SUBSTITUTION : Exa s s.heap w_OPTIONAL_SUBSTITUTION "com/example/hoconut/hoconut/token/TokenKind" := Exa.start ev_OPTIONAL_SUBSTITUTION nn26
  obtain ⟨w_EQUALS, ev_EQUALS⟩ := exa_v nn28
  have S_EQUALS : Sta s s.heap "com/example/hoconut/hoconut/token/TokenKind" "EQUALS" "Lcom/example/hoconut/hoconut/token/TokenKind;" (.ref w_EQUALS) := Sta.start ev_EQUALS (Or.inr ⟨(hw _ (List.mem_of_getElem? (i := 5) rfl)), (hw _ (List.mem_of_getElem? (i := 41) rfl))⟩)
  have E_EQUALS : Exa s s.heap w_EQUALS "com/example/hoconut/hoconut/token/TokenKind" := Exa.start ev_EQUALS nn28
  obtain ⟨w_COLON, ev_COLON⟩ := exa_v nn30
  have S_COLON : Sta s s.heap "com/example/hoconut/hoconut/token/TokenKind" "COLON" "Lcom/example/hoconut/hoconut/token/TokenKind;" (.ref w_COLON) := Sta.start ev_COLON (Or.inr ⟨(hw _ (List.mem_of_getElem? (i := 5) rfl)), (hw _ (List.mem_of_getElem? (i := 44) rfl))⟩)
  have E_COLON : Exa s s.heap w_COLON "com/example/hoconut/hoconut/token/TokenKind" := Exa.start ev_COLON nn30
  have O_OPEN_BRACE : Fld s s.heap w_OPEN_BRACE "java/lang/Enum" "ordinal" "I" (.int (0 : Int32)) := Fld.start ((fld_at ev_OPEN_BRACE).symm.trans (own_eqi nn2))
  have O_UNQUOTED : Fld s s.heap w_UNQUOTED "java/lang/Enum" "ordinal" "I" (.int (9 : Int32)) := Fld.start ((fld_at ev_UNQUOTED).symm.trans (own_eqi nn3))
  have O_QUOTED : Fld s s.heap w_QUOTED "java/lang/Enum" "ordinal" "I" (.int (10 : Int32)) := Fld.start ((fld_at ev_QUOTED).symm.trans (own_eqi nn5))
  have O_NUMBER : Fld s s.heap w_NUMBER "java/lang/Enum" "ordinal" "I" (.int (11 : Int32)) := Fld.start ((fld_at ev_NUMBER).symm.trans (own_eqi nn7))
  have O_CLOSE_BRACKET : Fld s s.heap w_CLOSE_BRACKET "java/lang/Enum" "ordinal" "I" (.int (3 : Int32)) := Fld.start ((fld_at ev_CLOSE_BRACKET).symm.trans (own_eqi nn9))
  have O_COMMENT : Fld s s.heap w_COMMENT "java/lang/Enum" "ordinal" "I" (.int (14 : Int32)) := Fld.start ((fld_at ev_COMMENT).symm.trans (own_eqi nn11))
  have O_END : Fld s s.heap w_END "java/lang/Enum" "ordinal" "I" (.int (15 : Int32)) := Fld.start ((fld_at ev_END).symm.trans (own_eqi nn13))
  have O_PLUS_EQUALS : Fld s s.heap w_PLUS_EQUALS "java/lang/Enum" "ordinal" "I" (.int (7 : Int32)) := Fld.start ((fld_at ev_PLUS_EQUALS).symm.trans (own_eqi nn15))
  have O_OPEN_BRACKET : Fld s s.heap w_OPEN_BRACKET "java/lang/Enum" "ordinal" "I" (.int (2 : Int32)) := Fld.start ((fld_at ev_OPEN_BRACKET).symm.trans (own_eqi nn17))
  have O_NEWLINE : Fld s s.heap w_NEWLINE "java/lang/Enum" "ordinal" "I" (.int (8 : Int32)) := Fld.start ((fld_at ev_NEWLINE).symm.trans (own_eqi nn19))
  have O_CLOSE_BRACE : Fld s s.heap w_CLOSE_BRACE "java/lang/Enum" "ordinal" "I" (.int (1 : Int32)) := Fld.start ((fld_at ev_CLOSE_BRACE).symm.trans (own_eqi nn21))
  have O_COMMA : Fld s s.heap w_COMMA "java/lang/Enum" "ordinal" "I" (.int (4 : Int32)) := Fld.start ((fld_at ev_COMMA).symm.trans (own_eqi nn23))
  have O_SUBSTITUTION : Fld s s.heap w_SUBSTITUTION "java/lang/Enum" "ordinal" "I" (.int (12 : Int32)) := Fld.start ((fld_at ev_SUBSTITUTION).symm.trans (own_eqi nn25))
  have O_OPTIONAL_SUBSTITUTION : Fld s s.heap w_OPTIONAL_SUBSTITUTION "java/lang/Enum" "ordinal" "I" (.int (13 : Int32)) := Fld.start ((fld_at ev_OPTIONAL_SUBSTITUTION).symm.trans (own_eqi nn27))
  have O_EQUALS : Fld s s.heap w_EQUALS "java/lang/Enum" "ordinal" "I" (.int (6 : Int32)) := Fld.start ((fld_at ev_EQUALS).symm.trans (own_eqi nn29))
  have O_COLON : Fld s s.heap w_COLON "java/lang/Enum" "ordinal" "I" (.int (5 : Int32)) := Fld.start ((fld_at ev_COLON).symm.trans (own_eqi nr30))
  have n_OPEN_BRACE_UNQUOTED : w_OPEN_BRACE ≠ w_UNQUOTED := Fld.ne O_OPEN_BRACE O_UNQUOTED (by decide)
  have n_OPEN_BRACE_QUOTED : w_OPEN_BRACE ≠ w_QUOTED := Fld.ne O_OPEN_BRACE O_QUOTED (by decide)
  have n_OPEN_BRACE_NUMBER : w_OPEN_BRACE ≠ w_NUMBER := Fld.ne O_OPEN_BRACE O_NUMBER (by decide)
  have n_CLOSE_BRACE_UNQUOTED : w_CLOSE_BRACE ≠ w_UNQUOTED := Fld.ne O_CLOSE_BRACE O_UNQUOTED (by decide)
  have n_CLOSE_BRACE_QUOTED : w_CLOSE_BRACE ≠ w_QUOTED := Fld.ne O_CLOSE_BRACE O_QUOTED (by decide)
  have n_CLOSE_BRACE_NUMBER : w_CLOSE_BRACE ≠ w_NUMBER := Fld.ne O_CLOSE_BRACE O_NUMBER (by decide)
  have n_OPEN_BRACKET_UNQUOTED : w_OPEN_BRACKET ≠ w_UNQUOTED := Fld.ne O_OPEN_BRACKET O_UNQUOTED (by decide)
  have n_OPEN_BRACKET_QUOTED : w_OPEN_BRACKET ≠ w_QUOTED := Fld.ne O_OPEN_BRACKET O_QUOTED (by decide)
  have n_OPEN_BRACKET_NUMBER : w_OPEN_BRACKET ≠ w_NUMBER := Fld.ne O_OPEN_BRACKET O_NUMBER (by decide)
  have n_CLOSE_BRACKET_UNQUOTED : w_CLOSE_BRACKET ≠ w_UNQUOTED := Fld.ne O_CLOSE_BRACKET O_UNQUOTED (by decide)
  have n_CLOSE_BRACKET_QUOTED : w_CLOSE_BRACKET ≠ w_QUOTED := Fld.ne O_CLOSE_BRACKET O_QUOTED (by decide)
  have n_CLOSE_BRACKET_NUMBER : w_CLOSE_BRACKET ≠ w_NUMBER := Fld.ne O_CLOSE_BRACKET O_NUMBER (by decide)
  have n_COMMA_UNQUOTED : w_COMMA ≠ w_UNQUOTED := Fld.ne O_COMMA O_UNQUOTED (by decide)
  have n_COMMA_QUOTED : w_COMMA ≠ w_QUOTED := Fld.ne O_COMMA O_QUOTED (by decide)
  have n_COMMA_NUMBER : w_COMMA ≠ w_NUMBER := Fld.ne O_COMMA O_NUMBER (by decide)
  have n_COLON_UNQUOTED : w_COLON ≠ w_UNQUOTED := Fld.ne O_COLON O_UNQUOTED (by decide)
  have n_COLON_QUOTED : w_COLON ≠ w_QUOTED := Fld.ne O_COLON O_QUOTED (by decide)
  have n_COLON_NUMBER : w_COLON ≠ w_NUMBER := Fld.ne O_COLON O_NUMBER (by decide)
  have n_EQUALS_UNQUOTED : w_EQUALS ≠ w_UNQUOTED := Fld.ne O_EQUALS O_UNQUOTED (by decide)
  have n_EQUALS_QUOTED : w_EQUALS ≠ w_QUOTED := Fld.ne O_EQUALS O_QUOTED (by decide)
  have n_EQUALS_NUMBER : w_EQUALS ≠ w_NUMBER := Fld.ne O_EQUALS O_NUMBER (by decide)
  have n_PLUS_EQUALS_UNQUOTED : w_PLUS_EQUALS ≠ w_UNQUOTED := Fld.ne O_PLUS_EQUALS O_UNQUOTED (by decide)
  have n_PLUS_EQUALS_QUOTED : w_PLUS_EQUALS ≠ w_QUOTED := Fld.ne O_PLUS_EQUALS O_QUOTED (by decide)
  have n_PLUS_EQUALS_NUMBER : w_PLUS_EQUALS ≠ w_NUMBER := Fld.ne O_PLUS_EQUALS O_NUMBER (by decide)
  have n_NEWLINE_UNQUOTED : w_NEWLINE ≠ w_UNQUOTED := Fld.ne O_NEWLINE O_UNQUOTED (by decide)
  have n_NEWLINE_QUOTED : w_NEWLINE ≠ w_QUOTED := Fld.ne O_NEWLINE O_QUOTED (by decide)
  have n_NEWLINE_NUMBER : w_NEWLINE ≠ w_NUMBER := Fld.ne O_NEWLINE O_NUMBER (by decide)
  have n_UNQUOTED_QUOTED : w_UNQUOTED ≠ w_QUOTED := Fld.ne O_UNQUOTED O_QUOTED (by decide)
  have n_UNQUOTED_NUMBER : w_UNQUOTED ≠ w_NUMBER := Fld.ne O_UNQUOTED O_NUMBER (by decide)
  have n_UNQUOTED_SUBSTITUTION : w_UNQUOTED ≠ w_SUBSTITUTION := Fld.ne O_UNQUOTED O_SUBSTITUTION (by decide)
  have n_UNQUOTED_OPTIONAL_SUBSTITUTION : w_UNQUOTED ≠ w_OPTIONAL_SUBSTITUTION := Fld.ne O_UNQUOTED O_OPTIONAL_SUBSTITUTION (by decide)
  have n_UNQUOTED_COMMENT : w_UNQUOTED ≠ w_COMMENT := Fld.ne O_UNQUOTED O_COMMENT (by decide)
  have n_UNQUOTED_END : w_UNQUOTED ≠ w_END := Fld.ne O_UNQUOTED O_END (by decide)
  have n_QUOTED_NUMBER : w_QUOTED ≠ w_NUMBER := Fld.ne O_QUOTED O_NUMBER (by decide)
  have n_QUOTED_SUBSTITUTION : w_QUOTED ≠ w_SUBSTITUTION := Fld.ne O_QUOTED O_SUBSTITUTION (by decide)
  have n_QUOTED_OPTIONAL_SUBSTITUTION : w_QUOTED ≠ w_OPTIONAL_SUBSTITUTION := Fld.ne O_QUOTED O_OPTIONAL_SUBSTITUTION (by decide)
  have n_QUOTED_COMMENT : w_QUOTED ≠ w_COMMENT := Fld.ne O_QUOTED O_COMMENT (by decide)
  have n_QUOTED_END : w_QUOTED ≠ w_END := Fld.ne O_QUOTED O_END (by decide)
  have n_NUMBER_SUBSTITUTION : w_NUMBER ≠ w_SUBSTITUTION := Fld.ne O_NUMBER O_SUBSTITUTION (by decide)
  have n_NUMBER_OPTIONAL_SUBSTITUTION : w_NUMBER ≠ w_OPTIONAL_SUBSTITUTION := Fld.ne O_NUMBER O_OPTIONAL_SUBSTITUTION (by decide)
  have n_NUMBER_COMMENT : w_NUMBER ≠ w_COMMENT := Fld.ne O_NUMBER O_COMMENT (by decide)
  have n_NUMBER_END : w_NUMBER ≠ w_END := Fld.ne O_NUMBER O_END (by decide)
  have hone : f0 i0 w_OPEN_BRACE w_CLOSE_BRACE w_OPEN_BRACKET w_CLOSE_BRACKET w_COMMA w_COLON w_EQUALS w_PLUS_EQUALS w_NEWLINE w_UNQUOTED w_QUOTED w_NUMBER w_SUBSTITUTION w_OPTIONAL_SUBSTITUTION w_COMMENT w_END = 1 := own_law i0 w_OPEN_BRACE w_CLOSE_BRACE w_OPEN_BRACKET w_CLOSE_BRACKET w_COMMA w_COLON w_EQUALS w_PLUS_EQUALS w_NEWLINE w_UNQUOTED w_QUOTED w_NUMBER w_SUBSTITUTION w_OPTIONAL_SUBSTITUTION w_COMMENT w_END n_OPEN_BRACE_UNQUOTED n_OPEN_BRACE_QUOTED n_OPEN_BRACE_NUMBER n_CLOSE_BRACE_UNQUOTED n_CLOSE_BRACE_QUOTED n_CLOSE_BRACE_NUMBER n_OPEN_BRACKET_UNQUOTED n_OPEN_BRACKET_QUOTED n_OPEN_BRACKET_NUMBER n_CLOSE_BRACKET_UNQUOTED n_CLOSE_BRACKET_QUOTED n_CLOSE_BRACKET_NUMBER n_COMMA_UNQUOTED n_COMMA_QUOTED n_COMMA_NUMBER n_COLON_UNQUOTED n_COLON_QUOTED n_COLON_NUMBER n_EQUALS_UNQUOTED n_EQUALS_QUOTED n_EQUALS_NUMBER n_PLUS_EQUALS_UNQUOTED n_PLUS_EQUALS_QUOTED n_PLUS_EQUALS_NUMBER n_NEWLINE_UNQUOTED n_NEWLINE_QUOTED n_NEWLINE_NUMBER n_UNQUOTED_QUOTED n_UNQUOTED_NUMBER n_UNQUOTED_SUBSTITUTION n_UNQUOTED_OPTIONAL_SUBSTITUTION n_UNQUOTED_COMMENT n_UNQUOTED_END n_QUOTED_NUMBER n_QUOTED_SUBSTITUTION n_QUOTED_OPTIONAL_SUBSTITUTION n_QUOTED_COMMENT n_QUOTED_END n_NUMBER_SUBSTITUTION n_NUMBER_OPTIONAL_SUBSTITUTION n_NUMBER_COMMENT n_NUMBER_END
  obtain ⟨n, o, h1, h2, h3, _, L, rfl, ⟨rfl, N, -⟩, hq⟩ := rm0 l s _ hw tables_1 i0 w_OPEN_BRACE w_CLOSE_BRACE w_OPEN_BRACKET w_CLOSE_BRACKET w_COMMA w_COLON w_EQUALS w_PLUS_EQUALS w_NEWLINE w_UNQUOTED w_QUOTED w_NUMBER w_SUBSTITUTION w_OPTIONAL_SUBSTITUTION w_COMMENT w_END s.heap s.heap.size (Nat.le_refl _) S_OPEN_BRACE E_OPEN_BRACE S_CLOSE_BRACE E_CLOSE_BRACE S_OPEN_BRACKET E_OPEN_BRACKET S_CLOSE_BRACKET E_CLOSE_BRACKET S_COMMA E_COMMA S_COLON E_COLON S_EQUALS E_EQUALS S_PLUS_EQUALS E_PLUS_EQUALS S_NEWLINE E_NEWLINE S_UNQUOTED E_UNQUOTED S_QUOTED E_QUOTED S_NUMBER E_NUMBER S_SUBSTITUTION E_SUBSTITUTION S_OPTIONAL_SUBSTITUTION E_OPTIONAL_SUBSTITUTION S_COMMENT E_COMMENT S_END E_END p e ha hc hk s m _ below hf ((Spec.applies_iff_loose hf).mp happ).1 ⟨rfl, State.Warmed39.refl s, rfl⟩ trivial
  rw [hone] at h3 hq
  refine ⟨n, _, h1, h2, h3, hpost _ _ _ _ _ _ ⟨Cond.after_iff.mpr rfl, Cond.after_iff.mpr (eq_i res_at (Term.int_eval (1)) rfl), trivial⟩ ⟨hq.1, hq.2.1, (hq.2.2.sift fun y hy => Or.inr (N y hy)).mono (by decide) (by decide)⟩⟩
theorem main_1_1 : Claimed_1_1 := comes_1 fun _ _ _ _ _ _ h hF => ⟨h.1, hF⟩
theorem main_1_2 : Claimed_1_2 := comes_1 fun _ _ _ _ _ _ h hF => ⟨h.2.1, hF⟩
end Jvm.Pilot.@@N@@
namespace Jvm.Pilot.@@N@@
open Jvm Jvm.ClassFile Sem Op Lib Jvm.Free Jvm.Stand Jvm.Pilot.@@N@@.Jvm.D
/-! MADE BY PROGRAM (witnessworld.py) out of the Statement's table words and the real class files: 12 classes; the members and pool entries that the words name. The judged class is class 1, her method 2. -/
namespace start1
open Jvm.ClassFile
def u (s : String) : CpInfo := .utf8 (stringToUtf16 s)
/-- a pool by its gaps: so many unusable entries, then the entry; so many at the end -/
def gap : Nat → List CpInfo → List CpInfo
  | 0, r => r
  | n + 1, r => .unusable :: gap n r
def poolList (es : List (Nat × CpInfo)) (last : Nat) : List CpInfo := es.foldr (fun e r => gap e.1 (e.2 :: r)) (gap last [])
def pool (es : List (Nat × CpInfo)) (last : Nat) : Array CpInfo := ⟨poolList es last⟩
def fileOf (pool : Array CpInfo) (this : Nat) (attrs : Array Attribute := #[]) (ms : Array MethodInfo := #[]) (fl : Nat := 33) (sup : Nat := 0) (ifs : Array Nat := #[]) (fds : Array FieldInfo := #[]) : ClassFile where
  minorVersion := 0
  majorVersion := 65
  constantPool := pool
  accessFlags := fl
  thisClass := this
  superClass := sup
  interfaces := ifs
  fields := fds
  methods := ms
  attributes := attrs
def plain (name : String) (sup : Option ClassId) : Class where
  name := name
  kind := .ordinary
  loader := none
  accessFlags := 33
  super := sup
  interfaces := #[]
  cf := none
  fields := #[]
  methods := #[]
  instanceTypes := #[]
  staticTypes := #[]
  resolved := #[]
  callSites := []
  init := .initialized
  statics := none
  mirror := none

def pool0 : Array CpInfo := pool [(5, u "<init>"), (0, u "()V"), (1, .class_ 10), (1, u "java/lang/Object")] 113

def k0m0 : Method := { name := "<init>", desc := "()V", sig := { parameters := [], returnType := none }, accessFlags := 1, code := none }
/-- java/lang/Object -/
def k0 : Class := { plain "java/lang/Object" none with
  accessFlags := 33
  interfaces := #[]
  cf := some (fileOf pool0 8 #[] #[{ accessFlags := 1, nameIndex := 5, descriptorIndex := 6, attributes := #[] }] 33 0 #[] #[])
  fields := #[]
  methods := #[k0m0]
  instanceTypes := #[]
  staticTypes := #[]
  resolved := Array.replicate 124 none
  statics := none }

def pool1 : Array CpInfo := pool [(2, .class_ 4), (1, u "java/lang/Object"), (0, u "<init>"), (0, u "()V"), (0, .fieldref 8 9), (0, .class_ 10), (0, .nameAndType 11 12), (0, u "com/example/hoconut/hoconut/token/TokenKind"), (0, u "OPEN_BRACE"), (0, u "Lcom/example/hoconut/hoconut/token/TokenKind;"), (0, .fieldref 8 14), (0, .nameAndType 15 12), (0, u "CLOSE_BRACE"), (0, .fieldref 8 17), (0, .nameAndType 18 12), (0, u "OPEN_BRACKET"), (0, .fieldref 8 20), (0, .nameAndType 21 12), (0, u "CLOSE_BRACKET"), (0, .fieldref 8 23), (0, .nameAndType 24 12), (0, u "COMMA"), (0, .fieldref 8 26), (0, .nameAndType 27 12), (0, u "COLON"), (0, .fieldref 8 29), (0, .nameAndType 30 12), (0, u "EQUALS"), (0, .fieldref 8 32), (0, .nameAndType 33 12), (0, u "PLUS_EQUALS"), (0, .fieldref 8 35), (0, .nameAndType 36 12), (0, u "NEWLINE"), (0, .fieldref 8 38), (0, .nameAndType 39 12), (0, u "UNQUOTED"), (0, .fieldref 8 41), (0, .nameAndType 42 12), (0, u "QUOTED"), (0, .fieldref 8 44), (0, .nameAndType 45 12), (0, u "NUMBER"), (0, .fieldref 8 47), (0, .nameAndType 48 12), (0, u "SUBSTITUTION"), (0, .fieldref 8 50), (0, .nameAndType 51 12), (0, u "OPTIONAL_SUBSTITUTION"), (0, .fieldref 8 53), (0, .nameAndType 54 12), (0, u "COMMENT"), (0, .fieldref 8 56), (0, .nameAndType 57 12), (0, u "END"), (0, .methodref 59 60), (0, .class_ 61), (0, .nameAndType 62 63), (0, u "com/example/hoconut/hoconut/token/TokenKindIsTextPinLaw"), (0, u "kind"), (0, u "(I)Lcom/example/hoconut/hoconut/token/TokenKind;"), (0, .methodref 8 65), (0, .nameAndType 66 67), (0, u "isText"), (0, u "()Z"), (3, u "law"), (0, u "(I)Z")] 2

def k1m0 : Method := { name := "<init>", desc := "()V", sig := { parameters := [], returnType := none }, accessFlags := 2, code := none }
def k1c1 : Code := { maxStack := 2, maxLocals := 1, code := method_2_code, exceptionTable := #[], attributes := #[] }
def k1m1 : Method := { name := "kind", desc := "(I)Lcom/example/hoconut/hoconut/token/TokenKind;", sig := { parameters := [.int], returnType := some (.object "com/example/hoconut/hoconut/token/TokenKind") }, accessFlags := 10, code := some k1c1 }
def k1c2 : Code := { maxStack := 2, maxLocals := 4, code := code, exceptionTable := #[], attributes := #[] }
def k1m2 : Method := { name := "law", desc := "(I)Z", sig := { parameters := [.int], returnType := some .boolean }, accessFlags := 9, code := some k1c2 }
/-- com/example/hoconut/hoconut/token/TokenKindIsTextPinLaw -/
def k1 : Class := { plain "com/example/hoconut/hoconut/token/TokenKindIsTextPinLaw" (some 0) with
  accessFlags := 49
  interfaces := #[]
  cf := some (fileOf pool1 59 #[] #[{ accessFlags := 2, nameIndex := 5, descriptorIndex := 6, attributes := #[] }, { accessFlags := 10, nameIndex := 62, descriptorIndex := 63, attributes := #[] }, { accessFlags := 9, nameIndex := 71, descriptorIndex := 72, attributes := #[] }] 49 2 #[] #[])
  fields := #[]
  methods := #[k1m0, k1m1, k1m2]
  instanceTypes := #[]
  staticTypes := #[]
  resolved := Array.replicate 75 none
  statics := none }

def pool2 : Array CpInfo := pool [(1, .class_ 2), (0, u "java/lang/constant/Constable"), (0, .class_ 4), (0, u "java/lang/Object")] 6

/-- java/lang/constant/Constable -/
def k2 : Class := { plain "java/lang/constant/Constable" (some 0) with
  accessFlags := 1537
  interfaces := #[]
  cf := some (fileOf pool2 1 #[] #[] 1537 3 #[] #[])
  fields := #[]
  methods := #[]
  instanceTypes := #[]
  staticTypes := #[]
  resolved := Array.replicate 11 none
  statics := none }

def pool3 : Array CpInfo := pool [(1, .class_ 2), (0, u "java/lang/Comparable"), (0, .class_ 4), (0, u "java/lang/Object")] 7

/-- java/lang/Comparable -/
def k3 : Class := { plain "java/lang/Comparable" (some 0) with
  accessFlags := 1537
  interfaces := #[]
  cf := some (fileOf pool3 1 #[] #[] 1537 3 #[] #[])
  fields := #[]
  methods := #[]
  instanceTypes := #[]
  staticTypes := #[]
  resolved := Array.replicate 12 none
  statics := none }

def pool4 : Array CpInfo := pool [(1, .class_ 2), (0, u "java/io/Serializable"), (0, .class_ 4), (0, u "java/lang/Object")] 2

/-- java/io/Serializable -/
def k4 : Class := { plain "java/io/Serializable" (some 0) with
  accessFlags := 1537
  interfaces := #[]
  cf := some (fileOf pool4 1 #[] #[] 1537 3 #[] #[])
  fields := #[]
  methods := #[]
  instanceTypes := #[]
  staticTypes := #[]
  resolved := Array.replicate 7 none
  statics := none }

def pool5 : Array CpInfo := pool [(2, .class_ 4), (1, u "java/lang/Enum"), (0, u "name"), (0, u "Ljava/lang/String;"), (2, u "ordinal"), (0, u "I"), (1, .class_ 14), (1, u "java/lang/Object"), (4, u "hash"), (86, .class_ 108), (1, u "java/lang/Enum$EnumDesc"), (2, .class_ 112), (0, u "java/lang/constant/Constable"), (0, .class_ 114), (0, u "java/lang/Comparable"), (0, .class_ 116), (0, u "java/io/Serializable")] 87

/-- java/lang/Enum -/
def k5 : Class := { plain "java/lang/Enum" (some 0) with
  accessFlags := 1057
  interfaces := #[2, 3, 4]
  cf := some (fileOf pool5 2 #[.nestMembers #[106]] #[] 1057 12 #[111, 113, 115] #[{ accessFlags := 18, nameIndex := 5, descriptorIndex := 6, attributes := #[] }, { accessFlags := 18, nameIndex := 9, descriptorIndex := 10, attributes := #[] }, { accessFlags := 2, nameIndex := 19, descriptorIndex := 10, attributes := #[] }])
  fields := #[{ name := "name", type := (.object "java/lang/String"), accessFlags := 18, slot := 0, constantValue := 0 }, { name := "ordinal", type := .int, accessFlags := 18, slot := 1, constantValue := 0 }, { name := "hash", type := .int, accessFlags := 2, slot := 2, constantValue := 0 }]
  methods := #[]
  instanceTypes := #[(.object "java/lang/String"), .int, .int]
  staticTypes := #[]
  resolved := Array.replicate 204 none
  statics := none }

def pool6 : Array CpInfo := pool [(1, .class_ 2), (0, u "com/example/hoconut/hoconut/token/TokenKind"), (2, u "OPEN_BRACE"), (0, u "Lcom/example/hoconut/hoconut/token/TokenKind;"), (2, u "CLOSE_BRACE"), (2, u "OPEN_BRACKET"), (2, u "CLOSE_BRACKET"), (2, u "COMMA"), (2, u "COLON"), (2, u "EQUALS"), (2, u "PLUS_EQUALS"), (2, u "NEWLINE"), (0, .fieldref 1 32), (0, .nameAndType 33 6), (0, u "UNQUOTED"), (0, .fieldref 1 35), (0, .nameAndType 36 6), (0, u "QUOTED"), (0, .fieldref 1 38), (0, .nameAndType 39 6), (0, u "NUMBER"), (2, u "SUBSTITUTION"), (2, u "OPTIONAL_SUBSTITUTION"), (2, u "COMMENT"), (2, u "END"), (2, u "$VALUES"), (0, u "[Lcom/example/hoconut/hoconut/token/TokenKind;"), (6, .class_ 64), (1, u "java/lang/Enum"), (8, u "description"), (0, u "Ljava/lang/String;"), (2, u "isText"), (0, u "()Z")] 71

def k6c0 : Code := { maxStack := 2, maxLocals := 1, code := prog_58_method_5_code, exceptionTable := #[], attributes := #[] }
def k6m0 : Method := { name := "isText", desc := "()Z", sig := { parameters := [], returnType := some .boolean }, accessFlags := 1, code := some k6c0 }
/-- com/example/hoconut/hoconut/token/TokenKind -/
def k6 : Class := { plain "com/example/hoconut/hoconut/token/TokenKind" (some 5) with
  accessFlags := 16433
  interfaces := #[]
  cf := some (fileOf pool6 1 #[] #[{ accessFlags := 1, nameIndex := 77, descriptorIndex := 78, attributes := #[] }] 16433 62 #[] #[{ accessFlags := 16409, nameIndex := 5, descriptorIndex := 6, attributes := #[] }, { accessFlags := 16409, nameIndex := 9, descriptorIndex := 6, attributes := #[] }, { accessFlags := 16409, nameIndex := 12, descriptorIndex := 6, attributes := #[] }, { accessFlags := 16409, nameIndex := 15, descriptorIndex := 6, attributes := #[] }, { accessFlags := 16409, nameIndex := 18, descriptorIndex := 6, attributes := #[] }, { accessFlags := 16409, nameIndex := 21, descriptorIndex := 6, attributes := #[] }, { accessFlags := 16409, nameIndex := 24, descriptorIndex := 6, attributes := #[] }, { accessFlags := 16409, nameIndex := 27, descriptorIndex := 6, attributes := #[] }, { accessFlags := 16409, nameIndex := 30, descriptorIndex := 6, attributes := #[] }, { accessFlags := 16409, nameIndex := 33, descriptorIndex := 6, attributes := #[] }, { accessFlags := 16409, nameIndex := 36, descriptorIndex := 6, attributes := #[] }, { accessFlags := 16409, nameIndex := 39, descriptorIndex := 6, attributes := #[] }, { accessFlags := 16409, nameIndex := 42, descriptorIndex := 6, attributes := #[] }, { accessFlags := 16409, nameIndex := 45, descriptorIndex := 6, attributes := #[] }, { accessFlags := 16409, nameIndex := 48, descriptorIndex := 6, attributes := #[] }, { accessFlags := 16409, nameIndex := 51, descriptorIndex := 6, attributes := #[] }, { accessFlags := 18, nameIndex := 73, descriptorIndex := 74, attributes := #[] }, { accessFlags := 4122, nameIndex := 54, descriptorIndex := 55, attributes := #[] }])
  fields := #[{ name := "OPEN_BRACE", type := (.object "com/example/hoconut/hoconut/token/TokenKind"), accessFlags := 16409, slot := 0, constantValue := 0 }, { name := "CLOSE_BRACE", type := (.object "com/example/hoconut/hoconut/token/TokenKind"), accessFlags := 16409, slot := 1, constantValue := 0 }, { name := "OPEN_BRACKET", type := (.object "com/example/hoconut/hoconut/token/TokenKind"), accessFlags := 16409, slot := 2, constantValue := 0 }, { name := "CLOSE_BRACKET", type := (.object "com/example/hoconut/hoconut/token/TokenKind"), accessFlags := 16409, slot := 3, constantValue := 0 }, { name := "COMMA", type := (.object "com/example/hoconut/hoconut/token/TokenKind"), accessFlags := 16409, slot := 4, constantValue := 0 }, { name := "COLON", type := (.object "com/example/hoconut/hoconut/token/TokenKind"), accessFlags := 16409, slot := 5, constantValue := 0 }, { name := "EQUALS", type := (.object "com/example/hoconut/hoconut/token/TokenKind"), accessFlags := 16409, slot := 6, constantValue := 0 }, { name := "PLUS_EQUALS", type := (.object "com/example/hoconut/hoconut/token/TokenKind"), accessFlags := 16409, slot := 7, constantValue := 0 }, { name := "NEWLINE", type := (.object "com/example/hoconut/hoconut/token/TokenKind"), accessFlags := 16409, slot := 8, constantValue := 0 }, { name := "UNQUOTED", type := (.object "com/example/hoconut/hoconut/token/TokenKind"), accessFlags := 16409, slot := 9, constantValue := 0 }, { name := "QUOTED", type := (.object "com/example/hoconut/hoconut/token/TokenKind"), accessFlags := 16409, slot := 10, constantValue := 0 }, { name := "NUMBER", type := (.object "com/example/hoconut/hoconut/token/TokenKind"), accessFlags := 16409, slot := 11, constantValue := 0 }, { name := "SUBSTITUTION", type := (.object "com/example/hoconut/hoconut/token/TokenKind"), accessFlags := 16409, slot := 12, constantValue := 0 }, { name := "OPTIONAL_SUBSTITUTION", type := (.object "com/example/hoconut/hoconut/token/TokenKind"), accessFlags := 16409, slot := 13, constantValue := 0 }, { name := "COMMENT", type := (.object "com/example/hoconut/hoconut/token/TokenKind"), accessFlags := 16409, slot := 14, constantValue := 0 }, { name := "END", type := (.object "com/example/hoconut/hoconut/token/TokenKind"), accessFlags := 16409, slot := 15, constantValue := 0 }, { name := "description", type := (.object "java/lang/String"), accessFlags := 18, slot := 3, constantValue := 0 }, { name := "$VALUES", type := (.array (.object "com/example/hoconut/hoconut/token/TokenKind")), accessFlags := 4122, slot := 16, constantValue := 0 }]
  methods := #[k6m0]
  instanceTypes := #[(.object "java/lang/String"), .int, .int, (.object "java/lang/String")]
  staticTypes := #[(.object "com/example/hoconut/hoconut/token/TokenKind"), (.object "com/example/hoconut/hoconut/token/TokenKind"), (.object "com/example/hoconut/hoconut/token/TokenKind"), (.object "com/example/hoconut/hoconut/token/TokenKind"), (.object "com/example/hoconut/hoconut/token/TokenKind"), (.object "com/example/hoconut/hoconut/token/TokenKind"), (.object "com/example/hoconut/hoconut/token/TokenKind"), (.object "com/example/hoconut/hoconut/token/TokenKind"), (.object "com/example/hoconut/hoconut/token/TokenKind"), (.object "com/example/hoconut/hoconut/token/TokenKind"), (.object "com/example/hoconut/hoconut/token/TokenKind"), (.object "com/example/hoconut/hoconut/token/TokenKind"), (.object "com/example/hoconut/hoconut/token/TokenKind"), (.object "com/example/hoconut/hoconut/token/TokenKind"), (.object "com/example/hoconut/hoconut/token/TokenKind"), (.object "com/example/hoconut/hoconut/token/TokenKind"), (.array (.object "com/example/hoconut/hoconut/token/TokenKind"))]
  resolved := Array.replicate 150 none
  statics := some 0 }

def pool7 : Array CpInfo := pool [(1, u "java/lang/Cloneable"), (0, .class_ 1), (0, u "java/lang/Object"), (0, .class_ 3)] 3

/-- java/lang/Cloneable -/
def k7 : Class := { plain "java/lang/Cloneable" (some 0) with
  accessFlags := 1537
  interfaces := #[]
  cf := some (fileOf pool7 2 #[] #[] 1537 4 #[] #[])
  fields := #[]
  methods := #[]
  instanceTypes := #[]
  staticTypes := #[]
  resolved := Array.replicate 8 none
  statics := none }

/-- the primitive byte -/
def k8 : Class := { plain "byte" none with kind := .primitive 'B', accessFlags := 0x411 }
/-- [B -/
def k9 : Class := { plain "[B" (some 0) with kind := .array 8 .byte, interfaces := #[7, 4], accessFlags := 1041 }

/-- the primitive int -/
def k10 : Class := { plain "int" none with kind := .primitive 'I', accessFlags := 0x411 }
/-- [I -/
def k11 : Class := { plain "[I" (some 0) with kind := .array 10 .int, interfaces := #[7, 4], accessFlags := 1041 }

def heap : Heap := #[{ cls := 6, slots := #[.ref 1, .ref 11, .ref 9, .ref 5, .ref 12, .ref 16, .ref 15, .ref 8, .ref 10, .ref 2, .ref 3, .ref 4, .ref 13, .ref 14, .ref 6, .ref 7, .null], vm := .statics 6 },
  { cls := 6, slots := #[.null, .int 0, .int 0, .null], vm := .none },
  { cls := 6, slots := #[.null, .int 9, .int 0, .null], vm := .none },
  { cls := 6, slots := #[.null, .int 10, .int 0, .null], vm := .none },
  { cls := 6, slots := #[.null, .int 11, .int 0, .null], vm := .none },
  { cls := 6, slots := #[.null, .int 3, .int 0, .null], vm := .none },
  { cls := 6, slots := #[.null, .int 14, .int 0, .null], vm := .none },
  { cls := 6, slots := #[.null, .int 15, .int 0, .null], vm := .none },
  { cls := 6, slots := #[.null, .int 7, .int 0, .null], vm := .none },
  { cls := 6, slots := #[.null, .int 2, .int 0, .null], vm := .none },
  { cls := 6, slots := #[.null, .int 8, .int 0, .null], vm := .none },
  { cls := 6, slots := #[.null, .int 1, .int 0, .null], vm := .none },
  { cls := 6, slots := #[.null, .int 4, .int 0, .null], vm := .none },
  { cls := 6, slots := #[.null, .int 12, .int 0, .null], vm := .none },
  { cls := 6, slots := #[.null, .int 13, .int 0, .null], vm := .none },
  { cls := 6, slots := #[.null, .int 6, .int 0, .null], vm := .none },
  { cls := 6, slots := #[.null, .int 5, .int 0, .null], vm := .none }]
def classes : Array Class := #[k0, k1, k2, k3, k4, k5, k6, k7, k8, k9, k10, k11]
def interned : List (Array UInt16 × Addr) := []
def slotsUsed : Nat := 81
def theMethod : MethodId := ⟨1, 2⟩
def args0 : Array Value := #[.int 5]
def aboutOver (below : List Frame) : State where
  vm := { classes := classes, interned := interned.toArray }
  heap := heap
  slotsUsed := slotsUsed
  threads := #[{ frames := .invoking theMethod args0 :: below }]
def below0 : List Frame := [.native { method := ⟨0, 0⟩, args := #[] }]
def about1 : State := aboutOver below0
def p0 : Program := .bare "" "" ""
def e0 : Env := launch0.env 0 0 0
theorem w_frames : about1.frames = Frame.invoking theMethod args0 :: below0 := rfl
set_option maxRecDepth 65536 in
theorem w_args : argsFit about1.vm theMethod args0 = true := by decide +kernel
set_option maxRecDepth 65536 in
theorem w_heap : heapFits about1 = true := by decide +kernel
set_option maxRecDepth 65536 in
theorem w_runnable : about1.curStatus? = some .runnable := by decide +kernel
set_option maxRecDepth 65536 in
theorem w_alone : about1.alone = true := by decide +kernel
set_option maxRecDepth 65536 in
theorem w_named : about1.methodNamed? x = some theMethod := by decide +kernel
set_option maxRecDepth 65536 in
theorem w_hears : about1.hears theMethod below0 = true := by decide +kernel
set_option maxRecDepth 65536 in
theorem w_ripe : about1.ripe theMethod args0 below0 = true := by decide +kernel
theorem w_running : about1.status = .running := rfl
set_option maxRecDepth 65536 in
theorem w_room : about1.hasRoom e0.platform room_1 = true :=
  launch0.hasRoom_least _ room_1 (by decide +kernel) (by decide +kernel) (by decide +kernel) (by decide +kernel) (by decide +kernel) (by decide +kernel)
theorem allAtoms_all (ts : List Jvm.Cond) (a : Array Jvm.Value) (st : Jvm.State) : (allAtoms ts).before a st = ts.all (fun c => c.before a st) := by
  induction ts with
  | nil => rfl
  | cons c t ih =>
    show (Jvm.Cond.and c (allAtoms t)).before a st = _
    rw [Jvm.Cond.before_and, ih, List.all_cons]
def words1 : List Jvm.Cond := Jvm.Cond.code x code maxLocals ret :: tables_1
/-- a 'code' word, met by the world's own term for the bytes: nothing is compared byte by byte -/
theorem code_word {y : MethodName} {bytes : ByteArray} {mx : Nat} {rt : Option FieldType} {a : Array Value} {s : State} {m : MethodId} {meth : Method} {c : Code} (h1 : s.methodNamed? y = some m) (h2 : s.vm.method? m = some meth) (h3 : meth.code = some c) (h4 : c.code = bytes)
    (h5 : (c.maxLocals == mx && c.exceptionTable.isEmpty && decide (c.maxStack ≤ mostOperands) && decide (meth.sig.returnType = rt) && !meth.locks && decide (parseMethodDescriptor y.desc = some meth.sig)) = true) : (Jvm.Cond.code y bytes mx rt).before a s = true := by
  simp only [Bool.and_eq_true, beq_iff_eq, Bool.not_eq_true', decide_eq_true_eq] at h5
  obtain ⟨⟨⟨⟨⟨g1, g2⟩, g3⟩, g4⟩, g5⟩, g6⟩ := h5
  simp [Cond.before, Cond.holds, Cond.value, h1, h2, h3, h4, g1, g2, g3, g4, g5, g6]
def isCode : Jvm.Cond → Bool
  | .code _ _ _ _ => true
  | _ => false
theorem all_split {L : List Jvm.Cond} {P : Jvm.Cond → Bool} (h1 : L.all (fun c => isCode c || P c) = true) (h2 : ∀ c ∈ L.filter isCode, P c = true) : L.all P = true := by
  refine List.all_eq_true.mpr fun c hc => ?_
  have h := List.all_eq_true.mp h1 c hc
  rcases Bool.eq_false_or_eq_true (isCode c) with hi | hi
  · exact h2 c (List.mem_filter.mpr ⟨hc, hi⟩)
  · simpa [hi] using h
set_option maxRecDepth 65536 in
theorem w_c0 : (Jvm.Cond.code x code maxLocals ret).before args0 about1 = true := code_word (m := ⟨1, 2⟩) (meth := k1m2) (c := k1c2) (by decide +kernel) rfl rfl rfl (by decide +kernel)
set_option maxRecDepth 65536 in
theorem w_c1 : (Jvm.Cond.code ({ cls := "com/example/hoconut/hoconut/token/TokenKindIsTextPinLaw", name := "kind", desc := "(I)Lcom/example/hoconut/hoconut/token/TokenKind;" } : Jvm.MethodName) method_2_code (1 : Nat) (Option.some (Jvm.ClassFile.FieldType.object "com/example/hoconut/hoconut/token/TokenKind"))).before args0 about1 = true := code_word (m := ⟨1, 1⟩) (meth := k1m1) (c := k1c1) (by decide +kernel) rfl rfl rfl (by decide +kernel)
set_option maxRecDepth 65536 in
theorem w_c2 : (Jvm.Cond.code ({ cls := "com/example/hoconut/hoconut/token/TokenKind", name := "isText", desc := "()Z" } : Jvm.MethodName) prog_58_method_5_code (1 : Nat) (Option.some Jvm.ClassFile.FieldType.boolean)).before args0 about1 = true := code_word (m := ⟨6, 0⟩) (meth := k6m0) (c := k6c0) (by decide +kernel) rfl rfl rfl (by decide +kernel)
def codes1 : List Jvm.Cond := [Jvm.Cond.code x code maxLocals ret, Jvm.Cond.code ({ cls := "com/example/hoconut/hoconut/token/TokenKindIsTextPinLaw", name := "kind", desc := "(I)Lcom/example/hoconut/hoconut/token/TokenKind;" } : Jvm.MethodName) method_2_code (1 : Nat) (Option.some (Jvm.ClassFile.FieldType.object "com/example/hoconut/hoconut/token/TokenKind")), Jvm.Cond.code ({ cls := "com/example/hoconut/hoconut/token/TokenKind", name := "isText", desc := "()Z" } : Jvm.MethodName) prog_58_method_5_code (1 : Nat) (Option.some Jvm.ClassFile.FieldType.boolean)]
set_option maxRecDepth 65536 in
theorem codes_eq : words1.filter isCode = codes1 := rfl
theorem w_codes : ∀ c ∈ words1.filter isCode, c.before args0 about1 = true := by
  rw [codes_eq]
  intro c hc
  simp only [codes1, List.mem_cons, List.not_mem_nil, or_false] at hc
  rcases hc with rfl | rfl | rfl
  · exact w_c0
  · exact w_c1
  · exact w_c2
set_option maxRecDepth 65536 in
theorem w_t1 : (words1.take 24).all (fun c => isCode c || c.before args0 about1) = true := by decide +kernel
set_option maxRecDepth 65536 in
theorem w_t2 : (words1.drop 24).all (fun c => isCode c || c.before args0 about1) = true := by decide +kernel
theorem w_tables : (allAtoms (Jvm.Cond.code x code maxLocals ret :: tables_1)).before args0 about1 = true := by
  rw [allAtoms_all]
  show words1.all (fun c => c.before args0 about1) = true
  refine all_split ?_ w_codes
  rw [← List.take_append_drop 24 words1, List.all_append, w_t1, w_t2]
  rfl
set_option maxRecDepth 65536 in
theorem w_case : (Jvm.Cond.and given_1 narrow_1).before args0 about1 = true := by decide +kernel
theorem w_applies : (headSpec (Jvm.Cond.code x code maxLocals ret :: tables_1) room_1).applies x e0.platform about1 = true :=
  (Spec.applies_iff w_frames).mpr ⟨w_running, w_runnable, w_alone, w_named, w_hears, w_ripe, w_room, w_tables⟩
theorem atStart : AtStart classFile x code maxLocals ret World_1 tables_1 room_1 Calls_1 rest_1 Pre_1 launch0 p0 e0 about1 theMethod args0 below0 :=
  ⟨lists_1, trivial, launch0.admits_env _ _ _, launch0.least_env, fairChoices_fair.cas, fairChoices_fair.clock, w_frames, w_args, w_heap, w_applies, trivial, trivial, w_case⟩
end start1
theorem witness_1 : WitnessClaimed_1 := ⟨start1.p0, start1.e0, start1.about1, start1.theMethod, start1.args0, start1.below0, start1.atStart⟩
end Jvm.Pilot.@@N@@
