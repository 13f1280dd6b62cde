import JvmDerived
import JvmDerived.Pilot.@@N@@Statement
import JvmDerived.Pilot.@@N@@Code
set_option linter.unusedVariables false
set_option linter.unusedSimpArgs false
namespace Jvm.RoadKit
open Sem ClassFile Op Lib Jvm.Stand Jvm.Free Jvm.LawKit
section New
variable {p : Program} {l : Launch} {e : Env} {R : Room} {s : State} {m : MethodId} {args : Array Value} {below : List Frame} {meth : Method} {c : Code} {T : State} {locs : List Loc} {cells slots : Nat}
theorem retI (X : Stand p l e R s m args below meth c T locs cells slots) (hx : p.tables.exec = Jvm.exec) {pc : Nat} {Ls : Array Slot} {z : Int32} {rest : List Value} (hret : meth.sig.returnType = some .int) (hd : decode c.code pc = .ok (.ireturn, 1)) {fs : List Frame}
    (hl : ∀ (f : JFrame) (acts : List Action), f.method = m → f.locked = none → f.entered = [] → (doReturn e (T.setTop f) acts (some (.int z))).1 = T.setFrames fs) : Steps p.tables e below (T.setTop (mkF m pc Ls (.int z :: rest))) (T.setFrames fs) := by
  have hm' : T.vm.method? m = some meth := X.method'
  have hn : narrow .int (.int z) = .int z := rfl
  show Steps p.tables e below (T.setTop { method := m, pc := pc, locals := Ls, stack := _ :: rest, locked := none }) _
  jvm_step X.here [X.here.top, hx, hd, hm', hret, hn]
  first | (intro acts; rw [hl _ acts rfl rfl rfl]) | rw [hl _ _ rfl rfl rfl]
  exact Steps.refl _
end New
end Jvm.RoadKit
/- laws to paste: Road.backV, Road.eqW, Road.codOf (cut by pick.py; bodies as the Statement names them) -/
namespace Jvm.Pilot.@@N@@
namespace StrChars
open Jvm Sem ClassFile Op Lib Jvm.Stand Jvm.Free.XT Jvm.Free.ALB Jvm.Free.JM Jvm.Free
open Jvm.Lib.Cold (StaticIs)
/-- a char array whose places are chars -/
def Ch (a : Addr) (A : Cell) (U : State) : Prop := Arr .char a A U ∧ Typed .char A
theorem Ch.mv {a : Addr} {A : Cell} {U U' : State} (h : Ch a A U) (hal : U.vm.Alike U'.vm) (hh : U'.heap = U.heap) : Ch a A U' := ⟨h.1.mv hal hh, h.2⟩
theorem Ch.keep {a : Addr} {A : Cell} {U U' : State} (h : Ch a A U) (hal : U.vm.Alike U'.vm) (hk : U'.heap[a]? = some A) : Ch a A U' := ⟨h.1.keep hal hk, h.2⟩
/-- what place i of a char[]'s cell holds -/
def cv (A : Cell) (i : Nat) : Int32 := match A.slots[i]? with | some (.int x) => x | _ => 0
theorem Ch.get {a : Addr} {A : Cell} {U : State} (h : Ch a A U) {i : Nat} (hi : i < A.slots.size) : A.slots[i]? = some (.int (cv A i)) := by
  have e := Array.getElem?_eq_getElem hi
  have f := h.2 i _ e
  unfold cv; rw [e]
  generalize A.slots[i] = v at f
  cases v <;> simp [fits] at f ⊢
/-- the byte that i2b leaves of a char -/
def lo8 (x : Int32) : Int32 := x.toInt8.toInt32
theorem fits_lo8 (y : Int32) : fits .byte (.int (lo8 y)) = true := by
  have h1 := y.toInt8.le_toInt
  have h2 := y.toInt8.toInt_lt
  simp only [lo8, fits, Bool.and_eq_true, decide_eq_true_eq, Int32.le_iff_toInt_le, Int8.toInt_toInt32, show (-128 : Int32).toInt = -128 from by decide, show (127 : Int32).toInt = 127 from by decide]
  omega
/-- A' is A but that each place j of lo .. hi - 1 holds f j -/
def Laid (A A' : Cell) (lo hi : Nat) (f : Nat → Value) : Prop := A'.cls = A.cls ∧ A'.vm = A.vm ∧ A'.slots.size = A.slots.size ∧ ∀ i, A'.slots[i]? = if lo ≤ i ∧ i < hi then some (f i) else A.slots[i]?
theorem Laid.zero (A : Cell) (lo : Nat) (f : Nat → Value) : Laid A A lo (lo + 0) f := ⟨rfl, rfl, rfl, fun i => by rw [if_neg (by omega)]⟩
theorem Laid.step {A Ak : Cell} {lo k : Nat} {f : Nat → Value} {v : Value} (h : Laid A Ak lo k f) (hlo : lo ≤ k) (hk : k < Ak.slots.size) (hv : v = f k) : Laid A (Ak.setSlot k v) lo (k + 1) f := by
  refine ⟨h.1, h.2.1, by simpa [Cell.setSlot] using h.2.2.1, fun i => ?_⟩
  by_cases e : k = i
  · subst e; rw [Cell.slots_setSlot_self v hk, if_pos (by omega), hv]
  · rw [Cell.slots_setSlot_ne v e, h.2.2.2 i]
    by_cases q : lo ≤ i ∧ i < k
    · rw [if_pos q, if_pos (by omega)]
    · rw [if_neg q, if_neg (by omega)]
def U16 : String := "java/lang/StringUTF16"
namespace Cmp5
def yN : MethodName := ⟨"java/lang/StringUTF16", "compress", "([CI[BII)I"⟩
abbrev yB : ByteArray := jdk_52_method_21_code
theorem d0 : decode yB 0 = .ok (.iconst 0, 1) := by decide +kernel
theorem d1 : decode yB 1 = .ok (.istore 5, 2) := by decide +kernel
theorem d3 : decode yB 3 = .ok (.iload 5, 2) := by decide +kernel
theorem d5 : decode yB 5 = .ok (.iload 4, 2) := by decide +kernel
theorem d7 : decode yB 7 = .ok (.if_icmp (.ge) 37, 3) := by decide +kernel
theorem d10 : decode yB 10 = .ok (.aload_n 0, 1) := by decide +kernel
theorem d11 : decode yB 11 = .ok (.iload_n 1, 1) := by decide +kernel
theorem d12 : decode yB 12 = .ok (.caload, 1) := by decide +kernel
theorem d13 : decode yB 13 = .ok (.istore 6, 2) := by decide +kernel
theorem d15 : decode yB 15 = .ok (.iload 6, 2) := by decide +kernel
theorem d17 : decode yB 17 = .ok (.sipush 255, 3) := by decide +kernel
theorem d20 : decode yB 20 = .ok (.if_icmp (.le) 6, 3) := by decide +kernel
theorem d26 : decode yB 26 = .ok (.aload_n 2, 1) := by decide +kernel
theorem d27 : decode yB 27 = .ok (.iload_n 3, 1) := by decide +kernel
theorem d28 : decode yB 28 = .ok (.iload 6, 2) := by decide +kernel
theorem d30 : decode yB 30 = .ok (.i2b, 1) := by decide +kernel
theorem d31 : decode yB 31 = .ok (.bastore, 1) := by decide +kernel
theorem d32 : decode yB 32 = .ok (.iinc 1 1, 3) := by decide +kernel
theorem d35 : decode yB 35 = .ok (.iinc 3 1, 3) := by decide +kernel
theorem d38 : decode yB 38 = .ok (.iinc 5 1, 3) := by decide +kernel
theorem d41 : decode yB 41 = .ok (.goto (-38), 3) := by decide +kernel
theorem d44 : decode yB 44 = .ok (.iload 4, 2) := by decide +kernel
theorem d46 : decode yB 46 = .ok (.ireturn, 1) := by decide +kernel
def site : List Cond := []
def tab : Cond := tabOf yN yB 7 (some .int) site
def P (b : Addr) (A : Cell) (d : Addr) (B : Cell) (o q len : Nat) (args : Array Value) (s : State) : Prop := args = #[.ref b, .int (Int32.ofNat o), .ref d, .int (Int32.ofNat q), .int (Int32.ofNat len)] ∧ Ch b A s ∧ Arr .byte d B s ∧ b ≠ d ∧ o + len ≤ A.slots.size ∧ q + len ≤ B.slots.size ∧ ∀ i, i < len → ¬ 255 < cv A (o + i)
def E (b : Addr) (A : Cell) (d : Addr) (B : Cell) (o q len : Nat) (r : Option Value) (s u : State) : Prop := r = some (.int (Int32.ofNat len)) ∧ ∃ B', Put d B' s u ∧ Laid B B' q (q + len) (fun j => Value.int (lo8 (cv A (o + (j - q)))))
/-- no char of the range above 255: len; the places written hold each char's low byte -/
theorem law (l : Launch) (b : Addr) (A : Cell) (d : Addr) (B : Cell) (o q len : Nat) : Law l yN 5 5 0 0 yB 7 (some .int) site (P b A d B o q len) (E b A d B o q len) (copyLocs d q len) 0 0 := by
  refine Law.of_walk (plainFor_of_name (by decide +kernel)) (by decide +kernel) (by decide +kernel) (by decide) (fun _ _ h => by rw [h.1]; rfl) (fun _ U U' hal hh h => ⟨h.1, h.2.1.mv hal hh, h.2.2.1.mv hal hh, h.2.2.2⟩) (fun r U U' V V' h1 hal h2 h => ⟨h.1, h.2.elim fun B' q => ⟨B', q.1.mv h1 h2, q.2⟩⟩) ?_
  intro p e s m args below meth c s₁ X0 hexec hbytes hml hret hlk hnm hown hh0 W hP
  obtain ⟨rfl, hA, hB, hne, l1, l2, hp⟩ := hP
  have c1 : Steps p.tables e below (s₁.setTop (entryFrame m #[.ref b, .int (Int32.ofNat o), .ref d, .int (Int32.ofNat q), .int (Int32.ofNat len)] 7)) (s₁.setTop (mkF m 0 #[.val (.ref b), .val (.int (Int32.ofNat o)), .val (.ref d), .val (.int (Int32.ofNat q)), .val (.int (Int32.ofNat len)), .unset, .unset] [])) := entry rfl
  have hA0 := hA.1.mv X0.warmed.alike hh0
  have hB0 := hB.mv X0.warmed.alike hh0
  have a31 := hA.1.2.2.2
  have c2 : Steps p.tables e below (s₁.setTop (entryFrame m #[.ref b, .int (Int32.ofNat o), .ref d, .int (Int32.ofNat q), .int (Int32.ofNat len)] 7)) (s₁.setTop (mkF m 3 #[.val (.ref b), .val (.int (Int32.ofNat o)), .val (.ref d), .val (.int (Int32.ofNat q)), .val (.int (Int32.ofNat len)), .val (.int 0), .unset] [])) := c1.trans (by
    refine iconstV X0.here hexec rfl 0 (hb hbytes d0) (by decide) ?_
    refine XS.istore X0.here hexec rfl (hb hbytes d1) rfl rfl ?_
    exact Steps.refl _)
  have loop : ∀ (r i : Nat), i + r = len → ∀ (z : Slot), (z = .unset ∨ ∃ w, z = .val w ∧ w.category = 1) → ∀ (Tl : State) (Bk : Cell), Stand p l e { frames := 0, locals := 0, cells := 0, slots := 0 } s m #[.ref b, .int (Int32.ofNat o), .ref d, .int (Int32.ofNat q), .int (Int32.ofNat len)] below meth c Tl ([] ++ copyLocs d q i) 0 0 → Put d Bk s₁ Tl → Laid B Bk q (q + i) (fun j => Value.int (lo8 (cv A (o + (j - q))))) →
      Steps p.tables e below (s₁.setTop (entryFrame m #[.ref b, .int (Int32.ofNat o), .ref d, .int (Int32.ofNat q), .int (Int32.ofNat len)] 7)) (Tl.setTop (mkF m 3 #[.val (.ref b), .val (.int (Int32.ofNat (o + i))), .val (.ref d), .val (.int (Int32.ofNat (q + i))), .val (.int (Int32.ofNat len)), .val (.int (Int32.ofNat i)), z] [])) → ∃ (T' : State) (B' : Cell) (z' : Slot), Stand p l e { frames := 0, locals := 0, cells := 0, slots := 0 } s m #[.ref b, .int (Int32.ofNat o), .ref d, .int (Int32.ofNat q), .int (Int32.ofNat len)] below meth c T' ([] ++ copyLocs d q len) 0 0 ∧ Put d B' s₁ T' ∧ Laid B B' q (q + len) (fun j => Value.int (lo8 (cv A (o + (j - q))))) ∧
      Steps p.tables e below (s₁.setTop (entryFrame m #[.ref b, .int (Int32.ofNat o), .ref d, .int (Int32.ofNat q), .int (Int32.ofNat len)] 7)) (T'.setTop (mkF m 3 #[.val (.ref b), .val (.int (Int32.ofNat (o + len))), .val (.ref d), .val (.int (Int32.ofNat (q + len))), .val (.int (Int32.ofNat len)), .val (.int (Int32.ofNat len)), z'] [])) := by
    intro r
    induction r with
    | zero =>
      intro i hi z hz Tl Bk Xl pl fl cl
      have hil : i = len := by omega
      rw [hil] at Xl fl cl
      exact ⟨Tl, Bk, z, Xl, pl, fl, cl⟩
    | succ r ih =>
      intro i hi z hz Tl Bk Xl pl fl cl
      have all := X0.warmed.alike.symm.trans Xl.warmed.alike
      have hAl := hA0.keep all (pl.other hne hA0.1)
      have hBk := hB0.like all pl.1 fl.1 fl.2.1 fl.2.2.1
      have hlt : q + i < Bk.slots.size := by rw [fl.2.2.1]; omega
      have c3 : Steps p.tables e below (s₁.setTop (entryFrame m #[.ref b, .int (Int32.ofNat o), .ref d, .int (Int32.ofNat q), .int (Int32.ofNat len)] 7)) (Tl.setTop (mkF m 12 #[.val (.ref b), .val (.int (Int32.ofNat (o + i))), .val (.ref d), .val (.int (Int32.ofNat (q + i))), .val (.int (Int32.ofNat len)), .val (.int (Int32.ofNat i)), z] [.int (Int32.ofNat (o + i)), .ref b])) := cl.trans (by
        refine XS.iload Xl.here hexec rfl (hb hbytes d3) rfl ?_
        refine XS.iload Xl.here hexec rfl (hb hbytes d5) rfl ?_
        refine XS.icmpNo Xl.here hexec rfl (hb hbytes d7) rfl (ii_ge_f (lt32 (by omega) (by omega))) ?_
        refine XS.aloadN Xl.here hexec rfl (hb hbytes d10) rfl rfl ?_
        refine XS.iloadN Xl.here hexec rfl (hb hbytes d11) rfl ?_
        exact Steps.refl _)
      have c4 : Steps p.tables e below (s₁.setTop (entryFrame m #[.ref b, .int (Int32.ofNat o), .ref d, .int (Int32.ofNat q), .int (Int32.ofNat len)] 7)) (Tl.setTop (mkF m 13 #[.val (.ref b), .val (.int (Int32.ofNat (o + i))), .val (.ref d), .val (.int (Int32.ofNat (q + i))), .val (.int (Int32.ofNat len)), .val (.int (Int32.ofNat i)), z] [.int (cv A (o + i))])) := c3.trans (by
        refine Xl.aget hexec hAl rfl (hA.get (i := o + i) (by omega)) rfl rfl (hb hbytes d12) ?_
        exact Steps.refl _)
      have c5 : Steps p.tables e below (s₁.setTop (entryFrame m #[.ref b, .int (Int32.ofNat o), .ref d, .int (Int32.ofNat q), .int (Int32.ofNat len)] 7)) (Tl.setTop (mkF m 15 #[.val (.ref b), .val (.int (Int32.ofNat (o + i))), .val (.ref d), .val (.int (Int32.ofNat (q + i))), .val (.int (Int32.ofNat len)), .val (.int (Int32.ofNat i)), .val (.int (cv A (o + i)))] [])) := c4.trans (by
        refine XS.istoreS Xl.here hexec rfl (hb hbytes d13) rfl rfl hz ?_
        exact Steps.refl _)
      have c6 : Steps p.tables e below (s₁.setTop (entryFrame m #[.ref b, .int (Int32.ofNat o), .ref d, .int (Int32.ofNat q), .int (Int32.ofNat len)] 7)) (Tl.setTop (mkF m 31 #[.val (.ref b), .val (.int (Int32.ofNat (o + i))), .val (.ref d), .val (.int (Int32.ofNat (q + i))), .val (.int (Int32.ofNat len)), .val (.int (Int32.ofNat i)), .val (.int (cv A (o + i)))] [.int (lo8 (cv A (o + i))), .int (Int32.ofNat (q + i)), .ref d])) := c5.trans (by
        refine XS.iload Xl.here hexec rfl (hb hbytes d15) rfl ?_
        refine sipushV Xl.here hexec rfl 255 (hb hbytes d17) (by decide) ?_
        refine XS.icmpYes Xl.here hexec rfl (pc0 := 20) rfl (hb hbytes d20) rfl (ii_le_t (hp i (by omega))) (by decide) rfl ?_
        refine XS.aloadN Xl.here hexec rfl (hb hbytes d26) rfl rfl ?_
        refine XS.iloadN Xl.here hexec rfl (hb hbytes d27) rfl ?_
        refine XS.iload Xl.here hexec rfl (hb hbytes d28) rfl ?_
        refine i2b Xl.here hexec rfl (hb hbytes d30) rfl ?_
        exact Steps.refl _)
      obtain ⟨T7, X7, p7, st7⟩ := Xl.aput hexec hBk rfl hlt rfl (fits_lo8 (cv A (o + i))) (g := (mkF m 31 #[.val (.ref b), .val (.int (Int32.ofNat (o + i))), .val (.ref d), .val (.int (Int32.ofNat (q + i))), .val (.int (Int32.ofNat len)), .val (.int (Int32.ofNat i)), .val (.int (cv A (o + i)))] [.int (lo8 (cv A (o + i))), .int (Int32.ofNat (q + i)), .ref d])) rfl (rest := []) rfl (hb hbytes d31)
      have c8 : Steps p.tables e below (s₁.setTop (entryFrame m #[.ref b, .int (Int32.ofNat o), .ref d, .int (Int32.ofNat q), .int (Int32.ofNat len)] 7)) (T7.setTop (mkF m 32 #[.val (.ref b), .val (.int (Int32.ofNat (o + i))), .val (.ref d), .val (.int (Int32.ofNat (q + i))), .val (.int (Int32.ofNat len)), .val (.int (Int32.ofNat i)), .val (.int (cv A (o + i)))] [])) := c6.trans (st7 _ (Steps.refl _))
      have c9 : Steps p.tables e below (s₁.setTop (entryFrame m #[.ref b, .int (Int32.ofNat o), .ref d, .int (Int32.ofNat q), .int (Int32.ofNat len)] 7)) (T7.setTop (mkF m 3 #[.val (.ref b), .val (.int (Int32.ofNat (o + i) + 1)), .val (.ref d), .val (.int (Int32.ofNat (q + i) + 1)), .val (.int (Int32.ofNat len)), .val (.int (Int32.ofNat i + 1)), .val (.int (cv A (o + i)))] [])) := c8.trans (by
        refine iincV X7.here hexec rfl 1 (hb hbytes d32) (by decide) rfl rfl ?_
        refine iincV X7.here hexec rfl 1 (hb hbytes d35) (by decide) rfl rfl ?_
        refine iincV X7.here hexec rfl 1 (hb hbytes d38) (by decide) rfl rfl ?_
        refine XS.goto X7.here hexec rfl (pc0 := 41) rfl (hb hbytes d41) (by decide) rfl ?_
        exact Steps.refl _)
      have c10 : Steps p.tables e below (s₁.setTop (entryFrame m #[.ref b, .int (Int32.ofNat o), .ref d, .int (Int32.ofNat q), .int (Int32.ofNat len)] 7)) (T7.setTop (mkF m 3 #[.val (.ref b), .val (.int (Int32.ofNat (o + (i + 1)))), .val (.ref d), .val (.int (Int32.ofNat (q + (i + 1)))), .val (.int (Int32.ofNat len)), .val (.int (Int32.ofNat (i + 1))), .val (.int (cv A (o + i)))] [])) := by
        have := c9
        rw [succ32, succ32, succ32] at this
        exact this
      exact ih (i + 1) (by omega) _ (Or.inr ⟨_, rfl, rfl⟩) T7 _ (by rw [copyLocs_step, ← List.append_assoc]; exact X7) (pl.trans p7) (fl.step (by omega) hlt (by simp)) c10
  obtain ⟨T9, B9, z9, X9, p9, f9, g9⟩ := loop len 0 (by omega) .unset (Or.inl rfl) s₁ B (by simpa [copyLocs] using X0) ⟨hB0.1, fun _ _ => rfl, rfl⟩ (Laid.zero _ _ _) c2
  have c11 : Steps p.tables e below (s₁.setTop (entryFrame m #[.ref b, .int (Int32.ofNat o), .ref d, .int (Int32.ofNat q), .int (Int32.ofNat len)] 7)) (T9.setTop (mkF m 46 #[.val (.ref b), .val (.int (Int32.ofNat (o + len))), .val (.ref d), .val (.int (Int32.ofNat (q + len))), .val (.int (Int32.ofNat len)), .val (.int (Int32.ofNat len)), z9] [.int (Int32.ofNat len)])) := g9.trans (by
    refine XS.iload X9.here hexec rfl (hb hbytes d3) rfl ?_
    refine XS.iload X9.here hexec rfl (hb hbytes d5) rfl ?_
    refine XS.icmpYes X9.here hexec rfl (pc0 := 7) rfl (hb hbytes d7) rfl (ii_ge_t (nlt32 (by omega) (Nat.le_refl _))) (by decide) rfl ?_
    refine XS.iload X9.here hexec rfl (hb hbytes d44) rfl ?_
    exact Steps.refl _)
  exact ⟨T9, some (.int (Int32.ofNat len)), _, _, _, X9, by simp, rfl, rfl, (fun h => by cases h), ⟨rfl, B9, p9.from hh0, f9⟩, fun fs hl => c11.trans (X9.ireturnOut hexec hret rfl (Or.inl rfl) (hb hbytes d46) hl)⟩
end Cmp5
namespace Cmp3
def yN : MethodName := ⟨"java/lang/StringUTF16", "compress", "([CII)[B"⟩
abbrev yB : ByteArray := jdk_52_method_16_code
theorem d0 : decode yB 0 = .ok (.iload_n 2, 1) := by decide +kernel
theorem d1 : decode yB 1 = .ok (.newarray .byte, 2) := by decide +kernel
theorem d3 : decode yB 3 = .ok (.astore_n 3, 1) := by decide +kernel
theorem d4 : decode yB 4 = .ok (.aload_n 0, 1) := by decide +kernel
theorem d5 : decode yB 5 = .ok (.iload_n 1, 1) := by decide +kernel
theorem d6 : decode yB 6 = .ok (.aload_n 3, 1) := by decide +kernel
theorem d7 : decode yB 7 = .ok (.iconst 0, 1) := by decide +kernel
theorem d8 : decode yB 8 = .ok (.iload_n 2, 1) := by decide +kernel
theorem d9 : decode yB 9 = .ok (.invokestatic 115, 3) := by decide +kernel
theorem d12 : decode yB 12 = .ok (.istore 4, 2) := by decide +kernel
theorem d14 : decode yB 14 = .ok (.iload 4, 2) := by decide +kernel
theorem d16 : decode yB 16 = .ok (.iload_n 2, 1) := by decide +kernel
theorem d17 : decode yB 17 = .ok (.if_icmp (.eq) 40, 3) := by decide +kernel
theorem d57 : decode yB 57 = .ok (.aload_n 3, 1) := by decide +kernel
theorem d58 : decode yB 58 = .ok (.areturn, 1) := by decide +kernel
def site : List Cond := [.arrayClass .byte, Cmp5.tab] ++ staticW U16 115 Cmp5.yN
def tab : Cond := tabOf yN yB 6 (some (.array .byte)) site
def P (b : Addr) (A : Cell) (o len : Nat) (args : Array Value) (s : State) : Prop := args = #[.ref b, .int (Int32.ofNat o), .int (Int32.ofNat len)] ∧ Ch b A s ∧ o + len ≤ A.slots.size ∧ len ≤ 536870912 ∧ ∀ i, i < len → ¬ 255 < cv A (o + i)
def E (b : Addr) (A : Cell) (o len : Nat) (r : Option Value) (s u : State) : Prop := NewArr .byte "[B" len (fun j => .int (lo8 (cv A (o + j)))) r s u ∧ u.heap.size = s.heap.size + 1
/-- no char of the range above 255: a new byte[] of their low bytes -/
theorem law (l : Launch) (b : Addr) (A : Cell) (o len : Nat) : Law l yN 3 3 1 18 yB 6 (some (.array .byte)) site (P b A o len) (E b A o len) [] 1 len := by
  refine Law.of_walk (plainFor_of_name (by decide +kernel)) (by decide +kernel) (by decide +kernel) (by decide) (fun _ _ h => by rw [h.1]; rfl) (fun _ U U' hal hh h => ⟨h.1, h.2.1.mv hal hh, h.2.2⟩) (fun r U U' V V' h1 hal h2 h => ⟨NewArr.mv r U U' V V' h1 hal h2 h.1, by rw [h1, h2]; exact h.2⟩) ?_
  intro p e s m args below meth c s₁ X0 hexec hbytes hml hret hlk hnm hown hh0 W hP
  obtain ⟨rfl, hA, l1, l2, hp⟩ := hP
  have a31 := hA.1.2.2.2
  have c1 : Steps p.tables e below (s₁.setTop (entryFrame m #[.ref b, .int (Int32.ofNat o), .int (Int32.ofNat len)] 6)) (s₁.setTop (mkF m 0 #[.val (.ref b), .val (.int (Int32.ofNat o)), .val (.int (Int32.ofNat len)), .unset, .unset, .unset] [])) := entry rfl
  have c2 : Steps p.tables e below (s₁.setTop (entryFrame m #[.ref b, .int (Int32.ofNat o), .int (Int32.ofNat len)] 6)) (s₁.setTop (mkF m 1 #[.val (.ref b), .val (.int (Int32.ofNat o)), .val (.int (Int32.ofNat len)), .unset, .unset, .unset] [.int (Int32.ofNat len)])) := c1.trans (by
    refine XS.iloadN X0.here hexec rfl (hb hbytes d0) rfl ?_
    exact Steps.refl _)
  obtain ⟨T3, B3, X3, ba3, bs3, bv3, bh3, bf3, st3⟩ := X0.anew hexec (atype := .byte) (wk W (.arrayClass .byte)) rfl (by show len * 1 ≤ _; omega) (by omega) (g := (mkF m 1 #[.val (.ref b), .val (.int (Int32.ofNat o)), .val (.int (Int32.ofNat len)), .unset, .unset, .unset] [.int (Int32.ofNat len)])) rfl (hb hbytes d1) (rest := []) rfl (Nat.le_refl _) (by show 0 + len ≤ len; omega)
  rw [hh0] at ba3 st3
  have kp3 : XT.Kept s T3 := (XT.Kept.of_eq hh0).push bh3
  have hA3 := hA.keep X3.warmed.alike (kp3 _ _ hA.1.1)
  have hne : b ≠ s.heap.size := hA.1.ne
  have c4 : Steps p.tables e below (s₁.setTop (entryFrame m #[.ref b, .int (Int32.ofNat o), .int (Int32.ofNat len)] 6)) (T3.setTop (mkF m 3 #[.val (.ref b), .val (.int (Int32.ofNat o)), .val (.int (Int32.ofNat len)), .unset, .unset, .unset] [.ref s.heap.size])) := c2.trans (st3 _ (Steps.refl _))
  have c5 : Steps p.tables e below (s₁.setTop (entryFrame m #[.ref b, .int (Int32.ofNat o), .int (Int32.ofNat len)] 6)) (T3.setTop (mkF m 9 #[.val (.ref b), .val (.int (Int32.ofNat o)), .val (.int (Int32.ofNat len)), .val (.ref s.heap.size), .unset, .unset] [.int (Int32.ofNat len), .int 0, .ref s.heap.size, .int (Int32.ofNat o), .ref b])) := c4.trans (by
    refine XS.astoreN X3.here hexec rfl (hb hbytes d3) rfl rfl rfl ?_
    refine XS.aloadN X3.here hexec rfl (hb hbytes d4) rfl rfl ?_
    refine XS.iloadN X3.here hexec rfl (hb hbytes d5) rfl ?_
    refine XS.aloadN X3.here hexec rfl (hb hbytes d6) rfl rfl ?_
    refine iconstV X3.here hexec rfl 0 (hb hbytes d7) (by decide) ?_
    refine XS.iloadN X3.here hexec rfl (hb hbytes d8) rfl ?_
    exact Steps.refl _)
  obtain ⟨v6, T6, X6, E6, g6⟩ := X3.callS hexec (Cmp5.law l b A s.heap.size B3 o 0 len) hown (wks W (staticW U16 115 Cmp5.yN)) (wk W Cmp5.tab) (W := 0) (Nat.le_of_ble_eq_true rfl) (Nat.le_of_ble_eq_true rfl) (Nat.le_refl _) (by show 0 + len + 0 ≤ len; omega) (g := (mkF m 9 #[.val (.ref b), .val (.int (Int32.ofNat o)), .val (.int (Int32.ofNat len)), .val (.ref s.heap.size), .unset, .unset] [.int (Int32.ofNat len), .int (Int32.ofNat 0), .ref s.heap.size, .int (Int32.ofNat o), .ref b])) rfl (by rw [hml]; rfl) c5 (argsL := [.ref b, .int (Int32.ofNat o), .ref s.heap.size, .int (Int32.ofNat 0), .int (Int32.ofNat len)]) (rest := []) rfl rfl (by show 2 * 0 + 0 ≤ _; decide) (hb hbytes d9) (⟨rfl, hA3, ba3, hne, l1, by rw [bs3]; simp, hp⟩)
  obtain ⟨rfl, B6, p6, f6⟩ := E6
  have c7 : Steps p.tables e below (s₁.setTop (entryFrame m #[.ref b, .int (Int32.ofNat o), .int (Int32.ofNat len)] 6)) (T6.setTop (mkF m 12 #[.val (.ref b), .val (.int (Int32.ofNat o)), .val (.int (Int32.ofNat len)), .val (.ref s.heap.size), .unset, .unset] [.int (Int32.ofNat len)])) := g6
  have c8 : Steps p.tables e below (s₁.setTop (entryFrame m #[.ref b, .int (Int32.ofNat o), .int (Int32.ofNat len)] 6)) (T6.setTop (mkF m 58 #[.val (.ref b), .val (.int (Int32.ofNat o)), .val (.int (Int32.ofNat len)), .val (.ref s.heap.size), .val (.int (Int32.ofNat len)), .unset] [.ref s.heap.size])) := c7.trans (by
    refine XS.istore X6.here hexec rfl (hb hbytes d12) rfl rfl ?_
    refine XS.iload X6.here hexec rfl (hb hbytes d14) rfl ?_
    refine XS.iloadN X6.here hexec rfl (hb hbytes d16) rfl ?_
    refine XS.icmpYes X6.here hexec rfl (pc0 := 17) rfl (hb hbytes d17) rfl (ii_eq_t rfl) (by decide) rfl ?_
    refine XS.aloadN X6.here hexec rfl (hb hbytes d57) rfl rfl ?_
    exact Steps.refl _)
  have X8 := X6.wide (L' := []) (cells' := 1) (slots' := len) (fun x hx hlt => by
    simp only [List.nil_append, copyLocs, List.mem_map, List.mem_range] at hx
    obtain ⟨i, -, rfl⟩ := hx
    exact absurd hlt (Nat.lt_irrefl _)) (Nat.le_refl _) (by omega)
  exact ⟨T6, some (.ref s.heap.size), _, _, _, X8, rfl, rfl, rfl, (fun h => by cases h), ⟨⟨rfl, B6, ba3.like (X3.warmed.alike.symm.trans X6.warmed.alike) p6.1 f6.1 f6.2.1 f6.2.2.1, f6.2.1.trans bv3, by rw [X6.warmed.alike.findClass, f6.1]; exact bf3, by rw [f6.2.2.1, bs3]; simp, fun j hj => by rw [f6.2.2.2 j, if_pos (by omega)]; rfl, kp3.put p6 (Nat.le_refl _)⟩, by rw [p6.2.2, bh3, hh0]; simp⟩, fun fs hl => c8.trans (X8.areturnOut hexec rfl hret rfl (hb hbytes d58) hl)⟩
end Cmp3
namespace CodL
def yN : MethodName := ⟨"java/lang/StringUTF16", "coderFromArrayLen", "([BI)B"⟩
abbrev yB : ByteArray := jdk_52_method_15_code
theorem d0 : decode yB 0 = .ok (.iload_n 1, 1) := by decide +kernel
theorem d1 : decode yB 1 = .ok (.aload_n 0, 1) := by decide +kernel
theorem d2 : decode yB 2 = .ok (.arraylength, 1) := by decide +kernel
theorem d3 : decode yB 3 = .ok (.isub, 1) := by decide +kernel
theorem d4 : decode yB 4 = .ok (.bipush 31, 2) := by decide +kernel
theorem d6 : decode yB 6 = .ok (.iushr, 1) := by decide +kernel
theorem d7 : decode yB 7 = .ok (.i2b, 1) := by decide +kernel
theorem d8 : decode yB 8 = .ok (.ireturn, 1) := by decide +kernel
def site : List Cond := []
def tab : Cond := tabOf yN yB 2 (some .byte) site
def P (d : Addr) (B : Cell) (args : Array Value) (s : State) : Prop := args = #[.ref d, .int (Int32.ofNat B.slots.size)] ∧ Arr .byte d B s
def E (r : Option Value) (s u : State) : Prop := XT.PureE (some (.int 0)) r s u
/-- an array as long as the number of chars: LATIN1 -/
theorem law (l : Launch) (d : Addr) (B : Cell) : Law l yN 2 2 0 0 yB 2 (some .byte) site (P d B) E [] 0 0 := by
  refine Law.of_walk (plainFor_of_name (by decide +kernel)) (by decide +kernel) (by decide +kernel) (by decide) (fun _ _ h => by rw [h.1]; rfl) (fun _ U U' hal hh h => ⟨h.1, h.2.mv hal hh⟩) (fun r U U' V V' h1 hal h2 h => XT.PureE.mv r U U' V V' h1 hal h2 h) ?_
  intro p e s m args below meth c s₁ X0 hexec hbytes hml hret hlk hnm hown hh0 W hP
  obtain ⟨rfl, hB⟩ := hP
  have hB0 := hB.mv X0.warmed.alike hh0
  have c1 : Steps p.tables e below (s₁.setTop (entryFrame m #[.ref d, .int (Int32.ofNat B.slots.size)] 2)) (s₁.setTop (mkF m 0 #[.val (.ref d), .val (.int (Int32.ofNat B.slots.size))] [])) := entry rfl
  have c2 : Steps p.tables e below (s₁.setTop (entryFrame m #[.ref d, .int (Int32.ofNat B.slots.size)] 2)) (s₁.setTop (mkF m 2 #[.val (.ref d), .val (.int (Int32.ofNat B.slots.size))] [.ref d, .int (Int32.ofNat B.slots.size)])) := c1.trans (by
    refine XS.iloadN X0.here hexec rfl (hb hbytes d0) rfl ?_
    refine XS.aloadN X0.here hexec rfl (hb hbytes d1) rfl rfl ?_
    exact Steps.refl _)
  have c3 : Steps p.tables e below (s₁.setTop (entryFrame m #[.ref d, .int (Int32.ofNat B.slots.size)] 2)) (s₁.setTop (mkF m 8 #[.val (.ref d), .val (.int (Int32.ofNat B.slots.size))] [.int (lo8 (ushr (Int32.ofNat B.slots.size - Int32.ofNat B.slots.size) 31))])) := c2.trans (by
    refine X0.alen hexec hB0 rfl rfl (hb hbytes d2) ?_
    refine XS.isub X0.here hexec rfl (hb hbytes d3) rfl ?_
    refine bipushV X0.here hexec rfl 31 (hb hbytes d4) (by decide) ?_
    refine iushr X0.here hexec rfl (hb hbytes d6) rfl ?_
    refine i2b X0.here hexec rfl (hb hbytes d7) rfl ?_
    exact Steps.refl _)
  have e0 : lo8 (ushr (Int32.ofNat B.slots.size - Int32.ofNat B.slots.size) 31) = 0 := by rw [Int32.sub_self]; decide
  rw [e0] at c3
  exact ⟨s₁, some (.int 0), _, _, _, X0, rfl, rfl, rfl, (fun h => by cases h), ⟨rfl, hh0⟩, fun fs hl => c3.trans (X0.ireturnOut hexec hret rfl (Or.inr (Or.inr (Or.inl rfl))) (hb hbytes d8) hl)⟩
end CodL
/-- the String at a is Latin-1 over a new byte[] (the heap's one new cell): the low bytes of the len chars of A from o on; every cell but a is kept -/
def Got (a : Addr) (D : Cell) (fV fC : Field) (A : Cell) (o len : Nat) (r : Option Value) (s u : State) : Prop := r = none ∧ ∃ D' V : Cell, Blank "java/lang/String" a D' u ∧ Same D D' [fV.slot, fC.slot] ∧ D'.slots[fV.slot]? = some (.ref s.heap.size) ∧ D'.slots[fC.slot]? = some (.int 0) ∧ Arr .byte s.heap.size V u ∧ V.vm = .none ∧ u.vm.findClass "[B" = some V.cls ∧ V.slots.size = len ∧ (∀ j, j < len → V.slots[j]? = some (.int (lo8 (cv A (o + j))))) ∧ (∀ (y : Addr) (c : Cell), y ≠ a → s.heap[y]? = some c → u.heap[y]? = some c) ∧ u.heap.size = s.heap.size + 1
theorem Got.mv {a : Addr} {D A : Cell} {fV fC : Field} {o len : Nat} : ∀ r (U U' V V' : State), U'.heap = U.heap → V.vm.Alike V'.vm → V'.heap = V.heap → Got a D fV fC A o len r U V → Got a D fV fC A o len r U' V' :=
  fun r U U' V V' h1 hal h2 ⟨e0, D', X, a1, a2, a3, a4, a5, a6, a7, a8, a9, a10, a11⟩ => ⟨e0, D', X, a1.mv hal h2, a2, by rw [h1]; exact a3, a4, by rw [h1]; exact a5.mv hal h2, a6, by rw [hal.findClass]; exact a7, a8, a9, by rw [h1, h2]; exact a10, by rw [h1, h2]; exact a11⟩
namespace New4
def yN : MethodName := ⟨"java/lang/String", "<init>", "([CIILjava/lang/Void;)V"⟩
abbrev yB : ByteArray := jdk_42_method_149_code
theorem d0 : decode yB 0 = .ok (.aload_n 0, 1) := by decide +kernel
theorem d1 : decode yB 1 = .ok (.invokespecial 1, 3) := by decide +kernel
theorem d4 : decode yB 4 = .ok (.iload_n 3, 1) := by decide +kernel
theorem d5 : decode yB 5 = .ok (.ifCond (.ne) 22, 3) := by decide +kernel
theorem d27 : decode yB 27 = .ok (.getstatic 38, 3) := by decide +kernel
theorem d30 : decode yB 30 = .ok (.ifCond (.eq) 28, 3) := by decide +kernel
theorem d33 : decode yB 33 = .ok (.aload_n 1, 1) := by decide +kernel
theorem d34 : decode yB 34 = .ok (.iload_n 2, 1) := by decide +kernel
theorem d35 : decode yB 35 = .ok (.iload_n 3, 1) := by decide +kernel
theorem d36 : decode yB 36 = .ok (.invokestatic 177, 3) := by decide +kernel
theorem d39 : decode yB 39 = .ok (.astore 5, 2) := by decide +kernel
theorem d41 : decode yB 41 = .ok (.aload_n 0, 1) := by decide +kernel
theorem d42 : decode yB 42 = .ok (.aload 5, 2) := by decide +kernel
theorem d44 : decode yB 44 = .ok (.iload_n 3, 1) := by decide +kernel
theorem d45 : decode yB 45 = .ok (.invokestatic 47, 3) := by decide +kernel
theorem d48 : decode yB 48 = .ok (.putfield 15, 3) := by decide +kernel
theorem d51 : decode yB 51 = .ok (.aload_n 0, 1) := by decide +kernel
theorem d52 : decode yB 52 = .ok (.aload 5, 2) := by decide +kernel
theorem d54 : decode yB 54 = .ok (.putfield 9, 3) := by decide +kernel
theorem d57 : decode yB 57 = .ok (.return_, 1) := by decide +kernel
def site : List Cond := [.fieldLink "java/lang/String" 38 "java/lang/String" "COMPACT_STRINGS" "Z", Cmp3.tab, CodL.tab, .laysFinal "java/lang/String" "java/lang/String" "value" "[B", .fieldLink "java/lang/String" 9 "java/lang/String" "value" "[B", .laysFinal "java/lang/String" "java/lang/String" "coder" "B", .fieldLink "java/lang/String" 15 "java/lang/String" "coder" "B"] ++ objW "java/lang/String" 1 ++ staticW "java/lang/String" 177 Cmp3.yN ++ staticW "java/lang/String" 47 CodL.yN
def tab : Cond := tabOf yN yB 6 none site
def P (a : Addr) (D : Cell) (fV fC : Field) (b : Addr) (A : Cell) (z : Int32) (o len : Nat) (args : Array Value) (s : State) : Prop := args = #[.ref a, .ref b, .int (Int32.ofNat o), .int (Int32.ofNat len), .null] ∧ Blank "java/lang/String" a D s ∧ Found "java/lang/String" "value" "[B" fV s ∧ Found "java/lang/String" "coder" "B" fC s ∧ Ch b A s ∧ StaticIs s "java/lang/String" "COMPACT_STRINGS" "Z" (.int z) ∧ ¬ z = 0 ∧ 0 < len ∧ o + len ≤ A.slots.size ∧ len ≤ 536870912 ∧ ∀ i, i < len → ¬ 255 < cv A (o + i)
def E (a : Addr) (D : Cell) (fV fC : Field) (A : Cell) (o len : Nat) (r : Option Value) (s u : State) : Prop := Got a D fV fC A o len r s u
/-- len > 0, no char of the range above 255: a Latin-1 String of their low bytes -/
theorem law (l : Launch) (a : Addr) (D : Cell) (fV fC : Field) (b : Addr) (A : Cell) (z : Int32) (o len : Nat) : Law l yN 5 4 2 35 yB 6 none site (P a D fV fC b A z o len) (E a D fV fC A o len) [⟨a, fC.slot⟩, ⟨a, fV.slot⟩] 1 len := by
  refine Law.of_walk (plainFor_of_name (by decide +kernel)) (by decide +kernel) (by decide +kernel) (by decide) (fun _ _ h => by rw [h.1]; rfl) (fun _ U U' hal hh h => ⟨h.1, h.2.1.mv hal hh, h.2.2.1.al hal, h.2.2.2.1.al hal, h.2.2.2.2.1.mv hal hh, h.2.2.2.2.2.1.there hal hh, h.2.2.2.2.2.2⟩) (fun r U U' V V' h1 hal h2 h => Got.mv r U U' V V' h1 hal h2 h) ?_
  intro p e s m args below meth c s₁ X0 hexec hbytes hml hret hlk hnm hown hh0 W hP
  obtain ⟨rfl, hB, f1, f2, hA, s1, hz, l0, l1, l2, hp⟩ := hP
  have a31 := hA.1.2.2.2
  have c1 : Steps p.tables e below (s₁.setTop (entryFrame m #[.ref a, .ref b, .int (Int32.ofNat o), .int (Int32.ofNat len), .null] 6)) (s₁.setTop (mkF m 0 #[.val (.ref a), .val (.ref b), .val (.int (Int32.ofNat o)), .val (.int (Int32.ofNat len)), .val .null, .unset] [])) := entry rfl
  have c2 : Steps p.tables e below (s₁.setTop (entryFrame m #[.ref a, .ref b, .int (Int32.ofNat o), .int (Int32.ofNat len), .null] 6)) (s₁.setTop (mkF m 1 #[.val (.ref a), .val (.ref b), .val (.int (Int32.ofNat o)), .val (.int (Int32.ofNat len)), .val .null, .unset] [.ref a])) := c1.trans (by
    refine XS.aloadN X0.here hexec rfl (hb hbytes d0) rfl rfl ?_
    exact Steps.refl _)
  obtain ⟨T3, X3, q3, st3⟩ := X0.oinit hexec hown (wks W (objW "java/lang/String" 1)) (g := (mkF m 1 #[.val (.ref a), .val (.ref b), .val (.int (Int32.ofNat o)), .val (.int (Int32.ofNat len)), .val .null, .unset] [.ref a])) rfl (by rw [hml]; rfl) (rest := []) rfl (hb hbytes d1) (W := 0) (by show 2 * 0 + 0 ≤ _; decide) (Nat.le_of_ble_eq_true rfl) (Nat.le_of_ble_eq_true rfl)
  have hh3 := q3.trans hh0
  have c4 : Steps p.tables e below (s₁.setTop (entryFrame m #[.ref a, .ref b, .int (Int32.ofNat o), .int (Int32.ofNat len), .null] 6)) (T3.setTop (mkF m 27 #[.val (.ref a), .val (.ref b), .val (.int (Int32.ofNat o)), .val (.int (Int32.ofNat len)), .val .null, .unset] [])) := (c2.trans (st3 _ (Steps.refl _))).trans (by
    refine XS.iloadN X3.here hexec rfl (hb hbytes d4) rfl ?_
    refine XS.ifYes X3.here hexec rfl (pc0 := 5) rfl (hb hbytes d5) rfl (i0_ne_t (nz32 (by omega) l0)) (by decide) rfl ?_
    exact Steps.refl _)
  obtain ⟨T5, X5, q5, st5⟩ := X3.sget hexec hown (wk W (.fieldLink "java/lang/String" 38 "java/lang/String" "COMPACT_STRINGS" "Z")) s1 (fun _ _ h => by rw [hh3]; exact h) (g := (mkF m 27 #[.val (.ref a), .val (.ref b), .val (.int (Int32.ofNat o)), .val (.int (Int32.ofNat len)), .val .null, .unset] [])) rfl (hb hbytes d27)
  have hh5 := q5.trans hh3
  have c6 : Steps p.tables e below (s₁.setTop (entryFrame m #[.ref a, .ref b, .int (Int32.ofNat o), .int (Int32.ofNat len), .null] 6)) (T5.setTop (mkF m 30 #[.val (.ref a), .val (.ref b), .val (.int (Int32.ofNat o)), .val (.int (Int32.ofNat len)), .val .null, .unset] [.int z])) := c4.trans (st5 _ (Steps.refl _))
  have c7 : Steps p.tables e below (s₁.setTop (entryFrame m #[.ref a, .ref b, .int (Int32.ofNat o), .int (Int32.ofNat len), .null] 6)) (T5.setTop (mkF m 36 #[.val (.ref a), .val (.ref b), .val (.int (Int32.ofNat o)), .val (.int (Int32.ofNat len)), .val .null, .unset] [.int (Int32.ofNat len), .int (Int32.ofNat o), .ref b])) := c6.trans (by
    refine XS.ifNo X5.here hexec rfl (hb hbytes d30) rfl (i0_eq_f hz) ?_
    refine XS.aloadN X5.here hexec rfl (hb hbytes d33) rfl rfl ?_
    refine XS.iloadN X5.here hexec rfl (hb hbytes d34) rfl ?_
    refine XS.iloadN X5.here hexec rfl (hb hbytes d35) rfl ?_
    exact Steps.refl _)
  obtain ⟨v8, T8, X8, E8, g8⟩ := X5.callS hexec (Cmp3.law l b A o len) hown (wks W (staticW "java/lang/String" 177 Cmp3.yN)) (wk W Cmp3.tab) (W := 0) (Nat.le_of_ble_eq_true rfl) (Nat.le_of_ble_eq_true rfl) (Nat.le_refl _) (by show 0 + len ≤ len; omega) (g := (mkF m 36 #[.val (.ref a), .val (.ref b), .val (.int (Int32.ofNat o)), .val (.int (Int32.ofNat len)), .val .null, .unset] [.int (Int32.ofNat len), .int (Int32.ofNat o), .ref b])) rfl (by rw [hml]; rfl) c7 (argsL := [.ref b, .int (Int32.ofNat o), .int (Int32.ofNat len)]) (rest := []) rfl rfl (by show 2 * 0 + 0 ≤ _; decide) (hb hbytes d36) (⟨rfl, hA.mv X5.warmed.alike hh5, l1, l2, hp⟩)
  obtain ⟨e8, z8⟩ := E8
  obtain ⟨rfl, N, n1, n2, n3, n4, n5, n6⟩ := NewArr.mv _ T5 s _ _ hh5.symm (Vm.Alike.refl _) rfl e8
  rw [hh5] at z8
  have hB1 := hB.keep X8.warmed.alike (n6 _ _ hB.1)
  have hne : s.heap.size ≠ a := (Nat.ne_of_lt (Array.getElem?_eq_some_iff.mp hB.1).1).symm
  have c9 : Steps p.tables e below (s₁.setTop (entryFrame m #[.ref a, .ref b, .int (Int32.ofNat o), .int (Int32.ofNat len), .null] 6)) (T8.setTop (mkF m 39 #[.val (.ref a), .val (.ref b), .val (.int (Int32.ofNat o)), .val (.int (Int32.ofNat len)), .val .null, .unset] [.ref s.heap.size])) := g8
  have c10 : Steps p.tables e below (s₁.setTop (entryFrame m #[.ref a, .ref b, .int (Int32.ofNat o), .int (Int32.ofNat len), .null] 6)) (T8.setTop (mkF m 45 #[.val (.ref a), .val (.ref b), .val (.int (Int32.ofNat o)), .val (.int (Int32.ofNat len)), .val .null, .val (.ref s.heap.size)] [.int (Int32.ofNat N.slots.size), .ref s.heap.size, .ref a])) := by
    have hc : Steps p.tables e below (s₁.setTop (entryFrame m #[.ref a, .ref b, .int (Int32.ofNat o), .int (Int32.ofNat len), .null] 6)) (T8.setTop (mkF m 45 #[.val (.ref a), .val (.ref b), .val (.int (Int32.ofNat o)), .val (.int (Int32.ofNat len)), .val .null, .val (.ref s.heap.size)] [.int (Int32.ofNat len), .ref s.heap.size, .ref a])) := c9.trans (by
      refine XS.astore X8.here hexec rfl (hb hbytes d39) rfl rfl rfl ?_
      refine XS.aloadN X8.here hexec rfl (hb hbytes d41) rfl rfl ?_
      refine XS.aload X8.here hexec rfl (hb hbytes d42) rfl rfl ?_
      refine XS.iloadN X8.here hexec rfl (hb hbytes d44) rfl ?_
      exact Steps.refl _)
    rw [n4]; exact hc
  obtain ⟨v11, T11, X11, E11, g11⟩ := X8.callS hexec (CodL.law l s.heap.size N) hown (wks W (staticW "java/lang/String" 47 CodL.yN)) (wk W CodL.tab) (W := 1) (Nat.le_of_ble_eq_true rfl) (Nat.le_of_ble_eq_true rfl) (Nat.le_refl _) (by show 0 + len + 0 ≤ len; omega) (g := (mkF m 45 #[.val (.ref a), .val (.ref b), .val (.int (Int32.ofNat o)), .val (.int (Int32.ofNat len)), .val .null, .val (.ref s.heap.size)] [.int (Int32.ofNat N.slots.size), .ref s.heap.size, .ref a])) rfl (by rw [hml]; rfl) c10 (argsL := [.ref s.heap.size, .int (Int32.ofNat N.slots.size)]) (rest := [.ref a]) rfl rfl (by show 2 * 0 + (1 + 0) ≤ _; decide) (hb hbytes d45) (⟨rfl, n1⟩)
  obtain ⟨rfl, q11⟩ := E11
  have hB11 := hB1.mv (X8.warmed.alike.symm.trans X11.warmed.alike) q11
  have c12 : Steps p.tables e below (s₁.setTop (entryFrame m #[.ref a, .ref b, .int (Int32.ofNat o), .int (Int32.ofNat len), .null] 6)) (T11.setTop (mkF m 48 #[.val (.ref a), .val (.ref b), .val (.int (Int32.ofNat o)), .val (.int (Int32.ofNat len)), .val .null, .val (.ref s.heap.size)] [.int 0, .ref a])) := g11
  obtain ⟨T13, X13, p13, bl13, sl13, st13⟩ := X11.finit hexec hown (wk W (.fieldLink "java/lang/String" 15 "java/lang/String" "coder" "B")) (Or.inr ⟨_, (wk W (.laysFinal "java/lang/String" "java/lang/String" "coder" "B"))⟩) (Or.inl ⟨rfl, hnm⟩) f2 (Or.inl rfl) hB11 (t := .byte) (by decide +kernel) rfl (g := (mkF m 48 #[.val (.ref a), .val (.ref b), .val (.int (Int32.ofNat o)), .val (.int (Int32.ofNat len)), .val .null, .val (.ref s.heap.size)] [.int 0, .ref a])) rfl (rest := []) rfl (hb hbytes d48)
  have c14 : Steps p.tables e below (s₁.setTop (entryFrame m #[.ref a, .ref b, .int (Int32.ofNat o), .int (Int32.ofNat len), .null] 6)) (T13.setTop (mkF m 54 #[.val (.ref a), .val (.ref b), .val (.int (Int32.ofNat o)), .val (.int (Int32.ofNat len)), .val .null, .val (.ref s.heap.size)] [.ref s.heap.size, .ref a])) := (c12.trans (st13 _ (Steps.refl _))).trans (by
    refine XS.aloadN X13.here hexec rfl (hb hbytes d51) rfl rfl ?_
    refine XS.aload X13.here hexec rfl (hb hbytes d52) rfl rfl ?_
    exact Steps.refl _)
  obtain ⟨T15, X15, p15, bl15, sl15, st15⟩ := X13.finit hexec hown (wk W (.fieldLink "java/lang/String" 9 "java/lang/String" "value" "[B")) (Or.inr ⟨_, (wk W (.laysFinal "java/lang/String" "java/lang/String" "value" "[B"))⟩) (Or.inl ⟨rfl, hnm⟩) f1 (Or.inl rfl) bl13 (t := (.array .byte)) (by decide +kernel) rfl (g := (mkF m 54 #[.val (.ref a), .val (.ref b), .val (.int (Int32.ofNat o)), .val (.int (Int32.ofNat len)), .val .null, .val (.ref s.heap.size)] [.ref s.heap.size, .ref a])) rfl (rest := []) rfl (hb hbytes d54)
  have c16 : Steps p.tables e below (s₁.setTop (entryFrame m #[.ref a, .ref b, .int (Int32.ofNat o), .int (Int32.ofNat len), .null] 6)) (T15.setTop (mkF m 57 #[.val (.ref a), .val (.ref b), .val (.int (Int32.ofNat o)), .val (.int (Int32.ofNat len)), .val .null, .val (.ref s.heap.size)] [])) := c14.trans (st15 _ (Steps.refl _))
  have ap := apart (Or.inr ⟨_, (wk W (.laysFinal "java/lang/String" "java/lang/String" "value" "[B"))⟩) (Or.inr ⟨_, (wk W (.laysFinal "java/lang/String" "java/lang/String" "coder" "B"))⟩) f1 f2 (t₁ := .array .byte) (t₂ := .byte) (by decide +kernel) (by decide +kernel) (by decide)
  have al := X8.warmed.alike.symm.trans X15.warmed.alike
  have n7 : T11.heap[s.heap.size]? = some N := by rw [q11]; exact n1.1
  exact ⟨T15, none, _, _, _, X15, by simp, rfl, by omega, (fun _ => rfl), ⟨rfl, _, N, bl15, ((Same.refl D _).set _ (by simp)).set _ (by simp), sl15, (Cell.slots_setSlot_ne _ ap).trans sl13, n1.keep al (p15.other hne (p13.other hne n7)), n2, by rw [al.findClass]; exact n3, n4, n5, fun y c h1 h2 => p15.other h1 (p13.other h1 (by rw [q11]; exact n6 y c h2)), by rw [p15.2.2, p13.2.2, q11]; exact z8⟩, fun fs hl => c16.trans (X15.returnOut hexec hret (hb hbytes d57) hl)⟩
end New4
namespace New1
def yN : MethodName := ⟨"java/lang/String", "<init>", "([C)V"⟩
abbrev yB : ByteArray := jdk_42_method_3_code
theorem d0 : decode yB 0 = .ok (.aload_n 0, 1) := by decide +kernel
theorem d1 : decode yB 1 = .ok (.aload_n 1, 1) := by decide +kernel
theorem d2 : decode yB 2 = .ok (.iconst 0, 1) := by decide +kernel
theorem d3 : decode yB 3 = .ok (.aload_n 1, 1) := by decide +kernel
theorem d4 : decode yB 4 = .ok (.arraylength, 1) := by decide +kernel
theorem d5 : decode yB 5 = .ok (.aconst_null, 1) := by decide +kernel
theorem d6 : decode yB 6 = .ok (.invokespecial 27, 3) := by decide +kernel
theorem d9 : decode yB 9 = .ok (.return_, 1) := by decide +kernel
def site : List Cond := [New4.tab] ++ initW "java/lang/String" 27 New4.yN
def tab : Cond := tabOf yN yB 2 none site
def P (a : Addr) (D : Cell) (fV fC : Field) (b : Addr) (A : Cell) (z : Int32) (args : Array Value) (s : State) : Prop := args = #[.ref a, .ref b] ∧ Blank "java/lang/String" a D s ∧ Found "java/lang/String" "value" "[B" fV s ∧ Found "java/lang/String" "coder" "B" fC s ∧ Ch b A s ∧ StaticIs s "java/lang/String" "COMPACT_STRINGS" "Z" (.int z) ∧ ¬ z = 0 ∧ 0 < A.slots.size ∧ A.slots.size ≤ 536870912 ∧ ∀ i, i < A.slots.size → ¬ 255 < cv A i
def E (a : Addr) (D : Cell) (fV fC : Field) (A : Cell) (r : Option Value) (s u : State) : Prop := Got a D fV fC A 0 A.slots.size r s u
/-- new String(chars), not empty, no char above 255: a Latin-1 String of their low bytes -/
theorem law (l : Launch) (a : Addr) (D : Cell) (fV fC : Field) (b : Addr) (A : Cell) (z : Int32) : Law l yN 2 1 3 52 yB 2 none site (P a D fV fC b A z) (E a D fV fC A) [⟨a, fC.slot⟩, ⟨a, fV.slot⟩] 1 A.slots.size := by
  refine Law.of_walk (plainFor_of_name (by decide +kernel)) (by decide +kernel) (by decide +kernel) (by decide) (fun _ _ h => by rw [h.1]; rfl) (fun _ U U' hal hh h => ⟨h.1, h.2.1.mv hal hh, h.2.2.1.al hal, h.2.2.2.1.al hal, h.2.2.2.2.1.mv hal hh, h.2.2.2.2.2.1.there hal hh, h.2.2.2.2.2.2⟩) (fun r U U' V V' h1 hal h2 h => Got.mv r U U' V V' h1 hal h2 h) ?_
  intro p e s m args below meth c s₁ X0 hexec hbytes hml hret hlk hnm hown hh0 W hP
  obtain ⟨rfl, hB, f1, f2, hA, s1, hz, l0, l2, hp⟩ := hP
  have c1 : Steps p.tables e below (s₁.setTop (entryFrame m #[.ref a, .ref b] 2)) (s₁.setTop (mkF m 0 #[.val (.ref a), .val (.ref b)] [])) := entry rfl
  have c2 : Steps p.tables e below (s₁.setTop (entryFrame m #[.ref a, .ref b] 2)) (s₁.setTop (mkF m 6 #[.val (.ref a), .val (.ref b)] [.null, .int (Int32.ofNat A.slots.size), .int 0, .ref b, .ref a])) := c1.trans (by
    refine XS.aloadN X0.here hexec rfl (hb hbytes d0) rfl rfl ?_
    refine XS.aloadN X0.here hexec rfl (hb hbytes d1) rfl rfl ?_
    refine iconstV X0.here hexec rfl 0 (hb hbytes d2) (by decide) ?_
    refine XS.aloadN X0.here hexec rfl (hb hbytes d3) rfl rfl ?_
    refine X0.alen hexec (hA.1.mv X0.warmed.alike hh0) rfl rfl (hb hbytes d4) ?_
    refine XS.aconstNull X0.here hexec rfl (hb hbytes d5) ?_
    exact Steps.refl _)
  obtain ⟨v3, T3, X3, E3, g3⟩ := X0.callN hexec (New4.law l a D fV fC b A z 0 A.slots.size) rfl hown (wks W (initW "java/lang/String" 27 New4.yN)) (W New4.tab (by simp only [site, List.mem_cons, List.mem_append, true_or, or_true])) (W := 0) (Nat.le_of_ble_eq_true rfl) (Nat.le_of_ble_eq_true rfl) (Nat.le_refl _) (by show 0 + A.slots.size ≤ A.slots.size; omega) (g := (mkF m 6 #[.val (.ref a), .val (.ref b)] [.null, .int (Int32.ofNat A.slots.size), .int (Int32.ofNat 0), .ref b, .ref a])) rfl (by rw [hml]; rfl) c2 (argsL := [.ref b, .int (Int32.ofNat 0), .int (Int32.ofNat A.slots.size), .null]) (rest := []) rfl rfl (by show 2 * 0 + 0 ≤ _; decide) (hb hbytes d6) (⟨rfl, hB.mv X0.warmed.alike hh0, f1.al X0.warmed.alike, f2.al X0.warmed.alike, hA.mv X0.warmed.alike hh0, s1.there X0.warmed.alike hh0, hz, l0, by omega, l2, fun i hi => by rw [Nat.zero_add]; exact hp i hi⟩)
  have e0 := Got.mv _ s₁ s _ _ hh0.symm (Vm.Alike.refl _) rfl E3
  obtain rfl := e0.1
  have c4 : Steps p.tables e below (s₁.setTop (entryFrame m #[.ref a, .ref b] 2)) (T3.setTop (mkF m 9 #[.val (.ref a), .val (.ref b)] [])) := g3
  exact ⟨T3, none, _, _, _, X3, by simp, rfl, by omega, (fun _ => rfl), e0, fun fs hl => c4.trans (X3.returnOut hexec hret (hb hbytes d9) hl)⟩
theorem pays {l : Launch} {R : Room} {p : Program} {e : Env} {below : List Frame} {s : State} {sargs : Array Value} {len W : Nat} (a : Addr) (D : Cell) (fV fC : Field) (b : Addr) (A : Cell) (z : Int32) (htab : tab.before sargs s = true) (hfr : 4 ≤ R.frames) (hlo : W + 65 ≤ R.locals) :
    Back l R p e below s sargs yN len W (fun A₁ a₁ => A₁.cells + 1 ≤ R.cells ∧ A₁.slots + A.slots.size ≤ R.slots ∧ P a D fV fC b A z a₁ A₁.U) (fun A₁ _ v₁ B₁ => E a D fV fC A v₁ A₁.U B₁.U ∧ B₁.locs = A₁.locs ++ [⟨a, fC.slot⟩, ⟨a, fV.slot⟩] ∧ B₁.cells = A₁.cells + 1 ∧ B₁.slots = A₁.slots + A.slots.size) :=
  (law l a D fV fC b A z).pays htab hfr (by omega)
end New1
/-- the byte, read back as charAt reads it, is the char -/
theorem lo8_mask {x : Int32} (h0 : ¬ x < 0) (h1 : ¬ 255 < x) : lo8 x &&& 255 = x := by
  have t : ∀ k : Fin 256, lo8 (Int32.ofNat k.val) &&& 255 = Int32.ofNat k.val := by decide +kernel
  rw [Int32.lt_iff_toInt_lt] at h0 h1
  have e0 : (0 : Int32).toInt = 0 := rfl
  have e1 : (255 : Int32).toInt = 255 := rfl
  obtain ⟨k, hk⟩ : ∃ k : Nat, x.toInt = k := ⟨x.toInt.toNat, by omega⟩
  have hx : x = Int32.ofNat k := Int32.toInt_inj.mp (by rw [hk, Int32.toInt_ofNat_small (by omega)])
  rw [hx]
  exact t ⟨k, by omega⟩
end StrChars
namespace StrChars.Road
open Jvm Sem ClassFile Op Lib Jvm.Stand Jvm.Free Jvm.Free.XT
open Jvm.Lib.Cold (StaticIs)
abbrev ST : String := "java/lang/String"
/-- every table word that New1's law asks, flat -/
abbrev words : List Jvm.Cond := [.code New1.yN New1.yB 2 none, .initialized ST, .methodLink ST 27 New4.yN, .instanceMethod New4.yN,
  .code New4.yN New4.yB 6 none, .fieldLink ST 38 ST "COMPACT_STRINGS" "Z", .laysFinal ST ST "value" "[B", .fieldLink ST 9 ST "value" "[B", .laysFinal ST ST "coder" "B", .fieldLink ST 15 ST "coder" "B",
  .methodLink ST 1 Lib.objectInit, .instanceMethod Lib.objectInit, .code Lib.objectInit ⟨#[0xb1]⟩ 1 none, .methodLink ST 177 Cmp3.yN, .static Cmp3.yN, .methodLink ST 47 CodL.yN, .static CodL.yN,
  .code Cmp3.yN Cmp3.yB 6 (some (.array .byte)), .initialized U16, .arrayClass .byte, .methodLink U16 115 Cmp5.yN, .static Cmp5.yN, .code Cmp5.yN Cmp5.yB 7 (some .int), .code CodL.yN CodL.yB 2 (some .byte)]
theorem tab_of {a : Array Value} {s : State} (h : ∀ w ∈ words, w.before a s = true) : New1.tab.before a s = true := by
  have h5 : Cmp5.tab.before a s = true := unparts (wk h (.code Cmp5.yN Cmp5.yB 7 (some .int))) (wks h (.initialized Cmp5.yN.cls :: Cmp5.site))
  have hc : CodL.tab.before a s = true := unparts (wk h (.code CodL.yN CodL.yB 2 (some .byte))) (wks h (.initialized CodL.yN.cls :: CodL.site))
  have q5 : ∀ w ∈ Cmp5.tab :: words, w.before a s = true := fun w hw => (List.mem_cons.mp hw).elim (fun e => e ▸ h5) (h w)
  have h3 : Cmp3.tab.before a s = true := unparts (wk q5 (.code Cmp3.yN Cmp3.yB 6 (some (.array .byte)))) (wks q5 (.initialized Cmp3.yN.cls :: Cmp3.site))
  have q3 : ∀ w ∈ Cmp3.tab :: CodL.tab :: words, w.before a s = true := fun w hw => (List.mem_cons.mp hw).elim (fun e => e ▸ h3) fun hw => (List.mem_cons.mp hw).elim (fun e => e ▸ hc) (h w)
  have h4 : New4.tab.before a s = true := unparts (wk q3 (.code New4.yN New4.yB 6 none)) (wks q3 (.initialized New4.yN.cls :: New4.site))
  have q4 : ∀ w ∈ New4.tab :: words, w.before a s = true := fun w hw => (List.mem_cons.mp hw).elim (fun e => e ▸ h4) (h w)
  exact unparts (wk q4 (.code New1.yN New1.yB 2 none)) (wks q4 (.initialized New1.yN.cls :: New1.site))
/-- the words ride from the start Z to the walk's own state -/
theorem moved {Z s : State} {a0 args : Array Value} (hZ : Z.Warmed39 s.vm) (hw : ∀ d ∈ words, d.before a0 Z = true) : ∀ d ∈ words, d.before args s = true := fun d hd => by
  have q := hw d hd
  have t : ∀ d ∈ words, d = .arrayClass .byte ∨ (d.onTables && d.keepsFace) = true := by decide +kernel
  rcases t d hd with rfl | t
  · exact RoadKit.mvA hZ q
  · exact RoadKit.mv hZ q t
/-- WHAT COMES BACK, over the tables of the start Z: h the heap at the call, h' behind it -/
def Q (Z : State) (x : Addr) (A : Cell) (h : Heap) (v : Option Value) (h' : Heap) (L : List Loc) : Prop := v = none ∧ (∀ y ∈ L, y.base = x) ∧ RoadKit.Keep h h' [x] ∧ h'.size = h.size + 1 ∧ RoadKit.Exa Z h' x ST ∧ RoadKit.Fld Z h' x ST "value" "[B" (.ref h.size) ∧ RoadKit.Fld Z h' x ST "coder" "B" (.int 0) ∧
  (∃ V : Cell, RoadKit.Arr Z h' h.size V .byte ∧ V.vm = .none ∧ Z.vm.findClass "[B" = some V.cls ∧ V.slots.size = A.slots.size ∧ ∀ j, j < A.slots.size → V.slots[j]? = some (.int (lo8 (cv A j)))) ∧
  ∀ (O n d : String) (w : Value), RoadKit.Fld Z h x O n d w → RoadKit.slotOf Z O n d ≠ RoadKit.slotOf Z ST "value" "[B" → RoadKit.slotOf Z O n d ≠ RoadKit.slotOf Z ST "coder" "B" → RoadKit.Fld Z h' x O n d w
/-- **new String(chars) AT A CALL, IN THE ROAD'S FORM**: for specialBack behind newO: x the fresh String, b the char[] with the cell A -/
theorem back {p : Program} {l : Launch} {e : Env} {R : Room} {s : State} {args : Array Value} {below : List Frame} {len W : Nat} {Z : State} {a0 : Array Value} {h : Heap} (hZ : Z.Warmed39 s.vm) (hw : ∀ d ∈ words, d.before a0 Z = true) {kI : Nat} (wi : (Jvm.Cond.instantiable ST kI).before a0 Z = true)
    {x b : Addr} {A : Cell} {z : Int32} {v0 c0 : Value} (E : RoadKit.Exa Z h x ST) (V : RoadKit.Fld Z h x ST "value" "[B" v0) (C : RoadKit.Fld Z h x ST "coder" "B" c0) (K : RoadKit.Arr Z h b A .char) (hty : Typed .char A) (S : RoadKit.Sta Z h ST "COMPACT_STRINGS" "Z" (.int z)) (hz : ¬ z = 0)
    (l0 : 0 < A.slots.size) (l2 : A.slots.size ≤ 536870912) (hp : ∀ i, i < A.slots.size → ¬ 255 < cv A i) (hfr : 4 ≤ R.frames) (hlo : W + 65 ≤ R.locals) :
    Back l R p e below s args New1.yN len W (fun P a => a = #[.ref x, .ref b] ∧ P.U.heap = h ∧ P.cells + 1 ≤ R.cells ∧ P.slots + A.slots.size ≤ R.slots)
      (fun P _ v B => ∃ L, Q Z x A h v B.U.heap L ∧ B.locs = P.locs ++ L ∧ B.cells = P.cells + 1 ∧ B.slots = P.slots + A.slots.size) := by
  intro m meth c P g ig mk a X hg hsize hdg hW hn hp'
  obtain ⟨rfl, rfl, r1, r2⟩ := hp'
  have al : Z.vm.Alike P.U.vm := hZ.alike.trans X.warmed.alike
  obtain ⟨D, cfV, kV, iV, fV, hD, gV, stV, knV, obV, asV, slV⟩ := id V
  obtain ⟨D', cfC, kC, iC, fC, hD', gC, stC, -, -, asC, slC⟩ := id C
  cases hD.symm.trans hD'
  obtain ⟨D2, kD, e1, e2, e3, e4, e5⟩ := id E
  cases hD.symm.trans e1
  obtain ⟨c2, k2, i1, i2, i3, -⟩ := Cond.instantiable_spec wi
  cases e2.symm.trans i1
  cases e3.symm.trans i2
  obtain ⟨kU, u1, u2⟩ := al.2.2 _ _ e3
  have hB : Blank ST x D P.U := ⟨hD, ⟨knV, fun q hq => by rw [hq] at obV; cases obV⟩, by rw [al.findClass]; exact e2, kU, u1, by rw [u2]; exact i3, by rw [u2]; exact e5 i3⟩
  have F1 : Found ST "value" "[B" fV P.U := ⟨SBG.found_only al ⟨cfV, kV, iV, gV⟩, stV⟩
  have F2 : Found ST "coder" "B" fC P.U := ⟨SBG.found_only al ⟨cfC, kC, iC, gC⟩, stC⟩
  have hA : Ch b A P.U := ⟨⟨K.1, State.isArrayOf_alike al K.2.1, K.2.2, by omega⟩, hty⟩
  have hS : StaticIs P.U ST "COMPACT_STRINGS" "Z" (.int z) := by
    obtain ⟨cfS, iS, kS, fS, st, cS, t1, t2, t3, t4, t5, t6, t7⟩ := S
    exact StaticIs.there (s := { Z with heap := P.U.heap }) ⟨cfS, iS, kS, fS, st, cS, t1, t2, t3, t4, t5, (fun q => by rw [q] at t6; cases t6), t7⟩ al rfl
  obtain ⟨v, B, X', ⟨⟨hv, E', V', q1, q2, q3, q4, q5, q6, q7, q8, q9, q10, q11⟩, hl, hc, hs⟩, st⟩ := New1.pays x D fV fC b A z (tab_of (moved hZ hw)) hfr hlo m meth c P g ig mk _ X hg hsize hdg hW hn ⟨r1, r2, rfl, hB, F1, F2, hA, hS, hz, l0, l2, hp⟩
  have al' : Z.vm.Alike B.U.vm := hZ.alike.trans X'.warmed.alike
  have hsz : E'.slots.size = D.slots.size := by
    obtain ⟨-, -, -, kB, w1, w2, w3⟩ := q1
    obtain ⟨kB', y1, y2⟩ := al'.2.2 _ _ e3
    rw [q2.2.1] at w1
    cases w1.symm.trans y1
    rw [w3, e5 i3, y2]
  refine ⟨v, B, X', ⟨_, ⟨hv, ?_, ⟨by omega, fun y cy hy hn' => q10 y cy (by simpa using hn') hy, fun y cy hy => ?_⟩, q11, ⟨E', _, q1.1, by rw [q2.2.1]; exact e2, by rw [q2.2.1]; exact e3, by rw [q2.1]; exact obV, fun _ => by rw [hsz]; exact e5 i3⟩,
    ⟨E', cfV, kV, iV, fV, q1.1, gV, stV, by rw [q2.1]; exact knV, by rw [q2.1]; exact obV, by rw [q2.2.1]; exact asV, q3⟩, ⟨E', cfC, kC, iC, fC, q1.1, gC, stC, by rw [q2.1]; exact knV, by rw [q2.1]; exact obV, by rw [q2.2.1]; exact asC, q4⟩,
    ⟨V', ⟨q5.1, State.isArrayOf_alike al'.symm q5.2.1, q5.2.2.1⟩, q6, by rw [← al'.findClass]; exact q7, q8, fun j hj => by have := q9 j hj; rwa [Nat.zero_add] at this⟩, fun O n d w F n1 n2 => ?_⟩, hl, hc, hs⟩, st⟩
  · intro y hy
    simp only [List.mem_cons, List.not_mem_nil, or_false] at hy
    rcases hy with rfl | rfl <;> rfl
  · by_cases q : y = x
    · subst q
      cases hD.symm.trans hy
      exact ⟨E', q1.1, q2.2.1, q2.1, hsz⟩
    · exact ⟨cy, q10 y cy q hy, rfl, rfl, rfl⟩
  · obtain ⟨D3, cf, k, i, f, g1, g2, g3, g4, g5, g6, g7⟩ := F
    cases hD.symm.trans g1
    simp only [RoadKit.slotOf, g2, gV, gC, Option.map_some, Option.getD_some] at n1 n2
    exact ⟨E', cf, k, i, f, q1.1, g2, g3, by rw [q2.1]; exact g4, by rw [q2.1]; exact g5, by rw [q2.2.1]; exact g6, by rw [q2.2.2 f.slot (by simp [n1, n2])]; exact g7⟩
end StrChars.Road
namespace StrChars.Road
open Jvm Sem ClassFile Op Lib Jvm.Stand Jvm.Free Jvm.Free.XT
/-- WHAT COMES BACK, the byte[] as a list of values -/
def QA (Z : State) (x : Addr) (zn : Int32) (cs : List Int32) (h : Heap) (v : Option Value) (h' : Heap) (L : List Loc) : Prop := v = none ∧ (∀ y ∈ L, y.base = x) ∧ RoadKit.Keep h h' [x] ∧ h'.size = h.size + 1 ∧ RoadKit.Exa Z h' x ST ∧ RoadKit.Fld Z h' x ST "value" "[B" (.ref h.size) ∧ RoadKit.Fld Z h' x ST "coder" "B" (.int 0) ∧
  (∃ kb, Z.vm.findClass "[B" = some kb ∧ RoadKit.Arv Z h' h.size kb .byte zn (cs.map fun c => .int (lo8 c)) (.int 0)) ∧
  ∀ (O n d : String) (w : Value), RoadKit.Fld Z h x O n d w → RoadKit.slotOf Z O n d ≠ RoadKit.slotOf Z ST "value" "[B" → RoadKit.slotOf Z O n d ≠ RoadKit.slotOf Z ST "coder" "B" → RoadKit.Fld Z h' x O n d w
/-- **new String(chars) AT A CALL, THE ARRAYS AS LISTS**: the char[] at b holds cs, not empty, no char above 255 -/
theorem backArv {p : Program} {l : Launch} {e : Env} {R : Room} {s : State} {args : Array Value} {below : List Frame} {len W : Nat} {Z : State} {a0 : Array Value} {h : Heap} (hZ : Z.Warmed39 s.vm) (hw : ∀ d ∈ words, d.before a0 Z = true) {kI : Nat} (wi : (Jvm.Cond.instantiable ST kI).before a0 Z = true)
    {x b : Addr} {k : ClassId} {zn z : Int32} {cs : List Int32} {dv v0 c0 : Value} (E : RoadKit.Exa Z h x ST) (V : RoadKit.Fld Z h x ST "value" "[B" v0) (C : RoadKit.Fld Z h x ST "coder" "B" c0) (K : RoadKit.Arv Z h b k .char zn (cs.map Value.int) dv) (S : RoadKit.Sta Z h ST "COMPACT_STRINGS" "Z" (.int z)) (hz : ¬ z = 0)
    (hlen : zn.toNatClampNeg = cs.length) (h0 : 0 < cs.length) (hbig : cs.length ≤ 536870912) (hall : ∀ c ∈ cs, ¬ 255 < c) (hfr : 4 ≤ R.frames) (hlo : W + 65 ≤ R.locals) :
    Back l R p e below s args New1.yN len W (fun P a => a = #[.ref x, .ref b] ∧ P.U.heap = h ∧ P.cells + 1 ≤ R.cells ∧ P.slots + cs.length ≤ R.slots)
      (fun P _ v B => ∃ L, QA Z x zn cs h v B.U.heap L ∧ B.locs = P.locs ++ L ∧ B.cells = P.cells + 1 ∧ B.slots = P.slots + cs.length) := by
  obtain ⟨A, K1, K2, K3, K4, K5, K6⟩ := K
  have e : A.slots.size = cs.length := K3.trans hlen
  have hat : ∀ (i : Nat) (hi : i < cs.length), A.slots[i]? = some (.int cs[i]) := fun i hi => by rw [K5 i (by omega)]; simp [List.getD_eq_getElem?_getD, hi]
  have hcv : ∀ (i : Nat) (hi : i < cs.length), cv A i = cs[i] := fun i hi => by unfold cv; rw [hat i hi]
  have hty : Typed .char A := fun i v hv => by
    have hi : i < A.slots.size := (Array.getElem?_eq_some_iff.mp hv).1
    have q := K5 i hi
    rw [hv] at q
    rw [Option.some.inj q]
    exact K6 i hi
  refine Back.mono (back hZ hw wi E V C K1 hty S hz (by omega) (by omega) (fun i hi => by rw [hcv i (by omega)]; exact hall _ (List.getElem_mem _)) hfr hlo) (fun P a hp => ⟨hp.1, hp.2.1, hp.2.2.1, by rw [e]; exact hp.2.2.2⟩) (fun P a v B hp hq => ?_)
  obtain ⟨L, ⟨q1, q2, q3, q4, q5, q6, q7, ⟨V', v1, v2, v3, v4, v5⟩, q9⟩, hl, hc, hs⟩ := hq
  refine ⟨L, ⟨q1, q2, q3, q4, q5, q6, q7, ⟨V'.cls, v3, V', v1, rfl, by rw [v4, e, hlen], K4, fun i hi => ?_, fun i hi => ?_⟩, q9⟩, hl, hc, by rw [hs, e]⟩
  · have hi' : i < cs.length := by omega
    rw [v5 i (by omega), hcv i hi']; simp [List.getD_eq_getElem?_getD, hi']
  · have hi' : i < cs.length := by omega
    simp only [List.getD_eq_getElem?_getD, List.getElem?_map, List.getElem?_eq_getElem hi', Option.map_some, Option.getD_some]
    exact fits_lo8 _
end StrChars.Road
namespace StrChars.Road
open Jvm Sem ClassFile Op Lib Jvm.Stand Jvm.Free Jvm.Free.XT
/-- WHAT COMES BACK, in the writer's own shape -/
def QV (Z : State) (x : Addr) (N : Int32) (bs : List Int32) (h : Heap) (n0 : Nat) (v : Option Value) (h' : Heap) (L : List Loc) : Prop := v = none ∧ RoadKit.Fr n0 L ∧ RoadKit.Keep h h' [x] ∧ RoadKit.Exa Z h' x ST ∧ RoadKit.Fld Z h' x ST "coder" "B" (.int 0) ∧
  ∃ (t : Addr) (kb : ClassId), n0 ≤ t ∧ h.size ≤ t ∧ ¬ t = x ∧ RoadKit.Fld Z h' x ST "value" "[B" (.ref t) ∧ RoadKit.Arv Z h' t kb .byte N (bs.map Value.int) (.int 0)
/-- **new String(chars) AT A CALL, FOR THE WRITER**: a char[] of n known ints, each 0 to 255 -/
theorem backV {p : Program} {l : Launch} {e : Env} {R : Room} {s : State} {args : Array Value} {below : List Frame} {len W : Nat} {Z : State} {a0 : Array Value} {h : Heap} (hZ : Z.Warmed39 s.vm) (hw : ∀ d ∈ words, d.before a0 Z = true) {kI : Nat} (wi : (Jvm.Cond.instantiable ST kI).before a0 Z = true)
    {x b : Addr} {kC : ClassId} {cs bs : List Int32} {d v0 c0 : Value} {z N : Int32} {n n0 : Nat} (hx0 : n0 ≤ x) (hh0 : n0 ≤ h.size) (E : RoadKit.Exa Z h x ST) (V : RoadKit.Fld Z h x ST "value" "[B" v0) (C : RoadKit.Fld Z h x ST "coder" "B" c0) (K : RoadKit.Arv Z h b kC .char N (cs.map Value.int) d) (S : RoadKit.Sta Z h ST "COMPACT_STRINGS" "Z" (.int z)) (hz : ¬ z = 0)
    (hn : cs.length = n) (hN : N = Int32.ofNat n) (l0 : 0 < n) (l2 : n ≤ 4000) (hp : ∀ c ∈ cs, ¬ c < 0 ∧ ¬ (255 : Int32) < c) (hb : bs = cs.map (fun c => c.toInt8.toInt32)) (hfr : 4 ≤ R.frames) (hlo : W + 65 ≤ R.locals) :
    Back l R p e below s args (⟨"java/lang/String", "<init>", "([C)V"⟩ : MethodName) len W (fun P a => a = #[.ref x, .ref b] ∧ P.U.heap = h ∧ P.cells + 1 ≤ R.cells ∧ P.slots + n ≤ R.slots)
      (fun P _ v B => ∃ L, QV Z x N bs h n0 v B.U.heap L ∧ B.locs = P.locs ++ L ∧ B.cells = P.cells + 1 ∧ B.slots = P.slots + n) := by
  subst hn hN hb
  refine Back.mono (backArv hZ hw wi E V C K S hz (n32 (by omega)) l0 (by omega) (fun c hc => (hp c hc).2) hfr hlo) (fun P a hp => hp) (fun P a v B hp hq => ?_)
  obtain ⟨L, ⟨q1, q2, q3, q4, q5, q6, q7, ⟨kb, v1, v2⟩, q9⟩, hl, hc, hs⟩ := hq
  exact ⟨L, ⟨q1, fun y hy => by rw [q2 y hy]; exact hx0, q3, q5, q7, h.size, kb, hh0, Nat.le_refl _, Nat.ne_of_gt E.lt, q6, by rw [List.map_map]; exact v2⟩, hl, hc, hs⟩
end StrChars.Road
namespace StrChars
open Jvm Sem ClassFile Op Lib Jvm.Stand Jvm.Free.XT Jvm.Free.ALB Jvm.Free.JM Jvm.Free
open Jvm.Lib.Cold (StaticIs)
def hi8 (x : Int32) : Int32 := lo8 (x >>> ((8 : Int32) &&& 31))
/-- what StringUTF16.getChar makes of two bytes -/
def pairCh (u v : Int32) : Int32 := (((u &&& 255) <<< ((0 : Int32) &&& 31)) ||| ((v &&& 255) <<< ((8 : Int32) &&& 31))).toUInt32.toUInt16.toUInt32.toInt32
theorem lo8_and (x : Int32) : (lo8 x &&& 255).toBitVec.toNat = x.toBitVec.toNat % 256 := by
  have h : (lo8 x).toBitVec = (x.toBitVec.signExtend 8).signExtend 32 := by rw [lo8, Int8.toBitVec_toInt32, Int32.toBitVec_toInt8]
  rw [Int32.toBitVec_and, BitVec.toNat_and, h]
  have e : ((x.toBitVec.signExtend 8).signExtend 32).toNat % 256 = x.toBitVec.toNat % 256 := by
    rw [BitVec.toNat_signExtend]
    have hlt := x.toBitVec.isLt
    simp only [BitVec.toNat_setWidth, BitVec.toNat_signExtend]
    split <;> split <;> omega
  rw [← e]
  exact Nat.and_two_pow_sub_one_eq_mod _ 8
theorem pair_says {c : Int32} (h0 : ¬ c < 0) (h1 : ¬ 65535 < c) : pairCh (lo8 c) (hi8 c) = c := by
  rw [Int32.lt_iff_toInt_lt] at h0 h1
  have e0 : (0 : Int32).toInt = 0 := rfl
  have e1 : (65535 : Int32).toInt = 65535 := rfl
  have hc : c.toInt = c.toBitVec.toNat := by
    have := c.toBitVec.isLt
    have e : c.toInt = c.toBitVec.toInt := rfl
    rw [e] at h0 h1
    rw [e]
    rw [BitVec.toInt_eq_toNat_cond] at h0 h1 ⊢
    split at h0 <;> split <;> omega
  have hn : c.toBitVec.toNat < 65536 := by omega
  have a1 := lo8_and c
  have a2 : (hi8 c &&& 255).toBitVec.toNat = c.toBitVec.toNat / 256 := by
    rw [hi8, lo8_and]
    have e : ((8 : Int32) &&& 31) = 8 := by decide
    rw [e, Int32.toBitVec_shiftRight]
    have e2 : ((8 : Int32).toBitVec.smod 32) = 8#32 := by decide
    rw [e2, BitVec.sshiftRight_eq', BitVec.toNat_sshiftRight_of_msb_false (by rw [BitVec.msb_eq_false_iff_two_mul_lt]; omega)]
    show c.toBitVec.toNat >>> 8 % 256 = _
    rw [Nat.shiftRight_eq_div_pow]
    omega
  unfold pairCh
  apply Int32.toBitVec_inj.mp
  apply BitVec.eq_of_toNat_eq
  have f0 : ((0 : Int32) &&& 31) = 0 := by decide
  have f8 : ((8 : Int32) &&& 31) = 8 := by decide
  rw [f0, f8]
  have g : (((lo8 c &&& 255) <<< (0 : Int32)) ||| ((hi8 c &&& 255) <<< (8 : Int32))).toBitVec.toNat = c.toBitVec.toNat := by
    rw [Int32.toBitVec_or, Int32.toBitVec_shiftLeft, Int32.toBitVec_shiftLeft]
    have s0 : ((0 : Int32).toBitVec.smod 32) = 0#32 := by decide
    have s8 : ((8 : Int32).toBitVec.smod 32) = 8#32 := by decide
    rw [s0, s8, BitVec.toNat_or]
    simp only [BitVec.shiftLeft_eq', BitVec.toNat_shiftLeft, a1, a2]
    show (c.toBitVec.toNat % 256) <<< 0 % 2 ^ 32 ||| (c.toBitVec.toNat / 256) <<< 8 % 2 ^ 32 = _
    rw [Nat.shiftLeft_zero, Nat.mod_eq_of_lt (show c.toBitVec.toNat % 256 < 2 ^ 32 by omega), Nat.mod_eq_of_lt (show (c.toBitVec.toNat / 256) <<< 8 < 2 ^ 32 by rw [Nat.shiftLeft_eq]; omega), Nat.or_comm, ← Nat.shiftLeft_add_eq_or_of_lt (by omega), Nat.shiftLeft_eq]
    omega
  show BitVec.toNat (((((lo8 c &&& 255) <<< (0 : Int32)) ||| ((hi8 c &&& 255) <<< (8 : Int32))).toBitVec.setWidth 16).setWidth 32) = _
  rw [BitVec.toNat_setWidth, BitVec.toNat_setWidth, g]
  omega
end StrChars
namespace StrChars
open Jvm Sem ClassFile Op Lib Jvm.Stand Jvm.Free.XT Jvm.Free.ALB Jvm.Free.JM Jvm.Free
open Jvm.Lib.Cold (StaticIs)
/-- the array's cell V codes the n chars f 0 .. f (n - 1) by the coder cd, as the JDK does: coder 1 just where some char is above 255 -/
def Cod (cd : Int32) (n : Nat) (f : Nat → Int32) (V : Cell) : Prop := (cd = 0 ∧ V.slots.size = n ∧ ∀ j, j < n → V.slots[j]? = some (.int (lo8 (f j))) ∧ ¬ 255 < f j) ∨ (cd = 1 ∧ V.slots.size = 2 * n ∧ (∀ j, j < n → V.slots[2 * j]? = some (.int (lo8 (f j))) ∧ V.slots[2 * j + 1]? = some (.int (hi8 (f j)))) ∧ ∃ j, j < n ∧ 255 < f j)
/-- **x is a String of the n chars f 0 .. f (n - 1)**, Latin-1 or UTF-16; its array at t has the cell V -/
def Txt (x t : Addr) (V : Cell) (cd : Int32) (n : Nat) (f : Nat → Int32) (U : State) : Prop := Exact "java/lang/String" x U ∧ Has x "java/lang/String" "value" "[B" (.ref t) U ∧ Has x "java/lang/String" "coder" "B" (.int cd) U ∧ XT.Arr .byte t V U ∧ Cod cd n f V ∧ ∀ j, j < n → ¬ f j < 0 ∧ ¬ 65535 < f j
theorem Txt.mv {x t : Addr} {V : Cell} {cd : Int32} {n : Nat} {f : Nat → Int32} {U U' : State} (h : Txt x t V cd n f U) (hal : U.vm.Alike U'.vm) (hh : U'.heap = U.heap) : Txt x t V cd n f U' := ⟨h.1.mv hal hh, h.2.1.mv hal hh, h.2.2.1.mv hal hh, h.2.2.2.1.mv hal hh, h.2.2.2.2⟩
end StrChars
namespace StrChars.Road
open Jvm Sem ClassFile Op Lib Jvm.Stand Jvm.Free Jvm.Free.XT
open Jvm.Lib.Cold (StaticIs)
theorem consq {a : Array Value} {s : State} {c : Jvm.Cond} {L : List Jvm.Cond} (h0 : c.before a s = true) (h : ∀ w ∈ L, w.before a s = true) : ∀ w ∈ c :: L, w.before a s = true := fun w hw => (List.mem_cons.mp hw).elim (fun e => e ▸ h0) (h w)
/-- the bytes of the chars cs, low before high -/
def wideBytes : List Int32 → List Value
  | [] => []
  | c :: cs => .int (lo8 c) :: .int (hi8 c) :: wideBytes cs
theorem wide_lo (d : Value) : ∀ (cs : List Int32) (j : Nat), j < cs.length → (wideBytes cs).getD (2 * j) d = .int (lo8 (cs.getD j 0))
  | [], j, h => absurd h (Nat.not_lt_zero j)
  | c :: cs, 0, _ => rfl
  | c :: cs, j + 1, h => by
    have q := wide_lo d cs j (by simpa using h)
    rw [show 2 * (j + 1) = 2 * j + 1 + 1 from by omega]
    simpa [wideBytes] using q
theorem wide_hi (d : Value) : ∀ (cs : List Int32) (j : Nat), j < cs.length → (wideBytes cs).getD (2 * j + 1) d = .int (hi8 (cs.getD j 0))
  | [], j, h => absurd h (Nat.not_lt_zero j)
  | c :: cs, 0, _ => rfl
  | c :: cs, j + 1, h => by
    have q := wide_hi d cs j (by simpa using h)
    rw [show 2 * (j + 1) + 1 = 2 * j + 1 + 1 + 1 from by omega]
    simpa [wideBytes] using q
theorem low_at (d : Value) (cs : List Int32) (j : Nat) (h : j < cs.length) : (cs.map fun c => Value.int (lo8 c)).getD j d = .int (lo8 (cs.getD j 0)) := by
  simp [List.getD_eq_getElem?_getD, h]
/-- an array of N2 bytes vs codes the chars cs by the coder cd -/
def CodA (cs : List Int32) (cd N2 : Int32) (vs : List Value) : Prop := (cd = 0 ∧ N2 = Int32.ofNat cs.length ∧ vs = (cs.map fun c => Value.int (lo8 c)) ∧ ∀ c ∈ cs, ¬ 255 < c) ∨ (cd = 1 ∧ N2 = Int32.ofNat (2 * cs.length) ∧ vs = wideBytes cs ∧ ∃ c ∈ cs, 255 < c)
theorem CodA.cod {cs : List Int32} {cd N2 : Int32} {vs : List Value} {V : Cell} (h : CodA cs cd N2 vs) (hn : 2 * cs.length < 2 ^ 31) (hs : V.slots.size = N2.toNatClampNeg) (hv : RoadKit.Has V vs (.int 0)) : Cod cd cs.length (fun j => cs.getD j 0) V := by
  rcases h with ⟨rfl, rfl, rfl, h⟩ | ⟨rfl, rfl, rfl, c, hc, hw⟩
  · rw [n32 (by omega)] at hs
    exact Or.inl ⟨rfl, hs, fun j hj => ⟨by rw [hv j (by omega), low_at _ _ _ hj], by
      have e : cs.getD j 0 = cs[j] := by simp [List.getD_eq_getElem?_getD, hj]
      show ¬ 255 < cs.getD j 0
      rw [e]; exact h _ (List.getElem_mem _)⟩⟩
  · rw [n32 (by omega)] at hs
    obtain ⟨j, hj, rfl⟩ := List.getElem_of_mem hc
    exact Or.inr ⟨rfl, hs, fun j hj => ⟨by rw [hv _ (by omega), wide_lo _ _ _ hj], by rw [hv _ (by omega), wide_hi _ _ _ hj]⟩, j, hj, by
      have e : cs.getD j 0 = cs[j] := by simp [List.getD_eq_getElem?_getD, hj]
      show 255 < cs.getD j 0
      rw [e]; exact hw⟩
/-- an object of exactly java/lang/String, its two fields found: as the laws ask it -/
theorem strObj {Z U : State} {a0 : Array Value} {kI : Nat} (wi : (Jvm.Cond.instantiable ST kI).before a0 Z = true) (al : Z.vm.Alike U.vm) {x : Addr} {v0 c0 : Value} (E : RoadKit.Exa Z U.heap x ST) (V : RoadKit.Fld Z U.heap x ST "value" "[B" v0) (C : RoadKit.Fld Z U.heap x ST "coder" "B" c0) :
    ∃ (D : Cell) (fV fC : Field), Blank ST x D U ∧ Found ST "value" "[B" fV U ∧ Found ST "coder" "B" fC U ∧ D.slots[fV.slot]? = some v0 ∧ D.slots[fC.slot]? = some c0 ∧ RoadKit.slotOf Z ST "value" "[B" = fV.slot ∧ RoadKit.slotOf Z ST "coder" "B" = fC.slot := by
  obtain ⟨D, cfV, kV, iV, fV, hD, gV, stV, knV, obV, asV, slV⟩ := V
  obtain ⟨D', cfC, kC, iC, fC, hD', gC, stC, -, -, asC, slC⟩ := C
  cases hD.symm.trans hD'
  obtain ⟨D2, kD, e1, e2, e3, e4, e5⟩ := E
  cases hD.symm.trans e1
  obtain ⟨c2, k2, i1, i2, i3, -⟩ := Cond.instantiable_spec wi
  cases e2.symm.trans i1
  cases e3.symm.trans i2
  obtain ⟨kU, u1, u2⟩ := al.2.2 _ _ e3
  exact ⟨D, fV, fC, ⟨hD, ⟨knV, fun q hq => by rw [hq] at obV; cases obV⟩, by rw [al.findClass]; exact e2, kU, u1, by rw [u2]; exact i3, by rw [u2]; exact e5 i3⟩, ⟨SBG.found_only al ⟨cfV, kV, iV, gV⟩, stV⟩, ⟨SBG.found_only al ⟨cfC, kC, iC, gC⟩, stC⟩, slV, slC, by simp [RoadKit.slotOf, gV], by simp [RoadKit.slotOf, gC]⟩
theorem sta_is {Z U : State} (al : Z.vm.Alike U.vm) {C n d : String} {v : Value} (S : RoadKit.Sta Z U.heap C n d v) : StaticIs U C n d v := by
  obtain ⟨cfS, iS, kS, fS, st, cS, t1, t2, t3, t4, t5, t6, t7⟩ := S
  exact StaticIs.there (s := { Z with heap := U.heap }) ⟨cfS, iS, kS, fS, st, cS, t1, t2, t3, t4, t5, (fun q => by rw [q] at t6; cases t6), t7⟩ al rfl
end StrChars.Road
namespace StrChars
open Jvm Sem ClassFile Op Lib Jvm.Stand Jvm.Free.XT Jvm.Free.ALB Jvm.Free.JM Jvm.Free
open Jvm.Lib.Cold (StaticIs)
/-- what place i of a byte[]'s cell holds -/
def yv (A : Cell) (i : Nat) : Int32 := match A.slots[i]? with | some (.int x) => x | _ => 0
theorem yv_get {a : Addr} {A : Cell} {U : State} (h : XT.Arr .byte a A U) (ht : Typed .byte A) {i : Nat} (hi : i < A.slots.size) : A.slots[i]? = some (.int (yv A i)) := by
  have e := Array.getElem?_eq_getElem hi
  have f := ht i _ e
  unfold yv; rw [e]
  generalize A.slots[i] = v at f
  cases v <;> simp [fits] at f ⊢
/-- the two arrays are equal, place for place -/
def EqC (A B : Cell) : Prop := A.slots.size = B.slots.size ∧ ∀ i, i < A.slots.size → yv A i = yv B i
/-- a boolean that says whether p -/
def Says01 (q : Prop) (r : Option Value) (s u : State) : Prop := ∃ v : Int32, r = some (.int v) ∧ u.heap = s.heap ∧ ((v = 1 ∧ q) ∨ (v = 0 ∧ ¬ q))
theorem Says01.mv {q : Prop} : ∀ r (U U' V V' : State), U'.heap = U.heap → V.vm.Alike V'.vm → V'.heap = V.heap → Says01 q r U V → Says01 q r U' V' :=
  fun r U U' V V' h1 _ h2 ⟨v, a, b, c⟩ => ⟨v, a, by rw [h1, h2]; exact b, c⟩
namespace LEq
def yN : MethodName := ⟨"java/lang/StringLatin1", "equals", "([B[B)Z"⟩
abbrev yB : ByteArray := jdk_43_method_13_code
theorem d0 : decode yB 0 = .ok (.aload_n 0, 1) := by decide +kernel
theorem d1 : decode yB 1 = .ok (.arraylength, 1) := by decide +kernel
theorem d2 : decode yB 2 = .ok (.aload_n 1, 1) := by decide +kernel
theorem d3 : decode yB 3 = .ok (.arraylength, 1) := by decide +kernel
theorem d4 : decode yB 4 = .ok (.if_icmp (.ne) 30, 3) := by decide +kernel
theorem d7 : decode yB 7 = .ok (.iconst 0, 1) := by decide +kernel
theorem d8 : decode yB 8 = .ok (.istore_n 2, 1) := by decide +kernel
theorem d9 : decode yB 9 = .ok (.iload_n 2, 1) := by decide +kernel
theorem d10 : decode yB 10 = .ok (.aload_n 0, 1) := by decide +kernel
theorem d11 : decode yB 11 = .ok (.arraylength, 1) := by decide +kernel
theorem d12 : decode yB 12 = .ok (.if_icmp (.ge) 20, 3) := by decide +kernel
theorem d15 : decode yB 15 = .ok (.aload_n 0, 1) := by decide +kernel
theorem d16 : decode yB 16 = .ok (.iload_n 2, 1) := by decide +kernel
theorem d17 : decode yB 17 = .ok (.baload, 1) := by decide +kernel
theorem d18 : decode yB 18 = .ok (.aload_n 1, 1) := by decide +kernel
theorem d19 : decode yB 19 = .ok (.iload_n 2, 1) := by decide +kernel
theorem d20 : decode yB 20 = .ok (.baload, 1) := by decide +kernel
theorem d21 : decode yB 21 = .ok (.if_icmp (.eq) 5, 3) := by decide +kernel
theorem d24 : decode yB 24 = .ok (.iconst 0, 1) := by decide +kernel
theorem d25 : decode yB 25 = .ok (.ireturn, 1) := by decide +kernel
theorem d26 : decode yB 26 = .ok (.iinc 2 1, 3) := by decide +kernel
theorem d29 : decode yB 29 = .ok (.goto (-20), 3) := by decide +kernel
theorem d32 : decode yB 32 = .ok (.iconst 1, 1) := by decide +kernel
theorem d33 : decode yB 33 = .ok (.ireturn, 1) := by decide +kernel
theorem d34 : decode yB 34 = .ok (.iconst 0, 1) := by decide +kernel
theorem d35 : decode yB 35 = .ok (.ireturn, 1) := by decide +kernel
def site : List Cond := []
def tab : Cond := tabOf yN yB 3 (some .boolean) site
def P (a : Addr) (A : Cell) (b : Addr) (B : Cell) (args : Array Value) (s : State) : Prop := args = #[.ref a, .ref b] ∧ XT.Arr .byte a A s ∧ Typed .byte A ∧ XT.Arr .byte b B s ∧ Typed .byte B
/-- whether two byte[] are equal, place for place -/
theorem law (l : Launch) (a : Addr) (A : Cell) (b : Addr) (B : Cell) : Law l yN 2 2 0 0 yB 3 (some .boolean) site (P a A b B) (Says01 (EqC A B)) [] 0 0 := by
  refine Law.of_walk (plainFor_of_name (by decide +kernel)) (by decide +kernel) (by decide +kernel) (by decide) (fun _ _ h => by rw [h.1]; rfl) (fun _ U U' hal hh h => ⟨h.1, h.2.1.mv hal hh, h.2.2.1, h.2.2.2.1.mv hal hh, h.2.2.2.2⟩) (fun r U U' V V' h1 hal h2 h => Says01.mv r U U' V V' h1 hal h2 h) ?_
  intro p e s m args below meth c s₁ X0 hexec hbytes hml hret hlk hnm hown hh0 W hP
  obtain ⟨rfl, hA, tA, hB, tB⟩ := hP
  have a31 := hA.2.2.2
  have b31 := hB.2.2.2
  have hA0 := hA.mv X0.warmed.alike hh0
  have hB0 := hB.mv X0.warmed.alike hh0
  have c1 : Steps p.tables e below (s₁.setTop (entryFrame m #[.ref a, .ref b] 3)) (s₁.setTop (mkF m 0 #[.val (.ref a), .val (.ref b), .unset] [])) := entry rfl
  have c2 : Steps p.tables e below (s₁.setTop (entryFrame m #[.ref a, .ref b] 3)) (s₁.setTop (mkF m 4 #[.val (.ref a), .val (.ref b), .unset] [.int (Int32.ofNat B.slots.size), .int (Int32.ofNat A.slots.size)])) := c1.trans (by
    refine XS.aloadN X0.here hexec rfl (hb hbytes d0) rfl rfl ?_
    refine X0.alen hexec hA0 rfl rfl (hb hbytes d1) ?_
    refine XS.aloadN X0.here hexec rfl (hb hbytes d2) rfl rfl ?_
    refine X0.alen hexec hB0 rfl rfl (hb hbytes d3) ?_
    exact Steps.refl _)
  by_cases hs : A.slots.size = B.slots.size
  · have c3 : Steps p.tables e below (s₁.setTop (entryFrame m #[.ref a, .ref b] 3)) (s₁.setTop (mkF m 9 #[.val (.ref a), .val (.ref b), .val (.int 0)] [])) := c2.trans (by
      refine XS.icmpNo X0.here hexec rfl (hb hbytes d4) rfl (ii_ne_f (by rw [hs])) ?_
      refine iconstV X0.here hexec rfl 0 (hb hbytes d7) (by decide) ?_
      refine XS.istoreN X0.here hexec rfl (hb hbytes d8) rfl rfl ?_
      exact Steps.refl _)
    have loop : ∀ (r i : Nat), i + r = A.slots.size → (∀ j, j < i → yv A j = yv B j) → Steps p.tables e below (s₁.setTop (entryFrame m #[.ref a, .ref b] 3)) (s₁.setTop (mkF m 9 #[.val (.ref a), .val (.ref b), .val (.int (Int32.ofNat i))] [])) → ∃ (pc : Nat) (Ls : Array Slot) (v : Int32), (pc = 25 ∨ pc = 33) ∧ ((v = 1 ∧ EqC A B) ∨ (v = 0 ∧ ¬ EqC A B)) ∧ Steps p.tables e below (s₁.setTop (entryFrame m #[.ref a, .ref b] 3)) (s₁.setTop (mkF m pc Ls [.int v])) := by
      intro r
      induction r with
      | zero =>
        intro i hi he cl
        exact ⟨33, _, 1, Or.inr rfl, Or.inl ⟨rfl, hs, fun j hj => he j (by omega)⟩, cl.trans (by
          refine XS.iloadN X0.here hexec rfl (hb hbytes d9) rfl ?_
          refine XS.aloadN X0.here hexec rfl (hb hbytes d10) rfl rfl ?_
          refine X0.alen hexec hA0 rfl rfl (hb hbytes d11) ?_
          refine XS.icmpYes X0.here hexec rfl (pc0 := 12) rfl (hb hbytes d12) rfl (ii_ge_t (nlt32 (by omega) (by omega))) (by decide) rfl ?_
          refine iconstV X0.here hexec rfl 1 (hb hbytes d32) (by decide) ?_
          exact Steps.refl _)⟩
      | succ r ih =>
        intro i hi he cl
        have c4 : Steps p.tables e below (s₁.setTop (entryFrame m #[.ref a, .ref b] 3)) (s₁.setTop (mkF m 21 #[.val (.ref a), .val (.ref b), .val (.int (Int32.ofNat i))] [.int (yv B i), .int (yv A i)])) := cl.trans (by
          refine XS.iloadN X0.here hexec rfl (hb hbytes d9) rfl ?_
          refine XS.aloadN X0.here hexec rfl (hb hbytes d10) rfl rfl ?_
          refine X0.alen hexec hA0 rfl rfl (hb hbytes d11) ?_
          refine XS.icmpNo X0.here hexec rfl (hb hbytes d12) rfl (ii_ge_f (lt32 (by omega) (by omega))) ?_
          refine XS.aloadN X0.here hexec rfl (hb hbytes d15) rfl rfl ?_
          refine XS.iloadN X0.here hexec rfl (hb hbytes d16) rfl ?_
          refine X0.aget hexec hA0 rfl (yv_get hA tA (i := i) (by omega)) rfl rfl (hb hbytes d17) ?_
          refine XS.aloadN X0.here hexec rfl (hb hbytes d18) rfl rfl ?_
          refine XS.iloadN X0.here hexec rfl (hb hbytes d19) rfl ?_
          refine X0.aget hexec hB0 rfl (yv_get hB tB (i := i) (by omega)) rfl rfl (hb hbytes d20) ?_
          exact Steps.refl _)
        by_cases hv : yv A i = yv B i
        · have c5 : Steps p.tables e below (s₁.setTop (entryFrame m #[.ref a, .ref b] 3)) (s₁.setTop (mkF m 9 #[.val (.ref a), .val (.ref b), .val (.int (Int32.ofNat i + 1))] [])) := c4.trans (by
            refine XS.icmpYes X0.here hexec rfl (pc0 := 21) rfl (hb hbytes d21) rfl (ii_eq_t hv) (by decide) rfl ?_
            refine iincV X0.here hexec rfl 1 (hb hbytes d26) (by decide) rfl rfl ?_
            refine XS.goto X0.here hexec rfl (pc0 := 29) rfl (hb hbytes d29) (by decide) rfl ?_
            exact Steps.refl _)
          rw [succ32] at c5
          exact ih (i + 1) (by omega) (fun j hj => by
            by_cases e : j = i
            · rw [e]; exact hv
            · exact he j (by omega)) c5
        · exact ⟨25, _, 0, Or.inl rfl, Or.inr ⟨rfl, fun q => hv (q.2 i (by omega))⟩, c4.trans (by
            refine XS.icmpNo X0.here hexec rfl (hb hbytes d21) rfl (ii_eq_f hv) ?_
            refine iconstV X0.here hexec rfl 0 (hb hbytes d24) (by decide) ?_
            exact Steps.refl _)⟩
    obtain ⟨pc, Ls, v, hpc, hv, cz⟩ := loop A.slots.size 0 (by omega) (fun j hj => absurd hj (Nat.not_lt_zero j)) c3
    have nv : narrow .boolean (.int v) = .int v := by rcases hv with ⟨rfl, -⟩ | ⟨rfl, -⟩ <;> rfl
    rcases hpc with rfl | rfl
    · exact ⟨s₁, some (.int v), _, _, _, X0, rfl, rfl, rfl, (fun h => by cases h), ⟨v, rfl, hh0, hv⟩, fun fs hl => cz.trans (X0.ireturnOut hexec hret nv (Or.inr (Or.inl rfl)) (hb hbytes d25) hl)⟩
    · exact ⟨s₁, some (.int v), _, _, _, X0, rfl, rfl, rfl, (fun h => by cases h), ⟨v, rfl, hh0, hv⟩, fun fs hl => cz.trans (X0.ireturnOut hexec hret nv (Or.inr (Or.inl rfl)) (hb hbytes d33) hl)⟩
  · have c3 : Steps p.tables e below (s₁.setTop (entryFrame m #[.ref a, .ref b] 3)) (s₁.setTop (mkF m 35 #[.val (.ref a), .val (.ref b), .unset] [.int 0])) := c2.trans (by
      refine XS.icmpYes X0.here hexec rfl (pc0 := 4) rfl (hb hbytes d4) rfl (ii_ne_t (ne32 a31 b31 hs)) (by decide) rfl ?_
      refine iconstV X0.here hexec rfl 0 (hb hbytes d34) (by decide) ?_
      exact Steps.refl _)
    exact ⟨s₁, some (.int 0), _, _, _, X0, rfl, rfl, rfl, (fun h => by cases h), ⟨0, rfl, hh0, Or.inr ⟨rfl, fun q => hs q.1⟩⟩, fun fs hl => c3.trans (X0.ireturnOut hexec hret rfl (Or.inr (Or.inl rfl)) (hb hbytes d35) hl)⟩
end LEq
theorem Cod.ty {cd : Int32} {n : Nat} {f : Nat → Int32} {V : Cell} (h : Cod cd n f V) : Typed .byte V := fun i v hv => by
  have hi : i < V.slots.size := (Array.getElem?_eq_some_iff.mp hv).1
  rcases h with ⟨-, k1, k2⟩ | ⟨-, k1, k2, -⟩
  · rw [(k2 i (by omega)).1] at hv; cases hv; exact fits_lo8 _
  · rcases Nat.mod_two_eq_zero_or_one i with e | e
    · obtain ⟨j, rfl⟩ : ∃ j, i = 2 * j := ⟨i / 2, by omega⟩
      rw [(k2 j (by omega)).1] at hv; cases hv; exact fits_lo8 _
    · obtain ⟨j, rfl⟩ : ∃ j, i = 2 * j + 1 := ⟨i / 2, by omega⟩
      rw [(k2 j (by omega)).2] at hv; cases hv; exact fits_lo8 _
/-- the same text -/
def SameT (n : Nat) (f : Nat → Int32) (k : Nat) (g : Nat → Int32) : Prop := n = k ∧ ∀ j, j < n → f j = g j
theorem lo8_inj {x y : Int32} (h0 : ¬ x < 0) (h1 : ¬ 255 < x) (k0 : ¬ y < 0) (k1 : ¬ 255 < y) (h : lo8 x = lo8 y) : x = y := by
  rw [← lo8_mask h0 h1, ← lo8_mask k0 k1, h]
/-- arrays coded by one coder are equal just where the texts are -/
theorem Cod.eqv {cd : Int32} {n k : Nat} {f g : Nat → Int32} {V V' : Cell} (h : Cod cd n f V) (h' : Cod cd k g V') (hf : ∀ j, j < n → ¬ f j < 0 ∧ ¬ 65535 < f j) (hg : ∀ j, j < k → ¬ g j < 0 ∧ ¬ 65535 < g j) : EqC V V' ↔ SameT n f k g := by
  have yvv : ∀ {W : Cell} {i : Nat} {x : Int32}, W.slots[i]? = some (.int x) → yv W i = x := fun q => by unfold yv; rw [q]
  rcases h with ⟨rfl, k1, k2⟩ | ⟨rfl, k1, k2, -⟩
  · rcases h' with ⟨-, m1, m2⟩ | ⟨e, -⟩
    · constructor
      · rintro ⟨e1, e2⟩
        refine ⟨by omega, fun j hj => ?_⟩
        have q := e2 j (by omega)
        rw [yvv (k2 j hj).1, yvv (m2 j (by omega)).1] at q
        exact lo8_inj (hf j hj).1 (k2 j hj).2 (hg j (by omega)).1 (m2 j (by omega)).2 q
      · rintro ⟨rfl, e2⟩
        refine ⟨by omega, fun j hj => ?_⟩
        rw [yvv (k2 j (by omega)).1, yvv (m2 j (by omega)).1, e2 j (by omega)]
    · exact absurd e (by decide)
  · rcases h' with ⟨e, -⟩ | ⟨-, m1, m2, -⟩
    · exact absurd e (by decide)
    · constructor
      · rintro ⟨e1, e2⟩
        refine ⟨by omega, fun j hj => ?_⟩
        have q1 := e2 (2 * j) (by omega)
        have q2 := e2 (2 * j + 1) (by omega)
        rw [yvv (k2 j hj).1, yvv (m2 j (by omega)).1] at q1
        rw [yvv (k2 j hj).2, yvv (m2 j (by omega)).2] at q2
        rw [← pair_says (hf j hj).1 (hf j hj).2, ← pair_says (hg j (by omega)).1 (hg j (by omega)).2, q1, q2]
      · rintro ⟨rfl, e2⟩
        refine ⟨by omega, fun i hi => ?_⟩
        rcases Nat.mod_two_eq_zero_or_one i with e | e
        · obtain ⟨j, rfl⟩ : ∃ j, i = 2 * j := ⟨i / 2, by omega⟩
          rw [yvv (k2 j (by omega)).1, yvv (m2 j (by omega)).1, e2 j (by omega)]
        · obtain ⟨j, rfl⟩ : ∃ j, i = 2 * j + 1 := ⟨i / 2, by omega⟩
          rw [yvv (k2 j (by omega)).2, yvv (m2 j (by omega)).2, e2 j (by omega)]
/-- two codings differ: so do the texts -/
theorem Cod.dif {cd cd' : Int32} {n k : Nat} {f g : Nat → Int32} {V V' : Cell} (h : Cod cd n f V) (h' : Cod cd' k g V') (hne : ¬ cd = cd') : ¬ SameT n f k g := by
  rintro ⟨rfl, e⟩
  rcases h with ⟨rfl, -, k2⟩ | ⟨rfl, -, -, j, hj, hw⟩
  · rcases h' with ⟨rfl, -⟩ | ⟨-, -, -, j, hj, hw⟩
    · exact hne rfl
    · exact (k2 j hj).2 (by rw [e j hj]; exact hw)
  · rcases h' with ⟨-, -, m2⟩ | ⟨rfl, -⟩
    · exact (m2 j hj).2 (by rw [← e j hj]; exact hw)
    · exact hne rfl
/-- an object of exactly C is an instance of C -/
theorem cinst {p : Program} {l : Launch} {e : Env} {R : Room} {s : State} {m : MethodId} {args : Array Value} {below : List Frame} {meth : Method} {c : Code} {T : State} {locs : List Loc} {cells slots : Nat} (X : Stand p l e R s m args below meth c T locs cells slots) (hexec : p.tables.exec = Jvm.exec) {own C : String} {index : Nat} (hown : s.vm.findClass own = some m.cls) (hlink : (Cond.classLink own index C).before args s = true) {a : Addr} (hE : Exact C a T)
    {g : JFrame} (hg : g.method = m) {rest : List Value} (hstack : g.stack = .ref a :: rest) (hdg : decode c.code g.pc = .ok (.instanceof index, 3)) :
    ∃ T', Stand p l e R s m args below meth c T' locs cells slots ∧ T'.heap = T.heap ∧ ∀ target, Steps p.tables e below (T'.setTop { g with pc := g.pc + 3, stack := .int 1 :: rest }) target → Steps p.tables e below (T.setTop g) target := by
  obtain ⟨cB, h1, D, h2, h3, h4⟩ := hE
  have h1' : s.vm.findClass C = some cB := by rw [← X.warmed.alike.findClass]; exact h1
  obtain ⟨vm', X', st⟩ := X.instanceofYes hexec hown hlink h2 h4 h1' (by rw [h3]; exact Jvm.Free.SB.assignable_self _ _) hg hstack hdg
  exact ⟨_, X', rfl, st⟩
theorem cself {p : Program} {l : Launch} {e : Env} {R : Room} {s : State} {m : MethodId} {args : Array Value} {below : List Frame} {meth : Method} {c : Code} {T : State} {locs : List Loc} {cells slots : Nat} (X : Stand p l e R s m args below meth c T locs cells slots) (hexec : p.tables.exec = Jvm.exec) {own C : String} {index : Nat} (hown : s.vm.findClass own = some m.cls) (hlink : (Cond.classLink own index C).before args s = true) {a : Addr} (hE : Exact C a T)
    {g : JFrame} (hg : g.method = m) {rest : List Value} (hstack : g.stack = .ref a :: rest) (hdg : decode c.code g.pc = .ok (.checkcast index, 3)) :
    ∃ T', Stand p l e R s m args below meth c T' locs cells slots ∧ T'.heap = T.heap ∧ ∀ target, Steps p.tables e below (T'.setTop { g with pc := g.pc + 3, stack := .ref a :: rest }) target → Steps p.tables e below (T.setTop g) target := by
  obtain ⟨cB, h1, D, h2, h3, h4⟩ := hE
  have h1' : s.vm.findClass C = some cB := by rw [← X.warmed.alike.findClass]; exact h1
  obtain ⟨vm', X', st⟩ := X.checkcastYes hexec hown hlink h2 h4 h1' (by rw [h3]; exact Jvm.Free.SB.assignable_self _ _) hg hstack hdg
  exact ⟨_, X', rfl, fun t h => st t (by rw [← hstack] at h; exact h)⟩
namespace SEq
def yN : MethodName := ⟨"java/lang/String", "equals", "(Ljava/lang/Object;)Z"⟩
abbrev yB : ByteArray := jdk_42_method_66_code
theorem d0 : decode yB 0 = .ok (.aload_n 0, 1) := by decide +kernel
theorem d1 : decode yB 1 = .ok (.aload_n 1, 1) := by decide +kernel
theorem d2 : decode yB 2 = .ok (.if_acmp (.ne) 5, 3) := by decide +kernel
theorem d5 : decode yB 5 = .ok (.iconst 1, 1) := by decide +kernel
theorem d6 : decode yB 6 = .ok (.ireturn, 1) := by decide +kernel
theorem d7 : decode yB 7 = .ok (.aload_n 1, 1) := by decide +kernel
theorem d8 : decode yB 8 = .ok (.instanceof 10, 3) := by decide +kernel
theorem d11 : decode yB 11 = .ok (.ifCond (.eq) 43, 3) := by decide +kernel
theorem d14 : decode yB 14 = .ok (.aload_n 1, 1) := by decide +kernel
theorem d15 : decode yB 15 = .ok (.checkcast 10, 3) := by decide +kernel
theorem d18 : decode yB 18 = .ok (.astore_n 2, 1) := by decide +kernel
theorem d19 : decode yB 19 = .ok (.getstatic 38, 3) := by decide +kernel
theorem d22 : decode yB 22 = .ok (.ifCond (.eq) 14, 3) := by decide +kernel
theorem d25 : decode yB 25 = .ok (.aload_n 0, 1) := by decide +kernel
theorem d26 : decode yB 26 = .ok (.getfield 15, 3) := by decide +kernel
theorem d29 : decode yB 29 = .ok (.aload_n 2, 1) := by decide +kernel
theorem d30 : decode yB 30 = .ok (.getfield 15, 3) := by decide +kernel
theorem d33 : decode yB 33 = .ok (.if_icmp (.ne) 21, 3) := by decide +kernel
theorem d36 : decode yB 36 = .ok (.aload_n 0, 1) := by decide +kernel
theorem d37 : decode yB 37 = .ok (.getfield 9, 3) := by decide +kernel
theorem d40 : decode yB 40 = .ok (.aload_n 2, 1) := by decide +kernel
theorem d41 : decode yB 41 = .ok (.getfield 9, 3) := by decide +kernel
theorem d44 : decode yB 44 = .ok (.invokestatic 541, 3) := by decide +kernel
theorem d47 : decode yB 47 = .ok (.ifCond (.eq) 7, 3) := by decide +kernel
theorem d50 : decode yB 50 = .ok (.iconst 1, 1) := by decide +kernel
theorem d51 : decode yB 51 = .ok (.goto 4, 3) := by decide +kernel
theorem d54 : decode yB 54 = .ok (.iconst 0, 1) := by decide +kernel
theorem d55 : decode yB 55 = .ok (.ireturn, 1) := by decide +kernel
def site : List Cond := [.classLink "java/lang/String" 10 "java/lang/String", .fieldLink "java/lang/String" 38 "java/lang/String" "COMPACT_STRINGS" "Z", .fieldLink "java/lang/String" 15 "java/lang/String" "coder" "B", .fieldLink "java/lang/String" 9 "java/lang/String" "value" "[B", LEq.tab] ++ staticW "java/lang/String" 541 LEq.yN
def tab : Cond := tabOf yN yB 3 (some .boolean) site
def P (x t : Addr) (V : Cell) (cd : Int32) (n : Nat) (f : Nat → Int32) (y t' : Addr) (V' : Cell) (cd' : Int32) (k : Nat) (g : Nat → Int32) (z : Int32) (args : Array Value) (s : State) : Prop := args = #[.ref x, .ref y] ∧ Txt x t V cd n f s ∧ Txt y t' V' cd' k g s ∧ StaticIs s "java/lang/String" "COMPACT_STRINGS" "Z" (.int z) ∧ ¬ z = 0
/-- equals(Object) of two Strings: whether the texts are the same -/
theorem law (l : Launch) (x t : Addr) (V : Cell) (cd : Int32) (n : Nat) (f : Nat → Int32) (y t' : Addr) (V' : Cell) (cd' : Int32) (k : Nat) (g : Nat → Int32) (z : Int32) : Law l yN 2 1 1 14 yB 3 (some .boolean) site (P x t V cd n f y t' V' cd' k g z) (Says01 (SameT n f k g)) [] 0 0 := by
  refine Law.of_walk (plainFor_of_name (by decide +kernel)) (by decide +kernel) (by decide +kernel) (by decide) (fun _ _ h => by rw [h.1]; rfl) (fun _ U U' hal hh h => ⟨h.1, h.2.1.mv hal hh, h.2.2.1.mv hal hh, h.2.2.2.1.there hal hh, h.2.2.2.2⟩) (fun r U U' V V' h1 hal h2 h => Says01.mv r U U' V V' h1 hal h2 h) ?_
  intro p e s m args below meth c s₁ X0 hexec hbytes hml hret hlk hnm hown hh0 W hP
  obtain ⟨rfl, hx, hy, s1, hz⟩ := hP
  have c1 : Steps p.tables e below (s₁.setTop (entryFrame m #[.ref x, .ref y] 3)) (s₁.setTop (mkF m 2 #[.val (.ref x), .val (.ref y), .unset] [.ref y, .ref x])) := Steps.trans (entry rfl) (by
    show Steps p.tables e below (s₁.setTop (mkF m 0 #[.val (.ref x), .val (.ref y), .unset] [])) _
    refine XS.aloadN X0.here hexec rfl (hb hbytes d0) rfl rfl ?_
    refine XS.aloadN X0.here hexec rfl (hb hbytes d1) rfl rfl ?_
    exact Steps.refl _)
  by_cases hxy : x = y
  · have c2 : Steps p.tables e below (s₁.setTop (entryFrame m #[.ref x, .ref y] 3)) (s₁.setTop (mkF m 6 #[.val (.ref x), .val (.ref y), .unset] [.int 1])) := c1.trans (by
      refine acmpNo X0.here hexec rfl (hb hbytes d2) rfl rfl rfl (by simp [acmp, hxy]) ?_
      refine iconstV X0.here hexec rfl 1 (hb hbytes d5) (by decide) ?_
      exact Steps.refl _)
    subst hxy
    have ec : cd = cd' := by
      obtain ⟨D, fd, a1, a2, a3⟩ := hx.2.2.1
      obtain ⟨D', fd', b1, b2, b3⟩ := hy.2.2.1
      cases a1.symm.trans b1
      obtain ⟨q1, q2, q3, q4⟩ := a2.1
      obtain ⟨r1, r2, r3, r4⟩ := b2.1
      cases q4.symm.trans r4
      cases a3.symm.trans b3; rfl
    have et : t = t' := by
      obtain ⟨D, fd, a1, a2, a3⟩ := hx.2.1
      obtain ⟨D', fd', b1, b2, b3⟩ := hy.2.1
      cases a1.symm.trans b1
      obtain ⟨q1, q2, q3, q4⟩ := a2.1
      obtain ⟨r1, r2, r3, r4⟩ := b2.1
      cases q4.symm.trans r4
      cases a3.symm.trans b3; rfl
    subst ec et
    have ev : V = V' := by cases hx.2.2.2.1.1.symm.trans hy.2.2.2.1.1; rfl
    subst ev
    have hs : SameT n f k g := (Cod.eqv hx.2.2.2.2.1 hy.2.2.2.2.1 hx.2.2.2.2.2 hy.2.2.2.2.2).mp ⟨rfl, fun _ _ => rfl⟩
    exact ⟨s₁, some (.int 1), _, _, _, X0, rfl, rfl, rfl, (fun h => by cases h), ⟨1, rfl, hh0, Or.inl ⟨rfl, hs⟩⟩, fun fs hl => c2.trans (X0.ireturnOut hexec hret rfl (Or.inr (Or.inl rfl)) (hb hbytes d6) hl)⟩
  · have c2 : Steps p.tables e below (s₁.setTop (entryFrame m #[.ref x, .ref y] 3)) (s₁.setTop (mkF m 8 #[.val (.ref x), .val (.ref y), .unset] [.ref y])) := c1.trans (by
      refine acmpYes X0.here hexec rfl (pc0 := 2) rfl (hb hbytes d2) rfl rfl rfl (by simp [acmp, hxy]) (by decide) rfl ?_
      refine XS.aloadN X0.here hexec rfl (hb hbytes d7) rfl rfl ?_
      exact Steps.refl _)
    obtain ⟨T3, X3, q3, st3⟩ := cinst X0 hexec hown (wk W (.classLink "java/lang/String" 10 "java/lang/String")) (hy.mv X0.warmed.alike hh0).1 (g := (mkF m 8 #[.val (.ref x), .val (.ref y), .unset] [.ref y])) rfl (rest := []) rfl (hb hbytes d8)
    have hh3 := q3.trans hh0
    have c4 : Steps p.tables e below (s₁.setTop (entryFrame m #[.ref x, .ref y] 3)) (T3.setTop (mkF m 15 #[.val (.ref x), .val (.ref y), .unset] [.ref y])) := (c2.trans (st3 _ (Steps.refl _))).trans (by
      refine XS.ifNo X3.here hexec rfl (hb hbytes d11) rfl (i0_eq_f (by decide)) ?_
      refine XS.aloadN X3.here hexec rfl (hb hbytes d14) rfl rfl ?_
      exact Steps.refl _)
    obtain ⟨T5, X5, q5, st5⟩ := cself X3 hexec hown (wk W (.classLink "java/lang/String" 10 "java/lang/String")) (hy.mv X3.warmed.alike hh3).1 (g := (mkF m 15 #[.val (.ref x), .val (.ref y), .unset] [.ref y])) rfl (rest := []) rfl (hb hbytes d15)
    have hh5 := q5.trans hh3
    have c6 : Steps p.tables e below (s₁.setTop (entryFrame m #[.ref x, .ref y] 3)) (T5.setTop (mkF m 19 #[.val (.ref x), .val (.ref y), .val (.ref y)] [])) := (c4.trans (st5 _ (Steps.refl _))).trans (by
      refine XS.astoreN X5.here hexec rfl (hb hbytes d18) rfl rfl rfl ?_
      exact Steps.refl _)
    obtain ⟨T7, X7, q7, st7⟩ := X5.sget hexec hown (wk W (.fieldLink "java/lang/String" 38 "java/lang/String" "COMPACT_STRINGS" "Z")) s1 (fun _ _ h => by rw [hh5]; exact h) (g := (mkF m 19 #[.val (.ref x), .val (.ref y), .val (.ref y)] [])) rfl (hb hbytes d19)
    have hh7 := q7.trans hh5
    have c8 : Steps p.tables e below (s₁.setTop (entryFrame m #[.ref x, .ref y] 3)) (T7.setTop (mkF m 26 #[.val (.ref x), .val (.ref y), .val (.ref y)] [.ref x])) := (c6.trans (st7 _ (Steps.refl _))).trans (by
      refine XS.ifNo X7.here hexec rfl (hb hbytes d22) rfl (i0_eq_f hz) ?_
      refine XS.aloadN X7.here hexec rfl (hb hbytes d25) rfl rfl ?_
      exact Steps.refl _)
    obtain ⟨T9, X9, q9, st9⟩ := X7.hget hexec hown (wk W (.fieldLink "java/lang/String" 15 "java/lang/String" "coder" "B")) (hx.mv X7.warmed.alike hh7).2.2.1 (g := (mkF m 26 #[.val (.ref x), .val (.ref y), .val (.ref y)] [.ref x])) rfl (rest := []) rfl (hb hbytes d26)
    have hh9 := q9.trans hh7
    have c10 : Steps p.tables e below (s₁.setTop (entryFrame m #[.ref x, .ref y] 3)) (T9.setTop (mkF m 30 #[.val (.ref x), .val (.ref y), .val (.ref y)] [.ref y, .int cd])) := (c8.trans (st9 _ (Steps.refl _))).trans (by
      refine XS.aloadN X9.here hexec rfl (hb hbytes d29) rfl rfl ?_
      exact Steps.refl _)
    obtain ⟨T11, X11, q11, st11⟩ := X9.hget hexec hown (wk W (.fieldLink "java/lang/String" 15 "java/lang/String" "coder" "B")) (hy.mv X9.warmed.alike hh9).2.2.1 (g := (mkF m 30 #[.val (.ref x), .val (.ref y), .val (.ref y)] [.ref y, .int cd])) rfl (rest := [.int cd]) rfl (hb hbytes d30)
    have hh11 := q11.trans hh9
    have c12 : Steps p.tables e below (s₁.setTop (entryFrame m #[.ref x, .ref y] 3)) (T11.setTop (mkF m 33 #[.val (.ref x), .val (.ref y), .val (.ref y)] [.int cd', .int cd])) := c10.trans (st11 _ (Steps.refl _))
    by_cases hcd : cd = cd'
    · subst hcd
      have c13 : Steps p.tables e below (s₁.setTop (entryFrame m #[.ref x, .ref y] 3)) (T11.setTop (mkF m 37 #[.val (.ref x), .val (.ref y), .val (.ref y)] [.ref x])) := c12.trans (by
        refine XS.icmpNo X11.here hexec rfl (hb hbytes d33) rfl (ii_ne_f rfl) ?_
        refine XS.aloadN X11.here hexec rfl (hb hbytes d36) rfl rfl ?_
        exact Steps.refl _)
      obtain ⟨T14, X14, q14, st14⟩ := X11.hget hexec hown (wk W (.fieldLink "java/lang/String" 9 "java/lang/String" "value" "[B")) (hx.mv X11.warmed.alike hh11).2.1 (g := (mkF m 37 #[.val (.ref x), .val (.ref y), .val (.ref y)] [.ref x])) rfl (rest := []) rfl (hb hbytes d37)
      have hh14 := q14.trans hh11
      have c15 : Steps p.tables e below (s₁.setTop (entryFrame m #[.ref x, .ref y] 3)) (T14.setTop (mkF m 41 #[.val (.ref x), .val (.ref y), .val (.ref y)] [.ref y, .ref t])) := (c13.trans (st14 _ (Steps.refl _))).trans (by
        refine XS.aloadN X14.here hexec rfl (hb hbytes d40) rfl rfl ?_
        exact Steps.refl _)
      obtain ⟨T16, X16, q16, st16⟩ := X14.hget hexec hown (wk W (.fieldLink "java/lang/String" 9 "java/lang/String" "value" "[B")) (hy.mv X14.warmed.alike hh14).2.1 (g := (mkF m 41 #[.val (.ref x), .val (.ref y), .val (.ref y)] [.ref y, .ref t])) rfl (rest := [.ref t]) rfl (hb hbytes d41)
      have hh16 := q16.trans hh14
      have c17 : Steps p.tables e below (s₁.setTop (entryFrame m #[.ref x, .ref y] 3)) (T16.setTop (mkF m 44 #[.val (.ref x), .val (.ref y), .val (.ref y)] [.ref t', .ref t])) := c15.trans (st16 _ (Steps.refl _))
      obtain ⟨v18, T18, X18, E18, g18⟩ := X16.callS hexec (LEq.law l t V t' V') hown (wks W (staticW "java/lang/String" 541 LEq.yN)) (wk W LEq.tab) (W := 0) (Nat.le_of_ble_eq_true rfl) (Nat.le_of_ble_eq_true rfl) (Nat.le_refl _) (Nat.le_refl _) (g := (mkF m 44 #[.val (.ref x), .val (.ref y), .val (.ref y)] [.ref t', .ref t])) rfl (by rw [hml]; rfl) c17 (argsL := [.ref t, .ref t']) (rest := []) rfl rfl (by show 2 * 0 + 0 ≤ _; decide) (hb hbytes d44) (⟨rfl, hx.2.2.2.1.mv X16.warmed.alike hh16, hx.2.2.2.2.1.ty, hy.2.2.2.1.mv X16.warmed.alike hh16, hy.2.2.2.2.1.ty⟩)
      obtain ⟨v, rfl, q18, hv⟩ := E18
      have iff := Cod.eqv hx.2.2.2.2.1 hy.2.2.2.2.1 hx.2.2.2.2.2 hy.2.2.2.2.2
      rcases hv with ⟨rfl, he⟩ | ⟨rfl, he⟩
      · have c19 : Steps p.tables e below (s₁.setTop (entryFrame m #[.ref x, .ref y] 3)) (T18.setTop (mkF m 55 #[.val (.ref x), .val (.ref y), .val (.ref y)] [.int 1])) := Steps.trans g18 (by
          refine XS.ifNo X18.here hexec rfl (hb hbytes d47) rfl (i0_eq_f (by decide)) ?_
          refine iconstV X18.here hexec rfl 1 (hb hbytes d50) (by decide) ?_
          refine XS.goto X18.here hexec rfl (pc0 := 51) rfl (hb hbytes d51) (by decide) rfl ?_
          exact Steps.refl _)
        exact ⟨T18, some (.int 1), _, _, _, X18, rfl, rfl, rfl, (fun h => by cases h), ⟨1, rfl, q18.trans hh16, Or.inl ⟨rfl, iff.mp he⟩⟩, fun fs hl => c19.trans (X18.ireturnOut hexec hret rfl (Or.inr (Or.inl rfl)) (hb hbytes d55) hl)⟩
      · have c19 : Steps p.tables e below (s₁.setTop (entryFrame m #[.ref x, .ref y] 3)) (T18.setTop (mkF m 55 #[.val (.ref x), .val (.ref y), .val (.ref y)] [.int 0])) := Steps.trans g18 (by
          refine XS.ifYes X18.here hexec rfl (pc0 := 47) rfl (hb hbytes d47) rfl (i0_eq_t rfl) (by decide) rfl ?_
          refine iconstV X18.here hexec rfl 0 (hb hbytes d54) (by decide) ?_
          exact Steps.refl _)
        exact ⟨T18, some (.int 0), _, _, _, X18, rfl, rfl, rfl, (fun h => by cases h), ⟨0, rfl, q18.trans hh16, Or.inr ⟨rfl, fun q => he (iff.mpr q)⟩⟩, fun fs hl => c19.trans (X18.ireturnOut hexec hret rfl (Or.inr (Or.inl rfl)) (hb hbytes d55) hl)⟩
    · have c13 : Steps p.tables e below (s₁.setTop (entryFrame m #[.ref x, .ref y] 3)) (T11.setTop (mkF m 55 #[.val (.ref x), .val (.ref y), .val (.ref y)] [.int 0])) := c12.trans (by
        refine XS.icmpYes X11.here hexec rfl (pc0 := 33) rfl (hb hbytes d33) rfl (ii_ne_t hcd) (by decide) rfl ?_
        refine iconstV X11.here hexec rfl 0 (hb hbytes d54) (by decide) ?_
        exact Steps.refl _)
      exact ⟨T11, some (.int 0), _, _, _, X11, rfl, rfl, rfl, (fun h => by cases h), ⟨0, rfl, hh11, Or.inr ⟨rfl, Cod.dif hx.2.2.2.2.1 hy.2.2.2.2.1 hcd⟩⟩, fun fs hl => c13.trans (X11.ireturnOut hexec hret rfl (Or.inr (Or.inl rfl)) (hb hbytes d55) hl)⟩
theorem pays {l : Launch} {R : Room} {p : Program} {e : Env} {below : List Frame} {s : State} {sargs : Array Value} {len W : Nat} (x t : Addr) (V : Cell) (cd : Int32) (n : Nat) (f : Nat → Int32) (y t' : Addr) (V' : Cell) (cd' : Int32) (k : Nat) (g : Nat → Int32) (z : Int32) (htab : tab.before sargs s = true) (hfr : 2 ≤ R.frames) (hlo : W + 28 ≤ R.locals) :
    Back l R p e below s sargs yN len W (fun A₁ a₁ => A₁.cells + 0 ≤ R.cells ∧ A₁.slots + 0 ≤ R.slots ∧ P x t V cd n f y t' V' cd' k g z a₁ A₁.U) (fun A₁ _ v₁ B₁ => Says01 (SameT n f k g) v₁ A₁.U B₁.U ∧ B₁.locs = A₁.locs ++ [] ∧ B₁.cells = A₁.cells + 0 ∧ B₁.slots = A₁.slots + 0) :=
  (law l x t V cd n f y t' V' cd' k g z).pays htab hfr (by omega)
end SEq
end StrChars
namespace StrChars.Road
open Jvm Sem ClassFile Op Lib Jvm.Stand Jvm.Free Jvm.Free.XT
open Jvm.Lib.Cold (StaticIs)
/-- the words of String.equals(Object) -/
abbrev wordsEq : List Jvm.Cond := [.code SEq.yN SEq.yB 3 (some .boolean), .initialized ST, .classLink ST 10 ST, .fieldLink ST 38 ST "COMPACT_STRINGS" "Z", .fieldLink ST 15 ST "coder" "B", .fieldLink ST 9 ST "value" "[B", .methodLink ST 541 LEq.yN, .static LEq.yN, .code LEq.yN LEq.yB 3 (some .boolean), .initialized "java/lang/StringLatin1"]
theorem tabEq_of {a : Array Value} {s : State} (h : ∀ w ∈ wordsEq, w.before a s = true) : SEq.tab.before a s = true := by
  have hl : LEq.tab.before a s = true := unparts (wk h (.code LEq.yN LEq.yB 3 (some .boolean))) (wks h (.initialized LEq.yN.cls :: LEq.site))
  have q := consq hl h
  exact unparts (wk q (.code SEq.yN SEq.yB 3 (some .boolean))) (wks q (.initialized SEq.yN.cls :: SEq.site))
theorem movedEq {Z s : State} {a0 args : Array Value} (hZ : Z.Warmed39 s.vm) (hw : ∀ d ∈ wordsEq, d.before a0 Z = true) : ∀ d ∈ wordsEq, d.before args s = true := fun d hd => by
  have t : ∀ d ∈ wordsEq, (d.onTables && d.keepsFace) = true := by decide +kernel
  exact RoadKit.mv hZ (hw d hd) (t d hd)
/-- the road's facts of a String, as the laws ask it -/
theorem txt_of {Z U : State} {a0 : Array Value} {kI : Nat} (wi : (Jvm.Cond.instantiable ST kI).before a0 Z = true) (al : Z.vm.Alike U.vm) {x t : Addr} {kb : ClassId} {cs : List Int32} {cd N2 : Int32} {vs : List Value} (E : RoadKit.Exa Z U.heap x ST) (V : RoadKit.Fld Z U.heap x ST "value" "[B" (.ref t)) (C : RoadKit.Fld Z U.heap x ST "coder" "B" (.int cd)) (K : RoadKit.Arv Z U.heap t kb .byte N2 vs (.int 0)) (hc : CodA cs cd N2 vs) (hb : ∀ c ∈ cs, ¬ c < 0 ∧ ¬ (65535 : Int32) < c) (l2 : cs.length ≤ 4000) :
    ∃ A, Txt x t A cd cs.length (fun j => cs.getD j 0) U := by
  obtain ⟨A, K1, K2, K3, K4, K5, K6⟩ := K
  have hcod := hc.cod (by omega) K3 K5
  obtain ⟨D, fV, fC, hB, F1, F2, g1, g2, -, -⟩ := strObj wi al E V C
  exact ⟨A, ⟨_, hB.2.2.1, D, hB.1, rfl, by cases q : D.vm <;> first | rfl | exact absurd q (hB.2.1.2 _)⟩, Has.of hB F1 g1, Has.of hB F2 g2, ⟨K1.1, State.isArrayOf_alike al K1.2.1, K1.2.2, by rcases hcod with ⟨-, q, -⟩ | ⟨-, q, -⟩ <;> omega⟩, hcod, fun j hj => by
    have e : cs.getD j 0 = cs[j] := by simp [List.getD_eq_getElem?_getD, hj]
    show ¬ cs.getD j 0 < 0 ∧ ¬ 65535 < cs.getD j 0
    rw [e]; exact hb _ (List.getElem_mem _)⟩
theorem same_list (cs ds : List Int32) : SameT cs.length (fun j => cs.getD j 0) ds.length (fun j => ds.getD j 0) ↔ cs = ds := by
  constructor
  · rintro ⟨e, q⟩
    refine List.ext_getElem e fun j h1 h2 => ?_
    have := q j h1
    simpa [List.getD_eq_getElem?_getD, h1, h2] using this
  · rintro rfl
    exact ⟨rfl, fun _ _ => rfl⟩
/-- **equals(Object) OF TWO SUCH STRINGS**: 1 just where the chars are the same -/
theorem eqW {p : Program} {l : Launch} {e : Env} {R : Room} {s : State} {args : Array Value} {below : List Frame} {len W : Nat} {Z : State} {a0 : Array Value} {h : Heap} (hZ : Z.Warmed39 s.vm) (hw : ∀ d ∈ wordsEq, d.before a0 Z = true) {kI : Nat} (wi : (Jvm.Cond.instantiable ST kI).before a0 Z = true)
    {x t : Addr} {kb : ClassId} {cs : List Int32} {cd N2 : Int32} {vs : List Value} (E : RoadKit.Exa Z h x ST) (V : RoadKit.Fld Z h x ST "value" "[B" (.ref t)) (C : RoadKit.Fld Z h x ST "coder" "B" (.int cd)) (K : RoadKit.Arv Z h t kb .byte N2 vs (.int 0)) (hc : CodA cs cd N2 vs) (hb : ∀ c ∈ cs, ¬ c < 0 ∧ ¬ (65535 : Int32) < c) (l2 : cs.length ≤ 4000)
    {y t' : Addr} {kb' : ClassId} {ds : List Int32} {cd' N2' : Int32} {vs' : List Value} (E' : RoadKit.Exa Z h y ST) (V' : RoadKit.Fld Z h y ST "value" "[B" (.ref t')) (C' : RoadKit.Fld Z h y ST "coder" "B" (.int cd')) (K' : RoadKit.Arv Z h t' kb' .byte N2' vs' (.int 0)) (hc' : CodA ds cd' N2' vs') (hb' : ∀ c ∈ ds, ¬ c < 0 ∧ ¬ (65535 : Int32) < c) (l2' : ds.length ≤ 4000)
    {z : Int32} (S : RoadKit.Sta Z h ST "COMPACT_STRINGS" "Z" (.int z)) (hz : ¬ z = 0) (hfr : 2 ≤ R.frames) (hlo : W + 28 ≤ R.locals) :
    Back l R p e below s args (⟨"java/lang/String", "equals", "(Ljava/lang/Object;)Z"⟩ : MethodName) len W (fun P a => a = #[.ref x, .ref y] ∧ P.U.heap = h ∧ P.cells + 0 ≤ R.cells ∧ P.slots + 0 ≤ R.slots)
      (fun P _ v B => ∃ L, (((v = some (.int 1) ∧ cs = ds) ∨ (v = some (.int 0) ∧ ¬ cs = ds)) ∧ L = [] ∧ B.U.heap = h) ∧ B.locs = P.locs ++ L ∧ B.cells = P.cells + 0 ∧ B.slots = P.slots + 0) := by
  intro m meth c P g ig mk a X hg hsize hdg hW hn hp'
  obtain ⟨rfl, rfl, r1, r2⟩ := hp'
  have al : Z.vm.Alike P.U.vm := hZ.alike.trans X.warmed.alike
  obtain ⟨A, hx⟩ := txt_of wi al E V C K hc hb l2
  obtain ⟨A', hy⟩ := txt_of wi al E' V' C' K' hc' hb' l2'
  obtain ⟨v, B, X', ⟨⟨w, hv, hh, hq⟩, hl, hk, hs⟩, st⟩ := SEq.pays x t A cd cs.length (fun j => cs.getD j 0) y t' A' cd' ds.length (fun j => ds.getD j 0) z (tabEq_of (movedEq hZ hw)) hfr hlo m meth c P g ig mk _ X hg hsize hdg hW hn ⟨r1, r2, rfl, hx, hy, sta_is al S, hz⟩
  refine ⟨v, B, X', ⟨[], ⟨?_, rfl, hh⟩, hl, hk, hs⟩, st⟩
  rcases hq with ⟨rfl, q⟩ | ⟨rfl, q⟩
  · exact Or.inl ⟨hv, (same_list cs ds).mp q⟩
  · exact Or.inr ⟨hv, fun e => q ((same_list cs ds).mpr e)⟩
end StrChars.Road
namespace StrChars.Road
open Jvm Sem ClassFile Op Lib Jvm.Stand Jvm.Free Jvm.Free.XT
open Jvm.Lib.Cold (StaticIs)
/-- what backV says of its String, as the contracts of this text ask it: cs's low bytes, coder 0 -/
theorem codOf {cs : List Int32} {n : Nat} (hn : cs.length = n) (hb : ∀ c ∈ cs, ¬ 255 < c) : CodA cs 0 (Int32.ofNat n) ((cs.map lo8).map Value.int) := Or.inl ⟨rfl, by rw [hn], by simp [List.map_map, Function.comp_def], hb⟩
end StrChars.Road
end Jvm.Pilot.@@N@@
namespace Jvm.Pilot.@@N@@
open Jvm Jvm.ClassFile Sem Op Lib Jvm.Free Jvm.Stand Jvm.LawKit Jvm.RoadKit Bundle Jvm.Pilot.@@N@@.Jvm.D
abbrev DD (b : ByteArray) (pc : Nat) (i : Instr) (n : Nat) : Prop := decode b pc = .ok (i, n)
abbrev RM (f c s l : Nat) : Room := { frames := f, cells := c, slots := s, locals := l }
abbrev SP (p : Program) (e : Env) (below : List Frame) (T : State) (g : JFrame) (t : State) : Prop := Steps p.tables e below (T.setTop g) t
theorem wz {m : MethodId} {pc : Nat} {Ls : Array Slot} {S rest : List Value} {W : Nat} (h : (rest.map fun v => v.category).sum = W) : 2 * (mkF m pc Ls S).monitorRoom + (rest.map fun v => v.category).sum ≤ W := by
  have q : (mkF m pc Ls S).monitorRoom = 0 := rfl
  rw [q, h]
  exact Nat.le_of_eq (by omega)
abbrev FV (Z : State) (h : Heap) (a : Addr) (v : Value) : Prop := Fld Z h a "java/lang/AbstractStringBuilder" "value" "[B" v
abbrev FC (Z : State) (h : Heap) (a : Addr) (v : Value) : Prop := Fld Z h a "java/lang/AbstractStringBuilder" "coder" "B" v
abbrev FN (Z : State) (h : Heap) (a : Addr) (v : Value) : Prop := Fld Z h a "java/lang/AbstractStringBuilder" "count" "I" v
abbrev GV (Z : State) (h : Heap) (a : Addr) (v : Value) : Prop := Fld Z h a "java/lang/String" "value" "[B" v
abbrev GC (Z : State) (h : Heap) (a : Addr) (v : Value) : Prop := Fld Z h a "java/lang/String" "coder" "B" v
abbrev EB (Z : State) (h : Heap) (a : Addr) : Prop := Exa Z h a "java/lang/StringBuilder"
abbrev ES (Z : State) (h : Heap) (a : Addr) : Prop := Exa Z h a "java/lang/String"
abbrev SS (Z : State) (h : Heap) (w : Int32) : Prop := Sta Z h "java/lang/String" "COMPACT_STRINGS" "Z" (.int w)
def QP (w : Option Value) (h0 : Heap) (n0 : Nat) (v : Option Value) (h : Heap) (L : List Loc) : Prop := v = w ∧ Fr n0 L ∧ h = h0
section YS
variable {p : Program} {l : Launch} {e : Env} {R : Room} {s : State} {args : Array Value} {meth : Method} {locs : List Loc} {cells slots : Nat} {bytes : ByteArray} {below : List Frame} {T target : State} {m : MethodId} {c : Code} {pc : Nat} {Ls : Array Slot} {S : List Value}
theorem y_iload (X : Stand p l e R s m args below meth c T locs cells slots) (hx : p.tables.exec = Jvm.exec) (hby : c.code = bytes) {k : Nat} {v : Int32} (hd : decode bytes pc = .ok (.iload k, 2)) (hl : Ls[k]? = some (.val (.int v))) (hr : Steps p.tables e below (T.setTop (mkF m (pc + 2) Ls (.int v :: S))) target) : Steps p.tables e below (T.setTop (mkF m pc Ls S)) target := XS.iload (g := mkF m pc Ls S) X.here hx rfl (hb hby hd) hl hr
theorem y_iloadN (X : Stand p l e R s m args below meth c T locs cells slots) (hx : p.tables.exec = Jvm.exec) (hby : c.code = bytes) {k : Fin 4} {v : Int32} (hd : decode bytes pc = .ok (.iload_n k, 1)) (hl : Ls[k.val]? = some (.val (.int v))) (hr : Steps p.tables e below (T.setTop (mkF m (pc + 1) Ls (.int v :: S))) target) : Steps p.tables e below (T.setTop (mkF m pc Ls S)) target := XS.iloadN (g := mkF m pc Ls S) X.here hx rfl (hb hby hd) hl hr
theorem y_lload (X : Stand p l e R s m args below meth c T locs cells slots) (hx : p.tables.exec = Jvm.exec) (hby : c.code = bytes) {k : Nat} {v : Int64} (hd : decode bytes pc = .ok (.lload k, 2)) (hl : Ls[k]? = some (.val (.long v))) (hr : Steps p.tables e below (T.setTop (mkF m (pc + 2) Ls (.long v :: S))) target) : Steps p.tables e below (T.setTop (mkF m pc Ls S)) target := XS.lload (g := mkF m pc Ls S) X.here hx rfl (hb hby hd) hl hr
theorem y_lloadN (X : Stand p l e R s m args below meth c T locs cells slots) (hx : p.tables.exec = Jvm.exec) (hby : c.code = bytes) {k : Fin 4} {v : Int64} (hd : decode bytes pc = .ok (.lload_n k, 1)) (hl : Ls[k.val]? = some (.val (.long v))) (hr : Steps p.tables e below (T.setTop (mkF m (pc + 1) Ls (.long v :: S))) target) : Steps p.tables e below (T.setTop (mkF m pc Ls S)) target := XS.lloadN (g := mkF m pc Ls S) X.here hx rfl (hb hby hd) hl hr
theorem y_aload (X : Stand p l e R s m args below meth c T locs cells slots) (hx : p.tables.exec = Jvm.exec) (hby : c.code = bytes) {k : Nat} {v : Value} (hd : decode bytes pc = .ok (.aload k, 2)) (hl : Ls[k]? = some (.val v)) (hv : v.isRef = true) (hr : Steps p.tables e below (T.setTop (mkF m (pc + 2) Ls (v :: S))) target) : Steps p.tables e below (T.setTop (mkF m pc Ls S)) target := XS.aload (g := mkF m pc Ls S) X.here hx rfl (hb hby hd) hl hv hr
theorem y_aloadN (X : Stand p l e R s m args below meth c T locs cells slots) (hx : p.tables.exec = Jvm.exec) (hby : c.code = bytes) {k : Fin 4} {v : Value} (hd : decode bytes pc = .ok (.aload_n k, 1)) (hl : Ls[k.val]? = some (.val v)) (hv : v.isRef = true) (hr : Steps p.tables e below (T.setTop (mkF m (pc + 1) Ls (v :: S))) target) : Steps p.tables e below (T.setTop (mkF m pc Ls S)) target := XS.aloadN (g := mkF m pc Ls S) X.here hx rfl (hb hby hd) hl hv hr
theorem y_istore (X : Stand p l e R s m args below meth c T locs cells slots) (hx : p.tables.exec = Jvm.exec) (hby : c.code = bytes) {k : Nat} {x : Int32} {l' : Array Slot} (hd : decode bytes pc = .ok (.istore k, 2)) (hl : storeLocals Ls k (.int x) = some l') (hr : Steps p.tables e below (T.setTop (mkF m (pc + 2) l' S)) target) : Steps p.tables e below (T.setTop (mkF m pc Ls (.int x :: S))) target := XS.istore (g := mkF m pc Ls (.int x :: S)) X.here hx rfl (hb hby hd) rfl hl hr
theorem y_istoreN (X : Stand p l e R s m args below meth c T locs cells slots) (hx : p.tables.exec = Jvm.exec) (hby : c.code = bytes) {k : Fin 4} {x : Int32} {l' : Array Slot} (hd : decode bytes pc = .ok (.istore_n k, 1)) (hl : storeLocals Ls k.val (.int x) = some l') (hr : Steps p.tables e below (T.setTop (mkF m (pc + 1) l' S)) target) : Steps p.tables e below (T.setTop (mkF m pc Ls (.int x :: S))) target := XS.istoreN (g := mkF m pc Ls (.int x :: S)) X.here hx rfl (hb hby hd) rfl hl hr
theorem y_lstore (X : Stand p l e R s m args below meth c T locs cells slots) (hx : p.tables.exec = Jvm.exec) (hby : c.code = bytes) {k : Nat} {x : Int64} {l' : Array Slot} (hd : decode bytes pc = .ok (.lstore k, 2)) (hl : storeLocals Ls k (.long x) = some l') (hr : Steps p.tables e below (T.setTop (mkF m (pc + 2) l' S)) target) : Steps p.tables e below (T.setTop (mkF m pc Ls (.long x :: S))) target := XS.lstore (g := mkF m pc Ls (.long x :: S)) X.here hx rfl (hb hby hd) rfl hl hr
theorem y_lstoreN (X : Stand p l e R s m args below meth c T locs cells slots) (hx : p.tables.exec = Jvm.exec) (hby : c.code = bytes) {k : Fin 4} {x : Int64} {l' : Array Slot} (hd : decode bytes pc = .ok (.lstore_n k, 1)) (hl : storeLocals Ls k.val (.long x) = some l') (hr : Steps p.tables e below (T.setTop (mkF m (pc + 1) l' S)) target) : Steps p.tables e below (T.setTop (mkF m pc Ls (.long x :: S))) target := XS.lstoreN (g := mkF m pc Ls (.long x :: S)) X.here hx rfl (hb hby hd) rfl hl hr
theorem y_astore (X : Stand p l e R s m args below meth c T locs cells slots) (hx : p.tables.exec = Jvm.exec) (hby : c.code = bytes) {k : Nat} {x : Value} {l' : Array Slot} (hd : decode bytes pc = .ok (.astore k, 2)) (hv : x.isRef = true) (hl : storeLocals Ls k x = some l') (hr : Steps p.tables e below (T.setTop (mkF m (pc + 2) l' S)) target) : Steps p.tables e below (T.setTop (mkF m pc Ls (x :: S))) target := XS.astore (g := mkF m pc Ls (x :: S)) X.here hx rfl (hb hby hd) rfl hv hl hr
theorem y_astoreN (X : Stand p l e R s m args below meth c T locs cells slots) (hx : p.tables.exec = Jvm.exec) (hby : c.code = bytes) {k : Fin 4} {x : Value} {l' : Array Slot} (hd : decode bytes pc = .ok (.astore_n k, 1)) (hv : x.isRef = true) (hl : storeLocals Ls k.val x = some l') (hr : Steps p.tables e below (T.setTop (mkF m (pc + 1) l' S)) target) : Steps p.tables e below (T.setTop (mkF m pc Ls (x :: S))) target := XS.astoreN (g := mkF m pc Ls (x :: S)) X.here hx rfl (hb hby hd) rfl hv hl hr
theorem y_iconst (X : Stand p l e R s m args below meth c T locs cells slots) (hx : p.tables.exec = Jvm.exec) (hby : c.code = bytes) {i : Int} {v : Int32} (hd : decode bytes pc = .ok (.iconst i, 1)) (hv : Int32.ofInt i = v) (hr : Steps p.tables e below (T.setTop (mkF m (pc + 1) Ls (.int v :: S))) target) : Steps p.tables e below (T.setTop (mkF m pc Ls S)) target := XS.iconst (g := mkF m pc Ls S) X.here hx rfl (hb hby hd) (by subst hv; exact hr)
theorem y_bipush (X : Stand p l e R s m args below meth c T locs cells slots) (hx : p.tables.exec = Jvm.exec) (hby : c.code = bytes) {i : Int} {v : Int32} (hd : decode bytes pc = .ok (.bipush i, 2)) (hv : (Int8.ofInt i).toInt32 = v) (hr : Steps p.tables e below (T.setTop (mkF m (pc + 2) Ls (.int v :: S))) target) : Steps p.tables e below (T.setTop (mkF m pc Ls S)) target := XS.bipush (g := mkF m pc Ls S) X.here hx rfl (hb hby hd) (by subst hv; exact hr)
theorem y_sipush (X : Stand p l e R s m args below meth c T locs cells slots) (hx : p.tables.exec = Jvm.exec) (hby : c.code = bytes) {i : Int} {v : Int32} (hd : decode bytes pc = .ok (.sipush i, 3)) (hv : (Int16.ofInt i).toInt32 = v) (hr : Steps p.tables e below (T.setTop (mkF m (pc + 3) Ls (.int v :: S))) target) : Steps p.tables e below (T.setTop (mkF m pc Ls S)) target := XS.sipush (g := mkF m pc Ls S) X.here hx rfl (hb hby hd) (by subst hv; exact hr)
theorem y_lconst (X : Stand p l e R s m args below meth c T locs cells slots) (hx : p.tables.exec = Jvm.exec) (hby : c.code = bytes) {k : Fin 2} {v : Int64} (hd : decode bytes pc = .ok (.lconst k, 1)) (hv : Int64.ofNat k = v) (hr : Steps p.tables e below (T.setTop (mkF m (pc + 1) Ls (.long v :: S))) target) : Steps p.tables e below (T.setTop (mkF m pc Ls S)) target := XS.lconst (g := mkF m pc Ls S) X.here hx rfl (hb hby hd) (by subst hv; exact hr)
theorem y_aconstNull (X : Stand p l e R s m args below meth c T locs cells slots) (hx : p.tables.exec = Jvm.exec) (hby : c.code = bytes)  (hd : decode bytes pc = .ok (.aconst_null, 1)) (hr : Steps p.tables e below (T.setTop (mkF m (pc + 1) Ls (.null :: S))) target) : Steps p.tables e below (T.setTop (mkF m pc Ls S)) target := XS.aconstNull (g := mkF m pc Ls S) X.here hx rfl (hb hby hd) hr
theorem y_iadd (X : Stand p l e R s m args below meth c T locs cells slots) (hx : p.tables.exec = Jvm.exec) (hby : c.code = bytes) {x y : Int32} (hd : decode bytes pc = .ok (.iadd, 1)) (hr : Steps p.tables e below (T.setTop (mkF m (pc + 1) Ls (.int (x + y) :: S))) target) : Steps p.tables e below (T.setTop (mkF m pc Ls (.int y :: .int x :: S))) target := XS.iadd (g := mkF m pc Ls (.int y :: .int x :: S)) X.here hx rfl (hb hby hd) rfl hr
theorem y_isub (X : Stand p l e R s m args below meth c T locs cells slots) (hx : p.tables.exec = Jvm.exec) (hby : c.code = bytes) {x y : Int32} (hd : decode bytes pc = .ok (.isub, 1)) (hr : Steps p.tables e below (T.setTop (mkF m (pc + 1) Ls (.int (x - y) :: S))) target) : Steps p.tables e below (T.setTop (mkF m pc Ls (.int y :: .int x :: S))) target := XS.isub (g := mkF m pc Ls (.int y :: .int x :: S)) X.here hx rfl (hb hby hd) rfl hr
theorem y_imul (X : Stand p l e R s m args below meth c T locs cells slots) (hx : p.tables.exec = Jvm.exec) (hby : c.code = bytes) {x y : Int32} (hd : decode bytes pc = .ok (.imul, 1)) (hr : Steps p.tables e below (T.setTop (mkF m (pc + 1) Ls (.int (x * y) :: S))) target) : Steps p.tables e below (T.setTop (mkF m pc Ls (.int y :: .int x :: S))) target := XS.imul (g := mkF m pc Ls (.int y :: .int x :: S)) X.here hx rfl (hb hby hd) rfl hr
theorem y_iand (X : Stand p l e R s m args below meth c T locs cells slots) (hx : p.tables.exec = Jvm.exec) (hby : c.code = bytes) {x y : Int32} (hd : decode bytes pc = .ok (.iand, 1)) (hr : Steps p.tables e below (T.setTop (mkF m (pc + 1) Ls (.int (x &&& y) :: S))) target) : Steps p.tables e below (T.setTop (mkF m pc Ls (.int y :: .int x :: S))) target := XS.iand (g := mkF m pc Ls (.int y :: .int x :: S)) X.here hx rfl (hb hby hd) rfl hr
theorem y_ior (X : Stand p l e R s m args below meth c T locs cells slots) (hx : p.tables.exec = Jvm.exec) (hby : c.code = bytes) {x y : Int32} (hd : decode bytes pc = .ok (.ior, 1)) (hr : Steps p.tables e below (T.setTop (mkF m (pc + 1) Ls (.int (x ||| y) :: S))) target) : Steps p.tables e below (T.setTop (mkF m pc Ls (.int y :: .int x :: S))) target := XS.ior (g := mkF m pc Ls (.int y :: .int x :: S)) X.here hx rfl (hb hby hd) rfl hr
theorem y_ixor (X : Stand p l e R s m args below meth c T locs cells slots) (hx : p.tables.exec = Jvm.exec) (hby : c.code = bytes) {x y : Int32} (hd : decode bytes pc = .ok (.ixor, 1)) (hr : Steps p.tables e below (T.setTop (mkF m (pc + 1) Ls (.int (x ^^^ y) :: S))) target) : Steps p.tables e below (T.setTop (mkF m pc Ls (.int y :: .int x :: S))) target := XS.ixor (g := mkF m pc Ls (.int y :: .int x :: S)) X.here hx rfl (hb hby hd) rfl hr
theorem y_ishl (X : Stand p l e R s m args below meth c T locs cells slots) (hx : p.tables.exec = Jvm.exec) (hby : c.code = bytes) {x y : Int32} (hd : decode bytes pc = .ok (.ishl, 1)) (hr : Steps p.tables e below (T.setTop (mkF m (pc + 1) Ls (.int (x <<< (y &&& 31)) :: S))) target) : Steps p.tables e below (T.setTop (mkF m pc Ls (.int y :: .int x :: S))) target := XS.ishl (g := mkF m pc Ls (.int y :: .int x :: S)) X.here hx rfl (hb hby hd) rfl hr
theorem y_ishr (X : Stand p l e R s m args below meth c T locs cells slots) (hx : p.tables.exec = Jvm.exec) (hby : c.code = bytes) {x y : Int32} (hd : decode bytes pc = .ok (.ishr, 1)) (hr : Steps p.tables e below (T.setTop (mkF m (pc + 1) Ls (.int (x >>> (y &&& 31)) :: S))) target) : Steps p.tables e below (T.setTop (mkF m pc Ls (.int y :: .int x :: S))) target := XS.ishr (g := mkF m pc Ls (.int y :: .int x :: S)) X.here hx rfl (hb hby hd) rfl hr
theorem y_iushr (X : Stand p l e R s m args below meth c T locs cells slots) (hx : p.tables.exec = Jvm.exec) (hby : c.code = bytes) {x y : Int32} (hd : decode bytes pc = .ok (.iushr, 1)) (hr : Steps p.tables e below (T.setTop (mkF m (pc + 1) Ls (.int ((x.toUInt32 >>> (y &&& 31).toUInt32).toInt32) :: S))) target) : Steps p.tables e below (T.setTop (mkF m pc Ls (.int y :: .int x :: S))) target := XS.iushr (g := mkF m pc Ls (.int y :: .int x :: S)) X.here hx rfl (hb hby hd) rfl hr
theorem y_ladd (X : Stand p l e R s m args below meth c T locs cells slots) (hx : p.tables.exec = Jvm.exec) (hby : c.code = bytes) {x y : Int64} (hd : decode bytes pc = .ok (.ladd, 1)) (hr : Steps p.tables e below (T.setTop (mkF m (pc + 1) Ls (.long (x + y) :: S))) target) : Steps p.tables e below (T.setTop (mkF m pc Ls (.long y :: .long x :: S))) target := XS.ladd (g := mkF m pc Ls (.long y :: .long x :: S)) X.here hx rfl (hb hby hd) rfl hr
theorem y_lsub (X : Stand p l e R s m args below meth c T locs cells slots) (hx : p.tables.exec = Jvm.exec) (hby : c.code = bytes) {x y : Int64} (hd : decode bytes pc = .ok (.lsub, 1)) (hr : Steps p.tables e below (T.setTop (mkF m (pc + 1) Ls (.long (x - y) :: S))) target) : Steps p.tables e below (T.setTop (mkF m pc Ls (.long y :: .long x :: S))) target := XS.lsub (g := mkF m pc Ls (.long y :: .long x :: S)) X.here hx rfl (hb hby hd) rfl hr
theorem y_lmul (X : Stand p l e R s m args below meth c T locs cells slots) (hx : p.tables.exec = Jvm.exec) (hby : c.code = bytes) {x y : Int64} (hd : decode bytes pc = .ok (.lmul, 1)) (hr : Steps p.tables e below (T.setTop (mkF m (pc + 1) Ls (.long (x * y) :: S))) target) : Steps p.tables e below (T.setTop (mkF m pc Ls (.long y :: .long x :: S))) target := XS.lmul (g := mkF m pc Ls (.long y :: .long x :: S)) X.here hx rfl (hb hby hd) rfl hr
theorem y_land (X : Stand p l e R s m args below meth c T locs cells slots) (hx : p.tables.exec = Jvm.exec) (hby : c.code = bytes) {x y : Int64} (hd : decode bytes pc = .ok (.land, 1)) (hr : Steps p.tables e below (T.setTop (mkF m (pc + 1) Ls (.long (x &&& y) :: S))) target) : Steps p.tables e below (T.setTop (mkF m pc Ls (.long y :: .long x :: S))) target := XS.land (g := mkF m pc Ls (.long y :: .long x :: S)) X.here hx rfl (hb hby hd) rfl hr
theorem y_lor (X : Stand p l e R s m args below meth c T locs cells slots) (hx : p.tables.exec = Jvm.exec) (hby : c.code = bytes) {x y : Int64} (hd : decode bytes pc = .ok (.lor, 1)) (hr : Steps p.tables e below (T.setTop (mkF m (pc + 1) Ls (.long (x ||| y) :: S))) target) : Steps p.tables e below (T.setTop (mkF m pc Ls (.long y :: .long x :: S))) target := XS.lor (g := mkF m pc Ls (.long y :: .long x :: S)) X.here hx rfl (hb hby hd) rfl hr
theorem y_lxor (X : Stand p l e R s m args below meth c T locs cells slots) (hx : p.tables.exec = Jvm.exec) (hby : c.code = bytes) {x y : Int64} (hd : decode bytes pc = .ok (.lxor, 1)) (hr : Steps p.tables e below (T.setTop (mkF m (pc + 1) Ls (.long (x ^^^ y) :: S))) target) : Steps p.tables e below (T.setTop (mkF m pc Ls (.long y :: .long x :: S))) target := XS.lxor (g := mkF m pc Ls (.long y :: .long x :: S)) X.here hx rfl (hb hby hd) rfl hr
theorem y_ldiv (X : Stand p l e R s m args below meth c T locs cells slots) (hx : p.tables.exec = Jvm.exec) (hby : c.code = bytes) {x y : Int64} (hd : decode bytes pc = .ok (.ldiv, 1)) (hy : y ≠ 0) (hr : Steps p.tables e below (T.setTop (mkF m (pc + 1) Ls (.long (x / y) :: S))) target) : Steps p.tables e below (T.setTop (mkF m pc Ls (.long y :: .long x :: S))) target := XS.ldiv (g := mkF m pc Ls (.long y :: .long x :: S)) X.here hx rfl (hb hby hd) rfl hy hr
theorem y_lrem (X : Stand p l e R s m args below meth c T locs cells slots) (hx : p.tables.exec = Jvm.exec) (hby : c.code = bytes) {x y : Int64} (hd : decode bytes pc = .ok (.lrem, 1)) (hy : y ≠ 0) (hr : Steps p.tables e below (T.setTop (mkF m (pc + 1) Ls (.long (x - (x / y) * y) :: S))) target) : Steps p.tables e below (T.setTop (mkF m pc Ls (.long y :: .long x :: S))) target := XS.lrem (g := mkF m pc Ls (.long y :: .long x :: S)) X.here hx rfl (hb hby hd) rfl hy hr
theorem y_idiv (X : Stand p l e R s m args below meth c T locs cells slots) (hx : p.tables.exec = Jvm.exec) (hby : c.code = bytes) {x y : Int32} (hd : decode bytes pc = .ok (.idiv, 1)) (hy : y ≠ 0) (hr : Steps p.tables e below (T.setTop (mkF m (pc + 1) Ls (.int (x / y) :: S))) target) : Steps p.tables e below (T.setTop (mkF m pc Ls (.int y :: .int x :: S))) target := XS.idiv (g := mkF m pc Ls (.int y :: .int x :: S)) X.here hx rfl (hb hby hd) rfl hy hr
theorem y_ineg (X : Stand p l e R s m args below meth c T locs cells slots) (hx : p.tables.exec = Jvm.exec) (hby : c.code = bytes) {x : Int32} (hd : decode bytes pc = .ok (.ineg, 1)) (hr : Steps p.tables e below (T.setTop (mkF m (pc + 1) Ls (.int (-x) :: S))) target) : Steps p.tables e below (T.setTop (mkF m pc Ls (.int x :: S))) target := XS.ineg (g := mkF m pc Ls (.int x :: S)) X.here hx rfl (hb hby hd) rfl hr
theorem y_i2l (X : Stand p l e R s m args below meth c T locs cells slots) (hx : p.tables.exec = Jvm.exec) (hby : c.code = bytes) {x : Int32} (hd : decode bytes pc = .ok (.i2l, 1)) (hr : Steps p.tables e below (T.setTop (mkF m (pc + 1) Ls (.long (x.toInt64) :: S))) target) : Steps p.tables e below (T.setTop (mkF m pc Ls (.int x :: S))) target := XS.i2l (g := mkF m pc Ls (.int x :: S)) X.here hx rfl (hb hby hd) rfl hr
theorem y_l2i (X : Stand p l e R s m args below meth c T locs cells slots) (hx : p.tables.exec = Jvm.exec) (hby : c.code = bytes) {x : Int64} (hd : decode bytes pc = .ok (.l2i, 1)) (hr : Steps p.tables e below (T.setTop (mkF m (pc + 1) Ls (.int (x.toInt32) :: S))) target) : Steps p.tables e below (T.setTop (mkF m pc Ls (.long x :: S))) target := XS.l2i (g := mkF m pc Ls (.long x :: S)) X.here hx rfl (hb hby hd) rfl hr
theorem y_i2b (X : Stand p l e R s m args below meth c T locs cells slots) (hx : p.tables.exec = Jvm.exec) (hby : c.code = bytes) {x : Int32} (hd : decode bytes pc = .ok (.i2b, 1)) (hr : Steps p.tables e below (T.setTop (mkF m (pc + 1) Ls (.int (x.toInt8.toInt32) :: S))) target) : Steps p.tables e below (T.setTop (mkF m pc Ls (.int x :: S))) target := XS.i2b (g := mkF m pc Ls (.int x :: S)) X.here hx rfl (hb hby hd) rfl hr
theorem y_i2c (X : Stand p l e R s m args below meth c T locs cells slots) (hx : p.tables.exec = Jvm.exec) (hby : c.code = bytes) {x : Int32} (hd : decode bytes pc = .ok (.i2c, 1)) (hr : Steps p.tables e below (T.setTop (mkF m (pc + 1) Ls (.int (x.toUInt32.toUInt16.toUInt32.toInt32) :: S))) target) : Steps p.tables e below (T.setTop (mkF m pc Ls (.int x :: S))) target := XS.i2c (g := mkF m pc Ls (.int x :: S)) X.here hx rfl (hb hby hd) rfl hr
theorem y_i2s (X : Stand p l e R s m args below meth c T locs cells slots) (hx : p.tables.exec = Jvm.exec) (hby : c.code = bytes) {x : Int32} (hd : decode bytes pc = .ok (.i2s, 1)) (hr : Steps p.tables e below (T.setTop (mkF m (pc + 1) Ls (.int (x.toInt16.toInt32) :: S))) target) : Steps p.tables e below (T.setTop (mkF m pc Ls (.int x :: S))) target := XS.i2s (g := mkF m pc Ls (.int x :: S)) X.here hx rfl (hb hby hd) rfl hr
theorem y_lcmp (X : Stand p l e R s m args below meth c T locs cells slots) (hx : p.tables.exec = Jvm.exec) (hby : c.code = bytes) {x y : Int64} (hd : decode bytes pc = .ok (.lcmp, 1)) (hr : Steps p.tables e below (T.setTop (mkF m (pc + 1) Ls (.int (lcmpW x y) :: S))) target) : Steps p.tables e below (T.setTop (mkF m pc Ls (.long y :: .long x :: S))) target := XS.lcmp (g := mkF m pc Ls (.long y :: .long x :: S)) X.here hx rfl (hb hby hd) rfl hr
theorem y_iinc (X : Stand p l e R s m args below meth c T locs cells slots) (hx : p.tables.exec = Jvm.exec) (hby : c.code = bytes) {k : Nat} {d : Int} {x : Int32} {l' : Array Slot} (hd : decode bytes pc = .ok (.iinc k d, 3)) (hl : Ls[k]? = some (.val (.int x))) (hl' : storeLocals Ls k (.int (x + Int32.ofInt d)) = some l') (hr : Steps p.tables e below (T.setTop (mkF m (pc + 3) l' S)) target) : Steps p.tables e below (T.setTop (mkF m pc Ls S)) target := XS.iinc (g := mkF m pc Ls S) X.here hx rfl (hb hby hd) hl hl' hr
theorem y_dup (X : Stand p l e R s m args below meth c T locs cells slots) (hx : p.tables.exec = Jvm.exec) (hby : c.code = bytes) {x : Value} (hd : decode bytes pc = .ok (.dup, 1)) (hc : x.category = 1) (hr : Steps p.tables e below (T.setTop (mkF m (pc + 1) Ls (x :: x :: S))) target) : Steps p.tables e below (T.setTop (mkF m pc Ls (x :: S))) target := XS.dup (g := mkF m pc Ls (x :: S)) X.here hx rfl (hb hby hd) rfl hc hr
theorem y_pop (X : Stand p l e R s m args below meth c T locs cells slots) (hx : p.tables.exec = Jvm.exec) (hby : c.code = bytes) {x : Value} (hd : decode bytes pc = .ok (.pop, 1)) (hc : x.category = 1) (hr : Steps p.tables e below (T.setTop (mkF m (pc + 1) Ls S)) target) : Steps p.tables e below (T.setTop (mkF m pc Ls (x :: S))) target := XS.pop (g := mkF m pc Ls (x :: S)) X.here hx rfl (hb hby hd) rfl hc hr
theorem y_dupX1 (X : Stand p l e R s m args below meth c T locs cells slots) (hx : p.tables.exec = Jvm.exec) (hby : c.code = bytes) {x y : Value} (hd : decode bytes pc = .ok (.dup_x1, 1)) (hc : x.category = 1) (hc' : y.category = 1) (hr : Steps p.tables e below (T.setTop (mkF m (pc + 1) Ls (x :: y :: x :: S))) target) : Steps p.tables e below (T.setTop (mkF m pc Ls (x :: y :: S))) target := XS.dupX1 (g := mkF m pc Ls (x :: y :: S)) X.here hx rfl (hb hby hd) rfl hc hc' hr
theorem y_goto (X : Stand p l e R s m args below meth c T locs cells slots) (hx : p.tables.exec = Jvm.exec) (hby : c.code = bytes)  {o : Int} {pc' : Nat} (hd : decode bytes pc = .ok (.goto o, 3))  (ho : 0 ≤ (pc : Int) + o) (hp : ((pc : Int) + o).toNat = pc') (hr : Steps p.tables e below (T.setTop (mkF m pc' Ls S)) target) : Steps p.tables e below (T.setTop (mkF m pc Ls S)) target := XS.goto (g := mkF m pc Ls S) X.here hx rfl rfl (hb hby hd)  ho hp hr
theorem y_ifYes (X : Stand p l e R s m args below meth c T locs cells slots) (hx : p.tables.exec = Jvm.exec) (hby : c.code = bytes) {cd : ClassFile.Cond} {x : Int32} {o : Int} {pc' : Nat} (hd : decode bytes pc = .ok (.ifCond cd o, 3)) (hc : ifCond.holds cd x = true) (ho : 0 ≤ (pc : Int) + o) (hp : ((pc : Int) + o).toNat = pc') (hr : Steps p.tables e below (T.setTop (mkF m pc' Ls S)) target) : Steps p.tables e below (T.setTop (mkF m pc Ls (.int x :: S))) target := XS.ifYes (g := mkF m pc Ls (.int x :: S)) X.here hx rfl rfl (hb hby hd) rfl hc ho hp hr
theorem y_icmpYes (X : Stand p l e R s m args below meth c T locs cells slots) (hx : p.tables.exec = Jvm.exec) (hby : c.code = bytes) {cd : ClassFile.Cond} {x y : Int32} {o : Int} {pc' : Nat} (hd : decode bytes pc = .ok (.if_icmp cd o, 3)) (hc : if_icmp.holds cd x y = true) (ho : 0 ≤ (pc : Int) + o) (hp : ((pc : Int) + o).toNat = pc') (hr : Steps p.tables e below (T.setTop (mkF m pc' Ls S)) target) : Steps p.tables e below (T.setTop (mkF m pc Ls (.int y :: .int x :: S))) target := XS.icmpYes (g := mkF m pc Ls (.int y :: .int x :: S)) X.here hx rfl rfl (hb hby hd) rfl hc ho hp hr
theorem y_ifnullYes (X : Stand p l e R s m args below meth c T locs cells slots) (hx : p.tables.exec = Jvm.exec) (hby : c.code = bytes)  {o : Int} {pc' : Nat} (hd : decode bytes pc = .ok (.ifnull o, 3))  (ho : 0 ≤ (pc : Int) + o) (hp : ((pc : Int) + o).toNat = pc') (hr : Steps p.tables e below (T.setTop (mkF m pc' Ls S)) target) : Steps p.tables e below (T.setTop (mkF m pc Ls (.null :: S))) target := XS.ifnullYes (g := mkF m pc Ls (.null :: S)) X.here hx rfl rfl (hb hby hd) rfl ho hp hr
theorem y_ifnonnullYes (X : Stand p l e R s m args below meth c T locs cells slots) (hx : p.tables.exec = Jvm.exec) (hby : c.code = bytes) {b : Addr} {o : Int} {pc' : Nat} (hd : decode bytes pc = .ok (.ifnonnull o, 3))  (ho : 0 ≤ (pc : Int) + o) (hp : ((pc : Int) + o).toNat = pc') (hr : Steps p.tables e below (T.setTop (mkF m pc' Ls S)) target) : Steps p.tables e below (T.setTop (mkF m pc Ls (.ref b :: S))) target := XS.ifnonnullYes (g := mkF m pc Ls (.ref b :: S)) X.here hx rfl rfl (hb hby hd) rfl ho hp hr
theorem y_ifNo (X : Stand p l e R s m args below meth c T locs cells slots) (hx : p.tables.exec = Jvm.exec) (hby : c.code = bytes) {cd : ClassFile.Cond} {o : Int} {x : Int32} (hd : decode bytes pc = .ok (.ifCond cd o, 3)) (hc : ifCond.holds cd x = false) (hr : Steps p.tables e below (T.setTop (mkF m (pc + 3) Ls S)) target) : Steps p.tables e below (T.setTop (mkF m pc Ls (.int x :: S))) target := XS.ifNo (g := mkF m pc Ls (.int x :: S)) X.here hx rfl (hb hby hd) rfl hc hr
theorem y_icmpNo (X : Stand p l e R s m args below meth c T locs cells slots) (hx : p.tables.exec = Jvm.exec) (hby : c.code = bytes) {cd : ClassFile.Cond} {o : Int} {x y : Int32} (hd : decode bytes pc = .ok (.if_icmp cd o, 3)) (hc : if_icmp.holds cd x y = false) (hr : Steps p.tables e below (T.setTop (mkF m (pc + 3) Ls S)) target) : Steps p.tables e below (T.setTop (mkF m pc Ls (.int y :: .int x :: S))) target := XS.icmpNo (g := mkF m pc Ls (.int y :: .int x :: S)) X.here hx rfl (hb hby hd) rfl hc hr
theorem y_ifnullNo (X : Stand p l e R s m args below meth c T locs cells slots) (hx : p.tables.exec = Jvm.exec) (hby : c.code = bytes) {o : Int} {b : Addr} (hd : decode bytes pc = .ok (.ifnull o, 3)) (hr : Steps p.tables e below (T.setTop (mkF m (pc + 3) Ls S)) target) : Steps p.tables e below (T.setTop (mkF m pc Ls (.ref b :: S))) target := XS.ifnullNo (g := mkF m pc Ls (.ref b :: S)) X.here hx rfl (hb hby hd) rfl hr
theorem y_ifnonnullNo (X : Stand p l e R s m args below meth c T locs cells slots) (hx : p.tables.exec = Jvm.exec) (hby : c.code = bytes) {o : Int} (hd : decode bytes pc = .ok (.ifnonnull o, 3)) (hr : Steps p.tables e below (T.setTop (mkF m (pc + 3) Ls S)) target) : Steps p.tables e below (T.setTop (mkF m pc Ls (.null :: S))) target := XS.ifnonnullNo (g := mkF m pc Ls (.null :: S)) X.here hx rfl (hb hby hd) rfl hr
end YS
theorem ww {Z : State} {a0 : Array Value} (hw : ∀ d ∈ tables_1, d.before a0 Z = true) (i : Nat) {d : Jvm.Cond} (h : tables_1[i]? = some d) : d.before a0 Z = true := hw _ (List.mem_of_getElem? h)
abbrev HW (a0 : Array Value) (Z : State) : Prop := ∀ d ∈ tables_1, d.before a0 Z = true
abbrev GO (p : Program) (e : Env) (below : List Frame) (A B : State) : Prop := ∀ t, Steps p.tables e below A t → Steps p.tables e below B t
abbrev MF (l : Launch) (y : MethodName) (bytes : ByteArray) (maxL : Nat) (ret : Option FieldType) (ws : List Jvm.Cond) (rm : Room) (as' : Array Value) (Z : State) (h0 : Heap) (Q : Option Value → Heap → List Loc → Prop) : Prop := MetFree l y (head1 (Jvm.Cond.code y bytes maxL ret :: ws) rm) (fun a U => a = as' ∧ Z.Warmed39 U.vm ∧ U.heap = h0) (fun _ _ _ _ _ => True) (fun _ U o U' => ∃ v L, o = .returned v ∧ Q v U'.heap L ∧ FrameEnd U o U' L rm.cells rm.slots)
abbrev MFW (l : Launch) (y : MethodName) (bytes : ByteArray) (maxL : Nat) (ret : Option FieldType) (ws : List Jvm.Cond) (rm : Room) (as' : Array Value) (Z : State) (h0 : Heap) (Q : Option Value → Heap → List Loc → Prop) : Prop := MetFree l y (head1 (Jvm.Cond.code y bytes maxL ret :: ws) rm) (fun a U => a = as' ∧ Z.Warmed39 U.vm ∧ U.heap = h0) (fun _ _ _ _ _ => True) (fun _ U o U' => ∃ v L, o = .returned v ∧ Q v U'.heap L ∧ ReturnedEndW U o U' L rm.cells rm.slots)
def QL (w : Option Value) (n0 : Nat) (v : Option Value) (h : Heap) (L : List Loc) : Prop := v = w ∧ Fr n0 L
theorem own_stakeep {Z : State} {h h' : Heap} {C n d : String} {v : Value} {ws : List Addr} (F : Sta Z h C n d v) (K : Keep h h' ws) (q : ∀ x ∈ ws, ∀ cell : Cell, h[x]? = some cell → cell.vm.isStatics = false) : Sta Z h' C n d v := by
  obtain ⟨cf, i, k, f, st, cell, h1, h2, h3, h4, h5, h6, h7⟩ := F
  exact ⟨cf, i, k, f, st, cell, h1, h2, h3, h4, K.2.1 _ _ h5 (fun hm => by rw [q _ hm _ h5] at h6; cases h6), h6, h7⟩
theorem own_eqi {args : Array Value} {first s : State} {o : Option Outcome} {idx : List Nat} {t : Term} {k : Int32} (h : (Jvm.Cond.eq t (.int k)).value args first o s idx = some true) : t.eval args first o idx s = some (.int k) := by
  simp only [Cond.value, Term.eval] at h
  cases ht : t.eval args first o idx s with
  | none => simp [ht] at h
  | some x => cases x <;> simp [ht] at h ⊢ <;> exact h
theorem own_same {Z : State} {a0 : Array Value} {C : String} {y y2 : MethodName} (wi : (Jvm.Cond.instanceMethod y).before a0 Z = true) (ws : (Jvm.Cond.selects C y2 y2).before a0 Z = true) (hc : y2.cls = y.cls) (hy : y.cls ≠ "java/lang/invoke/MethodHandle" ∧ y.cls ≠ "java/lang/invoke/VarHandle") : (Jvm.Cond.sameMethod y.cls y.cls y.name y.desc).before a0 Z = true := by
  obtain ⟨mk, methM, hnamed, hmethM, -, -⟩ := Cond.instanceMethod_spec wi
  obtain ⟨c2, r2, m2, -, -, q3, -, kP, hkP, hkPi⟩ := Cond.selects_spec ws
  have hf : Z.methodFound? y.cls y.name y.desc = some mk := State.methodFound?_of_named hnamed hy
  have h1 := findClass_of_methodNamed hnamed
  have h2 := findClass_of_methodNamed q3
  rw [hc] at h2
  have e : m2.cls = mk.cls := Option.some.inj (h2.symm.trans h1)
  rw [e] at hkP
  have hn' : Z.methodNamed? ⟨y.cls, y.name, y.desc⟩ = some mk := hnamed
  simp [Cond.before, Cond.holds, Cond.value, h1, hf, hn', hkP, hkPi]
theorem own_selp {Z : State} {a0 : Array Value} {C : String} {y : MethodName} (wp : (Jvm.Cond.privateMethod y).before a0 Z = true) (wi : (Jvm.Cond.instanceMethod y).before a0 Z = true) (ws : (Jvm.Cond.selects C y y).before a0 Z = true) (hy : y.cls ≠ "java/lang/invoke/MethodHandle" ∧ y.cls ≠ "java/lang/invoke/VarHandle") : (Jvm.Cond.selects y.cls y y).before a0 Z = true := by
  obtain ⟨c2, r2, m2, -, -, q3, -, kP, hkP, hkPi⟩ := Cond.selects_spec ws
  exact Jvm.Stand.selects_self_of_private (findClass_of_methodNamed q3) hkP hkPi (Cond.privateMethod_at wp) wi hy
theorem own_nf {s : State} {args : Array Value} {C : String} {y y2 : MethodName} (ws : (Jvm.Cond.selects C y2 y2).before args s = true) (hc : y2.cls = y.cls) : NotFace s y := fun r0 h0 => by
  obtain ⟨c2, r2, m2, -, -, q3, -, kP, hkP, hkPi⟩ := Cond.selects_spec ws
  have h1 := findClass_of_methodNamed h0
  have h2 := findClass_of_methodNamed q3
  rw [hc] at h2
  have e : m2.cls = r0.cls := Option.some.inj (h2.symm.trans h1)
  rw [e] at hkP
  exact ⟨kP, hkP, hkPi⟩
abbrev LB (cs : List Int32) : List Value := (cs.map StrChars.lo8).map Value.int
theorem own_lblen (cs : List Int32) : (LB cs).length = cs.length := by simp [LB]
theorem own_us {l : List Value} {d : Value} {m : Nat} (h : l.length = m) : l = (List.range m).map fun i => l.getD ((0 : Int32).toNatClampNeg + i) d := by
  subst h
  apply List.ext_getElem
  · simp
  · intro j h1 h2
    have e : (0 : Int32).toNatClampNeg + j = j := by show 0 + j = j; omega
    simp [e, h1]
theorem own_cat {cs ds : List Int32} {zn zm : Int32} (hn : zn.toNatClampNeg = cs.length) (hm : zm.toNatClampNeg = ds.length) : ((LB cs ++ List.replicate zm.toNatClampNeg (Value.int 0)).take zn.toNatClampNeg ++ LB ds ++ (LB cs ++ List.replicate zm.toNatClampNeg (Value.int 0)).drop (zn.toNatClampNeg + zm.toNatClampNeg)) = LB (cs ++ ds) := by
  have h1 : (LB cs).length = zn.toNatClampNeg := by rw [own_lblen, hn]
  rw [List.take_left' h1, List.drop_eq_nil_of_le (by simp [own_lblen, hn])]
  simp [LB]
theorem own_catlen {cs : List Int32} {zn zm : Int32} (hn : zn.toNatClampNeg = cs.length) : zn.toNatClampNeg + zm.toNatClampNeg ≤ (LB cs ++ List.replicate zm.toNatClampNeg (Value.int 0)).length := by
  simp [own_lblen, hn]
theorem own_grow {cs : List Int32} {m : Nat} (hm : cs.length ≤ m) : ∀ i, (LB cs).getD i (Value.int 0) = (((([] : List Value) ++ List.replicate m (Value.int 0)).take (0 : Int32).toNatClampNeg ++ ((List.range m).map fun i => (LB cs).getD ((0 : Int32).toNatClampNeg + i) (Value.int 0)) ++ (([] : List Value) ++ List.replicate m (Value.int 0)).drop ((0 : Int32).toNatClampNeg + m))).getD i (Value.int 0) := fun i => by
  have e0 : (0 : Int32).toNatClampNeg = 0 := rfl
  rw [e0, List.take_zero, List.nil_append, List.nil_append, Nat.zero_add, List.drop_eq_nil_of_le (by simp), List.append_nil]
  by_cases h : i < m
  · simp [h]
  · have h2 : cs[i]? = none := List.getElem?_eq_none (by omega)
    simp [h, h2]
theorem own_push {cs : List Int32} {n : Nat} {c : Int32} (h : cs.length = n) : (LB cs ++ List.replicate 1 (Value.int 0)).set n (Value.int c.toInt8.toInt32) = LB (cs ++ [c]) := by
  subst h
  simp [LB, StrChars.lo8, List.set_append]
theorem own_pushlen {cs : List Int32} {n : Nat} {c : Int32} (h : cs.length = n) : (cs ++ [c]).length = n + 1 := by simp [h]
theorem own_pushv {vs : List Value} {n : Nat} {v d : Value} (h : vs.length = n) : (vs ++ List.replicate 1 d).set n v = vs ++ [v] := by
  subst h
  simp [List.set_append]
theorem pushC {p : Program} {l : Launch} {e : Env} {R : Room} {s : State} {m : MethodId} {args : Array Value} {below : List Frame} {meth : Method} {c : Code} {T Z : State} {locs : List Loc} {cells slots : Nat} {h : Heap} (X : Stand p l e R s m args below meth c T locs cells slots) (hx : p.tables.exec = Jvm.exec) (hZ : Z.Warmed39 s.vm) (eT : T.heap = h) {a : Addr} {k : ClassId} {z : Int32} {vs : List Value} (V : Arv Z h a k .char z vs (.int 0)) {j x : Int32} (hj : ¬ j < 0 ∧ j < z) (hl : vs.length = j.toNatClampNeg) {bytes : ByteArray} {pc : Nat} {Ls : Array Slot} {S : List Value} (hby : c.code = bytes) (hd : decode bytes pc = .ok (.castore, 1)) :
    ∃ T' h', Stand p l e R s m args below meth c T' (locs ++ [⟨a, j.toNatClampNeg⟩]) cells slots ∧ T'.heap = h' ∧ Wr h h' a j.toNatClampNeg (.int (x.toUInt32.toUInt16.toUInt32.toInt32)) ∧ Arv Z h' a k .char z (vs ++ [.int (x.toUInt32.toUInt16.toUInt32.toInt32)]) (.int 0) ∧ (vs ++ [Value.int (x.toUInt32.toUInt16.toUInt32.toInt32)]).length = j.toNatClampNeg + 1 ∧
      ∀ target, Steps p.tables e below (T'.setTop (mkF m (pc + 1) Ls S)) target → Steps p.tables e below (T.setTop (mkF m pc Ls (.int x :: .int j :: .ref a :: S))) target := by
  obtain ⟨cl, A, q, Sz, Nn, Hh, Gg⟩ := V.pad (pad_rep vs (.int 0) 1)
  obtain ⟨T', h', X', e', W, st⟩ := stC X hx hZ eT A (j := j) (x := x) (inb_of Sz hj) (g := mkF m pc Ls (.int x :: .int j :: .ref a :: S)) rfl rfl (hb hby hd)
  have V' := Arv.set A q Sz Nn Hh Gg (fits_nar_char _) W vs.length hl.symm (by simp)
  rw [own_pushv rfl] at V'
  exact ⟨T', h', X', e', W, V', by simp [hl], st⟩
theorem own_pushlt {cs : List Int32} {n : Nat} (h : cs.length = n) : n < (LB cs ++ List.replicate 1 (Value.int 0)).length := by
  subst h
  simp [LB]
abbrev RG (c : Int32) : Prop := ¬ c < 0 ∧ ¬ (255 : Int32) < c
def RGs (cs : List Int32) : Prop := ∀ c ∈ cs, ¬ c < 0 ∧ ¬ (255 : Int32) < c
theorem own_up {cs : List Int32} (h : RGs cs) : ∀ c ∈ cs, ¬ c < 0 ∧ ¬ (65535 : Int32) < c := fun c hc => ⟨(h c hc).1, fun q => (h c hc).2 (by rw [Int32.lt_iff_toInt_lt] at q ⊢; have e1 : (65535 : Int32).toInt = 65535 := rfl; have e2 : (255 : Int32).toInt = 255 := rfl; omega)⟩
def n16 (x : Int32) : Int32 := x.toUInt32.toUInt16.toUInt32.toInt32
theorem own_nat {c : Int32} (h : RG c) : ∃ k, k < 256 ∧ c = Int32.ofNat k := by
  obtain ⟨h1, h2⟩ := h
  have e0 : (0 : Int32).toInt = 0 := by decide
  have e1 : (255 : Int32).toInt = 255 := by decide
  rw [Int32.lt_iff_toInt_lt] at h1 h2
  refine ⟨c.toInt.toNat, by omega, ?_⟩
  apply Int32.toInt_inj.mp
  have : (Int32.ofNat c.toInt.toNat).toInt = (c.toInt.toNat : Int) := Int32.toInt_ofNat_of_lt (by omega)
  omega
theorem own_n16 {c : Int32} (h : RG c) : n16 c = c := by
  obtain ⟨k, hk, rfl⟩ := own_nat h
  exact (by decide +kernel : ∀ k, k < 256 → n16 (Int32.ofNat k) = Int32.ofNat k) k hk
theorem own_char (y : Int32) : RG ((y &&& (255 : Int32)).toUInt32.toUInt16.toUInt32.toInt32) := by
  rw [i2c_mask]
  have h : (y &&& 255).toInt = y.toInt % (2 ^ 8 : Nat) := c_mask y _ 8 (by decide) (by decide)
  have e0 : (0 : Int32).toInt = 0 := by decide
  have e1 : (255 : Int32).toInt = 255 := by decide
  unfold RG
  rw [Int32.lt_iff_toInt_lt, Int32.lt_iff_toInt_lt]
  omega
theorem own_charz {z y : Int32} (h : z = (y &&& (255 : Int32)).toUInt32.toUInt16.toUInt32.toInt32) : RG (z.toUInt32.toUInt16.toUInt32.toInt32) := by
  subst h
  have := own_n16 (own_char y)
  unfold n16 at this
  rw [this]
  exact own_char y
theorem own_rn : RGs [] := fun c hc => by cases hc
theorem own_rc {c : Int32} {l : List Int32} (h : RG c) (k : RGs l) : RGs (c :: l) := fun z hz => by
  rcases List.mem_cons.mp hz with rfl | q
  · exact h
  · exact k z q
theorem own_eqv {cs ds : List Int32} {v : Option Value} (h : (v = some (.int 1) ∧ cs = ds) ∨ (v = some (.int 0) ∧ ¬ cs = ds)) (q : cs = ds) : v = some (.int 1) := by
  rcases h with ⟨rfl, h⟩ | ⟨rfl, h⟩
  · rfl
  · exact absurd q h
theorem own_cod {cs : List Int32} {n : Nat} (hn : cs.length = n) (h : RGs cs) : StrChars.Road.CodA cs 0 (Int32.ofNat n) ((cs.map StrChars.lo8).map Value.int) := StrChars.Road.codOf hn (fun c hc => (h c hc).2)
theorem own_nz {args : Array Value} {first s : State} {o : Option Outcome} {idx : List Nat} {t : Term} {z : Int32} (h : (Jvm.Cond.not (.eq t (.int 0))).value args first o s idx = some true) (e : t.eval args first o idx s = some (.int z)) : ¬ z = 0 := by
  intro q
  subst q
  simp [Cond.value, Term.eval, e] at h
def QA (A : Heap → Addr → Prop) (h0 : Heap) (n0 : Nat) (v : Option Value) (h : Heap) (L : List Loc) : Prop := ∃ x, v = some (.ref x) ∧ Fr n0 L ∧ Keep h0 h [] ∧ h0.size ≤ x ∧ A h x
def QW (ws : List Addr) (v0 : Option Value) (A : Heap → Prop) (h0 : Heap) (n0 : Nat) (v : Option Value) (h : Heap) (L : List Loc) : Prop := v = v0 ∧ Fr n0 L ∧ Keep h0 h ws ∧ A h
abbrev cd15 := jdk_42_method_152_code
theorem d15_0 : DD cd15 0 (.getstatic 38) 3 := by decide +kernel
theorem d15_3 : DD cd15 3 (.ifCond .eq 10) 3 := by decide +kernel
theorem d15_6 : DD cd15 6 (.aload_n 0) 1 := by decide +kernel
theorem d15_7 : DD cd15 7 (.getfield 15) 3 := by decide +kernel
theorem d15_10 : DD cd15 10 (.goto 4) 3 := by decide +kernel
theorem d15_14 : DD cd15 14 (.ireturn) 1 := by decide +kernel
abbrev mn0 : MethodName := ⟨"java/lang/String", "coder", "()B"⟩
theorem pn_15 : plainName "java/lang/String" = true := by first | (simp [plainName, overriddenIn]; done) | decide +kernel
theorem ef_15 (m : MethodId) (x0 : Addr) : entryFrame m #[.ref x0] 1 = mkF m 0 #[.val (.ref x0)] [] := by first | (simp [entryFrame, mkF, argsToLocals, Value.category]; done) | rfl
def f15 (a1 : Addr) (wC : Int32) : Int32 := (0 : Int32)
set_option maxRecDepth 65536 in
set_option maxHeartbeats 40000000 in
theorem rm15 (l : Launch) (Z : State) (a0 : Array Value) (hw : HW a0 Z) (ws : List Jvm.Cond) (a1 : Addr) (wC : Int32) (h0 : Heap) (n0 : Nat) (Z0 : n0 ≤ h0.size) (SC : SS Z h0 wC) (hz : ¬ wC = 0) (F_coder_a1 : GC Z h0 a1 (.int 0)) :
    MF l mn0 jdk_42_method_152_code 1 (some .byte) ws (RM 0 0 0 0) #[.ref a1] Z h0 (QP (some (.int (f15 a1 wC))) h0 n0) := by
  refine MetFree.of_bodySF (plainFor_of_name pn_15) hisR ?_
  intro p e s m args below meth c s₁ Bd hml0 hP hK
  obtain ⟨rfl, hZ, hh⟩ := hP
  have hx := Bd.exec
  have hby := Bd.bytes
  have hml : c.maxLocals = 1 := hml0
  have hown : s.vm.findClass "java/lang/String" = some m.cls := findClass_of_methodNamed Bd.named
  have hnm := (name_of_methodNamed Bd.named Bd.method).1
  have X0 : Stand p l e (RM 0 0 0 0) s m #[.ref a1] below meth c s₁ [] 0 0 := Stand.of_body Bd
  have e0 : s₁.heap = h0 := by rw [← hh, Bd.state]; rfl
  have N0 := Fr.nil n0
  have pre0 : GO p e below (s₁.setTop (mkF m 0 #[.val (.ref a1)] [])) (s₁.setTop (entryFrame m #[.ref a1] 1)) := fun t k => castTop (ef_15 m a1) k
  obtain ⟨T1, X1, e1, st1⟩ := getS2 X0 hx hZ hown (host := "") (Or.inl (ww hw 14 rfl)) Via.refl e0 SC (g := (mkF m 0 #[.val (.ref a1)] [])) rfl (hb hby d15_0)
  obtain ⟨T2, X2, e2, st2⟩ := getF X1 hx hZ hown (host := "") (Or.inl (ww hw 26 rfl)) Via.refl e1 F_coder_a1 (g := (mkF m 7 #[.val (.ref a1)] [.ref a1])) rfl rfl (hb hby d15_7)
  obtain ⟨fs, hr, hrun, hended, hW, hsame⟩ := X2.leave (v := some (.int 0)) (fun h => by rw [Bd.returns] at h; cases h)
  refine ⟨_, _, pre0 _ ?_, hrun, hended, _, _, rfl, ?_, ⟨_, rfl⟩, hW, hsame.mono (by decide) (by decide)⟩
  · refine st1 _ ?_
    show SP p e below T1 (mkF m 3 #[.val (.ref a1)] [(.int wC)]) _
    refine y_ifNo X1 hx hby d15_3 ((if0 _ _).trans (feq hz).1) ?_
    refine y_aloadN X1 hx hby d15_6 rfl rfl ?_
    refine st2 _ ?_
    show SP p e below T2 (mkF m 10 #[.val (.ref a1)] [.int 0]) _
    refine y_goto X2 hx hby (pc' := 14) d15_10 (by decide) (by decide) ?_
    exact retN X2 hx (t := .byte) Bd.returns (by simp) (hb hby d15_14) hr
  · show QP _ h0 n0 _ T2.heap _
    rw [e2, show f15 a1 wC = (0 : Int32) from rfl]
    exact ⟨rfl, N0, rfl⟩
abbrev cd19 := jdk_29_method_65_code
theorem d19_0 : DD cd19 0 (.iload_n 0) 1 := by decide +kernel
theorem d19_1 : DD cd19 1 (.iload_n 1) 1 := by decide +kernel
theorem d19_2 : DD cd19 2 (.if_icmp .lt 7) 3 := by decide +kernel
theorem d19_9 : DD cd19 9 (.iload_n 1) 1 := by decide +kernel
theorem d19_10 : DD cd19 10 (.ireturn) 1 := by decide +kernel
theorem d19_5 : DD cd19 5 (.iload_n 0) 1 := by decide +kernel
theorem d19_6 : DD cd19 6 (.goto 4) 3 := by decide +kernel
abbrev mn1 : MethodName := ⟨"java/lang/Math", "max", "(II)I"⟩
theorem ef_19 (m : MethodId) (x0 : Int32) (x1 : Int32) : entryFrame m #[(.int x0), (.int x1)] 2 = mkF m 0 #[.val (.int x0), .val (.int x1)] [] := by first | (simp [entryFrame, mkF, argsToLocals, Value.category]; done) | rfl
def f19 (p1 p2 : Int32) : Int32 := (if p1 < p2 then p2 else p1)
set_option maxRecDepth 65536 in
set_option maxHeartbeats 40000000 in
theorem rm19 (l : Launch) (Z : State) (a0 : Array Value) (hw : HW a0 Z) (ws : List Jvm.Cond) (p1 p2 : Int32) (h0 : Heap) (n0 : Nat) (Z0 : n0 ≤ h0.size) :
    MF l mn1 jdk_29_method_65_code 2 (some .int) ws (RM 0 0 0 0) #[(.int p1), (.int p2)] Z h0 (QP (some (.int (f19 p1 p2))) h0 n0) := by
  refine MetFree.of_bodySF (Jvm.Free.JP.mathPlain rfl (by decide +kernel)) hisR ?_
  intro p e s m args below meth c s₁ Bd hml0 hP hK
  obtain ⟨rfl, hZ, hh⟩ := hP
  have hx := Bd.exec
  have hby := Bd.bytes
  have hml : c.maxLocals = 2 := hml0
  have hown : s.vm.findClass "java/lang/Math" = some m.cls := findClass_of_methodNamed Bd.named
  have hnm := (name_of_methodNamed Bd.named Bd.method).1
  have X0 : Stand p l e (RM 0 0 0 0) s m #[(.int p1), (.int p2)] below meth c s₁ [] 0 0 := Stand.of_body Bd
  have e0 : s₁.heap = h0 := by rw [← hh, Bd.state]; rfl
  have N0 := Fr.nil n0
  have pre0 : GO p e below (s₁.setTop (mkF m 0 #[.val (.int p1), .val (.int p2)] [])) (s₁.setTop (entryFrame m #[(.int p1), (.int p2)] 2)) := fun t k => castTop (ef_19 m p1 p2) k
  have pre4 : GO p e below (s₁.setTop (mkF m 2 #[.val (.int p1), .val (.int p2)] [(.int p2), (.int p1)])) (s₁.setTop (entryFrame m #[(.int p1), (.int p2)] 2)) := fun t k => by
    refine pre0 _ ?_
    refine y_iloadN X0 hx hby d19_0 rfl ?_
    refine y_iloadN X0 hx hby d19_1 rfl ?_
    exact k
  by_cases hc3 : p1 < p2
  · obtain ⟨fs, hr, hrun, hended, hW, hsame⟩ := X0.leave (v := some (.int p2)) (fun h => by rw [Bd.returns] at h; cases h)
    refine ⟨_, _, pre4 _ ?_, hrun, hended, _, _, rfl, ?_, ⟨_, rfl⟩, hW, hsame.mono (by decide) (by decide)⟩
    · refine y_icmpYes X0 hx hby (pc' := 9) d19_2 (tlt hc3).1 (by decide) (by decide) ?_
      refine y_iloadN X0 hx hby d19_9 rfl ?_
      exact retI X0 hx Bd.returns (hb hby d19_10) hr
    · show QP _ h0 n0 _ s₁.heap _
      rw [e0, show f19 p1 p2 = p2 from by unfold f19; rw [if_pos hc3]]
      exact ⟨rfl, N0, rfl⟩
  · obtain ⟨fs, hr, hrun, hended, hW, hsame⟩ := X0.leave (v := some (.int p1)) (fun h => by rw [Bd.returns] at h; cases h)
    refine ⟨_, _, pre4 _ ?_, hrun, hended, _, _, rfl, ?_, ⟨_, rfl⟩, hW, hsame.mono (by decide) (by decide)⟩
    · refine y_icmpNo X0 hx hby d19_2 (flt hc3).1 ?_
      refine y_iloadN X0 hx hby d19_5 rfl ?_
      refine y_goto X0 hx hby (pc' := 10) d19_6 (by decide) (by decide) ?_
      exact retI X0 hx Bd.returns (hb hby d19_10) hr
    · show QP _ h0 n0 _ s₁.heap _
      rw [e0, show f19 p1 p2 = p1 from by unfold f19; rw [if_neg hc3]]
      exact ⟨rfl, N0, rfl⟩
abbrev cd21 := jdk_29_method_69_code
theorem d21_0 : DD cd21 0 (.iload_n 0) 1 := by decide +kernel
theorem d21_1 : DD cd21 1 (.iload_n 1) 1 := by decide +kernel
theorem d21_2 : DD cd21 2 (.if_icmp .gt 7) 3 := by decide +kernel
theorem d21_9 : DD cd21 9 (.iload_n 1) 1 := by decide +kernel
theorem d21_10 : DD cd21 10 (.ireturn) 1 := by decide +kernel
theorem d21_5 : DD cd21 5 (.iload_n 0) 1 := by decide +kernel
theorem d21_6 : DD cd21 6 (.goto 4) 3 := by decide +kernel
abbrev mn2 : MethodName := ⟨"java/lang/Math", "min", "(II)I"⟩
theorem ef_21 (m : MethodId) (x0 : Int32) (x1 : Int32) : entryFrame m #[(.int x0), (.int x1)] 2 = mkF m 0 #[.val (.int x0), .val (.int x1)] [] := by first | (simp [entryFrame, mkF, argsToLocals, Value.category]; done) | rfl
def f21 (p1 p2 : Int32) : Int32 := (if p2 < p1 then p2 else p1)
set_option maxRecDepth 65536 in
set_option maxHeartbeats 40000000 in
theorem rm21 (l : Launch) (Z : State) (a0 : Array Value) (hw : HW a0 Z) (ws : List Jvm.Cond) (p1 p2 : Int32) (h0 : Heap) (n0 : Nat) (Z0 : n0 ≤ h0.size) :
    MF l mn2 jdk_29_method_69_code 2 (some .int) ws (RM 0 0 0 0) #[(.int p1), (.int p2)] Z h0 (QP (some (.int (f21 p1 p2))) h0 n0) := by
  refine MetFree.of_bodySF (Jvm.Free.JP.mathPlain rfl (by decide +kernel)) hisR ?_
  intro p e s m args below meth c s₁ Bd hml0 hP hK
  obtain ⟨rfl, hZ, hh⟩ := hP
  have hx := Bd.exec
  have hby := Bd.bytes
  have hml : c.maxLocals = 2 := hml0
  have hown : s.vm.findClass "java/lang/Math" = some m.cls := findClass_of_methodNamed Bd.named
  have hnm := (name_of_methodNamed Bd.named Bd.method).1
  have X0 : Stand p l e (RM 0 0 0 0) s m #[(.int p1), (.int p2)] below meth c s₁ [] 0 0 := Stand.of_body Bd
  have e0 : s₁.heap = h0 := by rw [← hh, Bd.state]; rfl
  have N0 := Fr.nil n0
  have pre0 : GO p e below (s₁.setTop (mkF m 0 #[.val (.int p1), .val (.int p2)] [])) (s₁.setTop (entryFrame m #[(.int p1), (.int p2)] 2)) := fun t k => castTop (ef_21 m p1 p2) k
  have pre6 : GO p e below (s₁.setTop (mkF m 2 #[.val (.int p1), .val (.int p2)] [(.int p2), (.int p1)])) (s₁.setTop (entryFrame m #[(.int p1), (.int p2)] 2)) := fun t k => by
    refine pre0 _ ?_
    refine y_iloadN X0 hx hby d21_0 rfl ?_
    refine y_iloadN X0 hx hby d21_1 rfl ?_
    exact k
  by_cases hc5 : p2 < p1
  · obtain ⟨fs, hr, hrun, hended, hW, hsame⟩ := X0.leave (v := some (.int p2)) (fun h => by rw [Bd.returns] at h; cases h)
    refine ⟨_, _, pre6 _ ?_, hrun, hended, _, _, rfl, ?_, ⟨_, rfl⟩, hW, hsame.mono (by decide) (by decide)⟩
    · refine y_icmpYes X0 hx hby (pc' := 9) d21_2 (tlt hc5).2.2.1 (by decide) (by decide) ?_
      refine y_iloadN X0 hx hby d21_9 rfl ?_
      exact retI X0 hx Bd.returns (hb hby d21_10) hr
    · show QP _ h0 n0 _ s₁.heap _
      rw [e0, show f21 p1 p2 = p2 from by unfold f21; rw [if_pos hc5]]
      exact ⟨rfl, N0, rfl⟩
  · obtain ⟨fs, hr, hrun, hended, hW, hsame⟩ := X0.leave (v := some (.int p1)) (fun h => by rw [Bd.returns] at h; cases h)
    refine ⟨_, _, pre6 _ ?_, hrun, hended, _, _, rfl, ?_, ⟨_, rfl⟩, hW, hsame.mono (by decide) (by decide)⟩
    · refine y_icmpNo X0 hx hby d21_2 (flt hc5).2.2.1 ?_
      refine y_iloadN X0 hx hby d21_5 rfl ?_
      refine y_goto X0 hx hby (pc' := 10) d21_6 (by decide) (by decide) ?_
      exact retI X0 hx Bd.returns (hb hby d21_10) hr
    · show QP _ h0 n0 _ s₁.heap _
      rw [e0, show f21 p1 p2 = p1 from by unfold f21; rw [if_neg hc5]]
      exact ⟨rfl, N0, rfl⟩
abbrev cd18 := jdk_48_method_27_code
theorem d18_0 : DD cd18 0 (.iload_n 0) 1 := by decide +kernel
theorem d18_1 : DD cd18 1 (.iload_n 1) 1 := by decide +kernel
theorem d18_2 : DD cd18 2 (.iload_n 2) 1 := by decide +kernel
theorem d18_3 : DD cd18 3 (.invokestatic 194) 3 := by decide +kernel
theorem pd_0 : parseMethodDescriptor "(II)I" = some ⟨[.int, .int], some .int⟩ := by decide +kernel
theorem d18_6 : DD cd18 6 (.iadd) 1 := by decide +kernel
theorem d18_7 : DD cd18 7 (.istore_n 3) 1 := by decide +kernel
theorem d18_8 : DD cd18 8 (.iconst 0) 1 := by decide +kernel
theorem d18_9 : DD cd18 9 (.iload_n 3) 1 := by decide +kernel
theorem d18_10 : DD cd18 10 (.if_icmp .ge 11) 3 := by decide +kernel
theorem d18_13 : DD cd18 13 (.iload_n 3) 1 := by decide +kernel
theorem d18_14 : DD cd18 14 (.ldc 200) 2 := by decide +kernel
theorem d18_16 : DD cd18 16 (.if_icmp .gt 5) 3 := by decide +kernel
theorem d18_19 : DD cd18 19 (.iload_n 3) 1 := by decide +kernel
theorem d18_20 : DD cd18 20 (.ireturn) 1 := by decide +kernel
abbrev mn3 : MethodName := ⟨"jdk/internal/util/ArraysSupport", "newLength", "(III)I"⟩
theorem pn_18 : plainName "jdk/internal/util/ArraysSupport" = true := by first | (simp [plainName, overriddenIn]; done) | decide +kernel
theorem ef_18 (m : MethodId) (x0 : Int32) (x1 : Int32) (x2 : Int32) : entryFrame m #[(.int x0), (.int x1), (.int x2)] 4 = mkF m 0 #[.val (.int x0), .val (.int x1), .val (.int x2), .unset] [] := by first | (simp [entryFrame, mkF, argsToLocals, Value.category]; done) | rfl
abbrev lo18_34_0  : Array Slot := #[.val (.int 16), .val (.int 3), .val (.int 18), .val (.int 34)]
def f18_34  : Int32 := (34 : Int32)
set_option maxRecDepth 65536 in
set_option maxHeartbeats 40000000 in
theorem rm18_34 (l : Launch) (Z : State) (a0 : Array Value) (hw : HW a0 Z) (ws : List Jvm.Cond)  (h0 : Heap) (n0 : Nat) (Z0 : n0 ≤ h0.size) :
    MF l mn3 jdk_48_method_27_code 4 (some .int) ws (RM 1 0 0 14) #[.int 16, .int 3, .int 18] Z h0 (QP (some (.int (f18_34 ))) h0 n0) := by
  refine MetFree.of_bodySF (plainFor_of_name pn_18) hisR ?_
  intro p e s m args below meth c s₁ Bd hml0 hP hK
  obtain ⟨rfl, hZ, hh⟩ := hP
  have hx := Bd.exec
  have hby := Bd.bytes
  have hml : c.maxLocals = 4 := hml0
  have hown : s.vm.findClass "jdk/internal/util/ArraysSupport" = some m.cls := findClass_of_methodNamed Bd.named
  have hnm := (name_of_methodNamed Bd.named Bd.method).1
  have X0 : Stand p l e (RM 1 0 0 14) s m #[.int 16, .int 3, .int 18] below meth c s₁ [] 0 0 := Stand.of_body Bd
  have e0 : s₁.heap = h0 := by rw [← hh, Bd.state]; rfl
  have N0 := Fr.nil n0
  have pre0 : GO p e below (s₁.setTop (mkF m 0 #[.val (.int 16), .val (.int 3), .val (.int 18), .unset] [])) (s₁.setTop (entryFrame m #[.int 16, .int 3, .int 18] 4)) := fun t k => castTop (ef_18 m (16 : Int32) (3 : Int32) (18 : Int32)) k
  obtain ⟨_, _, ⟨T7, _, _, _⟩, -, X7, ⟨_, hQ7, l7, y7, z7⟩, st7⟩ := Jvm.LawKit.callS X0 hx (y := mn1) hown (mvT hZ (ww hw 112 rfl)) (mvT hZ (ww hw 113 rfl)) (mvT hZ (ww hw 114 rfl)) (mvT hZ (ww hw 115 rfl)) (by decide) (backOf (W := 1) (rm19 l Z a0 hw [] (3 : Int32) (18 : Int32) h0 n0 Z0) hZ (ww hw 115 rfl) (ww hw 114 rfl) (by decide) (by decide)) (g := (mkF m 3 #[.val (.int 16), .val (.int 3), .val (.int 18), .unset] [.int 18, .int 3, .int 16])) rfl (by rw [hml]; rfl) (argsL := [.int 3, .int 18]) (rest := [.int 16]) (lenOf pd_0 rfl) rfl (wz rfl) (hb hby d18_3) (fun _ _ => ⟨rfl, e0, (by decide : 0 + 0 ≤ _), (by decide : 0 + 0 ≤ _)⟩)
  dsimp only [Pt.U, Pt.locs, Pt.cells, Pt.slots] at X7 l7 y7 z7 st7 hQ7
  rw [l7, y7, z7] at X7
  obtain ⟨rfl, N7q, e7⟩ := hQ7
  have q7 : f19 (3 : Int32) (18 : Int32) = (18 : Int32) := by decide
  rw [q7] at st7
  have N7 := Fr.app N0 N7q
  obtain ⟨fs, hr, hrun, hended, hW, hsame⟩ := X7.leave (v := some (.int 34)) (fun h => by rw [Bd.returns] at h; cases h)
  refine ⟨_, _, pre0 _ ?_, hrun, hended, _, _, rfl, ?_, ⟨_, rfl⟩, hW, hsame.mono (by decide) (by decide)⟩
  · refine y_iloadN X0 hx hby d18_0 rfl ?_
    refine y_iloadN X0 hx hby d18_1 rfl ?_
    refine y_iloadN X0 hx hby d18_2 rfl ?_
    refine st7 _ ?_
    show SP p e below T7 (mkF m 6 #[.val (.int 16), .val (.int 3), .val (.int 18), .unset] [.int 18, .int 16]) _
    refine y_iadd X7 hx hby d18_6 ?_
    rw [show ((16 : Int32) + (18 : Int32)) = (34 : Int32) from by decide]
    refine y_istoreN X7 hx hby d18_7 (l' := lo18_34_0) rfl ?_
    refine y_iconst X7 hx hby (v := (0 : Int32)) d18_8 rfl ?_
    refine y_iloadN X7 hx hby d18_9 rfl ?_
    refine y_icmpNo X7 hx hby d18_10 (tlt (by decide)).2.1 ?_
    refine y_iloadN X7 hx hby d18_13 rfl ?_
    refine X7.ldcInt hx hown (mvT hZ (ww hw 116 rfl)) (g := (mkF m 14 lo18_34_0 [.int 34])) rfl (hb hby d18_14) _ ?_
    show SP p e below T7 (mkF m 16 lo18_34_0 [.int 2147483639, .int 34]) _
    refine y_icmpNo X7 hx hby d18_16 (flt (by decide)).2.2.1 ?_
    refine y_iloadN X7 hx hby d18_19 rfl ?_
    exact retI X7 hx Bd.returns (hb hby d18_20) hr
  · show QP _ h0 n0 _ T7.heap _
    rw [e7, show f18_34  = (34 : Int32) from rfl]
    exact ⟨rfl, N7, rfl⟩
abbrev lo18_70_0  : Array Slot := #[.val (.int 34), .val (.int 3), .val (.int 36), .val (.int 70)]
def f18_70  : Int32 := (70 : Int32)
set_option maxRecDepth 65536 in
set_option maxHeartbeats 40000000 in
theorem rm18_70 (l : Launch) (Z : State) (a0 : Array Value) (hw : HW a0 Z) (ws : List Jvm.Cond)  (h0 : Heap) (n0 : Nat) (Z0 : n0 ≤ h0.size) :
    MF l mn3 jdk_48_method_27_code 4 (some .int) ws (RM 1 0 0 14) #[.int 34, .int 3, .int 36] Z h0 (QP (some (.int (f18_70 ))) h0 n0) := by
  refine MetFree.of_bodySF (plainFor_of_name pn_18) hisR ?_
  intro p e s m args below meth c s₁ Bd hml0 hP hK
  obtain ⟨rfl, hZ, hh⟩ := hP
  have hx := Bd.exec
  have hby := Bd.bytes
  have hml : c.maxLocals = 4 := hml0
  have hown : s.vm.findClass "jdk/internal/util/ArraysSupport" = some m.cls := findClass_of_methodNamed Bd.named
  have hnm := (name_of_methodNamed Bd.named Bd.method).1
  have X0 : Stand p l e (RM 1 0 0 14) s m #[.int 34, .int 3, .int 36] below meth c s₁ [] 0 0 := Stand.of_body Bd
  have e0 : s₁.heap = h0 := by rw [← hh, Bd.state]; rfl
  have N0 := Fr.nil n0
  have pre0 : GO p e below (s₁.setTop (mkF m 0 #[.val (.int 34), .val (.int 3), .val (.int 36), .unset] [])) (s₁.setTop (entryFrame m #[.int 34, .int 3, .int 36] 4)) := fun t k => castTop (ef_18 m (34 : Int32) (3 : Int32) (36 : Int32)) k
  obtain ⟨_, _, ⟨T8, _, _, _⟩, -, X8, ⟨_, hQ8, l8, y8, z8⟩, st8⟩ := Jvm.LawKit.callS X0 hx (y := mn1) hown (mvT hZ (ww hw 112 rfl)) (mvT hZ (ww hw 113 rfl)) (mvT hZ (ww hw 114 rfl)) (mvT hZ (ww hw 115 rfl)) (by decide) (backOf (W := 1) (rm19 l Z a0 hw [] (3 : Int32) (36 : Int32) h0 n0 Z0) hZ (ww hw 115 rfl) (ww hw 114 rfl) (by decide) (by decide)) (g := (mkF m 3 #[.val (.int 34), .val (.int 3), .val (.int 36), .unset] [.int 36, .int 3, .int 34])) rfl (by rw [hml]; rfl) (argsL := [.int 3, .int 36]) (rest := [.int 34]) (lenOf pd_0 rfl) rfl (wz rfl) (hb hby d18_3) (fun _ _ => ⟨rfl, e0, (by decide : 0 + 0 ≤ _), (by decide : 0 + 0 ≤ _)⟩)
  dsimp only [Pt.U, Pt.locs, Pt.cells, Pt.slots] at X8 l8 y8 z8 st8 hQ8
  rw [l8, y8, z8] at X8
  obtain ⟨rfl, N8q, e8⟩ := hQ8
  have q8 : f19 (3 : Int32) (36 : Int32) = (36 : Int32) := by decide
  rw [q8] at st8
  have N8 := Fr.app N0 N8q
  obtain ⟨fs, hr, hrun, hended, hW, hsame⟩ := X8.leave (v := some (.int 70)) (fun h => by rw [Bd.returns] at h; cases h)
  refine ⟨_, _, pre0 _ ?_, hrun, hended, _, _, rfl, ?_, ⟨_, rfl⟩, hW, hsame.mono (by decide) (by decide)⟩
  · refine y_iloadN X0 hx hby d18_0 rfl ?_
    refine y_iloadN X0 hx hby d18_1 rfl ?_
    refine y_iloadN X0 hx hby d18_2 rfl ?_
    refine st8 _ ?_
    show SP p e below T8 (mkF m 6 #[.val (.int 34), .val (.int 3), .val (.int 36), .unset] [.int 36, .int 34]) _
    refine y_iadd X8 hx hby d18_6 ?_
    rw [show ((34 : Int32) + (36 : Int32)) = (70 : Int32) from by decide]
    refine y_istoreN X8 hx hby d18_7 (l' := lo18_70_0) rfl ?_
    refine y_iconst X8 hx hby (v := (0 : Int32)) d18_8 rfl ?_
    refine y_iloadN X8 hx hby d18_9 rfl ?_
    refine y_icmpNo X8 hx hby d18_10 (tlt (by decide)).2.1 ?_
    refine y_iloadN X8 hx hby d18_13 rfl ?_
    refine X8.ldcInt hx hown (mvT hZ (ww hw 116 rfl)) (g := (mkF m 14 lo18_70_0 [.int 70])) rfl (hb hby d18_14) _ ?_
    show SP p e below T8 (mkF m 16 lo18_70_0 [.int 2147483639, .int 70]) _
    refine y_icmpNo X8 hx hby d18_16 (flt (by decide)).2.2.1 ?_
    refine y_iloadN X8 hx hby d18_19 rfl ?_
    exact retI X8 hx Bd.returns (hb hby d18_20) hr
  · show QP _ h0 n0 _ T8.heap _
    rw [e8, show f18_70  = (70 : Int32) from rfl]
    exact ⟨rfl, N8, rfl⟩
abbrev cd17 := jdk_68_method_10_code
theorem d17_0 : DD cd17 0 (.aload_n 0) 1 := by decide +kernel
theorem d17_1 : DD cd17 1 (.getfield 15) 3 := by decide +kernel
theorem d17_4 : DD cd17 4 (.arraylength) 1 := by decide +kernel
theorem d17_5 : DD cd17 5 (.istore_n 2) 1 := by decide +kernel
theorem d17_6 : DD cd17 6 (.iload_n 1) 1 := by decide +kernel
theorem d17_7 : DD cd17 7 (.aload_n 0) 1 := by decide +kernel
theorem d17_8 : DD cd17 8 (.getfield 22) 3 := by decide +kernel
theorem d17_11 : DD cd17 11 (.ishl) 1 := by decide +kernel
theorem d17_12 : DD cd17 12 (.istore_n 3) 1 := by decide +kernel
theorem d17_13 : DD cd17 13 (.iload_n 3) 1 := by decide +kernel
theorem d17_14 : DD cd17 14 (.iload_n 2) 1 := by decide +kernel
theorem d17_15 : DD cd17 15 (.isub) 1 := by decide +kernel
theorem d17_16 : DD cd17 16 (.istore 4) 2 := by decide +kernel
theorem d17_18 : DD cd17 18 (.iload_n 2) 1 := by decide +kernel
theorem d17_19 : DD cd17 19 (.iload 4) 2 := by decide +kernel
theorem d17_21 : DD cd17 21 (.iload_n 2) 1 := by decide +kernel
theorem d17_22 : DD cd17 22 (.iconst 2) 1 := by decide +kernel
theorem d17_23 : DD cd17 23 (.aload_n 0) 1 := by decide +kernel
theorem d17_24 : DD cd17 24 (.getfield 22) 3 := by decide +kernel
theorem d17_27 : DD cd17 27 (.ishl) 1 := by decide +kernel
theorem d17_28 : DD cd17 28 (.iadd) 1 := by decide +kernel
theorem d17_29 : DD cd17 29 (.invokestatic 114) 3 := by decide +kernel
theorem pd_1 : parseMethodDescriptor "(III)I" = some ⟨[.int, .int, .int], some .int⟩ := by decide +kernel
theorem d17_32 : DD cd17 32 (.istore 5) 2 := by decide +kernel
theorem d17_34 : DD cd17 34 (.iload 5) 2 := by decide +kernel
theorem d17_36 : DD cd17 36 (.ldc 39) 2 := by decide +kernel
theorem d17_38 : DD cd17 38 (.if_icmp .ne 13) 3 := by decide +kernel
theorem d17_51 : DD cd17 51 (.iload 5) 2 := by decide +kernel
theorem d17_53 : DD cd17 53 (.aload_n 0) 1 := by decide +kernel
theorem d17_54 : DD cd17 54 (.getfield 22) 3 := by decide +kernel
theorem d17_57 : DD cd17 57 (.ishr) 1 := by decide +kernel
theorem d17_58 : DD cd17 58 (.ireturn) 1 := by decide +kernel
abbrev mn4 : MethodName := ⟨"java/lang/AbstractStringBuilder", "newCapacity", "(I)I"⟩
theorem pn_17 : plainName "java/lang/AbstractStringBuilder" = true := by first | (simp [plainName, overriddenIn]; done) | decide +kernel
theorem ef_17 (m : MethodId) (x0 : Addr) (x1 : Int32) : entryFrame m #[.ref x0, (.int x1)] 6 = mkF m 0 #[.val (.ref x0), .val (.int x1), .unset, .unset, .unset, .unset] [] := by first | (simp [entryFrame, mkF, argsToLocals, Value.category]; done) | rfl
abbrev lo17_34_0 (a1 : Addr) : Array Slot := #[.val (.ref a1), .val (.int 19), .val (.int 16), .val (.int 19), .unset, .unset]
abbrev lo17_34_1 (a1 : Addr) : Array Slot := #[.val (.ref a1), .val (.int 19), .val (.int 16), .val (.int 19), .val (.int 3), .unset]
abbrev lo17_34_2 (a1 : Addr) : Array Slot := #[.val (.ref a1), .val (.int 19), .val (.int 16), .val (.int 19), .val (.int 3), .val (.int 34)]
set_option maxRecDepth 65536 in
set_option maxHeartbeats 40000000 in
theorem rm17_34 (l : Launch) (Z : State) (a0 : Array Value) (hw : HW a0 Z) (ws : List Jvm.Cond) (a1 d1 : Addr) (kd : ClassId) (cs : List Int32) (h0 : Heap) (n0 : Nat) (Z0 : n0 ≤ h0.size) (E_a1 : EB Z h0 a1) (F_coder_a1 : FC Z h0 a1 (.int 0)) (F_value_a1 : FV Z h0 a1 (.ref d1)) (V_d1 : Arv Z h0 d1 kd .byte (16 : Int32) (LB cs) (.int 0)) :
    MF l mn4 jdk_68_method_10_code 6 (some .int) ws (RM 2 0 0 29) #[.ref a1, .int 19] Z h0 (QP (some (.int 34)) h0 n0) := by
  refine MetFree.of_bodySF (plainFor_of_name pn_17) hisR ?_
  intro p e s m args below meth c s₁ Bd hml0 hP hK
  obtain ⟨rfl, hZ, hh⟩ := hP
  have hx := Bd.exec
  have hby := Bd.bytes
  have hml : c.maxLocals = 6 := hml0
  have hown : s.vm.findClass "java/lang/AbstractStringBuilder" = some m.cls := findClass_of_methodNamed Bd.named
  have hnm := (name_of_methodNamed Bd.named Bd.method).1
  have X0 : Stand p l e (RM 2 0 0 29) s m #[.ref a1, .int 19] below meth c s₁ [] 0 0 := Stand.of_body Bd
  have e0 : s₁.heap = h0 := by rw [← hh, Bd.state]; rfl
  have N0 := Fr.nil n0
  have pre0 : GO p e below (s₁.setTop (mkF m 0 #[.val (.ref a1), .val (.int 19), .unset, .unset, .unset, .unset] [])) (s₁.setTop (entryFrame m #[.ref a1, .int 19] 6)) := fun t k => castTop (ef_17 m a1 (19 : Int32)) k
  obtain ⟨T9, X9, e9, st9⟩ := getF X0 hx hZ hown (host := "") (Or.inl (ww hw 69 rfl)) Via.refl e0 F_value_a1 (g := (mkF m 1 #[.val (.ref a1), .val (.int 19), .unset, .unset, .unset, .unset] [.ref a1])) rfl rfl (hb hby d17_1)
  obtain ⟨cl10, Ar10, q10, Sz10, Nn10, Hh10, Gg10⟩ := id V_d1
  obtain ⟨T11, X11, e11, st11⟩ := getF X9 hx hZ hown (host := "") (Or.inl (ww hw 71 rfl)) Via.refl e9 F_coder_a1 (g := (mkF m 8 #[.val (.ref a1), .val (.int 19), .val (.int 16), .unset, .unset, .unset] [.ref a1, .int 19])) rfl rfl (hb hby d17_8)
  obtain ⟨T12, X12, e12, st12⟩ := getF X11 hx hZ hown (host := "") (Or.inl (ww hw 71 rfl)) Via.refl e11 F_coder_a1 (g := (mkF m 24 (lo17_34_1 a1) [.ref a1, .int 2, .int 16, .int 3, .int 16])) rfl rfl (hb hby d17_24)
  obtain ⟨_, _, ⟨T13, _, _, _⟩, -, X13, ⟨_, hQ13, l13, y13, z13⟩, st13⟩ := Jvm.LawKit.callS X12 hx (y := mn3) hown (mvT hZ (ww hw 108 rfl)) (mvT hZ (ww hw 109 rfl)) (mvT hZ (ww hw 110 rfl)) (mvT hZ (ww hw 111 rfl)) (by decide) (backOf (W := 0) (rm18_34 l Z a0 hw [] h0 n0 Z0) hZ (ww hw 111 rfl) (ww hw 110 rfl) (by decide) (by decide)) (g := (mkF m 29 (lo17_34_1 a1) [.int 18, .int 3, .int 16])) rfl (by rw [hml]; rfl) (argsL := [.int 16, .int 3, .int 18]) (rest := []) (lenOf pd_1 rfl) rfl (wz rfl) (hb hby d17_29) (fun _ _ => ⟨rfl, e12, (by decide : 0 + 0 ≤ _), (by decide : 0 + 0 ≤ _)⟩)
  dsimp only [Pt.U, Pt.locs, Pt.cells, Pt.slots] at X13 l13 y13 z13 st13 hQ13
  rw [l13, y13, z13] at X13
  obtain ⟨rfl, N13q, e13⟩ := hQ13
  have q13 : f18_34 = (34 : Int32) := by decide
  rw [q13] at st13
  have N13 := Fr.app N0 N13q
  obtain ⟨T14, X14, e14, st14⟩ := getF X13 hx hZ hown (host := "") (Or.inl (ww hw 71 rfl)) Via.refl e13 F_coder_a1 (g := (mkF m 54 (lo17_34_2 a1) [.ref a1, .int 34])) rfl rfl (hb hby d17_54)
  obtain ⟨fs, hr, hrun, hended, hW, hsame⟩ := X14.leave (v := some (.int 34)) (fun h => by rw [Bd.returns] at h; cases h)
  refine ⟨_, _, pre0 _ ?_, hrun, hended, _, _, rfl, ?_, ⟨_, rfl⟩, hW, hsame.mono (by decide) (by decide)⟩
  · refine y_aloadN X0 hx hby d17_0 rfl rfl ?_
    refine st9 _ ?_
    show SP p e below T9 (mkF m 4 #[.val (.ref a1), .val (.int 19), .unset, .unset, .unset, .unset] [.ref d1]) _
    refine X9.arraylength hx (by rw [e9]; exact Ar10.1) (State.isArrayOf_alike hZ.alike Ar10.2.1) (g := (mkF m 4 #[.val (.ref a1), .val (.int 19), .unset, .unset, .unset, .unset] [.ref d1])) rfl rfl (hb hby d17_4) _ ?_
    rw [len_of Sz10 Nn10]
    show SP p e below T9 (mkF m 5 #[.val (.ref a1), .val (.int 19), .unset, .unset, .unset, .unset] [.int 16]) _
    refine y_istoreN X9 hx hby d17_5 (l' := #[.val (.ref a1), .val (.int 19), .val (.int 16), .unset, .unset, .unset]) rfl ?_
    refine y_iloadN X9 hx hby d17_6 rfl ?_
    refine y_aloadN X9 hx hby d17_7 rfl rfl ?_
    refine st11 _ ?_
    show SP p e below T11 (mkF m 11 #[.val (.ref a1), .val (.int 19), .val (.int 16), .unset, .unset, .unset] [.int 0, .int 19]) _
    refine y_ishl X11 hx hby d17_11 ?_
    rw [show ((19 : Int32) <<< ((0 : Int32) &&& 31)) = (19 : Int32) from by decide]
    refine y_istoreN X11 hx hby d17_12 (l' := (lo17_34_0 a1)) rfl ?_
    refine y_iloadN X11 hx hby d17_13 rfl ?_
    refine y_iloadN X11 hx hby d17_14 rfl ?_
    refine y_isub X11 hx hby d17_15 ?_
    rw [show ((19 : Int32) - (16 : Int32)) = (3 : Int32) from by decide]
    refine y_istore X11 hx hby d17_16 (l' := (lo17_34_1 a1)) rfl ?_
    refine y_iloadN X11 hx hby d17_18 rfl ?_
    refine y_iload X11 hx hby d17_19 rfl ?_
    refine y_iloadN X11 hx hby d17_21 rfl ?_
    refine y_iconst X11 hx hby (v := (2 : Int32)) d17_22 rfl ?_
    refine y_aloadN X11 hx hby d17_23 rfl rfl ?_
    refine st12 _ ?_
    show SP p e below T12 (mkF m 27 (lo17_34_1 a1) [.int 0, .int 2, .int 16, .int 3, .int 16]) _
    refine y_ishl X12 hx hby d17_27 ?_
    rw [show ((2 : Int32) <<< ((0 : Int32) &&& 31)) = (2 : Int32) from by decide]
    refine y_iadd X12 hx hby d17_28 ?_
    rw [show ((16 : Int32) + (2 : Int32)) = (18 : Int32) from by decide]
    refine st13 _ ?_
    show SP p e below T13 (mkF m 32 (lo17_34_1 a1) [.int 34]) _
    refine y_istore X13 hx hby d17_32 (l' := (lo17_34_2 a1)) rfl ?_
    refine y_iload X13 hx hby d17_34 rfl ?_
    refine X13.ldcInt hx hown (mvT hZ (ww hw 117 rfl)) (g := (mkF m 36 (lo17_34_2 a1) [.int 34])) rfl (hb hby d17_36) _ ?_
    show SP p e below T13 (mkF m 38 (lo17_34_2 a1) [.int 2147483647, .int 34]) _
    refine y_icmpYes X13 hx hby (pc' := 51) d17_38 (feq (by decide)).2 (by decide) (by decide) ?_
    refine y_iload X13 hx hby d17_51 rfl ?_
    refine y_aloadN X13 hx hby d17_53 rfl rfl ?_
    refine st14 _ ?_
    show SP p e below T14 (mkF m 57 (lo17_34_2 a1) [.int 0, .int 34]) _
    refine y_ishr X14 hx hby d17_57 ?_
    rw [show ((34 : Int32) >>> ((0 : Int32) &&& 31)) = (34 : Int32) from by decide]
    exact retI X14 hx Bd.returns (hb hby d17_58) hr
  · show QP _ h0 n0 _ T14.heap _
    rw [e14]
    exact ⟨rfl, N13, rfl⟩
abbrev lo17_70_0 (a1 : Addr) : Array Slot := #[.val (.ref a1), .val (.int 37), .val (.int 34), .val (.int 37), .unset, .unset]
abbrev lo17_70_1 (a1 : Addr) : Array Slot := #[.val (.ref a1), .val (.int 37), .val (.int 34), .val (.int 37), .val (.int 3), .unset]
abbrev lo17_70_2 (a1 : Addr) : Array Slot := #[.val (.ref a1), .val (.int 37), .val (.int 34), .val (.int 37), .val (.int 3), .val (.int 70)]
set_option maxRecDepth 65536 in
set_option maxHeartbeats 40000000 in
theorem rm17_70 (l : Launch) (Z : State) (a0 : Array Value) (hw : HW a0 Z) (ws : List Jvm.Cond) (a1 d1 : Addr) (kd : ClassId) (cs : List Int32) (h0 : Heap) (n0 : Nat) (Z0 : n0 ≤ h0.size) (E_a1 : EB Z h0 a1) (F_coder_a1 : FC Z h0 a1 (.int 0)) (F_value_a1 : FV Z h0 a1 (.ref d1)) (V_d1 : Arv Z h0 d1 kd .byte (34 : Int32) (LB cs) (.int 0)) :
    MF l mn4 jdk_68_method_10_code 6 (some .int) ws (RM 2 0 0 29) #[.ref a1, .int 37] Z h0 (QP (some (.int 70)) h0 n0) := by
  refine MetFree.of_bodySF (plainFor_of_name pn_17) hisR ?_
  intro p e s m args below meth c s₁ Bd hml0 hP hK
  obtain ⟨rfl, hZ, hh⟩ := hP
  have hx := Bd.exec
  have hby := Bd.bytes
  have hml : c.maxLocals = 6 := hml0
  have hown : s.vm.findClass "java/lang/AbstractStringBuilder" = some m.cls := findClass_of_methodNamed Bd.named
  have hnm := (name_of_methodNamed Bd.named Bd.method).1
  have X0 : Stand p l e (RM 2 0 0 29) s m #[.ref a1, .int 37] below meth c s₁ [] 0 0 := Stand.of_body Bd
  have e0 : s₁.heap = h0 := by rw [← hh, Bd.state]; rfl
  have N0 := Fr.nil n0
  have pre0 : GO p e below (s₁.setTop (mkF m 0 #[.val (.ref a1), .val (.int 37), .unset, .unset, .unset, .unset] [])) (s₁.setTop (entryFrame m #[.ref a1, .int 37] 6)) := fun t k => castTop (ef_17 m a1 (37 : Int32)) k
  obtain ⟨T15, X15, e15, st15⟩ := getF X0 hx hZ hown (host := "") (Or.inl (ww hw 69 rfl)) Via.refl e0 F_value_a1 (g := (mkF m 1 #[.val (.ref a1), .val (.int 37), .unset, .unset, .unset, .unset] [.ref a1])) rfl rfl (hb hby d17_1)
  obtain ⟨cl16, Ar16, q16, Sz16, Nn16, Hh16, Gg16⟩ := id V_d1
  obtain ⟨T17, X17, e17, st17⟩ := getF X15 hx hZ hown (host := "") (Or.inl (ww hw 71 rfl)) Via.refl e15 F_coder_a1 (g := (mkF m 8 #[.val (.ref a1), .val (.int 37), .val (.int 34), .unset, .unset, .unset] [.ref a1, .int 37])) rfl rfl (hb hby d17_8)
  obtain ⟨T18, X18, e18, st18⟩ := getF X17 hx hZ hown (host := "") (Or.inl (ww hw 71 rfl)) Via.refl e17 F_coder_a1 (g := (mkF m 24 (lo17_70_1 a1) [.ref a1, .int 2, .int 34, .int 3, .int 34])) rfl rfl (hb hby d17_24)
  obtain ⟨_, _, ⟨T19, _, _, _⟩, -, X19, ⟨_, hQ19, l19, y19, z19⟩, st19⟩ := Jvm.LawKit.callS X18 hx (y := mn3) hown (mvT hZ (ww hw 108 rfl)) (mvT hZ (ww hw 109 rfl)) (mvT hZ (ww hw 110 rfl)) (mvT hZ (ww hw 111 rfl)) (by decide) (backOf (W := 0) (rm18_70 l Z a0 hw [] h0 n0 Z0) hZ (ww hw 111 rfl) (ww hw 110 rfl) (by decide) (by decide)) (g := (mkF m 29 (lo17_70_1 a1) [.int 36, .int 3, .int 34])) rfl (by rw [hml]; rfl) (argsL := [.int 34, .int 3, .int 36]) (rest := []) (lenOf pd_1 rfl) rfl (wz rfl) (hb hby d17_29) (fun _ _ => ⟨rfl, e18, (by decide : 0 + 0 ≤ _), (by decide : 0 + 0 ≤ _)⟩)
  dsimp only [Pt.U, Pt.locs, Pt.cells, Pt.slots] at X19 l19 y19 z19 st19 hQ19
  rw [l19, y19, z19] at X19
  obtain ⟨rfl, N19q, e19⟩ := hQ19
  have q19 : f18_70 = (70 : Int32) := by decide
  rw [q19] at st19
  have N19 := Fr.app N0 N19q
  obtain ⟨T20, X20, e20, st20⟩ := getF X19 hx hZ hown (host := "") (Or.inl (ww hw 71 rfl)) Via.refl e19 F_coder_a1 (g := (mkF m 54 (lo17_70_2 a1) [.ref a1, .int 70])) rfl rfl (hb hby d17_54)
  obtain ⟨fs, hr, hrun, hended, hW, hsame⟩ := X20.leave (v := some (.int 70)) (fun h => by rw [Bd.returns] at h; cases h)
  refine ⟨_, _, pre0 _ ?_, hrun, hended, _, _, rfl, ?_, ⟨_, rfl⟩, hW, hsame.mono (by decide) (by decide)⟩
  · refine y_aloadN X0 hx hby d17_0 rfl rfl ?_
    refine st15 _ ?_
    show SP p e below T15 (mkF m 4 #[.val (.ref a1), .val (.int 37), .unset, .unset, .unset, .unset] [.ref d1]) _
    refine X15.arraylength hx (by rw [e15]; exact Ar16.1) (State.isArrayOf_alike hZ.alike Ar16.2.1) (g := (mkF m 4 #[.val (.ref a1), .val (.int 37), .unset, .unset, .unset, .unset] [.ref d1])) rfl rfl (hb hby d17_4) _ ?_
    rw [len_of Sz16 Nn16]
    show SP p e below T15 (mkF m 5 #[.val (.ref a1), .val (.int 37), .unset, .unset, .unset, .unset] [.int 34]) _
    refine y_istoreN X15 hx hby d17_5 (l' := #[.val (.ref a1), .val (.int 37), .val (.int 34), .unset, .unset, .unset]) rfl ?_
    refine y_iloadN X15 hx hby d17_6 rfl ?_
    refine y_aloadN X15 hx hby d17_7 rfl rfl ?_
    refine st17 _ ?_
    show SP p e below T17 (mkF m 11 #[.val (.ref a1), .val (.int 37), .val (.int 34), .unset, .unset, .unset] [.int 0, .int 37]) _
    refine y_ishl X17 hx hby d17_11 ?_
    rw [show ((37 : Int32) <<< ((0 : Int32) &&& 31)) = (37 : Int32) from by decide]
    refine y_istoreN X17 hx hby d17_12 (l' := (lo17_70_0 a1)) rfl ?_
    refine y_iloadN X17 hx hby d17_13 rfl ?_
    refine y_iloadN X17 hx hby d17_14 rfl ?_
    refine y_isub X17 hx hby d17_15 ?_
    rw [show ((37 : Int32) - (34 : Int32)) = (3 : Int32) from by decide]
    refine y_istore X17 hx hby d17_16 (l' := (lo17_70_1 a1)) rfl ?_
    refine y_iloadN X17 hx hby d17_18 rfl ?_
    refine y_iload X17 hx hby d17_19 rfl ?_
    refine y_iloadN X17 hx hby d17_21 rfl ?_
    refine y_iconst X17 hx hby (v := (2 : Int32)) d17_22 rfl ?_
    refine y_aloadN X17 hx hby d17_23 rfl rfl ?_
    refine st18 _ ?_
    show SP p e below T18 (mkF m 27 (lo17_70_1 a1) [.int 0, .int 2, .int 34, .int 3, .int 34]) _
    refine y_ishl X18 hx hby d17_27 ?_
    rw [show ((2 : Int32) <<< ((0 : Int32) &&& 31)) = (2 : Int32) from by decide]
    refine y_iadd X18 hx hby d17_28 ?_
    rw [show ((34 : Int32) + (2 : Int32)) = (36 : Int32) from by decide]
    refine st19 _ ?_
    show SP p e below T19 (mkF m 32 (lo17_70_1 a1) [.int 70]) _
    refine y_istore X19 hx hby d17_32 (l' := (lo17_70_2 a1)) rfl ?_
    refine y_iload X19 hx hby d17_34 rfl ?_
    refine X19.ldcInt hx hown (mvT hZ (ww hw 117 rfl)) (g := (mkF m 36 (lo17_70_2 a1) [.int 70])) rfl (hb hby d17_36) _ ?_
    show SP p e below T19 (mkF m 38 (lo17_70_2 a1) [.int 2147483647, .int 70]) _
    refine y_icmpYes X19 hx hby (pc' := 51) d17_38 (feq (by decide)).2 (by decide) (by decide) ?_
    refine y_iload X19 hx hby d17_51 rfl ?_
    refine y_aloadN X19 hx hby d17_53 rfl rfl ?_
    refine st20 _ ?_
    show SP p e below T20 (mkF m 57 (lo17_70_2 a1) [.int 0, .int 70]) _
    refine y_ishr X20 hx hby d17_57 ?_
    rw [show ((70 : Int32) >>> ((0 : Int32) &&& 31)) = (70 : Int32) from by decide]
    exact retI X20 hx Bd.returns (hb hby d17_58) hr
  · show QP _ h0 n0 _ T20.heap _
    rw [e20]
    exact ⟨rfl, N19, rfl⟩
abbrev cd14 := jdk_42_method_54_code
theorem d14_0 : DD cd14 0 (.aload_n 0) 1 := by decide +kernel
theorem d14_1 : DD cd14 1 (.getfield 9) 3 := by decide +kernel
theorem d14_4 : DD cd14 4 (.arraylength) 1 := by decide +kernel
theorem d14_5 : DD cd14 5 (.aload_n 0) 1 := by decide +kernel
theorem d14_6 : DD cd14 6 (.invokevirtual 335) 3 := by decide +kernel
theorem pd_2 : parseMethodDescriptor "()B" = some ⟨[], some .byte⟩ := by decide +kernel
theorem d14_9 : DD cd14 9 (.ishr) 1 := by decide +kernel
theorem d14_10 : DD cd14 10 (.ireturn) 1 := by decide +kernel
abbrev mn5 : MethodName := ⟨"java/lang/String", "length", "()I"⟩
theorem ef_14 (m : MethodId) (x0 : Addr) : entryFrame m #[.ref x0] 1 = mkF m 0 #[.val (.ref x0)] [] := by first | (simp [entryFrame, mkF, argsToLocals, Value.category]; done) | rfl
set_option maxRecDepth 65536 in
set_option maxHeartbeats 40000000 in
theorem rm14_19 (l : Launch) (Z : State) (a0 : Array Value) (hw : HW a0 Z) (ws : List Jvm.Cond) (a1 t1 : Addr) (k1 : ClassId) (ds : List Int32) (wC : Int32) (h0 : Heap) (n0 : Nat) (Z0 : n0 ≤ h0.size) (SC : SS Z h0 wC) (hz : ¬ wC = 0) (E_a1 : ES Z h0 a1) (F_coder_a1 : GC Z h0 a1 (.int 0)) (F_value_a1 : GV Z h0 a1 (.ref t1)) (V_t1 : Arv Z h0 t1 k1 .byte (19 : Int32) (LB ds) (.int 0)) :
    MF l mn5 jdk_42_method_54_code 1 (some .int) ws (RM 1 0 0 13) #[.ref a1] Z h0 (QP (some (.int 19)) h0 n0) := by
  refine MetFree.of_bodySF (plainFor_of_name pn_15) hisR ?_
  intro p e s m args below meth c s₁ Bd hml0 hP hK
  obtain ⟨rfl, hZ, hh⟩ := hP
  have hx := Bd.exec
  have hby := Bd.bytes
  have hml : c.maxLocals = 1 := hml0
  have hown : s.vm.findClass "java/lang/String" = some m.cls := findClass_of_methodNamed Bd.named
  have hnm := (name_of_methodNamed Bd.named Bd.method).1
  have X0 : Stand p l e (RM 1 0 0 13) s m #[.ref a1] below meth c s₁ [] 0 0 := Stand.of_body Bd
  have e0 : s₁.heap = h0 := by rw [← hh, Bd.state]; rfl
  have N0 := Fr.nil n0
  have pre0 : GO p e below (s₁.setTop (mkF m 0 #[.val (.ref a1)] [])) (s₁.setTop (entryFrame m #[.ref a1] 1)) := fun t k => castTop (ef_14 m a1) k
  obtain ⟨T21, X21, e21, st21⟩ := getF X0 hx hZ hown (host := "") (Or.inl (ww hw 28 rfl)) Via.refl e0 F_value_a1 (g := (mkF m 1 #[.val (.ref a1)] [.ref a1])) rfl rfl (hb hby d14_1)
  obtain ⟨cl22, Ar22, q22, Sz22, Nn22, Hh22, Gg22⟩ := id V_t1
  obtain ⟨cq23, kq23, q23a, q23b, q23c⟩ := isOf hZ e21 E_a1
  obtain ⟨_, _, ⟨T23, _, _, _⟩, -, X23, ⟨_, hQ23, l23, y23, z23⟩, st23⟩ := X21.virtualBack hx (y := mn0) (z := mn0) hown (mvT hZ (ww hw 91 rfl)) (mvT hZ (ww hw 92 rfl)) (notFace_of_selects (args := #[]) (mvT hZ (ww hw 94 rfl))) (mvT hZ (ww hw 94 rfl)) (mvT hZ (ww hw 93 rfl)) (by decide) (backOf (W := 1) (rm15 l Z a0 hw [] a1 wC h0 n0 Z0 SC hz F_coder_a1) hZ (ww hw 95 rfl) (ww hw 2 rfl) (by decide) (by decide)) q23a q23c (g := (mkF m 6 #[.val (.ref a1)] [.ref a1, .int 19])) rfl (by rw [hml]; rfl) (Steps.refl _) (argsL := []) (rest := [.int 19]) (lenOf pd_2 rfl) rfl (wz rfl) (hb hby d14_6) (fun _ _ => ⟨rfl, e21, (by decide : 0 + 0 ≤ _), (by decide : 0 + 0 ≤ _)⟩)
  dsimp only [Pt.U, Pt.locs, Pt.cells, Pt.slots] at X23 l23 y23 z23 st23 hQ23
  rw [l23, y23, z23] at X23
  obtain ⟨rfl, N23q, e23⟩ := hQ23
  have q23 : f15 a1 wC = (0 : Int32) := rfl
  rw [q23] at st23
  have N23 := Fr.app N0 N23q
  obtain ⟨fs, hr, hrun, hended, hW, hsame⟩ := X23.leave (v := some (.int 19)) (fun h => by rw [Bd.returns] at h; cases h)
  refine ⟨_, _, pre0 _ ?_, hrun, hended, _, _, rfl, ?_, ⟨_, rfl⟩, hW, hsame.mono (by decide) (by decide)⟩
  · refine y_aloadN X0 hx hby d14_0 rfl rfl ?_
    refine st21 _ ?_
    show SP p e below T21 (mkF m 4 #[.val (.ref a1)] [.ref t1]) _
    refine X21.arraylength hx (by rw [e21]; exact Ar22.1) (State.isArrayOf_alike hZ.alike Ar22.2.1) (g := (mkF m 4 #[.val (.ref a1)] [.ref t1])) rfl rfl (hb hby d14_4) _ ?_
    rw [len_of Sz22 Nn22]
    show SP p e below T21 (mkF m 5 #[.val (.ref a1)] [.int 19]) _
    refine y_aloadN X21 hx hby d14_5 rfl rfl ?_
    refine st23.trans ?_
    show SP p e below T23 (mkF m 9 #[.val (.ref a1)] [.int 0, .int 19]) _
    refine y_ishr X23 hx hby d14_9 ?_
    rw [show ((19 : Int32) >>> ((0 : Int32) &&& 31)) = (19 : Int32) from by decide]
    exact retI X23 hx Bd.returns (hb hby d14_10) hr
  · show QP _ h0 n0 _ T23.heap _
    rw [e23]
    exact ⟨rfl, N23, rfl⟩
set_option maxRecDepth 65536 in
set_option maxHeartbeats 40000000 in
theorem rm14_2 (l : Launch) (Z : State) (a0 : Array Value) (hw : HW a0 Z) (ws : List Jvm.Cond) (a1 t1 : Addr) (k1 : ClassId) (ds : List Int32) (wC : Int32) (h0 : Heap) (n0 : Nat) (Z0 : n0 ≤ h0.size) (SC : SS Z h0 wC) (hz : ¬ wC = 0) (E_a1 : ES Z h0 a1) (F_coder_a1 : GC Z h0 a1 (.int 0)) (F_value_a1 : GV Z h0 a1 (.ref t1)) (V_t1 : Arv Z h0 t1 k1 .byte (2 : Int32) (LB ds) (.int 0)) :
    MF l mn5 jdk_42_method_54_code 1 (some .int) ws (RM 1 0 0 13) #[.ref a1] Z h0 (QP (some (.int 2)) h0 n0) := by
  refine MetFree.of_bodySF (plainFor_of_name pn_15) hisR ?_
  intro p e s m args below meth c s₁ Bd hml0 hP hK
  obtain ⟨rfl, hZ, hh⟩ := hP
  have hx := Bd.exec
  have hby := Bd.bytes
  have hml : c.maxLocals = 1 := hml0
  have hown : s.vm.findClass "java/lang/String" = some m.cls := findClass_of_methodNamed Bd.named
  have hnm := (name_of_methodNamed Bd.named Bd.method).1
  have X0 : Stand p l e (RM 1 0 0 13) s m #[.ref a1] below meth c s₁ [] 0 0 := Stand.of_body Bd
  have e0 : s₁.heap = h0 := by rw [← hh, Bd.state]; rfl
  have N0 := Fr.nil n0
  have pre0 : GO p e below (s₁.setTop (mkF m 0 #[.val (.ref a1)] [])) (s₁.setTop (entryFrame m #[.ref a1] 1)) := fun t k => castTop (ef_14 m a1) k
  obtain ⟨T24, X24, e24, st24⟩ := getF X0 hx hZ hown (host := "") (Or.inl (ww hw 28 rfl)) Via.refl e0 F_value_a1 (g := (mkF m 1 #[.val (.ref a1)] [.ref a1])) rfl rfl (hb hby d14_1)
  obtain ⟨cl25, Ar25, q25, Sz25, Nn25, Hh25, Gg25⟩ := id V_t1
  obtain ⟨cq26, kq26, q26a, q26b, q26c⟩ := isOf hZ e24 E_a1
  obtain ⟨_, _, ⟨T26, _, _, _⟩, -, X26, ⟨_, hQ26, l26, y26, z26⟩, st26⟩ := X24.virtualBack hx (y := mn0) (z := mn0) hown (mvT hZ (ww hw 91 rfl)) (mvT hZ (ww hw 92 rfl)) (notFace_of_selects (args := #[]) (mvT hZ (ww hw 94 rfl))) (mvT hZ (ww hw 94 rfl)) (mvT hZ (ww hw 93 rfl)) (by decide) (backOf (W := 1) (rm15 l Z a0 hw [] a1 wC h0 n0 Z0 SC hz F_coder_a1) hZ (ww hw 95 rfl) (ww hw 2 rfl) (by decide) (by decide)) q26a q26c (g := (mkF m 6 #[.val (.ref a1)] [.ref a1, .int 2])) rfl (by rw [hml]; rfl) (Steps.refl _) (argsL := []) (rest := [.int 2]) (lenOf pd_2 rfl) rfl (wz rfl) (hb hby d14_6) (fun _ _ => ⟨rfl, e24, (by decide : 0 + 0 ≤ _), (by decide : 0 + 0 ≤ _)⟩)
  dsimp only [Pt.U, Pt.locs, Pt.cells, Pt.slots] at X26 l26 y26 z26 st26 hQ26
  rw [l26, y26, z26] at X26
  obtain ⟨rfl, N26q, e26⟩ := hQ26
  have q26 : f15 a1 wC = (0 : Int32) := rfl
  rw [q26] at st26
  have N26 := Fr.app N0 N26q
  obtain ⟨fs, hr, hrun, hended, hW, hsame⟩ := X26.leave (v := some (.int 2)) (fun h => by rw [Bd.returns] at h; cases h)
  refine ⟨_, _, pre0 _ ?_, hrun, hended, _, _, rfl, ?_, ⟨_, rfl⟩, hW, hsame.mono (by decide) (by decide)⟩
  · refine y_aloadN X0 hx hby d14_0 rfl rfl ?_
    refine st24 _ ?_
    show SP p e below T24 (mkF m 4 #[.val (.ref a1)] [.ref t1]) _
    refine X24.arraylength hx (by rw [e24]; exact Ar25.1) (State.isArrayOf_alike hZ.alike Ar25.2.1) (g := (mkF m 4 #[.val (.ref a1)] [.ref t1])) rfl rfl (hb hby d14_4) _ ?_
    rw [len_of Sz25 Nn25]
    show SP p e below T24 (mkF m 5 #[.val (.ref a1)] [.int 2]) _
    refine y_aloadN X24 hx hby d14_5 rfl rfl ?_
    refine st26.trans ?_
    show SP p e below T26 (mkF m 9 #[.val (.ref a1)] [.int 0, .int 2]) _
    refine y_ishr X26 hx hby d14_9 ?_
    rw [show ((2 : Int32) >>> ((0 : Int32) &&& 31)) = (2 : Int32) from by decide]
    exact retI X26 hx Bd.returns (hb hby d14_10) hr
  · show QP _ h0 n0 _ T26.heap _
    rw [e26]
    exact ⟨rfl, N26, rfl⟩
set_option maxRecDepth 65536 in
set_option maxHeartbeats 40000000 in
theorem rm14_7 (l : Launch) (Z : State) (a0 : Array Value) (hw : HW a0 Z) (ws : List Jvm.Cond) (a1 t1 : Addr) (k1 : ClassId) (ds : List Int32) (wC : Int32) (h0 : Heap) (n0 : Nat) (Z0 : n0 ≤ h0.size) (SC : SS Z h0 wC) (hz : ¬ wC = 0) (E_a1 : ES Z h0 a1) (F_coder_a1 : GC Z h0 a1 (.int 0)) (F_value_a1 : GV Z h0 a1 (.ref t1)) (V_t1 : Arv Z h0 t1 k1 .byte (7 : Int32) (LB ds) (.int 0)) :
    MF l mn5 jdk_42_method_54_code 1 (some .int) ws (RM 1 0 0 13) #[.ref a1] Z h0 (QP (some (.int 7)) h0 n0) := by
  refine MetFree.of_bodySF (plainFor_of_name pn_15) hisR ?_
  intro p e s m args below meth c s₁ Bd hml0 hP hK
  obtain ⟨rfl, hZ, hh⟩ := hP
  have hx := Bd.exec
  have hby := Bd.bytes
  have hml : c.maxLocals = 1 := hml0
  have hown : s.vm.findClass "java/lang/String" = some m.cls := findClass_of_methodNamed Bd.named
  have hnm := (name_of_methodNamed Bd.named Bd.method).1
  have X0 : Stand p l e (RM 1 0 0 13) s m #[.ref a1] below meth c s₁ [] 0 0 := Stand.of_body Bd
  have e0 : s₁.heap = h0 := by rw [← hh, Bd.state]; rfl
  have N0 := Fr.nil n0
  have pre0 : GO p e below (s₁.setTop (mkF m 0 #[.val (.ref a1)] [])) (s₁.setTop (entryFrame m #[.ref a1] 1)) := fun t k => castTop (ef_14 m a1) k
  obtain ⟨T27, X27, e27, st27⟩ := getF X0 hx hZ hown (host := "") (Or.inl (ww hw 28 rfl)) Via.refl e0 F_value_a1 (g := (mkF m 1 #[.val (.ref a1)] [.ref a1])) rfl rfl (hb hby d14_1)
  obtain ⟨cl28, Ar28, q28, Sz28, Nn28, Hh28, Gg28⟩ := id V_t1
  obtain ⟨cq29, kq29, q29a, q29b, q29c⟩ := isOf hZ e27 E_a1
  obtain ⟨_, _, ⟨T29, _, _, _⟩, -, X29, ⟨_, hQ29, l29, y29, z29⟩, st29⟩ := X27.virtualBack hx (y := mn0) (z := mn0) hown (mvT hZ (ww hw 91 rfl)) (mvT hZ (ww hw 92 rfl)) (notFace_of_selects (args := #[]) (mvT hZ (ww hw 94 rfl))) (mvT hZ (ww hw 94 rfl)) (mvT hZ (ww hw 93 rfl)) (by decide) (backOf (W := 1) (rm15 l Z a0 hw [] a1 wC h0 n0 Z0 SC hz F_coder_a1) hZ (ww hw 95 rfl) (ww hw 2 rfl) (by decide) (by decide)) q29a q29c (g := (mkF m 6 #[.val (.ref a1)] [.ref a1, .int 7])) rfl (by rw [hml]; rfl) (Steps.refl _) (argsL := []) (rest := [.int 7]) (lenOf pd_2 rfl) rfl (wz rfl) (hb hby d14_6) (fun _ _ => ⟨rfl, e27, (by decide : 0 + 0 ≤ _), (by decide : 0 + 0 ≤ _)⟩)
  dsimp only [Pt.U, Pt.locs, Pt.cells, Pt.slots] at X29 l29 y29 z29 st29 hQ29
  rw [l29, y29, z29] at X29
  obtain ⟨rfl, N29q, e29⟩ := hQ29
  have q29 : f15 a1 wC = (0 : Int32) := rfl
  rw [q29] at st29
  have N29 := Fr.app N0 N29q
  obtain ⟨fs, hr, hrun, hended, hW, hsame⟩ := X29.leave (v := some (.int 7)) (fun h => by rw [Bd.returns] at h; cases h)
  refine ⟨_, _, pre0 _ ?_, hrun, hended, _, _, rfl, ?_, ⟨_, rfl⟩, hW, hsame.mono (by decide) (by decide)⟩
  · refine y_aloadN X0 hx hby d14_0 rfl rfl ?_
    refine st27 _ ?_
    show SP p e below T27 (mkF m 4 #[.val (.ref a1)] [.ref t1]) _
    refine X27.arraylength hx (by rw [e27]; exact Ar28.1) (State.isArrayOf_alike hZ.alike Ar28.2.1) (g := (mkF m 4 #[.val (.ref a1)] [.ref t1])) rfl rfl (hb hby d14_4) _ ?_
    rw [len_of Sz28 Nn28]
    show SP p e below T27 (mkF m 5 #[.val (.ref a1)] [.int 7]) _
    refine y_aloadN X27 hx hby d14_5 rfl rfl ?_
    refine st29.trans ?_
    show SP p e below T29 (mkF m 9 #[.val (.ref a1)] [.int 0, .int 7]) _
    refine y_ishr X29 hx hby d14_9 ?_
    rw [show ((7 : Int32) >>> ((0 : Int32) &&& 31)) = (7 : Int32) from by decide]
    exact retI X29 hx Bd.returns (hb hby d14_10) hr
  · show QP _ h0 n0 _ T29.heap _
    rw [e29]
    exact ⟨rfl, N29, rfl⟩
set_option maxRecDepth 65536 in
set_option maxHeartbeats 40000000 in
theorem rm14_1 (l : Launch) (Z : State) (a0 : Array Value) (hw : HW a0 Z) (ws : List Jvm.Cond) (a1 t1 : Addr) (k1 : ClassId) (ds : List Int32) (wC : Int32) (h0 : Heap) (n0 : Nat) (Z0 : n0 ≤ h0.size) (SC : SS Z h0 wC) (hz : ¬ wC = 0) (E_a1 : ES Z h0 a1) (F_coder_a1 : GC Z h0 a1 (.int 0)) (F_value_a1 : GV Z h0 a1 (.ref t1)) (V_t1 : Arv Z h0 t1 k1 .byte (1 : Int32) (LB ds) (.int 0)) :
    MF l mn5 jdk_42_method_54_code 1 (some .int) ws (RM 1 0 0 13) #[.ref a1] Z h0 (QP (some (.int 1)) h0 n0) := by
  refine MetFree.of_bodySF (plainFor_of_name pn_15) hisR ?_
  intro p e s m args below meth c s₁ Bd hml0 hP hK
  obtain ⟨rfl, hZ, hh⟩ := hP
  have hx := Bd.exec
  have hby := Bd.bytes
  have hml : c.maxLocals = 1 := hml0
  have hown : s.vm.findClass "java/lang/String" = some m.cls := findClass_of_methodNamed Bd.named
  have hnm := (name_of_methodNamed Bd.named Bd.method).1
  have X0 : Stand p l e (RM 1 0 0 13) s m #[.ref a1] below meth c s₁ [] 0 0 := Stand.of_body Bd
  have e0 : s₁.heap = h0 := by rw [← hh, Bd.state]; rfl
  have N0 := Fr.nil n0
  have pre0 : GO p e below (s₁.setTop (mkF m 0 #[.val (.ref a1)] [])) (s₁.setTop (entryFrame m #[.ref a1] 1)) := fun t k => castTop (ef_14 m a1) k
  obtain ⟨T30, X30, e30, st30⟩ := getF X0 hx hZ hown (host := "") (Or.inl (ww hw 28 rfl)) Via.refl e0 F_value_a1 (g := (mkF m 1 #[.val (.ref a1)] [.ref a1])) rfl rfl (hb hby d14_1)
  obtain ⟨cl31, Ar31, q31, Sz31, Nn31, Hh31, Gg31⟩ := id V_t1
  obtain ⟨cq32, kq32, q32a, q32b, q32c⟩ := isOf hZ e30 E_a1
  obtain ⟨_, _, ⟨T32, _, _, _⟩, -, X32, ⟨_, hQ32, l32, y32, z32⟩, st32⟩ := X30.virtualBack hx (y := mn0) (z := mn0) hown (mvT hZ (ww hw 91 rfl)) (mvT hZ (ww hw 92 rfl)) (notFace_of_selects (args := #[]) (mvT hZ (ww hw 94 rfl))) (mvT hZ (ww hw 94 rfl)) (mvT hZ (ww hw 93 rfl)) (by decide) (backOf (W := 1) (rm15 l Z a0 hw [] a1 wC h0 n0 Z0 SC hz F_coder_a1) hZ (ww hw 95 rfl) (ww hw 2 rfl) (by decide) (by decide)) q32a q32c (g := (mkF m 6 #[.val (.ref a1)] [.ref a1, .int 1])) rfl (by rw [hml]; rfl) (Steps.refl _) (argsL := []) (rest := [.int 1]) (lenOf pd_2 rfl) rfl (wz rfl) (hb hby d14_6) (fun _ _ => ⟨rfl, e30, (by decide : 0 + 0 ≤ _), (by decide : 0 + 0 ≤ _)⟩)
  dsimp only [Pt.U, Pt.locs, Pt.cells, Pt.slots] at X32 l32 y32 z32 st32 hQ32
  rw [l32, y32, z32] at X32
  obtain ⟨rfl, N32q, e32⟩ := hQ32
  have q32 : f15 a1 wC = (0 : Int32) := rfl
  rw [q32] at st32
  have N32 := Fr.app N0 N32q
  obtain ⟨fs, hr, hrun, hended, hW, hsame⟩ := X32.leave (v := some (.int 1)) (fun h => by rw [Bd.returns] at h; cases h)
  refine ⟨_, _, pre0 _ ?_, hrun, hended, _, _, rfl, ?_, ⟨_, rfl⟩, hW, hsame.mono (by decide) (by decide)⟩
  · refine y_aloadN X0 hx hby d14_0 rfl rfl ?_
    refine st30 _ ?_
    show SP p e below T30 (mkF m 4 #[.val (.ref a1)] [.ref t1]) _
    refine X30.arraylength hx (by rw [e30]; exact Ar31.1) (State.isArrayOf_alike hZ.alike Ar31.2.1) (g := (mkF m 4 #[.val (.ref a1)] [.ref t1])) rfl rfl (hb hby d14_4) _ ?_
    rw [len_of Sz31 Nn31]
    show SP p e below T30 (mkF m 5 #[.val (.ref a1)] [.int 1]) _
    refine y_aloadN X30 hx hby d14_5 rfl rfl ?_
    refine st32.trans ?_
    show SP p e below T32 (mkF m 9 #[.val (.ref a1)] [.int 0, .int 1]) _
    refine y_ishr X32 hx hby d14_9 ?_
    rw [show ((1 : Int32) >>> ((0 : Int32) &&& 31)) = (1 : Int32) from by decide]
    exact retI X32 hx Bd.returns (hb hby d14_10) hr
  · show QP _ h0 n0 _ T32.heap _
    rw [e32]
    exact ⟨rfl, N32, rfl⟩
abbrev cd23 := jdk_68_method_71_code
theorem d23_0 : DD cd23 0 (.getstatic 18) 3 := by decide +kernel
theorem d23_3 : DD cd23 3 (.ifCond .eq 18) 3 := by decide +kernel
theorem d23_6 : DD cd23 6 (.aload_n 0) 1 := by decide +kernel
theorem d23_7 : DD cd23 7 (.getfield 22) 3 := by decide +kernel
theorem d23_10 : DD cd23 10 (.aload_n 1) 1 := by decide +kernel
theorem d23_11 : DD cd23 11 (.invokevirtual 40) 3 := by decide +kernel
theorem d23_14 : DD cd23 14 (.if_icmp .eq 7) 3 := by decide +kernel
theorem d23_21 : DD cd23 21 (.return_) 1 := by decide +kernel
abbrev mn6 : MethodName := ⟨"java/lang/AbstractStringBuilder", "inflateIfNeededFor", "(Ljava/lang/String;)V"⟩
theorem ef_23 (m : MethodId) (x0 : Addr) (x1 : Addr) : entryFrame m #[.ref x0, .ref x1] 2 = mkF m 0 #[.val (.ref x0), .val (.ref x1)] [] := by first | (simp [entryFrame, mkF, argsToLocals, Value.category]; done) | rfl
set_option maxRecDepth 65536 in
set_option maxHeartbeats 40000000 in
theorem rm23 (l : Launch) (Z : State) (a0 : Array Value) (hw : HW a0 Z) (ws : List Jvm.Cond) (a1 a2 : Addr) (wC : Int32) (h0 : Heap) (n0 : Nat) (Z0 : n0 ≤ h0.size) (SC : SS Z h0 wC) (hz : ¬ wC = 0) (F_coder_a1 : FC Z h0 a1 (.int 0)) (E_a2 : ES Z h0 a2) (F_coder_a2 : GC Z h0 a2 (.int 0)) :
    MF l mn6 jdk_68_method_71_code 2 none ws (RM 1 0 0 13) #[.ref a1, .ref a2] Z h0 (QP none h0 n0) := by
  refine MetFree.of_bodySF (plainFor_of_name pn_17) hisR ?_
  intro p e s m args below meth c s₁ Bd hml0 hP hK
  obtain ⟨rfl, hZ, hh⟩ := hP
  have hx := Bd.exec
  have hby := Bd.bytes
  have hml : c.maxLocals = 2 := hml0
  have hown : s.vm.findClass "java/lang/AbstractStringBuilder" = some m.cls := findClass_of_methodNamed Bd.named
  have hnm := (name_of_methodNamed Bd.named Bd.method).1
  have X0 : Stand p l e (RM 1 0 0 13) s m #[.ref a1, .ref a2] below meth c s₁ [] 0 0 := Stand.of_body Bd
  have e0 : s₁.heap = h0 := by rw [← hh, Bd.state]; rfl
  have N0 := Fr.nil n0
  have pre0 : GO p e below (s₁.setTop (mkF m 0 #[.val (.ref a1), .val (.ref a2)] [])) (s₁.setTop (entryFrame m #[.ref a1, .ref a2] 2)) := fun t k => castTop (ef_23 m a1 a2) k
  obtain ⟨T33, X33, e33, st33⟩ := getS2 X0 hx hZ hown (host := "") (Or.inl (ww hw 68 rfl)) Via.refl e0 SC (g := (mkF m 0 #[.val (.ref a1), .val (.ref a2)] [])) rfl (hb hby d23_0)
  obtain ⟨T34, X34, e34, st34⟩ := getF X33 hx hZ hown (host := "") (Or.inl (ww hw 71 rfl)) Via.refl e33 F_coder_a1 (g := (mkF m 7 #[.val (.ref a1), .val (.ref a2)] [.ref a1])) rfl rfl (hb hby d23_7)
  obtain ⟨cq35, kq35, q35a, q35b, q35c⟩ := isOf hZ e34 E_a2
  obtain ⟨_, _, ⟨T35, _, _, _⟩, -, X35, ⟨_, hQ35, l35, y35, z35⟩, st35⟩ := X34.virtualBack hx (y := mn0) (z := mn0) hown (mvT hZ (ww hw 139 rfl)) (mvT hZ (ww hw 92 rfl)) (notFace_of_selects (args := #[]) (mvT hZ (ww hw 94 rfl))) (mvT hZ (ww hw 94 rfl)) (mvT hZ (ww hw 93 rfl)) (by decide) (backOf (W := 1) (rm15 l Z a0 hw [] a2 wC h0 n0 Z0 SC hz F_coder_a2) hZ (ww hw 95 rfl) (ww hw 2 rfl) (by decide) (by decide)) q35a q35c (g := (mkF m 11 #[.val (.ref a1), .val (.ref a2)] [.ref a2, .int 0])) rfl (by rw [hml]; rfl) (Steps.refl _) (argsL := []) (rest := [.int 0]) (lenOf pd_2 rfl) rfl (wz rfl) (hb hby d23_11) (fun _ _ => ⟨rfl, e34, (by decide : 0 + 0 ≤ _), (by decide : 0 + 0 ≤ _)⟩)
  dsimp only [Pt.U, Pt.locs, Pt.cells, Pt.slots] at X35 l35 y35 z35 st35 hQ35
  rw [l35, y35, z35] at X35
  obtain ⟨rfl, N35q, e35⟩ := hQ35
  have q35 : f15 a2 wC = (0 : Int32) := rfl
  rw [q35] at st35
  have N35 := Fr.app N0 N35q
  obtain ⟨fs, hr, hrun, hended, hW, hsame⟩ := X35.leave (v := none) (fun _ => rfl)
  refine ⟨_, _, pre0 _ ?_, hrun, hended, _, _, rfl, ?_, ⟨_, rfl⟩, hW, hsame.mono (by decide) (by decide)⟩
  · refine st33 _ ?_
    show SP p e below T33 (mkF m 3 #[.val (.ref a1), .val (.ref a2)] [(.int wC)]) _
    refine y_ifNo X33 hx hby d23_3 ((if0 _ _).trans (feq hz).1) ?_
    refine y_aloadN X33 hx hby d23_6 rfl rfl ?_
    refine st34 _ ?_
    show SP p e below T34 (mkF m 10 #[.val (.ref a1), .val (.ref a2)] [.int 0]) _
    refine y_aloadN X34 hx hby d23_10 rfl rfl ?_
    refine st35.trans ?_
    show SP p e below T35 (mkF m 14 #[.val (.ref a1), .val (.ref a2)] [.int 0, .int 0]) _
    refine y_icmpYes X35 hx hby (pc' := 21) d23_14 (teq rfl).1 (by decide) (by decide) ?_
    show Steps p.tables e below (T35.setTop (mkF m 21 #[.val (.ref a1), .val (.ref a2)] [])) _
    exact X35.returnOut hx Bd.returns (hb hby d23_21) hr
  · show QP _ h0 n0 _ T35.heap _
    rw [e35]
    exact ⟨rfl, N35, rfl⟩
abbrev cd27 := jdk_68_method_68_code
theorem d27_0 : DD cd27 0 (.getstatic 18) 3 := by decide +kernel
theorem d27_3 : DD cd27 3 (.ifCond .eq 14) 3 := by decide +kernel
theorem d27_6 : DD cd27 6 (.aload_n 0) 1 := by decide +kernel
theorem d27_7 : DD cd27 7 (.getfield 22) 3 := by decide +kernel
theorem d27_10 : DD cd27 10 (.ifCond .ne 7) 3 := by decide +kernel
theorem d27_13 : DD cd27 13 (.iconst 1) 1 := by decide +kernel
theorem d27_14 : DD cd27 14 (.goto 4) 3 := by decide +kernel
theorem d27_18 : DD cd27 18 (.ireturn) 1 := by decide +kernel
abbrev mn7 : MethodName := ⟨"java/lang/AbstractStringBuilder", "isLatin1", "()Z"⟩
theorem ef_27 (m : MethodId) (x0 : Addr) : entryFrame m #[.ref x0] 1 = mkF m 0 #[.val (.ref x0)] [] := by first | (simp [entryFrame, mkF, argsToLocals, Value.category]; done) | rfl
set_option maxRecDepth 65536 in
set_option maxHeartbeats 40000000 in
theorem rm27 (l : Launch) (Z : State) (a0 : Array Value) (hw : HW a0 Z) (ws : List Jvm.Cond) (a1 : Addr) (wC : Int32) (h0 : Heap) (n0 : Nat) (Z0 : n0 ≤ h0.size) (SC : SS Z h0 wC) (hz : ¬ wC = 0) (F_coder_a1 : FC Z h0 a1 (.int 0)) :
    MF l mn7 jdk_68_method_68_code 1 (some .boolean) ws (RM 0 0 0 0) #[.ref a1] Z h0 (QP (some (.int 1)) h0 n0) := by
  refine MetFree.of_bodySF (plainFor_of_name pn_17) hisR ?_
  intro p e s m args below meth c s₁ Bd hml0 hP hK
  obtain ⟨rfl, hZ, hh⟩ := hP
  have hx := Bd.exec
  have hby := Bd.bytes
  have hml : c.maxLocals = 1 := hml0
  have hown : s.vm.findClass "java/lang/AbstractStringBuilder" = some m.cls := findClass_of_methodNamed Bd.named
  have hnm := (name_of_methodNamed Bd.named Bd.method).1
  have X0 : Stand p l e (RM 0 0 0 0) s m #[.ref a1] below meth c s₁ [] 0 0 := Stand.of_body Bd
  have e0 : s₁.heap = h0 := by rw [← hh, Bd.state]; rfl
  have N0 := Fr.nil n0
  have pre0 : GO p e below (s₁.setTop (mkF m 0 #[.val (.ref a1)] [])) (s₁.setTop (entryFrame m #[.ref a1] 1)) := fun t k => castTop (ef_27 m a1) k
  obtain ⟨T36, X36, e36, st36⟩ := getS2 X0 hx hZ hown (host := "") (Or.inl (ww hw 68 rfl)) Via.refl e0 SC (g := (mkF m 0 #[.val (.ref a1)] [])) rfl (hb hby d27_0)
  obtain ⟨T37, X37, e37, st37⟩ := getF X36 hx hZ hown (host := "") (Or.inl (ww hw 71 rfl)) Via.refl e36 F_coder_a1 (g := (mkF m 7 #[.val (.ref a1)] [.ref a1])) rfl rfl (hb hby d27_7)
  obtain ⟨fs, hr, hrun, hended, hW, hsame⟩ := X37.leave (v := some (.int 1)) (fun h => by rw [Bd.returns] at h; cases h)
  refine ⟨_, _, pre0 _ ?_, hrun, hended, _, _, rfl, ?_, ⟨_, rfl⟩, hW, hsame.mono (by decide) (by decide)⟩
  · refine st36 _ ?_
    show SP p e below T36 (mkF m 3 #[.val (.ref a1)] [(.int wC)]) _
    refine y_ifNo X36 hx hby d27_3 ((if0 _ _).trans (feq hz).1) ?_
    refine y_aloadN X36 hx hby d27_6 rfl rfl ?_
    refine st37 _ ?_
    show SP p e below T37 (mkF m 10 #[.val (.ref a1)] [.int 0]) _
    refine y_ifNo X37 hx hby d27_10 ((if0 _ _).trans (teq rfl).2) ?_
    refine y_iconst X37 hx hby (v := (1 : Int32)) d27_13 rfl ?_
    refine y_goto X37 hx hby (pc' := 18) d27_14 (by decide) (by decide) ?_
    exact retN X37 hx (t := .boolean) Bd.returns (by simp) (hb hby d27_18) hr
  · show QP _ h0 n0 _ T37.heap _
    rw [e37]
    exact ⟨rfl, N0, rfl⟩
abbrev cd31 := jdk_68_method_64_code
theorem d31_0 : DD cd31 0 (.aload_n 0) 1 := by decide +kernel
theorem d31_1 : DD cd31 1 (.getfield 15) 3 := by decide +kernel
theorem d31_4 : DD cd31 4 (.areturn) 1 := by decide +kernel
abbrev mn8 : MethodName := ⟨"java/lang/AbstractStringBuilder", "getValue", "()[B"⟩
theorem ef_31 (m : MethodId) (x0 : Addr) : entryFrame m #[.ref x0] 1 = mkF m 0 #[.val (.ref x0)] [] := by first | (simp [entryFrame, mkF, argsToLocals, Value.category]; done) | rfl
set_option maxRecDepth 65536 in
set_option maxHeartbeats 40000000 in
theorem rm31 (l : Launch) (Z : State) (a0 : Array Value) (hw : HW a0 Z) (ws : List Jvm.Cond) (a1 d1 : Addr) (h0 : Heap) (n0 : Nat) (Z0 : n0 ≤ h0.size) (F_value_a1 : FV Z h0 a1 (.ref d1)) :
    MF l mn8 jdk_68_method_64_code 1 (some (.array .byte)) ws (RM 0 0 0 0) #[.ref a1] Z h0 (QP (some (.ref d1)) h0 n0) := by
  refine MetFree.of_bodySF (plainFor_of_name pn_17) hisR ?_
  intro p e s m args below meth c s₁ Bd hml0 hP hK
  obtain ⟨rfl, hZ, hh⟩ := hP
  have hx := Bd.exec
  have hby := Bd.bytes
  have hml : c.maxLocals = 1 := hml0
  have hown : s.vm.findClass "java/lang/AbstractStringBuilder" = some m.cls := findClass_of_methodNamed Bd.named
  have hnm := (name_of_methodNamed Bd.named Bd.method).1
  have X0 : Stand p l e (RM 0 0 0 0) s m #[.ref a1] below meth c s₁ [] 0 0 := Stand.of_body Bd
  have e0 : s₁.heap = h0 := by rw [← hh, Bd.state]; rfl
  have N0 := Fr.nil n0
  have pre0 : GO p e below (s₁.setTop (mkF m 0 #[.val (.ref a1)] [])) (s₁.setTop (entryFrame m #[.ref a1] 1)) := fun t k => castTop (ef_31 m a1) k
  obtain ⟨T38, X38, e38, st38⟩ := getF X0 hx hZ hown (host := "") (Or.inl (ww hw 69 rfl)) Via.refl e0 F_value_a1 (g := (mkF m 1 #[.val (.ref a1)] [.ref a1])) rfl rfl (hb hby d31_1)
  obtain ⟨fs, hr, hrun, hended, hW, hsame⟩ := X38.leave (v := some (.ref d1)) (fun h => by rw [Bd.returns] at h; cases h)
  refine ⟨_, _, pre0 _ ?_, hrun, hended, _, _, rfl, ?_, ⟨_, rfl⟩, hW, hsame.mono (by decide) (by decide)⟩
  · refine y_aloadN X0 hx hby d31_0 rfl rfl ?_
    refine st38 _ ?_
    show Steps p.tables e below (T38.setTop (mkF m 4 #[.val (.ref a1)] [.ref d1])) _
    jvm_step X38.here [X38.here.top, hx, (hb hby d31_4), X38.method', Bd.returns, Value.isRef, FieldType.isReference]
    first | (intro acts; rw [hr _ acts rfl rfl rfl]) | rw [hr _ _ rfl rfl rfl]
    exact Steps.refl _
  · show QP _ h0 n0 _ T38.heap _
    rw [e38]
    exact ⟨rfl, N0, rfl⟩
abbrev cd33 := jdk_68_method_6_code
theorem d33_0 : DD cd33 0 (.aload_n 0) 1 := by decide +kernel
theorem d33_1 : DD cd33 1 (.getfield 79) 3 := by decide +kernel
theorem d33_4 : DD cd33 4 (.ireturn) 1 := by decide +kernel
abbrev mn9 : MethodName := ⟨"java/lang/AbstractStringBuilder", "length", "()I"⟩
theorem ef_33 (m : MethodId) (x0 : Addr) : entryFrame m #[.ref x0] 1 = mkF m 0 #[.val (.ref x0)] [] := by first | (simp [entryFrame, mkF, argsToLocals, Value.category]; done) | rfl
set_option maxRecDepth 65536 in
set_option maxHeartbeats 40000000 in
theorem rm33 (l : Launch) (Z : State) (a0 : Array Value) (hw : HW a0 Z) (ws : List Jvm.Cond) (a1 : Addr) (zc : Int32) (h0 : Heap) (n0 : Nat) (Z0 : n0 ≤ h0.size) (F_count_a1 : FN Z h0 a1 (.int zc)) :
    MF l mn9 jdk_68_method_6_code 1 (some .int) ws (RM 0 0 0 0) #[.ref a1] Z h0 (QP (some (.int zc)) h0 n0) := by
  refine MetFree.of_bodySF (plainFor_of_name pn_17) hisR ?_
  intro p e s m args below meth c s₁ Bd hml0 hP hK
  obtain ⟨rfl, hZ, hh⟩ := hP
  have hx := Bd.exec
  have hby := Bd.bytes
  have hml : c.maxLocals = 1 := hml0
  have hown : s.vm.findClass "java/lang/AbstractStringBuilder" = some m.cls := findClass_of_methodNamed Bd.named
  have hnm := (name_of_methodNamed Bd.named Bd.method).1
  have X0 : Stand p l e (RM 0 0 0 0) s m #[.ref a1] below meth c s₁ [] 0 0 := Stand.of_body Bd
  have e0 : s₁.heap = h0 := by rw [← hh, Bd.state]; rfl
  have N0 := Fr.nil n0
  have pre0 : GO p e below (s₁.setTop (mkF m 0 #[.val (.ref a1)] [])) (s₁.setTop (entryFrame m #[.ref a1] 1)) := fun t k => castTop (ef_33 m a1) k
  obtain ⟨T39, X39, e39, st39⟩ := getF X0 hx hZ hown (host := "") (Or.inl (ww hw 96 rfl)) Via.refl e0 F_count_a1 (g := (mkF m 1 #[.val (.ref a1)] [.ref a1])) rfl rfl (hb hby d33_1)
  obtain ⟨fs, hr, hrun, hended, hW, hsame⟩ := X39.leave (v := some (.int zc)) (fun h => by rw [Bd.returns] at h; cases h)
  refine ⟨_, _, pre0 _ ?_, hrun, hended, _, _, rfl, ?_, ⟨_, rfl⟩, hW, hsame.mono (by decide) (by decide)⟩
  · refine y_aloadN X0 hx hby d33_0 rfl rfl ?_
    refine st39 _ ?_
    show Steps p.tables e below (T39.setTop (mkF m 4 #[.val (.ref a1)] [(.int zc)])) _
    exact retI X39 hx Bd.returns (hb hby d33_4) hr
  · show QP _ h0 n0 _ T39.heap _
    rw [e39]
    exact ⟨rfl, N0, rfl⟩
abbrev cd32 := jdk_67_method_93_code
theorem d32_0 : DD cd32 0 (.aload_n 0) 1 := by decide +kernel
theorem d32_1 : DD cd32 1 (.invokespecial 343) 3 := by decide +kernel
theorem pd_3 : parseMethodDescriptor "()I" = some ⟨[], some .int⟩ := by decide +kernel
theorem d32_4 : DD cd32 4 (.ireturn) 1 := by decide +kernel
abbrev mn10 : MethodName := ⟨"java/lang/StringBuilder", "length", "()I"⟩
theorem pn_32 : plainName "java/lang/StringBuilder" = true := by first | (simp [plainName, overriddenIn]; done) | decide +kernel
theorem ef_32 (m : MethodId) (x0 : Addr) : entryFrame m #[.ref x0] 1 = mkF m 0 #[.val (.ref x0)] [] := by first | (simp [entryFrame, mkF, argsToLocals, Value.category]; done) | rfl
set_option maxRecDepth 65536 in
set_option maxHeartbeats 40000000 in
theorem rm32 (l : Launch) (Z : State) (a0 : Array Value) (hw : HW a0 Z) (ws : List Jvm.Cond) (a1 : Addr) (zc : Int32) (h0 : Heap) (n0 : Nat) (Z0 : n0 ≤ h0.size) (E_a1 : EB Z h0 a1) (F_count_a1 : FN Z h0 a1 (.int zc)) :
    MF l mn10 jdk_67_method_93_code 1 (some .int) ws (RM 1 0 0 12) #[.ref a1] Z h0 (QP (some (.int zc)) h0 n0) := by
  refine MetFree.of_bodySF (plainFor_of_name pn_32) hisR ?_
  intro p e s m args below meth c s₁ Bd hml0 hP hK
  obtain ⟨rfl, hZ, hh⟩ := hP
  have hx := Bd.exec
  have hby := Bd.bytes
  have hml : c.maxLocals = 1 := hml0
  have hown : s.vm.findClass "java/lang/StringBuilder" = some m.cls := findClass_of_methodNamed Bd.named
  have hnm := (name_of_methodNamed Bd.named Bd.method).1
  have X0 : Stand p l e (RM 1 0 0 12) s m #[.ref a1] below meth c s₁ [] 0 0 := Stand.of_body Bd
  have e0 : s₁.heap = h0 := by rw [← hh, Bd.state]; rfl
  have N0 := Fr.nil n0
  have pre0 : GO p e below (s₁.setTop (mkF m 0 #[.val (.ref a1)] [])) (s₁.setTop (entryFrame m #[.ref a1] 1)) := fun t k => castTop (ef_32 m a1) k
  obtain ⟨_, _, ⟨T40, _, _, _⟩, -, X40, ⟨_, hQ40, l40, y40, z40⟩, st40⟩ := superBack X0 hx hZ (y := mn9) hown (ww hw 186 rfl) (own_same (ww hw 182 rfl) (ww hw 101 rfl) rfl (by decide)) (ww hw 182 rfl) (ww hw 83 rfl) (by decide) (backOf (W := 0) (rm33 l Z a0 hw [] a1 zc h0 n0 Z0 F_count_a1) hZ (ww hw 187 rfl) (ww hw 65 rfl) (by decide) (by decide)) e0 (Ins.self E_a1) (g := (mkF m 1 #[.val (.ref a1)] [.ref a1])) rfl (by rw [hml]; rfl) (ww hw 187 rfl) (argsL := []) (rest := []) (lenOf pd_3 rfl) rfl (wz rfl) (hb hby d32_1) (fun _ _ => ⟨rfl, e0, (by decide : 0 + 0 ≤ _), (by decide : 0 + 0 ≤ _)⟩)
  dsimp only [Pt.U, Pt.locs, Pt.cells, Pt.slots] at X40 l40 y40 z40 st40 hQ40
  rw [l40, y40, z40] at X40
  obtain ⟨rfl, N40q, e40⟩ := hQ40
  have N40 := Fr.app N0 N40q
  obtain ⟨fs, hr, hrun, hended, hW, hsame⟩ := X40.leave (v := some (.int zc)) (fun h => by rw [Bd.returns] at h; cases h)
  refine ⟨_, _, pre0 _ ?_, hrun, hended, _, _, rfl, ?_, ⟨_, rfl⟩, hW, hsame.mono (by decide) (by decide)⟩
  · refine y_aloadN X0 hx hby d32_0 rfl rfl ?_
    refine st40.trans ?_
    show Steps p.tables e below (T40.setTop (mkF m 4 #[.val (.ref a1)] [(.int zc)])) _
    exact retI X40 hx Bd.returns (hb hby d32_4) hr
  · show QP _ h0 n0 _ T40.heap _
    rw [e40]
    exact ⟨rfl, N40, rfl⟩
abbrev cd36 := jdk_65_method_131_code
theorem d36_0 : DD cd36 0 (.iload_n 1) 1 := by decide +kernel
theorem d36_1 : DD cd36 1 (.iload_n 0) 1 := by decide +kernel
theorem d36_2 : DD cd36 2 (.if_icmp .ge 35) 3 := by decide +kernel
theorem d36_37 : DD cd36 37 (.return_) 1 := by decide +kernel
abbrev mn11 : MethodName := ⟨"java/util/Arrays", "checkLength", "(II)V"⟩
theorem pn_36 : plainName "java/util/Arrays" = true := by first | (simp [plainName, overriddenIn]; done) | decide +kernel
theorem ef_36 (m : MethodId) (x0 : Int32) (x1 : Int32) : entryFrame m #[(.int x0), (.int x1)] 2 = mkF m 0 #[.val (.int x0), .val (.int x1)] [] := by first | (simp [entryFrame, mkF, argsToLocals, Value.category]; done) | rfl
set_option maxRecDepth 65536 in
set_option maxHeartbeats 40000000 in
theorem rm36_42 (l : Launch) (Z : State) (a0 : Array Value) (hw : HW a0 Z) (ws : List Jvm.Cond)  (h0 : Heap) (n0 : Nat) (Z0 : n0 ≤ h0.size) :
    MF l mn11 jdk_65_method_131_code 2 none ws (RM 0 0 0 0) #[.int 0, .int 42] Z h0 (QP none h0 n0) := by
  refine MetFree.of_bodySF (plainFor_of_name pn_36) hisR ?_
  intro p e s m args below meth c s₁ Bd hml0 hP hK
  obtain ⟨rfl, hZ, hh⟩ := hP
  have hx := Bd.exec
  have hby := Bd.bytes
  have hml : c.maxLocals = 2 := hml0
  have hown : s.vm.findClass "java/util/Arrays" = some m.cls := findClass_of_methodNamed Bd.named
  have hnm := (name_of_methodNamed Bd.named Bd.method).1
  have X0 : Stand p l e (RM 0 0 0 0) s m #[.int 0, .int 42] below meth c s₁ [] 0 0 := Stand.of_body Bd
  have e0 : s₁.heap = h0 := by rw [← hh, Bd.state]; rfl
  have N0 := Fr.nil n0
  have pre0 : GO p e below (s₁.setTop (mkF m 0 #[.val (.int 0), .val (.int 42)] [])) (s₁.setTop (entryFrame m #[.int 0, .int 42] 2)) := fun t k => castTop (ef_36 m (0 : Int32) (42 : Int32)) k
  obtain ⟨fs, hr, hrun, hended, hW, hsame⟩ := X0.leave (v := none) (fun _ => rfl)
  refine ⟨_, _, pre0 _ ?_, hrun, hended, _, _, rfl, ?_, ⟨_, rfl⟩, hW, hsame.mono (by decide) (by decide)⟩
  · refine y_iloadN X0 hx hby d36_0 rfl ?_
    refine y_iloadN X0 hx hby d36_1 rfl ?_
    refine y_icmpYes X0 hx hby (pc' := 37) d36_2 (flt (by decide)).2.1 (by decide) (by decide) ?_
    show Steps p.tables e below (s₁.setTop (mkF m 37 #[.val (.int 0), .val (.int 42)] [])) _
    exact X0.returnOut hx Bd.returns (hb hby d36_37) hr
  · show QP _ h0 n0 _ s₁.heap _
    rw [e0]
    exact ⟨rfl, N0, rfl⟩
set_option maxRecDepth 65536 in
set_option maxHeartbeats 40000000 in
theorem rm36_43 (l : Launch) (Z : State) (a0 : Array Value) (hw : HW a0 Z) (ws : List Jvm.Cond)  (h0 : Heap) (n0 : Nat) (Z0 : n0 ≤ h0.size) :
    MF l mn11 jdk_65_method_131_code 2 none ws (RM 0 0 0 0) #[.int 0, .int 43] Z h0 (QP none h0 n0) := by
  refine MetFree.of_bodySF (plainFor_of_name pn_36) hisR ?_
  intro p e s m args below meth c s₁ Bd hml0 hP hK
  obtain ⟨rfl, hZ, hh⟩ := hP
  have hx := Bd.exec
  have hby := Bd.bytes
  have hml : c.maxLocals = 2 := hml0
  have hown : s.vm.findClass "java/util/Arrays" = some m.cls := findClass_of_methodNamed Bd.named
  have hnm := (name_of_methodNamed Bd.named Bd.method).1
  have X0 : Stand p l e (RM 0 0 0 0) s m #[.int 0, .int 43] below meth c s₁ [] 0 0 := Stand.of_body Bd
  have e0 : s₁.heap = h0 := by rw [← hh, Bd.state]; rfl
  have N0 := Fr.nil n0
  have pre0 : GO p e below (s₁.setTop (mkF m 0 #[.val (.int 0), .val (.int 43)] [])) (s₁.setTop (entryFrame m #[.int 0, .int 43] 2)) := fun t k => castTop (ef_36 m (0 : Int32) (43 : Int32)) k
  obtain ⟨fs, hr, hrun, hended, hW, hsame⟩ := X0.leave (v := none) (fun _ => rfl)
  refine ⟨_, _, pre0 _ ?_, hrun, hended, _, _, rfl, ?_, ⟨_, rfl⟩, hW, hsame.mono (by decide) (by decide)⟩
  · refine y_iloadN X0 hx hby d36_0 rfl ?_
    refine y_iloadN X0 hx hby d36_1 rfl ?_
    refine y_icmpYes X0 hx hby (pc' := 37) d36_2 (flt (by decide)).2.1 (by decide) (by decide) ?_
    show Steps p.tables e below (s₁.setTop (mkF m 37 #[.val (.int 0), .val (.int 43)] [])) _
    exact X0.returnOut hx Bd.returns (hb hby d36_37) hr
  · show QP _ h0 n0 _ s₁.heap _
    rw [e0]
    exact ⟨rfl, N0, rfl⟩
abbrev cd20 := jdk_65_method_121_code
theorem d20_0 : DD cd20 0 (.iload_n 1) 1 := by decide +kernel
theorem d20_1 : DD cd20 1 (.aload_n 0) 1 := by decide +kernel
theorem d20_2 : DD cd20 2 (.arraylength) 1 := by decide +kernel
theorem d20_3 : DD cd20 3 (.if_icmp .ne 11) 3 := by decide +kernel
theorem d20_14 : DD cd20 14 (.iload_n 1) 1 := by decide +kernel
theorem d20_15 : DD cd20 15 (.newarray .byte) 2 := by decide +kernel
theorem d20_17 : DD cd20 17 (.astore_n 2) 1 := by decide +kernel
theorem d20_18 : DD cd20 18 (.aload_n 0) 1 := by decide +kernel
theorem d20_19 : DD cd20 19 (.iconst 0) 1 := by decide +kernel
theorem d20_20 : DD cd20 20 (.aload_n 2) 1 := by decide +kernel
theorem d20_21 : DD cd20 21 (.iconst 0) 1 := by decide +kernel
theorem d20_22 : DD cd20 22 (.aload_n 0) 1 := by decide +kernel
theorem d20_23 : DD cd20 23 (.arraylength) 1 := by decide +kernel
theorem d20_24 : DD cd20 24 (.iload_n 1) 1 := by decide +kernel
theorem d20_25 : DD cd20 25 (.invokestatic 304) 3 := by decide +kernel
theorem d20_28 : DD cd20 28 (.invokestatic 150) 3 := by decide +kernel
theorem d20_31 : DD cd20 31 (.aload_n 2) 1 := by decide +kernel
theorem d20_32 : DD cd20 32 (.areturn) 1 := by decide +kernel
abbrev mn12 : MethodName := ⟨"java/util/Arrays", "copyOf", "([BI)[B"⟩
theorem ef_20 (m : MethodId) (x0 : Addr) (x1 : Int32) : entryFrame m #[.ref x0, (.int x1)] 3 = mkF m 0 #[.val (.ref x0), .val (.int x1), .unset] [] := by first | (simp [entryFrame, mkF, argsToLocals, Value.category]; done) | rfl
set_option maxRecDepth 65536 in
set_option maxHeartbeats 40000000 in
theorem rm20_34 (l : Launch) (Z : State) (a0 : Array Value) (hw : HW a0 Z) (ws : List Jvm.Cond) (a1 : Addr) (kd : ClassId) (cs : List Int32) (h0 : Heap) (n0 : Nat) (Z0 : n0 ≤ h0.size) (hcs : cs.length = 0) (V_a1 : Arv Z h0 a1 kd .byte (16 : Int32) (LB cs) (.int 0)) :
    MF l mn12 jdk_65_method_121_code 3 (some (.array .byte)) ws (RM 1 1 34 18) #[.ref a1, .int 34] Z h0 (QA (fun h x => ∃ k, Arv Z h x k .byte (34 : Int32) (LB cs) (.int 0)) h0 n0) := by
  refine MetFree.of_bodySF (plainFor_of_name pn_36) hisR ?_
  intro p e s m args below meth c s₁ Bd hml0 hP hK
  obtain ⟨rfl, hZ, hh⟩ := hP
  have hx := Bd.exec
  have hby := Bd.bytes
  have hml : c.maxLocals = 3 := hml0
  have hown : s.vm.findClass "java/util/Arrays" = some m.cls := findClass_of_methodNamed Bd.named
  have hnm := (name_of_methodNamed Bd.named Bd.method).1
  have X0 : Stand p l e (RM 1 1 34 18) s m #[.ref a1, .int 34] below meth c s₁ [] 0 0 := Stand.of_body Bd
  have e0 : s₁.heap = h0 := by rw [← hh, Bd.state]; rfl
  have N0 := Fr.nil n0
  have pre0 : GO p e below (s₁.setTop (mkF m 0 #[.val (.ref a1), .val (.int 34), .unset] [])) (s₁.setTop (entryFrame m #[.ref a1, .int 34] 3)) := fun t k => castTop (ef_20 m a1 (34 : Int32)) k
  have KK := Keep.refl h0 []
  obtain ⟨cl41, Ar41, q41, Sz41, Nn41, Hh41, Gg41⟩ := id V_a1
  obtain ⟨T42, h42, k42, X42, e42, E42, A42, st42⟩ := newP X0 hx hZ (ww hw 19 rfl) e0 (g := (mkF m 15 #[.val (.ref a1), .val (.int 34), .unset] [.int 34])) rfl (hb hby d20_15) rfl (by decide) (cap := 34) (by decide) (by decide) (by decide) (by decide)
  obtain ⟨b42, g42⟩ : ∃ z, z = h0.size := ⟨_, rfl⟩
  rw [← g42] at A42 st42
  have g_b42 : n0 ≤ b42 := Nat.le_trans Z0 (Nat.le_of_eq g42.symm)
  have sz_b42 : h0.size ≤ b42 := Nat.le_trans KK.1 (Nat.le_of_eq g42.symm)
  have ne_a1_b42 : a1 ≠ b42 := Nat.ne_of_lt (Nat.lt_of_lt_of_le V_a1.lt (Nat.le_of_eq g42.symm))
  replace V_a1 := V_a1.ext E42
  replace Z0 := Nat.le_trans Z0 E42.1
  replace KK := KK.ext E42
  have V_b42 : Arv Z h42 b42 k42 .byte (34 : Int32) ([] : List Value) (.int 0) := Arv.new A42 (by decide)
  obtain ⟨cl43, Ar43, q43, Sz43, Nn43, Hh43, Gg43⟩ := id V_a1
  obtain ⟨_, _, ⟨T44, _, _, _⟩, -, X44, ⟨_, hQ44, l44, y44, z44⟩, st44⟩ := Jvm.LawKit.callS X42 hx (y := mn2) hown (mvT hZ (ww hw 122 rfl)) (mvT hZ (ww hw 123 rfl)) (mvT hZ (ww hw 114 rfl)) (mvT hZ (ww hw 124 rfl)) (by decide) (backOf (W := 4) (rm21 l Z a0 hw [] (16 : Int32) (34 : Int32) h42 n0 Z0) hZ (ww hw 124 rfl) (ww hw 114 rfl) (by decide) (by decide)) (g := (mkF m 25 #[.val (.ref a1), .val (.int 34), .val (.ref b42)] [.int 34, .int 16, .int 0, .ref b42, .int 0, .ref a1])) rfl (by rw [hml]; rfl) (argsL := [.int 16, .int 34]) (rest := [.int 0, .ref b42, .int 0, .ref a1]) (lenOf pd_0 rfl) rfl (wz rfl) (hb hby d20_25) (fun _ _ => ⟨rfl, e42, (by decide : 1 + 0 ≤ _), (by decide : 34 + 0 ≤ _)⟩)
  dsimp only [Pt.U, Pt.locs, Pt.cells, Pt.slots] at X44 l44 y44 z44 st44 hQ44
  rw [l44, y44, z44] at X44
  obtain ⟨rfl, N44q, e44⟩ := hQ44
  have q44 : f21 (16 : Int32) (34 : Int32) = (16 : Int32) := by decide
  rw [q44] at st44
  have N44 := Fr.app N0 N44q
  replace V_b42 := V_b42.pad (pad_rep ([] : List Value) (.int 0) 16)
  obtain ⟨T45, h45, L45, X45, e45, N45, K45, Vn45, st45⟩ := cpA X44 hx hZ hown (ww hw 125 rfl) (ww hw 128 rfl) (ww hw 126 rfl) (ww hw 127 rfl) e44 (us := ((List.range 16).map fun i => (LB cs).getD ((0 : Int32).toNatClampNeg + i) (.int 0))) V_a1 V_b42 (Or.inl ⟨rfl, rfl⟩) (by decide) (by decide) (by decide) (by decide) (by decide) rfl (by decide) N44 g_b42 (g := (mkF m 28 #[.val (.ref a1), .val (.int 34), .val (.ref b42)] [.int 16, .int 0, .ref b42, .int 0, .ref a1])) rfl (by rw [hml]; rfl) rfl (hb hby d20_28) (by decide) (W := 0) (wz rfl) (by decide)
  replace V_a1 := V_a1.keep K45 (ninS ne_a1_b42 nin0)
  replace Z0 := Nat.le_trans Z0 K45.1
  replace KK := KK.trans K45 (allS (Or.inr sz_b42) all0)
  have V_b42 : Arv Z h45 b42 k42 .byte (34 : Int32) (LB cs) (.int 0) := Vn45.pad (own_grow (m := 16) (by rw [hcs]; decide))
  obtain ⟨fs, hr, hrun, hended, hW, hsame⟩ := X45.leave (v := some (.ref b42)) (fun h => by rw [Bd.returns] at h; cases h)
  refine ⟨_, _, pre0 _ ?_, hrun, hended, _, _, rfl, ?_, ⟨_, rfl⟩, hW, hsame.mono (by decide) (by decide)⟩
  · refine y_iloadN X0 hx hby d20_0 rfl ?_
    refine y_aloadN X0 hx hby d20_1 rfl rfl ?_
    refine X0.arraylength hx (by rw [e0]; exact Ar41.1) (State.isArrayOf_alike hZ.alike Ar41.2.1) (g := (mkF m 2 #[.val (.ref a1), .val (.int 34), .unset] [.ref a1, .int 34])) rfl rfl (hb hby d20_2) _ ?_
    rw [len_of Sz41 Nn41]
    show SP p e below s₁ (mkF m 3 #[.val (.ref a1), .val (.int 34), .unset] [.int 16, .int 34]) _
    refine y_icmpYes X0 hx hby (pc' := 14) d20_3 (feq (by decide)).2 (by decide) (by decide) ?_
    refine y_iloadN X0 hx hby d20_14 rfl ?_
    refine st42 _ ?_
    show SP p e below T42 (mkF m 17 #[.val (.ref a1), .val (.int 34), .unset] [.ref b42]) _
    refine y_astoreN X42 hx hby d20_17 rfl (l' := #[.val (.ref a1), .val (.int 34), .val (.ref b42)]) rfl ?_
    refine y_aloadN X42 hx hby d20_18 rfl rfl ?_
    refine y_iconst X42 hx hby (v := (0 : Int32)) d20_19 rfl ?_
    refine y_aloadN X42 hx hby d20_20 rfl rfl ?_
    refine y_iconst X42 hx hby (v := (0 : Int32)) d20_21 rfl ?_
    refine y_aloadN X42 hx hby d20_22 rfl rfl ?_
    refine X42.arraylength hx (by rw [e42]; exact Ar43.1) (State.isArrayOf_alike hZ.alike Ar43.2.1) (g := (mkF m 23 #[.val (.ref a1), .val (.int 34), .val (.ref b42)] [.ref a1, .int 0, .ref b42, .int 0, .ref a1])) rfl rfl (hb hby d20_23) _ ?_
    rw [len_of Sz43 Nn43]
    show SP p e below T42 (mkF m 24 #[.val (.ref a1), .val (.int 34), .val (.ref b42)] [.int 16, .int 0, .ref b42, .int 0, .ref a1]) _
    refine y_iloadN X42 hx hby d20_24 rfl ?_
    refine st44 _ ?_
    show SP p e below T44 (mkF m 28 #[.val (.ref a1), .val (.int 34), .val (.ref b42)] [.int 16, .int 0, .ref b42, .int 0, .ref a1]) _
    refine st45 _ ?_
    show SP p e below T45 (mkF m 31 #[.val (.ref a1), .val (.int 34), .val (.ref b42)] []) _
    refine y_aloadN X45 hx hby d20_31 rfl rfl ?_
    show Steps p.tables e below (T45.setTop (mkF m 32 #[.val (.ref a1), .val (.int 34), .val (.ref b42)] [.ref b42])) _
    jvm_step X45.here [X45.here.top, hx, (hb hby d20_32), X45.method', Bd.returns, Value.isRef, FieldType.isReference]
    first | (intro acts; rw [hr _ acts rfl rfl rfl]) | rw [hr _ _ rfl rfl rfl]
    exact Steps.refl _
  · show QA _ h0 n0 _ T45.heap _
    rw [e45]
    exact ⟨_, rfl, N45, KK, sz_b42, _, V_b42⟩
set_option maxRecDepth 65536 in
set_option maxHeartbeats 40000000 in
theorem rm20_70 (l : Launch) (Z : State) (a0 : Array Value) (hw : HW a0 Z) (ws : List Jvm.Cond) (a1 : Addr) (kd : ClassId) (cs : List Int32) (h0 : Heap) (n0 : Nat) (Z0 : n0 ≤ h0.size) (hcs : cs.length = 30) (V_a1 : Arv Z h0 a1 kd .byte (34 : Int32) (LB cs) (.int 0)) :
    MF l mn12 jdk_65_method_121_code 3 (some (.array .byte)) ws (RM 1 1 70 18) #[.ref a1, .int 70] Z h0 (QA (fun h x => ∃ k, Arv Z h x k .byte (70 : Int32) (LB cs) (.int 0)) h0 n0) := by
  refine MetFree.of_bodySF (plainFor_of_name pn_36) hisR ?_
  intro p e s m args below meth c s₁ Bd hml0 hP hK
  obtain ⟨rfl, hZ, hh⟩ := hP
  have hx := Bd.exec
  have hby := Bd.bytes
  have hml : c.maxLocals = 3 := hml0
  have hown : s.vm.findClass "java/util/Arrays" = some m.cls := findClass_of_methodNamed Bd.named
  have hnm := (name_of_methodNamed Bd.named Bd.method).1
  have X0 : Stand p l e (RM 1 1 70 18) s m #[.ref a1, .int 70] below meth c s₁ [] 0 0 := Stand.of_body Bd
  have e0 : s₁.heap = h0 := by rw [← hh, Bd.state]; rfl
  have N0 := Fr.nil n0
  have pre0 : GO p e below (s₁.setTop (mkF m 0 #[.val (.ref a1), .val (.int 70), .unset] [])) (s₁.setTop (entryFrame m #[.ref a1, .int 70] 3)) := fun t k => castTop (ef_20 m a1 (70 : Int32)) k
  have KK := Keep.refl h0 []
  obtain ⟨cl46, Ar46, q46, Sz46, Nn46, Hh46, Gg46⟩ := id V_a1
  obtain ⟨T47, h47, k47, X47, e47, E47, A47, st47⟩ := newP X0 hx hZ (ww hw 19 rfl) e0 (g := (mkF m 15 #[.val (.ref a1), .val (.int 70), .unset] [.int 70])) rfl (hb hby d20_15) rfl (by decide) (cap := 70) (by decide) (by decide) (by decide) (by decide)
  obtain ⟨b47, g47⟩ : ∃ z, z = h0.size := ⟨_, rfl⟩
  rw [← g47] at A47 st47
  have g_b47 : n0 ≤ b47 := Nat.le_trans Z0 (Nat.le_of_eq g47.symm)
  have sz_b47 : h0.size ≤ b47 := Nat.le_trans KK.1 (Nat.le_of_eq g47.symm)
  have ne_a1_b47 : a1 ≠ b47 := Nat.ne_of_lt (Nat.lt_of_lt_of_le V_a1.lt (Nat.le_of_eq g47.symm))
  replace V_a1 := V_a1.ext E47
  replace Z0 := Nat.le_trans Z0 E47.1
  replace KK := KK.ext E47
  have V_b47 : Arv Z h47 b47 k47 .byte (70 : Int32) ([] : List Value) (.int 0) := Arv.new A47 (by decide)
  obtain ⟨cl48, Ar48, q48, Sz48, Nn48, Hh48, Gg48⟩ := id V_a1
  obtain ⟨_, _, ⟨T49, _, _, _⟩, -, X49, ⟨_, hQ49, l49, y49, z49⟩, st49⟩ := Jvm.LawKit.callS X47 hx (y := mn2) hown (mvT hZ (ww hw 122 rfl)) (mvT hZ (ww hw 123 rfl)) (mvT hZ (ww hw 114 rfl)) (mvT hZ (ww hw 124 rfl)) (by decide) (backOf (W := 4) (rm21 l Z a0 hw [] (34 : Int32) (70 : Int32) h47 n0 Z0) hZ (ww hw 124 rfl) (ww hw 114 rfl) (by decide) (by decide)) (g := (mkF m 25 #[.val (.ref a1), .val (.int 70), .val (.ref b47)] [.int 70, .int 34, .int 0, .ref b47, .int 0, .ref a1])) rfl (by rw [hml]; rfl) (argsL := [.int 34, .int 70]) (rest := [.int 0, .ref b47, .int 0, .ref a1]) (lenOf pd_0 rfl) rfl (wz rfl) (hb hby d20_25) (fun _ _ => ⟨rfl, e47, (by decide : 1 + 0 ≤ _), (by decide : 70 + 0 ≤ _)⟩)
  dsimp only [Pt.U, Pt.locs, Pt.cells, Pt.slots] at X49 l49 y49 z49 st49 hQ49
  rw [l49, y49, z49] at X49
  obtain ⟨rfl, N49q, e49⟩ := hQ49
  have q49 : f21 (34 : Int32) (70 : Int32) = (34 : Int32) := by decide
  rw [q49] at st49
  have N49 := Fr.app N0 N49q
  replace V_b47 := V_b47.pad (pad_rep ([] : List Value) (.int 0) 34)
  obtain ⟨T50, h50, L50, X50, e50, N50, K50, Vn50, st50⟩ := cpA X49 hx hZ hown (ww hw 125 rfl) (ww hw 128 rfl) (ww hw 126 rfl) (ww hw 127 rfl) e49 (us := ((List.range 34).map fun i => (LB cs).getD ((0 : Int32).toNatClampNeg + i) (.int 0))) V_a1 V_b47 (Or.inl ⟨rfl, rfl⟩) (by decide) (by decide) (by decide) (by decide) (by decide) rfl (by decide) N49 g_b47 (g := (mkF m 28 #[.val (.ref a1), .val (.int 70), .val (.ref b47)] [.int 34, .int 0, .ref b47, .int 0, .ref a1])) rfl (by rw [hml]; rfl) rfl (hb hby d20_28) (by decide) (W := 0) (wz rfl) (by decide)
  replace V_a1 := V_a1.keep K50 (ninS ne_a1_b47 nin0)
  replace Z0 := Nat.le_trans Z0 K50.1
  replace KK := KK.trans K50 (allS (Or.inr sz_b47) all0)
  have V_b47 : Arv Z h50 b47 k47 .byte (70 : Int32) (LB cs) (.int 0) := Vn50.pad (own_grow (m := 34) (by rw [hcs]; decide))
  obtain ⟨fs, hr, hrun, hended, hW, hsame⟩ := X50.leave (v := some (.ref b47)) (fun h => by rw [Bd.returns] at h; cases h)
  refine ⟨_, _, pre0 _ ?_, hrun, hended, _, _, rfl, ?_, ⟨_, rfl⟩, hW, hsame.mono (by decide) (by decide)⟩
  · refine y_iloadN X0 hx hby d20_0 rfl ?_
    refine y_aloadN X0 hx hby d20_1 rfl rfl ?_
    refine X0.arraylength hx (by rw [e0]; exact Ar46.1) (State.isArrayOf_alike hZ.alike Ar46.2.1) (g := (mkF m 2 #[.val (.ref a1), .val (.int 70), .unset] [.ref a1, .int 70])) rfl rfl (hb hby d20_2) _ ?_
    rw [len_of Sz46 Nn46]
    show SP p e below s₁ (mkF m 3 #[.val (.ref a1), .val (.int 70), .unset] [.int 34, .int 70]) _
    refine y_icmpYes X0 hx hby (pc' := 14) d20_3 (feq (by decide)).2 (by decide) (by decide) ?_
    refine y_iloadN X0 hx hby d20_14 rfl ?_
    refine st47 _ ?_
    show SP p e below T47 (mkF m 17 #[.val (.ref a1), .val (.int 70), .unset] [.ref b47]) _
    refine y_astoreN X47 hx hby d20_17 rfl (l' := #[.val (.ref a1), .val (.int 70), .val (.ref b47)]) rfl ?_
    refine y_aloadN X47 hx hby d20_18 rfl rfl ?_
    refine y_iconst X47 hx hby (v := (0 : Int32)) d20_19 rfl ?_
    refine y_aloadN X47 hx hby d20_20 rfl rfl ?_
    refine y_iconst X47 hx hby (v := (0 : Int32)) d20_21 rfl ?_
    refine y_aloadN X47 hx hby d20_22 rfl rfl ?_
    refine X47.arraylength hx (by rw [e47]; exact Ar48.1) (State.isArrayOf_alike hZ.alike Ar48.2.1) (g := (mkF m 23 #[.val (.ref a1), .val (.int 70), .val (.ref b47)] [.ref a1, .int 0, .ref b47, .int 0, .ref a1])) rfl rfl (hb hby d20_23) _ ?_
    rw [len_of Sz48 Nn48]
    show SP p e below T47 (mkF m 24 #[.val (.ref a1), .val (.int 70), .val (.ref b47)] [.int 34, .int 0, .ref b47, .int 0, .ref a1]) _
    refine y_iloadN X47 hx hby d20_24 rfl ?_
    refine st49 _ ?_
    show SP p e below T49 (mkF m 28 #[.val (.ref a1), .val (.int 70), .val (.ref b47)] [.int 34, .int 0, .ref b47, .int 0, .ref a1]) _
    refine st50 _ ?_
    show SP p e below T50 (mkF m 31 #[.val (.ref a1), .val (.int 70), .val (.ref b47)] []) _
    refine y_aloadN X50 hx hby d20_31 rfl rfl ?_
    show Steps p.tables e below (T50.setTop (mkF m 32 #[.val (.ref a1), .val (.int 70), .val (.ref b47)] [.ref b47])) _
    jvm_step X50.here [X50.here.top, hx, (hb hby d20_32), X50.method', Bd.returns, Value.isRef, FieldType.isReference]
    first | (intro acts; rw [hr _ acts rfl rfl rfl]) | rw [hr _ _ rfl rfl rfl]
    exact Steps.refl _
  · show QA _ h0 n0 _ T50.heap _
    rw [e50]
    exact ⟨_, rfl, N50, KK, sz_b47, _, V_b47⟩
abbrev cd35 := jdk_65_method_133_code
theorem d35_0 : DD cd35 0 (.iload_n 1) 1 := by decide +kernel
theorem d35_1 : DD cd35 1 (.iload_n 2) 1 := by decide +kernel
theorem d35_2 : DD cd35 2 (.invokestatic 343) 3 := by decide +kernel
theorem pd_4 : parseMethodDescriptor "(II)V" = some ⟨[.int, .int], none⟩ := by decide +kernel
theorem d35_5 : DD cd35 5 (.iload_n 2) 1 := by decide +kernel
theorem d35_6 : DD cd35 6 (.iload_n 1) 1 := by decide +kernel
theorem d35_7 : DD cd35 7 (.isub) 1 := by decide +kernel
theorem d35_8 : DD cd35 8 (.istore_n 3) 1 := by decide +kernel
theorem d35_9 : DD cd35 9 (.iload_n 3) 1 := by decide +kernel
theorem d35_10 : DD cd35 10 (.newarray .byte) 2 := by decide +kernel
theorem d35_12 : DD cd35 12 (.astore 4) 2 := by decide +kernel
theorem d35_14 : DD cd35 14 (.aload_n 0) 1 := by decide +kernel
theorem d35_15 : DD cd35 15 (.iload_n 1) 1 := by decide +kernel
theorem d35_16 : DD cd35 16 (.aload 4) 2 := by decide +kernel
theorem d35_18 : DD cd35 18 (.iconst 0) 1 := by decide +kernel
theorem d35_19 : DD cd35 19 (.aload_n 0) 1 := by decide +kernel
theorem d35_20 : DD cd35 20 (.arraylength) 1 := by decide +kernel
theorem d35_21 : DD cd35 21 (.iload_n 1) 1 := by decide +kernel
theorem d35_22 : DD cd35 22 (.isub) 1 := by decide +kernel
theorem d35_23 : DD cd35 23 (.iload_n 3) 1 := by decide +kernel
theorem d35_24 : DD cd35 24 (.invokestatic 304) 3 := by decide +kernel
theorem d35_27 : DD cd35 27 (.invokestatic 150) 3 := by decide +kernel
theorem d35_30 : DD cd35 30 (.aload 4) 2 := by decide +kernel
theorem d35_32 : DD cd35 32 (.areturn) 1 := by decide +kernel
abbrev mn13 : MethodName := ⟨"java/util/Arrays", "copyOfRangeByte", "([BII)[B"⟩
theorem ef_35 (m : MethodId) (x0 : Addr) (x1 : Int32) (x2 : Int32) : entryFrame m #[.ref x0, (.int x1), (.int x2)] 5 = mkF m 0 #[.val (.ref x0), .val (.int x1), .val (.int x2), .unset, .unset] [] := by first | (simp [entryFrame, mkF, argsToLocals, Value.category]; done) | rfl
abbrev lo35_42_0 (a1 : Addr) : Array Slot := #[.val (.ref a1), .val (.int 0), .val (.int 42), .val (.int 42), .unset]
abbrev lo35_42_1 (a1 b52 : Addr) : Array Slot := #[.val (.ref a1), .val (.int 0), .val (.int 42), .val (.int 42), .val (.ref b52)]
set_option maxRecDepth 65536 in
set_option maxHeartbeats 40000000 in
theorem rm35_42 (l : Launch) (Z : State) (a0 : Array Value) (hw : HW a0 Z) (ws : List Jvm.Cond) (a1 : Addr) (kd : ClassId) (cs : List Int32) (h0 : Heap) (n0 : Nat) (Z0 : n0 ≤ h0.size) (hcs : cs.length = 42) (V_a1 : Arv Z h0 a1 kd .byte (70 : Int32) (LB cs) (.int 0)) :
    MF l mn13 jdk_65_method_133_code 5 (some (.array .byte)) ws (RM 1 1 42 18) #[.ref a1, .int 0, .int 42] Z h0 (QA (fun h x => ∃ k, Arv Z h x k .byte (42 : Int32) (LB cs) (.int 0)) h0 n0) := by
  refine MetFree.of_bodySF (plainFor_of_name pn_36) hisR ?_
  intro p e s m args below meth c s₁ Bd hml0 hP hK
  obtain ⟨rfl, hZ, hh⟩ := hP
  have hx := Bd.exec
  have hby := Bd.bytes
  have hml : c.maxLocals = 5 := hml0
  have hown : s.vm.findClass "java/util/Arrays" = some m.cls := findClass_of_methodNamed Bd.named
  have hnm := (name_of_methodNamed Bd.named Bd.method).1
  have X0 : Stand p l e (RM 1 1 42 18) s m #[.ref a1, .int 0, .int 42] below meth c s₁ [] 0 0 := Stand.of_body Bd
  have e0 : s₁.heap = h0 := by rw [← hh, Bd.state]; rfl
  have N0 := Fr.nil n0
  have pre0 : GO p e below (s₁.setTop (mkF m 0 #[.val (.ref a1), .val (.int 0), .val (.int 42), .unset, .unset] [])) (s₁.setTop (entryFrame m #[.ref a1, .int 0, .int 42] 5)) := fun t k => castTop (ef_35 m a1 (0 : Int32) (42 : Int32)) k
  have KK := Keep.refl h0 []
  obtain ⟨_, _, ⟨T51, _, _, _⟩, -, X51, ⟨_, hQ51, l51, y51, z51⟩, st51⟩ := Jvm.LawKit.callS X0 hx (y := mn11) hown (mvT hZ (ww hw 195 rfl)) (mvT hZ (ww hw 196 rfl)) (mvT hZ (ww hw 120 rfl)) (mvT hZ (ww hw 197 rfl)) (by decide) (backOf (W := 0) (rm36_42 l Z a0 hw []  h0 n0 Z0 ) hZ (ww hw 197 rfl) (ww hw 120 rfl) (by decide) (by decide)) (g := (mkF m 2 #[.val (.ref a1), .val (.int 0), .val (.int 42), .unset, .unset] [.int 42, .int 0])) rfl (by rw [hml]; rfl) (argsL := [.int 0, .int 42]) (rest := []) (lenOf pd_4 rfl) rfl (wz rfl) (hb hby d35_2) (fun _ _ => ⟨rfl, e0, (by decide : 0 + 0 ≤ _), (by decide : 0 + 0 ≤ _)⟩)
  dsimp only [Pt.U, Pt.locs, Pt.cells, Pt.slots] at X51 l51 y51 z51 st51 hQ51
  rw [l51, y51, z51] at X51
  obtain ⟨rfl, N51q, e51⟩ := hQ51
  have N51 := Fr.app N0 N51q
  obtain ⟨T52, h52, k52, X52, e52, E52, A52, st52⟩ := newP X51 hx hZ (ww hw 19 rfl) e51 (g := (mkF m 10 (lo35_42_0 a1) [.int 42])) rfl (hb hby d35_10) rfl (by decide) (cap := 42) (by decide) (by decide) (by decide) (by decide)
  obtain ⟨b52, g52⟩ : ∃ z, z = h0.size := ⟨_, rfl⟩
  rw [← g52] at A52 st52
  have g_b52 : n0 ≤ b52 := Nat.le_trans Z0 (Nat.le_of_eq g52.symm)
  have sz_b52 : h0.size ≤ b52 := Nat.le_trans KK.1 (Nat.le_of_eq g52.symm)
  have ne_a1_b52 : a1 ≠ b52 := Nat.ne_of_lt (Nat.lt_of_lt_of_le V_a1.lt (Nat.le_of_eq g52.symm))
  replace V_a1 := V_a1.ext E52
  replace Z0 := Nat.le_trans Z0 E52.1
  replace KK := KK.ext E52
  have V_b52 : Arv Z h52 b52 k52 .byte (42 : Int32) (LB ([] : List Int32)) (.int 0) := Arv.new A52 (by decide)
  obtain ⟨cl53, Ar53, q53, Sz53, Nn53, Hh53, Gg53⟩ := id V_a1
  obtain ⟨_, _, ⟨T54, _, _, _⟩, -, X54, ⟨_, hQ54, l54, y54, z54⟩, st54⟩ := Jvm.LawKit.callS X52 hx (y := mn2) hown (mvT hZ (ww hw 122 rfl)) (mvT hZ (ww hw 123 rfl)) (mvT hZ (ww hw 114 rfl)) (mvT hZ (ww hw 124 rfl)) (by decide) (backOf (W := 4) (rm21 l Z a0 hw [] (70 : Int32) (42 : Int32) h52 n0 Z0) hZ (ww hw 124 rfl) (ww hw 114 rfl) (by decide) (by decide)) (g := (mkF m 24 (lo35_42_1 a1 b52) [.int 42, .int 70, .int 0, .ref b52, .int 0, .ref a1])) rfl (by rw [hml]; rfl) (argsL := [.int 70, .int 42]) (rest := [.int 0, .ref b52, .int 0, .ref a1]) (lenOf pd_0 rfl) rfl (wz rfl) (hb hby d35_24) (fun _ _ => ⟨rfl, e52, (by decide : 1 + 0 ≤ _), (by decide : 42 + 0 ≤ _)⟩)
  dsimp only [Pt.U, Pt.locs, Pt.cells, Pt.slots] at X54 l54 y54 z54 st54 hQ54
  rw [l54, y54, z54] at X54
  obtain ⟨rfl, N54q, e54⟩ := hQ54
  have q54 : f21 (70 : Int32) (42 : Int32) = (42 : Int32) := by decide
  rw [q54] at st54
  have N54 := Fr.app N51 N54q
  replace V_b52 := V_b52.pad (pad_rep (LB ([] : List Int32)) (.int 0) ((42 : Int32)).toNatClampNeg)
  obtain ⟨T55, h55, L55, X55, e55, N55, K55, Vn55, st55⟩ := cpA X54 hx hZ hown (ww hw 125 rfl) (ww hw 128 rfl) (ww hw 126 rfl) (ww hw 127 rfl) e54 (us := (LB cs)) V_a1 V_b52 (Or.inl ⟨rfl, rfl⟩) (by decide) (by decide) (by decide) (by decide) (by decide) (own_us ((own_lblen cs).trans (show (42 : Int32).toNatClampNeg = List.length cs from by rw [hcs]; rfl).symm)) (own_catlen (zm := (42 : Int32)) (show (0 : Int32).toNatClampNeg = List.length ([] : List Int32) from rfl)) N54 g_b52 (g := (mkF m 27 (lo35_42_1 a1 b52) [.int 42, .int 0, .ref b52, .int 0, .ref a1])) rfl (by rw [hml]; rfl) rfl (hb hby d35_27) (by decide) (W := 0) (wz rfl) (by decide)
  replace V_a1 := V_a1.keep K55 (ninS ne_a1_b52 nin0)
  replace Z0 := Nat.le_trans Z0 K55.1
  replace KK := KK.trans K55 (allS (Or.inr sz_b52) all0)
  have V_b52 : Arv Z h55 b52 k52 .byte (42 : Int32) (LB cs) (.int 0) := by rw [own_cat (show (0 : Int32).toNatClampNeg = List.length ([] : List Int32) from rfl) (show (42 : Int32).toNatClampNeg = List.length cs from by rw [hcs]; rfl)] at Vn55; exact Vn55
  obtain ⟨fs, hr, hrun, hended, hW, hsame⟩ := X55.leave (v := some (.ref b52)) (fun h => by rw [Bd.returns] at h; cases h)
  refine ⟨_, _, pre0 _ ?_, hrun, hended, _, _, rfl, ?_, ⟨_, rfl⟩, hW, hsame.mono (by decide) (by decide)⟩
  · refine y_iloadN X0 hx hby d35_0 rfl ?_
    refine y_iloadN X0 hx hby d35_1 rfl ?_
    refine st51 _ ?_
    show SP p e below T51 (mkF m 5 #[.val (.ref a1), .val (.int 0), .val (.int 42), .unset, .unset] []) _
    refine y_iloadN X51 hx hby d35_5 rfl ?_
    refine y_iloadN X51 hx hby d35_6 rfl ?_
    refine y_isub X51 hx hby d35_7 ?_
    rw [show ((42 : Int32) - (0 : Int32)) = (42 : Int32) from by decide]
    refine y_istoreN X51 hx hby d35_8 (l' := (lo35_42_0 a1)) rfl ?_
    refine y_iloadN X51 hx hby d35_9 rfl ?_
    refine st52 _ ?_
    show SP p e below T52 (mkF m 12 (lo35_42_0 a1) [.ref b52]) _
    refine y_astore X52 hx hby d35_12 rfl (l' := (lo35_42_1 a1 b52)) rfl ?_
    refine y_aloadN X52 hx hby d35_14 rfl rfl ?_
    refine y_iloadN X52 hx hby d35_15 rfl ?_
    refine y_aload X52 hx hby d35_16 rfl rfl ?_
    refine y_iconst X52 hx hby (v := (0 : Int32)) d35_18 rfl ?_
    refine y_aloadN X52 hx hby d35_19 rfl rfl ?_
    refine X52.arraylength hx (by rw [e52]; exact Ar53.1) (State.isArrayOf_alike hZ.alike Ar53.2.1) (g := (mkF m 20 (lo35_42_1 a1 b52) [.ref a1, .int 0, .ref b52, .int 0, .ref a1])) rfl rfl (hb hby d35_20) _ ?_
    rw [len_of Sz53 Nn53]
    show SP p e below T52 (mkF m 21 (lo35_42_1 a1 b52) [.int 70, .int 0, .ref b52, .int 0, .ref a1]) _
    refine y_iloadN X52 hx hby d35_21 rfl ?_
    refine y_isub X52 hx hby d35_22 ?_
    rw [show ((70 : Int32) - (0 : Int32)) = (70 : Int32) from by decide]
    refine y_iloadN X52 hx hby d35_23 rfl ?_
    refine st54 _ ?_
    show SP p e below T54 (mkF m 27 (lo35_42_1 a1 b52) [.int 42, .int 0, .ref b52, .int 0, .ref a1]) _
    refine st55 _ ?_
    show SP p e below T55 (mkF m 30 (lo35_42_1 a1 b52) []) _
    refine y_aload X55 hx hby d35_30 rfl rfl ?_
    show Steps p.tables e below (T55.setTop (mkF m 32 (lo35_42_1 a1 b52) [.ref b52])) _
    jvm_step X55.here [X55.here.top, hx, (hb hby d35_32), X55.method', Bd.returns, Value.isRef, FieldType.isReference]
    first | (intro acts; rw [hr _ acts rfl rfl rfl]) | rw [hr _ _ rfl rfl rfl]
    exact Steps.refl _
  · show QA _ h0 n0 _ T55.heap _
    rw [e55]
    exact ⟨_, rfl, N55, KK, sz_b52, _, V_b52⟩
abbrev cd34 := jdk_65_method_132_code
theorem d34_0 : DD cd34 0 (.iload_n 1) 1 := by decide +kernel
theorem d34_1 : DD cd34 1 (.ifCond .ne 9) 3 := by decide +kernel
theorem d34_4 : DD cd34 4 (.iload_n 2) 1 := by decide +kernel
theorem d34_5 : DD cd34 5 (.aload_n 0) 1 := by decide +kernel
theorem d34_6 : DD cd34 6 (.arraylength) 1 := by decide +kernel
theorem d34_7 : DD cd34 7 (.if_icmp .eq 10) 3 := by decide +kernel
theorem d34_10 : DD cd34 10 (.aload_n 0) 1 := by decide +kernel
theorem d34_11 : DD cd34 11 (.iload_n 1) 1 := by decide +kernel
theorem d34_12 : DD cd34 12 (.iload_n 2) 1 := by decide +kernel
theorem d34_13 : DD cd34 13 (.invokestatic 339) 3 := by decide +kernel
theorem pd_5 : parseMethodDescriptor "([BII)[B" = some ⟨[(.array .byte), .int, .int], some (.array .byte)⟩ := by decide +kernel
theorem d34_16 : DD cd34 16 (.areturn) 1 := by decide +kernel
abbrev mn14 : MethodName := ⟨"java/util/Arrays", "copyOfRange", "([BII)[B"⟩
theorem ef_34 (m : MethodId) (x0 : Addr) (x1 : Int32) (x2 : Int32) : entryFrame m #[.ref x0, (.int x1), (.int x2)] 3 = mkF m 0 #[.val (.ref x0), .val (.int x1), .val (.int x2)] [] := by first | (simp [entryFrame, mkF, argsToLocals, Value.category]; done) | rfl
set_option maxRecDepth 65536 in
set_option maxHeartbeats 40000000 in
theorem rm34_42 (l : Launch) (Z : State) (a0 : Array Value) (hw : HW a0 Z) (ws : List Jvm.Cond) (a1 : Addr) (kd : ClassId) (cs : List Int32) (h0 : Heap) (n0 : Nat) (Z0 : n0 ≤ h0.size) (hcs : cs.length = 42) (V_a1 : Arv Z h0 a1 kd .byte (70 : Int32) (LB cs) (.int 0)) :
    MF l mn14 jdk_65_method_132_code 3 (some (.array .byte)) ws (RM 2 1 42 34) #[.ref a1, .int 0, .int 42] Z h0 (QA (fun h x => ∃ k, Arv Z h x k .byte (42 : Int32) (LB cs) (.int 0)) h0 n0) := by
  refine MetFree.of_bodySF (plainFor_of_name pn_36) hisR ?_
  intro p e s m args below meth c s₁ Bd hml0 hP hK
  obtain ⟨rfl, hZ, hh⟩ := hP
  have hx := Bd.exec
  have hby := Bd.bytes
  have hml : c.maxLocals = 3 := hml0
  have hown : s.vm.findClass "java/util/Arrays" = some m.cls := findClass_of_methodNamed Bd.named
  have hnm := (name_of_methodNamed Bd.named Bd.method).1
  have X0 : Stand p l e (RM 2 1 42 34) s m #[.ref a1, .int 0, .int 42] below meth c s₁ [] 0 0 := Stand.of_body Bd
  have e0 : s₁.heap = h0 := by rw [← hh, Bd.state]; rfl
  have N0 := Fr.nil n0
  have pre0 : GO p e below (s₁.setTop (mkF m 0 #[.val (.ref a1), .val (.int 0), .val (.int 42)] [])) (s₁.setTop (entryFrame m #[.ref a1, .int 0, .int 42] 3)) := fun t k => castTop (ef_34 m a1 (0 : Int32) (42 : Int32)) k
  have KK := Keep.refl h0 []
  obtain ⟨cl56, Ar56, q56, Sz56, Nn56, Hh56, Gg56⟩ := id V_a1
  obtain ⟨_, _, ⟨T57, _, _, _⟩, -, X57, ⟨_, hQ57, l57, y57, z57⟩, st57⟩ := Jvm.LawKit.callS X0 hx (y := mn13) hown (mvT hZ (ww hw 192 rfl)) (mvT hZ (ww hw 193 rfl)) (mvT hZ (ww hw 120 rfl)) (mvT hZ (ww hw 194 rfl)) (by decide) (backOf (W := 0) (rm35_42 l Z a0 hw [] a1 kd cs h0 n0 Z0 hcs V_a1) hZ (ww hw 194 rfl) (ww hw 120 rfl) (by decide) (by decide)) (g := (mkF m 13 #[.val (.ref a1), .val (.int 0), .val (.int 42)] [.int 42, .int 0, .ref a1])) rfl (by rw [hml]; rfl) (argsL := [.ref a1, .int 0, .int 42]) (rest := []) (lenOf pd_5 rfl) rfl (wz rfl) (hb hby d34_13) (fun _ _ => ⟨rfl, e0, (by decide : 0 + 1 ≤ _), (by decide : 0 + 42 ≤ _)⟩)
  dsimp only [Pt.U, Pt.locs, Pt.cells, Pt.slots] at X57 l57 y57 z57 st57 hQ57
  rw [l57, y57, z57] at X57
  obtain ⟨h57, e57⟩ : ∃ z, T57.heap = z := ⟨_, rfl⟩
  rw [e57] at hQ57
  obtain ⟨B57, rfl, N57q, K57, szn57, kb57, G57⟩ := hQ57
  have g_B57 : n0 ≤ B57 := Nat.le_trans Z0 szn57
  have sz_B57 : h0.size ≤ B57 := Nat.le_trans KK.1 szn57
  have ne_a1_B57 : a1 ≠ B57 := Nat.ne_of_lt (Nat.lt_of_lt_of_le V_a1.lt szn57)
  replace V_a1 := V_a1.keep K57 nin0
  replace Z0 := Nat.le_trans Z0 K57.1
  replace KK := KK.trans K57 all0
  have V_B57 : Arv Z h57 B57 kb57 .byte (42 : Int32) (LB cs) (.int 0) := G57
  have N57 := Fr.app N0 N57q
  obtain ⟨fs, hr, hrun, hended, hW, hsame⟩ := X57.leave (v := some (.ref B57)) (fun h => by rw [Bd.returns] at h; cases h)
  refine ⟨_, _, pre0 _ ?_, hrun, hended, _, _, rfl, ?_, ⟨_, rfl⟩, hW, hsame.mono (by decide) (by decide)⟩
  · refine y_iloadN X0 hx hby d34_0 rfl ?_
    refine y_ifNo X0 hx hby d34_1 ((if0 _ _).trans (teq rfl).2) ?_
    refine y_iloadN X0 hx hby d34_4 rfl ?_
    refine y_aloadN X0 hx hby d34_5 rfl rfl ?_
    refine X0.arraylength hx (by rw [e0]; exact Ar56.1) (State.isArrayOf_alike hZ.alike Ar56.2.1) (g := (mkF m 6 #[.val (.ref a1), .val (.int 0), .val (.int 42)] [.ref a1, .int 42])) rfl rfl (hb hby d34_6) _ ?_
    rw [len_of Sz56 Nn56]
    show SP p e below s₁ (mkF m 7 #[.val (.ref a1), .val (.int 0), .val (.int 42)] [.int 70, .int 42]) _
    refine y_icmpNo X0 hx hby d34_7 (feq (by decide)).1 ?_
    refine y_aloadN X0 hx hby d34_10 rfl rfl ?_
    refine y_iloadN X0 hx hby d34_11 rfl ?_
    refine y_iloadN X0 hx hby d34_12 rfl ?_
    refine st57 _ ?_
    show Steps p.tables e below (T57.setTop (mkF m 16 #[.val (.ref a1), .val (.int 0), .val (.int 42)] [.ref B57])) _
    jvm_step X57.here [X57.here.top, hx, (hb hby d34_16), X57.method', Bd.returns, Value.isRef, FieldType.isReference]
    first | (intro acts; rw [hr _ acts rfl rfl rfl]) | rw [hr _ _ rfl rfl rfl]
    exact Steps.refl _
  · show QA _ h0 n0 _ T57.heap _
    rw [e57]
    exact ⟨_, rfl, N57, KK, sz_B57, _, V_B57⟩
abbrev lo35_43_0 (a1 : Addr) : Array Slot := #[.val (.ref a1), .val (.int 0), .val (.int 43), .val (.int 43), .unset]
abbrev lo35_43_1 (a1 b59 : Addr) : Array Slot := #[.val (.ref a1), .val (.int 0), .val (.int 43), .val (.int 43), .val (.ref b59)]
set_option maxRecDepth 65536 in
set_option maxHeartbeats 40000000 in
theorem rm35_43 (l : Launch) (Z : State) (a0 : Array Value) (hw : HW a0 Z) (ws : List Jvm.Cond) (a1 : Addr) (kd : ClassId) (cs : List Int32) (h0 : Heap) (n0 : Nat) (Z0 : n0 ≤ h0.size) (hcs : cs.length = 43) (V_a1 : Arv Z h0 a1 kd .byte (70 : Int32) (LB cs) (.int 0)) :
    MF l mn13 jdk_65_method_133_code 5 (some (.array .byte)) ws (RM 1 1 43 18) #[.ref a1, .int 0, .int 43] Z h0 (QA (fun h x => ∃ k, Arv Z h x k .byte (43 : Int32) (LB cs) (.int 0)) h0 n0) := by
  refine MetFree.of_bodySF (plainFor_of_name pn_36) hisR ?_
  intro p e s m args below meth c s₁ Bd hml0 hP hK
  obtain ⟨rfl, hZ, hh⟩ := hP
  have hx := Bd.exec
  have hby := Bd.bytes
  have hml : c.maxLocals = 5 := hml0
  have hown : s.vm.findClass "java/util/Arrays" = some m.cls := findClass_of_methodNamed Bd.named
  have hnm := (name_of_methodNamed Bd.named Bd.method).1
  have X0 : Stand p l e (RM 1 1 43 18) s m #[.ref a1, .int 0, .int 43] below meth c s₁ [] 0 0 := Stand.of_body Bd
  have e0 : s₁.heap = h0 := by rw [← hh, Bd.state]; rfl
  have N0 := Fr.nil n0
  have pre0 : GO p e below (s₁.setTop (mkF m 0 #[.val (.ref a1), .val (.int 0), .val (.int 43), .unset, .unset] [])) (s₁.setTop (entryFrame m #[.ref a1, .int 0, .int 43] 5)) := fun t k => castTop (ef_35 m a1 (0 : Int32) (43 : Int32)) k
  have KK := Keep.refl h0 []
  obtain ⟨_, _, ⟨T58, _, _, _⟩, -, X58, ⟨_, hQ58, l58, y58, z58⟩, st58⟩ := Jvm.LawKit.callS X0 hx (y := mn11) hown (mvT hZ (ww hw 195 rfl)) (mvT hZ (ww hw 196 rfl)) (mvT hZ (ww hw 120 rfl)) (mvT hZ (ww hw 197 rfl)) (by decide) (backOf (W := 0) (rm36_43 l Z a0 hw []  h0 n0 Z0 ) hZ (ww hw 197 rfl) (ww hw 120 rfl) (by decide) (by decide)) (g := (mkF m 2 #[.val (.ref a1), .val (.int 0), .val (.int 43), .unset, .unset] [.int 43, .int 0])) rfl (by rw [hml]; rfl) (argsL := [.int 0, .int 43]) (rest := []) (lenOf pd_4 rfl) rfl (wz rfl) (hb hby d35_2) (fun _ _ => ⟨rfl, e0, (by decide : 0 + 0 ≤ _), (by decide : 0 + 0 ≤ _)⟩)
  dsimp only [Pt.U, Pt.locs, Pt.cells, Pt.slots] at X58 l58 y58 z58 st58 hQ58
  rw [l58, y58, z58] at X58
  obtain ⟨rfl, N58q, e58⟩ := hQ58
  have N58 := Fr.app N0 N58q
  obtain ⟨T59, h59, k59, X59, e59, E59, A59, st59⟩ := newP X58 hx hZ (ww hw 19 rfl) e58 (g := (mkF m 10 (lo35_43_0 a1) [.int 43])) rfl (hb hby d35_10) rfl (by decide) (cap := 43) (by decide) (by decide) (by decide) (by decide)
  obtain ⟨b59, g59⟩ : ∃ z, z = h0.size := ⟨_, rfl⟩
  rw [← g59] at A59 st59
  have g_b59 : n0 ≤ b59 := Nat.le_trans Z0 (Nat.le_of_eq g59.symm)
  have sz_b59 : h0.size ≤ b59 := Nat.le_trans KK.1 (Nat.le_of_eq g59.symm)
  have ne_a1_b59 : a1 ≠ b59 := Nat.ne_of_lt (Nat.lt_of_lt_of_le V_a1.lt (Nat.le_of_eq g59.symm))
  replace V_a1 := V_a1.ext E59
  replace Z0 := Nat.le_trans Z0 E59.1
  replace KK := KK.ext E59
  have V_b59 : Arv Z h59 b59 k59 .byte (43 : Int32) (LB ([] : List Int32)) (.int 0) := Arv.new A59 (by decide)
  obtain ⟨cl60, Ar60, q60, Sz60, Nn60, Hh60, Gg60⟩ := id V_a1
  obtain ⟨_, _, ⟨T61, _, _, _⟩, -, X61, ⟨_, hQ61, l61, y61, z61⟩, st61⟩ := Jvm.LawKit.callS X59 hx (y := mn2) hown (mvT hZ (ww hw 122 rfl)) (mvT hZ (ww hw 123 rfl)) (mvT hZ (ww hw 114 rfl)) (mvT hZ (ww hw 124 rfl)) (by decide) (backOf (W := 4) (rm21 l Z a0 hw [] (70 : Int32) (43 : Int32) h59 n0 Z0) hZ (ww hw 124 rfl) (ww hw 114 rfl) (by decide) (by decide)) (g := (mkF m 24 (lo35_43_1 a1 b59) [.int 43, .int 70, .int 0, .ref b59, .int 0, .ref a1])) rfl (by rw [hml]; rfl) (argsL := [.int 70, .int 43]) (rest := [.int 0, .ref b59, .int 0, .ref a1]) (lenOf pd_0 rfl) rfl (wz rfl) (hb hby d35_24) (fun _ _ => ⟨rfl, e59, (by decide : 1 + 0 ≤ _), (by decide : 43 + 0 ≤ _)⟩)
  dsimp only [Pt.U, Pt.locs, Pt.cells, Pt.slots] at X61 l61 y61 z61 st61 hQ61
  rw [l61, y61, z61] at X61
  obtain ⟨rfl, N61q, e61⟩ := hQ61
  have q61 : f21 (70 : Int32) (43 : Int32) = (43 : Int32) := by decide
  rw [q61] at st61
  have N61 := Fr.app N58 N61q
  replace V_b59 := V_b59.pad (pad_rep (LB ([] : List Int32)) (.int 0) ((43 : Int32)).toNatClampNeg)
  obtain ⟨T62, h62, L62, X62, e62, N62, K62, Vn62, st62⟩ := cpA X61 hx hZ hown (ww hw 125 rfl) (ww hw 128 rfl) (ww hw 126 rfl) (ww hw 127 rfl) e61 (us := (LB cs)) V_a1 V_b59 (Or.inl ⟨rfl, rfl⟩) (by decide) (by decide) (by decide) (by decide) (by decide) (own_us ((own_lblen cs).trans (show (43 : Int32).toNatClampNeg = List.length cs from by rw [hcs]; rfl).symm)) (own_catlen (zm := (43 : Int32)) (show (0 : Int32).toNatClampNeg = List.length ([] : List Int32) from rfl)) N61 g_b59 (g := (mkF m 27 (lo35_43_1 a1 b59) [.int 43, .int 0, .ref b59, .int 0, .ref a1])) rfl (by rw [hml]; rfl) rfl (hb hby d35_27) (by decide) (W := 0) (wz rfl) (by decide)
  replace V_a1 := V_a1.keep K62 (ninS ne_a1_b59 nin0)
  replace Z0 := Nat.le_trans Z0 K62.1
  replace KK := KK.trans K62 (allS (Or.inr sz_b59) all0)
  have V_b59 : Arv Z h62 b59 k59 .byte (43 : Int32) (LB cs) (.int 0) := by rw [own_cat (show (0 : Int32).toNatClampNeg = List.length ([] : List Int32) from rfl) (show (43 : Int32).toNatClampNeg = List.length cs from by rw [hcs]; rfl)] at Vn62; exact Vn62
  obtain ⟨fs, hr, hrun, hended, hW, hsame⟩ := X62.leave (v := some (.ref b59)) (fun h => by rw [Bd.returns] at h; cases h)
  refine ⟨_, _, pre0 _ ?_, hrun, hended, _, _, rfl, ?_, ⟨_, rfl⟩, hW, hsame.mono (by decide) (by decide)⟩
  · refine y_iloadN X0 hx hby d35_0 rfl ?_
    refine y_iloadN X0 hx hby d35_1 rfl ?_
    refine st58 _ ?_
    show SP p e below T58 (mkF m 5 #[.val (.ref a1), .val (.int 0), .val (.int 43), .unset, .unset] []) _
    refine y_iloadN X58 hx hby d35_5 rfl ?_
    refine y_iloadN X58 hx hby d35_6 rfl ?_
    refine y_isub X58 hx hby d35_7 ?_
    rw [show ((43 : Int32) - (0 : Int32)) = (43 : Int32) from by decide]
    refine y_istoreN X58 hx hby d35_8 (l' := (lo35_43_0 a1)) rfl ?_
    refine y_iloadN X58 hx hby d35_9 rfl ?_
    refine st59 _ ?_
    show SP p e below T59 (mkF m 12 (lo35_43_0 a1) [.ref b59]) _
    refine y_astore X59 hx hby d35_12 rfl (l' := (lo35_43_1 a1 b59)) rfl ?_
    refine y_aloadN X59 hx hby d35_14 rfl rfl ?_
    refine y_iloadN X59 hx hby d35_15 rfl ?_
    refine y_aload X59 hx hby d35_16 rfl rfl ?_
    refine y_iconst X59 hx hby (v := (0 : Int32)) d35_18 rfl ?_
    refine y_aloadN X59 hx hby d35_19 rfl rfl ?_
    refine X59.arraylength hx (by rw [e59]; exact Ar60.1) (State.isArrayOf_alike hZ.alike Ar60.2.1) (g := (mkF m 20 (lo35_43_1 a1 b59) [.ref a1, .int 0, .ref b59, .int 0, .ref a1])) rfl rfl (hb hby d35_20) _ ?_
    rw [len_of Sz60 Nn60]
    show SP p e below T59 (mkF m 21 (lo35_43_1 a1 b59) [.int 70, .int 0, .ref b59, .int 0, .ref a1]) _
    refine y_iloadN X59 hx hby d35_21 rfl ?_
    refine y_isub X59 hx hby d35_22 ?_
    rw [show ((70 : Int32) - (0 : Int32)) = (70 : Int32) from by decide]
    refine y_iloadN X59 hx hby d35_23 rfl ?_
    refine st61 _ ?_
    show SP p e below T61 (mkF m 27 (lo35_43_1 a1 b59) [.int 43, .int 0, .ref b59, .int 0, .ref a1]) _
    refine st62 _ ?_
    show SP p e below T62 (mkF m 30 (lo35_43_1 a1 b59) []) _
    refine y_aload X62 hx hby d35_30 rfl rfl ?_
    show Steps p.tables e below (T62.setTop (mkF m 32 (lo35_43_1 a1 b59) [.ref b59])) _
    jvm_step X62.here [X62.here.top, hx, (hb hby d35_32), X62.method', Bd.returns, Value.isRef, FieldType.isReference]
    first | (intro acts; rw [hr _ acts rfl rfl rfl]) | rw [hr _ _ rfl rfl rfl]
    exact Steps.refl _
  · show QA _ h0 n0 _ T62.heap _
    rw [e62]
    exact ⟨_, rfl, N62, KK, sz_b59, _, V_b59⟩
set_option maxRecDepth 65536 in
set_option maxHeartbeats 40000000 in
theorem rm34_43 (l : Launch) (Z : State) (a0 : Array Value) (hw : HW a0 Z) (ws : List Jvm.Cond) (a1 : Addr) (kd : ClassId) (cs : List Int32) (h0 : Heap) (n0 : Nat) (Z0 : n0 ≤ h0.size) (hcs : cs.length = 43) (V_a1 : Arv Z h0 a1 kd .byte (70 : Int32) (LB cs) (.int 0)) :
    MF l mn14 jdk_65_method_132_code 3 (some (.array .byte)) ws (RM 2 1 43 34) #[.ref a1, .int 0, .int 43] Z h0 (QA (fun h x => ∃ k, Arv Z h x k .byte (43 : Int32) (LB cs) (.int 0)) h0 n0) := by
  refine MetFree.of_bodySF (plainFor_of_name pn_36) hisR ?_
  intro p e s m args below meth c s₁ Bd hml0 hP hK
  obtain ⟨rfl, hZ, hh⟩ := hP
  have hx := Bd.exec
  have hby := Bd.bytes
  have hml : c.maxLocals = 3 := hml0
  have hown : s.vm.findClass "java/util/Arrays" = some m.cls := findClass_of_methodNamed Bd.named
  have hnm := (name_of_methodNamed Bd.named Bd.method).1
  have X0 : Stand p l e (RM 2 1 43 34) s m #[.ref a1, .int 0, .int 43] below meth c s₁ [] 0 0 := Stand.of_body Bd
  have e0 : s₁.heap = h0 := by rw [← hh, Bd.state]; rfl
  have N0 := Fr.nil n0
  have pre0 : GO p e below (s₁.setTop (mkF m 0 #[.val (.ref a1), .val (.int 0), .val (.int 43)] [])) (s₁.setTop (entryFrame m #[.ref a1, .int 0, .int 43] 3)) := fun t k => castTop (ef_34 m a1 (0 : Int32) (43 : Int32)) k
  have KK := Keep.refl h0 []
  obtain ⟨cl63, Ar63, q63, Sz63, Nn63, Hh63, Gg63⟩ := id V_a1
  obtain ⟨_, _, ⟨T64, _, _, _⟩, -, X64, ⟨_, hQ64, l64, y64, z64⟩, st64⟩ := Jvm.LawKit.callS X0 hx (y := mn13) hown (mvT hZ (ww hw 192 rfl)) (mvT hZ (ww hw 193 rfl)) (mvT hZ (ww hw 120 rfl)) (mvT hZ (ww hw 194 rfl)) (by decide) (backOf (W := 0) (rm35_43 l Z a0 hw [] a1 kd cs h0 n0 Z0 hcs V_a1) hZ (ww hw 194 rfl) (ww hw 120 rfl) (by decide) (by decide)) (g := (mkF m 13 #[.val (.ref a1), .val (.int 0), .val (.int 43)] [.int 43, .int 0, .ref a1])) rfl (by rw [hml]; rfl) (argsL := [.ref a1, .int 0, .int 43]) (rest := []) (lenOf pd_5 rfl) rfl (wz rfl) (hb hby d34_13) (fun _ _ => ⟨rfl, e0, (by decide : 0 + 1 ≤ _), (by decide : 0 + 43 ≤ _)⟩)
  dsimp only [Pt.U, Pt.locs, Pt.cells, Pt.slots] at X64 l64 y64 z64 st64 hQ64
  rw [l64, y64, z64] at X64
  obtain ⟨h64, e64⟩ : ∃ z, T64.heap = z := ⟨_, rfl⟩
  rw [e64] at hQ64
  obtain ⟨B64, rfl, N64q, K64, szn64, kb64, G64⟩ := hQ64
  have g_B64 : n0 ≤ B64 := Nat.le_trans Z0 szn64
  have sz_B64 : h0.size ≤ B64 := Nat.le_trans KK.1 szn64
  have ne_a1_B64 : a1 ≠ B64 := Nat.ne_of_lt (Nat.lt_of_lt_of_le V_a1.lt szn64)
  replace V_a1 := V_a1.keep K64 nin0
  replace Z0 := Nat.le_trans Z0 K64.1
  replace KK := KK.trans K64 all0
  have V_B64 : Arv Z h64 B64 kb64 .byte (43 : Int32) (LB cs) (.int 0) := G64
  have N64 := Fr.app N0 N64q
  obtain ⟨fs, hr, hrun, hended, hW, hsame⟩ := X64.leave (v := some (.ref B64)) (fun h => by rw [Bd.returns] at h; cases h)
  refine ⟨_, _, pre0 _ ?_, hrun, hended, _, _, rfl, ?_, ⟨_, rfl⟩, hW, hsame.mono (by decide) (by decide)⟩
  · refine y_iloadN X0 hx hby d34_0 rfl ?_
    refine y_ifNo X0 hx hby d34_1 ((if0 _ _).trans (teq rfl).2) ?_
    refine y_iloadN X0 hx hby d34_4 rfl ?_
    refine y_aloadN X0 hx hby d34_5 rfl rfl ?_
    refine X0.arraylength hx (by rw [e0]; exact Ar63.1) (State.isArrayOf_alike hZ.alike Ar63.2.1) (g := (mkF m 6 #[.val (.ref a1), .val (.int 0), .val (.int 43)] [.ref a1, .int 43])) rfl rfl (hb hby d34_6) _ ?_
    rw [len_of Sz63 Nn63]
    show SP p e below s₁ (mkF m 7 #[.val (.ref a1), .val (.int 0), .val (.int 43)] [.int 70, .int 43]) _
    refine y_icmpNo X0 hx hby d34_7 (feq (by decide)).1 ?_
    refine y_aloadN X0 hx hby d34_10 rfl rfl ?_
    refine y_iloadN X0 hx hby d34_11 rfl ?_
    refine y_iloadN X0 hx hby d34_12 rfl ?_
    refine st64 _ ?_
    show Steps p.tables e below (T64.setTop (mkF m 16 #[.val (.ref a1), .val (.int 0), .val (.int 43)] [.ref B64])) _
    jvm_step X64.here [X64.here.top, hx, (hb hby d34_16), X64.method', Bd.returns, Value.isRef, FieldType.isReference]
    first | (intro acts; rw [hr _ acts rfl rfl rfl]) | rw [hr _ _ rfl rfl rfl]
    exact Steps.refl _
  · show QA _ h0 n0 _ T64.heap _
    rw [e64]
    exact ⟨_, rfl, N64, KK, sz_B64, _, V_B64⟩
abbrev cd16 := jdk_68_method_9_code
theorem d16_0 : DD cd16 0 (.aload_n 0) 1 := by decide +kernel
theorem d16_1 : DD cd16 1 (.getfield 15) 3 := by decide +kernel
theorem d16_4 : DD cd16 4 (.arraylength) 1 := by decide +kernel
theorem d16_5 : DD cd16 5 (.aload_n 0) 1 := by decide +kernel
theorem d16_6 : DD cd16 6 (.getfield 22) 3 := by decide +kernel
theorem d16_9 : DD cd16 9 (.ishr) 1 := by decide +kernel
theorem d16_10 : DD cd16 10 (.istore_n 2) 1 := by decide +kernel
theorem d16_11 : DD cd16 11 (.iload_n 1) 1 := by decide +kernel
theorem d16_12 : DD cd16 12 (.iload_n 2) 1 := by decide +kernel
theorem d16_13 : DD cd16 13 (.isub) 1 := by decide +kernel
theorem d16_14 : DD cd16 14 (.ifCond .le 24) 3 := by decide +kernel
theorem d16_38 : DD cd16 38 (.return_) 1 := by decide +kernel
abbrev mn15 : MethodName := ⟨"java/lang/AbstractStringBuilder", "ensureCapacityInternal", "(I)V"⟩
theorem ef_16 (m : MethodId) (x0 : Addr) (x1 : Int32) : entryFrame m #[.ref x0, (.int x1)] 3 = mkF m 0 #[.val (.ref x0), .val (.int x1), .unset] [] := by first | (simp [entryFrame, mkF, argsToLocals, Value.category]; done) | rfl
set_option maxRecDepth 65536 in
set_option maxHeartbeats 40000000 in
theorem rm16_k21 (l : Launch) (Z : State) (a0 : Array Value) (hw : HW a0 Z) (ws : List Jvm.Cond) (a1 d1 : Addr) (kd : ClassId) (cs : List Int32) (h0 : Heap) (n0 : Nat) (Z0 : n0 ≤ h0.size) (F_coder_a1 : FC Z h0 a1 (.int 0)) (F_value_a1 : FV Z h0 a1 (.ref d1)) (V_d1 : Arv Z h0 d1 kd .byte (34 : Int32) (LB cs) (.int 0)) :
    MF l mn15 jdk_68_method_9_code 3 none ws (RM 0 0 0 0) #[.ref a1, .int 21] Z h0 (QP none h0 n0) := by
  refine MetFree.of_bodySF (plainFor_of_name pn_17) hisR ?_
  intro p e s m args below meth c s₁ Bd hml0 hP hK
  obtain ⟨rfl, hZ, hh⟩ := hP
  have hx := Bd.exec
  have hby := Bd.bytes
  have hml : c.maxLocals = 3 := hml0
  have hown : s.vm.findClass "java/lang/AbstractStringBuilder" = some m.cls := findClass_of_methodNamed Bd.named
  have hnm := (name_of_methodNamed Bd.named Bd.method).1
  have X0 : Stand p l e (RM 0 0 0 0) s m #[.ref a1, .int 21] below meth c s₁ [] 0 0 := Stand.of_body Bd
  have e0 : s₁.heap = h0 := by rw [← hh, Bd.state]; rfl
  have N0 := Fr.nil n0
  have pre0 : GO p e below (s₁.setTop (mkF m 0 #[.val (.ref a1), .val (.int 21), .unset] [])) (s₁.setTop (entryFrame m #[.ref a1, .int 21] 3)) := fun t k => castTop (ef_16 m a1 (21 : Int32)) k
  obtain ⟨T65, X65, e65, st65⟩ := getF X0 hx hZ hown (host := "") (Or.inl (ww hw 69 rfl)) Via.refl e0 F_value_a1 (g := (mkF m 1 #[.val (.ref a1), .val (.int 21), .unset] [.ref a1])) rfl rfl (hb hby d16_1)
  obtain ⟨cl66, Ar66, q66, Sz66, Nn66, Hh66, Gg66⟩ := id V_d1
  obtain ⟨T67, X67, e67, st67⟩ := getF X65 hx hZ hown (host := "") (Or.inl (ww hw 71 rfl)) Via.refl e65 F_coder_a1 (g := (mkF m 6 #[.val (.ref a1), .val (.int 21), .unset] [.ref a1, .int 34])) rfl rfl (hb hby d16_6)
  obtain ⟨fs, hr, hrun, hended, hW, hsame⟩ := X67.leave (v := none) (fun _ => rfl)
  refine ⟨_, _, pre0 _ ?_, hrun, hended, _, _, rfl, ?_, ⟨_, rfl⟩, hW, hsame.mono (by decide) (by decide)⟩
  · refine y_aloadN X0 hx hby d16_0 rfl rfl ?_
    refine st65 _ ?_
    show SP p e below T65 (mkF m 4 #[.val (.ref a1), .val (.int 21), .unset] [.ref d1]) _
    refine X65.arraylength hx (by rw [e65]; exact Ar66.1) (State.isArrayOf_alike hZ.alike Ar66.2.1) (g := (mkF m 4 #[.val (.ref a1), .val (.int 21), .unset] [.ref d1])) rfl rfl (hb hby d16_4) _ ?_
    rw [len_of Sz66 Nn66]
    show SP p e below T65 (mkF m 5 #[.val (.ref a1), .val (.int 21), .unset] [.int 34]) _
    refine y_aloadN X65 hx hby d16_5 rfl rfl ?_
    refine st67 _ ?_
    show SP p e below T67 (mkF m 9 #[.val (.ref a1), .val (.int 21), .unset] [.int 0, .int 34]) _
    refine y_ishr X67 hx hby d16_9 ?_
    rw [show ((34 : Int32) >>> ((0 : Int32) &&& 31)) = (34 : Int32) from by decide]
    refine y_istoreN X67 hx hby d16_10 (l' := #[.val (.ref a1), .val (.int 21), .val (.int 34)]) rfl ?_
    refine y_iloadN X67 hx hby d16_11 rfl ?_
    refine y_iloadN X67 hx hby d16_12 rfl ?_
    refine y_isub X67 hx hby d16_13 ?_
    rw [show ((21 : Int32) - (34 : Int32)) = (-13 : Int32) from by decide]
    refine y_ifYes X67 hx hby (pc' := 38) d16_14 ((if0 _ _).trans (flt (by decide)).2.2.2) (by decide) (by decide) ?_
    show Steps p.tables e below (T67.setTop (mkF m 38 #[.val (.ref a1), .val (.int 21), .val (.int 34)] [])) _
    exact X67.returnOut hx Bd.returns (hb hby d16_38) hr
  · show QP _ h0 n0 _ T67.heap _
    rw [e67]
    exact ⟨rfl, N0, rfl⟩
set_option maxRecDepth 65536 in
set_option maxHeartbeats 40000000 in
theorem rm16_k28 (l : Launch) (Z : State) (a0 : Array Value) (hw : HW a0 Z) (ws : List Jvm.Cond) (a1 d1 : Addr) (kd : ClassId) (cs : List Int32) (h0 : Heap) (n0 : Nat) (Z0 : n0 ≤ h0.size) (F_coder_a1 : FC Z h0 a1 (.int 0)) (F_value_a1 : FV Z h0 a1 (.ref d1)) (V_d1 : Arv Z h0 d1 kd .byte (34 : Int32) (LB cs) (.int 0)) :
    MF l mn15 jdk_68_method_9_code 3 none ws (RM 0 0 0 0) #[.ref a1, .int 28] Z h0 (QP none h0 n0) := by
  refine MetFree.of_bodySF (plainFor_of_name pn_17) hisR ?_
  intro p e s m args below meth c s₁ Bd hml0 hP hK
  obtain ⟨rfl, hZ, hh⟩ := hP
  have hx := Bd.exec
  have hby := Bd.bytes
  have hml : c.maxLocals = 3 := hml0
  have hown : s.vm.findClass "java/lang/AbstractStringBuilder" = some m.cls := findClass_of_methodNamed Bd.named
  have hnm := (name_of_methodNamed Bd.named Bd.method).1
  have X0 : Stand p l e (RM 0 0 0 0) s m #[.ref a1, .int 28] below meth c s₁ [] 0 0 := Stand.of_body Bd
  have e0 : s₁.heap = h0 := by rw [← hh, Bd.state]; rfl
  have N0 := Fr.nil n0
  have pre0 : GO p e below (s₁.setTop (mkF m 0 #[.val (.ref a1), .val (.int 28), .unset] [])) (s₁.setTop (entryFrame m #[.ref a1, .int 28] 3)) := fun t k => castTop (ef_16 m a1 (28 : Int32)) k
  obtain ⟨T68, X68, e68, st68⟩ := getF X0 hx hZ hown (host := "") (Or.inl (ww hw 69 rfl)) Via.refl e0 F_value_a1 (g := (mkF m 1 #[.val (.ref a1), .val (.int 28), .unset] [.ref a1])) rfl rfl (hb hby d16_1)
  obtain ⟨cl69, Ar69, q69, Sz69, Nn69, Hh69, Gg69⟩ := id V_d1
  obtain ⟨T70, X70, e70, st70⟩ := getF X68 hx hZ hown (host := "") (Or.inl (ww hw 71 rfl)) Via.refl e68 F_coder_a1 (g := (mkF m 6 #[.val (.ref a1), .val (.int 28), .unset] [.ref a1, .int 34])) rfl rfl (hb hby d16_6)
  obtain ⟨fs, hr, hrun, hended, hW, hsame⟩ := X70.leave (v := none) (fun _ => rfl)
  refine ⟨_, _, pre0 _ ?_, hrun, hended, _, _, rfl, ?_, ⟨_, rfl⟩, hW, hsame.mono (by decide) (by decide)⟩
  · refine y_aloadN X0 hx hby d16_0 rfl rfl ?_
    refine st68 _ ?_
    show SP p e below T68 (mkF m 4 #[.val (.ref a1), .val (.int 28), .unset] [.ref d1]) _
    refine X68.arraylength hx (by rw [e68]; exact Ar69.1) (State.isArrayOf_alike hZ.alike Ar69.2.1) (g := (mkF m 4 #[.val (.ref a1), .val (.int 28), .unset] [.ref d1])) rfl rfl (hb hby d16_4) _ ?_
    rw [len_of Sz69 Nn69]
    show SP p e below T68 (mkF m 5 #[.val (.ref a1), .val (.int 28), .unset] [.int 34]) _
    refine y_aloadN X68 hx hby d16_5 rfl rfl ?_
    refine st70 _ ?_
    show SP p e below T70 (mkF m 9 #[.val (.ref a1), .val (.int 28), .unset] [.int 0, .int 34]) _
    refine y_ishr X70 hx hby d16_9 ?_
    rw [show ((34 : Int32) >>> ((0 : Int32) &&& 31)) = (34 : Int32) from by decide]
    refine y_istoreN X70 hx hby d16_10 (l' := #[.val (.ref a1), .val (.int 28), .val (.int 34)]) rfl ?_
    refine y_iloadN X70 hx hby d16_11 rfl ?_
    refine y_iloadN X70 hx hby d16_12 rfl ?_
    refine y_isub X70 hx hby d16_13 ?_
    rw [show ((28 : Int32) - (34 : Int32)) = (-6 : Int32) from by decide]
    refine y_ifYes X70 hx hby (pc' := 38) d16_14 ((if0 _ _).trans (flt (by decide)).2.2.2) (by decide) (by decide) ?_
    show Steps p.tables e below (T70.setTop (mkF m 38 #[.val (.ref a1), .val (.int 28), .val (.int 34)] [])) _
    exact X70.returnOut hx Bd.returns (hb hby d16_38) hr
  · show QP _ h0 n0 _ T70.heap _
    rw [e70]
    exact ⟨rfl, N0, rfl⟩
set_option maxRecDepth 65536 in
set_option maxHeartbeats 40000000 in
theorem rm16_k30 (l : Launch) (Z : State) (a0 : Array Value) (hw : HW a0 Z) (ws : List Jvm.Cond) (a1 d1 : Addr) (kd : ClassId) (cs : List Int32) (h0 : Heap) (n0 : Nat) (Z0 : n0 ≤ h0.size) (F_coder_a1 : FC Z h0 a1 (.int 0)) (F_value_a1 : FV Z h0 a1 (.ref d1)) (V_d1 : Arv Z h0 d1 kd .byte (34 : Int32) (LB cs) (.int 0)) :
    MF l mn15 jdk_68_method_9_code 3 none ws (RM 0 0 0 0) #[.ref a1, .int 30] Z h0 (QP none h0 n0) := by
  refine MetFree.of_bodySF (plainFor_of_name pn_17) hisR ?_
  intro p e s m args below meth c s₁ Bd hml0 hP hK
  obtain ⟨rfl, hZ, hh⟩ := hP
  have hx := Bd.exec
  have hby := Bd.bytes
  have hml : c.maxLocals = 3 := hml0
  have hown : s.vm.findClass "java/lang/AbstractStringBuilder" = some m.cls := findClass_of_methodNamed Bd.named
  have hnm := (name_of_methodNamed Bd.named Bd.method).1
  have X0 : Stand p l e (RM 0 0 0 0) s m #[.ref a1, .int 30] below meth c s₁ [] 0 0 := Stand.of_body Bd
  have e0 : s₁.heap = h0 := by rw [← hh, Bd.state]; rfl
  have N0 := Fr.nil n0
  have pre0 : GO p e below (s₁.setTop (mkF m 0 #[.val (.ref a1), .val (.int 30), .unset] [])) (s₁.setTop (entryFrame m #[.ref a1, .int 30] 3)) := fun t k => castTop (ef_16 m a1 (30 : Int32)) k
  obtain ⟨T71, X71, e71, st71⟩ := getF X0 hx hZ hown (host := "") (Or.inl (ww hw 69 rfl)) Via.refl e0 F_value_a1 (g := (mkF m 1 #[.val (.ref a1), .val (.int 30), .unset] [.ref a1])) rfl rfl (hb hby d16_1)
  obtain ⟨cl72, Ar72, q72, Sz72, Nn72, Hh72, Gg72⟩ := id V_d1
  obtain ⟨T73, X73, e73, st73⟩ := getF X71 hx hZ hown (host := "") (Or.inl (ww hw 71 rfl)) Via.refl e71 F_coder_a1 (g := (mkF m 6 #[.val (.ref a1), .val (.int 30), .unset] [.ref a1, .int 34])) rfl rfl (hb hby d16_6)
  obtain ⟨fs, hr, hrun, hended, hW, hsame⟩ := X73.leave (v := none) (fun _ => rfl)
  refine ⟨_, _, pre0 _ ?_, hrun, hended, _, _, rfl, ?_, ⟨_, rfl⟩, hW, hsame.mono (by decide) (by decide)⟩
  · refine y_aloadN X0 hx hby d16_0 rfl rfl ?_
    refine st71 _ ?_
    show SP p e below T71 (mkF m 4 #[.val (.ref a1), .val (.int 30), .unset] [.ref d1]) _
    refine X71.arraylength hx (by rw [e71]; exact Ar72.1) (State.isArrayOf_alike hZ.alike Ar72.2.1) (g := (mkF m 4 #[.val (.ref a1), .val (.int 30), .unset] [.ref d1])) rfl rfl (hb hby d16_4) _ ?_
    rw [len_of Sz72 Nn72]
    show SP p e below T71 (mkF m 5 #[.val (.ref a1), .val (.int 30), .unset] [.int 34]) _
    refine y_aloadN X71 hx hby d16_5 rfl rfl ?_
    refine st73 _ ?_
    show SP p e below T73 (mkF m 9 #[.val (.ref a1), .val (.int 30), .unset] [.int 0, .int 34]) _
    refine y_ishr X73 hx hby d16_9 ?_
    rw [show ((34 : Int32) >>> ((0 : Int32) &&& 31)) = (34 : Int32) from by decide]
    refine y_istoreN X73 hx hby d16_10 (l' := #[.val (.ref a1), .val (.int 30), .val (.int 34)]) rfl ?_
    refine y_iloadN X73 hx hby d16_11 rfl ?_
    refine y_iloadN X73 hx hby d16_12 rfl ?_
    refine y_isub X73 hx hby d16_13 ?_
    rw [show ((30 : Int32) - (34 : Int32)) = (-4 : Int32) from by decide]
    refine y_ifYes X73 hx hby (pc' := 38) d16_14 ((if0 _ _).trans (flt (by decide)).2.2.2) (by decide) (by decide) ?_
    show Steps p.tables e below (T73.setTop (mkF m 38 #[.val (.ref a1), .val (.int 30), .val (.int 34)] [])) _
    exact X73.returnOut hx Bd.returns (hb hby d16_38) hr
  · show QP _ h0 n0 _ T73.heap _
    rw [e73]
    exact ⟨rfl, N0, rfl⟩
set_option maxRecDepth 65536 in
set_option maxHeartbeats 40000000 in
theorem rm16_k41 (l : Launch) (Z : State) (a0 : Array Value) (hw : HW a0 Z) (ws : List Jvm.Cond) (a1 d1 : Addr) (kd : ClassId) (cs : List Int32) (h0 : Heap) (n0 : Nat) (Z0 : n0 ≤ h0.size) (F_coder_a1 : FC Z h0 a1 (.int 0)) (F_value_a1 : FV Z h0 a1 (.ref d1)) (V_d1 : Arv Z h0 d1 kd .byte (70 : Int32) (LB cs) (.int 0)) :
    MF l mn15 jdk_68_method_9_code 3 none ws (RM 0 0 0 0) #[.ref a1, .int 41] Z h0 (QP none h0 n0) := by
  refine MetFree.of_bodySF (plainFor_of_name pn_17) hisR ?_
  intro p e s m args below meth c s₁ Bd hml0 hP hK
  obtain ⟨rfl, hZ, hh⟩ := hP
  have hx := Bd.exec
  have hby := Bd.bytes
  have hml : c.maxLocals = 3 := hml0
  have hown : s.vm.findClass "java/lang/AbstractStringBuilder" = some m.cls := findClass_of_methodNamed Bd.named
  have hnm := (name_of_methodNamed Bd.named Bd.method).1
  have X0 : Stand p l e (RM 0 0 0 0) s m #[.ref a1, .int 41] below meth c s₁ [] 0 0 := Stand.of_body Bd
  have e0 : s₁.heap = h0 := by rw [← hh, Bd.state]; rfl
  have N0 := Fr.nil n0
  have pre0 : GO p e below (s₁.setTop (mkF m 0 #[.val (.ref a1), .val (.int 41), .unset] [])) (s₁.setTop (entryFrame m #[.ref a1, .int 41] 3)) := fun t k => castTop (ef_16 m a1 (41 : Int32)) k
  obtain ⟨T74, X74, e74, st74⟩ := getF X0 hx hZ hown (host := "") (Or.inl (ww hw 69 rfl)) Via.refl e0 F_value_a1 (g := (mkF m 1 #[.val (.ref a1), .val (.int 41), .unset] [.ref a1])) rfl rfl (hb hby d16_1)
  obtain ⟨cl75, Ar75, q75, Sz75, Nn75, Hh75, Gg75⟩ := id V_d1
  obtain ⟨T76, X76, e76, st76⟩ := getF X74 hx hZ hown (host := "") (Or.inl (ww hw 71 rfl)) Via.refl e74 F_coder_a1 (g := (mkF m 6 #[.val (.ref a1), .val (.int 41), .unset] [.ref a1, .int 70])) rfl rfl (hb hby d16_6)
  obtain ⟨fs, hr, hrun, hended, hW, hsame⟩ := X76.leave (v := none) (fun _ => rfl)
  refine ⟨_, _, pre0 _ ?_, hrun, hended, _, _, rfl, ?_, ⟨_, rfl⟩, hW, hsame.mono (by decide) (by decide)⟩
  · refine y_aloadN X0 hx hby d16_0 rfl rfl ?_
    refine st74 _ ?_
    show SP p e below T74 (mkF m 4 #[.val (.ref a1), .val (.int 41), .unset] [.ref d1]) _
    refine X74.arraylength hx (by rw [e74]; exact Ar75.1) (State.isArrayOf_alike hZ.alike Ar75.2.1) (g := (mkF m 4 #[.val (.ref a1), .val (.int 41), .unset] [.ref d1])) rfl rfl (hb hby d16_4) _ ?_
    rw [len_of Sz75 Nn75]
    show SP p e below T74 (mkF m 5 #[.val (.ref a1), .val (.int 41), .unset] [.int 70]) _
    refine y_aloadN X74 hx hby d16_5 rfl rfl ?_
    refine st76 _ ?_
    show SP p e below T76 (mkF m 9 #[.val (.ref a1), .val (.int 41), .unset] [.int 0, .int 70]) _
    refine y_ishr X76 hx hby d16_9 ?_
    rw [show ((70 : Int32) >>> ((0 : Int32) &&& 31)) = (70 : Int32) from by decide]
    refine y_istoreN X76 hx hby d16_10 (l' := #[.val (.ref a1), .val (.int 41), .val (.int 70)]) rfl ?_
    refine y_iloadN X76 hx hby d16_11 rfl ?_
    refine y_iloadN X76 hx hby d16_12 rfl ?_
    refine y_isub X76 hx hby d16_13 ?_
    rw [show ((41 : Int32) - (70 : Int32)) = (-29 : Int32) from by decide]
    refine y_ifYes X76 hx hby (pc' := 38) d16_14 ((if0 _ _).trans (flt (by decide)).2.2.2) (by decide) (by decide) ?_
    show Steps p.tables e below (T76.setTop (mkF m 38 #[.val (.ref a1), .val (.int 41), .val (.int 70)] [])) _
    exact X76.returnOut hx Bd.returns (hb hby d16_38) hr
  · show QP _ h0 n0 _ T76.heap _
    rw [e76]
    exact ⟨rfl, N0, rfl⟩
set_option maxRecDepth 65536 in
set_option maxHeartbeats 40000000 in
theorem rm16_k42 (l : Launch) (Z : State) (a0 : Array Value) (hw : HW a0 Z) (ws : List Jvm.Cond) (a1 d1 : Addr) (kd : ClassId) (cs : List Int32) (h0 : Heap) (n0 : Nat) (Z0 : n0 ≤ h0.size) (F_coder_a1 : FC Z h0 a1 (.int 0)) (F_value_a1 : FV Z h0 a1 (.ref d1)) (V_d1 : Arv Z h0 d1 kd .byte (70 : Int32) (LB cs) (.int 0)) :
    MF l mn15 jdk_68_method_9_code 3 none ws (RM 0 0 0 0) #[.ref a1, .int 42] Z h0 (QP none h0 n0) := by
  refine MetFree.of_bodySF (plainFor_of_name pn_17) hisR ?_
  intro p e s m args below meth c s₁ Bd hml0 hP hK
  obtain ⟨rfl, hZ, hh⟩ := hP
  have hx := Bd.exec
  have hby := Bd.bytes
  have hml : c.maxLocals = 3 := hml0
  have hown : s.vm.findClass "java/lang/AbstractStringBuilder" = some m.cls := findClass_of_methodNamed Bd.named
  have hnm := (name_of_methodNamed Bd.named Bd.method).1
  have X0 : Stand p l e (RM 0 0 0 0) s m #[.ref a1, .int 42] below meth c s₁ [] 0 0 := Stand.of_body Bd
  have e0 : s₁.heap = h0 := by rw [← hh, Bd.state]; rfl
  have N0 := Fr.nil n0
  have pre0 : GO p e below (s₁.setTop (mkF m 0 #[.val (.ref a1), .val (.int 42), .unset] [])) (s₁.setTop (entryFrame m #[.ref a1, .int 42] 3)) := fun t k => castTop (ef_16 m a1 (42 : Int32)) k
  obtain ⟨T77, X77, e77, st77⟩ := getF X0 hx hZ hown (host := "") (Or.inl (ww hw 69 rfl)) Via.refl e0 F_value_a1 (g := (mkF m 1 #[.val (.ref a1), .val (.int 42), .unset] [.ref a1])) rfl rfl (hb hby d16_1)
  obtain ⟨cl78, Ar78, q78, Sz78, Nn78, Hh78, Gg78⟩ := id V_d1
  obtain ⟨T79, X79, e79, st79⟩ := getF X77 hx hZ hown (host := "") (Or.inl (ww hw 71 rfl)) Via.refl e77 F_coder_a1 (g := (mkF m 6 #[.val (.ref a1), .val (.int 42), .unset] [.ref a1, .int 70])) rfl rfl (hb hby d16_6)
  obtain ⟨fs, hr, hrun, hended, hW, hsame⟩ := X79.leave (v := none) (fun _ => rfl)
  refine ⟨_, _, pre0 _ ?_, hrun, hended, _, _, rfl, ?_, ⟨_, rfl⟩, hW, hsame.mono (by decide) (by decide)⟩
  · refine y_aloadN X0 hx hby d16_0 rfl rfl ?_
    refine st77 _ ?_
    show SP p e below T77 (mkF m 4 #[.val (.ref a1), .val (.int 42), .unset] [.ref d1]) _
    refine X77.arraylength hx (by rw [e77]; exact Ar78.1) (State.isArrayOf_alike hZ.alike Ar78.2.1) (g := (mkF m 4 #[.val (.ref a1), .val (.int 42), .unset] [.ref d1])) rfl rfl (hb hby d16_4) _ ?_
    rw [len_of Sz78 Nn78]
    show SP p e below T77 (mkF m 5 #[.val (.ref a1), .val (.int 42), .unset] [.int 70]) _
    refine y_aloadN X77 hx hby d16_5 rfl rfl ?_
    refine st79 _ ?_
    show SP p e below T79 (mkF m 9 #[.val (.ref a1), .val (.int 42), .unset] [.int 0, .int 70]) _
    refine y_ishr X79 hx hby d16_9 ?_
    rw [show ((70 : Int32) >>> ((0 : Int32) &&& 31)) = (70 : Int32) from by decide]
    refine y_istoreN X79 hx hby d16_10 (l' := #[.val (.ref a1), .val (.int 42), .val (.int 70)]) rfl ?_
    refine y_iloadN X79 hx hby d16_11 rfl ?_
    refine y_iloadN X79 hx hby d16_12 rfl ?_
    refine y_isub X79 hx hby d16_13 ?_
    rw [show ((42 : Int32) - (70 : Int32)) = (-28 : Int32) from by decide]
    refine y_ifYes X79 hx hby (pc' := 38) d16_14 ((if0 _ _).trans (flt (by decide)).2.2.2) (by decide) (by decide) ?_
    show Steps p.tables e below (T79.setTop (mkF m 38 #[.val (.ref a1), .val (.int 42), .val (.int 70)] [])) _
    exact X79.returnOut hx Bd.returns (hb hby d16_38) hr
  · show QP _ h0 n0 _ T79.heap _
    rw [e79]
    exact ⟨rfl, N0, rfl⟩
set_option maxRecDepth 65536 in
set_option maxHeartbeats 40000000 in
theorem rm16_k43 (l : Launch) (Z : State) (a0 : Array Value) (hw : HW a0 Z) (ws : List Jvm.Cond) (a1 d1 : Addr) (kd : ClassId) (cs : List Int32) (h0 : Heap) (n0 : Nat) (Z0 : n0 ≤ h0.size) (F_coder_a1 : FC Z h0 a1 (.int 0)) (F_value_a1 : FV Z h0 a1 (.ref d1)) (V_d1 : Arv Z h0 d1 kd .byte (70 : Int32) (LB cs) (.int 0)) :
    MF l mn15 jdk_68_method_9_code 3 none ws (RM 0 0 0 0) #[.ref a1, .int 43] Z h0 (QP none h0 n0) := by
  refine MetFree.of_bodySF (plainFor_of_name pn_17) hisR ?_
  intro p e s m args below meth c s₁ Bd hml0 hP hK
  obtain ⟨rfl, hZ, hh⟩ := hP
  have hx := Bd.exec
  have hby := Bd.bytes
  have hml : c.maxLocals = 3 := hml0
  have hown : s.vm.findClass "java/lang/AbstractStringBuilder" = some m.cls := findClass_of_methodNamed Bd.named
  have hnm := (name_of_methodNamed Bd.named Bd.method).1
  have X0 : Stand p l e (RM 0 0 0 0) s m #[.ref a1, .int 43] below meth c s₁ [] 0 0 := Stand.of_body Bd
  have e0 : s₁.heap = h0 := by rw [← hh, Bd.state]; rfl
  have N0 := Fr.nil n0
  have pre0 : GO p e below (s₁.setTop (mkF m 0 #[.val (.ref a1), .val (.int 43), .unset] [])) (s₁.setTop (entryFrame m #[.ref a1, .int 43] 3)) := fun t k => castTop (ef_16 m a1 (43 : Int32)) k
  obtain ⟨T80, X80, e80, st80⟩ := getF X0 hx hZ hown (host := "") (Or.inl (ww hw 69 rfl)) Via.refl e0 F_value_a1 (g := (mkF m 1 #[.val (.ref a1), .val (.int 43), .unset] [.ref a1])) rfl rfl (hb hby d16_1)
  obtain ⟨cl81, Ar81, q81, Sz81, Nn81, Hh81, Gg81⟩ := id V_d1
  obtain ⟨T82, X82, e82, st82⟩ := getF X80 hx hZ hown (host := "") (Or.inl (ww hw 71 rfl)) Via.refl e80 F_coder_a1 (g := (mkF m 6 #[.val (.ref a1), .val (.int 43), .unset] [.ref a1, .int 70])) rfl rfl (hb hby d16_6)
  obtain ⟨fs, hr, hrun, hended, hW, hsame⟩ := X82.leave (v := none) (fun _ => rfl)
  refine ⟨_, _, pre0 _ ?_, hrun, hended, _, _, rfl, ?_, ⟨_, rfl⟩, hW, hsame.mono (by decide) (by decide)⟩
  · refine y_aloadN X0 hx hby d16_0 rfl rfl ?_
    refine st80 _ ?_
    show SP p e below T80 (mkF m 4 #[.val (.ref a1), .val (.int 43), .unset] [.ref d1]) _
    refine X80.arraylength hx (by rw [e80]; exact Ar81.1) (State.isArrayOf_alike hZ.alike Ar81.2.1) (g := (mkF m 4 #[.val (.ref a1), .val (.int 43), .unset] [.ref d1])) rfl rfl (hb hby d16_4) _ ?_
    rw [len_of Sz81 Nn81]
    show SP p e below T80 (mkF m 5 #[.val (.ref a1), .val (.int 43), .unset] [.int 70]) _
    refine y_aloadN X80 hx hby d16_5 rfl rfl ?_
    refine st82 _ ?_
    show SP p e below T82 (mkF m 9 #[.val (.ref a1), .val (.int 43), .unset] [.int 0, .int 70]) _
    refine y_ishr X82 hx hby d16_9 ?_
    rw [show ((70 : Int32) >>> ((0 : Int32) &&& 31)) = (70 : Int32) from by decide]
    refine y_istoreN X82 hx hby d16_10 (l' := #[.val (.ref a1), .val (.int 43), .val (.int 70)]) rfl ?_
    refine y_iloadN X82 hx hby d16_11 rfl ?_
    refine y_iloadN X82 hx hby d16_12 rfl ?_
    refine y_isub X82 hx hby d16_13 ?_
    rw [show ((43 : Int32) - (70 : Int32)) = (-27 : Int32) from by decide]
    refine y_ifYes X82 hx hby (pc' := 38) d16_14 ((if0 _ _).trans (flt (by decide)).2.2.2) (by decide) (by decide) ?_
    show Steps p.tables e below (T82.setTop (mkF m 38 #[.val (.ref a1), .val (.int 43), .val (.int 70)] [])) _
    exact X82.returnOut hx Bd.returns (hb hby d16_38) hr
  · show QP _ h0 n0 _ T82.heap _
    rw [e82]
    exact ⟨rfl, N0, rfl⟩
theorem d16_17 : DD cd16 17 (.aload_n 0) 1 := by decide +kernel
theorem d16_18 : DD cd16 18 (.aload_n 0) 1 := by decide +kernel
theorem d16_19 : DD cd16 19 (.getfield 15) 3 := by decide +kernel
theorem d16_22 : DD cd16 22 (.aload_n 0) 1 := by decide +kernel
theorem d16_23 : DD cd16 23 (.iload_n 1) 1 := by decide +kernel
theorem d16_24 : DD cd16 24 (.invokevirtual 104) 3 := by decide +kernel
theorem pd_6 : parseMethodDescriptor "(I)I" = some ⟨[.int], some .int⟩ := by decide +kernel
theorem d16_27 : DD cd16 27 (.aload_n 0) 1 := by decide +kernel
theorem d16_28 : DD cd16 28 (.getfield 22) 3 := by decide +kernel
theorem d16_31 : DD cd16 31 (.ishl) 1 := by decide +kernel
theorem d16_32 : DD cd16 32 (.invokestatic 108) 3 := by decide +kernel
theorem pd_7 : parseMethodDescriptor "([BI)[B" = some ⟨[(.array .byte), .int], some (.array .byte)⟩ := by decide +kernel
theorem d16_35 : DD cd16 35 (.putfield 15) 3 := by decide +kernel
set_option maxRecDepth 65536 in
set_option maxHeartbeats 40000000 in
theorem rm16_g34 (l : Launch) (Z : State) (a0 : Array Value) (hw : HW a0 Z) (ws : List Jvm.Cond) (a1 d1 : Addr) (kd : ClassId) (cs : List Int32) (h0 : Heap) (n0 : Nat) (Z0 : n0 ≤ h0.size) (hcs : cs.length = 0) (E_a1 : EB Z h0 a1) (F_coder_a1 : FC Z h0 a1 (.int 0)) (F_value_a1 : FV Z h0 a1 (.ref d1)) (F_count_a1 : FN Z h0 a1 (.int 0)) (V_d1 : Arv Z h0 d1 kd .byte (16 : Int32) (LB cs) (.int 0)) (g_a1 : n0 ≤ a1) (ne_a1_d1 : a1 ≠ d1) :
    MF l mn15 jdk_68_method_9_code 3 none ws (RM 3 1 34 48) #[.ref a1, .int 19] Z h0 (QW [a1] none (fun h => ∃ d k, h0.size ≤ d ∧ FC Z h a1 (.int 0) ∧ FV Z h a1 (.ref d) ∧ FN Z h a1 (.int 0) ∧ Arv Z h d k .byte (34 : Int32) (LB cs) (.int 0)) h0 n0) := by
  refine MetFree.of_bodySF (plainFor_of_name pn_17) hisR ?_
  intro p e s m args below meth c s₁ Bd hml0 hP hK
  obtain ⟨rfl, hZ, hh⟩ := hP
  have hx := Bd.exec
  have hby := Bd.bytes
  have hml : c.maxLocals = 3 := hml0
  have hown : s.vm.findClass "java/lang/AbstractStringBuilder" = some m.cls := findClass_of_methodNamed Bd.named
  have hnm := (name_of_methodNamed Bd.named Bd.method).1
  have X0 : Stand p l e (RM 3 1 34 48) s m #[.ref a1, .int 19] below meth c s₁ [] 0 0 := Stand.of_body Bd
  have e0 : s₁.heap = h0 := by rw [← hh, Bd.state]; rfl
  have N0 := Fr.nil n0
  have pre0 : GO p e below (s₁.setTop (mkF m 0 #[.val (.ref a1), .val (.int 19), .unset] [])) (s₁.setTop (entryFrame m #[.ref a1, .int 19] 3)) := fun t k => castTop (ef_16 m a1 (19 : Int32)) k
  have KK := Keep.refl h0 [a1]
  obtain ⟨T83, X83, e83, st83⟩ := getF X0 hx hZ hown (host := "") (Or.inl (ww hw 69 rfl)) Via.refl e0 F_value_a1 (g := (mkF m 1 #[.val (.ref a1), .val (.int 19), .unset] [.ref a1])) rfl rfl (hb hby d16_1)
  obtain ⟨cl84, Ar84, q84, Sz84, Nn84, Hh84, Gg84⟩ := id V_d1
  obtain ⟨T85, X85, e85, st85⟩ := getF X83 hx hZ hown (host := "") (Or.inl (ww hw 71 rfl)) Via.refl e83 F_coder_a1 (g := (mkF m 6 #[.val (.ref a1), .val (.int 19), .unset] [.ref a1, .int 16])) rfl rfl (hb hby d16_6)
  obtain ⟨T86, X86, e86, st86⟩ := getF X85 hx hZ hown (host := "") (Or.inl (ww hw 69 rfl)) Via.refl e85 F_value_a1 (g := (mkF m 19 #[.val (.ref a1), .val (.int 19), .val (.int 16)] [.ref a1, .ref a1])) rfl rfl (hb hby d16_19)
  obtain ⟨cq87, q87a, q87b⟩ := Exa.cell E_a1
  obtain ⟨_, _, ⟨T87, _, _, _⟩, -, X87, ⟨_, hQ87, l87, y87, z87⟩, st87⟩ := X86.privateBack hx (y := mn4) hown (mvT hZ (ww hw 103 rfl)) (mvT hZ (ww hw 104 rfl)) (mvT hZ (own_selp (ww hw 105 rfl) (ww hw 104 rfl) (ww hw 106 rfl) (by decide))) (Cond.privateMethod_at (mvP hZ (ww hw 105 rfl) (args := #[]))) (mvT hZ (ww hw 107 rfl)) (by decide) (backOf (W := 2) (rm17_34 l Z a0 hw [] a1 d1 kd cs h0 n0 Z0 E_a1 F_coder_a1 F_value_a1 V_d1) hZ (ww hw 107 rfl) (ww hw 65 rfl) (by decide) (by decide)) (g := (mkF m 24 #[.val (.ref a1), .val (.int 19), .val (.int 16)] [.int 19, .ref a1, .ref d1, .ref a1])) rfl (by rw [hml]; rfl) (Steps.refl _) (a := a1) (by rw [e86]; exact q87a) q87b (argsL := [.int 19]) (rest := [.ref d1, .ref a1]) (lenOf pd_6 rfl) rfl (wz rfl) (hb hby d16_24) (fun _ _ => ⟨rfl, e86, (by decide : 0 + 0 ≤ _), (by decide : 0 + 0 ≤ _)⟩)
  dsimp only [Pt.U, Pt.locs, Pt.cells, Pt.slots] at X87 l87 y87 z87 st87 hQ87
  rw [l87, y87, z87] at X87
  obtain ⟨rfl, N87q, e87⟩ := hQ87
  have N87 := Fr.app N0 N87q
  obtain ⟨T88, X88, e88, st88⟩ := getF X87 hx hZ hown (host := "") (Or.inl (ww hw 71 rfl)) Via.refl e87 F_coder_a1 (g := (mkF m 28 #[.val (.ref a1), .val (.int 19), .val (.int 16)] [.ref a1, .int 34, .ref d1, .ref a1])) rfl rfl (hb hby d16_28)
  obtain ⟨_, _, ⟨T89, _, _, _⟩, -, X89, ⟨_, hQ89, l89, y89, z89⟩, st89⟩ := Jvm.LawKit.callS X88 hx (y := mn12) hown (mvT hZ (ww hw 118 rfl)) (mvT hZ (ww hw 119 rfl)) (mvT hZ (ww hw 120 rfl)) (mvT hZ (ww hw 121 rfl)) (by decide) (backOf (W := 1) (rm20_34 l Z a0 hw [] d1 kd cs h0 n0 Z0 hcs V_d1) hZ (ww hw 121 rfl) (ww hw 120 rfl) (by decide) (by decide)) (g := (mkF m 32 #[.val (.ref a1), .val (.int 19), .val (.int 16)] [.int 34, .ref d1, .ref a1])) rfl (by rw [hml]; rfl) (argsL := [.ref d1, .int 34]) (rest := [.ref a1]) (lenOf pd_7 rfl) rfl (wz rfl) (hb hby d16_32) (fun _ _ => ⟨rfl, e88, (by decide : 0 + 1 ≤ _), (by decide : 0 + 34 ≤ _)⟩)
  dsimp only [Pt.U, Pt.locs, Pt.cells, Pt.slots] at X89 l89 y89 z89 st89 hQ89
  rw [l89, y89, z89] at X89
  obtain ⟨h89, e89⟩ : ∃ z, T89.heap = z := ⟨_, rfl⟩
  rw [e89] at hQ89
  obtain ⟨B89, rfl, N89q, K89, szn89, kb89, G89⟩ := hQ89
  have g_B89 : n0 ≤ B89 := Nat.le_trans Z0 szn89
  have sz_B89 : h0.size ≤ B89 := Nat.le_trans KK.1 szn89
  have ne_a1_B89 : a1 ≠ B89 := Nat.ne_of_lt (Nat.lt_of_lt_of_le E_a1.lt szn89)
  have ne_d1_B89 : d1 ≠ B89 := Nat.ne_of_lt (Nat.lt_of_lt_of_le V_d1.lt szn89)
  replace E_a1 := E_a1.keep K89
  replace F_coder_a1 := F_coder_a1.keep K89 nin0
  replace F_value_a1 := F_value_a1.keep K89 nin0
  replace F_count_a1 := F_count_a1.keep K89 nin0
  replace V_d1 := V_d1.keep K89 nin0
  replace Z0 := Nat.le_trans Z0 K89.1
  replace KK := KK.trans K89 all0
  have V_B89 : Arv Z h89 B89 kb89 .byte (34 : Int32) (LB cs) (.int 0) := G89
  have N89 := Fr.app N87 N89q
  obtain ⟨T90, h90, X90, e90, W90, st90⟩ := putF X89 hx hZ hown (host := "") (Or.inl (ww hw 69 rfl)) Via.refl e89 F_value_a1 E_a1 (Or.inl (ww hw 70 rfl)) (ww hw 56 rfl) (ty := (.array .byte)) (by decide) rfl rfl (g := (mkF m 35 #[.val (.ref a1), .val (.int 19), .val (.int 16)] [.ref B89, .ref a1])) rfl rfl (hb hby d16_35)
  replace E_a1 := E_a1.wr W90
  replace F_coder_a1 := F_coder_a1.other W90 (Or.inr (slot_ne (Or.inl (ww hw 72 rfl)) (Or.inl (ww hw 70 rfl)) (by decide) (t := .byte) (t' := (.array .byte)) (by decide) (by decide)))
  replace F_value_a1 := F_value_a1.same W90
  replace F_count_a1 := F_count_a1.other W90 (Or.inr (slot_ne (Or.inl (ww hw 97 rfl)) (Or.inl (ww hw 70 rfl)) (by decide) (t := .int) (t' := (.array .byte)) (by decide) (by decide)))
  replace V_d1 := V_d1.other W90 (Ne.symm ne_a1_d1)
  replace V_B89 := V_B89.other W90 (Ne.symm ne_a1_B89)
  replace Z0 := Nat.le_trans Z0 (Keep.of_wr W90).1
  replace KK := KK.wr W90 (Or.inl (List.mem_of_getElem? (i := 0) rfl))
  have N90 := Fr.snoc X90 N89 g_a1
  obtain ⟨fs, hr, hrun, hended, hW, hsame⟩ := X90.leave (v := none) (fun _ => rfl)
  refine ⟨_, _, pre0 _ ?_, hrun, hended, _, _, rfl, ?_, ⟨_, rfl⟩, hW, hsame.mono (by decide) (by decide)⟩
  · refine y_aloadN X0 hx hby d16_0 rfl rfl ?_
    refine st83 _ ?_
    show SP p e below T83 (mkF m 4 #[.val (.ref a1), .val (.int 19), .unset] [.ref d1]) _
    refine X83.arraylength hx (by rw [e83]; exact Ar84.1) (State.isArrayOf_alike hZ.alike Ar84.2.1) (g := (mkF m 4 #[.val (.ref a1), .val (.int 19), .unset] [.ref d1])) rfl rfl (hb hby d16_4) _ ?_
    rw [len_of Sz84 Nn84]
    show SP p e below T83 (mkF m 5 #[.val (.ref a1), .val (.int 19), .unset] [.int 16]) _
    refine y_aloadN X83 hx hby d16_5 rfl rfl ?_
    refine st85 _ ?_
    show SP p e below T85 (mkF m 9 #[.val (.ref a1), .val (.int 19), .unset] [.int 0, .int 16]) _
    refine y_ishr X85 hx hby d16_9 ?_
    rw [show ((16 : Int32) >>> ((0 : Int32) &&& 31)) = (16 : Int32) from by decide]
    refine y_istoreN X85 hx hby d16_10 (l' := #[.val (.ref a1), .val (.int 19), .val (.int 16)]) rfl ?_
    refine y_iloadN X85 hx hby d16_11 rfl ?_
    refine y_iloadN X85 hx hby d16_12 rfl ?_
    refine y_isub X85 hx hby d16_13 ?_
    rw [show ((19 : Int32) - (16 : Int32)) = (3 : Int32) from by decide]
    refine y_ifNo X85 hx hby d16_14 ((if0 _ _).trans (tlt (by decide)).2.2.2) ?_
    refine y_aloadN X85 hx hby d16_17 rfl rfl ?_
    refine y_aloadN X85 hx hby d16_18 rfl rfl ?_
    refine st86 _ ?_
    show SP p e below T86 (mkF m 22 #[.val (.ref a1), .val (.int 19), .val (.int 16)] [.ref d1, .ref a1]) _
    refine y_aloadN X86 hx hby d16_22 rfl rfl ?_
    refine y_iloadN X86 hx hby d16_23 rfl ?_
    refine st87.trans ?_
    show SP p e below T87 (mkF m 27 #[.val (.ref a1), .val (.int 19), .val (.int 16)] [.int 34, .ref d1, .ref a1]) _
    refine y_aloadN X87 hx hby d16_27 rfl rfl ?_
    refine st88 _ ?_
    show SP p e below T88 (mkF m 31 #[.val (.ref a1), .val (.int 19), .val (.int 16)] [.int 0, .int 34, .ref d1, .ref a1]) _
    refine y_ishl X88 hx hby d16_31 ?_
    rw [show ((34 : Int32) <<< ((0 : Int32) &&& 31)) = (34 : Int32) from by decide]
    refine st89 _ ?_
    show SP p e below T89 (mkF m 35 #[.val (.ref a1), .val (.int 19), .val (.int 16)] [.ref B89, .ref a1]) _
    refine st90 _ ?_
    show Steps p.tables e below (T90.setTop (mkF m 38 #[.val (.ref a1), .val (.int 19), .val (.int 16)] [])) _
    exact X90.returnOut hx Bd.returns (hb hby d16_38) hr
  · show QW _ _ _ h0 n0 _ T90.heap _
    rw [e90]
    exact ⟨rfl, N90, KK, _, _, sz_B89, F_coder_a1, F_value_a1, F_count_a1, V_B89⟩
set_option maxRecDepth 65536 in
set_option maxHeartbeats 40000000 in
theorem rm16_g70 (l : Launch) (Z : State) (a0 : Array Value) (hw : HW a0 Z) (ws : List Jvm.Cond) (a1 d1 : Addr) (kd : ClassId) (cs : List Int32) (h0 : Heap) (n0 : Nat) (Z0 : n0 ≤ h0.size) (hcs : cs.length = 30) (E_a1 : EB Z h0 a1) (F_coder_a1 : FC Z h0 a1 (.int 0)) (F_value_a1 : FV Z h0 a1 (.ref d1)) (F_count_a1 : FN Z h0 a1 (.int 30)) (V_d1 : Arv Z h0 d1 kd .byte (34 : Int32) (LB cs) (.int 0)) (g_a1 : n0 ≤ a1) (ne_a1_d1 : a1 ≠ d1) :
    MF l mn15 jdk_68_method_9_code 3 none ws (RM 3 1 70 48) #[.ref a1, .int 37] Z h0 (QW [a1] none (fun h => ∃ d k, h0.size ≤ d ∧ FC Z h a1 (.int 0) ∧ FV Z h a1 (.ref d) ∧ FN Z h a1 (.int 30) ∧ Arv Z h d k .byte (70 : Int32) (LB cs) (.int 0)) h0 n0) := by
  refine MetFree.of_bodySF (plainFor_of_name pn_17) hisR ?_
  intro p e s m args below meth c s₁ Bd hml0 hP hK
  obtain ⟨rfl, hZ, hh⟩ := hP
  have hx := Bd.exec
  have hby := Bd.bytes
  have hml : c.maxLocals = 3 := hml0
  have hown : s.vm.findClass "java/lang/AbstractStringBuilder" = some m.cls := findClass_of_methodNamed Bd.named
  have hnm := (name_of_methodNamed Bd.named Bd.method).1
  have X0 : Stand p l e (RM 3 1 70 48) s m #[.ref a1, .int 37] below meth c s₁ [] 0 0 := Stand.of_body Bd
  have e0 : s₁.heap = h0 := by rw [← hh, Bd.state]; rfl
  have N0 := Fr.nil n0
  have pre0 : GO p e below (s₁.setTop (mkF m 0 #[.val (.ref a1), .val (.int 37), .unset] [])) (s₁.setTop (entryFrame m #[.ref a1, .int 37] 3)) := fun t k => castTop (ef_16 m a1 (37 : Int32)) k
  have KK := Keep.refl h0 [a1]
  obtain ⟨T91, X91, e91, st91⟩ := getF X0 hx hZ hown (host := "") (Or.inl (ww hw 69 rfl)) Via.refl e0 F_value_a1 (g := (mkF m 1 #[.val (.ref a1), .val (.int 37), .unset] [.ref a1])) rfl rfl (hb hby d16_1)
  obtain ⟨cl92, Ar92, q92, Sz92, Nn92, Hh92, Gg92⟩ := id V_d1
  obtain ⟨T93, X93, e93, st93⟩ := getF X91 hx hZ hown (host := "") (Or.inl (ww hw 71 rfl)) Via.refl e91 F_coder_a1 (g := (mkF m 6 #[.val (.ref a1), .val (.int 37), .unset] [.ref a1, .int 34])) rfl rfl (hb hby d16_6)
  obtain ⟨T94, X94, e94, st94⟩ := getF X93 hx hZ hown (host := "") (Or.inl (ww hw 69 rfl)) Via.refl e93 F_value_a1 (g := (mkF m 19 #[.val (.ref a1), .val (.int 37), .val (.int 34)] [.ref a1, .ref a1])) rfl rfl (hb hby d16_19)
  obtain ⟨cq95, q95a, q95b⟩ := Exa.cell E_a1
  obtain ⟨_, _, ⟨T95, _, _, _⟩, -, X95, ⟨_, hQ95, l95, y95, z95⟩, st95⟩ := X94.privateBack hx (y := mn4) hown (mvT hZ (ww hw 103 rfl)) (mvT hZ (ww hw 104 rfl)) (mvT hZ (own_selp (ww hw 105 rfl) (ww hw 104 rfl) (ww hw 106 rfl) (by decide))) (Cond.privateMethod_at (mvP hZ (ww hw 105 rfl) (args := #[]))) (mvT hZ (ww hw 107 rfl)) (by decide) (backOf (W := 2) (rm17_70 l Z a0 hw [] a1 d1 kd cs h0 n0 Z0 E_a1 F_coder_a1 F_value_a1 V_d1) hZ (ww hw 107 rfl) (ww hw 65 rfl) (by decide) (by decide)) (g := (mkF m 24 #[.val (.ref a1), .val (.int 37), .val (.int 34)] [.int 37, .ref a1, .ref d1, .ref a1])) rfl (by rw [hml]; rfl) (Steps.refl _) (a := a1) (by rw [e94]; exact q95a) q95b (argsL := [.int 37]) (rest := [.ref d1, .ref a1]) (lenOf pd_6 rfl) rfl (wz rfl) (hb hby d16_24) (fun _ _ => ⟨rfl, e94, (by decide : 0 + 0 ≤ _), (by decide : 0 + 0 ≤ _)⟩)
  dsimp only [Pt.U, Pt.locs, Pt.cells, Pt.slots] at X95 l95 y95 z95 st95 hQ95
  rw [l95, y95, z95] at X95
  obtain ⟨rfl, N95q, e95⟩ := hQ95
  have N95 := Fr.app N0 N95q
  obtain ⟨T96, X96, e96, st96⟩ := getF X95 hx hZ hown (host := "") (Or.inl (ww hw 71 rfl)) Via.refl e95 F_coder_a1 (g := (mkF m 28 #[.val (.ref a1), .val (.int 37), .val (.int 34)] [.ref a1, .int 70, .ref d1, .ref a1])) rfl rfl (hb hby d16_28)
  obtain ⟨_, _, ⟨T97, _, _, _⟩, -, X97, ⟨_, hQ97, l97, y97, z97⟩, st97⟩ := Jvm.LawKit.callS X96 hx (y := mn12) hown (mvT hZ (ww hw 118 rfl)) (mvT hZ (ww hw 119 rfl)) (mvT hZ (ww hw 120 rfl)) (mvT hZ (ww hw 121 rfl)) (by decide) (backOf (W := 1) (rm20_70 l Z a0 hw [] d1 kd cs h0 n0 Z0 hcs V_d1) hZ (ww hw 121 rfl) (ww hw 120 rfl) (by decide) (by decide)) (g := (mkF m 32 #[.val (.ref a1), .val (.int 37), .val (.int 34)] [.int 70, .ref d1, .ref a1])) rfl (by rw [hml]; rfl) (argsL := [.ref d1, .int 70]) (rest := [.ref a1]) (lenOf pd_7 rfl) rfl (wz rfl) (hb hby d16_32) (fun _ _ => ⟨rfl, e96, (by decide : 0 + 1 ≤ _), (by decide : 0 + 70 ≤ _)⟩)
  dsimp only [Pt.U, Pt.locs, Pt.cells, Pt.slots] at X97 l97 y97 z97 st97 hQ97
  rw [l97, y97, z97] at X97
  obtain ⟨h97, e97⟩ : ∃ z, T97.heap = z := ⟨_, rfl⟩
  rw [e97] at hQ97
  obtain ⟨B97, rfl, N97q, K97, szn97, kb97, G97⟩ := hQ97
  have g_B97 : n0 ≤ B97 := Nat.le_trans Z0 szn97
  have sz_B97 : h0.size ≤ B97 := Nat.le_trans KK.1 szn97
  have ne_a1_B97 : a1 ≠ B97 := Nat.ne_of_lt (Nat.lt_of_lt_of_le E_a1.lt szn97)
  have ne_d1_B97 : d1 ≠ B97 := Nat.ne_of_lt (Nat.lt_of_lt_of_le V_d1.lt szn97)
  replace E_a1 := E_a1.keep K97
  replace F_coder_a1 := F_coder_a1.keep K97 nin0
  replace F_value_a1 := F_value_a1.keep K97 nin0
  replace F_count_a1 := F_count_a1.keep K97 nin0
  replace V_d1 := V_d1.keep K97 nin0
  replace Z0 := Nat.le_trans Z0 K97.1
  replace KK := KK.trans K97 all0
  have V_B97 : Arv Z h97 B97 kb97 .byte (70 : Int32) (LB cs) (.int 0) := G97
  have N97 := Fr.app N95 N97q
  obtain ⟨T98, h98, X98, e98, W98, st98⟩ := putF X97 hx hZ hown (host := "") (Or.inl (ww hw 69 rfl)) Via.refl e97 F_value_a1 E_a1 (Or.inl (ww hw 70 rfl)) (ww hw 56 rfl) (ty := (.array .byte)) (by decide) rfl rfl (g := (mkF m 35 #[.val (.ref a1), .val (.int 37), .val (.int 34)] [.ref B97, .ref a1])) rfl rfl (hb hby d16_35)
  replace E_a1 := E_a1.wr W98
  replace F_coder_a1 := F_coder_a1.other W98 (Or.inr (slot_ne (Or.inl (ww hw 72 rfl)) (Or.inl (ww hw 70 rfl)) (by decide) (t := .byte) (t' := (.array .byte)) (by decide) (by decide)))
  replace F_value_a1 := F_value_a1.same W98
  replace F_count_a1 := F_count_a1.other W98 (Or.inr (slot_ne (Or.inl (ww hw 97 rfl)) (Or.inl (ww hw 70 rfl)) (by decide) (t := .int) (t' := (.array .byte)) (by decide) (by decide)))
  replace V_d1 := V_d1.other W98 (Ne.symm ne_a1_d1)
  replace V_B97 := V_B97.other W98 (Ne.symm ne_a1_B97)
  replace Z0 := Nat.le_trans Z0 (Keep.of_wr W98).1
  replace KK := KK.wr W98 (Or.inl (List.mem_of_getElem? (i := 0) rfl))
  have N98 := Fr.snoc X98 N97 g_a1
  obtain ⟨fs, hr, hrun, hended, hW, hsame⟩ := X98.leave (v := none) (fun _ => rfl)
  refine ⟨_, _, pre0 _ ?_, hrun, hended, _, _, rfl, ?_, ⟨_, rfl⟩, hW, hsame.mono (by decide) (by decide)⟩
  · refine y_aloadN X0 hx hby d16_0 rfl rfl ?_
    refine st91 _ ?_
    show SP p e below T91 (mkF m 4 #[.val (.ref a1), .val (.int 37), .unset] [.ref d1]) _
    refine X91.arraylength hx (by rw [e91]; exact Ar92.1) (State.isArrayOf_alike hZ.alike Ar92.2.1) (g := (mkF m 4 #[.val (.ref a1), .val (.int 37), .unset] [.ref d1])) rfl rfl (hb hby d16_4) _ ?_
    rw [len_of Sz92 Nn92]
    show SP p e below T91 (mkF m 5 #[.val (.ref a1), .val (.int 37), .unset] [.int 34]) _
    refine y_aloadN X91 hx hby d16_5 rfl rfl ?_
    refine st93 _ ?_
    show SP p e below T93 (mkF m 9 #[.val (.ref a1), .val (.int 37), .unset] [.int 0, .int 34]) _
    refine y_ishr X93 hx hby d16_9 ?_
    rw [show ((34 : Int32) >>> ((0 : Int32) &&& 31)) = (34 : Int32) from by decide]
    refine y_istoreN X93 hx hby d16_10 (l' := #[.val (.ref a1), .val (.int 37), .val (.int 34)]) rfl ?_
    refine y_iloadN X93 hx hby d16_11 rfl ?_
    refine y_iloadN X93 hx hby d16_12 rfl ?_
    refine y_isub X93 hx hby d16_13 ?_
    rw [show ((37 : Int32) - (34 : Int32)) = (3 : Int32) from by decide]
    refine y_ifNo X93 hx hby d16_14 ((if0 _ _).trans (tlt (by decide)).2.2.2) ?_
    refine y_aloadN X93 hx hby d16_17 rfl rfl ?_
    refine y_aloadN X93 hx hby d16_18 rfl rfl ?_
    refine st94 _ ?_
    show SP p e below T94 (mkF m 22 #[.val (.ref a1), .val (.int 37), .val (.int 34)] [.ref d1, .ref a1]) _
    refine y_aloadN X94 hx hby d16_22 rfl rfl ?_
    refine y_iloadN X94 hx hby d16_23 rfl ?_
    refine st95.trans ?_
    show SP p e below T95 (mkF m 27 #[.val (.ref a1), .val (.int 37), .val (.int 34)] [.int 70, .ref d1, .ref a1]) _
    refine y_aloadN X95 hx hby d16_27 rfl rfl ?_
    refine st96 _ ?_
    show SP p e below T96 (mkF m 31 #[.val (.ref a1), .val (.int 37), .val (.int 34)] [.int 0, .int 70, .ref d1, .ref a1]) _
    refine y_ishl X96 hx hby d16_31 ?_
    rw [show ((70 : Int32) <<< ((0 : Int32) &&& 31)) = (70 : Int32) from by decide]
    refine st97 _ ?_
    show SP p e below T97 (mkF m 35 #[.val (.ref a1), .val (.int 37), .val (.int 34)] [.ref B97, .ref a1]) _
    refine st98 _ ?_
    show Steps p.tables e below (T98.setTop (mkF m 38 #[.val (.ref a1), .val (.int 37), .val (.int 34)] [])) _
    exact X98.returnOut hx Bd.returns (hb hby d16_38) hr
  · show QW _ _ _ h0 n0 _ T98.heap _
    rw [e98]
    exact ⟨rfl, N98, KK, _, _, sz_B97, F_coder_a1, F_value_a1, F_count_a1, V_B97⟩
abbrev cd24 := jdk_42_method_147_code
theorem d24_0 : DD cd24 0 (.aload_n 0) 1 := by decide +kernel
theorem d24_1 : DD cd24 1 (.invokevirtual 335) 3 := by decide +kernel
theorem d24_4 : DD cd24 4 (.iload_n 3) 1 := by decide +kernel
theorem d24_5 : DD cd24 5 (.if_icmp .ne 23) 3 := by decide +kernel
theorem d24_8 : DD cd24 8 (.aload_n 0) 1 := by decide +kernel
theorem d24_9 : DD cd24 9 (.getfield 9) 3 := by decide +kernel
theorem d24_12 : DD cd24 12 (.iconst 0) 1 := by decide +kernel
theorem d24_13 : DD cd24 13 (.aload_n 1) 1 := by decide +kernel
theorem d24_14 : DD cd24 14 (.iload_n 2) 1 := by decide +kernel
theorem d24_15 : DD cd24 15 (.iload_n 3) 1 := by decide +kernel
theorem d24_16 : DD cd24 16 (.ishl) 1 := by decide +kernel
theorem d24_17 : DD cd24 17 (.aload_n 0) 1 := by decide +kernel
theorem d24_18 : DD cd24 18 (.getfield 9) 3 := by decide +kernel
theorem d24_21 : DD cd24 21 (.arraylength) 1 := by decide +kernel
theorem d24_22 : DD cd24 22 (.invokestatic 212) 3 := by decide +kernel
theorem d24_25 : DD cd24 25 (.goto 18) 3 := by decide +kernel
theorem d24_43 : DD cd24 43 (.return_) 1 := by decide +kernel
abbrev mn16 : MethodName := ⟨"java/lang/String", "getBytes", "([BIB)V"⟩
theorem ef_24 (m : MethodId) (x0 : Addr) (x1 : Addr) (x2 : Int32) (x3 : Int32) : entryFrame m #[.ref x0, .ref x1, (.int x2), (.int x3)] 4 = mkF m 0 #[.val (.ref x0), .val (.ref x1), .val (.int x2), .val (.int x3)] [] := by first | (simp [entryFrame, mkF, argsToLocals, Value.category]; done) | rfl
set_option maxRecDepth 65536 in
set_option maxHeartbeats 40000000 in
theorem rm24_0 (l : Launch) (Z : State) (a0 : Array Value) (hw : HW a0 Z) (ws : List Jvm.Cond) (a1 a2 : Addr) (kd : ClassId) (cs : List Int32) (t1 : Addr) (k1 : ClassId) (ds : List Int32) (wC : Int32) (h0 : Heap) (n0 : Nat) (Z0 : n0 ≤ h0.size) (SC : SS Z h0 wC) (hz : ¬ wC = 0) (hcs : cs.length = 0) (hds : ds.length = 19) (E_a1 : ES Z h0 a1) (F_coder_a1 : GC Z h0 a1 (.int 0)) (F_value_a1 : GV Z h0 a1 (.ref t1)) (V_t1 : Arv Z h0 t1 k1 .byte (19 : Int32) (LB ds) (.int 0)) (V_a2 : Arv Z h0 a2 kd .byte (34 : Int32) (LB cs) (.int 0)) (g_a2 : n0 ≤ a2) (ne_a2_t1 : a2 ≠ t1) (ne_a2_a1 : a2 ≠ a1) :
    MF l mn16 jdk_42_method_147_code 4 none ws (RM 1 0 0 18) #[.ref a1, .ref a2, .int 0, .int 0] Z h0 (QW [a2] none (fun h => Arv Z h a2 kd .byte (34 : Int32) (LB (cs ++ ds)) (.int 0)) h0 n0) := by
  refine MetFree.of_bodySF (plainFor_of_name pn_15) hisR ?_
  intro p e s m args below meth c s₁ Bd hml0 hP hK
  obtain ⟨rfl, hZ, hh⟩ := hP
  have hx := Bd.exec
  have hby := Bd.bytes
  have hml : c.maxLocals = 4 := hml0
  have hown : s.vm.findClass "java/lang/String" = some m.cls := findClass_of_methodNamed Bd.named
  have hnm := (name_of_methodNamed Bd.named Bd.method).1
  have X0 : Stand p l e (RM 1 0 0 18) s m #[.ref a1, .ref a2, .int 0, .int 0] below meth c s₁ [] 0 0 := Stand.of_body Bd
  have e0 : s₁.heap = h0 := by rw [← hh, Bd.state]; rfl
  have N0 := Fr.nil n0
  have pre0 : GO p e below (s₁.setTop (mkF m 0 #[.val (.ref a1), .val (.ref a2), .val (.int 0), .val (.int 0)] [])) (s₁.setTop (entryFrame m #[.ref a1, .ref a2, .int 0, .int 0] 4)) := fun t k => castTop (ef_24 m a1 a2 (0 : Int32) (0 : Int32)) k
  have KK := Keep.refl h0 [a2]
  obtain ⟨cq99, kq99, q99a, q99b, q99c⟩ := isOf hZ e0 E_a1
  obtain ⟨_, _, ⟨T99, _, _, _⟩, -, X99, ⟨_, hQ99, l99, y99, z99⟩, st99⟩ := X0.virtualBack hx (y := mn0) (z := mn0) hown (mvT hZ (ww hw 91 rfl)) (mvT hZ (ww hw 92 rfl)) (notFace_of_selects (args := #[]) (mvT hZ (ww hw 94 rfl))) (mvT hZ (ww hw 94 rfl)) (mvT hZ (ww hw 93 rfl)) (by decide) (backOf (W := 0) (rm15 l Z a0 hw [] a1 wC h0 n0 Z0 SC hz F_coder_a1) hZ (ww hw 95 rfl) (ww hw 2 rfl) (by decide) (by decide)) q99a q99c (g := (mkF m 1 #[.val (.ref a1), .val (.ref a2), .val (.int 0), .val (.int 0)] [.ref a1])) rfl (by rw [hml]; rfl) (Steps.refl _) (argsL := []) (rest := []) (lenOf pd_2 rfl) rfl (wz rfl) (hb hby d24_1) (fun _ _ => ⟨rfl, e0, (by decide : 0 + 0 ≤ _), (by decide : 0 + 0 ≤ _)⟩)
  dsimp only [Pt.U, Pt.locs, Pt.cells, Pt.slots] at X99 l99 y99 z99 st99 hQ99
  rw [l99, y99, z99] at X99
  obtain ⟨rfl, N99q, e99⟩ := hQ99
  have q99 : f15 a1 wC = (0 : Int32) := rfl
  rw [q99] at st99
  have N99 := Fr.app N0 N99q
  obtain ⟨T100, X100, e100, st100⟩ := getF X99 hx hZ hown (host := "") (Or.inl (ww hw 28 rfl)) Via.refl e99 F_value_a1 (g := (mkF m 9 #[.val (.ref a1), .val (.ref a2), .val (.int 0), .val (.int 0)] [.ref a1])) rfl rfl (hb hby d24_9)
  obtain ⟨T101, X101, e101, st101⟩ := getF X100 hx hZ hown (host := "") (Or.inl (ww hw 28 rfl)) Via.refl e100 F_value_a1 (g := (mkF m 18 #[.val (.ref a1), .val (.ref a2), .val (.int 0), .val (.int 0)] [.ref a1, .int 0, .ref a2, .int 0, .ref t1])) rfl rfl (hb hby d24_18)
  obtain ⟨cl102, Ar102, q102, Sz102, Nn102, Hh102, Gg102⟩ := id V_t1
  replace V_a2 := V_a2.pad (pad_rep (LB cs) (.int 0) ((19 : Int32)).toNatClampNeg)
  obtain ⟨T103, h103, L103, X103, e103, N103, K103, Vn103, st103⟩ := cpA X101 hx hZ hown (ww hw 145 rfl) (ww hw 128 rfl) (ww hw 126 rfl) (ww hw 127 rfl) e101 (us := (LB ds)) V_t1 V_a2 (Or.inl ⟨rfl, rfl⟩) (by decide) (by decide) (by decide) (by decide) (by decide) (own_us ((own_lblen ds).trans (show (19 : Int32).toNatClampNeg = List.length ds from by rw [hds]; rfl).symm)) (own_catlen (zm := (19 : Int32)) (show (0 : Int32).toNatClampNeg = List.length cs from by rw [hcs]; rfl)) N99 g_a2 (g := (mkF m 22 #[.val (.ref a1), .val (.ref a2), .val (.int 0), .val (.int 0)] [.int 19, .int 0, .ref a2, .int 0, .ref t1])) rfl (by rw [hml]; rfl) rfl (hb hby d24_22) (by decide) (W := 0) (wz rfl) (by decide)
  replace SC := own_stakeep SC K103 (nsS (Arv.nostat V_a2) ns0)
  replace E_a1 := E_a1.keep K103
  replace F_coder_a1 := F_coder_a1.keep K103 (ninS (Ne.symm ne_a2_a1) nin0)
  replace F_value_a1 := F_value_a1.keep K103 (ninS (Ne.symm ne_a2_a1) nin0)
  replace V_t1 := V_t1.keep K103 (ninS (Ne.symm ne_a2_t1) nin0)
  replace Z0 := Nat.le_trans Z0 K103.1
  replace KK := KK.trans K103 (allS (Or.inl (List.mem_of_getElem? (i := 0) rfl)) all0)
  have V_a2 : Arv Z h103 a2 kd .byte (34 : Int32) (LB (cs ++ ds)) (.int 0) := by rw [own_cat (show (0 : Int32).toNatClampNeg = List.length cs from by rw [hcs]; rfl) (show (19 : Int32).toNatClampNeg = List.length ds from by rw [hds]; rfl)] at Vn103; exact Vn103
  obtain ⟨fs, hr, hrun, hended, hW, hsame⟩ := X103.leave (v := none) (fun _ => rfl)
  refine ⟨_, _, pre0 _ ?_, hrun, hended, _, _, rfl, ?_, ⟨_, rfl⟩, hW, hsame.mono (by decide) (by decide)⟩
  · refine y_aloadN X0 hx hby d24_0 rfl rfl ?_
    refine st99.trans ?_
    show SP p e below T99 (mkF m 4 #[.val (.ref a1), .val (.ref a2), .val (.int 0), .val (.int 0)] [.int 0]) _
    refine y_iloadN X99 hx hby d24_4 rfl ?_
    refine y_icmpNo X99 hx hby d24_5 (teq rfl).2 ?_
    refine y_aloadN X99 hx hby d24_8 rfl rfl ?_
    refine st100 _ ?_
    show SP p e below T100 (mkF m 12 #[.val (.ref a1), .val (.ref a2), .val (.int 0), .val (.int 0)] [.ref t1]) _
    refine y_iconst X100 hx hby (v := (0 : Int32)) d24_12 rfl ?_
    refine y_aloadN X100 hx hby d24_13 rfl rfl ?_
    refine y_iloadN X100 hx hby d24_14 rfl ?_
    refine y_iloadN X100 hx hby d24_15 rfl ?_
    refine y_ishl X100 hx hby d24_16 ?_
    rw [show ((0 : Int32) <<< ((0 : Int32) &&& 31)) = (0 : Int32) from by decide]
    refine y_aloadN X100 hx hby d24_17 rfl rfl ?_
    refine st101 _ ?_
    show SP p e below T101 (mkF m 21 #[.val (.ref a1), .val (.ref a2), .val (.int 0), .val (.int 0)] [.ref t1, .int 0, .ref a2, .int 0, .ref t1]) _
    refine X101.arraylength hx (by rw [e101]; exact Ar102.1) (State.isArrayOf_alike hZ.alike Ar102.2.1) (g := (mkF m 21 #[.val (.ref a1), .val (.ref a2), .val (.int 0), .val (.int 0)] [.ref t1, .int 0, .ref a2, .int 0, .ref t1])) rfl rfl (hb hby d24_21) _ ?_
    rw [len_of Sz102 Nn102]
    show SP p e below T101 (mkF m 22 #[.val (.ref a1), .val (.ref a2), .val (.int 0), .val (.int 0)] [.int 19, .int 0, .ref a2, .int 0, .ref t1]) _
    refine st103 _ ?_
    show SP p e below T103 (mkF m 25 #[.val (.ref a1), .val (.ref a2), .val (.int 0), .val (.int 0)] []) _
    refine y_goto X103 hx hby (pc' := 43) d24_25 (by decide) (by decide) ?_
    show Steps p.tables e below (T103.setTop (mkF m 43 #[.val (.ref a1), .val (.ref a2), .val (.int 0), .val (.int 0)] [])) _
    exact X103.returnOut hx Bd.returns (hb hby d24_43) hr
  · show QW _ _ _ h0 n0 _ T103.heap _
    rw [e103]
    exact ⟨rfl, N103, KK, V_a2⟩
abbrev cd22 := jdk_68_method_73_code
theorem d22_0 : DD cd22 0 (.aload_n 0) 1 := by decide +kernel
theorem d22_1 : DD cd22 1 (.aload_n 2) 1 := by decide +kernel
theorem d22_2 : DD cd22 2 (.invokevirtual 397) 3 := by decide +kernel
theorem pd_8 : parseMethodDescriptor "(Ljava/lang/String;)V" = some ⟨[(.object "java/lang/String")], none⟩ := by decide +kernel
theorem d22_5 : DD cd22 5 (.aload_n 2) 1 := by decide +kernel
theorem d22_6 : DD cd22 6 (.aload_n 0) 1 := by decide +kernel
theorem d22_7 : DD cd22 7 (.getfield 15) 3 := by decide +kernel
theorem d22_10 : DD cd22 10 (.iload_n 1) 1 := by decide +kernel
theorem d22_11 : DD cd22 11 (.aload_n 0) 1 := by decide +kernel
theorem d22_12 : DD cd22 12 (.getfield 22) 3 := by decide +kernel
theorem d22_15 : DD cd22 15 (.invokevirtual 399) 3 := by decide +kernel
theorem pd_9 : parseMethodDescriptor "([BIB)V" = some ⟨[(.array .byte), .int, .byte], none⟩ := by decide +kernel
theorem d22_18 : DD cd22 18 (.return_) 1 := by decide +kernel
abbrev mn17 : MethodName := ⟨"java/lang/AbstractStringBuilder", "putStringAt", "(ILjava/lang/String;)V"⟩
theorem ef_22 (m : MethodId) (x0 : Addr) (x1 : Int32) (x2 : Addr) : entryFrame m #[.ref x0, (.int x1), .ref x2] 3 = mkF m 0 #[.val (.ref x0), .val (.int x1), .val (.ref x2)] [] := by first | (simp [entryFrame, mkF, argsToLocals, Value.category]; done) | rfl
set_option maxRecDepth 65536 in
set_option maxHeartbeats 40000000 in
theorem rm22_0 (l : Launch) (Z : State) (a0 : Array Value) (hw : HW a0 Z) (ws : List Jvm.Cond) (a1 a3 d1 : Addr) (kd : ClassId) (cs : List Int32) (t1 : Addr) (k1 : ClassId) (ds : List Int32) (wC : Int32) (h0 : Heap) (n0 : Nat) (Z0 : n0 ≤ h0.size) (SC : SS Z h0 wC) (hz : ¬ wC = 0) (hcs : cs.length = 0) (hds : ds.length = 19) (E_a1 : EB Z h0 a1) (F_coder_a1 : FC Z h0 a1 (.int 0)) (F_value_a1 : FV Z h0 a1 (.ref d1)) (V_d1 : Arv Z h0 d1 kd .byte (34 : Int32) (LB cs) (.int 0)) (E_a3 : ES Z h0 a3) (F_coder_a3 : GC Z h0 a3 (.int 0)) (F_value_a3 : GV Z h0 a3 (.ref t1)) (V_t1 : Arv Z h0 t1 k1 .byte (19 : Int32) (LB ds) (.int 0)) (g_d1 : n0 ≤ d1) (ne_a1_d1 : a1 ≠ d1) (ne_d1_a3 : d1 ≠ a3) (ne_d1_t1 : d1 ≠ t1) :
    MF l mn17 jdk_68_method_73_code 3 none ws (RM 2 0 0 33) #[.ref a1, .int 0, .ref a3] Z h0 (QW [d1] none (fun h => Arv Z h d1 kd .byte (34 : Int32) (LB (cs ++ ds)) (.int 0)) h0 n0) := by
  refine MetFree.of_bodySF (plainFor_of_name pn_17) hisR ?_
  intro p e s m args below meth c s₁ Bd hml0 hP hK
  obtain ⟨rfl, hZ, hh⟩ := hP
  have hx := Bd.exec
  have hby := Bd.bytes
  have hml : c.maxLocals = 3 := hml0
  have hown : s.vm.findClass "java/lang/AbstractStringBuilder" = some m.cls := findClass_of_methodNamed Bd.named
  have hnm := (name_of_methodNamed Bd.named Bd.method).1
  have X0 : Stand p l e (RM 2 0 0 33) s m #[.ref a1, .int 0, .ref a3] below meth c s₁ [] 0 0 := Stand.of_body Bd
  have e0 : s₁.heap = h0 := by rw [← hh, Bd.state]; rfl
  have N0 := Fr.nil n0
  have pre0 : GO p e below (s₁.setTop (mkF m 0 #[.val (.ref a1), .val (.int 0), .val (.ref a3)] [])) (s₁.setTop (entryFrame m #[.ref a1, .int 0, .ref a3] 3)) := fun t k => castTop (ef_22 m a1 (0 : Int32) a3) k
  have KK := Keep.refl h0 [d1]
  obtain ⟨cq104, q104a, q104b⟩ := Exa.cell E_a1
  obtain ⟨_, _, ⟨T104, _, _, _⟩, -, X104, ⟨_, hQ104, l104, y104, z104⟩, st104⟩ := X0.privateBack hx (y := mn6) hown (mvT hZ (ww hw 134 rfl)) (mvT hZ (ww hw 135 rfl)) (mvT hZ (own_selp (ww hw 136 rfl) (ww hw 135 rfl) (ww hw 137 rfl) (by decide))) (Cond.privateMethod_at (mvP hZ (ww hw 136 rfl) (args := #[]))) (mvT hZ (ww hw 138 rfl)) (by decide) (backOf (W := 0) (rm23 l Z a0 hw [] a1 a3 wC h0 n0 Z0 SC hz F_coder_a1 E_a3 F_coder_a3) hZ (ww hw 138 rfl) (ww hw 65 rfl) (by decide) (by decide)) (g := (mkF m 2 #[.val (.ref a1), .val (.int 0), .val (.ref a3)] [.ref a3, .ref a1])) rfl (by rw [hml]; rfl) (Steps.refl _) (a := a1) (by rw [e0]; exact q104a) q104b (argsL := [.ref a3]) (rest := []) (lenOf pd_8 rfl) rfl (wz rfl) (hb hby d22_2) (fun _ _ => ⟨rfl, e0, (by decide : 0 + 0 ≤ _), (by decide : 0 + 0 ≤ _)⟩)
  dsimp only [Pt.U, Pt.locs, Pt.cells, Pt.slots] at X104 l104 y104 z104 st104 hQ104
  rw [l104, y104, z104] at X104
  obtain ⟨rfl, N104q, e104⟩ := hQ104
  have N104 := Fr.app N0 N104q
  obtain ⟨T105, X105, e105, st105⟩ := getF X104 hx hZ hown (host := "") (Or.inl (ww hw 69 rfl)) Via.refl e104 F_value_a1 (g := (mkF m 7 #[.val (.ref a1), .val (.int 0), .val (.ref a3)] [.ref a1, .ref a3])) rfl rfl (hb hby d22_7)
  obtain ⟨T106, X106, e106, st106⟩ := getF X105 hx hZ hown (host := "") (Or.inl (ww hw 71 rfl)) Via.refl e105 F_coder_a1 (g := (mkF m 12 #[.val (.ref a1), .val (.int 0), .val (.ref a3)] [.ref a1, .int 0, .ref d1, .ref a3])) rfl rfl (hb hby d22_12)
  obtain ⟨cq107, kq107, q107a, q107b, q107c⟩ := isOf hZ e106 E_a3
  obtain ⟨_, _, ⟨T107, _, _, _⟩, -, X107, ⟨_, hQ107, l107, y107, z107⟩, st107⟩ := X106.virtualBack hx (y := mn16) (z := mn16) hown (mvT hZ (ww hw 140 rfl)) (mvT hZ (ww hw 141 rfl)) (notFace_of_selects (args := #[]) (mvT hZ (ww hw 143 rfl))) (mvT hZ (ww hw 143 rfl)) (mvT hZ (ww hw 142 rfl)) (by decide) (backOf (W := 0) (rm24_0 l Z a0 hw [] a3 d1 kd cs t1 k1 ds wC h0 n0 Z0 SC hz hcs hds E_a3 F_coder_a3 F_value_a3 V_t1 V_d1 g_d1 ne_d1_t1 ne_d1_a3) hZ (ww hw 144 rfl) (ww hw 2 rfl) (by decide) (by decide)) q107a q107c (g := (mkF m 15 #[.val (.ref a1), .val (.int 0), .val (.ref a3)] [.int 0, .int 0, .ref d1, .ref a3])) rfl (by rw [hml]; rfl) (Steps.refl _) (argsL := [.ref d1, .int 0, .int 0]) (rest := []) (lenOf pd_9 rfl) rfl (wz rfl) (hb hby d22_15) (fun _ _ => ⟨rfl, e106, (by decide : 0 + 0 ≤ _), (by decide : 0 + 0 ≤ _)⟩)
  dsimp only [Pt.U, Pt.locs, Pt.cells, Pt.slots] at X107 l107 y107 z107 st107 hQ107
  rw [l107, y107, z107] at X107
  obtain ⟨h107, e107⟩ : ∃ z, T107.heap = z := ⟨_, rfl⟩
  rw [e107] at hQ107
  obtain ⟨rfl, N107q, K107, G107_0⟩ := hQ107
  replace SC := own_stakeep SC K107 (nsS (Arv.nostat V_d1) ns0)
  replace E_a1 := E_a1.keep K107
  replace F_coder_a1 := F_coder_a1.keep K107 (ninS ne_a1_d1 nin0)
  replace F_value_a1 := F_value_a1.keep K107 (ninS ne_a1_d1 nin0)
  replace E_a3 := E_a3.keep K107
  replace F_coder_a3 := F_coder_a3.keep K107 (ninS (Ne.symm ne_d1_a3) nin0)
  replace F_value_a3 := F_value_a3.keep K107 (ninS (Ne.symm ne_d1_a3) nin0)
  replace V_t1 := V_t1.keep K107 (ninS (Ne.symm ne_d1_t1) nin0)
  replace Z0 := Nat.le_trans Z0 K107.1
  replace KK := KK.trans K107 (allS (Or.inl (List.mem_of_getElem? (i := 0) rfl)) all0)
  have V_d1 : Arv Z h107 d1 kd .byte (34 : Int32) (LB (cs ++ ds)) (.int 0) := G107_0
  have N107 := Fr.app N104 N107q
  obtain ⟨fs, hr, hrun, hended, hW, hsame⟩ := X107.leave (v := none) (fun _ => rfl)
  refine ⟨_, _, pre0 _ ?_, hrun, hended, _, _, rfl, ?_, ⟨_, rfl⟩, hW, hsame.mono (by decide) (by decide)⟩
  · refine y_aloadN X0 hx hby d22_0 rfl rfl ?_
    refine y_aloadN X0 hx hby d22_1 rfl rfl ?_
    refine st104.trans ?_
    show SP p e below T104 (mkF m 5 #[.val (.ref a1), .val (.int 0), .val (.ref a3)] []) _
    refine y_aloadN X104 hx hby d22_5 rfl rfl ?_
    refine y_aloadN X104 hx hby d22_6 rfl rfl ?_
    refine st105 _ ?_
    show SP p e below T105 (mkF m 10 #[.val (.ref a1), .val (.int 0), .val (.ref a3)] [.ref d1, .ref a3]) _
    refine y_iloadN X105 hx hby d22_10 rfl ?_
    refine y_aloadN X105 hx hby d22_11 rfl rfl ?_
    refine st106 _ ?_
    show SP p e below T106 (mkF m 15 #[.val (.ref a1), .val (.int 0), .val (.ref a3)] [.int 0, .int 0, .ref d1, .ref a3]) _
    refine st107.trans ?_
    show Steps p.tables e below (T107.setTop (mkF m 18 #[.val (.ref a1), .val (.int 0), .val (.ref a3)] [])) _
    exact X107.returnOut hx Bd.returns (hb hby d22_18) hr
  · show QW _ _ _ h0 n0 _ T107.heap _
    rw [e107]
    exact ⟨rfl, N107, KK, V_d1⟩
abbrev cd13 := jdk_68_method_22_code
theorem d13_0 : DD cd13 0 (.aload_n 1) 1 := by decide +kernel
theorem d13_1 : DD cd13 1 (.ifnonnull 8) 3 := by decide +kernel
theorem d13_9 : DD cd13 9 (.aload_n 1) 1 := by decide +kernel
theorem d13_10 : DD cd13 10 (.invokevirtual 32) 3 := by decide +kernel
theorem d13_13 : DD cd13 13 (.istore_n 2) 1 := by decide +kernel
theorem d13_14 : DD cd13 14 (.aload_n 0) 1 := by decide +kernel
theorem d13_15 : DD cd13 15 (.aload_n 0) 1 := by decide +kernel
theorem d13_16 : DD cd13 16 (.getfield 79) 3 := by decide +kernel
theorem d13_19 : DD cd13 19 (.iload_n 2) 1 := by decide +kernel
theorem d13_20 : DD cd13 20 (.iadd) 1 := by decide +kernel
theorem d13_21 : DD cd13 21 (.invokevirtual 100) 3 := by decide +kernel
theorem pd_10 : parseMethodDescriptor "(I)V" = some ⟨[.int], none⟩ := by decide +kernel
theorem d13_24 : DD cd13 24 (.aload_n 0) 1 := by decide +kernel
theorem d13_25 : DD cd13 25 (.aload_n 0) 1 := by decide +kernel
theorem d13_26 : DD cd13 26 (.getfield 79) 3 := by decide +kernel
theorem d13_29 : DD cd13 29 (.aload_n 1) 1 := by decide +kernel
theorem d13_30 : DD cd13 30 (.invokevirtual 208) 3 := by decide +kernel
theorem pd_11 : parseMethodDescriptor "(ILjava/lang/String;)V" = some ⟨[.int, (.object "java/lang/String")], none⟩ := by decide +kernel
theorem d13_33 : DD cd13 33 (.aload_n 0) 1 := by decide +kernel
theorem d13_34 : DD cd13 34 (.dup) 1 := by decide +kernel
theorem d13_35 : DD cd13 35 (.getfield 79) 3 := by decide +kernel
theorem d13_38 : DD cd13 38 (.iload_n 2) 1 := by decide +kernel
theorem d13_39 : DD cd13 39 (.iadd) 1 := by decide +kernel
theorem d13_40 : DD cd13 40 (.putfield 79) 3 := by decide +kernel
theorem d13_43 : DD cd13 43 (.aload_n 0) 1 := by decide +kernel
theorem d13_44 : DD cd13 44 (.areturn) 1 := by decide +kernel
abbrev mn18 : MethodName := ⟨"java/lang/AbstractStringBuilder", "append", "(Ljava/lang/String;)Ljava/lang/AbstractStringBuilder;"⟩
theorem ef_13 (m : MethodId) (x0 : Addr) (x1 : Addr) : entryFrame m #[.ref x0, .ref x1] 3 = mkF m 0 #[.val (.ref x0), .val (.ref x1), .unset] [] := by first | (simp [entryFrame, mkF, argsToLocals, Value.category]; done) | rfl
set_option maxRecDepth 65536 in
set_option maxHeartbeats 40000000 in
theorem rm13_0 (l : Launch) (Z : State) (a0 : Array Value) (hw : HW a0 Z) (ws : List Jvm.Cond) (a1 a2 d1 : Addr) (kd : ClassId) (cs : List Int32) (t1 : Addr) (k1 : ClassId) (ds : List Int32) (wC : Int32) (h0 : Heap) (n0 : Nat) (Z0 : n0 ≤ h0.size) (SC : SS Z h0 wC) (hz : ¬ wC = 0) (hcs : cs.length = 0) (hds : ds.length = 19) (E_a1 : EB Z h0 a1) (F_coder_a1 : FC Z h0 a1 (.int 0)) (F_value_a1 : FV Z h0 a1 (.ref d1)) (F_count_a1 : FN Z h0 a1 (.int 0)) (V_d1 : Arv Z h0 d1 kd .byte (16 : Int32) (LB cs) (.int 0)) (E_a2 : ES Z h0 a2) (F_coder_a2 : GC Z h0 a2 (.int 0)) (F_value_a2 : GV Z h0 a2 (.ref t1)) (V_t1 : Arv Z h0 t1 k1 .byte (19 : Int32) (LB ds) (.int 0)) (g_a1 : n0 ≤ a1) (ne_a1_d1 : a1 ≠ d1) (ne_a1_a2 : a1 ≠ a2) (ne_a1_t1 : a1 ≠ t1) :
    MF l mn18 jdk_68_method_22_code 3 (some (.object "java/lang/AbstractStringBuilder")) ws (RM 4 1 34 62) #[.ref a1, .ref a2] Z h0 (QW [a1] (some (.ref a1)) (fun h => ∃ d k, h0.size ≤ d ∧ FC Z h a1 (.int 0) ∧ FV Z h a1 (.ref d) ∧ FN Z h a1 (.int 19) ∧ Arv Z h d k .byte (34 : Int32) (LB (cs ++ ds)) (.int 0)) h0 n0) := by
  refine MetFree.of_bodySF (plainFor_of_name pn_17) hisR ?_
  intro p e s m args below meth c s₁ Bd hml0 hP hK
  obtain ⟨rfl, hZ, hh⟩ := hP
  have hx := Bd.exec
  have hby := Bd.bytes
  have hml : c.maxLocals = 3 := hml0
  have hown : s.vm.findClass "java/lang/AbstractStringBuilder" = some m.cls := findClass_of_methodNamed Bd.named
  have hnm := (name_of_methodNamed Bd.named Bd.method).1
  have X0 : Stand p l e (RM 4 1 34 62) s m #[.ref a1, .ref a2] below meth c s₁ [] 0 0 := Stand.of_body Bd
  have e0 : s₁.heap = h0 := by rw [← hh, Bd.state]; rfl
  have N0 := Fr.nil n0
  have pre0 : GO p e below (s₁.setTop (mkF m 0 #[.val (.ref a1), .val (.ref a2), .unset] [])) (s₁.setTop (entryFrame m #[.ref a1, .ref a2] 3)) := fun t k => castTop (ef_13 m a1 a2) k
  have KK := Keep.refl h0 [a1]
  obtain ⟨cq108, kq108, q108a, q108b, q108c⟩ := isOf hZ e0 E_a2
  obtain ⟨_, _, ⟨T108, _, _, _⟩, -, X108, ⟨_, hQ108, l108, y108, z108⟩, st108⟩ := X0.virtualBack hx (y := mn5) (z := mn5) hown (mvT hZ (ww hw 86 rfl)) (mvT hZ (ww hw 87 rfl)) (notFace_of_selects (args := #[]) (mvT hZ (ww hw 89 rfl))) (mvT hZ (ww hw 89 rfl)) (mvT hZ (ww hw 88 rfl)) (by decide) (backOf (W := 0) (rm14_19 l Z a0 hw [] a2 t1 k1 ds wC h0 n0 Z0 SC hz E_a2 F_coder_a2 F_value_a2 V_t1) hZ (ww hw 90 rfl) (ww hw 2 rfl) (by decide) (by decide)) q108a q108c (g := (mkF m 10 #[.val (.ref a1), .val (.ref a2), .unset] [.ref a2])) rfl (by rw [hml]; rfl) (Steps.refl _) (argsL := []) (rest := []) (lenOf pd_3 rfl) rfl (wz rfl) (hb hby d13_10) (fun _ _ => ⟨rfl, e0, (by decide : 0 + 0 ≤ _), (by decide : 0 + 0 ≤ _)⟩)
  dsimp only [Pt.U, Pt.locs, Pt.cells, Pt.slots] at X108 l108 y108 z108 st108 hQ108
  rw [l108, y108, z108] at X108
  obtain ⟨rfl, N108q, e108⟩ := hQ108
  have N108 := Fr.app N0 N108q
  obtain ⟨T109, X109, e109, st109⟩ := getF X108 hx hZ hown (host := "") (Or.inl (ww hw 96 rfl)) Via.refl e108 F_count_a1 (g := (mkF m 16 #[.val (.ref a1), .val (.ref a2), .val (.int 19)] [.ref a1, .ref a1])) rfl rfl (hb hby d13_16)
  obtain ⟨cq110, q110a, q110b⟩ := Exa.cell E_a1
  obtain ⟨_, _, ⟨T110, _, _, _⟩, -, X110, ⟨_, hQ110, l110, y110, z110⟩, st110⟩ := X109.privateBack hx (y := mn15) hown (mvT hZ (ww hw 98 rfl)) (mvT hZ (ww hw 99 rfl)) (mvT hZ (own_selp (ww hw 100 rfl) (ww hw 99 rfl) (ww hw 101 rfl) (by decide))) (Cond.privateMethod_at (mvP hZ (ww hw 100 rfl) (args := #[]))) (mvT hZ (ww hw 102 rfl)) (by decide) (backOf (W := 0) (rm16_g34 l Z a0 hw [] a1 d1 kd cs h0 n0 Z0 hcs E_a1 F_coder_a1 F_value_a1 F_count_a1 V_d1 g_a1 ne_a1_d1) hZ (ww hw 102 rfl) (ww hw 65 rfl) (by decide) (by decide)) (g := (mkF m 21 #[.val (.ref a1), .val (.ref a2), .val (.int 19)] [.int 19, .ref a1])) rfl (by rw [hml]; rfl) (Steps.refl _) (a := a1) (by rw [e109]; exact q110a) q110b (argsL := [.int 19]) (rest := []) (lenOf pd_10 rfl) rfl (wz rfl) (hb hby d13_21) (fun _ _ => ⟨rfl, e109, (by decide : 0 + 1 ≤ _), (by decide : 0 + 34 ≤ _)⟩)
  dsimp only [Pt.U, Pt.locs, Pt.cells, Pt.slots] at X110 l110 y110 z110 st110 hQ110
  rw [l110, y110, z110] at X110
  obtain ⟨h110, e110⟩ : ∃ z, T110.heap = z := ⟨_, rfl⟩
  rw [e110] at hQ110
  obtain ⟨rfl, N110q, K110, B110, kb110, szn110, G110_0, G110_1, G110_2, G110_3⟩ := hQ110
  have g_B110 : n0 ≤ B110 := Nat.le_trans Z0 szn110
  have sz_B110 : h0.size ≤ B110 := Nat.le_trans KK.1 szn110
  have ne_a1_B110 : a1 ≠ B110 := Nat.ne_of_lt (Nat.lt_of_lt_of_le E_a1.lt szn110)
  have ne_d1_B110 : d1 ≠ B110 := Nat.ne_of_lt (Nat.lt_of_lt_of_le V_d1.lt szn110)
  have ne_a2_B110 : a2 ≠ B110 := Nat.ne_of_lt (Nat.lt_of_lt_of_le E_a2.lt szn110)
  have ne_t1_B110 : t1 ≠ B110 := Nat.ne_of_lt (Nat.lt_of_lt_of_le V_t1.lt szn110)
  replace SC := own_stakeep SC K110 (nsS (Exa.nostat E_a1) ns0)
  replace E_a1 := E_a1.keep K110
  replace V_d1 := V_d1.keep K110 (ninS (Ne.symm ne_a1_d1) nin0)
  replace E_a2 := E_a2.keep K110
  replace F_coder_a2 := F_coder_a2.keep K110 (ninS (Ne.symm ne_a1_a2) nin0)
  replace F_value_a2 := F_value_a2.keep K110 (ninS (Ne.symm ne_a1_a2) nin0)
  replace V_t1 := V_t1.keep K110 (ninS (Ne.symm ne_a1_t1) nin0)
  replace Z0 := Nat.le_trans Z0 K110.1
  replace KK := KK.trans K110 (allS (Or.inl (List.mem_of_getElem? (i := 0) rfl)) all0)
  have F_coder_a1 : FC Z h110 a1 (.int 0) := G110_0
  have F_value_a1 : FV Z h110 a1 (.ref B110) := G110_1
  have F_count_a1 : FN Z h110 a1 (.int 0) := G110_2
  have V_B110 : Arv Z h110 B110 kb110 .byte (34 : Int32) (LB cs) (.int 0) := G110_3
  have N110 := Fr.app N108 N110q
  obtain ⟨T111, X111, e111, st111⟩ := getF X110 hx hZ hown (host := "") (Or.inl (ww hw 96 rfl)) Via.refl e110 F_count_a1 (g := (mkF m 26 #[.val (.ref a1), .val (.ref a2), .val (.int 19)] [.ref a1, .ref a1])) rfl rfl (hb hby d13_26)
  obtain ⟨cq112, q112a, q112b⟩ := Exa.cell E_a1
  obtain ⟨_, _, ⟨T112, _, _, _⟩, -, X112, ⟨_, hQ112, l112, y112, z112⟩, st112⟩ := X111.privateBack hx (y := mn17) hown (mvT hZ (ww hw 129 rfl)) (mvT hZ (ww hw 130 rfl)) (mvT hZ (own_selp (ww hw 131 rfl) (ww hw 130 rfl) (ww hw 132 rfl) (by decide))) (Cond.privateMethod_at (mvP hZ (ww hw 131 rfl) (args := #[]))) (mvT hZ (ww hw 133 rfl)) (by decide) (backOf (W := 0) (rm22_0 l Z a0 hw [] a1 a2 B110 kb110 cs t1 k1 ds wC h110 n0 Z0 SC hz hcs hds E_a1 F_coder_a1 F_value_a1 V_B110 E_a2 F_coder_a2 F_value_a2 V_t1 g_B110 ne_a1_B110 (Ne.symm ne_a2_B110) (Ne.symm ne_t1_B110)) hZ (ww hw 133 rfl) (ww hw 65 rfl) (by decide) (by decide)) (g := (mkF m 30 #[.val (.ref a1), .val (.ref a2), .val (.int 19)] [.ref a2, .int 0, .ref a1])) rfl (by rw [hml]; rfl) (Steps.refl _) (a := a1) (by rw [e111]; exact q112a) q112b (argsL := [.int 0, .ref a2]) (rest := []) (lenOf pd_11 rfl) rfl (wz rfl) (hb hby d13_30) (fun _ _ => ⟨rfl, e111, (by decide : 1 + 0 ≤ _), (by decide : 34 + 0 ≤ _)⟩)
  dsimp only [Pt.U, Pt.locs, Pt.cells, Pt.slots] at X112 l112 y112 z112 st112 hQ112
  rw [l112, y112, z112] at X112
  obtain ⟨h112, e112⟩ : ∃ z, T112.heap = z := ⟨_, rfl⟩
  rw [e112] at hQ112
  obtain ⟨rfl, N112q, K112, G112_0⟩ := hQ112
  replace SC := own_stakeep SC K112 (nsS (Arv.nostat V_B110) ns0)
  replace E_a1 := E_a1.keep K112
  replace V_d1 := V_d1.keep K112 (ninS ne_d1_B110 nin0)
  replace E_a2 := E_a2.keep K112
  replace F_coder_a2 := F_coder_a2.keep K112 (ninS ne_a2_B110 nin0)
  replace F_value_a2 := F_value_a2.keep K112 (ninS ne_a2_B110 nin0)
  replace V_t1 := V_t1.keep K112 (ninS ne_t1_B110 nin0)
  replace F_coder_a1 := F_coder_a1.keep K112 (ninS ne_a1_B110 nin0)
  replace F_value_a1 := F_value_a1.keep K112 (ninS ne_a1_B110 nin0)
  replace F_count_a1 := F_count_a1.keep K112 (ninS ne_a1_B110 nin0)
  replace Z0 := Nat.le_trans Z0 K112.1
  replace KK := KK.trans K112 (allS (Or.inr sz_B110) all0)
  have V_B110 : Arv Z h112 B110 kb110 .byte (34 : Int32) (LB (cs ++ ds)) (.int 0) := G112_0
  have N112 := Fr.app N110 N112q
  obtain ⟨T113, X113, e113, st113⟩ := getF X112 hx hZ hown (host := "") (Or.inl (ww hw 96 rfl)) Via.refl e112 F_count_a1 (g := (mkF m 35 #[.val (.ref a1), .val (.ref a2), .val (.int 19)] [.ref a1, .ref a1])) rfl rfl (hb hby d13_35)
  obtain ⟨T114, h114, X114, e114, W114, st114⟩ := putF X113 hx hZ hown (host := "") (Or.inl (ww hw 96 rfl)) Via.refl e113 F_count_a1 E_a1 (Or.inl (ww hw 97 rfl)) (ww hw 56 rfl) (ty := .int) (by decide) rfl rfl (g := (mkF m 40 #[.val (.ref a1), .val (.ref a2), .val (.int 19)] [.int 19, .ref a1])) rfl rfl (hb hby d13_40)
  replace E_a1 := E_a1.wr W114
  replace V_d1 := V_d1.other W114 (Ne.symm ne_a1_d1)
  replace E_a2 := E_a2.wr W114
  replace F_coder_a2 := F_coder_a2.other W114 (Or.inl (Ne.symm ne_a1_a2))
  replace F_value_a2 := F_value_a2.other W114 (Or.inl (Ne.symm ne_a1_a2))
  replace V_t1 := V_t1.other W114 (Ne.symm ne_a1_t1)
  replace SC := SC.wr W114
  replace F_coder_a1 := F_coder_a1.other W114 (Or.inr (slot_ne (Or.inl (ww hw 72 rfl)) (Or.inl (ww hw 97 rfl)) (by decide) (t := .byte) (t' := .int) (by decide) (by decide)))
  replace F_value_a1 := F_value_a1.other W114 (Or.inr (slot_ne (Or.inl (ww hw 70 rfl)) (Or.inl (ww hw 97 rfl)) (by decide) (t := (.array .byte)) (t' := .int) (by decide) (by decide)))
  replace F_count_a1 := F_count_a1.same W114
  replace V_B110 := V_B110.other W114 (Ne.symm ne_a1_B110)
  replace Z0 := Nat.le_trans Z0 (Keep.of_wr W114).1
  replace KK := KK.wr W114 (Or.inl (List.mem_of_getElem? (i := 0) rfl))
  have N114 := Fr.snoc X114 N112 g_a1
  obtain ⟨fs, hr, hrun, hended, hW, hsame⟩ := X114.leave (v := some (.ref a1)) (fun h => by rw [Bd.returns] at h; cases h)
  refine ⟨_, _, pre0 _ ?_, hrun, hended, _, _, rfl, ?_, ⟨_, rfl⟩, hW, hsame.mono (by decide) (by decide)⟩
  · refine y_aloadN X0 hx hby d13_0 rfl rfl ?_
    refine y_ifnonnullYes X0 hx hby (pc' := 9) d13_1 (by decide) (by decide) ?_
    refine y_aloadN X0 hx hby d13_9 rfl rfl ?_
    refine st108.trans ?_
    show SP p e below T108 (mkF m 13 #[.val (.ref a1), .val (.ref a2), .unset] [.int 19]) _
    refine y_istoreN X108 hx hby d13_13 (l' := #[.val (.ref a1), .val (.ref a2), .val (.int 19)]) rfl ?_
    refine y_aloadN X108 hx hby d13_14 rfl rfl ?_
    refine y_aloadN X108 hx hby d13_15 rfl rfl ?_
    refine st109 _ ?_
    show SP p e below T109 (mkF m 19 #[.val (.ref a1), .val (.ref a2), .val (.int 19)] [.int 0, .ref a1]) _
    refine y_iloadN X109 hx hby d13_19 rfl ?_
    refine y_iadd X109 hx hby d13_20 ?_
    rw [show ((0 : Int32) + (19 : Int32)) = (19 : Int32) from by decide]
    refine st110.trans ?_
    show SP p e below T110 (mkF m 24 #[.val (.ref a1), .val (.ref a2), .val (.int 19)] []) _
    refine y_aloadN X110 hx hby d13_24 rfl rfl ?_
    refine y_aloadN X110 hx hby d13_25 rfl rfl ?_
    refine st111 _ ?_
    show SP p e below T111 (mkF m 29 #[.val (.ref a1), .val (.ref a2), .val (.int 19)] [.int 0, .ref a1]) _
    refine y_aloadN X111 hx hby d13_29 rfl rfl ?_
    refine st112.trans ?_
    show SP p e below T112 (mkF m 33 #[.val (.ref a1), .val (.ref a2), .val (.int 19)] []) _
    refine y_aloadN X112 hx hby d13_33 rfl rfl ?_
    refine y_dup X112 hx hby d13_34 rfl ?_
    refine st113 _ ?_
    show SP p e below T113 (mkF m 38 #[.val (.ref a1), .val (.ref a2), .val (.int 19)] [.int 0, .ref a1]) _
    refine y_iloadN X113 hx hby d13_38 rfl ?_
    refine y_iadd X113 hx hby d13_39 ?_
    rw [show ((0 : Int32) + (19 : Int32)) = (19 : Int32) from by decide]
    refine st114 _ ?_
    show SP p e below T114 (mkF m 43 #[.val (.ref a1), .val (.ref a2), .val (.int 19)] []) _
    refine y_aloadN X114 hx hby d13_43 rfl rfl ?_
    show Steps p.tables e below (T114.setTop (mkF m 44 #[.val (.ref a1), .val (.ref a2), .val (.int 19)] [.ref a1])) _
    jvm_step X114.here [X114.here.top, hx, (hb hby d13_44), X114.method', Bd.returns, Value.isRef, FieldType.isReference]
    first | (intro acts; rw [hr _ acts rfl rfl rfl]) | rw [hr _ _ rfl rfl rfl]
    exact Steps.refl _
  · show QW _ _ _ h0 n0 _ T114.heap _
    rw [e114]
    exact ⟨rfl, N114, KK, _, _, sz_B110, F_coder_a1, F_value_a1, F_count_a1, V_B110⟩
abbrev cd12 := jdk_67_method_7_code
theorem d12_0 : DD cd12 0 (.aload_n 0) 1 := by decide +kernel
theorem d12_1 : DD cd12 1 (.aload_n 1) 1 := by decide +kernel
theorem d12_2 : DD cd12 2 (.invokespecial 29) 3 := by decide +kernel
theorem pd_12 : parseMethodDescriptor "(Ljava/lang/String;)Ljava/lang/AbstractStringBuilder;" = some ⟨[(.object "java/lang/String")], some (.object "java/lang/AbstractStringBuilder")⟩ := by decide +kernel
theorem d12_5 : DD cd12 5 (.pop) 1 := by decide +kernel
theorem d12_6 : DD cd12 6 (.aload_n 0) 1 := by decide +kernel
theorem d12_7 : DD cd12 7 (.areturn) 1 := by decide +kernel
abbrev mn19 : MethodName := ⟨"java/lang/StringBuilder", "append", "(Ljava/lang/String;)Ljava/lang/StringBuilder;"⟩
theorem ef_12 (m : MethodId) (x0 : Addr) (x1 : Addr) : entryFrame m #[.ref x0, .ref x1] 2 = mkF m 0 #[.val (.ref x0), .val (.ref x1)] [] := by first | (simp [entryFrame, mkF, argsToLocals, Value.category]; done) | rfl
set_option maxRecDepth 65536 in
set_option maxHeartbeats 40000000 in
theorem rm12_0 (l : Launch) (Z : State) (a0 : Array Value) (hw : HW a0 Z) (ws : List Jvm.Cond) (a1 a2 d1 : Addr) (kd : ClassId) (cs : List Int32) (t1 : Addr) (k1 : ClassId) (ds : List Int32) (wC : Int32) (h0 : Heap) (n0 : Nat) (Z0 : n0 ≤ h0.size) (SC : SS Z h0 wC) (hz : ¬ wC = 0) (hcs : cs.length = 0) (hds : ds.length = 19) (E_a1 : EB Z h0 a1) (F_coder_a1 : FC Z h0 a1 (.int 0)) (F_value_a1 : FV Z h0 a1 (.ref d1)) (F_count_a1 : FN Z h0 a1 (.int 0)) (V_d1 : Arv Z h0 d1 kd .byte (16 : Int32) (LB cs) (.int 0)) (E_a2 : ES Z h0 a2) (F_coder_a2 : GC Z h0 a2 (.int 0)) (F_value_a2 : GV Z h0 a2 (.ref t1)) (V_t1 : Arv Z h0 t1 k1 .byte (19 : Int32) (LB ds) (.int 0)) (g_a1 : n0 ≤ a1) (ne_a1_d1 : a1 ≠ d1) (ne_a1_a2 : a1 ≠ a2) (ne_a1_t1 : a1 ≠ t1) :
    MF l mn19 jdk_67_method_7_code 2 (some (.object "java/lang/StringBuilder")) ws (RM 5 1 34 76) #[.ref a1, .ref a2] Z h0 (QW [a1] (some (.ref a1)) (fun h => ∃ d k, h0.size ≤ d ∧ FC Z h a1 (.int 0) ∧ FV Z h a1 (.ref d) ∧ FN Z h a1 (.int 19) ∧ Arv Z h d k .byte (34 : Int32) (LB (cs ++ ds)) (.int 0)) h0 n0) := by
  refine MetFree.of_bodySF (plainFor_of_name pn_32) hisR ?_
  intro p e s m args below meth c s₁ Bd hml0 hP hK
  obtain ⟨rfl, hZ, hh⟩ := hP
  have hx := Bd.exec
  have hby := Bd.bytes
  have hml : c.maxLocals = 2 := hml0
  have hown : s.vm.findClass "java/lang/StringBuilder" = some m.cls := findClass_of_methodNamed Bd.named
  have hnm := (name_of_methodNamed Bd.named Bd.method).1
  have X0 : Stand p l e (RM 5 1 34 76) s m #[.ref a1, .ref a2] below meth c s₁ [] 0 0 := Stand.of_body Bd
  have e0 : s₁.heap = h0 := by rw [← hh, Bd.state]; rfl
  have N0 := Fr.nil n0
  have pre0 : GO p e below (s₁.setTop (mkF m 0 #[.val (.ref a1), .val (.ref a2)] [])) (s₁.setTop (entryFrame m #[.ref a1, .ref a2] 2)) := fun t k => castTop (ef_12 m a1 a2) k
  have KK := Keep.refl h0 [a1]
  obtain ⟨_, _, ⟨T115, _, _, _⟩, -, X115, ⟨_, hQ115, l115, y115, z115⟩, st115⟩ := superBack X0 hx hZ (y := mn18) hown (ww hw 81 rfl) (own_same (ww hw 82 rfl) (ww hw 101 rfl) rfl (by decide)) (ww hw 82 rfl) (ww hw 83 rfl) (by decide) (backOf (W := 0) (rm13_0 l Z a0 hw [] a1 a2 d1 kd cs t1 k1 ds wC h0 n0 Z0 SC hz hcs hds E_a1 F_coder_a1 F_value_a1 F_count_a1 V_d1 E_a2 F_coder_a2 F_value_a2 V_t1 g_a1 ne_a1_d1 ne_a1_a2 ne_a1_t1) hZ (ww hw 85 rfl) (ww hw 65 rfl) (by decide) (by decide)) e0 (Ins.self E_a1) (g := (mkF m 2 #[.val (.ref a1), .val (.ref a2)] [.ref a2, .ref a1])) rfl (by rw [hml]; rfl) (ww hw 85 rfl) (argsL := [.ref a2]) (rest := []) (lenOf pd_12 rfl) rfl (wz rfl) (hb hby d12_2) (fun _ _ => ⟨rfl, e0, (by decide : 0 + 1 ≤ _), (by decide : 0 + 34 ≤ _)⟩)
  dsimp only [Pt.U, Pt.locs, Pt.cells, Pt.slots] at X115 l115 y115 z115 st115 hQ115
  rw [l115, y115, z115] at X115
  obtain ⟨h115, e115⟩ : ∃ z, T115.heap = z := ⟨_, rfl⟩
  rw [e115] at hQ115
  obtain ⟨rfl, N115q, K115, B115, kb115, szn115, G115_0, G115_1, G115_2, G115_3⟩ := hQ115
  have g_B115 : n0 ≤ B115 := Nat.le_trans Z0 szn115
  have sz_B115 : h0.size ≤ B115 := Nat.le_trans KK.1 szn115
  have ne_a1_B115 : a1 ≠ B115 := Nat.ne_of_lt (Nat.lt_of_lt_of_le E_a1.lt szn115)
  have ne_d1_B115 : d1 ≠ B115 := Nat.ne_of_lt (Nat.lt_of_lt_of_le V_d1.lt szn115)
  have ne_a2_B115 : a2 ≠ B115 := Nat.ne_of_lt (Nat.lt_of_lt_of_le E_a2.lt szn115)
  have ne_t1_B115 : t1 ≠ B115 := Nat.ne_of_lt (Nat.lt_of_lt_of_le V_t1.lt szn115)
  replace SC := own_stakeep SC K115 (nsS (Exa.nostat E_a1) ns0)
  replace E_a1 := E_a1.keep K115
  replace V_d1 := V_d1.keep K115 (ninS (Ne.symm ne_a1_d1) nin0)
  replace E_a2 := E_a2.keep K115
  replace F_coder_a2 := F_coder_a2.keep K115 (ninS (Ne.symm ne_a1_a2) nin0)
  replace F_value_a2 := F_value_a2.keep K115 (ninS (Ne.symm ne_a1_a2) nin0)
  replace V_t1 := V_t1.keep K115 (ninS (Ne.symm ne_a1_t1) nin0)
  replace Z0 := Nat.le_trans Z0 K115.1
  replace KK := KK.trans K115 (allS (Or.inl (List.mem_of_getElem? (i := 0) rfl)) all0)
  have F_coder_a1 : FC Z h115 a1 (.int 0) := G115_0
  have F_value_a1 : FV Z h115 a1 (.ref B115) := G115_1
  have F_count_a1 : FN Z h115 a1 (.int 19) := G115_2
  have V_B115 : Arv Z h115 B115 kb115 .byte (34 : Int32) (LB (cs ++ ds)) (.int 0) := G115_3
  have N115 := Fr.app N0 N115q
  obtain ⟨fs, hr, hrun, hended, hW, hsame⟩ := X115.leave (v := some (.ref a1)) (fun h => by rw [Bd.returns] at h; cases h)
  refine ⟨_, _, pre0 _ ?_, hrun, hended, _, _, rfl, ?_, ⟨_, rfl⟩, hW, hsame.mono (by decide) (by decide)⟩
  · refine y_aloadN X0 hx hby d12_0 rfl rfl ?_
    refine y_aloadN X0 hx hby d12_1 rfl rfl ?_
    refine st115.trans ?_
    show SP p e below T115 (mkF m 5 #[.val (.ref a1), .val (.ref a2)] [.ref a1]) _
    refine y_pop X115 hx hby d12_5 rfl ?_
    refine y_aloadN X115 hx hby d12_6 rfl rfl ?_
    show Steps p.tables e below (T115.setTop (mkF m 7 #[.val (.ref a1), .val (.ref a2)] [.ref a1])) _
    jvm_step X115.here [X115.here.top, hx, (hb hby d12_7), X115.method', Bd.returns, Value.isRef, FieldType.isReference]
    first | (intro acts; rw [hr _ acts rfl rfl rfl]) | rw [hr _ _ rfl rfl rfl]
    exact Steps.refl _
  · show QW _ _ _ h0 n0 _ T115.heap _
    rw [e115]
    exact ⟨rfl, N115, KK, _, _, sz_B115, F_coder_a1, F_value_a1, F_count_a1, V_B115⟩
set_option maxRecDepth 65536 in
set_option maxHeartbeats 40000000 in
theorem rm24_19 (l : Launch) (Z : State) (a0 : Array Value) (hw : HW a0 Z) (ws : List Jvm.Cond) (a1 a2 : Addr) (kd : ClassId) (cs : List Int32) (t1 : Addr) (k1 : ClassId) (ds : List Int32) (wC : Int32) (h0 : Heap) (n0 : Nat) (Z0 : n0 ≤ h0.size) (SC : SS Z h0 wC) (hz : ¬ wC = 0) (hcs : cs.length = 19) (hds : ds.length = 2) (E_a1 : ES Z h0 a1) (F_coder_a1 : GC Z h0 a1 (.int 0)) (F_value_a1 : GV Z h0 a1 (.ref t1)) (V_t1 : Arv Z h0 t1 k1 .byte (2 : Int32) (LB ds) (.int 0)) (V_a2 : Arv Z h0 a2 kd .byte (34 : Int32) (LB cs) (.int 0)) (g_a2 : n0 ≤ a2) (ne_a2_t1 : a2 ≠ t1) (ne_a2_a1 : a2 ≠ a1) :
    MF l mn16 jdk_42_method_147_code 4 none ws (RM 1 0 0 18) #[.ref a1, .ref a2, .int 19, .int 0] Z h0 (QW [a2] none (fun h => Arv Z h a2 kd .byte (34 : Int32) (LB (cs ++ ds)) (.int 0)) h0 n0) := by
  refine MetFree.of_bodySF (plainFor_of_name pn_15) hisR ?_
  intro p e s m args below meth c s₁ Bd hml0 hP hK
  obtain ⟨rfl, hZ, hh⟩ := hP
  have hx := Bd.exec
  have hby := Bd.bytes
  have hml : c.maxLocals = 4 := hml0
  have hown : s.vm.findClass "java/lang/String" = some m.cls := findClass_of_methodNamed Bd.named
  have hnm := (name_of_methodNamed Bd.named Bd.method).1
  have X0 : Stand p l e (RM 1 0 0 18) s m #[.ref a1, .ref a2, .int 19, .int 0] below meth c s₁ [] 0 0 := Stand.of_body Bd
  have e0 : s₁.heap = h0 := by rw [← hh, Bd.state]; rfl
  have N0 := Fr.nil n0
  have pre0 : GO p e below (s₁.setTop (mkF m 0 #[.val (.ref a1), .val (.ref a2), .val (.int 19), .val (.int 0)] [])) (s₁.setTop (entryFrame m #[.ref a1, .ref a2, .int 19, .int 0] 4)) := fun t k => castTop (ef_24 m a1 a2 (19 : Int32) (0 : Int32)) k
  have KK := Keep.refl h0 [a2]
  obtain ⟨cq116, kq116, q116a, q116b, q116c⟩ := isOf hZ e0 E_a1
  obtain ⟨_, _, ⟨T116, _, _, _⟩, -, X116, ⟨_, hQ116, l116, y116, z116⟩, st116⟩ := X0.virtualBack hx (y := mn0) (z := mn0) hown (mvT hZ (ww hw 91 rfl)) (mvT hZ (ww hw 92 rfl)) (notFace_of_selects (args := #[]) (mvT hZ (ww hw 94 rfl))) (mvT hZ (ww hw 94 rfl)) (mvT hZ (ww hw 93 rfl)) (by decide) (backOf (W := 0) (rm15 l Z a0 hw [] a1 wC h0 n0 Z0 SC hz F_coder_a1) hZ (ww hw 95 rfl) (ww hw 2 rfl) (by decide) (by decide)) q116a q116c (g := (mkF m 1 #[.val (.ref a1), .val (.ref a2), .val (.int 19), .val (.int 0)] [.ref a1])) rfl (by rw [hml]; rfl) (Steps.refl _) (argsL := []) (rest := []) (lenOf pd_2 rfl) rfl (wz rfl) (hb hby d24_1) (fun _ _ => ⟨rfl, e0, (by decide : 0 + 0 ≤ _), (by decide : 0 + 0 ≤ _)⟩)
  dsimp only [Pt.U, Pt.locs, Pt.cells, Pt.slots] at X116 l116 y116 z116 st116 hQ116
  rw [l116, y116, z116] at X116
  obtain ⟨rfl, N116q, e116⟩ := hQ116
  have q116 : f15 a1 wC = (0 : Int32) := rfl
  rw [q116] at st116
  have N116 := Fr.app N0 N116q
  obtain ⟨T117, X117, e117, st117⟩ := getF X116 hx hZ hown (host := "") (Or.inl (ww hw 28 rfl)) Via.refl e116 F_value_a1 (g := (mkF m 9 #[.val (.ref a1), .val (.ref a2), .val (.int 19), .val (.int 0)] [.ref a1])) rfl rfl (hb hby d24_9)
  obtain ⟨T118, X118, e118, st118⟩ := getF X117 hx hZ hown (host := "") (Or.inl (ww hw 28 rfl)) Via.refl e117 F_value_a1 (g := (mkF m 18 #[.val (.ref a1), .val (.ref a2), .val (.int 19), .val (.int 0)] [.ref a1, .int 19, .ref a2, .int 0, .ref t1])) rfl rfl (hb hby d24_18)
  obtain ⟨cl119, Ar119, q119, Sz119, Nn119, Hh119, Gg119⟩ := id V_t1
  replace V_a2 := V_a2.pad (pad_rep (LB cs) (.int 0) ((2 : Int32)).toNatClampNeg)
  obtain ⟨T120, h120, L120, X120, e120, N120, K120, Vn120, st120⟩ := cpA X118 hx hZ hown (ww hw 145 rfl) (ww hw 128 rfl) (ww hw 126 rfl) (ww hw 127 rfl) e118 (us := (LB ds)) V_t1 V_a2 (Or.inl ⟨rfl, rfl⟩) (by decide) (by decide) (by decide) (by decide) (by decide) (own_us ((own_lblen ds).trans (show (2 : Int32).toNatClampNeg = List.length ds from by rw [hds]; rfl).symm)) (own_catlen (zm := (2 : Int32)) (show (19 : Int32).toNatClampNeg = List.length cs from by rw [hcs]; rfl)) N116 g_a2 (g := (mkF m 22 #[.val (.ref a1), .val (.ref a2), .val (.int 19), .val (.int 0)] [.int 2, .int 19, .ref a2, .int 0, .ref t1])) rfl (by rw [hml]; rfl) rfl (hb hby d24_22) (by decide) (W := 0) (wz rfl) (by decide)
  replace SC := own_stakeep SC K120 (nsS (Arv.nostat V_a2) ns0)
  replace E_a1 := E_a1.keep K120
  replace F_coder_a1 := F_coder_a1.keep K120 (ninS (Ne.symm ne_a2_a1) nin0)
  replace F_value_a1 := F_value_a1.keep K120 (ninS (Ne.symm ne_a2_a1) nin0)
  replace V_t1 := V_t1.keep K120 (ninS (Ne.symm ne_a2_t1) nin0)
  replace Z0 := Nat.le_trans Z0 K120.1
  replace KK := KK.trans K120 (allS (Or.inl (List.mem_of_getElem? (i := 0) rfl)) all0)
  have V_a2 : Arv Z h120 a2 kd .byte (34 : Int32) (LB (cs ++ ds)) (.int 0) := by rw [own_cat (show (19 : Int32).toNatClampNeg = List.length cs from by rw [hcs]; rfl) (show (2 : Int32).toNatClampNeg = List.length ds from by rw [hds]; rfl)] at Vn120; exact Vn120
  obtain ⟨fs, hr, hrun, hended, hW, hsame⟩ := X120.leave (v := none) (fun _ => rfl)
  refine ⟨_, _, pre0 _ ?_, hrun, hended, _, _, rfl, ?_, ⟨_, rfl⟩, hW, hsame.mono (by decide) (by decide)⟩
  · refine y_aloadN X0 hx hby d24_0 rfl rfl ?_
    refine st116.trans ?_
    show SP p e below T116 (mkF m 4 #[.val (.ref a1), .val (.ref a2), .val (.int 19), .val (.int 0)] [.int 0]) _
    refine y_iloadN X116 hx hby d24_4 rfl ?_
    refine y_icmpNo X116 hx hby d24_5 (teq rfl).2 ?_
    refine y_aloadN X116 hx hby d24_8 rfl rfl ?_
    refine st117 _ ?_
    show SP p e below T117 (mkF m 12 #[.val (.ref a1), .val (.ref a2), .val (.int 19), .val (.int 0)] [.ref t1]) _
    refine y_iconst X117 hx hby (v := (0 : Int32)) d24_12 rfl ?_
    refine y_aloadN X117 hx hby d24_13 rfl rfl ?_
    refine y_iloadN X117 hx hby d24_14 rfl ?_
    refine y_iloadN X117 hx hby d24_15 rfl ?_
    refine y_ishl X117 hx hby d24_16 ?_
    rw [show ((19 : Int32) <<< ((0 : Int32) &&& 31)) = (19 : Int32) from by decide]
    refine y_aloadN X117 hx hby d24_17 rfl rfl ?_
    refine st118 _ ?_
    show SP p e below T118 (mkF m 21 #[.val (.ref a1), .val (.ref a2), .val (.int 19), .val (.int 0)] [.ref t1, .int 19, .ref a2, .int 0, .ref t1]) _
    refine X118.arraylength hx (by rw [e118]; exact Ar119.1) (State.isArrayOf_alike hZ.alike Ar119.2.1) (g := (mkF m 21 #[.val (.ref a1), .val (.ref a2), .val (.int 19), .val (.int 0)] [.ref t1, .int 19, .ref a2, .int 0, .ref t1])) rfl rfl (hb hby d24_21) _ ?_
    rw [len_of Sz119 Nn119]
    show SP p e below T118 (mkF m 22 #[.val (.ref a1), .val (.ref a2), .val (.int 19), .val (.int 0)] [.int 2, .int 19, .ref a2, .int 0, .ref t1]) _
    refine st120 _ ?_
    show SP p e below T120 (mkF m 25 #[.val (.ref a1), .val (.ref a2), .val (.int 19), .val (.int 0)] []) _
    refine y_goto X120 hx hby (pc' := 43) d24_25 (by decide) (by decide) ?_
    show Steps p.tables e below (T120.setTop (mkF m 43 #[.val (.ref a1), .val (.ref a2), .val (.int 19), .val (.int 0)] [])) _
    exact X120.returnOut hx Bd.returns (hb hby d24_43) hr
  · show QW _ _ _ h0 n0 _ T120.heap _
    rw [e120]
    exact ⟨rfl, N120, KK, V_a2⟩
set_option maxRecDepth 65536 in
set_option maxHeartbeats 40000000 in
theorem rm22_19 (l : Launch) (Z : State) (a0 : Array Value) (hw : HW a0 Z) (ws : List Jvm.Cond) (a1 a3 d1 : Addr) (kd : ClassId) (cs : List Int32) (t1 : Addr) (k1 : ClassId) (ds : List Int32) (wC : Int32) (h0 : Heap) (n0 : Nat) (Z0 : n0 ≤ h0.size) (SC : SS Z h0 wC) (hz : ¬ wC = 0) (hcs : cs.length = 19) (hds : ds.length = 2) (E_a1 : EB Z h0 a1) (F_coder_a1 : FC Z h0 a1 (.int 0)) (F_value_a1 : FV Z h0 a1 (.ref d1)) (V_d1 : Arv Z h0 d1 kd .byte (34 : Int32) (LB cs) (.int 0)) (E_a3 : ES Z h0 a3) (F_coder_a3 : GC Z h0 a3 (.int 0)) (F_value_a3 : GV Z h0 a3 (.ref t1)) (V_t1 : Arv Z h0 t1 k1 .byte (2 : Int32) (LB ds) (.int 0)) (g_d1 : n0 ≤ d1) (ne_a1_d1 : a1 ≠ d1) (ne_d1_a3 : d1 ≠ a3) (ne_d1_t1 : d1 ≠ t1) :
    MF l mn17 jdk_68_method_73_code 3 none ws (RM 2 0 0 33) #[.ref a1, .int 19, .ref a3] Z h0 (QW [d1] none (fun h => Arv Z h d1 kd .byte (34 : Int32) (LB (cs ++ ds)) (.int 0)) h0 n0) := by
  refine MetFree.of_bodySF (plainFor_of_name pn_17) hisR ?_
  intro p e s m args below meth c s₁ Bd hml0 hP hK
  obtain ⟨rfl, hZ, hh⟩ := hP
  have hx := Bd.exec
  have hby := Bd.bytes
  have hml : c.maxLocals = 3 := hml0
  have hown : s.vm.findClass "java/lang/AbstractStringBuilder" = some m.cls := findClass_of_methodNamed Bd.named
  have hnm := (name_of_methodNamed Bd.named Bd.method).1
  have X0 : Stand p l e (RM 2 0 0 33) s m #[.ref a1, .int 19, .ref a3] below meth c s₁ [] 0 0 := Stand.of_body Bd
  have e0 : s₁.heap = h0 := by rw [← hh, Bd.state]; rfl
  have N0 := Fr.nil n0
  have pre0 : GO p e below (s₁.setTop (mkF m 0 #[.val (.ref a1), .val (.int 19), .val (.ref a3)] [])) (s₁.setTop (entryFrame m #[.ref a1, .int 19, .ref a3] 3)) := fun t k => castTop (ef_22 m a1 (19 : Int32) a3) k
  have KK := Keep.refl h0 [d1]
  obtain ⟨cq121, q121a, q121b⟩ := Exa.cell E_a1
  obtain ⟨_, _, ⟨T121, _, _, _⟩, -, X121, ⟨_, hQ121, l121, y121, z121⟩, st121⟩ := X0.privateBack hx (y := mn6) hown (mvT hZ (ww hw 134 rfl)) (mvT hZ (ww hw 135 rfl)) (mvT hZ (own_selp (ww hw 136 rfl) (ww hw 135 rfl) (ww hw 137 rfl) (by decide))) (Cond.privateMethod_at (mvP hZ (ww hw 136 rfl) (args := #[]))) (mvT hZ (ww hw 138 rfl)) (by decide) (backOf (W := 0) (rm23 l Z a0 hw [] a1 a3 wC h0 n0 Z0 SC hz F_coder_a1 E_a3 F_coder_a3) hZ (ww hw 138 rfl) (ww hw 65 rfl) (by decide) (by decide)) (g := (mkF m 2 #[.val (.ref a1), .val (.int 19), .val (.ref a3)] [.ref a3, .ref a1])) rfl (by rw [hml]; rfl) (Steps.refl _) (a := a1) (by rw [e0]; exact q121a) q121b (argsL := [.ref a3]) (rest := []) (lenOf pd_8 rfl) rfl (wz rfl) (hb hby d22_2) (fun _ _ => ⟨rfl, e0, (by decide : 0 + 0 ≤ _), (by decide : 0 + 0 ≤ _)⟩)
  dsimp only [Pt.U, Pt.locs, Pt.cells, Pt.slots] at X121 l121 y121 z121 st121 hQ121
  rw [l121, y121, z121] at X121
  obtain ⟨rfl, N121q, e121⟩ := hQ121
  have N121 := Fr.app N0 N121q
  obtain ⟨T122, X122, e122, st122⟩ := getF X121 hx hZ hown (host := "") (Or.inl (ww hw 69 rfl)) Via.refl e121 F_value_a1 (g := (mkF m 7 #[.val (.ref a1), .val (.int 19), .val (.ref a3)] [.ref a1, .ref a3])) rfl rfl (hb hby d22_7)
  obtain ⟨T123, X123, e123, st123⟩ := getF X122 hx hZ hown (host := "") (Or.inl (ww hw 71 rfl)) Via.refl e122 F_coder_a1 (g := (mkF m 12 #[.val (.ref a1), .val (.int 19), .val (.ref a3)] [.ref a1, .int 19, .ref d1, .ref a3])) rfl rfl (hb hby d22_12)
  obtain ⟨cq124, kq124, q124a, q124b, q124c⟩ := isOf hZ e123 E_a3
  obtain ⟨_, _, ⟨T124, _, _, _⟩, -, X124, ⟨_, hQ124, l124, y124, z124⟩, st124⟩ := X123.virtualBack hx (y := mn16) (z := mn16) hown (mvT hZ (ww hw 140 rfl)) (mvT hZ (ww hw 141 rfl)) (notFace_of_selects (args := #[]) (mvT hZ (ww hw 143 rfl))) (mvT hZ (ww hw 143 rfl)) (mvT hZ (ww hw 142 rfl)) (by decide) (backOf (W := 0) (rm24_19 l Z a0 hw [] a3 d1 kd cs t1 k1 ds wC h0 n0 Z0 SC hz hcs hds E_a3 F_coder_a3 F_value_a3 V_t1 V_d1 g_d1 ne_d1_t1 ne_d1_a3) hZ (ww hw 144 rfl) (ww hw 2 rfl) (by decide) (by decide)) q124a q124c (g := (mkF m 15 #[.val (.ref a1), .val (.int 19), .val (.ref a3)] [.int 0, .int 19, .ref d1, .ref a3])) rfl (by rw [hml]; rfl) (Steps.refl _) (argsL := [.ref d1, .int 19, .int 0]) (rest := []) (lenOf pd_9 rfl) rfl (wz rfl) (hb hby d22_15) (fun _ _ => ⟨rfl, e123, (by decide : 0 + 0 ≤ _), (by decide : 0 + 0 ≤ _)⟩)
  dsimp only [Pt.U, Pt.locs, Pt.cells, Pt.slots] at X124 l124 y124 z124 st124 hQ124
  rw [l124, y124, z124] at X124
  obtain ⟨h124, e124⟩ : ∃ z, T124.heap = z := ⟨_, rfl⟩
  rw [e124] at hQ124
  obtain ⟨rfl, N124q, K124, G124_0⟩ := hQ124
  replace SC := own_stakeep SC K124 (nsS (Arv.nostat V_d1) ns0)
  replace E_a1 := E_a1.keep K124
  replace F_coder_a1 := F_coder_a1.keep K124 (ninS ne_a1_d1 nin0)
  replace F_value_a1 := F_value_a1.keep K124 (ninS ne_a1_d1 nin0)
  replace E_a3 := E_a3.keep K124
  replace F_coder_a3 := F_coder_a3.keep K124 (ninS (Ne.symm ne_d1_a3) nin0)
  replace F_value_a3 := F_value_a3.keep K124 (ninS (Ne.symm ne_d1_a3) nin0)
  replace V_t1 := V_t1.keep K124 (ninS (Ne.symm ne_d1_t1) nin0)
  replace Z0 := Nat.le_trans Z0 K124.1
  replace KK := KK.trans K124 (allS (Or.inl (List.mem_of_getElem? (i := 0) rfl)) all0)
  have V_d1 : Arv Z h124 d1 kd .byte (34 : Int32) (LB (cs ++ ds)) (.int 0) := G124_0
  have N124 := Fr.app N121 N124q
  obtain ⟨fs, hr, hrun, hended, hW, hsame⟩ := X124.leave (v := none) (fun _ => rfl)
  refine ⟨_, _, pre0 _ ?_, hrun, hended, _, _, rfl, ?_, ⟨_, rfl⟩, hW, hsame.mono (by decide) (by decide)⟩
  · refine y_aloadN X0 hx hby d22_0 rfl rfl ?_
    refine y_aloadN X0 hx hby d22_1 rfl rfl ?_
    refine st121.trans ?_
    show SP p e below T121 (mkF m 5 #[.val (.ref a1), .val (.int 19), .val (.ref a3)] []) _
    refine y_aloadN X121 hx hby d22_5 rfl rfl ?_
    refine y_aloadN X121 hx hby d22_6 rfl rfl ?_
    refine st122 _ ?_
    show SP p e below T122 (mkF m 10 #[.val (.ref a1), .val (.int 19), .val (.ref a3)] [.ref d1, .ref a3]) _
    refine y_iloadN X122 hx hby d22_10 rfl ?_
    refine y_aloadN X122 hx hby d22_11 rfl rfl ?_
    refine st123 _ ?_
    show SP p e below T123 (mkF m 15 #[.val (.ref a1), .val (.int 19), .val (.ref a3)] [.int 0, .int 19, .ref d1, .ref a3]) _
    refine st124.trans ?_
    show Steps p.tables e below (T124.setTop (mkF m 18 #[.val (.ref a1), .val (.int 19), .val (.ref a3)] [])) _
    exact X124.returnOut hx Bd.returns (hb hby d22_18) hr
  · show QW _ _ _ h0 n0 _ T124.heap _
    rw [e124]
    exact ⟨rfl, N124, KK, V_d1⟩
set_option maxRecDepth 65536 in
set_option maxHeartbeats 40000000 in
theorem rm13_19 (l : Launch) (Z : State) (a0 : Array Value) (hw : HW a0 Z) (ws : List Jvm.Cond) (a1 a2 d1 : Addr) (kd : ClassId) (cs : List Int32) (t1 : Addr) (k1 : ClassId) (ds : List Int32) (wC : Int32) (h0 : Heap) (n0 : Nat) (Z0 : n0 ≤ h0.size) (SC : SS Z h0 wC) (hz : ¬ wC = 0) (hcs : cs.length = 19) (hds : ds.length = 2) (E_a1 : EB Z h0 a1) (F_coder_a1 : FC Z h0 a1 (.int 0)) (F_value_a1 : FV Z h0 a1 (.ref d1)) (F_count_a1 : FN Z h0 a1 (.int 19)) (V_d1 : Arv Z h0 d1 kd .byte (34 : Int32) (LB cs) (.int 0)) (E_a2 : ES Z h0 a2) (F_coder_a2 : GC Z h0 a2 (.int 0)) (F_value_a2 : GV Z h0 a2 (.ref t1)) (V_t1 : Arv Z h0 t1 k1 .byte (2 : Int32) (LB ds) (.int 0)) (g_a1 : n0 ≤ a1) (g_d1 : n0 ≤ d1) (ne_a1_d1 : a1 ≠ d1) (ne_a1_a2 : a1 ≠ a2) (ne_a1_t1 : a1 ≠ t1) (ne_d1_a2 : d1 ≠ a2) (ne_d1_t1 : d1 ≠ t1) :
    MF l mn18 jdk_68_method_22_code 3 (some (.object "java/lang/AbstractStringBuilder")) ws (RM 3 0 0 47) #[.ref a1, .ref a2] Z h0 (QW [a1, d1] (some (.ref a1)) (fun h => FC Z h a1 (.int 0) ∧ FV Z h a1 (.ref d1) ∧ FN Z h a1 (.int 21) ∧ Arv Z h d1 kd .byte (34 : Int32) (LB (cs ++ ds)) (.int 0)) h0 n0) := by
  refine MetFree.of_bodySF (plainFor_of_name pn_17) hisR ?_
  intro p e s m args below meth c s₁ Bd hml0 hP hK
  obtain ⟨rfl, hZ, hh⟩ := hP
  have hx := Bd.exec
  have hby := Bd.bytes
  have hml : c.maxLocals = 3 := hml0
  have hown : s.vm.findClass "java/lang/AbstractStringBuilder" = some m.cls := findClass_of_methodNamed Bd.named
  have hnm := (name_of_methodNamed Bd.named Bd.method).1
  have X0 : Stand p l e (RM 3 0 0 47) s m #[.ref a1, .ref a2] below meth c s₁ [] 0 0 := Stand.of_body Bd
  have e0 : s₁.heap = h0 := by rw [← hh, Bd.state]; rfl
  have N0 := Fr.nil n0
  have pre0 : GO p e below (s₁.setTop (mkF m 0 #[.val (.ref a1), .val (.ref a2), .unset] [])) (s₁.setTop (entryFrame m #[.ref a1, .ref a2] 3)) := fun t k => castTop (ef_13 m a1 a2) k
  have KK := Keep.refl h0 [a1, d1]
  obtain ⟨cq125, kq125, q125a, q125b, q125c⟩ := isOf hZ e0 E_a2
  obtain ⟨_, _, ⟨T125, _, _, _⟩, -, X125, ⟨_, hQ125, l125, y125, z125⟩, st125⟩ := X0.virtualBack hx (y := mn5) (z := mn5) hown (mvT hZ (ww hw 86 rfl)) (mvT hZ (ww hw 87 rfl)) (notFace_of_selects (args := #[]) (mvT hZ (ww hw 89 rfl))) (mvT hZ (ww hw 89 rfl)) (mvT hZ (ww hw 88 rfl)) (by decide) (backOf (W := 0) (rm14_2 l Z a0 hw [] a2 t1 k1 ds wC h0 n0 Z0 SC hz E_a2 F_coder_a2 F_value_a2 V_t1) hZ (ww hw 90 rfl) (ww hw 2 rfl) (by decide) (by decide)) q125a q125c (g := (mkF m 10 #[.val (.ref a1), .val (.ref a2), .unset] [.ref a2])) rfl (by rw [hml]; rfl) (Steps.refl _) (argsL := []) (rest := []) (lenOf pd_3 rfl) rfl (wz rfl) (hb hby d13_10) (fun _ _ => ⟨rfl, e0, (by decide : 0 + 0 ≤ _), (by decide : 0 + 0 ≤ _)⟩)
  dsimp only [Pt.U, Pt.locs, Pt.cells, Pt.slots] at X125 l125 y125 z125 st125 hQ125
  rw [l125, y125, z125] at X125
  obtain ⟨rfl, N125q, e125⟩ := hQ125
  have N125 := Fr.app N0 N125q
  obtain ⟨T126, X126, e126, st126⟩ := getF X125 hx hZ hown (host := "") (Or.inl (ww hw 96 rfl)) Via.refl e125 F_count_a1 (g := (mkF m 16 #[.val (.ref a1), .val (.ref a2), .val (.int 2)] [.ref a1, .ref a1])) rfl rfl (hb hby d13_16)
  obtain ⟨cq127, q127a, q127b⟩ := Exa.cell E_a1
  obtain ⟨_, _, ⟨T127, _, _, _⟩, -, X127, ⟨_, hQ127, l127, y127, z127⟩, st127⟩ := X126.privateBack hx (y := mn15) hown (mvT hZ (ww hw 98 rfl)) (mvT hZ (ww hw 99 rfl)) (mvT hZ (own_selp (ww hw 100 rfl) (ww hw 99 rfl) (ww hw 101 rfl) (by decide))) (Cond.privateMethod_at (mvP hZ (ww hw 100 rfl) (args := #[]))) (mvT hZ (ww hw 102 rfl)) (by decide) (backOf (W := 0) (rm16_k21 l Z a0 hw [] a1 d1 kd cs h0 n0 Z0 F_coder_a1 F_value_a1 V_d1) hZ (ww hw 102 rfl) (ww hw 65 rfl) (by decide) (by decide)) (g := (mkF m 21 #[.val (.ref a1), .val (.ref a2), .val (.int 2)] [.int 21, .ref a1])) rfl (by rw [hml]; rfl) (Steps.refl _) (a := a1) (by rw [e126]; exact q127a) q127b (argsL := [.int 21]) (rest := []) (lenOf pd_10 rfl) rfl (wz rfl) (hb hby d13_21) (fun _ _ => ⟨rfl, e126, (by decide : 0 + 0 ≤ _), (by decide : 0 + 0 ≤ _)⟩)
  dsimp only [Pt.U, Pt.locs, Pt.cells, Pt.slots] at X127 l127 y127 z127 st127 hQ127
  rw [l127, y127, z127] at X127
  obtain ⟨rfl, N127q, e127⟩ := hQ127
  have N127 := Fr.app N125 N127q
  obtain ⟨T128, X128, e128, st128⟩ := getF X127 hx hZ hown (host := "") (Or.inl (ww hw 96 rfl)) Via.refl e127 F_count_a1 (g := (mkF m 26 #[.val (.ref a1), .val (.ref a2), .val (.int 2)] [.ref a1, .ref a1])) rfl rfl (hb hby d13_26)
  obtain ⟨cq129, q129a, q129b⟩ := Exa.cell E_a1
  obtain ⟨_, _, ⟨T129, _, _, _⟩, -, X129, ⟨_, hQ129, l129, y129, z129⟩, st129⟩ := X128.privateBack hx (y := mn17) hown (mvT hZ (ww hw 129 rfl)) (mvT hZ (ww hw 130 rfl)) (mvT hZ (own_selp (ww hw 131 rfl) (ww hw 130 rfl) (ww hw 132 rfl) (by decide))) (Cond.privateMethod_at (mvP hZ (ww hw 131 rfl) (args := #[]))) (mvT hZ (ww hw 133 rfl)) (by decide) (backOf (W := 0) (rm22_19 l Z a0 hw [] a1 a2 d1 kd cs t1 k1 ds wC h0 n0 Z0 SC hz hcs hds E_a1 F_coder_a1 F_value_a1 V_d1 E_a2 F_coder_a2 F_value_a2 V_t1 g_d1 ne_a1_d1 ne_d1_a2 ne_d1_t1) hZ (ww hw 133 rfl) (ww hw 65 rfl) (by decide) (by decide)) (g := (mkF m 30 #[.val (.ref a1), .val (.ref a2), .val (.int 2)] [.ref a2, .int 19, .ref a1])) rfl (by rw [hml]; rfl) (Steps.refl _) (a := a1) (by rw [e128]; exact q129a) q129b (argsL := [.int 19, .ref a2]) (rest := []) (lenOf pd_11 rfl) rfl (wz rfl) (hb hby d13_30) (fun _ _ => ⟨rfl, e128, (by decide : 0 + 0 ≤ _), (by decide : 0 + 0 ≤ _)⟩)
  dsimp only [Pt.U, Pt.locs, Pt.cells, Pt.slots] at X129 l129 y129 z129 st129 hQ129
  rw [l129, y129, z129] at X129
  obtain ⟨h129, e129⟩ : ∃ z, T129.heap = z := ⟨_, rfl⟩
  rw [e129] at hQ129
  obtain ⟨rfl, N129q, K129, G129_0⟩ := hQ129
  replace SC := own_stakeep SC K129 (nsS (Arv.nostat V_d1) ns0)
  replace E_a1 := E_a1.keep K129
  replace F_coder_a1 := F_coder_a1.keep K129 (ninS ne_a1_d1 nin0)
  replace F_value_a1 := F_value_a1.keep K129 (ninS ne_a1_d1 nin0)
  replace F_count_a1 := F_count_a1.keep K129 (ninS ne_a1_d1 nin0)
  replace E_a2 := E_a2.keep K129
  replace F_coder_a2 := F_coder_a2.keep K129 (ninS (Ne.symm ne_d1_a2) nin0)
  replace F_value_a2 := F_value_a2.keep K129 (ninS (Ne.symm ne_d1_a2) nin0)
  replace V_t1 := V_t1.keep K129 (ninS (Ne.symm ne_d1_t1) nin0)
  replace Z0 := Nat.le_trans Z0 K129.1
  replace KK := KK.trans K129 (allS (Or.inl (List.mem_of_getElem? (i := 1) rfl)) all0)
  have V_d1 : Arv Z h129 d1 kd .byte (34 : Int32) (LB (cs ++ ds)) (.int 0) := G129_0
  have N129 := Fr.app N127 N129q
  obtain ⟨T130, X130, e130, st130⟩ := getF X129 hx hZ hown (host := "") (Or.inl (ww hw 96 rfl)) Via.refl e129 F_count_a1 (g := (mkF m 35 #[.val (.ref a1), .val (.ref a2), .val (.int 2)] [.ref a1, .ref a1])) rfl rfl (hb hby d13_35)
  obtain ⟨T131, h131, X131, e131, W131, st131⟩ := putF X130 hx hZ hown (host := "") (Or.inl (ww hw 96 rfl)) Via.refl e130 F_count_a1 E_a1 (Or.inl (ww hw 97 rfl)) (ww hw 56 rfl) (ty := .int) (by decide) rfl rfl (g := (mkF m 40 #[.val (.ref a1), .val (.ref a2), .val (.int 2)] [.int 21, .ref a1])) rfl rfl (hb hby d13_40)
  replace E_a1 := E_a1.wr W131
  replace F_coder_a1 := F_coder_a1.other W131 (Or.inr (slot_ne (Or.inl (ww hw 72 rfl)) (Or.inl (ww hw 97 rfl)) (by decide) (t := .byte) (t' := .int) (by decide) (by decide)))
  replace F_value_a1 := F_value_a1.other W131 (Or.inr (slot_ne (Or.inl (ww hw 70 rfl)) (Or.inl (ww hw 97 rfl)) (by decide) (t := (.array .byte)) (t' := .int) (by decide) (by decide)))
  replace F_count_a1 := F_count_a1.same W131
  replace E_a2 := E_a2.wr W131
  replace F_coder_a2 := F_coder_a2.other W131 (Or.inl (Ne.symm ne_a1_a2))
  replace F_value_a2 := F_value_a2.other W131 (Or.inl (Ne.symm ne_a1_a2))
  replace V_t1 := V_t1.other W131 (Ne.symm ne_a1_t1)
  replace SC := SC.wr W131
  replace V_d1 := V_d1.other W131 (Ne.symm ne_a1_d1)
  replace Z0 := Nat.le_trans Z0 (Keep.of_wr W131).1
  replace KK := KK.wr W131 (Or.inl (List.mem_of_getElem? (i := 0) rfl))
  have N131 := Fr.snoc X131 N129 g_a1
  obtain ⟨fs, hr, hrun, hended, hW, hsame⟩ := X131.leave (v := some (.ref a1)) (fun h => by rw [Bd.returns] at h; cases h)
  refine ⟨_, _, pre0 _ ?_, hrun, hended, _, _, rfl, ?_, ⟨_, rfl⟩, hW, hsame.mono (by decide) (by decide)⟩
  · refine y_aloadN X0 hx hby d13_0 rfl rfl ?_
    refine y_ifnonnullYes X0 hx hby (pc' := 9) d13_1 (by decide) (by decide) ?_
    refine y_aloadN X0 hx hby d13_9 rfl rfl ?_
    refine st125.trans ?_
    show SP p e below T125 (mkF m 13 #[.val (.ref a1), .val (.ref a2), .unset] [.int 2]) _
    refine y_istoreN X125 hx hby d13_13 (l' := #[.val (.ref a1), .val (.ref a2), .val (.int 2)]) rfl ?_
    refine y_aloadN X125 hx hby d13_14 rfl rfl ?_
    refine y_aloadN X125 hx hby d13_15 rfl rfl ?_
    refine st126 _ ?_
    show SP p e below T126 (mkF m 19 #[.val (.ref a1), .val (.ref a2), .val (.int 2)] [.int 19, .ref a1]) _
    refine y_iloadN X126 hx hby d13_19 rfl ?_
    refine y_iadd X126 hx hby d13_20 ?_
    rw [show ((19 : Int32) + (2 : Int32)) = (21 : Int32) from by decide]
    refine st127.trans ?_
    show SP p e below T127 (mkF m 24 #[.val (.ref a1), .val (.ref a2), .val (.int 2)] []) _
    refine y_aloadN X127 hx hby d13_24 rfl rfl ?_
    refine y_aloadN X127 hx hby d13_25 rfl rfl ?_
    refine st128 _ ?_
    show SP p e below T128 (mkF m 29 #[.val (.ref a1), .val (.ref a2), .val (.int 2)] [.int 19, .ref a1]) _
    refine y_aloadN X128 hx hby d13_29 rfl rfl ?_
    refine st129.trans ?_
    show SP p e below T129 (mkF m 33 #[.val (.ref a1), .val (.ref a2), .val (.int 2)] []) _
    refine y_aloadN X129 hx hby d13_33 rfl rfl ?_
    refine y_dup X129 hx hby d13_34 rfl ?_
    refine st130 _ ?_
    show SP p e below T130 (mkF m 38 #[.val (.ref a1), .val (.ref a2), .val (.int 2)] [.int 19, .ref a1]) _
    refine y_iloadN X130 hx hby d13_38 rfl ?_
    refine y_iadd X130 hx hby d13_39 ?_
    rw [show ((19 : Int32) + (2 : Int32)) = (21 : Int32) from by decide]
    refine st131 _ ?_
    show SP p e below T131 (mkF m 43 #[.val (.ref a1), .val (.ref a2), .val (.int 2)] []) _
    refine y_aloadN X131 hx hby d13_43 rfl rfl ?_
    show Steps p.tables e below (T131.setTop (mkF m 44 #[.val (.ref a1), .val (.ref a2), .val (.int 2)] [.ref a1])) _
    jvm_step X131.here [X131.here.top, hx, (hb hby d13_44), X131.method', Bd.returns, Value.isRef, FieldType.isReference]
    first | (intro acts; rw [hr _ acts rfl rfl rfl]) | rw [hr _ _ rfl rfl rfl]
    exact Steps.refl _
  · show QW _ _ _ h0 n0 _ T131.heap _
    rw [e131]
    exact ⟨rfl, N131, KK, F_coder_a1, F_value_a1, F_count_a1, V_d1⟩
set_option maxRecDepth 65536 in
set_option maxHeartbeats 40000000 in
theorem rm12_19 (l : Launch) (Z : State) (a0 : Array Value) (hw : HW a0 Z) (ws : List Jvm.Cond) (a1 a2 d1 : Addr) (kd : ClassId) (cs : List Int32) (t1 : Addr) (k1 : ClassId) (ds : List Int32) (wC : Int32) (h0 : Heap) (n0 : Nat) (Z0 : n0 ≤ h0.size) (SC : SS Z h0 wC) (hz : ¬ wC = 0) (hcs : cs.length = 19) (hds : ds.length = 2) (E_a1 : EB Z h0 a1) (F_coder_a1 : FC Z h0 a1 (.int 0)) (F_value_a1 : FV Z h0 a1 (.ref d1)) (F_count_a1 : FN Z h0 a1 (.int 19)) (V_d1 : Arv Z h0 d1 kd .byte (34 : Int32) (LB cs) (.int 0)) (E_a2 : ES Z h0 a2) (F_coder_a2 : GC Z h0 a2 (.int 0)) (F_value_a2 : GV Z h0 a2 (.ref t1)) (V_t1 : Arv Z h0 t1 k1 .byte (2 : Int32) (LB ds) (.int 0)) (g_a1 : n0 ≤ a1) (g_d1 : n0 ≤ d1) (ne_a1_d1 : a1 ≠ d1) (ne_a1_a2 : a1 ≠ a2) (ne_a1_t1 : a1 ≠ t1) (ne_d1_a2 : d1 ≠ a2) (ne_d1_t1 : d1 ≠ t1) :
    MF l mn19 jdk_67_method_7_code 2 (some (.object "java/lang/StringBuilder")) ws (RM 4 0 0 61) #[.ref a1, .ref a2] Z h0 (QW [a1, d1] (some (.ref a1)) (fun h => FC Z h a1 (.int 0) ∧ FV Z h a1 (.ref d1) ∧ FN Z h a1 (.int 21) ∧ Arv Z h d1 kd .byte (34 : Int32) (LB (cs ++ ds)) (.int 0)) h0 n0) := by
  refine MetFree.of_bodySF (plainFor_of_name pn_32) hisR ?_
  intro p e s m args below meth c s₁ Bd hml0 hP hK
  obtain ⟨rfl, hZ, hh⟩ := hP
  have hx := Bd.exec
  have hby := Bd.bytes
  have hml : c.maxLocals = 2 := hml0
  have hown : s.vm.findClass "java/lang/StringBuilder" = some m.cls := findClass_of_methodNamed Bd.named
  have hnm := (name_of_methodNamed Bd.named Bd.method).1
  have X0 : Stand p l e (RM 4 0 0 61) s m #[.ref a1, .ref a2] below meth c s₁ [] 0 0 := Stand.of_body Bd
  have e0 : s₁.heap = h0 := by rw [← hh, Bd.state]; rfl
  have N0 := Fr.nil n0
  have pre0 : GO p e below (s₁.setTop (mkF m 0 #[.val (.ref a1), .val (.ref a2)] [])) (s₁.setTop (entryFrame m #[.ref a1, .ref a2] 2)) := fun t k => castTop (ef_12 m a1 a2) k
  have KK := Keep.refl h0 [a1, d1]
  obtain ⟨_, _, ⟨T132, _, _, _⟩, -, X132, ⟨_, hQ132, l132, y132, z132⟩, st132⟩ := superBack X0 hx hZ (y := mn18) hown (ww hw 81 rfl) (own_same (ww hw 82 rfl) (ww hw 101 rfl) rfl (by decide)) (ww hw 82 rfl) (ww hw 83 rfl) (by decide) (backOf (W := 0) (rm13_19 l Z a0 hw [] a1 a2 d1 kd cs t1 k1 ds wC h0 n0 Z0 SC hz hcs hds E_a1 F_coder_a1 F_value_a1 F_count_a1 V_d1 E_a2 F_coder_a2 F_value_a2 V_t1 g_a1 g_d1 ne_a1_d1 ne_a1_a2 ne_a1_t1 ne_d1_a2 ne_d1_t1) hZ (ww hw 85 rfl) (ww hw 65 rfl) (by decide) (by decide)) e0 (Ins.self E_a1) (g := (mkF m 2 #[.val (.ref a1), .val (.ref a2)] [.ref a2, .ref a1])) rfl (by rw [hml]; rfl) (ww hw 85 rfl) (argsL := [.ref a2]) (rest := []) (lenOf pd_12 rfl) rfl (wz rfl) (hb hby d12_2) (fun _ _ => ⟨rfl, e0, (by decide : 0 + 0 ≤ _), (by decide : 0 + 0 ≤ _)⟩)
  dsimp only [Pt.U, Pt.locs, Pt.cells, Pt.slots] at X132 l132 y132 z132 st132 hQ132
  rw [l132, y132, z132] at X132
  obtain ⟨h132, e132⟩ : ∃ z, T132.heap = z := ⟨_, rfl⟩
  rw [e132] at hQ132
  obtain ⟨rfl, N132q, K132, G132_0, G132_1, G132_2, G132_3⟩ := hQ132
  replace SC := own_stakeep SC K132 (nsS (Exa.nostat E_a1) (nsS (Arv.nostat V_d1) ns0))
  replace E_a1 := E_a1.keep K132
  replace E_a2 := E_a2.keep K132
  replace F_coder_a2 := F_coder_a2.keep K132 (ninS (Ne.symm ne_a1_a2) (ninS (Ne.symm ne_d1_a2) nin0))
  replace F_value_a2 := F_value_a2.keep K132 (ninS (Ne.symm ne_a1_a2) (ninS (Ne.symm ne_d1_a2) nin0))
  replace V_t1 := V_t1.keep K132 (ninS (Ne.symm ne_a1_t1) (ninS (Ne.symm ne_d1_t1) nin0))
  replace Z0 := Nat.le_trans Z0 K132.1
  replace KK := KK.trans K132 (allS (Or.inl (List.mem_of_getElem? (i := 0) rfl)) (allS (Or.inl (List.mem_of_getElem? (i := 1) rfl)) all0))
  have F_coder_a1 : FC Z h132 a1 (.int 0) := G132_0
  have F_value_a1 : FV Z h132 a1 (.ref d1) := G132_1
  have F_count_a1 : FN Z h132 a1 (.int 21) := G132_2
  have V_d1 : Arv Z h132 d1 kd .byte (34 : Int32) (LB (cs ++ ds)) (.int 0) := G132_3
  have N132 := Fr.app N0 N132q
  obtain ⟨fs, hr, hrun, hended, hW, hsame⟩ := X132.leave (v := some (.ref a1)) (fun h => by rw [Bd.returns] at h; cases h)
  refine ⟨_, _, pre0 _ ?_, hrun, hended, _, _, rfl, ?_, ⟨_, rfl⟩, hW, hsame.mono (by decide) (by decide)⟩
  · refine y_aloadN X0 hx hby d12_0 rfl rfl ?_
    refine y_aloadN X0 hx hby d12_1 rfl rfl ?_
    refine st132.trans ?_
    show SP p e below T132 (mkF m 5 #[.val (.ref a1), .val (.ref a2)] [.ref a1]) _
    refine y_pop X132 hx hby d12_5 rfl ?_
    refine y_aloadN X132 hx hby d12_6 rfl rfl ?_
    show Steps p.tables e below (T132.setTop (mkF m 7 #[.val (.ref a1), .val (.ref a2)] [.ref a1])) _
    jvm_step X132.here [X132.here.top, hx, (hb hby d12_7), X132.method', Bd.returns, Value.isRef, FieldType.isReference]
    first | (intro acts; rw [hr _ acts rfl rfl rfl]) | rw [hr _ _ rfl rfl rfl]
    exact Steps.refl _
  · show QW _ _ _ h0 n0 _ T132.heap _
    rw [e132]
    exact ⟨rfl, N132, KK, F_coder_a1, F_value_a1, F_count_a1, V_d1⟩
set_option maxRecDepth 65536 in
set_option maxHeartbeats 40000000 in
theorem rm24_21 (l : Launch) (Z : State) (a0 : Array Value) (hw : HW a0 Z) (ws : List Jvm.Cond) (a1 a2 : Addr) (kd : ClassId) (cs : List Int32) (t1 : Addr) (k1 : ClassId) (ds : List Int32) (wC : Int32) (h0 : Heap) (n0 : Nat) (Z0 : n0 ≤ h0.size) (SC : SS Z h0 wC) (hz : ¬ wC = 0) (hcs : cs.length = 21) (hds : ds.length = 7) (E_a1 : ES Z h0 a1) (F_coder_a1 : GC Z h0 a1 (.int 0)) (F_value_a1 : GV Z h0 a1 (.ref t1)) (V_t1 : Arv Z h0 t1 k1 .byte (7 : Int32) (LB ds) (.int 0)) (V_a2 : Arv Z h0 a2 kd .byte (34 : Int32) (LB cs) (.int 0)) (g_a2 : n0 ≤ a2) (ne_a2_t1 : a2 ≠ t1) (ne_a2_a1 : a2 ≠ a1) :
    MF l mn16 jdk_42_method_147_code 4 none ws (RM 1 0 0 18) #[.ref a1, .ref a2, .int 21, .int 0] Z h0 (QW [a2] none (fun h => Arv Z h a2 kd .byte (34 : Int32) (LB (cs ++ ds)) (.int 0)) h0 n0) := by
  refine MetFree.of_bodySF (plainFor_of_name pn_15) hisR ?_
  intro p e s m args below meth c s₁ Bd hml0 hP hK
  obtain ⟨rfl, hZ, hh⟩ := hP
  have hx := Bd.exec
  have hby := Bd.bytes
  have hml : c.maxLocals = 4 := hml0
  have hown : s.vm.findClass "java/lang/String" = some m.cls := findClass_of_methodNamed Bd.named
  have hnm := (name_of_methodNamed Bd.named Bd.method).1
  have X0 : Stand p l e (RM 1 0 0 18) s m #[.ref a1, .ref a2, .int 21, .int 0] below meth c s₁ [] 0 0 := Stand.of_body Bd
  have e0 : s₁.heap = h0 := by rw [← hh, Bd.state]; rfl
  have N0 := Fr.nil n0
  have pre0 : GO p e below (s₁.setTop (mkF m 0 #[.val (.ref a1), .val (.ref a2), .val (.int 21), .val (.int 0)] [])) (s₁.setTop (entryFrame m #[.ref a1, .ref a2, .int 21, .int 0] 4)) := fun t k => castTop (ef_24 m a1 a2 (21 : Int32) (0 : Int32)) k
  have KK := Keep.refl h0 [a2]
  obtain ⟨cq133, kq133, q133a, q133b, q133c⟩ := isOf hZ e0 E_a1
  obtain ⟨_, _, ⟨T133, _, _, _⟩, -, X133, ⟨_, hQ133, l133, y133, z133⟩, st133⟩ := X0.virtualBack hx (y := mn0) (z := mn0) hown (mvT hZ (ww hw 91 rfl)) (mvT hZ (ww hw 92 rfl)) (notFace_of_selects (args := #[]) (mvT hZ (ww hw 94 rfl))) (mvT hZ (ww hw 94 rfl)) (mvT hZ (ww hw 93 rfl)) (by decide) (backOf (W := 0) (rm15 l Z a0 hw [] a1 wC h0 n0 Z0 SC hz F_coder_a1) hZ (ww hw 95 rfl) (ww hw 2 rfl) (by decide) (by decide)) q133a q133c (g := (mkF m 1 #[.val (.ref a1), .val (.ref a2), .val (.int 21), .val (.int 0)] [.ref a1])) rfl (by rw [hml]; rfl) (Steps.refl _) (argsL := []) (rest := []) (lenOf pd_2 rfl) rfl (wz rfl) (hb hby d24_1) (fun _ _ => ⟨rfl, e0, (by decide : 0 + 0 ≤ _), (by decide : 0 + 0 ≤ _)⟩)
  dsimp only [Pt.U, Pt.locs, Pt.cells, Pt.slots] at X133 l133 y133 z133 st133 hQ133
  rw [l133, y133, z133] at X133
  obtain ⟨rfl, N133q, e133⟩ := hQ133
  have q133 : f15 a1 wC = (0 : Int32) := rfl
  rw [q133] at st133
  have N133 := Fr.app N0 N133q
  obtain ⟨T134, X134, e134, st134⟩ := getF X133 hx hZ hown (host := "") (Or.inl (ww hw 28 rfl)) Via.refl e133 F_value_a1 (g := (mkF m 9 #[.val (.ref a1), .val (.ref a2), .val (.int 21), .val (.int 0)] [.ref a1])) rfl rfl (hb hby d24_9)
  obtain ⟨T135, X135, e135, st135⟩ := getF X134 hx hZ hown (host := "") (Or.inl (ww hw 28 rfl)) Via.refl e134 F_value_a1 (g := (mkF m 18 #[.val (.ref a1), .val (.ref a2), .val (.int 21), .val (.int 0)] [.ref a1, .int 21, .ref a2, .int 0, .ref t1])) rfl rfl (hb hby d24_18)
  obtain ⟨cl136, Ar136, q136, Sz136, Nn136, Hh136, Gg136⟩ := id V_t1
  replace V_a2 := V_a2.pad (pad_rep (LB cs) (.int 0) ((7 : Int32)).toNatClampNeg)
  obtain ⟨T137, h137, L137, X137, e137, N137, K137, Vn137, st137⟩ := cpA X135 hx hZ hown (ww hw 145 rfl) (ww hw 128 rfl) (ww hw 126 rfl) (ww hw 127 rfl) e135 (us := (LB ds)) V_t1 V_a2 (Or.inl ⟨rfl, rfl⟩) (by decide) (by decide) (by decide) (by decide) (by decide) (own_us ((own_lblen ds).trans (show (7 : Int32).toNatClampNeg = List.length ds from by rw [hds]; rfl).symm)) (own_catlen (zm := (7 : Int32)) (show (21 : Int32).toNatClampNeg = List.length cs from by rw [hcs]; rfl)) N133 g_a2 (g := (mkF m 22 #[.val (.ref a1), .val (.ref a2), .val (.int 21), .val (.int 0)] [.int 7, .int 21, .ref a2, .int 0, .ref t1])) rfl (by rw [hml]; rfl) rfl (hb hby d24_22) (by decide) (W := 0) (wz rfl) (by decide)
  replace SC := own_stakeep SC K137 (nsS (Arv.nostat V_a2) ns0)
  replace E_a1 := E_a1.keep K137
  replace F_coder_a1 := F_coder_a1.keep K137 (ninS (Ne.symm ne_a2_a1) nin0)
  replace F_value_a1 := F_value_a1.keep K137 (ninS (Ne.symm ne_a2_a1) nin0)
  replace V_t1 := V_t1.keep K137 (ninS (Ne.symm ne_a2_t1) nin0)
  replace Z0 := Nat.le_trans Z0 K137.1
  replace KK := KK.trans K137 (allS (Or.inl (List.mem_of_getElem? (i := 0) rfl)) all0)
  have V_a2 : Arv Z h137 a2 kd .byte (34 : Int32) (LB (cs ++ ds)) (.int 0) := by rw [own_cat (show (21 : Int32).toNatClampNeg = List.length cs from by rw [hcs]; rfl) (show (7 : Int32).toNatClampNeg = List.length ds from by rw [hds]; rfl)] at Vn137; exact Vn137
  obtain ⟨fs, hr, hrun, hended, hW, hsame⟩ := X137.leave (v := none) (fun _ => rfl)
  refine ⟨_, _, pre0 _ ?_, hrun, hended, _, _, rfl, ?_, ⟨_, rfl⟩, hW, hsame.mono (by decide) (by decide)⟩
  · refine y_aloadN X0 hx hby d24_0 rfl rfl ?_
    refine st133.trans ?_
    show SP p e below T133 (mkF m 4 #[.val (.ref a1), .val (.ref a2), .val (.int 21), .val (.int 0)] [.int 0]) _
    refine y_iloadN X133 hx hby d24_4 rfl ?_
    refine y_icmpNo X133 hx hby d24_5 (teq rfl).2 ?_
    refine y_aloadN X133 hx hby d24_8 rfl rfl ?_
    refine st134 _ ?_
    show SP p e below T134 (mkF m 12 #[.val (.ref a1), .val (.ref a2), .val (.int 21), .val (.int 0)] [.ref t1]) _
    refine y_iconst X134 hx hby (v := (0 : Int32)) d24_12 rfl ?_
    refine y_aloadN X134 hx hby d24_13 rfl rfl ?_
    refine y_iloadN X134 hx hby d24_14 rfl ?_
    refine y_iloadN X134 hx hby d24_15 rfl ?_
    refine y_ishl X134 hx hby d24_16 ?_
    rw [show ((21 : Int32) <<< ((0 : Int32) &&& 31)) = (21 : Int32) from by decide]
    refine y_aloadN X134 hx hby d24_17 rfl rfl ?_
    refine st135 _ ?_
    show SP p e below T135 (mkF m 21 #[.val (.ref a1), .val (.ref a2), .val (.int 21), .val (.int 0)] [.ref t1, .int 21, .ref a2, .int 0, .ref t1]) _
    refine X135.arraylength hx (by rw [e135]; exact Ar136.1) (State.isArrayOf_alike hZ.alike Ar136.2.1) (g := (mkF m 21 #[.val (.ref a1), .val (.ref a2), .val (.int 21), .val (.int 0)] [.ref t1, .int 21, .ref a2, .int 0, .ref t1])) rfl rfl (hb hby d24_21) _ ?_
    rw [len_of Sz136 Nn136]
    show SP p e below T135 (mkF m 22 #[.val (.ref a1), .val (.ref a2), .val (.int 21), .val (.int 0)] [.int 7, .int 21, .ref a2, .int 0, .ref t1]) _
    refine st137 _ ?_
    show SP p e below T137 (mkF m 25 #[.val (.ref a1), .val (.ref a2), .val (.int 21), .val (.int 0)] []) _
    refine y_goto X137 hx hby (pc' := 43) d24_25 (by decide) (by decide) ?_
    show Steps p.tables e below (T137.setTop (mkF m 43 #[.val (.ref a1), .val (.ref a2), .val (.int 21), .val (.int 0)] [])) _
    exact X137.returnOut hx Bd.returns (hb hby d24_43) hr
  · show QW _ _ _ h0 n0 _ T137.heap _
    rw [e137]
    exact ⟨rfl, N137, KK, V_a2⟩
set_option maxRecDepth 65536 in
set_option maxHeartbeats 40000000 in
theorem rm22_21 (l : Launch) (Z : State) (a0 : Array Value) (hw : HW a0 Z) (ws : List Jvm.Cond) (a1 a3 d1 : Addr) (kd : ClassId) (cs : List Int32) (t1 : Addr) (k1 : ClassId) (ds : List Int32) (wC : Int32) (h0 : Heap) (n0 : Nat) (Z0 : n0 ≤ h0.size) (SC : SS Z h0 wC) (hz : ¬ wC = 0) (hcs : cs.length = 21) (hds : ds.length = 7) (E_a1 : EB Z h0 a1) (F_coder_a1 : FC Z h0 a1 (.int 0)) (F_value_a1 : FV Z h0 a1 (.ref d1)) (V_d1 : Arv Z h0 d1 kd .byte (34 : Int32) (LB cs) (.int 0)) (E_a3 : ES Z h0 a3) (F_coder_a3 : GC Z h0 a3 (.int 0)) (F_value_a3 : GV Z h0 a3 (.ref t1)) (V_t1 : Arv Z h0 t1 k1 .byte (7 : Int32) (LB ds) (.int 0)) (g_d1 : n0 ≤ d1) (ne_a1_d1 : a1 ≠ d1) (ne_d1_a3 : d1 ≠ a3) (ne_d1_t1 : d1 ≠ t1) :
    MF l mn17 jdk_68_method_73_code 3 none ws (RM 2 0 0 33) #[.ref a1, .int 21, .ref a3] Z h0 (QW [d1] none (fun h => Arv Z h d1 kd .byte (34 : Int32) (LB (cs ++ ds)) (.int 0)) h0 n0) := by
  refine MetFree.of_bodySF (plainFor_of_name pn_17) hisR ?_
  intro p e s m args below meth c s₁ Bd hml0 hP hK
  obtain ⟨rfl, hZ, hh⟩ := hP
  have hx := Bd.exec
  have hby := Bd.bytes
  have hml : c.maxLocals = 3 := hml0
  have hown : s.vm.findClass "java/lang/AbstractStringBuilder" = some m.cls := findClass_of_methodNamed Bd.named
  have hnm := (name_of_methodNamed Bd.named Bd.method).1
  have X0 : Stand p l e (RM 2 0 0 33) s m #[.ref a1, .int 21, .ref a3] below meth c s₁ [] 0 0 := Stand.of_body Bd
  have e0 : s₁.heap = h0 := by rw [← hh, Bd.state]; rfl
  have N0 := Fr.nil n0
  have pre0 : GO p e below (s₁.setTop (mkF m 0 #[.val (.ref a1), .val (.int 21), .val (.ref a3)] [])) (s₁.setTop (entryFrame m #[.ref a1, .int 21, .ref a3] 3)) := fun t k => castTop (ef_22 m a1 (21 : Int32) a3) k
  have KK := Keep.refl h0 [d1]
  obtain ⟨cq138, q138a, q138b⟩ := Exa.cell E_a1
  obtain ⟨_, _, ⟨T138, _, _, _⟩, -, X138, ⟨_, hQ138, l138, y138, z138⟩, st138⟩ := X0.privateBack hx (y := mn6) hown (mvT hZ (ww hw 134 rfl)) (mvT hZ (ww hw 135 rfl)) (mvT hZ (own_selp (ww hw 136 rfl) (ww hw 135 rfl) (ww hw 137 rfl) (by decide))) (Cond.privateMethod_at (mvP hZ (ww hw 136 rfl) (args := #[]))) (mvT hZ (ww hw 138 rfl)) (by decide) (backOf (W := 0) (rm23 l Z a0 hw [] a1 a3 wC h0 n0 Z0 SC hz F_coder_a1 E_a3 F_coder_a3) hZ (ww hw 138 rfl) (ww hw 65 rfl) (by decide) (by decide)) (g := (mkF m 2 #[.val (.ref a1), .val (.int 21), .val (.ref a3)] [.ref a3, .ref a1])) rfl (by rw [hml]; rfl) (Steps.refl _) (a := a1) (by rw [e0]; exact q138a) q138b (argsL := [.ref a3]) (rest := []) (lenOf pd_8 rfl) rfl (wz rfl) (hb hby d22_2) (fun _ _ => ⟨rfl, e0, (by decide : 0 + 0 ≤ _), (by decide : 0 + 0 ≤ _)⟩)
  dsimp only [Pt.U, Pt.locs, Pt.cells, Pt.slots] at X138 l138 y138 z138 st138 hQ138
  rw [l138, y138, z138] at X138
  obtain ⟨rfl, N138q, e138⟩ := hQ138
  have N138 := Fr.app N0 N138q
  obtain ⟨T139, X139, e139, st139⟩ := getF X138 hx hZ hown (host := "") (Or.inl (ww hw 69 rfl)) Via.refl e138 F_value_a1 (g := (mkF m 7 #[.val (.ref a1), .val (.int 21), .val (.ref a3)] [.ref a1, .ref a3])) rfl rfl (hb hby d22_7)
  obtain ⟨T140, X140, e140, st140⟩ := getF X139 hx hZ hown (host := "") (Or.inl (ww hw 71 rfl)) Via.refl e139 F_coder_a1 (g := (mkF m 12 #[.val (.ref a1), .val (.int 21), .val (.ref a3)] [.ref a1, .int 21, .ref d1, .ref a3])) rfl rfl (hb hby d22_12)
  obtain ⟨cq141, kq141, q141a, q141b, q141c⟩ := isOf hZ e140 E_a3
  obtain ⟨_, _, ⟨T141, _, _, _⟩, -, X141, ⟨_, hQ141, l141, y141, z141⟩, st141⟩ := X140.virtualBack hx (y := mn16) (z := mn16) hown (mvT hZ (ww hw 140 rfl)) (mvT hZ (ww hw 141 rfl)) (notFace_of_selects (args := #[]) (mvT hZ (ww hw 143 rfl))) (mvT hZ (ww hw 143 rfl)) (mvT hZ (ww hw 142 rfl)) (by decide) (backOf (W := 0) (rm24_21 l Z a0 hw [] a3 d1 kd cs t1 k1 ds wC h0 n0 Z0 SC hz hcs hds E_a3 F_coder_a3 F_value_a3 V_t1 V_d1 g_d1 ne_d1_t1 ne_d1_a3) hZ (ww hw 144 rfl) (ww hw 2 rfl) (by decide) (by decide)) q141a q141c (g := (mkF m 15 #[.val (.ref a1), .val (.int 21), .val (.ref a3)] [.int 0, .int 21, .ref d1, .ref a3])) rfl (by rw [hml]; rfl) (Steps.refl _) (argsL := [.ref d1, .int 21, .int 0]) (rest := []) (lenOf pd_9 rfl) rfl (wz rfl) (hb hby d22_15) (fun _ _ => ⟨rfl, e140, (by decide : 0 + 0 ≤ _), (by decide : 0 + 0 ≤ _)⟩)
  dsimp only [Pt.U, Pt.locs, Pt.cells, Pt.slots] at X141 l141 y141 z141 st141 hQ141
  rw [l141, y141, z141] at X141
  obtain ⟨h141, e141⟩ : ∃ z, T141.heap = z := ⟨_, rfl⟩
  rw [e141] at hQ141
  obtain ⟨rfl, N141q, K141, G141_0⟩ := hQ141
  replace SC := own_stakeep SC K141 (nsS (Arv.nostat V_d1) ns0)
  replace E_a1 := E_a1.keep K141
  replace F_coder_a1 := F_coder_a1.keep K141 (ninS ne_a1_d1 nin0)
  replace F_value_a1 := F_value_a1.keep K141 (ninS ne_a1_d1 nin0)
  replace E_a3 := E_a3.keep K141
  replace F_coder_a3 := F_coder_a3.keep K141 (ninS (Ne.symm ne_d1_a3) nin0)
  replace F_value_a3 := F_value_a3.keep K141 (ninS (Ne.symm ne_d1_a3) nin0)
  replace V_t1 := V_t1.keep K141 (ninS (Ne.symm ne_d1_t1) nin0)
  replace Z0 := Nat.le_trans Z0 K141.1
  replace KK := KK.trans K141 (allS (Or.inl (List.mem_of_getElem? (i := 0) rfl)) all0)
  have V_d1 : Arv Z h141 d1 kd .byte (34 : Int32) (LB (cs ++ ds)) (.int 0) := G141_0
  have N141 := Fr.app N138 N141q
  obtain ⟨fs, hr, hrun, hended, hW, hsame⟩ := X141.leave (v := none) (fun _ => rfl)
  refine ⟨_, _, pre0 _ ?_, hrun, hended, _, _, rfl, ?_, ⟨_, rfl⟩, hW, hsame.mono (by decide) (by decide)⟩
  · refine y_aloadN X0 hx hby d22_0 rfl rfl ?_
    refine y_aloadN X0 hx hby d22_1 rfl rfl ?_
    refine st138.trans ?_
    show SP p e below T138 (mkF m 5 #[.val (.ref a1), .val (.int 21), .val (.ref a3)] []) _
    refine y_aloadN X138 hx hby d22_5 rfl rfl ?_
    refine y_aloadN X138 hx hby d22_6 rfl rfl ?_
    refine st139 _ ?_
    show SP p e below T139 (mkF m 10 #[.val (.ref a1), .val (.int 21), .val (.ref a3)] [.ref d1, .ref a3]) _
    refine y_iloadN X139 hx hby d22_10 rfl ?_
    refine y_aloadN X139 hx hby d22_11 rfl rfl ?_
    refine st140 _ ?_
    show SP p e below T140 (mkF m 15 #[.val (.ref a1), .val (.int 21), .val (.ref a3)] [.int 0, .int 21, .ref d1, .ref a3]) _
    refine st141.trans ?_
    show Steps p.tables e below (T141.setTop (mkF m 18 #[.val (.ref a1), .val (.int 21), .val (.ref a3)] [])) _
    exact X141.returnOut hx Bd.returns (hb hby d22_18) hr
  · show QW _ _ _ h0 n0 _ T141.heap _
    rw [e141]
    exact ⟨rfl, N141, KK, V_d1⟩
set_option maxRecDepth 65536 in
set_option maxHeartbeats 40000000 in
theorem rm13_21 (l : Launch) (Z : State) (a0 : Array Value) (hw : HW a0 Z) (ws : List Jvm.Cond) (a1 a2 d1 : Addr) (kd : ClassId) (cs : List Int32) (t1 : Addr) (k1 : ClassId) (ds : List Int32) (wC : Int32) (h0 : Heap) (n0 : Nat) (Z0 : n0 ≤ h0.size) (SC : SS Z h0 wC) (hz : ¬ wC = 0) (hcs : cs.length = 21) (hds : ds.length = 7) (E_a1 : EB Z h0 a1) (F_coder_a1 : FC Z h0 a1 (.int 0)) (F_value_a1 : FV Z h0 a1 (.ref d1)) (F_count_a1 : FN Z h0 a1 (.int 21)) (V_d1 : Arv Z h0 d1 kd .byte (34 : Int32) (LB cs) (.int 0)) (E_a2 : ES Z h0 a2) (F_coder_a2 : GC Z h0 a2 (.int 0)) (F_value_a2 : GV Z h0 a2 (.ref t1)) (V_t1 : Arv Z h0 t1 k1 .byte (7 : Int32) (LB ds) (.int 0)) (g_a1 : n0 ≤ a1) (g_d1 : n0 ≤ d1) (ne_a1_d1 : a1 ≠ d1) (ne_a1_a2 : a1 ≠ a2) (ne_a1_t1 : a1 ≠ t1) (ne_d1_a2 : d1 ≠ a2) (ne_d1_t1 : d1 ≠ t1) :
    MF l mn18 jdk_68_method_22_code 3 (some (.object "java/lang/AbstractStringBuilder")) ws (RM 3 0 0 47) #[.ref a1, .ref a2] Z h0 (QW [a1, d1] (some (.ref a1)) (fun h => FC Z h a1 (.int 0) ∧ FV Z h a1 (.ref d1) ∧ FN Z h a1 (.int 28) ∧ Arv Z h d1 kd .byte (34 : Int32) (LB (cs ++ ds)) (.int 0)) h0 n0) := by
  refine MetFree.of_bodySF (plainFor_of_name pn_17) hisR ?_
  intro p e s m args below meth c s₁ Bd hml0 hP hK
  obtain ⟨rfl, hZ, hh⟩ := hP
  have hx := Bd.exec
  have hby := Bd.bytes
  have hml : c.maxLocals = 3 := hml0
  have hown : s.vm.findClass "java/lang/AbstractStringBuilder" = some m.cls := findClass_of_methodNamed Bd.named
  have hnm := (name_of_methodNamed Bd.named Bd.method).1
  have X0 : Stand p l e (RM 3 0 0 47) s m #[.ref a1, .ref a2] below meth c s₁ [] 0 0 := Stand.of_body Bd
  have e0 : s₁.heap = h0 := by rw [← hh, Bd.state]; rfl
  have N0 := Fr.nil n0
  have pre0 : GO p e below (s₁.setTop (mkF m 0 #[.val (.ref a1), .val (.ref a2), .unset] [])) (s₁.setTop (entryFrame m #[.ref a1, .ref a2] 3)) := fun t k => castTop (ef_13 m a1 a2) k
  have KK := Keep.refl h0 [a1, d1]
  obtain ⟨cq142, kq142, q142a, q142b, q142c⟩ := isOf hZ e0 E_a2
  obtain ⟨_, _, ⟨T142, _, _, _⟩, -, X142, ⟨_, hQ142, l142, y142, z142⟩, st142⟩ := X0.virtualBack hx (y := mn5) (z := mn5) hown (mvT hZ (ww hw 86 rfl)) (mvT hZ (ww hw 87 rfl)) (notFace_of_selects (args := #[]) (mvT hZ (ww hw 89 rfl))) (mvT hZ (ww hw 89 rfl)) (mvT hZ (ww hw 88 rfl)) (by decide) (backOf (W := 0) (rm14_7 l Z a0 hw [] a2 t1 k1 ds wC h0 n0 Z0 SC hz E_a2 F_coder_a2 F_value_a2 V_t1) hZ (ww hw 90 rfl) (ww hw 2 rfl) (by decide) (by decide)) q142a q142c (g := (mkF m 10 #[.val (.ref a1), .val (.ref a2), .unset] [.ref a2])) rfl (by rw [hml]; rfl) (Steps.refl _) (argsL := []) (rest := []) (lenOf pd_3 rfl) rfl (wz rfl) (hb hby d13_10) (fun _ _ => ⟨rfl, e0, (by decide : 0 + 0 ≤ _), (by decide : 0 + 0 ≤ _)⟩)
  dsimp only [Pt.U, Pt.locs, Pt.cells, Pt.slots] at X142 l142 y142 z142 st142 hQ142
  rw [l142, y142, z142] at X142
  obtain ⟨rfl, N142q, e142⟩ := hQ142
  have N142 := Fr.app N0 N142q
  obtain ⟨T143, X143, e143, st143⟩ := getF X142 hx hZ hown (host := "") (Or.inl (ww hw 96 rfl)) Via.refl e142 F_count_a1 (g := (mkF m 16 #[.val (.ref a1), .val (.ref a2), .val (.int 7)] [.ref a1, .ref a1])) rfl rfl (hb hby d13_16)
  obtain ⟨cq144, q144a, q144b⟩ := Exa.cell E_a1
  obtain ⟨_, _, ⟨T144, _, _, _⟩, -, X144, ⟨_, hQ144, l144, y144, z144⟩, st144⟩ := X143.privateBack hx (y := mn15) hown (mvT hZ (ww hw 98 rfl)) (mvT hZ (ww hw 99 rfl)) (mvT hZ (own_selp (ww hw 100 rfl) (ww hw 99 rfl) (ww hw 101 rfl) (by decide))) (Cond.privateMethod_at (mvP hZ (ww hw 100 rfl) (args := #[]))) (mvT hZ (ww hw 102 rfl)) (by decide) (backOf (W := 0) (rm16_k28 l Z a0 hw [] a1 d1 kd cs h0 n0 Z0 F_coder_a1 F_value_a1 V_d1) hZ (ww hw 102 rfl) (ww hw 65 rfl) (by decide) (by decide)) (g := (mkF m 21 #[.val (.ref a1), .val (.ref a2), .val (.int 7)] [.int 28, .ref a1])) rfl (by rw [hml]; rfl) (Steps.refl _) (a := a1) (by rw [e143]; exact q144a) q144b (argsL := [.int 28]) (rest := []) (lenOf pd_10 rfl) rfl (wz rfl) (hb hby d13_21) (fun _ _ => ⟨rfl, e143, (by decide : 0 + 0 ≤ _), (by decide : 0 + 0 ≤ _)⟩)
  dsimp only [Pt.U, Pt.locs, Pt.cells, Pt.slots] at X144 l144 y144 z144 st144 hQ144
  rw [l144, y144, z144] at X144
  obtain ⟨rfl, N144q, e144⟩ := hQ144
  have N144 := Fr.app N142 N144q
  obtain ⟨T145, X145, e145, st145⟩ := getF X144 hx hZ hown (host := "") (Or.inl (ww hw 96 rfl)) Via.refl e144 F_count_a1 (g := (mkF m 26 #[.val (.ref a1), .val (.ref a2), .val (.int 7)] [.ref a1, .ref a1])) rfl rfl (hb hby d13_26)
  obtain ⟨cq146, q146a, q146b⟩ := Exa.cell E_a1
  obtain ⟨_, _, ⟨T146, _, _, _⟩, -, X146, ⟨_, hQ146, l146, y146, z146⟩, st146⟩ := X145.privateBack hx (y := mn17) hown (mvT hZ (ww hw 129 rfl)) (mvT hZ (ww hw 130 rfl)) (mvT hZ (own_selp (ww hw 131 rfl) (ww hw 130 rfl) (ww hw 132 rfl) (by decide))) (Cond.privateMethod_at (mvP hZ (ww hw 131 rfl) (args := #[]))) (mvT hZ (ww hw 133 rfl)) (by decide) (backOf (W := 0) (rm22_21 l Z a0 hw [] a1 a2 d1 kd cs t1 k1 ds wC h0 n0 Z0 SC hz hcs hds E_a1 F_coder_a1 F_value_a1 V_d1 E_a2 F_coder_a2 F_value_a2 V_t1 g_d1 ne_a1_d1 ne_d1_a2 ne_d1_t1) hZ (ww hw 133 rfl) (ww hw 65 rfl) (by decide) (by decide)) (g := (mkF m 30 #[.val (.ref a1), .val (.ref a2), .val (.int 7)] [.ref a2, .int 21, .ref a1])) rfl (by rw [hml]; rfl) (Steps.refl _) (a := a1) (by rw [e145]; exact q146a) q146b (argsL := [.int 21, .ref a2]) (rest := []) (lenOf pd_11 rfl) rfl (wz rfl) (hb hby d13_30) (fun _ _ => ⟨rfl, e145, (by decide : 0 + 0 ≤ _), (by decide : 0 + 0 ≤ _)⟩)
  dsimp only [Pt.U, Pt.locs, Pt.cells, Pt.slots] at X146 l146 y146 z146 st146 hQ146
  rw [l146, y146, z146] at X146
  obtain ⟨h146, e146⟩ : ∃ z, T146.heap = z := ⟨_, rfl⟩
  rw [e146] at hQ146
  obtain ⟨rfl, N146q, K146, G146_0⟩ := hQ146
  replace SC := own_stakeep SC K146 (nsS (Arv.nostat V_d1) ns0)
  replace E_a1 := E_a1.keep K146
  replace F_coder_a1 := F_coder_a1.keep K146 (ninS ne_a1_d1 nin0)
  replace F_value_a1 := F_value_a1.keep K146 (ninS ne_a1_d1 nin0)
  replace F_count_a1 := F_count_a1.keep K146 (ninS ne_a1_d1 nin0)
  replace E_a2 := E_a2.keep K146
  replace F_coder_a2 := F_coder_a2.keep K146 (ninS (Ne.symm ne_d1_a2) nin0)
  replace F_value_a2 := F_value_a2.keep K146 (ninS (Ne.symm ne_d1_a2) nin0)
  replace V_t1 := V_t1.keep K146 (ninS (Ne.symm ne_d1_t1) nin0)
  replace Z0 := Nat.le_trans Z0 K146.1
  replace KK := KK.trans K146 (allS (Or.inl (List.mem_of_getElem? (i := 1) rfl)) all0)
  have V_d1 : Arv Z h146 d1 kd .byte (34 : Int32) (LB (cs ++ ds)) (.int 0) := G146_0
  have N146 := Fr.app N144 N146q
  obtain ⟨T147, X147, e147, st147⟩ := getF X146 hx hZ hown (host := "") (Or.inl (ww hw 96 rfl)) Via.refl e146 F_count_a1 (g := (mkF m 35 #[.val (.ref a1), .val (.ref a2), .val (.int 7)] [.ref a1, .ref a1])) rfl rfl (hb hby d13_35)
  obtain ⟨T148, h148, X148, e148, W148, st148⟩ := putF X147 hx hZ hown (host := "") (Or.inl (ww hw 96 rfl)) Via.refl e147 F_count_a1 E_a1 (Or.inl (ww hw 97 rfl)) (ww hw 56 rfl) (ty := .int) (by decide) rfl rfl (g := (mkF m 40 #[.val (.ref a1), .val (.ref a2), .val (.int 7)] [.int 28, .ref a1])) rfl rfl (hb hby d13_40)
  replace E_a1 := E_a1.wr W148
  replace F_coder_a1 := F_coder_a1.other W148 (Or.inr (slot_ne (Or.inl (ww hw 72 rfl)) (Or.inl (ww hw 97 rfl)) (by decide) (t := .byte) (t' := .int) (by decide) (by decide)))
  replace F_value_a1 := F_value_a1.other W148 (Or.inr (slot_ne (Or.inl (ww hw 70 rfl)) (Or.inl (ww hw 97 rfl)) (by decide) (t := (.array .byte)) (t' := .int) (by decide) (by decide)))
  replace F_count_a1 := F_count_a1.same W148
  replace E_a2 := E_a2.wr W148
  replace F_coder_a2 := F_coder_a2.other W148 (Or.inl (Ne.symm ne_a1_a2))
  replace F_value_a2 := F_value_a2.other W148 (Or.inl (Ne.symm ne_a1_a2))
  replace V_t1 := V_t1.other W148 (Ne.symm ne_a1_t1)
  replace SC := SC.wr W148
  replace V_d1 := V_d1.other W148 (Ne.symm ne_a1_d1)
  replace Z0 := Nat.le_trans Z0 (Keep.of_wr W148).1
  replace KK := KK.wr W148 (Or.inl (List.mem_of_getElem? (i := 0) rfl))
  have N148 := Fr.snoc X148 N146 g_a1
  obtain ⟨fs, hr, hrun, hended, hW, hsame⟩ := X148.leave (v := some (.ref a1)) (fun h => by rw [Bd.returns] at h; cases h)
  refine ⟨_, _, pre0 _ ?_, hrun, hended, _, _, rfl, ?_, ⟨_, rfl⟩, hW, hsame.mono (by decide) (by decide)⟩
  · refine y_aloadN X0 hx hby d13_0 rfl rfl ?_
    refine y_ifnonnullYes X0 hx hby (pc' := 9) d13_1 (by decide) (by decide) ?_
    refine y_aloadN X0 hx hby d13_9 rfl rfl ?_
    refine st142.trans ?_
    show SP p e below T142 (mkF m 13 #[.val (.ref a1), .val (.ref a2), .unset] [.int 7]) _
    refine y_istoreN X142 hx hby d13_13 (l' := #[.val (.ref a1), .val (.ref a2), .val (.int 7)]) rfl ?_
    refine y_aloadN X142 hx hby d13_14 rfl rfl ?_
    refine y_aloadN X142 hx hby d13_15 rfl rfl ?_
    refine st143 _ ?_
    show SP p e below T143 (mkF m 19 #[.val (.ref a1), .val (.ref a2), .val (.int 7)] [.int 21, .ref a1]) _
    refine y_iloadN X143 hx hby d13_19 rfl ?_
    refine y_iadd X143 hx hby d13_20 ?_
    rw [show ((21 : Int32) + (7 : Int32)) = (28 : Int32) from by decide]
    refine st144.trans ?_
    show SP p e below T144 (mkF m 24 #[.val (.ref a1), .val (.ref a2), .val (.int 7)] []) _
    refine y_aloadN X144 hx hby d13_24 rfl rfl ?_
    refine y_aloadN X144 hx hby d13_25 rfl rfl ?_
    refine st145 _ ?_
    show SP p e below T145 (mkF m 29 #[.val (.ref a1), .val (.ref a2), .val (.int 7)] [.int 21, .ref a1]) _
    refine y_aloadN X145 hx hby d13_29 rfl rfl ?_
    refine st146.trans ?_
    show SP p e below T146 (mkF m 33 #[.val (.ref a1), .val (.ref a2), .val (.int 7)] []) _
    refine y_aloadN X146 hx hby d13_33 rfl rfl ?_
    refine y_dup X146 hx hby d13_34 rfl ?_
    refine st147 _ ?_
    show SP p e below T147 (mkF m 38 #[.val (.ref a1), .val (.ref a2), .val (.int 7)] [.int 21, .ref a1]) _
    refine y_iloadN X147 hx hby d13_38 rfl ?_
    refine y_iadd X147 hx hby d13_39 ?_
    rw [show ((21 : Int32) + (7 : Int32)) = (28 : Int32) from by decide]
    refine st148 _ ?_
    show SP p e below T148 (mkF m 43 #[.val (.ref a1), .val (.ref a2), .val (.int 7)] []) _
    refine y_aloadN X148 hx hby d13_43 rfl rfl ?_
    show Steps p.tables e below (T148.setTop (mkF m 44 #[.val (.ref a1), .val (.ref a2), .val (.int 7)] [.ref a1])) _
    jvm_step X148.here [X148.here.top, hx, (hb hby d13_44), X148.method', Bd.returns, Value.isRef, FieldType.isReference]
    first | (intro acts; rw [hr _ acts rfl rfl rfl]) | rw [hr _ _ rfl rfl rfl]
    exact Steps.refl _
  · show QW _ _ _ h0 n0 _ T148.heap _
    rw [e148]
    exact ⟨rfl, N148, KK, F_coder_a1, F_value_a1, F_count_a1, V_d1⟩
set_option maxRecDepth 65536 in
set_option maxHeartbeats 40000000 in
theorem rm12_21 (l : Launch) (Z : State) (a0 : Array Value) (hw : HW a0 Z) (ws : List Jvm.Cond) (a1 a2 d1 : Addr) (kd : ClassId) (cs : List Int32) (t1 : Addr) (k1 : ClassId) (ds : List Int32) (wC : Int32) (h0 : Heap) (n0 : Nat) (Z0 : n0 ≤ h0.size) (SC : SS Z h0 wC) (hz : ¬ wC = 0) (hcs : cs.length = 21) (hds : ds.length = 7) (E_a1 : EB Z h0 a1) (F_coder_a1 : FC Z h0 a1 (.int 0)) (F_value_a1 : FV Z h0 a1 (.ref d1)) (F_count_a1 : FN Z h0 a1 (.int 21)) (V_d1 : Arv Z h0 d1 kd .byte (34 : Int32) (LB cs) (.int 0)) (E_a2 : ES Z h0 a2) (F_coder_a2 : GC Z h0 a2 (.int 0)) (F_value_a2 : GV Z h0 a2 (.ref t1)) (V_t1 : Arv Z h0 t1 k1 .byte (7 : Int32) (LB ds) (.int 0)) (g_a1 : n0 ≤ a1) (g_d1 : n0 ≤ d1) (ne_a1_d1 : a1 ≠ d1) (ne_a1_a2 : a1 ≠ a2) (ne_a1_t1 : a1 ≠ t1) (ne_d1_a2 : d1 ≠ a2) (ne_d1_t1 : d1 ≠ t1) :
    MF l mn19 jdk_67_method_7_code 2 (some (.object "java/lang/StringBuilder")) ws (RM 4 0 0 61) #[.ref a1, .ref a2] Z h0 (QW [a1, d1] (some (.ref a1)) (fun h => FC Z h a1 (.int 0) ∧ FV Z h a1 (.ref d1) ∧ FN Z h a1 (.int 28) ∧ Arv Z h d1 kd .byte (34 : Int32) (LB (cs ++ ds)) (.int 0)) h0 n0) := by
  refine MetFree.of_bodySF (plainFor_of_name pn_32) hisR ?_
  intro p e s m args below meth c s₁ Bd hml0 hP hK
  obtain ⟨rfl, hZ, hh⟩ := hP
  have hx := Bd.exec
  have hby := Bd.bytes
  have hml : c.maxLocals = 2 := hml0
  have hown : s.vm.findClass "java/lang/StringBuilder" = some m.cls := findClass_of_methodNamed Bd.named
  have hnm := (name_of_methodNamed Bd.named Bd.method).1
  have X0 : Stand p l e (RM 4 0 0 61) s m #[.ref a1, .ref a2] below meth c s₁ [] 0 0 := Stand.of_body Bd
  have e0 : s₁.heap = h0 := by rw [← hh, Bd.state]; rfl
  have N0 := Fr.nil n0
  have pre0 : GO p e below (s₁.setTop (mkF m 0 #[.val (.ref a1), .val (.ref a2)] [])) (s₁.setTop (entryFrame m #[.ref a1, .ref a2] 2)) := fun t k => castTop (ef_12 m a1 a2) k
  have KK := Keep.refl h0 [a1, d1]
  obtain ⟨_, _, ⟨T149, _, _, _⟩, -, X149, ⟨_, hQ149, l149, y149, z149⟩, st149⟩ := superBack X0 hx hZ (y := mn18) hown (ww hw 81 rfl) (own_same (ww hw 82 rfl) (ww hw 101 rfl) rfl (by decide)) (ww hw 82 rfl) (ww hw 83 rfl) (by decide) (backOf (W := 0) (rm13_21 l Z a0 hw [] a1 a2 d1 kd cs t1 k1 ds wC h0 n0 Z0 SC hz hcs hds E_a1 F_coder_a1 F_value_a1 F_count_a1 V_d1 E_a2 F_coder_a2 F_value_a2 V_t1 g_a1 g_d1 ne_a1_d1 ne_a1_a2 ne_a1_t1 ne_d1_a2 ne_d1_t1) hZ (ww hw 85 rfl) (ww hw 65 rfl) (by decide) (by decide)) e0 (Ins.self E_a1) (g := (mkF m 2 #[.val (.ref a1), .val (.ref a2)] [.ref a2, .ref a1])) rfl (by rw [hml]; rfl) (ww hw 85 rfl) (argsL := [.ref a2]) (rest := []) (lenOf pd_12 rfl) rfl (wz rfl) (hb hby d12_2) (fun _ _ => ⟨rfl, e0, (by decide : 0 + 0 ≤ _), (by decide : 0 + 0 ≤ _)⟩)
  dsimp only [Pt.U, Pt.locs, Pt.cells, Pt.slots] at X149 l149 y149 z149 st149 hQ149
  rw [l149, y149, z149] at X149
  obtain ⟨h149, e149⟩ : ∃ z, T149.heap = z := ⟨_, rfl⟩
  rw [e149] at hQ149
  obtain ⟨rfl, N149q, K149, G149_0, G149_1, G149_2, G149_3⟩ := hQ149
  replace SC := own_stakeep SC K149 (nsS (Exa.nostat E_a1) (nsS (Arv.nostat V_d1) ns0))
  replace E_a1 := E_a1.keep K149
  replace E_a2 := E_a2.keep K149
  replace F_coder_a2 := F_coder_a2.keep K149 (ninS (Ne.symm ne_a1_a2) (ninS (Ne.symm ne_d1_a2) nin0))
  replace F_value_a2 := F_value_a2.keep K149 (ninS (Ne.symm ne_a1_a2) (ninS (Ne.symm ne_d1_a2) nin0))
  replace V_t1 := V_t1.keep K149 (ninS (Ne.symm ne_a1_t1) (ninS (Ne.symm ne_d1_t1) nin0))
  replace Z0 := Nat.le_trans Z0 K149.1
  replace KK := KK.trans K149 (allS (Or.inl (List.mem_of_getElem? (i := 0) rfl)) (allS (Or.inl (List.mem_of_getElem? (i := 1) rfl)) all0))
  have F_coder_a1 : FC Z h149 a1 (.int 0) := G149_0
  have F_value_a1 : FV Z h149 a1 (.ref d1) := G149_1
  have F_count_a1 : FN Z h149 a1 (.int 28) := G149_2
  have V_d1 : Arv Z h149 d1 kd .byte (34 : Int32) (LB (cs ++ ds)) (.int 0) := G149_3
  have N149 := Fr.app N0 N149q
  obtain ⟨fs, hr, hrun, hended, hW, hsame⟩ := X149.leave (v := some (.ref a1)) (fun h => by rw [Bd.returns] at h; cases h)
  refine ⟨_, _, pre0 _ ?_, hrun, hended, _, _, rfl, ?_, ⟨_, rfl⟩, hW, hsame.mono (by decide) (by decide)⟩
  · refine y_aloadN X0 hx hby d12_0 rfl rfl ?_
    refine y_aloadN X0 hx hby d12_1 rfl rfl ?_
    refine st149.trans ?_
    show SP p e below T149 (mkF m 5 #[.val (.ref a1), .val (.ref a2)] [.ref a1]) _
    refine y_pop X149 hx hby d12_5 rfl ?_
    refine y_aloadN X149 hx hby d12_6 rfl rfl ?_
    show Steps p.tables e below (T149.setTop (mkF m 7 #[.val (.ref a1), .val (.ref a2)] [.ref a1])) _
    jvm_step X149.here [X149.here.top, hx, (hb hby d12_7), X149.method', Bd.returns, Value.isRef, FieldType.isReference]
    first | (intro acts; rw [hr _ acts rfl rfl rfl]) | rw [hr _ _ rfl rfl rfl]
    exact Steps.refl _
  · show QW _ _ _ h0 n0 _ T149.heap _
    rw [e149]
    exact ⟨rfl, N149, KK, F_coder_a1, F_value_a1, F_count_a1, V_d1⟩
set_option maxRecDepth 65536 in
set_option maxHeartbeats 40000000 in
theorem rm24_28 (l : Launch) (Z : State) (a0 : Array Value) (hw : HW a0 Z) (ws : List Jvm.Cond) (a1 a2 : Addr) (kd : ClassId) (cs : List Int32) (t1 : Addr) (k1 : ClassId) (ds : List Int32) (wC : Int32) (h0 : Heap) (n0 : Nat) (Z0 : n0 ≤ h0.size) (SC : SS Z h0 wC) (hz : ¬ wC = 0) (hcs : cs.length = 28) (hds : ds.length = 2) (E_a1 : ES Z h0 a1) (F_coder_a1 : GC Z h0 a1 (.int 0)) (F_value_a1 : GV Z h0 a1 (.ref t1)) (V_t1 : Arv Z h0 t1 k1 .byte (2 : Int32) (LB ds) (.int 0)) (V_a2 : Arv Z h0 a2 kd .byte (34 : Int32) (LB cs) (.int 0)) (g_a2 : n0 ≤ a2) (ne_a2_t1 : a2 ≠ t1) (ne_a2_a1 : a2 ≠ a1) :
    MF l mn16 jdk_42_method_147_code 4 none ws (RM 1 0 0 18) #[.ref a1, .ref a2, .int 28, .int 0] Z h0 (QW [a2] none (fun h => Arv Z h a2 kd .byte (34 : Int32) (LB (cs ++ ds)) (.int 0)) h0 n0) := by
  refine MetFree.of_bodySF (plainFor_of_name pn_15) hisR ?_
  intro p e s m args below meth c s₁ Bd hml0 hP hK
  obtain ⟨rfl, hZ, hh⟩ := hP
  have hx := Bd.exec
  have hby := Bd.bytes
  have hml : c.maxLocals = 4 := hml0
  have hown : s.vm.findClass "java/lang/String" = some m.cls := findClass_of_methodNamed Bd.named
  have hnm := (name_of_methodNamed Bd.named Bd.method).1
  have X0 : Stand p l e (RM 1 0 0 18) s m #[.ref a1, .ref a2, .int 28, .int 0] below meth c s₁ [] 0 0 := Stand.of_body Bd
  have e0 : s₁.heap = h0 := by rw [← hh, Bd.state]; rfl
  have N0 := Fr.nil n0
  have pre0 : GO p e below (s₁.setTop (mkF m 0 #[.val (.ref a1), .val (.ref a2), .val (.int 28), .val (.int 0)] [])) (s₁.setTop (entryFrame m #[.ref a1, .ref a2, .int 28, .int 0] 4)) := fun t k => castTop (ef_24 m a1 a2 (28 : Int32) (0 : Int32)) k
  have KK := Keep.refl h0 [a2]
  obtain ⟨cq150, kq150, q150a, q150b, q150c⟩ := isOf hZ e0 E_a1
  obtain ⟨_, _, ⟨T150, _, _, _⟩, -, X150, ⟨_, hQ150, l150, y150, z150⟩, st150⟩ := X0.virtualBack hx (y := mn0) (z := mn0) hown (mvT hZ (ww hw 91 rfl)) (mvT hZ (ww hw 92 rfl)) (notFace_of_selects (args := #[]) (mvT hZ (ww hw 94 rfl))) (mvT hZ (ww hw 94 rfl)) (mvT hZ (ww hw 93 rfl)) (by decide) (backOf (W := 0) (rm15 l Z a0 hw [] a1 wC h0 n0 Z0 SC hz F_coder_a1) hZ (ww hw 95 rfl) (ww hw 2 rfl) (by decide) (by decide)) q150a q150c (g := (mkF m 1 #[.val (.ref a1), .val (.ref a2), .val (.int 28), .val (.int 0)] [.ref a1])) rfl (by rw [hml]; rfl) (Steps.refl _) (argsL := []) (rest := []) (lenOf pd_2 rfl) rfl (wz rfl) (hb hby d24_1) (fun _ _ => ⟨rfl, e0, (by decide : 0 + 0 ≤ _), (by decide : 0 + 0 ≤ _)⟩)
  dsimp only [Pt.U, Pt.locs, Pt.cells, Pt.slots] at X150 l150 y150 z150 st150 hQ150
  rw [l150, y150, z150] at X150
  obtain ⟨rfl, N150q, e150⟩ := hQ150
  have q150 : f15 a1 wC = (0 : Int32) := rfl
  rw [q150] at st150
  have N150 := Fr.app N0 N150q
  obtain ⟨T151, X151, e151, st151⟩ := getF X150 hx hZ hown (host := "") (Or.inl (ww hw 28 rfl)) Via.refl e150 F_value_a1 (g := (mkF m 9 #[.val (.ref a1), .val (.ref a2), .val (.int 28), .val (.int 0)] [.ref a1])) rfl rfl (hb hby d24_9)
  obtain ⟨T152, X152, e152, st152⟩ := getF X151 hx hZ hown (host := "") (Or.inl (ww hw 28 rfl)) Via.refl e151 F_value_a1 (g := (mkF m 18 #[.val (.ref a1), .val (.ref a2), .val (.int 28), .val (.int 0)] [.ref a1, .int 28, .ref a2, .int 0, .ref t1])) rfl rfl (hb hby d24_18)
  obtain ⟨cl153, Ar153, q153, Sz153, Nn153, Hh153, Gg153⟩ := id V_t1
  replace V_a2 := V_a2.pad (pad_rep (LB cs) (.int 0) ((2 : Int32)).toNatClampNeg)
  obtain ⟨T154, h154, L154, X154, e154, N154, K154, Vn154, st154⟩ := cpA X152 hx hZ hown (ww hw 145 rfl) (ww hw 128 rfl) (ww hw 126 rfl) (ww hw 127 rfl) e152 (us := (LB ds)) V_t1 V_a2 (Or.inl ⟨rfl, rfl⟩) (by decide) (by decide) (by decide) (by decide) (by decide) (own_us ((own_lblen ds).trans (show (2 : Int32).toNatClampNeg = List.length ds from by rw [hds]; rfl).symm)) (own_catlen (zm := (2 : Int32)) (show (28 : Int32).toNatClampNeg = List.length cs from by rw [hcs]; rfl)) N150 g_a2 (g := (mkF m 22 #[.val (.ref a1), .val (.ref a2), .val (.int 28), .val (.int 0)] [.int 2, .int 28, .ref a2, .int 0, .ref t1])) rfl (by rw [hml]; rfl) rfl (hb hby d24_22) (by decide) (W := 0) (wz rfl) (by decide)
  replace SC := own_stakeep SC K154 (nsS (Arv.nostat V_a2) ns0)
  replace E_a1 := E_a1.keep K154
  replace F_coder_a1 := F_coder_a1.keep K154 (ninS (Ne.symm ne_a2_a1) nin0)
  replace F_value_a1 := F_value_a1.keep K154 (ninS (Ne.symm ne_a2_a1) nin0)
  replace V_t1 := V_t1.keep K154 (ninS (Ne.symm ne_a2_t1) nin0)
  replace Z0 := Nat.le_trans Z0 K154.1
  replace KK := KK.trans K154 (allS (Or.inl (List.mem_of_getElem? (i := 0) rfl)) all0)
  have V_a2 : Arv Z h154 a2 kd .byte (34 : Int32) (LB (cs ++ ds)) (.int 0) := by rw [own_cat (show (28 : Int32).toNatClampNeg = List.length cs from by rw [hcs]; rfl) (show (2 : Int32).toNatClampNeg = List.length ds from by rw [hds]; rfl)] at Vn154; exact Vn154
  obtain ⟨fs, hr, hrun, hended, hW, hsame⟩ := X154.leave (v := none) (fun _ => rfl)
  refine ⟨_, _, pre0 _ ?_, hrun, hended, _, _, rfl, ?_, ⟨_, rfl⟩, hW, hsame.mono (by decide) (by decide)⟩
  · refine y_aloadN X0 hx hby d24_0 rfl rfl ?_
    refine st150.trans ?_
    show SP p e below T150 (mkF m 4 #[.val (.ref a1), .val (.ref a2), .val (.int 28), .val (.int 0)] [.int 0]) _
    refine y_iloadN X150 hx hby d24_4 rfl ?_
    refine y_icmpNo X150 hx hby d24_5 (teq rfl).2 ?_
    refine y_aloadN X150 hx hby d24_8 rfl rfl ?_
    refine st151 _ ?_
    show SP p e below T151 (mkF m 12 #[.val (.ref a1), .val (.ref a2), .val (.int 28), .val (.int 0)] [.ref t1]) _
    refine y_iconst X151 hx hby (v := (0 : Int32)) d24_12 rfl ?_
    refine y_aloadN X151 hx hby d24_13 rfl rfl ?_
    refine y_iloadN X151 hx hby d24_14 rfl ?_
    refine y_iloadN X151 hx hby d24_15 rfl ?_
    refine y_ishl X151 hx hby d24_16 ?_
    rw [show ((28 : Int32) <<< ((0 : Int32) &&& 31)) = (28 : Int32) from by decide]
    refine y_aloadN X151 hx hby d24_17 rfl rfl ?_
    refine st152 _ ?_
    show SP p e below T152 (mkF m 21 #[.val (.ref a1), .val (.ref a2), .val (.int 28), .val (.int 0)] [.ref t1, .int 28, .ref a2, .int 0, .ref t1]) _
    refine X152.arraylength hx (by rw [e152]; exact Ar153.1) (State.isArrayOf_alike hZ.alike Ar153.2.1) (g := (mkF m 21 #[.val (.ref a1), .val (.ref a2), .val (.int 28), .val (.int 0)] [.ref t1, .int 28, .ref a2, .int 0, .ref t1])) rfl rfl (hb hby d24_21) _ ?_
    rw [len_of Sz153 Nn153]
    show SP p e below T152 (mkF m 22 #[.val (.ref a1), .val (.ref a2), .val (.int 28), .val (.int 0)] [.int 2, .int 28, .ref a2, .int 0, .ref t1]) _
    refine st154 _ ?_
    show SP p e below T154 (mkF m 25 #[.val (.ref a1), .val (.ref a2), .val (.int 28), .val (.int 0)] []) _
    refine y_goto X154 hx hby (pc' := 43) d24_25 (by decide) (by decide) ?_
    show Steps p.tables e below (T154.setTop (mkF m 43 #[.val (.ref a1), .val (.ref a2), .val (.int 28), .val (.int 0)] [])) _
    exact X154.returnOut hx Bd.returns (hb hby d24_43) hr
  · show QW _ _ _ h0 n0 _ T154.heap _
    rw [e154]
    exact ⟨rfl, N154, KK, V_a2⟩
set_option maxRecDepth 65536 in
set_option maxHeartbeats 40000000 in
theorem rm22_28 (l : Launch) (Z : State) (a0 : Array Value) (hw : HW a0 Z) (ws : List Jvm.Cond) (a1 a3 d1 : Addr) (kd : ClassId) (cs : List Int32) (t1 : Addr) (k1 : ClassId) (ds : List Int32) (wC : Int32) (h0 : Heap) (n0 : Nat) (Z0 : n0 ≤ h0.size) (SC : SS Z h0 wC) (hz : ¬ wC = 0) (hcs : cs.length = 28) (hds : ds.length = 2) (E_a1 : EB Z h0 a1) (F_coder_a1 : FC Z h0 a1 (.int 0)) (F_value_a1 : FV Z h0 a1 (.ref d1)) (V_d1 : Arv Z h0 d1 kd .byte (34 : Int32) (LB cs) (.int 0)) (E_a3 : ES Z h0 a3) (F_coder_a3 : GC Z h0 a3 (.int 0)) (F_value_a3 : GV Z h0 a3 (.ref t1)) (V_t1 : Arv Z h0 t1 k1 .byte (2 : Int32) (LB ds) (.int 0)) (g_d1 : n0 ≤ d1) (ne_a1_d1 : a1 ≠ d1) (ne_d1_a3 : d1 ≠ a3) (ne_d1_t1 : d1 ≠ t1) :
    MF l mn17 jdk_68_method_73_code 3 none ws (RM 2 0 0 33) #[.ref a1, .int 28, .ref a3] Z h0 (QW [d1] none (fun h => Arv Z h d1 kd .byte (34 : Int32) (LB (cs ++ ds)) (.int 0)) h0 n0) := by
  refine MetFree.of_bodySF (plainFor_of_name pn_17) hisR ?_
  intro p e s m args below meth c s₁ Bd hml0 hP hK
  obtain ⟨rfl, hZ, hh⟩ := hP
  have hx := Bd.exec
  have hby := Bd.bytes
  have hml : c.maxLocals = 3 := hml0
  have hown : s.vm.findClass "java/lang/AbstractStringBuilder" = some m.cls := findClass_of_methodNamed Bd.named
  have hnm := (name_of_methodNamed Bd.named Bd.method).1
  have X0 : Stand p l e (RM 2 0 0 33) s m #[.ref a1, .int 28, .ref a3] below meth c s₁ [] 0 0 := Stand.of_body Bd
  have e0 : s₁.heap = h0 := by rw [← hh, Bd.state]; rfl
  have N0 := Fr.nil n0
  have pre0 : GO p e below (s₁.setTop (mkF m 0 #[.val (.ref a1), .val (.int 28), .val (.ref a3)] [])) (s₁.setTop (entryFrame m #[.ref a1, .int 28, .ref a3] 3)) := fun t k => castTop (ef_22 m a1 (28 : Int32) a3) k
  have KK := Keep.refl h0 [d1]
  obtain ⟨cq155, q155a, q155b⟩ := Exa.cell E_a1
  obtain ⟨_, _, ⟨T155, _, _, _⟩, -, X155, ⟨_, hQ155, l155, y155, z155⟩, st155⟩ := X0.privateBack hx (y := mn6) hown (mvT hZ (ww hw 134 rfl)) (mvT hZ (ww hw 135 rfl)) (mvT hZ (own_selp (ww hw 136 rfl) (ww hw 135 rfl) (ww hw 137 rfl) (by decide))) (Cond.privateMethod_at (mvP hZ (ww hw 136 rfl) (args := #[]))) (mvT hZ (ww hw 138 rfl)) (by decide) (backOf (W := 0) (rm23 l Z a0 hw [] a1 a3 wC h0 n0 Z0 SC hz F_coder_a1 E_a3 F_coder_a3) hZ (ww hw 138 rfl) (ww hw 65 rfl) (by decide) (by decide)) (g := (mkF m 2 #[.val (.ref a1), .val (.int 28), .val (.ref a3)] [.ref a3, .ref a1])) rfl (by rw [hml]; rfl) (Steps.refl _) (a := a1) (by rw [e0]; exact q155a) q155b (argsL := [.ref a3]) (rest := []) (lenOf pd_8 rfl) rfl (wz rfl) (hb hby d22_2) (fun _ _ => ⟨rfl, e0, (by decide : 0 + 0 ≤ _), (by decide : 0 + 0 ≤ _)⟩)
  dsimp only [Pt.U, Pt.locs, Pt.cells, Pt.slots] at X155 l155 y155 z155 st155 hQ155
  rw [l155, y155, z155] at X155
  obtain ⟨rfl, N155q, e155⟩ := hQ155
  have N155 := Fr.app N0 N155q
  obtain ⟨T156, X156, e156, st156⟩ := getF X155 hx hZ hown (host := "") (Or.inl (ww hw 69 rfl)) Via.refl e155 F_value_a1 (g := (mkF m 7 #[.val (.ref a1), .val (.int 28), .val (.ref a3)] [.ref a1, .ref a3])) rfl rfl (hb hby d22_7)
  obtain ⟨T157, X157, e157, st157⟩ := getF X156 hx hZ hown (host := "") (Or.inl (ww hw 71 rfl)) Via.refl e156 F_coder_a1 (g := (mkF m 12 #[.val (.ref a1), .val (.int 28), .val (.ref a3)] [.ref a1, .int 28, .ref d1, .ref a3])) rfl rfl (hb hby d22_12)
  obtain ⟨cq158, kq158, q158a, q158b, q158c⟩ := isOf hZ e157 E_a3
  obtain ⟨_, _, ⟨T158, _, _, _⟩, -, X158, ⟨_, hQ158, l158, y158, z158⟩, st158⟩ := X157.virtualBack hx (y := mn16) (z := mn16) hown (mvT hZ (ww hw 140 rfl)) (mvT hZ (ww hw 141 rfl)) (notFace_of_selects (args := #[]) (mvT hZ (ww hw 143 rfl))) (mvT hZ (ww hw 143 rfl)) (mvT hZ (ww hw 142 rfl)) (by decide) (backOf (W := 0) (rm24_28 l Z a0 hw [] a3 d1 kd cs t1 k1 ds wC h0 n0 Z0 SC hz hcs hds E_a3 F_coder_a3 F_value_a3 V_t1 V_d1 g_d1 ne_d1_t1 ne_d1_a3) hZ (ww hw 144 rfl) (ww hw 2 rfl) (by decide) (by decide)) q158a q158c (g := (mkF m 15 #[.val (.ref a1), .val (.int 28), .val (.ref a3)] [.int 0, .int 28, .ref d1, .ref a3])) rfl (by rw [hml]; rfl) (Steps.refl _) (argsL := [.ref d1, .int 28, .int 0]) (rest := []) (lenOf pd_9 rfl) rfl (wz rfl) (hb hby d22_15) (fun _ _ => ⟨rfl, e157, (by decide : 0 + 0 ≤ _), (by decide : 0 + 0 ≤ _)⟩)
  dsimp only [Pt.U, Pt.locs, Pt.cells, Pt.slots] at X158 l158 y158 z158 st158 hQ158
  rw [l158, y158, z158] at X158
  obtain ⟨h158, e158⟩ : ∃ z, T158.heap = z := ⟨_, rfl⟩
  rw [e158] at hQ158
  obtain ⟨rfl, N158q, K158, G158_0⟩ := hQ158
  replace SC := own_stakeep SC K158 (nsS (Arv.nostat V_d1) ns0)
  replace E_a1 := E_a1.keep K158
  replace F_coder_a1 := F_coder_a1.keep K158 (ninS ne_a1_d1 nin0)
  replace F_value_a1 := F_value_a1.keep K158 (ninS ne_a1_d1 nin0)
  replace E_a3 := E_a3.keep K158
  replace F_coder_a3 := F_coder_a3.keep K158 (ninS (Ne.symm ne_d1_a3) nin0)
  replace F_value_a3 := F_value_a3.keep K158 (ninS (Ne.symm ne_d1_a3) nin0)
  replace V_t1 := V_t1.keep K158 (ninS (Ne.symm ne_d1_t1) nin0)
  replace Z0 := Nat.le_trans Z0 K158.1
  replace KK := KK.trans K158 (allS (Or.inl (List.mem_of_getElem? (i := 0) rfl)) all0)
  have V_d1 : Arv Z h158 d1 kd .byte (34 : Int32) (LB (cs ++ ds)) (.int 0) := G158_0
  have N158 := Fr.app N155 N158q
  obtain ⟨fs, hr, hrun, hended, hW, hsame⟩ := X158.leave (v := none) (fun _ => rfl)
  refine ⟨_, _, pre0 _ ?_, hrun, hended, _, _, rfl, ?_, ⟨_, rfl⟩, hW, hsame.mono (by decide) (by decide)⟩
  · refine y_aloadN X0 hx hby d22_0 rfl rfl ?_
    refine y_aloadN X0 hx hby d22_1 rfl rfl ?_
    refine st155.trans ?_
    show SP p e below T155 (mkF m 5 #[.val (.ref a1), .val (.int 28), .val (.ref a3)] []) _
    refine y_aloadN X155 hx hby d22_5 rfl rfl ?_
    refine y_aloadN X155 hx hby d22_6 rfl rfl ?_
    refine st156 _ ?_
    show SP p e below T156 (mkF m 10 #[.val (.ref a1), .val (.int 28), .val (.ref a3)] [.ref d1, .ref a3]) _
    refine y_iloadN X156 hx hby d22_10 rfl ?_
    refine y_aloadN X156 hx hby d22_11 rfl rfl ?_
    refine st157 _ ?_
    show SP p e below T157 (mkF m 15 #[.val (.ref a1), .val (.int 28), .val (.ref a3)] [.int 0, .int 28, .ref d1, .ref a3]) _
    refine st158.trans ?_
    show Steps p.tables e below (T158.setTop (mkF m 18 #[.val (.ref a1), .val (.int 28), .val (.ref a3)] [])) _
    exact X158.returnOut hx Bd.returns (hb hby d22_18) hr
  · show QW _ _ _ h0 n0 _ T158.heap _
    rw [e158]
    exact ⟨rfl, N158, KK, V_d1⟩
set_option maxRecDepth 65536 in
set_option maxHeartbeats 40000000 in
theorem rm13_28 (l : Launch) (Z : State) (a0 : Array Value) (hw : HW a0 Z) (ws : List Jvm.Cond) (a1 a2 d1 : Addr) (kd : ClassId) (cs : List Int32) (t1 : Addr) (k1 : ClassId) (ds : List Int32) (wC : Int32) (h0 : Heap) (n0 : Nat) (Z0 : n0 ≤ h0.size) (SC : SS Z h0 wC) (hz : ¬ wC = 0) (hcs : cs.length = 28) (hds : ds.length = 2) (E_a1 : EB Z h0 a1) (F_coder_a1 : FC Z h0 a1 (.int 0)) (F_value_a1 : FV Z h0 a1 (.ref d1)) (F_count_a1 : FN Z h0 a1 (.int 28)) (V_d1 : Arv Z h0 d1 kd .byte (34 : Int32) (LB cs) (.int 0)) (E_a2 : ES Z h0 a2) (F_coder_a2 : GC Z h0 a2 (.int 0)) (F_value_a2 : GV Z h0 a2 (.ref t1)) (V_t1 : Arv Z h0 t1 k1 .byte (2 : Int32) (LB ds) (.int 0)) (g_a1 : n0 ≤ a1) (g_d1 : n0 ≤ d1) (ne_a1_d1 : a1 ≠ d1) (ne_a1_a2 : a1 ≠ a2) (ne_a1_t1 : a1 ≠ t1) (ne_d1_a2 : d1 ≠ a2) (ne_d1_t1 : d1 ≠ t1) :
    MF l mn18 jdk_68_method_22_code 3 (some (.object "java/lang/AbstractStringBuilder")) ws (RM 3 0 0 47) #[.ref a1, .ref a2] Z h0 (QW [a1, d1] (some (.ref a1)) (fun h => FC Z h a1 (.int 0) ∧ FV Z h a1 (.ref d1) ∧ FN Z h a1 (.int 30) ∧ Arv Z h d1 kd .byte (34 : Int32) (LB (cs ++ ds)) (.int 0)) h0 n0) := by
  refine MetFree.of_bodySF (plainFor_of_name pn_17) hisR ?_
  intro p e s m args below meth c s₁ Bd hml0 hP hK
  obtain ⟨rfl, hZ, hh⟩ := hP
  have hx := Bd.exec
  have hby := Bd.bytes
  have hml : c.maxLocals = 3 := hml0
  have hown : s.vm.findClass "java/lang/AbstractStringBuilder" = some m.cls := findClass_of_methodNamed Bd.named
  have hnm := (name_of_methodNamed Bd.named Bd.method).1
  have X0 : Stand p l e (RM 3 0 0 47) s m #[.ref a1, .ref a2] below meth c s₁ [] 0 0 := Stand.of_body Bd
  have e0 : s₁.heap = h0 := by rw [← hh, Bd.state]; rfl
  have N0 := Fr.nil n0
  have pre0 : GO p e below (s₁.setTop (mkF m 0 #[.val (.ref a1), .val (.ref a2), .unset] [])) (s₁.setTop (entryFrame m #[.ref a1, .ref a2] 3)) := fun t k => castTop (ef_13 m a1 a2) k
  have KK := Keep.refl h0 [a1, d1]
  obtain ⟨cq159, kq159, q159a, q159b, q159c⟩ := isOf hZ e0 E_a2
  obtain ⟨_, _, ⟨T159, _, _, _⟩, -, X159, ⟨_, hQ159, l159, y159, z159⟩, st159⟩ := X0.virtualBack hx (y := mn5) (z := mn5) hown (mvT hZ (ww hw 86 rfl)) (mvT hZ (ww hw 87 rfl)) (notFace_of_selects (args := #[]) (mvT hZ (ww hw 89 rfl))) (mvT hZ (ww hw 89 rfl)) (mvT hZ (ww hw 88 rfl)) (by decide) (backOf (W := 0) (rm14_2 l Z a0 hw [] a2 t1 k1 ds wC h0 n0 Z0 SC hz E_a2 F_coder_a2 F_value_a2 V_t1) hZ (ww hw 90 rfl) (ww hw 2 rfl) (by decide) (by decide)) q159a q159c (g := (mkF m 10 #[.val (.ref a1), .val (.ref a2), .unset] [.ref a2])) rfl (by rw [hml]; rfl) (Steps.refl _) (argsL := []) (rest := []) (lenOf pd_3 rfl) rfl (wz rfl) (hb hby d13_10) (fun _ _ => ⟨rfl, e0, (by decide : 0 + 0 ≤ _), (by decide : 0 + 0 ≤ _)⟩)
  dsimp only [Pt.U, Pt.locs, Pt.cells, Pt.slots] at X159 l159 y159 z159 st159 hQ159
  rw [l159, y159, z159] at X159
  obtain ⟨rfl, N159q, e159⟩ := hQ159
  have N159 := Fr.app N0 N159q
  obtain ⟨T160, X160, e160, st160⟩ := getF X159 hx hZ hown (host := "") (Or.inl (ww hw 96 rfl)) Via.refl e159 F_count_a1 (g := (mkF m 16 #[.val (.ref a1), .val (.ref a2), .val (.int 2)] [.ref a1, .ref a1])) rfl rfl (hb hby d13_16)
  obtain ⟨cq161, q161a, q161b⟩ := Exa.cell E_a1
  obtain ⟨_, _, ⟨T161, _, _, _⟩, -, X161, ⟨_, hQ161, l161, y161, z161⟩, st161⟩ := X160.privateBack hx (y := mn15) hown (mvT hZ (ww hw 98 rfl)) (mvT hZ (ww hw 99 rfl)) (mvT hZ (own_selp (ww hw 100 rfl) (ww hw 99 rfl) (ww hw 101 rfl) (by decide))) (Cond.privateMethod_at (mvP hZ (ww hw 100 rfl) (args := #[]))) (mvT hZ (ww hw 102 rfl)) (by decide) (backOf (W := 0) (rm16_k30 l Z a0 hw [] a1 d1 kd cs h0 n0 Z0 F_coder_a1 F_value_a1 V_d1) hZ (ww hw 102 rfl) (ww hw 65 rfl) (by decide) (by decide)) (g := (mkF m 21 #[.val (.ref a1), .val (.ref a2), .val (.int 2)] [.int 30, .ref a1])) rfl (by rw [hml]; rfl) (Steps.refl _) (a := a1) (by rw [e160]; exact q161a) q161b (argsL := [.int 30]) (rest := []) (lenOf pd_10 rfl) rfl (wz rfl) (hb hby d13_21) (fun _ _ => ⟨rfl, e160, (by decide : 0 + 0 ≤ _), (by decide : 0 + 0 ≤ _)⟩)
  dsimp only [Pt.U, Pt.locs, Pt.cells, Pt.slots] at X161 l161 y161 z161 st161 hQ161
  rw [l161, y161, z161] at X161
  obtain ⟨rfl, N161q, e161⟩ := hQ161
  have N161 := Fr.app N159 N161q
  obtain ⟨T162, X162, e162, st162⟩ := getF X161 hx hZ hown (host := "") (Or.inl (ww hw 96 rfl)) Via.refl e161 F_count_a1 (g := (mkF m 26 #[.val (.ref a1), .val (.ref a2), .val (.int 2)] [.ref a1, .ref a1])) rfl rfl (hb hby d13_26)
  obtain ⟨cq163, q163a, q163b⟩ := Exa.cell E_a1
  obtain ⟨_, _, ⟨T163, _, _, _⟩, -, X163, ⟨_, hQ163, l163, y163, z163⟩, st163⟩ := X162.privateBack hx (y := mn17) hown (mvT hZ (ww hw 129 rfl)) (mvT hZ (ww hw 130 rfl)) (mvT hZ (own_selp (ww hw 131 rfl) (ww hw 130 rfl) (ww hw 132 rfl) (by decide))) (Cond.privateMethod_at (mvP hZ (ww hw 131 rfl) (args := #[]))) (mvT hZ (ww hw 133 rfl)) (by decide) (backOf (W := 0) (rm22_28 l Z a0 hw [] a1 a2 d1 kd cs t1 k1 ds wC h0 n0 Z0 SC hz hcs hds E_a1 F_coder_a1 F_value_a1 V_d1 E_a2 F_coder_a2 F_value_a2 V_t1 g_d1 ne_a1_d1 ne_d1_a2 ne_d1_t1) hZ (ww hw 133 rfl) (ww hw 65 rfl) (by decide) (by decide)) (g := (mkF m 30 #[.val (.ref a1), .val (.ref a2), .val (.int 2)] [.ref a2, .int 28, .ref a1])) rfl (by rw [hml]; rfl) (Steps.refl _) (a := a1) (by rw [e162]; exact q163a) q163b (argsL := [.int 28, .ref a2]) (rest := []) (lenOf pd_11 rfl) rfl (wz rfl) (hb hby d13_30) (fun _ _ => ⟨rfl, e162, (by decide : 0 + 0 ≤ _), (by decide : 0 + 0 ≤ _)⟩)
  dsimp only [Pt.U, Pt.locs, Pt.cells, Pt.slots] at X163 l163 y163 z163 st163 hQ163
  rw [l163, y163, z163] at X163
  obtain ⟨h163, e163⟩ : ∃ z, T163.heap = z := ⟨_, rfl⟩
  rw [e163] at hQ163
  obtain ⟨rfl, N163q, K163, G163_0⟩ := hQ163
  replace SC := own_stakeep SC K163 (nsS (Arv.nostat V_d1) ns0)
  replace E_a1 := E_a1.keep K163
  replace F_coder_a1 := F_coder_a1.keep K163 (ninS ne_a1_d1 nin0)
  replace F_value_a1 := F_value_a1.keep K163 (ninS ne_a1_d1 nin0)
  replace F_count_a1 := F_count_a1.keep K163 (ninS ne_a1_d1 nin0)
  replace E_a2 := E_a2.keep K163
  replace F_coder_a2 := F_coder_a2.keep K163 (ninS (Ne.symm ne_d1_a2) nin0)
  replace F_value_a2 := F_value_a2.keep K163 (ninS (Ne.symm ne_d1_a2) nin0)
  replace V_t1 := V_t1.keep K163 (ninS (Ne.symm ne_d1_t1) nin0)
  replace Z0 := Nat.le_trans Z0 K163.1
  replace KK := KK.trans K163 (allS (Or.inl (List.mem_of_getElem? (i := 1) rfl)) all0)
  have V_d1 : Arv Z h163 d1 kd .byte (34 : Int32) (LB (cs ++ ds)) (.int 0) := G163_0
  have N163 := Fr.app N161 N163q
  obtain ⟨T164, X164, e164, st164⟩ := getF X163 hx hZ hown (host := "") (Or.inl (ww hw 96 rfl)) Via.refl e163 F_count_a1 (g := (mkF m 35 #[.val (.ref a1), .val (.ref a2), .val (.int 2)] [.ref a1, .ref a1])) rfl rfl (hb hby d13_35)
  obtain ⟨T165, h165, X165, e165, W165, st165⟩ := putF X164 hx hZ hown (host := "") (Or.inl (ww hw 96 rfl)) Via.refl e164 F_count_a1 E_a1 (Or.inl (ww hw 97 rfl)) (ww hw 56 rfl) (ty := .int) (by decide) rfl rfl (g := (mkF m 40 #[.val (.ref a1), .val (.ref a2), .val (.int 2)] [.int 30, .ref a1])) rfl rfl (hb hby d13_40)
  replace E_a1 := E_a1.wr W165
  replace F_coder_a1 := F_coder_a1.other W165 (Or.inr (slot_ne (Or.inl (ww hw 72 rfl)) (Or.inl (ww hw 97 rfl)) (by decide) (t := .byte) (t' := .int) (by decide) (by decide)))
  replace F_value_a1 := F_value_a1.other W165 (Or.inr (slot_ne (Or.inl (ww hw 70 rfl)) (Or.inl (ww hw 97 rfl)) (by decide) (t := (.array .byte)) (t' := .int) (by decide) (by decide)))
  replace F_count_a1 := F_count_a1.same W165
  replace E_a2 := E_a2.wr W165
  replace F_coder_a2 := F_coder_a2.other W165 (Or.inl (Ne.symm ne_a1_a2))
  replace F_value_a2 := F_value_a2.other W165 (Or.inl (Ne.symm ne_a1_a2))
  replace V_t1 := V_t1.other W165 (Ne.symm ne_a1_t1)
  replace SC := SC.wr W165
  replace V_d1 := V_d1.other W165 (Ne.symm ne_a1_d1)
  replace Z0 := Nat.le_trans Z0 (Keep.of_wr W165).1
  replace KK := KK.wr W165 (Or.inl (List.mem_of_getElem? (i := 0) rfl))
  have N165 := Fr.snoc X165 N163 g_a1
  obtain ⟨fs, hr, hrun, hended, hW, hsame⟩ := X165.leave (v := some (.ref a1)) (fun h => by rw [Bd.returns] at h; cases h)
  refine ⟨_, _, pre0 _ ?_, hrun, hended, _, _, rfl, ?_, ⟨_, rfl⟩, hW, hsame.mono (by decide) (by decide)⟩
  · refine y_aloadN X0 hx hby d13_0 rfl rfl ?_
    refine y_ifnonnullYes X0 hx hby (pc' := 9) d13_1 (by decide) (by decide) ?_
    refine y_aloadN X0 hx hby d13_9 rfl rfl ?_
    refine st159.trans ?_
    show SP p e below T159 (mkF m 13 #[.val (.ref a1), .val (.ref a2), .unset] [.int 2]) _
    refine y_istoreN X159 hx hby d13_13 (l' := #[.val (.ref a1), .val (.ref a2), .val (.int 2)]) rfl ?_
    refine y_aloadN X159 hx hby d13_14 rfl rfl ?_
    refine y_aloadN X159 hx hby d13_15 rfl rfl ?_
    refine st160 _ ?_
    show SP p e below T160 (mkF m 19 #[.val (.ref a1), .val (.ref a2), .val (.int 2)] [.int 28, .ref a1]) _
    refine y_iloadN X160 hx hby d13_19 rfl ?_
    refine y_iadd X160 hx hby d13_20 ?_
    rw [show ((28 : Int32) + (2 : Int32)) = (30 : Int32) from by decide]
    refine st161.trans ?_
    show SP p e below T161 (mkF m 24 #[.val (.ref a1), .val (.ref a2), .val (.int 2)] []) _
    refine y_aloadN X161 hx hby d13_24 rfl rfl ?_
    refine y_aloadN X161 hx hby d13_25 rfl rfl ?_
    refine st162 _ ?_
    show SP p e below T162 (mkF m 29 #[.val (.ref a1), .val (.ref a2), .val (.int 2)] [.int 28, .ref a1]) _
    refine y_aloadN X162 hx hby d13_29 rfl rfl ?_
    refine st163.trans ?_
    show SP p e below T163 (mkF m 33 #[.val (.ref a1), .val (.ref a2), .val (.int 2)] []) _
    refine y_aloadN X163 hx hby d13_33 rfl rfl ?_
    refine y_dup X163 hx hby d13_34 rfl ?_
    refine st164 _ ?_
    show SP p e below T164 (mkF m 38 #[.val (.ref a1), .val (.ref a2), .val (.int 2)] [.int 28, .ref a1]) _
    refine y_iloadN X164 hx hby d13_38 rfl ?_
    refine y_iadd X164 hx hby d13_39 ?_
    rw [show ((28 : Int32) + (2 : Int32)) = (30 : Int32) from by decide]
    refine st165 _ ?_
    show SP p e below T165 (mkF m 43 #[.val (.ref a1), .val (.ref a2), .val (.int 2)] []) _
    refine y_aloadN X165 hx hby d13_43 rfl rfl ?_
    show Steps p.tables e below (T165.setTop (mkF m 44 #[.val (.ref a1), .val (.ref a2), .val (.int 2)] [.ref a1])) _
    jvm_step X165.here [X165.here.top, hx, (hb hby d13_44), X165.method', Bd.returns, Value.isRef, FieldType.isReference]
    first | (intro acts; rw [hr _ acts rfl rfl rfl]) | rw [hr _ _ rfl rfl rfl]
    exact Steps.refl _
  · show QW _ _ _ h0 n0 _ T165.heap _
    rw [e165]
    exact ⟨rfl, N165, KK, F_coder_a1, F_value_a1, F_count_a1, V_d1⟩
set_option maxRecDepth 65536 in
set_option maxHeartbeats 40000000 in
theorem rm12_28 (l : Launch) (Z : State) (a0 : Array Value) (hw : HW a0 Z) (ws : List Jvm.Cond) (a1 a2 d1 : Addr) (kd : ClassId) (cs : List Int32) (t1 : Addr) (k1 : ClassId) (ds : List Int32) (wC : Int32) (h0 : Heap) (n0 : Nat) (Z0 : n0 ≤ h0.size) (SC : SS Z h0 wC) (hz : ¬ wC = 0) (hcs : cs.length = 28) (hds : ds.length = 2) (E_a1 : EB Z h0 a1) (F_coder_a1 : FC Z h0 a1 (.int 0)) (F_value_a1 : FV Z h0 a1 (.ref d1)) (F_count_a1 : FN Z h0 a1 (.int 28)) (V_d1 : Arv Z h0 d1 kd .byte (34 : Int32) (LB cs) (.int 0)) (E_a2 : ES Z h0 a2) (F_coder_a2 : GC Z h0 a2 (.int 0)) (F_value_a2 : GV Z h0 a2 (.ref t1)) (V_t1 : Arv Z h0 t1 k1 .byte (2 : Int32) (LB ds) (.int 0)) (g_a1 : n0 ≤ a1) (g_d1 : n0 ≤ d1) (ne_a1_d1 : a1 ≠ d1) (ne_a1_a2 : a1 ≠ a2) (ne_a1_t1 : a1 ≠ t1) (ne_d1_a2 : d1 ≠ a2) (ne_d1_t1 : d1 ≠ t1) :
    MF l mn19 jdk_67_method_7_code 2 (some (.object "java/lang/StringBuilder")) ws (RM 4 0 0 61) #[.ref a1, .ref a2] Z h0 (QW [a1, d1] (some (.ref a1)) (fun h => FC Z h a1 (.int 0) ∧ FV Z h a1 (.ref d1) ∧ FN Z h a1 (.int 30) ∧ Arv Z h d1 kd .byte (34 : Int32) (LB (cs ++ ds)) (.int 0)) h0 n0) := by
  refine MetFree.of_bodySF (plainFor_of_name pn_32) hisR ?_
  intro p e s m args below meth c s₁ Bd hml0 hP hK
  obtain ⟨rfl, hZ, hh⟩ := hP
  have hx := Bd.exec
  have hby := Bd.bytes
  have hml : c.maxLocals = 2 := hml0
  have hown : s.vm.findClass "java/lang/StringBuilder" = some m.cls := findClass_of_methodNamed Bd.named
  have hnm := (name_of_methodNamed Bd.named Bd.method).1
  have X0 : Stand p l e (RM 4 0 0 61) s m #[.ref a1, .ref a2] below meth c s₁ [] 0 0 := Stand.of_body Bd
  have e0 : s₁.heap = h0 := by rw [← hh, Bd.state]; rfl
  have N0 := Fr.nil n0
  have pre0 : GO p e below (s₁.setTop (mkF m 0 #[.val (.ref a1), .val (.ref a2)] [])) (s₁.setTop (entryFrame m #[.ref a1, .ref a2] 2)) := fun t k => castTop (ef_12 m a1 a2) k
  have KK := Keep.refl h0 [a1, d1]
  obtain ⟨_, _, ⟨T166, _, _, _⟩, -, X166, ⟨_, hQ166, l166, y166, z166⟩, st166⟩ := superBack X0 hx hZ (y := mn18) hown (ww hw 81 rfl) (own_same (ww hw 82 rfl) (ww hw 101 rfl) rfl (by decide)) (ww hw 82 rfl) (ww hw 83 rfl) (by decide) (backOf (W := 0) (rm13_28 l Z a0 hw [] a1 a2 d1 kd cs t1 k1 ds wC h0 n0 Z0 SC hz hcs hds E_a1 F_coder_a1 F_value_a1 F_count_a1 V_d1 E_a2 F_coder_a2 F_value_a2 V_t1 g_a1 g_d1 ne_a1_d1 ne_a1_a2 ne_a1_t1 ne_d1_a2 ne_d1_t1) hZ (ww hw 85 rfl) (ww hw 65 rfl) (by decide) (by decide)) e0 (Ins.self E_a1) (g := (mkF m 2 #[.val (.ref a1), .val (.ref a2)] [.ref a2, .ref a1])) rfl (by rw [hml]; rfl) (ww hw 85 rfl) (argsL := [.ref a2]) (rest := []) (lenOf pd_12 rfl) rfl (wz rfl) (hb hby d12_2) (fun _ _ => ⟨rfl, e0, (by decide : 0 + 0 ≤ _), (by decide : 0 + 0 ≤ _)⟩)
  dsimp only [Pt.U, Pt.locs, Pt.cells, Pt.slots] at X166 l166 y166 z166 st166 hQ166
  rw [l166, y166, z166] at X166
  obtain ⟨h166, e166⟩ : ∃ z, T166.heap = z := ⟨_, rfl⟩
  rw [e166] at hQ166
  obtain ⟨rfl, N166q, K166, G166_0, G166_1, G166_2, G166_3⟩ := hQ166
  replace SC := own_stakeep SC K166 (nsS (Exa.nostat E_a1) (nsS (Arv.nostat V_d1) ns0))
  replace E_a1 := E_a1.keep K166
  replace E_a2 := E_a2.keep K166
  replace F_coder_a2 := F_coder_a2.keep K166 (ninS (Ne.symm ne_a1_a2) (ninS (Ne.symm ne_d1_a2) nin0))
  replace F_value_a2 := F_value_a2.keep K166 (ninS (Ne.symm ne_a1_a2) (ninS (Ne.symm ne_d1_a2) nin0))
  replace V_t1 := V_t1.keep K166 (ninS (Ne.symm ne_a1_t1) (ninS (Ne.symm ne_d1_t1) nin0))
  replace Z0 := Nat.le_trans Z0 K166.1
  replace KK := KK.trans K166 (allS (Or.inl (List.mem_of_getElem? (i := 0) rfl)) (allS (Or.inl (List.mem_of_getElem? (i := 1) rfl)) all0))
  have F_coder_a1 : FC Z h166 a1 (.int 0) := G166_0
  have F_value_a1 : FV Z h166 a1 (.ref d1) := G166_1
  have F_count_a1 : FN Z h166 a1 (.int 30) := G166_2
  have V_d1 : Arv Z h166 d1 kd .byte (34 : Int32) (LB (cs ++ ds)) (.int 0) := G166_3
  have N166 := Fr.app N0 N166q
  obtain ⟨fs, hr, hrun, hended, hW, hsame⟩ := X166.leave (v := some (.ref a1)) (fun h => by rw [Bd.returns] at h; cases h)
  refine ⟨_, _, pre0 _ ?_, hrun, hended, _, _, rfl, ?_, ⟨_, rfl⟩, hW, hsame.mono (by decide) (by decide)⟩
  · refine y_aloadN X0 hx hby d12_0 rfl rfl ?_
    refine y_aloadN X0 hx hby d12_1 rfl rfl ?_
    refine st166.trans ?_
    show SP p e below T166 (mkF m 5 #[.val (.ref a1), .val (.ref a2)] [.ref a1]) _
    refine y_pop X166 hx hby d12_5 rfl ?_
    refine y_aloadN X166 hx hby d12_6 rfl rfl ?_
    show Steps p.tables e below (T166.setTop (mkF m 7 #[.val (.ref a1), .val (.ref a2)] [.ref a1])) _
    jvm_step X166.here [X166.here.top, hx, (hb hby d12_7), X166.method', Bd.returns, Value.isRef, FieldType.isReference]
    first | (intro acts; rw [hr _ acts rfl rfl rfl]) | rw [hr _ _ rfl rfl rfl]
    exact Steps.refl _
  · show QW _ _ _ h0 n0 _ T166.heap _
    rw [e166]
    exact ⟨rfl, N166, KK, F_coder_a1, F_value_a1, F_count_a1, V_d1⟩
set_option maxRecDepth 65536 in
set_option maxHeartbeats 40000000 in
theorem rm24_30 (l : Launch) (Z : State) (a0 : Array Value) (hw : HW a0 Z) (ws : List Jvm.Cond) (a1 a2 : Addr) (kd : ClassId) (cs : List Int32) (t1 : Addr) (k1 : ClassId) (ds : List Int32) (wC : Int32) (h0 : Heap) (n0 : Nat) (Z0 : n0 ≤ h0.size) (SC : SS Z h0 wC) (hz : ¬ wC = 0) (hcs : cs.length = 30) (hds : ds.length = 7) (E_a1 : ES Z h0 a1) (F_coder_a1 : GC Z h0 a1 (.int 0)) (F_value_a1 : GV Z h0 a1 (.ref t1)) (V_t1 : Arv Z h0 t1 k1 .byte (7 : Int32) (LB ds) (.int 0)) (V_a2 : Arv Z h0 a2 kd .byte (70 : Int32) (LB cs) (.int 0)) (g_a2 : n0 ≤ a2) (ne_a2_t1 : a2 ≠ t1) (ne_a2_a1 : a2 ≠ a1) :
    MF l mn16 jdk_42_method_147_code 4 none ws (RM 1 0 0 18) #[.ref a1, .ref a2, .int 30, .int 0] Z h0 (QW [a2] none (fun h => Arv Z h a2 kd .byte (70 : Int32) (LB (cs ++ ds)) (.int 0)) h0 n0) := by
  refine MetFree.of_bodySF (plainFor_of_name pn_15) hisR ?_
  intro p e s m args below meth c s₁ Bd hml0 hP hK
  obtain ⟨rfl, hZ, hh⟩ := hP
  have hx := Bd.exec
  have hby := Bd.bytes
  have hml : c.maxLocals = 4 := hml0
  have hown : s.vm.findClass "java/lang/String" = some m.cls := findClass_of_methodNamed Bd.named
  have hnm := (name_of_methodNamed Bd.named Bd.method).1
  have X0 : Stand p l e (RM 1 0 0 18) s m #[.ref a1, .ref a2, .int 30, .int 0] below meth c s₁ [] 0 0 := Stand.of_body Bd
  have e0 : s₁.heap = h0 := by rw [← hh, Bd.state]; rfl
  have N0 := Fr.nil n0
  have pre0 : GO p e below (s₁.setTop (mkF m 0 #[.val (.ref a1), .val (.ref a2), .val (.int 30), .val (.int 0)] [])) (s₁.setTop (entryFrame m #[.ref a1, .ref a2, .int 30, .int 0] 4)) := fun t k => castTop (ef_24 m a1 a2 (30 : Int32) (0 : Int32)) k
  have KK := Keep.refl h0 [a2]
  obtain ⟨cq167, kq167, q167a, q167b, q167c⟩ := isOf hZ e0 E_a1
  obtain ⟨_, _, ⟨T167, _, _, _⟩, -, X167, ⟨_, hQ167, l167, y167, z167⟩, st167⟩ := X0.virtualBack hx (y := mn0) (z := mn0) hown (mvT hZ (ww hw 91 rfl)) (mvT hZ (ww hw 92 rfl)) (notFace_of_selects (args := #[]) (mvT hZ (ww hw 94 rfl))) (mvT hZ (ww hw 94 rfl)) (mvT hZ (ww hw 93 rfl)) (by decide) (backOf (W := 0) (rm15 l Z a0 hw [] a1 wC h0 n0 Z0 SC hz F_coder_a1) hZ (ww hw 95 rfl) (ww hw 2 rfl) (by decide) (by decide)) q167a q167c (g := (mkF m 1 #[.val (.ref a1), .val (.ref a2), .val (.int 30), .val (.int 0)] [.ref a1])) rfl (by rw [hml]; rfl) (Steps.refl _) (argsL := []) (rest := []) (lenOf pd_2 rfl) rfl (wz rfl) (hb hby d24_1) (fun _ _ => ⟨rfl, e0, (by decide : 0 + 0 ≤ _), (by decide : 0 + 0 ≤ _)⟩)
  dsimp only [Pt.U, Pt.locs, Pt.cells, Pt.slots] at X167 l167 y167 z167 st167 hQ167
  rw [l167, y167, z167] at X167
  obtain ⟨rfl, N167q, e167⟩ := hQ167
  have q167 : f15 a1 wC = (0 : Int32) := rfl
  rw [q167] at st167
  have N167 := Fr.app N0 N167q
  obtain ⟨T168, X168, e168, st168⟩ := getF X167 hx hZ hown (host := "") (Or.inl (ww hw 28 rfl)) Via.refl e167 F_value_a1 (g := (mkF m 9 #[.val (.ref a1), .val (.ref a2), .val (.int 30), .val (.int 0)] [.ref a1])) rfl rfl (hb hby d24_9)
  obtain ⟨T169, X169, e169, st169⟩ := getF X168 hx hZ hown (host := "") (Or.inl (ww hw 28 rfl)) Via.refl e168 F_value_a1 (g := (mkF m 18 #[.val (.ref a1), .val (.ref a2), .val (.int 30), .val (.int 0)] [.ref a1, .int 30, .ref a2, .int 0, .ref t1])) rfl rfl (hb hby d24_18)
  obtain ⟨cl170, Ar170, q170, Sz170, Nn170, Hh170, Gg170⟩ := id V_t1
  replace V_a2 := V_a2.pad (pad_rep (LB cs) (.int 0) ((7 : Int32)).toNatClampNeg)
  obtain ⟨T171, h171, L171, X171, e171, N171, K171, Vn171, st171⟩ := cpA X169 hx hZ hown (ww hw 145 rfl) (ww hw 128 rfl) (ww hw 126 rfl) (ww hw 127 rfl) e169 (us := (LB ds)) V_t1 V_a2 (Or.inl ⟨rfl, rfl⟩) (by decide) (by decide) (by decide) (by decide) (by decide) (own_us ((own_lblen ds).trans (show (7 : Int32).toNatClampNeg = List.length ds from by rw [hds]; rfl).symm)) (own_catlen (zm := (7 : Int32)) (show (30 : Int32).toNatClampNeg = List.length cs from by rw [hcs]; rfl)) N167 g_a2 (g := (mkF m 22 #[.val (.ref a1), .val (.ref a2), .val (.int 30), .val (.int 0)] [.int 7, .int 30, .ref a2, .int 0, .ref t1])) rfl (by rw [hml]; rfl) rfl (hb hby d24_22) (by decide) (W := 0) (wz rfl) (by decide)
  replace SC := own_stakeep SC K171 (nsS (Arv.nostat V_a2) ns0)
  replace E_a1 := E_a1.keep K171
  replace F_coder_a1 := F_coder_a1.keep K171 (ninS (Ne.symm ne_a2_a1) nin0)
  replace F_value_a1 := F_value_a1.keep K171 (ninS (Ne.symm ne_a2_a1) nin0)
  replace V_t1 := V_t1.keep K171 (ninS (Ne.symm ne_a2_t1) nin0)
  replace Z0 := Nat.le_trans Z0 K171.1
  replace KK := KK.trans K171 (allS (Or.inl (List.mem_of_getElem? (i := 0) rfl)) all0)
  have V_a2 : Arv Z h171 a2 kd .byte (70 : Int32) (LB (cs ++ ds)) (.int 0) := by rw [own_cat (show (30 : Int32).toNatClampNeg = List.length cs from by rw [hcs]; rfl) (show (7 : Int32).toNatClampNeg = List.length ds from by rw [hds]; rfl)] at Vn171; exact Vn171
  obtain ⟨fs, hr, hrun, hended, hW, hsame⟩ := X171.leave (v := none) (fun _ => rfl)
  refine ⟨_, _, pre0 _ ?_, hrun, hended, _, _, rfl, ?_, ⟨_, rfl⟩, hW, hsame.mono (by decide) (by decide)⟩
  · refine y_aloadN X0 hx hby d24_0 rfl rfl ?_
    refine st167.trans ?_
    show SP p e below T167 (mkF m 4 #[.val (.ref a1), .val (.ref a2), .val (.int 30), .val (.int 0)] [.int 0]) _
    refine y_iloadN X167 hx hby d24_4 rfl ?_
    refine y_icmpNo X167 hx hby d24_5 (teq rfl).2 ?_
    refine y_aloadN X167 hx hby d24_8 rfl rfl ?_
    refine st168 _ ?_
    show SP p e below T168 (mkF m 12 #[.val (.ref a1), .val (.ref a2), .val (.int 30), .val (.int 0)] [.ref t1]) _
    refine y_iconst X168 hx hby (v := (0 : Int32)) d24_12 rfl ?_
    refine y_aloadN X168 hx hby d24_13 rfl rfl ?_
    refine y_iloadN X168 hx hby d24_14 rfl ?_
    refine y_iloadN X168 hx hby d24_15 rfl ?_
    refine y_ishl X168 hx hby d24_16 ?_
    rw [show ((30 : Int32) <<< ((0 : Int32) &&& 31)) = (30 : Int32) from by decide]
    refine y_aloadN X168 hx hby d24_17 rfl rfl ?_
    refine st169 _ ?_
    show SP p e below T169 (mkF m 21 #[.val (.ref a1), .val (.ref a2), .val (.int 30), .val (.int 0)] [.ref t1, .int 30, .ref a2, .int 0, .ref t1]) _
    refine X169.arraylength hx (by rw [e169]; exact Ar170.1) (State.isArrayOf_alike hZ.alike Ar170.2.1) (g := (mkF m 21 #[.val (.ref a1), .val (.ref a2), .val (.int 30), .val (.int 0)] [.ref t1, .int 30, .ref a2, .int 0, .ref t1])) rfl rfl (hb hby d24_21) _ ?_
    rw [len_of Sz170 Nn170]
    show SP p e below T169 (mkF m 22 #[.val (.ref a1), .val (.ref a2), .val (.int 30), .val (.int 0)] [.int 7, .int 30, .ref a2, .int 0, .ref t1]) _
    refine st171 _ ?_
    show SP p e below T171 (mkF m 25 #[.val (.ref a1), .val (.ref a2), .val (.int 30), .val (.int 0)] []) _
    refine y_goto X171 hx hby (pc' := 43) d24_25 (by decide) (by decide) ?_
    show Steps p.tables e below (T171.setTop (mkF m 43 #[.val (.ref a1), .val (.ref a2), .val (.int 30), .val (.int 0)] [])) _
    exact X171.returnOut hx Bd.returns (hb hby d24_43) hr
  · show QW _ _ _ h0 n0 _ T171.heap _
    rw [e171]
    exact ⟨rfl, N171, KK, V_a2⟩
set_option maxRecDepth 65536 in
set_option maxHeartbeats 40000000 in
theorem rm22_30 (l : Launch) (Z : State) (a0 : Array Value) (hw : HW a0 Z) (ws : List Jvm.Cond) (a1 a3 d1 : Addr) (kd : ClassId) (cs : List Int32) (t1 : Addr) (k1 : ClassId) (ds : List Int32) (wC : Int32) (h0 : Heap) (n0 : Nat) (Z0 : n0 ≤ h0.size) (SC : SS Z h0 wC) (hz : ¬ wC = 0) (hcs : cs.length = 30) (hds : ds.length = 7) (E_a1 : EB Z h0 a1) (F_coder_a1 : FC Z h0 a1 (.int 0)) (F_value_a1 : FV Z h0 a1 (.ref d1)) (V_d1 : Arv Z h0 d1 kd .byte (70 : Int32) (LB cs) (.int 0)) (E_a3 : ES Z h0 a3) (F_coder_a3 : GC Z h0 a3 (.int 0)) (F_value_a3 : GV Z h0 a3 (.ref t1)) (V_t1 : Arv Z h0 t1 k1 .byte (7 : Int32) (LB ds) (.int 0)) (g_d1 : n0 ≤ d1) (ne_a1_d1 : a1 ≠ d1) (ne_d1_a3 : d1 ≠ a3) (ne_d1_t1 : d1 ≠ t1) :
    MF l mn17 jdk_68_method_73_code 3 none ws (RM 2 0 0 33) #[.ref a1, .int 30, .ref a3] Z h0 (QW [d1] none (fun h => Arv Z h d1 kd .byte (70 : Int32) (LB (cs ++ ds)) (.int 0)) h0 n0) := by
  refine MetFree.of_bodySF (plainFor_of_name pn_17) hisR ?_
  intro p e s m args below meth c s₁ Bd hml0 hP hK
  obtain ⟨rfl, hZ, hh⟩ := hP
  have hx := Bd.exec
  have hby := Bd.bytes
  have hml : c.maxLocals = 3 := hml0
  have hown : s.vm.findClass "java/lang/AbstractStringBuilder" = some m.cls := findClass_of_methodNamed Bd.named
  have hnm := (name_of_methodNamed Bd.named Bd.method).1
  have X0 : Stand p l e (RM 2 0 0 33) s m #[.ref a1, .int 30, .ref a3] below meth c s₁ [] 0 0 := Stand.of_body Bd
  have e0 : s₁.heap = h0 := by rw [← hh, Bd.state]; rfl
  have N0 := Fr.nil n0
  have pre0 : GO p e below (s₁.setTop (mkF m 0 #[.val (.ref a1), .val (.int 30), .val (.ref a3)] [])) (s₁.setTop (entryFrame m #[.ref a1, .int 30, .ref a3] 3)) := fun t k => castTop (ef_22 m a1 (30 : Int32) a3) k
  have KK := Keep.refl h0 [d1]
  obtain ⟨cq172, q172a, q172b⟩ := Exa.cell E_a1
  obtain ⟨_, _, ⟨T172, _, _, _⟩, -, X172, ⟨_, hQ172, l172, y172, z172⟩, st172⟩ := X0.privateBack hx (y := mn6) hown (mvT hZ (ww hw 134 rfl)) (mvT hZ (ww hw 135 rfl)) (mvT hZ (own_selp (ww hw 136 rfl) (ww hw 135 rfl) (ww hw 137 rfl) (by decide))) (Cond.privateMethod_at (mvP hZ (ww hw 136 rfl) (args := #[]))) (mvT hZ (ww hw 138 rfl)) (by decide) (backOf (W := 0) (rm23 l Z a0 hw [] a1 a3 wC h0 n0 Z0 SC hz F_coder_a1 E_a3 F_coder_a3) hZ (ww hw 138 rfl) (ww hw 65 rfl) (by decide) (by decide)) (g := (mkF m 2 #[.val (.ref a1), .val (.int 30), .val (.ref a3)] [.ref a3, .ref a1])) rfl (by rw [hml]; rfl) (Steps.refl _) (a := a1) (by rw [e0]; exact q172a) q172b (argsL := [.ref a3]) (rest := []) (lenOf pd_8 rfl) rfl (wz rfl) (hb hby d22_2) (fun _ _ => ⟨rfl, e0, (by decide : 0 + 0 ≤ _), (by decide : 0 + 0 ≤ _)⟩)
  dsimp only [Pt.U, Pt.locs, Pt.cells, Pt.slots] at X172 l172 y172 z172 st172 hQ172
  rw [l172, y172, z172] at X172
  obtain ⟨rfl, N172q, e172⟩ := hQ172
  have N172 := Fr.app N0 N172q
  obtain ⟨T173, X173, e173, st173⟩ := getF X172 hx hZ hown (host := "") (Or.inl (ww hw 69 rfl)) Via.refl e172 F_value_a1 (g := (mkF m 7 #[.val (.ref a1), .val (.int 30), .val (.ref a3)] [.ref a1, .ref a3])) rfl rfl (hb hby d22_7)
  obtain ⟨T174, X174, e174, st174⟩ := getF X173 hx hZ hown (host := "") (Or.inl (ww hw 71 rfl)) Via.refl e173 F_coder_a1 (g := (mkF m 12 #[.val (.ref a1), .val (.int 30), .val (.ref a3)] [.ref a1, .int 30, .ref d1, .ref a3])) rfl rfl (hb hby d22_12)
  obtain ⟨cq175, kq175, q175a, q175b, q175c⟩ := isOf hZ e174 E_a3
  obtain ⟨_, _, ⟨T175, _, _, _⟩, -, X175, ⟨_, hQ175, l175, y175, z175⟩, st175⟩ := X174.virtualBack hx (y := mn16) (z := mn16) hown (mvT hZ (ww hw 140 rfl)) (mvT hZ (ww hw 141 rfl)) (notFace_of_selects (args := #[]) (mvT hZ (ww hw 143 rfl))) (mvT hZ (ww hw 143 rfl)) (mvT hZ (ww hw 142 rfl)) (by decide) (backOf (W := 0) (rm24_30 l Z a0 hw [] a3 d1 kd cs t1 k1 ds wC h0 n0 Z0 SC hz hcs hds E_a3 F_coder_a3 F_value_a3 V_t1 V_d1 g_d1 ne_d1_t1 ne_d1_a3) hZ (ww hw 144 rfl) (ww hw 2 rfl) (by decide) (by decide)) q175a q175c (g := (mkF m 15 #[.val (.ref a1), .val (.int 30), .val (.ref a3)] [.int 0, .int 30, .ref d1, .ref a3])) rfl (by rw [hml]; rfl) (Steps.refl _) (argsL := [.ref d1, .int 30, .int 0]) (rest := []) (lenOf pd_9 rfl) rfl (wz rfl) (hb hby d22_15) (fun _ _ => ⟨rfl, e174, (by decide : 0 + 0 ≤ _), (by decide : 0 + 0 ≤ _)⟩)
  dsimp only [Pt.U, Pt.locs, Pt.cells, Pt.slots] at X175 l175 y175 z175 st175 hQ175
  rw [l175, y175, z175] at X175
  obtain ⟨h175, e175⟩ : ∃ z, T175.heap = z := ⟨_, rfl⟩
  rw [e175] at hQ175
  obtain ⟨rfl, N175q, K175, G175_0⟩ := hQ175
  replace SC := own_stakeep SC K175 (nsS (Arv.nostat V_d1) ns0)
  replace E_a1 := E_a1.keep K175
  replace F_coder_a1 := F_coder_a1.keep K175 (ninS ne_a1_d1 nin0)
  replace F_value_a1 := F_value_a1.keep K175 (ninS ne_a1_d1 nin0)
  replace E_a3 := E_a3.keep K175
  replace F_coder_a3 := F_coder_a3.keep K175 (ninS (Ne.symm ne_d1_a3) nin0)
  replace F_value_a3 := F_value_a3.keep K175 (ninS (Ne.symm ne_d1_a3) nin0)
  replace V_t1 := V_t1.keep K175 (ninS (Ne.symm ne_d1_t1) nin0)
  replace Z0 := Nat.le_trans Z0 K175.1
  replace KK := KK.trans K175 (allS (Or.inl (List.mem_of_getElem? (i := 0) rfl)) all0)
  have V_d1 : Arv Z h175 d1 kd .byte (70 : Int32) (LB (cs ++ ds)) (.int 0) := G175_0
  have N175 := Fr.app N172 N175q
  obtain ⟨fs, hr, hrun, hended, hW, hsame⟩ := X175.leave (v := none) (fun _ => rfl)
  refine ⟨_, _, pre0 _ ?_, hrun, hended, _, _, rfl, ?_, ⟨_, rfl⟩, hW, hsame.mono (by decide) (by decide)⟩
  · refine y_aloadN X0 hx hby d22_0 rfl rfl ?_
    refine y_aloadN X0 hx hby d22_1 rfl rfl ?_
    refine st172.trans ?_
    show SP p e below T172 (mkF m 5 #[.val (.ref a1), .val (.int 30), .val (.ref a3)] []) _
    refine y_aloadN X172 hx hby d22_5 rfl rfl ?_
    refine y_aloadN X172 hx hby d22_6 rfl rfl ?_
    refine st173 _ ?_
    show SP p e below T173 (mkF m 10 #[.val (.ref a1), .val (.int 30), .val (.ref a3)] [.ref d1, .ref a3]) _
    refine y_iloadN X173 hx hby d22_10 rfl ?_
    refine y_aloadN X173 hx hby d22_11 rfl rfl ?_
    refine st174 _ ?_
    show SP p e below T174 (mkF m 15 #[.val (.ref a1), .val (.int 30), .val (.ref a3)] [.int 0, .int 30, .ref d1, .ref a3]) _
    refine st175.trans ?_
    show Steps p.tables e below (T175.setTop (mkF m 18 #[.val (.ref a1), .val (.int 30), .val (.ref a3)] [])) _
    exact X175.returnOut hx Bd.returns (hb hby d22_18) hr
  · show QW _ _ _ h0 n0 _ T175.heap _
    rw [e175]
    exact ⟨rfl, N175, KK, V_d1⟩
set_option maxRecDepth 65536 in
set_option maxHeartbeats 40000000 in
theorem rm13_30 (l : Launch) (Z : State) (a0 : Array Value) (hw : HW a0 Z) (ws : List Jvm.Cond) (a1 a2 d1 : Addr) (kd : ClassId) (cs : List Int32) (t1 : Addr) (k1 : ClassId) (ds : List Int32) (wC : Int32) (h0 : Heap) (n0 : Nat) (Z0 : n0 ≤ h0.size) (SC : SS Z h0 wC) (hz : ¬ wC = 0) (hcs : cs.length = 30) (hds : ds.length = 7) (E_a1 : EB Z h0 a1) (F_coder_a1 : FC Z h0 a1 (.int 0)) (F_value_a1 : FV Z h0 a1 (.ref d1)) (F_count_a1 : FN Z h0 a1 (.int 30)) (V_d1 : Arv Z h0 d1 kd .byte (34 : Int32) (LB cs) (.int 0)) (E_a2 : ES Z h0 a2) (F_coder_a2 : GC Z h0 a2 (.int 0)) (F_value_a2 : GV Z h0 a2 (.ref t1)) (V_t1 : Arv Z h0 t1 k1 .byte (7 : Int32) (LB ds) (.int 0)) (g_a1 : n0 ≤ a1) (ne_a1_d1 : a1 ≠ d1) (ne_a1_a2 : a1 ≠ a2) (ne_a1_t1 : a1 ≠ t1) :
    MF l mn18 jdk_68_method_22_code 3 (some (.object "java/lang/AbstractStringBuilder")) ws (RM 4 1 70 62) #[.ref a1, .ref a2] Z h0 (QW [a1] (some (.ref a1)) (fun h => ∃ d k, h0.size ≤ d ∧ FC Z h a1 (.int 0) ∧ FV Z h a1 (.ref d) ∧ FN Z h a1 (.int 37) ∧ Arv Z h d k .byte (70 : Int32) (LB (cs ++ ds)) (.int 0)) h0 n0) := by
  refine MetFree.of_bodySF (plainFor_of_name pn_17) hisR ?_
  intro p e s m args below meth c s₁ Bd hml0 hP hK
  obtain ⟨rfl, hZ, hh⟩ := hP
  have hx := Bd.exec
  have hby := Bd.bytes
  have hml : c.maxLocals = 3 := hml0
  have hown : s.vm.findClass "java/lang/AbstractStringBuilder" = some m.cls := findClass_of_methodNamed Bd.named
  have hnm := (name_of_methodNamed Bd.named Bd.method).1
  have X0 : Stand p l e (RM 4 1 70 62) s m #[.ref a1, .ref a2] below meth c s₁ [] 0 0 := Stand.of_body Bd
  have e0 : s₁.heap = h0 := by rw [← hh, Bd.state]; rfl
  have N0 := Fr.nil n0
  have pre0 : GO p e below (s₁.setTop (mkF m 0 #[.val (.ref a1), .val (.ref a2), .unset] [])) (s₁.setTop (entryFrame m #[.ref a1, .ref a2] 3)) := fun t k => castTop (ef_13 m a1 a2) k
  have KK := Keep.refl h0 [a1]
  obtain ⟨cq176, kq176, q176a, q176b, q176c⟩ := isOf hZ e0 E_a2
  obtain ⟨_, _, ⟨T176, _, _, _⟩, -, X176, ⟨_, hQ176, l176, y176, z176⟩, st176⟩ := X0.virtualBack hx (y := mn5) (z := mn5) hown (mvT hZ (ww hw 86 rfl)) (mvT hZ (ww hw 87 rfl)) (notFace_of_selects (args := #[]) (mvT hZ (ww hw 89 rfl))) (mvT hZ (ww hw 89 rfl)) (mvT hZ (ww hw 88 rfl)) (by decide) (backOf (W := 0) (rm14_7 l Z a0 hw [] a2 t1 k1 ds wC h0 n0 Z0 SC hz E_a2 F_coder_a2 F_value_a2 V_t1) hZ (ww hw 90 rfl) (ww hw 2 rfl) (by decide) (by decide)) q176a q176c (g := (mkF m 10 #[.val (.ref a1), .val (.ref a2), .unset] [.ref a2])) rfl (by rw [hml]; rfl) (Steps.refl _) (argsL := []) (rest := []) (lenOf pd_3 rfl) rfl (wz rfl) (hb hby d13_10) (fun _ _ => ⟨rfl, e0, (by decide : 0 + 0 ≤ _), (by decide : 0 + 0 ≤ _)⟩)
  dsimp only [Pt.U, Pt.locs, Pt.cells, Pt.slots] at X176 l176 y176 z176 st176 hQ176
  rw [l176, y176, z176] at X176
  obtain ⟨rfl, N176q, e176⟩ := hQ176
  have N176 := Fr.app N0 N176q
  obtain ⟨T177, X177, e177, st177⟩ := getF X176 hx hZ hown (host := "") (Or.inl (ww hw 96 rfl)) Via.refl e176 F_count_a1 (g := (mkF m 16 #[.val (.ref a1), .val (.ref a2), .val (.int 7)] [.ref a1, .ref a1])) rfl rfl (hb hby d13_16)
  obtain ⟨cq178, q178a, q178b⟩ := Exa.cell E_a1
  obtain ⟨_, _, ⟨T178, _, _, _⟩, -, X178, ⟨_, hQ178, l178, y178, z178⟩, st178⟩ := X177.privateBack hx (y := mn15) hown (mvT hZ (ww hw 98 rfl)) (mvT hZ (ww hw 99 rfl)) (mvT hZ (own_selp (ww hw 100 rfl) (ww hw 99 rfl) (ww hw 101 rfl) (by decide))) (Cond.privateMethod_at (mvP hZ (ww hw 100 rfl) (args := #[]))) (mvT hZ (ww hw 102 rfl)) (by decide) (backOf (W := 0) (rm16_g70 l Z a0 hw [] a1 d1 kd cs h0 n0 Z0 hcs E_a1 F_coder_a1 F_value_a1 F_count_a1 V_d1 g_a1 ne_a1_d1) hZ (ww hw 102 rfl) (ww hw 65 rfl) (by decide) (by decide)) (g := (mkF m 21 #[.val (.ref a1), .val (.ref a2), .val (.int 7)] [.int 37, .ref a1])) rfl (by rw [hml]; rfl) (Steps.refl _) (a := a1) (by rw [e177]; exact q178a) q178b (argsL := [.int 37]) (rest := []) (lenOf pd_10 rfl) rfl (wz rfl) (hb hby d13_21) (fun _ _ => ⟨rfl, e177, (by decide : 0 + 1 ≤ _), (by decide : 0 + 70 ≤ _)⟩)
  dsimp only [Pt.U, Pt.locs, Pt.cells, Pt.slots] at X178 l178 y178 z178 st178 hQ178
  rw [l178, y178, z178] at X178
  obtain ⟨h178, e178⟩ : ∃ z, T178.heap = z := ⟨_, rfl⟩
  rw [e178] at hQ178
  obtain ⟨rfl, N178q, K178, B178, kb178, szn178, G178_0, G178_1, G178_2, G178_3⟩ := hQ178
  have g_B178 : n0 ≤ B178 := Nat.le_trans Z0 szn178
  have sz_B178 : h0.size ≤ B178 := Nat.le_trans KK.1 szn178
  have ne_a1_B178 : a1 ≠ B178 := Nat.ne_of_lt (Nat.lt_of_lt_of_le E_a1.lt szn178)
  have ne_d1_B178 : d1 ≠ B178 := Nat.ne_of_lt (Nat.lt_of_lt_of_le V_d1.lt szn178)
  have ne_a2_B178 : a2 ≠ B178 := Nat.ne_of_lt (Nat.lt_of_lt_of_le E_a2.lt szn178)
  have ne_t1_B178 : t1 ≠ B178 := Nat.ne_of_lt (Nat.lt_of_lt_of_le V_t1.lt szn178)
  replace SC := own_stakeep SC K178 (nsS (Exa.nostat E_a1) ns0)
  replace E_a1 := E_a1.keep K178
  replace V_d1 := V_d1.keep K178 (ninS (Ne.symm ne_a1_d1) nin0)
  replace E_a2 := E_a2.keep K178
  replace F_coder_a2 := F_coder_a2.keep K178 (ninS (Ne.symm ne_a1_a2) nin0)
  replace F_value_a2 := F_value_a2.keep K178 (ninS (Ne.symm ne_a1_a2) nin0)
  replace V_t1 := V_t1.keep K178 (ninS (Ne.symm ne_a1_t1) nin0)
  replace Z0 := Nat.le_trans Z0 K178.1
  replace KK := KK.trans K178 (allS (Or.inl (List.mem_of_getElem? (i := 0) rfl)) all0)
  have F_coder_a1 : FC Z h178 a1 (.int 0) := G178_0
  have F_value_a1 : FV Z h178 a1 (.ref B178) := G178_1
  have F_count_a1 : FN Z h178 a1 (.int 30) := G178_2
  have V_B178 : Arv Z h178 B178 kb178 .byte (70 : Int32) (LB cs) (.int 0) := G178_3
  have N178 := Fr.app N176 N178q
  obtain ⟨T179, X179, e179, st179⟩ := getF X178 hx hZ hown (host := "") (Or.inl (ww hw 96 rfl)) Via.refl e178 F_count_a1 (g := (mkF m 26 #[.val (.ref a1), .val (.ref a2), .val (.int 7)] [.ref a1, .ref a1])) rfl rfl (hb hby d13_26)
  obtain ⟨cq180, q180a, q180b⟩ := Exa.cell E_a1
  obtain ⟨_, _, ⟨T180, _, _, _⟩, -, X180, ⟨_, hQ180, l180, y180, z180⟩, st180⟩ := X179.privateBack hx (y := mn17) hown (mvT hZ (ww hw 129 rfl)) (mvT hZ (ww hw 130 rfl)) (mvT hZ (own_selp (ww hw 131 rfl) (ww hw 130 rfl) (ww hw 132 rfl) (by decide))) (Cond.privateMethod_at (mvP hZ (ww hw 131 rfl) (args := #[]))) (mvT hZ (ww hw 133 rfl)) (by decide) (backOf (W := 0) (rm22_30 l Z a0 hw [] a1 a2 B178 kb178 cs t1 k1 ds wC h178 n0 Z0 SC hz hcs hds E_a1 F_coder_a1 F_value_a1 V_B178 E_a2 F_coder_a2 F_value_a2 V_t1 g_B178 ne_a1_B178 (Ne.symm ne_a2_B178) (Ne.symm ne_t1_B178)) hZ (ww hw 133 rfl) (ww hw 65 rfl) (by decide) (by decide)) (g := (mkF m 30 #[.val (.ref a1), .val (.ref a2), .val (.int 7)] [.ref a2, .int 30, .ref a1])) rfl (by rw [hml]; rfl) (Steps.refl _) (a := a1) (by rw [e179]; exact q180a) q180b (argsL := [.int 30, .ref a2]) (rest := []) (lenOf pd_11 rfl) rfl (wz rfl) (hb hby d13_30) (fun _ _ => ⟨rfl, e179, (by decide : 1 + 0 ≤ _), (by decide : 70 + 0 ≤ _)⟩)
  dsimp only [Pt.U, Pt.locs, Pt.cells, Pt.slots] at X180 l180 y180 z180 st180 hQ180
  rw [l180, y180, z180] at X180
  obtain ⟨h180, e180⟩ : ∃ z, T180.heap = z := ⟨_, rfl⟩
  rw [e180] at hQ180
  obtain ⟨rfl, N180q, K180, G180_0⟩ := hQ180
  replace SC := own_stakeep SC K180 (nsS (Arv.nostat V_B178) ns0)
  replace E_a1 := E_a1.keep K180
  replace V_d1 := V_d1.keep K180 (ninS ne_d1_B178 nin0)
  replace E_a2 := E_a2.keep K180
  replace F_coder_a2 := F_coder_a2.keep K180 (ninS ne_a2_B178 nin0)
  replace F_value_a2 := F_value_a2.keep K180 (ninS ne_a2_B178 nin0)
  replace V_t1 := V_t1.keep K180 (ninS ne_t1_B178 nin0)
  replace F_coder_a1 := F_coder_a1.keep K180 (ninS ne_a1_B178 nin0)
  replace F_value_a1 := F_value_a1.keep K180 (ninS ne_a1_B178 nin0)
  replace F_count_a1 := F_count_a1.keep K180 (ninS ne_a1_B178 nin0)
  replace Z0 := Nat.le_trans Z0 K180.1
  replace KK := KK.trans K180 (allS (Or.inr sz_B178) all0)
  have V_B178 : Arv Z h180 B178 kb178 .byte (70 : Int32) (LB (cs ++ ds)) (.int 0) := G180_0
  have N180 := Fr.app N178 N180q
  obtain ⟨T181, X181, e181, st181⟩ := getF X180 hx hZ hown (host := "") (Or.inl (ww hw 96 rfl)) Via.refl e180 F_count_a1 (g := (mkF m 35 #[.val (.ref a1), .val (.ref a2), .val (.int 7)] [.ref a1, .ref a1])) rfl rfl (hb hby d13_35)
  obtain ⟨T182, h182, X182, e182, W182, st182⟩ := putF X181 hx hZ hown (host := "") (Or.inl (ww hw 96 rfl)) Via.refl e181 F_count_a1 E_a1 (Or.inl (ww hw 97 rfl)) (ww hw 56 rfl) (ty := .int) (by decide) rfl rfl (g := (mkF m 40 #[.val (.ref a1), .val (.ref a2), .val (.int 7)] [.int 37, .ref a1])) rfl rfl (hb hby d13_40)
  replace E_a1 := E_a1.wr W182
  replace V_d1 := V_d1.other W182 (Ne.symm ne_a1_d1)
  replace E_a2 := E_a2.wr W182
  replace F_coder_a2 := F_coder_a2.other W182 (Or.inl (Ne.symm ne_a1_a2))
  replace F_value_a2 := F_value_a2.other W182 (Or.inl (Ne.symm ne_a1_a2))
  replace V_t1 := V_t1.other W182 (Ne.symm ne_a1_t1)
  replace SC := SC.wr W182
  replace F_coder_a1 := F_coder_a1.other W182 (Or.inr (slot_ne (Or.inl (ww hw 72 rfl)) (Or.inl (ww hw 97 rfl)) (by decide) (t := .byte) (t' := .int) (by decide) (by decide)))
  replace F_value_a1 := F_value_a1.other W182 (Or.inr (slot_ne (Or.inl (ww hw 70 rfl)) (Or.inl (ww hw 97 rfl)) (by decide) (t := (.array .byte)) (t' := .int) (by decide) (by decide)))
  replace F_count_a1 := F_count_a1.same W182
  replace V_B178 := V_B178.other W182 (Ne.symm ne_a1_B178)
  replace Z0 := Nat.le_trans Z0 (Keep.of_wr W182).1
  replace KK := KK.wr W182 (Or.inl (List.mem_of_getElem? (i := 0) rfl))
  have N182 := Fr.snoc X182 N180 g_a1
  obtain ⟨fs, hr, hrun, hended, hW, hsame⟩ := X182.leave (v := some (.ref a1)) (fun h => by rw [Bd.returns] at h; cases h)
  refine ⟨_, _, pre0 _ ?_, hrun, hended, _, _, rfl, ?_, ⟨_, rfl⟩, hW, hsame.mono (by decide) (by decide)⟩
  · refine y_aloadN X0 hx hby d13_0 rfl rfl ?_
    refine y_ifnonnullYes X0 hx hby (pc' := 9) d13_1 (by decide) (by decide) ?_
    refine y_aloadN X0 hx hby d13_9 rfl rfl ?_
    refine st176.trans ?_
    show SP p e below T176 (mkF m 13 #[.val (.ref a1), .val (.ref a2), .unset] [.int 7]) _
    refine y_istoreN X176 hx hby d13_13 (l' := #[.val (.ref a1), .val (.ref a2), .val (.int 7)]) rfl ?_
    refine y_aloadN X176 hx hby d13_14 rfl rfl ?_
    refine y_aloadN X176 hx hby d13_15 rfl rfl ?_
    refine st177 _ ?_
    show SP p e below T177 (mkF m 19 #[.val (.ref a1), .val (.ref a2), .val (.int 7)] [.int 30, .ref a1]) _
    refine y_iloadN X177 hx hby d13_19 rfl ?_
    refine y_iadd X177 hx hby d13_20 ?_
    rw [show ((30 : Int32) + (7 : Int32)) = (37 : Int32) from by decide]
    refine st178.trans ?_
    show SP p e below T178 (mkF m 24 #[.val (.ref a1), .val (.ref a2), .val (.int 7)] []) _
    refine y_aloadN X178 hx hby d13_24 rfl rfl ?_
    refine y_aloadN X178 hx hby d13_25 rfl rfl ?_
    refine st179 _ ?_
    show SP p e below T179 (mkF m 29 #[.val (.ref a1), .val (.ref a2), .val (.int 7)] [.int 30, .ref a1]) _
    refine y_aloadN X179 hx hby d13_29 rfl rfl ?_
    refine st180.trans ?_
    show SP p e below T180 (mkF m 33 #[.val (.ref a1), .val (.ref a2), .val (.int 7)] []) _
    refine y_aloadN X180 hx hby d13_33 rfl rfl ?_
    refine y_dup X180 hx hby d13_34 rfl ?_
    refine st181 _ ?_
    show SP p e below T181 (mkF m 38 #[.val (.ref a1), .val (.ref a2), .val (.int 7)] [.int 30, .ref a1]) _
    refine y_iloadN X181 hx hby d13_38 rfl ?_
    refine y_iadd X181 hx hby d13_39 ?_
    rw [show ((30 : Int32) + (7 : Int32)) = (37 : Int32) from by decide]
    refine st182 _ ?_
    show SP p e below T182 (mkF m 43 #[.val (.ref a1), .val (.ref a2), .val (.int 7)] []) _
    refine y_aloadN X182 hx hby d13_43 rfl rfl ?_
    show Steps p.tables e below (T182.setTop (mkF m 44 #[.val (.ref a1), .val (.ref a2), .val (.int 7)] [.ref a1])) _
    jvm_step X182.here [X182.here.top, hx, (hb hby d13_44), X182.method', Bd.returns, Value.isRef, FieldType.isReference]
    first | (intro acts; rw [hr _ acts rfl rfl rfl]) | rw [hr _ _ rfl rfl rfl]
    exact Steps.refl _
  · show QW _ _ _ h0 n0 _ T182.heap _
    rw [e182]
    exact ⟨rfl, N182, KK, _, _, sz_B178, F_coder_a1, F_value_a1, F_count_a1, V_B178⟩
set_option maxRecDepth 65536 in
set_option maxHeartbeats 40000000 in
theorem rm12_30 (l : Launch) (Z : State) (a0 : Array Value) (hw : HW a0 Z) (ws : List Jvm.Cond) (a1 a2 d1 : Addr) (kd : ClassId) (cs : List Int32) (t1 : Addr) (k1 : ClassId) (ds : List Int32) (wC : Int32) (h0 : Heap) (n0 : Nat) (Z0 : n0 ≤ h0.size) (SC : SS Z h0 wC) (hz : ¬ wC = 0) (hcs : cs.length = 30) (hds : ds.length = 7) (E_a1 : EB Z h0 a1) (F_coder_a1 : FC Z h0 a1 (.int 0)) (F_value_a1 : FV Z h0 a1 (.ref d1)) (F_count_a1 : FN Z h0 a1 (.int 30)) (V_d1 : Arv Z h0 d1 kd .byte (34 : Int32) (LB cs) (.int 0)) (E_a2 : ES Z h0 a2) (F_coder_a2 : GC Z h0 a2 (.int 0)) (F_value_a2 : GV Z h0 a2 (.ref t1)) (V_t1 : Arv Z h0 t1 k1 .byte (7 : Int32) (LB ds) (.int 0)) (g_a1 : n0 ≤ a1) (ne_a1_d1 : a1 ≠ d1) (ne_a1_a2 : a1 ≠ a2) (ne_a1_t1 : a1 ≠ t1) :
    MF l mn19 jdk_67_method_7_code 2 (some (.object "java/lang/StringBuilder")) ws (RM 5 1 70 76) #[.ref a1, .ref a2] Z h0 (QW [a1] (some (.ref a1)) (fun h => ∃ d k, h0.size ≤ d ∧ FC Z h a1 (.int 0) ∧ FV Z h a1 (.ref d) ∧ FN Z h a1 (.int 37) ∧ Arv Z h d k .byte (70 : Int32) (LB (cs ++ ds)) (.int 0)) h0 n0) := by
  refine MetFree.of_bodySF (plainFor_of_name pn_32) hisR ?_
  intro p e s m args below meth c s₁ Bd hml0 hP hK
  obtain ⟨rfl, hZ, hh⟩ := hP
  have hx := Bd.exec
  have hby := Bd.bytes
  have hml : c.maxLocals = 2 := hml0
  have hown : s.vm.findClass "java/lang/StringBuilder" = some m.cls := findClass_of_methodNamed Bd.named
  have hnm := (name_of_methodNamed Bd.named Bd.method).1
  have X0 : Stand p l e (RM 5 1 70 76) s m #[.ref a1, .ref a2] below meth c s₁ [] 0 0 := Stand.of_body Bd
  have e0 : s₁.heap = h0 := by rw [← hh, Bd.state]; rfl
  have N0 := Fr.nil n0
  have pre0 : GO p e below (s₁.setTop (mkF m 0 #[.val (.ref a1), .val (.ref a2)] [])) (s₁.setTop (entryFrame m #[.ref a1, .ref a2] 2)) := fun t k => castTop (ef_12 m a1 a2) k
  have KK := Keep.refl h0 [a1]
  obtain ⟨_, _, ⟨T183, _, _, _⟩, -, X183, ⟨_, hQ183, l183, y183, z183⟩, st183⟩ := superBack X0 hx hZ (y := mn18) hown (ww hw 81 rfl) (own_same (ww hw 82 rfl) (ww hw 101 rfl) rfl (by decide)) (ww hw 82 rfl) (ww hw 83 rfl) (by decide) (backOf (W := 0) (rm13_30 l Z a0 hw [] a1 a2 d1 kd cs t1 k1 ds wC h0 n0 Z0 SC hz hcs hds E_a1 F_coder_a1 F_value_a1 F_count_a1 V_d1 E_a2 F_coder_a2 F_value_a2 V_t1 g_a1 ne_a1_d1 ne_a1_a2 ne_a1_t1) hZ (ww hw 85 rfl) (ww hw 65 rfl) (by decide) (by decide)) e0 (Ins.self E_a1) (g := (mkF m 2 #[.val (.ref a1), .val (.ref a2)] [.ref a2, .ref a1])) rfl (by rw [hml]; rfl) (ww hw 85 rfl) (argsL := [.ref a2]) (rest := []) (lenOf pd_12 rfl) rfl (wz rfl) (hb hby d12_2) (fun _ _ => ⟨rfl, e0, (by decide : 0 + 1 ≤ _), (by decide : 0 + 70 ≤ _)⟩)
  dsimp only [Pt.U, Pt.locs, Pt.cells, Pt.slots] at X183 l183 y183 z183 st183 hQ183
  rw [l183, y183, z183] at X183
  obtain ⟨h183, e183⟩ : ∃ z, T183.heap = z := ⟨_, rfl⟩
  rw [e183] at hQ183
  obtain ⟨rfl, N183q, K183, B183, kb183, szn183, G183_0, G183_1, G183_2, G183_3⟩ := hQ183
  have g_B183 : n0 ≤ B183 := Nat.le_trans Z0 szn183
  have sz_B183 : h0.size ≤ B183 := Nat.le_trans KK.1 szn183
  have ne_a1_B183 : a1 ≠ B183 := Nat.ne_of_lt (Nat.lt_of_lt_of_le E_a1.lt szn183)
  have ne_d1_B183 : d1 ≠ B183 := Nat.ne_of_lt (Nat.lt_of_lt_of_le V_d1.lt szn183)
  have ne_a2_B183 : a2 ≠ B183 := Nat.ne_of_lt (Nat.lt_of_lt_of_le E_a2.lt szn183)
  have ne_t1_B183 : t1 ≠ B183 := Nat.ne_of_lt (Nat.lt_of_lt_of_le V_t1.lt szn183)
  replace SC := own_stakeep SC K183 (nsS (Exa.nostat E_a1) ns0)
  replace E_a1 := E_a1.keep K183
  replace V_d1 := V_d1.keep K183 (ninS (Ne.symm ne_a1_d1) nin0)
  replace E_a2 := E_a2.keep K183
  replace F_coder_a2 := F_coder_a2.keep K183 (ninS (Ne.symm ne_a1_a2) nin0)
  replace F_value_a2 := F_value_a2.keep K183 (ninS (Ne.symm ne_a1_a2) nin0)
  replace V_t1 := V_t1.keep K183 (ninS (Ne.symm ne_a1_t1) nin0)
  replace Z0 := Nat.le_trans Z0 K183.1
  replace KK := KK.trans K183 (allS (Or.inl (List.mem_of_getElem? (i := 0) rfl)) all0)
  have F_coder_a1 : FC Z h183 a1 (.int 0) := G183_0
  have F_value_a1 : FV Z h183 a1 (.ref B183) := G183_1
  have F_count_a1 : FN Z h183 a1 (.int 37) := G183_2
  have V_B183 : Arv Z h183 B183 kb183 .byte (70 : Int32) (LB (cs ++ ds)) (.int 0) := G183_3
  have N183 := Fr.app N0 N183q
  obtain ⟨fs, hr, hrun, hended, hW, hsame⟩ := X183.leave (v := some (.ref a1)) (fun h => by rw [Bd.returns] at h; cases h)
  refine ⟨_, _, pre0 _ ?_, hrun, hended, _, _, rfl, ?_, ⟨_, rfl⟩, hW, hsame.mono (by decide) (by decide)⟩
  · refine y_aloadN X0 hx hby d12_0 rfl rfl ?_
    refine y_aloadN X0 hx hby d12_1 rfl rfl ?_
    refine st183.trans ?_
    show SP p e below T183 (mkF m 5 #[.val (.ref a1), .val (.ref a2)] [.ref a1]) _
    refine y_pop X183 hx hby d12_5 rfl ?_
    refine y_aloadN X183 hx hby d12_6 rfl rfl ?_
    show Steps p.tables e below (T183.setTop (mkF m 7 #[.val (.ref a1), .val (.ref a2)] [.ref a1])) _
    jvm_step X183.here [X183.here.top, hx, (hb hby d12_7), X183.method', Bd.returns, Value.isRef, FieldType.isReference]
    first | (intro acts; rw [hr _ acts rfl rfl rfl]) | rw [hr _ _ rfl rfl rfl]
    exact Steps.refl _
  · show QW _ _ _ h0 n0 _ T183.heap _
    rw [e183]
    exact ⟨rfl, N183, KK, _, _, sz_B183, F_coder_a1, F_value_a1, F_count_a1, V_B183⟩
set_option maxRecDepth 65536 in
set_option maxHeartbeats 40000000 in
theorem rm24_41 (l : Launch) (Z : State) (a0 : Array Value) (hw : HW a0 Z) (ws : List Jvm.Cond) (a1 a2 : Addr) (kd : ClassId) (cs : List Int32) (t1 : Addr) (k1 : ClassId) (ds : List Int32) (wC : Int32) (h0 : Heap) (n0 : Nat) (Z0 : n0 ≤ h0.size) (SC : SS Z h0 wC) (hz : ¬ wC = 0) (hcs : cs.length = 41) (hds : ds.length = 1) (E_a1 : ES Z h0 a1) (F_coder_a1 : GC Z h0 a1 (.int 0)) (F_value_a1 : GV Z h0 a1 (.ref t1)) (V_t1 : Arv Z h0 t1 k1 .byte (1 : Int32) (LB ds) (.int 0)) (V_a2 : Arv Z h0 a2 kd .byte (70 : Int32) (LB cs) (.int 0)) (g_a2 : n0 ≤ a2) (ne_a2_t1 : a2 ≠ t1) (ne_a2_a1 : a2 ≠ a1) :
    MF l mn16 jdk_42_method_147_code 4 none ws (RM 1 0 0 18) #[.ref a1, .ref a2, .int 41, .int 0] Z h0 (QW [a2] none (fun h => Arv Z h a2 kd .byte (70 : Int32) (LB (cs ++ ds)) (.int 0)) h0 n0) := by
  refine MetFree.of_bodySF (plainFor_of_name pn_15) hisR ?_
  intro p e s m args below meth c s₁ Bd hml0 hP hK
  obtain ⟨rfl, hZ, hh⟩ := hP
  have hx := Bd.exec
  have hby := Bd.bytes
  have hml : c.maxLocals = 4 := hml0
  have hown : s.vm.findClass "java/lang/String" = some m.cls := findClass_of_methodNamed Bd.named
  have hnm := (name_of_methodNamed Bd.named Bd.method).1
  have X0 : Stand p l e (RM 1 0 0 18) s m #[.ref a1, .ref a2, .int 41, .int 0] below meth c s₁ [] 0 0 := Stand.of_body Bd
  have e0 : s₁.heap = h0 := by rw [← hh, Bd.state]; rfl
  have N0 := Fr.nil n0
  have pre0 : GO p e below (s₁.setTop (mkF m 0 #[.val (.ref a1), .val (.ref a2), .val (.int 41), .val (.int 0)] [])) (s₁.setTop (entryFrame m #[.ref a1, .ref a2, .int 41, .int 0] 4)) := fun t k => castTop (ef_24 m a1 a2 (41 : Int32) (0 : Int32)) k
  have KK := Keep.refl h0 [a2]
  obtain ⟨cq184, kq184, q184a, q184b, q184c⟩ := isOf hZ e0 E_a1
  obtain ⟨_, _, ⟨T184, _, _, _⟩, -, X184, ⟨_, hQ184, l184, y184, z184⟩, st184⟩ := X0.virtualBack hx (y := mn0) (z := mn0) hown (mvT hZ (ww hw 91 rfl)) (mvT hZ (ww hw 92 rfl)) (notFace_of_selects (args := #[]) (mvT hZ (ww hw 94 rfl))) (mvT hZ (ww hw 94 rfl)) (mvT hZ (ww hw 93 rfl)) (by decide) (backOf (W := 0) (rm15 l Z a0 hw [] a1 wC h0 n0 Z0 SC hz F_coder_a1) hZ (ww hw 95 rfl) (ww hw 2 rfl) (by decide) (by decide)) q184a q184c (g := (mkF m 1 #[.val (.ref a1), .val (.ref a2), .val (.int 41), .val (.int 0)] [.ref a1])) rfl (by rw [hml]; rfl) (Steps.refl _) (argsL := []) (rest := []) (lenOf pd_2 rfl) rfl (wz rfl) (hb hby d24_1) (fun _ _ => ⟨rfl, e0, (by decide : 0 + 0 ≤ _), (by decide : 0 + 0 ≤ _)⟩)
  dsimp only [Pt.U, Pt.locs, Pt.cells, Pt.slots] at X184 l184 y184 z184 st184 hQ184
  rw [l184, y184, z184] at X184
  obtain ⟨rfl, N184q, e184⟩ := hQ184
  have q184 : f15 a1 wC = (0 : Int32) := rfl
  rw [q184] at st184
  have N184 := Fr.app N0 N184q
  obtain ⟨T185, X185, e185, st185⟩ := getF X184 hx hZ hown (host := "") (Or.inl (ww hw 28 rfl)) Via.refl e184 F_value_a1 (g := (mkF m 9 #[.val (.ref a1), .val (.ref a2), .val (.int 41), .val (.int 0)] [.ref a1])) rfl rfl (hb hby d24_9)
  obtain ⟨T186, X186, e186, st186⟩ := getF X185 hx hZ hown (host := "") (Or.inl (ww hw 28 rfl)) Via.refl e185 F_value_a1 (g := (mkF m 18 #[.val (.ref a1), .val (.ref a2), .val (.int 41), .val (.int 0)] [.ref a1, .int 41, .ref a2, .int 0, .ref t1])) rfl rfl (hb hby d24_18)
  obtain ⟨cl187, Ar187, q187, Sz187, Nn187, Hh187, Gg187⟩ := id V_t1
  replace V_a2 := V_a2.pad (pad_rep (LB cs) (.int 0) ((1 : Int32)).toNatClampNeg)
  obtain ⟨T188, h188, L188, X188, e188, N188, K188, Vn188, st188⟩ := cpA X186 hx hZ hown (ww hw 145 rfl) (ww hw 128 rfl) (ww hw 126 rfl) (ww hw 127 rfl) e186 (us := (LB ds)) V_t1 V_a2 (Or.inl ⟨rfl, rfl⟩) (by decide) (by decide) (by decide) (by decide) (by decide) (own_us ((own_lblen ds).trans (show (1 : Int32).toNatClampNeg = List.length ds from by rw [hds]; rfl).symm)) (own_catlen (zm := (1 : Int32)) (show (41 : Int32).toNatClampNeg = List.length cs from by rw [hcs]; rfl)) N184 g_a2 (g := (mkF m 22 #[.val (.ref a1), .val (.ref a2), .val (.int 41), .val (.int 0)] [.int 1, .int 41, .ref a2, .int 0, .ref t1])) rfl (by rw [hml]; rfl) rfl (hb hby d24_22) (by decide) (W := 0) (wz rfl) (by decide)
  replace SC := own_stakeep SC K188 (nsS (Arv.nostat V_a2) ns0)
  replace E_a1 := E_a1.keep K188
  replace F_coder_a1 := F_coder_a1.keep K188 (ninS (Ne.symm ne_a2_a1) nin0)
  replace F_value_a1 := F_value_a1.keep K188 (ninS (Ne.symm ne_a2_a1) nin0)
  replace V_t1 := V_t1.keep K188 (ninS (Ne.symm ne_a2_t1) nin0)
  replace Z0 := Nat.le_trans Z0 K188.1
  replace KK := KK.trans K188 (allS (Or.inl (List.mem_of_getElem? (i := 0) rfl)) all0)
  have V_a2 : Arv Z h188 a2 kd .byte (70 : Int32) (LB (cs ++ ds)) (.int 0) := by rw [own_cat (show (41 : Int32).toNatClampNeg = List.length cs from by rw [hcs]; rfl) (show (1 : Int32).toNatClampNeg = List.length ds from by rw [hds]; rfl)] at Vn188; exact Vn188
  obtain ⟨fs, hr, hrun, hended, hW, hsame⟩ := X188.leave (v := none) (fun _ => rfl)
  refine ⟨_, _, pre0 _ ?_, hrun, hended, _, _, rfl, ?_, ⟨_, rfl⟩, hW, hsame.mono (by decide) (by decide)⟩
  · refine y_aloadN X0 hx hby d24_0 rfl rfl ?_
    refine st184.trans ?_
    show SP p e below T184 (mkF m 4 #[.val (.ref a1), .val (.ref a2), .val (.int 41), .val (.int 0)] [.int 0]) _
    refine y_iloadN X184 hx hby d24_4 rfl ?_
    refine y_icmpNo X184 hx hby d24_5 (teq rfl).2 ?_
    refine y_aloadN X184 hx hby d24_8 rfl rfl ?_
    refine st185 _ ?_
    show SP p e below T185 (mkF m 12 #[.val (.ref a1), .val (.ref a2), .val (.int 41), .val (.int 0)] [.ref t1]) _
    refine y_iconst X185 hx hby (v := (0 : Int32)) d24_12 rfl ?_
    refine y_aloadN X185 hx hby d24_13 rfl rfl ?_
    refine y_iloadN X185 hx hby d24_14 rfl ?_
    refine y_iloadN X185 hx hby d24_15 rfl ?_
    refine y_ishl X185 hx hby d24_16 ?_
    rw [show ((41 : Int32) <<< ((0 : Int32) &&& 31)) = (41 : Int32) from by decide]
    refine y_aloadN X185 hx hby d24_17 rfl rfl ?_
    refine st186 _ ?_
    show SP p e below T186 (mkF m 21 #[.val (.ref a1), .val (.ref a2), .val (.int 41), .val (.int 0)] [.ref t1, .int 41, .ref a2, .int 0, .ref t1]) _
    refine X186.arraylength hx (by rw [e186]; exact Ar187.1) (State.isArrayOf_alike hZ.alike Ar187.2.1) (g := (mkF m 21 #[.val (.ref a1), .val (.ref a2), .val (.int 41), .val (.int 0)] [.ref t1, .int 41, .ref a2, .int 0, .ref t1])) rfl rfl (hb hby d24_21) _ ?_
    rw [len_of Sz187 Nn187]
    show SP p e below T186 (mkF m 22 #[.val (.ref a1), .val (.ref a2), .val (.int 41), .val (.int 0)] [.int 1, .int 41, .ref a2, .int 0, .ref t1]) _
    refine st188 _ ?_
    show SP p e below T188 (mkF m 25 #[.val (.ref a1), .val (.ref a2), .val (.int 41), .val (.int 0)] []) _
    refine y_goto X188 hx hby (pc' := 43) d24_25 (by decide) (by decide) ?_
    show Steps p.tables e below (T188.setTop (mkF m 43 #[.val (.ref a1), .val (.ref a2), .val (.int 41), .val (.int 0)] [])) _
    exact X188.returnOut hx Bd.returns (hb hby d24_43) hr
  · show QW _ _ _ h0 n0 _ T188.heap _
    rw [e188]
    exact ⟨rfl, N188, KK, V_a2⟩
set_option maxRecDepth 65536 in
set_option maxHeartbeats 40000000 in
theorem rm22_41 (l : Launch) (Z : State) (a0 : Array Value) (hw : HW a0 Z) (ws : List Jvm.Cond) (a1 a3 d1 : Addr) (kd : ClassId) (cs : List Int32) (t1 : Addr) (k1 : ClassId) (ds : List Int32) (wC : Int32) (h0 : Heap) (n0 : Nat) (Z0 : n0 ≤ h0.size) (SC : SS Z h0 wC) (hz : ¬ wC = 0) (hcs : cs.length = 41) (hds : ds.length = 1) (E_a1 : EB Z h0 a1) (F_coder_a1 : FC Z h0 a1 (.int 0)) (F_value_a1 : FV Z h0 a1 (.ref d1)) (V_d1 : Arv Z h0 d1 kd .byte (70 : Int32) (LB cs) (.int 0)) (E_a3 : ES Z h0 a3) (F_coder_a3 : GC Z h0 a3 (.int 0)) (F_value_a3 : GV Z h0 a3 (.ref t1)) (V_t1 : Arv Z h0 t1 k1 .byte (1 : Int32) (LB ds) (.int 0)) (g_d1 : n0 ≤ d1) (ne_a1_d1 : a1 ≠ d1) (ne_d1_a3 : d1 ≠ a3) (ne_d1_t1 : d1 ≠ t1) :
    MF l mn17 jdk_68_method_73_code 3 none ws (RM 2 0 0 33) #[.ref a1, .int 41, .ref a3] Z h0 (QW [d1] none (fun h => Arv Z h d1 kd .byte (70 : Int32) (LB (cs ++ ds)) (.int 0)) h0 n0) := by
  refine MetFree.of_bodySF (plainFor_of_name pn_17) hisR ?_
  intro p e s m args below meth c s₁ Bd hml0 hP hK
  obtain ⟨rfl, hZ, hh⟩ := hP
  have hx := Bd.exec
  have hby := Bd.bytes
  have hml : c.maxLocals = 3 := hml0
  have hown : s.vm.findClass "java/lang/AbstractStringBuilder" = some m.cls := findClass_of_methodNamed Bd.named
  have hnm := (name_of_methodNamed Bd.named Bd.method).1
  have X0 : Stand p l e (RM 2 0 0 33) s m #[.ref a1, .int 41, .ref a3] below meth c s₁ [] 0 0 := Stand.of_body Bd
  have e0 : s₁.heap = h0 := by rw [← hh, Bd.state]; rfl
  have N0 := Fr.nil n0
  have pre0 : GO p e below (s₁.setTop (mkF m 0 #[.val (.ref a1), .val (.int 41), .val (.ref a3)] [])) (s₁.setTop (entryFrame m #[.ref a1, .int 41, .ref a3] 3)) := fun t k => castTop (ef_22 m a1 (41 : Int32) a3) k
  have KK := Keep.refl h0 [d1]
  obtain ⟨cq189, q189a, q189b⟩ := Exa.cell E_a1
  obtain ⟨_, _, ⟨T189, _, _, _⟩, -, X189, ⟨_, hQ189, l189, y189, z189⟩, st189⟩ := X0.privateBack hx (y := mn6) hown (mvT hZ (ww hw 134 rfl)) (mvT hZ (ww hw 135 rfl)) (mvT hZ (own_selp (ww hw 136 rfl) (ww hw 135 rfl) (ww hw 137 rfl) (by decide))) (Cond.privateMethod_at (mvP hZ (ww hw 136 rfl) (args := #[]))) (mvT hZ (ww hw 138 rfl)) (by decide) (backOf (W := 0) (rm23 l Z a0 hw [] a1 a3 wC h0 n0 Z0 SC hz F_coder_a1 E_a3 F_coder_a3) hZ (ww hw 138 rfl) (ww hw 65 rfl) (by decide) (by decide)) (g := (mkF m 2 #[.val (.ref a1), .val (.int 41), .val (.ref a3)] [.ref a3, .ref a1])) rfl (by rw [hml]; rfl) (Steps.refl _) (a := a1) (by rw [e0]; exact q189a) q189b (argsL := [.ref a3]) (rest := []) (lenOf pd_8 rfl) rfl (wz rfl) (hb hby d22_2) (fun _ _ => ⟨rfl, e0, (by decide : 0 + 0 ≤ _), (by decide : 0 + 0 ≤ _)⟩)
  dsimp only [Pt.U, Pt.locs, Pt.cells, Pt.slots] at X189 l189 y189 z189 st189 hQ189
  rw [l189, y189, z189] at X189
  obtain ⟨rfl, N189q, e189⟩ := hQ189
  have N189 := Fr.app N0 N189q
  obtain ⟨T190, X190, e190, st190⟩ := getF X189 hx hZ hown (host := "") (Or.inl (ww hw 69 rfl)) Via.refl e189 F_value_a1 (g := (mkF m 7 #[.val (.ref a1), .val (.int 41), .val (.ref a3)] [.ref a1, .ref a3])) rfl rfl (hb hby d22_7)
  obtain ⟨T191, X191, e191, st191⟩ := getF X190 hx hZ hown (host := "") (Or.inl (ww hw 71 rfl)) Via.refl e190 F_coder_a1 (g := (mkF m 12 #[.val (.ref a1), .val (.int 41), .val (.ref a3)] [.ref a1, .int 41, .ref d1, .ref a3])) rfl rfl (hb hby d22_12)
  obtain ⟨cq192, kq192, q192a, q192b, q192c⟩ := isOf hZ e191 E_a3
  obtain ⟨_, _, ⟨T192, _, _, _⟩, -, X192, ⟨_, hQ192, l192, y192, z192⟩, st192⟩ := X191.virtualBack hx (y := mn16) (z := mn16) hown (mvT hZ (ww hw 140 rfl)) (mvT hZ (ww hw 141 rfl)) (notFace_of_selects (args := #[]) (mvT hZ (ww hw 143 rfl))) (mvT hZ (ww hw 143 rfl)) (mvT hZ (ww hw 142 rfl)) (by decide) (backOf (W := 0) (rm24_41 l Z a0 hw [] a3 d1 kd cs t1 k1 ds wC h0 n0 Z0 SC hz hcs hds E_a3 F_coder_a3 F_value_a3 V_t1 V_d1 g_d1 ne_d1_t1 ne_d1_a3) hZ (ww hw 144 rfl) (ww hw 2 rfl) (by decide) (by decide)) q192a q192c (g := (mkF m 15 #[.val (.ref a1), .val (.int 41), .val (.ref a3)] [.int 0, .int 41, .ref d1, .ref a3])) rfl (by rw [hml]; rfl) (Steps.refl _) (argsL := [.ref d1, .int 41, .int 0]) (rest := []) (lenOf pd_9 rfl) rfl (wz rfl) (hb hby d22_15) (fun _ _ => ⟨rfl, e191, (by decide : 0 + 0 ≤ _), (by decide : 0 + 0 ≤ _)⟩)
  dsimp only [Pt.U, Pt.locs, Pt.cells, Pt.slots] at X192 l192 y192 z192 st192 hQ192
  rw [l192, y192, z192] at X192
  obtain ⟨h192, e192⟩ : ∃ z, T192.heap = z := ⟨_, rfl⟩
  rw [e192] at hQ192
  obtain ⟨rfl, N192q, K192, G192_0⟩ := hQ192
  replace SC := own_stakeep SC K192 (nsS (Arv.nostat V_d1) ns0)
  replace E_a1 := E_a1.keep K192
  replace F_coder_a1 := F_coder_a1.keep K192 (ninS ne_a1_d1 nin0)
  replace F_value_a1 := F_value_a1.keep K192 (ninS ne_a1_d1 nin0)
  replace E_a3 := E_a3.keep K192
  replace F_coder_a3 := F_coder_a3.keep K192 (ninS (Ne.symm ne_d1_a3) nin0)
  replace F_value_a3 := F_value_a3.keep K192 (ninS (Ne.symm ne_d1_a3) nin0)
  replace V_t1 := V_t1.keep K192 (ninS (Ne.symm ne_d1_t1) nin0)
  replace Z0 := Nat.le_trans Z0 K192.1
  replace KK := KK.trans K192 (allS (Or.inl (List.mem_of_getElem? (i := 0) rfl)) all0)
  have V_d1 : Arv Z h192 d1 kd .byte (70 : Int32) (LB (cs ++ ds)) (.int 0) := G192_0
  have N192 := Fr.app N189 N192q
  obtain ⟨fs, hr, hrun, hended, hW, hsame⟩ := X192.leave (v := none) (fun _ => rfl)
  refine ⟨_, _, pre0 _ ?_, hrun, hended, _, _, rfl, ?_, ⟨_, rfl⟩, hW, hsame.mono (by decide) (by decide)⟩
  · refine y_aloadN X0 hx hby d22_0 rfl rfl ?_
    refine y_aloadN X0 hx hby d22_1 rfl rfl ?_
    refine st189.trans ?_
    show SP p e below T189 (mkF m 5 #[.val (.ref a1), .val (.int 41), .val (.ref a3)] []) _
    refine y_aloadN X189 hx hby d22_5 rfl rfl ?_
    refine y_aloadN X189 hx hby d22_6 rfl rfl ?_
    refine st190 _ ?_
    show SP p e below T190 (mkF m 10 #[.val (.ref a1), .val (.int 41), .val (.ref a3)] [.ref d1, .ref a3]) _
    refine y_iloadN X190 hx hby d22_10 rfl ?_
    refine y_aloadN X190 hx hby d22_11 rfl rfl ?_
    refine st191 _ ?_
    show SP p e below T191 (mkF m 15 #[.val (.ref a1), .val (.int 41), .val (.ref a3)] [.int 0, .int 41, .ref d1, .ref a3]) _
    refine st192.trans ?_
    show Steps p.tables e below (T192.setTop (mkF m 18 #[.val (.ref a1), .val (.int 41), .val (.ref a3)] [])) _
    exact X192.returnOut hx Bd.returns (hb hby d22_18) hr
  · show QW _ _ _ h0 n0 _ T192.heap _
    rw [e192]
    exact ⟨rfl, N192, KK, V_d1⟩
set_option maxRecDepth 65536 in
set_option maxHeartbeats 40000000 in
theorem rm13_41 (l : Launch) (Z : State) (a0 : Array Value) (hw : HW a0 Z) (ws : List Jvm.Cond) (a1 a2 d1 : Addr) (kd : ClassId) (cs : List Int32) (t1 : Addr) (k1 : ClassId) (ds : List Int32) (wC : Int32) (h0 : Heap) (n0 : Nat) (Z0 : n0 ≤ h0.size) (SC : SS Z h0 wC) (hz : ¬ wC = 0) (hcs : cs.length = 41) (hds : ds.length = 1) (E_a1 : EB Z h0 a1) (F_coder_a1 : FC Z h0 a1 (.int 0)) (F_value_a1 : FV Z h0 a1 (.ref d1)) (F_count_a1 : FN Z h0 a1 (.int 41)) (V_d1 : Arv Z h0 d1 kd .byte (70 : Int32) (LB cs) (.int 0)) (E_a2 : ES Z h0 a2) (F_coder_a2 : GC Z h0 a2 (.int 0)) (F_value_a2 : GV Z h0 a2 (.ref t1)) (V_t1 : Arv Z h0 t1 k1 .byte (1 : Int32) (LB ds) (.int 0)) (g_a1 : n0 ≤ a1) (g_d1 : n0 ≤ d1) (ne_a1_d1 : a1 ≠ d1) (ne_a1_a2 : a1 ≠ a2) (ne_a1_t1 : a1 ≠ t1) (ne_d1_a2 : d1 ≠ a2) (ne_d1_t1 : d1 ≠ t1) :
    MF l mn18 jdk_68_method_22_code 3 (some (.object "java/lang/AbstractStringBuilder")) ws (RM 3 0 0 47) #[.ref a1, .ref a2] Z h0 (QW [a1, d1] (some (.ref a1)) (fun h => FC Z h a1 (.int 0) ∧ FV Z h a1 (.ref d1) ∧ FN Z h a1 (.int 42) ∧ Arv Z h d1 kd .byte (70 : Int32) (LB (cs ++ ds)) (.int 0)) h0 n0) := by
  refine MetFree.of_bodySF (plainFor_of_name pn_17) hisR ?_
  intro p e s m args below meth c s₁ Bd hml0 hP hK
  obtain ⟨rfl, hZ, hh⟩ := hP
  have hx := Bd.exec
  have hby := Bd.bytes
  have hml : c.maxLocals = 3 := hml0
  have hown : s.vm.findClass "java/lang/AbstractStringBuilder" = some m.cls := findClass_of_methodNamed Bd.named
  have hnm := (name_of_methodNamed Bd.named Bd.method).1
  have X0 : Stand p l e (RM 3 0 0 47) s m #[.ref a1, .ref a2] below meth c s₁ [] 0 0 := Stand.of_body Bd
  have e0 : s₁.heap = h0 := by rw [← hh, Bd.state]; rfl
  have N0 := Fr.nil n0
  have pre0 : GO p e below (s₁.setTop (mkF m 0 #[.val (.ref a1), .val (.ref a2), .unset] [])) (s₁.setTop (entryFrame m #[.ref a1, .ref a2] 3)) := fun t k => castTop (ef_13 m a1 a2) k
  have KK := Keep.refl h0 [a1, d1]
  obtain ⟨cq193, kq193, q193a, q193b, q193c⟩ := isOf hZ e0 E_a2
  obtain ⟨_, _, ⟨T193, _, _, _⟩, -, X193, ⟨_, hQ193, l193, y193, z193⟩, st193⟩ := X0.virtualBack hx (y := mn5) (z := mn5) hown (mvT hZ (ww hw 86 rfl)) (mvT hZ (ww hw 87 rfl)) (notFace_of_selects (args := #[]) (mvT hZ (ww hw 89 rfl))) (mvT hZ (ww hw 89 rfl)) (mvT hZ (ww hw 88 rfl)) (by decide) (backOf (W := 0) (rm14_1 l Z a0 hw [] a2 t1 k1 ds wC h0 n0 Z0 SC hz E_a2 F_coder_a2 F_value_a2 V_t1) hZ (ww hw 90 rfl) (ww hw 2 rfl) (by decide) (by decide)) q193a q193c (g := (mkF m 10 #[.val (.ref a1), .val (.ref a2), .unset] [.ref a2])) rfl (by rw [hml]; rfl) (Steps.refl _) (argsL := []) (rest := []) (lenOf pd_3 rfl) rfl (wz rfl) (hb hby d13_10) (fun _ _ => ⟨rfl, e0, (by decide : 0 + 0 ≤ _), (by decide : 0 + 0 ≤ _)⟩)
  dsimp only [Pt.U, Pt.locs, Pt.cells, Pt.slots] at X193 l193 y193 z193 st193 hQ193
  rw [l193, y193, z193] at X193
  obtain ⟨rfl, N193q, e193⟩ := hQ193
  have N193 := Fr.app N0 N193q
  obtain ⟨T194, X194, e194, st194⟩ := getF X193 hx hZ hown (host := "") (Or.inl (ww hw 96 rfl)) Via.refl e193 F_count_a1 (g := (mkF m 16 #[.val (.ref a1), .val (.ref a2), .val (.int 1)] [.ref a1, .ref a1])) rfl rfl (hb hby d13_16)
  obtain ⟨cq195, q195a, q195b⟩ := Exa.cell E_a1
  obtain ⟨_, _, ⟨T195, _, _, _⟩, -, X195, ⟨_, hQ195, l195, y195, z195⟩, st195⟩ := X194.privateBack hx (y := mn15) hown (mvT hZ (ww hw 98 rfl)) (mvT hZ (ww hw 99 rfl)) (mvT hZ (own_selp (ww hw 100 rfl) (ww hw 99 rfl) (ww hw 101 rfl) (by decide))) (Cond.privateMethod_at (mvP hZ (ww hw 100 rfl) (args := #[]))) (mvT hZ (ww hw 102 rfl)) (by decide) (backOf (W := 0) (rm16_k42 l Z a0 hw [] a1 d1 kd cs h0 n0 Z0 F_coder_a1 F_value_a1 V_d1) hZ (ww hw 102 rfl) (ww hw 65 rfl) (by decide) (by decide)) (g := (mkF m 21 #[.val (.ref a1), .val (.ref a2), .val (.int 1)] [.int 42, .ref a1])) rfl (by rw [hml]; rfl) (Steps.refl _) (a := a1) (by rw [e194]; exact q195a) q195b (argsL := [.int 42]) (rest := []) (lenOf pd_10 rfl) rfl (wz rfl) (hb hby d13_21) (fun _ _ => ⟨rfl, e194, (by decide : 0 + 0 ≤ _), (by decide : 0 + 0 ≤ _)⟩)
  dsimp only [Pt.U, Pt.locs, Pt.cells, Pt.slots] at X195 l195 y195 z195 st195 hQ195
  rw [l195, y195, z195] at X195
  obtain ⟨rfl, N195q, e195⟩ := hQ195
  have N195 := Fr.app N193 N195q
  obtain ⟨T196, X196, e196, st196⟩ := getF X195 hx hZ hown (host := "") (Or.inl (ww hw 96 rfl)) Via.refl e195 F_count_a1 (g := (mkF m 26 #[.val (.ref a1), .val (.ref a2), .val (.int 1)] [.ref a1, .ref a1])) rfl rfl (hb hby d13_26)
  obtain ⟨cq197, q197a, q197b⟩ := Exa.cell E_a1
  obtain ⟨_, _, ⟨T197, _, _, _⟩, -, X197, ⟨_, hQ197, l197, y197, z197⟩, st197⟩ := X196.privateBack hx (y := mn17) hown (mvT hZ (ww hw 129 rfl)) (mvT hZ (ww hw 130 rfl)) (mvT hZ (own_selp (ww hw 131 rfl) (ww hw 130 rfl) (ww hw 132 rfl) (by decide))) (Cond.privateMethod_at (mvP hZ (ww hw 131 rfl) (args := #[]))) (mvT hZ (ww hw 133 rfl)) (by decide) (backOf (W := 0) (rm22_41 l Z a0 hw [] a1 a2 d1 kd cs t1 k1 ds wC h0 n0 Z0 SC hz hcs hds E_a1 F_coder_a1 F_value_a1 V_d1 E_a2 F_coder_a2 F_value_a2 V_t1 g_d1 ne_a1_d1 ne_d1_a2 ne_d1_t1) hZ (ww hw 133 rfl) (ww hw 65 rfl) (by decide) (by decide)) (g := (mkF m 30 #[.val (.ref a1), .val (.ref a2), .val (.int 1)] [.ref a2, .int 41, .ref a1])) rfl (by rw [hml]; rfl) (Steps.refl _) (a := a1) (by rw [e196]; exact q197a) q197b (argsL := [.int 41, .ref a2]) (rest := []) (lenOf pd_11 rfl) rfl (wz rfl) (hb hby d13_30) (fun _ _ => ⟨rfl, e196, (by decide : 0 + 0 ≤ _), (by decide : 0 + 0 ≤ _)⟩)
  dsimp only [Pt.U, Pt.locs, Pt.cells, Pt.slots] at X197 l197 y197 z197 st197 hQ197
  rw [l197, y197, z197] at X197
  obtain ⟨h197, e197⟩ : ∃ z, T197.heap = z := ⟨_, rfl⟩
  rw [e197] at hQ197
  obtain ⟨rfl, N197q, K197, G197_0⟩ := hQ197
  replace SC := own_stakeep SC K197 (nsS (Arv.nostat V_d1) ns0)
  replace E_a1 := E_a1.keep K197
  replace F_coder_a1 := F_coder_a1.keep K197 (ninS ne_a1_d1 nin0)
  replace F_value_a1 := F_value_a1.keep K197 (ninS ne_a1_d1 nin0)
  replace F_count_a1 := F_count_a1.keep K197 (ninS ne_a1_d1 nin0)
  replace E_a2 := E_a2.keep K197
  replace F_coder_a2 := F_coder_a2.keep K197 (ninS (Ne.symm ne_d1_a2) nin0)
  replace F_value_a2 := F_value_a2.keep K197 (ninS (Ne.symm ne_d1_a2) nin0)
  replace V_t1 := V_t1.keep K197 (ninS (Ne.symm ne_d1_t1) nin0)
  replace Z0 := Nat.le_trans Z0 K197.1
  replace KK := KK.trans K197 (allS (Or.inl (List.mem_of_getElem? (i := 1) rfl)) all0)
  have V_d1 : Arv Z h197 d1 kd .byte (70 : Int32) (LB (cs ++ ds)) (.int 0) := G197_0
  have N197 := Fr.app N195 N197q
  obtain ⟨T198, X198, e198, st198⟩ := getF X197 hx hZ hown (host := "") (Or.inl (ww hw 96 rfl)) Via.refl e197 F_count_a1 (g := (mkF m 35 #[.val (.ref a1), .val (.ref a2), .val (.int 1)] [.ref a1, .ref a1])) rfl rfl (hb hby d13_35)
  obtain ⟨T199, h199, X199, e199, W199, st199⟩ := putF X198 hx hZ hown (host := "") (Or.inl (ww hw 96 rfl)) Via.refl e198 F_count_a1 E_a1 (Or.inl (ww hw 97 rfl)) (ww hw 56 rfl) (ty := .int) (by decide) rfl rfl (g := (mkF m 40 #[.val (.ref a1), .val (.ref a2), .val (.int 1)] [.int 42, .ref a1])) rfl rfl (hb hby d13_40)
  replace E_a1 := E_a1.wr W199
  replace F_coder_a1 := F_coder_a1.other W199 (Or.inr (slot_ne (Or.inl (ww hw 72 rfl)) (Or.inl (ww hw 97 rfl)) (by decide) (t := .byte) (t' := .int) (by decide) (by decide)))
  replace F_value_a1 := F_value_a1.other W199 (Or.inr (slot_ne (Or.inl (ww hw 70 rfl)) (Or.inl (ww hw 97 rfl)) (by decide) (t := (.array .byte)) (t' := .int) (by decide) (by decide)))
  replace F_count_a1 := F_count_a1.same W199
  replace E_a2 := E_a2.wr W199
  replace F_coder_a2 := F_coder_a2.other W199 (Or.inl (Ne.symm ne_a1_a2))
  replace F_value_a2 := F_value_a2.other W199 (Or.inl (Ne.symm ne_a1_a2))
  replace V_t1 := V_t1.other W199 (Ne.symm ne_a1_t1)
  replace SC := SC.wr W199
  replace V_d1 := V_d1.other W199 (Ne.symm ne_a1_d1)
  replace Z0 := Nat.le_trans Z0 (Keep.of_wr W199).1
  replace KK := KK.wr W199 (Or.inl (List.mem_of_getElem? (i := 0) rfl))
  have N199 := Fr.snoc X199 N197 g_a1
  obtain ⟨fs, hr, hrun, hended, hW, hsame⟩ := X199.leave (v := some (.ref a1)) (fun h => by rw [Bd.returns] at h; cases h)
  refine ⟨_, _, pre0 _ ?_, hrun, hended, _, _, rfl, ?_, ⟨_, rfl⟩, hW, hsame.mono (by decide) (by decide)⟩
  · refine y_aloadN X0 hx hby d13_0 rfl rfl ?_
    refine y_ifnonnullYes X0 hx hby (pc' := 9) d13_1 (by decide) (by decide) ?_
    refine y_aloadN X0 hx hby d13_9 rfl rfl ?_
    refine st193.trans ?_
    show SP p e below T193 (mkF m 13 #[.val (.ref a1), .val (.ref a2), .unset] [.int 1]) _
    refine y_istoreN X193 hx hby d13_13 (l' := #[.val (.ref a1), .val (.ref a2), .val (.int 1)]) rfl ?_
    refine y_aloadN X193 hx hby d13_14 rfl rfl ?_
    refine y_aloadN X193 hx hby d13_15 rfl rfl ?_
    refine st194 _ ?_
    show SP p e below T194 (mkF m 19 #[.val (.ref a1), .val (.ref a2), .val (.int 1)] [.int 41, .ref a1]) _
    refine y_iloadN X194 hx hby d13_19 rfl ?_
    refine y_iadd X194 hx hby d13_20 ?_
    rw [show ((41 : Int32) + (1 : Int32)) = (42 : Int32) from by decide]
    refine st195.trans ?_
    show SP p e below T195 (mkF m 24 #[.val (.ref a1), .val (.ref a2), .val (.int 1)] []) _
    refine y_aloadN X195 hx hby d13_24 rfl rfl ?_
    refine y_aloadN X195 hx hby d13_25 rfl rfl ?_
    refine st196 _ ?_
    show SP p e below T196 (mkF m 29 #[.val (.ref a1), .val (.ref a2), .val (.int 1)] [.int 41, .ref a1]) _
    refine y_aloadN X196 hx hby d13_29 rfl rfl ?_
    refine st197.trans ?_
    show SP p e below T197 (mkF m 33 #[.val (.ref a1), .val (.ref a2), .val (.int 1)] []) _
    refine y_aloadN X197 hx hby d13_33 rfl rfl ?_
    refine y_dup X197 hx hby d13_34 rfl ?_
    refine st198 _ ?_
    show SP p e below T198 (mkF m 38 #[.val (.ref a1), .val (.ref a2), .val (.int 1)] [.int 41, .ref a1]) _
    refine y_iloadN X198 hx hby d13_38 rfl ?_
    refine y_iadd X198 hx hby d13_39 ?_
    rw [show ((41 : Int32) + (1 : Int32)) = (42 : Int32) from by decide]
    refine st199 _ ?_
    show SP p e below T199 (mkF m 43 #[.val (.ref a1), .val (.ref a2), .val (.int 1)] []) _
    refine y_aloadN X199 hx hby d13_43 rfl rfl ?_
    show Steps p.tables e below (T199.setTop (mkF m 44 #[.val (.ref a1), .val (.ref a2), .val (.int 1)] [.ref a1])) _
    jvm_step X199.here [X199.here.top, hx, (hb hby d13_44), X199.method', Bd.returns, Value.isRef, FieldType.isReference]
    first | (intro acts; rw [hr _ acts rfl rfl rfl]) | rw [hr _ _ rfl rfl rfl]
    exact Steps.refl _
  · show QW _ _ _ h0 n0 _ T199.heap _
    rw [e199]
    exact ⟨rfl, N199, KK, F_coder_a1, F_value_a1, F_count_a1, V_d1⟩
set_option maxRecDepth 65536 in
set_option maxHeartbeats 40000000 in
theorem rm12_41 (l : Launch) (Z : State) (a0 : Array Value) (hw : HW a0 Z) (ws : List Jvm.Cond) (a1 a2 d1 : Addr) (kd : ClassId) (cs : List Int32) (t1 : Addr) (k1 : ClassId) (ds : List Int32) (wC : Int32) (h0 : Heap) (n0 : Nat) (Z0 : n0 ≤ h0.size) (SC : SS Z h0 wC) (hz : ¬ wC = 0) (hcs : cs.length = 41) (hds : ds.length = 1) (E_a1 : EB Z h0 a1) (F_coder_a1 : FC Z h0 a1 (.int 0)) (F_value_a1 : FV Z h0 a1 (.ref d1)) (F_count_a1 : FN Z h0 a1 (.int 41)) (V_d1 : Arv Z h0 d1 kd .byte (70 : Int32) (LB cs) (.int 0)) (E_a2 : ES Z h0 a2) (F_coder_a2 : GC Z h0 a2 (.int 0)) (F_value_a2 : GV Z h0 a2 (.ref t1)) (V_t1 : Arv Z h0 t1 k1 .byte (1 : Int32) (LB ds) (.int 0)) (g_a1 : n0 ≤ a1) (g_d1 : n0 ≤ d1) (ne_a1_d1 : a1 ≠ d1) (ne_a1_a2 : a1 ≠ a2) (ne_a1_t1 : a1 ≠ t1) (ne_d1_a2 : d1 ≠ a2) (ne_d1_t1 : d1 ≠ t1) :
    MF l mn19 jdk_67_method_7_code 2 (some (.object "java/lang/StringBuilder")) ws (RM 4 0 0 61) #[.ref a1, .ref a2] Z h0 (QW [a1, d1] (some (.ref a1)) (fun h => FC Z h a1 (.int 0) ∧ FV Z h a1 (.ref d1) ∧ FN Z h a1 (.int 42) ∧ Arv Z h d1 kd .byte (70 : Int32) (LB (cs ++ ds)) (.int 0)) h0 n0) := by
  refine MetFree.of_bodySF (plainFor_of_name pn_32) hisR ?_
  intro p e s m args below meth c s₁ Bd hml0 hP hK
  obtain ⟨rfl, hZ, hh⟩ := hP
  have hx := Bd.exec
  have hby := Bd.bytes
  have hml : c.maxLocals = 2 := hml0
  have hown : s.vm.findClass "java/lang/StringBuilder" = some m.cls := findClass_of_methodNamed Bd.named
  have hnm := (name_of_methodNamed Bd.named Bd.method).1
  have X0 : Stand p l e (RM 4 0 0 61) s m #[.ref a1, .ref a2] below meth c s₁ [] 0 0 := Stand.of_body Bd
  have e0 : s₁.heap = h0 := by rw [← hh, Bd.state]; rfl
  have N0 := Fr.nil n0
  have pre0 : GO p e below (s₁.setTop (mkF m 0 #[.val (.ref a1), .val (.ref a2)] [])) (s₁.setTop (entryFrame m #[.ref a1, .ref a2] 2)) := fun t k => castTop (ef_12 m a1 a2) k
  have KK := Keep.refl h0 [a1, d1]
  obtain ⟨_, _, ⟨T200, _, _, _⟩, -, X200, ⟨_, hQ200, l200, y200, z200⟩, st200⟩ := superBack X0 hx hZ (y := mn18) hown (ww hw 81 rfl) (own_same (ww hw 82 rfl) (ww hw 101 rfl) rfl (by decide)) (ww hw 82 rfl) (ww hw 83 rfl) (by decide) (backOf (W := 0) (rm13_41 l Z a0 hw [] a1 a2 d1 kd cs t1 k1 ds wC h0 n0 Z0 SC hz hcs hds E_a1 F_coder_a1 F_value_a1 F_count_a1 V_d1 E_a2 F_coder_a2 F_value_a2 V_t1 g_a1 g_d1 ne_a1_d1 ne_a1_a2 ne_a1_t1 ne_d1_a2 ne_d1_t1) hZ (ww hw 85 rfl) (ww hw 65 rfl) (by decide) (by decide)) e0 (Ins.self E_a1) (g := (mkF m 2 #[.val (.ref a1), .val (.ref a2)] [.ref a2, .ref a1])) rfl (by rw [hml]; rfl) (ww hw 85 rfl) (argsL := [.ref a2]) (rest := []) (lenOf pd_12 rfl) rfl (wz rfl) (hb hby d12_2) (fun _ _ => ⟨rfl, e0, (by decide : 0 + 0 ≤ _), (by decide : 0 + 0 ≤ _)⟩)
  dsimp only [Pt.U, Pt.locs, Pt.cells, Pt.slots] at X200 l200 y200 z200 st200 hQ200
  rw [l200, y200, z200] at X200
  obtain ⟨h200, e200⟩ : ∃ z, T200.heap = z := ⟨_, rfl⟩
  rw [e200] at hQ200
  obtain ⟨rfl, N200q, K200, G200_0, G200_1, G200_2, G200_3⟩ := hQ200
  replace SC := own_stakeep SC K200 (nsS (Exa.nostat E_a1) (nsS (Arv.nostat V_d1) ns0))
  replace E_a1 := E_a1.keep K200
  replace E_a2 := E_a2.keep K200
  replace F_coder_a2 := F_coder_a2.keep K200 (ninS (Ne.symm ne_a1_a2) (ninS (Ne.symm ne_d1_a2) nin0))
  replace F_value_a2 := F_value_a2.keep K200 (ninS (Ne.symm ne_a1_a2) (ninS (Ne.symm ne_d1_a2) nin0))
  replace V_t1 := V_t1.keep K200 (ninS (Ne.symm ne_a1_t1) (ninS (Ne.symm ne_d1_t1) nin0))
  replace Z0 := Nat.le_trans Z0 K200.1
  replace KK := KK.trans K200 (allS (Or.inl (List.mem_of_getElem? (i := 0) rfl)) (allS (Or.inl (List.mem_of_getElem? (i := 1) rfl)) all0))
  have F_coder_a1 : FC Z h200 a1 (.int 0) := G200_0
  have F_value_a1 : FV Z h200 a1 (.ref d1) := G200_1
  have F_count_a1 : FN Z h200 a1 (.int 42) := G200_2
  have V_d1 : Arv Z h200 d1 kd .byte (70 : Int32) (LB (cs ++ ds)) (.int 0) := G200_3
  have N200 := Fr.app N0 N200q
  obtain ⟨fs, hr, hrun, hended, hW, hsame⟩ := X200.leave (v := some (.ref a1)) (fun h => by rw [Bd.returns] at h; cases h)
  refine ⟨_, _, pre0 _ ?_, hrun, hended, _, _, rfl, ?_, ⟨_, rfl⟩, hW, hsame.mono (by decide) (by decide)⟩
  · refine y_aloadN X0 hx hby d12_0 rfl rfl ?_
    refine y_aloadN X0 hx hby d12_1 rfl rfl ?_
    refine st200.trans ?_
    show SP p e below T200 (mkF m 5 #[.val (.ref a1), .val (.ref a2)] [.ref a1]) _
    refine y_pop X200 hx hby d12_5 rfl ?_
    refine y_aloadN X200 hx hby d12_6 rfl rfl ?_
    show Steps p.tables e below (T200.setTop (mkF m 7 #[.val (.ref a1), .val (.ref a2)] [.ref a1])) _
    jvm_step X200.here [X200.here.top, hx, (hb hby d12_7), X200.method', Bd.returns, Value.isRef, FieldType.isReference]
    first | (intro acts; rw [hr _ acts rfl rfl rfl]) | rw [hr _ _ rfl rfl rfl]
    exact Steps.refl _
  · show QW _ _ _ h0 n0 _ T200.heap _
    rw [e200]
    exact ⟨rfl, N200, KK, F_coder_a1, F_value_a1, F_count_a1, V_d1⟩
set_option maxRecDepth 65536 in
set_option maxHeartbeats 40000000 in
theorem rm24_42 (l : Launch) (Z : State) (a0 : Array Value) (hw : HW a0 Z) (ws : List Jvm.Cond) (a1 a2 : Addr) (kd : ClassId) (cs : List Int32) (t1 : Addr) (k1 : ClassId) (ds : List Int32) (wC : Int32) (h0 : Heap) (n0 : Nat) (Z0 : n0 ≤ h0.size) (SC : SS Z h0 wC) (hz : ¬ wC = 0) (hcs : cs.length = 42) (hds : ds.length = 1) (E_a1 : ES Z h0 a1) (F_coder_a1 : GC Z h0 a1 (.int 0)) (F_value_a1 : GV Z h0 a1 (.ref t1)) (V_t1 : Arv Z h0 t1 k1 .byte (1 : Int32) (LB ds) (.int 0)) (V_a2 : Arv Z h0 a2 kd .byte (70 : Int32) (LB cs) (.int 0)) (g_a2 : n0 ≤ a2) (ne_a2_t1 : a2 ≠ t1) (ne_a2_a1 : a2 ≠ a1) :
    MF l mn16 jdk_42_method_147_code 4 none ws (RM 1 0 0 18) #[.ref a1, .ref a2, .int 42, .int 0] Z h0 (QW [a2] none (fun h => Arv Z h a2 kd .byte (70 : Int32) (LB (cs ++ ds)) (.int 0)) h0 n0) := by
  refine MetFree.of_bodySF (plainFor_of_name pn_15) hisR ?_
  intro p e s m args below meth c s₁ Bd hml0 hP hK
  obtain ⟨rfl, hZ, hh⟩ := hP
  have hx := Bd.exec
  have hby := Bd.bytes
  have hml : c.maxLocals = 4 := hml0
  have hown : s.vm.findClass "java/lang/String" = some m.cls := findClass_of_methodNamed Bd.named
  have hnm := (name_of_methodNamed Bd.named Bd.method).1
  have X0 : Stand p l e (RM 1 0 0 18) s m #[.ref a1, .ref a2, .int 42, .int 0] below meth c s₁ [] 0 0 := Stand.of_body Bd
  have e0 : s₁.heap = h0 := by rw [← hh, Bd.state]; rfl
  have N0 := Fr.nil n0
  have pre0 : GO p e below (s₁.setTop (mkF m 0 #[.val (.ref a1), .val (.ref a2), .val (.int 42), .val (.int 0)] [])) (s₁.setTop (entryFrame m #[.ref a1, .ref a2, .int 42, .int 0] 4)) := fun t k => castTop (ef_24 m a1 a2 (42 : Int32) (0 : Int32)) k
  have KK := Keep.refl h0 [a2]
  obtain ⟨cq201, kq201, q201a, q201b, q201c⟩ := isOf hZ e0 E_a1
  obtain ⟨_, _, ⟨T201, _, _, _⟩, -, X201, ⟨_, hQ201, l201, y201, z201⟩, st201⟩ := X0.virtualBack hx (y := mn0) (z := mn0) hown (mvT hZ (ww hw 91 rfl)) (mvT hZ (ww hw 92 rfl)) (notFace_of_selects (args := #[]) (mvT hZ (ww hw 94 rfl))) (mvT hZ (ww hw 94 rfl)) (mvT hZ (ww hw 93 rfl)) (by decide) (backOf (W := 0) (rm15 l Z a0 hw [] a1 wC h0 n0 Z0 SC hz F_coder_a1) hZ (ww hw 95 rfl) (ww hw 2 rfl) (by decide) (by decide)) q201a q201c (g := (mkF m 1 #[.val (.ref a1), .val (.ref a2), .val (.int 42), .val (.int 0)] [.ref a1])) rfl (by rw [hml]; rfl) (Steps.refl _) (argsL := []) (rest := []) (lenOf pd_2 rfl) rfl (wz rfl) (hb hby d24_1) (fun _ _ => ⟨rfl, e0, (by decide : 0 + 0 ≤ _), (by decide : 0 + 0 ≤ _)⟩)
  dsimp only [Pt.U, Pt.locs, Pt.cells, Pt.slots] at X201 l201 y201 z201 st201 hQ201
  rw [l201, y201, z201] at X201
  obtain ⟨rfl, N201q, e201⟩ := hQ201
  have q201 : f15 a1 wC = (0 : Int32) := rfl
  rw [q201] at st201
  have N201 := Fr.app N0 N201q
  obtain ⟨T202, X202, e202, st202⟩ := getF X201 hx hZ hown (host := "") (Or.inl (ww hw 28 rfl)) Via.refl e201 F_value_a1 (g := (mkF m 9 #[.val (.ref a1), .val (.ref a2), .val (.int 42), .val (.int 0)] [.ref a1])) rfl rfl (hb hby d24_9)
  obtain ⟨T203, X203, e203, st203⟩ := getF X202 hx hZ hown (host := "") (Or.inl (ww hw 28 rfl)) Via.refl e202 F_value_a1 (g := (mkF m 18 #[.val (.ref a1), .val (.ref a2), .val (.int 42), .val (.int 0)] [.ref a1, .int 42, .ref a2, .int 0, .ref t1])) rfl rfl (hb hby d24_18)
  obtain ⟨cl204, Ar204, q204, Sz204, Nn204, Hh204, Gg204⟩ := id V_t1
  replace V_a2 := V_a2.pad (pad_rep (LB cs) (.int 0) ((1 : Int32)).toNatClampNeg)
  obtain ⟨T205, h205, L205, X205, e205, N205, K205, Vn205, st205⟩ := cpA X203 hx hZ hown (ww hw 145 rfl) (ww hw 128 rfl) (ww hw 126 rfl) (ww hw 127 rfl) e203 (us := (LB ds)) V_t1 V_a2 (Or.inl ⟨rfl, rfl⟩) (by decide) (by decide) (by decide) (by decide) (by decide) (own_us ((own_lblen ds).trans (show (1 : Int32).toNatClampNeg = List.length ds from by rw [hds]; rfl).symm)) (own_catlen (zm := (1 : Int32)) (show (42 : Int32).toNatClampNeg = List.length cs from by rw [hcs]; rfl)) N201 g_a2 (g := (mkF m 22 #[.val (.ref a1), .val (.ref a2), .val (.int 42), .val (.int 0)] [.int 1, .int 42, .ref a2, .int 0, .ref t1])) rfl (by rw [hml]; rfl) rfl (hb hby d24_22) (by decide) (W := 0) (wz rfl) (by decide)
  replace SC := own_stakeep SC K205 (nsS (Arv.nostat V_a2) ns0)
  replace E_a1 := E_a1.keep K205
  replace F_coder_a1 := F_coder_a1.keep K205 (ninS (Ne.symm ne_a2_a1) nin0)
  replace F_value_a1 := F_value_a1.keep K205 (ninS (Ne.symm ne_a2_a1) nin0)
  replace V_t1 := V_t1.keep K205 (ninS (Ne.symm ne_a2_t1) nin0)
  replace Z0 := Nat.le_trans Z0 K205.1
  replace KK := KK.trans K205 (allS (Or.inl (List.mem_of_getElem? (i := 0) rfl)) all0)
  have V_a2 : Arv Z h205 a2 kd .byte (70 : Int32) (LB (cs ++ ds)) (.int 0) := by rw [own_cat (show (42 : Int32).toNatClampNeg = List.length cs from by rw [hcs]; rfl) (show (1 : Int32).toNatClampNeg = List.length ds from by rw [hds]; rfl)] at Vn205; exact Vn205
  obtain ⟨fs, hr, hrun, hended, hW, hsame⟩ := X205.leave (v := none) (fun _ => rfl)
  refine ⟨_, _, pre0 _ ?_, hrun, hended, _, _, rfl, ?_, ⟨_, rfl⟩, hW, hsame.mono (by decide) (by decide)⟩
  · refine y_aloadN X0 hx hby d24_0 rfl rfl ?_
    refine st201.trans ?_
    show SP p e below T201 (mkF m 4 #[.val (.ref a1), .val (.ref a2), .val (.int 42), .val (.int 0)] [.int 0]) _
    refine y_iloadN X201 hx hby d24_4 rfl ?_
    refine y_icmpNo X201 hx hby d24_5 (teq rfl).2 ?_
    refine y_aloadN X201 hx hby d24_8 rfl rfl ?_
    refine st202 _ ?_
    show SP p e below T202 (mkF m 12 #[.val (.ref a1), .val (.ref a2), .val (.int 42), .val (.int 0)] [.ref t1]) _
    refine y_iconst X202 hx hby (v := (0 : Int32)) d24_12 rfl ?_
    refine y_aloadN X202 hx hby d24_13 rfl rfl ?_
    refine y_iloadN X202 hx hby d24_14 rfl ?_
    refine y_iloadN X202 hx hby d24_15 rfl ?_
    refine y_ishl X202 hx hby d24_16 ?_
    rw [show ((42 : Int32) <<< ((0 : Int32) &&& 31)) = (42 : Int32) from by decide]
    refine y_aloadN X202 hx hby d24_17 rfl rfl ?_
    refine st203 _ ?_
    show SP p e below T203 (mkF m 21 #[.val (.ref a1), .val (.ref a2), .val (.int 42), .val (.int 0)] [.ref t1, .int 42, .ref a2, .int 0, .ref t1]) _
    refine X203.arraylength hx (by rw [e203]; exact Ar204.1) (State.isArrayOf_alike hZ.alike Ar204.2.1) (g := (mkF m 21 #[.val (.ref a1), .val (.ref a2), .val (.int 42), .val (.int 0)] [.ref t1, .int 42, .ref a2, .int 0, .ref t1])) rfl rfl (hb hby d24_21) _ ?_
    rw [len_of Sz204 Nn204]
    show SP p e below T203 (mkF m 22 #[.val (.ref a1), .val (.ref a2), .val (.int 42), .val (.int 0)] [.int 1, .int 42, .ref a2, .int 0, .ref t1]) _
    refine st205 _ ?_
    show SP p e below T205 (mkF m 25 #[.val (.ref a1), .val (.ref a2), .val (.int 42), .val (.int 0)] []) _
    refine y_goto X205 hx hby (pc' := 43) d24_25 (by decide) (by decide) ?_
    show Steps p.tables e below (T205.setTop (mkF m 43 #[.val (.ref a1), .val (.ref a2), .val (.int 42), .val (.int 0)] [])) _
    exact X205.returnOut hx Bd.returns (hb hby d24_43) hr
  · show QW _ _ _ h0 n0 _ T205.heap _
    rw [e205]
    exact ⟨rfl, N205, KK, V_a2⟩
set_option maxRecDepth 65536 in
set_option maxHeartbeats 40000000 in
theorem rm22_42 (l : Launch) (Z : State) (a0 : Array Value) (hw : HW a0 Z) (ws : List Jvm.Cond) (a1 a3 d1 : Addr) (kd : ClassId) (cs : List Int32) (t1 : Addr) (k1 : ClassId) (ds : List Int32) (wC : Int32) (h0 : Heap) (n0 : Nat) (Z0 : n0 ≤ h0.size) (SC : SS Z h0 wC) (hz : ¬ wC = 0) (hcs : cs.length = 42) (hds : ds.length = 1) (E_a1 : EB Z h0 a1) (F_coder_a1 : FC Z h0 a1 (.int 0)) (F_value_a1 : FV Z h0 a1 (.ref d1)) (V_d1 : Arv Z h0 d1 kd .byte (70 : Int32) (LB cs) (.int 0)) (E_a3 : ES Z h0 a3) (F_coder_a3 : GC Z h0 a3 (.int 0)) (F_value_a3 : GV Z h0 a3 (.ref t1)) (V_t1 : Arv Z h0 t1 k1 .byte (1 : Int32) (LB ds) (.int 0)) (g_d1 : n0 ≤ d1) (ne_a1_d1 : a1 ≠ d1) (ne_d1_a3 : d1 ≠ a3) (ne_d1_t1 : d1 ≠ t1) :
    MF l mn17 jdk_68_method_73_code 3 none ws (RM 2 0 0 33) #[.ref a1, .int 42, .ref a3] Z h0 (QW [d1] none (fun h => Arv Z h d1 kd .byte (70 : Int32) (LB (cs ++ ds)) (.int 0)) h0 n0) := by
  refine MetFree.of_bodySF (plainFor_of_name pn_17) hisR ?_
  intro p e s m args below meth c s₁ Bd hml0 hP hK
  obtain ⟨rfl, hZ, hh⟩ := hP
  have hx := Bd.exec
  have hby := Bd.bytes
  have hml : c.maxLocals = 3 := hml0
  have hown : s.vm.findClass "java/lang/AbstractStringBuilder" = some m.cls := findClass_of_methodNamed Bd.named
  have hnm := (name_of_methodNamed Bd.named Bd.method).1
  have X0 : Stand p l e (RM 2 0 0 33) s m #[.ref a1, .int 42, .ref a3] below meth c s₁ [] 0 0 := Stand.of_body Bd
  have e0 : s₁.heap = h0 := by rw [← hh, Bd.state]; rfl
  have N0 := Fr.nil n0
  have pre0 : GO p e below (s₁.setTop (mkF m 0 #[.val (.ref a1), .val (.int 42), .val (.ref a3)] [])) (s₁.setTop (entryFrame m #[.ref a1, .int 42, .ref a3] 3)) := fun t k => castTop (ef_22 m a1 (42 : Int32) a3) k
  have KK := Keep.refl h0 [d1]
  obtain ⟨cq206, q206a, q206b⟩ := Exa.cell E_a1
  obtain ⟨_, _, ⟨T206, _, _, _⟩, -, X206, ⟨_, hQ206, l206, y206, z206⟩, st206⟩ := X0.privateBack hx (y := mn6) hown (mvT hZ (ww hw 134 rfl)) (mvT hZ (ww hw 135 rfl)) (mvT hZ (own_selp (ww hw 136 rfl) (ww hw 135 rfl) (ww hw 137 rfl) (by decide))) (Cond.privateMethod_at (mvP hZ (ww hw 136 rfl) (args := #[]))) (mvT hZ (ww hw 138 rfl)) (by decide) (backOf (W := 0) (rm23 l Z a0 hw [] a1 a3 wC h0 n0 Z0 SC hz F_coder_a1 E_a3 F_coder_a3) hZ (ww hw 138 rfl) (ww hw 65 rfl) (by decide) (by decide)) (g := (mkF m 2 #[.val (.ref a1), .val (.int 42), .val (.ref a3)] [.ref a3, .ref a1])) rfl (by rw [hml]; rfl) (Steps.refl _) (a := a1) (by rw [e0]; exact q206a) q206b (argsL := [.ref a3]) (rest := []) (lenOf pd_8 rfl) rfl (wz rfl) (hb hby d22_2) (fun _ _ => ⟨rfl, e0, (by decide : 0 + 0 ≤ _), (by decide : 0 + 0 ≤ _)⟩)
  dsimp only [Pt.U, Pt.locs, Pt.cells, Pt.slots] at X206 l206 y206 z206 st206 hQ206
  rw [l206, y206, z206] at X206
  obtain ⟨rfl, N206q, e206⟩ := hQ206
  have N206 := Fr.app N0 N206q
  obtain ⟨T207, X207, e207, st207⟩ := getF X206 hx hZ hown (host := "") (Or.inl (ww hw 69 rfl)) Via.refl e206 F_value_a1 (g := (mkF m 7 #[.val (.ref a1), .val (.int 42), .val (.ref a3)] [.ref a1, .ref a3])) rfl rfl (hb hby d22_7)
  obtain ⟨T208, X208, e208, st208⟩ := getF X207 hx hZ hown (host := "") (Or.inl (ww hw 71 rfl)) Via.refl e207 F_coder_a1 (g := (mkF m 12 #[.val (.ref a1), .val (.int 42), .val (.ref a3)] [.ref a1, .int 42, .ref d1, .ref a3])) rfl rfl (hb hby d22_12)
  obtain ⟨cq209, kq209, q209a, q209b, q209c⟩ := isOf hZ e208 E_a3
  obtain ⟨_, _, ⟨T209, _, _, _⟩, -, X209, ⟨_, hQ209, l209, y209, z209⟩, st209⟩ := X208.virtualBack hx (y := mn16) (z := mn16) hown (mvT hZ (ww hw 140 rfl)) (mvT hZ (ww hw 141 rfl)) (notFace_of_selects (args := #[]) (mvT hZ (ww hw 143 rfl))) (mvT hZ (ww hw 143 rfl)) (mvT hZ (ww hw 142 rfl)) (by decide) (backOf (W := 0) (rm24_42 l Z a0 hw [] a3 d1 kd cs t1 k1 ds wC h0 n0 Z0 SC hz hcs hds E_a3 F_coder_a3 F_value_a3 V_t1 V_d1 g_d1 ne_d1_t1 ne_d1_a3) hZ (ww hw 144 rfl) (ww hw 2 rfl) (by decide) (by decide)) q209a q209c (g := (mkF m 15 #[.val (.ref a1), .val (.int 42), .val (.ref a3)] [.int 0, .int 42, .ref d1, .ref a3])) rfl (by rw [hml]; rfl) (Steps.refl _) (argsL := [.ref d1, .int 42, .int 0]) (rest := []) (lenOf pd_9 rfl) rfl (wz rfl) (hb hby d22_15) (fun _ _ => ⟨rfl, e208, (by decide : 0 + 0 ≤ _), (by decide : 0 + 0 ≤ _)⟩)
  dsimp only [Pt.U, Pt.locs, Pt.cells, Pt.slots] at X209 l209 y209 z209 st209 hQ209
  rw [l209, y209, z209] at X209
  obtain ⟨h209, e209⟩ : ∃ z, T209.heap = z := ⟨_, rfl⟩
  rw [e209] at hQ209
  obtain ⟨rfl, N209q, K209, G209_0⟩ := hQ209
  replace SC := own_stakeep SC K209 (nsS (Arv.nostat V_d1) ns0)
  replace E_a1 := E_a1.keep K209
  replace F_coder_a1 := F_coder_a1.keep K209 (ninS ne_a1_d1 nin0)
  replace F_value_a1 := F_value_a1.keep K209 (ninS ne_a1_d1 nin0)
  replace E_a3 := E_a3.keep K209
  replace F_coder_a3 := F_coder_a3.keep K209 (ninS (Ne.symm ne_d1_a3) nin0)
  replace F_value_a3 := F_value_a3.keep K209 (ninS (Ne.symm ne_d1_a3) nin0)
  replace V_t1 := V_t1.keep K209 (ninS (Ne.symm ne_d1_t1) nin0)
  replace Z0 := Nat.le_trans Z0 K209.1
  replace KK := KK.trans K209 (allS (Or.inl (List.mem_of_getElem? (i := 0) rfl)) all0)
  have V_d1 : Arv Z h209 d1 kd .byte (70 : Int32) (LB (cs ++ ds)) (.int 0) := G209_0
  have N209 := Fr.app N206 N209q
  obtain ⟨fs, hr, hrun, hended, hW, hsame⟩ := X209.leave (v := none) (fun _ => rfl)
  refine ⟨_, _, pre0 _ ?_, hrun, hended, _, _, rfl, ?_, ⟨_, rfl⟩, hW, hsame.mono (by decide) (by decide)⟩
  · refine y_aloadN X0 hx hby d22_0 rfl rfl ?_
    refine y_aloadN X0 hx hby d22_1 rfl rfl ?_
    refine st206.trans ?_
    show SP p e below T206 (mkF m 5 #[.val (.ref a1), .val (.int 42), .val (.ref a3)] []) _
    refine y_aloadN X206 hx hby d22_5 rfl rfl ?_
    refine y_aloadN X206 hx hby d22_6 rfl rfl ?_
    refine st207 _ ?_
    show SP p e below T207 (mkF m 10 #[.val (.ref a1), .val (.int 42), .val (.ref a3)] [.ref d1, .ref a3]) _
    refine y_iloadN X207 hx hby d22_10 rfl ?_
    refine y_aloadN X207 hx hby d22_11 rfl rfl ?_
    refine st208 _ ?_
    show SP p e below T208 (mkF m 15 #[.val (.ref a1), .val (.int 42), .val (.ref a3)] [.int 0, .int 42, .ref d1, .ref a3]) _
    refine st209.trans ?_
    show Steps p.tables e below (T209.setTop (mkF m 18 #[.val (.ref a1), .val (.int 42), .val (.ref a3)] [])) _
    exact X209.returnOut hx Bd.returns (hb hby d22_18) hr
  · show QW _ _ _ h0 n0 _ T209.heap _
    rw [e209]
    exact ⟨rfl, N209, KK, V_d1⟩
set_option maxRecDepth 65536 in
set_option maxHeartbeats 40000000 in
theorem rm13_42 (l : Launch) (Z : State) (a0 : Array Value) (hw : HW a0 Z) (ws : List Jvm.Cond) (a1 a2 d1 : Addr) (kd : ClassId) (cs : List Int32) (t1 : Addr) (k1 : ClassId) (ds : List Int32) (wC : Int32) (h0 : Heap) (n0 : Nat) (Z0 : n0 ≤ h0.size) (SC : SS Z h0 wC) (hz : ¬ wC = 0) (hcs : cs.length = 42) (hds : ds.length = 1) (E_a1 : EB Z h0 a1) (F_coder_a1 : FC Z h0 a1 (.int 0)) (F_value_a1 : FV Z h0 a1 (.ref d1)) (F_count_a1 : FN Z h0 a1 (.int 42)) (V_d1 : Arv Z h0 d1 kd .byte (70 : Int32) (LB cs) (.int 0)) (E_a2 : ES Z h0 a2) (F_coder_a2 : GC Z h0 a2 (.int 0)) (F_value_a2 : GV Z h0 a2 (.ref t1)) (V_t1 : Arv Z h0 t1 k1 .byte (1 : Int32) (LB ds) (.int 0)) (g_a1 : n0 ≤ a1) (g_d1 : n0 ≤ d1) (ne_a1_d1 : a1 ≠ d1) (ne_a1_a2 : a1 ≠ a2) (ne_a1_t1 : a1 ≠ t1) (ne_d1_a2 : d1 ≠ a2) (ne_d1_t1 : d1 ≠ t1) :
    MF l mn18 jdk_68_method_22_code 3 (some (.object "java/lang/AbstractStringBuilder")) ws (RM 3 0 0 47) #[.ref a1, .ref a2] Z h0 (QW [a1, d1] (some (.ref a1)) (fun h => FC Z h a1 (.int 0) ∧ FV Z h a1 (.ref d1) ∧ FN Z h a1 (.int 43) ∧ Arv Z h d1 kd .byte (70 : Int32) (LB (cs ++ ds)) (.int 0)) h0 n0) := by
  refine MetFree.of_bodySF (plainFor_of_name pn_17) hisR ?_
  intro p e s m args below meth c s₁ Bd hml0 hP hK
  obtain ⟨rfl, hZ, hh⟩ := hP
  have hx := Bd.exec
  have hby := Bd.bytes
  have hml : c.maxLocals = 3 := hml0
  have hown : s.vm.findClass "java/lang/AbstractStringBuilder" = some m.cls := findClass_of_methodNamed Bd.named
  have hnm := (name_of_methodNamed Bd.named Bd.method).1
  have X0 : Stand p l e (RM 3 0 0 47) s m #[.ref a1, .ref a2] below meth c s₁ [] 0 0 := Stand.of_body Bd
  have e0 : s₁.heap = h0 := by rw [← hh, Bd.state]; rfl
  have N0 := Fr.nil n0
  have pre0 : GO p e below (s₁.setTop (mkF m 0 #[.val (.ref a1), .val (.ref a2), .unset] [])) (s₁.setTop (entryFrame m #[.ref a1, .ref a2] 3)) := fun t k => castTop (ef_13 m a1 a2) k
  have KK := Keep.refl h0 [a1, d1]
  obtain ⟨cq210, kq210, q210a, q210b, q210c⟩ := isOf hZ e0 E_a2
  obtain ⟨_, _, ⟨T210, _, _, _⟩, -, X210, ⟨_, hQ210, l210, y210, z210⟩, st210⟩ := X0.virtualBack hx (y := mn5) (z := mn5) hown (mvT hZ (ww hw 86 rfl)) (mvT hZ (ww hw 87 rfl)) (notFace_of_selects (args := #[]) (mvT hZ (ww hw 89 rfl))) (mvT hZ (ww hw 89 rfl)) (mvT hZ (ww hw 88 rfl)) (by decide) (backOf (W := 0) (rm14_1 l Z a0 hw [] a2 t1 k1 ds wC h0 n0 Z0 SC hz E_a2 F_coder_a2 F_value_a2 V_t1) hZ (ww hw 90 rfl) (ww hw 2 rfl) (by decide) (by decide)) q210a q210c (g := (mkF m 10 #[.val (.ref a1), .val (.ref a2), .unset] [.ref a2])) rfl (by rw [hml]; rfl) (Steps.refl _) (argsL := []) (rest := []) (lenOf pd_3 rfl) rfl (wz rfl) (hb hby d13_10) (fun _ _ => ⟨rfl, e0, (by decide : 0 + 0 ≤ _), (by decide : 0 + 0 ≤ _)⟩)
  dsimp only [Pt.U, Pt.locs, Pt.cells, Pt.slots] at X210 l210 y210 z210 st210 hQ210
  rw [l210, y210, z210] at X210
  obtain ⟨rfl, N210q, e210⟩ := hQ210
  have N210 := Fr.app N0 N210q
  obtain ⟨T211, X211, e211, st211⟩ := getF X210 hx hZ hown (host := "") (Or.inl (ww hw 96 rfl)) Via.refl e210 F_count_a1 (g := (mkF m 16 #[.val (.ref a1), .val (.ref a2), .val (.int 1)] [.ref a1, .ref a1])) rfl rfl (hb hby d13_16)
  obtain ⟨cq212, q212a, q212b⟩ := Exa.cell E_a1
  obtain ⟨_, _, ⟨T212, _, _, _⟩, -, X212, ⟨_, hQ212, l212, y212, z212⟩, st212⟩ := X211.privateBack hx (y := mn15) hown (mvT hZ (ww hw 98 rfl)) (mvT hZ (ww hw 99 rfl)) (mvT hZ (own_selp (ww hw 100 rfl) (ww hw 99 rfl) (ww hw 101 rfl) (by decide))) (Cond.privateMethod_at (mvP hZ (ww hw 100 rfl) (args := #[]))) (mvT hZ (ww hw 102 rfl)) (by decide) (backOf (W := 0) (rm16_k43 l Z a0 hw [] a1 d1 kd cs h0 n0 Z0 F_coder_a1 F_value_a1 V_d1) hZ (ww hw 102 rfl) (ww hw 65 rfl) (by decide) (by decide)) (g := (mkF m 21 #[.val (.ref a1), .val (.ref a2), .val (.int 1)] [.int 43, .ref a1])) rfl (by rw [hml]; rfl) (Steps.refl _) (a := a1) (by rw [e211]; exact q212a) q212b (argsL := [.int 43]) (rest := []) (lenOf pd_10 rfl) rfl (wz rfl) (hb hby d13_21) (fun _ _ => ⟨rfl, e211, (by decide : 0 + 0 ≤ _), (by decide : 0 + 0 ≤ _)⟩)
  dsimp only [Pt.U, Pt.locs, Pt.cells, Pt.slots] at X212 l212 y212 z212 st212 hQ212
  rw [l212, y212, z212] at X212
  obtain ⟨rfl, N212q, e212⟩ := hQ212
  have N212 := Fr.app N210 N212q
  obtain ⟨T213, X213, e213, st213⟩ := getF X212 hx hZ hown (host := "") (Or.inl (ww hw 96 rfl)) Via.refl e212 F_count_a1 (g := (mkF m 26 #[.val (.ref a1), .val (.ref a2), .val (.int 1)] [.ref a1, .ref a1])) rfl rfl (hb hby d13_26)
  obtain ⟨cq214, q214a, q214b⟩ := Exa.cell E_a1
  obtain ⟨_, _, ⟨T214, _, _, _⟩, -, X214, ⟨_, hQ214, l214, y214, z214⟩, st214⟩ := X213.privateBack hx (y := mn17) hown (mvT hZ (ww hw 129 rfl)) (mvT hZ (ww hw 130 rfl)) (mvT hZ (own_selp (ww hw 131 rfl) (ww hw 130 rfl) (ww hw 132 rfl) (by decide))) (Cond.privateMethod_at (mvP hZ (ww hw 131 rfl) (args := #[]))) (mvT hZ (ww hw 133 rfl)) (by decide) (backOf (W := 0) (rm22_42 l Z a0 hw [] a1 a2 d1 kd cs t1 k1 ds wC h0 n0 Z0 SC hz hcs hds E_a1 F_coder_a1 F_value_a1 V_d1 E_a2 F_coder_a2 F_value_a2 V_t1 g_d1 ne_a1_d1 ne_d1_a2 ne_d1_t1) hZ (ww hw 133 rfl) (ww hw 65 rfl) (by decide) (by decide)) (g := (mkF m 30 #[.val (.ref a1), .val (.ref a2), .val (.int 1)] [.ref a2, .int 42, .ref a1])) rfl (by rw [hml]; rfl) (Steps.refl _) (a := a1) (by rw [e213]; exact q214a) q214b (argsL := [.int 42, .ref a2]) (rest := []) (lenOf pd_11 rfl) rfl (wz rfl) (hb hby d13_30) (fun _ _ => ⟨rfl, e213, (by decide : 0 + 0 ≤ _), (by decide : 0 + 0 ≤ _)⟩)
  dsimp only [Pt.U, Pt.locs, Pt.cells, Pt.slots] at X214 l214 y214 z214 st214 hQ214
  rw [l214, y214, z214] at X214
  obtain ⟨h214, e214⟩ : ∃ z, T214.heap = z := ⟨_, rfl⟩
  rw [e214] at hQ214
  obtain ⟨rfl, N214q, K214, G214_0⟩ := hQ214
  replace SC := own_stakeep SC K214 (nsS (Arv.nostat V_d1) ns0)
  replace E_a1 := E_a1.keep K214
  replace F_coder_a1 := F_coder_a1.keep K214 (ninS ne_a1_d1 nin0)
  replace F_value_a1 := F_value_a1.keep K214 (ninS ne_a1_d1 nin0)
  replace F_count_a1 := F_count_a1.keep K214 (ninS ne_a1_d1 nin0)
  replace E_a2 := E_a2.keep K214
  replace F_coder_a2 := F_coder_a2.keep K214 (ninS (Ne.symm ne_d1_a2) nin0)
  replace F_value_a2 := F_value_a2.keep K214 (ninS (Ne.symm ne_d1_a2) nin0)
  replace V_t1 := V_t1.keep K214 (ninS (Ne.symm ne_d1_t1) nin0)
  replace Z0 := Nat.le_trans Z0 K214.1
  replace KK := KK.trans K214 (allS (Or.inl (List.mem_of_getElem? (i := 1) rfl)) all0)
  have V_d1 : Arv Z h214 d1 kd .byte (70 : Int32) (LB (cs ++ ds)) (.int 0) := G214_0
  have N214 := Fr.app N212 N214q
  obtain ⟨T215, X215, e215, st215⟩ := getF X214 hx hZ hown (host := "") (Or.inl (ww hw 96 rfl)) Via.refl e214 F_count_a1 (g := (mkF m 35 #[.val (.ref a1), .val (.ref a2), .val (.int 1)] [.ref a1, .ref a1])) rfl rfl (hb hby d13_35)
  obtain ⟨T216, h216, X216, e216, W216, st216⟩ := putF X215 hx hZ hown (host := "") (Or.inl (ww hw 96 rfl)) Via.refl e215 F_count_a1 E_a1 (Or.inl (ww hw 97 rfl)) (ww hw 56 rfl) (ty := .int) (by decide) rfl rfl (g := (mkF m 40 #[.val (.ref a1), .val (.ref a2), .val (.int 1)] [.int 43, .ref a1])) rfl rfl (hb hby d13_40)
  replace E_a1 := E_a1.wr W216
  replace F_coder_a1 := F_coder_a1.other W216 (Or.inr (slot_ne (Or.inl (ww hw 72 rfl)) (Or.inl (ww hw 97 rfl)) (by decide) (t := .byte) (t' := .int) (by decide) (by decide)))
  replace F_value_a1 := F_value_a1.other W216 (Or.inr (slot_ne (Or.inl (ww hw 70 rfl)) (Or.inl (ww hw 97 rfl)) (by decide) (t := (.array .byte)) (t' := .int) (by decide) (by decide)))
  replace F_count_a1 := F_count_a1.same W216
  replace E_a2 := E_a2.wr W216
  replace F_coder_a2 := F_coder_a2.other W216 (Or.inl (Ne.symm ne_a1_a2))
  replace F_value_a2 := F_value_a2.other W216 (Or.inl (Ne.symm ne_a1_a2))
  replace V_t1 := V_t1.other W216 (Ne.symm ne_a1_t1)
  replace SC := SC.wr W216
  replace V_d1 := V_d1.other W216 (Ne.symm ne_a1_d1)
  replace Z0 := Nat.le_trans Z0 (Keep.of_wr W216).1
  replace KK := KK.wr W216 (Or.inl (List.mem_of_getElem? (i := 0) rfl))
  have N216 := Fr.snoc X216 N214 g_a1
  obtain ⟨fs, hr, hrun, hended, hW, hsame⟩ := X216.leave (v := some (.ref a1)) (fun h => by rw [Bd.returns] at h; cases h)
  refine ⟨_, _, pre0 _ ?_, hrun, hended, _, _, rfl, ?_, ⟨_, rfl⟩, hW, hsame.mono (by decide) (by decide)⟩
  · refine y_aloadN X0 hx hby d13_0 rfl rfl ?_
    refine y_ifnonnullYes X0 hx hby (pc' := 9) d13_1 (by decide) (by decide) ?_
    refine y_aloadN X0 hx hby d13_9 rfl rfl ?_
    refine st210.trans ?_
    show SP p e below T210 (mkF m 13 #[.val (.ref a1), .val (.ref a2), .unset] [.int 1]) _
    refine y_istoreN X210 hx hby d13_13 (l' := #[.val (.ref a1), .val (.ref a2), .val (.int 1)]) rfl ?_
    refine y_aloadN X210 hx hby d13_14 rfl rfl ?_
    refine y_aloadN X210 hx hby d13_15 rfl rfl ?_
    refine st211 _ ?_
    show SP p e below T211 (mkF m 19 #[.val (.ref a1), .val (.ref a2), .val (.int 1)] [.int 42, .ref a1]) _
    refine y_iloadN X211 hx hby d13_19 rfl ?_
    refine y_iadd X211 hx hby d13_20 ?_
    rw [show ((42 : Int32) + (1 : Int32)) = (43 : Int32) from by decide]
    refine st212.trans ?_
    show SP p e below T212 (mkF m 24 #[.val (.ref a1), .val (.ref a2), .val (.int 1)] []) _
    refine y_aloadN X212 hx hby d13_24 rfl rfl ?_
    refine y_aloadN X212 hx hby d13_25 rfl rfl ?_
    refine st213 _ ?_
    show SP p e below T213 (mkF m 29 #[.val (.ref a1), .val (.ref a2), .val (.int 1)] [.int 42, .ref a1]) _
    refine y_aloadN X213 hx hby d13_29 rfl rfl ?_
    refine st214.trans ?_
    show SP p e below T214 (mkF m 33 #[.val (.ref a1), .val (.ref a2), .val (.int 1)] []) _
    refine y_aloadN X214 hx hby d13_33 rfl rfl ?_
    refine y_dup X214 hx hby d13_34 rfl ?_
    refine st215 _ ?_
    show SP p e below T215 (mkF m 38 #[.val (.ref a1), .val (.ref a2), .val (.int 1)] [.int 42, .ref a1]) _
    refine y_iloadN X215 hx hby d13_38 rfl ?_
    refine y_iadd X215 hx hby d13_39 ?_
    rw [show ((42 : Int32) + (1 : Int32)) = (43 : Int32) from by decide]
    refine st216 _ ?_
    show SP p e below T216 (mkF m 43 #[.val (.ref a1), .val (.ref a2), .val (.int 1)] []) _
    refine y_aloadN X216 hx hby d13_43 rfl rfl ?_
    show Steps p.tables e below (T216.setTop (mkF m 44 #[.val (.ref a1), .val (.ref a2), .val (.int 1)] [.ref a1])) _
    jvm_step X216.here [X216.here.top, hx, (hb hby d13_44), X216.method', Bd.returns, Value.isRef, FieldType.isReference]
    first | (intro acts; rw [hr _ acts rfl rfl rfl]) | rw [hr _ _ rfl rfl rfl]
    exact Steps.refl _
  · show QW _ _ _ h0 n0 _ T216.heap _
    rw [e216]
    exact ⟨rfl, N216, KK, F_coder_a1, F_value_a1, F_count_a1, V_d1⟩
set_option maxRecDepth 65536 in
set_option maxHeartbeats 40000000 in
theorem rm12_42 (l : Launch) (Z : State) (a0 : Array Value) (hw : HW a0 Z) (ws : List Jvm.Cond) (a1 a2 d1 : Addr) (kd : ClassId) (cs : List Int32) (t1 : Addr) (k1 : ClassId) (ds : List Int32) (wC : Int32) (h0 : Heap) (n0 : Nat) (Z0 : n0 ≤ h0.size) (SC : SS Z h0 wC) (hz : ¬ wC = 0) (hcs : cs.length = 42) (hds : ds.length = 1) (E_a1 : EB Z h0 a1) (F_coder_a1 : FC Z h0 a1 (.int 0)) (F_value_a1 : FV Z h0 a1 (.ref d1)) (F_count_a1 : FN Z h0 a1 (.int 42)) (V_d1 : Arv Z h0 d1 kd .byte (70 : Int32) (LB cs) (.int 0)) (E_a2 : ES Z h0 a2) (F_coder_a2 : GC Z h0 a2 (.int 0)) (F_value_a2 : GV Z h0 a2 (.ref t1)) (V_t1 : Arv Z h0 t1 k1 .byte (1 : Int32) (LB ds) (.int 0)) (g_a1 : n0 ≤ a1) (g_d1 : n0 ≤ d1) (ne_a1_d1 : a1 ≠ d1) (ne_a1_a2 : a1 ≠ a2) (ne_a1_t1 : a1 ≠ t1) (ne_d1_a2 : d1 ≠ a2) (ne_d1_t1 : d1 ≠ t1) :
    MF l mn19 jdk_67_method_7_code 2 (some (.object "java/lang/StringBuilder")) ws (RM 4 0 0 61) #[.ref a1, .ref a2] Z h0 (QW [a1, d1] (some (.ref a1)) (fun h => FC Z h a1 (.int 0) ∧ FV Z h a1 (.ref d1) ∧ FN Z h a1 (.int 43) ∧ Arv Z h d1 kd .byte (70 : Int32) (LB (cs ++ ds)) (.int 0)) h0 n0) := by
  refine MetFree.of_bodySF (plainFor_of_name pn_32) hisR ?_
  intro p e s m args below meth c s₁ Bd hml0 hP hK
  obtain ⟨rfl, hZ, hh⟩ := hP
  have hx := Bd.exec
  have hby := Bd.bytes
  have hml : c.maxLocals = 2 := hml0
  have hown : s.vm.findClass "java/lang/StringBuilder" = some m.cls := findClass_of_methodNamed Bd.named
  have hnm := (name_of_methodNamed Bd.named Bd.method).1
  have X0 : Stand p l e (RM 4 0 0 61) s m #[.ref a1, .ref a2] below meth c s₁ [] 0 0 := Stand.of_body Bd
  have e0 : s₁.heap = h0 := by rw [← hh, Bd.state]; rfl
  have N0 := Fr.nil n0
  have pre0 : GO p e below (s₁.setTop (mkF m 0 #[.val (.ref a1), .val (.ref a2)] [])) (s₁.setTop (entryFrame m #[.ref a1, .ref a2] 2)) := fun t k => castTop (ef_12 m a1 a2) k
  have KK := Keep.refl h0 [a1, d1]
  obtain ⟨_, _, ⟨T217, _, _, _⟩, -, X217, ⟨_, hQ217, l217, y217, z217⟩, st217⟩ := superBack X0 hx hZ (y := mn18) hown (ww hw 81 rfl) (own_same (ww hw 82 rfl) (ww hw 101 rfl) rfl (by decide)) (ww hw 82 rfl) (ww hw 83 rfl) (by decide) (backOf (W := 0) (rm13_42 l Z a0 hw [] a1 a2 d1 kd cs t1 k1 ds wC h0 n0 Z0 SC hz hcs hds E_a1 F_coder_a1 F_value_a1 F_count_a1 V_d1 E_a2 F_coder_a2 F_value_a2 V_t1 g_a1 g_d1 ne_a1_d1 ne_a1_a2 ne_a1_t1 ne_d1_a2 ne_d1_t1) hZ (ww hw 85 rfl) (ww hw 65 rfl) (by decide) (by decide)) e0 (Ins.self E_a1) (g := (mkF m 2 #[.val (.ref a1), .val (.ref a2)] [.ref a2, .ref a1])) rfl (by rw [hml]; rfl) (ww hw 85 rfl) (argsL := [.ref a2]) (rest := []) (lenOf pd_12 rfl) rfl (wz rfl) (hb hby d12_2) (fun _ _ => ⟨rfl, e0, (by decide : 0 + 0 ≤ _), (by decide : 0 + 0 ≤ _)⟩)
  dsimp only [Pt.U, Pt.locs, Pt.cells, Pt.slots] at X217 l217 y217 z217 st217 hQ217
  rw [l217, y217, z217] at X217
  obtain ⟨h217, e217⟩ : ∃ z, T217.heap = z := ⟨_, rfl⟩
  rw [e217] at hQ217
  obtain ⟨rfl, N217q, K217, G217_0, G217_1, G217_2, G217_3⟩ := hQ217
  replace SC := own_stakeep SC K217 (nsS (Exa.nostat E_a1) (nsS (Arv.nostat V_d1) ns0))
  replace E_a1 := E_a1.keep K217
  replace E_a2 := E_a2.keep K217
  replace F_coder_a2 := F_coder_a2.keep K217 (ninS (Ne.symm ne_a1_a2) (ninS (Ne.symm ne_d1_a2) nin0))
  replace F_value_a2 := F_value_a2.keep K217 (ninS (Ne.symm ne_a1_a2) (ninS (Ne.symm ne_d1_a2) nin0))
  replace V_t1 := V_t1.keep K217 (ninS (Ne.symm ne_a1_t1) (ninS (Ne.symm ne_d1_t1) nin0))
  replace Z0 := Nat.le_trans Z0 K217.1
  replace KK := KK.trans K217 (allS (Or.inl (List.mem_of_getElem? (i := 0) rfl)) (allS (Or.inl (List.mem_of_getElem? (i := 1) rfl)) all0))
  have F_coder_a1 : FC Z h217 a1 (.int 0) := G217_0
  have F_value_a1 : FV Z h217 a1 (.ref d1) := G217_1
  have F_count_a1 : FN Z h217 a1 (.int 43) := G217_2
  have V_d1 : Arv Z h217 d1 kd .byte (70 : Int32) (LB (cs ++ ds)) (.int 0) := G217_3
  have N217 := Fr.app N0 N217q
  obtain ⟨fs, hr, hrun, hended, hW, hsame⟩ := X217.leave (v := some (.ref a1)) (fun h => by rw [Bd.returns] at h; cases h)
  refine ⟨_, _, pre0 _ ?_, hrun, hended, _, _, rfl, ?_, ⟨_, rfl⟩, hW, hsame.mono (by decide) (by decide)⟩
  · refine y_aloadN X0 hx hby d12_0 rfl rfl ?_
    refine y_aloadN X0 hx hby d12_1 rfl rfl ?_
    refine st217.trans ?_
    show SP p e below T217 (mkF m 5 #[.val (.ref a1), .val (.ref a2)] [.ref a1]) _
    refine y_pop X217 hx hby d12_5 rfl ?_
    refine y_aloadN X217 hx hby d12_6 rfl rfl ?_
    show Steps p.tables e below (T217.setTop (mkF m 7 #[.val (.ref a1), .val (.ref a2)] [.ref a1])) _
    jvm_step X217.here [X217.here.top, hx, (hb hby d12_7), X217.method', Bd.returns, Value.isRef, FieldType.isReference]
    first | (intro acts; rw [hr _ acts rfl rfl rfl]) | rw [hr _ _ rfl rfl rfl]
    exact Steps.refl _
  · show QW _ _ _ h0 n0 _ T217.heap _
    rw [e217]
    exact ⟨rfl, N217, KK, F_coder_a1, F_value_a1, F_count_a1, V_d1⟩
abbrev cd26 := jdk_68_method_30_code
theorem d26_0 : DD cd26 0 (.aload_n 0) 1 := by decide +kernel
theorem d26_1 : DD cd26 1 (.aload_n 0) 1 := by decide +kernel
theorem d26_2 : DD cd26 2 (.getfield 79) 3 := by decide +kernel
theorem d26_5 : DD cd26 5 (.iload_n 1) 1 := by decide +kernel
theorem d26_6 : DD cd26 6 (.ifCond .eq 7) 3 := by decide +kernel
theorem d26_9 : DD cd26 9 (.iconst 4) 1 := by decide +kernel
theorem d26_10 : DD cd26 10 (.goto 4) 3 := by decide +kernel
theorem d26_14 : DD cd26 14 (.iadd) 1 := by decide +kernel
theorem d26_15 : DD cd26 15 (.invokevirtual 100) 3 := by decide +kernel
theorem d26_18 : DD cd26 18 (.aload_n 0) 1 := by decide +kernel
theorem d26_19 : DD cd26 19 (.getfield 79) 3 := by decide +kernel
theorem d26_22 : DD cd26 22 (.istore_n 2) 1 := by decide +kernel
theorem d26_23 : DD cd26 23 (.aload_n 0) 1 := by decide +kernel
theorem d26_24 : DD cd26 24 (.getfield 15) 3 := by decide +kernel
theorem d26_27 : DD cd26 27 (.astore_n 3) 1 := by decide +kernel
theorem d26_28 : DD cd26 28 (.aload_n 0) 1 := by decide +kernel
theorem d26_29 : DD cd26 29 (.invokevirtual 83) 3 := by decide +kernel
theorem pd_13 : parseMethodDescriptor "()Z" = some ⟨[], some .boolean⟩ := by decide +kernel
theorem d26_32 : DD cd26 32 (.ifCond .eq 85) 3 := by decide +kernel
theorem d26_35 : DD cd26 35 (.iload_n 1) 1 := by decide +kernel
theorem d26_36 : DD cd26 36 (.ifCond .eq 38) 3 := by decide +kernel
theorem d26_39 : DD cd26 39 (.aload_n 3) 1 := by decide +kernel
theorem d26_40 : DD cd26 40 (.iload_n 2) 1 := by decide +kernel
theorem d26_41 : DD cd26 41 (.iinc 2 1) 3 := by decide +kernel
theorem d26_44 : DD cd26 44 (.bipush 116) 2 := by decide +kernel
theorem d26_46 : DD cd26 46 (.bastore) 1 := by decide +kernel
theorem d26_47 : DD cd26 47 (.aload_n 3) 1 := by decide +kernel
theorem d26_48 : DD cd26 48 (.iload_n 2) 1 := by decide +kernel
theorem d26_49 : DD cd26 49 (.iinc 2 1) 3 := by decide +kernel
theorem d26_52 : DD cd26 52 (.bipush 114) 2 := by decide +kernel
theorem d26_54 : DD cd26 54 (.bastore) 1 := by decide +kernel
theorem d26_55 : DD cd26 55 (.aload_n 3) 1 := by decide +kernel
theorem d26_56 : DD cd26 56 (.iload_n 2) 1 := by decide +kernel
theorem d26_57 : DD cd26 57 (.iinc 2 1) 3 := by decide +kernel
theorem d26_60 : DD cd26 60 (.bipush 117) 2 := by decide +kernel
theorem d26_62 : DD cd26 62 (.bastore) 1 := by decide +kernel
theorem d26_63 : DD cd26 63 (.aload_n 3) 1 := by decide +kernel
theorem d26_64 : DD cd26 64 (.iload_n 2) 1 := by decide +kernel
theorem d26_65 : DD cd26 65 (.iinc 2 1) 3 := by decide +kernel
theorem d26_68 : DD cd26 68 (.bipush 101) 2 := by decide +kernel
theorem d26_70 : DD cd26 70 (.bastore) 1 := by decide +kernel
theorem d26_71 : DD cd26 71 (.goto 83) 3 := by decide +kernel
theorem d26_154 : DD cd26 154 (.aload_n 0) 1 := by decide +kernel
theorem d26_155 : DD cd26 155 (.iload_n 2) 1 := by decide +kernel
theorem d26_156 : DD cd26 156 (.putfield 79) 3 := by decide +kernel
theorem d26_159 : DD cd26 159 (.aload_n 0) 1 := by decide +kernel
theorem d26_160 : DD cd26 160 (.areturn) 1 := by decide +kernel
abbrev mn20 : MethodName := ⟨"java/lang/AbstractStringBuilder", "append", "(Z)Ljava/lang/AbstractStringBuilder;"⟩
theorem ef_26 (m : MethodId) (x0 : Addr) (x1 : Int32) : entryFrame m #[.ref x0, (.int x1)] 4 = mkF m 0 #[.val (.ref x0), .val (.int x1), .unset, .unset] [] := by first | (simp [entryFrame, mkF, argsToLocals, Value.category]; done) | rfl
set_option maxRecDepth 65536 in
set_option maxHeartbeats 40000000 in
theorem rm26_1 (l : Launch) (Z : State) (a0 : Array Value) (hw : HW a0 Z) (ws : List Jvm.Cond) (a1 d1 : Addr) (kd : ClassId) (cs : List Int32) (wC : Int32) (h0 : Heap) (n0 : Nat) (Z0 : n0 ≤ h0.size) (SC : SS Z h0 wC) (hz : ¬ wC = 0) (hcs : cs.length = 37) (E_a1 : EB Z h0 a1) (F_coder_a1 : FC Z h0 a1 (.int 0)) (F_value_a1 : FV Z h0 a1 (.ref d1)) (F_count_a1 : FN Z h0 a1 (.int 37)) (V_d1 : Arv Z h0 d1 kd .byte (70 : Int32) (LB cs) (.int 0)) (g_a1 : n0 ≤ a1) (g_d1 : n0 ≤ d1) (ne_a1_d1 : a1 ≠ d1) :
    MF l mn20 jdk_68_method_30_code 4 (some (.object "java/lang/AbstractStringBuilder")) ws (RM 1 0 0 14) #[.ref a1, .int 1] Z h0 (QW [a1, d1] (some (.ref a1)) (fun h => FC Z h a1 (.int 0) ∧ FV Z h a1 (.ref d1) ∧ FN Z h a1 (.int 41) ∧ Arv Z h d1 kd .byte (70 : Int32) (LB ((((cs ++ [(116 : Int32)]) ++ [(114 : Int32)]) ++ [(117 : Int32)]) ++ [(101 : Int32)])) (.int 0)) h0 n0) := by
  refine MetFree.of_bodySF (plainFor_of_name pn_17) hisR ?_
  intro p e s m args below meth c s₁ Bd hml0 hP hK
  obtain ⟨rfl, hZ, hh⟩ := hP
  have hx := Bd.exec
  have hby := Bd.bytes
  have hml : c.maxLocals = 4 := hml0
  have hown : s.vm.findClass "java/lang/AbstractStringBuilder" = some m.cls := findClass_of_methodNamed Bd.named
  have hnm := (name_of_methodNamed Bd.named Bd.method).1
  have X0 : Stand p l e (RM 1 0 0 14) s m #[.ref a1, .int 1] below meth c s₁ [] 0 0 := Stand.of_body Bd
  have e0 : s₁.heap = h0 := by rw [← hh, Bd.state]; rfl
  have N0 := Fr.nil n0
  have pre0 : GO p e below (s₁.setTop (mkF m 0 #[.val (.ref a1), .val (.int 1), .unset, .unset] [])) (s₁.setTop (entryFrame m #[.ref a1, .int 1] 4)) := fun t k => castTop (ef_26 m a1 (1 : Int32)) k
  have KK := Keep.refl h0 [a1, d1]
  obtain ⟨T218, X218, e218, st218⟩ := getF X0 hx hZ hown (host := "") (Or.inl (ww hw 96 rfl)) Via.refl e0 F_count_a1 (g := (mkF m 2 #[.val (.ref a1), .val (.int 1), .unset, .unset] [.ref a1, .ref a1])) rfl rfl (hb hby d26_2)
  obtain ⟨cq219, q219a, q219b⟩ := Exa.cell E_a1
  obtain ⟨_, _, ⟨T219, _, _, _⟩, -, X219, ⟨_, hQ219, l219, y219, z219⟩, st219⟩ := X218.privateBack hx (y := mn15) hown (mvT hZ (ww hw 98 rfl)) (mvT hZ (ww hw 99 rfl)) (mvT hZ (own_selp (ww hw 100 rfl) (ww hw 99 rfl) (ww hw 101 rfl) (by decide))) (Cond.privateMethod_at (mvP hZ (ww hw 100 rfl) (args := #[]))) (mvT hZ (ww hw 102 rfl)) (by decide) (backOf (W := 0) (rm16_k41 l Z a0 hw [] a1 d1 kd cs h0 n0 Z0 F_coder_a1 F_value_a1 V_d1) hZ (ww hw 102 rfl) (ww hw 65 rfl) (by decide) (by decide)) (g := (mkF m 15 #[.val (.ref a1), .val (.int 1), .unset, .unset] [.int 41, .ref a1])) rfl (by rw [hml]; rfl) (Steps.refl _) (a := a1) (by rw [e218]; exact q219a) q219b (argsL := [.int 41]) (rest := []) (lenOf pd_10 rfl) rfl (wz rfl) (hb hby d26_15) (fun _ _ => ⟨rfl, e218, (by decide : 0 + 0 ≤ _), (by decide : 0 + 0 ≤ _)⟩)
  dsimp only [Pt.U, Pt.locs, Pt.cells, Pt.slots] at X219 l219 y219 z219 st219 hQ219
  rw [l219, y219, z219] at X219
  obtain ⟨rfl, N219q, e219⟩ := hQ219
  have N219 := Fr.app N0 N219q
  obtain ⟨T220, X220, e220, st220⟩ := getF X219 hx hZ hown (host := "") (Or.inl (ww hw 96 rfl)) Via.refl e219 F_count_a1 (g := (mkF m 19 #[.val (.ref a1), .val (.int 1), .unset, .unset] [.ref a1])) rfl rfl (hb hby d26_19)
  obtain ⟨T221, X221, e221, st221⟩ := getF X220 hx hZ hown (host := "") (Or.inl (ww hw 69 rfl)) Via.refl e220 F_value_a1 (g := (mkF m 24 #[.val (.ref a1), .val (.int 1), .val (.int 37), .unset] [.ref a1])) rfl rfl (hb hby d26_24)
  obtain ⟨cq222, kq222, q222a, q222b, q222c⟩ := isOf hZ e221 E_a1
  obtain ⟨_, _, ⟨T222, _, _, _⟩, -, X222, ⟨_, hQ222, l222, y222, z222⟩, st222⟩ := X221.virtualBack hx (y := mn7) (z := mn7) hown (mvT hZ (ww hw 157 rfl)) (mvT hZ (ww hw 158 rfl)) (notFace_of_selects (args := #[]) (mvT hZ (ww hw 160 rfl))) (mvT hZ (ww hw 160 rfl)) (mvT hZ (ww hw 159 rfl)) (by decide) (backOf (W := 0) (rm27 l Z a0 hw [] a1 wC h0 n0 Z0 SC hz F_coder_a1) hZ (ww hw 161 rfl) (ww hw 65 rfl) (by decide) (by decide)) q222a q222c (g := (mkF m 29 #[.val (.ref a1), .val (.int 1), .val (.int 37), .val (.ref d1)] [.ref a1])) rfl (by rw [hml]; rfl) (Steps.refl _) (argsL := []) (rest := []) (lenOf pd_13 rfl) rfl (wz rfl) (hb hby d26_29) (fun _ _ => ⟨rfl, e221, (by decide : 0 + 0 ≤ _), (by decide : 0 + 0 ≤ _)⟩)
  dsimp only [Pt.U, Pt.locs, Pt.cells, Pt.slots] at X222 l222 y222 z222 st222 hQ222
  rw [l222, y222, z222] at X222
  obtain ⟨rfl, N222q, e222⟩ := hQ222
  have N222 := Fr.app N219 N222q
  replace V_d1 := V_d1.pad (pad_rep (LB cs) (.int 0) 1)
  obtain ⟨cl223, Ar223, q223, Sz223, Nn223, Hh223, Gg223⟩ := V_d1
  have hin223 : ¬ ((37 : Int32) < 0 ∨ cl223.slots.size ≤ ((37 : Int32)).toNatClampNeg) := inb_of Sz223 ⟨by decide, by decide⟩
  obtain ⟨T224, h224, X224, e224, W224, st224⟩ := stB X222 hx hZ e222 Ar223 (j := (37 : Int32)) hin223 (g := (mkF m 46 #[.val (.ref a1), .val (.int 1), .val (.int 38), .val (.ref d1)] [.int 116, .int 37, .ref d1])) rfl rfl (hb hby d26_46)
  replace E_a1 := E_a1.wr W224
  replace F_coder_a1 := F_coder_a1.other W224 (Or.inl ne_a1_d1)
  replace F_value_a1 := F_value_a1.other W224 (Or.inl ne_a1_d1)
  replace F_count_a1 := F_count_a1.other W224 (Or.inl ne_a1_d1)
  replace SC := SC.wr W224
  replace Z0 := Nat.le_trans Z0 (Keep.of_wr W224).1
  replace KK := KK.wr W224 (Or.inl (List.mem_of_getElem? (i := 1) rfl))
  have V_d1 : Arv Z h224 d1 kd .byte (70 : Int32) (LB (cs ++ [(116 : Int32)])) (.int 0) := by
    have q : Arv Z h224 d1 kd .byte (70 : Int32) (((LB cs) ++ List.replicate 1 (Value.int 0)).set 37 (Value.int ((116 : Int32).toInt8.toInt32))) (.int 0) := Arv.set Ar223 q223 Sz223 Nn223 Hh223 Gg223 (fits_nar_byte _) W224 37 rfl (own_pushlt hcs)
    rw [own_push hcs] at q
    exact q
  have hl224 : (cs ++ [(116 : Int32)]).length = 38 := own_pushlen hcs
  have N224 := Fr.snoc X224 N222 g_d1
  replace V_d1 := V_d1.pad (pad_rep (LB (cs ++ [(116 : Int32)])) (.int 0) 1)
  obtain ⟨cl225, Ar225, q225, Sz225, Nn225, Hh225, Gg225⟩ := V_d1
  have hin225 : ¬ ((38 : Int32) < 0 ∨ cl225.slots.size ≤ ((38 : Int32)).toNatClampNeg) := inb_of Sz225 ⟨by decide, by decide⟩
  obtain ⟨T226, h226, X226, e226, W226, st226⟩ := stB X224 hx hZ e224 Ar225 (j := (38 : Int32)) hin225 (g := (mkF m 54 #[.val (.ref a1), .val (.int 1), .val (.int 39), .val (.ref d1)] [.int 114, .int 38, .ref d1])) rfl rfl (hb hby d26_54)
  replace E_a1 := E_a1.wr W226
  replace F_coder_a1 := F_coder_a1.other W226 (Or.inl ne_a1_d1)
  replace F_value_a1 := F_value_a1.other W226 (Or.inl ne_a1_d1)
  replace F_count_a1 := F_count_a1.other W226 (Or.inl ne_a1_d1)
  replace SC := SC.wr W226
  replace Z0 := Nat.le_trans Z0 (Keep.of_wr W226).1
  replace KK := KK.wr W226 (Or.inl (List.mem_of_getElem? (i := 1) rfl))
  have V_d1 : Arv Z h226 d1 kd .byte (70 : Int32) (LB ((cs ++ [(116 : Int32)]) ++ [(114 : Int32)])) (.int 0) := by
    have q : Arv Z h226 d1 kd .byte (70 : Int32) (((LB (cs ++ [(116 : Int32)])) ++ List.replicate 1 (Value.int 0)).set 38 (Value.int ((114 : Int32).toInt8.toInt32))) (.int 0) := Arv.set Ar225 q225 Sz225 Nn225 Hh225 Gg225 (fits_nar_byte _) W226 38 rfl (own_pushlt hl224)
    rw [own_push hl224] at q
    exact q
  have hl226 : ((cs ++ [(116 : Int32)]) ++ [(114 : Int32)]).length = 39 := own_pushlen hl224
  have N226 := Fr.snoc X226 N224 g_d1
  replace V_d1 := V_d1.pad (pad_rep (LB ((cs ++ [(116 : Int32)]) ++ [(114 : Int32)])) (.int 0) 1)
  obtain ⟨cl227, Ar227, q227, Sz227, Nn227, Hh227, Gg227⟩ := V_d1
  have hin227 : ¬ ((39 : Int32) < 0 ∨ cl227.slots.size ≤ ((39 : Int32)).toNatClampNeg) := inb_of Sz227 ⟨by decide, by decide⟩
  obtain ⟨T228, h228, X228, e228, W228, st228⟩ := stB X226 hx hZ e226 Ar227 (j := (39 : Int32)) hin227 (g := (mkF m 62 #[.val (.ref a1), .val (.int 1), .val (.int 40), .val (.ref d1)] [.int 117, .int 39, .ref d1])) rfl rfl (hb hby d26_62)
  replace E_a1 := E_a1.wr W228
  replace F_coder_a1 := F_coder_a1.other W228 (Or.inl ne_a1_d1)
  replace F_value_a1 := F_value_a1.other W228 (Or.inl ne_a1_d1)
  replace F_count_a1 := F_count_a1.other W228 (Or.inl ne_a1_d1)
  replace SC := SC.wr W228
  replace Z0 := Nat.le_trans Z0 (Keep.of_wr W228).1
  replace KK := KK.wr W228 (Or.inl (List.mem_of_getElem? (i := 1) rfl))
  have V_d1 : Arv Z h228 d1 kd .byte (70 : Int32) (LB (((cs ++ [(116 : Int32)]) ++ [(114 : Int32)]) ++ [(117 : Int32)])) (.int 0) := by
    have q : Arv Z h228 d1 kd .byte (70 : Int32) (((LB ((cs ++ [(116 : Int32)]) ++ [(114 : Int32)])) ++ List.replicate 1 (Value.int 0)).set 39 (Value.int ((117 : Int32).toInt8.toInt32))) (.int 0) := Arv.set Ar227 q227 Sz227 Nn227 Hh227 Gg227 (fits_nar_byte _) W228 39 rfl (own_pushlt hl226)
    rw [own_push hl226] at q
    exact q
  have hl228 : (((cs ++ [(116 : Int32)]) ++ [(114 : Int32)]) ++ [(117 : Int32)]).length = 40 := own_pushlen hl226
  have N228 := Fr.snoc X228 N226 g_d1
  replace V_d1 := V_d1.pad (pad_rep (LB (((cs ++ [(116 : Int32)]) ++ [(114 : Int32)]) ++ [(117 : Int32)])) (.int 0) 1)
  obtain ⟨cl229, Ar229, q229, Sz229, Nn229, Hh229, Gg229⟩ := V_d1
  have hin229 : ¬ ((40 : Int32) < 0 ∨ cl229.slots.size ≤ ((40 : Int32)).toNatClampNeg) := inb_of Sz229 ⟨by decide, by decide⟩
  obtain ⟨T230, h230, X230, e230, W230, st230⟩ := stB X228 hx hZ e228 Ar229 (j := (40 : Int32)) hin229 (g := (mkF m 70 #[.val (.ref a1), .val (.int 1), .val (.int 41), .val (.ref d1)] [.int 101, .int 40, .ref d1])) rfl rfl (hb hby d26_70)
  replace E_a1 := E_a1.wr W230
  replace F_coder_a1 := F_coder_a1.other W230 (Or.inl ne_a1_d1)
  replace F_value_a1 := F_value_a1.other W230 (Or.inl ne_a1_d1)
  replace F_count_a1 := F_count_a1.other W230 (Or.inl ne_a1_d1)
  replace SC := SC.wr W230
  replace Z0 := Nat.le_trans Z0 (Keep.of_wr W230).1
  replace KK := KK.wr W230 (Or.inl (List.mem_of_getElem? (i := 1) rfl))
  have V_d1 : Arv Z h230 d1 kd .byte (70 : Int32) (LB ((((cs ++ [(116 : Int32)]) ++ [(114 : Int32)]) ++ [(117 : Int32)]) ++ [(101 : Int32)])) (.int 0) := by
    have q : Arv Z h230 d1 kd .byte (70 : Int32) (((LB (((cs ++ [(116 : Int32)]) ++ [(114 : Int32)]) ++ [(117 : Int32)])) ++ List.replicate 1 (Value.int 0)).set 40 (Value.int ((101 : Int32).toInt8.toInt32))) (.int 0) := Arv.set Ar229 q229 Sz229 Nn229 Hh229 Gg229 (fits_nar_byte _) W230 40 rfl (own_pushlt hl228)
    rw [own_push hl228] at q
    exact q
  have hl230 : ((((cs ++ [(116 : Int32)]) ++ [(114 : Int32)]) ++ [(117 : Int32)]) ++ [(101 : Int32)]).length = 41 := own_pushlen hl228
  have N230 := Fr.snoc X230 N228 g_d1
  obtain ⟨T231, h231, X231, e231, W231, st231⟩ := putF X230 hx hZ hown (host := "") (Or.inl (ww hw 96 rfl)) Via.refl e230 F_count_a1 E_a1 (Or.inl (ww hw 97 rfl)) (ww hw 56 rfl) (ty := .int) (by decide) rfl rfl (g := (mkF m 156 #[.val (.ref a1), .val (.int 1), .val (.int 41), .val (.ref d1)] [.int 41, .ref a1])) rfl rfl (hb hby d26_156)
  replace E_a1 := E_a1.wr W231
  replace F_coder_a1 := F_coder_a1.other W231 (Or.inr (slot_ne (Or.inl (ww hw 72 rfl)) (Or.inl (ww hw 97 rfl)) (by decide) (t := .byte) (t' := .int) (by decide) (by decide)))
  replace F_value_a1 := F_value_a1.other W231 (Or.inr (slot_ne (Or.inl (ww hw 70 rfl)) (Or.inl (ww hw 97 rfl)) (by decide) (t := (.array .byte)) (t' := .int) (by decide) (by decide)))
  replace F_count_a1 := F_count_a1.same W231
  replace V_d1 := V_d1.other W231 (Ne.symm ne_a1_d1)
  replace SC := SC.wr W231
  replace Z0 := Nat.le_trans Z0 (Keep.of_wr W231).1
  replace KK := KK.wr W231 (Or.inl (List.mem_of_getElem? (i := 0) rfl))
  have N231 := Fr.snoc X231 N230 g_a1
  obtain ⟨fs, hr, hrun, hended, hW, hsame⟩ := X231.leave (v := some (.ref a1)) (fun h => by rw [Bd.returns] at h; cases h)
  refine ⟨_, _, pre0 _ ?_, hrun, hended, _, _, rfl, ?_, ⟨_, rfl⟩, hW, hsame.mono (by decide) (by decide)⟩
  · refine y_aloadN X0 hx hby d26_0 rfl rfl ?_
    refine y_aloadN X0 hx hby d26_1 rfl rfl ?_
    refine st218 _ ?_
    show SP p e below T218 (mkF m 5 #[.val (.ref a1), .val (.int 1), .unset, .unset] [.int 37, .ref a1]) _
    refine y_iloadN X218 hx hby d26_5 rfl ?_
    refine y_ifNo X218 hx hby d26_6 ((if0 _ _).trans (feq (by decide)).1) ?_
    refine y_iconst X218 hx hby (v := (4 : Int32)) d26_9 rfl ?_
    refine y_goto X218 hx hby (pc' := 14) d26_10 (by decide) (by decide) ?_
    refine y_iadd X218 hx hby d26_14 ?_
    rw [show ((37 : Int32) + (4 : Int32)) = (41 : Int32) from by decide]
    refine st219.trans ?_
    show SP p e below T219 (mkF m 18 #[.val (.ref a1), .val (.int 1), .unset, .unset] []) _
    refine y_aloadN X219 hx hby d26_18 rfl rfl ?_
    refine st220 _ ?_
    show SP p e below T220 (mkF m 22 #[.val (.ref a1), .val (.int 1), .unset, .unset] [.int 37]) _
    refine y_istoreN X220 hx hby d26_22 (l' := #[.val (.ref a1), .val (.int 1), .val (.int 37), .unset]) rfl ?_
    refine y_aloadN X220 hx hby d26_23 rfl rfl ?_
    refine st221 _ ?_
    show SP p e below T221 (mkF m 27 #[.val (.ref a1), .val (.int 1), .val (.int 37), .unset] [.ref d1]) _
    refine y_astoreN X221 hx hby d26_27 rfl (l' := #[.val (.ref a1), .val (.int 1), .val (.int 37), .val (.ref d1)]) rfl ?_
    refine y_aloadN X221 hx hby d26_28 rfl rfl ?_
    refine st222.trans ?_
    show SP p e below T222 (mkF m 32 #[.val (.ref a1), .val (.int 1), .val (.int 37), .val (.ref d1)] [.int 1]) _
    refine y_ifNo X222 hx hby d26_32 ((if0 _ _).trans (feq (by decide)).1) ?_
    refine y_iloadN X222 hx hby d26_35 rfl ?_
    refine y_ifNo X222 hx hby d26_36 ((if0 _ _).trans (feq (by decide)).1) ?_
    refine y_aloadN X222 hx hby d26_39 rfl rfl ?_
    refine y_iloadN X222 hx hby d26_40 rfl ?_
    refine y_iinc X222 hx hby d26_41 rfl (l' := #[.val (.ref a1), .val (.int 1), .val (.int 38), .val (.ref d1)]) rfl ?_
    refine y_bipush X222 hx hby (v := (116 : Int32)) d26_44 rfl ?_
    refine st224 _ ?_
    show SP p e below T224 (mkF m 47 #[.val (.ref a1), .val (.int 1), .val (.int 38), .val (.ref d1)] []) _
    refine y_aloadN X224 hx hby d26_47 rfl rfl ?_
    refine y_iloadN X224 hx hby d26_48 rfl ?_
    refine y_iinc X224 hx hby d26_49 rfl (l' := #[.val (.ref a1), .val (.int 1), .val (.int 39), .val (.ref d1)]) rfl ?_
    refine y_bipush X224 hx hby (v := (114 : Int32)) d26_52 rfl ?_
    refine st226 _ ?_
    show SP p e below T226 (mkF m 55 #[.val (.ref a1), .val (.int 1), .val (.int 39), .val (.ref d1)] []) _
    refine y_aloadN X226 hx hby d26_55 rfl rfl ?_
    refine y_iloadN X226 hx hby d26_56 rfl ?_
    refine y_iinc X226 hx hby d26_57 rfl (l' := #[.val (.ref a1), .val (.int 1), .val (.int 40), .val (.ref d1)]) rfl ?_
    refine y_bipush X226 hx hby (v := (117 : Int32)) d26_60 rfl ?_
    refine st228 _ ?_
    show SP p e below T228 (mkF m 63 #[.val (.ref a1), .val (.int 1), .val (.int 40), .val (.ref d1)] []) _
    refine y_aloadN X228 hx hby d26_63 rfl rfl ?_
    refine y_iloadN X228 hx hby d26_64 rfl ?_
    refine y_iinc X228 hx hby d26_65 rfl (l' := #[.val (.ref a1), .val (.int 1), .val (.int 41), .val (.ref d1)]) rfl ?_
    refine y_bipush X228 hx hby (v := (101 : Int32)) d26_68 rfl ?_
    refine st230 _ ?_
    show SP p e below T230 (mkF m 71 #[.val (.ref a1), .val (.int 1), .val (.int 41), .val (.ref d1)] []) _
    refine y_goto X230 hx hby (pc' := 154) d26_71 (by decide) (by decide) ?_
    refine y_aloadN X230 hx hby d26_154 rfl rfl ?_
    refine y_iloadN X230 hx hby d26_155 rfl ?_
    refine st231 _ ?_
    show SP p e below T231 (mkF m 159 #[.val (.ref a1), .val (.int 1), .val (.int 41), .val (.ref d1)] []) _
    refine y_aloadN X231 hx hby d26_159 rfl rfl ?_
    show Steps p.tables e below (T231.setTop (mkF m 160 #[.val (.ref a1), .val (.int 1), .val (.int 41), .val (.ref d1)] [.ref a1])) _
    jvm_step X231.here [X231.here.top, hx, (hb hby d26_160), X231.method', Bd.returns, Value.isRef, FieldType.isReference]
    first | (intro acts; rw [hr _ acts rfl rfl rfl]) | rw [hr _ _ rfl rfl rfl]
    exact Steps.refl _
  · show QW _ _ _ h0 n0 _ T231.heap _
    rw [e231]
    exact ⟨rfl, N231, KK, F_coder_a1, F_value_a1, F_count_a1, V_d1⟩
abbrev cd25 := jdk_67_method_13_code
theorem d25_0 : DD cd25 0 (.aload_n 0) 1 := by decide +kernel
theorem d25_1 : DD cd25 1 (.iload_n 1) 1 := by decide +kernel
theorem d25_2 : DD cd25 2 (.invokespecial 47) 3 := by decide +kernel
theorem pd_14 : parseMethodDescriptor "(Z)Ljava/lang/AbstractStringBuilder;" = some ⟨[.boolean], some (.object "java/lang/AbstractStringBuilder")⟩ := by decide +kernel
theorem d25_5 : DD cd25 5 (.pop) 1 := by decide +kernel
theorem d25_6 : DD cd25 6 (.aload_n 0) 1 := by decide +kernel
theorem d25_7 : DD cd25 7 (.areturn) 1 := by decide +kernel
abbrev mn21 : MethodName := ⟨"java/lang/StringBuilder", "append", "(Z)Ljava/lang/StringBuilder;"⟩
theorem ef_25 (m : MethodId) (x0 : Addr) (x1 : Int32) : entryFrame m #[.ref x0, (.int x1)] 2 = mkF m 0 #[.val (.ref x0), .val (.int x1)] [] := by first | (simp [entryFrame, mkF, argsToLocals, Value.category]; done) | rfl
set_option maxRecDepth 65536 in
set_option maxHeartbeats 40000000 in
theorem rm25_1 (l : Launch) (Z : State) (a0 : Array Value) (hw : HW a0 Z) (ws : List Jvm.Cond) (a1 d1 : Addr) (kd : ClassId) (cs : List Int32) (wC : Int32) (h0 : Heap) (n0 : Nat) (Z0 : n0 ≤ h0.size) (SC : SS Z h0 wC) (hz : ¬ wC = 0) (hcs : cs.length = 37) (E_a1 : EB Z h0 a1) (F_coder_a1 : FC Z h0 a1 (.int 0)) (F_value_a1 : FV Z h0 a1 (.ref d1)) (F_count_a1 : FN Z h0 a1 (.int 37)) (V_d1 : Arv Z h0 d1 kd .byte (70 : Int32) (LB cs) (.int 0)) (g_a1 : n0 ≤ a1) (g_d1 : n0 ≤ d1) (ne_a1_d1 : a1 ≠ d1) :
    MF l mn21 jdk_67_method_13_code 2 (some (.object "java/lang/StringBuilder")) ws (RM 2 0 0 29) #[.ref a1, .int 1] Z h0 (QW [a1, d1] (some (.ref a1)) (fun h => FC Z h a1 (.int 0) ∧ FV Z h a1 (.ref d1) ∧ FN Z h a1 (.int 41) ∧ Arv Z h d1 kd .byte (70 : Int32) (LB ((((cs ++ [(116 : Int32)]) ++ [(114 : Int32)]) ++ [(117 : Int32)]) ++ [(101 : Int32)])) (.int 0)) h0 n0) := by
  refine MetFree.of_bodySF (plainFor_of_name pn_32) hisR ?_
  intro p e s m args below meth c s₁ Bd hml0 hP hK
  obtain ⟨rfl, hZ, hh⟩ := hP
  have hx := Bd.exec
  have hby := Bd.bytes
  have hml : c.maxLocals = 2 := hml0
  have hown : s.vm.findClass "java/lang/StringBuilder" = some m.cls := findClass_of_methodNamed Bd.named
  have hnm := (name_of_methodNamed Bd.named Bd.method).1
  have X0 : Stand p l e (RM 2 0 0 29) s m #[.ref a1, .int 1] below meth c s₁ [] 0 0 := Stand.of_body Bd
  have e0 : s₁.heap = h0 := by rw [← hh, Bd.state]; rfl
  have N0 := Fr.nil n0
  have pre0 : GO p e below (s₁.setTop (mkF m 0 #[.val (.ref a1), .val (.int 1)] [])) (s₁.setTop (entryFrame m #[.ref a1, .int 1] 2)) := fun t k => castTop (ef_25 m a1 (1 : Int32)) k
  have KK := Keep.refl h0 [a1, d1]
  obtain ⟨_, _, ⟨T232, _, _, _⟩, -, X232, ⟨_, hQ232, l232, y232, z232⟩, st232⟩ := superBack X0 hx hZ (y := mn20) hown (ww hw 153 rfl) (own_same (ww hw 154 rfl) (ww hw 101 rfl) rfl (by decide)) (ww hw 154 rfl) (ww hw 83 rfl) (by decide) (backOf (W := 0) (rm26_1 l Z a0 hw [] a1 d1 kd cs wC h0 n0 Z0 SC hz hcs E_a1 F_coder_a1 F_value_a1 F_count_a1 V_d1 g_a1 g_d1 ne_a1_d1) hZ (ww hw 156 rfl) (ww hw 65 rfl) (by decide) (by decide)) e0 (Ins.self E_a1) (g := (mkF m 2 #[.val (.ref a1), .val (.int 1)] [.int 1, .ref a1])) rfl (by rw [hml]; rfl) (ww hw 156 rfl) (argsL := [.int 1]) (rest := []) (lenOf pd_14 rfl) rfl (wz rfl) (hb hby d25_2) (fun _ _ => ⟨rfl, e0, (by decide : 0 + 0 ≤ _), (by decide : 0 + 0 ≤ _)⟩)
  dsimp only [Pt.U, Pt.locs, Pt.cells, Pt.slots] at X232 l232 y232 z232 st232 hQ232
  rw [l232, y232, z232] at X232
  obtain ⟨h232, e232⟩ : ∃ z, T232.heap = z := ⟨_, rfl⟩
  rw [e232] at hQ232
  obtain ⟨rfl, N232q, K232, G232_0, G232_1, G232_2, G232_3⟩ := hQ232
  replace SC := own_stakeep SC K232 (nsS (Exa.nostat E_a1) (nsS (Arv.nostat V_d1) ns0))
  replace E_a1 := E_a1.keep K232
  replace Z0 := Nat.le_trans Z0 K232.1
  replace KK := KK.trans K232 (allS (Or.inl (List.mem_of_getElem? (i := 0) rfl)) (allS (Or.inl (List.mem_of_getElem? (i := 1) rfl)) all0))
  have F_coder_a1 : FC Z h232 a1 (.int 0) := G232_0
  have F_value_a1 : FV Z h232 a1 (.ref d1) := G232_1
  have F_count_a1 : FN Z h232 a1 (.int 41) := G232_2
  have V_d1 : Arv Z h232 d1 kd .byte (70 : Int32) (LB ((((cs ++ [(116 : Int32)]) ++ [(114 : Int32)]) ++ [(117 : Int32)]) ++ [(101 : Int32)])) (.int 0) := G232_3
  have N232 := Fr.app N0 N232q
  obtain ⟨fs, hr, hrun, hended, hW, hsame⟩ := X232.leave (v := some (.ref a1)) (fun h => by rw [Bd.returns] at h; cases h)
  refine ⟨_, _, pre0 _ ?_, hrun, hended, _, _, rfl, ?_, ⟨_, rfl⟩, hW, hsame.mono (by decide) (by decide)⟩
  · refine y_aloadN X0 hx hby d25_0 rfl rfl ?_
    refine y_iloadN X0 hx hby d25_1 rfl ?_
    refine st232.trans ?_
    show SP p e below T232 (mkF m 5 #[.val (.ref a1), .val (.int 1)] [.ref a1]) _
    refine y_pop X232 hx hby d25_5 rfl ?_
    refine y_aloadN X232 hx hby d25_6 rfl rfl ?_
    show Steps p.tables e below (T232.setTop (mkF m 7 #[.val (.ref a1), .val (.int 1)] [.ref a1])) _
    jvm_step X232.here [X232.here.top, hx, (hb hby d25_7), X232.method', Bd.returns, Value.isRef, FieldType.isReference]
    first | (intro acts; rw [hr _ acts rfl rfl rfl]) | rw [hr _ _ rfl rfl rfl]
    exact Steps.refl _
  · show QW _ _ _ h0 n0 _ T232.heap _
    rw [e232]
    exact ⟨rfl, N232, KK, F_coder_a1, F_value_a1, F_count_a1, V_d1⟩
theorem d26_13 : DD cd26 13 (.iconst 5) 1 := by decide +kernel
theorem d26_74 : DD cd26 74 (.aload_n 3) 1 := by decide +kernel
theorem d26_75 : DD cd26 75 (.iload_n 2) 1 := by decide +kernel
theorem d26_76 : DD cd26 76 (.iinc 2 1) 3 := by decide +kernel
theorem d26_79 : DD cd26 79 (.bipush 102) 2 := by decide +kernel
theorem d26_81 : DD cd26 81 (.bastore) 1 := by decide +kernel
theorem d26_82 : DD cd26 82 (.aload_n 3) 1 := by decide +kernel
theorem d26_83 : DD cd26 83 (.iload_n 2) 1 := by decide +kernel
theorem d26_84 : DD cd26 84 (.iinc 2 1) 3 := by decide +kernel
theorem d26_87 : DD cd26 87 (.bipush 97) 2 := by decide +kernel
theorem d26_89 : DD cd26 89 (.bastore) 1 := by decide +kernel
theorem d26_90 : DD cd26 90 (.aload_n 3) 1 := by decide +kernel
theorem d26_91 : DD cd26 91 (.iload_n 2) 1 := by decide +kernel
theorem d26_92 : DD cd26 92 (.iinc 2 1) 3 := by decide +kernel
theorem d26_95 : DD cd26 95 (.bipush 108) 2 := by decide +kernel
theorem d26_97 : DD cd26 97 (.bastore) 1 := by decide +kernel
theorem d26_98 : DD cd26 98 (.aload_n 3) 1 := by decide +kernel
theorem d26_99 : DD cd26 99 (.iload_n 2) 1 := by decide +kernel
theorem d26_100 : DD cd26 100 (.iinc 2 1) 3 := by decide +kernel
theorem d26_103 : DD cd26 103 (.bipush 115) 2 := by decide +kernel
theorem d26_105 : DD cd26 105 (.bastore) 1 := by decide +kernel
theorem d26_106 : DD cd26 106 (.aload_n 3) 1 := by decide +kernel
theorem d26_107 : DD cd26 107 (.iload_n 2) 1 := by decide +kernel
theorem d26_108 : DD cd26 108 (.iinc 2 1) 3 := by decide +kernel
theorem d26_111 : DD cd26 111 (.bipush 101) 2 := by decide +kernel
theorem d26_113 : DD cd26 113 (.bastore) 1 := by decide +kernel
theorem d26_114 : DD cd26 114 (.goto 40) 3 := by decide +kernel
set_option maxRecDepth 65536 in
set_option maxHeartbeats 40000000 in
theorem rm26_0 (l : Launch) (Z : State) (a0 : Array Value) (hw : HW a0 Z) (ws : List Jvm.Cond) (a1 d1 : Addr) (kd : ClassId) (cs : List Int32) (wC : Int32) (h0 : Heap) (n0 : Nat) (Z0 : n0 ≤ h0.size) (SC : SS Z h0 wC) (hz : ¬ wC = 0) (hcs : cs.length = 37) (E_a1 : EB Z h0 a1) (F_coder_a1 : FC Z h0 a1 (.int 0)) (F_value_a1 : FV Z h0 a1 (.ref d1)) (F_count_a1 : FN Z h0 a1 (.int 37)) (V_d1 : Arv Z h0 d1 kd .byte (70 : Int32) (LB cs) (.int 0)) (g_a1 : n0 ≤ a1) (g_d1 : n0 ≤ d1) (ne_a1_d1 : a1 ≠ d1) :
    MF l mn20 jdk_68_method_30_code 4 (some (.object "java/lang/AbstractStringBuilder")) ws (RM 1 0 0 14) #[.ref a1, .int 0] Z h0 (QW [a1, d1] (some (.ref a1)) (fun h => FC Z h a1 (.int 0) ∧ FV Z h a1 (.ref d1) ∧ FN Z h a1 (.int 42) ∧ Arv Z h d1 kd .byte (70 : Int32) (LB (((((cs ++ [(102 : Int32)]) ++ [(97 : Int32)]) ++ [(108 : Int32)]) ++ [(115 : Int32)]) ++ [(101 : Int32)])) (.int 0)) h0 n0) := by
  refine MetFree.of_bodySF (plainFor_of_name pn_17) hisR ?_
  intro p e s m args below meth c s₁ Bd hml0 hP hK
  obtain ⟨rfl, hZ, hh⟩ := hP
  have hx := Bd.exec
  have hby := Bd.bytes
  have hml : c.maxLocals = 4 := hml0
  have hown : s.vm.findClass "java/lang/AbstractStringBuilder" = some m.cls := findClass_of_methodNamed Bd.named
  have hnm := (name_of_methodNamed Bd.named Bd.method).1
  have X0 : Stand p l e (RM 1 0 0 14) s m #[.ref a1, .int 0] below meth c s₁ [] 0 0 := Stand.of_body Bd
  have e0 : s₁.heap = h0 := by rw [← hh, Bd.state]; rfl
  have N0 := Fr.nil n0
  have pre0 : GO p e below (s₁.setTop (mkF m 0 #[.val (.ref a1), .val (.int 0), .unset, .unset] [])) (s₁.setTop (entryFrame m #[.ref a1, .int 0] 4)) := fun t k => castTop (ef_26 m a1 (0 : Int32)) k
  have KK := Keep.refl h0 [a1, d1]
  obtain ⟨T233, X233, e233, st233⟩ := getF X0 hx hZ hown (host := "") (Or.inl (ww hw 96 rfl)) Via.refl e0 F_count_a1 (g := (mkF m 2 #[.val (.ref a1), .val (.int 0), .unset, .unset] [.ref a1, .ref a1])) rfl rfl (hb hby d26_2)
  obtain ⟨cq234, q234a, q234b⟩ := Exa.cell E_a1
  obtain ⟨_, _, ⟨T234, _, _, _⟩, -, X234, ⟨_, hQ234, l234, y234, z234⟩, st234⟩ := X233.privateBack hx (y := mn15) hown (mvT hZ (ww hw 98 rfl)) (mvT hZ (ww hw 99 rfl)) (mvT hZ (own_selp (ww hw 100 rfl) (ww hw 99 rfl) (ww hw 101 rfl) (by decide))) (Cond.privateMethod_at (mvP hZ (ww hw 100 rfl) (args := #[]))) (mvT hZ (ww hw 102 rfl)) (by decide) (backOf (W := 0) (rm16_k42 l Z a0 hw [] a1 d1 kd cs h0 n0 Z0 F_coder_a1 F_value_a1 V_d1) hZ (ww hw 102 rfl) (ww hw 65 rfl) (by decide) (by decide)) (g := (mkF m 15 #[.val (.ref a1), .val (.int 0), .unset, .unset] [.int 42, .ref a1])) rfl (by rw [hml]; rfl) (Steps.refl _) (a := a1) (by rw [e233]; exact q234a) q234b (argsL := [.int 42]) (rest := []) (lenOf pd_10 rfl) rfl (wz rfl) (hb hby d26_15) (fun _ _ => ⟨rfl, e233, (by decide : 0 + 0 ≤ _), (by decide : 0 + 0 ≤ _)⟩)
  dsimp only [Pt.U, Pt.locs, Pt.cells, Pt.slots] at X234 l234 y234 z234 st234 hQ234
  rw [l234, y234, z234] at X234
  obtain ⟨rfl, N234q, e234⟩ := hQ234
  have N234 := Fr.app N0 N234q
  obtain ⟨T235, X235, e235, st235⟩ := getF X234 hx hZ hown (host := "") (Or.inl (ww hw 96 rfl)) Via.refl e234 F_count_a1 (g := (mkF m 19 #[.val (.ref a1), .val (.int 0), .unset, .unset] [.ref a1])) rfl rfl (hb hby d26_19)
  obtain ⟨T236, X236, e236, st236⟩ := getF X235 hx hZ hown (host := "") (Or.inl (ww hw 69 rfl)) Via.refl e235 F_value_a1 (g := (mkF m 24 #[.val (.ref a1), .val (.int 0), .val (.int 37), .unset] [.ref a1])) rfl rfl (hb hby d26_24)
  obtain ⟨cq237, kq237, q237a, q237b, q237c⟩ := isOf hZ e236 E_a1
  obtain ⟨_, _, ⟨T237, _, _, _⟩, -, X237, ⟨_, hQ237, l237, y237, z237⟩, st237⟩ := X236.virtualBack hx (y := mn7) (z := mn7) hown (mvT hZ (ww hw 157 rfl)) (mvT hZ (ww hw 158 rfl)) (notFace_of_selects (args := #[]) (mvT hZ (ww hw 160 rfl))) (mvT hZ (ww hw 160 rfl)) (mvT hZ (ww hw 159 rfl)) (by decide) (backOf (W := 0) (rm27 l Z a0 hw [] a1 wC h0 n0 Z0 SC hz F_coder_a1) hZ (ww hw 161 rfl) (ww hw 65 rfl) (by decide) (by decide)) q237a q237c (g := (mkF m 29 #[.val (.ref a1), .val (.int 0), .val (.int 37), .val (.ref d1)] [.ref a1])) rfl (by rw [hml]; rfl) (Steps.refl _) (argsL := []) (rest := []) (lenOf pd_13 rfl) rfl (wz rfl) (hb hby d26_29) (fun _ _ => ⟨rfl, e236, (by decide : 0 + 0 ≤ _), (by decide : 0 + 0 ≤ _)⟩)
  dsimp only [Pt.U, Pt.locs, Pt.cells, Pt.slots] at X237 l237 y237 z237 st237 hQ237
  rw [l237, y237, z237] at X237
  obtain ⟨rfl, N237q, e237⟩ := hQ237
  have N237 := Fr.app N234 N237q
  replace V_d1 := V_d1.pad (pad_rep (LB cs) (.int 0) 1)
  obtain ⟨cl238, Ar238, q238, Sz238, Nn238, Hh238, Gg238⟩ := V_d1
  have hin238 : ¬ ((37 : Int32) < 0 ∨ cl238.slots.size ≤ ((37 : Int32)).toNatClampNeg) := inb_of Sz238 ⟨by decide, by decide⟩
  obtain ⟨T239, h239, X239, e239, W239, st239⟩ := stB X237 hx hZ e237 Ar238 (j := (37 : Int32)) hin238 (g := (mkF m 81 #[.val (.ref a1), .val (.int 0), .val (.int 38), .val (.ref d1)] [.int 102, .int 37, .ref d1])) rfl rfl (hb hby d26_81)
  replace E_a1 := E_a1.wr W239
  replace F_coder_a1 := F_coder_a1.other W239 (Or.inl ne_a1_d1)
  replace F_value_a1 := F_value_a1.other W239 (Or.inl ne_a1_d1)
  replace F_count_a1 := F_count_a1.other W239 (Or.inl ne_a1_d1)
  replace SC := SC.wr W239
  replace Z0 := Nat.le_trans Z0 (Keep.of_wr W239).1
  replace KK := KK.wr W239 (Or.inl (List.mem_of_getElem? (i := 1) rfl))
  have V_d1 : Arv Z h239 d1 kd .byte (70 : Int32) (LB (cs ++ [(102 : Int32)])) (.int 0) := by
    have q : Arv Z h239 d1 kd .byte (70 : Int32) (((LB cs) ++ List.replicate 1 (Value.int 0)).set 37 (Value.int ((102 : Int32).toInt8.toInt32))) (.int 0) := Arv.set Ar238 q238 Sz238 Nn238 Hh238 Gg238 (fits_nar_byte _) W239 37 rfl (own_pushlt hcs)
    rw [own_push hcs] at q
    exact q
  have hl239 : (cs ++ [(102 : Int32)]).length = 38 := own_pushlen hcs
  have N239 := Fr.snoc X239 N237 g_d1
  replace V_d1 := V_d1.pad (pad_rep (LB (cs ++ [(102 : Int32)])) (.int 0) 1)
  obtain ⟨cl240, Ar240, q240, Sz240, Nn240, Hh240, Gg240⟩ := V_d1
  have hin240 : ¬ ((38 : Int32) < 0 ∨ cl240.slots.size ≤ ((38 : Int32)).toNatClampNeg) := inb_of Sz240 ⟨by decide, by decide⟩
  obtain ⟨T241, h241, X241, e241, W241, st241⟩ := stB X239 hx hZ e239 Ar240 (j := (38 : Int32)) hin240 (g := (mkF m 89 #[.val (.ref a1), .val (.int 0), .val (.int 39), .val (.ref d1)] [.int 97, .int 38, .ref d1])) rfl rfl (hb hby d26_89)
  replace E_a1 := E_a1.wr W241
  replace F_coder_a1 := F_coder_a1.other W241 (Or.inl ne_a1_d1)
  replace F_value_a1 := F_value_a1.other W241 (Or.inl ne_a1_d1)
  replace F_count_a1 := F_count_a1.other W241 (Or.inl ne_a1_d1)
  replace SC := SC.wr W241
  replace Z0 := Nat.le_trans Z0 (Keep.of_wr W241).1
  replace KK := KK.wr W241 (Or.inl (List.mem_of_getElem? (i := 1) rfl))
  have V_d1 : Arv Z h241 d1 kd .byte (70 : Int32) (LB ((cs ++ [(102 : Int32)]) ++ [(97 : Int32)])) (.int 0) := by
    have q : Arv Z h241 d1 kd .byte (70 : Int32) (((LB (cs ++ [(102 : Int32)])) ++ List.replicate 1 (Value.int 0)).set 38 (Value.int ((97 : Int32).toInt8.toInt32))) (.int 0) := Arv.set Ar240 q240 Sz240 Nn240 Hh240 Gg240 (fits_nar_byte _) W241 38 rfl (own_pushlt hl239)
    rw [own_push hl239] at q
    exact q
  have hl241 : ((cs ++ [(102 : Int32)]) ++ [(97 : Int32)]).length = 39 := own_pushlen hl239
  have N241 := Fr.snoc X241 N239 g_d1
  replace V_d1 := V_d1.pad (pad_rep (LB ((cs ++ [(102 : Int32)]) ++ [(97 : Int32)])) (.int 0) 1)
  obtain ⟨cl242, Ar242, q242, Sz242, Nn242, Hh242, Gg242⟩ := V_d1
  have hin242 : ¬ ((39 : Int32) < 0 ∨ cl242.slots.size ≤ ((39 : Int32)).toNatClampNeg) := inb_of Sz242 ⟨by decide, by decide⟩
  obtain ⟨T243, h243, X243, e243, W243, st243⟩ := stB X241 hx hZ e241 Ar242 (j := (39 : Int32)) hin242 (g := (mkF m 97 #[.val (.ref a1), .val (.int 0), .val (.int 40), .val (.ref d1)] [.int 108, .int 39, .ref d1])) rfl rfl (hb hby d26_97)
  replace E_a1 := E_a1.wr W243
  replace F_coder_a1 := F_coder_a1.other W243 (Or.inl ne_a1_d1)
  replace F_value_a1 := F_value_a1.other W243 (Or.inl ne_a1_d1)
  replace F_count_a1 := F_count_a1.other W243 (Or.inl ne_a1_d1)
  replace SC := SC.wr W243
  replace Z0 := Nat.le_trans Z0 (Keep.of_wr W243).1
  replace KK := KK.wr W243 (Or.inl (List.mem_of_getElem? (i := 1) rfl))
  have V_d1 : Arv Z h243 d1 kd .byte (70 : Int32) (LB (((cs ++ [(102 : Int32)]) ++ [(97 : Int32)]) ++ [(108 : Int32)])) (.int 0) := by
    have q : Arv Z h243 d1 kd .byte (70 : Int32) (((LB ((cs ++ [(102 : Int32)]) ++ [(97 : Int32)])) ++ List.replicate 1 (Value.int 0)).set 39 (Value.int ((108 : Int32).toInt8.toInt32))) (.int 0) := Arv.set Ar242 q242 Sz242 Nn242 Hh242 Gg242 (fits_nar_byte _) W243 39 rfl (own_pushlt hl241)
    rw [own_push hl241] at q
    exact q
  have hl243 : (((cs ++ [(102 : Int32)]) ++ [(97 : Int32)]) ++ [(108 : Int32)]).length = 40 := own_pushlen hl241
  have N243 := Fr.snoc X243 N241 g_d1
  replace V_d1 := V_d1.pad (pad_rep (LB (((cs ++ [(102 : Int32)]) ++ [(97 : Int32)]) ++ [(108 : Int32)])) (.int 0) 1)
  obtain ⟨cl244, Ar244, q244, Sz244, Nn244, Hh244, Gg244⟩ := V_d1
  have hin244 : ¬ ((40 : Int32) < 0 ∨ cl244.slots.size ≤ ((40 : Int32)).toNatClampNeg) := inb_of Sz244 ⟨by decide, by decide⟩
  obtain ⟨T245, h245, X245, e245, W245, st245⟩ := stB X243 hx hZ e243 Ar244 (j := (40 : Int32)) hin244 (g := (mkF m 105 #[.val (.ref a1), .val (.int 0), .val (.int 41), .val (.ref d1)] [.int 115, .int 40, .ref d1])) rfl rfl (hb hby d26_105)
  replace E_a1 := E_a1.wr W245
  replace F_coder_a1 := F_coder_a1.other W245 (Or.inl ne_a1_d1)
  replace F_value_a1 := F_value_a1.other W245 (Or.inl ne_a1_d1)
  replace F_count_a1 := F_count_a1.other W245 (Or.inl ne_a1_d1)
  replace SC := SC.wr W245
  replace Z0 := Nat.le_trans Z0 (Keep.of_wr W245).1
  replace KK := KK.wr W245 (Or.inl (List.mem_of_getElem? (i := 1) rfl))
  have V_d1 : Arv Z h245 d1 kd .byte (70 : Int32) (LB ((((cs ++ [(102 : Int32)]) ++ [(97 : Int32)]) ++ [(108 : Int32)]) ++ [(115 : Int32)])) (.int 0) := by
    have q : Arv Z h245 d1 kd .byte (70 : Int32) (((LB (((cs ++ [(102 : Int32)]) ++ [(97 : Int32)]) ++ [(108 : Int32)])) ++ List.replicate 1 (Value.int 0)).set 40 (Value.int ((115 : Int32).toInt8.toInt32))) (.int 0) := Arv.set Ar244 q244 Sz244 Nn244 Hh244 Gg244 (fits_nar_byte _) W245 40 rfl (own_pushlt hl243)
    rw [own_push hl243] at q
    exact q
  have hl245 : ((((cs ++ [(102 : Int32)]) ++ [(97 : Int32)]) ++ [(108 : Int32)]) ++ [(115 : Int32)]).length = 41 := own_pushlen hl243
  have N245 := Fr.snoc X245 N243 g_d1
  replace V_d1 := V_d1.pad (pad_rep (LB ((((cs ++ [(102 : Int32)]) ++ [(97 : Int32)]) ++ [(108 : Int32)]) ++ [(115 : Int32)])) (.int 0) 1)
  obtain ⟨cl246, Ar246, q246, Sz246, Nn246, Hh246, Gg246⟩ := V_d1
  have hin246 : ¬ ((41 : Int32) < 0 ∨ cl246.slots.size ≤ ((41 : Int32)).toNatClampNeg) := inb_of Sz246 ⟨by decide, by decide⟩
  obtain ⟨T247, h247, X247, e247, W247, st247⟩ := stB X245 hx hZ e245 Ar246 (j := (41 : Int32)) hin246 (g := (mkF m 113 #[.val (.ref a1), .val (.int 0), .val (.int 42), .val (.ref d1)] [.int 101, .int 41, .ref d1])) rfl rfl (hb hby d26_113)
  replace E_a1 := E_a1.wr W247
  replace F_coder_a1 := F_coder_a1.other W247 (Or.inl ne_a1_d1)
  replace F_value_a1 := F_value_a1.other W247 (Or.inl ne_a1_d1)
  replace F_count_a1 := F_count_a1.other W247 (Or.inl ne_a1_d1)
  replace SC := SC.wr W247
  replace Z0 := Nat.le_trans Z0 (Keep.of_wr W247).1
  replace KK := KK.wr W247 (Or.inl (List.mem_of_getElem? (i := 1) rfl))
  have V_d1 : Arv Z h247 d1 kd .byte (70 : Int32) (LB (((((cs ++ [(102 : Int32)]) ++ [(97 : Int32)]) ++ [(108 : Int32)]) ++ [(115 : Int32)]) ++ [(101 : Int32)])) (.int 0) := by
    have q : Arv Z h247 d1 kd .byte (70 : Int32) (((LB ((((cs ++ [(102 : Int32)]) ++ [(97 : Int32)]) ++ [(108 : Int32)]) ++ [(115 : Int32)])) ++ List.replicate 1 (Value.int 0)).set 41 (Value.int ((101 : Int32).toInt8.toInt32))) (.int 0) := Arv.set Ar246 q246 Sz246 Nn246 Hh246 Gg246 (fits_nar_byte _) W247 41 rfl (own_pushlt hl245)
    rw [own_push hl245] at q
    exact q
  have hl247 : (((((cs ++ [(102 : Int32)]) ++ [(97 : Int32)]) ++ [(108 : Int32)]) ++ [(115 : Int32)]) ++ [(101 : Int32)]).length = 42 := own_pushlen hl245
  have N247 := Fr.snoc X247 N245 g_d1
  obtain ⟨T248, h248, X248, e248, W248, st248⟩ := putF X247 hx hZ hown (host := "") (Or.inl (ww hw 96 rfl)) Via.refl e247 F_count_a1 E_a1 (Or.inl (ww hw 97 rfl)) (ww hw 56 rfl) (ty := .int) (by decide) rfl rfl (g := (mkF m 156 #[.val (.ref a1), .val (.int 0), .val (.int 42), .val (.ref d1)] [.int 42, .ref a1])) rfl rfl (hb hby d26_156)
  replace E_a1 := E_a1.wr W248
  replace F_coder_a1 := F_coder_a1.other W248 (Or.inr (slot_ne (Or.inl (ww hw 72 rfl)) (Or.inl (ww hw 97 rfl)) (by decide) (t := .byte) (t' := .int) (by decide) (by decide)))
  replace F_value_a1 := F_value_a1.other W248 (Or.inr (slot_ne (Or.inl (ww hw 70 rfl)) (Or.inl (ww hw 97 rfl)) (by decide) (t := (.array .byte)) (t' := .int) (by decide) (by decide)))
  replace F_count_a1 := F_count_a1.same W248
  replace V_d1 := V_d1.other W248 (Ne.symm ne_a1_d1)
  replace SC := SC.wr W248
  replace Z0 := Nat.le_trans Z0 (Keep.of_wr W248).1
  replace KK := KK.wr W248 (Or.inl (List.mem_of_getElem? (i := 0) rfl))
  have N248 := Fr.snoc X248 N247 g_a1
  obtain ⟨fs, hr, hrun, hended, hW, hsame⟩ := X248.leave (v := some (.ref a1)) (fun h => by rw [Bd.returns] at h; cases h)
  refine ⟨_, _, pre0 _ ?_, hrun, hended, _, _, rfl, ?_, ⟨_, rfl⟩, hW, hsame.mono (by decide) (by decide)⟩
  · refine y_aloadN X0 hx hby d26_0 rfl rfl ?_
    refine y_aloadN X0 hx hby d26_1 rfl rfl ?_
    refine st233 _ ?_
    show SP p e below T233 (mkF m 5 #[.val (.ref a1), .val (.int 0), .unset, .unset] [.int 37, .ref a1]) _
    refine y_iloadN X233 hx hby d26_5 rfl ?_
    refine y_ifYes X233 hx hby (pc' := 13) d26_6 ((if0 _ _).trans (teq rfl).1) (by decide) (by decide) ?_
    refine y_iconst X233 hx hby (v := (5 : Int32)) d26_13 rfl ?_
    refine y_iadd X233 hx hby d26_14 ?_
    rw [show ((37 : Int32) + (5 : Int32)) = (42 : Int32) from by decide]
    refine st234.trans ?_
    show SP p e below T234 (mkF m 18 #[.val (.ref a1), .val (.int 0), .unset, .unset] []) _
    refine y_aloadN X234 hx hby d26_18 rfl rfl ?_
    refine st235 _ ?_
    show SP p e below T235 (mkF m 22 #[.val (.ref a1), .val (.int 0), .unset, .unset] [.int 37]) _
    refine y_istoreN X235 hx hby d26_22 (l' := #[.val (.ref a1), .val (.int 0), .val (.int 37), .unset]) rfl ?_
    refine y_aloadN X235 hx hby d26_23 rfl rfl ?_
    refine st236 _ ?_
    show SP p e below T236 (mkF m 27 #[.val (.ref a1), .val (.int 0), .val (.int 37), .unset] [.ref d1]) _
    refine y_astoreN X236 hx hby d26_27 rfl (l' := #[.val (.ref a1), .val (.int 0), .val (.int 37), .val (.ref d1)]) rfl ?_
    refine y_aloadN X236 hx hby d26_28 rfl rfl ?_
    refine st237.trans ?_
    show SP p e below T237 (mkF m 32 #[.val (.ref a1), .val (.int 0), .val (.int 37), .val (.ref d1)] [.int 1]) _
    refine y_ifNo X237 hx hby d26_32 ((if0 _ _).trans (feq (by decide)).1) ?_
    refine y_iloadN X237 hx hby d26_35 rfl ?_
    refine y_ifYes X237 hx hby (pc' := 74) d26_36 ((if0 _ _).trans (teq rfl).1) (by decide) (by decide) ?_
    refine y_aloadN X237 hx hby d26_74 rfl rfl ?_
    refine y_iloadN X237 hx hby d26_75 rfl ?_
    refine y_iinc X237 hx hby d26_76 rfl (l' := #[.val (.ref a1), .val (.int 0), .val (.int 38), .val (.ref d1)]) rfl ?_
    refine y_bipush X237 hx hby (v := (102 : Int32)) d26_79 rfl ?_
    refine st239 _ ?_
    show SP p e below T239 (mkF m 82 #[.val (.ref a1), .val (.int 0), .val (.int 38), .val (.ref d1)] []) _
    refine y_aloadN X239 hx hby d26_82 rfl rfl ?_
    refine y_iloadN X239 hx hby d26_83 rfl ?_
    refine y_iinc X239 hx hby d26_84 rfl (l' := #[.val (.ref a1), .val (.int 0), .val (.int 39), .val (.ref d1)]) rfl ?_
    refine y_bipush X239 hx hby (v := (97 : Int32)) d26_87 rfl ?_
    refine st241 _ ?_
    show SP p e below T241 (mkF m 90 #[.val (.ref a1), .val (.int 0), .val (.int 39), .val (.ref d1)] []) _
    refine y_aloadN X241 hx hby d26_90 rfl rfl ?_
    refine y_iloadN X241 hx hby d26_91 rfl ?_
    refine y_iinc X241 hx hby d26_92 rfl (l' := #[.val (.ref a1), .val (.int 0), .val (.int 40), .val (.ref d1)]) rfl ?_
    refine y_bipush X241 hx hby (v := (108 : Int32)) d26_95 rfl ?_
    refine st243 _ ?_
    show SP p e below T243 (mkF m 98 #[.val (.ref a1), .val (.int 0), .val (.int 40), .val (.ref d1)] []) _
    refine y_aloadN X243 hx hby d26_98 rfl rfl ?_
    refine y_iloadN X243 hx hby d26_99 rfl ?_
    refine y_iinc X243 hx hby d26_100 rfl (l' := #[.val (.ref a1), .val (.int 0), .val (.int 41), .val (.ref d1)]) rfl ?_
    refine y_bipush X243 hx hby (v := (115 : Int32)) d26_103 rfl ?_
    refine st245 _ ?_
    show SP p e below T245 (mkF m 106 #[.val (.ref a1), .val (.int 0), .val (.int 41), .val (.ref d1)] []) _
    refine y_aloadN X245 hx hby d26_106 rfl rfl ?_
    refine y_iloadN X245 hx hby d26_107 rfl ?_
    refine y_iinc X245 hx hby d26_108 rfl (l' := #[.val (.ref a1), .val (.int 0), .val (.int 42), .val (.ref d1)]) rfl ?_
    refine y_bipush X245 hx hby (v := (101 : Int32)) d26_111 rfl ?_
    refine st247 _ ?_
    show SP p e below T247 (mkF m 114 #[.val (.ref a1), .val (.int 0), .val (.int 42), .val (.ref d1)] []) _
    refine y_goto X247 hx hby (pc' := 154) d26_114 (by decide) (by decide) ?_
    refine y_aloadN X247 hx hby d26_154 rfl rfl ?_
    refine y_iloadN X247 hx hby d26_155 rfl ?_
    refine st248 _ ?_
    show SP p e below T248 (mkF m 159 #[.val (.ref a1), .val (.int 0), .val (.int 42), .val (.ref d1)] []) _
    refine y_aloadN X248 hx hby d26_159 rfl rfl ?_
    show Steps p.tables e below (T248.setTop (mkF m 160 #[.val (.ref a1), .val (.int 0), .val (.int 42), .val (.ref d1)] [.ref a1])) _
    jvm_step X248.here [X248.here.top, hx, (hb hby d26_160), X248.method', Bd.returns, Value.isRef, FieldType.isReference]
    first | (intro acts; rw [hr _ acts rfl rfl rfl]) | rw [hr _ _ rfl rfl rfl]
    exact Steps.refl _
  · show QW _ _ _ h0 n0 _ T248.heap _
    rw [e248]
    exact ⟨rfl, N248, KK, F_coder_a1, F_value_a1, F_count_a1, V_d1⟩
set_option maxRecDepth 65536 in
set_option maxHeartbeats 40000000 in
theorem rm25_0 (l : Launch) (Z : State) (a0 : Array Value) (hw : HW a0 Z) (ws : List Jvm.Cond) (a1 d1 : Addr) (kd : ClassId) (cs : List Int32) (wC : Int32) (h0 : Heap) (n0 : Nat) (Z0 : n0 ≤ h0.size) (SC : SS Z h0 wC) (hz : ¬ wC = 0) (hcs : cs.length = 37) (E_a1 : EB Z h0 a1) (F_coder_a1 : FC Z h0 a1 (.int 0)) (F_value_a1 : FV Z h0 a1 (.ref d1)) (F_count_a1 : FN Z h0 a1 (.int 37)) (V_d1 : Arv Z h0 d1 kd .byte (70 : Int32) (LB cs) (.int 0)) (g_a1 : n0 ≤ a1) (g_d1 : n0 ≤ d1) (ne_a1_d1 : a1 ≠ d1) :
    MF l mn21 jdk_67_method_13_code 2 (some (.object "java/lang/StringBuilder")) ws (RM 2 0 0 29) #[.ref a1, .int 0] Z h0 (QW [a1, d1] (some (.ref a1)) (fun h => FC Z h a1 (.int 0) ∧ FV Z h a1 (.ref d1) ∧ FN Z h a1 (.int 42) ∧ Arv Z h d1 kd .byte (70 : Int32) (LB (((((cs ++ [(102 : Int32)]) ++ [(97 : Int32)]) ++ [(108 : Int32)]) ++ [(115 : Int32)]) ++ [(101 : Int32)])) (.int 0)) h0 n0) := by
  refine MetFree.of_bodySF (plainFor_of_name pn_32) hisR ?_
  intro p e s m args below meth c s₁ Bd hml0 hP hK
  obtain ⟨rfl, hZ, hh⟩ := hP
  have hx := Bd.exec
  have hby := Bd.bytes
  have hml : c.maxLocals = 2 := hml0
  have hown : s.vm.findClass "java/lang/StringBuilder" = some m.cls := findClass_of_methodNamed Bd.named
  have hnm := (name_of_methodNamed Bd.named Bd.method).1
  have X0 : Stand p l e (RM 2 0 0 29) s m #[.ref a1, .int 0] below meth c s₁ [] 0 0 := Stand.of_body Bd
  have e0 : s₁.heap = h0 := by rw [← hh, Bd.state]; rfl
  have N0 := Fr.nil n0
  have pre0 : GO p e below (s₁.setTop (mkF m 0 #[.val (.ref a1), .val (.int 0)] [])) (s₁.setTop (entryFrame m #[.ref a1, .int 0] 2)) := fun t k => castTop (ef_25 m a1 (0 : Int32)) k
  have KK := Keep.refl h0 [a1, d1]
  obtain ⟨_, _, ⟨T249, _, _, _⟩, -, X249, ⟨_, hQ249, l249, y249, z249⟩, st249⟩ := superBack X0 hx hZ (y := mn20) hown (ww hw 153 rfl) (own_same (ww hw 154 rfl) (ww hw 101 rfl) rfl (by decide)) (ww hw 154 rfl) (ww hw 83 rfl) (by decide) (backOf (W := 0) (rm26_0 l Z a0 hw [] a1 d1 kd cs wC h0 n0 Z0 SC hz hcs E_a1 F_coder_a1 F_value_a1 F_count_a1 V_d1 g_a1 g_d1 ne_a1_d1) hZ (ww hw 156 rfl) (ww hw 65 rfl) (by decide) (by decide)) e0 (Ins.self E_a1) (g := (mkF m 2 #[.val (.ref a1), .val (.int 0)] [.int 0, .ref a1])) rfl (by rw [hml]; rfl) (ww hw 156 rfl) (argsL := [.int 0]) (rest := []) (lenOf pd_14 rfl) rfl (wz rfl) (hb hby d25_2) (fun _ _ => ⟨rfl, e0, (by decide : 0 + 0 ≤ _), (by decide : 0 + 0 ≤ _)⟩)
  dsimp only [Pt.U, Pt.locs, Pt.cells, Pt.slots] at X249 l249 y249 z249 st249 hQ249
  rw [l249, y249, z249] at X249
  obtain ⟨h249, e249⟩ : ∃ z, T249.heap = z := ⟨_, rfl⟩
  rw [e249] at hQ249
  obtain ⟨rfl, N249q, K249, G249_0, G249_1, G249_2, G249_3⟩ := hQ249
  replace SC := own_stakeep SC K249 (nsS (Exa.nostat E_a1) (nsS (Arv.nostat V_d1) ns0))
  replace E_a1 := E_a1.keep K249
  replace Z0 := Nat.le_trans Z0 K249.1
  replace KK := KK.trans K249 (allS (Or.inl (List.mem_of_getElem? (i := 0) rfl)) (allS (Or.inl (List.mem_of_getElem? (i := 1) rfl)) all0))
  have F_coder_a1 : FC Z h249 a1 (.int 0) := G249_0
  have F_value_a1 : FV Z h249 a1 (.ref d1) := G249_1
  have F_count_a1 : FN Z h249 a1 (.int 42) := G249_2
  have V_d1 : Arv Z h249 d1 kd .byte (70 : Int32) (LB (((((cs ++ [(102 : Int32)]) ++ [(97 : Int32)]) ++ [(108 : Int32)]) ++ [(115 : Int32)]) ++ [(101 : Int32)])) (.int 0) := G249_3
  have N249 := Fr.app N0 N249q
  obtain ⟨fs, hr, hrun, hended, hW, hsame⟩ := X249.leave (v := some (.ref a1)) (fun h => by rw [Bd.returns] at h; cases h)
  refine ⟨_, _, pre0 _ ?_, hrun, hended, _, _, rfl, ?_, ⟨_, rfl⟩, hW, hsame.mono (by decide) (by decide)⟩
  · refine y_aloadN X0 hx hby d25_0 rfl rfl ?_
    refine y_iloadN X0 hx hby d25_1 rfl ?_
    refine st249.trans ?_
    show SP p e below T249 (mkF m 5 #[.val (.ref a1), .val (.int 0)] [.ref a1]) _
    refine y_pop X249 hx hby d25_5 rfl ?_
    refine y_aloadN X249 hx hby d25_6 rfl rfl ?_
    show Steps p.tables e below (T249.setTop (mkF m 7 #[.val (.ref a1), .val (.int 0)] [.ref a1])) _
    jvm_step X249.here [X249.here.top, hx, (hb hby d25_7), X249.method', Bd.returns, Value.isRef, FieldType.isReference]
    first | (intro acts; rw [hr _ acts rfl rfl rfl]) | rw [hr _ _ rfl rfl rfl]
    exact Steps.refl _
  · show QW _ _ _ h0 n0 _ T249.heap _
    rw [e249]
    exact ⟨rfl, N249, KK, F_coder_a1, F_value_a1, F_count_a1, V_d1⟩
abbrev cd11 := jdk_68_method_2_code
theorem d11_0 : DD cd11 0 (.aload_n 0) 1 := by decide +kernel
theorem d11_1 : DD cd11 1 (.invokespecial 3) 3 := by decide +kernel
theorem d11_4 : DD cd11 4 (.getstatic 18) 3 := by decide +kernel
theorem d11_7 : DD cd11 7 (.ifCond .eq 18) 3 := by decide +kernel
theorem d11_10 : DD cd11 10 (.aload_n 0) 1 := by decide +kernel
theorem d11_11 : DD cd11 11 (.iload_n 1) 1 := by decide +kernel
theorem d11_12 : DD cd11 12 (.newarray .byte) 2 := by decide +kernel
theorem d11_14 : DD cd11 14 (.putfield 15) 3 := by decide +kernel
theorem d11_17 : DD cd11 17 (.aload_n 0) 1 := by decide +kernel
theorem d11_18 : DD cd11 18 (.iconst 0) 1 := by decide +kernel
theorem d11_19 : DD cd11 19 (.putfield 22) 3 := by decide +kernel
theorem d11_22 : DD cd11 22 (.goto 16) 3 := by decide +kernel
theorem d11_38 : DD cd11 38 (.return_) 1 := by decide +kernel
abbrev mn22 : MethodName := ⟨"java/lang/AbstractStringBuilder", "<init>", "(I)V"⟩
theorem ef_11 (m : MethodId) (x0 : Addr) (x1 : Int32) : entryFrame m #[.ref x0, (.int x1)] 2 = mkF m 0 #[.val (.ref x0), .val (.int x1)] [] := by first | (simp [entryFrame, mkF, argsToLocals, Value.category]; done) | rfl
set_option maxRecDepth 65536 in
set_option maxHeartbeats 40000000 in
theorem rm11 (l : Launch) (Z : State) (a0 : Array Value) (hw : HW a0 Z) (ws : List Jvm.Cond) (a1 : Addr) (wC : Int32) (h0 : Heap) (n0 : Nat) (Z0 : n0 ≤ h0.size) (SC : SS Z h0 wC) (hz : ¬ wC = 0) (E_a1 : EB Z h0 a1) (F_value_a1 : FV Z h0 a1 .null) (F_coder_a1 : FC Z h0 a1 (.int 0)) (F_count_a1 : FN Z h0 a1 (.int 0)) (g_a1 : n0 ≤ a1) :
    MF l mn22 jdk_68_method_2_code 2 none ws (RM 1 1 16 12) #[.ref a1, .int 16] Z h0 (QW [a1] none (fun h => ∃ d k, h0.size ≤ d ∧ FC Z h a1 (.int 0) ∧ FV Z h a1 (.ref d) ∧ FN Z h a1 (.int 0) ∧ Arv Z h d k .byte (16 : Int32) (LB ([] : List Int32)) (.int 0)) h0 n0) := by
  refine MetFree.of_bodySF (plainFor_of_name pn_17) hisR ?_
  intro p e s m args below meth c s₁ Bd hml0 hP hK
  obtain ⟨rfl, hZ, hh⟩ := hP
  have hx := Bd.exec
  have hby := Bd.bytes
  have hml : c.maxLocals = 2 := hml0
  have hown : s.vm.findClass "java/lang/AbstractStringBuilder" = some m.cls := findClass_of_methodNamed Bd.named
  have hnm := (name_of_methodNamed Bd.named Bd.method).1
  have X0 : Stand p l e (RM 1 1 16 12) s m #[.ref a1, .int 16] below meth c s₁ [] 0 0 := Stand.of_body Bd
  have e0 : s₁.heap = h0 := by rw [← hh, Bd.state]; rfl
  have N0 := Fr.nil n0
  have pre0 : GO p e below (s₁.setTop (mkF m 0 #[.val (.ref a1), .val (.int 16)] [])) (s₁.setTop (entryFrame m #[.ref a1, .int 16] 2)) := fun t k => castTop (ef_11 m a1 (16 : Int32)) k
  have KK := Keep.refl h0 [a1]
  obtain ⟨T250, X250, e250, st250⟩ := initO X0 hx hZ hown (ww hw 67 rfl) (ww hw 12 rfl) (ww hw 13 rfl) e0 (g := (mkF m 1 #[.val (.ref a1), .val (.int 16)] [.ref a1])) rfl (by rw [hml]; rfl) rfl (hb hby d11_1) (by decide) (W := 0) (wz rfl) (by decide)
  obtain ⟨T251, X251, e251, st251⟩ := getS2 X250 hx hZ hown (host := "") (Or.inl (ww hw 68 rfl)) Via.refl e250 SC (g := (mkF m 4 #[.val (.ref a1), .val (.int 16)] [])) rfl (hb hby d11_4)
  obtain ⟨T252, h252, k252, X252, e252, E252, A252, st252⟩ := newP X251 hx hZ (ww hw 19 rfl) e251 (g := (mkF m 12 #[.val (.ref a1), .val (.int 16)] [.int 16, .ref a1])) rfl (hb hby d11_12) rfl (by decide) (cap := 16) (by decide) (by decide) (by decide) (by decide)
  obtain ⟨b252, g252⟩ : ∃ z, z = h0.size := ⟨_, rfl⟩
  rw [← g252] at A252 st252
  have g_b252 : n0 ≤ b252 := Nat.le_trans Z0 (Nat.le_of_eq g252.symm)
  have sz_b252 : h0.size ≤ b252 := Nat.le_trans KK.1 (Nat.le_of_eq g252.symm)
  have ne_a1_b252 : a1 ≠ b252 := Nat.ne_of_lt (Nat.lt_of_lt_of_le E_a1.lt (Nat.le_of_eq g252.symm))
  replace E_a1 := E_a1.ext E252
  replace F_value_a1 := F_value_a1.ext E252
  replace F_coder_a1 := F_coder_a1.ext E252
  replace F_count_a1 := F_count_a1.ext E252
  replace SC := SC.ext E252
  replace Z0 := Nat.le_trans Z0 E252.1
  replace KK := KK.ext E252
  have V_b252 : Arv Z h252 b252 k252 .byte (16 : Int32) (LB ([] : List Int32)) (.int 0) := Arv.new A252 (by decide)
  obtain ⟨T253, h253, X253, e253, W253, st253⟩ := putF X252 hx hZ hown (host := "") (Or.inl (ww hw 69 rfl)) Via.refl e252 F_value_a1 E_a1 (Or.inl (ww hw 70 rfl)) (ww hw 56 rfl) (ty := (.array .byte)) (by decide) rfl rfl (g := (mkF m 14 #[.val (.ref a1), .val (.int 16)] [.ref b252, .ref a1])) rfl rfl (hb hby d11_14)
  replace E_a1 := E_a1.wr W253
  replace F_value_a1 := F_value_a1.same W253
  replace F_coder_a1 := F_coder_a1.other W253 (Or.inr (slot_ne (Or.inl (ww hw 72 rfl)) (Or.inl (ww hw 70 rfl)) (by decide) (t := .byte) (t' := (.array .byte)) (by decide) (by decide)))
  replace F_count_a1 := F_count_a1.other W253 (Or.inr (slot_ne (Or.inl (ww hw 97 rfl)) (Or.inl (ww hw 70 rfl)) (by decide) (t := .int) (t' := (.array .byte)) (by decide) (by decide)))
  replace SC := SC.wr W253
  replace V_b252 := V_b252.other W253 (Ne.symm ne_a1_b252)
  replace Z0 := Nat.le_trans Z0 (Keep.of_wr W253).1
  replace KK := KK.wr W253 (Or.inl (List.mem_of_getElem? (i := 0) rfl))
  have N253 := Fr.snoc X253 N0 g_a1
  obtain ⟨T254, h254, X254, e254, W254, st254⟩ := putFN X253 hx hZ hown (ww hw 71 rfl) Via.refl e253 F_coder_a1 E_a1 (Or.inl (ww hw 72 rfl)) (ww hw 56 rfl) (ty := .byte) (v' := (.int ((0 : Int32).toInt8.toInt32))) (by decide) rfl (fits_nar_byte _) (g := (mkF m 19 #[.val (.ref a1), .val (.int 16)] [.int 0, .ref a1])) rfl rfl (hb hby d11_19)
  replace E_a1 := E_a1.wr W254
  replace F_value_a1 := F_value_a1.other W254 (Or.inr (slot_ne (Or.inl (ww hw 70 rfl)) (Or.inl (ww hw 72 rfl)) (by decide) (t := (.array .byte)) (t' := .byte) (by decide) (by decide)))
  replace F_coder_a1 := F_coder_a1.same W254
  replace F_count_a1 := F_count_a1.other W254 (Or.inr (slot_ne (Or.inl (ww hw 97 rfl)) (Or.inl (ww hw 72 rfl)) (by decide) (t := .int) (t' := .byte) (by decide) (by decide)))
  replace SC := SC.wr W254
  replace V_b252 := V_b252.other W254 (Ne.symm ne_a1_b252)
  replace Z0 := Nat.le_trans Z0 (Keep.of_wr W254).1
  replace KK := KK.wr W254 (Or.inl (List.mem_of_getElem? (i := 0) rfl))
  have N254 := Fr.snoc X254 N253 g_a1
  obtain ⟨fs, hr, hrun, hended, hW, hsame⟩ := X254.leave (v := none) (fun _ => rfl)
  refine ⟨_, _, pre0 _ ?_, hrun, hended, _, _, rfl, ?_, ⟨_, rfl⟩, hW, hsame.mono (by decide) (by decide)⟩
  · refine y_aloadN X0 hx hby d11_0 rfl rfl ?_
    refine st250 _ ?_
    show SP p e below T250 (mkF m 4 #[.val (.ref a1), .val (.int 16)] []) _
    refine st251 _ ?_
    show SP p e below T251 (mkF m 7 #[.val (.ref a1), .val (.int 16)] [(.int wC)]) _
    refine y_ifNo X251 hx hby d11_7 ((if0 _ _).trans (feq hz).1) ?_
    refine y_aloadN X251 hx hby d11_10 rfl rfl ?_
    refine y_iloadN X251 hx hby d11_11 rfl ?_
    refine st252 _ ?_
    show SP p e below T252 (mkF m 14 #[.val (.ref a1), .val (.int 16)] [.ref b252, .ref a1]) _
    refine st253 _ ?_
    show SP p e below T253 (mkF m 17 #[.val (.ref a1), .val (.int 16)] []) _
    refine y_aloadN X253 hx hby d11_17 rfl rfl ?_
    refine y_iconst X253 hx hby (v := (0 : Int32)) d11_18 rfl ?_
    refine st254 _ ?_
    show SP p e below T254 (mkF m 22 #[.val (.ref a1), .val (.int 16)] []) _
    refine y_goto X254 hx hby (pc' := 38) d11_22 (by decide) (by decide) ?_
    show Steps p.tables e below (T254.setTop (mkF m 38 #[.val (.ref a1), .val (.int 16)] [])) _
    exact X254.returnOut hx Bd.returns (hb hby d11_38) hr
  · show QW _ _ _ h0 n0 _ T254.heap _
    rw [e254]
    rw [show ((0 : Int32).toInt8.toInt32) = 0 from by decide] at F_coder_a1
    exact ⟨rfl, N254, KK, _, _, sz_b252, F_coder_a1, F_value_a1, F_count_a1, V_b252⟩
abbrev cd10 := jdk_67_method_1_code
theorem d10_0 : DD cd10 0 (.aload_n 0) 1 := by decide +kernel
theorem d10_1 : DD cd10 1 (.bipush 16) 2 := by decide +kernel
theorem d10_3 : DD cd10 3 (.invokespecial 1) 3 := by decide +kernel
theorem d10_6 : DD cd10 6 (.return_) 1 := by decide +kernel
abbrev mn23 : MethodName := ⟨"java/lang/StringBuilder", "<init>", "()V"⟩
theorem ef_10 (m : MethodId) (x0 : Addr) : entryFrame m #[.ref x0] 1 = mkF m 0 #[.val (.ref x0)] [] := by first | (simp [entryFrame, mkF, argsToLocals, Value.category]; done) | rfl
set_option maxRecDepth 65536 in
set_option maxHeartbeats 40000000 in
theorem rm10 (l : Launch) (Z : State) (a0 : Array Value) (hw : HW a0 Z) (ws : List Jvm.Cond) (a1 : Addr) (wC : Int32) (h0 : Heap) (n0 : Nat) (Z0 : n0 ≤ h0.size) (SC : SS Z h0 wC) (hz : ¬ wC = 0) (E_a1 : EB Z h0 a1) (F_value_a1 : FV Z h0 a1 .null) (F_coder_a1 : FC Z h0 a1 (.int 0)) (F_count_a1 : FN Z h0 a1 (.int 0)) (g_a1 : n0 ≤ a1) :
    MF l mn23 jdk_67_method_1_code 1 none ws (RM 2 1 16 25) #[.ref a1] Z h0 (QW [a1] none (fun h => ∃ d k, h0.size ≤ d ∧ FC Z h a1 (.int 0) ∧ FV Z h a1 (.ref d) ∧ FN Z h a1 (.int 0) ∧ Arv Z h d k .byte (16 : Int32) (LB ([] : List Int32)) (.int 0)) h0 n0) := by
  refine MetFree.of_bodySF (plainFor_of_name pn_32) hisR ?_
  intro p e s m args below meth c s₁ Bd hml0 hP hK
  obtain ⟨rfl, hZ, hh⟩ := hP
  have hx := Bd.exec
  have hby := Bd.bytes
  have hml : c.maxLocals = 1 := hml0
  have hown : s.vm.findClass "java/lang/StringBuilder" = some m.cls := findClass_of_methodNamed Bd.named
  have hnm := (name_of_methodNamed Bd.named Bd.method).1
  have X0 : Stand p l e (RM 2 1 16 25) s m #[.ref a1] below meth c s₁ [] 0 0 := Stand.of_body Bd
  have e0 : s₁.heap = h0 := by rw [← hh, Bd.state]; rfl
  have N0 := Fr.nil n0
  have pre0 : GO p e below (s₁.setTop (mkF m 0 #[.val (.ref a1)] [])) (s₁.setTop (entryFrame m #[.ref a1] 1)) := fun t k => castTop (ef_10 m a1) k
  have KK := Keep.refl h0 [a1]
  obtain ⟨_, _, ⟨T255, _, _, _⟩, -, X255, ⟨_, hQ255, l255, y255, z255⟩, st255⟩ := X0.specialBack hx (y := mn22) rfl hown (mvT hZ (ww hw 61 rfl)) (mvT hZ (ww hw 62 rfl)) (mvT hZ (ww hw 66 rfl)) (by decide) (backOf (W := 0) (rm11 l Z a0 hw [] a1 wC h0 n0 Z0 SC hz E_a1 F_value_a1 F_coder_a1 F_count_a1 g_a1) hZ (ww hw 66 rfl) (ww hw 65 rfl) (by decide) (by decide)) (g := (mkF m 3 #[.val (.ref a1)] [.int 16, .ref a1])) rfl (by rw [hml]; rfl) (Steps.refl _) (a := a1) (argsL := [.int 16]) (rest := []) (lenOf pd_10 rfl) rfl (wz rfl) (hb hby d10_3) (fun _ _ => ⟨rfl, e0, (by decide : 0 + 1 ≤ _), (by decide : 0 + 16 ≤ _)⟩)
  dsimp only [Pt.U, Pt.locs, Pt.cells, Pt.slots] at X255 l255 y255 z255 st255 hQ255
  rw [l255, y255, z255] at X255
  obtain ⟨h255, e255⟩ : ∃ z, T255.heap = z := ⟨_, rfl⟩
  rw [e255] at hQ255
  obtain ⟨rfl, N255q, K255, B255, kb255, szn255, G255_0, G255_1, G255_2, G255_3⟩ := hQ255
  have g_B255 : n0 ≤ B255 := Nat.le_trans Z0 szn255
  have sz_B255 : h0.size ≤ B255 := Nat.le_trans KK.1 szn255
  have ne_a1_B255 : a1 ≠ B255 := Nat.ne_of_lt (Nat.lt_of_lt_of_le E_a1.lt szn255)
  replace SC := own_stakeep SC K255 (nsS (Exa.nostat E_a1) ns0)
  replace E_a1 := E_a1.keep K255
  replace Z0 := Nat.le_trans Z0 K255.1
  replace KK := KK.trans K255 (allS (Or.inl (List.mem_of_getElem? (i := 0) rfl)) all0)
  have F_coder_a1 : FC Z h255 a1 (.int 0) := G255_0
  have F_value_a1 : FV Z h255 a1 (.ref B255) := G255_1
  have F_count_a1 : FN Z h255 a1 (.int 0) := G255_2
  have V_B255 : Arv Z h255 B255 kb255 .byte (16 : Int32) (LB ([] : List Int32)) (.int 0) := G255_3
  have N255 := Fr.app N0 N255q
  obtain ⟨fs, hr, hrun, hended, hW, hsame⟩ := X255.leave (v := none) (fun _ => rfl)
  refine ⟨_, _, pre0 _ ?_, hrun, hended, _, _, rfl, ?_, ⟨_, rfl⟩, hW, hsame.mono (by decide) (by decide)⟩
  · refine y_aloadN X0 hx hby d10_0 rfl rfl ?_
    refine y_bipush X0 hx hby (v := (16 : Int32)) d10_1 rfl ?_
    refine st255.trans ?_
    show Steps p.tables e below (T255.setTop (mkF m 6 #[.val (.ref a1)] [])) _
    exact X255.returnOut hx Bd.returns (hb hby d10_6) hr
  · show QW _ _ _ h0 n0 _ T255.heap _
    rw [e255]
    exact ⟨rfl, N255, KK, _, _, sz_B255, F_coder_a1, F_value_a1, F_count_a1, V_B255⟩
def QM (Z : State) (cs : List Int32) (N : Int32) (h0 : Heap) (n0 : Nat) (v : Option Value) (h : Heap) (L : List Loc) : Prop := ∃ x t k, v = some (.ref x) ∧ Fr n0 L ∧ Keep h0 h [] ∧ h0.size ≤ x ∧ h0.size ≤ t ∧ ES Z h x ∧ GC Z h x (.int 0) ∧ GV Z h x (.ref t) ∧ Arv Z h t k .byte N (LB cs) (.int 0)
abbrev cd30 := jdk_42_method_150_code
theorem d30_0 : DD cd30 0 (.aload_n 0) 1 := by decide +kernel
theorem d30_1 : DD cd30 1 (.invokespecial 1) 3 := by decide +kernel
theorem d30_4 : DD cd30 4 (.aload_n 1) 1 := by decide +kernel
theorem d30_5 : DD cd30 5 (.invokevirtual 552) 3 := by decide +kernel
theorem pd_15 : parseMethodDescriptor "()[B" = some ⟨[], some (.array .byte)⟩ := by decide +kernel
theorem d30_8 : DD cd30 8 (.astore_n 3) 1 := by decide +kernel
theorem d30_9 : DD cd30 9 (.aload_n 1) 1 := by decide +kernel
theorem d30_10 : DD cd30 10 (.invokevirtual 549) 3 := by decide +kernel
theorem d30_13 : DD cd30 13 (.istore 4) 2 := by decide +kernel
theorem d30_15 : DD cd30 15 (.aload_n 1) 1 := by decide +kernel
theorem d30_16 : DD cd30 16 (.invokevirtual 1047) 3 := by decide +kernel
theorem d30_19 : DD cd30 19 (.ifCond .eq 22) 3 := by decide +kernel
theorem d30_22 : DD cd30 22 (.aload_n 0) 1 := by decide +kernel
theorem d30_23 : DD cd30 23 (.iconst 0) 1 := by decide +kernel
theorem d30_24 : DD cd30 24 (.putfield 15) 3 := by decide +kernel
theorem d30_27 : DD cd30 27 (.aload_n 0) 1 := by decide +kernel
theorem d30_28 : DD cd30 28 (.aload_n 3) 1 := by decide +kernel
theorem d30_29 : DD cd30 29 (.iconst 0) 1 := by decide +kernel
theorem d30_30 : DD cd30 30 (.iload 4) 2 := by decide +kernel
theorem d30_32 : DD cd30 32 (.invokestatic 54) 3 := by decide +kernel
theorem d30_35 : DD cd30 35 (.putfield 9) 3 := by decide +kernel
theorem d30_38 : DD cd30 38 (.goto 59) 3 := by decide +kernel
theorem d30_97 : DD cd30 97 (.return_) 1 := by decide +kernel
abbrev mn24 : MethodName := ⟨"java/lang/String", "<init>", "(Ljava/lang/AbstractStringBuilder;Ljava/lang/Void;)V"⟩
theorem ef_30z (m : MethodId) (x0 : Addr) (x1 : Addr) : entryFrame m #[.ref x0, .ref x1, .null] 5 = mkF m 0 #[.val (.ref x0), .val (.ref x1), .val .null, .unset, .unset] [] := by first | (simp [entryFrame, mkF, argsToLocals, Value.category]; done) | rfl
set_option maxRecDepth 65536 in
set_option maxHeartbeats 40000000 in
theorem rm30_42 (l : Launch) (Z : State) (a0 : Array Value) (hw : HW a0 Z) (ws : List Jvm.Cond) (a1 a2 d1 : Addr) (kd : ClassId) (cs : List Int32) (wC : Int32) (h0 : Heap) (n0 : Nat) (Z0 : n0 ≤ h0.size) (SC : SS Z h0 wC) (hz : ¬ wC = 0) (hcs : cs.length = 42) (E_a1 : ES Z h0 a1) (F_value_a1 : GV Z h0 a1 .null) (F_coder_a1 : GC Z h0 a1 (.int 0)) (E_a2 : EB Z h0 a2) (F_coder_a2 : FC Z h0 a2 (.int 0)) (F_value_a2 : FV Z h0 a2 (.ref d1)) (F_count_a2 : FN Z h0 a2 (.int 42)) (V_d1 : Arv Z h0 d1 kd .byte (70 : Int32) (LB cs) (.int 0)) (g_a1 : n0 ≤ a1) (ne_a1_a2 : a1 ≠ a2) (ne_a1_d1 : a1 ≠ d1) :
    MF l mn24 jdk_42_method_150_code 5 none ws (RM 3 1 42 49) #[.ref a1, .ref a2, .null] Z h0 (QW [a1] none (fun h => ∃ d k, h0.size ≤ d ∧ GV Z h a1 (.ref d) ∧ GC Z h a1 (.int 0) ∧ Arv Z h d k .byte (42 : Int32) (LB cs) (.int 0)) h0 n0) := by
  refine MetFree.of_bodySF (plainFor_of_name pn_15) hisR ?_
  intro p e s m args below meth c s₁ Bd hml0 hP hK
  obtain ⟨rfl, hZ, hh⟩ := hP
  have hx := Bd.exec
  have hby := Bd.bytes
  have hml : c.maxLocals = 5 := hml0
  have hown : s.vm.findClass "java/lang/String" = some m.cls := findClass_of_methodNamed Bd.named
  have hnm := (name_of_methodNamed Bd.named Bd.method).1
  have X0 : Stand p l e (RM 3 1 42 49) s m #[.ref a1, .ref a2, .null] below meth c s₁ [] 0 0 := Stand.of_body Bd
  have e0 : s₁.heap = h0 := by rw [← hh, Bd.state]; rfl
  have N0 := Fr.nil n0
  have pre0 : GO p e below (s₁.setTop (mkF m 0 #[.val (.ref a1), .val (.ref a2), .val .null, .unset, .unset] [])) (s₁.setTop (entryFrame m #[.ref a1, .ref a2, .null] 5)) := fun t k => castTop (ef_30z m a1 a2) k
  have KK := Keep.refl h0 [a1]
  obtain ⟨T256, X256, e256, st256⟩ := initO X0 hx hZ hown (ww hw 11 rfl) (ww hw 12 rfl) (ww hw 13 rfl) e0 (g := (mkF m 1 #[.val (.ref a1), .val (.ref a2), .val .null, .unset, .unset] [.ref a1])) rfl (by rw [hml]; rfl) rfl (hb hby d30_1) (by decide) (W := 0) (wz rfl) (by decide)
  obtain ⟨cq257, kq257, q257a, q257b, q257c⟩ := isOf hZ e256 E_a2
  obtain ⟨_, _, ⟨T257, _, _, _⟩, -, X257, ⟨_, hQ257, l257, y257, z257⟩, st257⟩ := X256.virtualBack hx (y := mn8) (z := mn8) hown (mvT hZ (ww hw 175 rfl)) (mvT hZ (ww hw 176 rfl)) (notFace_of_selects (args := #[]) (mvT hZ (ww hw 178 rfl))) (mvT hZ (ww hw 178 rfl)) (mvT hZ (ww hw 177 rfl)) (by decide) (backOf (W := 0) (rm31 l Z a0 hw [] a2 d1 h0 n0 Z0 F_value_a2) hZ (ww hw 179 rfl) (ww hw 65 rfl) (by decide) (by decide)) q257a q257c (g := (mkF m 5 #[.val (.ref a1), .val (.ref a2), .val .null, .unset, .unset] [.ref a2])) rfl (by rw [hml]; rfl) (Steps.refl _) (argsL := []) (rest := []) (lenOf pd_15 rfl) rfl (wz rfl) (hb hby d30_5) (fun _ _ => ⟨rfl, e256, (by decide : 0 + 0 ≤ _), (by decide : 0 + 0 ≤ _)⟩)
  dsimp only [Pt.U, Pt.locs, Pt.cells, Pt.slots] at X257 l257 y257 z257 st257 hQ257
  rw [l257, y257, z257] at X257
  obtain ⟨rfl, N257q, e257⟩ := hQ257
  have N257 := Fr.app N0 N257q
  obtain ⟨cq258, kq258, q258a, q258b, q258c⟩ := isOf hZ e257 E_a2
  obtain ⟨_, _, ⟨T258, _, _, _⟩, -, X258, ⟨_, hQ258, l258, y258, z258⟩, st258⟩ := X257.virtualBack hx (y := mn9) (z := mn10) hown (mvT hZ (ww hw 180 rfl)) (mvT hZ (ww hw 181 rfl)) (own_nf (args := #[]) (mvT hZ (ww hw 101 rfl)) rfl) (mvT hZ (ww hw 183 rfl)) (mvT hZ (ww hw 184 rfl)) (by decide) (backOf (W := 0) (rm32 l Z a0 hw [] a2 (42 : Int32) h0 n0 Z0 E_a2 F_count_a2) hZ (ww hw 185 rfl) (ww hw 57 rfl) (by decide) (by decide)) q258a q258c (g := (mkF m 10 #[.val (.ref a1), .val (.ref a2), .val .null, .val (.ref d1), .unset] [.ref a2])) rfl (by rw [hml]; rfl) (Steps.refl _) (argsL := []) (rest := []) (lenOf pd_3 rfl) rfl (wz rfl) (hb hby d30_10) (fun _ _ => ⟨rfl, e257, (by decide : 0 + 0 ≤ _), (by decide : 0 + 0 ≤ _)⟩)
  dsimp only [Pt.U, Pt.locs, Pt.cells, Pt.slots] at X258 l258 y258 z258 st258 hQ258
  rw [l258, y258, z258] at X258
  obtain ⟨rfl, N258q, e258⟩ := hQ258
  have N258 := Fr.app N257 N258q
  obtain ⟨cq259, kq259, q259a, q259b, q259c⟩ := isOf hZ e258 E_a2
  obtain ⟨_, _, ⟨T259, _, _, _⟩, -, X259, ⟨_, hQ259, l259, y259, z259⟩, st259⟩ := X258.virtualBack hx (y := mn7) (z := mn7) hown (mvT hZ (ww hw 188 rfl)) (mvT hZ (ww hw 158 rfl)) (notFace_of_selects (args := #[]) (mvT hZ (ww hw 160 rfl))) (mvT hZ (ww hw 160 rfl)) (mvT hZ (ww hw 159 rfl)) (by decide) (backOf (W := 0) (rm27 l Z a0 hw [] a2 wC h0 n0 Z0 SC hz F_coder_a2) hZ (ww hw 161 rfl) (ww hw 65 rfl) (by decide) (by decide)) q259a q259c (g := (mkF m 16 #[.val (.ref a1), .val (.ref a2), .val .null, .val (.ref d1), .val (.int 42)] [.ref a2])) rfl (by rw [hml]; rfl) (Steps.refl _) (argsL := []) (rest := []) (lenOf pd_13 rfl) rfl (wz rfl) (hb hby d30_16) (fun _ _ => ⟨rfl, e258, (by decide : 0 + 0 ≤ _), (by decide : 0 + 0 ≤ _)⟩)
  dsimp only [Pt.U, Pt.locs, Pt.cells, Pt.slots] at X259 l259 y259 z259 st259 hQ259
  rw [l259, y259, z259] at X259
  obtain ⟨rfl, N259q, e259⟩ := hQ259
  have N259 := Fr.app N258 N259q
  obtain ⟨T260, h260, X260, e260, W260, st260⟩ := putFN X259 hx hZ hown (ww hw 26 rfl) Via.refl e259 F_coder_a1 E_a1 (Or.inr ⟨(ww hw 27 rfl), rfl, hnm⟩) (ww hw 1 rfl) (ty := .byte) (v' := (.int ((0 : Int32).toInt8.toInt32))) (by decide) rfl (fits_nar_byte _) (g := (mkF m 24 #[.val (.ref a1), .val (.ref a2), .val .null, .val (.ref d1), .val (.int 42)] [.int 0, .ref a1])) rfl rfl (hb hby d30_24)
  replace E_a1 := E_a1.wr W260
  replace F_value_a1 := F_value_a1.other W260 (Or.inr (slot_ne (Or.inr (ww hw 29 rfl)) (Or.inr (ww hw 27 rfl)) (by decide) (t := (.array .byte)) (t' := .byte) (by decide) (by decide)))
  replace F_coder_a1 := F_coder_a1.same W260
  replace E_a2 := E_a2.wr W260
  replace F_coder_a2 := F_coder_a2.other W260 (Or.inl (Ne.symm ne_a1_a2))
  replace F_value_a2 := F_value_a2.other W260 (Or.inl (Ne.symm ne_a1_a2))
  replace F_count_a2 := F_count_a2.other W260 (Or.inl (Ne.symm ne_a1_a2))
  replace V_d1 := V_d1.other W260 (Ne.symm ne_a1_d1)
  replace SC := SC.wr W260
  replace Z0 := Nat.le_trans Z0 (Keep.of_wr W260).1
  replace KK := KK.wr W260 (Or.inl (List.mem_of_getElem? (i := 0) rfl))
  have N260 := Fr.snoc X260 N259 g_a1
  obtain ⟨_, _, ⟨T261, _, _, _⟩, -, X261, ⟨_, hQ261, l261, y261, z261⟩, st261⟩ := Jvm.LawKit.callS X260 hx (y := mn14) hown (mvT hZ (ww hw 189 rfl)) (mvT hZ (ww hw 190 rfl)) (mvT hZ (ww hw 120 rfl)) (mvT hZ (ww hw 191 rfl)) (by decide) (backOf (W := 1) (rm34_42 l Z a0 hw [] d1 kd cs h260 n0 Z0 hcs V_d1) hZ (ww hw 191 rfl) (ww hw 120 rfl) (by decide) (by decide)) (g := (mkF m 32 #[.val (.ref a1), .val (.ref a2), .val .null, .val (.ref d1), .val (.int 42)] [.int 42, .int 0, .ref d1, .ref a1])) rfl (by rw [hml]; rfl) (argsL := [.ref d1, .int 0, .int 42]) (rest := [.ref a1]) (lenOf pd_5 rfl) rfl (wz rfl) (hb hby d30_32) (fun _ _ => ⟨rfl, e260, (by decide : 0 + 1 ≤ _), (by decide : 0 + 42 ≤ _)⟩)
  dsimp only [Pt.U, Pt.locs, Pt.cells, Pt.slots] at X261 l261 y261 z261 st261 hQ261
  rw [l261, y261, z261] at X261
  obtain ⟨h261, e261⟩ : ∃ z, T261.heap = z := ⟨_, rfl⟩
  rw [e261] at hQ261
  obtain ⟨B261, rfl, N261q, K261, szn261, kb261, G261⟩ := hQ261
  have g_B261 : n0 ≤ B261 := Nat.le_trans Z0 szn261
  have sz_B261 : h0.size ≤ B261 := Nat.le_trans KK.1 szn261
  have ne_a1_B261 : a1 ≠ B261 := Nat.ne_of_lt (Nat.lt_of_lt_of_le E_a1.lt szn261)
  have ne_a2_B261 : a2 ≠ B261 := Nat.ne_of_lt (Nat.lt_of_lt_of_le E_a2.lt szn261)
  have ne_d1_B261 : d1 ≠ B261 := Nat.ne_of_lt (Nat.lt_of_lt_of_le V_d1.lt szn261)
  replace SC := own_stakeep SC K261 ns0
  replace E_a1 := E_a1.keep K261
  replace F_value_a1 := F_value_a1.keep K261 nin0
  replace F_coder_a1 := F_coder_a1.keep K261 nin0
  replace E_a2 := E_a2.keep K261
  replace F_coder_a2 := F_coder_a2.keep K261 nin0
  replace F_value_a2 := F_value_a2.keep K261 nin0
  replace F_count_a2 := F_count_a2.keep K261 nin0
  replace V_d1 := V_d1.keep K261 nin0
  replace Z0 := Nat.le_trans Z0 K261.1
  replace KK := KK.trans K261 all0
  have V_B261 : Arv Z h261 B261 kb261 .byte (42 : Int32) (LB cs) (.int 0) := G261
  have N261 := Fr.app N260 N261q
  obtain ⟨T262, h262, X262, e262, W262, st262⟩ := putF X261 hx hZ hown (host := "") (Or.inl (ww hw 28 rfl)) Via.refl e261 F_value_a1 E_a1 (Or.inr ⟨(ww hw 29 rfl), rfl, hnm⟩) (ww hw 1 rfl) (ty := (.array .byte)) (by decide) rfl rfl (g := (mkF m 35 #[.val (.ref a1), .val (.ref a2), .val .null, .val (.ref d1), .val (.int 42)] [.ref B261, .ref a1])) rfl rfl (hb hby d30_35)
  replace E_a1 := E_a1.wr W262
  replace F_value_a1 := F_value_a1.same W262
  replace F_coder_a1 := F_coder_a1.other W262 (Or.inr (slot_ne (Or.inr (ww hw 27 rfl)) (Or.inr (ww hw 29 rfl)) (by decide) (t := .byte) (t' := (.array .byte)) (by decide) (by decide)))
  replace E_a2 := E_a2.wr W262
  replace F_coder_a2 := F_coder_a2.other W262 (Or.inl (Ne.symm ne_a1_a2))
  replace F_value_a2 := F_value_a2.other W262 (Or.inl (Ne.symm ne_a1_a2))
  replace F_count_a2 := F_count_a2.other W262 (Or.inl (Ne.symm ne_a1_a2))
  replace V_d1 := V_d1.other W262 (Ne.symm ne_a1_d1)
  replace SC := SC.wr W262
  replace V_B261 := V_B261.other W262 (Ne.symm ne_a1_B261)
  replace Z0 := Nat.le_trans Z0 (Keep.of_wr W262).1
  replace KK := KK.wr W262 (Or.inl (List.mem_of_getElem? (i := 0) rfl))
  have N262 := Fr.snoc X262 N261 g_a1
  obtain ⟨fs, hr, hrun, hended, hW, hsame⟩ := X262.leave (v := none) (fun _ => rfl)
  refine ⟨_, _, pre0 _ ?_, hrun, hended, _, _, rfl, ?_, ⟨_, rfl⟩, hW, hsame.mono (by decide) (by decide)⟩
  · refine y_aloadN X0 hx hby d30_0 rfl rfl ?_
    refine st256 _ ?_
    show SP p e below T256 (mkF m 4 #[.val (.ref a1), .val (.ref a2), .val .null, .unset, .unset] []) _
    refine y_aloadN X256 hx hby d30_4 rfl rfl ?_
    refine st257.trans ?_
    show SP p e below T257 (mkF m 8 #[.val (.ref a1), .val (.ref a2), .val .null, .unset, .unset] [.ref d1]) _
    refine y_astoreN X257 hx hby d30_8 rfl (l' := #[.val (.ref a1), .val (.ref a2), .val .null, .val (.ref d1), .unset]) rfl ?_
    refine y_aloadN X257 hx hby d30_9 rfl rfl ?_
    refine st258.trans ?_
    show SP p e below T258 (mkF m 13 #[.val (.ref a1), .val (.ref a2), .val .null, .val (.ref d1), .unset] [.int 42]) _
    refine y_istore X258 hx hby d30_13 (l' := #[.val (.ref a1), .val (.ref a2), .val .null, .val (.ref d1), .val (.int 42)]) rfl ?_
    refine y_aloadN X258 hx hby d30_15 rfl rfl ?_
    refine st259.trans ?_
    show SP p e below T259 (mkF m 19 #[.val (.ref a1), .val (.ref a2), .val .null, .val (.ref d1), .val (.int 42)] [.int 1]) _
    refine y_ifNo X259 hx hby d30_19 ((if0 _ _).trans (feq (by decide)).1) ?_
    refine y_aloadN X259 hx hby d30_22 rfl rfl ?_
    refine y_iconst X259 hx hby (v := (0 : Int32)) d30_23 rfl ?_
    refine st260 _ ?_
    show SP p e below T260 (mkF m 27 #[.val (.ref a1), .val (.ref a2), .val .null, .val (.ref d1), .val (.int 42)] []) _
    refine y_aloadN X260 hx hby d30_27 rfl rfl ?_
    refine y_aloadN X260 hx hby d30_28 rfl rfl ?_
    refine y_iconst X260 hx hby (v := (0 : Int32)) d30_29 rfl ?_
    refine y_iload X260 hx hby d30_30 rfl ?_
    refine st261 _ ?_
    show SP p e below T261 (mkF m 35 #[.val (.ref a1), .val (.ref a2), .val .null, .val (.ref d1), .val (.int 42)] [.ref B261, .ref a1]) _
    refine st262 _ ?_
    show SP p e below T262 (mkF m 38 #[.val (.ref a1), .val (.ref a2), .val .null, .val (.ref d1), .val (.int 42)] []) _
    refine y_goto X262 hx hby (pc' := 97) d30_38 (by decide) (by decide) ?_
    show Steps p.tables e below (T262.setTop (mkF m 97 #[.val (.ref a1), .val (.ref a2), .val .null, .val (.ref d1), .val (.int 42)] [])) _
    exact X262.returnOut hx Bd.returns (hb hby d30_97) hr
  · show QW _ _ _ h0 n0 _ T262.heap _
    rw [e262]
    rw [show ((0 : Int32).toInt8.toInt32) = 0 from by decide] at F_coder_a1
    exact ⟨rfl, N262, KK, _, _, sz_B261, F_value_a1, F_coder_a1, V_B261⟩
abbrev cd29 := jdk_42_method_53_code
theorem d29_0 : DD cd29 0 (.aload_n 0) 1 := by decide +kernel
theorem d29_1 : DD cd29 1 (.aload_n 1) 1 := by decide +kernel
theorem d29_2 : DD cd29 2 (.aconst_null) 1 := by decide +kernel
theorem d29_3 : DD cd29 3 (.invokespecial 489) 3 := by decide +kernel
theorem pd_16 : parseMethodDescriptor "(Ljava/lang/AbstractStringBuilder;Ljava/lang/Void;)V" = some ⟨[(.object "java/lang/AbstractStringBuilder"), (.object "java/lang/Void")], none⟩ := by decide +kernel
theorem d29_6 : DD cd29 6 (.return_) 1 := by decide +kernel
abbrev mn25 : MethodName := ⟨"java/lang/String", "<init>", "(Ljava/lang/StringBuilder;)V"⟩
theorem ef_29 (m : MethodId) (x0 : Addr) (x1 : Addr) : entryFrame m #[.ref x0, .ref x1] 2 = mkF m 0 #[.val (.ref x0), .val (.ref x1)] [] := by first | (simp [entryFrame, mkF, argsToLocals, Value.category]; done) | rfl
set_option maxRecDepth 65536 in
set_option maxHeartbeats 40000000 in
theorem rm29_42 (l : Launch) (Z : State) (a0 : Array Value) (hw : HW a0 Z) (ws : List Jvm.Cond) (a1 a2 d1 : Addr) (kd : ClassId) (cs : List Int32) (wC : Int32) (h0 : Heap) (n0 : Nat) (Z0 : n0 ≤ h0.size) (SC : SS Z h0 wC) (hz : ¬ wC = 0) (hcs : cs.length = 42) (E_a1 : ES Z h0 a1) (F_value_a1 : GV Z h0 a1 .null) (F_coder_a1 : GC Z h0 a1 (.int 0)) (E_a2 : EB Z h0 a2) (F_coder_a2 : FC Z h0 a2 (.int 0)) (F_value_a2 : FV Z h0 a2 (.ref d1)) (F_count_a2 : FN Z h0 a2 (.int 42)) (V_d1 : Arv Z h0 d1 kd .byte (70 : Int32) (LB cs) (.int 0)) (g_a1 : n0 ≤ a1) (ne_a1_a2 : a1 ≠ a2) (ne_a1_d1 : a1 ≠ d1) :
    MF l mn25 jdk_42_method_53_code 2 none ws (RM 4 1 42 65) #[.ref a1, .ref a2] Z h0 (QW [a1] none (fun h => ∃ d k, h0.size ≤ d ∧ GV Z h a1 (.ref d) ∧ GC Z h a1 (.int 0) ∧ Arv Z h d k .byte (42 : Int32) (LB cs) (.int 0)) h0 n0) := by
  refine MetFree.of_bodySF (plainFor_of_name pn_15) hisR ?_
  intro p e s m args below meth c s₁ Bd hml0 hP hK
  obtain ⟨rfl, hZ, hh⟩ := hP
  have hx := Bd.exec
  have hby := Bd.bytes
  have hml : c.maxLocals = 2 := hml0
  have hown : s.vm.findClass "java/lang/String" = some m.cls := findClass_of_methodNamed Bd.named
  have hnm := (name_of_methodNamed Bd.named Bd.method).1
  have X0 : Stand p l e (RM 4 1 42 65) s m #[.ref a1, .ref a2] below meth c s₁ [] 0 0 := Stand.of_body Bd
  have e0 : s₁.heap = h0 := by rw [← hh, Bd.state]; rfl
  have N0 := Fr.nil n0
  have pre0 : GO p e below (s₁.setTop (mkF m 0 #[.val (.ref a1), .val (.ref a2)] [])) (s₁.setTop (entryFrame m #[.ref a1, .ref a2] 2)) := fun t k => castTop (ef_29 m a1 a2) k
  have KK := Keep.refl h0 [a1]
  obtain ⟨_, _, ⟨T263, _, _, _⟩, -, X263, ⟨_, hQ263, l263, y263, z263⟩, st263⟩ := X0.specialBack hx (y := mn24) rfl hown (mvT hZ (ww hw 172 rfl)) (mvT hZ (ww hw 173 rfl)) (mvT hZ (ww hw 174 rfl)) (by decide) (backOf (W := 0) (rm30_42 l Z a0 hw [] a1 a2 d1 kd cs wC h0 n0 Z0 SC hz hcs E_a1 F_value_a1 F_coder_a1 E_a2 F_coder_a2 F_value_a2 F_count_a2 V_d1 g_a1 ne_a1_a2 ne_a1_d1) hZ (ww hw 174 rfl) (ww hw 2 rfl) (by decide) (by decide)) (g := (mkF m 3 #[.val (.ref a1), .val (.ref a2)] [.null, .ref a2, .ref a1])) rfl (by rw [hml]; rfl) (Steps.refl _) (a := a1) (argsL := [.ref a2, .null]) (rest := []) (lenOf pd_16 rfl) rfl (wz rfl) (hb hby d29_3) (fun _ _ => ⟨rfl, e0, (by decide : 0 + 1 ≤ _), (by decide : 0 + 42 ≤ _)⟩)
  dsimp only [Pt.U, Pt.locs, Pt.cells, Pt.slots] at X263 l263 y263 z263 st263 hQ263
  rw [l263, y263, z263] at X263
  obtain ⟨h263, e263⟩ : ∃ z, T263.heap = z := ⟨_, rfl⟩
  rw [e263] at hQ263
  obtain ⟨rfl, N263q, K263, B263, kb263, szn263, G263_0, G263_1, G263_2⟩ := hQ263
  have g_B263 : n0 ≤ B263 := Nat.le_trans Z0 szn263
  have sz_B263 : h0.size ≤ B263 := Nat.le_trans KK.1 szn263
  have ne_a1_B263 : a1 ≠ B263 := Nat.ne_of_lt (Nat.lt_of_lt_of_le E_a1.lt szn263)
  have ne_a2_B263 : a2 ≠ B263 := Nat.ne_of_lt (Nat.lt_of_lt_of_le E_a2.lt szn263)
  have ne_d1_B263 : d1 ≠ B263 := Nat.ne_of_lt (Nat.lt_of_lt_of_le V_d1.lt szn263)
  replace SC := own_stakeep SC K263 (nsS (Exa.nostat E_a1) ns0)
  replace E_a1 := E_a1.keep K263
  replace E_a2 := E_a2.keep K263
  replace F_coder_a2 := F_coder_a2.keep K263 (ninS (Ne.symm ne_a1_a2) nin0)
  replace F_value_a2 := F_value_a2.keep K263 (ninS (Ne.symm ne_a1_a2) nin0)
  replace F_count_a2 := F_count_a2.keep K263 (ninS (Ne.symm ne_a1_a2) nin0)
  replace V_d1 := V_d1.keep K263 (ninS (Ne.symm ne_a1_d1) nin0)
  replace Z0 := Nat.le_trans Z0 K263.1
  replace KK := KK.trans K263 (allS (Or.inl (List.mem_of_getElem? (i := 0) rfl)) all0)
  have F_value_a1 : GV Z h263 a1 (.ref B263) := G263_0
  have F_coder_a1 : GC Z h263 a1 (.int 0) := G263_1
  have V_B263 : Arv Z h263 B263 kb263 .byte (42 : Int32) (LB cs) (.int 0) := G263_2
  have N263 := Fr.app N0 N263q
  obtain ⟨fs, hr, hrun, hended, hW, hsame⟩ := X263.leave (v := none) (fun _ => rfl)
  refine ⟨_, _, pre0 _ ?_, hrun, hended, _, _, rfl, ?_, ⟨_, rfl⟩, hW, hsame.mono (by decide) (by decide)⟩
  · refine y_aloadN X0 hx hby d29_0 rfl rfl ?_
    refine y_aloadN X0 hx hby d29_1 rfl rfl ?_
    refine y_aconstNull X0 hx hby d29_2 ?_
    refine st263.trans ?_
    show Steps p.tables e below (T263.setTop (mkF m 6 #[.val (.ref a1), .val (.ref a2)] [])) _
    exact X263.returnOut hx Bd.returns (hb hby d29_6) hr
  · show QW _ _ _ h0 n0 _ T263.heap _
    rw [e263]
    exact ⟨rfl, N263, KK, _, _, sz_B263, F_value_a1, F_coder_a1, V_B263⟩
abbrev cd28 := jdk_67_method_42_code
theorem d28_0 : DD cd28 0 (.new 18) 3 := by decide +kernel
theorem d28_3 : DD cd28 3 (.dup) 1 := by decide +kernel
theorem d28_4 : DD cd28 4 (.aload_n 0) 1 := by decide +kernel
theorem d28_5 : DD cd28 5 (.invokespecial 137) 3 := by decide +kernel
theorem pd_17 : parseMethodDescriptor "(Ljava/lang/StringBuilder;)V" = some ⟨[(.object "java/lang/StringBuilder")], none⟩ := by decide +kernel
theorem d28_8 : DD cd28 8 (.areturn) 1 := by decide +kernel
abbrev mn26 : MethodName := ⟨"java/lang/StringBuilder", "toString", "()Ljava/lang/String;"⟩
theorem ef_28 (m : MethodId) (x0 : Addr) : entryFrame m #[.ref x0] 1 = mkF m 0 #[.val (.ref x0)] [] := by first | (simp [entryFrame, mkF, argsToLocals, Value.category]; done) | rfl
set_option maxRecDepth 65536 in
set_option maxHeartbeats 40000000 in
theorem rm28_42 (l : Launch) (Z : State) (a0 : Array Value) (hw : HW a0 Z) (ws : List Jvm.Cond) (a1 d1 : Addr) (kd : ClassId) (cs : List Int32) (wC : Int32) (h0 : Heap) (n0 : Nat) (Z0 : n0 ≤ h0.size) (SC : SS Z h0 wC) (hz : ¬ wC = 0) (hcs : cs.length = 42) (E_a1 : EB Z h0 a1) (F_coder_a1 : FC Z h0 a1 (.int 0)) (F_value_a1 : FV Z h0 a1 (.ref d1)) (F_count_a1 : FN Z h0 a1 (.int 42)) (V_d1 : Arv Z h0 d1 kd .byte (70 : Int32) (LB cs) (.int 0)) :
    MF l mn26 jdk_67_method_42_code 1 (some (.object "java/lang/String")) ws (RM 5 2 46 79) #[.ref a1] Z h0 (QM Z cs (42 : Int32) h0 n0) := by
  refine MetFree.of_bodySF (plainFor_of_name pn_32) hisR ?_
  intro p e s m args below meth c s₁ Bd hml0 hP hK
  obtain ⟨rfl, hZ, hh⟩ := hP
  have hx := Bd.exec
  have hby := Bd.bytes
  have hml : c.maxLocals = 1 := hml0
  have hown : s.vm.findClass "java/lang/StringBuilder" = some m.cls := findClass_of_methodNamed Bd.named
  have hnm := (name_of_methodNamed Bd.named Bd.method).1
  have X0 : Stand p l e (RM 5 2 46 79) s m #[.ref a1] below meth c s₁ [] 0 0 := Stand.of_body Bd
  have e0 : s₁.heap = h0 := by rw [← hh, Bd.state]; rfl
  have N0 := Fr.nil n0
  have pre0 : GO p e below (s₁.setTop (mkF m 0 #[.val (.ref a1)] [])) (s₁.setTop (entryFrame m #[.ref a1] 1)) := fun t k => castTop (ef_28 m a1) k
  have KK := Keep.refl h0 []
  obtain ⟨T264, h264, X264, e264, E264, A264, D264, -, st264⟩ := newO X0 hx hZ hown (ww hw 168 rfl) (ww hw 1 rfl) (ww hw 2 rfl) e0 (g := (mkF m 0 #[.val (.ref a1)] [])) rfl (hb hby d28_0) (by decide) (by decide)
  obtain ⟨b264, g264⟩ : ∃ z, z = h0.size := ⟨_, rfl⟩
  rw [← g264] at A264 D264 st264
  have g_b264 : n0 ≤ b264 := Nat.le_trans Z0 (Nat.le_of_eq g264.symm)
  have sz_b264 : h0.size ≤ b264 := Nat.le_trans KK.1 (Nat.le_of_eq g264.symm)
  have ne_a1_b264 : a1 ≠ b264 := Nat.ne_of_lt (Nat.lt_of_lt_of_le E_a1.lt (Nat.le_of_eq g264.symm))
  have ne_d1_b264 : d1 ≠ b264 := Nat.ne_of_lt (Nat.lt_of_lt_of_le V_d1.lt (Nat.le_of_eq g264.symm))
  replace E_a1 := E_a1.ext E264
  replace F_coder_a1 := F_coder_a1.ext E264
  replace F_value_a1 := F_value_a1.ext E264
  replace F_count_a1 := F_count_a1.ext E264
  replace V_d1 := V_d1.ext E264
  replace SC := SC.ext E264
  replace Z0 := Nat.le_trans Z0 E264.1
  replace KK := KK.ext E264
  have E_b264 := A264
  have F_coder_b264 : GC Z h264 b264 (.int 0) := D264 (Or.inr (ww hw 27 rfl)) (ty := .byte) (by decide)
  have F_value_b264 : GV Z h264 b264 .null := D264 (Or.inr (ww hw 29 rfl)) (ty := (.array .byte)) (by decide)
  obtain ⟨_, _, ⟨T265, _, _, _⟩, -, X265, ⟨_, hQ265, l265, y265, z265⟩, st265⟩ := X264.specialBack hx (y := mn25) rfl hown (mvT hZ (ww hw 169 rfl)) (mvT hZ (ww hw 170 rfl)) (mvT hZ (ww hw 171 rfl)) (by decide) (backOf (W := 1) (rm29_42 l Z a0 hw [] b264 a1 d1 kd cs wC h264 n0 Z0 SC hz hcs E_b264 F_value_b264 F_coder_b264 E_a1 F_coder_a1 F_value_a1 F_count_a1 V_d1 g_b264 (Ne.symm ne_a1_b264) (Ne.symm ne_d1_b264)) hZ (ww hw 171 rfl) (ww hw 2 rfl) (by decide) (by decide)) (g := (mkF m 5 #[.val (.ref a1)] [.ref a1, .ref b264, .ref b264])) rfl (by rw [hml]; rfl) (Steps.refl _) (a := b264) (argsL := [.ref a1]) (rest := [.ref b264]) (lenOf pd_17 rfl) rfl (wz rfl) (hb hby d28_5) (fun _ _ => ⟨rfl, e264, (by decide : 1 + 1 ≤ _), (by decide : 4 + 42 ≤ _)⟩)
  dsimp only [Pt.U, Pt.locs, Pt.cells, Pt.slots] at X265 l265 y265 z265 st265 hQ265
  rw [l265, y265, z265] at X265
  obtain ⟨h265, e265⟩ : ∃ z, T265.heap = z := ⟨_, rfl⟩
  rw [e265] at hQ265
  obtain ⟨rfl, N265q, K265, B265, kb265, szn265, G265_0, G265_1, G265_2⟩ := hQ265
  have g_B265 : n0 ≤ B265 := Nat.le_trans Z0 szn265
  have sz_B265 : h0.size ≤ B265 := Nat.le_trans KK.1 szn265
  have ne_a1_B265 : a1 ≠ B265 := Nat.ne_of_lt (Nat.lt_of_lt_of_le E_a1.lt szn265)
  have ne_d1_B265 : d1 ≠ B265 := Nat.ne_of_lt (Nat.lt_of_lt_of_le V_d1.lt szn265)
  have ne_b264_B265 : b264 ≠ B265 := Nat.ne_of_lt (Nat.lt_of_lt_of_le E_b264.lt szn265)
  replace SC := own_stakeep SC K265 (nsS (Exa.nostat E_b264) ns0)
  replace E_a1 := E_a1.keep K265
  replace F_coder_a1 := F_coder_a1.keep K265 (ninS ne_a1_b264 nin0)
  replace F_value_a1 := F_value_a1.keep K265 (ninS ne_a1_b264 nin0)
  replace F_count_a1 := F_count_a1.keep K265 (ninS ne_a1_b264 nin0)
  replace V_d1 := V_d1.keep K265 (ninS ne_d1_b264 nin0)
  replace E_b264 := E_b264.keep K265
  replace Z0 := Nat.le_trans Z0 K265.1
  replace KK := KK.trans K265 (allS (Or.inr sz_b264) all0)
  have F_value_b264 : GV Z h265 b264 (.ref B265) := G265_0
  have F_coder_b264 : GC Z h265 b264 (.int 0) := G265_1
  have V_B265 : Arv Z h265 B265 kb265 .byte (42 : Int32) (LB cs) (.int 0) := G265_2
  have N265 := Fr.app N0 N265q
  obtain ⟨fs, hr, hrun, hended, hW, hsame⟩ := X265.leave (v := some (.ref b264)) (fun h => by rw [Bd.returns] at h; cases h)
  refine ⟨_, _, pre0 _ ?_, hrun, hended, _, _, rfl, ?_, ⟨_, rfl⟩, hW, hsame.mono (by decide) (by decide)⟩
  · refine st264 _ ?_
    show SP p e below T264 (mkF m 3 #[.val (.ref a1)] [.ref b264]) _
    refine y_dup X264 hx hby d28_3 rfl ?_
    refine y_aloadN X264 hx hby d28_4 rfl rfl ?_
    refine st265.trans ?_
    show Steps p.tables e below (T265.setTop (mkF m 8 #[.val (.ref a1)] [.ref b264])) _
    jvm_step X265.here [X265.here.top, hx, (hb hby d28_8), X265.method', Bd.returns, Value.isRef, FieldType.isReference]
    first | (intro acts; rw [hr _ acts rfl rfl rfl]) | rw [hr _ _ rfl rfl rfl]
    exact Steps.refl _
  · show QM Z _ _ h0 n0 _ T265.heap _
    rw [e265]
    exact ⟨_, _, _, rfl, N265, KK, sz_b264, sz_B265, E_b264, F_coder_b264, F_value_b264, V_B265⟩
set_option maxRecDepth 65536 in
set_option maxHeartbeats 40000000 in
theorem rm30_43 (l : Launch) (Z : State) (a0 : Array Value) (hw : HW a0 Z) (ws : List Jvm.Cond) (a1 a2 d1 : Addr) (kd : ClassId) (cs : List Int32) (wC : Int32) (h0 : Heap) (n0 : Nat) (Z0 : n0 ≤ h0.size) (SC : SS Z h0 wC) (hz : ¬ wC = 0) (hcs : cs.length = 43) (E_a1 : ES Z h0 a1) (F_value_a1 : GV Z h0 a1 .null) (F_coder_a1 : GC Z h0 a1 (.int 0)) (E_a2 : EB Z h0 a2) (F_coder_a2 : FC Z h0 a2 (.int 0)) (F_value_a2 : FV Z h0 a2 (.ref d1)) (F_count_a2 : FN Z h0 a2 (.int 43)) (V_d1 : Arv Z h0 d1 kd .byte (70 : Int32) (LB cs) (.int 0)) (g_a1 : n0 ≤ a1) (ne_a1_a2 : a1 ≠ a2) (ne_a1_d1 : a1 ≠ d1) :
    MF l mn24 jdk_42_method_150_code 5 none ws (RM 3 1 43 49) #[.ref a1, .ref a2, .null] Z h0 (QW [a1] none (fun h => ∃ d k, h0.size ≤ d ∧ GV Z h a1 (.ref d) ∧ GC Z h a1 (.int 0) ∧ Arv Z h d k .byte (43 : Int32) (LB cs) (.int 0)) h0 n0) := by
  refine MetFree.of_bodySF (plainFor_of_name pn_15) hisR ?_
  intro p e s m args below meth c s₁ Bd hml0 hP hK
  obtain ⟨rfl, hZ, hh⟩ := hP
  have hx := Bd.exec
  have hby := Bd.bytes
  have hml : c.maxLocals = 5 := hml0
  have hown : s.vm.findClass "java/lang/String" = some m.cls := findClass_of_methodNamed Bd.named
  have hnm := (name_of_methodNamed Bd.named Bd.method).1
  have X0 : Stand p l e (RM 3 1 43 49) s m #[.ref a1, .ref a2, .null] below meth c s₁ [] 0 0 := Stand.of_body Bd
  have e0 : s₁.heap = h0 := by rw [← hh, Bd.state]; rfl
  have N0 := Fr.nil n0
  have pre0 : GO p e below (s₁.setTop (mkF m 0 #[.val (.ref a1), .val (.ref a2), .val .null, .unset, .unset] [])) (s₁.setTop (entryFrame m #[.ref a1, .ref a2, .null] 5)) := fun t k => castTop (ef_30z m a1 a2) k
  have KK := Keep.refl h0 [a1]
  obtain ⟨T266, X266, e266, st266⟩ := initO X0 hx hZ hown (ww hw 11 rfl) (ww hw 12 rfl) (ww hw 13 rfl) e0 (g := (mkF m 1 #[.val (.ref a1), .val (.ref a2), .val .null, .unset, .unset] [.ref a1])) rfl (by rw [hml]; rfl) rfl (hb hby d30_1) (by decide) (W := 0) (wz rfl) (by decide)
  obtain ⟨cq267, kq267, q267a, q267b, q267c⟩ := isOf hZ e266 E_a2
  obtain ⟨_, _, ⟨T267, _, _, _⟩, -, X267, ⟨_, hQ267, l267, y267, z267⟩, st267⟩ := X266.virtualBack hx (y := mn8) (z := mn8) hown (mvT hZ (ww hw 175 rfl)) (mvT hZ (ww hw 176 rfl)) (notFace_of_selects (args := #[]) (mvT hZ (ww hw 178 rfl))) (mvT hZ (ww hw 178 rfl)) (mvT hZ (ww hw 177 rfl)) (by decide) (backOf (W := 0) (rm31 l Z a0 hw [] a2 d1 h0 n0 Z0 F_value_a2) hZ (ww hw 179 rfl) (ww hw 65 rfl) (by decide) (by decide)) q267a q267c (g := (mkF m 5 #[.val (.ref a1), .val (.ref a2), .val .null, .unset, .unset] [.ref a2])) rfl (by rw [hml]; rfl) (Steps.refl _) (argsL := []) (rest := []) (lenOf pd_15 rfl) rfl (wz rfl) (hb hby d30_5) (fun _ _ => ⟨rfl, e266, (by decide : 0 + 0 ≤ _), (by decide : 0 + 0 ≤ _)⟩)
  dsimp only [Pt.U, Pt.locs, Pt.cells, Pt.slots] at X267 l267 y267 z267 st267 hQ267
  rw [l267, y267, z267] at X267
  obtain ⟨rfl, N267q, e267⟩ := hQ267
  have N267 := Fr.app N0 N267q
  obtain ⟨cq268, kq268, q268a, q268b, q268c⟩ := isOf hZ e267 E_a2
  obtain ⟨_, _, ⟨T268, _, _, _⟩, -, X268, ⟨_, hQ268, l268, y268, z268⟩, st268⟩ := X267.virtualBack hx (y := mn9) (z := mn10) hown (mvT hZ (ww hw 180 rfl)) (mvT hZ (ww hw 181 rfl)) (own_nf (args := #[]) (mvT hZ (ww hw 101 rfl)) rfl) (mvT hZ (ww hw 183 rfl)) (mvT hZ (ww hw 184 rfl)) (by decide) (backOf (W := 0) (rm32 l Z a0 hw [] a2 (43 : Int32) h0 n0 Z0 E_a2 F_count_a2) hZ (ww hw 185 rfl) (ww hw 57 rfl) (by decide) (by decide)) q268a q268c (g := (mkF m 10 #[.val (.ref a1), .val (.ref a2), .val .null, .val (.ref d1), .unset] [.ref a2])) rfl (by rw [hml]; rfl) (Steps.refl _) (argsL := []) (rest := []) (lenOf pd_3 rfl) rfl (wz rfl) (hb hby d30_10) (fun _ _ => ⟨rfl, e267, (by decide : 0 + 0 ≤ _), (by decide : 0 + 0 ≤ _)⟩)
  dsimp only [Pt.U, Pt.locs, Pt.cells, Pt.slots] at X268 l268 y268 z268 st268 hQ268
  rw [l268, y268, z268] at X268
  obtain ⟨rfl, N268q, e268⟩ := hQ268
  have N268 := Fr.app N267 N268q
  obtain ⟨cq269, kq269, q269a, q269b, q269c⟩ := isOf hZ e268 E_a2
  obtain ⟨_, _, ⟨T269, _, _, _⟩, -, X269, ⟨_, hQ269, l269, y269, z269⟩, st269⟩ := X268.virtualBack hx (y := mn7) (z := mn7) hown (mvT hZ (ww hw 188 rfl)) (mvT hZ (ww hw 158 rfl)) (notFace_of_selects (args := #[]) (mvT hZ (ww hw 160 rfl))) (mvT hZ (ww hw 160 rfl)) (mvT hZ (ww hw 159 rfl)) (by decide) (backOf (W := 0) (rm27 l Z a0 hw [] a2 wC h0 n0 Z0 SC hz F_coder_a2) hZ (ww hw 161 rfl) (ww hw 65 rfl) (by decide) (by decide)) q269a q269c (g := (mkF m 16 #[.val (.ref a1), .val (.ref a2), .val .null, .val (.ref d1), .val (.int 43)] [.ref a2])) rfl (by rw [hml]; rfl) (Steps.refl _) (argsL := []) (rest := []) (lenOf pd_13 rfl) rfl (wz rfl) (hb hby d30_16) (fun _ _ => ⟨rfl, e268, (by decide : 0 + 0 ≤ _), (by decide : 0 + 0 ≤ _)⟩)
  dsimp only [Pt.U, Pt.locs, Pt.cells, Pt.slots] at X269 l269 y269 z269 st269 hQ269
  rw [l269, y269, z269] at X269
  obtain ⟨rfl, N269q, e269⟩ := hQ269
  have N269 := Fr.app N268 N269q
  obtain ⟨T270, h270, X270, e270, W270, st270⟩ := putFN X269 hx hZ hown (ww hw 26 rfl) Via.refl e269 F_coder_a1 E_a1 (Or.inr ⟨(ww hw 27 rfl), rfl, hnm⟩) (ww hw 1 rfl) (ty := .byte) (v' := (.int ((0 : Int32).toInt8.toInt32))) (by decide) rfl (fits_nar_byte _) (g := (mkF m 24 #[.val (.ref a1), .val (.ref a2), .val .null, .val (.ref d1), .val (.int 43)] [.int 0, .ref a1])) rfl rfl (hb hby d30_24)
  replace E_a1 := E_a1.wr W270
  replace F_value_a1 := F_value_a1.other W270 (Or.inr (slot_ne (Or.inr (ww hw 29 rfl)) (Or.inr (ww hw 27 rfl)) (by decide) (t := (.array .byte)) (t' := .byte) (by decide) (by decide)))
  replace F_coder_a1 := F_coder_a1.same W270
  replace E_a2 := E_a2.wr W270
  replace F_coder_a2 := F_coder_a2.other W270 (Or.inl (Ne.symm ne_a1_a2))
  replace F_value_a2 := F_value_a2.other W270 (Or.inl (Ne.symm ne_a1_a2))
  replace F_count_a2 := F_count_a2.other W270 (Or.inl (Ne.symm ne_a1_a2))
  replace V_d1 := V_d1.other W270 (Ne.symm ne_a1_d1)
  replace SC := SC.wr W270
  replace Z0 := Nat.le_trans Z0 (Keep.of_wr W270).1
  replace KK := KK.wr W270 (Or.inl (List.mem_of_getElem? (i := 0) rfl))
  have N270 := Fr.snoc X270 N269 g_a1
  obtain ⟨_, _, ⟨T271, _, _, _⟩, -, X271, ⟨_, hQ271, l271, y271, z271⟩, st271⟩ := Jvm.LawKit.callS X270 hx (y := mn14) hown (mvT hZ (ww hw 189 rfl)) (mvT hZ (ww hw 190 rfl)) (mvT hZ (ww hw 120 rfl)) (mvT hZ (ww hw 191 rfl)) (by decide) (backOf (W := 1) (rm34_43 l Z a0 hw [] d1 kd cs h270 n0 Z0 hcs V_d1) hZ (ww hw 191 rfl) (ww hw 120 rfl) (by decide) (by decide)) (g := (mkF m 32 #[.val (.ref a1), .val (.ref a2), .val .null, .val (.ref d1), .val (.int 43)] [.int 43, .int 0, .ref d1, .ref a1])) rfl (by rw [hml]; rfl) (argsL := [.ref d1, .int 0, .int 43]) (rest := [.ref a1]) (lenOf pd_5 rfl) rfl (wz rfl) (hb hby d30_32) (fun _ _ => ⟨rfl, e270, (by decide : 0 + 1 ≤ _), (by decide : 0 + 43 ≤ _)⟩)
  dsimp only [Pt.U, Pt.locs, Pt.cells, Pt.slots] at X271 l271 y271 z271 st271 hQ271
  rw [l271, y271, z271] at X271
  obtain ⟨h271, e271⟩ : ∃ z, T271.heap = z := ⟨_, rfl⟩
  rw [e271] at hQ271
  obtain ⟨B271, rfl, N271q, K271, szn271, kb271, G271⟩ := hQ271
  have g_B271 : n0 ≤ B271 := Nat.le_trans Z0 szn271
  have sz_B271 : h0.size ≤ B271 := Nat.le_trans KK.1 szn271
  have ne_a1_B271 : a1 ≠ B271 := Nat.ne_of_lt (Nat.lt_of_lt_of_le E_a1.lt szn271)
  have ne_a2_B271 : a2 ≠ B271 := Nat.ne_of_lt (Nat.lt_of_lt_of_le E_a2.lt szn271)
  have ne_d1_B271 : d1 ≠ B271 := Nat.ne_of_lt (Nat.lt_of_lt_of_le V_d1.lt szn271)
  replace SC := own_stakeep SC K271 ns0
  replace E_a1 := E_a1.keep K271
  replace F_value_a1 := F_value_a1.keep K271 nin0
  replace F_coder_a1 := F_coder_a1.keep K271 nin0
  replace E_a2 := E_a2.keep K271
  replace F_coder_a2 := F_coder_a2.keep K271 nin0
  replace F_value_a2 := F_value_a2.keep K271 nin0
  replace F_count_a2 := F_count_a2.keep K271 nin0
  replace V_d1 := V_d1.keep K271 nin0
  replace Z0 := Nat.le_trans Z0 K271.1
  replace KK := KK.trans K271 all0
  have V_B271 : Arv Z h271 B271 kb271 .byte (43 : Int32) (LB cs) (.int 0) := G271
  have N271 := Fr.app N270 N271q
  obtain ⟨T272, h272, X272, e272, W272, st272⟩ := putF X271 hx hZ hown (host := "") (Or.inl (ww hw 28 rfl)) Via.refl e271 F_value_a1 E_a1 (Or.inr ⟨(ww hw 29 rfl), rfl, hnm⟩) (ww hw 1 rfl) (ty := (.array .byte)) (by decide) rfl rfl (g := (mkF m 35 #[.val (.ref a1), .val (.ref a2), .val .null, .val (.ref d1), .val (.int 43)] [.ref B271, .ref a1])) rfl rfl (hb hby d30_35)
  replace E_a1 := E_a1.wr W272
  replace F_value_a1 := F_value_a1.same W272
  replace F_coder_a1 := F_coder_a1.other W272 (Or.inr (slot_ne (Or.inr (ww hw 27 rfl)) (Or.inr (ww hw 29 rfl)) (by decide) (t := .byte) (t' := (.array .byte)) (by decide) (by decide)))
  replace E_a2 := E_a2.wr W272
  replace F_coder_a2 := F_coder_a2.other W272 (Or.inl (Ne.symm ne_a1_a2))
  replace F_value_a2 := F_value_a2.other W272 (Or.inl (Ne.symm ne_a1_a2))
  replace F_count_a2 := F_count_a2.other W272 (Or.inl (Ne.symm ne_a1_a2))
  replace V_d1 := V_d1.other W272 (Ne.symm ne_a1_d1)
  replace SC := SC.wr W272
  replace V_B271 := V_B271.other W272 (Ne.symm ne_a1_B271)
  replace Z0 := Nat.le_trans Z0 (Keep.of_wr W272).1
  replace KK := KK.wr W272 (Or.inl (List.mem_of_getElem? (i := 0) rfl))
  have N272 := Fr.snoc X272 N271 g_a1
  obtain ⟨fs, hr, hrun, hended, hW, hsame⟩ := X272.leave (v := none) (fun _ => rfl)
  refine ⟨_, _, pre0 _ ?_, hrun, hended, _, _, rfl, ?_, ⟨_, rfl⟩, hW, hsame.mono (by decide) (by decide)⟩
  · refine y_aloadN X0 hx hby d30_0 rfl rfl ?_
    refine st266 _ ?_
    show SP p e below T266 (mkF m 4 #[.val (.ref a1), .val (.ref a2), .val .null, .unset, .unset] []) _
    refine y_aloadN X266 hx hby d30_4 rfl rfl ?_
    refine st267.trans ?_
    show SP p e below T267 (mkF m 8 #[.val (.ref a1), .val (.ref a2), .val .null, .unset, .unset] [.ref d1]) _
    refine y_astoreN X267 hx hby d30_8 rfl (l' := #[.val (.ref a1), .val (.ref a2), .val .null, .val (.ref d1), .unset]) rfl ?_
    refine y_aloadN X267 hx hby d30_9 rfl rfl ?_
    refine st268.trans ?_
    show SP p e below T268 (mkF m 13 #[.val (.ref a1), .val (.ref a2), .val .null, .val (.ref d1), .unset] [.int 43]) _
    refine y_istore X268 hx hby d30_13 (l' := #[.val (.ref a1), .val (.ref a2), .val .null, .val (.ref d1), .val (.int 43)]) rfl ?_
    refine y_aloadN X268 hx hby d30_15 rfl rfl ?_
    refine st269.trans ?_
    show SP p e below T269 (mkF m 19 #[.val (.ref a1), .val (.ref a2), .val .null, .val (.ref d1), .val (.int 43)] [.int 1]) _
    refine y_ifNo X269 hx hby d30_19 ((if0 _ _).trans (feq (by decide)).1) ?_
    refine y_aloadN X269 hx hby d30_22 rfl rfl ?_
    refine y_iconst X269 hx hby (v := (0 : Int32)) d30_23 rfl ?_
    refine st270 _ ?_
    show SP p e below T270 (mkF m 27 #[.val (.ref a1), .val (.ref a2), .val .null, .val (.ref d1), .val (.int 43)] []) _
    refine y_aloadN X270 hx hby d30_27 rfl rfl ?_
    refine y_aloadN X270 hx hby d30_28 rfl rfl ?_
    refine y_iconst X270 hx hby (v := (0 : Int32)) d30_29 rfl ?_
    refine y_iload X270 hx hby d30_30 rfl ?_
    refine st271 _ ?_
    show SP p e below T271 (mkF m 35 #[.val (.ref a1), .val (.ref a2), .val .null, .val (.ref d1), .val (.int 43)] [.ref B271, .ref a1]) _
    refine st272 _ ?_
    show SP p e below T272 (mkF m 38 #[.val (.ref a1), .val (.ref a2), .val .null, .val (.ref d1), .val (.int 43)] []) _
    refine y_goto X272 hx hby (pc' := 97) d30_38 (by decide) (by decide) ?_
    show Steps p.tables e below (T272.setTop (mkF m 97 #[.val (.ref a1), .val (.ref a2), .val .null, .val (.ref d1), .val (.int 43)] [])) _
    exact X272.returnOut hx Bd.returns (hb hby d30_97) hr
  · show QW _ _ _ h0 n0 _ T272.heap _
    rw [e272]
    rw [show ((0 : Int32).toInt8.toInt32) = 0 from by decide] at F_coder_a1
    exact ⟨rfl, N272, KK, _, _, sz_B271, F_value_a1, F_coder_a1, V_B271⟩
set_option maxRecDepth 65536 in
set_option maxHeartbeats 40000000 in
theorem rm29_43 (l : Launch) (Z : State) (a0 : Array Value) (hw : HW a0 Z) (ws : List Jvm.Cond) (a1 a2 d1 : Addr) (kd : ClassId) (cs : List Int32) (wC : Int32) (h0 : Heap) (n0 : Nat) (Z0 : n0 ≤ h0.size) (SC : SS Z h0 wC) (hz : ¬ wC = 0) (hcs : cs.length = 43) (E_a1 : ES Z h0 a1) (F_value_a1 : GV Z h0 a1 .null) (F_coder_a1 : GC Z h0 a1 (.int 0)) (E_a2 : EB Z h0 a2) (F_coder_a2 : FC Z h0 a2 (.int 0)) (F_value_a2 : FV Z h0 a2 (.ref d1)) (F_count_a2 : FN Z h0 a2 (.int 43)) (V_d1 : Arv Z h0 d1 kd .byte (70 : Int32) (LB cs) (.int 0)) (g_a1 : n0 ≤ a1) (ne_a1_a2 : a1 ≠ a2) (ne_a1_d1 : a1 ≠ d1) :
    MF l mn25 jdk_42_method_53_code 2 none ws (RM 4 1 43 65) #[.ref a1, .ref a2] Z h0 (QW [a1] none (fun h => ∃ d k, h0.size ≤ d ∧ GV Z h a1 (.ref d) ∧ GC Z h a1 (.int 0) ∧ Arv Z h d k .byte (43 : Int32) (LB cs) (.int 0)) h0 n0) := by
  refine MetFree.of_bodySF (plainFor_of_name pn_15) hisR ?_
  intro p e s m args below meth c s₁ Bd hml0 hP hK
  obtain ⟨rfl, hZ, hh⟩ := hP
  have hx := Bd.exec
  have hby := Bd.bytes
  have hml : c.maxLocals = 2 := hml0
  have hown : s.vm.findClass "java/lang/String" = some m.cls := findClass_of_methodNamed Bd.named
  have hnm := (name_of_methodNamed Bd.named Bd.method).1
  have X0 : Stand p l e (RM 4 1 43 65) s m #[.ref a1, .ref a2] below meth c s₁ [] 0 0 := Stand.of_body Bd
  have e0 : s₁.heap = h0 := by rw [← hh, Bd.state]; rfl
  have N0 := Fr.nil n0
  have pre0 : GO p e below (s₁.setTop (mkF m 0 #[.val (.ref a1), .val (.ref a2)] [])) (s₁.setTop (entryFrame m #[.ref a1, .ref a2] 2)) := fun t k => castTop (ef_29 m a1 a2) k
  have KK := Keep.refl h0 [a1]
  obtain ⟨_, _, ⟨T273, _, _, _⟩, -, X273, ⟨_, hQ273, l273, y273, z273⟩, st273⟩ := X0.specialBack hx (y := mn24) rfl hown (mvT hZ (ww hw 172 rfl)) (mvT hZ (ww hw 173 rfl)) (mvT hZ (ww hw 174 rfl)) (by decide) (backOf (W := 0) (rm30_43 l Z a0 hw [] a1 a2 d1 kd cs wC h0 n0 Z0 SC hz hcs E_a1 F_value_a1 F_coder_a1 E_a2 F_coder_a2 F_value_a2 F_count_a2 V_d1 g_a1 ne_a1_a2 ne_a1_d1) hZ (ww hw 174 rfl) (ww hw 2 rfl) (by decide) (by decide)) (g := (mkF m 3 #[.val (.ref a1), .val (.ref a2)] [.null, .ref a2, .ref a1])) rfl (by rw [hml]; rfl) (Steps.refl _) (a := a1) (argsL := [.ref a2, .null]) (rest := []) (lenOf pd_16 rfl) rfl (wz rfl) (hb hby d29_3) (fun _ _ => ⟨rfl, e0, (by decide : 0 + 1 ≤ _), (by decide : 0 + 43 ≤ _)⟩)
  dsimp only [Pt.U, Pt.locs, Pt.cells, Pt.slots] at X273 l273 y273 z273 st273 hQ273
  rw [l273, y273, z273] at X273
  obtain ⟨h273, e273⟩ : ∃ z, T273.heap = z := ⟨_, rfl⟩
  rw [e273] at hQ273
  obtain ⟨rfl, N273q, K273, B273, kb273, szn273, G273_0, G273_1, G273_2⟩ := hQ273
  have g_B273 : n0 ≤ B273 := Nat.le_trans Z0 szn273
  have sz_B273 : h0.size ≤ B273 := Nat.le_trans KK.1 szn273
  have ne_a1_B273 : a1 ≠ B273 := Nat.ne_of_lt (Nat.lt_of_lt_of_le E_a1.lt szn273)
  have ne_a2_B273 : a2 ≠ B273 := Nat.ne_of_lt (Nat.lt_of_lt_of_le E_a2.lt szn273)
  have ne_d1_B273 : d1 ≠ B273 := Nat.ne_of_lt (Nat.lt_of_lt_of_le V_d1.lt szn273)
  replace SC := own_stakeep SC K273 (nsS (Exa.nostat E_a1) ns0)
  replace E_a1 := E_a1.keep K273
  replace E_a2 := E_a2.keep K273
  replace F_coder_a2 := F_coder_a2.keep K273 (ninS (Ne.symm ne_a1_a2) nin0)
  replace F_value_a2 := F_value_a2.keep K273 (ninS (Ne.symm ne_a1_a2) nin0)
  replace F_count_a2 := F_count_a2.keep K273 (ninS (Ne.symm ne_a1_a2) nin0)
  replace V_d1 := V_d1.keep K273 (ninS (Ne.symm ne_a1_d1) nin0)
  replace Z0 := Nat.le_trans Z0 K273.1
  replace KK := KK.trans K273 (allS (Or.inl (List.mem_of_getElem? (i := 0) rfl)) all0)
  have F_value_a1 : GV Z h273 a1 (.ref B273) := G273_0
  have F_coder_a1 : GC Z h273 a1 (.int 0) := G273_1
  have V_B273 : Arv Z h273 B273 kb273 .byte (43 : Int32) (LB cs) (.int 0) := G273_2
  have N273 := Fr.app N0 N273q
  obtain ⟨fs, hr, hrun, hended, hW, hsame⟩ := X273.leave (v := none) (fun _ => rfl)
  refine ⟨_, _, pre0 _ ?_, hrun, hended, _, _, rfl, ?_, ⟨_, rfl⟩, hW, hsame.mono (by decide) (by decide)⟩
  · refine y_aloadN X0 hx hby d29_0 rfl rfl ?_
    refine y_aloadN X0 hx hby d29_1 rfl rfl ?_
    refine y_aconstNull X0 hx hby d29_2 ?_
    refine st273.trans ?_
    show Steps p.tables e below (T273.setTop (mkF m 6 #[.val (.ref a1), .val (.ref a2)] [])) _
    exact X273.returnOut hx Bd.returns (hb hby d29_6) hr
  · show QW _ _ _ h0 n0 _ T273.heap _
    rw [e273]
    exact ⟨rfl, N273, KK, _, _, sz_B273, F_value_a1, F_coder_a1, V_B273⟩
set_option maxRecDepth 65536 in
set_option maxHeartbeats 40000000 in
theorem rm28_43 (l : Launch) (Z : State) (a0 : Array Value) (hw : HW a0 Z) (ws : List Jvm.Cond) (a1 d1 : Addr) (kd : ClassId) (cs : List Int32) (wC : Int32) (h0 : Heap) (n0 : Nat) (Z0 : n0 ≤ h0.size) (SC : SS Z h0 wC) (hz : ¬ wC = 0) (hcs : cs.length = 43) (E_a1 : EB Z h0 a1) (F_coder_a1 : FC Z h0 a1 (.int 0)) (F_value_a1 : FV Z h0 a1 (.ref d1)) (F_count_a1 : FN Z h0 a1 (.int 43)) (V_d1 : Arv Z h0 d1 kd .byte (70 : Int32) (LB cs) (.int 0)) :
    MF l mn26 jdk_67_method_42_code 1 (some (.object "java/lang/String")) ws (RM 5 2 47 79) #[.ref a1] Z h0 (QM Z cs (43 : Int32) h0 n0) := by
  refine MetFree.of_bodySF (plainFor_of_name pn_32) hisR ?_
  intro p e s m args below meth c s₁ Bd hml0 hP hK
  obtain ⟨rfl, hZ, hh⟩ := hP
  have hx := Bd.exec
  have hby := Bd.bytes
  have hml : c.maxLocals = 1 := hml0
  have hown : s.vm.findClass "java/lang/StringBuilder" = some m.cls := findClass_of_methodNamed Bd.named
  have hnm := (name_of_methodNamed Bd.named Bd.method).1
  have X0 : Stand p l e (RM 5 2 47 79) s m #[.ref a1] below meth c s₁ [] 0 0 := Stand.of_body Bd
  have e0 : s₁.heap = h0 := by rw [← hh, Bd.state]; rfl
  have N0 := Fr.nil n0
  have pre0 : GO p e below (s₁.setTop (mkF m 0 #[.val (.ref a1)] [])) (s₁.setTop (entryFrame m #[.ref a1] 1)) := fun t k => castTop (ef_28 m a1) k
  have KK := Keep.refl h0 []
  obtain ⟨T274, h274, X274, e274, E274, A274, D274, -, st274⟩ := newO X0 hx hZ hown (ww hw 168 rfl) (ww hw 1 rfl) (ww hw 2 rfl) e0 (g := (mkF m 0 #[.val (.ref a1)] [])) rfl (hb hby d28_0) (by decide) (by decide)
  obtain ⟨b274, g274⟩ : ∃ z, z = h0.size := ⟨_, rfl⟩
  rw [← g274] at A274 D274 st274
  have g_b274 : n0 ≤ b274 := Nat.le_trans Z0 (Nat.le_of_eq g274.symm)
  have sz_b274 : h0.size ≤ b274 := Nat.le_trans KK.1 (Nat.le_of_eq g274.symm)
  have ne_a1_b274 : a1 ≠ b274 := Nat.ne_of_lt (Nat.lt_of_lt_of_le E_a1.lt (Nat.le_of_eq g274.symm))
  have ne_d1_b274 : d1 ≠ b274 := Nat.ne_of_lt (Nat.lt_of_lt_of_le V_d1.lt (Nat.le_of_eq g274.symm))
  replace E_a1 := E_a1.ext E274
  replace F_coder_a1 := F_coder_a1.ext E274
  replace F_value_a1 := F_value_a1.ext E274
  replace F_count_a1 := F_count_a1.ext E274
  replace V_d1 := V_d1.ext E274
  replace SC := SC.ext E274
  replace Z0 := Nat.le_trans Z0 E274.1
  replace KK := KK.ext E274
  have E_b274 := A274
  have F_coder_b274 : GC Z h274 b274 (.int 0) := D274 (Or.inr (ww hw 27 rfl)) (ty := .byte) (by decide)
  have F_value_b274 : GV Z h274 b274 .null := D274 (Or.inr (ww hw 29 rfl)) (ty := (.array .byte)) (by decide)
  obtain ⟨_, _, ⟨T275, _, _, _⟩, -, X275, ⟨_, hQ275, l275, y275, z275⟩, st275⟩ := X274.specialBack hx (y := mn25) rfl hown (mvT hZ (ww hw 169 rfl)) (mvT hZ (ww hw 170 rfl)) (mvT hZ (ww hw 171 rfl)) (by decide) (backOf (W := 1) (rm29_43 l Z a0 hw [] b274 a1 d1 kd cs wC h274 n0 Z0 SC hz hcs E_b274 F_value_b274 F_coder_b274 E_a1 F_coder_a1 F_value_a1 F_count_a1 V_d1 g_b274 (Ne.symm ne_a1_b274) (Ne.symm ne_d1_b274)) hZ (ww hw 171 rfl) (ww hw 2 rfl) (by decide) (by decide)) (g := (mkF m 5 #[.val (.ref a1)] [.ref a1, .ref b274, .ref b274])) rfl (by rw [hml]; rfl) (Steps.refl _) (a := b274) (argsL := [.ref a1]) (rest := [.ref b274]) (lenOf pd_17 rfl) rfl (wz rfl) (hb hby d28_5) (fun _ _ => ⟨rfl, e274, (by decide : 1 + 1 ≤ _), (by decide : 4 + 43 ≤ _)⟩)
  dsimp only [Pt.U, Pt.locs, Pt.cells, Pt.slots] at X275 l275 y275 z275 st275 hQ275
  rw [l275, y275, z275] at X275
  obtain ⟨h275, e275⟩ : ∃ z, T275.heap = z := ⟨_, rfl⟩
  rw [e275] at hQ275
  obtain ⟨rfl, N275q, K275, B275, kb275, szn275, G275_0, G275_1, G275_2⟩ := hQ275
  have g_B275 : n0 ≤ B275 := Nat.le_trans Z0 szn275
  have sz_B275 : h0.size ≤ B275 := Nat.le_trans KK.1 szn275
  have ne_a1_B275 : a1 ≠ B275 := Nat.ne_of_lt (Nat.lt_of_lt_of_le E_a1.lt szn275)
  have ne_d1_B275 : d1 ≠ B275 := Nat.ne_of_lt (Nat.lt_of_lt_of_le V_d1.lt szn275)
  have ne_b274_B275 : b274 ≠ B275 := Nat.ne_of_lt (Nat.lt_of_lt_of_le E_b274.lt szn275)
  replace SC := own_stakeep SC K275 (nsS (Exa.nostat E_b274) ns0)
  replace E_a1 := E_a1.keep K275
  replace F_coder_a1 := F_coder_a1.keep K275 (ninS ne_a1_b274 nin0)
  replace F_value_a1 := F_value_a1.keep K275 (ninS ne_a1_b274 nin0)
  replace F_count_a1 := F_count_a1.keep K275 (ninS ne_a1_b274 nin0)
  replace V_d1 := V_d1.keep K275 (ninS ne_d1_b274 nin0)
  replace E_b274 := E_b274.keep K275
  replace Z0 := Nat.le_trans Z0 K275.1
  replace KK := KK.trans K275 (allS (Or.inr sz_b274) all0)
  have F_value_b274 : GV Z h275 b274 (.ref B275) := G275_0
  have F_coder_b274 : GC Z h275 b274 (.int 0) := G275_1
  have V_B275 : Arv Z h275 B275 kb275 .byte (43 : Int32) (LB cs) (.int 0) := G275_2
  have N275 := Fr.app N0 N275q
  obtain ⟨fs, hr, hrun, hended, hW, hsame⟩ := X275.leave (v := some (.ref b274)) (fun h => by rw [Bd.returns] at h; cases h)
  refine ⟨_, _, pre0 _ ?_, hrun, hended, _, _, rfl, ?_, ⟨_, rfl⟩, hW, hsame.mono (by decide) (by decide)⟩
  · refine st274 _ ?_
    show SP p e below T274 (mkF m 3 #[.val (.ref a1)] [.ref b274]) _
    refine y_dup X274 hx hby d28_3 rfl ?_
    refine y_aloadN X274 hx hby d28_4 rfl rfl ?_
    refine st275.trans ?_
    show Steps p.tables e below (T275.setTop (mkF m 8 #[.val (.ref a1)] [.ref b274])) _
    jvm_step X275.here [X275.here.top, hx, (hb hby d28_8), X275.method', Bd.returns, Value.isRef, FieldType.isReference]
    first | (intro acts; rw [hr _ acts rfl rfl rfl]) | rw [hr _ _ rfl rfl rfl]
    exact Steps.refl _
  · show QM Z _ _ h0 n0 _ T275.heap _
    rw [e275]
    exact ⟨_, _, _, rfl, N275, KK, sz_b274, sz_B275, E_b274, F_coder_b274, F_value_b274, V_B275⟩
abbrev P1 : List Int32 := [80, 114, 111, 98, 101, 83, 101, 116, 116, 105, 110, 103, 115, 91, 110, 97, 109, 101, 61]
abbrev P2 : List Int32 := [44, 32, 99, 105, 116, 121, 61]
abbrev P3 : List Int32 := [44, 32, 105, 112, 118, 54, 61]
abbrev P4 : List Int32 := [93]
theorem own_sfnew {Z : State} {EL : List (String × Nat)} {vm vm1 : Vm} {h h1 : Heap} {x : Addr} (H : CHr Z EL vm h vm1 h1) (le : h1.size ≤ x) : Safe Z EL vm1 h1 x := Safe.new le
abbrev MFH (l : Launch) (y : MethodName) (bytes : ByteArray) (maxL : Nat) (ret : Option FieldType) (ws : List Jvm.Cond) (rm : Room) (as' : Array Value) (Z : State) (h0 : Heap) (Q : Option Value → Heap → List Loc → Prop) : Prop := MetFree l y (head1 (Jvm.Cond.code y bytes maxL ret :: ws) rm) (fun a U => a = as' ∧ Z.Warmed39 U.vm ∧ U.heap = h0 ∧ CHv Z consts_1 U.vm h0) (fun _ _ _ _ _ => True) (fun _ U o U' => ∃ v L, o = .returned v ∧ Q v U'.heap L ∧ CHr Z consts_1 U.vm U.heap U'.vm U'.heap ∧ ReturnedEndW U o U' L rm.cells rm.slots)
abbrev MFC (l : Launch) (y : MethodName) (bytes : ByteArray) (maxL : Nat) (ret : Option FieldType) (ws : List Jvm.Cond) (rm : Room) (as' : Array Value) (Z : State) (h0 : Heap) (Q : Option Value → Heap → List Loc → Prop) : Prop := MetFree l y (head1 (Jvm.Cond.code y bytes maxL ret :: ws) rm) (fun a U => a = as' ∧ Z.Warmed39 U.vm ∧ U.heap = h0 ∧ CHv Z consts_1 U.vm h0) (fun _ _ _ _ _ => True) (fun _ U o U' => ∃ v L, o = .returned v ∧ Q v U'.heap L ∧ ReturnedEndW U o U' L rm.cells rm.slots)
theorem own_EW {Z : State} {a0 : Array Value} (hw : HW a0 Z) : EW Z a0 consts_1 := EW.cons (ww hw 73 rfl) (by decide) (EW.cons (ww hw 146 rfl) (by decide) (EW.cons (ww hw 147 rfl) (by decide) (EW.cons (ww hw 162 rfl) (by decide) (EW.nil))))
abbrev cd9 := prog_20_method_3_code
theorem d9_0 : DD cd9 0 (.new 29) 3 := by decide +kernel
theorem d9_3 : DD cd9 3 (.dup) 1 := by decide +kernel
theorem d9_4 : DD cd9 4 (.invokespecial 31) 3 := by decide +kernel
theorem pd_18 : parseMethodDescriptor "()V" = some ⟨[], none⟩ := by decide +kernel
theorem d9_7 : DD cd9 7 (.ldc 32) 2 := by decide +kernel
theorem d9_9 : DD cd9 9 (.invokevirtual 34) 3 := by decide +kernel
theorem pd_19 : parseMethodDescriptor "(Ljava/lang/String;)Ljava/lang/StringBuilder;" = some ⟨[(.object "java/lang/String")], some (.object "java/lang/StringBuilder")⟩ := by decide +kernel
theorem d9_12 : DD cd9 12 (.aload_n 0) 1 := by decide +kernel
theorem d9_13 : DD cd9 13 (.getfield 7) 3 := by decide +kernel
theorem d9_16 : DD cd9 16 (.invokevirtual 34) 3 := by decide +kernel
theorem d9_19 : DD cd9 19 (.ldc 38) 2 := by decide +kernel
theorem d9_21 : DD cd9 21 (.invokevirtual 34) 3 := by decide +kernel
theorem d9_24 : DD cd9 24 (.aload_n 0) 1 := by decide +kernel
theorem d9_25 : DD cd9 25 (.getfield 13) 3 := by decide +kernel
theorem d9_28 : DD cd9 28 (.invokevirtual 34) 3 := by decide +kernel
theorem d9_31 : DD cd9 31 (.ldc 40) 2 := by decide +kernel
theorem d9_33 : DD cd9 33 (.invokevirtual 34) 3 := by decide +kernel
theorem d9_36 : DD cd9 36 (.aload_n 0) 1 := by decide +kernel
theorem d9_37 : DD cd9 37 (.getfield 19) 3 := by decide +kernel
theorem d9_40 : DD cd9 40 (.invokevirtual 42) 3 := by decide +kernel
theorem pd_20 : parseMethodDescriptor "(Z)Ljava/lang/StringBuilder;" = some ⟨[.boolean], some (.object "java/lang/StringBuilder")⟩ := by decide +kernel
theorem d9_43 : DD cd9 43 (.ldc 45) 2 := by decide +kernel
theorem d9_45 : DD cd9 45 (.invokevirtual 34) 3 := by decide +kernel
theorem d9_48 : DD cd9 48 (.invokevirtual 47) 3 := by decide +kernel
theorem pd_21 : parseMethodDescriptor "()Ljava/lang/String;" = some ⟨[], some (.object "java/lang/String")⟩ := by decide +kernel
theorem d9_51 : DD cd9 51 (.areturn) 1 := by decide +kernel
abbrev mn27 : MethodName := ⟨"com/example/assay/assay/config/ProbeSettings", "toString", "()Ljava/lang/String;"⟩
theorem pn_9 : plainName "com/example/assay/assay/config/ProbeSettings" = true := by first | (simp [plainName, overriddenIn]; done) | decide +kernel
theorem ef_9 (m : MethodId) (x0 : Addr) : entryFrame m #[.ref x0] 1 = mkF m 0 #[.val (.ref x0)] [] := by first | (simp [entryFrame, mkF, argsToLocals, Value.category]; done) | rfl
set_option maxRecDepth 65536 in
set_option maxHeartbeats 40000000 in
theorem rm9_1 (l : Launch) (Z : State) (a0 : Array Value) (hw : HW a0 Z) (ws : List Jvm.Cond) (a1 s1 t1 : Addr) (k1 : ClassId) (s2 t2 : Addr) (k2 : ClassId) (c1 c2 c3 c4 wC : Int32) (h0 : Heap) (n0 : Nat) (Z0 : n0 ≤ h0.size) (SC : SS Z h0 wC) (hz : ¬ wC = 0) (F_name_a1 : Fld Z h0 a1 "com/example/assay/assay/config/ProbeSettings" "name" "Ljava/lang/String;" (.ref s1)) (F_city_a1 : Fld Z h0 a1 "com/example/assay/assay/config/ProbeSettings" "city" "Ljava/lang/String;" (.ref s2)) (F_ipv6_a1 : Fld Z h0 a1 "com/example/assay/assay/config/ProbeSettings" "ipv6" "Z" (.int 1)) (E_s1 : ES Z h0 s1) (F_coder_s1 : GC Z h0 s1 (.int 0)) (F_value_s1 : GV Z h0 s1 (.ref t1)) (V_t1 : Arv Z h0 t1 k1 .byte (2 : Int32) (LB ([c1, c2] : List Int32)) (.int 0)) (E_s2 : ES Z h0 s2) (F_coder_s2 : GC Z h0 s2 (.int 0)) (F_value_s2 : GV Z h0 s2 (.ref t2)) (V_t2 : Arv Z h0 t2 k2 .byte (2 : Int32) (LB ([c3, c4] : List Int32)) (.int 0)) :
    MFH l mn27 prog_20_method_3_code 1 (some (.object "java/lang/String")) ws (RM 6 14 322 91) #[.ref a1] Z h0 (QM Z ((((((((((([] : List Int32) ++ P1) ++ ([c1, c2] : List Int32)) ++ P2) ++ ([c3, c4] : List Int32)) ++ P3) ++ [(116 : Int32)]) ++ [(114 : Int32)]) ++ [(117 : Int32)]) ++ [(101 : Int32)]) ++ P4) (42 : Int32) h0 n0) := by
  refine MetFree.of_bodySF (plainFor_of_name pn_9) hisR ?_
  intro p e s m args below meth c s₁ Bd hml0 hP hK
  obtain ⟨rfl, hZ, hh, hCH⟩ := hP
  have hx := Bd.exec
  have hby := Bd.bytes
  have hml : c.maxLocals = 1 := hml0
  have hown : s.vm.findClass "com/example/assay/assay/config/ProbeSettings" = some m.cls := findClass_of_methodNamed Bd.named
  have hnm := (name_of_methodNamed Bd.named Bd.method).1
  have X0 : Stand p l e (RM 6 14 322 91) (s.setVm s.vm) m #[.ref a1] below meth c s₁ [] 0 0 := Stand.of_body Bd
  have e0 : s₁.heap = h0 := by rw [← hh, Bd.state]; rfl
  have N0 := Fr.nil n0
  have pre0 : GO p e below (s₁.setTop (mkF m 0 #[.val (.ref a1)] [])) (s₁.setTop (entryFrame m #[.ref a1] 1)) := fun t k => castTop (ef_9 m a1) k
  have KK := Keep.refl h0 []
  have hS := (State.WarmedH.refl s).since 0
  have hk : 0 ≤ h0.size := Nat.zero_le _
  have wS : ∀ d ∈ Bundle.stringAtoms, d.before a0 Z = true := fun d hd => hw d ((by decide +kernel : ∀ d ∈ Bundle.stringAtoms, d ∈ tables_1) d hd)
  have hEL := own_EW hw
  have hCR := CHr.refl hCH
  obtain ⟨T276, h276, X276, e276, E276, A276, D276, -, st276⟩ := newO X0 hx hZ hown (ww hw 55 rfl) (ww hw 56 rfl) (ww hw 57 rfl) e0 (g := (mkF m 0 #[.val (.ref a1)] [])) rfl (hb hby d9_0) (by decide) (by decide)
  obtain ⟨b276, g276⟩ : ∃ z, z = h0.size := ⟨_, rfl⟩
  rw [← g276] at A276 D276 st276
  have g_b276 : n0 ≤ b276 := Nat.le_trans Z0 (Nat.le_of_eq g276.symm)
  have sz_b276 : h0.size ≤ b276 := Nat.le_trans KK.1 (Nat.le_of_eq g276.symm)
  have ne_a1_b276 : a1 ≠ b276 := Nat.ne_of_lt (Nat.lt_of_lt_of_le F_name_a1.lt (Nat.le_of_eq g276.symm))
  have ne_s1_b276 : s1 ≠ b276 := Nat.ne_of_lt (Nat.lt_of_lt_of_le E_s1.lt (Nat.le_of_eq g276.symm))
  have ne_t1_b276 : t1 ≠ b276 := Nat.ne_of_lt (Nat.lt_of_lt_of_le V_t1.lt (Nat.le_of_eq g276.symm))
  have ne_s2_b276 : s2 ≠ b276 := Nat.ne_of_lt (Nat.lt_of_lt_of_le E_s2.lt (Nat.le_of_eq g276.symm))
  have ne_t2_b276 : t2 ≠ b276 := Nat.ne_of_lt (Nat.lt_of_lt_of_le V_t2.lt (Nat.le_of_eq g276.symm))
  have Sf_b276 := own_sfnew hCR (Nat.le_of_eq g276.symm)
  replace Sf_b276 := Safe.ext E276 hCR.1 Sf_b276
  replace hCR := hCR.trans (CHr.ext E276 hCR.1)
  replace F_name_a1 := F_name_a1.ext E276
  replace F_city_a1 := F_city_a1.ext E276
  replace F_ipv6_a1 := F_ipv6_a1.ext E276
  replace E_s1 := E_s1.ext E276
  replace F_coder_s1 := F_coder_s1.ext E276
  replace F_value_s1 := F_value_s1.ext E276
  replace V_t1 := V_t1.ext E276
  replace E_s2 := E_s2.ext E276
  replace F_coder_s2 := F_coder_s2.ext E276
  replace F_value_s2 := F_value_s2.ext E276
  replace V_t2 := V_t2.ext E276
  replace SC := SC.ext E276
  replace Z0 := Nat.le_trans Z0 E276.1
  replace hk := Nat.le_trans hk E276.1
  replace KK := KK.ext E276
  have E_b276 := A276
  have F_value_b276 : FV Z h276 b276 .null := D276 (Or.inl (ww hw 70 rfl)) (ty := (.array .byte)) (by decide)
  have F_coder_b276 : FC Z h276 b276 (.int 0) := D276 (Or.inl (ww hw 72 rfl)) (ty := .byte) (by decide)
  have F_count_b276 : FN Z h276 b276 (.int 0) := D276 (Or.inl (ww hw 97 rfl)) (ty := .int) (by decide)
  obtain ⟨_, _, ⟨T277, _, _, _⟩, -, X277, ⟨_, hQ277, l277, y277, z277⟩, st277⟩ := X276.specialBack hx (y := mn23) rfl hown (mvT hZ (ww hw 58 rfl)) (mvT hZ (ww hw 59 rfl)) (mvT hZ (ww hw 60 rfl)) (by decide) (backOf (W := 1) (rm10 l Z a0 hw [] b276 wC h276 n0 Z0 SC hz E_b276 F_value_b276 F_coder_b276 F_count_b276 g_b276) hZ (ww hw 60 rfl) (ww hw 57 rfl) (by decide) (by decide)) (g := (mkF m 4 #[.val (.ref a1)] [.ref b276, .ref b276])) rfl (by rw [hml]; rfl) (Steps.refl _) (a := b276) (argsL := []) (rest := [.ref b276]) (lenOf pd_18 rfl) rfl (wz rfl) (hb hby d9_4) (fun _ _ => ⟨rfl, e276, (by decide : 1 + 1 ≤ _), (by decide : 4 + 16 ≤ _)⟩)
  dsimp only [Pt.U, Pt.locs, Pt.cells, Pt.slots] at X277 l277 y277 z277 st277 hQ277
  rw [l277, y277, z277] at X277
  obtain ⟨h277, e277⟩ : ∃ z, T277.heap = z := ⟨_, rfl⟩
  rw [e277] at hQ277
  obtain ⟨rfl, N277q, K277, B277, kb277, szn277, G277_0, G277_1, G277_2, G277_3⟩ := hQ277
  have g_B277 : n0 ≤ B277 := Nat.le_trans Z0 szn277
  have sz_B277 : h0.size ≤ B277 := Nat.le_trans KK.1 szn277
  have ne_a1_B277 : a1 ≠ B277 := Nat.ne_of_lt (Nat.lt_of_lt_of_le F_name_a1.lt szn277)
  have ne_s1_B277 : s1 ≠ B277 := Nat.ne_of_lt (Nat.lt_of_lt_of_le E_s1.lt szn277)
  have ne_t1_B277 : t1 ≠ B277 := Nat.ne_of_lt (Nat.lt_of_lt_of_le V_t1.lt szn277)
  have ne_s2_B277 : s2 ≠ B277 := Nat.ne_of_lt (Nat.lt_of_lt_of_le E_s2.lt szn277)
  have ne_t2_B277 : t2 ≠ B277 := Nat.ne_of_lt (Nat.lt_of_lt_of_le V_t2.lt szn277)
  have ne_b276_B277 : b276 ≠ B277 := Nat.ne_of_lt (Nat.lt_of_lt_of_le E_b276.lt szn277)
  have Sf_B277 := own_sfnew hCR szn277
  have hs := (sfS Sf_b276 sf0)
  replace Sf_b276 := Safe.keep K277 hs hCR.1 Sf_b276
  replace Sf_B277 := Safe.keep K277 hs hCR.1 Sf_B277
  replace hCR := hCR.trans (CHr.keep K277 hs hCR.1)
  replace SC := own_stakeep SC K277 (nsS (Exa.nostat E_b276) ns0)
  replace F_name_a1 := F_name_a1.keep K277 (ninS ne_a1_b276 nin0)
  replace F_city_a1 := F_city_a1.keep K277 (ninS ne_a1_b276 nin0)
  replace F_ipv6_a1 := F_ipv6_a1.keep K277 (ninS ne_a1_b276 nin0)
  replace E_s1 := E_s1.keep K277
  replace F_coder_s1 := F_coder_s1.keep K277 (ninS ne_s1_b276 nin0)
  replace F_value_s1 := F_value_s1.keep K277 (ninS ne_s1_b276 nin0)
  replace V_t1 := V_t1.keep K277 (ninS ne_t1_b276 nin0)
  replace E_s2 := E_s2.keep K277
  replace F_coder_s2 := F_coder_s2.keep K277 (ninS ne_s2_b276 nin0)
  replace F_value_s2 := F_value_s2.keep K277 (ninS ne_s2_b276 nin0)
  replace V_t2 := V_t2.keep K277 (ninS ne_t2_b276 nin0)
  replace E_b276 := E_b276.keep K277
  replace Z0 := Nat.le_trans Z0 K277.1
  replace hk := Nat.le_trans hk K277.1
  replace KK := KK.trans K277 (allS (Or.inr sz_b276) all0)
  have F_coder_b276 : FC Z h277 b276 (.int 0) := G277_0
  have F_value_b276 : FV Z h277 b276 (.ref B277) := G277_1
  have F_count_b276 : FN Z h277 b276 (.int 0) := G277_2
  have V_B277 : Arv Z h277 B277 kb277 .byte (16 : Int32) (LB ([] : List Int32)) (.int 0) := G277_3
  have N277 := Fr.app N0 N277q
  obtain ⟨b278, T278, h278, k278, B278, kb278, X278, e278, E278, hS, hk, hZ, hown, G278E, G278C, G278V, G278A, -, -, hCr278, -, hne278, st278⟩ := ldcCH X277 hx hZ hown (ww hw 73 rfl) wS e277 hS hk hEL (List.mem_of_getElem? (i := 0) rfl) hCR.1 (vs := (LB P1)) (z := (19 : Int32)) ⟨by decide, by rfl⟩ (by decide) (by decide) (g := (mkF m 7 #[.val (.ref a1)] [.ref b276])) rfl (hb hby d9_7) (n := 76) (by decide) (by decide) (by decide) (by decide)
  replace Sf_b276 := hCr278.safe E_b276.lt Sf_b276
  have ne_b276_b278 := (hne278 _ Sf_b276).1
  have ne_b276_B278 := (hne278 _ Sf_b276).2
  replace Sf_B277 := hCr278.safe V_B277.lt Sf_B277
  have ne_B277_b278 := (hne278 _ Sf_B277).1
  have ne_B277_B278 := (hne278 _ Sf_B277).2
  replace hCR := hCR.trans hCr278
  replace F_name_a1 := F_name_a1.ext E278
  replace F_city_a1 := F_city_a1.ext E278
  replace F_ipv6_a1 := F_ipv6_a1.ext E278
  replace E_s1 := E_s1.ext E278
  replace F_coder_s1 := F_coder_s1.ext E278
  replace F_value_s1 := F_value_s1.ext E278
  replace V_t1 := V_t1.ext E278
  replace E_s2 := E_s2.ext E278
  replace F_coder_s2 := F_coder_s2.ext E278
  replace F_value_s2 := F_value_s2.ext E278
  replace V_t2 := V_t2.ext E278
  replace SC := SC.ext E278
  replace E_b276 := E_b276.ext E278
  replace F_coder_b276 := F_coder_b276.ext E278
  replace F_value_b276 := F_value_b276.ext E278
  replace F_count_b276 := F_count_b276.ext E278
  replace V_B277 := V_B277.ext E278
  replace Z0 := Nat.le_trans Z0 E278.1
  replace KK := KK.ext E278
  have E_b278 : ES Z h278 b278 := G278E
  have F_coder_b278 : GC Z h278 b278 (.int 0) := G278C
  have F_value_b278 : GV Z h278 b278 (.ref B278) := G278V
  have V_B278 : Arv Z h278 B278 kb278 .byte (19 : Int32) (LB P1) (.int 0) := G278A
  obtain ⟨cq279, kq279, q279a, q279b, q279c⟩ := isOf hZ e278 E_b276
  obtain ⟨_, _, ⟨T279, _, _, _⟩, -, X279, ⟨_, hQ279, l279, y279, z279⟩, st279⟩ := X278.virtualBack hx (y := mn19) (z := mn19) hown (mvT hZ (ww hw 76 rfl)) (mvT hZ (ww hw 77 rfl)) (notFace_of_selects (args := #[]) (mvT hZ (ww hw 79 rfl))) (mvT hZ (ww hw 79 rfl)) (mvT hZ (ww hw 78 rfl)) (by decide) (backOf (W := 0) (rm12_0 l Z a0 hw [] b276 b278 B277 kb277 ([] : List Int32) B278 kb278 P1 wC h278 n0 Z0 SC hz rfl rfl E_b276 F_coder_b276 F_value_b276 F_count_b276 V_B277 E_b278 F_coder_b278 F_value_b278 V_B278 g_b276 ne_b276_B277 ne_b276_b278 ne_b276_B278) hZ (ww hw 80 rfl) (ww hw 57 rfl) (by decide) (by decide)) q279a q279c (g := (mkF m 9 #[.val (.ref a1)] [.ref b278, .ref b276])) rfl (by rw [hml]; rfl) (Steps.refl _) (argsL := [.ref b278]) (rest := []) (lenOf pd_19 rfl) rfl (wz rfl) (hb hby d9_9) (fun _ _ => ⟨rfl, e278, (by decide : 4 + 1 ≤ _), (by decide : 100 + 34 ≤ _)⟩)
  dsimp only [Pt.U, Pt.locs, Pt.cells, Pt.slots] at X279 l279 y279 z279 st279 hQ279
  rw [l279, y279, z279] at X279
  obtain ⟨h279, e279⟩ : ∃ z, T279.heap = z := ⟨_, rfl⟩
  rw [e279] at hQ279
  obtain ⟨rfl, N279q, K279, B279, kb279, szn279, G279_0, G279_1, G279_2, G279_3⟩ := hQ279
  have g_B279 : n0 ≤ B279 := Nat.le_trans Z0 szn279
  have sz_B279 : h0.size ≤ B279 := Nat.le_trans KK.1 szn279
  have ne_a1_B279 : a1 ≠ B279 := Nat.ne_of_lt (Nat.lt_of_lt_of_le F_name_a1.lt szn279)
  have ne_s1_B279 : s1 ≠ B279 := Nat.ne_of_lt (Nat.lt_of_lt_of_le E_s1.lt szn279)
  have ne_t1_B279 : t1 ≠ B279 := Nat.ne_of_lt (Nat.lt_of_lt_of_le V_t1.lt szn279)
  have ne_s2_B279 : s2 ≠ B279 := Nat.ne_of_lt (Nat.lt_of_lt_of_le E_s2.lt szn279)
  have ne_t2_B279 : t2 ≠ B279 := Nat.ne_of_lt (Nat.lt_of_lt_of_le V_t2.lt szn279)
  have ne_b276_B279 : b276 ≠ B279 := Nat.ne_of_lt (Nat.lt_of_lt_of_le E_b276.lt szn279)
  have ne_B277_B279 : B277 ≠ B279 := Nat.ne_of_lt (Nat.lt_of_lt_of_le V_B277.lt szn279)
  have ne_b278_B279 : b278 ≠ B279 := Nat.ne_of_lt (Nat.lt_of_lt_of_le E_b278.lt szn279)
  have ne_B278_B279 : B278 ≠ B279 := Nat.ne_of_lt (Nat.lt_of_lt_of_le V_B278.lt szn279)
  have Sf_B279 := own_sfnew hCR szn279
  have hs := (sfS Sf_b276 sf0)
  replace Sf_b276 := Safe.keep K279 hs hCR.1 Sf_b276
  replace Sf_B277 := Safe.keep K279 hs hCR.1 Sf_B277
  replace Sf_B279 := Safe.keep K279 hs hCR.1 Sf_B279
  replace hCR := hCR.trans (CHr.keep K279 hs hCR.1)
  replace SC := own_stakeep SC K279 (nsS (Exa.nostat E_b276) ns0)
  replace F_name_a1 := F_name_a1.keep K279 (ninS ne_a1_b276 nin0)
  replace F_city_a1 := F_city_a1.keep K279 (ninS ne_a1_b276 nin0)
  replace F_ipv6_a1 := F_ipv6_a1.keep K279 (ninS ne_a1_b276 nin0)
  replace E_s1 := E_s1.keep K279
  replace F_coder_s1 := F_coder_s1.keep K279 (ninS ne_s1_b276 nin0)
  replace F_value_s1 := F_value_s1.keep K279 (ninS ne_s1_b276 nin0)
  replace V_t1 := V_t1.keep K279 (ninS ne_t1_b276 nin0)
  replace E_s2 := E_s2.keep K279
  replace F_coder_s2 := F_coder_s2.keep K279 (ninS ne_s2_b276 nin0)
  replace F_value_s2 := F_value_s2.keep K279 (ninS ne_s2_b276 nin0)
  replace V_t2 := V_t2.keep K279 (ninS ne_t2_b276 nin0)
  replace E_b276 := E_b276.keep K279
  replace V_B277 := V_B277.keep K279 (ninS (Ne.symm ne_b276_B277) nin0)
  replace E_b278 := E_b278.keep K279
  replace F_coder_b278 := F_coder_b278.keep K279 (ninS (Ne.symm ne_b276_b278) nin0)
  replace F_value_b278 := F_value_b278.keep K279 (ninS (Ne.symm ne_b276_b278) nin0)
  replace V_B278 := V_B278.keep K279 (ninS (Ne.symm ne_b276_B278) nin0)
  replace Z0 := Nat.le_trans Z0 K279.1
  replace hk := Nat.le_trans hk K279.1
  replace KK := KK.trans K279 (allS (Or.inr sz_b276) all0)
  have F_coder_b276 : FC Z h279 b276 (.int 0) := G279_0
  have F_value_b276 : FV Z h279 b276 (.ref B279) := G279_1
  have F_count_b276 : FN Z h279 b276 (.int 19) := G279_2
  have V_B279 : Arv Z h279 B279 kb279 .byte (34 : Int32) (LB (([] : List Int32) ++ P1)) (.int 0) := G279_3
  have N279 := Fr.app N277 N279q
  obtain ⟨T280, X280, e280, st280⟩ := getF X279 hx hZ hown (host := "") (Or.inl (ww hw 42 rfl)) Via.refl e279 F_name_a1 (g := (mkF m 13 #[.val (.ref a1)] [.ref a1, .ref b276])) rfl rfl (hb hby d9_13)
  obtain ⟨cq281, kq281, q281a, q281b, q281c⟩ := isOf hZ e280 E_b276
  obtain ⟨_, _, ⟨T281, _, _, _⟩, -, X281, ⟨_, hQ281, l281, y281, z281⟩, st281⟩ := X280.virtualBack hx (y := mn19) (z := mn19) hown (mvT hZ (ww hw 76 rfl)) (mvT hZ (ww hw 77 rfl)) (notFace_of_selects (args := #[]) (mvT hZ (ww hw 79 rfl))) (mvT hZ (ww hw 79 rfl)) (mvT hZ (ww hw 78 rfl)) (by decide) (backOf (W := 0) (rm12_19 l Z a0 hw [] b276 s1 B279 kb279 (([] : List Int32) ++ P1) t1 k1 ([c1, c2] : List Int32) wC h279 n0 Z0 SC hz rfl rfl E_b276 F_coder_b276 F_value_b276 F_count_b276 V_B279 E_s1 F_coder_s1 F_value_s1 V_t1 g_b276 g_B279 ne_b276_B279 (Ne.symm ne_s1_b276) (Ne.symm ne_t1_b276) (Ne.symm ne_s1_B279) (Ne.symm ne_t1_B279)) hZ (ww hw 80 rfl) (ww hw 57 rfl) (by decide) (by decide)) q281a q281c (g := (mkF m 16 #[.val (.ref a1)] [.ref s1, .ref b276])) rfl (by rw [hml]; rfl) (Steps.refl _) (argsL := [.ref s1]) (rest := []) (lenOf pd_19 rfl) rfl (wz rfl) (hb hby d9_16) (fun _ _ => ⟨rfl, e280, (by decide : 5 + 0 ≤ _), (by decide : 134 + 0 ≤ _)⟩)
  dsimp only [Pt.U, Pt.locs, Pt.cells, Pt.slots] at X281 l281 y281 z281 st281 hQ281
  rw [l281, y281, z281] at X281
  obtain ⟨h281, e281⟩ : ∃ z, T281.heap = z := ⟨_, rfl⟩
  rw [e281] at hQ281
  obtain ⟨rfl, N281q, K281, G281_0, G281_1, G281_2, G281_3⟩ := hQ281
  have hs := (sfS Sf_b276 (sfS Sf_B279 sf0))
  replace Sf_b276 := Safe.keep K281 hs hCR.1 Sf_b276
  replace Sf_B279 := Safe.keep K281 hs hCR.1 Sf_B279
  replace hCR := hCR.trans (CHr.keep K281 hs hCR.1)
  replace SC := own_stakeep SC K281 (nsS (Exa.nostat E_b276) (nsS (Arv.nostat V_B279) ns0))
  replace F_name_a1 := F_name_a1.keep K281 (ninS ne_a1_b276 (ninS ne_a1_B279 nin0))
  replace F_city_a1 := F_city_a1.keep K281 (ninS ne_a1_b276 (ninS ne_a1_B279 nin0))
  replace F_ipv6_a1 := F_ipv6_a1.keep K281 (ninS ne_a1_b276 (ninS ne_a1_B279 nin0))
  replace E_s1 := E_s1.keep K281
  replace F_coder_s1 := F_coder_s1.keep K281 (ninS ne_s1_b276 (ninS ne_s1_B279 nin0))
  replace F_value_s1 := F_value_s1.keep K281 (ninS ne_s1_b276 (ninS ne_s1_B279 nin0))
  replace V_t1 := V_t1.keep K281 (ninS ne_t1_b276 (ninS ne_t1_B279 nin0))
  replace E_s2 := E_s2.keep K281
  replace F_coder_s2 := F_coder_s2.keep K281 (ninS ne_s2_b276 (ninS ne_s2_B279 nin0))
  replace F_value_s2 := F_value_s2.keep K281 (ninS ne_s2_b276 (ninS ne_s2_B279 nin0))
  replace V_t2 := V_t2.keep K281 (ninS ne_t2_b276 (ninS ne_t2_B279 nin0))
  replace E_b276 := E_b276.keep K281
  replace Z0 := Nat.le_trans Z0 K281.1
  replace hk := Nat.le_trans hk K281.1
  replace KK := KK.trans K281 (allS (Or.inr sz_b276) (allS (Or.inr sz_B279) all0))
  have F_coder_b276 : FC Z h281 b276 (.int 0) := G281_0
  have F_value_b276 : FV Z h281 b276 (.ref B279) := G281_1
  have F_count_b276 : FN Z h281 b276 (.int 21) := G281_2
  have V_B279 : Arv Z h281 B279 kb279 .byte (34 : Int32) (LB ((([] : List Int32) ++ P1) ++ ([c1, c2] : List Int32))) (.int 0) := G281_3
  have N281 := Fr.app N279 N281q
  obtain ⟨b282, T282, h282, k282, B282, kb282, X282, e282, E282, hS, hk, hZ, hown, G282E, G282C, G282V, G282A, -, -, hCr282, -, hne282, st282⟩ := ldcCH X281 hx hZ hown (ww hw 146 rfl) wS e281 hS hk hEL (List.mem_of_getElem? (i := 1) rfl) hCR.1 (vs := (LB P2)) (z := (7 : Int32)) ⟨by decide, by rfl⟩ (by decide) (by decide) (g := (mkF m 19 #[.val (.ref a1)] [.ref b276])) rfl (hb hby d9_19) (n := 28) (by decide) (by decide) (by decide) (by decide)
  replace Sf_b276 := hCr282.safe E_b276.lt Sf_b276
  have ne_b276_b282 := (hne282 _ Sf_b276).1
  have ne_b276_B282 := (hne282 _ Sf_b276).2
  replace Sf_B279 := hCr282.safe V_B279.lt Sf_B279
  have ne_B279_b282 := (hne282 _ Sf_B279).1
  have ne_B279_B282 := (hne282 _ Sf_B279).2
  replace hCR := hCR.trans hCr282
  replace F_name_a1 := F_name_a1.ext E282
  replace F_city_a1 := F_city_a1.ext E282
  replace F_ipv6_a1 := F_ipv6_a1.ext E282
  replace E_s2 := E_s2.ext E282
  replace F_coder_s2 := F_coder_s2.ext E282
  replace F_value_s2 := F_value_s2.ext E282
  replace V_t2 := V_t2.ext E282
  replace SC := SC.ext E282
  replace E_b276 := E_b276.ext E282
  replace F_coder_b276 := F_coder_b276.ext E282
  replace F_value_b276 := F_value_b276.ext E282
  replace F_count_b276 := F_count_b276.ext E282
  replace V_B279 := V_B279.ext E282
  replace Z0 := Nat.le_trans Z0 E282.1
  replace KK := KK.ext E282
  have E_b282 : ES Z h282 b282 := G282E
  have F_coder_b282 : GC Z h282 b282 (.int 0) := G282C
  have F_value_b282 : GV Z h282 b282 (.ref B282) := G282V
  have V_B282 : Arv Z h282 B282 kb282 .byte (7 : Int32) (LB P2) (.int 0) := G282A
  obtain ⟨cq283, kq283, q283a, q283b, q283c⟩ := isOf hZ e282 E_b276
  obtain ⟨_, _, ⟨T283, _, _, _⟩, -, X283, ⟨_, hQ283, l283, y283, z283⟩, st283⟩ := X282.virtualBack hx (y := mn19) (z := mn19) hown (mvT hZ (ww hw 76 rfl)) (mvT hZ (ww hw 77 rfl)) (notFace_of_selects (args := #[]) (mvT hZ (ww hw 79 rfl))) (mvT hZ (ww hw 79 rfl)) (mvT hZ (ww hw 78 rfl)) (by decide) (backOf (W := 0) (rm12_21 l Z a0 hw [] b276 b282 B279 kb279 ((([] : List Int32) ++ P1) ++ ([c1, c2] : List Int32)) B282 kb282 P2 wC h282 n0 Z0 SC hz rfl rfl E_b276 F_coder_b276 F_value_b276 F_count_b276 V_B279 E_b282 F_coder_b282 F_value_b282 V_B282 g_b276 g_B279 ne_b276_B279 ne_b276_b282 ne_b276_B282 ne_B279_b282 ne_B279_B282) hZ (ww hw 80 rfl) (ww hw 57 rfl) (by decide) (by decide)) q283a q283c (g := (mkF m 21 #[.val (.ref a1)] [.ref b282, .ref b276])) rfl (by rw [hml]; rfl) (Steps.refl _) (argsL := [.ref b282]) (rest := []) (lenOf pd_19 rfl) rfl (wz rfl) (hb hby d9_21) (fun _ _ => ⟨rfl, e282, (by decide : 7 + 0 ≤ _), (by decide : 166 + 0 ≤ _)⟩)
  dsimp only [Pt.U, Pt.locs, Pt.cells, Pt.slots] at X283 l283 y283 z283 st283 hQ283
  rw [l283, y283, z283] at X283
  obtain ⟨h283, e283⟩ : ∃ z, T283.heap = z := ⟨_, rfl⟩
  rw [e283] at hQ283
  obtain ⟨rfl, N283q, K283, G283_0, G283_1, G283_2, G283_3⟩ := hQ283
  have hs := (sfS Sf_b276 (sfS Sf_B279 sf0))
  replace Sf_b276 := Safe.keep K283 hs hCR.1 Sf_b276
  replace Sf_B279 := Safe.keep K283 hs hCR.1 Sf_B279
  replace hCR := hCR.trans (CHr.keep K283 hs hCR.1)
  replace SC := own_stakeep SC K283 (nsS (Exa.nostat E_b276) (nsS (Arv.nostat V_B279) ns0))
  replace F_name_a1 := F_name_a1.keep K283 (ninS ne_a1_b276 (ninS ne_a1_B279 nin0))
  replace F_city_a1 := F_city_a1.keep K283 (ninS ne_a1_b276 (ninS ne_a1_B279 nin0))
  replace F_ipv6_a1 := F_ipv6_a1.keep K283 (ninS ne_a1_b276 (ninS ne_a1_B279 nin0))
  replace E_s2 := E_s2.keep K283
  replace F_coder_s2 := F_coder_s2.keep K283 (ninS ne_s2_b276 (ninS ne_s2_B279 nin0))
  replace F_value_s2 := F_value_s2.keep K283 (ninS ne_s2_b276 (ninS ne_s2_B279 nin0))
  replace V_t2 := V_t2.keep K283 (ninS ne_t2_b276 (ninS ne_t2_B279 nin0))
  replace E_b276 := E_b276.keep K283
  replace E_b282 := E_b282.keep K283
  replace F_coder_b282 := F_coder_b282.keep K283 (ninS (Ne.symm ne_b276_b282) (ninS (Ne.symm ne_B279_b282) nin0))
  replace F_value_b282 := F_value_b282.keep K283 (ninS (Ne.symm ne_b276_b282) (ninS (Ne.symm ne_B279_b282) nin0))
  replace V_B282 := V_B282.keep K283 (ninS (Ne.symm ne_b276_B282) (ninS (Ne.symm ne_B279_B282) nin0))
  replace Z0 := Nat.le_trans Z0 K283.1
  replace hk := Nat.le_trans hk K283.1
  replace KK := KK.trans K283 (allS (Or.inr sz_b276) (allS (Or.inr sz_B279) all0))
  have F_coder_b276 : FC Z h283 b276 (.int 0) := G283_0
  have F_value_b276 : FV Z h283 b276 (.ref B279) := G283_1
  have F_count_b276 : FN Z h283 b276 (.int 28) := G283_2
  have V_B279 : Arv Z h283 B279 kb279 .byte (34 : Int32) (LB (((([] : List Int32) ++ P1) ++ ([c1, c2] : List Int32)) ++ P2)) (.int 0) := G283_3
  have N283 := Fr.app N281 N283q
  obtain ⟨T284, X284, e284, st284⟩ := getF X283 hx hZ hown (host := "") (Or.inl (ww hw 44 rfl)) Via.refl e283 F_city_a1 (g := (mkF m 25 #[.val (.ref a1)] [.ref a1, .ref b276])) rfl rfl (hb hby d9_25)
  obtain ⟨cq285, kq285, q285a, q285b, q285c⟩ := isOf hZ e284 E_b276
  obtain ⟨_, _, ⟨T285, _, _, _⟩, -, X285, ⟨_, hQ285, l285, y285, z285⟩, st285⟩ := X284.virtualBack hx (y := mn19) (z := mn19) hown (mvT hZ (ww hw 76 rfl)) (mvT hZ (ww hw 77 rfl)) (notFace_of_selects (args := #[]) (mvT hZ (ww hw 79 rfl))) (mvT hZ (ww hw 79 rfl)) (mvT hZ (ww hw 78 rfl)) (by decide) (backOf (W := 0) (rm12_28 l Z a0 hw [] b276 s2 B279 kb279 (((([] : List Int32) ++ P1) ++ ([c1, c2] : List Int32)) ++ P2) t2 k2 ([c3, c4] : List Int32) wC h283 n0 Z0 SC hz rfl rfl E_b276 F_coder_b276 F_value_b276 F_count_b276 V_B279 E_s2 F_coder_s2 F_value_s2 V_t2 g_b276 g_B279 ne_b276_B279 (Ne.symm ne_s2_b276) (Ne.symm ne_t2_b276) (Ne.symm ne_s2_B279) (Ne.symm ne_t2_B279)) hZ (ww hw 80 rfl) (ww hw 57 rfl) (by decide) (by decide)) q285a q285c (g := (mkF m 28 #[.val (.ref a1)] [.ref s2, .ref b276])) rfl (by rw [hml]; rfl) (Steps.refl _) (argsL := [.ref s2]) (rest := []) (lenOf pd_19 rfl) rfl (wz rfl) (hb hby d9_28) (fun _ _ => ⟨rfl, e284, (by decide : 7 + 0 ≤ _), (by decide : 166 + 0 ≤ _)⟩)
  dsimp only [Pt.U, Pt.locs, Pt.cells, Pt.slots] at X285 l285 y285 z285 st285 hQ285
  rw [l285, y285, z285] at X285
  obtain ⟨h285, e285⟩ : ∃ z, T285.heap = z := ⟨_, rfl⟩
  rw [e285] at hQ285
  obtain ⟨rfl, N285q, K285, G285_0, G285_1, G285_2, G285_3⟩ := hQ285
  have hs := (sfS Sf_b276 (sfS Sf_B279 sf0))
  replace Sf_b276 := Safe.keep K285 hs hCR.1 Sf_b276
  replace Sf_B279 := Safe.keep K285 hs hCR.1 Sf_B279
  replace hCR := hCR.trans (CHr.keep K285 hs hCR.1)
  replace SC := own_stakeep SC K285 (nsS (Exa.nostat E_b276) (nsS (Arv.nostat V_B279) ns0))
  replace F_name_a1 := F_name_a1.keep K285 (ninS ne_a1_b276 (ninS ne_a1_B279 nin0))
  replace F_city_a1 := F_city_a1.keep K285 (ninS ne_a1_b276 (ninS ne_a1_B279 nin0))
  replace F_ipv6_a1 := F_ipv6_a1.keep K285 (ninS ne_a1_b276 (ninS ne_a1_B279 nin0))
  replace E_s2 := E_s2.keep K285
  replace F_coder_s2 := F_coder_s2.keep K285 (ninS ne_s2_b276 (ninS ne_s2_B279 nin0))
  replace F_value_s2 := F_value_s2.keep K285 (ninS ne_s2_b276 (ninS ne_s2_B279 nin0))
  replace V_t2 := V_t2.keep K285 (ninS ne_t2_b276 (ninS ne_t2_B279 nin0))
  replace E_b276 := E_b276.keep K285
  replace Z0 := Nat.le_trans Z0 K285.1
  replace hk := Nat.le_trans hk K285.1
  replace KK := KK.trans K285 (allS (Or.inr sz_b276) (allS (Or.inr sz_B279) all0))
  have F_coder_b276 : FC Z h285 b276 (.int 0) := G285_0
  have F_value_b276 : FV Z h285 b276 (.ref B279) := G285_1
  have F_count_b276 : FN Z h285 b276 (.int 30) := G285_2
  have V_B279 : Arv Z h285 B279 kb279 .byte (34 : Int32) (LB ((((([] : List Int32) ++ P1) ++ ([c1, c2] : List Int32)) ++ P2) ++ ([c3, c4] : List Int32))) (.int 0) := G285_3
  have N285 := Fr.app N283 N285q
  obtain ⟨b286, T286, h286, k286, B286, kb286, X286, e286, E286, hS, hk, hZ, hown, G286E, G286C, G286V, G286A, -, -, hCr286, -, hne286, st286⟩ := ldcCH X285 hx hZ hown (ww hw 147 rfl) wS e285 hS hk hEL (List.mem_of_getElem? (i := 2) rfl) hCR.1 (vs := (LB P3)) (z := (7 : Int32)) ⟨by decide, by rfl⟩ (by decide) (by decide) (g := (mkF m 31 #[.val (.ref a1)] [.ref b276])) rfl (hb hby d9_31) (n := 28) (by decide) (by decide) (by decide) (by decide)
  replace Sf_b276 := hCr286.safe E_b276.lt Sf_b276
  have ne_b276_b286 := (hne286 _ Sf_b276).1
  have ne_b276_B286 := (hne286 _ Sf_b276).2
  replace Sf_B279 := hCr286.safe V_B279.lt Sf_B279
  have ne_B279_b286 := (hne286 _ Sf_B279).1
  have ne_B279_B286 := (hne286 _ Sf_B279).2
  replace hCR := hCR.trans hCr286
  replace F_name_a1 := F_name_a1.ext E286
  replace F_city_a1 := F_city_a1.ext E286
  replace F_ipv6_a1 := F_ipv6_a1.ext E286
  replace SC := SC.ext E286
  replace E_b276 := E_b276.ext E286
  replace F_coder_b276 := F_coder_b276.ext E286
  replace F_value_b276 := F_value_b276.ext E286
  replace F_count_b276 := F_count_b276.ext E286
  replace V_B279 := V_B279.ext E286
  replace Z0 := Nat.le_trans Z0 E286.1
  replace KK := KK.ext E286
  have E_b286 : ES Z h286 b286 := G286E
  have F_coder_b286 : GC Z h286 b286 (.int 0) := G286C
  have F_value_b286 : GV Z h286 b286 (.ref B286) := G286V
  have V_B286 : Arv Z h286 B286 kb286 .byte (7 : Int32) (LB P3) (.int 0) := G286A
  obtain ⟨cq287, kq287, q287a, q287b, q287c⟩ := isOf hZ e286 E_b276
  obtain ⟨_, _, ⟨T287, _, _, _⟩, -, X287, ⟨_, hQ287, l287, y287, z287⟩, st287⟩ := X286.virtualBack hx (y := mn19) (z := mn19) hown (mvT hZ (ww hw 76 rfl)) (mvT hZ (ww hw 77 rfl)) (notFace_of_selects (args := #[]) (mvT hZ (ww hw 79 rfl))) (mvT hZ (ww hw 79 rfl)) (mvT hZ (ww hw 78 rfl)) (by decide) (backOf (W := 0) (rm12_30 l Z a0 hw [] b276 b286 B279 kb279 ((((([] : List Int32) ++ P1) ++ ([c1, c2] : List Int32)) ++ P2) ++ ([c3, c4] : List Int32)) B286 kb286 P3 wC h286 n0 Z0 SC hz rfl rfl E_b276 F_coder_b276 F_value_b276 F_count_b276 V_B279 E_b286 F_coder_b286 F_value_b286 V_B286 g_b276 ne_b276_B279 ne_b276_b286 ne_b276_B286) hZ (ww hw 80 rfl) (ww hw 57 rfl) (by decide) (by decide)) q287a q287c (g := (mkF m 33 #[.val (.ref a1)] [.ref b286, .ref b276])) rfl (by rw [hml]; rfl) (Steps.refl _) (argsL := [.ref b286]) (rest := []) (lenOf pd_19 rfl) rfl (wz rfl) (hb hby d9_33) (fun _ _ => ⟨rfl, e286, (by decide : 9 + 1 ≤ _), (by decide : 198 + 70 ≤ _)⟩)
  dsimp only [Pt.U, Pt.locs, Pt.cells, Pt.slots] at X287 l287 y287 z287 st287 hQ287
  rw [l287, y287, z287] at X287
  obtain ⟨h287, e287⟩ : ∃ z, T287.heap = z := ⟨_, rfl⟩
  rw [e287] at hQ287
  obtain ⟨rfl, N287q, K287, B287, kb287, szn287, G287_0, G287_1, G287_2, G287_3⟩ := hQ287
  have g_B287 : n0 ≤ B287 := Nat.le_trans Z0 szn287
  have sz_B287 : h0.size ≤ B287 := Nat.le_trans KK.1 szn287
  have ne_a1_B287 : a1 ≠ B287 := Nat.ne_of_lt (Nat.lt_of_lt_of_le F_name_a1.lt szn287)
  have ne_b276_B287 : b276 ≠ B287 := Nat.ne_of_lt (Nat.lt_of_lt_of_le E_b276.lt szn287)
  have ne_B279_B287 : B279 ≠ B287 := Nat.ne_of_lt (Nat.lt_of_lt_of_le V_B279.lt szn287)
  have ne_b286_B287 : b286 ≠ B287 := Nat.ne_of_lt (Nat.lt_of_lt_of_le E_b286.lt szn287)
  have ne_B286_B287 : B286 ≠ B287 := Nat.ne_of_lt (Nat.lt_of_lt_of_le V_B286.lt szn287)
  have Sf_B287 := own_sfnew hCR szn287
  have hs := (sfS Sf_b276 sf0)
  replace Sf_b276 := Safe.keep K287 hs hCR.1 Sf_b276
  replace Sf_B279 := Safe.keep K287 hs hCR.1 Sf_B279
  replace Sf_B287 := Safe.keep K287 hs hCR.1 Sf_B287
  replace hCR := hCR.trans (CHr.keep K287 hs hCR.1)
  replace SC := own_stakeep SC K287 (nsS (Exa.nostat E_b276) ns0)
  replace F_name_a1 := F_name_a1.keep K287 (ninS ne_a1_b276 nin0)
  replace F_city_a1 := F_city_a1.keep K287 (ninS ne_a1_b276 nin0)
  replace F_ipv6_a1 := F_ipv6_a1.keep K287 (ninS ne_a1_b276 nin0)
  replace E_b276 := E_b276.keep K287
  replace V_B279 := V_B279.keep K287 (ninS (Ne.symm ne_b276_B279) nin0)
  replace E_b286 := E_b286.keep K287
  replace F_coder_b286 := F_coder_b286.keep K287 (ninS (Ne.symm ne_b276_b286) nin0)
  replace F_value_b286 := F_value_b286.keep K287 (ninS (Ne.symm ne_b276_b286) nin0)
  replace V_B286 := V_B286.keep K287 (ninS (Ne.symm ne_b276_B286) nin0)
  replace Z0 := Nat.le_trans Z0 K287.1
  replace hk := Nat.le_trans hk K287.1
  replace KK := KK.trans K287 (allS (Or.inr sz_b276) all0)
  have F_coder_b276 : FC Z h287 b276 (.int 0) := G287_0
  have F_value_b276 : FV Z h287 b276 (.ref B287) := G287_1
  have F_count_b276 : FN Z h287 b276 (.int 37) := G287_2
  have V_B287 : Arv Z h287 B287 kb287 .byte (70 : Int32) (LB (((((([] : List Int32) ++ P1) ++ ([c1, c2] : List Int32)) ++ P2) ++ ([c3, c4] : List Int32)) ++ P3)) (.int 0) := G287_3
  have N287 := Fr.app N285 N287q
  obtain ⟨T288, X288, e288, st288⟩ := getF X287 hx hZ hown (host := "") (Or.inl (ww hw 48 rfl)) Via.refl e287 F_ipv6_a1 (g := (mkF m 37 #[.val (.ref a1)] [.ref a1, .ref b276])) rfl rfl (hb hby d9_37)
  obtain ⟨cq289, kq289, q289a, q289b, q289c⟩ := isOf hZ e288 E_b276
  obtain ⟨_, _, ⟨T289, _, _, _⟩, -, X289, ⟨_, hQ289, l289, y289, z289⟩, st289⟩ := X288.virtualBack hx (y := mn21) (z := mn21) hown (mvT hZ (ww hw 148 rfl)) (mvT hZ (ww hw 149 rfl)) (notFace_of_selects (args := #[]) (mvT hZ (ww hw 151 rfl))) (mvT hZ (ww hw 151 rfl)) (mvT hZ (ww hw 150 rfl)) (by decide) (backOf (W := 0) (rm25_1 l Z a0 hw [] b276 B287 kb287 (((((([] : List Int32) ++ P1) ++ ([c1, c2] : List Int32)) ++ P2) ++ ([c3, c4] : List Int32)) ++ P3) wC h287 n0 Z0 SC hz rfl E_b276 F_coder_b276 F_value_b276 F_count_b276 V_B287 g_b276 g_B287 ne_b276_B287) hZ (ww hw 152 rfl) (ww hw 57 rfl) (by decide) (by decide)) q289a q289c (g := (mkF m 40 #[.val (.ref a1)] [.int 1, .ref b276])) rfl (by rw [hml]; rfl) (Steps.refl _) (argsL := [.int 1]) (rest := []) (lenOf pd_20 rfl) rfl (wz rfl) (hb hby d9_40) (fun _ _ => ⟨rfl, e288, (by decide : 10 + 0 ≤ _), (by decide : 268 + 0 ≤ _)⟩)
  dsimp only [Pt.U, Pt.locs, Pt.cells, Pt.slots] at X289 l289 y289 z289 st289 hQ289
  rw [l289, y289, z289] at X289
  obtain ⟨h289, e289⟩ : ∃ z, T289.heap = z := ⟨_, rfl⟩
  rw [e289] at hQ289
  obtain ⟨rfl, N289q, K289, G289_0, G289_1, G289_2, G289_3⟩ := hQ289
  have hs := (sfS Sf_b276 (sfS Sf_B287 sf0))
  replace Sf_b276 := Safe.keep K289 hs hCR.1 Sf_b276
  replace Sf_B287 := Safe.keep K289 hs hCR.1 Sf_B287
  replace hCR := hCR.trans (CHr.keep K289 hs hCR.1)
  replace SC := own_stakeep SC K289 (nsS (Exa.nostat E_b276) (nsS (Arv.nostat V_B287) ns0))
  replace F_name_a1 := F_name_a1.keep K289 (ninS ne_a1_b276 (ninS ne_a1_B287 nin0))
  replace F_city_a1 := F_city_a1.keep K289 (ninS ne_a1_b276 (ninS ne_a1_B287 nin0))
  replace F_ipv6_a1 := F_ipv6_a1.keep K289 (ninS ne_a1_b276 (ninS ne_a1_B287 nin0))
  replace E_b276 := E_b276.keep K289
  replace Z0 := Nat.le_trans Z0 K289.1
  replace hk := Nat.le_trans hk K289.1
  replace KK := KK.trans K289 (allS (Or.inr sz_b276) (allS (Or.inr sz_B287) all0))
  have F_coder_b276 : FC Z h289 b276 (.int 0) := G289_0
  have F_value_b276 : FV Z h289 b276 (.ref B287) := G289_1
  have F_count_b276 : FN Z h289 b276 (.int 41) := G289_2
  have V_B287 : Arv Z h289 B287 kb287 .byte (70 : Int32) (LB (((((((((([] : List Int32) ++ P1) ++ ([c1, c2] : List Int32)) ++ P2) ++ ([c3, c4] : List Int32)) ++ P3) ++ [(116 : Int32)]) ++ [(114 : Int32)]) ++ [(117 : Int32)]) ++ [(101 : Int32)])) (.int 0) := G289_3
  have N289 := Fr.app N287 N289q
  obtain ⟨b290, T290, h290, k290, B290, kb290, X290, e290, E290, hS, hk, hZ, hown, G290E, G290C, G290V, G290A, -, -, hCr290, -, hne290, st290⟩ := ldcCH X289 hx hZ hown (ww hw 162 rfl) wS e289 hS hk hEL (List.mem_of_getElem? (i := 3) rfl) hCR.1 (vs := (LB P4)) (z := (1 : Int32)) ⟨by decide, by rfl⟩ (by decide) (by decide) (g := (mkF m 43 #[.val (.ref a1)] [.ref b276])) rfl (hb hby d9_43) (n := 4) (by decide) (by decide) (by decide) (by decide)
  replace Sf_b276 := hCr290.safe E_b276.lt Sf_b276
  have ne_b276_b290 := (hne290 _ Sf_b276).1
  have ne_b276_B290 := (hne290 _ Sf_b276).2
  replace Sf_B287 := hCr290.safe V_B287.lt Sf_B287
  have ne_B287_b290 := (hne290 _ Sf_B287).1
  have ne_B287_B290 := (hne290 _ Sf_B287).2
  replace hCR := hCR.trans hCr290
  replace F_name_a1 := F_name_a1.ext E290
  replace F_city_a1 := F_city_a1.ext E290
  replace F_ipv6_a1 := F_ipv6_a1.ext E290
  replace SC := SC.ext E290
  replace E_b276 := E_b276.ext E290
  replace F_coder_b276 := F_coder_b276.ext E290
  replace F_value_b276 := F_value_b276.ext E290
  replace F_count_b276 := F_count_b276.ext E290
  replace V_B287 := V_B287.ext E290
  replace Z0 := Nat.le_trans Z0 E290.1
  replace KK := KK.ext E290
  have E_b290 : ES Z h290 b290 := G290E
  have F_coder_b290 : GC Z h290 b290 (.int 0) := G290C
  have F_value_b290 : GV Z h290 b290 (.ref B290) := G290V
  have V_B290 : Arv Z h290 B290 kb290 .byte (1 : Int32) (LB P4) (.int 0) := G290A
  obtain ⟨cq291, kq291, q291a, q291b, q291c⟩ := isOf hZ e290 E_b276
  obtain ⟨_, _, ⟨T291, _, _, _⟩, -, X291, ⟨_, hQ291, l291, y291, z291⟩, st291⟩ := X290.virtualBack hx (y := mn19) (z := mn19) hown (mvT hZ (ww hw 76 rfl)) (mvT hZ (ww hw 77 rfl)) (notFace_of_selects (args := #[]) (mvT hZ (ww hw 79 rfl))) (mvT hZ (ww hw 79 rfl)) (mvT hZ (ww hw 78 rfl)) (by decide) (backOf (W := 0) (rm12_41 l Z a0 hw [] b276 b290 B287 kb287 (((((((((([] : List Int32) ++ P1) ++ ([c1, c2] : List Int32)) ++ P2) ++ ([c3, c4] : List Int32)) ++ P3) ++ [(116 : Int32)]) ++ [(114 : Int32)]) ++ [(117 : Int32)]) ++ [(101 : Int32)]) B290 kb290 P4 wC h290 n0 Z0 SC hz rfl rfl E_b276 F_coder_b276 F_value_b276 F_count_b276 V_B287 E_b290 F_coder_b290 F_value_b290 V_B290 g_b276 g_B287 ne_b276_B287 ne_b276_b290 ne_b276_B290 ne_B287_b290 ne_B287_B290) hZ (ww hw 80 rfl) (ww hw 57 rfl) (by decide) (by decide)) q291a q291c (g := (mkF m 45 #[.val (.ref a1)] [.ref b290, .ref b276])) rfl (by rw [hml]; rfl) (Steps.refl _) (argsL := [.ref b290]) (rest := []) (lenOf pd_19 rfl) rfl (wz rfl) (hb hby d9_45) (fun _ _ => ⟨rfl, e290, (by decide : 12 + 0 ≤ _), (by decide : 276 + 0 ≤ _)⟩)
  dsimp only [Pt.U, Pt.locs, Pt.cells, Pt.slots] at X291 l291 y291 z291 st291 hQ291
  rw [l291, y291, z291] at X291
  obtain ⟨h291, e291⟩ : ∃ z, T291.heap = z := ⟨_, rfl⟩
  rw [e291] at hQ291
  obtain ⟨rfl, N291q, K291, G291_0, G291_1, G291_2, G291_3⟩ := hQ291
  have hs := (sfS Sf_b276 (sfS Sf_B287 sf0))
  replace Sf_b276 := Safe.keep K291 hs hCR.1 Sf_b276
  replace Sf_B287 := Safe.keep K291 hs hCR.1 Sf_B287
  replace hCR := hCR.trans (CHr.keep K291 hs hCR.1)
  replace SC := own_stakeep SC K291 (nsS (Exa.nostat E_b276) (nsS (Arv.nostat V_B287) ns0))
  replace F_name_a1 := F_name_a1.keep K291 (ninS ne_a1_b276 (ninS ne_a1_B287 nin0))
  replace F_city_a1 := F_city_a1.keep K291 (ninS ne_a1_b276 (ninS ne_a1_B287 nin0))
  replace F_ipv6_a1 := F_ipv6_a1.keep K291 (ninS ne_a1_b276 (ninS ne_a1_B287 nin0))
  replace E_b276 := E_b276.keep K291
  replace E_b290 := E_b290.keep K291
  replace F_coder_b290 := F_coder_b290.keep K291 (ninS (Ne.symm ne_b276_b290) (ninS (Ne.symm ne_B287_b290) nin0))
  replace F_value_b290 := F_value_b290.keep K291 (ninS (Ne.symm ne_b276_b290) (ninS (Ne.symm ne_B287_b290) nin0))
  replace V_B290 := V_B290.keep K291 (ninS (Ne.symm ne_b276_B290) (ninS (Ne.symm ne_B287_B290) nin0))
  replace Z0 := Nat.le_trans Z0 K291.1
  replace hk := Nat.le_trans hk K291.1
  replace KK := KK.trans K291 (allS (Or.inr sz_b276) (allS (Or.inr sz_B287) all0))
  have F_coder_b276 : FC Z h291 b276 (.int 0) := G291_0
  have F_value_b276 : FV Z h291 b276 (.ref B287) := G291_1
  have F_count_b276 : FN Z h291 b276 (.int 42) := G291_2
  have V_B287 : Arv Z h291 B287 kb287 .byte (70 : Int32) (LB ((((((((((([] : List Int32) ++ P1) ++ ([c1, c2] : List Int32)) ++ P2) ++ ([c3, c4] : List Int32)) ++ P3) ++ [(116 : Int32)]) ++ [(114 : Int32)]) ++ [(117 : Int32)]) ++ [(101 : Int32)]) ++ P4)) (.int 0) := G291_3
  have N291 := Fr.app N289 N291q
  obtain ⟨cq292, kq292, q292a, q292b, q292c⟩ := isOf hZ e291 E_b276
  obtain ⟨_, _, ⟨T292, _, _, _⟩, -, X292, ⟨_, hQ292, l292, y292, z292⟩, st292⟩ := X291.virtualBack hx (y := mn26) (z := mn26) hown (mvT hZ (ww hw 163 rfl)) (mvT hZ (ww hw 164 rfl)) (notFace_of_selects (args := #[]) (mvT hZ (ww hw 166 rfl))) (mvT hZ (ww hw 166 rfl)) (mvT hZ (ww hw 165 rfl)) (by decide) (backOf (W := 0) (rm28_42 l Z a0 hw [] b276 B287 kb287 ((((((((((([] : List Int32) ++ P1) ++ ([c1, c2] : List Int32)) ++ P2) ++ ([c3, c4] : List Int32)) ++ P3) ++ [(116 : Int32)]) ++ [(114 : Int32)]) ++ [(117 : Int32)]) ++ [(101 : Int32)]) ++ P4) wC h291 n0 Z0 SC hz rfl E_b276 F_coder_b276 F_value_b276 F_count_b276 V_B287) hZ (ww hw 167 rfl) (ww hw 57 rfl) (by decide) (by decide)) q292a q292c (g := (mkF m 48 #[.val (.ref a1)] [.ref b276])) rfl (by rw [hml]; rfl) (Steps.refl _) (argsL := []) (rest := []) (lenOf pd_21 rfl) rfl (wz rfl) (hb hby d9_48) (fun _ _ => ⟨rfl, e291, (by decide : 12 + 2 ≤ _), (by decide : 276 + 46 ≤ _)⟩)
  dsimp only [Pt.U, Pt.locs, Pt.cells, Pt.slots] at X292 l292 y292 z292 st292 hQ292
  rw [l292, y292, z292] at X292
  obtain ⟨h292, e292⟩ : ∃ z, T292.heap = z := ⟨_, rfl⟩
  rw [e292] at hQ292
  obtain ⟨b292, B292, kb292, rfl, N292q, K292, szx292, szt292, G292E, G292C, G292V, G292A⟩ := hQ292
  have g_b292 : n0 ≤ b292 := Nat.le_trans Z0 szx292
  have sz_b292 : h0.size ≤ b292 := Nat.le_trans KK.1 szx292
  have ne_a1_b292 : a1 ≠ b292 := Nat.ne_of_lt (Nat.lt_of_lt_of_le F_name_a1.lt szx292)
  have ne_b276_b292 : b276 ≠ b292 := Nat.ne_of_lt (Nat.lt_of_lt_of_le E_b276.lt szx292)
  have ne_B287_b292 : B287 ≠ b292 := Nat.ne_of_lt (Nat.lt_of_lt_of_le V_B287.lt szx292)
  have Sf_b292 := own_sfnew hCR szx292
  have g_B292 : n0 ≤ B292 := Nat.le_trans Z0 szt292
  have sz_B292 : h0.size ≤ B292 := Nat.le_trans KK.1 szt292
  have ne_a1_B292 : a1 ≠ B292 := Nat.ne_of_lt (Nat.lt_of_lt_of_le F_name_a1.lt szt292)
  have ne_b276_B292 : b276 ≠ B292 := Nat.ne_of_lt (Nat.lt_of_lt_of_le E_b276.lt szt292)
  have ne_B287_B292 : B287 ≠ B292 := Nat.ne_of_lt (Nat.lt_of_lt_of_le V_B287.lt szt292)
  have Sf_B292 := own_sfnew hCR szt292
  replace Sf_b276 := Safe.keep K292 sf0 hCR.1 Sf_b276
  replace Sf_B287 := Safe.keep K292 sf0 hCR.1 Sf_B287
  replace Sf_b292 := Safe.keep K292 sf0 hCR.1 Sf_b292
  replace Sf_B292 := Safe.keep K292 sf0 hCR.1 Sf_B292
  replace hCR := hCR.trans (CHr.keep K292 sf0 hCR.1)
  replace SC := own_stakeep SC K292 ns0
  replace F_name_a1 := F_name_a1.keep K292 nin0
  replace F_city_a1 := F_city_a1.keep K292 nin0
  replace F_ipv6_a1 := F_ipv6_a1.keep K292 nin0
  replace E_b276 := E_b276.keep K292
  replace F_coder_b276 := F_coder_b276.keep K292 nin0
  replace F_value_b276 := F_value_b276.keep K292 nin0
  replace F_count_b276 := F_count_b276.keep K292 nin0
  replace V_B287 := V_B287.keep K292 nin0
  replace Z0 := Nat.le_trans Z0 K292.1
  replace hk := Nat.le_trans hk K292.1
  replace KK := KK.trans K292 all0
  have E_b292 : ES Z h292 b292 := G292E
  have F_coder_b292 : GC Z h292 b292 (.int 0) := G292C
  have F_value_b292 : GV Z h292 b292 (.ref B292) := G292V
  have V_B292 : Arv Z h292 B292 kb292 .byte (42 : Int32) (LB ((((((((((([] : List Int32) ++ P1) ++ ([c1, c2] : List Int32)) ++ P2) ++ ([c3, c4] : List Int32)) ++ P3) ++ [(116 : Int32)]) ++ [(114 : Int32)]) ++ [(117 : Int32)]) ++ [(101 : Int32)]) ++ P4)) (.int 0) := G292A
  have N292 := Fr.app N291 N292q
  obtain ⟨fs, hr, hrun, hended, hEW⟩ := X292.leaveW hS (by rw [e292]; exact hk) (v := some (.ref b292)) (fun h => by rw [Bd.returns] at h; cases h)
  refine ⟨_, _, pre0 _ ?_, hrun, hended, _, _, rfl, ?_, (by rw [hh]; show CHr Z consts_1 s.vm h0 T292.vm T292.heap; rw [e292]; exact hCR.trans (CHv.at X292 hZ hEL hCR.1)), hEW.1, hEW.2.1, hEW.2.2.1, hEW.2.2.2.mono (by decide) (by decide)⟩
  · refine st276 _ ?_
    show SP p e below T276 (mkF m 3 #[.val (.ref a1)] [.ref b276]) _
    refine y_dup X276 hx hby d9_3 rfl ?_
    refine st277.trans ?_
    show SP p e below T277 (mkF m 7 #[.val (.ref a1)] [.ref b276]) _
    refine st278 _ ?_
    show SP p e below T278 (mkF m 9 #[.val (.ref a1)] [.ref b278, .ref b276]) _
    refine st279.trans ?_
    show SP p e below T279 (mkF m 12 #[.val (.ref a1)] [.ref b276]) _
    refine y_aloadN X279 hx hby d9_12 rfl rfl ?_
    refine st280 _ ?_
    show SP p e below T280 (mkF m 16 #[.val (.ref a1)] [.ref s1, .ref b276]) _
    refine st281.trans ?_
    show SP p e below T281 (mkF m 19 #[.val (.ref a1)] [.ref b276]) _
    refine st282 _ ?_
    show SP p e below T282 (mkF m 21 #[.val (.ref a1)] [.ref b282, .ref b276]) _
    refine st283.trans ?_
    show SP p e below T283 (mkF m 24 #[.val (.ref a1)] [.ref b276]) _
    refine y_aloadN X283 hx hby d9_24 rfl rfl ?_
    refine st284 _ ?_
    show SP p e below T284 (mkF m 28 #[.val (.ref a1)] [.ref s2, .ref b276]) _
    refine st285.trans ?_
    show SP p e below T285 (mkF m 31 #[.val (.ref a1)] [.ref b276]) _
    refine st286 _ ?_
    show SP p e below T286 (mkF m 33 #[.val (.ref a1)] [.ref b286, .ref b276]) _
    refine st287.trans ?_
    show SP p e below T287 (mkF m 36 #[.val (.ref a1)] [.ref b276]) _
    refine y_aloadN X287 hx hby d9_36 rfl rfl ?_
    refine st288 _ ?_
    show SP p e below T288 (mkF m 40 #[.val (.ref a1)] [.int 1, .ref b276]) _
    refine st289.trans ?_
    show SP p e below T289 (mkF m 43 #[.val (.ref a1)] [.ref b276]) _
    refine st290 _ ?_
    show SP p e below T290 (mkF m 45 #[.val (.ref a1)] [.ref b290, .ref b276]) _
    refine st291.trans ?_
    show SP p e below T291 (mkF m 48 #[.val (.ref a1)] [.ref b276]) _
    refine st292.trans ?_
    show Steps p.tables e below (T292.setTop (mkF m 51 #[.val (.ref a1)] [.ref b292])) _
    jvm_step X292.here [X292.here.top, hx, (hb hby d9_51), X292.method', Bd.returns, Value.isRef, FieldType.isReference]
    first | (intro acts; rw [hr _ acts rfl rfl rfl]) | rw [hr _ _ rfl rfl rfl]
    exact Steps.refl _
  · show QM Z _ _ h0 n0 _ T292.heap _
    rw [e292]
    exact ⟨_, _, _, rfl, N292, KK, sz_b292, sz_B292, E_b292, F_coder_b292, F_value_b292, V_B292⟩
set_option maxRecDepth 65536 in
set_option maxHeartbeats 40000000 in
theorem rm9_0 (l : Launch) (Z : State) (a0 : Array Value) (hw : HW a0 Z) (ws : List Jvm.Cond) (a1 s1 t1 : Addr) (k1 : ClassId) (s2 t2 : Addr) (k2 : ClassId) (c1 c2 c3 c4 wC : Int32) (h0 : Heap) (n0 : Nat) (Z0 : n0 ≤ h0.size) (SC : SS Z h0 wC) (hz : ¬ wC = 0) (F_name_a1 : Fld Z h0 a1 "com/example/assay/assay/config/ProbeSettings" "name" "Ljava/lang/String;" (.ref s1)) (F_city_a1 : Fld Z h0 a1 "com/example/assay/assay/config/ProbeSettings" "city" "Ljava/lang/String;" (.ref s2)) (F_ipv6_a1 : Fld Z h0 a1 "com/example/assay/assay/config/ProbeSettings" "ipv6" "Z" (.int 0)) (E_s1 : ES Z h0 s1) (F_coder_s1 : GC Z h0 s1 (.int 0)) (F_value_s1 : GV Z h0 s1 (.ref t1)) (V_t1 : Arv Z h0 t1 k1 .byte (2 : Int32) (LB ([c1, c2] : List Int32)) (.int 0)) (E_s2 : ES Z h0 s2) (F_coder_s2 : GC Z h0 s2 (.int 0)) (F_value_s2 : GV Z h0 s2 (.ref t2)) (V_t2 : Arv Z h0 t2 k2 .byte (2 : Int32) (LB ([c3, c4] : List Int32)) (.int 0)) :
    MFH l mn27 prog_20_method_3_code 1 (some (.object "java/lang/String")) ws (RM 6 14 323 91) #[.ref a1] Z h0 (QM Z (((((((((((([] : List Int32) ++ P1) ++ ([c1, c2] : List Int32)) ++ P2) ++ ([c3, c4] : List Int32)) ++ P3) ++ [(102 : Int32)]) ++ [(97 : Int32)]) ++ [(108 : Int32)]) ++ [(115 : Int32)]) ++ [(101 : Int32)]) ++ P4) (43 : Int32) h0 n0) := by
  refine MetFree.of_bodySF (plainFor_of_name pn_9) hisR ?_
  intro p e s m args below meth c s₁ Bd hml0 hP hK
  obtain ⟨rfl, hZ, hh, hCH⟩ := hP
  have hx := Bd.exec
  have hby := Bd.bytes
  have hml : c.maxLocals = 1 := hml0
  have hown : s.vm.findClass "com/example/assay/assay/config/ProbeSettings" = some m.cls := findClass_of_methodNamed Bd.named
  have hnm := (name_of_methodNamed Bd.named Bd.method).1
  have X0 : Stand p l e (RM 6 14 323 91) (s.setVm s.vm) m #[.ref a1] below meth c s₁ [] 0 0 := Stand.of_body Bd
  have e0 : s₁.heap = h0 := by rw [← hh, Bd.state]; rfl
  have N0 := Fr.nil n0
  have pre0 : GO p e below (s₁.setTop (mkF m 0 #[.val (.ref a1)] [])) (s₁.setTop (entryFrame m #[.ref a1] 1)) := fun t k => castTop (ef_9 m a1) k
  have KK := Keep.refl h0 []
  have hS := (State.WarmedH.refl s).since 0
  have hk : 0 ≤ h0.size := Nat.zero_le _
  have wS : ∀ d ∈ Bundle.stringAtoms, d.before a0 Z = true := fun d hd => hw d ((by decide +kernel : ∀ d ∈ Bundle.stringAtoms, d ∈ tables_1) d hd)
  have hEL := own_EW hw
  have hCR := CHr.refl hCH
  obtain ⟨T293, h293, X293, e293, E293, A293, D293, -, st293⟩ := newO X0 hx hZ hown (ww hw 55 rfl) (ww hw 56 rfl) (ww hw 57 rfl) e0 (g := (mkF m 0 #[.val (.ref a1)] [])) rfl (hb hby d9_0) (by decide) (by decide)
  obtain ⟨b293, g293⟩ : ∃ z, z = h0.size := ⟨_, rfl⟩
  rw [← g293] at A293 D293 st293
  have g_b293 : n0 ≤ b293 := Nat.le_trans Z0 (Nat.le_of_eq g293.symm)
  have sz_b293 : h0.size ≤ b293 := Nat.le_trans KK.1 (Nat.le_of_eq g293.symm)
  have ne_a1_b293 : a1 ≠ b293 := Nat.ne_of_lt (Nat.lt_of_lt_of_le F_name_a1.lt (Nat.le_of_eq g293.symm))
  have ne_s1_b293 : s1 ≠ b293 := Nat.ne_of_lt (Nat.lt_of_lt_of_le E_s1.lt (Nat.le_of_eq g293.symm))
  have ne_t1_b293 : t1 ≠ b293 := Nat.ne_of_lt (Nat.lt_of_lt_of_le V_t1.lt (Nat.le_of_eq g293.symm))
  have ne_s2_b293 : s2 ≠ b293 := Nat.ne_of_lt (Nat.lt_of_lt_of_le E_s2.lt (Nat.le_of_eq g293.symm))
  have ne_t2_b293 : t2 ≠ b293 := Nat.ne_of_lt (Nat.lt_of_lt_of_le V_t2.lt (Nat.le_of_eq g293.symm))
  have Sf_b293 := own_sfnew hCR (Nat.le_of_eq g293.symm)
  replace Sf_b293 := Safe.ext E293 hCR.1 Sf_b293
  replace hCR := hCR.trans (CHr.ext E293 hCR.1)
  replace F_name_a1 := F_name_a1.ext E293
  replace F_city_a1 := F_city_a1.ext E293
  replace F_ipv6_a1 := F_ipv6_a1.ext E293
  replace E_s1 := E_s1.ext E293
  replace F_coder_s1 := F_coder_s1.ext E293
  replace F_value_s1 := F_value_s1.ext E293
  replace V_t1 := V_t1.ext E293
  replace E_s2 := E_s2.ext E293
  replace F_coder_s2 := F_coder_s2.ext E293
  replace F_value_s2 := F_value_s2.ext E293
  replace V_t2 := V_t2.ext E293
  replace SC := SC.ext E293
  replace Z0 := Nat.le_trans Z0 E293.1
  replace hk := Nat.le_trans hk E293.1
  replace KK := KK.ext E293
  have E_b293 := A293
  have F_value_b293 : FV Z h293 b293 .null := D293 (Or.inl (ww hw 70 rfl)) (ty := (.array .byte)) (by decide)
  have F_coder_b293 : FC Z h293 b293 (.int 0) := D293 (Or.inl (ww hw 72 rfl)) (ty := .byte) (by decide)
  have F_count_b293 : FN Z h293 b293 (.int 0) := D293 (Or.inl (ww hw 97 rfl)) (ty := .int) (by decide)
  obtain ⟨_, _, ⟨T294, _, _, _⟩, -, X294, ⟨_, hQ294, l294, y294, z294⟩, st294⟩ := X293.specialBack hx (y := mn23) rfl hown (mvT hZ (ww hw 58 rfl)) (mvT hZ (ww hw 59 rfl)) (mvT hZ (ww hw 60 rfl)) (by decide) (backOf (W := 1) (rm10 l Z a0 hw [] b293 wC h293 n0 Z0 SC hz E_b293 F_value_b293 F_coder_b293 F_count_b293 g_b293) hZ (ww hw 60 rfl) (ww hw 57 rfl) (by decide) (by decide)) (g := (mkF m 4 #[.val (.ref a1)] [.ref b293, .ref b293])) rfl (by rw [hml]; rfl) (Steps.refl _) (a := b293) (argsL := []) (rest := [.ref b293]) (lenOf pd_18 rfl) rfl (wz rfl) (hb hby d9_4) (fun _ _ => ⟨rfl, e293, (by decide : 1 + 1 ≤ _), (by decide : 4 + 16 ≤ _)⟩)
  dsimp only [Pt.U, Pt.locs, Pt.cells, Pt.slots] at X294 l294 y294 z294 st294 hQ294
  rw [l294, y294, z294] at X294
  obtain ⟨h294, e294⟩ : ∃ z, T294.heap = z := ⟨_, rfl⟩
  rw [e294] at hQ294
  obtain ⟨rfl, N294q, K294, B294, kb294, szn294, G294_0, G294_1, G294_2, G294_3⟩ := hQ294
  have g_B294 : n0 ≤ B294 := Nat.le_trans Z0 szn294
  have sz_B294 : h0.size ≤ B294 := Nat.le_trans KK.1 szn294
  have ne_a1_B294 : a1 ≠ B294 := Nat.ne_of_lt (Nat.lt_of_lt_of_le F_name_a1.lt szn294)
  have ne_s1_B294 : s1 ≠ B294 := Nat.ne_of_lt (Nat.lt_of_lt_of_le E_s1.lt szn294)
  have ne_t1_B294 : t1 ≠ B294 := Nat.ne_of_lt (Nat.lt_of_lt_of_le V_t1.lt szn294)
  have ne_s2_B294 : s2 ≠ B294 := Nat.ne_of_lt (Nat.lt_of_lt_of_le E_s2.lt szn294)
  have ne_t2_B294 : t2 ≠ B294 := Nat.ne_of_lt (Nat.lt_of_lt_of_le V_t2.lt szn294)
  have ne_b293_B294 : b293 ≠ B294 := Nat.ne_of_lt (Nat.lt_of_lt_of_le E_b293.lt szn294)
  have Sf_B294 := own_sfnew hCR szn294
  have hs := (sfS Sf_b293 sf0)
  replace Sf_b293 := Safe.keep K294 hs hCR.1 Sf_b293
  replace Sf_B294 := Safe.keep K294 hs hCR.1 Sf_B294
  replace hCR := hCR.trans (CHr.keep K294 hs hCR.1)
  replace SC := own_stakeep SC K294 (nsS (Exa.nostat E_b293) ns0)
  replace F_name_a1 := F_name_a1.keep K294 (ninS ne_a1_b293 nin0)
  replace F_city_a1 := F_city_a1.keep K294 (ninS ne_a1_b293 nin0)
  replace F_ipv6_a1 := F_ipv6_a1.keep K294 (ninS ne_a1_b293 nin0)
  replace E_s1 := E_s1.keep K294
  replace F_coder_s1 := F_coder_s1.keep K294 (ninS ne_s1_b293 nin0)
  replace F_value_s1 := F_value_s1.keep K294 (ninS ne_s1_b293 nin0)
  replace V_t1 := V_t1.keep K294 (ninS ne_t1_b293 nin0)
  replace E_s2 := E_s2.keep K294
  replace F_coder_s2 := F_coder_s2.keep K294 (ninS ne_s2_b293 nin0)
  replace F_value_s2 := F_value_s2.keep K294 (ninS ne_s2_b293 nin0)
  replace V_t2 := V_t2.keep K294 (ninS ne_t2_b293 nin0)
  replace E_b293 := E_b293.keep K294
  replace Z0 := Nat.le_trans Z0 K294.1
  replace hk := Nat.le_trans hk K294.1
  replace KK := KK.trans K294 (allS (Or.inr sz_b293) all0)
  have F_coder_b293 : FC Z h294 b293 (.int 0) := G294_0
  have F_value_b293 : FV Z h294 b293 (.ref B294) := G294_1
  have F_count_b293 : FN Z h294 b293 (.int 0) := G294_2
  have V_B294 : Arv Z h294 B294 kb294 .byte (16 : Int32) (LB ([] : List Int32)) (.int 0) := G294_3
  have N294 := Fr.app N0 N294q
  obtain ⟨b295, T295, h295, k295, B295, kb295, X295, e295, E295, hS, hk, hZ, hown, G295E, G295C, G295V, G295A, -, -, hCr295, -, hne295, st295⟩ := ldcCH X294 hx hZ hown (ww hw 73 rfl) wS e294 hS hk hEL (List.mem_of_getElem? (i := 0) rfl) hCR.1 (vs := (LB P1)) (z := (19 : Int32)) ⟨by decide, by rfl⟩ (by decide) (by decide) (g := (mkF m 7 #[.val (.ref a1)] [.ref b293])) rfl (hb hby d9_7) (n := 76) (by decide) (by decide) (by decide) (by decide)
  replace Sf_b293 := hCr295.safe E_b293.lt Sf_b293
  have ne_b293_b295 := (hne295 _ Sf_b293).1
  have ne_b293_B295 := (hne295 _ Sf_b293).2
  replace Sf_B294 := hCr295.safe V_B294.lt Sf_B294
  have ne_B294_b295 := (hne295 _ Sf_B294).1
  have ne_B294_B295 := (hne295 _ Sf_B294).2
  replace hCR := hCR.trans hCr295
  replace F_name_a1 := F_name_a1.ext E295
  replace F_city_a1 := F_city_a1.ext E295
  replace F_ipv6_a1 := F_ipv6_a1.ext E295
  replace E_s1 := E_s1.ext E295
  replace F_coder_s1 := F_coder_s1.ext E295
  replace F_value_s1 := F_value_s1.ext E295
  replace V_t1 := V_t1.ext E295
  replace E_s2 := E_s2.ext E295
  replace F_coder_s2 := F_coder_s2.ext E295
  replace F_value_s2 := F_value_s2.ext E295
  replace V_t2 := V_t2.ext E295
  replace SC := SC.ext E295
  replace E_b293 := E_b293.ext E295
  replace F_coder_b293 := F_coder_b293.ext E295
  replace F_value_b293 := F_value_b293.ext E295
  replace F_count_b293 := F_count_b293.ext E295
  replace V_B294 := V_B294.ext E295
  replace Z0 := Nat.le_trans Z0 E295.1
  replace KK := KK.ext E295
  have E_b295 : ES Z h295 b295 := G295E
  have F_coder_b295 : GC Z h295 b295 (.int 0) := G295C
  have F_value_b295 : GV Z h295 b295 (.ref B295) := G295V
  have V_B295 : Arv Z h295 B295 kb295 .byte (19 : Int32) (LB P1) (.int 0) := G295A
  obtain ⟨cq296, kq296, q296a, q296b, q296c⟩ := isOf hZ e295 E_b293
  obtain ⟨_, _, ⟨T296, _, _, _⟩, -, X296, ⟨_, hQ296, l296, y296, z296⟩, st296⟩ := X295.virtualBack hx (y := mn19) (z := mn19) hown (mvT hZ (ww hw 76 rfl)) (mvT hZ (ww hw 77 rfl)) (notFace_of_selects (args := #[]) (mvT hZ (ww hw 79 rfl))) (mvT hZ (ww hw 79 rfl)) (mvT hZ (ww hw 78 rfl)) (by decide) (backOf (W := 0) (rm12_0 l Z a0 hw [] b293 b295 B294 kb294 ([] : List Int32) B295 kb295 P1 wC h295 n0 Z0 SC hz rfl rfl E_b293 F_coder_b293 F_value_b293 F_count_b293 V_B294 E_b295 F_coder_b295 F_value_b295 V_B295 g_b293 ne_b293_B294 ne_b293_b295 ne_b293_B295) hZ (ww hw 80 rfl) (ww hw 57 rfl) (by decide) (by decide)) q296a q296c (g := (mkF m 9 #[.val (.ref a1)] [.ref b295, .ref b293])) rfl (by rw [hml]; rfl) (Steps.refl _) (argsL := [.ref b295]) (rest := []) (lenOf pd_19 rfl) rfl (wz rfl) (hb hby d9_9) (fun _ _ => ⟨rfl, e295, (by decide : 4 + 1 ≤ _), (by decide : 100 + 34 ≤ _)⟩)
  dsimp only [Pt.U, Pt.locs, Pt.cells, Pt.slots] at X296 l296 y296 z296 st296 hQ296
  rw [l296, y296, z296] at X296
  obtain ⟨h296, e296⟩ : ∃ z, T296.heap = z := ⟨_, rfl⟩
  rw [e296] at hQ296
  obtain ⟨rfl, N296q, K296, B296, kb296, szn296, G296_0, G296_1, G296_2, G296_3⟩ := hQ296
  have g_B296 : n0 ≤ B296 := Nat.le_trans Z0 szn296
  have sz_B296 : h0.size ≤ B296 := Nat.le_trans KK.1 szn296
  have ne_a1_B296 : a1 ≠ B296 := Nat.ne_of_lt (Nat.lt_of_lt_of_le F_name_a1.lt szn296)
  have ne_s1_B296 : s1 ≠ B296 := Nat.ne_of_lt (Nat.lt_of_lt_of_le E_s1.lt szn296)
  have ne_t1_B296 : t1 ≠ B296 := Nat.ne_of_lt (Nat.lt_of_lt_of_le V_t1.lt szn296)
  have ne_s2_B296 : s2 ≠ B296 := Nat.ne_of_lt (Nat.lt_of_lt_of_le E_s2.lt szn296)
  have ne_t2_B296 : t2 ≠ B296 := Nat.ne_of_lt (Nat.lt_of_lt_of_le V_t2.lt szn296)
  have ne_b293_B296 : b293 ≠ B296 := Nat.ne_of_lt (Nat.lt_of_lt_of_le E_b293.lt szn296)
  have ne_B294_B296 : B294 ≠ B296 := Nat.ne_of_lt (Nat.lt_of_lt_of_le V_B294.lt szn296)
  have ne_b295_B296 : b295 ≠ B296 := Nat.ne_of_lt (Nat.lt_of_lt_of_le E_b295.lt szn296)
  have ne_B295_B296 : B295 ≠ B296 := Nat.ne_of_lt (Nat.lt_of_lt_of_le V_B295.lt szn296)
  have Sf_B296 := own_sfnew hCR szn296
  have hs := (sfS Sf_b293 sf0)
  replace Sf_b293 := Safe.keep K296 hs hCR.1 Sf_b293
  replace Sf_B294 := Safe.keep K296 hs hCR.1 Sf_B294
  replace Sf_B296 := Safe.keep K296 hs hCR.1 Sf_B296
  replace hCR := hCR.trans (CHr.keep K296 hs hCR.1)
  replace SC := own_stakeep SC K296 (nsS (Exa.nostat E_b293) ns0)
  replace F_name_a1 := F_name_a1.keep K296 (ninS ne_a1_b293 nin0)
  replace F_city_a1 := F_city_a1.keep K296 (ninS ne_a1_b293 nin0)
  replace F_ipv6_a1 := F_ipv6_a1.keep K296 (ninS ne_a1_b293 nin0)
  replace E_s1 := E_s1.keep K296
  replace F_coder_s1 := F_coder_s1.keep K296 (ninS ne_s1_b293 nin0)
  replace F_value_s1 := F_value_s1.keep K296 (ninS ne_s1_b293 nin0)
  replace V_t1 := V_t1.keep K296 (ninS ne_t1_b293 nin0)
  replace E_s2 := E_s2.keep K296
  replace F_coder_s2 := F_coder_s2.keep K296 (ninS ne_s2_b293 nin0)
  replace F_value_s2 := F_value_s2.keep K296 (ninS ne_s2_b293 nin0)
  replace V_t2 := V_t2.keep K296 (ninS ne_t2_b293 nin0)
  replace E_b293 := E_b293.keep K296
  replace V_B294 := V_B294.keep K296 (ninS (Ne.symm ne_b293_B294) nin0)
  replace E_b295 := E_b295.keep K296
  replace F_coder_b295 := F_coder_b295.keep K296 (ninS (Ne.symm ne_b293_b295) nin0)
  replace F_value_b295 := F_value_b295.keep K296 (ninS (Ne.symm ne_b293_b295) nin0)
  replace V_B295 := V_B295.keep K296 (ninS (Ne.symm ne_b293_B295) nin0)
  replace Z0 := Nat.le_trans Z0 K296.1
  replace hk := Nat.le_trans hk K296.1
  replace KK := KK.trans K296 (allS (Or.inr sz_b293) all0)
  have F_coder_b293 : FC Z h296 b293 (.int 0) := G296_0
  have F_value_b293 : FV Z h296 b293 (.ref B296) := G296_1
  have F_count_b293 : FN Z h296 b293 (.int 19) := G296_2
  have V_B296 : Arv Z h296 B296 kb296 .byte (34 : Int32) (LB (([] : List Int32) ++ P1)) (.int 0) := G296_3
  have N296 := Fr.app N294 N296q
  obtain ⟨T297, X297, e297, st297⟩ := getF X296 hx hZ hown (host := "") (Or.inl (ww hw 42 rfl)) Via.refl e296 F_name_a1 (g := (mkF m 13 #[.val (.ref a1)] [.ref a1, .ref b293])) rfl rfl (hb hby d9_13)
  obtain ⟨cq298, kq298, q298a, q298b, q298c⟩ := isOf hZ e297 E_b293
  obtain ⟨_, _, ⟨T298, _, _, _⟩, -, X298, ⟨_, hQ298, l298, y298, z298⟩, st298⟩ := X297.virtualBack hx (y := mn19) (z := mn19) hown (mvT hZ (ww hw 76 rfl)) (mvT hZ (ww hw 77 rfl)) (notFace_of_selects (args := #[]) (mvT hZ (ww hw 79 rfl))) (mvT hZ (ww hw 79 rfl)) (mvT hZ (ww hw 78 rfl)) (by decide) (backOf (W := 0) (rm12_19 l Z a0 hw [] b293 s1 B296 kb296 (([] : List Int32) ++ P1) t1 k1 ([c1, c2] : List Int32) wC h296 n0 Z0 SC hz rfl rfl E_b293 F_coder_b293 F_value_b293 F_count_b293 V_B296 E_s1 F_coder_s1 F_value_s1 V_t1 g_b293 g_B296 ne_b293_B296 (Ne.symm ne_s1_b293) (Ne.symm ne_t1_b293) (Ne.symm ne_s1_B296) (Ne.symm ne_t1_B296)) hZ (ww hw 80 rfl) (ww hw 57 rfl) (by decide) (by decide)) q298a q298c (g := (mkF m 16 #[.val (.ref a1)] [.ref s1, .ref b293])) rfl (by rw [hml]; rfl) (Steps.refl _) (argsL := [.ref s1]) (rest := []) (lenOf pd_19 rfl) rfl (wz rfl) (hb hby d9_16) (fun _ _ => ⟨rfl, e297, (by decide : 5 + 0 ≤ _), (by decide : 134 + 0 ≤ _)⟩)
  dsimp only [Pt.U, Pt.locs, Pt.cells, Pt.slots] at X298 l298 y298 z298 st298 hQ298
  rw [l298, y298, z298] at X298
  obtain ⟨h298, e298⟩ : ∃ z, T298.heap = z := ⟨_, rfl⟩
  rw [e298] at hQ298
  obtain ⟨rfl, N298q, K298, G298_0, G298_1, G298_2, G298_3⟩ := hQ298
  have hs := (sfS Sf_b293 (sfS Sf_B296 sf0))
  replace Sf_b293 := Safe.keep K298 hs hCR.1 Sf_b293
  replace Sf_B296 := Safe.keep K298 hs hCR.1 Sf_B296
  replace hCR := hCR.trans (CHr.keep K298 hs hCR.1)
  replace SC := own_stakeep SC K298 (nsS (Exa.nostat E_b293) (nsS (Arv.nostat V_B296) ns0))
  replace F_name_a1 := F_name_a1.keep K298 (ninS ne_a1_b293 (ninS ne_a1_B296 nin0))
  replace F_city_a1 := F_city_a1.keep K298 (ninS ne_a1_b293 (ninS ne_a1_B296 nin0))
  replace F_ipv6_a1 := F_ipv6_a1.keep K298 (ninS ne_a1_b293 (ninS ne_a1_B296 nin0))
  replace E_s1 := E_s1.keep K298
  replace F_coder_s1 := F_coder_s1.keep K298 (ninS ne_s1_b293 (ninS ne_s1_B296 nin0))
  replace F_value_s1 := F_value_s1.keep K298 (ninS ne_s1_b293 (ninS ne_s1_B296 nin0))
  replace V_t1 := V_t1.keep K298 (ninS ne_t1_b293 (ninS ne_t1_B296 nin0))
  replace E_s2 := E_s2.keep K298
  replace F_coder_s2 := F_coder_s2.keep K298 (ninS ne_s2_b293 (ninS ne_s2_B296 nin0))
  replace F_value_s2 := F_value_s2.keep K298 (ninS ne_s2_b293 (ninS ne_s2_B296 nin0))
  replace V_t2 := V_t2.keep K298 (ninS ne_t2_b293 (ninS ne_t2_B296 nin0))
  replace E_b293 := E_b293.keep K298
  replace Z0 := Nat.le_trans Z0 K298.1
  replace hk := Nat.le_trans hk K298.1
  replace KK := KK.trans K298 (allS (Or.inr sz_b293) (allS (Or.inr sz_B296) all0))
  have F_coder_b293 : FC Z h298 b293 (.int 0) := G298_0
  have F_value_b293 : FV Z h298 b293 (.ref B296) := G298_1
  have F_count_b293 : FN Z h298 b293 (.int 21) := G298_2
  have V_B296 : Arv Z h298 B296 kb296 .byte (34 : Int32) (LB ((([] : List Int32) ++ P1) ++ ([c1, c2] : List Int32))) (.int 0) := G298_3
  have N298 := Fr.app N296 N298q
  obtain ⟨b299, T299, h299, k299, B299, kb299, X299, e299, E299, hS, hk, hZ, hown, G299E, G299C, G299V, G299A, -, -, hCr299, -, hne299, st299⟩ := ldcCH X298 hx hZ hown (ww hw 146 rfl) wS e298 hS hk hEL (List.mem_of_getElem? (i := 1) rfl) hCR.1 (vs := (LB P2)) (z := (7 : Int32)) ⟨by decide, by rfl⟩ (by decide) (by decide) (g := (mkF m 19 #[.val (.ref a1)] [.ref b293])) rfl (hb hby d9_19) (n := 28) (by decide) (by decide) (by decide) (by decide)
  replace Sf_b293 := hCr299.safe E_b293.lt Sf_b293
  have ne_b293_b299 := (hne299 _ Sf_b293).1
  have ne_b293_B299 := (hne299 _ Sf_b293).2
  replace Sf_B296 := hCr299.safe V_B296.lt Sf_B296
  have ne_B296_b299 := (hne299 _ Sf_B296).1
  have ne_B296_B299 := (hne299 _ Sf_B296).2
  replace hCR := hCR.trans hCr299
  replace F_name_a1 := F_name_a1.ext E299
  replace F_city_a1 := F_city_a1.ext E299
  replace F_ipv6_a1 := F_ipv6_a1.ext E299
  replace E_s2 := E_s2.ext E299
  replace F_coder_s2 := F_coder_s2.ext E299
  replace F_value_s2 := F_value_s2.ext E299
  replace V_t2 := V_t2.ext E299
  replace SC := SC.ext E299
  replace E_b293 := E_b293.ext E299
  replace F_coder_b293 := F_coder_b293.ext E299
  replace F_value_b293 := F_value_b293.ext E299
  replace F_count_b293 := F_count_b293.ext E299
  replace V_B296 := V_B296.ext E299
  replace Z0 := Nat.le_trans Z0 E299.1
  replace KK := KK.ext E299
  have E_b299 : ES Z h299 b299 := G299E
  have F_coder_b299 : GC Z h299 b299 (.int 0) := G299C
  have F_value_b299 : GV Z h299 b299 (.ref B299) := G299V
  have V_B299 : Arv Z h299 B299 kb299 .byte (7 : Int32) (LB P2) (.int 0) := G299A
  obtain ⟨cq300, kq300, q300a, q300b, q300c⟩ := isOf hZ e299 E_b293
  obtain ⟨_, _, ⟨T300, _, _, _⟩, -, X300, ⟨_, hQ300, l300, y300, z300⟩, st300⟩ := X299.virtualBack hx (y := mn19) (z := mn19) hown (mvT hZ (ww hw 76 rfl)) (mvT hZ (ww hw 77 rfl)) (notFace_of_selects (args := #[]) (mvT hZ (ww hw 79 rfl))) (mvT hZ (ww hw 79 rfl)) (mvT hZ (ww hw 78 rfl)) (by decide) (backOf (W := 0) (rm12_21 l Z a0 hw [] b293 b299 B296 kb296 ((([] : List Int32) ++ P1) ++ ([c1, c2] : List Int32)) B299 kb299 P2 wC h299 n0 Z0 SC hz rfl rfl E_b293 F_coder_b293 F_value_b293 F_count_b293 V_B296 E_b299 F_coder_b299 F_value_b299 V_B299 g_b293 g_B296 ne_b293_B296 ne_b293_b299 ne_b293_B299 ne_B296_b299 ne_B296_B299) hZ (ww hw 80 rfl) (ww hw 57 rfl) (by decide) (by decide)) q300a q300c (g := (mkF m 21 #[.val (.ref a1)] [.ref b299, .ref b293])) rfl (by rw [hml]; rfl) (Steps.refl _) (argsL := [.ref b299]) (rest := []) (lenOf pd_19 rfl) rfl (wz rfl) (hb hby d9_21) (fun _ _ => ⟨rfl, e299, (by decide : 7 + 0 ≤ _), (by decide : 166 + 0 ≤ _)⟩)
  dsimp only [Pt.U, Pt.locs, Pt.cells, Pt.slots] at X300 l300 y300 z300 st300 hQ300
  rw [l300, y300, z300] at X300
  obtain ⟨h300, e300⟩ : ∃ z, T300.heap = z := ⟨_, rfl⟩
  rw [e300] at hQ300
  obtain ⟨rfl, N300q, K300, G300_0, G300_1, G300_2, G300_3⟩ := hQ300
  have hs := (sfS Sf_b293 (sfS Sf_B296 sf0))
  replace Sf_b293 := Safe.keep K300 hs hCR.1 Sf_b293
  replace Sf_B296 := Safe.keep K300 hs hCR.1 Sf_B296
  replace hCR := hCR.trans (CHr.keep K300 hs hCR.1)
  replace SC := own_stakeep SC K300 (nsS (Exa.nostat E_b293) (nsS (Arv.nostat V_B296) ns0))
  replace F_name_a1 := F_name_a1.keep K300 (ninS ne_a1_b293 (ninS ne_a1_B296 nin0))
  replace F_city_a1 := F_city_a1.keep K300 (ninS ne_a1_b293 (ninS ne_a1_B296 nin0))
  replace F_ipv6_a1 := F_ipv6_a1.keep K300 (ninS ne_a1_b293 (ninS ne_a1_B296 nin0))
  replace E_s2 := E_s2.keep K300
  replace F_coder_s2 := F_coder_s2.keep K300 (ninS ne_s2_b293 (ninS ne_s2_B296 nin0))
  replace F_value_s2 := F_value_s2.keep K300 (ninS ne_s2_b293 (ninS ne_s2_B296 nin0))
  replace V_t2 := V_t2.keep K300 (ninS ne_t2_b293 (ninS ne_t2_B296 nin0))
  replace E_b293 := E_b293.keep K300
  replace E_b299 := E_b299.keep K300
  replace F_coder_b299 := F_coder_b299.keep K300 (ninS (Ne.symm ne_b293_b299) (ninS (Ne.symm ne_B296_b299) nin0))
  replace F_value_b299 := F_value_b299.keep K300 (ninS (Ne.symm ne_b293_b299) (ninS (Ne.symm ne_B296_b299) nin0))
  replace V_B299 := V_B299.keep K300 (ninS (Ne.symm ne_b293_B299) (ninS (Ne.symm ne_B296_B299) nin0))
  replace Z0 := Nat.le_trans Z0 K300.1
  replace hk := Nat.le_trans hk K300.1
  replace KK := KK.trans K300 (allS (Or.inr sz_b293) (allS (Or.inr sz_B296) all0))
  have F_coder_b293 : FC Z h300 b293 (.int 0) := G300_0
  have F_value_b293 : FV Z h300 b293 (.ref B296) := G300_1
  have F_count_b293 : FN Z h300 b293 (.int 28) := G300_2
  have V_B296 : Arv Z h300 B296 kb296 .byte (34 : Int32) (LB (((([] : List Int32) ++ P1) ++ ([c1, c2] : List Int32)) ++ P2)) (.int 0) := G300_3
  have N300 := Fr.app N298 N300q
  obtain ⟨T301, X301, e301, st301⟩ := getF X300 hx hZ hown (host := "") (Or.inl (ww hw 44 rfl)) Via.refl e300 F_city_a1 (g := (mkF m 25 #[.val (.ref a1)] [.ref a1, .ref b293])) rfl rfl (hb hby d9_25)
  obtain ⟨cq302, kq302, q302a, q302b, q302c⟩ := isOf hZ e301 E_b293
  obtain ⟨_, _, ⟨T302, _, _, _⟩, -, X302, ⟨_, hQ302, l302, y302, z302⟩, st302⟩ := X301.virtualBack hx (y := mn19) (z := mn19) hown (mvT hZ (ww hw 76 rfl)) (mvT hZ (ww hw 77 rfl)) (notFace_of_selects (args := #[]) (mvT hZ (ww hw 79 rfl))) (mvT hZ (ww hw 79 rfl)) (mvT hZ (ww hw 78 rfl)) (by decide) (backOf (W := 0) (rm12_28 l Z a0 hw [] b293 s2 B296 kb296 (((([] : List Int32) ++ P1) ++ ([c1, c2] : List Int32)) ++ P2) t2 k2 ([c3, c4] : List Int32) wC h300 n0 Z0 SC hz rfl rfl E_b293 F_coder_b293 F_value_b293 F_count_b293 V_B296 E_s2 F_coder_s2 F_value_s2 V_t2 g_b293 g_B296 ne_b293_B296 (Ne.symm ne_s2_b293) (Ne.symm ne_t2_b293) (Ne.symm ne_s2_B296) (Ne.symm ne_t2_B296)) hZ (ww hw 80 rfl) (ww hw 57 rfl) (by decide) (by decide)) q302a q302c (g := (mkF m 28 #[.val (.ref a1)] [.ref s2, .ref b293])) rfl (by rw [hml]; rfl) (Steps.refl _) (argsL := [.ref s2]) (rest := []) (lenOf pd_19 rfl) rfl (wz rfl) (hb hby d9_28) (fun _ _ => ⟨rfl, e301, (by decide : 7 + 0 ≤ _), (by decide : 166 + 0 ≤ _)⟩)
  dsimp only [Pt.U, Pt.locs, Pt.cells, Pt.slots] at X302 l302 y302 z302 st302 hQ302
  rw [l302, y302, z302] at X302
  obtain ⟨h302, e302⟩ : ∃ z, T302.heap = z := ⟨_, rfl⟩
  rw [e302] at hQ302
  obtain ⟨rfl, N302q, K302, G302_0, G302_1, G302_2, G302_3⟩ := hQ302
  have hs := (sfS Sf_b293 (sfS Sf_B296 sf0))
  replace Sf_b293 := Safe.keep K302 hs hCR.1 Sf_b293
  replace Sf_B296 := Safe.keep K302 hs hCR.1 Sf_B296
  replace hCR := hCR.trans (CHr.keep K302 hs hCR.1)
  replace SC := own_stakeep SC K302 (nsS (Exa.nostat E_b293) (nsS (Arv.nostat V_B296) ns0))
  replace F_name_a1 := F_name_a1.keep K302 (ninS ne_a1_b293 (ninS ne_a1_B296 nin0))
  replace F_city_a1 := F_city_a1.keep K302 (ninS ne_a1_b293 (ninS ne_a1_B296 nin0))
  replace F_ipv6_a1 := F_ipv6_a1.keep K302 (ninS ne_a1_b293 (ninS ne_a1_B296 nin0))
  replace E_s2 := E_s2.keep K302
  replace F_coder_s2 := F_coder_s2.keep K302 (ninS ne_s2_b293 (ninS ne_s2_B296 nin0))
  replace F_value_s2 := F_value_s2.keep K302 (ninS ne_s2_b293 (ninS ne_s2_B296 nin0))
  replace V_t2 := V_t2.keep K302 (ninS ne_t2_b293 (ninS ne_t2_B296 nin0))
  replace E_b293 := E_b293.keep K302
  replace Z0 := Nat.le_trans Z0 K302.1
  replace hk := Nat.le_trans hk K302.1
  replace KK := KK.trans K302 (allS (Or.inr sz_b293) (allS (Or.inr sz_B296) all0))
  have F_coder_b293 : FC Z h302 b293 (.int 0) := G302_0
  have F_value_b293 : FV Z h302 b293 (.ref B296) := G302_1
  have F_count_b293 : FN Z h302 b293 (.int 30) := G302_2
  have V_B296 : Arv Z h302 B296 kb296 .byte (34 : Int32) (LB ((((([] : List Int32) ++ P1) ++ ([c1, c2] : List Int32)) ++ P2) ++ ([c3, c4] : List Int32))) (.int 0) := G302_3
  have N302 := Fr.app N300 N302q
  obtain ⟨b303, T303, h303, k303, B303, kb303, X303, e303, E303, hS, hk, hZ, hown, G303E, G303C, G303V, G303A, -, -, hCr303, -, hne303, st303⟩ := ldcCH X302 hx hZ hown (ww hw 147 rfl) wS e302 hS hk hEL (List.mem_of_getElem? (i := 2) rfl) hCR.1 (vs := (LB P3)) (z := (7 : Int32)) ⟨by decide, by rfl⟩ (by decide) (by decide) (g := (mkF m 31 #[.val (.ref a1)] [.ref b293])) rfl (hb hby d9_31) (n := 28) (by decide) (by decide) (by decide) (by decide)
  replace Sf_b293 := hCr303.safe E_b293.lt Sf_b293
  have ne_b293_b303 := (hne303 _ Sf_b293).1
  have ne_b293_B303 := (hne303 _ Sf_b293).2
  replace Sf_B296 := hCr303.safe V_B296.lt Sf_B296
  have ne_B296_b303 := (hne303 _ Sf_B296).1
  have ne_B296_B303 := (hne303 _ Sf_B296).2
  replace hCR := hCR.trans hCr303
  replace F_name_a1 := F_name_a1.ext E303
  replace F_city_a1 := F_city_a1.ext E303
  replace F_ipv6_a1 := F_ipv6_a1.ext E303
  replace SC := SC.ext E303
  replace E_b293 := E_b293.ext E303
  replace F_coder_b293 := F_coder_b293.ext E303
  replace F_value_b293 := F_value_b293.ext E303
  replace F_count_b293 := F_count_b293.ext E303
  replace V_B296 := V_B296.ext E303
  replace Z0 := Nat.le_trans Z0 E303.1
  replace KK := KK.ext E303
  have E_b303 : ES Z h303 b303 := G303E
  have F_coder_b303 : GC Z h303 b303 (.int 0) := G303C
  have F_value_b303 : GV Z h303 b303 (.ref B303) := G303V
  have V_B303 : Arv Z h303 B303 kb303 .byte (7 : Int32) (LB P3) (.int 0) := G303A
  obtain ⟨cq304, kq304, q304a, q304b, q304c⟩ := isOf hZ e303 E_b293
  obtain ⟨_, _, ⟨T304, _, _, _⟩, -, X304, ⟨_, hQ304, l304, y304, z304⟩, st304⟩ := X303.virtualBack hx (y := mn19) (z := mn19) hown (mvT hZ (ww hw 76 rfl)) (mvT hZ (ww hw 77 rfl)) (notFace_of_selects (args := #[]) (mvT hZ (ww hw 79 rfl))) (mvT hZ (ww hw 79 rfl)) (mvT hZ (ww hw 78 rfl)) (by decide) (backOf (W := 0) (rm12_30 l Z a0 hw [] b293 b303 B296 kb296 ((((([] : List Int32) ++ P1) ++ ([c1, c2] : List Int32)) ++ P2) ++ ([c3, c4] : List Int32)) B303 kb303 P3 wC h303 n0 Z0 SC hz rfl rfl E_b293 F_coder_b293 F_value_b293 F_count_b293 V_B296 E_b303 F_coder_b303 F_value_b303 V_B303 g_b293 ne_b293_B296 ne_b293_b303 ne_b293_B303) hZ (ww hw 80 rfl) (ww hw 57 rfl) (by decide) (by decide)) q304a q304c (g := (mkF m 33 #[.val (.ref a1)] [.ref b303, .ref b293])) rfl (by rw [hml]; rfl) (Steps.refl _) (argsL := [.ref b303]) (rest := []) (lenOf pd_19 rfl) rfl (wz rfl) (hb hby d9_33) (fun _ _ => ⟨rfl, e303, (by decide : 9 + 1 ≤ _), (by decide : 198 + 70 ≤ _)⟩)
  dsimp only [Pt.U, Pt.locs, Pt.cells, Pt.slots] at X304 l304 y304 z304 st304 hQ304
  rw [l304, y304, z304] at X304
  obtain ⟨h304, e304⟩ : ∃ z, T304.heap = z := ⟨_, rfl⟩
  rw [e304] at hQ304
  obtain ⟨rfl, N304q, K304, B304, kb304, szn304, G304_0, G304_1, G304_2, G304_3⟩ := hQ304
  have g_B304 : n0 ≤ B304 := Nat.le_trans Z0 szn304
  have sz_B304 : h0.size ≤ B304 := Nat.le_trans KK.1 szn304
  have ne_a1_B304 : a1 ≠ B304 := Nat.ne_of_lt (Nat.lt_of_lt_of_le F_name_a1.lt szn304)
  have ne_b293_B304 : b293 ≠ B304 := Nat.ne_of_lt (Nat.lt_of_lt_of_le E_b293.lt szn304)
  have ne_B296_B304 : B296 ≠ B304 := Nat.ne_of_lt (Nat.lt_of_lt_of_le V_B296.lt szn304)
  have ne_b303_B304 : b303 ≠ B304 := Nat.ne_of_lt (Nat.lt_of_lt_of_le E_b303.lt szn304)
  have ne_B303_B304 : B303 ≠ B304 := Nat.ne_of_lt (Nat.lt_of_lt_of_le V_B303.lt szn304)
  have Sf_B304 := own_sfnew hCR szn304
  have hs := (sfS Sf_b293 sf0)
  replace Sf_b293 := Safe.keep K304 hs hCR.1 Sf_b293
  replace Sf_B296 := Safe.keep K304 hs hCR.1 Sf_B296
  replace Sf_B304 := Safe.keep K304 hs hCR.1 Sf_B304
  replace hCR := hCR.trans (CHr.keep K304 hs hCR.1)
  replace SC := own_stakeep SC K304 (nsS (Exa.nostat E_b293) ns0)
  replace F_name_a1 := F_name_a1.keep K304 (ninS ne_a1_b293 nin0)
  replace F_city_a1 := F_city_a1.keep K304 (ninS ne_a1_b293 nin0)
  replace F_ipv6_a1 := F_ipv6_a1.keep K304 (ninS ne_a1_b293 nin0)
  replace E_b293 := E_b293.keep K304
  replace V_B296 := V_B296.keep K304 (ninS (Ne.symm ne_b293_B296) nin0)
  replace E_b303 := E_b303.keep K304
  replace F_coder_b303 := F_coder_b303.keep K304 (ninS (Ne.symm ne_b293_b303) nin0)
  replace F_value_b303 := F_value_b303.keep K304 (ninS (Ne.symm ne_b293_b303) nin0)
  replace V_B303 := V_B303.keep K304 (ninS (Ne.symm ne_b293_B303) nin0)
  replace Z0 := Nat.le_trans Z0 K304.1
  replace hk := Nat.le_trans hk K304.1
  replace KK := KK.trans K304 (allS (Or.inr sz_b293) all0)
  have F_coder_b293 : FC Z h304 b293 (.int 0) := G304_0
  have F_value_b293 : FV Z h304 b293 (.ref B304) := G304_1
  have F_count_b293 : FN Z h304 b293 (.int 37) := G304_2
  have V_B304 : Arv Z h304 B304 kb304 .byte (70 : Int32) (LB (((((([] : List Int32) ++ P1) ++ ([c1, c2] : List Int32)) ++ P2) ++ ([c3, c4] : List Int32)) ++ P3)) (.int 0) := G304_3
  have N304 := Fr.app N302 N304q
  obtain ⟨T305, X305, e305, st305⟩ := getF X304 hx hZ hown (host := "") (Or.inl (ww hw 48 rfl)) Via.refl e304 F_ipv6_a1 (g := (mkF m 37 #[.val (.ref a1)] [.ref a1, .ref b293])) rfl rfl (hb hby d9_37)
  obtain ⟨cq306, kq306, q306a, q306b, q306c⟩ := isOf hZ e305 E_b293
  obtain ⟨_, _, ⟨T306, _, _, _⟩, -, X306, ⟨_, hQ306, l306, y306, z306⟩, st306⟩ := X305.virtualBack hx (y := mn21) (z := mn21) hown (mvT hZ (ww hw 148 rfl)) (mvT hZ (ww hw 149 rfl)) (notFace_of_selects (args := #[]) (mvT hZ (ww hw 151 rfl))) (mvT hZ (ww hw 151 rfl)) (mvT hZ (ww hw 150 rfl)) (by decide) (backOf (W := 0) (rm25_0 l Z a0 hw [] b293 B304 kb304 (((((([] : List Int32) ++ P1) ++ ([c1, c2] : List Int32)) ++ P2) ++ ([c3, c4] : List Int32)) ++ P3) wC h304 n0 Z0 SC hz rfl E_b293 F_coder_b293 F_value_b293 F_count_b293 V_B304 g_b293 g_B304 ne_b293_B304) hZ (ww hw 152 rfl) (ww hw 57 rfl) (by decide) (by decide)) q306a q306c (g := (mkF m 40 #[.val (.ref a1)] [.int 0, .ref b293])) rfl (by rw [hml]; rfl) (Steps.refl _) (argsL := [.int 0]) (rest := []) (lenOf pd_20 rfl) rfl (wz rfl) (hb hby d9_40) (fun _ _ => ⟨rfl, e305, (by decide : 10 + 0 ≤ _), (by decide : 268 + 0 ≤ _)⟩)
  dsimp only [Pt.U, Pt.locs, Pt.cells, Pt.slots] at X306 l306 y306 z306 st306 hQ306
  rw [l306, y306, z306] at X306
  obtain ⟨h306, e306⟩ : ∃ z, T306.heap = z := ⟨_, rfl⟩
  rw [e306] at hQ306
  obtain ⟨rfl, N306q, K306, G306_0, G306_1, G306_2, G306_3⟩ := hQ306
  have hs := (sfS Sf_b293 (sfS Sf_B304 sf0))
  replace Sf_b293 := Safe.keep K306 hs hCR.1 Sf_b293
  replace Sf_B304 := Safe.keep K306 hs hCR.1 Sf_B304
  replace hCR := hCR.trans (CHr.keep K306 hs hCR.1)
  replace SC := own_stakeep SC K306 (nsS (Exa.nostat E_b293) (nsS (Arv.nostat V_B304) ns0))
  replace F_name_a1 := F_name_a1.keep K306 (ninS ne_a1_b293 (ninS ne_a1_B304 nin0))
  replace F_city_a1 := F_city_a1.keep K306 (ninS ne_a1_b293 (ninS ne_a1_B304 nin0))
  replace F_ipv6_a1 := F_ipv6_a1.keep K306 (ninS ne_a1_b293 (ninS ne_a1_B304 nin0))
  replace E_b293 := E_b293.keep K306
  replace Z0 := Nat.le_trans Z0 K306.1
  replace hk := Nat.le_trans hk K306.1
  replace KK := KK.trans K306 (allS (Or.inr sz_b293) (allS (Or.inr sz_B304) all0))
  have F_coder_b293 : FC Z h306 b293 (.int 0) := G306_0
  have F_value_b293 : FV Z h306 b293 (.ref B304) := G306_1
  have F_count_b293 : FN Z h306 b293 (.int 42) := G306_2
  have V_B304 : Arv Z h306 B304 kb304 .byte (70 : Int32) (LB ((((((((((([] : List Int32) ++ P1) ++ ([c1, c2] : List Int32)) ++ P2) ++ ([c3, c4] : List Int32)) ++ P3) ++ [(102 : Int32)]) ++ [(97 : Int32)]) ++ [(108 : Int32)]) ++ [(115 : Int32)]) ++ [(101 : Int32)])) (.int 0) := G306_3
  have N306 := Fr.app N304 N306q
  obtain ⟨b307, T307, h307, k307, B307, kb307, X307, e307, E307, hS, hk, hZ, hown, G307E, G307C, G307V, G307A, -, -, hCr307, -, hne307, st307⟩ := ldcCH X306 hx hZ hown (ww hw 162 rfl) wS e306 hS hk hEL (List.mem_of_getElem? (i := 3) rfl) hCR.1 (vs := (LB P4)) (z := (1 : Int32)) ⟨by decide, by rfl⟩ (by decide) (by decide) (g := (mkF m 43 #[.val (.ref a1)] [.ref b293])) rfl (hb hby d9_43) (n := 4) (by decide) (by decide) (by decide) (by decide)
  replace Sf_b293 := hCr307.safe E_b293.lt Sf_b293
  have ne_b293_b307 := (hne307 _ Sf_b293).1
  have ne_b293_B307 := (hne307 _ Sf_b293).2
  replace Sf_B304 := hCr307.safe V_B304.lt Sf_B304
  have ne_B304_b307 := (hne307 _ Sf_B304).1
  have ne_B304_B307 := (hne307 _ Sf_B304).2
  replace hCR := hCR.trans hCr307
  replace F_name_a1 := F_name_a1.ext E307
  replace F_city_a1 := F_city_a1.ext E307
  replace F_ipv6_a1 := F_ipv6_a1.ext E307
  replace SC := SC.ext E307
  replace E_b293 := E_b293.ext E307
  replace F_coder_b293 := F_coder_b293.ext E307
  replace F_value_b293 := F_value_b293.ext E307
  replace F_count_b293 := F_count_b293.ext E307
  replace V_B304 := V_B304.ext E307
  replace Z0 := Nat.le_trans Z0 E307.1
  replace KK := KK.ext E307
  have E_b307 : ES Z h307 b307 := G307E
  have F_coder_b307 : GC Z h307 b307 (.int 0) := G307C
  have F_value_b307 : GV Z h307 b307 (.ref B307) := G307V
  have V_B307 : Arv Z h307 B307 kb307 .byte (1 : Int32) (LB P4) (.int 0) := G307A
  obtain ⟨cq308, kq308, q308a, q308b, q308c⟩ := isOf hZ e307 E_b293
  obtain ⟨_, _, ⟨T308, _, _, _⟩, -, X308, ⟨_, hQ308, l308, y308, z308⟩, st308⟩ := X307.virtualBack hx (y := mn19) (z := mn19) hown (mvT hZ (ww hw 76 rfl)) (mvT hZ (ww hw 77 rfl)) (notFace_of_selects (args := #[]) (mvT hZ (ww hw 79 rfl))) (mvT hZ (ww hw 79 rfl)) (mvT hZ (ww hw 78 rfl)) (by decide) (backOf (W := 0) (rm12_42 l Z a0 hw [] b293 b307 B304 kb304 ((((((((((([] : List Int32) ++ P1) ++ ([c1, c2] : List Int32)) ++ P2) ++ ([c3, c4] : List Int32)) ++ P3) ++ [(102 : Int32)]) ++ [(97 : Int32)]) ++ [(108 : Int32)]) ++ [(115 : Int32)]) ++ [(101 : Int32)]) B307 kb307 P4 wC h307 n0 Z0 SC hz rfl rfl E_b293 F_coder_b293 F_value_b293 F_count_b293 V_B304 E_b307 F_coder_b307 F_value_b307 V_B307 g_b293 g_B304 ne_b293_B304 ne_b293_b307 ne_b293_B307 ne_B304_b307 ne_B304_B307) hZ (ww hw 80 rfl) (ww hw 57 rfl) (by decide) (by decide)) q308a q308c (g := (mkF m 45 #[.val (.ref a1)] [.ref b307, .ref b293])) rfl (by rw [hml]; rfl) (Steps.refl _) (argsL := [.ref b307]) (rest := []) (lenOf pd_19 rfl) rfl (wz rfl) (hb hby d9_45) (fun _ _ => ⟨rfl, e307, (by decide : 12 + 0 ≤ _), (by decide : 276 + 0 ≤ _)⟩)
  dsimp only [Pt.U, Pt.locs, Pt.cells, Pt.slots] at X308 l308 y308 z308 st308 hQ308
  rw [l308, y308, z308] at X308
  obtain ⟨h308, e308⟩ : ∃ z, T308.heap = z := ⟨_, rfl⟩
  rw [e308] at hQ308
  obtain ⟨rfl, N308q, K308, G308_0, G308_1, G308_2, G308_3⟩ := hQ308
  have hs := (sfS Sf_b293 (sfS Sf_B304 sf0))
  replace Sf_b293 := Safe.keep K308 hs hCR.1 Sf_b293
  replace Sf_B304 := Safe.keep K308 hs hCR.1 Sf_B304
  replace hCR := hCR.trans (CHr.keep K308 hs hCR.1)
  replace SC := own_stakeep SC K308 (nsS (Exa.nostat E_b293) (nsS (Arv.nostat V_B304) ns0))
  replace F_name_a1 := F_name_a1.keep K308 (ninS ne_a1_b293 (ninS ne_a1_B304 nin0))
  replace F_city_a1 := F_city_a1.keep K308 (ninS ne_a1_b293 (ninS ne_a1_B304 nin0))
  replace F_ipv6_a1 := F_ipv6_a1.keep K308 (ninS ne_a1_b293 (ninS ne_a1_B304 nin0))
  replace E_b293 := E_b293.keep K308
  replace E_b307 := E_b307.keep K308
  replace F_coder_b307 := F_coder_b307.keep K308 (ninS (Ne.symm ne_b293_b307) (ninS (Ne.symm ne_B304_b307) nin0))
  replace F_value_b307 := F_value_b307.keep K308 (ninS (Ne.symm ne_b293_b307) (ninS (Ne.symm ne_B304_b307) nin0))
  replace V_B307 := V_B307.keep K308 (ninS (Ne.symm ne_b293_B307) (ninS (Ne.symm ne_B304_B307) nin0))
  replace Z0 := Nat.le_trans Z0 K308.1
  replace hk := Nat.le_trans hk K308.1
  replace KK := KK.trans K308 (allS (Or.inr sz_b293) (allS (Or.inr sz_B304) all0))
  have F_coder_b293 : FC Z h308 b293 (.int 0) := G308_0
  have F_value_b293 : FV Z h308 b293 (.ref B304) := G308_1
  have F_count_b293 : FN Z h308 b293 (.int 43) := G308_2
  have V_B304 : Arv Z h308 B304 kb304 .byte (70 : Int32) (LB (((((((((((([] : List Int32) ++ P1) ++ ([c1, c2] : List Int32)) ++ P2) ++ ([c3, c4] : List Int32)) ++ P3) ++ [(102 : Int32)]) ++ [(97 : Int32)]) ++ [(108 : Int32)]) ++ [(115 : Int32)]) ++ [(101 : Int32)]) ++ P4)) (.int 0) := G308_3
  have N308 := Fr.app N306 N308q
  obtain ⟨cq309, kq309, q309a, q309b, q309c⟩ := isOf hZ e308 E_b293
  obtain ⟨_, _, ⟨T309, _, _, _⟩, -, X309, ⟨_, hQ309, l309, y309, z309⟩, st309⟩ := X308.virtualBack hx (y := mn26) (z := mn26) hown (mvT hZ (ww hw 163 rfl)) (mvT hZ (ww hw 164 rfl)) (notFace_of_selects (args := #[]) (mvT hZ (ww hw 166 rfl))) (mvT hZ (ww hw 166 rfl)) (mvT hZ (ww hw 165 rfl)) (by decide) (backOf (W := 0) (rm28_43 l Z a0 hw [] b293 B304 kb304 (((((((((((([] : List Int32) ++ P1) ++ ([c1, c2] : List Int32)) ++ P2) ++ ([c3, c4] : List Int32)) ++ P3) ++ [(102 : Int32)]) ++ [(97 : Int32)]) ++ [(108 : Int32)]) ++ [(115 : Int32)]) ++ [(101 : Int32)]) ++ P4) wC h308 n0 Z0 SC hz rfl E_b293 F_coder_b293 F_value_b293 F_count_b293 V_B304) hZ (ww hw 167 rfl) (ww hw 57 rfl) (by decide) (by decide)) q309a q309c (g := (mkF m 48 #[.val (.ref a1)] [.ref b293])) rfl (by rw [hml]; rfl) (Steps.refl _) (argsL := []) (rest := []) (lenOf pd_21 rfl) rfl (wz rfl) (hb hby d9_48) (fun _ _ => ⟨rfl, e308, (by decide : 12 + 2 ≤ _), (by decide : 276 + 47 ≤ _)⟩)
  dsimp only [Pt.U, Pt.locs, Pt.cells, Pt.slots] at X309 l309 y309 z309 st309 hQ309
  rw [l309, y309, z309] at X309
  obtain ⟨h309, e309⟩ : ∃ z, T309.heap = z := ⟨_, rfl⟩
  rw [e309] at hQ309
  obtain ⟨b309, B309, kb309, rfl, N309q, K309, szx309, szt309, G309E, G309C, G309V, G309A⟩ := hQ309
  have g_b309 : n0 ≤ b309 := Nat.le_trans Z0 szx309
  have sz_b309 : h0.size ≤ b309 := Nat.le_trans KK.1 szx309
  have ne_a1_b309 : a1 ≠ b309 := Nat.ne_of_lt (Nat.lt_of_lt_of_le F_name_a1.lt szx309)
  have ne_b293_b309 : b293 ≠ b309 := Nat.ne_of_lt (Nat.lt_of_lt_of_le E_b293.lt szx309)
  have ne_B304_b309 : B304 ≠ b309 := Nat.ne_of_lt (Nat.lt_of_lt_of_le V_B304.lt szx309)
  have Sf_b309 := own_sfnew hCR szx309
  have g_B309 : n0 ≤ B309 := Nat.le_trans Z0 szt309
  have sz_B309 : h0.size ≤ B309 := Nat.le_trans KK.1 szt309
  have ne_a1_B309 : a1 ≠ B309 := Nat.ne_of_lt (Nat.lt_of_lt_of_le F_name_a1.lt szt309)
  have ne_b293_B309 : b293 ≠ B309 := Nat.ne_of_lt (Nat.lt_of_lt_of_le E_b293.lt szt309)
  have ne_B304_B309 : B304 ≠ B309 := Nat.ne_of_lt (Nat.lt_of_lt_of_le V_B304.lt szt309)
  have Sf_B309 := own_sfnew hCR szt309
  replace Sf_b293 := Safe.keep K309 sf0 hCR.1 Sf_b293
  replace Sf_B304 := Safe.keep K309 sf0 hCR.1 Sf_B304
  replace Sf_b309 := Safe.keep K309 sf0 hCR.1 Sf_b309
  replace Sf_B309 := Safe.keep K309 sf0 hCR.1 Sf_B309
  replace hCR := hCR.trans (CHr.keep K309 sf0 hCR.1)
  replace SC := own_stakeep SC K309 ns0
  replace F_name_a1 := F_name_a1.keep K309 nin0
  replace F_city_a1 := F_city_a1.keep K309 nin0
  replace F_ipv6_a1 := F_ipv6_a1.keep K309 nin0
  replace E_b293 := E_b293.keep K309
  replace F_coder_b293 := F_coder_b293.keep K309 nin0
  replace F_value_b293 := F_value_b293.keep K309 nin0
  replace F_count_b293 := F_count_b293.keep K309 nin0
  replace V_B304 := V_B304.keep K309 nin0
  replace Z0 := Nat.le_trans Z0 K309.1
  replace hk := Nat.le_trans hk K309.1
  replace KK := KK.trans K309 all0
  have E_b309 : ES Z h309 b309 := G309E
  have F_coder_b309 : GC Z h309 b309 (.int 0) := G309C
  have F_value_b309 : GV Z h309 b309 (.ref B309) := G309V
  have V_B309 : Arv Z h309 B309 kb309 .byte (43 : Int32) (LB (((((((((((([] : List Int32) ++ P1) ++ ([c1, c2] : List Int32)) ++ P2) ++ ([c3, c4] : List Int32)) ++ P3) ++ [(102 : Int32)]) ++ [(97 : Int32)]) ++ [(108 : Int32)]) ++ [(115 : Int32)]) ++ [(101 : Int32)]) ++ P4)) (.int 0) := G309A
  have N309 := Fr.app N308 N309q
  obtain ⟨fs, hr, hrun, hended, hEW⟩ := X309.leaveW hS (by rw [e309]; exact hk) (v := some (.ref b309)) (fun h => by rw [Bd.returns] at h; cases h)
  refine ⟨_, _, pre0 _ ?_, hrun, hended, _, _, rfl, ?_, (by rw [hh]; show CHr Z consts_1 s.vm h0 T309.vm T309.heap; rw [e309]; exact hCR.trans (CHv.at X309 hZ hEL hCR.1)), hEW.1, hEW.2.1, hEW.2.2.1, hEW.2.2.2.mono (by decide) (by decide)⟩
  · refine st293 _ ?_
    show SP p e below T293 (mkF m 3 #[.val (.ref a1)] [.ref b293]) _
    refine y_dup X293 hx hby d9_3 rfl ?_
    refine st294.trans ?_
    show SP p e below T294 (mkF m 7 #[.val (.ref a1)] [.ref b293]) _
    refine st295 _ ?_
    show SP p e below T295 (mkF m 9 #[.val (.ref a1)] [.ref b295, .ref b293]) _
    refine st296.trans ?_
    show SP p e below T296 (mkF m 12 #[.val (.ref a1)] [.ref b293]) _
    refine y_aloadN X296 hx hby d9_12 rfl rfl ?_
    refine st297 _ ?_
    show SP p e below T297 (mkF m 16 #[.val (.ref a1)] [.ref s1, .ref b293]) _
    refine st298.trans ?_
    show SP p e below T298 (mkF m 19 #[.val (.ref a1)] [.ref b293]) _
    refine st299 _ ?_
    show SP p e below T299 (mkF m 21 #[.val (.ref a1)] [.ref b299, .ref b293]) _
    refine st300.trans ?_
    show SP p e below T300 (mkF m 24 #[.val (.ref a1)] [.ref b293]) _
    refine y_aloadN X300 hx hby d9_24 rfl rfl ?_
    refine st301 _ ?_
    show SP p e below T301 (mkF m 28 #[.val (.ref a1)] [.ref s2, .ref b293]) _
    refine st302.trans ?_
    show SP p e below T302 (mkF m 31 #[.val (.ref a1)] [.ref b293]) _
    refine st303 _ ?_
    show SP p e below T303 (mkF m 33 #[.val (.ref a1)] [.ref b303, .ref b293]) _
    refine st304.trans ?_
    show SP p e below T304 (mkF m 36 #[.val (.ref a1)] [.ref b293]) _
    refine y_aloadN X304 hx hby d9_36 rfl rfl ?_
    refine st305 _ ?_
    show SP p e below T305 (mkF m 40 #[.val (.ref a1)] [.int 0, .ref b293]) _
    refine st306.trans ?_
    show SP p e below T306 (mkF m 43 #[.val (.ref a1)] [.ref b293]) _
    refine st307 _ ?_
    show SP p e below T307 (mkF m 45 #[.val (.ref a1)] [.ref b307, .ref b293]) _
    refine st308.trans ?_
    show SP p e below T308 (mkF m 48 #[.val (.ref a1)] [.ref b293]) _
    refine st309.trans ?_
    show Steps p.tables e below (T309.setTop (mkF m 51 #[.val (.ref a1)] [.ref b309])) _
    jvm_step X309.here [X309.here.top, hx, (hb hby d9_51), X309.method', Bd.returns, Value.isRef, FieldType.isReference]
    first | (intro acts; rw [hr _ acts rfl rfl rfl]) | rw [hr _ _ rfl rfl rfl]
    exact Steps.refl _
  · show QM Z _ _ h0 n0 _ T309.heap _
    rw [e309]
    exact ⟨_, _, _, rfl, N309, KK, sz_b309, sz_B309, E_b309, F_coder_b309, F_value_b309, V_B309⟩
abbrev cd8 := jdk_30_method_1_code
theorem d8_0 : DD cd8 0 (.aload_n 0) 1 := by decide +kernel
theorem d8_1 : DD cd8 1 (.invokespecial 1) 3 := by decide +kernel
theorem d8_4 : DD cd8 4 (.return_) 1 := by decide +kernel
abbrev mn28 : MethodName := ⟨"java/lang/Record", "<init>", "()V"⟩
theorem pn_8 : plainName "java/lang/Record" = true := by first | (simp [plainName, overriddenIn]; done) | decide +kernel
theorem ef_8 (m : MethodId) (x0 : Addr) : entryFrame m #[.ref x0] 1 = mkF m 0 #[.val (.ref x0)] [] := by first | (simp [entryFrame, mkF, argsToLocals, Value.category]; done) | rfl
set_option maxRecDepth 65536 in
set_option maxHeartbeats 40000000 in
theorem rm8 (l : Launch) (Z : State) (a0 : Array Value) (hw : HW a0 Z) (ws : List Jvm.Cond) (a1 : Addr) (h0 : Heap) (n0 : Nat) (Z0 : n0 ≤ h0.size) :
    MF l mn28 jdk_30_method_1_code 1 none ws (RM 1 0 0 12) #[.ref a1] Z h0 (QP none h0 n0) := by
  refine MetFree.of_bodySF (plainFor_of_name pn_8) hisR ?_
  intro p e s m args below meth c s₁ Bd hml0 hP hK
  obtain ⟨rfl, hZ, hh⟩ := hP
  have hx := Bd.exec
  have hby := Bd.bytes
  have hml : c.maxLocals = 1 := hml0
  have hown : s.vm.findClass "java/lang/Record" = some m.cls := findClass_of_methodNamed Bd.named
  have hnm := (name_of_methodNamed Bd.named Bd.method).1
  have X0 : Stand p l e (RM 1 0 0 12) s m #[.ref a1] below meth c s₁ [] 0 0 := Stand.of_body Bd
  have e0 : s₁.heap = h0 := by rw [← hh, Bd.state]; rfl
  have N0 := Fr.nil n0
  have pre0 : GO p e below (s₁.setTop (mkF m 0 #[.val (.ref a1)] [])) (s₁.setTop (entryFrame m #[.ref a1] 1)) := fun t k => castTop (ef_8 m a1) k
  obtain ⟨T310, X310, e310, st310⟩ := initO X0 hx hZ hown (ww hw 41 rfl) (ww hw 12 rfl) (ww hw 13 rfl) e0 (g := (mkF m 1 #[.val (.ref a1)] [.ref a1])) rfl (by rw [hml]; rfl) rfl (hb hby d8_1) (by decide) (W := 0) (wz rfl) (by decide)
  obtain ⟨fs, hr, hrun, hended, hW, hsame⟩ := X310.leave (v := none) (fun _ => rfl)
  refine ⟨_, _, pre0 _ ?_, hrun, hended, _, _, rfl, ?_, ⟨_, rfl⟩, hW, hsame.mono (by decide) (by decide)⟩
  · refine y_aloadN X0 hx hby d8_0 rfl rfl ?_
    refine st310 _ ?_
    show Steps p.tables e below (T310.setTop (mkF m 4 #[.val (.ref a1)] [])) _
    exact X310.returnOut hx Bd.returns (hb hby d8_4) hr
  · show QP _ h0 n0 _ T310.heap _
    rw [e310]
    exact ⟨rfl, N0, rfl⟩
abbrev cd7 := prog_20_method_1_code
theorem d7_0 : DD cd7 0 (.aload_n 0) 1 := by decide +kernel
theorem d7_1 : DD cd7 1 (.invokespecial 1) 3 := by decide +kernel
theorem d7_4 : DD cd7 4 (.aload_n 0) 1 := by decide +kernel
theorem d7_5 : DD cd7 5 (.aload_n 1) 1 := by decide +kernel
theorem d7_6 : DD cd7 6 (.putfield 7) 3 := by decide +kernel
theorem d7_9 : DD cd7 9 (.aload_n 0) 1 := by decide +kernel
theorem d7_10 : DD cd7 10 (.aload_n 2) 1 := by decide +kernel
theorem d7_11 : DD cd7 11 (.putfield 13) 3 := by decide +kernel
theorem d7_14 : DD cd7 14 (.aload_n 0) 1 := by decide +kernel
theorem d7_15 : DD cd7 15 (.aload_n 3) 1 := by decide +kernel
theorem d7_16 : DD cd7 16 (.putfield 16) 3 := by decide +kernel
theorem d7_19 : DD cd7 19 (.aload_n 0) 1 := by decide +kernel
theorem d7_20 : DD cd7 20 (.iload 4) 2 := by decide +kernel
theorem d7_22 : DD cd7 22 (.putfield 19) 3 := by decide +kernel
theorem d7_25 : DD cd7 25 (.return_) 1 := by decide +kernel
abbrev mn29 : MethodName := ⟨"com/example/assay/assay/config/ProbeSettings", "<init>", "(Ljava/lang/String;Ljava/lang/String;Ljava/lang/String;Z)V"⟩
theorem ef_7 (m : MethodId) (x0 : Addr) (x1 : Addr) (x2 : Addr) (x3 : Addr) (x4 : Int32) : entryFrame m #[.ref x0, .ref x1, .ref x2, .ref x3, (.int x4)] 5 = mkF m 0 #[.val (.ref x0), .val (.ref x1), .val (.ref x2), .val (.ref x3), .val (.int x4)] [] := by first | (simp [entryFrame, mkF, argsToLocals, Value.category]; done) | rfl
set_option maxRecDepth 65536 in
set_option maxHeartbeats 40000000 in
theorem rm7 (l : Launch) (Z : State) (a0 : Array Value) (hw : HW a0 Z) (ws : List Jvm.Cond) (a1 a2 a3 a4 : Addr) (p5 : Int32) (h0 : Heap) (n0 : Nat) (Z0 : n0 ≤ h0.size) (E_a1 : Exa Z h0 a1 "com/example/assay/assay/config/ProbeSettings") (F_name_a1 : Fld Z h0 a1 "com/example/assay/assay/config/ProbeSettings" "name" "Ljava/lang/String;" .null) (F_city_a1 : Fld Z h0 a1 "com/example/assay/assay/config/ProbeSettings" "city" "Ljava/lang/String;" .null) (F_token_a1 : Fld Z h0 a1 "com/example/assay/assay/config/ProbeSettings" "token" "Ljava/lang/String;" .null) (F_ipv6_a1 : Fld Z h0 a1 "com/example/assay/assay/config/ProbeSettings" "ipv6" "Z" (.int 0)) (g_a1 : n0 ≤ a1) :
    MF l mn29 prog_20_method_1_code 5 none ws (RM 2 0 0 24) #[.ref a1, .ref a2, .ref a3, .ref a4, (.int p5)] Z h0 (QW [a1] none (fun h => Fld Z h a1 "com/example/assay/assay/config/ProbeSettings" "name" "Ljava/lang/String;" (.ref a2) ∧ Fld Z h a1 "com/example/assay/assay/config/ProbeSettings" "city" "Ljava/lang/String;" (.ref a3) ∧ Fld Z h a1 "com/example/assay/assay/config/ProbeSettings" "token" "Ljava/lang/String;" (.ref a4) ∧ Fld Z h a1 "com/example/assay/assay/config/ProbeSettings" "ipv6" "Z" (.int (p5 &&& 1))) h0 n0) := by
  refine MetFree.of_bodySF (plainFor_of_name pn_9) hisR ?_
  intro p e s m args below meth c s₁ Bd hml0 hP hK
  obtain ⟨rfl, hZ, hh⟩ := hP
  have hx := Bd.exec
  have hby := Bd.bytes
  have hml : c.maxLocals = 5 := hml0
  have hown : s.vm.findClass "com/example/assay/assay/config/ProbeSettings" = some m.cls := findClass_of_methodNamed Bd.named
  have hnm := (name_of_methodNamed Bd.named Bd.method).1
  have X0 : Stand p l e (RM 2 0 0 24) s m #[.ref a1, .ref a2, .ref a3, .ref a4, (.int p5)] below meth c s₁ [] 0 0 := Stand.of_body Bd
  have e0 : s₁.heap = h0 := by rw [← hh, Bd.state]; rfl
  have N0 := Fr.nil n0
  have pre0 : GO p e below (s₁.setTop (mkF m 0 #[.val (.ref a1), .val (.ref a2), .val (.ref a3), .val (.ref a4), .val (.int p5)] [])) (s₁.setTop (entryFrame m #[.ref a1, .ref a2, .ref a3, .ref a4, (.int p5)] 5)) := fun t k => castTop (ef_7 m a1 a2 a3 a4 p5) k
  have KK := Keep.refl h0 [a1]
  obtain ⟨_, _, ⟨T311, _, _, _⟩, -, X311, ⟨_, hQ311, l311, y311, z311⟩, st311⟩ := X0.specialBack hx (y := mn28) rfl hown (mvT hZ (ww hw 36 rfl)) (mvT hZ (ww hw 37 rfl)) (mvT hZ (ww hw 40 rfl)) (by decide) (backOf (W := 0) (rm8 l Z a0 hw [] a1 h0 n0 Z0) hZ (ww hw 40 rfl) (ww hw 39 rfl) (by decide) (by decide)) (g := (mkF m 1 #[.val (.ref a1), .val (.ref a2), .val (.ref a3), .val (.ref a4), .val (.int p5)] [.ref a1])) rfl (by rw [hml]; rfl) (Steps.refl _) (a := a1) (argsL := []) (rest := []) (lenOf pd_18 rfl) rfl (wz rfl) (hb hby d7_1) (fun _ _ => ⟨rfl, e0, (by decide : 0 + 0 ≤ _), (by decide : 0 + 0 ≤ _)⟩)
  dsimp only [Pt.U, Pt.locs, Pt.cells, Pt.slots] at X311 l311 y311 z311 st311 hQ311
  rw [l311, y311, z311] at X311
  obtain ⟨rfl, N311q, e311⟩ := hQ311
  have N311 := Fr.app N0 N311q
  obtain ⟨T312, h312, X312, e312, W312, st312⟩ := putF X311 hx hZ hown (host := "") (Or.inl (ww hw 42 rfl)) Via.refl e311 F_name_a1 E_a1 (Or.inr ⟨(ww hw 43 rfl), rfl, hnm⟩) (ww hw 31 rfl) (ty := (.object "java/lang/String")) (by decide) rfl rfl (g := (mkF m 6 #[.val (.ref a1), .val (.ref a2), .val (.ref a3), .val (.ref a4), .val (.int p5)] [.ref a2, .ref a1])) rfl rfl (hb hby d7_6)
  replace E_a1 := E_a1.wr W312
  replace F_name_a1 := F_name_a1.same W312
  replace F_city_a1 := F_city_a1.other W312 (Or.inr (slot_ne (Or.inr (ww hw 45 rfl)) (Or.inr (ww hw 43 rfl)) (by decide) (t := (.object "java/lang/String")) (t' := (.object "java/lang/String")) (by decide) (by decide)))
  replace F_token_a1 := F_token_a1.other W312 (Or.inr (slot_ne (Or.inr (ww hw 47 rfl)) (Or.inr (ww hw 43 rfl)) (by decide) (t := (.object "java/lang/String")) (t' := (.object "java/lang/String")) (by decide) (by decide)))
  replace F_ipv6_a1 := F_ipv6_a1.other W312 (Or.inr (slot_ne (Or.inr (ww hw 49 rfl)) (Or.inr (ww hw 43 rfl)) (by decide) (t := .boolean) (t' := (.object "java/lang/String")) (by decide) (by decide)))
  replace Z0 := Nat.le_trans Z0 (Keep.of_wr W312).1
  replace KK := KK.wr W312 (Or.inl (List.mem_of_getElem? (i := 0) rfl))
  have N312 := Fr.snoc X312 N311 g_a1
  obtain ⟨T313, h313, X313, e313, W313, st313⟩ := putF X312 hx hZ hown (host := "") (Or.inl (ww hw 44 rfl)) Via.refl e312 F_city_a1 E_a1 (Or.inr ⟨(ww hw 45 rfl), rfl, hnm⟩) (ww hw 31 rfl) (ty := (.object "java/lang/String")) (by decide) rfl rfl (g := (mkF m 11 #[.val (.ref a1), .val (.ref a2), .val (.ref a3), .val (.ref a4), .val (.int p5)] [.ref a3, .ref a1])) rfl rfl (hb hby d7_11)
  replace E_a1 := E_a1.wr W313
  replace F_name_a1 := F_name_a1.other W313 (Or.inr (slot_ne (Or.inr (ww hw 43 rfl)) (Or.inr (ww hw 45 rfl)) (by decide) (t := (.object "java/lang/String")) (t' := (.object "java/lang/String")) (by decide) (by decide)))
  replace F_city_a1 := F_city_a1.same W313
  replace F_token_a1 := F_token_a1.other W313 (Or.inr (slot_ne (Or.inr (ww hw 47 rfl)) (Or.inr (ww hw 45 rfl)) (by decide) (t := (.object "java/lang/String")) (t' := (.object "java/lang/String")) (by decide) (by decide)))
  replace F_ipv6_a1 := F_ipv6_a1.other W313 (Or.inr (slot_ne (Or.inr (ww hw 49 rfl)) (Or.inr (ww hw 45 rfl)) (by decide) (t := .boolean) (t' := (.object "java/lang/String")) (by decide) (by decide)))
  replace Z0 := Nat.le_trans Z0 (Keep.of_wr W313).1
  replace KK := KK.wr W313 (Or.inl (List.mem_of_getElem? (i := 0) rfl))
  have N313 := Fr.snoc X313 N312 g_a1
  obtain ⟨T314, h314, X314, e314, W314, st314⟩ := putF X313 hx hZ hown (host := "") (Or.inl (ww hw 46 rfl)) Via.refl e313 F_token_a1 E_a1 (Or.inr ⟨(ww hw 47 rfl), rfl, hnm⟩) (ww hw 31 rfl) (ty := (.object "java/lang/String")) (by decide) rfl rfl (g := (mkF m 16 #[.val (.ref a1), .val (.ref a2), .val (.ref a3), .val (.ref a4), .val (.int p5)] [.ref a4, .ref a1])) rfl rfl (hb hby d7_16)
  replace E_a1 := E_a1.wr W314
  replace F_name_a1 := F_name_a1.other W314 (Or.inr (slot_ne (Or.inr (ww hw 43 rfl)) (Or.inr (ww hw 47 rfl)) (by decide) (t := (.object "java/lang/String")) (t' := (.object "java/lang/String")) (by decide) (by decide)))
  replace F_city_a1 := F_city_a1.other W314 (Or.inr (slot_ne (Or.inr (ww hw 45 rfl)) (Or.inr (ww hw 47 rfl)) (by decide) (t := (.object "java/lang/String")) (t' := (.object "java/lang/String")) (by decide) (by decide)))
  replace F_token_a1 := F_token_a1.same W314
  replace F_ipv6_a1 := F_ipv6_a1.other W314 (Or.inr (slot_ne (Or.inr (ww hw 49 rfl)) (Or.inr (ww hw 47 rfl)) (by decide) (t := .boolean) (t' := (.object "java/lang/String")) (by decide) (by decide)))
  replace Z0 := Nat.le_trans Z0 (Keep.of_wr W314).1
  replace KK := KK.wr W314 (Or.inl (List.mem_of_getElem? (i := 0) rfl))
  have N314 := Fr.snoc X314 N313 g_a1
  obtain ⟨T315, h315, X315, e315, W315, st315⟩ := putFN X314 hx hZ hown (ww hw 48 rfl) Via.refl e314 F_ipv6_a1 E_a1 (Or.inr ⟨(ww hw 49 rfl), rfl, hnm⟩) (ww hw 31 rfl) (ty := .boolean) (v' := (.int (p5 &&& 1))) (by decide) rfl (fits_nar_bool _) (g := (mkF m 22 #[.val (.ref a1), .val (.ref a2), .val (.ref a3), .val (.ref a4), .val (.int p5)] [(.int p5), .ref a1])) rfl rfl (hb hby d7_22)
  replace E_a1 := E_a1.wr W315
  replace F_name_a1 := F_name_a1.other W315 (Or.inr (slot_ne (Or.inr (ww hw 43 rfl)) (Or.inr (ww hw 49 rfl)) (by decide) (t := (.object "java/lang/String")) (t' := .boolean) (by decide) (by decide)))
  replace F_city_a1 := F_city_a1.other W315 (Or.inr (slot_ne (Or.inr (ww hw 45 rfl)) (Or.inr (ww hw 49 rfl)) (by decide) (t := (.object "java/lang/String")) (t' := .boolean) (by decide) (by decide)))
  replace F_token_a1 := F_token_a1.other W315 (Or.inr (slot_ne (Or.inr (ww hw 47 rfl)) (Or.inr (ww hw 49 rfl)) (by decide) (t := (.object "java/lang/String")) (t' := .boolean) (by decide) (by decide)))
  replace F_ipv6_a1 := F_ipv6_a1.same W315
  replace Z0 := Nat.le_trans Z0 (Keep.of_wr W315).1
  replace KK := KK.wr W315 (Or.inl (List.mem_of_getElem? (i := 0) rfl))
  have N315 := Fr.snoc X315 N314 g_a1
  obtain ⟨fs, hr, hrun, hended, hW, hsame⟩ := X315.leave (v := none) (fun _ => rfl)
  refine ⟨_, _, pre0 _ ?_, hrun, hended, _, _, rfl, ?_, ⟨_, rfl⟩, hW, hsame.mono (by decide) (by decide)⟩
  · refine y_aloadN X0 hx hby d7_0 rfl rfl ?_
    refine st311.trans ?_
    show SP p e below T311 (mkF m 4 #[.val (.ref a1), .val (.ref a2), .val (.ref a3), .val (.ref a4), .val (.int p5)] []) _
    refine y_aloadN X311 hx hby d7_4 rfl rfl ?_
    refine y_aloadN X311 hx hby d7_5 rfl rfl ?_
    refine st312 _ ?_
    show SP p e below T312 (mkF m 9 #[.val (.ref a1), .val (.ref a2), .val (.ref a3), .val (.ref a4), .val (.int p5)] []) _
    refine y_aloadN X312 hx hby d7_9 rfl rfl ?_
    refine y_aloadN X312 hx hby d7_10 rfl rfl ?_
    refine st313 _ ?_
    show SP p e below T313 (mkF m 14 #[.val (.ref a1), .val (.ref a2), .val (.ref a3), .val (.ref a4), .val (.int p5)] []) _
    refine y_aloadN X313 hx hby d7_14 rfl rfl ?_
    refine y_aloadN X313 hx hby d7_15 rfl rfl ?_
    refine st314 _ ?_
    show SP p e below T314 (mkF m 19 #[.val (.ref a1), .val (.ref a2), .val (.ref a3), .val (.ref a4), .val (.int p5)] []) _
    refine y_aloadN X314 hx hby d7_19 rfl rfl ?_
    refine y_iload X314 hx hby d7_20 rfl ?_
    refine st315 _ ?_
    show Steps p.tables e below (T315.setTop (mkF m 25 #[.val (.ref a1), .val (.ref a2), .val (.ref a3), .val (.ref a4), .val (.int p5)] [])) _
    exact X315.returnOut hx Bd.returns (hb hby d7_25) hr
  · show QW _ _ _ h0 n0 _ T315.heap _
    rw [e315]
    exact ⟨rfl, N315, KK, F_name_a1, F_city_a1, F_token_a1, F_ipv6_a1⟩
theorem pd_22 : parseMethodDescriptor "([C)V" = some ⟨[(.array .char)], none⟩ := by decide +kernel
abbrev mn30 : MethodName := ⟨"java/lang/String", "<init>", "([C)V"⟩
theorem pd_23 : parseMethodDescriptor "(Ljava/lang/String;Ljava/lang/String;Ljava/lang/String;Z)V" = some ⟨[(.object "java/lang/String"), (.object "java/lang/String"), (.object "java/lang/String"), .boolean], none⟩ := by decide +kernel
theorem pd_24 : parseMethodDescriptor "(Ljava/lang/Object;)Z" = some ⟨[(.object "java/lang/Object")], some .boolean⟩ := by decide +kernel
abbrev mn31 : MethodName := ⟨"java/lang/String", "equals", "(Ljava/lang/Object;)Z"⟩
theorem pn_0 : plainName "com/example/assay/assay/config/ProbeSettingsToStringPinLaw" = true := by first | (simp [plainName, overriddenIn]; done) | decide +kernel
theorem ef_0 (m : MethodId) (x0 : Int32) (x1 : Int32) (x2 : Int32) (x3 : Int32) : entryFrame m #[(.int x0), (.int x1), (.int x2), (.int x3)] maxLocals = mkF m 0 #[.val (.int x0), .val (.int x1), .val (.int x2), .val (.int x3), .unset, .unset, .unset, .unset, .unset, .unset, .unset, .unset, .unset, .unset, .unset, .unset] [] := by first | (simp [entryFrame, mkF, argsToLocals, Value.category, maxLocals]; done) | rfl
abbrev lo0_0 (p1 p2 p3 p4 : Int32) : Array Slot := #[.val (.int p1), .val (.int p2), .val (.int p3), .val (.int p4), .val (.int ((p1 &&& (255 : Int32)).toUInt32.toUInt16.toUInt32.toInt32)), .unset, .unset, .unset, .unset, .unset, .unset, .unset, .unset, .unset, .unset, .unset]
abbrev lo0_1 (p1 p2 p3 p4 : Int32) : Array Slot := #[.val (.int p1), .val (.int p2), .val (.int p3), .val (.int p4), .val (.int ((p1 &&& (255 : Int32)).toUInt32.toUInt16.toUInt32.toInt32)), .val (.int ((((p1.toUInt32 >>> ((8 : Int32) &&& 31).toUInt32).toInt32) &&& (255 : Int32)).toUInt32.toUInt16.toUInt32.toInt32)), .unset, .unset, .unset, .unset, .unset, .unset, .unset, .unset, .unset, .unset]
abbrev lo0_2 (p1 p2 p3 p4 : Int32) : Array Slot := #[.val (.int p1), .val (.int p2), .val (.int p3), .val (.int p4), .val (.int ((p1 &&& (255 : Int32)).toUInt32.toUInt16.toUInt32.toInt32)), .val (.int ((((p1.toUInt32 >>> ((8 : Int32) &&& 31).toUInt32).toInt32) &&& (255 : Int32)).toUInt32.toUInt16.toUInt32.toInt32)), .val (.int ((p2 &&& (255 : Int32)).toUInt32.toUInt16.toUInt32.toInt32)), .unset, .unset, .unset, .unset, .unset, .unset, .unset, .unset, .unset]
abbrev lo0_3 (p1 p2 p3 p4 : Int32) : Array Slot := #[.val (.int p1), .val (.int p2), .val (.int p3), .val (.int p4), .val (.int ((p1 &&& (255 : Int32)).toUInt32.toUInt16.toUInt32.toInt32)), .val (.int ((((p1.toUInt32 >>> ((8 : Int32) &&& 31).toUInt32).toInt32) &&& (255 : Int32)).toUInt32.toUInt16.toUInt32.toInt32)), .val (.int ((p2 &&& (255 : Int32)).toUInt32.toUInt16.toUInt32.toInt32)), .val (.int ((((p2.toUInt32 >>> ((8 : Int32) &&& 31).toUInt32).toInt32) &&& (255 : Int32)).toUInt32.toUInt16.toUInt32.toInt32)), .unset, .unset, .unset, .unset, .unset, .unset, .unset, .unset]
abbrev lo0_4 (p1 p2 p3 p4 : Int32) : Array Slot := #[.val (.int p1), .val (.int p2), .val (.int p3), .val (.int p4), .val (.int ((p1 &&& (255 : Int32)).toUInt32.toUInt16.toUInt32.toInt32)), .val (.int ((((p1.toUInt32 >>> ((8 : Int32) &&& 31).toUInt32).toInt32) &&& (255 : Int32)).toUInt32.toUInt16.toUInt32.toInt32)), .val (.int ((p2 &&& (255 : Int32)).toUInt32.toUInt16.toUInt32.toInt32)), .val (.int ((((p2.toUInt32 >>> ((8 : Int32) &&& 31).toUInt32).toInt32) &&& (255 : Int32)).toUInt32.toUInt16.toUInt32.toInt32)), .val (.int ((p3 &&& (255 : Int32)).toUInt32.toUInt16.toUInt32.toInt32)), .unset, .unset, .unset, .unset, .unset, .unset, .unset]
abbrev lo0_5 (p1 p2 p3 p4 : Int32) : Array Slot := #[.val (.int p1), .val (.int p2), .val (.int p3), .val (.int p4), .val (.int ((p1 &&& (255 : Int32)).toUInt32.toUInt16.toUInt32.toInt32)), .val (.int ((((p1.toUInt32 >>> ((8 : Int32) &&& 31).toUInt32).toInt32) &&& (255 : Int32)).toUInt32.toUInt16.toUInt32.toInt32)), .val (.int ((p2 &&& (255 : Int32)).toUInt32.toUInt16.toUInt32.toInt32)), .val (.int ((((p2.toUInt32 >>> ((8 : Int32) &&& 31).toUInt32).toInt32) &&& (255 : Int32)).toUInt32.toUInt16.toUInt32.toInt32)), .val (.int ((p3 &&& (255 : Int32)).toUInt32.toUInt16.toUInt32.toInt32)), .val (.int ((((p3.toUInt32 >>> ((8 : Int32) &&& 31).toUInt32).toInt32) &&& (255 : Int32)).toUInt32.toUInt16.toUInt32.toInt32)), .unset, .unset, .unset, .unset, .unset, .unset]
abbrev lo0_6 (p1 p2 p3 p4 : Int32) : Array Slot := #[.val (.int p1), .val (.int p2), .val (.int p3), .val (.int p4), .val (.int ((p1 &&& (255 : Int32)).toUInt32.toUInt16.toUInt32.toInt32)), .val (.int ((((p1.toUInt32 >>> ((8 : Int32) &&& 31).toUInt32).toInt32) &&& (255 : Int32)).toUInt32.toUInt16.toUInt32.toInt32)), .val (.int ((p2 &&& (255 : Int32)).toUInt32.toUInt16.toUInt32.toInt32)), .val (.int ((((p2.toUInt32 >>> ((8 : Int32) &&& 31).toUInt32).toInt32) &&& (255 : Int32)).toUInt32.toUInt16.toUInt32.toInt32)), .val (.int ((p3 &&& (255 : Int32)).toUInt32.toUInt16.toUInt32.toInt32)), .val (.int ((((p3.toUInt32 >>> ((8 : Int32) &&& 31).toUInt32).toInt32) &&& (255 : Int32)).toUInt32.toUInt16.toUInt32.toInt32)), .val (.int 0), .unset, .unset, .unset, .unset, .unset]
abbrev lo0_7 (p1 p2 p3 p4 z319 z320 z321 z322 z323 z324 : Int32) : Array Slot := #[.val (.int p1), .val (.int p2), .val (.int p3), .val (.int p4), .val (.int z319), .val (.int z320), .val (.int z321), .val (.int z322), .val (.int z323), .val (.int z324), .val (.int 0), .unset, .unset, .unset, .unset, .unset]
abbrev lo0_8 (p1 p2 p3 p4 z319 z320 z321 z322 z323 z324 : Int32) (b325 : Addr) : Array Slot := #[.val (.int p1), .val (.int p2), .val (.int p3), .val (.int p4), .val (.int z319), .val (.int z320), .val (.int z321), .val (.int z322), .val (.int z323), .val (.int z324), .val (.int 0), .val (.ref b325), .unset, .unset, .unset, .unset]
abbrev lo0_9 (p1 p2 p3 p4 z319 z320 z321 z322 z323 z324 : Int32) (b325 b330 : Addr) : Array Slot := #[.val (.int p1), .val (.int p2), .val (.int p3), .val (.int p4), .val (.int z319), .val (.int z320), .val (.int z321), .val (.int z322), .val (.int z323), .val (.int z324), .val (.int 0), .val (.ref b325), .val (.ref b330), .unset, .unset, .unset]
abbrev lo0_10 (p1 p2 p3 p4 z319 z320 z321 z322 z323 z324 : Int32) (b325 b330 b335 : Addr) : Array Slot := #[.val (.int p1), .val (.int p2), .val (.int p3), .val (.int p4), .val (.int z319), .val (.int z320), .val (.int z321), .val (.int z322), .val (.int z323), .val (.int z324), .val (.int 0), .val (.ref b325), .val (.ref b330), .val (.ref b335), .unset, .unset]
abbrev lo0_11 (p1 p2 p3 p4 z319 z320 z321 z322 z323 z324 : Int32) (b325 b330 b335 b342 : Addr) : Array Slot := #[.val (.int p1), .val (.int p2), .val (.int p3), .val (.int p4), .val (.int z319), .val (.int z320), .val (.int z321), .val (.int z322), .val (.int z323), .val (.int z324), .val (.int 0), .val (.ref b325), .val (.ref b330), .val (.ref b335), .val (.ref b342), .unset]
abbrev lo0_12 (p1 p2 p3 p4 z319 z320 z321 z322 z323 z324 : Int32) (b325 b330 b335 b342 b343 : Addr) : Array Slot := #[.val (.int p1), .val (.int p2), .val (.int p3), .val (.int p4), .val (.int z319), .val (.int z320), .val (.int z321), .val (.int z322), .val (.int z323), .val (.int z324), .val (.int 0), .val (.ref b325), .val (.ref b330), .val (.ref b335), .val (.ref b342), .val (.ref b343)]
abbrev lo0_13 (p1 p2 p3 p4 : Int32) : Array Slot := #[.val (.int p1), .val (.int p2), .val (.int p3), .val (.int p4), .val (.int ((p1 &&& (255 : Int32)).toUInt32.toUInt16.toUInt32.toInt32)), .val (.int ((((p1.toUInt32 >>> ((8 : Int32) &&& 31).toUInt32).toInt32) &&& (255 : Int32)).toUInt32.toUInt16.toUInt32.toInt32)), .val (.int ((p2 &&& (255 : Int32)).toUInt32.toUInt16.toUInt32.toInt32)), .val (.int ((((p2.toUInt32 >>> ((8 : Int32) &&& 31).toUInt32).toInt32) &&& (255 : Int32)).toUInt32.toUInt16.toUInt32.toInt32)), .val (.int ((p3 &&& (255 : Int32)).toUInt32.toUInt16.toUInt32.toInt32)), .val (.int ((((p3.toUInt32 >>> ((8 : Int32) &&& 31).toUInt32).toInt32) &&& (255 : Int32)).toUInt32.toUInt16.toUInt32.toInt32)), .val (.int 1), .unset, .unset, .unset, .unset, .unset]
abbrev lo0_14 (p1 p2 p3 p4 z392 z393 z394 z395 z396 z397 : Int32) : Array Slot := #[.val (.int p1), .val (.int p2), .val (.int p3), .val (.int p4), .val (.int z392), .val (.int z393), .val (.int z394), .val (.int z395), .val (.int z396), .val (.int z397), .val (.int 1), .unset, .unset, .unset, .unset, .unset]
abbrev lo0_15 (p1 p2 p3 p4 z392 z393 z394 z395 z396 z397 : Int32) (b398 : Addr) : Array Slot := #[.val (.int p1), .val (.int p2), .val (.int p3), .val (.int p4), .val (.int z392), .val (.int z393), .val (.int z394), .val (.int z395), .val (.int z396), .val (.int z397), .val (.int 1), .val (.ref b398), .unset, .unset, .unset, .unset]
abbrev lo0_16 (p1 p2 p3 p4 z392 z393 z394 z395 z396 z397 : Int32) (b398 b403 : Addr) : Array Slot := #[.val (.int p1), .val (.int p2), .val (.int p3), .val (.int p4), .val (.int z392), .val (.int z393), .val (.int z394), .val (.int z395), .val (.int z396), .val (.int z397), .val (.int 1), .val (.ref b398), .val (.ref b403), .unset, .unset, .unset]
abbrev lo0_17 (p1 p2 p3 p4 z392 z393 z394 z395 z396 z397 : Int32) (b398 b403 b408 : Addr) : Array Slot := #[.val (.int p1), .val (.int p2), .val (.int p3), .val (.int p4), .val (.int z392), .val (.int z393), .val (.int z394), .val (.int z395), .val (.int z396), .val (.int z397), .val (.int 1), .val (.ref b398), .val (.ref b403), .val (.ref b408), .unset, .unset]
abbrev lo0_18 (p1 p2 p3 p4 z392 z393 z394 z395 z396 z397 : Int32) (b398 b403 b408 b415 : Addr) : Array Slot := #[.val (.int p1), .val (.int p2), .val (.int p3), .val (.int p4), .val (.int z392), .val (.int z393), .val (.int z394), .val (.int z395), .val (.int z396), .val (.int z397), .val (.int 1), .val (.ref b398), .val (.ref b403), .val (.ref b408), .val (.ref b415), .unset]
abbrev lo0_19 (p1 p2 p3 p4 z392 z393 z394 z395 z396 z397 : Int32) (b398 b403 b408 b415 b416 : Addr) : Array Slot := #[.val (.int p1), .val (.int p2), .val (.int p3), .val (.int p4), .val (.int z392), .val (.int z393), .val (.int z394), .val (.int z395), .val (.int z396), .val (.int z397), .val (.int 1), .val (.ref b398), .val (.ref b403), .val (.ref b408), .val (.ref b415), .val (.ref b416)]
set_option maxRecDepth 65536 in
set_option maxHeartbeats 40000000 in
theorem rm0 (l : Launch) (Z : State) (a0 : Array Value) (hw : HW a0 Z) (ws : List Jvm.Cond) (p1 p2 p3 p4 wC : Int32) (h0 : Heap) (n0 : Nat) (Z0 : n0 ≤ h0.size) (SC : SS Z h0 wC) (hz : ¬ wC = 0) :
    MFC l x code maxLocals ret ws room_1 #[(.int p1), (.int p2), (.int p3), (.int p4)] Z h0 (QL (some (.int 1)) n0) := by
  refine MetFree.of_bodySF (plainFor_of_name pn_0) hisR ?_
  intro p e s m args below meth c s₁ Bd hml0 hP hK
  obtain ⟨rfl, hZ, hh, hCH⟩ := hP
  have hx := Bd.exec
  have hby := Bd.bytes
  have hml : c.maxLocals = 16 := hml0
  have hown : s.vm.findClass "com/example/assay/assay/config/ProbeSettingsToStringPinLaw" = some m.cls := findClass_of_methodNamed Bd.named
  have hnm := (name_of_methodNamed Bd.named Bd.method).1
  have X0 : Stand p l e room_1 (s.setVm s.vm) m #[(.int p1), (.int p2), (.int p3), (.int p4)] below meth c s₁ [] 0 0 := Stand.of_body Bd
  have e0 : s₁.heap = h0 := by rw [← hh, Bd.state]; rfl
  have N0 := Fr.nil n0
  have pre0 : GO p e below (s₁.setTop (mkF m 0 #[.val (.int p1), .val (.int p2), .val (.int p3), .val (.int p4), .unset, .unset, .unset, .unset, .unset, .unset, .unset, .unset, .unset, .unset, .unset, .unset] [])) (s₁.setTop (entryFrame m #[(.int p1), (.int p2), (.int p3), (.int p4)] maxLocals)) := fun t k => castTop (ef_0 m p1 p2 p3 p4) k
  have hS := (State.WarmedH.refl s).since 0
  have hk : 0 ≤ h0.size := Nat.zero_le _
  have wS : ∀ d ∈ Bundle.stringAtoms, d.before a0 Z = true := fun d hd => hw d ((by decide +kernel : ∀ d ∈ Bundle.stringAtoms, d ∈ tables_1) d hd)
  have hEL := own_EW hw
  have hCR := CHr.refl hCH
  have hws : ∀ d ∈ StrChars.Road.words, d.before a0 Z = true := fun d hd => hw d ((by decide +kernel : ∀ d ∈ StrChars.Road.words, d ∈ tables_1) d hd)
  have heq : ∀ d ∈ StrChars.Road.wordsEq, d.before a0 Z = true := fun d hd => hw d ((by decide +kernel : ∀ d ∈ StrChars.Road.wordsEq, d ∈ tables_1) d hd)
  have pre317 : GO p e below (s₁.setTop (mkF m 60 (lo0_5 p1 p2 p3 p4) [(.int (p4 &&& (1 : Int32)))])) (s₁.setTop (entryFrame m #[(.int p1), (.int p2), (.int p3), (.int p4)] maxLocals)) := fun t k => by
    refine pre0 _ ?_
    refine y_iloadN X0 hx hby at_0 rfl ?_
    refine y_sipush X0 hx hby (v := (255 : Int32)) at_1 rfl ?_
    refine y_iand X0 hx hby at_4 ?_
    refine y_i2c X0 hx hby at_5 ?_
    refine y_istore X0 hx hby at_6 (l' := (lo0_0 p1 p2 p3 p4)) rfl ?_
    refine y_iloadN X0 hx hby at_8 rfl ?_
    refine y_bipush X0 hx hby (v := (8 : Int32)) at_9 rfl ?_
    refine y_iushr X0 hx hby at_11 ?_
    refine y_sipush X0 hx hby (v := (255 : Int32)) at_12 rfl ?_
    refine y_iand X0 hx hby at_15 ?_
    refine y_i2c X0 hx hby at_16 ?_
    refine y_istore X0 hx hby at_17 (l' := (lo0_1 p1 p2 p3 p4)) rfl ?_
    refine y_iloadN X0 hx hby at_19 rfl ?_
    refine y_sipush X0 hx hby (v := (255 : Int32)) at_20 rfl ?_
    refine y_iand X0 hx hby at_23 ?_
    refine y_i2c X0 hx hby at_24 ?_
    refine y_istore X0 hx hby at_25 (l' := (lo0_2 p1 p2 p3 p4)) rfl ?_
    refine y_iloadN X0 hx hby at_27 rfl ?_
    refine y_bipush X0 hx hby (v := (8 : Int32)) at_28 rfl ?_
    refine y_iushr X0 hx hby at_30 ?_
    refine y_sipush X0 hx hby (v := (255 : Int32)) at_31 rfl ?_
    refine y_iand X0 hx hby at_34 ?_
    refine y_i2c X0 hx hby at_35 ?_
    refine y_istore X0 hx hby at_36 (l' := (lo0_3 p1 p2 p3 p4)) rfl ?_
    refine y_iloadN X0 hx hby at_38 rfl ?_
    refine y_sipush X0 hx hby (v := (255 : Int32)) at_39 rfl ?_
    refine y_iand X0 hx hby at_42 ?_
    refine y_i2c X0 hx hby at_43 ?_
    refine y_istore X0 hx hby at_44 (l' := (lo0_4 p1 p2 p3 p4)) rfl ?_
    refine y_iloadN X0 hx hby at_46 rfl ?_
    refine y_bipush X0 hx hby (v := (8 : Int32)) at_47 rfl ?_
    refine y_iushr X0 hx hby at_49 ?_
    refine y_sipush X0 hx hby (v := (255 : Int32)) at_50 rfl ?_
    refine y_iand X0 hx hby at_53 ?_
    refine y_i2c X0 hx hby at_54 ?_
    refine y_istore X0 hx hby at_55 (l' := (lo0_5 p1 p2 p3 p4)) rfl ?_
    refine y_iloadN X0 hx hby at_57 rfl ?_
    refine y_iconst X0 hx hby (v := (1 : Int32)) at_58 rfl ?_
    refine y_iand X0 hx hby at_59 ?_
    exact k
  by_cases hc316 : (p4 &&& (1 : Int32)) = (0 : Int32)
  · have pre318 : GO p e below (s₁.setTop (mkF m 70 #[.val (.int p1), .val (.int p2), .val (.int p3), .val (.int p4), .val (.int ((p1 &&& (255 : Int32)).toUInt32.toUInt16.toUInt32.toInt32)), .val (.int ((((p1.toUInt32 >>> ((8 : Int32) &&& 31).toUInt32).toInt32) &&& (255 : Int32)).toUInt32.toUInt16.toUInt32.toInt32)), .val (.int ((p2 &&& (255 : Int32)).toUInt32.toUInt16.toUInt32.toInt32)), .val (.int ((((p2.toUInt32 >>> ((8 : Int32) &&& 31).toUInt32).toInt32) &&& (255 : Int32)).toUInt32.toUInt16.toUInt32.toInt32)), .val (.int ((p3 &&& (255 : Int32)).toUInt32.toUInt16.toUInt32.toInt32)), .val (.int ((((p3.toUInt32 >>> ((8 : Int32) &&& 31).toUInt32).toInt32) &&& (255 : Int32)).toUInt32.toUInt16.toUInt32.toInt32)), .val (.int 0), .unset, .unset, .unset, .unset, .unset] [])) (s₁.setTop (entryFrame m #[(.int p1), (.int p2), (.int p3), (.int p4)] maxLocals)) := fun t k => by
      refine pre317 _ ?_
      refine y_ifYes X0 hx hby (pc' := 67) at_60 ((if0 _ _).trans (teq hc316).1) (by decide) (by decide) ?_
      refine y_iconst X0 hx hby (v := (0 : Int32)) at_67 rfl ?_
      refine y_istore X0 hx hby at_68 (l' := (lo0_6 p1 p2 p3 p4)) rfl ?_
      exact k
    obtain ⟨z319, hz319⟩ : ∃ z, z = ((p1 &&& (255 : Int32)).toUInt32.toUInt16.toUInt32.toInt32) := ⟨_, rfl⟩
    rw [← hz319] at pre318
    obtain ⟨z320, hz320⟩ : ∃ z, z = ((((p1.toUInt32 >>> ((8 : Int32) &&& 31).toUInt32).toInt32) &&& (255 : Int32)).toUInt32.toUInt16.toUInt32.toInt32) := ⟨_, rfl⟩
    rw [← hz320] at pre318
    obtain ⟨z321, hz321⟩ : ∃ z, z = ((p2 &&& (255 : Int32)).toUInt32.toUInt16.toUInt32.toInt32) := ⟨_, rfl⟩
    rw [← hz321] at pre318
    obtain ⟨z322, hz322⟩ : ∃ z, z = ((((p2.toUInt32 >>> ((8 : Int32) &&& 31).toUInt32).toInt32) &&& (255 : Int32)).toUInt32.toUInt16.toUInt32.toInt32) := ⟨_, rfl⟩
    rw [← hz322] at pre318
    obtain ⟨z323, hz323⟩ : ∃ z, z = ((p3 &&& (255 : Int32)).toUInt32.toUInt16.toUInt32.toInt32) := ⟨_, rfl⟩
    rw [← hz323] at pre318
    obtain ⟨z324, hz324⟩ : ∃ z, z = ((((p3.toUInt32 >>> ((8 : Int32) &&& 31).toUInt32).toInt32) &&& (255 : Int32)).toUInt32.toUInt16.toUInt32.toInt32) := ⟨_, rfl⟩
    rw [← hz324] at pre318
    obtain ⟨T325, h325, X325, e325, E325, A325, D325, -, st325⟩ := newO X0 hx hZ hown (ww hw 0 rfl) (ww hw 1 rfl) (ww hw 2 rfl) e0 (g := (mkF m 70 (lo0_7 p1 p2 p3 p4 z319 z320 z321 z322 z323 z324) [])) rfl (hb hby at_70) (by decide) (by decide)
    obtain ⟨b325, g325⟩ : ∃ z, z = h0.size := ⟨_, rfl⟩
    rw [← g325] at A325 D325 st325
    have g_b325 : n0 ≤ b325 := Nat.le_trans Z0 (Nat.le_of_eq g325.symm)
    have Sf_b325 := own_sfnew hCR (Nat.le_of_eq g325.symm)
    replace Sf_b325 := Safe.ext E325 hCR.1 Sf_b325
    replace hCR := hCR.trans (CHr.ext E325 hCR.1)
    replace SC := SC.ext E325
    replace Z0 := Nat.le_trans Z0 E325.1
    replace hk := Nat.le_trans hk E325.1
    have E_b325 := A325
    have F_coder_b325 : GC Z h325 b325 (.int 0) := D325 (Or.inr (ww hw 27 rfl)) (ty := .byte) (by decide)
    have F_value_b325 : GV Z h325 b325 .null := D325 (Or.inr (ww hw 29 rfl)) (ty := (.array .byte)) (by decide)
    obtain ⟨T326, h326, k326, X326, e326, E326, A326, st326⟩ := newP X325 hx hZ (ww hw 3 rfl) e325 (g := (mkF m 75 (lo0_7 p1 p2 p3 p4 z319 z320 z321 z322 z323 z324) [.int 2, .ref b325, .ref b325])) rfl (hb hby at_75) rfl (by decide) (cap := 2) (by decide) (by decide) (by decide) (by decide)
    obtain ⟨b326, g326⟩ : ∃ z, z = h325.size := ⟨_, rfl⟩
    rw [← g326] at A326 st326
    have g_b326 : n0 ≤ b326 := Nat.le_trans Z0 (Nat.le_of_eq g326.symm)
    have ne_b325_b326 : b325 ≠ b326 := Nat.ne_of_lt (Nat.lt_of_lt_of_le E_b325.lt (Nat.le_of_eq g326.symm))
    have Sf_b326 := own_sfnew hCR (Nat.le_of_eq g326.symm)
    replace Sf_b325 := Safe.ext E326 hCR.1 Sf_b325
    replace Sf_b326 := Safe.ext E326 hCR.1 Sf_b326
    replace hCR := hCR.trans (CHr.ext E326 hCR.1)
    replace SC := SC.ext E326
    replace E_b325 := E_b325.ext E326
    replace F_coder_b325 := F_coder_b325.ext E326
    replace F_value_b325 := F_value_b325.ext E326
    replace Z0 := Nat.le_trans Z0 E326.1
    replace hk := Nat.le_trans hk E326.1
    have V_b326 : Arv Z h326 b326 k326 .char (2 : Int32) [] (.int 0) := Arv.new A326 (by decide)
    obtain ⟨T327, h327, X327, e327, W327, V_b326, hl_b326, st327⟩ := pushC X326 hx hZ e326 V_b326 (j := (0 : Int32)) (x := z319) ⟨by decide, by decide⟩ rfl (Ls := (lo0_7 p1 p2 p3 p4 z319 z320 z321 z322 z323 z324)) (S := [.ref b326, .ref b325, .ref b325]) hby at_81
    have sw := Sf_b326
    replace Sf_b325 := Safe.wr W327 sw hCR.1 Sf_b325
    replace Sf_b326 := Safe.wr W327 sw hCR.1 Sf_b326
    replace hCR := hCR.trans (CHr.wr W327 sw hCR.1)
    replace SC := SC.wr W327
    replace E_b325 := E_b325.wr W327
    replace F_coder_b325 := F_coder_b325.other W327 (Or.inl ne_b325_b326)
    replace F_value_b325 := F_value_b325.other W327 (Or.inl ne_b325_b326)
    replace Z0 := Nat.le_trans Z0 (Keep.of_wr W327).1
    replace hk := Nat.le_trans hk (Keep.of_wr W327).1
    have N327 := Fr.snoc X327 N0 g_b326
    obtain ⟨T328, h328, X328, e328, W328, V_b326, hl_b326, st328⟩ := pushC X327 hx hZ e327 V_b326 (j := (1 : Int32)) (x := z320) ⟨by decide, by decide⟩ hl_b326 (Ls := (lo0_7 p1 p2 p3 p4 z319 z320 z321 z322 z323 z324)) (S := [.ref b326, .ref b325, .ref b325]) hby at_86
    have sw := Sf_b326
    replace Sf_b325 := Safe.wr W328 sw hCR.1 Sf_b325
    replace Sf_b326 := Safe.wr W328 sw hCR.1 Sf_b326
    replace hCR := hCR.trans (CHr.wr W328 sw hCR.1)
    replace SC := SC.wr W328
    replace E_b325 := E_b325.wr W328
    replace F_coder_b325 := F_coder_b325.other W328 (Or.inl ne_b325_b326)
    replace F_value_b325 := F_value_b325.other W328 (Or.inl ne_b325_b326)
    replace Z0 := Nat.le_trans Z0 (Keep.of_wr W328).1
    replace hk := Nat.le_trans hk (Keep.of_wr W328).1
    have N328 := Fr.snoc X328 N327 g_b326
    replace V_b326 : Arv Z h328 b326 k326 .char (2 : Int32) [(.int (z319.toUInt32.toUInt16.toUInt32.toInt32)), (.int (z320.toUInt32.toUInt16.toUInt32.toInt32))] (.int 0) := V_b326
    obtain ⟨_, _, ⟨T329, _, _, _⟩, -, X329, ⟨_, hQ329, l329, y329, z329⟩, st329⟩ := X328.specialBack hx (y := mn30) rfl hown (mvT hZ (ww hw 4 rfl)) (mvT hZ (ww hw 5 rfl)) (mvT hZ (ww hw 6 rfl)) (by decide) (StrChars.Road.backV (W := 1) hZ hws (kI := 4) (ww hw 1 rfl) (cs := ([(z319.toUInt32.toUInt16.toUInt32.toInt32), (z320.toUInt32.toUInt16.toUInt32.toInt32)] : List Int32)) (bs := ([(z319.toUInt32.toUInt16.toUInt32.toInt32), (z320.toUInt32.toUInt16.toUInt32.toInt32)] : List Int32).map StrChars.lo8) (n := 2) g_b325 Z0 E_b325 F_value_b325 F_coder_b325 V_b326 SC hz rfl rfl (by decide) (by decide) (own_rc (own_charz hz319) (own_rc (own_charz hz320) own_rn)) rfl (by decide) (by decide)) (g := (mkF m 87 (lo0_7 p1 p2 p3 p4 z319 z320 z321 z322 z323 z324) [.ref b326, .ref b325, .ref b325])) rfl (by rw [hml]; rfl) (Steps.refl _) (a := b325) (argsL := [.ref b326]) (rest := [.ref b325]) (lenOf pd_22 rfl) rfl (wz rfl) (hb hby at_87) (fun _ _ => ⟨rfl, e328, (by decide : 2 + 1 ≤ _), (by decide : 6 + 2 ≤ _)⟩)
    dsimp only [Pt.U, Pt.locs, Pt.cells, Pt.slots] at X329 l329 y329 z329 st329 hQ329
    rw [l329, y329, z329] at X329
    obtain ⟨h329, e329⟩ : ∃ z, T329.heap = z := ⟨_, rfl⟩
    rw [e329] at hQ329
    obtain ⟨rfl, N329q, K329, G329E, G329C, B329, kb329, -, szn329, -, G329V, G329A⟩ := hQ329
    have g_B329 : n0 ≤ B329 := Nat.le_trans Z0 szn329
    have ne_b325_B329 : b325 ≠ B329 := Nat.ne_of_lt (Nat.lt_of_lt_of_le E_b325.lt szn329)
    have ne_b326_B329 : b326 ≠ B329 := Nat.ne_of_lt (Nat.lt_of_lt_of_le V_b326.lt szn329)
    have Sf_B329 := own_sfnew hCR szn329
    have hs := (sfS Sf_b325 sf0)
    replace Sf_b325 := Safe.keep K329 hs hCR.1 Sf_b325
    replace hCR := hCR.trans (CHr.keep K329 hs hCR.1)
    replace SC := own_stakeep SC K329 (nsS (Exa.nostat E_b325) ns0)
    replace E_b325 := E_b325.keep K329
    replace V_b326 := V_b326.keep K329 (ninS (Ne.symm ne_b325_b326) nin0)
    replace Z0 := Nat.le_trans Z0 K329.1
    replace hk := Nat.le_trans hk K329.1
    have F_coder_b325 : GC Z h329 b325 (.int 0) := G329C
    have F_value_b325 : GV Z h329 b325 (.ref B329) := G329V
    have V_B329 : Arv Z h329 B329 kb329 .byte (2 : Int32) (LB ([(z319.toUInt32.toUInt16.toUInt32.toInt32), (z320.toUInt32.toUInt16.toUInt32.toInt32)] : List Int32)) (.int 0) := G329A
    have N329 := Fr.app N328 N329q
    obtain ⟨T330, h330, X330, e330, E330, A330, D330, -, st330⟩ := newO X329 hx hZ hown (ww hw 0 rfl) (ww hw 1 rfl) (ww hw 2 rfl) e329 (g := (mkF m 92 (lo0_8 p1 p2 p3 p4 z319 z320 z321 z322 z323 z324 b325) [])) rfl (hb hby at_92) (by decide) (by decide)
    obtain ⟨b330, g330⟩ : ∃ z, z = h329.size := ⟨_, rfl⟩
    rw [← g330] at A330 D330 st330
    have g_b330 : n0 ≤ b330 := Nat.le_trans Z0 (Nat.le_of_eq g330.symm)
    have ne_b325_b330 : b325 ≠ b330 := Nat.ne_of_lt (Nat.lt_of_lt_of_le E_b325.lt (Nat.le_of_eq g330.symm))
    have ne_B329_b330 : B329 ≠ b330 := Nat.ne_of_lt (Nat.lt_of_lt_of_le V_B329.lt (Nat.le_of_eq g330.symm))
    have Sf_b330 := own_sfnew hCR (Nat.le_of_eq g330.symm)
    replace Sf_b330 := Safe.ext E330 hCR.1 Sf_b330
    replace hCR := hCR.trans (CHr.ext E330 hCR.1)
    replace SC := SC.ext E330
    replace E_b325 := E_b325.ext E330
    replace F_coder_b325 := F_coder_b325.ext E330
    replace F_value_b325 := F_value_b325.ext E330
    replace V_B329 := V_B329.ext E330
    replace Z0 := Nat.le_trans Z0 E330.1
    replace hk := Nat.le_trans hk E330.1
    have E_b330 := A330
    have F_coder_b330 : GC Z h330 b330 (.int 0) := D330 (Or.inr (ww hw 27 rfl)) (ty := .byte) (by decide)
    have F_value_b330 : GV Z h330 b330 .null := D330 (Or.inr (ww hw 29 rfl)) (ty := (.array .byte)) (by decide)
    obtain ⟨T331, h331, k331, X331, e331, E331, A331, st331⟩ := newP X330 hx hZ (ww hw 3 rfl) e330 (g := (mkF m 97 (lo0_8 p1 p2 p3 p4 z319 z320 z321 z322 z323 z324 b325) [.int 2, .ref b330, .ref b330])) rfl (hb hby at_97) rfl (by decide) (cap := 2) (by decide) (by decide) (by decide) (by decide)
    obtain ⟨b331, g331⟩ : ∃ z, z = h330.size := ⟨_, rfl⟩
    rw [← g331] at A331 st331
    have g_b331 : n0 ≤ b331 := Nat.le_trans Z0 (Nat.le_of_eq g331.symm)
    have ne_b325_b331 : b325 ≠ b331 := Nat.ne_of_lt (Nat.lt_of_lt_of_le E_b325.lt (Nat.le_of_eq g331.symm))
    have ne_B329_b331 : B329 ≠ b331 := Nat.ne_of_lt (Nat.lt_of_lt_of_le V_B329.lt (Nat.le_of_eq g331.symm))
    have ne_b330_b331 : b330 ≠ b331 := Nat.ne_of_lt (Nat.lt_of_lt_of_le E_b330.lt (Nat.le_of_eq g331.symm))
    have Sf_b331 := own_sfnew hCR (Nat.le_of_eq g331.symm)
    replace Sf_b330 := Safe.ext E331 hCR.1 Sf_b330
    replace Sf_b331 := Safe.ext E331 hCR.1 Sf_b331
    replace hCR := hCR.trans (CHr.ext E331 hCR.1)
    replace SC := SC.ext E331
    replace E_b325 := E_b325.ext E331
    replace F_coder_b325 := F_coder_b325.ext E331
    replace F_value_b325 := F_value_b325.ext E331
    replace V_B329 := V_B329.ext E331
    replace E_b330 := E_b330.ext E331
    replace F_coder_b330 := F_coder_b330.ext E331
    replace F_value_b330 := F_value_b330.ext E331
    replace Z0 := Nat.le_trans Z0 E331.1
    replace hk := Nat.le_trans hk E331.1
    have V_b331 : Arv Z h331 b331 k331 .char (2 : Int32) [] (.int 0) := Arv.new A331 (by decide)
    obtain ⟨T332, h332, X332, e332, W332, V_b331, hl_b331, st332⟩ := pushC X331 hx hZ e331 V_b331 (j := (0 : Int32)) (x := z321) ⟨by decide, by decide⟩ rfl (Ls := (lo0_8 p1 p2 p3 p4 z319 z320 z321 z322 z323 z324 b325)) (S := [.ref b331, .ref b330, .ref b330]) hby at_103
    have sw := Sf_b331
    replace Sf_b330 := Safe.wr W332 sw hCR.1 Sf_b330
    replace Sf_b331 := Safe.wr W332 sw hCR.1 Sf_b331
    replace hCR := hCR.trans (CHr.wr W332 sw hCR.1)
    replace SC := SC.wr W332
    replace E_b325 := E_b325.wr W332
    replace F_coder_b325 := F_coder_b325.other W332 (Or.inl ne_b325_b331)
    replace F_value_b325 := F_value_b325.other W332 (Or.inl ne_b325_b331)
    replace V_B329 := V_B329.other W332 ne_B329_b331
    replace E_b330 := E_b330.wr W332
    replace F_coder_b330 := F_coder_b330.other W332 (Or.inl ne_b330_b331)
    replace F_value_b330 := F_value_b330.other W332 (Or.inl ne_b330_b331)
    replace Z0 := Nat.le_trans Z0 (Keep.of_wr W332).1
    replace hk := Nat.le_trans hk (Keep.of_wr W332).1
    have N332 := Fr.snoc X332 N329 g_b331
    obtain ⟨T333, h333, X333, e333, W333, V_b331, hl_b331, st333⟩ := pushC X332 hx hZ e332 V_b331 (j := (1 : Int32)) (x := z322) ⟨by decide, by decide⟩ hl_b331 (Ls := (lo0_8 p1 p2 p3 p4 z319 z320 z321 z322 z323 z324 b325)) (S := [.ref b331, .ref b330, .ref b330]) hby at_108
    have sw := Sf_b331
    replace Sf_b330 := Safe.wr W333 sw hCR.1 Sf_b330
    replace Sf_b331 := Safe.wr W333 sw hCR.1 Sf_b331
    replace hCR := hCR.trans (CHr.wr W333 sw hCR.1)
    replace SC := SC.wr W333
    replace E_b325 := E_b325.wr W333
    replace F_coder_b325 := F_coder_b325.other W333 (Or.inl ne_b325_b331)
    replace F_value_b325 := F_value_b325.other W333 (Or.inl ne_b325_b331)
    replace V_B329 := V_B329.other W333 ne_B329_b331
    replace E_b330 := E_b330.wr W333
    replace F_coder_b330 := F_coder_b330.other W333 (Or.inl ne_b330_b331)
    replace F_value_b330 := F_value_b330.other W333 (Or.inl ne_b330_b331)
    replace Z0 := Nat.le_trans Z0 (Keep.of_wr W333).1
    replace hk := Nat.le_trans hk (Keep.of_wr W333).1
    have N333 := Fr.snoc X333 N332 g_b331
    replace V_b331 : Arv Z h333 b331 k331 .char (2 : Int32) [(.int (z321.toUInt32.toUInt16.toUInt32.toInt32)), (.int (z322.toUInt32.toUInt16.toUInt32.toInt32))] (.int 0) := V_b331
    obtain ⟨_, _, ⟨T334, _, _, _⟩, -, X334, ⟨_, hQ334, l334, y334, z334⟩, st334⟩ := X333.specialBack hx (y := mn30) rfl hown (mvT hZ (ww hw 4 rfl)) (mvT hZ (ww hw 5 rfl)) (mvT hZ (ww hw 6 rfl)) (by decide) (StrChars.Road.backV (W := 1) hZ hws (kI := 4) (ww hw 1 rfl) (cs := ([(z321.toUInt32.toUInt16.toUInt32.toInt32), (z322.toUInt32.toUInt16.toUInt32.toInt32)] : List Int32)) (bs := ([(z321.toUInt32.toUInt16.toUInt32.toInt32), (z322.toUInt32.toUInt16.toUInt32.toInt32)] : List Int32).map StrChars.lo8) (n := 2) g_b330 Z0 E_b330 F_value_b330 F_coder_b330 V_b331 SC hz rfl rfl (by decide) (by decide) (own_rc (own_charz hz321) (own_rc (own_charz hz322) own_rn)) rfl (by decide) (by decide)) (g := (mkF m 109 (lo0_8 p1 p2 p3 p4 z319 z320 z321 z322 z323 z324 b325) [.ref b331, .ref b330, .ref b330])) rfl (by rw [hml]; rfl) (Steps.refl _) (a := b330) (argsL := [.ref b331]) (rest := [.ref b330]) (lenOf pd_22 rfl) rfl (wz rfl) (hb hby at_109) (fun _ _ => ⟨rfl, e333, (by decide : 5 + 1 ≤ _), (by decide : 14 + 2 ≤ _)⟩)
    dsimp only [Pt.U, Pt.locs, Pt.cells, Pt.slots] at X334 l334 y334 z334 st334 hQ334
    rw [l334, y334, z334] at X334
    obtain ⟨h334, e334⟩ : ∃ z, T334.heap = z := ⟨_, rfl⟩
    rw [e334] at hQ334
    obtain ⟨rfl, N334q, K334, G334E, G334C, B334, kb334, -, szn334, -, G334V, G334A⟩ := hQ334
    have g_B334 : n0 ≤ B334 := Nat.le_trans Z0 szn334
    have ne_b325_B334 : b325 ≠ B334 := Nat.ne_of_lt (Nat.lt_of_lt_of_le E_b325.lt szn334)
    have ne_B329_B334 : B329 ≠ B334 := Nat.ne_of_lt (Nat.lt_of_lt_of_le V_B329.lt szn334)
    have ne_b330_B334 : b330 ≠ B334 := Nat.ne_of_lt (Nat.lt_of_lt_of_le E_b330.lt szn334)
    have ne_b331_B334 : b331 ≠ B334 := Nat.ne_of_lt (Nat.lt_of_lt_of_le V_b331.lt szn334)
    have Sf_B334 := own_sfnew hCR szn334
    have hs := (sfS Sf_b330 sf0)
    replace Sf_b330 := Safe.keep K334 hs hCR.1 Sf_b330
    replace hCR := hCR.trans (CHr.keep K334 hs hCR.1)
    replace SC := own_stakeep SC K334 (nsS (Exa.nostat E_b330) ns0)
    replace E_b325 := E_b325.keep K334
    replace F_coder_b325 := F_coder_b325.keep K334 (ninS ne_b325_b330 nin0)
    replace F_value_b325 := F_value_b325.keep K334 (ninS ne_b325_b330 nin0)
    replace V_B329 := V_B329.keep K334 (ninS ne_B329_b330 nin0)
    replace E_b330 := E_b330.keep K334
    replace V_b331 := V_b331.keep K334 (ninS (Ne.symm ne_b330_b331) nin0)
    replace Z0 := Nat.le_trans Z0 K334.1
    replace hk := Nat.le_trans hk K334.1
    have F_coder_b330 : GC Z h334 b330 (.int 0) := G334C
    have F_value_b330 : GV Z h334 b330 (.ref B334) := G334V
    have V_B334 : Arv Z h334 B334 kb334 .byte (2 : Int32) (LB ([(z321.toUInt32.toUInt16.toUInt32.toInt32), (z322.toUInt32.toUInt16.toUInt32.toInt32)] : List Int32)) (.int 0) := G334A
    have N334 := Fr.app N333 N334q
    obtain ⟨T335, h335, X335, e335, E335, A335, D335, -, st335⟩ := newO X334 hx hZ hown (ww hw 0 rfl) (ww hw 1 rfl) (ww hw 2 rfl) e334 (g := (mkF m 114 (lo0_9 p1 p2 p3 p4 z319 z320 z321 z322 z323 z324 b325 b330) [])) rfl (hb hby at_114) (by decide) (by decide)
    obtain ⟨b335, g335⟩ : ∃ z, z = h334.size := ⟨_, rfl⟩
    rw [← g335] at A335 D335 st335
    have g_b335 : n0 ≤ b335 := Nat.le_trans Z0 (Nat.le_of_eq g335.symm)
    have ne_b325_b335 : b325 ≠ b335 := Nat.ne_of_lt (Nat.lt_of_lt_of_le E_b325.lt (Nat.le_of_eq g335.symm))
    have ne_B329_b335 : B329 ≠ b335 := Nat.ne_of_lt (Nat.lt_of_lt_of_le V_B329.lt (Nat.le_of_eq g335.symm))
    have ne_b330_b335 : b330 ≠ b335 := Nat.ne_of_lt (Nat.lt_of_lt_of_le E_b330.lt (Nat.le_of_eq g335.symm))
    have ne_B334_b335 : B334 ≠ b335 := Nat.ne_of_lt (Nat.lt_of_lt_of_le V_B334.lt (Nat.le_of_eq g335.symm))
    have Sf_b335 := own_sfnew hCR (Nat.le_of_eq g335.symm)
    replace Sf_b335 := Safe.ext E335 hCR.1 Sf_b335
    replace hCR := hCR.trans (CHr.ext E335 hCR.1)
    replace SC := SC.ext E335
    replace E_b325 := E_b325.ext E335
    replace F_coder_b325 := F_coder_b325.ext E335
    replace F_value_b325 := F_value_b325.ext E335
    replace V_B329 := V_B329.ext E335
    replace E_b330 := E_b330.ext E335
    replace F_coder_b330 := F_coder_b330.ext E335
    replace F_value_b330 := F_value_b330.ext E335
    replace V_B334 := V_B334.ext E335
    replace Z0 := Nat.le_trans Z0 E335.1
    replace hk := Nat.le_trans hk E335.1
    have E_b335 := A335
    have F_coder_b335 : GC Z h335 b335 (.int 0) := D335 (Or.inr (ww hw 27 rfl)) (ty := .byte) (by decide)
    have F_value_b335 : GV Z h335 b335 .null := D335 (Or.inr (ww hw 29 rfl)) (ty := (.array .byte)) (by decide)
    obtain ⟨T336, h336, k336, X336, e336, E336, A336, st336⟩ := newP X335 hx hZ (ww hw 3 rfl) e335 (g := (mkF m 119 (lo0_9 p1 p2 p3 p4 z319 z320 z321 z322 z323 z324 b325 b330) [.int 2, .ref b335, .ref b335])) rfl (hb hby at_119) rfl (by decide) (cap := 2) (by decide) (by decide) (by decide) (by decide)
    obtain ⟨b336, g336⟩ : ∃ z, z = h335.size := ⟨_, rfl⟩
    rw [← g336] at A336 st336
    have g_b336 : n0 ≤ b336 := Nat.le_trans Z0 (Nat.le_of_eq g336.symm)
    have ne_b325_b336 : b325 ≠ b336 := Nat.ne_of_lt (Nat.lt_of_lt_of_le E_b325.lt (Nat.le_of_eq g336.symm))
    have ne_B329_b336 : B329 ≠ b336 := Nat.ne_of_lt (Nat.lt_of_lt_of_le V_B329.lt (Nat.le_of_eq g336.symm))
    have ne_b330_b336 : b330 ≠ b336 := Nat.ne_of_lt (Nat.lt_of_lt_of_le E_b330.lt (Nat.le_of_eq g336.symm))
    have ne_B334_b336 : B334 ≠ b336 := Nat.ne_of_lt (Nat.lt_of_lt_of_le V_B334.lt (Nat.le_of_eq g336.symm))
    have ne_b335_b336 : b335 ≠ b336 := Nat.ne_of_lt (Nat.lt_of_lt_of_le E_b335.lt (Nat.le_of_eq g336.symm))
    have Sf_b336 := own_sfnew hCR (Nat.le_of_eq g336.symm)
    replace Sf_b335 := Safe.ext E336 hCR.1 Sf_b335
    replace Sf_b336 := Safe.ext E336 hCR.1 Sf_b336
    replace hCR := hCR.trans (CHr.ext E336 hCR.1)
    replace SC := SC.ext E336
    replace E_b325 := E_b325.ext E336
    replace F_coder_b325 := F_coder_b325.ext E336
    replace F_value_b325 := F_value_b325.ext E336
    replace V_B329 := V_B329.ext E336
    replace E_b330 := E_b330.ext E336
    replace F_coder_b330 := F_coder_b330.ext E336
    replace F_value_b330 := F_value_b330.ext E336
    replace V_B334 := V_B334.ext E336
    replace E_b335 := E_b335.ext E336
    replace F_coder_b335 := F_coder_b335.ext E336
    replace F_value_b335 := F_value_b335.ext E336
    replace Z0 := Nat.le_trans Z0 E336.1
    replace hk := Nat.le_trans hk E336.1
    have V_b336 : Arv Z h336 b336 k336 .char (2 : Int32) [] (.int 0) := Arv.new A336 (by decide)
    obtain ⟨T337, h337, X337, e337, W337, V_b336, hl_b336, st337⟩ := pushC X336 hx hZ e336 V_b336 (j := (0 : Int32)) (x := z323) ⟨by decide, by decide⟩ rfl (Ls := (lo0_9 p1 p2 p3 p4 z319 z320 z321 z322 z323 z324 b325 b330)) (S := [.ref b336, .ref b335, .ref b335]) hby at_125
    have sw := Sf_b336
    replace Sf_b335 := Safe.wr W337 sw hCR.1 Sf_b335
    replace Sf_b336 := Safe.wr W337 sw hCR.1 Sf_b336
    replace hCR := hCR.trans (CHr.wr W337 sw hCR.1)
    replace SC := SC.wr W337
    replace E_b325 := E_b325.wr W337
    replace F_coder_b325 := F_coder_b325.other W337 (Or.inl ne_b325_b336)
    replace F_value_b325 := F_value_b325.other W337 (Or.inl ne_b325_b336)
    replace V_B329 := V_B329.other W337 ne_B329_b336
    replace E_b330 := E_b330.wr W337
    replace F_coder_b330 := F_coder_b330.other W337 (Or.inl ne_b330_b336)
    replace F_value_b330 := F_value_b330.other W337 (Or.inl ne_b330_b336)
    replace V_B334 := V_B334.other W337 ne_B334_b336
    replace E_b335 := E_b335.wr W337
    replace F_coder_b335 := F_coder_b335.other W337 (Or.inl ne_b335_b336)
    replace F_value_b335 := F_value_b335.other W337 (Or.inl ne_b335_b336)
    replace Z0 := Nat.le_trans Z0 (Keep.of_wr W337).1
    replace hk := Nat.le_trans hk (Keep.of_wr W337).1
    have N337 := Fr.snoc X337 N334 g_b336
    obtain ⟨T338, h338, X338, e338, W338, V_b336, hl_b336, st338⟩ := pushC X337 hx hZ e337 V_b336 (j := (1 : Int32)) (x := z324) ⟨by decide, by decide⟩ hl_b336 (Ls := (lo0_9 p1 p2 p3 p4 z319 z320 z321 z322 z323 z324 b325 b330)) (S := [.ref b336, .ref b335, .ref b335]) hby at_130
    have sw := Sf_b336
    replace Sf_b335 := Safe.wr W338 sw hCR.1 Sf_b335
    replace Sf_b336 := Safe.wr W338 sw hCR.1 Sf_b336
    replace hCR := hCR.trans (CHr.wr W338 sw hCR.1)
    replace SC := SC.wr W338
    replace E_b325 := E_b325.wr W338
    replace F_coder_b325 := F_coder_b325.other W338 (Or.inl ne_b325_b336)
    replace F_value_b325 := F_value_b325.other W338 (Or.inl ne_b325_b336)
    replace V_B329 := V_B329.other W338 ne_B329_b336
    replace E_b330 := E_b330.wr W338
    replace F_coder_b330 := F_coder_b330.other W338 (Or.inl ne_b330_b336)
    replace F_value_b330 := F_value_b330.other W338 (Or.inl ne_b330_b336)
    replace V_B334 := V_B334.other W338 ne_B334_b336
    replace E_b335 := E_b335.wr W338
    replace F_coder_b335 := F_coder_b335.other W338 (Or.inl ne_b335_b336)
    replace F_value_b335 := F_value_b335.other W338 (Or.inl ne_b335_b336)
    replace Z0 := Nat.le_trans Z0 (Keep.of_wr W338).1
    replace hk := Nat.le_trans hk (Keep.of_wr W338).1
    have N338 := Fr.snoc X338 N337 g_b336
    replace V_b336 : Arv Z h338 b336 k336 .char (2 : Int32) [(.int (z323.toUInt32.toUInt16.toUInt32.toInt32)), (.int (z324.toUInt32.toUInt16.toUInt32.toInt32))] (.int 0) := V_b336
    obtain ⟨_, _, ⟨T339, _, _, _⟩, -, X339, ⟨_, hQ339, l339, y339, z339⟩, st339⟩ := X338.specialBack hx (y := mn30) rfl hown (mvT hZ (ww hw 4 rfl)) (mvT hZ (ww hw 5 rfl)) (mvT hZ (ww hw 6 rfl)) (by decide) (StrChars.Road.backV (W := 1) hZ hws (kI := 4) (ww hw 1 rfl) (cs := ([(z323.toUInt32.toUInt16.toUInt32.toInt32), (z324.toUInt32.toUInt16.toUInt32.toInt32)] : List Int32)) (bs := ([(z323.toUInt32.toUInt16.toUInt32.toInt32), (z324.toUInt32.toUInt16.toUInt32.toInt32)] : List Int32).map StrChars.lo8) (n := 2) g_b335 Z0 E_b335 F_value_b335 F_coder_b335 V_b336 SC hz rfl rfl (by decide) (by decide) (own_rc (own_charz hz323) (own_rc (own_charz hz324) own_rn)) rfl (by decide) (by decide)) (g := (mkF m 131 (lo0_9 p1 p2 p3 p4 z319 z320 z321 z322 z323 z324 b325 b330) [.ref b336, .ref b335, .ref b335])) rfl (by rw [hml]; rfl) (Steps.refl _) (a := b335) (argsL := [.ref b336]) (rest := [.ref b335]) (lenOf pd_22 rfl) rfl (wz rfl) (hb hby at_131) (fun _ _ => ⟨rfl, e338, (by decide : 8 + 1 ≤ _), (by decide : 22 + 2 ≤ _)⟩)
    dsimp only [Pt.U, Pt.locs, Pt.cells, Pt.slots] at X339 l339 y339 z339 st339 hQ339
    rw [l339, y339, z339] at X339
    obtain ⟨h339, e339⟩ : ∃ z, T339.heap = z := ⟨_, rfl⟩
    rw [e339] at hQ339
    obtain ⟨rfl, N339q, K339, G339E, G339C, B339, kb339, -, szn339, -, G339V, G339A⟩ := hQ339
    have g_B339 : n0 ≤ B339 := Nat.le_trans Z0 szn339
    have ne_b325_B339 : b325 ≠ B339 := Nat.ne_of_lt (Nat.lt_of_lt_of_le E_b325.lt szn339)
    have ne_B329_B339 : B329 ≠ B339 := Nat.ne_of_lt (Nat.lt_of_lt_of_le V_B329.lt szn339)
    have ne_b330_B339 : b330 ≠ B339 := Nat.ne_of_lt (Nat.lt_of_lt_of_le E_b330.lt szn339)
    have ne_B334_B339 : B334 ≠ B339 := Nat.ne_of_lt (Nat.lt_of_lt_of_le V_B334.lt szn339)
    have ne_b335_B339 : b335 ≠ B339 := Nat.ne_of_lt (Nat.lt_of_lt_of_le E_b335.lt szn339)
    have ne_b336_B339 : b336 ≠ B339 := Nat.ne_of_lt (Nat.lt_of_lt_of_le V_b336.lt szn339)
    have Sf_B339 := own_sfnew hCR szn339
    have hs := (sfS Sf_b335 sf0)
    replace Sf_b335 := Safe.keep K339 hs hCR.1 Sf_b335
    replace hCR := hCR.trans (CHr.keep K339 hs hCR.1)
    replace SC := own_stakeep SC K339 (nsS (Exa.nostat E_b335) ns0)
    replace E_b325 := E_b325.keep K339
    replace F_coder_b325 := F_coder_b325.keep K339 (ninS ne_b325_b335 nin0)
    replace F_value_b325 := F_value_b325.keep K339 (ninS ne_b325_b335 nin0)
    replace V_B329 := V_B329.keep K339 (ninS ne_B329_b335 nin0)
    replace E_b330 := E_b330.keep K339
    replace F_coder_b330 := F_coder_b330.keep K339 (ninS ne_b330_b335 nin0)
    replace F_value_b330 := F_value_b330.keep K339 (ninS ne_b330_b335 nin0)
    replace V_B334 := V_B334.keep K339 (ninS ne_B334_b335 nin0)
    replace E_b335 := E_b335.keep K339
    replace V_b336 := V_b336.keep K339 (ninS (Ne.symm ne_b335_b336) nin0)
    replace Z0 := Nat.le_trans Z0 K339.1
    replace hk := Nat.le_trans hk K339.1
    have F_coder_b335 : GC Z h339 b335 (.int 0) := G339C
    have F_value_b335 : GV Z h339 b335 (.ref B339) := G339V
    have V_B339 : Arv Z h339 B339 kb339 .byte (2 : Int32) (LB ([(z323.toUInt32.toUInt16.toUInt32.toInt32), (z324.toUInt32.toUInt16.toUInt32.toInt32)] : List Int32)) (.int 0) := G339A
    have N339 := Fr.app N338 N339q
    obtain ⟨T340, h340, X340, e340, E340, A340, D340, -, st340⟩ := newO X339 hx hZ hown (ww hw 30 rfl) (ww hw 31 rfl) (ww hw 32 rfl) e339 (g := (mkF m 136 (lo0_10 p1 p2 p3 p4 z319 z320 z321 z322 z323 z324 b325 b330 b335) [])) rfl (hb hby at_136) (by decide) (by decide)
    obtain ⟨b340, g340⟩ : ∃ z, z = h339.size := ⟨_, rfl⟩
    rw [← g340] at A340 D340 st340
    have g_b340 : n0 ≤ b340 := Nat.le_trans Z0 (Nat.le_of_eq g340.symm)
    have ne_b325_b340 : b325 ≠ b340 := Nat.ne_of_lt (Nat.lt_of_lt_of_le E_b325.lt (Nat.le_of_eq g340.symm))
    have ne_B329_b340 : B329 ≠ b340 := Nat.ne_of_lt (Nat.lt_of_lt_of_le V_B329.lt (Nat.le_of_eq g340.symm))
    have ne_b330_b340 : b330 ≠ b340 := Nat.ne_of_lt (Nat.lt_of_lt_of_le E_b330.lt (Nat.le_of_eq g340.symm))
    have ne_B334_b340 : B334 ≠ b340 := Nat.ne_of_lt (Nat.lt_of_lt_of_le V_B334.lt (Nat.le_of_eq g340.symm))
    have ne_b335_b340 : b335 ≠ b340 := Nat.ne_of_lt (Nat.lt_of_lt_of_le E_b335.lt (Nat.le_of_eq g340.symm))
    have ne_B339_b340 : B339 ≠ b340 := Nat.ne_of_lt (Nat.lt_of_lt_of_le V_B339.lt (Nat.le_of_eq g340.symm))
    have Sf_b340 := own_sfnew hCR (Nat.le_of_eq g340.symm)
    replace Sf_b340 := Safe.ext E340 hCR.1 Sf_b340
    replace hCR := hCR.trans (CHr.ext E340 hCR.1)
    replace SC := SC.ext E340
    replace E_b325 := E_b325.ext E340
    replace F_coder_b325 := F_coder_b325.ext E340
    replace F_value_b325 := F_value_b325.ext E340
    replace V_B329 := V_B329.ext E340
    replace E_b330 := E_b330.ext E340
    replace F_coder_b330 := F_coder_b330.ext E340
    replace F_value_b330 := F_value_b330.ext E340
    replace V_B334 := V_B334.ext E340
    replace E_b335 := E_b335.ext E340
    replace F_coder_b335 := F_coder_b335.ext E340
    replace F_value_b335 := F_value_b335.ext E340
    replace V_B339 := V_B339.ext E340
    replace Z0 := Nat.le_trans Z0 E340.1
    replace hk := Nat.le_trans hk E340.1
    have E_b340 := A340
    have F_name_b340 : Fld Z h340 b340 "com/example/assay/assay/config/ProbeSettings" "name" "Ljava/lang/String;" .null := D340 (Or.inr (ww hw 43 rfl)) (ty := (.object "java/lang/String")) (by decide)
    have F_city_b340 : Fld Z h340 b340 "com/example/assay/assay/config/ProbeSettings" "city" "Ljava/lang/String;" .null := D340 (Or.inr (ww hw 45 rfl)) (ty := (.object "java/lang/String")) (by decide)
    have F_token_b340 : Fld Z h340 b340 "com/example/assay/assay/config/ProbeSettings" "token" "Ljava/lang/String;" .null := D340 (Or.inr (ww hw 47 rfl)) (ty := (.object "java/lang/String")) (by decide)
    have F_ipv6_b340 : Fld Z h340 b340 "com/example/assay/assay/config/ProbeSettings" "ipv6" "Z" (.int 0) := D340 (Or.inr (ww hw 49 rfl)) (ty := .boolean) (by decide)
    obtain ⟨_, _, ⟨T341, _, _, _⟩, -, X341, ⟨_, hQ341, l341, y341, z341⟩, st341⟩ := X340.specialBack hx (y := mn29) rfl hown (mvT hZ (ww hw 33 rfl)) (mvT hZ (ww hw 34 rfl)) (mvT hZ (ww hw 35 rfl)) (by decide) (backOf (W := 1) (rm7 l Z a0 hw [] b340 b325 b330 b335 (0 : Int32) h340 n0 Z0 E_b340 F_name_b340 F_city_b340 F_token_b340 F_ipv6_b340 g_b340) hZ (ww hw 35 rfl) (ww hw 32 rfl) (by decide) (by decide)) (g := (mkF m 148 (lo0_10 p1 p2 p3 p4 z319 z320 z321 z322 z323 z324 b325 b330 b335) [.int 0, .ref b335, .ref b330, .ref b325, .ref b340, .ref b340])) rfl (by rw [hml]; rfl) (Steps.refl _) (a := b340) (argsL := [.ref b325, .ref b330, .ref b335, .int 0]) (rest := [.ref b340]) (lenOf pd_23 rfl) rfl (wz rfl) (hb hby at_148) (fun _ _ => ⟨rfl, e340, (by decide : 10 + 0 ≤ _), (by decide : 28 + 0 ≤ _)⟩)
    dsimp only [Pt.U, Pt.locs, Pt.cells, Pt.slots] at X341 l341 y341 z341 st341 hQ341
    rw [l341, y341, z341] at X341
    obtain ⟨h341, e341⟩ : ∃ z, T341.heap = z := ⟨_, rfl⟩
    rw [e341] at hQ341
    obtain ⟨rfl, N341q, K341, G341_0, G341_1, G341_2, G341_3⟩ := hQ341
    have hs := (sfS Sf_b340 sf0)
    replace Sf_b340 := Safe.keep K341 hs hCR.1 Sf_b340
    replace hCR := hCR.trans (CHr.keep K341 hs hCR.1)
    replace SC := own_stakeep SC K341 (nsS (Exa.nostat E_b340) ns0)
    replace E_b325 := E_b325.keep K341
    replace F_coder_b325 := F_coder_b325.keep K341 (ninS ne_b325_b340 nin0)
    replace F_value_b325 := F_value_b325.keep K341 (ninS ne_b325_b340 nin0)
    replace V_B329 := V_B329.keep K341 (ninS ne_B329_b340 nin0)
    replace E_b330 := E_b330.keep K341
    replace F_coder_b330 := F_coder_b330.keep K341 (ninS ne_b330_b340 nin0)
    replace F_value_b330 := F_value_b330.keep K341 (ninS ne_b330_b340 nin0)
    replace V_B334 := V_B334.keep K341 (ninS ne_B334_b340 nin0)
    replace E_b335 := E_b335.keep K341
    replace F_coder_b335 := F_coder_b335.keep K341 (ninS ne_b335_b340 nin0)
    replace F_value_b335 := F_value_b335.keep K341 (ninS ne_b335_b340 nin0)
    replace V_B339 := V_B339.keep K341 (ninS ne_B339_b340 nin0)
    replace E_b340 := E_b340.keep K341
    replace Z0 := Nat.le_trans Z0 K341.1
    replace hk := Nat.le_trans hk K341.1
    have F_name_b340 : Fld Z h341 b340 "com/example/assay/assay/config/ProbeSettings" "name" "Ljava/lang/String;" (.ref b325) := G341_0
    have F_city_b340 : Fld Z h341 b340 "com/example/assay/assay/config/ProbeSettings" "city" "Ljava/lang/String;" (.ref b330) := G341_1
    have F_token_b340 : Fld Z h341 b340 "com/example/assay/assay/config/ProbeSettings" "token" "Ljava/lang/String;" (.ref b335) := G341_2
    have F_ipv6_b340 : Fld Z h341 b340 "com/example/assay/assay/config/ProbeSettings" "ipv6" "Z" (.int ((0 : Int32) &&& 1)) := G341_3
    replace F_ipv6_b340 : Fld Z h341 b340 "com/example/assay/assay/config/ProbeSettings" "ipv6" "Z" (.int 0) := F_ipv6_b340
    have N341 := Fr.app N339 N341q
    obtain ⟨cq342, kq342, q342a, q342b, q342c⟩ := isOf hZ e341 E_b340
    obtain ⟨_, _, ⟨T342, _, _, _⟩, -, X342, hS342, hg342, ⟨_, hQ342, l342, y342, z342, -⟩, st342⟩ := X341.virtualBackS hx (y := mn27) (z := mn27) hown (mvT hZ (ww hw 50 rfl)) (mvT hZ (ww hw 51 rfl)) (notFace_of_selects (args := #[]) (mvT hZ (ww hw 53 rfl))) (mvT hZ (ww hw 53 rfl)) (mvT hZ (ww hw 52 rfl)) (by decide) (backOfSH (W := 0) (rm9_0 l Z a0 hw [] b340 b325 B329 kb329 b330 B334 kb334 (z319.toUInt32.toUInt16.toUInt32.toInt32) (z320.toUInt32.toUInt16.toUInt32.toInt32) (z321.toUInt32.toUInt16.toUInt32.toInt32) (z322.toUInt32.toUInt16.toUInt32.toInt32) wC h341 n0 Z0 SC hz F_name_b340 F_city_b340 F_ipv6_b340 E_b325 F_coder_b325 F_value_b325 V_B329 E_b330 F_coder_b330 F_value_b330 V_B334) hZ (ww hw 54 rfl) (ww hw 32 rfl) (by decide) (by decide) hEL hCR.1) q342a q342c (g := (mkF m 151 (lo0_10 p1 p2 p3 p4 z319 z320 z321 z322 z323 z324 b325 b330 b335) [.ref b340])) rfl (by rw [hml]; rfl) (Steps.refl _) (argsL := []) (rest := []) (lenOf pd_21 rfl) rfl (wz rfl) (hb hby at_151) (fun _ _ => ⟨rfl, e341, (by decide : 10 + 14 ≤ _), (by decide : 28 + 323 ≤ _)⟩)
    dsimp only [Pt.U, Pt.locs, Pt.cells, Pt.slots] at X342 l342 y342 z342 st342 hQ342 hS342 hg342
    rw [l342, y342, z342] at X342
    obtain ⟨X342, hS, hZ, hown⟩ := rebS hS (by rw [e341]; exact hk) X342 hS342 hg342 hZ hown
    obtain ⟨h342, e342⟩ : ∃ z, T342.heap = z := ⟨_, rfl⟩
    rw [e342] at hQ342
    obtain ⟨b342, B342, kb342, rfl, N342q, K342, szx342, szt342, G342E, G342C, G342V, G342A⟩ := hQ342
    have g_b342 : n0 ≤ b342 := Nat.le_trans Z0 szx342
    have g_B342 : n0 ≤ B342 := Nat.le_trans Z0 szt342
    replace SC := own_stakeep SC K342 ns0
    replace Z0 := Nat.le_trans Z0 K342.1
    have E_b342 : ES Z h342 b342 := G342E
    have F_coder_b342 : GC Z h342 b342 (.int 0) := G342C
    have F_value_b342 : GV Z h342 b342 (.ref B342) := G342V
    have V_B342 : Arv Z h342 B342 kb342 .byte (43 : Int32) (LB ([(80 : Int32), (114 : Int32), (111 : Int32), (98 : Int32), (101 : Int32), (83 : Int32), (101 : Int32), (116 : Int32), (116 : Int32), (105 : Int32), (110 : Int32), (103 : Int32), (115 : Int32), (91 : Int32), (110 : Int32), (97 : Int32), (109 : Int32), (101 : Int32), (61 : Int32), (z319.toUInt32.toUInt16.toUInt32.toInt32), (z320.toUInt32.toUInt16.toUInt32.toInt32), (44 : Int32), (32 : Int32), (99 : Int32), (105 : Int32), (116 : Int32), (121 : Int32), (61 : Int32), (z321.toUInt32.toUInt16.toUInt32.toInt32), (z322.toUInt32.toUInt16.toUInt32.toInt32), (44 : Int32), (32 : Int32), (105 : Int32), (112 : Int32), (118 : Int32), (54 : Int32), (61 : Int32), (102 : Int32), (97 : Int32), (108 : Int32), (115 : Int32), (101 : Int32), (93 : Int32)] : List Int32)) (.int 0) := G342A
    have hk : T342.heap.size ≤ h342.size := Nat.le_of_eq (by rw [e342])
    have N342 := Fr.app N341 N342q
    obtain ⟨T343, h343, k343, X343, e343, E343, A343, st343⟩ := newP X342 hx hZ (ww hw 3 rfl) e342 (g := (mkF m 418 (lo0_11 p1 p2 p3 p4 z319 z320 z321 z322 z323 z324 b325 b330 b335 b342) [.int 43])) rfl (hb hby at_418) rfl (by decide) (cap := 43) (by decide) (by decide) (by decide) (by decide)
    obtain ⟨b343, g343⟩ : ∃ z, z = h342.size := ⟨_, rfl⟩
    rw [← g343] at A343 st343
    have g_b343 : n0 ≤ b343 := Nat.le_trans Z0 (Nat.le_of_eq g343.symm)
    have ne_b342_b343 : b342 ≠ b343 := Nat.ne_of_lt (Nat.lt_of_lt_of_le E_b342.lt (Nat.le_of_eq g343.symm))
    have ne_B342_b343 : B342 ≠ b343 := Nat.ne_of_lt (Nat.lt_of_lt_of_le V_B342.lt (Nat.le_of_eq g343.symm))
    replace SC := SC.ext E343
    replace E_b342 := E_b342.ext E343
    replace F_coder_b342 := F_coder_b342.ext E343
    replace F_value_b342 := F_value_b342.ext E343
    replace V_B342 := V_B342.ext E343
    replace Z0 := Nat.le_trans Z0 E343.1
    replace hk := Nat.le_trans hk E343.1
    have V_b343 : Arv Z h343 b343 k343 .char (43 : Int32) [] (.int 0) := Arv.new A343 (by decide)
    have nsb := Arv.nostat V_b343
    obtain ⟨T344, h344, X344, e344, W344, V_b343, hl_b343, st344⟩ := pushC X343 hx hZ e343 V_b343 (j := (0 : Int32)) (x := (80 : Int32)) ⟨by decide, by decide⟩ rfl (Ls := (lo0_11 p1 p2 p3 p4 z319 z320 z321 z322 z323 z324 b325 b330 b335 b342)) (S := [.ref b343]) hby at_424
    have KW := Keep.of_wr W344
    have N344 := Fr.snoc X344 N342 g_b343
    obtain ⟨T345, h345, X345, e345, W345, V_b343, hl_b343, st345⟩ := pushC X344 hx hZ e344 V_b343 (j := (1 : Int32)) (x := (114 : Int32)) ⟨by decide, by decide⟩ hl_b343 (Ls := (lo0_11 p1 p2 p3 p4 z319 z320 z321 z322 z323 z324 b325 b330 b335 b342)) (S := [.ref b343]) hby at_429
    replace KW := KW.wr W345 (Or.inl (List.mem_of_getElem? (i := 0) rfl))
    have N345 := Fr.snoc X345 N344 g_b343
    obtain ⟨T346, h346, X346, e346, W346, V_b343, hl_b343, st346⟩ := pushC X345 hx hZ e345 V_b343 (j := (2 : Int32)) (x := (111 : Int32)) ⟨by decide, by decide⟩ hl_b343 (Ls := (lo0_11 p1 p2 p3 p4 z319 z320 z321 z322 z323 z324 b325 b330 b335 b342)) (S := [.ref b343]) hby at_434
    replace KW := KW.wr W346 (Or.inl (List.mem_of_getElem? (i := 0) rfl))
    have N346 := Fr.snoc X346 N345 g_b343
    obtain ⟨T347, h347, X347, e347, W347, V_b343, hl_b343, st347⟩ := pushC X346 hx hZ e346 V_b343 (j := (3 : Int32)) (x := (98 : Int32)) ⟨by decide, by decide⟩ hl_b343 (Ls := (lo0_11 p1 p2 p3 p4 z319 z320 z321 z322 z323 z324 b325 b330 b335 b342)) (S := [.ref b343]) hby at_439
    replace KW := KW.wr W347 (Or.inl (List.mem_of_getElem? (i := 0) rfl))
    replace V_b343 : Arv Z h347 b343 k343 .char (43 : Int32) [.int 80, .int 114, .int 111, .int 98] (.int 0) := V_b343
    have N347 := Fr.snoc X347 N346 g_b343
    obtain ⟨T348, h348, X348, e348, W348, V_b343, hl_b343, st348⟩ := pushC X347 hx hZ e347 V_b343 (j := (4 : Int32)) (x := (101 : Int32)) ⟨by decide, by decide⟩ rfl (Ls := (lo0_11 p1 p2 p3 p4 z319 z320 z321 z322 z323 z324 b325 b330 b335 b342)) (S := [.ref b343]) hby at_444
    replace KW := KW.wr W348 (Or.inl (List.mem_of_getElem? (i := 0) rfl))
    have N348 := Fr.snoc X348 N347 g_b343
    obtain ⟨T349, h349, X349, e349, W349, V_b343, hl_b343, st349⟩ := pushC X348 hx hZ e348 V_b343 (j := (5 : Int32)) (x := (83 : Int32)) ⟨by decide, by decide⟩ hl_b343 (Ls := (lo0_11 p1 p2 p3 p4 z319 z320 z321 z322 z323 z324 b325 b330 b335 b342)) (S := [.ref b343]) hby at_449
    replace KW := KW.wr W349 (Or.inl (List.mem_of_getElem? (i := 0) rfl))
    have N349 := Fr.snoc X349 N348 g_b343
    obtain ⟨T350, h350, X350, e350, W350, V_b343, hl_b343, st350⟩ := pushC X349 hx hZ e349 V_b343 (j := (6 : Int32)) (x := (101 : Int32)) ⟨by decide, by decide⟩ hl_b343 (Ls := (lo0_11 p1 p2 p3 p4 z319 z320 z321 z322 z323 z324 b325 b330 b335 b342)) (S := [.ref b343]) hby at_455
    replace KW := KW.wr W350 (Or.inl (List.mem_of_getElem? (i := 0) rfl))
    have N350 := Fr.snoc X350 N349 g_b343
    obtain ⟨T351, h351, X351, e351, W351, V_b343, hl_b343, st351⟩ := pushC X350 hx hZ e350 V_b343 (j := (7 : Int32)) (x := (116 : Int32)) ⟨by decide, by decide⟩ hl_b343 (Ls := (lo0_11 p1 p2 p3 p4 z319 z320 z321 z322 z323 z324 b325 b330 b335 b342)) (S := [.ref b343]) hby at_461
    replace KW := KW.wr W351 (Or.inl (List.mem_of_getElem? (i := 0) rfl))
    replace V_b343 : Arv Z h351 b343 k343 .char (43 : Int32) [.int 80, .int 114, .int 111, .int 98, .int 101, .int 83, .int 101, .int 116] (.int 0) := V_b343
    have N351 := Fr.snoc X351 N350 g_b343
    obtain ⟨T352, h352, X352, e352, W352, V_b343, hl_b343, st352⟩ := pushC X351 hx hZ e351 V_b343 (j := (8 : Int32)) (x := (116 : Int32)) ⟨by decide, by decide⟩ rfl (Ls := (lo0_11 p1 p2 p3 p4 z319 z320 z321 z322 z323 z324 b325 b330 b335 b342)) (S := [.ref b343]) hby at_467
    replace KW := KW.wr W352 (Or.inl (List.mem_of_getElem? (i := 0) rfl))
    have N352 := Fr.snoc X352 N351 g_b343
    obtain ⟨T353, h353, X353, e353, W353, V_b343, hl_b343, st353⟩ := pushC X352 hx hZ e352 V_b343 (j := (9 : Int32)) (x := (105 : Int32)) ⟨by decide, by decide⟩ hl_b343 (Ls := (lo0_11 p1 p2 p3 p4 z319 z320 z321 z322 z323 z324 b325 b330 b335 b342)) (S := [.ref b343]) hby at_473
    replace KW := KW.wr W353 (Or.inl (List.mem_of_getElem? (i := 0) rfl))
    have N353 := Fr.snoc X353 N352 g_b343
    obtain ⟨T354, h354, X354, e354, W354, V_b343, hl_b343, st354⟩ := pushC X353 hx hZ e353 V_b343 (j := (10 : Int32)) (x := (110 : Int32)) ⟨by decide, by decide⟩ hl_b343 (Ls := (lo0_11 p1 p2 p3 p4 z319 z320 z321 z322 z323 z324 b325 b330 b335 b342)) (S := [.ref b343]) hby at_479
    replace KW := KW.wr W354 (Or.inl (List.mem_of_getElem? (i := 0) rfl))
    have N354 := Fr.snoc X354 N353 g_b343
    obtain ⟨T355, h355, X355, e355, W355, V_b343, hl_b343, st355⟩ := pushC X354 hx hZ e354 V_b343 (j := (11 : Int32)) (x := (103 : Int32)) ⟨by decide, by decide⟩ hl_b343 (Ls := (lo0_11 p1 p2 p3 p4 z319 z320 z321 z322 z323 z324 b325 b330 b335 b342)) (S := [.ref b343]) hby at_485
    replace KW := KW.wr W355 (Or.inl (List.mem_of_getElem? (i := 0) rfl))
    replace V_b343 : Arv Z h355 b343 k343 .char (43 : Int32) [.int 80, .int 114, .int 111, .int 98, .int 101, .int 83, .int 101, .int 116, .int 116, .int 105, .int 110, .int 103] (.int 0) := V_b343
    have N355 := Fr.snoc X355 N354 g_b343
    obtain ⟨T356, h356, X356, e356, W356, V_b343, hl_b343, st356⟩ := pushC X355 hx hZ e355 V_b343 (j := (12 : Int32)) (x := (115 : Int32)) ⟨by decide, by decide⟩ rfl (Ls := (lo0_11 p1 p2 p3 p4 z319 z320 z321 z322 z323 z324 b325 b330 b335 b342)) (S := [.ref b343]) hby at_491
    replace KW := KW.wr W356 (Or.inl (List.mem_of_getElem? (i := 0) rfl))
    have N356 := Fr.snoc X356 N355 g_b343
    obtain ⟨T357, h357, X357, e357, W357, V_b343, hl_b343, st357⟩ := pushC X356 hx hZ e356 V_b343 (j := (13 : Int32)) (x := (91 : Int32)) ⟨by decide, by decide⟩ hl_b343 (Ls := (lo0_11 p1 p2 p3 p4 z319 z320 z321 z322 z323 z324 b325 b330 b335 b342)) (S := [.ref b343]) hby at_497
    replace KW := KW.wr W357 (Or.inl (List.mem_of_getElem? (i := 0) rfl))
    have N357 := Fr.snoc X357 N356 g_b343
    obtain ⟨T358, h358, X358, e358, W358, V_b343, hl_b343, st358⟩ := pushC X357 hx hZ e357 V_b343 (j := (14 : Int32)) (x := (110 : Int32)) ⟨by decide, by decide⟩ hl_b343 (Ls := (lo0_11 p1 p2 p3 p4 z319 z320 z321 z322 z323 z324 b325 b330 b335 b342)) (S := [.ref b343]) hby at_503
    replace KW := KW.wr W358 (Or.inl (List.mem_of_getElem? (i := 0) rfl))
    have N358 := Fr.snoc X358 N357 g_b343
    obtain ⟨T359, h359, X359, e359, W359, V_b343, hl_b343, st359⟩ := pushC X358 hx hZ e358 V_b343 (j := (15 : Int32)) (x := (97 : Int32)) ⟨by decide, by decide⟩ hl_b343 (Ls := (lo0_11 p1 p2 p3 p4 z319 z320 z321 z322 z323 z324 b325 b330 b335 b342)) (S := [.ref b343]) hby at_509
    replace KW := KW.wr W359 (Or.inl (List.mem_of_getElem? (i := 0) rfl))
    replace V_b343 : Arv Z h359 b343 k343 .char (43 : Int32) [.int 80, .int 114, .int 111, .int 98, .int 101, .int 83, .int 101, .int 116, .int 116, .int 105, .int 110, .int 103, .int 115, .int 91, .int 110, .int 97] (.int 0) := V_b343
    have N359 := Fr.snoc X359 N358 g_b343
    obtain ⟨T360, h360, X360, e360, W360, V_b343, hl_b343, st360⟩ := pushC X359 hx hZ e359 V_b343 (j := (16 : Int32)) (x := (109 : Int32)) ⟨by decide, by decide⟩ rfl (Ls := (lo0_11 p1 p2 p3 p4 z319 z320 z321 z322 z323 z324 b325 b330 b335 b342)) (S := [.ref b343]) hby at_515
    replace KW := KW.wr W360 (Or.inl (List.mem_of_getElem? (i := 0) rfl))
    have N360 := Fr.snoc X360 N359 g_b343
    obtain ⟨T361, h361, X361, e361, W361, V_b343, hl_b343, st361⟩ := pushC X360 hx hZ e360 V_b343 (j := (17 : Int32)) (x := (101 : Int32)) ⟨by decide, by decide⟩ hl_b343 (Ls := (lo0_11 p1 p2 p3 p4 z319 z320 z321 z322 z323 z324 b325 b330 b335 b342)) (S := [.ref b343]) hby at_521
    replace KW := KW.wr W361 (Or.inl (List.mem_of_getElem? (i := 0) rfl))
    have N361 := Fr.snoc X361 N360 g_b343
    obtain ⟨T362, h362, X362, e362, W362, V_b343, hl_b343, st362⟩ := pushC X361 hx hZ e361 V_b343 (j := (18 : Int32)) (x := (61 : Int32)) ⟨by decide, by decide⟩ hl_b343 (Ls := (lo0_11 p1 p2 p3 p4 z319 z320 z321 z322 z323 z324 b325 b330 b335 b342)) (S := [.ref b343]) hby at_527
    replace KW := KW.wr W362 (Or.inl (List.mem_of_getElem? (i := 0) rfl))
    have N362 := Fr.snoc X362 N361 g_b343
    obtain ⟨T363, h363, X363, e363, W363, V_b343, hl_b343, st363⟩ := pushC X362 hx hZ e362 V_b343 (j := (19 : Int32)) (x := z319) ⟨by decide, by decide⟩ hl_b343 (Ls := (lo0_11 p1 p2 p3 p4 z319 z320 z321 z322 z323 z324 b325 b330 b335 b342)) (S := [.ref b343]) hby at_533
    replace KW := KW.wr W363 (Or.inl (List.mem_of_getElem? (i := 0) rfl))
    replace V_b343 : Arv Z h363 b343 k343 .char (43 : Int32) [.int 80, .int 114, .int 111, .int 98, .int 101, .int 83, .int 101, .int 116, .int 116, .int 105, .int 110, .int 103, .int 115, .int 91, .int 110, .int 97, .int 109, .int 101, .int 61, (.int (z319.toUInt32.toUInt16.toUInt32.toInt32))] (.int 0) := V_b343
    have N363 := Fr.snoc X363 N362 g_b343
    obtain ⟨T364, h364, X364, e364, W364, V_b343, hl_b343, st364⟩ := pushC X363 hx hZ e363 V_b343 (j := (20 : Int32)) (x := z320) ⟨by decide, by decide⟩ rfl (Ls := (lo0_11 p1 p2 p3 p4 z319 z320 z321 z322 z323 z324 b325 b330 b335 b342)) (S := [.ref b343]) hby at_539
    replace KW := KW.wr W364 (Or.inl (List.mem_of_getElem? (i := 0) rfl))
    have N364 := Fr.snoc X364 N363 g_b343
    obtain ⟨T365, h365, X365, e365, W365, V_b343, hl_b343, st365⟩ := pushC X364 hx hZ e364 V_b343 (j := (21 : Int32)) (x := (44 : Int32)) ⟨by decide, by decide⟩ hl_b343 (Ls := (lo0_11 p1 p2 p3 p4 z319 z320 z321 z322 z323 z324 b325 b330 b335 b342)) (S := [.ref b343]) hby at_545
    replace KW := KW.wr W365 (Or.inl (List.mem_of_getElem? (i := 0) rfl))
    have N365 := Fr.snoc X365 N364 g_b343
    obtain ⟨T366, h366, X366, e366, W366, V_b343, hl_b343, st366⟩ := pushC X365 hx hZ e365 V_b343 (j := (22 : Int32)) (x := (32 : Int32)) ⟨by decide, by decide⟩ hl_b343 (Ls := (lo0_11 p1 p2 p3 p4 z319 z320 z321 z322 z323 z324 b325 b330 b335 b342)) (S := [.ref b343]) hby at_551
    replace KW := KW.wr W366 (Or.inl (List.mem_of_getElem? (i := 0) rfl))
    have N366 := Fr.snoc X366 N365 g_b343
    obtain ⟨T367, h367, X367, e367, W367, V_b343, hl_b343, st367⟩ := pushC X366 hx hZ e366 V_b343 (j := (23 : Int32)) (x := (99 : Int32)) ⟨by decide, by decide⟩ hl_b343 (Ls := (lo0_11 p1 p2 p3 p4 z319 z320 z321 z322 z323 z324 b325 b330 b335 b342)) (S := [.ref b343]) hby at_557
    replace KW := KW.wr W367 (Or.inl (List.mem_of_getElem? (i := 0) rfl))
    replace V_b343 : Arv Z h367 b343 k343 .char (43 : Int32) [.int 80, .int 114, .int 111, .int 98, .int 101, .int 83, .int 101, .int 116, .int 116, .int 105, .int 110, .int 103, .int 115, .int 91, .int 110, .int 97, .int 109, .int 101, .int 61, (.int (z319.toUInt32.toUInt16.toUInt32.toInt32)), (.int (z320.toUInt32.toUInt16.toUInt32.toInt32)), .int 44, .int 32, .int 99] (.int 0) := V_b343
    have N367 := Fr.snoc X367 N366 g_b343
    obtain ⟨T368, h368, X368, e368, W368, V_b343, hl_b343, st368⟩ := pushC X367 hx hZ e367 V_b343 (j := (24 : Int32)) (x := (105 : Int32)) ⟨by decide, by decide⟩ rfl (Ls := (lo0_11 p1 p2 p3 p4 z319 z320 z321 z322 z323 z324 b325 b330 b335 b342)) (S := [.ref b343]) hby at_563
    replace KW := KW.wr W368 (Or.inl (List.mem_of_getElem? (i := 0) rfl))
    have N368 := Fr.snoc X368 N367 g_b343
    obtain ⟨T369, h369, X369, e369, W369, V_b343, hl_b343, st369⟩ := pushC X368 hx hZ e368 V_b343 (j := (25 : Int32)) (x := (116 : Int32)) ⟨by decide, by decide⟩ hl_b343 (Ls := (lo0_11 p1 p2 p3 p4 z319 z320 z321 z322 z323 z324 b325 b330 b335 b342)) (S := [.ref b343]) hby at_569
    replace KW := KW.wr W369 (Or.inl (List.mem_of_getElem? (i := 0) rfl))
    have N369 := Fr.snoc X369 N368 g_b343
    obtain ⟨T370, h370, X370, e370, W370, V_b343, hl_b343, st370⟩ := pushC X369 hx hZ e369 V_b343 (j := (26 : Int32)) (x := (121 : Int32)) ⟨by decide, by decide⟩ hl_b343 (Ls := (lo0_11 p1 p2 p3 p4 z319 z320 z321 z322 z323 z324 b325 b330 b335 b342)) (S := [.ref b343]) hby at_575
    replace KW := KW.wr W370 (Or.inl (List.mem_of_getElem? (i := 0) rfl))
    have N370 := Fr.snoc X370 N369 g_b343
    obtain ⟨T371, h371, X371, e371, W371, V_b343, hl_b343, st371⟩ := pushC X370 hx hZ e370 V_b343 (j := (27 : Int32)) (x := (61 : Int32)) ⟨by decide, by decide⟩ hl_b343 (Ls := (lo0_11 p1 p2 p3 p4 z319 z320 z321 z322 z323 z324 b325 b330 b335 b342)) (S := [.ref b343]) hby at_581
    replace KW := KW.wr W371 (Or.inl (List.mem_of_getElem? (i := 0) rfl))
    replace V_b343 : Arv Z h371 b343 k343 .char (43 : Int32) [.int 80, .int 114, .int 111, .int 98, .int 101, .int 83, .int 101, .int 116, .int 116, .int 105, .int 110, .int 103, .int 115, .int 91, .int 110, .int 97, .int 109, .int 101, .int 61, (.int (z319.toUInt32.toUInt16.toUInt32.toInt32)), (.int (z320.toUInt32.toUInt16.toUInt32.toInt32)), .int 44, .int 32, .int 99, .int 105, .int 116, .int 121, .int 61] (.int 0) := V_b343
    have N371 := Fr.snoc X371 N370 g_b343
    obtain ⟨T372, h372, X372, e372, W372, V_b343, hl_b343, st372⟩ := pushC X371 hx hZ e371 V_b343 (j := (28 : Int32)) (x := z321) ⟨by decide, by decide⟩ rfl (Ls := (lo0_11 p1 p2 p3 p4 z319 z320 z321 z322 z323 z324 b325 b330 b335 b342)) (S := [.ref b343]) hby at_587
    replace KW := KW.wr W372 (Or.inl (List.mem_of_getElem? (i := 0) rfl))
    have N372 := Fr.snoc X372 N371 g_b343
    obtain ⟨T373, h373, X373, e373, W373, V_b343, hl_b343, st373⟩ := pushC X372 hx hZ e372 V_b343 (j := (29 : Int32)) (x := z322) ⟨by decide, by decide⟩ hl_b343 (Ls := (lo0_11 p1 p2 p3 p4 z319 z320 z321 z322 z323 z324 b325 b330 b335 b342)) (S := [.ref b343]) hby at_593
    replace KW := KW.wr W373 (Or.inl (List.mem_of_getElem? (i := 0) rfl))
    have N373 := Fr.snoc X373 N372 g_b343
    obtain ⟨T374, h374, X374, e374, W374, V_b343, hl_b343, st374⟩ := pushC X373 hx hZ e373 V_b343 (j := (30 : Int32)) (x := (44 : Int32)) ⟨by decide, by decide⟩ hl_b343 (Ls := (lo0_11 p1 p2 p3 p4 z319 z320 z321 z322 z323 z324 b325 b330 b335 b342)) (S := [.ref b343]) hby at_599
    replace KW := KW.wr W374 (Or.inl (List.mem_of_getElem? (i := 0) rfl))
    have N374 := Fr.snoc X374 N373 g_b343
    obtain ⟨T375, h375, X375, e375, W375, V_b343, hl_b343, st375⟩ := pushC X374 hx hZ e374 V_b343 (j := (31 : Int32)) (x := (32 : Int32)) ⟨by decide, by decide⟩ hl_b343 (Ls := (lo0_11 p1 p2 p3 p4 z319 z320 z321 z322 z323 z324 b325 b330 b335 b342)) (S := [.ref b343]) hby at_605
    replace KW := KW.wr W375 (Or.inl (List.mem_of_getElem? (i := 0) rfl))
    replace V_b343 : Arv Z h375 b343 k343 .char (43 : Int32) [.int 80, .int 114, .int 111, .int 98, .int 101, .int 83, .int 101, .int 116, .int 116, .int 105, .int 110, .int 103, .int 115, .int 91, .int 110, .int 97, .int 109, .int 101, .int 61, (.int (z319.toUInt32.toUInt16.toUInt32.toInt32)), (.int (z320.toUInt32.toUInt16.toUInt32.toInt32)), .int 44, .int 32, .int 99, .int 105, .int 116, .int 121, .int 61, (.int (z321.toUInt32.toUInt16.toUInt32.toInt32)), (.int (z322.toUInt32.toUInt16.toUInt32.toInt32)), .int 44, .int 32] (.int 0) := V_b343
    have N375 := Fr.snoc X375 N374 g_b343
    obtain ⟨T376, h376, X376, e376, W376, V_b343, hl_b343, st376⟩ := pushC X375 hx hZ e375 V_b343 (j := (32 : Int32)) (x := (105 : Int32)) ⟨by decide, by decide⟩ rfl (Ls := (lo0_11 p1 p2 p3 p4 z319 z320 z321 z322 z323 z324 b325 b330 b335 b342)) (S := [.ref b343]) hby at_611
    replace KW := KW.wr W376 (Or.inl (List.mem_of_getElem? (i := 0) rfl))
    have N376 := Fr.snoc X376 N375 g_b343
    obtain ⟨T377, h377, X377, e377, W377, V_b343, hl_b343, st377⟩ := pushC X376 hx hZ e376 V_b343 (j := (33 : Int32)) (x := (112 : Int32)) ⟨by decide, by decide⟩ hl_b343 (Ls := (lo0_11 p1 p2 p3 p4 z319 z320 z321 z322 z323 z324 b325 b330 b335 b342)) (S := [.ref b343]) hby at_617
    replace KW := KW.wr W377 (Or.inl (List.mem_of_getElem? (i := 0) rfl))
    have N377 := Fr.snoc X377 N376 g_b343
    obtain ⟨T378, h378, X378, e378, W378, V_b343, hl_b343, st378⟩ := pushC X377 hx hZ e377 V_b343 (j := (34 : Int32)) (x := (118 : Int32)) ⟨by decide, by decide⟩ hl_b343 (Ls := (lo0_11 p1 p2 p3 p4 z319 z320 z321 z322 z323 z324 b325 b330 b335 b342)) (S := [.ref b343]) hby at_623
    replace KW := KW.wr W378 (Or.inl (List.mem_of_getElem? (i := 0) rfl))
    have N378 := Fr.snoc X378 N377 g_b343
    obtain ⟨T379, h379, X379, e379, W379, V_b343, hl_b343, st379⟩ := pushC X378 hx hZ e378 V_b343 (j := (35 : Int32)) (x := (54 : Int32)) ⟨by decide, by decide⟩ hl_b343 (Ls := (lo0_11 p1 p2 p3 p4 z319 z320 z321 z322 z323 z324 b325 b330 b335 b342)) (S := [.ref b343]) hby at_629
    replace KW := KW.wr W379 (Or.inl (List.mem_of_getElem? (i := 0) rfl))
    replace V_b343 : Arv Z h379 b343 k343 .char (43 : Int32) [.int 80, .int 114, .int 111, .int 98, .int 101, .int 83, .int 101, .int 116, .int 116, .int 105, .int 110, .int 103, .int 115, .int 91, .int 110, .int 97, .int 109, .int 101, .int 61, (.int (z319.toUInt32.toUInt16.toUInt32.toInt32)), (.int (z320.toUInt32.toUInt16.toUInt32.toInt32)), .int 44, .int 32, .int 99, .int 105, .int 116, .int 121, .int 61, (.int (z321.toUInt32.toUInt16.toUInt32.toInt32)), (.int (z322.toUInt32.toUInt16.toUInt32.toInt32)), .int 44, .int 32, .int 105, .int 112, .int 118, .int 54] (.int 0) := V_b343
    have N379 := Fr.snoc X379 N378 g_b343
    obtain ⟨T380, h380, X380, e380, W380, V_b343, hl_b343, st380⟩ := pushC X379 hx hZ e379 V_b343 (j := (36 : Int32)) (x := (61 : Int32)) ⟨by decide, by decide⟩ rfl (Ls := (lo0_11 p1 p2 p3 p4 z319 z320 z321 z322 z323 z324 b325 b330 b335 b342)) (S := [.ref b343]) hby at_635
    replace KW := KW.wr W380 (Or.inl (List.mem_of_getElem? (i := 0) rfl))
    have N380 := Fr.snoc X380 N379 g_b343
    obtain ⟨T381, h381, X381, e381, W381, V_b343, hl_b343, st381⟩ := pushC X380 hx hZ e380 V_b343 (j := (37 : Int32)) (x := (102 : Int32)) ⟨by decide, by decide⟩ hl_b343 (Ls := (lo0_11 p1 p2 p3 p4 z319 z320 z321 z322 z323 z324 b325 b330 b335 b342)) (S := [.ref b343]) hby at_641
    replace KW := KW.wr W381 (Or.inl (List.mem_of_getElem? (i := 0) rfl))
    have N381 := Fr.snoc X381 N380 g_b343
    obtain ⟨T382, h382, X382, e382, W382, V_b343, hl_b343, st382⟩ := pushC X381 hx hZ e381 V_b343 (j := (38 : Int32)) (x := (97 : Int32)) ⟨by decide, by decide⟩ hl_b343 (Ls := (lo0_11 p1 p2 p3 p4 z319 z320 z321 z322 z323 z324 b325 b330 b335 b342)) (S := [.ref b343]) hby at_647
    replace KW := KW.wr W382 (Or.inl (List.mem_of_getElem? (i := 0) rfl))
    have N382 := Fr.snoc X382 N381 g_b343
    obtain ⟨T383, h383, X383, e383, W383, V_b343, hl_b343, st383⟩ := pushC X382 hx hZ e382 V_b343 (j := (39 : Int32)) (x := (108 : Int32)) ⟨by decide, by decide⟩ hl_b343 (Ls := (lo0_11 p1 p2 p3 p4 z319 z320 z321 z322 z323 z324 b325 b330 b335 b342)) (S := [.ref b343]) hby at_653
    replace KW := KW.wr W383 (Or.inl (List.mem_of_getElem? (i := 0) rfl))
    replace V_b343 : Arv Z h383 b343 k343 .char (43 : Int32) [.int 80, .int 114, .int 111, .int 98, .int 101, .int 83, .int 101, .int 116, .int 116, .int 105, .int 110, .int 103, .int 115, .int 91, .int 110, .int 97, .int 109, .int 101, .int 61, (.int (z319.toUInt32.toUInt16.toUInt32.toInt32)), (.int (z320.toUInt32.toUInt16.toUInt32.toInt32)), .int 44, .int 32, .int 99, .int 105, .int 116, .int 121, .int 61, (.int (z321.toUInt32.toUInt16.toUInt32.toInt32)), (.int (z322.toUInt32.toUInt16.toUInt32.toInt32)), .int 44, .int 32, .int 105, .int 112, .int 118, .int 54, .int 61, .int 102, .int 97, .int 108] (.int 0) := V_b343
    have N383 := Fr.snoc X383 N382 g_b343
    obtain ⟨T384, h384, X384, e384, W384, V_b343, hl_b343, st384⟩ := pushC X383 hx hZ e383 V_b343 (j := (40 : Int32)) (x := (115 : Int32)) ⟨by decide, by decide⟩ rfl (Ls := (lo0_11 p1 p2 p3 p4 z319 z320 z321 z322 z323 z324 b325 b330 b335 b342)) (S := [.ref b343]) hby at_659
    replace KW := KW.wr W384 (Or.inl (List.mem_of_getElem? (i := 0) rfl))
    have N384 := Fr.snoc X384 N383 g_b343
    obtain ⟨T385, h385, X385, e385, W385, V_b343, hl_b343, st385⟩ := pushC X384 hx hZ e384 V_b343 (j := (41 : Int32)) (x := (101 : Int32)) ⟨by decide, by decide⟩ hl_b343 (Ls := (lo0_11 p1 p2 p3 p4 z319 z320 z321 z322 z323 z324 b325 b330 b335 b342)) (S := [.ref b343]) hby at_665
    replace KW := KW.wr W385 (Or.inl (List.mem_of_getElem? (i := 0) rfl))
    have N385 := Fr.snoc X385 N384 g_b343
    obtain ⟨T386, h386, X386, e386, W386, V_b343, hl_b343, st386⟩ := pushC X385 hx hZ e385 V_b343 (j := (42 : Int32)) (x := (93 : Int32)) ⟨by decide, by decide⟩ hl_b343 (Ls := (lo0_11 p1 p2 p3 p4 z319 z320 z321 z322 z323 z324 b325 b330 b335 b342)) (S := [.ref b343]) hby at_671
    replace KW := KW.wr W386 (Or.inl (List.mem_of_getElem? (i := 0) rfl))
    have N386 := Fr.snoc X386 N385 g_b343
    replace SC := own_stakeep SC KW (nsS nsb ns0)
    replace E_b342 := E_b342.keep KW
    replace F_coder_b342 := F_coder_b342.keep KW (ninS ne_b342_b343 nin0)
    replace F_value_b342 := F_value_b342.keep KW (ninS ne_b342_b343 nin0)
    replace V_B342 := V_B342.keep KW (ninS ne_B342_b343 nin0)
    replace Z0 := Nat.le_trans Z0 KW.1
    replace hk := Nat.le_trans hk KW.1
    obtain ⟨T387, h387, X387, e387, E387, A387, D387, -, st387⟩ := newO X386 hx hZ hown (ww hw 0 rfl) (ww hw 1 rfl) (ww hw 2 rfl) e386 (g := (mkF m 676 (lo0_12 p1 p2 p3 p4 z319 z320 z321 z322 z323 z324 b325 b330 b335 b342 b343) [.ref b342])) rfl (hb hby at_676) (by decide) (by decide)
    obtain ⟨b387, g387⟩ : ∃ z, z = h386.size := ⟨_, rfl⟩
    rw [← g387] at A387 D387 st387
    have g_b387 : n0 ≤ b387 := Nat.le_trans Z0 (Nat.le_of_eq g387.symm)
    have ne_b342_b387 : b342 ≠ b387 := Nat.ne_of_lt (Nat.lt_of_lt_of_le E_b342.lt (Nat.le_of_eq g387.symm))
    have ne_B342_b387 : B342 ≠ b387 := Nat.ne_of_lt (Nat.lt_of_lt_of_le V_B342.lt (Nat.le_of_eq g387.symm))
    have ne_b343_b387 : b343 ≠ b387 := Nat.ne_of_lt (Nat.lt_of_lt_of_le V_b343.lt (Nat.le_of_eq g387.symm))
    replace SC := SC.ext E387
    replace E_b342 := E_b342.ext E387
    replace F_coder_b342 := F_coder_b342.ext E387
    replace F_value_b342 := F_value_b342.ext E387
    replace V_B342 := V_B342.ext E387
    replace V_b343 := V_b343.ext E387
    replace Z0 := Nat.le_trans Z0 E387.1
    replace hk := Nat.le_trans hk E387.1
    have E_b387 := A387
    have F_coder_b387 : GC Z h387 b387 (.int 0) := D387 (Or.inr (ww hw 27 rfl)) (ty := .byte) (by decide)
    have F_value_b387 : GV Z h387 b387 .null := D387 (Or.inr (ww hw 29 rfl)) (ty := (.array .byte)) (by decide)
    replace V_b343 : Arv Z h387 b343 k343 .char (43 : Int32) [.int 80, .int 114, .int 111, .int 98, .int 101, .int 83, .int 101, .int 116, .int 116, .int 105, .int 110, .int 103, .int 115, .int 91, .int 110, .int 97, .int 109, .int 101, .int 61, (.int (z319.toUInt32.toUInt16.toUInt32.toInt32)), (.int (z320.toUInt32.toUInt16.toUInt32.toInt32)), .int 44, .int 32, .int 99, .int 105, .int 116, .int 121, .int 61, (.int (z321.toUInt32.toUInt16.toUInt32.toInt32)), (.int (z322.toUInt32.toUInt16.toUInt32.toInt32)), .int 44, .int 32, .int 105, .int 112, .int 118, .int 54, .int 61, .int 102, .int 97, .int 108, .int 115, .int 101, .int 93] (.int 0) := V_b343
    obtain ⟨_, _, ⟨T388, _, _, _⟩, -, X388, ⟨_, hQ388, l388, y388, z388⟩, st388⟩ := X387.specialBack hx (y := mn30) rfl hown (mvT hZ (ww hw 4 rfl)) (mvT hZ (ww hw 5 rfl)) (mvT hZ (ww hw 6 rfl)) (by decide) (StrChars.Road.backV (W := 2) hZ hws (kI := 4) (ww hw 1 rfl) (cs := ([(80 : Int32), (114 : Int32), (111 : Int32), (98 : Int32), (101 : Int32), (83 : Int32), (101 : Int32), (116 : Int32), (116 : Int32), (105 : Int32), (110 : Int32), (103 : Int32), (115 : Int32), (91 : Int32), (110 : Int32), (97 : Int32), (109 : Int32), (101 : Int32), (61 : Int32), (z319.toUInt32.toUInt16.toUInt32.toInt32), (z320.toUInt32.toUInt16.toUInt32.toInt32), (44 : Int32), (32 : Int32), (99 : Int32), (105 : Int32), (116 : Int32), (121 : Int32), (61 : Int32), (z321.toUInt32.toUInt16.toUInt32.toInt32), (z322.toUInt32.toUInt16.toUInt32.toInt32), (44 : Int32), (32 : Int32), (105 : Int32), (112 : Int32), (118 : Int32), (54 : Int32), (61 : Int32), (102 : Int32), (97 : Int32), (108 : Int32), (115 : Int32), (101 : Int32), (93 : Int32)] : List Int32)) (bs := ([(80 : Int32), (114 : Int32), (111 : Int32), (98 : Int32), (101 : Int32), (83 : Int32), (101 : Int32), (116 : Int32), (116 : Int32), (105 : Int32), (110 : Int32), (103 : Int32), (115 : Int32), (91 : Int32), (110 : Int32), (97 : Int32), (109 : Int32), (101 : Int32), (61 : Int32), (z319.toUInt32.toUInt16.toUInt32.toInt32), (z320.toUInt32.toUInt16.toUInt32.toInt32), (44 : Int32), (32 : Int32), (99 : Int32), (105 : Int32), (116 : Int32), (121 : Int32), (61 : Int32), (z321.toUInt32.toUInt16.toUInt32.toInt32), (z322.toUInt32.toUInt16.toUInt32.toInt32), (44 : Int32), (32 : Int32), (105 : Int32), (112 : Int32), (118 : Int32), (54 : Int32), (61 : Int32), (102 : Int32), (97 : Int32), (108 : Int32), (115 : Int32), (101 : Int32), (93 : Int32)] : List Int32).map StrChars.lo8) (n := 43) g_b387 Z0 E_b387 F_value_b387 F_coder_b387 V_b343 SC hz rfl rfl (by decide) (by decide) (own_rc (by decide) (own_rc (by decide) (own_rc (by decide) (own_rc (by decide) (own_rc (by decide) (own_rc (by decide) (own_rc (by decide) (own_rc (by decide) (own_rc (by decide) (own_rc (by decide) (own_rc (by decide) (own_rc (by decide) (own_rc (by decide) (own_rc (by decide) (own_rc (by decide) (own_rc (by decide) (own_rc (by decide) (own_rc (by decide) (own_rc (by decide) (own_rc (own_charz hz319) (own_rc (own_charz hz320) (own_rc (by decide) (own_rc (by decide) (own_rc (by decide) (own_rc (by decide) (own_rc (by decide) (own_rc (by decide) (own_rc (by decide) (own_rc (own_charz hz321) (own_rc (own_charz hz322) (own_rc (by decide) (own_rc (by decide) (own_rc (by decide) (own_rc (by decide) (own_rc (by decide) (own_rc (by decide) (own_rc (by decide) (own_rc (by decide) (own_rc (by decide) (own_rc (by decide) (own_rc (by decide) (own_rc (by decide) (own_rc (by decide) own_rn))))))))))))))))))))))))))))))))))))))))))) rfl (by decide) (by decide)) (g := (mkF m 682 (lo0_12 p1 p2 p3 p4 z319 z320 z321 z322 z323 z324 b325 b330 b335 b342 b343) [.ref b343, .ref b387, .ref b387, .ref b342])) rfl (by rw [hml]; rfl) (Steps.refl _) (a := b387) (argsL := [.ref b343]) (rest := [.ref b387, .ref b342]) (lenOf pd_22 rfl) rfl (wz rfl) (hb hby at_682) (fun _ _ => ⟨rfl, e387, (by decide : 26 + 1 ≤ _), (by decide : 398 + 43 ≤ _)⟩)
    dsimp only [Pt.U, Pt.locs, Pt.cells, Pt.slots] at X388 l388 y388 z388 st388 hQ388
    rw [l388, y388, z388] at X388
    obtain ⟨h388, e388⟩ : ∃ z, T388.heap = z := ⟨_, rfl⟩
    rw [e388] at hQ388
    obtain ⟨rfl, N388q, K388, G388E, G388C, B388, kb388, -, szn388, -, G388V, G388A⟩ := hQ388
    have g_B388 : n0 ≤ B388 := Nat.le_trans Z0 szn388
    have ne_b342_B388 : b342 ≠ B388 := Nat.ne_of_lt (Nat.lt_of_lt_of_le E_b342.lt szn388)
    have ne_B342_B388 : B342 ≠ B388 := Nat.ne_of_lt (Nat.lt_of_lt_of_le V_B342.lt szn388)
    have ne_b343_B388 : b343 ≠ B388 := Nat.ne_of_lt (Nat.lt_of_lt_of_le V_b343.lt szn388)
    have ne_b387_B388 : b387 ≠ B388 := Nat.ne_of_lt (Nat.lt_of_lt_of_le E_b387.lt szn388)
    replace SC := own_stakeep SC K388 (nsS (Exa.nostat E_b387) ns0)
    replace E_b342 := E_b342.keep K388
    replace F_coder_b342 := F_coder_b342.keep K388 (ninS ne_b342_b387 nin0)
    replace F_value_b342 := F_value_b342.keep K388 (ninS ne_b342_b387 nin0)
    replace V_B342 := V_B342.keep K388 (ninS ne_B342_b387 nin0)
    replace V_b343 := V_b343.keep K388 (ninS ne_b343_b387 nin0)
    replace E_b387 := E_b387.keep K388
    replace Z0 := Nat.le_trans Z0 K388.1
    replace hk := Nat.le_trans hk K388.1
    have F_coder_b387 : GC Z h388 b387 (.int 0) := G388C
    have F_value_b387 : GV Z h388 b387 (.ref B388) := G388V
    have V_B388 : Arv Z h388 B388 kb388 .byte (43 : Int32) (LB ([(80 : Int32), (114 : Int32), (111 : Int32), (98 : Int32), (101 : Int32), (83 : Int32), (101 : Int32), (116 : Int32), (116 : Int32), (105 : Int32), (110 : Int32), (103 : Int32), (115 : Int32), (91 : Int32), (110 : Int32), (97 : Int32), (109 : Int32), (101 : Int32), (61 : Int32), (z319.toUInt32.toUInt16.toUInt32.toInt32), (z320.toUInt32.toUInt16.toUInt32.toInt32), (44 : Int32), (32 : Int32), (99 : Int32), (105 : Int32), (116 : Int32), (121 : Int32), (61 : Int32), (z321.toUInt32.toUInt16.toUInt32.toInt32), (z322.toUInt32.toUInt16.toUInt32.toInt32), (44 : Int32), (32 : Int32), (105 : Int32), (112 : Int32), (118 : Int32), (54 : Int32), (61 : Int32), (102 : Int32), (97 : Int32), (108 : Int32), (115 : Int32), (101 : Int32), (93 : Int32)] : List Int32)) (.int 0) := G388A
    have N388 := Fr.app N386 N388q
    have rg390 : RGs ([(80 : Int32), (114 : Int32), (111 : Int32), (98 : Int32), (101 : Int32), (83 : Int32), (101 : Int32), (116 : Int32), (116 : Int32), (105 : Int32), (110 : Int32), (103 : Int32), (115 : Int32), (91 : Int32), (110 : Int32), (97 : Int32), (109 : Int32), (101 : Int32), (61 : Int32), (z319.toUInt32.toUInt16.toUInt32.toInt32), (z320.toUInt32.toUInt16.toUInt32.toInt32), (44 : Int32), (32 : Int32), (99 : Int32), (105 : Int32), (116 : Int32), (121 : Int32), (61 : Int32), (z321.toUInt32.toUInt16.toUInt32.toInt32), (z322.toUInt32.toUInt16.toUInt32.toInt32), (44 : Int32), (32 : Int32), (105 : Int32), (112 : Int32), (118 : Int32), (54 : Int32), (61 : Int32), (102 : Int32), (97 : Int32), (108 : Int32), (115 : Int32), (101 : Int32), (93 : Int32)] : List Int32) := (own_rc (by decide) (own_rc (by decide) (own_rc (by decide) (own_rc (by decide) (own_rc (by decide) (own_rc (by decide) (own_rc (by decide) (own_rc (by decide) (own_rc (by decide) (own_rc (by decide) (own_rc (by decide) (own_rc (by decide) (own_rc (by decide) (own_rc (by decide) (own_rc (by decide) (own_rc (by decide) (own_rc (by decide) (own_rc (by decide) (own_rc (by decide) (own_rc (own_charz hz319) (own_rc (own_charz hz320) (own_rc (by decide) (own_rc (by decide) (own_rc (by decide) (own_rc (by decide) (own_rc (by decide) (own_rc (by decide) (own_rc (by decide) (own_rc (own_charz hz321) (own_rc (own_charz hz322) (own_rc (by decide) (own_rc (by decide) (own_rc (by decide) (own_rc (by decide) (own_rc (by decide) (own_rc (by decide) (own_rc (by decide) (own_rc (by decide) (own_rc (by decide) (own_rc (by decide) (own_rc (by decide) (own_rc (by decide) (own_rc (by decide) own_rn)))))))))))))))))))))))))))))))))))))))))))
    obtain ⟨cq389, kq389, q389a, q389b, q389c⟩ := isOf hZ e388 E_b342
    obtain ⟨_, _, ⟨T389, _, _, _⟩, -, X389, ⟨_, hQ389, l389, y389, z389⟩, st389⟩ := X388.virtualBack hx (y := mn31) (z := mn31) hown (mvT hZ (ww hw 198 rfl)) (mvT hZ (ww hw 199 rfl)) (notFace_of_selects (args := #[]) (mvT hZ (ww hw 201 rfl))) (mvT hZ (ww hw 201 rfl)) (mvT hZ (ww hw 200 rfl)) (by decide) (StrChars.Road.eqW (W := 0) hZ heq (kI := 4) (ww hw 1 rfl) E_b342 F_value_b342 F_coder_b342 V_B342 (own_cod (n := 43) rfl rg390) (own_up rg390) (Nat.le_of_ble_eq_true rfl) E_b387 F_value_b387 F_coder_b387 V_B388 (own_cod (n := 43) rfl rg390) (own_up rg390) (Nat.le_of_ble_eq_true rfl) SC hz (by decide) (by decide)) q389a q389c (g := (mkF m 685 (lo0_12 p1 p2 p3 p4 z319 z320 z321 z322 z323 z324 b325 b330 b335 b342 b343) [.ref b387, .ref b342])) rfl (by rw [hml]; rfl) (Steps.refl _) (argsL := [.ref b387]) (rest := []) (lenOf pd_24 rfl) rfl (wz rfl) (hb hby at_685) (fun _ _ => ⟨rfl, e388, (by decide : 27 + 0 ≤ _), (by decide : 441 + 0 ≤ _)⟩)
    dsimp only [Pt.U, Pt.locs, Pt.cells, Pt.slots] at X389 l389 y389 z389 st389 hQ389
    rw [l389, y389, z389] at X389
    obtain ⟨hv389, rfl, e389⟩ := hQ389
    obtain rfl := own_eqv hv389 rfl
    have N389q := Fr.nil n0
    have N389 := Fr.app N388 N389q
    obtain ⟨fs, hr, hrun, hended, hEW⟩ := X389.leaveW hS (by rw [e389]; exact hk) (v := some (.int 1)) (fun h => by rw [Bd.returns] at h; cases h)
    refine ⟨_, _, pre318 _ ?_, hrun, hended, _, _, rfl, ?_, hEW.1, hEW.2.1, hEW.2.2.1, hEW.2.2.2.mono (by decide) (by decide)⟩
    · refine st325 _ ?_
      show SP p e below T325 (mkF m 73 (lo0_7 p1 p2 p3 p4 z319 z320 z321 z322 z323 z324) [.ref b325]) _
      refine y_dup X325 hx hby at_73 rfl ?_
      refine y_iconst X325 hx hby (v := (2 : Int32)) at_74 rfl ?_
      refine st326 _ ?_
      show SP p e below T326 (mkF m 77 (lo0_7 p1 p2 p3 p4 z319 z320 z321 z322 z323 z324) [.ref b326, .ref b325, .ref b325]) _
      refine y_dup X326 hx hby at_77 rfl ?_
      refine y_iconst X326 hx hby (v := (0 : Int32)) at_78 rfl ?_
      refine y_iload X326 hx hby at_79 rfl ?_
      refine st327 _ ?_
      refine y_dup X327 hx hby at_82 rfl ?_
      refine y_iconst X327 hx hby (v := (1 : Int32)) at_83 rfl ?_
      refine y_iload X327 hx hby at_84 rfl ?_
      refine st328 _ ?_
      refine st329.trans ?_
      show SP p e below T329 (mkF m 90 (lo0_7 p1 p2 p3 p4 z319 z320 z321 z322 z323 z324) [.ref b325]) _
      refine y_astore X329 hx hby at_90 rfl (l' := (lo0_8 p1 p2 p3 p4 z319 z320 z321 z322 z323 z324 b325)) rfl ?_
      refine st330 _ ?_
      show SP p e below T330 (mkF m 95 (lo0_8 p1 p2 p3 p4 z319 z320 z321 z322 z323 z324 b325) [.ref b330]) _
      refine y_dup X330 hx hby at_95 rfl ?_
      refine y_iconst X330 hx hby (v := (2 : Int32)) at_96 rfl ?_
      refine st331 _ ?_
      show SP p e below T331 (mkF m 99 (lo0_8 p1 p2 p3 p4 z319 z320 z321 z322 z323 z324 b325) [.ref b331, .ref b330, .ref b330]) _
      refine y_dup X331 hx hby at_99 rfl ?_
      refine y_iconst X331 hx hby (v := (0 : Int32)) at_100 rfl ?_
      refine y_iload X331 hx hby at_101 rfl ?_
      refine st332 _ ?_
      refine y_dup X332 hx hby at_104 rfl ?_
      refine y_iconst X332 hx hby (v := (1 : Int32)) at_105 rfl ?_
      refine y_iload X332 hx hby at_106 rfl ?_
      refine st333 _ ?_
      refine st334.trans ?_
      show SP p e below T334 (mkF m 112 (lo0_8 p1 p2 p3 p4 z319 z320 z321 z322 z323 z324 b325) [.ref b330]) _
      refine y_astore X334 hx hby at_112 rfl (l' := (lo0_9 p1 p2 p3 p4 z319 z320 z321 z322 z323 z324 b325 b330)) rfl ?_
      refine st335 _ ?_
      show SP p e below T335 (mkF m 117 (lo0_9 p1 p2 p3 p4 z319 z320 z321 z322 z323 z324 b325 b330) [.ref b335]) _
      refine y_dup X335 hx hby at_117 rfl ?_
      refine y_iconst X335 hx hby (v := (2 : Int32)) at_118 rfl ?_
      refine st336 _ ?_
      show SP p e below T336 (mkF m 121 (lo0_9 p1 p2 p3 p4 z319 z320 z321 z322 z323 z324 b325 b330) [.ref b336, .ref b335, .ref b335]) _
      refine y_dup X336 hx hby at_121 rfl ?_
      refine y_iconst X336 hx hby (v := (0 : Int32)) at_122 rfl ?_
      refine y_iload X336 hx hby at_123 rfl ?_
      refine st337 _ ?_
      refine y_dup X337 hx hby at_126 rfl ?_
      refine y_iconst X337 hx hby (v := (1 : Int32)) at_127 rfl ?_
      refine y_iload X337 hx hby at_128 rfl ?_
      refine st338 _ ?_
      refine st339.trans ?_
      show SP p e below T339 (mkF m 134 (lo0_9 p1 p2 p3 p4 z319 z320 z321 z322 z323 z324 b325 b330) [.ref b335]) _
      refine y_astore X339 hx hby at_134 rfl (l' := (lo0_10 p1 p2 p3 p4 z319 z320 z321 z322 z323 z324 b325 b330 b335)) rfl ?_
      refine st340 _ ?_
      show SP p e below T340 (mkF m 139 (lo0_10 p1 p2 p3 p4 z319 z320 z321 z322 z323 z324 b325 b330 b335) [.ref b340]) _
      refine y_dup X340 hx hby at_139 rfl ?_
      refine y_aload X340 hx hby at_140 rfl rfl ?_
      refine y_aload X340 hx hby at_142 rfl rfl ?_
      refine y_aload X340 hx hby at_144 rfl rfl ?_
      refine y_iload X340 hx hby at_146 rfl ?_
      refine st341.trans ?_
      show SP p e below T341 (mkF m 151 (lo0_10 p1 p2 p3 p4 z319 z320 z321 z322 z323 z324 b325 b330 b335) [.ref b340]) _
      refine st342.trans ?_
      show SP p e below T342 (mkF m 154 (lo0_10 p1 p2 p3 p4 z319 z320 z321 z322 z323 z324 b325 b330 b335) [.ref b342]) _
      refine y_astore X342 hx hby at_154 rfl (l' := (lo0_11 p1 p2 p3 p4 z319 z320 z321 z322 z323 z324 b325 b330 b335 b342)) rfl ?_
      refine y_iload X342 hx hby at_156 rfl ?_
      refine y_ifYes X342 hx hby (pc' := 416) at_158 ((if0 _ _).trans (teq rfl).1) (by decide) (by decide) ?_
      refine y_bipush X342 hx hby (v := (43 : Int32)) at_416 rfl ?_
      refine st343 _ ?_
      show SP p e below T343 (mkF m 420 (lo0_11 p1 p2 p3 p4 z319 z320 z321 z322 z323 z324 b325 b330 b335 b342) [.ref b343]) _
      refine y_dup X343 hx hby at_420 rfl ?_
      refine y_iconst X343 hx hby (v := (0 : Int32)) at_421 rfl ?_
      refine y_bipush X343 hx hby (v := (80 : Int32)) at_422 rfl ?_
      refine st344 _ ?_
      refine y_dup X344 hx hby at_425 rfl ?_
      refine y_iconst X344 hx hby (v := (1 : Int32)) at_426 rfl ?_
      refine y_bipush X344 hx hby (v := (114 : Int32)) at_427 rfl ?_
      refine st345 _ ?_
      refine y_dup X345 hx hby at_430 rfl ?_
      refine y_iconst X345 hx hby (v := (2 : Int32)) at_431 rfl ?_
      refine y_bipush X345 hx hby (v := (111 : Int32)) at_432 rfl ?_
      refine st346 _ ?_
      refine y_dup X346 hx hby at_435 rfl ?_
      refine y_iconst X346 hx hby (v := (3 : Int32)) at_436 rfl ?_
      refine y_bipush X346 hx hby (v := (98 : Int32)) at_437 rfl ?_
      refine st347 _ ?_
      refine y_dup X347 hx hby at_440 rfl ?_
      refine y_iconst X347 hx hby (v := (4 : Int32)) at_441 rfl ?_
      refine y_bipush X347 hx hby (v := (101 : Int32)) at_442 rfl ?_
      refine st348 _ ?_
      refine y_dup X348 hx hby at_445 rfl ?_
      refine y_iconst X348 hx hby (v := (5 : Int32)) at_446 rfl ?_
      refine y_bipush X348 hx hby (v := (83 : Int32)) at_447 rfl ?_
      refine st349 _ ?_
      refine y_dup X349 hx hby at_450 rfl ?_
      refine y_bipush X349 hx hby (v := (6 : Int32)) at_451 rfl ?_
      refine y_bipush X349 hx hby (v := (101 : Int32)) at_453 rfl ?_
      refine st350 _ ?_
      refine y_dup X350 hx hby at_456 rfl ?_
      refine y_bipush X350 hx hby (v := (7 : Int32)) at_457 rfl ?_
      refine y_bipush X350 hx hby (v := (116 : Int32)) at_459 rfl ?_
      refine st351 _ ?_
      refine y_dup X351 hx hby at_462 rfl ?_
      refine y_bipush X351 hx hby (v := (8 : Int32)) at_463 rfl ?_
      refine y_bipush X351 hx hby (v := (116 : Int32)) at_465 rfl ?_
      refine st352 _ ?_
      refine y_dup X352 hx hby at_468 rfl ?_
      refine y_bipush X352 hx hby (v := (9 : Int32)) at_469 rfl ?_
      refine y_bipush X352 hx hby (v := (105 : Int32)) at_471 rfl ?_
      refine st353 _ ?_
      refine y_dup X353 hx hby at_474 rfl ?_
      refine y_bipush X353 hx hby (v := (10 : Int32)) at_475 rfl ?_
      refine y_bipush X353 hx hby (v := (110 : Int32)) at_477 rfl ?_
      refine st354 _ ?_
      refine y_dup X354 hx hby at_480 rfl ?_
      refine y_bipush X354 hx hby (v := (11 : Int32)) at_481 rfl ?_
      refine y_bipush X354 hx hby (v := (103 : Int32)) at_483 rfl ?_
      refine st355 _ ?_
      refine y_dup X355 hx hby at_486 rfl ?_
      refine y_bipush X355 hx hby (v := (12 : Int32)) at_487 rfl ?_
      refine y_bipush X355 hx hby (v := (115 : Int32)) at_489 rfl ?_
      refine st356 _ ?_
      refine y_dup X356 hx hby at_492 rfl ?_
      refine y_bipush X356 hx hby (v := (13 : Int32)) at_493 rfl ?_
      refine y_bipush X356 hx hby (v := (91 : Int32)) at_495 rfl ?_
      refine st357 _ ?_
      refine y_dup X357 hx hby at_498 rfl ?_
      refine y_bipush X357 hx hby (v := (14 : Int32)) at_499 rfl ?_
      refine y_bipush X357 hx hby (v := (110 : Int32)) at_501 rfl ?_
      refine st358 _ ?_
      refine y_dup X358 hx hby at_504 rfl ?_
      refine y_bipush X358 hx hby (v := (15 : Int32)) at_505 rfl ?_
      refine y_bipush X358 hx hby (v := (97 : Int32)) at_507 rfl ?_
      refine st359 _ ?_
      refine y_dup X359 hx hby at_510 rfl ?_
      refine y_bipush X359 hx hby (v := (16 : Int32)) at_511 rfl ?_
      refine y_bipush X359 hx hby (v := (109 : Int32)) at_513 rfl ?_
      refine st360 _ ?_
      refine y_dup X360 hx hby at_516 rfl ?_
      refine y_bipush X360 hx hby (v := (17 : Int32)) at_517 rfl ?_
      refine y_bipush X360 hx hby (v := (101 : Int32)) at_519 rfl ?_
      refine st361 _ ?_
      refine y_dup X361 hx hby at_522 rfl ?_
      refine y_bipush X361 hx hby (v := (18 : Int32)) at_523 rfl ?_
      refine y_bipush X361 hx hby (v := (61 : Int32)) at_525 rfl ?_
      refine st362 _ ?_
      refine y_dup X362 hx hby at_528 rfl ?_
      refine y_bipush X362 hx hby (v := (19 : Int32)) at_529 rfl ?_
      refine y_iload X362 hx hby at_531 rfl ?_
      refine st363 _ ?_
      refine y_dup X363 hx hby at_534 rfl ?_
      refine y_bipush X363 hx hby (v := (20 : Int32)) at_535 rfl ?_
      refine y_iload X363 hx hby at_537 rfl ?_
      refine st364 _ ?_
      refine y_dup X364 hx hby at_540 rfl ?_
      refine y_bipush X364 hx hby (v := (21 : Int32)) at_541 rfl ?_
      refine y_bipush X364 hx hby (v := (44 : Int32)) at_543 rfl ?_
      refine st365 _ ?_
      refine y_dup X365 hx hby at_546 rfl ?_
      refine y_bipush X365 hx hby (v := (22 : Int32)) at_547 rfl ?_
      refine y_bipush X365 hx hby (v := (32 : Int32)) at_549 rfl ?_
      refine st366 _ ?_
      refine y_dup X366 hx hby at_552 rfl ?_
      refine y_bipush X366 hx hby (v := (23 : Int32)) at_553 rfl ?_
      refine y_bipush X366 hx hby (v := (99 : Int32)) at_555 rfl ?_
      refine st367 _ ?_
      refine y_dup X367 hx hby at_558 rfl ?_
      refine y_bipush X367 hx hby (v := (24 : Int32)) at_559 rfl ?_
      refine y_bipush X367 hx hby (v := (105 : Int32)) at_561 rfl ?_
      refine st368 _ ?_
      refine y_dup X368 hx hby at_564 rfl ?_
      refine y_bipush X368 hx hby (v := (25 : Int32)) at_565 rfl ?_
      refine y_bipush X368 hx hby (v := (116 : Int32)) at_567 rfl ?_
      refine st369 _ ?_
      refine y_dup X369 hx hby at_570 rfl ?_
      refine y_bipush X369 hx hby (v := (26 : Int32)) at_571 rfl ?_
      refine y_bipush X369 hx hby (v := (121 : Int32)) at_573 rfl ?_
      refine st370 _ ?_
      refine y_dup X370 hx hby at_576 rfl ?_
      refine y_bipush X370 hx hby (v := (27 : Int32)) at_577 rfl ?_
      refine y_bipush X370 hx hby (v := (61 : Int32)) at_579 rfl ?_
      refine st371 _ ?_
      refine y_dup X371 hx hby at_582 rfl ?_
      refine y_bipush X371 hx hby (v := (28 : Int32)) at_583 rfl ?_
      refine y_iload X371 hx hby at_585 rfl ?_
      refine st372 _ ?_
      refine y_dup X372 hx hby at_588 rfl ?_
      refine y_bipush X372 hx hby (v := (29 : Int32)) at_589 rfl ?_
      refine y_iload X372 hx hby at_591 rfl ?_
      refine st373 _ ?_
      refine y_dup X373 hx hby at_594 rfl ?_
      refine y_bipush X373 hx hby (v := (30 : Int32)) at_595 rfl ?_
      refine y_bipush X373 hx hby (v := (44 : Int32)) at_597 rfl ?_
      refine st374 _ ?_
      refine y_dup X374 hx hby at_600 rfl ?_
      refine y_bipush X374 hx hby (v := (31 : Int32)) at_601 rfl ?_
      refine y_bipush X374 hx hby (v := (32 : Int32)) at_603 rfl ?_
      refine st375 _ ?_
      refine y_dup X375 hx hby at_606 rfl ?_
      refine y_bipush X375 hx hby (v := (32 : Int32)) at_607 rfl ?_
      refine y_bipush X375 hx hby (v := (105 : Int32)) at_609 rfl ?_
      refine st376 _ ?_
      refine y_dup X376 hx hby at_612 rfl ?_
      refine y_bipush X376 hx hby (v := (33 : Int32)) at_613 rfl ?_
      refine y_bipush X376 hx hby (v := (112 : Int32)) at_615 rfl ?_
      refine st377 _ ?_
      refine y_dup X377 hx hby at_618 rfl ?_
      refine y_bipush X377 hx hby (v := (34 : Int32)) at_619 rfl ?_
      refine y_bipush X377 hx hby (v := (118 : Int32)) at_621 rfl ?_
      refine st378 _ ?_
      refine y_dup X378 hx hby at_624 rfl ?_
      refine y_bipush X378 hx hby (v := (35 : Int32)) at_625 rfl ?_
      refine y_bipush X378 hx hby (v := (54 : Int32)) at_627 rfl ?_
      refine st379 _ ?_
      refine y_dup X379 hx hby at_630 rfl ?_
      refine y_bipush X379 hx hby (v := (36 : Int32)) at_631 rfl ?_
      refine y_bipush X379 hx hby (v := (61 : Int32)) at_633 rfl ?_
      refine st380 _ ?_
      refine y_dup X380 hx hby at_636 rfl ?_
      refine y_bipush X380 hx hby (v := (37 : Int32)) at_637 rfl ?_
      refine y_bipush X380 hx hby (v := (102 : Int32)) at_639 rfl ?_
      refine st381 _ ?_
      refine y_dup X381 hx hby at_642 rfl ?_
      refine y_bipush X381 hx hby (v := (38 : Int32)) at_643 rfl ?_
      refine y_bipush X381 hx hby (v := (97 : Int32)) at_645 rfl ?_
      refine st382 _ ?_
      refine y_dup X382 hx hby at_648 rfl ?_
      refine y_bipush X382 hx hby (v := (39 : Int32)) at_649 rfl ?_
      refine y_bipush X382 hx hby (v := (108 : Int32)) at_651 rfl ?_
      refine st383 _ ?_
      refine y_dup X383 hx hby at_654 rfl ?_
      refine y_bipush X383 hx hby (v := (40 : Int32)) at_655 rfl ?_
      refine y_bipush X383 hx hby (v := (115 : Int32)) at_657 rfl ?_
      refine st384 _ ?_
      refine y_dup X384 hx hby at_660 rfl ?_
      refine y_bipush X384 hx hby (v := (41 : Int32)) at_661 rfl ?_
      refine y_bipush X384 hx hby (v := (101 : Int32)) at_663 rfl ?_
      refine st385 _ ?_
      refine y_dup X385 hx hby at_666 rfl ?_
      refine y_bipush X385 hx hby (v := (42 : Int32)) at_667 rfl ?_
      refine y_bipush X385 hx hby (v := (93 : Int32)) at_669 rfl ?_
      refine st386 _ ?_
      refine y_astore X386 hx hby at_672 rfl (l' := (lo0_12 p1 p2 p3 p4 z319 z320 z321 z322 z323 z324 b325 b330 b335 b342 b343)) rfl ?_
      refine y_aload X386 hx hby at_674 rfl rfl ?_
      refine st387 _ ?_
      show SP p e below T387 (mkF m 679 (lo0_12 p1 p2 p3 p4 z319 z320 z321 z322 z323 z324 b325 b330 b335 b342 b343) [.ref b387, .ref b342]) _
      refine y_dup X387 hx hby at_679 rfl ?_
      refine y_aload X387 hx hby at_680 rfl rfl ?_
      refine st388.trans ?_
      show SP p e below T388 (mkF m 685 (lo0_12 p1 p2 p3 p4 z319 z320 z321 z322 z323 z324 b325 b330 b335 b342 b343) [.ref b387, .ref b342]) _
      refine st389.trans ?_
      show Steps p.tables e below (T389.setTop (mkF m 688 (lo0_12 p1 p2 p3 p4 z319 z320 z321 z322 z323 z324 b325 b330 b335 b342 b343) [.int 1])) _
      exact retN X389 hx (t := .boolean) Bd.returns (by simp) (hb hby at_688) hr
    · exact ⟨rfl, N389⟩
  · have pre391 : GO p e below (s₁.setTop (mkF m 70 #[.val (.int p1), .val (.int p2), .val (.int p3), .val (.int p4), .val (.int ((p1 &&& (255 : Int32)).toUInt32.toUInt16.toUInt32.toInt32)), .val (.int ((((p1.toUInt32 >>> ((8 : Int32) &&& 31).toUInt32).toInt32) &&& (255 : Int32)).toUInt32.toUInt16.toUInt32.toInt32)), .val (.int ((p2 &&& (255 : Int32)).toUInt32.toUInt16.toUInt32.toInt32)), .val (.int ((((p2.toUInt32 >>> ((8 : Int32) &&& 31).toUInt32).toInt32) &&& (255 : Int32)).toUInt32.toUInt16.toUInt32.toInt32)), .val (.int ((p3 &&& (255 : Int32)).toUInt32.toUInt16.toUInt32.toInt32)), .val (.int ((((p3.toUInt32 >>> ((8 : Int32) &&& 31).toUInt32).toInt32) &&& (255 : Int32)).toUInt32.toUInt16.toUInt32.toInt32)), .val (.int 1), .unset, .unset, .unset, .unset, .unset] [])) (s₁.setTop (entryFrame m #[(.int p1), (.int p2), (.int p3), (.int p4)] maxLocals)) := fun t k => by
      refine pre317 _ ?_
      refine y_ifNo X0 hx hby at_60 ((if0 _ _).trans (feq hc316).1) ?_
      refine y_iconst X0 hx hby (v := (1 : Int32)) at_63 rfl ?_
      refine y_goto X0 hx hby (pc' := 68) at_64 (by decide) (by decide) ?_
      refine y_istore X0 hx hby at_68 (l' := (lo0_13 p1 p2 p3 p4)) rfl ?_
      exact k
    obtain ⟨z392, hz392⟩ : ∃ z, z = ((p1 &&& (255 : Int32)).toUInt32.toUInt16.toUInt32.toInt32) := ⟨_, rfl⟩
    rw [← hz392] at pre391
    obtain ⟨z393, hz393⟩ : ∃ z, z = ((((p1.toUInt32 >>> ((8 : Int32) &&& 31).toUInt32).toInt32) &&& (255 : Int32)).toUInt32.toUInt16.toUInt32.toInt32) := ⟨_, rfl⟩
    rw [← hz393] at pre391
    obtain ⟨z394, hz394⟩ : ∃ z, z = ((p2 &&& (255 : Int32)).toUInt32.toUInt16.toUInt32.toInt32) := ⟨_, rfl⟩
    rw [← hz394] at pre391
    obtain ⟨z395, hz395⟩ : ∃ z, z = ((((p2.toUInt32 >>> ((8 : Int32) &&& 31).toUInt32).toInt32) &&& (255 : Int32)).toUInt32.toUInt16.toUInt32.toInt32) := ⟨_, rfl⟩
    rw [← hz395] at pre391
    obtain ⟨z396, hz396⟩ : ∃ z, z = ((p3 &&& (255 : Int32)).toUInt32.toUInt16.toUInt32.toInt32) := ⟨_, rfl⟩
    rw [← hz396] at pre391
    obtain ⟨z397, hz397⟩ : ∃ z, z = ((((p3.toUInt32 >>> ((8 : Int32) &&& 31).toUInt32).toInt32) &&& (255 : Int32)).toUInt32.toUInt16.toUInt32.toInt32) := ⟨_, rfl⟩
    rw [← hz397] at pre391
    obtain ⟨T398, h398, X398, e398, E398, A398, D398, -, st398⟩ := newO X0 hx hZ hown (ww hw 0 rfl) (ww hw 1 rfl) (ww hw 2 rfl) e0 (g := (mkF m 70 (lo0_14 p1 p2 p3 p4 z392 z393 z394 z395 z396 z397) [])) rfl (hb hby at_70) (by decide) (by decide)
    obtain ⟨b398, g398⟩ : ∃ z, z = h0.size := ⟨_, rfl⟩
    rw [← g398] at A398 D398 st398
    have g_b398 : n0 ≤ b398 := Nat.le_trans Z0 (Nat.le_of_eq g398.symm)
    have Sf_b398 := own_sfnew hCR (Nat.le_of_eq g398.symm)
    replace Sf_b398 := Safe.ext E398 hCR.1 Sf_b398
    replace hCR := hCR.trans (CHr.ext E398 hCR.1)
    replace SC := SC.ext E398
    replace Z0 := Nat.le_trans Z0 E398.1
    replace hk := Nat.le_trans hk E398.1
    have E_b398 := A398
    have F_coder_b398 : GC Z h398 b398 (.int 0) := D398 (Or.inr (ww hw 27 rfl)) (ty := .byte) (by decide)
    have F_value_b398 : GV Z h398 b398 .null := D398 (Or.inr (ww hw 29 rfl)) (ty := (.array .byte)) (by decide)
    obtain ⟨T399, h399, k399, X399, e399, E399, A399, st399⟩ := newP X398 hx hZ (ww hw 3 rfl) e398 (g := (mkF m 75 (lo0_14 p1 p2 p3 p4 z392 z393 z394 z395 z396 z397) [.int 2, .ref b398, .ref b398])) rfl (hb hby at_75) rfl (by decide) (cap := 2) (by decide) (by decide) (by decide) (by decide)
    obtain ⟨b399, g399⟩ : ∃ z, z = h398.size := ⟨_, rfl⟩
    rw [← g399] at A399 st399
    have g_b399 : n0 ≤ b399 := Nat.le_trans Z0 (Nat.le_of_eq g399.symm)
    have ne_b398_b399 : b398 ≠ b399 := Nat.ne_of_lt (Nat.lt_of_lt_of_le E_b398.lt (Nat.le_of_eq g399.symm))
    have Sf_b399 := own_sfnew hCR (Nat.le_of_eq g399.symm)
    replace Sf_b398 := Safe.ext E399 hCR.1 Sf_b398
    replace Sf_b399 := Safe.ext E399 hCR.1 Sf_b399
    replace hCR := hCR.trans (CHr.ext E399 hCR.1)
    replace SC := SC.ext E399
    replace E_b398 := E_b398.ext E399
    replace F_coder_b398 := F_coder_b398.ext E399
    replace F_value_b398 := F_value_b398.ext E399
    replace Z0 := Nat.le_trans Z0 E399.1
    replace hk := Nat.le_trans hk E399.1
    have V_b399 : Arv Z h399 b399 k399 .char (2 : Int32) [] (.int 0) := Arv.new A399 (by decide)
    obtain ⟨T400, h400, X400, e400, W400, V_b399, hl_b399, st400⟩ := pushC X399 hx hZ e399 V_b399 (j := (0 : Int32)) (x := z392) ⟨by decide, by decide⟩ rfl (Ls := (lo0_14 p1 p2 p3 p4 z392 z393 z394 z395 z396 z397)) (S := [.ref b399, .ref b398, .ref b398]) hby at_81
    have sw := Sf_b399
    replace Sf_b398 := Safe.wr W400 sw hCR.1 Sf_b398
    replace Sf_b399 := Safe.wr W400 sw hCR.1 Sf_b399
    replace hCR := hCR.trans (CHr.wr W400 sw hCR.1)
    replace SC := SC.wr W400
    replace E_b398 := E_b398.wr W400
    replace F_coder_b398 := F_coder_b398.other W400 (Or.inl ne_b398_b399)
    replace F_value_b398 := F_value_b398.other W400 (Or.inl ne_b398_b399)
    replace Z0 := Nat.le_trans Z0 (Keep.of_wr W400).1
    replace hk := Nat.le_trans hk (Keep.of_wr W400).1
    have N400 := Fr.snoc X400 N0 g_b399
    obtain ⟨T401, h401, X401, e401, W401, V_b399, hl_b399, st401⟩ := pushC X400 hx hZ e400 V_b399 (j := (1 : Int32)) (x := z393) ⟨by decide, by decide⟩ hl_b399 (Ls := (lo0_14 p1 p2 p3 p4 z392 z393 z394 z395 z396 z397)) (S := [.ref b399, .ref b398, .ref b398]) hby at_86
    have sw := Sf_b399
    replace Sf_b398 := Safe.wr W401 sw hCR.1 Sf_b398
    replace Sf_b399 := Safe.wr W401 sw hCR.1 Sf_b399
    replace hCR := hCR.trans (CHr.wr W401 sw hCR.1)
    replace SC := SC.wr W401
    replace E_b398 := E_b398.wr W401
    replace F_coder_b398 := F_coder_b398.other W401 (Or.inl ne_b398_b399)
    replace F_value_b398 := F_value_b398.other W401 (Or.inl ne_b398_b399)
    replace Z0 := Nat.le_trans Z0 (Keep.of_wr W401).1
    replace hk := Nat.le_trans hk (Keep.of_wr W401).1
    have N401 := Fr.snoc X401 N400 g_b399
    replace V_b399 : Arv Z h401 b399 k399 .char (2 : Int32) [(.int (z392.toUInt32.toUInt16.toUInt32.toInt32)), (.int (z393.toUInt32.toUInt16.toUInt32.toInt32))] (.int 0) := V_b399
    obtain ⟨_, _, ⟨T402, _, _, _⟩, -, X402, ⟨_, hQ402, l402, y402, z402⟩, st402⟩ := X401.specialBack hx (y := mn30) rfl hown (mvT hZ (ww hw 4 rfl)) (mvT hZ (ww hw 5 rfl)) (mvT hZ (ww hw 6 rfl)) (by decide) (StrChars.Road.backV (W := 1) hZ hws (kI := 4) (ww hw 1 rfl) (cs := ([(z392.toUInt32.toUInt16.toUInt32.toInt32), (z393.toUInt32.toUInt16.toUInt32.toInt32)] : List Int32)) (bs := ([(z392.toUInt32.toUInt16.toUInt32.toInt32), (z393.toUInt32.toUInt16.toUInt32.toInt32)] : List Int32).map StrChars.lo8) (n := 2) g_b398 Z0 E_b398 F_value_b398 F_coder_b398 V_b399 SC hz rfl rfl (by decide) (by decide) (own_rc (own_charz hz392) (own_rc (own_charz hz393) own_rn)) rfl (by decide) (by decide)) (g := (mkF m 87 (lo0_14 p1 p2 p3 p4 z392 z393 z394 z395 z396 z397) [.ref b399, .ref b398, .ref b398])) rfl (by rw [hml]; rfl) (Steps.refl _) (a := b398) (argsL := [.ref b399]) (rest := [.ref b398]) (lenOf pd_22 rfl) rfl (wz rfl) (hb hby at_87) (fun _ _ => ⟨rfl, e401, (by decide : 2 + 1 ≤ _), (by decide : 6 + 2 ≤ _)⟩)
    dsimp only [Pt.U, Pt.locs, Pt.cells, Pt.slots] at X402 l402 y402 z402 st402 hQ402
    rw [l402, y402, z402] at X402
    obtain ⟨h402, e402⟩ : ∃ z, T402.heap = z := ⟨_, rfl⟩
    rw [e402] at hQ402
    obtain ⟨rfl, N402q, K402, G402E, G402C, B402, kb402, -, szn402, -, G402V, G402A⟩ := hQ402
    have g_B402 : n0 ≤ B402 := Nat.le_trans Z0 szn402
    have ne_b398_B402 : b398 ≠ B402 := Nat.ne_of_lt (Nat.lt_of_lt_of_le E_b398.lt szn402)
    have ne_b399_B402 : b399 ≠ B402 := Nat.ne_of_lt (Nat.lt_of_lt_of_le V_b399.lt szn402)
    have Sf_B402 := own_sfnew hCR szn402
    have hs := (sfS Sf_b398 sf0)
    replace Sf_b398 := Safe.keep K402 hs hCR.1 Sf_b398
    replace hCR := hCR.trans (CHr.keep K402 hs hCR.1)
    replace SC := own_stakeep SC K402 (nsS (Exa.nostat E_b398) ns0)
    replace E_b398 := E_b398.keep K402
    replace V_b399 := V_b399.keep K402 (ninS (Ne.symm ne_b398_b399) nin0)
    replace Z0 := Nat.le_trans Z0 K402.1
    replace hk := Nat.le_trans hk K402.1
    have F_coder_b398 : GC Z h402 b398 (.int 0) := G402C
    have F_value_b398 : GV Z h402 b398 (.ref B402) := G402V
    have V_B402 : Arv Z h402 B402 kb402 .byte (2 : Int32) (LB ([(z392.toUInt32.toUInt16.toUInt32.toInt32), (z393.toUInt32.toUInt16.toUInt32.toInt32)] : List Int32)) (.int 0) := G402A
    have N402 := Fr.app N401 N402q
    obtain ⟨T403, h403, X403, e403, E403, A403, D403, -, st403⟩ := newO X402 hx hZ hown (ww hw 0 rfl) (ww hw 1 rfl) (ww hw 2 rfl) e402 (g := (mkF m 92 (lo0_15 p1 p2 p3 p4 z392 z393 z394 z395 z396 z397 b398) [])) rfl (hb hby at_92) (by decide) (by decide)
    obtain ⟨b403, g403⟩ : ∃ z, z = h402.size := ⟨_, rfl⟩
    rw [← g403] at A403 D403 st403
    have g_b403 : n0 ≤ b403 := Nat.le_trans Z0 (Nat.le_of_eq g403.symm)
    have ne_b398_b403 : b398 ≠ b403 := Nat.ne_of_lt (Nat.lt_of_lt_of_le E_b398.lt (Nat.le_of_eq g403.symm))
    have ne_B402_b403 : B402 ≠ b403 := Nat.ne_of_lt (Nat.lt_of_lt_of_le V_B402.lt (Nat.le_of_eq g403.symm))
    have Sf_b403 := own_sfnew hCR (Nat.le_of_eq g403.symm)
    replace Sf_b403 := Safe.ext E403 hCR.1 Sf_b403
    replace hCR := hCR.trans (CHr.ext E403 hCR.1)
    replace SC := SC.ext E403
    replace E_b398 := E_b398.ext E403
    replace F_coder_b398 := F_coder_b398.ext E403
    replace F_value_b398 := F_value_b398.ext E403
    replace V_B402 := V_B402.ext E403
    replace Z0 := Nat.le_trans Z0 E403.1
    replace hk := Nat.le_trans hk E403.1
    have E_b403 := A403
    have F_coder_b403 : GC Z h403 b403 (.int 0) := D403 (Or.inr (ww hw 27 rfl)) (ty := .byte) (by decide)
    have F_value_b403 : GV Z h403 b403 .null := D403 (Or.inr (ww hw 29 rfl)) (ty := (.array .byte)) (by decide)
    obtain ⟨T404, h404, k404, X404, e404, E404, A404, st404⟩ := newP X403 hx hZ (ww hw 3 rfl) e403 (g := (mkF m 97 (lo0_15 p1 p2 p3 p4 z392 z393 z394 z395 z396 z397 b398) [.int 2, .ref b403, .ref b403])) rfl (hb hby at_97) rfl (by decide) (cap := 2) (by decide) (by decide) (by decide) (by decide)
    obtain ⟨b404, g404⟩ : ∃ z, z = h403.size := ⟨_, rfl⟩
    rw [← g404] at A404 st404
    have g_b404 : n0 ≤ b404 := Nat.le_trans Z0 (Nat.le_of_eq g404.symm)
    have ne_b398_b404 : b398 ≠ b404 := Nat.ne_of_lt (Nat.lt_of_lt_of_le E_b398.lt (Nat.le_of_eq g404.symm))
    have ne_B402_b404 : B402 ≠ b404 := Nat.ne_of_lt (Nat.lt_of_lt_of_le V_B402.lt (Nat.le_of_eq g404.symm))
    have ne_b403_b404 : b403 ≠ b404 := Nat.ne_of_lt (Nat.lt_of_lt_of_le E_b403.lt (Nat.le_of_eq g404.symm))
    have Sf_b404 := own_sfnew hCR (Nat.le_of_eq g404.symm)
    replace Sf_b403 := Safe.ext E404 hCR.1 Sf_b403
    replace Sf_b404 := Safe.ext E404 hCR.1 Sf_b404
    replace hCR := hCR.trans (CHr.ext E404 hCR.1)
    replace SC := SC.ext E404
    replace E_b398 := E_b398.ext E404
    replace F_coder_b398 := F_coder_b398.ext E404
    replace F_value_b398 := F_value_b398.ext E404
    replace V_B402 := V_B402.ext E404
    replace E_b403 := E_b403.ext E404
    replace F_coder_b403 := F_coder_b403.ext E404
    replace F_value_b403 := F_value_b403.ext E404
    replace Z0 := Nat.le_trans Z0 E404.1
    replace hk := Nat.le_trans hk E404.1
    have V_b404 : Arv Z h404 b404 k404 .char (2 : Int32) [] (.int 0) := Arv.new A404 (by decide)
    obtain ⟨T405, h405, X405, e405, W405, V_b404, hl_b404, st405⟩ := pushC X404 hx hZ e404 V_b404 (j := (0 : Int32)) (x := z394) ⟨by decide, by decide⟩ rfl (Ls := (lo0_15 p1 p2 p3 p4 z392 z393 z394 z395 z396 z397 b398)) (S := [.ref b404, .ref b403, .ref b403]) hby at_103
    have sw := Sf_b404
    replace Sf_b403 := Safe.wr W405 sw hCR.1 Sf_b403
    replace Sf_b404 := Safe.wr W405 sw hCR.1 Sf_b404
    replace hCR := hCR.trans (CHr.wr W405 sw hCR.1)
    replace SC := SC.wr W405
    replace E_b398 := E_b398.wr W405
    replace F_coder_b398 := F_coder_b398.other W405 (Or.inl ne_b398_b404)
    replace F_value_b398 := F_value_b398.other W405 (Or.inl ne_b398_b404)
    replace V_B402 := V_B402.other W405 ne_B402_b404
    replace E_b403 := E_b403.wr W405
    replace F_coder_b403 := F_coder_b403.other W405 (Or.inl ne_b403_b404)
    replace F_value_b403 := F_value_b403.other W405 (Or.inl ne_b403_b404)
    replace Z0 := Nat.le_trans Z0 (Keep.of_wr W405).1
    replace hk := Nat.le_trans hk (Keep.of_wr W405).1
    have N405 := Fr.snoc X405 N402 g_b404
    obtain ⟨T406, h406, X406, e406, W406, V_b404, hl_b404, st406⟩ := pushC X405 hx hZ e405 V_b404 (j := (1 : Int32)) (x := z395) ⟨by decide, by decide⟩ hl_b404 (Ls := (lo0_15 p1 p2 p3 p4 z392 z393 z394 z395 z396 z397 b398)) (S := [.ref b404, .ref b403, .ref b403]) hby at_108
    have sw := Sf_b404
    replace Sf_b403 := Safe.wr W406 sw hCR.1 Sf_b403
    replace Sf_b404 := Safe.wr W406 sw hCR.1 Sf_b404
    replace hCR := hCR.trans (CHr.wr W406 sw hCR.1)
    replace SC := SC.wr W406
    replace E_b398 := E_b398.wr W406
    replace F_coder_b398 := F_coder_b398.other W406 (Or.inl ne_b398_b404)
    replace F_value_b398 := F_value_b398.other W406 (Or.inl ne_b398_b404)
    replace V_B402 := V_B402.other W406 ne_B402_b404
    replace E_b403 := E_b403.wr W406
    replace F_coder_b403 := F_coder_b403.other W406 (Or.inl ne_b403_b404)
    replace F_value_b403 := F_value_b403.other W406 (Or.inl ne_b403_b404)
    replace Z0 := Nat.le_trans Z0 (Keep.of_wr W406).1
    replace hk := Nat.le_trans hk (Keep.of_wr W406).1
    have N406 := Fr.snoc X406 N405 g_b404
    replace V_b404 : Arv Z h406 b404 k404 .char (2 : Int32) [(.int (z394.toUInt32.toUInt16.toUInt32.toInt32)), (.int (z395.toUInt32.toUInt16.toUInt32.toInt32))] (.int 0) := V_b404
    obtain ⟨_, _, ⟨T407, _, _, _⟩, -, X407, ⟨_, hQ407, l407, y407, z407⟩, st407⟩ := X406.specialBack hx (y := mn30) rfl hown (mvT hZ (ww hw 4 rfl)) (mvT hZ (ww hw 5 rfl)) (mvT hZ (ww hw 6 rfl)) (by decide) (StrChars.Road.backV (W := 1) hZ hws (kI := 4) (ww hw 1 rfl) (cs := ([(z394.toUInt32.toUInt16.toUInt32.toInt32), (z395.toUInt32.toUInt16.toUInt32.toInt32)] : List Int32)) (bs := ([(z394.toUInt32.toUInt16.toUInt32.toInt32), (z395.toUInt32.toUInt16.toUInt32.toInt32)] : List Int32).map StrChars.lo8) (n := 2) g_b403 Z0 E_b403 F_value_b403 F_coder_b403 V_b404 SC hz rfl rfl (by decide) (by decide) (own_rc (own_charz hz394) (own_rc (own_charz hz395) own_rn)) rfl (by decide) (by decide)) (g := (mkF m 109 (lo0_15 p1 p2 p3 p4 z392 z393 z394 z395 z396 z397 b398) [.ref b404, .ref b403, .ref b403])) rfl (by rw [hml]; rfl) (Steps.refl _) (a := b403) (argsL := [.ref b404]) (rest := [.ref b403]) (lenOf pd_22 rfl) rfl (wz rfl) (hb hby at_109) (fun _ _ => ⟨rfl, e406, (by decide : 5 + 1 ≤ _), (by decide : 14 + 2 ≤ _)⟩)
    dsimp only [Pt.U, Pt.locs, Pt.cells, Pt.slots] at X407 l407 y407 z407 st407 hQ407
    rw [l407, y407, z407] at X407
    obtain ⟨h407, e407⟩ : ∃ z, T407.heap = z := ⟨_, rfl⟩
    rw [e407] at hQ407
    obtain ⟨rfl, N407q, K407, G407E, G407C, B407, kb407, -, szn407, -, G407V, G407A⟩ := hQ407
    have g_B407 : n0 ≤ B407 := Nat.le_trans Z0 szn407
    have ne_b398_B407 : b398 ≠ B407 := Nat.ne_of_lt (Nat.lt_of_lt_of_le E_b398.lt szn407)
    have ne_B402_B407 : B402 ≠ B407 := Nat.ne_of_lt (Nat.lt_of_lt_of_le V_B402.lt szn407)
    have ne_b403_B407 : b403 ≠ B407 := Nat.ne_of_lt (Nat.lt_of_lt_of_le E_b403.lt szn407)
    have ne_b404_B407 : b404 ≠ B407 := Nat.ne_of_lt (Nat.lt_of_lt_of_le V_b404.lt szn407)
    have Sf_B407 := own_sfnew hCR szn407
    have hs := (sfS Sf_b403 sf0)
    replace Sf_b403 := Safe.keep K407 hs hCR.1 Sf_b403
    replace hCR := hCR.trans (CHr.keep K407 hs hCR.1)
    replace SC := own_stakeep SC K407 (nsS (Exa.nostat E_b403) ns0)
    replace E_b398 := E_b398.keep K407
    replace F_coder_b398 := F_coder_b398.keep K407 (ninS ne_b398_b403 nin0)
    replace F_value_b398 := F_value_b398.keep K407 (ninS ne_b398_b403 nin0)
    replace V_B402 := V_B402.keep K407 (ninS ne_B402_b403 nin0)
    replace E_b403 := E_b403.keep K407
    replace V_b404 := V_b404.keep K407 (ninS (Ne.symm ne_b403_b404) nin0)
    replace Z0 := Nat.le_trans Z0 K407.1
    replace hk := Nat.le_trans hk K407.1
    have F_coder_b403 : GC Z h407 b403 (.int 0) := G407C
    have F_value_b403 : GV Z h407 b403 (.ref B407) := G407V
    have V_B407 : Arv Z h407 B407 kb407 .byte (2 : Int32) (LB ([(z394.toUInt32.toUInt16.toUInt32.toInt32), (z395.toUInt32.toUInt16.toUInt32.toInt32)] : List Int32)) (.int 0) := G407A
    have N407 := Fr.app N406 N407q
    obtain ⟨T408, h408, X408, e408, E408, A408, D408, -, st408⟩ := newO X407 hx hZ hown (ww hw 0 rfl) (ww hw 1 rfl) (ww hw 2 rfl) e407 (g := (mkF m 114 (lo0_16 p1 p2 p3 p4 z392 z393 z394 z395 z396 z397 b398 b403) [])) rfl (hb hby at_114) (by decide) (by decide)
    obtain ⟨b408, g408⟩ : ∃ z, z = h407.size := ⟨_, rfl⟩
    rw [← g408] at A408 D408 st408
    have g_b408 : n0 ≤ b408 := Nat.le_trans Z0 (Nat.le_of_eq g408.symm)
    have ne_b398_b408 : b398 ≠ b408 := Nat.ne_of_lt (Nat.lt_of_lt_of_le E_b398.lt (Nat.le_of_eq g408.symm))
    have ne_B402_b408 : B402 ≠ b408 := Nat.ne_of_lt (Nat.lt_of_lt_of_le V_B402.lt (Nat.le_of_eq g408.symm))
    have ne_b403_b408 : b403 ≠ b408 := Nat.ne_of_lt (Nat.lt_of_lt_of_le E_b403.lt (Nat.le_of_eq g408.symm))
    have ne_B407_b408 : B407 ≠ b408 := Nat.ne_of_lt (Nat.lt_of_lt_of_le V_B407.lt (Nat.le_of_eq g408.symm))
    have Sf_b408 := own_sfnew hCR (Nat.le_of_eq g408.symm)
    replace Sf_b408 := Safe.ext E408 hCR.1 Sf_b408
    replace hCR := hCR.trans (CHr.ext E408 hCR.1)
    replace SC := SC.ext E408
    replace E_b398 := E_b398.ext E408
    replace F_coder_b398 := F_coder_b398.ext E408
    replace F_value_b398 := F_value_b398.ext E408
    replace V_B402 := V_B402.ext E408
    replace E_b403 := E_b403.ext E408
    replace F_coder_b403 := F_coder_b403.ext E408
    replace F_value_b403 := F_value_b403.ext E408
    replace V_B407 := V_B407.ext E408
    replace Z0 := Nat.le_trans Z0 E408.1
    replace hk := Nat.le_trans hk E408.1
    have E_b408 := A408
    have F_coder_b408 : GC Z h408 b408 (.int 0) := D408 (Or.inr (ww hw 27 rfl)) (ty := .byte) (by decide)
    have F_value_b408 : GV Z h408 b408 .null := D408 (Or.inr (ww hw 29 rfl)) (ty := (.array .byte)) (by decide)
    obtain ⟨T409, h409, k409, X409, e409, E409, A409, st409⟩ := newP X408 hx hZ (ww hw 3 rfl) e408 (g := (mkF m 119 (lo0_16 p1 p2 p3 p4 z392 z393 z394 z395 z396 z397 b398 b403) [.int 2, .ref b408, .ref b408])) rfl (hb hby at_119) rfl (by decide) (cap := 2) (by decide) (by decide) (by decide) (by decide)
    obtain ⟨b409, g409⟩ : ∃ z, z = h408.size := ⟨_, rfl⟩
    rw [← g409] at A409 st409
    have g_b409 : n0 ≤ b409 := Nat.le_trans Z0 (Nat.le_of_eq g409.symm)
    have ne_b398_b409 : b398 ≠ b409 := Nat.ne_of_lt (Nat.lt_of_lt_of_le E_b398.lt (Nat.le_of_eq g409.symm))
    have ne_B402_b409 : B402 ≠ b409 := Nat.ne_of_lt (Nat.lt_of_lt_of_le V_B402.lt (Nat.le_of_eq g409.symm))
    have ne_b403_b409 : b403 ≠ b409 := Nat.ne_of_lt (Nat.lt_of_lt_of_le E_b403.lt (Nat.le_of_eq g409.symm))
    have ne_B407_b409 : B407 ≠ b409 := Nat.ne_of_lt (Nat.lt_of_lt_of_le V_B407.lt (Nat.le_of_eq g409.symm))
    have ne_b408_b409 : b408 ≠ b409 := Nat.ne_of_lt (Nat.lt_of_lt_of_le E_b408.lt (Nat.le_of_eq g409.symm))
    have Sf_b409 := own_sfnew hCR (Nat.le_of_eq g409.symm)
    replace Sf_b408 := Safe.ext E409 hCR.1 Sf_b408
    replace Sf_b409 := Safe.ext E409 hCR.1 Sf_b409
    replace hCR := hCR.trans (CHr.ext E409 hCR.1)
    replace SC := SC.ext E409
    replace E_b398 := E_b398.ext E409
    replace F_coder_b398 := F_coder_b398.ext E409
    replace F_value_b398 := F_value_b398.ext E409
    replace V_B402 := V_B402.ext E409
    replace E_b403 := E_b403.ext E409
    replace F_coder_b403 := F_coder_b403.ext E409
    replace F_value_b403 := F_value_b403.ext E409
    replace V_B407 := V_B407.ext E409
    replace E_b408 := E_b408.ext E409
    replace F_coder_b408 := F_coder_b408.ext E409
    replace F_value_b408 := F_value_b408.ext E409
    replace Z0 := Nat.le_trans Z0 E409.1
    replace hk := Nat.le_trans hk E409.1
    have V_b409 : Arv Z h409 b409 k409 .char (2 : Int32) [] (.int 0) := Arv.new A409 (by decide)
    obtain ⟨T410, h410, X410, e410, W410, V_b409, hl_b409, st410⟩ := pushC X409 hx hZ e409 V_b409 (j := (0 : Int32)) (x := z396) ⟨by decide, by decide⟩ rfl (Ls := (lo0_16 p1 p2 p3 p4 z392 z393 z394 z395 z396 z397 b398 b403)) (S := [.ref b409, .ref b408, .ref b408]) hby at_125
    have sw := Sf_b409
    replace Sf_b408 := Safe.wr W410 sw hCR.1 Sf_b408
    replace Sf_b409 := Safe.wr W410 sw hCR.1 Sf_b409
    replace hCR := hCR.trans (CHr.wr W410 sw hCR.1)
    replace SC := SC.wr W410
    replace E_b398 := E_b398.wr W410
    replace F_coder_b398 := F_coder_b398.other W410 (Or.inl ne_b398_b409)
    replace F_value_b398 := F_value_b398.other W410 (Or.inl ne_b398_b409)
    replace V_B402 := V_B402.other W410 ne_B402_b409
    replace E_b403 := E_b403.wr W410
    replace F_coder_b403 := F_coder_b403.other W410 (Or.inl ne_b403_b409)
    replace F_value_b403 := F_value_b403.other W410 (Or.inl ne_b403_b409)
    replace V_B407 := V_B407.other W410 ne_B407_b409
    replace E_b408 := E_b408.wr W410
    replace F_coder_b408 := F_coder_b408.other W410 (Or.inl ne_b408_b409)
    replace F_value_b408 := F_value_b408.other W410 (Or.inl ne_b408_b409)
    replace Z0 := Nat.le_trans Z0 (Keep.of_wr W410).1
    replace hk := Nat.le_trans hk (Keep.of_wr W410).1
    have N410 := Fr.snoc X410 N407 g_b409
    obtain ⟨T411, h411, X411, e411, W411, V_b409, hl_b409, st411⟩ := pushC X410 hx hZ e410 V_b409 (j := (1 : Int32)) (x := z397) ⟨by decide, by decide⟩ hl_b409 (Ls := (lo0_16 p1 p2 p3 p4 z392 z393 z394 z395 z396 z397 b398 b403)) (S := [.ref b409, .ref b408, .ref b408]) hby at_130
    have sw := Sf_b409
    replace Sf_b408 := Safe.wr W411 sw hCR.1 Sf_b408
    replace Sf_b409 := Safe.wr W411 sw hCR.1 Sf_b409
    replace hCR := hCR.trans (CHr.wr W411 sw hCR.1)
    replace SC := SC.wr W411
    replace E_b398 := E_b398.wr W411
    replace F_coder_b398 := F_coder_b398.other W411 (Or.inl ne_b398_b409)
    replace F_value_b398 := F_value_b398.other W411 (Or.inl ne_b398_b409)
    replace V_B402 := V_B402.other W411 ne_B402_b409
    replace E_b403 := E_b403.wr W411
    replace F_coder_b403 := F_coder_b403.other W411 (Or.inl ne_b403_b409)
    replace F_value_b403 := F_value_b403.other W411 (Or.inl ne_b403_b409)
    replace V_B407 := V_B407.other W411 ne_B407_b409
    replace E_b408 := E_b408.wr W411
    replace F_coder_b408 := F_coder_b408.other W411 (Or.inl ne_b408_b409)
    replace F_value_b408 := F_value_b408.other W411 (Or.inl ne_b408_b409)
    replace Z0 := Nat.le_trans Z0 (Keep.of_wr W411).1
    replace hk := Nat.le_trans hk (Keep.of_wr W411).1
    have N411 := Fr.snoc X411 N410 g_b409
    replace V_b409 : Arv Z h411 b409 k409 .char (2 : Int32) [(.int (z396.toUInt32.toUInt16.toUInt32.toInt32)), (.int (z397.toUInt32.toUInt16.toUInt32.toInt32))] (.int 0) := V_b409
    obtain ⟨_, _, ⟨T412, _, _, _⟩, -, X412, ⟨_, hQ412, l412, y412, z412⟩, st412⟩ := X411.specialBack hx (y := mn30) rfl hown (mvT hZ (ww hw 4 rfl)) (mvT hZ (ww hw 5 rfl)) (mvT hZ (ww hw 6 rfl)) (by decide) (StrChars.Road.backV (W := 1) hZ hws (kI := 4) (ww hw 1 rfl) (cs := ([(z396.toUInt32.toUInt16.toUInt32.toInt32), (z397.toUInt32.toUInt16.toUInt32.toInt32)] : List Int32)) (bs := ([(z396.toUInt32.toUInt16.toUInt32.toInt32), (z397.toUInt32.toUInt16.toUInt32.toInt32)] : List Int32).map StrChars.lo8) (n := 2) g_b408 Z0 E_b408 F_value_b408 F_coder_b408 V_b409 SC hz rfl rfl (by decide) (by decide) (own_rc (own_charz hz396) (own_rc (own_charz hz397) own_rn)) rfl (by decide) (by decide)) (g := (mkF m 131 (lo0_16 p1 p2 p3 p4 z392 z393 z394 z395 z396 z397 b398 b403) [.ref b409, .ref b408, .ref b408])) rfl (by rw [hml]; rfl) (Steps.refl _) (a := b408) (argsL := [.ref b409]) (rest := [.ref b408]) (lenOf pd_22 rfl) rfl (wz rfl) (hb hby at_131) (fun _ _ => ⟨rfl, e411, (by decide : 8 + 1 ≤ _), (by decide : 22 + 2 ≤ _)⟩)
    dsimp only [Pt.U, Pt.locs, Pt.cells, Pt.slots] at X412 l412 y412 z412 st412 hQ412
    rw [l412, y412, z412] at X412
    obtain ⟨h412, e412⟩ : ∃ z, T412.heap = z := ⟨_, rfl⟩
    rw [e412] at hQ412
    obtain ⟨rfl, N412q, K412, G412E, G412C, B412, kb412, -, szn412, -, G412V, G412A⟩ := hQ412
    have g_B412 : n0 ≤ B412 := Nat.le_trans Z0 szn412
    have ne_b398_B412 : b398 ≠ B412 := Nat.ne_of_lt (Nat.lt_of_lt_of_le E_b398.lt szn412)
    have ne_B402_B412 : B402 ≠ B412 := Nat.ne_of_lt (Nat.lt_of_lt_of_le V_B402.lt szn412)
    have ne_b403_B412 : b403 ≠ B412 := Nat.ne_of_lt (Nat.lt_of_lt_of_le E_b403.lt szn412)
    have ne_B407_B412 : B407 ≠ B412 := Nat.ne_of_lt (Nat.lt_of_lt_of_le V_B407.lt szn412)
    have ne_b408_B412 : b408 ≠ B412 := Nat.ne_of_lt (Nat.lt_of_lt_of_le E_b408.lt szn412)
    have ne_b409_B412 : b409 ≠ B412 := Nat.ne_of_lt (Nat.lt_of_lt_of_le V_b409.lt szn412)
    have Sf_B412 := own_sfnew hCR szn412
    have hs := (sfS Sf_b408 sf0)
    replace Sf_b408 := Safe.keep K412 hs hCR.1 Sf_b408
    replace hCR := hCR.trans (CHr.keep K412 hs hCR.1)
    replace SC := own_stakeep SC K412 (nsS (Exa.nostat E_b408) ns0)
    replace E_b398 := E_b398.keep K412
    replace F_coder_b398 := F_coder_b398.keep K412 (ninS ne_b398_b408 nin0)
    replace F_value_b398 := F_value_b398.keep K412 (ninS ne_b398_b408 nin0)
    replace V_B402 := V_B402.keep K412 (ninS ne_B402_b408 nin0)
    replace E_b403 := E_b403.keep K412
    replace F_coder_b403 := F_coder_b403.keep K412 (ninS ne_b403_b408 nin0)
    replace F_value_b403 := F_value_b403.keep K412 (ninS ne_b403_b408 nin0)
    replace V_B407 := V_B407.keep K412 (ninS ne_B407_b408 nin0)
    replace E_b408 := E_b408.keep K412
    replace V_b409 := V_b409.keep K412 (ninS (Ne.symm ne_b408_b409) nin0)
    replace Z0 := Nat.le_trans Z0 K412.1
    replace hk := Nat.le_trans hk K412.1
    have F_coder_b408 : GC Z h412 b408 (.int 0) := G412C
    have F_value_b408 : GV Z h412 b408 (.ref B412) := G412V
    have V_B412 : Arv Z h412 B412 kb412 .byte (2 : Int32) (LB ([(z396.toUInt32.toUInt16.toUInt32.toInt32), (z397.toUInt32.toUInt16.toUInt32.toInt32)] : List Int32)) (.int 0) := G412A
    have N412 := Fr.app N411 N412q
    obtain ⟨T413, h413, X413, e413, E413, A413, D413, -, st413⟩ := newO X412 hx hZ hown (ww hw 30 rfl) (ww hw 31 rfl) (ww hw 32 rfl) e412 (g := (mkF m 136 (lo0_17 p1 p2 p3 p4 z392 z393 z394 z395 z396 z397 b398 b403 b408) [])) rfl (hb hby at_136) (by decide) (by decide)
    obtain ⟨b413, g413⟩ : ∃ z, z = h412.size := ⟨_, rfl⟩
    rw [← g413] at A413 D413 st413
    have g_b413 : n0 ≤ b413 := Nat.le_trans Z0 (Nat.le_of_eq g413.symm)
    have ne_b398_b413 : b398 ≠ b413 := Nat.ne_of_lt (Nat.lt_of_lt_of_le E_b398.lt (Nat.le_of_eq g413.symm))
    have ne_B402_b413 : B402 ≠ b413 := Nat.ne_of_lt (Nat.lt_of_lt_of_le V_B402.lt (Nat.le_of_eq g413.symm))
    have ne_b403_b413 : b403 ≠ b413 := Nat.ne_of_lt (Nat.lt_of_lt_of_le E_b403.lt (Nat.le_of_eq g413.symm))
    have ne_B407_b413 : B407 ≠ b413 := Nat.ne_of_lt (Nat.lt_of_lt_of_le V_B407.lt (Nat.le_of_eq g413.symm))
    have ne_b408_b413 : b408 ≠ b413 := Nat.ne_of_lt (Nat.lt_of_lt_of_le E_b408.lt (Nat.le_of_eq g413.symm))
    have ne_B412_b413 : B412 ≠ b413 := Nat.ne_of_lt (Nat.lt_of_lt_of_le V_B412.lt (Nat.le_of_eq g413.symm))
    have Sf_b413 := own_sfnew hCR (Nat.le_of_eq g413.symm)
    replace Sf_b413 := Safe.ext E413 hCR.1 Sf_b413
    replace hCR := hCR.trans (CHr.ext E413 hCR.1)
    replace SC := SC.ext E413
    replace E_b398 := E_b398.ext E413
    replace F_coder_b398 := F_coder_b398.ext E413
    replace F_value_b398 := F_value_b398.ext E413
    replace V_B402 := V_B402.ext E413
    replace E_b403 := E_b403.ext E413
    replace F_coder_b403 := F_coder_b403.ext E413
    replace F_value_b403 := F_value_b403.ext E413
    replace V_B407 := V_B407.ext E413
    replace E_b408 := E_b408.ext E413
    replace F_coder_b408 := F_coder_b408.ext E413
    replace F_value_b408 := F_value_b408.ext E413
    replace V_B412 := V_B412.ext E413
    replace Z0 := Nat.le_trans Z0 E413.1
    replace hk := Nat.le_trans hk E413.1
    have E_b413 := A413
    have F_name_b413 : Fld Z h413 b413 "com/example/assay/assay/config/ProbeSettings" "name" "Ljava/lang/String;" .null := D413 (Or.inr (ww hw 43 rfl)) (ty := (.object "java/lang/String")) (by decide)
    have F_city_b413 : Fld Z h413 b413 "com/example/assay/assay/config/ProbeSettings" "city" "Ljava/lang/String;" .null := D413 (Or.inr (ww hw 45 rfl)) (ty := (.object "java/lang/String")) (by decide)
    have F_token_b413 : Fld Z h413 b413 "com/example/assay/assay/config/ProbeSettings" "token" "Ljava/lang/String;" .null := D413 (Or.inr (ww hw 47 rfl)) (ty := (.object "java/lang/String")) (by decide)
    have F_ipv6_b413 : Fld Z h413 b413 "com/example/assay/assay/config/ProbeSettings" "ipv6" "Z" (.int 0) := D413 (Or.inr (ww hw 49 rfl)) (ty := .boolean) (by decide)
    obtain ⟨_, _, ⟨T414, _, _, _⟩, -, X414, ⟨_, hQ414, l414, y414, z414⟩, st414⟩ := X413.specialBack hx (y := mn29) rfl hown (mvT hZ (ww hw 33 rfl)) (mvT hZ (ww hw 34 rfl)) (mvT hZ (ww hw 35 rfl)) (by decide) (backOf (W := 1) (rm7 l Z a0 hw [] b413 b398 b403 b408 (1 : Int32) h413 n0 Z0 E_b413 F_name_b413 F_city_b413 F_token_b413 F_ipv6_b413 g_b413) hZ (ww hw 35 rfl) (ww hw 32 rfl) (by decide) (by decide)) (g := (mkF m 148 (lo0_17 p1 p2 p3 p4 z392 z393 z394 z395 z396 z397 b398 b403 b408) [.int 1, .ref b408, .ref b403, .ref b398, .ref b413, .ref b413])) rfl (by rw [hml]; rfl) (Steps.refl _) (a := b413) (argsL := [.ref b398, .ref b403, .ref b408, .int 1]) (rest := [.ref b413]) (lenOf pd_23 rfl) rfl (wz rfl) (hb hby at_148) (fun _ _ => ⟨rfl, e413, (by decide : 10 + 0 ≤ _), (by decide : 28 + 0 ≤ _)⟩)
    dsimp only [Pt.U, Pt.locs, Pt.cells, Pt.slots] at X414 l414 y414 z414 st414 hQ414
    rw [l414, y414, z414] at X414
    obtain ⟨h414, e414⟩ : ∃ z, T414.heap = z := ⟨_, rfl⟩
    rw [e414] at hQ414
    obtain ⟨rfl, N414q, K414, G414_0, G414_1, G414_2, G414_3⟩ := hQ414
    have hs := (sfS Sf_b413 sf0)
    replace Sf_b413 := Safe.keep K414 hs hCR.1 Sf_b413
    replace hCR := hCR.trans (CHr.keep K414 hs hCR.1)
    replace SC := own_stakeep SC K414 (nsS (Exa.nostat E_b413) ns0)
    replace E_b398 := E_b398.keep K414
    replace F_coder_b398 := F_coder_b398.keep K414 (ninS ne_b398_b413 nin0)
    replace F_value_b398 := F_value_b398.keep K414 (ninS ne_b398_b413 nin0)
    replace V_B402 := V_B402.keep K414 (ninS ne_B402_b413 nin0)
    replace E_b403 := E_b403.keep K414
    replace F_coder_b403 := F_coder_b403.keep K414 (ninS ne_b403_b413 nin0)
    replace F_value_b403 := F_value_b403.keep K414 (ninS ne_b403_b413 nin0)
    replace V_B407 := V_B407.keep K414 (ninS ne_B407_b413 nin0)
    replace E_b408 := E_b408.keep K414
    replace F_coder_b408 := F_coder_b408.keep K414 (ninS ne_b408_b413 nin0)
    replace F_value_b408 := F_value_b408.keep K414 (ninS ne_b408_b413 nin0)
    replace V_B412 := V_B412.keep K414 (ninS ne_B412_b413 nin0)
    replace E_b413 := E_b413.keep K414
    replace Z0 := Nat.le_trans Z0 K414.1
    replace hk := Nat.le_trans hk K414.1
    have F_name_b413 : Fld Z h414 b413 "com/example/assay/assay/config/ProbeSettings" "name" "Ljava/lang/String;" (.ref b398) := G414_0
    have F_city_b413 : Fld Z h414 b413 "com/example/assay/assay/config/ProbeSettings" "city" "Ljava/lang/String;" (.ref b403) := G414_1
    have F_token_b413 : Fld Z h414 b413 "com/example/assay/assay/config/ProbeSettings" "token" "Ljava/lang/String;" (.ref b408) := G414_2
    have F_ipv6_b413 : Fld Z h414 b413 "com/example/assay/assay/config/ProbeSettings" "ipv6" "Z" (.int ((1 : Int32) &&& 1)) := G414_3
    replace F_ipv6_b413 : Fld Z h414 b413 "com/example/assay/assay/config/ProbeSettings" "ipv6" "Z" (.int 1) := F_ipv6_b413
    have N414 := Fr.app N412 N414q
    obtain ⟨cq415, kq415, q415a, q415b, q415c⟩ := isOf hZ e414 E_b413
    obtain ⟨_, _, ⟨T415, _, _, _⟩, -, X415, hS415, hg415, ⟨_, hQ415, l415, y415, z415, -⟩, st415⟩ := X414.virtualBackS hx (y := mn27) (z := mn27) hown (mvT hZ (ww hw 50 rfl)) (mvT hZ (ww hw 51 rfl)) (notFace_of_selects (args := #[]) (mvT hZ (ww hw 53 rfl))) (mvT hZ (ww hw 53 rfl)) (mvT hZ (ww hw 52 rfl)) (by decide) (backOfSH (W := 0) (rm9_1 l Z a0 hw [] b413 b398 B402 kb402 b403 B407 kb407 (z392.toUInt32.toUInt16.toUInt32.toInt32) (z393.toUInt32.toUInt16.toUInt32.toInt32) (z394.toUInt32.toUInt16.toUInt32.toInt32) (z395.toUInt32.toUInt16.toUInt32.toInt32) wC h414 n0 Z0 SC hz F_name_b413 F_city_b413 F_ipv6_b413 E_b398 F_coder_b398 F_value_b398 V_B402 E_b403 F_coder_b403 F_value_b403 V_B407) hZ (ww hw 54 rfl) (ww hw 32 rfl) (by decide) (by decide) hEL hCR.1) q415a q415c (g := (mkF m 151 (lo0_17 p1 p2 p3 p4 z392 z393 z394 z395 z396 z397 b398 b403 b408) [.ref b413])) rfl (by rw [hml]; rfl) (Steps.refl _) (argsL := []) (rest := []) (lenOf pd_21 rfl) rfl (wz rfl) (hb hby at_151) (fun _ _ => ⟨rfl, e414, (by decide : 10 + 14 ≤ _), (by decide : 28 + 322 ≤ _)⟩)
    dsimp only [Pt.U, Pt.locs, Pt.cells, Pt.slots] at X415 l415 y415 z415 st415 hQ415 hS415 hg415
    rw [l415, y415, z415] at X415
    obtain ⟨X415, hS, hZ, hown⟩ := rebS hS (by rw [e414]; exact hk) X415 hS415 hg415 hZ hown
    obtain ⟨h415, e415⟩ : ∃ z, T415.heap = z := ⟨_, rfl⟩
    rw [e415] at hQ415
    obtain ⟨b415, B415, kb415, rfl, N415q, K415, szx415, szt415, G415E, G415C, G415V, G415A⟩ := hQ415
    have g_b415 : n0 ≤ b415 := Nat.le_trans Z0 szx415
    have g_B415 : n0 ≤ B415 := Nat.le_trans Z0 szt415
    replace SC := own_stakeep SC K415 ns0
    replace Z0 := Nat.le_trans Z0 K415.1
    have E_b415 : ES Z h415 b415 := G415E
    have F_coder_b415 : GC Z h415 b415 (.int 0) := G415C
    have F_value_b415 : GV Z h415 b415 (.ref B415) := G415V
    have V_B415 : Arv Z h415 B415 kb415 .byte (42 : Int32) (LB ([(80 : Int32), (114 : Int32), (111 : Int32), (98 : Int32), (101 : Int32), (83 : Int32), (101 : Int32), (116 : Int32), (116 : Int32), (105 : Int32), (110 : Int32), (103 : Int32), (115 : Int32), (91 : Int32), (110 : Int32), (97 : Int32), (109 : Int32), (101 : Int32), (61 : Int32), (z392.toUInt32.toUInt16.toUInt32.toInt32), (z393.toUInt32.toUInt16.toUInt32.toInt32), (44 : Int32), (32 : Int32), (99 : Int32), (105 : Int32), (116 : Int32), (121 : Int32), (61 : Int32), (z394.toUInt32.toUInt16.toUInt32.toInt32), (z395.toUInt32.toUInt16.toUInt32.toInt32), (44 : Int32), (32 : Int32), (105 : Int32), (112 : Int32), (118 : Int32), (54 : Int32), (61 : Int32), (116 : Int32), (114 : Int32), (117 : Int32), (101 : Int32), (93 : Int32)] : List Int32)) (.int 0) := G415A
    have hk : T415.heap.size ≤ h415.size := Nat.le_of_eq (by rw [e415])
    have N415 := Fr.app N414 N415q
    obtain ⟨T416, h416, k416, X416, e416, E416, A416, st416⟩ := newP X415 hx hZ (ww hw 3 rfl) e415 (g := (mkF m 163 (lo0_18 p1 p2 p3 p4 z392 z393 z394 z395 z396 z397 b398 b403 b408 b415) [.int 42])) rfl (hb hby at_163) rfl (by decide) (cap := 42) (by decide) (by decide) (by decide) (by decide)
    obtain ⟨b416, g416⟩ : ∃ z, z = h415.size := ⟨_, rfl⟩
    rw [← g416] at A416 st416
    have g_b416 : n0 ≤ b416 := Nat.le_trans Z0 (Nat.le_of_eq g416.symm)
    have ne_b415_b416 : b415 ≠ b416 := Nat.ne_of_lt (Nat.lt_of_lt_of_le E_b415.lt (Nat.le_of_eq g416.symm))
    have ne_B415_b416 : B415 ≠ b416 := Nat.ne_of_lt (Nat.lt_of_lt_of_le V_B415.lt (Nat.le_of_eq g416.symm))
    replace SC := SC.ext E416
    replace E_b415 := E_b415.ext E416
    replace F_coder_b415 := F_coder_b415.ext E416
    replace F_value_b415 := F_value_b415.ext E416
    replace V_B415 := V_B415.ext E416
    replace Z0 := Nat.le_trans Z0 E416.1
    replace hk := Nat.le_trans hk E416.1
    have V_b416 : Arv Z h416 b416 k416 .char (42 : Int32) [] (.int 0) := Arv.new A416 (by decide)
    have nsb := Arv.nostat V_b416
    obtain ⟨T417, h417, X417, e417, W417, V_b416, hl_b416, st417⟩ := pushC X416 hx hZ e416 V_b416 (j := (0 : Int32)) (x := (80 : Int32)) ⟨by decide, by decide⟩ rfl (Ls := (lo0_18 p1 p2 p3 p4 z392 z393 z394 z395 z396 z397 b398 b403 b408 b415)) (S := [.ref b416]) hby at_169
    have KW := Keep.of_wr W417
    have N417 := Fr.snoc X417 N415 g_b416
    obtain ⟨T418, h418, X418, e418, W418, V_b416, hl_b416, st418⟩ := pushC X417 hx hZ e417 V_b416 (j := (1 : Int32)) (x := (114 : Int32)) ⟨by decide, by decide⟩ hl_b416 (Ls := (lo0_18 p1 p2 p3 p4 z392 z393 z394 z395 z396 z397 b398 b403 b408 b415)) (S := [.ref b416]) hby at_174
    replace KW := KW.wr W418 (Or.inl (List.mem_of_getElem? (i := 0) rfl))
    have N418 := Fr.snoc X418 N417 g_b416
    obtain ⟨T419, h419, X419, e419, W419, V_b416, hl_b416, st419⟩ := pushC X418 hx hZ e418 V_b416 (j := (2 : Int32)) (x := (111 : Int32)) ⟨by decide, by decide⟩ hl_b416 (Ls := (lo0_18 p1 p2 p3 p4 z392 z393 z394 z395 z396 z397 b398 b403 b408 b415)) (S := [.ref b416]) hby at_179
    replace KW := KW.wr W419 (Or.inl (List.mem_of_getElem? (i := 0) rfl))
    have N419 := Fr.snoc X419 N418 g_b416
    obtain ⟨T420, h420, X420, e420, W420, V_b416, hl_b416, st420⟩ := pushC X419 hx hZ e419 V_b416 (j := (3 : Int32)) (x := (98 : Int32)) ⟨by decide, by decide⟩ hl_b416 (Ls := (lo0_18 p1 p2 p3 p4 z392 z393 z394 z395 z396 z397 b398 b403 b408 b415)) (S := [.ref b416]) hby at_184
    replace KW := KW.wr W420 (Or.inl (List.mem_of_getElem? (i := 0) rfl))
    replace V_b416 : Arv Z h420 b416 k416 .char (42 : Int32) [.int 80, .int 114, .int 111, .int 98] (.int 0) := V_b416
    have N420 := Fr.snoc X420 N419 g_b416
    obtain ⟨T421, h421, X421, e421, W421, V_b416, hl_b416, st421⟩ := pushC X420 hx hZ e420 V_b416 (j := (4 : Int32)) (x := (101 : Int32)) ⟨by decide, by decide⟩ rfl (Ls := (lo0_18 p1 p2 p3 p4 z392 z393 z394 z395 z396 z397 b398 b403 b408 b415)) (S := [.ref b416]) hby at_189
    replace KW := KW.wr W421 (Or.inl (List.mem_of_getElem? (i := 0) rfl))
    have N421 := Fr.snoc X421 N420 g_b416
    obtain ⟨T422, h422, X422, e422, W422, V_b416, hl_b416, st422⟩ := pushC X421 hx hZ e421 V_b416 (j := (5 : Int32)) (x := (83 : Int32)) ⟨by decide, by decide⟩ hl_b416 (Ls := (lo0_18 p1 p2 p3 p4 z392 z393 z394 z395 z396 z397 b398 b403 b408 b415)) (S := [.ref b416]) hby at_194
    replace KW := KW.wr W422 (Or.inl (List.mem_of_getElem? (i := 0) rfl))
    have N422 := Fr.snoc X422 N421 g_b416
    obtain ⟨T423, h423, X423, e423, W423, V_b416, hl_b416, st423⟩ := pushC X422 hx hZ e422 V_b416 (j := (6 : Int32)) (x := (101 : Int32)) ⟨by decide, by decide⟩ hl_b416 (Ls := (lo0_18 p1 p2 p3 p4 z392 z393 z394 z395 z396 z397 b398 b403 b408 b415)) (S := [.ref b416]) hby at_200
    replace KW := KW.wr W423 (Or.inl (List.mem_of_getElem? (i := 0) rfl))
    have N423 := Fr.snoc X423 N422 g_b416
    obtain ⟨T424, h424, X424, e424, W424, V_b416, hl_b416, st424⟩ := pushC X423 hx hZ e423 V_b416 (j := (7 : Int32)) (x := (116 : Int32)) ⟨by decide, by decide⟩ hl_b416 (Ls := (lo0_18 p1 p2 p3 p4 z392 z393 z394 z395 z396 z397 b398 b403 b408 b415)) (S := [.ref b416]) hby at_206
    replace KW := KW.wr W424 (Or.inl (List.mem_of_getElem? (i := 0) rfl))
    replace V_b416 : Arv Z h424 b416 k416 .char (42 : Int32) [.int 80, .int 114, .int 111, .int 98, .int 101, .int 83, .int 101, .int 116] (.int 0) := V_b416
    have N424 := Fr.snoc X424 N423 g_b416
    obtain ⟨T425, h425, X425, e425, W425, V_b416, hl_b416, st425⟩ := pushC X424 hx hZ e424 V_b416 (j := (8 : Int32)) (x := (116 : Int32)) ⟨by decide, by decide⟩ rfl (Ls := (lo0_18 p1 p2 p3 p4 z392 z393 z394 z395 z396 z397 b398 b403 b408 b415)) (S := [.ref b416]) hby at_212
    replace KW := KW.wr W425 (Or.inl (List.mem_of_getElem? (i := 0) rfl))
    have N425 := Fr.snoc X425 N424 g_b416
    obtain ⟨T426, h426, X426, e426, W426, V_b416, hl_b416, st426⟩ := pushC X425 hx hZ e425 V_b416 (j := (9 : Int32)) (x := (105 : Int32)) ⟨by decide, by decide⟩ hl_b416 (Ls := (lo0_18 p1 p2 p3 p4 z392 z393 z394 z395 z396 z397 b398 b403 b408 b415)) (S := [.ref b416]) hby at_218
    replace KW := KW.wr W426 (Or.inl (List.mem_of_getElem? (i := 0) rfl))
    have N426 := Fr.snoc X426 N425 g_b416
    obtain ⟨T427, h427, X427, e427, W427, V_b416, hl_b416, st427⟩ := pushC X426 hx hZ e426 V_b416 (j := (10 : Int32)) (x := (110 : Int32)) ⟨by decide, by decide⟩ hl_b416 (Ls := (lo0_18 p1 p2 p3 p4 z392 z393 z394 z395 z396 z397 b398 b403 b408 b415)) (S := [.ref b416]) hby at_224
    replace KW := KW.wr W427 (Or.inl (List.mem_of_getElem? (i := 0) rfl))
    have N427 := Fr.snoc X427 N426 g_b416
    obtain ⟨T428, h428, X428, e428, W428, V_b416, hl_b416, st428⟩ := pushC X427 hx hZ e427 V_b416 (j := (11 : Int32)) (x := (103 : Int32)) ⟨by decide, by decide⟩ hl_b416 (Ls := (lo0_18 p1 p2 p3 p4 z392 z393 z394 z395 z396 z397 b398 b403 b408 b415)) (S := [.ref b416]) hby at_230
    replace KW := KW.wr W428 (Or.inl (List.mem_of_getElem? (i := 0) rfl))
    replace V_b416 : Arv Z h428 b416 k416 .char (42 : Int32) [.int 80, .int 114, .int 111, .int 98, .int 101, .int 83, .int 101, .int 116, .int 116, .int 105, .int 110, .int 103] (.int 0) := V_b416
    have N428 := Fr.snoc X428 N427 g_b416
    obtain ⟨T429, h429, X429, e429, W429, V_b416, hl_b416, st429⟩ := pushC X428 hx hZ e428 V_b416 (j := (12 : Int32)) (x := (115 : Int32)) ⟨by decide, by decide⟩ rfl (Ls := (lo0_18 p1 p2 p3 p4 z392 z393 z394 z395 z396 z397 b398 b403 b408 b415)) (S := [.ref b416]) hby at_236
    replace KW := KW.wr W429 (Or.inl (List.mem_of_getElem? (i := 0) rfl))
    have N429 := Fr.snoc X429 N428 g_b416
    obtain ⟨T430, h430, X430, e430, W430, V_b416, hl_b416, st430⟩ := pushC X429 hx hZ e429 V_b416 (j := (13 : Int32)) (x := (91 : Int32)) ⟨by decide, by decide⟩ hl_b416 (Ls := (lo0_18 p1 p2 p3 p4 z392 z393 z394 z395 z396 z397 b398 b403 b408 b415)) (S := [.ref b416]) hby at_242
    replace KW := KW.wr W430 (Or.inl (List.mem_of_getElem? (i := 0) rfl))
    have N430 := Fr.snoc X430 N429 g_b416
    obtain ⟨T431, h431, X431, e431, W431, V_b416, hl_b416, st431⟩ := pushC X430 hx hZ e430 V_b416 (j := (14 : Int32)) (x := (110 : Int32)) ⟨by decide, by decide⟩ hl_b416 (Ls := (lo0_18 p1 p2 p3 p4 z392 z393 z394 z395 z396 z397 b398 b403 b408 b415)) (S := [.ref b416]) hby at_248
    replace KW := KW.wr W431 (Or.inl (List.mem_of_getElem? (i := 0) rfl))
    have N431 := Fr.snoc X431 N430 g_b416
    obtain ⟨T432, h432, X432, e432, W432, V_b416, hl_b416, st432⟩ := pushC X431 hx hZ e431 V_b416 (j := (15 : Int32)) (x := (97 : Int32)) ⟨by decide, by decide⟩ hl_b416 (Ls := (lo0_18 p1 p2 p3 p4 z392 z393 z394 z395 z396 z397 b398 b403 b408 b415)) (S := [.ref b416]) hby at_254
    replace KW := KW.wr W432 (Or.inl (List.mem_of_getElem? (i := 0) rfl))
    replace V_b416 : Arv Z h432 b416 k416 .char (42 : Int32) [.int 80, .int 114, .int 111, .int 98, .int 101, .int 83, .int 101, .int 116, .int 116, .int 105, .int 110, .int 103, .int 115, .int 91, .int 110, .int 97] (.int 0) := V_b416
    have N432 := Fr.snoc X432 N431 g_b416
    obtain ⟨T433, h433, X433, e433, W433, V_b416, hl_b416, st433⟩ := pushC X432 hx hZ e432 V_b416 (j := (16 : Int32)) (x := (109 : Int32)) ⟨by decide, by decide⟩ rfl (Ls := (lo0_18 p1 p2 p3 p4 z392 z393 z394 z395 z396 z397 b398 b403 b408 b415)) (S := [.ref b416]) hby at_260
    replace KW := KW.wr W433 (Or.inl (List.mem_of_getElem? (i := 0) rfl))
    have N433 := Fr.snoc X433 N432 g_b416
    obtain ⟨T434, h434, X434, e434, W434, V_b416, hl_b416, st434⟩ := pushC X433 hx hZ e433 V_b416 (j := (17 : Int32)) (x := (101 : Int32)) ⟨by decide, by decide⟩ hl_b416 (Ls := (lo0_18 p1 p2 p3 p4 z392 z393 z394 z395 z396 z397 b398 b403 b408 b415)) (S := [.ref b416]) hby at_266
    replace KW := KW.wr W434 (Or.inl (List.mem_of_getElem? (i := 0) rfl))
    have N434 := Fr.snoc X434 N433 g_b416
    obtain ⟨T435, h435, X435, e435, W435, V_b416, hl_b416, st435⟩ := pushC X434 hx hZ e434 V_b416 (j := (18 : Int32)) (x := (61 : Int32)) ⟨by decide, by decide⟩ hl_b416 (Ls := (lo0_18 p1 p2 p3 p4 z392 z393 z394 z395 z396 z397 b398 b403 b408 b415)) (S := [.ref b416]) hby at_272
    replace KW := KW.wr W435 (Or.inl (List.mem_of_getElem? (i := 0) rfl))
    have N435 := Fr.snoc X435 N434 g_b416
    obtain ⟨T436, h436, X436, e436, W436, V_b416, hl_b416, st436⟩ := pushC X435 hx hZ e435 V_b416 (j := (19 : Int32)) (x := z392) ⟨by decide, by decide⟩ hl_b416 (Ls := (lo0_18 p1 p2 p3 p4 z392 z393 z394 z395 z396 z397 b398 b403 b408 b415)) (S := [.ref b416]) hby at_278
    replace KW := KW.wr W436 (Or.inl (List.mem_of_getElem? (i := 0) rfl))
    replace V_b416 : Arv Z h436 b416 k416 .char (42 : Int32) [.int 80, .int 114, .int 111, .int 98, .int 101, .int 83, .int 101, .int 116, .int 116, .int 105, .int 110, .int 103, .int 115, .int 91, .int 110, .int 97, .int 109, .int 101, .int 61, (.int (z392.toUInt32.toUInt16.toUInt32.toInt32))] (.int 0) := V_b416
    have N436 := Fr.snoc X436 N435 g_b416
    obtain ⟨T437, h437, X437, e437, W437, V_b416, hl_b416, st437⟩ := pushC X436 hx hZ e436 V_b416 (j := (20 : Int32)) (x := z393) ⟨by decide, by decide⟩ rfl (Ls := (lo0_18 p1 p2 p3 p4 z392 z393 z394 z395 z396 z397 b398 b403 b408 b415)) (S := [.ref b416]) hby at_284
    replace KW := KW.wr W437 (Or.inl (List.mem_of_getElem? (i := 0) rfl))
    have N437 := Fr.snoc X437 N436 g_b416
    obtain ⟨T438, h438, X438, e438, W438, V_b416, hl_b416, st438⟩ := pushC X437 hx hZ e437 V_b416 (j := (21 : Int32)) (x := (44 : Int32)) ⟨by decide, by decide⟩ hl_b416 (Ls := (lo0_18 p1 p2 p3 p4 z392 z393 z394 z395 z396 z397 b398 b403 b408 b415)) (S := [.ref b416]) hby at_290
    replace KW := KW.wr W438 (Or.inl (List.mem_of_getElem? (i := 0) rfl))
    have N438 := Fr.snoc X438 N437 g_b416
    obtain ⟨T439, h439, X439, e439, W439, V_b416, hl_b416, st439⟩ := pushC X438 hx hZ e438 V_b416 (j := (22 : Int32)) (x := (32 : Int32)) ⟨by decide, by decide⟩ hl_b416 (Ls := (lo0_18 p1 p2 p3 p4 z392 z393 z394 z395 z396 z397 b398 b403 b408 b415)) (S := [.ref b416]) hby at_296
    replace KW := KW.wr W439 (Or.inl (List.mem_of_getElem? (i := 0) rfl))
    have N439 := Fr.snoc X439 N438 g_b416
    obtain ⟨T440, h440, X440, e440, W440, V_b416, hl_b416, st440⟩ := pushC X439 hx hZ e439 V_b416 (j := (23 : Int32)) (x := (99 : Int32)) ⟨by decide, by decide⟩ hl_b416 (Ls := (lo0_18 p1 p2 p3 p4 z392 z393 z394 z395 z396 z397 b398 b403 b408 b415)) (S := [.ref b416]) hby at_302
    replace KW := KW.wr W440 (Or.inl (List.mem_of_getElem? (i := 0) rfl))
    replace V_b416 : Arv Z h440 b416 k416 .char (42 : Int32) [.int 80, .int 114, .int 111, .int 98, .int 101, .int 83, .int 101, .int 116, .int 116, .int 105, .int 110, .int 103, .int 115, .int 91, .int 110, .int 97, .int 109, .int 101, .int 61, (.int (z392.toUInt32.toUInt16.toUInt32.toInt32)), (.int (z393.toUInt32.toUInt16.toUInt32.toInt32)), .int 44, .int 32, .int 99] (.int 0) := V_b416
    have N440 := Fr.snoc X440 N439 g_b416
    obtain ⟨T441, h441, X441, e441, W441, V_b416, hl_b416, st441⟩ := pushC X440 hx hZ e440 V_b416 (j := (24 : Int32)) (x := (105 : Int32)) ⟨by decide, by decide⟩ rfl (Ls := (lo0_18 p1 p2 p3 p4 z392 z393 z394 z395 z396 z397 b398 b403 b408 b415)) (S := [.ref b416]) hby at_308
    replace KW := KW.wr W441 (Or.inl (List.mem_of_getElem? (i := 0) rfl))
    have N441 := Fr.snoc X441 N440 g_b416
    obtain ⟨T442, h442, X442, e442, W442, V_b416, hl_b416, st442⟩ := pushC X441 hx hZ e441 V_b416 (j := (25 : Int32)) (x := (116 : Int32)) ⟨by decide, by decide⟩ hl_b416 (Ls := (lo0_18 p1 p2 p3 p4 z392 z393 z394 z395 z396 z397 b398 b403 b408 b415)) (S := [.ref b416]) hby at_314
    replace KW := KW.wr W442 (Or.inl (List.mem_of_getElem? (i := 0) rfl))
    have N442 := Fr.snoc X442 N441 g_b416
    obtain ⟨T443, h443, X443, e443, W443, V_b416, hl_b416, st443⟩ := pushC X442 hx hZ e442 V_b416 (j := (26 : Int32)) (x := (121 : Int32)) ⟨by decide, by decide⟩ hl_b416 (Ls := (lo0_18 p1 p2 p3 p4 z392 z393 z394 z395 z396 z397 b398 b403 b408 b415)) (S := [.ref b416]) hby at_320
    replace KW := KW.wr W443 (Or.inl (List.mem_of_getElem? (i := 0) rfl))
    have N443 := Fr.snoc X443 N442 g_b416
    obtain ⟨T444, h444, X444, e444, W444, V_b416, hl_b416, st444⟩ := pushC X443 hx hZ e443 V_b416 (j := (27 : Int32)) (x := (61 : Int32)) ⟨by decide, by decide⟩ hl_b416 (Ls := (lo0_18 p1 p2 p3 p4 z392 z393 z394 z395 z396 z397 b398 b403 b408 b415)) (S := [.ref b416]) hby at_326
    replace KW := KW.wr W444 (Or.inl (List.mem_of_getElem? (i := 0) rfl))
    replace V_b416 : Arv Z h444 b416 k416 .char (42 : Int32) [.int 80, .int 114, .int 111, .int 98, .int 101, .int 83, .int 101, .int 116, .int 116, .int 105, .int 110, .int 103, .int 115, .int 91, .int 110, .int 97, .int 109, .int 101, .int 61, (.int (z392.toUInt32.toUInt16.toUInt32.toInt32)), (.int (z393.toUInt32.toUInt16.toUInt32.toInt32)), .int 44, .int 32, .int 99, .int 105, .int 116, .int 121, .int 61] (.int 0) := V_b416
    have N444 := Fr.snoc X444 N443 g_b416
    obtain ⟨T445, h445, X445, e445, W445, V_b416, hl_b416, st445⟩ := pushC X444 hx hZ e444 V_b416 (j := (28 : Int32)) (x := z394) ⟨by decide, by decide⟩ rfl (Ls := (lo0_18 p1 p2 p3 p4 z392 z393 z394 z395 z396 z397 b398 b403 b408 b415)) (S := [.ref b416]) hby at_332
    replace KW := KW.wr W445 (Or.inl (List.mem_of_getElem? (i := 0) rfl))
    have N445 := Fr.snoc X445 N444 g_b416
    obtain ⟨T446, h446, X446, e446, W446, V_b416, hl_b416, st446⟩ := pushC X445 hx hZ e445 V_b416 (j := (29 : Int32)) (x := z395) ⟨by decide, by decide⟩ hl_b416 (Ls := (lo0_18 p1 p2 p3 p4 z392 z393 z394 z395 z396 z397 b398 b403 b408 b415)) (S := [.ref b416]) hby at_338
    replace KW := KW.wr W446 (Or.inl (List.mem_of_getElem? (i := 0) rfl))
    have N446 := Fr.snoc X446 N445 g_b416
    obtain ⟨T447, h447, X447, e447, W447, V_b416, hl_b416, st447⟩ := pushC X446 hx hZ e446 V_b416 (j := (30 : Int32)) (x := (44 : Int32)) ⟨by decide, by decide⟩ hl_b416 (Ls := (lo0_18 p1 p2 p3 p4 z392 z393 z394 z395 z396 z397 b398 b403 b408 b415)) (S := [.ref b416]) hby at_344
    replace KW := KW.wr W447 (Or.inl (List.mem_of_getElem? (i := 0) rfl))
    have N447 := Fr.snoc X447 N446 g_b416
    obtain ⟨T448, h448, X448, e448, W448, V_b416, hl_b416, st448⟩ := pushC X447 hx hZ e447 V_b416 (j := (31 : Int32)) (x := (32 : Int32)) ⟨by decide, by decide⟩ hl_b416 (Ls := (lo0_18 p1 p2 p3 p4 z392 z393 z394 z395 z396 z397 b398 b403 b408 b415)) (S := [.ref b416]) hby at_350
    replace KW := KW.wr W448 (Or.inl (List.mem_of_getElem? (i := 0) rfl))
    replace V_b416 : Arv Z h448 b416 k416 .char (42 : Int32) [.int 80, .int 114, .int 111, .int 98, .int 101, .int 83, .int 101, .int 116, .int 116, .int 105, .int 110, .int 103, .int 115, .int 91, .int 110, .int 97, .int 109, .int 101, .int 61, (.int (z392.toUInt32.toUInt16.toUInt32.toInt32)), (.int (z393.toUInt32.toUInt16.toUInt32.toInt32)), .int 44, .int 32, .int 99, .int 105, .int 116, .int 121, .int 61, (.int (z394.toUInt32.toUInt16.toUInt32.toInt32)), (.int (z395.toUInt32.toUInt16.toUInt32.toInt32)), .int 44, .int 32] (.int 0) := V_b416
    have N448 := Fr.snoc X448 N447 g_b416
    obtain ⟨T449, h449, X449, e449, W449, V_b416, hl_b416, st449⟩ := pushC X448 hx hZ e448 V_b416 (j := (32 : Int32)) (x := (105 : Int32)) ⟨by decide, by decide⟩ rfl (Ls := (lo0_18 p1 p2 p3 p4 z392 z393 z394 z395 z396 z397 b398 b403 b408 b415)) (S := [.ref b416]) hby at_356
    replace KW := KW.wr W449 (Or.inl (List.mem_of_getElem? (i := 0) rfl))
    have N449 := Fr.snoc X449 N448 g_b416
    obtain ⟨T450, h450, X450, e450, W450, V_b416, hl_b416, st450⟩ := pushC X449 hx hZ e449 V_b416 (j := (33 : Int32)) (x := (112 : Int32)) ⟨by decide, by decide⟩ hl_b416 (Ls := (lo0_18 p1 p2 p3 p4 z392 z393 z394 z395 z396 z397 b398 b403 b408 b415)) (S := [.ref b416]) hby at_362
    replace KW := KW.wr W450 (Or.inl (List.mem_of_getElem? (i := 0) rfl))
    have N450 := Fr.snoc X450 N449 g_b416
    obtain ⟨T451, h451, X451, e451, W451, V_b416, hl_b416, st451⟩ := pushC X450 hx hZ e450 V_b416 (j := (34 : Int32)) (x := (118 : Int32)) ⟨by decide, by decide⟩ hl_b416 (Ls := (lo0_18 p1 p2 p3 p4 z392 z393 z394 z395 z396 z397 b398 b403 b408 b415)) (S := [.ref b416]) hby at_368
    replace KW := KW.wr W451 (Or.inl (List.mem_of_getElem? (i := 0) rfl))
    have N451 := Fr.snoc X451 N450 g_b416
    obtain ⟨T452, h452, X452, e452, W452, V_b416, hl_b416, st452⟩ := pushC X451 hx hZ e451 V_b416 (j := (35 : Int32)) (x := (54 : Int32)) ⟨by decide, by decide⟩ hl_b416 (Ls := (lo0_18 p1 p2 p3 p4 z392 z393 z394 z395 z396 z397 b398 b403 b408 b415)) (S := [.ref b416]) hby at_374
    replace KW := KW.wr W452 (Or.inl (List.mem_of_getElem? (i := 0) rfl))
    replace V_b416 : Arv Z h452 b416 k416 .char (42 : Int32) [.int 80, .int 114, .int 111, .int 98, .int 101, .int 83, .int 101, .int 116, .int 116, .int 105, .int 110, .int 103, .int 115, .int 91, .int 110, .int 97, .int 109, .int 101, .int 61, (.int (z392.toUInt32.toUInt16.toUInt32.toInt32)), (.int (z393.toUInt32.toUInt16.toUInt32.toInt32)), .int 44, .int 32, .int 99, .int 105, .int 116, .int 121, .int 61, (.int (z394.toUInt32.toUInt16.toUInt32.toInt32)), (.int (z395.toUInt32.toUInt16.toUInt32.toInt32)), .int 44, .int 32, .int 105, .int 112, .int 118, .int 54] (.int 0) := V_b416
    have N452 := Fr.snoc X452 N451 g_b416
    obtain ⟨T453, h453, X453, e453, W453, V_b416, hl_b416, st453⟩ := pushC X452 hx hZ e452 V_b416 (j := (36 : Int32)) (x := (61 : Int32)) ⟨by decide, by decide⟩ rfl (Ls := (lo0_18 p1 p2 p3 p4 z392 z393 z394 z395 z396 z397 b398 b403 b408 b415)) (S := [.ref b416]) hby at_380
    replace KW := KW.wr W453 (Or.inl (List.mem_of_getElem? (i := 0) rfl))
    have N453 := Fr.snoc X453 N452 g_b416
    obtain ⟨T454, h454, X454, e454, W454, V_b416, hl_b416, st454⟩ := pushC X453 hx hZ e453 V_b416 (j := (37 : Int32)) (x := (116 : Int32)) ⟨by decide, by decide⟩ hl_b416 (Ls := (lo0_18 p1 p2 p3 p4 z392 z393 z394 z395 z396 z397 b398 b403 b408 b415)) (S := [.ref b416]) hby at_386
    replace KW := KW.wr W454 (Or.inl (List.mem_of_getElem? (i := 0) rfl))
    have N454 := Fr.snoc X454 N453 g_b416
    obtain ⟨T455, h455, X455, e455, W455, V_b416, hl_b416, st455⟩ := pushC X454 hx hZ e454 V_b416 (j := (38 : Int32)) (x := (114 : Int32)) ⟨by decide, by decide⟩ hl_b416 (Ls := (lo0_18 p1 p2 p3 p4 z392 z393 z394 z395 z396 z397 b398 b403 b408 b415)) (S := [.ref b416]) hby at_392
    replace KW := KW.wr W455 (Or.inl (List.mem_of_getElem? (i := 0) rfl))
    have N455 := Fr.snoc X455 N454 g_b416
    obtain ⟨T456, h456, X456, e456, W456, V_b416, hl_b416, st456⟩ := pushC X455 hx hZ e455 V_b416 (j := (39 : Int32)) (x := (117 : Int32)) ⟨by decide, by decide⟩ hl_b416 (Ls := (lo0_18 p1 p2 p3 p4 z392 z393 z394 z395 z396 z397 b398 b403 b408 b415)) (S := [.ref b416]) hby at_398
    replace KW := KW.wr W456 (Or.inl (List.mem_of_getElem? (i := 0) rfl))
    replace V_b416 : Arv Z h456 b416 k416 .char (42 : Int32) [.int 80, .int 114, .int 111, .int 98, .int 101, .int 83, .int 101, .int 116, .int 116, .int 105, .int 110, .int 103, .int 115, .int 91, .int 110, .int 97, .int 109, .int 101, .int 61, (.int (z392.toUInt32.toUInt16.toUInt32.toInt32)), (.int (z393.toUInt32.toUInt16.toUInt32.toInt32)), .int 44, .int 32, .int 99, .int 105, .int 116, .int 121, .int 61, (.int (z394.toUInt32.toUInt16.toUInt32.toInt32)), (.int (z395.toUInt32.toUInt16.toUInt32.toInt32)), .int 44, .int 32, .int 105, .int 112, .int 118, .int 54, .int 61, .int 116, .int 114, .int 117] (.int 0) := V_b416
    have N456 := Fr.snoc X456 N455 g_b416
    obtain ⟨T457, h457, X457, e457, W457, V_b416, hl_b416, st457⟩ := pushC X456 hx hZ e456 V_b416 (j := (40 : Int32)) (x := (101 : Int32)) ⟨by decide, by decide⟩ rfl (Ls := (lo0_18 p1 p2 p3 p4 z392 z393 z394 z395 z396 z397 b398 b403 b408 b415)) (S := [.ref b416]) hby at_404
    replace KW := KW.wr W457 (Or.inl (List.mem_of_getElem? (i := 0) rfl))
    have N457 := Fr.snoc X457 N456 g_b416
    obtain ⟨T458, h458, X458, e458, W458, V_b416, hl_b416, st458⟩ := pushC X457 hx hZ e457 V_b416 (j := (41 : Int32)) (x := (93 : Int32)) ⟨by decide, by decide⟩ hl_b416 (Ls := (lo0_18 p1 p2 p3 p4 z392 z393 z394 z395 z396 z397 b398 b403 b408 b415)) (S := [.ref b416]) hby at_410
    replace KW := KW.wr W458 (Or.inl (List.mem_of_getElem? (i := 0) rfl))
    have N458 := Fr.snoc X458 N457 g_b416
    replace SC := own_stakeep SC KW (nsS nsb ns0)
    replace E_b415 := E_b415.keep KW
    replace F_coder_b415 := F_coder_b415.keep KW (ninS ne_b415_b416 nin0)
    replace F_value_b415 := F_value_b415.keep KW (ninS ne_b415_b416 nin0)
    replace V_B415 := V_B415.keep KW (ninS ne_B415_b416 nin0)
    replace Z0 := Nat.le_trans Z0 KW.1
    replace hk := Nat.le_trans hk KW.1
    obtain ⟨T459, h459, X459, e459, E459, A459, D459, -, st459⟩ := newO X458 hx hZ hown (ww hw 0 rfl) (ww hw 1 rfl) (ww hw 2 rfl) e458 (g := (mkF m 676 (lo0_19 p1 p2 p3 p4 z392 z393 z394 z395 z396 z397 b398 b403 b408 b415 b416) [.ref b415])) rfl (hb hby at_676) (by decide) (by decide)
    obtain ⟨b459, g459⟩ : ∃ z, z = h458.size := ⟨_, rfl⟩
    rw [← g459] at A459 D459 st459
    have g_b459 : n0 ≤ b459 := Nat.le_trans Z0 (Nat.le_of_eq g459.symm)
    have ne_b415_b459 : b415 ≠ b459 := Nat.ne_of_lt (Nat.lt_of_lt_of_le E_b415.lt (Nat.le_of_eq g459.symm))
    have ne_B415_b459 : B415 ≠ b459 := Nat.ne_of_lt (Nat.lt_of_lt_of_le V_B415.lt (Nat.le_of_eq g459.symm))
    have ne_b416_b459 : b416 ≠ b459 := Nat.ne_of_lt (Nat.lt_of_lt_of_le V_b416.lt (Nat.le_of_eq g459.symm))
    replace SC := SC.ext E459
    replace E_b415 := E_b415.ext E459
    replace F_coder_b415 := F_coder_b415.ext E459
    replace F_value_b415 := F_value_b415.ext E459
    replace V_B415 := V_B415.ext E459
    replace V_b416 := V_b416.ext E459
    replace Z0 := Nat.le_trans Z0 E459.1
    replace hk := Nat.le_trans hk E459.1
    have E_b459 := A459
    have F_coder_b459 : GC Z h459 b459 (.int 0) := D459 (Or.inr (ww hw 27 rfl)) (ty := .byte) (by decide)
    have F_value_b459 : GV Z h459 b459 .null := D459 (Or.inr (ww hw 29 rfl)) (ty := (.array .byte)) (by decide)
    replace V_b416 : Arv Z h459 b416 k416 .char (42 : Int32) [.int 80, .int 114, .int 111, .int 98, .int 101, .int 83, .int 101, .int 116, .int 116, .int 105, .int 110, .int 103, .int 115, .int 91, .int 110, .int 97, .int 109, .int 101, .int 61, (.int (z392.toUInt32.toUInt16.toUInt32.toInt32)), (.int (z393.toUInt32.toUInt16.toUInt32.toInt32)), .int 44, .int 32, .int 99, .int 105, .int 116, .int 121, .int 61, (.int (z394.toUInt32.toUInt16.toUInt32.toInt32)), (.int (z395.toUInt32.toUInt16.toUInt32.toInt32)), .int 44, .int 32, .int 105, .int 112, .int 118, .int 54, .int 61, .int 116, .int 114, .int 117, .int 101, .int 93] (.int 0) := V_b416
    obtain ⟨_, _, ⟨T460, _, _, _⟩, -, X460, ⟨_, hQ460, l460, y460, z460⟩, st460⟩ := X459.specialBack hx (y := mn30) rfl hown (mvT hZ (ww hw 4 rfl)) (mvT hZ (ww hw 5 rfl)) (mvT hZ (ww hw 6 rfl)) (by decide) (StrChars.Road.backV (W := 2) hZ hws (kI := 4) (ww hw 1 rfl) (cs := ([(80 : Int32), (114 : Int32), (111 : Int32), (98 : Int32), (101 : Int32), (83 : Int32), (101 : Int32), (116 : Int32), (116 : Int32), (105 : Int32), (110 : Int32), (103 : Int32), (115 : Int32), (91 : Int32), (110 : Int32), (97 : Int32), (109 : Int32), (101 : Int32), (61 : Int32), (z392.toUInt32.toUInt16.toUInt32.toInt32), (z393.toUInt32.toUInt16.toUInt32.toInt32), (44 : Int32), (32 : Int32), (99 : Int32), (105 : Int32), (116 : Int32), (121 : Int32), (61 : Int32), (z394.toUInt32.toUInt16.toUInt32.toInt32), (z395.toUInt32.toUInt16.toUInt32.toInt32), (44 : Int32), (32 : Int32), (105 : Int32), (112 : Int32), (118 : Int32), (54 : Int32), (61 : Int32), (116 : Int32), (114 : Int32), (117 : Int32), (101 : Int32), (93 : Int32)] : List Int32)) (bs := ([(80 : Int32), (114 : Int32), (111 : Int32), (98 : Int32), (101 : Int32), (83 : Int32), (101 : Int32), (116 : Int32), (116 : Int32), (105 : Int32), (110 : Int32), (103 : Int32), (115 : Int32), (91 : Int32), (110 : Int32), (97 : Int32), (109 : Int32), (101 : Int32), (61 : Int32), (z392.toUInt32.toUInt16.toUInt32.toInt32), (z393.toUInt32.toUInt16.toUInt32.toInt32), (44 : Int32), (32 : Int32), (99 : Int32), (105 : Int32), (116 : Int32), (121 : Int32), (61 : Int32), (z394.toUInt32.toUInt16.toUInt32.toInt32), (z395.toUInt32.toUInt16.toUInt32.toInt32), (44 : Int32), (32 : Int32), (105 : Int32), (112 : Int32), (118 : Int32), (54 : Int32), (61 : Int32), (116 : Int32), (114 : Int32), (117 : Int32), (101 : Int32), (93 : Int32)] : List Int32).map StrChars.lo8) (n := 42) g_b459 Z0 E_b459 F_value_b459 F_coder_b459 V_b416 SC hz rfl rfl (by decide) (by decide) (own_rc (by decide) (own_rc (by decide) (own_rc (by decide) (own_rc (by decide) (own_rc (by decide) (own_rc (by decide) (own_rc (by decide) (own_rc (by decide) (own_rc (by decide) (own_rc (by decide) (own_rc (by decide) (own_rc (by decide) (own_rc (by decide) (own_rc (by decide) (own_rc (by decide) (own_rc (by decide) (own_rc (by decide) (own_rc (by decide) (own_rc (by decide) (own_rc (own_charz hz392) (own_rc (own_charz hz393) (own_rc (by decide) (own_rc (by decide) (own_rc (by decide) (own_rc (by decide) (own_rc (by decide) (own_rc (by decide) (own_rc (by decide) (own_rc (own_charz hz394) (own_rc (own_charz hz395) (own_rc (by decide) (own_rc (by decide) (own_rc (by decide) (own_rc (by decide) (own_rc (by decide) (own_rc (by decide) (own_rc (by decide) (own_rc (by decide) (own_rc (by decide) (own_rc (by decide) (own_rc (by decide) (own_rc (by decide) own_rn)))))))))))))))))))))))))))))))))))))))))) rfl (by decide) (by decide)) (g := (mkF m 682 (lo0_19 p1 p2 p3 p4 z392 z393 z394 z395 z396 z397 b398 b403 b408 b415 b416) [.ref b416, .ref b459, .ref b459, .ref b415])) rfl (by rw [hml]; rfl) (Steps.refl _) (a := b459) (argsL := [.ref b416]) (rest := [.ref b459, .ref b415]) (lenOf pd_22 rfl) rfl (wz rfl) (hb hby at_682) (fun _ _ => ⟨rfl, e459, (by decide : 26 + 1 ≤ _), (by decide : 396 + 42 ≤ _)⟩)
    dsimp only [Pt.U, Pt.locs, Pt.cells, Pt.slots] at X460 l460 y460 z460 st460 hQ460
    rw [l460, y460, z460] at X460
    obtain ⟨h460, e460⟩ : ∃ z, T460.heap = z := ⟨_, rfl⟩
    rw [e460] at hQ460
    obtain ⟨rfl, N460q, K460, G460E, G460C, B460, kb460, -, szn460, -, G460V, G460A⟩ := hQ460
    have g_B460 : n0 ≤ B460 := Nat.le_trans Z0 szn460
    have ne_b415_B460 : b415 ≠ B460 := Nat.ne_of_lt (Nat.lt_of_lt_of_le E_b415.lt szn460)
    have ne_B415_B460 : B415 ≠ B460 := Nat.ne_of_lt (Nat.lt_of_lt_of_le V_B415.lt szn460)
    have ne_b416_B460 : b416 ≠ B460 := Nat.ne_of_lt (Nat.lt_of_lt_of_le V_b416.lt szn460)
    have ne_b459_B460 : b459 ≠ B460 := Nat.ne_of_lt (Nat.lt_of_lt_of_le E_b459.lt szn460)
    replace SC := own_stakeep SC K460 (nsS (Exa.nostat E_b459) ns0)
    replace E_b415 := E_b415.keep K460
    replace F_coder_b415 := F_coder_b415.keep K460 (ninS ne_b415_b459 nin0)
    replace F_value_b415 := F_value_b415.keep K460 (ninS ne_b415_b459 nin0)
    replace V_B415 := V_B415.keep K460 (ninS ne_B415_b459 nin0)
    replace V_b416 := V_b416.keep K460 (ninS ne_b416_b459 nin0)
    replace E_b459 := E_b459.keep K460
    replace Z0 := Nat.le_trans Z0 K460.1
    replace hk := Nat.le_trans hk K460.1
    have F_coder_b459 : GC Z h460 b459 (.int 0) := G460C
    have F_value_b459 : GV Z h460 b459 (.ref B460) := G460V
    have V_B460 : Arv Z h460 B460 kb460 .byte (42 : Int32) (LB ([(80 : Int32), (114 : Int32), (111 : Int32), (98 : Int32), (101 : Int32), (83 : Int32), (101 : Int32), (116 : Int32), (116 : Int32), (105 : Int32), (110 : Int32), (103 : Int32), (115 : Int32), (91 : Int32), (110 : Int32), (97 : Int32), (109 : Int32), (101 : Int32), (61 : Int32), (z392.toUInt32.toUInt16.toUInt32.toInt32), (z393.toUInt32.toUInt16.toUInt32.toInt32), (44 : Int32), (32 : Int32), (99 : Int32), (105 : Int32), (116 : Int32), (121 : Int32), (61 : Int32), (z394.toUInt32.toUInt16.toUInt32.toInt32), (z395.toUInt32.toUInt16.toUInt32.toInt32), (44 : Int32), (32 : Int32), (105 : Int32), (112 : Int32), (118 : Int32), (54 : Int32), (61 : Int32), (116 : Int32), (114 : Int32), (117 : Int32), (101 : Int32), (93 : Int32)] : List Int32)) (.int 0) := G460A
    have N460 := Fr.app N458 N460q
    have rg462 : RGs ([(80 : Int32), (114 : Int32), (111 : Int32), (98 : Int32), (101 : Int32), (83 : Int32), (101 : Int32), (116 : Int32), (116 : Int32), (105 : Int32), (110 : Int32), (103 : Int32), (115 : Int32), (91 : Int32), (110 : Int32), (97 : Int32), (109 : Int32), (101 : Int32), (61 : Int32), (z392.toUInt32.toUInt16.toUInt32.toInt32), (z393.toUInt32.toUInt16.toUInt32.toInt32), (44 : Int32), (32 : Int32), (99 : Int32), (105 : Int32), (116 : Int32), (121 : Int32), (61 : Int32), (z394.toUInt32.toUInt16.toUInt32.toInt32), (z395.toUInt32.toUInt16.toUInt32.toInt32), (44 : Int32), (32 : Int32), (105 : Int32), (112 : Int32), (118 : Int32), (54 : Int32), (61 : Int32), (116 : Int32), (114 : Int32), (117 : Int32), (101 : Int32), (93 : Int32)] : List Int32) := (own_rc (by decide) (own_rc (by decide) (own_rc (by decide) (own_rc (by decide) (own_rc (by decide) (own_rc (by decide) (own_rc (by decide) (own_rc (by decide) (own_rc (by decide) (own_rc (by decide) (own_rc (by decide) (own_rc (by decide) (own_rc (by decide) (own_rc (by decide) (own_rc (by decide) (own_rc (by decide) (own_rc (by decide) (own_rc (by decide) (own_rc (by decide) (own_rc (own_charz hz392) (own_rc (own_charz hz393) (own_rc (by decide) (own_rc (by decide) (own_rc (by decide) (own_rc (by decide) (own_rc (by decide) (own_rc (by decide) (own_rc (by decide) (own_rc (own_charz hz394) (own_rc (own_charz hz395) (own_rc (by decide) (own_rc (by decide) (own_rc (by decide) (own_rc (by decide) (own_rc (by decide) (own_rc (by decide) (own_rc (by decide) (own_rc (by decide) (own_rc (by decide) (own_rc (by decide) (own_rc (by decide) (own_rc (by decide) own_rn))))))))))))))))))))))))))))))))))))))))))
    obtain ⟨cq461, kq461, q461a, q461b, q461c⟩ := isOf hZ e460 E_b415
    obtain ⟨_, _, ⟨T461, _, _, _⟩, -, X461, ⟨_, hQ461, l461, y461, z461⟩, st461⟩ := X460.virtualBack hx (y := mn31) (z := mn31) hown (mvT hZ (ww hw 198 rfl)) (mvT hZ (ww hw 199 rfl)) (notFace_of_selects (args := #[]) (mvT hZ (ww hw 201 rfl))) (mvT hZ (ww hw 201 rfl)) (mvT hZ (ww hw 200 rfl)) (by decide) (StrChars.Road.eqW (W := 0) hZ heq (kI := 4) (ww hw 1 rfl) E_b415 F_value_b415 F_coder_b415 V_B415 (own_cod (n := 42) rfl rg462) (own_up rg462) (Nat.le_of_ble_eq_true rfl) E_b459 F_value_b459 F_coder_b459 V_B460 (own_cod (n := 42) rfl rg462) (own_up rg462) (Nat.le_of_ble_eq_true rfl) SC hz (by decide) (by decide)) q461a q461c (g := (mkF m 685 (lo0_19 p1 p2 p3 p4 z392 z393 z394 z395 z396 z397 b398 b403 b408 b415 b416) [.ref b459, .ref b415])) rfl (by rw [hml]; rfl) (Steps.refl _) (argsL := [.ref b459]) (rest := []) (lenOf pd_24 rfl) rfl (wz rfl) (hb hby at_685) (fun _ _ => ⟨rfl, e460, (by decide : 27 + 0 ≤ _), (by decide : 438 + 0 ≤ _)⟩)
    dsimp only [Pt.U, Pt.locs, Pt.cells, Pt.slots] at X461 l461 y461 z461 st461 hQ461
    rw [l461, y461, z461] at X461
    obtain ⟨hv461, rfl, e461⟩ := hQ461
    obtain rfl := own_eqv hv461 rfl
    have N461q := Fr.nil n0
    have N461 := Fr.app N460 N461q
    obtain ⟨fs, hr, hrun, hended, hEW⟩ := X461.leaveW hS (by rw [e461]; exact hk) (v := some (.int 1)) (fun h => by rw [Bd.returns] at h; cases h)
    refine ⟨_, _, pre391 _ ?_, hrun, hended, _, _, rfl, ?_, hEW.1, hEW.2.1, hEW.2.2.1, hEW.2.2.2.mono (by decide) (by decide)⟩
    · refine st398 _ ?_
      show SP p e below T398 (mkF m 73 (lo0_14 p1 p2 p3 p4 z392 z393 z394 z395 z396 z397) [.ref b398]) _
      refine y_dup X398 hx hby at_73 rfl ?_
      refine y_iconst X398 hx hby (v := (2 : Int32)) at_74 rfl ?_
      refine st399 _ ?_
      show SP p e below T399 (mkF m 77 (lo0_14 p1 p2 p3 p4 z392 z393 z394 z395 z396 z397) [.ref b399, .ref b398, .ref b398]) _
      refine y_dup X399 hx hby at_77 rfl ?_
      refine y_iconst X399 hx hby (v := (0 : Int32)) at_78 rfl ?_
      refine y_iload X399 hx hby at_79 rfl ?_
      refine st400 _ ?_
      refine y_dup X400 hx hby at_82 rfl ?_
      refine y_iconst X400 hx hby (v := (1 : Int32)) at_83 rfl ?_
      refine y_iload X400 hx hby at_84 rfl ?_
      refine st401 _ ?_
      refine st402.trans ?_
      show SP p e below T402 (mkF m 90 (lo0_14 p1 p2 p3 p4 z392 z393 z394 z395 z396 z397) [.ref b398]) _
      refine y_astore X402 hx hby at_90 rfl (l' := (lo0_15 p1 p2 p3 p4 z392 z393 z394 z395 z396 z397 b398)) rfl ?_
      refine st403 _ ?_
      show SP p e below T403 (mkF m 95 (lo0_15 p1 p2 p3 p4 z392 z393 z394 z395 z396 z397 b398) [.ref b403]) _
      refine y_dup X403 hx hby at_95 rfl ?_
      refine y_iconst X403 hx hby (v := (2 : Int32)) at_96 rfl ?_
      refine st404 _ ?_
      show SP p e below T404 (mkF m 99 (lo0_15 p1 p2 p3 p4 z392 z393 z394 z395 z396 z397 b398) [.ref b404, .ref b403, .ref b403]) _
      refine y_dup X404 hx hby at_99 rfl ?_
      refine y_iconst X404 hx hby (v := (0 : Int32)) at_100 rfl ?_
      refine y_iload X404 hx hby at_101 rfl ?_
      refine st405 _ ?_
      refine y_dup X405 hx hby at_104 rfl ?_
      refine y_iconst X405 hx hby (v := (1 : Int32)) at_105 rfl ?_
      refine y_iload X405 hx hby at_106 rfl ?_
      refine st406 _ ?_
      refine st407.trans ?_
      show SP p e below T407 (mkF m 112 (lo0_15 p1 p2 p3 p4 z392 z393 z394 z395 z396 z397 b398) [.ref b403]) _
      refine y_astore X407 hx hby at_112 rfl (l' := (lo0_16 p1 p2 p3 p4 z392 z393 z394 z395 z396 z397 b398 b403)) rfl ?_
      refine st408 _ ?_
      show SP p e below T408 (mkF m 117 (lo0_16 p1 p2 p3 p4 z392 z393 z394 z395 z396 z397 b398 b403) [.ref b408]) _
      refine y_dup X408 hx hby at_117 rfl ?_
      refine y_iconst X408 hx hby (v := (2 : Int32)) at_118 rfl ?_
      refine st409 _ ?_
      show SP p e below T409 (mkF m 121 (lo0_16 p1 p2 p3 p4 z392 z393 z394 z395 z396 z397 b398 b403) [.ref b409, .ref b408, .ref b408]) _
      refine y_dup X409 hx hby at_121 rfl ?_
      refine y_iconst X409 hx hby (v := (0 : Int32)) at_122 rfl ?_
      refine y_iload X409 hx hby at_123 rfl ?_
      refine st410 _ ?_
      refine y_dup X410 hx hby at_126 rfl ?_
      refine y_iconst X410 hx hby (v := (1 : Int32)) at_127 rfl ?_
      refine y_iload X410 hx hby at_128 rfl ?_
      refine st411 _ ?_
      refine st412.trans ?_
      show SP p e below T412 (mkF m 134 (lo0_16 p1 p2 p3 p4 z392 z393 z394 z395 z396 z397 b398 b403) [.ref b408]) _
      refine y_astore X412 hx hby at_134 rfl (l' := (lo0_17 p1 p2 p3 p4 z392 z393 z394 z395 z396 z397 b398 b403 b408)) rfl ?_
      refine st413 _ ?_
      show SP p e below T413 (mkF m 139 (lo0_17 p1 p2 p3 p4 z392 z393 z394 z395 z396 z397 b398 b403 b408) [.ref b413]) _
      refine y_dup X413 hx hby at_139 rfl ?_
      refine y_aload X413 hx hby at_140 rfl rfl ?_
      refine y_aload X413 hx hby at_142 rfl rfl ?_
      refine y_aload X413 hx hby at_144 rfl rfl ?_
      refine y_iload X413 hx hby at_146 rfl ?_
      refine st414.trans ?_
      show SP p e below T414 (mkF m 151 (lo0_17 p1 p2 p3 p4 z392 z393 z394 z395 z396 z397 b398 b403 b408) [.ref b413]) _
      refine st415.trans ?_
      show SP p e below T415 (mkF m 154 (lo0_17 p1 p2 p3 p4 z392 z393 z394 z395 z396 z397 b398 b403 b408) [.ref b415]) _
      refine y_astore X415 hx hby at_154 rfl (l' := (lo0_18 p1 p2 p3 p4 z392 z393 z394 z395 z396 z397 b398 b403 b408 b415)) rfl ?_
      refine y_iload X415 hx hby at_156 rfl ?_
      refine y_ifNo X415 hx hby at_158 ((if0 _ _).trans (feq (by decide)).1) ?_
      refine y_bipush X415 hx hby (v := (42 : Int32)) at_161 rfl ?_
      refine st416 _ ?_
      show SP p e below T416 (mkF m 165 (lo0_18 p1 p2 p3 p4 z392 z393 z394 z395 z396 z397 b398 b403 b408 b415) [.ref b416]) _
      refine y_dup X416 hx hby at_165 rfl ?_
      refine y_iconst X416 hx hby (v := (0 : Int32)) at_166 rfl ?_
      refine y_bipush X416 hx hby (v := (80 : Int32)) at_167 rfl ?_
      refine st417 _ ?_
      refine y_dup X417 hx hby at_170 rfl ?_
      refine y_iconst X417 hx hby (v := (1 : Int32)) at_171 rfl ?_
      refine y_bipush X417 hx hby (v := (114 : Int32)) at_172 rfl ?_
      refine st418 _ ?_
      refine y_dup X418 hx hby at_175 rfl ?_
      refine y_iconst X418 hx hby (v := (2 : Int32)) at_176 rfl ?_
      refine y_bipush X418 hx hby (v := (111 : Int32)) at_177 rfl ?_
      refine st419 _ ?_
      refine y_dup X419 hx hby at_180 rfl ?_
      refine y_iconst X419 hx hby (v := (3 : Int32)) at_181 rfl ?_
      refine y_bipush X419 hx hby (v := (98 : Int32)) at_182 rfl ?_
      refine st420 _ ?_
      refine y_dup X420 hx hby at_185 rfl ?_
      refine y_iconst X420 hx hby (v := (4 : Int32)) at_186 rfl ?_
      refine y_bipush X420 hx hby (v := (101 : Int32)) at_187 rfl ?_
      refine st421 _ ?_
      refine y_dup X421 hx hby at_190 rfl ?_
      refine y_iconst X421 hx hby (v := (5 : Int32)) at_191 rfl ?_
      refine y_bipush X421 hx hby (v := (83 : Int32)) at_192 rfl ?_
      refine st422 _ ?_
      refine y_dup X422 hx hby at_195 rfl ?_
      refine y_bipush X422 hx hby (v := (6 : Int32)) at_196 rfl ?_
      refine y_bipush X422 hx hby (v := (101 : Int32)) at_198 rfl ?_
      refine st423 _ ?_
      refine y_dup X423 hx hby at_201 rfl ?_
      refine y_bipush X423 hx hby (v := (7 : Int32)) at_202 rfl ?_
      refine y_bipush X423 hx hby (v := (116 : Int32)) at_204 rfl ?_
      refine st424 _ ?_
      refine y_dup X424 hx hby at_207 rfl ?_
      refine y_bipush X424 hx hby (v := (8 : Int32)) at_208 rfl ?_
      refine y_bipush X424 hx hby (v := (116 : Int32)) at_210 rfl ?_
      refine st425 _ ?_
      refine y_dup X425 hx hby at_213 rfl ?_
      refine y_bipush X425 hx hby (v := (9 : Int32)) at_214 rfl ?_
      refine y_bipush X425 hx hby (v := (105 : Int32)) at_216 rfl ?_
      refine st426 _ ?_
      refine y_dup X426 hx hby at_219 rfl ?_
      refine y_bipush X426 hx hby (v := (10 : Int32)) at_220 rfl ?_
      refine y_bipush X426 hx hby (v := (110 : Int32)) at_222 rfl ?_
      refine st427 _ ?_
      refine y_dup X427 hx hby at_225 rfl ?_
      refine y_bipush X427 hx hby (v := (11 : Int32)) at_226 rfl ?_
      refine y_bipush X427 hx hby (v := (103 : Int32)) at_228 rfl ?_
      refine st428 _ ?_
      refine y_dup X428 hx hby at_231 rfl ?_
      refine y_bipush X428 hx hby (v := (12 : Int32)) at_232 rfl ?_
      refine y_bipush X428 hx hby (v := (115 : Int32)) at_234 rfl ?_
      refine st429 _ ?_
      refine y_dup X429 hx hby at_237 rfl ?_
      refine y_bipush X429 hx hby (v := (13 : Int32)) at_238 rfl ?_
      refine y_bipush X429 hx hby (v := (91 : Int32)) at_240 rfl ?_
      refine st430 _ ?_
      refine y_dup X430 hx hby at_243 rfl ?_
      refine y_bipush X430 hx hby (v := (14 : Int32)) at_244 rfl ?_
      refine y_bipush X430 hx hby (v := (110 : Int32)) at_246 rfl ?_
      refine st431 _ ?_
      refine y_dup X431 hx hby at_249 rfl ?_
      refine y_bipush X431 hx hby (v := (15 : Int32)) at_250 rfl ?_
      refine y_bipush X431 hx hby (v := (97 : Int32)) at_252 rfl ?_
      refine st432 _ ?_
      refine y_dup X432 hx hby at_255 rfl ?_
      refine y_bipush X432 hx hby (v := (16 : Int32)) at_256 rfl ?_
      refine y_bipush X432 hx hby (v := (109 : Int32)) at_258 rfl ?_
      refine st433 _ ?_
      refine y_dup X433 hx hby at_261 rfl ?_
      refine y_bipush X433 hx hby (v := (17 : Int32)) at_262 rfl ?_
      refine y_bipush X433 hx hby (v := (101 : Int32)) at_264 rfl ?_
      refine st434 _ ?_
      refine y_dup X434 hx hby at_267 rfl ?_
      refine y_bipush X434 hx hby (v := (18 : Int32)) at_268 rfl ?_
      refine y_bipush X434 hx hby (v := (61 : Int32)) at_270 rfl ?_
      refine st435 _ ?_
      refine y_dup X435 hx hby at_273 rfl ?_
      refine y_bipush X435 hx hby (v := (19 : Int32)) at_274 rfl ?_
      refine y_iload X435 hx hby at_276 rfl ?_
      refine st436 _ ?_
      refine y_dup X436 hx hby at_279 rfl ?_
      refine y_bipush X436 hx hby (v := (20 : Int32)) at_280 rfl ?_
      refine y_iload X436 hx hby at_282 rfl ?_
      refine st437 _ ?_
      refine y_dup X437 hx hby at_285 rfl ?_
      refine y_bipush X437 hx hby (v := (21 : Int32)) at_286 rfl ?_
      refine y_bipush X437 hx hby (v := (44 : Int32)) at_288 rfl ?_
      refine st438 _ ?_
      refine y_dup X438 hx hby at_291 rfl ?_
      refine y_bipush X438 hx hby (v := (22 : Int32)) at_292 rfl ?_
      refine y_bipush X438 hx hby (v := (32 : Int32)) at_294 rfl ?_
      refine st439 _ ?_
      refine y_dup X439 hx hby at_297 rfl ?_
      refine y_bipush X439 hx hby (v := (23 : Int32)) at_298 rfl ?_
      refine y_bipush X439 hx hby (v := (99 : Int32)) at_300 rfl ?_
      refine st440 _ ?_
      refine y_dup X440 hx hby at_303 rfl ?_
      refine y_bipush X440 hx hby (v := (24 : Int32)) at_304 rfl ?_
      refine y_bipush X440 hx hby (v := (105 : Int32)) at_306 rfl ?_
      refine st441 _ ?_
      refine y_dup X441 hx hby at_309 rfl ?_
      refine y_bipush X441 hx hby (v := (25 : Int32)) at_310 rfl ?_
      refine y_bipush X441 hx hby (v := (116 : Int32)) at_312 rfl ?_
      refine st442 _ ?_
      refine y_dup X442 hx hby at_315 rfl ?_
      refine y_bipush X442 hx hby (v := (26 : Int32)) at_316 rfl ?_
      refine y_bipush X442 hx hby (v := (121 : Int32)) at_318 rfl ?_
      refine st443 _ ?_
      refine y_dup X443 hx hby at_321 rfl ?_
      refine y_bipush X443 hx hby (v := (27 : Int32)) at_322 rfl ?_
      refine y_bipush X443 hx hby (v := (61 : Int32)) at_324 rfl ?_
      refine st444 _ ?_
      refine y_dup X444 hx hby at_327 rfl ?_
      refine y_bipush X444 hx hby (v := (28 : Int32)) at_328 rfl ?_
      refine y_iload X444 hx hby at_330 rfl ?_
      refine st445 _ ?_
      refine y_dup X445 hx hby at_333 rfl ?_
      refine y_bipush X445 hx hby (v := (29 : Int32)) at_334 rfl ?_
      refine y_iload X445 hx hby at_336 rfl ?_
      refine st446 _ ?_
      refine y_dup X446 hx hby at_339 rfl ?_
      refine y_bipush X446 hx hby (v := (30 : Int32)) at_340 rfl ?_
      refine y_bipush X446 hx hby (v := (44 : Int32)) at_342 rfl ?_
      refine st447 _ ?_
      refine y_dup X447 hx hby at_345 rfl ?_
      refine y_bipush X447 hx hby (v := (31 : Int32)) at_346 rfl ?_
      refine y_bipush X447 hx hby (v := (32 : Int32)) at_348 rfl ?_
      refine st448 _ ?_
      refine y_dup X448 hx hby at_351 rfl ?_
      refine y_bipush X448 hx hby (v := (32 : Int32)) at_352 rfl ?_
      refine y_bipush X448 hx hby (v := (105 : Int32)) at_354 rfl ?_
      refine st449 _ ?_
      refine y_dup X449 hx hby at_357 rfl ?_
      refine y_bipush X449 hx hby (v := (33 : Int32)) at_358 rfl ?_
      refine y_bipush X449 hx hby (v := (112 : Int32)) at_360 rfl ?_
      refine st450 _ ?_
      refine y_dup X450 hx hby at_363 rfl ?_
      refine y_bipush X450 hx hby (v := (34 : Int32)) at_364 rfl ?_
      refine y_bipush X450 hx hby (v := (118 : Int32)) at_366 rfl ?_
      refine st451 _ ?_
      refine y_dup X451 hx hby at_369 rfl ?_
      refine y_bipush X451 hx hby (v := (35 : Int32)) at_370 rfl ?_
      refine y_bipush X451 hx hby (v := (54 : Int32)) at_372 rfl ?_
      refine st452 _ ?_
      refine y_dup X452 hx hby at_375 rfl ?_
      refine y_bipush X452 hx hby (v := (36 : Int32)) at_376 rfl ?_
      refine y_bipush X452 hx hby (v := (61 : Int32)) at_378 rfl ?_
      refine st453 _ ?_
      refine y_dup X453 hx hby at_381 rfl ?_
      refine y_bipush X453 hx hby (v := (37 : Int32)) at_382 rfl ?_
      refine y_bipush X453 hx hby (v := (116 : Int32)) at_384 rfl ?_
      refine st454 _ ?_
      refine y_dup X454 hx hby at_387 rfl ?_
      refine y_bipush X454 hx hby (v := (38 : Int32)) at_388 rfl ?_
      refine y_bipush X454 hx hby (v := (114 : Int32)) at_390 rfl ?_
      refine st455 _ ?_
      refine y_dup X455 hx hby at_393 rfl ?_
      refine y_bipush X455 hx hby (v := (39 : Int32)) at_394 rfl ?_
      refine y_bipush X455 hx hby (v := (117 : Int32)) at_396 rfl ?_
      refine st456 _ ?_
      refine y_dup X456 hx hby at_399 rfl ?_
      refine y_bipush X456 hx hby (v := (40 : Int32)) at_400 rfl ?_
      refine y_bipush X456 hx hby (v := (101 : Int32)) at_402 rfl ?_
      refine st457 _ ?_
      refine y_dup X457 hx hby at_405 rfl ?_
      refine y_bipush X457 hx hby (v := (41 : Int32)) at_406 rfl ?_
      refine y_bipush X457 hx hby (v := (93 : Int32)) at_408 rfl ?_
      refine st458 _ ?_
      refine y_astore X458 hx hby at_411 rfl (l' := (lo0_19 p1 p2 p3 p4 z392 z393 z394 z395 z396 z397 b398 b403 b408 b415 b416)) rfl ?_
      refine y_goto X458 hx hby (pc' := 674) at_413 (by decide) (by decide) ?_
      refine y_aload X458 hx hby at_674 rfl rfl ?_
      refine st459 _ ?_
      show SP p e below T459 (mkF m 679 (lo0_19 p1 p2 p3 p4 z392 z393 z394 z395 z396 z397 b398 b403 b408 b415 b416) [.ref b459, .ref b415]) _
      refine y_dup X459 hx hby at_679 rfl ?_
      refine y_aload X459 hx hby at_680 rfl rfl ?_
      refine st460.trans ?_
      show SP p e below T460 (mkF m 685 (lo0_19 p1 p2 p3 p4 z392 z393 z394 z395 z396 z397 b398 b403 b408 b415 b416) [.ref b459, .ref b415]) _
      refine st461.trans ?_
      show Steps p.tables e below (T461.setTop (mkF m 688 (lo0_19 p1 p2 p3 p4 z392 z393 z394 z395 z396 z397 b398 b403 b408 b415 b416) [.int 1])) _
      exact retN X461 hx (t := .boolean) Bd.returns (by simp) (hb hby at_688) hr
    · exact ⟨rfl, N461⟩
set_option maxRecDepth 65536 in
set_option maxHeartbeats 40000000 in
theorem comes_1 {Post : Tables → Env → Array Value → State → Outcome → State → Prop} (hpost : ∀ tb e args s v u, (limb_1_1.after args s (.returned v) u = true ∧ limb_1_2.after args s (.returned v) u = true ∧ True) → ReturnedEndW s (.returned v) u (Jvm.fieldLocs frame_1_writes args s ++ Jvm.arrayLocs frame_1_arrays args s ++ Jvm.staticLocs frame_1_statics s) 56 4800 → Post tb e args s (.returned v) u) :
    ArmFor flags0 classFile x code maxLocals ret World_1 tables_1 room_1 Calls_1 rest_1 Pre_1 Post := by
  intro l hfl _ _ p e ha hc hk s m args below hf hA hF happ hP
  obtain ⟨hcalls, hrest, hpre⟩ := hP
  obtain ⟨-, -, -, hnamed, -, -, -, hat⟩ := (Spec.applies_iff hf).mp happ
  obtain ⟨hg, hn⟩ := and_e (Cond.before_iff.mp (show (Jvm.Cond.and given_1 narrow_1).before args s = true from hpre))
  obtain ⟨gc, gr0⟩ := and_e hg
  obtain ⟨g0, gr1⟩ := and_e gr0
  obtain ⟨g1, gr2⟩ := and_e gr1
  obtain ⟨g2, gr3⟩ := and_e gr2
  obtain ⟨w0, w1, w2, w3, rfl⟩ : ∃ w0 w1 w2 w3 : Value, args = #[w0, w1, w2, w3] := by
    have hs : args.size = 4 := by simpa [Cond.value, given_1] using gc
    obtain ⟨L⟩ := args
    match L, hs with
    | [w0, w1, w2, w3], _ => exact ⟨w0, w1, w2, w3, rfl⟩
  have hw := fun d (hd : d ∈ tables_1) => atoms_spec (ws := Jvm.Cond.code x code maxLocals ret :: tables_1) hat d (List.mem_cons_of_mem _ hd)
  have hfit : Fit s := fun {y c} hc i hi => by
    obtain ⟨ha, rfl⟩ := Array.getElem?_eq_some_iff.mp hc
    have q := List.all_eq_true.mp ((Array.all_eq_true_iff_forall_mem.mp hF) _ (Array.getElem_mem ha)) i (List.mem_range.mpr hi)
    simpa [Array.getElem?_eq_getElem hi] using q
  obtain ⟨hsets, hown0⟩ := atoms_of _ (rest_1_c_eq ▸ (show rest_1_c.before _ s = true from hrest))
  have hr0 := Cond.before_iff.mp hown0
  obtain ⟨i0, ei0⟩ := is_v g0
  obtain rfl : w0 = (.int i0) := Option.some.inj ei0
  obtain ⟨i1, ei1⟩ := is_v g1
  obtain rfl : w1 = (.int i1) := Option.some.inj ei1
  obtain ⟨i2, ei2⟩ := is_v g2
  obtain rfl : w2 = (.int i2) := Option.some.inj ei2
  obtain ⟨i3, ei3⟩ := is_v gr3
  obtain rfl : w3 = (.int i3) := Option.some.inj ei3
  obtain ⟨wC, eC⟩ := is_v (Cond.before_iff.mp (hsets _ (List.mem_of_getElem? (i := 1) rfl)))
  have SC : SS s s.heap wC := Sta.start eC (Or.inl (hsets _ (List.mem_of_getElem? (i := 0) rfl)))
  have hz : ¬ wC = 0 := own_nz (Cond.before_iff.mp (hsets _ (List.mem_of_getElem? (i := 2) rfl))) eC
  have hCH : CHv s consts_1 s.vm s.heap := CHv.start (own_EW hw) (fun p hp => hcalls.1 p hp) (hsets _ (List.mem_of_getElem? (i := 2) rfl)) (ww hw 19 rfl) (ww hw 1 rfl)
  obtain ⟨n, o, h1, h2, h3, _, L, rfl, ⟨rfl, N⟩, hq⟩ := rm0 l s _ hw tables_1 i0 i1 i2 i3 wC s.heap s.heap.size (Nat.le_refl _) SC hz p e ha hc hk s m _ below hf ((Spec.applies_iff_loose hf).mp happ).1 ⟨rfl, State.Warmed39.refl s, rfl, hCH⟩ trivial
  refine ⟨n, _, h1, h2, h3, hpost _ _ _ _ _ _ ⟨Cond.after_iff.mpr rfl, Cond.after_iff.mpr (eq_i res_at (Term.int_eval (1)) rfl), trivial⟩ ⟨hq.1, hq.2.1, hq.2.2.1, (hq.2.2.2.sift fun y hy => Or.inr (N y hy)).mono (by decide) (by decide)⟩⟩
theorem main_1_1 : Claimed_1_1 := comes_1 fun _ _ _ _ _ _ h hF => ⟨h.1, hF⟩
theorem main_1_2 : Claimed_1_2 := comes_1 fun _ _ _ _ _ _ h hF => ⟨h.2.1, hF⟩
end Jvm.Pilot.@@N@@
namespace Jvm.Pilot.@@N@@
open Jvm Jvm.ClassFile Sem Op Lib Jvm.Free Jvm.Stand Jvm.Pilot.@@N@@.Jvm.D
/-! MADE BY PROGRAM (witnessworld.py) out of the Statement's table words and the real class files: 27 classes; the members and pool entries that the words name. The judged class is class 1, her method 1. -/
namespace start1
open Jvm.ClassFile
def u (s : String) : CpInfo := .utf8 (stringToUtf16 s)
/-- a pool by its gaps: so many unusable entries, then the entry; so many at the end -/
def gap : Nat → List CpInfo → List CpInfo
  | 0, r => r
  | n + 1, r => .unusable :: gap n r
def poolList (es : List (Nat × CpInfo)) (last : Nat) : List CpInfo := es.foldr (fun e r => gap e.1 (e.2 :: r)) (gap last [])
def pool (es : List (Nat × CpInfo)) (last : Nat) : Array CpInfo := ⟨poolList es last⟩
def fileOf (pool : Array CpInfo) (this : Nat) (attrs : Array Attribute := #[]) (ms : Array MethodInfo := #[]) (fl : Nat := 33) (sup : Nat := 0) (ifs : Array Nat := #[]) (fds : Array FieldInfo := #[]) : ClassFile where
  minorVersion := 0
  majorVersion := 65
  constantPool := pool
  accessFlags := fl
  thisClass := this
  superClass := sup
  interfaces := ifs
  fields := fds
  methods := ms
  attributes := attrs
def plain (name : String) (sup : Option ClassId) : Class where
  name := name
  kind := .ordinary
  loader := none
  accessFlags := 33
  super := sup
  interfaces := #[]
  cf := none
  fields := #[]
  methods := #[]
  instanceTypes := #[]
  staticTypes := #[]
  resolved := #[]
  callSites := []
  init := .initialized
  statics := none
  mirror := none

def pool0 : Array CpInfo := pool [(5, u "<init>"), (0, u "()V"), (1, .class_ 10), (1, u "java/lang/Object")] 113

def k0c0 : Code := { maxStack := 0, maxLocals := 1, code := object_method_1_code, exceptionTable := #[], attributes := #[] }
def k0m0 : Method := { name := "<init>", desc := "()V", sig := { parameters := [], returnType := none }, accessFlags := 1, code := some k0c0 }
/-- java/lang/Object -/
def k0 : Class := { plain "java/lang/Object" none with
  accessFlags := 33
  interfaces := #[]
  cf := some (fileOf pool0 8 #[] #[{ accessFlags := 1, nameIndex := 5, descriptorIndex := 6, attributes := #[] }] 33 0 #[] #[])
  fields := #[]
  methods := #[k0m0]
  instanceTypes := #[]
  staticTypes := #[]
  resolved := Array.replicate 124 none
  statics := none }

def pool1 : Array CpInfo := pool [(2, .class_ 4), (1, u "java/lang/Object"), (0, u "<init>"), (0, u "()V"), (0, .class_ 8), (0, u "java/lang/String"), (0, .methodref 7 10), (0, .nameAndType 5 11), (0, u "([C)V"), (0, .class_ 13), (0, u "com/example/assay/assay/config/ProbeSettings"), (0, .methodref 12 15), (0, .nameAndType 5 16), (0, u "(Ljava/lang/String;Ljava/lang/String;Ljava/lang/String;Z)V"), (0, .methodref 12 18), (0, .nameAndType 19 20), (0, u "toString"), (0, u "()Ljava/lang/String;"), (0, .methodref 7 22), (0, .nameAndType 23 24), (0, u "equals"), (0, u "(Ljava/lang/Object;)Z"), (0, .class_ 26), (0, u "com/example/assay/assay/config/ProbeSettingsToStringPinLaw"), (2, u "law"), (0, u "(IIII)Z")] 5

def k1m0 : Method := { name := "<init>", desc := "()V", sig := { parameters := [], returnType := none }, accessFlags := 1, code := none }
def k1c1 : Code := { maxStack := 6, maxLocals := 16, code := code, exceptionTable := #[], attributes := #[] }
def k1m1 : Method := { name := "law", desc := "(IIII)Z", sig := { parameters := [.int, .int, .int, .int], returnType := some .boolean }, accessFlags := 9, code := some k1c1 }
/-- com/example/assay/assay/config/ProbeSettingsToStringPinLaw -/
def k1 : Class := { plain "com/example/assay/assay/config/ProbeSettingsToStringPinLaw" (some 0) with
  accessFlags := 49
  interfaces := #[]
  cf := some (fileOf pool1 25 #[] #[{ accessFlags := 1, nameIndex := 5, descriptorIndex := 6, attributes := #[] }, { accessFlags := 9, nameIndex := 29, descriptorIndex := 30, attributes := #[] }] 49 2 #[] #[])
  fields := #[]
  methods := #[k1m0, k1m1]
  instanceTypes := #[]
  staticTypes := #[]
  resolved := Array.replicate 36 none
  statics := none }

def pool2 : Array CpInfo := pool [(1, .class_ 2), (0, u "java/io/Serializable"), (0, .class_ 4), (0, u "java/lang/Object")] 2

/-- java/io/Serializable -/
def k2 : Class := { plain "java/io/Serializable" (some 0) with
  accessFlags := 1537
  interfaces := #[]
  cf := some (fileOf pool2 1 #[] #[] 1537 3 #[] #[])
  fields := #[]
  methods := #[]
  instanceTypes := #[]
  staticTypes := #[]
  resolved := Array.replicate 7 none
  statics := none }

def pool3 : Array CpInfo := pool [(1, .class_ 2), (0, u "java/lang/Comparable"), (0, .class_ 4), (0, u "java/lang/Object")] 7

/-- java/lang/Comparable -/
def k3 : Class := { plain "java/lang/Comparable" (some 0) with
  accessFlags := 1537
  interfaces := #[]
  cf := some (fileOf pool3 1 #[] #[] 1537 3 #[] #[])
  fields := #[]
  methods := #[]
  instanceTypes := #[]
  staticTypes := #[]
  resolved := Array.replicate 12 none
  statics := none }

def pool4 : Array CpInfo := pool [(2, .class_ 4), (1, u "java/lang/CharSequence"), (42, .class_ 48), (0, u "java/lang/CharSequence$1CodePointIterator"), (10, .class_ 60), (0, u "java/lang/CharSequence$1CharIterator"), (5, .class_ 67), (0, u "java/lang/Object")] 63

/-- java/lang/CharSequence -/
def k4 : Class := { plain "java/lang/CharSequence" (some 0) with
  accessFlags := 1537
  interfaces := #[]
  cf := some (fileOf pool4 2 #[.nestMembers #[47, 59]] #[] 1537 66 #[] #[])
  fields := #[]
  methods := #[]
  instanceTypes := #[]
  staticTypes := #[]
  resolved := Array.replicate 131 none
  statics := none }

def pool5 : Array CpInfo := pool [(1, .class_ 2), (0, u "java/lang/constant/Constable"), (0, .class_ 4), (0, u "java/lang/Object")] 6

/-- java/lang/constant/Constable -/
def k5 : Class := { plain "java/lang/constant/Constable" (some 0) with
  accessFlags := 1537
  interfaces := #[]
  cf := some (fileOf pool5 1 #[] #[] 1537 3 #[] #[])
  fields := #[]
  methods := #[]
  instanceTypes := #[]
  staticTypes := #[]
  resolved := Array.replicate 11 none
  statics := none }

def pool6 : Array CpInfo := pool [(1, .class_ 2), (0, u "java/lang/constant/ConstantDesc"), (0, .class_ 4), (0, u "java/lang/Object")] 32

/-- java/lang/constant/ConstantDesc -/
def k6 : Class := { plain "java/lang/constant/ConstantDesc" (some 0) with
  accessFlags := 1537
  interfaces := #[]
  cf := some (fileOf pool6 1 #[] #[] 1537 3 #[] #[])
  fields := #[]
  methods := #[]
  instanceTypes := #[]
  staticTypes := #[]
  resolved := Array.replicate 37 none
  statics := none }

def pool7 : Array CpInfo := pool [(1, .methodref 2 3), (0, .class_ 4), (0, .nameAndType 5 6), (0, u "java/lang/Object"), (0, u "<init>"), (0, u "()V"), (2, .fieldref 10 11), (0, .class_ 12), (0, .nameAndType 13 14), (0, u "java/lang/String"), (0, u "value"), (0, u "[B"), (0, .fieldref 10 16), (0, .nameAndType 17 18), (0, u "coder"), (0, u "B"), (2, u "hash"), (0, u "I"), (2, u "hashIsZero"), (0, u "Z"), (0, .methodref 10 28), (0, .nameAndType 5 29), (0, u "([CIILjava/lang/Void;)V"), (8, .fieldref 10 39), (0, .nameAndType 40 26), (0, u "COMPACT_STRINGS"), (1, .class_ 44), (1, u "java/lang/StringUTF16"), (0, u "compress"), (1, .methodref 42 48), (0, .nameAndType 49 50), (0, u "coderFromArrayLen"), (0, u "([BI)B"), (3, .methodref 55 56), (0, .class_ 57), (0, .nameAndType 58 59), (0, u "java/util/Arrays"), (0, u "copyOfRange"), (0, u "([BII)[B"), (47, .class_ 109), (1, u "java/lang/StringLatin1"), (32, u "()Z"), (34, .methodref 42 178), (0, .nameAndType 45 179), (0, u "([CII)[B"), (13, .class_ 195), (1, u "java/lang/System"), (16, .methodref 193 213), (0, .nameAndType 214 215), (0, u "arraycopy"), (0, u "(Ljava/lang/Object;ILjava/lang/Object;II)V"), (118, u "()I"), (0, .methodref 10 336), (0, .nameAndType 17 337), (0, u "()B"), (2, u "()[B"), (148, .methodref 10 490), (0, .nameAndType 5 491), (0, u "(Ljava/lang/AbstractStringBuilder;Ljava/lang/Void;)V"), (1, .nameAndType 494 142), (0, u "isLatin1"), (11, .nameAndType 507 334), (0, u "length"), (24, u "getBytes"), (8, .methodref 107 542), (0, .nameAndType 543 544), (0, u "equals"), (0, u "([B[B)Z"), (4, .methodref 550 506), (0, .class_ 551), (0, u "java/lang/AbstractStringBuilder"), (0, .methodref 550 553), (0, .nameAndType 554 340), (0, u "getValue"), (18, u "(Ljava/lang/Object;)Z"), (1, .class_ 576), (0, u "java/lang/CharSequence"), (22, u "CASE_INSENSITIVE_ORDER"), (0, u "Ljava/util/Comparator;"), (220, u "([BIB)V"), (188, u "([C)V"), (36, .methodref 550 493), (53, u "serialPersistentFields"), (0, u "[Ljava/io/ObjectStreamField;"), (0, .class_ 1104), (0, u "java/lang/String$CaseInsensitiveComparator"), (1, .class_ 1107), (0, u "java/io/Serializable"), (0, .class_ 1109), (0, u "java/lang/Comparable"), (0, .class_ 1111), (0, u "java/lang/constant/Constable"), (0, .class_ 1113), (0, u "java/lang/constant/ConstantDesc"), (2, u "serialVersionUID"), (0, u "J"), (3, u "REPL"), (0, u "C"), (2, u "LATIN1"), (1, u "UTF16"), (105, u "(Ljava/lang/StringBuilder;)V")] 217

def k7m0 : Method := { name := "<init>", desc := "()V", sig := { parameters := [], returnType := none }, accessFlags := 1, code := none }
def k7c1 : Code := { maxStack := 5, maxLocals := 2, code := jdk_42_method_3_code, exceptionTable := #[], attributes := #[] }
def k7m1 : Method := { name := "<init>", desc := "([C)V", sig := { parameters := [(.array .char)], returnType := none }, accessFlags := 1, code := some k7c1 }
def k7c2 : Code := { maxStack := 3, maxLocals := 2, code := jdk_42_method_53_code, exceptionTable := #[], attributes := #[] }
def k7m2 : Method := { name := "<init>", desc := "(Ljava/lang/StringBuilder;)V", sig := { parameters := [(.object "java/lang/StringBuilder")], returnType := none }, accessFlags := 1, code := some k7c2 }
def k7c3 : Code := { maxStack := 2, maxLocals := 1, code := jdk_42_method_54_code, exceptionTable := #[], attributes := #[] }
def k7m3 : Method := { name := "length", desc := "()I", sig := { parameters := [], returnType := some .int }, accessFlags := 1, code := some k7c3 }
def k7c4 : Code := { maxStack := 2, maxLocals := 3, code := jdk_42_method_66_code, exceptionTable := #[], attributes := #[] }
def k7m4 : Method := { name := "equals", desc := "(Ljava/lang/Object;)Z", sig := { parameters := [(.object "java/lang/Object")], returnType := some .boolean }, accessFlags := 1, code := some k7c4 }
def k7c5 : Code := { maxStack := 5, maxLocals := 4, code := jdk_42_method_147_code, exceptionTable := #[], attributes := #[] }
def k7m5 : Method := { name := "getBytes", desc := "([BIB)V", sig := { parameters := [(.array .byte), .int, .byte], returnType := none }, accessFlags := 0, code := some k7c5 }
def k7c6 : Code := { maxStack := 4, maxLocals := 6, code := jdk_42_method_149_code, exceptionTable := #[], attributes := #[] }
def k7m6 : Method := { name := "<init>", desc := "([CIILjava/lang/Void;)V", sig := { parameters := [(.array .char), .int, .int, (.object "java/lang/Void")], returnType := none }, accessFlags := 2, code := some k7c6 }
def k7c7 : Code := { maxStack := 5, maxLocals := 5, code := jdk_42_method_150_code, exceptionTable := #[], attributes := #[] }
def k7m7 : Method := { name := "<init>", desc := "(Ljava/lang/AbstractStringBuilder;Ljava/lang/Void;)V", sig := { parameters := [(.object "java/lang/AbstractStringBuilder"), (.object "java/lang/Void")], returnType := none }, accessFlags := 0, code := some k7c7 }
def k7c8 : Code := { maxStack := 1, maxLocals := 1, code := jdk_42_method_152_code, exceptionTable := #[], attributes := #[] }
def k7m8 : Method := { name := "coder", desc := "()B", sig := { parameters := [], returnType := some .byte }, accessFlags := 0, code := some k7c8 }
/-- java/lang/String -/
def k7 : Class := { plain "java/lang/String" (some 0) with
  accessFlags := 49
  interfaces := #[2, 3, 4, 5, 6]
  cf := some (fileOf pool7 10 #[.nestMembers #[1103]] #[{ accessFlags := 1, nameIndex := 5, descriptorIndex := 6, attributes := #[] }, { accessFlags := 1, nameIndex := 5, descriptorIndex := 1010, attributes := #[] }, { accessFlags := 1, nameIndex := 5, descriptorIndex := 1233, attributes := #[] }, { accessFlags := 1, nameIndex := 507, descriptorIndex := 334, attributes := #[] }, { accessFlags := 1, nameIndex := 543, descriptorIndex := 573, attributes := #[] }, { accessFlags := 0, nameIndex := 532, descriptorIndex := 821, attributes := #[] }, { accessFlags := 2, nameIndex := 5, descriptorIndex := 29, attributes := #[] }, { accessFlags := 0, nameIndex := 5, descriptorIndex := 491, attributes := #[] }, { accessFlags := 0, nameIndex := 17, descriptorIndex := 337, attributes := #[] }] 49 2 #[1106, 1108, 575, 1110, 1112] #[{ accessFlags := 18, nameIndex := 13, descriptorIndex := 14, attributes := #[] }, { accessFlags := 18, nameIndex := 17, descriptorIndex := 18, attributes := #[] }, { accessFlags := 2, nameIndex := 21, descriptorIndex := 22, attributes := #[] }, { accessFlags := 2, nameIndex := 25, descriptorIndex := 26, attributes := #[] }, { accessFlags := 26, nameIndex := 1116, descriptorIndex := 1117, attributes := #[] }, { accessFlags := 24, nameIndex := 40, descriptorIndex := 26, attributes := #[] }, { accessFlags := 26, nameIndex := 1101, descriptorIndex := 1102, attributes := #[] }, { accessFlags := 26, nameIndex := 1121, descriptorIndex := 1122, attributes := #[] }, { accessFlags := 25, nameIndex := 599, descriptorIndex := 600, attributes := #[] }, { accessFlags := 24, nameIndex := 1125, descriptorIndex := 18, attributes := #[] }, { accessFlags := 24, nameIndex := 1127, descriptorIndex := 18, attributes := #[] }])
  fields := #[{ name := "value", type := (.array .byte), accessFlags := 18, slot := 0, constantValue := 0 }, { name := "coder", type := .byte, accessFlags := 18, slot := 1, constantValue := 0 }, { name := "hash", type := .int, accessFlags := 2, slot := 2, constantValue := 0 }, { name := "hashIsZero", type := .boolean, accessFlags := 2, slot := 3, constantValue := 0 }, { name := "serialVersionUID", type := .long, accessFlags := 26, slot := 0, constantValue := 0 }, { name := "COMPACT_STRINGS", type := .boolean, accessFlags := 24, slot := 1, constantValue := 0 }, { name := "serialPersistentFields", type := (.array (.object "java/io/ObjectStreamField")), accessFlags := 26, slot := 2, constantValue := 0 }, { name := "REPL", type := .char, accessFlags := 26, slot := 3, constantValue := 0 }, { name := "CASE_INSENSITIVE_ORDER", type := (.object "java/util/Comparator"), accessFlags := 25, slot := 4, constantValue := 0 }, { name := "LATIN1", type := .byte, accessFlags := 24, slot := 5, constantValue := 0 }, { name := "UTF16", type := .byte, accessFlags := 24, slot := 6, constantValue := 0 }]
  methods := #[k7m0, k7m1, k7m2, k7m3, k7m4, k7m5, k7m6, k7m7, k7m8]
  instanceTypes := #[(.array .byte), .byte, .int, .boolean]
  staticTypes := #[.long, .boolean, (.array (.object "java/io/ObjectStreamField")), .char, (.object "java/util/Comparator"), .byte, .byte]
  resolved := Array.replicate 1451 none
  statics := some 0 }

def pool8 : Array CpInfo := pool [(6, .class_ 8), (1, u "java/lang/Object"), (0, u "<init>"), (0, u "()V"), (1, .class_ 14), (1, u "java/lang/StringUTF16"), (31, u "$assertionsDisabled"), (0, u "Z"), (13, u "HI_BYTE_SHIFT"), (0, u "I"), (2, u "LO_BYTE_SHIFT"), (49, .methodref 12 116), (0, .nameAndType 117 118), (0, u "compress"), (0, u "([CI[BII)I"), (3, u "([CII)[B"), (138, u "coderFromArrayLen"), (0, u "([BI)B"), (106, .class_ 371), (1, u "java/lang/StringUTF16$LinesSpliterator"), (58, u "MAX_LENGTH"), (196, .class_ 628), (0, u "java/lang/StringUTF16$CodePointsSpliterator"), (0, .class_ 630), (0, u "java/lang/StringUTF16$CharsSpliterator")] 4

def k8m0 : Method := { name := "<init>", desc := "()V", sig := { parameters := [], returnType := none }, accessFlags := 0, code := none }
def k8c1 : Code := { maxStack := 2, maxLocals := 2, code := jdk_52_method_15_code, exceptionTable := #[], attributes := #[] }
def k8m1 : Method := { name := "coderFromArrayLen", desc := "([BI)B", sig := { parameters := [(.array .byte), .int], returnType := some .byte }, accessFlags := 8, code := some k8c1 }
def k8c2 : Code := { maxStack := 5, maxLocals := 6, code := jdk_52_method_16_code, exceptionTable := #[], attributes := #[] }
def k8m2 : Method := { name := "compress", desc := "([CII)[B", sig := { parameters := [(.array .char), .int, .int], returnType := some (.array .byte) }, accessFlags := 9, code := some k8c2 }
def k8c3 : Code := { maxStack := 3, maxLocals := 7, code := jdk_52_method_21_code, exceptionTable := #[], attributes := #[] }
def k8m3 : Method := { name := "compress", desc := "([CI[BII)I", sig := { parameters := [(.array .char), .int, (.array .byte), .int, .int], returnType := some .int }, accessFlags := 9, code := some k8c3 }
/-- java/lang/StringUTF16 -/
def k8 : Class := { plain "java/lang/StringUTF16" (some 0) with
  accessFlags := 48
  interfaces := #[]
  cf := some (fileOf pool8 12 #[.nestMembers #[627, 629, 369]] #[{ accessFlags := 0, nameIndex := 9, descriptorIndex := 10, attributes := #[] }, { accessFlags := 8, nameIndex := 261, descriptorIndex := 262, attributes := #[] }, { accessFlags := 9, nameIndex := 117, descriptorIndex := 122, attributes := #[] }, { accessFlags := 9, nameIndex := 117, descriptorIndex := 118, attributes := #[] }] 48 6 #[] #[{ accessFlags := 26, nameIndex := 61, descriptorIndex := 62, attributes := #[] }, { accessFlags := 26, nameIndex := 65, descriptorIndex := 62, attributes := #[] }, { accessFlags := 24, nameIndex := 430, descriptorIndex := 62, attributes := #[] }, { accessFlags := 4120, nameIndex := 46, descriptorIndex := 47, attributes := #[] }])
  fields := #[{ name := "HI_BYTE_SHIFT", type := .int, accessFlags := 26, slot := 0, constantValue := 0 }, { name := "LO_BYTE_SHIFT", type := .int, accessFlags := 26, slot := 1, constantValue := 0 }, { name := "MAX_LENGTH", type := .int, accessFlags := 24, slot := 2, constantValue := 0 }, { name := "$assertionsDisabled", type := .boolean, accessFlags := 4120, slot := 3, constantValue := 0 }]
  methods := #[k8m0, k8m1, k8m2, k8m3]
  instanceTypes := #[]
  staticTypes := #[.int, .int, .int, .boolean]
  resolved := Array.replicate 635 none
  statics := none }

def pool9 : Array CpInfo := pool [(1, .methodref 2 3), (0, .class_ 4), (0, .nameAndType 5 6), (0, u "java/lang/Object"), (0, u "<init>"), (0, u "()V"), (0, .class_ 8), (0, u "java/lang/Record")] 13

def k9c0 : Code := { maxStack := 1, maxLocals := 1, code := jdk_30_method_1_code, exceptionTable := #[], attributes := #[] }
def k9m0 : Method := { name := "<init>", desc := "()V", sig := { parameters := [], returnType := none }, accessFlags := 4, code := some k9c0 }
/-- java/lang/Record -/
def k9 : Class := { plain "java/lang/Record" (some 0) with
  accessFlags := 1057
  interfaces := #[]
  cf := some (fileOf pool9 7 #[] #[{ accessFlags := 4, nameIndex := 5, descriptorIndex := 6, attributes := #[] }] 1057 2 #[] #[])
  fields := #[]
  methods := #[k9m0]
  instanceTypes := #[]
  staticTypes := #[]
  resolved := Array.replicate 22 none
  statics := none }

def pool10 : Array CpInfo := pool [(1, .methodref 2 3), (0, .class_ 4), (0, .nameAndType 5 6), (0, u "java/lang/Record"), (0, u "<init>"), (0, u "()V"), (0, .fieldref 8 9), (0, .class_ 10), (0, .nameAndType 11 12), (0, u "com/example/assay/assay/config/ProbeSettings"), (0, u "name"), (0, u "Ljava/lang/String;"), (0, .fieldref 8 14), (0, .nameAndType 15 12), (0, u "city"), (0, .fieldref 8 17), (0, .nameAndType 18 12), (0, u "token"), (0, .fieldref 8 20), (0, .nameAndType 21 22), (0, u "ipv6"), (0, u "Z"), (6, .class_ 30), (0, u "java/lang/StringBuilder"), (0, .methodref 29 3), (0, .string 33), (0, u "ProbeSettings[name="), (0, .methodref 29 35), (0, .nameAndType 36 37), (0, u "append"), (0, u "(Ljava/lang/String;)Ljava/lang/StringBuilder;"), (0, .string 39), (0, u ", city="), (0, .string 41), (0, u ", ipv6="), (0, .methodref 29 43), (0, .nameAndType 36 44), (0, u "(Z)Ljava/lang/StringBuilder;"), (0, .string 46), (0, u "]"), (0, .methodref 29 48), (0, .nameAndType 49 50), (0, u "toString"), (0, u "()Ljava/lang/String;"), (8, u "(Ljava/lang/String;Ljava/lang/String;Ljava/lang/String;Z)V")] 31

def k10c0 : Code := { maxStack := 2, maxLocals := 5, code := prog_20_method_1_code, exceptionTable := #[], attributes := #[] }
def k10m0 : Method := { name := "<init>", desc := "(Ljava/lang/String;Ljava/lang/String;Ljava/lang/String;Z)V", sig := { parameters := [(.object "java/lang/String"), (.object "java/lang/String"), (.object "java/lang/String"), .boolean], returnType := none }, accessFlags := 1, code := some k10c0 }
def k10c1 : Code := { maxStack := 2, maxLocals := 1, code := prog_20_method_3_code, exceptionTable := #[], attributes := #[] }
def k10m1 : Method := { name := "toString", desc := "()Ljava/lang/String;", sig := { parameters := [], returnType := some (.object "java/lang/String") }, accessFlags := 1, code := some k10c1 }
/-- com/example/assay/assay/config/ProbeSettings -/
def k10 : Class := { plain "com/example/assay/assay/config/ProbeSettings" (some 9) with
  accessFlags := 49
  interfaces := #[]
  cf := some (fileOf pool10 8 #[] #[{ accessFlags := 1, nameIndex := 5, descriptorIndex := 59, attributes := #[] }, { accessFlags := 1, nameIndex := 49, descriptorIndex := 50, attributes := #[] }] 49 2 #[] #[{ accessFlags := 18, nameIndex := 11, descriptorIndex := 12, attributes := #[] }, { accessFlags := 18, nameIndex := 15, descriptorIndex := 12, attributes := #[] }, { accessFlags := 18, nameIndex := 18, descriptorIndex := 12, attributes := #[] }, { accessFlags := 18, nameIndex := 21, descriptorIndex := 22, attributes := #[] }])
  fields := #[{ name := "name", type := (.object "java/lang/String"), accessFlags := 18, slot := 0, constantValue := 0 }, { name := "city", type := (.object "java/lang/String"), accessFlags := 18, slot := 1, constantValue := 0 }, { name := "token", type := (.object "java/lang/String"), accessFlags := 18, slot := 2, constantValue := 0 }, { name := "ipv6", type := .boolean, accessFlags := 18, slot := 3, constantValue := 0 }]
  methods := #[k10m0, k10m1]
  instanceTypes := #[(.object "java/lang/String"), (.object "java/lang/String"), (.object "java/lang/String"), .boolean]
  staticTypes := #[]
  resolved := Array.replicate 91 none
  statics := none }

def pool11 : Array CpInfo := pool [(1, .class_ 2), (0, u "java/lang/Appendable"), (0, .class_ 4), (0, u "java/lang/Object")] 9

/-- java/lang/Appendable -/
def k11 : Class := { plain "java/lang/Appendable" (some 0) with
  accessFlags := 1537
  interfaces := #[]
  cf := some (fileOf pool11 1 #[] #[] 1537 3 #[] #[])
  fields := #[]
  methods := #[]
  instanceTypes := #[]
  staticTypes := #[]
  resolved := Array.replicate 14 none
  statics := none }

def pool12 : Array CpInfo := pool [(1, .class_ 2), (0, u "java/lang/String"), (0, .methodref 4 5), (0, .class_ 6), (0, .nameAndType 7 8), (0, u "java/lang/Object"), (0, u "<init>"), (0, u "()V"), (1, .class_ 12), (1, u "java/lang/AbstractStringBuilder"), (0, u "EMPTYVALUE"), (0, u "[B"), (0, .fieldref 10 16), (0, .nameAndType 17 14), (0, u "value"), (0, .fieldref 1 19), (0, .nameAndType 20 21), (0, u "COMPACT_STRINGS"), (0, u "Z"), (0, .fieldref 10 23), (0, .nameAndType 24 25), (0, u "coder"), (0, u "B"), (6, .methodref 1 33), (0, .nameAndType 34 35), (0, u "length"), (0, u "()I"), (3, .integer 2147483647), (0, .methodref 1 41), (0, .nameAndType 24 42), (0, u "()B"), (2, u "append"), (0, u "(Ljava/lang/String;)Ljava/lang/AbstractStringBuilder;"), (1, .class_ 49), (0, u "java/lang/CharSequence"), (19, u "(Ljava/lang/String;)V"), (5, u "maybeLatin1"), (3, .fieldref 10 80), (0, .nameAndType 81 82), (0, u "count"), (0, u "I"), (0, .methodref 10 84), (0, .nameAndType 85 86), (0, u "isLatin1"), (0, u "()Z"), (13, .methodref 10 101), (0, .nameAndType 102 103), (0, u "ensureCapacityInternal"), (0, u "(I)V"), (0, .methodref 10 105), (0, .nameAndType 106 107), (0, u "newCapacity"), (0, u "(I)I"), (0, .methodref 109 110), (0, .class_ 111), (0, .nameAndType 112 113), (0, u "java/util/Arrays"), (0, u "copyOf"), (0, u "([BI)[B"), (0, .methodref 115 116), (0, .class_ 117), (0, .nameAndType 118 119), (0, u "jdk/internal/util/ArraysSupport"), (0, u "newLength"), (0, u "(III)I"), (88, .methodref 10 209), (0, .nameAndType 210 211), (0, u "putStringAt"), (0, u "(ILjava/lang/String;)V"), (5, u "inflateIfNeededFor"), (2, .nameAndType 221 222), (0, u "getBytes"), (0, u "([BIB)V"), (174, .methodref 10 398), (0, .nameAndType 217 69), (0, .methodref 1 220), (3, u "()[B"), (40, .class_ 445), (0, u "java/lang/Appendable"), (62, u "(Z)Ljava/lang/AbstractStringBuilder;"), (43, u "getValue")] 56

def k12m0 : Method := { name := "<init>", desc := "()V", sig := { parameters := [], returnType := none }, accessFlags := 0, code := none }
def k12c1 : Code := { maxStack := 2, maxLocals := 2, code := jdk_68_method_2_code, exceptionTable := #[], attributes := #[] }
def k12m1 : Method := { name := "<init>", desc := "(I)V", sig := { parameters := [.int], returnType := none }, accessFlags := 0, code := some k12c1 }
def k12c2 : Code := { maxStack := 1, maxLocals := 1, code := jdk_68_method_6_code, exceptionTable := #[], attributes := #[] }
def k12m2 : Method := { name := "length", desc := "()I", sig := { parameters := [], returnType := some .int }, accessFlags := 1, code := some k12c2 }
def k12c3 : Code := { maxStack := 4, maxLocals := 3, code := jdk_68_method_9_code, exceptionTable := #[], attributes := #[] }
def k12m3 : Method := { name := "ensureCapacityInternal", desc := "(I)V", sig := { parameters := [.int], returnType := none }, accessFlags := 2, code := some k12c3 }
def k12c4 : Code := { maxStack := 5, maxLocals := 6, code := jdk_68_method_10_code, exceptionTable := #[], attributes := #[] }
def k12m4 : Method := { name := "newCapacity", desc := "(I)I", sig := { parameters := [.int], returnType := some .int }, accessFlags := 2, code := some k12c4 }
def k12c5 : Code := { maxStack := 3, maxLocals := 3, code := jdk_68_method_22_code, exceptionTable := #[], attributes := #[] }
def k12m5 : Method := { name := "append", desc := "(Ljava/lang/String;)Ljava/lang/AbstractStringBuilder;", sig := { parameters := [(.object "java/lang/String")], returnType := some (.object "java/lang/AbstractStringBuilder") }, accessFlags := 1, code := some k12c5 }
def k12c6 : Code := { maxStack := 7, maxLocals := 4, code := jdk_68_method_30_code, exceptionTable := #[], attributes := #[] }
def k12m6 : Method := { name := "append", desc := "(Z)Ljava/lang/AbstractStringBuilder;", sig := { parameters := [.boolean], returnType := some (.object "java/lang/AbstractStringBuilder") }, accessFlags := 1, code := some k12c6 }
def k12c7 : Code := { maxStack := 1, maxLocals := 1, code := jdk_68_method_64_code, exceptionTable := #[], attributes := #[] }
def k12m7 : Method := { name := "getValue", desc := "()[B", sig := { parameters := [], returnType := some (.array .byte) }, accessFlags := 16, code := some k12c7 }
def k12c8 : Code := { maxStack := 1, maxLocals := 1, code := jdk_68_method_68_code, exceptionTable := #[], attributes := #[] }
def k12m8 : Method := { name := "isLatin1", desc := "()Z", sig := { parameters := [], returnType := some .boolean }, accessFlags := 16, code := some k12c8 }
def k12c9 : Code := { maxStack := 2, maxLocals := 2, code := jdk_68_method_71_code, exceptionTable := #[], attributes := #[] }
def k12m9 : Method := { name := "inflateIfNeededFor", desc := "(Ljava/lang/String;)V", sig := { parameters := [(.object "java/lang/String")], returnType := none }, accessFlags := 2, code := some k12c9 }
def k12c10 : Code := { maxStack := 4, maxLocals := 3, code := jdk_68_method_73_code, exceptionTable := #[], attributes := #[] }
def k12m10 : Method := { name := "putStringAt", desc := "(ILjava/lang/String;)V", sig := { parameters := [.int, (.object "java/lang/String")], returnType := none }, accessFlags := 2, code := some k12c10 }
/-- java/lang/AbstractStringBuilder -/
def k12 : Class := { plain "java/lang/AbstractStringBuilder" (some 0) with
  accessFlags := 1056
  interfaces := #[11, 4]
  cf := some (fileOf pool12 10 #[] #[{ accessFlags := 0, nameIndex := 7, descriptorIndex := 8, attributes := #[] }, { accessFlags := 0, nameIndex := 7, descriptorIndex := 103, attributes := #[] }, { accessFlags := 1, nameIndex := 34, descriptorIndex := 35, attributes := #[] }, { accessFlags := 2, nameIndex := 102, descriptorIndex := 103, attributes := #[] }, { accessFlags := 2, nameIndex := 106, descriptorIndex := 107, attributes := #[] }, { accessFlags := 1, nameIndex := 45, descriptorIndex := 46, attributes := #[] }, { accessFlags := 1, nameIndex := 45, descriptorIndex := 508, attributes := #[] }, { accessFlags := 16, nameIndex := 552, descriptorIndex := 403, attributes := #[] }, { accessFlags := 16, nameIndex := 85, descriptorIndex := 86, attributes := #[] }, { accessFlags := 2, nameIndex := 217, descriptorIndex := 69, attributes := #[] }, { accessFlags := 2, nameIndex := 210, descriptorIndex := 211, attributes := #[] }] 1056 4 #[444, 48] #[{ accessFlags := 0, nameIndex := 17, descriptorIndex := 14, attributes := #[] }, { accessFlags := 0, nameIndex := 24, descriptorIndex := 25, attributes := #[] }, { accessFlags := 0, nameIndex := 75, descriptorIndex := 21, attributes := #[] }, { accessFlags := 0, nameIndex := 81, descriptorIndex := 82, attributes := #[] }, { accessFlags := 26, nameIndex := 13, descriptorIndex := 14, attributes := #[] }])
  fields := #[{ name := "value", type := (.array .byte), accessFlags := 0, slot := 0, constantValue := 0 }, { name := "coder", type := .byte, accessFlags := 0, slot := 1, constantValue := 0 }, { name := "maybeLatin1", type := .boolean, accessFlags := 0, slot := 2, constantValue := 0 }, { name := "count", type := .int, accessFlags := 0, slot := 3, constantValue := 0 }, { name := "EMPTYVALUE", type := (.array .byte), accessFlags := 26, slot := 0, constantValue := 0 }]
  methods := #[k12m0, k12m1, k12m2, k12m3, k12m4, k12m5, k12m6, k12m7, k12m8, k12m9, k12m10]
  instanceTypes := #[(.array .byte), .byte, .boolean, .int]
  staticTypes := #[(.array .byte)]
  resolved := Array.replicate 609 none
  statics := none }

def pool13 : Array CpInfo := pool [(1, .methodref 2 3), (0, .class_ 4), (0, .nameAndType 5 6), (0, u "java/lang/AbstractStringBuilder"), (0, u "<init>"), (0, u "(I)V"), (11, .class_ 20), (1, u "java/lang/String"), (3, .class_ 26), (1, u "java/lang/StringBuilder"), (0, u "append"), (0, u "(Ljava/lang/String;)Ljava/lang/StringBuilder;"), (0, .methodref 2 30), (0, .nameAndType 27 31), (0, u "(Ljava/lang/String;)Ljava/lang/AbstractStringBuilder;"), (15, .methodref 2 48), (0, .nameAndType 27 49), (0, u "(Z)Ljava/lang/AbstractStringBuilder;"), (87, .methodref 18 138), (0, .nameAndType 5 139), (0, u "(Ljava/lang/StringBuilder;)V"), (5, u "()V"), (10, u "()I"), (132, u "(Z)Ljava/lang/StringBuilder;"), (53, .methodref 2 344), (0, .nameAndType 345 156), (0, u "length"), (3, .class_ 350), (0, u "java/lang/Appendable"), (0, .class_ 352), (0, u "java/io/Serializable"), (0, .class_ 354), (0, u "java/lang/Comparable"), (0, .class_ 356), (0, u "java/lang/CharSequence"), (0, u "serialVersionUID"), (0, u "J"), (40, u "toString"), (0, u "()Ljava/lang/String;")] 21

def k13c0 : Code := { maxStack := 2, maxLocals := 1, code := jdk_67_method_1_code, exceptionTable := #[], attributes := #[] }
def k13m0 : Method := { name := "<init>", desc := "()V", sig := { parameters := [], returnType := none }, accessFlags := 1, code := some k13c0 }
def k13c1 : Code := { maxStack := 2, maxLocals := 2, code := jdk_67_method_7_code, exceptionTable := #[], attributes := #[] }
def k13m1 : Method := { name := "append", desc := "(Ljava/lang/String;)Ljava/lang/StringBuilder;", sig := { parameters := [(.object "java/lang/String")], returnType := some (.object "java/lang/StringBuilder") }, accessFlags := 1, code := some k13c1 }
def k13c2 : Code := { maxStack := 2, maxLocals := 2, code := jdk_67_method_13_code, exceptionTable := #[], attributes := #[] }
def k13m2 : Method := { name := "append", desc := "(Z)Ljava/lang/StringBuilder;", sig := { parameters := [.boolean], returnType := some (.object "java/lang/StringBuilder") }, accessFlags := 1, code := some k13c2 }
def k13c3 : Code := { maxStack := 3, maxLocals := 1, code := jdk_67_method_42_code, exceptionTable := #[], attributes := #[] }
def k13m3 : Method := { name := "toString", desc := "()Ljava/lang/String;", sig := { parameters := [], returnType := some (.object "java/lang/String") }, accessFlags := 1, code := some k13c3 }
def k13c4 : Code := { maxStack := 1, maxLocals := 1, code := jdk_67_method_93_code, exceptionTable := #[], attributes := #[] }
def k13m4 : Method := { name := "length", desc := "()I", sig := { parameters := [], returnType := some .int }, accessFlags := 4161, code := some k13c4 }
/-- java/lang/StringBuilder -/
def k13 : Class := { plain "java/lang/StringBuilder" (some 12) with
  accessFlags := 49
  interfaces := #[11, 2, 3, 4]
  cf := some (fileOf pool13 24 #[] #[{ accessFlags := 1, nameIndex := 5, descriptorIndex := 145, attributes := #[] }, { accessFlags := 1, nameIndex := 27, descriptorIndex := 28, attributes := #[] }, { accessFlags := 1, nameIndex := 27, descriptorIndex := 289, attributes := #[] }, { accessFlags := 1, nameIndex := 399, descriptorIndex := 400, attributes := #[] }, { accessFlags := 4161, nameIndex := 345, descriptorIndex := 156, attributes := #[] }] 49 2 #[349, 351, 353, 355] #[{ accessFlags := 24, nameIndex := 357, descriptorIndex := 358, attributes := #[] }])
  fields := #[{ name := "serialVersionUID", type := .long, accessFlags := 24, slot := 0, constantValue := 0 }]
  methods := #[k13m0, k13m1, k13m2, k13m3, k13m4]
  instanceTypes := #[(.array .byte), .byte, .boolean, .int]
  staticTypes := #[.long]
  resolved := Array.replicate 422 none
  statics := none }

def pool14 : Array CpInfo := pool [(9, u "<init>"), (6, .class_ 18), (1, u "java/lang/Object"), (0, u "()V"), (1, .class_ 23), (1, u "jdk/internal/util/ArraysSupport"), (0, u "LOG2_ARRAY_LONG_INDEX_SCALE"), (0, u "I"), (2, u "U"), (0, u "Ljdk/internal/misc/Unsafe;"), (8, u "BIG_ENDIAN"), (0, u "Z"), (8, u "LOG2_BYTE_BIT_SIZE"), (4, u "LOG2_ARRAY_INT_INDEX_SCALE"), (54, u "JLA"), (0, u "Ljdk/internal/access/JavaLangAccess;"), (11, u "LOG2_ARRAY_BOOLEAN_INDEX_SCALE"), (9, u "LOG2_ARRAY_BYTE_INDEX_SCALE"), (5, u "LOG2_ARRAY_CHAR_INDEX_SCALE"), (5, u "LOG2_ARRAY_SHORT_INDEX_SCALE"), (18, u "LOG2_ARRAY_FLOAT_INDEX_SCALE"), (24, u "LOG2_ARRAY_DOUBLE_INDEX_SCALE"), (6, .methodref 195 196), (0, .class_ 197), (0, .nameAndType 198 199), (0, u "java/lang/Math"), (0, u "max"), (0, u "(II)I"), (0, .integer 2147483639), (76, u "T_BOOLEAN"), (2, u "T_CHAR"), (1, u "T_FLOAT"), (1, u "T_DOUBLE"), (1, u "T_BYTE"), (1, u "T_SHORT"), (1, u "T_INT"), (1, u "T_LONG"), (1, u "SOFT_MAX_ARRAY_LENGTH"), (56, u "newLength"), (0, u "(III)I")] 25

def k14m0 : Method := { name := "<init>", desc := "()V", sig := { parameters := [], returnType := none }, accessFlags := 2, code := none }
def k14c1 : Code := { maxStack := 3, maxLocals := 4, code := jdk_48_method_27_code, exceptionTable := #[], attributes := #[] }
def k14m1 : Method := { name := "newLength", desc := "(III)I", sig := { parameters := [.int, .int, .int], returnType := some .int }, accessFlags := 9, code := some k14c1 }
/-- jdk/internal/util/ArraysSupport -/
def k14 : Class := { plain "jdk/internal/util/ArraysSupport" (some 0) with
  accessFlags := 33
  interfaces := #[]
  cf := some (fileOf pool14 21 #[] #[{ accessFlags := 2, nameIndex := 9, descriptorIndex := 19, attributes := #[] }, { accessFlags := 9, nameIndex := 351, descriptorIndex := 352, attributes := #[] }] 33 16 #[] #[{ accessFlags := 24, nameIndex := 28, descriptorIndex := 29, attributes := #[] }, { accessFlags := 26, nameIndex := 38, descriptorIndex := 39, attributes := #[] }, { accessFlags := 25, nameIndex := 121, descriptorIndex := 25, attributes := #[] }, { accessFlags := 25, nameIndex := 131, descriptorIndex := 25, attributes := #[] }, { accessFlags := 25, nameIndex := 137, descriptorIndex := 25, attributes := #[] }, { accessFlags := 25, nameIndex := 143, descriptorIndex := 25, attributes := #[] }, { accessFlags := 25, nameIndex := 53, descriptorIndex := 25, attributes := #[] }, { accessFlags := 25, nameIndex := 24, descriptorIndex := 25, attributes := #[] }, { accessFlags := 25, nameIndex := 162, descriptorIndex := 25, attributes := #[] }, { accessFlags := 25, nameIndex := 187, descriptorIndex := 25, attributes := #[] }, { accessFlags := 26, nameIndex := 48, descriptorIndex := 25, attributes := #[] }, { accessFlags := 25, nameIndex := 277, descriptorIndex := 25, attributes := #[] }, { accessFlags := 25, nameIndex := 280, descriptorIndex := 25, attributes := #[] }, { accessFlags := 25, nameIndex := 282, descriptorIndex := 25, attributes := #[] }, { accessFlags := 25, nameIndex := 284, descriptorIndex := 25, attributes := #[] }, { accessFlags := 25, nameIndex := 286, descriptorIndex := 25, attributes := #[] }, { accessFlags := 25, nameIndex := 288, descriptorIndex := 25, attributes := #[] }, { accessFlags := 25, nameIndex := 290, descriptorIndex := 25, attributes := #[] }, { accessFlags := 25, nameIndex := 292, descriptorIndex := 25, attributes := #[] }, { accessFlags := 26, nameIndex := 108, descriptorIndex := 109, attributes := #[] }, { accessFlags := 25, nameIndex := 294, descriptorIndex := 25, attributes := #[] }])
  fields := #[{ name := "U", type := (.object "jdk/internal/misc/Unsafe"), accessFlags := 24, slot := 0, constantValue := 0 }, { name := "BIG_ENDIAN", type := .boolean, accessFlags := 26, slot := 1, constantValue := 0 }, { name := "LOG2_ARRAY_BOOLEAN_INDEX_SCALE", type := .int, accessFlags := 25, slot := 2, constantValue := 0 }, { name := "LOG2_ARRAY_BYTE_INDEX_SCALE", type := .int, accessFlags := 25, slot := 3, constantValue := 0 }, { name := "LOG2_ARRAY_CHAR_INDEX_SCALE", type := .int, accessFlags := 25, slot := 4, constantValue := 0 }, { name := "LOG2_ARRAY_SHORT_INDEX_SCALE", type := .int, accessFlags := 25, slot := 5, constantValue := 0 }, { name := "LOG2_ARRAY_INT_INDEX_SCALE", type := .int, accessFlags := 25, slot := 6, constantValue := 0 }, { name := "LOG2_ARRAY_LONG_INDEX_SCALE", type := .int, accessFlags := 25, slot := 7, constantValue := 0 }, { name := "LOG2_ARRAY_FLOAT_INDEX_SCALE", type := .int, accessFlags := 25, slot := 8, constantValue := 0 }, { name := "LOG2_ARRAY_DOUBLE_INDEX_SCALE", type := .int, accessFlags := 25, slot := 9, constantValue := 0 }, { name := "LOG2_BYTE_BIT_SIZE", type := .int, accessFlags := 26, slot := 10, constantValue := 0 }, { name := "T_BOOLEAN", type := .int, accessFlags := 25, slot := 11, constantValue := 0 }, { name := "T_CHAR", type := .int, accessFlags := 25, slot := 12, constantValue := 0 }, { name := "T_FLOAT", type := .int, accessFlags := 25, slot := 13, constantValue := 0 }, { name := "T_DOUBLE", type := .int, accessFlags := 25, slot := 14, constantValue := 0 }, { name := "T_BYTE", type := .int, accessFlags := 25, slot := 15, constantValue := 0 }, { name := "T_SHORT", type := .int, accessFlags := 25, slot := 16, constantValue := 0 }, { name := "T_INT", type := .int, accessFlags := 25, slot := 17, constantValue := 0 }, { name := "T_LONG", type := .int, accessFlags := 25, slot := 18, constantValue := 0 }, { name := "JLA", type := (.object "jdk/internal/access/JavaLangAccess"), accessFlags := 26, slot := 19, constantValue := 0 }, { name := "SOFT_MAX_ARRAY_LENGTH", type := .int, accessFlags := 25, slot := 20, constantValue := 0 }]
  methods := #[k14m0, k14m1]
  instanceTypes := #[]
  staticTypes := #[(.object "jdk/internal/misc/Unsafe"), .boolean, .int, .int, .int, .int, .int, .int, .int, .int, .int, .int, .int, .int, .int, .int, .int, .int, .int, (.object "jdk/internal/access/JavaLangAccess"), .int]
  resolved := Array.replicate 378 none
  statics := none }

def pool15 : Array CpInfo := pool [(1, .class_ 2), (0, u "java/lang/Math"), (1, .class_ 6), (1, u "java/lang/Object"), (0, u "<init>"), (0, u "()V"), (89, .class_ 100), (1, u "java/lang/Math$RandomNumberGeneratorHolder"), (71, u "negativeZeroFloatBits"), (0, u "J"), (2, u "negativeZeroDoubleBits"), (21, u "max"), (2, u "min"), (43, u "$assertionsDisabled"), (0, u "Z"), (88, u "(II)I"), (2, u "twoToTheDoubleScaleDown"), (0, u "D"), (4, u "twoToTheDoubleScaleUp"), (9, u "E"), (3, u "PI"), (2, u "TAU"), (2, u "DEGREES_TO_RADIANS"), (0, u "RADIANS_TO_DEGREES")] 94

def k15m0 : Method := { name := "<init>", desc := "()V", sig := { parameters := [], returnType := none }, accessFlags := 2, code := none }
def k15c1 : Code := { maxStack := 2, maxLocals := 2, code := jdk_29_method_65_code, exceptionTable := #[], attributes := #[] }
def k15m1 : Method := { name := "max", desc := "(II)I", sig := { parameters := [.int, .int], returnType := some .int }, accessFlags := 9, code := some k15c1 }
def k15c2 : Code := { maxStack := 2, maxLocals := 2, code := jdk_29_method_69_code, exceptionTable := #[], attributes := #[] }
def k15m2 : Method := { name := "min", desc := "(II)I", sig := { parameters := [.int, .int], returnType := some .int }, accessFlags := 9, code := some k15c2 }
/-- java/lang/Math -/
def k15 : Class := { plain "java/lang/Math" (some 0) with
  accessFlags := 49
  interfaces := #[]
  cf := some (fileOf pool15 1 #[.nestMembers #[98]] #[{ accessFlags := 2, nameIndex := 7, descriptorIndex := 8, attributes := #[] }, { accessFlags := 9, nameIndex := 198, descriptorIndex := 335, attributes := #[] }, { accessFlags := 9, nameIndex := 201, descriptorIndex := 335, attributes := #[] }] 49 4 #[] #[{ accessFlags := 25, nameIndex := 354, descriptorIndex := 339, attributes := #[] }, { accessFlags := 25, nameIndex := 358, descriptorIndex := 339, attributes := #[] }, { accessFlags := 25, nameIndex := 361, descriptorIndex := 339, attributes := #[] }, { accessFlags := 26, nameIndex := 364, descriptorIndex := 339, attributes := #[] }, { accessFlags := 26, nameIndex := 365, descriptorIndex := 339, attributes := #[] }, { accessFlags := 26, nameIndex := 172, descriptorIndex := 173, attributes := #[] }, { accessFlags := 26, nameIndex := 176, descriptorIndex := 173, attributes := #[] }, { accessFlags := 8, nameIndex := 344, descriptorIndex := 339, attributes := #[] }, { accessFlags := 8, nameIndex := 338, descriptorIndex := 339, attributes := #[] }, { accessFlags := 4120, nameIndex := 245, descriptorIndex := 246, attributes := #[] }])
  fields := #[{ name := "E", type := .double, accessFlags := 25, slot := 0, constantValue := 0 }, { name := "PI", type := .double, accessFlags := 25, slot := 1, constantValue := 0 }, { name := "TAU", type := .double, accessFlags := 25, slot := 2, constantValue := 0 }, { name := "DEGREES_TO_RADIANS", type := .double, accessFlags := 26, slot := 3, constantValue := 0 }, { name := "RADIANS_TO_DEGREES", type := .double, accessFlags := 26, slot := 4, constantValue := 0 }, { name := "negativeZeroFloatBits", type := .long, accessFlags := 26, slot := 5, constantValue := 0 }, { name := "negativeZeroDoubleBits", type := .long, accessFlags := 26, slot := 6, constantValue := 0 }, { name := "twoToTheDoubleScaleUp", type := .double, accessFlags := 8, slot := 7, constantValue := 0 }, { name := "twoToTheDoubleScaleDown", type := .double, accessFlags := 8, slot := 8, constantValue := 0 }, { name := "$assertionsDisabled", type := .boolean, accessFlags := 4120, slot := 9, constantValue := 0 }]
  methods := #[k15m0, k15m1, k15m2]
  instanceTypes := #[]
  staticTypes := #[.double, .double, .double, .double, .double, .long, .long, .double, .double, .boolean]
  resolved := Array.replicate 460 none
  statics := none }

def pool16 : Array CpInfo := pool [(2, .class_ 4), (1, u "java/lang/Object"), (0, u "<init>"), (0, u "()V"), (7, .class_ 16), (1, u "java/util/Arrays"), (57, .class_ 76), (1, u "java/util/Arrays$NaturalOrder"), (36, .class_ 115), (1, u "java/util/Arrays$LegacyMergeSort"), (1, u "Z"), (21, u "copyOfRange"), (10, .methodref 151 152), (0, .class_ 153), (0, .nameAndType 154 155), (0, u "java/lang/System"), (0, u "arraycopy"), (0, u "(Ljava/lang/Object;ILjava/lang/Object;II)V"), (146, u "copyOf"), (1, .methodref 305 306), (0, .class_ 307), (0, .nameAndType 308 309), (0, u "java/lang/Math"), (0, u "min"), (0, u "(II)I"), (29, .methodref 14 340), (0, .nameAndType 341 342), (0, u "copyOfRangeByte"), (0, u "([BII)[B"), (0, .methodref 14 344), (0, .nameAndType 345 346), (0, u "checkLength"), (0, u "(II)V"), (28, .class_ 376), (0, u "java/util/Arrays$ArrayList"), (68, u "$assertionsDisabled"), (269, u "MIN_ARRAY_SORT_GRAN"), (0, u "I"), (2, u "INSERTIONSORT_THRESHOLD"), (149, u "([BI)[B"), (105, .class_ 976), (0, u "java/util/Arrays$ArrayItr")] 52

def k16m0 : Method := { name := "<init>", desc := "()V", sig := { parameters := [], returnType := none }, accessFlags := 2, code := none }
def k16c1 : Code := { maxStack := 6, maxLocals := 3, code := jdk_65_method_121_code, exceptionTable := #[], attributes := #[] }
def k16m1 : Method := { name := "copyOf", desc := "([BI)[B", sig := { parameters := [(.array .byte), .int], returnType := some (.array .byte) }, accessFlags := 9, code := some k16c1 }
def k16c2 : Code := { maxStack := 4, maxLocals := 2, code := jdk_65_method_131_code, exceptionTable := #[], attributes := #[] }
def k16m2 : Method := { name := "checkLength", desc := "(II)V", sig := { parameters := [.int, .int], returnType := none }, accessFlags := 10, code := some k16c2 }
def k16c3 : Code := { maxStack := 3, maxLocals := 3, code := jdk_65_method_132_code, exceptionTable := #[], attributes := #[] }
def k16m3 : Method := { name := "copyOfRange", desc := "([BII)[B", sig := { parameters := [(.array .byte), .int, .int], returnType := some (.array .byte) }, accessFlags := 9, code := some k16c3 }
def k16c4 : Code := { maxStack := 6, maxLocals := 5, code := jdk_65_method_133_code, exceptionTable := #[], attributes := #[] }
def k16m4 : Method := { name := "copyOfRangeByte", desc := "([BII)[B", sig := { parameters := [(.array .byte), .int, .int], returnType := some (.array .byte) }, accessFlags := 10, code := some k16c4 }
/-- java/util/Arrays -/
def k16 : Class := { plain "java/util/Arrays" (some 0) with
  accessFlags := 49
  interfaces := #[]
  cf := some (fileOf pool16 14 #[.nestMembers #[975, 375, 113, 74]] #[{ accessFlags := 2, nameIndex := 5, descriptorIndex := 6, attributes := #[] }, { accessFlags := 9, nameIndex := 302, descriptorIndex := 869, attributes := #[] }, { accessFlags := 10, nameIndex := 345, descriptorIndex := 346, attributes := #[] }, { accessFlags := 9, nameIndex := 139, descriptorIndex := 342, attributes := #[] }, { accessFlags := 10, nameIndex := 341, descriptorIndex := 342, attributes := #[] }] 49 2 #[] #[{ accessFlags := 26, nameIndex := 715, descriptorIndex := 716, attributes := #[] }, { accessFlags := 26, nameIndex := 719, descriptorIndex := 716, attributes := #[] }, { accessFlags := 4120, nameIndex := 445, descriptorIndex := 117, attributes := #[] }])
  fields := #[{ name := "MIN_ARRAY_SORT_GRAN", type := .int, accessFlags := 26, slot := 0, constantValue := 0 }, { name := "INSERTIONSORT_THRESHOLD", type := .int, accessFlags := 26, slot := 1, constantValue := 0 }, { name := "$assertionsDisabled", type := .boolean, accessFlags := 4120, slot := 2, constantValue := 0 }]
  methods := #[k16m0, k16m1, k16m2, k16m3, k16m4]
  instanceTypes := #[]
  staticTypes := #[.int, .int, .boolean]
  resolved := Array.replicate 1029 none
  statics := none }

def pool17 : Array CpInfo := pool [(2, .class_ 4), (1, u "java/lang/Object"), (0, u "<init>"), (0, u "()V"), (1, .class_ 10), (1, u "java/lang/System"), (0, u "allowSecurityManager"), (0, u "I"), (16, u "cons"), (0, u "Ljava/io/Console;"), (77, .class_ 110), (1, u "java/lang/System$CallersHolder"), (43, u "initialErrStream"), (0, u "Ljava/io/PrintStream;"), (19, u "security"), (0, u "Ljava/lang/SecurityManager;"), (31, .class_ 209), (0, u "java/lang/System$1"), (7, u "props"), (0, u "Ljava/util/Properties;"), (2, u "lineSeparator"), (0, u "Ljava/lang/String;"), (96, .class_ 321), (1, u "java/lang/System$LoggerFinder"), (5, .class_ 328), (0, u "java/lang/System$Logger"), (67, u "err"), (2, u "out"), (91, u "notSupportedJnuEncoding"), (15, u "in"), (17, u "initialIn"), (0, u "Ljava/io/InputStream;"), (35, u "bootLayer"), (0, u "Ljava/lang/ModuleLayer;"), (99, .class_ 664), (0, u "java/lang/System$2"), (9, u "NEVER"), (2, u "MAYBE"), (49, u "arraycopy"), (0, u "(Ljava/lang/Object;ILjava/lang/Object;II)V"), (72, .class_ 802), (0, u "java/lang/System$Logger$Level")] 31

def k17m0 : Method := { name := "<init>", desc := "()V", sig := { parameters := [], returnType := none }, accessFlags := 2, code := none }
def k17m1 : Method := { name := "arraycopy", desc := "(Ljava/lang/Object;ILjava/lang/Object;II)V", sig := { parameters := [(.object "java/lang/Object"), .int, (.object "java/lang/Object"), .int, .int], returnType := none }, accessFlags := 265, code := none }
/-- java/lang/System -/
def k17 : Class := { plain "java/lang/System" (some 0) with
  accessFlags := 49
  interfaces := #[]
  cf := some (fileOf pool17 8 #[.nestMembers #[319, 327, 801, 108, 663, 208]] #[{ accessFlags := 2, nameIndex := 5, descriptorIndex := 6, attributes := #[] }, { accessFlags := 265, nameIndex := 727, descriptorIndex := 728, attributes := #[] }] 49 2 #[] #[{ accessFlags := 25, nameIndex := 507, descriptorIndex := 526, attributes := #[] }, { accessFlags := 25, nameIndex := 399, descriptorIndex := 155, attributes := #[] }, { accessFlags := 25, nameIndex := 396, descriptorIndex := 155, attributes := #[] }, { accessFlags := 10, nameIndex := 525, descriptorIndex := 526, attributes := #[] }, { accessFlags := 26, nameIndex := 674, descriptorIndex := 12, attributes := #[] }, { accessFlags := 26, nameIndex := 677, descriptorIndex := 12, attributes := #[] }, { accessFlags := 10, nameIndex := 11, descriptorIndex := 12, attributes := #[] }, { accessFlags := 74, nameIndex := 175, descriptorIndex := 176, attributes := #[] }, { accessFlags := 10, nameIndex := 491, descriptorIndex := 222, attributes := #[] }, { accessFlags := 74, nameIndex := 29, descriptorIndex := 30, attributes := #[] }, { accessFlags := 74, nameIndex := 154, descriptorIndex := 155, attributes := #[] }, { accessFlags := 10, nameIndex := 217, descriptorIndex := 218, attributes := #[] }, { accessFlags := 10, nameIndex := 221, descriptorIndex := 222, attributes := #[] }, { accessFlags := 8, nameIndex := 562, descriptorIndex := 563, attributes := #[] }])
  fields := #[{ name := "in", type := (.object "java/io/InputStream"), accessFlags := 25, slot := 0, constantValue := 0 }, { name := "out", type := (.object "java/io/PrintStream"), accessFlags := 25, slot := 1, constantValue := 0 }, { name := "err", type := (.object "java/io/PrintStream"), accessFlags := 25, slot := 2, constantValue := 0 }, { name := "initialIn", type := (.object "java/io/InputStream"), accessFlags := 10, slot := 3, constantValue := 0 }, { name := "NEVER", type := .int, accessFlags := 26, slot := 4, constantValue := 0 }, { name := "MAYBE", type := .int, accessFlags := 26, slot := 5, constantValue := 0 }, { name := "allowSecurityManager", type := .int, accessFlags := 10, slot := 6, constantValue := 0 }, { name := "security", type := (.object "java/lang/SecurityManager"), accessFlags := 74, slot := 7, constantValue := 0 }, { name := "notSupportedJnuEncoding", type := (.object "java/lang/String"), accessFlags := 10, slot := 8, constantValue := 0 }, { name := "cons", type := (.object "java/io/Console"), accessFlags := 74, slot := 9, constantValue := 0 }, { name := "initialErrStream", type := (.object "java/io/PrintStream"), accessFlags := 74, slot := 10, constantValue := 0 }, { name := "props", type := (.object "java/util/Properties"), accessFlags := 10, slot := 11, constantValue := 0 }, { name := "lineSeparator", type := (.object "java/lang/String"), accessFlags := 10, slot := 12, constantValue := 0 }, { name := "bootLayer", type := (.object "java/lang/ModuleLayer"), accessFlags := 8, slot := 13, constantValue := 0 }]
  methods := #[k17m0, k17m1]
  instanceTypes := #[]
  staticTypes := #[(.object "java/io/InputStream"), (.object "java/io/PrintStream"), (.object "java/io/PrintStream"), (.object "java/io/InputStream"), .int, .int, .int, (.object "java/lang/SecurityManager"), (.object "java/lang/String"), (.object "java/io/Console"), (.object "java/io/PrintStream"), (.object "java/util/Properties"), (.object "java/lang/String"), (.object "java/lang/ModuleLayer")]
  resolved := Array.replicate 834 none
  statics := none }

def pool18 : Array CpInfo := pool [(4, .class_ 6), (1, u "java/lang/Object"), (0, u "<init>"), (0, u "()V"), (5, .class_ 16), (1, u "java/lang/StringLatin1"), (104, u "$assertionsDisabled"), (0, u "Z"), (98, .class_ 223), (1, u "java/lang/StringLatin1$LinesSpliterator"), (57, u "equals"), (0, u "([B[B)Z"), (107, .class_ 391), (0, u "java/lang/StringLatin1$CharsSpliterator")] 3

def k18m0 : Method := { name := "<init>", desc := "()V", sig := { parameters := [], returnType := none }, accessFlags := 0, code := none }
def k18c1 : Code := { maxStack := 3, maxLocals := 3, code := jdk_43_method_13_code, exceptionTable := #[], attributes := #[] }
def k18m1 : Method := { name := "equals", desc := "([B[B)Z", sig := { parameters := [(.array .byte), (.array .byte)], returnType := some .boolean }, accessFlags := 9, code := some k18c1 }
/-- java/lang/StringLatin1 -/
def k18 : Class := { plain "java/lang/StringLatin1" (some 0) with
  accessFlags := 48
  interfaces := #[]
  cf := some (fileOf pool18 14 #[.nestMembers #[390, 221]] #[{ accessFlags := 0, nameIndex := 7, descriptorIndex := 8, attributes := #[] }, { accessFlags := 9, nameIndex := 281, descriptorIndex := 282, attributes := #[] }] 48 4 #[] #[{ accessFlags := 4120, nameIndex := 121, descriptorIndex := 122, attributes := #[] }])
  fields := #[{ name := "$assertionsDisabled", type := .boolean, accessFlags := 4120, slot := 0, constantValue := 0 }]
  methods := #[k18m0, k18m1]
  instanceTypes := #[]
  staticTypes := #[.boolean]
  resolved := Array.replicate 395 none
  statics := none }

def pool19 : Array CpInfo := pool [(2, .class_ 4), (1, u "java/lang/Object"), (0, u "<init>"), (0, u "()V"), (17, .class_ 26), (1, u "jdk/internal/util/Preconditions"), (28, .class_ 56), (0, u "jdk/internal/util/Preconditions$4"), (57, .class_ 115), (0, u "jdk/internal/util/Preconditions$1"), (7, u "SIOOBE_FORMATTER"), (0, u "Ljava/util/function/BiFunction;"), (0, .class_ 126), (0, u "jdk/internal/util/Preconditions$2"), (3, u "AIOOBE_FORMATTER"), (0, .class_ 132), (0, u "jdk/internal/util/Preconditions$3"), (3, u "IOOBE_FORMATTER")] 57

def k19m0 : Method := { name := "<init>", desc := "()V", sig := { parameters := [], returnType := none }, accessFlags := 1, code := none }
/-- jdk/internal/util/Preconditions -/
def k19 : Class := { plain "jdk/internal/util/Preconditions" (some 0) with
  accessFlags := 33
  interfaces := #[]
  cf := some (fileOf pool19 24 #[.nestMembers #[55, 131, 125, 114]] #[{ accessFlags := 1, nameIndex := 5, descriptorIndex := 6, attributes := #[] }] 33 2 #[] #[{ accessFlags := 25, nameIndex := 123, descriptorIndex := 124, attributes := #[] }, { accessFlags := 25, nameIndex := 130, descriptorIndex := 124, attributes := #[] }, { accessFlags := 25, nameIndex := 136, descriptorIndex := 124, attributes := #[] }])
  fields := #[{ name := "SIOOBE_FORMATTER", type := (.object "java/util/function/BiFunction"), accessFlags := 25, slot := 0, constantValue := 0 }, { name := "AIOOBE_FORMATTER", type := (.object "java/util/function/BiFunction"), accessFlags := 25, slot := 1, constantValue := 0 }, { name := "IOOBE_FORMATTER", type := (.object "java/util/function/BiFunction"), accessFlags := 25, slot := 2, constantValue := 0 }]
  methods := #[k19m0]
  instanceTypes := #[]
  staticTypes := #[(.object "java/util/function/BiFunction"), (.object "java/util/function/BiFunction"), (.object "java/util/function/BiFunction")]
  resolved := Array.replicate 194 none
  statics := some 1 }

def pool20 : Array CpInfo := pool [(1, u "java/lang/Cloneable"), (0, .class_ 1), (0, u "java/lang/Object"), (0, .class_ 3)] 3

/-- java/lang/Cloneable -/
def k20 : Class := { plain "java/lang/Cloneable" (some 0) with
  accessFlags := 1537
  interfaces := #[]
  cf := some (fileOf pool20 2 #[] #[] 1537 4 #[] #[])
  fields := #[]
  methods := #[]
  instanceTypes := #[]
  staticTypes := #[]
  resolved := Array.replicate 8 none
  statics := none }

/-- the primitive byte -/
def k21 : Class := { plain "byte" none with kind := .primitive 'B', accessFlags := 0x411 }
/-- [B -/
def k22 : Class := { plain "[B" (some 0) with kind := .array 21 .byte, interfaces := #[20, 2], accessFlags := 1041 }

/-- the primitive char -/
def k23 : Class := { plain "char" none with kind := .primitive 'C', accessFlags := 0x411 }
/-- [C -/
def k24 : Class := { plain "[C" (some 0) with kind := .array 23 .char, interfaces := #[20, 2], accessFlags := 1041 }

/-- the primitive int -/
def k25 : Class := { plain "int" none with kind := .primitive 'I', accessFlags := 0x411 }
/-- [I -/
def k26 : Class := { plain "[I" (some 0) with kind := .array 25 .int, interfaces := #[20, 2], accessFlags := 1041 }

def heap : Heap := #[{ cls := 7, slots := #[.long 0, .int 1, .null, .int 0, .null, .int 0, .int 0], vm := .statics 7 },
  { cls := 19, slots := #[.null, .null, .null], vm := .statics 19 }]
def classes : Array Class := #[k0, k1, k2, k3, k4, k5, k6, k7, k8, k9, k10, k11, k12, k13, k14, k15, k16, k17, k18, k19, k20, k21, k22, k23, k24, k25, k26]
def interned : List (Array UInt16 × Addr) := []
def slotsUsed : Nat := 10
def theMethod : MethodId := ⟨1, 1⟩
def args0 : Array Value := #[.int 5, .int 7, .int 3, .int 4]
def aboutOver (below : List Frame) : State where
  vm := { classes := classes, interned := interned.toArray }
  heap := heap
  slotsUsed := slotsUsed
  threads := #[{ frames := .invoking theMethod args0 :: below }]
def below0 : List Frame := [.native { method := ⟨0, 0⟩, args := #[] }]
def about1 : State := aboutOver below0
def p0 : Program := .bare "" "" ""
def e0 : Env := launch0.env 0 0 0
theorem w_frames : about1.frames = Frame.invoking theMethod args0 :: below0 := rfl
set_option maxRecDepth 65536 in
theorem w_args : argsFit about1.vm theMethod args0 = true := by decide +kernel
set_option maxRecDepth 65536 in
theorem w_heap : heapFits about1 = true := by decide +kernel
set_option maxRecDepth 65536 in
theorem w_runnable : about1.curStatus? = some .runnable := by decide +kernel
set_option maxRecDepth 65536 in
theorem w_alone : about1.alone = true := by decide +kernel
set_option maxRecDepth 65536 in
theorem w_named : about1.methodNamed? x = some theMethod := by decide +kernel
set_option maxRecDepth 65536 in
theorem w_hears : about1.hears theMethod below0 = true := by decide +kernel
set_option maxRecDepth 65536 in
theorem w_ripe : about1.ripe theMethod args0 below0 = true := by decide +kernel
theorem w_running : about1.status = .running := rfl
set_option maxRecDepth 65536 in
theorem w_room : about1.hasRoom e0.platform room_1 = true :=
  launch0.hasRoom_least _ room_1 (by decide +kernel) (by decide +kernel) (by decide +kernel) (by decide +kernel) (by decide +kernel) (by decide +kernel)
theorem allAtoms_all (ts : List Jvm.Cond) (a : Array Jvm.Value) (st : Jvm.State) : (allAtoms ts).before a st = ts.all (fun c => c.before a st) := by
  induction ts with
  | nil => rfl
  | cons c t ih =>
    show (Jvm.Cond.and c (allAtoms t)).before a st = _
    rw [Jvm.Cond.before_and, ih, List.all_cons]
def words1 : List Jvm.Cond := Jvm.Cond.code x code maxLocals ret :: tables_1
/-- a 'code' word, met by the world's own term for the bytes: nothing is compared byte by byte -/
theorem code_word {y : MethodName} {bytes : ByteArray} {mx : Nat} {rt : Option FieldType} {a : Array Value} {s : State} {m : MethodId} {meth : Method} {c : Code} (h1 : s.methodNamed? y = some m) (h2 : s.vm.method? m = some meth) (h3 : meth.code = some c) (h4 : c.code = bytes)
    (h5 : (c.maxLocals == mx && c.exceptionTable.isEmpty && decide (c.maxStack ≤ mostOperands) && decide (meth.sig.returnType = rt) && !meth.locks && decide (parseMethodDescriptor y.desc = some meth.sig)) = true) : (Jvm.Cond.code y bytes mx rt).before a s = true := by
  simp only [Bool.and_eq_true, beq_iff_eq, Bool.not_eq_true', decide_eq_true_eq] at h5
  obtain ⟨⟨⟨⟨⟨g1, g2⟩, g3⟩, g4⟩, g5⟩, g6⟩ := h5
  simp [Cond.before, Cond.holds, Cond.value, h1, h2, h3, h4, g1, g2, g3, g4, g5, g6]
def isCode : Jvm.Cond → Bool
  | .code _ _ _ _ => true
  | _ => false
theorem all_split {L : List Jvm.Cond} {P : Jvm.Cond → Bool} (h1 : L.all (fun c => isCode c || P c) = true) (h2 : ∀ c ∈ L.filter isCode, P c = true) : L.all P = true := by
  refine List.all_eq_true.mpr fun c hc => ?_
  have h := List.all_eq_true.mp h1 c hc
  rcases Bool.eq_false_or_eq_true (isCode c) with hi | hi
  · exact h2 c (List.mem_filter.mpr ⟨hc, hi⟩)
  · simpa [hi] using h
set_option maxRecDepth 65536 in
theorem w_c0 : (Jvm.Cond.code x code maxLocals ret).before args0 about1 = true := code_word (m := ⟨1, 1⟩) (meth := k1m1) (c := k1c1) (by decide +kernel) rfl rfl rfl (by decide +kernel)
set_option maxRecDepth 65536 in
theorem w_c1 : (Jvm.Cond.code ({ cls := "java/lang/String", name := "<init>", desc := "([C)V" } : Jvm.MethodName) jdk_42_method_3_code (2 : Nat) (Option.none : Option Jvm.ClassFile.FieldType)).before args0 about1 = true := code_word (m := ⟨7, 1⟩) (meth := k7m1) (c := k7c1) (by decide +kernel) rfl rfl rfl (by decide +kernel)
set_option maxRecDepth 65536 in
theorem w_c2 : (Jvm.Cond.code ({ cls := "java/lang/String", name := "<init>", desc := "([CIILjava/lang/Void;)V" } : Jvm.MethodName) jdk_42_method_149_code (6 : Nat) (Option.none : Option Jvm.ClassFile.FieldType)).before args0 about1 = true := code_word (m := ⟨7, 6⟩) (meth := k7m6) (c := k7c6) (by decide +kernel) rfl rfl rfl (by decide +kernel)
set_option maxRecDepth 65536 in
theorem w_c3 : (Jvm.Cond.code ({ cls := "java/lang/Object", name := "<init>", desc := "()V" } : Jvm.MethodName) object_method_1_code (1 : Nat) (Option.none : Option Jvm.ClassFile.FieldType)).before args0 about1 = true := code_word (m := ⟨0, 0⟩) (meth := k0m0) (c := k0c0) (by decide +kernel) rfl rfl rfl (by decide +kernel)
set_option maxRecDepth 65536 in
theorem w_c4 : (Jvm.Cond.code ({ cls := "java/lang/StringUTF16", name := "compress", desc := "([CII)[B" } : Jvm.MethodName) jdk_52_method_16_code (6 : Nat) (Option.some (Jvm.ClassFile.FieldType.array Jvm.ClassFile.FieldType.byte))).before args0 about1 = true := code_word (m := ⟨8, 2⟩) (meth := k8m2) (c := k8c2) (by decide +kernel) rfl rfl rfl (by decide +kernel)
set_option maxRecDepth 65536 in
theorem w_c5 : (Jvm.Cond.code ({ cls := "java/lang/StringUTF16", name := "compress", desc := "([CI[BII)I" } : Jvm.MethodName) jdk_52_method_21_code (7 : Nat) (Option.some Jvm.ClassFile.FieldType.int)).before args0 about1 = true := code_word (m := ⟨8, 3⟩) (meth := k8m3) (c := k8c3) (by decide +kernel) rfl rfl rfl (by decide +kernel)
set_option maxRecDepth 65536 in
theorem w_c6 : (Jvm.Cond.code ({ cls := "java/lang/StringUTF16", name := "coderFromArrayLen", desc := "([BI)B" } : Jvm.MethodName) jdk_52_method_15_code (2 : Nat) (Option.some Jvm.ClassFile.FieldType.byte)).before args0 about1 = true := code_word (m := ⟨8, 1⟩) (meth := k8m1) (c := k8c1) (by decide +kernel) rfl rfl rfl (by decide +kernel)
set_option maxRecDepth 65536 in
theorem w_c7 : (Jvm.Cond.code ({ cls := "com/example/assay/assay/config/ProbeSettings", name := "<init>", desc := "(Ljava/lang/String;Ljava/lang/String;Ljava/lang/String;Z)V" } : Jvm.MethodName) prog_20_method_1_code (5 : Nat) (Option.none : Option Jvm.ClassFile.FieldType)).before args0 about1 = true := code_word (m := ⟨10, 0⟩) (meth := k10m0) (c := k10c0) (by decide +kernel) rfl rfl rfl (by decide +kernel)
set_option maxRecDepth 65536 in
theorem w_c8 : (Jvm.Cond.code ({ cls := "java/lang/Record", name := "<init>", desc := "()V" } : Jvm.MethodName) jdk_30_method_1_code (1 : Nat) (Option.none : Option Jvm.ClassFile.FieldType)).before args0 about1 = true := code_word (m := ⟨9, 0⟩) (meth := k9m0) (c := k9c0) (by decide +kernel) rfl rfl rfl (by decide +kernel)
set_option maxRecDepth 65536 in
theorem w_c9 : (Jvm.Cond.code ({ cls := "com/example/assay/assay/config/ProbeSettings", name := "toString", desc := "()Ljava/lang/String;" } : Jvm.MethodName) prog_20_method_3_code (1 : Nat) (Option.some (Jvm.ClassFile.FieldType.object "java/lang/String"))).before args0 about1 = true := code_word (m := ⟨10, 1⟩) (meth := k10m1) (c := k10c1) (by decide +kernel) rfl rfl rfl (by decide +kernel)
set_option maxRecDepth 65536 in
theorem w_c10 : (Jvm.Cond.code ({ cls := "java/lang/StringBuilder", name := "<init>", desc := "()V" } : Jvm.MethodName) jdk_67_method_1_code (1 : Nat) (Option.none : Option Jvm.ClassFile.FieldType)).before args0 about1 = true := code_word (m := ⟨13, 0⟩) (meth := k13m0) (c := k13c0) (by decide +kernel) rfl rfl rfl (by decide +kernel)
set_option maxRecDepth 65536 in
theorem w_c11 : (Jvm.Cond.code ({ cls := "java/lang/AbstractStringBuilder", name := "<init>", desc := "(I)V" } : Jvm.MethodName) jdk_68_method_2_code (2 : Nat) (Option.none : Option Jvm.ClassFile.FieldType)).before args0 about1 = true := code_word (m := ⟨12, 1⟩) (meth := k12m1) (c := k12c1) (by decide +kernel) rfl rfl rfl (by decide +kernel)
set_option maxRecDepth 65536 in
theorem w_c12 : (Jvm.Cond.code ({ cls := "java/lang/StringBuilder", name := "append", desc := "(Ljava/lang/String;)Ljava/lang/StringBuilder;" } : Jvm.MethodName) jdk_67_method_7_code (2 : Nat) (Option.some (Jvm.ClassFile.FieldType.object "java/lang/StringBuilder"))).before args0 about1 = true := code_word (m := ⟨13, 1⟩) (meth := k13m1) (c := k13c1) (by decide +kernel) rfl rfl rfl (by decide +kernel)
set_option maxRecDepth 65536 in
theorem w_c13 : (Jvm.Cond.code ({ cls := "java/lang/AbstractStringBuilder", name := "append", desc := "(Ljava/lang/String;)Ljava/lang/AbstractStringBuilder;" } : Jvm.MethodName) jdk_68_method_22_code (3 : Nat) (Option.some (Jvm.ClassFile.FieldType.object "java/lang/AbstractStringBuilder"))).before args0 about1 = true := code_word (m := ⟨12, 5⟩) (meth := k12m5) (c := k12c5) (by decide +kernel) rfl rfl rfl (by decide +kernel)
set_option maxRecDepth 65536 in
theorem w_c14 : (Jvm.Cond.code ({ cls := "java/lang/String", name := "length", desc := "()I" } : Jvm.MethodName) jdk_42_method_54_code (1 : Nat) (Option.some Jvm.ClassFile.FieldType.int)).before args0 about1 = true := code_word (m := ⟨7, 3⟩) (meth := k7m3) (c := k7c3) (by decide +kernel) rfl rfl rfl (by decide +kernel)
set_option maxRecDepth 65536 in
theorem w_c15 : (Jvm.Cond.code ({ cls := "java/lang/String", name := "coder", desc := "()B" } : Jvm.MethodName) jdk_42_method_152_code (1 : Nat) (Option.some Jvm.ClassFile.FieldType.byte)).before args0 about1 = true := code_word (m := ⟨7, 8⟩) (meth := k7m8) (c := k7c8) (by decide +kernel) rfl rfl rfl (by decide +kernel)
set_option maxRecDepth 65536 in
theorem w_c16 : (Jvm.Cond.code ({ cls := "java/lang/AbstractStringBuilder", name := "ensureCapacityInternal", desc := "(I)V" } : Jvm.MethodName) jdk_68_method_9_code (3 : Nat) (Option.none : Option Jvm.ClassFile.FieldType)).before args0 about1 = true := code_word (m := ⟨12, 3⟩) (meth := k12m3) (c := k12c3) (by decide +kernel) rfl rfl rfl (by decide +kernel)
set_option maxRecDepth 65536 in
theorem w_c17 : (Jvm.Cond.code ({ cls := "java/lang/AbstractStringBuilder", name := "newCapacity", desc := "(I)I" } : Jvm.MethodName) jdk_68_method_10_code (6 : Nat) (Option.some Jvm.ClassFile.FieldType.int)).before args0 about1 = true := code_word (m := ⟨12, 4⟩) (meth := k12m4) (c := k12c4) (by decide +kernel) rfl rfl rfl (by decide +kernel)
set_option maxRecDepth 65536 in
theorem w_c18 : (Jvm.Cond.code ({ cls := "jdk/internal/util/ArraysSupport", name := "newLength", desc := "(III)I" } : Jvm.MethodName) jdk_48_method_27_code (4 : Nat) (Option.some Jvm.ClassFile.FieldType.int)).before args0 about1 = true := code_word (m := ⟨14, 1⟩) (meth := k14m1) (c := k14c1) (by decide +kernel) rfl rfl rfl (by decide +kernel)
set_option maxRecDepth 65536 in
theorem w_c19 : (Jvm.Cond.code ({ cls := "java/lang/Math", name := "max", desc := "(II)I" } : Jvm.MethodName) jdk_29_method_65_code (2 : Nat) (Option.some Jvm.ClassFile.FieldType.int)).before args0 about1 = true := code_word (m := ⟨15, 1⟩) (meth := k15m1) (c := k15c1) (by decide +kernel) rfl rfl rfl (by decide +kernel)
set_option maxRecDepth 65536 in
theorem w_c20 : (Jvm.Cond.code ({ cls := "java/util/Arrays", name := "copyOf", desc := "([BI)[B" } : Jvm.MethodName) jdk_65_method_121_code (3 : Nat) (Option.some (Jvm.ClassFile.FieldType.array Jvm.ClassFile.FieldType.byte))).before args0 about1 = true := code_word (m := ⟨16, 1⟩) (meth := k16m1) (c := k16c1) (by decide +kernel) rfl rfl rfl (by decide +kernel)
set_option maxRecDepth 65536 in
theorem w_c21 : (Jvm.Cond.code ({ cls := "java/lang/Math", name := "min", desc := "(II)I" } : Jvm.MethodName) jdk_29_method_69_code (2 : Nat) (Option.some Jvm.ClassFile.FieldType.int)).before args0 about1 = true := code_word (m := ⟨15, 2⟩) (meth := k15m2) (c := k15c2) (by decide +kernel) rfl rfl rfl (by decide +kernel)
set_option maxRecDepth 65536 in
theorem w_c22 : (Jvm.Cond.code ({ cls := "java/lang/AbstractStringBuilder", name := "putStringAt", desc := "(ILjava/lang/String;)V" } : Jvm.MethodName) jdk_68_method_73_code (3 : Nat) (Option.none : Option Jvm.ClassFile.FieldType)).before args0 about1 = true := code_word (m := ⟨12, 10⟩) (meth := k12m10) (c := k12c10) (by decide +kernel) rfl rfl rfl (by decide +kernel)
set_option maxRecDepth 65536 in
theorem w_c23 : (Jvm.Cond.code ({ cls := "java/lang/AbstractStringBuilder", name := "inflateIfNeededFor", desc := "(Ljava/lang/String;)V" } : Jvm.MethodName) jdk_68_method_71_code (2 : Nat) (Option.none : Option Jvm.ClassFile.FieldType)).before args0 about1 = true := code_word (m := ⟨12, 9⟩) (meth := k12m9) (c := k12c9) (by decide +kernel) rfl rfl rfl (by decide +kernel)
set_option maxRecDepth 65536 in
theorem w_c24 : (Jvm.Cond.code ({ cls := "java/lang/String", name := "getBytes", desc := "([BIB)V" } : Jvm.MethodName) jdk_42_method_147_code (4 : Nat) (Option.none : Option Jvm.ClassFile.FieldType)).before args0 about1 = true := code_word (m := ⟨7, 5⟩) (meth := k7m5) (c := k7c5) (by decide +kernel) rfl rfl rfl (by decide +kernel)
set_option maxRecDepth 65536 in
theorem w_c25 : (Jvm.Cond.code ({ cls := "java/lang/StringBuilder", name := "append", desc := "(Z)Ljava/lang/StringBuilder;" } : Jvm.MethodName) jdk_67_method_13_code (2 : Nat) (Option.some (Jvm.ClassFile.FieldType.object "java/lang/StringBuilder"))).before args0 about1 = true := code_word (m := ⟨13, 2⟩) (meth := k13m2) (c := k13c2) (by decide +kernel) rfl rfl rfl (by decide +kernel)
set_option maxRecDepth 65536 in
theorem w_c26 : (Jvm.Cond.code ({ cls := "java/lang/AbstractStringBuilder", name := "append", desc := "(Z)Ljava/lang/AbstractStringBuilder;" } : Jvm.MethodName) jdk_68_method_30_code (4 : Nat) (Option.some (Jvm.ClassFile.FieldType.object "java/lang/AbstractStringBuilder"))).before args0 about1 = true := code_word (m := ⟨12, 6⟩) (meth := k12m6) (c := k12c6) (by decide +kernel) rfl rfl rfl (by decide +kernel)
set_option maxRecDepth 65536 in
theorem w_c27 : (Jvm.Cond.code ({ cls := "java/lang/AbstractStringBuilder", name := "isLatin1", desc := "()Z" } : Jvm.MethodName) jdk_68_method_68_code (1 : Nat) (Option.some Jvm.ClassFile.FieldType.boolean)).before args0 about1 = true := code_word (m := ⟨12, 8⟩) (meth := k12m8) (c := k12c8) (by decide +kernel) rfl rfl rfl (by decide +kernel)
set_option maxRecDepth 65536 in
theorem w_c28 : (Jvm.Cond.code ({ cls := "java/lang/StringBuilder", name := "toString", desc := "()Ljava/lang/String;" } : Jvm.MethodName) jdk_67_method_42_code (1 : Nat) (Option.some (Jvm.ClassFile.FieldType.object "java/lang/String"))).before args0 about1 = true := code_word (m := ⟨13, 3⟩) (meth := k13m3) (c := k13c3) (by decide +kernel) rfl rfl rfl (by decide +kernel)
set_option maxRecDepth 65536 in
theorem w_c29 : (Jvm.Cond.code ({ cls := "java/lang/String", name := "<init>", desc := "(Ljava/lang/StringBuilder;)V" } : Jvm.MethodName) jdk_42_method_53_code (2 : Nat) (Option.none : Option Jvm.ClassFile.FieldType)).before args0 about1 = true := code_word (m := ⟨7, 2⟩) (meth := k7m2) (c := k7c2) (by decide +kernel) rfl rfl rfl (by decide +kernel)
set_option maxRecDepth 65536 in
theorem w_c30 : (Jvm.Cond.code ({ cls := "java/lang/String", name := "<init>", desc := "(Ljava/lang/AbstractStringBuilder;Ljava/lang/Void;)V" } : Jvm.MethodName) jdk_42_method_150_code (5 : Nat) (Option.none : Option Jvm.ClassFile.FieldType)).before args0 about1 = true := code_word (m := ⟨7, 7⟩) (meth := k7m7) (c := k7c7) (by decide +kernel) rfl rfl rfl (by decide +kernel)
set_option maxRecDepth 65536 in
theorem w_c31 : (Jvm.Cond.code ({ cls := "java/lang/AbstractStringBuilder", name := "getValue", desc := "()[B" } : Jvm.MethodName) jdk_68_method_64_code (1 : Nat) (Option.some (Jvm.ClassFile.FieldType.array Jvm.ClassFile.FieldType.byte))).before args0 about1 = true := code_word (m := ⟨12, 7⟩) (meth := k12m7) (c := k12c7) (by decide +kernel) rfl rfl rfl (by decide +kernel)
set_option maxRecDepth 65536 in
theorem w_c32 : (Jvm.Cond.code ({ cls := "java/lang/StringBuilder", name := "length", desc := "()I" } : Jvm.MethodName) jdk_67_method_93_code (1 : Nat) (Option.some Jvm.ClassFile.FieldType.int)).before args0 about1 = true := code_word (m := ⟨13, 4⟩) (meth := k13m4) (c := k13c4) (by decide +kernel) rfl rfl rfl (by decide +kernel)
set_option maxRecDepth 65536 in
theorem w_c33 : (Jvm.Cond.code ({ cls := "java/lang/AbstractStringBuilder", name := "length", desc := "()I" } : Jvm.MethodName) jdk_68_method_6_code (1 : Nat) (Option.some Jvm.ClassFile.FieldType.int)).before args0 about1 = true := code_word (m := ⟨12, 2⟩) (meth := k12m2) (c := k12c2) (by decide +kernel) rfl rfl rfl (by decide +kernel)
set_option maxRecDepth 65536 in
theorem w_c34 : (Jvm.Cond.code ({ cls := "java/util/Arrays", name := "copyOfRange", desc := "([BII)[B" } : Jvm.MethodName) jdk_65_method_132_code (3 : Nat) (Option.some (Jvm.ClassFile.FieldType.array Jvm.ClassFile.FieldType.byte))).before args0 about1 = true := code_word (m := ⟨16, 3⟩) (meth := k16m3) (c := k16c3) (by decide +kernel) rfl rfl rfl (by decide +kernel)
set_option maxRecDepth 65536 in
theorem w_c35 : (Jvm.Cond.code ({ cls := "java/util/Arrays", name := "copyOfRangeByte", desc := "([BII)[B" } : Jvm.MethodName) jdk_65_method_133_code (5 : Nat) (Option.some (Jvm.ClassFile.FieldType.array Jvm.ClassFile.FieldType.byte))).before args0 about1 = true := code_word (m := ⟨16, 4⟩) (meth := k16m4) (c := k16c4) (by decide +kernel) rfl rfl rfl (by decide +kernel)
set_option maxRecDepth 65536 in
theorem w_c36 : (Jvm.Cond.code ({ cls := "java/util/Arrays", name := "checkLength", desc := "(II)V" } : Jvm.MethodName) jdk_65_method_131_code (2 : Nat) (Option.none : Option Jvm.ClassFile.FieldType)).before args0 about1 = true := code_word (m := ⟨16, 2⟩) (meth := k16m2) (c := k16c2) (by decide +kernel) rfl rfl rfl (by decide +kernel)
set_option maxRecDepth 65536 in
theorem w_c37 : (Jvm.Cond.code ({ cls := "java/lang/String", name := "equals", desc := "(Ljava/lang/Object;)Z" } : Jvm.MethodName) jdk_42_method_66_code (3 : Nat) (Option.some Jvm.ClassFile.FieldType.boolean)).before args0 about1 = true := code_word (m := ⟨7, 4⟩) (meth := k7m4) (c := k7c4) (by decide +kernel) rfl rfl rfl (by decide +kernel)
set_option maxRecDepth 65536 in
theorem w_c38 : (Jvm.Cond.code ({ cls := "java/lang/StringLatin1", name := "equals", desc := "([B[B)Z" } : Jvm.MethodName) jdk_43_method_13_code (3 : Nat) (Option.some Jvm.ClassFile.FieldType.boolean)).before args0 about1 = true := code_word (m := ⟨18, 1⟩) (meth := k18m1) (c := k18c1) (by decide +kernel) rfl rfl rfl (by decide +kernel)
def codes1 : List Jvm.Cond := [Jvm.Cond.code x code maxLocals ret, Jvm.Cond.code ({ cls := "java/lang/String", name := "<init>", desc := "([C)V" } : Jvm.MethodName) jdk_42_method_3_code (2 : Nat) (Option.none : Option Jvm.ClassFile.FieldType), Jvm.Cond.code ({ cls := "java/lang/String", name := "<init>", desc := "([CIILjava/lang/Void;)V" } : Jvm.MethodName) jdk_42_method_149_code (6 : Nat) (Option.none : Option Jvm.ClassFile.FieldType), Jvm.Cond.code ({ cls := "java/lang/Object", name := "<init>", desc := "()V" } : Jvm.MethodName) object_method_1_code (1 : Nat) (Option.none : Option Jvm.ClassFile.FieldType), Jvm.Cond.code ({ cls := "java/lang/StringUTF16", name := "compress", desc := "([CII)[B" } : Jvm.MethodName) jdk_52_method_16_code (6 : Nat) (Option.some (Jvm.ClassFile.FieldType.array Jvm.ClassFile.FieldType.byte)), Jvm.Cond.code ({ cls := "java/lang/StringUTF16", name := "compress", desc := "([CI[BII)I" } : Jvm.MethodName) jdk_52_method_21_code (7 : Nat) (Option.some Jvm.ClassFile.FieldType.int), Jvm.Cond.code ({ cls := "java/lang/StringUTF16", name := "coderFromArrayLen", desc := "([BI)B" } : Jvm.MethodName) jdk_52_method_15_code (2 : Nat) (Option.some Jvm.ClassFile.FieldType.byte), Jvm.Cond.code ({ cls := "com/example/assay/assay/config/ProbeSettings", name := "<init>", desc := "(Ljava/lang/String;Ljava/lang/String;Ljava/lang/String;Z)V" } : Jvm.MethodName) prog_20_method_1_code (5 : Nat) (Option.none : Option Jvm.ClassFile.FieldType), Jvm.Cond.code ({ cls := "java/lang/Record", name := "<init>", desc := "()V" } : Jvm.MethodName) jdk_30_method_1_code (1 : Nat) (Option.none : Option Jvm.ClassFile.FieldType), Jvm.Cond.code ({ cls := "com/example/assay/assay/config/ProbeSettings", name := "toString", desc := "()Ljava/lang/String;" } : Jvm.MethodName) prog_20_method_3_code (1 : Nat) (Option.some (Jvm.ClassFile.FieldType.object "java/lang/String")), Jvm.Cond.code ({ cls := "java/lang/StringBuilder", name := "<init>", desc := "()V" } : Jvm.MethodName) jdk_67_method_1_code (1 : Nat) (Option.none : Option Jvm.ClassFile.FieldType), Jvm.Cond.code ({ cls := "java/lang/AbstractStringBuilder", name := "<init>", desc := "(I)V" } : Jvm.MethodName) jdk_68_method_2_code (2 : Nat) (Option.none : Option Jvm.ClassFile.FieldType), Jvm.Cond.code ({ cls := "java/lang/StringBuilder", name := "append", desc := "(Ljava/lang/String;)Ljava/lang/StringBuilder;" } : Jvm.MethodName) jdk_67_method_7_code (2 : Nat) (Option.some (Jvm.ClassFile.FieldType.object "java/lang/StringBuilder")), Jvm.Cond.code ({ cls := "java/lang/AbstractStringBuilder", name := "append", desc := "(Ljava/lang/String;)Ljava/lang/AbstractStringBuilder;" } : Jvm.MethodName) jdk_68_method_22_code (3 : Nat) (Option.some (Jvm.ClassFile.FieldType.object "java/lang/AbstractStringBuilder")), Jvm.Cond.code ({ cls := "java/lang/String", name := "length", desc := "()I" } : Jvm.MethodName) jdk_42_method_54_code (1 : Nat) (Option.some Jvm.ClassFile.FieldType.int), Jvm.Cond.code ({ cls := "java/lang/String", name := "coder", desc := "()B" } : Jvm.MethodName) jdk_42_method_152_code (1 : Nat) (Option.some Jvm.ClassFile.FieldType.byte), Jvm.Cond.code ({ cls := "java/lang/AbstractStringBuilder", name := "ensureCapacityInternal", desc := "(I)V" } : Jvm.MethodName) jdk_68_method_9_code (3 : Nat) (Option.none : Option Jvm.ClassFile.FieldType), Jvm.Cond.code ({ cls := "java/lang/AbstractStringBuilder", name := "newCapacity", desc := "(I)I" } : Jvm.MethodName) jdk_68_method_10_code (6 : Nat) (Option.some Jvm.ClassFile.FieldType.int), Jvm.Cond.code ({ cls := "jdk/internal/util/ArraysSupport", name := "newLength", desc := "(III)I" } : Jvm.MethodName) jdk_48_method_27_code (4 : Nat) (Option.some Jvm.ClassFile.FieldType.int), Jvm.Cond.code ({ cls := "java/lang/Math", name := "max", desc := "(II)I" } : Jvm.MethodName) jdk_29_method_65_code (2 : Nat) (Option.some Jvm.ClassFile.FieldType.int), Jvm.Cond.code ({ cls := "java/util/Arrays", name := "copyOf", desc := "([BI)[B" } : Jvm.MethodName) jdk_65_method_121_code (3 : Nat) (Option.some (Jvm.ClassFile.FieldType.array Jvm.ClassFile.FieldType.byte)), Jvm.Cond.code ({ cls := "java/lang/Math", name := "min", desc := "(II)I" } : Jvm.MethodName) jdk_29_method_69_code (2 : Nat) (Option.some Jvm.ClassFile.FieldType.int), Jvm.Cond.code ({ cls := "java/lang/AbstractStringBuilder", name := "putStringAt", desc := "(ILjava/lang/String;)V" } : Jvm.MethodName) jdk_68_method_73_code (3 : Nat) (Option.none : Option Jvm.ClassFile.FieldType), Jvm.Cond.code ({ cls := "java/lang/AbstractStringBuilder", name := "inflateIfNeededFor", desc := "(Ljava/lang/String;)V" } : Jvm.MethodName) jdk_68_method_71_code (2 : Nat) (Option.none : Option Jvm.ClassFile.FieldType), Jvm.Cond.code ({ cls := "java/lang/String", name := "getBytes", desc := "([BIB)V" } : Jvm.MethodName) jdk_42_method_147_code (4 : Nat) (Option.none : Option Jvm.ClassFile.FieldType), Jvm.Cond.code ({ cls := "java/lang/StringBuilder", name := "append", desc := "(Z)Ljava/lang/StringBuilder;" } : Jvm.MethodName) jdk_67_method_13_code (2 : Nat) (Option.some (Jvm.ClassFile.FieldType.object "java/lang/StringBuilder")), Jvm.Cond.code ({ cls := "java/lang/AbstractStringBuilder", name := "append", desc := "(Z)Ljava/lang/AbstractStringBuilder;" } : Jvm.MethodName) jdk_68_method_30_code (4 : Nat) (Option.some (Jvm.ClassFile.FieldType.object "java/lang/AbstractStringBuilder")), Jvm.Cond.code ({ cls := "java/lang/AbstractStringBuilder", name := "isLatin1", desc := "()Z" } : Jvm.MethodName) jdk_68_method_68_code (1 : Nat) (Option.some Jvm.ClassFile.FieldType.boolean), Jvm.Cond.code ({ cls := "java/lang/StringBuilder", name := "toString", desc := "()Ljava/lang/String;" } : Jvm.MethodName) jdk_67_method_42_code (1 : Nat) (Option.some (Jvm.ClassFile.FieldType.object "java/lang/String")), Jvm.Cond.code ({ cls := "java/lang/String", name := "<init>", desc := "(Ljava/lang/StringBuilder;)V" } : Jvm.MethodName) jdk_42_method_53_code (2 : Nat) (Option.none : Option Jvm.ClassFile.FieldType), Jvm.Cond.code ({ cls := "java/lang/String", name := "<init>", desc := "(Ljava/lang/AbstractStringBuilder;Ljava/lang/Void;)V" } : Jvm.MethodName) jdk_42_method_150_code (5 : Nat) (Option.none : Option Jvm.ClassFile.FieldType), Jvm.Cond.code ({ cls := "java/lang/AbstractStringBuilder", name := "getValue", desc := "()[B" } : Jvm.MethodName) jdk_68_method_64_code (1 : Nat) (Option.some (Jvm.ClassFile.FieldType.array Jvm.ClassFile.FieldType.byte)), Jvm.Cond.code ({ cls := "java/lang/StringBuilder", name := "length", desc := "()I" } : Jvm.MethodName) jdk_67_method_93_code (1 : Nat) (Option.some Jvm.ClassFile.FieldType.int), Jvm.Cond.code ({ cls := "java/lang/AbstractStringBuilder", name := "length", desc := "()I" } : Jvm.MethodName) jdk_68_method_6_code (1 : Nat) (Option.some Jvm.ClassFile.FieldType.int), Jvm.Cond.code ({ cls := "java/util/Arrays", name := "copyOfRange", desc := "([BII)[B" } : Jvm.MethodName) jdk_65_method_132_code (3 : Nat) (Option.some (Jvm.ClassFile.FieldType.array Jvm.ClassFile.FieldType.byte)), Jvm.Cond.code ({ cls := "java/util/Arrays", name := "copyOfRangeByte", desc := "([BII)[B" } : Jvm.MethodName) jdk_65_method_133_code (5 : Nat) (Option.some (Jvm.ClassFile.FieldType.array Jvm.ClassFile.FieldType.byte)), Jvm.Cond.code ({ cls := "java/util/Arrays", name := "checkLength", desc := "(II)V" } : Jvm.MethodName) jdk_65_method_131_code (2 : Nat) (Option.none : Option Jvm.ClassFile.FieldType), Jvm.Cond.code ({ cls := "java/lang/String", name := "equals", desc := "(Ljava/lang/Object;)Z" } : Jvm.MethodName) jdk_42_method_66_code (3 : Nat) (Option.some Jvm.ClassFile.FieldType.boolean), Jvm.Cond.code ({ cls := "java/lang/StringLatin1", name := "equals", desc := "([B[B)Z" } : Jvm.MethodName) jdk_43_method_13_code (3 : Nat) (Option.some Jvm.ClassFile.FieldType.boolean)]
set_option maxRecDepth 65536 in
theorem codes_eq : words1.filter isCode = codes1 := rfl
theorem w_codes : ∀ c ∈ words1.filter isCode, c.before args0 about1 = true := by
  rw [codes_eq]
  intro c hc
  simp only [codes1, List.mem_cons, List.not_mem_nil, or_false] at hc
  rcases hc with rfl | rfl | rfl | rfl | rfl | rfl | rfl | rfl | rfl | rfl | rfl | rfl | rfl | rfl | rfl | rfl | rfl | rfl | rfl | rfl | rfl | rfl | rfl | rfl | rfl | rfl | rfl | rfl | rfl | rfl | rfl | rfl | rfl | rfl | rfl | rfl | rfl | rfl | rfl
  · exact w_c0
  · exact w_c1
  · exact w_c2
  · exact w_c3
  · exact w_c4
  · exact w_c5
  · exact w_c6
  · exact w_c7
  · exact w_c8
  · exact w_c9
  · exact w_c10
  · exact w_c11
  · exact w_c12
  · exact w_c13
  · exact w_c14
  · exact w_c15
  · exact w_c16
  · exact w_c17
  · exact w_c18
  · exact w_c19
  · exact w_c20
  · exact w_c21
  · exact w_c22
  · exact w_c23
  · exact w_c24
  · exact w_c25
  · exact w_c26
  · exact w_c27
  · exact w_c28
  · exact w_c29
  · exact w_c30
  · exact w_c31
  · exact w_c32
  · exact w_c33
  · exact w_c34
  · exact w_c35
  · exact w_c36
  · exact w_c37
  · exact w_c38
set_option maxRecDepth 65536 in
theorem w_t1 : (words1.take 24).all (fun c => isCode c || c.before args0 about1) = true := by decide +kernel
set_option maxRecDepth 65536 in
theorem w_t2 : ((words1.drop 24).take 24).all (fun c => isCode c || c.before args0 about1) = true := by decide +kernel
set_option maxRecDepth 65536 in
theorem w_t3 : (((words1.drop 24).drop 24).take 24).all (fun c => isCode c || c.before args0 about1) = true := by decide +kernel
set_option maxRecDepth 65536 in
theorem w_t4 : ((((words1.drop 24).drop 24).drop 24).take 24).all (fun c => isCode c || c.before args0 about1) = true := by decide +kernel
set_option maxRecDepth 65536 in
theorem w_t5 : (((((words1.drop 24).drop 24).drop 24).drop 24).take 24).all (fun c => isCode c || c.before args0 about1) = true := by decide +kernel
set_option maxRecDepth 65536 in
theorem w_t6 : ((((((words1.drop 24).drop 24).drop 24).drop 24).drop 24).take 24).all (fun c => isCode c || c.before args0 about1) = true := by decide +kernel
set_option maxRecDepth 65536 in
theorem w_t7 : (((((((words1.drop 24).drop 24).drop 24).drop 24).drop 24).drop 24).take 24).all (fun c => isCode c || c.before args0 about1) = true := by decide +kernel
set_option maxRecDepth 65536 in
theorem w_t8 : ((((((((words1.drop 24).drop 24).drop 24).drop 24).drop 24).drop 24).drop 24).take 24).all (fun c => isCode c || c.before args0 about1) = true := by decide +kernel
set_option maxRecDepth 65536 in
theorem w_t9 : ((((((((words1.drop 24).drop 24).drop 24).drop 24).drop 24).drop 24).drop 24).drop 24).all (fun c => isCode c || c.before args0 about1) = true := by decide +kernel
theorem w_tables : (allAtoms (Jvm.Cond.code x code maxLocals ret :: tables_1)).before args0 about1 = true := by
  rw [allAtoms_all]
  show words1.all (fun c => c.before args0 about1) = true
  refine all_split ?_ w_codes
  rw [← List.take_append_drop 24 words1, List.all_append, w_t1, ← List.take_append_drop 24 (words1.drop 24), List.all_append, w_t2, ← List.take_append_drop 24 ((words1.drop 24).drop 24), List.all_append, w_t3, ← List.take_append_drop 24 (((words1.drop 24).drop 24).drop 24), List.all_append, w_t4, ← List.take_append_drop 24 ((((words1.drop 24).drop 24).drop 24).drop 24), List.all_append, w_t5, ← List.take_append_drop 24 (((((words1.drop 24).drop 24).drop 24).drop 24).drop 24), List.all_append, w_t6, ← List.take_append_drop 24 ((((((words1.drop 24).drop 24).drop 24).drop 24).drop 24).drop 24), List.all_append, w_t7, ← List.take_append_drop 24 (((((((words1.drop 24).drop 24).drop 24).drop 24).drop 24).drop 24).drop 24), List.all_append, w_t8, w_t9]
  rfl
set_option maxRecDepth 65536 in
theorem w_rest : rest_1_c.before args0 about1 = true := by decide +kernel
set_option maxRecDepth 65536 in
theorem w_case : (Jvm.Cond.and given_1 narrow_1).before args0 about1 = true := by decide +kernel
set_option maxRecDepth 65536 in
theorem w_consts : constsHeld consts_1 about1 := Jvm.Lit.constsHeldB_iff.mp (by decide +kernel)
theorem w_applies : (headSpec (Jvm.Cond.code x code maxLocals ret :: tables_1) room_1).applies x e0.platform about1 = true :=
  (Spec.applies_iff w_frames).mpr ⟨w_running, w_runnable, w_alone, w_named, w_hears, w_ripe, w_room, w_tables⟩
theorem atStart : AtStart classFile x code maxLocals ret World_1 tables_1 room_1 Calls_1 rest_1 Pre_1 launch0 p0 e0 about1 theMethod args0 below0 :=
  ⟨lists_1, trivial, launch0.admits_env _ _ _, launch0.least_env, fairChoices_fair.cas, fairChoices_fair.clock, w_frames, w_args, w_heap, w_applies, ⟨w_consts, trivial⟩, w_rest, w_case⟩
end start1
theorem witness_1 : WitnessClaimed_1 := ⟨start1.p0, start1.e0, start1.about1, start1.theMethod, start1.args0, start1.below0, start1.atStart⟩
end Jvm.Pilot.@@N@@
