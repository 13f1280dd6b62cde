import JvmDerived
import JvmDerived.Pilot.@@N@@Statement
import JvmDerived.Pilot.@@N@@Code
set_option linter.unusedVariables false
set_option linter.unusedSimpArgs false
namespace Jvm.RoadKit
open Sem ClassFile Op Lib Jvm.Stand Jvm.Free Jvm.LawKit
section New
variable {p : Program} {l : Launch} {e : Env} {R : Room} {s : State} {m : MethodId} {args : Array Value} {below : List Frame} {meth : Method} {c : Code} {T : State} {locs : List Loc} {cells slots : Nat}
theorem retI (X : Stand p l e R s m args below meth c T locs cells slots) (hx : p.tables.exec = Jvm.exec) {pc : Nat} {Ls : Array Slot} {z : Int32} {rest : List Value} (hret : meth.sig.returnType = some .int) (hd : decode c.code pc = .ok (.ireturn, 1)) {fs : List Frame}
    (hl : ∀ (f : JFrame) (acts : List Action), f.method = m → f.locked = none → f.entered = [] → (doReturn e (T.setTop f) acts (some (.int z))).1 = T.setFrames fs) : Steps p.tables e below (T.setTop (mkF m pc Ls (.int z :: rest))) (T.setFrames fs) := by
  have hm' : T.vm.method? m = some meth := X.method'
  have hn : narrow .int (.int z) = .int z := rfl
  show Steps p.tables e below (T.setTop { method := m, pc := pc, locals := Ls, stack := _ :: rest, locked := none }) _
  jvm_step X.here [X.here.top, hx, hd, hm', hret, hn]
  first | (intro acts; rw [hl _ acts rfl rfl rfl]) | rw [hl _ _ rfl rfl rfl]
  exact Steps.refl _
end New
end Jvm.RoadKit
/- laws to paste: Road.backV (cut by pick.py; bodies as the Statement names them) -/
namespace Jvm.Pilot.@@N@@
namespace StrChars
open Jvm Sem ClassFile Op Lib Jvm.Stand Jvm.Free.XT Jvm.Free.ALB Jvm.Free.JM Jvm.Free
open Jvm.Lib.Cold (StaticIs)
/-- a char array whose places are chars -/
def Ch (a : Addr) (A : Cell) (U : State) : Prop := Arr .char a A U ∧ Typed .char A
theorem Ch.mv {a : Addr} {A : Cell} {U U' : State} (h : Ch a A U) (hal : U.vm.Alike U'.vm) (hh : U'.heap = U.heap) : Ch a A U' := ⟨h.1.mv hal hh, h.2⟩
theorem Ch.keep {a : Addr} {A : Cell} {U U' : State} (h : Ch a A U) (hal : U.vm.Alike U'.vm) (hk : U'.heap[a]? = some A) : Ch a A U' := ⟨h.1.keep hal hk, h.2⟩
/-- what place i of a char[]'s cell holds -/
def cv (A : Cell) (i : Nat) : Int32 := match A.slots[i]? with | some (.int x) => x | _ => 0
theorem Ch.get {a : Addr} {A : Cell} {U : State} (h : Ch a A U) {i : Nat} (hi : i < A.slots.size) : A.slots[i]? = some (.int (cv A i)) := by
  have e := Array.getElem?_eq_getElem hi
  have f := h.2 i _ e
  unfold cv; rw [e]
  generalize A.slots[i] = v at f
  cases v <;> simp [fits] at f ⊢
/-- the byte that i2b leaves of a char -/
def lo8 (x : Int32) : Int32 := x.toInt8.toInt32
theorem fits_lo8 (y : Int32) : fits .byte (.int (lo8 y)) = true := by
  have h1 := y.toInt8.le_toInt
  have h2 := y.toInt8.toInt_lt
  simp only [lo8, fits, Bool.and_eq_true, decide_eq_true_eq, Int32.le_iff_toInt_le, Int8.toInt_toInt32, show (-128 : Int32).toInt = -128 from by decide, show (127 : Int32).toInt = 127 from by decide]
  omega
/-- A' is A but that each place j of lo .. hi - 1 holds f j -/
def Laid (A A' : Cell) (lo hi : Nat) (f : Nat → Value) : Prop := A'.cls = A.cls ∧ A'.vm = A.vm ∧ A'.slots.size = A.slots.size ∧ ∀ i, A'.slots[i]? = if lo ≤ i ∧ i < hi then some (f i) else A.slots[i]?
theorem Laid.zero (A : Cell) (lo : Nat) (f : Nat → Value) : Laid A A lo (lo + 0) f := ⟨rfl, rfl, rfl, fun i => by rw [if_neg (by omega)]⟩
theorem Laid.step {A Ak : Cell} {lo k : Nat} {f : Nat → Value} {v : Value} (h : Laid A Ak lo k f) (hlo : lo ≤ k) (hk : k < Ak.slots.size) (hv : v = f k) : Laid A (Ak.setSlot k v) lo (k + 1) f := by
  refine ⟨h.1, h.2.1, by simpa [Cell.setSlot] using h.2.2.1, fun i => ?_⟩
  by_cases e : k = i
  · subst e; rw [Cell.slots_setSlot_self v hk, if_pos (by omega), hv]
  · rw [Cell.slots_setSlot_ne v e, h.2.2.2 i]
    by_cases q : lo ≤ i ∧ i < k
    · rw [if_pos q, if_pos (by omega)]
    · rw [if_neg q, if_neg (by omega)]
def U16 : String := "java/lang/StringUTF16"
namespace Cmp5
def yN : MethodName := ⟨"java/lang/StringUTF16", "compress", "([CI[BII)I"⟩
abbrev yB : ByteArray := jdk_52_method_21_code
theorem d0 : decode yB 0 = .ok (.iconst 0, 1) := by decide +kernel
theorem d1 : decode yB 1 = .ok (.istore 5, 2) := by decide +kernel
theorem d3 : decode yB 3 = .ok (.iload 5, 2) := by decide +kernel
theorem d5 : decode yB 5 = .ok (.iload 4, 2) := by decide +kernel
theorem d7 : decode yB 7 = .ok (.if_icmp (.ge) 37, 3) := by decide +kernel
theorem d10 : decode yB 10 = .ok (.aload_n 0, 1) := by decide +kernel
theorem d11 : decode yB 11 = .ok (.iload_n 1, 1) := by decide +kernel
theorem d12 : decode yB 12 = .ok (.caload, 1) := by decide +kernel
theorem d13 : decode yB 13 = .ok (.istore 6, 2) := by decide +kernel
theorem d15 : decode yB 15 = .ok (.iload 6, 2) := by decide +kernel
theorem d17 : decode yB 17 = .ok (.sipush 255, 3) := by decide +kernel
theorem d20 : decode yB 20 = .ok (.if_icmp (.le) 6, 3) := by decide +kernel
theorem d26 : decode yB 26 = .ok (.aload_n 2, 1) := by decide +kernel
theorem d27 : decode yB 27 = .ok (.iload_n 3, 1) := by decide +kernel
theorem d28 : decode yB 28 = .ok (.iload 6, 2) := by decide +kernel
theorem d30 : decode yB 30 = .ok (.i2b, 1) := by decide +kernel
theorem d31 : decode yB 31 = .ok (.bastore, 1) := by decide +kernel
theorem d32 : decode yB 32 = .ok (.iinc 1 1, 3) := by decide +kernel
theorem d35 : decode yB 35 = .ok (.iinc 3 1, 3) := by decide +kernel
theorem d38 : decode yB 38 = .ok (.iinc 5 1, 3) := by decide +kernel
theorem d41 : decode yB 41 = .ok (.goto (-38), 3) := by decide +kernel
theorem d44 : decode yB 44 = .ok (.iload 4, 2) := by decide +kernel
theorem d46 : decode yB 46 = .ok (.ireturn, 1) := by decide +kernel
def site : List Cond := []
def tab : Cond := tabOf yN yB 7 (some .int) site
def P (b : Addr) (A : Cell) (d : Addr) (B : Cell) (o q len : Nat) (args : Array Value) (s : State) : Prop := args = #[.ref b, .int (Int32.ofNat o), .ref d, .int (Int32.ofNat q), .int (Int32.ofNat len)] ∧ Ch b A s ∧ Arr .byte d B s ∧ b ≠ d ∧ o + len ≤ A.slots.size ∧ q + len ≤ B.slots.size ∧ ∀ i, i < len → ¬ 255 < cv A (o + i)
def E (b : Addr) (A : Cell) (d : Addr) (B : Cell) (o q len : Nat) (r : Option Value) (s u : State) : Prop := r = some (.int (Int32.ofNat len)) ∧ ∃ B', Put d B' s u ∧ Laid B B' q (q + len) (fun j => Value.int (lo8 (cv A (o + (j - q)))))
/-- no char of the range above 255: len; the places written hold each char's low byte -/
theorem law (l : Launch) (b : Addr) (A : Cell) (d : Addr) (B : Cell) (o q len : Nat) : Law l yN 5 5 0 0 yB 7 (some .int) site (P b A d B o q len) (E b A d B o q len) (copyLocs d q len) 0 0 := by
  refine Law.of_walk (plainFor_of_name (by decide +kernel)) (by decide +kernel) (by decide +kernel) (by decide) (fun _ _ h => by rw [h.1]; rfl) (fun _ U U' hal hh h => ⟨h.1, h.2.1.mv hal hh, h.2.2.1.mv hal hh, h.2.2.2⟩) (fun r U U' V V' h1 hal h2 h => ⟨h.1, h.2.elim fun B' q => ⟨B', q.1.mv h1 h2, q.2⟩⟩) ?_
  intro p e s m args below meth c s₁ X0 hexec hbytes hml hret hlk hnm hown hh0 W hP
  obtain ⟨rfl, hA, hB, hne, l1, l2, hp⟩ := hP
  have c1 : Steps p.tables e below (s₁.setTop (entryFrame m #[.ref b, .int (Int32.ofNat o), .ref d, .int (Int32.ofNat q), .int (Int32.ofNat len)] 7)) (s₁.setTop (mkF m 0 #[.val (.ref b), .val (.int (Int32.ofNat o)), .val (.ref d), .val (.int (Int32.ofNat q)), .val (.int (Int32.ofNat len)), .unset, .unset] [])) := entry rfl
  have hA0 := hA.1.mv X0.warmed.alike hh0
  have hB0 := hB.mv X0.warmed.alike hh0
  have a31 := hA.1.2.2.2
  have c2 : Steps p.tables e below (s₁.setTop (entryFrame m #[.ref b, .int (Int32.ofNat o), .ref d, .int (Int32.ofNat q), .int (Int32.ofNat len)] 7)) (s₁.setTop (mkF m 3 #[.val (.ref b), .val (.int (Int32.ofNat o)), .val (.ref d), .val (.int (Int32.ofNat q)), .val (.int (Int32.ofNat len)), .val (.int 0), .unset] [])) := c1.trans (by
    refine iconstV X0.here hexec rfl 0 (hb hbytes d0) (by decide) ?_
    refine XS.istore X0.here hexec rfl (hb hbytes d1) rfl rfl ?_
    exact Steps.refl _)
  have loop : ∀ (r i : Nat), i + r = len → ∀ (z : Slot), (z = .unset ∨ ∃ w, z = .val w ∧ w.category = 1) → ∀ (Tl : State) (Bk : Cell), Stand p l e { frames := 0, locals := 0, cells := 0, slots := 0 } s m #[.ref b, .int (Int32.ofNat o), .ref d, .int (Int32.ofNat q), .int (Int32.ofNat len)] below meth c Tl ([] ++ copyLocs d q i) 0 0 → Put d Bk s₁ Tl → Laid B Bk q (q + i) (fun j => Value.int (lo8 (cv A (o + (j - q))))) →
      Steps p.tables e below (s₁.setTop (entryFrame m #[.ref b, .int (Int32.ofNat o), .ref d, .int (Int32.ofNat q), .int (Int32.ofNat len)] 7)) (Tl.setTop (mkF m 3 #[.val (.ref b), .val (.int (Int32.ofNat (o + i))), .val (.ref d), .val (.int (Int32.ofNat (q + i))), .val (.int (Int32.ofNat len)), .val (.int (Int32.ofNat i)), z] [])) → ∃ (T' : State) (B' : Cell) (z' : Slot), Stand p l e { frames := 0, locals := 0, cells := 0, slots := 0 } s m #[.ref b, .int (Int32.ofNat o), .ref d, .int (Int32.ofNat q), .int (Int32.ofNat len)] below meth c T' ([] ++ copyLocs d q len) 0 0 ∧ Put d B' s₁ T' ∧ Laid B B' q (q + len) (fun j => Value.int (lo8 (cv A (o + (j - q))))) ∧
      Steps p.tables e below (s₁.setTop (entryFrame m #[.ref b, .int (Int32.ofNat o), .ref d, .int (Int32.ofNat q), .int (Int32.ofNat len)] 7)) (T'.setTop (mkF m 3 #[.val (.ref b), .val (.int (Int32.ofNat (o + len))), .val (.ref d), .val (.int (Int32.ofNat (q + len))), .val (.int (Int32.ofNat len)), .val (.int (Int32.ofNat len)), z'] [])) := by
    intro r
    induction r with
    | zero =>
      intro i hi z hz Tl Bk Xl pl fl cl
      have hil : i = len := by omega
      rw [hil] at Xl fl cl
      exact ⟨Tl, Bk, z, Xl, pl, fl, cl⟩
    | succ r ih =>
      intro i hi z hz Tl Bk Xl pl fl cl
      have all := X0.warmed.alike.symm.trans Xl.warmed.alike
      have hAl := hA0.keep all (pl.other hne hA0.1)
      have hBk := hB0.like all pl.1 fl.1 fl.2.1 fl.2.2.1
      have hlt : q + i < Bk.slots.size := by rw [fl.2.2.1]; omega
      have c3 : Steps p.tables e below (s₁.setTop (entryFrame m #[.ref b, .int (Int32.ofNat o), .ref d, .int (Int32.ofNat q), .int (Int32.ofNat len)] 7)) (Tl.setTop (mkF m 12 #[.val (.ref b), .val (.int (Int32.ofNat (o + i))), .val (.ref d), .val (.int (Int32.ofNat (q + i))), .val (.int (Int32.ofNat len)), .val (.int (Int32.ofNat i)), z] [.int (Int32.ofNat (o + i)), .ref b])) := cl.trans (by
        refine XS.iload Xl.here hexec rfl (hb hbytes d3) rfl ?_
        refine XS.iload Xl.here hexec rfl (hb hbytes d5) rfl ?_
        refine XS.icmpNo Xl.here hexec rfl (hb hbytes d7) rfl (ii_ge_f (lt32 (by omega) (by omega))) ?_
        refine XS.aloadN Xl.here hexec rfl (hb hbytes d10) rfl rfl ?_
        refine XS.iloadN Xl.here hexec rfl (hb hbytes d11) rfl ?_
        exact Steps.refl _)
      have c4 : Steps p.tables e below (s₁.setTop (entryFrame m #[.ref b, .int (Int32.ofNat o), .ref d, .int (Int32.ofNat q), .int (Int32.ofNat len)] 7)) (Tl.setTop (mkF m 13 #[.val (.ref b), .val (.int (Int32.ofNat (o + i))), .val (.ref d), .val (.int (Int32.ofNat (q + i))), .val (.int (Int32.ofNat len)), .val (.int (Int32.ofNat i)), z] [.int (cv A (o + i))])) := c3.trans (by
        refine Xl.aget hexec hAl rfl (hA.get (i := o + i) (by omega)) rfl rfl (hb hbytes d12) ?_
        exact Steps.refl _)
      have c5 : Steps p.tables e below (s₁.setTop (entryFrame m #[.ref b, .int (Int32.ofNat o), .ref d, .int (Int32.ofNat q), .int (Int32.ofNat len)] 7)) (Tl.setTop (mkF m 15 #[.val (.ref b), .val (.int (Int32.ofNat (o + i))), .val (.ref d), .val (.int (Int32.ofNat (q + i))), .val (.int (Int32.ofNat len)), .val (.int (Int32.ofNat i)), .val (.int (cv A (o + i)))] [])) := c4.trans (by
        refine XS.istoreS Xl.here hexec rfl (hb hbytes d13) rfl rfl hz ?_
        exact Steps.refl _)
      have c6 : Steps p.tables e below (s₁.setTop (entryFrame m #[.ref b, .int (Int32.ofNat o), .ref d, .int (Int32.ofNat q), .int (Int32.ofNat len)] 7)) (Tl.setTop (mkF m 31 #[.val (.ref b), .val (.int (Int32.ofNat (o + i))), .val (.ref d), .val (.int (Int32.ofNat (q + i))), .val (.int (Int32.ofNat len)), .val (.int (Int32.ofNat i)), .val (.int (cv A (o + i)))] [.int (lo8 (cv A (o + i))), .int (Int32.ofNat (q + i)), .ref d])) := c5.trans (by
        refine XS.iload Xl.here hexec rfl (hb hbytes d15) rfl ?_
        refine sipushV Xl.here hexec rfl 255 (hb hbytes d17) (by decide) ?_
        refine XS.icmpYes Xl.here hexec rfl (pc0 := 20) rfl (hb hbytes d20) rfl (ii_le_t (hp i (by omega))) (by decide) rfl ?_
        refine XS.aloadN Xl.here hexec rfl (hb hbytes d26) rfl rfl ?_
        refine XS.iloadN Xl.here hexec rfl (hb hbytes d27) rfl ?_
        refine XS.iload Xl.here hexec rfl (hb hbytes d28) rfl ?_
        refine i2b Xl.here hexec rfl (hb hbytes d30) rfl ?_
        exact Steps.refl _)
      obtain ⟨T7, X7, p7, st7⟩ := Xl.aput hexec hBk rfl hlt rfl (fits_lo8 (cv A (o + i))) (g := (mkF m 31 #[.val (.ref b), .val (.int (Int32.ofNat (o + i))), .val (.ref d), .val (.int (Int32.ofNat (q + i))), .val (.int (Int32.ofNat len)), .val (.int (Int32.ofNat i)), .val (.int (cv A (o + i)))] [.int (lo8 (cv A (o + i))), .int (Int32.ofNat (q + i)), .ref d])) rfl (rest := []) rfl (hb hbytes d31)
      have c8 : Steps p.tables e below (s₁.setTop (entryFrame m #[.ref b, .int (Int32.ofNat o), .ref d, .int (Int32.ofNat q), .int (Int32.ofNat len)] 7)) (T7.setTop (mkF m 32 #[.val (.ref b), .val (.int (Int32.ofNat (o + i))), .val (.ref d), .val (.int (Int32.ofNat (q + i))), .val (.int (Int32.ofNat len)), .val (.int (Int32.ofNat i)), .val (.int (cv A (o + i)))] [])) := c6.trans (st7 _ (Steps.refl _))
      have c9 : Steps p.tables e below (s₁.setTop (entryFrame m #[.ref b, .int (Int32.ofNat o), .ref d, .int (Int32.ofNat q), .int (Int32.ofNat len)] 7)) (T7.setTop (mkF m 3 #[.val (.ref b), .val (.int (Int32.ofNat (o + i) + 1)), .val (.ref d), .val (.int (Int32.ofNat (q + i) + 1)), .val (.int (Int32.ofNat len)), .val (.int (Int32.ofNat i + 1)), .val (.int (cv A (o + i)))] [])) := c8.trans (by
        refine iincV X7.here hexec rfl 1 (hb hbytes d32) (by decide) rfl rfl ?_
        refine iincV X7.here hexec rfl 1 (hb hbytes d35) (by decide) rfl rfl ?_
        refine iincV X7.here hexec rfl 1 (hb hbytes d38) (by decide) rfl rfl ?_
        refine XS.goto X7.here hexec rfl (pc0 := 41) rfl (hb hbytes d41) (by decide) rfl ?_
        exact Steps.refl _)
      have c10 : Steps p.tables e below (s₁.setTop (entryFrame m #[.ref b, .int (Int32.ofNat o), .ref d, .int (Int32.ofNat q), .int (Int32.ofNat len)] 7)) (T7.setTop (mkF m 3 #[.val (.ref b), .val (.int (Int32.ofNat (o + (i + 1)))), .val (.ref d), .val (.int (Int32.ofNat (q + (i + 1)))), .val (.int (Int32.ofNat len)), .val (.int (Int32.ofNat (i + 1))), .val (.int (cv A (o + i)))] [])) := by
        have := c9
        rw [succ32, succ32, succ32] at this
        exact this
      exact ih (i + 1) (by omega) _ (Or.inr ⟨_, rfl, rfl⟩) T7 _ (by rw [copyLocs_step, ← List.append_assoc]; exact X7) (pl.trans p7) (fl.step (by omega) hlt (by simp)) c10
  obtain ⟨T9, B9, z9, X9, p9, f9, g9⟩ := loop len 0 (by omega) .unset (Or.inl rfl) s₁ B (by simpa [copyLocs] using X0) ⟨hB0.1, fun _ _ => rfl, rfl⟩ (Laid.zero _ _ _) c2
  have c11 : Steps p.tables e below (s₁.setTop (entryFrame m #[.ref b, .int (Int32.ofNat o), .ref d, .int (Int32.ofNat q), .int (Int32.ofNat len)] 7)) (T9.setTop (mkF m 46 #[.val (.ref b), .val (.int (Int32.ofNat (o + len))), .val (.ref d), .val (.int (Int32.ofNat (q + len))), .val (.int (Int32.ofNat len)), .val (.int (Int32.ofNat len)), z9] [.int (Int32.ofNat len)])) := g9.trans (by
    refine XS.iload X9.here hexec rfl (hb hbytes d3) rfl ?_
    refine XS.iload X9.here hexec rfl (hb hbytes d5) rfl ?_
    refine XS.icmpYes X9.here hexec rfl (pc0 := 7) rfl (hb hbytes d7) rfl (ii_ge_t (nlt32 (by omega) (Nat.le_refl _))) (by decide) rfl ?_
    refine XS.iload X9.here hexec rfl (hb hbytes d44) rfl ?_
    exact Steps.refl _)
  exact ⟨T9, some (.int (Int32.ofNat len)), _, _, _, X9, by simp, rfl, rfl, (fun h => by cases h), ⟨rfl, B9, p9.from hh0, f9⟩, fun fs hl => c11.trans (X9.ireturnOut hexec hret rfl (Or.inl rfl) (hb hbytes d46) hl)⟩
end Cmp5
namespace Cmp3
def yN : MethodName := ⟨"java/lang/StringUTF16", "compress", "([CII)[B"⟩
abbrev yB : ByteArray := jdk_52_method_16_code
theorem d0 : decode yB 0 = .ok (.iload_n 2, 1) := by decide +kernel
theorem d1 : decode yB 1 = .ok (.newarray .byte, 2) := by decide +kernel
theorem d3 : decode yB 3 = .ok (.astore_n 3, 1) := by decide +kernel
theorem d4 : decode yB 4 = .ok (.aload_n 0, 1) := by decide +kernel
theorem d5 : decode yB 5 = .ok (.iload_n 1, 1) := by decide +kernel
theorem d6 : decode yB 6 = .ok (.aload_n 3, 1) := by decide +kernel
theorem d7 : decode yB 7 = .ok (.iconst 0, 1) := by decide +kernel
theorem d8 : decode yB 8 = .ok (.iload_n 2, 1) := by decide +kernel
theorem d9 : decode yB 9 = .ok (.invokestatic 115, 3) := by decide +kernel
theorem d12 : decode yB 12 = .ok (.istore 4, 2) := by decide +kernel
theorem d14 : decode yB 14 = .ok (.iload 4, 2) := by decide +kernel
theorem d16 : decode yB 16 = .ok (.iload_n 2, 1) := by decide +kernel
theorem d17 : decode yB 17 = .ok (.if_icmp (.eq) 40, 3) := by decide +kernel
theorem d57 : decode yB 57 = .ok (.aload_n 3, 1) := by decide +kernel
theorem d58 : decode yB 58 = .ok (.areturn, 1) := by decide +kernel
def site : List Cond := [.arrayClass .byte, Cmp5.tab] ++ staticW U16 115 Cmp5.yN
def tab : Cond := tabOf yN yB 6 (some (.array .byte)) site
def P (b : Addr) (A : Cell) (o len : Nat) (args : Array Value) (s : State) : Prop := args = #[.ref b, .int (Int32.ofNat o), .int (Int32.ofNat len)] ∧ Ch b A s ∧ o + len ≤ A.slots.size ∧ len ≤ 536870912 ∧ ∀ i, i < len → ¬ 255 < cv A (o + i)
def E (b : Addr) (A : Cell) (o len : Nat) (r : Option Value) (s u : State) : Prop := NewArr .byte "[B" len (fun j => .int (lo8 (cv A (o + j)))) r s u ∧ u.heap.size = s.heap.size + 1
/-- no char of the range above 255: a new byte[] of their low bytes -/
theorem law (l : Launch) (b : Addr) (A : Cell) (o len : Nat) : Law l yN 3 3 1 18 yB 6 (some (.array .byte)) site (P b A o len) (E b A o len) [] 1 len := by
  refine Law.of_walk (plainFor_of_name (by decide +kernel)) (by decide +kernel) (by decide +kernel) (by decide) (fun _ _ h => by rw [h.1]; rfl) (fun _ U U' hal hh h => ⟨h.1, h.2.1.mv hal hh, h.2.2⟩) (fun r U U' V V' h1 hal h2 h => ⟨NewArr.mv r U U' V V' h1 hal h2 h.1, by rw [h1, h2]; exact h.2⟩) ?_
  intro p e s m args below meth c s₁ X0 hexec hbytes hml hret hlk hnm hown hh0 W hP
  obtain ⟨rfl, hA, l1, l2, hp⟩ := hP
  have a31 := hA.1.2.2.2
  have c1 : Steps p.tables e below (s₁.setTop (entryFrame m #[.ref b, .int (Int32.ofNat o), .int (Int32.ofNat len)] 6)) (s₁.setTop (mkF m 0 #[.val (.ref b), .val (.int (Int32.ofNat o)), .val (.int (Int32.ofNat len)), .unset, .unset, .unset] [])) := entry rfl
  have c2 : Steps p.tables e below (s₁.setTop (entryFrame m #[.ref b, .int (Int32.ofNat o), .int (Int32.ofNat len)] 6)) (s₁.setTop (mkF m 1 #[.val (.ref b), .val (.int (Int32.ofNat o)), .val (.int (Int32.ofNat len)), .unset, .unset, .unset] [.int (Int32.ofNat len)])) := c1.trans (by
    refine XS.iloadN X0.here hexec rfl (hb hbytes d0) rfl ?_
    exact Steps.refl _)
  obtain ⟨T3, B3, X3, ba3, bs3, bv3, bh3, bf3, st3⟩ := X0.anew hexec (atype := .byte) (wk W (.arrayClass .byte)) rfl (by show len * 1 ≤ _; omega) (by omega) (g := (mkF m 1 #[.val (.ref b), .val (.int (Int32.ofNat o)), .val (.int (Int32.ofNat len)), .unset, .unset, .unset] [.int (Int32.ofNat len)])) rfl (hb hbytes d1) (rest := []) rfl (Nat.le_refl _) (by show 0 + len ≤ len; omega)
  rw [hh0] at ba3 st3
  have kp3 : XT.Kept s T3 := (XT.Kept.of_eq hh0).push bh3
  have hA3 := hA.keep X3.warmed.alike (kp3 _ _ hA.1.1)
  have hne : b ≠ s.heap.size := hA.1.ne
  have c4 : Steps p.tables e below (s₁.setTop (entryFrame m #[.ref b, .int (Int32.ofNat o), .int (Int32.ofNat len)] 6)) (T3.setTop (mkF m 3 #[.val (.ref b), .val (.int (Int32.ofNat o)), .val (.int (Int32.ofNat len)), .unset, .unset, .unset] [.ref s.heap.size])) := c2.trans (st3 _ (Steps.refl _))
  have c5 : Steps p.tables e below (s₁.setTop (entryFrame m #[.ref b, .int (Int32.ofNat o), .int (Int32.ofNat len)] 6)) (T3.setTop (mkF m 9 #[.val (.ref b), .val (.int (Int32.ofNat o)), .val (.int (Int32.ofNat len)), .val (.ref s.heap.size), .unset, .unset] [.int (Int32.ofNat len), .int 0, .ref s.heap.size, .int (Int32.ofNat o), .ref b])) := c4.trans (by
    refine XS.astoreN X3.here hexec rfl (hb hbytes d3) rfl rfl rfl ?_
    refine XS.aloadN X3.here hexec rfl (hb hbytes d4) rfl rfl ?_
    refine XS.iloadN X3.here hexec rfl (hb hbytes d5) rfl ?_
    refine XS.aloadN X3.here hexec rfl (hb hbytes d6) rfl rfl ?_
    refine iconstV X3.here hexec rfl 0 (hb hbytes d7) (by decide) ?_
    refine XS.iloadN X3.here hexec rfl (hb hbytes d8) rfl ?_
    exact Steps.refl _)
  obtain ⟨v6, T6, X6, E6, g6⟩ := X3.callS hexec (Cmp5.law l b A s.heap.size B3 o 0 len) hown (wks W (staticW U16 115 Cmp5.yN)) (wk W Cmp5.tab) (W := 0) (Nat.le_of_ble_eq_true rfl) (Nat.le_of_ble_eq_true rfl) (Nat.le_refl _) (by show 0 + len + 0 ≤ len; omega) (g := (mkF m 9 #[.val (.ref b), .val (.int (Int32.ofNat o)), .val (.int (Int32.ofNat len)), .val (.ref s.heap.size), .unset, .unset] [.int (Int32.ofNat len), .int (Int32.ofNat 0), .ref s.heap.size, .int (Int32.ofNat o), .ref b])) rfl (by rw [hml]; rfl) c5 (argsL := [.ref b, .int (Int32.ofNat o), .ref s.heap.size, .int (Int32.ofNat 0), .int (Int32.ofNat len)]) (rest := []) rfl rfl (by show 2 * 0 + 0 ≤ _; decide) (hb hbytes d9) (⟨rfl, hA3, ba3, hne, l1, by rw [bs3]; simp, hp⟩)
  obtain ⟨rfl, B6, p6, f6⟩ := E6
  have c7 : Steps p.tables e below (s₁.setTop (entryFrame m #[.ref b, .int (Int32.ofNat o), .int (Int32.ofNat len)] 6)) (T6.setTop (mkF m 12 #[.val (.ref b), .val (.int (Int32.ofNat o)), .val (.int (Int32.ofNat len)), .val (.ref s.heap.size), .unset, .unset] [.int (Int32.ofNat len)])) := g6
  have c8 : Steps p.tables e below (s₁.setTop (entryFrame m #[.ref b, .int (Int32.ofNat o), .int (Int32.ofNat len)] 6)) (T6.setTop (mkF m 58 #[.val (.ref b), .val (.int (Int32.ofNat o)), .val (.int (Int32.ofNat len)), .val (.ref s.heap.size), .val (.int (Int32.ofNat len)), .unset] [.ref s.heap.size])) := c7.trans (by
    refine XS.istore X6.here hexec rfl (hb hbytes d12) rfl rfl ?_
    refine XS.iload X6.here hexec rfl (hb hbytes d14) rfl ?_
    refine XS.iloadN X6.here hexec rfl (hb hbytes d16) rfl ?_
    refine XS.icmpYes X6.here hexec rfl (pc0 := 17) rfl (hb hbytes d17) rfl (ii_eq_t rfl) (by decide) rfl ?_
    refine XS.aloadN X6.here hexec rfl (hb hbytes d57) rfl rfl ?_
    exact Steps.refl _)
  have X8 := X6.wide (L' := []) (cells' := 1) (slots' := len) (fun x hx hlt => by
    simp only [List.nil_append, copyLocs, List.mem_map, List.mem_range] at hx
    obtain ⟨i, -, rfl⟩ := hx
    exact absurd hlt (Nat.lt_irrefl _)) (Nat.le_refl _) (by omega)
  exact ⟨T6, some (.ref s.heap.size), _, _, _, X8, rfl, rfl, rfl, (fun h => by cases h), ⟨⟨rfl, B6, ba3.like (X3.warmed.alike.symm.trans X6.warmed.alike) p6.1 f6.1 f6.2.1 f6.2.2.1, f6.2.1.trans bv3, by rw [X6.warmed.alike.findClass, f6.1]; exact bf3, by rw [f6.2.2.1, bs3]; simp, fun j hj => by rw [f6.2.2.2 j, if_pos (by omega)]; rfl, kp3.put p6 (Nat.le_refl _)⟩, by rw [p6.2.2, bh3, hh0]; simp⟩, fun fs hl => c8.trans (X8.areturnOut hexec rfl hret rfl (hb hbytes d58) hl)⟩
end Cmp3
namespace CodL
def yN : MethodName := ⟨"java/lang/StringUTF16", "coderFromArrayLen", "([BI)B"⟩
abbrev yB : ByteArray := jdk_52_method_15_code
theorem d0 : decode yB 0 = .ok (.iload_n 1, 1) := by decide +kernel
theorem d1 : decode yB 1 = .ok (.aload_n 0, 1) := by decide +kernel
theorem d2 : decode yB 2 = .ok (.arraylength, 1) := by decide +kernel
theorem d3 : decode yB 3 = .ok (.isub, 1) := by decide +kernel
theorem d4 : decode yB 4 = .ok (.bipush 31, 2) := by decide +kernel
theorem d6 : decode yB 6 = .ok (.iushr, 1) := by decide +kernel
theorem d7 : decode yB 7 = .ok (.i2b, 1) := by decide +kernel
theorem d8 : decode yB 8 = .ok (.ireturn, 1) := by decide +kernel
def site : List Cond := []
def tab : Cond := tabOf yN yB 2 (some .byte) site
def P (d : Addr) (B : Cell) (args : Array Value) (s : State) : Prop := args = #[.ref d, .int (Int32.ofNat B.slots.size)] ∧ Arr .byte d B s
def E (r : Option Value) (s u : State) : Prop := XT.PureE (some (.int 0)) r s u
/-- an array as long as the number of chars: LATIN1 -/
theorem law (l : Launch) (d : Addr) (B : Cell) : Law l yN 2 2 0 0 yB 2 (some .byte) site (P d B) E [] 0 0 := by
  refine Law.of_walk (plainFor_of_name (by decide +kernel)) (by decide +kernel) (by decide +kernel) (by decide) (fun _ _ h => by rw [h.1]; rfl) (fun _ U U' hal hh h => ⟨h.1, h.2.mv hal hh⟩) (fun r U U' V V' h1 hal h2 h => XT.PureE.mv r U U' V V' h1 hal h2 h) ?_
  intro p e s m args below meth c s₁ X0 hexec hbytes hml hret hlk hnm hown hh0 W hP
  obtain ⟨rfl, hB⟩ := hP
  have hB0 := hB.mv X0.warmed.alike hh0
  have c1 : Steps p.tables e below (s₁.setTop (entryFrame m #[.ref d, .int (Int32.ofNat B.slots.size)] 2)) (s₁.setTop (mkF m 0 #[.val (.ref d), .val (.int (Int32.ofNat B.slots.size))] [])) := entry rfl
  have c2 : Steps p.tables e below (s₁.setTop (entryFrame m #[.ref d, .int (Int32.ofNat B.slots.size)] 2)) (s₁.setTop (mkF m 2 #[.val (.ref d), .val (.int (Int32.ofNat B.slots.size))] [.ref d, .int (Int32.ofNat B.slots.size)])) := c1.trans (by
    refine XS.iloadN X0.here hexec rfl (hb hbytes d0) rfl ?_
    refine XS.aloadN X0.here hexec rfl (hb hbytes d1) rfl rfl ?_
    exact Steps.refl _)
  have c3 : Steps p.tables e below (s₁.setTop (entryFrame m #[.ref d, .int (Int32.ofNat B.slots.size)] 2)) (s₁.setTop (mkF m 8 #[.val (.ref d), .val (.int (Int32.ofNat B.slots.size))] [.int (lo8 (ushr (Int32.ofNat B.slots.size - Int32.ofNat B.slots.size) 31))])) := c2.trans (by
    refine X0.alen hexec hB0 rfl rfl (hb hbytes d2) ?_
    refine XS.isub X0.here hexec rfl (hb hbytes d3) rfl ?_
    refine bipushV X0.here hexec rfl 31 (hb hbytes d4) (by decide) ?_
    refine iushr X0.here hexec rfl (hb hbytes d6) rfl ?_
    refine i2b X0.here hexec rfl (hb hbytes d7) rfl ?_
    exact Steps.refl _)
  have e0 : lo8 (ushr (Int32.ofNat B.slots.size - Int32.ofNat B.slots.size) 31) = 0 := by rw [Int32.sub_self]; decide
  rw [e0] at c3
  exact ⟨s₁, some (.int 0), _, _, _, X0, rfl, rfl, rfl, (fun h => by cases h), ⟨rfl, hh0⟩, fun fs hl => c3.trans (X0.ireturnOut hexec hret rfl (Or.inr (Or.inr (Or.inl rfl))) (hb hbytes d8) hl)⟩
end CodL
/-- the String at a is Latin-1 over a new byte[] (the heap's one new cell): the low bytes of the len chars of A from o on; every cell but a is kept -/
def Got (a : Addr) (D : Cell) (fV fC : Field) (A : Cell) (o len : Nat) (r : Option Value) (s u : State) : Prop := r = none ∧ ∃ D' V : Cell, Blank "java/lang/String" a D' u ∧ Same D D' [fV.slot, fC.slot] ∧ D'.slots[fV.slot]? = some (.ref s.heap.size) ∧ D'.slots[fC.slot]? = some (.int 0) ∧ Arr .byte s.heap.size V u ∧ V.vm = .none ∧ u.vm.findClass "[B" = some V.cls ∧ V.slots.size = len ∧ (∀ j, j < len → V.slots[j]? = some (.int (lo8 (cv A (o + j))))) ∧ (∀ (y : Addr) (c : Cell), y ≠ a → s.heap[y]? = some c → u.heap[y]? = some c) ∧ u.heap.size = s.heap.size + 1
theorem Got.mv {a : Addr} {D A : Cell} {fV fC : Field} {o len : Nat} : ∀ r (U U' V V' : State), U'.heap = U.heap → V.vm.Alike V'.vm → V'.heap = V.heap → Got a D fV fC A o len r U V → Got a D fV fC A o len r U' V' :=
  fun r U U' V V' h1 hal h2 ⟨e0, D', X, a1, a2, a3, a4, a5, a6, a7, a8, a9, a10, a11⟩ => ⟨e0, D', X, a1.mv hal h2, a2, by rw [h1]; exact a3, a4, by rw [h1]; exact a5.mv hal h2, a6, by rw [hal.findClass]; exact a7, a8, a9, by rw [h1, h2]; exact a10, by rw [h1, h2]; exact a11⟩
namespace New4
def yN : MethodName := ⟨"java/lang/String", "<init>", "([CIILjava/lang/Void;)V"⟩
abbrev yB : ByteArray := jdk_42_method_149_code
theorem d0 : decode yB 0 = .ok (.aload_n 0, 1) := by decide +kernel
theorem d1 : decode yB 1 = .ok (.invokespecial 1, 3) := by decide +kernel
theorem d4 : decode yB 4 = .ok (.iload_n 3, 1) := by decide +kernel
theorem d5 : decode yB 5 = .ok (.ifCond (.ne) 22, 3) := by decide +kernel
theorem d27 : decode yB 27 = .ok (.getstatic 38, 3) := by decide +kernel
theorem d30 : decode yB 30 = .ok (.ifCond (.eq) 28, 3) := by decide +kernel
theorem d33 : decode yB 33 = .ok (.aload_n 1, 1) := by decide +kernel
theorem d34 : decode yB 34 = .ok (.iload_n 2, 1) := by decide +kernel
theorem d35 : decode yB 35 = .ok (.iload_n 3, 1) := by decide +kernel
theorem d36 : decode yB 36 = .ok (.invokestatic 177, 3) := by decide +kernel
theorem d39 : decode yB 39 = .ok (.astore 5, 2) := by decide +kernel
theorem d41 : decode yB 41 = .ok (.aload_n 0, 1) := by decide +kernel
theorem d42 : decode yB 42 = .ok (.aload 5, 2) := by decide +kernel
theorem d44 : decode yB 44 = .ok (.iload_n 3, 1) := by decide +kernel
theorem d45 : decode yB 45 = .ok (.invokestatic 47, 3) := by decide +kernel
theorem d48 : decode yB 48 = .ok (.putfield 15, 3) := by decide +kernel
theorem d51 : decode yB 51 = .ok (.aload_n 0, 1) := by decide +kernel
theorem d52 : decode yB 52 = .ok (.aload 5, 2) := by decide +kernel
theorem d54 : decode yB 54 = .ok (.putfield 9, 3) := by decide +kernel
theorem d57 : decode yB 57 = .ok (.return_, 1) := by decide +kernel
def site : List Cond := [.fieldLink "java/lang/String" 38 "java/lang/String" "COMPACT_STRINGS" "Z", Cmp3.tab, CodL.tab, .laysFinal "java/lang/String" "java/lang/String" "value" "[B", .fieldLink "java/lang/String" 9 "java/lang/String" "value" "[B", .laysFinal "java/lang/String" "java/lang/String" "coder" "B", .fieldLink "java/lang/String" 15 "java/lang/String" "coder" "B"] ++ objW "java/lang/String" 1 ++ staticW "java/lang/String" 177 Cmp3.yN ++ staticW "java/lang/String" 47 CodL.yN
def tab : Cond := tabOf yN yB 6 none site
def P (a : Addr) (D : Cell) (fV fC : Field) (b : Addr) (A : Cell) (z : Int32) (o len : Nat) (args : Array Value) (s : State) : Prop := args = #[.ref a, .ref b, .int (Int32.ofNat o), .int (Int32.ofNat len), .null] ∧ Blank "java/lang/String" a D s ∧ Found "java/lang/String" "value" "[B" fV s ∧ Found "java/lang/String" "coder" "B" fC s ∧ Ch b A s ∧ StaticIs s "java/lang/String" "COMPACT_STRINGS" "Z" (.int z) ∧ ¬ z = 0 ∧ 0 < len ∧ o + len ≤ A.slots.size ∧ len ≤ 536870912 ∧ ∀ i, i < len → ¬ 255 < cv A (o + i)
def E (a : Addr) (D : Cell) (fV fC : Field) (A : Cell) (o len : Nat) (r : Option Value) (s u : State) : Prop := Got a D fV fC A o len r s u
/-- len > 0, no char of the range above 255: a Latin-1 String of their low bytes -/
theorem law (l : Launch) (a : Addr) (D : Cell) (fV fC : Field) (b : Addr) (A : Cell) (z : Int32) (o len : Nat) : Law l yN 5 4 2 35 yB 6 none site (P a D fV fC b A z o len) (E a D fV fC A o len) [⟨a, fC.slot⟩, ⟨a, fV.slot⟩] 1 len := by
  refine Law.of_walk (plainFor_of_name (by decide +kernel)) (by decide +kernel) (by decide +kernel) (by decide) (fun _ _ h => by rw [h.1]; rfl) (fun _ U U' hal hh h => ⟨h.1, h.2.1.mv hal hh, h.2.2.1.al hal, h.2.2.2.1.al hal, h.2.2.2.2.1.mv hal hh, h.2.2.2.2.2.1.there hal hh, h.2.2.2.2.2.2⟩) (fun r U U' V V' h1 hal h2 h => Got.mv r U U' V V' h1 hal h2 h) ?_
  intro p e s m args below meth c s₁ X0 hexec hbytes hml hret hlk hnm hown hh0 W hP
  obtain ⟨rfl, hB, f1, f2, hA, s1, hz, l0, l1, l2, hp⟩ := hP
  have a31 := hA.1.2.2.2
  have c1 : Steps p.tables e below (s₁.setTop (entryFrame m #[.ref a, .ref b, .int (Int32.ofNat o), .int (Int32.ofNat len), .null] 6)) (s₁.setTop (mkF m 0 #[.val (.ref a), .val (.ref b), .val (.int (Int32.ofNat o)), .val (.int (Int32.ofNat len)), .val .null, .unset] [])) := entry rfl
  have c2 : Steps p.tables e below (s₁.setTop (entryFrame m #[.ref a, .ref b, .int (Int32.ofNat o), .int (Int32.ofNat len), .null] 6)) (s₁.setTop (mkF m 1 #[.val (.ref a), .val (.ref b), .val (.int (Int32.ofNat o)), .val (.int (Int32.ofNat len)), .val .null, .unset] [.ref a])) := c1.trans (by
    refine XS.aloadN X0.here hexec rfl (hb hbytes d0) rfl rfl ?_
    exact Steps.refl _)
  obtain ⟨T3, X3, q3, st3⟩ := X0.oinit hexec hown (wks W (objW "java/lang/String" 1)) (g := (mkF m 1 #[.val (.ref a), .val (.ref b), .val (.int (Int32.ofNat o)), .val (.int (Int32.ofNat len)), .val .null, .unset] [.ref a])) rfl (by rw [hml]; rfl) (rest := []) rfl (hb hbytes d1) (W := 0) (by show 2 * 0 + 0 ≤ _; decide) (Nat.le_of_ble_eq_true rfl) (Nat.le_of_ble_eq_true rfl)
  have hh3 := q3.trans hh0
  have c4 : Steps p.tables e below (s₁.setTop (entryFrame m #[.ref a, .ref b, .int (Int32.ofNat o), .int (Int32.ofNat len), .null] 6)) (T3.setTop (mkF m 27 #[.val (.ref a), .val (.ref b), .val (.int (Int32.ofNat o)), .val (.int (Int32.ofNat len)), .val .null, .unset] [])) := (c2.trans (st3 _ (Steps.refl _))).trans (by
    refine XS.iloadN X3.here hexec rfl (hb hbytes d4) rfl ?_
    refine XS.ifYes X3.here hexec rfl (pc0 := 5) rfl (hb hbytes d5) rfl (i0_ne_t (nz32 (by omega) l0)) (by decide) rfl ?_
    exact Steps.refl _)
  obtain ⟨T5, X5, q5, st5⟩ := X3.sget hexec hown (wk W (.fieldLink "java/lang/String" 38 "java/lang/String" "COMPACT_STRINGS" "Z")) s1 (fun _ _ h => by rw [hh3]; exact h) (g := (mkF m 27 #[.val (.ref a), .val (.ref b), .val (.int (Int32.ofNat o)), .val (.int (Int32.ofNat len)), .val .null, .unset] [])) rfl (hb hbytes d27)
  have hh5 := q5.trans hh3
  have c6 : Steps p.tables e below (s₁.setTop (entryFrame m #[.ref a, .ref b, .int (Int32.ofNat o), .int (Int32.ofNat len), .null] 6)) (T5.setTop (mkF m 30 #[.val (.ref a), .val (.ref b), .val (.int (Int32.ofNat o)), .val (.int (Int32.ofNat len)), .val .null, .unset] [.int z])) := c4.trans (st5 _ (Steps.refl _))
  have c7 : Steps p.tables e below (s₁.setTop (entryFrame m #[.ref a, .ref b, .int (Int32.ofNat o), .int (Int32.ofNat len), .null] 6)) (T5.setTop (mkF m 36 #[.val (.ref a), .val (.ref b), .val (.int (Int32.ofNat o)), .val (.int (Int32.ofNat len)), .val .null, .unset] [.int (Int32.ofNat len), .int (Int32.ofNat o), .ref b])) := c6.trans (by
    refine XS.ifNo X5.here hexec rfl (hb hbytes d30) rfl (i0_eq_f hz) ?_
    refine XS.aloadN X5.here hexec rfl (hb hbytes d33) rfl rfl ?_
    refine XS.iloadN X5.here hexec rfl (hb hbytes d34) rfl ?_
    refine XS.iloadN X5.here hexec rfl (hb hbytes d35) rfl ?_
    exact Steps.refl _)
  obtain ⟨v8, T8, X8, E8, g8⟩ := X5.callS hexec (Cmp3.law l b A o len) hown (wks W (staticW "java/lang/String" 177 Cmp3.yN)) (wk W Cmp3.tab) (W := 0) (Nat.le_of_ble_eq_true rfl) (Nat.le_of_ble_eq_true rfl) (Nat.le_refl _) (by show 0 + len ≤ len; omega) (g := (mkF m 36 #[.val (.ref a), .val (.ref b), .val (.int (Int32.ofNat o)), .val (.int (Int32.ofNat len)), .val .null, .unset] [.int (Int32.ofNat len), .int (Int32.ofNat o), .ref b])) rfl (by rw [hml]; rfl) c7 (argsL := [.ref b, .int (Int32.ofNat o), .int (Int32.ofNat len)]) (rest := []) rfl rfl (by show 2 * 0 + 0 ≤ _; decide) (hb hbytes d36) (⟨rfl, hA.mv X5.warmed.alike hh5, l1, l2, hp⟩)
  obtain ⟨e8, z8⟩ := E8
  obtain ⟨rfl, N, n1, n2, n3, n4, n5, n6⟩ := NewArr.mv _ T5 s _ _ hh5.symm (Vm.Alike.refl _) rfl e8
  rw [hh5] at z8
  have hB1 := hB.keep X8.warmed.alike (n6 _ _ hB.1)
  have hne : s.heap.size ≠ a := (Nat.ne_of_lt (Array.getElem?_eq_some_iff.mp hB.1).1).symm
  have c9 : Steps p.tables e below (s₁.setTop (entryFrame m #[.ref a, .ref b, .int (Int32.ofNat o), .int (Int32.ofNat len), .null] 6)) (T8.setTop (mkF m 39 #[.val (.ref a), .val (.ref b), .val (.int (Int32.ofNat o)), .val (.int (Int32.ofNat len)), .val .null, .unset] [.ref s.heap.size])) := g8
  have c10 : Steps p.tables e below (s₁.setTop (entryFrame m #[.ref a, .ref b, .int (Int32.ofNat o), .int (Int32.ofNat len), .null] 6)) (T8.setTop (mkF m 45 #[.val (.ref a), .val (.ref b), .val (.int (Int32.ofNat o)), .val (.int (Int32.ofNat len)), .val .null, .val (.ref s.heap.size)] [.int (Int32.ofNat N.slots.size), .ref s.heap.size, .ref a])) := by
    have hc : Steps p.tables e below (s₁.setTop (entryFrame m #[.ref a, .ref b, .int (Int32.ofNat o), .int (Int32.ofNat len), .null] 6)) (T8.setTop (mkF m 45 #[.val (.ref a), .val (.ref b), .val (.int (Int32.ofNat o)), .val (.int (Int32.ofNat len)), .val .null, .val (.ref s.heap.size)] [.int (Int32.ofNat len), .ref s.heap.size, .ref a])) := c9.trans (by
      refine XS.astore X8.here hexec rfl (hb hbytes d39) rfl rfl rfl ?_
      refine XS.aloadN X8.here hexec rfl (hb hbytes d41) rfl rfl ?_
      refine XS.aload X8.here hexec rfl (hb hbytes d42) rfl rfl ?_
      refine XS.iloadN X8.here hexec rfl (hb hbytes d44) rfl ?_
      exact Steps.refl _)
    rw [n4]; exact hc
  obtain ⟨v11, T11, X11, E11, g11⟩ := X8.callS hexec (CodL.law l s.heap.size N) hown (wks W (staticW "java/lang/String" 47 CodL.yN)) (wk W CodL.tab) (W := 1) (Nat.le_of_ble_eq_true rfl) (Nat.le_of_ble_eq_true rfl) (Nat.le_refl _) (by show 0 + len + 0 ≤ len; omega) (g := (mkF m 45 #[.val (.ref a), .val (.ref b), .val (.int (Int32.ofNat o)), .val (.int (Int32.ofNat len)), .val .null, .val (.ref s.heap.size)] [.int (Int32.ofNat N.slots.size), .ref s.heap.size, .ref a])) rfl (by rw [hml]; rfl) c10 (argsL := [.ref s.heap.size, .int (Int32.ofNat N.slots.size)]) (rest := [.ref a]) rfl rfl (by show 2 * 0 + (1 + 0) ≤ _; decide) (hb hbytes d45) (⟨rfl, n1⟩)
  obtain ⟨rfl, q11⟩ := E11
  have hB11 := hB1.mv (X8.warmed.alike.symm.trans X11.warmed.alike) q11
  have c12 : Steps p.tables e below (s₁.setTop (entryFrame m #[.ref a, .ref b, .int (Int32.ofNat o), .int (Int32.ofNat len), .null] 6)) (T11.setTop (mkF m 48 #[.val (.ref a), .val (.ref b), .val (.int (Int32.ofNat o)), .val (.int (Int32.ofNat len)), .val .null, .val (.ref s.heap.size)] [.int 0, .ref a])) := g11
  obtain ⟨T13, X13, p13, bl13, sl13, st13⟩ := X11.finit hexec hown (wk W (.fieldLink "java/lang/String" 15 "java/lang/String" "coder" "B")) (Or.inr ⟨_, (wk W (.laysFinal "java/lang/String" "java/lang/String" "coder" "B"))⟩) (Or.inl ⟨rfl, hnm⟩) f2 (Or.inl rfl) hB11 (t := .byte) (by decide +kernel) rfl (g := (mkF m 48 #[.val (.ref a), .val (.ref b), .val (.int (Int32.ofNat o)), .val (.int (Int32.ofNat len)), .val .null, .val (.ref s.heap.size)] [.int 0, .ref a])) rfl (rest := []) rfl (hb hbytes d48)
  have c14 : Steps p.tables e below (s₁.setTop (entryFrame m #[.ref a, .ref b, .int (Int32.ofNat o), .int (Int32.ofNat len), .null] 6)) (T13.setTop (mkF m 54 #[.val (.ref a), .val (.ref b), .val (.int (Int32.ofNat o)), .val (.int (Int32.ofNat len)), .val .null, .val (.ref s.heap.size)] [.ref s.heap.size, .ref a])) := (c12.trans (st13 _ (Steps.refl _))).trans (by
    refine XS.aloadN X13.here hexec rfl (hb hbytes d51) rfl rfl ?_
    refine XS.aload X13.here hexec rfl (hb hbytes d52) rfl rfl ?_
    exact Steps.refl _)
  obtain ⟨T15, X15, p15, bl15, sl15, st15⟩ := X13.finit hexec hown (wk W (.fieldLink "java/lang/String" 9 "java/lang/String" "value" "[B")) (Or.inr ⟨_, (wk W (.laysFinal "java/lang/String" "java/lang/String" "value" "[B"))⟩) (Or.inl ⟨rfl, hnm⟩) f1 (Or.inl rfl) bl13 (t := (.array .byte)) (by decide +kernel) rfl (g := (mkF m 54 #[.val (.ref a), .val (.ref b), .val (.int (Int32.ofNat o)), .val (.int (Int32.ofNat len)), .val .null, .val (.ref s.heap.size)] [.ref s.heap.size, .ref a])) rfl (rest := []) rfl (hb hbytes d54)
  have c16 : Steps p.tables e below (s₁.setTop (entryFrame m #[.ref a, .ref b, .int (Int32.ofNat o), .int (Int32.ofNat len), .null] 6)) (T15.setTop (mkF m 57 #[.val (.ref a), .val (.ref b), .val (.int (Int32.ofNat o)), .val (.int (Int32.ofNat len)), .val .null, .val (.ref s.heap.size)] [])) := c14.trans (st15 _ (Steps.refl _))
  have ap := apart (Or.inr ⟨_, (wk W (.laysFinal "java/lang/String" "java/lang/String" "value" "[B"))⟩) (Or.inr ⟨_, (wk W (.laysFinal "java/lang/String" "java/lang/String" "coder" "B"))⟩) f1 f2 (t₁ := .array .byte) (t₂ := .byte) (by decide +kernel) (by decide +kernel) (by decide)
  have al := X8.warmed.alike.symm.trans X15.warmed.alike
  have n7 : T11.heap[s.heap.size]? = some N := by rw [q11]; exact n1.1
  exact ⟨T15, none, _, _, _, X15, by simp, rfl, by omega, (fun _ => rfl), ⟨rfl, _, N, bl15, ((Same.refl D _).set _ (by simp)).set _ (by simp), sl15, (Cell.slots_setSlot_ne _ ap).trans sl13, n1.keep al (p15.other hne (p13.other hne n7)), n2, by rw [al.findClass]; exact n3, n4, n5, fun y c h1 h2 => p15.other h1 (p13.other h1 (by rw [q11]; exact n6 y c h2)), by rw [p15.2.2, p13.2.2, q11]; exact z8⟩, fun fs hl => c16.trans (X15.returnOut hexec hret (hb hbytes d57) hl)⟩
end New4
namespace New1
def yN : MethodName := ⟨"java/lang/String", "<init>", "([C)V"⟩
abbrev yB : ByteArray := jdk_42_method_3_code
theorem d0 : decode yB 0 = .ok (.aload_n 0, 1) := by decide +kernel
theorem d1 : decode yB 1 = .ok (.aload_n 1, 1) := by decide +kernel
theorem d2 : decode yB 2 = .ok (.iconst 0, 1) := by decide +kernel
theorem d3 : decode yB 3 = .ok (.aload_n 1, 1) := by decide +kernel
theorem d4 : decode yB 4 = .ok (.arraylength, 1) := by decide +kernel
theorem d5 : decode yB 5 = .ok (.aconst_null, 1) := by decide +kernel
theorem d6 : decode yB 6 = .ok (.invokespecial 27, 3) := by decide +kernel
theorem d9 : decode yB 9 = .ok (.return_, 1) := by decide +kernel
def site : List Cond := [New4.tab] ++ initW "java/lang/String" 27 New4.yN
def tab : Cond := tabOf yN yB 2 none site
def P (a : Addr) (D : Cell) (fV fC : Field) (b : Addr) (A : Cell) (z : Int32) (args : Array Value) (s : State) : Prop := args = #[.ref a, .ref b] ∧ Blank "java/lang/String" a D s ∧ Found "java/lang/String" "value" "[B" fV s ∧ Found "java/lang/String" "coder" "B" fC s ∧ Ch b A s ∧ StaticIs s "java/lang/String" "COMPACT_STRINGS" "Z" (.int z) ∧ ¬ z = 0 ∧ 0 < A.slots.size ∧ A.slots.size ≤ 536870912 ∧ ∀ i, i < A.slots.size → ¬ 255 < cv A i
def E (a : Addr) (D : Cell) (fV fC : Field) (A : Cell) (r : Option Value) (s u : State) : Prop := Got a D fV fC A 0 A.slots.size r s u
/-- new String(chars), not empty, no char above 255: a Latin-1 String of their low bytes -/
theorem law (l : Launch) (a : Addr) (D : Cell) (fV fC : Field) (b : Addr) (A : Cell) (z : Int32) : Law l yN 2 1 3 52 yB 2 none site (P a D fV fC b A z) (E a D fV fC A) [⟨a, fC.slot⟩, ⟨a, fV.slot⟩] 1 A.slots.size := by
  refine Law.of_walk (plainFor_of_name (by decide +kernel)) (by decide +kernel) (by decide +kernel) (by decide) (fun _ _ h => by rw [h.1]; rfl) (fun _ U U' hal hh h => ⟨h.1, h.2.1.mv hal hh, h.2.2.1.al hal, h.2.2.2.1.al hal, h.2.2.2.2.1.mv hal hh, h.2.2.2.2.2.1.there hal hh, h.2.2.2.2.2.2⟩) (fun r U U' V V' h1 hal h2 h => Got.mv r U U' V V' h1 hal h2 h) ?_
  intro p e s m args below meth c s₁ X0 hexec hbytes hml hret hlk hnm hown hh0 W hP
  obtain ⟨rfl, hB, f1, f2, hA, s1, hz, l0, l2, hp⟩ := hP
  have c1 : Steps p.tables e below (s₁.setTop (entryFrame m #[.ref a, .ref b] 2)) (s₁.setTop (mkF m 0 #[.val (.ref a), .val (.ref b)] [])) := entry rfl
  have c2 : Steps p.tables e below (s₁.setTop (entryFrame m #[.ref a, .ref b] 2)) (s₁.setTop (mkF m 6 #[.val (.ref a), .val (.ref b)] [.null, .int (Int32.ofNat A.slots.size), .int 0, .ref b, .ref a])) := c1.trans (by
    refine XS.aloadN X0.here hexec rfl (hb hbytes d0) rfl rfl ?_
    refine XS.aloadN X0.here hexec rfl (hb hbytes d1) rfl rfl ?_
    refine iconstV X0.here hexec rfl 0 (hb hbytes d2) (by decide) ?_
    refine XS.aloadN X0.here hexec rfl (hb hbytes d3) rfl rfl ?_
    refine X0.alen hexec (hA.1.mv X0.warmed.alike hh0) rfl rfl (hb hbytes d4) ?_
    refine XS.aconstNull X0.here hexec rfl (hb hbytes d5) ?_
    exact Steps.refl _)
  obtain ⟨v3, T3, X3, E3, g3⟩ := X0.callN hexec (New4.law l a D fV fC b A z 0 A.slots.size) rfl hown (wks W (initW "java/lang/String" 27 New4.yN)) (W New4.tab (by simp only [site, List.mem_cons, List.mem_append, true_or, or_true])) (W := 0) (Nat.le_of_ble_eq_true rfl) (Nat.le_of_ble_eq_true rfl) (Nat.le_refl _) (by show 0 + A.slots.size ≤ A.slots.size; omega) (g := (mkF m 6 #[.val (.ref a), .val (.ref b)] [.null, .int (Int32.ofNat A.slots.size), .int (Int32.ofNat 0), .ref b, .ref a])) rfl (by rw [hml]; rfl) c2 (argsL := [.ref b, .int (Int32.ofNat 0), .int (Int32.ofNat A.slots.size), .null]) (rest := []) rfl rfl (by show 2 * 0 + 0 ≤ _; decide) (hb hbytes d6) (⟨rfl, hB.mv X0.warmed.alike hh0, f1.al X0.warmed.alike, f2.al X0.warmed.alike, hA.mv X0.warmed.alike hh0, s1.there X0.warmed.alike hh0, hz, l0, by omega, l2, fun i hi => by rw [Nat.zero_add]; exact hp i hi⟩)
  have e0 := Got.mv _ s₁ s _ _ hh0.symm (Vm.Alike.refl _) rfl E3
  obtain rfl := e0.1
  have c4 : Steps p.tables e below (s₁.setTop (entryFrame m #[.ref a, .ref b] 2)) (T3.setTop (mkF m 9 #[.val (.ref a), .val (.ref b)] [])) := g3
  exact ⟨T3, none, _, _, _, X3, by simp, rfl, by omega, (fun _ => rfl), e0, fun fs hl => c4.trans (X3.returnOut hexec hret (hb hbytes d9) hl)⟩
theorem pays {l : Launch} {R : Room} {p : Program} {e : Env} {below : List Frame} {s : State} {sargs : Array Value} {len W : Nat} (a : Addr) (D : Cell) (fV fC : Field) (b : Addr) (A : Cell) (z : Int32) (htab : tab.before sargs s = true) (hfr : 4 ≤ R.frames) (hlo : W + 65 ≤ R.locals) :
    Back l R p e below s sargs yN len W (fun A₁ a₁ => A₁.cells + 1 ≤ R.cells ∧ A₁.slots + A.slots.size ≤ R.slots ∧ P a D fV fC b A z a₁ A₁.U) (fun A₁ _ v₁ B₁ => E a D fV fC A v₁ A₁.U B₁.U ∧ B₁.locs = A₁.locs ++ [⟨a, fC.slot⟩, ⟨a, fV.slot⟩] ∧ B₁.cells = A₁.cells + 1 ∧ B₁.slots = A₁.slots + A.slots.size) :=
  (law l a D fV fC b A z).pays htab hfr (by omega)
end New1
end StrChars
namespace StrChars.Road
open Jvm Sem ClassFile Op Lib Jvm.Stand Jvm.Free Jvm.Free.XT
open Jvm.Lib.Cold (StaticIs)
abbrev ST : String := "java/lang/String"
/-- every table word that New1's law asks, flat -/
abbrev words : List Jvm.Cond := [.code New1.yN New1.yB 2 none, .initialized ST, .methodLink ST 27 New4.yN, .instanceMethod New4.yN,
  .code New4.yN New4.yB 6 none, .fieldLink ST 38 ST "COMPACT_STRINGS" "Z", .laysFinal ST ST "value" "[B", .fieldLink ST 9 ST "value" "[B", .laysFinal ST ST "coder" "B", .fieldLink ST 15 ST "coder" "B",
  .methodLink ST 1 Lib.objectInit, .instanceMethod Lib.objectInit, .code Lib.objectInit ⟨#[0xb1]⟩ 1 none, .methodLink ST 177 Cmp3.yN, .static Cmp3.yN, .methodLink ST 47 CodL.yN, .static CodL.yN,
  .code Cmp3.yN Cmp3.yB 6 (some (.array .byte)), .initialized U16, .arrayClass .byte, .methodLink U16 115 Cmp5.yN, .static Cmp5.yN, .code Cmp5.yN Cmp5.yB 7 (some .int), .code CodL.yN CodL.yB 2 (some .byte)]
theorem tab_of {a : Array Value} {s : State} (h : ∀ w ∈ words, w.before a s = true) : New1.tab.before a s = true := by
  have h5 : Cmp5.tab.before a s = true := unparts (wk h (.code Cmp5.yN Cmp5.yB 7 (some .int))) (wks h (.initialized Cmp5.yN.cls :: Cmp5.site))
  have hc : CodL.tab.before a s = true := unparts (wk h (.code CodL.yN CodL.yB 2 (some .byte))) (wks h (.initialized CodL.yN.cls :: CodL.site))
  have q5 : ∀ w ∈ Cmp5.tab :: words, w.before a s = true := fun w hw => (List.mem_cons.mp hw).elim (fun e => e ▸ h5) (h w)
  have h3 : Cmp3.tab.before a s = true := unparts (wk q5 (.code Cmp3.yN Cmp3.yB 6 (some (.array .byte)))) (wks q5 (.initialized Cmp3.yN.cls :: Cmp3.site))
  have q3 : ∀ w ∈ Cmp3.tab :: CodL.tab :: words, w.before a s = true := fun w hw => (List.mem_cons.mp hw).elim (fun e => e ▸ h3) fun hw => (List.mem_cons.mp hw).elim (fun e => e ▸ hc) (h w)
  have h4 : New4.tab.before a s = true := unparts (wk q3 (.code New4.yN New4.yB 6 none)) (wks q3 (.initialized New4.yN.cls :: New4.site))
  have q4 : ∀ w ∈ New4.tab :: words, w.before a s = true := fun w hw => (List.mem_cons.mp hw).elim (fun e => e ▸ h4) (h w)
  exact unparts (wk q4 (.code New1.yN New1.yB 2 none)) (wks q4 (.initialized New1.yN.cls :: New1.site))
/-- the words ride from the start Z to the walk's own state -/
theorem moved {Z s : State} {a0 args : Array Value} (hZ : Z.Warmed39 s.vm) (hw : ∀ d ∈ words, d.before a0 Z = true) : ∀ d ∈ words, d.before args s = true := fun d hd => by
  have q := hw d hd
  have t : ∀ d ∈ words, d = .arrayClass .byte ∨ (d.onTables && d.keepsFace) = true := by decide +kernel
  rcases t d hd with rfl | t
  · exact RoadKit.mvA hZ q
  · exact RoadKit.mv hZ q t
/-- WHAT COMES BACK, over the tables of the start Z: h the heap at the call, h' behind it -/
def Q (Z : State) (x : Addr) (A : Cell) (h : Heap) (v : Option Value) (h' : Heap) (L : List Loc) : Prop := v = none ∧ (∀ y ∈ L, y.base = x) ∧ RoadKit.Keep h h' [x] ∧ h'.size = h.size + 1 ∧ RoadKit.Exa Z h' x ST ∧ RoadKit.Fld Z h' x ST "value" "[B" (.ref h.size) ∧ RoadKit.Fld Z h' x ST "coder" "B" (.int 0) ∧
  (∃ V : Cell, RoadKit.Arr Z h' h.size V .byte ∧ V.vm = .none ∧ Z.vm.findClass "[B" = some V.cls ∧ V.slots.size = A.slots.size ∧ ∀ j, j < A.slots.size → V.slots[j]? = some (.int (lo8 (cv A j)))) ∧
  ∀ (O n d : String) (w : Value), RoadKit.Fld Z h x O n d w → RoadKit.slotOf Z O n d ≠ RoadKit.slotOf Z ST "value" "[B" → RoadKit.slotOf Z O n d ≠ RoadKit.slotOf Z ST "coder" "B" → RoadKit.Fld Z h' x O n d w
/-- **new String(chars) AT A CALL, IN THE ROAD'S FORM**: for specialBack behind newO: x the fresh String, b the char[] with the cell A -/
theorem back {p : Program} {l : Launch} {e : Env} {R : Room} {s : State} {args : Array Value} {below : List Frame} {len W : Nat} {Z : State} {a0 : Array Value} {h : Heap} (hZ : Z.Warmed39 s.vm) (hw : ∀ d ∈ words, d.before a0 Z = true) {kI : Nat} (wi : (Jvm.Cond.instantiable ST kI).before a0 Z = true)
    {x b : Addr} {A : Cell} {z : Int32} {v0 c0 : Value} (E : RoadKit.Exa Z h x ST) (V : RoadKit.Fld Z h x ST "value" "[B" v0) (C : RoadKit.Fld Z h x ST "coder" "B" c0) (K : RoadKit.Arr Z h b A .char) (hty : Typed .char A) (S : RoadKit.Sta Z h ST "COMPACT_STRINGS" "Z" (.int z)) (hz : ¬ z = 0)
    (l0 : 0 < A.slots.size) (l2 : A.slots.size ≤ 536870912) (hp : ∀ i, i < A.slots.size → ¬ 255 < cv A i) (hfr : 4 ≤ R.frames) (hlo : W + 65 ≤ R.locals) :
    Back l R p e below s args New1.yN len W (fun P a => a = #[.ref x, .ref b] ∧ P.U.heap = h ∧ P.cells + 1 ≤ R.cells ∧ P.slots + A.slots.size ≤ R.slots)
      (fun P _ v B => ∃ L, Q Z x A h v B.U.heap L ∧ B.locs = P.locs ++ L ∧ B.cells = P.cells + 1 ∧ B.slots = P.slots + A.slots.size) := by
  intro m meth c P g ig mk a X hg hsize hdg hW hn hp'
  obtain ⟨rfl, rfl, r1, r2⟩ := hp'
  have al : Z.vm.Alike P.U.vm := hZ.alike.trans X.warmed.alike
  obtain ⟨D, cfV, kV, iV, fV, hD, gV, stV, knV, obV, asV, slV⟩ := id V
  obtain ⟨D', cfC, kC, iC, fC, hD', gC, stC, -, -, asC, slC⟩ := id C
  cases hD.symm.trans hD'
  obtain ⟨D2, kD, e1, e2, e3, e4, e5⟩ := id E
  cases hD.symm.trans e1
  obtain ⟨c2, k2, i1, i2, i3, -⟩ := Cond.instantiable_spec wi
  cases e2.symm.trans i1
  cases e3.symm.trans i2
  obtain ⟨kU, u1, u2⟩ := al.2.2 _ _ e3
  have hB : Blank ST x D P.U := ⟨hD, ⟨knV, fun q hq => by rw [hq] at obV; cases obV⟩, by rw [al.findClass]; exact e2, kU, u1, by rw [u2]; exact i3, by rw [u2]; exact e5 i3⟩
  have F1 : Found ST "value" "[B" fV P.U := ⟨SBG.found_only al ⟨cfV, kV, iV, gV⟩, stV⟩
  have F2 : Found ST "coder" "B" fC P.U := ⟨SBG.found_only al ⟨cfC, kC, iC, gC⟩, stC⟩
  have hA : Ch b A P.U := ⟨⟨K.1, State.isArrayOf_alike al K.2.1, K.2.2, by omega⟩, hty⟩
  have hS : StaticIs P.U ST "COMPACT_STRINGS" "Z" (.int z) := by
    obtain ⟨cfS, iS, kS, fS, st, cS, t1, t2, t3, t4, t5, t6, t7⟩ := S
    exact StaticIs.there (s := { Z with heap := P.U.heap }) ⟨cfS, iS, kS, fS, st, cS, t1, t2, t3, t4, t5, (fun q => by rw [q] at t6; cases t6), t7⟩ al rfl
  obtain ⟨v, B, X', ⟨⟨hv, E', V', q1, q2, q3, q4, q5, q6, q7, q8, q9, q10, q11⟩, hl, hc, hs⟩, st⟩ := New1.pays x D fV fC b A z (tab_of (moved hZ hw)) hfr hlo m meth c P g ig mk _ X hg hsize hdg hW hn ⟨r1, r2, rfl, hB, F1, F2, hA, hS, hz, l0, l2, hp⟩
  have al' : Z.vm.Alike B.U.vm := hZ.alike.trans X'.warmed.alike
  have hsz : E'.slots.size = D.slots.size := by
    obtain ⟨-, -, -, kB, w1, w2, w3⟩ := q1
    obtain ⟨kB', y1, y2⟩ := al'.2.2 _ _ e3
    rw [q2.2.1] at w1
    cases w1.symm.trans y1
    rw [w3, e5 i3, y2]
  refine ⟨v, B, X', ⟨_, ⟨hv, ?_, ⟨by omega, fun y cy hy hn' => q10 y cy (by simpa using hn') hy, fun y cy hy => ?_⟩, q11, ⟨E', _, q1.1, by rw [q2.2.1]; exact e2, by rw [q2.2.1]; exact e3, by rw [q2.1]; exact obV, fun _ => by rw [hsz]; exact e5 i3⟩,
    ⟨E', cfV, kV, iV, fV, q1.1, gV, stV, by rw [q2.1]; exact knV, by rw [q2.1]; exact obV, by rw [q2.2.1]; exact asV, q3⟩, ⟨E', cfC, kC, iC, fC, q1.1, gC, stC, by rw [q2.1]; exact knV, by rw [q2.1]; exact obV, by rw [q2.2.1]; exact asC, q4⟩,
    ⟨V', ⟨q5.1, State.isArrayOf_alike al'.symm q5.2.1, q5.2.2.1⟩, q6, by rw [← al'.findClass]; exact q7, q8, fun j hj => by have := q9 j hj; rwa [Nat.zero_add] at this⟩, fun O n d w F n1 n2 => ?_⟩, hl, hc, hs⟩, st⟩
  · intro y hy
    simp only [List.mem_cons, List.not_mem_nil, or_false] at hy
    rcases hy with rfl | rfl <;> rfl
  · by_cases q : y = x
    · subst q
      cases hD.symm.trans hy
      exact ⟨E', q1.1, q2.2.1, q2.1, hsz⟩
    · exact ⟨cy, q10 y cy q hy, rfl, rfl, rfl⟩
  · obtain ⟨D3, cf, k, i, f, g1, g2, g3, g4, g5, g6, g7⟩ := F
    cases hD.symm.trans g1
    simp only [RoadKit.slotOf, g2, gV, gC, Option.map_some, Option.getD_some] at n1 n2
    exact ⟨E', cf, k, i, f, q1.1, g2, g3, by rw [q2.1]; exact g4, by rw [q2.1]; exact g5, by rw [q2.2.1]; exact g6, by rw [q2.2.2 f.slot (by simp [n1, n2])]; exact g7⟩
end StrChars.Road
namespace StrChars.Road
open Jvm Sem ClassFile Op Lib Jvm.Stand Jvm.Free Jvm.Free.XT
/-- WHAT COMES BACK, the byte[] as a list of values -/
def QA (Z : State) (x : Addr) (zn : Int32) (cs : List Int32) (h : Heap) (v : Option Value) (h' : Heap) (L : List Loc) : Prop := v = none ∧ (∀ y ∈ L, y.base = x) ∧ RoadKit.Keep h h' [x] ∧ h'.size = h.size + 1 ∧ RoadKit.Exa Z h' x ST ∧ RoadKit.Fld Z h' x ST "value" "[B" (.ref h.size) ∧ RoadKit.Fld Z h' x ST "coder" "B" (.int 0) ∧
  (∃ kb, Z.vm.findClass "[B" = some kb ∧ RoadKit.Arv Z h' h.size kb .byte zn (cs.map fun c => .int (lo8 c)) (.int 0)) ∧
  ∀ (O n d : String) (w : Value), RoadKit.Fld Z h x O n d w → RoadKit.slotOf Z O n d ≠ RoadKit.slotOf Z ST "value" "[B" → RoadKit.slotOf Z O n d ≠ RoadKit.slotOf Z ST "coder" "B" → RoadKit.Fld Z h' x O n d w
/-- **new String(chars) AT A CALL, THE ARRAYS AS LISTS**: the char[] at b holds cs, not empty, no char above 255 -/
theorem backArv {p : Program} {l : Launch} {e : Env} {R : Room} {s : State} {args : Array Value} {below : List Frame} {len W : Nat} {Z : State} {a0 : Array Value} {h : Heap} (hZ : Z.Warmed39 s.vm) (hw : ∀ d ∈ words, d.before a0 Z = true) {kI : Nat} (wi : (Jvm.Cond.instantiable ST kI).before a0 Z = true)
    {x b : Addr} {k : ClassId} {zn z : Int32} {cs : List Int32} {dv v0 c0 : Value} (E : RoadKit.Exa Z h x ST) (V : RoadKit.Fld Z h x ST "value" "[B" v0) (C : RoadKit.Fld Z h x ST "coder" "B" c0) (K : RoadKit.Arv Z h b k .char zn (cs.map Value.int) dv) (S : RoadKit.Sta Z h ST "COMPACT_STRINGS" "Z" (.int z)) (hz : ¬ z = 0)
    (hlen : zn.toNatClampNeg = cs.length) (h0 : 0 < cs.length) (hbig : cs.length ≤ 536870912) (hall : ∀ c ∈ cs, ¬ 255 < c) (hfr : 4 ≤ R.frames) (hlo : W + 65 ≤ R.locals) :
    Back l R p e below s args New1.yN len W (fun P a => a = #[.ref x, .ref b] ∧ P.U.heap = h ∧ P.cells + 1 ≤ R.cells ∧ P.slots + cs.length ≤ R.slots)
      (fun P _ v B => ∃ L, QA Z x zn cs h v B.U.heap L ∧ B.locs = P.locs ++ L ∧ B.cells = P.cells + 1 ∧ B.slots = P.slots + cs.length) := by
  obtain ⟨A, K1, K2, K3, K4, K5, K6⟩ := K
  have e : A.slots.size = cs.length := K3.trans hlen
  have hat : ∀ (i : Nat) (hi : i < cs.length), A.slots[i]? = some (.int cs[i]) := fun i hi => by rw [K5 i (by omega)]; simp [List.getD_eq_getElem?_getD, hi]
  have hcv : ∀ (i : Nat) (hi : i < cs.length), cv A i = cs[i] := fun i hi => by unfold cv; rw [hat i hi]
  have hty : Typed .char A := fun i v hv => by
    have hi : i < A.slots.size := (Array.getElem?_eq_some_iff.mp hv).1
    have q := K5 i hi
    rw [hv] at q
    rw [Option.some.inj q]
    exact K6 i hi
  refine Back.mono (back hZ hw wi E V C K1 hty S hz (by omega) (by omega) (fun i hi => by rw [hcv i (by omega)]; exact hall _ (List.getElem_mem _)) hfr hlo) (fun P a hp => ⟨hp.1, hp.2.1, hp.2.2.1, by rw [e]; exact hp.2.2.2⟩) (fun P a v B hp hq => ?_)
  obtain ⟨L, ⟨q1, q2, q3, q4, q5, q6, q7, ⟨V', v1, v2, v3, v4, v5⟩, q9⟩, hl, hc, hs⟩ := hq
  refine ⟨L, ⟨q1, q2, q3, q4, q5, q6, q7, ⟨V'.cls, v3, V', v1, rfl, by rw [v4, e, hlen], K4, fun i hi => ?_, fun i hi => ?_⟩, q9⟩, hl, hc, by rw [hs, e]⟩
  · have hi' : i < cs.length := by omega
    rw [v5 i (by omega), hcv i hi']; simp [List.getD_eq_getElem?_getD, hi']
  · have hi' : i < cs.length := by omega
    simp only [List.getD_eq_getElem?_getD, List.getElem?_map, List.getElem?_eq_getElem hi', Option.map_some, Option.getD_some]
    exact fits_lo8 _
end StrChars.Road
namespace StrChars.Road
open Jvm Sem ClassFile Op Lib Jvm.Stand Jvm.Free Jvm.Free.XT
/-- WHAT COMES BACK, in the writer's own shape -/
def QV (Z : State) (x : Addr) (N : Int32) (bs : List Int32) (h : Heap) (n0 : Nat) (v : Option Value) (h' : Heap) (L : List Loc) : Prop := v = none ∧ RoadKit.Fr n0 L ∧ RoadKit.Keep h h' [x] ∧ RoadKit.Exa Z h' x ST ∧ RoadKit.Fld Z h' x ST "coder" "B" (.int 0) ∧
  ∃ (t : Addr) (kb : ClassId), n0 ≤ t ∧ h.size ≤ t ∧ ¬ t = x ∧ RoadKit.Fld Z h' x ST "value" "[B" (.ref t) ∧ RoadKit.Arv Z h' t kb .byte N (bs.map Value.int) (.int 0)
/-- **new String(chars) AT A CALL, FOR THE WRITER**: a char[] of n known ints, each 0 to 255 -/
theorem backV {p : Program} {l : Launch} {e : Env} {R : Room} {s : State} {args : Array Value} {below : List Frame} {len W : Nat} {Z : State} {a0 : Array Value} {h : Heap} (hZ : Z.Warmed39 s.vm) (hw : ∀ d ∈ words, d.before a0 Z = true) {kI : Nat} (wi : (Jvm.Cond.instantiable ST kI).before a0 Z = true)
    {x b : Addr} {kC : ClassId} {cs bs : List Int32} {d v0 c0 : Value} {z N : Int32} {n n0 : Nat} (hx0 : n0 ≤ x) (hh0 : n0 ≤ h.size) (E : RoadKit.Exa Z h x ST) (V : RoadKit.Fld Z h x ST "value" "[B" v0) (C : RoadKit.Fld Z h x ST "coder" "B" c0) (K : RoadKit.Arv Z h b kC .char N (cs.map Value.int) d) (S : RoadKit.Sta Z h ST "COMPACT_STRINGS" "Z" (.int z)) (hz : ¬ z = 0)
    (hn : cs.length = n) (hN : N = Int32.ofNat n) (l0 : 0 < n) (l2 : n ≤ 4000) (hp : ∀ c ∈ cs, ¬ c < 0 ∧ ¬ (255 : Int32) < c) (hb : bs = cs.map (fun c => c.toInt8.toInt32)) (hfr : 4 ≤ R.frames) (hlo : W + 65 ≤ R.locals) :
    Back l R p e below s args (⟨"java/lang/String", "<init>", "([C)V"⟩ : MethodName) len W (fun P a => a = #[.ref x, .ref b] ∧ P.U.heap = h ∧ P.cells + 1 ≤ R.cells ∧ P.slots + n ≤ R.slots)
      (fun P _ v B => ∃ L, QV Z x N bs h n0 v B.U.heap L ∧ B.locs = P.locs ++ L ∧ B.cells = P.cells + 1 ∧ B.slots = P.slots + n) := by
  subst hn hN hb
  refine Back.mono (backArv hZ hw wi E V C K S hz (n32 (by omega)) l0 (by omega) (fun c hc => (hp c hc).2) hfr hlo) (fun P a hp => hp) (fun P a v B hp hq => ?_)
  obtain ⟨L, ⟨q1, q2, q3, q4, q5, q6, q7, ⟨kb, v1, v2⟩, q9⟩, hl, hc, hs⟩ := hq
  exact ⟨L, ⟨q1, fun y hy => by rw [q2 y hy]; exact hx0, q3, q5, q7, h.size, kb, hh0, Nat.le_refl _, Nat.ne_of_gt E.lt, q6, by rw [List.map_map]; exact v2⟩, hl, hc, hs⟩
end StrChars.Road
end Jvm.Pilot.@@N@@
namespace Jvm.Pilot.@@N@@
open Jvm Jvm.ClassFile Sem Op Lib Jvm.Free Jvm.Stand Jvm.LawKit Jvm.RoadKit Bundle Jvm.Pilot.@@N@@.Jvm.D
def QP (w : Option Value) (h0 : Heap) (n0 : Nat) (v : Option Value) (h : Heap) (L : List Loc) : Prop := v = w ∧ Fr n0 L ∧ h = h0
section YS
variable {p : Program} {l : Launch} {e : Env} {R : Room} {s : State} {args : Array Value} {meth : Method} {locs : List Loc} {cells slots : Nat} {bytes : ByteArray} {below : List Frame} {T target : State} {m : MethodId} {c : Code} {pc : Nat} {Ls : Array Slot} {S : List Value}
theorem y_iload (X : Stand p l e R s m args below meth c T locs cells slots) (hx : p.tables.exec = Jvm.exec) (hby : c.code = bytes) {k : Nat} {v : Int32} (hd : decode bytes pc = .ok (.iload k, 2)) (hl : Ls[k]? = some (.val (.int v))) (hr : Steps p.tables e below (T.setTop (mkF m (pc + 2) Ls (.int v :: S))) target) : Steps p.tables e below (T.setTop (mkF m pc Ls S)) target := XS.iload (g := mkF m pc Ls S) X.here hx rfl (hb hby hd) hl hr
theorem y_iloadN (X : Stand p l e R s m args below meth c T locs cells slots) (hx : p.tables.exec = Jvm.exec) (hby : c.code = bytes) {k : Fin 4} {v : Int32} (hd : decode bytes pc = .ok (.iload_n k, 1)) (hl : Ls[k.val]? = some (.val (.int v))) (hr : Steps p.tables e below (T.setTop (mkF m (pc + 1) Ls (.int v :: S))) target) : Steps p.tables e below (T.setTop (mkF m pc Ls S)) target := XS.iloadN (g := mkF m pc Ls S) X.here hx rfl (hb hby hd) hl hr
theorem y_lload (X : Stand p l e R s m args below meth c T locs cells slots) (hx : p.tables.exec = Jvm.exec) (hby : c.code = bytes) {k : Nat} {v : Int64} (hd : decode bytes pc = .ok (.lload k, 2)) (hl : Ls[k]? = some (.val (.long v))) (hr : Steps p.tables e below (T.setTop (mkF m (pc + 2) Ls (.long v :: S))) target) : Steps p.tables e below (T.setTop (mkF m pc Ls S)) target := XS.lload (g := mkF m pc Ls S) X.here hx rfl (hb hby hd) hl hr
theorem y_lloadN (X : Stand p l e R s m args below meth c T locs cells slots) (hx : p.tables.exec = Jvm.exec) (hby : c.code = bytes) {k : Fin 4} {v : Int64} (hd : decode bytes pc = .ok (.lload_n k, 1)) (hl : Ls[k.val]? = some (.val (.long v))) (hr : Steps p.tables e below (T.setTop (mkF m (pc + 1) Ls (.long v :: S))) target) : Steps p.tables e below (T.setTop (mkF m pc Ls S)) target := XS.lloadN (g := mkF m pc Ls S) X.here hx rfl (hb hby hd) hl hr
theorem y_aload (X : Stand p l e R s m args below meth c T locs cells slots) (hx : p.tables.exec = Jvm.exec) (hby : c.code = bytes) {k : Nat} {v : Value} (hd : decode bytes pc = .ok (.aload k, 2)) (hl : Ls[k]? = some (.val v)) (hv : v.isRef = true) (hr : Steps p.tables e below (T.setTop (mkF m (pc + 2) Ls (v :: S))) target) : Steps p.tables e below (T.setTop (mkF m pc Ls S)) target := XS.aload (g := mkF m pc Ls S) X.here hx rfl (hb hby hd) hl hv hr
theorem y_aloadN (X : Stand p l e R s m args below meth c T locs cells slots) (hx : p.tables.exec = Jvm.exec) (hby : c.code = bytes) {k : Fin 4} {v : Value} (hd : decode bytes pc = .ok (.aload_n k, 1)) (hl : Ls[k.val]? = some (.val v)) (hv : v.isRef = true) (hr : Steps p.tables e below (T.setTop (mkF m (pc + 1) Ls (v :: S))) target) : Steps p.tables e below (T.setTop (mkF m pc Ls S)) target := XS.aloadN (g := mkF m pc Ls S) X.here hx rfl (hb hby hd) hl hv hr
theorem y_istore (X : Stand p l e R s m args below meth c T locs cells slots) (hx : p.tables.exec = Jvm.exec) (hby : c.code = bytes) {k : Nat} {x : Int32} {l' : Array Slot} (hd : decode bytes pc = .ok (.istore k, 2)) (hl : storeLocals Ls k (.int x) = some l') (hr : Steps p.tables e below (T.setTop (mkF m (pc + 2) l' S)) target) : Steps p.tables e below (T.setTop (mkF m pc Ls (.int x :: S))) target := XS.istore (g := mkF m pc Ls (.int x :: S)) X.here hx rfl (hb hby hd) rfl hl hr
theorem y_istoreN (X : Stand p l e R s m args below meth c T locs cells slots) (hx : p.tables.exec = Jvm.exec) (hby : c.code = bytes) {k : Fin 4} {x : Int32} {l' : Array Slot} (hd : decode bytes pc = .ok (.istore_n k, 1)) (hl : storeLocals Ls k.val (.int x) = some l') (hr : Steps p.tables e below (T.setTop (mkF m (pc + 1) l' S)) target) : Steps p.tables e below (T.setTop (mkF m pc Ls (.int x :: S))) target := XS.istoreN (g := mkF m pc Ls (.int x :: S)) X.here hx rfl (hb hby hd) rfl hl hr
theorem y_lstore (X : Stand p l e R s m args below meth c T locs cells slots) (hx : p.tables.exec = Jvm.exec) (hby : c.code = bytes) {k : Nat} {x : Int64} {l' : Array Slot} (hd : decode bytes pc = .ok (.lstore k, 2)) (hl : storeLocals Ls k (.long x) = some l') (hr : Steps p.tables e below (T.setTop (mkF m (pc + 2) l' S)) target) : Steps p.tables e below (T.setTop (mkF m pc Ls (.long x :: S))) target := XS.lstore (g := mkF m pc Ls (.long x :: S)) X.here hx rfl (hb hby hd) rfl hl hr
theorem y_lstoreN (X : Stand p l e R s m args below meth c T locs cells slots) (hx : p.tables.exec = Jvm.exec) (hby : c.code = bytes) {k : Fin 4} {x : Int64} {l' : Array Slot} (hd : decode bytes pc = .ok (.lstore_n k, 1)) (hl : storeLocals Ls k.val (.long x) = some l') (hr : Steps p.tables e below (T.setTop (mkF m (pc + 1) l' S)) target) : Steps p.tables e below (T.setTop (mkF m pc Ls (.long x :: S))) target := XS.lstoreN (g := mkF m pc Ls (.long x :: S)) X.here hx rfl (hb hby hd) rfl hl hr
theorem y_astore (X : Stand p l e R s m args below meth c T locs cells slots) (hx : p.tables.exec = Jvm.exec) (hby : c.code = bytes) {k : Nat} {x : Value} {l' : Array Slot} (hd : decode bytes pc = .ok (.astore k, 2)) (hv : x.isRef = true) (hl : storeLocals Ls k x = some l') (hr : Steps p.tables e below (T.setTop (mkF m (pc + 2) l' S)) target) : Steps p.tables e below (T.setTop (mkF m pc Ls (x :: S))) target := XS.astore (g := mkF m pc Ls (x :: S)) X.here hx rfl (hb hby hd) rfl hv hl hr
theorem y_astoreN (X : Stand p l e R s m args below meth c T locs cells slots) (hx : p.tables.exec = Jvm.exec) (hby : c.code = bytes) {k : Fin 4} {x : Value} {l' : Array Slot} (hd : decode bytes pc = .ok (.astore_n k, 1)) (hv : x.isRef = true) (hl : storeLocals Ls k.val x = some l') (hr : Steps p.tables e below (T.setTop (mkF m (pc + 1) l' S)) target) : Steps p.tables e below (T.setTop (mkF m pc Ls (x :: S))) target := XS.astoreN (g := mkF m pc Ls (x :: S)) X.here hx rfl (hb hby hd) rfl hv hl hr
theorem y_iconst (X : Stand p l e R s m args below meth c T locs cells slots) (hx : p.tables.exec = Jvm.exec) (hby : c.code = bytes) {i : Int} {v : Int32} (hd : decode bytes pc = .ok (.iconst i, 1)) (hv : Int32.ofInt i = v) (hr : Steps p.tables e below (T.setTop (mkF m (pc + 1) Ls (.int v :: S))) target) : Steps p.tables e below (T.setTop (mkF m pc Ls S)) target := XS.iconst (g := mkF m pc Ls S) X.here hx rfl (hb hby hd) (by subst hv; exact hr)
theorem y_bipush (X : Stand p l e R s m args below meth c T locs cells slots) (hx : p.tables.exec = Jvm.exec) (hby : c.code = bytes) {i : Int} {v : Int32} (hd : decode bytes pc = .ok (.bipush i, 2)) (hv : (Int8.ofInt i).toInt32 = v) (hr : Steps p.tables e below (T.setTop (mkF m (pc + 2) Ls (.int v :: S))) target) : Steps p.tables e below (T.setTop (mkF m pc Ls S)) target := XS.bipush (g := mkF m pc Ls S) X.here hx rfl (hb hby hd) (by subst hv; exact hr)
theorem y_sipush (X : Stand p l e R s m args below meth c T locs cells slots) (hx : p.tables.exec = Jvm.exec) (hby : c.code = bytes) {i : Int} {v : Int32} (hd : decode bytes pc = .ok (.sipush i, 3)) (hv : (Int16.ofInt i).toInt32 = v) (hr : Steps p.tables e below (T.setTop (mkF m (pc + 3) Ls (.int v :: S))) target) : Steps p.tables e below (T.setTop (mkF m pc Ls S)) target := XS.sipush (g := mkF m pc Ls S) X.here hx rfl (hb hby hd) (by subst hv; exact hr)
theorem y_lconst (X : Stand p l e R s m args below meth c T locs cells slots) (hx : p.tables.exec = Jvm.exec) (hby : c.code = bytes) {k : Fin 2} {v : Int64} (hd : decode bytes pc = .ok (.lconst k, 1)) (hv : Int64.ofNat k = v) (hr : Steps p.tables e below (T.setTop (mkF m (pc + 1) Ls (.long v :: S))) target) : Steps p.tables e below (T.setTop (mkF m pc Ls S)) target := XS.lconst (g := mkF m pc Ls S) X.here hx rfl (hb hby hd) (by subst hv; exact hr)
theorem y_aconstNull (X : Stand p l e R s m args below meth c T locs cells slots) (hx : p.tables.exec = Jvm.exec) (hby : c.code = bytes)  (hd : decode bytes pc = .ok (.aconst_null, 1)) (hr : Steps p.tables e below (T.setTop (mkF m (pc + 1) Ls (.null :: S))) target) : Steps p.tables e below (T.setTop (mkF m pc Ls S)) target := XS.aconstNull (g := mkF m pc Ls S) X.here hx rfl (hb hby hd) hr
theorem y_iadd (X : Stand p l e R s m args below meth c T locs cells slots) (hx : p.tables.exec = Jvm.exec) (hby : c.code = bytes) {x y : Int32} (hd : decode bytes pc = .ok (.iadd, 1)) (hr : Steps p.tables e below (T.setTop (mkF m (pc + 1) Ls (.int (x + y) :: S))) target) : Steps p.tables e below (T.setTop (mkF m pc Ls (.int y :: .int x :: S))) target := XS.iadd (g := mkF m pc Ls (.int y :: .int x :: S)) X.here hx rfl (hb hby hd) rfl hr
theorem y_isub (X : Stand p l e R s m args below meth c T locs cells slots) (hx : p.tables.exec = Jvm.exec) (hby : c.code = bytes) {x y : Int32} (hd : decode bytes pc = .ok (.isub, 1)) (hr : Steps p.tables e below (T.setTop (mkF m (pc + 1) Ls (.int (x - y) :: S))) target) : Steps p.tables e below (T.setTop (mkF m pc Ls (.int y :: .int x :: S))) target := XS.isub (g := mkF m pc Ls (.int y :: .int x :: S)) X.here hx rfl (hb hby hd) rfl hr
theorem y_imul (X : Stand p l e R s m args below meth c T locs cells slots) (hx : p.tables.exec = Jvm.exec) (hby : c.code = bytes) {x y : Int32} (hd : decode bytes pc = .ok (.imul, 1)) (hr : Steps p.tables e below (T.setTop (mkF m (pc + 1) Ls (.int (x * y) :: S))) target) : Steps p.tables e below (T.setTop (mkF m pc Ls (.int y :: .int x :: S))) target := XS.imul (g := mkF m pc Ls (.int y :: .int x :: S)) X.here hx rfl (hb hby hd) rfl hr
theorem y_iand (X : Stand p l e R s m args below meth c T locs cells slots) (hx : p.tables.exec = Jvm.exec) (hby : c.code = bytes) {x y : Int32} (hd : decode bytes pc = .ok (.iand, 1)) (hr : Steps p.tables e below (T.setTop (mkF m (pc + 1) Ls (.int (x &&& y) :: S))) target) : Steps p.tables e below (T.setTop (mkF m pc Ls (.int y :: .int x :: S))) target := XS.iand (g := mkF m pc Ls (.int y :: .int x :: S)) X.here hx rfl (hb hby hd) rfl hr
theorem y_ior (X : Stand p l e R s m args below meth c T locs cells slots) (hx : p.tables.exec = Jvm.exec) (hby : c.code = bytes) {x y : Int32} (hd : decode bytes pc = .ok (.ior, 1)) (hr : Steps p.tables e below (T.setTop (mkF m (pc + 1) Ls (.int (x ||| y) :: S))) target) : Steps p.tables e below (T.setTop (mkF m pc Ls (.int y :: .int x :: S))) target := XS.ior (g := mkF m pc Ls (.int y :: .int x :: S)) X.here hx rfl (hb hby hd) rfl hr
theorem y_ixor (X : Stand p l e R s m args below meth c T locs cells slots) (hx : p.tables.exec = Jvm.exec) (hby : c.code = bytes) {x y : Int32} (hd : decode bytes pc = .ok (.ixor, 1)) (hr : Steps p.tables e below (T.setTop (mkF m (pc + 1) Ls (.int (x ^^^ y) :: S))) target) : Steps p.tables e below (T.setTop (mkF m pc Ls (.int y :: .int x :: S))) target := XS.ixor (g := mkF m pc Ls (.int y :: .int x :: S)) X.here hx rfl (hb hby hd) rfl hr
theorem y_ishl (X : Stand p l e R s m args below meth c T locs cells slots) (hx : p.tables.exec = Jvm.exec) (hby : c.code = bytes) {x y : Int32} (hd : decode bytes pc = .ok (.ishl, 1)) (hr : Steps p.tables e below (T.setTop (mkF m (pc + 1) Ls (.int (x <<< (y &&& 31)) :: S))) target) : Steps p.tables e below (T.setTop (mkF m pc Ls (.int y :: .int x :: S))) target := XS.ishl (g := mkF m pc Ls (.int y :: .int x :: S)) X.here hx rfl (hb hby hd) rfl hr
theorem y_ishr (X : Stand p l e R s m args below meth c T locs cells slots) (hx : p.tables.exec = Jvm.exec) (hby : c.code = bytes) {x y : Int32} (hd : decode bytes pc = .ok (.ishr, 1)) (hr : Steps p.tables e below (T.setTop (mkF m (pc + 1) Ls (.int (x >>> (y &&& 31)) :: S))) target) : Steps p.tables e below (T.setTop (mkF m pc Ls (.int y :: .int x :: S))) target := XS.ishr (g := mkF m pc Ls (.int y :: .int x :: S)) X.here hx rfl (hb hby hd) rfl hr
theorem y_iushr (X : Stand p l e R s m args below meth c T locs cells slots) (hx : p.tables.exec = Jvm.exec) (hby : c.code = bytes) {x y : Int32} (hd : decode bytes pc = .ok (.iushr, 1)) (hr : Steps p.tables e below (T.setTop (mkF m (pc + 1) Ls (.int ((x.toUInt32 >>> (y &&& 31).toUInt32).toInt32) :: S))) target) : Steps p.tables e below (T.setTop (mkF m pc Ls (.int y :: .int x :: S))) target := XS.iushr (g := mkF m pc Ls (.int y :: .int x :: S)) X.here hx rfl (hb hby hd) rfl hr
theorem y_ladd (X : Stand p l e R s m args below meth c T locs cells slots) (hx : p.tables.exec = Jvm.exec) (hby : c.code = bytes) {x y : Int64} (hd : decode bytes pc = .ok (.ladd, 1)) (hr : Steps p.tables e below (T.setTop (mkF m (pc + 1) Ls (.long (x + y) :: S))) target) : Steps p.tables e below (T.setTop (mkF m pc Ls (.long y :: .long x :: S))) target := XS.ladd (g := mkF m pc Ls (.long y :: .long x :: S)) X.here hx rfl (hb hby hd) rfl hr
theorem y_lsub (X : Stand p l e R s m args below meth c T locs cells slots) (hx : p.tables.exec = Jvm.exec) (hby : c.code = bytes) {x y : Int64} (hd : decode bytes pc = .ok (.lsub, 1)) (hr : Steps p.tables e below (T.setTop (mkF m (pc + 1) Ls (.long (x - y) :: S))) target) : Steps p.tables e below (T.setTop (mkF m pc Ls (.long y :: .long x :: S))) target := XS.lsub (g := mkF m pc Ls (.long y :: .long x :: S)) X.here hx rfl (hb hby hd) rfl hr
theorem y_lmul (X : Stand p l e R s m args below meth c T locs cells slots) (hx : p.tables.exec = Jvm.exec) (hby : c.code = bytes) {x y : Int64} (hd : decode bytes pc = .ok (.lmul, 1)) (hr : Steps p.tables e below (T.setTop (mkF m (pc + 1) Ls (.long (x * y) :: S))) target) : Steps p.tables e below (T.setTop (mkF m pc Ls (.long y :: .long x :: S))) target := XS.lmul (g := mkF m pc Ls (.long y :: .long x :: S)) X.here hx rfl (hb hby hd) rfl hr
theorem y_land (X : Stand p l e R s m args below meth c T locs cells slots) (hx : p.tables.exec = Jvm.exec) (hby : c.code = bytes) {x y : Int64} (hd : decode bytes pc = .ok (.land, 1)) (hr : Steps p.tables e below (T.setTop (mkF m (pc + 1) Ls (.long (x &&& y) :: S))) target) : Steps p.tables e below (T.setTop (mkF m pc Ls (.long y :: .long x :: S))) target := XS.land (g := mkF m pc Ls (.long y :: .long x :: S)) X.here hx rfl (hb hby hd) rfl hr
theorem y_lor (X : Stand p l e R s m args below meth c T locs cells slots) (hx : p.tables.exec = Jvm.exec) (hby : c.code = bytes) {x y : Int64} (hd : decode bytes pc = .ok (.lor, 1)) (hr : Steps p.tables e below (T.setTop (mkF m (pc + 1) Ls (.long (x ||| y) :: S))) target) : Steps p.tables e below (T.setTop (mkF m pc Ls (.long y :: .long x :: S))) target := XS.lor (g := mkF m pc Ls (.long y :: .long x :: S)) X.here hx rfl (hb hby hd) rfl hr
theorem y_lxor (X : Stand p l e R s m args below meth c T locs cells slots) (hx : p.tables.exec = Jvm.exec) (hby : c.code = bytes) {x y : Int64} (hd : decode bytes pc = .ok (.lxor, 1)) (hr : Steps p.tables e below (T.setTop (mkF m (pc + 1) Ls (.long (x ^^^ y) :: S))) target) : Steps p.tables e below (T.setTop (mkF m pc Ls (.long y :: .long x :: S))) target := XS.lxor (g := mkF m pc Ls (.long y :: .long x :: S)) X.here hx rfl (hb hby hd) rfl hr
theorem y_ldiv (X : Stand p l e R s m args below meth c T locs cells slots) (hx : p.tables.exec = Jvm.exec) (hby : c.code = bytes) {x y : Int64} (hd : decode bytes pc = .ok (.ldiv, 1)) (hy : y ≠ 0) (hr : Steps p.tables e below (T.setTop (mkF m (pc + 1) Ls (.long (x / y) :: S))) target) : Steps p.tables e below (T.setTop (mkF m pc Ls (.long y :: .long x :: S))) target := XS.ldiv (g := mkF m pc Ls (.long y :: .long x :: S)) X.here hx rfl (hb hby hd) rfl hy hr
theorem y_lrem (X : Stand p l e R s m args below meth c T locs cells slots) (hx : p.tables.exec = Jvm.exec) (hby : c.code = bytes) {x y : Int64} (hd : decode bytes pc = .ok (.lrem, 1)) (hy : y ≠ 0) (hr : Steps p.tables e below (T.setTop (mkF m (pc + 1) Ls (.long (x - (x / y) * y) :: S))) target) : Steps p.tables e below (T.setTop (mkF m pc Ls (.long y :: .long x :: S))) target := XS.lrem (g := mkF m pc Ls (.long y :: .long x :: S)) X.here hx rfl (hb hby hd) rfl hy hr
theorem y_idiv (X : Stand p l e R s m args below meth c T locs cells slots) (hx : p.tables.exec = Jvm.exec) (hby : c.code = bytes) {x y : Int32} (hd : decode bytes pc = .ok (.idiv, 1)) (hy : y ≠ 0) (hr : Steps p.tables e below (T.setTop (mkF m (pc + 1) Ls (.int (x / y) :: S))) target) : Steps p.tables e below (T.setTop (mkF m pc Ls (.int y :: .int x :: S))) target := XS.idiv (g := mkF m pc Ls (.int y :: .int x :: S)) X.here hx rfl (hb hby hd) rfl hy hr
theorem y_ineg (X : Stand p l e R s m args below meth c T locs cells slots) (hx : p.tables.exec = Jvm.exec) (hby : c.code = bytes) {x : Int32} (hd : decode bytes pc = .ok (.ineg, 1)) (hr : Steps p.tables e below (T.setTop (mkF m (pc + 1) Ls (.int (-x) :: S))) target) : Steps p.tables e below (T.setTop (mkF m pc Ls (.int x :: S))) target := XS.ineg (g := mkF m pc Ls (.int x :: S)) X.here hx rfl (hb hby hd) rfl hr
theorem y_i2l (X : Stand p l e R s m args below meth c T locs cells slots) (hx : p.tables.exec = Jvm.exec) (hby : c.code = bytes) {x : Int32} (hd : decode bytes pc = .ok (.i2l, 1)) (hr : Steps p.tables e below (T.setTop (mkF m (pc + 1) Ls (.long (x.toInt64) :: S))) target) : Steps p.tables e below (T.setTop (mkF m pc Ls (.int x :: S))) target := XS.i2l (g := mkF m pc Ls (.int x :: S)) X.here hx rfl (hb hby hd) rfl hr
theorem y_l2i (X : Stand p l e R s m args below meth c T locs cells slots) (hx : p.tables.exec = Jvm.exec) (hby : c.code = bytes) {x : Int64} (hd : decode bytes pc = .ok (.l2i, 1)) (hr : Steps p.tables e below (T.setTop (mkF m (pc + 1) Ls (.int (x.toInt32) :: S))) target) : Steps p.tables e below (T.setTop (mkF m pc Ls (.long x :: S))) target := XS.l2i (g := mkF m pc Ls (.long x :: S)) X.here hx rfl (hb hby hd) rfl hr
theorem y_i2b (X : Stand p l e R s m args below meth c T locs cells slots) (hx : p.tables.exec = Jvm.exec) (hby : c.code = bytes) {x : Int32} (hd : decode bytes pc = .ok (.i2b, 1)) (hr : Steps p.tables e below (T.setTop (mkF m (pc + 1) Ls (.int (x.toInt8.toInt32) :: S))) target) : Steps p.tables e below (T.setTop (mkF m pc Ls (.int x :: S))) target := XS.i2b (g := mkF m pc Ls (.int x :: S)) X.here hx rfl (hb hby hd) rfl hr
theorem y_i2c (X : Stand p l e R s m args below meth c T locs cells slots) (hx : p.tables.exec = Jvm.exec) (hby : c.code = bytes) {x : Int32} (hd : decode bytes pc = .ok (.i2c, 1)) (hr : Steps p.tables e below (T.setTop (mkF m (pc + 1) Ls (.int (x.toUInt32.toUInt16.toUInt32.toInt32) :: S))) target) : Steps p.tables e below (T.setTop (mkF m pc Ls (.int x :: S))) target := XS.i2c (g := mkF m pc Ls (.int x :: S)) X.here hx rfl (hb hby hd) rfl hr
theorem y_i2s (X : Stand p l e R s m args below meth c T locs cells slots) (hx : p.tables.exec = Jvm.exec) (hby : c.code = bytes) {x : Int32} (hd : decode bytes pc = .ok (.i2s, 1)) (hr : Steps p.tables e below (T.setTop (mkF m (pc + 1) Ls (.int (x.toInt16.toInt32) :: S))) target) : Steps p.tables e below (T.setTop (mkF m pc Ls (.int x :: S))) target := XS.i2s (g := mkF m pc Ls (.int x :: S)) X.here hx rfl (hb hby hd) rfl hr
theorem y_lcmp (X : Stand p l e R s m args below meth c T locs cells slots) (hx : p.tables.exec = Jvm.exec) (hby : c.code = bytes) {x y : Int64} (hd : decode bytes pc = .ok (.lcmp, 1)) (hr : Steps p.tables e below (T.setTop (mkF m (pc + 1) Ls (.int (lcmpW x y) :: S))) target) : Steps p.tables e below (T.setTop (mkF m pc Ls (.long y :: .long x :: S))) target := XS.lcmp (g := mkF m pc Ls (.long y :: .long x :: S)) X.here hx rfl (hb hby hd) rfl hr
theorem y_iinc (X : Stand p l e R s m args below meth c T locs cells slots) (hx : p.tables.exec = Jvm.exec) (hby : c.code = bytes) {k : Nat} {d : Int} {x : Int32} {l' : Array Slot} (hd : decode bytes pc = .ok (.iinc k d, 3)) (hl : Ls[k]? = some (.val (.int x))) (hl' : storeLocals Ls k (.int (x + Int32.ofInt d)) = some l') (hr : Steps p.tables e below (T.setTop (mkF m (pc + 3) l' S)) target) : Steps p.tables e below (T.setTop (mkF m pc Ls S)) target := XS.iinc (g := mkF m pc Ls S) X.here hx rfl (hb hby hd) hl hl' hr
theorem y_dup (X : Stand p l e R s m args below meth c T locs cells slots) (hx : p.tables.exec = Jvm.exec) (hby : c.code = bytes) {x : Value} (hd : decode bytes pc = .ok (.dup, 1)) (hc : x.category = 1) (hr : Steps p.tables e below (T.setTop (mkF m (pc + 1) Ls (x :: x :: S))) target) : Steps p.tables e below (T.setTop (mkF m pc Ls (x :: S))) target := XS.dup (g := mkF m pc Ls (x :: S)) X.here hx rfl (hb hby hd) rfl hc hr
theorem y_pop (X : Stand p l e R s m args below meth c T locs cells slots) (hx : p.tables.exec = Jvm.exec) (hby : c.code = bytes) {x : Value} (hd : decode bytes pc = .ok (.pop, 1)) (hc : x.category = 1) (hr : Steps p.tables e below (T.setTop (mkF m (pc + 1) Ls S)) target) : Steps p.tables e below (T.setTop (mkF m pc Ls (x :: S))) target := XS.pop (g := mkF m pc Ls (x :: S)) X.here hx rfl (hb hby hd) rfl hc hr
theorem y_dupX1 (X : Stand p l e R s m args below meth c T locs cells slots) (hx : p.tables.exec = Jvm.exec) (hby : c.code = bytes) {x y : Value} (hd : decode bytes pc = .ok (.dup_x1, 1)) (hc : x.category = 1) (hc' : y.category = 1) (hr : Steps p.tables e below (T.setTop (mkF m (pc + 1) Ls (x :: y :: x :: S))) target) : Steps p.tables e below (T.setTop (mkF m pc Ls (x :: y :: S))) target := XS.dupX1 (g := mkF m pc Ls (x :: y :: S)) X.here hx rfl (hb hby hd) rfl hc hc' hr
theorem y_goto (X : Stand p l e R s m args below meth c T locs cells slots) (hx : p.tables.exec = Jvm.exec) (hby : c.code = bytes)  {o : Int} {pc' : Nat} (hd : decode bytes pc = .ok (.goto o, 3))  (ho : 0 ≤ (pc : Int) + o) (hp : ((pc : Int) + o).toNat = pc') (hr : Steps p.tables e below (T.setTop (mkF m pc' Ls S)) target) : Steps p.tables e below (T.setTop (mkF m pc Ls S)) target := XS.goto (g := mkF m pc Ls S) X.here hx rfl rfl (hb hby hd)  ho hp hr
theorem y_ifYes (X : Stand p l e R s m args below meth c T locs cells slots) (hx : p.tables.exec = Jvm.exec) (hby : c.code = bytes) {cd : ClassFile.Cond} {x : Int32} {o : Int} {pc' : Nat} (hd : decode bytes pc = .ok (.ifCond cd o, 3)) (hc : ifCond.holds cd x = true) (ho : 0 ≤ (pc : Int) + o) (hp : ((pc : Int) + o).toNat = pc') (hr : Steps p.tables e below (T.setTop (mkF m pc' Ls S)) target) : Steps p.tables e below (T.setTop (mkF m pc Ls (.int x :: S))) target := XS.ifYes (g := mkF m pc Ls (.int x :: S)) X.here hx rfl rfl (hb hby hd) rfl hc ho hp hr
theorem y_icmpYes (X : Stand p l e R s m args below meth c T locs cells slots) (hx : p.tables.exec = Jvm.exec) (hby : c.code = bytes) {cd : ClassFile.Cond} {x y : Int32} {o : Int} {pc' : Nat} (hd : decode bytes pc = .ok (.if_icmp cd o, 3)) (hc : if_icmp.holds cd x y = true) (ho : 0 ≤ (pc : Int) + o) (hp : ((pc : Int) + o).toNat = pc') (hr : Steps p.tables e below (T.setTop (mkF m pc' Ls S)) target) : Steps p.tables e below (T.setTop (mkF m pc Ls (.int y :: .int x :: S))) target := XS.icmpYes (g := mkF m pc Ls (.int y :: .int x :: S)) X.here hx rfl rfl (hb hby hd) rfl hc ho hp hr
theorem y_ifnullYes (X : Stand p l e R s m args below meth c T locs cells slots) (hx : p.tables.exec = Jvm.exec) (hby : c.code = bytes)  {o : Int} {pc' : Nat} (hd : decode bytes pc = .ok (.ifnull o, 3))  (ho : 0 ≤ (pc : Int) + o) (hp : ((pc : Int) + o).toNat = pc') (hr : Steps p.tables e below (T.setTop (mkF m pc' Ls S)) target) : Steps p.tables e below (T.setTop (mkF m pc Ls (.null :: S))) target := XS.ifnullYes (g := mkF m pc Ls (.null :: S)) X.here hx rfl rfl (hb hby hd) rfl ho hp hr
theorem y_ifnonnullYes (X : Stand p l e R s m args below meth c T locs cells slots) (hx : p.tables.exec = Jvm.exec) (hby : c.code = bytes) {b : Addr} {o : Int} {pc' : Nat} (hd : decode bytes pc = .ok (.ifnonnull o, 3))  (ho : 0 ≤ (pc : Int) + o) (hp : ((pc : Int) + o).toNat = pc') (hr : Steps p.tables e below (T.setTop (mkF m pc' Ls S)) target) : Steps p.tables e below (T.setTop (mkF m pc Ls (.ref b :: S))) target := XS.ifnonnullYes (g := mkF m pc Ls (.ref b :: S)) X.here hx rfl rfl (hb hby hd) rfl ho hp hr
theorem y_ifNo (X : Stand p l e R s m args below meth c T locs cells slots) (hx : p.tables.exec = Jvm.exec) (hby : c.code = bytes) {cd : ClassFile.Cond} {o : Int} {x : Int32} (hd : decode bytes pc = .ok (.ifCond cd o, 3)) (hc : ifCond.holds cd x = false) (hr : Steps p.tables e below (T.setTop (mkF m (pc + 3) Ls S)) target) : Steps p.tables e below (T.setTop (mkF m pc Ls (.int x :: S))) target := XS.ifNo (g := mkF m pc Ls (.int x :: S)) X.here hx rfl (hb hby hd) rfl hc hr
theorem y_icmpNo (X : Stand p l e R s m args below meth c T locs cells slots) (hx : p.tables.exec = Jvm.exec) (hby : c.code = bytes) {cd : ClassFile.Cond} {o : Int} {x y : Int32} (hd : decode bytes pc = .ok (.if_icmp cd o, 3)) (hc : if_icmp.holds cd x y = false) (hr : Steps p.tables e below (T.setTop (mkF m (pc + 3) Ls S)) target) : Steps p.tables e below (T.setTop (mkF m pc Ls (.int y :: .int x :: S))) target := XS.icmpNo (g := mkF m pc Ls (.int y :: .int x :: S)) X.here hx rfl (hb hby hd) rfl hc hr
theorem y_ifnullNo (X : Stand p l e R s m args below meth c T locs cells slots) (hx : p.tables.exec = Jvm.exec) (hby : c.code = bytes) {o : Int} {b : Addr} (hd : decode bytes pc = .ok (.ifnull o, 3)) (hr : Steps p.tables e below (T.setTop (mkF m (pc + 3) Ls S)) target) : Steps p.tables e below (T.setTop (mkF m pc Ls (.ref b :: S))) target := XS.ifnullNo (g := mkF m pc Ls (.ref b :: S)) X.here hx rfl (hb hby hd) rfl hr
theorem y_ifnonnullNo (X : Stand p l e R s m args below meth c T locs cells slots) (hx : p.tables.exec = Jvm.exec) (hby : c.code = bytes) {o : Int} (hd : decode bytes pc = .ok (.ifnonnull o, 3)) (hr : Steps p.tables e below (T.setTop (mkF m (pc + 3) Ls S)) target) : Steps p.tables e below (T.setTop (mkF m pc Ls (.null :: S))) target := XS.ifnonnullNo (g := mkF m pc Ls (.null :: S)) X.here hx rfl (hb hby hd) rfl hr
end YS
theorem ww {Z : State} {a0 : Array Value} (hw : ∀ d ∈ tables_1, d.before a0 Z = true) (i : Nat) {d : Jvm.Cond} (h : tables_1[i]? = some d) : d.before a0 Z = true := hw _ (List.mem_of_getElem? h)
abbrev HW (a0 : Array Value) (Z : State) : Prop := ∀ d ∈ tables_1, d.before a0 Z = true
abbrev GO (p : Program) (e : Env) (below : List Frame) (A B : State) : Prop := ∀ t, Steps p.tables e below A t → Steps p.tables e below B t
abbrev MF (l : Launch) (y : MethodName) (bytes : ByteArray) (maxL : Nat) (ret : Option FieldType) (ws : List Jvm.Cond) (rm : Room) (as' : Array Value) (Z : State) (h0 : Heap) (Q : Option Value → Heap → List Loc → Prop) : Prop := MetFree l y (head1 (Jvm.Cond.code y bytes maxL ret :: ws) rm) (fun a U => a = as' ∧ Z.Warmed39 U.vm ∧ U.heap = h0) (fun _ _ _ _ _ => True) (fun _ U o U' => ∃ v L, o = .returned v ∧ Q v U'.heap L ∧ FrameEnd U o U' L rm.cells rm.slots)
abbrev MFW (l : Launch) (y : MethodName) (bytes : ByteArray) (maxL : Nat) (ret : Option FieldType) (ws : List Jvm.Cond) (rm : Room) (as' : Array Value) (Z : State) (h0 : Heap) (Q : Option Value → Heap → List Loc → Prop) : Prop := MetFree l y (head1 (Jvm.Cond.code y bytes maxL ret :: ws) rm) (fun a U => a = as' ∧ Z.Warmed39 U.vm ∧ U.heap = h0) (fun _ _ _ _ _ => True) (fun _ U o U' => ∃ v L, o = .returned v ∧ Q v U'.heap L ∧ ReturnedEndW U o U' L rm.cells rm.slots)
def QL (w : Option Value) (n0 : Nat) (v : Option Value) (h : Heap) (L : List Loc) : Prop := v = w ∧ Fr n0 L
theorem own_stakeep {Z : State} {h h' : Heap} {C n d : String} {v : Value} {ws : List Addr} (F : Sta Z h C n d v) (K : Keep h h' ws) (q : ∀ x ∈ ws, ∀ cell : Cell, h[x]? = some cell → cell.vm.isStatics = false) : Sta Z h' C n d v := by
  obtain ⟨cf, i, k, f, st, cell, h1, h2, h3, h4, h5, h6, h7⟩ := F
  exact ⟨cf, i, k, f, st, cell, h1, h2, h3, h4, K.2.1 _ _ h5 (fun hm => by rw [q _ hm _ h5] at h6; cases h6), h6, h7⟩
theorem own_nsno {Z : State} {a0 : Array Value} {A S K : String} {n : Nat} (w : (Jvm.Cond.superclass A S).before a0 Z = true) (w0 : (Jvm.Cond.noSuperclass S).before a0 Z = true) (wk : (Jvm.Cond.instantiable K n).before a0 Z = true) (h1 : A ≠ K) (h2 : S ≠ K) : ∃ c t, Z.vm.findClass A = some c ∧ Z.vm.findClass K = some t ∧ Z.vm.assignable c t = false := by
  obtain ⟨c, h0⟩ := found_sup w
  obtain ⟨p, k, kp, p1, p2, p3, p4, p5, -, p7⟩ := Cond.superclass_spec h0 w
  obtain ⟨c', k', q1, q2, q3, -, -⟩ := Cond.noSuperclass_spec w0
  cases q1.symm.trans p1
  obtain ⟨t, kt, t1, t2, t3, t4, -⟩ := Cond.instantiable_spec wk
  have ne1 := ids_ne h0 t1 h1
  have ne2 := ids_ne p1 t1 h2
  have sub : ∀ fuel, Z.vm.isSubclassAux fuel c t = false := fun fuel => by
    cases fuel with
    | zero => rfl
    | succ f =>
      cases f with
      | zero => simp [Vm.isSubclassAux, ne1, p2, p4]
      | succ f => simp [Vm.isSubclassAux, ne1, ne2, p2, p4, q2, q3]
  have t5 : kt.isInterface = false := by
    cases hi : kt.isInterface
    · rfl
    · rw [hi] at t4; simp at t4
  refine ⟨c, t, h0, t1, ?_⟩
  show Z.vm.assignableAux (255 + 1) c t = false
  simp [Vm.assignableAux, ne1, p2, t2, p5, t3, t5, Vm.isSubclass, sub]
def QK (Z : State) (b : Addr) (fs : Heap → Prop) (h0 : Heap) (n0 : Nat) (v : Option Value) (h : Heap) (L : List Loc) : Prop := v = none ∧ Fr n0 L ∧ Keep h0 h [b] ∧ fs h
theorem d10_0 : decode jdk_31_method_11_code 0 = .ok (.aload_n 0, 1) := by decide +kernel
theorem d10_1 : decode jdk_31_method_11_code 1 = .ok (.ifnonnull 12, 3) := by decide +kernel
theorem d10_13 : decode jdk_31_method_11_code 13 = .ok (.aload_n 0, 1) := by decide +kernel
theorem d10_14 : decode jdk_31_method_11_code 14 = .ok (.areturn, 1) := by decide +kernel
abbrev mn0 : MethodName := ⟨"java/util/Objects", "requireNonNull", "(Ljava/lang/Object;Ljava/lang/String;)Ljava/lang/Object;"⟩
theorem pn_10 : plainName "java/util/Objects" = true := by first | (simp [plainName, overriddenIn]; done) | decide +kernel
theorem ef_10 (m : MethodId) (x0 : Addr) (x1 : Addr) : entryFrame m #[(.ref x0), (.ref x1)] 2 = mkF m 0 #[.val (.ref x0), .val (.ref x1)] [] := by first | (simp [entryFrame, mkF, argsToLocals, Value.category]; done) | rfl
def f10 (a1 a2 : Addr) : Addr := a1
set_option maxRecDepth 65536 in
set_option maxHeartbeats 40000000 in
theorem rm10 (l : Launch) (Z : State) (a0 : Array Value) (hw : HW a0 Z) (ws : List Jvm.Cond) (a1 a2 : Addr) (h0 : Heap) (n0 : Nat) (Z0 : n0 ≤ h0.size) :
    MF l mn0 jdk_31_method_11_code 2 (some (.object "java/lang/Object")) ws ({ frames := 0, cells := 0, slots := 0, locals := 0 } : Room) #[(.ref a1), (.ref a2)] Z h0 (QP (some (.ref (f10 a1 a2))) h0 n0) := by
  refine MetFree.of_bodySF (plainFor_of_name pn_10) hisR ?_
  intro p e s m args below meth c s₁ Bd hml0 hP hK
  obtain ⟨rfl, hZ, hh⟩ := hP
  have hx := Bd.exec
  have hby := Bd.bytes
  have hml : c.maxLocals = 2 := hml0
  have hown : s.vm.findClass "java/util/Objects" = some m.cls := findClass_of_methodNamed Bd.named
  have hnm := (name_of_methodNamed Bd.named Bd.method).1
  have X0 : Stand p l e ({ frames := 0, cells := 0, slots := 0, locals := 0 } : Room) s m #[(.ref a1), (.ref a2)] below meth c s₁ [] 0 0 := Stand.of_body Bd
  have e0 : s₁.heap = h0 := by rw [← hh, Bd.state]; rfl
  have N0 := Fr.nil n0
  have pre0 : GO p e below (s₁.setTop (mkF m 0 #[.val (.ref a1), .val (.ref a2)] [])) (s₁.setTop (entryFrame m #[(.ref a1), (.ref a2)] 2)) := fun t k => castTop (ef_10 m a1 a2) k
  obtain ⟨fs, hr, hrun, hended, hW, hsame⟩ := X0.leave (v := some (.ref a1)) (fun h => by rw [Bd.returns] at h; cases h)
  refine ⟨_, _, pre0 _ ?_, hrun, hended, _, _, rfl, ?_, ⟨_, rfl⟩, hW, hsame.mono (by decide) (by decide)⟩
  · refine y_aloadN X0 hx hby d10_0 rfl rfl ?_
    refine y_ifnonnullYes X0 hx hby (pc' := 13) d10_1 (by decide) (by decide) ?_
    refine y_aloadN X0 hx hby d10_13 rfl rfl ?_
    show Steps p.tables e below (s₁.setTop (mkF m 14 #[.val (.ref a1), .val (.ref a2)] [(.ref a1)])) _
    jvm_step X0.here [X0.here.top, hx, (hb hby d10_14), X0.method', Bd.returns, Value.isRef, FieldType.isReference]
    first | (intro acts; rw [hr _ acts rfl rfl rfl]) | rw [hr _ _ rfl rfl rfl]
    exact Steps.refl _
  · show QP _ h0 n0 _ s₁.heap _
    rw [e0, show f10 a1 a2 = a1 from rfl]
    exact ⟨rfl, N0, rfl⟩
theorem d8_0 : decode jdk_30_method_1_code 0 = .ok (.aload_n 0, 1) := by decide +kernel
theorem d8_1 : decode jdk_30_method_1_code 1 = .ok (.invokespecial 1, 3) := by decide +kernel
theorem d8_4 : decode jdk_30_method_1_code 4 = .ok (.return_, 1) := by decide +kernel
abbrev mn1 : MethodName := ⟨"java/lang/Record", "<init>", "()V"⟩
theorem pn_8 : plainName "java/lang/Record" = true := by first | (simp [plainName, overriddenIn]; done) | decide +kernel
theorem ef_8 (m : MethodId) (x0 : Addr) : entryFrame m #[(.ref x0)] 1 = mkF m 0 #[.val (.ref x0)] [] := by first | (simp [entryFrame, mkF, argsToLocals, Value.category]; done) | rfl
set_option maxRecDepth 65536 in
set_option maxHeartbeats 40000000 in
theorem rm8 (l : Launch) (Z : State) (a0 : Array Value) (hw : HW a0 Z) (ws : List Jvm.Cond) (a1 : Addr) (h0 : Heap) (n0 : Nat) (Z0 : n0 ≤ h0.size) :
    MF l mn1 jdk_30_method_1_code 1 none ws ({ frames := 1, cells := 0, slots := 0, locals := 12 } : Room) #[(.ref a1)] Z h0 (QP none h0 n0) := by
  refine MetFree.of_bodySF (plainFor_of_name pn_8) hisR ?_
  intro p e s m args below meth c s₁ Bd hml0 hP hK
  obtain ⟨rfl, hZ, hh⟩ := hP
  have hx := Bd.exec
  have hby := Bd.bytes
  have hml : c.maxLocals = 1 := hml0
  have hown : s.vm.findClass "java/lang/Record" = some m.cls := findClass_of_methodNamed Bd.named
  have hnm := (name_of_methodNamed Bd.named Bd.method).1
  have X0 : Stand p l e ({ frames := 1, cells := 0, slots := 0, locals := 12 } : Room) s m #[(.ref a1)] below meth c s₁ [] 0 0 := Stand.of_body Bd
  have e0 : s₁.heap = h0 := by rw [← hh, Bd.state]; rfl
  have N0 := Fr.nil n0
  have pre0 : GO p e below (s₁.setTop (mkF m 0 #[.val (.ref a1)] [])) (s₁.setTop (entryFrame m #[(.ref a1)] 1)) := fun t k => castTop (ef_8 m a1) k
  obtain ⟨T1, X1, e1, st1⟩ := initO X0 hx hZ hown (ww hw 41 rfl) (ww hw 15 rfl) (ww hw 16 rfl) e0 (g := (mkF m 1 #[.val (.ref a1)] [(.ref a1)])) rfl (by rw [hml]; rfl) rfl (hb hby d8_1) (by decide) (W := 0) (by show 2 * 0 + _ ≤ _; exact Nat.le_of_eq rfl) (by decide)
  obtain ⟨fs, hr, hrun, hended, hW, hsame⟩ := X1.leave (v := none) (fun _ => rfl)
  refine ⟨_, _, pre0 _ ?_, hrun, hended, _, _, rfl, ?_, ⟨_, rfl⟩, hW, hsame.mono (by decide) (by decide)⟩
  · refine y_aloadN X0 hx hby d8_0 rfl rfl ?_
    refine st1 _ ?_
    show Steps p.tables e below (T1.setTop (mkF m 4 #[.val (.ref a1)] [])) _
    exact X1.returnOut hx Bd.returns (hb hby d8_4) hr
  · show QP _ h0 n0 _ T1.heap _
    rw [e1]
    exact ⟨rfl, N0, rfl⟩
theorem d7_0 : decode prog_89_method_1_code 0 = .ok (.aload_n 0, 1) := by decide +kernel
theorem d7_1 : decode prog_89_method_1_code 1 = .ok (.invokespecial 1, 3) := by decide +kernel
theorem pd_0 : parseMethodDescriptor "()V" = some ⟨[], none⟩ := by decide +kernel
theorem d7_4 : decode prog_89_method_1_code 4 = .ok (.aload_n 0, 1) := by decide +kernel
theorem d7_5 : decode prog_89_method_1_code 5 = .ok (.aload_n 1, 1) := by decide +kernel
theorem d7_6 : decode prog_89_method_1_code 6 = .ok (.putfield 7, 3) := by decide +kernel
theorem d7_9 : decode prog_89_method_1_code 9 = .ok (.aload_n 0, 1) := by decide +kernel
theorem d7_10 : decode prog_89_method_1_code 10 = .ok (.iload_n 2, 1) := by decide +kernel
theorem d7_11 : decode prog_89_method_1_code 11 = .ok (.putfield 13, 3) := by decide +kernel
theorem d7_14 : decode prog_89_method_1_code 14 = .ok (.return_, 1) := by decide +kernel
abbrev mn2 : MethodName := ⟨"com/example/hoconut/hoconut/value/Origin", "<init>", "(Ljava/lang/String;I)V"⟩
theorem pn_7 : plainName "com/example/hoconut/hoconut/value/Origin" = true := by first | (simp [plainName, overriddenIn]; done) | decide +kernel
theorem ef_7 (m : MethodId) (x0 : Addr) (x1 : Addr) (x2 : Int32) : entryFrame m #[(.ref x0), (.ref x1), (.int x2)] 3 = mkF m 0 #[.val (.ref x0), .val (.ref x1), .val (.int x2)] [] := by first | (simp [entryFrame, mkF, argsToLocals, Value.category]; done) | rfl
set_option maxRecDepth 65536 in
set_option maxHeartbeats 40000000 in
theorem rm7 (l : Launch) (Z : State) (a0 : Array Value) (hw : HW a0 Z) (ws : List Jvm.Cond) (a1 a2 : Addr) (p3 : Int32) (h0 : Heap) (n0 : Nat) (Z0 : n0 ≤ h0.size) (E_a1 : Exa Z h0 a1 "com/example/hoconut/hoconut/value/Origin") (F_description_a1 : Fld Z h0 a1 "com/example/hoconut/hoconut/value/Origin" "description" "Ljava/lang/String;" .null) (F_line_a1 : Fld Z h0 a1 "com/example/hoconut/hoconut/value/Origin" "line" "I" (.int (0 : Int32))) (g_a1 : n0 ≤ a1) :
    MF l mn2 prog_89_method_1_code 3 none ws ({ frames := 2, cells := 0, slots := 0, locals := 24 } : Room) #[(.ref a1), (.ref a2), (.int p3)] Z h0 (QK Z a1 (fun h => Fld Z h a1 "com/example/hoconut/hoconut/value/Origin" "description" "Ljava/lang/String;" (.ref a2) ∧ Fld Z h a1 "com/example/hoconut/hoconut/value/Origin" "line" "I" (.int p3)) h0 n0) := by
  refine MetFree.of_bodySF (plainFor_of_name pn_7) hisR ?_
  intro p e s m args below meth c s₁ Bd hml0 hP hK
  obtain ⟨rfl, hZ, hh⟩ := hP
  have hx := Bd.exec
  have hby := Bd.bytes
  have hml : c.maxLocals = 3 := hml0
  have hown : s.vm.findClass "com/example/hoconut/hoconut/value/Origin" = some m.cls := findClass_of_methodNamed Bd.named
  have hnm := (name_of_methodNamed Bd.named Bd.method).1
  have X0 : Stand p l e ({ frames := 2, cells := 0, slots := 0, locals := 24 } : Room) s m #[(.ref a1), (.ref a2), (.int p3)] below meth c s₁ [] 0 0 := Stand.of_body Bd
  have e0 : s₁.heap = h0 := by rw [← hh, Bd.state]; rfl
  have N0 := Fr.nil n0
  have pre0 : GO p e below (s₁.setTop (mkF m 0 #[.val (.ref a1), .val (.ref a2), .val (.int p3)] [])) (s₁.setTop (entryFrame m #[(.ref a1), (.ref a2), (.int p3)] 3)) := fun t k => castTop (ef_7 m a1 a2 p3) k
  have KK := Keep.refl h0 [a1]
  obtain ⟨_, _, ⟨T2, L2, k2, n2⟩, -, X2, ⟨Lc2, hQ2, l2, y2, z2⟩, st2⟩ := X0.specialBack hx (y := mn1) rfl hown (mvT hZ (ww hw 36 rfl)) (mvT hZ (ww hw 37 rfl)) (mvT hZ (ww hw 40 rfl)) (by decide) (backOf (W := 0) (rm8 l Z a0 hw [] a1 h0 n0 Z0) hZ (ww hw 40 rfl) (ww hw 39 rfl) (by decide) (by decide)) (g := (mkF m 1 #[.val (.ref a1), .val (.ref a2), .val (.int p3)] [(.ref a1)])) rfl (by rw [hml]; rfl) (Steps.refl _) (a := a1) (argsL := []) (rest := []) (lenOf pd_0 rfl) rfl (by show 2 * 0 + _ ≤ _; exact Nat.le_of_eq rfl) (hb hby d7_1) (fun _ _ => ⟨rfl, e0, (by decide : 0 + 0 ≤ _), (by decide : 0 + 0 ≤ _)⟩)
  dsimp only [Pt.U, Pt.locs, Pt.cells, Pt.slots] at X2 l2 y2 z2 st2 hQ2
  subst l2 y2 z2
  obtain ⟨rfl, N2q, e2⟩ := hQ2
  have N2 := Fr.app N0 N2q
  obtain ⟨T3, h3, X3, e3, W3, st3⟩ := putF X2 hx hZ hown (host := "") (Or.inl (ww hw 42 rfl)) Via.refl e2 F_description_a1 E_a1 (Or.inr ⟨(ww hw 43 rfl), rfl, hnm⟩) (ww hw 2 rfl) (ty := (.object "java/lang/String")) (by decide) rfl rfl (g := (mkF m 6 #[.val (.ref a1), .val (.ref a2), .val (.int p3)] [(.ref a2), (.ref a1)])) rfl rfl (hb hby d7_6)
  replace E_a1 := E_a1.wr W3
  replace F_description_a1 := F_description_a1.same W3
  replace F_line_a1 := F_line_a1.other W3 (Or.inr (slot_ne (Or.inr (ww hw 45 rfl)) (Or.inr (ww hw 43 rfl)) (by decide) (t := .int) (t' := (.object "java/lang/String")) (by decide) (by decide)))
  replace Z0 := Nat.le_trans Z0 (Keep.of_wr W3).1
  replace KK := KK.wr W3 (Or.inl (List.mem_of_getElem? (i := 0) rfl))
  have N3 := Fr.snoc X3 N2 g_a1
  obtain ⟨T4, h4, X4, e4, W4, st4⟩ := putF X3 hx hZ hown (host := "") (Or.inl (ww hw 44 rfl)) Via.refl e3 F_line_a1 E_a1 (Or.inr ⟨(ww hw 45 rfl), rfl, hnm⟩) (ww hw 2 rfl) (ty := .int) (by decide) rfl rfl (g := (mkF m 11 #[.val (.ref a1), .val (.ref a2), .val (.int p3)] [(.int p3), (.ref a1)])) rfl rfl (hb hby d7_11)
  replace E_a1 := E_a1.wr W4
  replace F_description_a1 := F_description_a1.other W4 (Or.inr (slot_ne (Or.inr (ww hw 43 rfl)) (Or.inr (ww hw 45 rfl)) (by decide) (t := (.object "java/lang/String")) (t' := .int) (by decide) (by decide)))
  replace F_line_a1 := F_line_a1.same W4
  replace Z0 := Nat.le_trans Z0 (Keep.of_wr W4).1
  replace KK := KK.wr W4 (Or.inl (List.mem_of_getElem? (i := 0) rfl))
  have N4 := Fr.snoc X4 N3 g_a1
  obtain ⟨fs, hr, hrun, hended, hW, hsame⟩ := X4.leave (v := none) (fun _ => rfl)
  refine ⟨_, _, pre0 _ ?_, hrun, hended, _, _, rfl, ?_, ⟨_, rfl⟩, hW, hsame.mono (by decide) (by decide)⟩
  · refine y_aloadN X0 hx hby d7_0 rfl rfl ?_
    refine st2.trans ?_
    show Steps p.tables e below (T2.setTop (mkF m 4 #[.val (.ref a1), .val (.ref a2), .val (.int p3)] [])) _
    refine y_aloadN X2 hx hby d7_4 rfl rfl ?_
    refine y_aloadN X2 hx hby d7_5 rfl rfl ?_
    refine st3 _ ?_
    show Steps p.tables e below (T3.setTop (mkF m 9 #[.val (.ref a1), .val (.ref a2), .val (.int p3)] [])) _
    refine y_aloadN X3 hx hby d7_9 rfl rfl ?_
    refine y_iloadN X3 hx hby d7_10 rfl ?_
    refine st4 _ ?_
    show Steps p.tables e below (T4.setTop (mkF m 14 #[.val (.ref a1), .val (.ref a2), .val (.int p3)] [])) _
    exact X4.returnOut hx Bd.returns (hb hby d7_14) hr
  · show QK Z a1 _ h0 n0 _ T4.heap _
    rw [e4]
    exact ⟨rfl, N4, KK, F_description_a1, F_line_a1⟩
theorem d9_0 : decode prog_67_method_1_code 0 = .ok (.aload_n 0, 1) := by decide +kernel
theorem d9_1 : decode prog_67_method_1_code 1 = .ok (.invokespecial 1, 3) := by decide +kernel
theorem d9_4 : decode prog_67_method_1_code 4 = .ok (.aload_n 0, 1) := by decide +kernel
theorem d9_5 : decode prog_67_method_1_code 5 = .ok (.iload_n 1, 1) := by decide +kernel
theorem d9_6 : decode prog_67_method_1_code 6 = .ok (.putfield 7, 3) := by decide +kernel
theorem d9_9 : decode prog_67_method_1_code 9 = .ok (.aload_n 0, 1) := by decide +kernel
theorem d9_10 : decode prog_67_method_1_code 10 = .ok (.aload_n 2, 1) := by decide +kernel
theorem d9_11 : decode prog_67_method_1_code 11 = .ok (.ldc 13, 2) := by decide +kernel
theorem d9_13 : decode prog_67_method_1_code 13 = .ok (.invokestatic 15, 3) := by decide +kernel
theorem pd_1 : parseMethodDescriptor "(Ljava/lang/Object;Ljava/lang/String;)Ljava/lang/Object;" = some ⟨[(.object "java/lang/Object"), (.object "java/lang/String")], some (.object "java/lang/Object")⟩ := by decide +kernel
theorem d9_16 : decode prog_67_method_1_code 16 = .ok (.checkcast 21, 3) := by decide +kernel
theorem d9_19 : decode prog_67_method_1_code 19 = .ok (.putfield 23, 3) := by decide +kernel
theorem d9_22 : decode prog_67_method_1_code 22 = .ok (.return_, 1) := by decide +kernel
abbrev mn3 : MethodName := ⟨"com/example/hoconut/hoconut/value/ConfigBoolean", "<init>", "(ZLcom/example/hoconut/hoconut/value/Origin;)V"⟩
theorem pn_9 : plainName "com/example/hoconut/hoconut/value/ConfigBoolean" = true := by first | (simp [plainName, overriddenIn]; done) | decide +kernel
theorem ef_9 (m : MethodId) (x0 : Addr) (x1 : Int32) (x2 : Addr) : entryFrame m #[(.ref x0), (.int x1), (.ref x2)] 3 = mkF m 0 #[.val (.ref x0), .val (.int x1), .val (.ref x2)] [] := by first | (simp [entryFrame, mkF, argsToLocals, Value.category]; done) | rfl
set_option maxRecDepth 65536 in
set_option maxHeartbeats 40000000 in
theorem rm9 (l : Launch) (Z : State) (a0 : Array Value) (hw : HW a0 Z) (ws : List Jvm.Cond) (a1 : Addr) (p2 : Int32) (a3 : Addr) (h0 : Heap) (n0 : Nat) (Z0 : n0 ≤ h0.size) (E_a1 : Exa Z h0 a1 "com/example/hoconut/hoconut/value/ConfigBoolean") (F_value_a1 : Fld Z h0 a1 "com/example/hoconut/hoconut/value/ConfigBoolean" "value" "Z" (.int (0 : Int32))) (F_origin_a1 : Fld Z h0 a1 "com/example/hoconut/hoconut/value/ConfigBoolean" "origin" "Lcom/example/hoconut/hoconut/value/Origin;" .null) (E_a3 : Exa Z h0 a3 "com/example/hoconut/hoconut/value/Origin") (g_a1 : n0 ≤ a1) :
    MFW l mn3 prog_67_method_1_code 3 none ws ({ frames := 1, cells := 2, slots := 28, locals := 14 } : Room) #[(.ref a1), (.int p2), (.ref a3)] Z h0 (QK Z a1 (fun h => Fld Z h a1 "com/example/hoconut/hoconut/value/ConfigBoolean" "value" "Z" (.int (p2 &&& 1))) h0 n0) := by
  refine MetFree.of_bodySF (plainFor_of_name pn_9) hisR ?_
  intro p e s m args below meth c s₁ Bd hml0 hP hK
  obtain ⟨rfl, hZ, hh⟩ := hP
  have hx := Bd.exec
  have hby := Bd.bytes
  have hml : c.maxLocals = 3 := hml0
  have hown : s.vm.findClass "com/example/hoconut/hoconut/value/ConfigBoolean" = some m.cls := findClass_of_methodNamed Bd.named
  have hnm := (name_of_methodNamed Bd.named Bd.method).1
  have X0 : Stand p l e ({ frames := 1, cells := 2, slots := 28, locals := 14 } : Room) (s.setVm s.vm) m #[(.ref a1), (.int p2), (.ref a3)] below meth c s₁ [] 0 0 := Stand.of_body Bd
  have e0 : s₁.heap = h0 := by rw [← hh, Bd.state]; rfl
  have N0 := Fr.nil n0
  have pre0 : GO p e below (s₁.setTop (mkF m 0 #[.val (.ref a1), .val (.int p2), .val (.ref a3)] [])) (s₁.setTop (entryFrame m #[(.ref a1), (.int p2), (.ref a3)] 3)) := fun t k => castTop (ef_9 m a1 p2 a3) k
  have KK := Keep.refl h0 [a1]
  have hS := (State.WarmedH.refl s).since 0
  have hk : 0 ≤ h0.size := Nat.zero_le _
  have wS : ∀ d ∈ Bundle.stringAtoms, d.before a0 Z = true := fun d hd => hw d ((by decide +kernel : ∀ d ∈ Bundle.stringAtoms, d ∈ tables_1) d hd)
  obtain ⟨T5, X5, e5, st5⟩ := initO X0 hx hZ hown (ww hw 52 rfl) (ww hw 15 rfl) (ww hw 16 rfl) e0 (g := (mkF m 1 #[.val (.ref a1), .val (.int p2), .val (.ref a3)] [(.ref a1)])) rfl (by rw [hml]; rfl) rfl (hb hby d9_1) (by decide) (W := 0) (by show 2 * 0 + _ ≤ _; exact Nat.le_of_eq rfl) (by decide)
  obtain ⟨T6, h6, X6, e6, W6, st6⟩ := putFN X5 hx hZ hown (ww hw 53 rfl) Via.refl e5 F_value_a1 E_a1 (Or.inr ⟨(ww hw 54 rfl), rfl, hnm⟩) (ww hw 47 rfl) (ty := .boolean) (v' := (.int (p2 &&& 1))) (by decide) rfl (fits_nar_bool _) (g := (mkF m 6 #[.val (.ref a1), .val (.int p2), .val (.ref a3)] [(.int p2), (.ref a1)])) rfl rfl (hb hby d9_6)
  replace E_a1 := E_a1.wr W6
  replace F_value_a1 := F_value_a1.same W6
  replace F_origin_a1 := F_origin_a1.other W6 (Or.inr (slot_ne (Or.inr (ww hw 65 rfl)) (Or.inr (ww hw 54 rfl)) (by decide) (t := (.object "com/example/hoconut/hoconut/value/Origin")) (t' := .boolean) (by decide) (by decide)))
  replace E_a3 := E_a3.wr W6
  replace Z0 := Nat.le_trans Z0 (Keep.of_wr W6).1
  replace hk := Nat.le_trans hk (Keep.of_wr W6).1
  replace KK := KK.wr W6 (Or.inl (List.mem_of_getElem? (i := 0) rfl))
  have N6 := Fr.snoc X6 N0 g_a1
  obtain ⟨b7, T7, h7, k7, X7, e7, E7, hS, hk, hZ, hown, st7⟩ := ldcS X6 hx hZ hown (ww hw 55 rfl) wS e6 hS hk (g := (mkF m 11 #[.val (.ref a1), .val (.int p2), .val (.ref a3)] [(.ref a3), (.ref a1)])) rfl (hb hby d9_11) (n := 24) (by decide) (by decide) (by decide) (by decide)
  replace E_a1 := E_a1.ext E7
  replace F_value_a1 := F_value_a1.ext E7
  replace F_origin_a1 := F_origin_a1.ext E7
  replace E_a3 := E_a3.ext E7
  replace Z0 := Nat.le_trans Z0 E7.1
  replace KK := KK.ext E7
  obtain ⟨_, _, ⟨T8, L8, k8, n8⟩, -, X8, ⟨Lc8, hQ8, l8, y8, z8⟩, st8⟩ := Jvm.LawKit.callS X7 hx (y := mn0) hown (mvT hZ (ww hw 58 rfl)) (mvT hZ (ww hw 59 rfl)) (mvT hZ (ww hw 60 rfl)) (mvT hZ (ww hw 61 rfl)) (by decide) (backOf (W := 1) (rm10 l Z a0 hw [] a3 b7 h7 n0 Z0) hZ (ww hw 61 rfl) (ww hw 60 rfl) (by decide) (by decide)) (g := (mkF m 13 #[.val (.ref a1), .val (.int p2), .val (.ref a3)] [(.ref b7), (.ref a3), (.ref a1)])) rfl (by rw [hml]; rfl) (argsL := [(.ref a3), (.ref b7)]) (rest := [(.ref a1)]) (lenOf pd_1 rfl) rfl (by show 2 * 0 + _ ≤ _; exact Nat.le_of_eq rfl) (hb hby d9_13) (fun _ _ => ⟨rfl, e7, (by decide : 2 + 0 ≤ _), (by decide : 28 + 0 ≤ _)⟩)
  dsimp only [Pt.U, Pt.locs, Pt.cells, Pt.slots] at X8 l8 y8 z8 st8 hQ8
  subst l8 y8 z8
  obtain ⟨rfl, N8q, e8⟩ := hQ8
  have N8 := Fr.app N6 N8q
  obtain ⟨T9, X9, e9, st9⟩ := castY X8 hx hZ hown (ww hw 62 rfl) e8 (Ins.self E_a3) (g := (mkF m 16 #[.val (.ref a1), .val (.int p2), .val (.ref a3)] [(.ref a3), (.ref a1)])) rfl rfl (hb hby d9_16)
  obtain ⟨T10, h10, X10, e10, W10, st10⟩ := putF X9 hx hZ hown (host := "") (Or.inl (ww hw 64 rfl)) Via.refl e9 F_origin_a1 E_a1 (Or.inr ⟨(ww hw 65 rfl), rfl, hnm⟩) (ww hw 47 rfl) (ty := (.object "com/example/hoconut/hoconut/value/Origin")) (by decide) rfl rfl (g := (mkF m 19 #[.val (.ref a1), .val (.int p2), .val (.ref a3)] [(.ref a3), (.ref a1)])) rfl rfl (hb hby d9_19)
  replace E_a1 := E_a1.wr W10
  replace F_value_a1 := F_value_a1.other W10 (Or.inr (slot_ne (Or.inr (ww hw 54 rfl)) (Or.inr (ww hw 65 rfl)) (by decide) (t := .boolean) (t' := (.object "com/example/hoconut/hoconut/value/Origin")) (by decide) (by decide)))
  replace F_origin_a1 := F_origin_a1.same W10
  replace E_a3 := E_a3.wr W10
  replace Z0 := Nat.le_trans Z0 (Keep.of_wr W10).1
  replace hk := Nat.le_trans hk (Keep.of_wr W10).1
  replace KK := KK.wr W10 (Or.inl (List.mem_of_getElem? (i := 0) rfl))
  have N10 := Fr.snoc X10 N8 g_a1
  obtain ⟨fs, hr, hrun, hended, hEW⟩ := X10.leaveW hS (by rw [e10]; exact hk) (v := none) (fun _ => rfl)
  refine ⟨_, _, pre0 _ ?_, hrun, hended, _, _, rfl, ?_, hEW.1, hEW.2.1, hEW.2.2.1, hEW.2.2.2.mono (by decide) (by decide)⟩
  · refine y_aloadN X0 hx hby d9_0 rfl rfl ?_
    refine st5 _ ?_
    show Steps p.tables e below (T5.setTop (mkF m 4 #[.val (.ref a1), .val (.int p2), .val (.ref a3)] [])) _
    refine y_aloadN X5 hx hby d9_4 rfl rfl ?_
    refine y_iloadN X5 hx hby d9_5 rfl ?_
    refine st6 _ ?_
    show Steps p.tables e below (T6.setTop (mkF m 9 #[.val (.ref a1), .val (.int p2), .val (.ref a3)] [])) _
    refine y_aloadN X6 hx hby d9_9 rfl rfl ?_
    refine y_aloadN X6 hx hby d9_10 rfl rfl ?_
    refine st7 _ ?_
    show Steps p.tables e below (T7.setTop (mkF m 13 #[.val (.ref a1), .val (.int p2), .val (.ref a3)] [(.ref b7), (.ref a3), (.ref a1)])) _
    refine st8 _ ?_
    show Steps p.tables e below (T8.setTop (mkF m 16 #[.val (.ref a1), .val (.int p2), .val (.ref a3)] [(.ref a3), (.ref a1)])) _
    refine st9 _ ?_
    show Steps p.tables e below (T9.setTop (mkF m 19 #[.val (.ref a1), .val (.int p2), .val (.ref a3)] [(.ref a3), (.ref a1)])) _
    refine st10 _ ?_
    show Steps p.tables e below (T10.setTop (mkF m 22 #[.val (.ref a1), .val (.int p2), .val (.ref a3)] [])) _
    exact X10.returnOut hx Bd.returns (hb hby d9_22) hr
  · show QK Z a1 _ h0 n0 _ T10.heap _
    rw [e10]
    exact ⟨rfl, N10, KK, F_value_a1⟩
theorem d11_0 : decode prog_74_method_1_code 0 = .ok (.aload_n 0, 1) := by decide +kernel
theorem d11_1 : decode prog_74_method_1_code 1 = .ok (.invokespecial 1, 3) := by decide +kernel
theorem d11_4 : decode prog_74_method_1_code 4 = .ok (.aload_n 0, 1) := by decide +kernel
theorem d11_5 : decode prog_74_method_1_code 5 = .ok (.aload_n 1, 1) := by decide +kernel
theorem d11_6 : decode prog_74_method_1_code 6 = .ok (.ldc 7, 2) := by decide +kernel
theorem d11_8 : decode prog_74_method_1_code 8 = .ok (.invokestatic 9, 3) := by decide +kernel
theorem d11_11 : decode prog_74_method_1_code 11 = .ok (.checkcast 15, 3) := by decide +kernel
theorem d11_14 : decode prog_74_method_1_code 14 = .ok (.putfield 17, 3) := by decide +kernel
theorem d11_17 : decode prog_74_method_1_code 17 = .ok (.return_, 1) := by decide +kernel
abbrev mn4 : MethodName := ⟨"com/example/hoconut/hoconut/value/ConfigNull", "<init>", "(Lcom/example/hoconut/hoconut/value/Origin;)V"⟩
theorem pn_11 : plainName "com/example/hoconut/hoconut/value/ConfigNull" = true := by first | (simp [plainName, overriddenIn]; done) | decide +kernel
theorem ef_11 (m : MethodId) (x0 : Addr) (x1 : Addr) : entryFrame m #[(.ref x0), (.ref x1)] 2 = mkF m 0 #[.val (.ref x0), .val (.ref x1)] [] := by first | (simp [entryFrame, mkF, argsToLocals, Value.category]; done) | rfl
set_option maxRecDepth 65536 in
set_option maxHeartbeats 40000000 in
theorem rm11 (l : Launch) (Z : State) (a0 : Array Value) (hw : HW a0 Z) (ws : List Jvm.Cond) (a1 a2 : Addr) (h0 : Heap) (n0 : Nat) (Z0 : n0 ≤ h0.size) (E_a1 : Exa Z h0 a1 "com/example/hoconut/hoconut/value/ConfigNull") (F_origin_a1 : Fld Z h0 a1 "com/example/hoconut/hoconut/value/ConfigNull" "origin" "Lcom/example/hoconut/hoconut/value/Origin;" .null) (E_a2 : Exa Z h0 a2 "com/example/hoconut/hoconut/value/Origin") (g_a1 : n0 ≤ a1) :
    MFW l mn4 prog_74_method_1_code 2 none ws ({ frames := 1, cells := 2, slots := 28, locals := 14 } : Room) #[(.ref a1), (.ref a2)] Z h0 (QK Z a1 (fun h => Exa Z h a1 "com/example/hoconut/hoconut/value/ConfigNull") h0 n0) := by
  refine MetFree.of_bodySF (plainFor_of_name pn_11) hisR ?_
  intro p e s m args below meth c s₁ Bd hml0 hP hK
  obtain ⟨rfl, hZ, hh⟩ := hP
  have hx := Bd.exec
  have hby := Bd.bytes
  have hml : c.maxLocals = 2 := hml0
  have hown : s.vm.findClass "com/example/hoconut/hoconut/value/ConfigNull" = some m.cls := findClass_of_methodNamed Bd.named
  have hnm := (name_of_methodNamed Bd.named Bd.method).1
  have X0 : Stand p l e ({ frames := 1, cells := 2, slots := 28, locals := 14 } : Room) (s.setVm s.vm) m #[(.ref a1), (.ref a2)] below meth c s₁ [] 0 0 := Stand.of_body Bd
  have e0 : s₁.heap = h0 := by rw [← hh, Bd.state]; rfl
  have N0 := Fr.nil n0
  have pre0 : GO p e below (s₁.setTop (mkF m 0 #[.val (.ref a1), .val (.ref a2)] [])) (s₁.setTop (entryFrame m #[(.ref a1), (.ref a2)] 2)) := fun t k => castTop (ef_11 m a1 a2) k
  have KK := Keep.refl h0 [a1]
  have hS := (State.WarmedH.refl s).since 0
  have hk : 0 ≤ h0.size := Nat.zero_le _
  have wS : ∀ d ∈ Bundle.stringAtoms, d.before a0 Z = true := fun d hd => hw d ((by decide +kernel : ∀ d ∈ Bundle.stringAtoms, d ∈ tables_1) d hd)
  obtain ⟨T11, X11, e11, st11⟩ := initO X0 hx hZ hown (ww hw 72 rfl) (ww hw 15 rfl) (ww hw 16 rfl) e0 (g := (mkF m 1 #[.val (.ref a1), .val (.ref a2)] [(.ref a1)])) rfl (by rw [hml]; rfl) rfl (hb hby d11_1) (by decide) (W := 0) (by show 2 * 0 + _ ≤ _; exact Nat.le_of_eq rfl) (by decide)
  obtain ⟨b12, T12, h12, k12, X12, e12, E12, hS, hk, hZ, hown, st12⟩ := ldcS X11 hx hZ hown (ww hw 73 rfl) wS e11 hS hk (g := (mkF m 6 #[.val (.ref a1), .val (.ref a2)] [(.ref a2), (.ref a1)])) rfl (hb hby d11_6) (n := 24) (by decide) (by decide) (by decide) (by decide)
  replace E_a1 := E_a1.ext E12
  replace F_origin_a1 := F_origin_a1.ext E12
  replace E_a2 := E_a2.ext E12
  replace Z0 := Nat.le_trans Z0 E12.1
  replace KK := KK.ext E12
  obtain ⟨_, _, ⟨T13, L13, k13, n13⟩, -, X13, ⟨Lc13, hQ13, l13, y13, z13⟩, st13⟩ := Jvm.LawKit.callS X12 hx (y := mn0) hown (mvT hZ (ww hw 74 rfl)) (mvT hZ (ww hw 59 rfl)) (mvT hZ (ww hw 60 rfl)) (mvT hZ (ww hw 61 rfl)) (by decide) (backOf (W := 1) (rm10 l Z a0 hw [] a2 b12 h12 n0 Z0) hZ (ww hw 61 rfl) (ww hw 60 rfl) (by decide) (by decide)) (g := (mkF m 8 #[.val (.ref a1), .val (.ref a2)] [(.ref b12), (.ref a2), (.ref a1)])) rfl (by rw [hml]; rfl) (argsL := [(.ref a2), (.ref b12)]) (rest := [(.ref a1)]) (lenOf pd_1 rfl) rfl (by show 2 * 0 + _ ≤ _; exact Nat.le_of_eq rfl) (hb hby d11_8) (fun _ _ => ⟨rfl, e12, (by decide : 2 + 0 ≤ _), (by decide : 28 + 0 ≤ _)⟩)
  dsimp only [Pt.U, Pt.locs, Pt.cells, Pt.slots] at X13 l13 y13 z13 st13 hQ13
  subst l13 y13 z13
  obtain ⟨rfl, N13q, e13⟩ := hQ13
  have N13 := Fr.app N0 N13q
  obtain ⟨T14, X14, e14, st14⟩ := castY X13 hx hZ hown (ww hw 75 rfl) e13 (Ins.self E_a2) (g := (mkF m 11 #[.val (.ref a1), .val (.ref a2)] [(.ref a2), (.ref a1)])) rfl rfl (hb hby d11_11)
  obtain ⟨T15, h15, X15, e15, W15, st15⟩ := putF X14 hx hZ hown (host := "") (Or.inl (ww hw 76 rfl)) Via.refl e14 F_origin_a1 E_a1 (Or.inr ⟨(ww hw 77 rfl), rfl, hnm⟩) (ww hw 67 rfl) (ty := (.object "com/example/hoconut/hoconut/value/Origin")) (by decide) rfl rfl (g := (mkF m 14 #[.val (.ref a1), .val (.ref a2)] [(.ref a2), (.ref a1)])) rfl rfl (hb hby d11_14)
  replace E_a1 := E_a1.wr W15
  replace F_origin_a1 := F_origin_a1.same W15
  replace E_a2 := E_a2.wr W15
  replace Z0 := Nat.le_trans Z0 (Keep.of_wr W15).1
  replace hk := Nat.le_trans hk (Keep.of_wr W15).1
  replace KK := KK.wr W15 (Or.inl (List.mem_of_getElem? (i := 0) rfl))
  have N15 := Fr.snoc X15 N13 g_a1
  obtain ⟨fs, hr, hrun, hended, hEW⟩ := X15.leaveW hS (by rw [e15]; exact hk) (v := none) (fun _ => rfl)
  refine ⟨_, _, pre0 _ ?_, hrun, hended, _, _, rfl, ?_, hEW.1, hEW.2.1, hEW.2.2.1, hEW.2.2.2.mono (by decide) (by decide)⟩
  · refine y_aloadN X0 hx hby d11_0 rfl rfl ?_
    refine st11 _ ?_
    show Steps p.tables e below (T11.setTop (mkF m 4 #[.val (.ref a1), .val (.ref a2)] [])) _
    refine y_aloadN X11 hx hby d11_4 rfl rfl ?_
    refine y_aloadN X11 hx hby d11_5 rfl rfl ?_
    refine st12 _ ?_
    show Steps p.tables e below (T12.setTop (mkF m 8 #[.val (.ref a1), .val (.ref a2)] [(.ref b12), (.ref a2), (.ref a1)])) _
    refine st13 _ ?_
    show Steps p.tables e below (T13.setTop (mkF m 11 #[.val (.ref a1), .val (.ref a2)] [(.ref a2), (.ref a1)])) _
    refine st14 _ ?_
    show Steps p.tables e below (T14.setTop (mkF m 14 #[.val (.ref a1), .val (.ref a2)] [(.ref a2), (.ref a1)])) _
    refine st15 _ ?_
    show Steps p.tables e below (T15.setTop (mkF m 17 #[.val (.ref a1), .val (.ref a2)] [])) _
    exact X15.returnOut hx Bd.returns (hb hby d11_17) hr
  · show QK Z a1 _ h0 n0 _ T15.heap _
    rw [e15]
    exact ⟨rfl, N15, KK, E_a1⟩
theorem d12_0 : decode prog_67_method_6_code 0 = .ok (.aload_n 1, 1) := by decide +kernel
theorem d12_1 : decode prog_67_method_6_code 1 = .ok (.instanceof 8, 3) := by decide +kernel
theorem d12_4 : decode prog_67_method_6_code 4 = .ok (.ifCond .eq 23, 3) := by decide +kernel
theorem d12_7 : decode prog_67_method_6_code 7 = .ok (.aload_n 1, 1) := by decide +kernel
theorem d12_8 : decode prog_67_method_6_code 8 = .ok (.checkcast 8, 3) := by decide +kernel
theorem d12_11 : decode prog_67_method_6_code 11 = .ok (.astore_n 2, 1) := by decide +kernel
theorem d12_12 : decode prog_67_method_6_code 12 = .ok (.aload_n 0, 1) := by decide +kernel
theorem d12_13 : decode prog_67_method_6_code 13 = .ok (.getfield 7, 3) := by decide +kernel
theorem d12_16 : decode prog_67_method_6_code 16 = .ok (.aload_n 2, 1) := by decide +kernel
theorem d12_17 : decode prog_67_method_6_code 17 = .ok (.getfield 7, 3) := by decide +kernel
theorem d12_20 : decode prog_67_method_6_code 20 = .ok (.if_icmp .ne 7, 3) := by decide +kernel
theorem d12_23 : decode prog_67_method_6_code 23 = .ok (.iconst 1, 1) := by decide +kernel
theorem d12_24 : decode prog_67_method_6_code 24 = .ok (.goto 4, 3) := by decide +kernel
theorem d12_28 : decode prog_67_method_6_code 28 = .ok (.ireturn, 1) := by decide +kernel
theorem d12_27 : decode prog_67_method_6_code 27 = .ok (.iconst 0, 1) := by decide +kernel
abbrev mn5 : MethodName := ⟨"com/example/hoconut/hoconut/value/ConfigBoolean", "equals", "(Ljava/lang/Object;)Z"⟩
theorem ef_12 (m : MethodId) (x0 : Addr) (x1 : Addr) : entryFrame m #[(.ref x0), (.ref x1)] 3 = mkF m 0 #[.val (.ref x0), .val (.ref x1), .unset] [] := by first | (simp [entryFrame, mkF, argsToLocals, Value.category]; done) | rfl
def f12_q (a1 a2 : Addr) (x1 x2 : Int32) : Int32 := (if x1 = x2 then (1 : Int32) else (0 : Int32))
set_option maxRecDepth 65536 in
set_option maxHeartbeats 40000000 in
theorem rm12_q (l : Launch) (Z : State) (a0 : Array Value) (hw : HW a0 Z) (ws : List Jvm.Cond) (a1 a2 : Addr) (x1 x2 : Int32) (h0 : Heap) (n0 : Nat) (Z0 : n0 ≤ h0.size) (E_a1 : Exa Z h0 a1 "com/example/hoconut/hoconut/value/ConfigBoolean") (F_value_a1 : Fld Z h0 a1 "com/example/hoconut/hoconut/value/ConfigBoolean" "value" "Z" (.int x1)) (E_a2 : Exa Z h0 a2 "com/example/hoconut/hoconut/value/ConfigBoolean") (F_value_a2 : Fld Z h0 a2 "com/example/hoconut/hoconut/value/ConfigBoolean" "value" "Z" (.int x2)) :
    MF l mn5 prog_67_method_6_code 3 (some .boolean) ws ({ frames := 0, cells := 0, slots := 0, locals := 0 } : Room) #[(.ref a1), (.ref a2)] Z h0 (QP (some (.int (f12_q a1 a2 x1 x2))) h0 n0) := by
  refine MetFree.of_bodySF (plainFor_of_name pn_9) hisR ?_
  intro p e s m args below meth c s₁ Bd hml0 hP hK
  obtain ⟨rfl, hZ, hh⟩ := hP
  have hx := Bd.exec
  have hby := Bd.bytes
  have hml : c.maxLocals = 3 := hml0
  have hown : s.vm.findClass "com/example/hoconut/hoconut/value/ConfigBoolean" = some m.cls := findClass_of_methodNamed Bd.named
  have hnm := (name_of_methodNamed Bd.named Bd.method).1
  have X0 : Stand p l e ({ frames := 0, cells := 0, slots := 0, locals := 0 } : Room) s m #[(.ref a1), (.ref a2)] below meth c s₁ [] 0 0 := Stand.of_body Bd
  have e0 : s₁.heap = h0 := by rw [← hh, Bd.state]; rfl
  have N0 := Fr.nil n0
  have pre0 : GO p e below (s₁.setTop (mkF m 0 #[.val (.ref a1), .val (.ref a2), .unset] [])) (s₁.setTop (entryFrame m #[(.ref a1), (.ref a2)] 3)) := fun t k => castTop (ef_12 m a1 a2) k
  obtain ⟨T16, X16, e16, st16⟩ := instY X0 hx hZ hown (ww hw 83 rfl) e0 (Ins.self E_a2) (g := (mkF m 1 #[.val (.ref a1), .val (.ref a2), .unset] [(.ref a2)])) rfl rfl (hb hby d12_1)
  obtain ⟨T17, X17, e17, st17⟩ := castY X16 hx hZ hown (ww hw 83 rfl) e16 (Ins.self E_a2) (g := (mkF m 8 #[.val (.ref a1), .val (.ref a2), .unset] [(.ref a2)])) rfl rfl (hb hby d12_8)
  obtain ⟨T18, X18, e18, st18⟩ := getF X17 hx hZ hown (host := "") (Or.inl (ww hw 53 rfl)) Via.refl e17 F_value_a1 (g := (mkF m 13 #[.val (.ref a1), .val (.ref a2), .val (.ref a2)] [(.ref a1)])) rfl rfl (hb hby d12_13)
  obtain ⟨T19, X19, e19, st19⟩ := getF X18 hx hZ hown (host := "") (Or.inl (ww hw 53 rfl)) Via.refl e18 F_value_a2 (g := (mkF m 17 #[.val (.ref a1), .val (.ref a2), .val (.ref a2)] [(.ref a2), (.int x1)])) rfl rfl (hb hby d12_17)
  have pre21 : GO p e below (T19.setTop (mkF m 20 #[.val (.ref a1), .val (.ref a2), .val (.ref a2)] [(.int x2), (.int x1)])) (s₁.setTop (entryFrame m #[(.ref a1), (.ref a2)] 3)) := fun t k => by
    refine pre0 _ ?_
    refine y_aloadN X0 hx hby d12_0 rfl rfl ?_
    refine st16 _ ?_
    show Steps p.tables e below (T16.setTop (mkF m 4 #[.val (.ref a1), .val (.ref a2), .unset] [(.int (1 : Int32))])) _
    refine y_ifNo X16 hx hby d12_4 ((if0 _ _).trans (feq (by decide)).1) ?_
    refine y_aloadN X16 hx hby d12_7 rfl rfl ?_
    refine st17 _ ?_
    show Steps p.tables e below (T17.setTop (mkF m 11 #[.val (.ref a1), .val (.ref a2), .unset] [(.ref a2)])) _
    refine y_astoreN X17 hx hby d12_11 rfl (l' := #[.val (.ref a1), .val (.ref a2), .val (.ref a2)]) rfl ?_
    refine y_aloadN X17 hx hby d12_12 rfl rfl ?_
    refine st18 _ ?_
    show Steps p.tables e below (T18.setTop (mkF m 16 #[.val (.ref a1), .val (.ref a2), .val (.ref a2)] [(.int x1)])) _
    refine y_aloadN X18 hx hby d12_16 rfl rfl ?_
    refine st19 _ ?_
    show Steps p.tables e below (T19.setTop (mkF m 20 #[.val (.ref a1), .val (.ref a2), .val (.ref a2)] [(.int x2), (.int x1)])) _
    exact k
  by_cases hc20 : x1 = x2
  · obtain ⟨fs, hr, hrun, hended, hW, hsame⟩ := X19.leave (v := some (.int (1 : Int32))) (fun h => by rw [Bd.returns] at h; cases h)
    refine ⟨_, _, pre21 _ ?_, hrun, hended, _, _, rfl, ?_, ⟨_, rfl⟩, hW, hsame.mono (by decide) (by decide)⟩
    · refine y_icmpNo X19 hx hby d12_20 (teq hc20).2 ?_
      refine y_iconst X19 hx hby (v := (1 : Int32)) d12_23 rfl ?_
      refine y_goto X19 hx hby (pc' := 28) d12_24 (by decide) (by decide) ?_
      exact retN X19 hx (t := .boolean) Bd.returns (by simp) (hb hby d12_28) hr
    · show QP _ h0 n0 _ T19.heap _
      rw [e19, show f12_q a1 a2 x1 x2 = (1 : Int32) from by unfold f12_q; rw [if_pos hc20]]
      exact ⟨rfl, N0, rfl⟩
  · obtain ⟨fs, hr, hrun, hended, hW, hsame⟩ := X19.leave (v := some (.int (0 : Int32))) (fun h => by rw [Bd.returns] at h; cases h)
    refine ⟨_, _, pre21 _ ?_, hrun, hended, _, _, rfl, ?_, ⟨_, rfl⟩, hW, hsame.mono (by decide) (by decide)⟩
    · refine y_icmpYes X19 hx hby (pc' := 27) d12_20 (feq hc20).2 (by decide) (by decide) ?_
      refine y_iconst X19 hx hby (v := (0 : Int32)) d12_27 rfl ?_
      exact retN X19 hx (t := .boolean) Bd.returns (by simp) (hb hby d12_28) hr
    · show QP _ h0 n0 _ T19.heap _
      rw [e19, show f12_q a1 a2 x1 x2 = (0 : Int32) from by unfold f12_q; rw [if_neg hc20]]
      exact ⟨rfl, N0, rfl⟩
def f12_p (a1 : Addr) (x1 : Int32) : Int32 := (1 : Int32)
set_option maxRecDepth 65536 in
set_option maxHeartbeats 40000000 in
theorem rm12_p (l : Launch) (Z : State) (a0 : Array Value) (hw : HW a0 Z) (ws : List Jvm.Cond) (a1 : Addr) (x1 : Int32) (h0 : Heap) (n0 : Nat) (Z0 : n0 ≤ h0.size) (E_a1 : Exa Z h0 a1 "com/example/hoconut/hoconut/value/ConfigBoolean") (F_value_a1 : Fld Z h0 a1 "com/example/hoconut/hoconut/value/ConfigBoolean" "value" "Z" (.int x1)) :
    MF l mn5 prog_67_method_6_code 3 (some .boolean) ws ({ frames := 0, cells := 0, slots := 0, locals := 0 } : Room) #[(.ref a1), (.ref a1)] Z h0 (QP (some (.int (f12_p a1 x1))) h0 n0) := by
  refine MetFree.of_bodySF (plainFor_of_name pn_9) hisR ?_
  intro p e s m args below meth c s₁ Bd hml0 hP hK
  obtain ⟨rfl, hZ, hh⟩ := hP
  have hx := Bd.exec
  have hby := Bd.bytes
  have hml : c.maxLocals = 3 := hml0
  have hown : s.vm.findClass "com/example/hoconut/hoconut/value/ConfigBoolean" = some m.cls := findClass_of_methodNamed Bd.named
  have hnm := (name_of_methodNamed Bd.named Bd.method).1
  have X0 : Stand p l e ({ frames := 0, cells := 0, slots := 0, locals := 0 } : Room) s m #[(.ref a1), (.ref a1)] below meth c s₁ [] 0 0 := Stand.of_body Bd
  have e0 : s₁.heap = h0 := by rw [← hh, Bd.state]; rfl
  have N0 := Fr.nil n0
  have pre0 : GO p e below (s₁.setTop (mkF m 0 #[.val (.ref a1), .val (.ref a1), .unset] [])) (s₁.setTop (entryFrame m #[(.ref a1), (.ref a1)] 3)) := fun t k => castTop (ef_12 m a1 a1) k
  obtain ⟨T22, X22, e22, st22⟩ := instY X0 hx hZ hown (ww hw 83 rfl) e0 (Ins.self E_a1) (g := (mkF m 1 #[.val (.ref a1), .val (.ref a1), .unset] [(.ref a1)])) rfl rfl (hb hby d12_1)
  obtain ⟨T23, X23, e23, st23⟩ := castY X22 hx hZ hown (ww hw 83 rfl) e22 (Ins.self E_a1) (g := (mkF m 8 #[.val (.ref a1), .val (.ref a1), .unset] [(.ref a1)])) rfl rfl (hb hby d12_8)
  obtain ⟨T24, X24, e24, st24⟩ := getF X23 hx hZ hown (host := "") (Or.inl (ww hw 53 rfl)) Via.refl e23 F_value_a1 (g := (mkF m 13 #[.val (.ref a1), .val (.ref a1), .val (.ref a1)] [(.ref a1)])) rfl rfl (hb hby d12_13)
  obtain ⟨T25, X25, e25, st25⟩ := getF X24 hx hZ hown (host := "") (Or.inl (ww hw 53 rfl)) Via.refl e24 F_value_a1 (g := (mkF m 17 #[.val (.ref a1), .val (.ref a1), .val (.ref a1)] [(.ref a1), (.int x1)])) rfl rfl (hb hby d12_17)
  obtain ⟨fs, hr, hrun, hended, hW, hsame⟩ := X25.leave (v := some (.int (1 : Int32))) (fun h => by rw [Bd.returns] at h; cases h)
  refine ⟨_, _, pre0 _ ?_, hrun, hended, _, _, rfl, ?_, ⟨_, rfl⟩, hW, hsame.mono (by decide) (by decide)⟩
  · refine y_aloadN X0 hx hby d12_0 rfl rfl ?_
    refine st22 _ ?_
    show Steps p.tables e below (T22.setTop (mkF m 4 #[.val (.ref a1), .val (.ref a1), .unset] [(.int (1 : Int32))])) _
    refine y_ifNo X22 hx hby d12_4 ((if0 _ _).trans (feq (by decide)).1) ?_
    refine y_aloadN X22 hx hby d12_7 rfl rfl ?_
    refine st23 _ ?_
    show Steps p.tables e below (T23.setTop (mkF m 11 #[.val (.ref a1), .val (.ref a1), .unset] [(.ref a1)])) _
    refine y_astoreN X23 hx hby d12_11 rfl (l' := #[.val (.ref a1), .val (.ref a1), .val (.ref a1)]) rfl ?_
    refine y_aloadN X23 hx hby d12_12 rfl rfl ?_
    refine st24 _ ?_
    show Steps p.tables e below (T24.setTop (mkF m 16 #[.val (.ref a1), .val (.ref a1), .val (.ref a1)] [(.int x1)])) _
    refine y_aloadN X24 hx hby d12_16 rfl rfl ?_
    refine st25 _ ?_
    show Steps p.tables e below (T25.setTop (mkF m 20 #[.val (.ref a1), .val (.ref a1), .val (.ref a1)] [(.int x1), (.int x1)])) _
    refine y_icmpNo X25 hx hby d12_20 (teq rfl).2 ?_
    refine y_iconst X25 hx hby (v := (1 : Int32)) d12_23 rfl ?_
    refine y_goto X25 hx hby (pc' := 28) d12_24 (by decide) (by decide) ?_
    exact retN X25 hx (t := .boolean) Bd.returns (by simp) (hb hby d12_28) hr
  · show QP _ h0 n0 _ T25.heap _
    rw [e25, show f12_p a1 x1 = (1 : Int32) from rfl]
    exact ⟨rfl, N0, rfl⟩
theorem ef_12z (m : MethodId) (x0 : Addr) : entryFrame m #[(.ref x0), .null] 3 = mkF m 0 #[.val (.ref x0), .val .null, .unset] [] := by first | (simp [entryFrame, mkF, argsToLocals, Value.category]; done) | rfl
def f12_z (a1 : Addr) (x1 : Int32) : Int32 := (0 : Int32)
set_option maxRecDepth 65536 in
set_option maxHeartbeats 40000000 in
theorem rm12_z (l : Launch) (Z : State) (a0 : Array Value) (hw : HW a0 Z) (ws : List Jvm.Cond) (a1 : Addr) (x1 : Int32) (h0 : Heap) (n0 : Nat) (Z0 : n0 ≤ h0.size) (E_a1 : Exa Z h0 a1 "com/example/hoconut/hoconut/value/ConfigBoolean") (F_value_a1 : Fld Z h0 a1 "com/example/hoconut/hoconut/value/ConfigBoolean" "value" "Z" (.int x1)) :
    MF l mn5 prog_67_method_6_code 3 (some .boolean) ws ({ frames := 0, cells := 0, slots := 0, locals := 0 } : Room) #[(.ref a1), .null] Z h0 (QP (some (.int (f12_z a1 x1))) h0 n0) := by
  refine MetFree.of_bodySF (plainFor_of_name pn_9) hisR ?_
  intro p e s m args below meth c s₁ Bd hml0 hP hK
  obtain ⟨rfl, hZ, hh⟩ := hP
  have hx := Bd.exec
  have hby := Bd.bytes
  have hml : c.maxLocals = 3 := hml0
  have hown : s.vm.findClass "com/example/hoconut/hoconut/value/ConfigBoolean" = some m.cls := findClass_of_methodNamed Bd.named
  have hnm := (name_of_methodNamed Bd.named Bd.method).1
  have X0 : Stand p l e ({ frames := 0, cells := 0, slots := 0, locals := 0 } : Room) s m #[(.ref a1), .null] below meth c s₁ [] 0 0 := Stand.of_body Bd
  have e0 : s₁.heap = h0 := by rw [← hh, Bd.state]; rfl
  have N0 := Fr.nil n0
  have pre0 : GO p e below (s₁.setTop (mkF m 0 #[.val (.ref a1), .val .null, .unset] [])) (s₁.setTop (entryFrame m #[(.ref a1), .null] 3)) := fun t k => castTop (ef_12z m a1) k
  obtain ⟨fs, hr, hrun, hended, hW, hsame⟩ := X0.leave (v := some (.int (0 : Int32))) (fun h => by rw [Bd.returns] at h; cases h)
  refine ⟨_, _, pre0 _ ?_, hrun, hended, _, _, rfl, ?_, ⟨_, rfl⟩, hW, hsame.mono (by decide) (by decide)⟩
  · refine y_aloadN X0 hx hby d12_0 rfl rfl ?_
    refine X0.instanceofNull hx (g := (mkF m 1 #[.val (.ref a1), .val .null, .unset] [.null])) rfl rfl (hb hby d12_1) _ ?_
    show Steps p.tables e below (s₁.setTop (mkF m 4 #[.val (.ref a1), .val .null, .unset] [(.int (0 : Int32))])) _
    refine y_ifYes X0 hx hby (pc' := 27) d12_4 ((if0 _ _).trans (teq rfl).1) (by decide) (by decide) ?_
    refine y_iconst X0 hx hby (v := (0 : Int32)) d12_27 rfl ?_
    exact retN X0 hx (t := .boolean) Bd.returns (by simp) (hb hby d12_28) hr
  · show QP _ h0 n0 _ s₁.heap _
    rw [e0, show f12_z a1 x1 = (0 : Int32) from rfl]
    exact ⟨rfl, N0, rfl⟩
def f12_n (a1 a2 : Addr) (x1 : Int32) : Int32 := (0 : Int32)
set_option maxRecDepth 65536 in
set_option maxHeartbeats 40000000 in
theorem rm12_n (l : Launch) (Z : State) (a0 : Array Value) (hw : HW a0 Z) (ws : List Jvm.Cond) (a1 a2 : Addr) (x1 : Int32) (h0 : Heap) (n0 : Nat) (Z0 : n0 ≤ h0.size) (E_a1 : Exa Z h0 a1 "com/example/hoconut/hoconut/value/ConfigBoolean") (F_value_a1 : Fld Z h0 a1 "com/example/hoconut/hoconut/value/ConfigBoolean" "value" "Z" (.int x1)) (E_a2 : Exa Z h0 a2 "com/example/hoconut/hoconut/value/ConfigNull") :
    MF l mn5 prog_67_method_6_code 3 (some .boolean) ws ({ frames := 0, cells := 0, slots := 0, locals := 0 } : Room) #[(.ref a1), (.ref a2)] Z h0 (QP (some (.int (f12_n a1 a2 x1))) h0 n0) := by
  refine MetFree.of_bodySF (plainFor_of_name pn_9) hisR ?_
  intro p e s m args below meth c s₁ Bd hml0 hP hK
  obtain ⟨rfl, hZ, hh⟩ := hP
  have hx := Bd.exec
  have hby := Bd.bytes
  have hml : c.maxLocals = 3 := hml0
  have hown : s.vm.findClass "com/example/hoconut/hoconut/value/ConfigBoolean" = some m.cls := findClass_of_methodNamed Bd.named
  have hnm := (name_of_methodNamed Bd.named Bd.method).1
  have X0 : Stand p l e ({ frames := 0, cells := 0, slots := 0, locals := 0 } : Room) s m #[(.ref a1), (.ref a2)] below meth c s₁ [] 0 0 := Stand.of_body Bd
  have e0 : s₁.heap = h0 := by rw [← hh, Bd.state]; rfl
  have N0 := Fr.nil n0
  have pre0 : GO p e below (s₁.setTop (mkF m 0 #[.val (.ref a1), .val (.ref a2), .unset] [])) (s₁.setTop (entryFrame m #[(.ref a1), (.ref a2)] 3)) := fun t k => castTop (ef_12 m a1 a2) k
  obtain ⟨T26, X26, e26, st26⟩ := instNo X0 hx hZ hown (ww hw 83 rfl) e0 E_a2 (own_nsno (ww hw 85 rfl) (ww hw 86 rfl) (ww hw 47 rfl) (by decide) (by decide)) (g := (mkF m 1 #[.val (.ref a1), .val (.ref a2), .unset] [(.ref a2)])) rfl rfl (hb hby d12_1)
  obtain ⟨fs, hr, hrun, hended, hW, hsame⟩ := X26.leave (v := some (.int (0 : Int32))) (fun h => by rw [Bd.returns] at h; cases h)
  refine ⟨_, _, pre0 _ ?_, hrun, hended, _, _, rfl, ?_, ⟨_, rfl⟩, hW, hsame.mono (by decide) (by decide)⟩
  · refine y_aloadN X0 hx hby d12_0 rfl rfl ?_
    refine st26 _ ?_
    show Steps p.tables e below (T26.setTop (mkF m 4 #[.val (.ref a1), .val (.ref a2), .unset] [(.int (0 : Int32))])) _
    refine y_ifYes X26 hx hby (pc' := 27) d12_4 ((if0 _ _).trans (teq rfl).1) (by decide) (by decide) ?_
    refine y_iconst X26 hx hby (v := (0 : Int32)) d12_27 rfl ?_
    exact retN X26 hx (t := .boolean) Bd.returns (by simp) (hb hby d12_28) hr
  · show QP _ h0 n0 _ T26.heap _
    rw [e26, show f12_n a1 a2 x1 = (0 : Int32) from rfl]
    exact ⟨rfl, N0, rfl⟩
def eqq (x1 x2 : Int32) : Int32 := if x1 = x2 then 1 else 0
theorem own_eqt {x y : Int32} (h : x = y) : eqq (x &&& 1) (y &&& 1) = 1 := by subst h; exact if_pos rfl
theorem own_eqf {x y : Int32} (hx : x = 0 ∨ x = 1) (hy : y = 0 ∨ y = 1) (h : ¬ x = y) : eqq (x &&& 1) (y &&& 1) = 0 := by
  rcases hx with rfl | rfl <;> rcases hy with rfl | rfl <;> first | exact absurd rfl h | decide
theorem own_nz {args : Array Value} {first s : State} {o : Option Outcome} {idx : List Nat} {t : Term} {z : Int32} (h : (Jvm.Cond.not (.eq t (.int 0))).value args first o s idx = some true) (e : t.eval args first o idx s = some (.int z)) : ¬ z = 0 := by
  intro q
  subst q
  simp [Cond.value, Term.eval, e] at h
theorem own_char (y : Int32) : ¬ (((y &&& (255 : Int32)).toUInt32.toUInt16.toUInt32.toInt32).toUInt32.toUInt16.toUInt32.toInt32) < 0 ∧ ¬ (255 : Int32) < (((y &&& (255 : Int32)).toUInt32.toUInt16.toUInt32.toInt32).toUInt32.toUInt16.toUInt32.toInt32) := by
  rw [i2c_mask, i2c_mask]
  have h : (y &&& 255).toInt = y.toInt % (2 ^ 8 : Nat) := c_mask y _ 8 (by decide) (by decide)
  have e0 : (0 : Int32).toInt = 0 := by decide
  have e1 : (255 : Int32).toInt = 255 := by decide
  rw [Int32.lt_iff_toInt_lt, Int32.lt_iff_toInt_lt]
  omega
theorem own_chars (y z : Int32) : ∀ c ∈ ([(((y &&& (255 : Int32)).toUInt32.toUInt16.toUInt32.toInt32).toUInt32.toUInt16.toUInt32.toInt32), (((z &&& (255 : Int32)).toUInt32.toUInt16.toUInt32.toInt32).toUInt32.toUInt16.toUInt32.toInt32)] : List Int32), ¬ c < 0 ∧ ¬ (255 : Int32) < c := by
  intro c hc
  simp only [List.mem_cons, List.not_mem_nil, or_false] at hc
  rcases hc with rfl | rfl
  · exact own_char y
  · exact own_char z
theorem pd_2 : parseMethodDescriptor "([C)V" = some ⟨[(.array .char)], none⟩ := by decide +kernel
abbrev mn6 : MethodName := ⟨"java/lang/String", "<init>", "([C)V"⟩
theorem pd_3 : parseMethodDescriptor "(Ljava/lang/String;I)V" = some ⟨[(.object "java/lang/String"), .int], none⟩ := by decide +kernel
theorem pd_4 : parseMethodDescriptor "(ZLcom/example/hoconut/hoconut/value/Origin;)V" = some ⟨[.boolean, (.object "com/example/hoconut/hoconut/value/Origin")], none⟩ := by decide +kernel
theorem pd_5 : parseMethodDescriptor "(Lcom/example/hoconut/hoconut/value/Origin;)V" = some ⟨[(.object "com/example/hoconut/hoconut/value/Origin")], none⟩ := by decide +kernel
theorem pd_6 : parseMethodDescriptor "(Ljava/lang/Object;)Z" = some ⟨[(.object "java/lang/Object")], some .boolean⟩ := by decide +kernel
theorem pn_0 : plainName "com/example/hoconut/hoconut/value/ConfigBooleanEqualsPinLaw" = true := by first | (simp [plainName, overriddenIn]; done) | decide +kernel
theorem ef_0 (m : MethodId) (x0 : Int32) (x1 : Int32) (x2 : Int32) (x3 : Int32) (x4 : Int32) : entryFrame m #[(.int x0), (.int x1), (.int x2), (.int x3), (.int x4)] maxLocals = mkF m 0 #[.val (.int x0), .val (.int x1), .val (.int x2), .val (.int x3), .val (.int x4), .unset, .unset, .unset, .unset, .unset, .unset, .unset, .unset, .unset, .unset, .unset, .unset] [] := by first | (simp [entryFrame, mkF, argsToLocals, Value.category, maxLocals]; done) | rfl
def mg0_3a (p1 p2 p3 p4 p5 zC : Int32) : Int32 := if (p1 &&& (1 : Int32)) = (0 : Int32) then (0 : Int32) else (1 : Int32)
def mg0_16a (p1 p2 p3 p4 p5 zC : Int32) : Int32 := if (p1 &&& (2 : Int32)) = (0 : Int32) then (0 : Int32) else (1 : Int32)
theorem own_b3 (p1 p2 p3 p4 p5 zC : Int32) : mg0_3a p1 p2 p3 p4 p5 zC = 0 ∨ mg0_3a p1 p2 p3 p4 p5 zC = 1 := by
  unfold mg0_3a
  split
  · exact Or.inl rfl
  · exact Or.inr rfl
theorem own_b16 (p1 p2 p3 p4 p5 zC : Int32) : mg0_16a p1 p2 p3 p4 p5 zC = 0 ∨ mg0_16a p1 p2 p3 p4 p5 zC = 1 := by
  unfold mg0_16a
  split
  · exact Or.inl rfl
  · exact Or.inr rfl
abbrev lo0_0 (p1 p2 p3 p4 p5 : Int32) : Array Slot := #[.val (.int p1), .val (.int p2), .val (.int p3), .val (.int p4), .val (.int p5), .unset, .unset, .unset, .unset, .unset, .unset, .unset, .unset, .unset, .unset, .unset, .unset]
abbrev lo0_1 (p1 p2 p3 p4 p5 zC : Int32) : Array Slot := #[.val (.int p1), .val (.int p2), .val (.int p3), .val (.int p4), .val (.int p5), .val (.int (mg0_3a p1 p2 p3 p4 p5 zC)), .unset, .unset, .unset, .unset, .unset, .unset, .unset, .unset, .unset, .unset, .unset]
abbrev lo0_2 (p1 p2 p3 p4 p5 zC : Int32) : Array Slot := #[.val (.int p1), .val (.int p2), .val (.int p3), .val (.int p4), .val (.int p5), .val (.int (mg0_3a p1 p2 p3 p4 p5 zC)), .val (.int (mg0_16a p1 p2 p3 p4 p5 zC)), .unset, .unset, .unset, .unset, .unset, .unset, .unset, .unset, .unset, .unset]
abbrev lo0_3 (p1 p2 p3 p4 p5 zC : Int32) : Array Slot := #[.val (.int p1), .val (.int p2), .val (.int p3), .val (.int p4), .val (.int p5), .val (.int (mg0_3a p1 p2 p3 p4 p5 zC)), .val (.int (mg0_16a p1 p2 p3 p4 p5 zC)), .val (.int (((p1.toUInt32 >>> ((2 : Int32) &&& 31).toUInt32).toInt32) &&& (3 : Int32))), .unset, .unset, .unset, .unset, .unset, .unset, .unset, .unset, .unset]
abbrev lo0_4 (p1 p2 p3 p4 p5 zC : Int32) (b33 : Addr) : Array Slot := #[.val (.int p1), .val (.int p2), .val (.int p3), .val (.int p4), .val (.int p5), .val (.int (mg0_3a p1 p2 p3 p4 p5 zC)), .val (.int (mg0_16a p1 p2 p3 p4 p5 zC)), .val (.int (((p1.toUInt32 >>> ((2 : Int32) &&& 31).toUInt32).toInt32) &&& (3 : Int32))), .val (.ref b33), .unset, .unset, .unset, .unset, .unset, .unset, .unset, .unset]
abbrev lo0_5 (p1 p2 p3 p4 p5 zC : Int32) (b33 b38 : Addr) : Array Slot := #[.val (.int p1), .val (.int p2), .val (.int p3), .val (.int p4), .val (.int p5), .val (.int (mg0_3a p1 p2 p3 p4 p5 zC)), .val (.int (mg0_16a p1 p2 p3 p4 p5 zC)), .val (.int (((p1.toUInt32 >>> ((2 : Int32) &&& 31).toUInt32).toInt32) &&& (3 : Int32))), .val (.ref b33), .val (.ref b38), .unset, .unset, .unset, .unset, .unset, .unset, .unset]
abbrev lo0_6 (p1 p2 p3 p4 p5 zC : Int32) (b33 b38 b43 : Addr) : Array Slot := #[.val (.int p1), .val (.int p2), .val (.int p3), .val (.int p4), .val (.int p5), .val (.int (mg0_3a p1 p2 p3 p4 p5 zC)), .val (.int (mg0_16a p1 p2 p3 p4 p5 zC)), .val (.int (((p1.toUInt32 >>> ((2 : Int32) &&& 31).toUInt32).toInt32) &&& (3 : Int32))), .val (.ref b33), .val (.ref b38), .val (.ref b43), .unset, .unset, .unset, .unset, .unset, .unset]
abbrev lo0_7 (p1 p2 p3 p4 p5 zC : Int32) (b33 b38 b43 b47 : Addr) : Array Slot := #[.val (.int p1), .val (.int p2), .val (.int p3), .val (.int p4), .val (.int p5), .val (.int (mg0_3a p1 p2 p3 p4 p5 zC)), .val (.int (mg0_16a p1 p2 p3 p4 p5 zC)), .val (.int (((p1.toUInt32 >>> ((2 : Int32) &&& 31).toUInt32).toInt32) &&& (3 : Int32))), .val (.ref b33), .val (.ref b38), .val (.ref b43), .val (.ref b47), .unset, .unset, .unset, .unset, .unset]
abbrev lo0_8 (p1 p2 p3 p4 p5 zC : Int32) (b33 b38 b43 b47 b51 : Addr) : Array Slot := #[.val (.int p1), .val (.int p2), .val (.int p3), .val (.int p4), .val (.int p5), .val (.int (mg0_3a p1 p2 p3 p4 p5 zC)), .val (.int (mg0_16a p1 p2 p3 p4 p5 zC)), .val (.int (((p1.toUInt32 >>> ((2 : Int32) &&& 31).toUInt32).toInt32) &&& (3 : Int32))), .val (.ref b33), .val (.ref b38), .val (.ref b43), .val (.ref b47), .val (.ref b51), .unset, .unset, .unset, .unset]
abbrev lo0_9 (p1 p2 p3 p4 p5 zC : Int32) (b33 b38 b43 b47 b51 b53 : Addr) : Array Slot := #[.val (.int p1), .val (.int p2), .val (.int p3), .val (.int p4), .val (.int p5), .val (.int (mg0_3a p1 p2 p3 p4 p5 zC)), .val (.int (mg0_16a p1 p2 p3 p4 p5 zC)), .val (.int (((p1.toUInt32 >>> ((2 : Int32) &&& 31).toUInt32).toInt32) &&& (3 : Int32))), .val (.ref b33), .val (.ref b38), .val (.ref b43), .val (.ref b47), .val (.ref b51), .val (.ref b53), .unset, .unset, .unset]
abbrev lo0_10 (p1 p2 p3 p4 p5 zC : Int32) (b33 b38 b43 b47 b51 b53 b55 : Addr) : Array Slot := #[.val (.int p1), .val (.int p2), .val (.int p3), .val (.int p4), .val (.int p5), .val (.int (mg0_3a p1 p2 p3 p4 p5 zC)), .val (.int (mg0_16a p1 p2 p3 p4 p5 zC)), .val (.int (((p1.toUInt32 >>> ((2 : Int32) &&& 31).toUInt32).toInt32) &&& (3 : Int32))), .val (.ref b33), .val (.ref b38), .val (.ref b43), .val (.ref b47), .val (.ref b51), .val (.ref b53), .val (.ref b55), .unset, .unset]
abbrev lo0_11 (p1 p2 p3 p4 p5 zC : Int32) (b33 b38 b43 b47 b51 b53 b55 : Addr) : Array Slot := #[.val (.int p1), .val (.int p2), .val (.int p3), .val (.int p4), .val (.int p5), .val (.int (mg0_3a p1 p2 p3 p4 p5 zC)), .val (.int (mg0_16a p1 p2 p3 p4 p5 zC)), .val (.int (((p1.toUInt32 >>> ((2 : Int32) &&& 31).toUInt32).toInt32) &&& (3 : Int32))), .val (.ref b33), .val (.ref b38), .val (.ref b43), .val (.ref b47), .val (.ref b51), .val (.ref b53), .val (.ref b55), .val (.ref b53), .unset]
abbrev lo0_12 (p1 p2 p3 p4 p5 zC : Int32) (b33 b38 b43 b47 b51 b53 b55 : Addr) : Array Slot := #[.val (.int p1), .val (.int p2), .val (.int p3), .val (.int p4), .val (.int p5), .val (.int (mg0_3a p1 p2 p3 p4 p5 zC)), .val (.int (mg0_16a p1 p2 p3 p4 p5 zC)), .val (.int (((p1.toUInt32 >>> ((2 : Int32) &&& 31).toUInt32).toInt32) &&& (3 : Int32))), .val (.ref b33), .val (.ref b38), .val (.ref b43), .val (.ref b47), .val (.ref b51), .val (.ref b53), .val (.ref b55), .val (.ref b53), .val (.int (1 : Int32))]
abbrev lo0_13 (p1 p2 p3 p4 p5 zC : Int32) (b33 b38 b43 b47 b51 b53 b55 : Addr) : Array Slot := #[.val (.int p1), .val (.int p2), .val (.int p3), .val (.int p4), .val (.int p5), .val (.int (mg0_3a p1 p2 p3 p4 p5 zC)), .val (.int (mg0_16a p1 p2 p3 p4 p5 zC)), .val (.int (((p1.toUInt32 >>> ((2 : Int32) &&& 31).toUInt32).toInt32) &&& (3 : Int32))), .val (.ref b33), .val (.ref b38), .val (.ref b43), .val (.ref b47), .val (.ref b51), .val (.ref b53), .val (.ref b55), .val (.ref b53), .val (.int (0 : Int32))]
abbrev lo0_14 (p1 p2 p3 p4 p5 zC : Int32) (b33 b38 b43 b47 b51 b53 b55 : Addr) : Array Slot := #[.val (.int p1), .val (.int p2), .val (.int p3), .val (.int p4), .val (.int p5), .val (.int (mg0_3a p1 p2 p3 p4 p5 zC)), .val (.int (mg0_16a p1 p2 p3 p4 p5 zC)), .val (.int (((p1.toUInt32 >>> ((2 : Int32) &&& 31).toUInt32).toInt32) &&& (3 : Int32))), .val (.ref b33), .val (.ref b38), .val (.ref b43), .val (.ref b47), .val (.ref b51), .val (.ref b53), .val (.ref b55), .val .null, .unset]
abbrev lo0_15 (p1 p2 p3 p4 p5 zC : Int32) (b33 b38 b43 b47 b51 b53 b55 : Addr) : Array Slot := #[.val (.int p1), .val (.int p2), .val (.int p3), .val (.int p4), .val (.int p5), .val (.int (mg0_3a p1 p2 p3 p4 p5 zC)), .val (.int (mg0_16a p1 p2 p3 p4 p5 zC)), .val (.int (((p1.toUInt32 >>> ((2 : Int32) &&& 31).toUInt32).toInt32) &&& (3 : Int32))), .val (.ref b33), .val (.ref b38), .val (.ref b43), .val (.ref b47), .val (.ref b51), .val (.ref b53), .val (.ref b55), .val .null, .val (.int (0 : Int32))]
abbrev lo0_16 (p1 p2 p3 p4 p5 zC : Int32) (b33 b38 b43 b47 b51 b53 b55 : Addr) : Array Slot := #[.val (.int p1), .val (.int p2), .val (.int p3), .val (.int p4), .val (.int p5), .val (.int (mg0_3a p1 p2 p3 p4 p5 zC)), .val (.int (mg0_16a p1 p2 p3 p4 p5 zC)), .val (.int (((p1.toUInt32 >>> ((2 : Int32) &&& 31).toUInt32).toInt32) &&& (3 : Int32))), .val (.ref b33), .val (.ref b38), .val (.ref b43), .val (.ref b47), .val (.ref b51), .val (.ref b53), .val (.ref b55), .val (.ref b55), .unset]
abbrev lo0_17 (p1 p2 p3 p4 p5 zC : Int32) (b33 b38 b43 b47 b51 b53 b55 : Addr) : Array Slot := #[.val (.int p1), .val (.int p2), .val (.int p3), .val (.int p4), .val (.int p5), .val (.int (mg0_3a p1 p2 p3 p4 p5 zC)), .val (.int (mg0_16a p1 p2 p3 p4 p5 zC)), .val (.int (((p1.toUInt32 >>> ((2 : Int32) &&& 31).toUInt32).toInt32) &&& (3 : Int32))), .val (.ref b33), .val (.ref b38), .val (.ref b43), .val (.ref b47), .val (.ref b51), .val (.ref b53), .val (.ref b55), .val (.ref b55), .val (.int (0 : Int32))]
abbrev lo0_18 (p1 p2 p3 p4 p5 zC : Int32) (b33 b38 b43 b47 b51 b53 b55 : Addr) : Array Slot := #[.val (.int p1), .val (.int p2), .val (.int p3), .val (.int p4), .val (.int p5), .val (.int (mg0_3a p1 p2 p3 p4 p5 zC)), .val (.int (mg0_16a p1 p2 p3 p4 p5 zC)), .val (.int (((p1.toUInt32 >>> ((2 : Int32) &&& 31).toUInt32).toInt32) &&& (3 : Int32))), .val (.ref b33), .val (.ref b38), .val (.ref b43), .val (.ref b47), .val (.ref b51), .val (.ref b53), .val (.ref b55), .val (.ref b51), .unset]
abbrev lo0_19 (p1 p2 p3 p4 p5 zC : Int32) (b33 b38 b43 b47 b51 b53 b55 : Addr) : Array Slot := #[.val (.int p1), .val (.int p2), .val (.int p3), .val (.int p4), .val (.int p5), .val (.int (mg0_3a p1 p2 p3 p4 p5 zC)), .val (.int (mg0_16a p1 p2 p3 p4 p5 zC)), .val (.int (((p1.toUInt32 >>> ((2 : Int32) &&& 31).toUInt32).toInt32) &&& (3 : Int32))), .val (.ref b33), .val (.ref b38), .val (.ref b43), .val (.ref b47), .val (.ref b51), .val (.ref b53), .val (.ref b55), .val (.ref b51), .val (.int (1 : Int32))]
set_option maxRecDepth 65536 in
set_option maxHeartbeats 40000000 in
theorem rm0 (l : Launch) (Z : State) (a0 : Array Value) (hw : HW a0 Z) (ws : List Jvm.Cond) (p1 p2 p3 p4 p5 zC : Int32) (h0 : Heap) (n0 : Nat) (Z0 : n0 ≤ h0.size) (S_COMPACT : Sta Z h0 "java/lang/String" "COMPACT_STRINGS" "Z" (.int zC)) (hz : ¬ zC = 0) :
    MFW l x code maxLocals ret ws room_1 #[(.int p1), (.int p2), (.int p3), (.int p4), (.int p5)] Z h0 (QL (some (.int (1 : Int32))) n0) := by
  refine MetFree.of_bodySF (plainFor_of_name pn_0) hisR ?_
  intro p e s m args below meth c s₁ Bd hml0 hP hK
  obtain ⟨rfl, hZ, hh⟩ := hP
  have hx := Bd.exec
  have hby := Bd.bytes
  have hml : c.maxLocals = 17 := hml0
  have hown : s.vm.findClass "com/example/hoconut/hoconut/value/ConfigBooleanEqualsPinLaw" = some m.cls := findClass_of_methodNamed Bd.named
  have hnm := (name_of_methodNamed Bd.named Bd.method).1
  have X0 : Stand p l e room_1 (s.setVm s.vm) m #[(.int p1), (.int p2), (.int p3), (.int p4), (.int p5)] below meth c s₁ [] 0 0 := Stand.of_body Bd
  have e0 : s₁.heap = h0 := by rw [← hh, Bd.state]; rfl
  have N0 := Fr.nil n0
  have pre0 : GO p e below (s₁.setTop (mkF m 0 #[.val (.int p1), .val (.int p2), .val (.int p3), .val (.int p4), .val (.int p5), .unset, .unset, .unset, .unset, .unset, .unset, .unset, .unset, .unset, .unset, .unset, .unset] [])) (s₁.setTop (entryFrame m #[(.int p1), (.int p2), (.int p3), (.int p4), (.int p5)] maxLocals)) := fun t k => castTop (ef_0 m p1 p2 p3 p4 p5) k
  have hS := (State.WarmedH.refl s).since 0
  have hk : 0 ≤ h0.size := Nat.zero_le _
  have wS : ∀ d ∈ Bundle.stringAtoms, d.before a0 Z = true := fun d hd => hw d ((by decide +kernel : ∀ d ∈ Bundle.stringAtoms, d ∈ tables_1) d hd)
  have hws : ∀ d ∈ StrChars.Road.words, d.before a0 Z = true := fun d hd => hw d ((by decide +kernel : ∀ d ∈ StrChars.Road.words, d ∈ tables_1) d hd)
  have pre28 : GO p e below (s₁.setTop (mkF m 3 (lo0_0 p1 p2 p3 p4 p5) [(.int (p1 &&& (1 : Int32)))])) (s₁.setTop (entryFrame m #[(.int p1), (.int p2), (.int p3), (.int p4), (.int p5)] maxLocals)) := fun t k => by
    refine pre0 _ ?_
    refine y_iloadN X0 hx hby at_0 rfl ?_
    refine y_iconst X0 hx hby (v := (1 : Int32)) at_1 rfl ?_
    refine y_iand X0 hx hby at_2 ?_
    exact k
  obtain ⟨T29, L29, X29, N29, e29, pre29⟩ : ∃ T' L', Stand p l e room_1 s m #[(.int p1), (.int p2), (.int p3), (.int p4), (.int p5)] below meth c T' L' 0 0 ∧ Fr n0 L' ∧ T'.heap = h0 ∧ ∀ t, Steps p.tables e below (T'.setTop (mkF m 11 #[.val (.int p1), .val (.int p2), .val (.int p3), .val (.int p4), .val (.int p5), .unset, .unset, .unset, .unset, .unset, .unset, .unset, .unset, .unset, .unset, .unset, .unset] [(.int (mg0_3a p1 p2 p3 p4 p5 zC))])) t → Steps p.tables e below (s₁.setTop (entryFrame m #[(.int p1), (.int p2), (.int p3), (.int p4), (.int p5)] maxLocals)) t := by
    by_cases hc27 : (p1 &&& (1 : Int32)) = (0 : Int32)
    · rw [show mg0_3a p1 p2 p3 p4 p5 zC = (0 : Int32) from if_pos hc27]
      refine ⟨s₁, _, X0, N0, e0, fun t k => ?_⟩
      refine pre28 _ ?_
      refine y_ifYes X0 hx hby (pc' := 10) at_3 ((if0 _ _).trans (teq hc27).1) (by decide) (by decide) ?_
      refine y_iconst X0 hx hby (v := (0 : Int32)) at_10 rfl ?_
      exact k
    · rw [show mg0_3a p1 p2 p3 p4 p5 zC = (1 : Int32) from if_neg hc27]
      refine ⟨s₁, _, X0, N0, e0, fun t k => ?_⟩
      refine pre28 _ ?_
      refine y_ifNo X0 hx hby at_3 ((if0 _ _).trans (feq hc27).1) ?_
      refine y_iconst X0 hx hby (v := (1 : Int32)) at_6 rfl ?_
      refine y_goto X0 hx hby (pc' := 11) at_7 (by decide) (by decide) ?_
      exact k
  have pre31 : GO p e below (T29.setTop (mkF m 16 (lo0_1 p1 p2 p3 p4 p5 zC) [(.int (p1 &&& (2 : Int32)))])) (s₁.setTop (entryFrame m #[(.int p1), (.int p2), (.int p3), (.int p4), (.int p5)] maxLocals)) := fun t k => by
    refine pre29 _ ?_
    refine y_istore X29 hx hby at_11 (l' := (lo0_1 p1 p2 p3 p4 p5 zC)) rfl ?_
    refine y_iloadN X29 hx hby at_13 rfl ?_
    refine y_iconst X29 hx hby (v := (2 : Int32)) at_14 rfl ?_
    refine y_iand X29 hx hby at_15 ?_
    exact k
  obtain ⟨T32, L32, X32, N32, e32, pre32⟩ : ∃ T' L', Stand p l e room_1 s m #[(.int p1), (.int p2), (.int p3), (.int p4), (.int p5)] below meth c T' L' 0 0 ∧ Fr n0 L' ∧ T'.heap = h0 ∧ ∀ t, Steps p.tables e below (T'.setTop (mkF m 24 #[.val (.int p1), .val (.int p2), .val (.int p3), .val (.int p4), .val (.int p5), .val (.int (mg0_3a p1 p2 p3 p4 p5 zC)), .unset, .unset, .unset, .unset, .unset, .unset, .unset, .unset, .unset, .unset, .unset] [(.int (mg0_16a p1 p2 p3 p4 p5 zC))])) t → Steps p.tables e below (s₁.setTop (entryFrame m #[(.int p1), (.int p2), (.int p3), (.int p4), (.int p5)] maxLocals)) t := by
    by_cases hc30 : (p1 &&& (2 : Int32)) = (0 : Int32)
    · rw [show mg0_16a p1 p2 p3 p4 p5 zC = (0 : Int32) from if_pos hc30]
      refine ⟨T29, _, X29, N29, e29, fun t k => ?_⟩
      refine pre31 _ ?_
      refine y_ifYes X29 hx hby (pc' := 23) at_16 ((if0 _ _).trans (teq hc30).1) (by decide) (by decide) ?_
      refine y_iconst X29 hx hby (v := (0 : Int32)) at_23 rfl ?_
      exact k
    · rw [show mg0_16a p1 p2 p3 p4 p5 zC = (1 : Int32) from if_neg hc30]
      refine ⟨T29, _, X29, N29, e29, fun t k => ?_⟩
      refine pre31 _ ?_
      refine y_ifNo X29 hx hby at_16 ((if0 _ _).trans (feq hc30).1) ?_
      refine y_iconst X29 hx hby (v := (1 : Int32)) at_19 rfl ?_
      refine y_goto X29 hx hby (pc' := 24) at_20 (by decide) (by decide) ?_
      exact k
  obtain ⟨T33, h33, k33, X33, e33, E33, A33, st33⟩ := newP X32 hx hZ (ww hw 0 rfl) e32 (g := (mkF m 34 (lo0_3 p1 p2 p3 p4 p5 zC) [(.int (2 : Int32))])) rfl (hb hby at_34) rfl (by decide) (cap := 2) (by decide) (by decide) (by decide) (by decide)
  obtain ⟨b33, g33⟩ : ∃ z, z = h0.size := ⟨_, rfl⟩
  rw [← g33] at A33 st33
  have g_b33 : n0 ≤ b33 := Nat.le_trans Z0 (Nat.le_of_eq g33.symm)
  replace S_COMPACT := S_COMPACT.ext E33
  replace Z0 := Nat.le_trans Z0 E33.1
  replace hk := Nat.le_trans hk E33.1
  have V_b33 : Arv Z h33 b33 k33 .char (2 : Int32) [(.int (0 : Int32)), (.int (0 : Int32))] (.int (0 : Int32)) := (Arv.new A33 (by decide)).pad (pad_rep [] (.int (0 : Int32)) 2)
  obtain ⟨cl34, Ar34, q34, Sz34, Nn34, Hh34, Gg34⟩ := V_b33
  have hin34 : ¬ ((0 : Int32) < 0 ∨ cl34.slots.size ≤ ((0 : Int32)).toNatClampNeg) := inb_of Sz34 ⟨by decide, by decide⟩
  obtain ⟨T35, h35, X35, e35, W35, st35⟩ := stC X33 hx hZ e33 Ar34 (j := (0 : Int32)) hin34 (g := (mkF m 44 (lo0_3 p1 p2 p3 p4 p5 zC) [(.int ((p4 &&& (255 : Int32)).toUInt32.toUInt16.toUInt32.toInt32)), (.int (0 : Int32)), (.ref b33), (.ref b33)])) rfl rfl (hb hby at_44)
  replace S_COMPACT := S_COMPACT.wr W35
  replace Z0 := Nat.le_trans Z0 (Keep.of_wr W35).1
  replace hk := Nat.le_trans hk (Keep.of_wr W35).1
  have V_b33 : Arv Z h35 b33 k33 .char (2 : Int32) [(.int (((p4 &&& (255 : Int32)).toUInt32.toUInt16.toUInt32.toInt32).toUInt32.toUInt16.toUInt32.toInt32)), (.int (0 : Int32))] (.int (0 : Int32)) := Arv.set Ar34 q34 Sz34 Nn34 Hh34 Gg34 (fits_nar_char _) W35 0 rfl (Nat.le_of_ble_eq_true rfl)
  have N35 := Fr.snoc X35 N32 g_b33
  obtain ⟨cl36, Ar36, q36, Sz36, Nn36, Hh36, Gg36⟩ := V_b33
  have hin36 : ¬ ((1 : Int32) < 0 ∨ cl36.slots.size ≤ ((1 : Int32)).toNatClampNeg) := inb_of Sz36 ⟨by decide, by decide⟩
  obtain ⟨T37, h37, X37, e37, W37, st37⟩ := stC X35 hx hZ e35 Ar36 (j := (1 : Int32)) hin36 (g := (mkF m 56 (lo0_3 p1 p2 p3 p4 p5 zC) [(.int ((((p4.toUInt32 >>> ((8 : Int32) &&& 31).toUInt32).toInt32) &&& (255 : Int32)).toUInt32.toUInt16.toUInt32.toInt32)), (.int (1 : Int32)), (.ref b33), (.ref b33)])) rfl rfl (hb hby at_56)
  replace S_COMPACT := S_COMPACT.wr W37
  replace Z0 := Nat.le_trans Z0 (Keep.of_wr W37).1
  replace hk := Nat.le_trans hk (Keep.of_wr W37).1
  have V_b33 : Arv Z h37 b33 k33 .char (2 : Int32) [(.int (((p4 &&& (255 : Int32)).toUInt32.toUInt16.toUInt32.toInt32).toUInt32.toUInt16.toUInt32.toInt32)), (.int (((((p4.toUInt32 >>> ((8 : Int32) &&& 31).toUInt32).toInt32) &&& (255 : Int32)).toUInt32.toUInt16.toUInt32.toInt32).toUInt32.toUInt16.toUInt32.toInt32))] (.int (0 : Int32)) := Arv.set Ar36 q36 Sz36 Nn36 Hh36 Gg36 (fits_nar_char _) W37 1 rfl (Nat.le_of_ble_eq_true rfl)
  have N37 := Fr.snoc X37 N35 g_b33
  obtain ⟨T38, h38, k38, X38, e38, E38, A38, st38⟩ := newP X37 hx hZ (ww hw 0 rfl) e37 (g := (mkF m 60 (lo0_4 p1 p2 p3 p4 p5 zC b33) [(.int (2 : Int32))])) rfl (hb hby at_60) rfl (by decide) (cap := 2) (by decide) (by decide) (by decide) (by decide)
  obtain ⟨b38, g38⟩ : ∃ z, z = h37.size := ⟨_, rfl⟩
  rw [← g38] at A38 st38
  have g_b38 : n0 ≤ b38 := Nat.le_trans Z0 (Nat.le_of_eq g38.symm)
  have ne_b33_b38 : b33 ≠ b38 := Nat.ne_of_lt (Nat.lt_of_lt_of_le V_b33.lt (Nat.le_of_eq g38.symm))
  replace S_COMPACT := S_COMPACT.ext E38
  replace V_b33 := V_b33.ext E38
  replace Z0 := Nat.le_trans Z0 E38.1
  replace hk := Nat.le_trans hk E38.1
  have V_b38 : Arv Z h38 b38 k38 .char (2 : Int32) [(.int (0 : Int32)), (.int (0 : Int32))] (.int (0 : Int32)) := (Arv.new A38 (by decide)).pad (pad_rep [] (.int (0 : Int32)) 2)
  obtain ⟨cl39, Ar39, q39, Sz39, Nn39, Hh39, Gg39⟩ := V_b38
  have hin39 : ¬ ((0 : Int32) < 0 ∨ cl39.slots.size ≤ ((0 : Int32)).toNatClampNeg) := inb_of Sz39 ⟨by decide, by decide⟩
  obtain ⟨T40, h40, X40, e40, W40, st40⟩ := stC X38 hx hZ e38 Ar39 (j := (0 : Int32)) hin39 (g := (mkF m 71 (lo0_4 p1 p2 p3 p4 p5 zC b33) [(.int ((p5 &&& (255 : Int32)).toUInt32.toUInt16.toUInt32.toInt32)), (.int (0 : Int32)), (.ref b38), (.ref b38)])) rfl rfl (hb hby at_71)
  replace S_COMPACT := S_COMPACT.wr W40
  replace V_b33 := V_b33.other W40 ne_b33_b38
  replace Z0 := Nat.le_trans Z0 (Keep.of_wr W40).1
  replace hk := Nat.le_trans hk (Keep.of_wr W40).1
  have V_b38 : Arv Z h40 b38 k38 .char (2 : Int32) [(.int (((p5 &&& (255 : Int32)).toUInt32.toUInt16.toUInt32.toInt32).toUInt32.toUInt16.toUInt32.toInt32)), (.int (0 : Int32))] (.int (0 : Int32)) := Arv.set Ar39 q39 Sz39 Nn39 Hh39 Gg39 (fits_nar_char _) W40 0 rfl (Nat.le_of_ble_eq_true rfl)
  have N40 := Fr.snoc X40 N37 g_b38
  obtain ⟨cl41, Ar41, q41, Sz41, Nn41, Hh41, Gg41⟩ := V_b38
  have hin41 : ¬ ((1 : Int32) < 0 ∨ cl41.slots.size ≤ ((1 : Int32)).toNatClampNeg) := inb_of Sz41 ⟨by decide, by decide⟩
  obtain ⟨T42, h42, X42, e42, W42, st42⟩ := stC X40 hx hZ e40 Ar41 (j := (1 : Int32)) hin41 (g := (mkF m 84 (lo0_4 p1 p2 p3 p4 p5 zC b33) [(.int ((((p5.toUInt32 >>> ((8 : Int32) &&& 31).toUInt32).toInt32) &&& (255 : Int32)).toUInt32.toUInt16.toUInt32.toInt32)), (.int (1 : Int32)), (.ref b38), (.ref b38)])) rfl rfl (hb hby at_84)
  replace S_COMPACT := S_COMPACT.wr W42
  replace V_b33 := V_b33.other W42 ne_b33_b38
  replace Z0 := Nat.le_trans Z0 (Keep.of_wr W42).1
  replace hk := Nat.le_trans hk (Keep.of_wr W42).1
  have V_b38 : Arv Z h42 b38 k38 .char (2 : Int32) [(.int (((p5 &&& (255 : Int32)).toUInt32.toUInt16.toUInt32.toInt32).toUInt32.toUInt16.toUInt32.toInt32)), (.int (((((p5.toUInt32 >>> ((8 : Int32) &&& 31).toUInt32).toInt32) &&& (255 : Int32)).toUInt32.toUInt16.toUInt32.toInt32).toUInt32.toUInt16.toUInt32.toInt32))] (.int (0 : Int32)) := Arv.set Ar41 q41 Sz41 Nn41 Hh41 Gg41 (fits_nar_char _) W42 1 rfl (Nat.le_of_ble_eq_true rfl)
  have N42 := Fr.snoc X42 N40 g_b38
  obtain ⟨T43, h43, X43, e43, E43, A43, D43, -, st43⟩ := newO X42 hx hZ hown (ww hw 1 rfl) (ww hw 2 rfl) (ww hw 3 rfl) e42 (g := (mkF m 87 (lo0_5 p1 p2 p3 p4 p5 zC b33 b38) [])) rfl (hb hby at_87) (by decide) (by decide)
  obtain ⟨b43, g43⟩ : ∃ z, z = h42.size := ⟨_, rfl⟩
  rw [← g43] at A43 D43 st43
  have g_b43 : n0 ≤ b43 := Nat.le_trans Z0 (Nat.le_of_eq g43.symm)
  have ne_b33_b43 : b33 ≠ b43 := Nat.ne_of_lt (Nat.lt_of_lt_of_le V_b33.lt (Nat.le_of_eq g43.symm))
  have ne_b38_b43 : b38 ≠ b43 := Nat.ne_of_lt (Nat.lt_of_lt_of_le V_b38.lt (Nat.le_of_eq g43.symm))
  replace S_COMPACT := S_COMPACT.ext E43
  replace V_b33 := V_b33.ext E43
  replace V_b38 := V_b38.ext E43
  replace Z0 := Nat.le_trans Z0 E43.1
  replace hk := Nat.le_trans hk E43.1
  have E_b43 := A43
  have F_description_b43 : Fld Z h43 b43 "com/example/hoconut/hoconut/value/Origin" "description" "Ljava/lang/String;" .null := D43 (Or.inr (ww hw 43 rfl)) (ty := (.object "java/lang/String")) (by decide)
  have F_line_b43 : Fld Z h43 b43 "com/example/hoconut/hoconut/value/Origin" "line" "I" (.int (0 : Int32)) := D43 (Or.inr (ww hw 45 rfl)) (ty := .int) (by decide)
  obtain ⟨T44, h44, X44, e44, E44, A44, D44, -, st44⟩ := newO X43 hx hZ hown (ww hw 4 rfl) (ww hw 5 rfl) (ww hw 6 rfl) e43 (g := (mkF m 91 (lo0_5 p1 p2 p3 p4 p5 zC b33 b38) [(.ref b43), (.ref b43)])) rfl (hb hby at_91) (by decide) (by decide)
  obtain ⟨b44, g44⟩ : ∃ z, z = h43.size := ⟨_, rfl⟩
  rw [← g44] at A44 D44 st44
  have g_b44 : n0 ≤ b44 := Nat.le_trans Z0 (Nat.le_of_eq g44.symm)
  have ne_b33_b44 : b33 ≠ b44 := Nat.ne_of_lt (Nat.lt_of_lt_of_le V_b33.lt (Nat.le_of_eq g44.symm))
  have ne_b38_b44 : b38 ≠ b44 := Nat.ne_of_lt (Nat.lt_of_lt_of_le V_b38.lt (Nat.le_of_eq g44.symm))
  have ne_b43_b44 : b43 ≠ b44 := Nat.ne_of_lt (Nat.lt_of_lt_of_le E_b43.lt (Nat.le_of_eq g44.symm))
  replace S_COMPACT := S_COMPACT.ext E44
  replace V_b33 := V_b33.ext E44
  replace V_b38 := V_b38.ext E44
  replace E_b43 := E_b43.ext E44
  replace F_description_b43 := F_description_b43.ext E44
  replace F_line_b43 := F_line_b43.ext E44
  replace Z0 := Nat.le_trans Z0 E44.1
  replace hk := Nat.le_trans hk E44.1
  have E_b44 := A44
  have F_coder_b44 : Fld Z h44 b44 "java/lang/String" "coder" "B" (.int (0 : Int32)) := D44 (Or.inr (ww hw 30 rfl)) (ty := .byte) (by decide)
  have F_value_b44 : Fld Z h44 b44 "java/lang/String" "value" "[B" .null := D44 (Or.inr (ww hw 32 rfl)) (ty := (.array .byte)) (by decide)
  obtain ⟨_, _, ⟨T45, L45, k45, n45⟩, -, X45, ⟨Lc45, hQ45, l45, y45, z45⟩, st45⟩ := X44.specialBack hx (y := mn6) rfl hown (mvT hZ (ww hw 7 rfl)) (mvT hZ (ww hw 8 rfl)) (mvT hZ (ww hw 9 rfl)) (by decide) (StrChars.Road.backV (W := 3) hZ hws (kI := 4) (ww hw 5 rfl) (cs := ([(((p4 &&& (255 : Int32)).toUInt32.toUInt16.toUInt32.toInt32).toUInt32.toUInt16.toUInt32.toInt32), (((((p4.toUInt32 >>> ((8 : Int32) &&& 31).toUInt32).toInt32) &&& (255 : Int32)).toUInt32.toUInt16.toUInt32.toInt32).toUInt32.toUInt16.toUInt32.toInt32)] : List Int32)) (bs := (([(((p4 &&& (255 : Int32)).toUInt32.toUInt16.toUInt32.toInt32).toUInt32.toUInt16.toUInt32.toInt32), (((((p4.toUInt32 >>> ((8 : Int32) &&& 31).toUInt32).toInt32) &&& (255 : Int32)).toUInt32.toUInt16.toUInt32.toInt32).toUInt32.toUInt16.toUInt32.toInt32)] : List Int32)).map (fun c => c.toInt8.toInt32)) (n := 2) g_b44 Z0 E_b44 F_value_b44 F_coder_b44 V_b33 S_COMPACT hz rfl rfl (by decide) (by decide) (own_chars _ _) rfl (by decide) (by decide)) (g := (mkF m 97 (lo0_5 p1 p2 p3 p4 p5 zC b33 b38) [(.ref b33), (.ref b44), (.ref b44), (.ref b43), (.ref b43)])) rfl (by rw [hml]; rfl) (Steps.refl _) (a := b44) (argsL := [(.ref b33)]) (rest := [(.ref b44), (.ref b43), (.ref b43)]) (lenOf pd_2 rfl) rfl (by show 2 * 0 + _ ≤ _; exact Nat.le_of_eq rfl) (hb hby at_97) (fun _ _ => ⟨rfl, e44, (by decide : 4 + 1 ≤ _), (by decide : 10 + 2 ≤ _)⟩)
  dsimp only [Pt.U, Pt.locs, Pt.cells, Pt.slots] at X45 l45 y45 z45 st45 hQ45
  subst l45 y45 z45
  obtain ⟨h45, e45⟩ : ∃ z, T45.heap = z := ⟨_, rfl⟩
  rw [e45] at hQ45
  obtain ⟨rfl, N45q, K45, -⟩ := hQ45
  replace S_COMPACT := own_stakeep S_COMPACT K45 (nsS (Exa.nostat E_b44) ns0)
  replace V_b33 := V_b33.keep K45 (ninS ne_b33_b44 nin0)
  replace V_b38 := V_b38.keep K45 (ninS ne_b38_b44 nin0)
  replace E_b43 := E_b43.keep K45
  replace F_description_b43 := F_description_b43.keep K45 (ninS ne_b43_b44 nin0)
  replace F_line_b43 := F_line_b43.keep K45 (ninS ne_b43_b44 nin0)
  replace E_b44 := E_b44.keep K45
  replace Z0 := Nat.le_trans Z0 K45.1
  replace hk := Nat.le_trans hk K45.1
  have N45 := Fr.app N42 N45q
  obtain ⟨_, _, ⟨T46, L46, k46, n46⟩, -, X46, ⟨Lc46, hQ46, l46, y46, z46⟩, st46⟩ := X45.specialBack hx (y := mn2) rfl hown (mvT hZ (ww hw 33 rfl)) (mvT hZ (ww hw 34 rfl)) (mvT hZ (ww hw 35 rfl)) (by decide) (backOf (W := 1) (rm7 l Z a0 hw [] b43 b44 p2 h45 n0 Z0 E_b43 F_description_b43 F_line_b43 g_b43) hZ (ww hw 35 rfl) (ww hw 3 rfl) (by decide) (by decide)) (g := (mkF m 101 (lo0_5 p1 p2 p3 p4 p5 zC b33 b38) [(.int p2), (.ref b44), (.ref b43), (.ref b43)])) rfl (by rw [hml]; rfl) (Steps.refl _) (a := b43) (argsL := [(.ref b44), (.int p2)]) (rest := [(.ref b43)]) (lenOf pd_3 rfl) rfl (by show 2 * 0 + _ ≤ _; exact Nat.le_of_eq rfl) (hb hby at_101) (fun _ _ => ⟨rfl, e45, (by decide : 5 + 0 ≤ _), (by decide : 12 + 0 ≤ _)⟩)
  dsimp only [Pt.U, Pt.locs, Pt.cells, Pt.slots] at X46 l46 y46 z46 st46 hQ46
  subst l46 y46 z46
  obtain ⟨h46, e46⟩ : ∃ z, T46.heap = z := ⟨_, rfl⟩
  rw [e46] at hQ46
  obtain ⟨rfl, N46q, K46, G46_0, G46_1⟩ := hQ46
  replace S_COMPACT := own_stakeep S_COMPACT K46 (nsS (Exa.nostat E_b43) ns0)
  replace V_b33 := V_b33.keep K46 (ninS ne_b33_b43 nin0)
  replace V_b38 := V_b38.keep K46 (ninS ne_b38_b43 nin0)
  replace E_b43 := E_b43.keep K46
  replace E_b44 := E_b44.keep K46
  replace Z0 := Nat.le_trans Z0 K46.1
  replace hk := Nat.le_trans hk K46.1
  have F_description_b43 : Fld Z h46 b43 "com/example/hoconut/hoconut/value/Origin" "description" "Ljava/lang/String;" (.ref b44) := G46_0
  have F_line_b43 : Fld Z h46 b43 "com/example/hoconut/hoconut/value/Origin" "line" "I" (.int p2) := G46_1
  have N46 := Fr.app N45 N46q
  obtain ⟨T47, h47, X47, e47, E47, A47, D47, -, st47⟩ := newO X46 hx hZ hown (ww hw 1 rfl) (ww hw 2 rfl) (ww hw 3 rfl) e46 (g := (mkF m 106 (lo0_6 p1 p2 p3 p4 p5 zC b33 b38 b43) [])) rfl (hb hby at_106) (by decide) (by decide)
  obtain ⟨b47, g47⟩ : ∃ z, z = h46.size := ⟨_, rfl⟩
  rw [← g47] at A47 D47 st47
  have g_b47 : n0 ≤ b47 := Nat.le_trans Z0 (Nat.le_of_eq g47.symm)
  have ne_b33_b47 : b33 ≠ b47 := Nat.ne_of_lt (Nat.lt_of_lt_of_le V_b33.lt (Nat.le_of_eq g47.symm))
  have ne_b38_b47 : b38 ≠ b47 := Nat.ne_of_lt (Nat.lt_of_lt_of_le V_b38.lt (Nat.le_of_eq g47.symm))
  have ne_b43_b47 : b43 ≠ b47 := Nat.ne_of_lt (Nat.lt_of_lt_of_le E_b43.lt (Nat.le_of_eq g47.symm))
  have ne_b44_b47 : b44 ≠ b47 := Nat.ne_of_lt (Nat.lt_of_lt_of_le E_b44.lt (Nat.le_of_eq g47.symm))
  replace S_COMPACT := S_COMPACT.ext E47
  replace V_b33 := V_b33.ext E47
  replace V_b38 := V_b38.ext E47
  replace E_b43 := E_b43.ext E47
  replace E_b44 := E_b44.ext E47
  replace F_description_b43 := F_description_b43.ext E47
  replace F_line_b43 := F_line_b43.ext E47
  replace Z0 := Nat.le_trans Z0 E47.1
  replace hk := Nat.le_trans hk E47.1
  have E_b47 := A47
  have F_description_b47 : Fld Z h47 b47 "com/example/hoconut/hoconut/value/Origin" "description" "Ljava/lang/String;" .null := D47 (Or.inr (ww hw 43 rfl)) (ty := (.object "java/lang/String")) (by decide)
  have F_line_b47 : Fld Z h47 b47 "com/example/hoconut/hoconut/value/Origin" "line" "I" (.int (0 : Int32)) := D47 (Or.inr (ww hw 45 rfl)) (ty := .int) (by decide)
  obtain ⟨T48, h48, X48, e48, E48, A48, D48, -, st48⟩ := newO X47 hx hZ hown (ww hw 4 rfl) (ww hw 5 rfl) (ww hw 6 rfl) e47 (g := (mkF m 110 (lo0_6 p1 p2 p3 p4 p5 zC b33 b38 b43) [(.ref b47), (.ref b47)])) rfl (hb hby at_110) (by decide) (by decide)
  obtain ⟨b48, g48⟩ : ∃ z, z = h47.size := ⟨_, rfl⟩
  rw [← g48] at A48 D48 st48
  have g_b48 : n0 ≤ b48 := Nat.le_trans Z0 (Nat.le_of_eq g48.symm)
  have ne_b33_b48 : b33 ≠ b48 := Nat.ne_of_lt (Nat.lt_of_lt_of_le V_b33.lt (Nat.le_of_eq g48.symm))
  have ne_b38_b48 : b38 ≠ b48 := Nat.ne_of_lt (Nat.lt_of_lt_of_le V_b38.lt (Nat.le_of_eq g48.symm))
  have ne_b43_b48 : b43 ≠ b48 := Nat.ne_of_lt (Nat.lt_of_lt_of_le E_b43.lt (Nat.le_of_eq g48.symm))
  have ne_b44_b48 : b44 ≠ b48 := Nat.ne_of_lt (Nat.lt_of_lt_of_le E_b44.lt (Nat.le_of_eq g48.symm))
  have ne_b47_b48 : b47 ≠ b48 := Nat.ne_of_lt (Nat.lt_of_lt_of_le E_b47.lt (Nat.le_of_eq g48.symm))
  replace S_COMPACT := S_COMPACT.ext E48
  replace V_b33 := V_b33.ext E48
  replace V_b38 := V_b38.ext E48
  replace E_b43 := E_b43.ext E48
  replace E_b44 := E_b44.ext E48
  replace F_description_b43 := F_description_b43.ext E48
  replace F_line_b43 := F_line_b43.ext E48
  replace E_b47 := E_b47.ext E48
  replace F_description_b47 := F_description_b47.ext E48
  replace F_line_b47 := F_line_b47.ext E48
  replace Z0 := Nat.le_trans Z0 E48.1
  replace hk := Nat.le_trans hk E48.1
  have E_b48 := A48
  have F_coder_b48 : Fld Z h48 b48 "java/lang/String" "coder" "B" (.int (0 : Int32)) := D48 (Or.inr (ww hw 30 rfl)) (ty := .byte) (by decide)
  have F_value_b48 : Fld Z h48 b48 "java/lang/String" "value" "[B" .null := D48 (Or.inr (ww hw 32 rfl)) (ty := (.array .byte)) (by decide)
  obtain ⟨_, _, ⟨T49, L49, k49, n49⟩, -, X49, ⟨Lc49, hQ49, l49, y49, z49⟩, st49⟩ := X48.specialBack hx (y := mn6) rfl hown (mvT hZ (ww hw 7 rfl)) (mvT hZ (ww hw 8 rfl)) (mvT hZ (ww hw 9 rfl)) (by decide) (StrChars.Road.backV (W := 3) hZ hws (kI := 4) (ww hw 5 rfl) (cs := ([(((p5 &&& (255 : Int32)).toUInt32.toUInt16.toUInt32.toInt32).toUInt32.toUInt16.toUInt32.toInt32), (((((p5.toUInt32 >>> ((8 : Int32) &&& 31).toUInt32).toInt32) &&& (255 : Int32)).toUInt32.toUInt16.toUInt32.toInt32).toUInt32.toUInt16.toUInt32.toInt32)] : List Int32)) (bs := (([(((p5 &&& (255 : Int32)).toUInt32.toUInt16.toUInt32.toInt32).toUInt32.toUInt16.toUInt32.toInt32), (((((p5.toUInt32 >>> ((8 : Int32) &&& 31).toUInt32).toInt32) &&& (255 : Int32)).toUInt32.toUInt16.toUInt32.toInt32).toUInt32.toUInt16.toUInt32.toInt32)] : List Int32)).map (fun c => c.toInt8.toInt32)) (n := 2) g_b48 Z0 E_b48 F_value_b48 F_coder_b48 V_b38 S_COMPACT hz rfl rfl (by decide) (by decide) (own_chars _ _) rfl (by decide) (by decide)) (g := (mkF m 116 (lo0_6 p1 p2 p3 p4 p5 zC b33 b38 b43) [(.ref b38), (.ref b48), (.ref b48), (.ref b47), (.ref b47)])) rfl (by rw [hml]; rfl) (Steps.refl _) (a := b48) (argsL := [(.ref b38)]) (rest := [(.ref b48), (.ref b47), (.ref b47)]) (lenOf pd_2 rfl) rfl (by show 2 * 0 + _ ≤ _; exact Nat.le_of_eq rfl) (hb hby at_116) (fun _ _ => ⟨rfl, e48, (by decide : 7 + 1 ≤ _), (by decide : 18 + 2 ≤ _)⟩)
  dsimp only [Pt.U, Pt.locs, Pt.cells, Pt.slots] at X49 l49 y49 z49 st49 hQ49
  subst l49 y49 z49
  obtain ⟨h49, e49⟩ : ∃ z, T49.heap = z := ⟨_, rfl⟩
  rw [e49] at hQ49
  obtain ⟨rfl, N49q, K49, -⟩ := hQ49
  replace S_COMPACT := own_stakeep S_COMPACT K49 (nsS (Exa.nostat E_b48) ns0)
  replace V_b33 := V_b33.keep K49 (ninS ne_b33_b48 nin0)
  replace V_b38 := V_b38.keep K49 (ninS ne_b38_b48 nin0)
  replace E_b43 := E_b43.keep K49
  replace E_b44 := E_b44.keep K49
  replace F_description_b43 := F_description_b43.keep K49 (ninS ne_b43_b48 nin0)
  replace F_line_b43 := F_line_b43.keep K49 (ninS ne_b43_b48 nin0)
  replace E_b47 := E_b47.keep K49
  replace F_description_b47 := F_description_b47.keep K49 (ninS ne_b47_b48 nin0)
  replace F_line_b47 := F_line_b47.keep K49 (ninS ne_b47_b48 nin0)
  replace E_b48 := E_b48.keep K49
  replace Z0 := Nat.le_trans Z0 K49.1
  replace hk := Nat.le_trans hk K49.1
  have N49 := Fr.app N46 N49q
  obtain ⟨_, _, ⟨T50, L50, k50, n50⟩, -, X50, ⟨Lc50, hQ50, l50, y50, z50⟩, st50⟩ := X49.specialBack hx (y := mn2) rfl hown (mvT hZ (ww hw 33 rfl)) (mvT hZ (ww hw 34 rfl)) (mvT hZ (ww hw 35 rfl)) (by decide) (backOf (W := 1) (rm7 l Z a0 hw [] b47 b48 p3 h49 n0 Z0 E_b47 F_description_b47 F_line_b47 g_b47) hZ (ww hw 35 rfl) (ww hw 3 rfl) (by decide) (by decide)) (g := (mkF m 120 (lo0_6 p1 p2 p3 p4 p5 zC b33 b38 b43) [(.int p3), (.ref b48), (.ref b47), (.ref b47)])) rfl (by rw [hml]; rfl) (Steps.refl _) (a := b47) (argsL := [(.ref b48), (.int p3)]) (rest := [(.ref b47)]) (lenOf pd_3 rfl) rfl (by show 2 * 0 + _ ≤ _; exact Nat.le_of_eq rfl) (hb hby at_120) (fun _ _ => ⟨rfl, e49, (by decide : 8 + 0 ≤ _), (by decide : 20 + 0 ≤ _)⟩)
  dsimp only [Pt.U, Pt.locs, Pt.cells, Pt.slots] at X50 l50 y50 z50 st50 hQ50
  subst l50 y50 z50
  obtain ⟨h50, e50⟩ : ∃ z, T50.heap = z := ⟨_, rfl⟩
  rw [e50] at hQ50
  obtain ⟨rfl, N50q, K50, G50_0, G50_1⟩ := hQ50
  replace S_COMPACT := own_stakeep S_COMPACT K50 (nsS (Exa.nostat E_b47) ns0)
  replace V_b33 := V_b33.keep K50 (ninS ne_b33_b47 nin0)
  replace V_b38 := V_b38.keep K50 (ninS ne_b38_b47 nin0)
  replace E_b43 := E_b43.keep K50
  replace E_b44 := E_b44.keep K50
  replace F_description_b43 := F_description_b43.keep K50 (ninS ne_b43_b47 nin0)
  replace F_line_b43 := F_line_b43.keep K50 (ninS ne_b43_b47 nin0)
  replace E_b47 := E_b47.keep K50
  replace E_b48 := E_b48.keep K50
  replace Z0 := Nat.le_trans Z0 K50.1
  replace hk := Nat.le_trans hk K50.1
  have F_description_b47 : Fld Z h50 b47 "com/example/hoconut/hoconut/value/Origin" "description" "Ljava/lang/String;" (.ref b48) := G50_0
  have F_line_b47 : Fld Z h50 b47 "com/example/hoconut/hoconut/value/Origin" "line" "I" (.int p3) := G50_1
  have N50 := Fr.app N49 N50q
  obtain ⟨T51, h51, X51, e51, E51, A51, D51, -, st51⟩ := newO X50 hx hZ hown (ww hw 46 rfl) (ww hw 47 rfl) (ww hw 48 rfl) e50 (g := (mkF m 125 (lo0_7 p1 p2 p3 p4 p5 zC b33 b38 b43 b47) [])) rfl (hb hby at_125) (by decide) (by decide)
  obtain ⟨b51, g51⟩ : ∃ z, z = h50.size := ⟨_, rfl⟩
  rw [← g51] at A51 D51 st51
  have g_b51 : n0 ≤ b51 := Nat.le_trans Z0 (Nat.le_of_eq g51.symm)
  have ne_b33_b51 : b33 ≠ b51 := Nat.ne_of_lt (Nat.lt_of_lt_of_le V_b33.lt (Nat.le_of_eq g51.symm))
  have ne_b38_b51 : b38 ≠ b51 := Nat.ne_of_lt (Nat.lt_of_lt_of_le V_b38.lt (Nat.le_of_eq g51.symm))
  have ne_b43_b51 : b43 ≠ b51 := Nat.ne_of_lt (Nat.lt_of_lt_of_le E_b43.lt (Nat.le_of_eq g51.symm))
  have ne_b44_b51 : b44 ≠ b51 := Nat.ne_of_lt (Nat.lt_of_lt_of_le E_b44.lt (Nat.le_of_eq g51.symm))
  have ne_b47_b51 : b47 ≠ b51 := Nat.ne_of_lt (Nat.lt_of_lt_of_le E_b47.lt (Nat.le_of_eq g51.symm))
  have ne_b48_b51 : b48 ≠ b51 := Nat.ne_of_lt (Nat.lt_of_lt_of_le E_b48.lt (Nat.le_of_eq g51.symm))
  replace S_COMPACT := S_COMPACT.ext E51
  replace V_b33 := V_b33.ext E51
  replace V_b38 := V_b38.ext E51
  replace E_b43 := E_b43.ext E51
  replace E_b44 := E_b44.ext E51
  replace F_description_b43 := F_description_b43.ext E51
  replace F_line_b43 := F_line_b43.ext E51
  replace E_b47 := E_b47.ext E51
  replace E_b48 := E_b48.ext E51
  replace F_description_b47 := F_description_b47.ext E51
  replace F_line_b47 := F_line_b47.ext E51
  replace Z0 := Nat.le_trans Z0 E51.1
  replace hk := Nat.le_trans hk E51.1
  have E_b51 := A51
  have F_value_b51 : Fld Z h51 b51 "com/example/hoconut/hoconut/value/ConfigBoolean" "value" "Z" (.int (0 : Int32)) := D51 (Or.inr (ww hw 54 rfl)) (ty := .boolean) (by decide)
  have F_origin_b51 : Fld Z h51 b51 "com/example/hoconut/hoconut/value/ConfigBoolean" "origin" "Lcom/example/hoconut/hoconut/value/Origin;" .null := D51 (Or.inr (ww hw 65 rfl)) (ty := (.object "com/example/hoconut/hoconut/value/Origin")) (by decide)
  obtain ⟨_, _, ⟨T52, L52, k52, n52⟩, -, X52, hS52, hg52, ⟨Lc52, hQ52, l52, y52, z52⟩, st52⟩ := X51.specialBackS hx (y := mn3) rfl hown (mvT hZ (ww hw 49 rfl)) (mvT hZ (ww hw 50 rfl)) (mvT hZ (ww hw 51 rfl)) (by decide) (backOfS (W := 1) (rm9 l Z a0 hw [] b51 (mg0_3a p1 p2 p3 p4 p5 zC) b43 h51 n0 Z0 E_b51 F_value_b51 F_origin_b51 E_b43 g_b51) hZ (ww hw 51 rfl) (ww hw 48 rfl) (by decide) (by decide)) (g := (mkF m 133 (lo0_7 p1 p2 p3 p4 p5 zC b33 b38 b43 b47) [(.ref b43), (.int (mg0_3a p1 p2 p3 p4 p5 zC)), (.ref b51), (.ref b51)])) rfl (by rw [hml]; rfl) (Steps.refl _) (a := b51) (argsL := [(.int (mg0_3a p1 p2 p3 p4 p5 zC)), (.ref b43)]) (rest := [(.ref b51)]) (lenOf pd_4 rfl) rfl (by show 2 * 0 + _ ≤ _; exact Nat.le_of_eq rfl) (hb hby at_133) (fun _ _ => ⟨rfl, e51, (by decide : 9 + 2 ≤ _), (by decide : 22 + 28 ≤ _)⟩)
  dsimp only [Pt.U, Pt.locs, Pt.cells, Pt.slots] at X52 l52 y52 z52 st52 hQ52 hS52 hg52
  subst l52 y52 z52
  obtain ⟨X52, hS, hZ, hown⟩ := rebS hS (by rw [e51]; exact hk) X52 hS52 hg52 hZ hown
  obtain ⟨h52, e52⟩ : ∃ z, T52.heap = z := ⟨_, rfl⟩
  rw [e52] at hQ52
  obtain ⟨rfl, N52q, K52, G52_0⟩ := hQ52
  replace S_COMPACT := own_stakeep S_COMPACT K52 (nsS (Exa.nostat E_b51) ns0)
  replace V_b33 := V_b33.keep K52 (ninS ne_b33_b51 nin0)
  replace V_b38 := V_b38.keep K52 (ninS ne_b38_b51 nin0)
  replace E_b43 := E_b43.keep K52
  replace E_b44 := E_b44.keep K52
  replace F_description_b43 := F_description_b43.keep K52 (ninS ne_b43_b51 nin0)
  replace F_line_b43 := F_line_b43.keep K52 (ninS ne_b43_b51 nin0)
  replace E_b47 := E_b47.keep K52
  replace E_b48 := E_b48.keep K52
  replace F_description_b47 := F_description_b47.keep K52 (ninS ne_b47_b51 nin0)
  replace F_line_b47 := F_line_b47.keep K52 (ninS ne_b47_b51 nin0)
  replace E_b51 := E_b51.keep K52
  replace Z0 := Nat.le_trans Z0 K52.1
  replace hk := Nat.le_trans hk K52.1
  have F_value_b51 : Fld Z h52 b51 "com/example/hoconut/hoconut/value/ConfigBoolean" "value" "Z" (.int ((mg0_3a p1 p2 p3 p4 p5 zC) &&& 1)) := G52_0
  have hk : T52.heap.size ≤ h52.size := Nat.le_of_eq (by rw [e52])
  have N52 := Fr.app N50 N52q
  obtain ⟨T53, h53, X53, e53, E53, A53, D53, -, st53⟩ := newO X52 hx hZ hown (ww hw 46 rfl) (ww hw 47 rfl) (ww hw 48 rfl) e52 (g := (mkF m 138 (lo0_8 p1 p2 p3 p4 p5 zC b33 b38 b43 b47 b51) [])) rfl (hb hby at_138) (by decide) (by decide)
  obtain ⟨b53, g53⟩ : ∃ z, z = h52.size := ⟨_, rfl⟩
  rw [← g53] at A53 D53 st53
  have g_b53 : n0 ≤ b53 := Nat.le_trans Z0 (Nat.le_of_eq g53.symm)
  have ne_b33_b53 : b33 ≠ b53 := Nat.ne_of_lt (Nat.lt_of_lt_of_le V_b33.lt (Nat.le_of_eq g53.symm))
  have ne_b38_b53 : b38 ≠ b53 := Nat.ne_of_lt (Nat.lt_of_lt_of_le V_b38.lt (Nat.le_of_eq g53.symm))
  have ne_b43_b53 : b43 ≠ b53 := Nat.ne_of_lt (Nat.lt_of_lt_of_le E_b43.lt (Nat.le_of_eq g53.symm))
  have ne_b44_b53 : b44 ≠ b53 := Nat.ne_of_lt (Nat.lt_of_lt_of_le E_b44.lt (Nat.le_of_eq g53.symm))
  have ne_b47_b53 : b47 ≠ b53 := Nat.ne_of_lt (Nat.lt_of_lt_of_le E_b47.lt (Nat.le_of_eq g53.symm))
  have ne_b48_b53 : b48 ≠ b53 := Nat.ne_of_lt (Nat.lt_of_lt_of_le E_b48.lt (Nat.le_of_eq g53.symm))
  have ne_b51_b53 : b51 ≠ b53 := Nat.ne_of_lt (Nat.lt_of_lt_of_le E_b51.lt (Nat.le_of_eq g53.symm))
  replace S_COMPACT := S_COMPACT.ext E53
  replace V_b33 := V_b33.ext E53
  replace V_b38 := V_b38.ext E53
  replace E_b43 := E_b43.ext E53
  replace E_b44 := E_b44.ext E53
  replace F_description_b43 := F_description_b43.ext E53
  replace F_line_b43 := F_line_b43.ext E53
  replace E_b47 := E_b47.ext E53
  replace E_b48 := E_b48.ext E53
  replace F_description_b47 := F_description_b47.ext E53
  replace F_line_b47 := F_line_b47.ext E53
  replace E_b51 := E_b51.ext E53
  replace F_value_b51 := F_value_b51.ext E53
  replace Z0 := Nat.le_trans Z0 E53.1
  replace hk := Nat.le_trans hk E53.1
  have E_b53 := A53
  have F_value_b53 : Fld Z h53 b53 "com/example/hoconut/hoconut/value/ConfigBoolean" "value" "Z" (.int (0 : Int32)) := D53 (Or.inr (ww hw 54 rfl)) (ty := .boolean) (by decide)
  have F_origin_b53 : Fld Z h53 b53 "com/example/hoconut/hoconut/value/ConfigBoolean" "origin" "Lcom/example/hoconut/hoconut/value/Origin;" .null := D53 (Or.inr (ww hw 65 rfl)) (ty := (.object "com/example/hoconut/hoconut/value/Origin")) (by decide)
  obtain ⟨_, _, ⟨T54, L54, k54, n54⟩, -, X54, hS54, hg54, ⟨Lc54, hQ54, l54, y54, z54⟩, st54⟩ := X53.specialBackS hx (y := mn3) rfl hown (mvT hZ (ww hw 49 rfl)) (mvT hZ (ww hw 50 rfl)) (mvT hZ (ww hw 51 rfl)) (by decide) (backOfS (W := 1) (rm9 l Z a0 hw [] b53 (mg0_16a p1 p2 p3 p4 p5 zC) b47 h53 n0 Z0 E_b53 F_value_b53 F_origin_b53 E_b47 g_b53) hZ (ww hw 51 rfl) (ww hw 48 rfl) (by decide) (by decide)) (g := (mkF m 146 (lo0_8 p1 p2 p3 p4 p5 zC b33 b38 b43 b47 b51) [(.ref b47), (.int (mg0_16a p1 p2 p3 p4 p5 zC)), (.ref b53), (.ref b53)])) rfl (by rw [hml]; rfl) (Steps.refl _) (a := b53) (argsL := [(.int (mg0_16a p1 p2 p3 p4 p5 zC)), (.ref b47)]) (rest := [(.ref b53)]) (lenOf pd_4 rfl) rfl (by show 2 * 0 + _ ≤ _; exact Nat.le_of_eq rfl) (hb hby at_146) (fun _ _ => ⟨rfl, e53, (by decide : 12 + 2 ≤ _), (by decide : 52 + 28 ≤ _)⟩)
  dsimp only [Pt.U, Pt.locs, Pt.cells, Pt.slots] at X54 l54 y54 z54 st54 hQ54 hS54 hg54
  subst l54 y54 z54
  obtain ⟨X54, hS, hZ, hown⟩ := rebS hS (by rw [e53]; exact hk) X54 hS54 hg54 hZ hown
  obtain ⟨h54, e54⟩ : ∃ z, T54.heap = z := ⟨_, rfl⟩
  rw [e54] at hQ54
  obtain ⟨rfl, N54q, K54, G54_0⟩ := hQ54
  replace S_COMPACT := own_stakeep S_COMPACT K54 (nsS (Exa.nostat E_b53) ns0)
  replace V_b33 := V_b33.keep K54 (ninS ne_b33_b53 nin0)
  replace V_b38 := V_b38.keep K54 (ninS ne_b38_b53 nin0)
  replace E_b43 := E_b43.keep K54
  replace E_b44 := E_b44.keep K54
  replace F_description_b43 := F_description_b43.keep K54 (ninS ne_b43_b53 nin0)
  replace F_line_b43 := F_line_b43.keep K54 (ninS ne_b43_b53 nin0)
  replace E_b47 := E_b47.keep K54
  replace E_b48 := E_b48.keep K54
  replace F_description_b47 := F_description_b47.keep K54 (ninS ne_b47_b53 nin0)
  replace F_line_b47 := F_line_b47.keep K54 (ninS ne_b47_b53 nin0)
  replace E_b51 := E_b51.keep K54
  replace F_value_b51 := F_value_b51.keep K54 (ninS ne_b51_b53 nin0)
  replace E_b53 := E_b53.keep K54
  replace Z0 := Nat.le_trans Z0 K54.1
  replace hk := Nat.le_trans hk K54.1
  have F_value_b53 : Fld Z h54 b53 "com/example/hoconut/hoconut/value/ConfigBoolean" "value" "Z" (.int ((mg0_16a p1 p2 p3 p4 p5 zC) &&& 1)) := G54_0
  have hk : T54.heap.size ≤ h54.size := Nat.le_of_eq (by rw [e54])
  have N54 := Fr.app N52 N54q
  obtain ⟨T55, h55, X55, e55, E55, A55, D55, -, st55⟩ := newO X54 hx hZ hown (ww hw 66 rfl) (ww hw 67 rfl) (ww hw 68 rfl) e54 (g := (mkF m 151 (lo0_9 p1 p2 p3 p4 p5 zC b33 b38 b43 b47 b51 b53) [])) rfl (hb hby at_151) (by decide) (by decide)
  obtain ⟨b55, g55⟩ : ∃ z, z = h54.size := ⟨_, rfl⟩
  rw [← g55] at A55 D55 st55
  have g_b55 : n0 ≤ b55 := Nat.le_trans Z0 (Nat.le_of_eq g55.symm)
  have ne_b33_b55 : b33 ≠ b55 := Nat.ne_of_lt (Nat.lt_of_lt_of_le V_b33.lt (Nat.le_of_eq g55.symm))
  have ne_b38_b55 : b38 ≠ b55 := Nat.ne_of_lt (Nat.lt_of_lt_of_le V_b38.lt (Nat.le_of_eq g55.symm))
  have ne_b43_b55 : b43 ≠ b55 := Nat.ne_of_lt (Nat.lt_of_lt_of_le E_b43.lt (Nat.le_of_eq g55.symm))
  have ne_b44_b55 : b44 ≠ b55 := Nat.ne_of_lt (Nat.lt_of_lt_of_le E_b44.lt (Nat.le_of_eq g55.symm))
  have ne_b47_b55 : b47 ≠ b55 := Nat.ne_of_lt (Nat.lt_of_lt_of_le E_b47.lt (Nat.le_of_eq g55.symm))
  have ne_b48_b55 : b48 ≠ b55 := Nat.ne_of_lt (Nat.lt_of_lt_of_le E_b48.lt (Nat.le_of_eq g55.symm))
  have ne_b51_b55 : b51 ≠ b55 := Nat.ne_of_lt (Nat.lt_of_lt_of_le E_b51.lt (Nat.le_of_eq g55.symm))
  have ne_b53_b55 : b53 ≠ b55 := Nat.ne_of_lt (Nat.lt_of_lt_of_le E_b53.lt (Nat.le_of_eq g55.symm))
  replace S_COMPACT := S_COMPACT.ext E55
  replace V_b33 := V_b33.ext E55
  replace V_b38 := V_b38.ext E55
  replace E_b43 := E_b43.ext E55
  replace E_b44 := E_b44.ext E55
  replace F_description_b43 := F_description_b43.ext E55
  replace F_line_b43 := F_line_b43.ext E55
  replace E_b47 := E_b47.ext E55
  replace E_b48 := E_b48.ext E55
  replace F_description_b47 := F_description_b47.ext E55
  replace F_line_b47 := F_line_b47.ext E55
  replace E_b51 := E_b51.ext E55
  replace F_value_b51 := F_value_b51.ext E55
  replace E_b53 := E_b53.ext E55
  replace F_value_b53 := F_value_b53.ext E55
  replace Z0 := Nat.le_trans Z0 E55.1
  replace hk := Nat.le_trans hk E55.1
  have E_b55 := A55
  have F_origin_b55 : Fld Z h55 b55 "com/example/hoconut/hoconut/value/ConfigNull" "origin" "Lcom/example/hoconut/hoconut/value/Origin;" .null := D55 (Or.inr (ww hw 77 rfl)) (ty := (.object "com/example/hoconut/hoconut/value/Origin")) (by decide)
  obtain ⟨_, _, ⟨T56, L56, k56, n56⟩, -, X56, hS56, hg56, ⟨Lc56, hQ56, l56, y56, z56⟩, st56⟩ := X55.specialBackS hx (y := mn4) rfl hown (mvT hZ (ww hw 69 rfl)) (mvT hZ (ww hw 70 rfl)) (mvT hZ (ww hw 71 rfl)) (by decide) (backOfS (W := 1) (rm11 l Z a0 hw [] b55 b47 h55 n0 Z0 E_b55 F_origin_b55 E_b47 g_b55) hZ (ww hw 71 rfl) (ww hw 68 rfl) (by decide) (by decide)) (g := (mkF m 157 (lo0_9 p1 p2 p3 p4 p5 zC b33 b38 b43 b47 b51 b53) [(.ref b47), (.ref b55), (.ref b55)])) rfl (by rw [hml]; rfl) (Steps.refl _) (a := b55) (argsL := [(.ref b47)]) (rest := [(.ref b55)]) (lenOf pd_5 rfl) rfl (by show 2 * 0 + _ ≤ _; exact Nat.le_of_eq rfl) (hb hby at_157) (fun _ _ => ⟨rfl, e55, (by decide : 15 + 2 ≤ _), (by decide : 81 + 28 ≤ _)⟩)
  dsimp only [Pt.U, Pt.locs, Pt.cells, Pt.slots] at X56 l56 y56 z56 st56 hQ56 hS56 hg56
  subst l56 y56 z56
  obtain ⟨X56, hS, hZ, hown⟩ := rebS hS (by rw [e55]; exact hk) X56 hS56 hg56 hZ hown
  obtain ⟨h56, e56⟩ : ∃ z, T56.heap = z := ⟨_, rfl⟩
  rw [e56] at hQ56
  obtain ⟨rfl, N56q, K56, G56_0⟩ := hQ56
  replace S_COMPACT := own_stakeep S_COMPACT K56 (nsS (Exa.nostat E_b55) ns0)
  replace V_b33 := V_b33.keep K56 (ninS ne_b33_b55 nin0)
  replace V_b38 := V_b38.keep K56 (ninS ne_b38_b55 nin0)
  replace E_b43 := E_b43.keep K56
  replace E_b44 := E_b44.keep K56
  replace F_description_b43 := F_description_b43.keep K56 (ninS ne_b43_b55 nin0)
  replace F_line_b43 := F_line_b43.keep K56 (ninS ne_b43_b55 nin0)
  replace E_b47 := E_b47.keep K56
  replace E_b48 := E_b48.keep K56
  replace F_description_b47 := F_description_b47.keep K56 (ninS ne_b47_b55 nin0)
  replace F_line_b47 := F_line_b47.keep K56 (ninS ne_b47_b55 nin0)
  replace E_b51 := E_b51.keep K56
  replace F_value_b51 := F_value_b51.keep K56 (ninS ne_b51_b55 nin0)
  replace E_b53 := E_b53.keep K56
  replace F_value_b53 := F_value_b53.keep K56 (ninS ne_b53_b55 nin0)
  replace E_b55 := E_b55.keep K56
  replace Z0 := Nat.le_trans Z0 K56.1
  replace hk := Nat.le_trans hk K56.1
  have E_b55 : Exa Z h56 b55 "com/example/hoconut/hoconut/value/ConfigNull" := G56_0
  have hk : T56.heap.size ≤ h56.size := Nat.le_of_eq (by rw [e56])
  have N56 := Fr.app N54 N56q
  have pre58 : GO p e below (T56.setTop (mkF m 164 (lo0_10 p1 p2 p3 p4 p5 zC b33 b38 b43 b47 b51 b53 b55) [(.int (((p1.toUInt32 >>> ((2 : Int32) &&& 31).toUInt32).toInt32) &&& (3 : Int32)))])) (s₁.setTop (entryFrame m #[(.int p1), (.int p2), (.int p3), (.int p4), (.int p5)] maxLocals)) := fun t k => by
    refine pre32 _ ?_
    refine y_istore X32 hx hby at_24 (l' := (lo0_2 p1 p2 p3 p4 p5 zC)) rfl ?_
    refine y_iloadN X32 hx hby at_26 rfl ?_
    refine y_iconst X32 hx hby (v := (2 : Int32)) at_27 rfl ?_
    refine y_iushr X32 hx hby at_28 ?_
    refine y_iconst X32 hx hby (v := (3 : Int32)) at_29 rfl ?_
    refine y_iand X32 hx hby at_30 ?_
    refine y_istore X32 hx hby at_31 (l' := (lo0_3 p1 p2 p3 p4 p5 zC)) rfl ?_
    refine y_iconst X32 hx hby (v := (2 : Int32)) at_33 rfl ?_
    refine st33 _ ?_
    show Steps p.tables e below (T33.setTop (mkF m 36 (lo0_3 p1 p2 p3 p4 p5 zC) [(.ref b33)])) _
    refine y_dup X33 hx hby at_36 rfl ?_
    refine y_iconst X33 hx hby (v := (0 : Int32)) at_37 rfl ?_
    refine y_iloadN X33 hx hby at_38 rfl ?_
    refine y_sipush X33 hx hby (v := (255 : Int32)) at_39 rfl ?_
    refine y_iand X33 hx hby at_42 ?_
    refine y_i2c X33 hx hby at_43 ?_
    refine st35 _ ?_
    show Steps p.tables e below (T35.setTop (mkF m 45 (lo0_3 p1 p2 p3 p4 p5 zC) [(.ref b33)])) _
    refine y_dup X35 hx hby at_45 rfl ?_
    refine y_iconst X35 hx hby (v := (1 : Int32)) at_46 rfl ?_
    refine y_iloadN X35 hx hby at_47 rfl ?_
    refine y_bipush X35 hx hby (v := (8 : Int32)) at_48 rfl ?_
    refine y_iushr X35 hx hby at_50 ?_
    refine y_sipush X35 hx hby (v := (255 : Int32)) at_51 rfl ?_
    refine y_iand X35 hx hby at_54 ?_
    refine y_i2c X35 hx hby at_55 ?_
    refine st37 _ ?_
    show Steps p.tables e below (T37.setTop (mkF m 57 (lo0_3 p1 p2 p3 p4 p5 zC) [(.ref b33)])) _
    refine y_astore X37 hx hby at_57 rfl (l' := (lo0_4 p1 p2 p3 p4 p5 zC b33)) rfl ?_
    refine y_iconst X37 hx hby (v := (2 : Int32)) at_59 rfl ?_
    refine st38 _ ?_
    show Steps p.tables e below (T38.setTop (mkF m 62 (lo0_4 p1 p2 p3 p4 p5 zC b33) [(.ref b38)])) _
    refine y_dup X38 hx hby at_62 rfl ?_
    refine y_iconst X38 hx hby (v := (0 : Int32)) at_63 rfl ?_
    refine y_iload X38 hx hby at_64 rfl ?_
    refine y_sipush X38 hx hby (v := (255 : Int32)) at_66 rfl ?_
    refine y_iand X38 hx hby at_69 ?_
    refine y_i2c X38 hx hby at_70 ?_
    refine st40 _ ?_
    show Steps p.tables e below (T40.setTop (mkF m 72 (lo0_4 p1 p2 p3 p4 p5 zC b33) [(.ref b38)])) _
    refine y_dup X40 hx hby at_72 rfl ?_
    refine y_iconst X40 hx hby (v := (1 : Int32)) at_73 rfl ?_
    refine y_iload X40 hx hby at_74 rfl ?_
    refine y_bipush X40 hx hby (v := (8 : Int32)) at_76 rfl ?_
    refine y_iushr X40 hx hby at_78 ?_
    refine y_sipush X40 hx hby (v := (255 : Int32)) at_79 rfl ?_
    refine y_iand X40 hx hby at_82 ?_
    refine y_i2c X40 hx hby at_83 ?_
    refine st42 _ ?_
    show Steps p.tables e below (T42.setTop (mkF m 85 (lo0_4 p1 p2 p3 p4 p5 zC b33) [(.ref b38)])) _
    refine y_astore X42 hx hby at_85 rfl (l' := (lo0_5 p1 p2 p3 p4 p5 zC b33 b38)) rfl ?_
    refine st43 _ ?_
    show Steps p.tables e below (T43.setTop (mkF m 90 (lo0_5 p1 p2 p3 p4 p5 zC b33 b38) [(.ref b43)])) _
    refine y_dup X43 hx hby at_90 rfl ?_
    refine st44 _ ?_
    show Steps p.tables e below (T44.setTop (mkF m 94 (lo0_5 p1 p2 p3 p4 p5 zC b33 b38) [(.ref b44), (.ref b43), (.ref b43)])) _
    refine y_dup X44 hx hby at_94 rfl ?_
    refine y_aload X44 hx hby at_95 rfl rfl ?_
    refine st45.trans ?_
    show Steps p.tables e below (T45.setTop (mkF m 100 (lo0_5 p1 p2 p3 p4 p5 zC b33 b38) [(.ref b44), (.ref b43), (.ref b43)])) _
    refine y_iloadN X45 hx hby at_100 rfl ?_
    refine st46.trans ?_
    show Steps p.tables e below (T46.setTop (mkF m 104 (lo0_5 p1 p2 p3 p4 p5 zC b33 b38) [(.ref b43)])) _
    refine y_astore X46 hx hby at_104 rfl (l' := (lo0_6 p1 p2 p3 p4 p5 zC b33 b38 b43)) rfl ?_
    refine st47 _ ?_
    show Steps p.tables e below (T47.setTop (mkF m 109 (lo0_6 p1 p2 p3 p4 p5 zC b33 b38 b43) [(.ref b47)])) _
    refine y_dup X47 hx hby at_109 rfl ?_
    refine st48 _ ?_
    show Steps p.tables e below (T48.setTop (mkF m 113 (lo0_6 p1 p2 p3 p4 p5 zC b33 b38 b43) [(.ref b48), (.ref b47), (.ref b47)])) _
    refine y_dup X48 hx hby at_113 rfl ?_
    refine y_aload X48 hx hby at_114 rfl rfl ?_
    refine st49.trans ?_
    show Steps p.tables e below (T49.setTop (mkF m 119 (lo0_6 p1 p2 p3 p4 p5 zC b33 b38 b43) [(.ref b48), (.ref b47), (.ref b47)])) _
    refine y_iloadN X49 hx hby at_119 rfl ?_
    refine st50.trans ?_
    show Steps p.tables e below (T50.setTop (mkF m 123 (lo0_6 p1 p2 p3 p4 p5 zC b33 b38 b43) [(.ref b47)])) _
    refine y_astore X50 hx hby at_123 rfl (l' := (lo0_7 p1 p2 p3 p4 p5 zC b33 b38 b43 b47)) rfl ?_
    refine st51 _ ?_
    show Steps p.tables e below (T51.setTop (mkF m 128 (lo0_7 p1 p2 p3 p4 p5 zC b33 b38 b43 b47) [(.ref b51)])) _
    refine y_dup X51 hx hby at_128 rfl ?_
    refine y_iload X51 hx hby at_129 rfl ?_
    refine y_aload X51 hx hby at_131 rfl rfl ?_
    refine st52.trans ?_
    show Steps p.tables e below (T52.setTop (mkF m 136 (lo0_7 p1 p2 p3 p4 p5 zC b33 b38 b43 b47) [(.ref b51)])) _
    refine y_astore X52 hx hby at_136 rfl (l' := (lo0_8 p1 p2 p3 p4 p5 zC b33 b38 b43 b47 b51)) rfl ?_
    refine st53 _ ?_
    show Steps p.tables e below (T53.setTop (mkF m 141 (lo0_8 p1 p2 p3 p4 p5 zC b33 b38 b43 b47 b51) [(.ref b53)])) _
    refine y_dup X53 hx hby at_141 rfl ?_
    refine y_iload X53 hx hby at_142 rfl ?_
    refine y_aload X53 hx hby at_144 rfl rfl ?_
    refine st54.trans ?_
    show Steps p.tables e below (T54.setTop (mkF m 149 (lo0_8 p1 p2 p3 p4 p5 zC b33 b38 b43 b47 b51) [(.ref b53)])) _
    refine y_astore X54 hx hby at_149 rfl (l' := (lo0_9 p1 p2 p3 p4 p5 zC b33 b38 b43 b47 b51 b53)) rfl ?_
    refine st55 _ ?_
    show Steps p.tables e below (T55.setTop (mkF m 154 (lo0_9 p1 p2 p3 p4 p5 zC b33 b38 b43 b47 b51 b53) [(.ref b55)])) _
    refine y_dup X55 hx hby at_154 rfl ?_
    refine y_aload X55 hx hby at_155 rfl rfl ?_
    refine st56.trans ?_
    show Steps p.tables e below (T56.setTop (mkF m 160 (lo0_9 p1 p2 p3 p4 p5 zC b33 b38 b43 b47 b51 b53) [(.ref b55)])) _
    refine y_astore X56 hx hby at_160 rfl (l' := (lo0_10 p1 p2 p3 p4 p5 zC b33 b38 b43 b47 b51 b53 b55)) rfl ?_
    refine y_iload X56 hx hby at_162 rfl ?_
    exact k
  by_cases hc57 : (((p1.toUInt32 >>> ((2 : Int32) &&& 31).toUInt32).toInt32) &&& (3 : Int32)) = (0 : Int32)
  · have pre60 : GO p e below (T56.setTop (mkF m 175 (lo0_11 p1 p2 p3 p4 p5 zC b33 b38 b43 b47 b51 b53 b55) [(.int (mg0_16a p1 p2 p3 p4 p5 zC)), (.int (mg0_3a p1 p2 p3 p4 p5 zC))])) (s₁.setTop (entryFrame m #[(.int p1), (.int p2), (.int p3), (.int p4), (.int p5)] maxLocals)) := fun t k => by
      refine pre58 _ ?_
      refine y_ifNo X56 hx hby at_164 ((if0 _ _).trans (teq hc57).2) ?_
      refine y_aload X56 hx hby at_167 rfl rfl ?_
      refine y_astore X56 hx hby at_169 rfl (l' := (lo0_11 p1 p2 p3 p4 p5 zC b33 b38 b43 b47 b51 b53 b55)) rfl ?_
      refine y_iload X56 hx hby at_171 rfl ?_
      refine y_iload X56 hx hby at_173 rfl ?_
      exact k
    by_cases hc59 : (mg0_3a p1 p2 p3 p4 p5 zC) = (mg0_16a p1 p2 p3 p4 p5 zC)
    · obtain ⟨cq61, kq61, q61a, q61b, q61c⟩ := isOf hZ e56 E_b51
      obtain ⟨_, _, ⟨T61, L61, k61, n61⟩, -, X61, ⟨Lc61, hQ61, l61, y61, z61⟩, st61⟩ := X56.virtualBack hx (y := mn5) (z := mn5) hown (mvT hZ (ww hw 78 rfl)) (mvT hZ (ww hw 79 rfl)) (notFace_of_selects (args := #[]) (mvT hZ (ww hw 81 rfl))) (mvT hZ (ww hw 81 rfl)) (mvT hZ (ww hw 80 rfl)) (by decide) (backOf (W := 0) (rm12_q l Z a0 hw [] b51 b53 ((mg0_3a p1 p2 p3 p4 p5 zC) &&& 1) ((mg0_16a p1 p2 p3 p4 p5 zC) &&& 1) h56 n0 Z0 E_b51 F_value_b51 E_b53 F_value_b53) hZ (ww hw 82 rfl) (ww hw 48 rfl) (by decide) (by decide)) q61a q61c (g := (mkF m 230 (lo0_12 p1 p2 p3 p4 p5 zC b33 b38 b43 b47 b51 b53 b55) [(.ref b53), (.ref b51)])) rfl (by rw [hml]; rfl) (Steps.refl _) (argsL := [(.ref b53)]) (rest := []) (lenOf pd_6 rfl) rfl (by show 2 * 0 + _ ≤ _; exact Nat.le_of_eq rfl) (hb hby at_230) (fun _ _ => ⟨rfl, e56, (by decide : 17 + 0 ≤ _), (by decide : 109 + 0 ≤ _)⟩)
      dsimp only [Pt.U, Pt.locs, Pt.cells, Pt.slots] at X61 l61 y61 z61 st61 hQ61
      subst l61 y61 z61
      obtain ⟨rfl, N61q, e61⟩ := hQ61
      have q61 : f12_q b51 b53 ((mg0_3a p1 p2 p3 p4 p5 zC) &&& 1) ((mg0_16a p1 p2 p3 p4 p5 zC) &&& 1) = (eqq ((mg0_3a p1 p2 p3 p4 p5 zC) &&& 1) ((mg0_16a p1 p2 p3 p4 p5 zC) &&& 1)) := rfl
      rw [q61] at st61
      have N61 := Fr.app N56 N61q
      obtain ⟨fs, hr, hrun, hended, hEW⟩ := X61.leaveW hS (by rw [e61]; exact hk) (v := some (.int (1 : Int32))) (fun h => by rw [Bd.returns] at h; cases h)
      refine ⟨_, _, pre60 _ ?_, hrun, hended, _, _, rfl, ?_, hEW.1, hEW.2.1, hEW.2.2.1, hEW.2.2.2.mono (by decide) (by decide)⟩
      · refine y_icmpNo X56 hx hby at_175 (teq hc59).2 ?_
        refine y_iconst X56 hx hby (v := (1 : Int32)) at_178 rfl ?_
        refine y_goto X56 hx hby (pc' := 183) at_179 (by decide) (by decide) ?_
        refine y_istore X56 hx hby at_183 (l' := (lo0_12 p1 p2 p3 p4 p5 zC b33 b38 b43 b47 b51 b53 b55)) rfl ?_
        refine y_goto X56 hx hby (pc' := 226) at_185 (by decide) (by decide) ?_
        refine y_aload X56 hx hby at_226 rfl rfl ?_
        refine y_aload X56 hx hby at_228 rfl rfl ?_
        refine st61.trans ?_
        show Steps p.tables e below (T61.setTop (mkF m 233 (lo0_12 p1 p2 p3 p4 p5 zC b33 b38 b43 b47 b51 b53 b55) [(.int (eqq ((mg0_3a p1 p2 p3 p4 p5 zC) &&& 1) ((mg0_16a p1 p2 p3 p4 p5 zC) &&& 1)))])) _
        refine y_iload X61 hx hby at_233 rfl ?_
        refine y_icmpNo X61 hx hby at_235 (teq (own_eqt hc59)).2 ?_
        refine y_iconst X61 hx hby (v := (1 : Int32)) at_238 rfl ?_
        refine y_goto X61 hx hby (pc' := 243) at_239 (by decide) (by decide) ?_
        exact retN X61 hx (t := .boolean) Bd.returns (by simp) (hb hby at_243) hr
      · exact ⟨rfl, N61⟩
    · obtain ⟨cq62, kq62, q62a, q62b, q62c⟩ := isOf hZ e56 E_b51
      obtain ⟨_, _, ⟨T62, L62, k62, n62⟩, -, X62, ⟨Lc62, hQ62, l62, y62, z62⟩, st62⟩ := X56.virtualBack hx (y := mn5) (z := mn5) hown (mvT hZ (ww hw 78 rfl)) (mvT hZ (ww hw 79 rfl)) (notFace_of_selects (args := #[]) (mvT hZ (ww hw 81 rfl))) (mvT hZ (ww hw 81 rfl)) (mvT hZ (ww hw 80 rfl)) (by decide) (backOf (W := 0) (rm12_q l Z a0 hw [] b51 b53 ((mg0_3a p1 p2 p3 p4 p5 zC) &&& 1) ((mg0_16a p1 p2 p3 p4 p5 zC) &&& 1) h56 n0 Z0 E_b51 F_value_b51 E_b53 F_value_b53) hZ (ww hw 82 rfl) (ww hw 48 rfl) (by decide) (by decide)) q62a q62c (g := (mkF m 230 (lo0_13 p1 p2 p3 p4 p5 zC b33 b38 b43 b47 b51 b53 b55) [(.ref b53), (.ref b51)])) rfl (by rw [hml]; rfl) (Steps.refl _) (argsL := [(.ref b53)]) (rest := []) (lenOf pd_6 rfl) rfl (by show 2 * 0 + _ ≤ _; exact Nat.le_of_eq rfl) (hb hby at_230) (fun _ _ => ⟨rfl, e56, (by decide : 17 + 0 ≤ _), (by decide : 109 + 0 ≤ _)⟩)
      dsimp only [Pt.U, Pt.locs, Pt.cells, Pt.slots] at X62 l62 y62 z62 st62 hQ62
      subst l62 y62 z62
      obtain ⟨rfl, N62q, e62⟩ := hQ62
      have q62 : f12_q b51 b53 ((mg0_3a p1 p2 p3 p4 p5 zC) &&& 1) ((mg0_16a p1 p2 p3 p4 p5 zC) &&& 1) = (eqq ((mg0_3a p1 p2 p3 p4 p5 zC) &&& 1) ((mg0_16a p1 p2 p3 p4 p5 zC) &&& 1)) := rfl
      rw [q62] at st62
      have N62 := Fr.app N56 N62q
      obtain ⟨fs, hr, hrun, hended, hEW⟩ := X62.leaveW hS (by rw [e62]; exact hk) (v := some (.int (1 : Int32))) (fun h => by rw [Bd.returns] at h; cases h)
      refine ⟨_, _, pre60 _ ?_, hrun, hended, _, _, rfl, ?_, hEW.1, hEW.2.1, hEW.2.2.1, hEW.2.2.2.mono (by decide) (by decide)⟩
      · refine y_icmpYes X56 hx hby (pc' := 182) at_175 (feq hc59).2 (by decide) (by decide) ?_
        refine y_iconst X56 hx hby (v := (0 : Int32)) at_182 rfl ?_
        refine y_istore X56 hx hby at_183 (l' := (lo0_13 p1 p2 p3 p4 p5 zC b33 b38 b43 b47 b51 b53 b55)) rfl ?_
        refine y_goto X56 hx hby (pc' := 226) at_185 (by decide) (by decide) ?_
        refine y_aload X56 hx hby at_226 rfl rfl ?_
        refine y_aload X56 hx hby at_228 rfl rfl ?_
        refine st62.trans ?_
        show Steps p.tables e below (T62.setTop (mkF m 233 (lo0_13 p1 p2 p3 p4 p5 zC b33 b38 b43 b47 b51 b53 b55) [(.int (eqq ((mg0_3a p1 p2 p3 p4 p5 zC) &&& 1) ((mg0_16a p1 p2 p3 p4 p5 zC) &&& 1)))])) _
        refine y_iload X62 hx hby at_233 rfl ?_
        refine y_icmpNo X62 hx hby at_235 (teq (own_eqf (own_b3 p1 p2 p3 p4 p5 zC) (own_b16 p1 p2 p3 p4 p5 zC) hc59)).2 ?_
        refine y_iconst X62 hx hby (v := (1 : Int32)) at_238 rfl ?_
        refine y_goto X62 hx hby (pc' := 243) at_239 (by decide) (by decide) ?_
        exact retN X62 hx (t := .boolean) Bd.returns (by simp) (hb hby at_243) hr
      · exact ⟨rfl, N62⟩
  · have pre64 : GO p e below (T56.setTop (mkF m 191 (lo0_10 p1 p2 p3 p4 p5 zC b33 b38 b43 b47 b51 b53 b55) [(.int (1 : Int32)), (.int (((p1.toUInt32 >>> ((2 : Int32) &&& 31).toUInt32).toInt32) &&& (3 : Int32)))])) (s₁.setTop (entryFrame m #[(.int p1), (.int p2), (.int p3), (.int p4), (.int p5)] maxLocals)) := fun t k => by
      refine pre58 _ ?_
      refine y_ifYes X56 hx hby (pc' := 188) at_164 ((if0 _ _).trans (feq hc57).2) (by decide) (by decide) ?_
      refine y_iload X56 hx hby at_188 rfl ?_
      refine y_iconst X56 hx hby (v := (1 : Int32)) at_190 rfl ?_
      exact k
    by_cases hc63 : (((p1.toUInt32 >>> ((2 : Int32) &&& 31).toUInt32).toInt32) &&& (3 : Int32)) = (1 : Int32)
    · obtain ⟨cq65, kq65, q65a, q65b, q65c⟩ := isOf hZ e56 E_b51
      obtain ⟨_, _, ⟨T65, L65, k65, n65⟩, -, X65, ⟨Lc65, hQ65, l65, y65, z65⟩, st65⟩ := X56.virtualBack hx (y := mn5) (z := mn5) hown (mvT hZ (ww hw 78 rfl)) (mvT hZ (ww hw 79 rfl)) (notFace_of_selects (args := #[]) (mvT hZ (ww hw 81 rfl))) (mvT hZ (ww hw 81 rfl)) (mvT hZ (ww hw 80 rfl)) (by decide) (backOf (W := 0) (rm12_z l Z a0 hw [] b51 ((mg0_3a p1 p2 p3 p4 p5 zC) &&& 1) h56 n0 Z0 E_b51 F_value_b51) hZ (ww hw 82 rfl) (ww hw 48 rfl) (by decide) (by decide)) q65a q65c (g := (mkF m 230 (lo0_15 p1 p2 p3 p4 p5 zC b33 b38 b43 b47 b51 b53 b55) [.null, (.ref b51)])) rfl (by rw [hml]; rfl) (Steps.refl _) (argsL := [.null]) (rest := []) (lenOf pd_6 rfl) rfl (by show 2 * 0 + _ ≤ _; exact Nat.le_of_eq rfl) (hb hby at_230) (fun _ _ => ⟨rfl, e56, (by decide : 17 + 0 ≤ _), (by decide : 109 + 0 ≤ _)⟩)
      dsimp only [Pt.U, Pt.locs, Pt.cells, Pt.slots] at X65 l65 y65 z65 st65 hQ65
      subst l65 y65 z65
      obtain ⟨rfl, N65q, e65⟩ := hQ65
      have q65 : f12_z b51 ((mg0_3a p1 p2 p3 p4 p5 zC) &&& 1) = (0 : Int32) := rfl
      rw [q65] at st65
      have N65 := Fr.app N56 N65q
      obtain ⟨fs, hr, hrun, hended, hEW⟩ := X65.leaveW hS (by rw [e65]; exact hk) (v := some (.int (1 : Int32))) (fun h => by rw [Bd.returns] at h; cases h)
      refine ⟨_, _, pre64 _ ?_, hrun, hended, _, _, rfl, ?_, hEW.1, hEW.2.1, hEW.2.2.1, hEW.2.2.2.mono (by decide) (by decide)⟩
      · refine y_icmpNo X56 hx hby at_191 (teq hc63).2 ?_
        refine y_aconstNull X56 hx hby at_194 ?_
        refine y_astore X56 hx hby at_195 rfl (l' := (lo0_14 p1 p2 p3 p4 p5 zC b33 b38 b43 b47 b51 b53 b55)) rfl ?_
        refine y_iconst X56 hx hby (v := (0 : Int32)) at_197 rfl ?_
        refine y_istore X56 hx hby at_198 (l' := (lo0_15 p1 p2 p3 p4 p5 zC b33 b38 b43 b47 b51 b53 b55)) rfl ?_
        refine y_goto X56 hx hby (pc' := 226) at_200 (by decide) (by decide) ?_
        refine y_aload X56 hx hby at_226 rfl rfl ?_
        refine y_aload X56 hx hby at_228 rfl rfl ?_
        refine st65.trans ?_
        show Steps p.tables e below (T65.setTop (mkF m 233 (lo0_15 p1 p2 p3 p4 p5 zC b33 b38 b43 b47 b51 b53 b55) [(.int (0 : Int32))])) _
        refine y_iload X65 hx hby at_233 rfl ?_
        refine y_icmpNo X65 hx hby at_235 (teq rfl).2 ?_
        refine y_iconst X65 hx hby (v := (1 : Int32)) at_238 rfl ?_
        refine y_goto X65 hx hby (pc' := 243) at_239 (by decide) (by decide) ?_
        exact retN X65 hx (t := .boolean) Bd.returns (by simp) (hb hby at_243) hr
      · exact ⟨rfl, N65⟩
    · have pre67 : GO p e below (T56.setTop (mkF m 206 (lo0_10 p1 p2 p3 p4 p5 zC b33 b38 b43 b47 b51 b53 b55) [(.int (2 : Int32)), (.int (((p1.toUInt32 >>> ((2 : Int32) &&& 31).toUInt32).toInt32) &&& (3 : Int32)))])) (s₁.setTop (entryFrame m #[(.int p1), (.int p2), (.int p3), (.int p4), (.int p5)] maxLocals)) := fun t k => by
        refine pre64 _ ?_
        refine y_icmpYes X56 hx hby (pc' := 203) at_191 (feq hc63).2 (by decide) (by decide) ?_
        refine y_iload X56 hx hby at_203 rfl ?_
        refine y_iconst X56 hx hby (v := (2 : Int32)) at_205 rfl ?_
        exact k
      by_cases hc66 : (((p1.toUInt32 >>> ((2 : Int32) &&& 31).toUInt32).toInt32) &&& (3 : Int32)) = (2 : Int32)
      · obtain ⟨cq68, kq68, q68a, q68b, q68c⟩ := isOf hZ e56 E_b51
        obtain ⟨_, _, ⟨T68, L68, k68, n68⟩, -, X68, ⟨Lc68, hQ68, l68, y68, z68⟩, st68⟩ := X56.virtualBack hx (y := mn5) (z := mn5) hown (mvT hZ (ww hw 78 rfl)) (mvT hZ (ww hw 79 rfl)) (notFace_of_selects (args := #[]) (mvT hZ (ww hw 81 rfl))) (mvT hZ (ww hw 81 rfl)) (mvT hZ (ww hw 80 rfl)) (by decide) (backOf (W := 0) (rm12_n l Z a0 hw [] b51 b55 ((mg0_3a p1 p2 p3 p4 p5 zC) &&& 1) h56 n0 Z0 E_b51 F_value_b51 E_b55) hZ (ww hw 82 rfl) (ww hw 48 rfl) (by decide) (by decide)) q68a q68c (g := (mkF m 230 (lo0_17 p1 p2 p3 p4 p5 zC b33 b38 b43 b47 b51 b53 b55) [(.ref b55), (.ref b51)])) rfl (by rw [hml]; rfl) (Steps.refl _) (argsL := [(.ref b55)]) (rest := []) (lenOf pd_6 rfl) rfl (by show 2 * 0 + _ ≤ _; exact Nat.le_of_eq rfl) (hb hby at_230) (fun _ _ => ⟨rfl, e56, (by decide : 17 + 0 ≤ _), (by decide : 109 + 0 ≤ _)⟩)
        dsimp only [Pt.U, Pt.locs, Pt.cells, Pt.slots] at X68 l68 y68 z68 st68 hQ68
        subst l68 y68 z68
        obtain ⟨rfl, N68q, e68⟩ := hQ68
        have q68 : f12_n b51 b55 ((mg0_3a p1 p2 p3 p4 p5 zC) &&& 1) = (0 : Int32) := rfl
        rw [q68] at st68
        have N68 := Fr.app N56 N68q
        obtain ⟨fs, hr, hrun, hended, hEW⟩ := X68.leaveW hS (by rw [e68]; exact hk) (v := some (.int (1 : Int32))) (fun h => by rw [Bd.returns] at h; cases h)
        refine ⟨_, _, pre67 _ ?_, hrun, hended, _, _, rfl, ?_, hEW.1, hEW.2.1, hEW.2.2.1, hEW.2.2.2.mono (by decide) (by decide)⟩
        · refine y_icmpNo X56 hx hby at_206 (teq hc66).2 ?_
          refine y_aload X56 hx hby at_209 rfl rfl ?_
          refine y_astore X56 hx hby at_211 rfl (l' := (lo0_16 p1 p2 p3 p4 p5 zC b33 b38 b43 b47 b51 b53 b55)) rfl ?_
          refine y_iconst X56 hx hby (v := (0 : Int32)) at_213 rfl ?_
          refine y_istore X56 hx hby at_214 (l' := (lo0_17 p1 p2 p3 p4 p5 zC b33 b38 b43 b47 b51 b53 b55)) rfl ?_
          refine y_goto X56 hx hby (pc' := 226) at_216 (by decide) (by decide) ?_
          refine y_aload X56 hx hby at_226 rfl rfl ?_
          refine y_aload X56 hx hby at_228 rfl rfl ?_
          refine st68.trans ?_
          show Steps p.tables e below (T68.setTop (mkF m 233 (lo0_17 p1 p2 p3 p4 p5 zC b33 b38 b43 b47 b51 b53 b55) [(.int (0 : Int32))])) _
          refine y_iload X68 hx hby at_233 rfl ?_
          refine y_icmpNo X68 hx hby at_235 (teq rfl).2 ?_
          refine y_iconst X68 hx hby (v := (1 : Int32)) at_238 rfl ?_
          refine y_goto X68 hx hby (pc' := 243) at_239 (by decide) (by decide) ?_
          exact retN X68 hx (t := .boolean) Bd.returns (by simp) (hb hby at_243) hr
        · exact ⟨rfl, N68⟩
      · obtain ⟨cq69, kq69, q69a, q69b, q69c⟩ := isOf hZ e56 E_b51
        obtain ⟨_, _, ⟨T69, L69, k69, n69⟩, -, X69, ⟨Lc69, hQ69, l69, y69, z69⟩, st69⟩ := X56.virtualBack hx (y := mn5) (z := mn5) hown (mvT hZ (ww hw 78 rfl)) (mvT hZ (ww hw 79 rfl)) (notFace_of_selects (args := #[]) (mvT hZ (ww hw 81 rfl))) (mvT hZ (ww hw 81 rfl)) (mvT hZ (ww hw 80 rfl)) (by decide) (backOf (W := 0) (rm12_p l Z a0 hw [] b51 ((mg0_3a p1 p2 p3 p4 p5 zC) &&& 1) h56 n0 Z0 E_b51 F_value_b51) hZ (ww hw 82 rfl) (ww hw 48 rfl) (by decide) (by decide)) q69a q69c (g := (mkF m 230 (lo0_19 p1 p2 p3 p4 p5 zC b33 b38 b43 b47 b51 b53 b55) [(.ref b51), (.ref b51)])) rfl (by rw [hml]; rfl) (Steps.refl _) (argsL := [(.ref b51)]) (rest := []) (lenOf pd_6 rfl) rfl (by show 2 * 0 + _ ≤ _; exact Nat.le_of_eq rfl) (hb hby at_230) (fun _ _ => ⟨rfl, e56, (by decide : 17 + 0 ≤ _), (by decide : 109 + 0 ≤ _)⟩)
        dsimp only [Pt.U, Pt.locs, Pt.cells, Pt.slots] at X69 l69 y69 z69 st69 hQ69
        subst l69 y69 z69
        obtain ⟨rfl, N69q, e69⟩ := hQ69
        have q69 : f12_p b51 ((mg0_3a p1 p2 p3 p4 p5 zC) &&& 1) = (1 : Int32) := rfl
        rw [q69] at st69
        have N69 := Fr.app N56 N69q
        obtain ⟨fs, hr, hrun, hended, hEW⟩ := X69.leaveW hS (by rw [e69]; exact hk) (v := some (.int (1 : Int32))) (fun h => by rw [Bd.returns] at h; cases h)
        refine ⟨_, _, pre67 _ ?_, hrun, hended, _, _, rfl, ?_, hEW.1, hEW.2.1, hEW.2.2.1, hEW.2.2.2.mono (by decide) (by decide)⟩
        · refine y_icmpYes X56 hx hby (pc' := 219) at_206 (feq hc66).2 (by decide) (by decide) ?_
          refine y_aload X56 hx hby at_219 rfl rfl ?_
          refine y_astore X56 hx hby at_221 rfl (l' := (lo0_18 p1 p2 p3 p4 p5 zC b33 b38 b43 b47 b51 b53 b55)) rfl ?_
          refine y_iconst X56 hx hby (v := (1 : Int32)) at_223 rfl ?_
          refine y_istore X56 hx hby at_224 (l' := (lo0_19 p1 p2 p3 p4 p5 zC b33 b38 b43 b47 b51 b53 b55)) rfl ?_
          refine y_aload X56 hx hby at_226 rfl rfl ?_
          refine y_aload X56 hx hby at_228 rfl rfl ?_
          refine st69.trans ?_
          show Steps p.tables e below (T69.setTop (mkF m 233 (lo0_19 p1 p2 p3 p4 p5 zC b33 b38 b43 b47 b51 b53 b55) [(.int (1 : Int32))])) _
          refine y_iload X69 hx hby at_233 rfl ?_
          refine y_icmpNo X69 hx hby at_235 (teq rfl).2 ?_
          refine y_iconst X69 hx hby (v := (1 : Int32)) at_238 rfl ?_
          refine y_goto X69 hx hby (pc' := 243) at_239 (by decide) (by decide) ?_
          exact retN X69 hx (t := .boolean) Bd.returns (by simp) (hb hby at_243) hr
        · exact ⟨rfl, N69⟩
set_option maxRecDepth 65536 in
set_option maxHeartbeats 40000000 in
theorem comes_1 {Post : Tables → Env → Array Value → State → Outcome → State → Prop} (hpost : ∀ tb e args s v u, (limb_1_1.after args s (.returned v) u = true ∧ limb_1_2.after args s (.returned v) u = true ∧ True) → ReturnedEndW s (.returned v) u (Jvm.fieldLocs frame_1_writes args s ++ Jvm.arrayLocs frame_1_arrays args s ++ Jvm.staticLocs frame_1_statics s) 40 2176 → Post tb e args s (.returned v) u) :
    ArmFor flags0 classFile x code maxLocals ret World_1 tables_1 room_1 Calls_1 rest_1 Pre_1 Post := by
  intro l hfl _ _ p e ha hc hk s m args below hf hA hF happ hP
  obtain ⟨hcalls, hrest, hpre⟩ := hP
  obtain ⟨-, -, -, hnamed, -, -, -, hat⟩ := (Spec.applies_iff hf).mp happ
  obtain ⟨hg, hn⟩ := and_e (Cond.before_iff.mp (show (Jvm.Cond.and given_1 narrow_1).before args s = true from hpre))
  obtain ⟨gc, gr0⟩ := and_e hg
  obtain ⟨g0, gr1⟩ := and_e gr0
  obtain ⟨g1, gr2⟩ := and_e gr1
  obtain ⟨g2, gr3⟩ := and_e gr2
  obtain ⟨g3, gr4⟩ := and_e gr3
  obtain ⟨w0, w1, w2, w3, w4, rfl⟩ : ∃ w0 w1 w2 w3 w4 : Value, args = #[w0, w1, w2, w3, w4] := by
    have hs : args.size = 5 := by simpa [Cond.value, given_1] using gc
    obtain ⟨L⟩ := args
    match L, hs with
    | [w0, w1, w2, w3, w4], _ => exact ⟨w0, w1, w2, w3, w4, rfl⟩
  have hw := fun d (hd : d ∈ tables_1) => atoms_spec (ws := Jvm.Cond.code x code maxLocals ret :: tables_1) hat d (List.mem_cons_of_mem _ hd)
  have hfit : Fit s := fun {y c} hc i hi => by
    obtain ⟨ha, rfl⟩ := Array.getElem?_eq_some_iff.mp hc
    have q := List.all_eq_true.mp ((Array.all_eq_true_iff_forall_mem.mp hF) _ (Array.getElem_mem ha)) i (List.mem_range.mpr hi)
    simpa [Array.getElem?_eq_getElem hi] using q
  obtain ⟨hsets, hown0⟩ := atoms_of _ (rest_1_c_eq ▸ (show rest_1_c.before _ s = true from hrest))
  have hr0 := Cond.before_iff.mp hown0
  obtain ⟨i0, ei0⟩ := is_v g0
  obtain rfl : w0 = (.int i0) := Option.some.inj ei0
  obtain ⟨i1, ei1⟩ := is_v g1
  obtain rfl : w1 = (.int i1) := Option.some.inj ei1
  obtain ⟨i2, ei2⟩ := is_v g2
  obtain rfl : w2 = (.int i2) := Option.some.inj ei2
  obtain ⟨i3, ei3⟩ := is_v g3
  obtain rfl : w3 = (.int i3) := Option.some.inj ei3
  obtain ⟨i4, ei4⟩ := is_v gr4
  obtain rfl : w4 = (.int i4) := Option.some.inj ei4
  obtain ⟨zC, eC⟩ := is_v (Cond.before_iff.mp (hsets _ (List.mem_of_getElem? (i := 1) rfl)))
  have S_COMPACT : Sta s s.heap "java/lang/String" "COMPACT_STRINGS" "Z" (.int zC) := Sta.start eC (Or.inl (hsets _ (List.mem_of_getElem? (i := 0) rfl)))
  have hz : ¬ zC = 0 := own_nz (Cond.before_iff.mp (hsets _ (List.mem_of_getElem? (i := 2) rfl))) eC
  obtain ⟨n, o, h1, h2, h3, _, L, rfl, ⟨rfl, N⟩, hq⟩ := rm0 l s _ hw tables_1 i0 i1 i2 i3 i4 zC s.heap s.heap.size (Nat.le_refl _) S_COMPACT hz p e ha hc hk s m _ below hf ((Spec.applies_iff_loose hf).mp happ).1 ⟨rfl, State.Warmed39.refl s, rfl⟩ trivial
  refine ⟨n, _, h1, h2, h3, hpost _ _ _ _ _ _ ⟨Cond.after_iff.mpr rfl, Cond.after_iff.mpr (eq_i res_at (Term.int_eval (1)) rfl), trivial⟩ ⟨hq.1, hq.2.1, hq.2.2.1, (hq.2.2.2.sift fun y hy => Or.inr (N y hy)).mono (by decide) (by decide)⟩⟩
theorem main_1_1 : Claimed_1_1 := comes_1 fun _ _ _ _ _ _ h hF => ⟨h.1, hF⟩
theorem main_1_2 : Claimed_1_2 := comes_1 fun _ _ _ _ _ _ h hF => ⟨h.2.1, hF⟩
end Jvm.Pilot.@@N@@
namespace Jvm.Pilot.@@N@@
open Jvm Jvm.ClassFile Sem Op Lib Jvm.Free Jvm.Stand Jvm.Pilot.@@N@@.Jvm.D
/-! MADE BY PROGRAM (witnessworld.py) out of the Statement's table words and the real class files: 25 classes; the members and pool entries that the words name. The judged class is class 1, her method 1. -/
namespace start1
open Jvm.ClassFile
def u (s : String) : CpInfo := .utf8 (stringToUtf16 s)
/-- a pool by its gaps: so many unusable entries, then the entry; so many at the end -/
def gap : Nat → List CpInfo → List CpInfo
  | 0, r => r
  | n + 1, r => .unusable :: gap n r
def poolList (es : List (Nat × CpInfo)) (last : Nat) : List CpInfo := es.foldr (fun e r => gap e.1 (e.2 :: r)) (gap last [])
def pool (es : List (Nat × CpInfo)) (last : Nat) : Array CpInfo := ⟨poolList es last⟩
def fileOf (pool : Array CpInfo) (this : Nat) (attrs : Array Attribute := #[]) (ms : Array MethodInfo := #[]) (fl : Nat := 33) (sup : Nat := 0) (ifs : Array Nat := #[]) (fds : Array FieldInfo := #[]) : ClassFile where
  minorVersion := 0
  majorVersion := 65
  constantPool := pool
  accessFlags := fl
  thisClass := this
  superClass := sup
  interfaces := ifs
  fields := fds
  methods := ms
  attributes := attrs
def plain (name : String) (sup : Option ClassId) : Class where
  name := name
  kind := .ordinary
  loader := none
  accessFlags := 33
  super := sup
  interfaces := #[]
  cf := none
  fields := #[]
  methods := #[]
  instanceTypes := #[]
  staticTypes := #[]
  resolved := #[]
  callSites := []
  init := .initialized
  statics := none
  mirror := none

def pool0 : Array CpInfo := pool [(5, u "<init>"), (0, u "()V"), (1, .class_ 10), (1, u "java/lang/Object")] 113

def k0c0 : Code := { maxStack := 0, maxLocals := 1, code := object_method_1_code, exceptionTable := #[], attributes := #[] }
def k0m0 : Method := { name := "<init>", desc := "()V", sig := { parameters := [], returnType := none }, accessFlags := 1, code := some k0c0 }
/-- java/lang/Object -/
def k0 : Class := { plain "java/lang/Object" none with
  accessFlags := 33
  interfaces := #[]
  cf := some (fileOf pool0 8 #[] #[{ accessFlags := 1, nameIndex := 5, descriptorIndex := 6, attributes := #[] }] 33 0 #[] #[])
  fields := #[]
  methods := #[k0m0]
  instanceTypes := #[]
  staticTypes := #[]
  resolved := Array.replicate 124 none
  statics := none }

def pool1 : Array CpInfo := pool [(2, .class_ 4), (1, u "java/lang/Object"), (0, u "<init>"), (0, u "()V"), (0, .class_ 8), (0, u "com/example/hoconut/hoconut/value/Origin"), (0, .class_ 10), (0, u "java/lang/String"), (0, .methodref 9 12), (0, .nameAndType 5 13), (0, u "([C)V"), (0, .methodref 7 15), (0, .nameAndType 5 16), (0, u "(Ljava/lang/String;I)V"), (0, .class_ 18), (0, u "com/example/hoconut/hoconut/value/ConfigBoolean"), (0, .methodref 17 20), (0, .nameAndType 5 21), (0, u "(ZLcom/example/hoconut/hoconut/value/Origin;)V"), (0, .class_ 23), (0, u "com/example/hoconut/hoconut/value/ConfigNull"), (0, .methodref 22 25), (0, .nameAndType 5 26), (0, u "(Lcom/example/hoconut/hoconut/value/Origin;)V"), (0, .methodref 17 28), (0, .nameAndType 29 30), (0, u "equals"), (0, u "(Ljava/lang/Object;)Z"), (0, .class_ 32), (0, u "com/example/hoconut/hoconut/value/ConfigBooleanEqualsPinLaw"), (2, u "law"), (0, u "(IIIII)Z")] 5

def k1m0 : Method := { name := "<init>", desc := "()V", sig := { parameters := [], returnType := none }, accessFlags := 2, code := none }
def k1c1 : Code := { maxStack := 5, maxLocals := 17, code := code, exceptionTable := #[], attributes := #[] }
def k1m1 : Method := { name := "law", desc := "(IIIII)Z", sig := { parameters := [.int, .int, .int, .int, .int], returnType := some .boolean }, accessFlags := 9, code := some k1c1 }
/-- com/example/hoconut/hoconut/value/ConfigBooleanEqualsPinLaw -/
def k1 : Class := { plain "com/example/hoconut/hoconut/value/ConfigBooleanEqualsPinLaw" (some 0) with
  accessFlags := 49
  interfaces := #[]
  cf := some (fileOf pool1 31 #[] #[{ accessFlags := 2, nameIndex := 5, descriptorIndex := 6, attributes := #[] }, { accessFlags := 9, nameIndex := 35, descriptorIndex := 36, attributes := #[] }] 49 2 #[] #[])
  fields := #[]
  methods := #[k1m0, k1m1]
  instanceTypes := #[]
  staticTypes := #[]
  resolved := Array.replicate 42 none
  statics := none }

def pool2 : Array CpInfo := pool [(1, .methodref 2 3), (0, .class_ 4), (0, .nameAndType 5 6), (0, u "java/lang/Object"), (0, u "<init>"), (0, u "()V"), (0, .class_ 8), (0, u "java/lang/Record")] 13

def k2c0 : Code := { maxStack := 1, maxLocals := 1, code := jdk_30_method_1_code, exceptionTable := #[], attributes := #[] }
def k2m0 : Method := { name := "<init>", desc := "()V", sig := { parameters := [], returnType := none }, accessFlags := 4, code := some k2c0 }
/-- java/lang/Record -/
def k2 : Class := { plain "java/lang/Record" (some 0) with
  accessFlags := 1057
  interfaces := #[]
  cf := some (fileOf pool2 7 #[] #[{ accessFlags := 4, nameIndex := 5, descriptorIndex := 6, attributes := #[] }] 1057 2 #[] #[])
  fields := #[]
  methods := #[k2m0]
  instanceTypes := #[]
  staticTypes := #[]
  resolved := Array.replicate 22 none
  statics := none }

def pool3 : Array CpInfo := pool [(1, .methodref 2 3), (0, .class_ 4), (0, .nameAndType 5 6), (0, u "java/lang/Record"), (0, u "<init>"), (0, u "()V"), (0, .fieldref 8 9), (0, .class_ 10), (0, .nameAndType 11 12), (0, u "com/example/hoconut/hoconut/value/Origin"), (0, u "description"), (0, u "Ljava/lang/String;"), (0, .fieldref 8 14), (0, .nameAndType 15 16), (0, u "line"), (0, u "I"), (12, u "(Ljava/lang/String;I)V")] 27

def k3c0 : Code := { maxStack := 2, maxLocals := 3, code := prog_89_method_1_code, exceptionTable := #[], attributes := #[] }
def k3m0 : Method := { name := "<init>", desc := "(Ljava/lang/String;I)V", sig := { parameters := [(.object "java/lang/String"), .int], returnType := none }, accessFlags := 1, code := some k3c0 }
/-- com/example/hoconut/hoconut/value/Origin -/
def k3 : Class := { plain "com/example/hoconut/hoconut/value/Origin" (some 2) with
  accessFlags := 49
  interfaces := #[]
  cf := some (fileOf pool3 8 #[] #[{ accessFlags := 1, nameIndex := 5, descriptorIndex := 29, attributes := #[] }] 49 2 #[] #[{ accessFlags := 18, nameIndex := 11, descriptorIndex := 12, attributes := #[] }, { accessFlags := 18, nameIndex := 15, descriptorIndex := 16, attributes := #[] }])
  fields := #[{ name := "description", type := (.object "java/lang/String"), accessFlags := 18, slot := 0, constantValue := 0 }, { name := "line", type := .int, accessFlags := 18, slot := 1, constantValue := 0 }]
  methods := #[k3m0]
  instanceTypes := #[(.object "java/lang/String"), .int]
  staticTypes := #[]
  resolved := Array.replicate 57 none
  statics := none }

def pool4 : Array CpInfo := pool [(1, .class_ 2), (0, u "java/io/Serializable"), (0, .class_ 4), (0, u "java/lang/Object")] 2

/-- java/io/Serializable -/
def k4 : Class := { plain "java/io/Serializable" (some 0) with
  accessFlags := 1537
  interfaces := #[]
  cf := some (fileOf pool4 1 #[] #[] 1537 3 #[] #[])
  fields := #[]
  methods := #[]
  instanceTypes := #[]
  staticTypes := #[]
  resolved := Array.replicate 7 none
  statics := none }

def pool5 : Array CpInfo := pool [(1, .class_ 2), (0, u "java/lang/Comparable"), (0, .class_ 4), (0, u "java/lang/Object")] 7

/-- java/lang/Comparable -/
def k5 : Class := { plain "java/lang/Comparable" (some 0) with
  accessFlags := 1537
  interfaces := #[]
  cf := some (fileOf pool5 1 #[] #[] 1537 3 #[] #[])
  fields := #[]
  methods := #[]
  instanceTypes := #[]
  staticTypes := #[]
  resolved := Array.replicate 12 none
  statics := none }

def pool6 : Array CpInfo := pool [(2, .class_ 4), (1, u "java/lang/CharSequence"), (42, .class_ 48), (0, u "java/lang/CharSequence$1CodePointIterator"), (10, .class_ 60), (0, u "java/lang/CharSequence$1CharIterator"), (5, .class_ 67), (0, u "java/lang/Object")] 63

/-- java/lang/CharSequence -/
def k6 : Class := { plain "java/lang/CharSequence" (some 0) with
  accessFlags := 1537
  interfaces := #[]
  cf := some (fileOf pool6 2 #[.nestMembers #[47, 59]] #[] 1537 66 #[] #[])
  fields := #[]
  methods := #[]
  instanceTypes := #[]
  staticTypes := #[]
  resolved := Array.replicate 131 none
  statics := none }

def pool7 : Array CpInfo := pool [(1, .class_ 2), (0, u "java/lang/constant/Constable"), (0, .class_ 4), (0, u "java/lang/Object")] 6

/-- java/lang/constant/Constable -/
def k7 : Class := { plain "java/lang/constant/Constable" (some 0) with
  accessFlags := 1537
  interfaces := #[]
  cf := some (fileOf pool7 1 #[] #[] 1537 3 #[] #[])
  fields := #[]
  methods := #[]
  instanceTypes := #[]
  staticTypes := #[]
  resolved := Array.replicate 11 none
  statics := none }

def pool8 : Array CpInfo := pool [(1, .class_ 2), (0, u "java/lang/constant/ConstantDesc"), (0, .class_ 4), (0, u "java/lang/Object")] 32

/-- java/lang/constant/ConstantDesc -/
def k8 : Class := { plain "java/lang/constant/ConstantDesc" (some 0) with
  accessFlags := 1537
  interfaces := #[]
  cf := some (fileOf pool8 1 #[] #[] 1537 3 #[] #[])
  fields := #[]
  methods := #[]
  instanceTypes := #[]
  staticTypes := #[]
  resolved := Array.replicate 37 none
  statics := none }

def pool9 : Array CpInfo := pool [(1, .methodref 2 3), (0, .class_ 4), (0, .nameAndType 5 6), (0, u "java/lang/Object"), (0, u "<init>"), (0, u "()V"), (2, .fieldref 10 11), (0, .class_ 12), (0, .nameAndType 13 14), (0, u "java/lang/String"), (0, u "value"), (0, u "[B"), (0, .fieldref 10 16), (0, .nameAndType 17 18), (0, u "coder"), (0, u "B"), (2, u "hash"), (0, u "I"), (2, u "hashIsZero"), (0, u "Z"), (0, .methodref 10 28), (0, .nameAndType 5 29), (0, u "([CIILjava/lang/Void;)V"), (8, .fieldref 10 39), (0, .nameAndType 40 26), (0, u "COMPACT_STRINGS"), (1, .class_ 44), (1, u "java/lang/StringUTF16"), (0, u "compress"), (1, .methodref 42 48), (0, .nameAndType 49 50), (0, u "coderFromArrayLen"), (0, u "([BI)B"), (126, .methodref 42 178), (0, .nameAndType 45 179), (0, u "([CII)[B"), (395, .class_ 576), (0, u "java/lang/CharSequence"), (22, u "CASE_INSENSITIVE_ORDER"), (0, u "Ljava/util/Comparator;"), (409, u "([C)V"), (90, u "serialPersistentFields"), (0, u "[Ljava/io/ObjectStreamField;"), (0, .class_ 1104), (0, u "java/lang/String$CaseInsensitiveComparator"), (1, .class_ 1107), (0, u "java/io/Serializable"), (0, .class_ 1109), (0, u "java/lang/Comparable"), (0, .class_ 1111), (0, u "java/lang/constant/Constable"), (0, .class_ 1113), (0, u "java/lang/constant/ConstantDesc"), (2, u "serialVersionUID"), (0, u "J"), (3, u "REPL"), (0, u "C"), (2, u "LATIN1"), (1, u "UTF16")] 323

def k9m0 : Method := { name := "<init>", desc := "()V", sig := { parameters := [], returnType := none }, accessFlags := 1, code := none }
def k9c1 : Code := { maxStack := 5, maxLocals := 2, code := jdk_42_method_3_code, exceptionTable := #[], attributes := #[] }
def k9m1 : Method := { name := "<init>", desc := "([C)V", sig := { parameters := [(.array .char)], returnType := none }, accessFlags := 1, code := some k9c1 }
def k9c2 : Code := { maxStack := 4, maxLocals := 6, code := jdk_42_method_149_code, exceptionTable := #[], attributes := #[] }
def k9m2 : Method := { name := "<init>", desc := "([CIILjava/lang/Void;)V", sig := { parameters := [(.array .char), .int, .int, (.object "java/lang/Void")], returnType := none }, accessFlags := 2, code := some k9c2 }
/-- java/lang/String -/
def k9 : Class := { plain "java/lang/String" (some 0) with
  accessFlags := 49
  interfaces := #[4, 5, 6, 7, 8]
  cf := some (fileOf pool9 10 #[.nestMembers #[1103]] #[{ accessFlags := 1, nameIndex := 5, descriptorIndex := 6, attributes := #[] }, { accessFlags := 1, nameIndex := 5, descriptorIndex := 1010, attributes := #[] }, { accessFlags := 2, nameIndex := 5, descriptorIndex := 29, attributes := #[] }] 49 2 #[1106, 1108, 575, 1110, 1112] #[{ accessFlags := 18, nameIndex := 13, descriptorIndex := 14, attributes := #[] }, { accessFlags := 18, nameIndex := 17, descriptorIndex := 18, attributes := #[] }, { accessFlags := 2, nameIndex := 21, descriptorIndex := 22, attributes := #[] }, { accessFlags := 2, nameIndex := 25, descriptorIndex := 26, attributes := #[] }, { accessFlags := 26, nameIndex := 1116, descriptorIndex := 1117, attributes := #[] }, { accessFlags := 24, nameIndex := 40, descriptorIndex := 26, attributes := #[] }, { accessFlags := 26, nameIndex := 1101, descriptorIndex := 1102, attributes := #[] }, { accessFlags := 26, nameIndex := 1121, descriptorIndex := 1122, attributes := #[] }, { accessFlags := 25, nameIndex := 599, descriptorIndex := 600, attributes := #[] }, { accessFlags := 24, nameIndex := 1125, descriptorIndex := 18, attributes := #[] }, { accessFlags := 24, nameIndex := 1127, descriptorIndex := 18, attributes := #[] }])
  fields := #[{ name := "value", type := (.array .byte), accessFlags := 18, slot := 0, constantValue := 0 }, { name := "coder", type := .byte, accessFlags := 18, slot := 1, constantValue := 0 }, { name := "hash", type := .int, accessFlags := 2, slot := 2, constantValue := 0 }, { name := "hashIsZero", type := .boolean, accessFlags := 2, slot := 3, constantValue := 0 }, { name := "serialVersionUID", type := .long, accessFlags := 26, slot := 0, constantValue := 0 }, { name := "COMPACT_STRINGS", type := .boolean, accessFlags := 24, slot := 1, constantValue := 0 }, { name := "serialPersistentFields", type := (.array (.object "java/io/ObjectStreamField")), accessFlags := 26, slot := 2, constantValue := 0 }, { name := "REPL", type := .char, accessFlags := 26, slot := 3, constantValue := 0 }, { name := "CASE_INSENSITIVE_ORDER", type := (.object "java/util/Comparator"), accessFlags := 25, slot := 4, constantValue := 0 }, { name := "LATIN1", type := .byte, accessFlags := 24, slot := 5, constantValue := 0 }, { name := "UTF16", type := .byte, accessFlags := 24, slot := 6, constantValue := 0 }]
  methods := #[k9m0, k9m1, k9m2]
  instanceTypes := #[(.array .byte), .byte, .int, .boolean]
  staticTypes := #[.long, .boolean, (.array (.object "java/io/ObjectStreamField")), .char, (.object "java/util/Comparator"), .byte, .byte]
  resolved := Array.replicate 1451 none
  statics := some 0 }

def pool10 : Array CpInfo := pool [(6, .class_ 8), (1, u "java/lang/Object"), (0, u "<init>"), (0, u "()V"), (1, .class_ 14), (1, u "java/lang/StringUTF16"), (31, u "$assertionsDisabled"), (0, u "Z"), (13, u "HI_BYTE_SHIFT"), (0, u "I"), (2, u "LO_BYTE_SHIFT"), (49, .methodref 12 116), (0, .nameAndType 117 118), (0, u "compress"), (0, u "([CI[BII)I"), (3, u "([CII)[B"), (138, u "coderFromArrayLen"), (0, u "([BI)B"), (106, .class_ 371), (1, u "java/lang/StringUTF16$LinesSpliterator"), (58, u "MAX_LENGTH"), (196, .class_ 628), (0, u "java/lang/StringUTF16$CodePointsSpliterator"), (0, .class_ 630), (0, u "java/lang/StringUTF16$CharsSpliterator")] 4

def k10m0 : Method := { name := "<init>", desc := "()V", sig := { parameters := [], returnType := none }, accessFlags := 0, code := none }
def k10c1 : Code := { maxStack := 2, maxLocals := 2, code := jdk_52_method_15_code, exceptionTable := #[], attributes := #[] }
def k10m1 : Method := { name := "coderFromArrayLen", desc := "([BI)B", sig := { parameters := [(.array .byte), .int], returnType := some .byte }, accessFlags := 8, code := some k10c1 }
def k10c2 : Code := { maxStack := 5, maxLocals := 6, code := jdk_52_method_16_code, exceptionTable := #[], attributes := #[] }
def k10m2 : Method := { name := "compress", desc := "([CII)[B", sig := { parameters := [(.array .char), .int, .int], returnType := some (.array .byte) }, accessFlags := 9, code := some k10c2 }
def k10c3 : Code := { maxStack := 3, maxLocals := 7, code := jdk_52_method_21_code, exceptionTable := #[], attributes := #[] }
def k10m3 : Method := { name := "compress", desc := "([CI[BII)I", sig := { parameters := [(.array .char), .int, (.array .byte), .int, .int], returnType := some .int }, accessFlags := 9, code := some k10c3 }
/-- java/lang/StringUTF16 -/
def k10 : Class := { plain "java/lang/StringUTF16" (some 0) with
  accessFlags := 48
  interfaces := #[]
  cf := some (fileOf pool10 12 #[.nestMembers #[627, 629, 369]] #[{ accessFlags := 0, nameIndex := 9, descriptorIndex := 10, attributes := #[] }, { accessFlags := 8, nameIndex := 261, descriptorIndex := 262, attributes := #[] }, { accessFlags := 9, nameIndex := 117, descriptorIndex := 122, attributes := #[] }, { accessFlags := 9, nameIndex := 117, descriptorIndex := 118, attributes := #[] }] 48 6 #[] #[{ accessFlags := 26, nameIndex := 61, descriptorIndex := 62, attributes := #[] }, { accessFlags := 26, nameIndex := 65, descriptorIndex := 62, attributes := #[] }, { accessFlags := 24, nameIndex := 430, descriptorIndex := 62, attributes := #[] }, { accessFlags := 4120, nameIndex := 46, descriptorIndex := 47, attributes := #[] }])
  fields := #[{ name := "HI_BYTE_SHIFT", type := .int, accessFlags := 26, slot := 0, constantValue := 0 }, { name := "LO_BYTE_SHIFT", type := .int, accessFlags := 26, slot := 1, constantValue := 0 }, { name := "MAX_LENGTH", type := .int, accessFlags := 24, slot := 2, constantValue := 0 }, { name := "$assertionsDisabled", type := .boolean, accessFlags := 4120, slot := 3, constantValue := 0 }]
  methods := #[k10m0, k10m1, k10m2, k10m3]
  instanceTypes := #[]
  staticTypes := #[.int, .int, .int, .boolean]
  resolved := Array.replicate 635 none
  statics := none }

def pool11 : Array CpInfo := pool [(11, .class_ 12), (0, u "com/example/hoconut/hoconut/value/ConfigValue"), (0, .class_ 14), (0, u "java/lang/Object")] 31

/-- com/example/hoconut/hoconut/value/ConfigValue -/
def k11 : Class := { plain "com/example/hoconut/hoconut/value/ConfigValue" (some 0) with
  accessFlags := 1537
  interfaces := #[]
  cf := some (fileOf pool11 11 #[] #[] 1537 13 #[] #[])
  fields := #[]
  methods := #[]
  instanceTypes := #[]
  staticTypes := #[]
  resolved := Array.replicate 46 none
  statics := none }

def pool12 : Array CpInfo := pool [(1, .methodref 2 3), (0, .class_ 4), (0, .nameAndType 5 6), (0, u "java/lang/Object"), (0, u "<init>"), (0, u "()V"), (0, .fieldref 8 9), (0, .class_ 10), (0, .nameAndType 11 12), (0, u "com/example/hoconut/hoconut/value/ConfigBoolean"), (0, u "value"), (0, u "Z"), (0, .string 14), (0, u "origin"), (0, .methodref 16 17), (0, .class_ 18), (0, .nameAndType 19 20), (0, u "java/util/Objects"), (0, u "requireNonNull"), (0, u "(Ljava/lang/Object;Ljava/lang/String;)Ljava/lang/Object;"), (0, .class_ 22), (0, u "com/example/hoconut/hoconut/value/Origin"), (0, .fieldref 8 24), (0, .nameAndType 14 25), (0, u "Lcom/example/hoconut/hoconut/value/Origin;"), (24, .class_ 51), (0, u "com/example/hoconut/hoconut/value/ConfigValue"), (0, u "(ZLcom/example/hoconut/hoconut/value/Origin;)V"), (6, u "equals"), (0, u "(Ljava/lang/Object;)Z")] 6

def k12c0 : Code := { maxStack := 3, maxLocals := 3, code := prog_67_method_1_code, exceptionTable := #[], attributes := #[] }
def k12m0 : Method := { name := "<init>", desc := "(ZLcom/example/hoconut/hoconut/value/Origin;)V", sig := { parameters := [.boolean, (.object "com/example/hoconut/hoconut/value/Origin")], returnType := none }, accessFlags := 1, code := some k12c0 }
def k12c1 : Code := { maxStack := 2, maxLocals := 3, code := prog_67_method_6_code, exceptionTable := #[], attributes := #[] }
def k12m1 : Method := { name := "equals", desc := "(Ljava/lang/Object;)Z", sig := { parameters := [(.object "java/lang/Object")], returnType := some .boolean }, accessFlags := 1, code := some k12c1 }
/-- com/example/hoconut/hoconut/value/ConfigBoolean -/
def k12 : Class := { plain "com/example/hoconut/hoconut/value/ConfigBoolean" (some 0) with
  accessFlags := 49
  interfaces := #[11]
  cf := some (fileOf pool12 8 #[] #[{ accessFlags := 1, nameIndex := 5, descriptorIndex := 52, attributes := #[] }, { accessFlags := 1, nameIndex := 59, descriptorIndex := 60, attributes := #[] }] 49 2 #[50] #[{ accessFlags := 18, nameIndex := 11, descriptorIndex := 12, attributes := #[] }, { accessFlags := 18, nameIndex := 14, descriptorIndex := 25, attributes := #[] }])
  fields := #[{ name := "value", type := .boolean, accessFlags := 18, slot := 0, constantValue := 0 }, { name := "origin", type := (.object "com/example/hoconut/hoconut/value/Origin"), accessFlags := 18, slot := 1, constantValue := 0 }]
  methods := #[k12m0, k12m1]
  instanceTypes := #[.boolean, (.object "com/example/hoconut/hoconut/value/Origin")]
  staticTypes := #[]
  resolved := Array.replicate 67 none
  statics := none }

def pool13 : Array CpInfo := pool [(2, .class_ 4), (1, u "java/lang/Object"), (0, u "<init>"), (0, u "()V"), (35, .class_ 44), (1, u "java/util/Objects"), (0, u "requireNonNull"), (48, u "(Ljava/lang/Object;Ljava/lang/String;)Ljava/lang/Object;")] 89

def k13m0 : Method := { name := "<init>", desc := "()V", sig := { parameters := [], returnType := none }, accessFlags := 2, code := none }
def k13c1 : Code := { maxStack := 3, maxLocals := 2, code := jdk_31_method_11_code, exceptionTable := #[], attributes := #[] }
def k13m1 : Method := { name := "requireNonNull", desc := "(Ljava/lang/Object;Ljava/lang/String;)Ljava/lang/Object;", sig := { parameters := [(.object "java/lang/Object"), (.object "java/lang/String")], returnType := some (.object "java/lang/Object") }, accessFlags := 9, code := some k13c1 }
/-- java/util/Objects -/
def k13 : Class := { plain "java/util/Objects" (some 0) with
  accessFlags := 49
  interfaces := #[]
  cf := some (fileOf pool13 42 #[] #[{ accessFlags := 2, nameIndex := 5, descriptorIndex := 6, attributes := #[] }, { accessFlags := 9, nameIndex := 45, descriptorIndex := 94, attributes := #[] }] 49 2 #[] #[])
  fields := #[]
  methods := #[k13m0, k13m1]
  instanceTypes := #[]
  staticTypes := #[]
  resolved := Array.replicate 184 none
  statics := none }

def pool14 : Array CpInfo := pool [(1, .methodref 2 3), (0, .class_ 4), (0, .nameAndType 5 6), (0, u "java/lang/Object"), (0, u "<init>"), (0, u "()V"), (0, .string 8), (0, u "origin"), (0, .methodref 10 11), (0, .class_ 12), (0, .nameAndType 13 14), (0, u "java/util/Objects"), (0, u "requireNonNull"), (0, u "(Ljava/lang/Object;Ljava/lang/String;)Ljava/lang/Object;"), (0, .class_ 16), (0, u "com/example/hoconut/hoconut/value/Origin"), (0, .fieldref 18 19), (0, .class_ 20), (0, .nameAndType 8 21), (0, u "com/example/hoconut/hoconut/value/ConfigNull"), (0, u "Lcom/example/hoconut/hoconut/value/Origin;"), (10, .class_ 33), (0, u "com/example/hoconut/hoconut/value/ConfigValue"), (0, u "(Lcom/example/hoconut/hoconut/value/Origin;)V")] 14

def k14c0 : Code := { maxStack := 3, maxLocals := 2, code := prog_74_method_1_code, exceptionTable := #[], attributes := #[] }
def k14m0 : Method := { name := "<init>", desc := "(Lcom/example/hoconut/hoconut/value/Origin;)V", sig := { parameters := [(.object "com/example/hoconut/hoconut/value/Origin")], returnType := none }, accessFlags := 1, code := some k14c0 }
/-- com/example/hoconut/hoconut/value/ConfigNull -/
def k14 : Class := { plain "com/example/hoconut/hoconut/value/ConfigNull" (some 0) with
  accessFlags := 49
  interfaces := #[11]
  cf := some (fileOf pool14 18 #[] #[{ accessFlags := 1, nameIndex := 5, descriptorIndex := 34, attributes := #[] }] 49 2 #[32] #[{ accessFlags := 18, nameIndex := 8, descriptorIndex := 21, attributes := #[] }])
  fields := #[{ name := "origin", type := (.object "com/example/hoconut/hoconut/value/Origin"), accessFlags := 18, slot := 0, constantValue := 0 }]
  methods := #[k14m0]
  instanceTypes := #[(.object "com/example/hoconut/hoconut/value/Origin")]
  staticTypes := #[]
  resolved := Array.replicate 49 none
  statics := none }

def pool15 : Array CpInfo := pool [(4, .class_ 6), (1, u "java/lang/Object"), (0, u "<init>"), (0, u "()V"), (5, .class_ 16), (1, u "java/lang/StringLatin1"), (104, u "$assertionsDisabled"), (0, u "Z"), (98, .class_ 223), (1, u "java/lang/StringLatin1$LinesSpliterator"), (166, .class_ 391), (0, u "java/lang/StringLatin1$CharsSpliterator")] 3

def k15m0 : Method := { name := "<init>", desc := "()V", sig := { parameters := [], returnType := none }, accessFlags := 0, code := none }
/-- java/lang/StringLatin1 -/
def k15 : Class := { plain "java/lang/StringLatin1" (some 0) with
  accessFlags := 48
  interfaces := #[]
  cf := some (fileOf pool15 14 #[.nestMembers #[390, 221]] #[{ accessFlags := 0, nameIndex := 7, descriptorIndex := 8, attributes := #[] }] 48 4 #[] #[{ accessFlags := 4120, nameIndex := 121, descriptorIndex := 122, attributes := #[] }])
  fields := #[{ name := "$assertionsDisabled", type := .boolean, accessFlags := 4120, slot := 0, constantValue := 0 }]
  methods := #[k15m0]
  instanceTypes := #[]
  staticTypes := #[.boolean]
  resolved := Array.replicate 395 none
  statics := none }

def pool16 : Array CpInfo := pool [(2, .class_ 4), (1, u "java/lang/Object"), (0, u "<init>"), (0, u "()V"), (17, .class_ 26), (1, u "jdk/internal/util/Preconditions"), (28, .class_ 56), (0, u "jdk/internal/util/Preconditions$4"), (57, .class_ 115), (0, u "jdk/internal/util/Preconditions$1"), (7, u "SIOOBE_FORMATTER"), (0, u "Ljava/util/function/BiFunction;"), (0, .class_ 126), (0, u "jdk/internal/util/Preconditions$2"), (3, u "AIOOBE_FORMATTER"), (0, .class_ 132), (0, u "jdk/internal/util/Preconditions$3"), (3, u "IOOBE_FORMATTER")] 57

def k16m0 : Method := { name := "<init>", desc := "()V", sig := { parameters := [], returnType := none }, accessFlags := 1, code := none }
/-- jdk/internal/util/Preconditions -/
def k16 : Class := { plain "jdk/internal/util/Preconditions" (some 0) with
  accessFlags := 33
  interfaces := #[]
  cf := some (fileOf pool16 24 #[.nestMembers #[55, 131, 125, 114]] #[{ accessFlags := 1, nameIndex := 5, descriptorIndex := 6, attributes := #[] }] 33 2 #[] #[{ accessFlags := 25, nameIndex := 123, descriptorIndex := 124, attributes := #[] }, { accessFlags := 25, nameIndex := 130, descriptorIndex := 124, attributes := #[] }, { accessFlags := 25, nameIndex := 136, descriptorIndex := 124, attributes := #[] }])
  fields := #[{ name := "SIOOBE_FORMATTER", type := (.object "java/util/function/BiFunction"), accessFlags := 25, slot := 0, constantValue := 0 }, { name := "AIOOBE_FORMATTER", type := (.object "java/util/function/BiFunction"), accessFlags := 25, slot := 1, constantValue := 0 }, { name := "IOOBE_FORMATTER", type := (.object "java/util/function/BiFunction"), accessFlags := 25, slot := 2, constantValue := 0 }]
  methods := #[k16m0]
  instanceTypes := #[]
  staticTypes := #[(.object "java/util/function/BiFunction"), (.object "java/util/function/BiFunction"), (.object "java/util/function/BiFunction")]
  resolved := Array.replicate 194 none
  statics := some 1 }

def pool17 : Array CpInfo := pool [(9, u "<init>"), (6, .class_ 18), (1, u "java/lang/Object"), (0, u "()V"), (1, .class_ 23), (1, u "jdk/internal/util/ArraysSupport"), (0, u "LOG2_ARRAY_LONG_INDEX_SCALE"), (0, u "I"), (2, u "U"), (0, u "Ljdk/internal/misc/Unsafe;"), (8, u "BIG_ENDIAN"), (0, u "Z"), (8, u "LOG2_BYTE_BIT_SIZE"), (4, u "LOG2_ARRAY_INT_INDEX_SCALE"), (54, u "JLA"), (0, u "Ljdk/internal/access/JavaLangAccess;"), (11, u "LOG2_ARRAY_BOOLEAN_INDEX_SCALE"), (9, u "LOG2_ARRAY_BYTE_INDEX_SCALE"), (5, u "LOG2_ARRAY_CHAR_INDEX_SCALE"), (5, u "LOG2_ARRAY_SHORT_INDEX_SCALE"), (18, u "LOG2_ARRAY_FLOAT_INDEX_SCALE"), (24, u "LOG2_ARRAY_DOUBLE_INDEX_SCALE"), (89, u "T_BOOLEAN"), (2, u "T_CHAR"), (1, u "T_FLOAT"), (1, u "T_DOUBLE"), (1, u "T_BYTE"), (1, u "T_SHORT"), (1, u "T_INT"), (1, u "T_LONG"), (1, u "SOFT_MAX_ARRAY_LENGTH")] 83

def k17m0 : Method := { name := "<init>", desc := "()V", sig := { parameters := [], returnType := none }, accessFlags := 2, code := none }
/-- jdk/internal/util/ArraysSupport -/
def k17 : Class := { plain "jdk/internal/util/ArraysSupport" (some 0) with
  accessFlags := 33
  interfaces := #[]
  cf := some (fileOf pool17 21 #[] #[{ accessFlags := 2, nameIndex := 9, descriptorIndex := 19, attributes := #[] }] 33 16 #[] #[{ accessFlags := 24, nameIndex := 28, descriptorIndex := 29, attributes := #[] }, { accessFlags := 26, nameIndex := 38, descriptorIndex := 39, attributes := #[] }, { accessFlags := 25, nameIndex := 121, descriptorIndex := 25, attributes := #[] }, { accessFlags := 25, nameIndex := 131, descriptorIndex := 25, attributes := #[] }, { accessFlags := 25, nameIndex := 137, descriptorIndex := 25, attributes := #[] }, { accessFlags := 25, nameIndex := 143, descriptorIndex := 25, attributes := #[] }, { accessFlags := 25, nameIndex := 53, descriptorIndex := 25, attributes := #[] }, { accessFlags := 25, nameIndex := 24, descriptorIndex := 25, attributes := #[] }, { accessFlags := 25, nameIndex := 162, descriptorIndex := 25, attributes := #[] }, { accessFlags := 25, nameIndex := 187, descriptorIndex := 25, attributes := #[] }, { accessFlags := 26, nameIndex := 48, descriptorIndex := 25, attributes := #[] }, { accessFlags := 25, nameIndex := 277, descriptorIndex := 25, attributes := #[] }, { accessFlags := 25, nameIndex := 280, descriptorIndex := 25, attributes := #[] }, { accessFlags := 25, nameIndex := 282, descriptorIndex := 25, attributes := #[] }, { accessFlags := 25, nameIndex := 284, descriptorIndex := 25, attributes := #[] }, { accessFlags := 25, nameIndex := 286, descriptorIndex := 25, attributes := #[] }, { accessFlags := 25, nameIndex := 288, descriptorIndex := 25, attributes := #[] }, { accessFlags := 25, nameIndex := 290, descriptorIndex := 25, attributes := #[] }, { accessFlags := 25, nameIndex := 292, descriptorIndex := 25, attributes := #[] }, { accessFlags := 26, nameIndex := 108, descriptorIndex := 109, attributes := #[] }, { accessFlags := 25, nameIndex := 294, descriptorIndex := 25, attributes := #[] }])
  fields := #[{ name := "U", type := (.object "jdk/internal/misc/Unsafe"), accessFlags := 24, slot := 0, constantValue := 0 }, { name := "BIG_ENDIAN", type := .boolean, accessFlags := 26, slot := 1, constantValue := 0 }, { name := "LOG2_ARRAY_BOOLEAN_INDEX_SCALE", type := .int, accessFlags := 25, slot := 2, constantValue := 0 }, { name := "LOG2_ARRAY_BYTE_INDEX_SCALE", type := .int, accessFlags := 25, slot := 3, constantValue := 0 }, { name := "LOG2_ARRAY_CHAR_INDEX_SCALE", type := .int, accessFlags := 25, slot := 4, constantValue := 0 }, { name := "LOG2_ARRAY_SHORT_INDEX_SCALE", type := .int, accessFlags := 25, slot := 5, constantValue := 0 }, { name := "LOG2_ARRAY_INT_INDEX_SCALE", type := .int, accessFlags := 25, slot := 6, constantValue := 0 }, { name := "LOG2_ARRAY_LONG_INDEX_SCALE", type := .int, accessFlags := 25, slot := 7, constantValue := 0 }, { name := "LOG2_ARRAY_FLOAT_INDEX_SCALE", type := .int, accessFlags := 25, slot := 8, constantValue := 0 }, { name := "LOG2_ARRAY_DOUBLE_INDEX_SCALE", type := .int, accessFlags := 25, slot := 9, constantValue := 0 }, { name := "LOG2_BYTE_BIT_SIZE", type := .int, accessFlags := 26, slot := 10, constantValue := 0 }, { name := "T_BOOLEAN", type := .int, accessFlags := 25, slot := 11, constantValue := 0 }, { name := "T_CHAR", type := .int, accessFlags := 25, slot := 12, constantValue := 0 }, { name := "T_FLOAT", type := .int, accessFlags := 25, slot := 13, constantValue := 0 }, { name := "T_DOUBLE", type := .int, accessFlags := 25, slot := 14, constantValue := 0 }, { name := "T_BYTE", type := .int, accessFlags := 25, slot := 15, constantValue := 0 }, { name := "T_SHORT", type := .int, accessFlags := 25, slot := 16, constantValue := 0 }, { name := "T_INT", type := .int, accessFlags := 25, slot := 17, constantValue := 0 }, { name := "T_LONG", type := .int, accessFlags := 25, slot := 18, constantValue := 0 }, { name := "JLA", type := (.object "jdk/internal/access/JavaLangAccess"), accessFlags := 26, slot := 19, constantValue := 0 }, { name := "SOFT_MAX_ARRAY_LENGTH", type := .int, accessFlags := 25, slot := 20, constantValue := 0 }]
  methods := #[k17m0]
  instanceTypes := #[]
  staticTypes := #[(.object "jdk/internal/misc/Unsafe"), .boolean, .int, .int, .int, .int, .int, .int, .int, .int, .int, .int, .int, .int, .int, .int, .int, .int, .int, (.object "jdk/internal/access/JavaLangAccess"), .int]
  resolved := Array.replicate 378 none
  statics := none }

def pool18 : Array CpInfo := pool [(1, u "java/lang/Cloneable"), (0, .class_ 1), (0, u "java/lang/Object"), (0, .class_ 3)] 3

/-- java/lang/Cloneable -/
def k18 : Class := { plain "java/lang/Cloneable" (some 0) with
  accessFlags := 1537
  interfaces := #[]
  cf := some (fileOf pool18 2 #[] #[] 1537 4 #[] #[])
  fields := #[]
  methods := #[]
  instanceTypes := #[]
  staticTypes := #[]
  resolved := Array.replicate 8 none
  statics := none }

/-- the primitive byte -/
def k19 : Class := { plain "byte" none with kind := .primitive 'B', accessFlags := 0x411 }
/-- [B -/
def k20 : Class := { plain "[B" (some 0) with kind := .array 19 .byte, interfaces := #[18, 4], accessFlags := 1041 }

/-- the primitive char -/
def k21 : Class := { plain "char" none with kind := .primitive 'C', accessFlags := 0x411 }
/-- [C -/
def k22 : Class := { plain "[C" (some 0) with kind := .array 21 .char, interfaces := #[18, 4], accessFlags := 1041 }

/-- the primitive int -/
def k23 : Class := { plain "int" none with kind := .primitive 'I', accessFlags := 0x411 }
/-- [I -/
def k24 : Class := { plain "[I" (some 0) with kind := .array 23 .int, interfaces := #[18, 4], accessFlags := 1041 }

def heap : Heap := #[{ cls := 9, slots := #[.long 0, .int 1, .null, .int 0, .null, .int 0, .int 0], vm := .statics 9 },
  { cls := 16, slots := #[.null, .null, .null], vm := .statics 16 }]
def classes : Array Class := #[k0, k1, k2, k3, k4, k5, k6, k7, k8, k9, k10, k11, k12, k13, k14, k15, k16, k17, k18, k19, k20, k21, k22, k23, k24]
def interned : List (Array UInt16 × Addr) := []
def slotsUsed : Nat := 10
def theMethod : MethodId := ⟨1, 1⟩
def args0 : Array Value := #[.int 0, .int 7, .int 3, .int 4, .int 6]
def aboutOver (below : List Frame) : State where
  vm := { classes := classes, interned := interned.toArray }
  heap := heap
  slotsUsed := slotsUsed
  threads := #[{ frames := .invoking theMethod args0 :: below }]
def below0 : List Frame := [.native { method := ⟨0, 0⟩, args := #[] }]
def about1 : State := aboutOver below0
def p0 : Program := .bare "" "" ""
def e0 : Env := launch0.env 0 0 0
theorem w_frames : about1.frames = Frame.invoking theMethod args0 :: below0 := rfl
set_option maxRecDepth 65536 in
theorem w_args : argsFit about1.vm theMethod args0 = true := by decide +kernel
set_option maxRecDepth 65536 in
theorem w_heap : heapFits about1 = true := by decide +kernel
set_option maxRecDepth 65536 in
theorem w_runnable : about1.curStatus? = some .runnable := by decide +kernel
set_option maxRecDepth 65536 in
theorem w_alone : about1.alone = true := by decide +kernel
set_option maxRecDepth 65536 in
theorem w_named : about1.methodNamed? x = some theMethod := by decide +kernel
set_option maxRecDepth 65536 in
theorem w_hears : about1.hears theMethod below0 = true := by decide +kernel
set_option maxRecDepth 65536 in
theorem w_ripe : about1.ripe theMethod args0 below0 = true := by decide +kernel
theorem w_running : about1.status = .running := rfl
set_option maxRecDepth 65536 in
theorem w_room : about1.hasRoom e0.platform room_1 = true :=
  launch0.hasRoom_least _ room_1 (by decide +kernel) (by decide +kernel) (by decide +kernel) (by decide +kernel) (by decide +kernel) (by decide +kernel)
theorem allAtoms_all (ts : List Jvm.Cond) (a : Array Jvm.Value) (st : Jvm.State) : (allAtoms ts).before a st = ts.all (fun c => c.before a st) := by
  induction ts with
  | nil => rfl
  | cons c t ih =>
    show (Jvm.Cond.and c (allAtoms t)).before a st = _
    rw [Jvm.Cond.before_and, ih, List.all_cons]
def words1 : List Jvm.Cond := Jvm.Cond.code x code maxLocals ret :: tables_1
/-- a 'code' word, met by the world's own term for the bytes: nothing is compared byte by byte -/
theorem code_word {y : MethodName} {bytes : ByteArray} {mx : Nat} {rt : Option FieldType} {a : Array Value} {s : State} {m : MethodId} {meth : Method} {c : Code} (h1 : s.methodNamed? y = some m) (h2 : s.vm.method? m = some meth) (h3 : meth.code = some c) (h4 : c.code = bytes)
    (h5 : (c.maxLocals == mx && c.exceptionTable.isEmpty && decide (c.maxStack ≤ mostOperands) && decide (meth.sig.returnType = rt) && !meth.locks && decide (parseMethodDescriptor y.desc = some meth.sig)) = true) : (Jvm.Cond.code y bytes mx rt).before a s = true := by
  simp only [Bool.and_eq_true, beq_iff_eq, Bool.not_eq_true', decide_eq_true_eq] at h5
  obtain ⟨⟨⟨⟨⟨g1, g2⟩, g3⟩, g4⟩, g5⟩, g6⟩ := h5
  simp [Cond.before, Cond.holds, Cond.value, h1, h2, h3, h4, g1, g2, g3, g4, g5, g6]
def isCode : Jvm.Cond → Bool
  | .code _ _ _ _ => true
  | _ => false
theorem all_split {L : List Jvm.Cond} {P : Jvm.Cond → Bool} (h1 : L.all (fun c => isCode c || P c) = true) (h2 : ∀ c ∈ L.filter isCode, P c = true) : L.all P = true := by
  refine List.all_eq_true.mpr fun c hc => ?_
  have h := List.all_eq_true.mp h1 c hc
  rcases Bool.eq_false_or_eq_true (isCode c) with hi | hi
  · exact h2 c (List.mem_filter.mpr ⟨hc, hi⟩)
  · simpa [hi] using h
set_option maxRecDepth 65536 in
theorem w_c0 : (Jvm.Cond.code x code maxLocals ret).before args0 about1 = true := code_word (m := ⟨1, 1⟩) (meth := k1m1) (c := k1c1) (by decide +kernel) rfl rfl rfl (by decide +kernel)
set_option maxRecDepth 65536 in
theorem w_c1 : (Jvm.Cond.code ({ cls := "java/lang/String", name := "<init>", desc := "([C)V" } : Jvm.MethodName) jdk_42_method_3_code (2 : Nat) (Option.none : Option Jvm.ClassFile.FieldType)).before args0 about1 = true := code_word (m := ⟨9, 1⟩) (meth := k9m1) (c := k9c1) (by decide +kernel) rfl rfl rfl (by decide +kernel)
set_option maxRecDepth 65536 in
theorem w_c2 : (Jvm.Cond.code ({ cls := "java/lang/String", name := "<init>", desc := "([CIILjava/lang/Void;)V" } : Jvm.MethodName) jdk_42_method_149_code (6 : Nat) (Option.none : Option Jvm.ClassFile.FieldType)).before args0 about1 = true := code_word (m := ⟨9, 2⟩) (meth := k9m2) (c := k9c2) (by decide +kernel) rfl rfl rfl (by decide +kernel)
set_option maxRecDepth 65536 in
theorem w_c3 : (Jvm.Cond.code ({ cls := "java/lang/Object", name := "<init>", desc := "()V" } : Jvm.MethodName) object_method_1_code (1 : Nat) (Option.none : Option Jvm.ClassFile.FieldType)).before args0 about1 = true := code_word (m := ⟨0, 0⟩) (meth := k0m0) (c := k0c0) (by decide +kernel) rfl rfl rfl (by decide +kernel)
set_option maxRecDepth 65536 in
theorem w_c4 : (Jvm.Cond.code ({ cls := "java/lang/StringUTF16", name := "compress", desc := "([CII)[B" } : Jvm.MethodName) jdk_52_method_16_code (6 : Nat) (Option.some (Jvm.ClassFile.FieldType.array Jvm.ClassFile.FieldType.byte))).before args0 about1 = true := code_word (m := ⟨10, 2⟩) (meth := k10m2) (c := k10c2) (by decide +kernel) rfl rfl rfl (by decide +kernel)
set_option maxRecDepth 65536 in
theorem w_c5 : (Jvm.Cond.code ({ cls := "java/lang/StringUTF16", name := "compress", desc := "([CI[BII)I" } : Jvm.MethodName) jdk_52_method_21_code (7 : Nat) (Option.some Jvm.ClassFile.FieldType.int)).before args0 about1 = true := code_word (m := ⟨10, 3⟩) (meth := k10m3) (c := k10c3) (by decide +kernel) rfl rfl rfl (by decide +kernel)
set_option maxRecDepth 65536 in
theorem w_c6 : (Jvm.Cond.code ({ cls := "java/lang/StringUTF16", name := "coderFromArrayLen", desc := "([BI)B" } : Jvm.MethodName) jdk_52_method_15_code (2 : Nat) (Option.some Jvm.ClassFile.FieldType.byte)).before args0 about1 = true := code_word (m := ⟨10, 1⟩) (meth := k10m1) (c := k10c1) (by decide +kernel) rfl rfl rfl (by decide +kernel)
set_option maxRecDepth 65536 in
theorem w_c7 : (Jvm.Cond.code ({ cls := "com/example/hoconut/hoconut/value/Origin", name := "<init>", desc := "(Ljava/lang/String;I)V" } : Jvm.MethodName) prog_89_method_1_code (3 : Nat) (Option.none : Option Jvm.ClassFile.FieldType)).before args0 about1 = true := code_word (m := ⟨3, 0⟩) (meth := k3m0) (c := k3c0) (by decide +kernel) rfl rfl rfl (by decide +kernel)
set_option maxRecDepth 65536 in
theorem w_c8 : (Jvm.Cond.code ({ cls := "java/lang/Record", name := "<init>", desc := "()V" } : Jvm.MethodName) jdk_30_method_1_code (1 : Nat) (Option.none : Option Jvm.ClassFile.FieldType)).before args0 about1 = true := code_word (m := ⟨2, 0⟩) (meth := k2m0) (c := k2c0) (by decide +kernel) rfl rfl rfl (by decide +kernel)
set_option maxRecDepth 65536 in
theorem w_c9 : (Jvm.Cond.code ({ cls := "com/example/hoconut/hoconut/value/ConfigBoolean", name := "<init>", desc := "(ZLcom/example/hoconut/hoconut/value/Origin;)V" } : Jvm.MethodName) prog_67_method_1_code (3 : Nat) (Option.none : Option Jvm.ClassFile.FieldType)).before args0 about1 = true := code_word (m := ⟨12, 0⟩) (meth := k12m0) (c := k12c0) (by decide +kernel) rfl rfl rfl (by decide +kernel)
set_option maxRecDepth 65536 in
theorem w_c10 : (Jvm.Cond.code ({ cls := "java/util/Objects", name := "requireNonNull", desc := "(Ljava/lang/Object;Ljava/lang/String;)Ljava/lang/Object;" } : Jvm.MethodName) jdk_31_method_11_code (2 : Nat) (Option.some (Jvm.ClassFile.FieldType.object "java/lang/Object"))).before args0 about1 = true := code_word (m := ⟨13, 1⟩) (meth := k13m1) (c := k13c1) (by decide +kernel) rfl rfl rfl (by decide +kernel)
set_option maxRecDepth 65536 in
theorem w_c11 : (Jvm.Cond.code ({ cls := "com/example/hoconut/hoconut/value/ConfigNull", name := "<init>", desc := "(Lcom/example/hoconut/hoconut/value/Origin;)V" } : Jvm.MethodName) prog_74_method_1_code (2 : Nat) (Option.none : Option Jvm.ClassFile.FieldType)).before args0 about1 = true := code_word (m := ⟨14, 0⟩) (meth := k14m0) (c := k14c0) (by decide +kernel) rfl rfl rfl (by decide +kernel)
set_option maxRecDepth 65536 in
theorem w_c12 : (Jvm.Cond.code ({ cls := "com/example/hoconut/hoconut/value/ConfigBoolean", name := "equals", desc := "(Ljava/lang/Object;)Z" } : Jvm.MethodName) prog_67_method_6_code (3 : Nat) (Option.some Jvm.ClassFile.FieldType.boolean)).before args0 about1 = true := code_word (m := ⟨12, 1⟩) (meth := k12m1) (c := k12c1) (by decide +kernel) rfl rfl rfl (by decide +kernel)
def codes1 : List Jvm.Cond := [Jvm.Cond.code x code maxLocals ret, Jvm.Cond.code ({ cls := "java/lang/String", name := "<init>", desc := "([C)V" } : Jvm.MethodName) jdk_42_method_3_code (2 : Nat) (Option.none : Option Jvm.ClassFile.FieldType), Jvm.Cond.code ({ cls := "java/lang/String", name := "<init>", desc := "([CIILjava/lang/Void;)V" } : Jvm.MethodName) jdk_42_method_149_code (6 : Nat) (Option.none : Option Jvm.ClassFile.FieldType), Jvm.Cond.code ({ cls := "java/lang/Object", name := "<init>", desc := "()V" } : Jvm.MethodName) object_method_1_code (1 : Nat) (Option.none : Option Jvm.ClassFile.FieldType), Jvm.Cond.code ({ cls := "java/lang/StringUTF16", name := "compress", desc := "([CII)[B" } : Jvm.MethodName) jdk_52_method_16_code (6 : Nat) (Option.some (Jvm.ClassFile.FieldType.array Jvm.ClassFile.FieldType.byte)), Jvm.Cond.code ({ cls := "java/lang/StringUTF16", name := "compress", desc := "([CI[BII)I" } : Jvm.MethodName) jdk_52_method_21_code (7 : Nat) (Option.some Jvm.ClassFile.FieldType.int), Jvm.Cond.code ({ cls := "java/lang/StringUTF16", name := "coderFromArrayLen", desc := "([BI)B" } : Jvm.MethodName) jdk_52_method_15_code (2 : Nat) (Option.some Jvm.ClassFile.FieldType.byte), Jvm.Cond.code ({ cls := "com/example/hoconut/hoconut/value/Origin", name := "<init>", desc := "(Ljava/lang/String;I)V" } : Jvm.MethodName) prog_89_method_1_code (3 : Nat) (Option.none : Option Jvm.ClassFile.FieldType), Jvm.Cond.code ({ cls := "java/lang/Record", name := "<init>", desc := "()V" } : Jvm.MethodName) jdk_30_method_1_code (1 : Nat) (Option.none : Option Jvm.ClassFile.FieldType), Jvm.Cond.code ({ cls := "com/example/hoconut/hoconut/value/ConfigBoolean", name := "<init>", desc := "(ZLcom/example/hoconut/hoconut/value/Origin;)V" } : Jvm.MethodName) prog_67_method_1_code (3 : Nat) (Option.none : Option Jvm.ClassFile.FieldType), Jvm.Cond.code ({ cls := "java/util/Objects", name := "requireNonNull", desc := "(Ljava/lang/Object;Ljava/lang/String;)Ljava/lang/Object;" } : Jvm.MethodName) jdk_31_method_11_code (2 : Nat) (Option.some (Jvm.ClassFile.FieldType.object "java/lang/Object")), Jvm.Cond.code ({ cls := "com/example/hoconut/hoconut/value/ConfigNull", name := "<init>", desc := "(Lcom/example/hoconut/hoconut/value/Origin;)V" } : Jvm.MethodName) prog_74_method_1_code (2 : Nat) (Option.none : Option Jvm.ClassFile.FieldType), Jvm.Cond.code ({ cls := "com/example/hoconut/hoconut/value/ConfigBoolean", name := "equals", desc := "(Ljava/lang/Object;)Z" } : Jvm.MethodName) prog_67_method_6_code (3 : Nat) (Option.some Jvm.ClassFile.FieldType.boolean)]
set_option maxRecDepth 65536 in
theorem codes_eq : words1.filter isCode = codes1 := rfl
theorem w_codes : ∀ c ∈ words1.filter isCode, c.before args0 about1 = true := by
  rw [codes_eq]
  intro c hc
  simp only [codes1, List.mem_cons, List.not_mem_nil, or_false] at hc
  rcases hc with rfl | rfl | rfl | rfl | rfl | rfl | rfl | rfl | rfl | rfl | rfl | rfl | rfl
  · exact w_c0
  · exact w_c1
  · exact w_c2
  · exact w_c3
  · exact w_c4
  · exact w_c5
  · exact w_c6
  · exact w_c7
  · exact w_c8
  · exact w_c9
  · exact w_c10
  · exact w_c11
  · exact w_c12
set_option maxRecDepth 65536 in
theorem w_t1 : (words1.take 24).all (fun c => isCode c || c.before args0 about1) = true := by decide +kernel
set_option maxRecDepth 65536 in
theorem w_t2 : ((words1.drop 24).take 24).all (fun c => isCode c || c.before args0 about1) = true := by decide +kernel
set_option maxRecDepth 65536 in
theorem w_t3 : (((words1.drop 24).drop 24).take 24).all (fun c => isCode c || c.before args0 about1) = true := by decide +kernel
set_option maxRecDepth 65536 in
theorem w_t4 : (((words1.drop 24).drop 24).drop 24).all (fun c => isCode c || c.before args0 about1) = true := by decide +kernel
theorem w_tables : (allAtoms (Jvm.Cond.code x code maxLocals ret :: tables_1)).before args0 about1 = true := by
  rw [allAtoms_all]
  show words1.all (fun c => c.before args0 about1) = true
  refine all_split ?_ w_codes
  rw [← List.take_append_drop 24 words1, List.all_append, w_t1, ← List.take_append_drop 24 (words1.drop 24), List.all_append, w_t2, ← List.take_append_drop 24 ((words1.drop 24).drop 24), List.all_append, w_t3, w_t4]
  rfl
set_option maxRecDepth 65536 in
theorem w_rest : rest_1_c.before args0 about1 = true := by decide +kernel
set_option maxRecDepth 65536 in
theorem w_case : (Jvm.Cond.and given_1 narrow_1).before args0 about1 = true := by decide +kernel
theorem w_applies : (headSpec (Jvm.Cond.code x code maxLocals ret :: tables_1) room_1).applies x e0.platform about1 = true :=
  (Spec.applies_iff w_frames).mpr ⟨w_running, w_runnable, w_alone, w_named, w_hears, w_ripe, w_room, w_tables⟩
theorem atStart : AtStart classFile x code maxLocals ret World_1 tables_1 room_1 Calls_1 rest_1 Pre_1 launch0 p0 e0 about1 theMethod args0 below0 :=
  ⟨lists_1, trivial, launch0.admits_env _ _ _, launch0.least_env, fairChoices_fair.cas, fairChoices_fair.clock, w_frames, w_args, w_heap, w_applies, trivial, w_rest, w_case⟩
end start1
theorem witness_1 : WitnessClaimed_1 := ⟨start1.p0, start1.e0, start1.about1, start1.theMethod, start1.args0, start1.below0, start1.atStart⟩
end Jvm.Pilot.@@N@@
